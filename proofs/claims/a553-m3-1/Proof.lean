import JvmDerived
import JvmDerived.Pilot.@@N@@Statement
import JvmDerived.Pilot.@@N@@Code
set_option linter.unusedVariables false
set_option linter.unusedSimpArgs false
namespace Jvm.RoadKit
open Sem ClassFile Op Lib Jvm.Stand Jvm.Free Jvm.LawKit
section New
variable {p : Program} {l : Launch} {e : Env} {R : Room} {s : State} {m : MethodId} {args : Array Value} {below : List Frame} {meth : Method} {c : Code} {T : State} {locs : List Loc} {cells slots : Nat}
theorem retI (X : Stand p l e R s m args below meth c T locs cells slots) (hx : p.tables.exec = Jvm.exec) {pc : Nat} {Ls : Array Slot} {z : Int32} {rest : List Value} (hret : meth.sig.returnType = some .int) (hd : decode c.code pc = .ok (.ireturn, 1)) {fs : List Frame}
    (hl : ∀ (f : JFrame) (acts : List Action), f.method = m → f.locked = none → f.entered = [] → (doReturn e (T.setTop f) acts (some (.int z))).1 = T.setFrames fs) : Steps p.tables e below (T.setTop (mkF m pc Ls (.int z :: rest))) (T.setFrames fs) := by
  have hm' : T.vm.method? m = some meth := X.method'
  have hn : narrow .int (.int z) = .int z := rfl
  show Steps p.tables e below (T.setTop { method := m, pc := pc, locals := Ls, stack := _ :: rest, locked := none }) _
  jvm_step X.here [X.here.top, hx, hd, hm', hret, hn]
  first | (intro acts; rw [hl _ acts rfl rfl rfl]) | rw [hl _ _ rfl rfl rfl]
  exact Steps.refl _
theorem own_un {L' : List Loc} {k' n' : Nat} (X : Stand p l e R s m args below meth c T locs cells slots) (h1 : locs = L') (h2 : cells = k') (h3 : slots = n') : Stand p l e R s m args below meth c T L' k' n' := by
  subst h1 h2 h3
  exact X
end New
end Jvm.RoadKit
/- laws to paste: Road.codOf (cut by pick.py; bodies as the Statement names them) -/
namespace Jvm.Pilot.@@N@@
namespace StrChars
open Jvm Sem ClassFile Op Lib Jvm.Stand Jvm.Free.XT Jvm.Free.ALB Jvm.Free.JM Jvm.Free
open Jvm.Lib.Cold (StaticIs)
/-- the byte that i2b leaves of a char -/
def lo8 (x : Int32) : Int32 := x.toInt8.toInt32
end StrChars
namespace StrChars
open Jvm Sem ClassFile Op Lib Jvm.Stand Jvm.Free.XT Jvm.Free.ALB Jvm.Free.JM Jvm.Free
open Jvm.Lib.Cold (StaticIs)
def hi8 (x : Int32) : Int32 := lo8 (x >>> ((8 : Int32) &&& 31))
end StrChars
namespace StrChars.Road
open Jvm Sem ClassFile Op Lib Jvm.Stand Jvm.Free Jvm.Free.XT
open Jvm.Lib.Cold (StaticIs)
/-- the bytes of the chars cs, low before high -/
def wideBytes : List Int32 → List Value
  | [] => []
  | c :: cs => .int (lo8 c) :: .int (hi8 c) :: wideBytes cs
/-- an array of N2 bytes vs codes the chars cs by the coder cd -/
def CodA (cs : List Int32) (cd N2 : Int32) (vs : List Value) : Prop := (cd = 0 ∧ N2 = Int32.ofNat cs.length ∧ vs = (cs.map fun c => Value.int (lo8 c)) ∧ ∀ c ∈ cs, ¬ 255 < c) ∨ (cd = 1 ∧ N2 = Int32.ofNat (2 * cs.length) ∧ vs = wideBytes cs ∧ ∃ c ∈ cs, 255 < c)
end StrChars.Road
namespace StrChars.Road
open Jvm Sem ClassFile Op Lib Jvm.Stand Jvm.Free Jvm.Free.XT
open Jvm.Lib.Cold (StaticIs)
/-- what backV says of its String, as the contracts of this text ask it: cs's low bytes, coder 0 -/
theorem codOf {cs : List Int32} {n : Nat} (hn : cs.length = n) (hb : ∀ c ∈ cs, ¬ 255 < c) : CodA cs 0 (Int32.ofNat n) ((cs.map lo8).map Value.int) := Or.inl ⟨rfl, by rw [hn], by simp [List.map_map, Function.comp_def], hb⟩
end StrChars.Road
end Jvm.Pilot.@@N@@

namespace Jvm.Pilot.@@N@@
open Jvm Jvm.ClassFile Sem Op Lib Jvm.Free Jvm.Stand Jvm.LawKit Jvm.RoadKit Bundle Jvm.Pilot.@@N@@.Jvm.D
def own_PP (b : ByteArray) : Option (Nat × Instr × Nat) → Prop
  | none => True
  | some (p, i, n) => decode b p = .ok (i, n)
theorem own_dd {b : ByteArray} {L : List (Nat × Instr × Nat)} (h : (L.all fun q => decide (decode b q.1 = .ok (q.2.1, q.2.2))) = true) (k : Nat) : own_PP b L[k]? := by
  cases e : L[k]? with
  | none => trivial
  | some q =>
    have r : decide (decode b q.1 = .ok (q.2.1, q.2.2)) = true := List.all_eq_true.mp h q (List.mem_of_getElem? e)
    exact of_decide_eq_true (p := decode b q.1 = .ok (q.2.1, q.2.2)) r
set_option maxRecDepth 65536
set_option maxHeartbeats 40000000
section Short
variable {p : Program} {l : Launch} {e : Env} {R : Room} {s : State} {m : MethodId} {args : Array Value} {below : List Frame} {meth : Method} {c : Code} {T t : State} {locs : List Loc} {cells slots : Nat} {b : ByteArray} {pc : Nat} {L : Array Slot} {S : List Value}
abbrev own_W (a0 : Array Value) (Z : State) : Prop := ∀ d ∈ tables_1, d.before a0 Z = true
theorem own_q {a0 : Array Value} {Z : State} (hw : own_W a0 Z) (i : Nat) {d : Jvm.Cond} (q : tables_1[i]? = some d) : d.before a0 Z = true := hw _ (List.mem_of_getElem? q)
abbrev own_H (p : Program) (c : Code) (b : ByteArray) : Prop := p.tables.exec = Jvm.exec ∧ c.code = b
abbrev own_rm (x y z u : Nat) : Room := { frames := x, cells := y, slots := z, locals := u }
abbrev own_M (l : Launch) (y : MethodName) (b : ByteArray) (n : Nat) (rt : Option FieldType) (R : Room) (Z : State) (h0 : Heap) (A : Array Value) (Q : Option Value → Heap → List Loc → Prop) : Prop := MetFree l y (head1 [Jvm.Cond.code y b n rt] R) (fun a U => a = A ∧ Z.Warmed39 U.vm ∧ U.heap = h0) (fun _ _ _ _ _ => True) (fun _ U o U' => ∃ v L, o = .returned v ∧ Q v U'.heap L ∧ FrameEnd U o U' L R.cells R.slots)
abbrev own_Go (p : Program) (e : Env) (below : List Frame) (f0 T : State) (m : MethodId) (pc : Nat) (L : Array Slot) (S : List Value) : Prop := ∀ t, Steps p.tables e below (T.setTop (mkF m pc L S)) t → Steps p.tables e below f0 t
abbrev own_E (p : Program) (e : Env) (below : List Frame) (f0 s : State) (R : Room) (Q : Option Value → Heap → List Loc → Prop) : Prop := ∃ s₂ o, Steps p.tables e below f0 s₂ ∧ s₂.status = .running ∧ Ended s₂ below o ∧ ∃ v L, o = .returned v ∧ Q v s₂.heap L ∧ FrameEnd s o s₂ L R.cells R.slots
theorem own_al : ∀ (A : List Value) (acc : Array Slot), A.all (fun v => v.category == 1) = true → List.foldl (fun acc v => if v.category = 2 then (acc.push (.val v)).push .second else acc.push (.val v)) acc A = acc ++ (A.map Slot.val).toArray
  | [], acc, _ => by simp
  | v :: r, acc, h => by
    rw [List.all_cons, Bool.and_eq_true, beq_iff_eq] at h
    rw [List.foldl_cons, if_neg (by omega), own_al r _ h.2]
    simp
theorem own_ef (A : List Value) (n : Nat) (hA : A.all (fun v => v.category == 1) = true) (m : MethodId) : entryFrame m A.toArray n = mkF m 0 ((A.map Slot.val ++ List.replicate (n - A.length) Slot.unset).toArray) [] := by
  have e : argsToLocals A.toArray n = (A.map Slot.val ++ List.replicate (n - A.length) Slot.unset).toArray := by
    have := own_al A #[] hA
    simp only [argsToLocals, List.foldl_toArray', this]
    simp
  simp [entryFrame, mkF, e]
theorem own_body {y : MethodName} {n : Nat} {rt : Option FieldType} {Z : State} {h0 : Heap} {A : List Value} {L0 : Array Slot} {Q : Option Value → Heap → List Loc → Prop} (hp : plainFor y = true) (hA : A.all (fun v => v.category == 1) = true) (hL : (A.map Slot.val ++ List.replicate (n - A.length) Slot.unset).toArray = L0)
    (B : ∀ (p : Program) (e : Env) (s : State) (m : MethodId) (below : List Frame) (meth : Method) (c : Code) (s₁ f0 : State), BodyLoose p l y (head1 [Jvm.Cond.code y b n rt] R) b n rt e s m A.toArray below meth c s₁ → p.tables.exec = Jvm.exec → own_H p c b → c.maxLocals = n → Z.Warmed39 s.vm → s.vm.findClass y.cls = some m.cls → Stand p l e R s m A.toArray below meth c s₁ [] 0 0 → s₁.heap = h0 → own_Go p e below f0 s₁ m 0 L0 [] → own_E p e below f0 s R Q) : own_M l y b n rt R Z h0 A.toArray Q := by
  refine MetFree.of_bodySF hp hisR ?_
  intro p e s m args below meth c s₁ Bd hml hP hK
  obtain ⟨rfl, hZ, hh⟩ := hP
  exact B p e s m below meth c s₁ _ Bd Bd.exec ⟨Bd.exec, Bd.bytes⟩ hml hZ (findClass_of_methodNamed Bd.named) (Stand.of_body Bd) (by rw [← hh, Bd.state]; rfl) (fun t k => castTop ((own_ef A n hA m).trans (by rw [hL])) k)
theorem own_oV {f0 : State} {h : Heap} {Q : Option Value → Heap → List Loc → Prop} (X : Stand p l e R s m args below meth c T locs cells slots) (H : own_H p c b) (hlk : meth.locks = false) (hret : meth.sig.returnType = none) (w : own_Go p e below f0 T m pc L []) (hd : decode b pc = .ok (.return_, 1)) (eT : T.heap = h) (hc : cells ≤ R.cells) (hs : slots ≤ R.slots) (q : Q none h locs) : own_E p e below f0 s R Q := by
  obtain ⟨fs, hr, hrun, hended, hW, hsame⟩ := X.leave (v := none) (fun _ => rfl) hlk
  refine ⟨_, _, w _ ?_, hrun, hended, _, _, rfl, ?_, ⟨_, rfl⟩, hW, hsame.mono hc hs⟩
  · exact X.returnOut H.1 hret (hb H.2 hd) hr
  · show Q none T.heap _
    rw [eT]
    exact q
theorem own_oI {f0 : State} {h : Heap} {Q : Option Value → Heap → List Loc → Prop} {z : Int32} (X : Stand p l e R s m args below meth c T locs cells slots) (H : own_H p c b) (hlk : meth.locks = false) (hret : meth.sig.returnType = some .int) (w : own_Go p e below f0 T m pc L (.int z :: S)) (hd : decode b pc = .ok (.ireturn, 1)) (eT : T.heap = h) (hc : cells ≤ R.cells) (hs : slots ≤ R.slots) (q : Q (some (.int z)) h locs) : own_E p e below f0 s R Q := by
  obtain ⟨fs, hr, hrun, hended, hW, hsame⟩ := X.leave (v := some (.int z)) (fun h => by rw [hret] at h; cases h) hlk
  refine ⟨_, _, w _ ?_, hrun, hended, _, _, rfl, ?_, ⟨_, rfl⟩, hW, hsame.mono hc hs⟩
  · exact retI X H.1 hret (hb H.2 hd) hr
  · show Q _ T.heap _
    rw [eT]
    exact q
theorem own_oN {f0 : State} {h : Heap} {Q : Option Value → Heap → List Loc → Prop} {z : Int32} {ty : FieldType} (X : Stand p l e R s m args below meth c T locs cells slots) (H : own_H p c b) (hlk : meth.locks = false) (hret : meth.sig.returnType = some ty) (ht : ty = .boolean ∨ ty = .byte ∨ ty = .char ∨ ty = .short) (w : own_Go p e below f0 T m pc L (.int z :: S)) (hd : decode b pc = .ok (.ireturn, 1)) (eT : T.heap = h) (hc : cells ≤ R.cells) (hs : slots ≤ R.slots) (q : Q (some (.int (nar ty z))) h locs) : own_E p e below f0 s R Q := by
  obtain ⟨fs, hr, hrun, hended, hW, hsame⟩ := X.leave (v := some (.int (nar ty z))) (fun h => by rw [hret] at h; cases h) hlk
  refine ⟨_, _, w _ ?_, hrun, hended, _, _, rfl, ?_, ⟨_, rfl⟩, hW, hsame.mono hc hs⟩
  · exact retN X H.1 hret ht (hb H.2 hd) hr
  · show Q _ T.heap _
    rw [eT]
    exact q
theorem own_oR {f0 : State} {h : Heap} {Q : Option Value → Heap → List Loc → Prop} {z : Addr} {ty : FieldType} (X : Stand p l e R s m args below meth c T locs cells slots) (H : own_H p c b) (hlk : meth.locks = false) (hret : meth.sig.returnType = some ty) (ht : ty.isReference = true) (w : own_Go p e below f0 T m pc L (.ref z :: S)) (hd : decode b pc = .ok (.areturn, 1)) (eT : T.heap = h) (hc : cells ≤ R.cells) (hs : slots ≤ R.slots) (q : Q (some (.ref z)) h locs) : own_E p e below f0 s R Q := by
  obtain ⟨fs, hr, hrun, hended, hW, hsame⟩ := X.leave (v := some (.ref z)) (fun h => by rw [hret] at h; cases h) hlk
  refine ⟨_, _, w _ ?_, hrun, hended, _, _, rfl, ?_, ⟨_, rfl⟩, hW, hsame.mono hc hs⟩
  · have hm' : T.vm.method? m = some meth := X.method'
    have hd' := hb H.2 hd
    jvm_step X.here [X.here.top, H.1, hd', hm', hret, Value.isRef, ht]
    first | (intro acts; rw [hr _ acts rfl rfl rfl]) | rw [hr _ _ rfl rfl rfl]
    exact Steps.refl _
  · show Q _ T.heap _
    rw [eT]
    exact q
theorem own_cS {Z : State} {h : Heap} {a0 : Array Value} {own : String} {idx : Nat} {y : MethodName} {bytes : ByteArray} {maxL : Nat} {ret : Option FieldType} {rm : Room} {as' : Array Value} {Q : Option Value → Heap → List Loc → Prop} {ps : List FieldType} {r : Option FieldType} (X : Stand p l e R s m args below meth c T locs cells slots) (H : own_H p c b) (hZ : Z.Warmed39 s.vm) (hown : s.vm.findClass own = some m.cls) {nL : Nat} (hml : c.maxLocals = nL) (hLs : L.size = nL) (M : own_M l y bytes maxL ret rm Z h as' Q)
    (w1 : (Jvm.Cond.methodLink own idx y).before a0 Z = true) (w2 : (Jvm.Cond.static y).before a0 Z = true) (w3 : (Jvm.Cond.initialized y.cls).before a0 Z = true) (w4 : (Jvm.Cond.code y bytes maxL ret).before a0 Z = true) (hp : parseMethodDescriptor y.desc = some ⟨ps, r⟩) (eT : T.heap = h) (hd : decode b pc = .ok (.invokestatic idx, 3)) (argsL rest : List Value) (W : Nat) (ha : argsL.toArray = as' := by rfl) (hl : argsL.length = ps.length := by rfl) (hn : y.cls ≠ "java/lang/invoke/MethodHandle" ∧ y.cls ≠ "java/lang/invoke/VarHandle" := by decide) (hW : (rest.map fun v => v.category).sum = W := by rfl)
    (hf : rm.frames + 1 ≤ R.frames ∧ W + (maxL + 11) + rm.locals ≤ R.locals ∧ cells + rm.cells ≤ R.cells ∧ slots + rm.slots ≤ R.slots := by decide) : ∃ (v : Option Value) (T' : State) (Lc : List Loc), Stand p l e R s m args below meth c T' (locs ++ Lc) (cells + rm.cells) (slots + rm.slots) ∧ Q v T'.heap Lc ∧ ∀ t, Steps p.tables e below (T'.setTop (mkF m (pc + 3) L (v.toList ++ rest))) t → Steps p.tables e below (T.setTop (mkF m pc L (argsL.reverse ++ rest))) t := by
  obtain ⟨v, _, ⟨T', L', k', n'⟩, -, X', ⟨Lc, hQ, hl', hk', hn'⟩, st⟩ := Jvm.LawKit.callS X H.1 (y := y) hown (mvT hZ w1) (mvT hZ w2) (mvT hZ w3) (mvT hZ w4) hn (backOf (W := W) M hZ w4 w3 hf.1 hf.2.1) (g := mkF m pc L (argsL.reverse ++ rest)) rfl (hLs.trans hml.symm) (argsL := argsL) (rest := rest) (lenOf hp hl) rfl (by show 2 * 0 + _ ≤ _; omega) (hb H.2 hd) (fun _ _ => ⟨ha, eT, hf.2.2.1, hf.2.2.2⟩)
  dsimp only [Pt.U, Pt.locs, Pt.cells, Pt.slots] at X' hl' hk' hn' st hQ
  subst hl' hk' hn'
  exact ⟨v, T', Lc, X', hQ, st⟩
theorem own_cI {Z : State} {h : Heap} {a0 : Array Value} {own : String} {idx : Nat} {y : MethodName} {bytes : ByteArray} {maxL : Nat} {rm : Room} {as' : Array Value} {Q : Option Value → Heap → List Loc → Prop} {ps : List FieldType} {r : Option FieldType} (X : Stand p l e R s m args below meth c T locs cells slots) (H : own_H p c b) (hZ : Z.Warmed39 s.vm) (hown : s.vm.findClass own = some m.cls) {nL : Nat} (hml : c.maxLocals = nL) (hLs : L.size = nL) (M : own_M l y bytes maxL none rm Z h as' Q)
    (w1 : (Jvm.Cond.methodLink own idx y).before a0 Z = true) (w2 : (Jvm.Cond.instanceMethod y).before a0 Z = true) (w3 : (Jvm.Cond.initialized y.cls).before a0 Z = true) (w4 : (Jvm.Cond.code y bytes maxL none).before a0 Z = true) (hp : parseMethodDescriptor y.desc = some ⟨ps, r⟩) (eT : T.heap = h) (hd : decode b pc = .ok (.invokespecial idx, 3)) (a : Addr) (argsL rest : List Value) (W : Nat) (ha : (.ref a :: argsL).toArray = as' := by rfl) (hl : argsL.length = ps.length := by rfl) (hn : y.name = "<init>" ∧ y.cls ≠ "java/lang/invoke/MethodHandle" ∧ y.cls ≠ "java/lang/invoke/VarHandle" := by decide) (hW : (rest.map fun v => v.category).sum = W := by rfl)
    (hf : rm.frames + 1 ≤ R.frames ∧ W + (maxL + 11) + rm.locals ≤ R.locals ∧ cells + rm.cells ≤ R.cells ∧ slots + rm.slots ≤ R.slots := by decide) : ∃ (v : Option Value) (T' : State) (Lc : List Loc), Stand p l e R s m args below meth c T' (locs ++ Lc) (cells + rm.cells) (slots + rm.slots) ∧ Q v T'.heap Lc ∧ ∀ t, Steps p.tables e below (T'.setTop (mkF m (pc + 3) L (v.toList ++ rest))) t → Steps p.tables e below (T.setTop (mkF m pc L (argsL.reverse ++ .ref a :: rest))) t := by
  obtain ⟨v, _, ⟨T', L', k', n'⟩, -, X', ⟨Lc, hQ, hl', hk', hn'⟩, st⟩ := X.specialBack H.1 (y := y) hn.1 hown (mvT hZ w1) (mvT hZ w2) (mvT hZ w4) hn.2 (backOf (W := W) M hZ w4 w3 hf.1 hf.2.1) (g := mkF m pc L (argsL.reverse ++ .ref a :: rest)) rfl (hLs.trans hml.symm) (Steps.refl _) (a := a) (argsL := argsL) (rest := rest) (lenOf hp hl) rfl (by show 2 * 0 + _ ≤ _; omega) (hb H.2 hd) (fun _ _ => ⟨ha, eT, hf.2.2.1, hf.2.2.2⟩)
  dsimp only [Pt.U, Pt.locs, Pt.cells, Pt.slots] at X' hl' hk' hn' st hQ
  subst hl' hk' hn'
  exact ⟨v, T', Lc, X', hQ, fun t k => st.trans k⟩
theorem own_sB {Z : State} {h : Heap} {a : Addr} {k : ClassId} {z j x : Int32} {vs vs' : List Value} {dv : Value} {i : Nat} (X : Stand p l e R s m args below meth c T locs cells slots) (H : own_H p c b) (hZ : Z.Warmed39 s.vm) (eT : T.heap = h) (F : Arv Z h a k .byte z vs dv) (hj : ¬ j < 0 ∧ j < z) (hi : j.toNatClampNeg = i) (hl : i < vs.length) (hd : decode b pc = .ok (.bastore, 1)) (hv : vs.set i (.int (nar .byte x)) = vs') : ∃ T' h', Stand p l e R s m args below meth c T' (locs ++ [⟨a, j.toNatClampNeg⟩]) cells slots ∧ T'.heap = h' ∧ Wr h h' a j.toNatClampNeg (.int (nar .byte x)) ∧ Arv Z h' a k .byte z vs' dv ∧ ∀ t, Steps p.tables e below (T'.setTop (mkF m (pc + 1) L S)) t → Steps p.tables e below (T.setTop (mkF m pc L (.int x :: .int j :: .ref a :: S))) t := by
  obtain ⟨cl, Ar, q, Zz, N, Hh, G⟩ := F
  obtain ⟨T', h', X', e', W', st⟩ := stB X H.1 hZ eT Ar (j := j) (x := x) (inb_of Zz hj) (g := mkF m pc L (.int x :: .int j :: .ref a :: S)) rfl rfl (hb H.2 hd)
  subst hv
  exact ⟨T', h', X', e', W', Arv.set Ar q Zz N Hh G (fits_nar_byte _) W' i hi hl, st⟩
theorem own_sC {Z : State} {h : Heap} {a : Addr} {k : ClassId} {z j x : Int32} {vs vs' : List Value} {dv : Value} {i : Nat} (X : Stand p l e R s m args below meth c T locs cells slots) (H : own_H p c b) (hZ : Z.Warmed39 s.vm) (eT : T.heap = h) (F : Arv Z h a k .char z vs dv) (hj : ¬ j < 0 ∧ j < z) (hi : j.toNatClampNeg = i) (hl : i < vs.length) (hd : decode b pc = .ok (.castore, 1)) (hv : vs.set i (.int (nar .char x)) = vs') : ∃ T' h', Stand p l e R s m args below meth c T' (locs ++ [⟨a, j.toNatClampNeg⟩]) cells slots ∧ T'.heap = h' ∧ Wr h h' a j.toNatClampNeg (.int (nar .char x)) ∧ Arv Z h' a k .char z vs' dv ∧ ∀ t, Steps p.tables e below (T'.setTop (mkF m (pc + 1) L S)) t → Steps p.tables e below (T.setTop (mkF m pc L (.int x :: .int j :: .ref a :: S))) t := by
  obtain ⟨cl, Ar, q, Zz, N, Hh, G⟩ := F
  obtain ⟨T', h', X', e', W', st⟩ := stC X H.1 hZ eT Ar (j := j) (x := x) (inb_of Zz hj) (g := mkF m pc L (.int x :: .int j :: .ref a :: S)) rfl rfl (hb H.2 hd)
  subst hv
  exact ⟨T', h', X', e', W', Arv.set Ar q Zz N Hh G (fits_nar_char _) W' i hi hl, st⟩
theorem own_bk {Z : State} {h : Heap} {a0 : Array Value} {y : MethodName} {bytes : ByteArray} {maxL : Nat} {ret : Option FieldType} {rm : Room} {len W : Nat} {as' : Array Value} {Q : Option Value → Heap → List Loc → Prop} (M : own_M l y bytes maxL ret rm Z h as' Q) (hZ : Z.Warmed39 s.vm) (wc : (Jvm.Cond.code y bytes maxL ret).before a0 Z = true) (wz : (Jvm.Cond.initialized y.cls).before a0 Z = true) (hf : rm.frames + 1 ≤ R.frames) (hl : W + (maxL + 11) + rm.locals ≤ R.locals) :
    Back l R p e below s args y len W (fun A a => a = as' ∧ A.U.heap = h ∧ A.cells + rm.cells ≤ R.cells ∧ A.slots + rm.slots ≤ R.slots) (fun A _ v B => ∃ L, Q v B.U.heap L ∧ B.locs = A.locs ++ L ∧ B.cells = A.cells + rm.cells ∧ B.slots = A.slots + rm.slots) := backOf M hZ wc wz hf hl
theorem own_cV {Z : State} {h : Heap} {a0 : Array Value} {own C : String} {idx : Nat} {y : MethodName} {bytes : ByteArray} {maxL : Nat} {ret : Option FieldType} {rm : Room} {as' : Array Value} {Q : Option Value → Heap → List Loc → Prop} {ps : List FieldType} {r : Option FieldType} (X : Stand p l e R s m args below meth c T locs cells slots) (H : own_H p c b) (hZ : Z.Warmed39 s.vm) (hown : s.vm.findClass own = some m.cls) {nL : Nat} (hml : c.maxLocals = nL) (hLs : L.size = nL) (M : own_M l y bytes maxL ret rm Z h as' Q)
    (w1 : (Jvm.Cond.methodLink own idx y).before a0 Z = true) (wd : (Jvm.Cond.declares y).before a0 Z = true) (ws : (Jvm.Cond.selects C y y).before a0 Z = true) (w2 : (Jvm.Cond.instanceMethod y).before a0 Z = true) (w3 : (Jvm.Cond.initialized y.cls).before a0 Z = true) (w4 : (Jvm.Cond.code y bytes maxL ret).before a0 Z = true) (hp : parseMethodDescriptor y.desc = some ⟨ps, r⟩) (eT : T.heap = h) {a : Addr} (E : Exa Z h a C) (hd : decode b pc = .ok (.invokevirtual idx, 3)) (argsL rest : List Value) (W : Nat) (ha : (.ref a :: argsL).toArray = as' := by rfl) (hl : argsL.length = ps.length := by rfl) (hn : y.cls ≠ "java/lang/invoke/MethodHandle" ∧ y.cls ≠ "java/lang/invoke/VarHandle" := by decide) (hW : (rest.map fun v => v.category).sum = W := by rfl)
    (hf : rm.frames + 1 ≤ R.frames ∧ W + (maxL + 11) + rm.locals ≤ R.locals ∧ cells + rm.cells ≤ R.cells ∧ slots + rm.slots ≤ R.slots := by decide) : ∃ (v : Option Value) (T' : State) (Lc : List Loc), Stand p l e R s m args below meth c T' (locs ++ Lc) (cells + rm.cells) (slots + rm.slots) ∧ Q v T'.heap Lc ∧ ∀ t, Steps p.tables e below (T'.setTop (mkF m (pc + 3) L (v.toList ++ rest))) t → Steps p.tables e below (T.setTop (mkF m pc L (argsL.reverse ++ .ref a :: rest))) t := by
  obtain ⟨cq, kq, qa, qb, qc⟩ := isOf hZ eT E
  obtain ⟨v, _, ⟨T', L', k', n'⟩, -, X', ⟨Lc, hQ, hl', hk', hn'⟩, st⟩ := X.virtualBack H.1 (y := y) (z := y) hown (mvT hZ w1) (mvT hZ wd) (notFace_of_selects (args := #[]) (mvT hZ ws)) (mvT hZ ws) (mvT hZ w2) hn (backOf (W := W) M hZ w4 w3 hf.1 hf.2.1) qa qc (g := mkF m pc L (argsL.reverse ++ .ref a :: rest)) rfl (hLs.trans hml.symm) (Steps.refl _) (argsL := argsL) (rest := rest) (lenOf hp hl) rfl (by show 2 * 0 + _ ≤ _; omega) (hb H.2 hd) (fun _ _ => ⟨ha, eT, hf.2.2.1, hf.2.2.2⟩)
  dsimp only [Pt.U, Pt.locs, Pt.cells, Pt.slots] at X' hl' hk' hn' st hQ
  subst hl' hk' hn'
  exact ⟨v, T', Lc, X', hQ, fun t k => st.trans k⟩
theorem own_cU {Z : State} {h : Heap} {a0 : Array Value} {own C : String} {idx : Nat} {y : MethodName} {bytes : ByteArray} {maxL : Nat} {ret : Option FieldType} {rm : Room} {as' : Array Value} {Q : Option Value → Heap → List Loc → Prop} {ps : List FieldType} {r : Option FieldType} (X : Stand p l e R s m args below meth c T locs cells slots) (H : own_H p c b) (hZ : Z.Warmed39 s.vm) (hown : s.vm.findClass own = some m.cls) {nL : Nat} (hml : c.maxLocals = nL) (hLs : L.size = nL) (M : own_M l y bytes maxL ret rm Z h as' Q)
    (w1 : (Jvm.Cond.methodLink own idx y).before a0 Z = true) (wd : (Jvm.Cond.sameMethod y.cls y.cls y.name y.desc).before a0 Z = true) (w2 : (Jvm.Cond.instanceMethod y).before a0 Z = true) (ws : (Jvm.Cond.superclass own y.cls).before a0 Z = true) (w3 : (Jvm.Cond.initialized y.cls).before a0 Z = true) (w4 : (Jvm.Cond.code y bytes maxL ret).before a0 Z = true) (hp : parseMethodDescriptor y.desc = some ⟨ps, r⟩) (eT : T.heap = h) {a : Addr} (E : Exa Z h a C) (hd : decode b pc = .ok (.invokespecial idx, 3)) (argsL rest : List Value) (W : Nat) (ha : (.ref a :: argsL).toArray = as' := by rfl) (hl : argsL.length = ps.length := by rfl) (hn : y.name ≠ "<init>" := by decide) (hW : (rest.map fun v => v.category).sum = W := by rfl)
    (hf : rm.frames + 1 ≤ R.frames ∧ W + (maxL + 11) + rm.locals ≤ R.locals ∧ cells + rm.cells ≤ R.cells ∧ slots + rm.slots ≤ R.slots := by decide) : ∃ (v : Option Value) (T' : State) (Lc : List Loc), Stand p l e R s m args below meth c T' (locs ++ Lc) (cells + rm.cells) (slots + rm.slots) ∧ Q v T'.heap Lc ∧ ∀ t, Steps p.tables e below (T'.setTop (mkF m (pc + 3) L (v.toList ++ rest))) t → Steps p.tables e below (T.setTop (mkF m pc L (argsL.reverse ++ .ref a :: rest))) t := by
  obtain ⟨v, _, ⟨T', L', k', n'⟩, -, X', ⟨Lc, hQ, hl', hk', hn'⟩, st⟩ := superBack X H.1 hZ hown w1 wd w2 ws hn (backOf (W := W) M hZ w4 w3 hf.1 hf.2.1) eT (Ins.self E) (g := mkF m pc L (argsL.reverse ++ .ref a :: rest)) rfl (hLs.trans hml.symm) w4 (argsL := argsL) (rest := rest) (lenOf hp hl) rfl (by show 2 * 0 + _ ≤ _; omega) (hb H.2 hd) (fun _ _ => ⟨ha, eT, hf.2.2.1, hf.2.2.2⟩)
  dsimp only [Pt.U, Pt.locs, Pt.cells, Pt.slots] at X' hl' hk' hn' st hQ
  subst hl' hk' hn'
  exact ⟨v, T', Lc, X', hQ, fun t k => st.trans k⟩
theorem own_selS {Z : State} {a0 : Array Value} {C : String} {y : MethodName} (ws : (Jvm.Cond.selects C y y).before a0 Z = true) (wp : (Jvm.Cond.privateMethod y).before a0 Z = true) (wi : (Jvm.Cond.instanceMethod y).before a0 Z = true) (hy : y.cls ≠ "java/lang/invoke/MethodHandle" ∧ y.cls ≠ "java/lang/invoke/VarHandle") : (Jvm.Cond.selects y.cls y y).before a0 Z = true := by
  obtain ⟨c2, r2, m2, q1, q2, q3, q4, kP, hkP, hkPi⟩ := Cond.selects_spec ws
  exact Jvm.Stand.selects_self_of_private (findClass_of_methodNamed q3) hkP hkPi (Cond.privateMethod_at wp) wi hy
theorem own_same {Z : State} {a0 : Array Value} {C : String} {y y0 : MethodName} (wi : (Jvm.Cond.instanceMethod y).before a0 Z = true) (ws : (Jvm.Cond.selects C y0 y0).before a0 Z = true) (hc : y.cls = y0.cls) (hy : y.cls ≠ "java/lang/invoke/MethodHandle" ∧ y.cls ≠ "java/lang/invoke/VarHandle") : (Jvm.Cond.sameMethod y.cls y.cls y.name y.desc).before a0 Z = true := by
  obtain ⟨mk, methM, hnamed, hmethM, -, -⟩ := Cond.instanceMethod_spec wi
  have hfound := State.methodFound?_of_named hnamed hy
  have hcn := findClass_of_methodNamed hnamed
  obtain ⟨c2, r2, m2, q1, q2, q3, q4, kP, hkP, hkPi⟩ := Cond.selects_spec ws
  have b := findClass_of_methodNamed q3
  rw [← hc] at b
  have e := Option.some.inj (hcn.symm.trans b)
  rw [← e] at hkP
  have hn' : Z.methodNamed? ⟨y.cls, y.name, y.desc⟩ = some mk := hnamed
  simp [Cond.before, Cond.holds, Cond.value, hcn, hfound, hn', hkP, hkPi]
theorem own_cP {Z : State} {h : Heap} {a0 : Array Value} {own C : String} {idx : Nat} {y : MethodName} {bytes : ByteArray} {maxL : Nat} {ret : Option FieldType} {rm : Room} {as' : Array Value} {Q : Option Value → Heap → List Loc → Prop} {ps : List FieldType} {r : Option FieldType} (X : Stand p l e R s m args below meth c T locs cells slots) (H : own_H p c b) (hZ : Z.Warmed39 s.vm) (hown : s.vm.findClass own = some m.cls) {nL : Nat} (hml : c.maxLocals = nL) (hLs : L.size = nL) (M : own_M l y bytes maxL ret rm Z h as' Q)
    (w1 : (Jvm.Cond.methodLink own idx y).before a0 Z = true) (w2 : (Jvm.Cond.instanceMethod y).before a0 Z = true) (ws : (Jvm.Cond.selects C y y).before a0 Z = true) (wp : (Jvm.Cond.privateMethod y).before a0 Z = true) (w3 : (Jvm.Cond.initialized y.cls).before a0 Z = true) (w4 : (Jvm.Cond.code y bytes maxL ret).before a0 Z = true) (hp : parseMethodDescriptor y.desc = some ⟨ps, r⟩) (eT : T.heap = h) {a : Addr} (E : Exa Z h a C) (hd : decode b pc = .ok (.invokevirtual idx, 3)) (argsL rest : List Value) (W : Nat) (ha : (.ref a :: argsL).toArray = as' := by rfl) (hl : argsL.length = ps.length := by rfl) (hn : y.cls ≠ "java/lang/invoke/MethodHandle" ∧ y.cls ≠ "java/lang/invoke/VarHandle" := by decide) (hW : (rest.map fun v => v.category).sum = W := by rfl)
    (hf : rm.frames + 1 ≤ R.frames ∧ W + (maxL + 11) + rm.locals ≤ R.locals ∧ cells + rm.cells ≤ R.cells ∧ slots + rm.slots ≤ R.slots := by decide) : ∃ (v : Option Value) (T' : State) (Lc : List Loc), Stand p l e R s m args below meth c T' (locs ++ Lc) (cells + rm.cells) (slots + rm.slots) ∧ Q v T'.heap Lc ∧ ∀ t, Steps p.tables e below (T'.setTop (mkF m (pc + 3) L (v.toList ++ rest))) t → Steps p.tables e below (T.setTop (mkF m pc L (argsL.reverse ++ .ref a :: rest))) t := by
  obtain ⟨cq, q, q'⟩ := E.cell
  obtain ⟨v, _, ⟨T', L', k', n'⟩, -, X', ⟨Lc, hQ, hl', hk', hn'⟩, st⟩ := X.privateBack H.1 (y := y) hown (mvT hZ w1) (mvT hZ w2) (mvT hZ (own_selS ws wp w2 hn)) (Cond.privateMethod_at (mvP hZ wp (args := #[]))) (mvT hZ w4) hn (backOf (W := W) M hZ w4 w3 hf.1 hf.2.1) (g := mkF m pc L (argsL.reverse ++ .ref a :: rest)) rfl (hLs.trans hml.symm) (Steps.refl _) (a := a) (by rw [eT]; exact q) q' (argsL := argsL) (rest := rest) (lenOf hp hl) rfl (by show 2 * 0 + _ ≤ _; omega) (hb H.2 hd) (fun _ _ => ⟨ha, eT, hf.2.2.1, hf.2.2.2⟩)
  dsimp only [Pt.U, Pt.locs, Pt.cells, Pt.slots] at X' hl' hk' hn' st hQ
  subst hl' hk' hn'
  exact ⟨v, T', Lc, X', hQ, fun t k => st.trans k⟩
def own_OK (x : Slot) : Prop := x = .unset ∨ ∃ v : Int32, x = .val (.int v)
theorem own_okU : own_OK .unset := Or.inl rfl
theorem own_okI (v : Int32) : own_OK (.val (.int v)) := Or.inr ⟨v, rfl⟩
theorem own_nt {q t t2 n : Nat} (h : t2 = t ∨ n ≤ t2) (hne : q ≠ t) (hlt : q < n) : q ≠ t2 := by
  rcases h with rfl | h
  · exact hne
  · omega
theorem own_iw {ws : List Addr} {t t2 : Addr} {n0 n1 : Nat} (h : t2 = t ∨ n1 ≤ t2) (i : t ∈ ws ∨ n0 ≤ t) (k : n0 ≤ n1) : t2 ∈ ws ∨ n0 ≤ t2 := by
  rcases h with rfl | h
  · exact i
  · exact Or.inr (Nat.le_trans k h)
theorem own_wk {Z : State} {h0 : Heap} {y : MethodName} {bytes : ByteArray} {n : Nat} {rt : Option FieldType} {rm : Room} {A : Array Value} {Q Q' : Option Value → Heap → List Loc → Prop} (M : own_M l y bytes n rt rm Z h0 A Q) (hq : ∀ v h L, Q v h L → Q' v h L) : own_M l y bytes n rt rm Z h0 A Q' := MetFree.mono M (fun _ _ x => x) (fun _ _ _ _ _ x => x) (fun _ _ _ _ _ ⟨v, L, e, q, f⟩ => ⟨v, L, e, hq _ _ _ q, f⟩)
def own_El (Z : State) (h : Heap) (a : Addr) (ty : FieldType) (j : Int32) (v : Value) : Prop := ∃ cl : Cell, Arr Z h a cl ty ∧ ¬ (j < 0 ∨ cl.slots.size ≤ j.toNatClampNeg) ∧ cl.slots[j.toNatClampNeg]? = some v
theorem own_el {Z : State} {h : Heap} {a : Addr} {k : ClassId} {ty : FieldType} {z j : Int32} {vs : List Value} {dv v : Value} (F : Arv Z h a k ty z vs dv) (hj : ¬ j < 0 ∧ j < z) (hv : vs.getD j.toNatClampNeg dv = v) : own_El Z h a ty j v := by
  obtain ⟨cl, Ar, q, Zz, N, H, G⟩ := F
  exact ⟨cl, Ar, inb_of Zz hj, H.at (inb_of Zz hj) hv⟩
def own_Ln (Z : State) (h : Heap) (a : Addr) (z : Int32) : Prop := ∃ (cl : Cell) (ty : FieldType), Arr Z h a cl ty ∧ cl.slots.size.toInt32 = z
theorem own_ln {Z : State} {h : Heap} {a : Addr} {k : ClassId} {ty : FieldType} {z : Int32} {vs : List Value} {dv : Value} (F : Arv Z h a k ty z vs dv) : own_Ln Z h a z := by
  obtain ⟨cl, Ar, q, Zz, N, H, G⟩ := F
  exact ⟨cl, ty, Ar, len_of Zz N⟩
theorem zil (X : Stand p l e R s m args below meth c T locs cells slots) (H : own_H p c b) {k : Fin 4} {v : Int32} (hd : decode b pc = .ok (.iload_n k, 1)) (hl : L[k.val]? = some (.val (.int v))) (hr : Steps p.tables e below (T.setTop (mkF m (pc + 1) L (.int v :: S))) t) : Steps p.tables e below (T.setTop (mkF m pc L S)) t := XS.iloadN X.here H.1 rfl (hb H.2 hd) hl hr
theorem ziL (X : Stand p l e R s m args below meth c T locs cells slots) (H : own_H p c b) {k : Nat} {v : Int32} (hd : decode b pc = .ok (.iload k, 2)) (hl : L[k]? = some (.val (.int v))) (hr : Steps p.tables e below (T.setTop (mkF m (pc + 2) L (.int v :: S))) t) : Steps p.tables e below (T.setTop (mkF m pc L S)) t := XS.iload X.here H.1 rfl (hb H.2 hd) hl hr
theorem zal (X : Stand p l e R s m args below meth c T locs cells slots) (H : own_H p c b) {k : Fin 4} {v : Value} (hd : decode b pc = .ok (.aload_n k, 1)) (hl : L[k.val]? = some (.val v)) (hv : v.isRef = true) (hr : Steps p.tables e below (T.setTop (mkF m (pc + 1) L (v :: S))) t) : Steps p.tables e below (T.setTop (mkF m pc L S)) t := XS.aloadN X.here H.1 rfl (hb H.2 hd) hl hv hr
theorem zaL (X : Stand p l e R s m args below meth c T locs cells slots) (H : own_H p c b) {k : Nat} {v : Value} (hd : decode b pc = .ok (.aload k, 2)) (hl : L[k]? = some (.val v)) (hv : v.isRef = true) (hr : Steps p.tables e below (T.setTop (mkF m (pc + 2) L (v :: S))) t) : Steps p.tables e below (T.setTop (mkF m pc L S)) t := XS.aload X.here H.1 rfl (hb H.2 hd) hl hv hr
theorem zis (X : Stand p l e R s m args below meth c T locs cells slots) (H : own_H p c b) {k : Fin 4} {x : Int32} {L' : Array Slot} (hd : decode b pc = .ok (.istore_n k, 1)) (hl : storeLocals L k.val (.int x) = some L') (hr : Steps p.tables e below (T.setTop (mkF m (pc + 1) L' S)) t) : Steps p.tables e below (T.setTop (mkF m pc L (.int x :: S))) t := XS.istoreN X.here H.1 rfl (hb H.2 hd) rfl hl hr
theorem ziS (X : Stand p l e R s m args below meth c T locs cells slots) (H : own_H p c b) {k : Nat} {x : Int32} {L' : Array Slot} (hd : decode b pc = .ok (.istore k, 2)) (hl : storeLocals L k (.int x) = some L') (hr : Steps p.tables e below (T.setTop (mkF m (pc + 2) L' S)) t) : Steps p.tables e below (T.setTop (mkF m pc L (.int x :: S))) t := XS.istore X.here H.1 rfl (hb H.2 hd) rfl hl hr
theorem zas (X : Stand p l e R s m args below meth c T locs cells slots) (H : own_H p c b) {k : Fin 4} {x : Value} {L' : Array Slot} (hd : decode b pc = .ok (.astore_n k, 1)) (hv : x.isRef = true) (hl : storeLocals L k.val x = some L') (hr : Steps p.tables e below (T.setTop (mkF m (pc + 1) L' S)) t) : Steps p.tables e below (T.setTop (mkF m pc L (x :: S))) t := XS.astoreN X.here H.1 rfl (hb H.2 hd) rfl hv hl hr
theorem zaS (X : Stand p l e R s m args below meth c T locs cells slots) (H : own_H p c b) {k : Nat} {x : Value} {L' : Array Slot} (hd : decode b pc = .ok (.astore k, 2)) (hv : x.isRef = true) (hl : storeLocals L k x = some L') (hr : Steps p.tables e below (T.setTop (mkF m (pc + 2) L' S)) t) : Steps p.tables e below (T.setTop (mkF m pc L (x :: S))) t := XS.astore X.here H.1 rfl (hb H.2 hd) rfl hv hl hr
theorem zic (X : Stand p l e R s m args below meth c T locs cells slots) (H : own_H p c b) {i : Int} (hd : decode b pc = .ok (.iconst i, 1)) (v : Int32) (hv : Int32.ofInt i = v) (hr : Steps p.tables e below (T.setTop (mkF m (pc + 1) L (.int v :: S))) t) : Steps p.tables e below (T.setTop (mkF m pc L S)) t := by subst hv; exact XS.iconst X.here H.1 rfl (hb H.2 hd) hr
theorem zbp (X : Stand p l e R s m args below meth c T locs cells slots) (H : own_H p c b) {i : Int} (hd : decode b pc = .ok (.bipush i, 2)) (v : Int32) (hv : (Int8.ofInt i).toInt32 = v) (hr : Steps p.tables e below (T.setTop (mkF m (pc + 2) L (.int v :: S))) t) : Steps p.tables e below (T.setTop (mkF m pc L S)) t := by subst hv; exact XS.bipush X.here H.1 rfl (hb H.2 hd) hr
theorem zsp (X : Stand p l e R s m args below meth c T locs cells slots) (H : own_H p c b) {i : Int} (hd : decode b pc = .ok (.sipush i, 3)) (v : Int32) (hv : (Int16.ofInt i).toInt32 = v) (hr : Steps p.tables e below (T.setTop (mkF m (pc + 3) L (.int v :: S))) t) : Steps p.tables e below (T.setTop (mkF m pc L S)) t := by subst hv; exact XS.sipush X.here H.1 rfl (hb H.2 hd) hr
theorem znu (X : Stand p l e R s m args below meth c T locs cells slots) (H : own_H p c b)  (hd : decode b pc = .ok (.aconst_null, 1)) (hr : Steps p.tables e below (T.setTop (mkF m (pc + 1) L (.null :: S))) t) : Steps p.tables e below (T.setTop (mkF m pc L S)) t := XS.aconstNull X.here H.1 rfl (hb H.2 hd) hr
theorem zia (X : Stand p l e R s m args below meth c T locs cells slots) (H : own_H p c b) {x y : Int32} (hd : decode b pc = .ok (.iadd, 1)) (hr : Steps p.tables e below (T.setTop (mkF m (pc + 1) L (.int (x + y) :: S))) t) : Steps p.tables e below (T.setTop (mkF m pc L (.int y :: .int x :: S))) t := XS.iadd X.here H.1 rfl (hb H.2 hd) rfl hr
theorem zia' (X : Stand p l e R s m args below meth c T locs cells slots) (H : own_H p c b) {x y : Int32} (hd : decode b pc = .ok (.iadd, 1)) (v : Int32) (hv : x + y = v) (hr : Steps p.tables e below (T.setTop (mkF m (pc + 1) L (.int v :: S))) t) : Steps p.tables e below (T.setTop (mkF m pc L (.int y :: .int x :: S))) t := by subst hv; exact XS.iadd X.here H.1 rfl (hb H.2 hd) rfl hr
theorem zsu (X : Stand p l e R s m args below meth c T locs cells slots) (H : own_H p c b) {x y : Int32} (hd : decode b pc = .ok (.isub, 1)) (hr : Steps p.tables e below (T.setTop (mkF m (pc + 1) L (.int (x - y) :: S))) t) : Steps p.tables e below (T.setTop (mkF m pc L (.int y :: .int x :: S))) t := XS.isub X.here H.1 rfl (hb H.2 hd) rfl hr
theorem zsu' (X : Stand p l e R s m args below meth c T locs cells slots) (H : own_H p c b) {x y : Int32} (hd : decode b pc = .ok (.isub, 1)) (v : Int32) (hv : x - y = v) (hr : Steps p.tables e below (T.setTop (mkF m (pc + 1) L (.int v :: S))) t) : Steps p.tables e below (T.setTop (mkF m pc L (.int y :: .int x :: S))) t := by subst hv; exact XS.isub X.here H.1 rfl (hb H.2 hd) rfl hr
theorem zmu (X : Stand p l e R s m args below meth c T locs cells slots) (H : own_H p c b) {x y : Int32} (hd : decode b pc = .ok (.imul, 1)) (hr : Steps p.tables e below (T.setTop (mkF m (pc + 1) L (.int (x * y) :: S))) t) : Steps p.tables e below (T.setTop (mkF m pc L (.int y :: .int x :: S))) t := XS.imul X.here H.1 rfl (hb H.2 hd) rfl hr
theorem zmu' (X : Stand p l e R s m args below meth c T locs cells slots) (H : own_H p c b) {x y : Int32} (hd : decode b pc = .ok (.imul, 1)) (v : Int32) (hv : x * y = v) (hr : Steps p.tables e below (T.setTop (mkF m (pc + 1) L (.int v :: S))) t) : Steps p.tables e below (T.setTop (mkF m pc L (.int y :: .int x :: S))) t := by subst hv; exact XS.imul X.here H.1 rfl (hb H.2 hd) rfl hr
theorem zan (X : Stand p l e R s m args below meth c T locs cells slots) (H : own_H p c b) {x y : Int32} (hd : decode b pc = .ok (.iand, 1)) (hr : Steps p.tables e below (T.setTop (mkF m (pc + 1) L (.int (x &&& y) :: S))) t) : Steps p.tables e below (T.setTop (mkF m pc L (.int y :: .int x :: S))) t := XS.iand X.here H.1 rfl (hb H.2 hd) rfl hr
theorem zan' (X : Stand p l e R s m args below meth c T locs cells slots) (H : own_H p c b) {x y : Int32} (hd : decode b pc = .ok (.iand, 1)) (v : Int32) (hv : x &&& y = v) (hr : Steps p.tables e below (T.setTop (mkF m (pc + 1) L (.int v :: S))) t) : Steps p.tables e below (T.setTop (mkF m pc L (.int y :: .int x :: S))) t := by subst hv; exact XS.iand X.here H.1 rfl (hb H.2 hd) rfl hr
theorem zor (X : Stand p l e R s m args below meth c T locs cells slots) (H : own_H p c b) {x y : Int32} (hd : decode b pc = .ok (.ior, 1)) (hr : Steps p.tables e below (T.setTop (mkF m (pc + 1) L (.int (x ||| y) :: S))) t) : Steps p.tables e below (T.setTop (mkF m pc L (.int y :: .int x :: S))) t := XS.ior X.here H.1 rfl (hb H.2 hd) rfl hr
theorem zor' (X : Stand p l e R s m args below meth c T locs cells slots) (H : own_H p c b) {x y : Int32} (hd : decode b pc = .ok (.ior, 1)) (v : Int32) (hv : x ||| y = v) (hr : Steps p.tables e below (T.setTop (mkF m (pc + 1) L (.int v :: S))) t) : Steps p.tables e below (T.setTop (mkF m pc L (.int y :: .int x :: S))) t := by subst hv; exact XS.ior X.here H.1 rfl (hb H.2 hd) rfl hr
theorem zxo (X : Stand p l e R s m args below meth c T locs cells slots) (H : own_H p c b) {x y : Int32} (hd : decode b pc = .ok (.ixor, 1)) (hr : Steps p.tables e below (T.setTop (mkF m (pc + 1) L (.int (x ^^^ y) :: S))) t) : Steps p.tables e below (T.setTop (mkF m pc L (.int y :: .int x :: S))) t := XS.ixor X.here H.1 rfl (hb H.2 hd) rfl hr
theorem zxo' (X : Stand p l e R s m args below meth c T locs cells slots) (H : own_H p c b) {x y : Int32} (hd : decode b pc = .ok (.ixor, 1)) (v : Int32) (hv : x ^^^ y = v) (hr : Steps p.tables e below (T.setTop (mkF m (pc + 1) L (.int v :: S))) t) : Steps p.tables e below (T.setTop (mkF m pc L (.int y :: .int x :: S))) t := by subst hv; exact XS.ixor X.here H.1 rfl (hb H.2 hd) rfl hr
theorem zsl (X : Stand p l e R s m args below meth c T locs cells slots) (H : own_H p c b) {x y : Int32} (hd : decode b pc = .ok (.ishl, 1)) (hr : Steps p.tables e below (T.setTop (mkF m (pc + 1) L (.int (x <<< (y &&& 31)) :: S))) t) : Steps p.tables e below (T.setTop (mkF m pc L (.int y :: .int x :: S))) t := XS.ishl X.here H.1 rfl (hb H.2 hd) rfl hr
theorem zsl' (X : Stand p l e R s m args below meth c T locs cells slots) (H : own_H p c b) {x y : Int32} (hd : decode b pc = .ok (.ishl, 1)) (v : Int32) (hv : x <<< (y &&& 31) = v) (hr : Steps p.tables e below (T.setTop (mkF m (pc + 1) L (.int v :: S))) t) : Steps p.tables e below (T.setTop (mkF m pc L (.int y :: .int x :: S))) t := by subst hv; exact XS.ishl X.here H.1 rfl (hb H.2 hd) rfl hr
theorem zsr (X : Stand p l e R s m args below meth c T locs cells slots) (H : own_H p c b) {x y : Int32} (hd : decode b pc = .ok (.ishr, 1)) (hr : Steps p.tables e below (T.setTop (mkF m (pc + 1) L (.int (x >>> (y &&& 31)) :: S))) t) : Steps p.tables e below (T.setTop (mkF m pc L (.int y :: .int x :: S))) t := XS.ishr X.here H.1 rfl (hb H.2 hd) rfl hr
theorem zsr' (X : Stand p l e R s m args below meth c T locs cells slots) (H : own_H p c b) {x y : Int32} (hd : decode b pc = .ok (.ishr, 1)) (v : Int32) (hv : x >>> (y &&& 31) = v) (hr : Steps p.tables e below (T.setTop (mkF m (pc + 1) L (.int v :: S))) t) : Steps p.tables e below (T.setTop (mkF m pc L (.int y :: .int x :: S))) t := by subst hv; exact XS.ishr X.here H.1 rfl (hb H.2 hd) rfl hr
theorem zus (X : Stand p l e R s m args below meth c T locs cells slots) (H : own_H p c b) {x y : Int32} (hd : decode b pc = .ok (.iushr, 1)) (hr : Steps p.tables e below (T.setTop (mkF m (pc + 1) L (.int ((x.toUInt32 >>> (y &&& 31).toUInt32).toInt32) :: S))) t) : Steps p.tables e below (T.setTop (mkF m pc L (.int y :: .int x :: S))) t := XS.iushr X.here H.1 rfl (hb H.2 hd) rfl hr
theorem zus' (X : Stand p l e R s m args below meth c T locs cells slots) (H : own_H p c b) {x y : Int32} (hd : decode b pc = .ok (.iushr, 1)) (v : Int32) (hv : (x.toUInt32 >>> (y &&& 31).toUInt32).toInt32 = v) (hr : Steps p.tables e below (T.setTop (mkF m (pc + 1) L (.int v :: S))) t) : Steps p.tables e below (T.setTop (mkF m pc L (.int y :: .int x :: S))) t := by subst hv; exact XS.iushr X.here H.1 rfl (hb H.2 hd) rfl hr
theorem zib (X : Stand p l e R s m args below meth c T locs cells slots) (H : own_H p c b) {x : Int32} (hd : decode b pc = .ok (.i2b, 1)) (hr : Steps p.tables e below (T.setTop (mkF m (pc + 1) L (.int (x.toInt8.toInt32) :: S))) t) : Steps p.tables e below (T.setTop (mkF m pc L (.int x :: S))) t := XS.i2b X.here H.1 rfl (hb H.2 hd) rfl hr
theorem zib' (X : Stand p l e R s m args below meth c T locs cells slots) (H : own_H p c b) {x : Int32} (hd : decode b pc = .ok (.i2b, 1)) (v : Int32) (hv : x.toInt8.toInt32 = v) (hr : Steps p.tables e below (T.setTop (mkF m (pc + 1) L (.int v :: S))) t) : Steps p.tables e below (T.setTop (mkF m pc L (.int x :: S))) t := by subst hv; exact XS.i2b X.here H.1 rfl (hb H.2 hd) rfl hr
theorem zik (X : Stand p l e R s m args below meth c T locs cells slots) (H : own_H p c b) {x : Int32} (hd : decode b pc = .ok (.i2c, 1)) (hr : Steps p.tables e below (T.setTop (mkF m (pc + 1) L (.int (x.toUInt32.toUInt16.toUInt32.toInt32) :: S))) t) : Steps p.tables e below (T.setTop (mkF m pc L (.int x :: S))) t := XS.i2c X.here H.1 rfl (hb H.2 hd) rfl hr
theorem zik' (X : Stand p l e R s m args below meth c T locs cells slots) (H : own_H p c b) {x : Int32} (hd : decode b pc = .ok (.i2c, 1)) (v : Int32) (hv : x.toUInt32.toUInt16.toUInt32.toInt32 = v) (hr : Steps p.tables e below (T.setTop (mkF m (pc + 1) L (.int v :: S))) t) : Steps p.tables e below (T.setTop (mkF m pc L (.int x :: S))) t := by subst hv; exact XS.i2c X.here H.1 rfl (hb H.2 hd) rfl hr
theorem zne (X : Stand p l e R s m args below meth c T locs cells slots) (H : own_H p c b) {x : Int32} (hd : decode b pc = .ok (.ineg, 1)) (hr : Steps p.tables e below (T.setTop (mkF m (pc + 1) L (.int (-x) :: S))) t) : Steps p.tables e below (T.setTop (mkF m pc L (.int x :: S))) t := XS.ineg X.here H.1 rfl (hb H.2 hd) rfl hr
theorem zne' (X : Stand p l e R s m args below meth c T locs cells slots) (H : own_H p c b) {x : Int32} (hd : decode b pc = .ok (.ineg, 1)) (v : Int32) (hv : -x = v) (hr : Steps p.tables e below (T.setTop (mkF m (pc + 1) L (.int v :: S))) t) : Steps p.tables e below (T.setTop (mkF m pc L (.int x :: S))) t := by subst hv; exact XS.ineg X.here H.1 rfl (hb H.2 hd) rfl hr
theorem zii (X : Stand p l e R s m args below meth c T locs cells slots) (H : own_H p c b) {k : Nat} {i : Int} {x : Int32} {L' : Array Slot} (hd : decode b pc = .ok (.iinc k i, 3)) (hl : L[k]? = some (.val (.int x))) (v : Int32) (hv : x + Int32.ofInt i = v) (hl' : storeLocals L k (.int v) = some L') (hr : Steps p.tables e below (T.setTop (mkF m (pc + 3) L' S)) t) : Steps p.tables e below (T.setTop (mkF m pc L S)) t := by subst hv; exact XS.iinc X.here H.1 rfl (hb H.2 hd) hl hl' hr
theorem zgo (X : Stand p l e R s m args below meth c T locs cells slots) (H : own_H p c b) {o : Int} {p0 : Nat} (hd : decode b p0 = .ok (.goto o, 3)) (q : Nat) (hq : 0 ≤ (p0 : Int) + o ∧ ((p0 : Int) + o).toNat = q) (hpc : pc = p0) (hr : Steps p.tables e below (T.setTop (mkF m q L S)) t) : Steps p.tables e below (T.setTop (mkF m pc L S)) t := by subst hpc; exact XS.goto X.here H.1 rfl rfl (hb H.2 hd) hq.1 hq.2 hr
theorem ziy (X : Stand p l e R s m args below meth c T locs cells slots) (H : own_H p c b) {cd : ClassFile.Cond} {x : Int32} {o : Int} {p0 : Nat} (hd : decode b p0 = .ok (.ifCond cd o, 3)) (hc : ifCond.holds cd x = true) (q : Nat) (hq : 0 ≤ (p0 : Int) + o ∧ ((p0 : Int) + o).toNat = q) (hpc : pc = p0) (hr : Steps p.tables e below (T.setTop (mkF m q L S)) t) : Steps p.tables e below (T.setTop (mkF m pc L (.int x :: S))) t := by subst hpc; exact XS.ifYes X.here H.1 rfl rfl (hb H.2 hd) rfl hc hq.1 hq.2 hr
theorem zin (X : Stand p l e R s m args below meth c T locs cells slots) (H : own_H p c b) {cd : ClassFile.Cond} {x : Int32} {o : Int} (hd : decode b pc = .ok (.ifCond cd o, 3)) (hc : ifCond.holds cd x = false) (hr : Steps p.tables e below (T.setTop (mkF m (pc + 3) L S)) t) : Steps p.tables e below (T.setTop (mkF m pc L (.int x :: S))) t := XS.ifNo X.here H.1 rfl (hb H.2 hd) rfl hc hr
theorem zcy (X : Stand p l e R s m args below meth c T locs cells slots) (H : own_H p c b) {cd : ClassFile.Cond} {x y : Int32} {o : Int} {p0 : Nat} (hd : decode b p0 = .ok (.if_icmp cd o, 3)) (hc : if_icmp.holds cd x y = true) (q : Nat) (hq : 0 ≤ (p0 : Int) + o ∧ ((p0 : Int) + o).toNat = q) (hpc : pc = p0) (hr : Steps p.tables e below (T.setTop (mkF m q L S)) t) : Steps p.tables e below (T.setTop (mkF m pc L (.int y :: .int x :: S))) t := by subst hpc; exact XS.icmpYes X.here H.1 rfl rfl (hb H.2 hd) rfl hc hq.1 hq.2 hr
theorem zcn (X : Stand p l e R s m args below meth c T locs cells slots) (H : own_H p c b) {cd : ClassFile.Cond} {x y : Int32} {o : Int} (hd : decode b pc = .ok (.if_icmp cd o, 3)) (hc : if_icmp.holds cd x y = false) (hr : Steps p.tables e below (T.setTop (mkF m (pc + 3) L S)) t) : Steps p.tables e below (T.setTop (mkF m pc L (.int y :: .int x :: S))) t := XS.icmpNo X.here H.1 rfl (hb H.2 hd) rfl hc hr
theorem zdu (X : Stand p l e R s m args below meth c T locs cells slots) (H : own_H p c b) {v : Value} (hd : decode b pc = .ok (.dup, 1)) (hc : v.category = 1) (hr : Steps p.tables e below (T.setTop (mkF m (pc + 1) L (v :: v :: S))) t) : Steps p.tables e below (T.setTop (mkF m pc L (v :: S))) t := XS.dup X.here H.1 rfl (hb H.2 hd) rfl hc hr
theorem zpo (X : Stand p l e R s m args below meth c T locs cells slots) (H : own_H p c b) {v : Value} (hd : decode b pc = .ok (.pop, 1)) (hc : v.category = 1) (hr : Steps p.tables e below (T.setTop (mkF m (pc + 1) L S)) t) : Steps p.tables e below (T.setTop (mkF m pc L (v :: S))) t := XS.pop X.here H.1 rfl (hb H.2 hd) rfl hc hr
theorem zba (X : Stand p l e R s m args below meth c T locs cells slots) (H : own_H p c b) {Z : State} {h : Heap} {a : Addr} {j : Int32} {v : Value} (hZ : Z.Warmed39 s.vm) (eT : T.heap = h) (B : own_El Z h a .byte j v) (hd : decode b pc = .ok (.baload, 1)) (hr : Steps p.tables e below (T.setTop (mkF m (pc + 1) L (v :: S))) t) : Steps p.tables e below (T.setTop (mkF m pc L (.int j :: .ref a :: S))) t := by
  obtain ⟨cl, Ar, hin, hat⟩ := B
  exact X.baloadBytes H.1 (j := j) (v := v) (by rw [eT]; exact Ar.1) (State.isArrayOf_alike hZ.alike Ar.2.1) Ar.2.2 hin hat (g := mkF m pc L (.int j :: .ref a :: S)) rfl rfl (hb H.2 hd) _ hr
theorem zca (X : Stand p l e R s m args below meth c T locs cells slots) (H : own_H p c b) {Z : State} {h : Heap} {a : Addr} {j : Int32} {v : Value} (hZ : Z.Warmed39 s.vm) (eT : T.heap = h) (B : own_El Z h a .char j v) (hd : decode b pc = .ok (.caload, 1)) (hr : Steps p.tables e below (T.setTop (mkF m (pc + 1) L (v :: S))) t) : Steps p.tables e below (T.setTop (mkF m pc L (.int j :: .ref a :: S))) t := by
  obtain ⟨cl, Ar, hin, hat⟩ := B
  exact X.caload H.1 (j := j) (v := v) (by rw [eT]; exact Ar.1) (State.isArrayOf_alike hZ.alike Ar.2.1) Ar.2.2 hin hat (g := mkF m pc L (.int j :: .ref a :: S)) rfl rfl (hb H.2 hd) _ hr
theorem zia_ (X : Stand p l e R s m args below meth c T locs cells slots) (H : own_H p c b) {Z : State} {h : Heap} {a : Addr} {j : Int32} {v : Value} (hZ : Z.Warmed39 s.vm) (eT : T.heap = h) (B : own_El Z h a .int j v) (hd : decode b pc = .ok (.iaload, 1)) (hr : Steps p.tables e below (T.setTop (mkF m (pc + 1) L (v :: S))) t) : Steps p.tables e below (T.setTop (mkF m pc L (.int j :: .ref a :: S))) t := by
  obtain ⟨cl, Ar, hin, hat⟩ := B
  exact X.iaload H.1 (j := j) (v := v) (by rw [eT]; exact Ar.1) (State.isArrayOf_alike hZ.alike Ar.2.1) Ar.2.2 hin hat (g := mkF m pc L (.int j :: .ref a :: S)) rfl rfl (hb H.2 hd) _ hr
theorem zal_ (X : Stand p l e R s m args below meth c T locs cells slots) (H : own_H p c b) {Z : State} {h : Heap} {a : Addr} {z : Int32} (hZ : Z.Warmed39 s.vm) (eT : T.heap = h) (B : own_Ln Z h a z) (hd : decode b pc = .ok (.arraylength, 1)) (hr : Steps p.tables e below (T.setTop (mkF m (pc + 1) L (.int z :: S))) t) : Steps p.tables e below (T.setTop (mkF m pc L (.ref a :: S))) t := by
  obtain ⟨cl, ty, Ar, hz⟩ := B
  subst hz
  exact X.arraylength H.1 (by rw [eT]; exact Ar.1) (State.isArrayOf_alike hZ.alike Ar.2.1) (g := mkF m pc L (.ref a :: S)) rfl rfl (hb H.2 hd) _ hr
end Short
variable {l : Launch} {Z : State} {a0 : Array Value}
abbrev own_n0 : MethodName := ⟨"com/example/gradual_reply/gradualreply/Utf8EncodePinLaw", "law", "(IIII)Z"⟩
abbrev own_n11 : MethodName := ⟨"com/example/gradual_reply/gradualreply/Utf8", "encode", "(Ljava/lang/CharSequence;)[B"⟩
abbrev own_n2 : MethodName := ⟨"java/lang/String", "<init>", "([C)V"⟩
abbrev own_n3 : MethodName := ⟨"java/lang/String", "<init>", "([CIILjava/lang/Void;)V"⟩
abbrev own_n5 : MethodName := ⟨"java/lang/StringUTF16", "compress", "([CII)[B"⟩
abbrev own_n33 : MethodName := ⟨"java/lang/StringUTF16", "toBytes", "([CII)[B"⟩
abbrev own_n6 : MethodName := ⟨"java/lang/StringUTF16", "compress", "([CI[BII)I"⟩
abbrev own_n13 : MethodName := ⟨"com/example/gradual_reply/gradualreply/Utf8", "replaceUnpairedSurrogates", "(Ljava/lang/String;)Ljava/lang/String;"⟩
abbrev own_n59 : MethodName := ⟨"java/lang/StringBuilder", "toString", "()Ljava/lang/String;"⟩
abbrev own_n60 : MethodName := ⟨"java/lang/String", "<init>", "(Ljava/lang/StringBuilder;)V"⟩
abbrev own_n61 : MethodName := ⟨"java/lang/String", "<init>", "(Ljava/lang/AbstractStringBuilder;Ljava/lang/Void;)V"⟩
abbrev own_n65 : MethodName := ⟨"java/util/Arrays", "copyOfRange", "([BII)[B"⟩
abbrev own_n49 : MethodName := ⟨"java/lang/StringBuilder", "append", "(C)Ljava/lang/StringBuilder;"⟩
abbrev own_n50 : MethodName := ⟨"java/lang/AbstractStringBuilder", "append", "(C)Ljava/lang/AbstractStringBuilder;"⟩
abbrev own_n42 : MethodName := ⟨"java/lang/StringBuilder", "append", "(Ljava/lang/CharSequence;II)Ljava/lang/StringBuilder;"⟩
abbrev own_n43 : MethodName := ⟨"java/lang/AbstractStringBuilder", "append", "(Ljava/lang/CharSequence;II)Ljava/lang/AbstractStringBuilder;"⟩
abbrev own_n46 : MethodName := ⟨"java/lang/AbstractStringBuilder", "appendChars", "(Ljava/lang/String;II)V"⟩
abbrev own_n51 : MethodName := ⟨"java/lang/AbstractStringBuilder", "inflate", "()V"⟩
abbrev own_n52 : MethodName := ⟨"java/lang/StringLatin1", "inflate", "([BI[BII)V"⟩
abbrev own_n53 : MethodName := ⟨"java/lang/StringUTF16", "inflate", "([BI[BII)V"⟩
abbrev own_n54 : MethodName := ⟨"java/lang/StringUTF16", "checkBoundsOffCount", "(II[B)V"⟩
abbrev own_n55 : MethodName := ⟨"java/lang/String", "checkBoundsOffCount", "(III)I"⟩
abbrev own_n56 : MethodName := ⟨"jdk/internal/util/Preconditions", "checkFromIndexSize", "(IIILjava/util/function/BiFunction;)I"⟩
abbrev own_n44 : MethodName := ⟨"jdk/internal/util/Preconditions", "checkFromToIndex", "(IIILjava/util/function/BiFunction;)I"⟩
abbrev own_n45 : MethodName := ⟨"java/lang/AbstractStringBuilder", "ensureCapacityInternal", "(I)V"⟩
abbrev own_n58 : MethodName := ⟨"java/lang/String", "value", "()[B"⟩
abbrev own_n63 : MethodName := ⟨"java/lang/StringBuilder", "length", "()I"⟩
abbrev own_n64 : MethodName := ⟨"java/lang/AbstractStringBuilder", "length", "()I"⟩
abbrev own_n62 : MethodName := ⟨"java/lang/AbstractStringBuilder", "getValue", "()[B"⟩
abbrev own_n48 : MethodName := ⟨"java/lang/StringLatin1", "canEncode", "(C)Z"⟩
abbrev own_n47 : MethodName := ⟨"java/lang/AbstractStringBuilder", "isLatin1", "()Z"⟩
abbrev own_n40 : MethodName := ⟨"java/lang/StringBuilder", "<init>", "(I)V"⟩
abbrev own_n41 : MethodName := ⟨"java/lang/AbstractStringBuilder", "<init>", "(I)V"⟩
abbrev own_n57 : MethodName := ⟨"java/lang/StringUTF16", "putCharSB", "([BII)V"⟩
abbrev own_n34 : MethodName := ⟨"java/lang/StringUTF16", "putChar", "([BII)V"⟩
abbrev own_n23 : MethodName := ⟨"java/lang/String", "getBytes", "(Ljava/nio/charset/Charset;)[B"⟩
abbrev own_n24 : MethodName := ⟨"java/lang/String", "encode", "(Ljava/nio/charset/Charset;B[B)[B"⟩
abbrev own_n25 : MethodName := ⟨"java/lang/String", "encodeUTF8", "(B[BZ)[B"⟩
abbrev own_n26 : MethodName := ⟨"java/lang/StringCoding", "hasNegatives", "([BII)Z"⟩
abbrev own_n27 : MethodName := ⟨"java/lang/StringCoding", "countPositives", "([BII)I"⟩
abbrev own_n28 : MethodName := ⟨"com/example/gradual_reply/gradualreply/Utf8EncodePinLaw", "eqAt", "([B[BII)Z"⟩
abbrev own_n12 : MethodName := ⟨"java/lang/String", "toString", "()Ljava/lang/String;"⟩
abbrev own_n1 : MethodName := ⟨"com/example/gradual_reply/gradualreply/Utf8EncodePinLaw", "draw", "(I)C"⟩
abbrev own_n31 : MethodName := ⟨"java/util/Arrays", "copyOf", "([BI)[B"⟩
abbrev own_n32 : MethodName := ⟨"java/lang/Math", "min", "(II)I"⟩
abbrev own_n66 : MethodName := ⟨"java/lang/String", "encodeUTF8_UTF16", "([BZ)[B"⟩
abbrev own_n69 : MethodName := ⟨"java/lang/Character", "toCodePoint", "(CC)I"⟩
abbrev own_n14 : MethodName := ⟨"com/example/gradual_reply/gradualreply/Utf8", "nextUnpairedSurrogate", "(Ljava/lang/String;I)I"⟩
abbrev own_n68 : MethodName := ⟨"java/lang/Character", "isLowSurrogate", "(C)Z"⟩
abbrev own_n39 : MethodName := ⟨"java/lang/Character", "isHighSurrogate", "(C)Z"⟩
abbrev own_n22 : MethodName := ⟨"java/lang/Character", "isSurrogate", "(C)Z"⟩
abbrev own_n17 : MethodName := ⟨"java/lang/String", "charAt", "(I)C"⟩
abbrev own_n19 : MethodName := ⟨"java/lang/StringLatin1", "charAt", "([BI)C"⟩
abbrev own_n36 : MethodName := ⟨"java/lang/StringUTF16", "charAt", "([BI)C"⟩
abbrev own_n37 : MethodName := ⟨"java/lang/StringUTF16", "checkIndex", "(I[B)V"⟩
abbrev own_n38 : MethodName := ⟨"java/lang/StringUTF16", "length", "([B)I"⟩
abbrev own_n20 : MethodName := ⟨"java/lang/String", "checkIndex", "(II)V"⟩
abbrev own_n21 : MethodName := ⟨"jdk/internal/util/Preconditions", "checkIndex", "(IILjava/util/function/BiFunction;)I"⟩
abbrev own_n15 : MethodName := ⟨"java/lang/String", "length", "()I"⟩
abbrev own_n18 : MethodName := ⟨"java/lang/String", "isLatin1", "()Z"⟩
abbrev own_n16 : MethodName := ⟨"java/lang/String", "coder", "()B"⟩
abbrev own_n7 : MethodName := ⟨"java/lang/StringUTF16", "coderFromArrayLen", "([BI)B"⟩
abbrev own_n35 : MethodName := ⟨"java/lang/StringUTF16", "getChar", "([BI)C"⟩
abbrev own_n29 : MethodName := ⟨"java/lang/StringUTF16", "newBytesFor", "(I)[B"⟩
abbrev own_n30 : MethodName := ⟨"java/lang/StringUTF16", "newBytesLength", "(I)I"⟩
abbrev own_n8 : MethodName := ⟨"com/example/gradual_reply/gradualreply/Utf8EncodePinLaw", "step", "([CI[B[I)V"⟩
abbrev own_n10 : MethodName := ⟨"com/example/gradual_reply/gradualreply/Utf8EncodePinLaw", "put", "([B[II)V"⟩
abbrev own_n67 : MethodName := ⟨"com/example/gradual_reply/gradualreply/Utf8EncodePinLaw", "isLow", "(C)Z"⟩
abbrev own_n9 : MethodName := ⟨"com/example/gradual_reply/gradualreply/Utf8EncodePinLaw", "isHigh", "(C)Z"⟩
theorem own_safeN {Z : State} {EL : List (String × Nat)} {vm : Vm} {h h' : Heap} {x : Addr} (H : CHv Z EL vm h) (E : Ext h h') (hx : h.size ≤ x) : Safe Z EL vm h' x := fun B => Safe.new hx ((H.step fun _ _ _ q => E.2 _ _ q).2 _ B)
theorem own_since (s : State) (n : Nat) : s.Since s.vm n := (State.WarmedH.refl s).since n
theorem own_mono {s t : State} {o : Outcome} {L : List Loc} {k n k' n' : Nat} (h : ReturnedEndW s o t L k n) (hk : k ≤ k') (hn : n ≤ n') : ReturnedEndW s o t L k' n' := ⟨h.1, h.2.1, h.2.2.1, h.2.2.2.mono hk hn⟩
theorem own_EW {Z : State} {a0 : Array Value} (hw : ∀ d ∈ tables_1, d.before a0 Z = true) : EW Z a0 consts_1 := (EW.cons (hw _ (List.mem_of_getElem? (i := 155) rfl)) (by decide +kernel) EW.nil)
theorem own_wS {Z : State} {a0 : Array Value} (hw : ∀ d ∈ tables_1, d.before a0 Z = true) : ∀ a ∈ Bundle.stringAtoms, a.before a0 Z = true := fun d hd => by
  simp only [Bundle.stringAtoms, List.mem_cons, List.not_mem_nil, or_false] at hd
  rcases hd with rfl | rfl | rfl | rfl | rfl | rfl | rfl
  · exact (hw _ (List.mem_of_getElem? (i := 8) rfl))
  · exact (hw _ (List.mem_of_getElem? (i := 7) rfl))
  · exact (hw _ (List.mem_of_getElem? (i := 24) rfl))
  · exact (hw _ (List.mem_of_getElem? (i := 34) rfl))
  · exact (hw _ (List.mem_of_getElem? (i := 32) rfl))
  · exact (hw _ (List.mem_of_getElem? (i := 156) rfl))
  · exact (hw _ (List.mem_of_getElem? (i := 157) rfl))
theorem own_up {cs : List Int32} (h : ∀ c ∈ cs, ¬ c < 0 ∧ ¬ (255 : Int32) < c) : ∀ c ∈ cs, ¬ c < 0 ∧ ¬ (65535 : Int32) < c := fun c hc => ⟨(h c hc).1, fun q => (h c hc).2 (by rw [Int32.lt_iff_toInt_lt] at q ⊢; have e1 : (65535 : Int32).toInt = 65535 := rfl; have e2 : (255 : Int32).toInt = 255 := rfl; omega)⟩
def own_eqs (cs ds : List Int32) : Int32 := if cs = ds then 1 else 0
theorem own_ey {cs ds : List Int32} (h : cs = ds) : ¬ own_eqs cs ds = 0 := by
  unfold own_eqs
  rw [if_pos h]; decide
theorem own_en {cs ds : List Int32} (h : ¬ cs = ds) : own_eqs cs ds = 0 := by
  unfold own_eqs
  rw [if_neg h]
theorem own_safe0 {Z : State} {a0 : Array Value} {EL : List (String × Nat)} {vm : Vm} {h : Heap} {x : Addr} (hZ : Z.Warmed39 vm) (wi : (Jvm.Cond.instantiable "java/lang/String" 4).before a0 Z = true) (E : Exa Z h x "java/lang/String") (F : Fld Z h x "java/lang/String" "value" "[B" .null) : Safe Z EL vm h x := fun B => by
  obtain ⟨p, -, u, a, -, q, hqa, G, hx⟩ := B
  obtain ⟨cS, ⟨⟨s1, s2, s3, ⟨cv, kv, iv, s4, s4'⟩, ⟨cc, kc, ic, s5, s5'⟩, s6, s7, s8, s9, s10, s11, s12, s13, s14, s15, s16⟩, hfS, hcS⟩, ⟨kS, k1, k2, k3⟩, hB, hbyt⟩ := G
  rcases hx with hx | hx
  · obtain ⟨cell, cf, k, i, f, e1, e2, e3, e4, e5, e6, e7⟩ := F
    obtain ⟨kv', z4⟩ := ff_back (U := Wst Z vm h) hZ.alike s4
    cases e2.symm.trans z4
    have s1' : h[q.sa]? = some q.sC := s1
    rw [← hx, e1] at s1'
    cases s1'
    rw [e7] at s8
    cases s8
  · obtain ⟨cell, k, e1, e2, e3, e4, e5⟩ := E
    have s10' : h[q.sd]? = some q.SA := s10
    rw [← hx, e1] at s10'
    cases s10'
    obtain ⟨-, k9, hk9, comp, hkind9⟩ := s11
    obtain ⟨c1, kk, f1, f2, f3, -⟩ := Cond.instantiable_spec wi
    cases e2.symm.trans f1
    obtain ⟨k', q1, q2⟩ := hZ.alike.2.2 _ _ f2
    have hk9' : vm.classes[q.SA.cls]? = some k9 := hk9
    have e9 : k9 = k' := Option.some.inj (hk9'.symm.trans q1)
    rw [e9, q2, f3] at hkind9
    cases hkind9

def own_b (x : Int32) : Int32 := (x.toInt8.toInt32).toInt8.toInt32
def own_k (x : Int32) : Int32 := x.toUInt32.toUInt16.toUInt32.toInt32
theorem own_bvb (x : Int32) : (own_b x).toBitVec = (x.toBitVec.setWidth 8).signExtend 32 := by
  have e : BitVec.signExtend 8 x.toBitVec = BitVec.setWidth 8 x.toBitVec := BitVec.signExtend_eq_setWidth_of_le _ (by decide)
  simp [own_b, e]
theorem own_bvk (x : Int32) : (own_k x).toBitVec = (x.toBitVec.setWidth 16).setWidth 32 := rfl
def own_lt (c : Int32) (n : Nat) : Prop := ∀ i, n ≤ i → c.toBitVec.getLsbD i = false
theorem own_bits {c : Int32} {n : Nat} (h0 : 0 ≤ c.toInt) (h : c.toInt < 2 ^ n) : own_lt c n := fun i hi => by
  have e : c.toBitVec.toNat < 2 ^ n := by
    have : (c.toBitVec.toNat : Int) = c.toInt := by
      have q := BitVec.toInt_eq_toNat_cond c.toBitVec
      have r : c.toBitVec.toInt = c.toInt := rfl
      have := c.toBitVec.isLt
      split at q <;> omega
    have e2 : ((2 ^ n : Nat) : Int) = (2 : Int) ^ n := by simp
    omega
  rw [BitVec.getLsbD]
  exact Nat.testBit_lt_two_pow (Nat.lt_of_lt_of_le e (Nat.pow_le_pow_right (by decide) hi))
theorem own_ex (x : Int32) (n : Nat) (h0 : 0 ≤ x.toInt) (h : x.toInt < n) (hn : n ≤ 2147483647) : ∃ k : Fin n, x = Int32.ofNat k.val := by
  refine ⟨⟨x.toInt.toNat, by omega⟩, ?_⟩
  apply Int32.toInt_inj.mp
  rw [Int32.toInt_ofNat_of_lt (by show x.toInt.toNat < _; omega)]
  show _ = (x.toInt.toNat : Int)
  omega
theorem own_mask (x : Int32) (n : Nat) (hn : n < 31) (m : Int32) (hm : m.toBitVec = BitVec.ofNat 32 (2 ^ n - 1)) : 0 ≤ (x &&& m).toInt ∧ (x &&& m).toInt < 2 ^ n := by
  have hp : 2 ^ n ≤ 2 ^ 30 := Nat.pow_le_pow_right (by decide) (by omega)
  have hp0 : 0 < 2 ^ n := Nat.pow_pos (by decide)
  have e : (x &&& m).toBitVec.toNat < 2 ^ n := by
    rw [Int32.toBitVec_and, hm, BitVec.toNat_and, BitVec.toNat_ofNat, Nat.mod_eq_of_lt (a := 2 ^ n - 1) (by omega)]
    have := Nat.and_le_right (n := x.toBitVec.toNat) (m := 2 ^ n - 1)
    omega
  have q := BitVec.toInt_eq_toNat_cond (x &&& m).toBitVec
  have r : (x &&& m).toBitVec.toInt = (x &&& m).toInt := rfl
  rw [r] at q
  have e2 : ((2 ^ n : Nat) : Int) = (2 : Int) ^ n := by simp
  rw [if_pos (by omega)] at q
  omega
theorem own_m63 (x : Int32) : ∃ k : Fin 64, x &&& (63 : Int32) = Int32.ofNat k.val := own_ex _ 64 (own_mask x 6 (by decide) 63 (by decide)).1 (own_mask x 6 (by decide) 63 (by decide)).2 (by decide)
theorem own_k1 {c : Int32} (h0 : 0 ≤ c.toInt) (h1 : c.toInt < 65536) : own_k c = c := by
  apply Int32.toInt_inj.mp
  have := c_i2c c
  unfold own_k
  omega
theorem own_kr (c : Int32) : ¬ own_k c < 0 ∧ ¬ (65535 : Int32) < own_k c := by
  have := c_i2c c
  rw [Int32.lt_iff_toInt_lt, Int32.lt_iff_toInt_lt, show (0 : Int32).toInt = 0 from rfl, show (65535 : Int32).toInt = 65535 from rfl]
  unfold own_k
  omega
theorem own_bb (x : Int32) : own_b x = StrChars.lo8 x := by simp [own_b, StrChars.lo8]
def own_lo (q : Int32) : Int32 := own_b (q >>> ((0 : Int32) &&& 31))
def own_hi (q : Int32) : Int32 := own_b (q >>> ((8 : Int32) &&& 31))
def own_gc (u v : Int32) : Int32 := own_k (own_k (((u &&& (255 : Int32)) <<< ((0 : Int32) &&& 31)) ||| ((v &&& (255 : Int32)) <<< ((8 : Int32) &&& 31))))
theorem own_s0 (q : Int32) : q >>> ((0 : Int32) &&& 31) = q := by
  apply Int32.toBitVec_inj.mp
  rw [Int32.toBitVec_shiftRight]
  simp
theorem own_loe (q : Int32) : own_lo q = StrChars.lo8 q := by rw [own_lo, own_s0, own_bb]
theorem own_hie (q : Int32) : own_hi q = StrChars.lo8 (q >>> ((8 : Int32) &&& 31)) := by rw [own_hi, own_bb]
theorem own_gce {c : Int32} (h0 : 0 ≤ c.toInt) (h1 : c.toInt < 65536) : own_gc (own_lo c) (own_hi c) = c := by
  have h : own_lt c 16 := own_bits h0 (by omega)
  apply Int32.toBitVec_inj.mp
  rw [own_lo, own_s0]
  unfold own_gc own_hi
  simp only [own_bvk, Int32.toBitVec_shiftLeft, own_bvb, Int32.toBitVec_or, Int32.toBitVec_and, Int32.toBitVec_shiftRight]
  unfold own_lt at h
  generalize c.toBitVec = x at *
  apply BitVec.eq_of_getLsbD_eq
  intro i hi
  have : i = 0 ∨ i = 1 ∨ i = 2 ∨ i = 3 ∨ i = 4 ∨ i = 5 ∨ i = 6 ∨ i = 7 ∨ i = 8 ∨ i = 9 ∨ i = 10 ∨ i = 11 ∨ i = 12 ∨ i = 13 ∨ i = 14 ∨ i = 15 ∨ 16 ≤ i := by omega
  rcases this with rfl | rfl | rfl | rfl | rfl | rfl | rfl | rfl | rfl | rfl | rfl | rfl | rfl | rfl | rfl | rfl | h16
  case inr.inr.inr.inr.inr.inr.inr.inr.inr.inr.inr.inr.inr.inr.inr.inr =>
    have z : ∀ y : BitVec 32, ((y.setWidth 16).setWidth 32).getLsbD i = false := fun y => by
      rw [BitVec.getLsbD_setWidth, BitVec.getLsbD_setWidth, decide_eq_false (show ¬ i < 16 by omega)]; simp
    rw [z, h i h16]
  all_goals simp [BitVec.getLsbD_sshiftRight, BitVec.getLsbD_signExtend, BitVec.getElem_signExtend, BitVec.getElem_sshiftRight, BitVec.msb_eq_getLsbD_last]


def own_SU (Z : State) (zc : Int32) (fm fn : Value) (u8 : Addr) : Prop := Sta Z Z.heap "java/lang/StringUTF16" "$assertionsDisabled" "Z" (.int 1) ∧ Sta Z Z.heap "java/lang/StringUTF16" "HI_BYTE_SHIFT" "I" (.int 0) ∧ Sta Z Z.heap "java/lang/StringUTF16" "LO_BYTE_SHIFT" "I" (.int 8) ∧ Sta Z Z.heap "java/lang/String" "COMPACT_STRINGS" "Z" (.int zc) ∧ Sta Z Z.heap "jdk/internal/util/Preconditions" "SIOOBE_FORMATTER" "Ljava/util/function/BiFunction;" fm ∧ Sta Z Z.heap "java/nio/charset/StandardCharsets" "UTF_8" "Ljava/nio/charset/Charset;" (.ref u8) ∧ Sta Z Z.heap "sun/nio/cs/UTF_8" "INSTANCE" "Lsun/nio/cs/UTF_8;" (.ref u8) ∧ Sta Z Z.heap "jdk/internal/util/Preconditions" "IOOBE_FORMATTER" "Ljava/util/function/BiFunction;" fn ∧ ¬ zc = 0 ∧ fm.isRef = true ∧ fn.isRef = true
def own_ih (c : Int32) : Int32 := if c < (55296 : Int32) then (0 : Int32) else if (56319 : Int32) < c then (0 : Int32) else (1 : Int32)
def own_il (c : Int32) : Int32 := if c < (56320 : Int32) then (0 : Int32) else if (57343 : Int32) < c then (0 : Int32) else (1 : Int32)
def own_u (c : Int32) : Int32 := if c < (55296 : Int32) then c else if (57343 : Int32) < c then c else (65533 : Int32)
def own_f0 (u : Int32) : Value := .int (own_b ((128 : Int32) ||| (u &&& (63 : Int32))))
def own_f6 (u : Int32) : Value := .int (own_b ((128 : Int32) ||| ((u >>> ((6 : Int32) &&& 31)) &&& (63 : Int32))))
def own_f12 (u : Int32) : Value := .int (own_b ((128 : Int32) ||| ((u >>> ((12 : Int32) &&& 31)) &&& (63 : Int32))))
def own_l2 (u : Int32) : Value := .int (own_b ((192 : Int32) ||| (u >>> ((6 : Int32) &&& 31))))
def own_l3 (u : Int32) : Value := .int (own_b ((224 : Int32) ||| (u >>> ((12 : Int32) &&& 31))))
def own_l4 (u : Int32) : Value := .int (own_b ((240 : Int32) ||| (u >>> ((18 : Int32) &&& 31))))
def own_e1 (u : Int32) : List Value := if u < (128 : Int32) then [.int (own_b u)] else if u < (2048 : Int32) then [own_l2 u, own_f0 u] else [own_l3 u, own_f6 u, own_f0 u]
def own_e4 (u : Int32) : List Value := [own_l4 u, own_f12 u, own_f6 u, own_f0 u]
def own_q4 (c d : Int32) : Int32 := ((65536 : Int32) + ((c - (55296 : Int32)) <<< ((10 : Int32) &&& 31))) + (d - (56320 : Int32))
theorem own_pn {bs : List Value} {rr : Nat} {pp : Int32} (hp : pp = Int32.ofNat bs.length) (hr : bs.length + (rr + 1) = 12) : pp.toInt = bs.length := by
  subst hp
  exact Int32.toInt_ofNat_of_lt (by omega)
theorem own_pj {bs : List Value} {rr : Nat} {pp : Int32} (hp : pp = Int32.ofNat bs.length) (hr : bs.length + (rr + 1) = 12) : ¬ pp < 0 ∧ pp < (12 : Int32) := by
  have e := own_pn hp hr
  rw [Int32.lt_iff_toInt_lt, Int32.lt_iff_toInt_lt, show (0 : Int32).toInt = 0 from rfl, show (12 : Int32).toInt = 12 from rfl]
  omega
theorem own_pi {bs : List Value} {rr : Nat} {pp : Int32} (hp : pp = Int32.ofNat bs.length) (hr : bs.length + (rr + 1) = 12) : pp.toNatClampNeg = bs.length := by
  have e := own_pn hp hr
  simp only [Int32.toNatClampNeg]
  omega
theorem own_pl (bs : List Value) (rr : Nat) (v : Value) : bs.length < (bs ++ List.replicate (rr + 1) v).length := by
  rw [List.length_append, List.length_replicate]
  omega
theorem own_pv (bs : List Value) (rr : Nat) (v w : Value) : (bs ++ List.replicate (rr + 1) v).set bs.length w = (bs ++ [w]) ++ List.replicate rr v := by
  rw [List.set_append_right _ _ (Nat.le_refl _), Nat.sub_self, List.replicate_succ, List.set_cons_zero, List.append_assoc]
  rfl
theorem own_ps {bs : List Value} {pp : Int32} (v : Value) (hp : pp = Int32.ofNat bs.length) : pp + (1 : Int32) = Int32.ofNat (bs ++ [v]).length := by
  subst hp
  rw [List.length_append, Int32.ofNat_add]
  rfl
theorem own_pr {bs : List Value} {rr : Nat} (v : Value) (hr : bs.length + (rr + 1) = 12) : (bs ++ [v]).length + rr = 12 := by
  rw [List.length_append]
  show bs.length + 1 + rr = 12
  omega
theorem own_ea {u : Int32} (h : u < (128 : Int32)) : own_e1 u = [.int (own_b u)] := if_pos h
theorem own_eb {u : Int32} (h : ¬ u < (128 : Int32)) (h2 : u < (2048 : Int32)) : own_e1 u = [own_l2 u, own_f0 u] := by rw [own_e1, if_neg h, if_pos h2]
theorem own_ec {u : Int32} (h : ¬ u < (128 : Int32)) (h2 : ¬ u < (2048 : Int32)) : own_e1 u = [own_l3 u, own_f6 u, own_f0 u] := by rw [own_e1, if_neg h, if_neg h2]
theorem own_a2 (bs : List Value) (v w : Value) : bs ++ [v, w] = (bs ++ [v]) ++ [w] := by simp
theorem own_a3 (bs : List Value) (v w x : Value) : bs ++ [v, w, x] = ((bs ++ [v]) ++ [w]) ++ [x] := by simp
theorem own_a4 (bs : List Value) (v w x y : Value) : bs ++ [v, w, x, y] = (((bs ++ [v]) ++ [w]) ++ [x]) ++ [y] := by simp
theorem own_i2 (e : Int32) (h : ¬ own_il e = 0) : ¬ own_il e = 0 := h

def L9 : List (Nat × Instr × Nat) := [(0, .iload_n 0, 1), (1, .ldc 7, 2), (3, .if_icmp .lt 13, 3), (6, .iload_n 0, 1), (7, .ldc 9, 2), (9, .if_icmp .gt 7, 3), (12, .iconst 1, 1), (13, .goto 4, 3), (16, .iconst 0, 1), (17, .ireturn, 1)]
theorem D9 : ∀ k : Nat, own_PP method_3_code L9[k]? := own_dd (by decide +kernel)
theorem pn_com_example_gradual_reply_gradualreply_Utf8EncodePinLaw : plainName "com/example/gradual_reply/gradualreply/Utf8EncodePinLaw" = true := by first | (simp [plainName, overriddenIn]; done) | decide +kernel
theorem rm9 (hw : own_W a0 Z) (cc : Int32) {h0 : Heap} {n0 : Nat} (O0 : Old Z n0 h0) : own_M l own_n9 method_3_code 1 (some .boolean) (own_rm 0 0 0 0) Z h0 #[.int cc] (fun v h L => v = some (.int (own_ih cc)) ∧ Fr n0 L ∧ h = h0) := by
  refine own_body (L0 := #[.val (.int cc)]) (plainFor_of_name pn_com_example_gradual_reply_gradualreply_Utf8EncodePinLaw) rfl rfl ?_
  intro p e s m below meth c s₁ f0 Bd hx Hb hml hZ hown X0 e0 pre0
  have hby := Hb.2
  have W := own_q hw
  have N0 := Fr.nil n0
  have O := O0
  have w1 : own_Go p e below f0 s₁ m 3 #[.val (.int cc)] [.int 55296, .int cc] := fun t k => by
    refine pre0 t ?_
    refine zil X0 Hb (D9 0) rfl <| X0.ldcInt hx hown (mvT hZ (W 42 rfl)) (g := (mkF m 1 #[.val (.int cc)] [.int cc])) rfl (hb hby (D9 1)) _ ?_
    exact k
  by_cases hc3_2 : cc < (55296 : Int32)
  · have w3 : own_Go p e below f0 s₁ m 17 #[.val (.int cc)] [.int 0] := fun t k => by
      refine w1 t ?_
      refine zcy X0 Hb (D9 2) (tlt hc3_2).1 16 (by decide) rfl <| zic X0 Hb (D9 8) 0 rfl ?_
      exact k
    exact own_oN X0 Hb Bd.notSynchronized Bd.returns (by simp) w3 (D9 9) e0 (by decide) (by decide) ⟨(by show some (Value.int (0 : Int32)) = _; simp [own_ih, hc3_2]), N0, rfl⟩
  · have w4 : own_Go p e below f0 s₁ m 9 #[.val (.int cc)] [.int 56319, .int cc] := fun t k => by
      refine w1 t ?_
      refine zcn X0 Hb (D9 2) (flt hc3_2).1 <| zil X0 Hb (D9 3) rfl <| X0.ldcInt hx hown (mvT hZ (W 171 rfl)) (g := (mkF m 7 #[.val (.int cc)] [.int cc])) rfl (hb hby (D9 4)) _ ?_
      exact k
    by_cases hc9_5 : (56319 : Int32) < cc
    · have w6 : own_Go p e below f0 s₁ m 17 #[.val (.int cc)] [.int 0] := fun t k => by
        refine w4 t ?_
        refine zcy X0 Hb (D9 5) (tlt hc9_5).2.2.1 16 (by decide) rfl <| zic X0 Hb (D9 8) 0 rfl ?_
        exact k
      exact own_oN X0 Hb Bd.notSynchronized Bd.returns (by simp) w6 (D9 9) e0 (by decide) (by decide) ⟨(by show some (Value.int (0 : Int32)) = _; simp [own_ih, hc3_2, hc9_5]), N0, rfl⟩
    · have w7 : own_Go p e below f0 s₁ m 17 #[.val (.int cc)] [.int 1] := fun t k => by
        refine w4 t ?_
        refine zcn X0 Hb (D9 5) (flt hc9_5).2.2.1 <| zic X0 Hb (D9 6) 1 rfl <| zgo X0 Hb (D9 7) 17 (by decide) rfl ?_
        exact k
      exact own_oN X0 Hb Bd.notSynchronized Bd.returns (by simp) w7 (D9 9) e0 (by decide) (by decide) ⟨(by show some (Value.int (1 : Int32)) = _; simp [own_ih, hc3_2, hc9_5]), N0, rfl⟩
def L67 : List (Nat × Instr × Nat) := [(0, .iload_n 0, 1), (1, .ldc 10, 2), (3, .if_icmp .lt 13, 3), (6, .iload_n 0, 1), (7, .ldc 11, 2), (9, .if_icmp .gt 7, 3), (12, .iconst 1, 1), (13, .goto 4, 3), (16, .iconst 0, 1), (17, .ireturn, 1)]
theorem D67 : ∀ k : Nat, own_PP method_4_code L67[k]? := own_dd (by decide +kernel)
theorem rm67 (hw : own_W a0 Z) (cc : Int32) {h0 : Heap} {n0 : Nat} (O0 : Old Z n0 h0) : own_M l own_n67 method_4_code 1 (some .boolean) (own_rm 0 0 0 0) Z h0 #[.int cc] (fun v h L => v = some (.int (own_il cc)) ∧ Fr n0 L ∧ h = h0) := by
  refine own_body (L0 := #[.val (.int cc)]) (plainFor_of_name pn_com_example_gradual_reply_gradualreply_Utf8EncodePinLaw) rfl rfl ?_
  intro p e s m below meth c s₁ f0 Bd hx Hb hml hZ hown X0 e0 pre0
  have hby := Hb.2
  have W := own_q hw
  have N0 := Fr.nil n0
  have O := O0
  have w1 : own_Go p e below f0 s₁ m 3 #[.val (.int cc)] [.int 56320, .int cc] := fun t k => by
    refine pre0 t ?_
    refine zil X0 Hb (D67 0) rfl <| X0.ldcInt hx hown (mvT hZ (W 332 rfl)) (g := (mkF m 1 #[.val (.int cc)] [.int cc])) rfl (hb hby (D67 1)) _ ?_
    exact k
  by_cases hc3_2 : cc < (56320 : Int32)
  · have w3 : own_Go p e below f0 s₁ m 17 #[.val (.int cc)] [.int 0] := fun t k => by
      refine w1 t ?_
      refine zcy X0 Hb (D67 2) (tlt hc3_2).1 16 (by decide) rfl <| zic X0 Hb (D67 8) 0 rfl ?_
      exact k
    exact own_oN X0 Hb Bd.notSynchronized Bd.returns (by simp) w3 (D67 9) e0 (by decide) (by decide) ⟨(by show some (Value.int (0 : Int32)) = _; simp [own_il, hc3_2]), N0, rfl⟩
  · have w4 : own_Go p e below f0 s₁ m 9 #[.val (.int cc)] [.int 57343, .int cc] := fun t k => by
      refine w1 t ?_
      refine zcn X0 Hb (D67 2) (flt hc3_2).1 <| zil X0 Hb (D67 3) rfl <| X0.ldcInt hx hown (mvT hZ (W 172 rfl)) (g := (mkF m 7 #[.val (.int cc)] [.int cc])) rfl (hb hby (D67 4)) _ ?_
      exact k
    by_cases hc9_5 : (57343 : Int32) < cc
    · have w6 : own_Go p e below f0 s₁ m 17 #[.val (.int cc)] [.int 0] := fun t k => by
        refine w4 t ?_
        refine zcy X0 Hb (D67 5) (tlt hc9_5).2.2.1 16 (by decide) rfl <| zic X0 Hb (D67 8) 0 rfl ?_
        exact k
      exact own_oN X0 Hb Bd.notSynchronized Bd.returns (by simp) w6 (D67 9) e0 (by decide) (by decide) ⟨(by show some (Value.int (0 : Int32)) = _; simp [own_il, hc3_2, hc9_5]), N0, rfl⟩
    · have w7 : own_Go p e below f0 s₁ m 17 #[.val (.int cc)] [.int 1] := fun t k => by
        refine w4 t ?_
        refine zcn X0 Hb (D67 5) (flt hc9_5).2.2.1 <| zic X0 Hb (D67 6) 1 rfl <| zgo X0 Hb (D67 7) 17 (by decide) rfl ?_
        exact k
      exact own_oN X0 Hb Bd.notSynchronized Bd.returns (by simp) w7 (D67 9) e0 (by decide) (by decide) ⟨(by show some (Value.int (1 : Int32)) = _; simp [own_il, hc3_2, hc9_5]), N0, rfl⟩
def L10 : List (Nat × Instr × Nat) := [(0, .aload_n 0, 1), (1, .aload_n 1, 1), (2, .iconst 1, 1), (3, .iaload, 1), (4, .iload_n 2, 1), (5, .i2b, 1), (6, .bastore, 1), (7, .aload_n 1, 1), (8, .iconst 1, 1), (9, .aload_n 1, 1), (10, .iconst 1, 1), (11, .iaload, 1), (12, .iconst 1, 1), (13, .iadd, 1), (14, .iastore, 1), (15, .return_, 1)]
theorem D10 : ∀ k : Nat, own_PP method_5_code L10[k]? := own_dd (by decide +kernel)
theorem rm10 (hw : own_W a0 Z) (o sa : Addr) (vv : Int32) (ko ks : ClassId) (bs : List Value) (rr : Nat) (ii pp : Int32) {h0 : Heap} {n0 : Nat} (O0 : Old Z n0 h0) (V_o : Arv Z h0 o ko .byte (12 : Int32) (bs ++ List.replicate (rr + 1) (.int 0)) (.int 0)) (V_sa : Arv Z h0 sa ks .int (2 : Int32) [.int ii, .int pp] (.int 0)) (nos : o ≠ sa) (hp : pp = Int32.ofNat bs.length) (hr : bs.length + (rr + 1) = 12) (g_o : n0 ≤ o) (g_sa : n0 ≤ sa) : own_M l own_n10 method_5_code 3 none (own_rm 0 0 0 0) Z h0 #[.ref o, .ref sa, .int vv] (fun v h L => v = none ∧ Fr n0 L ∧ Keep h0 h [o, sa] ∧ Arv Z h o ko .byte (12 : Int32) ((bs ++ [.int (own_b vv)]) ++ List.replicate rr (.int 0)) (.int 0) ∧ Arv Z h sa ks .int (2 : Int32) [.int ii, (.int (pp + (1 : Int32)))] (.int 0)) := by
  refine own_body (L0 := #[.val (.ref o), .val (.ref sa), .val (.int vv)]) (plainFor_of_name pn_com_example_gradual_reply_gradualreply_Utf8EncodePinLaw) rfl rfl ?_
  intro p e s m below meth c s₁ f0 Bd hx Hb hml hZ hown X0 e0 pre0
  have hby := Hb.2
  have N0 := Fr.nil n0
  have O := O0
  have K := Keep.refl h0 [o, sa]
  have B1 : own_El Z h0 sa .int (1 : Int32) (.int pp) := own_el V_sa ⟨by decide, by decide⟩ rfl
  obtain ⟨T2, h2, X2, e2, W2, V_o, st2⟩ := own_sB X0 Hb hZ e0 V_o (x := (vv.toInt8.toInt32)) (L := #[.val (.ref o), .val (.ref sa), .val (.int vv)]) (S := []) (own_pj hp hr) (own_pi hp hr) (own_pl _ _ _) (D10 6) (own_pv _ _ _ _)
  have V_sa := V_sa.other W2 (Ne.symm nos)
  have O := O.wr W2 g_o
  have K := K.wr W2 (Or.inl (List.mem_of_getElem? (i := 0) rfl))
  have N2 := Fr.snoc X2 N0 g_o
  have B3 : own_El Z h2 sa .int (1 : Int32) (.int pp) := own_el V_sa ⟨by decide, by decide⟩ rfl
  obtain ⟨cl4, Ar4, q4, Z4, N4, H4, G4⟩ := id V_sa
  have hin4 : ¬ ((1 : Int32) < 0 ∨ cl4.slots.size ≤ ((1 : Int32)).toNatClampNeg) := inb_of Z4 ⟨by decide, by decide⟩
  obtain ⟨T5, h5, X5, e5, W5, st5⟩ := stI X2 hx hZ e2 Ar4 (j := (1 : Int32)) hin4 (g := (mkF m 14 #[.val (.ref o), .val (.ref sa), .val (.int vv)] [(.int (pp + (1 : Int32))), .int 1, .ref sa])) rfl rfl (hb hby (D10 14))
  have V_sa : Arv Z h5 sa ks .int (2 : Int32) [.int ii, (.int (pp + (1 : Int32)))] (.int 0) := Arv.set Ar4 q4 Z4 N4 H4 G4 rfl W5 1 rfl (Nat.le_of_ble_eq_true rfl)
  have V_o := V_o.other W5 nos
  have O := O.wr W5 g_sa
  have K := K.wr W5 (Or.inl (List.mem_of_getElem? (i := 1) rfl))
  have N5 := Fr.snoc X5 N2 g_sa
  have w6 : own_Go p e below f0 T5 m 15 #[.val (.ref o), .val (.ref sa), .val (.int vv)] [] := fun t k => by
    refine pre0 t ?_
    refine zal X0 Hb (D10 0) rfl rfl <| zal X0 Hb (D10 1) rfl rfl <| zic X0 Hb (D10 2) 1 rfl <| zia_ X0 Hb hZ e0 B1 (D10 3) <| zil X0 Hb (D10 4) rfl <| zib X0 Hb (D10 5) <| st2 _ <| zal X2 Hb (D10 7) rfl rfl ?_
    refine zic X2 Hb (D10 8) 1 rfl <| zal X2 Hb (D10 9) rfl rfl <| zic X2 Hb (D10 10) 1 rfl <| zia_ X2 Hb hZ e2 B3 (D10 11) <| zic X2 Hb (D10 12) 1 rfl <| zia X2 Hb (D10 13) <| st5 _ ?_
    exact k
  exact own_oV X5 Hb Bd.notSynchronized Bd.returns w6 (D10 15) e5 (by decide) (by decide) ⟨rfl, N5, K, V_o, V_sa⟩
def L8 : List (Nat × Instr × Nat) := [(0, .aload_n 3, 1), (1, .iconst 0, 1), (2, .iaload, 1), (3, .istore 4, 2), (5, .iload 4, 2), (7, .iload_n 1, 1), (8, .if_icmp .lt 4, 3), (11, .return_, 1), (12, .aload_n 0, 1), (13, .iload 4, 2), (15, .caload, 1), (16, .istore 5, 2), (18, .iload 5, 2), (20, .invokestatic 12, 3), (23, .ifCond .eq 118, 3), (26, .iload 4, 2), (28, .iconst 1, 1), (29, .iadd, 1), (30, .iload_n 1, 1), (31, .if_icmp .ge 110, 3), (34, .aload_n 0, 1), (35, .iload 4, 2), (37, .iconst 1, 1), (38, .iadd, 1), (39, .caload, 1), (40, .invokestatic 18, 3), (43, .ifCond .eq 98, 3), (46, .ldc 21, 2), (48, .iload 5, 2), (50, .ldc 7, 2), (52, .isub, 1), (53, .bipush 10, 2), (55, .ishl, 1), (56, .iadd, 1), (57, .aload_n 0, 1), (58, .iload 4, 2), (60, .iconst 1, 1), (61, .iadd, 1), (62, .caload, 1), (63, .ldc 10, 2), (65, .isub, 1), (66, .iadd, 1), (67, .istore 6, 2), (69, .aload_n 2, 1), (70, .aload_n 3, 1), (71, .sipush 240, 3), (74, .iload 6, 2), (76, .bipush 18, 2), (78, .ishr, 1), (79, .ior, 1), (80, .invokestatic 22, 3), (83, .aload_n 2, 1), (84, .aload_n 3, 1), (85, .sipush 128, 3), (88, .iload 6, 2), (90, .bipush 12, 2), (92, .ishr, 1), (93, .bipush 63, 2), (95, .iand, 1), (96, .ior, 1), (97, .invokestatic 22, 3), (100, .aload_n 2, 1), (101, .aload_n 3, 1), (102, .sipush 128, 3), (105, .iload 6, 2), (107, .bipush 6, 2), (109, .ishr, 1), (110, .bipush 63, 2), (112, .iand, 1), (113, .ior, 1), (114, .invokestatic 22, 3), (117, .aload_n 2, 1), (118, .aload_n 3, 1), (119, .sipush 128, 3), (122, .iload 6, 2), (124, .bipush 63, 2), (126, .iand, 1), (127, .ior, 1), (128, .invokestatic 22, 3), (131, .aload_n 3, 1), (132, .iconst 0, 1), (133, .iload 4, 2), (135, .iconst 2, 1), (136, .iadd, 1), (137, .iastore, 1), (138, .goto 135, 3), (141, .iload 5, 2), (143, .ldc 7, 2), (145, .if_icmp .lt 15, 3), (148, .iload 5, 2), (150, .ldc 11, 2), (152, .if_icmp .gt 8, 3), (155, .ldc 26, 2), (157, .goto 5, 3), (160, .iload 5, 2), (162, .istore 6, 2), (164, .iload 6, 2), (166, .sipush 128, 3), (169, .if_icmp .ge 13, 3), (172, .aload_n 2, 1), (173, .aload_n 3, 1), (174, .iload 6, 2), (176, .invokestatic 22, 3), (179, .goto 87, 3), (182, .iload 6, 2), (184, .sipush 2048, 3), (187, .if_icmp .ge 34, 3), (190, .aload_n 2, 1), (191, .aload_n 3, 1), (192, .sipush 192, 3), (195, .iload 6, 2), (197, .bipush 6, 2), (199, .ishr, 1), (200, .ior, 1), (201, .invokestatic 22, 3), (204, .aload_n 2, 1), (205, .aload_n 3, 1), (206, .sipush 128, 3), (209, .iload 6, 2), (211, .bipush 63, 2), (213, .iand, 1), (214, .ior, 1), (215, .invokestatic 22, 3), (218, .goto 48, 3), (221, .aload_n 2, 1), (222, .aload_n 3, 1), (223, .sipush 224, 3), (226, .iload 6, 2), (228, .bipush 12, 2), (230, .ishr, 1), (231, .ior, 1), (232, .invokestatic 22, 3), (235, .aload_n 2, 1), (236, .aload_n 3, 1), (237, .sipush 128, 3), (240, .iload 6, 2), (242, .bipush 6, 2), (244, .ishr, 1), (245, .bipush 63, 2), (247, .iand, 1), (248, .ior, 1), (249, .invokestatic 22, 3), (252, .aload_n 2, 1), (253, .aload_n 3, 1), (254, .sipush 128, 3), (257, .iload 6, 2), (259, .bipush 63, 2), (261, .iand, 1), (262, .ior, 1), (263, .invokestatic 22, 3), (266, .aload_n 3, 1), (267, .iconst 0, 1), (268, .iload 4, 2), (270, .iconst 1, 1), (271, .iadd, 1), (272, .iastore, 1), (273, .return_, 1)]
theorem D8 : ∀ k : Nat, own_PP method_6_code L8[k]? := own_dd (by decide +kernel)
def own_F0 (x0 : Addr) (x1 : Int32) (x2 : Addr) (x3 : Addr) (x4 : Int32) (x5 : Int32) : Array Slot := #[.val (.ref x0), .val (.int x1), .val (.ref x2), .val (.ref x3), .val (.int x4), .val (.int x5), .unset]
def own_F1 (x0 : Addr) (x1 : Int32) (x2 : Addr) (x3 : Addr) (x4 : Int32) (x5 : Int32) (x6 : Int32) : Array Slot := #[.val (.ref x0), .val (.int x1), .val (.ref x2), .val (.ref x3), .val (.int x4), .val (.int x5), .val (.int x6)]
theorem pd0 : parseMethodDescriptor "([B[II)V" = some ⟨[(.array .byte), (.array .int), .int], none⟩ := by decide +kernel
theorem fr8 {p : Program} {e : Env} {R : Room} {s : State} {m : MethodId} {args : Array Value} {below : List Frame} {meth : Method} {c : Code} {T f0 : State} {locs : List Loc} {cells slots : Nat} (hw : own_W a0 Z) (b : Addr) (nn : Int32) (o sa : Addr) (ko ks : ClassId) (bs : List Value) (rr : Nat) (ii pp cc : Int32) {h0 : Heap} {n0 : Nat} (X0 : Stand p l e R s m args below meth c T locs cells slots) (hx : p.tables.exec = Jvm.exec) (Hb : own_H p c method_6_code) (hZ : Z.Warmed39 s.vm) (hown : s.vm.findClass own_n8.cls = some m.cls) (hml : c.maxLocals = 7) (hR : 1 ≤ R.frames ∧ 14 ≤ R.locals ∧ cells ≤ R.cells ∧ slots ≤ R.slots) (e0 : T.heap = h0) (N0 : Fr n0 locs) (O : Old Z n0 h0) (V_o : Arv Z h0 o ko .byte (12 : Int32) (bs ++ List.replicate (rr + 4) (.int 0)) (.int 0)) (V_sa : Arv Z h0 sa ks .int (2 : Int32) [.int ii, .int pp] (.int 0)) (nos : o ≠ sa) (hp : pp = Int32.ofNat bs.length) (hr : bs.length + (rr + 4) = 12) (g_o : n0 ≤ o) (g_sa : n0 ≤ sa) (pre0 : own_Go p e below f0 T m 141 (own_F0 b nn o sa ii cc) []) : ∃ (T' : State) (L' : List Loc) (r2 : Nat) (pq : Int32), Stand p l e R s m args below meth c T' L' cells slots ∧ Fr n0 L' ∧ Keep h0 T'.heap [o, sa] ∧ Arv Z T'.heap o ko .byte (12 : Int32) ((bs ++ own_e1 (own_u cc)) ++ List.replicate r2 (.int 0)) (.int 0) ∧ Arv Z T'.heap sa ks .int (2 : Int32) [(.int (ii + (1 : Int32))), .int pq] (.int 0) ∧ pq = Int32.ofNat (bs ++ own_e1 (own_u cc)).length ∧ (bs ++ own_e1 (own_u cc)).length + r2 = 12 ∧ rr ≤ r2 ∧ own_Go p e below f0 T' m 273 (own_F1 b nn o sa ii cc (own_u cc)) [] := by
  have hby := Hb.2
  have W := own_q hw
  have K := Keep.refl h0 [o, sa]
  have w1 : own_Go p e below f0 T m 145 (own_F0 b nn o sa ii cc) [.int 55296, .int cc] := fun t k => by
    refine pre0 t ?_
    refine ziL X0 Hb (D8 86) rfl <| X0.ldcInt hx hown (mvT hZ (W 42 rfl)) (g := (mkF m 143 (own_F0 b nn o sa ii cc) [.int cc])) rfl (hb hby (D8 87)) _ ?_
    exact k
  obtain ⟨uu, huu⟩ : ∃ v : Int32, v = (if cc < (55296 : Int32) then cc else (if (57343 : Int32) < cc then cc else (65533 : Int32))) := ⟨_, rfl⟩
  have w4 : own_Go p e below f0 T m 162 (own_F0 b nn o sa ii cc) [.int uu] := fun t k => by
    refine w1 t ?_
    by_cases hm2 : cc < (55296 : Int32)
    · refine zcy X0 Hb (D8 88) (tlt hm2).1 160 (by decide) rfl <| ziL X0 Hb (D8 94) rfl ?_
      rw [show uu = cc from by rw [huu]; simp only [if_pos hm2]] at k
      exact k
    · refine zcn X0 Hb (D8 88) (flt hm2).1 <| ziL X0 Hb (D8 89) rfl <| X0.ldcInt hx hown (mvT hZ (W 172 rfl)) (g := (mkF m 150 (own_F0 b nn o sa ii cc) [.int cc])) rfl (hb hby (D8 90)) _ ?_
      by_cases hm3 : (57343 : Int32) < cc
      · refine zcy X0 Hb (D8 91) (tlt hm3).2.2.1 160 (by decide) rfl <| ziL X0 Hb (D8 94) rfl ?_
        rw [show uu = cc from by rw [huu]; simp only [if_neg hm2, if_pos hm3]] at k
        exact k
      · refine zcn X0 Hb (D8 91) (flt hm3).2.2.1 <| X0.ldcInt hx hown (mvT hZ (W 173 rfl)) (g := (mkF m 155 (own_F0 b nn o sa ii cc) [])) rfl (hb hby (D8 92)) _ <| zgo X0 Hb (D8 93) 162 (by decide) rfl ?_
        rw [show uu = (65533 : Int32) from by rw [huu]; simp only [if_neg hm2, if_neg hm3]] at k
        exact k
  have w5 : own_Go p e below f0 T m 169 (own_F1 b nn o sa ii cc uu) [.int 128, .int uu] := fun t k => by
    refine w4 t ?_
    refine ziS X0 Hb (L' := (own_F1 b nn o sa ii cc uu)) (D8 95) rfl <| ziL X0 Hb (D8 96) rfl <| zsp X0 Hb (D8 97) 128 rfl ?_
    exact k
  by_cases hc169_6 : uu < (128 : Int32)
  · obtain ⟨_, T7, Lc7, X7, hQ7, st7⟩ := own_cS X0 Hb hZ hown hml (L := (own_F1 b nn o sa ii cc uu)) rfl (rm10 hw o sa uu ko ks bs (rr + 3) ii pp O V_o V_sa nos hp hr g_o g_sa) (W 43 rfl) (W 44 rfl) (W 2 rfl) (W 45 rfl) pd0 e0 (D8 102) [.ref o, .ref sa, .int uu] [] 0 (hf := ⟨Nat.le_trans (by decide) hR.1, Nat.le_trans (by decide) hR.2.1, hR.2.2.1, hR.2.2.2⟩)
    obtain ⟨rfl, N7q, K7, V_o_c7, V_sa_c7⟩ := hQ7
    have N7 := Fr.app N0 N7q
    have O := O.keep K7 (allS g_o (allS g_sa all0))
    have K := K.trans K7 (allS (Or.inl (List.mem_of_getElem? (i := 0) rfl)) (allS (Or.inl (List.mem_of_getElem? (i := 1) rfl)) all0))
    obtain ⟨cl8, Ar8, q8, Z8, N8, H8, G8⟩ := id V_sa_c7
    have hin8 : ¬ ((0 : Int32) < 0 ∨ cl8.slots.size ≤ ((0 : Int32)).toNatClampNeg) := inb_of Z8 ⟨by decide, by decide⟩
    obtain ⟨T9, h9, X9, e9, W9, st9⟩ := stI X7 hx hZ rfl Ar8 (j := (0 : Int32)) hin8 (g := (mkF m 272 (own_F1 b nn o sa ii cc uu) [(.int (ii + (1 : Int32))), .int 0, .ref sa])) rfl rfl (hb hby (D8 155))
    have V_sa_c7 : Arv Z h9 sa ks .int (2 : Int32) [(.int (ii + (1 : Int32))), (.int (pp + (1 : Int32)))] (.int 0) := Arv.set Ar8 q8 Z8 N8 H8 G8 rfl W9 0 rfl (Nat.le_of_ble_eq_true rfl)
    have V_o_c7 := V_o_c7.other W9 nos
    have O := O.wr W9 g_sa
    have K := K.wr W9 (Or.inl (List.mem_of_getElem? (i := 1) rfl))
    have N9 := Fr.snoc X9 N7 g_sa
    have w10 : own_Go p e below f0 T9 m 273 (own_F1 b nn o sa ii cc uu) [] := fun t k => by
      refine w5 t ?_
      refine zcn X0 Hb (D8 98) (tlt hc169_6).2.1 <| zal X0 Hb (D8 99) rfl rfl <| zal X0 Hb (D8 100) rfl rfl <| ziL X0 Hb (D8 101) rfl <| st7 _ <| zgo X7 Hb (D8 103) 266 (by decide) rfl <| zal X7 Hb (D8 150) rfl rfl <| zic X7 Hb (D8 151) 0 rfl ?_
      refine ziL X7 Hb (D8 152) rfl <| zic X7 Hb (D8 153) 1 rfl <| zia X7 Hb (D8 154) <| st9 _ ?_
      exact k
    have hbs : bs ++ own_e1 (own_u cc) = (bs ++ [Value.int (own_b uu)]) := (by rw [show own_u cc = uu from huu.symm, own_ea hc169_6])
    have w11 : own_Go p e below f0 T9 m 273 (own_F1 b nn o sa ii cc (own_u cc)) [] := by rw [show own_u cc = uu from huu.symm]; exact w10
    exact ⟨T9, _, (rr + 3), (pp + (1 : Int32)), X9, N9, by rw [e9]; exact K, by rw [e9]; exact (by rw [hbs]; exact V_o_c7), by rw [e9]; exact V_sa_c7, (by rw [hbs]; exact (own_ps _ hp)), (by rw [hbs]; exact (own_pr _ hr)), (by omega), w11⟩
  · have w12 : own_Go p e below f0 T m 187 (own_F1 b nn o sa ii cc uu) [.int 2048, .int uu] := fun t k => by
      refine w5 t ?_
      refine zcy X0 Hb (D8 98) (flt hc169_6).2.1 182 (by decide) rfl <| ziL X0 Hb (D8 104) rfl <| zsp X0 Hb (D8 105) 2048 rfl ?_
      exact k
    by_cases hc187_13 : uu < (2048 : Int32)
    · obtain ⟨_, T14, Lc14, X14, hQ14, st14⟩ := own_cS X0 Hb hZ hown hml (L := (own_F1 b nn o sa ii cc uu)) rfl (rm10 hw o sa ((192 : Int32) ||| (uu >>> ((6 : Int32) &&& 31))) ko ks bs (rr + 3) ii pp O V_o V_sa nos hp hr g_o g_sa) (W 43 rfl) (W 44 rfl) (W 2 rfl) (W 45 rfl) pd0 e0 (D8 114) [.ref o, .ref sa, (.int ((192 : Int32) ||| (uu >>> ((6 : Int32) &&& 31))))] [] 0 (hf := ⟨Nat.le_trans (by decide) hR.1, Nat.le_trans (by decide) hR.2.1, hR.2.2.1, hR.2.2.2⟩)
      obtain ⟨rfl, N14q, K14, V_o_c14, V_sa_c14⟩ := hQ14
      have N14 := Fr.app N0 N14q
      have O := O.keep K14 (allS g_o (allS g_sa all0))
      have K := K.trans K14 (allS (Or.inl (List.mem_of_getElem? (i := 0) rfl)) (allS (Or.inl (List.mem_of_getElem? (i := 1) rfl)) all0))
      obtain ⟨_, T15, Lc15, X15, hQ15, st15⟩ := own_cS X14 Hb hZ hown hml (L := (own_F1 b nn o sa ii cc uu)) rfl (rm10 hw o sa ((128 : Int32) ||| (uu &&& (63 : Int32))) ko ks (bs ++ [Value.int (own_b ((192 : Int32) ||| (uu >>> ((6 : Int32) &&& 31))))]) (rr + 2) ii (pp + (1 : Int32)) O V_o_c14 V_sa_c14 nos (own_ps _ hp) (own_pr _ hr) g_o g_sa) (W 43 rfl) (W 44 rfl) (W 2 rfl) (W 45 rfl) pd0 rfl (D8 122) [.ref o, .ref sa, (.int ((128 : Int32) ||| (uu &&& (63 : Int32))))] [] 0 (hf := ⟨Nat.le_trans (by decide) hR.1, Nat.le_trans (by decide) hR.2.1, hR.2.2.1, hR.2.2.2⟩)
      obtain ⟨rfl, N15q, K15, V_o_c15, V_sa_c15⟩ := hQ15
      have N15 := Fr.app N14 N15q
      have O := O.keep K15 (allS g_o (allS g_sa all0))
      have K := K.trans K15 (allS (Or.inl (List.mem_of_getElem? (i := 0) rfl)) (allS (Or.inl (List.mem_of_getElem? (i := 1) rfl)) all0))
      obtain ⟨cl16, Ar16, q16, Z16, N16, H16, G16⟩ := id V_sa_c15
      have hin16 : ¬ ((0 : Int32) < 0 ∨ cl16.slots.size ≤ ((0 : Int32)).toNatClampNeg) := inb_of Z16 ⟨by decide, by decide⟩
      obtain ⟨T17, h17, X17, e17, W17, st17⟩ := stI X15 hx hZ rfl Ar16 (j := (0 : Int32)) hin16 (g := (mkF m 272 (own_F1 b nn o sa ii cc uu) [(.int (ii + (1 : Int32))), .int 0, .ref sa])) rfl rfl (hb hby (D8 155))
      have V_sa_c15 : Arv Z h17 sa ks .int (2 : Int32) [(.int (ii + (1 : Int32))), (.int ((pp + (1 : Int32)) + (1 : Int32)))] (.int 0) := Arv.set Ar16 q16 Z16 N16 H16 G16 rfl W17 0 rfl (Nat.le_of_ble_eq_true rfl)
      have V_o_c15 := V_o_c15.other W17 nos
      have O := O.wr W17 g_sa
      have K := K.wr W17 (Or.inl (List.mem_of_getElem? (i := 1) rfl))
      have N17 := Fr.snoc X17 N15 g_sa
      have w18 : own_Go p e below f0 T17 m 273 (own_F1 b nn o sa ii cc uu) [] := fun t k => by
        refine w12 t ?_
        refine zcn X0 Hb (D8 106) (tlt hc187_13).2.1 <| zal X0 Hb (D8 107) rfl rfl <| zal X0 Hb (D8 108) rfl rfl <| zsp X0 Hb (D8 109) 192 rfl <| ziL X0 Hb (D8 110) rfl <| zbp X0 Hb (D8 111) 6 rfl <| zsr X0 Hb (D8 112) <| zor X0 Hb (D8 113) ?_
        refine st14 _ <| zal X14 Hb (D8 115) rfl rfl <| zal X14 Hb (D8 116) rfl rfl <| zsp X14 Hb (D8 117) 128 rfl <| ziL X14 Hb (D8 118) rfl <| zbp X14 Hb (D8 119) 63 rfl <| zan X14 Hb (D8 120) <| zor X14 Hb (D8 121) ?_
        refine st15 _ <| zgo X15 Hb (D8 123) 266 (by decide) rfl <| zal X15 Hb (D8 150) rfl rfl <| zic X15 Hb (D8 151) 0 rfl <| ziL X15 Hb (D8 152) rfl <| zic X15 Hb (D8 153) 1 rfl <| zia X15 Hb (D8 154) <| st17 _ ?_
        exact k
      have hbs : bs ++ own_e1 (own_u cc) = ((bs ++ [Value.int (own_b ((192 : Int32) ||| (uu >>> ((6 : Int32) &&& 31))))]) ++ [Value.int (own_b ((128 : Int32) ||| (uu &&& (63 : Int32))))]) := (by rw [show own_u cc = uu from huu.symm, own_eb hc169_6 hc187_13, own_a2]; rfl)
      have w19 : own_Go p e below f0 T17 m 273 (own_F1 b nn o sa ii cc (own_u cc)) [] := by rw [show own_u cc = uu from huu.symm]; exact w18
      exact ⟨T17, _, (rr + 2), ((pp + (1 : Int32)) + (1 : Int32)), X17, N17, by rw [e17]; exact K, by rw [e17]; exact (by rw [hbs]; exact V_o_c15), by rw [e17]; exact V_sa_c15, (by rw [hbs]; exact (own_ps _ (own_ps _ hp))), (by rw [hbs]; exact (own_pr _ (own_pr _ hr))), (by omega), w19⟩
    · obtain ⟨_, T20, Lc20, X20, hQ20, st20⟩ := own_cS X0 Hb hZ hown hml (L := (own_F1 b nn o sa ii cc uu)) rfl (rm10 hw o sa ((224 : Int32) ||| (uu >>> ((12 : Int32) &&& 31))) ko ks bs (rr + 3) ii pp O V_o V_sa nos hp hr g_o g_sa) (W 43 rfl) (W 44 rfl) (W 2 rfl) (W 45 rfl) pd0 e0 (D8 131) [.ref o, .ref sa, (.int ((224 : Int32) ||| (uu >>> ((12 : Int32) &&& 31))))] [] 0 (hf := ⟨Nat.le_trans (by decide) hR.1, Nat.le_trans (by decide) hR.2.1, hR.2.2.1, hR.2.2.2⟩)
      obtain ⟨rfl, N20q, K20, V_o_c20, V_sa_c20⟩ := hQ20
      have N20 := Fr.app N0 N20q
      have O := O.keep K20 (allS g_o (allS g_sa all0))
      have K := K.trans K20 (allS (Or.inl (List.mem_of_getElem? (i := 0) rfl)) (allS (Or.inl (List.mem_of_getElem? (i := 1) rfl)) all0))
      obtain ⟨_, T21, Lc21, X21, hQ21, st21⟩ := own_cS X20 Hb hZ hown hml (L := (own_F1 b nn o sa ii cc uu)) rfl (rm10 hw o sa ((128 : Int32) ||| ((uu >>> ((6 : Int32) &&& 31)) &&& (63 : Int32))) ko ks (bs ++ [Value.int (own_b ((224 : Int32) ||| (uu >>> ((12 : Int32) &&& 31))))]) (rr + 2) ii (pp + (1 : Int32)) O V_o_c20 V_sa_c20 nos (own_ps _ hp) (own_pr _ hr) g_o g_sa) (W 43 rfl) (W 44 rfl) (W 2 rfl) (W 45 rfl) pd0 rfl (D8 141) [.ref o, .ref sa, (.int ((128 : Int32) ||| ((uu >>> ((6 : Int32) &&& 31)) &&& (63 : Int32))))] [] 0 (hf := ⟨Nat.le_trans (by decide) hR.1, Nat.le_trans (by decide) hR.2.1, hR.2.2.1, hR.2.2.2⟩)
      obtain ⟨rfl, N21q, K21, V_o_c21, V_sa_c21⟩ := hQ21
      have N21 := Fr.app N20 N21q
      have O := O.keep K21 (allS g_o (allS g_sa all0))
      have K := K.trans K21 (allS (Or.inl (List.mem_of_getElem? (i := 0) rfl)) (allS (Or.inl (List.mem_of_getElem? (i := 1) rfl)) all0))
      obtain ⟨_, T22, Lc22, X22, hQ22, st22⟩ := own_cS X21 Hb hZ hown hml (L := (own_F1 b nn o sa ii cc uu)) rfl (rm10 hw o sa ((128 : Int32) ||| (uu &&& (63 : Int32))) ko ks ((bs ++ [Value.int (own_b ((224 : Int32) ||| (uu >>> ((12 : Int32) &&& 31))))]) ++ [Value.int (own_b ((128 : Int32) ||| ((uu >>> ((6 : Int32) &&& 31)) &&& (63 : Int32))))]) (rr + 1) ii ((pp + (1 : Int32)) + (1 : Int32)) O V_o_c21 V_sa_c21 nos (own_ps _ (own_ps _ hp)) (own_pr _ (own_pr _ hr)) g_o g_sa) (W 43 rfl) (W 44 rfl) (W 2 rfl) (W 45 rfl) pd0 rfl (D8 149) [.ref o, .ref sa, (.int ((128 : Int32) ||| (uu &&& (63 : Int32))))] [] 0 (hf := ⟨Nat.le_trans (by decide) hR.1, Nat.le_trans (by decide) hR.2.1, hR.2.2.1, hR.2.2.2⟩)
      obtain ⟨rfl, N22q, K22, V_o_c22, V_sa_c22⟩ := hQ22
      have N22 := Fr.app N21 N22q
      have O := O.keep K22 (allS g_o (allS g_sa all0))
      have K := K.trans K22 (allS (Or.inl (List.mem_of_getElem? (i := 0) rfl)) (allS (Or.inl (List.mem_of_getElem? (i := 1) rfl)) all0))
      obtain ⟨cl23, Ar23, q23, Z23, N23, H23, G23⟩ := id V_sa_c22
      have hin23 : ¬ ((0 : Int32) < 0 ∨ cl23.slots.size ≤ ((0 : Int32)).toNatClampNeg) := inb_of Z23 ⟨by decide, by decide⟩
      obtain ⟨T24, h24, X24, e24, W24, st24⟩ := stI X22 hx hZ rfl Ar23 (j := (0 : Int32)) hin23 (g := (mkF m 272 (own_F1 b nn o sa ii cc uu) [(.int (ii + (1 : Int32))), .int 0, .ref sa])) rfl rfl (hb hby (D8 155))
      have V_sa_c22 : Arv Z h24 sa ks .int (2 : Int32) [(.int (ii + (1 : Int32))), (.int (((pp + (1 : Int32)) + (1 : Int32)) + (1 : Int32)))] (.int 0) := Arv.set Ar23 q23 Z23 N23 H23 G23 rfl W24 0 rfl (Nat.le_of_ble_eq_true rfl)
      have V_o_c22 := V_o_c22.other W24 nos
      have O := O.wr W24 g_sa
      have K := K.wr W24 (Or.inl (List.mem_of_getElem? (i := 1) rfl))
      have N24 := Fr.snoc X24 N22 g_sa
      have w25 : own_Go p e below f0 T24 m 273 (own_F1 b nn o sa ii cc uu) [] := fun t k => by
        refine w12 t ?_
        refine zcy X0 Hb (D8 106) (flt hc187_13).2.1 221 (by decide) rfl <| zal X0 Hb (D8 124) rfl rfl <| zal X0 Hb (D8 125) rfl rfl <| zsp X0 Hb (D8 126) 224 rfl <| ziL X0 Hb (D8 127) rfl <| zbp X0 Hb (D8 128) 12 rfl <| zsr X0 Hb (D8 129) <| zor X0 Hb (D8 130) ?_
        refine st20 _ <| zal X20 Hb (D8 132) rfl rfl <| zal X20 Hb (D8 133) rfl rfl <| zsp X20 Hb (D8 134) 128 rfl <| ziL X20 Hb (D8 135) rfl <| zbp X20 Hb (D8 136) 6 rfl <| zsr X20 Hb (D8 137) <| zbp X20 Hb (D8 138) 63 rfl ?_
        refine zan X20 Hb (D8 139) <| zor X20 Hb (D8 140) <| st21 _ <| zal X21 Hb (D8 142) rfl rfl <| zal X21 Hb (D8 143) rfl rfl <| zsp X21 Hb (D8 144) 128 rfl <| ziL X21 Hb (D8 145) rfl <| zbp X21 Hb (D8 146) 63 rfl ?_
        refine zan X21 Hb (D8 147) <| zor X21 Hb (D8 148) <| st22 _ <| zal X22 Hb (D8 150) rfl rfl <| zic X22 Hb (D8 151) 0 rfl <| ziL X22 Hb (D8 152) rfl <| zic X22 Hb (D8 153) 1 rfl <| zia X22 Hb (D8 154) ?_
        refine st24 _ ?_
        exact k
      have hbs : bs ++ own_e1 (own_u cc) = (((bs ++ [Value.int (own_b ((224 : Int32) ||| (uu >>> ((12 : Int32) &&& 31))))]) ++ [Value.int (own_b ((128 : Int32) ||| ((uu >>> ((6 : Int32) &&& 31)) &&& (63 : Int32))))]) ++ [Value.int (own_b ((128 : Int32) ||| (uu &&& (63 : Int32))))]) := (by rw [show own_u cc = uu from huu.symm, own_ec hc169_6 hc187_13, own_a3]; rfl)
      have w26 : own_Go p e below f0 T24 m 273 (own_F1 b nn o sa ii cc (own_u cc)) [] := by rw [show own_u cc = uu from huu.symm]; exact w25
      exact ⟨T24, _, (rr + 1), (((pp + (1 : Int32)) + (1 : Int32)) + (1 : Int32)), X24, N24, by rw [e24]; exact K, by rw [e24]; exact (by rw [hbs]; exact V_o_c22), by rw [e24]; exact V_sa_c22, (by rw [hbs]; exact (own_ps _ (own_ps _ (own_ps _ hp)))), (by rw [hbs]; exact (own_pr _ (own_pr _ (own_pr _ hr)))), (by omega), w26⟩
def own_F2 (x0 : Addr) (x1 : Int32) (x2 : Addr) (x3 : Addr) (x4 : Int32) : Array Slot := #[.val (.ref x0), .val (.int x1), .val (.ref x2), .val (.ref x3), .val (.int x4), .unset, .unset]
theorem pd1 : parseMethodDescriptor "(C)Z" = some ⟨[.char], some .boolean⟩ := by decide +kernel
theorem rm8_s (hw : own_W a0 Z) (b : Addr) (nn : Int32) (o sa : Addr) (kc : ClassId) (xa xb xc : Int32) (ko ks : ClassId) (bs : List Value) (rr : Nat) (ii pp cc dd : Int32) {h0 : Heap} {n0 : Nat} (O0 : Old Z n0 h0) (V_b : Arv Z h0 b kc .char (3 : Int32) [.int xa, .int xb, .int xc] (.int 0)) (V_o : Arv Z h0 o ko .byte (12 : Int32) (bs ++ List.replicate (rr + 4) (.int 0)) (.int 0)) (V_sa : Arv Z h0 sa ks .int (2 : Int32) [.int ii, .int pp] (.int 0)) (nos : o ≠ sa) (nbo : b ≠ o) (nbs : b ≠ sa) (hp : pp = Int32.ofNat bs.length) (hr : bs.length + (rr + 4) = 12) (hlt : ii < nn) (hj : ¬ ii < 0 ∧ ii < (3 : Int32)) (hc : ([.int xa, .int xb, .int xc] : List Value).getD (ii).toNatClampNeg (.int 0) = .int cc) (hd : (ii + (1 : Int32)) < nn → (¬ (ii + (1 : Int32)) < 0 ∧ (ii + (1 : Int32)) < (3 : Int32)) ∧ ([.int xa, .int xb, .int xc] : List Value).getD ((ii + (1 : Int32))).toNatClampNeg (.int 0) = .int dd ∧ (own_ih cc = (0 : Int32) ∨ own_il dd = (0 : Int32))) (g_o : n0 ≤ o) (g_sa : n0 ≤ sa) : own_M l own_n8 method_6_code 7 none (own_rm 1 0 0 14) Z h0 #[.ref b, .int nn, .ref o, .ref sa] (fun v h L => ∃ r2 : Nat, ∃ pq : Int32, v = none ∧ Fr n0 L ∧ Keep h0 h [o, sa] ∧ Arv Z h o ko .byte (12 : Int32) ((bs ++ own_e1 (own_u cc)) ++ List.replicate r2 (.int 0)) (.int 0) ∧ Arv Z h sa ks .int (2 : Int32) [(.int (ii + (1 : Int32))), .int pq] (.int 0) ∧ pq = Int32.ofNat (bs ++ own_e1 (own_u cc)).length ∧ (bs ++ own_e1 (own_u cc)).length + r2 = 12 ∧ rr ≤ r2) := by
  refine own_body (L0 := #[.val (.ref b), .val (.int nn), .val (.ref o), .val (.ref sa), .unset, .unset, .unset]) (plainFor_of_name pn_com_example_gradual_reply_gradualreply_Utf8EncodePinLaw) rfl rfl ?_
  intro p e s m below meth c s₁ f0 Bd hx Hb hml hZ hown X0 e0 pre0
  have W := own_q hw
  have N0 := Fr.nil n0
  have O := O0
  have K := Keep.refl h0 [o, sa]
  have B1 : own_El Z h0 sa .int (0 : Int32) (.int ii) := own_el V_sa ⟨by decide, by decide⟩ rfl
  have B2 : own_El Z h0 b .char ii (.int cc) := own_el V_b hj hc
  obtain ⟨_, T3, Lc3, X3, hQ3, st3⟩ := own_cS X0 Hb hZ hown hml (L := (own_F0 b nn o sa ii cc)) rfl (rm9 hw cc O ) (W 39 rfl) (W 40 rfl) (W 2 rfl) (W 41 rfl) pd1 e0 (D8 13) [.int cc] [] 0
  obtain ⟨rfl, N3q, eh3⟩ := hQ3
  have N3 := Fr.app N0 N3q
  have w4 : own_Go p e below f0 T3 m 23 (own_F0 b nn o sa ii cc) [.int (own_ih cc)] := fun t k => by
    refine pre0 t ?_
    refine zal X0 Hb (D8 0) rfl rfl <| zic X0 Hb (D8 1) 0 rfl <| zia_ X0 Hb hZ e0 B1 (D8 2) <| ziS X0 Hb (L' := (own_F2 b nn o sa ii)) (D8 3) rfl <| ziL X0 Hb (D8 4) rfl <| zil X0 Hb (D8 5) rfl <| zcy X0 Hb (D8 6) (tlt (hlt : ii < nn)).1 12 (by decide) rfl <| zal X0 Hb (D8 8) rfl rfl ?_
    refine ziL X0 Hb (D8 9) rfl <| zca X0 Hb hZ e0 B2 (D8 10) <| ziS X0 Hb (L' := (own_F0 b nn o sa ii cc)) (D8 11) rfl <| ziL X0 Hb (D8 12) rfl <| st3 _ ?_
    exact k
  by_cases hc23_5 : (own_ih cc) = (0 : Int32)
  · have w6 : own_Go p e below f0 T3 m 141 (own_F0 b nn o sa ii cc) [] := fun t k => by
      refine w4 t ?_
      refine ziy X3 Hb (D8 14) ((if0 _ _).trans (teq hc23_5).1) 141 (by decide) rfl ?_
      exact k
    obtain ⟨T7, L7, r2_7, pq_7, X7, N7, K7, V_o_7, V_sa_7, hq_7, hr2_7, hr3_7, w7⟩ := fr8 hw b nn o sa ko ks bs rr ii pp cc X3 hx Hb hZ hown hml ⟨by decide, by decide, by decide, by decide⟩ eh3 N3 O V_o V_sa nos hp hr g_o g_sa w6
    have V_b := V_b.keep K7 (ninS nbo (ninS nbs nin0))
    have O := O.keep K7 (allS g_o (allS g_sa all0))
    have K := K.trans K7 (allS (Or.inl (List.mem_of_getElem? (i := 0) rfl)) (allS (Or.inl (List.mem_of_getElem? (i := 1) rfl)) all0))
    exact own_oV X7 Hb Bd.notSynchronized Bd.returns w7 (D8 156) rfl (by decide) (by decide) ⟨r2_7, pq_7, rfl, N7, K, V_o_7, V_sa_7, hq_7, hr2_7, hr3_7⟩
  · have w8 : own_Go p e below f0 T3 m 31 (own_F0 b nn o sa ii cc) [.int nn, (.int (ii + (1 : Int32)))] := fun t k => by
      refine w4 t ?_
      refine zin X3 Hb (D8 14) ((if0 _ _).trans (feq hc23_5).1) <| ziL X3 Hb (D8 15) rfl <| zic X3 Hb (D8 16) 1 rfl <| zia X3 Hb (D8 17) <| zil X3 Hb (D8 18) rfl ?_
      exact k
    by_cases hc31_9 : (ii + (1 : Int32)) < nn
    · have B10 : own_El Z h0 b .char (ii + (1 : Int32)) (.int dd) := own_el V_b (hd hc31_9).1 (hd hc31_9).2.1
      obtain ⟨_, T11, Lc11, X11, hQ11, st11⟩ := own_cS X3 Hb hZ hown hml (L := (own_F0 b nn o sa ii cc)) rfl (rm67 hw dd O ) (W 329 rfl) (W 330 rfl) (W 2 rfl) (W 331 rfl) pd1 eh3 (D8 25) [.int dd] [] 0
      obtain ⟨rfl, N11q, eh11⟩ := hQ11
      have N11 := Fr.app N3 N11q
      have w12 : own_Go p e below f0 T11 m 141 (own_F0 b nn o sa ii cc) [] := fun t k => by
        refine w8 t ?_
        refine zcn X3 Hb (D8 19) (tlt hc31_9).2.1 <| zal X3 Hb (D8 20) rfl rfl <| ziL X3 Hb (D8 21) rfl <| zic X3 Hb (D8 22) 1 rfl <| zia X3 Hb (D8 23) <| zca X3 Hb hZ eh3 B10 (D8 24) <| st11 _ <| ziy X11 Hb (D8 26) ((if0 _ _).trans (teq (((hd hc31_9).2.2.resolve_left hc23_5) : (own_il dd) = (0 : Int32))).1) 141 (by decide) rfl ?_
        exact k
      obtain ⟨T13, L13, r2_13, pq_13, X13, N13, K13, V_o_13, V_sa_13, hq_13, hr2_13, hr3_13, w13⟩ := fr8 hw b nn o sa ko ks bs rr ii pp cc X11 hx Hb hZ hown hml ⟨by decide, by decide, by decide, by decide⟩ eh11 N11 O V_o V_sa nos hp hr g_o g_sa w12
      have V_b := V_b.keep K13 (ninS nbo (ninS nbs nin0))
      have O := O.keep K13 (allS g_o (allS g_sa all0))
      have K := K.trans K13 (allS (Or.inl (List.mem_of_getElem? (i := 0) rfl)) (allS (Or.inl (List.mem_of_getElem? (i := 1) rfl)) all0))
      exact own_oV X13 Hb Bd.notSynchronized Bd.returns w13 (D8 156) rfl (by decide) (by decide) ⟨r2_13, pq_13, rfl, N13, K, V_o_13, V_sa_13, hq_13, hr2_13, hr3_13⟩
    · have w14 : own_Go p e below f0 T3 m 141 (own_F0 b nn o sa ii cc) [] := fun t k => by
        refine w8 t ?_
        refine zcy X3 Hb (D8 19) (flt hc31_9).2.1 141 (by decide) rfl ?_
        exact k
      obtain ⟨T15, L15, r2_15, pq_15, X15, N15, K15, V_o_15, V_sa_15, hq_15, hr2_15, hr3_15, w15⟩ := fr8 hw b nn o sa ko ks bs rr ii pp cc X3 hx Hb hZ hown hml ⟨by decide, by decide, by decide, by decide⟩ eh3 N3 O V_o V_sa nos hp hr g_o g_sa w14
      have V_b := V_b.keep K15 (ninS nbo (ninS nbs nin0))
      have O := O.keep K15 (allS g_o (allS g_sa all0))
      have K := K.trans K15 (allS (Or.inl (List.mem_of_getElem? (i := 0) rfl)) (allS (Or.inl (List.mem_of_getElem? (i := 1) rfl)) all0))
      exact own_oV X15 Hb Bd.notSynchronized Bd.returns w15 (D8 156) rfl (by decide) (by decide) ⟨r2_15, pq_15, rfl, N15, K, V_o_15, V_sa_15, hq_15, hr2_15, hr3_15⟩
theorem rm8_p (hw : own_W a0 Z) (b : Addr) (nn : Int32) (o sa : Addr) (kc : ClassId) (xa xb xc : Int32) (ko ks : ClassId) (bs : List Value) (rr : Nat) (ii pp cc dd : Int32) {h0 : Heap} {n0 : Nat} (O0 : Old Z n0 h0) (V_b : Arv Z h0 b kc .char (3 : Int32) [.int xa, .int xb, .int xc] (.int 0)) (V_o : Arv Z h0 o ko .byte (12 : Int32) (bs ++ List.replicate (rr + 4) (.int 0)) (.int 0)) (V_sa : Arv Z h0 sa ks .int (2 : Int32) [.int ii, .int pp] (.int 0)) (nos : o ≠ sa) (nbo : b ≠ o) (nbs : b ≠ sa) (hp : pp = Int32.ofNat bs.length) (hr : bs.length + (rr + 4) = 12) (hlt : ii < nn) (hj : ¬ ii < 0 ∧ ii < (3 : Int32)) (hc : ([.int xa, .int xb, .int xc] : List Value).getD (ii).toNatClampNeg (.int 0) = .int cc) (hl1 : (ii + (1 : Int32)) < nn) (hj1 : ¬ (ii + (1 : Int32)) < 0 ∧ (ii + (1 : Int32)) < (3 : Int32)) (hd : ([.int xa, .int xb, .int xc] : List Value).getD ((ii + (1 : Int32))).toNatClampNeg (.int 0) = .int dd) (hh : ¬ own_ih cc = (0 : Int32)) (hl : ¬ own_il dd = (0 : Int32)) (g_o : n0 ≤ o) (g_sa : n0 ≤ sa) : own_M l own_n8 method_6_code 7 none (own_rm 1 0 0 14) Z h0 #[.ref b, .int nn, .ref o, .ref sa] (fun v h L => ∃ r2 : Nat, ∃ pq : Int32, v = none ∧ Fr n0 L ∧ Keep h0 h [o, sa] ∧ Arv Z h o ko .byte (12 : Int32) ((bs ++ own_e4 (own_q4 cc dd)) ++ List.replicate r2 (.int 0)) (.int 0) ∧ Arv Z h sa ks .int (2 : Int32) [(.int (ii + (2 : Int32))), .int pq] (.int 0) ∧ pq = Int32.ofNat (bs ++ own_e4 (own_q4 cc dd)).length ∧ (bs ++ own_e4 (own_q4 cc dd)).length + r2 = 12 ∧ rr ≤ r2) := by
  refine own_body (L0 := #[.val (.ref b), .val (.int nn), .val (.ref o), .val (.ref sa), .unset, .unset, .unset]) (plainFor_of_name pn_com_example_gradual_reply_gradualreply_Utf8EncodePinLaw) rfl rfl ?_
  intro p e s m below meth c s₁ f0 Bd hx Hb hml hZ hown X0 e0 pre0
  have hby := Hb.2
  have W := own_q hw
  have N0 := Fr.nil n0
  have O := O0
  have K := Keep.refl h0 [o, sa]
  have B1 : own_El Z h0 sa .int (0 : Int32) (.int ii) := own_el V_sa ⟨by decide, by decide⟩ rfl
  have B2 : own_El Z h0 b .char ii (.int cc) := own_el V_b hj hc
  obtain ⟨_, T3, Lc3, X3, hQ3, st3⟩ := own_cS X0 Hb hZ hown hml (L := (own_F0 b nn o sa ii cc)) rfl (rm9 hw cc O ) (W 39 rfl) (W 40 rfl) (W 2 rfl) (W 41 rfl) pd1 e0 (D8 13) [.int cc] [] 0
  obtain ⟨rfl, N3q, eh3⟩ := hQ3
  have N3 := Fr.app N0 N3q
  have B4 : own_El Z h0 b .char (ii + (1 : Int32)) (.int dd) := own_el V_b hj1 hd
  obtain ⟨_, T5, Lc5, X5, hQ5, st5⟩ := own_cS X3 Hb hZ hown hml (L := (own_F0 b nn o sa ii cc)) rfl (rm67 hw dd O ) (W 329 rfl) (W 330 rfl) (W 2 rfl) (W 331 rfl) pd1 eh3 (D8 25) [.int dd] [] 0
  obtain ⟨rfl, N5q, eh5⟩ := hQ5
  have N5 := Fr.app N3 N5q
  have B6 : own_El Z h0 b .char (ii + (1 : Int32)) (.int dd) := own_el V_b hj1 hd
  obtain ⟨_, T7, Lc7, X7, hQ7, st7⟩ := own_cS X5 Hb hZ hown hml (L := (own_F1 b nn o sa ii cc (((65536 : Int32) + ((cc - (55296 : Int32)) <<< ((10 : Int32) &&& 31))) + (dd - (56320 : Int32))))) rfl (rm10 hw o sa ((240 : Int32) ||| ((((65536 : Int32) + ((cc - (55296 : Int32)) <<< ((10 : Int32) &&& 31))) + (dd - (56320 : Int32))) >>> ((18 : Int32) &&& 31))) ko ks bs (rr + 3) ii pp O V_o V_sa nos hp hr g_o g_sa) (W 43 rfl) (W 44 rfl) (W 2 rfl) (W 45 rfl) pd0 eh5 (D8 50) [.ref o, .ref sa, (.int ((240 : Int32) ||| ((((65536 : Int32) + ((cc - (55296 : Int32)) <<< ((10 : Int32) &&& 31))) + (dd - (56320 : Int32))) >>> ((18 : Int32) &&& 31))))] [] 0
  obtain ⟨rfl, N7q, K7, V_o_c7, V_sa_c7⟩ := hQ7
  have N7 := Fr.app N5 N7q
  have V_b := V_b.keep K7 (ninS nbo (ninS nbs nin0))
  have O := O.keep K7 (allS g_o (allS g_sa all0))
  have K := K.trans K7 (allS (Or.inl (List.mem_of_getElem? (i := 0) rfl)) (allS (Or.inl (List.mem_of_getElem? (i := 1) rfl)) all0))
  obtain ⟨_, T8, Lc8, X8, hQ8, st8⟩ := own_cS X7 Hb hZ hown hml (L := (own_F1 b nn o sa ii cc (((65536 : Int32) + ((cc - (55296 : Int32)) <<< ((10 : Int32) &&& 31))) + (dd - (56320 : Int32))))) rfl (rm10 hw o sa ((128 : Int32) ||| (((((65536 : Int32) + ((cc - (55296 : Int32)) <<< ((10 : Int32) &&& 31))) + (dd - (56320 : Int32))) >>> ((12 : Int32) &&& 31)) &&& (63 : Int32))) ko ks (bs ++ [Value.int (own_b ((240 : Int32) ||| ((((65536 : Int32) + ((cc - (55296 : Int32)) <<< ((10 : Int32) &&& 31))) + (dd - (56320 : Int32))) >>> ((18 : Int32) &&& 31))))]) (rr + 2) ii (pp + (1 : Int32)) O V_o_c7 V_sa_c7 nos (own_ps _ hp) (own_pr _ hr) g_o g_sa) (W 43 rfl) (W 44 rfl) (W 2 rfl) (W 45 rfl) pd0 rfl (D8 60) [.ref o, .ref sa, (.int ((128 : Int32) ||| (((((65536 : Int32) + ((cc - (55296 : Int32)) <<< ((10 : Int32) &&& 31))) + (dd - (56320 : Int32))) >>> ((12 : Int32) &&& 31)) &&& (63 : Int32))))] [] 0
  obtain ⟨rfl, N8q, K8, V_o_c8, V_sa_c8⟩ := hQ8
  have N8 := Fr.app N7 N8q
  have V_b := V_b.keep K8 (ninS nbo (ninS nbs nin0))
  have O := O.keep K8 (allS g_o (allS g_sa all0))
  have K := K.trans K8 (allS (Or.inl (List.mem_of_getElem? (i := 0) rfl)) (allS (Or.inl (List.mem_of_getElem? (i := 1) rfl)) all0))
  obtain ⟨_, T9, Lc9, X9, hQ9, st9⟩ := own_cS X8 Hb hZ hown hml (L := (own_F1 b nn o sa ii cc (((65536 : Int32) + ((cc - (55296 : Int32)) <<< ((10 : Int32) &&& 31))) + (dd - (56320 : Int32))))) rfl (rm10 hw o sa ((128 : Int32) ||| (((((65536 : Int32) + ((cc - (55296 : Int32)) <<< ((10 : Int32) &&& 31))) + (dd - (56320 : Int32))) >>> ((6 : Int32) &&& 31)) &&& (63 : Int32))) ko ks ((bs ++ [Value.int (own_b ((240 : Int32) ||| ((((65536 : Int32) + ((cc - (55296 : Int32)) <<< ((10 : Int32) &&& 31))) + (dd - (56320 : Int32))) >>> ((18 : Int32) &&& 31))))]) ++ [Value.int (own_b ((128 : Int32) ||| (((((65536 : Int32) + ((cc - (55296 : Int32)) <<< ((10 : Int32) &&& 31))) + (dd - (56320 : Int32))) >>> ((12 : Int32) &&& 31)) &&& (63 : Int32))))]) (rr + 1) ii ((pp + (1 : Int32)) + (1 : Int32)) O V_o_c8 V_sa_c8 nos (own_ps _ (own_ps _ hp)) (own_pr _ (own_pr _ hr)) g_o g_sa) (W 43 rfl) (W 44 rfl) (W 2 rfl) (W 45 rfl) pd0 rfl (D8 70) [.ref o, .ref sa, (.int ((128 : Int32) ||| (((((65536 : Int32) + ((cc - (55296 : Int32)) <<< ((10 : Int32) &&& 31))) + (dd - (56320 : Int32))) >>> ((6 : Int32) &&& 31)) &&& (63 : Int32))))] [] 0
  obtain ⟨rfl, N9q, K9, V_o_c9, V_sa_c9⟩ := hQ9
  have N9 := Fr.app N8 N9q
  have V_b := V_b.keep K9 (ninS nbo (ninS nbs nin0))
  have O := O.keep K9 (allS g_o (allS g_sa all0))
  have K := K.trans K9 (allS (Or.inl (List.mem_of_getElem? (i := 0) rfl)) (allS (Or.inl (List.mem_of_getElem? (i := 1) rfl)) all0))
  obtain ⟨_, T10, Lc10, X10, hQ10, st10⟩ := own_cS X9 Hb hZ hown hml (L := (own_F1 b nn o sa ii cc (((65536 : Int32) + ((cc - (55296 : Int32)) <<< ((10 : Int32) &&& 31))) + (dd - (56320 : Int32))))) rfl (rm10 hw o sa ((128 : Int32) ||| ((((65536 : Int32) + ((cc - (55296 : Int32)) <<< ((10 : Int32) &&& 31))) + (dd - (56320 : Int32))) &&& (63 : Int32))) ko ks (((bs ++ [Value.int (own_b ((240 : Int32) ||| ((((65536 : Int32) + ((cc - (55296 : Int32)) <<< ((10 : Int32) &&& 31))) + (dd - (56320 : Int32))) >>> ((18 : Int32) &&& 31))))]) ++ [Value.int (own_b ((128 : Int32) ||| (((((65536 : Int32) + ((cc - (55296 : Int32)) <<< ((10 : Int32) &&& 31))) + (dd - (56320 : Int32))) >>> ((12 : Int32) &&& 31)) &&& (63 : Int32))))]) ++ [Value.int (own_b ((128 : Int32) ||| (((((65536 : Int32) + ((cc - (55296 : Int32)) <<< ((10 : Int32) &&& 31))) + (dd - (56320 : Int32))) >>> ((6 : Int32) &&& 31)) &&& (63 : Int32))))]) (rr + 0) ii (((pp + (1 : Int32)) + (1 : Int32)) + (1 : Int32)) O V_o_c9 V_sa_c9 nos (own_ps _ (own_ps _ (own_ps _ hp))) (own_pr _ (own_pr _ (own_pr _ hr))) g_o g_sa) (W 43 rfl) (W 44 rfl) (W 2 rfl) (W 45 rfl) pd0 rfl (D8 78) [.ref o, .ref sa, (.int ((128 : Int32) ||| ((((65536 : Int32) + ((cc - (55296 : Int32)) <<< ((10 : Int32) &&& 31))) + (dd - (56320 : Int32))) &&& (63 : Int32))))] [] 0
  obtain ⟨rfl, N10q, K10, V_o_c10, V_sa_c10⟩ := hQ10
  have N10 := Fr.app N9 N10q
  have V_b := V_b.keep K10 (ninS nbo (ninS nbs nin0))
  have O := O.keep K10 (allS g_o (allS g_sa all0))
  have K := K.trans K10 (allS (Or.inl (List.mem_of_getElem? (i := 0) rfl)) (allS (Or.inl (List.mem_of_getElem? (i := 1) rfl)) all0))
  obtain ⟨cl11, Ar11, q11, Z11, N11, H11, G11⟩ := id V_sa_c10
  have hin11 : ¬ ((0 : Int32) < 0 ∨ cl11.slots.size ≤ ((0 : Int32)).toNatClampNeg) := inb_of Z11 ⟨by decide, by decide⟩
  obtain ⟨T12, h12, X12, e12, W12, st12⟩ := stI X10 hx hZ rfl Ar11 (j := (0 : Int32)) hin11 (g := (mkF m 137 (own_F1 b nn o sa ii cc (((65536 : Int32) + ((cc - (55296 : Int32)) <<< ((10 : Int32) &&& 31))) + (dd - (56320 : Int32)))) [(.int (ii + (2 : Int32))), .int 0, .ref sa])) rfl rfl (hb hby (D8 84))
  have V_sa_c10 : Arv Z h12 sa ks .int (2 : Int32) [(.int (ii + (2 : Int32))), (.int ((((pp + (1 : Int32)) + (1 : Int32)) + (1 : Int32)) + (1 : Int32)))] (.int 0) := Arv.set Ar11 q11 Z11 N11 H11 G11 rfl W12 0 rfl (Nat.le_of_ble_eq_true rfl)
  have V_b := V_b.other W12 nbs
  have V_o_c10 := V_o_c10.other W12 nos
  have O := O.wr W12 g_sa
  have K := K.wr W12 (Or.inl (List.mem_of_getElem? (i := 1) rfl))
  have N12 := Fr.snoc X12 N10 g_sa
  have w13 : own_Go p e below f0 T12 m 273 (own_F1 b nn o sa ii cc (((65536 : Int32) + ((cc - (55296 : Int32)) <<< ((10 : Int32) &&& 31))) + (dd - (56320 : Int32)))) [] := fun t k => by
    refine pre0 t ?_
    refine zal X0 Hb (D8 0) rfl rfl <| zic X0 Hb (D8 1) 0 rfl <| zia_ X0 Hb hZ e0 B1 (D8 2) <| ziS X0 Hb (L' := (own_F2 b nn o sa ii)) (D8 3) rfl <| ziL X0 Hb (D8 4) rfl <| zil X0 Hb (D8 5) rfl <| zcy X0 Hb (D8 6) (tlt (hlt : ii < nn)).1 12 (by decide) rfl <| zal X0 Hb (D8 8) rfl rfl ?_
    refine ziL X0 Hb (D8 9) rfl <| zca X0 Hb hZ e0 B2 (D8 10) <| ziS X0 Hb (L' := (own_F0 b nn o sa ii cc)) (D8 11) rfl <| ziL X0 Hb (D8 12) rfl <| st3 _ <| zin X3 Hb (D8 14) ((if0 _ _).trans (feq (hh : ¬ ((own_ih cc) = (0 : Int32)))).1) <| ziL X3 Hb (D8 15) rfl <| zic X3 Hb (D8 16) 1 rfl ?_
    refine zia X3 Hb (D8 17) <| zil X3 Hb (D8 18) rfl <| zcn X3 Hb (D8 19) (tlt (hl1 : (ii + (1 : Int32)) < nn)).2.1 <| zal X3 Hb (D8 20) rfl rfl <| ziL X3 Hb (D8 21) rfl <| zic X3 Hb (D8 22) 1 rfl <| zia X3 Hb (D8 23) <| zca X3 Hb hZ eh3 B4 (D8 24) ?_
    refine st5 _ <| zin X5 Hb (D8 26) ((if0 _ _).trans (feq (hl : ¬ ((own_il dd) = (0 : Int32)))).1) <| X5.ldcInt hx hown (mvT hZ (W 336 rfl)) (g := (mkF m 46 (own_F0 b nn o sa ii cc) [])) rfl (hb hby (D8 27)) _ <| ziL X5 Hb (D8 28) rfl <| X5.ldcInt hx hown (mvT hZ (W 42 rfl)) (g := (mkF m 50 (own_F0 b nn o sa ii cc) [.int cc, .int 65536])) rfl (hb hby (D8 29)) _ <| zsu X5 Hb (D8 30) <| zbp X5 Hb (D8 31) 10 rfl <| zsl X5 Hb (D8 32) ?_
    refine zia X5 Hb (D8 33) <| zal X5 Hb (D8 34) rfl rfl <| ziL X5 Hb (D8 35) rfl <| zic X5 Hb (D8 36) 1 rfl <| zia X5 Hb (D8 37) <| zca X5 Hb hZ eh5 B6 (D8 38) <| X5.ldcInt hx hown (mvT hZ (W 332 rfl)) (g := (mkF m 63 (own_F0 b nn o sa ii cc) [.int dd, (.int ((65536 : Int32) + ((cc - (55296 : Int32)) <<< ((10 : Int32) &&& 31))))])) rfl (hb hby (D8 39)) _ <| zsu X5 Hb (D8 40) ?_
    refine zia X5 Hb (D8 41) <| ziS X5 Hb (D8 42) rfl <| zal X5 Hb (D8 43) rfl rfl <| zal X5 Hb (D8 44) rfl rfl <| zsp X5 Hb (D8 45) 240 rfl <| ziL X5 Hb (D8 46) rfl <| zbp X5 Hb (D8 47) 18 rfl <| zsr X5 Hb (D8 48) ?_
    refine zor X5 Hb (D8 49) <| st7 _ <| zal X7 Hb (D8 51) rfl rfl <| zal X7 Hb (D8 52) rfl rfl <| zsp X7 Hb (D8 53) 128 rfl <| ziL X7 Hb (D8 54) rfl <| zbp X7 Hb (D8 55) 12 rfl <| zsr X7 Hb (D8 56) ?_
    refine zbp X7 Hb (D8 57) 63 rfl <| zan X7 Hb (D8 58) <| zor X7 Hb (D8 59) <| st8 _ <| zal X8 Hb (D8 61) rfl rfl <| zal X8 Hb (D8 62) rfl rfl <| zsp X8 Hb (D8 63) 128 rfl <| ziL X8 Hb (D8 64) rfl ?_
    refine zbp X8 Hb (D8 65) 6 rfl <| zsr X8 Hb (D8 66) <| zbp X8 Hb (D8 67) 63 rfl <| zan X8 Hb (D8 68) <| zor X8 Hb (D8 69) <| st9 _ <| zal X9 Hb (D8 71) rfl rfl <| zal X9 Hb (D8 72) rfl rfl ?_
    refine zsp X9 Hb (D8 73) 128 rfl <| ziL X9 Hb (D8 74) rfl <| zbp X9 Hb (D8 75) 63 rfl <| zan X9 Hb (D8 76) <| zor X9 Hb (D8 77) <| st10 _ <| zal X10 Hb (D8 79) rfl rfl <| zic X10 Hb (D8 80) 0 rfl ?_
    refine ziL X10 Hb (D8 81) rfl <| zic X10 Hb (D8 82) 2 rfl <| zia X10 Hb (D8 83) <| st12 _ <| zgo X12 Hb (D8 85) 273 (by decide) rfl ?_
    exact k
  have hbs : bs ++ own_e4 (own_q4 cc dd) = ((((bs ++ [Value.int (own_b ((240 : Int32) ||| ((((65536 : Int32) + ((cc - (55296 : Int32)) <<< ((10 : Int32) &&& 31))) + (dd - (56320 : Int32))) >>> ((18 : Int32) &&& 31))))]) ++ [Value.int (own_b ((128 : Int32) ||| (((((65536 : Int32) + ((cc - (55296 : Int32)) <<< ((10 : Int32) &&& 31))) + (dd - (56320 : Int32))) >>> ((12 : Int32) &&& 31)) &&& (63 : Int32))))]) ++ [Value.int (own_b ((128 : Int32) ||| (((((65536 : Int32) + ((cc - (55296 : Int32)) <<< ((10 : Int32) &&& 31))) + (dd - (56320 : Int32))) >>> ((6 : Int32) &&& 31)) &&& (63 : Int32))))]) ++ [Value.int (own_b ((128 : Int32) ||| ((((65536 : Int32) + ((cc - (55296 : Int32)) <<< ((10 : Int32) &&& 31))) + (dd - (56320 : Int32))) &&& (63 : Int32))))]) := (by rw [show own_e4 (own_q4 cc dd) = [Value.int (own_b ((240 : Int32) ||| ((((65536 : Int32) + ((cc - (55296 : Int32)) <<< ((10 : Int32) &&& 31))) + (dd - (56320 : Int32))) >>> ((18 : Int32) &&& 31)))), Value.int (own_b ((128 : Int32) ||| (((((65536 : Int32) + ((cc - (55296 : Int32)) <<< ((10 : Int32) &&& 31))) + (dd - (56320 : Int32))) >>> ((12 : Int32) &&& 31)) &&& (63 : Int32)))), Value.int (own_b ((128 : Int32) ||| (((((65536 : Int32) + ((cc - (55296 : Int32)) <<< ((10 : Int32) &&& 31))) + (dd - (56320 : Int32))) >>> ((6 : Int32) &&& 31)) &&& (63 : Int32)))), Value.int (own_b ((128 : Int32) ||| ((((65536 : Int32) + ((cc - (55296 : Int32)) <<< ((10 : Int32) &&& 31))) + (dd - (56320 : Int32))) &&& (63 : Int32))))] from rfl, own_a4])
  exact own_oV X12 Hb Bd.notSynchronized Bd.returns w13 (D8 156) e12 (by decide) (by decide) ⟨(rr + 0), ((((pp + (1 : Int32)) + (1 : Int32)) + (1 : Int32)) + (1 : Int32)), rfl, N12, K, (by rw [hbs]; exact V_o_c10), V_sa_c10, (by rw [hbs]; exact (own_ps _ (own_ps _ (own_ps _ (own_ps _ hp))))), (by rw [hbs]; exact (own_pr _ (own_pr _ (own_pr _ (own_pr _ hr))))), (by omega)⟩
theorem rm8_e (hw : own_W a0 Z) (b : Addr) (nn : Int32) (o sa : Addr) (ks : ClassId) (ii pp : Int32) {h0 : Heap} {n0 : Nat} (O0 : Old Z n0 h0) (V_sa : Arv Z h0 sa ks .int (2 : Int32) [.int ii, .int pp] (.int 0)) (hlt : ¬ ii < nn) : own_M l own_n8 method_6_code 7 none (own_rm 1 0 0 14) Z h0 #[.ref b, .int nn, .ref o, .ref sa] (fun v h L => v = none ∧ Fr n0 L ∧ h = h0) := by
  refine own_body (L0 := #[.val (.ref b), .val (.int nn), .val (.ref o), .val (.ref sa), .unset, .unset, .unset]) (plainFor_of_name pn_com_example_gradual_reply_gradualreply_Utf8EncodePinLaw) rfl rfl ?_
  intro p e s m below meth c s₁ f0 Bd hx Hb hml hZ hown X0 e0 pre0
  have N0 := Fr.nil n0
  have O := O0
  have B1 : own_El Z h0 sa .int (0 : Int32) (.int ii) := own_el V_sa ⟨by decide, by decide⟩ rfl
  have w2 : own_Go p e below f0 s₁ m 11 (own_F2 b nn o sa ii) [] := fun t k => by
    refine pre0 t ?_
    refine zal X0 Hb (D8 0) rfl rfl <| zic X0 Hb (D8 1) 0 rfl <| zia_ X0 Hb hZ e0 B1 (D8 2) <| ziS X0 Hb (L' := (own_F2 b nn o sa ii)) (D8 3) rfl <| ziL X0 Hb (D8 4) rfl <| zil X0 Hb (D8 5) rfl <| zcn X0 Hb (D8 6) (flt (hlt : ¬ (ii < nn))).1 ?_
    exact k
  exact own_oV X0 Hb Bd.notSynchronized Bd.returns w2 (D8 7) e0 (by decide) (by decide) ⟨rfl, N0, rfl⟩
def own_co (j n : Int32) : Int32 := (own_b ((j - n).toUInt32 >>> ((31 : Int32) &&& 31).toUInt32).toInt32)
def own_CV (cs : List Int32) (N : Int32) (vs : List Value) : Prop := (N = Int32.ofNat cs.length ∧ vs = (cs.map fun c => Value.int (StrChars.lo8 c)) ∧ ∀ c ∈ cs, ¬ 255 < c) ∨ (N = Int32.ofNat (2 * cs.length) ∧ vs = StrChars.Road.wideBytes cs ∧ ∃ c ∈ cs, 255 < c)
theorem own_cvA {cs : List Int32} {N : Int32} {vs : List Value} (n : Int32) (h0 : (own_co n (Int32.ofNat cs.length)).toInt8.toInt32 = 0) (h1 : (own_co n (Int32.ofNat (2 * cs.length))).toInt8.toInt32 = 1) (h : own_CV cs N vs) : StrChars.Road.CodA cs ((own_co n N).toInt8.toInt32) N vs := by
  rcases h with ⟨a, b, c⟩ | ⟨a, b, c⟩
  · rw [a, h0]; exact Or.inl ⟨rfl, rfl, b, c⟩
  · rw [a, h1]; exact Or.inr ⟨rfl, rfl, b, c⟩
def L30 : List (Nat × Instr × Nat) := [(0, .iload_n 0, 1), (1, .ifCond .ge 11, 3), (12, .iload_n 0, 1), (13, .ldc 20, 2), (15, .if_icmp .lt 40, 3), (55, .iload_n 0, 1), (56, .iconst 1, 1), (57, .ishl, 1), (58, .ireturn, 1)]
theorem D30 : ∀ k : Nat, own_PP jdk_52_method_3_code L30[k]? := own_dd (by decide +kernel)
theorem pn_java_lang_StringUTF16 : plainName "java/lang/StringUTF16" = true := by first | (simp [plainName, overriddenIn]; done) | decide +kernel
theorem rm30_1 (hw : own_W a0 Z) {h0 : Heap} {n0 : Nat} (O0 : Old Z n0 h0) : own_M l own_n30 jdk_52_method_3_code 1 (some .int) (own_rm 0 0 0 0) Z h0 #[.int 1] (fun v h L => v = some (.int 2) ∧ Fr n0 L ∧ h = h0) := by
  refine own_body (L0 := #[.val (.int 1)]) (plainFor_of_name pn_java_lang_StringUTF16) rfl rfl ?_
  intro p e s m below meth c s₁ f0 Bd hx Hb hml hZ hown X0 e0 pre0
  have hby := Hb.2
  have W := own_q hw
  have N0 := Fr.nil n0
  have O := O0
  have w1 : own_Go p e below f0 s₁ m 58 #[.val (.int 1)] [.int 2] := fun t k => by
    refine pre0 t ?_
    refine zil X0 Hb (D30 0) rfl <| ziy X0 Hb (D30 1) ((if0 _ _).trans (flt ((by decide) : ¬ ((1 : Int32) < (0 : Int32)))).2.1) 12 (by decide) rfl <| zil X0 Hb (D30 2) rfl <| X0.ldcInt hx hown (mvT hZ (W 142 rfl)) (g := (mkF m 13 #[.val (.int 1)] [.int 1])) rfl (hb hby (D30 3)) _ <| zcy X0 Hb (D30 4) (tlt ((by decide) : (1 : Int32) < (1073741823 : Int32))).1 55 (by decide) rfl <| zil X0 Hb (D30 5) rfl <| zic X0 Hb (D30 6) 1 rfl <| zsl' X0 Hb (D30 7) 2 rfl ?_
    exact k
  exact own_oI X0 Hb Bd.notSynchronized Bd.returns w1 (D30 8) e0 (by decide) (by decide) ⟨rfl, N0, rfl⟩
def L29 : List (Nat × Instr × Nat) := [(0, .iload_n 0, 1), (1, .invokestatic 11, 3), (4, .newarray .byte, 2), (6, .areturn, 1)]
theorem D29 : ∀ k : Nat, own_PP jdk_52_method_2_code L29[k]? := own_dd (by decide +kernel)
theorem pd2 : parseMethodDescriptor "(I)I" = some ⟨[.int], some .int⟩ := by decide +kernel
theorem rm29_1 (hw : own_W a0 Z) {h0 : Heap} {n0 : Nat} (O0 : Old Z n0 h0) : own_M l own_n29 jdk_52_method_2_code 1 (some (.array .byte)) (own_rm 1 1 2 12) Z h0 #[.int 1] (fun v h L => ∃ z : Addr, ∃ kz : ClassId, v = some (.ref z) ∧ Fr n0 L ∧ Keep h0 h [] ∧ Arv Z h z kz .byte (2 : Int32) [.int 0, .int 0] (.int 0) ∧ Exa Z h z "[B" ∧ h0.size ≤ z ∧ n0 ≤ z) := by
  refine own_body (L0 := #[.val (.int 1)]) (plainFor_of_name pn_java_lang_StringUTF16) rfl rfl ?_
  intro p e s m below meth c s₁ f0 Bd hx Hb hml hZ hown X0 e0 pre0
  have hby := Hb.2
  have W := own_q hw
  have N0 := Fr.nil n0
  have O := O0
  have K := Keep.refl h0 []
  obtain ⟨_, T1, Lc1, X1, hQ1, st1⟩ := own_cS X0 Hb hZ hown hml (L := #[.val (.int 1)]) rfl (rm30_1 hw  O ) (W 139 rfl) (W 140 rfl) (W 22 rfl) (W 141 rfl) pd2 e0 (D29 1) [.int 1] [] 0
  obtain ⟨rfl, N1q, eh1⟩ := hQ1
  have N1 := Fr.app N0 N1q
  obtain ⟨T2, h2, k2, X2, e2, E2, A2, EX2, st2⟩ := newPE X1 hx hZ (W 24 rfl) eh1 (g := (mkF m 4 #[.val (.int 1)] [.int 2])) rfl (hb hby (D29 2)) rfl (by decide) (cap := 2) (by decide) (by decide) (by decide) (by decide) (ad := "[B") (by decide)
  obtain ⟨b2, gq2⟩ : ∃ z, z = Array.size h0 := ⟨_, rfl⟩
  rw [← gq2] at A2 EX2 st2
  have g_b2 : n0 ≤ b2 := Nat.le_trans (O.1 ▸ O.2.1) (Nat.le_of_eq gq2.symm)
  have z_b2 : h0.size ≤ b2 := Nat.le_trans K.1 (Nat.le_of_eq gq2.symm)
  have O := O.ext E2
  have K := K.ext E2
  have V_b2 : Arv Z h2 b2 k2 .byte (2 : Int32) [.int 0, .int 0] (.int 0) := (Arv.new A2 (by decide)).pad (pad_rep [] (.int 0) 2)
  have w3 : own_Go p e below f0 T2 m 6 #[.val (.int 1)] [.ref b2] := fun t k => by
    refine pre0 t ?_
    refine zil X0 Hb (D29 0) rfl <| st1 _ <| st2 _ ?_
    exact k
  exact own_oR X2 Hb Bd.notSynchronized Bd.returns rfl w3 (D29 3) e2 (by decide) (by decide) ⟨b2, k2, rfl, N1, K, V_b2, EX2, z_b2, g_b2⟩
theorem rm30_2 (hw : own_W a0 Z) {h0 : Heap} {n0 : Nat} (O0 : Old Z n0 h0) : own_M l own_n30 jdk_52_method_3_code 1 (some .int) (own_rm 0 0 0 0) Z h0 #[.int 2] (fun v h L => v = some (.int 4) ∧ Fr n0 L ∧ h = h0) := by
  refine own_body (L0 := #[.val (.int 2)]) (plainFor_of_name pn_java_lang_StringUTF16) rfl rfl ?_
  intro p e s m below meth c s₁ f0 Bd hx Hb hml hZ hown X0 e0 pre0
  have hby := Hb.2
  have W := own_q hw
  have N0 := Fr.nil n0
  have O := O0
  have w1 : own_Go p e below f0 s₁ m 58 #[.val (.int 2)] [.int 4] := fun t k => by
    refine pre0 t ?_
    refine zil X0 Hb (D30 0) rfl <| ziy X0 Hb (D30 1) ((if0 _ _).trans (flt ((by decide) : ¬ ((2 : Int32) < (0 : Int32)))).2.1) 12 (by decide) rfl <| zil X0 Hb (D30 2) rfl <| X0.ldcInt hx hown (mvT hZ (W 142 rfl)) (g := (mkF m 13 #[.val (.int 2)] [.int 2])) rfl (hb hby (D30 3)) _ <| zcy X0 Hb (D30 4) (tlt ((by decide) : (2 : Int32) < (1073741823 : Int32))).1 55 (by decide) rfl <| zil X0 Hb (D30 5) rfl <| zic X0 Hb (D30 6) 1 rfl <| zsl' X0 Hb (D30 7) 4 rfl ?_
    exact k
  exact own_oI X0 Hb Bd.notSynchronized Bd.returns w1 (D30 8) e0 (by decide) (by decide) ⟨rfl, N0, rfl⟩
theorem rm29_2 (hw : own_W a0 Z) {h0 : Heap} {n0 : Nat} (O0 : Old Z n0 h0) : own_M l own_n29 jdk_52_method_2_code 1 (some (.array .byte)) (own_rm 1 1 4 12) Z h0 #[.int 2] (fun v h L => ∃ z : Addr, ∃ kz : ClassId, v = some (.ref z) ∧ Fr n0 L ∧ Keep h0 h [] ∧ Arv Z h z kz .byte (4 : Int32) [.int 0, .int 0, .int 0, .int 0] (.int 0) ∧ Exa Z h z "[B" ∧ h0.size ≤ z ∧ n0 ≤ z) := by
  refine own_body (L0 := #[.val (.int 2)]) (plainFor_of_name pn_java_lang_StringUTF16) rfl rfl ?_
  intro p e s m below meth c s₁ f0 Bd hx Hb hml hZ hown X0 e0 pre0
  have hby := Hb.2
  have W := own_q hw
  have N0 := Fr.nil n0
  have O := O0
  have K := Keep.refl h0 []
  obtain ⟨_, T1, Lc1, X1, hQ1, st1⟩ := own_cS X0 Hb hZ hown hml (L := #[.val (.int 2)]) rfl (rm30_2 hw  O ) (W 139 rfl) (W 140 rfl) (W 22 rfl) (W 141 rfl) pd2 e0 (D29 1) [.int 2] [] 0
  obtain ⟨rfl, N1q, eh1⟩ := hQ1
  have N1 := Fr.app N0 N1q
  obtain ⟨T2, h2, k2, X2, e2, E2, A2, EX2, st2⟩ := newPE X1 hx hZ (W 24 rfl) eh1 (g := (mkF m 4 #[.val (.int 2)] [.int 4])) rfl (hb hby (D29 2)) rfl (by decide) (cap := 4) (by decide) (by decide) (by decide) (by decide) (ad := "[B") (by decide)
  obtain ⟨b2, gq2⟩ : ∃ z, z = Array.size h0 := ⟨_, rfl⟩
  rw [← gq2] at A2 EX2 st2
  have g_b2 : n0 ≤ b2 := Nat.le_trans (O.1 ▸ O.2.1) (Nat.le_of_eq gq2.symm)
  have z_b2 : h0.size ≤ b2 := Nat.le_trans K.1 (Nat.le_of_eq gq2.symm)
  have O := O.ext E2
  have K := K.ext E2
  have V_b2 : Arv Z h2 b2 k2 .byte (4 : Int32) [.int 0, .int 0, .int 0, .int 0] (.int 0) := (Arv.new A2 (by decide)).pad (pad_rep [] (.int 0) 4)
  have w3 : own_Go p e below f0 T2 m 6 #[.val (.int 2)] [.ref b2] := fun t k => by
    refine pre0 t ?_
    refine zil X0 Hb (D29 0) rfl <| st1 _ <| st2 _ ?_
    exact k
  exact own_oR X2 Hb Bd.notSynchronized Bd.returns rfl w3 (D29 3) e2 (by decide) (by decide) ⟨b2, k2, rfl, N1, K, V_b2, EX2, z_b2, g_b2⟩
theorem rm30_3 (hw : own_W a0 Z) {h0 : Heap} {n0 : Nat} (O0 : Old Z n0 h0) : own_M l own_n30 jdk_52_method_3_code 1 (some .int) (own_rm 0 0 0 0) Z h0 #[.int 3] (fun v h L => v = some (.int 6) ∧ Fr n0 L ∧ h = h0) := by
  refine own_body (L0 := #[.val (.int 3)]) (plainFor_of_name pn_java_lang_StringUTF16) rfl rfl ?_
  intro p e s m below meth c s₁ f0 Bd hx Hb hml hZ hown X0 e0 pre0
  have hby := Hb.2
  have W := own_q hw
  have N0 := Fr.nil n0
  have O := O0
  have w1 : own_Go p e below f0 s₁ m 58 #[.val (.int 3)] [.int 6] := fun t k => by
    refine pre0 t ?_
    refine zil X0 Hb (D30 0) rfl <| ziy X0 Hb (D30 1) ((if0 _ _).trans (flt ((by decide) : ¬ ((3 : Int32) < (0 : Int32)))).2.1) 12 (by decide) rfl <| zil X0 Hb (D30 2) rfl <| X0.ldcInt hx hown (mvT hZ (W 142 rfl)) (g := (mkF m 13 #[.val (.int 3)] [.int 3])) rfl (hb hby (D30 3)) _ <| zcy X0 Hb (D30 4) (tlt ((by decide) : (3 : Int32) < (1073741823 : Int32))).1 55 (by decide) rfl <| zil X0 Hb (D30 5) rfl <| zic X0 Hb (D30 6) 1 rfl <| zsl' X0 Hb (D30 7) 6 rfl ?_
    exact k
  exact own_oI X0 Hb Bd.notSynchronized Bd.returns w1 (D30 8) e0 (by decide) (by decide) ⟨rfl, N0, rfl⟩
theorem rm29_3 (hw : own_W a0 Z) {h0 : Heap} {n0 : Nat} (O0 : Old Z n0 h0) : own_M l own_n29 jdk_52_method_2_code 1 (some (.array .byte)) (own_rm 1 1 6 12) Z h0 #[.int 3] (fun v h L => ∃ z : Addr, ∃ kz : ClassId, v = some (.ref z) ∧ Fr n0 L ∧ Keep h0 h [] ∧ Arv Z h z kz .byte (6 : Int32) [.int 0, .int 0, .int 0, .int 0, .int 0, .int 0] (.int 0) ∧ Exa Z h z "[B" ∧ h0.size ≤ z ∧ n0 ≤ z) := by
  refine own_body (L0 := #[.val (.int 3)]) (plainFor_of_name pn_java_lang_StringUTF16) rfl rfl ?_
  intro p e s m below meth c s₁ f0 Bd hx Hb hml hZ hown X0 e0 pre0
  have hby := Hb.2
  have W := own_q hw
  have N0 := Fr.nil n0
  have O := O0
  have K := Keep.refl h0 []
  obtain ⟨_, T1, Lc1, X1, hQ1, st1⟩ := own_cS X0 Hb hZ hown hml (L := #[.val (.int 3)]) rfl (rm30_3 hw  O ) (W 139 rfl) (W 140 rfl) (W 22 rfl) (W 141 rfl) pd2 e0 (D29 1) [.int 3] [] 0
  obtain ⟨rfl, N1q, eh1⟩ := hQ1
  have N1 := Fr.app N0 N1q
  obtain ⟨T2, h2, k2, X2, e2, E2, A2, EX2, st2⟩ := newPE X1 hx hZ (W 24 rfl) eh1 (g := (mkF m 4 #[.val (.int 3)] [.int 6])) rfl (hb hby (D29 2)) rfl (by decide) (cap := 6) (by decide) (by decide) (by decide) (by decide) (ad := "[B") (by decide)
  obtain ⟨b2, gq2⟩ : ∃ z, z = Array.size h0 := ⟨_, rfl⟩
  rw [← gq2] at A2 EX2 st2
  have g_b2 : n0 ≤ b2 := Nat.le_trans (O.1 ▸ O.2.1) (Nat.le_of_eq gq2.symm)
  have z_b2 : h0.size ≤ b2 := Nat.le_trans K.1 (Nat.le_of_eq gq2.symm)
  have O := O.ext E2
  have K := K.ext E2
  have V_b2 : Arv Z h2 b2 k2 .byte (6 : Int32) [.int 0, .int 0, .int 0, .int 0, .int 0, .int 0] (.int 0) := (Arv.new A2 (by decide)).pad (pad_rep [] (.int 0) 6)
  have w3 : own_Go p e below f0 T2 m 6 #[.val (.int 3)] [.ref b2] := fun t k => by
    refine pre0 t ?_
    refine zil X0 Hb (D29 0) rfl <| st1 _ <| st2 _ ?_
    exact k
  exact own_oR X2 Hb Bd.notSynchronized Bd.returns rfl w3 (D29 3) e2 (by decide) (by decide) ⟨b2, k2, rfl, N1, K, V_b2, EX2, z_b2, g_b2⟩
def L35 : List (Nat × Instr × Nat) := [(0, .getstatic 44, 3), (3, .ifCond .ne 25, 3), (28, .iload_n 1, 1), (29, .iconst 1, 1), (30, .ishl, 1), (31, .istore_n 1, 1), (32, .aload_n 0, 1), (33, .iload_n 1, 1), (34, .iinc 1 1, 3), (37, .baload, 1), (38, .sipush 255, 3), (41, .iand, 1), (42, .getstatic 59, 3), (45, .ishl, 1), (46, .aload_n 0, 1), (47, .iload_n 1, 1), (48, .baload, 1), (49, .sipush 255, 3), (52, .iand, 1), (53, .getstatic 63, 3), (56, .ishl, 1), (57, .ior, 1), (58, .i2c, 1), (59, .ireturn, 1)]
theorem D35 : ∀ k : Nat, own_PP jdk_52_method_5_code L35[k]? := own_dd (by decide +kernel)
theorem rm35 (hw : own_W a0 Z) (b : Addr) (jj : Int32) (kc : ClassId) (nn : Int32) (vv : List Value) (xx : Int32) {zc : Int32} {fm : Value} {fn : Value} {u8 : Addr} {h0 : Heap} {n0 : Nat} (O0 : Old Z n0 h0) (SU : own_SU Z zc fm fn u8) (V_b : Arv Z h0 b kc .byte nn vv (.int 0)) (hlo : vv.getD (jj <<< ((1 : Int32) &&& 31)).toNatClampNeg (.int 0) = .int (own_lo xx)) (hhi : vv.getD ((jj <<< ((1 : Int32) &&& 31)) + (1 : Int32)).toNatClampNeg (.int 0) = .int (own_hi xx)) (hb1 : ¬ (jj <<< ((1 : Int32) &&& 31)) < 0 ∧ (jj <<< ((1 : Int32) &&& 31)) < nn) (hb2 : ¬ ((jj <<< ((1 : Int32) &&& 31)) + (1 : Int32)) < 0 ∧ ((jj <<< ((1 : Int32) &&& 31)) + (1 : Int32)) < nn) (hg : own_gc (own_lo xx) (own_hi xx) = xx) : own_M l own_n35 jdk_52_method_5_code 2 (some .char) (own_rm 0 0 0 0) Z h0 #[.ref b, .int jj] (fun v h L => v = some (.int xx) ∧ Fr n0 L ∧ h = h0) := by
  refine own_body (L0 := #[.val (.ref b), .val (.int jj)]) (plainFor_of_name pn_java_lang_StringUTF16) rfl rfl ?_
  intro p e s m below meth c s₁ f0 Bd hx Hb hml hZ hown X0 e0 pre0
  have hby := Hb.2
  have W := own_q hw
  have N0 := Fr.nil n0
  have O := O0
  obtain ⟨T1, X1, e1, st1⟩ := getS2 X0 hx hZ hown (host := "") (Or.inl (W 165 rfl)) Via.refl e0 (SU.1.ext O.2) (g := (mkF m 0 #[.val (.ref b), .val (.int jj)] [])) rfl (hb hby (D35 0))
  have B2 : own_El Z h0 b .byte (jj <<< ((1 : Int32) &&& 31)) (.int (own_lo xx)) := own_el V_b hb1 hlo
  obtain ⟨T3, X3, e3, st3⟩ := getS2 X1 hx hZ hown (host := "") (Or.inl (W 166 rfl)) Via.refl e1 (SU.2.1.ext O.2) (g := (mkF m 42 #[.val (.ref b), .val (.int ((jj <<< ((1 : Int32) &&& 31)) + (1 : Int32)))] [(.int ((own_lo xx) &&& (255 : Int32)))])) rfl (hb hby (D35 12))
  have B4 : own_El Z h0 b .byte ((jj <<< ((1 : Int32) &&& 31)) + (1 : Int32)) (.int (own_hi xx)) := own_el V_b hb2 hhi
  obtain ⟨T5, X5, e5, st5⟩ := getS2 X3 hx hZ hown (host := "") (Or.inl (W 167 rfl)) Via.refl e3 (SU.2.2.1.ext O.2) (g := (mkF m 53 #[.val (.ref b), .val (.int ((jj <<< ((1 : Int32) &&& 31)) + (1 : Int32)))] [(.int ((own_hi xx) &&& (255 : Int32))), (.int (((own_lo xx) &&& (255 : Int32)) <<< ((0 : Int32) &&& 31)))])) rfl (hb hby (D35 19))
  have w6 : own_Go p e below f0 T5 m 59 #[.val (.ref b), .val (.int ((jj <<< ((1 : Int32) &&& 31)) + (1 : Int32)))] [(.int (((((own_lo xx) &&& (255 : Int32)) <<< ((0 : Int32) &&& 31)) ||| (((own_hi xx) &&& (255 : Int32)) <<< ((8 : Int32) &&& 31))).toUInt32.toUInt16.toUInt32.toInt32))] := fun t k => by
    refine pre0 t ?_
    refine st1 _ <| ziy X1 Hb (D35 1) ((if0 _ _).trans (feq ((by decide) : ¬ ((1 : Int32) = (0 : Int32)))).2) 28 (by decide) rfl <| zil X1 Hb (D35 2) rfl <| zic X1 Hb (D35 3) 1 rfl <| zsl X1 Hb (D35 4) <| zis X1 Hb (L' := #[.val (.ref b), .val (.int (jj <<< ((1 : Int32) &&& 31)))]) (D35 5) rfl <| zal X1 Hb (D35 6) rfl rfl <| zil X1 Hb (D35 7) rfl ?_
    refine zii X1 Hb (L' := #[.val (.ref b), .val (.int ((jj <<< ((1 : Int32) &&& 31)) + (1 : Int32)))]) (D35 8) rfl ((jj <<< ((1 : Int32) &&& 31)) + (1 : Int32)) rfl rfl <| zba X1 Hb hZ e1 B2 (D35 9) <| zsp X1 Hb (D35 10) 255 rfl <| zan X1 Hb (D35 11) <| st3 _ <| zsl X3 Hb (D35 13) <| zal X3 Hb (D35 14) rfl rfl <| zil X3 Hb (D35 15) rfl ?_
    refine zba X3 Hb hZ e3 B4 (D35 16) <| zsp X3 Hb (D35 17) 255 rfl <| zan X3 Hb (D35 18) <| st5 _ <| zsl X5 Hb (D35 20) <| zor X5 Hb (D35 21) <| zik X5 Hb (D35 22) ?_
    exact k
  exact own_oN X5 Hb Bd.notSynchronized Bd.returns (by simp) w6 (D35 23) e5 (by decide) (by decide) ⟨(congrArg (fun x => some (Value.int x)) hg), N0, rfl⟩
def L7 : List (Nat × Instr × Nat) := [(0, .iload_n 1, 1), (1, .aload_n 0, 1), (2, .arraylength, 1), (3, .isub, 1), (4, .bipush 31, 2), (6, .iushr, 1), (7, .i2b, 1), (8, .ireturn, 1)]
theorem D7 : ∀ k : Nat, own_PP jdk_52_method_15_code L7[k]? := own_dd (by decide +kernel)
theorem rm7 (hw : own_W a0 Z) (b : Addr) (jj : Int32) (kc : ClassId) (nn : Int32) (vv : List Value) {h0 : Heap} {n0 : Nat} (O0 : Old Z n0 h0) (V_b : Arv Z h0 b kc .byte nn vv (.int 0)) : own_M l own_n7 jdk_52_method_15_code 2 (some .byte) (own_rm 0 0 0 0) Z h0 #[.ref b, .int jj] (fun v h L => v = some (.int (own_co jj nn)) ∧ Fr n0 L ∧ h = h0) := by
  refine own_body (L0 := #[.val (.ref b), .val (.int jj)]) (plainFor_of_name pn_java_lang_StringUTF16) rfl rfl ?_
  intro p e s m below meth c s₁ f0 Bd hx Hb hml hZ hown X0 e0 pre0
  have N0 := Fr.nil n0
  have O := O0
  have B1 := own_ln V_b
  have w2 : own_Go p e below f0 s₁ m 8 #[.val (.ref b), .val (.int jj)] [(.int ((((jj - nn).toUInt32 >>> ((31 : Int32) &&& 31).toUInt32).toInt32).toInt8.toInt32))] := fun t k => by
    refine pre0 t ?_
    refine zil X0 Hb (D7 0) rfl <| zal X0 Hb (D7 1) rfl rfl <| zal_ X0 Hb hZ e0 B1 (D7 2) <| zsu X0 Hb (D7 3) <| zbp X0 Hb (D7 4) 31 rfl <| zus X0 Hb (D7 5) <| zib X0 Hb (D7 6) ?_
    exact k
  exact own_oN X0 Hb Bd.notSynchronized Bd.returns (by simp) w2 (D7 7) e0 (by decide) (by decide) ⟨rfl, N0, rfl⟩
def own_is (c : Int32) : Int32 := if c < (55296 : Int32) then (0 : Int32) else if c < (57344 : Int32) then (1 : Int32) else (0 : Int32)
def own_hh (c : Int32) : Int32 := if c < (55296 : Int32) then (0 : Int32) else if c < (56320 : Int32) then (1 : Int32) else (0 : Int32)
def own_ll (c : Int32) : Int32 := if c < (56320 : Int32) then (0 : Int32) else if c < (57344 : Int32) then (1 : Int32) else (0 : Int32)
def own_nx : Int32 → List Int32 → Int32
  | _, [] => -1
  | i, [c] => if own_is c = 0 then -1 else i
  | i, c :: d :: r => if own_is c = 0 then own_nx (i + 1) (d :: r) else if own_hh c = 0 then i else if own_ll d = 0 then i else own_nx (i + 2) r
theorem own_kq {y x : Int32} (h : own_k y = x) : own_k x = x := by
  subst h
  have h := c_i2c y
  exact own_k1 (by unfold own_k; omega) (by unfold own_k; omega)
theorem own_l8k {c : Int32} (h0 : ¬ c < 0) (h1 : ¬ (255 : Int32) < c) : own_k (own_k (StrChars.lo8 c &&& (255 : Int32))) = c := by
  rw [Int32.lt_iff_toInt_lt, show (0 : Int32).toInt = 0 from rfl] at h0
  rw [Int32.lt_iff_toInt_lt, show (255 : Int32).toInt = 255 from rfl] at h1
  obtain ⟨k, hk⟩ := own_ex c 256 (by omega) (by omega) (by decide)
  rw [hk]
  exact (by decide +kernel : ∀ k : Fin 256, own_k (own_k (StrChars.lo8 (Int32.ofNat k.val) &&& (255 : Int32))) = Int32.ofNat k.val) k
def L16 : List (Nat × Instr × Nat) := [(0, .getstatic 38, 3), (3, .ifCond .eq 10, 3), (6, .aload_n 0, 1), (7, .getfield 15, 3), (10, .goto 4, 3), (14, .ireturn, 1)]
theorem D16 : ∀ k : Nat, own_PP jdk_42_method_152_code L16[k]? := own_dd (by decide +kernel)
theorem pn_java_lang_String : plainName "java/lang/String" = true := by first | (simp [plainName, overriddenIn]; done) | decide +kernel
theorem rm16_L (hw : own_W a0 Z) (a : Addr) {zc : Int32} {fm : Value} {fn : Value} {u8 : Addr} {h0 : Heap} {n0 : Nat} (O0 : Old Z n0 h0) (SU : own_SU Z zc fm fn u8) (F_c_a : Fld Z h0 a "java/lang/String" "coder" "B" (.int 0)) : own_M l own_n16 jdk_42_method_152_code 1 (some .byte) (own_rm 0 0 0 0) Z h0 #[.ref a] (fun v h L => v = some (.int 0) ∧ Fr n0 L ∧ h = h0) := by
  refine own_body (L0 := #[.val (.ref a)]) (plainFor_of_name pn_java_lang_String) rfl rfl ?_
  intro p e s m below meth c s₁ f0 Bd hx Hb hml hZ hown X0 e0 pre0
  have hby := Hb.2
  have W := own_q hw
  have N0 := Fr.nil n0
  have O := O0
  obtain ⟨T1, X1, e1, st1⟩ := getS2 X0 hx hZ hown (host := "") (Or.inl (W 19 rfl)) Via.refl e0 (SU.2.2.2.1.ext O.2) (g := (mkF m 0 #[.val (.ref a)] [])) rfl (hb hby (D16 0))
  obtain ⟨T2, X2, e2, st2⟩ := getF X1 hx hZ hown (host := "") (Or.inl (W 31 rfl)) Via.refl e1 F_c_a (g := (mkF m 7 #[.val (.ref a)] [.ref a])) rfl rfl (hb hby (D16 3))
  have w3 : own_Go p e below f0 T2 m 14 #[.val (.ref a)] [.int 0] := fun t k => by
    refine pre0 t ?_
    refine st1 _ <| zin X1 Hb (D16 1) ((if0 _ _).trans (feq (SU.2.2.2.2.2.2.2.2.1 : ¬ (zc = (0 : Int32)))).1) <| zal X1 Hb (D16 2) rfl rfl <| st2 _ <| zgo X2 Hb (D16 4) 14 (by decide) rfl ?_
    exact k
  exact own_oN X2 Hb Bd.notSynchronized Bd.returns (by simp) w3 (D16 5) e2 (by decide) (by decide) ⟨rfl, N0, rfl⟩
def L18 : List (Nat × Instr × Nat) := [(0, .getstatic 38, 3), (3, .ifCond .eq 14, 3), (6, .aload_n 0, 1), (7, .getfield 15, 3), (10, .ifCond .ne 7, 3), (13, .iconst 1, 1), (14, .goto 4, 3), (17, .iconst 0, 1), (18, .ireturn, 1)]
theorem D18 : ∀ k : Nat, own_PP jdk_42_method_154_code L18[k]? := own_dd (by decide +kernel)
theorem rm18_L (hw : own_W a0 Z) (a : Addr) {zc : Int32} {fm : Value} {fn : Value} {u8 : Addr} {h0 : Heap} {n0 : Nat} (O0 : Old Z n0 h0) (SU : own_SU Z zc fm fn u8) (F_c_a : Fld Z h0 a "java/lang/String" "coder" "B" (.int 0)) : own_M l own_n18 jdk_42_method_154_code 1 (some .boolean) (own_rm 0 0 0 0) Z h0 #[.ref a] (fun v h L => v = some (.int 1) ∧ Fr n0 L ∧ h = h0) := by
  refine own_body (L0 := #[.val (.ref a)]) (plainFor_of_name pn_java_lang_String) rfl rfl ?_
  intro p e s m below meth c s₁ f0 Bd hx Hb hml hZ hown X0 e0 pre0
  have hby := Hb.2
  have W := own_q hw
  have N0 := Fr.nil n0
  have O := O0
  obtain ⟨T1, X1, e1, st1⟩ := getS2 X0 hx hZ hown (host := "") (Or.inl (W 19 rfl)) Via.refl e0 (SU.2.2.2.1.ext O.2) (g := (mkF m 0 #[.val (.ref a)] [])) rfl (hb hby (D18 0))
  obtain ⟨T2, X2, e2, st2⟩ := getF X1 hx hZ hown (host := "") (Or.inl (W 31 rfl)) Via.refl e1 F_c_a (g := (mkF m 7 #[.val (.ref a)] [.ref a])) rfl rfl (hb hby (D18 3))
  have w3 : own_Go p e below f0 T2 m 18 #[.val (.ref a)] [.int 1] := fun t k => by
    refine pre0 t ?_
    refine st1 _ <| zin X1 Hb (D18 1) ((if0 _ _).trans (feq (SU.2.2.2.2.2.2.2.2.1 : ¬ (zc = (0 : Int32)))).1) <| zal X1 Hb (D18 2) rfl rfl <| st2 _ <| zin X2 Hb (D18 4) ((if0 _ _).trans (teq (rfl : (0 : Int32) = (0 : Int32))).2) <| zic X2 Hb (D18 5) 1 rfl <| zgo X2 Hb (D18 6) 18 (by decide) rfl ?_
    exact k
  exact own_oN X2 Hb Bd.notSynchronized Bd.returns (by simp) w3 (D18 8) e2 (by decide) (by decide) ⟨rfl, N0, rfl⟩
theorem rm16_U (hw : own_W a0 Z) (a : Addr) {zc : Int32} {fm : Value} {fn : Value} {u8 : Addr} {h0 : Heap} {n0 : Nat} (O0 : Old Z n0 h0) (SU : own_SU Z zc fm fn u8) (F_c_a : Fld Z h0 a "java/lang/String" "coder" "B" (.int 1)) : own_M l own_n16 jdk_42_method_152_code 1 (some .byte) (own_rm 0 0 0 0) Z h0 #[.ref a] (fun v h L => v = some (.int 1) ∧ Fr n0 L ∧ h = h0) := by
  refine own_body (L0 := #[.val (.ref a)]) (plainFor_of_name pn_java_lang_String) rfl rfl ?_
  intro p e s m below meth c s₁ f0 Bd hx Hb hml hZ hown X0 e0 pre0
  have hby := Hb.2
  have W := own_q hw
  have N0 := Fr.nil n0
  have O := O0
  obtain ⟨T1, X1, e1, st1⟩ := getS2 X0 hx hZ hown (host := "") (Or.inl (W 19 rfl)) Via.refl e0 (SU.2.2.2.1.ext O.2) (g := (mkF m 0 #[.val (.ref a)] [])) rfl (hb hby (D16 0))
  obtain ⟨T2, X2, e2, st2⟩ := getF X1 hx hZ hown (host := "") (Or.inl (W 31 rfl)) Via.refl e1 F_c_a (g := (mkF m 7 #[.val (.ref a)] [.ref a])) rfl rfl (hb hby (D16 3))
  have w3 : own_Go p e below f0 T2 m 14 #[.val (.ref a)] [.int 1] := fun t k => by
    refine pre0 t ?_
    refine st1 _ <| zin X1 Hb (D16 1) ((if0 _ _).trans (feq (SU.2.2.2.2.2.2.2.2.1 : ¬ (zc = (0 : Int32)))).1) <| zal X1 Hb (D16 2) rfl rfl <| st2 _ <| zgo X2 Hb (D16 4) 14 (by decide) rfl ?_
    exact k
  exact own_oN X2 Hb Bd.notSynchronized Bd.returns (by simp) w3 (D16 5) e2 (by decide) (by decide) ⟨rfl, N0, rfl⟩
theorem rm18_U (hw : own_W a0 Z) (a : Addr) {zc : Int32} {fm : Value} {fn : Value} {u8 : Addr} {h0 : Heap} {n0 : Nat} (O0 : Old Z n0 h0) (SU : own_SU Z zc fm fn u8) (F_c_a : Fld Z h0 a "java/lang/String" "coder" "B" (.int 1)) : own_M l own_n18 jdk_42_method_154_code 1 (some .boolean) (own_rm 0 0 0 0) Z h0 #[.ref a] (fun v h L => v = some (.int 0) ∧ Fr n0 L ∧ h = h0) := by
  refine own_body (L0 := #[.val (.ref a)]) (plainFor_of_name pn_java_lang_String) rfl rfl ?_
  intro p e s m below meth c s₁ f0 Bd hx Hb hml hZ hown X0 e0 pre0
  have hby := Hb.2
  have W := own_q hw
  have N0 := Fr.nil n0
  have O := O0
  obtain ⟨T1, X1, e1, st1⟩ := getS2 X0 hx hZ hown (host := "") (Or.inl (W 19 rfl)) Via.refl e0 (SU.2.2.2.1.ext O.2) (g := (mkF m 0 #[.val (.ref a)] [])) rfl (hb hby (D18 0))
  obtain ⟨T2, X2, e2, st2⟩ := getF X1 hx hZ hown (host := "") (Or.inl (W 31 rfl)) Via.refl e1 F_c_a (g := (mkF m 7 #[.val (.ref a)] [.ref a])) rfl rfl (hb hby (D18 3))
  have w3 : own_Go p e below f0 T2 m 18 #[.val (.ref a)] [.int 0] := fun t k => by
    refine pre0 t ?_
    refine st1 _ <| zin X1 Hb (D18 1) ((if0 _ _).trans (feq (SU.2.2.2.2.2.2.2.2.1 : ¬ (zc = (0 : Int32)))).1) <| zal X1 Hb (D18 2) rfl rfl <| st2 _ <| ziy X2 Hb (D18 4) ((if0 _ _).trans (feq ((by decide) : ¬ ((1 : Int32) = (0 : Int32)))).2) 17 (by decide) rfl <| zic X2 Hb (D18 7) 0 rfl ?_
    exact k
  exact own_oN X2 Hb Bd.notSynchronized Bd.returns (by simp) w3 (D18 8) e2 (by decide) (by decide) ⟨rfl, N0, rfl⟩
def L15 : List (Nat × Instr × Nat) := [(0, .aload_n 0, 1), (1, .getfield 9, 3), (4, .arraylength, 1), (5, .aload_n 0, 1), (6, .invokevirtual 335, 3), (9, .ishr, 1), (10, .ireturn, 1)]
theorem D15 : ∀ k : Nat, own_PP jdk_42_method_54_code L15[k]? := own_dd (by decide +kernel)
theorem pd3 : parseMethodDescriptor "()B" = some ⟨[], some .byte⟩ := by decide +kernel
theorem rm15_L (hw : own_W a0 Z) (a tt : Addr) (kb : ClassId) (nn : Int32) (vv : List Value) {zc : Int32} {fm : Value} {fn : Value} {u8 : Addr} {h0 : Heap} {n0 : Nat} (O0 : Old Z n0 h0) (SU : own_SU Z zc fm fn u8) (E_a : Exa Z h0 a "java/lang/String") (F_v_a : Fld Z h0 a "java/lang/String" "value" "[B" (.ref tt)) (F_c_a : Fld Z h0 a "java/lang/String" "coder" "B" (.int 0)) (V_tt : Arv Z h0 tt kb .byte nn vv (.int 0)) : own_M l own_n15 jdk_42_method_54_code 1 (some .int) (own_rm 1 0 0 13) Z h0 #[.ref a] (fun v h L => v = some (.int nn) ∧ Fr n0 L ∧ h = h0) := by
  refine own_body (L0 := #[.val (.ref a)]) (plainFor_of_name pn_java_lang_String) rfl rfl ?_
  intro p e s m below meth c s₁ f0 Bd hx Hb hml hZ hown X0 e0 pre0
  have hby := Hb.2
  have W := own_q hw
  have N0 := Fr.nil n0
  have O := O0
  obtain ⟨T1, X1, e1, st1⟩ := getF X0 hx hZ hown (host := "") (Or.inl (W 33 rfl)) Via.refl e0 F_v_a (g := (mkF m 1 #[.val (.ref a)] [.ref a])) rfl rfl (hb hby (D15 1))
  have B2 := own_ln V_tt
  obtain ⟨_, T3, Lc3, X3, hQ3, st3⟩ := own_cV X1 Hb hZ hown hml (L := #[.val (.ref a)]) rfl (rm16_L hw a O SU F_c_a) (W 70 rfl) (W 71 rfl) (W 73 rfl) (W 72 rfl) (W 8 rfl) (W 74 rfl) pd3 e1 E_a (D15 4) [] [.int nn] 1
  obtain ⟨rfl, N3q, eh3⟩ := hQ3
  have N3 := Fr.app N0 N3q
  have w4 : own_Go p e below f0 T3 m 10 #[.val (.ref a)] [(.int (nn >>> ((0 : Int32) &&& 31)))] := fun t k => by
    refine pre0 t ?_
    refine zal X0 Hb (D15 0) rfl rfl <| st1 _ <| zal_ X1 Hb hZ e1 B2 (D15 2) <| zal X1 Hb (D15 3) rfl rfl <| st3 _ <| zsr X3 Hb (D15 5) ?_
    exact k
  exact own_oI X3 Hb Bd.notSynchronized Bd.returns w4 (D15 6) eh3 (by decide) (by decide) ⟨(congrArg (fun x => some (Value.int x)) (own_s0 nn)), N3, rfl⟩
theorem rm15_U (hw : own_W a0 Z) (a tt : Addr) (kb : ClassId) (nn : Int32) (vv : List Value) (mm : Int32) {zc : Int32} {fm : Value} {fn : Value} {u8 : Addr} {h0 : Heap} {n0 : Nat} (O0 : Old Z n0 h0) (SU : own_SU Z zc fm fn u8) (E_a : Exa Z h0 a "java/lang/String") (F_v_a : Fld Z h0 a "java/lang/String" "value" "[B" (.ref tt)) (F_c_a : Fld Z h0 a "java/lang/String" "coder" "B" (.int 1)) (V_tt : Arv Z h0 tt kb .byte nn vv (.int 0)) (hm : (nn >>> ((1 : Int32) &&& 31)) = mm) : own_M l own_n15 jdk_42_method_54_code 1 (some .int) (own_rm 1 0 0 13) Z h0 #[.ref a] (fun v h L => v = some (.int mm) ∧ Fr n0 L ∧ h = h0) := by
  refine own_body (L0 := #[.val (.ref a)]) (plainFor_of_name pn_java_lang_String) rfl rfl ?_
  intro p e s m below meth c s₁ f0 Bd hx Hb hml hZ hown X0 e0 pre0
  have hby := Hb.2
  have W := own_q hw
  have N0 := Fr.nil n0
  have O := O0
  obtain ⟨T1, X1, e1, st1⟩ := getF X0 hx hZ hown (host := "") (Or.inl (W 33 rfl)) Via.refl e0 F_v_a (g := (mkF m 1 #[.val (.ref a)] [.ref a])) rfl rfl (hb hby (D15 1))
  have B2 := own_ln V_tt
  obtain ⟨_, T3, Lc3, X3, hQ3, st3⟩ := own_cV X1 Hb hZ hown hml (L := #[.val (.ref a)]) rfl (rm16_U hw a O SU F_c_a) (W 70 rfl) (W 71 rfl) (W 73 rfl) (W 72 rfl) (W 8 rfl) (W 74 rfl) pd3 e1 E_a (D15 4) [] [.int nn] 1
  obtain ⟨rfl, N3q, eh3⟩ := hQ3
  have N3 := Fr.app N0 N3q
  have w4 : own_Go p e below f0 T3 m 10 #[.val (.ref a)] [(.int (nn >>> ((1 : Int32) &&& 31)))] := fun t k => by
    refine pre0 t ?_
    refine zal X0 Hb (D15 0) rfl rfl <| st1 _ <| zal_ X1 Hb hZ e1 B2 (D15 2) <| zal X1 Hb (D15 3) rfl rfl <| st3 _ <| zsr X3 Hb (D15 5) ?_
    exact k
  exact own_oI X3 Hb Bd.notSynchronized Bd.returns w4 (D15 6) eh3 (by decide) (by decide) ⟨(congrArg (fun x => some (Value.int x)) hm), N3, rfl⟩
def L21 : List (Nat × Instr × Nat) := [(0, .iload_n 0, 1), (1, .ifCond .lt 8, 3), (4, .iload_n 0, 1), (5, .iload_n 1, 1), (6, .if_icmp .lt 10, 3), (16, .iload_n 0, 1), (17, .ireturn, 1)]
theorem D21 : ∀ k : Nat, own_PP jdk_41_method_11_code L21[k]? := own_dd (by decide +kernel)
theorem pn_jdk_internal_util_Preconditions : plainName "jdk/internal/util/Preconditions" = true := by first | (simp [plainName, overriddenIn]; done) | decide +kernel
theorem rm21 (hw : own_W a0 Z) (jj mm : Int32) (fm : Value) {h0 : Heap} {n0 : Nat} (O0 : Old Z n0 h0) (rfm : fm.isRef = true) (hk1 : ¬ jj < (0 : Int32)) (hk2 : jj < mm) : own_M l own_n21 jdk_41_method_11_code 3 (some .int) (own_rm 0 0 0 0) Z h0 #[.int jj, .int mm, fm] (fun v h L => v = some (.int jj) ∧ Fr n0 L ∧ h = h0) := by
  refine own_body (L0 := #[.val (.int jj), .val (.int mm), .val fm]) (plainFor_of_name pn_jdk_internal_util_Preconditions) (by cases fm <;> first | rfl | (exfalso; revert rfm; simp [Value.isRef]; done)) rfl ?_
  intro p e s m below meth c s₁ f0 Bd hx Hb hml hZ hown X0 e0 pre0
  have N0 := Fr.nil n0
  have O := O0
  have w1 : own_Go p e below f0 s₁ m 17 #[.val (.int jj), .val (.int mm), .val fm] [.int jj] := fun t k => by
    refine pre0 t ?_
    refine zil X0 Hb (D21 0) rfl <| zin X0 Hb (D21 1) ((if0 _ _).trans (flt (hk1 : ¬ (jj < (0 : Int32)))).1) <| zil X0 Hb (D21 2) rfl <| zil X0 Hb (D21 3) rfl <| zcy X0 Hb (D21 4) (tlt (hk2 : jj < mm)).1 16 (by decide) rfl <| zil X0 Hb (D21 5) rfl ?_
    exact k
  exact own_oI X0 Hb Bd.notSynchronized Bd.returns w1 (D21 6) e0 (by decide) (by decide) ⟨rfl, N0, rfl⟩
def L20 : List (Nat × Instr × Nat) := [(0, .iload_n 0, 1), (1, .iload_n 1, 1), (2, .getstatic 1053, 3), (5, .invokestatic 1059, 3), (8, .pop, 1), (9, .return_, 1)]
theorem D20 : ∀ k : Nat, own_PP jdk_42_method_155_code L20[k]? := own_dd (by decide +kernel)
theorem pd4 : parseMethodDescriptor "(IILjava/util/function/BiFunction;)I" = some ⟨[.int, .int, (.object "java/util/function/BiFunction")], some .int⟩ := by decide +kernel
theorem rm20 (hw : own_W a0 Z) (jj mm : Int32) {zc : Int32} {fm : Value} {fn : Value} {u8 : Addr} {h0 : Heap} {n0 : Nat} (O0 : Old Z n0 h0) (SU : own_SU Z zc fm fn u8) (hk1 : ¬ jj < (0 : Int32)) (hk2 : jj < mm) : own_M l own_n20 jdk_42_method_155_code 2 none (own_rm 1 0 0 14) Z h0 #[.int jj, .int mm] (fun v h L => v = none ∧ Fr n0 L ∧ h = h0) := by
  refine own_body (L0 := #[.val (.int jj), .val (.int mm)]) (plainFor_of_name pn_java_lang_String) rfl rfl ?_
  intro p e s m below meth c s₁ f0 Bd hx Hb hml hZ hown X0 e0 pre0
  have hby := Hb.2
  have W := own_q hw
  have N0 := Fr.nil n0
  have O := O0
  obtain ⟨T1, X1, e1, st1⟩ := getS2 X0 hx hZ hown (host := "") (Or.inl (W 92 rfl)) Via.refl e0 (SU.2.2.2.2.1.ext O.2) (g := (mkF m 2 #[.val (.int jj), .val (.int mm)] [.int mm, .int jj])) rfl (hb hby (D20 2))
  obtain ⟨_, T2, Lc2, X2, hQ2, st2⟩ := own_cS X1 Hb hZ hown hml (L := #[.val (.int jj), .val (.int mm)]) rfl (rm21 hw jj mm fm O SU.2.2.2.2.2.2.2.2.2.1 hk1 hk2) (W 94 rfl) (W 95 rfl) (W 93 rfl) (W 96 rfl) pd4 e1 (D20 3) [.int jj, .int mm, fm] [] 0
  obtain ⟨rfl, N2q, eh2⟩ := hQ2
  have N2 := Fr.app N0 N2q
  have w3 : own_Go p e below f0 T2 m 9 #[.val (.int jj), .val (.int mm)] [] := fun t k => by
    refine pre0 t ?_
    refine zil X0 Hb (D20 0) rfl <| zil X0 Hb (D20 1) rfl <| st1 _ <| st2 _ <| zpo X2 Hb (D20 4) rfl ?_
    exact k
  exact own_oV X2 Hb Bd.notSynchronized Bd.returns w3 (D20 5) eh2 (by decide) (by decide) ⟨rfl, N2, rfl⟩
def L38 : List (Nat × Instr × Nat) := [(0, .aload_n 0, 1), (1, .arraylength, 1), (2, .iconst 1, 1), (3, .ishr, 1), (4, .ireturn, 1)]
theorem D38 : ∀ k : Nat, own_PP jdk_52_method_6_code L38[k]? := own_dd (by decide +kernel)
theorem rm38 (hw : own_W a0 Z) (b : Addr) (kb : ClassId) (nn : Int32) (vv : List Value) (mm : Int32) {h0 : Heap} {n0 : Nat} (O0 : Old Z n0 h0) (V_b : Arv Z h0 b kb .byte nn vv (.int 0)) (hm : (nn >>> ((1 : Int32) &&& 31)) = mm) : own_M l own_n38 jdk_52_method_6_code 1 (some .int) (own_rm 0 0 0 0) Z h0 #[.ref b] (fun v h L => v = some (.int mm) ∧ Fr n0 L ∧ h = h0) := by
  refine own_body (L0 := #[.val (.ref b)]) (plainFor_of_name pn_java_lang_StringUTF16) rfl rfl ?_
  intro p e s m below meth c s₁ f0 Bd hx Hb hml hZ hown X0 e0 pre0
  have N0 := Fr.nil n0
  have O := O0
  have B1 := own_ln V_b
  have w2 : own_Go p e below f0 s₁ m 4 #[.val (.ref b)] [(.int (nn >>> ((1 : Int32) &&& 31)))] := fun t k => by
    refine pre0 t ?_
    refine zal X0 Hb (D38 0) rfl rfl <| zal_ X0 Hb hZ e0 B1 (D38 1) <| zic X0 Hb (D38 2) 1 rfl <| zsr X0 Hb (D38 3) ?_
    exact k
  exact own_oI X0 Hb Bd.notSynchronized Bd.returns w2 (D38 4) e0 (by decide) (by decide) ⟨(congrArg (fun x => some (Value.int x)) hm), N0, rfl⟩
def L37 : List (Nat × Instr × Nat) := [(0, .iload_n 0, 1), (1, .aload_n 1, 1), (2, .invokestatic 48, 3), (5, .invokestatic 414, 3), (8, .return_, 1)]
theorem D37 : ∀ k : Nat, own_PP jdk_52_method_91_code L37[k]? := own_dd (by decide +kernel)
theorem pd5 : parseMethodDescriptor "([B)I" = some ⟨[(.array .byte)], some .int⟩ := by decide +kernel
theorem pd6 : parseMethodDescriptor "(II)V" = some ⟨[.int, .int], none⟩ := by decide +kernel
theorem rm37 (hw : own_W a0 Z) (jj : Int32) (b : Addr) (kb : ClassId) (nn : Int32) (vv : List Value) (mm : Int32) {zc : Int32} {fm : Value} {fn : Value} {u8 : Addr} {h0 : Heap} {n0 : Nat} (O0 : Old Z n0 h0) (SU : own_SU Z zc fm fn u8) (V_b : Arv Z h0 b kb .byte nn vv (.int 0)) (hm : (nn >>> ((1 : Int32) &&& 31)) = mm) (hk1 : ¬ jj < (0 : Int32)) (hk2 : jj < mm) : own_M l own_n37 jdk_52_method_91_code 2 none (own_rm 2 0 0 27) Z h0 #[.int jj, .ref b] (fun v h L => v = none ∧ Fr n0 L ∧ h = h0) := by
  refine own_body (L0 := #[.val (.int jj), .val (.ref b)]) (plainFor_of_name pn_java_lang_StringUTF16) rfl rfl ?_
  intro p e s m below meth c s₁ f0 Bd hx Hb hml hZ hown X0 e0 pre0
  have W := own_q hw
  have N0 := Fr.nil n0
  have O := O0
  obtain ⟨_, T1, Lc1, X1, hQ1, st1⟩ := own_cS X0 Hb hZ hown hml (L := #[.val (.int jj), .val (.ref b)]) rfl (rm38 hw b kb nn vv mm O V_b hm) (W 180 rfl) (W 181 rfl) (W 22 rfl) (W 182 rfl) pd5 e0 (D37 2) [.ref b] [.int jj] 1
  obtain ⟨rfl, N1q, eh1⟩ := hQ1
  have N1 := Fr.app N0 N1q
  obtain ⟨_, T2, Lc2, X2, hQ2, st2⟩ := own_cS X1 Hb hZ hown hml (L := #[.val (.int jj), .val (.ref b)]) rfl (rm20 hw jj mm O SU hk1 hk2) (W 183 rfl) (W 90 rfl) (W 8 rfl) (W 91 rfl) pd6 eh1 (D37 3) [.int jj, .int mm] [] 0
  obtain ⟨rfl, N2q, eh2⟩ := hQ2
  have N2 := Fr.app N1 N2q
  have w3 : own_Go p e below f0 T2 m 8 #[.val (.int jj), .val (.ref b)] [] := fun t k => by
    refine pre0 t ?_
    refine zil X0 Hb (D37 0) rfl <| zal X0 Hb (D37 1) rfl rfl <| st1 _ <| st2 _ ?_
    exact k
  exact own_oV X2 Hb Bd.notSynchronized Bd.returns w3 (D37 4) eh2 (by decide) (by decide) ⟨rfl, N2, rfl⟩
def L36 : List (Nat × Instr × Nat) := [(0, .iload_n 1, 1), (1, .aload_n 0, 1), (2, .invokestatic 67, 3), (5, .aload_n 0, 1), (6, .iload_n 1, 1), (7, .invokestatic 71, 3), (10, .ireturn, 1)]
theorem D36 : ∀ k : Nat, own_PP jdk_52_method_83_code L36[k]? := own_dd (by decide +kernel)
theorem pd7 : parseMethodDescriptor "(I[B)V" = some ⟨[.int, (.array .byte)], none⟩ := by decide +kernel
theorem pd8 : parseMethodDescriptor "([BI)C" = some ⟨[(.array .byte), .int], some .char⟩ := by decide +kernel
theorem rm36 (hw : own_W a0 Z) (b : Addr) (jj : Int32) (kb : ClassId) (nn : Int32) (vv : List Value) (xx mm : Int32) {zc : Int32} {fm : Value} {fn : Value} {u8 : Addr} {h0 : Heap} {n0 : Nat} (O0 : Old Z n0 h0) (SU : own_SU Z zc fm fn u8) (V_b : Arv Z h0 b kb .byte nn vv (.int 0)) (hlo : vv.getD (jj <<< ((1 : Int32) &&& 31)).toNatClampNeg (.int 0) = .int (own_lo xx)) (hhi : vv.getD ((jj <<< ((1 : Int32) &&& 31)) + (1 : Int32)).toNatClampNeg (.int 0) = .int (own_hi xx)) (hb1 : ¬ (jj <<< ((1 : Int32) &&& 31)) < 0 ∧ (jj <<< ((1 : Int32) &&& 31)) < nn) (hb2 : ¬ ((jj <<< ((1 : Int32) &&& 31)) + (1 : Int32)) < 0 ∧ ((jj <<< ((1 : Int32) &&& 31)) + (1 : Int32)) < nn) (hg : own_gc (own_lo xx) (own_hi xx) = xx) (hm : (nn >>> ((1 : Int32) &&& 31)) = mm) (hk1 : ¬ jj < (0 : Int32)) (hk2 : jj < mm) : own_M l own_n36 jdk_52_method_83_code 2 (some .char) (own_rm 3 0 0 40) Z h0 #[.ref b, .int jj] (fun v h L => v = some (.int xx) ∧ Fr n0 L ∧ h = h0) := by
  refine own_body (L0 := #[.val (.ref b), .val (.int jj)]) (plainFor_of_name pn_java_lang_StringUTF16) rfl rfl ?_
  intro p e s m below meth c s₁ f0 Bd hx Hb hml hZ hown X0 e0 pre0
  have W := own_q hw
  have N0 := Fr.nil n0
  have O := O0
  obtain ⟨_, T1, Lc1, X1, hQ1, st1⟩ := own_cS X0 Hb hZ hown hml (L := #[.val (.ref b), .val (.int jj)]) rfl (rm37 hw jj b kb nn vv mm O SU V_b hm hk1 hk2) (W 177 rfl) (W 178 rfl) (W 22 rfl) (W 179 rfl) pd7 e0 (D36 2) [.int jj, .ref b] [] 0
  obtain ⟨rfl, N1q, eh1⟩ := hQ1
  have N1 := Fr.app N0 N1q
  obtain ⟨_, T2, Lc2, X2, hQ2, st2⟩ := own_cS X1 Hb hZ hown hml (L := #[.val (.ref b), .val (.int jj)]) rfl (rm35 hw b jj kb nn vv xx O SU V_b hlo hhi hb1 hb2 hg) (W 168 rfl) (W 169 rfl) (W 22 rfl) (W 170 rfl) pd8 eh1 (D36 5) [.ref b, .int jj] [] 0
  obtain ⟨rfl, N2q, eh2⟩ := hQ2
  have N2 := Fr.app N1 N2q
  have w3 : own_Go p e below f0 T2 m 10 #[.val (.ref b), .val (.int jj)] [.int xx] := fun t k => by
    refine pre0 t ?_
    refine zil X0 Hb (D36 0) rfl <| zal X0 Hb (D36 1) rfl rfl <| st1 _ <| zal X1 Hb (D36 3) rfl rfl <| zil X1 Hb (D36 4) rfl <| st2 _ ?_
    exact k
  exact own_oN X2 Hb Bd.notSynchronized Bd.returns (by simp) w3 (D36 6) eh2 (by decide) (by decide) ⟨(congrArg (fun x => some (Value.int x)) (own_kq hg)), N2, rfl⟩
def L19 : List (Nat × Instr × Nat) := [(0, .iload_n 1, 1), (1, .aload_n 0, 1), (2, .arraylength, 1), (3, .invokestatic 9, 3), (6, .aload_n 0, 1), (7, .iload_n 1, 1), (8, .baload, 1), (9, .sipush 255, 3), (12, .iand, 1), (13, .i2c, 1), (14, .ireturn, 1)]
theorem D19 : ∀ k : Nat, own_PP jdk_43_method_2_code L19[k]? := own_dd (by decide +kernel)
theorem pn_java_lang_StringLatin1 : plainName "java/lang/StringLatin1" = true := by first | (simp [plainName, overriddenIn]; done) | decide +kernel
theorem rm19 (hw : own_W a0 Z) (b : Addr) (jj : Int32) (kb : ClassId) (nn : Int32) (vv : List Value) (xx : Int32) {zc : Int32} {fm : Value} {fn : Value} {u8 : Addr} {h0 : Heap} {n0 : Nat} (O0 : Old Z n0 h0) (SU : own_SU Z zc fm fn u8) (V_b : Arv Z h0 b kb .byte nn vv (.int 0)) (hel : vv.getD jj.toNatClampNeg (.int 0) = .int (StrChars.lo8 xx)) (hbd : ¬ jj < 0 ∧ jj < nn) (hg : own_k (own_k (StrChars.lo8 xx &&& (255 : Int32))) = xx) : own_M l own_n19 jdk_43_method_2_code 2 (some .char) (own_rm 2 0 0 27) Z h0 #[.ref b, .int jj] (fun v h L => v = some (.int xx) ∧ Fr n0 L ∧ h = h0) := by
  refine own_body (L0 := #[.val (.ref b), .val (.int jj)]) (plainFor_of_name pn_java_lang_StringLatin1) rfl rfl ?_
  intro p e s m below meth c s₁ f0 Bd hx Hb hml hZ hown X0 e0 pre0
  have W := own_q hw
  have N0 := Fr.nil n0
  have O := O0
  have B1 := own_ln V_b
  obtain ⟨_, T2, Lc2, X2, hQ2, st2⟩ := own_cS X0 Hb hZ hown hml (L := #[.val (.ref b), .val (.int jj)]) rfl (rm20 hw jj nn O SU hbd.1 hbd.2) (W 89 rfl) (W 90 rfl) (W 8 rfl) (W 91 rfl) pd6 e0 (D19 3) [.int jj, .int nn] [] 0
  obtain ⟨rfl, N2q, eh2⟩ := hQ2
  have N2 := Fr.app N0 N2q
  have B3 : own_El Z h0 b .byte jj (.int (StrChars.lo8 xx)) := own_el V_b hbd hel
  have w4 : own_Go p e below f0 T2 m 14 #[.val (.ref b), .val (.int jj)] [(.int (((StrChars.lo8 xx) &&& (255 : Int32)).toUInt32.toUInt16.toUInt32.toInt32))] := fun t k => by
    refine pre0 t ?_
    refine zil X0 Hb (D19 0) rfl <| zal X0 Hb (D19 1) rfl rfl <| zal_ X0 Hb hZ e0 B1 (D19 2) <| st2 _ <| zal X2 Hb (D19 4) rfl rfl <| zil X2 Hb (D19 5) rfl <| zba X2 Hb hZ eh2 B3 (D19 6) <| zsp X2 Hb (D19 7) 255 rfl ?_
    refine zan X2 Hb (D19 8) <| zik X2 Hb (D19 9) ?_
    exact k
  exact own_oN X2 Hb Bd.notSynchronized Bd.returns (by simp) w4 (D19 10) eh2 (by decide) (by decide) ⟨(congrArg (fun x => some (Value.int x)) hg), N2, rfl⟩
def L17 : List (Nat × Instr × Nat) := [(0, .aload_n 0, 1), (1, .invokevirtual 492, 3), (4, .ifCond .eq 12, 3), (7, .aload_n 0, 1), (8, .getfield 9, 3), (11, .iload_n 1, 1), (12, .invokestatic 495, 3), (15, .ireturn, 1), (16, .aload_n 0, 1), (17, .getfield 9, 3), (20, .iload_n 1, 1), (21, .invokestatic 498, 3), (24, .ireturn, 1)]
theorem D17 : ∀ k : Nat, own_PP jdk_42_method_56_code L17[k]? := own_dd (by decide +kernel)
theorem pd9 : parseMethodDescriptor "()Z" = some ⟨[], some .boolean⟩ := by decide +kernel
theorem rm17_L (hw : own_W a0 Z) (a : Addr) (jj : Int32) (tt : Addr) (kb : ClassId) (nn : Int32) (vv : List Value) (xx : Int32) {zc : Int32} {fm : Value} {fn : Value} {u8 : Addr} {h0 : Heap} {n0 : Nat} (O0 : Old Z n0 h0) (SU : own_SU Z zc fm fn u8) (E_a : Exa Z h0 a "java/lang/String") (F_v_a : Fld Z h0 a "java/lang/String" "value" "[B" (.ref tt)) (F_c_a : Fld Z h0 a "java/lang/String" "coder" "B" (.int 0)) (V_tt : Arv Z h0 tt kb .byte nn vv (.int 0)) (hel : vv.getD jj.toNatClampNeg (.int 0) = .int (StrChars.lo8 xx)) (hbd : ¬ jj < 0 ∧ jj < nn) (hg : own_k (own_k (StrChars.lo8 xx &&& (255 : Int32))) = xx) : own_M l own_n17 jdk_42_method_56_code 2 (some .char) (own_rm 3 0 0 40) Z h0 #[.ref a, .int jj] (fun v h L => v = some (.int xx) ∧ Fr n0 L ∧ h = h0) := by
  refine own_body (L0 := #[.val (.ref a), .val (.int jj)]) (plainFor_of_name pn_java_lang_String) rfl rfl ?_
  intro p e s m below meth c s₁ f0 Bd hx Hb hml hZ hown X0 e0 pre0
  have hby := Hb.2
  have W := own_q hw
  have N0 := Fr.nil n0
  have O := O0
  obtain ⟨_, T1, Lc1, X1, hQ1, st1⟩ := own_cV X0 Hb hZ hown hml (L := #[.val (.ref a), .val (.int jj)]) rfl (rm18_L hw a O SU F_c_a) (W 80 rfl) (W 81 rfl) (W 83 rfl) (W 82 rfl) (W 8 rfl) (W 84 rfl) pd9 e0 E_a (D17 1) [] [] 0
  obtain ⟨rfl, N1q, eh1⟩ := hQ1
  have N1 := Fr.app N0 N1q
  obtain ⟨T2, X2, e2, st2⟩ := getF X1 hx hZ hown (host := "") (Or.inl (W 33 rfl)) Via.refl eh1 F_v_a (g := (mkF m 8 #[.val (.ref a), .val (.int jj)] [.ref a])) rfl rfl (hb hby (D17 4))
  obtain ⟨_, T3, Lc3, X3, hQ3, st3⟩ := own_cS X2 Hb hZ hown hml (L := #[.val (.ref a), .val (.int jj)]) rfl (rm19 hw tt jj kb nn vv xx O SU V_tt hel hbd hg) (W 85 rfl) (W 86 rfl) (W 87 rfl) (W 88 rfl) pd8 e2 (D17 6) [.ref tt, .int jj] [] 0
  obtain ⟨rfl, N3q, eh3⟩ := hQ3
  have N3 := Fr.app N1 N3q
  have w4 : own_Go p e below f0 T3 m 15 #[.val (.ref a), .val (.int jj)] [.int xx] := fun t k => by
    refine pre0 t ?_
    refine zal X0 Hb (D17 0) rfl rfl <| st1 _ <| zin X1 Hb (D17 2) ((if0 _ _).trans (feq ((by decide) : ¬ ((1 : Int32) = (0 : Int32)))).1) <| zal X1 Hb (D17 3) rfl rfl <| st2 _ <| zil X2 Hb (D17 5) rfl <| st3 _ ?_
    exact k
  exact own_oN X3 Hb Bd.notSynchronized Bd.returns (by simp) w4 (D17 7) eh3 (by decide) (by decide) ⟨(congrArg (fun x => some (Value.int x)) (own_kq hg)), N3, rfl⟩
theorem rm17_U (hw : own_W a0 Z) (a : Addr) (jj : Int32) (tt : Addr) (kb : ClassId) (nn : Int32) (vv : List Value) (xx mm : Int32) {zc : Int32} {fm : Value} {fn : Value} {u8 : Addr} {h0 : Heap} {n0 : Nat} (O0 : Old Z n0 h0) (SU : own_SU Z zc fm fn u8) (E_a : Exa Z h0 a "java/lang/String") (F_v_a : Fld Z h0 a "java/lang/String" "value" "[B" (.ref tt)) (F_c_a : Fld Z h0 a "java/lang/String" "coder" "B" (.int 1)) (V_tt : Arv Z h0 tt kb .byte nn vv (.int 0)) (hlo : vv.getD (jj <<< ((1 : Int32) &&& 31)).toNatClampNeg (.int 0) = .int (own_lo xx)) (hhi : vv.getD ((jj <<< ((1 : Int32) &&& 31)) + (1 : Int32)).toNatClampNeg (.int 0) = .int (own_hi xx)) (hb1 : ¬ (jj <<< ((1 : Int32) &&& 31)) < 0 ∧ (jj <<< ((1 : Int32) &&& 31)) < nn) (hb2 : ¬ ((jj <<< ((1 : Int32) &&& 31)) + (1 : Int32)) < 0 ∧ ((jj <<< ((1 : Int32) &&& 31)) + (1 : Int32)) < nn) (hg : own_gc (own_lo xx) (own_hi xx) = xx) (hm : (nn >>> ((1 : Int32) &&& 31)) = mm) (hk1 : ¬ jj < (0 : Int32)) (hk2 : jj < mm) : own_M l own_n17 jdk_42_method_56_code 2 (some .char) (own_rm 4 0 0 53) Z h0 #[.ref a, .int jj] (fun v h L => v = some (.int xx) ∧ Fr n0 L ∧ h = h0) := by
  refine own_body (L0 := #[.val (.ref a), .val (.int jj)]) (plainFor_of_name pn_java_lang_String) rfl rfl ?_
  intro p e s m below meth c s₁ f0 Bd hx Hb hml hZ hown X0 e0 pre0
  have hby := Hb.2
  have W := own_q hw
  have N0 := Fr.nil n0
  have O := O0
  obtain ⟨_, T1, Lc1, X1, hQ1, st1⟩ := own_cV X0 Hb hZ hown hml (L := #[.val (.ref a), .val (.int jj)]) rfl (rm18_U hw a O SU F_c_a) (W 80 rfl) (W 81 rfl) (W 83 rfl) (W 82 rfl) (W 8 rfl) (W 84 rfl) pd9 e0 E_a (D17 1) [] [] 0
  obtain ⟨rfl, N1q, eh1⟩ := hQ1
  have N1 := Fr.app N0 N1q
  obtain ⟨T2, X2, e2, st2⟩ := getF X1 hx hZ hown (host := "") (Or.inl (W 33 rfl)) Via.refl eh1 F_v_a (g := (mkF m 17 #[.val (.ref a), .val (.int jj)] [.ref a])) rfl rfl (hb hby (D17 9))
  obtain ⟨_, T3, Lc3, X3, hQ3, st3⟩ := own_cS X2 Hb hZ hown hml (L := #[.val (.ref a), .val (.int jj)]) rfl (rm36 hw tt jj kb nn vv xx mm O SU V_tt hlo hhi hb1 hb2 hg hm hk1 hk2) (W 174 rfl) (W 175 rfl) (W 22 rfl) (W 176 rfl) pd8 e2 (D17 11) [.ref tt, .int jj] [] 0
  obtain ⟨rfl, N3q, eh3⟩ := hQ3
  have N3 := Fr.app N1 N3q
  have w4 : own_Go p e below f0 T3 m 24 #[.val (.ref a), .val (.int jj)] [.int xx] := fun t k => by
    refine pre0 t ?_
    refine zal X0 Hb (D17 0) rfl rfl <| st1 _ <| ziy X1 Hb (D17 2) ((if0 _ _).trans (teq (rfl : (0 : Int32) = (0 : Int32))).1) 16 (by decide) rfl <| zal X1 Hb (D17 8) rfl rfl <| st2 _ <| zil X2 Hb (D17 10) rfl <| st3 _ ?_
    exact k
  exact own_oN X3 Hb Bd.notSynchronized Bd.returns (by simp) w4 (D17 12) eh3 (by decide) (by decide) ⟨(congrArg (fun x => some (Value.int x)) (own_kq hg)), N3, rfl⟩
def L22 : List (Nat × Instr × Nat) := [(0, .iload_n 0, 1), (1, .ldc 75, 2), (3, .if_icmp .lt 13, 3), (6, .iload_n 0, 1), (7, .ldc 77, 2), (9, .if_icmp .ge 7, 3), (12, .iconst 1, 1), (13, .goto 4, 3), (16, .iconst 0, 1), (17, .ireturn, 1)]
theorem D22 : ∀ k : Nat, own_PP jdk_89_method_16_code L22[k]? := own_dd (by decide +kernel)
theorem pn_java_lang_Character : plainName "java/lang/Character" = true := by first | (simp [plainName, overriddenIn]; done) | decide +kernel
theorem rm22 (hw : own_W a0 Z) (cc : Int32) {h0 : Heap} {n0 : Nat} (O0 : Old Z n0 h0) : own_M l own_n22 jdk_89_method_16_code 1 (some .boolean) (own_rm 0 0 0 0) Z h0 #[.int cc] (fun v h L => v = some (.int (own_is cc)) ∧ Fr n0 L ∧ h = h0) := by
  refine own_body (L0 := #[.val (.int cc)]) (plainFor_of_name pn_java_lang_Character) rfl rfl ?_
  intro p e s m below meth c s₁ f0 Bd hx Hb hml hZ hown X0 e0 pre0
  have hby := Hb.2
  have W := own_q hw
  have N0 := Fr.nil n0
  have O := O0
  have w1 : own_Go p e below f0 s₁ m 3 #[.val (.int cc)] [.int 55296, .int cc] := fun t k => by
    refine pre0 t ?_
    refine zil X0 Hb (D22 0) rfl <| X0.ldcInt hx hown (mvT hZ (W 101 rfl)) (g := (mkF m 1 #[.val (.int cc)] [.int cc])) rfl (hb hby (D22 1)) _ ?_
    exact k
  by_cases hc3_2 : cc < (55296 : Int32)
  · have w3 : own_Go p e below f0 s₁ m 17 #[.val (.int cc)] [.int 0] := fun t k => by
      refine w1 t ?_
      refine zcy X0 Hb (D22 2) (tlt hc3_2).1 16 (by decide) rfl <| zic X0 Hb (D22 8) 0 rfl ?_
      exact k
    exact own_oN X0 Hb Bd.notSynchronized Bd.returns (by simp) w3 (D22 9) e0 (by decide) (by decide) ⟨(by show some (Value.int (0 : Int32)) = _; simp [own_is, hc3_2]), N0, rfl⟩
  · have w4 : own_Go p e below f0 s₁ m 9 #[.val (.int cc)] [.int 57344, .int cc] := fun t k => by
      refine w1 t ?_
      refine zcn X0 Hb (D22 2) (flt hc3_2).1 <| zil X0 Hb (D22 3) rfl <| X0.ldcInt hx hown (mvT hZ (W 184 rfl)) (g := (mkF m 7 #[.val (.int cc)] [.int cc])) rfl (hb hby (D22 4)) _ ?_
      exact k
    by_cases hc9_5 : cc < (57344 : Int32)
    · have w6 : own_Go p e below f0 s₁ m 17 #[.val (.int cc)] [.int 1] := fun t k => by
        refine w4 t ?_
        refine zcn X0 Hb (D22 5) (tlt hc9_5).2.1 <| zic X0 Hb (D22 6) 1 rfl <| zgo X0 Hb (D22 7) 17 (by decide) rfl ?_
        exact k
      exact own_oN X0 Hb Bd.notSynchronized Bd.returns (by simp) w6 (D22 9) e0 (by decide) (by decide) ⟨(by show some (Value.int (1 : Int32)) = _; simp [own_is, hc3_2, hc9_5]), N0, rfl⟩
    · have w7 : own_Go p e below f0 s₁ m 17 #[.val (.int cc)] [.int 0] := fun t k => by
        refine w4 t ?_
        refine zcy X0 Hb (D22 5) (flt hc9_5).2.1 16 (by decide) rfl <| zic X0 Hb (D22 8) 0 rfl ?_
        exact k
      exact own_oN X0 Hb Bd.notSynchronized Bd.returns (by simp) w7 (D22 9) e0 (by decide) (by decide) ⟨(by show some (Value.int (0 : Int32)) = _; simp [own_is, hc3_2, hc9_5]), N0, rfl⟩
def L39 : List (Nat × Instr × Nat) := [(0, .iload_n 0, 1), (1, .ldc 75, 2), (3, .if_icmp .lt 13, 3), (6, .iload_n 0, 1), (7, .ldc 76, 2), (9, .if_icmp .ge 7, 3), (12, .iconst 1, 1), (13, .goto 4, 3), (16, .iconst 0, 1), (17, .ireturn, 1)]
theorem D39 : ∀ k : Nat, own_PP jdk_89_method_14_code L39[k]? := own_dd (by decide +kernel)
theorem rm39 (hw : own_W a0 Z) (cc : Int32) {h0 : Heap} {n0 : Nat} (O0 : Old Z n0 h0) : own_M l own_n39 jdk_89_method_14_code 1 (some .boolean) (own_rm 0 0 0 0) Z h0 #[.int cc] (fun v h L => v = some (.int (own_hh cc)) ∧ Fr n0 L ∧ h = h0) := by
  refine own_body (L0 := #[.val (.int cc)]) (plainFor_of_name pn_java_lang_Character) rfl rfl ?_
  intro p e s m below meth c s₁ f0 Bd hx Hb hml hZ hown X0 e0 pre0
  have hby := Hb.2
  have W := own_q hw
  have N0 := Fr.nil n0
  have O := O0
  have w1 : own_Go p e below f0 s₁ m 3 #[.val (.int cc)] [.int 55296, .int cc] := fun t k => by
    refine pre0 t ?_
    refine zil X0 Hb (D39 0) rfl <| X0.ldcInt hx hown (mvT hZ (W 101 rfl)) (g := (mkF m 1 #[.val (.int cc)] [.int cc])) rfl (hb hby (D39 1)) _ ?_
    exact k
  by_cases hc3_2 : cc < (55296 : Int32)
  · have w3 : own_Go p e below f0 s₁ m 17 #[.val (.int cc)] [.int 0] := fun t k => by
      refine w1 t ?_
      refine zcy X0 Hb (D39 2) (tlt hc3_2).1 16 (by decide) rfl <| zic X0 Hb (D39 8) 0 rfl ?_
      exact k
    exact own_oN X0 Hb Bd.notSynchronized Bd.returns (by simp) w3 (D39 9) e0 (by decide) (by decide) ⟨(by show some (Value.int (0 : Int32)) = _; simp [own_hh, hc3_2]), N0, rfl⟩
  · have w4 : own_Go p e below f0 s₁ m 9 #[.val (.int cc)] [.int 56320, .int cc] := fun t k => by
      refine w1 t ?_
      refine zcn X0 Hb (D39 2) (flt hc3_2).1 <| zil X0 Hb (D39 3) rfl <| X0.ldcInt hx hown (mvT hZ (W 188 rfl)) (g := (mkF m 7 #[.val (.int cc)] [.int cc])) rfl (hb hby (D39 4)) _ ?_
      exact k
    by_cases hc9_5 : cc < (56320 : Int32)
    · have w6 : own_Go p e below f0 s₁ m 17 #[.val (.int cc)] [.int 1] := fun t k => by
        refine w4 t ?_
        refine zcn X0 Hb (D39 5) (tlt hc9_5).2.1 <| zic X0 Hb (D39 6) 1 rfl <| zgo X0 Hb (D39 7) 17 (by decide) rfl ?_
        exact k
      exact own_oN X0 Hb Bd.notSynchronized Bd.returns (by simp) w6 (D39 9) e0 (by decide) (by decide) ⟨(by show some (Value.int (1 : Int32)) = _; simp [own_hh, hc3_2, hc9_5]), N0, rfl⟩
    · have w7 : own_Go p e below f0 s₁ m 17 #[.val (.int cc)] [.int 0] := fun t k => by
        refine w4 t ?_
        refine zcy X0 Hb (D39 5) (flt hc9_5).2.1 16 (by decide) rfl <| zic X0 Hb (D39 8) 0 rfl ?_
        exact k
      exact own_oN X0 Hb Bd.notSynchronized Bd.returns (by simp) w7 (D39 9) e0 (by decide) (by decide) ⟨(by show some (Value.int (0 : Int32)) = _; simp [own_hh, hc3_2, hc9_5]), N0, rfl⟩
def L68 : List (Nat × Instr × Nat) := [(0, .iload_n 0, 1), (1, .ldc 76, 2), (3, .if_icmp .lt 13, 3), (6, .iload_n 0, 1), (7, .ldc 77, 2), (9, .if_icmp .ge 7, 3), (12, .iconst 1, 1), (13, .goto 4, 3), (16, .iconst 0, 1), (17, .ireturn, 1)]
theorem D68 : ∀ k : Nat, own_PP jdk_89_method_15_code L68[k]? := own_dd (by decide +kernel)
theorem rm68 (hw : own_W a0 Z) (cc : Int32) {h0 : Heap} {n0 : Nat} (O0 : Old Z n0 h0) : own_M l own_n68 jdk_89_method_15_code 1 (some .boolean) (own_rm 0 0 0 0) Z h0 #[.int cc] (fun v h L => v = some (.int (own_ll cc)) ∧ Fr n0 L ∧ h = h0) := by
  refine own_body (L0 := #[.val (.int cc)]) (plainFor_of_name pn_java_lang_Character) rfl rfl ?_
  intro p e s m below meth c s₁ f0 Bd hx Hb hml hZ hown X0 e0 pre0
  have hby := Hb.2
  have W := own_q hw
  have N0 := Fr.nil n0
  have O := O0
  have w1 : own_Go p e below f0 s₁ m 3 #[.val (.int cc)] [.int 56320, .int cc] := fun t k => by
    refine pre0 t ?_
    refine zil X0 Hb (D68 0) rfl <| X0.ldcInt hx hown (mvT hZ (W 188 rfl)) (g := (mkF m 1 #[.val (.int cc)] [.int cc])) rfl (hb hby (D68 1)) _ ?_
    exact k
  by_cases hc3_2 : cc < (56320 : Int32)
  · have w3 : own_Go p e below f0 s₁ m 17 #[.val (.int cc)] [.int 0] := fun t k => by
      refine w1 t ?_
      refine zcy X0 Hb (D68 2) (tlt hc3_2).1 16 (by decide) rfl <| zic X0 Hb (D68 8) 0 rfl ?_
      exact k
    exact own_oN X0 Hb Bd.notSynchronized Bd.returns (by simp) w3 (D68 9) e0 (by decide) (by decide) ⟨(by show some (Value.int (0 : Int32)) = _; simp [own_ll, hc3_2]), N0, rfl⟩
  · have w4 : own_Go p e below f0 s₁ m 9 #[.val (.int cc)] [.int 57344, .int cc] := fun t k => by
      refine w1 t ?_
      refine zcn X0 Hb (D68 2) (flt hc3_2).1 <| zil X0 Hb (D68 3) rfl <| X0.ldcInt hx hown (mvT hZ (W 184 rfl)) (g := (mkF m 7 #[.val (.int cc)] [.int cc])) rfl (hb hby (D68 4)) _ ?_
      exact k
    by_cases hc9_5 : cc < (57344 : Int32)
    · have w6 : own_Go p e below f0 s₁ m 17 #[.val (.int cc)] [.int 1] := fun t k => by
        refine w4 t ?_
        refine zcn X0 Hb (D68 5) (tlt hc9_5).2.1 <| zic X0 Hb (D68 6) 1 rfl <| zgo X0 Hb (D68 7) 17 (by decide) rfl ?_
        exact k
      exact own_oN X0 Hb Bd.notSynchronized Bd.returns (by simp) w6 (D68 9) e0 (by decide) (by decide) ⟨(by show some (Value.int (1 : Int32)) = _; simp [own_ll, hc3_2, hc9_5]), N0, rfl⟩
    · have w7 : own_Go p e below f0 s₁ m 17 #[.val (.int cc)] [.int 0] := fun t k => by
        refine w4 t ?_
        refine zcy X0 Hb (D68 5) (flt hc9_5).2.1 16 (by decide) rfl <| zic X0 Hb (D68 8) 0 rfl ?_
        exact k
      exact own_oN X0 Hb Bd.notSynchronized Bd.returns (by simp) w7 (D68 9) e0 (by decide) (by decide) ⟨(by show some (Value.int (0 : Int32)) = _; simp [own_ll, hc3_2, hc9_5]), N0, rfl⟩
def own_wb : List Int32 → List Value
  | [] => []
  | c :: r => .int (own_lo c) :: .int (own_hi c) :: own_wb r
theorem own_wbl (ys : List Int32) : (own_wb ys).length = 2 * ys.length := by
  induction ys with
  | nil => rfl
  | cons c r ih => simp only [own_wb, List.length_cons, ih]; omega
theorem own_wba (ys zs : List Int32) : own_wb (ys ++ zs) = own_wb ys ++ own_wb zs := by
  induction ys with
  | nil => rfl
  | cons c r ih => simp only [List.cons_append, own_wb, ih]
theorem own_wbe (cs : List Int32) : StrChars.Road.wideBytes cs = own_wb cs := by
  induction cs with
  | nil => rfl
  | cons c r ih => simp only [own_wb, StrChars.Road.wideBytes, own_loe, own_hie, ih] <;> rfl
theorem own_wg : ∀ (cs : List Int32) (i : Nat) (x : Int32) (r : List Int32), cs.drop i = x :: r → (own_wb cs).getD (2 * i) (.int 0) = .int (own_lo x) ∧ (own_wb cs).getD (2 * i + 1) (.int 0) = .int (own_hi x)
  | [], i, x, r, h => by simp at h
  | c :: q, 0, x, r, h => by cases h; exact ⟨rfl, rfl⟩
  | c :: q, i + 1, x, r, h => own_wg q i x r (by simpa using h)
def own_G (cs : List Int32) : Prop := ∀ c ∈ cs, own_gc (own_lo c) (own_hi c) = c
theorem own_ar : ∀ n < 4, ∀ i < n, (¬ (Int32.ofNat i <<< ((1 : Int32) &&& 31)) < 0 ∧ (Int32.ofNat i <<< ((1 : Int32) &&& 31)) < Int32.ofNat (2 * n)) ∧ (¬ ((Int32.ofNat i <<< ((1 : Int32) &&& 31)) + (1 : Int32)) < 0 ∧ ((Int32.ofNat i <<< ((1 : Int32) &&& 31)) + (1 : Int32)) < Int32.ofNat (2 * n)) ∧ (Int32.ofNat (2 * n) >>> ((1 : Int32) &&& 31)) = Int32.ofNat n ∧ ¬ Int32.ofNat i < 0 ∧ Int32.ofNat i < Int32.ofNat n ∧ (Int32.ofNat i <<< ((1 : Int32) &&& 31)).toNatClampNeg = 2 * i ∧ ((Int32.ofNat i <<< ((1 : Int32) &&& 31)) + (1 : Int32)).toNatClampNeg = 2 * i + 1 := by decide +kernel
theorem own_dl {cs : List Int32} {i : Nat} {x : Int32} {r : List Int32} (h : cs.drop i = x :: r) : i < cs.length ∧ cs.drop (i + 1) = r := by
  have q := congrArg List.length h
  simp at q
  refine ⟨by omega, ?_⟩
  have w := congrArg (List.drop 1) h
  rw [List.drop_drop] at w
  simpa [Nat.add_comm] using w
theorem own_sj {j : Int32} {i : Nat} (h : j = Int32.ofNat i) : j + (1 : Int32) = Int32.ofNat (i + 1) := by
  rw [h, Int32.ofNat_add]
  rfl
def own_AT (cs : List Int32) (j x : Int32) : Prop := (own_wb cs).getD (j <<< ((1 : Int32) &&& 31)).toNatClampNeg (.int 0) = .int (own_lo x) ∧ (own_wb cs).getD ((j <<< ((1 : Int32) &&& 31)) + (1 : Int32)).toNatClampNeg (.int 0) = .int (own_hi x) ∧ (¬ (j <<< ((1 : Int32) &&& 31)) < 0 ∧ (j <<< ((1 : Int32) &&& 31)) < Int32.ofNat (2 * cs.length)) ∧ (¬ ((j <<< ((1 : Int32) &&& 31)) + (1 : Int32)) < 0 ∧ ((j <<< ((1 : Int32) &&& 31)) + (1 : Int32)) < Int32.ofNat (2 * cs.length)) ∧ own_gc (own_lo x) (own_hi x) = x ∧ (Int32.ofNat (2 * cs.length) >>> ((1 : Int32) &&& 31)) = Int32.ofNat cs.length ∧ ¬ j < 0 ∧ j < Int32.ofNat cs.length
theorem own_at {cs : List Int32} {i : Nat} {j x : Int32} {r : List Int32} (hj : j = Int32.ofNat i) (hB3 : cs.length ≤ 3) (hG : own_G cs) (hr : cs.drop i = x :: r) : own_AT cs j x := by
  subst hj
  have A := own_ar cs.length (by omega) i (own_dl hr).1
  have B := own_wg cs i x r hr
  have M : x ∈ cs := List.mem_of_mem_drop (i := i) (by rw [hr]; exact List.mem_cons_self ..)
  exact ⟨by rw [A.2.2.2.2.2.1]; exact B.1, by rw [A.2.2.2.2.2.2]; exact B.2, A.1, A.2.1, hG _ M, A.2.2.1, A.2.2.2.1, A.2.2.2.2.1⟩
theorem own_nxt {cs : List Int32} {i : Nat} {j x : Int32} {r : List Int32} (hj : j = Int32.ofNat i) (hr : cs.drop i = x :: r) (hc : (j + (1 : Int32)) < Int32.ofNat cs.length) : ∃ d q, r = d :: q ∧ cs.drop (i + 1) = d :: q ∧ j + (1 : Int32) = Int32.ofNat (i + 1) := by
  have D := own_dl hr
  cases r with
  | nil =>
    have e : cs.length = i + 1 := by
      have q := congrArg List.length hr
      simp at q
      omega
    rw [own_sj hj, e] at hc
    exact absurd hc Int32.lt_irrefl
  | cons d q => exact ⟨d, q, rfl, D.2, own_sj hj⟩
theorem own_last {cs : List Int32} {i : Nat} {j x : Int32} {r : List Int32} (hj : j = Int32.ofNat i) (hB3 : cs.length ≤ 3) (hr : cs.drop i = x :: r) (hc : ¬ (j + (1 : Int32)) < Int32.ofNat cs.length) : r = [] := by
  have D := own_dl hr
  cases r with
  | nil => rfl
  | cons d q =>
    rw [own_sj hj] at hc
    exact absurd (own_ar cs.length (by omega) (i + 1) (own_dl D.2).1).2.2.2.2.1 hc
def own_T (j x : Int32) (r : List Int32) (f i : Int32) : Prop := (own_is x = (0 : Int32) ∧ f = (-1 : Int32) ∧ i = (j + (1 : Int32))) ∨ (¬ own_is x = (0 : Int32) ∧ ¬ own_hh x = (0 : Int32) ∧ (∃ d q, r = d :: q ∧ ¬ own_ll d = (0 : Int32)) ∧ f = (-1 : Int32) ∧ i = (j + (2 : Int32))) ∨ (¬ own_is x = (0 : Int32) ∧ f = j ∧ (own_hh x = (0 : Int32) ∨ ∀ d q, r = d :: q → own_ll d = (0 : Int32)))
theorem own_x1 {j x : Int32} {r : List Int32} (h : own_is x = 0) : own_nx j (x :: r) = own_nx (j + 1) r := by
  cases r with
  | nil => simp [own_nx, h]
  | cons d q => simp [own_nx, h]
theorem own_x2 {j x d : Int32} {q : List Int32} (h : ¬ own_is x = 0) (h1 : ¬ own_hh x = 0) (h2 : ¬ own_ll d = 0) : own_nx j (x :: d :: q) = own_nx (j + 2) q := by simp [own_nx, h, h1, h2]
theorem own_x3 {j x : Int32} {r : List Int32} (h : ¬ own_is x = 0) (h1 : own_hh x = (0 : Int32) ∨ ∀ d q, r = d :: q → own_ll d = (0 : Int32)) : own_nx j (x :: r) = j := by
  cases r with
  | nil => simp [own_nx, h]
  | cons d q =>
    rcases h1 with h1 | h1
    · simp [own_nx, h, h1]
    · simp [own_nx, h, h1 d q rfl]
def L14 : List (Nat × Instr × Nat) := [(0, .iconst (-1), 1), (1, .istore_n 2, 1), (2, .iload_n 1, 1), (3, .istore_n 3, 1), (4, .iload_n 2, 1), (5, .ifCond .ge 74, 3), (8, .iload_n 3, 1), (9, .aload_n 0, 1), (10, .invokevirtual 37, 3), (13, .if_icmp .ge 66, 3), (16, .aload_n 0, 1), (17, .iload_n 3, 1), (18, .invokevirtual 53, 3), (21, .istore 4, 2), (23, .iload 4, 2), (25, .invokestatic 57, 3), (28, .ifCond .ne 9, 3), (31, .iinc 3 1, 3), (34, .goto 42, 3), (37, .iload 4, 2), (39, .invokestatic 63, 3), (42, .ifCond .eq 32, 3), (45, .iload_n 3, 1), (46, .iconst 1, 1), (47, .iadd, 1), (48, .aload_n 0, 1), (49, .invokevirtual 37, 3), (52, .if_icmp .ge 22, 3), (55, .aload_n 0, 1), (56, .iload_n 3, 1), (57, .iconst 1, 1), (58, .iadd, 1), (59, .invokevirtual 53, 3), (62, .invokestatic 66, 3), (65, .ifCond .eq 9, 3), (68, .iinc 3 2, 3), (71, .goto 5, 3), (74, .iload_n 3, 1), (75, .istore_n 2, 1), (76, .goto (-72), 3), (79, .iload_n 2, 1), (80, .ireturn, 1)]
theorem D14 : ∀ k : Nat, own_PP prog_16_method_4_code L14[k]? := own_dd (by decide +kernel)
theorem pd10 : parseMethodDescriptor "()I" = some ⟨[], some .int⟩ := by decide +kernel
theorem pd11 : parseMethodDescriptor "(I)C" = some ⟨[.int], some .char⟩ := by decide +kernel
theorem fr14 {p : Program} {e : Env} {R : Room} {s : State} {m : MethodId} {args : Array Value} {below : List Frame} {meth : Method} {c : Code} {T f0 : State} {locs : List Loc} {cells slots : Nat} (hw : own_W a0 Z) (a : Addr) (fr jj : Int32) (x4 : Slot) (tt : Addr) (kb : ClassId) (cs : List Int32) (ii : Nat) (xx : Int32) (rt : List Int32) {zc : Int32} {fm : Value} {fn : Value} {u8 : Addr} {h0 : Heap} {n0 : Nat} (X0 : Stand p l e R s m args below meth c T locs cells slots) (hx : p.tables.exec = Jvm.exec) (Hb : own_H p c prog_16_method_4_code) (hZ : Z.Warmed39 s.vm) (hown : s.vm.findClass own_n14.cls = some m.cls) (hml : c.maxLocals = 5) (hR : 5 ≤ R.frames ∧ 66 ≤ R.locals ∧ cells ≤ R.cells ∧ slots ≤ R.slots) (e0 : T.heap = h0) (N0 : Fr n0 locs) (O : Old Z n0 h0) (SU : own_SU Z zc fm fn u8) (E_a : Exa Z h0 a "java/lang/String") (F_v_a : Fld Z h0 a "java/lang/String" "value" "[B" (.ref tt)) (F_c_a : Fld Z h0 a "java/lang/String" "coder" "B" (.int 1)) (V_tt : Arv Z h0 tt kb .byte (Int32.ofNat (2 * cs.length)) (own_wb cs) (.int 0)) (hj : jj = Int32.ofNat ii) (hB3 : cs.length ≤ 3) (hG : own_G cs) (hr : cs.drop ii = xx :: rt) (ok_x4 : own_OK x4) (pre0 : own_Go p e below f0 T m 4 #[.val (.ref a), .val (.int fr), .val (.int (-1)), .val (.int jj), x4] []) : ∃ (T' : State) (L' : List Loc) (f2 : Int32) (i2 : Int32), Stand p l e R s m args below meth c T' L' cells slots ∧ Fr n0 L' ∧ T'.heap = h0 ∧ own_T jj xx rt f2 i2 ∧ own_Go p e below f0 T' m 4 #[.val (.ref a), .val (.int fr), .val (.int f2), .val (.int i2), .val (.int xx)] [] := by
  have hby := Hb.2
  have W := own_q hw
  have K := Keep.refl h0 []
  have AT := own_at hj hB3 hG hr
  obtain ⟨_, T1, Lc1, X1, hQ1, st1⟩ := own_cV X0 Hb hZ hown hml (L := #[.val (.ref a), .val (.int fr), .val (.int (-1)), .val (.int jj), x4]) rfl (rm15_U hw a tt kb (Int32.ofNat (2 * cs.length)) (own_wb cs) (Int32.ofNat cs.length) O SU E_a F_v_a F_c_a V_tt AT.2.2.2.2.2.1) (W 65 rfl) (W 66 rfl) (W 68 rfl) (W 67 rfl) (W 8 rfl) (W 69 rfl) pd10 e0 E_a (D14 8) [] [.int jj] 1 (hf := ⟨Nat.le_trans (by decide) hR.1, Nat.le_trans (by decide) hR.2.1, hR.2.2.1, hR.2.2.2⟩)
  obtain ⟨rfl, N1q, eh1⟩ := hQ1
  have N1 := Fr.app N0 N1q
  obtain ⟨_, T2, Lc2, X2, hQ2, st2⟩ := own_cV X1 Hb hZ hown hml (L := #[.val (.ref a), .val (.int fr), .val (.int (-1)), .val (.int jj), x4]) rfl (rm17_U hw a jj tt kb (Int32.ofNat (2 * cs.length)) (own_wb cs) xx (Int32.ofNat cs.length) O SU E_a F_v_a F_c_a V_tt AT.1 AT.2.1 AT.2.2.1 AT.2.2.2.1 AT.2.2.2.2.1 AT.2.2.2.2.2.1 AT.2.2.2.2.2.2.1 AT.2.2.2.2.2.2.2) (W 75 rfl) (W 76 rfl) (W 78 rfl) (W 77 rfl) (W 8 rfl) (W 79 rfl) pd11 eh1 E_a (D14 12) [.int jj] [] 0 (hf := ⟨Nat.le_trans (by decide) hR.1, Nat.le_trans (by decide) hR.2.1, hR.2.2.1, hR.2.2.2⟩)
  obtain ⟨rfl, N2q, eh2⟩ := hQ2
  have N2 := Fr.app N1 N2q
  obtain ⟨_, T3, Lc3, X3, hQ3, st3⟩ := own_cS X2 Hb hZ hown hml (L := #[.val (.ref a), .val (.int fr), .val (.int (-1)), .val (.int jj), .val (.int xx)]) rfl (rm22 hw xx O ) (W 97 rfl) (W 98 rfl) (W 99 rfl) (W 100 rfl) pd1 eh2 (D14 15) [.int xx] [] 0 (hf := ⟨Nat.le_trans (by decide) hR.1, Nat.le_trans (by decide) hR.2.1, hR.2.2.1, hR.2.2.2⟩)
  obtain ⟨rfl, N3q, eh3⟩ := hQ3
  have N3 := Fr.app N2 N3q
  have w4 : own_Go p e below f0 T3 m 28 #[.val (.ref a), .val (.int fr), .val (.int (-1)), .val (.int jj), .val (.int xx)] [.int (own_is xx)] := fun t k => by
    refine pre0 t ?_
    refine zil X0 Hb (D14 4) rfl <| zin X0 Hb (D14 5) ((if0 _ _).trans (tlt ((by decide) : (-1 : Int32) < (0 : Int32))).2.1) <| zil X0 Hb (D14 6) rfl <| zal X0 Hb (D14 7) rfl rfl <| st1 _ <| zcn X1 Hb (D14 9) (tlt (AT.2.2.2.2.2.2.2 : jj < (Int32.ofNat cs.length))).2.1 <| zal X1 Hb (D14 10) rfl rfl <| zil X1 Hb (D14 11) rfl ?_
    refine st2 _ <| ziS X2 Hb (L' := #[.val (.ref a), .val (.int fr), .val (.int (-1)), .val (.int jj), .val (.int xx)]) (D14 13) (by rcases ok_x4 with h | ⟨v, h⟩ <;> rw [h] <;> rfl) <| ziL X2 Hb (D14 14) rfl <| st3 _ ?_
    exact k
  by_cases hc28_5 : (own_is xx) = (0 : Int32)
  · have w6 : own_Go p e below f0 T3 m 4 #[.val (.ref a), .val (.int fr), .val (.int (-1)), .val (.int (jj + (1 : Int32))), .val (.int xx)] [] := fun t k => by
      refine w4 t ?_
      refine zin X3 Hb (D14 16) ((if0 _ _).trans (teq hc28_5).2) <| zii X3 Hb (D14 17) rfl (jj + (1 : Int32)) rfl rfl <| zgo X3 Hb (D14 18) 76 (by decide) rfl <| zgo X3 Hb (D14 39) 4 (by decide) rfl ?_
      exact k
    exact ⟨T3, _, (-1 : Int32), (jj + (1 : Int32)), X3, N3, eh3, (Or.inl ⟨hc28_5, rfl, rfl⟩), w6⟩
  · obtain ⟨_, T7, Lc7, X7, hQ7, st7⟩ := own_cS X3 Hb hZ hown hml (L := #[.val (.ref a), .val (.int fr), .val (.int (-1)), .val (.int jj), .val (.int xx)]) rfl (rm39 hw xx O ) (W 185 rfl) (W 186 rfl) (W 99 rfl) (W 187 rfl) pd1 eh3 (D14 20) [.int xx] [] 0 (hf := ⟨Nat.le_trans (by decide) hR.1, Nat.le_trans (by decide) hR.2.1, hR.2.2.1, hR.2.2.2⟩)
    obtain ⟨rfl, N7q, eh7⟩ := hQ7
    have N7 := Fr.app N3 N7q
    have w8 : own_Go p e below f0 T7 m 42 #[.val (.ref a), .val (.int fr), .val (.int (-1)), .val (.int jj), .val (.int xx)] [.int (own_hh xx)] := fun t k => by
      refine w4 t ?_
      refine ziy X3 Hb (D14 16) ((if0 _ _).trans (feq hc28_5).2) 37 (by decide) rfl <| ziL X3 Hb (D14 19) rfl <| st7 _ ?_
      exact k
    by_cases hc42_9 : (own_hh xx) = (0 : Int32)
    · have w10 : own_Go p e below f0 T7 m 4 #[.val (.ref a), .val (.int fr), .val (.int jj), .val (.int jj), .val (.int xx)] [] := fun t k => by
        refine w8 t ?_
        refine ziy X7 Hb (D14 21) ((if0 _ _).trans (teq hc42_9).1) 74 (by decide) rfl <| zil X7 Hb (D14 37) rfl <| zis X7 Hb (L' := #[.val (.ref a), .val (.int fr), .val (.int jj), .val (.int jj), .val (.int xx)]) (D14 38) rfl <| zgo X7 Hb (D14 39) 4 (by decide) rfl ?_
        exact k
      exact ⟨T7, _, jj, jj, X7, N7, eh7, (Or.inr (Or.inr ⟨hc28_5, rfl, Or.inl hc42_9⟩)), w10⟩
    · obtain ⟨_, T11, Lc11, X11, hQ11, st11⟩ := own_cV X7 Hb hZ hown hml (L := #[.val (.ref a), .val (.int fr), .val (.int (-1)), .val (.int jj), .val (.int xx)]) rfl (rm15_U hw a tt kb (Int32.ofNat (2 * cs.length)) (own_wb cs) (Int32.ofNat cs.length) O SU E_a F_v_a F_c_a V_tt AT.2.2.2.2.2.1) (W 65 rfl) (W 66 rfl) (W 68 rfl) (W 67 rfl) (W 8 rfl) (W 69 rfl) pd10 eh7 E_a (D14 26) [] [(.int (jj + (1 : Int32)))] 1 (hf := ⟨Nat.le_trans (by decide) hR.1, Nat.le_trans (by decide) hR.2.1, hR.2.2.1, hR.2.2.2⟩)
      obtain ⟨rfl, N11q, eh11⟩ := hQ11
      have N11 := Fr.app N7 N11q
      have w12 : own_Go p e below f0 T11 m 52 #[.val (.ref a), .val (.int fr), .val (.int (-1)), .val (.int jj), .val (.int xx)] [.int (Int32.ofNat cs.length), (.int (jj + (1 : Int32)))] := fun t k => by
        refine w8 t ?_
        refine zin X7 Hb (D14 21) ((if0 _ _).trans (feq hc42_9).1) <| zil X7 Hb (D14 22) rfl <| zic X7 Hb (D14 23) 1 rfl <| zia X7 Hb (D14 24) <| zal X7 Hb (D14 25) rfl rfl <| st11 _ ?_
        exact k
      by_cases hc52_13 : (jj + (1 : Int32)) < (Int32.ofNat cs.length)
      · obtain ⟨dd, rq, hrt, hrq, hjq⟩ := own_nxt hj hr hc52_13
        have AQ := own_at hjq hB3 hG hrq
        obtain ⟨_, T14, Lc14, X14, hQ14, st14⟩ := own_cV X11 Hb hZ hown hml (L := #[.val (.ref a), .val (.int fr), .val (.int (-1)), .val (.int jj), .val (.int xx)]) rfl (rm17_U hw a (jj + (1 : Int32)) tt kb (Int32.ofNat (2 * cs.length)) (own_wb cs) dd (Int32.ofNat cs.length) O SU E_a F_v_a F_c_a V_tt AQ.1 AQ.2.1 AQ.2.2.1 AQ.2.2.2.1 AQ.2.2.2.2.1 AQ.2.2.2.2.2.1 AQ.2.2.2.2.2.2.1 AQ.2.2.2.2.2.2.2) (W 75 rfl) (W 76 rfl) (W 78 rfl) (W 77 rfl) (W 8 rfl) (W 79 rfl) pd11 eh11 E_a (D14 32) [(.int (jj + (1 : Int32)))] [] 0 (hf := ⟨Nat.le_trans (by decide) hR.1, Nat.le_trans (by decide) hR.2.1, hR.2.2.1, hR.2.2.2⟩)
        obtain ⟨rfl, N14q, eh14⟩ := hQ14
        have N14 := Fr.app N11 N14q
        obtain ⟨_, T15, Lc15, X15, hQ15, st15⟩ := own_cS X14 Hb hZ hown hml (L := #[.val (.ref a), .val (.int fr), .val (.int (-1)), .val (.int jj), .val (.int xx)]) rfl (rm68 hw dd O ) (W 333 rfl) (W 334 rfl) (W 99 rfl) (W 335 rfl) pd1 eh14 (D14 33) [.int dd] [] 0 (hf := ⟨Nat.le_trans (by decide) hR.1, Nat.le_trans (by decide) hR.2.1, hR.2.2.1, hR.2.2.2⟩)
        obtain ⟨rfl, N15q, eh15⟩ := hQ15
        have N15 := Fr.app N14 N15q
        have w16 : own_Go p e below f0 T15 m 65 #[.val (.ref a), .val (.int fr), .val (.int (-1)), .val (.int jj), .val (.int xx)] [.int (own_ll dd)] := fun t k => by
          refine w12 t ?_
          refine zcn X11 Hb (D14 27) (tlt hc52_13).2.1 <| zal X11 Hb (D14 28) rfl rfl <| zil X11 Hb (D14 29) rfl <| zic X11 Hb (D14 30) 1 rfl <| zia X11 Hb (D14 31) <| st14 _ <| st15 _ ?_
          exact k
        by_cases hc65_17 : (own_ll dd) = (0 : Int32)
        · have w18 : own_Go p e below f0 T15 m 4 #[.val (.ref a), .val (.int fr), .val (.int jj), .val (.int jj), .val (.int xx)] [] := fun t k => by
            refine w16 t ?_
            refine ziy X15 Hb (D14 34) ((if0 _ _).trans (teq hc65_17).1) 74 (by decide) rfl <| zil X15 Hb (D14 37) rfl <| zis X15 Hb (L' := #[.val (.ref a), .val (.int fr), .val (.int jj), .val (.int jj), .val (.int xx)]) (D14 38) rfl <| zgo X15 Hb (D14 39) 4 (by decide) rfl ?_
            exact k
          exact ⟨T15, _, jj, jj, X15, N15, eh15, (Or.inr (Or.inr ⟨hc28_5, rfl, Or.inr fun d q u => by rw [hrt] at u; cases u; exact hc65_17⟩)), w18⟩
        · have w19 : own_Go p e below f0 T15 m 4 #[.val (.ref a), .val (.int fr), .val (.int (-1)), .val (.int (jj + (2 : Int32))), .val (.int xx)] [] := fun t k => by
            refine w16 t ?_
            refine zin X15 Hb (D14 34) ((if0 _ _).trans (feq hc65_17).1) <| zii X15 Hb (D14 35) rfl (jj + (2 : Int32)) rfl rfl <| zgo X15 Hb (D14 36) 76 (by decide) rfl <| zgo X15 Hb (D14 39) 4 (by decide) rfl ?_
            exact k
          exact ⟨T15, _, (-1 : Int32), (jj + (2 : Int32)), X15, N15, eh15, (Or.inr (Or.inl ⟨hc28_5, hc42_9, ⟨dd, rq, hrt, hc65_17⟩, rfl, rfl⟩)), w19⟩
      · have w20 : own_Go p e below f0 T11 m 4 #[.val (.ref a), .val (.int fr), .val (.int jj), .val (.int jj), .val (.int xx)] [] := fun t k => by
          refine w12 t ?_
          refine zcy X11 Hb (D14 27) (flt hc52_13).2.1 74 (by decide) rfl <| zil X11 Hb (D14 37) rfl <| zis X11 Hb (L' := #[.val (.ref a), .val (.int fr), .val (.int jj), .val (.int jj), .val (.int xx)]) (D14 38) rfl <| zgo X11 Hb (D14 39) 4 (by decide) rfl ?_
          exact k
        exact ⟨T11, _, jj, jj, X11, N11, eh11, (Or.inr (Or.inr ⟨hc28_5, rfl, Or.inr fun d q u => by rw [own_last hj hB3 hr hc52_13] at u; cases u⟩)), w20⟩
theorem lp14 {p : Program} {e : Env} {R : Room} {s : State} {m : MethodId} {args : Array Value} {below : List Frame} {meth : Method} {c : Code} {f0 : State} {cells slots : Nat} (hw : own_W a0 Z) (a : Addr) (fr : Int32) (tt : Addr) (kb : ClassId) (cs : List Int32) {zc : Int32} {fm : Value} {fn : Value} {u8 : Addr} {h0 : Heap} {n0 : Nat} (hx : p.tables.exec = Jvm.exec) (Hb : own_H p c prog_16_method_4_code) (hZ : Z.Warmed39 s.vm) (hown : s.vm.findClass own_n14.cls = some m.cls) (hml : c.maxLocals = 5) (hR : 5 ≤ R.frames ∧ 66 ≤ R.locals ∧ cells ≤ R.cells ∧ slots ≤ R.slots) (O : Old Z n0 h0) (SU : own_SU Z zc fm fn u8) (E_a : Exa Z h0 a "java/lang/String") (F_v_a : Fld Z h0 a "java/lang/String" "value" "[B" (.ref tt)) (F_c_a : Fld Z h0 a "java/lang/String" "coder" "B" (.int 1)) (V_tt : Arv Z h0 tt kb .byte (Int32.ofNat (2 * cs.length)) (own_wb cs) (.int 0)) (hB3 : cs.length ≤ 3) (hG : own_G cs) : ∀ (k : Nat) (T : State) (locs : List Loc) (ii : Nat) (jj : Int32) (x4 : Slot), cs.length - ii < k → ii ≤ cs.length → jj = Int32.ofNat ii → own_OK x4 → Stand p l e R s m args below meth c T locs cells slots → T.heap = h0 → Fr n0 locs → own_Go p e below f0 T m 4 #[.val (.ref a), .val (.int fr), .val (.int (-1)), .val (.int jj), x4] [] → ∃ (T' : State) (L' : List Loc) (i2 : Int32) (y4 : Slot), Stand p l e R s m args below meth c T' L' cells slots ∧ Fr n0 L' ∧ T'.heap = h0 ∧ (own_nx jj (cs.drop ii) < (0 : Int32) → ¬ i2 < Int32.ofNat cs.length) ∧ own_Go p e below f0 T' m 4 #[.val (.ref a), .val (.int fr), .val (.int (own_nx jj (cs.drop ii))), .val (.int i2), y4] [] := by
  intro k
  induction k with
  | zero => intro T locs ii jj x4 hk; omega
  | succ k ih =>
    intro T locs ii jj x4 hk hi hj ok X e0 N pre
    match hr : cs.drop ii with
    | [] =>
      have q := congrArg List.length hr
      simp at q
      refine ⟨T, locs, jj, x4, X, N, e0, fun _ => ?_, pre⟩
      rw [hj, show ii = cs.length by omega]
      exact Int32.lt_irrefl
    | xx :: rt =>
      obtain ⟨T1, L1, f2, i2, X1, N1, e1, hT, w1⟩ := fr14 hw a fr jj x4 tt kb cs ii xx rt X hx Hb hZ hown hml hR e0 N O SU E_a F_v_a F_c_a V_tt hj hB3 hG hr ok pre
      have D := own_dl hr
      rcases hT with ⟨his, rfl, rfl⟩ | ⟨his, hhh, ⟨dd, rq, rfl, hll⟩, rfl, rfl⟩ | ⟨his, rfl, hx3⟩
      · obtain ⟨T2, L2, i3, y4, X2, N2, e2, hE, w2⟩ := ih T1 L1 (ii + 1) _ _ (by omega) (by omega) (own_sj hj) (own_okI _) X1 e1 N1 w1
        rw [D.2] at hE w2
        rw [own_x1 his]
        exact ⟨T2, L2, i3, y4, X2, N2, e2, hE, w2⟩
      · have D2 := own_dl D.2
        obtain ⟨T2, L2, i3, y4, X2, N2, e2, hE, w2⟩ := ih T1 L1 (ii + 2) _ _ (by omega) (by omega) (by rw [hj, Int32.ofNat_add]; rfl) (own_okI _) X1 e1 N1 w1
        rw [D2.2] at hE w2
        rw [own_x2 his hhh hll]
        exact ⟨T2, L2, i3, y4, X2, N2, e2, hE, w2⟩
      · rw [own_x3 his hx3]
        refine ⟨T1, L1, i2, _, X1, N1, e1, fun q => ?_, w1⟩
        exact absurd q (own_at hj hB3 hG hr).2.2.2.2.2.2.1
theorem pn_com_example_gradual_reply_gradualreply_Utf8 : plainName "com/example/gradual_reply/gradualreply/Utf8" = true := by first | (simp [plainName, overriddenIn]; done) | decide +kernel
theorem rm14_U (hw : own_W a0 Z) (a : Addr) (jj : Int32) (tt : Addr) (kb : ClassId) (cs : List Int32) (ii : Nat) {zc : Int32} {fm : Value} {fn : Value} {u8 : Addr} {h0 : Heap} {n0 : Nat} (O0 : Old Z n0 h0) (SU : own_SU Z zc fm fn u8) (E_a : Exa Z h0 a "java/lang/String") (F_v_a : Fld Z h0 a "java/lang/String" "value" "[B" (.ref tt)) (F_c_a : Fld Z h0 a "java/lang/String" "coder" "B" (.int 1)) (V_tt : Arv Z h0 tt kb .byte (Int32.ofNat (2 * cs.length)) (own_wb cs) (.int 0)) (hj : jj = Int32.ofNat ii) (hi : ii ≤ cs.length) (hB3 : cs.length ≤ 3) (hG : own_G cs) (hm : ((Int32.ofNat (2 * cs.length)) >>> ((1 : Int32) &&& 31)) = (Int32.ofNat cs.length)) : own_M l own_n14 prog_16_method_4_code 5 (some .int) (own_rm 5 0 0 66) Z h0 #[.ref a, .int jj] (fun v h L => v = some (.int (own_nx jj (cs.drop ii))) ∧ Fr n0 L ∧ h = h0) := by
  refine own_body (L0 := #[.val (.ref a), .val (.int jj), .unset, .unset, .unset]) (plainFor_of_name pn_com_example_gradual_reply_gradualreply_Utf8) rfl rfl ?_
  intro p e s m below meth c s₁ f0 Bd hx Hb hml hZ hown X0 e0 pre0
  have W := own_q hw
  have N0 := Fr.nil n0
  have O := O0
  have w1 : own_Go p e below f0 s₁ m 4 #[.val (.ref a), .val (.int jj), .val (.int (-1)), .val (.int jj), .unset] [] := fun t k => by
    refine pre0 t ?_
    refine zic X0 Hb (D14 0) (-1) rfl <| zis X0 Hb (L' := #[.val (.ref a), .val (.int jj), .val (.int (-1)), .unset, .unset]) (D14 1) rfl <| zil X0 Hb (D14 2) rfl <| zis X0 Hb (L' := #[.val (.ref a), .val (.int jj), .val (.int (-1)), .val (.int jj), .unset]) (D14 3) rfl ?_
    exact k
  obtain ⟨T2, L2, i2, y4, X2, N2, e2, hE, w2⟩ := lp14 hw a jj tt kb cs hx Hb hZ hown hml ⟨by decide, by decide, by decide, by decide⟩ O SU E_a F_v_a F_c_a V_tt hB3 hG _ _ _ ii jj _ (Nat.lt_succ_self _) hi hj own_okU X0 e0 N0 w1
  have w3 : own_Go p e below f0 T2 m 5 #[.val (.ref a), .val (.int jj), .val (.int (own_nx jj (cs.drop ii))), .val (.int i2), y4] [(.int (own_nx jj (cs.drop ii)))] := fun t k => by
    refine w2 t ?_
    refine zil X2 Hb (D14 4) rfl ?_
    exact k
  by_cases hc5_4 : (own_nx jj (cs.drop ii)) < (0 : Int32)
  · obtain ⟨_, T5, Lc5, X5, hQ5, st5⟩ := own_cV X2 Hb hZ hown hml (L := #[.val (.ref a), .val (.int jj), .val (.int (own_nx jj (cs.drop ii))), .val (.int i2), y4]) rfl (rm15_U hw a tt kb (Int32.ofNat (2 * cs.length)) (own_wb cs) (Int32.ofNat cs.length) O SU E_a F_v_a F_c_a V_tt hm) (W 65 rfl) (W 66 rfl) (W 68 rfl) (W 67 rfl) (W 8 rfl) (W 69 rfl) pd10 e2 E_a (D14 8) [] [.int i2] 1
    obtain ⟨rfl, N5q, eh5⟩ := hQ5
    have N5 := Fr.app N2 N5q
    have w6 : own_Go p e below f0 T5 m 80 #[.val (.ref a), .val (.int jj), .val (.int (own_nx jj (cs.drop ii))), .val (.int i2), y4] [(.int (own_nx jj (cs.drop ii)))] := fun t k => by
      refine w3 t ?_
      refine zin X2 Hb (D14 5) ((if0 _ _).trans (tlt hc5_4).2.1) <| zil X2 Hb (D14 6) rfl <| zal X2 Hb (D14 7) rfl rfl <| st5 _ <| zcy X5 Hb (D14 9) (flt ((hE hc5_4) : ¬ (i2 < (Int32.ofNat cs.length)))).2.1 79 (by decide) rfl <| zil X5 Hb (D14 40) rfl ?_
      exact k
    exact own_oI X5 Hb Bd.notSynchronized Bd.returns w6 (D14 41) eh5 (by decide) (by decide) ⟨rfl, N5, rfl⟩
  · have w7 : own_Go p e below f0 T2 m 80 #[.val (.ref a), .val (.int jj), .val (.int (own_nx jj (cs.drop ii))), .val (.int i2), y4] [(.int (own_nx jj (cs.drop ii)))] := fun t k => by
      refine w3 t ?_
      refine ziy X2 Hb (D14 5) ((if0 _ _).trans (flt hc5_4).2.1) 79 (by decide) rfl <| zil X2 Hb (D14 40) rfl ?_
      exact k
    exact own_oI X2 Hb Bd.notSynchronized Bd.returns w7 (D14 41) e2 (by decide) (by decide) ⟨rfl, N2, rfl⟩
theorem rm14_L_0 (hw : own_W a0 Z) (a tt : Addr) (kb : ClassId) {zc : Int32} {fm : Value} {fn : Value} {u8 : Addr} {h0 : Heap} {n0 : Nat} (O0 : Old Z n0 h0) (SU : own_SU Z zc fm fn u8) (E_a : Exa Z h0 a "java/lang/String") (F_v_a : Fld Z h0 a "java/lang/String" "value" "[B" (.ref tt)) (F_c_a : Fld Z h0 a "java/lang/String" "coder" "B" (.int 0)) (V_tt : Arv Z h0 tt kb .byte (0 : Int32) [] (.int 0)) : own_M l own_n14 prog_16_method_4_code 5 (some .int) (own_rm 2 0 0 26) Z h0 #[.ref a, .int 0] (fun v h L => v = some (.int (-1)) ∧ Fr n0 L ∧ h = h0) := by
  refine own_body (L0 := #[.val (.ref a), .val (.int 0), .unset, .unset, .unset]) (plainFor_of_name pn_com_example_gradual_reply_gradualreply_Utf8) rfl rfl ?_
  intro p e s m below meth c s₁ f0 Bd hx Hb hml hZ hown X0 e0 pre0
  have W := own_q hw
  have N0 := Fr.nil n0
  have O := O0
  obtain ⟨_, T1, Lc1, X1, hQ1, st1⟩ := own_cV X0 Hb hZ hown hml (L := #[.val (.ref a), .val (.int 0), .val (.int (-1)), .val (.int 0), .unset]) rfl (rm15_L hw a tt kb (0 : Int32) [] O SU E_a F_v_a F_c_a V_tt) (W 65 rfl) (W 66 rfl) (W 68 rfl) (W 67 rfl) (W 8 rfl) (W 69 rfl) pd10 e0 E_a (D14 8) [] [.int 0] 1
  obtain ⟨rfl, N1q, eh1⟩ := hQ1
  have N1 := Fr.app N0 N1q
  have w2 : own_Go p e below f0 T1 m 80 #[.val (.ref a), .val (.int 0), .val (.int (-1)), .val (.int 0), .unset] [.int (-1)] := fun t k => by
    refine pre0 t ?_
    refine zic X0 Hb (D14 0) (-1) rfl <| zis X0 Hb (L' := #[.val (.ref a), .val (.int 0), .val (.int (-1)), .unset, .unset]) (D14 1) rfl <| zil X0 Hb (D14 2) rfl <| zis X0 Hb (L' := #[.val (.ref a), .val (.int 0), .val (.int (-1)), .val (.int 0), .unset]) (D14 3) rfl <| zil X0 Hb (D14 4) rfl <| zin X0 Hb (D14 5) ((if0 _ _).trans (tlt ((by decide) : (-1 : Int32) < (0 : Int32))).2.1) <| zil X0 Hb (D14 6) rfl <| zal X0 Hb (D14 7) rfl rfl ?_
    refine st1 _ <| zcy X1 Hb (D14 9) (flt ((by decide) : ¬ ((0 : Int32) < (0 : Int32)))).2.1 79 (by decide) rfl <| zil X1 Hb (D14 40) rfl ?_
    exact k
  exact own_oI X1 Hb Bd.notSynchronized Bd.returns w2 (D14 41) eh1 (by decide) (by decide) ⟨rfl, N1, rfl⟩
theorem rm14_L_1 (hw : own_W a0 Z) (a tt : Addr) (kb : ClassId) (xa : Int32) {zc : Int32} {fm : Value} {fn : Value} {u8 : Addr} {h0 : Heap} {n0 : Nat} (O0 : Old Z n0 h0) (SU : own_SU Z zc fm fn u8) (E_a : Exa Z h0 a "java/lang/String") (F_v_a : Fld Z h0 a "java/lang/String" "value" "[B" (.ref tt)) (F_c_a : Fld Z h0 a "java/lang/String" "coder" "B" (.int 0)) (V_tt : Arv Z h0 tt kb .byte (1 : Int32) [.int (StrChars.lo8 xa)] (.int 0)) (lxa : own_k (own_k (StrChars.lo8 xa &&& (255 : Int32))) = xa) (sxa : own_is xa = (0 : Int32)) : own_M l own_n14 prog_16_method_4_code 5 (some .int) (own_rm 4 0 0 53) Z h0 #[.ref a, .int 0] (fun v h L => v = some (.int (-1)) ∧ Fr n0 L ∧ h = h0) := by
  refine own_body (L0 := #[.val (.ref a), .val (.int 0), .unset, .unset, .unset]) (plainFor_of_name pn_com_example_gradual_reply_gradualreply_Utf8) rfl rfl ?_
  intro p e s m below meth c s₁ f0 Bd hx Hb hml hZ hown X0 e0 pre0
  have W := own_q hw
  have N0 := Fr.nil n0
  have O := O0
  obtain ⟨_, T1, Lc1, X1, hQ1, st1⟩ := own_cV X0 Hb hZ hown hml (L := #[.val (.ref a), .val (.int 0), .val (.int (-1)), .val (.int 0), .unset]) rfl (rm15_L hw a tt kb (1 : Int32) [.int (StrChars.lo8 xa)] O SU E_a F_v_a F_c_a V_tt) (W 65 rfl) (W 66 rfl) (W 68 rfl) (W 67 rfl) (W 8 rfl) (W 69 rfl) pd10 e0 E_a (D14 8) [] [.int 0] 1
  obtain ⟨rfl, N1q, eh1⟩ := hQ1
  have N1 := Fr.app N0 N1q
  obtain ⟨_, T2, Lc2, X2, hQ2, st2⟩ := own_cV X1 Hb hZ hown hml (L := #[.val (.ref a), .val (.int 0), .val (.int (-1)), .val (.int 0), .unset]) rfl (rm17_L hw a (0 : Int32) tt kb (1 : Int32) [.int (StrChars.lo8 xa)] xa O SU E_a F_v_a F_c_a V_tt rfl (by decide) lxa) (W 75 rfl) (W 76 rfl) (W 78 rfl) (W 77 rfl) (W 8 rfl) (W 79 rfl) pd11 eh1 E_a (D14 12) [.int 0] [] 0
  obtain ⟨rfl, N2q, eh2⟩ := hQ2
  have N2 := Fr.app N1 N2q
  obtain ⟨_, T3, Lc3, X3, hQ3, st3⟩ := own_cS X2 Hb hZ hown hml (L := #[.val (.ref a), .val (.int 0), .val (.int (-1)), .val (.int 0), .val (.int xa)]) rfl (rm22 hw xa O ) (W 97 rfl) (W 98 rfl) (W 99 rfl) (W 100 rfl) pd1 eh2 (D14 15) [.int xa] [] 0
  obtain ⟨rfl, N3q, eh3⟩ := hQ3
  have N3 := Fr.app N2 N3q
  obtain ⟨_, T4, Lc4, X4, hQ4, st4⟩ := own_cV X3 Hb hZ hown hml (L := #[.val (.ref a), .val (.int 0), .val (.int (-1)), .val (.int 1), .val (.int xa)]) rfl (rm15_L hw a tt kb (1 : Int32) [.int (StrChars.lo8 xa)] O SU E_a F_v_a F_c_a V_tt) (W 65 rfl) (W 66 rfl) (W 68 rfl) (W 67 rfl) (W 8 rfl) (W 69 rfl) pd10 eh3 E_a (D14 8) [] [.int 1] 1
  obtain ⟨rfl, N4q, eh4⟩ := hQ4
  have N4 := Fr.app N3 N4q
  have w5 : own_Go p e below f0 T4 m 80 #[.val (.ref a), .val (.int 0), .val (.int (-1)), .val (.int 1), .val (.int xa)] [.int (-1)] := fun t k => by
    refine pre0 t ?_
    refine zic X0 Hb (D14 0) (-1) rfl <| zis X0 Hb (L' := #[.val (.ref a), .val (.int 0), .val (.int (-1)), .unset, .unset]) (D14 1) rfl <| zil X0 Hb (D14 2) rfl <| zis X0 Hb (L' := #[.val (.ref a), .val (.int 0), .val (.int (-1)), .val (.int 0), .unset]) (D14 3) rfl <| zil X0 Hb (D14 4) rfl <| zin X0 Hb (D14 5) ((if0 _ _).trans (tlt ((by decide) : (-1 : Int32) < (0 : Int32))).2.1) <| zil X0 Hb (D14 6) rfl <| zal X0 Hb (D14 7) rfl rfl ?_
    refine st1 _ <| zcn X1 Hb (D14 9) (tlt ((by decide) : (0 : Int32) < (1 : Int32))).2.1 <| zal X1 Hb (D14 10) rfl rfl <| zil X1 Hb (D14 11) rfl <| st2 _ <| ziS X2 Hb (D14 13) rfl <| ziL X2 Hb (D14 14) rfl <| st3 _ ?_
    refine zin X3 Hb (D14 16) ((if0 _ _).trans (teq (sxa : (own_is xa) = (0 : Int32))).2) <| zii X3 Hb (D14 17) rfl 1 rfl rfl <| zgo X3 Hb (D14 18) 76 (by decide) rfl <| zgo X3 Hb (D14 39) 4 (by decide) rfl <| zil X3 Hb (D14 4) rfl <| zin X3 Hb (D14 5) ((if0 _ _).trans (tlt ((by decide) : (-1 : Int32) < (0 : Int32))).2.1) <| zil X3 Hb (D14 6) rfl <| zal X3 Hb (D14 7) rfl rfl ?_
    refine st4 _ <| zcy X4 Hb (D14 9) (flt ((by decide) : ¬ ((1 : Int32) < (1 : Int32)))).2.1 79 (by decide) rfl <| zil X4 Hb (D14 40) rfl ?_
    exact k
  exact own_oI X4 Hb Bd.notSynchronized Bd.returns w5 (D14 41) eh4 (by decide) (by decide) ⟨rfl, N4, rfl⟩
theorem rm14_L_2 (hw : own_W a0 Z) (a tt : Addr) (kb : ClassId) (xa xb : Int32) {zc : Int32} {fm : Value} {fn : Value} {u8 : Addr} {h0 : Heap} {n0 : Nat} (O0 : Old Z n0 h0) (SU : own_SU Z zc fm fn u8) (E_a : Exa Z h0 a "java/lang/String") (F_v_a : Fld Z h0 a "java/lang/String" "value" "[B" (.ref tt)) (F_c_a : Fld Z h0 a "java/lang/String" "coder" "B" (.int 0)) (V_tt : Arv Z h0 tt kb .byte (2 : Int32) [.int (StrChars.lo8 xa), .int (StrChars.lo8 xb)] (.int 0)) (lxa : own_k (own_k (StrChars.lo8 xa &&& (255 : Int32))) = xa) (lxb : own_k (own_k (StrChars.lo8 xb &&& (255 : Int32))) = xb) (sxa : own_is xa = (0 : Int32)) (sxb : own_is xb = (0 : Int32)) : own_M l own_n14 prog_16_method_4_code 5 (some .int) (own_rm 4 0 0 53) Z h0 #[.ref a, .int 0] (fun v h L => v = some (.int (-1)) ∧ Fr n0 L ∧ h = h0) := by
  refine own_body (L0 := #[.val (.ref a), .val (.int 0), .unset, .unset, .unset]) (plainFor_of_name pn_com_example_gradual_reply_gradualreply_Utf8) rfl rfl ?_
  intro p e s m below meth c s₁ f0 Bd hx Hb hml hZ hown X0 e0 pre0
  have W := own_q hw
  have N0 := Fr.nil n0
  have O := O0
  obtain ⟨_, T1, Lc1, X1, hQ1, st1⟩ := own_cV X0 Hb hZ hown hml (L := #[.val (.ref a), .val (.int 0), .val (.int (-1)), .val (.int 0), .unset]) rfl (rm15_L hw a tt kb (2 : Int32) [.int (StrChars.lo8 xa), .int (StrChars.lo8 xb)] O SU E_a F_v_a F_c_a V_tt) (W 65 rfl) (W 66 rfl) (W 68 rfl) (W 67 rfl) (W 8 rfl) (W 69 rfl) pd10 e0 E_a (D14 8) [] [.int 0] 1
  obtain ⟨rfl, N1q, eh1⟩ := hQ1
  have N1 := Fr.app N0 N1q
  obtain ⟨_, T2, Lc2, X2, hQ2, st2⟩ := own_cV X1 Hb hZ hown hml (L := #[.val (.ref a), .val (.int 0), .val (.int (-1)), .val (.int 0), .unset]) rfl (rm17_L hw a (0 : Int32) tt kb (2 : Int32) [.int (StrChars.lo8 xa), .int (StrChars.lo8 xb)] xa O SU E_a F_v_a F_c_a V_tt rfl (by decide) lxa) (W 75 rfl) (W 76 rfl) (W 78 rfl) (W 77 rfl) (W 8 rfl) (W 79 rfl) pd11 eh1 E_a (D14 12) [.int 0] [] 0
  obtain ⟨rfl, N2q, eh2⟩ := hQ2
  have N2 := Fr.app N1 N2q
  obtain ⟨_, T3, Lc3, X3, hQ3, st3⟩ := own_cS X2 Hb hZ hown hml (L := #[.val (.ref a), .val (.int 0), .val (.int (-1)), .val (.int 0), .val (.int xa)]) rfl (rm22 hw xa O ) (W 97 rfl) (W 98 rfl) (W 99 rfl) (W 100 rfl) pd1 eh2 (D14 15) [.int xa] [] 0
  obtain ⟨rfl, N3q, eh3⟩ := hQ3
  have N3 := Fr.app N2 N3q
  obtain ⟨_, T4, Lc4, X4, hQ4, st4⟩ := own_cV X3 Hb hZ hown hml (L := #[.val (.ref a), .val (.int 0), .val (.int (-1)), .val (.int 1), .val (.int xa)]) rfl (rm15_L hw a tt kb (2 : Int32) [.int (StrChars.lo8 xa), .int (StrChars.lo8 xb)] O SU E_a F_v_a F_c_a V_tt) (W 65 rfl) (W 66 rfl) (W 68 rfl) (W 67 rfl) (W 8 rfl) (W 69 rfl) pd10 eh3 E_a (D14 8) [] [.int 1] 1
  obtain ⟨rfl, N4q, eh4⟩ := hQ4
  have N4 := Fr.app N3 N4q
  obtain ⟨_, T5, Lc5, X5, hQ5, st5⟩ := own_cV X4 Hb hZ hown hml (L := #[.val (.ref a), .val (.int 0), .val (.int (-1)), .val (.int 1), .val (.int xa)]) rfl (rm17_L hw a (1 : Int32) tt kb (2 : Int32) [.int (StrChars.lo8 xa), .int (StrChars.lo8 xb)] xb O SU E_a F_v_a F_c_a V_tt rfl (by decide) lxb) (W 75 rfl) (W 76 rfl) (W 78 rfl) (W 77 rfl) (W 8 rfl) (W 79 rfl) pd11 eh4 E_a (D14 12) [.int 1] [] 0
  obtain ⟨rfl, N5q, eh5⟩ := hQ5
  have N5 := Fr.app N4 N5q
  obtain ⟨_, T6, Lc6, X6, hQ6, st6⟩ := own_cS X5 Hb hZ hown hml (L := #[.val (.ref a), .val (.int 0), .val (.int (-1)), .val (.int 1), .val (.int xb)]) rfl (rm22 hw xb O ) (W 97 rfl) (W 98 rfl) (W 99 rfl) (W 100 rfl) pd1 eh5 (D14 15) [.int xb] [] 0
  obtain ⟨rfl, N6q, eh6⟩ := hQ6
  have N6 := Fr.app N5 N6q
  obtain ⟨_, T7, Lc7, X7, hQ7, st7⟩ := own_cV X6 Hb hZ hown hml (L := #[.val (.ref a), .val (.int 0), .val (.int (-1)), .val (.int 2), .val (.int xb)]) rfl (rm15_L hw a tt kb (2 : Int32) [.int (StrChars.lo8 xa), .int (StrChars.lo8 xb)] O SU E_a F_v_a F_c_a V_tt) (W 65 rfl) (W 66 rfl) (W 68 rfl) (W 67 rfl) (W 8 rfl) (W 69 rfl) pd10 eh6 E_a (D14 8) [] [.int 2] 1
  obtain ⟨rfl, N7q, eh7⟩ := hQ7
  have N7 := Fr.app N6 N7q
  have w8 : own_Go p e below f0 T7 m 80 #[.val (.ref a), .val (.int 0), .val (.int (-1)), .val (.int 2), .val (.int xb)] [.int (-1)] := fun t k => by
    refine pre0 t ?_
    refine zic X0 Hb (D14 0) (-1) rfl <| zis X0 Hb (L' := #[.val (.ref a), .val (.int 0), .val (.int (-1)), .unset, .unset]) (D14 1) rfl <| zil X0 Hb (D14 2) rfl <| zis X0 Hb (L' := #[.val (.ref a), .val (.int 0), .val (.int (-1)), .val (.int 0), .unset]) (D14 3) rfl <| zil X0 Hb (D14 4) rfl <| zin X0 Hb (D14 5) ((if0 _ _).trans (tlt ((by decide) : (-1 : Int32) < (0 : Int32))).2.1) <| zil X0 Hb (D14 6) rfl <| zal X0 Hb (D14 7) rfl rfl ?_
    refine st1 _ <| zcn X1 Hb (D14 9) (tlt ((by decide) : (0 : Int32) < (2 : Int32))).2.1 <| zal X1 Hb (D14 10) rfl rfl <| zil X1 Hb (D14 11) rfl <| st2 _ <| ziS X2 Hb (D14 13) rfl <| ziL X2 Hb (D14 14) rfl <| st3 _ ?_
    refine zin X3 Hb (D14 16) ((if0 _ _).trans (teq (sxa : (own_is xa) = (0 : Int32))).2) <| zii X3 Hb (D14 17) rfl 1 rfl rfl <| zgo X3 Hb (D14 18) 76 (by decide) rfl <| zgo X3 Hb (D14 39) 4 (by decide) rfl <| zil X3 Hb (D14 4) rfl <| zin X3 Hb (D14 5) ((if0 _ _).trans (tlt ((by decide) : (-1 : Int32) < (0 : Int32))).2.1) <| zil X3 Hb (D14 6) rfl <| zal X3 Hb (D14 7) rfl rfl ?_
    refine st4 _ <| zcn X4 Hb (D14 9) (tlt ((by decide) : (1 : Int32) < (2 : Int32))).2.1 <| zal X4 Hb (D14 10) rfl rfl <| zil X4 Hb (D14 11) rfl <| st5 _ <| ziS X5 Hb (D14 13) rfl <| ziL X5 Hb (D14 14) rfl <| st6 _ ?_
    refine zin X6 Hb (D14 16) ((if0 _ _).trans (teq (sxb : (own_is xb) = (0 : Int32))).2) <| zii X6 Hb (D14 17) rfl 2 rfl rfl <| zgo X6 Hb (D14 18) 76 (by decide) rfl <| zgo X6 Hb (D14 39) 4 (by decide) rfl <| zil X6 Hb (D14 4) rfl <| zin X6 Hb (D14 5) ((if0 _ _).trans (tlt ((by decide) : (-1 : Int32) < (0 : Int32))).2.1) <| zil X6 Hb (D14 6) rfl <| zal X6 Hb (D14 7) rfl rfl ?_
    refine st7 _ <| zcy X7 Hb (D14 9) (flt ((by decide) : ¬ ((2 : Int32) < (2 : Int32)))).2.1 79 (by decide) rfl <| zil X7 Hb (D14 40) rfl ?_
    exact k
  exact own_oI X7 Hb Bd.notSynchronized Bd.returns w8 (D14 41) eh7 (by decide) (by decide) ⟨rfl, N7, rfl⟩
theorem rm14_L_3 (hw : own_W a0 Z) (a tt : Addr) (kb : ClassId) (xa xb xc : Int32) {zc : Int32} {fm : Value} {fn : Value} {u8 : Addr} {h0 : Heap} {n0 : Nat} (O0 : Old Z n0 h0) (SU : own_SU Z zc fm fn u8) (E_a : Exa Z h0 a "java/lang/String") (F_v_a : Fld Z h0 a "java/lang/String" "value" "[B" (.ref tt)) (F_c_a : Fld Z h0 a "java/lang/String" "coder" "B" (.int 0)) (V_tt : Arv Z h0 tt kb .byte (3 : Int32) [.int (StrChars.lo8 xa), .int (StrChars.lo8 xb), .int (StrChars.lo8 xc)] (.int 0)) (lxa : own_k (own_k (StrChars.lo8 xa &&& (255 : Int32))) = xa) (lxb : own_k (own_k (StrChars.lo8 xb &&& (255 : Int32))) = xb) (lxc : own_k (own_k (StrChars.lo8 xc &&& (255 : Int32))) = xc) (sxa : own_is xa = (0 : Int32)) (sxb : own_is xb = (0 : Int32)) (sxc : own_is xc = (0 : Int32)) : own_M l own_n14 prog_16_method_4_code 5 (some .int) (own_rm 4 0 0 53) Z h0 #[.ref a, .int 0] (fun v h L => v = some (.int (-1)) ∧ Fr n0 L ∧ h = h0) := by
  refine own_body (L0 := #[.val (.ref a), .val (.int 0), .unset, .unset, .unset]) (plainFor_of_name pn_com_example_gradual_reply_gradualreply_Utf8) rfl rfl ?_
  intro p e s m below meth c s₁ f0 Bd hx Hb hml hZ hown X0 e0 pre0
  have W := own_q hw
  have N0 := Fr.nil n0
  have O := O0
  obtain ⟨_, T1, Lc1, X1, hQ1, st1⟩ := own_cV X0 Hb hZ hown hml (L := #[.val (.ref a), .val (.int 0), .val (.int (-1)), .val (.int 0), .unset]) rfl (rm15_L hw a tt kb (3 : Int32) [.int (StrChars.lo8 xa), .int (StrChars.lo8 xb), .int (StrChars.lo8 xc)] O SU E_a F_v_a F_c_a V_tt) (W 65 rfl) (W 66 rfl) (W 68 rfl) (W 67 rfl) (W 8 rfl) (W 69 rfl) pd10 e0 E_a (D14 8) [] [.int 0] 1
  obtain ⟨rfl, N1q, eh1⟩ := hQ1
  have N1 := Fr.app N0 N1q
  obtain ⟨_, T2, Lc2, X2, hQ2, st2⟩ := own_cV X1 Hb hZ hown hml (L := #[.val (.ref a), .val (.int 0), .val (.int (-1)), .val (.int 0), .unset]) rfl (rm17_L hw a (0 : Int32) tt kb (3 : Int32) [.int (StrChars.lo8 xa), .int (StrChars.lo8 xb), .int (StrChars.lo8 xc)] xa O SU E_a F_v_a F_c_a V_tt rfl (by decide) lxa) (W 75 rfl) (W 76 rfl) (W 78 rfl) (W 77 rfl) (W 8 rfl) (W 79 rfl) pd11 eh1 E_a (D14 12) [.int 0] [] 0
  obtain ⟨rfl, N2q, eh2⟩ := hQ2
  have N2 := Fr.app N1 N2q
  obtain ⟨_, T3, Lc3, X3, hQ3, st3⟩ := own_cS X2 Hb hZ hown hml (L := #[.val (.ref a), .val (.int 0), .val (.int (-1)), .val (.int 0), .val (.int xa)]) rfl (rm22 hw xa O ) (W 97 rfl) (W 98 rfl) (W 99 rfl) (W 100 rfl) pd1 eh2 (D14 15) [.int xa] [] 0
  obtain ⟨rfl, N3q, eh3⟩ := hQ3
  have N3 := Fr.app N2 N3q
  obtain ⟨_, T4, Lc4, X4, hQ4, st4⟩ := own_cV X3 Hb hZ hown hml (L := #[.val (.ref a), .val (.int 0), .val (.int (-1)), .val (.int 1), .val (.int xa)]) rfl (rm15_L hw a tt kb (3 : Int32) [.int (StrChars.lo8 xa), .int (StrChars.lo8 xb), .int (StrChars.lo8 xc)] O SU E_a F_v_a F_c_a V_tt) (W 65 rfl) (W 66 rfl) (W 68 rfl) (W 67 rfl) (W 8 rfl) (W 69 rfl) pd10 eh3 E_a (D14 8) [] [.int 1] 1
  obtain ⟨rfl, N4q, eh4⟩ := hQ4
  have N4 := Fr.app N3 N4q
  obtain ⟨_, T5, Lc5, X5, hQ5, st5⟩ := own_cV X4 Hb hZ hown hml (L := #[.val (.ref a), .val (.int 0), .val (.int (-1)), .val (.int 1), .val (.int xa)]) rfl (rm17_L hw a (1 : Int32) tt kb (3 : Int32) [.int (StrChars.lo8 xa), .int (StrChars.lo8 xb), .int (StrChars.lo8 xc)] xb O SU E_a F_v_a F_c_a V_tt rfl (by decide) lxb) (W 75 rfl) (W 76 rfl) (W 78 rfl) (W 77 rfl) (W 8 rfl) (W 79 rfl) pd11 eh4 E_a (D14 12) [.int 1] [] 0
  obtain ⟨rfl, N5q, eh5⟩ := hQ5
  have N5 := Fr.app N4 N5q
  obtain ⟨_, T6, Lc6, X6, hQ6, st6⟩ := own_cS X5 Hb hZ hown hml (L := #[.val (.ref a), .val (.int 0), .val (.int (-1)), .val (.int 1), .val (.int xb)]) rfl (rm22 hw xb O ) (W 97 rfl) (W 98 rfl) (W 99 rfl) (W 100 rfl) pd1 eh5 (D14 15) [.int xb] [] 0
  obtain ⟨rfl, N6q, eh6⟩ := hQ6
  have N6 := Fr.app N5 N6q
  obtain ⟨_, T7, Lc7, X7, hQ7, st7⟩ := own_cV X6 Hb hZ hown hml (L := #[.val (.ref a), .val (.int 0), .val (.int (-1)), .val (.int 2), .val (.int xb)]) rfl (rm15_L hw a tt kb (3 : Int32) [.int (StrChars.lo8 xa), .int (StrChars.lo8 xb), .int (StrChars.lo8 xc)] O SU E_a F_v_a F_c_a V_tt) (W 65 rfl) (W 66 rfl) (W 68 rfl) (W 67 rfl) (W 8 rfl) (W 69 rfl) pd10 eh6 E_a (D14 8) [] [.int 2] 1
  obtain ⟨rfl, N7q, eh7⟩ := hQ7
  have N7 := Fr.app N6 N7q
  obtain ⟨_, T8, Lc8, X8, hQ8, st8⟩ := own_cV X7 Hb hZ hown hml (L := #[.val (.ref a), .val (.int 0), .val (.int (-1)), .val (.int 2), .val (.int xb)]) rfl (rm17_L hw a (2 : Int32) tt kb (3 : Int32) [.int (StrChars.lo8 xa), .int (StrChars.lo8 xb), .int (StrChars.lo8 xc)] xc O SU E_a F_v_a F_c_a V_tt rfl (by decide) lxc) (W 75 rfl) (W 76 rfl) (W 78 rfl) (W 77 rfl) (W 8 rfl) (W 79 rfl) pd11 eh7 E_a (D14 12) [.int 2] [] 0
  obtain ⟨rfl, N8q, eh8⟩ := hQ8
  have N8 := Fr.app N7 N8q
  obtain ⟨_, T9, Lc9, X9, hQ9, st9⟩ := own_cS X8 Hb hZ hown hml (L := #[.val (.ref a), .val (.int 0), .val (.int (-1)), .val (.int 2), .val (.int xc)]) rfl (rm22 hw xc O ) (W 97 rfl) (W 98 rfl) (W 99 rfl) (W 100 rfl) pd1 eh8 (D14 15) [.int xc] [] 0
  obtain ⟨rfl, N9q, eh9⟩ := hQ9
  have N9 := Fr.app N8 N9q
  obtain ⟨_, T10, Lc10, X10, hQ10, st10⟩ := own_cV X9 Hb hZ hown hml (L := #[.val (.ref a), .val (.int 0), .val (.int (-1)), .val (.int 3), .val (.int xc)]) rfl (rm15_L hw a tt kb (3 : Int32) [.int (StrChars.lo8 xa), .int (StrChars.lo8 xb), .int (StrChars.lo8 xc)] O SU E_a F_v_a F_c_a V_tt) (W 65 rfl) (W 66 rfl) (W 68 rfl) (W 67 rfl) (W 8 rfl) (W 69 rfl) pd10 eh9 E_a (D14 8) [] [.int 3] 1
  obtain ⟨rfl, N10q, eh10⟩ := hQ10
  have N10 := Fr.app N9 N10q
  have w11 : own_Go p e below f0 T10 m 80 #[.val (.ref a), .val (.int 0), .val (.int (-1)), .val (.int 3), .val (.int xc)] [.int (-1)] := fun t k => by
    refine pre0 t ?_
    refine zic X0 Hb (D14 0) (-1) rfl <| zis X0 Hb (L' := #[.val (.ref a), .val (.int 0), .val (.int (-1)), .unset, .unset]) (D14 1) rfl <| zil X0 Hb (D14 2) rfl <| zis X0 Hb (L' := #[.val (.ref a), .val (.int 0), .val (.int (-1)), .val (.int 0), .unset]) (D14 3) rfl <| zil X0 Hb (D14 4) rfl <| zin X0 Hb (D14 5) ((if0 _ _).trans (tlt ((by decide) : (-1 : Int32) < (0 : Int32))).2.1) <| zil X0 Hb (D14 6) rfl <| zal X0 Hb (D14 7) rfl rfl ?_
    refine st1 _ <| zcn X1 Hb (D14 9) (tlt ((by decide) : (0 : Int32) < (3 : Int32))).2.1 <| zal X1 Hb (D14 10) rfl rfl <| zil X1 Hb (D14 11) rfl <| st2 _ <| ziS X2 Hb (D14 13) rfl <| ziL X2 Hb (D14 14) rfl <| st3 _ ?_
    refine zin X3 Hb (D14 16) ((if0 _ _).trans (teq (sxa : (own_is xa) = (0 : Int32))).2) <| zii X3 Hb (D14 17) rfl 1 rfl rfl <| zgo X3 Hb (D14 18) 76 (by decide) rfl <| zgo X3 Hb (D14 39) 4 (by decide) rfl <| zil X3 Hb (D14 4) rfl <| zin X3 Hb (D14 5) ((if0 _ _).trans (tlt ((by decide) : (-1 : Int32) < (0 : Int32))).2.1) <| zil X3 Hb (D14 6) rfl <| zal X3 Hb (D14 7) rfl rfl ?_
    refine st4 _ <| zcn X4 Hb (D14 9) (tlt ((by decide) : (1 : Int32) < (3 : Int32))).2.1 <| zal X4 Hb (D14 10) rfl rfl <| zil X4 Hb (D14 11) rfl <| st5 _ <| ziS X5 Hb (D14 13) rfl <| ziL X5 Hb (D14 14) rfl <| st6 _ ?_
    refine zin X6 Hb (D14 16) ((if0 _ _).trans (teq (sxb : (own_is xb) = (0 : Int32))).2) <| zii X6 Hb (D14 17) rfl 2 rfl rfl <| zgo X6 Hb (D14 18) 76 (by decide) rfl <| zgo X6 Hb (D14 39) 4 (by decide) rfl <| zil X6 Hb (D14 4) rfl <| zin X6 Hb (D14 5) ((if0 _ _).trans (tlt ((by decide) : (-1 : Int32) < (0 : Int32))).2.1) <| zil X6 Hb (D14 6) rfl <| zal X6 Hb (D14 7) rfl rfl ?_
    refine st7 _ <| zcn X7 Hb (D14 9) (tlt ((by decide) : (2 : Int32) < (3 : Int32))).2.1 <| zal X7 Hb (D14 10) rfl rfl <| zil X7 Hb (D14 11) rfl <| st8 _ <| ziS X8 Hb (D14 13) rfl <| ziL X8 Hb (D14 14) rfl <| st9 _ ?_
    refine zin X9 Hb (D14 16) ((if0 _ _).trans (teq (sxc : (own_is xc) = (0 : Int32))).2) <| zii X9 Hb (D14 17) rfl 3 rfl rfl <| zgo X9 Hb (D14 18) 76 (by decide) rfl <| zgo X9 Hb (D14 39) 4 (by decide) rfl <| zil X9 Hb (D14 4) rfl <| zin X9 Hb (D14 5) ((if0 _ _).trans (tlt ((by decide) : (-1 : Int32) < (0 : Int32))).2.1) <| zil X9 Hb (D14 6) rfl <| zal X9 Hb (D14 7) rfl rfl ?_
    refine st10 _ <| zcy X10 Hb (D14 9) (flt ((by decide) : ¬ ((3 : Int32) < (3 : Int32)))).2.1 79 (by decide) rfl <| zil X10 Hb (D14 40) rfl ?_
    exact k
  exact own_oI X10 Hb Bd.notSynchronized Bd.returns w11 (D14 41) eh10 (by decide) (by decide) ⟨rfl, N10, rfl⟩
theorem own_gn {bs : List Value} {rr nD : Nat} {pp : Int32} (hp : pp = Int32.ofNat bs.length) (hr : bs.length + (rr + 1) = nD) (hb : nD ≤ 12) : pp.toInt = bs.length := by
  subst hp
  exact Int32.toInt_ofNat_of_lt (by omega)
theorem own_gj {bs : List Value} {rr nD : Nat} {pp nd : Int32} (hp : pp = Int32.ofNat bs.length) (hr : bs.length + (rr + 1) = nD) (hn : nd = Int32.ofNat nD) (hb : nD ≤ 12) : ¬ pp < 0 ∧ pp < nd := by
  have e := own_gn hp hr hb
  have f : nd.toInt = nD := by rw [hn]; exact Int32.toInt_ofNat_of_lt (by omega)
  rw [Int32.lt_iff_toInt_lt, Int32.lt_iff_toInt_lt, show (0 : Int32).toInt = 0 from rfl]
  omega
theorem own_gi {bs : List Value} {rr nD : Nat} {pp : Int32} (hp : pp = Int32.ofNat bs.length) (hr : bs.length + (rr + 1) = nD) (hb : nD ≤ 12) : pp.toNatClampNeg = bs.length := by
  have e := own_gn hp hr hb
  simp only [Int32.toNatClampNeg]
  omega
theorem own_gr {bs : List Value} {rr nD : Nat} (v : Value) (hr : bs.length + (rr + 1) = nD) : (bs ++ [v]).length + rr = nD := by
  rw [List.length_append]
  show bs.length + 1 + rr = nD
  omega
def own_tc (c d : Int32) : Int32 := ((c <<< ((10 : Int32) &&& 31)) + d) + (-56613888 : Int32)
def L69 : List (Nat × Instr × Nat) := [(0, .iload_n 0, 1), (1, .bipush 10, 2), (3, .ishl, 1), (4, .iload_n 1, 1), (5, .iadd, 1), (6, .ldc 85, 2), (8, .iadd, 1), (9, .ireturn, 1)]
theorem D69 : ∀ k : Nat, own_PP jdk_89_method_19_code L69[k]? := own_dd (by decide +kernel)
theorem rm69 (hw : own_W a0 Z) (cc dd : Int32) {h0 : Heap} {n0 : Nat} (O0 : Old Z n0 h0) : own_M l own_n69 jdk_89_method_19_code 2 (some .int) (own_rm 0 0 0 0) Z h0 #[.int cc, .int dd] (fun v h L => v = some (.int (own_tc cc dd)) ∧ Fr n0 L ∧ h = h0) := by
  refine own_body (L0 := #[.val (.int cc), .val (.int dd)]) (plainFor_of_name pn_java_lang_Character) rfl rfl ?_
  intro p e s m below meth c s₁ f0 Bd hx Hb hml hZ hown X0 e0 pre0
  have hby := Hb.2
  have W := own_q hw
  have N0 := Fr.nil n0
  have O := O0
  have w1 : own_Go p e below f0 s₁ m 9 #[.val (.int cc), .val (.int dd)] [(.int (((cc <<< ((10 : Int32) &&& 31)) + dd) + (-56613888 : Int32)))] := fun t k => by
    refine pre0 t ?_
    refine zil X0 Hb (D69 0) rfl <| zbp X0 Hb (D69 1) 10 rfl <| zsl X0 Hb (D69 2) <| zil X0 Hb (D69 3) rfl <| zia X0 Hb (D69 4) <| X0.ldcInt hx hown (mvT hZ (W 342 rfl)) (g := (mkF m 6 #[.val (.int cc), .val (.int dd)] [(.int ((cc <<< ((10 : Int32) &&& 31)) + dd))])) rfl (hb hby (D69 5)) _ <| zia X0 Hb (D69 6) ?_
    exact k
  exact own_oI X0 Hb Bd.notSynchronized Bd.returns w1 (D69 7) e0 (by decide) (by decide) ⟨rfl, N0, rfl⟩
def L66 : List (Nat × Instr × Nat) := [(0, .iconst 0, 1), (1, .istore_n 2, 1), (2, .iconst 0, 1), (3, .istore_n 3, 1), (4, .aload_n 0, 1), (5, .arraylength, 1), (6, .iconst 1, 1), (7, .ishr, 1), (8, .istore 4, 2), (10, .iload 4, 2), (12, .iconst 3, 1), (13, .imul, 1), (14, .newarray .byte, 2), (16, .astore 5, 2), (18, .iload_n 3, 1), (19, .iload 4, 2), (21, .if_icmp .ge 37, 3), (24, .aload_n 0, 1), (25, .iload_n 3, 1), (26, .invokestatic 360, 3), (29, .istore 6, 2), (31, .iload 6, 2), (33, .sipush 128, 3), (36, .if_icmp .lt 6, 3), (39, .goto 19, 3), (42, .aload 5, 2), (44, .iload_n 2, 1), (45, .iinc 2 1, 3), (48, .iload 6, 2), (50, .i2b, 1), (51, .bastore, 1), (52, .iinc 3 1, 3), (55, .goto (-37), 3), (58, .iload_n 3, 1), (59, .iload 4, 2), (61, .if_icmp .ge 294, 3), (64, .aload_n 0, 1), (65, .iload_n 3, 1), (66, .iinc 3 1, 3), (69, .invokestatic 360, 3), (72, .istore 6, 2), (74, .iload 6, 2), (76, .sipush 128, 3), (79, .if_icmp .ge 16, 3), (82, .aload 5, 2), (84, .iload_n 2, 1), (85, .iinc 2 1, 3), (88, .iload 6, 2), (90, .i2b, 1), (91, .bastore, 1), (92, .goto 260, 3), (95, .iload 6, 2), (97, .sipush 2048, 3), (100, .if_icmp .ge 40, 3), (103, .aload 5, 2), (105, .iload_n 2, 1), (106, .iinc 2 1, 3), (109, .sipush 192, 3), (112, .iload 6, 2), (114, .bipush 6, 2), (116, .ishr, 1), (117, .ior, 1), (118, .i2b, 1), (119, .bastore, 1), (120, .aload 5, 2), (122, .iload_n 2, 1), (123, .iinc 2 1, 3), (126, .sipush 128, 3), (129, .iload 6, 2), (131, .bipush 63, 2), (133, .iand, 1), (134, .ior, 1), (135, .i2b, 1), (136, .bastore, 1), (137, .goto 215, 3), (140, .iload 6, 2), (142, .invokestatic 404, 3), (145, .ifCond .eq 153, 3), (148, .iconst (-1), 1), (149, .istore 7, 2), (151, .iload 6, 2), (153, .invokestatic 364, 3), (156, .ifCond .eq 32, 3), (159, .iload_n 3, 1), (160, .iload 4, 2), (162, .if_icmp .ge 26, 3), (165, .aload_n 0, 1), (166, .iload_n 3, 1), (167, .invokestatic 360, 3), (170, .dup, 1), (171, .istore 8, 2), (173, .invokestatic 370, 3), (176, .ifCond .eq 12, 3), (179, .iload 6, 2), (181, .iload 8, 2), (183, .invokestatic 477, 3), (186, .istore 7, 2), (188, .iload 7, 2), (190, .ifCond .ge 28, 3), (218, .aload 5, 2), (220, .iload_n 2, 1), (221, .iinc 2 1, 3), (224, .sipush 240, 3), (227, .iload 7, 2), (229, .bipush 18, 2), (231, .ishr, 1), (232, .ior, 1), (233, .i2b, 1), (234, .bastore, 1), (235, .aload 5, 2), (237, .iload_n 2, 1), (238, .iinc 2 1, 3), (241, .sipush 128, 3), (244, .iload 7, 2), (246, .bipush 12, 2), (248, .ishr, 1), (249, .bipush 63, 2), (251, .iand, 1), (252, .ior, 1), (253, .i2b, 1), (254, .bastore, 1), (255, .aload 5, 2), (257, .iload_n 2, 1), (258, .iinc 2 1, 3), (261, .sipush 128, 3), (264, .iload 7, 2), (266, .bipush 6, 2), (268, .ishr, 1), (269, .bipush 63, 2), (271, .iand, 1), (272, .ior, 1), (273, .i2b, 1), (274, .bastore, 1), (275, .aload 5, 2), (277, .iload_n 2, 1), (278, .iinc 2 1, 3), (281, .sipush 128, 3), (284, .iload 7, 2), (286, .bipush 63, 2), (288, .iand, 1), (289, .ior, 1), (290, .i2b, 1), (291, .bastore, 1), (292, .iinc 3 1, 3), (295, .goto 57, 3), (298, .aload 5, 2), (300, .iload_n 2, 1), (301, .iinc 2 1, 3), (304, .sipush 224, 3), (307, .iload 6, 2), (309, .bipush 12, 2), (311, .ishr, 1), (312, .ior, 1), (313, .i2b, 1), (314, .bastore, 1), (315, .aload 5, 2), (317, .iload_n 2, 1), (318, .iinc 2 1, 3), (321, .sipush 128, 3), (324, .iload 6, 2), (326, .bipush 6, 2), (328, .ishr, 1), (329, .bipush 63, 2), (331, .iand, 1), (332, .ior, 1), (333, .i2b, 1), (334, .bastore, 1), (335, .aload 5, 2), (337, .iload_n 2, 1), (338, .iinc 2 1, 3), (341, .sipush 128, 3), (344, .iload 6, 2), (346, .bipush 63, 2), (348, .iand, 1), (349, .ior, 1), (350, .i2b, 1), (351, .bastore, 1), (352, .goto (-294), 3), (355, .iload_n 2, 1), (356, .aload 5, 2), (358, .arraylength, 1), (359, .if_icmp .ne 6, 3), (362, .aload 5, 2), (364, .areturn, 1), (365, .aload 5, 2), (367, .iload_n 2, 1), (368, .invokestatic 102, 3), (371, .areturn, 1)]
theorem D66 : ∀ k : Nat, own_PP jdk_42_method_47_code L66[k]? := own_dd (by decide +kernel)
def own_F3 (x0 : Addr) (x1 : Int32) (x2 : Int32) (x3 : Int32) (x4 : Int32) (x5 : Addr) (x6 : Slot) (x7 : Slot) (x8 : Slot) : Array Slot := #[.val (.ref x0), .val (.int x1), .val (.int x2), .val (.int x3), .val (.int x4), .val (.ref x5), x6, x7, x8]
def own_F4 (x0 : Addr) (x1 : Int32) (x2 : Int32) (x3 : Int32) (x4 : Int32) (x5 : Addr) (x6 : Int32) (x7 : Slot) (x8 : Slot) : Array Slot := #[.val (.ref x0), .val (.int x1), .val (.int x2), .val (.int x3), .val (.int x4), .val (.ref x5), .val (.int x6), x7, x8]
theorem fr66s {p : Program} {e : Env} {R : Room} {s : State} {m : MethodId} {args : Array Value} {below : List Frame} {meth : Method} {c : Code} {T f0 : State} {locs : List Loc} {cells slots : Nat} (hw : own_W a0 Z) (b : Addr) (kb : ClassId) (nn : Int32) (vv : List Value) (xx : Int32) (d : Addr) (kd : ClassId) (nd pp mm jj : Int32) (bs : List Value) (rr nD : Nat) (x6 x7 x8 : Slot) {zc : Int32} {fm : Value} {fn : Value} {u8 : Addr} {h0 : Heap} {n0 : Nat} (X0 : Stand p l e R s m args below meth c T locs cells slots) (hx : p.tables.exec = Jvm.exec) (Hb : own_H p c jdk_42_method_47_code) (hZ : Z.Warmed39 s.vm) (hown : s.vm.findClass own_n66.cls = some m.cls) (hml : c.maxLocals = 9) (hR : 1 ≤ R.frames ∧ 13 ≤ R.locals ∧ cells ≤ R.cells ∧ slots ≤ R.slots) (e0 : T.heap = h0) (N0 : Fr n0 locs) (O : Old Z n0 h0) (SU : own_SU Z zc fm fn u8) (V_b : Arv Z h0 b kb .byte nn vv (.int 0)) (V_d : Arv Z h0 d kd .byte nd (bs ++ List.replicate (rr + 3) (.int 0)) (.int 0)) (nbd : b ≠ d) (hlt : jj < mm) (hp : pp = Int32.ofNat bs.length) (hr : bs.length + (rr + 3) = nD) (hn : nd = Int32.ofNat nD) (hbb : nD ≤ 12) (hlo : vv.getD (jj <<< ((1 : Int32) &&& 31)).toNatClampNeg (.int 0) = .int (own_lo xx)) (hhi : vv.getD ((jj <<< ((1 : Int32) &&& 31)) + (1 : Int32)).toNatClampNeg (.int 0) = .int (own_hi xx)) (hb1 : ¬ (jj <<< ((1 : Int32) &&& 31)) < 0 ∧ (jj <<< ((1 : Int32) &&& 31)) < nn) (hb2 : ¬ ((jj <<< ((1 : Int32) &&& 31)) + (1 : Int32)) < 0 ∧ ((jj <<< ((1 : Int32) &&& 31)) + (1 : Int32)) < nn) (hg : own_gc (own_lo xx) (own_hi xx) = xx) (hs : own_is xx = (0 : Int32)) (ok_x6 : own_OK x6) (g_d : n0 ≤ d) (pre0 : own_Go p e below f0 T m 58 (own_F3 b (1 : Int32) pp jj mm d x6 x7 x8) []) : ∃ (T' : State) (L' : List Loc) (pq : Int32) (r2 : Nat), Stand p l e R s m args below meth c T' L' cells slots ∧ Fr n0 L' ∧ Keep h0 T'.heap [d] ∧ Arv Z T'.heap d kd .byte nd ((bs ++ own_e1 xx) ++ List.replicate r2 (.int 0)) (.int 0) ∧ pq = Int32.ofNat (bs ++ own_e1 xx).length ∧ (bs ++ own_e1 xx).length + r2 = nD ∧ rr ≤ r2 ∧ own_Go p e below f0 T' m 58 (own_F4 b (1 : Int32) pq (jj + (1 : Int32)) mm d xx x7 x8) [] := by
  have hby := Hb.2
  have W := own_q hw
  have K := Keep.refl h0 [d]
  obtain ⟨_, T1, Lc1, X1, hQ1, st1⟩ := own_cS X0 Hb hZ hown hml (L := (own_F3 b (1 : Int32) pp (jj + (1 : Int32)) mm d x6 x7 x8)) rfl (rm35 hw b jj kb nn vv xx O SU V_b hlo hhi hb1 hb2 hg) (W 327 rfl) (W 169 rfl) (W 22 rfl) (W 170 rfl) pd8 e0 (D66 39) [.ref b, .int jj] [] 0 (hf := ⟨Nat.le_trans (by decide) hR.1, Nat.le_trans (by decide) hR.2.1, hR.2.2.1, hR.2.2.2⟩)
  obtain ⟨rfl, N1q, eh1⟩ := hQ1
  have N1 := Fr.app N0 N1q
  have w2 : own_Go p e below f0 T1 m 79 (own_F4 b (1 : Int32) pp (jj + (1 : Int32)) mm d xx x7 x8) [.int 128, .int xx] := fun t k => by
    refine pre0 t ?_
    refine zil X0 Hb (D66 33) rfl <| ziL X0 Hb (D66 34) rfl <| zcn X0 Hb (D66 35) (tlt (hlt : jj < mm)).2.1 <| zal X0 Hb (D66 36) rfl rfl <| zil X0 Hb (D66 37) rfl <| zii X0 Hb (L' := (own_F3 b (1 : Int32) pp (jj + (1 : Int32)) mm d x6 x7 x8)) (D66 38) rfl (jj + (1 : Int32)) rfl rfl <| st1 _ <| ziS X1 Hb (L' := (own_F4 b (1 : Int32) pp (jj + (1 : Int32)) mm d xx x7 x8)) (D66 40) (by rcases ok_x6 with h | ⟨v, h⟩ <;> rw [h] <;> rfl) ?_
    refine ziL X1 Hb (D66 41) rfl <| zsp X1 Hb (D66 42) 128 rfl ?_
    exact k
  by_cases hc79_3 : xx < (128 : Int32)
  · obtain ⟨T4, h4, X4, e4, W4, V_d, st4⟩ := own_sB X1 Hb hZ eh1 V_d (x := (xx.toInt8.toInt32)) (L := (own_F4 b (1 : Int32) (pp + (1 : Int32)) (jj + (1 : Int32)) mm d xx x7 x8)) (S := []) (own_gj hp hr hn hbb) (own_gi hp hr hbb) (own_pl _ _ _) (D66 49) (own_pv _ _ _ _)
    have V_b := V_b.other W4 nbd
    have O := O.wr W4 g_d
    have K := K.wr W4 (Or.inl (List.mem_of_getElem? (i := 0) rfl))
    have N4 := Fr.snoc X4 N1 g_d
    have w5 : own_Go p e below f0 T4 m 58 (own_F4 b (1 : Int32) (pp + (1 : Int32)) (jj + (1 : Int32)) mm d xx x7 x8) [] := fun t k => by
      refine w2 t ?_
      refine zcn X1 Hb (D66 43) (tlt hc79_3).2.1 <| zaL X1 Hb (D66 44) rfl rfl <| zil X1 Hb (D66 45) rfl <| zii X1 Hb (L' := (own_F4 b (1 : Int32) (pp + (1 : Int32)) (jj + (1 : Int32)) mm d xx x7 x8)) (D66 46) rfl (pp + (1 : Int32)) rfl rfl <| ziL X1 Hb (D66 47) rfl <| zib X1 Hb (D66 48) <| st4 _ <| zgo X4 Hb (D66 50) 352 (by decide) rfl ?_
      refine zgo X4 Hb (D66 177) 58 (by decide) rfl ?_
      exact k
    have hbs : bs ++ own_e1 xx = (bs ++ [Value.int ((xx.toInt8.toInt32).toInt8.toInt32)]) := (by rw [own_ea hc79_3]; rfl)
    exact ⟨T4, _, (pp + (1 : Int32)), (rr + 2), X4, N4, by rw [e4]; exact K, by rw [e4]; exact (by rw [hbs]; exact V_d), (by rw [hbs]; exact (own_ps (Value.int ((xx.toInt8.toInt32).toInt8.toInt32)) hp)), (by rw [hbs]; exact (own_gr _ hr)), (by omega), w5⟩
  · have w6 : own_Go p e below f0 T1 m 100 (own_F4 b (1 : Int32) pp (jj + (1 : Int32)) mm d xx x7 x8) [.int 2048, .int xx] := fun t k => by
      refine w2 t ?_
      refine zcy X1 Hb (D66 43) (flt hc79_3).2.1 95 (by decide) rfl <| ziL X1 Hb (D66 51) rfl <| zsp X1 Hb (D66 52) 2048 rfl ?_
      exact k
    by_cases hc100_7 : xx < (2048 : Int32)
    · obtain ⟨T8, h8, X8, e8, W8, V_d, st8⟩ := own_sB X1 Hb hZ eh1 V_d (x := (((192 : Int32) ||| (xx >>> ((6 : Int32) &&& 31))).toInt8.toInt32)) (L := (own_F4 b (1 : Int32) (pp + (1 : Int32)) (jj + (1 : Int32)) mm d xx x7 x8)) (S := []) (own_gj hp hr hn hbb) (own_gi hp hr hbb) (own_pl _ _ _) (D66 63) (own_pv _ _ _ _)
      have V_b := V_b.other W8 nbd
      have O := O.wr W8 g_d
      have K := K.wr W8 (Or.inl (List.mem_of_getElem? (i := 0) rfl))
      have N8 := Fr.snoc X8 N1 g_d
      obtain ⟨T9, h9, X9, e9, W9, V_d, st9⟩ := own_sB X8 Hb hZ e8 V_d (x := (((128 : Int32) ||| (xx &&& (63 : Int32))).toInt8.toInt32)) (L := (own_F4 b (1 : Int32) ((pp + (1 : Int32)) + (1 : Int32)) (jj + (1 : Int32)) mm d xx x7 x8)) (S := []) (own_gj (own_ps (Value.int ((((192 : Int32) ||| (xx >>> ((6 : Int32) &&& 31))).toInt8.toInt32).toInt8.toInt32)) hp) (own_gr _ hr) hn hbb) (own_gi (own_ps (Value.int ((((192 : Int32) ||| (xx >>> ((6 : Int32) &&& 31))).toInt8.toInt32).toInt8.toInt32)) hp) (own_gr _ hr) hbb) (own_pl _ _ _) (D66 73) (own_pv _ _ _ _)
      have V_b := V_b.other W9 nbd
      have O := O.wr W9 g_d
      have K := K.wr W9 (Or.inl (List.mem_of_getElem? (i := 0) rfl))
      have N9 := Fr.snoc X9 N8 g_d
      have w10 : own_Go p e below f0 T9 m 58 (own_F4 b (1 : Int32) ((pp + (1 : Int32)) + (1 : Int32)) (jj + (1 : Int32)) mm d xx x7 x8) [] := fun t k => by
        refine w6 t ?_
        refine zcn X1 Hb (D66 53) (tlt hc100_7).2.1 <| zaL X1 Hb (D66 54) rfl rfl <| zil X1 Hb (D66 55) rfl <| zii X1 Hb (L' := (own_F4 b (1 : Int32) (pp + (1 : Int32)) (jj + (1 : Int32)) mm d xx x7 x8)) (D66 56) rfl (pp + (1 : Int32)) rfl rfl <| zsp X1 Hb (D66 57) 192 rfl <| ziL X1 Hb (D66 58) rfl <| zbp X1 Hb (D66 59) 6 rfl <| zsr X1 Hb (D66 60) ?_
        refine zor X1 Hb (D66 61) <| zib X1 Hb (D66 62) <| st8 _ <| zaL X8 Hb (D66 64) rfl rfl <| zil X8 Hb (D66 65) rfl <| zii X8 Hb (L' := (own_F4 b (1 : Int32) ((pp + (1 : Int32)) + (1 : Int32)) (jj + (1 : Int32)) mm d xx x7 x8)) (D66 66) rfl ((pp + (1 : Int32)) + (1 : Int32)) rfl rfl <| zsp X8 Hb (D66 67) 128 rfl <| ziL X8 Hb (D66 68) rfl ?_
        refine zbp X8 Hb (D66 69) 63 rfl <| zan X8 Hb (D66 70) <| zor X8 Hb (D66 71) <| zib X8 Hb (D66 72) <| st9 _ <| zgo X9 Hb (D66 74) 352 (by decide) rfl <| zgo X9 Hb (D66 177) 58 (by decide) rfl ?_
        exact k
      have hbs : bs ++ own_e1 xx = ((bs ++ [Value.int ((((192 : Int32) ||| (xx >>> ((6 : Int32) &&& 31))).toInt8.toInt32).toInt8.toInt32)]) ++ [Value.int ((((128 : Int32) ||| (xx &&& (63 : Int32))).toInt8.toInt32).toInt8.toInt32)]) := (by rw [own_eb hc79_3 hc100_7, own_a2]; rfl)
      exact ⟨T9, _, ((pp + (1 : Int32)) + (1 : Int32)), (rr + 1), X9, N9, by rw [e9]; exact K, by rw [e9]; exact (by rw [hbs]; exact V_d), (by rw [hbs]; exact (own_ps (Value.int ((((128 : Int32) ||| (xx &&& (63 : Int32))).toInt8.toInt32).toInt8.toInt32)) (own_ps (Value.int ((((192 : Int32) ||| (xx >>> ((6 : Int32) &&& 31))).toInt8.toInt32).toInt8.toInt32)) hp))), (by rw [hbs]; exact (own_gr _ (own_gr _ hr))), (by omega), w10⟩
    · obtain ⟨_, T11, Lc11, X11, hQ11, st11⟩ := own_cS X1 Hb hZ hown hml (L := (own_F4 b (1 : Int32) pp (jj + (1 : Int32)) mm d xx x7 x8)) rfl (rm22 hw xx O ) (W 328 rfl) (W 98 rfl) (W 99 rfl) (W 100 rfl) pd1 eh1 (D66 76) [.int xx] [] 0 (hf := ⟨Nat.le_trans (by decide) hR.1, Nat.le_trans (by decide) hR.2.1, hR.2.2.1, hR.2.2.2⟩)
      obtain ⟨rfl, N11q, eh11⟩ := hQ11
      have N11 := Fr.app N1 N11q
      obtain ⟨T12, h12, X12, e12, W12, V_d, st12⟩ := own_sB X11 Hb hZ eh11 V_d (x := (((224 : Int32) ||| (xx >>> ((12 : Int32) &&& 31))).toInt8.toInt32)) (L := (own_F4 b (1 : Int32) (pp + (1 : Int32)) (jj + (1 : Int32)) mm d xx x7 x8)) (S := []) (own_gj hp hr hn hbb) (own_gi hp hr hbb) (own_pl _ _ _) (D66 154) (own_pv _ _ _ _)
      have V_b := V_b.other W12 nbd
      have O := O.wr W12 g_d
      have K := K.wr W12 (Or.inl (List.mem_of_getElem? (i := 0) rfl))
      have N12 := Fr.snoc X12 N11 g_d
      obtain ⟨T13, h13, X13, e13, W13, V_d, st13⟩ := own_sB X12 Hb hZ e12 V_d (x := (((128 : Int32) ||| ((xx >>> ((6 : Int32) &&& 31)) &&& (63 : Int32))).toInt8.toInt32)) (L := (own_F4 b (1 : Int32) ((pp + (1 : Int32)) + (1 : Int32)) (jj + (1 : Int32)) mm d xx x7 x8)) (S := []) (own_gj (own_ps (Value.int ((((224 : Int32) ||| (xx >>> ((12 : Int32) &&& 31))).toInt8.toInt32).toInt8.toInt32)) hp) (own_gr _ hr) hn hbb) (own_gi (own_ps (Value.int ((((224 : Int32) ||| (xx >>> ((12 : Int32) &&& 31))).toInt8.toInt32).toInt8.toInt32)) hp) (own_gr _ hr) hbb) (own_pl _ _ _) (D66 166) (own_pv _ _ _ _)
      have V_b := V_b.other W13 nbd
      have O := O.wr W13 g_d
      have K := K.wr W13 (Or.inl (List.mem_of_getElem? (i := 0) rfl))
      have N13 := Fr.snoc X13 N12 g_d
      obtain ⟨T14, h14, X14, e14, W14, V_d, st14⟩ := own_sB X13 Hb hZ e13 V_d (x := (((128 : Int32) ||| (xx &&& (63 : Int32))).toInt8.toInt32)) (L := (own_F4 b (1 : Int32) (((pp + (1 : Int32)) + (1 : Int32)) + (1 : Int32)) (jj + (1 : Int32)) mm d xx x7 x8)) (S := []) (own_gj (own_ps (Value.int ((((128 : Int32) ||| ((xx >>> ((6 : Int32) &&& 31)) &&& (63 : Int32))).toInt8.toInt32).toInt8.toInt32)) (own_ps (Value.int ((((224 : Int32) ||| (xx >>> ((12 : Int32) &&& 31))).toInt8.toInt32).toInt8.toInt32)) hp)) (own_gr _ (own_gr _ hr)) hn hbb) (own_gi (own_ps (Value.int ((((128 : Int32) ||| ((xx >>> ((6 : Int32) &&& 31)) &&& (63 : Int32))).toInt8.toInt32).toInt8.toInt32)) (own_ps (Value.int ((((224 : Int32) ||| (xx >>> ((12 : Int32) &&& 31))).toInt8.toInt32).toInt8.toInt32)) hp)) (own_gr _ (own_gr _ hr)) hbb) (own_pl _ _ _) (D66 176) (own_pv _ _ _ _)
      have V_b := V_b.other W14 nbd
      have O := O.wr W14 g_d
      have K := K.wr W14 (Or.inl (List.mem_of_getElem? (i := 0) rfl))
      have N14 := Fr.snoc X14 N13 g_d
      have w15 : own_Go p e below f0 T14 m 58 (own_F4 b (1 : Int32) (((pp + (1 : Int32)) + (1 : Int32)) + (1 : Int32)) (jj + (1 : Int32)) mm d xx x7 x8) [] := fun t k => by
        refine w6 t ?_
        refine zcy X1 Hb (D66 53) (flt hc100_7).2.1 140 (by decide) rfl <| ziL X1 Hb (D66 75) rfl <| st11 _ <| ziy X11 Hb (D66 77) ((if0 _ _).trans (teq (hs : (own_is xx) = (0 : Int32))).1) 298 (by decide) rfl <| zaL X11 Hb (D66 145) rfl rfl <| zil X11 Hb (D66 146) rfl <| zii X11 Hb (L' := (own_F4 b (1 : Int32) (pp + (1 : Int32)) (jj + (1 : Int32)) mm d xx x7 x8)) (D66 147) rfl (pp + (1 : Int32)) rfl rfl <| zsp X11 Hb (D66 148) 224 rfl ?_
        refine ziL X11 Hb (D66 149) rfl <| zbp X11 Hb (D66 150) 12 rfl <| zsr X11 Hb (D66 151) <| zor X11 Hb (D66 152) <| zib X11 Hb (D66 153) <| st12 _ <| zaL X12 Hb (D66 155) rfl rfl <| zil X12 Hb (D66 156) rfl ?_
        refine zii X12 Hb (L' := (own_F4 b (1 : Int32) ((pp + (1 : Int32)) + (1 : Int32)) (jj + (1 : Int32)) mm d xx x7 x8)) (D66 157) rfl ((pp + (1 : Int32)) + (1 : Int32)) rfl rfl <| zsp X12 Hb (D66 158) 128 rfl <| ziL X12 Hb (D66 159) rfl <| zbp X12 Hb (D66 160) 6 rfl <| zsr X12 Hb (D66 161) <| zbp X12 Hb (D66 162) 63 rfl <| zan X12 Hb (D66 163) <| zor X12 Hb (D66 164) ?_
        refine zib X12 Hb (D66 165) <| st13 _ <| zaL X13 Hb (D66 167) rfl rfl <| zil X13 Hb (D66 168) rfl <| zii X13 Hb (D66 169) rfl (((pp + (1 : Int32)) + (1 : Int32)) + (1 : Int32)) rfl rfl <| zsp X13 Hb (D66 170) 128 rfl <| ziL X13 Hb (D66 171) rfl <| zbp X13 Hb (D66 172) 63 rfl ?_
        refine zan X13 Hb (D66 173) <| zor X13 Hb (D66 174) <| zib X13 Hb (D66 175) <| st14 _ <| zgo X14 Hb (D66 177) 58 (by decide) rfl ?_
        exact k
      have hbs : bs ++ own_e1 xx = (((bs ++ [Value.int ((((224 : Int32) ||| (xx >>> ((12 : Int32) &&& 31))).toInt8.toInt32).toInt8.toInt32)]) ++ [Value.int ((((128 : Int32) ||| ((xx >>> ((6 : Int32) &&& 31)) &&& (63 : Int32))).toInt8.toInt32).toInt8.toInt32)]) ++ [Value.int ((((128 : Int32) ||| (xx &&& (63 : Int32))).toInt8.toInt32).toInt8.toInt32)]) := (by rw [own_ec hc79_3 hc100_7, own_a3]; rfl)
      exact ⟨T14, _, (((pp + (1 : Int32)) + (1 : Int32)) + (1 : Int32)), rr, X14, N14, by rw [e14]; exact K, by rw [e14]; exact (by rw [hbs]; exact V_d), (by rw [hbs]; exact (own_ps (Value.int ((((128 : Int32) ||| (xx &&& (63 : Int32))).toInt8.toInt32).toInt8.toInt32)) (own_ps (Value.int ((((128 : Int32) ||| ((xx >>> ((6 : Int32) &&& 31)) &&& (63 : Int32))).toInt8.toInt32).toInt8.toInt32)) (own_ps (Value.int ((((224 : Int32) ||| (xx >>> ((12 : Int32) &&& 31))).toInt8.toInt32).toInt8.toInt32)) hp)))), (by rw [hbs]; exact (own_gr _ (own_gr _ (own_gr _ hr)))), (by omega), w15⟩
def own_F5 (x0 : Addr) (x1 : Int32) (x2 : Int32) (x3 : Int32) (x4 : Int32) (x5 : Addr) (x6 : Slot) : Array Slot := #[.val (.ref x0), .val (.int x1), .val (.int x2), .val (.int x3), .val (.int x4), .val (.ref x5), x6, .unset, .unset]
def own_F6 (x0 : Addr) (x1 : Int32) (x2 : Int32) (x3 : Int32) (x4 : Int32) (x5 : Addr) (x6 : Int32) : Array Slot := #[.val (.ref x0), .val (.int x1), .val (.int x2), .val (.int x3), .val (.int x4), .val (.ref x5), .val (.int x6), .unset, .unset]
def own_F7 (x0 : Addr) (x1 : Int32) (x2 : Int32) (x3 : Int32) (x4 : Int32) (x5 : Addr) (x6 : Int32) (x7 : Int32) : Array Slot := #[.val (.ref x0), .val (.int x1), .val (.int x2), .val (.int x3), .val (.int x4), .val (.ref x5), .val (.int x6), .val (.int x7), .unset]
def own_F8 (x0 : Addr) (x1 : Int32) (x2 : Int32) (x3 : Int32) (x4 : Int32) (x5 : Addr) (x6 : Int32) (x7 : Int32) (x8 : Int32) : Array Slot := #[.val (.ref x0), .val (.int x1), .val (.int x2), .val (.int x3), .val (.int x4), .val (.ref x5), .val (.int x6), .val (.int x7), .val (.int x8)]
theorem pd12 : parseMethodDescriptor "(CC)I" = some ⟨[.char, .char], some .int⟩ := by decide +kernel
theorem fr66p {p : Program} {e : Env} {R : Room} {s : State} {m : MethodId} {args : Array Value} {below : List Frame} {meth : Method} {c : Code} {T f0 : State} {locs : List Loc} {cells slots : Nat} (hw : own_W a0 Z) (b : Addr) (kb : ClassId) (nn : Int32) (vv : List Value) (xx dd : Int32) (d : Addr) (kd : ClassId) (nd pp mm jj : Int32) (bs : List Value) (rr nD : Nat) (x6 : Slot) {zc : Int32} {fm : Value} {fn : Value} {u8 : Addr} {h0 : Heap} {n0 : Nat} (X0 : Stand p l e R s m args below meth c T locs cells slots) (hx : p.tables.exec = Jvm.exec) (Hb : own_H p c jdk_42_method_47_code) (hZ : Z.Warmed39 s.vm) (hown : s.vm.findClass own_n66.cls = some m.cls) (hml : c.maxLocals = 9) (hR : 1 ≤ R.frames ∧ 13 ≤ R.locals ∧ cells ≤ R.cells ∧ slots ≤ R.slots) (e0 : T.heap = h0) (N0 : Fr n0 locs) (O : Old Z n0 h0) (SU : own_SU Z zc fm fn u8) (V_b : Arv Z h0 b kb .byte nn vv (.int 0)) (V_d : Arv Z h0 d kd .byte nd (bs ++ List.replicate (rr + 4) (.int 0)) (.int 0)) (nbd : b ≠ d) (hlt : jj < mm) (hp : pp = Int32.ofNat bs.length) (hr : bs.length + (rr + 4) = nD) (hn : nd = Int32.ofNat nD) (hbb : nD ≤ 12) (hlo : vv.getD (jj <<< ((1 : Int32) &&& 31)).toNatClampNeg (.int 0) = .int (own_lo xx)) (hhi : vv.getD ((jj <<< ((1 : Int32) &&& 31)) + (1 : Int32)).toNatClampNeg (.int 0) = .int (own_hi xx)) (hb1 : ¬ (jj <<< ((1 : Int32) &&& 31)) < 0 ∧ (jj <<< ((1 : Int32) &&& 31)) < nn) (hb2 : ¬ ((jj <<< ((1 : Int32) &&& 31)) + (1 : Int32)) < 0 ∧ ((jj <<< ((1 : Int32) &&& 31)) + (1 : Int32)) < nn) (hg : own_gc (own_lo xx) (own_hi xx) = xx) (hlo2 : vv.getD ((jj + (1 : Int32)) <<< ((1 : Int32) &&& 31)).toNatClampNeg (.int 0) = .int (own_lo dd)) (hhi2 : vv.getD (((jj + (1 : Int32)) <<< ((1 : Int32) &&& 31)) + (1 : Int32)).toNatClampNeg (.int 0) = .int (own_hi dd)) (hb12 : ¬ ((jj + (1 : Int32)) <<< ((1 : Int32) &&& 31)) < 0 ∧ ((jj + (1 : Int32)) <<< ((1 : Int32) &&& 31)) < nn) (hb22 : ¬ (((jj + (1 : Int32)) <<< ((1 : Int32) &&& 31)) + (1 : Int32)) < 0 ∧ (((jj + (1 : Int32)) <<< ((1 : Int32) &&& 31)) + (1 : Int32)) < nn) (hg2 : own_gc (own_lo dd) (own_hi dd) = dd) (hl1 : (jj + (1 : Int32)) < mm) (hc1 : ¬ xx < (128 : Int32)) (hc2 : ¬ xx < (2048 : Int32)) (hs : ¬ own_is xx = (0 : Int32)) (hh : ¬ own_hh xx = (0 : Int32)) (hl : ¬ own_ll dd = (0 : Int32)) (hq : own_tc xx dd = own_q4 xx dd) (hq0 : ¬ (own_tc xx dd) < (0 : Int32)) (ok_x6 : own_OK x6) (g_d : n0 ≤ d) (pre0 : own_Go p e below f0 T m 58 (own_F5 b (1 : Int32) pp jj mm d x6) []) : ∃ (T' : State) (L' : List Loc) (pq : Int32) (r2 : Nat), Stand p l e R s m args below meth c T' L' cells slots ∧ Fr n0 L' ∧ Keep h0 T'.heap [d] ∧ Arv Z T'.heap d kd .byte nd ((bs ++ own_e4 (own_q4 xx dd)) ++ List.replicate r2 (.int 0)) (.int 0) ∧ pq = Int32.ofNat (bs ++ own_e4 (own_q4 xx dd)).length ∧ (bs ++ own_e4 (own_q4 xx dd)).length + r2 = nD ∧ rr ≤ r2 ∧ own_Go p e below f0 T' m 58 (own_F8 b (1 : Int32) pq ((jj + (1 : Int32)) + (1 : Int32)) mm d xx (own_tc xx dd) dd) [] := by
  have hby := Hb.2
  have W := own_q hw
  have K := Keep.refl h0 [d]
  obtain ⟨_, T1, Lc1, X1, hQ1, st1⟩ := own_cS X0 Hb hZ hown hml (L := (own_F5 b (1 : Int32) pp (jj + (1 : Int32)) mm d x6)) rfl (rm35 hw b jj kb nn vv xx O SU V_b hlo hhi hb1 hb2 hg) (W 327 rfl) (W 169 rfl) (W 22 rfl) (W 170 rfl) pd8 e0 (D66 39) [.ref b, .int jj] [] 0 (hf := ⟨Nat.le_trans (by decide) hR.1, Nat.le_trans (by decide) hR.2.1, hR.2.2.1, hR.2.2.2⟩)
  obtain ⟨rfl, N1q, eh1⟩ := hQ1
  have N1 := Fr.app N0 N1q
  obtain ⟨_, T2, Lc2, X2, hQ2, st2⟩ := own_cS X1 Hb hZ hown hml (L := (own_F6 b (1 : Int32) pp (jj + (1 : Int32)) mm d xx)) rfl (rm22 hw xx O ) (W 328 rfl) (W 98 rfl) (W 99 rfl) (W 100 rfl) pd1 eh1 (D66 76) [.int xx] [] 0 (hf := ⟨Nat.le_trans (by decide) hR.1, Nat.le_trans (by decide) hR.2.1, hR.2.2.1, hR.2.2.2⟩)
  obtain ⟨rfl, N2q, eh2⟩ := hQ2
  have N2 := Fr.app N1 N2q
  obtain ⟨_, T3, Lc3, X3, hQ3, st3⟩ := own_cS X2 Hb hZ hown hml (L := (own_F7 b (1 : Int32) pp (jj + (1 : Int32)) mm d xx (-1 : Int32))) rfl (rm39 hw xx O ) (W 337 rfl) (W 186 rfl) (W 99 rfl) (W 187 rfl) pd1 eh2 (D66 81) [.int xx] [] 0 (hf := ⟨Nat.le_trans (by decide) hR.1, Nat.le_trans (by decide) hR.2.1, hR.2.2.1, hR.2.2.2⟩)
  obtain ⟨rfl, N3q, eh3⟩ := hQ3
  have N3 := Fr.app N2 N3q
  obtain ⟨_, T4, Lc4, X4, hQ4, st4⟩ := own_cS X3 Hb hZ hown hml (L := (own_F7 b (1 : Int32) pp (jj + (1 : Int32)) mm d xx (-1 : Int32))) rfl (rm35 hw b (jj + (1 : Int32)) kb nn vv dd O SU V_b hlo2 hhi2 hb12 hb22 hg2) (W 327 rfl) (W 169 rfl) (W 22 rfl) (W 170 rfl) pd8 eh3 (D66 88) [.ref b, (.int (jj + (1 : Int32)))] [] 0 (hf := ⟨Nat.le_trans (by decide) hR.1, Nat.le_trans (by decide) hR.2.1, hR.2.2.1, hR.2.2.2⟩)
  obtain ⟨rfl, N4q, eh4⟩ := hQ4
  have N4 := Fr.app N3 N4q
  obtain ⟨_, T5, Lc5, X5, hQ5, st5⟩ := own_cS X4 Hb hZ hown hml (L := (own_F8 b (1 : Int32) pp (jj + (1 : Int32)) mm d xx (-1 : Int32) dd)) rfl (rm68 hw dd O ) (W 338 rfl) (W 334 rfl) (W 99 rfl) (W 335 rfl) pd1 eh4 (D66 91) [.int dd] [] 0 (hf := ⟨Nat.le_trans (by decide) hR.1, Nat.le_trans (by decide) hR.2.1, hR.2.2.1, hR.2.2.2⟩)
  obtain ⟨rfl, N5q, eh5⟩ := hQ5
  have N5 := Fr.app N4 N5q
  obtain ⟨_, T6, Lc6, X6, hQ6, st6⟩ := own_cS X5 Hb hZ hown hml (L := (own_F8 b (1 : Int32) pp (jj + (1 : Int32)) mm d xx (-1 : Int32) dd)) rfl (rm69 hw xx dd O ) (W 339 rfl) (W 340 rfl) (W 99 rfl) (W 341 rfl) pd12 eh5 (D66 95) [.int xx, .int dd] [] 0 (hf := ⟨Nat.le_trans (by decide) hR.1, Nat.le_trans (by decide) hR.2.1, hR.2.2.1, hR.2.2.2⟩)
  obtain ⟨rfl, N6q, eh6⟩ := hQ6
  have N6 := Fr.app N5 N6q
  obtain ⟨T7, h7, X7, e7, W7, V_d, st7⟩ := own_sB X6 Hb hZ eh6 V_d (x := (((240 : Int32) ||| ((own_tc xx dd) >>> ((18 : Int32) &&& 31))).toInt8.toInt32)) (L := (own_F8 b (1 : Int32) (pp + (1 : Int32)) (jj + (1 : Int32)) mm d xx (own_tc xx dd) dd)) (S := []) (own_gj hp hr hn hbb) (own_gi hp hr hbb) (own_pl _ _ _) (D66 108) (own_pv _ _ _ _)
  have V_b := V_b.other W7 nbd
  have O := O.wr W7 g_d
  have K := K.wr W7 (Or.inl (List.mem_of_getElem? (i := 0) rfl))
  have N7 := Fr.snoc X7 N6 g_d
  obtain ⟨T8, h8, X8, e8, W8, V_d, st8⟩ := own_sB X7 Hb hZ e7 V_d (x := (((128 : Int32) ||| (((own_tc xx dd) >>> ((12 : Int32) &&& 31)) &&& (63 : Int32))).toInt8.toInt32)) (L := (own_F8 b (1 : Int32) ((pp + (1 : Int32)) + (1 : Int32)) (jj + (1 : Int32)) mm d xx (own_tc xx dd) dd)) (S := []) (own_gj (own_ps (Value.int ((((240 : Int32) ||| ((own_tc xx dd) >>> ((18 : Int32) &&& 31))).toInt8.toInt32).toInt8.toInt32)) hp) (own_gr _ hr) hn hbb) (own_gi (own_ps (Value.int ((((240 : Int32) ||| ((own_tc xx dd) >>> ((18 : Int32) &&& 31))).toInt8.toInt32).toInt8.toInt32)) hp) (own_gr _ hr) hbb) (own_pl _ _ _) (D66 120) (own_pv _ _ _ _)
  have V_b := V_b.other W8 nbd
  have O := O.wr W8 g_d
  have K := K.wr W8 (Or.inl (List.mem_of_getElem? (i := 0) rfl))
  have N8 := Fr.snoc X8 N7 g_d
  obtain ⟨T9, h9, X9, e9, W9, V_d, st9⟩ := own_sB X8 Hb hZ e8 V_d (x := (((128 : Int32) ||| (((own_tc xx dd) >>> ((6 : Int32) &&& 31)) &&& (63 : Int32))).toInt8.toInt32)) (L := (own_F8 b (1 : Int32) (((pp + (1 : Int32)) + (1 : Int32)) + (1 : Int32)) (jj + (1 : Int32)) mm d xx (own_tc xx dd) dd)) (S := []) (own_gj (own_ps (Value.int ((((128 : Int32) ||| (((own_tc xx dd) >>> ((12 : Int32) &&& 31)) &&& (63 : Int32))).toInt8.toInt32).toInt8.toInt32)) (own_ps (Value.int ((((240 : Int32) ||| ((own_tc xx dd) >>> ((18 : Int32) &&& 31))).toInt8.toInt32).toInt8.toInt32)) hp)) (own_gr _ (own_gr _ hr)) hn hbb) (own_gi (own_ps (Value.int ((((128 : Int32) ||| (((own_tc xx dd) >>> ((12 : Int32) &&& 31)) &&& (63 : Int32))).toInt8.toInt32).toInt8.toInt32)) (own_ps (Value.int ((((240 : Int32) ||| ((own_tc xx dd) >>> ((18 : Int32) &&& 31))).toInt8.toInt32).toInt8.toInt32)) hp)) (own_gr _ (own_gr _ hr)) hbb) (own_pl _ _ _) (D66 132) (own_pv _ _ _ _)
  have V_b := V_b.other W9 nbd
  have O := O.wr W9 g_d
  have K := K.wr W9 (Or.inl (List.mem_of_getElem? (i := 0) rfl))
  have N9 := Fr.snoc X9 N8 g_d
  obtain ⟨T10, h10, X10, e10, W10, V_d, st10⟩ := own_sB X9 Hb hZ e9 V_d (x := (((128 : Int32) ||| ((own_tc xx dd) &&& (63 : Int32))).toInt8.toInt32)) (L := (own_F8 b (1 : Int32) ((((pp + (1 : Int32)) + (1 : Int32)) + (1 : Int32)) + (1 : Int32)) (jj + (1 : Int32)) mm d xx (own_tc xx dd) dd)) (S := []) (own_gj (own_ps (Value.int ((((128 : Int32) ||| (((own_tc xx dd) >>> ((6 : Int32) &&& 31)) &&& (63 : Int32))).toInt8.toInt32).toInt8.toInt32)) (own_ps (Value.int ((((128 : Int32) ||| (((own_tc xx dd) >>> ((12 : Int32) &&& 31)) &&& (63 : Int32))).toInt8.toInt32).toInt8.toInt32)) (own_ps (Value.int ((((240 : Int32) ||| ((own_tc xx dd) >>> ((18 : Int32) &&& 31))).toInt8.toInt32).toInt8.toInt32)) hp))) (own_gr _ (own_gr _ (own_gr _ hr))) hn hbb) (own_gi (own_ps (Value.int ((((128 : Int32) ||| (((own_tc xx dd) >>> ((6 : Int32) &&& 31)) &&& (63 : Int32))).toInt8.toInt32).toInt8.toInt32)) (own_ps (Value.int ((((128 : Int32) ||| (((own_tc xx dd) >>> ((12 : Int32) &&& 31)) &&& (63 : Int32))).toInt8.toInt32).toInt8.toInt32)) (own_ps (Value.int ((((240 : Int32) ||| ((own_tc xx dd) >>> ((18 : Int32) &&& 31))).toInt8.toInt32).toInt8.toInt32)) hp))) (own_gr _ (own_gr _ (own_gr _ hr))) hbb) (own_pl _ _ _) (D66 142) (own_pv _ _ _ _)
  have V_b := V_b.other W10 nbd
  have O := O.wr W10 g_d
  have K := K.wr W10 (Or.inl (List.mem_of_getElem? (i := 0) rfl))
  have N10 := Fr.snoc X10 N9 g_d
  have w11 : own_Go p e below f0 T10 m 58 (own_F8 b (1 : Int32) ((((pp + (1 : Int32)) + (1 : Int32)) + (1 : Int32)) + (1 : Int32)) ((jj + (1 : Int32)) + (1 : Int32)) mm d xx (own_tc xx dd) dd) [] := fun t k => by
    refine pre0 t ?_
    refine zil X0 Hb (D66 33) rfl <| ziL X0 Hb (D66 34) rfl <| zcn X0 Hb (D66 35) (tlt (hlt : jj < mm)).2.1 <| zal X0 Hb (D66 36) rfl rfl <| zil X0 Hb (D66 37) rfl <| zii X0 Hb (L' := (own_F5 b (1 : Int32) pp (jj + (1 : Int32)) mm d x6)) (D66 38) rfl (jj + (1 : Int32)) rfl rfl <| st1 _ <| ziS X1 Hb (L' := (own_F6 b (1 : Int32) pp (jj + (1 : Int32)) mm d xx)) (D66 40) (by rcases ok_x6 with h | ⟨v, h⟩ <;> rw [h] <;> rfl) ?_
    refine ziL X1 Hb (D66 41) rfl <| zsp X1 Hb (D66 42) 128 rfl <| zcy X1 Hb (D66 43) (flt (hc1 : ¬ (xx < (128 : Int32)))).2.1 95 (by decide) rfl <| ziL X1 Hb (D66 51) rfl <| zsp X1 Hb (D66 52) 2048 rfl <| zcy X1 Hb (D66 53) (flt (hc2 : ¬ (xx < (2048 : Int32)))).2.1 140 (by decide) rfl <| ziL X1 Hb (D66 75) rfl <| st2 _ ?_
    refine zin X2 Hb (D66 77) ((if0 _ _).trans (feq (hs : ¬ ((own_is xx) = (0 : Int32)))).1) <| zic X2 Hb (D66 78) (-1) rfl <| ziS X2 Hb (L' := (own_F7 b (1 : Int32) pp (jj + (1 : Int32)) mm d xx (-1 : Int32))) (D66 79) rfl <| ziL X2 Hb (D66 80) rfl <| st3 _ <| zin X3 Hb (D66 82) ((if0 _ _).trans (feq (hh : ¬ ((own_hh xx) = (0 : Int32)))).1) <| zil X3 Hb (D66 83) rfl <| ziL X3 Hb (D66 84) rfl ?_
    refine zcn X3 Hb (D66 85) (tlt (hl1 : (jj + (1 : Int32)) < mm)).2.1 <| zal X3 Hb (D66 86) rfl rfl <| zil X3 Hb (D66 87) rfl <| st4 _ <| zdu X4 Hb (D66 89) rfl <| ziS X4 Hb (L' := (own_F8 b (1 : Int32) pp (jj + (1 : Int32)) mm d xx (-1 : Int32) dd)) (D66 90) rfl <| st5 _ <| zin X5 Hb (D66 92) ((if0 _ _).trans (feq (hl : ¬ ((own_ll dd) = (0 : Int32)))).1) ?_
    refine ziL X5 Hb (D66 93) rfl <| ziL X5 Hb (D66 94) rfl <| st6 _ <| ziS X6 Hb (L' := (own_F8 b (1 : Int32) pp (jj + (1 : Int32)) mm d xx (own_tc xx dd) dd)) (D66 96) rfl <| ziL X6 Hb (D66 97) rfl <| ziy X6 Hb (D66 98) ((if0 _ _).trans (flt (hq0 : ¬ ((own_tc xx dd) < (0 : Int32)))).2.1) 218 (by decide) rfl <| zaL X6 Hb (D66 99) rfl rfl <| zil X6 Hb (D66 100) rfl ?_
    refine zii X6 Hb (L' := (own_F8 b (1 : Int32) (pp + (1 : Int32)) (jj + (1 : Int32)) mm d xx (own_tc xx dd) dd)) (D66 101) rfl (pp + (1 : Int32)) rfl rfl <| zsp X6 Hb (D66 102) 240 rfl <| ziL X6 Hb (D66 103) rfl <| zbp X6 Hb (D66 104) 18 rfl <| zsr X6 Hb (D66 105) <| zor X6 Hb (D66 106) <| zib X6 Hb (D66 107) <| st7 _ ?_
    refine zaL X7 Hb (D66 109) rfl rfl <| zil X7 Hb (D66 110) rfl <| zii X7 Hb (D66 111) rfl ((pp + (1 : Int32)) + (1 : Int32)) rfl rfl <| zsp X7 Hb (D66 112) 128 rfl <| ziL X7 Hb (D66 113) rfl <| zbp X7 Hb (D66 114) 12 rfl <| zsr X7 Hb (D66 115) <| zbp X7 Hb (D66 116) 63 rfl ?_
    refine zan X7 Hb (D66 117) <| zor X7 Hb (D66 118) <| zib X7 Hb (D66 119) <| st8 _ <| zaL X8 Hb (D66 121) rfl rfl <| zil X8 Hb (D66 122) rfl <| zii X8 Hb (D66 123) rfl (((pp + (1 : Int32)) + (1 : Int32)) + (1 : Int32)) rfl rfl <| zsp X8 Hb (D66 124) 128 rfl ?_
    refine ziL X8 Hb (D66 125) rfl <| zbp X8 Hb (D66 126) 6 rfl <| zsr X8 Hb (D66 127) <| zbp X8 Hb (D66 128) 63 rfl <| zan X8 Hb (D66 129) <| zor X8 Hb (D66 130) <| zib X8 Hb (D66 131) <| st9 _ ?_
    refine zaL X9 Hb (D66 133) rfl rfl <| zil X9 Hb (D66 134) rfl <| zii X9 Hb (D66 135) rfl ((((pp + (1 : Int32)) + (1 : Int32)) + (1 : Int32)) + (1 : Int32)) rfl rfl <| zsp X9 Hb (D66 136) 128 rfl <| ziL X9 Hb (D66 137) rfl <| zbp X9 Hb (D66 138) 63 rfl <| zan X9 Hb (D66 139) <| zor X9 Hb (D66 140) ?_
    refine zib X9 Hb (D66 141) <| st10 _ <| zii X10 Hb (D66 143) rfl ((jj + (1 : Int32)) + (1 : Int32)) rfl rfl <| zgo X10 Hb (D66 144) 352 (by decide) rfl <| zgo X10 Hb (D66 177) 58 (by decide) rfl ?_
    exact k
  have hbs : bs ++ own_e4 (own_q4 xx dd) = ((((bs ++ [Value.int ((((240 : Int32) ||| ((own_tc xx dd) >>> ((18 : Int32) &&& 31))).toInt8.toInt32).toInt8.toInt32)]) ++ [Value.int ((((128 : Int32) ||| (((own_tc xx dd) >>> ((12 : Int32) &&& 31)) &&& (63 : Int32))).toInt8.toInt32).toInt8.toInt32)]) ++ [Value.int ((((128 : Int32) ||| (((own_tc xx dd) >>> ((6 : Int32) &&& 31)) &&& (63 : Int32))).toInt8.toInt32).toInt8.toInt32)]) ++ [Value.int ((((128 : Int32) ||| ((own_tc xx dd) &&& (63 : Int32))).toInt8.toInt32).toInt8.toInt32)]) := (by rw [show own_e4 (own_q4 xx dd) = own_e4 (own_tc xx dd) by rw [hq], show own_e4 (own_tc xx dd) = [Value.int ((((240 : Int32) ||| ((own_tc xx dd) >>> ((18 : Int32) &&& 31))).toInt8.toInt32).toInt8.toInt32), Value.int ((((128 : Int32) ||| (((own_tc xx dd) >>> ((12 : Int32) &&& 31)) &&& (63 : Int32))).toInt8.toInt32).toInt8.toInt32), Value.int ((((128 : Int32) ||| (((own_tc xx dd) >>> ((6 : Int32) &&& 31)) &&& (63 : Int32))).toInt8.toInt32).toInt8.toInt32), Value.int ((((128 : Int32) ||| ((own_tc xx dd) &&& (63 : Int32))).toInt8.toInt32).toInt8.toInt32)] from rfl, own_a4])
  exact ⟨T10, _, ((((pp + (1 : Int32)) + (1 : Int32)) + (1 : Int32)) + (1 : Int32)), rr, X10, N10, by rw [e10]; exact K, by rw [e10]; exact (by rw [hbs]; exact V_d), (by rw [hbs]; exact (own_ps (Value.int ((((128 : Int32) ||| ((own_tc xx dd) &&& (63 : Int32))).toInt8.toInt32).toInt8.toInt32)) (own_ps (Value.int ((((128 : Int32) ||| (((own_tc xx dd) >>> ((6 : Int32) &&& 31)) &&& (63 : Int32))).toInt8.toInt32).toInt8.toInt32)) (own_ps (Value.int ((((128 : Int32) ||| (((own_tc xx dd) >>> ((12 : Int32) &&& 31)) &&& (63 : Int32))).toInt8.toInt32).toInt8.toInt32)) (own_ps (Value.int ((((240 : Int32) ||| ((own_tc xx dd) >>> ((18 : Int32) &&& 31))).toInt8.toInt32).toInt8.toInt32)) hp))))), (by rw [hbs]; exact (own_gr _ (own_gr _ (own_gr _ (own_gr _ hr))))), (by omega), w11⟩
theorem own_us (bs : List Value) (r : Nat) (v : Value) {pp : Int32} (hp : pp.toNatClampNeg = bs.length) : bs = (List.range pp.toNatClampNeg).map fun i => (bs ++ List.replicate r v).getD ((0 : Int32).toNatClampNeg + i) v := by
  apply List.ext_getElem
  · simp [hp]
  · intro n h1 h2
    rw [List.getElem_map, List.getElem_range, show (0 : Int32).toNatClampNeg = 0 from rfl, Nat.zero_add, List.getD_eq_getElem?_getD, List.getElem?_append_left h1, List.getElem?_eq_getElem h1]
    rfl
theorem own_pd (bs : List Value) (v : Value) (k : Nat) : ∀ i, bs.getD i v = ((List.replicate 12 v).take 0 ++ bs ++ (List.replicate 12 v).drop k).getD i v := fun i => by
  rw [List.take_zero, List.nil_append, List.drop_replicate]
  exact (pad_rep bs v (12 - k) i).symm
theorem own_lts {bs : List Value} {r nD : Nat} {pp nd : Int32} (hp : pp = Int32.ofNat bs.length) (hr : bs.length + r = nD) (hn : nd = Int32.ofNat nD) (hb : nD ≤ 12) (hne : ¬ pp = nd) : pp < nd ∧ pp.toNatClampNeg = bs.length ∧ nd.toNatClampNeg = nD ∧ ¬ pp < 0 ∧ bs.length < nD := by
  have e : pp.toInt = bs.length := by rw [hp]; exact Int32.toInt_ofNat_of_lt (by omega)
  have f : nd.toInt = nD := by rw [hn]; exact Int32.toInt_ofNat_of_lt (by omega)
  have g : bs.length ≠ nD := fun q => hne (by rw [hp, hn, q])
  refine ⟨Int32.lt_iff_toInt_lt.mpr (by omega), ?_, ?_, ?_, by omega⟩
  · simp only [Int32.toNatClampNeg]; omega
  · simp only [Int32.toNatClampNeg]; omega
  · rw [Int32.lt_iff_toInt_lt, show (0 : Int32).toInt = 0 from rfl]; omega
def L32 : List (Nat × Instr × Nat) := [(0, .iload_n 0, 1), (1, .iload_n 1, 1), (2, .if_icmp .gt 7, 3), (9, .iload_n 1, 1), (10, .ireturn, 1)]
theorem D32 : ∀ k : Nat, own_PP jdk_29_method_69_code L32[k]? := own_dd (by decide +kernel)
theorem rm32 (hw : own_W a0 Z) (jj mm : Int32) {h0 : Heap} {n0 : Nat} (O0 : Old Z n0 h0) (hlt : mm < jj) : own_M l own_n32 jdk_29_method_69_code 2 (some .int) (own_rm 0 0 0 0) Z h0 #[.int jj, .int mm] (fun v h L => v = some (.int mm) ∧ Fr n0 L ∧ h = h0) := by
  refine own_body (L0 := #[.val (.int jj), .val (.int mm)]) (Jvm.Free.JP.mathPlain rfl (by decide +kernel)) rfl rfl ?_
  intro p e s m below meth c s₁ f0 Bd hx Hb hml hZ hown X0 e0 pre0
  have N0 := Fr.nil n0
  have O := O0
  have w1 : own_Go p e below f0 s₁ m 10 #[.val (.int jj), .val (.int mm)] [.int mm] := fun t k => by
    refine pre0 t ?_
    refine zil X0 Hb (D32 0) rfl <| zil X0 Hb (D32 1) rfl <| zcy X0 Hb (D32 2) (tlt (hlt : mm < jj)).2.2.1 9 (by decide) rfl <| zil X0 Hb (D32 3) rfl ?_
    exact k
  exact own_oI X0 Hb Bd.notSynchronized Bd.returns w1 (D32 4) e0 (by decide) (by decide) ⟨rfl, N0, rfl⟩
def L31 : List (Nat × Instr × Nat) := [(0, .iload_n 1, 1), (1, .aload_n 0, 1), (2, .arraylength, 1), (3, .if_icmp .ne 11, 3), (14, .iload_n 1, 1), (15, .newarray .byte, 2), (17, .astore_n 2, 1), (18, .aload_n 0, 1), (19, .iconst 0, 1), (20, .aload_n 2, 1), (21, .iconst 0, 1), (22, .aload_n 0, 1), (23, .arraylength, 1), (24, .iload_n 1, 1), (25, .invokestatic 304, 3), (28, .invokestatic 150, 3), (31, .aload_n 2, 1), (32, .areturn, 1)]
theorem D31 : ∀ k : Nat, own_PP jdk_65_method_121_code L31[k]? := own_dd (by decide +kernel)
theorem pd13 : parseMethodDescriptor "(II)I" = some ⟨[.int, .int], some .int⟩ := by decide +kernel
theorem pn_java_util_Arrays : plainName "java/util/Arrays" = true := by first | (simp [plainName, overriddenIn]; done) | decide +kernel
theorem rm31 (hw : own_W a0 Z) (b : Addr) (pp : Int32) (kc : ClassId) (nd : Int32) (bs : List Value) (rr nD : Nat) {h0 : Heap} {n0 : Nat} (O0 : Old Z n0 h0) (V_b : Arv Z h0 b kc .byte nd (bs ++ List.replicate rr (.int 0)) (.int 0)) (hp : pp = Int32.ofNat bs.length) (hr : bs.length + rr = nD) (hn : nd = Int32.ofNat nD) (hbb : nD ≤ 12) (hne : ¬ pp = nd) : own_M l own_n31 jdk_65_method_121_code 3 (some (.array .byte)) (own_rm 1 1 12 40) Z h0 #[.ref b, .int pp] (fun v h L => ∃ z : Addr, ∃ kz : ClassId, v = some (.ref z) ∧ Fr n0 L ∧ Keep h0 h [] ∧ Arv Z h z kz .byte pp bs (.int 0) ∧ h0.size ≤ z ∧ n0 ≤ z) := by
  refine own_body (L0 := #[.val (.ref b), .val (.int pp), .unset]) (plainFor_of_name pn_java_util_Arrays) rfl rfl ?_
  intro p e s m below meth c s₁ f0 Bd hx Hb hml hZ hown X0 e0 pre0
  have hby := Hb.2
  have W := own_q hw
  have N0 := Fr.nil n0
  have O := O0
  have K := Keep.refl h0 []
  have hL := own_lts hp hr hn hbb hne
  have B1 := own_ln V_b
  obtain ⟨T2, h2, k2, X2, e2, E2, A2, st2⟩ := newP X0 hx hZ (W 24 rfl) e0 (g := (mkF m 15 #[.val (.ref b), .val (.int pp), .unset] [.int pp])) rfl (hb hby (D31 5)) rfl hL.2.2.2.1 (cap := 12) (by rw [hL.2.1]; have := hL.2.2.2.2; omega) (by decide) (by decide) (by decide)
  obtain ⟨b2, gq2⟩ : ∃ z, z = Array.size h0 := ⟨_, rfl⟩
  rw [← gq2] at A2 st2
  have ne_b_b2 : b ≠ b2 := Nat.ne_of_lt (Nat.lt_of_lt_of_le V_b.lt (Nat.le_of_eq gq2.symm))
  have g_b2 : n0 ≤ b2 := Nat.le_trans (O.1 ▸ O.2.1) (Nat.le_of_eq gq2.symm)
  have z_b2 : h0.size ≤ b2 := Nat.le_trans K.1 (Nat.le_of_eq gq2.symm)
  have V_b := V_b.ext E2
  have O := O.ext E2
  have K := K.ext E2
  have V_b2 : Arv Z h2 b2 k2 .byte pp [.int 0, .int 0, .int 0, .int 0, .int 0, .int 0, .int 0, .int 0, .int 0, .int 0, .int 0, .int 0] (.int 0) := (Arv.new A2 hL.2.2.2.1).pad (pad_rep [] (.int 0) 12)
  have B3 := own_ln V_b
  obtain ⟨_, T4, Lc4, X4, hQ4, st4⟩ := own_cS X2 Hb hZ hown hml (L := #[.val (.ref b), .val (.int pp), .val (.ref b2)]) rfl (rm32 hw nd pp O hL.1) (W 147 rfl) (W 148 rfl) (W 149 rfl) (W 150 rfl) pd13 e2 (D31 14) [.int nd, .int pp] [.int 0, .ref b2, .int 0, .ref b] 4
  obtain ⟨rfl, N4q, eh4⟩ := hQ4
  have N4 := Fr.app N0 N4q
  obtain ⟨T5, h5, L5, X5, e5, N5, K5, V5, st5⟩ := cpA X4 hx hZ hown (W 151 rfl) (W 154 rfl) (W 152 rfl) (W 153 rfl) eh4 V_b V_b2 (Or.inl ⟨rfl, rfl⟩) (sp := 0) (dp := 0) (nn := pp) (us := bs) (by decide) (by decide) hL.2.2.2.1 (by rw [hL.2.1, hL.2.2.1]; have := hL.2.2.2.2; show 0 + _ ≤ _; omega) (by show 0 + _ ≤ _; omega) (own_us _ _ _ hL.2.1) (by rw [hL.2.1]; have := hL.2.2.2.2; show 0 + bs.length ≤ 12; omega) N4 g_b2 (g := (mkF m 28 #[.val (.ref b), .val (.int pp), .val (.ref b2)] [.int pp, .int 0, .ref b2, .int 0, .ref b])) rfl (by rw [hml]; rfl) rfl (hb hby (D31 15)) (by decide) (W := 0) (by show 2 * 0 + _ ≤ _; exact Nat.le_of_eq rfl) (by decide)
  have V_b := V_b.keep K5 (ninS ne_b_b2 nin0)
  have V_b2_c5 : Arv Z h5 b2 k2 .byte pp bs (.int 0) := V5.pad (own_pd bs _ _)
  have O := O.keep K5 (allS g_b2 all0)
  have K := K.trans K5 (allS (Or.inr z_b2) all0)
  have w6 : own_Go p e below f0 T5 m 32 #[.val (.ref b), .val (.int pp), .val (.ref b2)] [.ref b2] := fun t k => by
    refine pre0 t ?_
    refine zil X0 Hb (D31 0) rfl <| zal X0 Hb (D31 1) rfl rfl <| zal_ X0 Hb hZ e0 B1 (D31 2) <| zcy X0 Hb (D31 3) (feq (hne : ¬ (pp = nd))).2 14 (by decide) rfl <| zil X0 Hb (D31 4) rfl <| st2 _ <| zas X2 Hb (L' := #[.val (.ref b), .val (.int pp), .val (.ref b2)]) (D31 6) rfl rfl <| zal X2 Hb (D31 7) rfl rfl ?_
    refine zic X2 Hb (D31 8) 0 rfl <| zal X2 Hb (D31 9) rfl rfl <| zic X2 Hb (D31 10) 0 rfl <| zal X2 Hb (D31 11) rfl rfl <| zal_ X2 Hb hZ e2 B3 (D31 12) <| zil X2 Hb (D31 13) rfl <| st4 _ <| st5 _ ?_
    refine zal X5 Hb (D31 16) rfl rfl ?_
    exact k
  exact own_oR X5 Hb Bd.notSynchronized Bd.returns rfl w6 (D31 17) e5 (by decide) (by decide) ⟨b2, k2, rfl, N5, K, V_b2_c5, z_b2, g_b2⟩
def own_PR (x y : Int32) : Prop := ¬ x < (128 : Int32) ∧ ¬ x < (2048 : Int32) ∧ ¬ own_is x = (0 : Int32) ∧ ¬ own_hh x = (0 : Int32) ∧ ¬ own_ll y = (0 : Int32) ∧ own_tc x y = own_q4 x y ∧ ¬ (own_tc x y) < (0 : Int32)
theorem own_r0 {bs : List Value} {r nD : Nat} {pp nd : Int32} (hp : pp = Int32.ofNat bs.length) (hr : bs.length + r = nD) (hn : nd = Int32.ofNat nD) (hb : nD ≤ 12) (he : pp = nd) : r = 0 := by
  have e : pp.toInt = bs.length := by rw [hp]; exact Int32.toInt_ofNat_of_lt (by omega)
  have f : nd.toInt = nD := by rw [hn]; exact Int32.toInt_ofNat_of_lt (by omega)
  rw [he] at e
  omega
def own_WF : List Int32 → Prop
  | [] => True
  | [x] => own_is x = (0 : Int32)
  | x :: y :: r => (own_is x = (0 : Int32) ∧ own_WF (y :: r)) ∨ (own_PR x y ∧ own_WF r)
def own_enw : List Int32 → List Value
  | [] => []
  | [x] => own_e1 x
  | x :: y :: r => if own_is x = (0 : Int32) then own_e1 x ++ own_enw (y :: r) else own_e4 (own_q4 x y) ++ own_enw r
theorem own_wf1 {x : Int32} {r : List Int32} (h : own_WF (x :: r)) : (own_is x = (0 : Int32) ∧ own_WF r ∧ own_enw (x :: r) = own_e1 x ++ own_enw r) ∨ ∃ y q, r = y :: q ∧ own_PR x y ∧ own_WF q ∧ own_enw (x :: r) = own_e4 (own_q4 x y) ++ own_enw q := by
  cases r with
  | nil => exact Or.inl ⟨h, trivial, by simp [own_enw]⟩
  | cons y q =>
    rcases h with ⟨h1, h2⟩ | ⟨h1, h2⟩
    · exact Or.inl ⟨h1, h2, by simp [own_enw, h1]⟩
    · exact Or.inr ⟨y, q, rfl, h1, h2, by simp [own_enw, h1.2.2.1]⟩
theorem own_m3 : ∀ n < 4, ¬ (Int32.ofNat n * (3 : Int32)) < 0 ∧ (Int32.ofNat n * (3 : Int32)).toNatClampNeg ≤ 9 ∧ (Int32.ofNat n * (3 : Int32)) = Int32.ofNat (3 * n) := by decide +kernel
theorem own_nq3 : ∀ n < 4, ¬ Int32.ofNat n < (0 : Int32) ∧ Int32.ofNat n < (1073741823 : Int32) ∧ (Int32.ofNat n <<< ((1 : Int32) &&& 31)) = Int32.ofNat (2 * n) ∧ (Int32.ofNat n).toNatClampNeg ≤ 3 ∧ ¬ Int32.ofNat (2 * n) < 0 ∧ (Int32.ofNat (2 * n)).toNatClampNeg ≤ 6 ∧ (Int32.ofNat (2 * n) >>> ((1 : Int32) &&& 31)) = Int32.ofNat n := by decide +kernel
theorem own_el3 (x : Int32) : (own_e1 x).length ≤ 3 := by
  unfold own_e1
  split
  · simp
  · split <;> simp
theorem fr66a {p : Program} {e : Env} {R : Room} {s : State} {m : MethodId} {args : Array Value} {below : List Frame} {meth : Method} {c : Code} {T f0 : State} {locs : List Loc} {cells slots : Nat} (hw : own_W a0 Z) (b : Addr) (kb : ClassId) (nn : Int32) (vv : List Value) (xx : Int32) (d : Addr) (kd : ClassId) (nd pp mm jj : Int32) (bs : List Value) (rr nD : Nat) (x6 : Slot) {zc : Int32} {fm : Value} {fn : Value} {u8 : Addr} {h0 : Heap} {n0 : Nat} (X0 : Stand p l e R s m args below meth c T locs cells slots) (hx : p.tables.exec = Jvm.exec) (Hb : own_H p c jdk_42_method_47_code) (hZ : Z.Warmed39 s.vm) (hown : s.vm.findClass own_n66.cls = some m.cls) (hml : c.maxLocals = 9) (hR : 1 ≤ R.frames ∧ 13 ≤ R.locals ∧ cells ≤ R.cells ∧ slots ≤ R.slots) (e0 : T.heap = h0) (N0 : Fr n0 locs) (O : Old Z n0 h0) (SU : own_SU Z zc fm fn u8) (V_b : Arv Z h0 b kb .byte nn vv (.int 0)) (V_d : Arv Z h0 d kd .byte nd (bs ++ List.replicate (rr + 1) (.int 0)) (.int 0)) (nbd : b ≠ d) (hlt : jj < mm) (hp : pp = Int32.ofNat bs.length) (hr : bs.length + (rr + 1) = nD) (hn : nd = Int32.ofNat nD) (hbb : nD ≤ 12) (hlo : vv.getD (jj <<< ((1 : Int32) &&& 31)).toNatClampNeg (.int 0) = .int (own_lo xx)) (hhi : vv.getD ((jj <<< ((1 : Int32) &&& 31)) + (1 : Int32)).toNatClampNeg (.int 0) = .int (own_hi xx)) (hb1 : ¬ (jj <<< ((1 : Int32) &&& 31)) < 0 ∧ (jj <<< ((1 : Int32) &&& 31)) < nn) (hb2 : ¬ ((jj <<< ((1 : Int32) &&& 31)) + (1 : Int32)) < 0 ∧ ((jj <<< ((1 : Int32) &&& 31)) + (1 : Int32)) < nn) (hg : own_gc (own_lo xx) (own_hi xx) = xx) (hx1 : xx < (128 : Int32)) (ok_x6 : own_OK x6) (g_d : n0 ≤ d) (pre0 : own_Go p e below f0 T m 18 (own_F5 b (1 : Int32) pp jj mm d x6) []) : ∃ (T' : State) (L' : List Loc), Stand p l e R s m args below meth c T' L' cells slots ∧ Fr n0 L' ∧ Keep h0 T'.heap [d] ∧ Arv Z T'.heap d kd .byte nd ((bs ++ own_e1 xx) ++ List.replicate rr (.int 0)) (.int 0) ∧ (pp + (1 : Int32)) = Int32.ofNat (bs ++ own_e1 xx).length ∧ (bs ++ own_e1 xx).length + rr = nD ∧ own_Go p e below f0 T' m 18 (own_F6 b (1 : Int32) (pp + (1 : Int32)) (jj + (1 : Int32)) mm d xx) [] := by
  have hby := Hb.2
  have W := own_q hw
  have K := Keep.refl h0 [d]
  obtain ⟨_, T1, Lc1, X1, hQ1, st1⟩ := own_cS X0 Hb hZ hown hml (L := (own_F5 b (1 : Int32) pp jj mm d x6)) rfl (rm35 hw b jj kb nn vv xx O SU V_b hlo hhi hb1 hb2 hg) (W 327 rfl) (W 169 rfl) (W 22 rfl) (W 170 rfl) pd8 e0 (D66 19) [.ref b, .int jj] [] 0 (hf := ⟨Nat.le_trans (by decide) hR.1, Nat.le_trans (by decide) hR.2.1, hR.2.2.1, hR.2.2.2⟩)
  obtain ⟨rfl, N1q, eh1⟩ := hQ1
  have N1 := Fr.app N0 N1q
  obtain ⟨T2, h2, X2, e2, W2, V_d, st2⟩ := own_sB X1 Hb hZ eh1 V_d (x := (xx.toInt8.toInt32)) (L := (own_F6 b (1 : Int32) (pp + (1 : Int32)) jj mm d xx)) (S := []) (own_gj hp hr hn hbb) (own_gi hp hr hbb) (own_pl _ _ _) (D66 30) (own_pv _ _ _ _)
  have V_b := V_b.other W2 nbd
  have O := O.wr W2 g_d
  have K := K.wr W2 (Or.inl (List.mem_of_getElem? (i := 0) rfl))
  have N2 := Fr.snoc X2 N1 g_d
  have w3 : own_Go p e below f0 T2 m 18 (own_F6 b (1 : Int32) (pp + (1 : Int32)) (jj + (1 : Int32)) mm d xx) [] := fun t k => by
    refine pre0 t ?_
    refine zil X0 Hb (D66 14) rfl <| ziL X0 Hb (D66 15) rfl <| zcn X0 Hb (D66 16) (tlt (hlt : jj < mm)).2.1 <| zal X0 Hb (D66 17) rfl rfl <| zil X0 Hb (D66 18) rfl <| st1 _ <| ziS X1 Hb (L' := (own_F6 b (1 : Int32) pp jj mm d xx)) (D66 20) (by rcases ok_x6 with h | ⟨v, h⟩ <;> rw [h] <;> rfl) <| ziL X1 Hb (D66 21) rfl ?_
    refine zsp X1 Hb (D66 22) 128 rfl <| zcy X1 Hb (D66 23) (tlt (hx1 : xx < (128 : Int32))).1 42 (by decide) rfl <| zaL X1 Hb (D66 25) rfl rfl <| zil X1 Hb (D66 26) rfl <| zii X1 Hb (L' := (own_F6 b (1 : Int32) (pp + (1 : Int32)) jj mm d xx)) (D66 27) rfl (pp + (1 : Int32)) rfl rfl <| ziL X1 Hb (D66 28) rfl <| zib X1 Hb (D66 29) <| st2 _ ?_
    refine zii X2 Hb (L' := (own_F6 b (1 : Int32) (pp + (1 : Int32)) (jj + (1 : Int32)) mm d xx)) (D66 31) rfl (jj + (1 : Int32)) rfl rfl <| zgo X2 Hb (D66 32) 18 (by decide) rfl ?_
    exact k
  have hbs : bs ++ own_e1 xx = (bs ++ [Value.int ((xx.toInt8.toInt32).toInt8.toInt32)]) := by rw [own_ea hx1]; rfl
  exact ⟨T2, _, X2, N2, by rw [e2]; exact K, by rw [e2]; exact (by rw [hbs]; exact V_d), (by rw [hbs]; exact (own_ps (Value.int ((xx.toInt8.toInt32).toInt8.toInt32)) hp)), (by rw [hbs]; exact (own_gr _ hr)), w3⟩
theorem fr66b {p : Program} {e : Env} {R : Room} {s : State} {m : MethodId} {args : Array Value} {below : List Frame} {meth : Method} {c : Code} {T f0 : State} {locs : List Loc} {cells slots : Nat} (hw : own_W a0 Z) (b : Addr) (kb : ClassId) (nn : Int32) (vv : List Value) (xx : Int32) (d : Addr) (pp mm jj : Int32) (x6 : Slot) {zc : Int32} {fm : Value} {fn : Value} {u8 : Addr} {h0 : Heap} {n0 : Nat} (X0 : Stand p l e R s m args below meth c T locs cells slots) (hx : p.tables.exec = Jvm.exec) (Hb : own_H p c jdk_42_method_47_code) (hZ : Z.Warmed39 s.vm) (hown : s.vm.findClass own_n66.cls = some m.cls) (hml : c.maxLocals = 9) (hR : 1 ≤ R.frames ∧ 13 ≤ R.locals ∧ cells ≤ R.cells ∧ slots ≤ R.slots) (e0 : T.heap = h0) (N0 : Fr n0 locs) (O : Old Z n0 h0) (SU : own_SU Z zc fm fn u8) (V_b : Arv Z h0 b kb .byte nn vv (.int 0)) (hlt : jj < mm) (hlo : vv.getD (jj <<< ((1 : Int32) &&& 31)).toNatClampNeg (.int 0) = .int (own_lo xx)) (hhi : vv.getD ((jj <<< ((1 : Int32) &&& 31)) + (1 : Int32)).toNatClampNeg (.int 0) = .int (own_hi xx)) (hb1 : ¬ (jj <<< ((1 : Int32) &&& 31)) < 0 ∧ (jj <<< ((1 : Int32) &&& 31)) < nn) (hb2 : ¬ ((jj <<< ((1 : Int32) &&& 31)) + (1 : Int32)) < 0 ∧ ((jj <<< ((1 : Int32) &&& 31)) + (1 : Int32)) < nn) (hg : own_gc (own_lo xx) (own_hi xx) = xx) (hx1 : ¬ xx < (128 : Int32)) (ok_x6 : own_OK x6) (pre0 : own_Go p e below f0 T m 18 (own_F5 b (1 : Int32) pp jj mm d x6) []) : ∃ (T' : State) (L' : List Loc), Stand p l e R s m args below meth c T' L' cells slots ∧ Fr n0 L' ∧ T'.heap = h0 ∧ own_Go p e below f0 T' m 58 (own_F6 b (1 : Int32) pp jj mm d xx) [] := by
  have hby := Hb.2
  have W := own_q hw
  have K := Keep.refl h0 []
  obtain ⟨_, T1, Lc1, X1, hQ1, st1⟩ := own_cS X0 Hb hZ hown hml (L := (own_F5 b (1 : Int32) pp jj mm d x6)) rfl (rm35 hw b jj kb nn vv xx O SU V_b hlo hhi hb1 hb2 hg) (W 327 rfl) (W 169 rfl) (W 22 rfl) (W 170 rfl) pd8 e0 (D66 19) [.ref b, .int jj] [] 0 (hf := ⟨Nat.le_trans (by decide) hR.1, Nat.le_trans (by decide) hR.2.1, hR.2.2.1, hR.2.2.2⟩)
  obtain ⟨rfl, N1q, eh1⟩ := hQ1
  have N1 := Fr.app N0 N1q
  have w2 : own_Go p e below f0 T1 m 58 (own_F6 b (1 : Int32) pp jj mm d xx) [] := fun t k => by
    refine pre0 t ?_
    refine zil X0 Hb (D66 14) rfl <| ziL X0 Hb (D66 15) rfl <| zcn X0 Hb (D66 16) (tlt (hlt : jj < mm)).2.1 <| zal X0 Hb (D66 17) rfl rfl <| zil X0 Hb (D66 18) rfl <| st1 _ <| ziS X1 Hb (L' := (own_F6 b (1 : Int32) pp jj mm d xx)) (D66 20) (by rcases ok_x6 with h | ⟨v, h⟩ <;> rw [h] <;> rfl) <| ziL X1 Hb (D66 21) rfl ?_
    refine zsp X1 Hb (D66 22) 128 rfl <| zcn X1 Hb (D66 23) (flt (hx1 : ¬ (xx < (128 : Int32)))).1 <| zgo X1 Hb (D66 24) 58 (by decide) rfl ?_
    exact k
  exact ⟨T1, _, X1, N1, eh1, w2⟩
theorem fr66c {p : Program} {e : Env} {R : Room} {s : State} {m : MethodId} {args : Array Value} {below : List Frame} {meth : Method} {c : Code} {T f0 : State} {locs : List Loc} {cells slots : Nat} (hw : own_W a0 Z) (b d : Addr) (pp mm jj : Int32) (x6 : Slot) {h0 : Heap} {n0 : Nat} (X0 : Stand p l e R s m args below meth c T locs cells slots) (hx : p.tables.exec = Jvm.exec) (Hb : own_H p c jdk_42_method_47_code) (hZ : Z.Warmed39 s.vm) (hown : s.vm.findClass own_n66.cls = some m.cls) (hml : c.maxLocals = 9) (hR : 0 ≤ R.frames ∧ 0 ≤ R.locals ∧ cells ≤ R.cells ∧ slots ≤ R.slots) (e0 : T.heap = h0) (N0 : Fr n0 locs) (O : Old Z n0 h0) (hlt : ¬ jj < mm) (pre0 : own_Go p e below f0 T m 18 (own_F5 b (1 : Int32) pp jj mm d x6) []) : ∃ (T' : State) (L' : List Loc), Stand p l e R s m args below meth c T' L' cells slots ∧ Fr n0 L' ∧ T'.heap = h0 ∧ own_Go p e below f0 T' m 58 (own_F5 b (1 : Int32) pp jj mm d x6) [] := by
  have hby := Hb.2
  have W := own_q hw
  have K := Keep.refl h0 []
  have w1 : own_Go p e below f0 T m 58 (own_F5 b (1 : Int32) pp jj mm d x6) [] := fun t k => by
    refine pre0 t ?_
    refine zil X0 Hb (D66 14) rfl <| ziL X0 Hb (D66 15) rfl <| zcy X0 Hb (D66 16) (flt (hlt : ¬ (jj < mm))).2.1 58 (by decide) rfl ?_
    exact k
  exact ⟨T, _, X0, N0, e0, w1⟩
theorem lp66 {p : Program} {e : Env} {R : Room} {s : State} {m : MethodId} {args : Array Value} {below : List Frame} {meth : Method} {c : Code} {f0 : State} {cells slots : Nat} (hw : own_W a0 Z) (b d : Addr) (kb kd : ClassId) (nd : Int32) (nD : Nat) (cs : List Int32) {zc : Int32} {fm : Value} {fn : Value} {u8 : Addr} {n0 : Nat} (hx : p.tables.exec = Jvm.exec) (Hb : own_H p c jdk_42_method_47_code) (hZ : Z.Warmed39 s.vm) (hown : s.vm.findClass own_n66.cls = some m.cls) (hml : c.maxLocals = 9) (hR : 1 ≤ R.frames ∧ 13 ≤ R.locals ∧ cells ≤ R.cells ∧ slots ≤ R.slots) (SU : own_SU Z zc fm fn u8) (nbd : b ≠ d) (hB3 : cs.length ≤ 3) (hG : own_G cs) (hn : nd = Int32.ofNat nD) (hbb : nD ≤ 12) (g_d : n0 ≤ d) : ∀ (k : Nat) (T : State) (locs : List Loc) (h : Heap) (r : List Int32) (ii : Nat) (pp : Int32) (bs : List Value) (rr : Nat) (x6 x7 x8 : Slot), r.length < k → cs.drop ii = r → ii ≤ cs.length → own_WF r → 3 * r.length ≤ rr → pp = Int32.ofNat bs.length → bs.length + rr = nD → own_OK x6 → Stand p l e R s m args below meth c T locs cells slots → T.heap = h → Fr n0 locs → Old Z n0 h → Arv Z h b kb .byte (Int32.ofNat (2 * cs.length)) (own_wb cs) (.int 0) → Arv Z h d kd .byte nd (bs ++ List.replicate rr (.int 0)) (.int 0) → (2 ≤ r.length → x7 = .unset ∧ x8 = .unset) → own_Go p e below f0 T m 58 (own_F3 b (1 : Int32) pp (Int32.ofNat ii) (Int32.ofNat cs.length) d x6 x7 x8) [] → ∃ (T' : State) (L' : List Loc) (pq : Int32) (r2 : Nat) (y6 y7 y8 : Slot), Stand p l e R s m args below meth c T' L' cells slots ∧ Fr n0 L' ∧ Keep h T'.heap [d] ∧ Arv Z T'.heap d kd .byte nd ((bs ++ own_enw r) ++ List.replicate r2 (.int 0)) (.int 0) ∧ pq = Int32.ofNat (bs ++ own_enw r).length ∧ (bs ++ own_enw r).length + r2 = nD ∧ own_Go p e below f0 T' m 58 (own_F3 b (1 : Int32) pq (Int32.ofNat cs.length) (Int32.ofNat cs.length) d y6 y7 y8) [] := by
  intro k
  induction k with
  | zero => intro T locs h r ii pp bs rr x6 x7 x8 hk; omega
  | succ k ih =>
    intro T locs h r ii pp bs rr x6 x7 x8 hk hr hi hW hrr hp hbl ok X e0 N O V_b V_d hu pre
    cases r with
    | nil =>
      have q := congrArg List.length hr
      simp at q
      have e2 : bs ++ own_enw [] = bs := by simp [own_enw]
      have e3 : ii = cs.length := by omega
      rw [e2]
      rw [e3] at pre
      exact ⟨T, locs, pp, rr, x6, x7, x8, X, N, by rw [e0]; exact Keep.refl h [d], by rw [e0]; exact V_d, hp, hbl, pre⟩
    | cons x r' =>
      have D := own_dl hr
      have AT := own_at rfl hB3 hG hr
      simp only [List.length_cons] at hk hrr hu
      rcases own_wf1 hW with ⟨his, hW2, hen⟩ | ⟨y, q, rfl, hPR, hW2, hen⟩
      · obtain ⟨r0, hr0⟩ : ∃ q, rr = q + 3 := ⟨rr - 3, by omega⟩
        subst hr0
        obtain ⟨T1, L1, pq, r2, X1, N1, K1, V1, hpq, hr2, hr3, w1⟩ := fr66s hw b kb _ _ x d kd nd pp _ _ bs r0 nD x6 x7 x8 X hx Hb hZ hown hml ⟨Nat.le_trans (by decide) hR.1, Nat.le_trans (by decide) hR.2.1, hR.2.2.1, hR.2.2.2⟩ e0 N O SU V_b V_d nbd AT.2.2.2.2.2.2.2 hp hbl hn hbb AT.1 AT.2.1 AT.2.2.1 AT.2.2.2.1 AT.2.2.2.2.1 his ok g_d pre
        rw [own_sj rfl] at w1
        have V_b1 := V_b.keep K1 (ninS nbd nin0)
        obtain ⟨T2, L2, p2, q2, y6, y7, y8, X2, N2, K2, V2, hp2, hq2, w2⟩ := ih T1 L1 T1.heap r' (ii + 1) pq _ r2 _ x7 x8 (by omega) D.2 (by omega) hW2 (by omega) hpq hr2 (own_okI _) X1 rfl N1 (O.keep K1 (allS g_d all0)) V_b1 V1 (fun q => hu (by omega)) w1
        rw [show bs ++ own_e1 x ++ own_enw r' = bs ++ own_enw (x :: r') by rw [hen, List.append_assoc]] at V2 hp2 hq2
        exact ⟨T2, L2, p2, q2, y6, y7, y8, X2, N2, K1.trans K2 (allS (Or.inl (List.mem_of_getElem? (i := 0) rfl)) all0), V2, hp2, hq2, w2⟩
      · have D2 := own_dl D.2
        have AQ := own_at (own_sj rfl) hB3 hG D.2
        simp only [List.length_cons] at hk hrr hu
        obtain ⟨r0, hr0⟩ : ∃ q, rr = q + 4 := ⟨rr - 4, by omega⟩
        subst hr0
        obtain ⟨rfl, rfl⟩ := hu (by omega)
        obtain ⟨T1, L1, pq, r2, X1, N1, K1, V1, hpq, hr2, hr3, w1⟩ := fr66p hw b kb _ _ x y d kd nd pp _ _ bs r0 nD x6 X hx Hb hZ hown hml ⟨Nat.le_trans (by decide) hR.1, Nat.le_trans (by decide) hR.2.1, hR.2.2.1, hR.2.2.2⟩ e0 N O SU V_b V_d nbd AT.2.2.2.2.2.2.2 hp hbl hn hbb AT.1 AT.2.1 AT.2.2.1 AT.2.2.2.1 AT.2.2.2.2.1 AQ.1 AQ.2.1 AQ.2.2.1 AQ.2.2.2.1 AQ.2.2.2.2.1 AQ.2.2.2.2.2.2.2 hPR.1 hPR.2.1 hPR.2.2.1 hPR.2.2.2.1 hPR.2.2.2.2.1 hPR.2.2.2.2.2.1 hPR.2.2.2.2.2.2 ok g_d pre
        rw [own_sj rfl, own_sj rfl] at w1
        have V_b1 := V_b.keep K1 (ninS nbd nin0)
        obtain ⟨T2, L2, p2, q2, y6, y7, y8, X2, N2, K2, V2, hp2, hq2, w2⟩ := ih T1 L1 T1.heap q (ii + 1 + 1) pq _ r2 _ _ _ (by omega) D2.2 (by omega) hW2 (by omega) hpq hr2 (own_okI _) X1 rfl N1 (O.keep K1 (allS g_d all0)) V_b1 V1 (fun u => by have z := congrArg List.length hr; simp at z; omega) w1
        rw [show bs ++ own_e4 (own_q4 x y) ++ own_enw q = bs ++ own_enw (x :: y :: q) by rw [hen, List.append_assoc]] at V2 hp2 hq2
        exact ⟨T2, L2, p2, q2, y6, y7, y8, X2, N2, K1.trans K2 (allS (Or.inl (List.mem_of_getElem? (i := 0) rfl)) all0), V2, hp2, hq2, w2⟩
theorem lq66 {p : Program} {e : Env} {R : Room} {s : State} {m : MethodId} {args : Array Value} {below : List Frame} {meth : Method} {c : Code} {f0 : State} {cells slots : Nat} (hw : own_W a0 Z) (b d : Addr) (kb kd : ClassId) (nd : Int32) (nD : Nat) (cs : List Int32) {zc : Int32} {fm : Value} {fn : Value} {u8 : Addr} {n0 : Nat} (hx : p.tables.exec = Jvm.exec) (Hb : own_H p c jdk_42_method_47_code) (hZ : Z.Warmed39 s.vm) (hown : s.vm.findClass own_n66.cls = some m.cls) (hml : c.maxLocals = 9) (hR : 1 ≤ R.frames ∧ 13 ≤ R.locals ∧ cells ≤ R.cells ∧ slots ≤ R.slots) (SU : own_SU Z zc fm fn u8) (nbd : b ≠ d) (hB3 : cs.length ≤ 3) (hG : own_G cs) (hn : nd = Int32.ofNat nD) (hbb : nD ≤ 12) (g_d : n0 ≤ d) : ∀ (k : Nat) (T : State) (locs : List Loc) (h : Heap) (r : List Int32) (ii : Nat) (pp : Int32) (bs : List Value) (rr : Nat) (x6 : Slot), r.length < k → cs.drop ii = r → ii ≤ cs.length → own_WF r → 3 * r.length ≤ rr → pp = Int32.ofNat bs.length → bs.length + rr = nD → own_OK x6 → Stand p l e R s m args below meth c T locs cells slots → T.heap = h → Fr n0 locs → Old Z n0 h → Arv Z h b kb .byte (Int32.ofNat (2 * cs.length)) (own_wb cs) (.int 0) → Arv Z h d kd .byte nd (bs ++ List.replicate rr (.int 0)) (.int 0) → own_Go p e below f0 T m 18 (own_F5 b (1 : Int32) pp (Int32.ofNat ii) (Int32.ofNat cs.length) d x6) [] → ∃ (T' : State) (L' : List Loc) (pq : Int32) (r2 : Nat) (y6 y7 y8 : Slot), Stand p l e R s m args below meth c T' L' cells slots ∧ Fr n0 L' ∧ Keep h T'.heap [d] ∧ Arv Z T'.heap d kd .byte nd ((bs ++ own_enw r) ++ List.replicate r2 (.int 0)) (.int 0) ∧ pq = Int32.ofNat (bs ++ own_enw r).length ∧ (bs ++ own_enw r).length + r2 = nD ∧ own_Go p e below f0 T' m 58 (own_F3 b (1 : Int32) pq (Int32.ofNat cs.length) (Int32.ofNat cs.length) d y6 y7 y8) [] := by
  intro k
  induction k with
  | zero => intro T locs h r ii pp bs rr x6 hk; omega
  | succ k ih =>
    intro T locs h r ii pp bs rr x6 hk hr hi hW hrr hp hbl ok X e0 N O V_b V_d pre
    cases r with
    | nil =>
      have q := congrArg List.length hr
      simp at q
      have hlt : ¬ Int32.ofNat ii < Int32.ofNat cs.length := by rw [show ii = cs.length by omega]; exact Int32.lt_irrefl
      obtain ⟨T1, L1, X1, N1, e1, w1⟩ := fr66c hw b d pp _ _ x6 X hx Hb hZ hown hml ⟨Nat.le_trans (by decide) hR.1, Nat.le_trans (by decide) hR.2.1, hR.2.2.1, hR.2.2.2⟩ e0 N O hlt pre
      subst e0
      exact lp66 hw b d kb kd nd nD cs hx Hb hZ hown hml hR SU nbd hB3 hG hn hbb g_d 1 T1 L1 _ [] ii pp bs rr x6 .unset .unset (by decide) hr hi trivial hrr hp hbl ok X1 e1 N1 O V_b V_d (fun _ => ⟨rfl, rfl⟩) w1
    | cons x r' =>
      have D := own_dl hr
      have AT := own_at rfl hB3 hG hr
      by_cases hx1 : x < (128 : Int32)
      · simp only [List.length_cons] at hk hrr
        rcases own_wf1 hW with ⟨his, hW2, hen⟩ | ⟨y, q, rfl, hPR, hW2, hen⟩
        · obtain ⟨r0, hr0⟩ : ∃ q, rr = q + 1 := ⟨rr - 1, by omega⟩
          subst hr0
          obtain ⟨T1, L1, X1, N1, K1, V1, hpq, hr2, w1⟩ := fr66a hw b kb _ _ x d kd nd pp _ _ bs r0 nD x6 X hx Hb hZ hown hml ⟨Nat.le_trans (by decide) hR.1, Nat.le_trans (by decide) hR.2.1, hR.2.2.1, hR.2.2.2⟩ e0 N O SU V_b V_d nbd AT.2.2.2.2.2.2.2 hp hbl hn hbb AT.1 AT.2.1 AT.2.2.1 AT.2.2.2.1 AT.2.2.2.2.1 hx1 ok g_d pre
          rw [own_sj rfl] at w1
          have V_b1 := V_b.keep K1 (ninS nbd nin0)
          obtain ⟨T2, L2, p2, q2, y6, y7, y8, X2, N2, K2, V2, hp2, hq2, w2⟩ := ih T1 L1 T1.heap r' (ii + 1) _ _ r0 _ (by omega) D.2 (by omega) hW2 (by omega) hpq hr2 (own_okI _) X1 rfl N1 (O.keep K1 (allS g_d all0)) V_b1 V1 w1
          rw [show bs ++ own_e1 x ++ own_enw r' = bs ++ own_enw (x :: r') by rw [hen, List.append_assoc]] at V2 hp2 hq2
          exact ⟨T2, L2, p2, q2, y6, y7, y8, X2, N2, K1.trans K2 (allS (Or.inl (List.mem_of_getElem? (i := 0) rfl)) all0), V2, hp2, hq2, w2⟩
        · exact absurd hx1 hPR.1
      · obtain ⟨T1, L1, X1, N1, e1, w1⟩ := fr66b hw b kb _ _ x d pp _ _ x6 X hx Hb hZ hown hml ⟨Nat.le_trans (by decide) hR.1, Nat.le_trans (by decide) hR.2.1, hR.2.2.1, hR.2.2.2⟩ e0 N O SU V_b AT.2.2.2.2.2.2.2 AT.1 AT.2.1 AT.2.2.1 AT.2.2.2.1 AT.2.2.2.2.1 hx1 ok pre
        subst e0
        exact lp66 hw b d kb kd nd nD cs hx Hb hZ hown hml hR SU nbd hB3 hG hn hbb g_d _ T1 L1 _ _ ii pp bs rr _ .unset .unset (Nat.lt_succ_self _) hr hi hW hrr hp hbl (own_okI _) X1 e1 N1 O V_b V_d (fun _ => ⟨rfl, rfl⟩) w1
def own_F9 (x0 : Addr) (x1 : Int32) (x2 : Int32) : Array Slot := #[.val (.ref x0), .val (.int x1), .val (.int x2), .unset, .unset, .unset, .unset, .unset, .unset]
def own_F10 (x0 : Addr) (x1 : Int32) (x2 : Int32) (x3 : Int32) : Array Slot := #[.val (.ref x0), .val (.int x1), .val (.int x2), .val (.int x3), .unset, .unset, .unset, .unset, .unset]
def own_F11 (x0 : Addr) (x1 : Int32) (x2 : Int32) (x3 : Int32) (x4 : Int32) : Array Slot := #[.val (.ref x0), .val (.int x1), .val (.int x2), .val (.int x3), .val (.int x4), .unset, .unset, .unset, .unset]
def own_F12 (x0 : Addr) (x1 : Int32) (x2 : Int32) (x3 : Int32) (x4 : Int32) (x5 : Addr) : Array Slot := #[.val (.ref x0), .val (.int x1), .val (.int x2), .val (.int x3), .val (.int x4), .val (.ref x5), .unset, .unset, .unset]
theorem pd14 : parseMethodDescriptor "([BI)[B" = some ⟨[(.array .byte), .int], some (.array .byte)⟩ := by decide +kernel
theorem rm66 (hw : own_W a0 Z) (b : Addr) (kb : ClassId) (cs : List Int32) {zc : Int32} {fm : Value} {fn : Value} {u8 : Addr} {h0 : Heap} {n0 : Nat} (O0 : Old Z n0 h0) (SU : own_SU Z zc fm fn u8) (V_b : Arv Z h0 b kb .byte (Int32.ofNat (2 * cs.length)) (own_wb cs) (.int 0)) (hWF : own_WF cs) (hB3 : cs.length ≤ 3) (hG : own_G cs) : own_M l own_n66 jdk_42_method_47_code 9 (some (.array .byte)) (own_rm 2 2 21 54) Z h0 #[.ref b, .int 1] (fun v h L => ∃ z : Addr, ∃ kz : ClassId, v = some (.ref z) ∧ Fr n0 L ∧ Keep h0 h [] ∧ Arv Z h z kz .byte (Int32.ofNat (own_enw cs).length) (own_enw cs) (.int 0) ∧ h0.size ≤ z ∧ n0 ≤ z) := by
  refine own_body (L0 := #[.val (.ref b), .val (.int 1), .unset, .unset, .unset, .unset, .unset, .unset, .unset]) (plainFor_of_name pn_java_lang_String) rfl rfl ?_
  intro p e s m below meth c s₁ f0 Bd hx Hb hml hZ hown X0 e0 pre0
  have hby := Hb.2
  have W := own_q hw
  have N0 := Fr.nil n0
  have O := O0
  have K := Keep.refl h0 []
  have B1 := own_ln V_b
  have w2 : own_Go p e below f0 s₁ m 10 (own_F11 b (1 : Int32) (0 : Int32) (0 : Int32) ((Int32.ofNat (2 * cs.length)) >>> ((1 : Int32) &&& 31))) [] := fun t k => by
    refine pre0 t ?_
    refine zic X0 Hb (D66 0) 0 rfl <| zis X0 Hb (L' := (own_F9 b (1 : Int32) (0 : Int32))) (D66 1) rfl <| zic X0 Hb (D66 2) 0 rfl <| zis X0 Hb (L' := (own_F10 b (1 : Int32) (0 : Int32) (0 : Int32))) (D66 3) rfl <| zal X0 Hb (D66 4) rfl rfl <| zal_ X0 Hb hZ e0 B1 (D66 5) <| zic X0 Hb (D66 6) 1 rfl <| zsr X0 Hb (D66 7) ?_
    refine ziS X0 Hb (D66 8) rfl ?_
    exact k
  have w3 : own_Go p e below f0 s₁ m 10 (own_F11 b (1 : Int32) (0 : Int32) (0 : Int32) (Int32.ofNat cs.length)) [] := by rw [← (own_nq3 cs.length (by omega)).2.2.2.2.2.2]; exact w2
  obtain ⟨T4, h4, k4, X4, e4, E4, A4, st4⟩ := newP X0 hx hZ (W 24 rfl) e0 (g := (mkF m 14 (own_F11 b (1 : Int32) (0 : Int32) (0 : Int32) (Int32.ofNat cs.length)) [(.int ((Int32.ofNat cs.length) * (3 : Int32)))])) rfl (hb hby (D66 12)) rfl (own_m3 _ (by omega)).1 (cap := 9) (own_m3 _ (by omega)).2.1 (by decide) (by decide) (by decide)
  obtain ⟨b4, gq4⟩ : ∃ z, z = Array.size h0 := ⟨_, rfl⟩
  rw [← gq4] at A4 st4
  have ne_b_b4 : b ≠ b4 := Nat.ne_of_lt (Nat.lt_of_lt_of_le V_b.lt (Nat.le_of_eq gq4.symm))
  have g_b4 : n0 ≤ b4 := Nat.le_trans (O.1 ▸ O.2.1) (Nat.le_of_eq gq4.symm)
  have z_b4 : h0.size ≤ b4 := Nat.le_trans K.1 (Nat.le_of_eq gq4.symm)
  have V_b := V_b.ext E4
  have O := O.ext E4
  have K := K.ext E4
  have V_b4 : Arv Z h4 b4 k4 .byte ((Int32.ofNat cs.length) * (3 : Int32)) [] (.int 0) := (Arv.new A4 (own_m3 _ (by omega)).1)
  have w5 : own_Go p e below f0 T4 m 18 (own_F12 b (1 : Int32) (0 : Int32) (0 : Int32) (Int32.ofNat cs.length) b4) [] := fun t k => by
    refine w3 t ?_
    refine ziL X0 Hb (D66 9) rfl <| zic X0 Hb (D66 10) 3 rfl <| zmu X0 Hb (D66 11) <| st4 _ <| zaS X4 Hb (L' := (own_F12 b (1 : Int32) (0 : Int32) (0 : Int32) (Int32.ofNat cs.length) b4)) (D66 13) rfl rfl ?_
    exact k
  have V_b4 : Arv Z h4 b4 k4 .byte ((Int32.ofNat cs.length) * (3 : Int32)) (([] : List Value) ++ List.replicate (3 * cs.length) (.int 0)) (.int 0) := V_b4.pad (pad_rep [] _ _)
  obtain ⟨T6, L6, pq, r2, y6, y7, y8, X6, N6, K6, V_d6, hpq, hr2, w6⟩ := lq66 hw b b4 kb k4 _ (3 * cs.length) cs hx Hb hZ hown hml ⟨by decide, by decide, by decide, by decide⟩ SU ne_b_b4 hB3 hG (own_m3 _ (by omega)).2.2 (by omega) g_b4 _ _ _ _ cs 0 0 [] (3 * cs.length) _ (Nat.lt_succ_self _) rfl (Nat.zero_le _) hWF (Nat.le_refl _) rfl (Nat.zero_add _) own_okU X4 e4 N0 O V_b V_b4 w5
  have V_b := V_b.keep K6 (ninS ne_b_b4 nin0)
  have O := O.keep K6 (allS g_b4 all0)
  have K := K.trans K6 (allS (Or.inr z_b4) all0)
  have B7 := own_ln V_d6
  have w8 : own_Go p e below f0 T6 m 359 (own_F3 b (1 : Int32) pq (Int32.ofNat cs.length) (Int32.ofNat cs.length) b4 y6 y7 y8) [(.int ((Int32.ofNat cs.length) * (3 : Int32))), .int pq] := fun t k => by
    refine w6 t ?_
    refine zil X6 Hb (D66 33) rfl <| ziL X6 Hb (D66 34) rfl <| zcy X6 Hb (D66 35) (flt (Int32.lt_irrefl : ¬ ((Int32.ofNat cs.length) < (Int32.ofNat cs.length)))).2.1 355 (by decide) rfl <| zil X6 Hb (D66 178) rfl <| zaL X6 Hb (D66 179) rfl rfl <| zal_ X6 Hb hZ rfl B7 (D66 180) ?_
    exact k
  by_cases hc359_9 : pq = ((Int32.ofNat cs.length) * (3 : Int32))
  · have w10 : own_Go p e below f0 T6 m 364 (own_F3 b (1 : Int32) pq (Int32.ofNat cs.length) (Int32.ofNat cs.length) b4 y6 y7 y8) [.ref b4] := fun t k => by
      refine w8 t ?_
      refine zcn X6 Hb (D66 181) (teq hc359_9).2 <| zaL X6 Hb (D66 182) rfl rfl ?_
      exact k
    have hr0 := own_r0 hpq hr2 (own_m3 _ (by omega)).2.2 (by omega) hc359_9
    exact own_oR X6 Hb Bd.notSynchronized Bd.returns rfl w10 (D66 183) rfl (by decide) (by decide) ⟨b4, k4, rfl, N6, K, (by have q := V_d6; rw [hr0, List.replicate_zero, List.append_nil, List.nil_append, ← hc359_9, hpq] at q; exact q), z_b4, g_b4⟩
  · have lt11_b := V_b.lt
    have lt11_b4 := V_d6.lt
    obtain ⟨_, T11, Lc11, X11, hQ11, st11⟩ := own_cS X6 Hb hZ hown hml (L := (own_F3 b (1 : Int32) pq (Int32.ofNat cs.length) (Int32.ofNat cs.length) b4 y6 y7 y8)) rfl (rm31 hw b4 pq k4 ((Int32.ofNat cs.length) * (3 : Int32)) ([] ++ own_enw cs) r2 (3 * cs.length) O V_d6 hpq hr2 (own_m3 _ (by omega)).2.2 (by omega) hc359_9) (W 143 rfl) (W 144 rfl) (W 145 rfl) (W 146 rfl) pd14 rfl (D66 186) [.ref b4, .int pq] [] 0
    obtain ⟨z_11, kz_11, rfl, N11q, K11, V_z_c11, gz_11, gn_11⟩ := hQ11
    have N11 := Fr.app N6 N11q
    have V_b := V_b.keep K11 nin0
    have V_d6 := V_d6.keep K11 nin0
    have ne_b_z_11 : b ≠ z_11 := Nat.ne_of_lt (Nat.lt_of_lt_of_le lt11_b gz_11)
    have ne_b4_z_11 : b4 ≠ z_11 := Nat.ne_of_lt (Nat.lt_of_lt_of_le lt11_b4 gz_11)
    have g_z_11 := gn_11
    have z_z_11 : h0.size ≤ z_11 := Nat.le_trans K.1 gz_11
    have O := O.keep K11 all0
    have K := K.trans K11 all0
    have w12 : own_Go p e below f0 T11 m 371 (own_F3 b (1 : Int32) pq (Int32.ofNat cs.length) (Int32.ofNat cs.length) b4 y6 y7 y8) [.ref z_11] := fun t k => by
      refine w8 t ?_
      refine zcy X6 Hb (D66 181) (feq hc359_9).2 365 (by decide) rfl <| zaL X6 Hb (D66 184) rfl rfl <| zil X6 Hb (D66 185) rfl <| st11 _ ?_
      exact k
    exact own_oR X11 Hb Bd.notSynchronized Bd.returns rfl w12 (D66 187) rfl (by decide) (by decide) ⟨z_11, kz_11, rfl, N11, K, (by have q := V_z_c11; rw [hpq] at q; exact q), z_z_11, g_z_11⟩
def own_dr (x : Int32) : Int32 := if ((x.toUInt32 >>> ((16 : Int32) &&& 31).toUInt32).toInt32 &&& (1 : Int32)) = (0 : Int32) then own_k (own_k (x &&& (65535 : Int32))) else own_k (own_k ((55296 : Int32) ||| (x &&& (2047 : Int32))))
theorem own_eqi {bs : List Value} {q : Nat} {jj pp : Int32} (hp : pp = Int32.ofNat bs.length) (hr : bs.length + q = 12) (h0 : ¬ jj < 0) (h : jj < pp) (hi : ∀ v ∈ bs, ∃ w, v = Value.int w) : ∃ w : Int32, bs.getD jj.toNatClampNeg (Value.int 0) = Value.int w ∧ (bs ++ List.replicate q (Value.int 0)).getD jj.toNatClampNeg (Value.int 0) = Value.int w ∧ jj < (12 : Int32) := by
  have e : pp.toInt = bs.length := by rw [hp]; exact Int32.toInt_ofNat_of_lt (by omega)
  rw [Int32.lt_iff_toInt_lt, show (0 : Int32).toInt = 0 from rfl] at h0
  rw [Int32.lt_iff_toInt_lt] at h
  have hj : jj.toNatClampNeg < bs.length := by simp only [Int32.toNatClampNeg]; omega
  obtain ⟨w, hw⟩ := hi _ (List.getElem_mem hj)
  refine ⟨w, ?_, ?_, ?_⟩
  · rw [List.getD_eq_getElem?_getD, List.getElem?_eq_getElem hj, hw]; rfl
  · rw [List.getD_eq_getElem?_getD, List.getElem?_append_left hj, List.getElem?_eq_getElem hj, hw]; rfl
  · rw [Int32.lt_iff_toInt_lt, show (12 : Int32).toInt = 12 from rfl]; omega
def L1 : List (Nat × Instr × Nat) := [(0, .iload_n 0, 1), (1, .bipush 16, 2), (3, .iushr, 1), (4, .iconst 1, 1), (5, .iand, 1), (6, .ifCond .eq 13, 3), (9, .ldc 7, 2), (11, .iload_n 0, 1), (12, .sipush 2047, 3), (15, .iand, 1), (16, .ior, 1), (17, .i2c, 1), (18, .ireturn, 1), (19, .iload_n 0, 1), (20, .ldc 8, 2), (22, .iand, 1), (23, .i2c, 1), (24, .ireturn, 1)]
theorem D1 : ∀ k : Nat, own_PP method_2_code L1[k]? := own_dd (by decide +kernel)
theorem rm1 (hw : own_W a0 Z) (jj : Int32) {h0 : Heap} {n0 : Nat} (O0 : Old Z n0 h0) : own_M l own_n1 method_2_code 1 (some .char) (own_rm 0 0 0 0) Z h0 #[.int jj] (fun v h L => v = some (.int (own_dr jj)) ∧ Fr n0 L ∧ h = h0) := by
  refine own_body (L0 := #[.val (.int jj)]) (plainFor_of_name pn_com_example_gradual_reply_gradualreply_Utf8EncodePinLaw) rfl rfl ?_
  intro p e s m below meth c s₁ f0 Bd hx Hb hml hZ hown X0 e0 pre0
  have hby := Hb.2
  have W := own_q hw
  have N0 := Fr.nil n0
  have O := O0
  have w1 : own_Go p e below f0 s₁ m 6 #[.val (.int jj)] [(.int (((jj.toUInt32 >>> ((16 : Int32) &&& 31).toUInt32).toInt32) &&& (1 : Int32)))] := fun t k => by
    refine pre0 t ?_
    refine zil X0 Hb (D1 0) rfl <| zbp X0 Hb (D1 1) 16 rfl <| zus X0 Hb (D1 2) <| zic X0 Hb (D1 3) 1 rfl <| zan X0 Hb (D1 4) ?_
    exact k
  by_cases hc6_2 : (((jj.toUInt32 >>> ((16 : Int32) &&& 31).toUInt32).toInt32) &&& (1 : Int32)) = (0 : Int32)
  · have w3 : own_Go p e below f0 s₁ m 24 #[.val (.int jj)] [(.int ((jj &&& (65535 : Int32)).toUInt32.toUInt16.toUInt32.toInt32))] := fun t k => by
      refine w1 t ?_
      refine ziy X0 Hb (D1 5) ((if0 _ _).trans (teq hc6_2).1) 19 (by decide) rfl <| zil X0 Hb (D1 13) rfl <| X0.ldcInt hx hown (mvT hZ (W 4 rfl)) (g := (mkF m 20 #[.val (.int jj)] [.int jj])) rfl (hb hby (D1 14)) _ <| zan X0 Hb (D1 15) <| zik X0 Hb (D1 16) ?_
      exact k
    exact own_oN X0 Hb Bd.notSynchronized Bd.returns (by simp) w3 (D1 17) e0 (by decide) (by decide) ⟨(by show some (Value.int (((jj &&& (65535 : Int32)).toUInt32.toUInt16.toUInt32.toInt32).toUInt32.toUInt16.toUInt32.toInt32)) = _; unfold own_dr; rw [if_pos hc6_2]; rfl), N0, rfl⟩
  · have w4 : own_Go p e below f0 s₁ m 18 #[.val (.int jj)] [(.int (((55296 : Int32) ||| (jj &&& (2047 : Int32))).toUInt32.toUInt16.toUInt32.toInt32))] := fun t k => by
      refine w1 t ?_
      refine zin X0 Hb (D1 5) ((if0 _ _).trans (feq hc6_2).1) <| X0.ldcInt hx hown (mvT hZ (W 42 rfl)) (g := (mkF m 9 #[.val (.int jj)] [])) rfl (hb hby (D1 6)) _ <| zil X0 Hb (D1 7) rfl <| zsp X0 Hb (D1 8) 2047 rfl <| zan X0 Hb (D1 9) <| zor X0 Hb (D1 10) <| zik X0 Hb (D1 11) ?_
      exact k
    exact own_oN X0 Hb Bd.notSynchronized Bd.returns (by simp) w4 (D1 12) e0 (by decide) (by decide) ⟨(by show some (Value.int ((((55296 : Int32) ||| (jj &&& (2047 : Int32))).toUInt32.toUInt16.toUInt32.toInt32).toUInt32.toUInt16.toUInt32.toInt32)) = _; unfold own_dr; rw [if_neg hc6_2]; rfl), N0, rfl⟩
def L12 : List (Nat × Instr × Nat) := [(0, .aload_n 0, 1), (1, .areturn, 1)]
theorem D12 : ∀ k : Nat, own_PP jdk_42_method_126_code L12[k]? := own_dd (by decide +kernel)
theorem rm12 (hw : own_W a0 Z) (a : Addr) {h0 : Heap} {n0 : Nat} (O0 : Old Z n0 h0) : own_M l own_n12 jdk_42_method_126_code 1 (some (.object "java/lang/String")) (own_rm 0 0 0 0) Z h0 #[.ref a] (fun v h L => v = some (.ref a) ∧ Fr n0 L ∧ h = h0) := by
  refine own_body (L0 := #[.val (.ref a)]) (plainFor_of_name pn_java_lang_String) rfl rfl ?_
  intro p e s m below meth c s₁ f0 Bd hx Hb hml hZ hown X0 e0 pre0
  have N0 := Fr.nil n0
  have O := O0
  have w1 : own_Go p e below f0 s₁ m 1 #[.val (.ref a)] [.ref a] := fun t k => by
    refine pre0 t ?_
    refine zal X0 Hb (D12 0) rfl rfl ?_
    exact k
  exact own_oR X0 Hb Bd.notSynchronized Bd.returns rfl w1 (D12 1) e0 (by decide) (by decide) ⟨rfl, N0, rfl⟩
def L28 : List (Nat × Instr × Nat) := [(0, .iload_n 2, 1), (1, .iload_n 3, 1), (2, .if_icmp .ge 12, 3), (5, .aload_n 0, 1), (6, .iload_n 2, 1), (7, .baload, 1), (8, .aload_n 1, 1), (9, .iload_n 2, 1), (10, .baload, 1), (11, .if_icmp .ne 7, 3), (14, .iconst 1, 1), (15, .goto 4, 3), (19, .ireturn, 1)]
theorem D28 : ∀ k : Nat, own_PP method_7_code L28[k]? := own_dd (by decide +kernel)
theorem rm28 (hw : own_W a0 Z) (b o : Addr) (jj pp : Int32) (kb ko : ClassId) (bs : List Value) (rr : Nat) {h0 : Heap} {n0 : Nat} (O0 : Old Z n0 h0) (V_b : Arv Z h0 b kb .byte (Int32.ofNat bs.length) bs (.int 0)) (V_o : Arv Z h0 o ko .byte (12 : Int32) (bs ++ List.replicate rr (.int 0)) (.int 0)) (hp : pp = Int32.ofNat bs.length) (hr : bs.length + rr = 12) (h0j : ¬ jj < 0) (hin : ∀ v ∈ bs, ∃ w, v = Value.int w) : own_M l own_n28 method_7_code 4 (some .boolean) (own_rm 0 0 0 0) Z h0 #[.ref b, .ref o, .int jj, .int pp] (fun v h L => v = some (.int 1) ∧ Fr n0 L ∧ h = h0) := by
  refine own_body (L0 := #[.val (.ref b), .val (.ref o), .val (.int jj), .val (.int pp)]) (plainFor_of_name pn_com_example_gradual_reply_gradualreply_Utf8EncodePinLaw) rfl rfl ?_
  intro p e s m below meth c s₁ f0 Bd hx Hb hml hZ hown X0 e0 pre0
  have N0 := Fr.nil n0
  have O := O0
  have w1 : own_Go p e below f0 s₁ m 2 #[.val (.ref b), .val (.ref o), .val (.int jj), .val (.int pp)] [.int pp, .int jj] := fun t k => by
    refine pre0 t ?_
    refine zil X0 Hb (D28 0) rfl <| zil X0 Hb (D28 1) rfl ?_
    exact k
  by_cases hc2_2 : jj < pp
  · obtain ⟨w, hw1, hw2, hw3⟩ := own_eqi hp hr h0j hc2_2 hin
    have B3 : own_El Z h0 b .byte jj (.int w) := own_el V_b ⟨h0j, hp ▸ hc2_2⟩ hw1
    have B4 : own_El Z h0 o .byte jj (.int w) := own_el V_o ⟨h0j, hw3⟩ hw2
    have w5 : own_Go p e below f0 s₁ m 19 #[.val (.ref b), .val (.ref o), .val (.int jj), .val (.int pp)] [.int 1] := fun t k => by
      refine w1 t ?_
      refine zcn X0 Hb (D28 2) (tlt hc2_2).2.1 <| zal X0 Hb (D28 3) rfl rfl <| zil X0 Hb (D28 4) rfl <| zba X0 Hb hZ e0 B3 (D28 5) <| zal X0 Hb (D28 6) rfl rfl <| zil X0 Hb (D28 7) rfl <| zba X0 Hb hZ e0 B4 (D28 8) <| zcn X0 Hb (D28 9) (teq (rfl : w = w)).2 ?_
      refine zic X0 Hb (D28 10) 1 rfl <| zgo X0 Hb (D28 11) 19 (by decide) rfl ?_
      exact k
    exact own_oN X0 Hb Bd.notSynchronized Bd.returns (by simp) w5 (D28 12) e0 (by decide) (by decide) ⟨rfl, N0, rfl⟩
  · have w6 : own_Go p e below f0 s₁ m 19 #[.val (.ref b), .val (.ref o), .val (.int jj), .val (.int pp)] [.int 1] := fun t k => by
      refine w1 t ?_
      refine zcy X0 Hb (D28 2) (flt hc2_2).2.1 14 (by decide) rfl <| zic X0 Hb (D28 10) 1 rfl <| zgo X0 Hb (D28 11) 19 (by decide) rfl ?_
      exact k
    exact own_oN X0 Hb Bd.notSynchronized Bd.returns (by simp) w6 (D28 12) e0 (by decide) (by decide) ⟨rfl, N0, rfl⟩
def own_cp : Int32 → List Int32 → Int32
  | i, [] => i
  | i, c :: r => if (StrChars.lo8 c) < (0 : Int32) then i else own_cp (i + 1) r
def own_hn (n : Int32) (cs : List Int32) : Int32 := if own_cp 0 cs = n then (0 : Int32) else (1 : Int32)
def own_B8 (x : Int32) : Prop := ((StrChars.lo8 x) < (0 : Int32) ↔ ¬ x < (128 : Int32)) ∧ x < (2048 : Int32) ∧ (¬ x < (128 : Int32) → own_l2 x = .int (own_b ((192 : Int32) ||| ((StrChars.lo8 x &&& (255 : Int32)) >>> ((6 : Int32) &&& 31)))) ∧ own_f0 x = .int (own_b ((128 : Int32) ||| (StrChars.lo8 x &&& (63 : Int32)))))
theorem own_b8 {c : Int32} (h0 : ¬ c < 0) (h1 : ¬ (255 : Int32) < c) : own_B8 c := by
  rw [Int32.lt_iff_toInt_lt, show (0 : Int32).toInt = 0 from rfl] at h0
  rw [Int32.lt_iff_toInt_lt, show (255 : Int32).toInt = 255 from rfl] at h1
  obtain ⟨k, hk⟩ := own_ex c 256 (by omega) (by omega) (by decide)
  rw [hk]
  have t := (by decide +kernel : ∀ k : Fin 256, ((StrChars.lo8 (Int32.ofNat k.val)) < (0 : Int32) ↔ ¬ (Int32.ofNat k.val) < (128 : Int32)) ∧ (Int32.ofNat k.val) < (2048 : Int32) ∧ (¬ (Int32.ofNat k.val) < (128 : Int32) → own_b ((192 : Int32) ||| ((Int32.ofNat k.val) >>> ((6 : Int32) &&& 31))) = own_b ((192 : Int32) ||| ((StrChars.lo8 (Int32.ofNat k.val) &&& (255 : Int32)) >>> ((6 : Int32) &&& 31))) ∧ own_b ((128 : Int32) ||| ((Int32.ofNat k.val) &&& (63 : Int32))) = own_b ((128 : Int32) ||| (StrChars.lo8 (Int32.ofNat k.val) &&& (63 : Int32))))) k
  exact ⟨t.1, t.2.1, fun h => ⟨congrArg Value.int (t.2.2 h).1, congrArg Value.int (t.2.2 h).2⟩⟩
def L27 : List (Nat × Instr × Nat) := [(0, .iload_n 1, 1), (1, .iload_n 2, 1), (2, .iadd, 1), (3, .istore_n 3, 1), (4, .iload_n 1, 1), (5, .istore 4, 2), (7, .iload 4, 2), (9, .iload_n 3, 1), (10, .if_icmp .ge 21, 3), (13, .aload_n 0, 1), (14, .iload 4, 2), (16, .baload, 1), (17, .ifCond .ge 8, 3), (20, .iload 4, 2), (22, .iload_n 1, 1), (23, .isub, 1), (24, .ireturn, 1), (25, .iinc 4 1, 3), (28, .goto (-21), 3), (31, .iload_n 2, 1), (32, .ireturn, 1)]
theorem D27 : ∀ k : Nat, own_PP jdk_123_method_3_code L27[k]? := own_dd (by decide +kernel)
theorem pn_java_lang_StringCoding : plainName "java/lang/StringCoding" = true := by first | (simp [plainName, overriddenIn]; done) | decide +kernel
theorem rm27_0 (hw : own_W a0 Z) (b : Addr) (kb : ClassId) {h0 : Heap} {n0 : Nat} (O0 : Old Z n0 h0) (V_b : Arv Z h0 b kb .byte (0 : Int32) [] (.int 0)) : own_M l own_n27 jdk_123_method_3_code 5 (some .int) (own_rm 0 0 0 0) Z h0 #[.ref b, .int 0, .int 0] (fun v h L => v = some (.int (own_cp 0 [])) ∧ Fr n0 L ∧ h = h0) := by
  refine own_body (L0 := #[.val (.ref b), .val (.int 0), .val (.int 0), .unset, .unset]) (plainFor_of_name pn_java_lang_StringCoding) rfl rfl ?_
  intro p e s m below meth c s₁ f0 Bd hx Hb hml hZ hown X0 e0 pre0
  have N0 := Fr.nil n0
  have O := O0
  have w1 : own_Go p e below f0 s₁ m 32 #[.val (.ref b), .val (.int 0), .val (.int 0), .val (.int 0), .val (.int 0)] [.int 0] := fun t k => by
    refine pre0 t ?_
    refine zil X0 Hb (D27 0) rfl <| zil X0 Hb (D27 1) rfl <| zia' X0 Hb (D27 2) 0 rfl <| zis X0 Hb (L' := #[.val (.ref b), .val (.int 0), .val (.int 0), .val (.int 0), .unset]) (D27 3) rfl <| zil X0 Hb (D27 4) rfl <| ziS X0 Hb (D27 5) rfl <| ziL X0 Hb (D27 6) rfl <| zil X0 Hb (D27 7) rfl ?_
    refine zcy X0 Hb (D27 8) (flt ((by decide) : ¬ ((0 : Int32) < (0 : Int32)))).2.1 31 (by decide) rfl <| zil X0 Hb (D27 19) rfl ?_
    exact k
  exact own_oI X0 Hb Bd.notSynchronized Bd.returns w1 (D27 20) e0 (by decide) (by decide) ⟨(by show some (Value.int (0 : Int32)) = _; simp [own_cp]), N0, rfl⟩
def L26 : List (Nat × Instr × Nat) := [(0, .aload_n 0, 1), (1, .iload_n 1, 1), (2, .iload_n 2, 1), (3, .invokestatic 7, 3), (6, .iload_n 2, 1), (7, .if_icmp .eq 7, 3), (10, .iconst 1, 1), (11, .goto 4, 3), (14, .iconst 0, 1), (15, .ireturn, 1)]
theorem D26 : ∀ k : Nat, own_PP jdk_123_method_2_code L26[k]? := own_dd (by decide +kernel)
theorem pd15 : parseMethodDescriptor "([BII)I" = some ⟨[(.array .byte), .int, .int], some .int⟩ := by decide +kernel
theorem rm26_0 (hw : own_W a0 Z) (b : Addr) (kb : ClassId) {h0 : Heap} {n0 : Nat} (O0 : Old Z n0 h0) (V_b : Arv Z h0 b kb .byte (0 : Int32) [] (.int 0)) : own_M l own_n26 jdk_123_method_2_code 3 (some .boolean) (own_rm 1 0 0 16) Z h0 #[.ref b, .int 0, .int 0] (fun v h L => v = some (.int (own_hn (0 : Int32) [])) ∧ Fr n0 L ∧ h = h0) := by
  refine own_body (L0 := #[.val (.ref b), .val (.int 0), .val (.int 0)]) (plainFor_of_name pn_java_lang_StringCoding) rfl rfl ?_
  intro p e s m below meth c s₁ f0 Bd hx Hb hml hZ hown X0 e0 pre0
  have W := own_q hw
  have N0 := Fr.nil n0
  have O := O0
  obtain ⟨_, T1, Lc1, X1, hQ1, st1⟩ := own_cS X0 Hb hZ hown hml (L := #[.val (.ref b), .val (.int 0), .val (.int 0)]) rfl (rm27_0 hw b kb O V_b) (W 121 rfl) (W 122 rfl) (W 119 rfl) (W 123 rfl) pd15 e0 (D26 3) [.ref b, .int 0, .int 0] [] 0
  obtain ⟨rfl, N1q, eh1⟩ := hQ1
  have N1 := Fr.app N0 N1q
  have w2 : own_Go p e below f0 T1 m 7 #[.val (.ref b), .val (.int 0), .val (.int 0)] [.int 0, .int (own_cp 0 [])] := fun t k => by
    refine pre0 t ?_
    refine zal X0 Hb (D26 0) rfl rfl <| zil X0 Hb (D26 1) rfl <| zil X0 Hb (D26 2) rfl <| st1 _ <| zil X1 Hb (D26 4) rfl ?_
    exact k
  by_cases hc7_3 : (own_cp 0 []) = (0 : Int32)
  · have w4 : own_Go p e below f0 T1 m 15 #[.val (.ref b), .val (.int 0), .val (.int 0)] [.int 0] := fun t k => by
      refine w2 t ?_
      refine zcy X1 Hb (D26 5) (teq hc7_3).1 14 (by decide) rfl <| zic X1 Hb (D26 8) 0 rfl ?_
      exact k
    exact own_oN X1 Hb Bd.notSynchronized Bd.returns (by simp) w4 (D26 9) eh1 (by decide) (by decide) ⟨(by show some (Value.int (0 : Int32)) = _; simp [own_hn, hc7_3]), N1, rfl⟩
  · have w5 : own_Go p e below f0 T1 m 15 #[.val (.ref b), .val (.int 0), .val (.int 0)] [.int 1] := fun t k => by
      refine w2 t ?_
      refine zcn X1 Hb (D26 5) (feq hc7_3).1 <| zic X1 Hb (D26 6) 1 rfl <| zgo X1 Hb (D26 7) 15 (by decide) rfl ?_
      exact k
    exact own_oN X1 Hb Bd.notSynchronized Bd.returns (by simp) w5 (D26 9) eh1 (by decide) (by decide) ⟨(by show some (Value.int (1 : Int32)) = _; simp [own_hn, hc7_3]), N1, rfl⟩
theorem rm27_1 (hw : own_W a0 Z) (b : Addr) (kb : ClassId) (xa : Int32) {h0 : Heap} {n0 : Nat} (O0 : Old Z n0 h0) (V_b : Arv Z h0 b kb .byte (1 : Int32) [.int (StrChars.lo8 xa)] (.int 0)) : own_M l own_n27 jdk_123_method_3_code 5 (some .int) (own_rm 0 0 0 0) Z h0 #[.ref b, .int 0, .int 1] (fun v h L => v = some (.int (own_cp 0 [xa])) ∧ Fr n0 L ∧ h = h0) := by
  refine own_body (L0 := #[.val (.ref b), .val (.int 0), .val (.int 1), .unset, .unset]) (plainFor_of_name pn_java_lang_StringCoding) rfl rfl ?_
  intro p e s m below meth c s₁ f0 Bd hx Hb hml hZ hown X0 e0 pre0
  have N0 := Fr.nil n0
  have O := O0
  have B1 : own_El Z h0 b .byte (0 : Int32) (.int (StrChars.lo8 xa)) := own_el V_b ⟨by decide, by decide⟩ rfl
  have w2 : own_Go p e below f0 s₁ m 17 #[.val (.ref b), .val (.int 0), .val (.int 1), .val (.int 1), .val (.int 0)] [.int (StrChars.lo8 xa)] := fun t k => by
    refine pre0 t ?_
    refine zil X0 Hb (D27 0) rfl <| zil X0 Hb (D27 1) rfl <| zia' X0 Hb (D27 2) 1 rfl <| zis X0 Hb (L' := #[.val (.ref b), .val (.int 0), .val (.int 1), .val (.int 1), .unset]) (D27 3) rfl <| zil X0 Hb (D27 4) rfl <| ziS X0 Hb (D27 5) rfl <| ziL X0 Hb (D27 6) rfl <| zil X0 Hb (D27 7) rfl ?_
    refine zcn X0 Hb (D27 8) (tlt ((by decide) : (0 : Int32) < (1 : Int32))).2.1 <| zal X0 Hb (D27 9) rfl rfl <| ziL X0 Hb (D27 10) rfl <| zba X0 Hb hZ e0 B1 (D27 11) ?_
    exact k
  by_cases hc17_3 : (StrChars.lo8 xa) < (0 : Int32)
  · have w4 : own_Go p e below f0 s₁ m 24 #[.val (.ref b), .val (.int 0), .val (.int 1), .val (.int 1), .val (.int 0)] [.int 0] := fun t k => by
      refine w2 t ?_
      refine zin X0 Hb (D27 12) ((if0 _ _).trans (tlt hc17_3).2.1) <| ziL X0 Hb (D27 13) rfl <| zil X0 Hb (D27 14) rfl <| zsu' X0 Hb (D27 15) 0 rfl ?_
      exact k
    exact own_oI X0 Hb Bd.notSynchronized Bd.returns w4 (D27 16) e0 (by decide) (by decide) ⟨(by show some (Value.int (0 : Int32)) = _; simp [own_cp, hc17_3]), N0, rfl⟩
  · have w5 : own_Go p e below f0 s₁ m 32 #[.val (.ref b), .val (.int 0), .val (.int 1), .val (.int 1), .val (.int 1)] [.int 1] := fun t k => by
      refine w2 t ?_
      refine ziy X0 Hb (D27 12) ((if0 _ _).trans (flt hc17_3).2.1) 25 (by decide) rfl <| zii X0 Hb (D27 17) rfl 1 rfl rfl <| zgo X0 Hb (D27 18) 7 (by decide) rfl <| ziL X0 Hb (D27 6) rfl <| zil X0 Hb (D27 7) rfl <| zcy X0 Hb (D27 8) (flt ((by decide) : ¬ ((1 : Int32) < (1 : Int32)))).2.1 31 (by decide) rfl <| zil X0 Hb (D27 19) rfl ?_
      exact k
    exact own_oI X0 Hb Bd.notSynchronized Bd.returns w5 (D27 20) e0 (by decide) (by decide) ⟨(by show some (Value.int (1 : Int32)) = _; simp [own_cp, hc17_3]), N0, rfl⟩
theorem rm26_1 (hw : own_W a0 Z) (b : Addr) (kb : ClassId) (xa : Int32) {h0 : Heap} {n0 : Nat} (O0 : Old Z n0 h0) (V_b : Arv Z h0 b kb .byte (1 : Int32) [.int (StrChars.lo8 xa)] (.int 0)) : own_M l own_n26 jdk_123_method_2_code 3 (some .boolean) (own_rm 1 0 0 16) Z h0 #[.ref b, .int 0, .int 1] (fun v h L => v = some (.int (own_hn (1 : Int32) [xa])) ∧ Fr n0 L ∧ h = h0) := by
  refine own_body (L0 := #[.val (.ref b), .val (.int 0), .val (.int 1)]) (plainFor_of_name pn_java_lang_StringCoding) rfl rfl ?_
  intro p e s m below meth c s₁ f0 Bd hx Hb hml hZ hown X0 e0 pre0
  have W := own_q hw
  have N0 := Fr.nil n0
  have O := O0
  obtain ⟨_, T1, Lc1, X1, hQ1, st1⟩ := own_cS X0 Hb hZ hown hml (L := #[.val (.ref b), .val (.int 0), .val (.int 1)]) rfl (rm27_1 hw b kb xa O V_b) (W 121 rfl) (W 122 rfl) (W 119 rfl) (W 123 rfl) pd15 e0 (D26 3) [.ref b, .int 0, .int 1] [] 0
  obtain ⟨rfl, N1q, eh1⟩ := hQ1
  have N1 := Fr.app N0 N1q
  have w2 : own_Go p e below f0 T1 m 7 #[.val (.ref b), .val (.int 0), .val (.int 1)] [.int 1, .int (own_cp 0 [xa])] := fun t k => by
    refine pre0 t ?_
    refine zal X0 Hb (D26 0) rfl rfl <| zil X0 Hb (D26 1) rfl <| zil X0 Hb (D26 2) rfl <| st1 _ <| zil X1 Hb (D26 4) rfl ?_
    exact k
  by_cases hc7_3 : (own_cp 0 [xa]) = (1 : Int32)
  · have w4 : own_Go p e below f0 T1 m 15 #[.val (.ref b), .val (.int 0), .val (.int 1)] [.int 0] := fun t k => by
      refine w2 t ?_
      refine zcy X1 Hb (D26 5) (teq hc7_3).1 14 (by decide) rfl <| zic X1 Hb (D26 8) 0 rfl ?_
      exact k
    exact own_oN X1 Hb Bd.notSynchronized Bd.returns (by simp) w4 (D26 9) eh1 (by decide) (by decide) ⟨(by show some (Value.int (0 : Int32)) = _; simp [own_hn, hc7_3]), N1, rfl⟩
  · have w5 : own_Go p e below f0 T1 m 15 #[.val (.ref b), .val (.int 0), .val (.int 1)] [.int 1] := fun t k => by
      refine w2 t ?_
      refine zcn X1 Hb (D26 5) (feq hc7_3).1 <| zic X1 Hb (D26 6) 1 rfl <| zgo X1 Hb (D26 7) 15 (by decide) rfl ?_
      exact k
    exact own_oN X1 Hb Bd.notSynchronized Bd.returns (by simp) w5 (D26 9) eh1 (by decide) (by decide) ⟨(by show some (Value.int (1 : Int32)) = _; simp [own_hn, hc7_3]), N1, rfl⟩
theorem rm27_2 (hw : own_W a0 Z) (b : Addr) (kb : ClassId) (xa xb : Int32) {h0 : Heap} {n0 : Nat} (O0 : Old Z n0 h0) (V_b : Arv Z h0 b kb .byte (2 : Int32) [.int (StrChars.lo8 xa), .int (StrChars.lo8 xb)] (.int 0)) : own_M l own_n27 jdk_123_method_3_code 5 (some .int) (own_rm 0 0 0 0) Z h0 #[.ref b, .int 0, .int 2] (fun v h L => v = some (.int (own_cp 0 [xa, xb])) ∧ Fr n0 L ∧ h = h0) := by
  refine own_body (L0 := #[.val (.ref b), .val (.int 0), .val (.int 2), .unset, .unset]) (plainFor_of_name pn_java_lang_StringCoding) rfl rfl ?_
  intro p e s m below meth c s₁ f0 Bd hx Hb hml hZ hown X0 e0 pre0
  have N0 := Fr.nil n0
  have O := O0
  have B1 : own_El Z h0 b .byte (0 : Int32) (.int (StrChars.lo8 xa)) := own_el V_b ⟨by decide, by decide⟩ rfl
  have w2 : own_Go p e below f0 s₁ m 17 #[.val (.ref b), .val (.int 0), .val (.int 2), .val (.int 2), .val (.int 0)] [.int (StrChars.lo8 xa)] := fun t k => by
    refine pre0 t ?_
    refine zil X0 Hb (D27 0) rfl <| zil X0 Hb (D27 1) rfl <| zia' X0 Hb (D27 2) 2 rfl <| zis X0 Hb (L' := #[.val (.ref b), .val (.int 0), .val (.int 2), .val (.int 2), .unset]) (D27 3) rfl <| zil X0 Hb (D27 4) rfl <| ziS X0 Hb (D27 5) rfl <| ziL X0 Hb (D27 6) rfl <| zil X0 Hb (D27 7) rfl ?_
    refine zcn X0 Hb (D27 8) (tlt ((by decide) : (0 : Int32) < (2 : Int32))).2.1 <| zal X0 Hb (D27 9) rfl rfl <| ziL X0 Hb (D27 10) rfl <| zba X0 Hb hZ e0 B1 (D27 11) ?_
    exact k
  by_cases hc17_3 : (StrChars.lo8 xa) < (0 : Int32)
  · have w4 : own_Go p e below f0 s₁ m 24 #[.val (.ref b), .val (.int 0), .val (.int 2), .val (.int 2), .val (.int 0)] [.int 0] := fun t k => by
      refine w2 t ?_
      refine zin X0 Hb (D27 12) ((if0 _ _).trans (tlt hc17_3).2.1) <| ziL X0 Hb (D27 13) rfl <| zil X0 Hb (D27 14) rfl <| zsu' X0 Hb (D27 15) 0 rfl ?_
      exact k
    exact own_oI X0 Hb Bd.notSynchronized Bd.returns w4 (D27 16) e0 (by decide) (by decide) ⟨(by show some (Value.int (0 : Int32)) = _; simp [own_cp, hc17_3]), N0, rfl⟩
  · have B5 : own_El Z h0 b .byte (1 : Int32) (.int (StrChars.lo8 xb)) := own_el V_b ⟨by decide, by decide⟩ rfl
    have w6 : own_Go p e below f0 s₁ m 17 #[.val (.ref b), .val (.int 0), .val (.int 2), .val (.int 2), .val (.int 1)] [.int (StrChars.lo8 xb)] := fun t k => by
      refine w2 t ?_
      refine ziy X0 Hb (D27 12) ((if0 _ _).trans (flt hc17_3).2.1) 25 (by decide) rfl <| zii X0 Hb (D27 17) rfl 1 rfl rfl <| zgo X0 Hb (D27 18) 7 (by decide) rfl <| ziL X0 Hb (D27 6) rfl <| zil X0 Hb (D27 7) rfl <| zcn X0 Hb (D27 8) (tlt ((by decide) : (1 : Int32) < (2 : Int32))).2.1 <| zal X0 Hb (D27 9) rfl rfl <| ziL X0 Hb (D27 10) rfl ?_
      refine zba X0 Hb hZ e0 B5 (D27 11) ?_
      exact k
    by_cases hc17_7 : (StrChars.lo8 xb) < (0 : Int32)
    · have w8 : own_Go p e below f0 s₁ m 24 #[.val (.ref b), .val (.int 0), .val (.int 2), .val (.int 2), .val (.int 1)] [.int 1] := fun t k => by
        refine w6 t ?_
        refine zin X0 Hb (D27 12) ((if0 _ _).trans (tlt hc17_7).2.1) <| ziL X0 Hb (D27 13) rfl <| zil X0 Hb (D27 14) rfl <| zsu' X0 Hb (D27 15) 1 rfl ?_
        exact k
      exact own_oI X0 Hb Bd.notSynchronized Bd.returns w8 (D27 16) e0 (by decide) (by decide) ⟨(by show some (Value.int (1 : Int32)) = _; simp [own_cp, hc17_3, hc17_7]), N0, rfl⟩
    · have w9 : own_Go p e below f0 s₁ m 32 #[.val (.ref b), .val (.int 0), .val (.int 2), .val (.int 2), .val (.int 2)] [.int 2] := fun t k => by
        refine w6 t ?_
        refine ziy X0 Hb (D27 12) ((if0 _ _).trans (flt hc17_7).2.1) 25 (by decide) rfl <| zii X0 Hb (D27 17) rfl 2 rfl rfl <| zgo X0 Hb (D27 18) 7 (by decide) rfl <| ziL X0 Hb (D27 6) rfl <| zil X0 Hb (D27 7) rfl <| zcy X0 Hb (D27 8) (flt ((by decide) : ¬ ((2 : Int32) < (2 : Int32)))).2.1 31 (by decide) rfl <| zil X0 Hb (D27 19) rfl ?_
        exact k
      exact own_oI X0 Hb Bd.notSynchronized Bd.returns w9 (D27 20) e0 (by decide) (by decide) ⟨(by show some (Value.int (2 : Int32)) = _; simp [own_cp, hc17_3, hc17_7]), N0, rfl⟩
theorem rm26_2 (hw : own_W a0 Z) (b : Addr) (kb : ClassId) (xa xb : Int32) {h0 : Heap} {n0 : Nat} (O0 : Old Z n0 h0) (V_b : Arv Z h0 b kb .byte (2 : Int32) [.int (StrChars.lo8 xa), .int (StrChars.lo8 xb)] (.int 0)) : own_M l own_n26 jdk_123_method_2_code 3 (some .boolean) (own_rm 1 0 0 16) Z h0 #[.ref b, .int 0, .int 2] (fun v h L => v = some (.int (own_hn (2 : Int32) [xa, xb])) ∧ Fr n0 L ∧ h = h0) := by
  refine own_body (L0 := #[.val (.ref b), .val (.int 0), .val (.int 2)]) (plainFor_of_name pn_java_lang_StringCoding) rfl rfl ?_
  intro p e s m below meth c s₁ f0 Bd hx Hb hml hZ hown X0 e0 pre0
  have W := own_q hw
  have N0 := Fr.nil n0
  have O := O0
  obtain ⟨_, T1, Lc1, X1, hQ1, st1⟩ := own_cS X0 Hb hZ hown hml (L := #[.val (.ref b), .val (.int 0), .val (.int 2)]) rfl (rm27_2 hw b kb xa xb O V_b) (W 121 rfl) (W 122 rfl) (W 119 rfl) (W 123 rfl) pd15 e0 (D26 3) [.ref b, .int 0, .int 2] [] 0
  obtain ⟨rfl, N1q, eh1⟩ := hQ1
  have N1 := Fr.app N0 N1q
  have w2 : own_Go p e below f0 T1 m 7 #[.val (.ref b), .val (.int 0), .val (.int 2)] [.int 2, .int (own_cp 0 [xa, xb])] := fun t k => by
    refine pre0 t ?_
    refine zal X0 Hb (D26 0) rfl rfl <| zil X0 Hb (D26 1) rfl <| zil X0 Hb (D26 2) rfl <| st1 _ <| zil X1 Hb (D26 4) rfl ?_
    exact k
  by_cases hc7_3 : (own_cp 0 [xa, xb]) = (2 : Int32)
  · have w4 : own_Go p e below f0 T1 m 15 #[.val (.ref b), .val (.int 0), .val (.int 2)] [.int 0] := fun t k => by
      refine w2 t ?_
      refine zcy X1 Hb (D26 5) (teq hc7_3).1 14 (by decide) rfl <| zic X1 Hb (D26 8) 0 rfl ?_
      exact k
    exact own_oN X1 Hb Bd.notSynchronized Bd.returns (by simp) w4 (D26 9) eh1 (by decide) (by decide) ⟨(by show some (Value.int (0 : Int32)) = _; simp [own_hn, hc7_3]), N1, rfl⟩
  · have w5 : own_Go p e below f0 T1 m 15 #[.val (.ref b), .val (.int 0), .val (.int 2)] [.int 1] := fun t k => by
      refine w2 t ?_
      refine zcn X1 Hb (D26 5) (feq hc7_3).1 <| zic X1 Hb (D26 6) 1 rfl <| zgo X1 Hb (D26 7) 15 (by decide) rfl ?_
      exact k
    exact own_oN X1 Hb Bd.notSynchronized Bd.returns (by simp) w5 (D26 9) eh1 (by decide) (by decide) ⟨(by show some (Value.int (1 : Int32)) = _; simp [own_hn, hc7_3]), N1, rfl⟩
theorem rm27_3 (hw : own_W a0 Z) (b : Addr) (kb : ClassId) (xa xb xc : Int32) {h0 : Heap} {n0 : Nat} (O0 : Old Z n0 h0) (V_b : Arv Z h0 b kb .byte (3 : Int32) [.int (StrChars.lo8 xa), .int (StrChars.lo8 xb), .int (StrChars.lo8 xc)] (.int 0)) : own_M l own_n27 jdk_123_method_3_code 5 (some .int) (own_rm 0 0 0 0) Z h0 #[.ref b, .int 0, .int 3] (fun v h L => v = some (.int (own_cp 0 [xa, xb, xc])) ∧ Fr n0 L ∧ h = h0) := by
  refine own_body (L0 := #[.val (.ref b), .val (.int 0), .val (.int 3), .unset, .unset]) (plainFor_of_name pn_java_lang_StringCoding) rfl rfl ?_
  intro p e s m below meth c s₁ f0 Bd hx Hb hml hZ hown X0 e0 pre0
  have N0 := Fr.nil n0
  have O := O0
  have B1 : own_El Z h0 b .byte (0 : Int32) (.int (StrChars.lo8 xa)) := own_el V_b ⟨by decide, by decide⟩ rfl
  have w2 : own_Go p e below f0 s₁ m 17 #[.val (.ref b), .val (.int 0), .val (.int 3), .val (.int 3), .val (.int 0)] [.int (StrChars.lo8 xa)] := fun t k => by
    refine pre0 t ?_
    refine zil X0 Hb (D27 0) rfl <| zil X0 Hb (D27 1) rfl <| zia' X0 Hb (D27 2) 3 rfl <| zis X0 Hb (L' := #[.val (.ref b), .val (.int 0), .val (.int 3), .val (.int 3), .unset]) (D27 3) rfl <| zil X0 Hb (D27 4) rfl <| ziS X0 Hb (D27 5) rfl <| ziL X0 Hb (D27 6) rfl <| zil X0 Hb (D27 7) rfl ?_
    refine zcn X0 Hb (D27 8) (tlt ((by decide) : (0 : Int32) < (3 : Int32))).2.1 <| zal X0 Hb (D27 9) rfl rfl <| ziL X0 Hb (D27 10) rfl <| zba X0 Hb hZ e0 B1 (D27 11) ?_
    exact k
  by_cases hc17_3 : (StrChars.lo8 xa) < (0 : Int32)
  · have w4 : own_Go p e below f0 s₁ m 24 #[.val (.ref b), .val (.int 0), .val (.int 3), .val (.int 3), .val (.int 0)] [.int 0] := fun t k => by
      refine w2 t ?_
      refine zin X0 Hb (D27 12) ((if0 _ _).trans (tlt hc17_3).2.1) <| ziL X0 Hb (D27 13) rfl <| zil X0 Hb (D27 14) rfl <| zsu' X0 Hb (D27 15) 0 rfl ?_
      exact k
    exact own_oI X0 Hb Bd.notSynchronized Bd.returns w4 (D27 16) e0 (by decide) (by decide) ⟨(by show some (Value.int (0 : Int32)) = _; simp [own_cp, hc17_3]), N0, rfl⟩
  · have B5 : own_El Z h0 b .byte (1 : Int32) (.int (StrChars.lo8 xb)) := own_el V_b ⟨by decide, by decide⟩ rfl
    have w6 : own_Go p e below f0 s₁ m 17 #[.val (.ref b), .val (.int 0), .val (.int 3), .val (.int 3), .val (.int 1)] [.int (StrChars.lo8 xb)] := fun t k => by
      refine w2 t ?_
      refine ziy X0 Hb (D27 12) ((if0 _ _).trans (flt hc17_3).2.1) 25 (by decide) rfl <| zii X0 Hb (D27 17) rfl 1 rfl rfl <| zgo X0 Hb (D27 18) 7 (by decide) rfl <| ziL X0 Hb (D27 6) rfl <| zil X0 Hb (D27 7) rfl <| zcn X0 Hb (D27 8) (tlt ((by decide) : (1 : Int32) < (3 : Int32))).2.1 <| zal X0 Hb (D27 9) rfl rfl <| ziL X0 Hb (D27 10) rfl ?_
      refine zba X0 Hb hZ e0 B5 (D27 11) ?_
      exact k
    by_cases hc17_7 : (StrChars.lo8 xb) < (0 : Int32)
    · have w8 : own_Go p e below f0 s₁ m 24 #[.val (.ref b), .val (.int 0), .val (.int 3), .val (.int 3), .val (.int 1)] [.int 1] := fun t k => by
        refine w6 t ?_
        refine zin X0 Hb (D27 12) ((if0 _ _).trans (tlt hc17_7).2.1) <| ziL X0 Hb (D27 13) rfl <| zil X0 Hb (D27 14) rfl <| zsu' X0 Hb (D27 15) 1 rfl ?_
        exact k
      exact own_oI X0 Hb Bd.notSynchronized Bd.returns w8 (D27 16) e0 (by decide) (by decide) ⟨(by show some (Value.int (1 : Int32)) = _; simp [own_cp, hc17_3, hc17_7]), N0, rfl⟩
    · have B9 : own_El Z h0 b .byte (2 : Int32) (.int (StrChars.lo8 xc)) := own_el V_b ⟨by decide, by decide⟩ rfl
      have w10 : own_Go p e below f0 s₁ m 17 #[.val (.ref b), .val (.int 0), .val (.int 3), .val (.int 3), .val (.int 2)] [.int (StrChars.lo8 xc)] := fun t k => by
        refine w6 t ?_
        refine ziy X0 Hb (D27 12) ((if0 _ _).trans (flt hc17_7).2.1) 25 (by decide) rfl <| zii X0 Hb (D27 17) rfl 2 rfl rfl <| zgo X0 Hb (D27 18) 7 (by decide) rfl <| ziL X0 Hb (D27 6) rfl <| zil X0 Hb (D27 7) rfl <| zcn X0 Hb (D27 8) (tlt ((by decide) : (2 : Int32) < (3 : Int32))).2.1 <| zal X0 Hb (D27 9) rfl rfl <| ziL X0 Hb (D27 10) rfl ?_
        refine zba X0 Hb hZ e0 B9 (D27 11) ?_
        exact k
      by_cases hc17_11 : (StrChars.lo8 xc) < (0 : Int32)
      · have w12 : own_Go p e below f0 s₁ m 24 #[.val (.ref b), .val (.int 0), .val (.int 3), .val (.int 3), .val (.int 2)] [.int 2] := fun t k => by
          refine w10 t ?_
          refine zin X0 Hb (D27 12) ((if0 _ _).trans (tlt hc17_11).2.1) <| ziL X0 Hb (D27 13) rfl <| zil X0 Hb (D27 14) rfl <| zsu' X0 Hb (D27 15) 2 rfl ?_
          exact k
        exact own_oI X0 Hb Bd.notSynchronized Bd.returns w12 (D27 16) e0 (by decide) (by decide) ⟨(by show some (Value.int (2 : Int32)) = _; simp [own_cp, hc17_11, hc17_3, hc17_7]), N0, rfl⟩
      · have w13 : own_Go p e below f0 s₁ m 32 #[.val (.ref b), .val (.int 0), .val (.int 3), .val (.int 3), .val (.int 3)] [.int 3] := fun t k => by
          refine w10 t ?_
          refine ziy X0 Hb (D27 12) ((if0 _ _).trans (flt hc17_11).2.1) 25 (by decide) rfl <| zii X0 Hb (D27 17) rfl 3 rfl rfl <| zgo X0 Hb (D27 18) 7 (by decide) rfl <| ziL X0 Hb (D27 6) rfl <| zil X0 Hb (D27 7) rfl <| zcy X0 Hb (D27 8) (flt ((by decide) : ¬ ((3 : Int32) < (3 : Int32)))).2.1 31 (by decide) rfl <| zil X0 Hb (D27 19) rfl ?_
          exact k
        exact own_oI X0 Hb Bd.notSynchronized Bd.returns w13 (D27 20) e0 (by decide) (by decide) ⟨(by show some (Value.int (3 : Int32)) = _; simp [own_cp, hc17_11, hc17_3, hc17_7]), N0, rfl⟩
theorem rm26_3 (hw : own_W a0 Z) (b : Addr) (kb : ClassId) (xa xb xc : Int32) {h0 : Heap} {n0 : Nat} (O0 : Old Z n0 h0) (V_b : Arv Z h0 b kb .byte (3 : Int32) [.int (StrChars.lo8 xa), .int (StrChars.lo8 xb), .int (StrChars.lo8 xc)] (.int 0)) : own_M l own_n26 jdk_123_method_2_code 3 (some .boolean) (own_rm 1 0 0 16) Z h0 #[.ref b, .int 0, .int 3] (fun v h L => v = some (.int (own_hn (3 : Int32) [xa, xb, xc])) ∧ Fr n0 L ∧ h = h0) := by
  refine own_body (L0 := #[.val (.ref b), .val (.int 0), .val (.int 3)]) (plainFor_of_name pn_java_lang_StringCoding) rfl rfl ?_
  intro p e s m below meth c s₁ f0 Bd hx Hb hml hZ hown X0 e0 pre0
  have W := own_q hw
  have N0 := Fr.nil n0
  have O := O0
  obtain ⟨_, T1, Lc1, X1, hQ1, st1⟩ := own_cS X0 Hb hZ hown hml (L := #[.val (.ref b), .val (.int 0), .val (.int 3)]) rfl (rm27_3 hw b kb xa xb xc O V_b) (W 121 rfl) (W 122 rfl) (W 119 rfl) (W 123 rfl) pd15 e0 (D26 3) [.ref b, .int 0, .int 3] [] 0
  obtain ⟨rfl, N1q, eh1⟩ := hQ1
  have N1 := Fr.app N0 N1q
  have w2 : own_Go p e below f0 T1 m 7 #[.val (.ref b), .val (.int 0), .val (.int 3)] [.int 3, .int (own_cp 0 [xa, xb, xc])] := fun t k => by
    refine pre0 t ?_
    refine zal X0 Hb (D26 0) rfl rfl <| zil X0 Hb (D26 1) rfl <| zil X0 Hb (D26 2) rfl <| st1 _ <| zil X1 Hb (D26 4) rfl ?_
    exact k
  by_cases hc7_3 : (own_cp 0 [xa, xb, xc]) = (3 : Int32)
  · have w4 : own_Go p e below f0 T1 m 15 #[.val (.ref b), .val (.int 0), .val (.int 3)] [.int 0] := fun t k => by
      refine w2 t ?_
      refine zcy X1 Hb (D26 5) (teq hc7_3).1 14 (by decide) rfl <| zic X1 Hb (D26 8) 0 rfl ?_
      exact k
    exact own_oN X1 Hb Bd.notSynchronized Bd.returns (by simp) w4 (D26 9) eh1 (by decide) (by decide) ⟨(by show some (Value.int (0 : Int32)) = _; simp [own_hn, hc7_3]), N1, rfl⟩
  · have w5 : own_Go p e below f0 T1 m 15 #[.val (.ref b), .val (.int 0), .val (.int 3)] [.int 1] := fun t k => by
      refine w2 t ?_
      refine zcn X1 Hb (D26 5) (feq hc7_3).1 <| zic X1 Hb (D26 6) 1 rfl <| zgo X1 Hb (D26 7) 15 (by decide) rfl ?_
      exact k
    exact own_oN X1 Hb Bd.notSynchronized Bd.returns (by simp) w5 (D26 9) eh1 (by decide) (by decide) ⟨(by show some (Value.int (1 : Int32)) = _; simp [own_hn, hc7_3]), N1, rfl⟩
def L25 : List (Nat × Instr × Nat) := [(0, .iload_n 0, 1), (1, .iconst 1, 1), (2, .if_icmp .ne 9, 3), (5, .aload_n 1, 1), (6, .iload_n 2, 1), (7, .invokestatic 473, 3), (10, .areturn, 1), (11, .aload_n 1, 1), (12, .iconst 0, 1), (13, .aload_n 1, 1), (14, .arraylength, 1), (15, .invokestatic 128, 3), (18, .ifCond .ne 11, 3), (21, .aload_n 1, 1), (22, .invokevirtual 279, 3), (25, .checkcast 280, 3), (28, .areturn, 1), (29, .iconst 0, 1), (30, .istore_n 3, 1), (31, .aload_n 1, 1), (32, .arraylength, 1), (33, .invokestatic 60, 3), (36, .astore 4, 2), (38, .aload_n 1, 1), (39, .astore 5, 2), (41, .aload 5, 2), (43, .arraylength, 1), (44, .istore 6, 2), (46, .iconst 0, 1), (47, .istore 7, 2), (49, .iload 7, 2), (51, .iload 6, 2), (53, .if_icmp .ge 71, 3), (56, .aload 5, 2), (58, .iload 7, 2), (60, .baload, 1), (61, .istore 8, 2), (63, .iload 8, 2), (65, .ifCond .ge 44, 3), (68, .aload 4, 2), (70, .iload_n 3, 1), (71, .iinc 3 1, 3), (74, .sipush 192, 3), (77, .iload 8, 2), (79, .sipush 255, 3), (82, .iand, 1), (83, .bipush 6, 2), (85, .ishr, 1), (86, .ior, 1), (87, .i2b, 1), (88, .bastore, 1), (89, .aload 4, 2), (91, .iload_n 3, 1), (92, .iinc 3 1, 3), (95, .sipush 128, 3), (98, .iload 8, 2), (100, .bipush 63, 2), (102, .iand, 1), (103, .ior, 1), (104, .i2b, 1), (105, .bastore, 1), (106, .goto 12, 3), (109, .aload 4, 2), (111, .iload_n 3, 1), (112, .iinc 3 1, 3), (115, .iload 8, 2), (117, .bastore, 1), (118, .iinc 7 1, 3), (121, .goto (-72), 3), (124, .iload_n 3, 1), (125, .aload 4, 2), (127, .arraylength, 1), (128, .if_icmp .ne 6, 3), (131, .aload 4, 2), (133, .areturn, 1), (134, .aload 4, 2), (136, .iload_n 3, 1), (137, .invokestatic 102, 3), (140, .areturn, 1)]
theorem D25 : ∀ k : Nat, own_PP jdk_42_method_46_code L25[k]? := own_dd (by decide +kernel)
def own_F13 (x0 : Int32) (x1 : Addr) (x2 : Int32) (x3 : Int32) (x4 : Addr) (x5 : Addr) (x6 : Int32) (x7 : Int32) (x8 : Int32) : Array Slot := #[.val (.int x0), .val (.ref x1), .val (.int x2), .val (.int x3), .val (.ref x4), .val (.ref x5), .val (.int x6), .val (.int x7), .val (.int x8)]
def own_F14 (x0 : Int32) (x1 : Addr) (x2 : Int32) (x3 : Int32) (x4 : Addr) (x5 : Addr) (x6 : Int32) (x7 : Int32) : Array Slot := #[.val (.int x0), .val (.ref x1), .val (.int x2), .val (.int x3), .val (.ref x4), .val (.ref x5), .val (.int x6), .val (.int x7), .unset]
theorem fr25_0 {p : Program} {e : Env} {R : Room} {s : State} {m : MethodId} {args : Array Value} {below : List Frame} {meth : Method} {c : Code} {T f0 : State} {locs : List Loc} {cells slots : Nat} (hw : own_W a0 Z) (b : Addr) (kb : ClassId) (nn xx : Int32) (rl : List Value) (d : Addr) (kd : ClassId) (nd pp mm : Int32) (bs : List Value) (rr nD : Nat) {h0 : Heap} {n0 : Nat} (X0 : Stand p l e R s m args below meth c T locs cells slots) (hx : p.tables.exec = Jvm.exec) (Hb : own_H p c jdk_42_method_46_code) (hZ : Z.Warmed39 s.vm) (hown : s.vm.findClass own_n25.cls = some m.cls) (hml : c.maxLocals = 9) (hR : 0 ≤ R.frames ∧ 0 ≤ R.locals ∧ cells ≤ R.cells ∧ slots ≤ R.slots) (e0 : T.heap = h0) (N0 : Fr n0 locs) (O : Old Z n0 h0) (V_b : Arv Z h0 b kb .byte nn ((.int (StrChars.lo8 xx)) :: rl) (.int 0)) (V_d : Arv Z h0 d kd .byte nd (bs ++ List.replicate (rr + 2) (.int 0)) (.int 0)) (nbd : b ≠ d) (hj1 : (0 : Int32) < nn) (hlt : (0 : Int32) < mm) (hp : pp = Int32.ofNat bs.length) (hr : bs.length + (rr + 2) = nD) (hn : nd = Int32.ofNat nD) (hbb : nD ≤ 12) (h8 : own_B8 xx) (g_d : n0 ≤ d) (pre0 : own_Go p e below f0 T m 49 (own_F14 (0 : Int32) b (1 : Int32) pp d b mm (0 : Int32)) []) : ∃ (T' : State) (L' : List Loc) (pq : Int32) (r2 : Nat), Stand p l e R s m args below meth c T' L' cells slots ∧ Fr n0 L' ∧ Keep h0 T'.heap [d] ∧ Arv Z T'.heap d kd .byte nd ((bs ++ own_e1 xx) ++ List.replicate r2 (.int 0)) (.int 0) ∧ pq = Int32.ofNat (bs ++ own_e1 xx).length ∧ (bs ++ own_e1 xx).length + r2 = nD ∧ rr ≤ r2 ∧ own_Go p e below f0 T' m 49 (own_F13 (0 : Int32) b (1 : Int32) pq d b mm (1 : Int32) (StrChars.lo8 xx)) [] := by
  have hby := Hb.2
  have W := own_q hw
  have K := Keep.refl h0 [d]
  have B1 : own_El Z h0 b .byte (0 : Int32) (.int (StrChars.lo8 xx)) := own_el V_b ⟨by decide, hj1⟩ rfl
  have w2 : own_Go p e below f0 T m 65 (own_F13 (0 : Int32) b (1 : Int32) pp d b mm (0 : Int32) (StrChars.lo8 xx)) [.int (StrChars.lo8 xx)] := fun t k => by
    refine pre0 t ?_
    refine ziL X0 Hb (D25 30) rfl <| ziL X0 Hb (D25 31) rfl <| zcn X0 Hb (D25 32) (tlt (hlt : (0 : Int32) < mm)).2.1 <| zaL X0 Hb (D25 33) rfl rfl <| ziL X0 Hb (D25 34) rfl <| zba X0 Hb hZ e0 B1 (D25 35) <| ziS X0 Hb (L' := (own_F13 (0 : Int32) b (1 : Int32) pp d b mm (0 : Int32) (StrChars.lo8 xx))) (D25 36) rfl <| ziL X0 Hb (D25 37) rfl ?_
    exact k
  by_cases hc65_3 : (StrChars.lo8 xx) < (0 : Int32)
  · obtain ⟨T4, h4, X4, e4, W4, V_d, st4⟩ := own_sB X0 Hb hZ e0 V_d (x := (((192 : Int32) ||| (((StrChars.lo8 xx) &&& (255 : Int32)) >>> ((6 : Int32) &&& 31))).toInt8.toInt32)) (L := (own_F13 (0 : Int32) b (1 : Int32) (pp + (1 : Int32)) d b mm (0 : Int32) (StrChars.lo8 xx))) (S := []) (own_gj hp hr hn hbb) (own_gi hp hr hbb) (own_pl _ _ _) (D25 50) (own_pv _ _ _ _)
    have V_b := V_b.other W4 nbd
    have O := O.wr W4 g_d
    have K := K.wr W4 (Or.inl (List.mem_of_getElem? (i := 0) rfl))
    have N4 := Fr.snoc X4 N0 g_d
    obtain ⟨T5, h5, X5, e5, W5, V_d, st5⟩ := own_sB X4 Hb hZ e4 V_d (x := (((128 : Int32) ||| ((StrChars.lo8 xx) &&& (63 : Int32))).toInt8.toInt32)) (L := (own_F13 (0 : Int32) b (1 : Int32) ((pp + (1 : Int32)) + (1 : Int32)) d b mm (0 : Int32) (StrChars.lo8 xx))) (S := []) (own_gj (own_ps (Value.int ((((192 : Int32) ||| (((StrChars.lo8 xx) &&& (255 : Int32)) >>> ((6 : Int32) &&& 31))).toInt8.toInt32).toInt8.toInt32)) hp) (own_gr _ hr) hn hbb) (own_gi (own_ps (Value.int ((((192 : Int32) ||| (((StrChars.lo8 xx) &&& (255 : Int32)) >>> ((6 : Int32) &&& 31))).toInt8.toInt32).toInt8.toInt32)) hp) (own_gr _ hr) hbb) (own_pl _ _ _) (D25 60) (own_pv _ _ _ _)
    have V_b := V_b.other W5 nbd
    have O := O.wr W5 g_d
    have K := K.wr W5 (Or.inl (List.mem_of_getElem? (i := 0) rfl))
    have N5 := Fr.snoc X5 N4 g_d
    have w6 : own_Go p e below f0 T5 m 49 (own_F13 (0 : Int32) b (1 : Int32) ((pp + (1 : Int32)) + (1 : Int32)) d b mm (1 : Int32) (StrChars.lo8 xx)) [] := fun t k => by
      refine w2 t ?_
      refine zin X0 Hb (D25 38) ((if0 _ _).trans (tlt hc65_3).2.1) <| zaL X0 Hb (D25 39) rfl rfl <| zil X0 Hb (D25 40) rfl <| zii X0 Hb (L' := (own_F13 (0 : Int32) b (1 : Int32) (pp + (1 : Int32)) d b mm (0 : Int32) (StrChars.lo8 xx))) (D25 41) rfl (pp + (1 : Int32)) rfl rfl <| zsp X0 Hb (D25 42) 192 rfl <| ziL X0 Hb (D25 43) rfl <| zsp X0 Hb (D25 44) 255 rfl <| zan X0 Hb (D25 45) ?_
      refine zbp X0 Hb (D25 46) 6 rfl <| zsr X0 Hb (D25 47) <| zor X0 Hb (D25 48) <| zib X0 Hb (D25 49) <| st4 _ <| zaL X4 Hb (D25 51) rfl rfl <| zil X4 Hb (D25 52) rfl <| zii X4 Hb (D25 53) rfl ((pp + (1 : Int32)) + (1 : Int32)) rfl rfl ?_
      refine zsp X4 Hb (D25 54) 128 rfl <| ziL X4 Hb (D25 55) rfl <| zbp X4 Hb (D25 56) 63 rfl <| zan X4 Hb (D25 57) <| zor X4 Hb (D25 58) <| zib X4 Hb (D25 59) <| st5 _ <| zgo X5 Hb (D25 61) 118 (by decide) rfl ?_
      refine zii X5 Hb (D25 67) rfl 1 rfl rfl <| zgo X5 Hb (D25 68) 49 (by decide) rfl ?_
      exact k
    have hx1 := h8.1.mp hc65_3
    have hbs : bs ++ own_e1 xx = ((bs ++ [Value.int ((((192 : Int32) ||| (((StrChars.lo8 xx) &&& (255 : Int32)) >>> ((6 : Int32) &&& 31))).toInt8.toInt32).toInt8.toInt32)]) ++ [Value.int ((((128 : Int32) ||| ((StrChars.lo8 xx) &&& (63 : Int32))).toInt8.toInt32).toInt8.toInt32)]) := (by rw [own_eb hx1 h8.2.1, (h8.2.2 hx1).1, (h8.2.2 hx1).2, own_a2]; rfl)
    exact ⟨T5, _, ((pp + (1 : Int32)) + (1 : Int32)), rr, X5, N5, by rw [e5]; exact K, by rw [e5]; exact (by rw [hbs]; exact V_d), (by rw [hbs]; exact (own_ps (Value.int ((((128 : Int32) ||| ((StrChars.lo8 xx) &&& (63 : Int32))).toInt8.toInt32).toInt8.toInt32)) (own_ps (Value.int ((((192 : Int32) ||| (((StrChars.lo8 xx) &&& (255 : Int32)) >>> ((6 : Int32) &&& 31))).toInt8.toInt32).toInt8.toInt32)) hp))), (by rw [hbs]; exact (own_gr _ (own_gr _ hr))), (by omega), w6⟩
  · obtain ⟨T7, h7, X7, e7, W7, V_d, st7⟩ := own_sB X0 Hb hZ e0 V_d (x := (StrChars.lo8 xx)) (L := (own_F13 (0 : Int32) b (1 : Int32) (pp + (1 : Int32)) d b mm (0 : Int32) (StrChars.lo8 xx))) (S := []) (own_gj hp hr hn hbb) (own_gi hp hr hbb) (own_pl _ _ _) (D25 66) (own_pv _ _ _ _)
    have V_b := V_b.other W7 nbd
    have O := O.wr W7 g_d
    have K := K.wr W7 (Or.inl (List.mem_of_getElem? (i := 0) rfl))
    have N7 := Fr.snoc X7 N0 g_d
    have w8 : own_Go p e below f0 T7 m 49 (own_F13 (0 : Int32) b (1 : Int32) (pp + (1 : Int32)) d b mm (1 : Int32) (StrChars.lo8 xx)) [] := fun t k => by
      refine w2 t ?_
      refine ziy X0 Hb (D25 38) ((if0 _ _).trans (flt hc65_3).2.1) 109 (by decide) rfl <| zaL X0 Hb (D25 62) rfl rfl <| zil X0 Hb (D25 63) rfl <| zii X0 Hb (L' := (own_F13 (0 : Int32) b (1 : Int32) (pp + (1 : Int32)) d b mm (0 : Int32) (StrChars.lo8 xx))) (D25 64) rfl (pp + (1 : Int32)) rfl rfl <| ziL X0 Hb (D25 65) rfl <| st7 _ <| zii X7 Hb (L' := (own_F13 (0 : Int32) b (1 : Int32) (pp + (1 : Int32)) d b mm (1 : Int32) (StrChars.lo8 xx))) (D25 67) rfl 1 rfl rfl <| zgo X7 Hb (D25 68) 49 (by decide) rfl ?_
      exact k
    have hx1 : xx < (128 : Int32) := Decidable.byContradiction fun q => hc65_3 (h8.1.mpr q)
    have hbs : bs ++ own_e1 xx = (bs ++ [Value.int ((StrChars.lo8 xx).toInt8.toInt32)]) := (by rw [own_ea hx1]; rfl)
    exact ⟨T7, _, (pp + (1 : Int32)), (rr + 1), X7, N7, by rw [e7]; exact K, by rw [e7]; exact (by rw [hbs]; exact V_d), (by rw [hbs]; exact (own_ps (Value.int ((StrChars.lo8 xx).toInt8.toInt32)) hp)), (by rw [hbs]; exact (own_gr _ hr)), (by omega), w8⟩
theorem fr25_1 {p : Program} {e : Env} {R : Room} {s : State} {m : MethodId} {args : Array Value} {below : List Frame} {meth : Method} {c : Code} {T f0 : State} {locs : List Loc} {cells slots : Nat} (hw : own_W a0 Z) (b : Addr) (kb : ClassId) (nn ua xx : Int32) (rl : List Value) (d : Addr) (kd : ClassId) (nd pp mm : Int32) (bs : List Value) (rr nD : Nat) (c8 : Int32) {h0 : Heap} {n0 : Nat} (X0 : Stand p l e R s m args below meth c T locs cells slots) (hx : p.tables.exec = Jvm.exec) (Hb : own_H p c jdk_42_method_46_code) (hZ : Z.Warmed39 s.vm) (hown : s.vm.findClass own_n25.cls = some m.cls) (hml : c.maxLocals = 9) (hR : 0 ≤ R.frames ∧ 0 ≤ R.locals ∧ cells ≤ R.cells ∧ slots ≤ R.slots) (e0 : T.heap = h0) (N0 : Fr n0 locs) (O : Old Z n0 h0) (V_b : Arv Z h0 b kb .byte nn ((.int ua) :: (.int (StrChars.lo8 xx)) :: rl) (.int 0)) (V_d : Arv Z h0 d kd .byte nd (bs ++ List.replicate (rr + 2) (.int 0)) (.int 0)) (nbd : b ≠ d) (hj1 : (1 : Int32) < nn) (hlt : (1 : Int32) < mm) (hp : pp = Int32.ofNat bs.length) (hr : bs.length + (rr + 2) = nD) (hn : nd = Int32.ofNat nD) (hbb : nD ≤ 12) (h8 : own_B8 xx) (g_d : n0 ≤ d) (pre0 : own_Go p e below f0 T m 49 (own_F13 (0 : Int32) b (1 : Int32) pp d b mm (1 : Int32) c8) []) : ∃ (T' : State) (L' : List Loc) (pq : Int32) (r2 : Nat), Stand p l e R s m args below meth c T' L' cells slots ∧ Fr n0 L' ∧ Keep h0 T'.heap [d] ∧ Arv Z T'.heap d kd .byte nd ((bs ++ own_e1 xx) ++ List.replicate r2 (.int 0)) (.int 0) ∧ pq = Int32.ofNat (bs ++ own_e1 xx).length ∧ (bs ++ own_e1 xx).length + r2 = nD ∧ rr ≤ r2 ∧ own_Go p e below f0 T' m 49 (own_F13 (0 : Int32) b (1 : Int32) pq d b mm (2 : Int32) (StrChars.lo8 xx)) [] := by
  have hby := Hb.2
  have W := own_q hw
  have K := Keep.refl h0 [d]
  have B1 : own_El Z h0 b .byte (1 : Int32) (.int (StrChars.lo8 xx)) := own_el V_b ⟨by decide, hj1⟩ rfl
  have w2 : own_Go p e below f0 T m 65 (own_F13 (0 : Int32) b (1 : Int32) pp d b mm (1 : Int32) (StrChars.lo8 xx)) [.int (StrChars.lo8 xx)] := fun t k => by
    refine pre0 t ?_
    refine ziL X0 Hb (D25 30) rfl <| ziL X0 Hb (D25 31) rfl <| zcn X0 Hb (D25 32) (tlt (hlt : (1 : Int32) < mm)).2.1 <| zaL X0 Hb (D25 33) rfl rfl <| ziL X0 Hb (D25 34) rfl <| zba X0 Hb hZ e0 B1 (D25 35) <| ziS X0 Hb (L' := (own_F13 (0 : Int32) b (1 : Int32) pp d b mm (1 : Int32) (StrChars.lo8 xx))) (D25 36) rfl <| ziL X0 Hb (D25 37) rfl ?_
    exact k
  by_cases hc65_3 : (StrChars.lo8 xx) < (0 : Int32)
  · obtain ⟨T4, h4, X4, e4, W4, V_d, st4⟩ := own_sB X0 Hb hZ e0 V_d (x := (((192 : Int32) ||| (((StrChars.lo8 xx) &&& (255 : Int32)) >>> ((6 : Int32) &&& 31))).toInt8.toInt32)) (L := (own_F13 (0 : Int32) b (1 : Int32) (pp + (1 : Int32)) d b mm (1 : Int32) (StrChars.lo8 xx))) (S := []) (own_gj hp hr hn hbb) (own_gi hp hr hbb) (own_pl _ _ _) (D25 50) (own_pv _ _ _ _)
    have V_b := V_b.other W4 nbd
    have O := O.wr W4 g_d
    have K := K.wr W4 (Or.inl (List.mem_of_getElem? (i := 0) rfl))
    have N4 := Fr.snoc X4 N0 g_d
    obtain ⟨T5, h5, X5, e5, W5, V_d, st5⟩ := own_sB X4 Hb hZ e4 V_d (x := (((128 : Int32) ||| ((StrChars.lo8 xx) &&& (63 : Int32))).toInt8.toInt32)) (L := (own_F13 (0 : Int32) b (1 : Int32) ((pp + (1 : Int32)) + (1 : Int32)) d b mm (1 : Int32) (StrChars.lo8 xx))) (S := []) (own_gj (own_ps (Value.int ((((192 : Int32) ||| (((StrChars.lo8 xx) &&& (255 : Int32)) >>> ((6 : Int32) &&& 31))).toInt8.toInt32).toInt8.toInt32)) hp) (own_gr _ hr) hn hbb) (own_gi (own_ps (Value.int ((((192 : Int32) ||| (((StrChars.lo8 xx) &&& (255 : Int32)) >>> ((6 : Int32) &&& 31))).toInt8.toInt32).toInt8.toInt32)) hp) (own_gr _ hr) hbb) (own_pl _ _ _) (D25 60) (own_pv _ _ _ _)
    have V_b := V_b.other W5 nbd
    have O := O.wr W5 g_d
    have K := K.wr W5 (Or.inl (List.mem_of_getElem? (i := 0) rfl))
    have N5 := Fr.snoc X5 N4 g_d
    have w6 : own_Go p e below f0 T5 m 49 (own_F13 (0 : Int32) b (1 : Int32) ((pp + (1 : Int32)) + (1 : Int32)) d b mm (2 : Int32) (StrChars.lo8 xx)) [] := fun t k => by
      refine w2 t ?_
      refine zin X0 Hb (D25 38) ((if0 _ _).trans (tlt hc65_3).2.1) <| zaL X0 Hb (D25 39) rfl rfl <| zil X0 Hb (D25 40) rfl <| zii X0 Hb (L' := (own_F13 (0 : Int32) b (1 : Int32) (pp + (1 : Int32)) d b mm (1 : Int32) (StrChars.lo8 xx))) (D25 41) rfl (pp + (1 : Int32)) rfl rfl <| zsp X0 Hb (D25 42) 192 rfl <| ziL X0 Hb (D25 43) rfl <| zsp X0 Hb (D25 44) 255 rfl <| zan X0 Hb (D25 45) ?_
      refine zbp X0 Hb (D25 46) 6 rfl <| zsr X0 Hb (D25 47) <| zor X0 Hb (D25 48) <| zib X0 Hb (D25 49) <| st4 _ <| zaL X4 Hb (D25 51) rfl rfl <| zil X4 Hb (D25 52) rfl <| zii X4 Hb (D25 53) rfl ((pp + (1 : Int32)) + (1 : Int32)) rfl rfl ?_
      refine zsp X4 Hb (D25 54) 128 rfl <| ziL X4 Hb (D25 55) rfl <| zbp X4 Hb (D25 56) 63 rfl <| zan X4 Hb (D25 57) <| zor X4 Hb (D25 58) <| zib X4 Hb (D25 59) <| st5 _ <| zgo X5 Hb (D25 61) 118 (by decide) rfl ?_
      refine zii X5 Hb (D25 67) rfl 2 rfl rfl <| zgo X5 Hb (D25 68) 49 (by decide) rfl ?_
      exact k
    have hx1 := h8.1.mp hc65_3
    have hbs : bs ++ own_e1 xx = ((bs ++ [Value.int ((((192 : Int32) ||| (((StrChars.lo8 xx) &&& (255 : Int32)) >>> ((6 : Int32) &&& 31))).toInt8.toInt32).toInt8.toInt32)]) ++ [Value.int ((((128 : Int32) ||| ((StrChars.lo8 xx) &&& (63 : Int32))).toInt8.toInt32).toInt8.toInt32)]) := (by rw [own_eb hx1 h8.2.1, (h8.2.2 hx1).1, (h8.2.2 hx1).2, own_a2]; rfl)
    exact ⟨T5, _, ((pp + (1 : Int32)) + (1 : Int32)), rr, X5, N5, by rw [e5]; exact K, by rw [e5]; exact (by rw [hbs]; exact V_d), (by rw [hbs]; exact (own_ps (Value.int ((((128 : Int32) ||| ((StrChars.lo8 xx) &&& (63 : Int32))).toInt8.toInt32).toInt8.toInt32)) (own_ps (Value.int ((((192 : Int32) ||| (((StrChars.lo8 xx) &&& (255 : Int32)) >>> ((6 : Int32) &&& 31))).toInt8.toInt32).toInt8.toInt32)) hp))), (by rw [hbs]; exact (own_gr _ (own_gr _ hr))), (by omega), w6⟩
  · obtain ⟨T7, h7, X7, e7, W7, V_d, st7⟩ := own_sB X0 Hb hZ e0 V_d (x := (StrChars.lo8 xx)) (L := (own_F13 (0 : Int32) b (1 : Int32) (pp + (1 : Int32)) d b mm (1 : Int32) (StrChars.lo8 xx))) (S := []) (own_gj hp hr hn hbb) (own_gi hp hr hbb) (own_pl _ _ _) (D25 66) (own_pv _ _ _ _)
    have V_b := V_b.other W7 nbd
    have O := O.wr W7 g_d
    have K := K.wr W7 (Or.inl (List.mem_of_getElem? (i := 0) rfl))
    have N7 := Fr.snoc X7 N0 g_d
    have w8 : own_Go p e below f0 T7 m 49 (own_F13 (0 : Int32) b (1 : Int32) (pp + (1 : Int32)) d b mm (2 : Int32) (StrChars.lo8 xx)) [] := fun t k => by
      refine w2 t ?_
      refine ziy X0 Hb (D25 38) ((if0 _ _).trans (flt hc65_3).2.1) 109 (by decide) rfl <| zaL X0 Hb (D25 62) rfl rfl <| zil X0 Hb (D25 63) rfl <| zii X0 Hb (L' := (own_F13 (0 : Int32) b (1 : Int32) (pp + (1 : Int32)) d b mm (1 : Int32) (StrChars.lo8 xx))) (D25 64) rfl (pp + (1 : Int32)) rfl rfl <| ziL X0 Hb (D25 65) rfl <| st7 _ <| zii X7 Hb (L' := (own_F13 (0 : Int32) b (1 : Int32) (pp + (1 : Int32)) d b mm (2 : Int32) (StrChars.lo8 xx))) (D25 67) rfl 2 rfl rfl <| zgo X7 Hb (D25 68) 49 (by decide) rfl ?_
      exact k
    have hx1 : xx < (128 : Int32) := Decidable.byContradiction fun q => hc65_3 (h8.1.mpr q)
    have hbs : bs ++ own_e1 xx = (bs ++ [Value.int ((StrChars.lo8 xx).toInt8.toInt32)]) := (by rw [own_ea hx1]; rfl)
    exact ⟨T7, _, (pp + (1 : Int32)), (rr + 1), X7, N7, by rw [e7]; exact K, by rw [e7]; exact (by rw [hbs]; exact V_d), (by rw [hbs]; exact (own_ps (Value.int ((StrChars.lo8 xx).toInt8.toInt32)) hp)), (by rw [hbs]; exact (own_gr _ hr)), (by omega), w8⟩
theorem fr25_2 {p : Program} {e : Env} {R : Room} {s : State} {m : MethodId} {args : Array Value} {below : List Frame} {meth : Method} {c : Code} {T f0 : State} {locs : List Loc} {cells slots : Nat} (hw : own_W a0 Z) (b : Addr) (kb : ClassId) (nn ua ub xx : Int32) (rl : List Value) (d : Addr) (kd : ClassId) (nd pp mm : Int32) (bs : List Value) (rr nD : Nat) (c8 : Int32) {h0 : Heap} {n0 : Nat} (X0 : Stand p l e R s m args below meth c T locs cells slots) (hx : p.tables.exec = Jvm.exec) (Hb : own_H p c jdk_42_method_46_code) (hZ : Z.Warmed39 s.vm) (hown : s.vm.findClass own_n25.cls = some m.cls) (hml : c.maxLocals = 9) (hR : 0 ≤ R.frames ∧ 0 ≤ R.locals ∧ cells ≤ R.cells ∧ slots ≤ R.slots) (e0 : T.heap = h0) (N0 : Fr n0 locs) (O : Old Z n0 h0) (V_b : Arv Z h0 b kb .byte nn ((.int ua) :: (.int ub) :: (.int (StrChars.lo8 xx)) :: rl) (.int 0)) (V_d : Arv Z h0 d kd .byte nd (bs ++ List.replicate (rr + 2) (.int 0)) (.int 0)) (nbd : b ≠ d) (hj1 : (2 : Int32) < nn) (hlt : (2 : Int32) < mm) (hp : pp = Int32.ofNat bs.length) (hr : bs.length + (rr + 2) = nD) (hn : nd = Int32.ofNat nD) (hbb : nD ≤ 12) (h8 : own_B8 xx) (g_d : n0 ≤ d) (pre0 : own_Go p e below f0 T m 49 (own_F13 (0 : Int32) b (1 : Int32) pp d b mm (2 : Int32) c8) []) : ∃ (T' : State) (L' : List Loc) (pq : Int32) (r2 : Nat), Stand p l e R s m args below meth c T' L' cells slots ∧ Fr n0 L' ∧ Keep h0 T'.heap [d] ∧ Arv Z T'.heap d kd .byte nd ((bs ++ own_e1 xx) ++ List.replicate r2 (.int 0)) (.int 0) ∧ pq = Int32.ofNat (bs ++ own_e1 xx).length ∧ (bs ++ own_e1 xx).length + r2 = nD ∧ rr ≤ r2 ∧ own_Go p e below f0 T' m 49 (own_F13 (0 : Int32) b (1 : Int32) pq d b mm (3 : Int32) (StrChars.lo8 xx)) [] := by
  have hby := Hb.2
  have W := own_q hw
  have K := Keep.refl h0 [d]
  have B1 : own_El Z h0 b .byte (2 : Int32) (.int (StrChars.lo8 xx)) := own_el V_b ⟨by decide, hj1⟩ rfl
  have w2 : own_Go p e below f0 T m 65 (own_F13 (0 : Int32) b (1 : Int32) pp d b mm (2 : Int32) (StrChars.lo8 xx)) [.int (StrChars.lo8 xx)] := fun t k => by
    refine pre0 t ?_
    refine ziL X0 Hb (D25 30) rfl <| ziL X0 Hb (D25 31) rfl <| zcn X0 Hb (D25 32) (tlt (hlt : (2 : Int32) < mm)).2.1 <| zaL X0 Hb (D25 33) rfl rfl <| ziL X0 Hb (D25 34) rfl <| zba X0 Hb hZ e0 B1 (D25 35) <| ziS X0 Hb (L' := (own_F13 (0 : Int32) b (1 : Int32) pp d b mm (2 : Int32) (StrChars.lo8 xx))) (D25 36) rfl <| ziL X0 Hb (D25 37) rfl ?_
    exact k
  by_cases hc65_3 : (StrChars.lo8 xx) < (0 : Int32)
  · obtain ⟨T4, h4, X4, e4, W4, V_d, st4⟩ := own_sB X0 Hb hZ e0 V_d (x := (((192 : Int32) ||| (((StrChars.lo8 xx) &&& (255 : Int32)) >>> ((6 : Int32) &&& 31))).toInt8.toInt32)) (L := (own_F13 (0 : Int32) b (1 : Int32) (pp + (1 : Int32)) d b mm (2 : Int32) (StrChars.lo8 xx))) (S := []) (own_gj hp hr hn hbb) (own_gi hp hr hbb) (own_pl _ _ _) (D25 50) (own_pv _ _ _ _)
    have V_b := V_b.other W4 nbd
    have O := O.wr W4 g_d
    have K := K.wr W4 (Or.inl (List.mem_of_getElem? (i := 0) rfl))
    have N4 := Fr.snoc X4 N0 g_d
    obtain ⟨T5, h5, X5, e5, W5, V_d, st5⟩ := own_sB X4 Hb hZ e4 V_d (x := (((128 : Int32) ||| ((StrChars.lo8 xx) &&& (63 : Int32))).toInt8.toInt32)) (L := (own_F13 (0 : Int32) b (1 : Int32) ((pp + (1 : Int32)) + (1 : Int32)) d b mm (2 : Int32) (StrChars.lo8 xx))) (S := []) (own_gj (own_ps (Value.int ((((192 : Int32) ||| (((StrChars.lo8 xx) &&& (255 : Int32)) >>> ((6 : Int32) &&& 31))).toInt8.toInt32).toInt8.toInt32)) hp) (own_gr _ hr) hn hbb) (own_gi (own_ps (Value.int ((((192 : Int32) ||| (((StrChars.lo8 xx) &&& (255 : Int32)) >>> ((6 : Int32) &&& 31))).toInt8.toInt32).toInt8.toInt32)) hp) (own_gr _ hr) hbb) (own_pl _ _ _) (D25 60) (own_pv _ _ _ _)
    have V_b := V_b.other W5 nbd
    have O := O.wr W5 g_d
    have K := K.wr W5 (Or.inl (List.mem_of_getElem? (i := 0) rfl))
    have N5 := Fr.snoc X5 N4 g_d
    have w6 : own_Go p e below f0 T5 m 49 (own_F13 (0 : Int32) b (1 : Int32) ((pp + (1 : Int32)) + (1 : Int32)) d b mm (3 : Int32) (StrChars.lo8 xx)) [] := fun t k => by
      refine w2 t ?_
      refine zin X0 Hb (D25 38) ((if0 _ _).trans (tlt hc65_3).2.1) <| zaL X0 Hb (D25 39) rfl rfl <| zil X0 Hb (D25 40) rfl <| zii X0 Hb (L' := (own_F13 (0 : Int32) b (1 : Int32) (pp + (1 : Int32)) d b mm (2 : Int32) (StrChars.lo8 xx))) (D25 41) rfl (pp + (1 : Int32)) rfl rfl <| zsp X0 Hb (D25 42) 192 rfl <| ziL X0 Hb (D25 43) rfl <| zsp X0 Hb (D25 44) 255 rfl <| zan X0 Hb (D25 45) ?_
      refine zbp X0 Hb (D25 46) 6 rfl <| zsr X0 Hb (D25 47) <| zor X0 Hb (D25 48) <| zib X0 Hb (D25 49) <| st4 _ <| zaL X4 Hb (D25 51) rfl rfl <| zil X4 Hb (D25 52) rfl <| zii X4 Hb (D25 53) rfl ((pp + (1 : Int32)) + (1 : Int32)) rfl rfl ?_
      refine zsp X4 Hb (D25 54) 128 rfl <| ziL X4 Hb (D25 55) rfl <| zbp X4 Hb (D25 56) 63 rfl <| zan X4 Hb (D25 57) <| zor X4 Hb (D25 58) <| zib X4 Hb (D25 59) <| st5 _ <| zgo X5 Hb (D25 61) 118 (by decide) rfl ?_
      refine zii X5 Hb (D25 67) rfl 3 rfl rfl <| zgo X5 Hb (D25 68) 49 (by decide) rfl ?_
      exact k
    have hx1 := h8.1.mp hc65_3
    have hbs : bs ++ own_e1 xx = ((bs ++ [Value.int ((((192 : Int32) ||| (((StrChars.lo8 xx) &&& (255 : Int32)) >>> ((6 : Int32) &&& 31))).toInt8.toInt32).toInt8.toInt32)]) ++ [Value.int ((((128 : Int32) ||| ((StrChars.lo8 xx) &&& (63 : Int32))).toInt8.toInt32).toInt8.toInt32)]) := (by rw [own_eb hx1 h8.2.1, (h8.2.2 hx1).1, (h8.2.2 hx1).2, own_a2]; rfl)
    exact ⟨T5, _, ((pp + (1 : Int32)) + (1 : Int32)), rr, X5, N5, by rw [e5]; exact K, by rw [e5]; exact (by rw [hbs]; exact V_d), (by rw [hbs]; exact (own_ps (Value.int ((((128 : Int32) ||| ((StrChars.lo8 xx) &&& (63 : Int32))).toInt8.toInt32).toInt8.toInt32)) (own_ps (Value.int ((((192 : Int32) ||| (((StrChars.lo8 xx) &&& (255 : Int32)) >>> ((6 : Int32) &&& 31))).toInt8.toInt32).toInt8.toInt32)) hp))), (by rw [hbs]; exact (own_gr _ (own_gr _ hr))), (by omega), w6⟩
  · obtain ⟨T7, h7, X7, e7, W7, V_d, st7⟩ := own_sB X0 Hb hZ e0 V_d (x := (StrChars.lo8 xx)) (L := (own_F13 (0 : Int32) b (1 : Int32) (pp + (1 : Int32)) d b mm (2 : Int32) (StrChars.lo8 xx))) (S := []) (own_gj hp hr hn hbb) (own_gi hp hr hbb) (own_pl _ _ _) (D25 66) (own_pv _ _ _ _)
    have V_b := V_b.other W7 nbd
    have O := O.wr W7 g_d
    have K := K.wr W7 (Or.inl (List.mem_of_getElem? (i := 0) rfl))
    have N7 := Fr.snoc X7 N0 g_d
    have w8 : own_Go p e below f0 T7 m 49 (own_F13 (0 : Int32) b (1 : Int32) (pp + (1 : Int32)) d b mm (3 : Int32) (StrChars.lo8 xx)) [] := fun t k => by
      refine w2 t ?_
      refine ziy X0 Hb (D25 38) ((if0 _ _).trans (flt hc65_3).2.1) 109 (by decide) rfl <| zaL X0 Hb (D25 62) rfl rfl <| zil X0 Hb (D25 63) rfl <| zii X0 Hb (L' := (own_F13 (0 : Int32) b (1 : Int32) (pp + (1 : Int32)) d b mm (2 : Int32) (StrChars.lo8 xx))) (D25 64) rfl (pp + (1 : Int32)) rfl rfl <| ziL X0 Hb (D25 65) rfl <| st7 _ <| zii X7 Hb (L' := (own_F13 (0 : Int32) b (1 : Int32) (pp + (1 : Int32)) d b mm (3 : Int32) (StrChars.lo8 xx))) (D25 67) rfl 3 rfl rfl <| zgo X7 Hb (D25 68) 49 (by decide) rfl ?_
      exact k
    have hx1 : xx < (128 : Int32) := Decidable.byContradiction fun q => hc65_3 (h8.1.mpr q)
    have hbs : bs ++ own_e1 xx = (bs ++ [Value.int ((StrChars.lo8 xx).toInt8.toInt32)]) := (by rw [own_ea hx1]; rfl)
    exact ⟨T7, _, (pp + (1 : Int32)), (rr + 1), X7, N7, by rw [e7]; exact K, by rw [e7]; exact (by rw [hbs]; exact V_d), (by rw [hbs]; exact (own_ps (Value.int ((StrChars.lo8 xx).toInt8.toInt32)) hp)), (by rw [hbs]; exact (own_gr _ hr)), (by omega), w8⟩
theorem own_h1 {x : Int32} (a : own_B8 x) (h : own_hn 1 [x] = 0) : x < (128 : Int32) := Decidable.byContradiction fun q => by
  have c := a.1.mpr q
  simp [own_hn, own_cp, c] at h
theorem own_h2 {x y : Int32} (a : own_B8 x) (b : own_B8 y) (h : own_hn 2 [x, y] = 0) : x < (128 : Int32) ∧ y < (128 : Int32) := by
  have hx : x < (128 : Int32) := Decidable.byContradiction fun q => by
    have c := a.1.mpr q
    simp [own_hn, own_cp, c] at h
  have nx : ¬ (StrChars.lo8 x) < (0 : Int32) := fun q => a.1.mp q hx
  refine ⟨hx, Decidable.byContradiction fun q => ?_⟩
  have c := b.1.mpr q
  simp [own_hn, own_cp, nx, c] at h
theorem own_h3 {x y z : Int32} (a : own_B8 x) (b : own_B8 y) (d : own_B8 z) (h : own_hn 3 [x, y, z] = 0) : x < (128 : Int32) ∧ y < (128 : Int32) ∧ z < (128 : Int32) := by
  have hx : x < (128 : Int32) := Decidable.byContradiction fun q => by
    have c := a.1.mpr q
    simp [own_hn, own_cp, c] at h
  have nx : ¬ (StrChars.lo8 x) < (0 : Int32) := fun q => a.1.mp q hx
  have hy : y < (128 : Int32) := Decidable.byContradiction fun q => by
    have c := b.1.mpr q
    simp [own_hn, own_cp, nx, c] at h
  have ny : ¬ (StrChars.lo8 y) < (0 : Int32) := fun q => b.1.mp q hy
  refine ⟨hx, hy, Decidable.byContradiction fun q => ?_⟩
  have c := d.1.mpr q
  simp [own_hn, own_cp, nx, ny, c] at h
def own_F15 (x0 : Int32) (x1 : Addr) (x2 : Int32) : Array Slot := #[.val (.int x0), .val (.ref x1), .val (.int x2), .unset, .unset, .unset, .unset, .unset, .unset]
theorem pd16 : parseMethodDescriptor "([BII)Z" = some ⟨[(.array .byte), .int, .int], some .boolean⟩ := by decide +kernel
theorem rm25_L_0 (hw : own_W a0 Z) (b : Addr) (kb : ClassId) {h0 : Heap} {n0 : Nat} (O0 : Old Z n0 h0) (V_b : Arv Z h0 b kb .byte (0 : Int32) [] (.int 0)) (E_b : Exa Z h0 b "[B") : own_M l own_n25 jdk_42_method_46_code 9 (some (.array .byte)) (own_rm 2 2 18 54) Z h0 #[.int 0, .ref b, .int 1] (fun v h L => ∃ z : Addr, ∃ kz : ClassId, v = some (.ref z) ∧ Fr n0 L ∧ Keep h0 h [] ∧ Arv Z h z kz .byte (Int32.ofNat ([] : List Value).length) ([] : List Value) (.int 0) ∧ h0.size ≤ z ∧ n0 ≤ z) := by
  refine own_body (L0 := #[.val (.int 0), .val (.ref b), .val (.int 1), .unset, .unset, .unset, .unset, .unset, .unset]) (plainFor_of_name pn_java_lang_String) rfl rfl ?_
  intro p e s m below meth c s₁ f0 Bd hx Hb hml hZ hown X0 e0 pre0
  have hby := Hb.2
  have W := own_q hw
  have N0 := Fr.nil n0
  have O := O0
  have K := Keep.refl h0 []
  have B1 := own_ln V_b
  obtain ⟨_, T2, Lc2, X2, hQ2, st2⟩ := own_cS X0 Hb hZ hown hml (L := (own_F15 (0 : Int32) b (1 : Int32))) rfl (rm26_0 hw b kb O V_b) (W 117 rfl) (W 118 rfl) (W 119 rfl) (W 120 rfl) pd16 e0 (D25 11) [.ref b, .int 0, .int 0] [] 0
  obtain ⟨rfl, N2q, eh2⟩ := hQ2
  have N2 := Fr.app N0 N2q
  obtain ⟨T3, h3, X3, e3, E3, V_b3, A3, st3⟩ := cloneH X2 hx hZ hown (W 124 rfl) (W 125 rfl) (W 129 rfl) (W 127 rfl) (W 128 rfl) (W 130 rfl) eh2 V_b.arh E_b (g := (mkF m 22 (own_F15 (0 : Int32) b (1 : Int32)) [.ref b])) rfl (by rw [hml]; rfl) rfl (hb hby (D25 14)) (by decide) (W := 0) (cap := 6) (by show 2 * 0 + _ ≤ _; exact Nat.le_of_eq rfl) (by decide) (by decide) (by decide) (by decide)
  obtain ⟨b3, gq3⟩ : ∃ z, z = Array.size h0 := ⟨_, rfl⟩
  rw [← gq3] at A3 V_b3 st3
  have ne_b_b3 : b ≠ b3 := Nat.ne_of_lt (Nat.lt_of_lt_of_le V_b.lt (Nat.le_of_eq gq3.symm))
  have g_b3 : n0 ≤ b3 := Nat.le_trans (O.1 ▸ O.2.1) (Nat.le_of_eq gq3.symm)
  have z_b3 : h0.size ≤ b3 := Nat.le_trans K.1 (Nat.le_of_eq gq3.symm)
  have V_b := V_b.ext E3
  have E_b := E_b.ext E3
  have O := O.ext E3
  have K := K.ext E3
  have V_b3 : Arv Z h3 b3 kb .byte (0 : Int32) [] (.int 0) := V_b3
  obtain ⟨T4, X4, e4, st4⟩ := castY X3 hx hZ hown (W 131 rfl) e3 (Ins.self A3) (g := (mkF m 25 (own_F15 (0 : Int32) b (1 : Int32)) [.ref b3])) rfl rfl (hb hby (D25 15))
  have w5 : own_Go p e below f0 T4 m 28 (own_F15 (0 : Int32) b (1 : Int32)) [.ref b3] := fun t k => by
    refine pre0 t ?_
    refine zil X0 Hb (D25 0) rfl <| zic X0 Hb (D25 1) 1 rfl <| zcy X0 Hb (D25 2) (feq ((by decide) : ¬ ((0 : Int32) = (1 : Int32)))).2 11 (by decide) rfl <| zal X0 Hb (D25 7) rfl rfl <| zic X0 Hb (D25 8) 0 rfl <| zal X0 Hb (D25 9) rfl rfl <| zal_ X0 Hb hZ e0 B1 (D25 10) <| st2 _ ?_
    refine zin X2 Hb (D25 12) ((if0 _ _).trans (teq ((by decide) : (own_hn (0 : Int32) []) = (0 : Int32))).2) <| zal X2 Hb (D25 13) rfl rfl <| st3 _ <| st4 _ ?_
    exact k
  have hB : ([] : List Value) = [] := by rfl
  exact own_oR X4 Hb Bd.notSynchronized Bd.returns rfl w5 (D25 16) e4 (by decide) (by decide) ⟨b3, kb, rfl, N2, K, (by rw [hB]; exact V_b3), z_b3, g_b3⟩
def own_F16 (x0 : Int32) (x1 : Addr) (x2 : Int32) (x3 : Int32) : Array Slot := #[.val (.int x0), .val (.ref x1), .val (.int x2), .val (.int x3), .unset, .unset, .unset, .unset, .unset]
theorem pd17 : parseMethodDescriptor "(I)[B" = some ⟨[.int], some (.array .byte)⟩ := by decide +kernel
def own_F17 (x0 : Int32) (x1 : Addr) (x2 : Int32) (x3 : Int32) (x4 : Addr) : Array Slot := #[.val (.int x0), .val (.ref x1), .val (.int x2), .val (.int x3), .val (.ref x4), .unset, .unset, .unset, .unset]
def own_F18 (x0 : Int32) (x1 : Addr) (x2 : Int32) (x3 : Int32) (x4 : Addr) (x5 : Addr) : Array Slot := #[.val (.int x0), .val (.ref x1), .val (.int x2), .val (.int x3), .val (.ref x4), .val (.ref x5), .unset, .unset, .unset]
def own_F19 (x0 : Int32) (x1 : Addr) (x2 : Int32) (x3 : Int32) (x4 : Addr) (x5 : Addr) (x6 : Int32) : Array Slot := #[.val (.int x0), .val (.ref x1), .val (.int x2), .val (.int x3), .val (.ref x4), .val (.ref x5), .val (.int x6), .unset, .unset]
theorem rm25_L_1 (hw : own_W a0 Z) (b : Addr) (kb : ClassId) (xa : Int32) {h0 : Heap} {n0 : Nat} (O0 : Old Z n0 h0) (V_b : Arv Z h0 b kb .byte (1 : Int32) [.int (StrChars.lo8 xa)] (.int 0)) (E_b : Exa Z h0 b "[B") (bxa : own_B8 xa) : own_M l own_n25 jdk_42_method_46_code 9 (some (.array .byte)) (own_rm 2 2 18 54) Z h0 #[.int 0, .ref b, .int 1] (fun v h L => ∃ z : Addr, ∃ kz : ClassId, v = some (.ref z) ∧ Fr n0 L ∧ Keep h0 h [] ∧ Arv Z h z kz .byte (Int32.ofNat (([] : List Value) ++ own_e1 xa).length) (([] : List Value) ++ own_e1 xa) (.int 0) ∧ h0.size ≤ z ∧ n0 ≤ z) := by
  refine own_body (L0 := #[.val (.int 0), .val (.ref b), .val (.int 1), .unset, .unset, .unset, .unset, .unset, .unset]) (plainFor_of_name pn_java_lang_String) rfl rfl ?_
  intro p e s m below meth c s₁ f0 Bd hx Hb hml hZ hown X0 e0 pre0
  have hby := Hb.2
  have W := own_q hw
  have N0 := Fr.nil n0
  have O := O0
  have K := Keep.refl h0 []
  have B1 := own_ln V_b
  obtain ⟨_, T2, Lc2, X2, hQ2, st2⟩ := own_cS X0 Hb hZ hown hml (L := (own_F15 (0 : Int32) b (1 : Int32))) rfl (rm26_1 hw b kb xa O V_b) (W 117 rfl) (W 118 rfl) (W 119 rfl) (W 120 rfl) pd16 e0 (D25 11) [.ref b, .int 0, .int 1] [] 0
  obtain ⟨rfl, N2q, eh2⟩ := hQ2
  have N2 := Fr.app N0 N2q
  have w3 : own_Go p e below f0 T2 m 18 (own_F15 (0 : Int32) b (1 : Int32)) [(.int (own_hn (1 : Int32) [xa]))] := fun t k => by
    refine pre0 t ?_
    refine zil X0 Hb (D25 0) rfl <| zic X0 Hb (D25 1) 1 rfl <| zcy X0 Hb (D25 2) (feq ((by decide) : ¬ ((0 : Int32) = (1 : Int32)))).2 11 (by decide) rfl <| zal X0 Hb (D25 7) rfl rfl <| zic X0 Hb (D25 8) 0 rfl <| zal X0 Hb (D25 9) rfl rfl <| zal_ X0 Hb hZ e0 B1 (D25 10) <| st2 _ ?_
    exact k
  by_cases hc18_4 : (own_hn (1 : Int32) [xa]) = (0 : Int32)
  · obtain ⟨T5, h5, X5, e5, E5, V_b5, A5, st5⟩ := cloneH X2 hx hZ hown (W 124 rfl) (W 125 rfl) (W 129 rfl) (W 127 rfl) (W 128 rfl) (W 130 rfl) eh2 V_b.arh E_b (g := (mkF m 22 (own_F15 (0 : Int32) b (1 : Int32)) [.ref b])) rfl (by rw [hml]; rfl) rfl (hb hby (D25 14)) (by decide) (W := 0) (cap := 6) (by show 2 * 0 + _ ≤ _; exact Nat.le_of_eq rfl) (by decide) (by decide) (by decide) (by decide)
    obtain ⟨b5, gq5⟩ : ∃ z, z = Array.size h0 := ⟨_, rfl⟩
    rw [← gq5] at A5 V_b5 st5
    have ne_b_b5 : b ≠ b5 := Nat.ne_of_lt (Nat.lt_of_lt_of_le V_b.lt (Nat.le_of_eq gq5.symm))
    have g_b5 : n0 ≤ b5 := Nat.le_trans (O.1 ▸ O.2.1) (Nat.le_of_eq gq5.symm)
    have z_b5 : h0.size ≤ b5 := Nat.le_trans K.1 (Nat.le_of_eq gq5.symm)
    have V_b := V_b.ext E5
    have E_b := E_b.ext E5
    have O := O.ext E5
    have K := K.ext E5
    have V_b5 : Arv Z h5 b5 kb .byte (1 : Int32) [.int (StrChars.lo8 xa)] (.int 0) := V_b5
    obtain ⟨T6, X6, e6, st6⟩ := castY X5 hx hZ hown (W 131 rfl) e5 (Ins.self A5) (g := (mkF m 25 (own_F15 (0 : Int32) b (1 : Int32)) [.ref b5])) rfl rfl (hb hby (D25 15))
    have w7 : own_Go p e below f0 T6 m 28 (own_F15 (0 : Int32) b (1 : Int32)) [.ref b5] := fun t k => by
      refine w3 t ?_
      refine zin X2 Hb (D25 12) ((if0 _ _).trans (teq hc18_4).2) <| zal X2 Hb (D25 13) rfl rfl <| st5 _ <| st6 _ ?_
      exact k
    have hh := own_h1 bxa hc18_4
    have hB : (([] : List Value) ++ own_e1 xa) = [Value.int (StrChars.lo8 xa)] := by rw [own_ea hh]; simp only [own_bb]; rfl
    exact own_oR X6 Hb Bd.notSynchronized Bd.returns rfl w7 (D25 16) e6 (by decide) (by decide) ⟨b5, kb, rfl, N2, K, (by rw [hB]; exact V_b5), z_b5, g_b5⟩
  · have B8 := own_ln V_b
    have lt9_b := V_b.lt
    obtain ⟨_, T9, Lc9, X9, hQ9, st9⟩ := own_cS X2 Hb hZ hown hml (L := (own_F16 (0 : Int32) b (1 : Int32) (0 : Int32))) rfl (rm29_1 hw  O ) (W 136 rfl) (W 137 rfl) (W 22 rfl) (W 138 rfl) pd17 eh2 (D25 21) [.int 1] [] 0
    obtain ⟨z_9, kz_9, rfl, N9q, K9, V_z_c9, E_z_c9, gz_9, gn_9⟩ := hQ9
    have N9 := Fr.app N2 N9q
    have V_b := V_b.keep K9 nin0
    have E_b := E_b.keep K9
    have ne_b_z_9 : b ≠ z_9 := Nat.ne_of_lt (Nat.lt_of_lt_of_le lt9_b gz_9)
    have g_z_9 := gn_9
    have z_z_9 : h0.size ≤ z_9 := Nat.le_trans K.1 gz_9
    have O := O.keep K9 all0
    have K := K.trans K9 all0
    have B10 := own_ln V_b
    have w11 : own_Go p e below f0 T9 m 49 (own_F14 (0 : Int32) b (1 : Int32) (0 : Int32) z_9 b (1 : Int32) (0 : Int32)) [] := fun t k => by
      refine w3 t ?_
      refine ziy X2 Hb (D25 12) ((if0 _ _).trans (feq hc18_4).2) 29 (by decide) rfl <| zic X2 Hb (D25 17) 0 rfl <| zis X2 Hb (L' := (own_F16 (0 : Int32) b (1 : Int32) (0 : Int32))) (D25 18) rfl <| zal X2 Hb (D25 19) rfl rfl <| zal_ X2 Hb hZ eh2 B8 (D25 20) <| st9 _ <| zaS X9 Hb (L' := (own_F17 (0 : Int32) b (1 : Int32) (0 : Int32) z_9)) (D25 22) rfl rfl <| zal X9 Hb (D25 23) rfl rfl ?_
      refine zaS X9 Hb (L' := (own_F18 (0 : Int32) b (1 : Int32) (0 : Int32) z_9 b)) (D25 24) rfl rfl <| zaL X9 Hb (D25 25) rfl rfl <| zal_ X9 Hb hZ rfl B10 (D25 26) <| ziS X9 Hb (L' := (own_F19 (0 : Int32) b (1 : Int32) (0 : Int32) z_9 b (1 : Int32))) (D25 27) rfl <| zic X9 Hb (D25 28) 0 rfl <| ziS X9 Hb (L' := (own_F14 (0 : Int32) b (1 : Int32) (0 : Int32) z_9 b (1 : Int32) (0 : Int32))) (D25 29) rfl ?_
      exact k
    obtain ⟨T12, L12, pq_12, r2_12, X12, N12, K12, V_d_12, hpq_12, hr2_12, hr3_12, w12⟩ := fr25_0 hw b kb (1 : Int32) xa [] z_9 kz_9 (2 : Int32) (0 : Int32) (1 : Int32) ([] : List Value) 0 2 X9 hx Hb hZ hown hml ⟨by decide, by decide, by decide, by decide⟩ rfl N9 O V_b V_z_c9 ne_b_z_9 (by decide) (by decide) rfl rfl rfl (by decide) bxa g_z_9 w11
    have V_b := V_b.keep K12 (ninS ne_b_z_9 nin0)
    have E_b := E_b.keep K12
    have E_z_c9 := E_z_c9.keep K12
    have O := O.keep K12 (allS g_z_9 all0)
    have K := K.trans K12 (allS (Or.inr z_z_9) all0)
    have B13 := own_ln V_d_12
    have w14 : own_Go p e below f0 T12 m 128 (own_F13 (0 : Int32) b (1 : Int32) pq_12 z_9 b (1 : Int32) (1 : Int32) (StrChars.lo8 xa)) [.int 2, .int pq_12] := fun t k => by
      refine w12 t ?_
      refine ziL X12 Hb (D25 30) rfl <| ziL X12 Hb (D25 31) rfl <| zcy X12 Hb (D25 32) (flt ((by decide) : ¬ ((1 : Int32) < (1 : Int32)))).2.1 124 (by decide) rfl <| zil X12 Hb (D25 69) rfl <| zaL X12 Hb (D25 70) rfl rfl <| zal_ X12 Hb hZ rfl B13 (D25 71) ?_
      exact k
    by_cases hc128_15 : pq_12 = (2 : Int32)
    · have w16 : own_Go p e below f0 T12 m 133 (own_F13 (0 : Int32) b (1 : Int32) pq_12 z_9 b (1 : Int32) (1 : Int32) (StrChars.lo8 xa)) [.ref z_9] := fun t k => by
        refine w14 t ?_
        refine zcn X12 Hb (D25 72) (teq hc128_15).2 <| zaL X12 Hb (D25 73) rfl rfl ?_
        exact k
      have hr0 := own_r0 hpq_12 hr2_12 (nd := (2 : Int32)) rfl (by decide) hc128_15
      exact own_oR X12 Hb Bd.notSynchronized Bd.returns rfl w16 (D25 74) rfl (by decide) (by decide) ⟨z_9, kz_9, rfl, N12, K, (by rw [← hpq_12, hc128_15]; have q := V_d_12; rw [hr0, List.replicate_zero, List.append_nil] at q; exact q), z_z_9, g_z_9⟩
    · have lt17_b := V_b.lt
      have lt17_z_9 := E_z_c9.lt
      obtain ⟨_, T17, Lc17, X17, hQ17, st17⟩ := own_cS X12 Hb hZ hown hml (L := (own_F13 (0 : Int32) b (1 : Int32) pq_12 z_9 b (1 : Int32) (1 : Int32) (StrChars.lo8 xa))) rfl (rm31 hw z_9 pq_12 kz_9 (2 : Int32) (([] : List Value) ++ own_e1 xa) r2_12 2 O V_d_12 hpq_12 hr2_12 rfl (by decide) hc128_15) (W 143 rfl) (W 144 rfl) (W 145 rfl) (W 146 rfl) pd14 rfl (D25 77) [.ref z_9, .int pq_12] [] 0
      obtain ⟨z_17, kz_17, rfl, N17q, K17, V_z_c17, gz_17, gn_17⟩ := hQ17
      have N17 := Fr.app N12 N17q
      have V_b := V_b.keep K17 nin0
      have E_b := E_b.keep K17
      have E_z_c9 := E_z_c9.keep K17
      have V_d_12 := V_d_12.keep K17 nin0
      have ne_b_z_17 : b ≠ z_17 := Nat.ne_of_lt (Nat.lt_of_lt_of_le lt17_b gz_17)
      have ne_z_9_z_17 : z_9 ≠ z_17 := Nat.ne_of_lt (Nat.lt_of_lt_of_le lt17_z_9 gz_17)
      have g_z_17 := gn_17
      have z_z_17 : h0.size ≤ z_17 := Nat.le_trans K.1 gz_17
      have O := O.keep K17 all0
      have K := K.trans K17 all0
      have w18 : own_Go p e below f0 T17 m 140 (own_F13 (0 : Int32) b (1 : Int32) pq_12 z_9 b (1 : Int32) (1 : Int32) (StrChars.lo8 xa)) [.ref z_17] := fun t k => by
        refine w14 t ?_
        refine zcy X12 Hb (D25 72) (feq hc128_15).2 134 (by decide) rfl <| zaL X12 Hb (D25 75) rfl rfl <| zil X12 Hb (D25 76) rfl <| st17 _ ?_
        exact k
      exact own_oR X17 Hb Bd.notSynchronized Bd.returns rfl w18 (D25 78) rfl (by decide) (by decide) ⟨z_17, kz_17, rfl, N17, K, (by rw [← hpq_12]; exact V_z_c17), z_z_17, g_z_17⟩
theorem rm25_L_2 (hw : own_W a0 Z) (b : Addr) (kb : ClassId) (xa xb : Int32) {h0 : Heap} {n0 : Nat} (O0 : Old Z n0 h0) (V_b : Arv Z h0 b kb .byte (2 : Int32) [.int (StrChars.lo8 xa), .int (StrChars.lo8 xb)] (.int 0)) (E_b : Exa Z h0 b "[B") (bxa : own_B8 xa) (bxb : own_B8 xb) : own_M l own_n25 jdk_42_method_46_code 9 (some (.array .byte)) (own_rm 2 2 18 54) Z h0 #[.int 0, .ref b, .int 1] (fun v h L => ∃ z : Addr, ∃ kz : ClassId, v = some (.ref z) ∧ Fr n0 L ∧ Keep h0 h [] ∧ Arv Z h z kz .byte (Int32.ofNat ((([] : List Value) ++ own_e1 xa) ++ own_e1 xb).length) ((([] : List Value) ++ own_e1 xa) ++ own_e1 xb) (.int 0) ∧ h0.size ≤ z ∧ n0 ≤ z) := by
  refine own_body (L0 := #[.val (.int 0), .val (.ref b), .val (.int 1), .unset, .unset, .unset, .unset, .unset, .unset]) (plainFor_of_name pn_java_lang_String) rfl rfl ?_
  intro p e s m below meth c s₁ f0 Bd hx Hb hml hZ hown X0 e0 pre0
  have hby := Hb.2
  have W := own_q hw
  have N0 := Fr.nil n0
  have O := O0
  have K := Keep.refl h0 []
  have B1 := own_ln V_b
  obtain ⟨_, T2, Lc2, X2, hQ2, st2⟩ := own_cS X0 Hb hZ hown hml (L := (own_F15 (0 : Int32) b (1 : Int32))) rfl (rm26_2 hw b kb xa xb O V_b) (W 117 rfl) (W 118 rfl) (W 119 rfl) (W 120 rfl) pd16 e0 (D25 11) [.ref b, .int 0, .int 2] [] 0
  obtain ⟨rfl, N2q, eh2⟩ := hQ2
  have N2 := Fr.app N0 N2q
  have w3 : own_Go p e below f0 T2 m 18 (own_F15 (0 : Int32) b (1 : Int32)) [(.int (own_hn (2 : Int32) [xa, xb]))] := fun t k => by
    refine pre0 t ?_
    refine zil X0 Hb (D25 0) rfl <| zic X0 Hb (D25 1) 1 rfl <| zcy X0 Hb (D25 2) (feq ((by decide) : ¬ ((0 : Int32) = (1 : Int32)))).2 11 (by decide) rfl <| zal X0 Hb (D25 7) rfl rfl <| zic X0 Hb (D25 8) 0 rfl <| zal X0 Hb (D25 9) rfl rfl <| zal_ X0 Hb hZ e0 B1 (D25 10) <| st2 _ ?_
    exact k
  by_cases hc18_4 : (own_hn (2 : Int32) [xa, xb]) = (0 : Int32)
  · obtain ⟨T5, h5, X5, e5, E5, V_b5, A5, st5⟩ := cloneH X2 hx hZ hown (W 124 rfl) (W 125 rfl) (W 129 rfl) (W 127 rfl) (W 128 rfl) (W 130 rfl) eh2 V_b.arh E_b (g := (mkF m 22 (own_F15 (0 : Int32) b (1 : Int32)) [.ref b])) rfl (by rw [hml]; rfl) rfl (hb hby (D25 14)) (by decide) (W := 0) (cap := 6) (by show 2 * 0 + _ ≤ _; exact Nat.le_of_eq rfl) (by decide) (by decide) (by decide) (by decide)
    obtain ⟨b5, gq5⟩ : ∃ z, z = Array.size h0 := ⟨_, rfl⟩
    rw [← gq5] at A5 V_b5 st5
    have ne_b_b5 : b ≠ b5 := Nat.ne_of_lt (Nat.lt_of_lt_of_le V_b.lt (Nat.le_of_eq gq5.symm))
    have g_b5 : n0 ≤ b5 := Nat.le_trans (O.1 ▸ O.2.1) (Nat.le_of_eq gq5.symm)
    have z_b5 : h0.size ≤ b5 := Nat.le_trans K.1 (Nat.le_of_eq gq5.symm)
    have V_b := V_b.ext E5
    have E_b := E_b.ext E5
    have O := O.ext E5
    have K := K.ext E5
    have V_b5 : Arv Z h5 b5 kb .byte (2 : Int32) [.int (StrChars.lo8 xa), .int (StrChars.lo8 xb)] (.int 0) := V_b5
    obtain ⟨T6, X6, e6, st6⟩ := castY X5 hx hZ hown (W 131 rfl) e5 (Ins.self A5) (g := (mkF m 25 (own_F15 (0 : Int32) b (1 : Int32)) [.ref b5])) rfl rfl (hb hby (D25 15))
    have w7 : own_Go p e below f0 T6 m 28 (own_F15 (0 : Int32) b (1 : Int32)) [.ref b5] := fun t k => by
      refine w3 t ?_
      refine zin X2 Hb (D25 12) ((if0 _ _).trans (teq hc18_4).2) <| zal X2 Hb (D25 13) rfl rfl <| st5 _ <| st6 _ ?_
      exact k
    have hh := own_h2 bxa bxb hc18_4
    have hB : ((([] : List Value) ++ own_e1 xa) ++ own_e1 xb) = [Value.int (StrChars.lo8 xa), Value.int (StrChars.lo8 xb)] := by rw [own_ea hh.1, own_ea hh.2]; simp only [own_bb]; rfl
    exact own_oR X6 Hb Bd.notSynchronized Bd.returns rfl w7 (D25 16) e6 (by decide) (by decide) ⟨b5, kb, rfl, N2, K, (by rw [hB]; exact V_b5), z_b5, g_b5⟩
  · have B8 := own_ln V_b
    have lt9_b := V_b.lt
    obtain ⟨_, T9, Lc9, X9, hQ9, st9⟩ := own_cS X2 Hb hZ hown hml (L := (own_F16 (0 : Int32) b (1 : Int32) (0 : Int32))) rfl (rm29_2 hw  O ) (W 136 rfl) (W 137 rfl) (W 22 rfl) (W 138 rfl) pd17 eh2 (D25 21) [.int 2] [] 0
    obtain ⟨z_9, kz_9, rfl, N9q, K9, V_z_c9, E_z_c9, gz_9, gn_9⟩ := hQ9
    have N9 := Fr.app N2 N9q
    have V_b := V_b.keep K9 nin0
    have E_b := E_b.keep K9
    have ne_b_z_9 : b ≠ z_9 := Nat.ne_of_lt (Nat.lt_of_lt_of_le lt9_b gz_9)
    have g_z_9 := gn_9
    have z_z_9 : h0.size ≤ z_9 := Nat.le_trans K.1 gz_9
    have O := O.keep K9 all0
    have K := K.trans K9 all0
    have B10 := own_ln V_b
    have w11 : own_Go p e below f0 T9 m 49 (own_F14 (0 : Int32) b (1 : Int32) (0 : Int32) z_9 b (2 : Int32) (0 : Int32)) [] := fun t k => by
      refine w3 t ?_
      refine ziy X2 Hb (D25 12) ((if0 _ _).trans (feq hc18_4).2) 29 (by decide) rfl <| zic X2 Hb (D25 17) 0 rfl <| zis X2 Hb (L' := (own_F16 (0 : Int32) b (1 : Int32) (0 : Int32))) (D25 18) rfl <| zal X2 Hb (D25 19) rfl rfl <| zal_ X2 Hb hZ eh2 B8 (D25 20) <| st9 _ <| zaS X9 Hb (L' := (own_F17 (0 : Int32) b (1 : Int32) (0 : Int32) z_9)) (D25 22) rfl rfl <| zal X9 Hb (D25 23) rfl rfl ?_
      refine zaS X9 Hb (L' := (own_F18 (0 : Int32) b (1 : Int32) (0 : Int32) z_9 b)) (D25 24) rfl rfl <| zaL X9 Hb (D25 25) rfl rfl <| zal_ X9 Hb hZ rfl B10 (D25 26) <| ziS X9 Hb (L' := (own_F19 (0 : Int32) b (1 : Int32) (0 : Int32) z_9 b (2 : Int32))) (D25 27) rfl <| zic X9 Hb (D25 28) 0 rfl <| ziS X9 Hb (L' := (own_F14 (0 : Int32) b (1 : Int32) (0 : Int32) z_9 b (2 : Int32) (0 : Int32))) (D25 29) rfl ?_
      exact k
    obtain ⟨T12, L12, pq_12, r2_12, X12, N12, K12, V_d_12, hpq_12, hr2_12, hr3_12, w12⟩ := fr25_0 hw b kb (2 : Int32) xa [.int (StrChars.lo8 xb)] z_9 kz_9 (4 : Int32) (0 : Int32) (2 : Int32) ([] : List Value) 2 4 X9 hx Hb hZ hown hml ⟨by decide, by decide, by decide, by decide⟩ rfl N9 O V_b V_z_c9 ne_b_z_9 (by decide) (by decide) rfl rfl rfl (by decide) bxa g_z_9 w11
    have V_b := V_b.keep K12 (ninS ne_b_z_9 nin0)
    have E_b := E_b.keep K12
    have E_z_c9 := E_z_c9.keep K12
    have O := O.keep K12 (allS g_z_9 all0)
    have K := K.trans K12 (allS (Or.inr z_z_9) all0)
    obtain ⟨q_12, hq_12⟩ : ∃ q, r2_12 = q + 2 := ⟨r2_12 - 2, by omega⟩
    subst hq_12
    obtain ⟨T13, L13, pq_13, r2_13, X13, N13, K13, V_d_13, hpq_13, hr2_13, hr3_13, w13⟩ := fr25_1 hw b kb (2 : Int32) (StrChars.lo8 xa) xb [] z_9 kz_9 (4 : Int32) pq_12 (2 : Int32) (([] : List Value) ++ own_e1 xa) q_12 4 (StrChars.lo8 xa) X12 hx Hb hZ hown hml ⟨by decide, by decide, by decide, by decide⟩ rfl N12 O V_b V_d_12 ne_b_z_9 (by decide) (by decide) hpq_12 hr2_12 rfl (by decide) bxb g_z_9 w12
    have V_b := V_b.keep K13 (ninS ne_b_z_9 nin0)
    have E_b := E_b.keep K13
    have E_z_c9 := E_z_c9.keep K13
    have O := O.keep K13 (allS g_z_9 all0)
    have K := K.trans K13 (allS (Or.inr z_z_9) all0)
    have B14 := own_ln V_d_13
    have w15 : own_Go p e below f0 T13 m 128 (own_F13 (0 : Int32) b (1 : Int32) pq_13 z_9 b (2 : Int32) (2 : Int32) (StrChars.lo8 xb)) [.int 4, .int pq_13] := fun t k => by
      refine w13 t ?_
      refine ziL X13 Hb (D25 30) rfl <| ziL X13 Hb (D25 31) rfl <| zcy X13 Hb (D25 32) (flt ((by decide) : ¬ ((2 : Int32) < (2 : Int32)))).2.1 124 (by decide) rfl <| zil X13 Hb (D25 69) rfl <| zaL X13 Hb (D25 70) rfl rfl <| zal_ X13 Hb hZ rfl B14 (D25 71) ?_
      exact k
    by_cases hc128_16 : pq_13 = (4 : Int32)
    · have w17 : own_Go p e below f0 T13 m 133 (own_F13 (0 : Int32) b (1 : Int32) pq_13 z_9 b (2 : Int32) (2 : Int32) (StrChars.lo8 xb)) [.ref z_9] := fun t k => by
        refine w15 t ?_
        refine zcn X13 Hb (D25 72) (teq hc128_16).2 <| zaL X13 Hb (D25 73) rfl rfl ?_
        exact k
      have hr0 := own_r0 hpq_13 hr2_13 (nd := (4 : Int32)) rfl (by decide) hc128_16
      exact own_oR X13 Hb Bd.notSynchronized Bd.returns rfl w17 (D25 74) rfl (by decide) (by decide) ⟨z_9, kz_9, rfl, N13, K, (by rw [← hpq_13, hc128_16]; have q := V_d_13; rw [hr0, List.replicate_zero, List.append_nil] at q; exact q), z_z_9, g_z_9⟩
    · have lt18_b := V_b.lt
      have lt18_z_9 := E_z_c9.lt
      obtain ⟨_, T18, Lc18, X18, hQ18, st18⟩ := own_cS X13 Hb hZ hown hml (L := (own_F13 (0 : Int32) b (1 : Int32) pq_13 z_9 b (2 : Int32) (2 : Int32) (StrChars.lo8 xb))) rfl (rm31 hw z_9 pq_13 kz_9 (4 : Int32) ((([] : List Value) ++ own_e1 xa) ++ own_e1 xb) r2_13 4 O V_d_13 hpq_13 hr2_13 rfl (by decide) hc128_16) (W 143 rfl) (W 144 rfl) (W 145 rfl) (W 146 rfl) pd14 rfl (D25 77) [.ref z_9, .int pq_13] [] 0
      obtain ⟨z_18, kz_18, rfl, N18q, K18, V_z_c18, gz_18, gn_18⟩ := hQ18
      have N18 := Fr.app N13 N18q
      have V_b := V_b.keep K18 nin0
      have E_b := E_b.keep K18
      have E_z_c9 := E_z_c9.keep K18
      have V_d_13 := V_d_13.keep K18 nin0
      have ne_b_z_18 : b ≠ z_18 := Nat.ne_of_lt (Nat.lt_of_lt_of_le lt18_b gz_18)
      have ne_z_9_z_18 : z_9 ≠ z_18 := Nat.ne_of_lt (Nat.lt_of_lt_of_le lt18_z_9 gz_18)
      have g_z_18 := gn_18
      have z_z_18 : h0.size ≤ z_18 := Nat.le_trans K.1 gz_18
      have O := O.keep K18 all0
      have K := K.trans K18 all0
      have w19 : own_Go p e below f0 T18 m 140 (own_F13 (0 : Int32) b (1 : Int32) pq_13 z_9 b (2 : Int32) (2 : Int32) (StrChars.lo8 xb)) [.ref z_18] := fun t k => by
        refine w15 t ?_
        refine zcy X13 Hb (D25 72) (feq hc128_16).2 134 (by decide) rfl <| zaL X13 Hb (D25 75) rfl rfl <| zil X13 Hb (D25 76) rfl <| st18 _ ?_
        exact k
      exact own_oR X18 Hb Bd.notSynchronized Bd.returns rfl w19 (D25 78) rfl (by decide) (by decide) ⟨z_18, kz_18, rfl, N18, K, (by rw [← hpq_13]; exact V_z_c18), z_z_18, g_z_18⟩
theorem rm25_L_3 (hw : own_W a0 Z) (b : Addr) (kb : ClassId) (xa xb xc : Int32) {h0 : Heap} {n0 : Nat} (O0 : Old Z n0 h0) (V_b : Arv Z h0 b kb .byte (3 : Int32) [.int (StrChars.lo8 xa), .int (StrChars.lo8 xb), .int (StrChars.lo8 xc)] (.int 0)) (E_b : Exa Z h0 b "[B") (bxa : own_B8 xa) (bxb : own_B8 xb) (bxc : own_B8 xc) : own_M l own_n25 jdk_42_method_46_code 9 (some (.array .byte)) (own_rm 2 2 18 54) Z h0 #[.int 0, .ref b, .int 1] (fun v h L => ∃ z : Addr, ∃ kz : ClassId, v = some (.ref z) ∧ Fr n0 L ∧ Keep h0 h [] ∧ Arv Z h z kz .byte (Int32.ofNat (((([] : List Value) ++ own_e1 xa) ++ own_e1 xb) ++ own_e1 xc).length) (((([] : List Value) ++ own_e1 xa) ++ own_e1 xb) ++ own_e1 xc) (.int 0) ∧ h0.size ≤ z ∧ n0 ≤ z) := by
  refine own_body (L0 := #[.val (.int 0), .val (.ref b), .val (.int 1), .unset, .unset, .unset, .unset, .unset, .unset]) (plainFor_of_name pn_java_lang_String) rfl rfl ?_
  intro p e s m below meth c s₁ f0 Bd hx Hb hml hZ hown X0 e0 pre0
  have hby := Hb.2
  have W := own_q hw
  have N0 := Fr.nil n0
  have O := O0
  have K := Keep.refl h0 []
  have B1 := own_ln V_b
  obtain ⟨_, T2, Lc2, X2, hQ2, st2⟩ := own_cS X0 Hb hZ hown hml (L := (own_F15 (0 : Int32) b (1 : Int32))) rfl (rm26_3 hw b kb xa xb xc O V_b) (W 117 rfl) (W 118 rfl) (W 119 rfl) (W 120 rfl) pd16 e0 (D25 11) [.ref b, .int 0, .int 3] [] 0
  obtain ⟨rfl, N2q, eh2⟩ := hQ2
  have N2 := Fr.app N0 N2q
  have w3 : own_Go p e below f0 T2 m 18 (own_F15 (0 : Int32) b (1 : Int32)) [(.int (own_hn (3 : Int32) [xa, xb, xc]))] := fun t k => by
    refine pre0 t ?_
    refine zil X0 Hb (D25 0) rfl <| zic X0 Hb (D25 1) 1 rfl <| zcy X0 Hb (D25 2) (feq ((by decide) : ¬ ((0 : Int32) = (1 : Int32)))).2 11 (by decide) rfl <| zal X0 Hb (D25 7) rfl rfl <| zic X0 Hb (D25 8) 0 rfl <| zal X0 Hb (D25 9) rfl rfl <| zal_ X0 Hb hZ e0 B1 (D25 10) <| st2 _ ?_
    exact k
  by_cases hc18_4 : (own_hn (3 : Int32) [xa, xb, xc]) = (0 : Int32)
  · obtain ⟨T5, h5, X5, e5, E5, V_b5, A5, st5⟩ := cloneH X2 hx hZ hown (W 124 rfl) (W 125 rfl) (W 129 rfl) (W 127 rfl) (W 128 rfl) (W 130 rfl) eh2 V_b.arh E_b (g := (mkF m 22 (own_F15 (0 : Int32) b (1 : Int32)) [.ref b])) rfl (by rw [hml]; rfl) rfl (hb hby (D25 14)) (by decide) (W := 0) (cap := 6) (by show 2 * 0 + _ ≤ _; exact Nat.le_of_eq rfl) (by decide) (by decide) (by decide) (by decide)
    obtain ⟨b5, gq5⟩ : ∃ z, z = Array.size h0 := ⟨_, rfl⟩
    rw [← gq5] at A5 V_b5 st5
    have ne_b_b5 : b ≠ b5 := Nat.ne_of_lt (Nat.lt_of_lt_of_le V_b.lt (Nat.le_of_eq gq5.symm))
    have g_b5 : n0 ≤ b5 := Nat.le_trans (O.1 ▸ O.2.1) (Nat.le_of_eq gq5.symm)
    have z_b5 : h0.size ≤ b5 := Nat.le_trans K.1 (Nat.le_of_eq gq5.symm)
    have V_b := V_b.ext E5
    have E_b := E_b.ext E5
    have O := O.ext E5
    have K := K.ext E5
    have V_b5 : Arv Z h5 b5 kb .byte (3 : Int32) [.int (StrChars.lo8 xa), .int (StrChars.lo8 xb), .int (StrChars.lo8 xc)] (.int 0) := V_b5
    obtain ⟨T6, X6, e6, st6⟩ := castY X5 hx hZ hown (W 131 rfl) e5 (Ins.self A5) (g := (mkF m 25 (own_F15 (0 : Int32) b (1 : Int32)) [.ref b5])) rfl rfl (hb hby (D25 15))
    have w7 : own_Go p e below f0 T6 m 28 (own_F15 (0 : Int32) b (1 : Int32)) [.ref b5] := fun t k => by
      refine w3 t ?_
      refine zin X2 Hb (D25 12) ((if0 _ _).trans (teq hc18_4).2) <| zal X2 Hb (D25 13) rfl rfl <| st5 _ <| st6 _ ?_
      exact k
    have hh := own_h3 bxa bxb bxc hc18_4
    have hB : (((([] : List Value) ++ own_e1 xa) ++ own_e1 xb) ++ own_e1 xc) = [Value.int (StrChars.lo8 xa), Value.int (StrChars.lo8 xb), Value.int (StrChars.lo8 xc)] := by rw [own_ea hh.1, own_ea hh.2.1, own_ea hh.2.2]; simp only [own_bb]; rfl
    exact own_oR X6 Hb Bd.notSynchronized Bd.returns rfl w7 (D25 16) e6 (by decide) (by decide) ⟨b5, kb, rfl, N2, K, (by rw [hB]; exact V_b5), z_b5, g_b5⟩
  · have B8 := own_ln V_b
    have lt9_b := V_b.lt
    obtain ⟨_, T9, Lc9, X9, hQ9, st9⟩ := own_cS X2 Hb hZ hown hml (L := (own_F16 (0 : Int32) b (1 : Int32) (0 : Int32))) rfl (rm29_3 hw  O ) (W 136 rfl) (W 137 rfl) (W 22 rfl) (W 138 rfl) pd17 eh2 (D25 21) [.int 3] [] 0
    obtain ⟨z_9, kz_9, rfl, N9q, K9, V_z_c9, E_z_c9, gz_9, gn_9⟩ := hQ9
    have N9 := Fr.app N2 N9q
    have V_b := V_b.keep K9 nin0
    have E_b := E_b.keep K9
    have ne_b_z_9 : b ≠ z_9 := Nat.ne_of_lt (Nat.lt_of_lt_of_le lt9_b gz_9)
    have g_z_9 := gn_9
    have z_z_9 : h0.size ≤ z_9 := Nat.le_trans K.1 gz_9
    have O := O.keep K9 all0
    have K := K.trans K9 all0
    have B10 := own_ln V_b
    have w11 : own_Go p e below f0 T9 m 49 (own_F14 (0 : Int32) b (1 : Int32) (0 : Int32) z_9 b (3 : Int32) (0 : Int32)) [] := fun t k => by
      refine w3 t ?_
      refine ziy X2 Hb (D25 12) ((if0 _ _).trans (feq hc18_4).2) 29 (by decide) rfl <| zic X2 Hb (D25 17) 0 rfl <| zis X2 Hb (L' := (own_F16 (0 : Int32) b (1 : Int32) (0 : Int32))) (D25 18) rfl <| zal X2 Hb (D25 19) rfl rfl <| zal_ X2 Hb hZ eh2 B8 (D25 20) <| st9 _ <| zaS X9 Hb (L' := (own_F17 (0 : Int32) b (1 : Int32) (0 : Int32) z_9)) (D25 22) rfl rfl <| zal X9 Hb (D25 23) rfl rfl ?_
      refine zaS X9 Hb (L' := (own_F18 (0 : Int32) b (1 : Int32) (0 : Int32) z_9 b)) (D25 24) rfl rfl <| zaL X9 Hb (D25 25) rfl rfl <| zal_ X9 Hb hZ rfl B10 (D25 26) <| ziS X9 Hb (L' := (own_F19 (0 : Int32) b (1 : Int32) (0 : Int32) z_9 b (3 : Int32))) (D25 27) rfl <| zic X9 Hb (D25 28) 0 rfl <| ziS X9 Hb (L' := (own_F14 (0 : Int32) b (1 : Int32) (0 : Int32) z_9 b (3 : Int32) (0 : Int32))) (D25 29) rfl ?_
      exact k
    obtain ⟨T12, L12, pq_12, r2_12, X12, N12, K12, V_d_12, hpq_12, hr2_12, hr3_12, w12⟩ := fr25_0 hw b kb (3 : Int32) xa [.int (StrChars.lo8 xb), .int (StrChars.lo8 xc)] z_9 kz_9 (6 : Int32) (0 : Int32) (3 : Int32) ([] : List Value) 4 6 X9 hx Hb hZ hown hml ⟨by decide, by decide, by decide, by decide⟩ rfl N9 O V_b V_z_c9 ne_b_z_9 (by decide) (by decide) rfl rfl rfl (by decide) bxa g_z_9 w11
    have V_b := V_b.keep K12 (ninS ne_b_z_9 nin0)
    have E_b := E_b.keep K12
    have E_z_c9 := E_z_c9.keep K12
    have O := O.keep K12 (allS g_z_9 all0)
    have K := K.trans K12 (allS (Or.inr z_z_9) all0)
    obtain ⟨q_12, hq_12⟩ : ∃ q, r2_12 = q + 2 := ⟨r2_12 - 2, by omega⟩
    subst hq_12
    obtain ⟨T13, L13, pq_13, r2_13, X13, N13, K13, V_d_13, hpq_13, hr2_13, hr3_13, w13⟩ := fr25_1 hw b kb (3 : Int32) (StrChars.lo8 xa) xb [.int (StrChars.lo8 xc)] z_9 kz_9 (6 : Int32) pq_12 (3 : Int32) (([] : List Value) ++ own_e1 xa) q_12 6 (StrChars.lo8 xa) X12 hx Hb hZ hown hml ⟨by decide, by decide, by decide, by decide⟩ rfl N12 O V_b V_d_12 ne_b_z_9 (by decide) (by decide) hpq_12 hr2_12 rfl (by decide) bxb g_z_9 w12
    have V_b := V_b.keep K13 (ninS ne_b_z_9 nin0)
    have E_b := E_b.keep K13
    have E_z_c9 := E_z_c9.keep K13
    have O := O.keep K13 (allS g_z_9 all0)
    have K := K.trans K13 (allS (Or.inr z_z_9) all0)
    obtain ⟨q_13, hq_13⟩ : ∃ q, r2_13 = q + 2 := ⟨r2_13 - 2, by omega⟩
    subst hq_13
    obtain ⟨T14, L14, pq_14, r2_14, X14, N14, K14, V_d_14, hpq_14, hr2_14, hr3_14, w14⟩ := fr25_2 hw b kb (3 : Int32) (StrChars.lo8 xa) (StrChars.lo8 xb) xc [] z_9 kz_9 (6 : Int32) pq_13 (3 : Int32) ((([] : List Value) ++ own_e1 xa) ++ own_e1 xb) q_13 6 (StrChars.lo8 xb) X13 hx Hb hZ hown hml ⟨by decide, by decide, by decide, by decide⟩ rfl N13 O V_b V_d_13 ne_b_z_9 (by decide) (by decide) hpq_13 hr2_13 rfl (by decide) bxc g_z_9 w13
    have V_b := V_b.keep K14 (ninS ne_b_z_9 nin0)
    have E_b := E_b.keep K14
    have E_z_c9 := E_z_c9.keep K14
    have O := O.keep K14 (allS g_z_9 all0)
    have K := K.trans K14 (allS (Or.inr z_z_9) all0)
    have B15 := own_ln V_d_14
    have w16 : own_Go p e below f0 T14 m 128 (own_F13 (0 : Int32) b (1 : Int32) pq_14 z_9 b (3 : Int32) (3 : Int32) (StrChars.lo8 xc)) [.int 6, .int pq_14] := fun t k => by
      refine w14 t ?_
      refine ziL X14 Hb (D25 30) rfl <| ziL X14 Hb (D25 31) rfl <| zcy X14 Hb (D25 32) (flt ((by decide) : ¬ ((3 : Int32) < (3 : Int32)))).2.1 124 (by decide) rfl <| zil X14 Hb (D25 69) rfl <| zaL X14 Hb (D25 70) rfl rfl <| zal_ X14 Hb hZ rfl B15 (D25 71) ?_
      exact k
    by_cases hc128_17 : pq_14 = (6 : Int32)
    · have w18 : own_Go p e below f0 T14 m 133 (own_F13 (0 : Int32) b (1 : Int32) pq_14 z_9 b (3 : Int32) (3 : Int32) (StrChars.lo8 xc)) [.ref z_9] := fun t k => by
        refine w16 t ?_
        refine zcn X14 Hb (D25 72) (teq hc128_17).2 <| zaL X14 Hb (D25 73) rfl rfl ?_
        exact k
      have hr0 := own_r0 hpq_14 hr2_14 (nd := (6 : Int32)) rfl (by decide) hc128_17
      exact own_oR X14 Hb Bd.notSynchronized Bd.returns rfl w18 (D25 74) rfl (by decide) (by decide) ⟨z_9, kz_9, rfl, N14, K, (by rw [← hpq_14, hc128_17]; have q := V_d_14; rw [hr0, List.replicate_zero, List.append_nil] at q; exact q), z_z_9, g_z_9⟩
    · have lt19_b := V_b.lt
      have lt19_z_9 := E_z_c9.lt
      obtain ⟨_, T19, Lc19, X19, hQ19, st19⟩ := own_cS X14 Hb hZ hown hml (L := (own_F13 (0 : Int32) b (1 : Int32) pq_14 z_9 b (3 : Int32) (3 : Int32) (StrChars.lo8 xc))) rfl (rm31 hw z_9 pq_14 kz_9 (6 : Int32) (((([] : List Value) ++ own_e1 xa) ++ own_e1 xb) ++ own_e1 xc) r2_14 6 O V_d_14 hpq_14 hr2_14 rfl (by decide) hc128_17) (W 143 rfl) (W 144 rfl) (W 145 rfl) (W 146 rfl) pd14 rfl (D25 77) [.ref z_9, .int pq_14] [] 0
      obtain ⟨z_19, kz_19, rfl, N19q, K19, V_z_c19, gz_19, gn_19⟩ := hQ19
      have N19 := Fr.app N14 N19q
      have V_b := V_b.keep K19 nin0
      have E_b := E_b.keep K19
      have E_z_c9 := E_z_c9.keep K19
      have V_d_14 := V_d_14.keep K19 nin0
      have ne_b_z_19 : b ≠ z_19 := Nat.ne_of_lt (Nat.lt_of_lt_of_le lt19_b gz_19)
      have ne_z_9_z_19 : z_9 ≠ z_19 := Nat.ne_of_lt (Nat.lt_of_lt_of_le lt19_z_9 gz_19)
      have g_z_19 := gn_19
      have z_z_19 : h0.size ≤ z_19 := Nat.le_trans K.1 gz_19
      have O := O.keep K19 all0
      have K := K.trans K19 all0
      have w20 : own_Go p e below f0 T19 m 140 (own_F13 (0 : Int32) b (1 : Int32) pq_14 z_9 b (3 : Int32) (3 : Int32) (StrChars.lo8 xc)) [.ref z_19] := fun t k => by
        refine w16 t ?_
        refine zcy X14 Hb (D25 72) (feq hc128_17).2 134 (by decide) rfl <| zaL X14 Hb (D25 75) rfl rfl <| zil X14 Hb (D25 76) rfl <| st19 _ ?_
        exact k
      exact own_oR X19 Hb Bd.notSynchronized Bd.returns rfl w20 (D25 78) rfl (by decide) (by decide) ⟨z_19, kz_19, rfl, N19, K, (by rw [← hpq_14]; exact V_z_c19), z_z_19, g_z_19⟩
theorem pd18 : parseMethodDescriptor "([BZ)[B" = some ⟨[(.array .byte), .boolean], some (.array .byte)⟩ := by decide +kernel
theorem rm25_U (hw : own_W a0 Z) (b : Addr) (kb : ClassId) (cs : List Int32) {zc : Int32} {fm : Value} {fn : Value} {u8 : Addr} {h0 : Heap} {n0 : Nat} (O0 : Old Z n0 h0) (SU : own_SU Z zc fm fn u8) (V_b : Arv Z h0 b kb .byte (Int32.ofNat (2 * cs.length)) (own_wb cs) (.int 0)) (hWF : own_WF cs) (hB3 : cs.length ≤ 3) (hG : own_G cs) : own_M l own_n25 jdk_42_method_46_code 9 (some (.array .byte)) (own_rm 3 2 21 74) Z h0 #[.int 1, .ref b, .int 1] (fun v h L => ∃ z : Addr, ∃ kz : ClassId, v = some (.ref z) ∧ Fr n0 L ∧ Keep h0 h [] ∧ Arv Z h z kz .byte (Int32.ofNat (own_enw cs).length) (own_enw cs) (.int 0) ∧ h0.size ≤ z ∧ n0 ≤ z) := by
  refine own_body (L0 := #[.val (.int 1), .val (.ref b), .val (.int 1), .unset, .unset, .unset, .unset, .unset, .unset]) (plainFor_of_name pn_java_lang_String) rfl rfl ?_
  intro p e s m below meth c s₁ f0 Bd hx Hb hml hZ hown X0 e0 pre0
  have W := own_q hw
  have N0 := Fr.nil n0
  have O := O0
  have K := Keep.refl h0 []
  have lt1_b := V_b.lt
  obtain ⟨_, T1, Lc1, X1, hQ1, st1⟩ := own_cS X0 Hb hZ hown hml (L := (own_F15 (1 : Int32) b (1 : Int32))) rfl (rm66 hw b kb cs O SU V_b hWF hB3 hG) (W 324 rfl) (W 325 rfl) (W 8 rfl) (W 326 rfl) pd18 e0 (D25 5) [.ref b, .int 1] [] 0
  obtain ⟨z_1, kz_1, rfl, N1q, K1, V_z_c1, gz_1, gn_1⟩ := hQ1
  have N1 := Fr.app N0 N1q
  have V_b := V_b.keep K1 nin0
  have ne_b_z_1 : b ≠ z_1 := Nat.ne_of_lt (Nat.lt_of_lt_of_le lt1_b gz_1)
  have g_z_1 := gn_1
  have z_z_1 : h0.size ≤ z_1 := Nat.le_trans K.1 gz_1
  have O := O.keep K1 all0
  have K := K.trans K1 all0
  have w2 : own_Go p e below f0 T1 m 10 (own_F15 (1 : Int32) b (1 : Int32)) [.ref z_1] := fun t k => by
    refine pre0 t ?_
    refine zil X0 Hb (D25 0) rfl <| zic X0 Hb (D25 1) 1 rfl <| zcn X0 Hb (D25 2) (teq (rfl : (1 : Int32) = (1 : Int32))).2 <| zal X0 Hb (D25 3) rfl rfl <| zil X0 Hb (D25 4) rfl <| st1 _ ?_
    exact k
  exact own_oR X1 Hb Bd.notSynchronized Bd.returns rfl w2 (D25 6) rfl (by decide) (by decide) ⟨z_1, kz_1, rfl, N1, K, V_z_c1, z_z_1, g_z_1⟩
def L24 : List (Nat × Instr × Nat) := [(0, .aload_n 0, 1), (1, .getstatic 86, 3), (4, .if_acmp .ne 10, 3), (7, .iload_n 1, 1), (8, .aload_n 2, 1), (9, .iconst 1, 1), (10, .invokestatic 252, 3), (13, .areturn, 1)]
theorem D24 : ∀ k : Nat, own_PP jdk_42_method_18_code L24[k]? := own_dd (by decide +kernel)
theorem pd19 : parseMethodDescriptor "(B[BZ)[B" = some ⟨[.byte, (.array .byte), .boolean], some (.array .byte)⟩ := by decide +kernel
theorem rm24_U (hw : own_W a0 Z) (u8 b : Addr) (kb : ClassId) (cs : List Int32) {zc : Int32} {fm : Value} {fn : Value} {h0 : Heap} {n0 : Nat} (O0 : Old Z n0 h0) (SU : own_SU Z zc fm fn u8) (V_b : Arv Z h0 b kb .byte (Int32.ofNat (2 * cs.length)) (own_wb cs) (.int 0)) (hWF : own_WF cs) (hB3 : cs.length ≤ 3) (hG : own_G cs) : own_M l own_n24 jdk_42_method_18_code 3 (some (.array .byte)) (own_rm 4 2 21 94) Z h0 #[.ref u8, .int 1, .ref b] (fun v h L => ∃ z : Addr, ∃ kz : ClassId, v = some (.ref z) ∧ Fr n0 L ∧ Keep h0 h [] ∧ Arv Z h z kz .byte (Int32.ofNat (own_enw cs).length) (own_enw cs) (.int 0) ∧ h0.size ≤ z ∧ n0 ≤ z) := by
  refine own_body (L0 := #[.val (.ref u8), .val (.int 1), .val (.ref b)]) (plainFor_of_name pn_java_lang_String) rfl rfl ?_
  intro p e s m below meth c s₁ f0 Bd hx Hb hml hZ hown X0 e0 pre0
  have hby := Hb.2
  have W := own_q hw
  have N0 := Fr.nil n0
  have O := O0
  have K := Keep.refl h0 []
  obtain ⟨T1, X1, e1, st1⟩ := getS2 X0 hx hZ hown (host := "") (Or.inl (W 112 rfl)) Via.refl e0 (SU.2.2.2.2.2.2.1.ext O.2) (g := (mkF m 1 #[.val (.ref u8), .val (.int 1), .val (.ref b)] [.ref u8])) rfl (hb hby (D24 1))
  have lt2_b := V_b.lt
  obtain ⟨_, T2, Lc2, X2, hQ2, st2⟩ := own_cS X1 Hb hZ hown hml (L := #[.val (.ref u8), .val (.int 1), .val (.ref b)]) rfl (rm25_U hw b kb cs O SU V_b hWF hB3 hG) (W 114 rfl) (W 115 rfl) (W 8 rfl) (W 116 rfl) pd19 e1 (D24 6) [.int 1, .ref b, .int 1] [] 0
  obtain ⟨z_2, kz_2, rfl, N2q, K2, V_z_c2, gz_2, gn_2⟩ := hQ2
  have N2 := Fr.app N0 N2q
  have V_b := V_b.keep K2 nin0
  have ne_b_z_2 : b ≠ z_2 := Nat.ne_of_lt (Nat.lt_of_lt_of_le lt2_b gz_2)
  have g_z_2 := gn_2
  have z_z_2 : h0.size ≤ z_2 := Nat.le_trans K.1 gz_2
  have O := O.keep K2 all0
  have K := K.trans K2 all0
  have w3 : own_Go p e below f0 T2 m 13 #[.val (.ref u8), .val (.int 1), .val (.ref b)] [.ref z_2] := fun t k => by
    refine pre0 t ?_
    refine zal X0 Hb (D24 0) rfl rfl <| st1 _ <| Jvm.RoadKit.acmp (g := (mkF m 4 #[.val (.ref u8), .val (.int 1), .val (.ref b)] [.ref u8, .ref u8])) X1 hx rfl rfl rfl (pc0 := 4) (pc' := 7) (same := true) rfl (hb hby (D24 2)) rfl (decide_eq_true rfl) (by decide) (by decide) <| zil X1 Hb (D24 3) rfl <| zal X1 Hb (D24 4) rfl rfl <| zic X1 Hb (D24 5) 1 rfl <| st2 _ ?_
    exact k
  exact own_oR X2 Hb Bd.notSynchronized Bd.returns rfl w3 (D24 7) rfl (by decide) (by decide) ⟨z_2, kz_2, rfl, N2, K, V_z_c2, z_z_2, g_z_2⟩
def L23 : List (Nat × Instr × Nat) := [(0, .aload_n 1, 1), (1, .ifnonnull 11, 3), (12, .aload_n 1, 1), (13, .aload_n 0, 1), (14, .invokevirtual 335, 3), (17, .aload_n 0, 1), (18, .getfield 9, 3), (21, .invokestatic 535, 3), (24, .areturn, 1)]
theorem D23 : ∀ k : Nat, own_PP jdk_42_method_64_code L23[k]? := own_dd (by decide +kernel)
theorem pd20 : parseMethodDescriptor "(Ljava/nio/charset/Charset;B[B)[B" = some ⟨[(.object "java/nio/charset/Charset"), .byte, (.array .byte)], some (.array .byte)⟩ := by decide +kernel
theorem rm23_U (hw : own_W a0 Z) (a u8 tt : Addr) (kb : ClassId) (cs : List Int32) {zc : Int32} {fm : Value} {fn : Value} {h0 : Heap} {n0 : Nat} (O0 : Old Z n0 h0) (SU : own_SU Z zc fm fn u8) (E_a : Exa Z h0 a "java/lang/String") (F_v_a : Fld Z h0 a "java/lang/String" "value" "[B" (.ref tt)) (F_c_a : Fld Z h0 a "java/lang/String" "coder" "B" (.int 1)) (V_tt : Arv Z h0 tt kb .byte (Int32.ofNat (2 * cs.length)) (own_wb cs) (.int 0)) (hWF : own_WF cs) (hB3 : cs.length ≤ 3) (hG : own_G cs) : own_M l own_n23 jdk_42_method_64_code 2 (some (.array .byte)) (own_rm 5 2 21 108) Z h0 #[.ref a, .ref u8] (fun v h L => ∃ z : Addr, ∃ kz : ClassId, v = some (.ref z) ∧ Fr n0 L ∧ Keep h0 h [] ∧ Arv Z h z kz .byte (Int32.ofNat (own_enw cs).length) (own_enw cs) (.int 0) ∧ h0.size ≤ z ∧ n0 ≤ z) := by
  refine own_body (L0 := #[.val (.ref a), .val (.ref u8)]) (plainFor_of_name pn_java_lang_String) rfl rfl ?_
  intro p e s m below meth c s₁ f0 Bd hx Hb hml hZ hown X0 e0 pre0
  have hby := Hb.2
  have W := own_q hw
  have N0 := Fr.nil n0
  have O := O0
  have K := Keep.refl h0 []
  obtain ⟨_, T1, Lc1, X1, hQ1, st1⟩ := own_cV X0 Hb hZ hown hml (L := #[.val (.ref a), .val (.ref u8)]) rfl (rm16_U hw a O SU F_c_a) (W 70 rfl) (W 71 rfl) (W 73 rfl) (W 72 rfl) (W 8 rfl) (W 74 rfl) pd3 e0 E_a (D23 4) [] [.ref u8] 1
  obtain ⟨rfl, N1q, eh1⟩ := hQ1
  have N1 := Fr.app N0 N1q
  obtain ⟨T2, X2, e2, st2⟩ := getF X1 hx hZ hown (host := "") (Or.inl (W 33 rfl)) Via.refl eh1 F_v_a (g := (mkF m 18 #[.val (.ref a), .val (.ref u8)] [.ref a, .int 1, .ref u8])) rfl rfl (hb hby (D23 6))
  have lt3_a := E_a.lt
  have lt3_tt := V_tt.lt
  obtain ⟨_, T3, Lc3, X3, hQ3, st3⟩ := own_cS X2 Hb hZ hown hml (L := #[.val (.ref a), .val (.ref u8)]) rfl (rm24_U hw u8 tt kb cs O SU V_tt hWF hB3 hG) (W 109 rfl) (W 110 rfl) (W 8 rfl) (W 111 rfl) pd20 e2 (D23 7) [.ref u8, .int 1, .ref tt] [] 0
  obtain ⟨z_3, kz_3, rfl, N3q, K3, V_z_c3, gz_3, gn_3⟩ := hQ3
  have N3 := Fr.app N1 N3q
  have E_a := E_a.keep K3
  have F_v_a := F_v_a.keep K3 nin0
  have F_c_a := F_c_a.keep K3 nin0
  have V_tt := V_tt.keep K3 nin0
  have ne_a_z_3 : a ≠ z_3 := Nat.ne_of_lt (Nat.lt_of_lt_of_le lt3_a gz_3)
  have ne_tt_z_3 : tt ≠ z_3 := Nat.ne_of_lt (Nat.lt_of_lt_of_le lt3_tt gz_3)
  have g_z_3 := gn_3
  have z_z_3 : h0.size ≤ z_3 := Nat.le_trans K.1 gz_3
  have O := O.keep K3 all0
  have K := K.trans K3 all0
  have w4 : own_Go p e below f0 T3 m 24 #[.val (.ref a), .val (.ref u8)] [.ref z_3] := fun t k => by
    refine pre0 t ?_
    refine zal X0 Hb (D23 0) rfl rfl <| XS.ifnonnullYes X0.here hx rfl (pc0 := 1) (pc' := 12) rfl (hb hby (D23 1)) rfl (by decide) (by decide) <| zal X0 Hb (D23 2) rfl rfl <| zal X0 Hb (D23 3) rfl rfl <| st1 _ <| zal X1 Hb (D23 5) rfl rfl <| st2 _ <| st3 _ ?_
    exact k
  exact own_oR X3 Hb Bd.notSynchronized Bd.returns rfl w4 (D23 8) rfl (by decide) (by decide) ⟨z_3, kz_3, rfl, N3, K, V_z_c3, z_z_3, g_z_3⟩
theorem rm24_L (hw : own_W a0 Z) (u8 b : Addr) (kb : ClassId) (nn : Int32) (vv rb : List Value) {zc : Int32} {fm : Value} {fn : Value} {h0 : Heap} {n0 : Nat} (O0 : Old Z n0 h0) (SU : own_SU Z zc fm fn u8) (V_b : Arv Z h0 b kb .byte nn vv (.int 0)) (E_b : Exa Z h0 b "[B") (H25 : ∀ {hq : Heap}, Old Z n0 hq → Arv Z hq b kb .byte nn vv (.int 0) → Exa Z hq b "[B" → own_M l own_n25 jdk_42_method_46_code 9 (some (.array .byte)) (own_rm 2 2 18 54) Z hq #[.int 0, .ref b, .int 1] (fun v h L => ∃ z : Addr, ∃ kz : ClassId, v = some (.ref z) ∧ Fr n0 L ∧ Keep hq h [] ∧ Arv Z h z kz .byte (Int32.ofNat rb.length) rb (.int 0) ∧ hq.size ≤ z ∧ n0 ≤ z)) : own_M l own_n24 jdk_42_method_18_code 3 (some (.array .byte)) (own_rm 3 2 18 74) Z h0 #[.ref u8, .int 0, .ref b] (fun v h L => ∃ z : Addr, ∃ kz : ClassId, v = some (.ref z) ∧ Fr n0 L ∧ Keep h0 h [] ∧ Arv Z h z kz .byte (Int32.ofNat rb.length) rb (.int 0) ∧ h0.size ≤ z ∧ n0 ≤ z) := by
  refine own_body (L0 := #[.val (.ref u8), .val (.int 0), .val (.ref b)]) (plainFor_of_name pn_java_lang_String) rfl rfl ?_
  intro p e s m below meth c s₁ f0 Bd hx Hb hml hZ hown X0 e0 pre0
  have hby := Hb.2
  have W := own_q hw
  have N0 := Fr.nil n0
  have O := O0
  have K := Keep.refl h0 []
  obtain ⟨T1, X1, e1, st1⟩ := getS2 X0 hx hZ hown (host := "") (Or.inl (W 112 rfl)) Via.refl e0 (SU.2.2.2.2.2.2.1.ext O.2) (g := (mkF m 1 #[.val (.ref u8), .val (.int 0), .val (.ref b)] [.ref u8])) rfl (hb hby (D24 1))
  have lt2_b := V_b.lt
  obtain ⟨_, T2, Lc2, X2, hQ2, st2⟩ := own_cS X1 Hb hZ hown hml (L := #[.val (.ref u8), .val (.int 0), .val (.ref b)]) rfl (H25 O V_b E_b) (W 114 rfl) (W 115 rfl) (W 8 rfl) (W 116 rfl) pd19 e1 (D24 6) [.int 0, .ref b, .int 1] [] 0
  obtain ⟨z_2, kz_2, rfl, N2q, K2, V_z_c2, gz_2, gn_2⟩ := hQ2
  have N2 := Fr.app N0 N2q
  have V_b := V_b.keep K2 nin0
  have E_b := E_b.keep K2
  have ne_b_z_2 : b ≠ z_2 := Nat.ne_of_lt (Nat.lt_of_lt_of_le lt2_b gz_2)
  have g_z_2 := gn_2
  have z_z_2 : h0.size ≤ z_2 := Nat.le_trans K.1 gz_2
  have O := O.keep K2 all0
  have K := K.trans K2 all0
  have w3 : own_Go p e below f0 T2 m 13 #[.val (.ref u8), .val (.int 0), .val (.ref b)] [.ref z_2] := fun t k => by
    refine pre0 t ?_
    refine zal X0 Hb (D24 0) rfl rfl <| st1 _ <| Jvm.RoadKit.acmp (g := (mkF m 4 #[.val (.ref u8), .val (.int 0), .val (.ref b)] [.ref u8, .ref u8])) X1 hx rfl rfl rfl (pc0 := 4) (pc' := 7) (same := true) rfl (hb hby (D24 2)) rfl (decide_eq_true rfl) (by decide) (by decide) <| zil X1 Hb (D24 3) rfl <| zal X1 Hb (D24 4) rfl rfl <| zic X1 Hb (D24 5) 1 rfl <| st2 _ ?_
    exact k
  exact own_oR X2 Hb Bd.notSynchronized Bd.returns rfl w3 (D24 7) rfl (by decide) (by decide) ⟨z_2, kz_2, rfl, N2, K, V_z_c2, z_z_2, g_z_2⟩
theorem rm23_L (hw : own_W a0 Z) (a u8 tt : Addr) (kb : ClassId) (nn : Int32) (vv rb : List Value) {zc : Int32} {fm : Value} {fn : Value} {h0 : Heap} {n0 : Nat} (O0 : Old Z n0 h0) (SU : own_SU Z zc fm fn u8) (E_a : Exa Z h0 a "java/lang/String") (F_v_a : Fld Z h0 a "java/lang/String" "value" "[B" (.ref tt)) (F_c_a : Fld Z h0 a "java/lang/String" "coder" "B" (.int 0)) (V_tt : Arv Z h0 tt kb .byte nn vv (.int 0)) (E_tt : Exa Z h0 tt "[B") (H25 : ∀ {hq : Heap}, Old Z n0 hq → Arv Z hq tt kb .byte nn vv (.int 0) → Exa Z hq tt "[B" → own_M l own_n25 jdk_42_method_46_code 9 (some (.array .byte)) (own_rm 2 2 18 54) Z hq #[.int 0, .ref tt, .int 1] (fun v h L => ∃ z : Addr, ∃ kz : ClassId, v = some (.ref z) ∧ Fr n0 L ∧ Keep hq h [] ∧ Arv Z h z kz .byte (Int32.ofNat rb.length) rb (.int 0) ∧ hq.size ≤ z ∧ n0 ≤ z)) : own_M l own_n23 jdk_42_method_64_code 2 (some (.array .byte)) (own_rm 4 2 18 88) Z h0 #[.ref a, .ref u8] (fun v h L => ∃ z : Addr, ∃ kz : ClassId, v = some (.ref z) ∧ Fr n0 L ∧ Keep h0 h [] ∧ Arv Z h z kz .byte (Int32.ofNat rb.length) rb (.int 0) ∧ h0.size ≤ z ∧ n0 ≤ z) := by
  refine own_body (L0 := #[.val (.ref a), .val (.ref u8)]) (plainFor_of_name pn_java_lang_String) rfl rfl ?_
  intro p e s m below meth c s₁ f0 Bd hx Hb hml hZ hown X0 e0 pre0
  have hby := Hb.2
  have W := own_q hw
  have N0 := Fr.nil n0
  have O := O0
  have K := Keep.refl h0 []
  obtain ⟨_, T1, Lc1, X1, hQ1, st1⟩ := own_cV X0 Hb hZ hown hml (L := #[.val (.ref a), .val (.ref u8)]) rfl (rm16_L hw a O SU F_c_a) (W 70 rfl) (W 71 rfl) (W 73 rfl) (W 72 rfl) (W 8 rfl) (W 74 rfl) pd3 e0 E_a (D23 4) [] [.ref u8] 1
  obtain ⟨rfl, N1q, eh1⟩ := hQ1
  have N1 := Fr.app N0 N1q
  obtain ⟨T2, X2, e2, st2⟩ := getF X1 hx hZ hown (host := "") (Or.inl (W 33 rfl)) Via.refl eh1 F_v_a (g := (mkF m 18 #[.val (.ref a), .val (.ref u8)] [.ref a, .int 0, .ref u8])) rfl rfl (hb hby (D23 6))
  have lt3_a := E_a.lt
  have lt3_tt := V_tt.lt
  obtain ⟨_, T3, Lc3, X3, hQ3, st3⟩ := own_cS X2 Hb hZ hown hml (L := #[.val (.ref a), .val (.ref u8)]) rfl (rm24_L hw u8 tt kb nn vv rb O SU V_tt E_tt H25) (W 109 rfl) (W 110 rfl) (W 8 rfl) (W 111 rfl) pd20 e2 (D23 7) [.ref u8, .int 0, .ref tt] [] 0
  obtain ⟨z_3, kz_3, rfl, N3q, K3, V_z_c3, gz_3, gn_3⟩ := hQ3
  have N3 := Fr.app N1 N3q
  have E_a := E_a.keep K3
  have F_v_a := F_v_a.keep K3 nin0
  have F_c_a := F_c_a.keep K3 nin0
  have V_tt := V_tt.keep K3 nin0
  have E_tt := E_tt.keep K3
  have ne_a_z_3 : a ≠ z_3 := Nat.ne_of_lt (Nat.lt_of_lt_of_le lt3_a gz_3)
  have ne_tt_z_3 : tt ≠ z_3 := Nat.ne_of_lt (Nat.lt_of_lt_of_le lt3_tt gz_3)
  have g_z_3 := gn_3
  have z_z_3 : h0.size ≤ z_3 := Nat.le_trans K.1 gz_3
  have O := O.keep K3 all0
  have K := K.trans K3 all0
  have w4 : own_Go p e below f0 T3 m 24 #[.val (.ref a), .val (.ref u8)] [.ref z_3] := fun t k => by
    refine pre0 t ?_
    refine zal X0 Hb (D23 0) rfl rfl <| XS.ifnonnullYes X0.here hx rfl (pc0 := 1) (pc' := 12) rfl (hb hby (D23 1)) rfl (by decide) (by decide) <| zal X0 Hb (D23 2) rfl rfl <| zal X0 Hb (D23 3) rfl rfl <| st1 _ <| zal X1 Hb (D23 5) rfl rfl <| st2 _ <| st3 _ ?_
    exact k
  exact own_oR X3 Hb Bd.notSynchronized Bd.returns rfl w4 (D23 8) rfl (by decide) (by decide) ⟨z_3, kz_3, rfl, N3, K, V_z_c3, z_z_3, g_z_3⟩
theorem own_nm {n : Nat} {nn : Int32} (hn : nn = Int32.ofNat n) (hB3 : n ≤ 3) : ¬ nn < (0 : Int32) ∧ nn < (1073741823 : Int32) ∧ (nn <<< ((1 : Int32) &&& 31)) = Int32.ofNat (2 * n) ∧ nn.toNatClampNeg ≤ 3 ∧ ¬ Int32.ofNat (2 * n) < 0 ∧ (Int32.ofNat (2 * n)).toNatClampNeg ≤ 6 ∧ (Int32.ofNat (2 * n) >>> ((1 : Int32) &&& 31)) = Int32.ofNat n := by
  subst hn
  exact own_nq3 n (by omega)
def own_lb (ys : List Int32) : List Value := ys.map fun c => .int (own_b c)
def own_L (ys : List Int32) : Prop := ∀ c ∈ ys, (own_b c &&& (255 : Int32)) = c
def own_ce (c : Int32) : Int32 := if (255 : Int32) < c then (0 : Int32) else (1 : Int32)
theorem own_pw (bs : List Value) (v w : Value) : (bs ++ List.replicate 1 v).set bs.length w = bs ++ [w] := by
  have q := own_pv bs 0 v w
  simpa using q
theorem own_z1 : ∀ n < 4, ∀ k < n + 1, ¬ ((Int32.ofNat n ||| (0 : Int32)) ||| Int32.ofNat k) < (0 : Int32) ∧ ¬ (Int32.ofNat n - (0 : Int32)) < Int32.ofNat k := by decide +kernel
theorem rm30_g (hw : own_W a0 Z) (nn : Int32) (n : Nat) {h0 : Heap} {n0 : Nat} (O0 : Old Z n0 h0) (hn : nn = Int32.ofNat n) (hB3 : n ≤ 3) : own_M l own_n30 jdk_52_method_3_code 1 (some .int) (own_rm 0 0 0 0) Z h0 #[.int nn] (fun v h L => v = some (.int (Int32.ofNat (2 * n))) ∧ Fr n0 L ∧ h = h0) := by
  refine own_body (L0 := #[.val (.int nn)]) (plainFor_of_name pn_java_lang_StringUTF16) rfl rfl ?_
  intro p e s m below meth c s₁ f0 Bd hx Hb hml hZ hown X0 e0 pre0
  have hby := Hb.2
  have W := own_q hw
  have N0 := Fr.nil n0
  have O := O0
  have w1 : own_Go p e below f0 s₁ m 58 #[.val (.int nn)] [(.int (nn <<< ((1 : Int32) &&& 31)))] := fun t k => by
    refine pre0 t ?_
    refine zil X0 Hb (D30 0) rfl <| ziy X0 Hb (D30 1) ((if0 _ _).trans (flt ((own_nm hn hB3).1 : ¬ (nn < (0 : Int32)))).2.1) 12 (by decide) rfl <| zil X0 Hb (D30 2) rfl <| X0.ldcInt hx hown (mvT hZ (W 142 rfl)) (g := (mkF m 13 #[.val (.int nn)] [.int nn])) rfl (hb hby (D30 3)) _ <| zcy X0 Hb (D30 4) (tlt ((own_nm hn hB3).2.1 : nn < (1073741823 : Int32))).1 55 (by decide) rfl <| zil X0 Hb (D30 5) rfl <| zic X0 Hb (D30 6) 1 rfl <| zsl X0 Hb (D30 7) ?_
    exact k
  exact own_oI X0 Hb Bd.notSynchronized Bd.returns w1 (D30 8) e0 (by decide) (by decide) ⟨(congrArg (fun x => some (Value.int x)) (own_nm hn hB3).2.2.1), N0, rfl⟩
theorem rm29_g (hw : own_W a0 Z) (nn : Int32) (n : Nat) {h0 : Heap} {n0 : Nat} (O0 : Old Z n0 h0) (hn : nn = Int32.ofNat n) (hB3 : n ≤ 3) : own_M l own_n29 jdk_52_method_2_code 1 (some (.array .byte)) (own_rm 1 1 6 12) Z h0 #[.int nn] (fun v h L => ∃ z : Addr, ∃ kz : ClassId, v = some (.ref z) ∧ Fr n0 L ∧ Keep h0 h [] ∧ Arv Z h z kz .byte (Int32.ofNat (2 * n)) [] (.int 0) ∧ Exa Z h z "[B" ∧ h0.size ≤ z ∧ n0 ≤ z) := by
  refine own_body (L0 := #[.val (.int nn)]) (plainFor_of_name pn_java_lang_StringUTF16) rfl rfl ?_
  intro p e s m below meth c s₁ f0 Bd hx Hb hml hZ hown X0 e0 pre0
  have hby := Hb.2
  have W := own_q hw
  have N0 := Fr.nil n0
  have O := O0
  have K := Keep.refl h0 []
  obtain ⟨_, T1, Lc1, X1, hQ1, st1⟩ := own_cS X0 Hb hZ hown hml (L := #[.val (.int nn)]) rfl (rm30_g hw nn n O hn hB3) (W 139 rfl) (W 140 rfl) (W 22 rfl) (W 141 rfl) pd2 e0 (D29 1) [.int nn] [] 0
  obtain ⟨rfl, N1q, eh1⟩ := hQ1
  have N1 := Fr.app N0 N1q
  obtain ⟨T2, h2, k2, X2, e2, E2, A2, EX2, st2⟩ := newPE X1 hx hZ (W 24 rfl) eh1 (g := (mkF m 4 #[.val (.int nn)] [(.int (Int32.ofNat (2 * n)))])) rfl (hb hby (D29 2)) rfl (own_nm hn hB3).2.2.2.2.1 (cap := 6) (own_nm hn hB3).2.2.2.2.2.1 (by decide) (by decide) (by decide) (ad := "[B") (by decide)
  obtain ⟨b2, gq2⟩ : ∃ z, z = Array.size h0 := ⟨_, rfl⟩
  rw [← gq2] at A2 EX2 st2
  have g_b2 : n0 ≤ b2 := Nat.le_trans (O.1 ▸ O.2.1) (Nat.le_of_eq gq2.symm)
  have z_b2 : h0.size ≤ b2 := Nat.le_trans K.1 (Nat.le_of_eq gq2.symm)
  have O := O.ext E2
  have K := K.ext E2
  have V_b2 : Arv Z h2 b2 k2 .byte (Int32.ofNat (2 * n)) [] (.int 0) := (Arv.new A2 (own_nm hn hB3).2.2.2.2.1)
  have w3 : own_Go p e below f0 T2 m 6 #[.val (.int nn)] [.ref b2] := fun t k => by
    refine pre0 t ?_
    refine zil X0 Hb (D29 0) rfl <| st1 _ <| st2 _ ?_
    exact k
  exact own_oR X2 Hb Bd.notSynchronized Bd.returns rfl w3 (D29 3) e2 (by decide) (by decide) ⟨b2, k2, rfl, N1, K, V_b2, EX2, z_b2, g_b2⟩
theorem own_pa {n : Nat} {ys : List Int32} {jj nn : Int32} (hk : jj = Int32.ofNat ys.length) (hn : nn = Int32.ofNat (2 * n)) (hkn : ys.length < n) (hB3 : n ≤ 3) : (¬ (jj <<< ((1 : Int32) &&& 31)) < 0 ∧ (jj <<< ((1 : Int32) &&& 31)) < nn) ∧ (jj <<< ((1 : Int32) &&& 31)).toNatClampNeg = (own_wb ys).length ∧ (¬ ((jj <<< ((1 : Int32) &&& 31)) + (1 : Int32)) < 0 ∧ ((jj <<< ((1 : Int32) &&& 31)) + (1 : Int32)) < nn) ∧ (∀ w : Value, ((jj <<< ((1 : Int32) &&& 31)) + (1 : Int32)).toNatClampNeg = (own_wb ys ++ [w]).length) ∧ (nn >>> ((1 : Int32) &&& 31)) = Int32.ofNat n ∧ ¬ jj < 0 ∧ jj < Int32.ofNat n := by
  subst hk hn
  have A := own_ar n (by omega) ys.length hkn
  exact ⟨A.1, by rw [A.2.2.2.2.2.1, own_wbl], A.2.1, fun w => by rw [A.2.2.2.2.2.2, List.length_append, own_wbl]; rfl, A.2.2.1, A.2.2.2.1, A.2.2.2.2.1⟩
theorem own_wq (ys : List Int32) (q : Int32) : own_wb (ys ++ [q]) = (own_wb ys ++ [.int (own_lo q)]) ++ [.int (own_hi q)] := by
  rw [own_wba, List.append_assoc]
  rfl
def L34 : List (Nat × Instr × Nat) := [(0, .getstatic 44, 3), (3, .ifCond .ne 25, 3), (28, .iload_n 1, 1), (29, .iconst 1, 1), (30, .ishl, 1), (31, .istore_n 1, 1), (32, .aload_n 0, 1), (33, .iload_n 1, 1), (34, .iinc 1 1, 3), (37, .iload_n 2, 1), (38, .getstatic 59, 3), (41, .ishr, 1), (42, .i2b, 1), (43, .bastore, 1), (44, .aload_n 0, 1), (45, .iload_n 1, 1), (46, .iload_n 2, 1), (47, .getstatic 63, 3), (50, .ishr, 1), (51, .i2b, 1), (52, .bastore, 1), (53, .return_, 1)]
theorem D34 : ∀ k : Nat, own_PP jdk_52_method_4_code L34[k]? := own_dd (by decide +kernel)
theorem rm34_g (hw : own_W a0 Z) (d : Addr) (jj q : Int32) (kd : ClassId) (nn : Int32) (ys : List Int32) (n : Nat) {zc : Int32} {fm : Value} {fn : Value} {u8 : Addr} {h0 : Heap} {n0 : Nat} (O0 : Old Z n0 h0) (SU : own_SU Z zc fm fn u8) (V_d : Arv Z h0 d kd .byte nn (own_wb ys) (.int 0)) (hk : jj = Int32.ofNat ys.length) (hn : nn = Int32.ofNat (2 * n)) (hkn : ys.length < n) (hB3 : n ≤ 3) (g_d : n0 ≤ d) : own_M l own_n34 jdk_52_method_4_code 3 none (own_rm 0 0 0 0) Z h0 #[.ref d, .int jj, .int q] (fun v h L => v = none ∧ Fr n0 L ∧ Keep h0 h [d] ∧ Arv Z h d kd .byte nn (own_wb (ys ++ [q])) (.int 0)) := by
  refine own_body (L0 := #[.val (.ref d), .val (.int jj), .val (.int q)]) (plainFor_of_name pn_java_lang_StringUTF16) rfl rfl ?_
  intro p e s m below meth c s₁ f0 Bd hx Hb hml hZ hown X0 e0 pre0
  have hby := Hb.2
  have W := own_q hw
  have N0 := Fr.nil n0
  have O := O0
  have K := Keep.refl h0 [d]
  have PA := own_pa hk hn hkn hB3
  obtain ⟨T1, X1, e1, st1⟩ := getS2 X0 hx hZ hown (host := "") (Or.inl (W 165 rfl)) Via.refl e0 (SU.1.ext O.2) (g := (mkF m 0 #[.val (.ref d), .val (.int jj), .val (.int q)] [])) rfl (hb hby (D34 0))
  obtain ⟨T2, X2, e2, st2⟩ := getS2 X1 hx hZ hown (host := "") (Or.inl (W 166 rfl)) Via.refl e1 (SU.2.1.ext O.2) (g := (mkF m 38 #[.val (.ref d), .val (.int ((jj <<< ((1 : Int32) &&& 31)) + (1 : Int32))), .val (.int q)] [.int q, (.int (jj <<< ((1 : Int32) &&& 31))), .ref d])) rfl (hb hby (D34 10))
  have V_d := V_d.pad (pad_rep _ _ 2)
  obtain ⟨T3, h3, X3, e3, W3, V_d, st3⟩ := own_sB X2 Hb hZ e2 V_d (x := ((q >>> ((0 : Int32) &&& 31)).toInt8.toInt32)) (L := #[.val (.ref d), .val (.int ((jj <<< ((1 : Int32) &&& 31)) + (1 : Int32))), .val (.int q)]) (S := []) PA.1 PA.2.1 (own_pl _ 1 _) (D34 13) (own_pv _ 1 _ _)
  have O := O.wr W3 g_d
  have K := K.wr W3 (Or.inl (List.mem_of_getElem? (i := 0) rfl))
  have N3 := Fr.snoc X3 N0 g_d
  obtain ⟨T4, X4, e4, st4⟩ := getS2 X3 hx hZ hown (host := "") (Or.inl (W 167 rfl)) Via.refl e3 (SU.2.2.1.ext O.2) (g := (mkF m 47 #[.val (.ref d), .val (.int ((jj <<< ((1 : Int32) &&& 31)) + (1 : Int32))), .val (.int q)] [.int q, (.int ((jj <<< ((1 : Int32) &&& 31)) + (1 : Int32))), .ref d])) rfl (hb hby (D34 17))
  obtain ⟨T5, h5, X5, e5, W5, V_d, st5⟩ := own_sB X4 Hb hZ e4 V_d (x := ((q >>> ((8 : Int32) &&& 31)).toInt8.toInt32)) (L := #[.val (.ref d), .val (.int ((jj <<< ((1 : Int32) &&& 31)) + (1 : Int32))), .val (.int q)]) (S := []) PA.2.2.1 (PA.2.2.2.1 _) (own_pl _ 0 _) (D34 20) (own_pw _ _ _)
  have O := O.wr W5 g_d
  have K := K.wr W5 (Or.inl (List.mem_of_getElem? (i := 0) rfl))
  have N5 := Fr.snoc X5 N3 g_d
  have w6 : own_Go p e below f0 T5 m 53 #[.val (.ref d), .val (.int ((jj <<< ((1 : Int32) &&& 31)) + (1 : Int32))), .val (.int q)] [] := fun t k => by
    refine pre0 t ?_
    refine st1 _ <| ziy X1 Hb (D34 1) ((if0 _ _).trans (feq ((by decide) : ¬ ((1 : Int32) = (0 : Int32)))).2) 28 (by decide) rfl <| zil X1 Hb (D34 2) rfl <| zic X1 Hb (D34 3) 1 rfl <| zsl X1 Hb (D34 4) <| zis X1 Hb (L' := #[.val (.ref d), .val (.int (jj <<< ((1 : Int32) &&& 31))), .val (.int q)]) (D34 5) rfl <| zal X1 Hb (D34 6) rfl rfl <| zil X1 Hb (D34 7) rfl ?_
    refine zii X1 Hb (L' := #[.val (.ref d), .val (.int ((jj <<< ((1 : Int32) &&& 31)) + (1 : Int32))), .val (.int q)]) (D34 8) rfl ((jj <<< ((1 : Int32) &&& 31)) + (1 : Int32)) rfl rfl <| zil X1 Hb (D34 9) rfl <| st2 _ <| zsr X2 Hb (D34 11) <| zib X2 Hb (D34 12) <| st3 _ <| zal X3 Hb (D34 14) rfl rfl <| zil X3 Hb (D34 15) rfl ?_
    refine zil X3 Hb (D34 16) rfl <| st4 _ <| zsr X4 Hb (D34 18) <| zib X4 Hb (D34 19) <| st5 _ ?_
    exact k
  exact own_oV X5 Hb Bd.notSynchronized Bd.returns w6 (D34 21) e5 (by decide) (by decide) ⟨rfl, N5, K, (by rw [own_wq]; exact V_d)⟩
def L57 : List (Nat × Instr × Nat) := [(0, .iload_n 1, 1), (1, .aload_n 0, 1), (2, .invokestatic 67, 3), (5, .aload_n 0, 1), (6, .iload_n 1, 1), (7, .iload_n 2, 1), (8, .invokestatic 111, 3), (11, .return_, 1)]
theorem D57 : ∀ k : Nat, own_PP jdk_52_method_71_code L57[k]? := own_dd (by decide +kernel)
theorem pd21 : parseMethodDescriptor "([BII)V" = some ⟨[(.array .byte), .int, .int], none⟩ := by decide +kernel
theorem rm57 (hw : own_W a0 Z) (d : Addr) (jj q : Int32) (kd : ClassId) (nn : Int32) (ys : List Int32) (n : Nat) {zc : Int32} {fm : Value} {fn : Value} {u8 : Addr} {h0 : Heap} {n0 : Nat} (O0 : Old Z n0 h0) (SU : own_SU Z zc fm fn u8) (V_d : Arv Z h0 d kd .byte nn (own_wb ys) (.int 0)) (hk : jj = Int32.ofNat ys.length) (hn : nn = Int32.ofNat (2 * n)) (hkn : ys.length < n) (hB3 : n ≤ 3) (g_d : n0 ≤ d) : own_M l own_n57 jdk_52_method_71_code 3 none (own_rm 3 0 0 40) Z h0 #[.ref d, .int jj, .int q] (fun v h L => v = none ∧ Fr n0 L ∧ Keep h0 h [d] ∧ Arv Z h d kd .byte nn (own_wb (ys ++ [q])) (.int 0)) := by
  refine own_body (L0 := #[.val (.ref d), .val (.int jj), .val (.int q)]) (plainFor_of_name pn_java_lang_StringUTF16) rfl rfl ?_
  intro p e s m below meth c s₁ f0 Bd hx Hb hml hZ hown X0 e0 pre0
  have W := own_q hw
  have N0 := Fr.nil n0
  have O := O0
  have K := Keep.refl h0 [d]
  have PA := own_pa hk hn hkn hB3
  obtain ⟨_, T1, Lc1, X1, hQ1, st1⟩ := own_cS X0 Hb hZ hown hml (L := #[.val (.ref d), .val (.int jj), .val (.int q)]) rfl (rm37 hw jj d kd nn (own_wb ys) (Int32.ofNat n) O SU V_d PA.2.2.2.2.1 PA.2.2.2.2.2.1 PA.2.2.2.2.2.2) (W 177 rfl) (W 178 rfl) (W 22 rfl) (W 179 rfl) pd7 e0 (D57 2) [.int jj, .ref d] [] 0
  obtain ⟨rfl, N1q, eh1⟩ := hQ1
  have N1 := Fr.app N0 N1q
  obtain ⟨_, T2, Lc2, X2, hQ2, st2⟩ := own_cS X1 Hb hZ hown hml (L := #[.val (.ref d), .val (.int jj), .val (.int q)]) rfl (rm34_g hw d jj q kd nn ys n O SU V_d hk hn hkn hB3 g_d) (W 162 rfl) (W 163 rfl) (W 22 rfl) (W 164 rfl) pd21 eh1 (D57 6) [.ref d, .int jj, .int q] [] 0
  obtain ⟨rfl, N2q, K2, V_d_c2⟩ := hQ2
  have N2 := Fr.app N1 N2q
  have O := O.keep K2 (allS g_d all0)
  have K := K.trans K2 (allS (Or.inl (List.mem_of_getElem? (i := 0) rfl)) all0)
  have w3 : own_Go p e below f0 T2 m 11 #[.val (.ref d), .val (.int jj), .val (.int q)] [] := fun t k => by
    refine pre0 t ?_
    refine zil X0 Hb (D57 0) rfl <| zal X0 Hb (D57 1) rfl rfl <| st1 _ <| zal X1 Hb (D57 3) rfl rfl <| zil X1 Hb (D57 4) rfl <| zil X1 Hb (D57 5) rfl <| st2 _ ?_
    exact k
  exact own_oV X2 Hb Bd.notSynchronized Bd.returns w3 (D57 7) rfl (by decide) (by decide) ⟨rfl, N2, K, V_d_c2⟩
def L41 : List (Nat × Instr × Nat) := [(0, .aload_n 0, 1), (1, .invokespecial 3, 3), (4, .getstatic 18, 3), (7, .ifCond .eq 18, 3), (10, .aload_n 0, 1), (11, .iload_n 1, 1), (12, .newarray .byte, 2), (14, .putfield 15, 3), (17, .aload_n 0, 1), (18, .iconst 0, 1), (19, .putfield 22, 3), (22, .goto 16, 3), (38, .return_, 1)]
theorem D41 : ∀ k : Nat, own_PP jdk_68_method_2_code L41[k]? := own_dd (by decide +kernel)
theorem pn_java_lang_AbstractStringBuilder : plainName "java/lang/AbstractStringBuilder" = true := by first | (simp [plainName, overriddenIn]; done) | decide +kernel
theorem rm41 (hw : own_W a0 Z) (a : Addr) (nn : Int32) (n : Nat) {zc : Int32} {fm : Value} {fn : Value} {u8 : Addr} {h0 : Heap} {n0 : Nat} (O0 : Old Z n0 h0) (SU : own_SU Z zc fm fn u8) (E_a : Exa Z h0 a "java/lang/StringBuilder") (F_v_a : Fld Z h0 a "java/lang/AbstractStringBuilder" "value" "[B" .null) (F_c_a : Fld Z h0 a "java/lang/AbstractStringBuilder" "coder" "B" (.int 0)) (F_n_a : Fld Z h0 a "java/lang/AbstractStringBuilder" "count" "I" (.int 0)) (F_m_a : Fld Z h0 a "java/lang/AbstractStringBuilder" "maybeLatin1" "Z" (.int 0)) (hn : nn = Int32.ofNat n) (hB3 : n ≤ 3) (g_a : n0 ≤ a) : own_M l own_n41 jdk_68_method_2_code 2 none (own_rm 1 1 3 12) Z h0 #[.ref a, .int nn] (fun v h L => ∃ z : Addr, ∃ kz : ClassId, v = none ∧ Fr n0 L ∧ Keep h0 h [a] ∧ Fld Z h a "java/lang/AbstractStringBuilder" "value" "[B" (.ref z) ∧ Fld Z h a "java/lang/AbstractStringBuilder" "coder" "B" (.int 0) ∧ Fld Z h a "java/lang/AbstractStringBuilder" "count" "I" (.int 0) ∧ Fld Z h a "java/lang/AbstractStringBuilder" "maybeLatin1" "Z" (.int 0) ∧ Arv Z h z kz .byte nn [] (.int 0) ∧ Exa Z h z "[B" ∧ h0.size ≤ z ∧ n0 ≤ z) := by
  refine own_body (L0 := #[.val (.ref a), .val (.int nn)]) (plainFor_of_name pn_java_lang_AbstractStringBuilder) rfl rfl ?_
  intro p e s m below meth c s₁ f0 Bd hx Hb hml hZ hown X0 e0 pre0
  have hby := Hb.2
  have W := own_q hw
  have N0 := Fr.nil n0
  have O := O0
  have K := Keep.refl h0 [a]
  obtain ⟨T1, X1, e1, st1⟩ := initO X0 hx hZ hown (W 201 rfl) (W 17 rfl) (W 18 rfl) e0 (g := (mkF m 1 #[.val (.ref a), .val (.int nn)] [.ref a])) rfl (by rw [hml]; rfl) rfl (hb hby (D41 1)) (by decide) (W := 0) (by show 2 * 0 + _ ≤ _; exact Nat.le_of_eq rfl) (by decide)
  obtain ⟨T2, X2, e2, st2⟩ := getS2 X1 hx hZ hown (host := "") (Or.inl (W 202 rfl)) Via.refl e1 (SU.2.2.2.1.ext O.2) (g := (mkF m 4 #[.val (.ref a), .val (.int nn)] [])) rfl (hb hby (D41 2))
  obtain ⟨T3, h3, k3, X3, e3, E3, A3, EX3, st3⟩ := newPE X2 hx hZ (W 24 rfl) e2 (g := (mkF m 12 #[.val (.ref a), .val (.int nn)] [.int nn, .ref a])) rfl (hb hby (D41 6)) rfl (own_nm hn hB3).1 (cap := 3) (own_nm hn hB3).2.2.2.1 (by decide) (by decide) (by decide) (ad := "[B") (by decide)
  obtain ⟨b3, gq3⟩ : ∃ z, z = Array.size h0 := ⟨_, rfl⟩
  rw [← gq3] at A3 EX3 st3
  have ne_a_b3 : a ≠ b3 := Nat.ne_of_lt (Nat.lt_of_lt_of_le E_a.lt (Nat.le_of_eq gq3.symm))
  have g_b3 : n0 ≤ b3 := Nat.le_trans (O.1 ▸ O.2.1) (Nat.le_of_eq gq3.symm)
  have z_b3 : h0.size ≤ b3 := Nat.le_trans K.1 (Nat.le_of_eq gq3.symm)
  have E_a := E_a.ext E3
  have F_v_a := F_v_a.ext E3
  have F_c_a := F_c_a.ext E3
  have F_n_a := F_n_a.ext E3
  have F_m_a := F_m_a.ext E3
  have O := O.ext E3
  have K := K.ext E3
  have V_b3 : Arv Z h3 b3 k3 .byte nn [] (.int 0) := (Arv.new A3 (own_nm hn hB3).1)
  obtain ⟨T4, h4, X4, e4, W4, st4⟩ := putF X3 hx hZ hown (host := "") (Or.inl (W 203 rfl)) Via.refl e3 F_v_a E_a (Or.inl (W 204 rfl)) (W 190 rfl) (ty := (.array .byte)) (by decide) rfl rfl (g := (mkF m 14 #[.val (.ref a), .val (.int nn)] [.ref b3, .ref a])) rfl rfl (hb hby (D41 7))
  have F_v_a := F_v_a.same W4
  have E_a := E_a.wr W4
  have F_c_a := F_c_a.other W4 (Or.inr (slot_ne (Or.inl (W 206 rfl)) (Or.inl (W 204 rfl)) (by decide) (t := .byte) (t' := (.array .byte)) (by decide) (by decide)))
  have F_n_a := F_n_a.other W4 (Or.inr (slot_ne (Or.inl (W 229 rfl)) (Or.inl (W 204 rfl)) (by decide) (t := .int) (t' := (.array .byte)) (by decide) (by decide)))
  have F_m_a := F_m_a.other W4 (Or.inr (slot_ne (Or.inl (W 318 rfl)) (Or.inl (W 204 rfl)) (by decide) (t := .boolean) (t' := (.array .byte)) (by decide) (by decide)))
  have EX3 := EX3.wr W4
  have V_b3 := V_b3.other W4 (Ne.symm ne_a_b3)
  have O := O.wr W4 g_a
  have K := K.wr W4 (Or.inl (List.mem_of_getElem? (i := 0) rfl))
  have N4 := Fr.snoc X4 N0 g_a
  obtain ⟨T5, h5, X5, e5, W5, st5⟩ := putFN X4 hx hZ hown (W 205 rfl) Via.refl e4 F_c_a E_a (Or.inl (W 206 rfl)) (W 190 rfl) (ty := .byte) (v' := (.int 0)) (by decide) rfl rfl (g := (mkF m 19 #[.val (.ref a), .val (.int nn)] [.int 0, .ref a])) rfl rfl (hb hby (D41 10))
  have F_c_a := F_c_a.same W5
  have E_a := E_a.wr W5
  have F_v_a := F_v_a.other W5 (Or.inr (slot_ne (Or.inl (W 204 rfl)) (Or.inl (W 206 rfl)) (by decide) (t := (.array .byte)) (t' := .byte) (by decide) (by decide)))
  have F_n_a := F_n_a.other W5 (Or.inr (slot_ne (Or.inl (W 229 rfl)) (Or.inl (W 206 rfl)) (by decide) (t := .int) (t' := .byte) (by decide) (by decide)))
  have F_m_a := F_m_a.other W5 (Or.inr (slot_ne (Or.inl (W 318 rfl)) (Or.inl (W 206 rfl)) (by decide) (t := .boolean) (t' := .byte) (by decide) (by decide)))
  have EX3 := EX3.wr W5
  have V_b3 := V_b3.other W5 (Ne.symm ne_a_b3)
  have O := O.wr W5 g_a
  have K := K.wr W5 (Or.inl (List.mem_of_getElem? (i := 0) rfl))
  have N5 := Fr.snoc X5 N4 g_a
  have w6 : own_Go p e below f0 T5 m 38 #[.val (.ref a), .val (.int nn)] [] := fun t k => by
    refine pre0 t ?_
    refine zal X0 Hb (D41 0) rfl rfl <| st1 _ <| st2 _ <| zin X2 Hb (D41 3) ((if0 _ _).trans (feq (SU.2.2.2.2.2.2.2.2.1 : ¬ (zc = (0 : Int32)))).1) <| zal X2 Hb (D41 4) rfl rfl <| zil X2 Hb (D41 5) rfl <| st3 _ <| st4 _ ?_
    refine zal X4 Hb (D41 8) rfl rfl <| zic X4 Hb (D41 9) 0 rfl <| st5 _ <| zgo X5 Hb (D41 11) 38 (by decide) rfl ?_
    exact k
  exact own_oV X5 Hb Bd.notSynchronized Bd.returns w6 (D41 12) e5 (by decide) (by decide) ⟨b3, k3, rfl, N5, K, F_v_a, F_c_a, F_n_a, F_m_a, V_b3, EX3, z_b3, g_b3⟩
def L40 : List (Nat × Instr × Nat) := [(0, .aload_n 0, 1), (1, .iload_n 1, 1), (2, .invokespecial 1, 3), (5, .return_, 1)]
theorem D40 : ∀ k : Nat, own_PP jdk_67_method_2_code L40[k]? := own_dd (by decide +kernel)
theorem pd22 : parseMethodDescriptor "(I)V" = some ⟨[.int], none⟩ := by decide +kernel
theorem pn_java_lang_StringBuilder : plainName "java/lang/StringBuilder" = true := by first | (simp [plainName, overriddenIn]; done) | decide +kernel
theorem rm40 (hw : own_W a0 Z) (a : Addr) (nn : Int32) (n : Nat) {zc : Int32} {fm : Value} {fn : Value} {u8 : Addr} {h0 : Heap} {n0 : Nat} (O0 : Old Z n0 h0) (SU : own_SU Z zc fm fn u8) (E_a : Exa Z h0 a "java/lang/StringBuilder") (F_v_a : Fld Z h0 a "java/lang/AbstractStringBuilder" "value" "[B" .null) (F_c_a : Fld Z h0 a "java/lang/AbstractStringBuilder" "coder" "B" (.int 0)) (F_n_a : Fld Z h0 a "java/lang/AbstractStringBuilder" "count" "I" (.int 0)) (F_m_a : Fld Z h0 a "java/lang/AbstractStringBuilder" "maybeLatin1" "Z" (.int 0)) (hn : nn = Int32.ofNat n) (hB3 : n ≤ 3) (g_a : n0 ≤ a) : own_M l own_n40 jdk_67_method_2_code 2 none (own_rm 2 1 3 25) Z h0 #[.ref a, .int nn] (fun v h L => ∃ z : Addr, ∃ kz : ClassId, v = none ∧ Fr n0 L ∧ Keep h0 h [a] ∧ Fld Z h a "java/lang/AbstractStringBuilder" "value" "[B" (.ref z) ∧ Fld Z h a "java/lang/AbstractStringBuilder" "coder" "B" (.int 0) ∧ Fld Z h a "java/lang/AbstractStringBuilder" "count" "I" (.int 0) ∧ Fld Z h a "java/lang/AbstractStringBuilder" "maybeLatin1" "Z" (.int 0) ∧ Arv Z h z kz .byte nn [] (.int 0) ∧ Exa Z h z "[B" ∧ h0.size ≤ z ∧ n0 ≤ z) := by
  refine own_body (L0 := #[.val (.ref a), .val (.int nn)]) (plainFor_of_name pn_java_lang_StringBuilder) rfl rfl ?_
  intro p e s m below meth c s₁ f0 Bd hx Hb hml hZ hown X0 e0 pre0
  have W := own_q hw
  have N0 := Fr.nil n0
  have O := O0
  have K := Keep.refl h0 [a]
  have lt1_a := E_a.lt
  obtain ⟨_, T1, Lc1, X1, hQ1, st1⟩ := own_cI X0 Hb hZ hown hml (L := #[.val (.ref a), .val (.int nn)]) rfl (rm41 hw a nn n O SU E_a F_v_a F_c_a F_n_a F_m_a hn hB3 g_a) (W 195 rfl) (W 196 rfl) (W 199 rfl) (W 200 rfl) pd22 e0 (D40 2) a [.int nn] [] 0
  obtain ⟨z_1, kz_1, rfl, N1q, K1, F_v_a_c1, F_c_a_c1, F_n_a_c1, F_m_a_c1, V_z_c1, E_z_c1, gz_1, gn_1⟩ := hQ1
  have N1 := Fr.app N0 N1q
  have E_a := E_a.keep K1
  have ne_a_z_1 : a ≠ z_1 := Nat.ne_of_lt (Nat.lt_of_lt_of_le lt1_a gz_1)
  have g_z_1 := gn_1
  have z_z_1 : h0.size ≤ z_1 := Nat.le_trans K.1 gz_1
  have O := O.keep K1 (allS g_a all0)
  have K := K.trans K1 (allS (Or.inl (List.mem_of_getElem? (i := 0) rfl)) all0)
  have w2 : own_Go p e below f0 T1 m 5 #[.val (.ref a), .val (.int nn)] [] := fun t k => by
    refine pre0 t ?_
    refine zal X0 Hb (D40 0) rfl rfl <| zil X0 Hb (D40 1) rfl <| st1 _ ?_
    exact k
  exact own_oV X1 Hb Bd.notSynchronized Bd.returns w2 (D40 3) rfl (by decide) (by decide) ⟨z_1, kz_1, rfl, N1, K, F_v_a_c1, F_c_a_c1, F_n_a_c1, F_m_a_c1, V_z_c1, E_z_c1, z_z_1, g_z_1⟩
def L47 : List (Nat × Instr × Nat) := [(0, .getstatic 18, 3), (3, .ifCond .eq 14, 3), (6, .aload_n 0, 1), (7, .getfield 22, 3), (10, .ifCond .ne 7, 3), (13, .iconst 1, 1), (14, .goto 4, 3), (17, .iconst 0, 1), (18, .ireturn, 1)]
theorem D47 : ∀ k : Nat, own_PP jdk_68_method_68_code L47[k]? := own_dd (by decide +kernel)
theorem rm47_L (hw : own_W a0 Z) (a : Addr) {zc : Int32} {fm : Value} {fn : Value} {u8 : Addr} {h0 : Heap} {n0 : Nat} (O0 : Old Z n0 h0) (SU : own_SU Z zc fm fn u8) (F_c_a : Fld Z h0 a "java/lang/AbstractStringBuilder" "coder" "B" (.int 0)) : own_M l own_n47 jdk_68_method_68_code 1 (some .boolean) (own_rm 0 0 0 0) Z h0 #[.ref a] (fun v h L => v = some (.int 1) ∧ Fr n0 L ∧ h = h0) := by
  refine own_body (L0 := #[.val (.ref a)]) (plainFor_of_name pn_java_lang_AbstractStringBuilder) rfl rfl ?_
  intro p e s m below meth c s₁ f0 Bd hx Hb hml hZ hown X0 e0 pre0
  have hby := Hb.2
  have W := own_q hw
  have N0 := Fr.nil n0
  have O := O0
  obtain ⟨T1, X1, e1, st1⟩ := getS2 X0 hx hZ hown (host := "") (Or.inl (W 202 rfl)) Via.refl e0 (SU.2.2.2.1.ext O.2) (g := (mkF m 0 #[.val (.ref a)] [])) rfl (hb hby (D47 0))
  obtain ⟨T2, X2, e2, st2⟩ := getF X1 hx hZ hown (host := "") (Or.inl (W 205 rfl)) Via.refl e1 F_c_a (g := (mkF m 7 #[.val (.ref a)] [.ref a])) rfl rfl (hb hby (D47 3))
  have w3 : own_Go p e below f0 T2 m 18 #[.val (.ref a)] [.int 1] := fun t k => by
    refine pre0 t ?_
    refine st1 _ <| zin X1 Hb (D47 1) ((if0 _ _).trans (feq (SU.2.2.2.2.2.2.2.2.1 : ¬ (zc = (0 : Int32)))).1) <| zal X1 Hb (D47 2) rfl rfl <| st2 _ <| zin X2 Hb (D47 4) ((if0 _ _).trans (teq (rfl : (0 : Int32) = (0 : Int32))).2) <| zic X2 Hb (D47 5) 1 rfl <| zgo X2 Hb (D47 6) 18 (by decide) rfl ?_
    exact k
  exact own_oN X2 Hb Bd.notSynchronized Bd.returns (by simp) w3 (D47 8) e2 (by decide) (by decide) ⟨rfl, N0, rfl⟩
theorem rm47_U (hw : own_W a0 Z) (a : Addr) {zc : Int32} {fm : Value} {fn : Value} {u8 : Addr} {h0 : Heap} {n0 : Nat} (O0 : Old Z n0 h0) (SU : own_SU Z zc fm fn u8) (F_c_a : Fld Z h0 a "java/lang/AbstractStringBuilder" "coder" "B" (.int 1)) : own_M l own_n47 jdk_68_method_68_code 1 (some .boolean) (own_rm 0 0 0 0) Z h0 #[.ref a] (fun v h L => v = some (.int 0) ∧ Fr n0 L ∧ h = h0) := by
  refine own_body (L0 := #[.val (.ref a)]) (plainFor_of_name pn_java_lang_AbstractStringBuilder) rfl rfl ?_
  intro p e s m below meth c s₁ f0 Bd hx Hb hml hZ hown X0 e0 pre0
  have hby := Hb.2
  have W := own_q hw
  have N0 := Fr.nil n0
  have O := O0
  obtain ⟨T1, X1, e1, st1⟩ := getS2 X0 hx hZ hown (host := "") (Or.inl (W 202 rfl)) Via.refl e0 (SU.2.2.2.1.ext O.2) (g := (mkF m 0 #[.val (.ref a)] [])) rfl (hb hby (D47 0))
  obtain ⟨T2, X2, e2, st2⟩ := getF X1 hx hZ hown (host := "") (Or.inl (W 205 rfl)) Via.refl e1 F_c_a (g := (mkF m 7 #[.val (.ref a)] [.ref a])) rfl rfl (hb hby (D47 3))
  have w3 : own_Go p e below f0 T2 m 18 #[.val (.ref a)] [.int 0] := fun t k => by
    refine pre0 t ?_
    refine st1 _ <| zin X1 Hb (D47 1) ((if0 _ _).trans (feq (SU.2.2.2.2.2.2.2.2.1 : ¬ (zc = (0 : Int32)))).1) <| zal X1 Hb (D47 2) rfl rfl <| st2 _ <| ziy X2 Hb (D47 4) ((if0 _ _).trans (feq ((by decide) : ¬ ((1 : Int32) = (0 : Int32)))).2) 17 (by decide) rfl <| zic X2 Hb (D47 7) 0 rfl ?_
    exact k
  exact own_oN X2 Hb Bd.notSynchronized Bd.returns (by simp) w3 (D47 8) e2 (by decide) (by decide) ⟨rfl, N0, rfl⟩
def L48 : List (Nat × Instr × Nat) := [(0, .iload_n 0, 1), (1, .sipush 255, 3), (4, .if_icmp .gt 7, 3), (7, .iconst 1, 1), (8, .goto 4, 3), (11, .iconst 0, 1), (12, .ireturn, 1)]
theorem D48 : ∀ k : Nat, own_PP jdk_43_method_3_code L48[k]? := own_dd (by decide +kernel)
theorem rm48 (hw : own_W a0 Z) (cc : Int32) {h0 : Heap} {n0 : Nat} (O0 : Old Z n0 h0) : own_M l own_n48 jdk_43_method_3_code 1 (some .boolean) (own_rm 0 0 0 0) Z h0 #[.int cc] (fun v h L => v = some (.int (own_ce cc)) ∧ Fr n0 L ∧ h = h0) := by
  refine own_body (L0 := #[.val (.int cc)]) (plainFor_of_name pn_java_lang_StringLatin1) rfl rfl ?_
  intro p e s m below meth c s₁ f0 Bd hx Hb hml hZ hown X0 e0 pre0
  have N0 := Fr.nil n0
  have O := O0
  have w1 : own_Go p e below f0 s₁ m 4 #[.val (.int cc)] [.int 255, .int cc] := fun t k => by
    refine pre0 t ?_
    refine zil X0 Hb (D48 0) rfl <| zsp X0 Hb (D48 1) 255 rfl ?_
    exact k
  by_cases hc4_2 : (255 : Int32) < cc
  · have w3 : own_Go p e below f0 s₁ m 12 #[.val (.int cc)] [.int 0] := fun t k => by
      refine w1 t ?_
      refine zcy X0 Hb (D48 2) (tlt hc4_2).2.2.1 11 (by decide) rfl <| zic X0 Hb (D48 5) 0 rfl ?_
      exact k
    exact own_oN X0 Hb Bd.notSynchronized Bd.returns (by simp) w3 (D48 6) e0 (by decide) (by decide) ⟨(by show some (Value.int (0 : Int32)) = _; simp [own_ce, hc4_2]), N0, rfl⟩
  · have w4 : own_Go p e below f0 s₁ m 12 #[.val (.int cc)] [.int 1] := fun t k => by
      refine w1 t ?_
      refine zcn X0 Hb (D48 2) (flt hc4_2).2.2.1 <| zic X0 Hb (D48 3) 1 rfl <| zgo X0 Hb (D48 4) 12 (by decide) rfl ?_
      exact k
    exact own_oN X0 Hb Bd.notSynchronized Bd.returns (by simp) w4 (D48 6) e0 (by decide) (by decide) ⟨(by show some (Value.int (1 : Int32)) = _; simp [own_ce, hc4_2]), N0, rfl⟩
def L62 : List (Nat × Instr × Nat) := [(0, .aload_n 0, 1), (1, .getfield 15, 3), (4, .areturn, 1)]
theorem D62 : ∀ k : Nat, own_PP jdk_68_method_64_code L62[k]? := own_dd (by decide +kernel)
theorem rm62 (hw : own_W a0 Z) (a tt : Addr) {h0 : Heap} {n0 : Nat} (O0 : Old Z n0 h0) (F_v_a : Fld Z h0 a "java/lang/AbstractStringBuilder" "value" "[B" (.ref tt)) : own_M l own_n62 jdk_68_method_64_code 1 (some (.array .byte)) (own_rm 0 0 0 0) Z h0 #[.ref a] (fun v h L => v = some (.ref tt) ∧ Fr n0 L ∧ h = h0) := by
  refine own_body (L0 := #[.val (.ref a)]) (plainFor_of_name pn_java_lang_AbstractStringBuilder) rfl rfl ?_
  intro p e s m below meth c s₁ f0 Bd hx Hb hml hZ hown X0 e0 pre0
  have hby := Hb.2
  have W := own_q hw
  have N0 := Fr.nil n0
  have O := O0
  obtain ⟨T1, X1, e1, st1⟩ := getF X0 hx hZ hown (host := "") (Or.inl (W 203 rfl)) Via.refl e0 F_v_a (g := (mkF m 1 #[.val (.ref a)] [.ref a])) rfl rfl (hb hby (D62 1))
  have w2 : own_Go p e below f0 T1 m 4 #[.val (.ref a)] [.ref tt] := fun t k => by
    refine pre0 t ?_
    refine zal X0 Hb (D62 0) rfl rfl <| st1 _ ?_
    exact k
  exact own_oR X1 Hb Bd.notSynchronized Bd.returns rfl w2 (D62 2) e1 (by decide) (by decide) ⟨rfl, N0, rfl⟩
def L64 : List (Nat × Instr × Nat) := [(0, .aload_n 0, 1), (1, .getfield 79, 3), (4, .ireturn, 1)]
theorem D64 : ∀ k : Nat, own_PP jdk_68_method_6_code L64[k]? := own_dd (by decide +kernel)
theorem rm64 (hw : own_W a0 Z) (a : Addr) (kk : Int32) {h0 : Heap} {n0 : Nat} (O0 : Old Z n0 h0) (F_n_a : Fld Z h0 a "java/lang/AbstractStringBuilder" "count" "I" (.int kk)) : own_M l own_n64 jdk_68_method_6_code 1 (some .int) (own_rm 0 0 0 0) Z h0 #[.ref a] (fun v h L => v = some (.int kk) ∧ Fr n0 L ∧ h = h0) := by
  refine own_body (L0 := #[.val (.ref a)]) (plainFor_of_name pn_java_lang_AbstractStringBuilder) rfl rfl ?_
  intro p e s m below meth c s₁ f0 Bd hx Hb hml hZ hown X0 e0 pre0
  have hby := Hb.2
  have W := own_q hw
  have N0 := Fr.nil n0
  have O := O0
  obtain ⟨T1, X1, e1, st1⟩ := getF X0 hx hZ hown (host := "") (Or.inl (W 228 rfl)) Via.refl e0 F_n_a (g := (mkF m 1 #[.val (.ref a)] [.ref a])) rfl rfl (hb hby (D64 1))
  have w2 : own_Go p e below f0 T1 m 4 #[.val (.ref a)] [.int kk] := fun t k => by
    refine pre0 t ?_
    refine zal X0 Hb (D64 0) rfl rfl <| st1 _ ?_
    exact k
  exact own_oI X1 Hb Bd.notSynchronized Bd.returns w2 (D64 2) e1 (by decide) (by decide) ⟨rfl, N0, rfl⟩
def L63 : List (Nat × Instr × Nat) := [(0, .aload_n 0, 1), (1, .invokespecial 343, 3), (4, .ireturn, 1)]
theorem D63 : ∀ k : Nat, own_PP jdk_67_method_93_code L63[k]? := own_dd (by decide +kernel)
theorem rm63 (hw : own_W a0 Z) (a : Addr) (kk : Int32) {h0 : Heap} {n0 : Nat} (O0 : Old Z n0 h0) (E_a : Exa Z h0 a "java/lang/StringBuilder") (F_n_a : Fld Z h0 a "java/lang/AbstractStringBuilder" "count" "I" (.int kk)) : own_M l own_n63 jdk_67_method_93_code 1 (some .int) (own_rm 1 0 0 12) Z h0 #[.ref a] (fun v h L => v = some (.int kk) ∧ Fr n0 L ∧ h = h0) := by
  refine own_body (L0 := #[.val (.ref a)]) (plainFor_of_name pn_java_lang_StringBuilder) rfl rfl ?_
  intro p e s m below meth c s₁ f0 Bd hx Hb hml hZ hown X0 e0 pre0
  have W := own_q hw
  have N0 := Fr.nil n0
  have O := O0
  obtain ⟨_, T1, Lc1, X1, hQ1, st1⟩ := own_cU X0 Hb hZ hown hml (L := #[.val (.ref a)]) rfl (rm64 hw a kk O F_n_a) (W 314 rfl) (own_same (W 310 rfl) (W 306 rfl) rfl (by decide)) (W 310 rfl) (W 214 rfl) (W 199 rfl) (W 315 rfl) pd10 e0 E_a (D63 1) [] [] 0
  obtain ⟨rfl, N1q, eh1⟩ := hQ1
  have N1 := Fr.app N0 N1q
  have w2 : own_Go p e below f0 T1 m 4 #[.val (.ref a)] [.int kk] := fun t k => by
    refine pre0 t ?_
    refine zal X0 Hb (D63 0) rfl rfl <| st1 _ ?_
    exact k
  exact own_oI X1 Hb Bd.notSynchronized Bd.returns w2 (D63 2) eh1 (by decide) (by decide) ⟨rfl, N1, rfl⟩
def L58 : List (Nat × Instr × Nat) := [(0, .aload_n 0, 1), (1, .getfield 9, 3), (4, .areturn, 1)]
theorem D58 : ∀ k : Nat, own_PP jdk_42_method_153_code L58[k]? := own_dd (by decide +kernel)
theorem rm58 (hw : own_W a0 Z) (a tt : Addr) {h0 : Heap} {n0 : Nat} (O0 : Old Z n0 h0) (F_v_a : Fld Z h0 a "java/lang/String" "value" "[B" (.ref tt)) : own_M l own_n58 jdk_42_method_153_code 1 (some (.array .byte)) (own_rm 0 0 0 0) Z h0 #[.ref a] (fun v h L => v = some (.ref tt) ∧ Fr n0 L ∧ h = h0) := by
  refine own_body (L0 := #[.val (.ref a)]) (plainFor_of_name pn_java_lang_String) rfl rfl ?_
  intro p e s m below meth c s₁ f0 Bd hx Hb hml hZ hown X0 e0 pre0
  have hby := Hb.2
  have W := own_q hw
  have N0 := Fr.nil n0
  have O := O0
  obtain ⟨T1, X1, e1, st1⟩ := getF X0 hx hZ hown (host := "") (Or.inl (W 33 rfl)) Via.refl e0 F_v_a (g := (mkF m 1 #[.val (.ref a)] [.ref a])) rfl rfl (hb hby (D58 1))
  have w2 : own_Go p e below f0 T1 m 4 #[.val (.ref a)] [.ref tt] := fun t k => by
    refine pre0 t ?_
    refine zal X0 Hb (D58 0) rfl rfl <| st1 _ ?_
    exact k
  exact own_oR X1 Hb Bd.notSynchronized Bd.returns rfl w2 (D58 2) e1 (by decide) (by decide) ⟨rfl, N0, rfl⟩
def L45 : List (Nat × Instr × Nat) := [(0, .aload_n 0, 1), (1, .getfield 15, 3), (4, .arraylength, 1), (5, .aload_n 0, 1), (6, .getfield 22, 3), (9, .ishr, 1), (10, .istore_n 2, 1), (11, .iload_n 1, 1), (12, .iload_n 2, 1), (13, .isub, 1), (14, .ifCond .le 24, 3), (38, .return_, 1)]
theorem D45 : ∀ k : Nat, own_PP jdk_68_method_9_code L45[k]? := own_dd (by decide +kernel)
theorem rm45 (hw : own_W a0 Z) (a : Addr) (mm : Int32) (tt : Addr) (kt : ClassId) (cd nb : Int32) (lst : List Value) {h0 : Heap} {n0 : Nat} (O0 : Old Z n0 h0) (F_v_a : Fld Z h0 a "java/lang/AbstractStringBuilder" "value" "[B" (.ref tt)) (F_c_a : Fld Z h0 a "java/lang/AbstractStringBuilder" "coder" "B" (.int cd)) (V_tt : Arv Z h0 tt kt .byte nb lst (.int 0)) (hcap : ¬ (0 : Int32) < (mm - (nb >>> (cd &&& 31)))) : own_M l own_n45 jdk_68_method_9_code 3 none (own_rm 0 0 0 0) Z h0 #[.ref a, .int mm] (fun v h L => v = none ∧ Fr n0 L ∧ h = h0) := by
  refine own_body (L0 := #[.val (.ref a), .val (.int mm), .unset]) (plainFor_of_name pn_java_lang_AbstractStringBuilder) rfl rfl ?_
  intro p e s m below meth c s₁ f0 Bd hx Hb hml hZ hown X0 e0 pre0
  have hby := Hb.2
  have W := own_q hw
  have N0 := Fr.nil n0
  have O := O0
  obtain ⟨T1, X1, e1, st1⟩ := getF X0 hx hZ hown (host := "") (Or.inl (W 203 rfl)) Via.refl e0 F_v_a (g := (mkF m 1 #[.val (.ref a), .val (.int mm), .unset] [.ref a])) rfl rfl (hb hby (D45 1))
  have B2 := own_ln V_tt
  obtain ⟨T3, X3, e3, st3⟩ := getF X1 hx hZ hown (host := "") (Or.inl (W 205 rfl)) Via.refl e1 F_c_a (g := (mkF m 6 #[.val (.ref a), .val (.int mm), .unset] [.ref a, .int nb])) rfl rfl (hb hby (D45 4))
  have w4 : own_Go p e below f0 T3 m 38 #[.val (.ref a), .val (.int mm), .val (.int (nb >>> (cd &&& 31)))] [] := fun t k => by
    refine pre0 t ?_
    refine zal X0 Hb (D45 0) rfl rfl <| st1 _ <| zal_ X1 Hb hZ e1 B2 (D45 2) <| zal X1 Hb (D45 3) rfl rfl <| st3 _ <| zsr X3 Hb (D45 5) <| zis X3 Hb (L' := #[.val (.ref a), .val (.int mm), .val (.int (nb >>> (cd &&& 31)))]) (D45 6) rfl <| zil X3 Hb (D45 7) rfl ?_
    refine zil X3 Hb (D45 8) rfl <| zsu X3 Hb (D45 9) <| ziy X3 Hb (D45 10) ((if0 _ _).trans (flt (hcap : ¬ ((0 : Int32) < (mm - (nb >>> (cd &&& 31)))))).2.2.2) 38 (by decide) rfl ?_
    exact k
  exact own_oV X3 Hb Bd.notSynchronized Bd.returns w4 (D45 11) e3 (by decide) (by decide) ⟨rfl, N0, rfl⟩
def L44 : List (Nat × Instr × Nat) := [(0, .iload_n 0, 1), (1, .ifCond .lt 13, 3), (4, .iload_n 0, 1), (5, .iload_n 1, 1), (6, .if_icmp .gt 8, 3), (9, .iload_n 1, 1), (10, .iload_n 2, 1), (11, .if_icmp .le 11, 3), (22, .iload_n 0, 1), (23, .ireturn, 1)]
theorem D44 : ∀ k : Nat, own_PP jdk_41_method_12_code L44[k]? := own_dd (by decide +kernel)
theorem rm44 (hw : own_W a0 Z) (jj mm nn : Int32) (fn : Value) {h0 : Heap} {n0 : Nat} (O0 : Old Z n0 h0) (rfm : fn.isRef = true) (hc1 : ¬ jj < (0 : Int32)) (hc2 : ¬ mm < jj) (hc3 : ¬ nn < mm) : own_M l own_n44 jdk_41_method_12_code 4 (some .int) (own_rm 0 0 0 0) Z h0 #[.int jj, .int mm, .int nn, fn] (fun v h L => v = some (.int jj) ∧ Fr n0 L ∧ h = h0) := by
  refine own_body (L0 := #[.val (.int jj), .val (.int mm), .val (.int nn), .val fn]) (plainFor_of_name pn_jdk_internal_util_Preconditions) (by cases fn <;> first | rfl | (exfalso; revert rfm; simp [Value.isRef]; done)) rfl ?_
  intro p e s m below meth c s₁ f0 Bd hx Hb hml hZ hown X0 e0 pre0
  have N0 := Fr.nil n0
  have O := O0
  have w1 : own_Go p e below f0 s₁ m 23 #[.val (.int jj), .val (.int mm), .val (.int nn), .val fn] [.int jj] := fun t k => by
    refine pre0 t ?_
    refine zil X0 Hb (D44 0) rfl <| zin X0 Hb (D44 1) ((if0 _ _).trans (flt (hc1 : ¬ (jj < (0 : Int32)))).1) <| zil X0 Hb (D44 2) rfl <| zil X0 Hb (D44 3) rfl <| zcn X0 Hb (D44 4) (flt (hc2 : ¬ (mm < jj))).2.2.1 <| zil X0 Hb (D44 5) rfl <| zil X0 Hb (D44 6) rfl <| zcy X0 Hb (D44 7) (flt (hc3 : ¬ (nn < mm))).2.2.2 22 (by decide) rfl ?_
    refine zil X0 Hb (D44 8) rfl ?_
    exact k
  exact own_oI X0 Hb Bd.notSynchronized Bd.returns w1 (D44 9) e0 (by decide) (by decide) ⟨rfl, N0, rfl⟩
def L56 : List (Nat × Instr × Nat) := [(0, .iload_n 2, 1), (1, .iload_n 0, 1), (2, .ior, 1), (3, .iload_n 1, 1), (4, .ior, 1), (5, .ifCond .lt 10, 3), (8, .iload_n 1, 1), (9, .iload_n 2, 1), (10, .iload_n 0, 1), (11, .isub, 1), (12, .if_icmp .le 11, 3), (23, .iload_n 0, 1), (24, .ireturn, 1)]
theorem D56 : ∀ k : Nat, own_PP jdk_41_method_13_code L56[k]? := own_dd (by decide +kernel)
theorem rm56 (hw : own_W a0 Z) (kk mm : Int32) (fm : Value) {h0 : Heap} {n0 : Nat} (O0 : Old Z n0 h0) (rfm : fm.isRef = true) (hz1 : ¬ ((mm ||| (0 : Int32)) ||| kk) < (0 : Int32)) (hz2 : ¬ (mm - (0 : Int32)) < kk) : own_M l own_n56 jdk_41_method_13_code 4 (some .int) (own_rm 0 0 0 0) Z h0 #[.int 0, .int kk, .int mm, fm] (fun v h L => v = some (.int 0) ∧ Fr n0 L ∧ h = h0) := by
  refine own_body (L0 := #[.val (.int 0), .val (.int kk), .val (.int mm), .val fm]) (plainFor_of_name pn_jdk_internal_util_Preconditions) (by cases fm <;> first | rfl | (exfalso; revert rfm; simp [Value.isRef]; done)) rfl ?_
  intro p e s m below meth c s₁ f0 Bd hx Hb hml hZ hown X0 e0 pre0
  have N0 := Fr.nil n0
  have O := O0
  have w1 : own_Go p e below f0 s₁ m 24 #[.val (.int 0), .val (.int kk), .val (.int mm), .val fm] [.int 0] := fun t k => by
    refine pre0 t ?_
    refine zil X0 Hb (D56 0) rfl <| zil X0 Hb (D56 1) rfl <| zor X0 Hb (D56 2) <| zil X0 Hb (D56 3) rfl <| zor X0 Hb (D56 4) <| zin X0 Hb (D56 5) ((if0 _ _).trans (flt (hz1 : ¬ (((mm ||| (0 : Int32)) ||| kk) < (0 : Int32)))).1) <| zil X0 Hb (D56 6) rfl <| zil X0 Hb (D56 7) rfl ?_
    refine zil X0 Hb (D56 8) rfl <| zsu X0 Hb (D56 9) <| zcy X0 Hb (D56 10) (flt (hz2 : ¬ ((mm - (0 : Int32)) < kk))).2.2.2 23 (by decide) rfl <| zil X0 Hb (D56 11) rfl ?_
    exact k
  exact own_oI X0 Hb Bd.notSynchronized Bd.returns w1 (D56 12) e0 (by decide) (by decide) ⟨rfl, N0, rfl⟩
def L55 : List (Nat × Instr × Nat) := [(0, .iload_n 0, 1), (1, .iload_n 1, 1), (2, .iload_n 2, 1), (3, .getstatic 1053, 3), (6, .invokestatic 1065, 3), (9, .ireturn, 1)]
theorem D55 : ∀ k : Nat, own_PP jdk_42_method_157_code L55[k]? := own_dd (by decide +kernel)
theorem pd23 : parseMethodDescriptor "(IIILjava/util/function/BiFunction;)I" = some ⟨[.int, .int, .int, (.object "java/util/function/BiFunction")], some .int⟩ := by decide +kernel
theorem rm55 (hw : own_W a0 Z) (kk mm : Int32) {zc : Int32} {fm : Value} {fn : Value} {u8 : Addr} {h0 : Heap} {n0 : Nat} (O0 : Old Z n0 h0) (SU : own_SU Z zc fm fn u8) (hz1 : ¬ ((mm ||| (0 : Int32)) ||| kk) < (0 : Int32)) (hz2 : ¬ (mm - (0 : Int32)) < kk) : own_M l own_n55 jdk_42_method_157_code 3 (some .int) (own_rm 1 0 0 15) Z h0 #[.int 0, .int kk, .int mm] (fun v h L => v = some (.int 0) ∧ Fr n0 L ∧ h = h0) := by
  refine own_body (L0 := #[.val (.int 0), .val (.int kk), .val (.int mm)]) (plainFor_of_name pn_java_lang_String) rfl rfl ?_
  intro p e s m below meth c s₁ f0 Bd hx Hb hml hZ hown X0 e0 pre0
  have hby := Hb.2
  have W := own_q hw
  have N0 := Fr.nil n0
  have O := O0
  obtain ⟨T1, X1, e1, st1⟩ := getS2 X0 hx hZ hown (host := "") (Or.inl (W 92 rfl)) Via.refl e0 (SU.2.2.2.2.1.ext O.2) (g := (mkF m 3 #[.val (.int 0), .val (.int kk), .val (.int mm)] [.int mm, .int kk, .int 0])) rfl (hb hby (D55 3))
  obtain ⟨_, T2, Lc2, X2, hQ2, st2⟩ := own_cS X1 Hb hZ hown hml (L := #[.val (.int 0), .val (.int kk), .val (.int mm)]) rfl (rm56 hw kk mm fm O SU.2.2.2.2.2.2.2.2.2.1 hz1 hz2) (W 279 rfl) (W 280 rfl) (W 93 rfl) (W 281 rfl) pd23 e1 (D55 4) [.int 0, .int kk, .int mm, fm] [] 0
  obtain ⟨rfl, N2q, eh2⟩ := hQ2
  have N2 := Fr.app N0 N2q
  have w3 : own_Go p e below f0 T2 m 9 #[.val (.int 0), .val (.int kk), .val (.int mm)] [.int 0] := fun t k => by
    refine pre0 t ?_
    refine zil X0 Hb (D55 0) rfl <| zil X0 Hb (D55 1) rfl <| zil X0 Hb (D55 2) rfl <| st1 _ <| st2 _ ?_
    exact k
  exact own_oI X2 Hb Bd.notSynchronized Bd.returns w3 (D55 5) eh2 (by decide) (by decide) ⟨rfl, N2, rfl⟩
def L54 : List (Nat × Instr × Nat) := [(0, .iload_n 0, 1), (1, .iload_n 1, 1), (2, .aload_n 2, 1), (3, .invokestatic 48, 3), (6, .invokestatic 419, 3), (9, .pop, 1), (10, .return_, 1)]
theorem D54 : ∀ k : Nat, own_PP jdk_52_method_94_code L54[k]? := own_dd (by decide +kernel)
theorem pd24 : parseMethodDescriptor "(III)I" = some ⟨[.int, .int, .int], some .int⟩ := by decide +kernel
theorem rm54 (hw : own_W a0 Z) (kk : Int32) (b : Addr) (kb : ClassId) (nn : Int32) (vv : List Value) (mm : Int32) {zc : Int32} {fm : Value} {fn : Value} {u8 : Addr} {h0 : Heap} {n0 : Nat} (O0 : Old Z n0 h0) (SU : own_SU Z zc fm fn u8) (V_b : Arv Z h0 b kb .byte nn vv (.int 0)) (hm : (nn >>> ((1 : Int32) &&& 31)) = mm) (hz1 : ¬ ((mm ||| (0 : Int32)) ||| kk) < (0 : Int32)) (hz2 : ¬ (mm - (0 : Int32)) < kk) : own_M l own_n54 jdk_52_method_94_code 3 none (own_rm 2 0 0 29) Z h0 #[.int 0, .int kk, .ref b] (fun v h L => v = none ∧ Fr n0 L ∧ h = h0) := by
  refine own_body (L0 := #[.val (.int 0), .val (.int kk), .val (.ref b)]) (plainFor_of_name pn_java_lang_StringUTF16) rfl rfl ?_
  intro p e s m below meth c s₁ f0 Bd hx Hb hml hZ hown X0 e0 pre0
  have W := own_q hw
  have N0 := Fr.nil n0
  have O := O0
  obtain ⟨_, T1, Lc1, X1, hQ1, st1⟩ := own_cS X0 Hb hZ hown hml (L := #[.val (.int 0), .val (.int kk), .val (.ref b)]) rfl (rm38 hw b kb nn vv mm O V_b hm) (W 180 rfl) (W 181 rfl) (W 22 rfl) (W 182 rfl) pd5 e0 (D54 3) [.ref b] [.int kk, .int 0] 2
  obtain ⟨rfl, N1q, eh1⟩ := hQ1
  have N1 := Fr.app N0 N1q
  obtain ⟨_, T2, Lc2, X2, hQ2, st2⟩ := own_cS X1 Hb hZ hown hml (L := #[.val (.int 0), .val (.int kk), .val (.ref b)]) rfl (rm55 hw kk mm O SU hz1 hz2) (W 276 rfl) (W 277 rfl) (W 8 rfl) (W 278 rfl) pd24 eh1 (D54 4) [.int 0, .int kk, .int mm] [] 0
  obtain ⟨rfl, N2q, eh2⟩ := hQ2
  have N2 := Fr.app N1 N2q
  have w3 : own_Go p e below f0 T2 m 10 #[.val (.int 0), .val (.int kk), .val (.ref b)] [] := fun t k => by
    refine pre0 t ?_
    refine zil X0 Hb (D54 0) rfl <| zil X0 Hb (D54 1) rfl <| zal X0 Hb (D54 2) rfl rfl <| st1 _ <| st2 _ <| zpo X2 Hb (D54 5) rfl ?_
    exact k
  exact own_oV X2 Hb Bd.notSynchronized Bd.returns w3 (D54 6) eh2 (by decide) (by decide) ⟨rfl, N2, rfl⟩
theorem own_sp {ys : List Int32} (h : ys.length ≤ 2) : ys = [] ∨ (∃ c, ys = [c]) ∨ ∃ c d, ys = [c, d] := by
  match ys, h with
  | [], _ => exact Or.inl rfl
  | [c], _ => exact Or.inr (Or.inl ⟨c, rfl⟩)
  | [c, d], _ => exact Or.inr (Or.inr ⟨c, d, rfl⟩)
  | _ :: _ :: _ :: _, h => simp at h
def L53 : List (Nat × Instr × Nat) := [(0, .iload_n 3, 1), (1, .iload 4, 2), (3, .aload_n 2, 1), (4, .invokestatic 173, 3), (7, .iconst 0, 1), (8, .istore 5, 2), (10, .iload 5, 2), (12, .iload 4, 2), (14, .if_icmp .ge 27, 3), (17, .aload_n 2, 1), (18, .iload_n 3, 1), (19, .iinc 3 1, 3), (22, .aload_n 0, 1), (23, .iload_n 1, 1), (24, .iinc 1 1, 3), (27, .baload, 1), (28, .sipush 255, 3), (31, .iand, 1), (32, .invokestatic 111, 3), (35, .iinc 5 1, 3), (38, .goto (-28), 3), (41, .return_, 1)]
theorem D53 : ∀ k : Nat, own_PP jdk_52_method_86_code L53[k]? := own_dd (by decide +kernel)
theorem pd25 : parseMethodDescriptor "(II[B)V" = some ⟨[.int, .int, (.array .byte)], none⟩ := by decide +kernel
theorem rm53 (hw : own_W a0 Z) (b d : Addr) (kk : Int32) (kb kd : ClassId) (nb nn : Int32) (ys : List Int32) (n : Nat) {zc : Int32} {fm : Value} {fn : Value} {u8 : Addr} {h0 : Heap} {n0 : Nat} (O0 : Old Z n0 h0) (SU : own_SU Z zc fm fn u8) (V_b : Arv Z h0 b kb .byte nb (own_lb ys) (.int 0)) (V_d : Arv Z h0 d kd .byte nn [] (.int 0)) (nbd : b ≠ d) (hk : kk = Int32.ofNat ys.length) (hnb : nb = Int32.ofNat n) (hn : nn = Int32.ofNat (2 * n)) (hkn : ys.length < n) (hB3 : n ≤ 3) (hL : own_L ys) (g_d : n0 ≤ d) : own_M l own_n53 jdk_52_method_86_code 6 none (own_rm 3 0 0 43) Z h0 #[.ref b, .int 0, .ref d, .int 0, .int kk] (fun v h L => v = none ∧ Fr n0 L ∧ Keep h0 h [d] ∧ Arv Z h d kd .byte nn (own_wb ys) (.int 0)) := by
  refine own_body (L0 := #[.val (.ref b), .val (.int 0), .val (.ref d), .val (.int 0), .val (.int kk), .unset]) (plainFor_of_name pn_java_lang_StringUTF16) rfl rfl ?_
  intro p e s m below meth c s₁ f0 Bd hx Hb hml hZ hown X0 e0 pre0
  have W := own_q hw
  have N0 := Fr.nil n0
  have O := O0
  have K := Keep.refl h0 [d]
  obtain ⟨_, T1, Lc1, X1, hQ1, st1⟩ := own_cS X0 Hb hZ hown hml (L := #[.val (.ref b), .val (.int 0), .val (.ref d), .val (.int 0), .val (.int kk), .unset]) rfl (rm54 hw kk d kd nn [] (Int32.ofNat n) O SU V_d (by rw [hn]; exact (own_nq3 n (by omega)).2.2.2.2.2.2) (by rw [hk]; exact (own_z1 n (by omega) _ (by omega)).1) (by rw [hk]; exact (own_z1 n (by omega) _ (by omega)).2)) (W 273 rfl) (W 274 rfl) (W 22 rfl) (W 275 rfl) pd25 e0 (D53 3) [.int 0, .int kk, .ref d] [] 0
  obtain ⟨rfl, N1q, eh1⟩ := hQ1
  have N1 := Fr.app N0 N1q
  have w2 : own_Go p e below f0 T1 m 10 #[.val (.ref b), .val (.int 0), .val (.ref d), .val (.int 0), .val (.int kk), .val (.int 0)] [] := fun t k => by
    refine pre0 t ?_
    refine zil X0 Hb (D53 0) rfl <| ziL X0 Hb (D53 1) rfl <| zal X0 Hb (D53 2) rfl rfl <| st1 _ <| zic X1 Hb (D53 4) 0 rfl <| ziS X1 Hb (D53 5) rfl ?_
    exact k
  rcases own_sp (ys := ys) (by omega) with rfl | ⟨ca, rfl⟩ | ⟨ca, cb, rfl⟩
  · have hk0 : kk = (0 : Int32) := hk
    subst hk0
    have w3 : own_Go p e below f0 T1 m 41 #[.val (.ref b), .val (.int 0), .val (.ref d), .val (.int 0), .val (.int 0), .val (.int 0)] [] := fun t k => by
      refine w2 t ?_
      refine ziL X1 Hb (D53 6) rfl <| ziL X1 Hb (D53 7) rfl <| zcy X1 Hb (D53 8) (flt ((by decide) : ¬ ((0 : Int32) < (0 : Int32)))).2.1 41 (by decide) rfl ?_
      exact k
    exact own_oV X1 Hb Bd.notSynchronized Bd.returns w3 (D53 21) eh1 (by decide) (by decide) ⟨rfl, N1, K, V_d⟩
  · have hk0 : kk = (1 : Int32) := hk
    subst hk0
    have hb0 : (0 : Int32) < nb := by rw [hnb]; exact (own_ar n (by omega) 0 (Nat.lt_of_le_of_lt (Nat.zero_le _) hkn)).2.2.2.2.1
    have B4 : own_El Z h0 b .byte (0 : Int32) (.int (own_b ca)) := own_el V_b ⟨by decide, hb0⟩ rfl
    obtain ⟨_, T5, Lc5, X5, hQ5, st5⟩ := own_cS X1 Hb hZ hown hml (L := #[.val (.ref b), .val (.int 1), .val (.ref d), .val (.int 1), .val (.int 1), .val (.int 0)]) rfl (rm34_g hw d (0 : Int32) ((own_b ca) &&& (255 : Int32)) kd nn [] n O SU V_d rfl hn (by simp at hkn ⊢; omega) hB3 g_d) (W 162 rfl) (W 163 rfl) (W 22 rfl) (W 164 rfl) pd21 eh1 (D53 18) [.ref d, .int 0, (.int ((own_b ca) &&& (255 : Int32)))] [] 0
    obtain ⟨rfl, N5q, K5, V_d_c5⟩ := hQ5
    have N5 := Fr.app N1 N5q
    have V_b := V_b.keep K5 (ninS nbd nin0)
    have O := O.keep K5 (allS g_d all0)
    have K := K.trans K5 (allS (Or.inl (List.mem_of_getElem? (i := 0) rfl)) all0)
    have V_d_c5 : Arv Z (T5.heap) d kd .byte nn (own_wb [ca]) (.int 0) := by have q := V_d_c5; rw [hL ca (by simp)] at q; exact q
    have w6 : own_Go p e below f0 T5 m 41 #[.val (.ref b), .val (.int 1), .val (.ref d), .val (.int 1), .val (.int 1), .val (.int 1)] [] := fun t k => by
      refine w2 t ?_
      refine ziL X1 Hb (D53 6) rfl <| ziL X1 Hb (D53 7) rfl <| zcn X1 Hb (D53 8) (tlt ((by decide) : (0 : Int32) < (1 : Int32))).2.1 <| zal X1 Hb (D53 9) rfl rfl <| zil X1 Hb (D53 10) rfl <| zii X1 Hb (D53 11) rfl 1 rfl rfl <| zal X1 Hb (D53 12) rfl rfl <| zil X1 Hb (D53 13) rfl ?_
      refine zii X1 Hb (D53 14) rfl 1 rfl rfl <| zba X1 Hb hZ eh1 B4 (D53 15) <| zsp X1 Hb (D53 16) 255 rfl <| zan X1 Hb (D53 17) <| st5 _ <| zii X5 Hb (D53 19) rfl 1 rfl rfl <| zgo X5 Hb (D53 20) 10 (by decide) rfl <| ziL X5 Hb (D53 6) rfl ?_
      refine ziL X5 Hb (D53 7) rfl <| zcy X5 Hb (D53 8) (flt ((by decide) : ¬ ((1 : Int32) < (1 : Int32)))).2.1 41 (by decide) rfl ?_
      exact k
    exact own_oV X5 Hb Bd.notSynchronized Bd.returns w6 (D53 21) rfl (by decide) (by decide) ⟨rfl, N5, K, V_d_c5⟩
  · have hk0 : kk = (2 : Int32) := hk
    subst hk0
    have hb0 : (0 : Int32) < nb := by rw [hnb]; exact (own_ar n (by omega) 0 (Nat.lt_of_le_of_lt (Nat.zero_le _) hkn)).2.2.2.2.1
    have hb1 : (1 : Int32) < nb := by rw [hnb]; exact (own_ar n (by omega) 1 (Nat.lt_of_succ_lt hkn)).2.2.2.2.1
    have B7 : own_El Z h0 b .byte (0 : Int32) (.int (own_b ca)) := own_el V_b ⟨by decide, hb0⟩ rfl
    obtain ⟨_, T8, Lc8, X8, hQ8, st8⟩ := own_cS X1 Hb hZ hown hml (L := #[.val (.ref b), .val (.int 1), .val (.ref d), .val (.int 1), .val (.int 2), .val (.int 0)]) rfl (rm34_g hw d (0 : Int32) ((own_b ca) &&& (255 : Int32)) kd nn [] n O SU V_d rfl hn (by simp at hkn ⊢; omega) hB3 g_d) (W 162 rfl) (W 163 rfl) (W 22 rfl) (W 164 rfl) pd21 eh1 (D53 18) [.ref d, .int 0, (.int ((own_b ca) &&& (255 : Int32)))] [] 0
    obtain ⟨rfl, N8q, K8, V_d_c8⟩ := hQ8
    have N8 := Fr.app N1 N8q
    have V_b := V_b.keep K8 (ninS nbd nin0)
    have O := O.keep K8 (allS g_d all0)
    have K := K.trans K8 (allS (Or.inl (List.mem_of_getElem? (i := 0) rfl)) all0)
    have V_d_c8 : Arv Z (T8.heap) d kd .byte nn (own_wb [ca]) (.int 0) := by have q := V_d_c8; rw [hL ca (by simp)] at q; exact q
    have B9 : own_El Z (T8.heap) b .byte (1 : Int32) (.int (own_b cb)) := own_el V_b ⟨by decide, hb1⟩ rfl
    obtain ⟨_, T10, Lc10, X10, hQ10, st10⟩ := own_cS X8 Hb hZ hown hml (L := #[.val (.ref b), .val (.int 2), .val (.ref d), .val (.int 2), .val (.int 2), .val (.int 1)]) rfl (rm34_g hw d (1 : Int32) ((own_b cb) &&& (255 : Int32)) kd nn [ca] n O SU V_d_c8 rfl hn (by simp at hkn ⊢; omega) hB3 g_d) (W 162 rfl) (W 163 rfl) (W 22 rfl) (W 164 rfl) pd21 rfl (D53 18) [.ref d, .int 1, (.int ((own_b cb) &&& (255 : Int32)))] [] 0
    obtain ⟨rfl, N10q, K10, V_d_c10⟩ := hQ10
    have N10 := Fr.app N8 N10q
    have V_b := V_b.keep K10 (ninS nbd nin0)
    have O := O.keep K10 (allS g_d all0)
    have K := K.trans K10 (allS (Or.inl (List.mem_of_getElem? (i := 0) rfl)) all0)
    have V_d_c10 : Arv Z (T10.heap) d kd .byte nn (own_wb [ca, cb]) (.int 0) := by have q := V_d_c10; rw [hL cb (by simp)] at q; exact q
    have w11 : own_Go p e below f0 T10 m 41 #[.val (.ref b), .val (.int 2), .val (.ref d), .val (.int 2), .val (.int 2), .val (.int 2)] [] := fun t k => by
      refine w2 t ?_
      refine ziL X1 Hb (D53 6) rfl <| ziL X1 Hb (D53 7) rfl <| zcn X1 Hb (D53 8) (tlt ((by decide) : (0 : Int32) < (2 : Int32))).2.1 <| zal X1 Hb (D53 9) rfl rfl <| zil X1 Hb (D53 10) rfl <| zii X1 Hb (D53 11) rfl 1 rfl rfl <| zal X1 Hb (D53 12) rfl rfl <| zil X1 Hb (D53 13) rfl ?_
      refine zii X1 Hb (D53 14) rfl 1 rfl rfl <| zba X1 Hb hZ eh1 B7 (D53 15) <| zsp X1 Hb (D53 16) 255 rfl <| zan X1 Hb (D53 17) <| st8 _ <| zii X8 Hb (D53 19) rfl 1 rfl rfl <| zgo X8 Hb (D53 20) 10 (by decide) rfl <| ziL X8 Hb (D53 6) rfl ?_
      refine ziL X8 Hb (D53 7) rfl <| zcn X8 Hb (D53 8) (tlt ((by decide) : (1 : Int32) < (2 : Int32))).2.1 <| zal X8 Hb (D53 9) rfl rfl <| zil X8 Hb (D53 10) rfl <| zii X8 Hb (D53 11) rfl 2 rfl rfl <| zal X8 Hb (D53 12) rfl rfl <| zil X8 Hb (D53 13) rfl <| zii X8 Hb (D53 14) rfl 2 rfl rfl ?_
      refine zba X8 Hb hZ rfl B9 (D53 15) <| zsp X8 Hb (D53 16) 255 rfl <| zan X8 Hb (D53 17) <| st10 _ <| zii X10 Hb (D53 19) rfl 2 rfl rfl <| zgo X10 Hb (D53 20) 10 (by decide) rfl <| ziL X10 Hb (D53 6) rfl <| ziL X10 Hb (D53 7) rfl ?_
      refine zcy X10 Hb (D53 8) (flt ((by decide) : ¬ ((2 : Int32) < (2 : Int32)))).2.1 41 (by decide) rfl ?_
      exact k
    exact own_oV X10 Hb Bd.notSynchronized Bd.returns w11 (D53 21) rfl (by decide) (by decide) ⟨rfl, N10, K, V_d_c10⟩
def L52 : List (Nat × Instr × Nat) := [(0, .aload_n 0, 1), (1, .iload_n 1, 1), (2, .aload_n 2, 1), (3, .iload_n 3, 1), (4, .iload 4, 2), (6, .invokestatic 240, 3), (9, .return_, 1)]
theorem D52 : ∀ k : Nat, own_PP jdk_43_method_50_code L52[k]? := own_dd (by decide +kernel)
theorem pd26 : parseMethodDescriptor "([BI[BII)V" = some ⟨[(.array .byte), .int, (.array .byte), .int, .int], none⟩ := by decide +kernel
theorem rm52 (hw : own_W a0 Z) (b d : Addr) (kk : Int32) (kb kd : ClassId) (nb nn : Int32) (ys : List Int32) (n : Nat) {zc : Int32} {fm : Value} {fn : Value} {u8 : Addr} {h0 : Heap} {n0 : Nat} (O0 : Old Z n0 h0) (SU : own_SU Z zc fm fn u8) (V_b : Arv Z h0 b kb .byte nb (own_lb ys) (.int 0)) (V_d : Arv Z h0 d kd .byte nn [] (.int 0)) (nbd : b ≠ d) (hk : kk = Int32.ofNat ys.length) (hnb : nb = Int32.ofNat n) (hn : nn = Int32.ofNat (2 * n)) (hkn : ys.length < n) (hB3 : n ≤ 3) (hL : own_L ys) (g_d : n0 ≤ d) : own_M l own_n52 jdk_43_method_50_code 5 none (own_rm 4 0 0 60) Z h0 #[.ref b, .int 0, .ref d, .int 0, .int kk] (fun v h L => v = none ∧ Fr n0 L ∧ Keep h0 h [d] ∧ Arv Z h d kd .byte nn (own_wb ys) (.int 0)) := by
  refine own_body (L0 := #[.val (.ref b), .val (.int 0), .val (.ref d), .val (.int 0), .val (.int kk)]) (plainFor_of_name pn_java_lang_StringLatin1) rfl rfl ?_
  intro p e s m below meth c s₁ f0 Bd hx Hb hml hZ hown X0 e0 pre0
  have W := own_q hw
  have N0 := Fr.nil n0
  have O := O0
  have K := Keep.refl h0 [d]
  obtain ⟨_, T1, Lc1, X1, hQ1, st1⟩ := own_cS X0 Hb hZ hown hml (L := #[.val (.ref b), .val (.int 0), .val (.ref d), .val (.int 0), .val (.int kk)]) rfl (rm53 hw b d kk kb kd nb nn ys n O SU V_b V_d nbd hk hnb hn hkn hB3 hL g_d) (W 270 rfl) (W 271 rfl) (W 22 rfl) (W 272 rfl) pd26 e0 (D52 5) [.ref b, .int 0, .ref d, .int 0, .int kk] [] 0
  obtain ⟨rfl, N1q, K1, V_d_c1⟩ := hQ1
  have N1 := Fr.app N0 N1q
  have V_b := V_b.keep K1 (ninS nbd nin0)
  have O := O.keep K1 (allS g_d all0)
  have K := K.trans K1 (allS (Or.inl (List.mem_of_getElem? (i := 0) rfl)) all0)
  have w2 : own_Go p e below f0 T1 m 9 #[.val (.ref b), .val (.int 0), .val (.ref d), .val (.int 0), .val (.int kk)] [] := fun t k => by
    refine pre0 t ?_
    refine zal X0 Hb (D52 0) rfl rfl <| zil X0 Hb (D52 1) rfl <| zal X0 Hb (D52 2) rfl rfl <| zil X0 Hb (D52 3) rfl <| ziL X0 Hb (D52 4) rfl <| st1 _ ?_
    exact k
  exact own_oV X1 Hb Bd.notSynchronized Bd.returns w2 (D52 6) rfl (by decide) (by decide) ⟨rfl, N1, K, V_d_c1⟩
def L51 : List (Nat × Instr × Nat) := [(0, .aload_n 0, 1), (1, .invokevirtual 83, 3), (4, .ifCond .ne 4, 3), (8, .aload_n 0, 1), (9, .getfield 15, 3), (12, .arraylength, 1), (13, .invokestatic 26, 3), (16, .astore_n 1, 1), (17, .aload_n 0, 1), (18, .getfield 15, 3), (21, .iconst 0, 1), (22, .aload_n 1, 1), (23, .iconst 0, 1), (24, .aload_n 0, 1), (25, .getfield 79, 3), (28, .invokestatic 125, 3), (31, .aload_n 0, 1), (32, .aload_n 1, 1), (33, .putfield 15, 3), (36, .aload_n 0, 1), (37, .iconst 1, 1), (38, .putfield 22, 3), (41, .return_, 1)]
theorem D51 : ∀ k : Nat, own_PP jdk_68_method_11_code L51[k]? := own_dd (by decide +kernel)
theorem rm51 (hw : own_W a0 Z) (a tt : Addr) (kt : ClassId) (kk nb : Int32) (ys : List Int32) (n : Nat) {zc : Int32} {fm : Value} {fn : Value} {u8 : Addr} {h0 : Heap} {n0 : Nat} (O0 : Old Z n0 h0) (SU : own_SU Z zc fm fn u8) (E_a : Exa Z h0 a "java/lang/StringBuilder") (F_v_a : Fld Z h0 a "java/lang/AbstractStringBuilder" "value" "[B" (.ref tt)) (F_c_a : Fld Z h0 a "java/lang/AbstractStringBuilder" "coder" "B" (.int 0)) (F_n_a : Fld Z h0 a "java/lang/AbstractStringBuilder" "count" "I" (.int kk)) (F_m_a : Fld Z h0 a "java/lang/AbstractStringBuilder" "maybeLatin1" "Z" (.int 0)) (V_tt : Arv Z h0 tt kt .byte nb (own_lb ys) (.int 0)) (hnb : nb = Int32.ofNat n) (hk : kk = Int32.ofNat ys.length) (hkn : ys.length < n) (hB3 : n ≤ 3) (hL : own_L ys) (g_a : n0 ≤ a) : own_M l own_n51 jdk_68_method_11_code 2 none (own_rm 5 1 6 76) Z h0 #[.ref a] (fun v h L => ∃ z : Addr, ∃ kz : ClassId, v = none ∧ Fr n0 L ∧ Keep h0 h [a] ∧ Fld Z h a "java/lang/AbstractStringBuilder" "value" "[B" (.ref z) ∧ Fld Z h a "java/lang/AbstractStringBuilder" "coder" "B" (.int 1) ∧ Fld Z h a "java/lang/AbstractStringBuilder" "count" "I" (.int kk) ∧ Fld Z h a "java/lang/AbstractStringBuilder" "maybeLatin1" "Z" (.int 0) ∧ Arv Z h z kz .byte (Int32.ofNat (2 * n)) (own_wb ys) (.int 0) ∧ Exa Z h z "[B" ∧ h0.size ≤ z ∧ n0 ≤ z) := by
  refine own_body (L0 := #[.val (.ref a), .unset]) (plainFor_of_name pn_java_lang_AbstractStringBuilder) rfl rfl ?_
  intro p e s m below meth c s₁ f0 Bd hx Hb hml hZ hown X0 e0 pre0
  have hby := Hb.2
  have W := own_q hw
  have N0 := Fr.nil n0
  have O := O0
  have K := Keep.refl h0 [a]
  obtain ⟨_, T1, Lc1, X1, hQ1, st1⟩ := own_cV X0 Hb hZ hown hml (L := #[.val (.ref a), .unset]) rfl (rm47_L hw a O SU F_c_a) (W 241 rfl) (W 242 rfl) (W 244 rfl) (W 243 rfl) (W 199 rfl) (W 245 rfl) pd9 e0 E_a (D51 1) [] [] 0
  obtain ⟨rfl, N1q, eh1⟩ := hQ1
  have N1 := Fr.app N0 N1q
  obtain ⟨T2, X2, e2, st2⟩ := getF X1 hx hZ hown (host := "") (Or.inl (W 203 rfl)) Via.refl eh1 F_v_a (g := (mkF m 9 #[.val (.ref a), .unset] [.ref a])) rfl rfl (hb hby (D51 4))
  have B3 := own_ln V_tt
  have lt4_a := E_a.lt
  have lt4_tt := V_tt.lt
  obtain ⟨_, T4, Lc4, X4, hQ4, st4⟩ := own_cS X2 Hb hZ hown hml (L := #[.val (.ref a), .unset]) rfl (rm29_g hw nb n O hnb hB3) (W 266 rfl) (W 137 rfl) (W 22 rfl) (W 138 rfl) pd17 e2 (D51 6) [.int nb] [] 0
  obtain ⟨z_4, kz_4, rfl, N4q, K4, V_z_c4, E_z_c4, gz_4, gn_4⟩ := hQ4
  have N4 := Fr.app N1 N4q
  have E_a := E_a.keep K4
  have F_v_a := F_v_a.keep K4 nin0
  have F_c_a := F_c_a.keep K4 nin0
  have F_n_a := F_n_a.keep K4 nin0
  have F_m_a := F_m_a.keep K4 nin0
  have V_tt := V_tt.keep K4 nin0
  have ne_a_z_4 : a ≠ z_4 := Nat.ne_of_lt (Nat.lt_of_lt_of_le lt4_a gz_4)
  have ne_tt_z_4 : tt ≠ z_4 := Nat.ne_of_lt (Nat.lt_of_lt_of_le lt4_tt gz_4)
  have g_z_4 := gn_4
  have z_z_4 : h0.size ≤ z_4 := Nat.le_trans K.1 gz_4
  have O := O.keep K4 all0
  have K := K.trans K4 all0
  obtain ⟨T5, X5, e5, st5⟩ := getF X4 hx hZ hown (host := "") (Or.inl (W 203 rfl)) Via.refl rfl F_v_a (g := (mkF m 18 #[.val (.ref a), .val (.ref z_4)] [.ref a])) rfl rfl (hb hby (D51 9))
  obtain ⟨T6, X6, e6, st6⟩ := getF X5 hx hZ hown (host := "") (Or.inl (W 228 rfl)) Via.refl e5 F_n_a (g := (mkF m 25 #[.val (.ref a), .val (.ref z_4)] [.ref a, .int 0, .ref z_4, .int 0, .ref tt])) rfl rfl (hb hby (D51 14))
  obtain ⟨_, T7, Lc7, X7, hQ7, st7⟩ := own_cS X6 Hb hZ hown hml (L := #[.val (.ref a), .val (.ref z_4)]) rfl (rm52 hw tt z_4 kk kt kz_4 nb (Int32.ofNat (2 * n)) ys n O SU V_tt V_z_c4 ne_tt_z_4 hk hnb rfl hkn hB3 hL g_z_4) (W 267 rfl) (W 268 rfl) (W 87 rfl) (W 269 rfl) pd26 e6 (D51 15) [.ref tt, .int 0, .ref z_4, .int 0, .int kk] [] 0
  obtain ⟨rfl, N7q, K7, V_d_c7⟩ := hQ7
  have N7 := Fr.app N4 N7q
  have E_a := E_a.keep K7
  have F_v_a := F_v_a.keep K7 (ninS ne_a_z_4 nin0)
  have F_c_a := F_c_a.keep K7 (ninS ne_a_z_4 nin0)
  have F_n_a := F_n_a.keep K7 (ninS ne_a_z_4 nin0)
  have F_m_a := F_m_a.keep K7 (ninS ne_a_z_4 nin0)
  have V_tt := V_tt.keep K7 (ninS ne_tt_z_4 nin0)
  have E_z_c4 := E_z_c4.keep K7
  have O := O.keep K7 (allS g_z_4 all0)
  have K := K.trans K7 (allS (Or.inr z_z_4) all0)
  have ne_tt_a : tt ≠ a := (Ne.symm (Exa.neArv E_a V_tt (W 190 rfl)))
  obtain ⟨T8, h8, X8, e8, W8, st8⟩ := putF X7 hx hZ hown (host := "") (Or.inl (W 203 rfl)) Via.refl rfl F_v_a E_a (Or.inl (W 204 rfl)) (W 190 rfl) (ty := (.array .byte)) (by decide) rfl rfl (g := (mkF m 33 #[.val (.ref a), .val (.ref z_4)] [.ref z_4, .ref a])) rfl rfl (hb hby (D51 18))
  have F_v_a := F_v_a.same W8
  have E_a := E_a.wr W8
  have F_c_a := F_c_a.other W8 (Or.inr (slot_ne (Or.inl (W 206 rfl)) (Or.inl (W 204 rfl)) (by decide) (t := .byte) (t' := (.array .byte)) (by decide) (by decide)))
  have F_n_a := F_n_a.other W8 (Or.inr (slot_ne (Or.inl (W 229 rfl)) (Or.inl (W 204 rfl)) (by decide) (t := .int) (t' := (.array .byte)) (by decide) (by decide)))
  have F_m_a := F_m_a.other W8 (Or.inr (slot_ne (Or.inl (W 318 rfl)) (Or.inl (W 204 rfl)) (by decide) (t := .boolean) (t' := (.array .byte)) (by decide) (by decide)))
  have V_tt := V_tt.other W8 ne_tt_a
  have E_z_c4 := E_z_c4.wr W8
  have V_d_c7 := V_d_c7.other W8 (Ne.symm ne_a_z_4)
  have O := O.wr W8 g_a
  have K := K.wr W8 (Or.inl (List.mem_of_getElem? (i := 0) rfl))
  have N8 := Fr.snoc X8 N7 g_a
  obtain ⟨T9, h9, X9, e9, W9, st9⟩ := putFN X8 hx hZ hown (W 205 rfl) Via.refl e8 F_c_a E_a (Or.inl (W 206 rfl)) (W 190 rfl) (ty := .byte) (v' := (.int 1)) (by decide) rfl rfl (g := (mkF m 38 #[.val (.ref a), .val (.ref z_4)] [.int 1, .ref a])) rfl rfl (hb hby (D51 21))
  have F_c_a := F_c_a.same W9
  have E_a := E_a.wr W9
  have F_v_a := F_v_a.other W9 (Or.inr (slot_ne (Or.inl (W 204 rfl)) (Or.inl (W 206 rfl)) (by decide) (t := (.array .byte)) (t' := .byte) (by decide) (by decide)))
  have F_n_a := F_n_a.other W9 (Or.inr (slot_ne (Or.inl (W 229 rfl)) (Or.inl (W 206 rfl)) (by decide) (t := .int) (t' := .byte) (by decide) (by decide)))
  have F_m_a := F_m_a.other W9 (Or.inr (slot_ne (Or.inl (W 318 rfl)) (Or.inl (W 206 rfl)) (by decide) (t := .boolean) (t' := .byte) (by decide) (by decide)))
  have V_tt := V_tt.other W9 ne_tt_a
  have E_z_c4 := E_z_c4.wr W9
  have V_d_c7 := V_d_c7.other W9 (Ne.symm ne_a_z_4)
  have O := O.wr W9 g_a
  have K := K.wr W9 (Or.inl (List.mem_of_getElem? (i := 0) rfl))
  have N9 := Fr.snoc X9 N8 g_a
  have w10 : own_Go p e below f0 T9 m 41 #[.val (.ref a), .val (.ref z_4)] [] := fun t k => by
    refine pre0 t ?_
    refine zal X0 Hb (D51 0) rfl rfl <| st1 _ <| ziy X1 Hb (D51 2) ((if0 _ _).trans (feq ((by decide) : ¬ ((1 : Int32) = (0 : Int32)))).2) 8 (by decide) rfl <| zal X1 Hb (D51 3) rfl rfl <| st2 _ <| zal_ X2 Hb hZ e2 B3 (D51 5) <| st4 _ <| zas X4 Hb (L' := #[.val (.ref a), .val (.ref z_4)]) (D51 7) rfl rfl ?_
    refine zal X4 Hb (D51 8) rfl rfl <| st5 _ <| zic X5 Hb (D51 10) 0 rfl <| zal X5 Hb (D51 11) rfl rfl <| zic X5 Hb (D51 12) 0 rfl <| zal X5 Hb (D51 13) rfl rfl <| st6 _ <| st7 _ ?_
    refine zal X7 Hb (D51 16) rfl rfl <| zal X7 Hb (D51 17) rfl rfl <| st8 _ <| zal X8 Hb (D51 19) rfl rfl <| zic X8 Hb (D51 20) 1 rfl <| st9 _ ?_
    exact k
  exact own_oV X9 Hb Bd.notSynchronized Bd.returns w10 (D51 22) e9 (by decide) (by decide) ⟨z_4, kz_4, rfl, N9, K, F_v_a, F_c_a, F_n_a, F_m_a, V_d_c7, E_z_c4, z_z_4, g_z_4⟩
theorem own_nf {args : Array Value} {s : State} {C : String} {y z : MethodName} (hsel : (Jvm.Cond.selects C z z).before args s = true) (hc : y.cls = z.cls) : NotFace s y := fun r0 h0 => by
  obtain ⟨c2, r2, m2, q1, q2, q3, q4, kP, hkP, hkPi⟩ := Cond.selects_spec hsel
  have a := findClass_of_methodNamed h0
  have b := findClass_of_methodNamed q3
  rw [hc] at a
  have e := Option.some.inj (a.symm.trans b)
  exact ⟨kP, by rw [e]; exact hkP, hkPi⟩
theorem own_ar2a : ∀ e < 4, ∀ i < e + 1, ¬ (Int32.ofNat i <<< ((1 : Int32) &&& 31)) < 0 ∧ ¬ ((Int32.ofNat e - Int32.ofNat i) <<< ((1 : Int32) &&& 31)) < 0 ∧ (Int32.ofNat i <<< ((1 : Int32) &&& 31)).toNatClampNeg = 2 * i ∧ ((Int32.ofNat e - Int32.ofNat i) <<< ((1 : Int32) &&& 31)).toNatClampNeg = 2 * (e - i) ∧ (Int32.ofNat i + (Int32.ofNat e - Int32.ofNat i)) = Int32.ofNat e ∧ ¬ Int32.ofNat e < Int32.ofNat i ∧ ¬ Int32.ofNat i < (0 : Int32) := by decide +kernel
theorem own_ar2b : ∀ n < 4, ∀ e < n + 1, (Int32.ofNat (2 * n)).toNatClampNeg = 2 * n ∧ ¬ Int32.ofNat n < Int32.ofNat e ∧ ¬ (0 : Int32) < (Int32.ofNat e - (Int32.ofNat n >>> ((0 : Int32) &&& 31))) ∧ ¬ (0 : Int32) < (Int32.ofNat e - (Int32.ofNat (2 * n) >>> ((1 : Int32) &&& 31))) := by decide +kernel
theorem own_ar2c : ∀ e < 4, ∀ i < 4, (Int32.ofNat i < Int32.ofNat e ↔ i < e) ∧ (Int32.ofNat i).toNatClampNeg = i := by decide +kernel
theorem own_ar2 (n : Nat) (hn : n < 4) (e : Nat) (he : e < n + 1) (i : Nat) (hi : i < e + 1) : ¬ (Int32.ofNat i <<< ((1 : Int32) &&& 31)) < 0 ∧ ¬ ((Int32.ofNat e - Int32.ofNat i) <<< ((1 : Int32) &&& 31)) < 0 ∧ (Int32.ofNat i <<< ((1 : Int32) &&& 31)).toNatClampNeg = 2 * i ∧ ((Int32.ofNat e - Int32.ofNat i) <<< ((1 : Int32) &&& 31)).toNatClampNeg = 2 * (e - i) ∧ (Int32.ofNat (2 * n)).toNatClampNeg = 2 * n ∧ (Int32.ofNat i + (Int32.ofNat e - Int32.ofNat i)) = Int32.ofNat e ∧ ¬ Int32.ofNat e < Int32.ofNat i ∧ ¬ Int32.ofNat n < Int32.ofNat e ∧ ¬ Int32.ofNat i < (0 : Int32) ∧ ¬ (0 : Int32) < ((Int32.ofNat i + (Int32.ofNat e - Int32.ofNat i)) - (Int32.ofNat n >>> ((0 : Int32) &&& 31))) ∧ ¬ (0 : Int32) < ((Int32.ofNat i + (Int32.ofNat e - Int32.ofNat i)) - (Int32.ofNat (2 * n) >>> ((1 : Int32) &&& 31))) ∧ (Int32.ofNat i < Int32.ofNat e ↔ i < e) ∧ (Int32.ofNat i).toNatClampNeg = i := by
  have A := own_ar2a e (by omega) i hi
  have B := own_ar2b n hn e he
  have C := own_ar2c e (by omega) i (by omega)
  exact ⟨A.1, A.2.1, A.2.2.1, A.2.2.2.1, B.1, A.2.2.2.2.1, A.2.2.2.2.2.1, B.2.1, A.2.2.2.2.2.2, by rw [A.2.2.2.2.1]; exact B.2.2.1, by rw [A.2.2.2.2.1]; exact B.2.2.2, C.1, C.2⟩
def own_TK (cs : List Int32) (i e : Nat) : List Int32 := (cs.drop i).take (e - i)
theorem own_wbd : ∀ (cs : List Int32) (i : Nat), own_wb (cs.drop i) = (own_wb cs).drop (2 * i)
  | _, 0 => rfl
  | [], i + 1 => by simp [own_wb]
  | c :: r, i + 1 => by
    rw [List.drop_succ_cons, own_wbd r i, show 2 * (i + 1) = 2 * i + 1 + 1 by omega]
    rfl
theorem own_wbt : ∀ (cs : List Int32) (i : Nat), own_wb (cs.take i) = (own_wb cs).take (2 * i)
  | _, 0 => by simp [own_wb]
  | [], i + 1 => by simp [own_wb]
  | c :: r, i + 1 => by
    rw [List.take_succ_cons, own_wb, own_wbt r i, show 2 * (i + 1) = 2 * i + 1 + 1 by omega]
    rfl
theorem own_wsl (cs : List Int32) (i k : Nat) (h : i + k ≤ cs.length) : own_wb ((cs.drop i).take k) = (List.range (2 * k)).map fun q => (own_wb cs).getD (2 * i + q) (.int 0) := by
  rw [own_wbt, own_wbd]
  have hl := own_wbl cs
  apply List.ext_getElem
  · simp [hl]; omega
  · intro m h1 h2
    simp at h2
    rw [List.getElem_take, List.getElem_drop, List.getElem_map, List.getElem_range, List.getD_eq_getElem?_getD, List.getElem?_eq_getElem (by rw [hl]; omega)]
    rfl
theorem own_cpy {cs ys : List Int32} {i e : Nat} (hB3 : cs.length ≤ 3) (hy : ys.length = i) (he : i ≤ e) (hen : e ≤ cs.length) : ¬ (Int32.ofNat i <<< ((1 : Int32) &&& 31)) < 0 ∧ ¬ ((Int32.ofNat e - Int32.ofNat i) <<< ((1 : Int32) &&& 31)) < 0 ∧ (Int32.ofNat i <<< ((1 : Int32) &&& 31)).toNatClampNeg + ((Int32.ofNat e - Int32.ofNat i) <<< ((1 : Int32) &&& 31)).toNatClampNeg ≤ (Int32.ofNat (2 * cs.length)).toNatClampNeg ∧ own_wb (own_TK cs i e) = ((List.range ((Int32.ofNat e - Int32.ofNat i) <<< ((1 : Int32) &&& 31)).toNatClampNeg).map fun q => (own_wb cs).getD ((Int32.ofNat i <<< ((1 : Int32) &&& 31)).toNatClampNeg + q) (.int 0)) ∧ (Int32.ofNat i <<< ((1 : Int32) &&& 31)).toNatClampNeg + ((Int32.ofNat e - Int32.ofNat i) <<< ((1 : Int32) &&& 31)).toNatClampNeg ≤ (own_wb ys ++ List.replicate 6 (Value.int 0)).length ∧ ∀ q, (own_wb (ys ++ own_TK cs i e)).getD q (.int 0) = ((own_wb ys ++ List.replicate 6 (Value.int 0)).take (Int32.ofNat i <<< ((1 : Int32) &&& 31)).toNatClampNeg ++ own_wb (own_TK cs i e) ++ (own_wb ys ++ List.replicate 6 (Value.int 0)).drop ((Int32.ofNat i <<< ((1 : Int32) &&& 31)).toNatClampNeg + ((Int32.ofNat e - Int32.ofNat i) <<< ((1 : Int32) &&& 31)).toNatClampNeg)).getD q (.int 0) := by
  have A := own_ar2 cs.length (by omega) e (by omega) i (by omega)
  have hl := own_wbl ys
  rw [A.2.2.1, A.2.2.2.1, A.2.2.2.2.1]
  refine ⟨A.1, A.2.1, by omega, ?_, ?_, fun q => ?_⟩
  · exact own_wsl cs i (e - i) (by omega)
  · rw [List.length_append, List.length_replicate, hl]; omega
  · rw [List.take_append_of_le_length (by omega), List.take_of_length_le (by omega), List.drop_append, List.drop_eq_nil_of_le (by omega), List.nil_append, List.drop_replicate, own_wba]
    exact (pad_rep _ _ _ _).symm
def own_SB (n : Nat) (ys : List Int32) (cd nb : Int32) (lst : List Value) : Prop := (cd = (0 : Int32) ∧ nb = Int32.ofNat n ∧ lst = own_lb ys ∧ own_L ys) ∨ (cd = (1 : Int32) ∧ nb = Int32.ofNat (2 * n) ∧ lst = own_wb ys)
theorem own_cap {n e : Nat} {ys : List Int32} {cd nb : Int32} {lst : List Value} (hS : own_SB n ys cd nb lst) (hB3 : n ≤ 3) (he : ys.length ≤ e) (hen : e ≤ n) : ¬ (0 : Int32) < ((Int32.ofNat ys.length + (Int32.ofNat e - Int32.ofNat ys.length)) - (nb >>> (cd &&& 31))) := by
  have A := own_ar2 n (by omega) e (by omega) ys.length (by omega)
  rcases hS with ⟨rfl, rfl, -⟩ | ⟨rfl, rfl, -⟩
  · exact A.2.2.2.2.2.2.2.2.2.1
  · exact A.2.2.2.2.2.2.2.2.2.2.1
theorem own_lbs (zs : List Int32) (x : Int32) : own_lb (zs ++ [x]) = own_lb zs ++ [.int (own_b x)] := by simp [own_lb]
theorem own_lbl (zs : List Int32) : (own_lb zs).length = zs.length := by simp [own_lb]
theorem own_lc {c : Int32} (hg : own_gc (own_lo c) (own_hi c) = c) (h : ¬ own_ce c = (0 : Int32)) : (own_b c &&& (255 : Int32)) = c := by
  have h1 : ¬ (255 : Int32) < c := fun q => h (by simp [own_ce, q])
  have h0 := c_i2c (own_k (((own_lo c &&& (255 : Int32)) <<< ((0 : Int32) &&& 31)) ||| ((own_hi c &&& (255 : Int32)) <<< ((8 : Int32) &&& 31))))
  have e : own_gc (own_lo c) (own_hi c) = (own_k (((own_lo c &&& (255 : Int32)) <<< ((0 : Int32) &&& 31)) ||| ((own_hi c &&& (255 : Int32)) <<< ((8 : Int32) &&& 31)))).toUInt32.toUInt16.toUInt32.toInt32 := rfl
  rw [← e, hg] at h0
  rw [Int32.lt_iff_toInt_lt, show (255 : Int32).toInt = 255 from rfl] at h1
  obtain ⟨k, hk⟩ := own_ex c 256 (by omega) (by omega) (by decide)
  rw [hk]
  exact (by decide +kernel : ∀ k : Fin 256, (own_b (Int32.ofNat k.val) &&& (255 : Int32)) = Int32.ofNat k.val) k
theorem own_c0 (x : Int32) : (0 : Int32) + (x - (0 : Int32)) = x := by simp
theorem own_tk {cs : List Int32} {i : Nat} {x : Int32} {r : List Int32} (h : cs.drop i = x :: r) : cs.take (i + 1) = cs.take i ++ [x] := by
  have D := (own_dl h).1
  rw [List.take_add_one, List.getElem?_eq_getElem D]
  have q : cs[i]? = some x := by
    rw [show cs[i]? = (cs.drop i)[0]? by simp, h]
    rfl
  rw [List.getElem?_eq_getElem D] at q
  rw [Option.some.inj q]
  rfl
theorem own_tkl {cs : List Int32} {i : Nat} (h : i ≤ cs.length) : (cs.take i).length = i := by rw [List.length_take]; omega
theorem own_tka {cs : List Int32} {i e : Nat} (h : i ≤ e) : cs.take i ++ own_TK cs i e = ([] : List Int32) ++ own_TK cs 0 e := by
  rw [own_TK, own_TK, List.nil_append, List.drop_zero, Nat.sub_zero]
  conv => rhs; rw [show e = i + (e - i) by omega, List.take_add]
theorem own_sf2 {t t2 t3 : Addr} {n0 n1 : Nat} (h1 : t2 = t ∨ n0 ≤ t2) (h2 : t3 = t2 ∨ n1 ≤ t3) (k : n0 ≤ n1) : t3 = t ∨ n0 ≤ t3 := by
  rcases h2 with rfl | h2
  · exact h1
  · exact Or.inr (Nat.le_trans k h2)
def L46 : List (Nat × Instr × Nat) := [(0, .aload_n 0, 1), (1, .invokevirtual 83, 3), (4, .ifCond .eq 141, 3), (7, .aload_n 1, 1), (8, .invokevirtual 400, 3), (11, .ifCond .eq 25, 3), (36, .aload_n 0, 1), (37, .getfield 15, 3), (40, .astore 4, 2), (42, .iload_n 2, 1), (43, .istore 5, 2), (45, .aload_n 0, 1), (46, .getfield 79, 3), (49, .istore 6, 2), (51, .iload 5, 2), (53, .iload_n 3, 1), (54, .if_icmp .ge 88, 3), (57, .aload_n 1, 1), (58, .iload 5, 2), (60, .invokevirtual 404, 3), (63, .istore 7, 2), (65, .iload 7, 2), (67, .invokestatic 191, 3), (70, .ifCond .eq 17, 3), (73, .aload 4, 2), (75, .iload 6, 2), (77, .iinc 6 1, 3), (80, .iload 7, 2), (82, .i2b, 1), (83, .bastore, 1), (84, .goto 52, 3), (87, .aload_n 0, 1), (88, .iload 6, 2), (90, .putfield 79, 3), (93, .aload_n 0, 1), (94, .invokevirtual 195, 3), (97, .aload_n 1, 1), (98, .invokevirtual 401, 3), (101, .iload 5, 2), (103, .iconst 1, 1), (104, .ishl, 1), (105, .aload_n 0, 1), (106, .getfield 15, 3), (109, .iload 6, 2), (111, .iconst 1, 1), (112, .ishl, 1), (113, .iload_n 3, 1), (114, .iload 5, 2), (116, .isub, 1), (117, .iconst 1, 1), (118, .ishl, 1), (119, .invokestatic 309, 3), (122, .aload_n 0, 1), (123, .dup, 1), (124, .getfield 79, 3), (127, .iload_n 3, 1), (128, .iload 5, 2), (130, .isub, 1), (131, .iadd, 1), (132, .putfield 79, 3), (135, .return_, 1), (136, .iinc 5 1, 3), (139, .goto (-88), 3), (142, .goto 52, 3), (145, .aload_n 1, 1), (146, .invokevirtual 400, 3), (149, .ifCond .eq 20, 3), (169, .aload_n 1, 1), (170, .invokevirtual 401, 3), (173, .iload_n 2, 1), (174, .iconst 1, 1), (175, .ishl, 1), (176, .aload_n 0, 1), (177, .getfield 15, 3), (180, .aload_n 0, 1), (181, .getfield 79, 3), (184, .iconst 1, 1), (185, .ishl, 1), (186, .iload_n 3, 1), (187, .iload_n 2, 1), (188, .isub, 1), (189, .iconst 1, 1), (190, .ishl, 1), (191, .invokestatic 309, 3), (194, .aload_n 0, 1), (195, .dup, 1), (196, .getfield 79, 3), (199, .iload_n 3, 1), (200, .iload_n 2, 1), (201, .isub, 1), (202, .iadd, 1), (203, .putfield 79, 3), (206, .return_, 1)]
theorem D46 : ∀ k : Nat, own_PP jdk_68_method_75_code L46[k]? := own_dd (by decide +kernel)
def own_F20 (x0 : Addr) (x1 : Addr) (x2 : Int32) (x3 : Int32) (x4 : Addr) (x5 : Int32) (x6 : Int32) (x7 : Slot) : Array Slot := #[.val (.ref x0), .val (.ref x1), .val (.int x2), .val (.int x3), .val (.ref x4), .val (.int x5), .val (.int x6), x7]
def own_F21 (x0 : Addr) (x1 : Addr) (x2 : Int32) (x3 : Int32) (x4 : Addr) (x5 : Int32) (x6 : Int32) (x7 : Int32) : Array Slot := #[.val (.ref x0), .val (.ref x1), .val (.int x2), .val (.int x3), .val (.ref x4), .val (.int x5), .val (.int x6), .val (.int x7)]
theorem fr46 {p : Program} {e : Env} {R : Room} {s : State} {m : MethodId} {args : Array Value} {below : List Frame} {meth : Method} {c : Code} {T f0 : State} {locs : List Loc} {cells slots : Nat} (hw : own_W a0 Z) (a ta : Addr) (mm : Int32) (tt : Addr) (jj : Int32) (x7 : Slot) (tb : Addr) (kc kt : ClassId) (cs zs : List Int32) (ii : Nat) (xx : Int32) (rt : List Int32) {zc : Int32} {fm : Value} {fn : Value} {u8 : Addr} {h0 : Heap} {n0 : Nat} (X0 : Stand p l e R s m args below meth c T locs cells slots) (hx : p.tables.exec = Jvm.exec) (Hb : own_H p c jdk_68_method_75_code) (hZ : Z.Warmed39 s.vm) (hown : s.vm.findClass own_n46.cls = some m.cls) (hml : c.maxLocals = 8) (hR : 5 ≤ R.frames ∧ 66 ≤ R.locals ∧ cells ≤ R.cells ∧ slots ≤ R.slots) (e0 : T.heap = h0) (N0 : Fr n0 locs) (O : Old Z n0 h0) (SU : own_SU Z zc fm fn u8) (E_ta : Exa Z h0 ta "java/lang/String") (F_v_ta : Fld Z h0 ta "java/lang/String" "value" "[B" (.ref tb)) (F_c_ta : Fld Z h0 ta "java/lang/String" "coder" "B" (.int 1)) (V_tb : Arv Z h0 tb kc .byte (Int32.ofNat (2 * cs.length)) (own_wb cs) (.int 0)) (V_tt : Arv Z h0 tt kt .byte (Int32.ofNat cs.length) (own_lb zs) (.int 0)) (nbt : tb ≠ tt) (hj : jj = Int32.ofNat ii) (hzl : zs.length = ii) (hB3 : cs.length ≤ 3) (hG : own_G cs) (hr : cs.drop ii = xx :: rt) (hlt : jj < mm) (hce : ¬ (own_ce xx) = (0 : Int32)) (ok_x7 : own_OK x7) (g_tt : n0 ≤ tt) (pre0 : own_Go p e below f0 T m 51 (own_F20 a ta (0 : Int32) mm tt jj jj x7) []) : ∃ (T' : State) (L' : List Loc), Stand p l e R s m args below meth c T' L' cells slots ∧ Fr n0 L' ∧ Keep h0 T'.heap [tt] ∧ Arv Z T'.heap tt kt .byte (Int32.ofNat cs.length) (own_lb (zs ++ [xx])) (.int 0) ∧ own_Go p e below f0 T' m 51 (own_F21 a ta (0 : Int32) mm tt (jj + (1 : Int32)) (jj + (1 : Int32)) xx) [] := by
  have hby := Hb.2
  have W := own_q hw
  have K := Keep.refl h0 [tt]
  have AT := own_at hj hB3 hG hr
  obtain ⟨_, T1, Lc1, X1, hQ1, st1⟩ := own_cV X0 Hb hZ hown hml (L := (own_F20 a ta (0 : Int32) mm tt jj jj x7)) rfl (rm17_U hw ta jj tb kc (Int32.ofNat (2 * cs.length)) (own_wb cs) xx (Int32.ofNat cs.length) O SU E_ta F_v_ta F_c_ta V_tb AT.1 AT.2.1 AT.2.2.1 AT.2.2.2.1 AT.2.2.2.2.1 AT.2.2.2.2.2.1 AT.2.2.2.2.2.2.1 AT.2.2.2.2.2.2.2) (W 247 rfl) (W 76 rfl) (W 78 rfl) (W 77 rfl) (W 8 rfl) (W 79 rfl) pd11 e0 E_ta (D46 19) [.int jj] [] 0 (hf := ⟨Nat.le_trans (by decide) hR.1, Nat.le_trans (by decide) hR.2.1, hR.2.2.1, hR.2.2.2⟩)
  obtain ⟨rfl, N1q, eh1⟩ := hQ1
  have N1 := Fr.app N0 N1q
  obtain ⟨_, T2, Lc2, X2, hQ2, st2⟩ := own_cS X1 Hb hZ hown hml (L := (own_F21 a ta (0 : Int32) mm tt jj jj xx)) rfl (rm48 hw xx O ) (W 248 rfl) (W 249 rfl) (W 87 rfl) (W 250 rfl) pd1 eh1 (D46 22) [.int xx] [] 0 (hf := ⟨Nat.le_trans (by decide) hR.1, Nat.le_trans (by decide) hR.2.1, hR.2.2.1, hR.2.2.2⟩)
  obtain ⟨rfl, N2q, eh2⟩ := hQ2
  have N2 := Fr.app N1 N2q
  have ne_ta_tt : ta ≠ tt := (Exa.neArv E_ta V_tt (W 7 rfl))
  have V_tt := V_tt.pad (pad_rep _ _ 1)
  obtain ⟨T3, h3, X3, e3, W3, V_tt, st3⟩ := own_sB X2 Hb hZ eh2 V_tt (x := (xx.toInt8.toInt32)) (L := (own_F21 a ta (0 : Int32) mm tt jj (jj + (1 : Int32)) xx)) (S := []) ⟨AT.2.2.2.2.2.2.1, AT.2.2.2.2.2.2.2⟩ (by rw [hj, own_lbl, hzl]; exact (own_ar2 ii (by have := (own_dl hr).1; omega) ii (by omega) ii (by omega)).2.2.2.2.2.2.2.2.2.2.2.2) (own_pl _ 0 _) (D46 29) (own_pw _ _ _)
  have E_ta := E_ta.wr W3
  have F_v_ta := F_v_ta.other W3 (Or.inl ne_ta_tt)
  have F_c_ta := F_c_ta.other W3 (Or.inl ne_ta_tt)
  have V_tb := V_tb.other W3 nbt
  have O := O.wr W3 g_tt
  have K := K.wr W3 (Or.inl (List.mem_of_getElem? (i := 0) rfl))
  have N3 := Fr.snoc X3 N2 g_tt
  have w4 : own_Go p e below f0 T3 m 51 (own_F21 a ta (0 : Int32) mm tt (jj + (1 : Int32)) (jj + (1 : Int32)) xx) [] := fun t k => by
    refine pre0 t ?_
    refine ziL X0 Hb (D46 14) rfl <| zil X0 Hb (D46 15) rfl <| zcn X0 Hb (D46 16) (tlt (hlt : jj < mm)).2.1 <| zal X0 Hb (D46 17) rfl rfl <| ziL X0 Hb (D46 18) rfl <| st1 _ <| ziS X1 Hb (L' := (own_F21 a ta (0 : Int32) mm tt jj jj xx)) (D46 20) (by rcases ok_x7 with h | ⟨v, h⟩ <;> rw [h] <;> rfl) <| ziL X1 Hb (D46 21) rfl ?_
    refine st2 _ <| zin X2 Hb (D46 23) ((if0 _ _).trans (feq (hce : ¬ ((own_ce xx) = (0 : Int32)))).1) <| zaL X2 Hb (D46 24) rfl rfl <| ziL X2 Hb (D46 25) rfl <| zii X2 Hb (L' := (own_F21 a ta (0 : Int32) mm tt jj (jj + (1 : Int32)) xx)) (D46 26) rfl (jj + (1 : Int32)) rfl rfl <| ziL X2 Hb (D46 27) rfl <| zib X2 Hb (D46 28) <| st3 _ ?_
    refine zgo X3 Hb (D46 30) 136 (by decide) rfl <| zii X3 Hb (L' := (own_F21 a ta (0 : Int32) mm tt (jj + (1 : Int32)) (jj + (1 : Int32)) xx)) (D46 61) rfl (jj + (1 : Int32)) rfl rfl <| zgo X3 Hb (D46 62) 51 (by decide) rfl ?_
    exact k
  exact ⟨T3, _, X3, N3, by rw [e3]; exact K, by rw [e3]; exact (by rw [own_lbs]; exact V_tt), w4⟩
theorem lp46 {p : Program} {e : Env} {R : Room} {s : State} {m : MethodId} {args : Array Value} {below : List Frame} {meth : Method} {c : Code} {f0 : State} {cells slots : Nat} (hw : own_W a0 Z) (a ta tt tb : Addr) (kc kt : ClassId) (cs : List Int32) (ee : Nat) {zc : Int32} {fm : Value} {fn : Value} {u8 : Addr} {n0 : Nat} (hx : p.tables.exec = Jvm.exec) (Hb : own_H p c jdk_68_method_75_code) (hZ : Z.Warmed39 s.vm) (hown : s.vm.findClass own_n46.cls = some m.cls) (hml : c.maxLocals = 8) (hR : 5 ≤ R.frames ∧ 66 ≤ R.locals ∧ cells ≤ R.cells ∧ slots ≤ R.slots) (SU : own_SU Z zc fm fn u8) (nbt : tb ≠ tt) (hB3 : cs.length ≤ 3) (hG : own_G cs) (hen : ee ≤ cs.length) (g_tt : n0 ≤ tt) : ∀ (k : Nat) (T : State) (locs : List Loc) (h : Heap) (ii : Nat) (jj : Int32) (x7 : Slot), ee - ii < k → ii ≤ ee → jj = Int32.ofNat ii → own_OK x7 → Stand p l e R s m args below meth c T locs cells slots → T.heap = h → Fr n0 locs → Old Z n0 h → Exa Z h ta "java/lang/String" → Fld Z h ta "java/lang/String" "value" "[B" (.ref tb) → Fld Z h ta "java/lang/String" "coder" "B" (.int 1) → Arv Z h tb kc .byte (Int32.ofNat (2 * cs.length)) (own_wb cs) (.int 0) → Arv Z h tt kt .byte (Int32.ofNat cs.length) (own_lb (cs.take ii)) (.int 0) → own_L (cs.take ii) → own_Go p e below f0 T m 51 (own_F20 a ta (0 : Int32) (Int32.ofNat ee) tt jj jj x7) [] → ∃ (T' : State) (L' : List Loc) (qq : Nat) (y7 : Slot), Stand p l e R s m args below meth c T' L' cells slots ∧ Fr n0 L' ∧ own_OK y7 ∧ Keep h T'.heap [tt] ∧ Arv Z T'.heap tt kt .byte (Int32.ofNat cs.length) (own_lb (cs.take qq)) (.int 0) ∧ qq ≤ ee ∧ own_L (cs.take qq) ∧ (qq = ee ∨ ∃ xx rt, cs.drop qq = xx :: rt ∧ own_ce xx = (0 : Int32)) ∧ own_Go p e below f0 T' m 51 (own_F20 a ta (0 : Int32) (Int32.ofNat ee) tt (Int32.ofNat qq) (Int32.ofNat qq) y7) [] := by
  intro k
  induction k with
  | zero => intro T locs h ii jj x7 hk; omega
  | succ k ih =>
    intro T locs h ii jj x7 hk hi hj ok X e0 N O E_ta F_v_ta F_c_ta V_tb V_tt hL pre
    by_cases he : ii = ee
    · subst he hj
      exact ⟨T, locs, ii, x7, X, N, ok, by rw [e0]; exact Keep.refl h [tt], by rw [e0]; exact V_tt, hi, hL, Or.inl rfl, pre⟩
    · match hr : cs.drop ii with
      | [] =>
        have q := congrArg List.length hr
        simp at q
        omega
      | xx :: rt =>
        by_cases hce : own_ce xx = (0 : Int32)
        · subst hj
          exact ⟨T, locs, ii, x7, X, N, ok, by rw [e0]; exact Keep.refl h [tt], by rw [e0]; exact V_tt, hi, hL, Or.inr ⟨xx, rt, hr, hce⟩, pre⟩
        · have D := own_dl hr
          have hlt : jj < (Int32.ofNat ee) := by rw [hj]; exact (own_ar2 cs.length (by omega) ee (by omega) ii (by omega)).2.2.2.2.2.2.2.2.2.2.2.1.mpr (by omega)
          obtain ⟨T1, L1, X1, N1, K1, V1, w1⟩ := fr46 hw a ta _ tt jj x7 tb kc kt cs (cs.take ii) ii xx rt X hx Hb hZ hown hml hR e0 N O SU E_ta F_v_ta F_c_ta V_tb V_tt nbt hj (own_tkl (by omega)) hB3 hG hr hlt hce ok g_tt pre
          have hm : xx ∈ cs := List.mem_of_mem_drop (i := ii) (by rw [hr]; exact List.mem_cons_self ..)
          have hL2 : own_L (cs.take (ii + 1)) := by
            rw [own_tk hr]
            intro c hc
            rcases List.mem_append.mp hc with q | q
            · exact hL c q
            · cases List.mem_singleton.mp q
              exact own_lc (hG _ hm) hce
          have E1 : ta ≠ tt := Exa.neArv E_ta V_tt ((own_q hw) 7 rfl)
          obtain ⟨T2, L2, qq, y7, X2, N2, ok2, K2, V2, q1, q2, q3, w2⟩ := ih T1 L1 T1.heap (ii + 1) _ _ (by omega) (by omega) (own_sj hj) (own_okI _) X1 rfl N1 (O.keep K1 (allS g_tt all0)) (E_ta.keep K1) (F_v_ta.keep K1 (ninS E1 nin0)) (F_c_ta.keep K1 (ninS E1 nin0)) (V_tb.keep K1 (ninS nbt nin0)) (by rw [own_tk hr]; exact V1) hL2 w1
          exact ⟨T2, L2, qq, y7, X2, N2, ok2, K1.trans K2 (allS (Or.inl (List.mem_of_getElem? (i := 0) rfl)) all0), V2, q1, q2, q3, w2⟩
def own_F22 (x0 : Addr) (x1 : Addr) (x2 : Int32) (x3 : Int32) : Array Slot := #[.val (.ref x0), .val (.ref x1), .val (.int x2), .val (.int x3), .unset, .unset, .unset, .unset]
def own_F23 (x0 : Addr) (x1 : Addr) (x2 : Int32) (x3 : Int32) (x4 : Addr) : Array Slot := #[.val (.ref x0), .val (.ref x1), .val (.int x2), .val (.int x3), .val (.ref x4), .unset, .unset, .unset]
def own_F24 (x0 : Addr) (x1 : Addr) (x2 : Int32) (x3 : Int32) (x4 : Addr) (x5 : Int32) : Array Slot := #[.val (.ref x0), .val (.ref x1), .val (.int x2), .val (.int x3), .val (.ref x4), .val (.int x5), .unset, .unset]
def own_F25 (x0 : Addr) (x1 : Addr) (x2 : Int32) (x3 : Int32) (x4 : Addr) (x5 : Int32) (x6 : Int32) : Array Slot := #[.val (.ref x0), .val (.ref x1), .val (.int x2), .val (.int x3), .val (.ref x4), .val (.int x5), .val (.int x6), .unset]
theorem pd27 : parseMethodDescriptor "()V" = some ⟨[], none⟩ := by decide +kernel
theorem pd28 : parseMethodDescriptor "()[B" = some ⟨[], some (.array .byte)⟩ := by decide +kernel
theorem rm46 (hw : own_W a0 Z) (a ta tb tt : Addr) (kc kt : ClassId) (cd nb : Int32) (lst : List Value) (cs ys : List Int32) (ee : Nat) {zc : Int32} {fm : Value} {fn : Value} {u8 : Addr} {h0 : Heap} {n0 : Nat} (O0 : Old Z n0 h0) (SU : own_SU Z zc fm fn u8) (E_ta : Exa Z h0 ta "java/lang/String") (F_v_ta : Fld Z h0 ta "java/lang/String" "value" "[B" (.ref tb)) (F_c_ta : Fld Z h0 ta "java/lang/String" "coder" "B" (.int 1)) (V_tb : Arv Z h0 tb kc .byte (Int32.ofNat (2 * cs.length)) (own_wb cs) (.int 0)) (E_a : Exa Z h0 a "java/lang/StringBuilder") (F_v_a : Fld Z h0 a "java/lang/AbstractStringBuilder" "value" "[B" (.ref tt)) (F_c_a : Fld Z h0 a "java/lang/AbstractStringBuilder" "coder" "B" (.int cd)) (F_n_a : Fld Z h0 a "java/lang/AbstractStringBuilder" "count" "I" (.int (Int32.ofNat ys.length))) (F_m_a : Fld Z h0 a "java/lang/AbstractStringBuilder" "maybeLatin1" "Z" (.int 0)) (V_tt : Arv Z h0 tt kt .byte nb lst (.int 0)) (E_tt : Exa Z h0 tt "[B") (nbt : tb ≠ tt) (hS : own_SB cs.length ys cd nb lst) (hB3 : cs.length ≤ 3) (hle : ys.length ≤ ee) (hen : ee ≤ cs.length) (hG : own_G cs) (hz : cd = (0 : Int32) → ys = []) (g_a : n0 ≤ a) (g_tt : n0 ≤ tt) : own_M l own_n46 jdk_68_method_75_code 8 none (own_rm 6 1 6 89) Z h0 #[.ref a, .ref ta, .int (Int32.ofNat ys.length), .int (Int32.ofNat ee)] (fun v h L => ∃ tn : Addr, ∃ kn : ClassId, ∃ cdn : Int32, ∃ nbn : Int32, ∃ lsn : List Value, v = none ∧ Fr n0 L ∧ Keep h0 h [a, tt] ∧ Fld Z h a "java/lang/AbstractStringBuilder" "value" "[B" (.ref tn) ∧ Fld Z h a "java/lang/AbstractStringBuilder" "coder" "B" (.int cdn) ∧ Fld Z h a "java/lang/AbstractStringBuilder" "count" "I" (.int (Int32.ofNat ee)) ∧ Fld Z h a "java/lang/AbstractStringBuilder" "maybeLatin1" "Z" (.int 0) ∧ Arv Z h tn kn .byte nbn lsn (.int 0) ∧ Exa Z h tn "[B" ∧ (tn = tt ∨ h0.size ≤ tn) ∧ n0 ≤ tn ∧ own_SB cs.length (ys ++ own_TK cs ys.length ee) cdn nbn lsn ∧ (cd = (1 : Int32) → cdn = (1 : Int32))) := by
  refine own_body (L0 := #[.val (.ref a), .val (.ref ta), .val (.int (Int32.ofNat ys.length)), .val (.int (Int32.ofNat ee)), .unset, .unset, .unset, .unset]) (plainFor_of_name pn_java_lang_AbstractStringBuilder) rfl rfl ?_
  intro p e s m below meth c s₁ f0 Bd hx Hb hml hZ hown X0 e0 pre0
  have hby := Hb.2
  have W := own_q hw
  have N0 := Fr.nil n0
  have O := O0
  have K := Keep.refl h0 [a, tt]
  rcases hS with ⟨rfl, rfl, rfl, hL⟩ | ⟨rfl, rfl, rfl⟩
  · obtain rfl := hz rfl
    have F_n_a : Fld Z h0 a "java/lang/AbstractStringBuilder" "count" "I" (.int 0) := F_n_a
    have w00 : own_Go p e below f0 s₁ m 0 (own_F22 a ta (0 : Int32) (Int32.ofNat ee)) [] := pre0
    obtain ⟨_, T1, Lc1, X1, hQ1, st1⟩ := own_cV X0 Hb hZ hown hml (L := (own_F22 a ta (0 : Int32) (Int32.ofNat ee))) rfl (rm47_L hw a O SU F_c_a) (W 241 rfl) (W 242 rfl) (W 244 rfl) (W 243 rfl) (W 199 rfl) (W 245 rfl) pd9 e0 E_a (D46 1) [] [] 0
    obtain ⟨rfl, N1q, eh1⟩ := hQ1
    have N1 := Fr.app N0 N1q
    obtain ⟨_, T2, Lc2, X2, hQ2, st2⟩ := own_cV X1 Hb hZ hown hml (L := (own_F22 a ta (0 : Int32) (Int32.ofNat ee))) rfl (rm18_U hw ta O SU F_c_ta) (W 246 rfl) (W 81 rfl) (W 83 rfl) (W 82 rfl) (W 8 rfl) (W 84 rfl) pd9 eh1 E_ta (D46 4) [] [] 0
    obtain ⟨rfl, N2q, eh2⟩ := hQ2
    have N2 := Fr.app N1 N2q
    obtain ⟨T3, X3, e3, st3⟩ := getF X2 hx hZ hown (host := "") (Or.inl (W 203 rfl)) Via.refl eh2 F_v_a (g := (mkF m 37 (own_F22 a ta (0 : Int32) (Int32.ofNat ee)) [.ref a])) rfl rfl (hb hby (D46 7))
    obtain ⟨T4, X4, e4, st4⟩ := getF X3 hx hZ hown (host := "") (Or.inl (W 228 rfl)) Via.refl e3 F_n_a (g := (mkF m 46 (own_F24 a ta (0 : Int32) (Int32.ofNat ee) tt (0 : Int32)) [.ref a])) rfl rfl (hb hby (D46 12))
    have w5 : own_Go p e below f0 T4 m 51 (own_F25 a ta (0 : Int32) (Int32.ofNat ee) tt (0 : Int32) (0 : Int32)) [] := fun t k => by
      refine w00 t ?_
      refine zal X0 Hb (D46 0) rfl rfl <| st1 _ <| zin X1 Hb (D46 2) ((if0 _ _).trans (feq ((by decide) : ¬ ((1 : Int32) = (0 : Int32)))).1) <| zal X1 Hb (D46 3) rfl rfl <| st2 _ <| ziy X2 Hb (D46 5) ((if0 _ _).trans (teq (rfl : (0 : Int32) = (0 : Int32))).1) 36 (by decide) rfl <| zal X2 Hb (D46 6) rfl rfl <| st3 _ ?_
      refine zaS X3 Hb (L' := (own_F23 a ta (0 : Int32) (Int32.ofNat ee) tt)) (D46 8) rfl rfl <| zil X3 Hb (D46 9) rfl <| ziS X3 Hb (L' := (own_F24 a ta (0 : Int32) (Int32.ofNat ee) tt (0 : Int32))) (D46 10) rfl <| zal X3 Hb (D46 11) rfl rfl <| st4 _ <| ziS X4 Hb (L' := (own_F25 a ta (0 : Int32) (Int32.ofNat ee) tt (0 : Int32) (0 : Int32))) (D46 13) rfl ?_
      exact k
    have ne_a_tt : a ≠ tt := (Exa.ne E_a E_tt (by decide))
    have ne_ta_tt : ta ≠ tt := (Exa.ne E_ta E_tt (by decide))
    obtain ⟨T6, L6, qq, y7, X6, N6, ok_y7, K6, V_tt6, hq1, hq2, hq3, w6⟩ := lp46 hw a ta tt tb kc kt cs ee hx Hb hZ hown hml ⟨by decide, by decide, by decide, by decide⟩ SU nbt hB3 hG hen g_tt _ _ _ _ 0 0 _ (Nat.lt_succ_self _) (Nat.zero_le _) rfl own_okU X4 e4 N2 O E_ta F_v_ta F_c_ta V_tb V_tt (by intro c hc; simp at hc) w5
    have E_ta := E_ta.keep K6
    have F_v_ta := F_v_ta.keep K6 (ninS ne_ta_tt nin0)
    have F_c_ta := F_c_ta.keep K6 (ninS ne_ta_tt nin0)
    have V_tb := V_tb.keep K6 (ninS nbt nin0)
    have E_a := E_a.keep K6
    have F_v_a := F_v_a.keep K6 (ninS ne_a_tt nin0)
    have F_c_a := F_c_a.keep K6 (ninS ne_a_tt nin0)
    have F_n_a := F_n_a.keep K6 (ninS ne_a_tt nin0)
    have F_m_a := F_m_a.keep K6 (ninS ne_a_tt nin0)
    have E_tt := E_tt.keep K6
    have O := O.keep K6 (allS g_tt all0)
    have K := K.trans K6 (allS (Or.inl (List.mem_of_getElem? (i := 1) rfl)) all0)
    have w7 : own_Go p e below f0 T6 m 54 (own_F20 a ta (0 : Int32) (Int32.ofNat ee) tt (Int32.ofNat qq) (Int32.ofNat qq) y7) [.int (Int32.ofNat ee), .int (Int32.ofNat qq)] := fun t k => by
      refine w6 t ?_
      refine ziL X6 Hb (D46 14) rfl <| zil X6 Hb (D46 15) rfl ?_
      exact k
    by_cases hc54_8 : (Int32.ofNat qq) < (Int32.ofNat ee)
    · have hqe : qq < ee := (own_ar2 cs.length (by omega) ee (by omega) qq (by omega)).2.2.2.2.2.2.2.2.2.2.2.1.mp hc54_8
      obtain ⟨xx, rt, hr, hce⟩ := hq3.resolve_left (by omega)
      have AT := own_at rfl hB3 hG hr
      obtain ⟨_, T9, Lc9, X9, hQ9, st9⟩ := own_cV X6 Hb hZ hown hml (L := (own_F20 a ta (0 : Int32) (Int32.ofNat ee) tt (Int32.ofNat qq) (Int32.ofNat qq) y7)) rfl (rm17_U hw ta (Int32.ofNat qq) tb kc (Int32.ofNat (2 * cs.length)) (own_wb cs) xx (Int32.ofNat cs.length) O SU E_ta F_v_ta F_c_ta V_tb AT.1 AT.2.1 AT.2.2.1 AT.2.2.2.1 AT.2.2.2.2.1 AT.2.2.2.2.2.1 AT.2.2.2.2.2.2.1 AT.2.2.2.2.2.2.2) (W 247 rfl) (W 76 rfl) (W 78 rfl) (W 77 rfl) (W 8 rfl) (W 79 rfl) pd11 rfl E_ta (D46 19) [.int (Int32.ofNat qq)] [] 0
      obtain ⟨rfl, N9q, eh9⟩ := hQ9
      have N9 := Fr.app N6 N9q
      obtain ⟨_, T10, Lc10, X10, hQ10, st10⟩ := own_cS X9 Hb hZ hown hml (L := (own_F21 a ta (0 : Int32) (Int32.ofNat ee) tt (Int32.ofNat qq) (Int32.ofNat qq) xx)) rfl (rm48 hw xx O ) (W 248 rfl) (W 249 rfl) (W 87 rfl) (W 250 rfl) pd1 eh9 (D46 22) [.int xx] [] 0
      obtain ⟨rfl, N10q, eh10⟩ := hQ10
      have N10 := Fr.app N9 N10q
      have ne_ta_a : ta ≠ a := (Exa.ne E_ta E_a (by decide))
      have ne_tb_a : tb ≠ a := (Ne.symm (Exa.neArv E_a V_tb (W 190 rfl)))
      obtain ⟨T11, h11, X11, e11, W11, st11⟩ := putF X10 hx hZ hown (host := "") (Or.inl (W 228 rfl)) Via.refl eh10 F_n_a E_a (Or.inl (W 229 rfl)) (W 190 rfl) (ty := .int) (by decide) rfl rfl (g := (mkF m 90 (own_F21 a ta (0 : Int32) (Int32.ofNat ee) tt (Int32.ofNat qq) (Int32.ofNat qq) xx) [.int (Int32.ofNat qq), .ref a])) rfl rfl (hb hby (D46 33))
      have F_n_a := F_n_a.same W11
      have E_ta := E_ta.wr W11
      have F_v_ta := F_v_ta.other W11 (Or.inl ne_ta_a)
      have F_c_ta := F_c_ta.other W11 (Or.inl ne_ta_a)
      have V_tb := V_tb.other W11 ne_tb_a
      have E_a := E_a.wr W11
      have F_v_a := F_v_a.other W11 (Or.inr (slot_ne (Or.inl (W 204 rfl)) (Or.inl (W 229 rfl)) (by decide) (t := (.array .byte)) (t' := .int) (by decide) (by decide)))
      have F_c_a := F_c_a.other W11 (Or.inr (slot_ne (Or.inl (W 206 rfl)) (Or.inl (W 229 rfl)) (by decide) (t := .byte) (t' := .int) (by decide) (by decide)))
      have F_m_a := F_m_a.other W11 (Or.inr (slot_ne (Or.inl (W 318 rfl)) (Or.inl (W 229 rfl)) (by decide) (t := .boolean) (t' := .int) (by decide) (by decide)))
      have E_tt := E_tt.wr W11
      have V_tt6 := V_tt6.other W11 (Ne.symm ne_a_tt)
      have O := O.wr W11 g_a
      have K := K.wr W11 (Or.inl (List.mem_of_getElem? (i := 0) rfl))
      have N11 := Fr.snoc X11 N10 g_a
      have lt12_a := E_a.lt
      have lt12_ta := E_ta.lt
      have lt12_tb := V_tb.lt
      have lt12_tt := E_tt.lt
      obtain ⟨_, T12, Lc12, X12, hQ12, st12⟩ := own_cP X11 Hb hZ hown hml (L := (own_F21 a ta (0 : Int32) (Int32.ofNat ee) tt (Int32.ofNat qq) (Int32.ofNat qq) xx)) rfl (rm51 hw a tt kt (Int32.ofNat qq) (Int32.ofNat cs.length) (cs.take qq) cs.length O SU E_a F_v_a F_c_a F_n_a F_m_a V_tt6 rfl (by rw [own_tkl (by omega)]) (by rw [own_tkl (by omega)]; omega) hB3 hq2 g_a) (W 261 rfl) (W 262 rfl) (W 264 rfl) (W 263 rfl) (W 199 rfl) (W 265 rfl) pd27 e11 E_a (D46 35) [] [] 0
      obtain ⟨z_12, kz_12, rfl, N12q, K12, F_v_a_c12, F_c_a_c12, F_n_a_c12, F_m_a_c12, V_z_c12, E_z_c12, gz_12, gn_12⟩ := hQ12
      have N12 := Fr.app N11 N12q
      have E_ta := E_ta.keep K12
      have F_v_ta := F_v_ta.keep K12 (ninS ne_ta_a nin0)
      have F_c_ta := F_c_ta.keep K12 (ninS ne_ta_a nin0)
      have V_tb := V_tb.keep K12 (ninS ne_tb_a nin0)
      have E_a := E_a.keep K12
      have E_tt := E_tt.keep K12
      have V_tt6 := V_tt6.keep K12 (ninS (Ne.symm ne_a_tt) nin0)
      have ne_a_z_12 : a ≠ z_12 := Nat.ne_of_lt (Nat.lt_of_lt_of_le lt12_a gz_12)
      have ne_ta_z_12 : ta ≠ z_12 := Nat.ne_of_lt (Nat.lt_of_lt_of_le lt12_ta gz_12)
      have ne_tb_z_12 : tb ≠ z_12 := Nat.ne_of_lt (Nat.lt_of_lt_of_le lt12_tb gz_12)
      have ne_tt_z_12 : tt ≠ z_12 := Nat.ne_of_lt (Nat.lt_of_lt_of_le lt12_tt gz_12)
      have g_z_12 := gn_12
      have z_z_12 : h0.size ≤ z_12 := Nat.le_trans K.1 gz_12
      have O := O.keep K12 (allS g_a all0)
      have K := K.trans K12 (allS (Or.inl (List.mem_of_getElem? (i := 0) rfl)) all0)
      obtain ⟨_, T13, Lc13, X13, hQ13, st13⟩ := own_cV X12 Hb hZ hown hml (L := (own_F21 a ta (0 : Int32) (Int32.ofNat ee) tt (Int32.ofNat qq) (Int32.ofNat qq) xx)) rfl (rm58 hw ta tb O F_v_ta) (W 285 rfl) (W 286 rfl) (W 288 rfl) (W 287 rfl) (W 8 rfl) (W 289 rfl) pd28 rfl E_ta (D46 37) [] [] 0
      obtain ⟨rfl, N13q, eh13⟩ := hQ13
      have N13 := Fr.app N12 N13q
      obtain ⟨T14, X14, e14, st14⟩ := getF X13 hx hZ hown (host := "") (Or.inl (W 203 rfl)) Via.refl eh13 F_v_a_c12 (g := (mkF m 106 (own_F21 a ta (0 : Int32) (Int32.ofNat ee) tt (Int32.ofNat qq) (Int32.ofNat qq) xx) [.ref a, (.int ((Int32.ofNat qq) <<< ((1 : Int32) &&& 31))), .ref tb])) rfl rfl (hb hby (D46 42))
      have CY15 := own_cpy (ys := (cs.take qq)) (i := qq) hB3 (own_tkl (by omega)) hq1 hen
      obtain ⟨T15, h15, L15, X15, e15, N15, K15, V15, st15⟩ := cpA X14 hx hZ hown (W 290 rfl) (W 154 rfl) (W 152 rfl) (W 153 rfl) e14 V_tb (V_z_c12.pad (pad_rep _ _ 6)) (Or.inl ⟨rfl, rfl⟩) (us := own_wb (own_TK cs qq ee)) CY15.1 CY15.1 CY15.2.1 CY15.2.2.1 CY15.2.2.1 CY15.2.2.2.1 CY15.2.2.2.2.1 N13 g_z_12 (g := (mkF m 119 (own_F21 a ta (0 : Int32) (Int32.ofNat ee) tt (Int32.ofNat qq) (Int32.ofNat qq) xx) [(.int (((Int32.ofNat ee) - (Int32.ofNat qq)) <<< ((1 : Int32) &&& 31))), (.int ((Int32.ofNat qq) <<< ((1 : Int32) &&& 31))), .ref z_12, (.int ((Int32.ofNat qq) <<< ((1 : Int32) &&& 31))), .ref tb])) rfl (by rw [hml]; rfl) rfl (hb hby (D46 51)) (by decide) (W := 0) (by show 2 * 0 + _ ≤ _; exact Nat.le_of_eq rfl) (by decide)
      have E_ta := E_ta.keep K15
      have F_v_ta := F_v_ta.keep K15 (ninS ne_ta_z_12 nin0)
      have F_c_ta := F_c_ta.keep K15 (ninS ne_ta_z_12 nin0)
      have V_tb := V_tb.keep K15 (ninS ne_tb_z_12 nin0)
      have E_a := E_a.keep K15
      have E_tt := E_tt.keep K15
      have V_tt6 := V_tt6.keep K15 (ninS ne_tt_z_12 nin0)
      have F_v_a_c12 := F_v_a_c12.keep K15 (ninS ne_a_z_12 nin0)
      have F_c_a_c12 := F_c_a_c12.keep K15 (ninS ne_a_z_12 nin0)
      have F_n_a_c12 := F_n_a_c12.keep K15 (ninS ne_a_z_12 nin0)
      have F_m_a_c12 := F_m_a_c12.keep K15 (ninS ne_a_z_12 nin0)
      have E_z_c12 := E_z_c12.keep K15
      have V_z_12_c15 : Arv Z h15 z_12 kz_12 .byte (Int32.ofNat (2 * cs.length)) (own_wb ((cs.take qq) ++ own_TK cs qq ee)) (.int 0) := V15.pad CY15.2.2.2.2.2
      have O := O.keep K15 (allS g_z_12 all0)
      have K := K.trans K15 (allS (Or.inr z_z_12) all0)
      obtain ⟨T16, X16, e16, st16⟩ := getF X15 hx hZ hown (host := "") (Or.inl (W 228 rfl)) Via.refl e15 F_n_a_c12 (g := (mkF m 124 (own_F21 a ta (0 : Int32) (Int32.ofNat ee) tt (Int32.ofNat qq) (Int32.ofNat qq) xx) [.ref a, .ref a])) rfl rfl (hb hby (D46 54))
      obtain ⟨T17, h17, X17, e17, W17, st17⟩ := putF X16 hx hZ hown (host := "") (Or.inl (W 228 rfl)) Via.refl e16 F_n_a_c12 E_a (Or.inl (W 229 rfl)) (W 190 rfl) (ty := .int) (by decide) rfl rfl (g := (mkF m 132 (own_F21 a ta (0 : Int32) (Int32.ofNat ee) tt (Int32.ofNat qq) (Int32.ofNat qq) xx) [(.int ((Int32.ofNat qq) + ((Int32.ofNat ee) - (Int32.ofNat qq)))), .ref a])) rfl rfl (hb hby (D46 59))
      have F_n_a_c12 := F_n_a_c12.same W17
      have E_ta := E_ta.wr W17
      have F_v_ta := F_v_ta.other W17 (Or.inl ne_ta_a)
      have F_c_ta := F_c_ta.other W17 (Or.inl ne_ta_a)
      have V_tb := V_tb.other W17 ne_tb_a
      have E_a := E_a.wr W17
      have E_tt := E_tt.wr W17
      have V_tt6 := V_tt6.other W17 (Ne.symm ne_a_tt)
      have F_v_a_c12 := F_v_a_c12.other W17 (Or.inr (slot_ne (Or.inl (W 204 rfl)) (Or.inl (W 229 rfl)) (by decide) (t := (.array .byte)) (t' := .int) (by decide) (by decide)))
      have F_c_a_c12 := F_c_a_c12.other W17 (Or.inr (slot_ne (Or.inl (W 206 rfl)) (Or.inl (W 229 rfl)) (by decide) (t := .byte) (t' := .int) (by decide) (by decide)))
      have F_m_a_c12 := F_m_a_c12.other W17 (Or.inr (slot_ne (Or.inl (W 318 rfl)) (Or.inl (W 229 rfl)) (by decide) (t := .boolean) (t' := .int) (by decide) (by decide)))
      have E_z_c12 := E_z_c12.wr W17
      have V_z_12_c15 := V_z_12_c15.other W17 (Ne.symm ne_a_z_12)
      have O := O.wr W17 g_a
      have K := K.wr W17 (Or.inl (List.mem_of_getElem? (i := 0) rfl))
      have N17 := Fr.snoc X17 N15 g_a
      have w18 : own_Go p e below f0 T17 m 135 (own_F21 a ta (0 : Int32) (Int32.ofNat ee) tt (Int32.ofNat qq) (Int32.ofNat qq) xx) [] := fun t k => by
        refine w7 t ?_
        refine zcn X6 Hb (D46 16) (tlt hc54_8).2.1 <| zal X6 Hb (D46 17) rfl rfl <| ziL X6 Hb (D46 18) rfl <| st9 _ <| ziS X9 Hb (L' := (own_F21 a ta (0 : Int32) (Int32.ofNat ee) tt (Int32.ofNat qq) (Int32.ofNat qq) xx)) (D46 20) (by rcases ok_y7 with h | ⟨v, h⟩ <;> rw [h] <;> rfl) <| ziL X9 Hb (D46 21) rfl <| st10 _ <| ziy X10 Hb (D46 23) ((if0 _ _).trans (teq (hce : (own_ce xx) = (0 : Int32))).1) 87 (by decide) rfl ?_
        refine zal X10 Hb (D46 31) rfl rfl <| ziL X10 Hb (D46 32) rfl <| st11 _ <| zal X11 Hb (D46 34) rfl rfl <| st12 _ <| zal X12 Hb (D46 36) rfl rfl <| st13 _ <| ziL X13 Hb (D46 38) rfl ?_
        refine zic X13 Hb (D46 39) 1 rfl <| zsl X13 Hb (D46 40) <| zal X13 Hb (D46 41) rfl rfl <| st14 _ <| ziL X14 Hb (D46 43) rfl <| zic X14 Hb (D46 44) 1 rfl <| zsl X14 Hb (D46 45) <| zil X14 Hb (D46 46) rfl ?_
        refine ziL X14 Hb (D46 47) rfl <| zsu X14 Hb (D46 48) <| zic X14 Hb (D46 49) 1 rfl <| zsl X14 Hb (D46 50) <| st15 _ <| zal X15 Hb (D46 52) rfl rfl <| zdu X15 Hb (D46 53) rfl <| st16 _ ?_
        refine zil X16 Hb (D46 55) rfl <| ziL X16 Hb (D46 56) rfl <| zsu X16 Hb (D46 57) <| zia X16 Hb (D46 58) <| st17 _ ?_
        exact k
      exact own_oV X17 Hb Bd.notSynchronized Bd.returns w18 (D46 60) e17 (by decide) (by decide) ⟨z_12, kz_12, (1 : Int32), (Int32.ofNat (2 * cs.length)), _, rfl, N17, K, F_v_a_c12, F_c_a_c12, (by have q := F_n_a_c12; rw [(own_ar2 cs.length (by omega) ee (by omega) qq (by omega)).2.2.2.2.2.1] at q; exact q), F_m_a_c12, (by rw [show ([] : List Int32) ++ own_TK cs ([] : List Int32).length ee = cs.take qq ++ own_TK cs qq ee from (own_tka hq1).symm]; exact V_z_12_c15), E_z_c12, (Or.inr z_z_12), g_z_12, (Or.inr ⟨rfl, rfl, rfl⟩), (fun q => absurd q (by decide))⟩
    · obtain ⟨T19, X19, e19, st19⟩ := getF X6 hx hZ hown (host := "") (Or.inl (W 228 rfl)) Via.refl rfl F_n_a (g := (mkF m 196 (own_F20 a ta (0 : Int32) (Int32.ofNat ee) tt (Int32.ofNat qq) (Int32.ofNat qq) y7) [.ref a, .ref a])) rfl rfl (hb hby (D46 86))
      have ne_ta_a : ta ≠ a := (Exa.ne E_ta E_a (by decide))
      have ne_tb_a : tb ≠ a := (Ne.symm (Exa.neArv E_a V_tb (W 190 rfl)))
      obtain ⟨T20, h20, X20, e20, W20, st20⟩ := putF X19 hx hZ hown (host := "") (Or.inl (W 228 rfl)) Via.refl e19 F_n_a E_a (Or.inl (W 229 rfl)) (W 190 rfl) (ty := .int) (by decide) rfl rfl (g := (mkF m 203 (own_F20 a ta (0 : Int32) (Int32.ofNat ee) tt (Int32.ofNat qq) (Int32.ofNat qq) y7) [(.int ((0 : Int32) + ((Int32.ofNat ee) - (0 : Int32)))), .ref a])) rfl rfl (hb hby (D46 91))
      have F_n_a := F_n_a.same W20
      have E_ta := E_ta.wr W20
      have F_v_ta := F_v_ta.other W20 (Or.inl ne_ta_a)
      have F_c_ta := F_c_ta.other W20 (Or.inl ne_ta_a)
      have V_tb := V_tb.other W20 ne_tb_a
      have E_a := E_a.wr W20
      have F_v_a := F_v_a.other W20 (Or.inr (slot_ne (Or.inl (W 204 rfl)) (Or.inl (W 229 rfl)) (by decide) (t := (.array .byte)) (t' := .int) (by decide) (by decide)))
      have F_c_a := F_c_a.other W20 (Or.inr (slot_ne (Or.inl (W 206 rfl)) (Or.inl (W 229 rfl)) (by decide) (t := .byte) (t' := .int) (by decide) (by decide)))
      have F_m_a := F_m_a.other W20 (Or.inr (slot_ne (Or.inl (W 318 rfl)) (Or.inl (W 229 rfl)) (by decide) (t := .boolean) (t' := .int) (by decide) (by decide)))
      have E_tt := E_tt.wr W20
      have V_tt6 := V_tt6.other W20 (Ne.symm ne_a_tt)
      have O := O.wr W20 g_a
      have K := K.wr W20 (Or.inl (List.mem_of_getElem? (i := 0) rfl))
      have N20 := Fr.snoc X20 N6 g_a
      have w21 : own_Go p e below f0 T20 m 206 (own_F20 a ta (0 : Int32) (Int32.ofNat ee) tt (Int32.ofNat qq) (Int32.ofNat qq) y7) [] := fun t k => by
        refine w7 t ?_
        refine zcy X6 Hb (D46 16) (flt hc54_8).2.1 142 (by decide) rfl <| zgo X6 Hb (D46 63) 194 (by decide) rfl <| zal X6 Hb (D46 84) rfl rfl <| zdu X6 Hb (D46 85) rfl <| st19 _ <| zil X19 Hb (D46 87) rfl <| zil X19 Hb (D46 88) rfl <| zsu X19 Hb (D46 89) ?_
        refine zia X19 Hb (D46 90) <| st20 _ ?_
        exact k
      have hqe : qq = ee := by have := (own_ar2 cs.length (by omega) ee (by omega) qq (by omega)).2.2.2.2.2.2.2.2.2.2.2.1; have w := hc54_8; rw [this] at w; omega
      subst hqe
      exact own_oV X20 Hb Bd.notSynchronized Bd.returns w21 (D46 92) e20 (by decide) (by decide) ⟨tt, kt, (0 : Int32), (Int32.ofNat cs.length), _, rfl, N20, K, F_v_a, F_c_a, (by have q := F_n_a; rw [own_c0] at q; exact q), F_m_a, (by rw [own_TK, List.nil_append, List.length_nil, List.drop_zero, Nat.sub_zero]; exact V_tt6), E_tt, (Or.inl rfl), g_tt, (Or.inl ⟨rfl, rfl, rfl, by rw [own_TK, List.nil_append, List.length_nil, List.drop_zero, Nat.sub_zero]; exact hq2⟩), (fun q => absurd q (by decide))⟩
  · obtain ⟨_, T22, Lc22, X22, hQ22, st22⟩ := own_cV X0 Hb hZ hown hml (L := (own_F22 a ta (Int32.ofNat ys.length) (Int32.ofNat ee))) rfl (rm47_U hw a O SU F_c_a) (W 241 rfl) (W 242 rfl) (W 244 rfl) (W 243 rfl) (W 199 rfl) (W 245 rfl) pd9 e0 E_a (D46 1) [] [] 0
    obtain ⟨rfl, N22q, eh22⟩ := hQ22
    have N22 := Fr.app N0 N22q
    obtain ⟨_, T23, Lc23, X23, hQ23, st23⟩ := own_cV X22 Hb hZ hown hml (L := (own_F22 a ta (Int32.ofNat ys.length) (Int32.ofNat ee))) rfl (rm18_U hw ta O SU F_c_ta) (W 246 rfl) (W 81 rfl) (W 83 rfl) (W 82 rfl) (W 8 rfl) (W 84 rfl) pd9 eh22 E_ta (D46 65) [] [] 0
    obtain ⟨rfl, N23q, eh23⟩ := hQ23
    have N23 := Fr.app N22 N23q
    obtain ⟨_, T24, Lc24, X24, hQ24, st24⟩ := own_cV X23 Hb hZ hown hml (L := (own_F22 a ta (Int32.ofNat ys.length) (Int32.ofNat ee))) rfl (rm58 hw ta tb O F_v_ta) (W 285 rfl) (W 286 rfl) (W 288 rfl) (W 287 rfl) (W 8 rfl) (W 289 rfl) pd28 eh23 E_ta (D46 68) [] [] 0
    obtain ⟨rfl, N24q, eh24⟩ := hQ24
    have N24 := Fr.app N23 N24q
    obtain ⟨T25, X25, e25, st25⟩ := getF X24 hx hZ hown (host := "") (Or.inl (W 203 rfl)) Via.refl eh24 F_v_a (g := (mkF m 177 (own_F22 a ta (Int32.ofNat ys.length) (Int32.ofNat ee)) [.ref a, (.int ((Int32.ofNat ys.length) <<< ((1 : Int32) &&& 31))), .ref tb])) rfl rfl (hb hby (D46 73))
    obtain ⟨T26, X26, e26, st26⟩ := getF X25 hx hZ hown (host := "") (Or.inl (W 228 rfl)) Via.refl e25 F_n_a (g := (mkF m 181 (own_F22 a ta (Int32.ofNat ys.length) (Int32.ofNat ee)) [.ref a, .ref tt, (.int ((Int32.ofNat ys.length) <<< ((1 : Int32) &&& 31))), .ref tb])) rfl rfl (hb hby (D46 75))
    have ne_a_tt : a ≠ tt := (Exa.ne E_a E_tt (by decide))
    have ne_ta_tt : ta ≠ tt := (Exa.ne E_ta E_tt (by decide))
    have CY27 := own_cpy (ys := ys) (i := ys.length) hB3 rfl hle hen
    obtain ⟨T27, h27, L27, X27, e27, N27, K27, V27, st27⟩ := cpA X26 hx hZ hown (W 290 rfl) (W 154 rfl) (W 152 rfl) (W 153 rfl) e26 V_tb (V_tt.pad (pad_rep _ _ 6)) (Or.inl ⟨rfl, rfl⟩) (us := own_wb (own_TK cs ys.length ee)) CY27.1 CY27.1 CY27.2.1 CY27.2.2.1 CY27.2.2.1 CY27.2.2.2.1 CY27.2.2.2.2.1 N24 g_tt (g := (mkF m 191 (own_F22 a ta (Int32.ofNat ys.length) (Int32.ofNat ee)) [(.int (((Int32.ofNat ee) - (Int32.ofNat ys.length)) <<< ((1 : Int32) &&& 31))), (.int ((Int32.ofNat ys.length) <<< ((1 : Int32) &&& 31))), .ref tt, (.int ((Int32.ofNat ys.length) <<< ((1 : Int32) &&& 31))), .ref tb])) rfl (by rw [hml]; rfl) rfl (hb hby (D46 83)) (by decide) (W := 0) (by show 2 * 0 + _ ≤ _; exact Nat.le_of_eq rfl) (by decide)
    have E_ta := E_ta.keep K27
    have F_v_ta := F_v_ta.keep K27 (ninS ne_ta_tt nin0)
    have F_c_ta := F_c_ta.keep K27 (ninS ne_ta_tt nin0)
    have V_tb := V_tb.keep K27 (ninS nbt nin0)
    have E_a := E_a.keep K27
    have F_v_a := F_v_a.keep K27 (ninS ne_a_tt nin0)
    have F_c_a := F_c_a.keep K27 (ninS ne_a_tt nin0)
    have F_n_a := F_n_a.keep K27 (ninS ne_a_tt nin0)
    have F_m_a := F_m_a.keep K27 (ninS ne_a_tt nin0)
    have E_tt := E_tt.keep K27
    have V_tt_c27 : Arv Z h27 tt kt .byte (Int32.ofNat (2 * cs.length)) (own_wb (ys ++ own_TK cs ys.length ee)) (.int 0) := V27.pad CY27.2.2.2.2.2
    have O := O.keep K27 (allS g_tt all0)
    have K := K.trans K27 (allS (Or.inl (List.mem_of_getElem? (i := 1) rfl)) all0)
    obtain ⟨T28, X28, e28, st28⟩ := getF X27 hx hZ hown (host := "") (Or.inl (W 228 rfl)) Via.refl e27 F_n_a (g := (mkF m 196 (own_F22 a ta (Int32.ofNat ys.length) (Int32.ofNat ee)) [.ref a, .ref a])) rfl rfl (hb hby (D46 86))
    have ne_ta_a : ta ≠ a := (Exa.ne E_ta E_a (by decide))
    have ne_tb_a : tb ≠ a := (Ne.symm (Exa.neArv E_a V_tb (W 190 rfl)))
    obtain ⟨T29, h29, X29, e29, W29, st29⟩ := putF X28 hx hZ hown (host := "") (Or.inl (W 228 rfl)) Via.refl e28 F_n_a E_a (Or.inl (W 229 rfl)) (W 190 rfl) (ty := .int) (by decide) rfl rfl (g := (mkF m 203 (own_F22 a ta (Int32.ofNat ys.length) (Int32.ofNat ee)) [(.int ((Int32.ofNat ys.length) + ((Int32.ofNat ee) - (Int32.ofNat ys.length)))), .ref a])) rfl rfl (hb hby (D46 91))
    have F_n_a := F_n_a.same W29
    have E_ta := E_ta.wr W29
    have F_v_ta := F_v_ta.other W29 (Or.inl ne_ta_a)
    have F_c_ta := F_c_ta.other W29 (Or.inl ne_ta_a)
    have V_tb := V_tb.other W29 ne_tb_a
    have E_a := E_a.wr W29
    have F_v_a := F_v_a.other W29 (Or.inr (slot_ne (Or.inl (W 204 rfl)) (Or.inl (W 229 rfl)) (by decide) (t := (.array .byte)) (t' := .int) (by decide) (by decide)))
    have F_c_a := F_c_a.other W29 (Or.inr (slot_ne (Or.inl (W 206 rfl)) (Or.inl (W 229 rfl)) (by decide) (t := .byte) (t' := .int) (by decide) (by decide)))
    have F_m_a := F_m_a.other W29 (Or.inr (slot_ne (Or.inl (W 318 rfl)) (Or.inl (W 229 rfl)) (by decide) (t := .boolean) (t' := .int) (by decide) (by decide)))
    have E_tt := E_tt.wr W29
    have V_tt_c27 := V_tt_c27.other W29 (Ne.symm ne_a_tt)
    have O := O.wr W29 g_a
    have K := K.wr W29 (Or.inl (List.mem_of_getElem? (i := 0) rfl))
    have N29 := Fr.snoc X29 N27 g_a
    have w30 : own_Go p e below f0 T29 m 206 (own_F22 a ta (Int32.ofNat ys.length) (Int32.ofNat ee)) [] := fun t k => by
      refine pre0 t ?_
      refine zal X0 Hb (D46 0) rfl rfl <| st22 _ <| ziy X22 Hb (D46 2) ((if0 _ _).trans (teq (rfl : (0 : Int32) = (0 : Int32))).1) 145 (by decide) rfl <| zal X22 Hb (D46 64) rfl rfl <| st23 _ <| ziy X23 Hb (D46 66) ((if0 _ _).trans (teq (rfl : (0 : Int32) = (0 : Int32))).1) 169 (by decide) rfl <| zal X23 Hb (D46 67) rfl rfl <| st24 _ ?_
      refine zil X24 Hb (D46 69) rfl <| zic X24 Hb (D46 70) 1 rfl <| zsl X24 Hb (D46 71) <| zal X24 Hb (D46 72) rfl rfl <| st25 _ <| zal X25 Hb (D46 74) rfl rfl <| st26 _ <| zic X26 Hb (D46 76) 1 rfl ?_
      refine zsl X26 Hb (D46 77) <| zil X26 Hb (D46 78) rfl <| zil X26 Hb (D46 79) rfl <| zsu X26 Hb (D46 80) <| zic X26 Hb (D46 81) 1 rfl <| zsl X26 Hb (D46 82) <| st27 _ <| zal X27 Hb (D46 84) rfl rfl ?_
      refine zdu X27 Hb (D46 85) rfl <| st28 _ <| zil X28 Hb (D46 87) rfl <| zil X28 Hb (D46 88) rfl <| zsu X28 Hb (D46 89) <| zia X28 Hb (D46 90) <| st29 _ ?_
      exact k
    exact own_oV X29 Hb Bd.notSynchronized Bd.returns w30 (D46 92) e29 (by decide) (by decide) ⟨tt, kt, (1 : Int32), (Int32.ofNat (2 * cs.length)), _, rfl, N29, K, F_v_a, F_c_a, (by have q := F_n_a; rw [(own_ar2 cs.length (by omega) ee (by omega) ys.length (by omega)).2.2.2.2.2.1] at q; exact q), F_m_a, V_tt_c27, E_tt, (Or.inl rfl), g_tt, (Or.inr ⟨rfl, rfl, rfl⟩), (fun _ => rfl)⟩
def L43 : List (Nat × Instr × Nat) := [(0, .aload_n 1, 1), (1, .ifnonnull 6, 3), (7, .iload_n 2, 1), (8, .iload_n 3, 1), (9, .aload_n 1, 1), (10, .invokeinterface 47 1, 5), (15, .getstatic 183, 3), (18, .invokestatic 161, 3), (21, .pop, 1), (22, .iload_n 3, 1), (23, .iload_n 2, 1), (24, .isub, 1), (25, .istore 4, 2), (27, .aload_n 0, 1), (28, .aload_n 0, 1), (29, .getfield 79, 3), (32, .iload 4, 2), (34, .iadd, 1), (35, .invokevirtual 100, 3), (38, .aload_n 1, 1), (39, .instanceof 1, 3), (42, .ifCond .eq 16, 3), (45, .aload_n 0, 1), (46, .aload_n 1, 1), (47, .checkcast 1, 3), (50, .iload_n 2, 1), (51, .iload_n 3, 1), (52, .invokevirtual 232, 3), (55, .goto 10, 3), (65, .aload_n 0, 1), (66, .areturn, 1)]
theorem D43 : ∀ k : Nat, own_PP jdk_68_method_27_code L43[k]? := own_dd (by decide +kernel)
theorem pd29 : parseMethodDescriptor "(Ljava/lang/String;II)V" = some ⟨[(.object "java/lang/String"), .int, .int], none⟩ := by decide +kernel
theorem rm43 (hw : own_W a0 Z) (a ta tb tt : Addr) (kc kt : ClassId) (cd nb : Int32) (lst : List Value) (cs ys : List Int32) (ee : Nat) {zc : Int32} {fm : Value} {fn : Value} {u8 : Addr} {h0 : Heap} {n0 : Nat} (O0 : Old Z n0 h0) (SU : own_SU Z zc fm fn u8) (E_ta : Exa Z h0 ta "java/lang/String") (F_v_ta : Fld Z h0 ta "java/lang/String" "value" "[B" (.ref tb)) (F_c_ta : Fld Z h0 ta "java/lang/String" "coder" "B" (.int 1)) (V_tb : Arv Z h0 tb kc .byte (Int32.ofNat (2 * cs.length)) (own_wb cs) (.int 0)) (E_a : Exa Z h0 a "java/lang/StringBuilder") (F_v_a : Fld Z h0 a "java/lang/AbstractStringBuilder" "value" "[B" (.ref tt)) (F_c_a : Fld Z h0 a "java/lang/AbstractStringBuilder" "coder" "B" (.int cd)) (F_n_a : Fld Z h0 a "java/lang/AbstractStringBuilder" "count" "I" (.int (Int32.ofNat ys.length))) (F_m_a : Fld Z h0 a "java/lang/AbstractStringBuilder" "maybeLatin1" "Z" (.int 0)) (V_tt : Arv Z h0 tt kt .byte nb lst (.int 0)) (E_tt : Exa Z h0 tt "[B") (nbt : tb ≠ tt) (hS : own_SB cs.length ys cd nb lst) (hB3 : cs.length ≤ 3) (hle : ys.length ≤ ee) (hen : ee ≤ cs.length) (hG : own_G cs) (hz : cd = (0 : Int32) → ys = []) (g_a : n0 ≤ a) (g_tt : n0 ≤ tt) : own_M l own_n43 jdk_68_method_27_code 5 (some (.object "java/lang/AbstractStringBuilder")) (own_rm 7 1 6 108) Z h0 #[.ref a, .ref ta, .int (Int32.ofNat ys.length), .int (Int32.ofNat ee)] (fun v h L => ∃ tn : Addr, ∃ kn : ClassId, ∃ cdn : Int32, ∃ nbn : Int32, ∃ lsn : List Value, v = some (.ref a) ∧ Fr n0 L ∧ Keep h0 h [a, tt] ∧ Fld Z h a "java/lang/AbstractStringBuilder" "value" "[B" (.ref tn) ∧ Fld Z h a "java/lang/AbstractStringBuilder" "coder" "B" (.int cdn) ∧ Fld Z h a "java/lang/AbstractStringBuilder" "count" "I" (.int (Int32.ofNat ee)) ∧ Fld Z h a "java/lang/AbstractStringBuilder" "maybeLatin1" "Z" (.int 0) ∧ Arv Z h tn kn .byte nbn lsn (.int 0) ∧ Exa Z h tn "[B" ∧ (tn = tt ∨ h0.size ≤ tn) ∧ n0 ≤ tn ∧ own_SB cs.length (ys ++ own_TK cs ys.length ee) cdn nbn lsn ∧ (cd = (1 : Int32) → cdn = (1 : Int32))) := by
  refine own_body (L0 := #[.val (.ref a), .val (.ref ta), .val (.int (Int32.ofNat ys.length)), .val (.int (Int32.ofNat ee)), .unset]) (plainFor_of_name pn_java_lang_AbstractStringBuilder) rfl rfl ?_
  intro p e s m below meth c s₁ f0 Bd hx Hb hml hZ hown X0 e0 pre0
  have hby := Hb.2
  have W := own_q hw
  have N0 := Fr.nil n0
  have O := O0
  have K := Keep.refl h0 [a, tt]
  have Q43 := own_ar2 cs.length (by omega) ee (by omega) ys.length (by omega)
  obtain ⟨cq1, kq1, q1a, q1b, q1c⟩ := isOf hZ e0 E_ta
  obtain ⟨_, _, ⟨T1, L1, k1, n1⟩, -, X1, ⟨Lc1, hQ1, l1, y1, z1⟩, st1⟩ := X0.interfaceBack hx (xi := (⟨"java/lang/CharSequence", "length", "()I"⟩ : MethodName)) (y := own_n15) hown (mvT hZ (W 217 rfl)) (mvT hZ (W 218 rfl)) (mvT hZ (W 219 rfl)) (mvT hZ (W 220 rfl)) (mvT hZ (W 67 rfl)) (mvT hZ (W 221 rfl)) (mvT hZ (W 222 rfl)) (mvT hZ (W 57 rfl)) (by decide) (own_bk (W := 2) (rm15_U hw ta tb kc (Int32.ofNat (2 * cs.length)) (own_wb cs) (Int32.ofNat cs.length) O SU E_ta F_v_ta F_c_ta V_tb (own_nq3 _ (by omega)).2.2.2.2.2.2) hZ (W 69 rfl) (W 8 rfl) (by decide) (by decide)) q1a q1b q1c (g := (mkF m 10 #[.val (.ref a), .val (.ref ta), .val (.int (Int32.ofNat ys.length)), .val (.int (Int32.ofNat ee)), .unset] [.ref ta, .int (Int32.ofNat ee), .int (Int32.ofNat ys.length)])) rfl (by rw [hml]; rfl) (Steps.refl _) (argsL := []) (rest := [.int (Int32.ofNat ee), .int (Int32.ofNat ys.length)]) (lenOf pd10 rfl) rfl (by show 2 * 0 + _ ≤ _; exact Nat.le_of_eq rfl) (hb hby (D43 5)) (fun _ _ => ⟨rfl, e0, (by decide : 0 + 0 ≤ _), (by decide : 0 + 0 ≤ _)⟩)
  dsimp only [Pt.U, Pt.locs, Pt.cells, Pt.slots] at X1 l1 y1 z1 st1 hQ1
  have X1 := own_un X1 l1 y1 z1
  obtain ⟨rfl, N1q, eh1⟩ := hQ1
  have N1 := Fr.app N0 N1q
  obtain ⟨T2, X2, e2, st2⟩ := getS2 X1 hx hZ hown (host := "") (Or.inl (W 223 rfl)) Via.refl eh1 (SU.2.2.2.2.2.2.2.1.ext O.2) (g := (mkF m 15 #[.val (.ref a), .val (.ref ta), .val (.int (Int32.ofNat ys.length)), .val (.int (Int32.ofNat ee)), .unset] [.int (Int32.ofNat cs.length), .int (Int32.ofNat ee), .int (Int32.ofNat ys.length)])) rfl (hb hby (D43 6))
  obtain ⟨_, T3, Lc3, X3, hQ3, st3⟩ := own_cS X2 Hb hZ hown hml (L := #[.val (.ref a), .val (.ref ta), .val (.int (Int32.ofNat ys.length)), .val (.int (Int32.ofNat ee)), .unset]) rfl (rm44 hw (Int32.ofNat ys.length) (Int32.ofNat ee) (Int32.ofNat cs.length) fn O SU.2.2.2.2.2.2.2.2.2.2 Q43.2.2.2.2.2.2.2.2.1 Q43.2.2.2.2.2.2.1 Q43.2.2.2.2.2.2.2.1) (W 225 rfl) (W 226 rfl) (W 93 rfl) (W 227 rfl) pd23 e2 (D43 7) [.int (Int32.ofNat ys.length), .int (Int32.ofNat ee), .int (Int32.ofNat cs.length), fn] [] 0
  obtain ⟨rfl, N3q, eh3⟩ := hQ3
  have N3 := Fr.app N1 N3q
  obtain ⟨T4, X4, e4, st4⟩ := getF X3 hx hZ hown (host := "") (Or.inl (W 228 rfl)) Via.refl eh3 F_n_a (g := (mkF m 29 #[.val (.ref a), .val (.ref ta), .val (.int (Int32.ofNat ys.length)), .val (.int (Int32.ofNat ee)), .val (.int ((Int32.ofNat ee) - (Int32.ofNat ys.length)))] [.ref a, .ref a])) rfl rfl (hb hby (D43 15))
  obtain ⟨_, T5, Lc5, X5, hQ5, st5⟩ := own_cP X4 Hb hZ hown hml (L := #[.val (.ref a), .val (.ref ta), .val (.int (Int32.ofNat ys.length)), .val (.int (Int32.ofNat ee)), .val (.int ((Int32.ofNat ee) - (Int32.ofNat ys.length)))]) rfl (rm45 hw a ((Int32.ofNat ys.length) + ((Int32.ofNat ee) - (Int32.ofNat ys.length))) tt kt cd nb lst O F_v_a F_c_a V_tt (own_cap hS hB3 hle hen)) (W 230 rfl) (W 231 rfl) (W 233 rfl) (W 232 rfl) (W 199 rfl) (W 234 rfl) pd22 e4 E_a (D43 18) [(.int ((Int32.ofNat ys.length) + ((Int32.ofNat ee) - (Int32.ofNat ys.length))))] [] 0
  obtain ⟨rfl, N5q, eh5⟩ := hQ5
  have N5 := Fr.app N3 N5q
  obtain ⟨T6, X6, e6, st6⟩ := instY X5 hx hZ hown (W 235 rfl) eh5 (Ins.self E_ta) (g := (mkF m 39 #[.val (.ref a), .val (.ref ta), .val (.int (Int32.ofNat ys.length)), .val (.int (Int32.ofNat ee)), .val (.int ((Int32.ofNat ee) - (Int32.ofNat ys.length)))] [.ref ta])) rfl rfl (hb hby (D43 20))
  obtain ⟨T7, X7, e7, st7⟩ := castY X6 hx hZ hown (W 235 rfl) e6 (Ins.self E_ta) (g := (mkF m 47 #[.val (.ref a), .val (.ref ta), .val (.int (Int32.ofNat ys.length)), .val (.int (Int32.ofNat ee)), .val (.int ((Int32.ofNat ee) - (Int32.ofNat ys.length)))] [.ref ta, .ref a])) rfl rfl (hb hby (D43 24))
  have ne_ta_a : ta ≠ a := (Exa.ne E_ta E_a (by decide))
  have ne_tb_a : tb ≠ a := (Ne.symm (Exa.neArv E_a V_tb (W 190 rfl)))
  have ne_tt_a : tt ≠ a := (Exa.ne E_tt E_a (by decide))
  have ne_ta_tt : ta ≠ tt := (Exa.ne E_ta E_tt (by decide))
  have lt8_a := E_a.lt
  have lt8_ta := E_ta.lt
  have lt8_tb := V_tb.lt
  obtain ⟨_, T8, Lc8, X8, hQ8, st8⟩ := own_cP X7 Hb hZ hown hml (L := #[.val (.ref a), .val (.ref ta), .val (.int (Int32.ofNat ys.length)), .val (.int (Int32.ofNat ee)), .val (.int ((Int32.ofNat ee) - (Int32.ofNat ys.length)))]) rfl (rm46 hw a ta tb tt kc kt cd nb lst cs ys ee O SU E_ta F_v_ta F_c_ta V_tb E_a F_v_a F_c_a F_n_a F_m_a V_tt E_tt nbt hS hB3 hle hen hG hz g_a g_tt) (W 236 rfl) (W 237 rfl) (W 239 rfl) (W 238 rfl) (W 199 rfl) (W 240 rfl) pd29 e7 E_a (D43 27) [.ref ta, .int (Int32.ofNat ys.length), .int (Int32.ofNat ee)] [] 0
  obtain ⟨tn_8, kn_8, cdn_8, nbn_8, lsn_8, rfl, N8q, K8, F_v_a_c8, F_c_a_c8, F_n_a_c8, F_m_a_c8, V_tn_c8, E_tn_c8, sf_8, gn_8, hSn_8, hcn_8⟩ := hQ8
  have N8 := Fr.app N5 N8q
  have E_ta := E_ta.keep K8
  have F_v_ta := F_v_ta.keep K8 (ninS ne_ta_a (ninS ne_ta_tt nin0))
  have F_c_ta := F_c_ta.keep K8 (ninS ne_ta_a (ninS ne_ta_tt nin0))
  have V_tb := V_tb.keep K8 (ninS ne_tb_a (ninS nbt nin0))
  have E_a := E_a.keep K8
  have E_tt := E_tt.keep K8
  have ne_a_tn_8 : a ≠ tn_8 := own_nt sf_8 (Ne.symm ne_tt_a) lt8_a
  have ne_ta_tn_8 : ta ≠ tn_8 := own_nt sf_8 ne_ta_tt lt8_ta
  have ne_tb_tn_8 : tb ≠ tn_8 := own_nt sf_8 nbt lt8_tb
  have iw_tn_8 : tn_8 ∈ ([a, tt] : List Addr) ∨ h0.size ≤ tn_8 := own_iw sf_8 (Or.inl (List.mem_of_getElem? (i := 1) rfl)) K.1
  have g_tn_8 := gn_8
  have O := O.keep K8 (allS g_a (allS g_tt all0))
  have K := K.trans K8 (allS (Or.inl (List.mem_of_getElem? (i := 0) rfl)) (allS (Or.inl (List.mem_of_getElem? (i := 1) rfl)) all0))
  have w9 : own_Go p e below f0 T8 m 66 #[.val (.ref a), .val (.ref ta), .val (.int (Int32.ofNat ys.length)), .val (.int (Int32.ofNat ee)), .val (.int ((Int32.ofNat ee) - (Int32.ofNat ys.length)))] [.ref a] := fun t k => by
    refine pre0 t ?_
    refine zal X0 Hb (D43 0) rfl rfl <| XS.ifnonnullYes X0.here hx rfl (pc0 := 1) (pc' := 7) rfl (hb hby (D43 1)) rfl (by decide) (by decide) <| zil X0 Hb (D43 2) rfl <| zil X0 Hb (D43 3) rfl <| zal X0 Hb (D43 4) rfl rfl <| st1.trans <| st2 _ <| st3 _ ?_
    refine zpo X3 Hb (D43 8) rfl <| zil X3 Hb (D43 9) rfl <| zil X3 Hb (D43 10) rfl <| zsu X3 Hb (D43 11) <| ziS X3 Hb (D43 12) rfl <| zal X3 Hb (D43 13) rfl rfl <| zal X3 Hb (D43 14) rfl rfl <| st4 _ ?_
    refine ziL X4 Hb (D43 16) rfl <| zia X4 Hb (D43 17) <| st5 _ <| zal X5 Hb (D43 19) rfl rfl <| st6 _ <| zin X6 Hb (D43 21) ((if0 _ _).trans (feq ((by decide) : ¬ ((1 : Int32) = (0 : Int32)))).1) <| zal X6 Hb (D43 22) rfl rfl <| zal X6 Hb (D43 23) rfl rfl ?_
    refine st7 _ <| zil X7 Hb (D43 25) rfl <| zil X7 Hb (D43 26) rfl <| st8 _ <| zgo X8 Hb (D43 28) 65 (by decide) rfl <| zal X8 Hb (D43 29) rfl rfl ?_
    exact k
  exact own_oR X8 Hb Bd.notSynchronized Bd.returns rfl w9 (D43 30) rfl (by decide) (by decide) ⟨tn_8, kn_8, cdn_8, nbn_8, lsn_8, rfl, N8, K, F_v_a_c8, F_c_a_c8, F_n_a_c8, F_m_a_c8, V_tn_c8, E_tn_c8, sf_8, gn_8, hSn_8, hcn_8⟩
def L42 : List (Nat × Instr × Nat) := [(0, .aload_n 0, 1), (1, .aload_n 1, 1), (2, .iload_n 2, 1), (3, .iload_n 3, 1), (4, .invokespecial 38, 3), (7, .pop, 1), (8, .aload_n 0, 1), (9, .areturn, 1)]
theorem D42 : ∀ k : Nat, own_PP jdk_67_method_10_code L42[k]? := own_dd (by decide +kernel)
theorem pd30 : parseMethodDescriptor "(Ljava/lang/CharSequence;II)Ljava/lang/AbstractStringBuilder;" = some ⟨[(.object "java/lang/CharSequence"), .int, .int], some (.object "java/lang/AbstractStringBuilder")⟩ := by decide +kernel
theorem rm42 (hw : own_W a0 Z) (a ta tb tt : Addr) (kc kt : ClassId) (cd nb : Int32) (lst : List Value) (cs ys : List Int32) (ee : Nat) {zc : Int32} {fm : Value} {fn : Value} {u8 : Addr} {h0 : Heap} {n0 : Nat} (O0 : Old Z n0 h0) (SU : own_SU Z zc fm fn u8) (E_ta : Exa Z h0 ta "java/lang/String") (F_v_ta : Fld Z h0 ta "java/lang/String" "value" "[B" (.ref tb)) (F_c_ta : Fld Z h0 ta "java/lang/String" "coder" "B" (.int 1)) (V_tb : Arv Z h0 tb kc .byte (Int32.ofNat (2 * cs.length)) (own_wb cs) (.int 0)) (E_a : Exa Z h0 a "java/lang/StringBuilder") (F_v_a : Fld Z h0 a "java/lang/AbstractStringBuilder" "value" "[B" (.ref tt)) (F_c_a : Fld Z h0 a "java/lang/AbstractStringBuilder" "coder" "B" (.int cd)) (F_n_a : Fld Z h0 a "java/lang/AbstractStringBuilder" "count" "I" (.int (Int32.ofNat ys.length))) (F_m_a : Fld Z h0 a "java/lang/AbstractStringBuilder" "maybeLatin1" "Z" (.int 0)) (V_tt : Arv Z h0 tt kt .byte nb lst (.int 0)) (E_tt : Exa Z h0 tt "[B") (nbt : tb ≠ tt) (hS : own_SB cs.length ys cd nb lst) (hB3 : cs.length ≤ 3) (hle : ys.length ≤ ee) (hen : ee ≤ cs.length) (hG : own_G cs) (hz : cd = (0 : Int32) → ys = []) (g_a : n0 ≤ a) (g_tt : n0 ≤ tt) : own_M l own_n42 jdk_67_method_10_code 4 (some (.object "java/lang/StringBuilder")) (own_rm 8 1 6 124) Z h0 #[.ref a, .ref ta, .int (Int32.ofNat ys.length), .int (Int32.ofNat ee)] (fun v h L => ∃ tn : Addr, ∃ kn : ClassId, ∃ cdn : Int32, ∃ nbn : Int32, ∃ lsn : List Value, v = some (.ref a) ∧ Fr n0 L ∧ Keep h0 h [a, tt] ∧ Fld Z h a "java/lang/AbstractStringBuilder" "value" "[B" (.ref tn) ∧ Fld Z h a "java/lang/AbstractStringBuilder" "coder" "B" (.int cdn) ∧ Fld Z h a "java/lang/AbstractStringBuilder" "count" "I" (.int (Int32.ofNat ee)) ∧ Fld Z h a "java/lang/AbstractStringBuilder" "maybeLatin1" "Z" (.int 0) ∧ Arv Z h tn kn .byte nbn lsn (.int 0) ∧ Exa Z h tn "[B" ∧ (tn = tt ∨ h0.size ≤ tn) ∧ n0 ≤ tn ∧ own_SB cs.length (ys ++ own_TK cs ys.length ee) cdn nbn lsn ∧ (cd = (1 : Int32) → cdn = (1 : Int32))) := by
  refine own_body (L0 := #[.val (.ref a), .val (.ref ta), .val (.int (Int32.ofNat ys.length)), .val (.int (Int32.ofNat ee))]) (plainFor_of_name pn_java_lang_StringBuilder) rfl rfl ?_
  intro p e s m below meth c s₁ f0 Bd hx Hb hml hZ hown X0 e0 pre0
  have W := own_q hw
  have N0 := Fr.nil n0
  have O := O0
  have K := Keep.refl h0 [a, tt]
  have ne_ta_a : ta ≠ a := (Exa.ne E_ta E_a (by decide))
  have ne_tb_a : tb ≠ a := (Ne.symm (Exa.neArv E_a V_tb (W 190 rfl)))
  have ne_tt_a : tt ≠ a := (Exa.ne E_tt E_a (by decide))
  have ne_ta_tt : ta ≠ tt := (Exa.ne E_ta E_tt (by decide))
  have lt1_a := E_a.lt
  have lt1_ta := E_ta.lt
  have lt1_tb := V_tb.lt
  obtain ⟨_, T1, Lc1, X1, hQ1, st1⟩ := own_cU X0 Hb hZ hown hml (L := #[.val (.ref a), .val (.ref ta), .val (.int (Int32.ofNat ys.length)), .val (.int (Int32.ofNat ee))]) rfl (rm43 hw a ta tb tt kc kt cd nb lst cs ys ee O SU E_ta F_v_ta F_c_ta V_tb E_a F_v_a F_c_a F_n_a F_m_a V_tt E_tt nbt hS hB3 hle hen hG hz g_a g_tt) (W 212 rfl) (own_same (W 213 rfl) (W 306 rfl) rfl (by decide)) (W 213 rfl) (W 214 rfl) (W 199 rfl) (W 216 rfl) pd30 e0 E_a (D42 4) [.ref ta, .int (Int32.ofNat ys.length), .int (Int32.ofNat ee)] [] 0
  obtain ⟨tn_1, kn_1, cdn_1, nbn_1, lsn_1, rfl, N1q, K1, F_v_a_c1, F_c_a_c1, F_n_a_c1, F_m_a_c1, V_tn_c1, E_tn_c1, sf_1, gn_1, hSn_1, hcn_1⟩ := hQ1
  have N1 := Fr.app N0 N1q
  have E_ta := E_ta.keep K1
  have F_v_ta := F_v_ta.keep K1 (ninS ne_ta_a (ninS ne_ta_tt nin0))
  have F_c_ta := F_c_ta.keep K1 (ninS ne_ta_a (ninS ne_ta_tt nin0))
  have V_tb := V_tb.keep K1 (ninS ne_tb_a (ninS nbt nin0))
  have E_a := E_a.keep K1
  have E_tt := E_tt.keep K1
  have ne_a_tn_1 : a ≠ tn_1 := own_nt sf_1 (Ne.symm ne_tt_a) lt1_a
  have ne_ta_tn_1 : ta ≠ tn_1 := own_nt sf_1 ne_ta_tt lt1_ta
  have ne_tb_tn_1 : tb ≠ tn_1 := own_nt sf_1 nbt lt1_tb
  have iw_tn_1 : tn_1 ∈ ([a, tt] : List Addr) ∨ h0.size ≤ tn_1 := own_iw sf_1 (Or.inl (List.mem_of_getElem? (i := 1) rfl)) K.1
  have g_tn_1 := gn_1
  have O := O.keep K1 (allS g_a (allS g_tt all0))
  have K := K.trans K1 (allS (Or.inl (List.mem_of_getElem? (i := 0) rfl)) (allS (Or.inl (List.mem_of_getElem? (i := 1) rfl)) all0))
  have w2 : own_Go p e below f0 T1 m 9 #[.val (.ref a), .val (.ref ta), .val (.int (Int32.ofNat ys.length)), .val (.int (Int32.ofNat ee))] [.ref a] := fun t k => by
    refine pre0 t ?_
    refine zal X0 Hb (D42 0) rfl rfl <| zal X0 Hb (D42 1) rfl rfl <| zil X0 Hb (D42 2) rfl <| zil X0 Hb (D42 3) rfl <| st1 _ <| zpo X1 Hb (D42 5) rfl <| zal X1 Hb (D42 6) rfl rfl ?_
    exact k
  exact own_oR X1 Hb Bd.notSynchronized Bd.returns rfl w2 (D42 7) rfl (by decide) (by decide) ⟨tn_1, kn_1, cdn_1, nbn_1, lsn_1, rfl, N1, K, F_v_a_c1, F_c_a_c1, F_n_a_c1, F_m_a_c1, V_tn_c1, E_tn_c1, sf_1, gn_1, hSn_1, hcn_1⟩
theorem own_cap1 {n : Nat} {ys : List Int32} {cd nb : Int32} {lst : List Value} (hS : own_SB n ys cd nb lst) (hB3 : n ≤ 3) (he : ys.length < n) : ¬ (0 : Int32) < ((Int32.ofNat ys.length + (1 : Int32)) - (nb >>> (cd &&& 31))) := by
  have A := (by decide +kernel : ∀ n < 4, ∀ i < n, ¬ (0 : Int32) < ((Int32.ofNat i + (1 : Int32)) - (Int32.ofNat n >>> ((0 : Int32) &&& 31))) ∧ ¬ (0 : Int32) < ((Int32.ofNat i + (1 : Int32)) - (Int32.ofNat (2 * n) >>> ((1 : Int32) &&& 31)))) n (by omega) ys.length he
  rcases hS with ⟨rfl, rfl, -⟩ | ⟨rfl, rfl, -⟩
  · exact A.1
  · exact A.2
theorem own_s1 (ys : List Int32) (q : Int32) : Int32.ofNat ys.length + (1 : Int32) = Int32.ofNat (ys ++ [q]).length := by
  rw [List.length_append, Int32.ofNat_add]
  rfl
def L50 : List (Nat × Instr × Nat) := [(0, .aload_n 0, 1), (1, .aload_n 0, 1), (2, .getfield 79, 3), (5, .iconst 1, 1), (6, .iadd, 1), (7, .invokevirtual 100, 3), (10, .aload_n 0, 1), (11, .invokevirtual 83, 3), (14, .ifCond .eq 31, 3), (17, .iload_n 1, 1), (18, .invokestatic 191, 3), (21, .ifCond .eq 24, 3), (45, .aload_n 0, 1), (46, .invokevirtual 83, 3), (49, .ifCond .eq 7, 3), (52, .aload_n 0, 1), (53, .invokevirtual 195, 3), (56, .aload_n 0, 1), (57, .getfield 15, 3), (60, .aload_n 0, 1), (61, .dup, 1), (62, .getfield 79, 3), (65, .dup_x1, 1), (66, .iconst 1, 1), (67, .iadd, 1), (68, .putfield 79, 3), (71, .iload_n 1, 1), (72, .invokestatic 197, 3), (75, .aload_n 0, 1), (76, .areturn, 1)]
theorem D50 : ∀ k : Nat, own_PP jdk_68_method_31_code L50[k]? := own_dd (by decide +kernel)
theorem rm50 (hw : own_W a0 Z) (a tt : Addr) (kt : ClassId) (cd nb : Int32) (lst : List Value) (ys : List Int32) (n : Nat) {zc : Int32} {fm : Value} {fn : Value} {u8 : Addr} {h0 : Heap} {n0 : Nat} (O0 : Old Z n0 h0) (SU : own_SU Z zc fm fn u8) (E_a : Exa Z h0 a "java/lang/StringBuilder") (F_v_a : Fld Z h0 a "java/lang/AbstractStringBuilder" "value" "[B" (.ref tt)) (F_c_a : Fld Z h0 a "java/lang/AbstractStringBuilder" "coder" "B" (.int cd)) (F_n_a : Fld Z h0 a "java/lang/AbstractStringBuilder" "count" "I" (.int (Int32.ofNat ys.length))) (F_m_a : Fld Z h0 a "java/lang/AbstractStringBuilder" "maybeLatin1" "Z" (.int 0)) (V_tt : Arv Z h0 tt kt .byte nb lst (.int 0)) (E_tt : Exa Z h0 tt "[B") (hS : own_SB n ys cd nb lst) (hkn : ys.length < n) (hB3 : n ≤ 3) (g_a : n0 ≤ a) (g_tt : n0 ≤ tt) : own_M l own_n50 jdk_68_method_31_code 2 (some (.object "java/lang/AbstractStringBuilder")) (own_rm 6 1 6 89) Z h0 #[.ref a, .int 65533] (fun v h L => ∃ tn : Addr, ∃ kn : ClassId, v = some (.ref a) ∧ Fr n0 L ∧ Keep h0 h [a, tt] ∧ Fld Z h a "java/lang/AbstractStringBuilder" "value" "[B" (.ref tn) ∧ Fld Z h a "java/lang/AbstractStringBuilder" "coder" "B" (.int 1) ∧ Fld Z h a "java/lang/AbstractStringBuilder" "count" "I" (.int (Int32.ofNat (ys ++ [(65533 : Int32)]).length)) ∧ Fld Z h a "java/lang/AbstractStringBuilder" "maybeLatin1" "Z" (.int 0) ∧ Arv Z h tn kn .byte (Int32.ofNat (2 * n)) (own_wb (ys ++ [(65533 : Int32)])) (.int 0) ∧ Exa Z h tn "[B" ∧ (tn = tt ∨ h0.size ≤ tn) ∧ n0 ≤ tn) := by
  refine own_body (L0 := #[.val (.ref a), .val (.int 65533)]) (plainFor_of_name pn_java_lang_AbstractStringBuilder) rfl rfl ?_
  intro p e s m below meth c s₁ f0 Bd hx Hb hml hZ hown X0 e0 pre0
  have hby := Hb.2
  have W := own_q hw
  have N0 := Fr.nil n0
  have O := O0
  have K := Keep.refl h0 [a, tt]
  have hcp := own_cap1 hS hB3 hkn
  rcases hS with ⟨rfl, rfl, rfl, hL⟩ | ⟨rfl, rfl, rfl⟩
  · have w00 := pre0
    obtain ⟨T1, X1, e1, st1⟩ := getF X0 hx hZ hown (host := "") (Or.inl (W 228 rfl)) Via.refl e0 F_n_a (g := (mkF m 2 #[.val (.ref a), .val (.int 65533)] [.ref a, .ref a])) rfl rfl (hb hby (D50 2))
    obtain ⟨_, T2, Lc2, X2, hQ2, st2⟩ := own_cP X1 Hb hZ hown hml (L := #[.val (.ref a), .val (.int 65533)]) rfl (rm45 hw a ((Int32.ofNat ys.length) + (1 : Int32)) tt kt (0 : Int32) (Int32.ofNat n) (own_lb ys) O F_v_a F_c_a V_tt hcp) (W 230 rfl) (W 231 rfl) (W 233 rfl) (W 232 rfl) (W 199 rfl) (W 234 rfl) pd22 e1 E_a (D50 5) [(.int ((Int32.ofNat ys.length) + (1 : Int32)))] [] 0
    obtain ⟨rfl, N2q, eh2⟩ := hQ2
    have N2 := Fr.app N0 N2q
    obtain ⟨_, T3, Lc3, X3, hQ3, st3⟩ := own_cV X2 Hb hZ hown hml (L := #[.val (.ref a), .val (.int 65533)]) rfl (rm47_L hw a O SU F_c_a) (W 241 rfl) (W 242 rfl) (W 244 rfl) (W 243 rfl) (W 199 rfl) (W 245 rfl) pd9 eh2 E_a (D50 7) [] [] 0
    obtain ⟨rfl, N3q, eh3⟩ := hQ3
    have N3 := Fr.app N2 N3q
    obtain ⟨_, T4, Lc4, X4, hQ4, st4⟩ := own_cS X3 Hb hZ hown hml (L := #[.val (.ref a), .val (.int 65533)]) rfl (rm48 hw (65533 : Int32) O ) (W 248 rfl) (W 249 rfl) (W 87 rfl) (W 250 rfl) pd1 eh3 (D50 10) [.int 65533] [] 0
    obtain ⟨rfl, N4q, eh4⟩ := hQ4
    have N4 := Fr.app N3 N4q
    obtain ⟨_, T5, Lc5, X5, hQ5, st5⟩ := own_cV X4 Hb hZ hown hml (L := #[.val (.ref a), .val (.int 65533)]) rfl (rm47_L hw a O SU F_c_a) (W 241 rfl) (W 242 rfl) (W 244 rfl) (W 243 rfl) (W 199 rfl) (W 245 rfl) pd9 eh4 E_a (D50 13) [] [] 0
    obtain ⟨rfl, N5q, eh5⟩ := hQ5
    have N5 := Fr.app N4 N5q
    have ne_tt_a : tt ≠ a := (Exa.ne E_tt E_a (by decide))
    have lt6_a := E_a.lt
    have lt6_tt := V_tt.lt
    obtain ⟨_, T6, Lc6, X6, hQ6, st6⟩ := own_cP X5 Hb hZ hown hml (L := #[.val (.ref a), .val (.int 65533)]) rfl (rm51 hw a tt kt (Int32.ofNat ys.length) (Int32.ofNat n) ys n O SU E_a F_v_a F_c_a F_n_a F_m_a V_tt rfl rfl hkn hB3 hL g_a) (W 261 rfl) (W 262 rfl) (W 264 rfl) (W 263 rfl) (W 199 rfl) (W 265 rfl) pd27 eh5 E_a (D50 16) [] [] 0
    obtain ⟨z_6, kz_6, rfl, N6q, K6, F_v_a_c6, F_c_a_c6, F_n_a_c6, F_m_a_c6, V_z_c6, E_z_c6, gz_6, gn_6⟩ := hQ6
    have N6 := Fr.app N5 N6q
    have E_a := E_a.keep K6
    have V_tt := V_tt.keep K6 (ninS ne_tt_a nin0)
    have E_tt := E_tt.keep K6
    have ne_a_z_6 : a ≠ z_6 := Nat.ne_of_lt (Nat.lt_of_lt_of_le lt6_a gz_6)
    have ne_tt_z_6 : tt ≠ z_6 := Nat.ne_of_lt (Nat.lt_of_lt_of_le lt6_tt gz_6)
    have g_z_6 := gn_6
    have z_z_6 : h0.size ≤ z_6 := Nat.le_trans K.1 gz_6
    have O := O.keep K6 (allS g_a all0)
    have K := K.trans K6 (allS (Or.inl (List.mem_of_getElem? (i := 0) rfl)) all0)
    obtain ⟨T7, X7, e7, st7⟩ := getF X6 hx hZ hown (host := "") (Or.inl (W 203 rfl)) Via.refl rfl F_v_a_c6 (g := (mkF m 57 #[.val (.ref a), .val (.int 65533)] [.ref a])) rfl rfl (hb hby (D50 18))
    obtain ⟨T8, X8, e8, st8⟩ := getF X7 hx hZ hown (host := "") (Or.inl (W 228 rfl)) Via.refl e7 F_n_a_c6 (g := (mkF m 62 #[.val (.ref a), .val (.int 65533)] [.ref a, .ref a, .ref z_6])) rfl rfl (hb hby (D50 21))
    obtain ⟨T9, h9, X9, e9, W9, st9⟩ := putF X8 hx hZ hown (host := "") (Or.inl (W 228 rfl)) Via.refl e8 F_n_a_c6 E_a (Or.inl (W 229 rfl)) (W 190 rfl) (ty := .int) (by decide) rfl rfl (g := (mkF m 68 #[.val (.ref a), .val (.int 65533)] [(.int ((Int32.ofNat ys.length) + (1 : Int32))), .ref a, .int (Int32.ofNat ys.length), .ref z_6])) rfl rfl (hb hby (D50 25))
    have F_n_a_c6 := F_n_a_c6.same W9
    have E_a := E_a.wr W9
    have V_tt := V_tt.other W9 ne_tt_a
    have E_tt := E_tt.wr W9
    have F_v_a_c6 := F_v_a_c6.other W9 (Or.inr (slot_ne (Or.inl (W 204 rfl)) (Or.inl (W 229 rfl)) (by decide) (t := (.array .byte)) (t' := .int) (by decide) (by decide)))
    have F_c_a_c6 := F_c_a_c6.other W9 (Or.inr (slot_ne (Or.inl (W 206 rfl)) (Or.inl (W 229 rfl)) (by decide) (t := .byte) (t' := .int) (by decide) (by decide)))
    have F_m_a_c6 := F_m_a_c6.other W9 (Or.inr (slot_ne (Or.inl (W 318 rfl)) (Or.inl (W 229 rfl)) (by decide) (t := .boolean) (t' := .int) (by decide) (by decide)))
    have V_z_c6 := V_z_c6.other W9 (Ne.symm ne_a_z_6)
    have E_z_c6 := E_z_c6.wr W9
    have O := O.wr W9 g_a
    have K := K.wr W9 (Or.inl (List.mem_of_getElem? (i := 0) rfl))
    have N9 := Fr.snoc X9 N6 g_a
    obtain ⟨_, T10, Lc10, X10, hQ10, st10⟩ := own_cS X9 Hb hZ hown hml (L := #[.val (.ref a), .val (.int 65533)]) rfl (rm57 hw z_6 (Int32.ofNat ys.length) (65533 : Int32) kz_6 (Int32.ofNat (2 * n)) ys n O SU V_z_c6 rfl rfl hkn hB3 g_z_6) (W 282 rfl) (W 283 rfl) (W 22 rfl) (W 284 rfl) pd21 e9 (D50 27) [.ref z_6, .int (Int32.ofNat ys.length), .int 65533] [] 0
    obtain ⟨rfl, N10q, K10, V_d_c10⟩ := hQ10
    have N10 := Fr.app N9 N10q
    have E_a := E_a.keep K10
    have V_tt := V_tt.keep K10 (ninS ne_tt_z_6 nin0)
    have E_tt := E_tt.keep K10
    have F_v_a_c6 := F_v_a_c6.keep K10 (ninS ne_a_z_6 nin0)
    have F_c_a_c6 := F_c_a_c6.keep K10 (ninS ne_a_z_6 nin0)
    have F_n_a_c6 := F_n_a_c6.keep K10 (ninS ne_a_z_6 nin0)
    have F_m_a_c6 := F_m_a_c6.keep K10 (ninS ne_a_z_6 nin0)
    have E_z_c6 := E_z_c6.keep K10
    have O := O.keep K10 (allS g_z_6 all0)
    have K := K.trans K10 (allS (Or.inr z_z_6) all0)
    have w11 : own_Go p e below f0 T10 m 76 #[.val (.ref a), .val (.int 65533)] [.ref a] := fun t k => by
      refine pre0 t ?_
      refine zal X0 Hb (D50 0) rfl rfl <| zal X0 Hb (D50 1) rfl rfl <| st1 _ <| zic X1 Hb (D50 3) 1 rfl <| zia X1 Hb (D50 4) <| st2 _ <| zal X2 Hb (D50 6) rfl rfl <| st3 _ ?_
      refine zin X3 Hb (D50 8) ((if0 _ _).trans (feq ((by decide) : ¬ ((1 : Int32) = (0 : Int32)))).1) <| zil X3 Hb (D50 9) rfl <| st4 _ <| ziy X4 Hb (D50 11) ((if0 _ _).trans (teq ((by decide) : (own_ce (65533 : Int32)) = (0 : Int32))).1) 45 (by decide) rfl <| zal X4 Hb (D50 12) rfl rfl <| st5 _ <| zin X5 Hb (D50 14) ((if0 _ _).trans (feq ((by decide) : ¬ ((1 : Int32) = (0 : Int32)))).1) <| zal X5 Hb (D50 15) rfl rfl ?_
      refine st6 _ <| zal X6 Hb (D50 17) rfl rfl <| st7 _ <| zal X7 Hb (D50 19) rfl rfl <| zdu X7 Hb (D50 20) rfl <| st8 _ <| XS.dupX1 X8.here hx rfl (hb hby (D50 22)) rfl rfl rfl <| zic X8 Hb (D50 23) 1 rfl ?_
      refine zia X8 Hb (D50 24) <| st9 _ <| zil X9 Hb (D50 26) rfl <| st10 _ <| zal X10 Hb (D50 28) rfl rfl ?_
      exact k
    exact own_oR X10 Hb Bd.notSynchronized Bd.returns rfl w11 (D50 29) rfl (by decide) (by decide) ⟨z_6, kz_6, rfl, N10, K, F_v_a_c6, F_c_a_c6, (by have q := F_n_a_c6; rw [own_s1 ys (65533 : Int32)] at q; exact q), F_m_a_c6, V_d_c10, E_z_c6, (Or.inr z_z_6), g_z_6⟩
  · have w00 := pre0
    obtain ⟨T12, X12, e12, st12⟩ := getF X0 hx hZ hown (host := "") (Or.inl (W 228 rfl)) Via.refl e0 F_n_a (g := (mkF m 2 #[.val (.ref a), .val (.int 65533)] [.ref a, .ref a])) rfl rfl (hb hby (D50 2))
    obtain ⟨_, T13, Lc13, X13, hQ13, st13⟩ := own_cP X12 Hb hZ hown hml (L := #[.val (.ref a), .val (.int 65533)]) rfl (rm45 hw a ((Int32.ofNat ys.length) + (1 : Int32)) tt kt (1 : Int32) (Int32.ofNat (2 * n)) (own_wb ys) O F_v_a F_c_a V_tt hcp) (W 230 rfl) (W 231 rfl) (W 233 rfl) (W 232 rfl) (W 199 rfl) (W 234 rfl) pd22 e12 E_a (D50 5) [(.int ((Int32.ofNat ys.length) + (1 : Int32)))] [] 0
    obtain ⟨rfl, N13q, eh13⟩ := hQ13
    have N13 := Fr.app N0 N13q
    obtain ⟨_, T14, Lc14, X14, hQ14, st14⟩ := own_cV X13 Hb hZ hown hml (L := #[.val (.ref a), .val (.int 65533)]) rfl (rm47_U hw a O SU F_c_a) (W 241 rfl) (W 242 rfl) (W 244 rfl) (W 243 rfl) (W 199 rfl) (W 245 rfl) pd9 eh13 E_a (D50 7) [] [] 0
    obtain ⟨rfl, N14q, eh14⟩ := hQ14
    have N14 := Fr.app N13 N14q
    obtain ⟨_, T15, Lc15, X15, hQ15, st15⟩ := own_cV X14 Hb hZ hown hml (L := #[.val (.ref a), .val (.int 65533)]) rfl (rm47_U hw a O SU F_c_a) (W 241 rfl) (W 242 rfl) (W 244 rfl) (W 243 rfl) (W 199 rfl) (W 245 rfl) pd9 eh14 E_a (D50 13) [] [] 0
    obtain ⟨rfl, N15q, eh15⟩ := hQ15
    have N15 := Fr.app N14 N15q
    obtain ⟨T16, X16, e16, st16⟩ := getF X15 hx hZ hown (host := "") (Or.inl (W 203 rfl)) Via.refl eh15 F_v_a (g := (mkF m 57 #[.val (.ref a), .val (.int 65533)] [.ref a])) rfl rfl (hb hby (D50 18))
    obtain ⟨T17, X17, e17, st17⟩ := getF X16 hx hZ hown (host := "") (Or.inl (W 228 rfl)) Via.refl e16 F_n_a (g := (mkF m 62 #[.val (.ref a), .val (.int 65533)] [.ref a, .ref a, .ref tt])) rfl rfl (hb hby (D50 21))
    have ne_tt_a : tt ≠ a := (Exa.ne E_tt E_a (by decide))
    obtain ⟨T18, h18, X18, e18, W18, st18⟩ := putF X17 hx hZ hown (host := "") (Or.inl (W 228 rfl)) Via.refl e17 F_n_a E_a (Or.inl (W 229 rfl)) (W 190 rfl) (ty := .int) (by decide) rfl rfl (g := (mkF m 68 #[.val (.ref a), .val (.int 65533)] [(.int ((Int32.ofNat ys.length) + (1 : Int32))), .ref a, .int (Int32.ofNat ys.length), .ref tt])) rfl rfl (hb hby (D50 25))
    have F_n_a := F_n_a.same W18
    have E_a := E_a.wr W18
    have F_v_a := F_v_a.other W18 (Or.inr (slot_ne (Or.inl (W 204 rfl)) (Or.inl (W 229 rfl)) (by decide) (t := (.array .byte)) (t' := .int) (by decide) (by decide)))
    have F_c_a := F_c_a.other W18 (Or.inr (slot_ne (Or.inl (W 206 rfl)) (Or.inl (W 229 rfl)) (by decide) (t := .byte) (t' := .int) (by decide) (by decide)))
    have F_m_a := F_m_a.other W18 (Or.inr (slot_ne (Or.inl (W 318 rfl)) (Or.inl (W 229 rfl)) (by decide) (t := .boolean) (t' := .int) (by decide) (by decide)))
    have V_tt := V_tt.other W18 ne_tt_a
    have E_tt := E_tt.wr W18
    have O := O.wr W18 g_a
    have K := K.wr W18 (Or.inl (List.mem_of_getElem? (i := 0) rfl))
    have N18 := Fr.snoc X18 N15 g_a
    obtain ⟨_, T19, Lc19, X19, hQ19, st19⟩ := own_cS X18 Hb hZ hown hml (L := #[.val (.ref a), .val (.int 65533)]) rfl (rm57 hw tt (Int32.ofNat ys.length) (65533 : Int32) kt (Int32.ofNat (2 * n)) ys n O SU V_tt rfl rfl hkn hB3 g_tt) (W 282 rfl) (W 283 rfl) (W 22 rfl) (W 284 rfl) pd21 e18 (D50 27) [.ref tt, .int (Int32.ofNat ys.length), .int 65533] [] 0
    obtain ⟨rfl, N19q, K19, V_d_c19⟩ := hQ19
    have N19 := Fr.app N18 N19q
    have E_a := E_a.keep K19
    have F_v_a := F_v_a.keep K19 (ninS (Ne.symm ne_tt_a) nin0)
    have F_c_a := F_c_a.keep K19 (ninS (Ne.symm ne_tt_a) nin0)
    have F_n_a := F_n_a.keep K19 (ninS (Ne.symm ne_tt_a) nin0)
    have F_m_a := F_m_a.keep K19 (ninS (Ne.symm ne_tt_a) nin0)
    have E_tt := E_tt.keep K19
    have O := O.keep K19 (allS g_tt all0)
    have K := K.trans K19 (allS (Or.inl (List.mem_of_getElem? (i := 1) rfl)) all0)
    have w20 : own_Go p e below f0 T19 m 76 #[.val (.ref a), .val (.int 65533)] [.ref a] := fun t k => by
      refine pre0 t ?_
      refine zal X0 Hb (D50 0) rfl rfl <| zal X0 Hb (D50 1) rfl rfl <| st12 _ <| zic X12 Hb (D50 3) 1 rfl <| zia X12 Hb (D50 4) <| st13 _ <| zal X13 Hb (D50 6) rfl rfl <| st14 _ ?_
      refine ziy X14 Hb (D50 8) ((if0 _ _).trans (teq (rfl : (0 : Int32) = (0 : Int32))).1) 45 (by decide) rfl <| zal X14 Hb (D50 12) rfl rfl <| st15 _ <| ziy X15 Hb (D50 14) ((if0 _ _).trans (teq (rfl : (0 : Int32) = (0 : Int32))).1) 56 (by decide) rfl <| zal X15 Hb (D50 17) rfl rfl <| st16 _ <| zal X16 Hb (D50 19) rfl rfl <| zdu X16 Hb (D50 20) rfl ?_
      refine st17 _ <| XS.dupX1 X17.here hx rfl (hb hby (D50 22)) rfl rfl rfl <| zic X17 Hb (D50 23) 1 rfl <| zia X17 Hb (D50 24) <| st18 _ <| zil X18 Hb (D50 26) rfl <| st19 _ <| zal X19 Hb (D50 28) rfl rfl ?_
      exact k
    exact own_oR X19 Hb Bd.notSynchronized Bd.returns rfl w20 (D50 29) rfl (by decide) (by decide) ⟨tt, kt, rfl, N19, K, F_v_a, F_c_a, (by have q := F_n_a; rw [own_s1 ys (65533 : Int32)] at q; exact q), F_m_a, V_d_c19, E_tt, (Or.inl rfl), g_tt⟩
def L49 : List (Nat × Instr × Nat) := [(0, .aload_n 0, 1), (1, .iload_n 1, 1), (2, .invokespecial 50, 3), (5, .pop, 1), (6, .aload_n 0, 1), (7, .areturn, 1)]
theorem D49 : ∀ k : Nat, own_PP jdk_67_method_14_code L49[k]? := own_dd (by decide +kernel)
theorem pd31 : parseMethodDescriptor "(C)Ljava/lang/AbstractStringBuilder;" = some ⟨[.char], some (.object "java/lang/AbstractStringBuilder")⟩ := by decide +kernel
theorem rm49 (hw : own_W a0 Z) (a tt : Addr) (kt : ClassId) (cd nb : Int32) (lst : List Value) (ys : List Int32) (n : Nat) {zc : Int32} {fm : Value} {fn : Value} {u8 : Addr} {h0 : Heap} {n0 : Nat} (O0 : Old Z n0 h0) (SU : own_SU Z zc fm fn u8) (E_a : Exa Z h0 a "java/lang/StringBuilder") (F_v_a : Fld Z h0 a "java/lang/AbstractStringBuilder" "value" "[B" (.ref tt)) (F_c_a : Fld Z h0 a "java/lang/AbstractStringBuilder" "coder" "B" (.int cd)) (F_n_a : Fld Z h0 a "java/lang/AbstractStringBuilder" "count" "I" (.int (Int32.ofNat ys.length))) (F_m_a : Fld Z h0 a "java/lang/AbstractStringBuilder" "maybeLatin1" "Z" (.int 0)) (V_tt : Arv Z h0 tt kt .byte nb lst (.int 0)) (E_tt : Exa Z h0 tt "[B") (hS : own_SB n ys cd nb lst) (hkn : ys.length < n) (hB3 : n ≤ 3) (g_a : n0 ≤ a) (g_tt : n0 ≤ tt) : own_M l own_n49 jdk_67_method_14_code 2 (some (.object "java/lang/StringBuilder")) (own_rm 7 1 6 102) Z h0 #[.ref a, .int 65533] (fun v h L => ∃ tn : Addr, ∃ kn : ClassId, v = some (.ref a) ∧ Fr n0 L ∧ Keep h0 h [a, tt] ∧ Fld Z h a "java/lang/AbstractStringBuilder" "value" "[B" (.ref tn) ∧ Fld Z h a "java/lang/AbstractStringBuilder" "coder" "B" (.int 1) ∧ Fld Z h a "java/lang/AbstractStringBuilder" "count" "I" (.int (Int32.ofNat (ys ++ [(65533 : Int32)]).length)) ∧ Fld Z h a "java/lang/AbstractStringBuilder" "maybeLatin1" "Z" (.int 0) ∧ Arv Z h tn kn .byte (Int32.ofNat (2 * n)) (own_wb (ys ++ [(65533 : Int32)])) (.int 0) ∧ Exa Z h tn "[B" ∧ (tn = tt ∨ h0.size ≤ tn) ∧ n0 ≤ tn) := by
  refine own_body (L0 := #[.val (.ref a), .val (.int 65533)]) (plainFor_of_name pn_java_lang_StringBuilder) rfl rfl ?_
  intro p e s m below meth c s₁ f0 Bd hx Hb hml hZ hown X0 e0 pre0
  have W := own_q hw
  have N0 := Fr.nil n0
  have O := O0
  have K := Keep.refl h0 [a, tt]
  have ne_tt_a : tt ≠ a := (Exa.ne E_tt E_a (by decide))
  have lt1_a := E_a.lt
  obtain ⟨_, T1, Lc1, X1, hQ1, st1⟩ := own_cU X0 Hb hZ hown hml (L := #[.val (.ref a), .val (.int 65533)]) rfl (rm50 hw a tt kt cd nb lst ys n O SU E_a F_v_a F_c_a F_n_a F_m_a V_tt E_tt hS hkn hB3 g_a g_tt) (W 257 rfl) (own_same (W 258 rfl) (W 306 rfl) rfl (by decide)) (W 258 rfl) (W 214 rfl) (W 199 rfl) (W 260 rfl) pd31 e0 E_a (D49 2) [.int 65533] [] 0
  obtain ⟨tn_1, kn_1, rfl, N1q, K1, F_v_a_c1, F_c_a_c1, F_n_a_c1, F_m_a_c1, V_tn_c1, E_tn_c1, sf_1, gn_1⟩ := hQ1
  have N1 := Fr.app N0 N1q
  have E_a := E_a.keep K1
  have E_tt := E_tt.keep K1
  have ne_a_tn_1 : a ≠ tn_1 := own_nt sf_1 (Ne.symm ne_tt_a) lt1_a
  have iw_tn_1 : tn_1 ∈ ([a, tt] : List Addr) ∨ h0.size ≤ tn_1 := own_iw sf_1 (Or.inl (List.mem_of_getElem? (i := 1) rfl)) K.1
  have g_tn_1 := gn_1
  have O := O.keep K1 (allS g_a (allS g_tt all0))
  have K := K.trans K1 (allS (Or.inl (List.mem_of_getElem? (i := 0) rfl)) (allS (Or.inl (List.mem_of_getElem? (i := 1) rfl)) all0))
  have w2 : own_Go p e below f0 T1 m 7 #[.val (.ref a), .val (.int 65533)] [.ref a] := fun t k => by
    refine pre0 t ?_
    refine zal X0 Hb (D49 0) rfl rfl <| zil X0 Hb (D49 1) rfl <| st1 _ <| zpo X1 Hb (D49 3) rfl <| zal X1 Hb (D49 4) rfl rfl ?_
    exact k
  exact own_oR X1 Hb Bd.notSynchronized Bd.returns rfl w2 (D49 5) rfl (by decide) (by decide) ⟨tn_1, kn_1, rfl, N1, K, F_v_a_c1, F_c_a_c1, F_n_a_c1, F_m_a_c1, V_tn_c1, E_tn_c1, sf_1, gn_1⟩
def L65 : List (Nat × Instr × Nat) := [(0, .iload_n 1, 1), (1, .ifCond .ne 9, 3), (4, .iload_n 2, 1), (5, .aload_n 0, 1), (6, .arraylength, 1), (7, .if_icmp .eq 10, 3), (17, .aload_n 0, 1), (18, .invokevirtual 310, 3), (21, .checkcast 311, 3), (24, .areturn, 1)]
theorem D65 : ∀ k : Nat, own_PP jdk_65_method_132_code L65[k]? := own_dd (by decide +kernel)
theorem rm65 (hw : own_W a0 Z) (b : Addr) (nn : Int32) (kb : ClassId) (nb : Int32) (vv : List Value) {h0 : Heap} {n0 : Nat} (O0 : Old Z n0 h0) (V_b : Arv Z h0 b kb .byte nb vv (.int 0)) (E_b : Exa Z h0 b "[B") (hnn : nn = nb) (hcap : nb.toNatClampNeg ≤ 6) : own_M l own_n65 jdk_65_method_132_code 3 (some (.array .byte)) (own_rm 1 1 6 14) Z h0 #[.ref b, .int 0, .int nn] (fun v h L => ∃ z : Addr, ∃ kz : ClassId, v = some (.ref z) ∧ Fr n0 L ∧ Keep h0 h [] ∧ Arv Z h z kz .byte nb vv (.int 0) ∧ h0.size ≤ z ∧ n0 ≤ z) := by
  refine own_body (L0 := #[.val (.ref b), .val (.int 0), .val (.int nn)]) (plainFor_of_name pn_java_util_Arrays) rfl rfl ?_
  intro p e s m below meth c s₁ f0 Bd hx Hb hml hZ hown X0 e0 pre0
  have hby := Hb.2
  have W := own_q hw
  have N0 := Fr.nil n0
  have O := O0
  have K := Keep.refl h0 []
  have B1 := own_ln V_b
  obtain ⟨T2, h2, X2, e2, E2, V_b2, A2, st2⟩ := cloneH X0 hx hZ hown (W 322 rfl) (W 125 rfl) (W 129 rfl) (W 127 rfl) (W 128 rfl) (W 130 rfl) e0 V_b.arh E_b (g := (mkF m 18 #[.val (.ref b), .val (.int 0), .val (.int nn)] [.ref b])) rfl (by rw [hml]; rfl) rfl (hb hby (D65 7)) (by decide) (W := 0) (cap := 6) (by show 2 * 0 + _ ≤ _; exact Nat.le_of_eq rfl) (by decide) hcap (by decide) (by decide)
  obtain ⟨b2, gq2⟩ : ∃ z, z = Array.size h0 := ⟨_, rfl⟩
  rw [← gq2] at A2 V_b2 st2
  have ne_b_b2 : b ≠ b2 := Nat.ne_of_lt (Nat.lt_of_lt_of_le V_b.lt (Nat.le_of_eq gq2.symm))
  have g_b2 : n0 ≤ b2 := Nat.le_trans (O.1 ▸ O.2.1) (Nat.le_of_eq gq2.symm)
  have z_b2 : h0.size ≤ b2 := Nat.le_trans K.1 (Nat.le_of_eq gq2.symm)
  have V_b := V_b.ext E2
  have E_b := E_b.ext E2
  have O := O.ext E2
  have K := K.ext E2
  have V_b2 : Arv Z h2 b2 kb .byte nb vv (.int 0) := V_b2
  obtain ⟨T3, X3, e3, st3⟩ := castY X2 hx hZ hown (W 323 rfl) e2 (Ins.self A2) (g := (mkF m 21 #[.val (.ref b), .val (.int 0), .val (.int nn)] [.ref b2])) rfl rfl (hb hby (D65 8))
  have w4 : own_Go p e below f0 T3 m 24 #[.val (.ref b), .val (.int 0), .val (.int nn)] [.ref b2] := fun t k => by
    refine pre0 t ?_
    refine zil X0 Hb (D65 0) rfl <| zin X0 Hb (D65 1) ((if0 _ _).trans (teq (rfl : (0 : Int32) = (0 : Int32))).2) <| zil X0 Hb (D65 2) rfl <| zal X0 Hb (D65 3) rfl rfl <| zal_ X0 Hb hZ e0 B1 (D65 4) <| zcy X0 Hb (D65 5) (teq (hnn : nn = nb)).1 17 (by decide) rfl <| zal X0 Hb (D65 6) rfl rfl <| st2 _ ?_
    refine st3 _ ?_
    exact k
  exact own_oR X3 Hb Bd.notSynchronized Bd.returns rfl w4 (D65 9) e3 (by decide) (by decide) ⟨b2, kb, rfl, N0, K, V_b2, z_b2, g_b2⟩
def L61 : List (Nat × Instr × Nat) := [(0, .aload_n 0, 1), (1, .invokespecial 1, 3), (4, .aload_n 1, 1), (5, .invokevirtual 552, 3), (8, .astore_n 3, 1), (9, .aload_n 1, 1), (10, .invokevirtual 549, 3), (13, .istore 4, 2), (15, .aload_n 1, 1), (16, .invokevirtual 1047, 3), (19, .ifCond .eq 22, 3), (41, .getstatic 38, 3), (44, .ifCond .eq 35, 3), (47, .aload_n 1, 1), (48, .getfield 1048, 3), (51, .ifCond .eq 28, 3), (79, .aload_n 0, 1), (80, .iconst 1, 1), (81, .putfield 15, 3), (84, .aload_n 0, 1), (85, .aload_n 3, 1), (86, .iconst 0, 1), (87, .iload 4, 2), (89, .iconst 1, 1), (90, .ishl, 1), (91, .invokestatic 54, 3), (94, .putfield 9, 3), (97, .return_, 1)]
theorem D61 : ∀ k : Nat, own_PP jdk_42_method_150_code L61[k]? := own_dd (by decide +kernel)
theorem pd32 : parseMethodDescriptor "([BII)[B" = some ⟨[(.array .byte), .int, .int], some (.array .byte)⟩ := by decide +kernel
theorem rm61 (hw : own_W a0 Z) (a sb tt : Addr) (kt : ClassId) (n : Nat) (vv : List Value) {zc : Int32} {fm : Value} {fn : Value} {u8 : Addr} {h0 : Heap} {n0 : Nat} (O0 : Old Z n0 h0) (SU : own_SU Z zc fm fn u8) (E_a : Exa Z h0 a "java/lang/String") (F_v_a : Fld Z h0 a "java/lang/String" "value" "[B" .null) (F_c_a : Fld Z h0 a "java/lang/String" "coder" "B" (.int 0)) (E_sb : Exa Z h0 sb "java/lang/StringBuilder") (F_v_sb : Fld Z h0 sb "java/lang/AbstractStringBuilder" "value" "[B" (.ref tt)) (F_c_sb : Fld Z h0 sb "java/lang/AbstractStringBuilder" "coder" "B" (.int 1)) (F_n_sb : Fld Z h0 sb "java/lang/AbstractStringBuilder" "count" "I" (.int (Int32.ofNat n))) (F_m_sb : Fld Z h0 sb "java/lang/AbstractStringBuilder" "maybeLatin1" "Z" (.int 0)) (V_tt : Arv Z h0 tt kt .byte (Int32.ofNat (2 * n)) vv (.int 0)) (E_tt : Exa Z h0 tt "[B") (hB3 : n ≤ 3) (g_a : n0 ≤ a) : own_M l own_n61 jdk_42_method_150_code 5 none (own_rm 2 1 6 29) Z h0 #[.ref a, .ref sb, .null] (fun v h L => ∃ z : Addr, ∃ kz : ClassId, v = none ∧ Fr n0 L ∧ Keep h0 h [a] ∧ Fld Z h a "java/lang/String" "value" "[B" (.ref z) ∧ Fld Z h a "java/lang/String" "coder" "B" (.int 1) ∧ Arv Z h z kz .byte (Int32.ofNat (2 * n)) vv (.int 0) ∧ h0.size ≤ z ∧ n0 ≤ z) := by
  refine own_body (L0 := #[.val (.ref a), .val (.ref sb), .val .null, .unset, .unset]) (plainFor_of_name pn_java_lang_String) rfl rfl ?_
  intro p e s m below meth c s₁ f0 Bd hx Hb hml hZ hown X0 e0 pre0
  have hby := Hb.2
  have hnm := (name_of_methodNamed Bd.named Bd.method).1
  have W := own_q hw
  have N0 := Fr.nil n0
  have O := O0
  have K := Keep.refl h0 [a]
  obtain ⟨T1, X1, e1, st1⟩ := initO X0 hx hZ hown (W 16 rfl) (W 17 rfl) (W 18 rfl) e0 (g := (mkF m 1 #[.val (.ref a), .val (.ref sb), .val .null, .unset, .unset] [.ref a])) rfl (by rw [hml]; rfl) rfl (hb hby (D61 1)) (by decide) (W := 0) (by show 2 * 0 + _ ≤ _; exact Nat.le_of_eq rfl) (by decide)
  obtain ⟨_, T2, Lc2, X2, hQ2, st2⟩ := own_cV X1 Hb hZ hown hml (L := #[.val (.ref a), .val (.ref sb), .val .null, .unset, .unset]) rfl (rm62 hw sb tt O F_v_sb) (W 303 rfl) (W 304 rfl) (W 306 rfl) (W 305 rfl) (W 199 rfl) (W 307 rfl) pd28 e1 E_sb (D61 3) [] [] 0
  obtain ⟨rfl, N2q, eh2⟩ := hQ2
  have N2 := Fr.app N0 N2q
  obtain ⟨cq3, kq3, q3a, q3b, q3c⟩ := isOf hZ eh2 E_sb
  obtain ⟨_, _, ⟨T3, L3, k3, n3⟩, -, X3, ⟨Lc3, hQ3, l3, y3, z3⟩, st3⟩ := X2.virtualBack hx (y := own_n64) (z := own_n63) hown (mvT hZ (W 308 rfl)) (mvT hZ (W 309 rfl)) (own_nf (args := #[]) (mvT hZ (W 233 rfl)) rfl) (mvT hZ (W 311 rfl)) (mvT hZ (W 312 rfl)) (by decide) (own_bk (W := 0) (rm63 hw sb (Int32.ofNat n) O E_sb F_n_sb) hZ (W 313 rfl) (W 191 rfl) (by decide) (by decide)) q3a q3c (g := (mkF m 10 #[.val (.ref a), .val (.ref sb), .val .null, .val (.ref tt), .unset] [.ref sb])) rfl (by rw [hml]; rfl) (Steps.refl _) (argsL := []) (rest := []) (lenOf pd10 rfl) rfl (by show 2 * 0 + _ ≤ _; exact Nat.le_of_eq rfl) (hb hby (D61 6)) (fun _ _ => ⟨rfl, eh2, (by decide : 0 + 0 ≤ _), (by decide : 0 + 0 ≤ _)⟩)
  dsimp only [Pt.U, Pt.locs, Pt.cells, Pt.slots] at X3 l3 y3 z3 st3 hQ3
  have X3 := own_un X3 l3 y3 z3
  obtain ⟨rfl, N3q, eh3⟩ := hQ3
  have N3 := Fr.app N2 N3q
  obtain ⟨_, T4, Lc4, X4, hQ4, st4⟩ := own_cV X3 Hb hZ hown hml (L := #[.val (.ref a), .val (.ref sb), .val .null, .val (.ref tt), .val (.int (Int32.ofNat n))]) rfl (rm47_U hw sb O SU F_c_sb) (W 316 rfl) (W 242 rfl) (W 244 rfl) (W 243 rfl) (W 199 rfl) (W 245 rfl) pd9 eh3 E_sb (D61 9) [] [] 0
  obtain ⟨rfl, N4q, eh4⟩ := hQ4
  have N4 := Fr.app N3 N4q
  obtain ⟨T5, X5, e5, st5⟩ := getS2 X4 hx hZ hown (host := "") (Or.inl (W 19 rfl)) Via.refl eh4 (SU.2.2.2.1.ext O.2) (g := (mkF m 41 #[.val (.ref a), .val (.ref sb), .val .null, .val (.ref tt), .val (.int (Int32.ofNat n))] [])) rfl (hb hby (D61 11))
  obtain ⟨T6, X6, e6, st6⟩ := getF X5 hx hZ hown (host := "") (Or.inl (W 317 rfl)) Via.refl e5 F_m_sb (g := (mkF m 48 #[.val (.ref a), .val (.ref sb), .val .null, .val (.ref tt), .val (.int (Int32.ofNat n))] [.ref sb])) rfl rfl (hb hby (D61 14))
  have ne_sb_a : sb ≠ a := (Exa.ne E_sb E_a (by decide))
  have ne_tt_a : tt ≠ a := (Exa.ne E_tt E_a (by decide))
  obtain ⟨T7, h7, X7, e7, W7, st7⟩ := putFN X6 hx hZ hown (W 31 rfl) Via.refl e6 F_c_a E_a (Or.inr ⟨(W 32 rfl), rfl, hnm⟩) (W 7 rfl) (ty := .byte) (v' := (.int 1)) (by decide) rfl rfl (g := (mkF m 81 #[.val (.ref a), .val (.ref sb), .val .null, .val (.ref tt), .val (.int (Int32.ofNat n))] [.int 1, .ref a])) rfl rfl (hb hby (D61 18))
  have F_c_a := F_c_a.same W7
  have E_a := E_a.wr W7
  have F_v_a := F_v_a.other W7 (Or.inr (slot_ne (Or.inr (W 34 rfl)) (Or.inr (W 32 rfl)) (by decide) (t := (.array .byte)) (t' := .byte) (by decide) (by decide)))
  have E_sb := E_sb.wr W7
  have F_v_sb := F_v_sb.other W7 (Or.inl ne_sb_a)
  have F_c_sb := F_c_sb.other W7 (Or.inl ne_sb_a)
  have F_n_sb := F_n_sb.other W7 (Or.inl ne_sb_a)
  have F_m_sb := F_m_sb.other W7 (Or.inl ne_sb_a)
  have V_tt := V_tt.other W7 ne_tt_a
  have E_tt := E_tt.wr W7
  have O := O.wr W7 g_a
  have K := K.wr W7 (Or.inl (List.mem_of_getElem? (i := 0) rfl))
  have N7 := Fr.snoc X7 N4 g_a
  have lt8_a := E_a.lt
  have lt8_sb := E_sb.lt
  have lt8_tt := V_tt.lt
  obtain ⟨_, T8, Lc8, X8, hQ8, st8⟩ := own_cS X7 Hb hZ hown hml (L := #[.val (.ref a), .val (.ref sb), .val .null, .val (.ref tt), .val (.int (Int32.ofNat n))]) rfl (rm65 hw tt ((Int32.ofNat n) <<< ((1 : Int32) &&& 31)) kt (Int32.ofNat (2 * n)) vv O V_tt E_tt (own_nq3 n (by omega)).2.2.1 (own_nq3 n (by omega)).2.2.2.2.2.1) (W 319 rfl) (W 320 rfl) (W 145 rfl) (W 321 rfl) pd32 e7 (D61 25) [.ref tt, .int 0, (.int ((Int32.ofNat n) <<< ((1 : Int32) &&& 31)))] [.ref a] 1
  obtain ⟨z_8, kz_8, rfl, N8q, K8, V_z_c8, gz_8, gn_8⟩ := hQ8
  have N8 := Fr.app N7 N8q
  have E_a := E_a.keep K8
  have F_v_a := F_v_a.keep K8 nin0
  have F_c_a := F_c_a.keep K8 nin0
  have E_sb := E_sb.keep K8
  have F_v_sb := F_v_sb.keep K8 nin0
  have F_c_sb := F_c_sb.keep K8 nin0
  have F_n_sb := F_n_sb.keep K8 nin0
  have F_m_sb := F_m_sb.keep K8 nin0
  have V_tt := V_tt.keep K8 nin0
  have E_tt := E_tt.keep K8
  have ne_a_z_8 : a ≠ z_8 := Nat.ne_of_lt (Nat.lt_of_lt_of_le lt8_a gz_8)
  have ne_sb_z_8 : sb ≠ z_8 := Nat.ne_of_lt (Nat.lt_of_lt_of_le lt8_sb gz_8)
  have ne_tt_z_8 : tt ≠ z_8 := Nat.ne_of_lt (Nat.lt_of_lt_of_le lt8_tt gz_8)
  have g_z_8 := gn_8
  have z_z_8 : h0.size ≤ z_8 := Nat.le_trans K.1 gz_8
  have O := O.keep K8 all0
  have K := K.trans K8 all0
  obtain ⟨T9, h9, X9, e9, W9, st9⟩ := putF X8 hx hZ hown (host := "") (Or.inl (W 33 rfl)) Via.refl rfl F_v_a E_a (Or.inr ⟨(W 34 rfl), rfl, hnm⟩) (W 7 rfl) (ty := (.array .byte)) (by decide) rfl rfl (g := (mkF m 94 #[.val (.ref a), .val (.ref sb), .val .null, .val (.ref tt), .val (.int (Int32.ofNat n))] [.ref z_8, .ref a])) rfl rfl (hb hby (D61 26))
  have F_v_a := F_v_a.same W9
  have E_a := E_a.wr W9
  have F_c_a := F_c_a.other W9 (Or.inr (slot_ne (Or.inr (W 32 rfl)) (Or.inr (W 34 rfl)) (by decide) (t := .byte) (t' := (.array .byte)) (by decide) (by decide)))
  have E_sb := E_sb.wr W9
  have F_v_sb := F_v_sb.other W9 (Or.inl ne_sb_a)
  have F_c_sb := F_c_sb.other W9 (Or.inl ne_sb_a)
  have F_n_sb := F_n_sb.other W9 (Or.inl ne_sb_a)
  have F_m_sb := F_m_sb.other W9 (Or.inl ne_sb_a)
  have V_tt := V_tt.other W9 ne_tt_a
  have E_tt := E_tt.wr W9
  have V_z_c8 := V_z_c8.other W9 (Ne.symm ne_a_z_8)
  have O := O.wr W9 g_a
  have K := K.wr W9 (Or.inl (List.mem_of_getElem? (i := 0) rfl))
  have N9 := Fr.snoc X9 N8 g_a
  have w10 : own_Go p e below f0 T9 m 97 #[.val (.ref a), .val (.ref sb), .val .null, .val (.ref tt), .val (.int (Int32.ofNat n))] [] := fun t k => by
    refine pre0 t ?_
    refine zal X0 Hb (D61 0) rfl rfl <| st1 _ <| zal X1 Hb (D61 2) rfl rfl <| st2 _ <| zas X2 Hb (L' := #[.val (.ref a), .val (.ref sb), .val .null, .val (.ref tt), .unset]) (D61 4) rfl rfl <| zal X2 Hb (D61 5) rfl rfl <| st3.trans <| ziS X3 Hb (L' := #[.val (.ref a), .val (.ref sb), .val .null, .val (.ref tt), .val (.int (Int32.ofNat n))]) (D61 7) rfl ?_
    refine zal X3 Hb (D61 8) rfl rfl <| st4 _ <| ziy X4 Hb (D61 10) ((if0 _ _).trans (teq (rfl : (0 : Int32) = (0 : Int32))).1) 41 (by decide) rfl <| st5 _ <| zin X5 Hb (D61 12) ((if0 _ _).trans (feq (SU.2.2.2.2.2.2.2.2.1 : ¬ (zc = (0 : Int32)))).1) <| zal X5 Hb (D61 13) rfl rfl <| st6 _ <| ziy X6 Hb (D61 15) ((if0 _ _).trans (teq (rfl : (0 : Int32) = (0 : Int32))).1) 79 (by decide) rfl ?_
    refine zal X6 Hb (D61 16) rfl rfl <| zic X6 Hb (D61 17) 1 rfl <| st7 _ <| zal X7 Hb (D61 19) rfl rfl <| zal X7 Hb (D61 20) rfl rfl <| zic X7 Hb (D61 21) 0 rfl <| ziL X7 Hb (D61 22) rfl <| zic X7 Hb (D61 23) 1 rfl ?_
    refine zsl X7 Hb (D61 24) <| st8 _ <| st9 _ ?_
    exact k
  exact own_oV X9 Hb Bd.notSynchronized Bd.returns w10 (D61 27) e9 (by decide) (by decide) ⟨z_8, kz_8, rfl, N9, K, F_v_a, F_c_a, V_z_c8, z_z_8, g_z_8⟩
def L60 : List (Nat × Instr × Nat) := [(0, .aload_n 0, 1), (1, .aload_n 1, 1), (2, .aconst_null, 1), (3, .invokespecial 489, 3), (6, .return_, 1)]
theorem D60 : ∀ k : Nat, own_PP jdk_42_method_53_code L60[k]? := own_dd (by decide +kernel)
theorem pd33 : parseMethodDescriptor "(Ljava/lang/AbstractStringBuilder;Ljava/lang/Void;)V" = some ⟨[(.object "java/lang/AbstractStringBuilder"), (.object "java/lang/Void")], none⟩ := by decide +kernel
theorem rm60 (hw : own_W a0 Z) (a sb tt : Addr) (kt : ClassId) (n : Nat) (vv : List Value) {zc : Int32} {fm : Value} {fn : Value} {u8 : Addr} {h0 : Heap} {n0 : Nat} (O0 : Old Z n0 h0) (SU : own_SU Z zc fm fn u8) (E_a : Exa Z h0 a "java/lang/String") (F_v_a : Fld Z h0 a "java/lang/String" "value" "[B" .null) (F_c_a : Fld Z h0 a "java/lang/String" "coder" "B" (.int 0)) (E_sb : Exa Z h0 sb "java/lang/StringBuilder") (F_v_sb : Fld Z h0 sb "java/lang/AbstractStringBuilder" "value" "[B" (.ref tt)) (F_c_sb : Fld Z h0 sb "java/lang/AbstractStringBuilder" "coder" "B" (.int 1)) (F_n_sb : Fld Z h0 sb "java/lang/AbstractStringBuilder" "count" "I" (.int (Int32.ofNat n))) (F_m_sb : Fld Z h0 sb "java/lang/AbstractStringBuilder" "maybeLatin1" "Z" (.int 0)) (V_tt : Arv Z h0 tt kt .byte (Int32.ofNat (2 * n)) vv (.int 0)) (E_tt : Exa Z h0 tt "[B") (hB3 : n ≤ 3) (g_a : n0 ≤ a) : own_M l own_n60 jdk_42_method_53_code 2 none (own_rm 3 1 6 45) Z h0 #[.ref a, .ref sb] (fun v h L => ∃ z : Addr, ∃ kz : ClassId, v = none ∧ Fr n0 L ∧ Keep h0 h [a] ∧ Fld Z h a "java/lang/String" "value" "[B" (.ref z) ∧ Fld Z h a "java/lang/String" "coder" "B" (.int 1) ∧ Arv Z h z kz .byte (Int32.ofNat (2 * n)) vv (.int 0) ∧ h0.size ≤ z ∧ n0 ≤ z) := by
  refine own_body (L0 := #[.val (.ref a), .val (.ref sb)]) (plainFor_of_name pn_java_lang_String) rfl rfl ?_
  intro p e s m below meth c s₁ f0 Bd hx Hb hml hZ hown X0 e0 pre0
  have W := own_q hw
  have N0 := Fr.nil n0
  have O := O0
  have K := Keep.refl h0 [a]
  have ne_sb_a : sb ≠ a := (Exa.ne E_sb E_a (by decide))
  have ne_tt_a : tt ≠ a := (Exa.ne E_tt E_a (by decide))
  have lt1_a := E_a.lt
  have lt1_sb := E_sb.lt
  have lt1_tt := V_tt.lt
  obtain ⟨_, T1, Lc1, X1, hQ1, st1⟩ := own_cI X0 Hb hZ hown hml (L := #[.val (.ref a), .val (.ref sb)]) rfl (rm61 hw a sb tt kt n vv O SU E_a F_v_a F_c_a E_sb F_v_sb F_c_sb F_n_sb F_m_sb V_tt E_tt hB3 g_a) (W 300 rfl) (W 301 rfl) (W 8 rfl) (W 302 rfl) pd33 e0 (D60 3) a [.ref sb, .null] [] 0
  obtain ⟨z_1, kz_1, rfl, N1q, K1, F_v_a_c1, F_c_a_c1, V_z_c1, gz_1, gn_1⟩ := hQ1
  have N1 := Fr.app N0 N1q
  have E_a := E_a.keep K1
  have E_sb := E_sb.keep K1
  have F_v_sb := F_v_sb.keep K1 (ninS ne_sb_a nin0)
  have F_c_sb := F_c_sb.keep K1 (ninS ne_sb_a nin0)
  have F_n_sb := F_n_sb.keep K1 (ninS ne_sb_a nin0)
  have F_m_sb := F_m_sb.keep K1 (ninS ne_sb_a nin0)
  have V_tt := V_tt.keep K1 (ninS ne_tt_a nin0)
  have E_tt := E_tt.keep K1
  have ne_a_z_1 : a ≠ z_1 := Nat.ne_of_lt (Nat.lt_of_lt_of_le lt1_a gz_1)
  have ne_sb_z_1 : sb ≠ z_1 := Nat.ne_of_lt (Nat.lt_of_lt_of_le lt1_sb gz_1)
  have ne_tt_z_1 : tt ≠ z_1 := Nat.ne_of_lt (Nat.lt_of_lt_of_le lt1_tt gz_1)
  have g_z_1 := gn_1
  have z_z_1 : h0.size ≤ z_1 := Nat.le_trans K.1 gz_1
  have O := O.keep K1 (allS g_a all0)
  have K := K.trans K1 (allS (Or.inl (List.mem_of_getElem? (i := 0) rfl)) all0)
  have w2 : own_Go p e below f0 T1 m 6 #[.val (.ref a), .val (.ref sb)] [] := fun t k => by
    refine pre0 t ?_
    refine zal X0 Hb (D60 0) rfl rfl <| zal X0 Hb (D60 1) rfl rfl <| znu X0 Hb (D60 2) <| st1 _ ?_
    exact k
  exact own_oV X1 Hb Bd.notSynchronized Bd.returns w2 (D60 4) rfl (by decide) (by decide) ⟨z_1, kz_1, rfl, N1, K, F_v_a_c1, F_c_a_c1, V_z_c1, z_z_1, g_z_1⟩
def L59 : List (Nat × Instr × Nat) := [(0, .new 18, 3), (3, .dup, 1), (4, .aload_n 0, 1), (5, .invokespecial 137, 3), (8, .areturn, 1)]
theorem D59 : ∀ k : Nat, own_PP jdk_67_method_42_code L59[k]? := own_dd (by decide +kernel)
theorem pd34 : parseMethodDescriptor "(Ljava/lang/StringBuilder;)V" = some ⟨[(.object "java/lang/StringBuilder")], none⟩ := by decide +kernel
theorem rm59 (hw : own_W a0 Z) (sb tt : Addr) (kt : ClassId) (n : Nat) (vv : List Value) {zc : Int32} {fm : Value} {fn : Value} {u8 : Addr} {h0 : Heap} {n0 : Nat} (O0 : Old Z n0 h0) (SU : own_SU Z zc fm fn u8) (E_sb : Exa Z h0 sb "java/lang/StringBuilder") (F_v_sb : Fld Z h0 sb "java/lang/AbstractStringBuilder" "value" "[B" (.ref tt)) (F_c_sb : Fld Z h0 sb "java/lang/AbstractStringBuilder" "coder" "B" (.int 1)) (F_n_sb : Fld Z h0 sb "java/lang/AbstractStringBuilder" "count" "I" (.int (Int32.ofNat n))) (F_m_sb : Fld Z h0 sb "java/lang/AbstractStringBuilder" "maybeLatin1" "Z" (.int 0)) (V_tt : Arv Z h0 tt kt .byte (Int32.ofNat (2 * n)) vv (.int 0)) (E_tt : Exa Z h0 tt "[B") (hB3 : n ≤ 3) : own_M l own_n59 jdk_67_method_42_code 1 (some (.object "java/lang/String")) (own_rm 4 2 10 59) Z h0 #[.ref sb] (fun v h L => ∃ z : Addr, ∃ y : Addr, ∃ ky : ClassId, v = some (.ref z) ∧ Fr n0 L ∧ Keep h0 h [] ∧ Exa Z h z "java/lang/String" ∧ Fld Z h z "java/lang/String" "value" "[B" (.ref y) ∧ Fld Z h z "java/lang/String" "coder" "B" (.int 1) ∧ Arv Z h y ky .byte (Int32.ofNat (2 * n)) vv (.int 0) ∧ h0.size ≤ z ∧ n0 ≤ z ∧ h0.size ≤ y ∧ n0 ≤ y) := by
  refine own_body (L0 := #[.val (.ref sb)]) (plainFor_of_name pn_java_lang_StringBuilder) rfl rfl ?_
  intro p e s m below meth c s₁ f0 Bd hx Hb hml hZ hown X0 e0 pre0
  have hby := Hb.2
  have W := own_q hw
  have N0 := Fr.nil n0
  have O := O0
  have K := Keep.refl h0 []
  obtain ⟨T1, h1, X1, e1, E1, A1, D1, -, st1⟩ := newO X0 hx hZ hown (W 296 rfl) (W 7 rfl) (W 8 rfl) e0 (g := (mkF m 0 #[.val (.ref sb)] [])) rfl (hb hby (D59 0)) (by decide) (by decide)
  obtain ⟨b1, gq1⟩ : ∃ z, z = Array.size h0 := ⟨_, rfl⟩
  rw [← gq1] at A1 D1 st1
  have ne_sb_b1 : sb ≠ b1 := Nat.ne_of_lt (Nat.lt_of_lt_of_le E_sb.lt (Nat.le_of_eq gq1.symm))
  have ne_tt_b1 : tt ≠ b1 := Nat.ne_of_lt (Nat.lt_of_lt_of_le V_tt.lt (Nat.le_of_eq gq1.symm))
  have g_b1 : n0 ≤ b1 := Nat.le_trans (O.1 ▸ O.2.1) (Nat.le_of_eq gq1.symm)
  have z_b1 : h0.size ≤ b1 := Nat.le_trans K.1 (Nat.le_of_eq gq1.symm)
  have E_sb := E_sb.ext E1
  have F_v_sb := F_v_sb.ext E1
  have F_c_sb := F_c_sb.ext E1
  have F_n_sb := F_n_sb.ext E1
  have F_m_sb := F_m_sb.ext E1
  have V_tt := V_tt.ext E1
  have E_tt := E_tt.ext E1
  have O := O.ext E1
  have K := K.ext E1
  have F_coder_b1 : Fld Z h1 b1 "java/lang/String" "coder" "B" (.int 0) := D1 (Or.inr (W 32 rfl)) (ty := .byte) (by decide)
  have F_value_b1 : Fld Z h1 b1 "java/lang/String" "value" "[B" .null := D1 (Or.inr (W 34 rfl)) (ty := (.array .byte)) (by decide)
  have lt2_sb := E_sb.lt
  have lt2_tt := V_tt.lt
  have lt2_b1 := A1.lt
  obtain ⟨_, T2, Lc2, X2, hQ2, st2⟩ := own_cI X1 Hb hZ hown hml (L := #[.val (.ref sb)]) rfl (rm60 hw b1 sb tt kt n vv O SU A1 F_value_b1 F_coder_b1 E_sb F_v_sb F_c_sb F_n_sb F_m_sb V_tt E_tt hB3 g_b1) (W 297 rfl) (W 298 rfl) (W 8 rfl) (W 299 rfl) pd34 e1 (D59 3) b1 [.ref sb] [.ref b1] 1
  obtain ⟨z_2, kz_2, rfl, N2q, K2, F_v_a_c2, F_c_a_c2, V_z_c2, gz_2, gn_2⟩ := hQ2
  have N2 := Fr.app N0 N2q
  have E_sb := E_sb.keep K2
  have F_v_sb := F_v_sb.keep K2 (ninS ne_sb_b1 nin0)
  have F_c_sb := F_c_sb.keep K2 (ninS ne_sb_b1 nin0)
  have F_n_sb := F_n_sb.keep K2 (ninS ne_sb_b1 nin0)
  have F_m_sb := F_m_sb.keep K2 (ninS ne_sb_b1 nin0)
  have V_tt := V_tt.keep K2 (ninS ne_tt_b1 nin0)
  have E_tt := E_tt.keep K2
  have A1 := A1.keep K2
  have ne_sb_z_2 : sb ≠ z_2 := Nat.ne_of_lt (Nat.lt_of_lt_of_le lt2_sb gz_2)
  have ne_tt_z_2 : tt ≠ z_2 := Nat.ne_of_lt (Nat.lt_of_lt_of_le lt2_tt gz_2)
  have ne_b1_z_2 : b1 ≠ z_2 := Nat.ne_of_lt (Nat.lt_of_lt_of_le lt2_b1 gz_2)
  have g_z_2 := gn_2
  have z_z_2 : h0.size ≤ z_2 := Nat.le_trans K.1 gz_2
  have O := O.keep K2 (allS g_b1 all0)
  have K := K.trans K2 (allS (Or.inr z_b1) all0)
  have w3 : own_Go p e below f0 T2 m 8 #[.val (.ref sb)] [.ref b1] := fun t k => by
    refine pre0 t ?_
    refine st1 _ <| zdu X1 Hb (D59 1) rfl <| zal X1 Hb (D59 2) rfl rfl <| st2 _ ?_
    exact k
  exact own_oR X2 Hb Bd.notSynchronized Bd.returns rfl w3 (D59 4) rfl (by decide) (by decide) ⟨b1, z_2, kz_2, rfl, N2, K, A1, F_v_a_c2, F_c_a_c2, V_z_c2, z_b1, g_b1, z_z_2, g_z_2⟩
def own_fix : List Int32 → List Int32
  | [] => []
  | [c] => [if own_is c = 0 then c else 65533]
  | c :: d :: r => if own_is c = 0 then c :: own_fix (d :: r) else if own_hh c = 0 then 65533 :: own_fix (d :: r) else if own_ll d = 0 then 65533 :: own_fix (d :: r) else c :: d :: own_fix r
theorem own_fxl : ∀ cs : List Int32, (own_fix cs).length = cs.length
  | [] => rfl
  | [c] => rfl
  | c :: d :: r => by
    have h1 := own_fxl (d :: r)
    have h2 := own_fxl r
    unfold own_fix
    split
    · simpa using h1
    · split
      · simpa using h1
      · split
        · simpa using h1
        · simpa using h2
theorem own_i4 : ∀ i < 4, ¬ Int32.ofNat i < (0 : Int32) := by decide +kernel
theorem own_fx0 : ∀ (r : List Int32) (j : Int32) (i : Nat), j = Int32.ofNat i → i + r.length ≤ 3 → own_nx j r < (0 : Int32) → own_fix r = r
  | [], j, i, hj, h, hu => rfl
  | [c], j, i, hj, h, hu => by
    by_cases q : own_is c = 0
    · simp [own_fix, q]
    · simp only [own_nx, q, if_false] at hu
      exact absurd (hj ▸ hu) (own_i4 i (by simp at h; omega))
  | c :: d :: r, j, i, hj, h, hu => by
    simp only [List.length_cons] at h
    have hn : ¬ j < (0 : Int32) := by rw [hj]; exact own_i4 i (by omega)
    by_cases q : own_is c = 0
    · rw [own_x1 q] at hu
      simp [own_fix, q, own_fx0 (d :: r) _ (i + 1) (own_sj hj) (by simp only [List.length_cons]; omega) hu]
    · by_cases q1 : own_hh c = 0
      · rw [own_x3 q (Or.inl q1)] at hu
        exact absurd hu hn
      · by_cases q2 : own_ll d = 0
        · rw [own_x3 q (Or.inr fun d' r' u => by cases u; exact q2)] at hu
          exact absurd hu hn
        · rw [own_x2 q q1 q2] at hu
          simp [own_fix, q, q1, q2, own_fx0 r _ (i + 2) (by rw [hj, Int32.ofNat_add]; rfl) (by omega) hu]
theorem own_fxs : ∀ (r : List Int32) (j : Int32) (i : Nat), j = Int32.ofNat i → i + r.length ≤ 3 → ¬ own_nx j r < (0 : Int32) → ∃ k, k < r.length ∧ own_nx j r = Int32.ofNat (i + k) ∧ own_fix r = r.take k ++ (65533 : Int32) :: own_fix (r.drop (k + 1))
  | [], j, i, hj, h, hu => absurd (show own_nx j [] < (0 : Int32) from (by decide : (-1 : Int32) < 0)) hu
  | [c], j, i, hj, h, hu => by
    by_cases q : own_is c = 0
    · simp only [own_nx, q, if_true] at hu
      exact absurd (by decide) hu
    · exact ⟨0, by simp, by simp [own_nx, q, hj], by simp [own_fix, q]⟩
  | c :: d :: r, j, i, hj, h, hu => by
    simp only [List.length_cons] at h
    by_cases q : own_is c = 0
    · rw [own_x1 q] at hu ⊢
      obtain ⟨k, h1, h2, hB3⟩ := own_fxs (d :: r) _ (i + 1) (own_sj hj) (by simp only [List.length_cons]; omega) hu
      refine ⟨k + 1, by simpa using h1, by rw [h2]; congr 1; omega, ?_⟩
      rw [own_fix, if_pos q, hB3]
      rfl
    · by_cases q1 : own_hh c = 0
      · exact ⟨0, by simp, by rw [own_x3 q (Or.inl q1)]; exact hj, by simp [own_fix, q, q1]⟩
      · by_cases q2 : own_ll d = 0
        · exact ⟨0, by simp, by rw [own_x3 q (Or.inr fun d' r' u => by cases u; exact q2)]; exact hj, by simp [own_fix, q, q1, q2]⟩
        · rw [own_x2 q q1 q2] at hu ⊢
          obtain ⟨k, h1, h2, hB3⟩ := own_fxs r _ (i + 2) (by rw [hj, Int32.ofNat_add]; rfl) (by omega) hu
          refine ⟨k + 2, by simp only [List.length_cons]; omega, by rw [h2]; congr 1; omega, ?_⟩
          rw [own_fix, if_neg q, if_neg q1, if_neg q2, hB3]
          rfl
def own_IN (cs ys : List Int32) : Prop := ys.length ≤ cs.length ∧ ys ++ own_fix (cs.drop ys.length) = own_fix cs
theorem own_turn {cs ys : List Int32} (hB3 : cs.length ≤ 3) (hI : own_IN cs ys) (hu : ¬ own_nx (Int32.ofNat ys.length) (cs.drop ys.length) < (0 : Int32)) : ∃ ee, own_nx (Int32.ofNat ys.length) (cs.drop ys.length) = Int32.ofNat ee ∧ ys.length ≤ ee ∧ ee < cs.length ∧ (ys ++ own_TK cs ys.length ee).length = ee ∧ own_IN cs ((ys ++ own_TK cs ys.length ee) ++ [(65533 : Int32)]) := by
  obtain ⟨h1, h2⟩ := hI
  obtain ⟨k, g1, g2, g3⟩ := own_fxs (cs.drop ys.length) _ ys.length rfl (by rw [List.length_drop]; omega) hu
  rw [List.length_drop] at g1
  have hl : (ys ++ own_TK cs ys.length (ys.length + k)).length = ys.length + k := by
    rw [own_TK, List.length_append, List.length_take, List.length_drop]
    omega
  refine ⟨ys.length + k, g2, by omega, by omega, hl, ?_, ?_⟩
  · rw [List.length_append, hl]
    show ys.length + k + 1 ≤ _
    omega
  · rw [List.length_append, hl, show ys.length + k + [(65533 : Int32)].length = ys.length + (k + 1) from rfl, ← h2, g3, List.drop_drop, own_TK, show ys.length + k - ys.length = k by omega]
    simp [List.append_assoc]
theorem own_fin {cs ys : List Int32} (hB3 : cs.length ≤ 3) (hI : own_IN cs ys) (hu : own_nx (Int32.ofNat ys.length) (cs.drop ys.length) < (0 : Int32)) : ys ++ own_TK cs ys.length cs.length = own_fix cs := by
  obtain ⟨h1, h2⟩ := hI
  have q := own_fx0 (cs.drop ys.length) _ ys.length rfl (by rw [List.length_drop]; omega) hu
  rw [q] at h2
  rw [← h2, own_TK, List.take_of_length_le (by rw [List.length_drop]; omega)]
theorem own_SBU {n : Nat} {ys : List Int32} {cd nb : Int32} {lst : List Value} (h : own_SB n ys cd nb lst) (hc : cd = (1 : Int32)) : nb = Int32.ofNat (2 * n) ∧ lst = own_wb ys := by
  rcases h with ⟨h1, -⟩ | ⟨-, h1, h2⟩
  · rw [hc] at h1
    exact absurd h1 (by decide)
  · exact ⟨h1, h2⟩
def L13 : List (Nat × Instr × Nat) := [(0, .aload_n 0, 1), (1, .astore_n 1, 1), (2, .aload_n 0, 1), (3, .iconst 0, 1), (4, .invokestatic 31, 3), (7, .istore_n 2, 1), (8, .iload_n 2, 1), (9, .ifCond .lt 66, 3), (12, .new 35, 3), (15, .dup, 1), (16, .aload_n 0, 1), (17, .invokevirtual 37, 3), (20, .invokespecial 41, 3), (23, .astore_n 3, 1), (24, .iconst 0, 1), (25, .istore 4, 2), (27, .iload_n 2, 1), (28, .ifCond .lt 32, 3), (31, .aload_n 3, 1), (32, .aload_n 0, 1), (33, .iload 4, 2), (35, .iload_n 2, 1), (36, .invokevirtual 44, 3), (39, .ldc 48, 2), (41, .invokevirtual 49, 3), (44, .pop, 1), (45, .iload_n 2, 1), (46, .iconst 1, 1), (47, .iadd, 1), (48, .istore 4, 2), (50, .aload_n 0, 1), (51, .iload 4, 2), (53, .invokestatic 31, 3), (56, .istore_n 2, 1), (57, .goto (-30), 3), (60, .aload_n 3, 1), (61, .aload_n 0, 1), (62, .iload 4, 2), (64, .aload_n 0, 1), (65, .invokevirtual 37, 3), (68, .invokevirtual 44, 3), (71, .invokevirtual 52, 3), (74, .astore_n 1, 1), (75, .aload_n 1, 1), (76, .areturn, 1)]
theorem D13 : ∀ k : Nat, own_PP prog_16_method_3_code L13[k]? := own_dd (by decide +kernel)
theorem pd35 : parseMethodDescriptor "(Ljava/lang/String;I)I" = some ⟨[(.object "java/lang/String"), .int], some .int⟩ := by decide +kernel
theorem pd36 : parseMethodDescriptor "(Ljava/lang/CharSequence;II)Ljava/lang/StringBuilder;" = some ⟨[(.object "java/lang/CharSequence"), .int, .int], some (.object "java/lang/StringBuilder")⟩ := by decide +kernel
theorem pd37 : parseMethodDescriptor "(C)Ljava/lang/StringBuilder;" = some ⟨[.char], some (.object "java/lang/StringBuilder")⟩ := by decide +kernel
theorem pd38 : parseMethodDescriptor "()Ljava/lang/String;" = some ⟨[], some (.object "java/lang/String")⟩ := by decide +kernel
theorem rm13_U (hw : own_W a0 Z) (a tt : Addr) (kb : ClassId) (cs : List Int32) {zc : Int32} {fm : Value} {fn : Value} {u8 : Addr} {h0 : Heap} {n0 : Nat} (O0 : Old Z n0 h0) (SU : own_SU Z zc fm fn u8) (E_a : Exa Z h0 a "java/lang/String") (F_v_a : Fld Z h0 a "java/lang/String" "value" "[B" (.ref tt)) (F_c_a : Fld Z h0 a "java/lang/String" "coder" "B" (.int 1)) (V_tt : Arv Z h0 tt kb .byte (Int32.ofNat (2 * cs.length)) (own_wb cs) (.int 0)) (hB3 : cs.length ≤ 3) (hG : own_G cs) : own_M l own_n13 prog_16_method_3_code 5 (some (.object "java/lang/String")) (own_rm 9 11 59 139) Z h0 #[.ref a] (fun v h L => ∃ z : Addr, ∃ y : Addr, ∃ ky : ClassId, v = some (.ref z) ∧ Fr n0 L ∧ Keep h0 h [] ∧ Exa Z h z "java/lang/String" ∧ Fld Z h z "java/lang/String" "value" "[B" (.ref y) ∧ Fld Z h z "java/lang/String" "coder" "B" (.int 1) ∧ Arv Z h y ky .byte (Int32.ofNat (2 * cs.length)) (own_wb (own_fix cs)) (.int 0)) := by
  refine own_body (L0 := #[.val (.ref a), .unset, .unset, .unset, .unset]) (plainFor_of_name pn_com_example_gradual_reply_gradualreply_Utf8) rfl rfl ?_
  intro p e s m below meth c s₁ f0 Bd hx Hb hml hZ hown X0 e0 pre0
  have hby := Hb.2
  have W := own_q hw
  have N0 := Fr.nil n0
  have O := O0
  have K := Keep.refl h0 []
  obtain ⟨_, T1, Lc1, X1, hQ1, st1⟩ := own_cS X0 Hb hZ hown hml (L := #[.val (.ref a), .val (.ref a), .unset, .unset, .unset]) rfl (rm14_U hw a (0 : Int32) tt kb cs 0 O SU E_a F_v_a F_c_a V_tt rfl (Nat.zero_le _) hB3 hG (own_nq3 _ (by omega)).2.2.2.2.2.2) (W 62 rfl) (W 63 rfl) (W 48 rfl) (W 64 rfl) pd35 e0 (D13 4) [.ref a, .int 0] [] 0
  obtain ⟨rfl, N1q, eh1⟩ := hQ1
  have N1 := Fr.app N0 N1q
  have w2 : own_Go p e below f0 T1 m 8 #[.val (.ref a), .val (.ref a), .val (.int (own_nx (0 : Int32) (cs.drop 0))), .unset, .unset] [] := fun t k => by
    refine pre0 t ?_
    refine zal X0 Hb (D13 0) rfl rfl <| zas X0 Hb (L' := #[.val (.ref a), .val (.ref a), .unset, .unset, .unset]) (D13 1) rfl rfl <| zal X0 Hb (D13 2) rfl rfl <| zic X0 Hb (D13 3) 0 rfl <| st1 _ <| zis X1 Hb (L' := #[.val (.ref a), .val (.ref a), .val (.int (own_nx (0 : Int32) (cs.drop 0))), .unset, .unset]) (D13 5) rfl ?_
    exact k
  have w3 : own_Go p e below f0 T1 m 8 #[.val (.ref a), .val (.ref a), .val (.int (own_nx (Int32.ofNat ([] : List Int32).length) (cs.drop ([] : List Int32).length))), .unset, .unset] [] := by exact w2
  have w4 : own_Go p e below f0 T1 m 9 #[.val (.ref a), .val (.ref a), .val (.int (own_nx (Int32.ofNat ([] : List Int32).length) (cs.drop ([] : List Int32).length))), .unset, .unset] [(.int (own_nx (Int32.ofNat ([] : List Int32).length) (cs.drop ([] : List Int32).length)))] := fun t k => by
    refine w3 t ?_
    refine zil X1 Hb (D13 6) rfl ?_
    exact k
  by_cases hc9_5 : (own_nx (Int32.ofNat ([] : List Int32).length) (cs.drop ([] : List Int32).length)) < (0 : Int32)
  · have w6 : own_Go p e below f0 T1 m 76 #[.val (.ref a), .val (.ref a), .val (.int (own_nx (Int32.ofNat ([] : List Int32).length) (cs.drop ([] : List Int32).length))), .unset, .unset] [.ref a] := fun t k => by
      refine w4 t ?_
      refine ziy X1 Hb (D13 7) ((if0 _ _).trans (tlt hc9_5).1) 75 (by decide) rfl <| zal X1 Hb (D13 43) rfl rfl ?_
      exact k
    exact own_oR X1 Hb Bd.notSynchronized Bd.returns rfl w6 (D13 44) eh1 (by decide) (by decide) ⟨a, tt, kb, rfl, N1, K, E_a, F_v_a, F_c_a, (by rw [own_fx0 cs _ 0 rfl (by omega) hc9_5]; exact V_tt)⟩
  · obtain ⟨T7, h7, X7, e7, E7, A7, D7, -, st7⟩ := newO X1 hx hZ hown (W 189 rfl) (W 190 rfl) (W 191 rfl) eh1 (g := (mkF m 12 #[.val (.ref a), .val (.ref a), .val (.int (own_nx (Int32.ofNat ([] : List Int32).length) (cs.drop ([] : List Int32).length))), .unset, .unset] [])) rfl (hb hby (D13 8)) (by decide) (by decide)
    obtain ⟨b7, gq7⟩ : ∃ z, z = Array.size h0 := ⟨_, rfl⟩
    rw [← gq7] at A7 D7 st7
    have ne_a_b7 : a ≠ b7 := Nat.ne_of_lt (Nat.lt_of_lt_of_le E_a.lt (Nat.le_of_eq gq7.symm))
    have ne_tt_b7 : tt ≠ b7 := Nat.ne_of_lt (Nat.lt_of_lt_of_le V_tt.lt (Nat.le_of_eq gq7.symm))
    have g_b7 : n0 ≤ b7 := Nat.le_trans (O.1 ▸ O.2.1) (Nat.le_of_eq gq7.symm)
    have z_b7 : h0.size ≤ b7 := Nat.le_trans K.1 (Nat.le_of_eq gq7.symm)
    have E_a := E_a.ext E7
    have F_v_a := F_v_a.ext E7
    have F_c_a := F_c_a.ext E7
    have V_tt := V_tt.ext E7
    have O := O.ext E7
    have K := K.ext E7
    have F_value_b7 : Fld Z h7 b7 "java/lang/AbstractStringBuilder" "value" "[B" .null := D7 (Or.inl (W 204 rfl)) (ty := (.array .byte)) (by decide)
    have F_coder_b7 : Fld Z h7 b7 "java/lang/AbstractStringBuilder" "coder" "B" (.int 0) := D7 (Or.inl (W 206 rfl)) (ty := .byte) (by decide)
    have F_count_b7 : Fld Z h7 b7 "java/lang/AbstractStringBuilder" "count" "I" (.int 0) := D7 (Or.inl (W 229 rfl)) (ty := .int) (by decide)
    have F_maybeLatin1_b7 : Fld Z h7 b7 "java/lang/AbstractStringBuilder" "maybeLatin1" "Z" (.int 0) := D7 (Or.inl (W 318 rfl)) (ty := .boolean) (by decide)
    obtain ⟨_, T8, Lc8, X8, hQ8, st8⟩ := own_cV X7 Hb hZ hown hml (L := #[.val (.ref a), .val (.ref a), .val (.int (own_nx (Int32.ofNat ([] : List Int32).length) (cs.drop ([] : List Int32).length))), .unset, .unset]) rfl (rm15_U hw a tt kb (Int32.ofNat (2 * cs.length)) (own_wb cs) (Int32.ofNat cs.length) O SU E_a F_v_a F_c_a V_tt (own_nq3 _ (by omega)).2.2.2.2.2.2) (W 65 rfl) (W 66 rfl) (W 68 rfl) (W 67 rfl) (W 8 rfl) (W 69 rfl) pd10 e7 E_a (D13 11) [] [.ref b7, .ref b7] 2
    obtain ⟨rfl, N8q, eh8⟩ := hQ8
    have N8 := Fr.app N1 N8q
    have lt9_a := E_a.lt
    have lt9_tt := V_tt.lt
    have lt9_b7 := A7.lt
    obtain ⟨_, T9, Lc9, X9, hQ9, st9⟩ := own_cI X8 Hb hZ hown hml (L := #[.val (.ref a), .val (.ref a), .val (.int (own_nx (Int32.ofNat ([] : List Int32).length) (cs.drop ([] : List Int32).length))), .unset, .unset]) rfl (rm40 hw b7 (Int32.ofNat cs.length) cs.length O SU A7 F_value_b7 F_coder_b7 F_count_b7 F_maybeLatin1_b7 rfl hB3 g_b7) (W 192 rfl) (W 193 rfl) (W 191 rfl) (W 194 rfl) pd22 eh8 (D13 12) b7 [.int (Int32.ofNat cs.length)] [.ref b7] 1
    obtain ⟨z_9, kz_9, rfl, N9q, K9, F_v_a_c9, F_c_a_c9, F_n_a_c9, F_m_a_c9, V_z_c9, E_z_c9, gz_9, gn_9⟩ := hQ9
    have N9 := Fr.app N8 N9q
    have E_a := E_a.keep K9
    have F_v_a := F_v_a.keep K9 (ninS ne_a_b7 nin0)
    have F_c_a := F_c_a.keep K9 (ninS ne_a_b7 nin0)
    have V_tt := V_tt.keep K9 (ninS ne_tt_b7 nin0)
    have A7 := A7.keep K9
    have ne_a_z_9 : a ≠ z_9 := Nat.ne_of_lt (Nat.lt_of_lt_of_le lt9_a gz_9)
    have ne_tt_z_9 : tt ≠ z_9 := Nat.ne_of_lt (Nat.lt_of_lt_of_le lt9_tt gz_9)
    have ne_b7_z_9 : b7 ≠ z_9 := Nat.ne_of_lt (Nat.lt_of_lt_of_le lt9_b7 gz_9)
    have g_z_9 := gn_9
    have z_z_9 : h0.size ≤ z_9 := Nat.le_trans K.1 gz_9
    have O := O.keep K9 (allS g_b7 all0)
    have K := K.trans K9 (allS (Or.inr z_b7) all0)
    have w10 : own_Go p e below f0 T9 m 27 #[.val (.ref a), .val (.ref a), .val (.int (own_nx (Int32.ofNat ([] : List Int32).length) (cs.drop ([] : List Int32).length))), .val (.ref b7), .val (.int 0)] [] := fun t k => by
      refine w4 t ?_
      refine zin X1 Hb (D13 7) ((if0 _ _).trans (flt hc9_5).1) <| st7 _ <| zdu X7 Hb (D13 9) rfl <| zal X7 Hb (D13 10) rfl rfl <| st8 _ <| st9 _ <| zas X9 Hb (D13 13) rfl rfl <| zic X9 Hb (D13 14) 0 rfl ?_
      refine ziS X9 Hb (D13 15) rfl ?_
      exact k
    have w11 : own_Go p e below f0 T9 m 27 #[.val (.ref a), .val (.ref a), .val (.int (own_nx (Int32.ofNat ([] : List Int32).length) (cs.drop ([] : List Int32).length))), .val (.ref b7), .val (.int (Int32.ofNat ([] : List Int32).length))] [] := by exact w10
    have hI0 : own_IN cs ([] : List Int32) := ⟨Nat.zero_le _, rfl⟩
    obtain ⟨ea, hea, hlea, hlta, hvla, hI1⟩ := own_turn hB3 hI0 hc9_5
    have w12 : own_Go p e below f0 T9 m 31 #[.val (.ref a), .val (.ref a), .val (.int (own_nx (Int32.ofNat ([] : List Int32).length) (cs.drop ([] : List Int32).length))), .val (.ref b7), .val (.int (Int32.ofNat ([] : List Int32).length))] [] := fun t k => by
      refine w11 t ?_
      refine zil X9 Hb (D13 16) rfl <| zin X9 Hb (D13 17) ((if0 _ _).trans (flt (hc9_5 : ¬ ((own_nx (Int32.ofNat ([] : List Int32).length) (cs.drop ([] : List Int32).length)) < (0 : Int32)))).1) ?_
      exact k
    have w13 : own_Go p e below f0 T9 m 31 #[.val (.ref a), .val (.ref a), .val (.int (Int32.ofNat ea)), .val (.ref b7), .val (.int (Int32.ofNat ([] : List Int32).length))] [] := by rw [← hea]; exact w12
    have lt14_a := E_a.lt
    have lt14_tt := V_tt.lt
    have lt14_b7 := A7.lt
    obtain ⟨_, T14, Lc14, X14, hQ14, st14⟩ := own_cV X9 Hb hZ hown hml (L := #[.val (.ref a), .val (.ref a), .val (.int (Int32.ofNat ea)), .val (.ref b7), .val (.int (Int32.ofNat ([] : List Int32).length))]) rfl (rm42 hw b7 a tt z_9 kb kz_9 (0 : Int32) (Int32.ofNat cs.length) [] cs ([] : List Int32) ea O SU E_a F_v_a F_c_a V_tt A7 F_v_a_c9 F_c_a_c9 F_n_a_c9 F_m_a_c9 V_z_c9 E_z_c9 ne_tt_z_9 (Or.inl ⟨rfl, rfl, rfl, fun c q => nomatch q⟩) hB3 hlea (Nat.le_of_lt hlta) hG (fun _ => rfl) g_b7 g_z_9) (W 207 rfl) (W 208 rfl) (W 210 rfl) (W 209 rfl) (W 191 rfl) (W 211 rfl) pd36 rfl A7 (D13 22) [.ref a, (.int (Int32.ofNat ([] : List Int32).length)), .int (Int32.ofNat ea)] [] 0
    obtain ⟨tn_14, kn_14, cdn_14, nbn_14, lsn_14, rfl, N14q, K14, F_v_a_c14, F_c_a_c14, F_n_a_c14, F_m_a_c14, V_tn_c14, E_tn_c14, sf_14, gn_14, hSn_14, hcn_14⟩ := hQ14
    have N14 := Fr.app N9 N14q
    have E_a := E_a.keep K14
    have F_v_a := F_v_a.keep K14 (ninS ne_a_b7 (ninS ne_a_z_9 nin0))
    have F_c_a := F_c_a.keep K14 (ninS ne_a_b7 (ninS ne_a_z_9 nin0))
    have V_tt := V_tt.keep K14 (ninS ne_tt_b7 (ninS ne_tt_z_9 nin0))
    have A7 := A7.keep K14
    have E_z_c9 := E_z_c9.keep K14
    have ne_a_tn_14 : a ≠ tn_14 := own_nt sf_14 ne_a_z_9 lt14_a
    have ne_tt_tn_14 : tt ≠ tn_14 := own_nt sf_14 ne_tt_z_9 lt14_tt
    have ne_b7_tn_14 : b7 ≠ tn_14 := own_nt sf_14 ne_b7_z_9 lt14_b7
    have iw_tn_14 : tn_14 ∈ ([] : List Addr) ∨ h0.size ≤ tn_14 := own_iw sf_14 (Or.inr z_z_9) K.1
    have g_tn_14 := gn_14
    have O := O.keep K14 (allS g_b7 (allS g_z_9 all0))
    have K := K.trans K14 (allS (Or.inr z_b7) (allS (Or.inr z_z_9) all0))
    obtain ⟨va, hva⟩ : ∃ y, y = ([] : List Int32) ++ own_TK cs ([] : List Int32).length ea := ⟨_, rfl⟩
    rw [← hva] at hSn_14 hvla hI1
    rw [← hvla] at F_n_a_c14
    have lt15_a := E_a.lt
    have lt15_tt := V_tt.lt
    have lt15_b7 := A7.lt
    obtain ⟨_, T15, Lc15, X15, hQ15, st15⟩ := own_cV X14 Hb hZ hown hml (L := #[.val (.ref a), .val (.ref a), .val (.int (Int32.ofNat ea)), .val (.ref b7), .val (.int (Int32.ofNat ([] : List Int32).length))]) rfl (rm49 hw b7 tn_14 kn_14 cdn_14 nbn_14 lsn_14 va cs.length O SU A7 F_v_a_c14 F_c_a_c14 F_n_a_c14 F_m_a_c14 V_tn_c14 E_tn_c14 hSn_14 (by omega) hB3 g_b7 g_tn_14) (W 252 rfl) (W 253 rfl) (W 255 rfl) (W 254 rfl) (W 191 rfl) (W 256 rfl) pd37 rfl A7 (D13 24) [.int 65533] [] 0
    obtain ⟨tn_15, kn_15, rfl, N15q, K15, F_v_a_c15, F_c_a_c15, F_n_a_c15, F_m_a_c15, V_tn_c15, E_tn_c15, sf_15, gn_15⟩ := hQ15
    have N15 := Fr.app N14 N15q
    have E_a := E_a.keep K15
    have F_v_a := F_v_a.keep K15 (ninS ne_a_b7 (ninS ne_a_tn_14 nin0))
    have F_c_a := F_c_a.keep K15 (ninS ne_a_b7 (ninS ne_a_tn_14 nin0))
    have V_tt := V_tt.keep K15 (ninS ne_tt_b7 (ninS ne_tt_tn_14 nin0))
    have A7 := A7.keep K15
    have E_z_c9 := E_z_c9.keep K15
    have E_tn_c14 := E_tn_c14.keep K15
    have ne_a_tn_15 : a ≠ tn_15 := own_nt sf_15 ne_a_tn_14 lt15_a
    have ne_tt_tn_15 : tt ≠ tn_15 := own_nt sf_15 ne_tt_tn_14 lt15_tt
    have ne_b7_tn_15 : b7 ≠ tn_15 := own_nt sf_15 ne_b7_tn_14 lt15_b7
    have iw_tn_15 : tn_15 ∈ ([] : List Addr) ∨ h0.size ≤ tn_15 := own_iw sf_15 iw_tn_14 K.1
    have g_tn_15 := gn_15
    have O := O.keep K15 (allS g_b7 (allS g_tn_14 all0))
    have K := K.trans K15 (allS (Or.inr z_b7) (allS iw_tn_14 all0))
    obtain ⟨ya, hya⟩ : ∃ y, y = va ++ [(65533 : Int32)] := ⟨_, rfl⟩
    have hyla : ya.length = ea + 1 := by rw [hya, List.length_append, hvla]; rfl
    rw [← hya] at F_n_a_c15 V_tn_c15 hI1
    have w16 : own_Go p e below f0 T15 m 50 #[.val (.ref a), .val (.ref a), .val (.int (Int32.ofNat ea)), .val (.ref b7), .val (.int ((Int32.ofNat ea) + (1 : Int32)))] [] := fun t k => by
      refine w13 t ?_
      refine zal X9 Hb (D13 18) rfl rfl <| zal X9 Hb (D13 19) rfl rfl <| ziL X9 Hb (D13 20) rfl <| zil X9 Hb (D13 21) rfl <| st14 _ <| X14.ldcInt hx hown (mvT hZ (W 251 rfl)) (g := (mkF m 39 #[.val (.ref a), .val (.ref a), .val (.int (Int32.ofNat ea)), .val (.ref b7), .val (.int (Int32.ofNat ([] : List Int32).length))] [.ref b7])) rfl (hb hby (D13 23)) _ <| st15 _ <| zpo X15 Hb (D13 25) rfl ?_
      refine zil X15 Hb (D13 26) rfl <| zic X15 Hb (D13 27) 1 rfl <| zia X15 Hb (D13 28) <| ziS X15 Hb (D13 29) rfl ?_
      exact k
    have w17 : own_Go p e below f0 T15 m 50 #[.val (.ref a), .val (.ref a), .val (.int (Int32.ofNat ea)), .val (.ref b7), .val (.int (Int32.ofNat ya.length))] [] := by rw [hyla, ← own_sj rfl]; exact w16
    obtain ⟨_, T18, Lc18, X18, hQ18, st18⟩ := own_cS X15 Hb hZ hown hml (L := #[.val (.ref a), .val (.ref a), .val (.int (Int32.ofNat ea)), .val (.ref b7), .val (.int (Int32.ofNat ya.length))]) rfl (rm14_U hw a (Int32.ofNat ya.length) tt kb cs ya.length O SU E_a F_v_a F_c_a V_tt rfl hI1.1 hB3 hG (own_nq3 _ (by omega)).2.2.2.2.2.2) (W 62 rfl) (W 63 rfl) (W 48 rfl) (W 64 rfl) pd35 rfl (D13 32) [.ref a, .int (Int32.ofNat ya.length)] [] 0
    obtain ⟨rfl, N18q, eh18⟩ := hQ18
    have N18 := Fr.app N15 N18q
    have w19 : own_Go p e below f0 T18 m 28 #[.val (.ref a), .val (.ref a), .val (.int (own_nx (Int32.ofNat ya.length) (cs.drop ya.length))), .val (.ref b7), .val (.int (Int32.ofNat ya.length))] [(.int (own_nx (Int32.ofNat ya.length) (cs.drop ya.length)))] := fun t k => by
      refine w17 t ?_
      refine zal X15 Hb (D13 30) rfl rfl <| ziL X15 Hb (D13 31) rfl <| st18 _ <| zis X18 Hb (D13 33) rfl <| zgo X18 Hb (D13 34) 27 (by decide) rfl <| zil X18 Hb (D13 16) rfl ?_
      exact k
    by_cases hc28_20 : (own_nx (Int32.ofNat ya.length) (cs.drop ya.length)) < (0 : Int32)
    · obtain ⟨_, T21, Lc21, X21, hQ21, st21⟩ := own_cV X18 Hb hZ hown hml (L := #[.val (.ref a), .val (.ref a), .val (.int (own_nx (Int32.ofNat ya.length) (cs.drop ya.length))), .val (.ref b7), .val (.int (Int32.ofNat ya.length))]) rfl (rm15_U hw a tt kb (Int32.ofNat (2 * cs.length)) (own_wb cs) (Int32.ofNat cs.length) O SU E_a F_v_a F_c_a V_tt (own_nq3 _ (by omega)).2.2.2.2.2.2) (W 65 rfl) (W 66 rfl) (W 68 rfl) (W 67 rfl) (W 8 rfl) (W 69 rfl) pd10 eh18 E_a (D13 39) [] [.int (Int32.ofNat ya.length), .ref a, .ref b7] 3
      obtain ⟨rfl, N21q, eh21⟩ := hQ21
      have N21 := Fr.app N18 N21q
      have lt22_a := E_a.lt
      have lt22_tt := V_tt.lt
      have lt22_b7 := A7.lt
      obtain ⟨_, T22, Lc22, X22, hQ22, st22⟩ := own_cV X21 Hb hZ hown hml (L := #[.val (.ref a), .val (.ref a), .val (.int (own_nx (Int32.ofNat ya.length) (cs.drop ya.length))), .val (.ref b7), .val (.int (Int32.ofNat ya.length))]) rfl (rm42 hw b7 a tt tn_15 kb kn_15 (1 : Int32) (Int32.ofNat (2 * cs.length)) (own_wb ya) cs ya cs.length O SU E_a F_v_a F_c_a V_tt A7 F_v_a_c15 F_c_a_c15 F_n_a_c15 F_m_a_c15 V_tn_c15 E_tn_c15 ne_tt_tn_15 (Or.inr ⟨rfl, rfl, rfl⟩) hB3 hI1.1 (Nat.le_refl _) hG (fun q => absurd q (by decide)) g_b7 g_tn_15) (W 207 rfl) (W 208 rfl) (W 210 rfl) (W 209 rfl) (W 191 rfl) (W 211 rfl) pd36 eh21 A7 (D13 40) [.ref a, .int (Int32.ofNat ya.length), .int (Int32.ofNat cs.length)] [] 0
      obtain ⟨tn_22, kn_22, cdn_22, nbn_22, lsn_22, rfl, N22q, K22, F_v_a_c22, F_c_a_c22, F_n_a_c22, F_m_a_c22, V_tn_c22, E_tn_c22, sf_22, gn_22, hSn_22, hcn_22⟩ := hQ22
      have N22 := Fr.app N21 N22q
      have E_a := E_a.keep K22
      have F_v_a := F_v_a.keep K22 (ninS ne_a_b7 (ninS ne_a_tn_15 nin0))
      have F_c_a := F_c_a.keep K22 (ninS ne_a_b7 (ninS ne_a_tn_15 nin0))
      have V_tt := V_tt.keep K22 (ninS ne_tt_b7 (ninS ne_tt_tn_15 nin0))
      have A7 := A7.keep K22
      have E_z_c9 := E_z_c9.keep K22
      have E_tn_c14 := E_tn_c14.keep K22
      have E_tn_c15 := E_tn_c15.keep K22
      have ne_a_tn_22 : a ≠ tn_22 := own_nt sf_22 ne_a_tn_15 lt22_a
      have ne_tt_tn_22 : tt ≠ tn_22 := own_nt sf_22 ne_tt_tn_15 lt22_tt
      have ne_b7_tn_22 : b7 ≠ tn_22 := own_nt sf_22 ne_b7_tn_15 lt22_b7
      have iw_tn_22 : tn_22 ∈ ([] : List Addr) ∨ h0.size ≤ tn_22 := own_iw sf_22 iw_tn_15 K.1
      have g_tn_22 := gn_22
      have O := O.keep K22 (allS g_b7 (allS g_tn_15 all0))
      have K := K.trans K22 (allS (Or.inr z_b7) (allS iw_tn_15 all0))
      obtain ⟨hnb, hls⟩ := own_SBU hSn_22 (hcn_22 rfl)
      rw [own_fin hB3 hI1 hc28_20] at hls
      rw [hnb, hls] at V_tn_c22
      rw [hcn_22 rfl] at F_c_a_c22
      have lt23_a := E_a.lt
      have lt23_tt := V_tt.lt
      have lt23_b7 := A7.lt
      have lt23_z_9 := E_z_c9.lt
      have lt23_tn_14 := E_tn_c14.lt
      have lt23_tn_15 := E_tn_c15.lt
      have lt23_tn_22 := V_tn_c22.lt
      have lt23_a := E_a.lt
      have lt23_tt := V_tt.lt
      have lt23_b7 := A7.lt
      have lt23_z_9 := E_z_c9.lt
      have lt23_tn_14 := E_tn_c14.lt
      have lt23_tn_15 := E_tn_c15.lt
      have lt23_tn_22 := V_tn_c22.lt
      obtain ⟨_, T23, Lc23, X23, hQ23, st23⟩ := own_cV X22 Hb hZ hown hml (L := #[.val (.ref a), .val (.ref a), .val (.int (own_nx (Int32.ofNat ya.length) (cs.drop ya.length))), .val (.ref b7), .val (.int (Int32.ofNat ya.length))]) rfl (rm59 hw b7 tn_22 kn_22 cs.length (own_wb (own_fix cs)) O SU A7 F_v_a_c22 F_c_a_c22 F_n_a_c22 F_m_a_c22 V_tn_c22 E_tn_c22 hB3) (W 291 rfl) (W 292 rfl) (W 294 rfl) (W 293 rfl) (W 191 rfl) (W 295 rfl) pd38 rfl A7 (D13 41) [] [] 0
      obtain ⟨z_23, y_23, ky_23, rfl, N23q, K23, E_z_c23, F_v_z_c23, F_c_z_c23, V_y_c23, gz_23, gn_23, gy_23, gm_23⟩ := hQ23
      have N23 := Fr.app N22 N23q
      have E_a := E_a.keep K23
      have F_v_a := F_v_a.keep K23 nin0
      have F_c_a := F_c_a.keep K23 nin0
      have V_tt := V_tt.keep K23 nin0
      have A7 := A7.keep K23
      have E_z_c9 := E_z_c9.keep K23
      have E_tn_c14 := E_tn_c14.keep K23
      have E_tn_c15 := E_tn_c15.keep K23
      have F_v_a_c22 := F_v_a_c22.keep K23 nin0
      have F_c_a_c22 := F_c_a_c22.keep K23 nin0
      have F_n_a_c22 := F_n_a_c22.keep K23 nin0
      have F_m_a_c22 := F_m_a_c22.keep K23 nin0
      have V_tn_c22 := V_tn_c22.keep K23 nin0
      have E_tn_c22 := E_tn_c22.keep K23
      have ne_a_z_23 : a ≠ z_23 := Nat.ne_of_lt (Nat.lt_of_lt_of_le lt23_a gz_23)
      have ne_tt_z_23 : tt ≠ z_23 := Nat.ne_of_lt (Nat.lt_of_lt_of_le lt23_tt gz_23)
      have ne_b7_z_23 : b7 ≠ z_23 := Nat.ne_of_lt (Nat.lt_of_lt_of_le lt23_b7 gz_23)
      have ne_z_9_z_23 : z_9 ≠ z_23 := Nat.ne_of_lt (Nat.lt_of_lt_of_le lt23_z_9 gz_23)
      have ne_tn_14_z_23 : tn_14 ≠ z_23 := Nat.ne_of_lt (Nat.lt_of_lt_of_le lt23_tn_14 gz_23)
      have ne_tn_15_z_23 : tn_15 ≠ z_23 := Nat.ne_of_lt (Nat.lt_of_lt_of_le lt23_tn_15 gz_23)
      have ne_tn_22_z_23 : tn_22 ≠ z_23 := Nat.ne_of_lt (Nat.lt_of_lt_of_le lt23_tn_22 gz_23)
      have g_z_23 := gn_23
      have z_z_23 : h0.size ≤ z_23 := Nat.le_trans K.1 gz_23
      have ne_a_y_23 : a ≠ y_23 := Nat.ne_of_lt (Nat.lt_of_lt_of_le lt23_a gy_23)
      have ne_tt_y_23 : tt ≠ y_23 := Nat.ne_of_lt (Nat.lt_of_lt_of_le lt23_tt gy_23)
      have ne_b7_y_23 : b7 ≠ y_23 := Nat.ne_of_lt (Nat.lt_of_lt_of_le lt23_b7 gy_23)
      have ne_z_9_y_23 : z_9 ≠ y_23 := Nat.ne_of_lt (Nat.lt_of_lt_of_le lt23_z_9 gy_23)
      have ne_tn_14_y_23 : tn_14 ≠ y_23 := Nat.ne_of_lt (Nat.lt_of_lt_of_le lt23_tn_14 gy_23)
      have ne_tn_15_y_23 : tn_15 ≠ y_23 := Nat.ne_of_lt (Nat.lt_of_lt_of_le lt23_tn_15 gy_23)
      have ne_tn_22_y_23 : tn_22 ≠ y_23 := Nat.ne_of_lt (Nat.lt_of_lt_of_le lt23_tn_22 gy_23)
      have g_y_23 := gm_23
      have z_y_23 : h0.size ≤ y_23 := Nat.le_trans K.1 gy_23
      have O := O.keep K23 all0
      have K := K.trans K23 all0
      have w24 : own_Go p e below f0 T23 m 76 #[.val (.ref a), .val (.ref z_23), .val (.int (own_nx (Int32.ofNat ya.length) (cs.drop ya.length))), .val (.ref b7), .val (.int (Int32.ofNat ya.length))] [.ref z_23] := fun t k => by
        refine w19 t ?_
        refine ziy X18 Hb (D13 17) ((if0 _ _).trans (tlt hc28_20).1) 60 (by decide) rfl <| zal X18 Hb (D13 35) rfl rfl <| zal X18 Hb (D13 36) rfl rfl <| ziL X18 Hb (D13 37) rfl <| zal X18 Hb (D13 38) rfl rfl <| st21 _ <| st22 _ <| st23 _ ?_
        refine zas X23 Hb (D13 42) rfl rfl <| zal X23 Hb (D13 43) rfl rfl ?_
        exact k
      exact own_oR X23 Hb Bd.notSynchronized Bd.returns rfl w24 (D13 44) rfl (by decide) (by decide) ⟨z_23, y_23, ky_23, rfl, N23, K, E_z_c23, F_v_z_c23, F_c_z_c23, V_y_c23⟩
    · obtain ⟨eb, heb, hleb, hltb, hvlb, hI2⟩ := own_turn hB3 hI1 hc28_20
      have w25 : own_Go p e below f0 T18 m 31 #[.val (.ref a), .val (.ref a), .val (.int (own_nx (Int32.ofNat ya.length) (cs.drop ya.length))), .val (.ref b7), .val (.int (Int32.ofNat ya.length))] [] := fun t k => by
        refine w19 t ?_
        refine zin X18 Hb (D13 17) ((if0 _ _).trans (flt hc28_20).1) ?_
        exact k
      have w26 : own_Go p e below f0 T18 m 31 #[.val (.ref a), .val (.ref a), .val (.int (Int32.ofNat eb)), .val (.ref b7), .val (.int (Int32.ofNat ya.length))] [] := by rw [← heb]; exact w25
      have lt27_a := E_a.lt
      have lt27_tt := V_tt.lt
      have lt27_b7 := A7.lt
      obtain ⟨_, T27, Lc27, X27, hQ27, st27⟩ := own_cV X18 Hb hZ hown hml (L := #[.val (.ref a), .val (.ref a), .val (.int (Int32.ofNat eb)), .val (.ref b7), .val (.int (Int32.ofNat ya.length))]) rfl (rm42 hw b7 a tt tn_15 kb kn_15 (1 : Int32) (Int32.ofNat (2 * cs.length)) (own_wb ya) cs ya eb O SU E_a F_v_a F_c_a V_tt A7 F_v_a_c15 F_c_a_c15 F_n_a_c15 F_m_a_c15 V_tn_c15 E_tn_c15 ne_tt_tn_15 (Or.inr ⟨rfl, rfl, rfl⟩) hB3 hleb (Nat.le_of_lt hltb) hG (fun q => absurd q (by decide)) g_b7 g_tn_15) (W 207 rfl) (W 208 rfl) (W 210 rfl) (W 209 rfl) (W 191 rfl) (W 211 rfl) pd36 eh18 A7 (D13 22) [.ref a, .int (Int32.ofNat ya.length), .int (Int32.ofNat eb)] [] 0
      obtain ⟨tn_27, kn_27, cdn_27, nbn_27, lsn_27, rfl, N27q, K27, F_v_a_c27, F_c_a_c27, F_n_a_c27, F_m_a_c27, V_tn_c27, E_tn_c27, sf_27, gn_27, hSn_27, hcn_27⟩ := hQ27
      have N27 := Fr.app N18 N27q
      have E_a := E_a.keep K27
      have F_v_a := F_v_a.keep K27 (ninS ne_a_b7 (ninS ne_a_tn_15 nin0))
      have F_c_a := F_c_a.keep K27 (ninS ne_a_b7 (ninS ne_a_tn_15 nin0))
      have V_tt := V_tt.keep K27 (ninS ne_tt_b7 (ninS ne_tt_tn_15 nin0))
      have A7 := A7.keep K27
      have E_z_c9 := E_z_c9.keep K27
      have E_tn_c14 := E_tn_c14.keep K27
      have E_tn_c15 := E_tn_c15.keep K27
      have ne_a_tn_27 : a ≠ tn_27 := own_nt sf_27 ne_a_tn_15 lt27_a
      have ne_tt_tn_27 : tt ≠ tn_27 := own_nt sf_27 ne_tt_tn_15 lt27_tt
      have ne_b7_tn_27 : b7 ≠ tn_27 := own_nt sf_27 ne_b7_tn_15 lt27_b7
      have iw_tn_27 : tn_27 ∈ ([] : List Addr) ∨ h0.size ≤ tn_27 := own_iw sf_27 iw_tn_15 K.1
      have g_tn_27 := gn_27
      have O := O.keep K27 (allS g_b7 (allS g_tn_15 all0))
      have K := K.trans K27 (allS (Or.inr z_b7) (allS iw_tn_15 all0))
      obtain ⟨vb, hvb⟩ : ∃ y, y = ya ++ own_TK cs ya.length eb := ⟨_, rfl⟩
      rw [← hvb] at hSn_27 hvlb hI2
      rw [← hvlb] at F_n_a_c27
      have lt28_a := E_a.lt
      have lt28_tt := V_tt.lt
      have lt28_b7 := A7.lt
      obtain ⟨_, T28, Lc28, X28, hQ28, st28⟩ := own_cV X27 Hb hZ hown hml (L := #[.val (.ref a), .val (.ref a), .val (.int (Int32.ofNat eb)), .val (.ref b7), .val (.int (Int32.ofNat ya.length))]) rfl (rm49 hw b7 tn_27 kn_27 cdn_27 nbn_27 lsn_27 vb cs.length O SU A7 F_v_a_c27 F_c_a_c27 F_n_a_c27 F_m_a_c27 V_tn_c27 E_tn_c27 hSn_27 (by omega) hB3 g_b7 g_tn_27) (W 252 rfl) (W 253 rfl) (W 255 rfl) (W 254 rfl) (W 191 rfl) (W 256 rfl) pd37 rfl A7 (D13 24) [.int 65533] [] 0
      obtain ⟨tn_28, kn_28, rfl, N28q, K28, F_v_a_c28, F_c_a_c28, F_n_a_c28, F_m_a_c28, V_tn_c28, E_tn_c28, sf_28, gn_28⟩ := hQ28
      have N28 := Fr.app N27 N28q
      have E_a := E_a.keep K28
      have F_v_a := F_v_a.keep K28 (ninS ne_a_b7 (ninS ne_a_tn_27 nin0))
      have F_c_a := F_c_a.keep K28 (ninS ne_a_b7 (ninS ne_a_tn_27 nin0))
      have V_tt := V_tt.keep K28 (ninS ne_tt_b7 (ninS ne_tt_tn_27 nin0))
      have A7 := A7.keep K28
      have E_z_c9 := E_z_c9.keep K28
      have E_tn_c14 := E_tn_c14.keep K28
      have E_tn_c15 := E_tn_c15.keep K28
      have E_tn_c27 := E_tn_c27.keep K28
      have ne_a_tn_28 : a ≠ tn_28 := own_nt sf_28 ne_a_tn_27 lt28_a
      have ne_tt_tn_28 : tt ≠ tn_28 := own_nt sf_28 ne_tt_tn_27 lt28_tt
      have ne_b7_tn_28 : b7 ≠ tn_28 := own_nt sf_28 ne_b7_tn_27 lt28_b7
      have iw_tn_28 : tn_28 ∈ ([] : List Addr) ∨ h0.size ≤ tn_28 := own_iw sf_28 iw_tn_27 K.1
      have g_tn_28 := gn_28
      have O := O.keep K28 (allS g_b7 (allS g_tn_27 all0))
      have K := K.trans K28 (allS (Or.inr z_b7) (allS iw_tn_27 all0))
      obtain ⟨yb, hyb⟩ : ∃ y, y = vb ++ [(65533 : Int32)] := ⟨_, rfl⟩
      have hylb : yb.length = eb + 1 := by rw [hyb, List.length_append, hvlb]; rfl
      rw [← hyb] at F_n_a_c28 V_tn_c28 hI2
      have w29 : own_Go p e below f0 T28 m 50 #[.val (.ref a), .val (.ref a), .val (.int (Int32.ofNat eb)), .val (.ref b7), .val (.int ((Int32.ofNat eb) + (1 : Int32)))] [] := fun t k => by
        refine w26 t ?_
        refine zal X18 Hb (D13 18) rfl rfl <| zal X18 Hb (D13 19) rfl rfl <| ziL X18 Hb (D13 20) rfl <| zil X18 Hb (D13 21) rfl <| st27 _ <| X27.ldcInt hx hown (mvT hZ (W 251 rfl)) (g := (mkF m 39 #[.val (.ref a), .val (.ref a), .val (.int (Int32.ofNat eb)), .val (.ref b7), .val (.int (Int32.ofNat ya.length))] [.ref b7])) rfl (hb hby (D13 23)) _ <| st28 _ <| zpo X28 Hb (D13 25) rfl ?_
        refine zil X28 Hb (D13 26) rfl <| zic X28 Hb (D13 27) 1 rfl <| zia X28 Hb (D13 28) <| ziS X28 Hb (D13 29) rfl ?_
        exact k
      have w30 : own_Go p e below f0 T28 m 50 #[.val (.ref a), .val (.ref a), .val (.int (Int32.ofNat eb)), .val (.ref b7), .val (.int (Int32.ofNat yb.length))] [] := by rw [hylb, ← own_sj rfl]; exact w29
      obtain ⟨_, T31, Lc31, X31, hQ31, st31⟩ := own_cS X28 Hb hZ hown hml (L := #[.val (.ref a), .val (.ref a), .val (.int (Int32.ofNat eb)), .val (.ref b7), .val (.int (Int32.ofNat yb.length))]) rfl (rm14_U hw a (Int32.ofNat yb.length) tt kb cs yb.length O SU E_a F_v_a F_c_a V_tt rfl hI2.1 hB3 hG (own_nq3 _ (by omega)).2.2.2.2.2.2) (W 62 rfl) (W 63 rfl) (W 48 rfl) (W 64 rfl) pd35 rfl (D13 32) [.ref a, .int (Int32.ofNat yb.length)] [] 0
      obtain ⟨rfl, N31q, eh31⟩ := hQ31
      have N31 := Fr.app N28 N31q
      have w32 : own_Go p e below f0 T31 m 28 #[.val (.ref a), .val (.ref a), .val (.int (own_nx (Int32.ofNat yb.length) (cs.drop yb.length))), .val (.ref b7), .val (.int (Int32.ofNat yb.length))] [(.int (own_nx (Int32.ofNat yb.length) (cs.drop yb.length)))] := fun t k => by
        refine w30 t ?_
        refine zal X28 Hb (D13 30) rfl rfl <| ziL X28 Hb (D13 31) rfl <| st31 _ <| zis X31 Hb (D13 33) rfl <| zgo X31 Hb (D13 34) 27 (by decide) rfl <| zil X31 Hb (D13 16) rfl ?_
        exact k
      by_cases hc28_33 : (own_nx (Int32.ofNat yb.length) (cs.drop yb.length)) < (0 : Int32)
      · obtain ⟨_, T34, Lc34, X34, hQ34, st34⟩ := own_cV X31 Hb hZ hown hml (L := #[.val (.ref a), .val (.ref a), .val (.int (own_nx (Int32.ofNat yb.length) (cs.drop yb.length))), .val (.ref b7), .val (.int (Int32.ofNat yb.length))]) rfl (rm15_U hw a tt kb (Int32.ofNat (2 * cs.length)) (own_wb cs) (Int32.ofNat cs.length) O SU E_a F_v_a F_c_a V_tt (own_nq3 _ (by omega)).2.2.2.2.2.2) (W 65 rfl) (W 66 rfl) (W 68 rfl) (W 67 rfl) (W 8 rfl) (W 69 rfl) pd10 eh31 E_a (D13 39) [] [.int (Int32.ofNat yb.length), .ref a, .ref b7] 3
        obtain ⟨rfl, N34q, eh34⟩ := hQ34
        have N34 := Fr.app N31 N34q
        have lt35_a := E_a.lt
        have lt35_tt := V_tt.lt
        have lt35_b7 := A7.lt
        obtain ⟨_, T35, Lc35, X35, hQ35, st35⟩ := own_cV X34 Hb hZ hown hml (L := #[.val (.ref a), .val (.ref a), .val (.int (own_nx (Int32.ofNat yb.length) (cs.drop yb.length))), .val (.ref b7), .val (.int (Int32.ofNat yb.length))]) rfl (rm42 hw b7 a tt tn_28 kb kn_28 (1 : Int32) (Int32.ofNat (2 * cs.length)) (own_wb yb) cs yb cs.length O SU E_a F_v_a F_c_a V_tt A7 F_v_a_c28 F_c_a_c28 F_n_a_c28 F_m_a_c28 V_tn_c28 E_tn_c28 ne_tt_tn_28 (Or.inr ⟨rfl, rfl, rfl⟩) hB3 hI2.1 (Nat.le_refl _) hG (fun q => absurd q (by decide)) g_b7 g_tn_28) (W 207 rfl) (W 208 rfl) (W 210 rfl) (W 209 rfl) (W 191 rfl) (W 211 rfl) pd36 eh34 A7 (D13 40) [.ref a, .int (Int32.ofNat yb.length), .int (Int32.ofNat cs.length)] [] 0
        obtain ⟨tn_35, kn_35, cdn_35, nbn_35, lsn_35, rfl, N35q, K35, F_v_a_c35, F_c_a_c35, F_n_a_c35, F_m_a_c35, V_tn_c35, E_tn_c35, sf_35, gn_35, hSn_35, hcn_35⟩ := hQ35
        have N35 := Fr.app N34 N35q
        have E_a := E_a.keep K35
        have F_v_a := F_v_a.keep K35 (ninS ne_a_b7 (ninS ne_a_tn_28 nin0))
        have F_c_a := F_c_a.keep K35 (ninS ne_a_b7 (ninS ne_a_tn_28 nin0))
        have V_tt := V_tt.keep K35 (ninS ne_tt_b7 (ninS ne_tt_tn_28 nin0))
        have A7 := A7.keep K35
        have E_z_c9 := E_z_c9.keep K35
        have E_tn_c14 := E_tn_c14.keep K35
        have E_tn_c15 := E_tn_c15.keep K35
        have E_tn_c27 := E_tn_c27.keep K35
        have E_tn_c28 := E_tn_c28.keep K35
        have ne_a_tn_35 : a ≠ tn_35 := own_nt sf_35 ne_a_tn_28 lt35_a
        have ne_tt_tn_35 : tt ≠ tn_35 := own_nt sf_35 ne_tt_tn_28 lt35_tt
        have ne_b7_tn_35 : b7 ≠ tn_35 := own_nt sf_35 ne_b7_tn_28 lt35_b7
        have iw_tn_35 : tn_35 ∈ ([] : List Addr) ∨ h0.size ≤ tn_35 := own_iw sf_35 iw_tn_28 K.1
        have g_tn_35 := gn_35
        have O := O.keep K35 (allS g_b7 (allS g_tn_28 all0))
        have K := K.trans K35 (allS (Or.inr z_b7) (allS iw_tn_28 all0))
        obtain ⟨hnb, hls⟩ := own_SBU hSn_35 (hcn_35 rfl)
        rw [own_fin hB3 hI2 hc28_33] at hls
        rw [hnb, hls] at V_tn_c35
        rw [hcn_35 rfl] at F_c_a_c35
        have lt36_a := E_a.lt
        have lt36_tt := V_tt.lt
        have lt36_b7 := A7.lt
        have lt36_z_9 := E_z_c9.lt
        have lt36_tn_14 := E_tn_c14.lt
        have lt36_tn_15 := E_tn_c15.lt
        have lt36_tn_27 := E_tn_c27.lt
        have lt36_tn_28 := E_tn_c28.lt
        have lt36_tn_35 := V_tn_c35.lt
        have lt36_a := E_a.lt
        have lt36_tt := V_tt.lt
        have lt36_b7 := A7.lt
        have lt36_z_9 := E_z_c9.lt
        have lt36_tn_14 := E_tn_c14.lt
        have lt36_tn_15 := E_tn_c15.lt
        have lt36_tn_27 := E_tn_c27.lt
        have lt36_tn_28 := E_tn_c28.lt
        have lt36_tn_35 := V_tn_c35.lt
        obtain ⟨_, T36, Lc36, X36, hQ36, st36⟩ := own_cV X35 Hb hZ hown hml (L := #[.val (.ref a), .val (.ref a), .val (.int (own_nx (Int32.ofNat yb.length) (cs.drop yb.length))), .val (.ref b7), .val (.int (Int32.ofNat yb.length))]) rfl (rm59 hw b7 tn_35 kn_35 cs.length (own_wb (own_fix cs)) O SU A7 F_v_a_c35 F_c_a_c35 F_n_a_c35 F_m_a_c35 V_tn_c35 E_tn_c35 hB3) (W 291 rfl) (W 292 rfl) (W 294 rfl) (W 293 rfl) (W 191 rfl) (W 295 rfl) pd38 rfl A7 (D13 41) [] [] 0
        obtain ⟨z_36, y_36, ky_36, rfl, N36q, K36, E_z_c36, F_v_z_c36, F_c_z_c36, V_y_c36, gz_36, gn_36, gy_36, gm_36⟩ := hQ36
        have N36 := Fr.app N35 N36q
        have E_a := E_a.keep K36
        have F_v_a := F_v_a.keep K36 nin0
        have F_c_a := F_c_a.keep K36 nin0
        have V_tt := V_tt.keep K36 nin0
        have A7 := A7.keep K36
        have E_z_c9 := E_z_c9.keep K36
        have E_tn_c14 := E_tn_c14.keep K36
        have E_tn_c15 := E_tn_c15.keep K36
        have E_tn_c27 := E_tn_c27.keep K36
        have E_tn_c28 := E_tn_c28.keep K36
        have F_v_a_c35 := F_v_a_c35.keep K36 nin0
        have F_c_a_c35 := F_c_a_c35.keep K36 nin0
        have F_n_a_c35 := F_n_a_c35.keep K36 nin0
        have F_m_a_c35 := F_m_a_c35.keep K36 nin0
        have V_tn_c35 := V_tn_c35.keep K36 nin0
        have E_tn_c35 := E_tn_c35.keep K36
        have ne_a_z_36 : a ≠ z_36 := Nat.ne_of_lt (Nat.lt_of_lt_of_le lt36_a gz_36)
        have ne_tt_z_36 : tt ≠ z_36 := Nat.ne_of_lt (Nat.lt_of_lt_of_le lt36_tt gz_36)
        have ne_b7_z_36 : b7 ≠ z_36 := Nat.ne_of_lt (Nat.lt_of_lt_of_le lt36_b7 gz_36)
        have ne_z_9_z_36 : z_9 ≠ z_36 := Nat.ne_of_lt (Nat.lt_of_lt_of_le lt36_z_9 gz_36)
        have ne_tn_14_z_36 : tn_14 ≠ z_36 := Nat.ne_of_lt (Nat.lt_of_lt_of_le lt36_tn_14 gz_36)
        have ne_tn_15_z_36 : tn_15 ≠ z_36 := Nat.ne_of_lt (Nat.lt_of_lt_of_le lt36_tn_15 gz_36)
        have ne_tn_27_z_36 : tn_27 ≠ z_36 := Nat.ne_of_lt (Nat.lt_of_lt_of_le lt36_tn_27 gz_36)
        have ne_tn_28_z_36 : tn_28 ≠ z_36 := Nat.ne_of_lt (Nat.lt_of_lt_of_le lt36_tn_28 gz_36)
        have ne_tn_35_z_36 : tn_35 ≠ z_36 := Nat.ne_of_lt (Nat.lt_of_lt_of_le lt36_tn_35 gz_36)
        have g_z_36 := gn_36
        have z_z_36 : h0.size ≤ z_36 := Nat.le_trans K.1 gz_36
        have ne_a_y_36 : a ≠ y_36 := Nat.ne_of_lt (Nat.lt_of_lt_of_le lt36_a gy_36)
        have ne_tt_y_36 : tt ≠ y_36 := Nat.ne_of_lt (Nat.lt_of_lt_of_le lt36_tt gy_36)
        have ne_b7_y_36 : b7 ≠ y_36 := Nat.ne_of_lt (Nat.lt_of_lt_of_le lt36_b7 gy_36)
        have ne_z_9_y_36 : z_9 ≠ y_36 := Nat.ne_of_lt (Nat.lt_of_lt_of_le lt36_z_9 gy_36)
        have ne_tn_14_y_36 : tn_14 ≠ y_36 := Nat.ne_of_lt (Nat.lt_of_lt_of_le lt36_tn_14 gy_36)
        have ne_tn_15_y_36 : tn_15 ≠ y_36 := Nat.ne_of_lt (Nat.lt_of_lt_of_le lt36_tn_15 gy_36)
        have ne_tn_27_y_36 : tn_27 ≠ y_36 := Nat.ne_of_lt (Nat.lt_of_lt_of_le lt36_tn_27 gy_36)
        have ne_tn_28_y_36 : tn_28 ≠ y_36 := Nat.ne_of_lt (Nat.lt_of_lt_of_le lt36_tn_28 gy_36)
        have ne_tn_35_y_36 : tn_35 ≠ y_36 := Nat.ne_of_lt (Nat.lt_of_lt_of_le lt36_tn_35 gy_36)
        have g_y_36 := gm_36
        have z_y_36 : h0.size ≤ y_36 := Nat.le_trans K.1 gy_36
        have O := O.keep K36 all0
        have K := K.trans K36 all0
        have w37 : own_Go p e below f0 T36 m 76 #[.val (.ref a), .val (.ref z_36), .val (.int (own_nx (Int32.ofNat yb.length) (cs.drop yb.length))), .val (.ref b7), .val (.int (Int32.ofNat yb.length))] [.ref z_36] := fun t k => by
          refine w32 t ?_
          refine ziy X31 Hb (D13 17) ((if0 _ _).trans (tlt hc28_33).1) 60 (by decide) rfl <| zal X31 Hb (D13 35) rfl rfl <| zal X31 Hb (D13 36) rfl rfl <| ziL X31 Hb (D13 37) rfl <| zal X31 Hb (D13 38) rfl rfl <| st34 _ <| st35 _ <| st36 _ ?_
          refine zas X36 Hb (D13 42) rfl rfl <| zal X36 Hb (D13 43) rfl rfl ?_
          exact k
        exact own_oR X36 Hb Bd.notSynchronized Bd.returns rfl w37 (D13 44) rfl (by decide) (by decide) ⟨z_36, y_36, ky_36, rfl, N36, K, E_z_c36, F_v_z_c36, F_c_z_c36, V_y_c36⟩
      · obtain ⟨ec, hec, hlec, hltc, hvlc, hI3⟩ := own_turn hB3 hI2 hc28_33
        have w38 : own_Go p e below f0 T31 m 31 #[.val (.ref a), .val (.ref a), .val (.int (own_nx (Int32.ofNat yb.length) (cs.drop yb.length))), .val (.ref b7), .val (.int (Int32.ofNat yb.length))] [] := fun t k => by
          refine w32 t ?_
          refine zin X31 Hb (D13 17) ((if0 _ _).trans (flt hc28_33).1) ?_
          exact k
        have w39 : own_Go p e below f0 T31 m 31 #[.val (.ref a), .val (.ref a), .val (.int (Int32.ofNat ec)), .val (.ref b7), .val (.int (Int32.ofNat yb.length))] [] := by rw [← hec]; exact w38
        have lt40_a := E_a.lt
        have lt40_tt := V_tt.lt
        have lt40_b7 := A7.lt
        obtain ⟨_, T40, Lc40, X40, hQ40, st40⟩ := own_cV X31 Hb hZ hown hml (L := #[.val (.ref a), .val (.ref a), .val (.int (Int32.ofNat ec)), .val (.ref b7), .val (.int (Int32.ofNat yb.length))]) rfl (rm42 hw b7 a tt tn_28 kb kn_28 (1 : Int32) (Int32.ofNat (2 * cs.length)) (own_wb yb) cs yb ec O SU E_a F_v_a F_c_a V_tt A7 F_v_a_c28 F_c_a_c28 F_n_a_c28 F_m_a_c28 V_tn_c28 E_tn_c28 ne_tt_tn_28 (Or.inr ⟨rfl, rfl, rfl⟩) hB3 hlec (Nat.le_of_lt hltc) hG (fun q => absurd q (by decide)) g_b7 g_tn_28) (W 207 rfl) (W 208 rfl) (W 210 rfl) (W 209 rfl) (W 191 rfl) (W 211 rfl) pd36 eh31 A7 (D13 22) [.ref a, .int (Int32.ofNat yb.length), .int (Int32.ofNat ec)] [] 0
        obtain ⟨tn_40, kn_40, cdn_40, nbn_40, lsn_40, rfl, N40q, K40, F_v_a_c40, F_c_a_c40, F_n_a_c40, F_m_a_c40, V_tn_c40, E_tn_c40, sf_40, gn_40, hSn_40, hcn_40⟩ := hQ40
        have N40 := Fr.app N31 N40q
        have E_a := E_a.keep K40
        have F_v_a := F_v_a.keep K40 (ninS ne_a_b7 (ninS ne_a_tn_28 nin0))
        have F_c_a := F_c_a.keep K40 (ninS ne_a_b7 (ninS ne_a_tn_28 nin0))
        have V_tt := V_tt.keep K40 (ninS ne_tt_b7 (ninS ne_tt_tn_28 nin0))
        have A7 := A7.keep K40
        have E_z_c9 := E_z_c9.keep K40
        have E_tn_c14 := E_tn_c14.keep K40
        have E_tn_c15 := E_tn_c15.keep K40
        have E_tn_c27 := E_tn_c27.keep K40
        have E_tn_c28 := E_tn_c28.keep K40
        have ne_a_tn_40 : a ≠ tn_40 := own_nt sf_40 ne_a_tn_28 lt40_a
        have ne_tt_tn_40 : tt ≠ tn_40 := own_nt sf_40 ne_tt_tn_28 lt40_tt
        have ne_b7_tn_40 : b7 ≠ tn_40 := own_nt sf_40 ne_b7_tn_28 lt40_b7
        have iw_tn_40 : tn_40 ∈ ([] : List Addr) ∨ h0.size ≤ tn_40 := own_iw sf_40 iw_tn_28 K.1
        have g_tn_40 := gn_40
        have O := O.keep K40 (allS g_b7 (allS g_tn_28 all0))
        have K := K.trans K40 (allS (Or.inr z_b7) (allS iw_tn_28 all0))
        obtain ⟨vc, hvc⟩ : ∃ y, y = yb ++ own_TK cs yb.length ec := ⟨_, rfl⟩
        rw [← hvc] at hSn_40 hvlc hI3
        rw [← hvlc] at F_n_a_c40
        have lt41_a := E_a.lt
        have lt41_tt := V_tt.lt
        have lt41_b7 := A7.lt
        obtain ⟨_, T41, Lc41, X41, hQ41, st41⟩ := own_cV X40 Hb hZ hown hml (L := #[.val (.ref a), .val (.ref a), .val (.int (Int32.ofNat ec)), .val (.ref b7), .val (.int (Int32.ofNat yb.length))]) rfl (rm49 hw b7 tn_40 kn_40 cdn_40 nbn_40 lsn_40 vc cs.length O SU A7 F_v_a_c40 F_c_a_c40 F_n_a_c40 F_m_a_c40 V_tn_c40 E_tn_c40 hSn_40 (by omega) hB3 g_b7 g_tn_40) (W 252 rfl) (W 253 rfl) (W 255 rfl) (W 254 rfl) (W 191 rfl) (W 256 rfl) pd37 rfl A7 (D13 24) [.int 65533] [] 0
        obtain ⟨tn_41, kn_41, rfl, N41q, K41, F_v_a_c41, F_c_a_c41, F_n_a_c41, F_m_a_c41, V_tn_c41, E_tn_c41, sf_41, gn_41⟩ := hQ41
        have N41 := Fr.app N40 N41q
        have E_a := E_a.keep K41
        have F_v_a := F_v_a.keep K41 (ninS ne_a_b7 (ninS ne_a_tn_40 nin0))
        have F_c_a := F_c_a.keep K41 (ninS ne_a_b7 (ninS ne_a_tn_40 nin0))
        have V_tt := V_tt.keep K41 (ninS ne_tt_b7 (ninS ne_tt_tn_40 nin0))
        have A7 := A7.keep K41
        have E_z_c9 := E_z_c9.keep K41
        have E_tn_c14 := E_tn_c14.keep K41
        have E_tn_c15 := E_tn_c15.keep K41
        have E_tn_c27 := E_tn_c27.keep K41
        have E_tn_c28 := E_tn_c28.keep K41
        have E_tn_c40 := E_tn_c40.keep K41
        have ne_a_tn_41 : a ≠ tn_41 := own_nt sf_41 ne_a_tn_40 lt41_a
        have ne_tt_tn_41 : tt ≠ tn_41 := own_nt sf_41 ne_tt_tn_40 lt41_tt
        have ne_b7_tn_41 : b7 ≠ tn_41 := own_nt sf_41 ne_b7_tn_40 lt41_b7
        have iw_tn_41 : tn_41 ∈ ([] : List Addr) ∨ h0.size ≤ tn_41 := own_iw sf_41 iw_tn_40 K.1
        have g_tn_41 := gn_41
        have O := O.keep K41 (allS g_b7 (allS g_tn_40 all0))
        have K := K.trans K41 (allS (Or.inr z_b7) (allS iw_tn_40 all0))
        obtain ⟨yc, hyc⟩ : ∃ y, y = vc ++ [(65533 : Int32)] := ⟨_, rfl⟩
        have hylc : yc.length = ec + 1 := by rw [hyc, List.length_append, hvlc]; rfl
        rw [← hyc] at F_n_a_c41 V_tn_c41 hI3
        have w42 : own_Go p e below f0 T41 m 50 #[.val (.ref a), .val (.ref a), .val (.int (Int32.ofNat ec)), .val (.ref b7), .val (.int ((Int32.ofNat ec) + (1 : Int32)))] [] := fun t k => by
          refine w39 t ?_
          refine zal X31 Hb (D13 18) rfl rfl <| zal X31 Hb (D13 19) rfl rfl <| ziL X31 Hb (D13 20) rfl <| zil X31 Hb (D13 21) rfl <| st40 _ <| X40.ldcInt hx hown (mvT hZ (W 251 rfl)) (g := (mkF m 39 #[.val (.ref a), .val (.ref a), .val (.int (Int32.ofNat ec)), .val (.ref b7), .val (.int (Int32.ofNat yb.length))] [.ref b7])) rfl (hb hby (D13 23)) _ <| st41 _ <| zpo X41 Hb (D13 25) rfl ?_
          refine zil X41 Hb (D13 26) rfl <| zic X41 Hb (D13 27) 1 rfl <| zia X41 Hb (D13 28) <| ziS X41 Hb (D13 29) rfl ?_
          exact k
        have w43 : own_Go p e below f0 T41 m 50 #[.val (.ref a), .val (.ref a), .val (.int (Int32.ofNat ec)), .val (.ref b7), .val (.int (Int32.ofNat yc.length))] [] := by rw [hylc, ← own_sj rfl]; exact w42
        obtain ⟨_, T44, Lc44, X44, hQ44, st44⟩ := own_cS X41 Hb hZ hown hml (L := #[.val (.ref a), .val (.ref a), .val (.int (Int32.ofNat ec)), .val (.ref b7), .val (.int (Int32.ofNat yc.length))]) rfl (rm14_U hw a (Int32.ofNat yc.length) tt kb cs yc.length O SU E_a F_v_a F_c_a V_tt rfl hI3.1 hB3 hG (own_nq3 _ (by omega)).2.2.2.2.2.2) (W 62 rfl) (W 63 rfl) (W 48 rfl) (W 64 rfl) pd35 rfl (D13 32) [.ref a, .int (Int32.ofNat yc.length)] [] 0
        obtain ⟨rfl, N44q, eh44⟩ := hQ44
        have N44 := Fr.app N41 N44q
        have w45 : own_Go p e below f0 T44 m 28 #[.val (.ref a), .val (.ref a), .val (.int (own_nx (Int32.ofNat yc.length) (cs.drop yc.length))), .val (.ref b7), .val (.int (Int32.ofNat yc.length))] [(.int (own_nx (Int32.ofNat yc.length) (cs.drop yc.length)))] := fun t k => by
          refine w43 t ?_
          refine zal X41 Hb (D13 30) rfl rfl <| ziL X41 Hb (D13 31) rfl <| st44 _ <| zis X44 Hb (D13 33) rfl <| zgo X44 Hb (D13 34) 27 (by decide) rfl <| zil X44 Hb (D13 16) rfl ?_
          exact k
        by_cases hc28_46 : (own_nx (Int32.ofNat yc.length) (cs.drop yc.length)) < (0 : Int32)
        · obtain ⟨_, T47, Lc47, X47, hQ47, st47⟩ := own_cV X44 Hb hZ hown hml (L := #[.val (.ref a), .val (.ref a), .val (.int (own_nx (Int32.ofNat yc.length) (cs.drop yc.length))), .val (.ref b7), .val (.int (Int32.ofNat yc.length))]) rfl (rm15_U hw a tt kb (Int32.ofNat (2 * cs.length)) (own_wb cs) (Int32.ofNat cs.length) O SU E_a F_v_a F_c_a V_tt (own_nq3 _ (by omega)).2.2.2.2.2.2) (W 65 rfl) (W 66 rfl) (W 68 rfl) (W 67 rfl) (W 8 rfl) (W 69 rfl) pd10 eh44 E_a (D13 39) [] [.int (Int32.ofNat yc.length), .ref a, .ref b7] 3
          obtain ⟨rfl, N47q, eh47⟩ := hQ47
          have N47 := Fr.app N44 N47q
          have lt48_a := E_a.lt
          have lt48_tt := V_tt.lt
          have lt48_b7 := A7.lt
          obtain ⟨_, T48, Lc48, X48, hQ48, st48⟩ := own_cV X47 Hb hZ hown hml (L := #[.val (.ref a), .val (.ref a), .val (.int (own_nx (Int32.ofNat yc.length) (cs.drop yc.length))), .val (.ref b7), .val (.int (Int32.ofNat yc.length))]) rfl (rm42 hw b7 a tt tn_41 kb kn_41 (1 : Int32) (Int32.ofNat (2 * cs.length)) (own_wb yc) cs yc cs.length O SU E_a F_v_a F_c_a V_tt A7 F_v_a_c41 F_c_a_c41 F_n_a_c41 F_m_a_c41 V_tn_c41 E_tn_c41 ne_tt_tn_41 (Or.inr ⟨rfl, rfl, rfl⟩) hB3 hI3.1 (Nat.le_refl _) hG (fun q => absurd q (by decide)) g_b7 g_tn_41) (W 207 rfl) (W 208 rfl) (W 210 rfl) (W 209 rfl) (W 191 rfl) (W 211 rfl) pd36 eh47 A7 (D13 40) [.ref a, .int (Int32.ofNat yc.length), .int (Int32.ofNat cs.length)] [] 0
          obtain ⟨tn_48, kn_48, cdn_48, nbn_48, lsn_48, rfl, N48q, K48, F_v_a_c48, F_c_a_c48, F_n_a_c48, F_m_a_c48, V_tn_c48, E_tn_c48, sf_48, gn_48, hSn_48, hcn_48⟩ := hQ48
          have N48 := Fr.app N47 N48q
          have E_a := E_a.keep K48
          have F_v_a := F_v_a.keep K48 (ninS ne_a_b7 (ninS ne_a_tn_41 nin0))
          have F_c_a := F_c_a.keep K48 (ninS ne_a_b7 (ninS ne_a_tn_41 nin0))
          have V_tt := V_tt.keep K48 (ninS ne_tt_b7 (ninS ne_tt_tn_41 nin0))
          have A7 := A7.keep K48
          have E_z_c9 := E_z_c9.keep K48
          have E_tn_c14 := E_tn_c14.keep K48
          have E_tn_c15 := E_tn_c15.keep K48
          have E_tn_c27 := E_tn_c27.keep K48
          have E_tn_c28 := E_tn_c28.keep K48
          have E_tn_c40 := E_tn_c40.keep K48
          have E_tn_c41 := E_tn_c41.keep K48
          have ne_a_tn_48 : a ≠ tn_48 := own_nt sf_48 ne_a_tn_41 lt48_a
          have ne_tt_tn_48 : tt ≠ tn_48 := own_nt sf_48 ne_tt_tn_41 lt48_tt
          have ne_b7_tn_48 : b7 ≠ tn_48 := own_nt sf_48 ne_b7_tn_41 lt48_b7
          have iw_tn_48 : tn_48 ∈ ([] : List Addr) ∨ h0.size ≤ tn_48 := own_iw sf_48 iw_tn_41 K.1
          have g_tn_48 := gn_48
          have O := O.keep K48 (allS g_b7 (allS g_tn_41 all0))
          have K := K.trans K48 (allS (Or.inr z_b7) (allS iw_tn_41 all0))
          obtain ⟨hnb, hls⟩ := own_SBU hSn_48 (hcn_48 rfl)
          rw [own_fin hB3 hI3 hc28_46] at hls
          rw [hnb, hls] at V_tn_c48
          rw [hcn_48 rfl] at F_c_a_c48
          have lt49_a := E_a.lt
          have lt49_tt := V_tt.lt
          have lt49_b7 := A7.lt
          have lt49_z_9 := E_z_c9.lt
          have lt49_tn_14 := E_tn_c14.lt
          have lt49_tn_15 := E_tn_c15.lt
          have lt49_tn_27 := E_tn_c27.lt
          have lt49_tn_28 := E_tn_c28.lt
          have lt49_tn_40 := E_tn_c40.lt
          have lt49_tn_41 := E_tn_c41.lt
          have lt49_tn_48 := V_tn_c48.lt
          have lt49_a := E_a.lt
          have lt49_tt := V_tt.lt
          have lt49_b7 := A7.lt
          have lt49_z_9 := E_z_c9.lt
          have lt49_tn_14 := E_tn_c14.lt
          have lt49_tn_15 := E_tn_c15.lt
          have lt49_tn_27 := E_tn_c27.lt
          have lt49_tn_28 := E_tn_c28.lt
          have lt49_tn_40 := E_tn_c40.lt
          have lt49_tn_41 := E_tn_c41.lt
          have lt49_tn_48 := V_tn_c48.lt
          obtain ⟨_, T49, Lc49, X49, hQ49, st49⟩ := own_cV X48 Hb hZ hown hml (L := #[.val (.ref a), .val (.ref a), .val (.int (own_nx (Int32.ofNat yc.length) (cs.drop yc.length))), .val (.ref b7), .val (.int (Int32.ofNat yc.length))]) rfl (rm59 hw b7 tn_48 kn_48 cs.length (own_wb (own_fix cs)) O SU A7 F_v_a_c48 F_c_a_c48 F_n_a_c48 F_m_a_c48 V_tn_c48 E_tn_c48 hB3) (W 291 rfl) (W 292 rfl) (W 294 rfl) (W 293 rfl) (W 191 rfl) (W 295 rfl) pd38 rfl A7 (D13 41) [] [] 0
          obtain ⟨z_49, y_49, ky_49, rfl, N49q, K49, E_z_c49, F_v_z_c49, F_c_z_c49, V_y_c49, gz_49, gn_49, gy_49, gm_49⟩ := hQ49
          have N49 := Fr.app N48 N49q
          have E_a := E_a.keep K49
          have F_v_a := F_v_a.keep K49 nin0
          have F_c_a := F_c_a.keep K49 nin0
          have V_tt := V_tt.keep K49 nin0
          have A7 := A7.keep K49
          have E_z_c9 := E_z_c9.keep K49
          have E_tn_c14 := E_tn_c14.keep K49
          have E_tn_c15 := E_tn_c15.keep K49
          have E_tn_c27 := E_tn_c27.keep K49
          have E_tn_c28 := E_tn_c28.keep K49
          have E_tn_c40 := E_tn_c40.keep K49
          have E_tn_c41 := E_tn_c41.keep K49
          have F_v_a_c48 := F_v_a_c48.keep K49 nin0
          have F_c_a_c48 := F_c_a_c48.keep K49 nin0
          have F_n_a_c48 := F_n_a_c48.keep K49 nin0
          have F_m_a_c48 := F_m_a_c48.keep K49 nin0
          have V_tn_c48 := V_tn_c48.keep K49 nin0
          have E_tn_c48 := E_tn_c48.keep K49
          have ne_a_z_49 : a ≠ z_49 := Nat.ne_of_lt (Nat.lt_of_lt_of_le lt49_a gz_49)
          have ne_tt_z_49 : tt ≠ z_49 := Nat.ne_of_lt (Nat.lt_of_lt_of_le lt49_tt gz_49)
          have ne_b7_z_49 : b7 ≠ z_49 := Nat.ne_of_lt (Nat.lt_of_lt_of_le lt49_b7 gz_49)
          have ne_z_9_z_49 : z_9 ≠ z_49 := Nat.ne_of_lt (Nat.lt_of_lt_of_le lt49_z_9 gz_49)
          have ne_tn_14_z_49 : tn_14 ≠ z_49 := Nat.ne_of_lt (Nat.lt_of_lt_of_le lt49_tn_14 gz_49)
          have ne_tn_15_z_49 : tn_15 ≠ z_49 := Nat.ne_of_lt (Nat.lt_of_lt_of_le lt49_tn_15 gz_49)
          have ne_tn_27_z_49 : tn_27 ≠ z_49 := Nat.ne_of_lt (Nat.lt_of_lt_of_le lt49_tn_27 gz_49)
          have ne_tn_28_z_49 : tn_28 ≠ z_49 := Nat.ne_of_lt (Nat.lt_of_lt_of_le lt49_tn_28 gz_49)
          have ne_tn_40_z_49 : tn_40 ≠ z_49 := Nat.ne_of_lt (Nat.lt_of_lt_of_le lt49_tn_40 gz_49)
          have ne_tn_41_z_49 : tn_41 ≠ z_49 := Nat.ne_of_lt (Nat.lt_of_lt_of_le lt49_tn_41 gz_49)
          have ne_tn_48_z_49 : tn_48 ≠ z_49 := Nat.ne_of_lt (Nat.lt_of_lt_of_le lt49_tn_48 gz_49)
          have g_z_49 := gn_49
          have z_z_49 : h0.size ≤ z_49 := Nat.le_trans K.1 gz_49
          have ne_a_y_49 : a ≠ y_49 := Nat.ne_of_lt (Nat.lt_of_lt_of_le lt49_a gy_49)
          have ne_tt_y_49 : tt ≠ y_49 := Nat.ne_of_lt (Nat.lt_of_lt_of_le lt49_tt gy_49)
          have ne_b7_y_49 : b7 ≠ y_49 := Nat.ne_of_lt (Nat.lt_of_lt_of_le lt49_b7 gy_49)
          have ne_z_9_y_49 : z_9 ≠ y_49 := Nat.ne_of_lt (Nat.lt_of_lt_of_le lt49_z_9 gy_49)
          have ne_tn_14_y_49 : tn_14 ≠ y_49 := Nat.ne_of_lt (Nat.lt_of_lt_of_le lt49_tn_14 gy_49)
          have ne_tn_15_y_49 : tn_15 ≠ y_49 := Nat.ne_of_lt (Nat.lt_of_lt_of_le lt49_tn_15 gy_49)
          have ne_tn_27_y_49 : tn_27 ≠ y_49 := Nat.ne_of_lt (Nat.lt_of_lt_of_le lt49_tn_27 gy_49)
          have ne_tn_28_y_49 : tn_28 ≠ y_49 := Nat.ne_of_lt (Nat.lt_of_lt_of_le lt49_tn_28 gy_49)
          have ne_tn_40_y_49 : tn_40 ≠ y_49 := Nat.ne_of_lt (Nat.lt_of_lt_of_le lt49_tn_40 gy_49)
          have ne_tn_41_y_49 : tn_41 ≠ y_49 := Nat.ne_of_lt (Nat.lt_of_lt_of_le lt49_tn_41 gy_49)
          have ne_tn_48_y_49 : tn_48 ≠ y_49 := Nat.ne_of_lt (Nat.lt_of_lt_of_le lt49_tn_48 gy_49)
          have g_y_49 := gm_49
          have z_y_49 : h0.size ≤ y_49 := Nat.le_trans K.1 gy_49
          have O := O.keep K49 all0
          have K := K.trans K49 all0
          have w50 : own_Go p e below f0 T49 m 76 #[.val (.ref a), .val (.ref z_49), .val (.int (own_nx (Int32.ofNat yc.length) (cs.drop yc.length))), .val (.ref b7), .val (.int (Int32.ofNat yc.length))] [.ref z_49] := fun t k => by
            refine w45 t ?_
            refine ziy X44 Hb (D13 17) ((if0 _ _).trans (tlt hc28_46).1) 60 (by decide) rfl <| zal X44 Hb (D13 35) rfl rfl <| zal X44 Hb (D13 36) rfl rfl <| ziL X44 Hb (D13 37) rfl <| zal X44 Hb (D13 38) rfl rfl <| st47 _ <| st48 _ <| st49 _ ?_
            refine zas X49 Hb (D13 42) rfl rfl <| zal X49 Hb (D13 43) rfl rfl ?_
            exact k
          exact own_oR X49 Hb Bd.notSynchronized Bd.returns rfl w50 (D13 44) rfl (by decide) (by decide) ⟨z_49, y_49, ky_49, rfl, N49, K, E_z_c49, F_v_z_c49, F_c_z_c49, V_y_c49⟩
        · obtain ⟨ed, hed, hled, hltd, -, -⟩ := own_turn hB3 hI3 hc28_46; omega
def own_cv (cs : List Int32) : List Value := cs.map Value.int
theorem own_cvg {cs : List Int32} {i : Nat} {j x : Int32} {r : List Int32} (hj : j = Int32.ofNat i) (hB3 : cs.length ≤ 3) (hr : cs.drop i = x :: r) : (own_cv cs).getD j.toNatClampNeg (.int 0) = .int x ∧ (¬ j < 0 ∧ j < Int32.ofNat cs.length) ∧ j.toNatClampNeg = i := by
  subst hj
  have D := (own_dl hr).1
  have A := own_ar cs.length (by omega) i D
  have t : (Int32.ofNat i).toNatClampNeg = i := (own_ar2c i (by omega) i (by omega)).2
  refine ⟨?_, ⟨A.2.2.2.1, A.2.2.2.2.1⟩, t⟩
  have q : cs[i]? = some x := by
    rw [show cs[i]? = (cs.drop i)[0]? by simp, hr]
    rfl
  rw [t, own_cv, List.getD_eq_getElem?_getD, List.getElem?_map, q]
  rfl
theorem own_co3 : ∀ n < 4, 0 < n → (own_co (Int32.ofNat n) (Int32.ofNat n)).toInt8.toInt32 = 0 ∧ (own_co (Int32.ofNat n) (Int32.ofNat (2 * n))).toInt8.toInt32 = 1 ∧ ¬ Int32.ofNat n = (0 : Int32) := by decide +kernel
theorem own_lbe (cs : List Int32) : own_lb cs = cs.map fun c => Value.int (StrChars.lo8 c) := by simp only [own_lb, own_bb]
theorem own_eqn {n q : Nat} (hB3 : n ≤ 3) (hq : q ≤ n) (h : Int32.ofNat q = Int32.ofNat n) : q = n := by
  have a := (own_ar2c q (by omega) q (by omega)).2
  have b := (own_ar2c n (by omega) n (by omega)).2
  rw [h] at a
  omega
def L6 : List (Nat × Instr × Nat) := [(0, .iconst 0, 1), (1, .istore 5, 2), (3, .iload 5, 2), (5, .iload 4, 2), (7, .if_icmp .ge 37, 3), (10, .aload_n 0, 1), (11, .iload_n 1, 1), (12, .caload, 1), (13, .istore 6, 2), (15, .iload 6, 2), (17, .sipush 255, 3), (20, .if_icmp .le 6, 3), (23, .iload 5, 2), (25, .ireturn, 1), (26, .aload_n 2, 1), (27, .iload_n 3, 1), (28, .iload 6, 2), (30, .i2b, 1), (31, .bastore, 1), (32, .iinc 1 1, 3), (35, .iinc 3 1, 3), (38, .iinc 5 1, 3), (41, .goto (-38), 3), (44, .iload 4, 2), (46, .ireturn, 1)]
theorem D6 : ∀ k : Nat, own_PP jdk_52_method_21_code L6[k]? := own_dd (by decide +kernel)
def own_F26 (x0 : Addr) (x1 : Int32) (x2 : Addr) (x3 : Int32) (x4 : Int32) (x5 : Int32) (x6 : Int32) : Array Slot := #[.val (.ref x0), .val (.int x1), .val (.ref x2), .val (.int x3), .val (.int x4), .val (.int x5), .val (.int x6)]
def own_F27 (x0 : Addr) (x1 : Int32) (x2 : Addr) (x3 : Int32) (x4 : Int32) (x5 : Int32) (x6 : Slot) : Array Slot := #[.val (.ref x0), .val (.int x1), .val (.ref x2), .val (.int x3), .val (.int x4), .val (.int x5), x6]
theorem fr6 {p : Program} {e : Env} {R : Room} {s : State} {m : MethodId} {args : Array Value} {below : List Frame} {meth : Method} {c : Code} {T f0 : State} {locs : List Loc} {cells slots : Nat} (hw : own_W a0 Z) (b d : Addr) (jj : Int32) (x6 : Slot) (kc kd : ClassId) (cs zs : List Int32) (ii : Nat) (xx : Int32) (rt : List Int32) {h0 : Heap} {n0 : Nat} (X0 : Stand p l e R s m args below meth c T locs cells slots) (hx : p.tables.exec = Jvm.exec) (Hb : own_H p c jdk_52_method_21_code) (hZ : Z.Warmed39 s.vm) (hown : s.vm.findClass own_n6.cls = some m.cls) (hml : c.maxLocals = 7) (hR : 0 ≤ R.frames ∧ 0 ≤ R.locals ∧ cells ≤ R.cells ∧ slots ≤ R.slots) (e0 : T.heap = h0) (N0 : Fr n0 locs) (O : Old Z n0 h0) (V_b : Arv Z h0 b kc .char (Int32.ofNat cs.length) (own_cv cs) (.int 0)) (V_d : Arv Z h0 d kd .byte (Int32.ofNat cs.length) (own_lb zs) (.int 0)) (nbd : b ≠ d) (hj : jj = Int32.ofNat ii) (hzl : zs.length = ii) (hB3 : cs.length ≤ 3) (hr : cs.drop ii = xx :: rt) (hw1 : ¬ (255 : Int32) < xx) (ok_x6 : own_OK x6) (g_d : n0 ≤ d) (pre0 : own_Go p e below f0 T m 3 (own_F27 b jj d jj (Int32.ofNat cs.length) jj x6) []) : ∃ (T' : State) (L' : List Loc), Stand p l e R s m args below meth c T' L' cells slots ∧ Fr n0 L' ∧ Keep h0 T'.heap [d] ∧ Arv Z T'.heap d kd .byte (Int32.ofNat cs.length) (own_lb (zs ++ [xx])) (.int 0) ∧ own_Go p e below f0 T' m 3 (own_F26 b (jj + (1 : Int32)) d (jj + (1 : Int32)) (Int32.ofNat cs.length) (jj + (1 : Int32)) xx) [] := by
  have hby := Hb.2
  have W := own_q hw
  have K := Keep.refl h0 [d]
  have AT := own_cvg hj hB3 hr
  have B1 : own_El Z h0 b .char jj (.int xx) := own_el V_b AT.2.1 AT.1
  have V_d := V_d.pad (pad_rep _ _ 1)
  obtain ⟨T2, h2, X2, e2, W2, V_d, st2⟩ := own_sB X0 Hb hZ e0 V_d (x := (xx.toInt8.toInt32)) (L := (own_F26 b jj d jj (Int32.ofNat cs.length) jj xx)) (S := []) AT.2.1 (by rw [AT.2.2, own_lbl, hzl]) (own_pl _ 0 _) (D6 18) (own_pw _ _ _)
  have V_b := V_b.other W2 nbd
  have O := O.wr W2 g_d
  have K := K.wr W2 (Or.inl (List.mem_of_getElem? (i := 0) rfl))
  have N2 := Fr.snoc X2 N0 g_d
  have w3 : own_Go p e below f0 T2 m 3 (own_F26 b (jj + (1 : Int32)) d (jj + (1 : Int32)) (Int32.ofNat cs.length) (jj + (1 : Int32)) xx) [] := fun t k => by
    refine pre0 t ?_
    refine ziL X0 Hb (D6 2) rfl <| ziL X0 Hb (D6 3) rfl <| zcn X0 Hb (D6 4) (tlt (AT.2.1.2 : jj < (Int32.ofNat cs.length))).2.1 <| zal X0 Hb (D6 5) rfl rfl <| zil X0 Hb (D6 6) rfl <| zca X0 Hb hZ e0 B1 (D6 7) <| ziS X0 Hb (L' := (own_F26 b jj d jj (Int32.ofNat cs.length) jj xx)) (D6 8) (by rcases ok_x6 with h | ⟨v, h⟩ <;> rw [h] <;> rfl) <| ziL X0 Hb (D6 9) rfl ?_
    refine zsp X0 Hb (D6 10) 255 rfl <| zcy X0 Hb (D6 11) (flt (hw1 : ¬ ((255 : Int32) < xx))).2.2.2 26 (by decide) rfl <| zal X0 Hb (D6 14) rfl rfl <| zil X0 Hb (D6 15) rfl <| ziL X0 Hb (D6 16) rfl <| zib X0 Hb (D6 17) <| st2 _ <| zii X2 Hb (L' := (own_F26 b (jj + (1 : Int32)) d jj (Int32.ofNat cs.length) jj xx)) (D6 19) rfl (jj + (1 : Int32)) rfl rfl ?_
    refine zii X2 Hb (L' := (own_F26 b (jj + (1 : Int32)) d (jj + (1 : Int32)) (Int32.ofNat cs.length) jj xx)) (D6 20) rfl (jj + (1 : Int32)) rfl rfl <| zii X2 Hb (L' := (own_F26 b (jj + (1 : Int32)) d (jj + (1 : Int32)) (Int32.ofNat cs.length) (jj + (1 : Int32)) xx)) (D6 21) rfl (jj + (1 : Int32)) rfl rfl <| zgo X2 Hb (D6 22) 3 (by decide) rfl ?_
    exact k
  exact ⟨T2, _, X2, N2, by rw [e2]; exact K, by rw [e2]; exact (by rw [own_lbs]; exact V_d), w3⟩
theorem lp6 {p : Program} {e : Env} {R : Room} {s : State} {m : MethodId} {args : Array Value} {below : List Frame} {meth : Method} {c : Code} {f0 : State} {cells slots : Nat} (hw : own_W a0 Z) (b d : Addr) (kc kd : ClassId) (cs : List Int32) {n0 : Nat} (hx : p.tables.exec = Jvm.exec) (Hb : own_H p c jdk_52_method_21_code) (hZ : Z.Warmed39 s.vm) (hown : s.vm.findClass own_n6.cls = some m.cls) (hml : c.maxLocals = 7) (hR : 0 ≤ R.frames ∧ 0 ≤ R.locals ∧ cells ≤ R.cells ∧ slots ≤ R.slots) (nbd : b ≠ d) (hB3 : cs.length ≤ 3) (g_d : n0 ≤ d) : ∀ (k : Nat) (T : State) (locs : List Loc) (h : Heap) (ii : Nat) (jj : Int32) (x6 : Slot), cs.length - ii < k → ii ≤ cs.length → jj = Int32.ofNat ii → own_OK x6 → Stand p l e R s m args below meth c T locs cells slots → T.heap = h → Fr n0 locs → Old Z n0 h → Arv Z h b kc .char (Int32.ofNat cs.length) (own_cv cs) (.int 0) → Arv Z h d kd .byte (Int32.ofNat cs.length) (own_lb (cs.take ii)) (.int 0) → (∀ c ∈ cs.take ii, ¬ (255 : Int32) < c) → own_Go p e below f0 T m 3 (own_F27 b jj d jj (Int32.ofNat cs.length) jj x6) [] → ∃ (T' : State) (L' : List Loc) (qq : Nat) (y6 : Slot), Stand p l e R s m args below meth c T' L' cells slots ∧ Fr n0 L' ∧ own_OK y6 ∧ Keep h T'.heap [d] ∧ Arv Z T'.heap d kd .byte (Int32.ofNat cs.length) (own_lb (cs.take qq)) (.int 0) ∧ qq ≤ cs.length ∧ (∀ c ∈ cs.take qq, ¬ (255 : Int32) < c) ∧ (qq = cs.length ∨ ∃ xx rt, cs.drop qq = xx :: rt ∧ (255 : Int32) < xx) ∧ own_Go p e below f0 T' m 3 (own_F27 b (Int32.ofNat qq) d (Int32.ofNat qq) (Int32.ofNat cs.length) (Int32.ofNat qq) y6) [] := by
  intro k
  induction k with
  | zero => intro T locs h ii jj x6 hk; omega
  | succ k ih =>
    intro T locs h ii jj x6 hk hi hj ok X e0 N O V_b V_d hL pre
    match hr : cs.drop ii with
    | [] =>
      have q := congrArg List.length hr
      simp at q
      subst hj
      exact ⟨T, locs, ii, x6, X, N, ok, by rw [e0]; exact Keep.refl h [d], by rw [e0]; exact V_d, hi, hL, Or.inl (by omega), pre⟩
    | xx :: rt =>
      by_cases hce : (255 : Int32) < xx
      · subst hj
        exact ⟨T, locs, ii, x6, X, N, ok, by rw [e0]; exact Keep.refl h [d], by rw [e0]; exact V_d, hi, hL, Or.inr ⟨xx, rt, hr, hce⟩, pre⟩
      · have D := own_dl hr
        obtain ⟨T1, L1, X1, N1, K1, V1, w1⟩ := fr6 hw b d jj x6 kc kd cs (cs.take ii) ii xx rt X hx Hb hZ hown hml hR e0 N O V_b V_d nbd hj (own_tkl (by omega)) hB3 hr hce ok g_d pre
        have hL2 : ∀ c ∈ cs.take (ii + 1), ¬ (255 : Int32) < c := by
          rw [own_tk hr]
          intro c hc
          rcases List.mem_append.mp hc with q | q
          · exact hL c q
          · cases List.mem_singleton.mp q
            exact hce
        obtain ⟨T2, L2, qq, y6, X2, N2, ok2, K2, V2, q1, q2, q3, w2⟩ := ih T1 L1 T1.heap (ii + 1) _ _ (by omega) (by omega) (own_sj hj) (own_okI _) X1 rfl N1 (O.keep K1 (allS g_d all0)) (V_b.keep K1 (ninS nbd nin0)) (by rw [own_tk hr]; exact V1) hL2 w1
        exact ⟨T2, L2, qq, y6, X2, N2, ok2, K1.trans K2 (allS (Or.inl (List.mem_of_getElem? (i := 0) rfl)) all0), V2, q1, q2, q3, w2⟩
def own_F28 (x0 : Addr) (x1 : Int32) (x2 : Addr) (x3 : Int32) (x4 : Int32) (x5 : Int32) : Array Slot := #[.val (.ref x0), .val (.int x1), .val (.ref x2), .val (.int x3), .val (.int x4), .val (.int x5), .unset]
theorem rm6 (hw : own_W a0 Z) (b d : Addr) (kc kd : ClassId) (cs : List Int32) {h0 : Heap} {n0 : Nat} (O0 : Old Z n0 h0) (V_b : Arv Z h0 b kc .char (Int32.ofNat cs.length) (own_cv cs) (.int 0)) (V_d : Arv Z h0 d kd .byte (Int32.ofNat cs.length) [] (.int 0)) (nbd : b ≠ d) (hB3 : cs.length ≤ 3) (g_d : n0 ≤ d) : own_M l own_n6 jdk_52_method_21_code 7 (some .int) (own_rm 0 0 0 0) Z h0 #[.ref b, .int 0, .ref d, .int 0, .int (Int32.ofNat cs.length)] (fun v h L => ∃ qq : Nat, v = some (.int (Int32.ofNat qq)) ∧ Fr n0 L ∧ Keep h0 h [d] ∧ Arv Z h d kd .byte (Int32.ofNat cs.length) (own_lb (cs.take qq)) (.int 0) ∧ qq ≤ cs.length ∧ (∀ c ∈ cs.take qq, ¬ (255 : Int32) < c) ∧ ((qq = cs.length ∨ ∃ xx rt, cs.drop qq = xx :: rt ∧ (255 : Int32) < xx))) := by
  refine own_body (L0 := #[.val (.ref b), .val (.int 0), .val (.ref d), .val (.int 0), .val (.int (Int32.ofNat cs.length)), .unset, .unset]) (plainFor_of_name pn_java_lang_StringUTF16) rfl rfl ?_
  intro p e s m below meth c s₁ f0 Bd hx Hb hml hZ hown X0 e0 pre0
  have N0 := Fr.nil n0
  have O := O0
  have K := Keep.refl h0 [d]
  have w1 : own_Go p e below f0 s₁ m 3 (own_F28 b (0 : Int32) d (0 : Int32) (Int32.ofNat cs.length) (0 : Int32)) [] := fun t k => by
    refine pre0 t ?_
    refine zic X0 Hb (D6 0) 0 rfl <| ziS X0 Hb (L' := (own_F28 b (0 : Int32) d (0 : Int32) (Int32.ofNat cs.length) (0 : Int32))) (D6 1) rfl ?_
    exact k
  obtain ⟨T2, L2, qq, y6, X2, N2, ok_y6, K2, V_d2, hq1, hq2, hq3, w2⟩ := lp6 hw b d kc kd cs hx Hb hZ hown hml ⟨by decide, by decide, by decide, by decide⟩ nbd hB3 g_d _ _ _ _ 0 0 _ (Nat.lt_succ_self _) (Nat.zero_le _) rfl own_okU X0 e0 N0 O V_b V_d (by intro c hc; simp at hc) w1
  have V_b := V_b.keep K2 (ninS nbd nin0)
  have O := O.keep K2 (allS g_d all0)
  have K := K.trans K2 (allS (Or.inl (List.mem_of_getElem? (i := 0) rfl)) all0)
  have w3 : own_Go p e below f0 T2 m 7 (own_F27 b (Int32.ofNat qq) d (Int32.ofNat qq) (Int32.ofNat cs.length) (Int32.ofNat qq) y6) [.int (Int32.ofNat cs.length), .int (Int32.ofNat qq)] := fun t k => by
    refine w2 t ?_
    refine ziL X2 Hb (D6 2) rfl <| ziL X2 Hb (D6 3) rfl ?_
    exact k
  by_cases hc7_4 : (Int32.ofNat qq) < (Int32.ofNat cs.length)
  · have hqe : qq < cs.length := (own_ar2c cs.length (by omega) qq (by omega)).1.mp hc7_4
    obtain ⟨xx, rt, hr, hce⟩ := hq3.resolve_left (by omega)
    have AT := own_cvg rfl hB3 hr
    have B5 : own_El Z (T2.heap) b .char (Int32.ofNat qq) (.int xx) := own_el V_b AT.2.1 AT.1
    have w6 : own_Go p e below f0 T2 m 25 (own_F26 b (Int32.ofNat qq) d (Int32.ofNat qq) (Int32.ofNat cs.length) (Int32.ofNat qq) xx) [.int (Int32.ofNat qq)] := fun t k => by
      refine w3 t ?_
      refine zcn X2 Hb (D6 4) (tlt hc7_4).2.1 <| zal X2 Hb (D6 5) rfl rfl <| zil X2 Hb (D6 6) rfl <| zca X2 Hb hZ rfl B5 (D6 7) <| ziS X2 Hb (L' := (own_F26 b (Int32.ofNat qq) d (Int32.ofNat qq) (Int32.ofNat cs.length) (Int32.ofNat qq) xx)) (D6 8) (by rcases ok_y6 with h | ⟨v, h⟩ <;> rw [h] <;> rfl) <| ziL X2 Hb (D6 9) rfl <| zsp X2 Hb (D6 10) 255 rfl <| zcn X2 Hb (D6 11) (tlt (hce : (255 : Int32) < xx)).2.2.2 ?_
      refine ziL X2 Hb (D6 12) rfl ?_
      exact k
    exact own_oI X2 Hb Bd.notSynchronized Bd.returns w6 (D6 13) rfl (by decide) (by decide) ⟨qq, rfl, N2, K, V_d2, hq1, hq2, hq3⟩
  · have w7 : own_Go p e below f0 T2 m 46 (own_F27 b (Int32.ofNat qq) d (Int32.ofNat qq) (Int32.ofNat cs.length) (Int32.ofNat qq) y6) [.int (Int32.ofNat cs.length)] := fun t k => by
      refine w3 t ?_
      refine zcy X2 Hb (D6 4) (flt hc7_4).2.1 44 (by decide) rfl <| ziL X2 Hb (D6 23) rfl ?_
      exact k
    have hqe : qq = cs.length := by have q := (own_ar2c cs.length (by omega) qq (by omega)).1; have w := hc7_4; rw [q] at w; omega
    exact own_oI X2 Hb Bd.notSynchronized Bd.returns w7 (D6 24) rfl (by decide) (by decide) ⟨qq, (by rw [hqe]), N2, K, V_d2, hq1, hq2, hq3⟩
def L33 : List (Nat × Instr × Nat) := [(0, .iload_n 2, 1), (1, .invokestatic 107, 3), (4, .astore_n 3, 1), (5, .iconst 0, 1), (6, .istore 4, 2), (8, .iload 4, 2), (10, .iload_n 2, 1), (11, .if_icmp .ge 21, 3), (14, .aload_n 3, 1), (15, .iload 4, 2), (17, .aload_n 0, 1), (18, .iload_n 1, 1), (19, .caload, 1), (20, .invokestatic 111, 3), (23, .iinc 1 1, 3), (26, .iinc 4 1, 3), (29, .goto (-21), 3), (32, .aload_n 3, 1), (33, .areturn, 1)]
theorem D33 : ∀ k : Nat, own_PP jdk_52_method_14_code L33[k]? := own_dd (by decide +kernel)
theorem fr33 {p : Program} {e : Env} {R : Room} {s : State} {m : MethodId} {args : Array Value} {below : List Frame} {meth : Method} {c : Code} {T f0 : State} {locs : List Loc} {cells slots : Nat} (hw : own_W a0 Z) (b d : Addr) (jj : Int32) (kc kd : ClassId) (cs zs : List Int32) (ii : Nat) (xx : Int32) (rt : List Int32) {zc : Int32} {fm : Value} {fn : Value} {u8 : Addr} {h0 : Heap} {n0 : Nat} (X0 : Stand p l e R s m args below meth c T locs cells slots) (hx : p.tables.exec = Jvm.exec) (Hb : own_H p c jdk_52_method_14_code) (hZ : Z.Warmed39 s.vm) (hown : s.vm.findClass own_n33.cls = some m.cls) (hml : c.maxLocals = 5) (hR : 1 ≤ R.frames ∧ 14 ≤ R.locals ∧ cells ≤ R.cells ∧ slots ≤ R.slots) (e0 : T.heap = h0) (N0 : Fr n0 locs) (O : Old Z n0 h0) (SU : own_SU Z zc fm fn u8) (V_b : Arv Z h0 b kc .char (Int32.ofNat cs.length) (own_cv cs) (.int 0)) (V_d : Arv Z h0 d kd .byte (Int32.ofNat (2 * cs.length)) (own_wb zs) (.int 0)) (nbd : b ≠ d) (hj : jj = Int32.ofNat ii) (hzl : zs.length = ii) (hB3 : cs.length ≤ 3) (hr : cs.drop ii = xx :: rt) (g_d : n0 ≤ d) (pre0 : own_Go p e below f0 T m 8 #[.val (.ref b), .val (.int jj), .val (.int (Int32.ofNat cs.length)), .val (.ref d), .val (.int jj)] []) : ∃ (T' : State) (L' : List Loc), Stand p l e R s m args below meth c T' L' cells slots ∧ Fr n0 L' ∧ Keep h0 T'.heap [d] ∧ Arv Z T'.heap d kd .byte (Int32.ofNat (2 * cs.length)) (own_wb (zs ++ [xx])) (.int 0) ∧ own_Go p e below f0 T' m 8 #[.val (.ref b), .val (.int (jj + (1 : Int32))), .val (.int (Int32.ofNat cs.length)), .val (.ref d), .val (.int (jj + (1 : Int32)))] [] := by
  have hby := Hb.2
  have W := own_q hw
  have K := Keep.refl h0 [d]
  have AT := own_cvg hj hB3 hr
  have B1 : own_El Z h0 b .char jj (.int xx) := own_el V_b AT.2.1 AT.1
  obtain ⟨_, T2, Lc2, X2, hQ2, st2⟩ := own_cS X0 Hb hZ hown hml (L := #[.val (.ref b), .val (.int jj), .val (.int (Int32.ofNat cs.length)), .val (.ref d), .val (.int jj)]) rfl (rm34_g hw d jj xx kd (Int32.ofNat (2 * cs.length)) zs cs.length O SU V_d (by rw [hzl]; exact hj) rfl (by rw [hzl]; exact (own_dl hr).1) hB3 g_d) (W 162 rfl) (W 163 rfl) (W 22 rfl) (W 164 rfl) pd21 e0 (D33 13) [.ref d, .int jj, .int xx] [] 0 (hf := ⟨Nat.le_trans (by decide) hR.1, Nat.le_trans (by decide) hR.2.1, hR.2.2.1, hR.2.2.2⟩)
  obtain ⟨rfl, N2q, K2, V_d_c2⟩ := hQ2
  have N2 := Fr.app N0 N2q
  have V_b := V_b.keep K2 (ninS nbd nin0)
  have O := O.keep K2 (allS g_d all0)
  have K := K.trans K2 (allS (Or.inl (List.mem_of_getElem? (i := 0) rfl)) all0)
  have w3 : own_Go p e below f0 T2 m 8 #[.val (.ref b), .val (.int (jj + (1 : Int32))), .val (.int (Int32.ofNat cs.length)), .val (.ref d), .val (.int (jj + (1 : Int32)))] [] := fun t k => by
    refine pre0 t ?_
    refine ziL X0 Hb (D33 5) rfl <| zil X0 Hb (D33 6) rfl <| zcn X0 Hb (D33 7) (tlt (AT.2.1.2 : jj < (Int32.ofNat cs.length))).2.1 <| zal X0 Hb (D33 8) rfl rfl <| ziL X0 Hb (D33 9) rfl <| zal X0 Hb (D33 10) rfl rfl <| zil X0 Hb (D33 11) rfl <| zca X0 Hb hZ e0 B1 (D33 12) ?_
    refine st2 _ <| zii X2 Hb (D33 14) rfl (jj + (1 : Int32)) rfl rfl <| zii X2 Hb (D33 15) rfl (jj + (1 : Int32)) rfl rfl <| zgo X2 Hb (D33 16) 8 (by decide) rfl ?_
    exact k
  exact ⟨T2, _, X2, N2, K, V_d_c2, w3⟩
theorem lp33 {p : Program} {e : Env} {R : Room} {s : State} {m : MethodId} {args : Array Value} {below : List Frame} {meth : Method} {c : Code} {f0 : State} {cells slots : Nat} (hw : own_W a0 Z) (b d : Addr) (kc kd : ClassId) (cs : List Int32) {zc : Int32} {fm : Value} {fn : Value} {u8 : Addr} {n0 : Nat} (hx : p.tables.exec = Jvm.exec) (Hb : own_H p c jdk_52_method_14_code) (hZ : Z.Warmed39 s.vm) (hown : s.vm.findClass own_n33.cls = some m.cls) (hml : c.maxLocals = 5) (hR : 1 ≤ R.frames ∧ 14 ≤ R.locals ∧ cells ≤ R.cells ∧ slots ≤ R.slots) (SU : own_SU Z zc fm fn u8) (nbd : b ≠ d) (hB3 : cs.length ≤ 3) (g_d : n0 ≤ d) : ∀ (k : Nat) (T : State) (locs : List Loc) (h : Heap) (ii : Nat) (jj : Int32), cs.length - ii < k → ii ≤ cs.length → jj = Int32.ofNat ii → Stand p l e R s m args below meth c T locs cells slots → T.heap = h → Fr n0 locs → Old Z n0 h → Arv Z h b kc .char (Int32.ofNat cs.length) (own_cv cs) (.int 0) → Arv Z h d kd .byte (Int32.ofNat (2 * cs.length)) (own_wb (cs.take ii)) (.int 0) → own_Go p e below f0 T m 8 #[.val (.ref b), .val (.int jj), .val (.int (Int32.ofNat cs.length)), .val (.ref d), .val (.int jj)] [] → ∃ (T' : State) (L' : List Loc), Stand p l e R s m args below meth c T' L' cells slots ∧ Fr n0 L' ∧ Keep h T'.heap [d] ∧ Arv Z T'.heap d kd .byte (Int32.ofNat (2 * cs.length)) (own_wb cs) (.int 0) ∧ own_Go p e below f0 T' m 8 #[.val (.ref b), .val (.int (Int32.ofNat cs.length)), .val (.int (Int32.ofNat cs.length)), .val (.ref d), .val (.int (Int32.ofNat cs.length))] [] := by
  intro k
  induction k with
  | zero => intro T locs h ii jj hk; omega
  | succ k ih =>
    intro T locs h ii jj hk hi hj X e0 N O V_b V_d pre
    match hr : cs.drop ii with
    | [] =>
      have q := congrArg List.length hr
      simp at q
      have e3 : ii = cs.length := by omega
      subst hj
      rw [e3, List.take_length] at V_d
      rw [e3] at pre
      exact ⟨T, locs, X, N, by rw [e0]; exact Keep.refl h [d], by rw [e0]; exact V_d, pre⟩
    | xx :: rt =>
      have D := own_dl hr
      obtain ⟨T1, L1, X1, N1, K1, V1, w1⟩ := fr33 hw b d jj kc kd cs (cs.take ii) ii xx rt X hx Hb hZ hown hml hR e0 N O SU V_b V_d nbd hj (own_tkl (by omega)) hB3 hr g_d pre
      obtain ⟨T2, L2, X2, N2, K2, V2, w2⟩ := ih T1 L1 T1.heap (ii + 1) _ (by omega) (by omega) (own_sj hj) X1 rfl N1 (O.keep K1 (allS g_d all0)) (V_b.keep K1 (ninS nbd nin0)) (by rw [own_tk hr]; exact V1) w1
      exact ⟨T2, L2, X2, N2, K1.trans K2 (allS (Or.inl (List.mem_of_getElem? (i := 0) rfl)) all0), V2, w2⟩
theorem rm33 (hw : own_W a0 Z) (b : Addr) (kc : ClassId) (cs : List Int32) {zc : Int32} {fm : Value} {fn : Value} {u8 : Addr} {h0 : Heap} {n0 : Nat} (O0 : Old Z n0 h0) (SU : own_SU Z zc fm fn u8) (V_b : Arv Z h0 b kc .char (Int32.ofNat cs.length) (own_cv cs) (.int 0)) (hB3 : cs.length ≤ 3) : own_M l own_n33 jdk_52_method_14_code 5 (some (.array .byte)) (own_rm 2 1 6 24) Z h0 #[.ref b, .int 0, .int (Int32.ofNat cs.length)] (fun v h L => ∃ z : Addr, ∃ kz : ClassId, v = some (.ref z) ∧ Fr n0 L ∧ Keep h0 h [] ∧ Arv Z h z kz .byte (Int32.ofNat (2 * cs.length)) (own_wb cs) (.int 0) ∧ Exa Z h z "[B" ∧ h0.size ≤ z ∧ n0 ≤ z) := by
  refine own_body (L0 := #[.val (.ref b), .val (.int 0), .val (.int (Int32.ofNat cs.length)), .unset, .unset]) (plainFor_of_name pn_java_lang_StringUTF16) rfl rfl ?_
  intro p e s m below meth c s₁ f0 Bd hx Hb hml hZ hown X0 e0 pre0
  have W := own_q hw
  have N0 := Fr.nil n0
  have O := O0
  have K := Keep.refl h0 []
  have lt1_b := V_b.lt
  obtain ⟨_, T1, Lc1, X1, hQ1, st1⟩ := own_cS X0 Hb hZ hown hml (L := #[.val (.ref b), .val (.int 0), .val (.int (Int32.ofNat cs.length)), .unset, .unset]) rfl (rm29_g hw (Int32.ofNat cs.length) cs.length O rfl hB3) (W 161 rfl) (W 137 rfl) (W 22 rfl) (W 138 rfl) pd17 e0 (D33 1) [.int (Int32.ofNat cs.length)] [] 0
  obtain ⟨z_1, kz_1, rfl, N1q, K1, V_z_c1, E_z_c1, gz_1, gn_1⟩ := hQ1
  have N1 := Fr.app N0 N1q
  have V_b := V_b.keep K1 nin0
  have ne_b_z_1 : b ≠ z_1 := Nat.ne_of_lt (Nat.lt_of_lt_of_le lt1_b gz_1)
  have g_z_1 := gn_1
  have z_z_1 : h0.size ≤ z_1 := Nat.le_trans K.1 gz_1
  have O := O.keep K1 all0
  have K := K.trans K1 all0
  have w2 : own_Go p e below f0 T1 m 8 #[.val (.ref b), .val (.int 0), .val (.int (Int32.ofNat cs.length)), .val (.ref z_1), .val (.int 0)] [] := fun t k => by
    refine pre0 t ?_
    refine zil X0 Hb (D33 0) rfl <| st1 _ <| zas X1 Hb (D33 2) rfl rfl <| zic X1 Hb (D33 3) 0 rfl <| ziS X1 Hb (D33 4) rfl ?_
    exact k
  obtain ⟨T3, L3, X3, N3, K3, V_d3, w3⟩ := lp33 hw b z_1 kc kz_1 cs hx Hb hZ hown hml ⟨by decide, by decide, by decide, by decide⟩ SU ne_b_z_1 hB3 g_z_1 _ _ _ _ 0 0 (Nat.lt_succ_self _) (Nat.zero_le _) rfl X1 rfl N1 O V_b V_z_c1 w2
  have V_b := V_b.keep K3 (ninS ne_b_z_1 nin0)
  have E_z_c1 := E_z_c1.keep K3
  have O := O.keep K3 (allS g_z_1 all0)
  have K := K.trans K3 (allS (Or.inr z_z_1) all0)
  have w4 : own_Go p e below f0 T3 m 33 #[.val (.ref b), .val (.int (Int32.ofNat cs.length)), .val (.int (Int32.ofNat cs.length)), .val (.ref z_1), .val (.int (Int32.ofNat cs.length))] [.ref z_1] := fun t k => by
    refine w3 t ?_
    refine ziL X3 Hb (D33 5) rfl <| zil X3 Hb (D33 6) rfl <| zcy X3 Hb (D33 7) (flt (Int32.lt_irrefl : ¬ ((Int32.ofNat cs.length) < (Int32.ofNat cs.length)))).2.1 32 (by decide) rfl <| zal X3 Hb (D33 17) rfl rfl ?_
    exact k
  exact own_oR X3 Hb Bd.notSynchronized Bd.returns rfl w4 (D33 18) rfl (by decide) (by decide) ⟨z_1, kz_1, rfl, N3, K, V_d3, E_z_c1, z_z_1, g_z_1⟩
def L5 : List (Nat × Instr × Nat) := [(0, .iload_n 2, 1), (1, .newarray .byte, 2), (3, .astore_n 3, 1), (4, .aload_n 0, 1), (5, .iload_n 1, 1), (6, .aload_n 3, 1), (7, .iconst 0, 1), (8, .iload_n 2, 1), (9, .invokestatic 115, 3), (12, .istore 4, 2), (14, .iload 4, 2), (16, .iload_n 2, 1), (17, .if_icmp .eq 40, 3), (20, .aload_n 0, 1), (21, .iload_n 1, 1), (22, .iload_n 2, 1), (23, .invokestatic 119, 3), (26, .astore 5, 2), (28, .aload 5, 2), (30, .iload 4, 2), (32, .invokestatic 71, 3), (35, .sipush 255, 3), (38, .if_icmp .gt 16, 3), (54, .aload 5, 2), (56, .areturn, 1), (57, .aload_n 3, 1), (58, .areturn, 1)]
theorem D5 : ∀ k : Nat, own_PP jdk_52_method_16_code L5[k]? := own_dd (by decide +kernel)
theorem pd39 : parseMethodDescriptor "([CI[BII)I" = some ⟨[(.array .char), .int, (.array .byte), .int, .int], some .int⟩ := by decide +kernel
theorem pd40 : parseMethodDescriptor "([CII)[B" = some ⟨[(.array .char), .int, .int], some (.array .byte)⟩ := by decide +kernel
theorem rm5 (hw : own_W a0 Z) (b : Addr) (kc : ClassId) (cs : List Int32) {zc : Int32} {fm : Value} {fn : Value} {u8 : Addr} {h0 : Heap} {n0 : Nat} (O0 : Old Z n0 h0) (SU : own_SU Z zc fm fn u8) (V_b : Arv Z h0 b kc .char (Int32.ofNat cs.length) (own_cv cs) (.int 0)) (hB3 : cs.length ≤ 3) (hG : own_G cs) : own_M l own_n5 jdk_52_method_16_code 6 (some (.array .byte)) (own_rm 3 2 9 40) Z h0 #[.ref b, .int 0, .int (Int32.ofNat cs.length)] (fun v h L => ∃ z : Addr, ∃ kz : ClassId, ∃ NN : Int32, ∃ wv : List Value, v = some (.ref z) ∧ Fr n0 L ∧ Keep h0 h [] ∧ Arv Z h z kz .byte NN wv (.int 0) ∧ Exa Z h z "[B" ∧ h0.size ≤ z ∧ n0 ≤ z ∧ own_CV cs NN wv) := by
  refine own_body (L0 := #[.val (.ref b), .val (.int 0), .val (.int (Int32.ofNat cs.length)), .unset, .unset, .unset]) (plainFor_of_name pn_java_lang_StringUTF16) rfl rfl ?_
  intro p e s m below meth c s₁ f0 Bd hx Hb hml hZ hown X0 e0 pre0
  have hby := Hb.2
  have W := own_q hw
  have N0 := Fr.nil n0
  have O := O0
  have K := Keep.refl h0 []
  obtain ⟨T1, h1, k1, X1, e1, E1, A1, EX1, st1⟩ := newPE X0 hx hZ (W 24 rfl) e0 (g := (mkF m 1 #[.val (.ref b), .val (.int 0), .val (.int (Int32.ofNat cs.length)), .unset, .unset, .unset] [.int (Int32.ofNat cs.length)])) rfl (hb hby (D5 1)) rfl (own_nq3 _ (by omega)).1 (cap := 3) (own_nq3 _ (by omega)).2.2.2.1 (by decide) (by decide) (by decide) (ad := "[B") (by decide)
  obtain ⟨b1, gq1⟩ : ∃ z, z = Array.size h0 := ⟨_, rfl⟩
  rw [← gq1] at A1 EX1 st1
  have ne_b_b1 : b ≠ b1 := Nat.ne_of_lt (Nat.lt_of_lt_of_le V_b.lt (Nat.le_of_eq gq1.symm))
  have g_b1 : n0 ≤ b1 := Nat.le_trans (O.1 ▸ O.2.1) (Nat.le_of_eq gq1.symm)
  have z_b1 : h0.size ≤ b1 := Nat.le_trans K.1 (Nat.le_of_eq gq1.symm)
  have V_b := V_b.ext E1
  have O := O.ext E1
  have K := K.ext E1
  have V_b1 : Arv Z h1 b1 k1 .byte (Int32.ofNat cs.length) [] (.int 0) := (Arv.new A1 (own_nq3 _ (by omega)).1)
  obtain ⟨_, T2, Lc2, X2, hQ2, st2⟩ := own_cS X1 Hb hZ hown hml (L := #[.val (.ref b), .val (.int 0), .val (.int (Int32.ofNat cs.length)), .val (.ref b1), .unset, .unset]) rfl (rm6 hw b b1 kc k1 cs O V_b V_b1 ne_b_b1 hB3 g_b1) (W 25 rfl) (W 26 rfl) (W 22 rfl) (W 27 rfl) pd39 e1 (D5 8) [.ref b, .int 0, .ref b1, .int 0, .int (Int32.ofNat cs.length)] [] 0
  obtain ⟨qq_2, rfl, N2q, K2, V_d_c2, hq1_2, hq2_2, hq3_2⟩ := hQ2
  have N2 := Fr.app N0 N2q
  have V_b := V_b.keep K2 (ninS ne_b_b1 nin0)
  have EX1 := EX1.keep K2
  have O := O.keep K2 (allS g_b1 all0)
  have K := K.trans K2 (allS (Or.inr z_b1) all0)
  have w3 : own_Go p e below f0 T2 m 17 #[.val (.ref b), .val (.int 0), .val (.int (Int32.ofNat cs.length)), .val (.ref b1), .val (.int (Int32.ofNat qq_2)), .unset] [.int (Int32.ofNat cs.length), .int (Int32.ofNat qq_2)] := fun t k => by
    refine pre0 t ?_
    refine zil X0 Hb (D5 0) rfl <| st1 _ <| zas X1 Hb (D5 2) rfl rfl <| zal X1 Hb (D5 3) rfl rfl <| zil X1 Hb (D5 4) rfl <| zal X1 Hb (D5 5) rfl rfl <| zic X1 Hb (D5 6) 0 rfl <| zil X1 Hb (D5 7) rfl ?_
    refine st2 _ <| ziS X2 Hb (D5 9) rfl <| ziL X2 Hb (D5 10) rfl <| zil X2 Hb (D5 11) rfl ?_
    exact k
  by_cases hc17_4 : (Int32.ofNat qq_2) = (Int32.ofNat cs.length)
  · have w5 : own_Go p e below f0 T2 m 58 #[.val (.ref b), .val (.int 0), .val (.int (Int32.ofNat cs.length)), .val (.ref b1), .val (.int (Int32.ofNat qq_2)), .unset] [.ref b1] := fun t k => by
      refine w3 t ?_
      refine zcy X2 Hb (D5 12) (teq hc17_4).1 57 (by decide) rfl <| zal X2 Hb (D5 25) rfl rfl ?_
      exact k
    have hqe := own_eqn hB3 hq1_2 hc17_4
    rw [hqe, List.take_length] at V_d_c2 hq2_2
    exact own_oR X2 Hb Bd.notSynchronized Bd.returns rfl w5 (D5 26) rfl (by decide) (by decide) ⟨b1, k1, (Int32.ofNat cs.length), _, rfl, N2, K, V_d_c2, EX1, z_b1, g_b1, (Or.inl ⟨rfl, own_lbe cs, hq2_2⟩)⟩
  · obtain ⟨xx, rt, hr, hce⟩ := hq3_2.resolve_left (fun q => hc17_4 (by rw [q]))
    have AT := own_at rfl hB3 hG hr
    have lt6_b := V_b.lt
    have lt6_b1 := EX1.lt
    obtain ⟨_, T6, Lc6, X6, hQ6, st6⟩ := own_cS X2 Hb hZ hown hml (L := #[.val (.ref b), .val (.int 0), .val (.int (Int32.ofNat cs.length)), .val (.ref b1), .val (.int (Int32.ofNat qq_2)), .unset]) rfl (rm33 hw b kc cs O SU V_b hB3) (W 158 rfl) (W 159 rfl) (W 22 rfl) (W 160 rfl) pd40 rfl (D5 16) [.ref b, .int 0, .int (Int32.ofNat cs.length)] [] 0
    obtain ⟨z_6, kz_6, rfl, N6q, K6, V_z_c6, E_z_c6, gz_6, gn_6⟩ := hQ6
    have N6 := Fr.app N2 N6q
    have V_b := V_b.keep K6 nin0
    have EX1 := EX1.keep K6
    have V_d_c2 := V_d_c2.keep K6 nin0
    have ne_b_z_6 : b ≠ z_6 := Nat.ne_of_lt (Nat.lt_of_lt_of_le lt6_b gz_6)
    have ne_b1_z_6 : b1 ≠ z_6 := Nat.ne_of_lt (Nat.lt_of_lt_of_le lt6_b1 gz_6)
    have g_z_6 := gn_6
    have z_z_6 : h0.size ≤ z_6 := Nat.le_trans K.1 gz_6
    have O := O.keep K6 all0
    have K := K.trans K6 all0
    obtain ⟨_, T7, Lc7, X7, hQ7, st7⟩ := own_cS X6 Hb hZ hown hml (L := #[.val (.ref b), .val (.int 0), .val (.int (Int32.ofNat cs.length)), .val (.ref b1), .val (.int (Int32.ofNat qq_2)), .val (.ref z_6)]) rfl (rm35 hw z_6 (Int32.ofNat qq_2) kz_6 (Int32.ofNat (2 * cs.length)) (own_wb cs) xx O SU V_z_c6 AT.1 AT.2.1 AT.2.2.1 AT.2.2.2.1 AT.2.2.2.2.1) (W 168 rfl) (W 169 rfl) (W 22 rfl) (W 170 rfl) pd8 rfl (D5 20) [.ref z_6, .int (Int32.ofNat qq_2)] [] 0
    obtain ⟨rfl, N7q, eh7⟩ := hQ7
    have N7 := Fr.app N6 N7q
    have w8 : own_Go p e below f0 T7 m 56 #[.val (.ref b), .val (.int 0), .val (.int (Int32.ofNat cs.length)), .val (.ref b1), .val (.int (Int32.ofNat qq_2)), .val (.ref z_6)] [.ref z_6] := fun t k => by
      refine w3 t ?_
      refine zcn X2 Hb (D5 12) (feq hc17_4).1 <| zal X2 Hb (D5 13) rfl rfl <| zil X2 Hb (D5 14) rfl <| zil X2 Hb (D5 15) rfl <| st6 _ <| zaS X6 Hb (D5 17) rfl rfl <| zaL X6 Hb (D5 18) rfl rfl <| ziL X6 Hb (D5 19) rfl ?_
      refine st7 _ <| zsp X7 Hb (D5 21) 255 rfl <| zcy X7 Hb (D5 22) (tlt (hce : (255 : Int32) < xx)).2.2.1 54 (by decide) rfl <| zaL X7 Hb (D5 23) rfl rfl ?_
      exact k
    exact own_oR X7 Hb Bd.notSynchronized Bd.returns rfl w8 (D5 24) eh7 (by decide) (by decide) ⟨z_6, kz_6, (Int32.ofNat (2 * cs.length)), _, rfl, N7, K, V_z_c6, E_z_c6, z_z_6, g_z_6, (Or.inr ⟨rfl, (own_wbe cs).symm, xx, List.mem_of_mem_drop (i := qq_2) (by rw [hr]; exact List.mem_cons_self ..), hce⟩)⟩
def L3 : List (Nat × Instr × Nat) := [(0, .aload_n 0, 1), (1, .invokespecial 1, 3), (4, .iload_n 3, 1), (5, .ifCond .ne 22, 3), (8, .aload_n 0, 1), (9, .ldc 7, 2), (11, .getfield 9, 3), (14, .putfield 9, 3), (17, .aload_n 0, 1), (18, .ldc 7, 2), (20, .getfield 15, 3), (23, .putfield 15, 3), (26, .return_, 1), (27, .getstatic 38, 3), (30, .ifCond .eq 28, 3), (33, .aload_n 1, 1), (34, .iload_n 2, 1), (35, .iload_n 3, 1), (36, .invokestatic 177, 3), (39, .astore 5, 2), (41, .aload_n 0, 1), (42, .aload 5, 2), (44, .iload_n 3, 1), (45, .invokestatic 47, 3), (48, .putfield 15, 3), (51, .aload_n 0, 1), (52, .aload 5, 2), (54, .putfield 9, 3), (57, .return_, 1)]
theorem D3 : ∀ k : Nat, own_PP jdk_42_method_149_code L3[k]? := own_dd (by decide +kernel)
theorem pd41 : parseMethodDescriptor "([BI)B" = some ⟨[(.array .byte), .int], some .byte⟩ := by decide +kernel
theorem rm3_g (hw : own_W a0 Z) (a b : Addr) (kc : ClassId) (cs : List Int32) {zc : Int32} {fm : Value} {fn : Value} {u8 : Addr} {h0 : Heap} {n0 : Nat} (O0 : Old Z n0 h0) (SU : own_SU Z zc fm fn u8) (E_a : Exa Z h0 a "java/lang/String") (F_v_a : Fld Z h0 a "java/lang/String" "value" "[B" .null) (F_c_a : Fld Z h0 a "java/lang/String" "coder" "B" (.int 0)) (V_b : Arv Z h0 b kc .char (Int32.ofNat cs.length) (own_cv cs) (.int 0)) (hB1 : 0 < cs.length) (hB3 : cs.length ≤ 3) (hG : own_G cs) (g_a : n0 ≤ a) : own_M l own_n3 jdk_42_method_149_code 6 none (own_rm 4 2 9 57) Z h0 #[.ref a, .ref b, .int 0, .int (Int32.ofNat cs.length), .null] (fun v h L => ∃ t1 : Addr, ∃ kb : ClassId, ∃ cd : Int32, ∃ NN : Int32, ∃ wv : List Value, v = none ∧ Fr n0 L ∧ Keep h0 h [a] ∧ Fld Z h a "java/lang/String" "value" "[B" (.ref t1) ∧ Fld Z h a "java/lang/String" "coder" "B" (.int cd) ∧ Arv Z h t1 kb .byte NN wv (.int 0) ∧ Exa Z h t1 "[B" ∧ StrChars.Road.CodA cs cd NN wv) := by
  refine own_body (L0 := #[.val (.ref a), .val (.ref b), .val (.int 0), .val (.int (Int32.ofNat cs.length)), .val .null, .unset]) (plainFor_of_name pn_java_lang_String) rfl rfl ?_
  intro p e s m below meth c s₁ f0 Bd hx Hb hml hZ hown X0 e0 pre0
  have hby := Hb.2
  have hnm := (name_of_methodNamed Bd.named Bd.method).1
  have W := own_q hw
  have N0 := Fr.nil n0
  have O := O0
  have K := Keep.refl h0 [a]
  obtain ⟨T1, X1, e1, st1⟩ := initO X0 hx hZ hown (W 16 rfl) (W 17 rfl) (W 18 rfl) e0 (g := (mkF m 1 #[.val (.ref a), .val (.ref b), .val (.int 0), .val (.int (Int32.ofNat cs.length)), .val .null, .unset] [.ref a])) rfl (by rw [hml]; rfl) rfl (hb hby (D3 1)) (by decide) (W := 0) (by show 2 * 0 + _ ≤ _; exact Nat.le_of_eq rfl) (by decide)
  obtain ⟨T2, X2, e2, st2⟩ := getS2 X1 hx hZ hown (host := "") (Or.inl (W 19 rfl)) Via.refl e1 (SU.2.2.2.1.ext O.2) (g := (mkF m 27 #[.val (.ref a), .val (.ref b), .val (.int 0), .val (.int (Int32.ofNat cs.length)), .val .null, .unset] [])) rfl (hb hby (D3 13))
  have lt3_a := E_a.lt
  have lt3_b := V_b.lt
  obtain ⟨_, T3, Lc3, X3, hQ3, st3⟩ := own_cS X2 Hb hZ hown hml (L := #[.val (.ref a), .val (.ref b), .val (.int 0), .val (.int (Int32.ofNat cs.length)), .val .null, .unset]) rfl (rm5 hw b kc cs O SU V_b hB3 hG) (W 20 rfl) (W 21 rfl) (W 22 rfl) (W 23 rfl) pd40 e2 (D3 18) [.ref b, .int 0, .int (Int32.ofNat cs.length)] [] 0
  obtain ⟨z_3, kz_3, NN_3, wv_3, rfl, N3q, K3, V_z_c3, E_z_c3, gz_3, gn_3, hcv_3⟩ := hQ3
  have N3 := Fr.app N0 N3q
  have E_a := E_a.keep K3
  have F_v_a := F_v_a.keep K3 nin0
  have F_c_a := F_c_a.keep K3 nin0
  have V_b := V_b.keep K3 nin0
  have ne_a_z_3 : a ≠ z_3 := Nat.ne_of_lt (Nat.lt_of_lt_of_le lt3_a gz_3)
  have ne_b_z_3 : b ≠ z_3 := Nat.ne_of_lt (Nat.lt_of_lt_of_le lt3_b gz_3)
  have g_z_3 := gn_3
  have z_z_3 : h0.size ≤ z_3 := Nat.le_trans K.1 gz_3
  have O := O.keep K3 all0
  have K := K.trans K3 all0
  obtain ⟨_, T4, Lc4, X4, hQ4, st4⟩ := own_cS X3 Hb hZ hown hml (L := #[.val (.ref a), .val (.ref b), .val (.int 0), .val (.int (Int32.ofNat cs.length)), .val .null, .val (.ref z_3)]) rfl (rm7 hw z_3 (Int32.ofNat cs.length) kz_3 NN_3 wv_3 O V_z_c3) (W 28 rfl) (W 29 rfl) (W 22 rfl) (W 30 rfl) pd41 rfl (D3 23) [.ref z_3, .int (Int32.ofNat cs.length)] [.ref a] 1
  obtain ⟨rfl, N4q, eh4⟩ := hQ4
  have N4 := Fr.app N3 N4q
  have ne_b_a : b ≠ a := (Ne.symm (Exa.neArv E_a V_b (W 7 rfl)))
  obtain ⟨T5, h5, X5, e5, W5, st5⟩ := putFN X4 hx hZ hown (W 31 rfl) Via.refl eh4 F_c_a E_a (Or.inr ⟨(W 32 rfl), rfl, hnm⟩) (W 7 rfl) (ty := .byte) (v' := (.int ((own_co (Int32.ofNat cs.length) NN_3).toInt8.toInt32))) (by decide) rfl (fits_nar_byte _) (g := (mkF m 48 #[.val (.ref a), .val (.ref b), .val (.int 0), .val (.int (Int32.ofNat cs.length)), .val .null, .val (.ref z_3)] [(.int (own_co (Int32.ofNat cs.length) NN_3)), .ref a])) rfl rfl (hb hby (D3 24))
  have F_c_a := F_c_a.same W5
  have E_a := E_a.wr W5
  have F_v_a := F_v_a.other W5 (Or.inr (slot_ne (Or.inr (W 34 rfl)) (Or.inr (W 32 rfl)) (by decide) (t := (.array .byte)) (t' := .byte) (by decide) (by decide)))
  have V_b := V_b.other W5 ne_b_a
  have V_z_c3 := V_z_c3.other W5 (Ne.symm ne_a_z_3)
  have E_z_c3 := E_z_c3.wr W5
  have O := O.wr W5 g_a
  have K := K.wr W5 (Or.inl (List.mem_of_getElem? (i := 0) rfl))
  have N5 := Fr.snoc X5 N4 g_a
  obtain ⟨T6, h6, X6, e6, W6, st6⟩ := putF X5 hx hZ hown (host := "") (Or.inl (W 33 rfl)) Via.refl e5 F_v_a E_a (Or.inr ⟨(W 34 rfl), rfl, hnm⟩) (W 7 rfl) (ty := (.array .byte)) (by decide) rfl rfl (g := (mkF m 54 #[.val (.ref a), .val (.ref b), .val (.int 0), .val (.int (Int32.ofNat cs.length)), .val .null, .val (.ref z_3)] [.ref z_3, .ref a])) rfl rfl (hb hby (D3 27))
  have F_v_a := F_v_a.same W6
  have E_a := E_a.wr W6
  have F_c_a := F_c_a.other W6 (Or.inr (slot_ne (Or.inr (W 32 rfl)) (Or.inr (W 34 rfl)) (by decide) (t := .byte) (t' := (.array .byte)) (by decide) (by decide)))
  have V_b := V_b.other W6 ne_b_a
  have V_z_c3 := V_z_c3.other W6 (Ne.symm ne_a_z_3)
  have E_z_c3 := E_z_c3.wr W6
  have O := O.wr W6 g_a
  have K := K.wr W6 (Or.inl (List.mem_of_getElem? (i := 0) rfl))
  have N6 := Fr.snoc X6 N5 g_a
  have w7 : own_Go p e below f0 T6 m 57 #[.val (.ref a), .val (.ref b), .val (.int 0), .val (.int (Int32.ofNat cs.length)), .val .null, .val (.ref z_3)] [] := fun t k => by
    refine pre0 t ?_
    refine zal X0 Hb (D3 0) rfl rfl <| st1 _ <| zil X1 Hb (D3 2) rfl <| ziy X1 Hb (D3 3) ((if0 _ _).trans (feq ((own_co3 _ (by omega) hB1).2.2 : ¬ ((Int32.ofNat cs.length) = (0 : Int32)))).2) 27 (by decide) rfl <| st2 _ <| zin X2 Hb (D3 14) ((if0 _ _).trans (feq (SU.2.2.2.2.2.2.2.2.1 : ¬ (zc = (0 : Int32)))).1) <| zal X2 Hb (D3 15) rfl rfl <| zil X2 Hb (D3 16) rfl ?_
    refine zil X2 Hb (D3 17) rfl <| st3 _ <| zaS X3 Hb (D3 19) rfl rfl <| zal X3 Hb (D3 20) rfl rfl <| zaL X3 Hb (D3 21) rfl rfl <| zil X3 Hb (D3 22) rfl <| st4 _ <| st5 _ ?_
    refine zal X5 Hb (D3 25) rfl rfl <| zaL X5 Hb (D3 26) rfl rfl <| st6 _ ?_
    exact k
  exact own_oV X6 Hb Bd.notSynchronized Bd.returns w7 (D3 28) e6 (by decide) (by decide) ⟨z_3, kz_3, ((own_co (Int32.ofNat cs.length) NN_3).toInt8.toInt32), NN_3, wv_3, rfl, N6, K, F_v_a, F_c_a, V_z_c3, E_z_c3, (own_cvA _ (own_co3 _ (by omega) hB1).1 (own_co3 _ (by omega) hB1).2.1 hcv_3)⟩
def L2 : List (Nat × Instr × Nat) := [(0, .aload_n 0, 1), (1, .aload_n 1, 1), (2, .iconst 0, 1), (3, .aload_n 1, 1), (4, .arraylength, 1), (5, .aconst_null, 1), (6, .invokespecial 27, 3), (9, .return_, 1)]
theorem D2 : ∀ k : Nat, own_PP jdk_42_method_3_code L2[k]? := own_dd (by decide +kernel)
theorem pd42 : parseMethodDescriptor "([CIILjava/lang/Void;)V" = some ⟨[(.array .char), .int, .int, (.object "java/lang/Void")], none⟩ := by decide +kernel
theorem rm2_g (hw : own_W a0 Z) (a b : Addr) (kc : ClassId) (cs : List Int32) {zc : Int32} {fm : Value} {fn : Value} {u8 : Addr} {h0 : Heap} {n0 : Nat} (O0 : Old Z n0 h0) (SU : own_SU Z zc fm fn u8) (E_a : Exa Z h0 a "java/lang/String") (F_v_a : Fld Z h0 a "java/lang/String" "value" "[B" .null) (F_c_a : Fld Z h0 a "java/lang/String" "coder" "B" (.int 0)) (V_b : Arv Z h0 b kc .char (Int32.ofNat cs.length) (own_cv cs) (.int 0)) (hB1 : 0 < cs.length) (hB3 : cs.length ≤ 3) (hG : own_G cs) (g_a : n0 ≤ a) : own_M l own_n2 jdk_42_method_3_code 2 none (own_rm 5 2 9 74) Z h0 #[.ref a, .ref b] (fun v h L => ∃ t1 : Addr, ∃ kb : ClassId, ∃ cd : Int32, ∃ NN : Int32, ∃ wv : List Value, v = none ∧ Fr n0 L ∧ Keep h0 h [a] ∧ Fld Z h a "java/lang/String" "value" "[B" (.ref t1) ∧ Fld Z h a "java/lang/String" "coder" "B" (.int cd) ∧ Arv Z h t1 kb .byte NN wv (.int 0) ∧ Exa Z h t1 "[B" ∧ StrChars.Road.CodA cs cd NN wv) := by
  refine own_body (L0 := #[.val (.ref a), .val (.ref b)]) (plainFor_of_name pn_java_lang_String) rfl rfl ?_
  intro p e s m below meth c s₁ f0 Bd hx Hb hml hZ hown X0 e0 pre0
  have W := own_q hw
  have N0 := Fr.nil n0
  have O := O0
  have K := Keep.refl h0 [a]
  have B1 := own_ln V_b
  have ne_b_a : b ≠ a := (Ne.symm (Exa.neArv E_a V_b (W 7 rfl)))
  obtain ⟨_, T2, Lc2, X2, hQ2, st2⟩ := own_cI X0 Hb hZ hown hml (L := #[.val (.ref a), .val (.ref b)]) rfl (rm3_g hw a b kc cs O SU E_a F_v_a F_c_a V_b hB1 hB3 hG g_a) (W 12 rfl) (W 13 rfl) (W 8 rfl) (W 15 rfl) pd42 e0 (D2 6) a [.ref b, .int 0, .int (Int32.ofNat cs.length), .null] [] 0
  obtain ⟨t1_2, kb_2, cd_2, NN_2, wv_2, rfl, N2q, K2, F_v_a_c2, F_c_a_c2, V_t_c2, E_t_c2, hcd_2⟩ := hQ2
  have N2 := Fr.app N0 N2q
  have E_a := E_a.keep K2
  have V_b := V_b.keep K2 (ninS ne_b_a nin0)
  have O := O.keep K2 (allS g_a all0)
  have K := K.trans K2 (allS (Or.inl (List.mem_of_getElem? (i := 0) rfl)) all0)
  have w3 : own_Go p e below f0 T2 m 9 #[.val (.ref a), .val (.ref b)] [] := fun t k => by
    refine pre0 t ?_
    refine zal X0 Hb (D2 0) rfl rfl <| zal X0 Hb (D2 1) rfl rfl <| zic X0 Hb (D2 2) 0 rfl <| zal X0 Hb (D2 3) rfl rfl <| zal_ X0 Hb hZ e0 B1 (D2 4) <| znu X0 Hb (D2 5) <| st2 _ ?_
    exact k
  exact own_oV X2 Hb Bd.notSynchronized Bd.returns w3 (D2 7) rfl (by decide) (by decide) ⟨t1_2, kb_2, cd_2, NN_2, wv_2, rfl, N2, K, F_v_a_c2, F_c_a_c2, V_t_c2, E_t_c2, hcd_2⟩
def own_enc : List Int32 → List Value
  | [] => []
  | [c] => own_e1 (own_u c)
  | c :: d :: r => if own_ih c = 0 ∨ own_il d = 0 then own_e1 (own_u c) ++ own_enc (d :: r) else own_e4 (own_q4 c d) ++ own_enc r
def own_st : List Int32 → List Value
  | [] => []
  | [c] => own_e1 (own_u c)
  | c :: d :: _ => if own_ih c = 0 ∨ own_il d = 0 then own_e1 (own_u c) else own_e4 (own_q4 c d)
def own_rs : List Int32 → List Int32
  | [] => []
  | [_] => []
  | c :: d :: r => if own_ih c = 0 ∨ own_il d = 0 then d :: r else r
theorem own_es (cs : List Int32) : own_enc cs = own_st cs ++ own_enc (own_rs cs) ∧ (own_rs cs).length ≤ cs.length - 1 := by
  match cs with
  | [] => exact ⟨rfl, Nat.le_refl _⟩
  | [c] => exact ⟨by simp [own_enc, own_st, own_rs], by simp [own_rs]⟩
  | c :: d :: r =>
    by_cases h : own_ih c = 0 ∨ own_il d = 0
    · exact ⟨by simp [own_enc, own_st, own_rs, h], by simp [own_rs, h]⟩
    · exact ⟨by simp only [own_enc, own_st, own_rs, if_neg h], by simp only [own_rs, if_neg h, List.length_cons]; omega⟩
theorem own_e3 {cs : List Int32} (h : cs.length ≤ 3) : ((([] : List Value) ++ own_st cs) ++ own_st (own_rs cs)) ++ own_st (own_rs (own_rs cs)) = own_enc cs := by
  have a := own_es cs
  have b := own_es (own_rs cs)
  have c := own_es (own_rs (own_rs cs))
  have z : own_rs (own_rs (own_rs cs)) = [] := List.eq_nil_of_length_eq_zero (by omega)
  rw [a.1, b.1, c.1, z, own_enc]
  simp
theorem own_hih (c : Int32) : own_ih c = own_hh c := by
  have e : (56319 : Int32) < c ↔ ¬ c < (56320 : Int32) := by
    rw [Int32.lt_iff_toInt_lt, Int32.lt_iff_toInt_lt, show (56319 : Int32).toInt = 56319 from rfl, show (56320 : Int32).toInt = 56320 from rfl]
    omega
  unfold own_ih own_hh
  by_cases h : c < (56320 : Int32) <;> simp [e, h]
theorem own_lil (c : Int32) : own_il c = own_ll c := by
  have e : (57343 : Int32) < c ↔ ¬ c < (57344 : Int32) := by
    rw [Int32.lt_iff_toInt_lt, Int32.lt_iff_toInt_lt, show (57343 : Int32).toInt = 57343 from rfl, show (57344 : Int32).toInt = 57344 from rfl]
    omega
  unfold own_il own_ll
  by_cases h : c < (57344 : Int32) <;> simp [e, h]
theorem own_uis (c : Int32) : own_u c = if own_is c = 0 then c else 65533 := by
  have e : (57343 : Int32) < c ↔ ¬ c < (57344 : Int32) := by
    rw [Int32.lt_iff_toInt_lt, Int32.lt_iff_toInt_lt, show (57343 : Int32).toInt = 57343 from rfl, show (57344 : Int32).toInt = 57344 from rfl]
    omega
  unfold own_u own_is
  by_cases h1 : c < (55296 : Int32)
  · simp [h1]
  · by_cases h : c < (57344 : Int32) <;> simp [e, h, h1]
theorem own_hr {c : Int32} (h : ¬ own_hh c = 0) : 55296 ≤ c.toInt ∧ c.toInt < 56320 := by
  unfold own_hh at h
  by_cases h1 : c < (55296 : Int32)
  · simp [h1] at h
  · by_cases h2 : c < (56320 : Int32)
    · rw [Int32.lt_iff_toInt_lt, show (55296 : Int32).toInt = 55296 from rfl] at h1
      rw [Int32.lt_iff_toInt_lt, show (56320 : Int32).toInt = 56320 from rfl] at h2
      omega
    · simp [h1, h2] at h
theorem own_lr {c : Int32} (h : ¬ own_ll c = 0) : 56320 ≤ c.toInt ∧ c.toInt < 57344 := by
  unfold own_ll at h
  by_cases h1 : c < (56320 : Int32)
  · simp [h1] at h
  · by_cases h2 : c < (57344 : Int32)
    · rw [Int32.lt_iff_toInt_lt, show (56320 : Int32).toInt = 56320 from rfl] at h1
      rw [Int32.lt_iff_toInt_lt, show (57344 : Int32).toInt = 57344 from rfl] at h2
      omega
    · simp [h1, h2] at h
theorem own_tq1 (c d : Int32) : ∃ k, (own_tc c d).toInt = c.toInt * 1024 + d.toInt - 56613888 + 4294967296 * k := by
  obtain ⟨k1, h1⟩ := Int.dvd_of_emod_eq_zero (c_ishl c 10 10 rfl)
  obtain ⟨k2, h2⟩ := Int.dvd_of_emod_eq_zero (c_iadd (c <<< ((10 : Int32) &&& 31)) d)
  obtain ⟨k3, hB3⟩ := Int.dvd_of_emod_eq_zero (c_iadd ((c <<< ((10 : Int32) &&& 31)) + d) (-56613888 : Int32))
  rw [show ((2 ^ 10 : Nat) : Int) = 1024 from rfl] at h1
  rw [show (-56613888 : Int32).toInt = -56613888 from rfl] at hB3
  refine ⟨k1 + k2 + k3, ?_⟩
  show (((c <<< ((10 : Int32) &&& 31)) + d) + (-56613888 : Int32)).toInt = _
  omega
theorem own_tq2 (c d : Int32) : ∃ k, (own_q4 c d).toInt = c.toInt * 1024 + d.toInt - 56613888 + 4294967296 * k := by
  obtain ⟨k1, h1⟩ := Int.dvd_of_emod_eq_zero (c_isub c (55296 : Int32))
  obtain ⟨k2, h2⟩ := Int.dvd_of_emod_eq_zero (c_ishl (c - (55296 : Int32)) 10 10 rfl)
  obtain ⟨k3, hB3⟩ := Int.dvd_of_emod_eq_zero (c_iadd (65536 : Int32) ((c - (55296 : Int32)) <<< ((10 : Int32) &&& 31)))
  obtain ⟨k4, h4⟩ := Int.dvd_of_emod_eq_zero (c_isub d (56320 : Int32))
  obtain ⟨k5, h5⟩ := Int.dvd_of_emod_eq_zero (c_iadd ((65536 : Int32) + ((c - (55296 : Int32)) <<< ((10 : Int32) &&& 31))) (d - (56320 : Int32)))
  rw [show (55296 : Int32).toInt = 55296 from rfl] at h1
  rw [show ((2 ^ 10 : Nat) : Int) = 1024 from rfl] at h2
  rw [show (65536 : Int32).toInt = 65536 from rfl] at hB3
  rw [show (56320 : Int32).toInt = 56320 from rfl] at h4
  refine ⟨1024 * k1 + k2 + k3 + k4 + k5, ?_⟩
  show (((65536 : Int32) + ((c - (55296 : Int32)) <<< ((10 : Int32) &&& 31))) + (d - (56320 : Int32))).toInt = _
  omega
theorem own_tq (c d : Int32) : own_tc c d = own_q4 c d := by
  obtain ⟨k, h⟩ := own_tq1 c d
  obtain ⟨q, g⟩ := own_tq2 c d
  have l1 := (own_tc c d).le_toInt
  have l2 := (own_tc c d).toInt_lt
  have l3 := (own_q4 c d).le_toInt
  have l4 := (own_q4 c d).toInt_lt
  exact Int32.toInt_inj.mp (by omega)
theorem own_prd {c d : Int32} (h1 : ¬ own_hh c = 0) (h2 : ¬ own_ll d = 0) (hB3 : ¬ own_is c = 0) : own_PR c d := by
  have a := own_hr h1
  have b := own_lr h2
  refine ⟨?_, ?_, hB3, h1, h2, own_tq c d, ?_⟩
  · rw [Int32.lt_iff_toInt_lt, show (128 : Int32).toInt = 128 from rfl]; omega
  · rw [Int32.lt_iff_toInt_lt, show (2048 : Int32).toInt = 2048 from rfl]; omega
  · obtain ⟨k, h⟩ := own_tq1 c d
    have l1 := (own_tc c d).le_toInt
    have l2 := (own_tc c d).toInt_lt
    rw [Int32.lt_iff_toInt_lt, show (0 : Int32).toInt = 0 from rfl]
    omega
theorem own_ish {c : Int32} (h : own_is c = 0) : own_hh c = 0 := by
  unfold own_is at h
  unfold own_hh
  by_cases h1 : c < (55296 : Int32)
  · simp [h1]
  · by_cases h2 : c < (57344 : Int32)
    · simp [h1, h2] at h
    · have hB3 : ¬ c < (56320 : Int32) := by
        rw [Int32.lt_iff_toInt_lt, show (56320 : Int32).toInt = 56320 from rfl]
        rw [Int32.lt_iff_toInt_lt, show (57344 : Int32).toInt = 57344 from rfl] at h2
        omega
      simp [h1, hB3]
theorem own_ee : ∀ cs : List Int32, own_enc cs = own_enw (own_fix cs) ∧ own_WF (own_fix cs)
  | [] => ⟨rfl, trivial⟩
  | [c] => by
    refine ⟨by rw [own_enc, own_fix, own_enw, own_uis], ?_⟩
    show own_is (if own_is c = 0 then c else 65533) = 0
    by_cases h : own_is c = 0
    · rw [if_pos h]; exact h
    · rw [if_neg h]; decide
  | c :: d :: r => by
    have A := own_ee (d :: r)
    have B := own_ee r
    have L := own_fxl (d :: r)
    have hs : ∀ x, own_is x = 0 → own_enw (x :: own_fix (d :: r)) = own_e1 x ++ own_enw (own_fix (d :: r)) ∧ own_WF (x :: own_fix (d :: r)) := fun x hx => by
      cases hf : own_fix (d :: r) with
      | nil => rw [hf] at L; simp at L
      | cons y q => rw [hf] at A; exact ⟨by rw [own_enw, if_pos hx], Or.inl ⟨hx, A.2⟩⟩
    rw [own_enc, own_hih, own_lil, own_uis]
    by_cases h : own_is c = 0
    · rw [if_pos (Or.inl (own_ish h)), if_pos h, own_fix, if_pos h, (hs c h).1, A.1]
      exact ⟨rfl, (hs c h).2⟩
    · by_cases h1 : own_hh c = 0
      · rw [if_pos (Or.inl h1), if_neg h, own_fix, if_neg h, if_pos h1, (hs 65533 (by decide)).1, A.1]
        exact ⟨rfl, (hs 65533 (by decide)).2⟩
      · by_cases h2 : own_ll d = 0
        · rw [if_pos (Or.inr h2), if_neg h, own_fix, if_neg h, if_neg h1, if_pos h2, (hs 65533 (by decide)).1, A.1]
          exact ⟨rfl, (hs 65533 (by decide)).2⟩
        · rw [if_neg (fun q => q.elim h1 h2), own_fix, if_neg h, if_neg h1, if_neg h2, own_enw, if_neg h, B.1]
          exact ⟨rfl, Or.inr ⟨own_prd h1 h2 h, B.2⟩⟩
theorem own_fm : ∀ (cs : List Int32) (x : Int32), x ∈ own_fix cs → x ∈ cs ∨ x = 65533
  | [], x, h => nomatch h
  | [c], x, h => by
    rw [own_fix, List.mem_singleton] at h
    by_cases q : own_is c = 0
    · rw [if_pos q] at h; exact Or.inl (by simp [h])
    · rw [if_neg q] at h; exact Or.inr h
  | c :: d :: r, x, h => by
    have A := own_fm (d :: r) x
    have B := own_fm r x
    have k : x ∈ d :: r ∨ x = 65533 → x ∈ c :: d :: r ∨ x = 65533 := fun q => q.imp (List.mem_cons_of_mem _) id
    rw [own_fix] at h
    by_cases h0 : own_is c = 0
    · rw [if_pos h0] at h
      rcases List.mem_cons.mp h with q | q
      · exact Or.inl (by simp [q])
      · exact k (A q)
    · rw [if_neg h0] at h
      by_cases h1 : own_hh c = 0
      · rw [if_pos h1] at h
        rcases List.mem_cons.mp h with q | q
        · exact Or.inr q
        · exact k (A q)
      · rw [if_neg h1] at h
        by_cases h2 : own_ll d = 0
        · rw [if_pos h2] at h
          rcases List.mem_cons.mp h with q | q
          · exact Or.inr q
          · exact k (A q)
        · rw [if_neg h2] at h
          rcases List.mem_cons.mp h with q | q
          · exact Or.inl (by simp [q])
          · rcases List.mem_cons.mp q with q | q
            · exact Or.inl (by simp [q])
            · exact (B q).imp (fun w => List.mem_cons_of_mem _ (List.mem_cons_of_mem _ w)) id
theorem own_fg {cs : List Int32} (h : own_G cs) : own_G (own_fix cs) := fun c hc => by
  rcases own_fm cs c hc with q | q
  · exact h c q
  · subst q; decide +kernel
theorem own_ein (u : Int32) : ∀ v ∈ own_e1 u, ∃ w, v = Value.int w := fun v hv => by
  unfold own_e1 at hv
  split at hv
  · exact ⟨_, List.mem_singleton.mp hv⟩
  · split at hv
    · simp only [List.mem_cons, List.not_mem_nil, or_false] at hv
      rcases hv with q | q <;> exact ⟨_, q⟩
    · simp only [List.mem_cons, List.not_mem_nil, or_false] at hv
      rcases hv with q | q | q <;> exact ⟨_, q⟩
theorem own_hin : ∀ cs : List Int32, ∀ v ∈ own_enc cs, ∃ w, v = Value.int w
  | [], v, h => nomatch h
  | [c], v, h => own_ein _ v h
  | c :: d :: r, v, h => by
    rw [own_enc] at h
    split at h
    · rcases List.mem_append.mp h with q | q
      · exact own_ein _ v q
      · exact own_hin (d :: r) v q
    · rcases List.mem_append.mp h with q | q
      · simp only [own_e4, List.mem_cons, List.not_mem_nil, or_false] at q
        rcases q with q | q | q | q <;> exact ⟨_, q⟩
      · exact own_hin r v q
def own_RM (xa xb xc nn ii : Int32) (rem : List Int32) : Prop := ∃ n k : Nat, n ≤ 3 ∧ k ≤ n ∧ nn = Int32.ofNat n ∧ ii = Int32.ofNat k ∧ rem = ([xa, xb, xc].take n).drop k
theorem own_rmc {xa xb xc nn ii : Int32} {rem : List Int32} (h : own_RM xa xb xc nn ii rem) : (rem = [] ∧ ¬ ii < nn) ∨ (∃ c, rem = [c] ∧ ii < nn ∧ (¬ ii < 0 ∧ ii < (3 : Int32)) ∧ ([.int xa, .int xb, .int xc] : List Value).getD (ii).toNatClampNeg (.int 0) = .int c ∧ ¬ (ii + (1 : Int32)) < nn ∧ own_RM xa xb xc nn (ii + (1 : Int32)) []) ∨ ∃ c d r, rem = c :: d :: r ∧ ii < nn ∧ (¬ ii < 0 ∧ ii < (3 : Int32)) ∧ ([.int xa, .int xb, .int xc] : List Value).getD (ii).toNatClampNeg (.int 0) = .int c ∧ (ii + (1 : Int32)) < nn ∧ (¬ (ii + (1 : Int32)) < 0 ∧ (ii + (1 : Int32)) < (3 : Int32)) ∧ ([.int xa, .int xb, .int xc] : List Value).getD ((ii + (1 : Int32))).toNatClampNeg (.int 0) = .int d ∧ own_RM xa xb xc nn (ii + (1 : Int32)) (d :: r) ∧ own_RM xa xb xc nn (ii + (2 : Int32)) r := by
  obtain ⟨n, k, hn, hk, rfl, rfl, rfl⟩ := h
  match n, k, hn, hk with
  | 0, 0, _, _ => exact Or.inl ⟨rfl, by decide⟩
  | 1, 0, _, _ => exact Or.inr (Or.inl ⟨xa, rfl, by decide, by decide, rfl, by decide, 1, 1, by decide, by decide, rfl, by decide, rfl⟩)
  | 1, 1, _, _ => exact Or.inl ⟨rfl, by decide⟩
  | 2, 0, _, _ => exact Or.inr (Or.inr ⟨xa, xb, [], rfl, by decide, by decide, rfl, by decide, by decide, rfl, ⟨2, 1, by decide, by decide, rfl, by decide, rfl⟩, 2, 2, by decide, by decide, rfl, by decide, rfl⟩)
  | 2, 1, _, _ => exact Or.inr (Or.inl ⟨xb, rfl, by decide, by decide, rfl, by decide, 2, 2, by decide, by decide, rfl, by decide, rfl⟩)
  | 2, 2, _, _ => exact Or.inl ⟨rfl, by decide⟩
  | 3, 0, _, _ => exact Or.inr (Or.inr ⟨xa, xb, [xc], rfl, by decide, by decide, rfl, by decide, by decide, rfl, ⟨3, 1, by decide, by decide, rfl, by decide, rfl⟩, 3, 2, by decide, by decide, rfl, by decide, rfl⟩)
  | 3, 1, _, _ => exact Or.inr (Or.inr ⟨xb, xc, [], rfl, by decide, by decide, rfl, by decide, by decide, rfl, ⟨3, 2, by decide, by decide, rfl, by decide, rfl⟩, 3, 3, by decide, by decide, rfl, by decide, rfl⟩)
  | 3, 2, _, _ => exact Or.inr (Or.inl ⟨xc, rfl, by decide, by decide, rfl, by decide, 3, 3, by decide, by decide, rfl, by decide, rfl⟩)
  | 3, 3, _, _ => exact Or.inl ⟨rfl, by decide⟩
  | 0, k + 1, _, h => omega
  | 1, k + 2, _, h => omega
  | 2, k + 3, _, h => omega
  | 3, k + 4, _, h => omega
  | n + 4, _, h, _ => omega
theorem rm8_g (hw : own_W a0 Z) (b : Addr) (nn : Int32) (o sa : Addr) (kc : ClassId) (xa xb xc : Int32) (ko ks : ClassId) (bs : List Value) (rr : Nat) (ii pp : Int32) (rem : List Int32) {h0 : Heap} {n0 : Nat} (O0 : Old Z n0 h0) (V_b : Arv Z h0 b kc .char (3 : Int32) [.int xa, .int xb, .int xc] (.int 0)) (V_o : Arv Z h0 o ko .byte (12 : Int32) (bs ++ List.replicate (rr + 4) (.int 0)) (.int 0)) (V_sa : Arv Z h0 sa ks .int (2 : Int32) [.int ii, .int pp] (.int 0)) (nos : o ≠ sa) (nbo : b ≠ o) (nbs : b ≠ sa) (hp : pp = Int32.ofNat bs.length) (hr : bs.length + (rr + 4) = 12) (hRM : own_RM xa xb xc nn ii rem) (g_o : n0 ≤ o) (g_sa : n0 ≤ sa) : own_M l own_n8 method_6_code 7 none (own_rm 1 0 0 14) Z h0 #[.ref b, .int nn, .ref o, .ref sa] (fun v h L => ∃ r2 : Nat, ∃ pq : Int32, ∃ i2 : Int32, v = none ∧ Fr n0 L ∧ Keep h0 h [o, sa] ∧ Arv Z h o ko .byte (12 : Int32) ((bs ++ own_st rem) ++ List.replicate r2 (.int 0)) (.int 0) ∧ Arv Z h sa ks .int (2 : Int32) [.int i2, .int pq] (.int 0) ∧ pq = Int32.ofNat (bs ++ own_st rem).length ∧ (bs ++ own_st rem).length + r2 = 12 ∧ rr ≤ r2 ∧ own_RM xa xb xc nn i2 (own_rs rem)) := by
  rcases own_rmc hRM with ⟨rfl, h1⟩ | ⟨c, rfl, h1, h2, hB3, h4, h5⟩ | ⟨c, d, r, rfl, h1, h2, hB3, h4, h5, h6, h7, h8⟩
  · refine own_wk (rm8_e hw b nn o sa ks ii pp O0 V_sa h1) fun v h L q => ?_
    obtain ⟨hv, N, hh⟩ := q
    have e : bs ++ own_st [] = bs := List.append_nil bs
    rw [hh, e]
    exact ⟨rr + 4, pp, ii, hv, N, Keep.refl h0 [o, sa], V_o, V_sa, hp, hr, by omega, hRM⟩
  · refine own_wk (rm8_s hw b nn o sa kc xa xb xc ko ks bs rr ii pp c 0 O0 V_b V_o V_sa nos nbo nbs hp hr h1 h2 hB3 (fun q => absurd q h4) g_o g_sa) fun v h L q => ?_
    obtain ⟨r2, pq, hv, N, K, V1, V2, q1, q2, q3⟩ := q
    exact ⟨r2, pq, _, hv, N, K, V1, V2, q1, q2, q3, h5⟩
  · by_cases hp2 : own_ih c = 0 ∨ own_il d = 0
    · refine own_wk (rm8_s hw b nn o sa kc xa xb xc ko ks bs rr ii pp c d O0 V_b V_o V_sa nos nbo nbs hp hr h1 h2 hB3 (fun _ => ⟨h5, h6, hp2⟩) g_o g_sa) fun v h L q => ?_
      obtain ⟨r2, pq, hv, N, K, V1, V2, q1, q2, q3⟩ := q
      rw [own_st, if_pos hp2, own_rs, if_pos hp2]
      exact ⟨r2, pq, _, hv, N, K, V1, V2, q1, q2, q3, h7⟩
    · refine own_wk (rm8_p hw b nn o sa kc xa xb xc ko ks bs rr ii pp c d O0 V_b V_o V_sa nos nbo nbs hp hr h1 h2 hB3 h4 h5 h6 (fun q => hp2 (Or.inl q)) (fun q => hp2 (Or.inr q)) g_o g_sa) fun v h L q => ?_
      obtain ⟨r2, pq, hv, N, K, V1, V2, q1, q2, q3⟩ := q
      rw [own_st, if_neg hp2, own_rs, if_neg hp2]
      exact ⟨r2, pq, _, hv, N, K, V1, V2, q1, q2, q3, h8⟩
def L11 : List (Nat × Instr × Nat) := [(0, .aload_n 0, 1), (1, .invokeinterface 7 1, 5), (6, .invokestatic 13, 3), (9, .getstatic 19, 3), (12, .invokevirtual 25, 3), (15, .areturn, 1)]
theorem D11 : ∀ k : Nat, own_PP prog_16_method_2_code L11[k]? := own_dd (by decide +kernel)
theorem pd43 : parseMethodDescriptor "(Ljava/lang/String;)Ljava/lang/String;" = some ⟨[(.object "java/lang/String")], some (.object "java/lang/String")⟩ := by decide +kernel
theorem pd44 : parseMethodDescriptor "(Ljava/nio/charset/Charset;)[B" = some ⟨[(.object "java/nio/charset/Charset")], some (.array .byte)⟩ := by decide +kernel
theorem rm11_U (hw : own_W a0 Z) (a tt : Addr) (kb : ClassId) (cs : List Int32) {zc : Int32} {fm : Value} {fn : Value} {u8 : Addr} {h0 : Heap} {n0 : Nat} (O0 : Old Z n0 h0) (SU : own_SU Z zc fm fn u8) (E_a : Exa Z h0 a "java/lang/String") (F_v_a : Fld Z h0 a "java/lang/String" "value" "[B" (.ref tt)) (F_c_a : Fld Z h0 a "java/lang/String" "coder" "B" (.int 1)) (V_tt : Arv Z h0 tt kb .byte (Int32.ofNat (2 * cs.length)) (own_wb cs) (.int 0)) (hB3 : cs.length ≤ 3) (hG : own_G cs) : own_M l own_n11 prog_16_method_2_code 1 (some (.array .byte)) (own_rm 10 14 90 190) Z h0 #[.ref a] (fun v h L => ∃ z : Addr, ∃ kz : ClassId, v = some (.ref z) ∧ Fr n0 L ∧ Keep h0 h [] ∧ Arv Z h z kz .byte (Int32.ofNat (own_enc cs).length) (own_enc cs) (.int 0) ∧ h0.size ≤ z ∧ n0 ≤ z) := by
  refine own_body (L0 := #[.val (.ref a)]) (plainFor_of_name pn_com_example_gradual_reply_gradualreply_Utf8) rfl rfl ?_
  intro p e s m below meth c s₁ f0 Bd hx Hb hml hZ hown X0 e0 pre0
  have hby := Hb.2
  have W := own_q hw
  have N0 := Fr.nil n0
  have O := O0
  have K := Keep.refl h0 []
  obtain ⟨cq1, kq1, q1a, q1b, q1c⟩ := isOf hZ e0 E_a
  obtain ⟨_, _, ⟨T1, L1, k1, n1⟩, -, X1, ⟨Lc1, hQ1, l1, y1, z1⟩, st1⟩ := X0.interfaceBack hx (xi := (⟨"java/lang/CharSequence", "toString", "()Ljava/lang/String;"⟩ : MethodName)) (y := own_n12) hown (mvT hZ (W 50 rfl)) (mvT hZ (W 51 rfl)) (mvT hZ (W 52 rfl)) (mvT hZ (W 53 rfl)) (mvT hZ (W 54 rfl)) (mvT hZ (W 55 rfl)) (mvT hZ (W 56 rfl)) (mvT hZ (W 57 rfl)) (by decide) (own_bk (W := 0) (rm12 hw a O ) hZ (W 58 rfl) (W 8 rfl) (by decide) (by decide)) q1a q1b q1c (g := (mkF m 1 #[.val (.ref a)] [.ref a])) rfl (by rw [hml]; rfl) (Steps.refl _) (argsL := []) (rest := []) (lenOf pd38 rfl) rfl (by show 2 * 0 + _ ≤ _; exact Nat.le_of_eq rfl) (hb hby (D11 1)) (fun _ _ => ⟨rfl, e0, (by decide : 0 + 0 ≤ _), (by decide : 0 + 0 ≤ _)⟩)
  dsimp only [Pt.U, Pt.locs, Pt.cells, Pt.slots] at X1 l1 y1 z1 st1 hQ1
  have X1 := own_un X1 l1 y1 z1
  obtain ⟨rfl, N1q, eh1⟩ := hQ1
  have N1 := Fr.app N0 N1q
  obtain ⟨_, T2, Lc2, X2, hQ2, st2⟩ := own_cS X1 Hb hZ hown hml (L := #[.val (.ref a)]) rfl (rm13_U hw a tt kb cs O SU E_a F_v_a F_c_a V_tt hB3 hG) (W 59 rfl) (W 60 rfl) (W 48 rfl) (W 61 rfl) pd43 eh1 (D11 2) [.ref a] [] 0
  obtain ⟨z_2, y_2, ky_2, rfl, N2q, K2, E_z_c2, F_v_z_c2, F_c_z_c2, V_y_c2⟩ := hQ2
  have N2 := Fr.app N1 N2q
  have E_a := E_a.keep K2
  have F_v_a := F_v_a.keep K2 nin0
  have F_c_a := F_c_a.keep K2 nin0
  have V_tt := V_tt.keep K2 nin0
  have O := O.keep K2 all0
  have K := K.trans K2 all0
  rw [← own_fxl cs] at V_y_c2
  obtain ⟨T3, X3, e3, st3⟩ := getS2 X2 hx hZ hown (host := "") (Or.inl (W 102 rfl)) Via.refl rfl (SU.2.2.2.2.2.1.ext O.2) (g := (mkF m 9 #[.val (.ref a)] [.ref z_2])) rfl (hb hby (D11 3))
  have lt4_a := E_a.lt
  have lt4_tt := V_tt.lt
  have lt4_z_2 := E_z_c2.lt
  have lt4_y_2 := V_y_c2.lt
  obtain ⟨_, T4, Lc4, X4, hQ4, st4⟩ := own_cV X3 Hb hZ hown hml (L := #[.val (.ref a)]) rfl (rm23_U hw z_2 u8 y_2 ky_2 (own_fix cs) O SU E_z_c2 F_v_z_c2 F_c_z_c2 V_y_c2 (own_ee cs).2 (by rw [own_fxl]; exact hB3) (own_fg hG)) (W 104 rfl) (W 105 rfl) (W 107 rfl) (W 106 rfl) (W 8 rfl) (W 108 rfl) pd44 e3 E_z_c2 (D11 4) [.ref u8] [] 0
  obtain ⟨z_4, kz_4, rfl, N4q, K4, V_z_c4, gz_4, gn_4⟩ := hQ4
  have N4 := Fr.app N2 N4q
  have E_a := E_a.keep K4
  have F_v_a := F_v_a.keep K4 nin0
  have F_c_a := F_c_a.keep K4 nin0
  have V_tt := V_tt.keep K4 nin0
  have E_z_c2 := E_z_c2.keep K4
  have F_v_z_c2 := F_v_z_c2.keep K4 nin0
  have F_c_z_c2 := F_c_z_c2.keep K4 nin0
  have V_y_c2 := V_y_c2.keep K4 nin0
  have ne_a_z_4 : a ≠ z_4 := Nat.ne_of_lt (Nat.lt_of_lt_of_le lt4_a gz_4)
  have ne_tt_z_4 : tt ≠ z_4 := Nat.ne_of_lt (Nat.lt_of_lt_of_le lt4_tt gz_4)
  have ne_z_2_z_4 : z_2 ≠ z_4 := Nat.ne_of_lt (Nat.lt_of_lt_of_le lt4_z_2 gz_4)
  have ne_y_2_z_4 : y_2 ≠ z_4 := Nat.ne_of_lt (Nat.lt_of_lt_of_le lt4_y_2 gz_4)
  have g_z_4 := gn_4
  have z_z_4 : h0.size ≤ z_4 := Nat.le_trans K.1 gz_4
  have O := O.keep K4 all0
  have K := K.trans K4 all0
  have w5 : own_Go p e below f0 T4 m 15 #[.val (.ref a)] [.ref z_4] := fun t k => by
    refine pre0 t ?_
    refine zal X0 Hb (D11 0) rfl rfl <| st1.trans <| st2 _ <| st3 _ <| st4 _ ?_
    exact k
  exact own_oR X4 Hb Bd.notSynchronized Bd.returns rfl w5 (D11 5) rfl (by decide) (by decide) ⟨z_4, kz_4, rfl, N4, K, (by rw [(own_ee cs).1]; exact V_z_c4), z_z_4, g_z_4⟩
theorem rm13_L_0 (hw : own_W a0 Z) (a tt : Addr) (kb : ClassId) {zc : Int32} {fm : Value} {fn : Value} {u8 : Addr} {h0 : Heap} {n0 : Nat} (O0 : Old Z n0 h0) (SU : own_SU Z zc fm fn u8) (E_a : Exa Z h0 a "java/lang/String") (F_v_a : Fld Z h0 a "java/lang/String" "value" "[B" (.ref tt)) (F_c_a : Fld Z h0 a "java/lang/String" "coder" "B" (.int 0)) (V_tt : Arv Z h0 tt kb .byte (0 : Int32) [] (.int 0)) : own_M l own_n13 prog_16_method_3_code 5 (some (.object "java/lang/String")) (own_rm 3 0 0 42) Z h0 #[.ref a] (fun v h L => v = some (.ref a) ∧ Fr n0 L ∧ h = h0) := by
  refine own_body (L0 := #[.val (.ref a), .unset, .unset, .unset, .unset]) (plainFor_of_name pn_com_example_gradual_reply_gradualreply_Utf8) rfl rfl ?_
  intro p e s m below meth c s₁ f0 Bd hx Hb hml hZ hown X0 e0 pre0
  have W := own_q hw
  have N0 := Fr.nil n0
  have O := O0
  obtain ⟨_, T1, Lc1, X1, hQ1, st1⟩ := own_cS X0 Hb hZ hown hml (L := #[.val (.ref a), .val (.ref a), .unset, .unset, .unset]) rfl (rm14_L_0 hw a tt kb O SU E_a F_v_a F_c_a V_tt) (W 62 rfl) (W 63 rfl) (W 48 rfl) (W 64 rfl) pd35 e0 (D13 4) [.ref a, .int 0] [] 0
  obtain ⟨rfl, N1q, eh1⟩ := hQ1
  have N1 := Fr.app N0 N1q
  have w2 : own_Go p e below f0 T1 m 76 #[.val (.ref a), .val (.ref a), .val (.int (-1)), .unset, .unset] [.ref a] := fun t k => by
    refine pre0 t ?_
    refine zal X0 Hb (D13 0) rfl rfl <| zas X0 Hb (L' := #[.val (.ref a), .val (.ref a), .unset, .unset, .unset]) (D13 1) rfl rfl <| zal X0 Hb (D13 2) rfl rfl <| zic X0 Hb (D13 3) 0 rfl <| st1 _ <| zis X1 Hb (L' := #[.val (.ref a), .val (.ref a), .val (.int (-1)), .unset, .unset]) (D13 5) rfl <| zil X1 Hb (D13 6) rfl <| ziy X1 Hb (D13 7) ((if0 _ _).trans (tlt ((by decide) : (-1 : Int32) < (0 : Int32))).1) 75 (by decide) rfl ?_
    refine zal X1 Hb (D13 43) rfl rfl ?_
    exact k
  exact own_oR X1 Hb Bd.notSynchronized Bd.returns rfl w2 (D13 44) eh1 (by decide) (by decide) ⟨rfl, N1, rfl⟩
theorem rm11_L_0 (hw : own_W a0 Z) (a tt : Addr) (kb : ClassId) {zc : Int32} {fm : Value} {fn : Value} {u8 : Addr} {h0 : Heap} {n0 : Nat} (O0 : Old Z n0 h0) (SU : own_SU Z zc fm fn u8) (E_a : Exa Z h0 a "java/lang/String") (F_v_a : Fld Z h0 a "java/lang/String" "value" "[B" (.ref tt)) (F_c_a : Fld Z h0 a "java/lang/String" "coder" "B" (.int 0)) (V_tt : Arv Z h0 tt kb .byte (0 : Int32) [] (.int 0)) (E_tt : Exa Z h0 tt "[B") : own_M l own_n11 prog_16_method_2_code 1 (some (.array .byte)) (own_rm 10 14 90 190) Z h0 #[.ref a] (fun v h L => ∃ z : Addr, ∃ kz : ClassId, v = some (.ref z) ∧ Fr n0 L ∧ Keep h0 h [] ∧ Arv Z h z kz .byte (Int32.ofNat (own_enc ([] : List Int32)).length) (own_enc ([] : List Int32)) (.int 0) ∧ h0.size ≤ z ∧ n0 ≤ z) := by
  refine own_body (L0 := #[.val (.ref a)]) (plainFor_of_name pn_com_example_gradual_reply_gradualreply_Utf8) rfl rfl ?_
  intro p e s m below meth c s₁ f0 Bd hx Hb hml hZ hown X0 e0 pre0
  have hby := Hb.2
  have W := own_q hw
  have N0 := Fr.nil n0
  have O := O0
  have K := Keep.refl h0 []
  obtain ⟨cq1, kq1, q1a, q1b, q1c⟩ := isOf hZ e0 E_a
  obtain ⟨_, _, ⟨T1, L1, k1, n1⟩, -, X1, ⟨Lc1, hQ1, l1, y1, z1⟩, st1⟩ := X0.interfaceBack hx (xi := (⟨"java/lang/CharSequence", "toString", "()Ljava/lang/String;"⟩ : MethodName)) (y := own_n12) hown (mvT hZ (W 50 rfl)) (mvT hZ (W 51 rfl)) (mvT hZ (W 52 rfl)) (mvT hZ (W 53 rfl)) (mvT hZ (W 54 rfl)) (mvT hZ (W 55 rfl)) (mvT hZ (W 56 rfl)) (mvT hZ (W 57 rfl)) (by decide) (own_bk (W := 0) (rm12 hw a O ) hZ (W 58 rfl) (W 8 rfl) (by decide) (by decide)) q1a q1b q1c (g := (mkF m 1 #[.val (.ref a)] [.ref a])) rfl (by rw [hml]; rfl) (Steps.refl _) (argsL := []) (rest := []) (lenOf pd38 rfl) rfl (by show 2 * 0 + _ ≤ _; exact Nat.le_of_eq rfl) (hb hby (D11 1)) (fun _ _ => ⟨rfl, e0, (by decide : 0 + 0 ≤ _), (by decide : 0 + 0 ≤ _)⟩)
  dsimp only [Pt.U, Pt.locs, Pt.cells, Pt.slots] at X1 l1 y1 z1 st1 hQ1
  have X1 := own_un X1 l1 y1 z1
  obtain ⟨rfl, N1q, eh1⟩ := hQ1
  have N1 := Fr.app N0 N1q
  obtain ⟨_, T2, Lc2, X2, hQ2, st2⟩ := own_cS X1 Hb hZ hown hml (L := #[.val (.ref a)]) rfl (rm13_L_0 hw a tt kb O SU E_a F_v_a F_c_a V_tt) (W 59 rfl) (W 60 rfl) (W 48 rfl) (W 61 rfl) pd43 eh1 (D11 2) [.ref a] [] 0
  obtain ⟨rfl, N2q, eh2⟩ := hQ2
  have N2 := Fr.app N1 N2q
  obtain ⟨T3, X3, e3, st3⟩ := getS2 X2 hx hZ hown (host := "") (Or.inl (W 102 rfl)) Via.refl eh2 (SU.2.2.2.2.2.1.ext O.2) (g := (mkF m 9 #[.val (.ref a)] [.ref a])) rfl (hb hby (D11 3))
  have lt4_a := E_a.lt
  have lt4_tt := V_tt.lt
  obtain ⟨_, T4, Lc4, X4, hQ4, st4⟩ := own_cV X3 Hb hZ hown hml (L := #[.val (.ref a)]) rfl (rm23_L hw a u8 tt kb (0 : Int32) [] ([] : List Value) O SU E_a F_v_a F_c_a V_tt E_tt (fun O V E => rm25_L_0 hw tt kb O V E )) (W 104 rfl) (W 105 rfl) (W 107 rfl) (W 106 rfl) (W 8 rfl) (W 108 rfl) pd44 e3 E_a (D11 4) [.ref u8] [] 0
  obtain ⟨z_4, kz_4, rfl, N4q, K4, V_z_c4, gz_4, gn_4⟩ := hQ4
  have N4 := Fr.app N2 N4q
  have E_a := E_a.keep K4
  have F_v_a := F_v_a.keep K4 nin0
  have F_c_a := F_c_a.keep K4 nin0
  have V_tt := V_tt.keep K4 nin0
  have E_tt := E_tt.keep K4
  have ne_a_z_4 : a ≠ z_4 := Nat.ne_of_lt (Nat.lt_of_lt_of_le lt4_a gz_4)
  have ne_tt_z_4 : tt ≠ z_4 := Nat.ne_of_lt (Nat.lt_of_lt_of_le lt4_tt gz_4)
  have g_z_4 := gn_4
  have z_z_4 : h0.size ≤ z_4 := Nat.le_trans K.1 gz_4
  have O := O.keep K4 all0
  have K := K.trans K4 all0
  have w5 : own_Go p e below f0 T4 m 15 #[.val (.ref a)] [.ref z_4] := fun t k => by
    refine pre0 t ?_
    refine zal X0 Hb (D11 0) rfl rfl <| st1.trans <| st2 _ <| st3 _ <| st4 _ ?_
    exact k
  exact own_oR X4 Hb Bd.notSynchronized Bd.returns rfl w5 (D11 5) rfl (by decide) (by decide) ⟨z_4, kz_4, rfl, N4, K, (by rw [(own_ee _).1, show own_enw (own_fix ([] : List Int32)) = ([] : List Value) by simp [own_fix, own_enw]]; exact V_z_c4), z_z_4, g_z_4⟩
theorem rm13_L_1 (hw : own_W a0 Z) (a tt : Addr) (kb : ClassId) (xa : Int32) {zc : Int32} {fm : Value} {fn : Value} {u8 : Addr} {h0 : Heap} {n0 : Nat} (O0 : Old Z n0 h0) (SU : own_SU Z zc fm fn u8) (E_a : Exa Z h0 a "java/lang/String") (F_v_a : Fld Z h0 a "java/lang/String" "value" "[B" (.ref tt)) (F_c_a : Fld Z h0 a "java/lang/String" "coder" "B" (.int 0)) (V_tt : Arv Z h0 tt kb .byte (1 : Int32) [.int (StrChars.lo8 xa)] (.int 0)) (lxa : own_k (own_k (StrChars.lo8 xa &&& (255 : Int32))) = xa) (sxa : own_is xa = (0 : Int32)) : own_M l own_n13 prog_16_method_3_code 5 (some (.object "java/lang/String")) (own_rm 5 0 0 69) Z h0 #[.ref a] (fun v h L => v = some (.ref a) ∧ Fr n0 L ∧ h = h0) := by
  refine own_body (L0 := #[.val (.ref a), .unset, .unset, .unset, .unset]) (plainFor_of_name pn_com_example_gradual_reply_gradualreply_Utf8) rfl rfl ?_
  intro p e s m below meth c s₁ f0 Bd hx Hb hml hZ hown X0 e0 pre0
  have W := own_q hw
  have N0 := Fr.nil n0
  have O := O0
  obtain ⟨_, T1, Lc1, X1, hQ1, st1⟩ := own_cS X0 Hb hZ hown hml (L := #[.val (.ref a), .val (.ref a), .unset, .unset, .unset]) rfl (rm14_L_1 hw a tt kb xa O SU E_a F_v_a F_c_a V_tt lxa sxa) (W 62 rfl) (W 63 rfl) (W 48 rfl) (W 64 rfl) pd35 e0 (D13 4) [.ref a, .int 0] [] 0
  obtain ⟨rfl, N1q, eh1⟩ := hQ1
  have N1 := Fr.app N0 N1q
  have w2 : own_Go p e below f0 T1 m 76 #[.val (.ref a), .val (.ref a), .val (.int (-1)), .unset, .unset] [.ref a] := fun t k => by
    refine pre0 t ?_
    refine zal X0 Hb (D13 0) rfl rfl <| zas X0 Hb (L' := #[.val (.ref a), .val (.ref a), .unset, .unset, .unset]) (D13 1) rfl rfl <| zal X0 Hb (D13 2) rfl rfl <| zic X0 Hb (D13 3) 0 rfl <| st1 _ <| zis X1 Hb (L' := #[.val (.ref a), .val (.ref a), .val (.int (-1)), .unset, .unset]) (D13 5) rfl <| zil X1 Hb (D13 6) rfl <| ziy X1 Hb (D13 7) ((if0 _ _).trans (tlt ((by decide) : (-1 : Int32) < (0 : Int32))).1) 75 (by decide) rfl ?_
    refine zal X1 Hb (D13 43) rfl rfl ?_
    exact k
  exact own_oR X1 Hb Bd.notSynchronized Bd.returns rfl w2 (D13 44) eh1 (by decide) (by decide) ⟨rfl, N1, rfl⟩
theorem rm11_L_1 (hw : own_W a0 Z) (a tt : Addr) (kb : ClassId) (xa : Int32) {zc : Int32} {fm : Value} {fn : Value} {u8 : Addr} {h0 : Heap} {n0 : Nat} (O0 : Old Z n0 h0) (SU : own_SU Z zc fm fn u8) (E_a : Exa Z h0 a "java/lang/String") (F_v_a : Fld Z h0 a "java/lang/String" "value" "[B" (.ref tt)) (F_c_a : Fld Z h0 a "java/lang/String" "coder" "B" (.int 0)) (V_tt : Arv Z h0 tt kb .byte (1 : Int32) [.int (StrChars.lo8 xa)] (.int 0)) (E_tt : Exa Z h0 tt "[B") (lxa : own_k (own_k (StrChars.lo8 xa &&& (255 : Int32))) = xa) (sxa : own_is xa = (0 : Int32)) (bxa : own_B8 xa) : own_M l own_n11 prog_16_method_2_code 1 (some (.array .byte)) (own_rm 10 14 90 190) Z h0 #[.ref a] (fun v h L => ∃ z : Addr, ∃ kz : ClassId, v = some (.ref z) ∧ Fr n0 L ∧ Keep h0 h [] ∧ Arv Z h z kz .byte (Int32.ofNat (own_enc [xa]).length) (own_enc [xa]) (.int 0) ∧ h0.size ≤ z ∧ n0 ≤ z) := by
  refine own_body (L0 := #[.val (.ref a)]) (plainFor_of_name pn_com_example_gradual_reply_gradualreply_Utf8) rfl rfl ?_
  intro p e s m below meth c s₁ f0 Bd hx Hb hml hZ hown X0 e0 pre0
  have hby := Hb.2
  have W := own_q hw
  have N0 := Fr.nil n0
  have O := O0
  have K := Keep.refl h0 []
  obtain ⟨cq1, kq1, q1a, q1b, q1c⟩ := isOf hZ e0 E_a
  obtain ⟨_, _, ⟨T1, L1, k1, n1⟩, -, X1, ⟨Lc1, hQ1, l1, y1, z1⟩, st1⟩ := X0.interfaceBack hx (xi := (⟨"java/lang/CharSequence", "toString", "()Ljava/lang/String;"⟩ : MethodName)) (y := own_n12) hown (mvT hZ (W 50 rfl)) (mvT hZ (W 51 rfl)) (mvT hZ (W 52 rfl)) (mvT hZ (W 53 rfl)) (mvT hZ (W 54 rfl)) (mvT hZ (W 55 rfl)) (mvT hZ (W 56 rfl)) (mvT hZ (W 57 rfl)) (by decide) (own_bk (W := 0) (rm12 hw a O ) hZ (W 58 rfl) (W 8 rfl) (by decide) (by decide)) q1a q1b q1c (g := (mkF m 1 #[.val (.ref a)] [.ref a])) rfl (by rw [hml]; rfl) (Steps.refl _) (argsL := []) (rest := []) (lenOf pd38 rfl) rfl (by show 2 * 0 + _ ≤ _; exact Nat.le_of_eq rfl) (hb hby (D11 1)) (fun _ _ => ⟨rfl, e0, (by decide : 0 + 0 ≤ _), (by decide : 0 + 0 ≤ _)⟩)
  dsimp only [Pt.U, Pt.locs, Pt.cells, Pt.slots] at X1 l1 y1 z1 st1 hQ1
  have X1 := own_un X1 l1 y1 z1
  obtain ⟨rfl, N1q, eh1⟩ := hQ1
  have N1 := Fr.app N0 N1q
  obtain ⟨_, T2, Lc2, X2, hQ2, st2⟩ := own_cS X1 Hb hZ hown hml (L := #[.val (.ref a)]) rfl (rm13_L_1 hw a tt kb xa O SU E_a F_v_a F_c_a V_tt lxa sxa) (W 59 rfl) (W 60 rfl) (W 48 rfl) (W 61 rfl) pd43 eh1 (D11 2) [.ref a] [] 0
  obtain ⟨rfl, N2q, eh2⟩ := hQ2
  have N2 := Fr.app N1 N2q
  obtain ⟨T3, X3, e3, st3⟩ := getS2 X2 hx hZ hown (host := "") (Or.inl (W 102 rfl)) Via.refl eh2 (SU.2.2.2.2.2.1.ext O.2) (g := (mkF m 9 #[.val (.ref a)] [.ref a])) rfl (hb hby (D11 3))
  have lt4_a := E_a.lt
  have lt4_tt := V_tt.lt
  obtain ⟨_, T4, Lc4, X4, hQ4, st4⟩ := own_cV X3 Hb hZ hown hml (L := #[.val (.ref a)]) rfl (rm23_L hw a u8 tt kb (1 : Int32) [.int (StrChars.lo8 xa)] (([] : List Value) ++ own_e1 xa) O SU E_a F_v_a F_c_a V_tt E_tt (fun O V E => rm25_L_1 hw tt kb xa O V E bxa)) (W 104 rfl) (W 105 rfl) (W 107 rfl) (W 106 rfl) (W 8 rfl) (W 108 rfl) pd44 e3 E_a (D11 4) [.ref u8] [] 0
  obtain ⟨z_4, kz_4, rfl, N4q, K4, V_z_c4, gz_4, gn_4⟩ := hQ4
  have N4 := Fr.app N2 N4q
  have E_a := E_a.keep K4
  have F_v_a := F_v_a.keep K4 nin0
  have F_c_a := F_c_a.keep K4 nin0
  have V_tt := V_tt.keep K4 nin0
  have E_tt := E_tt.keep K4
  have ne_a_z_4 : a ≠ z_4 := Nat.ne_of_lt (Nat.lt_of_lt_of_le lt4_a gz_4)
  have ne_tt_z_4 : tt ≠ z_4 := Nat.ne_of_lt (Nat.lt_of_lt_of_le lt4_tt gz_4)
  have g_z_4 := gn_4
  have z_z_4 : h0.size ≤ z_4 := Nat.le_trans K.1 gz_4
  have O := O.keep K4 all0
  have K := K.trans K4 all0
  have w5 : own_Go p e below f0 T4 m 15 #[.val (.ref a)] [.ref z_4] := fun t k => by
    refine pre0 t ?_
    refine zal X0 Hb (D11 0) rfl rfl <| st1.trans <| st2 _ <| st3 _ <| st4 _ ?_
    exact k
  exact own_oR X4 Hb Bd.notSynchronized Bd.returns rfl w5 (D11 5) rfl (by decide) (by decide) ⟨z_4, kz_4, rfl, N4, K, (by rw [(own_ee _).1, show own_enw (own_fix [xa]) = (([] : List Value) ++ own_e1 xa) by simp [own_fix, own_enw, sxa]]; exact V_z_c4), z_z_4, g_z_4⟩
theorem rm13_L_2 (hw : own_W a0 Z) (a tt : Addr) (kb : ClassId) (xa xb : Int32) {zc : Int32} {fm : Value} {fn : Value} {u8 : Addr} {h0 : Heap} {n0 : Nat} (O0 : Old Z n0 h0) (SU : own_SU Z zc fm fn u8) (E_a : Exa Z h0 a "java/lang/String") (F_v_a : Fld Z h0 a "java/lang/String" "value" "[B" (.ref tt)) (F_c_a : Fld Z h0 a "java/lang/String" "coder" "B" (.int 0)) (V_tt : Arv Z h0 tt kb .byte (2 : Int32) [.int (StrChars.lo8 xa), .int (StrChars.lo8 xb)] (.int 0)) (lxa : own_k (own_k (StrChars.lo8 xa &&& (255 : Int32))) = xa) (lxb : own_k (own_k (StrChars.lo8 xb &&& (255 : Int32))) = xb) (sxa : own_is xa = (0 : Int32)) (sxb : own_is xb = (0 : Int32)) : own_M l own_n13 prog_16_method_3_code 5 (some (.object "java/lang/String")) (own_rm 5 0 0 69) Z h0 #[.ref a] (fun v h L => v = some (.ref a) ∧ Fr n0 L ∧ h = h0) := by
  refine own_body (L0 := #[.val (.ref a), .unset, .unset, .unset, .unset]) (plainFor_of_name pn_com_example_gradual_reply_gradualreply_Utf8) rfl rfl ?_
  intro p e s m below meth c s₁ f0 Bd hx Hb hml hZ hown X0 e0 pre0
  have W := own_q hw
  have N0 := Fr.nil n0
  have O := O0
  obtain ⟨_, T1, Lc1, X1, hQ1, st1⟩ := own_cS X0 Hb hZ hown hml (L := #[.val (.ref a), .val (.ref a), .unset, .unset, .unset]) rfl (rm14_L_2 hw a tt kb xa xb O SU E_a F_v_a F_c_a V_tt lxa lxb sxa sxb) (W 62 rfl) (W 63 rfl) (W 48 rfl) (W 64 rfl) pd35 e0 (D13 4) [.ref a, .int 0] [] 0
  obtain ⟨rfl, N1q, eh1⟩ := hQ1
  have N1 := Fr.app N0 N1q
  have w2 : own_Go p e below f0 T1 m 76 #[.val (.ref a), .val (.ref a), .val (.int (-1)), .unset, .unset] [.ref a] := fun t k => by
    refine pre0 t ?_
    refine zal X0 Hb (D13 0) rfl rfl <| zas X0 Hb (L' := #[.val (.ref a), .val (.ref a), .unset, .unset, .unset]) (D13 1) rfl rfl <| zal X0 Hb (D13 2) rfl rfl <| zic X0 Hb (D13 3) 0 rfl <| st1 _ <| zis X1 Hb (L' := #[.val (.ref a), .val (.ref a), .val (.int (-1)), .unset, .unset]) (D13 5) rfl <| zil X1 Hb (D13 6) rfl <| ziy X1 Hb (D13 7) ((if0 _ _).trans (tlt ((by decide) : (-1 : Int32) < (0 : Int32))).1) 75 (by decide) rfl ?_
    refine zal X1 Hb (D13 43) rfl rfl ?_
    exact k
  exact own_oR X1 Hb Bd.notSynchronized Bd.returns rfl w2 (D13 44) eh1 (by decide) (by decide) ⟨rfl, N1, rfl⟩
theorem rm11_L_2 (hw : own_W a0 Z) (a tt : Addr) (kb : ClassId) (xa xb : Int32) {zc : Int32} {fm : Value} {fn : Value} {u8 : Addr} {h0 : Heap} {n0 : Nat} (O0 : Old Z n0 h0) (SU : own_SU Z zc fm fn u8) (E_a : Exa Z h0 a "java/lang/String") (F_v_a : Fld Z h0 a "java/lang/String" "value" "[B" (.ref tt)) (F_c_a : Fld Z h0 a "java/lang/String" "coder" "B" (.int 0)) (V_tt : Arv Z h0 tt kb .byte (2 : Int32) [.int (StrChars.lo8 xa), .int (StrChars.lo8 xb)] (.int 0)) (E_tt : Exa Z h0 tt "[B") (lxa : own_k (own_k (StrChars.lo8 xa &&& (255 : Int32))) = xa) (lxb : own_k (own_k (StrChars.lo8 xb &&& (255 : Int32))) = xb) (sxa : own_is xa = (0 : Int32)) (sxb : own_is xb = (0 : Int32)) (bxa : own_B8 xa) (bxb : own_B8 xb) : own_M l own_n11 prog_16_method_2_code 1 (some (.array .byte)) (own_rm 10 14 90 190) Z h0 #[.ref a] (fun v h L => ∃ z : Addr, ∃ kz : ClassId, v = some (.ref z) ∧ Fr n0 L ∧ Keep h0 h [] ∧ Arv Z h z kz .byte (Int32.ofNat (own_enc [xa, xb]).length) (own_enc [xa, xb]) (.int 0) ∧ h0.size ≤ z ∧ n0 ≤ z) := by
  refine own_body (L0 := #[.val (.ref a)]) (plainFor_of_name pn_com_example_gradual_reply_gradualreply_Utf8) rfl rfl ?_
  intro p e s m below meth c s₁ f0 Bd hx Hb hml hZ hown X0 e0 pre0
  have hby := Hb.2
  have W := own_q hw
  have N0 := Fr.nil n0
  have O := O0
  have K := Keep.refl h0 []
  obtain ⟨cq1, kq1, q1a, q1b, q1c⟩ := isOf hZ e0 E_a
  obtain ⟨_, _, ⟨T1, L1, k1, n1⟩, -, X1, ⟨Lc1, hQ1, l1, y1, z1⟩, st1⟩ := X0.interfaceBack hx (xi := (⟨"java/lang/CharSequence", "toString", "()Ljava/lang/String;"⟩ : MethodName)) (y := own_n12) hown (mvT hZ (W 50 rfl)) (mvT hZ (W 51 rfl)) (mvT hZ (W 52 rfl)) (mvT hZ (W 53 rfl)) (mvT hZ (W 54 rfl)) (mvT hZ (W 55 rfl)) (mvT hZ (W 56 rfl)) (mvT hZ (W 57 rfl)) (by decide) (own_bk (W := 0) (rm12 hw a O ) hZ (W 58 rfl) (W 8 rfl) (by decide) (by decide)) q1a q1b q1c (g := (mkF m 1 #[.val (.ref a)] [.ref a])) rfl (by rw [hml]; rfl) (Steps.refl _) (argsL := []) (rest := []) (lenOf pd38 rfl) rfl (by show 2 * 0 + _ ≤ _; exact Nat.le_of_eq rfl) (hb hby (D11 1)) (fun _ _ => ⟨rfl, e0, (by decide : 0 + 0 ≤ _), (by decide : 0 + 0 ≤ _)⟩)
  dsimp only [Pt.U, Pt.locs, Pt.cells, Pt.slots] at X1 l1 y1 z1 st1 hQ1
  have X1 := own_un X1 l1 y1 z1
  obtain ⟨rfl, N1q, eh1⟩ := hQ1
  have N1 := Fr.app N0 N1q
  obtain ⟨_, T2, Lc2, X2, hQ2, st2⟩ := own_cS X1 Hb hZ hown hml (L := #[.val (.ref a)]) rfl (rm13_L_2 hw a tt kb xa xb O SU E_a F_v_a F_c_a V_tt lxa lxb sxa sxb) (W 59 rfl) (W 60 rfl) (W 48 rfl) (W 61 rfl) pd43 eh1 (D11 2) [.ref a] [] 0
  obtain ⟨rfl, N2q, eh2⟩ := hQ2
  have N2 := Fr.app N1 N2q
  obtain ⟨T3, X3, e3, st3⟩ := getS2 X2 hx hZ hown (host := "") (Or.inl (W 102 rfl)) Via.refl eh2 (SU.2.2.2.2.2.1.ext O.2) (g := (mkF m 9 #[.val (.ref a)] [.ref a])) rfl (hb hby (D11 3))
  have lt4_a := E_a.lt
  have lt4_tt := V_tt.lt
  obtain ⟨_, T4, Lc4, X4, hQ4, st4⟩ := own_cV X3 Hb hZ hown hml (L := #[.val (.ref a)]) rfl (rm23_L hw a u8 tt kb (2 : Int32) [.int (StrChars.lo8 xa), .int (StrChars.lo8 xb)] ((([] : List Value) ++ own_e1 xa) ++ own_e1 xb) O SU E_a F_v_a F_c_a V_tt E_tt (fun O V E => rm25_L_2 hw tt kb xa xb O V E bxa bxb)) (W 104 rfl) (W 105 rfl) (W 107 rfl) (W 106 rfl) (W 8 rfl) (W 108 rfl) pd44 e3 E_a (D11 4) [.ref u8] [] 0
  obtain ⟨z_4, kz_4, rfl, N4q, K4, V_z_c4, gz_4, gn_4⟩ := hQ4
  have N4 := Fr.app N2 N4q
  have E_a := E_a.keep K4
  have F_v_a := F_v_a.keep K4 nin0
  have F_c_a := F_c_a.keep K4 nin0
  have V_tt := V_tt.keep K4 nin0
  have E_tt := E_tt.keep K4
  have ne_a_z_4 : a ≠ z_4 := Nat.ne_of_lt (Nat.lt_of_lt_of_le lt4_a gz_4)
  have ne_tt_z_4 : tt ≠ z_4 := Nat.ne_of_lt (Nat.lt_of_lt_of_le lt4_tt gz_4)
  have g_z_4 := gn_4
  have z_z_4 : h0.size ≤ z_4 := Nat.le_trans K.1 gz_4
  have O := O.keep K4 all0
  have K := K.trans K4 all0
  have w5 : own_Go p e below f0 T4 m 15 #[.val (.ref a)] [.ref z_4] := fun t k => by
    refine pre0 t ?_
    refine zal X0 Hb (D11 0) rfl rfl <| st1.trans <| st2 _ <| st3 _ <| st4 _ ?_
    exact k
  exact own_oR X4 Hb Bd.notSynchronized Bd.returns rfl w5 (D11 5) rfl (by decide) (by decide) ⟨z_4, kz_4, rfl, N4, K, (by rw [(own_ee _).1, show own_enw (own_fix [xa, xb]) = ((([] : List Value) ++ own_e1 xa) ++ own_e1 xb) by simp [own_fix, own_enw, sxa, sxb]]; exact V_z_c4), z_z_4, g_z_4⟩
theorem rm13_L_3 (hw : own_W a0 Z) (a tt : Addr) (kb : ClassId) (xa xb xc : Int32) {zc : Int32} {fm : Value} {fn : Value} {u8 : Addr} {h0 : Heap} {n0 : Nat} (O0 : Old Z n0 h0) (SU : own_SU Z zc fm fn u8) (E_a : Exa Z h0 a "java/lang/String") (F_v_a : Fld Z h0 a "java/lang/String" "value" "[B" (.ref tt)) (F_c_a : Fld Z h0 a "java/lang/String" "coder" "B" (.int 0)) (V_tt : Arv Z h0 tt kb .byte (3 : Int32) [.int (StrChars.lo8 xa), .int (StrChars.lo8 xb), .int (StrChars.lo8 xc)] (.int 0)) (lxa : own_k (own_k (StrChars.lo8 xa &&& (255 : Int32))) = xa) (lxb : own_k (own_k (StrChars.lo8 xb &&& (255 : Int32))) = xb) (lxc : own_k (own_k (StrChars.lo8 xc &&& (255 : Int32))) = xc) (sxa : own_is xa = (0 : Int32)) (sxb : own_is xb = (0 : Int32)) (sxc : own_is xc = (0 : Int32)) : own_M l own_n13 prog_16_method_3_code 5 (some (.object "java/lang/String")) (own_rm 5 0 0 69) Z h0 #[.ref a] (fun v h L => v = some (.ref a) ∧ Fr n0 L ∧ h = h0) := by
  refine own_body (L0 := #[.val (.ref a), .unset, .unset, .unset, .unset]) (plainFor_of_name pn_com_example_gradual_reply_gradualreply_Utf8) rfl rfl ?_
  intro p e s m below meth c s₁ f0 Bd hx Hb hml hZ hown X0 e0 pre0
  have W := own_q hw
  have N0 := Fr.nil n0
  have O := O0
  obtain ⟨_, T1, Lc1, X1, hQ1, st1⟩ := own_cS X0 Hb hZ hown hml (L := #[.val (.ref a), .val (.ref a), .unset, .unset, .unset]) rfl (rm14_L_3 hw a tt kb xa xb xc O SU E_a F_v_a F_c_a V_tt lxa lxb lxc sxa sxb sxc) (W 62 rfl) (W 63 rfl) (W 48 rfl) (W 64 rfl) pd35 e0 (D13 4) [.ref a, .int 0] [] 0
  obtain ⟨rfl, N1q, eh1⟩ := hQ1
  have N1 := Fr.app N0 N1q
  have w2 : own_Go p e below f0 T1 m 76 #[.val (.ref a), .val (.ref a), .val (.int (-1)), .unset, .unset] [.ref a] := fun t k => by
    refine pre0 t ?_
    refine zal X0 Hb (D13 0) rfl rfl <| zas X0 Hb (L' := #[.val (.ref a), .val (.ref a), .unset, .unset, .unset]) (D13 1) rfl rfl <| zal X0 Hb (D13 2) rfl rfl <| zic X0 Hb (D13 3) 0 rfl <| st1 _ <| zis X1 Hb (L' := #[.val (.ref a), .val (.ref a), .val (.int (-1)), .unset, .unset]) (D13 5) rfl <| zil X1 Hb (D13 6) rfl <| ziy X1 Hb (D13 7) ((if0 _ _).trans (tlt ((by decide) : (-1 : Int32) < (0 : Int32))).1) 75 (by decide) rfl ?_
    refine zal X1 Hb (D13 43) rfl rfl ?_
    exact k
  exact own_oR X1 Hb Bd.notSynchronized Bd.returns rfl w2 (D13 44) eh1 (by decide) (by decide) ⟨rfl, N1, rfl⟩
theorem rm11_L_3 (hw : own_W a0 Z) (a tt : Addr) (kb : ClassId) (xa xb xc : Int32) {zc : Int32} {fm : Value} {fn : Value} {u8 : Addr} {h0 : Heap} {n0 : Nat} (O0 : Old Z n0 h0) (SU : own_SU Z zc fm fn u8) (E_a : Exa Z h0 a "java/lang/String") (F_v_a : Fld Z h0 a "java/lang/String" "value" "[B" (.ref tt)) (F_c_a : Fld Z h0 a "java/lang/String" "coder" "B" (.int 0)) (V_tt : Arv Z h0 tt kb .byte (3 : Int32) [.int (StrChars.lo8 xa), .int (StrChars.lo8 xb), .int (StrChars.lo8 xc)] (.int 0)) (E_tt : Exa Z h0 tt "[B") (lxa : own_k (own_k (StrChars.lo8 xa &&& (255 : Int32))) = xa) (lxb : own_k (own_k (StrChars.lo8 xb &&& (255 : Int32))) = xb) (lxc : own_k (own_k (StrChars.lo8 xc &&& (255 : Int32))) = xc) (sxa : own_is xa = (0 : Int32)) (sxb : own_is xb = (0 : Int32)) (sxc : own_is xc = (0 : Int32)) (bxa : own_B8 xa) (bxb : own_B8 xb) (bxc : own_B8 xc) : own_M l own_n11 prog_16_method_2_code 1 (some (.array .byte)) (own_rm 10 14 90 190) Z h0 #[.ref a] (fun v h L => ∃ z : Addr, ∃ kz : ClassId, v = some (.ref z) ∧ Fr n0 L ∧ Keep h0 h [] ∧ Arv Z h z kz .byte (Int32.ofNat (own_enc [xa, xb, xc]).length) (own_enc [xa, xb, xc]) (.int 0) ∧ h0.size ≤ z ∧ n0 ≤ z) := by
  refine own_body (L0 := #[.val (.ref a)]) (plainFor_of_name pn_com_example_gradual_reply_gradualreply_Utf8) rfl rfl ?_
  intro p e s m below meth c s₁ f0 Bd hx Hb hml hZ hown X0 e0 pre0
  have hby := Hb.2
  have W := own_q hw
  have N0 := Fr.nil n0
  have O := O0
  have K := Keep.refl h0 []
  obtain ⟨cq1, kq1, q1a, q1b, q1c⟩ := isOf hZ e0 E_a
  obtain ⟨_, _, ⟨T1, L1, k1, n1⟩, -, X1, ⟨Lc1, hQ1, l1, y1, z1⟩, st1⟩ := X0.interfaceBack hx (xi := (⟨"java/lang/CharSequence", "toString", "()Ljava/lang/String;"⟩ : MethodName)) (y := own_n12) hown (mvT hZ (W 50 rfl)) (mvT hZ (W 51 rfl)) (mvT hZ (W 52 rfl)) (mvT hZ (W 53 rfl)) (mvT hZ (W 54 rfl)) (mvT hZ (W 55 rfl)) (mvT hZ (W 56 rfl)) (mvT hZ (W 57 rfl)) (by decide) (own_bk (W := 0) (rm12 hw a O ) hZ (W 58 rfl) (W 8 rfl) (by decide) (by decide)) q1a q1b q1c (g := (mkF m 1 #[.val (.ref a)] [.ref a])) rfl (by rw [hml]; rfl) (Steps.refl _) (argsL := []) (rest := []) (lenOf pd38 rfl) rfl (by show 2 * 0 + _ ≤ _; exact Nat.le_of_eq rfl) (hb hby (D11 1)) (fun _ _ => ⟨rfl, e0, (by decide : 0 + 0 ≤ _), (by decide : 0 + 0 ≤ _)⟩)
  dsimp only [Pt.U, Pt.locs, Pt.cells, Pt.slots] at X1 l1 y1 z1 st1 hQ1
  have X1 := own_un X1 l1 y1 z1
  obtain ⟨rfl, N1q, eh1⟩ := hQ1
  have N1 := Fr.app N0 N1q
  obtain ⟨_, T2, Lc2, X2, hQ2, st2⟩ := own_cS X1 Hb hZ hown hml (L := #[.val (.ref a)]) rfl (rm13_L_3 hw a tt kb xa xb xc O SU E_a F_v_a F_c_a V_tt lxa lxb lxc sxa sxb sxc) (W 59 rfl) (W 60 rfl) (W 48 rfl) (W 61 rfl) pd43 eh1 (D11 2) [.ref a] [] 0
  obtain ⟨rfl, N2q, eh2⟩ := hQ2
  have N2 := Fr.app N1 N2q
  obtain ⟨T3, X3, e3, st3⟩ := getS2 X2 hx hZ hown (host := "") (Or.inl (W 102 rfl)) Via.refl eh2 (SU.2.2.2.2.2.1.ext O.2) (g := (mkF m 9 #[.val (.ref a)] [.ref a])) rfl (hb hby (D11 3))
  have lt4_a := E_a.lt
  have lt4_tt := V_tt.lt
  obtain ⟨_, T4, Lc4, X4, hQ4, st4⟩ := own_cV X3 Hb hZ hown hml (L := #[.val (.ref a)]) rfl (rm23_L hw a u8 tt kb (3 : Int32) [.int (StrChars.lo8 xa), .int (StrChars.lo8 xb), .int (StrChars.lo8 xc)] (((([] : List Value) ++ own_e1 xa) ++ own_e1 xb) ++ own_e1 xc) O SU E_a F_v_a F_c_a V_tt E_tt (fun O V E => rm25_L_3 hw tt kb xa xb xc O V E bxa bxb bxc)) (W 104 rfl) (W 105 rfl) (W 107 rfl) (W 106 rfl) (W 8 rfl) (W 108 rfl) pd44 e3 E_a (D11 4) [.ref u8] [] 0
  obtain ⟨z_4, kz_4, rfl, N4q, K4, V_z_c4, gz_4, gn_4⟩ := hQ4
  have N4 := Fr.app N2 N4q
  have E_a := E_a.keep K4
  have F_v_a := F_v_a.keep K4 nin0
  have F_c_a := F_c_a.keep K4 nin0
  have V_tt := V_tt.keep K4 nin0
  have E_tt := E_tt.keep K4
  have ne_a_z_4 : a ≠ z_4 := Nat.ne_of_lt (Nat.lt_of_lt_of_le lt4_a gz_4)
  have ne_tt_z_4 : tt ≠ z_4 := Nat.ne_of_lt (Nat.lt_of_lt_of_le lt4_tt gz_4)
  have g_z_4 := gn_4
  have z_z_4 : h0.size ≤ z_4 := Nat.le_trans K.1 gz_4
  have O := O.keep K4 all0
  have K := K.trans K4 all0
  have w5 : own_Go p e below f0 T4 m 15 #[.val (.ref a)] [.ref z_4] := fun t k => by
    refine pre0 t ?_
    refine zal X0 Hb (D11 0) rfl rfl <| st1.trans <| st2 _ <| st3 _ <| st4 _ ?_
    exact k
  exact own_oR X4 Hb Bd.notSynchronized Bd.returns rfl w5 (D11 5) rfl (by decide) (by decide) ⟨z_4, kz_4, rfl, N4, K, (by rw [(own_ee _).1, show own_enw (own_fix [xa, xb, xc]) = (((([] : List Value) ++ own_e1 xa) ++ own_e1 xb) ++ own_e1 xc) by simp [own_fix, own_enw, sxa, sxb, sxc]]; exact V_z_c4), z_z_4, g_z_4⟩
theorem own_wbw {cs : List Int32} (h : own_G cs) (q : ∀ c ∈ cs, ¬ (255 : Int32) < c) : ∀ c ∈ cs, own_k (own_k (StrChars.lo8 c &&& (255 : Int32))) = c ∧ own_is c = (0 : Int32) ∧ own_B8 c := fun c hc => by
  have h1 := q c hc
  have h0 : ¬ c < 0 := by
    have e := c_i2c (own_k (((own_lo c &&& (255 : Int32)) <<< ((0 : Int32) &&& 31)) ||| ((own_hi c &&& (255 : Int32)) <<< ((8 : Int32) &&& 31))))
    have g := h c hc
    have g2 : own_gc (own_lo c) (own_hi c) = (own_k (((own_lo c &&& (255 : Int32)) <<< ((0 : Int32) &&& 31)) ||| ((own_hi c &&& (255 : Int32)) <<< ((8 : Int32) &&& 31)))).toUInt32.toUInt16.toUInt32.toInt32 := rfl
    rw [← g2, g] at e
    rw [Int32.lt_iff_toInt_lt, show (0 : Int32).toInt = 0 from rfl]
    omega
  refine ⟨own_l8k h0 h1, ?_, own_b8 h0 h1⟩
  have h2 : c < (55296 : Int32) := by
    rw [Int32.lt_iff_toInt_lt, show (255 : Int32).toInt = 255 from rfl] at h1
    rw [Int32.lt_iff_toInt_lt, show (55296 : Int32).toInt = 55296 from rfl]
    omega
  simp [own_is, h2]
theorem rm11_c (hw : own_W a0 Z) (a tt : Addr) (kb : ClassId) (cd NN : Int32) (wv : List Value) (cs : List Int32) {zc : Int32} {fm : Value} {fn : Value} {u8 : Addr} {h0 : Heap} {n0 : Nat} (O0 : Old Z n0 h0) (SU : own_SU Z zc fm fn u8) (E_a : Exa Z h0 a "java/lang/String") (F_v_a : Fld Z h0 a "java/lang/String" "value" "[B" (.ref tt)) (F_c_a : Fld Z h0 a "java/lang/String" "coder" "B" (.int cd)) (V_tt : Arv Z h0 tt kb .byte NN wv (.int 0)) (E_tt : Exa Z h0 tt "[B") (hcd : StrChars.Road.CodA cs cd NN wv) (hB3 : cs.length ≤ 3) (hG : own_G cs) : own_M l own_n11 prog_16_method_2_code 1 (some (.array .byte)) (own_rm 10 14 90 190) Z h0 #[.ref a] (fun v h L => ∃ z : Addr, ∃ kz : ClassId, v = some (.ref z) ∧ Fr n0 L ∧ Keep h0 h [] ∧ Arv Z h z kz .byte (Int32.ofNat (own_enc cs).length) (own_enc cs) (.int 0) ∧ h0.size ≤ z ∧ n0 ≤ z) := by
  rcases hcd with ⟨rfl, rfl, rfl, hb⟩ | ⟨rfl, rfl, rfl, hb⟩
  · have q := own_wbw hG hb
    match cs, hB3, V_tt, q with
    | [], _, V_tt, q => exact rm11_L_0 hw a tt kb O0 SU E_a F_v_a F_c_a V_tt E_tt   
    | [xa], _, V_tt, q => exact rm11_L_1 hw a tt kb xa O0 SU E_a F_v_a F_c_a V_tt E_tt (q xa (by simp)).1 (q xa (by simp)).2.1 (q xa (by simp)).2.2
    | [xa, xb], _, V_tt, q => exact rm11_L_2 hw a tt kb xa xb O0 SU E_a F_v_a F_c_a V_tt E_tt (q xa (by simp)).1 (q xb (by simp)).1 (q xa (by simp)).2.1 (q xb (by simp)).2.1 (q xa (by simp)).2.2 (q xb (by simp)).2.2
    | [xa, xb, xc], _, V_tt, q => exact rm11_L_3 hw a tt kb xa xb xc O0 SU E_a F_v_a F_c_a V_tt E_tt (q xa (by simp)).1 (q xb (by simp)).1 (q xc (by simp)).1 (q xa (by simp)).2.1 (q xb (by simp)).2.1 (q xc (by simp)).2.1 (q xa (by simp)).2.2 (q xb (by simp)).2.2 (q xc (by simp)).2.2
    | _ :: _ :: _ :: _ :: _, h, _, _ => simp at h
  · rw [own_wbe] at V_tt
    exact rm11_U hw a tt kb cs O0 SU E_a F_v_a F_c_a V_tt hB3 hG
theorem own_gck (x : Int32) : own_gc (own_lo (own_k x)) (own_hi (own_k x)) = own_k x := by
  have h := c_i2c x
  exact own_gce (by unfold own_k; omega) (by unfold own_k; omega)
theorem own_drk (x : Int32) : own_k (own_dr x) = own_dr x := by
  unfold own_dr
  split <;> exact own_kq rfl
theorem own_and3 (x : Int32) : (x &&& (3 : Int32)) = 0 ∨ (x &&& (3 : Int32)) = 1 ∨ (x &&& (3 : Int32)) = 2 ∨ (x &&& (3 : Int32)) = 3 := by
  have h : ∀ y : BitVec 32, (y &&& 3#32) = 0#32 ∨ (y &&& 3#32) = 1#32 ∨ (y &&& 3#32) = 2#32 ∨ (y &&& 3#32) = 3#32 := fun y => by
    have q : (y &&& 3#32).toNat < 4 := by
      rw [BitVec.toNat_and]
      exact Nat.lt_of_le_of_lt Nat.and_le_right (by decide)
    have e : ∀ k, (y &&& 3#32).toNat = k → (y &&& 3#32) = BitVec.ofNat 32 k := fun k hk => by rw [← hk, BitVec.ofNat_toNat]; simp
    rcases (by omega : (y &&& 3#32).toNat = 0 ∨ (y &&& 3#32).toNat = 1 ∨ (y &&& 3#32).toNat = 2 ∨ (y &&& 3#32).toNat = 3) with r | r | r | r
    · exact Or.inl (e _ r)
    · exact Or.inr (Or.inl (e _ r))
    · exact Or.inr (Or.inr (Or.inl (e _ r)))
    · exact Or.inr (Or.inr (Or.inr (e _ r)))
  have c : ∀ k : Int32, (x.toBitVec &&& 3#32) = k.toBitVec → (x &&& (3 : Int32)) = k := fun k hk => Int32.toBitVec_inj.mp hk
  rcases h x.toBitVec with r | r | r | r
  · exact Or.inl (c 0 r)
  · exact Or.inr (Or.inl (c 1 r))
  · exact Or.inr (Or.inr (Or.inl (c 2 r)))
  · exact Or.inr (Or.inr (Or.inr (c 3 r)))
theorem own_gt {cs : List Int32} (h : own_G cs) (n : Nat) : own_G (cs.take n) := fun c hc => h c (List.mem_of_mem_take hc)
theorem own_ldE {Z s : State} {a0 : Array Value} {EL : List (String × Nat)} {vm1 : Vm} {h' : Heap} {own text : String} {index : Nat} {c : ClassId} {a b : Addr} (hW : Z.Warmed39 vm1) (hf : vm1.findClass own = some c) (w : (Jvm.Cond.stringLink own index text).before a0 Z = true) (hmem : (own, index) ∈ EL) (hC : CHv Z EL vm1 h') (hL : Lit (s.setVm vm1) own index a) (Fv : Fld Z h' a "java/lang/String" "value" "[B" (.ref b)) : Exa Z h' b "[B" := by
  have hal := hW.alike
  obtain ⟨k, cf, i, units, hk, hcf, hp, hu, -⟩ := Cond.stringLink_spec (s := Wst Z vm1 h') (args := a0) hf (mvS (s := { Z with heap := h' }) hW w)
  have hr : k.resolved[index]? = some (some (.string a)) := by
    have q : (s.setVm vm1).resolvedAt? own index = some (.string a) := hL
    have e1 : (s.setVm vm1).vm.findClass own = some c := hf
    have e2 : (s.setVm vm1).vm.classes[c]? = some k := hk
    unfold State.resolvedAt? at q
    rw [e1] at q
    simp only [Option.bind_eq_bind, Option.bind_some, e2] at q
    cases hres : k.resolved[index]? with
    | none => simp [hres] at q
    | some o =>
      cases o with
      | none => simp [hres] at q
      | some r => simp [hres] at q; rw [q]
  obtain ⟨q, hq, F⟩ := SlB.of (hC _ hmem units a ⟨c, k, cf, i, hf, hk, hcf, hp, hu, Or.inl hr⟩)
  subst hq
  obtain ⟨cS, ⟨⟨s1, -, -, ⟨cv, kv, iv, s4, -⟩, -, -, -, s8, -, s10, s11, -⟩, -⟩, -, hB, -⟩ := F
  obtain ⟨kv', z4⟩ := ff_back (U := Wst Z vm1 h') hal s4
  obtain ⟨cell, cf2, k2, i2, f2, g1, g2, -, -, -, -, g7⟩ := Fv
  cases s1.symm.trans g1
  cases z4.symm.trans g2
  have hsd : q.sd = b := by
    have e := s8.symm.trans g7
    simpa using e
  subst hsd
  have hBZ : Z.vm.findClass "[B" = some q.SA.cls := by
    rw [← hal.findClass]
    exact hB
  obtain ⟨kb, hkb, -⟩ := Vm.findClass_spec hBZ
  obtain ⟨kb', hkb', ekb⟩ := hal.2.2 _ _ hkb
  obtain ⟨hst, k9, hk9, comp, hkind⟩ := s11
  have e9 : k9 = kb' := Option.some.inj (hk9.symm.trans hkb')
  rw [e9, ekb] at hkind
  have hS : q.SA.vm.isStatics = false := by
    cases hv : q.SA.vm with
    | statics x => exact absurd hv (hst x)
    | _ => rfl
  exact ⟨q.SA, kb, s10, hBZ, hkb, hS, fun ho => by rw [hkind] at ho; cases ho⟩
def own_F29 (x0 : Int32) (x1 : Int32) (x2 : Int32) (x3 : Int32) (x4 : Int32) (x5 : Int32) (x6 : Int32) (x7 : Int32) (x8 : Addr) (x9 : Addr) (x10 : Addr) (x11 : Addr) (x12 : Addr) (x13 : Addr) (x14 : Addr) (x15 : Addr) : Array Slot := #[.val (.int x0), .val (.int x1), .val (.int x2), .val (.int x3), .val (.int x4), .val (.int x5), .val (.int x6), .val (.int x7), .val (.ref x8), .val (.ref x9), .val (.ref x10), .val (.ref x11), .val (.ref x12), .val (.ref x13), .val (.ref x14), .val (.ref x15), .unset, .unset]
theorem pd45 : parseMethodDescriptor "([CI[B[I)V" = some ⟨[(.array .char), .int, (.array .byte), (.array .int)], none⟩ := by decide +kernel
def own_F30 (x0 : Int32) (x1 : Int32) (x2 : Int32) (x3 : Int32) (x4 : Int32) (x5 : Int32) (x6 : Int32) (x7 : Int32) (x8 : Addr) (x9 : Addr) (x10 : Addr) (x11 : Addr) (x12 : Addr) (x13 : Addr) (x14 : Addr) (x15 : Addr) (x16 : Int32) : Array Slot := #[.val (.int x0), .val (.int x1), .val (.int x2), .val (.int x3), .val (.int x4), .val (.int x5), .val (.int x6), .val (.int x7), .val (.ref x8), .val (.ref x9), .val (.ref x10), .val (.ref x11), .val (.ref x12), .val (.ref x13), .val (.ref x14), .val (.ref x15), .val (.int x16), .unset]
theorem pd46 : parseMethodDescriptor "(Ljava/lang/CharSequence;)[B" = some ⟨[(.object "java/lang/CharSequence")], some (.array .byte)⟩ := by decide +kernel
def own_F31 (x0 : Int32) (x1 : Int32) (x2 : Int32) (x3 : Int32) (x4 : Int32) (x5 : Int32) (x6 : Int32) (x7 : Int32) (x8 : Addr) (x9 : Addr) (x10 : Addr) (x11 : Addr) (x12 : Addr) (x13 : Addr) (x14 : Addr) (x15 : Addr) (x16 : Int32) (x17 : Addr) : Array Slot := #[.val (.int x0), .val (.int x1), .val (.int x2), .val (.int x3), .val (.int x4), .val (.int x5), .val (.int x6), .val (.int x7), .val (.ref x8), .val (.ref x9), .val (.ref x10), .val (.ref x11), .val (.ref x12), .val (.ref x13), .val (.ref x14), .val (.ref x15), .val (.int x16), .val (.ref x17)]
theorem pd47 : parseMethodDescriptor "([B[BII)Z" = some ⟨[(.array .byte), (.array .byte), .int, .int], some .boolean⟩ := by decide +kernel
theorem tail0 {p : Program} {e : Env} {R : Room} {s : State} {m : MethodId} {args : Array Value} {below : List Frame} {meth : Method} {c : Code} {T f0 : State} {locs : List Loc} {cells slots : Nat} (hw : own_W a0 Z) (wa wb wc wd nn xa xb xc : Int32) (b ra rb rc rd a o sa tt : Addr) (kc ko ks kb : ClassId) (cd NN : Int32) (wv : List Value) (n : Nat) {zc : Int32} {fm : Value} {fn : Value} {u8 : Addr} {h0 : Heap} {n0 : Nat} (X0 : Stand p l e R s m args below meth c T locs cells slots) (hx : p.tables.exec = Jvm.exec) (Hb : own_H p c code) (hZ : Z.Warmed39 s.vm) (hown : s.vm.findClass own_n0.cls = some m.cls) (hml : c.maxLocals = 18) (hR : 11 ≤ R.frames ∧ 202 ≤ R.locals ∧ (cells + 14) ≤ R.cells ∧ (slots + 90) ≤ R.slots) (e0 : T.heap = h0) (N0 : Fr n0 locs) (O : Old Z n0 h0) (SU : own_SU Z zc fm fn u8) (V_b : Arv Z h0 b kc .char (3 : Int32) [.int xa, .int xb, .int xc] (.int 0)) (V_o : Arv Z h0 o ko .byte (12 : Int32) (([] : List Value) ++ List.replicate (8 + 4) (.int 0)) (.int 0)) (V_sa : Arv Z h0 sa ks .int (2 : Int32) [.int 0, .int 0] (.int 0)) (E_a : Exa Z h0 a "java/lang/String") (F_v_a : Fld Z h0 a "java/lang/String" "value" "[B" (.ref tt)) (F_c_a : Fld Z h0 a "java/lang/String" "coder" "B" (.int cd)) (V_tt : Arv Z h0 tt kb .byte NN wv (.int 0)) (E_tt : Exa Z h0 tt "[B") (nos : o ≠ sa) (nbo : b ≠ o) (nbs : b ≠ sa) (nto : tt ≠ o) (nts : tt ≠ sa) (h3n : n ≤ 3) (hnn : nn = Int32.ofNat n) (hcd : StrChars.Road.CodA ([xa, xb, xc].take n) cd NN wv) (hG : own_G ([xa, xb, xc].take n)) (g_o : n0 ≤ o) (g_sa : n0 ≤ sa) (pre0 : own_Go p e below f0 T m 182 (own_F29 wa wb wc wd nn xa xb xc b ra rb rc rd a o sa) []) : ∃ (T' : State) (L' : List Loc) (pqx : Int32) (zx : Addr), Stand p l e R s m args below meth c T' L' (cells + 14) (slots + 90) ∧ Fr n0 L' ∧ Keep h0 T'.heap [o, sa] ∧ own_Go p e below f0 T' m 358 (own_F31 wa wb wc wd nn xa xb xc b ra rb rc rd a o sa pqx zx) [] := by
  have hby := Hb.2
  have W := own_q hw
  have K := Keep.refl h0 [o, sa]
  have ne_a_o : a ≠ o := (Exa.neArv E_a V_o (W 7 rfl))
  have ne_a_sa : a ≠ sa := (Exa.neArv E_a V_sa (W 7 rfl))
  obtain ⟨_, T1, Lc1, X1, hQ1, st1⟩ := own_cS X0 Hb hZ hown hml (L := (own_F29 wa wb wc wd nn xa xb xc b ra rb rc rd a o sa)) rfl (rm8_g hw b nn o sa kc xa xb xc ko ks ([] : List Value) 8 (0 : Int32) (0 : Int32) ([xa, xb, xc].take n) O V_b V_o V_sa nos nbo nbs rfl rfl ⟨n, 0, h3n, Nat.zero_le _, hnn, rfl, rfl⟩ g_o g_sa) (W 36 rfl) (W 37 rfl) (W 2 rfl) (W 38 rfl) pd45 e0 at_190 [.ref b, .int nn, .ref o, .ref sa] [] 0 (hf := ⟨Nat.le_trans (by decide) hR.1, Nat.le_trans (by decide) hR.2.1, by have q := hR.2.2.1; try dsimp only [own_rm]; omega, by have q := hR.2.2.2; try dsimp only [own_rm]; omega⟩)
  obtain ⟨r2_1, pq_1, i2_1, rfl, N1q, K1, V_o_c1, V_sa_c1, hq_1, hr2_1, hr3_1, hRM2_1⟩ := hQ1
  have N1 := Fr.app N0 N1q
  have V_b := V_b.keep K1 (ninS nbo (ninS nbs nin0))
  have E_a := E_a.keep K1
  have F_v_a := F_v_a.keep K1 (ninS ne_a_o (ninS ne_a_sa nin0))
  have F_c_a := F_c_a.keep K1 (ninS ne_a_o (ninS ne_a_sa nin0))
  have V_tt := V_tt.keep K1 (ninS nto (ninS nts nin0))
  have E_tt := E_tt.keep K1
  have O := O.keep K1 (allS g_o (allS g_sa all0))
  have K := K.trans K1 (allS (Or.inl (List.mem_of_getElem? (i := 0) rfl)) (allS (Or.inl (List.mem_of_getElem? (i := 1) rfl)) all0))
  obtain ⟨qx, hqx⟩ : ∃ q, r2_1 = q + 4 := ⟨r2_1 - 4, by omega⟩
  subst hqx
  obtain ⟨_, T2, Lc2, X2, hQ2, st2⟩ := own_cS X1 Hb hZ hown hml (L := (own_F29 wa wb wc wd nn xa xb xc b ra rb rc rd a o sa)) rfl (rm8_g hw b nn o sa kc xa xb xc ko ks (([] : List Value) ++ own_st ([xa, xb, xc].take n)) qx i2_1 pq_1 (own_rs ([xa, xb, xc].take n)) O V_b V_o_c1 V_sa_c1 nos nbo nbs hq_1 hr2_1 hRM2_1 g_o g_sa) (W 36 rfl) (W 37 rfl) (W 2 rfl) (W 38 rfl) pd45 rfl at_201 [.ref b, .int nn, .ref o, .ref sa] [] 0 (hf := ⟨Nat.le_trans (by decide) hR.1, Nat.le_trans (by decide) hR.2.1, by have q := hR.2.2.1; try dsimp only [own_rm]; omega, by have q := hR.2.2.2; try dsimp only [own_rm]; omega⟩)
  obtain ⟨r2_2, pq_2, i2_2, rfl, N2q, K2, V_o_c2, V_sa_c2, hq_2, hr2_2, hr3_2, hRM2_2⟩ := hQ2
  have N2 := Fr.app N1 N2q
  have V_b := V_b.keep K2 (ninS nbo (ninS nbs nin0))
  have E_a := E_a.keep K2
  have F_v_a := F_v_a.keep K2 (ninS ne_a_o (ninS ne_a_sa nin0))
  have F_c_a := F_c_a.keep K2 (ninS ne_a_o (ninS ne_a_sa nin0))
  have V_tt := V_tt.keep K2 (ninS nto (ninS nts nin0))
  have E_tt := E_tt.keep K2
  have O := O.keep K2 (allS g_o (allS g_sa all0))
  have K := K.trans K2 (allS (Or.inl (List.mem_of_getElem? (i := 0) rfl)) (allS (Or.inl (List.mem_of_getElem? (i := 1) rfl)) all0))
  obtain ⟨qy, hqy⟩ : ∃ q, r2_2 = q + 4 := ⟨r2_2 - 4, by omega⟩
  subst hqy
  obtain ⟨_, T3, Lc3, X3, hQ3, st3⟩ := own_cS X2 Hb hZ hown hml (L := (own_F29 wa wb wc wd nn xa xb xc b ra rb rc rd a o sa)) rfl (rm8_g hw b nn o sa kc xa xb xc ko ks ((([] : List Value) ++ own_st ([xa, xb, xc].take n)) ++ own_st (own_rs ([xa, xb, xc].take n))) qy i2_2 pq_2 (own_rs (own_rs ([xa, xb, xc].take n))) O V_b V_o_c2 V_sa_c2 nos nbo nbs hq_2 hr2_2 hRM2_2 g_o g_sa) (W 36 rfl) (W 37 rfl) (W 2 rfl) (W 38 rfl) pd45 rfl at_212 [.ref b, .int nn, .ref o, .ref sa] [] 0 (hf := ⟨Nat.le_trans (by decide) hR.1, Nat.le_trans (by decide) hR.2.1, by have q := hR.2.2.1; try dsimp only [own_rm]; omega, by have q := hR.2.2.2; try dsimp only [own_rm]; omega⟩)
  obtain ⟨r2_3, pq_3, i2_3, rfl, N3q, K3, V_o_c3, V_sa_c3, hq_3, hr2_3, hr3_3, hRM2_3⟩ := hQ3
  have N3 := Fr.app N2 N3q
  have V_b := V_b.keep K3 (ninS nbo (ninS nbs nin0))
  have E_a := E_a.keep K3
  have F_v_a := F_v_a.keep K3 (ninS ne_a_o (ninS ne_a_sa nin0))
  have F_c_a := F_c_a.keep K3 (ninS ne_a_o (ninS ne_a_sa nin0))
  have V_tt := V_tt.keep K3 (ninS nto (ninS nts nin0))
  have E_tt := E_tt.keep K3
  have O := O.keep K3 (allS g_o (allS g_sa all0))
  have K := K.trans K3 (allS (Or.inl (List.mem_of_getElem? (i := 0) rfl)) (allS (Or.inl (List.mem_of_getElem? (i := 1) rfl)) all0))
  have hl3 : ([xa, xb, xc].take n).length ≤ 3 := by rw [List.length_take]; show min n 3 ≤ 3; omega
  rw [own_e3 hl3] at V_o_c3 hq_3 hr2_3
  have B4 : own_El Z (T3.heap) sa .int (1 : Int32) (.int pq_3) := own_el V_sa_c3 ⟨by decide, by decide⟩ rfl
  have lt5_b := V_b.lt
  have lt5_o := V_o_c3.lt
  have lt5_sa := V_sa_c3.lt
  have lt5_a := E_a.lt
  have lt5_tt := V_tt.lt
  obtain ⟨_, T5, Lc5, X5, hQ5, st5⟩ := own_cS X3 Hb hZ hown hml (L := (own_F30 wa wb wc wd nn xa xb xc b ra rb rc rd a o sa pq_3)) rfl (rm11_c hw a tt kb cd NN wv ([xa, xb, xc].take n) O SU E_a F_v_a F_c_a V_tt E_tt hcd hl3 hG) (W 46 rfl) (W 47 rfl) (W 48 rfl) (W 49 rfl) pd46 rfl at_223 [.ref a] [] 0 (hf := ⟨Nat.le_trans (by decide) hR.1, Nat.le_trans (by decide) hR.2.1, by have q := hR.2.2.1; try dsimp only [own_rm]; omega, by have q := hR.2.2.2; try dsimp only [own_rm]; omega⟩)
  obtain ⟨z_5, kz_5, rfl, N5q, K5, V_z_c5, gz_5, gn_5⟩ := hQ5
  have N5 := Fr.app N3 N5q
  have V_b := V_b.keep K5 nin0
  have E_a := E_a.keep K5
  have F_v_a := F_v_a.keep K5 nin0
  have F_c_a := F_c_a.keep K5 nin0
  have V_tt := V_tt.keep K5 nin0
  have E_tt := E_tt.keep K5
  have V_o_c3 := V_o_c3.keep K5 nin0
  have V_sa_c3 := V_sa_c3.keep K5 nin0
  have ne_b_z_5 : b ≠ z_5 := Nat.ne_of_lt (Nat.lt_of_lt_of_le lt5_b gz_5)
  have ne_o_z_5 : o ≠ z_5 := Nat.ne_of_lt (Nat.lt_of_lt_of_le lt5_o gz_5)
  have ne_sa_z_5 : sa ≠ z_5 := Nat.ne_of_lt (Nat.lt_of_lt_of_le lt5_sa gz_5)
  have ne_a_z_5 : a ≠ z_5 := Nat.ne_of_lt (Nat.lt_of_lt_of_le lt5_a gz_5)
  have ne_tt_z_5 : tt ≠ z_5 := Nat.ne_of_lt (Nat.lt_of_lt_of_le lt5_tt gz_5)
  have g_z_5 := gn_5
  have z_z_5 : h0.size ≤ z_5 := Nat.le_trans K.1 gz_5
  have O := O.keep K5 all0
  have K := K.trans K5 all0
  have B6 := own_ln V_z_c5
  obtain ⟨_, T7, Lc7, X7, hQ7, st7⟩ := own_cS X5 Hb hZ hown hml (L := (own_F31 wa wb wc wd nn xa xb xc b ra rb rc rd a o sa pq_3 z_5)) rfl (rm28 hw z_5 o (0 : Int32) pq_3 kz_5 ko (own_enc ([xa, xb, xc].take n)) r2_3 O V_z_c5 V_o_c3 hq_3 hr2_3 (by decide) (own_hin _)) (W 133 rfl) (W 134 rfl) (W 2 rfl) (W 135 rfl) pd47 rfl at_245 [.ref z_5, .ref o, .int 0, .int pq_3] [] 0 (hf := ⟨Nat.le_trans (by decide) hR.1, Nat.le_trans (by decide) hR.2.1, by have q := hR.2.2.1; try dsimp only [own_rm]; omega, by have q := hR.2.2.2; try dsimp only [own_rm]; omega⟩)
  obtain ⟨rfl, N7q, eh7⟩ := hQ7
  have N7 := Fr.app N5 N7q
  obtain ⟨_, T8, Lc8, X8, hQ8, st8⟩ := own_cS X7 Hb hZ hown hml (L := (own_F31 wa wb wc wd nn xa xb xc b ra rb rc rd a o sa pq_3 z_5)) rfl (rm28 hw z_5 o (1 : Int32) pq_3 kz_5 ko (own_enc ([xa, xb, xc].take n)) r2_3 O V_z_c5 V_o_c3 hq_3 hr2_3 (by decide) (own_hin _)) (W 133 rfl) (W 134 rfl) (W 2 rfl) (W 135 rfl) pd47 eh7 at_258 [.ref z_5, .ref o, .int 1, .int pq_3] [] 0 (hf := ⟨Nat.le_trans (by decide) hR.1, Nat.le_trans (by decide) hR.2.1, by have q := hR.2.2.1; try dsimp only [own_rm]; omega, by have q := hR.2.2.2; try dsimp only [own_rm]; omega⟩)
  obtain ⟨rfl, N8q, eh8⟩ := hQ8
  have N8 := Fr.app N7 N8q
  obtain ⟨_, T9, Lc9, X9, hQ9, st9⟩ := own_cS X8 Hb hZ hown hml (L := (own_F31 wa wb wc wd nn xa xb xc b ra rb rc rd a o sa pq_3 z_5)) rfl (rm28 hw z_5 o (2 : Int32) pq_3 kz_5 ko (own_enc ([xa, xb, xc].take n)) r2_3 O V_z_c5 V_o_c3 hq_3 hr2_3 (by decide) (own_hin _)) (W 133 rfl) (W 134 rfl) (W 2 rfl) (W 135 rfl) pd47 eh8 at_271 [.ref z_5, .ref o, .int 2, .int pq_3] [] 0 (hf := ⟨Nat.le_trans (by decide) hR.1, Nat.le_trans (by decide) hR.2.1, by have q := hR.2.2.1; try dsimp only [own_rm]; omega, by have q := hR.2.2.2; try dsimp only [own_rm]; omega⟩)
  obtain ⟨rfl, N9q, eh9⟩ := hQ9
  have N9 := Fr.app N8 N9q
  obtain ⟨_, T10, Lc10, X10, hQ10, st10⟩ := own_cS X9 Hb hZ hown hml (L := (own_F31 wa wb wc wd nn xa xb xc b ra rb rc rd a o sa pq_3 z_5)) rfl (rm28 hw z_5 o (3 : Int32) pq_3 kz_5 ko (own_enc ([xa, xb, xc].take n)) r2_3 O V_z_c5 V_o_c3 hq_3 hr2_3 (by decide) (own_hin _)) (W 133 rfl) (W 134 rfl) (W 2 rfl) (W 135 rfl) pd47 eh9 at_284 [.ref z_5, .ref o, .int 3, .int pq_3] [] 0 (hf := ⟨Nat.le_trans (by decide) hR.1, Nat.le_trans (by decide) hR.2.1, by have q := hR.2.2.1; try dsimp only [own_rm]; omega, by have q := hR.2.2.2; try dsimp only [own_rm]; omega⟩)
  obtain ⟨rfl, N10q, eh10⟩ := hQ10
  have N10 := Fr.app N9 N10q
  obtain ⟨_, T11, Lc11, X11, hQ11, st11⟩ := own_cS X10 Hb hZ hown hml (L := (own_F31 wa wb wc wd nn xa xb xc b ra rb rc rd a o sa pq_3 z_5)) rfl (rm28 hw z_5 o (4 : Int32) pq_3 kz_5 ko (own_enc ([xa, xb, xc].take n)) r2_3 O V_z_c5 V_o_c3 hq_3 hr2_3 (by decide) (own_hin _)) (W 133 rfl) (W 134 rfl) (W 2 rfl) (W 135 rfl) pd47 eh10 at_297 [.ref z_5, .ref o, .int 4, .int pq_3] [] 0 (hf := ⟨Nat.le_trans (by decide) hR.1, Nat.le_trans (by decide) hR.2.1, by have q := hR.2.2.1; try dsimp only [own_rm]; omega, by have q := hR.2.2.2; try dsimp only [own_rm]; omega⟩)
  obtain ⟨rfl, N11q, eh11⟩ := hQ11
  have N11 := Fr.app N10 N11q
  obtain ⟨_, T12, Lc12, X12, hQ12, st12⟩ := own_cS X11 Hb hZ hown hml (L := (own_F31 wa wb wc wd nn xa xb xc b ra rb rc rd a o sa pq_3 z_5)) rfl (rm28 hw z_5 o (5 : Int32) pq_3 kz_5 ko (own_enc ([xa, xb, xc].take n)) r2_3 O V_z_c5 V_o_c3 hq_3 hr2_3 (by decide) (own_hin _)) (W 133 rfl) (W 134 rfl) (W 2 rfl) (W 135 rfl) pd47 eh11 at_310 [.ref z_5, .ref o, .int 5, .int pq_3] [] 0 (hf := ⟨Nat.le_trans (by decide) hR.1, Nat.le_trans (by decide) hR.2.1, by have q := hR.2.2.1; try dsimp only [own_rm]; omega, by have q := hR.2.2.2; try dsimp only [own_rm]; omega⟩)
  obtain ⟨rfl, N12q, eh12⟩ := hQ12
  have N12 := Fr.app N11 N12q
  obtain ⟨_, T13, Lc13, X13, hQ13, st13⟩ := own_cS X12 Hb hZ hown hml (L := (own_F31 wa wb wc wd nn xa xb xc b ra rb rc rd a o sa pq_3 z_5)) rfl (rm28 hw z_5 o (6 : Int32) pq_3 kz_5 ko (own_enc ([xa, xb, xc].take n)) r2_3 O V_z_c5 V_o_c3 hq_3 hr2_3 (by decide) (own_hin _)) (W 133 rfl) (W 134 rfl) (W 2 rfl) (W 135 rfl) pd47 eh12 at_324 [.ref z_5, .ref o, .int 6, .int pq_3] [] 0 (hf := ⟨Nat.le_trans (by decide) hR.1, Nat.le_trans (by decide) hR.2.1, by have q := hR.2.2.1; try dsimp only [own_rm]; omega, by have q := hR.2.2.2; try dsimp only [own_rm]; omega⟩)
  obtain ⟨rfl, N13q, eh13⟩ := hQ13
  have N13 := Fr.app N12 N13q
  obtain ⟨_, T14, Lc14, X14, hQ14, st14⟩ := own_cS X13 Hb hZ hown hml (L := (own_F31 wa wb wc wd nn xa xb xc b ra rb rc rd a o sa pq_3 z_5)) rfl (rm28 hw z_5 o (7 : Int32) pq_3 kz_5 ko (own_enc ([xa, xb, xc].take n)) r2_3 O V_z_c5 V_o_c3 hq_3 hr2_3 (by decide) (own_hin _)) (W 133 rfl) (W 134 rfl) (W 2 rfl) (W 135 rfl) pd47 eh13 at_338 [.ref z_5, .ref o, .int 7, .int pq_3] [] 0 (hf := ⟨Nat.le_trans (by decide) hR.1, Nat.le_trans (by decide) hR.2.1, by have q := hR.2.2.1; try dsimp only [own_rm]; omega, by have q := hR.2.2.2; try dsimp only [own_rm]; omega⟩)
  obtain ⟨rfl, N14q, eh14⟩ := hQ14
  have N14 := Fr.app N13 N14q
  obtain ⟨_, T15, Lc15, X15, hQ15, st15⟩ := own_cS X14 Hb hZ hown hml (L := (own_F31 wa wb wc wd nn xa xb xc b ra rb rc rd a o sa pq_3 z_5)) rfl (rm28 hw z_5 o (8 : Int32) pq_3 kz_5 ko (own_enc ([xa, xb, xc].take n)) r2_3 O V_z_c5 V_o_c3 hq_3 hr2_3 (by decide) (own_hin _)) (W 133 rfl) (W 134 rfl) (W 2 rfl) (W 135 rfl) pd47 eh14 at_352 [.ref z_5, .ref o, .int 8, .int pq_3] [] 0 (hf := ⟨Nat.le_trans (by decide) hR.1, Nat.le_trans (by decide) hR.2.1, by have q := hR.2.2.1; try dsimp only [own_rm]; omega, by have q := hR.2.2.2; try dsimp only [own_rm]; omega⟩)
  obtain ⟨rfl, N15q, eh15⟩ := hQ15
  have N15 := Fr.app N14 N15q
  have w16 : own_Go p e below f0 T15 m 358 (own_F31 wa wb wc wd nn xa xb xc b ra rb rc rd a o sa pq_3 z_5) [] := fun t k => by
    refine pre0 t ?_
    refine zaL X0 Hb at_182 rfl rfl <| ziL X0 Hb at_184 rfl <| zaL X0 Hb at_186 rfl rfl <| zaL X0 Hb at_188 rfl rfl <| st1 _ <| zaL X1 Hb at_193 rfl rfl <| ziL X1 Hb at_195 rfl <| zaL X1 Hb at_197 rfl rfl ?_
    refine zaL X1 Hb at_199 rfl rfl <| st2 _ <| zaL X2 Hb at_204 rfl rfl <| ziL X2 Hb at_206 rfl <| zaL X2 Hb at_208 rfl rfl <| zaL X2 Hb at_210 rfl rfl <| st3 _ <| zaL X3 Hb at_215 rfl rfl ?_
    refine zic X3 Hb at_217 1 rfl <| zia_ X3 Hb hZ rfl B4 at_218 <| ziS X3 Hb (L' := (own_F30 wa wb wc wd nn xa xb xc b ra rb rc rd a o sa pq_3)) at_219 rfl <| zaL X3 Hb at_221 rfl rfl <| st5 _ <| zaS X5 Hb (L' := (own_F31 wa wb wc wd nn xa xb xc b ra rb rc rd a o sa pq_3 z_5)) at_226 rfl rfl <| zaL X5 Hb at_228 rfl rfl <| zal_ X5 Hb hZ rfl B6 at_230 ?_
    refine ziL X5 Hb at_231 rfl <| zcy X5 Hb at_233 (teq (hq_3.symm : (Int32.ofNat (own_enc ([xa, xb, xc].take n)).length) = pq_3)).1 238 (by decide) rfl <| zaL X5 Hb at_238 rfl rfl <| zaL X5 Hb at_240 rfl rfl <| zic X5 Hb at_242 0 rfl <| ziL X5 Hb at_243 rfl <| st7 _ <| zin X7 Hb at_248 ((if0 _ _).trans (feq ((by decide) : ¬ ((1 : Int32) = (0 : Int32)))).1) ?_
    refine zaL X7 Hb at_251 rfl rfl <| zaL X7 Hb at_253 rfl rfl <| zic X7 Hb at_255 1 rfl <| ziL X7 Hb at_256 rfl <| st8 _ <| zin X8 Hb at_261 ((if0 _ _).trans (feq ((by decide) : ¬ ((1 : Int32) = (0 : Int32)))).1) <| zaL X8 Hb at_264 rfl rfl <| zaL X8 Hb at_266 rfl rfl ?_
    refine zic X8 Hb at_268 2 rfl <| ziL X8 Hb at_269 rfl <| st9 _ <| zin X9 Hb at_274 ((if0 _ _).trans (feq ((by decide) : ¬ ((1 : Int32) = (0 : Int32)))).1) <| zaL X9 Hb at_277 rfl rfl <| zaL X9 Hb at_279 rfl rfl <| zic X9 Hb at_281 3 rfl <| ziL X9 Hb at_282 rfl ?_
    refine st10 _ <| zin X10 Hb at_287 ((if0 _ _).trans (feq ((by decide) : ¬ ((1 : Int32) = (0 : Int32)))).1) <| zaL X10 Hb at_290 rfl rfl <| zaL X10 Hb at_292 rfl rfl <| zic X10 Hb at_294 4 rfl <| ziL X10 Hb at_295 rfl <| st11 _ <| zin X11 Hb at_300 ((if0 _ _).trans (feq ((by decide) : ¬ ((1 : Int32) = (0 : Int32)))).1) ?_
    refine zaL X11 Hb at_303 rfl rfl <| zaL X11 Hb at_305 rfl rfl <| zic X11 Hb at_307 5 rfl <| ziL X11 Hb at_308 rfl <| st12 _ <| zin X12 Hb at_313 ((if0 _ _).trans (feq ((by decide) : ¬ ((1 : Int32) = (0 : Int32)))).1) <| zaL X12 Hb at_316 rfl rfl <| zaL X12 Hb at_318 rfl rfl ?_
    refine zbp X12 Hb at_320 6 rfl <| ziL X12 Hb at_322 rfl <| st13 _ <| zin X13 Hb at_327 ((if0 _ _).trans (feq ((by decide) : ¬ ((1 : Int32) = (0 : Int32)))).1) <| zaL X13 Hb at_330 rfl rfl <| zaL X13 Hb at_332 rfl rfl <| zbp X13 Hb at_334 7 rfl <| ziL X13 Hb at_336 rfl ?_
    refine st14 _ <| zin X14 Hb at_341 ((if0 _ _).trans (feq ((by decide) : ¬ ((1 : Int32) = (0 : Int32)))).1) <| zaL X14 Hb at_344 rfl rfl <| zaL X14 Hb at_346 rfl rfl <| zbp X14 Hb at_348 8 rfl <| ziL X14 Hb at_350 rfl <| st15 _ <| zin X15 Hb at_355 ((if0 _ _).trans (feq ((by decide) : ¬ ((1 : Int32) = (0 : Int32)))).1) ?_
    exact k
  exact ⟨T15, _, pq_3, z_5, own_un X15 rfl rfl rfl, N15, by rw [eh15]; exact K, w16⟩
theorem ef_3_e (m : MethodId) (x0 : Addr) (x1 : Addr) : entryFrame m #[.ref x0, .ref x1, .int 0, .int 0, .null] 6 = mkF m 0 #[.val (.ref x0), .val (.ref x1), .val (.int 0), .val (.int 0), .val .null, .unset] [] := by first | (simp [entryFrame, mkF, argsToLocals, Value.category]; done) | rfl
def Q3_e (Z : State) (a : Addr) (b : Addr) (h0 : Heap) (n0 : Nat) (v : Option Value) (h : Heap) (L : List Loc) : Prop := ∃ t1 : Addr, ∃ kb : ClassId, v = none ∧ Fr n0 L ∧ Keep h0 h [a] ∧ Fld Z h a "java/lang/String" "value" "[B" (.ref t1) ∧ Fld Z h a "java/lang/String" "coder" "B" (.int 0) ∧ Arv Z h t1 kb .byte (0 : Int32) [] (.int 0) ∧ Exa Z h t1 "[B"
set_option maxRecDepth 65536 in
set_option maxHeartbeats 40000000 in
theorem rm3_e (l : Launch) (Z : State) (a0 : Array Value) (hw : ∀ d ∈ tables_1, d.before a0 Z = true) (ws : List Jvm.Cond) (a : Addr) (b : Addr) (h0 : Heap) (n0 : Nat) (O0 : Old Z n0 h0) (E_a : Exa Z h0 a "java/lang/String") (F_v_a : Fld Z h0 a "java/lang/String" "value" "[B" .null) (F_c_a : Fld Z h0 a "java/lang/String" "coder" "B" (.int 0)) (g_a : n0 ≤ a) :
    MetFree l (⟨"java/lang/String", "<init>", "([CIILjava/lang/Void;)V"⟩ : MethodName) (head1 (Jvm.Cond.code (⟨"java/lang/String", "<init>", "([CIILjava/lang/Void;)V"⟩ : MethodName) jdk_42_method_149_code 6 none :: ws) ({ frames := 1, cells := 4, slots := 8, locals := 12 } : Room)) (fun aA uU => aA = #[.ref a, .ref b, .int 0, .int 0, .null] ∧ Z.Warmed39 uU.vm ∧ uU.heap = h0 ∧ CHv Z consts_1 uU.vm h0) (fun _ _ _ _ _ => True) (fun _ uU oO uU' => ∃ vV lL, oO = .returned vV ∧ Q3_e Z a b  h0 n0 vV uU'.heap lL ∧ CHr Z consts_1 uU.vm uU.heap uU'.vm uU'.heap ∧ ReturnedEndW uU oO uU' lL ({ frames := 1, cells := 4, slots := 8, locals := 12 } : Room).cells ({ frames := 1, cells := 4, slots := 8, locals := 12 } : Room).slots) := by
  refine MetFree.of_bodySF (plainFor_of_name pn_java_lang_String) hisR ?_
  intro p e s m args below meth c s₁ Bd hml0 hP hK
  obtain ⟨rfl, hZ, hh, H0⟩ := hP
  have hx := Bd.exec
  have hby := Bd.bytes
  have hml : c.maxLocals = 6 := hml0
  have hown : s.vm.findClass "java/lang/String" = some m.cls := findClass_of_methodNamed Bd.named
  have hnm := (name_of_methodNamed Bd.named Bd.method).1
  have X0 : Stand p l e ({ frames := 1, cells := 4, slots := 8, locals := 12 } : Room) (s.setVm s.vm) m #[.ref a, .ref b, .int 0, .int 0, .null] below meth c s₁ [] 0 0 := Stand.of_body Bd
  have e0 : s₁.heap = h0 := by rw [← hh, Bd.state]; rfl
  have N0 := Fr.nil n0
  have O := O0
  have K := Keep.refl h0 [a]
  have Hb : own_H p c jdk_42_method_149_code := ⟨hx, hby⟩
  have W := own_q hw
  have hS : s.Since s.vm h0.size := own_since s _
  have hk : h0.size ≤ h0.size := Nat.le_refl _
  have C : CHr Z consts_1 s.vm h0 s.vm h0 := CHr.refl H0
  have hEL := own_EW hw
  have hSA := own_wS hw
  have pre0 : ∀ t, Steps p.tables e below (s₁.setTop (mkF m 0 #[.val (.ref a), .val (.ref b), .val (.int 0), .val (.int 0), .val .null, .unset] [])) t → Steps p.tables e below (s₁.setTop (entryFrame m #[.ref a, .ref b, .int 0, .int 0, .null] 6)) t := fun t k => castTop (ef_3_e m a b) k
  have sf_a := own_safe0 (EL := consts_1) hZ (W 7 rfl) E_a F_v_a
  obtain ⟨T1, X1, e1, st1⟩ := initO X0 hx hZ hown (W 16 rfl) (W 17 rfl) (W 18 rfl) e0 (g := (mkF m 1 #[.val (.ref a), .val (.ref b), .val (.int 0), .val (.int 0), .val .null, .unset] [.ref a])) rfl (by rw [hml]; rfl) rfl (hb hby (D3 1)) (by decide) (W := 0) (by show 2 * 0 + _ ≤ _; exact Nat.le_of_eq rfl) (by decide)
  obtain ⟨a2, T2, h2, kk2, b2, kb2, X2, e2, E2, hS, hk', hZ, hown, Ex2, Fc2, Fv2, Av2, -, -, R2, Li2, Sf2, st2⟩ := ldcCH X1 hx hZ hown (W 155 rfl) hSA e1 hS hk hEL (List.mem_of_getElem? (i := 0) rfl) C.1 (vs := []) (z := (0 : Int32)) ⟨by decide +kernel, by decide +kernel⟩ (by decide) rfl (g := (mkF m 9 #[.val (.ref a), .val (.ref b), .val (.int 0), .val (.int 0), .val .null, .unset] [.ref a])) rfl (hb hby (D3 5)) (n := 0) (by decide +kernel) (by decide) (by decide) (by decide)
  have R := R2
  have sf_a := R.safe E_a.lt sf_a
  have C := C.trans R
  have hk := hk'
  have E_a := E_a.ext E2
  have F_v_a := F_v_a.ext E2
  have F_c_a := F_c_a.ext E2
  have O := O.ext E2
  have K := K.ext E2
  have ne_a_a2 := (Sf2 _ sf_a).1
  have ne_a_b2 := (Sf2 _ sf_a).2
  have Eb2 := own_ldE hZ hown (W 155 rfl) (List.mem_of_getElem? (i := 0) rfl) R2.1 Li2 Fv2
  obtain ⟨T3, X3, e3, st3⟩ := getF X2 hx hZ hown (host := "") (Or.inl (W 33 rfl)) Via.refl e2 Fv2 (g := (mkF m 11 #[.val (.ref a), .val (.ref b), .val (.int 0), .val (.int 0), .val .null, .unset] [.ref a2, .ref a])) rfl rfl (hb hby (D3 6))
  obtain ⟨T4, h4, X4, e4, W4, st4⟩ := putF X3 hx hZ hown (host := "") (Or.inl (W 33 rfl)) Via.refl e3 F_v_a E_a (Or.inr ⟨(W 34 rfl), rfl, hnm⟩) (W 7 rfl) (ty := (.array .byte)) (by decide) rfl rfl (g := (mkF m 14 #[.val (.ref a), .val (.ref b), .val (.int 0), .val (.int 0), .val .null, .unset] [.ref b2, .ref a])) rfl rfl (hb hby (D3 7))
  have R := CHr.wr W4 sf_a C.1
  have sf_a := R.safe E_a.lt sf_a
  have C := C.trans R
  have F_v_a := F_v_a.same W4
  have hk := (by rw [W4.size]; exact hk : _ ≤ Array.size h4)
  have E_a := E_a.wr W4
  have F_c_a := F_c_a.other W4 (Or.inr (slot_ne (Or.inr (W 32 rfl)) (Or.inr (W 34 rfl)) (by decide) (t := .byte) (t' := (.array .byte)) (by decide) (by decide)))
  have Ex2 := Ex2.wr W4
  have Fc2 := Fc2.other W4 (Or.inl (Ne.symm ne_a_a2))
  have Fv2 := Fv2.other W4 (Or.inl (Ne.symm ne_a_a2))
  have Av2 := Av2.other W4 (Ne.symm ne_a_b2)
  have Eb2 := Eb2.wr W4
  have O := O.wr W4 g_a
  have K := K.wr W4 (Or.inl (List.mem_of_getElem? (i := 0) rfl))
  have N4 := Fr.snoc X4 N0 g_a
  obtain ⟨a5, T5, h5, kk5, b5, kb5, X5, e5, E5, hS, hk', hZ, hown, Ex5, Fc5, Fv5, Av5, -, -, R5, Li5, Sf5, st5⟩ := ldcCH X4 hx hZ hown (W 155 rfl) hSA e4 hS hk hEL (List.mem_of_getElem? (i := 0) rfl) C.1 (vs := []) (z := (0 : Int32)) ⟨by decide +kernel, by decide +kernel⟩ (by decide) rfl (g := (mkF m 18 #[.val (.ref a), .val (.ref b), .val (.int 0), .val (.int 0), .val .null, .unset] [.ref a])) rfl (hb hby (D3 9)) (n := 0) (by decide +kernel) (by decide) (by decide) (by decide)
  have R := R5
  have sf_a := R.safe E_a.lt sf_a
  have C := C.trans R
  have hk := hk'
  have E_a := E_a.ext E5
  have F_v_a := F_v_a.ext E5
  have F_c_a := F_c_a.ext E5
  have Ex2 := Ex2.ext E5
  have Fc2 := Fc2.ext E5
  have Fv2 := Fv2.ext E5
  have Av2 := Av2.ext E5
  have Eb2 := Eb2.ext E5
  have O := O.ext E5
  have K := K.ext E5
  have ne_a_a5 := (Sf5 _ sf_a).1
  have ne_a_b5 := (Sf5 _ sf_a).2
  have Eb5 := own_ldE hZ hown (W 155 rfl) (List.mem_of_getElem? (i := 0) rfl) R5.1 Li5 Fv5
  obtain ⟨T6, X6, e6, st6⟩ := getF X5 hx hZ hown (host := "") (Or.inl (W 31 rfl)) Via.refl e5 Fc5 (g := (mkF m 20 #[.val (.ref a), .val (.ref b), .val (.int 0), .val (.int 0), .val .null, .unset] [.ref a5, .ref a])) rfl rfl (hb hby (D3 10))
  obtain ⟨T7, h7, X7, e7, W7, st7⟩ := putFN X6 hx hZ hown (W 31 rfl) Via.refl e6 F_c_a E_a (Or.inr ⟨(W 32 rfl), rfl, hnm⟩) (W 7 rfl) (ty := .byte) (v' := (.int 0)) (by decide) rfl rfl (g := (mkF m 23 #[.val (.ref a), .val (.ref b), .val (.int 0), .val (.int 0), .val .null, .unset] [.int 0, .ref a])) rfl rfl (hb hby (D3 11))
  have R := CHr.wr W7 sf_a C.1
  have sf_a := R.safe E_a.lt sf_a
  have C := C.trans R
  have F_c_a := F_c_a.same W7
  have hk := (by rw [W7.size]; exact hk : _ ≤ Array.size h7)
  have E_a := E_a.wr W7
  have F_v_a := F_v_a.other W7 (Or.inr (slot_ne (Or.inr (W 34 rfl)) (Or.inr (W 32 rfl)) (by decide) (t := (.array .byte)) (t' := .byte) (by decide) (by decide)))
  have Ex2 := Ex2.wr W7
  have Fc2 := Fc2.other W7 (Or.inl (Ne.symm ne_a_a2))
  have Fv2 := Fv2.other W7 (Or.inl (Ne.symm ne_a_a2))
  have Av2 := Av2.other W7 (Ne.symm ne_a_b2)
  have Eb2 := Eb2.wr W7
  have Ex5 := Ex5.wr W7
  have Fc5 := Fc5.other W7 (Or.inl (Ne.symm ne_a_a5))
  have Fv5 := Fv5.other W7 (Or.inl (Ne.symm ne_a_a5))
  have Av5 := Av5.other W7 (Ne.symm ne_a_b5)
  have Eb5 := Eb5.wr W7
  have O := O.wr W7 g_a
  have K := K.wr W7 (Or.inl (List.mem_of_getElem? (i := 0) rfl))
  have N7 := Fr.snoc X7 N4 g_a
  have w8 : ∀ t, Steps p.tables e below (T7.setTop (mkF m 26 #[.val (.ref a), .val (.ref b), .val (.int 0), .val (.int 0), .val .null, .unset] [])) t → Steps p.tables e below (s₁.setTop (entryFrame m #[.ref a, .ref b, .int 0, .int 0, .null] 6)) t := fun t k => by
    refine pre0 t ?_
    refine zal X0 Hb (D3 0) rfl rfl <| st1 _ <| zil X1 Hb (D3 2) rfl <| zin X1 Hb (D3 3) ((if0 _ _).trans (teq (rfl : (0 : Int32) = (0 : Int32))).2) <| zal X1 Hb (D3 4) rfl rfl <| st2 _ <| st3 _ <| st4 _ ?_
    refine zal X4 Hb (D3 8) rfl rfl <| st5 _ <| st6 _ <| st7 _ ?_
    exact k
  obtain ⟨fs, hr, hrun, hended, hE⟩ := Stand.leaveW (s := s) (vm₁ := T5.vm) X7 hS (by rw [e7]; exact hk) (v := none) (fun _ => rfl)
  refine ⟨_, _, w8 _ ?_, hrun, hended, _, _, rfl, ?_, ?_, own_mono hE (by decide) (by decide)⟩
  · exact X7.returnOut hx Bd.returns (hb hby (D3 12)) hr
  · show Q3_e Z a b  h0 n0 _ T7.heap _
    rw [e7]
    exact ⟨b2, kb2, rfl, N7, K, F_v_a, F_c_a, Av2, Eb2⟩
  · rw [hh]; show CHr Z consts_1 s.vm h0 T7.vm T7.heap; rw [e7]; exact C.trans (CHv.at X7 hZ hEL C.1)
theorem ef_2_e (m : MethodId) (x0 : Addr) (x1 : Addr) : entryFrame m #[.ref x0, .ref x1] 2 = mkF m 0 #[.val (.ref x0), .val (.ref x1)] [] := by first | (simp [entryFrame, mkF, argsToLocals, Value.category]; done) | rfl
def Q2_e (Z : State) (a : Addr) (b : Addr) (kc : ClassId) (h0 : Heap) (n0 : Nat) (v : Option Value) (h : Heap) (L : List Loc) : Prop := ∃ t1 : Addr, ∃ kb : ClassId, v = none ∧ Fr n0 L ∧ Keep h0 h [a] ∧ Fld Z h a "java/lang/String" "value" "[B" (.ref t1) ∧ Fld Z h a "java/lang/String" "coder" "B" (.int 0) ∧ Arv Z h t1 kb .byte (0 : Int32) [] (.int 0) ∧ Exa Z h t1 "[B"
set_option maxRecDepth 65536 in
set_option maxHeartbeats 40000000 in
theorem rm2_e (l : Launch) (Z : State) (a0 : Array Value) (hw : ∀ d ∈ tables_1, d.before a0 Z = true) (ws : List Jvm.Cond) (a : Addr) (b : Addr) (kc : ClassId) (h0 : Heap) (n0 : Nat) (O0 : Old Z n0 h0) (E_a : Exa Z h0 a "java/lang/String") (F_v_a : Fld Z h0 a "java/lang/String" "value" "[B" .null) (F_c_a : Fld Z h0 a "java/lang/String" "coder" "B" (.int 0)) (V_b : Arv Z h0 b kc .char (0 : Int32) [] (.int 0)) (g_a : n0 ≤ a) :
    MetFree l (⟨"java/lang/String", "<init>", "([C)V"⟩ : MethodName) (head1 (Jvm.Cond.code (⟨"java/lang/String", "<init>", "([C)V"⟩ : MethodName) jdk_42_method_3_code 2 none :: ws) ({ frames := 2, cells := 4, slots := 8, locals := 29 } : Room)) (fun aA uU => aA = #[.ref a, .ref b] ∧ Z.Warmed39 uU.vm ∧ uU.heap = h0 ∧ CHv Z consts_1 uU.vm h0) (fun _ _ _ _ _ => True) (fun _ uU oO uU' => ∃ vV lL, oO = .returned vV ∧ Q2_e Z a b kc  h0 n0 vV uU'.heap lL ∧ CHr Z consts_1 uU.vm uU.heap uU'.vm uU'.heap ∧ ReturnedEndW uU oO uU' lL ({ frames := 2, cells := 4, slots := 8, locals := 29 } : Room).cells ({ frames := 2, cells := 4, slots := 8, locals := 29 } : Room).slots) := by
  refine MetFree.of_bodySF (plainFor_of_name pn_java_lang_String) hisR ?_
  intro p e s m args below meth c s₁ Bd hml0 hP hK
  obtain ⟨rfl, hZ, hh, H0⟩ := hP
  have hx := Bd.exec
  have hby := Bd.bytes
  have hml : c.maxLocals = 2 := hml0
  have hown : s.vm.findClass "java/lang/String" = some m.cls := findClass_of_methodNamed Bd.named
  have hnm := (name_of_methodNamed Bd.named Bd.method).1
  have X0 : Stand p l e ({ frames := 2, cells := 4, slots := 8, locals := 29 } : Room) (s.setVm s.vm) m #[.ref a, .ref b] below meth c s₁ [] 0 0 := Stand.of_body Bd
  have e0 : s₁.heap = h0 := by rw [← hh, Bd.state]; rfl
  have N0 := Fr.nil n0
  have O := O0
  have K := Keep.refl h0 [a]
  have Hb : own_H p c jdk_42_method_3_code := ⟨hx, hby⟩
  have W := own_q hw
  have hS : s.Since s.vm h0.size := own_since s _
  have hk : h0.size ≤ h0.size := Nat.le_refl _
  have C : CHr Z consts_1 s.vm h0 s.vm h0 := CHr.refl H0
  have hEL := own_EW hw
  have hSA := own_wS hw
  have pre0 : ∀ t, Steps p.tables e below (s₁.setTop (mkF m 0 #[.val (.ref a), .val (.ref b)] [])) t → Steps p.tables e below (s₁.setTop (entryFrame m #[.ref a, .ref b] 2)) t := fun t k => castTop (ef_2_e m a b) k
  have B1 := own_ln V_b
  have w2 : ∀ t, Steps p.tables e below (s₁.setTop (mkF m 6 #[.val (.ref a), .val (.ref b)] [.null, .int 0, .int 0, .ref b, .ref a])) t → Steps p.tables e below (s₁.setTop (entryFrame m #[.ref a, .ref b] 2)) t := fun t k => by
    refine pre0 t ?_
    refine zal X0 Hb (D2 0) rfl rfl <| zal X0 Hb (D2 1) rfl rfl <| zic X0 Hb (D2 2) 0 rfl <| zal X0 Hb (D2 3) rfl rfl <| zal_ X0 Hb hZ e0 B1 (D2 4) <| znu X0 Hb (D2 5) ?_
    exact k
  have ne_b_a : b ≠ a := (Ne.symm (Exa.neArv E_a V_b (W 7 rfl)))
  obtain ⟨_, _, ⟨T3, L3, k3, n3⟩, -, X3, sn3, gr3, ⟨Lc3, hQ3, l3, y3, z3, R3⟩, st3⟩ := X0.specialBackS hx (y := own_n3) rfl hown (mvT hZ (W 12 rfl)) (mvT hZ (W 13 rfl)) (mvT hZ (W 15 rfl)) (by decide) (backOfSH (W := 0) (rm3_e l Z a0 hw [] a b h0 n0 O E_a F_v_a F_c_a g_a) hZ (W 15 rfl) (W 8 rfl) (by decide) (by decide) hEL C.1) (g := (mkF m 6 #[.val (.ref a), .val (.ref b)] [.null, .int 0, .int 0, .ref b, .ref a])) rfl (by rw [hml]; rfl) (Steps.refl _) (a := a) (argsL := [.ref b, .int 0, .int 0, .null]) (rest := []) (lenOf pd42 rfl) rfl (by show 2 * 0 + _ ≤ _; exact Nat.le_of_eq rfl) (hb hby (D2 6)) (fun _ _ => ⟨rfl, e0, (by decide : 0 + 4 ≤ _), (by decide : 0 + 8 ≤ _)⟩)
  dsimp only [Pt.U, Pt.locs, Pt.cells, Pt.slots] at X3 l3 y3 z3 st3 hQ3 sn3 gr3 R3
  have X3 := own_un X3 l3 y3 z3
  obtain ⟨X3, hS, hZ, hown⟩ := rebS hS (by rw [e0]; exact hk) X3 sn3 gr3 hZ hown
  obtain ⟨t1_3, kb_3, rfl, N3q, K3, F_v_a_c3, F_c_a_c3, V_t_c3, E_t_c3⟩ := hQ3
  have N3 := Fr.app N0 N3q
  have R := R3
  have C := C.trans R
  have hk : T3.heap.size ≤ T3.heap.size := Nat.le_refl _
  have E_a := E_a.keep K3
  have V_b := V_b.keep K3 (ninS ne_b_a nin0)
  have O := O.keep K3 (allS g_a all0)
  have K := K.trans K3 (allS (Or.inl (List.mem_of_getElem? (i := 0) rfl)) all0)
  have w4 : ∀ t, Steps p.tables e below (T3.setTop (mkF m 9 #[.val (.ref a), .val (.ref b)] [])) t → Steps p.tables e below (s₁.setTop (entryFrame m #[.ref a, .ref b] 2)) t := fun t k => by
    refine w2 t ?_
    refine st3.trans ?_
    exact k
  obtain ⟨fs, hr, hrun, hended, hE⟩ := Stand.leaveW (s := s) (vm₁ := T3.vm) X3 hS (by exact hk) (v := none) (fun _ => rfl)
  refine ⟨_, _, w4 _ ?_, hrun, hended, _, _, rfl, ?_, ?_, own_mono hE (by decide) (by decide)⟩
  · exact X3.returnOut hx Bd.returns (hb hby (D2 7)) hr
  · show Q2_e Z a b kc  h0 n0 _ T3.heap _
    exact ⟨t1_3, kb_3, rfl, N3, K, F_v_a_c3, F_c_a_c3, V_t_c3, E_t_c3⟩
  · rw [hh]; show CHr Z consts_1 s.vm h0 T3.vm T3.heap; exact C.trans (CHv.at X3 hZ hEL C.1)
def own_F32 (x0 : Int32) (x1 : Int32) (x2 : Int32) (x3 : Int32) (x4 : Int32) : Array Slot := #[.val (.int x0), .val (.int x1), .val (.int x2), .val (.int x3), .val (.int x4), .unset, .unset, .unset, .unset, .unset, .unset, .unset, .unset, .unset, .unset, .unset, .unset, .unset]
def own_F33 (x0 : Int32) (x1 : Int32) (x2 : Int32) (x3 : Int32) (x4 : Int32) (x5 : Int32) : Array Slot := #[.val (.int x0), .val (.int x1), .val (.int x2), .val (.int x3), .val (.int x4), .val (.int x5), .unset, .unset, .unset, .unset, .unset, .unset, .unset, .unset, .unset, .unset, .unset, .unset]
def own_F34 (x0 : Int32) (x1 : Int32) (x2 : Int32) (x3 : Int32) (x4 : Int32) (x5 : Int32) (x6 : Int32) : Array Slot := #[.val (.int x0), .val (.int x1), .val (.int x2), .val (.int x3), .val (.int x4), .val (.int x5), .val (.int x6), .unset, .unset, .unset, .unset, .unset, .unset, .unset, .unset, .unset, .unset, .unset]
def own_F35 (x0 : Int32) (x1 : Int32) (x2 : Int32) (x3 : Int32) (x4 : Int32) (x5 : Int32) (x6 : Int32) (x7 : Int32) : Array Slot := #[.val (.int x0), .val (.int x1), .val (.int x2), .val (.int x3), .val (.int x4), .val (.int x5), .val (.int x6), .val (.int x7), .unset, .unset, .unset, .unset, .unset, .unset, .unset, .unset, .unset, .unset]
def own_F36 (x0 : Int32) (x1 : Int32) (x2 : Int32) (x3 : Int32) (x4 : Int32) (x5 : Int32) (x6 : Int32) (x7 : Int32) (x8 : Addr) : Array Slot := #[.val (.int x0), .val (.int x1), .val (.int x2), .val (.int x3), .val (.int x4), .val (.int x5), .val (.int x6), .val (.int x7), .val (.ref x8), .unset, .unset, .unset, .unset, .unset, .unset, .unset, .unset, .unset]
def own_F37 (x0 : Int32) (x1 : Int32) (x2 : Int32) (x3 : Int32) (x4 : Int32) (x5 : Int32) (x6 : Int32) (x7 : Int32) (x8 : Addr) (x9 : Addr) : Array Slot := #[.val (.int x0), .val (.int x1), .val (.int x2), .val (.int x3), .val (.int x4), .val (.int x5), .val (.int x6), .val (.int x7), .val (.ref x8), .val (.ref x9), .unset, .unset, .unset, .unset, .unset, .unset, .unset, .unset]
def own_F38 (x0 : Int32) (x1 : Int32) (x2 : Int32) (x3 : Int32) (x4 : Int32) (x5 : Int32) (x6 : Int32) (x7 : Int32) (x8 : Addr) (x9 : Addr) (x10 : Addr) : Array Slot := #[.val (.int x0), .val (.int x1), .val (.int x2), .val (.int x3), .val (.int x4), .val (.int x5), .val (.int x6), .val (.int x7), .val (.ref x8), .val (.ref x9), .val (.ref x10), .unset, .unset, .unset, .unset, .unset, .unset, .unset]
def own_F39 (x0 : Int32) (x1 : Int32) (x2 : Int32) (x3 : Int32) (x4 : Int32) (x5 : Int32) (x6 : Int32) (x7 : Int32) (x8 : Addr) (x9 : Addr) (x10 : Addr) (x11 : Addr) : Array Slot := #[.val (.int x0), .val (.int x1), .val (.int x2), .val (.int x3), .val (.int x4), .val (.int x5), .val (.int x6), .val (.int x7), .val (.ref x8), .val (.ref x9), .val (.ref x10), .val (.ref x11), .unset, .unset, .unset, .unset, .unset, .unset]
def own_F40 (x0 : Int32) (x1 : Int32) (x2 : Int32) (x3 : Int32) (x4 : Int32) (x5 : Int32) (x6 : Int32) (x7 : Int32) (x8 : Addr) (x9 : Addr) (x10 : Addr) (x11 : Addr) (x12 : Addr) : Array Slot := #[.val (.int x0), .val (.int x1), .val (.int x2), .val (.int x3), .val (.int x4), .val (.int x5), .val (.int x6), .val (.int x7), .val (.ref x8), .val (.ref x9), .val (.ref x10), .val (.ref x11), .val (.ref x12), .unset, .unset, .unset, .unset, .unset]
theorem pd48 : parseMethodDescriptor "([C)V" = some ⟨[(.array .char)], none⟩ := by decide +kernel
def own_F41 (x0 : Int32) (x1 : Int32) (x2 : Int32) (x3 : Int32) (x4 : Int32) (x5 : Int32) (x6 : Int32) (x7 : Int32) (x8 : Addr) (x9 : Addr) (x10 : Addr) (x11 : Addr) (x12 : Addr) (x13 : Addr) : Array Slot := #[.val (.int x0), .val (.int x1), .val (.int x2), .val (.int x3), .val (.int x4), .val (.int x5), .val (.int x6), .val (.int x7), .val (.ref x8), .val (.ref x9), .val (.ref x10), .val (.ref x11), .val (.ref x12), .val (.ref x13), .unset, .unset, .unset, .unset]
def own_F42 (x0 : Int32) (x1 : Int32) (x2 : Int32) (x3 : Int32) (x4 : Int32) (x5 : Int32) (x6 : Int32) (x7 : Int32) (x8 : Addr) (x9 : Addr) (x10 : Addr) (x11 : Addr) (x12 : Addr) (x13 : Addr) (x14 : Addr) : Array Slot := #[.val (.int x0), .val (.int x1), .val (.int x2), .val (.int x3), .val (.int x4), .val (.int x5), .val (.int x6), .val (.int x7), .val (.ref x8), .val (.ref x9), .val (.ref x10), .val (.ref x11), .val (.ref x12), .val (.ref x13), .val (.ref x14), .unset, .unset, .unset]
theorem ef_0 (m : MethodId) (x0 : Int32) (x1 : Int32) (x2 : Int32) (x3 : Int32) : entryFrame m #[.int x0, .int x1, .int x2, .int x3] maxLocals = mkF m 0 #[.val (.int x0), .val (.int x1), .val (.int x2), .val (.int x3), .unset, .unset, .unset, .unset, .unset, .unset, .unset, .unset, .unset, .unset, .unset, .unset, .unset, .unset] [] := by first | (simp [entryFrame, mkF, argsToLocals, Value.category, maxLocals]; done) | rfl
def Q0 (Z : State) (i1 : Int32) (i2 : Int32) (i3 : Int32) (i4 : Int32) (zc : Int32) (fm : Value) (fn : Value) (u8 : Addr) (h0 : Heap) (n0 : Nat) (v : Option Value) (h : Heap) (L : List Loc) : Prop := v = some (.int 1) ∧ Fr n0 L
set_option maxRecDepth 65536 in
set_option maxHeartbeats 40000000 in
theorem rm0 (l : Launch) (Z : State) (a0 : Array Value) (hw : ∀ d ∈ tables_1, d.before a0 Z = true) (ws : List Jvm.Cond) (i1 : Int32) (i2 : Int32) (i3 : Int32) (i4 : Int32) (zc : Int32) (fm : Value) (fn : Value) (u8 : Addr) (h0 : Heap) (n0 : Nat) (O0 : Old Z n0 h0) (SU : own_SU Z zc fm fn u8) :
    MetFree l x (head1 (Jvm.Cond.code x code maxLocals ret :: ws) room_1) (fun aA uU => aA = #[.int i1, .int i2, .int i3, .int i4] ∧ Z.Warmed39 uU.vm ∧ uU.heap = h0 ∧ CHv Z consts_1 uU.vm h0) (fun _ _ _ _ _ => True) (fun _ uU oO uU' => ∃ vV lL, oO = .returned vV ∧ Q0 Z i1 i2 i3 i4 zc fm fn u8  h0 n0 vV uU'.heap lL ∧ CHr Z consts_1 uU.vm uU.heap uU'.vm uU'.heap ∧ ReturnedEndW uU oO uU' lL room_1.cells room_1.slots) := by
  refine MetFree.of_bodySF (plainFor_of_name pn_com_example_gradual_reply_gradualreply_Utf8EncodePinLaw) hisR ?_
  intro p e s m args below meth c s₁ Bd hml0 hP hK
  obtain ⟨rfl, hZ, hh, H0⟩ := hP
  have hx := Bd.exec
  have hby := Bd.bytes
  have hml : c.maxLocals = 18 := hml0
  have hown : s.vm.findClass "com/example/gradual_reply/gradualreply/Utf8EncodePinLaw" = some m.cls := findClass_of_methodNamed Bd.named
  have hnm := (name_of_methodNamed Bd.named Bd.method).1
  have X0 : Stand p l e room_1 (s.setVm s.vm) m #[.int i1, .int i2, .int i3, .int i4] below meth c s₁ [] 0 0 := Stand.of_body Bd
  have e0 : s₁.heap = h0 := by rw [← hh, Bd.state]; rfl
  have N0 := Fr.nil n0
  have O := O0
  have Hb : own_H p c code := ⟨hx, hby⟩
  have W := own_q hw
  have hS : s.Since s.vm h0.size := own_since s _
  have hk : h0.size ≤ h0.size := Nat.le_refl _
  have C : CHr Z consts_1 s.vm h0 s.vm h0 := CHr.refl H0
  have hEL := own_EW hw
  have hSA := own_wS hw
  have pre0 : ∀ t, Steps p.tables e below (s₁.setTop (mkF m 0 #[.val (.int i1), .val (.int i2), .val (.int i3), .val (.int i4), .unset, .unset, .unset, .unset, .unset, .unset, .unset, .unset, .unset, .unset, .unset, .unset, .unset, .unset] [])) t → Steps p.tables e below (s₁.setTop (entryFrame m #[.int i1, .int i2, .int i3, .int i4] maxLocals)) t := fun t k => castTop (ef_0 m i1 i2 i3 i4) k
  obtain ⟨_, T1, Lc1, X1, hQ1, st1⟩ := own_cS X0 Hb hZ hown hml (L := (own_F32 i1 i2 i3 i4 (i4 &&& (3 : Int32)))) rfl (rm1 hw i1 O ) (W 0 rfl) (W 1 rfl) (W 2 rfl) (W 3 rfl) pd11 e0 at_6 [.int i1] [] 0
  obtain ⟨rfl, N1q, eh1⟩ := hQ1
  have N1 := Fr.app N0 N1q
  obtain ⟨_, T2, Lc2, X2, hQ2, st2⟩ := own_cS X1 Hb hZ hown hml (L := (own_F33 i1 i2 i3 i4 (i4 &&& (3 : Int32)) (own_dr i1))) rfl (rm1 hw i2 O ) (W 0 rfl) (W 1 rfl) (W 2 rfl) (W 3 rfl) pd11 eh1 at_12 [.int i2] [] 0
  obtain ⟨rfl, N2q, eh2⟩ := hQ2
  have N2 := Fr.app N1 N2q
  obtain ⟨_, T3, Lc3, X3, hQ3, st3⟩ := own_cS X2 Hb hZ hown hml (L := (own_F34 i1 i2 i3 i4 (i4 &&& (3 : Int32)) (own_dr i1) (own_dr i2))) rfl (rm1 hw i3 O ) (W 0 rfl) (W 1 rfl) (W 2 rfl) (W 3 rfl) pd11 eh2 at_18 [.int i3] [] 0
  obtain ⟨rfl, N3q, eh3⟩ := hQ3
  have N3 := Fr.app N2 N3q
  have w4 : ∀ t, Steps p.tables e below (T3.setTop (mkF m 23 (own_F35 i1 i2 i3 i4 (i4 &&& (3 : Int32)) (own_dr i1) (own_dr i2) (own_dr i3)) [])) t → Steps p.tables e below (s₁.setTop (entryFrame m #[.int i1, .int i2, .int i3, .int i4] maxLocals)) t := fun t k => by
    refine pre0 t ?_
    refine zil X0 Hb at_0 rfl <| zic X0 Hb at_1 3 rfl <| zan X0 Hb at_2 <| ziS X0 Hb (L' := (own_F32 i1 i2 i3 i4 (i4 &&& (3 : Int32)))) at_3 rfl <| zil X0 Hb at_5 rfl <| st1 _ <| ziS X1 Hb (L' := (own_F33 i1 i2 i3 i4 (i4 &&& (3 : Int32)) (own_dr i1))) at_9 rfl <| zil X1 Hb at_11 rfl ?_
    refine st2 _ <| ziS X2 Hb (L' := (own_F34 i1 i2 i3 i4 (i4 &&& (3 : Int32)) (own_dr i1) (own_dr i2))) at_15 rfl <| zil X2 Hb at_17 rfl <| st3 _ <| ziS X3 Hb (L' := (own_F35 i1 i2 i3 i4 (i4 &&& (3 : Int32)) (own_dr i1) (own_dr i2) (own_dr i3))) at_21 rfl ?_
    exact k
  obtain ⟨xa, hxa⟩ : ∃ x, x = own_dr i1 := ⟨_, rfl⟩
  obtain ⟨xb, hxb⟩ : ∃ x, x = own_dr i2 := ⟨_, rfl⟩
  obtain ⟨xc, hxc⟩ : ∃ x, x = own_dr i3 := ⟨_, rfl⟩
  have w5 : ∀ t, Steps p.tables e below (T3.setTop (mkF m 23 (own_F35 i1 i2 i3 i4 (i4 &&& (3 : Int32)) xa xb xc) [])) t → Steps p.tables e below (s₁.setTop (entryFrame m #[.int i1, .int i2, .int i3, .int i4] maxLocals)) t := by rw [hxa, hxb, hxc]; exact w4
  have hka : own_k xa = xa := by rw [hxa]; exact own_drk i1
  have hga : own_gc (own_lo xa) (own_hi xa) = xa := by have q := own_gck xa; rw [hka] at q; exact q
  have hkb : own_k xb = xb := by rw [hxb]; exact own_drk i2
  have hgb : own_gc (own_lo xb) (own_hi xb) = xb := by have q := own_gck xb; rw [hkb] at q; exact q
  have hkc : own_k xc = xc := by rw [hxc]; exact own_drk i3
  have hgc : own_gc (own_lo xc) (own_hi xc) = xc := by have q := own_gck xc; rw [hkc] at q; exact q
  have hG3 : own_G [xa, xb, xc] := by intro c hc; simp only [List.mem_cons, List.not_mem_nil, or_false] at hc; rcases hc with h | h | h <;> rw [h] <;> assumption
  obtain ⟨T6, h6, k6, X6, e6, E6, A6, st6⟩ := newP X3 hx hZ (W 5 rfl) eh3 (g := (mkF m 24 (own_F35 i1 i2 i3 i4 (i4 &&& (3 : Int32)) xa xb xc) [.int 3])) rfl (hb hby at_24) rfl (by decide) (cap := 3) (by decide) (by decide) (by decide) (by decide)
  obtain ⟨b6, gq6⟩ : ∃ z, z = Array.size h0 := ⟨_, rfl⟩
  rw [← gq6] at A6 st6
  have g_b6 : n0 ≤ b6 := Nat.le_trans (O.1 ▸ O.2.1) (Nat.le_of_eq gq6.symm)
  have sf_b6 := own_safeN C.1 E6 (Nat.le_of_eq gq6.symm)
  have R := CHr.ext E6 C.1
  have C := C.trans R
  have hk := Nat.le_trans hk E6.1
  have O := O.ext E6
  have V_b6 : Arv Z h6 b6 k6 .char (3 : Int32) [.int 0, .int 0, .int 0] (.int 0) := (Arv.new A6 (by decide)).pad (pad_rep [] (.int 0) 3)
  obtain ⟨T7, h7, X7, e7, W7, Vq7, st7⟩ := own_sC X6 Hb hZ e6 V_b6 (j := 0) (x := xa) (L := (own_F35 i1 i2 i3 i4 (i4 &&& (3 : Int32)) xa xb xc)) (S := [.ref b6]) (vs' := [.int (xa.toUInt32.toUInt16.toUInt32.toInt32), .int 0, .int 0]) ⟨by decide, by decide⟩ rfl (Nat.le_of_ble_eq_true rfl) at_30 rfl
  have R := CHr.wr W7 sf_b6 C.1
  have sf_b6 := R.safe V_b6.lt sf_b6
  have C := C.trans R
  have V_b6 := Vq7
  have hk := (by rw [W7.size]; exact hk : _ ≤ Array.size h7)
  have O := O.wr W7 g_b6
  have N7 := Fr.snoc X7 N3 g_b6
  obtain ⟨T8, h8, X8, e8, W8, Vq8, st8⟩ := own_sC X7 Hb hZ e7 V_b6 (j := 1) (x := xb) (L := (own_F35 i1 i2 i3 i4 (i4 &&& (3 : Int32)) xa xb xc)) (S := [.ref b6]) (vs' := [.int (xa.toUInt32.toUInt16.toUInt32.toInt32), .int (xb.toUInt32.toUInt16.toUInt32.toInt32), .int 0]) ⟨by decide, by decide⟩ rfl (Nat.le_of_ble_eq_true rfl) at_35 rfl
  have R := CHr.wr W8 sf_b6 C.1
  have sf_b6 := R.safe V_b6.lt sf_b6
  have C := C.trans R
  have V_b6 := Vq8
  have hk := (by rw [W8.size]; exact hk : _ ≤ Array.size h8)
  have O := O.wr W8 g_b6
  have N8 := Fr.snoc X8 N7 g_b6
  obtain ⟨T9, h9, X9, e9, W9, Vq9, st9⟩ := own_sC X8 Hb hZ e8 V_b6 (j := 2) (x := xc) (L := (own_F35 i1 i2 i3 i4 (i4 &&& (3 : Int32)) xa xb xc)) (S := [.ref b6]) (vs' := [.int (xa.toUInt32.toUInt16.toUInt32.toInt32), .int (xb.toUInt32.toUInt16.toUInt32.toInt32), .int (xc.toUInt32.toUInt16.toUInt32.toInt32)]) ⟨by decide, by decide⟩ rfl (Nat.le_of_ble_eq_true rfl) at_40 rfl
  have R := CHr.wr W9 sf_b6 C.1
  have sf_b6 := R.safe V_b6.lt sf_b6
  have C := C.trans R
  have V_b6 := Vq9
  have hk := (by rw [W9.size]; exact hk : _ ≤ Array.size h9)
  have O := O.wr W9 g_b6
  have N9 := Fr.snoc X9 N8 g_b6
  obtain ⟨T10, h10, k10, X10, e10, E10, A10, st10⟩ := newP X9 hx hZ (W 5 rfl) e9 (g := (mkF m 44 (own_F36 i1 i2 i3 i4 (i4 &&& (3 : Int32)) xa xb xc b6) [.int 0])) rfl (hb hby at_44) rfl (by decide) (cap := 0) (by decide) (by decide) (by decide) (by decide)
  obtain ⟨b10, gq10⟩ : ∃ z, z = Array.size h9 := ⟨_, rfl⟩
  rw [← gq10] at A10 st10
  have ne_b6_b10 : b6 ≠ b10 := Nat.ne_of_lt (Nat.lt_of_lt_of_le V_b6.lt (Nat.le_of_eq gq10.symm))
  have g_b10 : n0 ≤ b10 := Nat.le_trans (O.1 ▸ O.2.1) (Nat.le_of_eq gq10.symm)
  have sf_b10 := own_safeN C.1 E10 (Nat.le_of_eq gq10.symm)
  have R := CHr.ext E10 C.1
  have C := C.trans R
  have hk := Nat.le_trans hk E10.1
  have V_b6 := V_b6.ext E10
  have O := O.ext E10
  have V_b10 : Arv Z h10 b10 k10 .char (0 : Int32) [] (.int 0) := (Arv.new A10 (by decide))
  obtain ⟨T11, h11, k11, X11, e11, E11, A11, st11⟩ := newP X10 hx hZ (W 5 rfl) e10 (g := (mkF m 49 (own_F37 i1 i2 i3 i4 (i4 &&& (3 : Int32)) xa xb xc b6 b10) [.int 1])) rfl (hb hby at_49) rfl (by decide) (cap := 1) (by decide) (by decide) (by decide) (by decide)
  obtain ⟨b11, gq11⟩ : ∃ z, z = Array.size h10 := ⟨_, rfl⟩
  rw [← gq11] at A11 st11
  have ne_b6_b11 : b6 ≠ b11 := Nat.ne_of_lt (Nat.lt_of_lt_of_le V_b6.lt (Nat.le_of_eq gq11.symm))
  have ne_b10_b11 : b10 ≠ b11 := Nat.ne_of_lt (Nat.lt_of_lt_of_le V_b10.lt (Nat.le_of_eq gq11.symm))
  have g_b11 : n0 ≤ b11 := Nat.le_trans (O.1 ▸ O.2.1) (Nat.le_of_eq gq11.symm)
  have sf_b11 := own_safeN C.1 E11 (Nat.le_of_eq gq11.symm)
  have R := CHr.ext E11 C.1
  have sf_b10 := R.safe V_b10.lt sf_b10
  have C := C.trans R
  have hk := Nat.le_trans hk E11.1
  have V_b6 := V_b6.ext E11
  have V_b10 := V_b10.ext E11
  have O := O.ext E11
  have V_b11 : Arv Z h11 b11 k11 .char (1 : Int32) [.int 0] (.int 0) := (Arv.new A11 (by decide)).pad (pad_rep [] (.int 0) 1)
  obtain ⟨T12, h12, X12, e12, W12, Vq12, st12⟩ := own_sC X11 Hb hZ e11 V_b11 (j := 0) (x := xa) (L := (own_F37 i1 i2 i3 i4 (i4 &&& (3 : Int32)) xa xb xc b6 b10)) (S := [.ref b11]) (vs' := [.int (xa.toUInt32.toUInt16.toUInt32.toInt32)]) ⟨by decide, by decide⟩ rfl (Nat.le_of_ble_eq_true rfl) at_55 rfl
  have R := CHr.wr W12 sf_b11 C.1
  have sf_b10 := R.safe V_b10.lt sf_b10
  have sf_b11 := R.safe V_b11.lt sf_b11
  have C := C.trans R
  have V_b11 := Vq12
  have hk := (by rw [W12.size]; exact hk : _ ≤ Array.size h12)
  have V_b6 := V_b6.other W12 ne_b6_b11
  have V_b10 := V_b10.other W12 ne_b10_b11
  have O := O.wr W12 g_b11
  have N12 := Fr.snoc X12 N9 g_b11
  obtain ⟨T13, h13, k13, X13, e13, E13, A13, st13⟩ := newP X12 hx hZ (W 5 rfl) e12 (g := (mkF m 59 (own_F38 i1 i2 i3 i4 (i4 &&& (3 : Int32)) xa xb xc b6 b10 b11) [.int 2])) rfl (hb hby at_59) rfl (by decide) (cap := 2) (by decide) (by decide) (by decide) (by decide)
  obtain ⟨b13, gq13⟩ : ∃ z, z = Array.size h12 := ⟨_, rfl⟩
  rw [← gq13] at A13 st13
  have ne_b6_b13 : b6 ≠ b13 := Nat.ne_of_lt (Nat.lt_of_lt_of_le V_b6.lt (Nat.le_of_eq gq13.symm))
  have ne_b10_b13 : b10 ≠ b13 := Nat.ne_of_lt (Nat.lt_of_lt_of_le V_b10.lt (Nat.le_of_eq gq13.symm))
  have ne_b11_b13 : b11 ≠ b13 := Nat.ne_of_lt (Nat.lt_of_lt_of_le V_b11.lt (Nat.le_of_eq gq13.symm))
  have g_b13 : n0 ≤ b13 := Nat.le_trans (O.1 ▸ O.2.1) (Nat.le_of_eq gq13.symm)
  have sf_b13 := own_safeN C.1 E13 (Nat.le_of_eq gq13.symm)
  have R := CHr.ext E13 C.1
  have C := C.trans R
  have hk := Nat.le_trans hk E13.1
  have V_b6 := V_b6.ext E13
  have V_b10 := V_b10.ext E13
  have V_b11 := V_b11.ext E13
  have O := O.ext E13
  have V_b13 : Arv Z h13 b13 k13 .char (2 : Int32) [.int 0, .int 0] (.int 0) := (Arv.new A13 (by decide)).pad (pad_rep [] (.int 0) 2)
  obtain ⟨T14, h14, X14, e14, W14, Vq14, st14⟩ := own_sC X13 Hb hZ e13 V_b13 (j := 0) (x := xa) (L := (own_F38 i1 i2 i3 i4 (i4 &&& (3 : Int32)) xa xb xc b6 b10 b11)) (S := [.ref b13]) (vs' := [.int (xa.toUInt32.toUInt16.toUInt32.toInt32), .int 0]) ⟨by decide, by decide⟩ rfl (Nat.le_of_ble_eq_true rfl) at_65 rfl
  have R := CHr.wr W14 sf_b13 C.1
  have sf_b13 := R.safe V_b13.lt sf_b13
  have C := C.trans R
  have V_b13 := Vq14
  have hk := (by rw [W14.size]; exact hk : _ ≤ Array.size h14)
  have V_b6 := V_b6.other W14 ne_b6_b13
  have V_b10 := V_b10.other W14 ne_b10_b13
  have V_b11 := V_b11.other W14 ne_b11_b13
  have O := O.wr W14 g_b13
  have N14 := Fr.snoc X14 N12 g_b13
  obtain ⟨T15, h15, X15, e15, W15, Vq15, st15⟩ := own_sC X14 Hb hZ e14 V_b13 (j := 1) (x := xb) (L := (own_F38 i1 i2 i3 i4 (i4 &&& (3 : Int32)) xa xb xc b6 b10 b11)) (S := [.ref b13]) (vs' := [.int (xa.toUInt32.toUInt16.toUInt32.toInt32), .int (xb.toUInt32.toUInt16.toUInt32.toInt32)]) ⟨by decide, by decide⟩ rfl (Nat.le_of_ble_eq_true rfl) at_70 rfl
  have R := CHr.wr W15 sf_b13 C.1
  have sf_b13 := R.safe V_b13.lt sf_b13
  have C := C.trans R
  have V_b13 := Vq15
  have hk := (by rw [W15.size]; exact hk : _ ≤ Array.size h15)
  have V_b6 := V_b6.other W15 ne_b6_b13
  have V_b10 := V_b10.other W15 ne_b10_b13
  have V_b11 := V_b11.other W15 ne_b11_b13
  have O := O.wr W15 g_b13
  have N15 := Fr.snoc X15 N14 g_b13
  obtain ⟨T16, h16, k16, X16, e16, E16, A16, st16⟩ := newP X15 hx hZ (W 5 rfl) e15 (g := (mkF m 74 (own_F39 i1 i2 i3 i4 (i4 &&& (3 : Int32)) xa xb xc b6 b10 b11 b13) [.int 3])) rfl (hb hby at_74) rfl (by decide) (cap := 3) (by decide) (by decide) (by decide) (by decide)
  obtain ⟨b16, gq16⟩ : ∃ z, z = Array.size h15 := ⟨_, rfl⟩
  rw [← gq16] at A16 st16
  have ne_b6_b16 : b6 ≠ b16 := Nat.ne_of_lt (Nat.lt_of_lt_of_le V_b6.lt (Nat.le_of_eq gq16.symm))
  have ne_b10_b16 : b10 ≠ b16 := Nat.ne_of_lt (Nat.lt_of_lt_of_le V_b10.lt (Nat.le_of_eq gq16.symm))
  have ne_b11_b16 : b11 ≠ b16 := Nat.ne_of_lt (Nat.lt_of_lt_of_le V_b11.lt (Nat.le_of_eq gq16.symm))
  have ne_b13_b16 : b13 ≠ b16 := Nat.ne_of_lt (Nat.lt_of_lt_of_le V_b13.lt (Nat.le_of_eq gq16.symm))
  have g_b16 : n0 ≤ b16 := Nat.le_trans (O.1 ▸ O.2.1) (Nat.le_of_eq gq16.symm)
  have sf_b16 := own_safeN C.1 E16 (Nat.le_of_eq gq16.symm)
  have R := CHr.ext E16 C.1
  have C := C.trans R
  have hk := Nat.le_trans hk E16.1
  have V_b6 := V_b6.ext E16
  have V_b10 := V_b10.ext E16
  have V_b11 := V_b11.ext E16
  have V_b13 := V_b13.ext E16
  have O := O.ext E16
  have V_b16 : Arv Z h16 b16 k16 .char (3 : Int32) [.int 0, .int 0, .int 0] (.int 0) := (Arv.new A16 (by decide)).pad (pad_rep [] (.int 0) 3)
  obtain ⟨T17, h17, X17, e17, W17, Vq17, st17⟩ := own_sC X16 Hb hZ e16 V_b16 (j := 0) (x := xa) (L := (own_F39 i1 i2 i3 i4 (i4 &&& (3 : Int32)) xa xb xc b6 b10 b11 b13)) (S := [.ref b16]) (vs' := [.int (xa.toUInt32.toUInt16.toUInt32.toInt32), .int 0, .int 0]) ⟨by decide, by decide⟩ rfl (Nat.le_of_ble_eq_true rfl) at_80 rfl
  have R := CHr.wr W17 sf_b16 C.1
  have sf_b16 := R.safe V_b16.lt sf_b16
  have C := C.trans R
  have V_b16 := Vq17
  have hk := (by rw [W17.size]; exact hk : _ ≤ Array.size h17)
  have V_b6 := V_b6.other W17 ne_b6_b16
  have V_b10 := V_b10.other W17 ne_b10_b16
  have V_b11 := V_b11.other W17 ne_b11_b16
  have V_b13 := V_b13.other W17 ne_b13_b16
  have O := O.wr W17 g_b16
  have N17 := Fr.snoc X17 N15 g_b16
  obtain ⟨T18, h18, X18, e18, W18, Vq18, st18⟩ := own_sC X17 Hb hZ e17 V_b16 (j := 1) (x := xb) (L := (own_F39 i1 i2 i3 i4 (i4 &&& (3 : Int32)) xa xb xc b6 b10 b11 b13)) (S := [.ref b16]) (vs' := [.int (xa.toUInt32.toUInt16.toUInt32.toInt32), .int (xb.toUInt32.toUInt16.toUInt32.toInt32), .int 0]) ⟨by decide, by decide⟩ rfl (Nat.le_of_ble_eq_true rfl) at_85 rfl
  have R := CHr.wr W18 sf_b16 C.1
  have sf_b16 := R.safe V_b16.lt sf_b16
  have C := C.trans R
  have V_b16 := Vq18
  have hk := (by rw [W18.size]; exact hk : _ ≤ Array.size h18)
  have V_b6 := V_b6.other W18 ne_b6_b16
  have V_b10 := V_b10.other W18 ne_b10_b16
  have V_b11 := V_b11.other W18 ne_b11_b16
  have V_b13 := V_b13.other W18 ne_b13_b16
  have O := O.wr W18 g_b16
  have N18 := Fr.snoc X18 N17 g_b16
  obtain ⟨T19, h19, X19, e19, W19, Vq19, st19⟩ := own_sC X18 Hb hZ e18 V_b16 (j := 2) (x := xc) (L := (own_F39 i1 i2 i3 i4 (i4 &&& (3 : Int32)) xa xb xc b6 b10 b11 b13)) (S := [.ref b16]) (vs' := [.int (xa.toUInt32.toUInt16.toUInt32.toInt32), .int (xb.toUInt32.toUInt16.toUInt32.toInt32), .int (xc.toUInt32.toUInt16.toUInt32.toInt32)]) ⟨by decide, by decide⟩ rfl (Nat.le_of_ble_eq_true rfl) at_90 rfl
  have R := CHr.wr W19 sf_b16 C.1
  have sf_b16 := R.safe V_b16.lt sf_b16
  have C := C.trans R
  have V_b16 := Vq19
  have hk := (by rw [W19.size]; exact hk : _ ≤ Array.size h19)
  have V_b6 := V_b6.other W19 ne_b6_b16
  have V_b10 := V_b10.other W19 ne_b10_b16
  have V_b11 := V_b11.other W19 ne_b11_b16
  have V_b13 := V_b13.other W19 ne_b13_b16
  have O := O.wr W19 g_b16
  have N19 := Fr.snoc X19 N18 g_b16
  have V_b6 : Arv Z h19 b6 k6 .char (3 : Int32) [.int xa, .int xb, .int xc] (.int 0) := by
    have q : Arv Z h19 b6 k6 .char (3 : Int32) [.int (own_k xa), .int (own_k xb), .int (own_k xc)] (.int 0) := V_b6
    rw [hka, hkb, hkc] at q
    exact q
  have V_b11 : Arv Z h19 b11 k11 .char (1 : Int32) [.int xa] (.int 0) := by
    have q : Arv Z h19 b11 k11 .char (1 : Int32) [.int (own_k xa)] (.int 0) := V_b11
    rw [hka] at q
    exact q
  have V_b13 : Arv Z h19 b13 k13 .char (2 : Int32) [.int xa, .int xb] (.int 0) := by
    have q : Arv Z h19 b13 k13 .char (2 : Int32) [.int (own_k xa), .int (own_k xb)] (.int 0) := V_b13
    rw [hka, hkb] at q
    exact q
  have V_b16 : Arv Z h19 b16 k16 .char (3 : Int32) [.int xa, .int xb, .int xc] (.int 0) := by
    have q : Arv Z h19 b16 k16 .char (3 : Int32) [.int (own_k xa), .int (own_k xb), .int (own_k xc)] (.int 0) := V_b16
    rw [hka, hkb, hkc] at q
    exact q
  have w20 : ∀ t, Steps p.tables e below (T19.setTop (mkF m 93 (own_F40 i1 i2 i3 i4 (i4 &&& (3 : Int32)) xa xb xc b6 b10 b11 b13 b16) [])) t → Steps p.tables e below (s₁.setTop (entryFrame m #[.int i1, .int i2, .int i3, .int i4] maxLocals)) t := fun t k => by
    refine w5 t ?_
    refine zic X3 Hb at_23 3 rfl <| st6 _ <| zdu X6 Hb at_26 rfl <| zic X6 Hb at_27 0 rfl <| ziL X6 Hb at_28 rfl <| st7 _ <| zdu X7 Hb at_31 rfl <| zic X7 Hb at_32 1 rfl ?_
    refine ziL X7 Hb at_33 rfl <| st8 _ <| zdu X8 Hb at_36 rfl <| zic X8 Hb at_37 2 rfl <| ziL X8 Hb at_38 rfl <| st9 _ <| zaS X9 Hb (L' := (own_F36 i1 i2 i3 i4 (i4 &&& (3 : Int32)) xa xb xc b6)) at_41 rfl rfl <| zic X9 Hb at_43 0 rfl ?_
    refine st10 _ <| zaS X10 Hb (L' := (own_F37 i1 i2 i3 i4 (i4 &&& (3 : Int32)) xa xb xc b6 b10)) at_46 rfl rfl <| zic X10 Hb at_48 1 rfl <| st11 _ <| zdu X11 Hb at_51 rfl <| zic X11 Hb at_52 0 rfl <| ziL X11 Hb at_53 rfl <| st12 _ ?_
    refine zaS X12 Hb (L' := (own_F38 i1 i2 i3 i4 (i4 &&& (3 : Int32)) xa xb xc b6 b10 b11)) at_56 rfl rfl <| zic X12 Hb at_58 2 rfl <| st13 _ <| zdu X13 Hb at_61 rfl <| zic X13 Hb at_62 0 rfl <| ziL X13 Hb at_63 rfl <| st14 _ <| zdu X14 Hb at_66 rfl ?_
    refine zic X14 Hb at_67 1 rfl <| ziL X14 Hb at_68 rfl <| st15 _ <| zaS X15 Hb (L' := (own_F39 i1 i2 i3 i4 (i4 &&& (3 : Int32)) xa xb xc b6 b10 b11 b13)) at_71 rfl rfl <| zic X15 Hb at_73 3 rfl <| st16 _ <| zdu X16 Hb at_76 rfl <| zic X16 Hb at_77 0 rfl ?_
    refine ziL X16 Hb at_78 rfl <| st17 _ <| zdu X17 Hb at_81 rfl <| zic X17 Hb at_82 1 rfl <| ziL X17 Hb at_83 rfl <| st18 _ <| zdu X18 Hb at_86 rfl <| zic X18 Hb at_87 2 rfl ?_
    refine ziL X18 Hb at_88 rfl <| st19 _ <| zaS X19 Hb (L' := (own_F40 i1 i2 i3 i4 (i4 &&& (3 : Int32)) xa xb xc b6 b10 b11 b13 b16)) at_91 rfl rfl ?_
    exact k
  rcases own_and3 i4 with hk21 | hk21 | hk21 | hk21
  · have w22 : ∀ t, Steps p.tables e below (T19.setTop (mkF m 93 (own_F40 i1 i2 i3 i4 (0 : Int32) xa xb xc b6 b10 b11 b13 b16) [])) t → Steps p.tables e below (s₁.setTop (entryFrame m #[.int i1, .int i2, .int i3, .int i4] maxLocals)) t := by
      have q := w20
      simp only [hk21] at q
      exact q
    obtain ⟨T23, h23, X23, e23, E23, A23, D23, -, st23⟩ := newO X19 hx hZ hown (W 6 rfl) (W 7 rfl) (W 8 rfl) e19 (g := (mkF m 98 (own_F40 i1 i2 i3 i4 (0 : Int32) xa xb xc b6 b10 b11 b13 b16) [])) rfl (hb hby at_98) (by decide) (by decide)
    obtain ⟨b23, gq23⟩ : ∃ z, z = Array.size h19 := ⟨_, rfl⟩
    rw [← gq23] at A23 D23 st23
    have ne_b6_b23 : b6 ≠ b23 := Nat.ne_of_lt (Nat.lt_of_lt_of_le V_b6.lt (Nat.le_of_eq gq23.symm))
    have ne_b10_b23 : b10 ≠ b23 := Nat.ne_of_lt (Nat.lt_of_lt_of_le V_b10.lt (Nat.le_of_eq gq23.symm))
    have g_b23 : n0 ≤ b23 := Nat.le_trans (O.1 ▸ O.2.1) (Nat.le_of_eq gq23.symm)
    have sf_b23 := own_safeN C.1 E23 (Nat.le_of_eq gq23.symm)
    have R := CHr.ext E23 C.1
    have C := C.trans R
    have hk := Nat.le_trans hk E23.1
    have V_b6 := V_b6.ext E23
    have V_b10 := V_b10.ext E23
    have O := O.ext E23
    have F_coder_b23 : Fld Z h23 b23 "java/lang/String" "coder" "B" (.int 0) := D23 (Or.inr (W 32 rfl)) (ty := .byte) (by decide)
    have F_value_b23 : Fld Z h23 b23 "java/lang/String" "value" "[B" .null := D23 (Or.inr (W 34 rfl)) (ty := (.array .byte)) (by decide)
    obtain ⟨_, _, ⟨T24, L24, k24, n24⟩, -, X24, sn24, gr24, ⟨Lc24, hQ24, l24, y24, z24, R24⟩, st24⟩ := X23.specialBackS hx (y := own_n2) rfl hown (mvT hZ (W 9 rfl)) (mvT hZ (W 10 rfl)) (mvT hZ (W 11 rfl)) (by decide) (backOfSH (W := 1) (rm2_e l Z a0 hw [] b23 b10 k10 h23 n0 O A23 F_value_b23 F_coder_b23 V_b10 g_b23) hZ (W 11 rfl) (W 8 rfl) (by decide) (by decide) hEL C.1) (g := (mkF m 104 (own_F40 i1 i2 i3 i4 (0 : Int32) xa xb xc b6 b10 b11 b13 b16) [.ref b10, .ref b23, .ref b23])) rfl (by rw [hml]; rfl) (Steps.refl _) (a := b23) (argsL := [.ref b10]) (rest := [.ref b23]) (lenOf pd48 rfl) rfl (by show 2 * 0 + _ ≤ _; exact Nat.le_of_eq rfl) (hb hby at_104) (fun _ _ => ⟨rfl, e23, (by decide : 6 + 4 ≤ _), (by decide : 13 + 8 ≤ _)⟩)
    dsimp only [Pt.U, Pt.locs, Pt.cells, Pt.slots] at X24 l24 y24 z24 st24 hQ24 sn24 gr24 R24
    have X24 := own_un X24 l24 y24 z24
    obtain ⟨X24, hS, hZ, hown⟩ := rebS hS (by rw [e23]; exact hk) X24 sn24 gr24 hZ hown
    obtain ⟨t1_24, kb_24, rfl, N24q, K24, F_v_a_c24, F_c_a_c24, V_t_c24, E_t_c24⟩ := hQ24
    have N24 := Fr.app N19 N24q
    have R := R24
    have sf_b23 := R.safe A23.lt sf_b23
    have C := C.trans R
    have hk : T24.heap.size ≤ T24.heap.size := Nat.le_refl _
    have V_b6 := V_b6.keep K24 (ninS ne_b6_b23 nin0)
    have V_b10 := V_b10.keep K24 (ninS ne_b10_b23 nin0)
    have A23 := A23.keep K24
    have O := O.keep K24 (allS g_b23 all0)
    obtain ⟨T25, h25, k25, X25, e25, E25, A25, st25⟩ := newP X24 hx hZ (W 24 rfl) rfl (g := (mkF m 165 (own_F41 i1 i2 i3 i4 (0 : Int32) xa xb xc b6 b10 b11 b13 b16 b23) [.int 12])) rfl (hb hby at_165) rfl (by decide) (cap := 12) (by decide) (by decide) (by decide) (by decide)
    obtain ⟨b25, gq25⟩ : ∃ z, z = Array.size T24.heap := ⟨_, rfl⟩
    rw [← gq25] at A25 st25
    have ne_b6_b25 : b6 ≠ b25 := Nat.ne_of_lt (Nat.lt_of_lt_of_le V_b6.lt (Nat.le_of_eq gq25.symm))
    have ne_b23_b25 : b23 ≠ b25 := Nat.ne_of_lt (Nat.lt_of_lt_of_le A23.lt (Nat.le_of_eq gq25.symm))
    have ne_t1_24_b25 : t1_24 ≠ b25 := Nat.ne_of_lt (Nat.lt_of_lt_of_le V_t_c24.lt (Nat.le_of_eq gq25.symm))
    have g_b25 : n0 ≤ b25 := Nat.le_trans (O.1 ▸ O.2.1) (Nat.le_of_eq gq25.symm)
    have sf_b25 := own_safeN C.1 E25 (Nat.le_of_eq gq25.symm)
    have R := CHr.ext E25 C.1
    have C := C.trans R
    have hk := Nat.le_trans hk E25.1
    have V_b6 := V_b6.ext E25
    have A23 := A23.ext E25
    have F_v_a_c24 := F_v_a_c24.ext E25
    have F_c_a_c24 := F_c_a_c24.ext E25
    have V_t_c24 := V_t_c24.ext E25
    have E_t_c24 := E_t_c24.ext E25
    have O := O.ext E25
    have V_b25 : Arv Z h25 b25 k25 .byte (12 : Int32) [.int 0, .int 0, .int 0, .int 0, .int 0, .int 0, .int 0, .int 0, .int 0, .int 0, .int 0, .int 0] (.int 0) := (Arv.new A25 (by decide)).pad (pad_rep [] (.int 0) 12)
    obtain ⟨T26, h26, k26, X26, e26, E26, A26, st26⟩ := newP X25 hx hZ (W 35 rfl) e25 (g := (mkF m 170 (own_F42 i1 i2 i3 i4 (0 : Int32) xa xb xc b6 b10 b11 b13 b16 b23 b25) [.int 2])) rfl (hb hby at_170) rfl (by decide) (cap := 2) (by decide) (by decide) (by decide) (by decide)
    obtain ⟨b26, gq26⟩ : ∃ z, z = Array.size h25 := ⟨_, rfl⟩
    rw [← gq26] at A26 st26
    have ne_b6_b26 : b6 ≠ b26 := Nat.ne_of_lt (Nat.lt_of_lt_of_le V_b6.lt (Nat.le_of_eq gq26.symm))
    have ne_b23_b26 : b23 ≠ b26 := Nat.ne_of_lt (Nat.lt_of_lt_of_le A23.lt (Nat.le_of_eq gq26.symm))
    have ne_t1_24_b26 : t1_24 ≠ b26 := Nat.ne_of_lt (Nat.lt_of_lt_of_le V_t_c24.lt (Nat.le_of_eq gq26.symm))
    have ne_b25_b26 : b25 ≠ b26 := Nat.ne_of_lt (Nat.lt_of_lt_of_le V_b25.lt (Nat.le_of_eq gq26.symm))
    have g_b26 : n0 ≤ b26 := Nat.le_trans (O.1 ▸ O.2.1) (Nat.le_of_eq gq26.symm)
    have sf_b26 := own_safeN C.1 E26 (Nat.le_of_eq gq26.symm)
    have R := CHr.ext E26 C.1
    have sf_b25 := R.safe V_b25.lt sf_b25
    have C := C.trans R
    have hk := Nat.le_trans hk E26.1
    have V_b6 := V_b6.ext E26
    have A23 := A23.ext E26
    have F_v_a_c24 := F_v_a_c24.ext E26
    have F_c_a_c24 := F_c_a_c24.ext E26
    have V_t_c24 := V_t_c24.ext E26
    have E_t_c24 := E_t_c24.ext E26
    have V_b25 := V_b25.ext E26
    have O := O.ext E26
    have V_b26 : Arv Z h26 b26 k26 .int (2 : Int32) [.int 0, .int 0] (.int 0) := (Arv.new A26 (by decide)).pad (pad_rep [] (.int 0) 2)
    obtain ⟨cl27, Ar27, q27, Z27, N27, H27, G27⟩ := id V_b26
    have hin27 : ¬ ((0 : Int32) < 0 ∨ cl27.slots.size ≤ ((0 : Int32)).toNatClampNeg) := inb_of Z27 ⟨by decide, by decide⟩
    obtain ⟨T28, h28, X28, e28, W28, st28⟩ := stI X26 hx hZ e26 Ar27 (j := (0 : Int32)) hin27 (g := (mkF m 175 (own_F42 i1 i2 i3 i4 (0 : Int32) xa xb xc b6 b10 b11 b13 b16 b23 b25) [.int 0, .int 0, .ref b26, .ref b26])) rfl rfl (hb hby at_175)
    have R := CHr.wr W28 sf_b26 C.1
    have sf_b25 := R.safe V_b25.lt sf_b25
    have sf_b26 := R.safe V_b26.lt sf_b26
    have C := C.trans R
    have V_b26 : Arv Z h28 b26 k26 .int (2 : Int32) [.int 0, .int 0] (.int 0) := Arv.set Ar27 q27 Z27 N27 H27 G27 rfl W28 0 rfl (Nat.le_of_ble_eq_true rfl)
    have hk := (by rw [W28.size]; exact hk : _ ≤ Array.size h28)
    have V_b6 := V_b6.other W28 ne_b6_b26
    have A23 := A23.wr W28
    have F_v_a_c24 := F_v_a_c24.other W28 (Or.inl ne_b23_b26)
    have F_c_a_c24 := F_c_a_c24.other W28 (Or.inl ne_b23_b26)
    have V_t_c24 := V_t_c24.other W28 ne_t1_24_b26
    have E_t_c24 := E_t_c24.wr W28
    have V_b25 := V_b25.other W28 ne_b25_b26
    have O := O.wr W28 g_b26
    have N28 := Fr.snoc X28 N24 g_b26
    obtain ⟨cl29, Ar29, q29, Z29, N29, H29, G29⟩ := id V_b26
    have hin29 : ¬ ((1 : Int32) < 0 ∨ cl29.slots.size ≤ ((1 : Int32)).toNatClampNeg) := inb_of Z29 ⟨by decide, by decide⟩
    obtain ⟨T30, h30, X30, e30, W30, st30⟩ := stI X28 hx hZ e28 Ar29 (j := (1 : Int32)) hin29 (g := (mkF m 179 (own_F42 i1 i2 i3 i4 (0 : Int32) xa xb xc b6 b10 b11 b13 b16 b23 b25) [.int 0, .int 1, .ref b26, .ref b26])) rfl rfl (hb hby at_179)
    have R := CHr.wr W30 sf_b26 C.1
    have sf_b25 := R.safe V_b25.lt sf_b25
    have sf_b26 := R.safe V_b26.lt sf_b26
    have C := C.trans R
    have V_b26 : Arv Z h30 b26 k26 .int (2 : Int32) [.int 0, .int 0] (.int 0) := Arv.set Ar29 q29 Z29 N29 H29 G29 rfl W30 1 rfl (Nat.le_of_ble_eq_true rfl)
    have hk := (by rw [W30.size]; exact hk : _ ≤ Array.size h30)
    have V_b6 := V_b6.other W30 ne_b6_b26
    have A23 := A23.wr W30
    have F_v_a_c24 := F_v_a_c24.other W30 (Or.inl ne_b23_b26)
    have F_c_a_c24 := F_c_a_c24.other W30 (Or.inl ne_b23_b26)
    have V_t_c24 := V_t_c24.other W30 ne_t1_24_b26
    have E_t_c24 := E_t_c24.wr W30
    have V_b25 := V_b25.other W30 ne_b25_b26
    have O := O.wr W30 g_b26
    have N30 := Fr.snoc X30 N28 g_b26
    have w31 : ∀ t, Steps p.tables e below (T30.setTop (mkF m 182 (own_F29 i1 i2 i3 i4 (0 : Int32) xa xb xc b6 b10 b11 b13 b16 b23 b25 b26) [])) t → Steps p.tables e below (s₁.setTop (entryFrame m #[.int i1, .int i2, .int i3, .int i4] maxLocals)) t := fun t k => by
      refine w22 t ?_
      refine ziL X19 Hb at_93 rfl <| zin X19 Hb at_95 ((if0 _ _).trans (teq (rfl : (0 : Int32) = (0 : Int32))).2) <| st23 _ <| zdu X23 Hb at_101 rfl <| zaL X23 Hb at_102 rfl rfl <| st24.trans <| zaS X24 Hb (L' := (own_F41 i1 i2 i3 i4 (0 : Int32) xa xb xc b6 b10 b11 b13 b16 b23)) at_107 rfl rfl <| zgo X24 Hb at_109 163 (by decide) rfl ?_
      refine zbp X24 Hb at_163 12 rfl <| st25 _ <| zaS X25 Hb (L' := (own_F42 i1 i2 i3 i4 (0 : Int32) xa xb xc b6 b10 b11 b13 b16 b23 b25)) at_167 rfl rfl <| zic X25 Hb at_169 2 rfl <| st26 _ <| zdu X26 Hb at_172 rfl <| zic X26 Hb at_173 0 rfl <| zic X26 Hb at_174 0 rfl ?_
      refine st28 _ <| zdu X28 Hb at_176 rfl <| zic X28 Hb at_177 1 rfl <| zic X28 Hb at_178 0 rfl <| st30 _ <| zaS X30 Hb (L' := (own_F29 i1 i2 i3 i4 (0 : Int32) xa xb xc b6 b10 b11 b13 b16 b23 b25 b26)) at_180 rfl rfl ?_
      exact k
    obtain ⟨T32, L32, pqx, zx, X32, N32, K32, w32⟩ := tail0 hw i1 i2 i3 i4 (0 : Int32) xa xb xc b6 b10 b11 b13 b16 b23 b25 b26 t1_24 k6 k25 k26 kb_24 (0 : Int32) (0 : Int32) [] 0 X30 hx Hb hZ hown hml ⟨by decide, by decide, by decide, by decide⟩ e30 N30 O SU V_b6 V_b25 V_b26 A23 F_v_a_c24 F_c_a_c24 V_t_c24 E_t_c24 ne_b25_b26 ne_b6_b25 ne_b6_b26 ne_t1_24_b25 ne_t1_24_b26 (by decide) rfl (Or.inl ⟨rfl, rfl, rfl, fun c q => nomatch q⟩) (own_gt hG3 0) g_b25 g_b26 w31
    have R := CHr.keep K32 (allS sf_b25 (allS sf_b26 all0)) C.1
    have sf_b25 := R.safe V_b25.lt sf_b25
    have sf_b26 := R.safe V_b26.lt sf_b26
    have C := C.trans R
    have hk := Nat.le_trans hk K32.1
    have O := O.keep K32 (allS g_b25 (allS g_b26 all0))
    have w33 : ∀ t, Steps p.tables e below (T32.setTop (mkF m 363 (own_F31 i1 i2 i3 i4 (0 : Int32) xa xb xc b6 b10 b11 b13 b16 b23 b25 b26 pqx zx) [.int 1])) t → Steps p.tables e below (s₁.setTop (entryFrame m #[.int i1, .int i2, .int i3, .int i4] maxLocals)) t := fun t k => by
      refine w32 t ?_
      refine zic X32 Hb at_358 1 rfl <| zgo X32 Hb at_359 363 (by decide) rfl ?_
      exact k
    obtain ⟨fs, hr, hrun, hended, hE⟩ := Stand.leaveW (s := s) (vm₁ := T24.vm) X32 hS (by exact hk) (v := some (.int 1)) (fun h => by rw [Bd.returns] at h; cases h)
    refine ⟨_, _, w33 _ ?_, hrun, hended, _, _, rfl, ?_, ?_, own_mono hE (by decide) (by decide)⟩
    · exact retN X32 hx (t := .boolean) Bd.returns (by simp) (hb hby at_363) hr
    · show Q0 Z i1 i2 i3 i4 zc fm fn u8  h0 n0 _ T32.heap _
      exact ⟨rfl, N32⟩
    · rw [hh]; show CHr Z consts_1 s.vm h0 T32.vm T32.heap; exact C.trans (CHv.at X32 hZ hEL C.1)
  · have w34 : ∀ t, Steps p.tables e below (T19.setTop (mkF m 93 (own_F40 i1 i2 i3 i4 (1 : Int32) xa xb xc b6 b10 b11 b13 b16) [])) t → Steps p.tables e below (s₁.setTop (entryFrame m #[.int i1, .int i2, .int i3, .int i4] maxLocals)) t := by
      have q := w20
      simp only [hk21] at q
      exact q
    obtain ⟨T35, h35, X35, e35, E35, A35, D35, -, st35⟩ := newO X19 hx hZ hown (W 6 rfl) (W 7 rfl) (W 8 rfl) e19 (g := (mkF m 118 (own_F40 i1 i2 i3 i4 (1 : Int32) xa xb xc b6 b10 b11 b13 b16) [])) rfl (hb hby at_118) (by decide) (by decide)
    obtain ⟨b35, gq35⟩ : ∃ z, z = Array.size h19 := ⟨_, rfl⟩
    rw [← gq35] at A35 D35 st35
    have ne_b6_b35 : b6 ≠ b35 := Nat.ne_of_lt (Nat.lt_of_lt_of_le V_b6.lt (Nat.le_of_eq gq35.symm))
    have ne_b11_b35 : b11 ≠ b35 := Nat.ne_of_lt (Nat.lt_of_lt_of_le V_b11.lt (Nat.le_of_eq gq35.symm))
    have g_b35 : n0 ≤ b35 := Nat.le_trans (O.1 ▸ O.2.1) (Nat.le_of_eq gq35.symm)
    have sf_b35 := own_safeN C.1 E35 (Nat.le_of_eq gq35.symm)
    have R := CHr.ext E35 C.1
    have C := C.trans R
    have hk := Nat.le_trans hk E35.1
    have V_b6 := V_b6.ext E35
    have V_b11 := V_b11.ext E35
    have O := O.ext E35
    have F_coder_b35 : Fld Z h35 b35 "java/lang/String" "coder" "B" (.int 0) := D35 (Or.inr (W 32 rfl)) (ty := .byte) (by decide)
    have F_value_b35 : Fld Z h35 b35 "java/lang/String" "value" "[B" .null := D35 (Or.inr (W 34 rfl)) (ty := (.array .byte)) (by decide)
    obtain ⟨_, T36, Lc36, X36, hQ36, st36⟩ := own_cI X35 Hb hZ hown hml (L := (own_F40 i1 i2 i3 i4 (1 : Int32) xa xb xc b6 b10 b11 b13 b16)) rfl (rm2_g hw b35 b11 k11 [xa] O SU A35 F_value_b35 F_coder_b35 V_b11 (by simp) (by simp) (own_gt hG3 1) g_b35) (W 9 rfl) (W 10 rfl) (W 8 rfl) (W 11 rfl) pd48 e35 at_124 b35 [.ref b11] [.ref b35] 1
    obtain ⟨t1_36, kb_36, cd_36, NN_36, wv_36, rfl, N36q, K36, F_v_a_c36, F_c_a_c36, V_t_c36, E_t_c36, hcd_36⟩ := hQ36
    have N36 := Fr.app N19 N36q
    have R := CHr.keep K36 (allS sf_b35 all0) C.1
    have sf_b35 := R.safe A35.lt sf_b35
    have C := C.trans R
    have hk := Nat.le_trans hk K36.1
    have V_b6 := V_b6.keep K36 (ninS ne_b6_b35 nin0)
    have V_b11 := V_b11.keep K36 (ninS ne_b11_b35 nin0)
    have A35 := A35.keep K36
    have O := O.keep K36 (allS g_b35 all0)
    obtain ⟨T37, h37, k37, X37, e37, E37, A37, st37⟩ := newP X36 hx hZ (W 24 rfl) rfl (g := (mkF m 165 (own_F41 i1 i2 i3 i4 (1 : Int32) xa xb xc b6 b10 b11 b13 b16 b35) [.int 12])) rfl (hb hby at_165) rfl (by decide) (cap := 12) (by decide) (by decide) (by decide) (by decide)
    obtain ⟨b37, gq37⟩ : ∃ z, z = Array.size T36.heap := ⟨_, rfl⟩
    rw [← gq37] at A37 st37
    have ne_b6_b37 : b6 ≠ b37 := Nat.ne_of_lt (Nat.lt_of_lt_of_le V_b6.lt (Nat.le_of_eq gq37.symm))
    have ne_b35_b37 : b35 ≠ b37 := Nat.ne_of_lt (Nat.lt_of_lt_of_le A35.lt (Nat.le_of_eq gq37.symm))
    have ne_t1_36_b37 : t1_36 ≠ b37 := Nat.ne_of_lt (Nat.lt_of_lt_of_le V_t_c36.lt (Nat.le_of_eq gq37.symm))
    have g_b37 : n0 ≤ b37 := Nat.le_trans (O.1 ▸ O.2.1) (Nat.le_of_eq gq37.symm)
    have sf_b37 := own_safeN C.1 E37 (Nat.le_of_eq gq37.symm)
    have R := CHr.ext E37 C.1
    have C := C.trans R
    have hk := Nat.le_trans hk E37.1
    have V_b6 := V_b6.ext E37
    have A35 := A35.ext E37
    have F_v_a_c36 := F_v_a_c36.ext E37
    have F_c_a_c36 := F_c_a_c36.ext E37
    have V_t_c36 := V_t_c36.ext E37
    have E_t_c36 := E_t_c36.ext E37
    have O := O.ext E37
    have V_b37 : Arv Z h37 b37 k37 .byte (12 : Int32) [.int 0, .int 0, .int 0, .int 0, .int 0, .int 0, .int 0, .int 0, .int 0, .int 0, .int 0, .int 0] (.int 0) := (Arv.new A37 (by decide)).pad (pad_rep [] (.int 0) 12)
    obtain ⟨T38, h38, k38, X38, e38, E38, A38, st38⟩ := newP X37 hx hZ (W 35 rfl) e37 (g := (mkF m 170 (own_F42 i1 i2 i3 i4 (1 : Int32) xa xb xc b6 b10 b11 b13 b16 b35 b37) [.int 2])) rfl (hb hby at_170) rfl (by decide) (cap := 2) (by decide) (by decide) (by decide) (by decide)
    obtain ⟨b38, gq38⟩ : ∃ z, z = Array.size h37 := ⟨_, rfl⟩
    rw [← gq38] at A38 st38
    have ne_b6_b38 : b6 ≠ b38 := Nat.ne_of_lt (Nat.lt_of_lt_of_le V_b6.lt (Nat.le_of_eq gq38.symm))
    have ne_b35_b38 : b35 ≠ b38 := Nat.ne_of_lt (Nat.lt_of_lt_of_le A35.lt (Nat.le_of_eq gq38.symm))
    have ne_t1_36_b38 : t1_36 ≠ b38 := Nat.ne_of_lt (Nat.lt_of_lt_of_le V_t_c36.lt (Nat.le_of_eq gq38.symm))
    have ne_b37_b38 : b37 ≠ b38 := Nat.ne_of_lt (Nat.lt_of_lt_of_le V_b37.lt (Nat.le_of_eq gq38.symm))
    have g_b38 : n0 ≤ b38 := Nat.le_trans (O.1 ▸ O.2.1) (Nat.le_of_eq gq38.symm)
    have sf_b38 := own_safeN C.1 E38 (Nat.le_of_eq gq38.symm)
    have R := CHr.ext E38 C.1
    have sf_b37 := R.safe V_b37.lt sf_b37
    have C := C.trans R
    have hk := Nat.le_trans hk E38.1
    have V_b6 := V_b6.ext E38
    have A35 := A35.ext E38
    have F_v_a_c36 := F_v_a_c36.ext E38
    have F_c_a_c36 := F_c_a_c36.ext E38
    have V_t_c36 := V_t_c36.ext E38
    have E_t_c36 := E_t_c36.ext E38
    have V_b37 := V_b37.ext E38
    have O := O.ext E38
    have V_b38 : Arv Z h38 b38 k38 .int (2 : Int32) [.int 0, .int 0] (.int 0) := (Arv.new A38 (by decide)).pad (pad_rep [] (.int 0) 2)
    obtain ⟨cl39, Ar39, q39, Z39, N39, H39, G39⟩ := id V_b38
    have hin39 : ¬ ((0 : Int32) < 0 ∨ cl39.slots.size ≤ ((0 : Int32)).toNatClampNeg) := inb_of Z39 ⟨by decide, by decide⟩
    obtain ⟨T40, h40, X40, e40, W40, st40⟩ := stI X38 hx hZ e38 Ar39 (j := (0 : Int32)) hin39 (g := (mkF m 175 (own_F42 i1 i2 i3 i4 (1 : Int32) xa xb xc b6 b10 b11 b13 b16 b35 b37) [.int 0, .int 0, .ref b38, .ref b38])) rfl rfl (hb hby at_175)
    have R := CHr.wr W40 sf_b38 C.1
    have sf_b37 := R.safe V_b37.lt sf_b37
    have sf_b38 := R.safe V_b38.lt sf_b38
    have C := C.trans R
    have V_b38 : Arv Z h40 b38 k38 .int (2 : Int32) [.int 0, .int 0] (.int 0) := Arv.set Ar39 q39 Z39 N39 H39 G39 rfl W40 0 rfl (Nat.le_of_ble_eq_true rfl)
    have hk := (by rw [W40.size]; exact hk : _ ≤ Array.size h40)
    have V_b6 := V_b6.other W40 ne_b6_b38
    have A35 := A35.wr W40
    have F_v_a_c36 := F_v_a_c36.other W40 (Or.inl ne_b35_b38)
    have F_c_a_c36 := F_c_a_c36.other W40 (Or.inl ne_b35_b38)
    have V_t_c36 := V_t_c36.other W40 ne_t1_36_b38
    have E_t_c36 := E_t_c36.wr W40
    have V_b37 := V_b37.other W40 ne_b37_b38
    have O := O.wr W40 g_b38
    have N40 := Fr.snoc X40 N36 g_b38
    obtain ⟨cl41, Ar41, q41, Z41, N41, H41, G41⟩ := id V_b38
    have hin41 : ¬ ((1 : Int32) < 0 ∨ cl41.slots.size ≤ ((1 : Int32)).toNatClampNeg) := inb_of Z41 ⟨by decide, by decide⟩
    obtain ⟨T42, h42, X42, e42, W42, st42⟩ := stI X40 hx hZ e40 Ar41 (j := (1 : Int32)) hin41 (g := (mkF m 179 (own_F42 i1 i2 i3 i4 (1 : Int32) xa xb xc b6 b10 b11 b13 b16 b35 b37) [.int 0, .int 1, .ref b38, .ref b38])) rfl rfl (hb hby at_179)
    have R := CHr.wr W42 sf_b38 C.1
    have sf_b37 := R.safe V_b37.lt sf_b37
    have sf_b38 := R.safe V_b38.lt sf_b38
    have C := C.trans R
    have V_b38 : Arv Z h42 b38 k38 .int (2 : Int32) [.int 0, .int 0] (.int 0) := Arv.set Ar41 q41 Z41 N41 H41 G41 rfl W42 1 rfl (Nat.le_of_ble_eq_true rfl)
    have hk := (by rw [W42.size]; exact hk : _ ≤ Array.size h42)
    have V_b6 := V_b6.other W42 ne_b6_b38
    have A35 := A35.wr W42
    have F_v_a_c36 := F_v_a_c36.other W42 (Or.inl ne_b35_b38)
    have F_c_a_c36 := F_c_a_c36.other W42 (Or.inl ne_b35_b38)
    have V_t_c36 := V_t_c36.other W42 ne_t1_36_b38
    have E_t_c36 := E_t_c36.wr W42
    have V_b37 := V_b37.other W42 ne_b37_b38
    have O := O.wr W42 g_b38
    have N42 := Fr.snoc X42 N40 g_b38
    have w43 : ∀ t, Steps p.tables e below (T42.setTop (mkF m 182 (own_F29 i1 i2 i3 i4 (1 : Int32) xa xb xc b6 b10 b11 b13 b16 b35 b37 b38) [])) t → Steps p.tables e below (s₁.setTop (entryFrame m #[.int i1, .int i2, .int i3, .int i4] maxLocals)) t := fun t k => by
      refine w34 t ?_
      refine ziL X19 Hb at_93 rfl <| ziy X19 Hb at_95 ((if0 _ _).trans (feq ((by decide) : ¬ ((1 : Int32) = (0 : Int32)))).2) 112 (by decide) rfl <| ziL X19 Hb at_112 rfl <| zic X19 Hb at_114 1 rfl <| zcn X19 Hb at_115 (teq (rfl : (1 : Int32) = (1 : Int32))).2 <| st35 _ <| zdu X35 Hb at_121 rfl <| zaL X35 Hb at_122 rfl rfl ?_
      refine st36 _ <| zaS X36 Hb (L' := (own_F41 i1 i2 i3 i4 (1 : Int32) xa xb xc b6 b10 b11 b13 b16 b35)) at_127 rfl rfl <| zgo X36 Hb at_129 163 (by decide) rfl <| zbp X36 Hb at_163 12 rfl <| st37 _ <| zaS X37 Hb (L' := (own_F42 i1 i2 i3 i4 (1 : Int32) xa xb xc b6 b10 b11 b13 b16 b35 b37)) at_167 rfl rfl <| zic X37 Hb at_169 2 rfl <| st38 _ ?_
      refine zdu X38 Hb at_172 rfl <| zic X38 Hb at_173 0 rfl <| zic X38 Hb at_174 0 rfl <| st40 _ <| zdu X40 Hb at_176 rfl <| zic X40 Hb at_177 1 rfl <| zic X40 Hb at_178 0 rfl <| st42 _ ?_
      refine zaS X42 Hb (L' := (own_F29 i1 i2 i3 i4 (1 : Int32) xa xb xc b6 b10 b11 b13 b16 b35 b37 b38)) at_180 rfl rfl ?_
      exact k
    obtain ⟨T44, L44, pqx, zx, X44, N44, K44, w44⟩ := tail0 hw i1 i2 i3 i4 (1 : Int32) xa xb xc b6 b10 b11 b13 b16 b35 b37 b38 t1_36 k6 k37 k38 kb_36 cd_36 NN_36 wv_36 1 X42 hx Hb hZ hown hml ⟨by decide, by decide, by decide, by decide⟩ e42 N42 O SU V_b6 V_b37 V_b38 A35 F_v_a_c36 F_c_a_c36 V_t_c36 E_t_c36 ne_b37_b38 ne_b6_b37 ne_b6_b38 ne_t1_36_b37 ne_t1_36_b38 (by decide) rfl hcd_36 (own_gt hG3 1) g_b37 g_b38 w43
    have R := CHr.keep K44 (allS sf_b37 (allS sf_b38 all0)) C.1
    have sf_b37 := R.safe V_b37.lt sf_b37
    have sf_b38 := R.safe V_b38.lt sf_b38
    have C := C.trans R
    have hk := Nat.le_trans hk K44.1
    have O := O.keep K44 (allS g_b37 (allS g_b38 all0))
    have w45 : ∀ t, Steps p.tables e below (T44.setTop (mkF m 363 (own_F31 i1 i2 i3 i4 (1 : Int32) xa xb xc b6 b10 b11 b13 b16 b35 b37 b38 pqx zx) [.int 1])) t → Steps p.tables e below (s₁.setTop (entryFrame m #[.int i1, .int i2, .int i3, .int i4] maxLocals)) t := fun t k => by
      refine w44 t ?_
      refine zic X44 Hb at_358 1 rfl <| zgo X44 Hb at_359 363 (by decide) rfl ?_
      exact k
    obtain ⟨fs, hr, hrun, hended, hE⟩ := Stand.leaveW (s := s) (vm₁ := s.vm) X44 hS (by exact hk) (v := some (.int 1)) (fun h => by rw [Bd.returns] at h; cases h)
    refine ⟨_, _, w45 _ ?_, hrun, hended, _, _, rfl, ?_, ?_, own_mono hE (by decide) (by decide)⟩
    · exact retN X44 hx (t := .boolean) Bd.returns (by simp) (hb hby at_363) hr
    · show Q0 Z i1 i2 i3 i4 zc fm fn u8  h0 n0 _ T44.heap _
      exact ⟨rfl, N44⟩
    · rw [hh]; show CHr Z consts_1 s.vm h0 T44.vm T44.heap; exact C.trans (CHv.at X44 hZ hEL C.1)
  · have w46 : ∀ t, Steps p.tables e below (T19.setTop (mkF m 93 (own_F40 i1 i2 i3 i4 (2 : Int32) xa xb xc b6 b10 b11 b13 b16) [])) t → Steps p.tables e below (s₁.setTop (entryFrame m #[.int i1, .int i2, .int i3, .int i4] maxLocals)) t := by
      have q := w20
      simp only [hk21] at q
      exact q
    obtain ⟨T47, h47, X47, e47, E47, A47, D47, -, st47⟩ := newO X19 hx hZ hown (W 6 rfl) (W 7 rfl) (W 8 rfl) e19 (g := (mkF m 138 (own_F40 i1 i2 i3 i4 (2 : Int32) xa xb xc b6 b10 b11 b13 b16) [])) rfl (hb hby at_138) (by decide) (by decide)
    obtain ⟨b47, gq47⟩ : ∃ z, z = Array.size h19 := ⟨_, rfl⟩
    rw [← gq47] at A47 D47 st47
    have ne_b6_b47 : b6 ≠ b47 := Nat.ne_of_lt (Nat.lt_of_lt_of_le V_b6.lt (Nat.le_of_eq gq47.symm))
    have ne_b13_b47 : b13 ≠ b47 := Nat.ne_of_lt (Nat.lt_of_lt_of_le V_b13.lt (Nat.le_of_eq gq47.symm))
    have g_b47 : n0 ≤ b47 := Nat.le_trans (O.1 ▸ O.2.1) (Nat.le_of_eq gq47.symm)
    have sf_b47 := own_safeN C.1 E47 (Nat.le_of_eq gq47.symm)
    have R := CHr.ext E47 C.1
    have C := C.trans R
    have hk := Nat.le_trans hk E47.1
    have V_b6 := V_b6.ext E47
    have V_b13 := V_b13.ext E47
    have O := O.ext E47
    have F_coder_b47 : Fld Z h47 b47 "java/lang/String" "coder" "B" (.int 0) := D47 (Or.inr (W 32 rfl)) (ty := .byte) (by decide)
    have F_value_b47 : Fld Z h47 b47 "java/lang/String" "value" "[B" .null := D47 (Or.inr (W 34 rfl)) (ty := (.array .byte)) (by decide)
    obtain ⟨_, T48, Lc48, X48, hQ48, st48⟩ := own_cI X47 Hb hZ hown hml (L := (own_F40 i1 i2 i3 i4 (2 : Int32) xa xb xc b6 b10 b11 b13 b16)) rfl (rm2_g hw b47 b13 k13 [xa, xb] O SU A47 F_value_b47 F_coder_b47 V_b13 (by simp) (by simp) (own_gt hG3 2) g_b47) (W 9 rfl) (W 10 rfl) (W 8 rfl) (W 11 rfl) pd48 e47 at_144 b47 [.ref b13] [.ref b47] 1
    obtain ⟨t1_48, kb_48, cd_48, NN_48, wv_48, rfl, N48q, K48, F_v_a_c48, F_c_a_c48, V_t_c48, E_t_c48, hcd_48⟩ := hQ48
    have N48 := Fr.app N19 N48q
    have R := CHr.keep K48 (allS sf_b47 all0) C.1
    have sf_b47 := R.safe A47.lt sf_b47
    have C := C.trans R
    have hk := Nat.le_trans hk K48.1
    have V_b6 := V_b6.keep K48 (ninS ne_b6_b47 nin0)
    have V_b13 := V_b13.keep K48 (ninS ne_b13_b47 nin0)
    have A47 := A47.keep K48
    have O := O.keep K48 (allS g_b47 all0)
    obtain ⟨T49, h49, k49, X49, e49, E49, A49, st49⟩ := newP X48 hx hZ (W 24 rfl) rfl (g := (mkF m 165 (own_F41 i1 i2 i3 i4 (2 : Int32) xa xb xc b6 b10 b11 b13 b16 b47) [.int 12])) rfl (hb hby at_165) rfl (by decide) (cap := 12) (by decide) (by decide) (by decide) (by decide)
    obtain ⟨b49, gq49⟩ : ∃ z, z = Array.size T48.heap := ⟨_, rfl⟩
    rw [← gq49] at A49 st49
    have ne_b6_b49 : b6 ≠ b49 := Nat.ne_of_lt (Nat.lt_of_lt_of_le V_b6.lt (Nat.le_of_eq gq49.symm))
    have ne_b47_b49 : b47 ≠ b49 := Nat.ne_of_lt (Nat.lt_of_lt_of_le A47.lt (Nat.le_of_eq gq49.symm))
    have ne_t1_48_b49 : t1_48 ≠ b49 := Nat.ne_of_lt (Nat.lt_of_lt_of_le V_t_c48.lt (Nat.le_of_eq gq49.symm))
    have g_b49 : n0 ≤ b49 := Nat.le_trans (O.1 ▸ O.2.1) (Nat.le_of_eq gq49.symm)
    have sf_b49 := own_safeN C.1 E49 (Nat.le_of_eq gq49.symm)
    have R := CHr.ext E49 C.1
    have C := C.trans R
    have hk := Nat.le_trans hk E49.1
    have V_b6 := V_b6.ext E49
    have A47 := A47.ext E49
    have F_v_a_c48 := F_v_a_c48.ext E49
    have F_c_a_c48 := F_c_a_c48.ext E49
    have V_t_c48 := V_t_c48.ext E49
    have E_t_c48 := E_t_c48.ext E49
    have O := O.ext E49
    have V_b49 : Arv Z h49 b49 k49 .byte (12 : Int32) [.int 0, .int 0, .int 0, .int 0, .int 0, .int 0, .int 0, .int 0, .int 0, .int 0, .int 0, .int 0] (.int 0) := (Arv.new A49 (by decide)).pad (pad_rep [] (.int 0) 12)
    obtain ⟨T50, h50, k50, X50, e50, E50, A50, st50⟩ := newP X49 hx hZ (W 35 rfl) e49 (g := (mkF m 170 (own_F42 i1 i2 i3 i4 (2 : Int32) xa xb xc b6 b10 b11 b13 b16 b47 b49) [.int 2])) rfl (hb hby at_170) rfl (by decide) (cap := 2) (by decide) (by decide) (by decide) (by decide)
    obtain ⟨b50, gq50⟩ : ∃ z, z = Array.size h49 := ⟨_, rfl⟩
    rw [← gq50] at A50 st50
    have ne_b6_b50 : b6 ≠ b50 := Nat.ne_of_lt (Nat.lt_of_lt_of_le V_b6.lt (Nat.le_of_eq gq50.symm))
    have ne_b47_b50 : b47 ≠ b50 := Nat.ne_of_lt (Nat.lt_of_lt_of_le A47.lt (Nat.le_of_eq gq50.symm))
    have ne_t1_48_b50 : t1_48 ≠ b50 := Nat.ne_of_lt (Nat.lt_of_lt_of_le V_t_c48.lt (Nat.le_of_eq gq50.symm))
    have ne_b49_b50 : b49 ≠ b50 := Nat.ne_of_lt (Nat.lt_of_lt_of_le V_b49.lt (Nat.le_of_eq gq50.symm))
    have g_b50 : n0 ≤ b50 := Nat.le_trans (O.1 ▸ O.2.1) (Nat.le_of_eq gq50.symm)
    have sf_b50 := own_safeN C.1 E50 (Nat.le_of_eq gq50.symm)
    have R := CHr.ext E50 C.1
    have sf_b49 := R.safe V_b49.lt sf_b49
    have C := C.trans R
    have hk := Nat.le_trans hk E50.1
    have V_b6 := V_b6.ext E50
    have A47 := A47.ext E50
    have F_v_a_c48 := F_v_a_c48.ext E50
    have F_c_a_c48 := F_c_a_c48.ext E50
    have V_t_c48 := V_t_c48.ext E50
    have E_t_c48 := E_t_c48.ext E50
    have V_b49 := V_b49.ext E50
    have O := O.ext E50
    have V_b50 : Arv Z h50 b50 k50 .int (2 : Int32) [.int 0, .int 0] (.int 0) := (Arv.new A50 (by decide)).pad (pad_rep [] (.int 0) 2)
    obtain ⟨cl51, Ar51, q51, Z51, N51, H51, G51⟩ := id V_b50
    have hin51 : ¬ ((0 : Int32) < 0 ∨ cl51.slots.size ≤ ((0 : Int32)).toNatClampNeg) := inb_of Z51 ⟨by decide, by decide⟩
    obtain ⟨T52, h52, X52, e52, W52, st52⟩ := stI X50 hx hZ e50 Ar51 (j := (0 : Int32)) hin51 (g := (mkF m 175 (own_F42 i1 i2 i3 i4 (2 : Int32) xa xb xc b6 b10 b11 b13 b16 b47 b49) [.int 0, .int 0, .ref b50, .ref b50])) rfl rfl (hb hby at_175)
    have R := CHr.wr W52 sf_b50 C.1
    have sf_b49 := R.safe V_b49.lt sf_b49
    have sf_b50 := R.safe V_b50.lt sf_b50
    have C := C.trans R
    have V_b50 : Arv Z h52 b50 k50 .int (2 : Int32) [.int 0, .int 0] (.int 0) := Arv.set Ar51 q51 Z51 N51 H51 G51 rfl W52 0 rfl (Nat.le_of_ble_eq_true rfl)
    have hk := (by rw [W52.size]; exact hk : _ ≤ Array.size h52)
    have V_b6 := V_b6.other W52 ne_b6_b50
    have A47 := A47.wr W52
    have F_v_a_c48 := F_v_a_c48.other W52 (Or.inl ne_b47_b50)
    have F_c_a_c48 := F_c_a_c48.other W52 (Or.inl ne_b47_b50)
    have V_t_c48 := V_t_c48.other W52 ne_t1_48_b50
    have E_t_c48 := E_t_c48.wr W52
    have V_b49 := V_b49.other W52 ne_b49_b50
    have O := O.wr W52 g_b50
    have N52 := Fr.snoc X52 N48 g_b50
    obtain ⟨cl53, Ar53, q53, Z53, N53, H53, G53⟩ := id V_b50
    have hin53 : ¬ ((1 : Int32) < 0 ∨ cl53.slots.size ≤ ((1 : Int32)).toNatClampNeg) := inb_of Z53 ⟨by decide, by decide⟩
    obtain ⟨T54, h54, X54, e54, W54, st54⟩ := stI X52 hx hZ e52 Ar53 (j := (1 : Int32)) hin53 (g := (mkF m 179 (own_F42 i1 i2 i3 i4 (2 : Int32) xa xb xc b6 b10 b11 b13 b16 b47 b49) [.int 0, .int 1, .ref b50, .ref b50])) rfl rfl (hb hby at_179)
    have R := CHr.wr W54 sf_b50 C.1
    have sf_b49 := R.safe V_b49.lt sf_b49
    have sf_b50 := R.safe V_b50.lt sf_b50
    have C := C.trans R
    have V_b50 : Arv Z h54 b50 k50 .int (2 : Int32) [.int 0, .int 0] (.int 0) := Arv.set Ar53 q53 Z53 N53 H53 G53 rfl W54 1 rfl (Nat.le_of_ble_eq_true rfl)
    have hk := (by rw [W54.size]; exact hk : _ ≤ Array.size h54)
    have V_b6 := V_b6.other W54 ne_b6_b50
    have A47 := A47.wr W54
    have F_v_a_c48 := F_v_a_c48.other W54 (Or.inl ne_b47_b50)
    have F_c_a_c48 := F_c_a_c48.other W54 (Or.inl ne_b47_b50)
    have V_t_c48 := V_t_c48.other W54 ne_t1_48_b50
    have E_t_c48 := E_t_c48.wr W54
    have V_b49 := V_b49.other W54 ne_b49_b50
    have O := O.wr W54 g_b50
    have N54 := Fr.snoc X54 N52 g_b50
    have w55 : ∀ t, Steps p.tables e below (T54.setTop (mkF m 182 (own_F29 i1 i2 i3 i4 (2 : Int32) xa xb xc b6 b10 b11 b13 b16 b47 b49 b50) [])) t → Steps p.tables e below (s₁.setTop (entryFrame m #[.int i1, .int i2, .int i3, .int i4] maxLocals)) t := fun t k => by
      refine w46 t ?_
      refine ziL X19 Hb at_93 rfl <| ziy X19 Hb at_95 ((if0 _ _).trans (feq ((by decide) : ¬ ((2 : Int32) = (0 : Int32)))).2) 112 (by decide) rfl <| ziL X19 Hb at_112 rfl <| zic X19 Hb at_114 1 rfl <| zcy X19 Hb at_115 (feq ((by decide) : ¬ ((2 : Int32) = (1 : Int32)))).2 132 (by decide) rfl <| ziL X19 Hb at_132 rfl <| zic X19 Hb at_134 2 rfl <| zcn X19 Hb at_135 (teq (rfl : (2 : Int32) = (2 : Int32))).2 ?_
      refine st47 _ <| zdu X47 Hb at_141 rfl <| zaL X47 Hb at_142 rfl rfl <| st48 _ <| zaS X48 Hb (L' := (own_F41 i1 i2 i3 i4 (2 : Int32) xa xb xc b6 b10 b11 b13 b16 b47)) at_147 rfl rfl <| zgo X48 Hb at_149 163 (by decide) rfl <| zbp X48 Hb at_163 12 rfl <| st49 _ ?_
      refine zaS X49 Hb (L' := (own_F42 i1 i2 i3 i4 (2 : Int32) xa xb xc b6 b10 b11 b13 b16 b47 b49)) at_167 rfl rfl <| zic X49 Hb at_169 2 rfl <| st50 _ <| zdu X50 Hb at_172 rfl <| zic X50 Hb at_173 0 rfl <| zic X50 Hb at_174 0 rfl <| st52 _ <| zdu X52 Hb at_176 rfl ?_
      refine zic X52 Hb at_177 1 rfl <| zic X52 Hb at_178 0 rfl <| st54 _ <| zaS X54 Hb (L' := (own_F29 i1 i2 i3 i4 (2 : Int32) xa xb xc b6 b10 b11 b13 b16 b47 b49 b50)) at_180 rfl rfl ?_
      exact k
    obtain ⟨T56, L56, pqx, zx, X56, N56, K56, w56⟩ := tail0 hw i1 i2 i3 i4 (2 : Int32) xa xb xc b6 b10 b11 b13 b16 b47 b49 b50 t1_48 k6 k49 k50 kb_48 cd_48 NN_48 wv_48 2 X54 hx Hb hZ hown hml ⟨by decide, by decide, by decide, by decide⟩ e54 N54 O SU V_b6 V_b49 V_b50 A47 F_v_a_c48 F_c_a_c48 V_t_c48 E_t_c48 ne_b49_b50 ne_b6_b49 ne_b6_b50 ne_t1_48_b49 ne_t1_48_b50 (by decide) rfl hcd_48 (own_gt hG3 2) g_b49 g_b50 w55
    have R := CHr.keep K56 (allS sf_b49 (allS sf_b50 all0)) C.1
    have sf_b49 := R.safe V_b49.lt sf_b49
    have sf_b50 := R.safe V_b50.lt sf_b50
    have C := C.trans R
    have hk := Nat.le_trans hk K56.1
    have O := O.keep K56 (allS g_b49 (allS g_b50 all0))
    have w57 : ∀ t, Steps p.tables e below (T56.setTop (mkF m 363 (own_F31 i1 i2 i3 i4 (2 : Int32) xa xb xc b6 b10 b11 b13 b16 b47 b49 b50 pqx zx) [.int 1])) t → Steps p.tables e below (s₁.setTop (entryFrame m #[.int i1, .int i2, .int i3, .int i4] maxLocals)) t := fun t k => by
      refine w56 t ?_
      refine zic X56 Hb at_358 1 rfl <| zgo X56 Hb at_359 363 (by decide) rfl ?_
      exact k
    obtain ⟨fs, hr, hrun, hended, hE⟩ := Stand.leaveW (s := s) (vm₁ := s.vm) X56 hS (by exact hk) (v := some (.int 1)) (fun h => by rw [Bd.returns] at h; cases h)
    refine ⟨_, _, w57 _ ?_, hrun, hended, _, _, rfl, ?_, ?_, own_mono hE (by decide) (by decide)⟩
    · exact retN X56 hx (t := .boolean) Bd.returns (by simp) (hb hby at_363) hr
    · show Q0 Z i1 i2 i3 i4 zc fm fn u8  h0 n0 _ T56.heap _
      exact ⟨rfl, N56⟩
    · rw [hh]; show CHr Z consts_1 s.vm h0 T56.vm T56.heap; exact C.trans (CHv.at X56 hZ hEL C.1)
  · have w58 : ∀ t, Steps p.tables e below (T19.setTop (mkF m 93 (own_F40 i1 i2 i3 i4 (3 : Int32) xa xb xc b6 b10 b11 b13 b16) [])) t → Steps p.tables e below (s₁.setTop (entryFrame m #[.int i1, .int i2, .int i3, .int i4] maxLocals)) t := by
      have q := w20
      simp only [hk21] at q
      exact q
    obtain ⟨T59, h59, X59, e59, E59, A59, D59, -, st59⟩ := newO X19 hx hZ hown (W 6 rfl) (W 7 rfl) (W 8 rfl) e19 (g := (mkF m 152 (own_F40 i1 i2 i3 i4 (3 : Int32) xa xb xc b6 b10 b11 b13 b16) [])) rfl (hb hby at_152) (by decide) (by decide)
    obtain ⟨b59, gq59⟩ : ∃ z, z = Array.size h19 := ⟨_, rfl⟩
    rw [← gq59] at A59 D59 st59
    have ne_b6_b59 : b6 ≠ b59 := Nat.ne_of_lt (Nat.lt_of_lt_of_le V_b6.lt (Nat.le_of_eq gq59.symm))
    have ne_b16_b59 : b16 ≠ b59 := Nat.ne_of_lt (Nat.lt_of_lt_of_le V_b16.lt (Nat.le_of_eq gq59.symm))
    have g_b59 : n0 ≤ b59 := Nat.le_trans (O.1 ▸ O.2.1) (Nat.le_of_eq gq59.symm)
    have sf_b59 := own_safeN C.1 E59 (Nat.le_of_eq gq59.symm)
    have R := CHr.ext E59 C.1
    have C := C.trans R
    have hk := Nat.le_trans hk E59.1
    have V_b6 := V_b6.ext E59
    have V_b16 := V_b16.ext E59
    have O := O.ext E59
    have F_coder_b59 : Fld Z h59 b59 "java/lang/String" "coder" "B" (.int 0) := D59 (Or.inr (W 32 rfl)) (ty := .byte) (by decide)
    have F_value_b59 : Fld Z h59 b59 "java/lang/String" "value" "[B" .null := D59 (Or.inr (W 34 rfl)) (ty := (.array .byte)) (by decide)
    obtain ⟨_, T60, Lc60, X60, hQ60, st60⟩ := own_cI X59 Hb hZ hown hml (L := (own_F40 i1 i2 i3 i4 (3 : Int32) xa xb xc b6 b10 b11 b13 b16)) rfl (rm2_g hw b59 b16 k16 [xa, xb, xc] O SU A59 F_value_b59 F_coder_b59 V_b16 (by simp) (by simp) (own_gt hG3 3) g_b59) (W 9 rfl) (W 10 rfl) (W 8 rfl) (W 11 rfl) pd48 e59 at_158 b59 [.ref b16] [.ref b59] 1
    obtain ⟨t1_60, kb_60, cd_60, NN_60, wv_60, rfl, N60q, K60, F_v_a_c60, F_c_a_c60, V_t_c60, E_t_c60, hcd_60⟩ := hQ60
    have N60 := Fr.app N19 N60q
    have R := CHr.keep K60 (allS sf_b59 all0) C.1
    have sf_b59 := R.safe A59.lt sf_b59
    have C := C.trans R
    have hk := Nat.le_trans hk K60.1
    have V_b6 := V_b6.keep K60 (ninS ne_b6_b59 nin0)
    have V_b16 := V_b16.keep K60 (ninS ne_b16_b59 nin0)
    have A59 := A59.keep K60
    have O := O.keep K60 (allS g_b59 all0)
    obtain ⟨T61, h61, k61, X61, e61, E61, A61, st61⟩ := newP X60 hx hZ (W 24 rfl) rfl (g := (mkF m 165 (own_F41 i1 i2 i3 i4 (3 : Int32) xa xb xc b6 b10 b11 b13 b16 b59) [.int 12])) rfl (hb hby at_165) rfl (by decide) (cap := 12) (by decide) (by decide) (by decide) (by decide)
    obtain ⟨b61, gq61⟩ : ∃ z, z = Array.size T60.heap := ⟨_, rfl⟩
    rw [← gq61] at A61 st61
    have ne_b6_b61 : b6 ≠ b61 := Nat.ne_of_lt (Nat.lt_of_lt_of_le V_b6.lt (Nat.le_of_eq gq61.symm))
    have ne_b59_b61 : b59 ≠ b61 := Nat.ne_of_lt (Nat.lt_of_lt_of_le A59.lt (Nat.le_of_eq gq61.symm))
    have ne_t1_60_b61 : t1_60 ≠ b61 := Nat.ne_of_lt (Nat.lt_of_lt_of_le V_t_c60.lt (Nat.le_of_eq gq61.symm))
    have g_b61 : n0 ≤ b61 := Nat.le_trans (O.1 ▸ O.2.1) (Nat.le_of_eq gq61.symm)
    have sf_b61 := own_safeN C.1 E61 (Nat.le_of_eq gq61.symm)
    have R := CHr.ext E61 C.1
    have C := C.trans R
    have hk := Nat.le_trans hk E61.1
    have V_b6 := V_b6.ext E61
    have A59 := A59.ext E61
    have F_v_a_c60 := F_v_a_c60.ext E61
    have F_c_a_c60 := F_c_a_c60.ext E61
    have V_t_c60 := V_t_c60.ext E61
    have E_t_c60 := E_t_c60.ext E61
    have O := O.ext E61
    have V_b61 : Arv Z h61 b61 k61 .byte (12 : Int32) [.int 0, .int 0, .int 0, .int 0, .int 0, .int 0, .int 0, .int 0, .int 0, .int 0, .int 0, .int 0] (.int 0) := (Arv.new A61 (by decide)).pad (pad_rep [] (.int 0) 12)
    obtain ⟨T62, h62, k62, X62, e62, E62, A62, st62⟩ := newP X61 hx hZ (W 35 rfl) e61 (g := (mkF m 170 (own_F42 i1 i2 i3 i4 (3 : Int32) xa xb xc b6 b10 b11 b13 b16 b59 b61) [.int 2])) rfl (hb hby at_170) rfl (by decide) (cap := 2) (by decide) (by decide) (by decide) (by decide)
    obtain ⟨b62, gq62⟩ : ∃ z, z = Array.size h61 := ⟨_, rfl⟩
    rw [← gq62] at A62 st62
    have ne_b6_b62 : b6 ≠ b62 := Nat.ne_of_lt (Nat.lt_of_lt_of_le V_b6.lt (Nat.le_of_eq gq62.symm))
    have ne_b59_b62 : b59 ≠ b62 := Nat.ne_of_lt (Nat.lt_of_lt_of_le A59.lt (Nat.le_of_eq gq62.symm))
    have ne_t1_60_b62 : t1_60 ≠ b62 := Nat.ne_of_lt (Nat.lt_of_lt_of_le V_t_c60.lt (Nat.le_of_eq gq62.symm))
    have ne_b61_b62 : b61 ≠ b62 := Nat.ne_of_lt (Nat.lt_of_lt_of_le V_b61.lt (Nat.le_of_eq gq62.symm))
    have g_b62 : n0 ≤ b62 := Nat.le_trans (O.1 ▸ O.2.1) (Nat.le_of_eq gq62.symm)
    have sf_b62 := own_safeN C.1 E62 (Nat.le_of_eq gq62.symm)
    have R := CHr.ext E62 C.1
    have sf_b61 := R.safe V_b61.lt sf_b61
    have C := C.trans R
    have hk := Nat.le_trans hk E62.1
    have V_b6 := V_b6.ext E62
    have A59 := A59.ext E62
    have F_v_a_c60 := F_v_a_c60.ext E62
    have F_c_a_c60 := F_c_a_c60.ext E62
    have V_t_c60 := V_t_c60.ext E62
    have E_t_c60 := E_t_c60.ext E62
    have V_b61 := V_b61.ext E62
    have O := O.ext E62
    have V_b62 : Arv Z h62 b62 k62 .int (2 : Int32) [.int 0, .int 0] (.int 0) := (Arv.new A62 (by decide)).pad (pad_rep [] (.int 0) 2)
    obtain ⟨cl63, Ar63, q63, Z63, N63, H63, G63⟩ := id V_b62
    have hin63 : ¬ ((0 : Int32) < 0 ∨ cl63.slots.size ≤ ((0 : Int32)).toNatClampNeg) := inb_of Z63 ⟨by decide, by decide⟩
    obtain ⟨T64, h64, X64, e64, W64, st64⟩ := stI X62 hx hZ e62 Ar63 (j := (0 : Int32)) hin63 (g := (mkF m 175 (own_F42 i1 i2 i3 i4 (3 : Int32) xa xb xc b6 b10 b11 b13 b16 b59 b61) [.int 0, .int 0, .ref b62, .ref b62])) rfl rfl (hb hby at_175)
    have R := CHr.wr W64 sf_b62 C.1
    have sf_b61 := R.safe V_b61.lt sf_b61
    have sf_b62 := R.safe V_b62.lt sf_b62
    have C := C.trans R
    have V_b62 : Arv Z h64 b62 k62 .int (2 : Int32) [.int 0, .int 0] (.int 0) := Arv.set Ar63 q63 Z63 N63 H63 G63 rfl W64 0 rfl (Nat.le_of_ble_eq_true rfl)
    have hk := (by rw [W64.size]; exact hk : _ ≤ Array.size h64)
    have V_b6 := V_b6.other W64 ne_b6_b62
    have A59 := A59.wr W64
    have F_v_a_c60 := F_v_a_c60.other W64 (Or.inl ne_b59_b62)
    have F_c_a_c60 := F_c_a_c60.other W64 (Or.inl ne_b59_b62)
    have V_t_c60 := V_t_c60.other W64 ne_t1_60_b62
    have E_t_c60 := E_t_c60.wr W64
    have V_b61 := V_b61.other W64 ne_b61_b62
    have O := O.wr W64 g_b62
    have N64 := Fr.snoc X64 N60 g_b62
    obtain ⟨cl65, Ar65, q65, Z65, N65, H65, G65⟩ := id V_b62
    have hin65 : ¬ ((1 : Int32) < 0 ∨ cl65.slots.size ≤ ((1 : Int32)).toNatClampNeg) := inb_of Z65 ⟨by decide, by decide⟩
    obtain ⟨T66, h66, X66, e66, W66, st66⟩ := stI X64 hx hZ e64 Ar65 (j := (1 : Int32)) hin65 (g := (mkF m 179 (own_F42 i1 i2 i3 i4 (3 : Int32) xa xb xc b6 b10 b11 b13 b16 b59 b61) [.int 0, .int 1, .ref b62, .ref b62])) rfl rfl (hb hby at_179)
    have R := CHr.wr W66 sf_b62 C.1
    have sf_b61 := R.safe V_b61.lt sf_b61
    have sf_b62 := R.safe V_b62.lt sf_b62
    have C := C.trans R
    have V_b62 : Arv Z h66 b62 k62 .int (2 : Int32) [.int 0, .int 0] (.int 0) := Arv.set Ar65 q65 Z65 N65 H65 G65 rfl W66 1 rfl (Nat.le_of_ble_eq_true rfl)
    have hk := (by rw [W66.size]; exact hk : _ ≤ Array.size h66)
    have V_b6 := V_b6.other W66 ne_b6_b62
    have A59 := A59.wr W66
    have F_v_a_c60 := F_v_a_c60.other W66 (Or.inl ne_b59_b62)
    have F_c_a_c60 := F_c_a_c60.other W66 (Or.inl ne_b59_b62)
    have V_t_c60 := V_t_c60.other W66 ne_t1_60_b62
    have E_t_c60 := E_t_c60.wr W66
    have V_b61 := V_b61.other W66 ne_b61_b62
    have O := O.wr W66 g_b62
    have N66 := Fr.snoc X66 N64 g_b62
    have w67 : ∀ t, Steps p.tables e below (T66.setTop (mkF m 182 (own_F29 i1 i2 i3 i4 (3 : Int32) xa xb xc b6 b10 b11 b13 b16 b59 b61 b62) [])) t → Steps p.tables e below (s₁.setTop (entryFrame m #[.int i1, .int i2, .int i3, .int i4] maxLocals)) t := fun t k => by
      refine w58 t ?_
      refine ziL X19 Hb at_93 rfl <| ziy X19 Hb at_95 ((if0 _ _).trans (feq ((by decide) : ¬ ((3 : Int32) = (0 : Int32)))).2) 112 (by decide) rfl <| ziL X19 Hb at_112 rfl <| zic X19 Hb at_114 1 rfl <| zcy X19 Hb at_115 (feq ((by decide) : ¬ ((3 : Int32) = (1 : Int32)))).2 132 (by decide) rfl <| ziL X19 Hb at_132 rfl <| zic X19 Hb at_134 2 rfl <| zcy X19 Hb at_135 (feq ((by decide) : ¬ ((3 : Int32) = (2 : Int32)))).2 152 (by decide) rfl ?_
      refine st59 _ <| zdu X59 Hb at_155 rfl <| zaL X59 Hb at_156 rfl rfl <| st60 _ <| zaS X60 Hb (L' := (own_F41 i1 i2 i3 i4 (3 : Int32) xa xb xc b6 b10 b11 b13 b16 b59)) at_161 rfl rfl <| zbp X60 Hb at_163 12 rfl <| st61 _ <| zaS X61 Hb (L' := (own_F42 i1 i2 i3 i4 (3 : Int32) xa xb xc b6 b10 b11 b13 b16 b59 b61)) at_167 rfl rfl ?_
      refine zic X61 Hb at_169 2 rfl <| st62 _ <| zdu X62 Hb at_172 rfl <| zic X62 Hb at_173 0 rfl <| zic X62 Hb at_174 0 rfl <| st64 _ <| zdu X64 Hb at_176 rfl <| zic X64 Hb at_177 1 rfl ?_
      refine zic X64 Hb at_178 0 rfl <| st66 _ <| zaS X66 Hb (L' := (own_F29 i1 i2 i3 i4 (3 : Int32) xa xb xc b6 b10 b11 b13 b16 b59 b61 b62)) at_180 rfl rfl ?_
      exact k
    obtain ⟨T68, L68, pqx, zx, X68, N68, K68, w68⟩ := tail0 hw i1 i2 i3 i4 (3 : Int32) xa xb xc b6 b10 b11 b13 b16 b59 b61 b62 t1_60 k6 k61 k62 kb_60 cd_60 NN_60 wv_60 3 X66 hx Hb hZ hown hml ⟨by decide, by decide, by decide, by decide⟩ e66 N66 O SU V_b6 V_b61 V_b62 A59 F_v_a_c60 F_c_a_c60 V_t_c60 E_t_c60 ne_b61_b62 ne_b6_b61 ne_b6_b62 ne_t1_60_b61 ne_t1_60_b62 (by decide) rfl hcd_60 (own_gt hG3 3) g_b61 g_b62 w67
    have R := CHr.keep K68 (allS sf_b61 (allS sf_b62 all0)) C.1
    have sf_b61 := R.safe V_b61.lt sf_b61
    have sf_b62 := R.safe V_b62.lt sf_b62
    have C := C.trans R
    have hk := Nat.le_trans hk K68.1
    have O := O.keep K68 (allS g_b61 (allS g_b62 all0))
    have w69 : ∀ t, Steps p.tables e below (T68.setTop (mkF m 363 (own_F31 i1 i2 i3 i4 (3 : Int32) xa xb xc b6 b10 b11 b13 b16 b59 b61 b62 pqx zx) [.int 1])) t → Steps p.tables e below (s₁.setTop (entryFrame m #[.int i1, .int i2, .int i3, .int i4] maxLocals)) t := fun t k => by
      refine w68 t ?_
      refine zic X68 Hb at_358 1 rfl <| zgo X68 Hb at_359 363 (by decide) rfl ?_
      exact k
    obtain ⟨fs, hr, hrun, hended, hE⟩ := Stand.leaveW (s := s) (vm₁ := s.vm) X68 hS (by exact hk) (v := some (.int 1)) (fun h => by rw [Bd.returns] at h; cases h)
    refine ⟨_, _, w69 _ ?_, hrun, hended, _, _, rfl, ?_, ?_, own_mono hE (by decide) (by decide)⟩
    · exact retN X68 hx (t := .boolean) Bd.returns (by simp) (hb hby at_363) hr
    · show Q0 Z i1 i2 i3 i4 zc fm fn u8  h0 n0 _ T68.heap _
      exact ⟨rfl, N68⟩
    · rw [hh]; show CHr Z consts_1 s.vm h0 T68.vm T68.heap; exact C.trans (CHv.at X68 hZ hEL C.1)
theorem isRef_v {args : Array Value} {s : State} {t : Term} (h : (Jvm.Cond.isRef t).value args s none s [] = some true) : ∃ v, t.eval args s none [] s = some v ∧ v.isRef = true := by
  simp only [Cond.value] at h
  cases e : t.eval args s none [] s with
  | none => simp [e] at h
  | some v => exact ⟨v, rfl, by cases v <;> simp_all [Value.isRef]⟩
theorem own_eqt {args : Array Value} {s : State} {t r : Term} {a : Addr} (ht : t.eval args s none [] s = some (.ref a)) (h : (Jvm.Cond.eq t r).value args s none s [] = some true) : r.eval args s none [] s = some (.ref a) := by
  obtain ⟨x, y, h1, h2, hk, -⟩ := cmp_v (Or.inl h)
  cases ht.symm.trans h1
  rw [h2]
  simp only [Cond.value, h2, ht] at h
  cases y <;> simp_all [Kin, Value.isRef]
theorem own_sta {s : State} {a0 : Array Value} {C n d K : String} (hF : Fit s) (w1 : (Jvm.Cond.initialized C).before a0 s = true) (w2 : (Jvm.Cond.laysStatic C n d).before a0 s = true) (hd : parseFieldDescriptor d = some (.object K)) : ∃ v, Sta s s.heap C n d v ∧ v.isRef = true := by
  obtain ⟨c, k, i, f, a, cell, h1, h2, hB3, h4, h5, h6, h7, h8, h9⟩ := Cond.laysStatic_spec w2
  have hk : s.vm.classes[c]? = some k := (State.fieldFound?_spec h2).1
  have hi := Cond.initialized_spec h1 hk w1
  have ht := (State.fieldFound?_type h2 hd).2
  have q := hF h5 h8
  obtain ⟨v, hv⟩ : ∃ v, v = cell.slots[f.slot] := ⟨_, rfl⟩
  have hg : cell.slots[f.slot]? = some v := by rw [hv]; exact Array.getElem?_eq_getElem h8
  rw [← hv] at q
  have hT : s.slotType? cell.cls cell.vm f.slot = some (.object K) := by
    cases hvm : cell.vm with
    | statics x => simp [State.slotType?, h7, hk, h9, ht]
    | _ => rw [hvm] at h6; simp [VmData.isStatics] at h6
  simp only [State.fitsSlot, hT] at q
  refine ⟨v, ⟨c, i, k, f, a, cell, h2, hB3, hi, h4, h5, h6, hg⟩, ?_⟩
  cases v <;> simp [fits, Value.isRef] at q ⊢
set_option maxRecDepth 65536 in
set_option maxHeartbeats 40000000 in
theorem comes_1 {Post : Tables → Env → Array Value → State → Outcome → State → Prop} (hpost : ∀ tb e args s v u, (limb_1_1.after args s (.returned v) u = true ∧ limb_1_2.after args s (.returned v) u = true ∧ True) → ReturnedEndW s (.returned v) u (Jvm.fieldLocs frame_1_writes args s ++ Jvm.arrayLocs frame_1_arrays args s ++ Jvm.staticLocs frame_1_statics s) 48 1280 → Post tb e args s (.returned v) u) :
    ArmFor flags0 classFile x code maxLocals ret World_1 tables_1 room_1 Calls_1 rest_1 Pre_1 Post := by
  intro l hfl _ _ p e ha hc hk s m args below hf hA hF happ hP
  obtain ⟨hcalls, hrest, hpre⟩ := hP
  obtain ⟨-, -, -, hnamed, -, -, -, hat⟩ := (Spec.applies_iff hf).mp happ
  obtain ⟨hg, hn⟩ := and_e (Cond.before_iff.mp (show (Jvm.Cond.and given_1 narrow_1).before args s = true from hpre))
  obtain ⟨g1, g2⟩ := and_e hg
  obtain ⟨g3, g4⟩ := and_e g2
  obtain ⟨g5, g6⟩ := and_e g4
  obtain ⟨g7, g8⟩ := and_e g6
  obtain ⟨w0, w1, w2, w3, rfl⟩ : ∃ w0 w1 w2 w3 : Value, args = #[w0, w1, w2, w3] := by
    have hs : args.size = 4 := by simpa [Cond.value, given_1] using g1
    obtain ⟨L⟩ := args
    match L, hs with
    | [w0, w1, w2, w3], _ => exact ⟨w0, w1, w2, w3, rfl⟩
  have hw := fun d (hd : d ∈ tables_1) => atoms_spec (ws := Jvm.Cond.code x code maxLocals ret :: tables_1) hat d (List.mem_cons_of_mem _ hd)
  have hfit : Fit s := fun {y c} hc i hi => by
    obtain ⟨ha, rfl⟩ := Array.getElem?_eq_some_iff.mp hc
    have q := List.all_eq_true.mp ((Array.all_eq_true_iff_forall_mem.mp hF) _ (Array.getElem_mem ha)) i (List.mem_range.mpr hi)
    simpa [Array.getElem?_eq_getElem hi] using q
  obtain ⟨hsets, hown0⟩ := atoms_of _ (rest_1_c_eq ▸ (show rest_1_c.before _ s = true from hrest))
  have hr0 := Cond.before_iff.mp hown0
  obtain ⟨i0, ei0⟩ := is_v g3
  obtain rfl : w0 = (.int i0) := Option.some.inj ei0
  obtain ⟨i1, ei1⟩ := is_v g5
  obtain rfl : w1 = (.int i1) := Option.some.inj ei1
  obtain ⟨i2, ei2⟩ := is_v g7
  obtain rfl : w2 = (.int i2) := Option.some.inj ei2
  obtain ⟨i3, ei3⟩ := is_v g8
  obtain rfl : w3 = (.int i3) := Option.some.inj ei3
  obtain ⟨zc, evc⟩ := is_v (Cond.before_iff.mp (hsets _ (List.mem_of_getElem? (i := 1) rfl)))
  have hzc : ¬ zc = 0 := gotF (Cond.eq_ints evc (Term.int_eval 0)) (not_v (Cond.before_iff.mp (hsets _ (List.mem_of_getElem? (i := 2) rfl))))
  obtain ⟨u8, ev8⟩ := exa_v (Cond.before_iff.mp (hsets _ (List.mem_of_getElem? (i := 14) rfl)))
  obtain ⟨fm, evf, rfm⟩ := isRef_v (Cond.before_iff.mp (hsets _ (List.mem_of_getElem? (i := 8) rfl)))
  obtain ⟨fn, Sfn, rfn⟩ := own_sta (K := "java/util/function/BiFunction") hfit (hw _ (List.mem_of_getElem? (i := 93) rfl)) (hw _ (List.mem_of_getElem? (i := 224) rfl)) (by decide)
  have SU : own_SU s zc fm fn u8 := ⟨Sta.start (eqv_i (Term.int_eval 1) (Cond.before_iff.mp (hsets _ (List.mem_of_getElem? (i := 21) rfl)))) (Or.inl (hsets _ (List.mem_of_getElem? (i := 20) rfl))), Sta.start (eqv_i (Term.int_eval 0) (Cond.before_iff.mp (hsets _ (List.mem_of_getElem? (i := 24) rfl)))) (Or.inl (hsets _ (List.mem_of_getElem? (i := 23) rfl))), Sta.start (eqv_i (Term.int_eval 8) (Cond.before_iff.mp (hsets _ (List.mem_of_getElem? (i := 27) rfl)))) (Or.inl (hsets _ (List.mem_of_getElem? (i := 26) rfl))), Sta.start evc (Or.inl (hsets _ (List.mem_of_getElem? (i := 0) rfl))), Sta.start evf (Or.inl (hsets _ (List.mem_of_getElem? (i := 7) rfl))), Sta.start ev8 (Or.inl (hsets _ (List.mem_of_getElem? (i := 10) rfl))), Sta.start (own_eqt ev8 (Cond.before_iff.mp (hsets _ (List.mem_of_getElem? (i := 13) rfl)))) (Or.inl (hsets _ (List.mem_of_getElem? (i := 12) rfl))), Sfn, hzc, rfm, rfn⟩
  have H0 : CHv s consts_1 s.vm s.heap := CHv.start (own_EW hw) hcalls.1 (hsets _ (List.mem_of_getElem? (i := 2) rfl)) (hw _ (List.mem_of_getElem? (i := 24) rfl)) (hw _ (List.mem_of_getElem? (i := 7) rfl))
  obtain ⟨n, o, h1, h2, h3, _, L, rfl, ⟨rfl, N⟩, -, hq⟩ := rm0 l s _ hw tables_1 i0 i1 i2 i3 zc fm fn u8 s.heap s.heap.size (Old.start s) SU p e ha hc hk s m _ below hf ((Spec.applies_iff_loose hf).mp happ).1 ⟨rfl, State.Warmed39.refl s, rfl, H0⟩ trivial
  refine ⟨n, _, h1, h2, h3, hpost _ _ _ _ _ _ ⟨Cond.after_iff.mpr rfl, Cond.after_iff.mpr (eq_i res_at (Term.int_eval (1)) rfl), trivial⟩ ⟨hq.1, hq.2.1, hq.2.2.1, (hq.2.2.2.sift fun y hy => Or.inr (N y hy)).mono (by decide) (by decide)⟩⟩
theorem main_1_1 : Claimed_1_1 := comes_1 fun _ _ _ _ _ _ h hF => ⟨h.1, hF⟩
theorem main_1_2 : Claimed_1_2 := comes_1 fun _ _ _ _ _ _ h hF => ⟨h.2.1, hF⟩
end Jvm.Pilot.@@N@@
namespace Jvm.Pilot.@@N@@
open Jvm Jvm.ClassFile Sem Op Lib Jvm.Free Jvm.Stand Jvm.Pilot.@@N@@.Jvm.D
/-! MADE BY PROGRAM (witnessworld.py) out of the Statement's table words and the real class files: 33 classes; the members and pool entries that the words name. The judged class is class 1, her method 7. -/
namespace start1
open Jvm.ClassFile
def u (s : String) : CpInfo := .utf8 (stringToUtf16 s)
/-- a pool by its gaps: so many unusable entries, then the entry; so many at the end -/
def gap : Nat → List CpInfo → List CpInfo
  | 0, r => r
  | n + 1, r => .unusable :: gap n r
def poolList (es : List (Nat × CpInfo)) (last : Nat) : List CpInfo := es.foldr (fun e r => gap e.1 (e.2 :: r)) (gap last [])
def pool (es : List (Nat × CpInfo)) (last : Nat) : Array CpInfo := ⟨poolList es last⟩
def fileOf (pool : Array CpInfo) (this : Nat) (attrs : Array Attribute := #[]) (ms : Array MethodInfo := #[]) (fl : Nat := 33) (sup : Nat := 0) (ifs : Array Nat := #[]) (fds : Array FieldInfo := #[]) : ClassFile where
  minorVersion := 0
  majorVersion := 65
  constantPool := pool
  accessFlags := fl
  thisClass := this
  superClass := sup
  interfaces := ifs
  fields := fds
  methods := ms
  attributes := attrs
def plain (name : String) (sup : Option ClassId) : Class where
  name := name
  kind := .ordinary
  loader := none
  accessFlags := 33
  super := sup
  interfaces := #[]
  cf := none
  fields := #[]
  methods := #[]
  instanceTypes := #[]
  staticTypes := #[]
  resolved := #[]
  callSites := []
  init := .initialized
  statics := none
  mirror := none

def pool0 : Array CpInfo := pool [(5, u "<init>"), (0, u "()V"), (1, .class_ 10), (1, u "java/lang/Object"), (85, u "clone"), (0, u "()Ljava/lang/Object;")] 26

def k0c0 : Code := { maxStack := 0, maxLocals := 1, code := object_method_1_code, exceptionTable := #[], attributes := #[] }
def k0m0 : Method := { name := "<init>", desc := "()V", sig := { parameters := [], returnType := none }, accessFlags := 1, code := some k0c0 }
def k0m1 : Method := { name := "clone", desc := "()Ljava/lang/Object;", sig := { parameters := [], returnType := some (.object "java/lang/Object") }, accessFlags := 260, code := none }
/-- java/lang/Object -/
def k0 : Class := { plain "java/lang/Object" none with
  accessFlags := 33
  interfaces := #[]
  cf := some (fileOf pool0 8 #[] #[{ accessFlags := 1, nameIndex := 5, descriptorIndex := 6, attributes := #[] }, { accessFlags := 260, nameIndex := 96, descriptorIndex := 97, attributes := #[] }] 33 0 #[] #[])
  fields := #[]
  methods := #[k0m0, k0m1]
  instanceTypes := #[]
  staticTypes := #[]
  resolved := Array.replicate 124 none
  statics := none }

def pool1 : Array CpInfo := pool [(2, .class_ 4), (1, u "java/lang/Object"), (0, u "<init>"), (0, u "()V"), (0, .integer 55296), (0, .integer 65535), (0, .integer 56319), (0, .integer 56320), (0, .integer 57343), (0, .methodref 13 14), (0, .class_ 15), (0, .nameAndType 16 17), (0, u "com/example/gradual_reply/gradualreply/Utf8EncodePinLaw"), (0, u "isHigh"), (0, u "(C)Z"), (0, .methodref 13 19), (0, .nameAndType 20 17), (0, u "isLow"), (0, .integer 65536), (0, .methodref 13 23), (0, .nameAndType 24 25), (0, u "put"), (0, u "([B[II)V"), (0, .integer 65533), (0, .methodref 13 28), (0, .nameAndType 29 30), (0, u "draw"), (0, u "(I)C"), (0, .class_ 32), (0, u "java/lang/String"), (0, .methodref 31 34), (0, .nameAndType 5 35), (0, u "([C)V"), (0, .methodref 13 37), (0, .nameAndType 38 39), (0, u "step"), (0, u "([CI[B[I)V"), (0, .methodref 41 42), (0, .class_ 43), (0, .nameAndType 44 45), (0, u "com/example/gradual_reply/gradualreply/Utf8"), (0, u "encode"), (0, u "(Ljava/lang/CharSequence;)[B"), (0, .methodref 13 47), (0, .nameAndType 48 49), (0, u "eqAt"), (0, u "([B[BII)Z"), (3, u "law"), (0, u "(IIII)Z")] 8

def k1m0 : Method := { name := "<init>", desc := "()V", sig := { parameters := [], returnType := none }, accessFlags := 2, code := none }
def k1c1 : Code := { maxStack := 3, maxLocals := 1, code := method_2_code, exceptionTable := #[], attributes := #[] }
def k1m1 : Method := { name := "draw", desc := "(I)C", sig := { parameters := [.int], returnType := some .char }, accessFlags := 10, code := some k1c1 }
def k1c2 : Code := { maxStack := 2, maxLocals := 1, code := method_3_code, exceptionTable := #[], attributes := #[] }
def k1m2 : Method := { name := "isHigh", desc := "(C)Z", sig := { parameters := [.char], returnType := some .boolean }, accessFlags := 10, code := some k1c2 }
def k1c3 : Code := { maxStack := 2, maxLocals := 1, code := method_4_code, exceptionTable := #[], attributes := #[] }
def k1m3 : Method := { name := "isLow", desc := "(C)Z", sig := { parameters := [.char], returnType := some .boolean }, accessFlags := 10, code := some k1c3 }
def k1c4 : Code := { maxStack := 4, maxLocals := 3, code := method_5_code, exceptionTable := #[], attributes := #[] }
def k1m4 : Method := { name := "put", desc := "([B[II)V", sig := { parameters := [(.array .byte), (.array .int), .int], returnType := none }, accessFlags := 10, code := some k1c4 }
def k1c5 : Code := { maxStack := 5, maxLocals := 7, code := method_6_code, exceptionTable := #[], attributes := #[] }
def k1m5 : Method := { name := "step", desc := "([CI[B[I)V", sig := { parameters := [(.array .char), .int, (.array .byte), (.array .int)], returnType := none }, accessFlags := 10, code := some k1c5 }
def k1c6 : Code := { maxStack := 3, maxLocals := 4, code := method_7_code, exceptionTable := #[], attributes := #[] }
def k1m6 : Method := { name := "eqAt", desc := "([B[BII)Z", sig := { parameters := [(.array .byte), (.array .byte), .int, .int], returnType := some .boolean }, accessFlags := 10, code := some k1c6 }
def k1c7 : Code := { maxStack := 4, maxLocals := 18, code := code, exceptionTable := #[], attributes := #[] }
def k1m7 : Method := { name := "law", desc := "(IIII)Z", sig := { parameters := [.int, .int, .int, .int], returnType := some .boolean }, accessFlags := 9, code := some k1c7 }
/-- com/example/gradual_reply/gradualreply/Utf8EncodePinLaw -/
def k1 : Class := { plain "com/example/gradual_reply/gradualreply/Utf8EncodePinLaw" (some 0) with
  accessFlags := 49
  interfaces := #[]
  cf := some (fileOf pool1 13 #[] #[{ accessFlags := 2, nameIndex := 5, descriptorIndex := 6, attributes := #[] }, { accessFlags := 10, nameIndex := 29, descriptorIndex := 30, attributes := #[] }, { accessFlags := 10, nameIndex := 16, descriptorIndex := 17, attributes := #[] }, { accessFlags := 10, nameIndex := 20, descriptorIndex := 17, attributes := #[] }, { accessFlags := 10, nameIndex := 24, descriptorIndex := 25, attributes := #[] }, { accessFlags := 10, nameIndex := 38, descriptorIndex := 39, attributes := #[] }, { accessFlags := 10, nameIndex := 48, descriptorIndex := 49, attributes := #[] }, { accessFlags := 9, nameIndex := 53, descriptorIndex := 54, attributes := #[] }] 49 2 #[] #[])
  fields := #[]
  methods := #[k1m0, k1m1, k1m2, k1m3, k1m4, k1m5, k1m6, k1m7]
  instanceTypes := #[]
  staticTypes := #[]
  resolved := Array.replicate 63 none
  statics := none }

def pool2 : Array CpInfo := pool [(1, .class_ 2), (0, u "java/io/Serializable"), (0, .class_ 4), (0, u "java/lang/Object")] 2

/-- java/io/Serializable -/
def k2 : Class := { plain "java/io/Serializable" (some 0) with
  accessFlags := 1537
  interfaces := #[]
  cf := some (fileOf pool2 1 #[] #[] 1537 3 #[] #[])
  fields := #[]
  methods := #[]
  instanceTypes := #[]
  staticTypes := #[]
  resolved := Array.replicate 7 none
  statics := none }

def pool3 : Array CpInfo := pool [(1, .class_ 2), (0, u "java/lang/Comparable"), (0, .class_ 4), (0, u "java/lang/Object")] 7

/-- java/lang/Comparable -/
def k3 : Class := { plain "java/lang/Comparable" (some 0) with
  accessFlags := 1537
  interfaces := #[]
  cf := some (fileOf pool3 1 #[] #[] 1537 3 #[] #[])
  fields := #[]
  methods := #[]
  instanceTypes := #[]
  staticTypes := #[]
  resolved := Array.replicate 12 none
  statics := none }

def pool4 : Array CpInfo := pool [(2, .class_ 4), (1, u "java/lang/CharSequence"), (0, u "length"), (0, u "()I"), (40, .class_ 48), (0, u "java/lang/CharSequence$1CodePointIterator"), (10, .class_ 60), (0, u "java/lang/CharSequence$1CharIterator"), (5, .class_ 67), (0, u "java/lang/Object"), (10, u "toString"), (0, u "()Ljava/lang/String;")] 51

def k4m0 : Method := { name := "length", desc := "()I", sig := { parameters := [], returnType := some .int }, accessFlags := 1025, code := none }
def k4m1 : Method := { name := "toString", desc := "()Ljava/lang/String;", sig := { parameters := [], returnType := some (.object "java/lang/String") }, accessFlags := 1025, code := none }
/-- java/lang/CharSequence -/
def k4 : Class := { plain "java/lang/CharSequence" (some 0) with
  accessFlags := 1537
  interfaces := #[]
  cf := some (fileOf pool4 2 #[.nestMembers #[47, 59]] #[{ accessFlags := 1025, nameIndex := 5, descriptorIndex := 6, attributes := #[] }, { accessFlags := 1025, nameIndex := 78, descriptorIndex := 79, attributes := #[] }] 1537 66 #[] #[])
  fields := #[]
  methods := #[k4m0, k4m1]
  instanceTypes := #[]
  staticTypes := #[]
  resolved := Array.replicate 131 none
  statics := none }

def pool5 : Array CpInfo := pool [(1, .class_ 2), (0, u "java/lang/constant/Constable"), (0, .class_ 4), (0, u "java/lang/Object")] 6

/-- java/lang/constant/Constable -/
def k5 : Class := { plain "java/lang/constant/Constable" (some 0) with
  accessFlags := 1537
  interfaces := #[]
  cf := some (fileOf pool5 1 #[] #[] 1537 3 #[] #[])
  fields := #[]
  methods := #[]
  instanceTypes := #[]
  staticTypes := #[]
  resolved := Array.replicate 11 none
  statics := none }

def pool6 : Array CpInfo := pool [(1, .class_ 2), (0, u "java/lang/constant/ConstantDesc"), (0, .class_ 4), (0, u "java/lang/Object")] 32

/-- java/lang/constant/ConstantDesc -/
def k6 : Class := { plain "java/lang/constant/ConstantDesc" (some 0) with
  accessFlags := 1537
  interfaces := #[]
  cf := some (fileOf pool6 1 #[] #[] 1537 3 #[] #[])
  fields := #[]
  methods := #[]
  instanceTypes := #[]
  staticTypes := #[]
  resolved := Array.replicate 37 none
  statics := none }

def pool7 : Array CpInfo := pool [(1, .methodref 2 3), (0, .class_ 4), (0, .nameAndType 5 6), (0, u "java/lang/Object"), (0, u "<init>"), (0, u "()V"), (0, .string 8), (0, u ""), (0, .fieldref 10 11), (0, .class_ 12), (0, .nameAndType 13 14), (0, u "java/lang/String"), (0, u "value"), (0, u "[B"), (0, .fieldref 10 16), (0, .nameAndType 17 18), (0, u "coder"), (0, u "B"), (2, u "hash"), (0, u "I"), (2, u "hashIsZero"), (0, u "Z"), (0, .methodref 10 28), (0, .nameAndType 5 29), (0, u "([CIILjava/lang/Void;)V"), (6, u "checkBoundsOffCount"), (0, u "(III)I"), (0, .fieldref 10 39), (0, .nameAndType 40 26), (0, u "COMPACT_STRINGS"), (1, .class_ 44), (1, u "java/lang/StringUTF16"), (0, u "compress"), (1, .methodref 42 48), (0, .nameAndType 49 50), (0, u "coderFromArrayLen"), (0, u "([BI)B"), (3, .methodref 55 56), (0, .class_ 57), (0, .nameAndType 58 59), (0, u "java/util/Arrays"), (0, u "copyOfRange"), (0, u "([BII)[B"), (0, .methodref 42 61), (0, .nameAndType 62 63), (0, u "newBytesFor"), (0, u "(I)[B"), (22, .fieldref 87 88), (0, .class_ 89), (0, .nameAndType 90 91), (0, u "sun/nio/cs/UTF_8"), (0, u "INSTANCE"), (0, u "Lsun/nio/cs/UTF_8;"), (1, .class_ 95), (1, u "java/lang/StringCoding"), (6, .methodref 55 103), (0, .nameAndType 104 105), (0, u "copyOf"), (0, u "([BI)[B"), (1, .class_ 109), (1, u "java/lang/StringLatin1"), (18, .methodref 93 129), (0, .nameAndType 130 131), (0, u "hasNegatives"), (0, u "([BII)Z"), (10, u "()Z"), (34, .methodref 42 178), (0, .nameAndType 45 179), (0, u "([CII)[B"), (72, .methodref 10 253), (0, .nameAndType 254 255), (0, u "encodeUTF8"), (0, u "(B[BZ)[B"), (23, .methodref 280 281), (0, .class_ 14), (0, .nameAndType 282 283), (0, u "clone"), (0, u "()Ljava/lang/Object;"), (33, u "encode"), (16, u "()I"), (0, .methodref 10 336), (0, .nameAndType 17 337), (0, u "()B"), (2, u "()[B"), (19, .methodref 42 361), (0, .nameAndType 362 363), (0, u "getChar"), (0, u "([BI)C"), (0, .methodref 365 366), (0, .class_ 367), (0, .nameAndType 368 369), (0, u "java/lang/Character"), (0, u "isHighSurrogate"), (0, u "(C)Z"), (0, .methodref 365 371), (0, .nameAndType 372 369), (0, u "isLowSurrogate"), (18, u "(II)V"), (12, .methodref 365 405), (0, .nameAndType 406 369), (0, u "isSurrogate"), (20, u "(I)C"), (35, u "toString"), (0, u "()Ljava/lang/String;"), (8, .methodref 10 474), (0, .nameAndType 475 476), (0, u "encodeUTF8_UTF16"), (0, u "([BZ)[B"), (0, .methodref 365 478), (0, .nameAndType 479 480), (0, u "toCodePoint"), (0, u "(CC)I"), (8, .methodref 10 490), (0, .nameAndType 5 491), (0, u "(Ljava/lang/AbstractStringBuilder;Ljava/lang/Void;)V"), (0, .methodref 10 493), (0, .nameAndType 494 142), (0, u "isLatin1"), (0, .methodref 107 496), (0, .nameAndType 497 363), (0, u "charAt"), (0, .methodref 42 496), (2, u "checkIndex"), (4, .nameAndType 507 334), (0, u "length"), (24, u "getBytes"), (2, .methodref 10 536), (0, .nameAndType 317 537), (0, u "(Ljava/nio/charset/Charset;B[B)[B"), (11, .methodref 550 506), (0, .class_ 551), (0, u "java/lang/AbstractStringBuilder"), (0, .methodref 550 553), (0, .nameAndType 554 340), (0, u "getValue"), (20, .class_ 576), (0, u "java/lang/CharSequence"), (22, u "CASE_INSENSITIVE_ORDER"), (0, u "Ljava/util/Comparator;"), (409, u "([C)V"), (36, .methodref 550 493), (0, .fieldref 550 1049), (0, .nameAndType 1050 26), (0, u "maybeLatin1"), (2, .fieldref 1054 1055), (0, .class_ 1056), (0, .nameAndType 1057 1058), (0, u "jdk/internal/util/Preconditions"), (0, u "SIOOBE_FORMATTER"), (0, u "Ljava/util/function/BiFunction;"), (0, .methodref 1054 1060), (0, .nameAndType 501 1061), (0, u "(IILjava/util/function/BiFunction;)I"), (2, u "(IIILjava/util/function/BiFunction;)I"), (0, .methodref 1054 1066), (0, .nameAndType 1067 1064), (0, u "checkFromIndexSize"), (33, u "serialPersistentFields"), (0, u "[Ljava/io/ObjectStreamField;"), (0, .class_ 1104), (0, u "java/lang/String$CaseInsensitiveComparator"), (1, .class_ 1107), (0, u "java/io/Serializable"), (0, .class_ 1109), (0, u "java/lang/Comparable"), (0, .class_ 1111), (0, u "java/lang/constant/Constable"), (0, .class_ 1113), (0, u "java/lang/constant/ConstantDesc"), (2, u "serialVersionUID"), (0, u "J"), (3, u "REPL"), (0, u "C"), (2, u "LATIN1"), (1, u "UTF16"), (105, u "(Ljava/lang/StringBuilder;)V"), (11, u "(Ljava/nio/charset/Charset;)[B")] 205

def k7m0 : Method := { name := "<init>", desc := "()V", sig := { parameters := [], returnType := none }, accessFlags := 1, code := none }
def k7c1 : Code := { maxStack := 5, maxLocals := 2, code := jdk_42_method_3_code, exceptionTable := #[], attributes := #[] }
def k7m1 : Method := { name := "<init>", desc := "([C)V", sig := { parameters := [(.array .char)], returnType := none }, accessFlags := 1, code := some k7c1 }
def k7c2 : Code := { maxStack := 4, maxLocals := 3, code := jdk_42_method_18_code, exceptionTable := #[], attributes := #[] }
def k7m2 : Method := { name := "encode", desc := "(Ljava/nio/charset/Charset;B[B)[B", sig := { parameters := [(.object "java/nio/charset/Charset"), .byte, (.array .byte)], returnType := some (.array .byte) }, accessFlags := 10, code := some k7c2 }
def k7c3 : Code := { maxStack := 5, maxLocals := 9, code := jdk_42_method_46_code, exceptionTable := #[], attributes := #[] }
def k7m3 : Method := { name := "encodeUTF8", desc := "(B[BZ)[B", sig := { parameters := [.byte, (.array .byte), .boolean], returnType := some (.array .byte) }, accessFlags := 10, code := some k7c3 }
def k7c4 : Code := { maxStack := 5, maxLocals := 9, code := jdk_42_method_47_code, exceptionTable := #[], attributes := #[] }
def k7m4 : Method := { name := "encodeUTF8_UTF16", desc := "([BZ)[B", sig := { parameters := [(.array .byte), .boolean], returnType := some (.array .byte) }, accessFlags := 10, code := some k7c4 }
def k7c5 : Code := { maxStack := 3, maxLocals := 2, code := jdk_42_method_53_code, exceptionTable := #[], attributes := #[] }
def k7m5 : Method := { name := "<init>", desc := "(Ljava/lang/StringBuilder;)V", sig := { parameters := [(.object "java/lang/StringBuilder")], returnType := none }, accessFlags := 1, code := some k7c5 }
def k7c6 : Code := { maxStack := 2, maxLocals := 1, code := jdk_42_method_54_code, exceptionTable := #[], attributes := #[] }
def k7m6 : Method := { name := "length", desc := "()I", sig := { parameters := [], returnType := some .int }, accessFlags := 1, code := some k7c6 }
def k7c7 : Code := { maxStack := 2, maxLocals := 2, code := jdk_42_method_56_code, exceptionTable := #[], attributes := #[] }
def k7m7 : Method := { name := "charAt", desc := "(I)C", sig := { parameters := [.int], returnType := some .char }, accessFlags := 1, code := some k7c7 }
def k7c8 : Code := { maxStack := 3, maxLocals := 2, code := jdk_42_method_64_code, exceptionTable := #[], attributes := #[] }
def k7m8 : Method := { name := "getBytes", desc := "(Ljava/nio/charset/Charset;)[B", sig := { parameters := [(.object "java/nio/charset/Charset")], returnType := some (.array .byte) }, accessFlags := 1, code := some k7c8 }
def k7c9 : Code := { maxStack := 1, maxLocals := 1, code := jdk_42_method_126_code, exceptionTable := #[], attributes := #[] }
def k7m9 : Method := { name := "toString", desc := "()Ljava/lang/String;", sig := { parameters := [], returnType := some (.object "java/lang/String") }, accessFlags := 1, code := some k7c9 }
def k7c10 : Code := { maxStack := 4, maxLocals := 6, code := jdk_42_method_149_code, exceptionTable := #[], attributes := #[] }
def k7m10 : Method := { name := "<init>", desc := "([CIILjava/lang/Void;)V", sig := { parameters := [(.array .char), .int, .int, (.object "java/lang/Void")], returnType := none }, accessFlags := 2, code := some k7c10 }
def k7c11 : Code := { maxStack := 5, maxLocals := 5, code := jdk_42_method_150_code, exceptionTable := #[], attributes := #[] }
def k7m11 : Method := { name := "<init>", desc := "(Ljava/lang/AbstractStringBuilder;Ljava/lang/Void;)V", sig := { parameters := [(.object "java/lang/AbstractStringBuilder"), (.object "java/lang/Void")], returnType := none }, accessFlags := 0, code := some k7c11 }
def k7c12 : Code := { maxStack := 1, maxLocals := 1, code := jdk_42_method_152_code, exceptionTable := #[], attributes := #[] }
def k7m12 : Method := { name := "coder", desc := "()B", sig := { parameters := [], returnType := some .byte }, accessFlags := 0, code := some k7c12 }
def k7c13 : Code := { maxStack := 1, maxLocals := 1, code := jdk_42_method_153_code, exceptionTable := #[], attributes := #[] }
def k7m13 : Method := { name := "value", desc := "()[B", sig := { parameters := [], returnType := some (.array .byte) }, accessFlags := 0, code := some k7c13 }
def k7c14 : Code := { maxStack := 1, maxLocals := 1, code := jdk_42_method_154_code, exceptionTable := #[], attributes := #[] }
def k7m14 : Method := { name := "isLatin1", desc := "()Z", sig := { parameters := [], returnType := some .boolean }, accessFlags := 0, code := some k7c14 }
def k7c15 : Code := { maxStack := 3, maxLocals := 2, code := jdk_42_method_155_code, exceptionTable := #[], attributes := #[] }
def k7m15 : Method := { name := "checkIndex", desc := "(II)V", sig := { parameters := [.int, .int], returnType := none }, accessFlags := 8, code := some k7c15 }
def k7c16 : Code := { maxStack := 4, maxLocals := 3, code := jdk_42_method_157_code, exceptionTable := #[], attributes := #[] }
def k7m16 : Method := { name := "checkBoundsOffCount", desc := "(III)I", sig := { parameters := [.int, .int, .int], returnType := some .int }, accessFlags := 8, code := some k7c16 }
/-- java/lang/String -/
def k7 : Class := { plain "java/lang/String" (some 0) with
  accessFlags := 49
  interfaces := #[2, 3, 4, 5, 6]
  cf := some (fileOf pool7 10 #[.nestMembers #[1103]] #[{ accessFlags := 1, nameIndex := 5, descriptorIndex := 6, attributes := #[] }, { accessFlags := 1, nameIndex := 5, descriptorIndex := 1010, attributes := #[] }, { accessFlags := 10, nameIndex := 317, descriptorIndex := 537, attributes := #[] }, { accessFlags := 10, nameIndex := 254, descriptorIndex := 255, attributes := #[] }, { accessFlags := 10, nameIndex := 475, descriptorIndex := 476, attributes := #[] }, { accessFlags := 1, nameIndex := 5, descriptorIndex := 1233, attributes := #[] }, { accessFlags := 1, nameIndex := 507, descriptorIndex := 334, attributes := #[] }, { accessFlags := 1, nameIndex := 497, descriptorIndex := 427, attributes := #[] }, { accessFlags := 1, nameIndex := 532, descriptorIndex := 1245, attributes := #[] }, { accessFlags := 1, nameIndex := 463, descriptorIndex := 464, attributes := #[] }, { accessFlags := 2, nameIndex := 5, descriptorIndex := 29, attributes := #[] }, { accessFlags := 0, nameIndex := 5, descriptorIndex := 491, attributes := #[] }, { accessFlags := 0, nameIndex := 17, descriptorIndex := 337, attributes := #[] }, { accessFlags := 0, nameIndex := 13, descriptorIndex := 340, attributes := #[] }, { accessFlags := 0, nameIndex := 494, descriptorIndex := 142, attributes := #[] }, { accessFlags := 8, nameIndex := 501, descriptorIndex := 391, attributes := #[] }, { accessFlags := 8, nameIndex := 36, descriptorIndex := 37, attributes := #[] }] 49 2 #[1106, 1108, 575, 1110, 1112] #[{ accessFlags := 18, nameIndex := 13, descriptorIndex := 14, attributes := #[] }, { accessFlags := 18, nameIndex := 17, descriptorIndex := 18, attributes := #[] }, { accessFlags := 2, nameIndex := 21, descriptorIndex := 22, attributes := #[] }, { accessFlags := 2, nameIndex := 25, descriptorIndex := 26, attributes := #[] }, { accessFlags := 26, nameIndex := 1116, descriptorIndex := 1117, attributes := #[] }, { accessFlags := 24, nameIndex := 40, descriptorIndex := 26, attributes := #[] }, { accessFlags := 26, nameIndex := 1101, descriptorIndex := 1102, attributes := #[] }, { accessFlags := 26, nameIndex := 1121, descriptorIndex := 1122, attributes := #[] }, { accessFlags := 25, nameIndex := 599, descriptorIndex := 600, attributes := #[] }, { accessFlags := 24, nameIndex := 1125, descriptorIndex := 18, attributes := #[] }, { accessFlags := 24, nameIndex := 1127, descriptorIndex := 18, attributes := #[] }])
  fields := #[{ name := "value", type := (.array .byte), accessFlags := 18, slot := 0, constantValue := 0 }, { name := "coder", type := .byte, accessFlags := 18, slot := 1, constantValue := 0 }, { name := "hash", type := .int, accessFlags := 2, slot := 2, constantValue := 0 }, { name := "hashIsZero", type := .boolean, accessFlags := 2, slot := 3, constantValue := 0 }, { name := "serialVersionUID", type := .long, accessFlags := 26, slot := 0, constantValue := 0 }, { name := "COMPACT_STRINGS", type := .boolean, accessFlags := 24, slot := 1, constantValue := 0 }, { name := "serialPersistentFields", type := (.array (.object "java/io/ObjectStreamField")), accessFlags := 26, slot := 2, constantValue := 0 }, { name := "REPL", type := .char, accessFlags := 26, slot := 3, constantValue := 0 }, { name := "CASE_INSENSITIVE_ORDER", type := (.object "java/util/Comparator"), accessFlags := 25, slot := 4, constantValue := 0 }, { name := "LATIN1", type := .byte, accessFlags := 24, slot := 5, constantValue := 0 }, { name := "UTF16", type := .byte, accessFlags := 24, slot := 6, constantValue := 0 }]
  methods := #[k7m0, k7m1, k7m2, k7m3, k7m4, k7m5, k7m6, k7m7, k7m8, k7m9, k7m10, k7m11, k7m12, k7m13, k7m14, k7m15, k7m16]
  instanceTypes := #[(.array .byte), .byte, .int, .boolean]
  staticTypes := #[.long, .boolean, (.array (.object "java/io/ObjectStreamField")), .char, (.object "java/util/Comparator"), .byte, .byte]
  resolved := Array.replicate 1451 none
  statics := some 0 }

def pool8 : Array CpInfo := pool [(3, .class_ 4), (0, u "java/lang/String"), (1, .class_ 8), (1, u "java/lang/Object"), (0, u "<init>"), (0, u "()V"), (0, .methodref 12 13), (0, .class_ 14), (0, .nameAndType 15 16), (0, u "java/lang/StringUTF16"), (0, u "newBytesLength"), (0, u "(I)I"), (3, .integer 1073741823), (23, .fieldref 12 45), (0, .nameAndType 46 47), (0, u "$assertionsDisabled"), (0, u "Z"), (0, .methodref 12 49), (0, .nameAndType 50 51), (0, u "length"), (0, u "([B)I"), (7, .fieldref 12 60), (0, .nameAndType 61 62), (0, u "HI_BYTE_SHIFT"), (0, u "I"), (0, .fieldref 12 64), (0, .nameAndType 65 62), (0, u "LO_BYTE_SHIFT"), (1, .methodref 12 68), (0, .nameAndType 69 70), (0, u "checkIndex"), (0, u "(I[B)V"), (0, .methodref 12 72), (0, .nameAndType 73 74), (0, u "getChar"), (0, u "([BI)C"), (24, u "(II[B)V"), (7, .methodref 12 108), (0, .nameAndType 109 110), (0, u "newBytesFor"), (0, u "(I)[B"), (0, .methodref 12 112), (0, .nameAndType 113 114), (0, u "putChar"), (0, u "([BII)V"), (0, .methodref 12 116), (0, .nameAndType 117 118), (0, u "compress"), (0, u "([CI[BII)I"), (0, .methodref 12 120), (0, .nameAndType 121 122), (0, u "toBytes"), (0, u "([CII)[B"), (17, u "inflate"), (0, u "([BI[BII)V"), (31, .methodref 12 174), (0, .nameAndType 175 99), (0, u "checkBoundsOffCount"), (85, u "coderFromArrayLen"), (0, u "([BI)B"), (18, u "(III)I"), (87, .class_ 371), (1, u "java/lang/StringUTF16$LinesSpliterator"), (20, u "charAt"), (21, .methodref 3 415), (0, .nameAndType 69 416), (0, u "(II)V"), (2, .methodref 3 420), (0, .nameAndType 175 281), (9, u "MAX_LENGTH"), (155, u "putCharSB"), (40, .class_ 628), (0, u "java/lang/StringUTF16$CodePointsSpliterator"), (0, .class_ 630), (0, u "java/lang/StringUTF16$CharsSpliterator")] 4

def k8m0 : Method := { name := "<init>", desc := "()V", sig := { parameters := [], returnType := none }, accessFlags := 0, code := none }
def k8c1 : Code := { maxStack := 1, maxLocals := 1, code := jdk_52_method_2_code, exceptionTable := #[], attributes := #[] }
def k8m1 : Method := { name := "newBytesFor", desc := "(I)[B", sig := { parameters := [.int], returnType := some (.array .byte) }, accessFlags := 9, code := some k8c1 }
def k8c2 : Code := { maxStack := 4, maxLocals := 1, code := jdk_52_method_3_code, exceptionTable := #[], attributes := #[] }
def k8m2 : Method := { name := "newBytesLength", desc := "(I)I", sig := { parameters := [.int], returnType := some .int }, accessFlags := 9, code := some k8c2 }
def k8c3 : Code := { maxStack := 4, maxLocals := 3, code := jdk_52_method_4_code, exceptionTable := #[], attributes := #[] }
def k8m3 : Method := { name := "putChar", desc := "([BII)V", sig := { parameters := [(.array .byte), .int, .int], returnType := none }, accessFlags := 8, code := some k8c3 }
def k8c4 : Code := { maxStack := 3, maxLocals := 2, code := jdk_52_method_5_code, exceptionTable := #[], attributes := #[] }
def k8m4 : Method := { name := "getChar", desc := "([BI)C", sig := { parameters := [(.array .byte), .int], returnType := some .char }, accessFlags := 8, code := some k8c4 }
def k8c5 : Code := { maxStack := 2, maxLocals := 1, code := jdk_52_method_6_code, exceptionTable := #[], attributes := #[] }
def k8m5 : Method := { name := "length", desc := "([B)I", sig := { parameters := [(.array .byte)], returnType := some .int }, accessFlags := 9, code := some k8c5 }
def k8c6 : Code := { maxStack := 4, maxLocals := 5, code := jdk_52_method_14_code, exceptionTable := #[], attributes := #[] }
def k8m6 : Method := { name := "toBytes", desc := "([CII)[B", sig := { parameters := [(.array .char), .int, .int], returnType := some (.array .byte) }, accessFlags := 9, code := some k8c6 }
def k8c7 : Code := { maxStack := 2, maxLocals := 2, code := jdk_52_method_15_code, exceptionTable := #[], attributes := #[] }
def k8m7 : Method := { name := "coderFromArrayLen", desc := "([BI)B", sig := { parameters := [(.array .byte), .int], returnType := some .byte }, accessFlags := 8, code := some k8c7 }
def k8c8 : Code := { maxStack := 5, maxLocals := 6, code := jdk_52_method_16_code, exceptionTable := #[], attributes := #[] }
def k8m8 : Method := { name := "compress", desc := "([CII)[B", sig := { parameters := [(.array .char), .int, .int], returnType := some (.array .byte) }, accessFlags := 9, code := some k8c8 }
def k8c9 : Code := { maxStack := 3, maxLocals := 7, code := jdk_52_method_21_code, exceptionTable := #[], attributes := #[] }
def k8m9 : Method := { name := "compress", desc := "([CI[BII)I", sig := { parameters := [(.array .char), .int, (.array .byte), .int, .int], returnType := some .int }, accessFlags := 9, code := some k8c9 }
def k8c10 : Code := { maxStack := 3, maxLocals := 3, code := jdk_52_method_71_code, exceptionTable := #[], attributes := #[] }
def k8m10 : Method := { name := "putCharSB", desc := "([BII)V", sig := { parameters := [(.array .byte), .int, .int], returnType := none }, accessFlags := 9, code := some k8c10 }
def k8c11 : Code := { maxStack := 2, maxLocals := 2, code := jdk_52_method_83_code, exceptionTable := #[], attributes := #[] }
def k8m11 : Method := { name := "charAt", desc := "([BI)C", sig := { parameters := [(.array .byte), .int], returnType := some .char }, accessFlags := 9, code := some k8c11 }
def k8c12 : Code := { maxStack := 4, maxLocals := 6, code := jdk_52_method_86_code, exceptionTable := #[], attributes := #[] }
def k8m12 : Method := { name := "inflate", desc := "([BI[BII)V", sig := { parameters := [(.array .byte), .int, (.array .byte), .int, .int], returnType := none }, accessFlags := 9, code := some k8c12 }
def k8c13 : Code := { maxStack := 2, maxLocals := 2, code := jdk_52_method_91_code, exceptionTable := #[], attributes := #[] }
def k8m13 : Method := { name := "checkIndex", desc := "(I[B)V", sig := { parameters := [.int, (.array .byte)], returnType := none }, accessFlags := 9, code := some k8c13 }
def k8c14 : Code := { maxStack := 3, maxLocals := 3, code := jdk_52_method_94_code, exceptionTable := #[], attributes := #[] }
def k8m14 : Method := { name := "checkBoundsOffCount", desc := "(II[B)V", sig := { parameters := [.int, .int, (.array .byte)], returnType := none }, accessFlags := 9, code := some k8c14 }
/-- java/lang/StringUTF16 -/
def k8 : Class := { plain "java/lang/StringUTF16" (some 0) with
  accessFlags := 48
  interfaces := #[]
  cf := some (fileOf pool8 12 #[.nestMembers #[627, 629, 369]] #[{ accessFlags := 0, nameIndex := 9, descriptorIndex := 10, attributes := #[] }, { accessFlags := 9, nameIndex := 109, descriptorIndex := 110, attributes := #[] }, { accessFlags := 9, nameIndex := 15, descriptorIndex := 16, attributes := #[] }, { accessFlags := 8, nameIndex := 113, descriptorIndex := 114, attributes := #[] }, { accessFlags := 8, nameIndex := 73, descriptorIndex := 74, attributes := #[] }, { accessFlags := 9, nameIndex := 50, descriptorIndex := 51, attributes := #[] }, { accessFlags := 9, nameIndex := 121, descriptorIndex := 122, attributes := #[] }, { accessFlags := 8, nameIndex := 261, descriptorIndex := 262, attributes := #[] }, { accessFlags := 9, nameIndex := 117, descriptorIndex := 122, attributes := #[] }, { accessFlags := 9, nameIndex := 117, descriptorIndex := 118, attributes := #[] }, { accessFlags := 9, nameIndex := 586, descriptorIndex := 114, attributes := #[] }, { accessFlags := 9, nameIndex := 392, descriptorIndex := 74, attributes := #[] }, { accessFlags := 9, nameIndex := 140, descriptorIndex := 141, attributes := #[] }, { accessFlags := 9, nameIndex := 69, descriptorIndex := 70, attributes := #[] }, { accessFlags := 9, nameIndex := 175, descriptorIndex := 99, attributes := #[] }] 48 6 #[] #[{ accessFlags := 26, nameIndex := 61, descriptorIndex := 62, attributes := #[] }, { accessFlags := 26, nameIndex := 65, descriptorIndex := 62, attributes := #[] }, { accessFlags := 24, nameIndex := 430, descriptorIndex := 62, attributes := #[] }, { accessFlags := 4120, nameIndex := 46, descriptorIndex := 47, attributes := #[] }])
  fields := #[{ name := "HI_BYTE_SHIFT", type := .int, accessFlags := 26, slot := 0, constantValue := 0 }, { name := "LO_BYTE_SHIFT", type := .int, accessFlags := 26, slot := 1, constantValue := 0 }, { name := "MAX_LENGTH", type := .int, accessFlags := 24, slot := 2, constantValue := 0 }, { name := "$assertionsDisabled", type := .boolean, accessFlags := 4120, slot := 3, constantValue := 0 }]
  methods := #[k8m0, k8m1, k8m2, k8m3, k8m4, k8m5, k8m6, k8m7, k8m8, k8m9, k8m10, k8m11, k8m12, k8m13, k8m14]
  instanceTypes := #[]
  staticTypes := #[.int, .int, .int, .boolean]
  resolved := Array.replicate 635 none
  statics := some 1 }

def pool9 : Array CpInfo := pool [(2, .class_ 4), (1, u "java/lang/Object"), (0, u "<init>"), (0, u "()V"), (0, .interfaceMethodref 8 9), (0, .class_ 10), (0, .nameAndType 11 12), (0, u "java/lang/CharSequence"), (0, u "toString"), (0, u "()Ljava/lang/String;"), (0, .methodref 14 15), (0, .class_ 16), (0, .nameAndType 17 18), (0, u "com/example/gradual_reply/gradualreply/Utf8"), (0, u "replaceUnpairedSurrogates"), (0, u "(Ljava/lang/String;)Ljava/lang/String;"), (0, .fieldref 20 21), (0, .class_ 22), (0, .nameAndType 23 24), (0, u "java/nio/charset/StandardCharsets"), (0, u "UTF_8"), (0, u "Ljava/nio/charset/Charset;"), (0, .methodref 26 27), (0, .class_ 28), (0, .nameAndType 29 30), (0, u "java/lang/String"), (0, u "getBytes"), (0, u "(Ljava/nio/charset/Charset;)[B"), (0, .methodref 14 32), (0, .nameAndType 33 34), (0, u "nextUnpairedSurrogate"), (0, u "(Ljava/lang/String;I)I"), (0, .class_ 36), (0, u "java/lang/StringBuilder"), (0, .methodref 26 38), (0, .nameAndType 39 40), (0, u "length"), (0, u "()I"), (0, .methodref 35 42), (0, .nameAndType 5 43), (0, u "(I)V"), (0, .methodref 35 45), (0, .nameAndType 46 47), (0, u "append"), (0, u "(Ljava/lang/CharSequence;II)Ljava/lang/StringBuilder;"), (0, .integer 65533), (0, .methodref 35 50), (0, .nameAndType 46 51), (0, u "(C)Ljava/lang/StringBuilder;"), (0, .methodref 35 9), (0, .methodref 26 54), (0, .nameAndType 55 56), (0, u "charAt"), (0, u "(I)C"), (0, .methodref 58 59), (0, .class_ 60), (0, .nameAndType 61 62), (0, u "java/lang/Character"), (0, u "isSurrogate"), (0, u "(C)Z"), (0, .methodref 58 64), (0, .nameAndType 65 62), (0, u "isHighSurrogate"), (0, .methodref 58 67), (0, .nameAndType 68 62), (0, u "isLowSurrogate"), (0, u "REPLACEMENT"), (0, u "C"), (3, u "encode"), (0, u "(Ljava/lang/CharSequence;)[B")] 3

def k9m0 : Method := { name := "<init>", desc := "()V", sig := { parameters := [], returnType := none }, accessFlags := 2, code := none }
def k9c1 : Code := { maxStack := 2, maxLocals := 1, code := prog_16_method_2_code, exceptionTable := #[], attributes := #[] }
def k9m1 : Method := { name := "encode", desc := "(Ljava/lang/CharSequence;)[B", sig := { parameters := [(.object "java/lang/CharSequence")], returnType := some (.array .byte) }, accessFlags := 8, code := some k9c1 }
def k9c2 : Code := { maxStack := 4, maxLocals := 5, code := prog_16_method_3_code, exceptionTable := #[], attributes := #[] }
def k9m2 : Method := { name := "replaceUnpairedSurrogates", desc := "(Ljava/lang/String;)Ljava/lang/String;", sig := { parameters := [(.object "java/lang/String")], returnType := some (.object "java/lang/String") }, accessFlags := 10, code := some k9c2 }
def k9c3 : Code := { maxStack := 3, maxLocals := 5, code := prog_16_method_4_code, exceptionTable := #[], attributes := #[] }
def k9m3 : Method := { name := "nextUnpairedSurrogate", desc := "(Ljava/lang/String;I)I", sig := { parameters := [(.object "java/lang/String"), .int], returnType := some .int }, accessFlags := 10, code := some k9c3 }
/-- com/example/gradual_reply/gradualreply/Utf8 -/
def k9 : Class := { plain "com/example/gradual_reply/gradualreply/Utf8" (some 0) with
  accessFlags := 48
  interfaces := #[]
  cf := some (fileOf pool9 14 #[] #[{ accessFlags := 2, nameIndex := 5, descriptorIndex := 6, attributes := #[] }, { accessFlags := 8, nameIndex := 74, descriptorIndex := 75, attributes := #[] }, { accessFlags := 10, nameIndex := 17, descriptorIndex := 18, attributes := #[] }, { accessFlags := 10, nameIndex := 33, descriptorIndex := 34, attributes := #[] }] 48 2 #[] #[{ accessFlags := 26, nameIndex := 69, descriptorIndex := 70, attributes := #[] }])
  fields := #[{ name := "REPLACEMENT", type := .char, accessFlags := 26, slot := 0, constantValue := 0 }]
  methods := #[k9m0, k9m1, k9m2, k9m3]
  instanceTypes := #[]
  staticTypes := #[.char]
  resolved := Array.replicate 79 none
  statics := none }

def pool10 : Array CpInfo := pool [(1, .class_ 2), (0, u "java/lang/String"), (1, .class_ 6), (1, u "java/lang/Object"), (0, u "<init>"), (0, u "()V"), (0, .methodref 1 10), (0, .nameAndType 11 12), (0, u "checkIndex"), (0, u "(II)V"), (1, .class_ 16), (1, u "java/lang/StringLatin1"), (0, u "inflate"), (2, .class_ 22), (1, u "java/lang/StringUTF16"), (3, .nameAndType 17 27), (0, u "([BI[BII)V"), (25, u "([BI)C"), (36, u "canEncode"), (14, u "(C)Z"), (15, u "$assertionsDisabled"), (0, u "Z"), (98, .class_ 223), (1, u "java/lang/StringLatin1$LinesSpliterator"), (16, .methodref 20 26), (11, u "charAt"), (137, .class_ 391), (0, u "java/lang/StringLatin1$CharsSpliterator")] 3

def k10m0 : Method := { name := "<init>", desc := "()V", sig := { parameters := [], returnType := none }, accessFlags := 0, code := none }
def k10c1 : Code := { maxStack := 2, maxLocals := 2, code := jdk_43_method_2_code, exceptionTable := #[], attributes := #[] }
def k10m1 : Method := { name := "charAt", desc := "([BI)C", sig := { parameters := [(.array .byte), .int], returnType := some .char }, accessFlags := 9, code := some k10c1 }
def k10c2 : Code := { maxStack := 2, maxLocals := 1, code := jdk_43_method_3_code, exceptionTable := #[], attributes := #[] }
def k10m2 : Method := { name := "canEncode", desc := "(C)Z", sig := { parameters := [.char], returnType := some .boolean }, accessFlags := 9, code := some k10c2 }
def k10c3 : Code := { maxStack := 5, maxLocals := 5, code := jdk_43_method_50_code, exceptionTable := #[], attributes := #[] }
def k10m3 : Method := { name := "inflate", desc := "([BI[BII)V", sig := { parameters := [(.array .byte), .int, (.array .byte), .int, .int], returnType := none }, accessFlags := 9, code := some k10c3 }
/-- java/lang/StringLatin1 -/
def k10 : Class := { plain "java/lang/StringLatin1" (some 0) with
  accessFlags := 48
  interfaces := #[]
  cf := some (fileOf pool10 14 #[.nestMembers #[390, 221]] #[{ accessFlags := 0, nameIndex := 7, descriptorIndex := 8, attributes := #[] }, { accessFlags := 9, nameIndex := 252, descriptorIndex := 53, attributes := #[] }, { accessFlags := 9, nameIndex := 90, descriptorIndex := 105, attributes := #[] }, { accessFlags := 9, nameIndex := 17, descriptorIndex := 27, attributes := #[] }] 48 4 #[] #[{ accessFlags := 4120, nameIndex := 121, descriptorIndex := 122, attributes := #[] }])
  fields := #[{ name := "$assertionsDisabled", type := .boolean, accessFlags := 4120, slot := 0, constantValue := 0 }]
  methods := #[k10m0, k10m1, k10m2, k10m3]
  instanceTypes := #[]
  staticTypes := #[.boolean]
  resolved := Array.replicate 395 none
  statics := none }

def pool11 : Array CpInfo := pool [(2, .class_ 4), (1, u "java/lang/Object"), (0, u "<init>"), (0, u "()V"), (17, .class_ 26), (1, u "jdk/internal/util/Preconditions"), (6, u "checkIndex"), (13, u "checkFromToIndex"), (1, u "checkFromIndexSize"), (5, .class_ 56), (0, u "jdk/internal/util/Preconditions$4"), (57, .class_ 115), (0, u "jdk/internal/util/Preconditions$1"), (7, u "SIOOBE_FORMATTER"), (0, u "Ljava/util/function/BiFunction;"), (0, .class_ 126), (0, u "jdk/internal/util/Preconditions$2"), (3, u "AIOOBE_FORMATTER"), (0, .class_ 132), (0, u "jdk/internal/util/Preconditions$3"), (3, u "IOOBE_FORMATTER"), (41, u "(IILjava/util/function/BiFunction;)I"), (4, u "(IIILjava/util/function/BiFunction;)I")] 10

def k11m0 : Method := { name := "<init>", desc := "()V", sig := { parameters := [], returnType := none }, accessFlags := 1, code := none }
def k11c1 : Code := { maxStack := 3, maxLocals := 3, code := jdk_41_method_11_code, exceptionTable := #[], attributes := #[] }
def k11m1 : Method := { name := "checkIndex", desc := "(IILjava/util/function/BiFunction;)I", sig := { parameters := [.int, .int, (.object "java/util/function/BiFunction")], returnType := some .int }, accessFlags := 9, code := some k11c1 }
def k11c2 : Code := { maxStack := 4, maxLocals := 4, code := jdk_41_method_12_code, exceptionTable := #[], attributes := #[] }
def k11m2 : Method := { name := "checkFromToIndex", desc := "(IIILjava/util/function/BiFunction;)I", sig := { parameters := [.int, .int, .int, (.object "java/util/function/BiFunction")], returnType := some .int }, accessFlags := 9, code := some k11c2 }
def k11c3 : Code := { maxStack := 4, maxLocals := 4, code := jdk_41_method_13_code, exceptionTable := #[], attributes := #[] }
def k11m3 : Method := { name := "checkFromIndexSize", desc := "(IIILjava/util/function/BiFunction;)I", sig := { parameters := [.int, .int, .int, (.object "java/util/function/BiFunction")], returnType := some .int }, accessFlags := 9, code := some k11c3 }
/-- jdk/internal/util/Preconditions -/
def k11 : Class := { plain "jdk/internal/util/Preconditions" (some 0) with
  accessFlags := 33
  interfaces := #[]
  cf := some (fileOf pool11 24 #[.nestMembers #[55, 131, 125, 114]] #[{ accessFlags := 1, nameIndex := 5, descriptorIndex := 6, attributes := #[] }, { accessFlags := 9, nameIndex := 33, descriptorIndex := 178, attributes := #[] }, { accessFlags := 9, nameIndex := 47, descriptorIndex := 183, attributes := #[] }, { accessFlags := 9, nameIndex := 49, descriptorIndex := 183, attributes := #[] }] 33 2 #[] #[{ accessFlags := 25, nameIndex := 123, descriptorIndex := 124, attributes := #[] }, { accessFlags := 25, nameIndex := 130, descriptorIndex := 124, attributes := #[] }, { accessFlags := 25, nameIndex := 136, descriptorIndex := 124, attributes := #[] }])
  fields := #[{ name := "SIOOBE_FORMATTER", type := (.object "java/util/function/BiFunction"), accessFlags := 25, slot := 0, constantValue := 0 }, { name := "AIOOBE_FORMATTER", type := (.object "java/util/function/BiFunction"), accessFlags := 25, slot := 1, constantValue := 0 }, { name := "IOOBE_FORMATTER", type := (.object "java/util/function/BiFunction"), accessFlags := 25, slot := 2, constantValue := 0 }]
  methods := #[k11m0, k11m1, k11m2, k11m3]
  instanceTypes := #[]
  staticTypes := #[(.object "java/util/function/BiFunction"), (.object "java/util/function/BiFunction"), (.object "java/util/function/BiFunction")]
  resolved := Array.replicate 194 none
  statics := some 2 }

def pool12 : Array CpInfo := pool [(1, .class_ 2), (0, u "java/lang/Character"), (18, u "value"), (0, u "C"), (19, .class_ 44), (1, u "java/lang/Object"), (3, .class_ 50), (1, u "java/lang/Character$CharacterCache"), (24, .integer 55296), (0, .integer 56320), (0, .integer 57344), (2, u "isHighSurrogate"), (0, u "(C)Z"), (2, u "isLowSurrogate"), (0, .integer 4238353408), (12, u "toCodePoint"), (0, u "(CC)I"), (184, u "$assertionsDisabled"), (0, u "Z"), (21, .class_ 309), (1, u "java/lang/Character$UnicodeBlock"), (73, u "TYPE"), (0, u "Ljava/lang/Class;"), (0, .class_ 386), (0, u "java/io/Serializable"), (0, .class_ 388), (0, u "java/lang/Comparable"), (0, .class_ 390), (0, u "java/lang/constant/Constable"), (0, u "MIN_RADIX"), (0, u "I"), (2, u "MAX_RADIX"), (1, u "MIN_VALUE"), (1, u "MAX_VALUE"), (3, u "UNASSIGNED"), (0, u "B"), (0, u "UPPERCASE_LETTER"), (1, u "LOWERCASE_LETTER"), (0, u "TITLECASE_LETTER"), (1, u "MODIFIER_LETTER"), (1, u "OTHER_LETTER"), (1, u "NON_SPACING_MARK"), (1, u "ENCLOSING_MARK"), (1, u "COMBINING_SPACING_MARK"), (1, u "DECIMAL_DIGIT_NUMBER"), (1, u "LETTER_NUMBER"), (1, u "OTHER_NUMBER"), (1, u "SPACE_SEPARATOR"), (1, u "LINE_SEPARATOR"), (1, u "PARAGRAPH_SEPARATOR"), (1, u "CONTROL"), (1, u "FORMAT"), (1, u "PRIVATE_USE"), (1, u "SURROGATE"), (1, u "DASH_PUNCTUATION"), (1, u "START_PUNCTUATION"), (1, u "END_PUNCTUATION"), (1, u "CONNECTOR_PUNCTUATION"), (1, u "OTHER_PUNCTUATION"), (1, u "MATH_SYMBOL"), (1, u "CURRENCY_SYMBOL"), (1, u "MODIFIER_SYMBOL"), (1, u "OTHER_SYMBOL"), (1, u "INITIAL_QUOTE_PUNCTUATION"), (1, u "FINAL_QUOTE_PUNCTUATION"), (1, u "ERROR"), (1, u "DIRECTIONALITY_UNDEFINED"), (0, u "DIRECTIONALITY_LEFT_TO_RIGHT"), (0, u "DIRECTIONALITY_RIGHT_TO_LEFT"), (0, u "DIRECTIONALITY_RIGHT_TO_LEFT_ARABIC"), (0, u "DIRECTIONALITY_EUROPEAN_NUMBER"), (0, u "DIRECTIONALITY_EUROPEAN_NUMBER_SEPARATOR"), (0, u "DIRECTIONALITY_EUROPEAN_NUMBER_TERMINATOR"), (0, u "DIRECTIONALITY_ARABIC_NUMBER"), (0, u "DIRECTIONALITY_COMMON_NUMBER_SEPARATOR"), (0, u "DIRECTIONALITY_NONSPACING_MARK"), (0, u "DIRECTIONALITY_BOUNDARY_NEUTRAL"), (0, u "DIRECTIONALITY_PARAGRAPH_SEPARATOR"), (0, u "DIRECTIONALITY_SEGMENT_SEPARATOR"), (0, u "DIRECTIONALITY_WHITESPACE"), (0, u "DIRECTIONALITY_OTHER_NEUTRALS"), (0, u "DIRECTIONALITY_LEFT_TO_RIGHT_EMBEDDING"), (0, u "DIRECTIONALITY_LEFT_TO_RIGHT_OVERRIDE"), (0, u "DIRECTIONALITY_RIGHT_TO_LEFT_EMBEDDING"), (0, u "DIRECTIONALITY_RIGHT_TO_LEFT_OVERRIDE"), (1, u "DIRECTIONALITY_POP_DIRECTIONAL_FORMAT"), (0, u "DIRECTIONALITY_LEFT_TO_RIGHT_ISOLATE"), (0, u "DIRECTIONALITY_RIGHT_TO_LEFT_ISOLATE"), (0, u "DIRECTIONALITY_FIRST_STRONG_ISOLATE"), (0, u "DIRECTIONALITY_POP_DIRECTIONAL_ISOLATE"), (0, u "MIN_HIGH_SURROGATE"), (0, u "MAX_HIGH_SURROGATE"), (1, u "MIN_LOW_SURROGATE"), (0, u "MAX_LOW_SURROGATE"), (1, u "MIN_SURROGATE"), (0, u "MAX_SURROGATE"), (0, u "MIN_SUPPLEMENTARY_CODE_POINT"), (0, u "MIN_CODE_POINT"), (0, u "MAX_CODE_POINT"), (1, u "serialVersionUID"), (0, u "J"), (2, u "SIZE"), (0, u "BYTES"), (24, u "isSurrogate"), (63, .class_ 596), (0, u "java/lang/Character$UnicodeScript"), (0, .class_ 598), (0, u "java/lang/Character$Subset")] 5

def k12c0 : Code := { maxStack := 2, maxLocals := 1, code := jdk_89_method_14_code, exceptionTable := #[], attributes := #[] }
def k12m0 : Method := { name := "isHighSurrogate", desc := "(C)Z", sig := { parameters := [.char], returnType := some .boolean }, accessFlags := 9, code := some k12c0 }
def k12c1 : Code := { maxStack := 2, maxLocals := 1, code := jdk_89_method_15_code, exceptionTable := #[], attributes := #[] }
def k12m1 : Method := { name := "isLowSurrogate", desc := "(C)Z", sig := { parameters := [.char], returnType := some .boolean }, accessFlags := 9, code := some k12c1 }
def k12c2 : Code := { maxStack := 2, maxLocals := 1, code := jdk_89_method_16_code, exceptionTable := #[], attributes := #[] }
def k12m2 : Method := { name := "isSurrogate", desc := "(C)Z", sig := { parameters := [.char], returnType := some .boolean }, accessFlags := 9, code := some k12c2 }
def k12c3 : Code := { maxStack := 2, maxLocals := 2, code := jdk_89_method_19_code, exceptionTable := #[], attributes := #[] }
def k12m3 : Method := { name := "toCodePoint", desc := "(CC)I", sig := { parameters := [.char, .char], returnType := some .int }, accessFlags := 9, code := some k12c3 }
/-- java/lang/Character -/
def k12 : Class := { plain "java/lang/Character" (some 0) with
  accessFlags := 49
  interfaces := #[2, 3, 5]
  cf := some (fileOf pool12 1 #[.nestMembers #[48, 595, 307, 597]] #[{ accessFlags := 9, nameIndex := 80, descriptorIndex := 81, attributes := #[] }, { accessFlags := 9, nameIndex := 84, descriptorIndex := 81, attributes := #[] }, { accessFlags := 9, nameIndex := 531, descriptorIndex := 81, attributes := #[] }, { accessFlags := 9, nameIndex := 98, descriptorIndex := 99, attributes := #[] }] 49 42 #[385, 387, 389] #[{ accessFlags := 25, nameIndex := 391, descriptorIndex := 392, attributes := #[] }, { accessFlags := 25, nameIndex := 395, descriptorIndex := 392, attributes := #[] }, { accessFlags := 25, nameIndex := 397, descriptorIndex := 22, attributes := #[] }, { accessFlags := 25, nameIndex := 399, descriptorIndex := 22, attributes := #[] }, { accessFlags := 25, nameIndex := 383, descriptorIndex := 384, attributes := #[] }, { accessFlags := 25, nameIndex := 403, descriptorIndex := 404, attributes := #[] }, { accessFlags := 25, nameIndex := 405, descriptorIndex := 404, attributes := #[] }, { accessFlags := 25, nameIndex := 407, descriptorIndex := 404, attributes := #[] }, { accessFlags := 25, nameIndex := 408, descriptorIndex := 404, attributes := #[] }, { accessFlags := 25, nameIndex := 410, descriptorIndex := 404, attributes := #[] }, { accessFlags := 25, nameIndex := 412, descriptorIndex := 404, attributes := #[] }, { accessFlags := 25, nameIndex := 414, descriptorIndex := 404, attributes := #[] }, { accessFlags := 25, nameIndex := 416, descriptorIndex := 404, attributes := #[] }, { accessFlags := 25, nameIndex := 418, descriptorIndex := 404, attributes := #[] }, { accessFlags := 25, nameIndex := 420, descriptorIndex := 404, attributes := #[] }, { accessFlags := 25, nameIndex := 422, descriptorIndex := 404, attributes := #[] }, { accessFlags := 25, nameIndex := 424, descriptorIndex := 404, attributes := #[] }, { accessFlags := 25, nameIndex := 426, descriptorIndex := 404, attributes := #[] }, { accessFlags := 25, nameIndex := 428, descriptorIndex := 404, attributes := #[] }, { accessFlags := 25, nameIndex := 430, descriptorIndex := 404, attributes := #[] }, { accessFlags := 25, nameIndex := 432, descriptorIndex := 404, attributes := #[] }, { accessFlags := 25, nameIndex := 434, descriptorIndex := 404, attributes := #[] }, { accessFlags := 25, nameIndex := 436, descriptorIndex := 404, attributes := #[] }, { accessFlags := 25, nameIndex := 438, descriptorIndex := 404, attributes := #[] }, { accessFlags := 25, nameIndex := 440, descriptorIndex := 404, attributes := #[] }, { accessFlags := 25, nameIndex := 442, descriptorIndex := 404, attributes := #[] }, { accessFlags := 25, nameIndex := 444, descriptorIndex := 404, attributes := #[] }, { accessFlags := 25, nameIndex := 446, descriptorIndex := 404, attributes := #[] }, { accessFlags := 25, nameIndex := 448, descriptorIndex := 404, attributes := #[] }, { accessFlags := 25, nameIndex := 450, descriptorIndex := 404, attributes := #[] }, { accessFlags := 25, nameIndex := 452, descriptorIndex := 404, attributes := #[] }, { accessFlags := 25, nameIndex := 454, descriptorIndex := 404, attributes := #[] }, { accessFlags := 25, nameIndex := 456, descriptorIndex := 404, attributes := #[] }, { accessFlags := 25, nameIndex := 458, descriptorIndex := 404, attributes := #[] }, { accessFlags := 25, nameIndex := 460, descriptorIndex := 404, attributes := #[] }, { accessFlags := 24, nameIndex := 462, descriptorIndex := 392, attributes := #[] }, { accessFlags := 25, nameIndex := 464, descriptorIndex := 404, attributes := #[] }, { accessFlags := 25, nameIndex := 465, descriptorIndex := 404, attributes := #[] }, { accessFlags := 25, nameIndex := 466, descriptorIndex := 404, attributes := #[] }, { accessFlags := 25, nameIndex := 467, descriptorIndex := 404, attributes := #[] }, { accessFlags := 25, nameIndex := 468, descriptorIndex := 404, attributes := #[] }, { accessFlags := 25, nameIndex := 469, descriptorIndex := 404, attributes := #[] }, { accessFlags := 25, nameIndex := 470, descriptorIndex := 404, attributes := #[] }, { accessFlags := 25, nameIndex := 471, descriptorIndex := 404, attributes := #[] }, { accessFlags := 25, nameIndex := 472, descriptorIndex := 404, attributes := #[] }, { accessFlags := 25, nameIndex := 473, descriptorIndex := 404, attributes := #[] }, { accessFlags := 25, nameIndex := 474, descriptorIndex := 404, attributes := #[] }, { accessFlags := 25, nameIndex := 475, descriptorIndex := 404, attributes := #[] }, { accessFlags := 25, nameIndex := 476, descriptorIndex := 404, attributes := #[] }, { accessFlags := 25, nameIndex := 477, descriptorIndex := 404, attributes := #[] }, { accessFlags := 25, nameIndex := 478, descriptorIndex := 404, attributes := #[] }, { accessFlags := 25, nameIndex := 479, descriptorIndex := 404, attributes := #[] }, { accessFlags := 25, nameIndex := 480, descriptorIndex := 404, attributes := #[] }, { accessFlags := 25, nameIndex := 481, descriptorIndex := 404, attributes := #[] }, { accessFlags := 25, nameIndex := 482, descriptorIndex := 404, attributes := #[] }, { accessFlags := 25, nameIndex := 484, descriptorIndex := 404, attributes := #[] }, { accessFlags := 25, nameIndex := 485, descriptorIndex := 404, attributes := #[] }, { accessFlags := 25, nameIndex := 486, descriptorIndex := 404, attributes := #[] }, { accessFlags := 25, nameIndex := 487, descriptorIndex := 404, attributes := #[] }, { accessFlags := 25, nameIndex := 488, descriptorIndex := 404, attributes := #[] }, { accessFlags := 25, nameIndex := 489, descriptorIndex := 22, attributes := #[] }, { accessFlags := 25, nameIndex := 490, descriptorIndex := 22, attributes := #[] }, { accessFlags := 25, nameIndex := 492, descriptorIndex := 22, attributes := #[] }, { accessFlags := 25, nameIndex := 493, descriptorIndex := 22, attributes := #[] }, { accessFlags := 25, nameIndex := 495, descriptorIndex := 22, attributes := #[] }, { accessFlags := 25, nameIndex := 496, descriptorIndex := 22, attributes := #[] }, { accessFlags := 25, nameIndex := 497, descriptorIndex := 392, attributes := #[] }, { accessFlags := 25, nameIndex := 498, descriptorIndex := 392, attributes := #[] }, { accessFlags := 25, nameIndex := 499, descriptorIndex := 392, attributes := #[] }, { accessFlags := 18, nameIndex := 21, descriptorIndex := 22, attributes := #[] }, { accessFlags := 26, nameIndex := 501, descriptorIndex := 502, attributes := #[] }, { accessFlags := 25, nameIndex := 505, descriptorIndex := 392, attributes := #[] }, { accessFlags := 25, nameIndex := 506, descriptorIndex := 392, attributes := #[] }, { accessFlags := 4120, nameIndex := 284, descriptorIndex := 285, attributes := #[] }])
  fields := #[{ name := "MIN_RADIX", type := .int, accessFlags := 25, slot := 0, constantValue := 0 }, { name := "MAX_RADIX", type := .int, accessFlags := 25, slot := 1, constantValue := 0 }, { name := "MIN_VALUE", type := .char, accessFlags := 25, slot := 2, constantValue := 0 }, { name := "MAX_VALUE", type := .char, accessFlags := 25, slot := 3, constantValue := 0 }, { name := "TYPE", type := (.object "java/lang/Class"), accessFlags := 25, slot := 4, constantValue := 0 }, { name := "UNASSIGNED", type := .byte, accessFlags := 25, slot := 5, constantValue := 0 }, { name := "UPPERCASE_LETTER", type := .byte, accessFlags := 25, slot := 6, constantValue := 0 }, { name := "LOWERCASE_LETTER", type := .byte, accessFlags := 25, slot := 7, constantValue := 0 }, { name := "TITLECASE_LETTER", type := .byte, accessFlags := 25, slot := 8, constantValue := 0 }, { name := "MODIFIER_LETTER", type := .byte, accessFlags := 25, slot := 9, constantValue := 0 }, { name := "OTHER_LETTER", type := .byte, accessFlags := 25, slot := 10, constantValue := 0 }, { name := "NON_SPACING_MARK", type := .byte, accessFlags := 25, slot := 11, constantValue := 0 }, { name := "ENCLOSING_MARK", type := .byte, accessFlags := 25, slot := 12, constantValue := 0 }, { name := "COMBINING_SPACING_MARK", type := .byte, accessFlags := 25, slot := 13, constantValue := 0 }, { name := "DECIMAL_DIGIT_NUMBER", type := .byte, accessFlags := 25, slot := 14, constantValue := 0 }, { name := "LETTER_NUMBER", type := .byte, accessFlags := 25, slot := 15, constantValue := 0 }, { name := "OTHER_NUMBER", type := .byte, accessFlags := 25, slot := 16, constantValue := 0 }, { name := "SPACE_SEPARATOR", type := .byte, accessFlags := 25, slot := 17, constantValue := 0 }, { name := "LINE_SEPARATOR", type := .byte, accessFlags := 25, slot := 18, constantValue := 0 }, { name := "PARAGRAPH_SEPARATOR", type := .byte, accessFlags := 25, slot := 19, constantValue := 0 }, { name := "CONTROL", type := .byte, accessFlags := 25, slot := 20, constantValue := 0 }, { name := "FORMAT", type := .byte, accessFlags := 25, slot := 21, constantValue := 0 }, { name := "PRIVATE_USE", type := .byte, accessFlags := 25, slot := 22, constantValue := 0 }, { name := "SURROGATE", type := .byte, accessFlags := 25, slot := 23, constantValue := 0 }, { name := "DASH_PUNCTUATION", type := .byte, accessFlags := 25, slot := 24, constantValue := 0 }, { name := "START_PUNCTUATION", type := .byte, accessFlags := 25, slot := 25, constantValue := 0 }, { name := "END_PUNCTUATION", type := .byte, accessFlags := 25, slot := 26, constantValue := 0 }, { name := "CONNECTOR_PUNCTUATION", type := .byte, accessFlags := 25, slot := 27, constantValue := 0 }, { name := "OTHER_PUNCTUATION", type := .byte, accessFlags := 25, slot := 28, constantValue := 0 }, { name := "MATH_SYMBOL", type := .byte, accessFlags := 25, slot := 29, constantValue := 0 }, { name := "CURRENCY_SYMBOL", type := .byte, accessFlags := 25, slot := 30, constantValue := 0 }, { name := "MODIFIER_SYMBOL", type := .byte, accessFlags := 25, slot := 31, constantValue := 0 }, { name := "OTHER_SYMBOL", type := .byte, accessFlags := 25, slot := 32, constantValue := 0 }, { name := "INITIAL_QUOTE_PUNCTUATION", type := .byte, accessFlags := 25, slot := 33, constantValue := 0 }, { name := "FINAL_QUOTE_PUNCTUATION", type := .byte, accessFlags := 25, slot := 34, constantValue := 0 }, { name := "ERROR", type := .int, accessFlags := 24, slot := 35, constantValue := 0 }, { name := "DIRECTIONALITY_UNDEFINED", type := .byte, accessFlags := 25, slot := 36, constantValue := 0 }, { name := "DIRECTIONALITY_LEFT_TO_RIGHT", type := .byte, accessFlags := 25, slot := 37, constantValue := 0 }, { name := "DIRECTIONALITY_RIGHT_TO_LEFT", type := .byte, accessFlags := 25, slot := 38, constantValue := 0 }, { name := "DIRECTIONALITY_RIGHT_TO_LEFT_ARABIC", type := .byte, accessFlags := 25, slot := 39, constantValue := 0 }, { name := "DIRECTIONALITY_EUROPEAN_NUMBER", type := .byte, accessFlags := 25, slot := 40, constantValue := 0 }, { name := "DIRECTIONALITY_EUROPEAN_NUMBER_SEPARATOR", type := .byte, accessFlags := 25, slot := 41, constantValue := 0 }, { name := "DIRECTIONALITY_EUROPEAN_NUMBER_TERMINATOR", type := .byte, accessFlags := 25, slot := 42, constantValue := 0 }, { name := "DIRECTIONALITY_ARABIC_NUMBER", type := .byte, accessFlags := 25, slot := 43, constantValue := 0 }, { name := "DIRECTIONALITY_COMMON_NUMBER_SEPARATOR", type := .byte, accessFlags := 25, slot := 44, constantValue := 0 }, { name := "DIRECTIONALITY_NONSPACING_MARK", type := .byte, accessFlags := 25, slot := 45, constantValue := 0 }, { name := "DIRECTIONALITY_BOUNDARY_NEUTRAL", type := .byte, accessFlags := 25, slot := 46, constantValue := 0 }, { name := "DIRECTIONALITY_PARAGRAPH_SEPARATOR", type := .byte, accessFlags := 25, slot := 47, constantValue := 0 }, { name := "DIRECTIONALITY_SEGMENT_SEPARATOR", type := .byte, accessFlags := 25, slot := 48, constantValue := 0 }, { name := "DIRECTIONALITY_WHITESPACE", type := .byte, accessFlags := 25, slot := 49, constantValue := 0 }, { name := "DIRECTIONALITY_OTHER_NEUTRALS", type := .byte, accessFlags := 25, slot := 50, constantValue := 0 }, { name := "DIRECTIONALITY_LEFT_TO_RIGHT_EMBEDDING", type := .byte, accessFlags := 25, slot := 51, constantValue := 0 }, { name := "DIRECTIONALITY_LEFT_TO_RIGHT_OVERRIDE", type := .byte, accessFlags := 25, slot := 52, constantValue := 0 }, { name := "DIRECTIONALITY_RIGHT_TO_LEFT_EMBEDDING", type := .byte, accessFlags := 25, slot := 53, constantValue := 0 }, { name := "DIRECTIONALITY_RIGHT_TO_LEFT_OVERRIDE", type := .byte, accessFlags := 25, slot := 54, constantValue := 0 }, { name := "DIRECTIONALITY_POP_DIRECTIONAL_FORMAT", type := .byte, accessFlags := 25, slot := 55, constantValue := 0 }, { name := "DIRECTIONALITY_LEFT_TO_RIGHT_ISOLATE", type := .byte, accessFlags := 25, slot := 56, constantValue := 0 }, { name := "DIRECTIONALITY_RIGHT_TO_LEFT_ISOLATE", type := .byte, accessFlags := 25, slot := 57, constantValue := 0 }, { name := "DIRECTIONALITY_FIRST_STRONG_ISOLATE", type := .byte, accessFlags := 25, slot := 58, constantValue := 0 }, { name := "DIRECTIONALITY_POP_DIRECTIONAL_ISOLATE", type := .byte, accessFlags := 25, slot := 59, constantValue := 0 }, { name := "MIN_HIGH_SURROGATE", type := .char, accessFlags := 25, slot := 60, constantValue := 0 }, { name := "MAX_HIGH_SURROGATE", type := .char, accessFlags := 25, slot := 61, constantValue := 0 }, { name := "MIN_LOW_SURROGATE", type := .char, accessFlags := 25, slot := 62, constantValue := 0 }, { name := "MAX_LOW_SURROGATE", type := .char, accessFlags := 25, slot := 63, constantValue := 0 }, { name := "MIN_SURROGATE", type := .char, accessFlags := 25, slot := 64, constantValue := 0 }, { name := "MAX_SURROGATE", type := .char, accessFlags := 25, slot := 65, constantValue := 0 }, { name := "MIN_SUPPLEMENTARY_CODE_POINT", type := .int, accessFlags := 25, slot := 66, constantValue := 0 }, { name := "MIN_CODE_POINT", type := .int, accessFlags := 25, slot := 67, constantValue := 0 }, { name := "MAX_CODE_POINT", type := .int, accessFlags := 25, slot := 68, constantValue := 0 }, { name := "value", type := .char, accessFlags := 18, slot := 0, constantValue := 0 }, { name := "serialVersionUID", type := .long, accessFlags := 26, slot := 69, constantValue := 0 }, { name := "SIZE", type := .int, accessFlags := 25, slot := 70, constantValue := 0 }, { name := "BYTES", type := .int, accessFlags := 25, slot := 71, constantValue := 0 }, { name := "$assertionsDisabled", type := .boolean, accessFlags := 4120, slot := 72, constantValue := 0 }]
  methods := #[k12m0, k12m1, k12m2, k12m3]
  instanceTypes := #[.char]
  staticTypes := #[.int, .int, .char, .char, (.object "java/lang/Class"), .byte, .byte, .byte, .byte, .byte, .byte, .byte, .byte, .byte, .byte, .byte, .byte, .byte, .byte, .byte, .byte, .byte, .byte, .byte, .byte, .byte, .byte, .byte, .byte, .byte, .byte, .byte, .byte, .byte, .byte, .int, .byte, .byte, .byte, .byte, .byte, .byte, .byte, .byte, .byte, .byte, .byte, .byte, .byte, .byte, .byte, .byte, .byte, .byte, .byte, .byte, .byte, .byte, .byte, .byte, .char, .char, .char, .char, .char, .char, .int, .int, .int, .long, .int, .int, .boolean]
  resolved := Array.replicate 604 none
  statics := none }

def pool13 : Array CpInfo := pool [(2, .class_ 4), (1, u "java/lang/Object"), (0, u "<init>"), (0, u "()V"), (14, .class_ 23), (1, u "java/nio/charset/StandardCharsets"), (0, u "US_ASCII"), (0, u "Ljava/nio/charset/Charset;"), (7, u "ISO_8859_1"), (7, u "UTF_8"), (5, u "UTF_16BE"), (5, u "UTF_16LE"), (5, u "UTF_16")] 8

def k13m0 : Method := { name := "<init>", desc := "()V", sig := { parameters := [], returnType := none }, accessFlags := 2, code := none }
/-- java/nio/charset/StandardCharsets -/
def k13 : Class := { plain "java/nio/charset/StandardCharsets" (some 0) with
  accessFlags := 49
  interfaces := #[]
  cf := some (fileOf pool13 21 #[] #[{ accessFlags := 2, nameIndex := 5, descriptorIndex := 6, attributes := #[] }] 49 2 #[] #[{ accessFlags := 25, nameIndex := 24, descriptorIndex := 25, attributes := #[] }, { accessFlags := 25, nameIndex := 33, descriptorIndex := 25, attributes := #[] }, { accessFlags := 25, nameIndex := 41, descriptorIndex := 25, attributes := #[] }, { accessFlags := 25, nameIndex := 47, descriptorIndex := 25, attributes := #[] }, { accessFlags := 25, nameIndex := 53, descriptorIndex := 25, attributes := #[] }, { accessFlags := 25, nameIndex := 59, descriptorIndex := 25, attributes := #[] }])
  fields := #[{ name := "US_ASCII", type := (.object "java/nio/charset/Charset"), accessFlags := 25, slot := 0, constantValue := 0 }, { name := "ISO_8859_1", type := (.object "java/nio/charset/Charset"), accessFlags := 25, slot := 1, constantValue := 0 }, { name := "UTF_8", type := (.object "java/nio/charset/Charset"), accessFlags := 25, slot := 2, constantValue := 0 }, { name := "UTF_16BE", type := (.object "java/nio/charset/Charset"), accessFlags := 25, slot := 3, constantValue := 0 }, { name := "UTF_16LE", type := (.object "java/nio/charset/Charset"), accessFlags := 25, slot := 4, constantValue := 0 }, { name := "UTF_16", type := (.object "java/nio/charset/Charset"), accessFlags := 25, slot := 5, constantValue := 0 }]
  methods := #[k13m0]
  instanceTypes := #[]
  staticTypes := #[(.object "java/nio/charset/Charset"), (.object "java/nio/charset/Charset"), (.object "java/nio/charset/Charset"), (.object "java/nio/charset/Charset"), (.object "java/nio/charset/Charset"), (.object "java/nio/charset/Charset")]
  resolved := Array.replicate 68 none
  statics := some 3 }

def pool14 : Array CpInfo := pool [(18, .class_ 20), (1, u "java/nio/charset/Charset"), (0, u "cache1"), (0, u "[Ljava/lang/Object;"), (2, u "cache2"), (0, .class_ 27), (0, u "java/lang/Object"), (0, .class_ 29), (0, u "java/nio/charset/Charset$1"), (4, .class_ 36), (1, u "java/nio/charset/Charset$ThreadTrackHolder"), (21, .class_ 59), (0, u "java/nio/charset/Charset$2"), (11, .class_ 73), (1, u "java/nio/charset/Charset$ExtendedProviderHolder"), (22, u "standardProvider"), (0, u "Ljava/nio/charset/spi/CharsetProvider;"), (29, u "name"), (7, .class_ 136), (0, u "java/nio/charset/Charset$3"), (5, u "defaultCharset"), (0, u "Ljava/nio/charset/Charset;"), (14, u "zeroAliases"), (0, u "[Ljava/lang/String;"), (29, u "Ljava/lang/String;"), (2, u "aliases"), (2, u "aliasSet"), (0, u "Ljava/util/Set;"), (82, .class_ 280), (0, u "java/lang/Comparable"), (84, .class_ 366), (0, u "java/nio/charset/Charset$ExtendedProviderHolder$1")] 3

/-- java/nio/charset/Charset -/
def k14 : Class := { plain "java/nio/charset/Charset" (some 0) with
  accessFlags := 1057
  interfaces := #[3]
  cf := some (fileOf pool14 18 #[.nestMembers #[71, 365, 34, 135, 58, 28]] #[] 1057 26 #[279] #[{ accessFlags := 26, nameIndex := 96, descriptorIndex := 97, attributes := #[] }, { accessFlags := 26, nameIndex := 158, descriptorIndex := 159, attributes := #[] }, { accessFlags := 74, nameIndex := 21, descriptorIndex := 22, attributes := #[] }, { accessFlags := 74, nameIndex := 25, descriptorIndex := 22, attributes := #[] }, { accessFlags := 10, nameIndex := 142, descriptorIndex := 143, attributes := #[] }, { accessFlags := 18, nameIndex := 127, descriptorIndex := 189, attributes := #[] }, { accessFlags := 18, nameIndex := 192, descriptorIndex := 159, attributes := #[] }, { accessFlags := 2, nameIndex := 195, descriptorIndex := 196, attributes := #[] }])
  fields := #[{ name := "standardProvider", type := (.object "java/nio/charset/spi/CharsetProvider"), accessFlags := 26, slot := 0, constantValue := 0 }, { name := "zeroAliases", type := (.array (.object "java/lang/String")), accessFlags := 26, slot := 1, constantValue := 0 }, { name := "cache1", type := (.array (.object "java/lang/Object")), accessFlags := 74, slot := 2, constantValue := 0 }, { name := "cache2", type := (.array (.object "java/lang/Object")), accessFlags := 74, slot := 3, constantValue := 0 }, { name := "defaultCharset", type := (.object "java/nio/charset/Charset"), accessFlags := 10, slot := 4, constantValue := 0 }, { name := "name", type := (.object "java/lang/String"), accessFlags := 18, slot := 0, constantValue := 0 }, { name := "aliases", type := (.array (.object "java/lang/String")), accessFlags := 18, slot := 1, constantValue := 0 }, { name := "aliasSet", type := (.object "java/util/Set"), accessFlags := 2, slot := 2, constantValue := 0 }]
  methods := #[]
  instanceTypes := #[(.object "java/lang/String"), (.array (.object "java/lang/String")), (.object "java/util/Set")]
  staticTypes := #[(.object "java/nio/charset/spi/CharsetProvider"), (.array (.object "java/lang/String")), (.array (.object "java/lang/Object")), (.array (.object "java/lang/Object")), (.object "java/nio/charset/Charset")]
  resolved := Array.replicate 370 none
  statics := none }

def pool15 : Array CpInfo := pool [(1, .class_ 2), (0, u "sun/nio/cs/HistoricallyNamedCharset"), (0, .class_ 4), (0, u "java/lang/Object")] 4

/-- sun/nio/cs/HistoricallyNamedCharset -/
def k15 : Class := { plain "sun/nio/cs/HistoricallyNamedCharset" (some 0) with
  accessFlags := 1537
  interfaces := #[]
  cf := some (fileOf pool15 1 #[] #[] 1537 3 #[] #[])
  fields := #[]
  methods := #[]
  instanceTypes := #[]
  staticTypes := #[]
  resolved := Array.replicate 9 none
  statics := none }

def pool16 : Array CpInfo := pool [(2, .class_ 4), (1, u "java/nio/charset/Charset"), (130, .class_ 136), (0, u "sun/nio/cs/Unicode"), (0, .class_ 138), (0, u "sun/nio/cs/HistoricallyNamedCharset")] 15

/-- sun/nio/cs/Unicode -/
def k16 : Class := { plain "sun/nio/cs/Unicode" (some 14) with
  accessFlags := 1056
  interfaces := #[15]
  cf := some (fileOf pool16 135 #[] #[] 1056 2 #[137] #[])
  fields := #[]
  methods := #[]
  instanceTypes := #[(.object "java/lang/String"), (.array (.object "java/lang/String")), (.object "java/util/Set")]
  staticTypes := #[]
  resolved := Array.replicate 154 none
  statics := none }

def pool17 : Array CpInfo := pool [(10, .class_ 12), (1, u "sun/nio/cs/Unicode"), (0, u "<init>"), (3, .class_ 18), (0, u "sun/nio/cs/UTF_8$Decoder"), (3, .class_ 23), (0, u "sun/nio/cs/UTF_8$Encoder"), (15, .class_ 40), (0, u "sun/nio/cs/UTF_8"), (2, u "()V"), (2, u "INSTANCE"), (0, u "Lsun/nio/cs/UTF_8;"), (8, u "JLA"), (0, u "Ljdk/internal/access/JavaLangAccess;")] 26

def k17m0 : Method := { name := "<init>", desc := "()V", sig := { parameters := [], returnType := none }, accessFlags := 1, code := none }
/-- sun/nio/cs/UTF_8 -/
def k17 : Class := { plain "sun/nio/cs/UTF_8" (some 16) with
  accessFlags := 49
  interfaces := #[]
  cf := some (fileOf pool17 39 #[.nestMembers #[22, 17]] #[{ accessFlags := 1, nameIndex := 13, descriptorIndex := 43, attributes := #[] }] 49 10 #[] #[{ accessFlags := 25, nameIndex := 46, descriptorIndex := 47, attributes := #[] }, { accessFlags := 26, nameIndex := 56, descriptorIndex := 57, attributes := #[] }])
  fields := #[{ name := "INSTANCE", type := (.object "sun/nio/cs/UTF_8"), accessFlags := 25, slot := 0, constantValue := 0 }, { name := "JLA", type := (.object "jdk/internal/access/JavaLangAccess"), accessFlags := 26, slot := 1, constantValue := 0 }]
  methods := #[k17m0]
  instanceTypes := #[(.object "java/lang/String"), (.array (.object "java/lang/String")), (.object "java/util/Set")]
  staticTypes := #[(.object "sun/nio/cs/UTF_8"), (.object "jdk/internal/access/JavaLangAccess")]
  resolved := Array.replicate 84 none
  statics := some 4 }

def pool18 : Array CpInfo := pool [(2, .class_ 4), (1, u "java/lang/Object"), (0, u "<init>"), (0, u "()V"), (0, .methodref 8 9), (0, .class_ 10), (0, .nameAndType 11 12), (0, u "java/lang/StringCoding"), (0, u "countPositives"), (0, u "([BII)I"), (11, u "hasNegatives"), (0, u "([BII)Z")] 23

def k18m0 : Method := { name := "<init>", desc := "()V", sig := { parameters := [], returnType := none }, accessFlags := 2, code := none }
def k18c1 : Code := { maxStack := 3, maxLocals := 3, code := jdk_123_method_2_code, exceptionTable := #[], attributes := #[] }
def k18m1 : Method := { name := "hasNegatives", desc := "([BII)Z", sig := { parameters := [(.array .byte), .int, .int], returnType := some .boolean }, accessFlags := 9, code := some k18c1 }
def k18c2 : Code := { maxStack := 2, maxLocals := 5, code := jdk_123_method_3_code, exceptionTable := #[], attributes := #[] }
def k18m2 : Method := { name := "countPositives", desc := "([BII)I", sig := { parameters := [(.array .byte), .int, .int], returnType := some .int }, accessFlags := 9, code := some k18c2 }
/-- java/lang/StringCoding -/
def k18 : Class := { plain "java/lang/StringCoding" (some 0) with
  accessFlags := 32
  interfaces := #[]
  cf := some (fileOf pool18 8 #[] #[{ accessFlags := 2, nameIndex := 5, descriptorIndex := 6, attributes := #[] }, { accessFlags := 9, nameIndex := 24, descriptorIndex := 25, attributes := #[] }, { accessFlags := 9, nameIndex := 11, descriptorIndex := 12, attributes := #[] }] 32 2 #[] #[])
  fields := #[]
  methods := #[k18m0, k18m1, k18m2]
  instanceTypes := #[]
  staticTypes := #[]
  resolved := Array.replicate 49 none
  statics := none }

def pool19 : Array CpInfo := pool [(1, .class_ 2), (0, u "java/lang/Cloneable"), (0, .class_ 4), (0, u "java/lang/Object")] 2

/-- java/lang/Cloneable -/
def k19 : Class := { plain "java/lang/Cloneable" (some 0) with
  accessFlags := 1537
  interfaces := #[]
  cf := some (fileOf pool19 1 #[] #[] 1537 3 #[] #[])
  fields := #[]
  methods := #[]
  instanceTypes := #[]
  staticTypes := #[]
  resolved := Array.replicate 7 none
  statics := none }

def pool20 : Array CpInfo := pool [(2, .class_ 4), (1, u "java/lang/Object"), (0, u "<init>"), (0, u "()V"), (7, .class_ 16), (1, u "java/util/Arrays"), (57, .class_ 76), (1, u "java/util/Arrays$NaturalOrder"), (32, u "()Ljava/lang/Object;"), (3, .class_ 115), (1, u "java/util/Arrays$LegacyMergeSort"), (1, u "Z"), (10, .nameAndType 129 109), (0, u "clone"), (9, u "copyOfRange"), (10, .methodref 151 152), (0, .class_ 153), (0, .nameAndType 154 155), (0, u "java/lang/System"), (0, u "arraycopy"), (0, u "(Ljava/lang/Object;ILjava/lang/Object;II)V"), (146, u "copyOf"), (1, .methodref 305 306), (0, .class_ 307), (0, .nameAndType 308 309), (0, u "java/lang/Math"), (0, u "min"), (0, u "(II)I"), (0, .methodref 311 128), (0, .class_ 312), (0, u "[B"), (29, u "([BII)[B"), (32, .class_ 376), (0, u "java/util/Arrays$ArrayList"), (68, u "$assertionsDisabled"), (269, u "MIN_ARRAY_SORT_GRAN"), (0, u "I"), (2, u "INSERTIONSORT_THRESHOLD"), (149, u "([BI)[B"), (105, .class_ 976), (0, u "java/util/Arrays$ArrayItr")] 52

def k20m0 : Method := { name := "<init>", desc := "()V", sig := { parameters := [], returnType := none }, accessFlags := 2, code := none }
def k20c1 : Code := { maxStack := 6, maxLocals := 3, code := jdk_65_method_121_code, exceptionTable := #[], attributes := #[] }
def k20m1 : Method := { name := "copyOf", desc := "([BI)[B", sig := { parameters := [(.array .byte), .int], returnType := some (.array .byte) }, accessFlags := 9, code := some k20c1 }
def k20c2 : Code := { maxStack := 3, maxLocals := 3, code := jdk_65_method_132_code, exceptionTable := #[], attributes := #[] }
def k20m2 : Method := { name := "copyOfRange", desc := "([BII)[B", sig := { parameters := [(.array .byte), .int, .int], returnType := some (.array .byte) }, accessFlags := 9, code := some k20c2 }
/-- java/util/Arrays -/
def k20 : Class := { plain "java/util/Arrays" (some 0) with
  accessFlags := 49
  interfaces := #[]
  cf := some (fileOf pool20 14 #[.nestMembers #[975, 375, 113, 74]] #[{ accessFlags := 2, nameIndex := 5, descriptorIndex := 6, attributes := #[] }, { accessFlags := 9, nameIndex := 302, descriptorIndex := 869, attributes := #[] }, { accessFlags := 9, nameIndex := 139, descriptorIndex := 342, attributes := #[] }] 49 2 #[] #[{ accessFlags := 26, nameIndex := 715, descriptorIndex := 716, attributes := #[] }, { accessFlags := 26, nameIndex := 719, descriptorIndex := 716, attributes := #[] }, { accessFlags := 4120, nameIndex := 445, descriptorIndex := 117, attributes := #[] }])
  fields := #[{ name := "MIN_ARRAY_SORT_GRAN", type := .int, accessFlags := 26, slot := 0, constantValue := 0 }, { name := "INSERTIONSORT_THRESHOLD", type := .int, accessFlags := 26, slot := 1, constantValue := 0 }, { name := "$assertionsDisabled", type := .boolean, accessFlags := 4120, slot := 2, constantValue := 0 }]
  methods := #[k20m0, k20m1, k20m2]
  instanceTypes := #[]
  staticTypes := #[.int, .int, .boolean]
  resolved := Array.replicate 1029 none
  statics := none }

def pool21 : Array CpInfo := pool [(1, .class_ 2), (0, u "java/lang/Math"), (1, .class_ 6), (1, u "java/lang/Object"), (0, u "<init>"), (0, u "()V"), (89, .class_ 100), (1, u "java/lang/Math$RandomNumberGeneratorHolder"), (71, u "negativeZeroFloatBits"), (0, u "J"), (2, u "negativeZeroDoubleBits"), (24, u "min"), (43, u "$assertionsDisabled"), (0, u "Z"), (88, u "(II)I"), (2, u "twoToTheDoubleScaleDown"), (0, u "D"), (4, u "twoToTheDoubleScaleUp"), (9, u "E"), (3, u "PI"), (2, u "TAU"), (2, u "DEGREES_TO_RADIANS"), (0, u "RADIANS_TO_DEGREES")] 94

def k21m0 : Method := { name := "<init>", desc := "()V", sig := { parameters := [], returnType := none }, accessFlags := 2, code := none }
def k21c1 : Code := { maxStack := 2, maxLocals := 2, code := jdk_29_method_69_code, exceptionTable := #[], attributes := #[] }
def k21m1 : Method := { name := "min", desc := "(II)I", sig := { parameters := [.int, .int], returnType := some .int }, accessFlags := 9, code := some k21c1 }
/-- java/lang/Math -/
def k21 : Class := { plain "java/lang/Math" (some 0) with
  accessFlags := 49
  interfaces := #[]
  cf := some (fileOf pool21 1 #[.nestMembers #[98]] #[{ accessFlags := 2, nameIndex := 7, descriptorIndex := 8, attributes := #[] }, { accessFlags := 9, nameIndex := 201, descriptorIndex := 335, attributes := #[] }] 49 4 #[] #[{ accessFlags := 25, nameIndex := 354, descriptorIndex := 339, attributes := #[] }, { accessFlags := 25, nameIndex := 358, descriptorIndex := 339, attributes := #[] }, { accessFlags := 25, nameIndex := 361, descriptorIndex := 339, attributes := #[] }, { accessFlags := 26, nameIndex := 364, descriptorIndex := 339, attributes := #[] }, { accessFlags := 26, nameIndex := 365, descriptorIndex := 339, attributes := #[] }, { accessFlags := 26, nameIndex := 172, descriptorIndex := 173, attributes := #[] }, { accessFlags := 26, nameIndex := 176, descriptorIndex := 173, attributes := #[] }, { accessFlags := 8, nameIndex := 344, descriptorIndex := 339, attributes := #[] }, { accessFlags := 8, nameIndex := 338, descriptorIndex := 339, attributes := #[] }, { accessFlags := 4120, nameIndex := 245, descriptorIndex := 246, attributes := #[] }])
  fields := #[{ name := "E", type := .double, accessFlags := 25, slot := 0, constantValue := 0 }, { name := "PI", type := .double, accessFlags := 25, slot := 1, constantValue := 0 }, { name := "TAU", type := .double, accessFlags := 25, slot := 2, constantValue := 0 }, { name := "DEGREES_TO_RADIANS", type := .double, accessFlags := 26, slot := 3, constantValue := 0 }, { name := "RADIANS_TO_DEGREES", type := .double, accessFlags := 26, slot := 4, constantValue := 0 }, { name := "negativeZeroFloatBits", type := .long, accessFlags := 26, slot := 5, constantValue := 0 }, { name := "negativeZeroDoubleBits", type := .long, accessFlags := 26, slot := 6, constantValue := 0 }, { name := "twoToTheDoubleScaleUp", type := .double, accessFlags := 8, slot := 7, constantValue := 0 }, { name := "twoToTheDoubleScaleDown", type := .double, accessFlags := 8, slot := 8, constantValue := 0 }, { name := "$assertionsDisabled", type := .boolean, accessFlags := 4120, slot := 9, constantValue := 0 }]
  methods := #[k21m0, k21m1]
  instanceTypes := #[]
  staticTypes := #[.double, .double, .double, .double, .double, .long, .long, .double, .double, .boolean]
  resolved := Array.replicate 460 none
  statics := none }

def pool22 : Array CpInfo := pool [(2, .class_ 4), (1, u "java/lang/Object"), (0, u "<init>"), (0, u "()V"), (1, .class_ 10), (1, u "java/lang/System"), (0, u "allowSecurityManager"), (0, u "I"), (16, u "cons"), (0, u "Ljava/io/Console;"), (77, .class_ 110), (1, u "java/lang/System$CallersHolder"), (43, u "initialErrStream"), (0, u "Ljava/io/PrintStream;"), (19, u "security"), (0, u "Ljava/lang/SecurityManager;"), (31, .class_ 209), (0, u "java/lang/System$1"), (7, u "props"), (0, u "Ljava/util/Properties;"), (2, u "lineSeparator"), (0, u "Ljava/lang/String;"), (96, .class_ 321), (1, u "java/lang/System$LoggerFinder"), (5, .class_ 328), (0, u "java/lang/System$Logger"), (67, u "err"), (2, u "out"), (91, u "notSupportedJnuEncoding"), (15, u "in"), (17, u "initialIn"), (0, u "Ljava/io/InputStream;"), (35, u "bootLayer"), (0, u "Ljava/lang/ModuleLayer;"), (99, .class_ 664), (0, u "java/lang/System$2"), (9, u "NEVER"), (2, u "MAYBE"), (49, u "arraycopy"), (0, u "(Ljava/lang/Object;ILjava/lang/Object;II)V"), (72, .class_ 802), (0, u "java/lang/System$Logger$Level")] 31

def k22m0 : Method := { name := "<init>", desc := "()V", sig := { parameters := [], returnType := none }, accessFlags := 2, code := none }
def k22m1 : Method := { name := "arraycopy", desc := "(Ljava/lang/Object;ILjava/lang/Object;II)V", sig := { parameters := [(.object "java/lang/Object"), .int, (.object "java/lang/Object"), .int, .int], returnType := none }, accessFlags := 265, code := none }
/-- java/lang/System -/
def k22 : Class := { plain "java/lang/System" (some 0) with
  accessFlags := 49
  interfaces := #[]
  cf := some (fileOf pool22 8 #[.nestMembers #[319, 327, 801, 108, 663, 208]] #[{ accessFlags := 2, nameIndex := 5, descriptorIndex := 6, attributes := #[] }, { accessFlags := 265, nameIndex := 727, descriptorIndex := 728, attributes := #[] }] 49 2 #[] #[{ accessFlags := 25, nameIndex := 507, descriptorIndex := 526, attributes := #[] }, { accessFlags := 25, nameIndex := 399, descriptorIndex := 155, attributes := #[] }, { accessFlags := 25, nameIndex := 396, descriptorIndex := 155, attributes := #[] }, { accessFlags := 10, nameIndex := 525, descriptorIndex := 526, attributes := #[] }, { accessFlags := 26, nameIndex := 674, descriptorIndex := 12, attributes := #[] }, { accessFlags := 26, nameIndex := 677, descriptorIndex := 12, attributes := #[] }, { accessFlags := 10, nameIndex := 11, descriptorIndex := 12, attributes := #[] }, { accessFlags := 74, nameIndex := 175, descriptorIndex := 176, attributes := #[] }, { accessFlags := 10, nameIndex := 491, descriptorIndex := 222, attributes := #[] }, { accessFlags := 74, nameIndex := 29, descriptorIndex := 30, attributes := #[] }, { accessFlags := 74, nameIndex := 154, descriptorIndex := 155, attributes := #[] }, { accessFlags := 10, nameIndex := 217, descriptorIndex := 218, attributes := #[] }, { accessFlags := 10, nameIndex := 221, descriptorIndex := 222, attributes := #[] }, { accessFlags := 8, nameIndex := 562, descriptorIndex := 563, attributes := #[] }])
  fields := #[{ name := "in", type := (.object "java/io/InputStream"), accessFlags := 25, slot := 0, constantValue := 0 }, { name := "out", type := (.object "java/io/PrintStream"), accessFlags := 25, slot := 1, constantValue := 0 }, { name := "err", type := (.object "java/io/PrintStream"), accessFlags := 25, slot := 2, constantValue := 0 }, { name := "initialIn", type := (.object "java/io/InputStream"), accessFlags := 10, slot := 3, constantValue := 0 }, { name := "NEVER", type := .int, accessFlags := 26, slot := 4, constantValue := 0 }, { name := "MAYBE", type := .int, accessFlags := 26, slot := 5, constantValue := 0 }, { name := "allowSecurityManager", type := .int, accessFlags := 10, slot := 6, constantValue := 0 }, { name := "security", type := (.object "java/lang/SecurityManager"), accessFlags := 74, slot := 7, constantValue := 0 }, { name := "notSupportedJnuEncoding", type := (.object "java/lang/String"), accessFlags := 10, slot := 8, constantValue := 0 }, { name := "cons", type := (.object "java/io/Console"), accessFlags := 74, slot := 9, constantValue := 0 }, { name := "initialErrStream", type := (.object "java/io/PrintStream"), accessFlags := 74, slot := 10, constantValue := 0 }, { name := "props", type := (.object "java/util/Properties"), accessFlags := 10, slot := 11, constantValue := 0 }, { name := "lineSeparator", type := (.object "java/lang/String"), accessFlags := 10, slot := 12, constantValue := 0 }, { name := "bootLayer", type := (.object "java/lang/ModuleLayer"), accessFlags := 8, slot := 13, constantValue := 0 }]
  methods := #[k22m0, k22m1]
  instanceTypes := #[]
  staticTypes := #[(.object "java/io/InputStream"), (.object "java/io/PrintStream"), (.object "java/io/PrintStream"), (.object "java/io/InputStream"), .int, .int, .int, (.object "java/lang/SecurityManager"), (.object "java/lang/String"), (.object "java/io/Console"), (.object "java/io/PrintStream"), (.object "java/util/Properties"), (.object "java/lang/String"), (.object "java/lang/ModuleLayer")]
  resolved := Array.replicate 834 none
  statics := none }

def pool23 : Array CpInfo := pool [(1, .class_ 2), (0, u "java/lang/Appendable"), (0, .class_ 4), (0, u "java/lang/Object")] 9

/-- java/lang/Appendable -/
def k23 : Class := { plain "java/lang/Appendable" (some 0) with
  accessFlags := 1537
  interfaces := #[]
  cf := some (fileOf pool23 1 #[] #[] 1537 3 #[] #[])
  fields := #[]
  methods := #[]
  instanceTypes := #[]
  staticTypes := #[]
  resolved := Array.replicate 14 none
  statics := none }

def pool24 : Array CpInfo := pool [(1, .class_ 2), (0, u "java/lang/String"), (0, .methodref 4 5), (0, .class_ 6), (0, .nameAndType 7 8), (0, u "java/lang/Object"), (0, u "<init>"), (0, u "()V"), (1, .class_ 12), (1, u "java/lang/AbstractStringBuilder"), (0, u "EMPTYVALUE"), (0, u "[B"), (0, .fieldref 10 16), (0, .nameAndType 17 14), (0, u "value"), (0, .fieldref 1 19), (0, .nameAndType 20 21), (0, u "COMPACT_STRINGS"), (0, u "Z"), (0, .fieldref 10 23), (0, .nameAndType 24 25), (0, u "coder"), (0, u "B"), (0, .methodref 27 28), (0, .class_ 29), (0, .nameAndType 30 31), (0, u "java/lang/StringUTF16"), (0, u "newBytesFor"), (0, u "(I)[B"), (1, .nameAndType 34 35), (0, u "length"), (0, u "()I"), (9, u "append"), (1, .interfaceMethodref 48 33), (0, .class_ 49), (0, u "java/lang/CharSequence"), (25, u "maybeLatin1"), (3, .fieldref 10 80), (0, .nameAndType 81 82), (0, u "count"), (0, u "I"), (0, .methodref 10 84), (0, .nameAndType 85 86), (0, u "isLatin1"), (0, u "()Z"), (1, .class_ 90), (1, u "java/lang/StringLatin1"), (9, .methodref 10 101), (0, .nameAndType 102 103), (0, u "ensureCapacityInternal"), (0, u "(I)V"), (21, .methodref 88 126), (0, .nameAndType 127 128), (0, u "inflate"), (0, u "([BI[BII)V"), (7, u "([BII)V"), (24, .methodref 162 163), (0, .class_ 164), (0, .nameAndType 165 166), (0, u "jdk/internal/util/Preconditions"), (0, u "checkFromToIndex"), (0, u "(IIILjava/util/function/BiFunction;)I"), (15, u "Ljava/util/function/BiFunction;"), (0, .fieldref 162 184), (0, .nameAndType 185 182), (0, u "IOOBE_FORMATTER"), (5, .methodref 88 192), (0, .nameAndType 193 194), (0, u "canEncode"), (0, u "(C)Z"), (0, .methodref 10 196), (0, .nameAndType 127 8), (0, .methodref 27 198), (0, .nameAndType 199 136), (0, u "putCharSB"), (25, u "(Ljava/lang/CharSequence;II)Ljava/lang/AbstractStringBuilder;"), (6, .methodref 10 233), (0, .nameAndType 234 235), (0, u "appendChars"), (0, u "(Ljava/lang/String;II)V"), (56, u "(C)Ljava/lang/AbstractStringBuilder;"), (16, .methodref 310 311), (0, .class_ 312), (0, .nameAndType 313 314), (0, u "java/lang/System"), (0, u "arraycopy"), (0, u "(Ljava/lang/Object;ILjava/lang/Object;II)V"), (76, .nameAndType 392 393), (0, u "charAt"), (0, u "(I)C"), (6, .methodref 1 84), (0, .methodref 1 402), (0, .nameAndType 17 403), (0, u "()[B"), (0, .methodref 1 391), (39, .class_ 445), (0, u "java/lang/Appendable"), (106, u "getValue")] 56

def k24m0 : Method := { name := "<init>", desc := "()V", sig := { parameters := [], returnType := none }, accessFlags := 0, code := none }
def k24c1 : Code := { maxStack := 2, maxLocals := 2, code := jdk_68_method_2_code, exceptionTable := #[], attributes := #[] }
def k24m1 : Method := { name := "<init>", desc := "(I)V", sig := { parameters := [.int], returnType := none }, accessFlags := 0, code := some k24c1 }
def k24c2 : Code := { maxStack := 1, maxLocals := 1, code := jdk_68_method_6_code, exceptionTable := #[], attributes := #[] }
def k24m2 : Method := { name := "length", desc := "()I", sig := { parameters := [], returnType := some .int }, accessFlags := 1, code := some k24c2 }
def k24c3 : Code := { maxStack := 4, maxLocals := 3, code := jdk_68_method_9_code, exceptionTable := #[], attributes := #[] }
def k24m3 : Method := { name := "ensureCapacityInternal", desc := "(I)V", sig := { parameters := [.int], returnType := none }, accessFlags := 2, code := some k24c3 }
def k24c4 : Code := { maxStack := 5, maxLocals := 2, code := jdk_68_method_11_code, exceptionTable := #[], attributes := #[] }
def k24m4 : Method := { name := "inflate", desc := "()V", sig := { parameters := [], returnType := none }, accessFlags := 2, code := some k24c4 }
def k24c5 : Code := { maxStack := 4, maxLocals := 5, code := jdk_68_method_27_code, exceptionTable := #[], attributes := #[] }
def k24m5 : Method := { name := "append", desc := "(Ljava/lang/CharSequence;II)Ljava/lang/AbstractStringBuilder;", sig := { parameters := [(.object "java/lang/CharSequence"), .int, .int], returnType := some (.object "java/lang/AbstractStringBuilder") }, accessFlags := 1, code := some k24c5 }
def k24c6 : Code := { maxStack := 5, maxLocals := 2, code := jdk_68_method_31_code, exceptionTable := #[], attributes := #[] }
def k24m6 : Method := { name := "append", desc := "(C)Ljava/lang/AbstractStringBuilder;", sig := { parameters := [.char], returnType := some (.object "java/lang/AbstractStringBuilder") }, accessFlags := 1, code := some k24c6 }
def k24c7 : Code := { maxStack := 1, maxLocals := 1, code := jdk_68_method_64_code, exceptionTable := #[], attributes := #[] }
def k24m7 : Method := { name := "getValue", desc := "()[B", sig := { parameters := [], returnType := some (.array .byte) }, accessFlags := 16, code := some k24c7 }
def k24c8 : Code := { maxStack := 1, maxLocals := 1, code := jdk_68_method_68_code, exceptionTable := #[], attributes := #[] }
def k24m8 : Method := { name := "isLatin1", desc := "()Z", sig := { parameters := [], returnType := some .boolean }, accessFlags := 16, code := some k24c8 }
def k24c9 : Code := { maxStack := 6, maxLocals := 8, code := jdk_68_method_75_code, exceptionTable := #[], attributes := #[] }
def k24m9 : Method := { name := "appendChars", desc := "(Ljava/lang/String;II)V", sig := { parameters := [(.object "java/lang/String"), .int, .int], returnType := none }, accessFlags := 18, code := some k24c9 }
/-- java/lang/AbstractStringBuilder -/
def k24 : Class := { plain "java/lang/AbstractStringBuilder" (some 0) with
  accessFlags := 1056
  interfaces := #[23, 4]
  cf := some (fileOf pool24 10 #[] #[{ accessFlags := 0, nameIndex := 7, descriptorIndex := 8, attributes := #[] }, { accessFlags := 0, nameIndex := 7, descriptorIndex := 103, attributes := #[] }, { accessFlags := 1, nameIndex := 34, descriptorIndex := 35, attributes := #[] }, { accessFlags := 2, nameIndex := 102, descriptorIndex := 103, attributes := #[] }, { accessFlags := 2, nameIndex := 127, descriptorIndex := 8, attributes := #[] }, { accessFlags := 1, nameIndex := 45, descriptorIndex := 225, attributes := #[] }, { accessFlags := 1, nameIndex := 45, descriptorIndex := 292, attributes := #[] }, { accessFlags := 16, nameIndex := 552, descriptorIndex := 403, attributes := #[] }, { accessFlags := 16, nameIndex := 85, descriptorIndex := 86, attributes := #[] }, { accessFlags := 18, nameIndex := 234, descriptorIndex := 235, attributes := #[] }] 1056 4 #[444, 48] #[{ accessFlags := 0, nameIndex := 17, descriptorIndex := 14, attributes := #[] }, { accessFlags := 0, nameIndex := 24, descriptorIndex := 25, attributes := #[] }, { accessFlags := 0, nameIndex := 75, descriptorIndex := 21, attributes := #[] }, { accessFlags := 0, nameIndex := 81, descriptorIndex := 82, attributes := #[] }, { accessFlags := 26, nameIndex := 13, descriptorIndex := 14, attributes := #[] }])
  fields := #[{ name := "value", type := (.array .byte), accessFlags := 0, slot := 0, constantValue := 0 }, { name := "coder", type := .byte, accessFlags := 0, slot := 1, constantValue := 0 }, { name := "maybeLatin1", type := .boolean, accessFlags := 0, slot := 2, constantValue := 0 }, { name := "count", type := .int, accessFlags := 0, slot := 3, constantValue := 0 }, { name := "EMPTYVALUE", type := (.array .byte), accessFlags := 26, slot := 0, constantValue := 0 }]
  methods := #[k24m0, k24m1, k24m2, k24m3, k24m4, k24m5, k24m6, k24m7, k24m8, k24m9]
  instanceTypes := #[(.array .byte), .byte, .boolean, .int]
  staticTypes := #[(.array .byte)]
  resolved := Array.replicate 609 none
  statics := none }

def pool25 : Array CpInfo := pool [(1, .methodref 2 3), (0, .class_ 4), (0, .nameAndType 5 6), (0, u "java/lang/AbstractStringBuilder"), (0, u "<init>"), (0, u "(I)V"), (11, .class_ 20), (1, u "java/lang/String"), (3, .class_ 26), (1, u "java/lang/StringBuilder"), (0, u "append"), (10, .methodref 2 39), (0, .nameAndType 27 40), (0, u "(Ljava/lang/CharSequence;II)Ljava/lang/AbstractStringBuilder;"), (9, .methodref 2 51), (0, .nameAndType 27 52), (0, u "(C)Ljava/lang/AbstractStringBuilder;"), (84, .methodref 18 138), (0, .nameAndType 5 139), (0, u "(Ljava/lang/StringBuilder;)V"), (5, u "()V"), (10, u "()I"), (129, u "(C)Ljava/lang/StringBuilder;"), (11, u "(Ljava/lang/CharSequence;II)Ljava/lang/StringBuilder;"), (44, .methodref 2 344), (0, .nameAndType 345 156), (0, u "length"), (3, .class_ 350), (0, u "java/lang/Appendable"), (0, .class_ 352), (0, u "java/io/Serializable"), (0, .class_ 354), (0, u "java/lang/Comparable"), (0, .class_ 356), (0, u "java/lang/CharSequence"), (0, u "serialVersionUID"), (0, u "J"), (40, u "toString"), (0, u "()Ljava/lang/String;")] 21

def k25m0 : Method := { name := "<init>", desc := "()V", sig := { parameters := [], returnType := none }, accessFlags := 1, code := none }
def k25c1 : Code := { maxStack := 2, maxLocals := 2, code := jdk_67_method_2_code, exceptionTable := #[], attributes := #[] }
def k25m1 : Method := { name := "<init>", desc := "(I)V", sig := { parameters := [.int], returnType := none }, accessFlags := 1, code := some k25c1 }
def k25c2 : Code := { maxStack := 4, maxLocals := 4, code := jdk_67_method_10_code, exceptionTable := #[], attributes := #[] }
def k25m2 : Method := { name := "append", desc := "(Ljava/lang/CharSequence;II)Ljava/lang/StringBuilder;", sig := { parameters := [(.object "java/lang/CharSequence"), .int, .int], returnType := some (.object "java/lang/StringBuilder") }, accessFlags := 1, code := some k25c2 }
def k25c3 : Code := { maxStack := 2, maxLocals := 2, code := jdk_67_method_14_code, exceptionTable := #[], attributes := #[] }
def k25m3 : Method := { name := "append", desc := "(C)Ljava/lang/StringBuilder;", sig := { parameters := [.char], returnType := some (.object "java/lang/StringBuilder") }, accessFlags := 1, code := some k25c3 }
def k25c4 : Code := { maxStack := 3, maxLocals := 1, code := jdk_67_method_42_code, exceptionTable := #[], attributes := #[] }
def k25m4 : Method := { name := "toString", desc := "()Ljava/lang/String;", sig := { parameters := [], returnType := some (.object "java/lang/String") }, accessFlags := 1, code := some k25c4 }
def k25c5 : Code := { maxStack := 1, maxLocals := 1, code := jdk_67_method_93_code, exceptionTable := #[], attributes := #[] }
def k25m5 : Method := { name := "length", desc := "()I", sig := { parameters := [], returnType := some .int }, accessFlags := 4161, code := some k25c5 }
/-- java/lang/StringBuilder -/
def k25 : Class := { plain "java/lang/StringBuilder" (some 24) with
  accessFlags := 49
  interfaces := #[23, 2, 3, 4]
  cf := some (fileOf pool25 24 #[] #[{ accessFlags := 1, nameIndex := 5, descriptorIndex := 145, attributes := #[] }, { accessFlags := 1, nameIndex := 5, descriptorIndex := 6, attributes := #[] }, { accessFlags := 1, nameIndex := 27, descriptorIndex := 298, attributes := #[] }, { accessFlags := 1, nameIndex := 27, descriptorIndex := 286, attributes := #[] }, { accessFlags := 1, nameIndex := 399, descriptorIndex := 400, attributes := #[] }, { accessFlags := 4161, nameIndex := 345, descriptorIndex := 156, attributes := #[] }] 49 2 #[349, 351, 353, 355] #[{ accessFlags := 24, nameIndex := 357, descriptorIndex := 358, attributes := #[] }])
  fields := #[{ name := "serialVersionUID", type := .long, accessFlags := 24, slot := 0, constantValue := 0 }]
  methods := #[k25m0, k25m1, k25m2, k25m3, k25m4, k25m5]
  instanceTypes := #[(.array .byte), .byte, .boolean, .int]
  staticTypes := #[.long]
  resolved := Array.replicate 422 none
  statics := none }

def pool26 : Array CpInfo := pool [(9, u "<init>"), (6, .class_ 18), (1, u "java/lang/Object"), (0, u "()V"), (1, .class_ 23), (1, u "jdk/internal/util/ArraysSupport"), (0, u "LOG2_ARRAY_LONG_INDEX_SCALE"), (0, u "I"), (2, u "U"), (0, u "Ljdk/internal/misc/Unsafe;"), (8, u "BIG_ENDIAN"), (0, u "Z"), (8, u "LOG2_BYTE_BIT_SIZE"), (4, u "LOG2_ARRAY_INT_INDEX_SCALE"), (54, u "JLA"), (0, u "Ljdk/internal/access/JavaLangAccess;"), (11, u "LOG2_ARRAY_BOOLEAN_INDEX_SCALE"), (9, u "LOG2_ARRAY_BYTE_INDEX_SCALE"), (5, u "LOG2_ARRAY_CHAR_INDEX_SCALE"), (5, u "LOG2_ARRAY_SHORT_INDEX_SCALE"), (18, u "LOG2_ARRAY_FLOAT_INDEX_SCALE"), (24, u "LOG2_ARRAY_DOUBLE_INDEX_SCALE"), (89, u "T_BOOLEAN"), (2, u "T_CHAR"), (1, u "T_FLOAT"), (1, u "T_DOUBLE"), (1, u "T_BYTE"), (1, u "T_SHORT"), (1, u "T_INT"), (1, u "T_LONG"), (1, u "SOFT_MAX_ARRAY_LENGTH")] 83

def k26m0 : Method := { name := "<init>", desc := "()V", sig := { parameters := [], returnType := none }, accessFlags := 2, code := none }
/-- jdk/internal/util/ArraysSupport -/
def k26 : Class := { plain "jdk/internal/util/ArraysSupport" (some 0) with
  accessFlags := 33
  interfaces := #[]
  cf := some (fileOf pool26 21 #[] #[{ accessFlags := 2, nameIndex := 9, descriptorIndex := 19, attributes := #[] }] 33 16 #[] #[{ accessFlags := 24, nameIndex := 28, descriptorIndex := 29, attributes := #[] }, { accessFlags := 26, nameIndex := 38, descriptorIndex := 39, attributes := #[] }, { accessFlags := 25, nameIndex := 121, descriptorIndex := 25, attributes := #[] }, { accessFlags := 25, nameIndex := 131, descriptorIndex := 25, attributes := #[] }, { accessFlags := 25, nameIndex := 137, descriptorIndex := 25, attributes := #[] }, { accessFlags := 25, nameIndex := 143, descriptorIndex := 25, attributes := #[] }, { accessFlags := 25, nameIndex := 53, descriptorIndex := 25, attributes := #[] }, { accessFlags := 25, nameIndex := 24, descriptorIndex := 25, attributes := #[] }, { accessFlags := 25, nameIndex := 162, descriptorIndex := 25, attributes := #[] }, { accessFlags := 25, nameIndex := 187, descriptorIndex := 25, attributes := #[] }, { accessFlags := 26, nameIndex := 48, descriptorIndex := 25, attributes := #[] }, { accessFlags := 25, nameIndex := 277, descriptorIndex := 25, attributes := #[] }, { accessFlags := 25, nameIndex := 280, descriptorIndex := 25, attributes := #[] }, { accessFlags := 25, nameIndex := 282, descriptorIndex := 25, attributes := #[] }, { accessFlags := 25, nameIndex := 284, descriptorIndex := 25, attributes := #[] }, { accessFlags := 25, nameIndex := 286, descriptorIndex := 25, attributes := #[] }, { accessFlags := 25, nameIndex := 288, descriptorIndex := 25, attributes := #[] }, { accessFlags := 25, nameIndex := 290, descriptorIndex := 25, attributes := #[] }, { accessFlags := 25, nameIndex := 292, descriptorIndex := 25, attributes := #[] }, { accessFlags := 26, nameIndex := 108, descriptorIndex := 109, attributes := #[] }, { accessFlags := 25, nameIndex := 294, descriptorIndex := 25, attributes := #[] }])
  fields := #[{ name := "U", type := (.object "jdk/internal/misc/Unsafe"), accessFlags := 24, slot := 0, constantValue := 0 }, { name := "BIG_ENDIAN", type := .boolean, accessFlags := 26, slot := 1, constantValue := 0 }, { name := "LOG2_ARRAY_BOOLEAN_INDEX_SCALE", type := .int, accessFlags := 25, slot := 2, constantValue := 0 }, { name := "LOG2_ARRAY_BYTE_INDEX_SCALE", type := .int, accessFlags := 25, slot := 3, constantValue := 0 }, { name := "LOG2_ARRAY_CHAR_INDEX_SCALE", type := .int, accessFlags := 25, slot := 4, constantValue := 0 }, { name := "LOG2_ARRAY_SHORT_INDEX_SCALE", type := .int, accessFlags := 25, slot := 5, constantValue := 0 }, { name := "LOG2_ARRAY_INT_INDEX_SCALE", type := .int, accessFlags := 25, slot := 6, constantValue := 0 }, { name := "LOG2_ARRAY_LONG_INDEX_SCALE", type := .int, accessFlags := 25, slot := 7, constantValue := 0 }, { name := "LOG2_ARRAY_FLOAT_INDEX_SCALE", type := .int, accessFlags := 25, slot := 8, constantValue := 0 }, { name := "LOG2_ARRAY_DOUBLE_INDEX_SCALE", type := .int, accessFlags := 25, slot := 9, constantValue := 0 }, { name := "LOG2_BYTE_BIT_SIZE", type := .int, accessFlags := 26, slot := 10, constantValue := 0 }, { name := "T_BOOLEAN", type := .int, accessFlags := 25, slot := 11, constantValue := 0 }, { name := "T_CHAR", type := .int, accessFlags := 25, slot := 12, constantValue := 0 }, { name := "T_FLOAT", type := .int, accessFlags := 25, slot := 13, constantValue := 0 }, { name := "T_DOUBLE", type := .int, accessFlags := 25, slot := 14, constantValue := 0 }, { name := "T_BYTE", type := .int, accessFlags := 25, slot := 15, constantValue := 0 }, { name := "T_SHORT", type := .int, accessFlags := 25, slot := 16, constantValue := 0 }, { name := "T_INT", type := .int, accessFlags := 25, slot := 17, constantValue := 0 }, { name := "T_LONG", type := .int, accessFlags := 25, slot := 18, constantValue := 0 }, { name := "JLA", type := (.object "jdk/internal/access/JavaLangAccess"), accessFlags := 26, slot := 19, constantValue := 0 }, { name := "SOFT_MAX_ARRAY_LENGTH", type := .int, accessFlags := 25, slot := 20, constantValue := 0 }]
  methods := #[k26m0]
  instanceTypes := #[]
  staticTypes := #[(.object "jdk/internal/misc/Unsafe"), .boolean, .int, .int, .int, .int, .int, .int, .int, .int, .int, .int, .int, .int, .int, .int, .int, .int, .int, (.object "jdk/internal/access/JavaLangAccess"), .int]
  resolved := Array.replicate 378 none
  statics := none }

/-- the primitive byte -/
def k27 : Class := { plain "byte" none with kind := .primitive 'B', accessFlags := 0x411 }
/-- [B -/
def k28 : Class := { plain "[B" (some 0) with kind := .array 27 .byte, interfaces := #[19, 2], accessFlags := 1041 }

/-- the primitive char -/
def k29 : Class := { plain "char" none with kind := .primitive 'C', accessFlags := 0x411 }
/-- [C -/
def k30 : Class := { plain "[C" (some 0) with kind := .array 29 .char, interfaces := #[19, 2], accessFlags := 1041 }

/-- the primitive int -/
def k31 : Class := { plain "int" none with kind := .primitive 'I', accessFlags := 0x411 }
/-- [I -/
def k32 : Class := { plain "[I" (some 0) with kind := .array 31 .int, interfaces := #[19, 2], accessFlags := 1041 }

def heap : Heap := #[{ cls := 7, slots := #[.long 0, .int 1, .null, .int 0, .null, .int 0, .int 0], vm := .statics 7 },
  { cls := 8, slots := #[.int 0, .int 8, .int 0, .int 1], vm := .statics 8 },
  { cls := 11, slots := #[.null, .null, .null], vm := .statics 11 },
  { cls := 13, slots := #[.null, .null, .ref 5, .null, .null, .null], vm := .statics 13 },
  { cls := 17, slots := #[.ref 5, .null], vm := .statics 17 },
  { cls := 17, slots := #[.null, .null, .null], vm := .none }]
def classes : Array Class := #[k0, k1, k2, k3, k4, k5, k6, k7, k8, k9, k10, k11, k12, k13, k14, k15, k16, k17, k18, k19, k20, k21, k22, k23, k24, k25, k26, k27, k28, k29, k30, k31, k32]
def interned : List (Array UInt16 × Addr) := []
def slotsUsed : Nat := 25
def theMethod : MethodId := ⟨1, 7⟩
def args0 : Array Value := #[.int 5, .int 5, .int 5, .int 5]
def aboutOver (below : List Frame) : State where
  vm := { classes := classes, interned := interned.toArray }
  heap := heap
  slotsUsed := slotsUsed
  threads := #[{ frames := .invoking theMethod args0 :: below }]
def below0 : List Frame := [.native { method := ⟨0, 0⟩, args := #[] }]
def about1 : State := aboutOver below0
def p0 : Program := .bare "" "" ""
def e0 : Env := launch0.env 0 0 0
theorem w_frames : about1.frames = Frame.invoking theMethod args0 :: below0 := rfl
set_option maxRecDepth 65536 in
theorem w_args : argsFit about1.vm theMethod args0 = true := by decide +kernel
set_option maxRecDepth 65536 in
theorem w_heap : heapFits about1 = true := by decide +kernel
set_option maxRecDepth 65536 in
theorem w_runnable : about1.curStatus? = some .runnable := by decide +kernel
set_option maxRecDepth 65536 in
theorem w_alone : about1.alone = true := by decide +kernel
set_option maxRecDepth 65536 in
theorem w_named : about1.methodNamed? x = some theMethod := by decide +kernel
set_option maxRecDepth 65536 in
theorem w_hears : about1.hears theMethod below0 = true := by decide +kernel
set_option maxRecDepth 65536 in
theorem w_ripe : about1.ripe theMethod args0 below0 = true := by decide +kernel
theorem w_running : about1.status = .running := rfl
set_option maxRecDepth 65536 in
theorem w_room : about1.hasRoom e0.platform room_1 = true :=
  launch0.hasRoom_least _ room_1 (by decide +kernel) (by decide +kernel) (by decide +kernel) (by decide +kernel) (by decide +kernel) (by decide +kernel)
theorem allAtoms_all (ts : List Jvm.Cond) (a : Array Jvm.Value) (st : Jvm.State) : (allAtoms ts).before a st = ts.all (fun c => c.before a st) := by
  induction ts with
  | nil => rfl
  | cons c t ih =>
    show (Jvm.Cond.and c (allAtoms t)).before a st = _
    rw [Jvm.Cond.before_and, ih, List.all_cons]
def words1 : List Jvm.Cond := Jvm.Cond.code x code maxLocals ret :: tables_1
/-- a 'code' word, met by the world's own term for the bytes: nothing is compared byte by byte -/
theorem code_word {y : MethodName} {bytes : ByteArray} {mx : Nat} {rt : Option FieldType} {a : Array Value} {s : State} {m : MethodId} {meth : Method} {c : Code} (h1 : s.methodNamed? y = some m) (h2 : s.vm.method? m = some meth) (h3 : meth.code = some c) (h4 : c.code = bytes)
    (h5 : (c.maxLocals == mx && c.exceptionTable.isEmpty && decide (c.maxStack ≤ mostOperands) && decide (meth.sig.returnType = rt) && !meth.locks && decide (parseMethodDescriptor y.desc = some meth.sig)) = true) : (Jvm.Cond.code y bytes mx rt).before a s = true := by
  simp only [Bool.and_eq_true, beq_iff_eq, Bool.not_eq_true', decide_eq_true_eq] at h5
  obtain ⟨⟨⟨⟨⟨g1, g2⟩, g3⟩, g4⟩, g5⟩, g6⟩ := h5
  simp [Cond.before, Cond.holds, Cond.value, h1, h2, h3, h4, g1, g2, g3, g4, g5, g6]
def isCode : Jvm.Cond → Bool
  | .code _ _ _ _ => true
  | _ => false
theorem all_split {L : List Jvm.Cond} {P : Jvm.Cond → Bool} (h1 : L.all (fun c => isCode c || P c) = true) (h2 : ∀ c ∈ L.filter isCode, P c = true) : L.all P = true := by
  refine List.all_eq_true.mpr fun c hc => ?_
  have h := List.all_eq_true.mp h1 c hc
  rcases Bool.eq_false_or_eq_true (isCode c) with hi | hi
  · exact h2 c (List.mem_filter.mpr ⟨hc, hi⟩)
  · simpa [hi] using h
set_option maxRecDepth 65536 in
theorem w_c0 : (Jvm.Cond.code x code maxLocals ret).before args0 about1 = true := code_word (m := ⟨1, 7⟩) (meth := k1m7) (c := k1c7) (by decide +kernel) rfl rfl rfl (by decide +kernel)
set_option maxRecDepth 65536 in
theorem w_c1 : (Jvm.Cond.code ({ cls := "com/example/gradual_reply/gradualreply/Utf8EncodePinLaw", name := "draw", desc := "(I)C" } : Jvm.MethodName) method_2_code (1 : Nat) (Option.some Jvm.ClassFile.FieldType.char)).before args0 about1 = true := code_word (m := ⟨1, 1⟩) (meth := k1m1) (c := k1c1) (by decide +kernel) rfl rfl rfl (by decide +kernel)
set_option maxRecDepth 65536 in
theorem w_c2 : (Jvm.Cond.code ({ cls := "java/lang/String", name := "<init>", desc := "([C)V" } : Jvm.MethodName) jdk_42_method_3_code (2 : Nat) (Option.none : Option Jvm.ClassFile.FieldType)).before args0 about1 = true := code_word (m := ⟨7, 1⟩) (meth := k7m1) (c := k7c1) (by decide +kernel) rfl rfl rfl (by decide +kernel)
set_option maxRecDepth 65536 in
theorem w_c3 : (Jvm.Cond.code ({ cls := "java/lang/String", name := "<init>", desc := "([CIILjava/lang/Void;)V" } : Jvm.MethodName) jdk_42_method_149_code (6 : Nat) (Option.none : Option Jvm.ClassFile.FieldType)).before args0 about1 = true := code_word (m := ⟨7, 10⟩) (meth := k7m10) (c := k7c10) (by decide +kernel) rfl rfl rfl (by decide +kernel)
set_option maxRecDepth 65536 in
theorem w_c4 : (Jvm.Cond.code ({ cls := "java/lang/Object", name := "<init>", desc := "()V" } : Jvm.MethodName) object_method_1_code (1 : Nat) (Option.none : Option Jvm.ClassFile.FieldType)).before args0 about1 = true := code_word (m := ⟨0, 0⟩) (meth := k0m0) (c := k0c0) (by decide +kernel) rfl rfl rfl (by decide +kernel)
set_option maxRecDepth 65536 in
theorem w_c5 : (Jvm.Cond.code ({ cls := "java/lang/StringUTF16", name := "compress", desc := "([CII)[B" } : Jvm.MethodName) jdk_52_method_16_code (6 : Nat) (Option.some (Jvm.ClassFile.FieldType.array Jvm.ClassFile.FieldType.byte))).before args0 about1 = true := code_word (m := ⟨8, 8⟩) (meth := k8m8) (c := k8c8) (by decide +kernel) rfl rfl rfl (by decide +kernel)
set_option maxRecDepth 65536 in
theorem w_c6 : (Jvm.Cond.code ({ cls := "java/lang/StringUTF16", name := "compress", desc := "([CI[BII)I" } : Jvm.MethodName) jdk_52_method_21_code (7 : Nat) (Option.some Jvm.ClassFile.FieldType.int)).before args0 about1 = true := code_word (m := ⟨8, 9⟩) (meth := k8m9) (c := k8c9) (by decide +kernel) rfl rfl rfl (by decide +kernel)
set_option maxRecDepth 65536 in
theorem w_c7 : (Jvm.Cond.code ({ cls := "java/lang/StringUTF16", name := "coderFromArrayLen", desc := "([BI)B" } : Jvm.MethodName) jdk_52_method_15_code (2 : Nat) (Option.some Jvm.ClassFile.FieldType.byte)).before args0 about1 = true := code_word (m := ⟨8, 7⟩) (meth := k8m7) (c := k8c7) (by decide +kernel) rfl rfl rfl (by decide +kernel)
set_option maxRecDepth 65536 in
theorem w_c8 : (Jvm.Cond.code ({ cls := "com/example/gradual_reply/gradualreply/Utf8EncodePinLaw", name := "step", desc := "([CI[B[I)V" } : Jvm.MethodName) method_6_code (7 : Nat) (Option.none : Option Jvm.ClassFile.FieldType)).before args0 about1 = true := code_word (m := ⟨1, 5⟩) (meth := k1m5) (c := k1c5) (by decide +kernel) rfl rfl rfl (by decide +kernel)
set_option maxRecDepth 65536 in
theorem w_c9 : (Jvm.Cond.code ({ cls := "com/example/gradual_reply/gradualreply/Utf8EncodePinLaw", name := "isHigh", desc := "(C)Z" } : Jvm.MethodName) method_3_code (1 : Nat) (Option.some Jvm.ClassFile.FieldType.boolean)).before args0 about1 = true := code_word (m := ⟨1, 2⟩) (meth := k1m2) (c := k1c2) (by decide +kernel) rfl rfl rfl (by decide +kernel)
set_option maxRecDepth 65536 in
theorem w_c10 : (Jvm.Cond.code ({ cls := "com/example/gradual_reply/gradualreply/Utf8EncodePinLaw", name := "put", desc := "([B[II)V" } : Jvm.MethodName) method_5_code (3 : Nat) (Option.none : Option Jvm.ClassFile.FieldType)).before args0 about1 = true := code_word (m := ⟨1, 4⟩) (meth := k1m4) (c := k1c4) (by decide +kernel) rfl rfl rfl (by decide +kernel)
set_option maxRecDepth 65536 in
theorem w_c11 : (Jvm.Cond.code ({ cls := "com/example/gradual_reply/gradualreply/Utf8", name := "encode", desc := "(Ljava/lang/CharSequence;)[B" } : Jvm.MethodName) prog_16_method_2_code (1 : Nat) (Option.some (Jvm.ClassFile.FieldType.array Jvm.ClassFile.FieldType.byte))).before args0 about1 = true := code_word (m := ⟨9, 1⟩) (meth := k9m1) (c := k9c1) (by decide +kernel) rfl rfl rfl (by decide +kernel)
set_option maxRecDepth 65536 in
theorem w_c12 : (Jvm.Cond.code ({ cls := "java/lang/String", name := "toString", desc := "()Ljava/lang/String;" } : Jvm.MethodName) jdk_42_method_126_code (1 : Nat) (Option.some (Jvm.ClassFile.FieldType.object "java/lang/String"))).before args0 about1 = true := code_word (m := ⟨7, 9⟩) (meth := k7m9) (c := k7c9) (by decide +kernel) rfl rfl rfl (by decide +kernel)
set_option maxRecDepth 65536 in
theorem w_c13 : (Jvm.Cond.code ({ cls := "com/example/gradual_reply/gradualreply/Utf8", name := "replaceUnpairedSurrogates", desc := "(Ljava/lang/String;)Ljava/lang/String;" } : Jvm.MethodName) prog_16_method_3_code (5 : Nat) (Option.some (Jvm.ClassFile.FieldType.object "java/lang/String"))).before args0 about1 = true := code_word (m := ⟨9, 2⟩) (meth := k9m2) (c := k9c2) (by decide +kernel) rfl rfl rfl (by decide +kernel)
set_option maxRecDepth 65536 in
theorem w_c14 : (Jvm.Cond.code ({ cls := "com/example/gradual_reply/gradualreply/Utf8", name := "nextUnpairedSurrogate", desc := "(Ljava/lang/String;I)I" } : Jvm.MethodName) prog_16_method_4_code (5 : Nat) (Option.some Jvm.ClassFile.FieldType.int)).before args0 about1 = true := code_word (m := ⟨9, 3⟩) (meth := k9m3) (c := k9c3) (by decide +kernel) rfl rfl rfl (by decide +kernel)
set_option maxRecDepth 65536 in
theorem w_c15 : (Jvm.Cond.code ({ cls := "java/lang/String", name := "length", desc := "()I" } : Jvm.MethodName) jdk_42_method_54_code (1 : Nat) (Option.some Jvm.ClassFile.FieldType.int)).before args0 about1 = true := code_word (m := ⟨7, 6⟩) (meth := k7m6) (c := k7c6) (by decide +kernel) rfl rfl rfl (by decide +kernel)
set_option maxRecDepth 65536 in
theorem w_c16 : (Jvm.Cond.code ({ cls := "java/lang/String", name := "coder", desc := "()B" } : Jvm.MethodName) jdk_42_method_152_code (1 : Nat) (Option.some Jvm.ClassFile.FieldType.byte)).before args0 about1 = true := code_word (m := ⟨7, 12⟩) (meth := k7m12) (c := k7c12) (by decide +kernel) rfl rfl rfl (by decide +kernel)
set_option maxRecDepth 65536 in
theorem w_c17 : (Jvm.Cond.code ({ cls := "java/lang/String", name := "charAt", desc := "(I)C" } : Jvm.MethodName) jdk_42_method_56_code (2 : Nat) (Option.some Jvm.ClassFile.FieldType.char)).before args0 about1 = true := code_word (m := ⟨7, 7⟩) (meth := k7m7) (c := k7c7) (by decide +kernel) rfl rfl rfl (by decide +kernel)
set_option maxRecDepth 65536 in
theorem w_c18 : (Jvm.Cond.code ({ cls := "java/lang/String", name := "isLatin1", desc := "()Z" } : Jvm.MethodName) jdk_42_method_154_code (1 : Nat) (Option.some Jvm.ClassFile.FieldType.boolean)).before args0 about1 = true := code_word (m := ⟨7, 14⟩) (meth := k7m14) (c := k7c14) (by decide +kernel) rfl rfl rfl (by decide +kernel)
set_option maxRecDepth 65536 in
theorem w_c19 : (Jvm.Cond.code ({ cls := "java/lang/StringLatin1", name := "charAt", desc := "([BI)C" } : Jvm.MethodName) jdk_43_method_2_code (2 : Nat) (Option.some Jvm.ClassFile.FieldType.char)).before args0 about1 = true := code_word (m := ⟨10, 1⟩) (meth := k10m1) (c := k10c1) (by decide +kernel) rfl rfl rfl (by decide +kernel)
set_option maxRecDepth 65536 in
theorem w_c20 : (Jvm.Cond.code ({ cls := "java/lang/String", name := "checkIndex", desc := "(II)V" } : Jvm.MethodName) jdk_42_method_155_code (2 : Nat) (Option.none : Option Jvm.ClassFile.FieldType)).before args0 about1 = true := code_word (m := ⟨7, 15⟩) (meth := k7m15) (c := k7c15) (by decide +kernel) rfl rfl rfl (by decide +kernel)
set_option maxRecDepth 65536 in
theorem w_c21 : (Jvm.Cond.code ({ cls := "jdk/internal/util/Preconditions", name := "checkIndex", desc := "(IILjava/util/function/BiFunction;)I" } : Jvm.MethodName) jdk_41_method_11_code (3 : Nat) (Option.some Jvm.ClassFile.FieldType.int)).before args0 about1 = true := code_word (m := ⟨11, 1⟩) (meth := k11m1) (c := k11c1) (by decide +kernel) rfl rfl rfl (by decide +kernel)
set_option maxRecDepth 65536 in
theorem w_c22 : (Jvm.Cond.code ({ cls := "java/lang/Character", name := "isSurrogate", desc := "(C)Z" } : Jvm.MethodName) jdk_89_method_16_code (1 : Nat) (Option.some Jvm.ClassFile.FieldType.boolean)).before args0 about1 = true := code_word (m := ⟨12, 2⟩) (meth := k12m2) (c := k12c2) (by decide +kernel) rfl rfl rfl (by decide +kernel)
set_option maxRecDepth 65536 in
theorem w_c23 : (Jvm.Cond.code ({ cls := "java/lang/String", name := "getBytes", desc := "(Ljava/nio/charset/Charset;)[B" } : Jvm.MethodName) jdk_42_method_64_code (2 : Nat) (Option.some (Jvm.ClassFile.FieldType.array Jvm.ClassFile.FieldType.byte))).before args0 about1 = true := code_word (m := ⟨7, 8⟩) (meth := k7m8) (c := k7c8) (by decide +kernel) rfl rfl rfl (by decide +kernel)
set_option maxRecDepth 65536 in
theorem w_c24 : (Jvm.Cond.code ({ cls := "java/lang/String", name := "encode", desc := "(Ljava/nio/charset/Charset;B[B)[B" } : Jvm.MethodName) jdk_42_method_18_code (3 : Nat) (Option.some (Jvm.ClassFile.FieldType.array Jvm.ClassFile.FieldType.byte))).before args0 about1 = true := code_word (m := ⟨7, 2⟩) (meth := k7m2) (c := k7c2) (by decide +kernel) rfl rfl rfl (by decide +kernel)
set_option maxRecDepth 65536 in
theorem w_c25 : (Jvm.Cond.code ({ cls := "java/lang/String", name := "encodeUTF8", desc := "(B[BZ)[B" } : Jvm.MethodName) jdk_42_method_46_code (9 : Nat) (Option.some (Jvm.ClassFile.FieldType.array Jvm.ClassFile.FieldType.byte))).before args0 about1 = true := code_word (m := ⟨7, 3⟩) (meth := k7m3) (c := k7c3) (by decide +kernel) rfl rfl rfl (by decide +kernel)
set_option maxRecDepth 65536 in
theorem w_c26 : (Jvm.Cond.code ({ cls := "java/lang/StringCoding", name := "hasNegatives", desc := "([BII)Z" } : Jvm.MethodName) jdk_123_method_2_code (3 : Nat) (Option.some Jvm.ClassFile.FieldType.boolean)).before args0 about1 = true := code_word (m := ⟨18, 1⟩) (meth := k18m1) (c := k18c1) (by decide +kernel) rfl rfl rfl (by decide +kernel)
set_option maxRecDepth 65536 in
theorem w_c27 : (Jvm.Cond.code ({ cls := "java/lang/StringCoding", name := "countPositives", desc := "([BII)I" } : Jvm.MethodName) jdk_123_method_3_code (5 : Nat) (Option.some Jvm.ClassFile.FieldType.int)).before args0 about1 = true := code_word (m := ⟨18, 2⟩) (meth := k18m2) (c := k18c2) (by decide +kernel) rfl rfl rfl (by decide +kernel)
set_option maxRecDepth 65536 in
theorem w_c28 : (Jvm.Cond.code ({ cls := "com/example/gradual_reply/gradualreply/Utf8EncodePinLaw", name := "eqAt", desc := "([B[BII)Z" } : Jvm.MethodName) method_7_code (4 : Nat) (Option.some Jvm.ClassFile.FieldType.boolean)).before args0 about1 = true := code_word (m := ⟨1, 6⟩) (meth := k1m6) (c := k1c6) (by decide +kernel) rfl rfl rfl (by decide +kernel)
set_option maxRecDepth 65536 in
theorem w_c29 : (Jvm.Cond.code ({ cls := "java/lang/StringUTF16", name := "newBytesFor", desc := "(I)[B" } : Jvm.MethodName) jdk_52_method_2_code (1 : Nat) (Option.some (Jvm.ClassFile.FieldType.array Jvm.ClassFile.FieldType.byte))).before args0 about1 = true := code_word (m := ⟨8, 1⟩) (meth := k8m1) (c := k8c1) (by decide +kernel) rfl rfl rfl (by decide +kernel)
set_option maxRecDepth 65536 in
theorem w_c30 : (Jvm.Cond.code ({ cls := "java/lang/StringUTF16", name := "newBytesLength", desc := "(I)I" } : Jvm.MethodName) jdk_52_method_3_code (1 : Nat) (Option.some Jvm.ClassFile.FieldType.int)).before args0 about1 = true := code_word (m := ⟨8, 2⟩) (meth := k8m2) (c := k8c2) (by decide +kernel) rfl rfl rfl (by decide +kernel)
set_option maxRecDepth 65536 in
theorem w_c31 : (Jvm.Cond.code ({ cls := "java/util/Arrays", name := "copyOf", desc := "([BI)[B" } : Jvm.MethodName) jdk_65_method_121_code (3 : Nat) (Option.some (Jvm.ClassFile.FieldType.array Jvm.ClassFile.FieldType.byte))).before args0 about1 = true := code_word (m := ⟨20, 1⟩) (meth := k20m1) (c := k20c1) (by decide +kernel) rfl rfl rfl (by decide +kernel)
set_option maxRecDepth 65536 in
theorem w_c32 : (Jvm.Cond.code ({ cls := "java/lang/Math", name := "min", desc := "(II)I" } : Jvm.MethodName) jdk_29_method_69_code (2 : Nat) (Option.some Jvm.ClassFile.FieldType.int)).before args0 about1 = true := code_word (m := ⟨21, 1⟩) (meth := k21m1) (c := k21c1) (by decide +kernel) rfl rfl rfl (by decide +kernel)
set_option maxRecDepth 65536 in
theorem w_c33 : (Jvm.Cond.code ({ cls := "java/lang/StringUTF16", name := "toBytes", desc := "([CII)[B" } : Jvm.MethodName) jdk_52_method_14_code (5 : Nat) (Option.some (Jvm.ClassFile.FieldType.array Jvm.ClassFile.FieldType.byte))).before args0 about1 = true := code_word (m := ⟨8, 6⟩) (meth := k8m6) (c := k8c6) (by decide +kernel) rfl rfl rfl (by decide +kernel)
set_option maxRecDepth 65536 in
theorem w_c34 : (Jvm.Cond.code ({ cls := "java/lang/StringUTF16", name := "putChar", desc := "([BII)V" } : Jvm.MethodName) jdk_52_method_4_code (3 : Nat) (Option.none : Option Jvm.ClassFile.FieldType)).before args0 about1 = true := code_word (m := ⟨8, 3⟩) (meth := k8m3) (c := k8c3) (by decide +kernel) rfl rfl rfl (by decide +kernel)
set_option maxRecDepth 65536 in
theorem w_c35 : (Jvm.Cond.code ({ cls := "java/lang/StringUTF16", name := "getChar", desc := "([BI)C" } : Jvm.MethodName) jdk_52_method_5_code (2 : Nat) (Option.some Jvm.ClassFile.FieldType.char)).before args0 about1 = true := code_word (m := ⟨8, 4⟩) (meth := k8m4) (c := k8c4) (by decide +kernel) rfl rfl rfl (by decide +kernel)
set_option maxRecDepth 65536 in
theorem w_c36 : (Jvm.Cond.code ({ cls := "java/lang/StringUTF16", name := "charAt", desc := "([BI)C" } : Jvm.MethodName) jdk_52_method_83_code (2 : Nat) (Option.some Jvm.ClassFile.FieldType.char)).before args0 about1 = true := code_word (m := ⟨8, 11⟩) (meth := k8m11) (c := k8c11) (by decide +kernel) rfl rfl rfl (by decide +kernel)
set_option maxRecDepth 65536 in
theorem w_c37 : (Jvm.Cond.code ({ cls := "java/lang/StringUTF16", name := "checkIndex", desc := "(I[B)V" } : Jvm.MethodName) jdk_52_method_91_code (2 : Nat) (Option.none : Option Jvm.ClassFile.FieldType)).before args0 about1 = true := code_word (m := ⟨8, 13⟩) (meth := k8m13) (c := k8c13) (by decide +kernel) rfl rfl rfl (by decide +kernel)
set_option maxRecDepth 65536 in
theorem w_c38 : (Jvm.Cond.code ({ cls := "java/lang/StringUTF16", name := "length", desc := "([B)I" } : Jvm.MethodName) jdk_52_method_6_code (1 : Nat) (Option.some Jvm.ClassFile.FieldType.int)).before args0 about1 = true := code_word (m := ⟨8, 5⟩) (meth := k8m5) (c := k8c5) (by decide +kernel) rfl rfl rfl (by decide +kernel)
set_option maxRecDepth 65536 in
theorem w_c39 : (Jvm.Cond.code ({ cls := "java/lang/Character", name := "isHighSurrogate", desc := "(C)Z" } : Jvm.MethodName) jdk_89_method_14_code (1 : Nat) (Option.some Jvm.ClassFile.FieldType.boolean)).before args0 about1 = true := code_word (m := ⟨12, 0⟩) (meth := k12m0) (c := k12c0) (by decide +kernel) rfl rfl rfl (by decide +kernel)
set_option maxRecDepth 65536 in
theorem w_c40 : (Jvm.Cond.code ({ cls := "java/lang/StringBuilder", name := "<init>", desc := "(I)V" } : Jvm.MethodName) jdk_67_method_2_code (2 : Nat) (Option.none : Option Jvm.ClassFile.FieldType)).before args0 about1 = true := code_word (m := ⟨25, 1⟩) (meth := k25m1) (c := k25c1) (by decide +kernel) rfl rfl rfl (by decide +kernel)
set_option maxRecDepth 65536 in
theorem w_c41 : (Jvm.Cond.code ({ cls := "java/lang/AbstractStringBuilder", name := "<init>", desc := "(I)V" } : Jvm.MethodName) jdk_68_method_2_code (2 : Nat) (Option.none : Option Jvm.ClassFile.FieldType)).before args0 about1 = true := code_word (m := ⟨24, 1⟩) (meth := k24m1) (c := k24c1) (by decide +kernel) rfl rfl rfl (by decide +kernel)
set_option maxRecDepth 65536 in
theorem w_c42 : (Jvm.Cond.code ({ cls := "java/lang/StringBuilder", name := "append", desc := "(Ljava/lang/CharSequence;II)Ljava/lang/StringBuilder;" } : Jvm.MethodName) jdk_67_method_10_code (4 : Nat) (Option.some (Jvm.ClassFile.FieldType.object "java/lang/StringBuilder"))).before args0 about1 = true := code_word (m := ⟨25, 2⟩) (meth := k25m2) (c := k25c2) (by decide +kernel) rfl rfl rfl (by decide +kernel)
set_option maxRecDepth 65536 in
theorem w_c43 : (Jvm.Cond.code ({ cls := "java/lang/AbstractStringBuilder", name := "append", desc := "(Ljava/lang/CharSequence;II)Ljava/lang/AbstractStringBuilder;" } : Jvm.MethodName) jdk_68_method_27_code (5 : Nat) (Option.some (Jvm.ClassFile.FieldType.object "java/lang/AbstractStringBuilder"))).before args0 about1 = true := code_word (m := ⟨24, 5⟩) (meth := k24m5) (c := k24c5) (by decide +kernel) rfl rfl rfl (by decide +kernel)
set_option maxRecDepth 65536 in
theorem w_c44 : (Jvm.Cond.code ({ cls := "jdk/internal/util/Preconditions", name := "checkFromToIndex", desc := "(IIILjava/util/function/BiFunction;)I" } : Jvm.MethodName) jdk_41_method_12_code (4 : Nat) (Option.some Jvm.ClassFile.FieldType.int)).before args0 about1 = true := code_word (m := ⟨11, 2⟩) (meth := k11m2) (c := k11c2) (by decide +kernel) rfl rfl rfl (by decide +kernel)
set_option maxRecDepth 65536 in
theorem w_c45 : (Jvm.Cond.code ({ cls := "java/lang/AbstractStringBuilder", name := "ensureCapacityInternal", desc := "(I)V" } : Jvm.MethodName) jdk_68_method_9_code (3 : Nat) (Option.none : Option Jvm.ClassFile.FieldType)).before args0 about1 = true := code_word (m := ⟨24, 3⟩) (meth := k24m3) (c := k24c3) (by decide +kernel) rfl rfl rfl (by decide +kernel)
set_option maxRecDepth 65536 in
theorem w_c46 : (Jvm.Cond.code ({ cls := "java/lang/AbstractStringBuilder", name := "appendChars", desc := "(Ljava/lang/String;II)V" } : Jvm.MethodName) jdk_68_method_75_code (8 : Nat) (Option.none : Option Jvm.ClassFile.FieldType)).before args0 about1 = true := code_word (m := ⟨24, 9⟩) (meth := k24m9) (c := k24c9) (by decide +kernel) rfl rfl rfl (by decide +kernel)
set_option maxRecDepth 65536 in
theorem w_c47 : (Jvm.Cond.code ({ cls := "java/lang/AbstractStringBuilder", name := "isLatin1", desc := "()Z" } : Jvm.MethodName) jdk_68_method_68_code (1 : Nat) (Option.some Jvm.ClassFile.FieldType.boolean)).before args0 about1 = true := code_word (m := ⟨24, 8⟩) (meth := k24m8) (c := k24c8) (by decide +kernel) rfl rfl rfl (by decide +kernel)
set_option maxRecDepth 65536 in
theorem w_c48 : (Jvm.Cond.code ({ cls := "java/lang/StringLatin1", name := "canEncode", desc := "(C)Z" } : Jvm.MethodName) jdk_43_method_3_code (1 : Nat) (Option.some Jvm.ClassFile.FieldType.boolean)).before args0 about1 = true := code_word (m := ⟨10, 2⟩) (meth := k10m2) (c := k10c2) (by decide +kernel) rfl rfl rfl (by decide +kernel)
set_option maxRecDepth 65536 in
theorem w_c49 : (Jvm.Cond.code ({ cls := "java/lang/StringBuilder", name := "append", desc := "(C)Ljava/lang/StringBuilder;" } : Jvm.MethodName) jdk_67_method_14_code (2 : Nat) (Option.some (Jvm.ClassFile.FieldType.object "java/lang/StringBuilder"))).before args0 about1 = true := code_word (m := ⟨25, 3⟩) (meth := k25m3) (c := k25c3) (by decide +kernel) rfl rfl rfl (by decide +kernel)
set_option maxRecDepth 65536 in
theorem w_c50 : (Jvm.Cond.code ({ cls := "java/lang/AbstractStringBuilder", name := "append", desc := "(C)Ljava/lang/AbstractStringBuilder;" } : Jvm.MethodName) jdk_68_method_31_code (2 : Nat) (Option.some (Jvm.ClassFile.FieldType.object "java/lang/AbstractStringBuilder"))).before args0 about1 = true := code_word (m := ⟨24, 6⟩) (meth := k24m6) (c := k24c6) (by decide +kernel) rfl rfl rfl (by decide +kernel)
set_option maxRecDepth 65536 in
theorem w_c51 : (Jvm.Cond.code ({ cls := "java/lang/AbstractStringBuilder", name := "inflate", desc := "()V" } : Jvm.MethodName) jdk_68_method_11_code (2 : Nat) (Option.none : Option Jvm.ClassFile.FieldType)).before args0 about1 = true := code_word (m := ⟨24, 4⟩) (meth := k24m4) (c := k24c4) (by decide +kernel) rfl rfl rfl (by decide +kernel)
set_option maxRecDepth 65536 in
theorem w_c52 : (Jvm.Cond.code ({ cls := "java/lang/StringLatin1", name := "inflate", desc := "([BI[BII)V" } : Jvm.MethodName) jdk_43_method_50_code (5 : Nat) (Option.none : Option Jvm.ClassFile.FieldType)).before args0 about1 = true := code_word (m := ⟨10, 3⟩) (meth := k10m3) (c := k10c3) (by decide +kernel) rfl rfl rfl (by decide +kernel)
set_option maxRecDepth 65536 in
theorem w_c53 : (Jvm.Cond.code ({ cls := "java/lang/StringUTF16", name := "inflate", desc := "([BI[BII)V" } : Jvm.MethodName) jdk_52_method_86_code (6 : Nat) (Option.none : Option Jvm.ClassFile.FieldType)).before args0 about1 = true := code_word (m := ⟨8, 12⟩) (meth := k8m12) (c := k8c12) (by decide +kernel) rfl rfl rfl (by decide +kernel)
set_option maxRecDepth 65536 in
theorem w_c54 : (Jvm.Cond.code ({ cls := "java/lang/StringUTF16", name := "checkBoundsOffCount", desc := "(II[B)V" } : Jvm.MethodName) jdk_52_method_94_code (3 : Nat) (Option.none : Option Jvm.ClassFile.FieldType)).before args0 about1 = true := code_word (m := ⟨8, 14⟩) (meth := k8m14) (c := k8c14) (by decide +kernel) rfl rfl rfl (by decide +kernel)
set_option maxRecDepth 65536 in
theorem w_c55 : (Jvm.Cond.code ({ cls := "java/lang/String", name := "checkBoundsOffCount", desc := "(III)I" } : Jvm.MethodName) jdk_42_method_157_code (3 : Nat) (Option.some Jvm.ClassFile.FieldType.int)).before args0 about1 = true := code_word (m := ⟨7, 16⟩) (meth := k7m16) (c := k7c16) (by decide +kernel) rfl rfl rfl (by decide +kernel)
set_option maxRecDepth 65536 in
theorem w_c56 : (Jvm.Cond.code ({ cls := "jdk/internal/util/Preconditions", name := "checkFromIndexSize", desc := "(IIILjava/util/function/BiFunction;)I" } : Jvm.MethodName) jdk_41_method_13_code (4 : Nat) (Option.some Jvm.ClassFile.FieldType.int)).before args0 about1 = true := code_word (m := ⟨11, 3⟩) (meth := k11m3) (c := k11c3) (by decide +kernel) rfl rfl rfl (by decide +kernel)
set_option maxRecDepth 65536 in
theorem w_c57 : (Jvm.Cond.code ({ cls := "java/lang/StringUTF16", name := "putCharSB", desc := "([BII)V" } : Jvm.MethodName) jdk_52_method_71_code (3 : Nat) (Option.none : Option Jvm.ClassFile.FieldType)).before args0 about1 = true := code_word (m := ⟨8, 10⟩) (meth := k8m10) (c := k8c10) (by decide +kernel) rfl rfl rfl (by decide +kernel)
set_option maxRecDepth 65536 in
theorem w_c58 : (Jvm.Cond.code ({ cls := "java/lang/String", name := "value", desc := "()[B" } : Jvm.MethodName) jdk_42_method_153_code (1 : Nat) (Option.some (Jvm.ClassFile.FieldType.array Jvm.ClassFile.FieldType.byte))).before args0 about1 = true := code_word (m := ⟨7, 13⟩) (meth := k7m13) (c := k7c13) (by decide +kernel) rfl rfl rfl (by decide +kernel)
set_option maxRecDepth 65536 in
theorem w_c59 : (Jvm.Cond.code ({ cls := "java/lang/StringBuilder", name := "toString", desc := "()Ljava/lang/String;" } : Jvm.MethodName) jdk_67_method_42_code (1 : Nat) (Option.some (Jvm.ClassFile.FieldType.object "java/lang/String"))).before args0 about1 = true := code_word (m := ⟨25, 4⟩) (meth := k25m4) (c := k25c4) (by decide +kernel) rfl rfl rfl (by decide +kernel)
set_option maxRecDepth 65536 in
theorem w_c60 : (Jvm.Cond.code ({ cls := "java/lang/String", name := "<init>", desc := "(Ljava/lang/StringBuilder;)V" } : Jvm.MethodName) jdk_42_method_53_code (2 : Nat) (Option.none : Option Jvm.ClassFile.FieldType)).before args0 about1 = true := code_word (m := ⟨7, 5⟩) (meth := k7m5) (c := k7c5) (by decide +kernel) rfl rfl rfl (by decide +kernel)
set_option maxRecDepth 65536 in
theorem w_c61 : (Jvm.Cond.code ({ cls := "java/lang/String", name := "<init>", desc := "(Ljava/lang/AbstractStringBuilder;Ljava/lang/Void;)V" } : Jvm.MethodName) jdk_42_method_150_code (5 : Nat) (Option.none : Option Jvm.ClassFile.FieldType)).before args0 about1 = true := code_word (m := ⟨7, 11⟩) (meth := k7m11) (c := k7c11) (by decide +kernel) rfl rfl rfl (by decide +kernel)
set_option maxRecDepth 65536 in
theorem w_c62 : (Jvm.Cond.code ({ cls := "java/lang/AbstractStringBuilder", name := "getValue", desc := "()[B" } : Jvm.MethodName) jdk_68_method_64_code (1 : Nat) (Option.some (Jvm.ClassFile.FieldType.array Jvm.ClassFile.FieldType.byte))).before args0 about1 = true := code_word (m := ⟨24, 7⟩) (meth := k24m7) (c := k24c7) (by decide +kernel) rfl rfl rfl (by decide +kernel)
set_option maxRecDepth 65536 in
theorem w_c63 : (Jvm.Cond.code ({ cls := "java/lang/StringBuilder", name := "length", desc := "()I" } : Jvm.MethodName) jdk_67_method_93_code (1 : Nat) (Option.some Jvm.ClassFile.FieldType.int)).before args0 about1 = true := code_word (m := ⟨25, 5⟩) (meth := k25m5) (c := k25c5) (by decide +kernel) rfl rfl rfl (by decide +kernel)
set_option maxRecDepth 65536 in
theorem w_c64 : (Jvm.Cond.code ({ cls := "java/lang/AbstractStringBuilder", name := "length", desc := "()I" } : Jvm.MethodName) jdk_68_method_6_code (1 : Nat) (Option.some Jvm.ClassFile.FieldType.int)).before args0 about1 = true := code_word (m := ⟨24, 2⟩) (meth := k24m2) (c := k24c2) (by decide +kernel) rfl rfl rfl (by decide +kernel)
set_option maxRecDepth 65536 in
theorem w_c65 : (Jvm.Cond.code ({ cls := "java/util/Arrays", name := "copyOfRange", desc := "([BII)[B" } : Jvm.MethodName) jdk_65_method_132_code (3 : Nat) (Option.some (Jvm.ClassFile.FieldType.array Jvm.ClassFile.FieldType.byte))).before args0 about1 = true := code_word (m := ⟨20, 2⟩) (meth := k20m2) (c := k20c2) (by decide +kernel) rfl rfl rfl (by decide +kernel)
set_option maxRecDepth 65536 in
theorem w_c66 : (Jvm.Cond.code ({ cls := "java/lang/String", name := "encodeUTF8_UTF16", desc := "([BZ)[B" } : Jvm.MethodName) jdk_42_method_47_code (9 : Nat) (Option.some (Jvm.ClassFile.FieldType.array Jvm.ClassFile.FieldType.byte))).before args0 about1 = true := code_word (m := ⟨7, 4⟩) (meth := k7m4) (c := k7c4) (by decide +kernel) rfl rfl rfl (by decide +kernel)
set_option maxRecDepth 65536 in
theorem w_c67 : (Jvm.Cond.code ({ cls := "com/example/gradual_reply/gradualreply/Utf8EncodePinLaw", name := "isLow", desc := "(C)Z" } : Jvm.MethodName) method_4_code (1 : Nat) (Option.some Jvm.ClassFile.FieldType.boolean)).before args0 about1 = true := code_word (m := ⟨1, 3⟩) (meth := k1m3) (c := k1c3) (by decide +kernel) rfl rfl rfl (by decide +kernel)
set_option maxRecDepth 65536 in
theorem w_c68 : (Jvm.Cond.code ({ cls := "java/lang/Character", name := "isLowSurrogate", desc := "(C)Z" } : Jvm.MethodName) jdk_89_method_15_code (1 : Nat) (Option.some Jvm.ClassFile.FieldType.boolean)).before args0 about1 = true := code_word (m := ⟨12, 1⟩) (meth := k12m1) (c := k12c1) (by decide +kernel) rfl rfl rfl (by decide +kernel)
set_option maxRecDepth 65536 in
theorem w_c69 : (Jvm.Cond.code ({ cls := "java/lang/Character", name := "toCodePoint", desc := "(CC)I" } : Jvm.MethodName) jdk_89_method_19_code (2 : Nat) (Option.some Jvm.ClassFile.FieldType.int)).before args0 about1 = true := code_word (m := ⟨12, 3⟩) (meth := k12m3) (c := k12c3) (by decide +kernel) rfl rfl rfl (by decide +kernel)
def codes1 : List Jvm.Cond := [Jvm.Cond.code x code maxLocals ret, Jvm.Cond.code ({ cls := "com/example/gradual_reply/gradualreply/Utf8EncodePinLaw", name := "draw", desc := "(I)C" } : Jvm.MethodName) method_2_code (1 : Nat) (Option.some Jvm.ClassFile.FieldType.char), Jvm.Cond.code ({ cls := "java/lang/String", name := "<init>", desc := "([C)V" } : Jvm.MethodName) jdk_42_method_3_code (2 : Nat) (Option.none : Option Jvm.ClassFile.FieldType), Jvm.Cond.code ({ cls := "java/lang/String", name := "<init>", desc := "([CIILjava/lang/Void;)V" } : Jvm.MethodName) jdk_42_method_149_code (6 : Nat) (Option.none : Option Jvm.ClassFile.FieldType), Jvm.Cond.code ({ cls := "java/lang/Object", name := "<init>", desc := "()V" } : Jvm.MethodName) object_method_1_code (1 : Nat) (Option.none : Option Jvm.ClassFile.FieldType), Jvm.Cond.code ({ cls := "java/lang/StringUTF16", name := "compress", desc := "([CII)[B" } : Jvm.MethodName) jdk_52_method_16_code (6 : Nat) (Option.some (Jvm.ClassFile.FieldType.array Jvm.ClassFile.FieldType.byte)), Jvm.Cond.code ({ cls := "java/lang/StringUTF16", name := "compress", desc := "([CI[BII)I" } : Jvm.MethodName) jdk_52_method_21_code (7 : Nat) (Option.some Jvm.ClassFile.FieldType.int), Jvm.Cond.code ({ cls := "java/lang/StringUTF16", name := "coderFromArrayLen", desc := "([BI)B" } : Jvm.MethodName) jdk_52_method_15_code (2 : Nat) (Option.some Jvm.ClassFile.FieldType.byte), Jvm.Cond.code ({ cls := "com/example/gradual_reply/gradualreply/Utf8EncodePinLaw", name := "step", desc := "([CI[B[I)V" } : Jvm.MethodName) method_6_code (7 : Nat) (Option.none : Option Jvm.ClassFile.FieldType), Jvm.Cond.code ({ cls := "com/example/gradual_reply/gradualreply/Utf8EncodePinLaw", name := "isHigh", desc := "(C)Z" } : Jvm.MethodName) method_3_code (1 : Nat) (Option.some Jvm.ClassFile.FieldType.boolean), Jvm.Cond.code ({ cls := "com/example/gradual_reply/gradualreply/Utf8EncodePinLaw", name := "put", desc := "([B[II)V" } : Jvm.MethodName) method_5_code (3 : Nat) (Option.none : Option Jvm.ClassFile.FieldType), Jvm.Cond.code ({ cls := "com/example/gradual_reply/gradualreply/Utf8", name := "encode", desc := "(Ljava/lang/CharSequence;)[B" } : Jvm.MethodName) prog_16_method_2_code (1 : Nat) (Option.some (Jvm.ClassFile.FieldType.array Jvm.ClassFile.FieldType.byte)), Jvm.Cond.code ({ cls := "java/lang/String", name := "toString", desc := "()Ljava/lang/String;" } : Jvm.MethodName) jdk_42_method_126_code (1 : Nat) (Option.some (Jvm.ClassFile.FieldType.object "java/lang/String")), Jvm.Cond.code ({ cls := "com/example/gradual_reply/gradualreply/Utf8", name := "replaceUnpairedSurrogates", desc := "(Ljava/lang/String;)Ljava/lang/String;" } : Jvm.MethodName) prog_16_method_3_code (5 : Nat) (Option.some (Jvm.ClassFile.FieldType.object "java/lang/String")), Jvm.Cond.code ({ cls := "com/example/gradual_reply/gradualreply/Utf8", name := "nextUnpairedSurrogate", desc := "(Ljava/lang/String;I)I" } : Jvm.MethodName) prog_16_method_4_code (5 : Nat) (Option.some Jvm.ClassFile.FieldType.int), Jvm.Cond.code ({ cls := "java/lang/String", name := "length", desc := "()I" } : Jvm.MethodName) jdk_42_method_54_code (1 : Nat) (Option.some Jvm.ClassFile.FieldType.int), Jvm.Cond.code ({ cls := "java/lang/String", name := "coder", desc := "()B" } : Jvm.MethodName) jdk_42_method_152_code (1 : Nat) (Option.some Jvm.ClassFile.FieldType.byte), Jvm.Cond.code ({ cls := "java/lang/String", name := "charAt", desc := "(I)C" } : Jvm.MethodName) jdk_42_method_56_code (2 : Nat) (Option.some Jvm.ClassFile.FieldType.char), Jvm.Cond.code ({ cls := "java/lang/String", name := "isLatin1", desc := "()Z" } : Jvm.MethodName) jdk_42_method_154_code (1 : Nat) (Option.some Jvm.ClassFile.FieldType.boolean), Jvm.Cond.code ({ cls := "java/lang/StringLatin1", name := "charAt", desc := "([BI)C" } : Jvm.MethodName) jdk_43_method_2_code (2 : Nat) (Option.some Jvm.ClassFile.FieldType.char), Jvm.Cond.code ({ cls := "java/lang/String", name := "checkIndex", desc := "(II)V" } : Jvm.MethodName) jdk_42_method_155_code (2 : Nat) (Option.none : Option Jvm.ClassFile.FieldType), Jvm.Cond.code ({ cls := "jdk/internal/util/Preconditions", name := "checkIndex", desc := "(IILjava/util/function/BiFunction;)I" } : Jvm.MethodName) jdk_41_method_11_code (3 : Nat) (Option.some Jvm.ClassFile.FieldType.int), Jvm.Cond.code ({ cls := "java/lang/Character", name := "isSurrogate", desc := "(C)Z" } : Jvm.MethodName) jdk_89_method_16_code (1 : Nat) (Option.some Jvm.ClassFile.FieldType.boolean), Jvm.Cond.code ({ cls := "java/lang/String", name := "getBytes", desc := "(Ljava/nio/charset/Charset;)[B" } : Jvm.MethodName) jdk_42_method_64_code (2 : Nat) (Option.some (Jvm.ClassFile.FieldType.array Jvm.ClassFile.FieldType.byte)), Jvm.Cond.code ({ cls := "java/lang/String", name := "encode", desc := "(Ljava/nio/charset/Charset;B[B)[B" } : Jvm.MethodName) jdk_42_method_18_code (3 : Nat) (Option.some (Jvm.ClassFile.FieldType.array Jvm.ClassFile.FieldType.byte)), Jvm.Cond.code ({ cls := "java/lang/String", name := "encodeUTF8", desc := "(B[BZ)[B" } : Jvm.MethodName) jdk_42_method_46_code (9 : Nat) (Option.some (Jvm.ClassFile.FieldType.array Jvm.ClassFile.FieldType.byte)), Jvm.Cond.code ({ cls := "java/lang/StringCoding", name := "hasNegatives", desc := "([BII)Z" } : Jvm.MethodName) jdk_123_method_2_code (3 : Nat) (Option.some Jvm.ClassFile.FieldType.boolean), Jvm.Cond.code ({ cls := "java/lang/StringCoding", name := "countPositives", desc := "([BII)I" } : Jvm.MethodName) jdk_123_method_3_code (5 : Nat) (Option.some Jvm.ClassFile.FieldType.int), Jvm.Cond.code ({ cls := "com/example/gradual_reply/gradualreply/Utf8EncodePinLaw", name := "eqAt", desc := "([B[BII)Z" } : Jvm.MethodName) method_7_code (4 : Nat) (Option.some Jvm.ClassFile.FieldType.boolean), Jvm.Cond.code ({ cls := "java/lang/StringUTF16", name := "newBytesFor", desc := "(I)[B" } : Jvm.MethodName) jdk_52_method_2_code (1 : Nat) (Option.some (Jvm.ClassFile.FieldType.array Jvm.ClassFile.FieldType.byte)), Jvm.Cond.code ({ cls := "java/lang/StringUTF16", name := "newBytesLength", desc := "(I)I" } : Jvm.MethodName) jdk_52_method_3_code (1 : Nat) (Option.some Jvm.ClassFile.FieldType.int), Jvm.Cond.code ({ cls := "java/util/Arrays", name := "copyOf", desc := "([BI)[B" } : Jvm.MethodName) jdk_65_method_121_code (3 : Nat) (Option.some (Jvm.ClassFile.FieldType.array Jvm.ClassFile.FieldType.byte)), Jvm.Cond.code ({ cls := "java/lang/Math", name := "min", desc := "(II)I" } : Jvm.MethodName) jdk_29_method_69_code (2 : Nat) (Option.some Jvm.ClassFile.FieldType.int), Jvm.Cond.code ({ cls := "java/lang/StringUTF16", name := "toBytes", desc := "([CII)[B" } : Jvm.MethodName) jdk_52_method_14_code (5 : Nat) (Option.some (Jvm.ClassFile.FieldType.array Jvm.ClassFile.FieldType.byte)), Jvm.Cond.code ({ cls := "java/lang/StringUTF16", name := "putChar", desc := "([BII)V" } : Jvm.MethodName) jdk_52_method_4_code (3 : Nat) (Option.none : Option Jvm.ClassFile.FieldType), Jvm.Cond.code ({ cls := "java/lang/StringUTF16", name := "getChar", desc := "([BI)C" } : Jvm.MethodName) jdk_52_method_5_code (2 : Nat) (Option.some Jvm.ClassFile.FieldType.char), Jvm.Cond.code ({ cls := "java/lang/StringUTF16", name := "charAt", desc := "([BI)C" } : Jvm.MethodName) jdk_52_method_83_code (2 : Nat) (Option.some Jvm.ClassFile.FieldType.char), Jvm.Cond.code ({ cls := "java/lang/StringUTF16", name := "checkIndex", desc := "(I[B)V" } : Jvm.MethodName) jdk_52_method_91_code (2 : Nat) (Option.none : Option Jvm.ClassFile.FieldType), Jvm.Cond.code ({ cls := "java/lang/StringUTF16", name := "length", desc := "([B)I" } : Jvm.MethodName) jdk_52_method_6_code (1 : Nat) (Option.some Jvm.ClassFile.FieldType.int), Jvm.Cond.code ({ cls := "java/lang/Character", name := "isHighSurrogate", desc := "(C)Z" } : Jvm.MethodName) jdk_89_method_14_code (1 : Nat) (Option.some Jvm.ClassFile.FieldType.boolean), Jvm.Cond.code ({ cls := "java/lang/StringBuilder", name := "<init>", desc := "(I)V" } : Jvm.MethodName) jdk_67_method_2_code (2 : Nat) (Option.none : Option Jvm.ClassFile.FieldType), Jvm.Cond.code ({ cls := "java/lang/AbstractStringBuilder", name := "<init>", desc := "(I)V" } : Jvm.MethodName) jdk_68_method_2_code (2 : Nat) (Option.none : Option Jvm.ClassFile.FieldType), Jvm.Cond.code ({ cls := "java/lang/StringBuilder", name := "append", desc := "(Ljava/lang/CharSequence;II)Ljava/lang/StringBuilder;" } : Jvm.MethodName) jdk_67_method_10_code (4 : Nat) (Option.some (Jvm.ClassFile.FieldType.object "java/lang/StringBuilder")), Jvm.Cond.code ({ cls := "java/lang/AbstractStringBuilder", name := "append", desc := "(Ljava/lang/CharSequence;II)Ljava/lang/AbstractStringBuilder;" } : Jvm.MethodName) jdk_68_method_27_code (5 : Nat) (Option.some (Jvm.ClassFile.FieldType.object "java/lang/AbstractStringBuilder")), Jvm.Cond.code ({ cls := "jdk/internal/util/Preconditions", name := "checkFromToIndex", desc := "(IIILjava/util/function/BiFunction;)I" } : Jvm.MethodName) jdk_41_method_12_code (4 : Nat) (Option.some Jvm.ClassFile.FieldType.int), Jvm.Cond.code ({ cls := "java/lang/AbstractStringBuilder", name := "ensureCapacityInternal", desc := "(I)V" } : Jvm.MethodName) jdk_68_method_9_code (3 : Nat) (Option.none : Option Jvm.ClassFile.FieldType), Jvm.Cond.code ({ cls := "java/lang/AbstractStringBuilder", name := "appendChars", desc := "(Ljava/lang/String;II)V" } : Jvm.MethodName) jdk_68_method_75_code (8 : Nat) (Option.none : Option Jvm.ClassFile.FieldType), Jvm.Cond.code ({ cls := "java/lang/AbstractStringBuilder", name := "isLatin1", desc := "()Z" } : Jvm.MethodName) jdk_68_method_68_code (1 : Nat) (Option.some Jvm.ClassFile.FieldType.boolean), Jvm.Cond.code ({ cls := "java/lang/StringLatin1", name := "canEncode", desc := "(C)Z" } : Jvm.MethodName) jdk_43_method_3_code (1 : Nat) (Option.some Jvm.ClassFile.FieldType.boolean), Jvm.Cond.code ({ cls := "java/lang/StringBuilder", name := "append", desc := "(C)Ljava/lang/StringBuilder;" } : Jvm.MethodName) jdk_67_method_14_code (2 : Nat) (Option.some (Jvm.ClassFile.FieldType.object "java/lang/StringBuilder")), Jvm.Cond.code ({ cls := "java/lang/AbstractStringBuilder", name := "append", desc := "(C)Ljava/lang/AbstractStringBuilder;" } : Jvm.MethodName) jdk_68_method_31_code (2 : Nat) (Option.some (Jvm.ClassFile.FieldType.object "java/lang/AbstractStringBuilder")), Jvm.Cond.code ({ cls := "java/lang/AbstractStringBuilder", name := "inflate", desc := "()V" } : Jvm.MethodName) jdk_68_method_11_code (2 : Nat) (Option.none : Option Jvm.ClassFile.FieldType), Jvm.Cond.code ({ cls := "java/lang/StringLatin1", name := "inflate", desc := "([BI[BII)V" } : Jvm.MethodName) jdk_43_method_50_code (5 : Nat) (Option.none : Option Jvm.ClassFile.FieldType), Jvm.Cond.code ({ cls := "java/lang/StringUTF16", name := "inflate", desc := "([BI[BII)V" } : Jvm.MethodName) jdk_52_method_86_code (6 : Nat) (Option.none : Option Jvm.ClassFile.FieldType), Jvm.Cond.code ({ cls := "java/lang/StringUTF16", name := "checkBoundsOffCount", desc := "(II[B)V" } : Jvm.MethodName) jdk_52_method_94_code (3 : Nat) (Option.none : Option Jvm.ClassFile.FieldType), Jvm.Cond.code ({ cls := "java/lang/String", name := "checkBoundsOffCount", desc := "(III)I" } : Jvm.MethodName) jdk_42_method_157_code (3 : Nat) (Option.some Jvm.ClassFile.FieldType.int), Jvm.Cond.code ({ cls := "jdk/internal/util/Preconditions", name := "checkFromIndexSize", desc := "(IIILjava/util/function/BiFunction;)I" } : Jvm.MethodName) jdk_41_method_13_code (4 : Nat) (Option.some Jvm.ClassFile.FieldType.int), Jvm.Cond.code ({ cls := "java/lang/StringUTF16", name := "putCharSB", desc := "([BII)V" } : Jvm.MethodName) jdk_52_method_71_code (3 : Nat) (Option.none : Option Jvm.ClassFile.FieldType), Jvm.Cond.code ({ cls := "java/lang/String", name := "value", desc := "()[B" } : Jvm.MethodName) jdk_42_method_153_code (1 : Nat) (Option.some (Jvm.ClassFile.FieldType.array Jvm.ClassFile.FieldType.byte)), Jvm.Cond.code ({ cls := "java/lang/StringBuilder", name := "toString", desc := "()Ljava/lang/String;" } : Jvm.MethodName) jdk_67_method_42_code (1 : Nat) (Option.some (Jvm.ClassFile.FieldType.object "java/lang/String")), Jvm.Cond.code ({ cls := "java/lang/String", name := "<init>", desc := "(Ljava/lang/StringBuilder;)V" } : Jvm.MethodName) jdk_42_method_53_code (2 : Nat) (Option.none : Option Jvm.ClassFile.FieldType), Jvm.Cond.code ({ cls := "java/lang/String", name := "<init>", desc := "(Ljava/lang/AbstractStringBuilder;Ljava/lang/Void;)V" } : Jvm.MethodName) jdk_42_method_150_code (5 : Nat) (Option.none : Option Jvm.ClassFile.FieldType), Jvm.Cond.code ({ cls := "java/lang/AbstractStringBuilder", name := "getValue", desc := "()[B" } : Jvm.MethodName) jdk_68_method_64_code (1 : Nat) (Option.some (Jvm.ClassFile.FieldType.array Jvm.ClassFile.FieldType.byte)), Jvm.Cond.code ({ cls := "java/lang/StringBuilder", name := "length", desc := "()I" } : Jvm.MethodName) jdk_67_method_93_code (1 : Nat) (Option.some Jvm.ClassFile.FieldType.int), Jvm.Cond.code ({ cls := "java/lang/AbstractStringBuilder", name := "length", desc := "()I" } : Jvm.MethodName) jdk_68_method_6_code (1 : Nat) (Option.some Jvm.ClassFile.FieldType.int), Jvm.Cond.code ({ cls := "java/util/Arrays", name := "copyOfRange", desc := "([BII)[B" } : Jvm.MethodName) jdk_65_method_132_code (3 : Nat) (Option.some (Jvm.ClassFile.FieldType.array Jvm.ClassFile.FieldType.byte)), Jvm.Cond.code ({ cls := "java/lang/String", name := "encodeUTF8_UTF16", desc := "([BZ)[B" } : Jvm.MethodName) jdk_42_method_47_code (9 : Nat) (Option.some (Jvm.ClassFile.FieldType.array Jvm.ClassFile.FieldType.byte)), Jvm.Cond.code ({ cls := "com/example/gradual_reply/gradualreply/Utf8EncodePinLaw", name := "isLow", desc := "(C)Z" } : Jvm.MethodName) method_4_code (1 : Nat) (Option.some Jvm.ClassFile.FieldType.boolean), Jvm.Cond.code ({ cls := "java/lang/Character", name := "isLowSurrogate", desc := "(C)Z" } : Jvm.MethodName) jdk_89_method_15_code (1 : Nat) (Option.some Jvm.ClassFile.FieldType.boolean), Jvm.Cond.code ({ cls := "java/lang/Character", name := "toCodePoint", desc := "(CC)I" } : Jvm.MethodName) jdk_89_method_19_code (2 : Nat) (Option.some Jvm.ClassFile.FieldType.int)]
set_option maxRecDepth 65536 in
theorem codes_eq : words1.filter isCode = codes1 := rfl
theorem w_codes : ∀ c ∈ words1.filter isCode, c.before args0 about1 = true := by
  rw [codes_eq]
  intro c hc
  simp only [codes1, List.mem_cons, List.not_mem_nil, or_false] at hc
  rcases hc with rfl | rfl | rfl | rfl | rfl | rfl | rfl | rfl | rfl | rfl | rfl | rfl | rfl | rfl | rfl | rfl | rfl | rfl | rfl | rfl | rfl | rfl | rfl | rfl | rfl | rfl | rfl | rfl | rfl | rfl | rfl | rfl | rfl | rfl | rfl | rfl | rfl | rfl | rfl | rfl | rfl | rfl | rfl | rfl | rfl | rfl | rfl | rfl | rfl | rfl | rfl | rfl | rfl | rfl | rfl | rfl | rfl | rfl | rfl | rfl | rfl | rfl | rfl | rfl | rfl | rfl | rfl | rfl | rfl | rfl
  · exact w_c0
  · exact w_c1
  · exact w_c2
  · exact w_c3
  · exact w_c4
  · exact w_c5
  · exact w_c6
  · exact w_c7
  · exact w_c8
  · exact w_c9
  · exact w_c10
  · exact w_c11
  · exact w_c12
  · exact w_c13
  · exact w_c14
  · exact w_c15
  · exact w_c16
  · exact w_c17
  · exact w_c18
  · exact w_c19
  · exact w_c20
  · exact w_c21
  · exact w_c22
  · exact w_c23
  · exact w_c24
  · exact w_c25
  · exact w_c26
  · exact w_c27
  · exact w_c28
  · exact w_c29
  · exact w_c30
  · exact w_c31
  · exact w_c32
  · exact w_c33
  · exact w_c34
  · exact w_c35
  · exact w_c36
  · exact w_c37
  · exact w_c38
  · exact w_c39
  · exact w_c40
  · exact w_c41
  · exact w_c42
  · exact w_c43
  · exact w_c44
  · exact w_c45
  · exact w_c46
  · exact w_c47
  · exact w_c48
  · exact w_c49
  · exact w_c50
  · exact w_c51
  · exact w_c52
  · exact w_c53
  · exact w_c54
  · exact w_c55
  · exact w_c56
  · exact w_c57
  · exact w_c58
  · exact w_c59
  · exact w_c60
  · exact w_c61
  · exact w_c62
  · exact w_c63
  · exact w_c64
  · exact w_c65
  · exact w_c66
  · exact w_c67
  · exact w_c68
  · exact w_c69
set_option maxRecDepth 65536 in
theorem w_t1 : (words1.take 24).all (fun c => isCode c || c.before args0 about1) = true := by decide +kernel
set_option maxRecDepth 65536 in
theorem w_t2 : ((words1.drop 24).take 24).all (fun c => isCode c || c.before args0 about1) = true := by decide +kernel
set_option maxRecDepth 65536 in
theorem w_t3 : (((words1.drop 24).drop 24).take 24).all (fun c => isCode c || c.before args0 about1) = true := by decide +kernel
set_option maxRecDepth 65536 in
theorem w_t4 : ((((words1.drop 24).drop 24).drop 24).take 24).all (fun c => isCode c || c.before args0 about1) = true := by decide +kernel
set_option maxRecDepth 65536 in
theorem w_t5 : (((((words1.drop 24).drop 24).drop 24).drop 24).take 24).all (fun c => isCode c || c.before args0 about1) = true := by decide +kernel
set_option maxRecDepth 65536 in
theorem w_t6 : ((((((words1.drop 24).drop 24).drop 24).drop 24).drop 24).take 24).all (fun c => isCode c || c.before args0 about1) = true := by decide +kernel
set_option maxRecDepth 65536 in
theorem w_t7 : (((((((words1.drop 24).drop 24).drop 24).drop 24).drop 24).drop 24).take 24).all (fun c => isCode c || c.before args0 about1) = true := by decide +kernel
set_option maxRecDepth 65536 in
theorem w_t8 : ((((((((words1.drop 24).drop 24).drop 24).drop 24).drop 24).drop 24).drop 24).take 24).all (fun c => isCode c || c.before args0 about1) = true := by decide +kernel
set_option maxRecDepth 65536 in
theorem w_t9 : (((((((((words1.drop 24).drop 24).drop 24).drop 24).drop 24).drop 24).drop 24).drop 24).take 24).all (fun c => isCode c || c.before args0 about1) = true := by decide +kernel
set_option maxRecDepth 65536 in
theorem w_t10 : ((((((((((words1.drop 24).drop 24).drop 24).drop 24).drop 24).drop 24).drop 24).drop 24).drop 24).take 24).all (fun c => isCode c || c.before args0 about1) = true := by decide +kernel
set_option maxRecDepth 65536 in
theorem w_t11 : (((((((((((words1.drop 24).drop 24).drop 24).drop 24).drop 24).drop 24).drop 24).drop 24).drop 24).drop 24).take 24).all (fun c => isCode c || c.before args0 about1) = true := by decide +kernel
set_option maxRecDepth 65536 in
theorem w_t12 : ((((((((((((words1.drop 24).drop 24).drop 24).drop 24).drop 24).drop 24).drop 24).drop 24).drop 24).drop 24).drop 24).take 24).all (fun c => isCode c || c.before args0 about1) = true := by decide +kernel
set_option maxRecDepth 65536 in
theorem w_t13 : (((((((((((((words1.drop 24).drop 24).drop 24).drop 24).drop 24).drop 24).drop 24).drop 24).drop 24).drop 24).drop 24).drop 24).take 24).all (fun c => isCode c || c.before args0 about1) = true := by decide +kernel
set_option maxRecDepth 65536 in
theorem w_t14 : ((((((((((((((words1.drop 24).drop 24).drop 24).drop 24).drop 24).drop 24).drop 24).drop 24).drop 24).drop 24).drop 24).drop 24).drop 24).take 24).all (fun c => isCode c || c.before args0 about1) = true := by decide +kernel
set_option maxRecDepth 65536 in
theorem w_t15 : ((((((((((((((words1.drop 24).drop 24).drop 24).drop 24).drop 24).drop 24).drop 24).drop 24).drop 24).drop 24).drop 24).drop 24).drop 24).drop 24).all (fun c => isCode c || c.before args0 about1) = true := by decide +kernel
theorem w_tables : (allAtoms (Jvm.Cond.code x code maxLocals ret :: tables_1)).before args0 about1 = true := by
  rw [allAtoms_all]
  show words1.all (fun c => c.before args0 about1) = true
  refine all_split ?_ w_codes
  rw [← List.take_append_drop 24 words1, List.all_append, w_t1, ← List.take_append_drop 24 (words1.drop 24), List.all_append, w_t2, ← List.take_append_drop 24 ((words1.drop 24).drop 24), List.all_append, w_t3, ← List.take_append_drop 24 (((words1.drop 24).drop 24).drop 24), List.all_append, w_t4, ← List.take_append_drop 24 ((((words1.drop 24).drop 24).drop 24).drop 24), List.all_append, w_t5, ← List.take_append_drop 24 (((((words1.drop 24).drop 24).drop 24).drop 24).drop 24), List.all_append, w_t6, ← List.take_append_drop 24 ((((((words1.drop 24).drop 24).drop 24).drop 24).drop 24).drop 24), List.all_append, w_t7, ← List.take_append_drop 24 (((((((words1.drop 24).drop 24).drop 24).drop 24).drop 24).drop 24).drop 24), List.all_append, w_t8, ← List.take_append_drop 24 ((((((((words1.drop 24).drop 24).drop 24).drop 24).drop 24).drop 24).drop 24).drop 24), List.all_append, w_t9, ← List.take_append_drop 24 (((((((((words1.drop 24).drop 24).drop 24).drop 24).drop 24).drop 24).drop 24).drop 24).drop 24), List.all_append, w_t10, ← List.take_append_drop 24 ((((((((((words1.drop 24).drop 24).drop 24).drop 24).drop 24).drop 24).drop 24).drop 24).drop 24).drop 24), List.all_append, w_t11, ← List.take_append_drop 24 (((((((((((words1.drop 24).drop 24).drop 24).drop 24).drop 24).drop 24).drop 24).drop 24).drop 24).drop 24).drop 24), List.all_append, w_t12, ← List.take_append_drop 24 ((((((((((((words1.drop 24).drop 24).drop 24).drop 24).drop 24).drop 24).drop 24).drop 24).drop 24).drop 24).drop 24).drop 24), List.all_append, w_t13, ← List.take_append_drop 24 (((((((((((((words1.drop 24).drop 24).drop 24).drop 24).drop 24).drop 24).drop 24).drop 24).drop 24).drop 24).drop 24).drop 24).drop 24), List.all_append, w_t14, w_t15]
  rfl
set_option maxRecDepth 65536 in
theorem w_rest : rest_1_c.before args0 about1 = true := by decide +kernel
set_option maxRecDepth 65536 in
theorem w_case : (Jvm.Cond.and given_1 narrow_1).before args0 about1 = true := by decide +kernel
set_option maxRecDepth 65536 in
theorem w_consts : constsHeld consts_1 about1 := Jvm.Lit.constsHeldB_iff.mp (by decide +kernel)
theorem w_applies : (headSpec (Jvm.Cond.code x code maxLocals ret :: tables_1) room_1).applies x e0.platform about1 = true :=
  (Spec.applies_iff w_frames).mpr ⟨w_running, w_runnable, w_alone, w_named, w_hears, w_ripe, w_room, w_tables⟩
theorem atStart : AtStart classFile x code maxLocals ret World_1 tables_1 room_1 Calls_1 rest_1 Pre_1 launch0 p0 e0 about1 theMethod args0 below0 :=
  ⟨lists_1, trivial, launch0.admits_env _ _ _, launch0.least_env, fairChoices_fair.cas, fairChoices_fair.clock, w_frames, w_args, w_heap, w_applies, ⟨w_consts, trivial⟩, w_rest, w_case⟩
end start1
theorem witness_1 : WitnessClaimed_1 := ⟨start1.p0, start1.e0, start1.about1, start1.theMethod, start1.args0, start1.below0, start1.atStart⟩
end Jvm.Pilot.@@N@@
