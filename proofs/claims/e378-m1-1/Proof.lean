import JvmDerived
import JvmDerived.Pilot.@@N@@Statement
import JvmDerived.Pilot.@@N@@Code
set_option linter.unusedVariables false
set_option linter.unusedSimpArgs false
@@BLOCK:NumsL.lean.txt@@
set_option maxRecDepth 65536
namespace Jvm.Pilot.@@N@@
open Jvm Jvm.ClassFile Sem Op Lib Jvm.Free Jvm.Stand Jvm.LawKit Jvm.RoadKit Bundle Jvm.Pilot.@@N@@.Jvm.D
/-! OWN KIT: the walk in continuation style over lawnew's family -/
section OwnKit
variable {p : Program} {l : Launch} {e : Env} {R : Room} {s : State} {m : MethodId} {args : Array Value} {below : List Frame} {meth : Method} {c : Code} {T : State} {locs : List Loc} {cells slots : Nat} {Z : State} {a0 : Array Value} {h : Heap} {K : Outcome → State → Prop} {Q : Option Value → Heap → List Loc → Prop} {rc rs : Nat}
/-- from the frame g over T the run comes to its end, and K holds there -/
def Go (p : Program) (e : Env) (below : List Frame) (K : Outcome → State → Prop) (T : State) (g : JFrame) : Prop :=
  ∃ s₂ o, Steps p.tables e below (T.setTop g) s₂ ∧ s₂.status = .running ∧ Ended s₂ below o ∧ K o s₂
theorem Go.to {T T' : State} {g g' : JFrame} (st : ∀ t, Steps p.tables e below (T'.setTop g') t → Steps p.tables e below (T.setTop g) t) (k : Go p e below K T' g') : Go p e below K T g := by
  obtain ⟨s₂, o, h1, h2⟩ := k
  exact ⟨s₂, o, st _ h1, h2⟩
def KQ (s : State) (Q : Option Value → Heap → List Loc → Prop) (rc rs : Nat) : Outcome → State → Prop := fun o U => ∃ v L, o = .returned v ∧ Q v U.heap L ∧ FrameEnd s o U L rc rs
theorem Go.retW (X : Stand p l e R s m args below meth c T locs cells slots) (hx : p.tables.exec = Jvm.exec) (hlk : meth.locks = false) {pc : Nat} {Ls : Array Slot} {w : Value} {t : FieldType} {i : Instr} {rest : List Value} (hret : meth.sig.returnType = some t) (hn : narrow t w = w)
    (hi : (i = .ireturn ∧ (t = .int ∨ t = .boolean ∨ t = .byte ∨ t = .char ∨ t = .short) ∧ ∃ z, w = .int z) ∨ (i = .lreturn ∧ t = .long ∧ ∃ z, w = .long z) ∨ (i = .dreturn ∧ t = .double ∧ ∃ z, w = .double z) ∨ (i = .freturn ∧ t = .float ∧ ∃ z, w = .float z) ∨ (i = .areturn ∧ t.isReference = true ∧ w.isRef = true))
    (hd : decode c.code pc = .ok (i, 1)) (hq : Q (some w) T.heap locs) (hc : cells ≤ rc) (hs : slots ≤ rs) : Go p e below (KQ s Q rc rs) T (mkF m pc Ls (w :: rest)) := by
  obtain ⟨fs, hr, hrun, hended, hW, hsame⟩ := X.leave (v := some w) (fun h => by rw [hret] at h; cases h) hlk
  exact ⟨_, _, retOut X hx hret hn hi hd hr, hrun, hended, _, _, rfl, hq, ⟨_, rfl⟩, hW, hsame.mono hc hs⟩
theorem Go.retI (X : Stand p l e R s m args below meth c T locs cells slots) (hx : p.tables.exec = Jvm.exec) (hlk : meth.locks = false) {pc : Nat} {Ls : Array Slot} {z : Int32} {rest : List Value} (hret : meth.sig.returnType = some .int)
    (hd : decode c.code pc = .ok (.ireturn, 1)) (hq : Q (some (.int z)) T.heap locs) (hc : cells ≤ rc) (hs : slots ≤ rs) : Go p e below (KQ s Q rc rs) T (mkF m pc Ls (.int z :: rest)) :=
  Go.retW X hx hlk hret rfl (Or.inl ⟨rfl, Or.inl rfl, z, rfl⟩) hd hq hc hs
theorem Go.retJ (X : Stand p l e R s m args below meth c T locs cells slots) (hx : p.tables.exec = Jvm.exec) (hlk : meth.locks = false) {pc : Nat} {Ls : Array Slot} {z : Int64} {rest : List Value} (hret : meth.sig.returnType = some .long)
    (hd : decode c.code pc = .ok (.lreturn, 1)) (hq : Q (some (.long z)) T.heap locs) (hc : cells ≤ rc) (hs : slots ≤ rs) : Go p e below (KQ s Q rc rs) T (mkF m pc Ls (.long z :: rest)) :=
  Go.retW X hx hlk hret rfl (Or.inr (Or.inl ⟨rfl, rfl, z, rfl⟩)) hd hq hc hs
theorem Go.retZ (X : Stand p l e R s m args below meth c T locs cells slots) (hx : p.tables.exec = Jvm.exec) (hlk : meth.locks = false) {pc : Nat} {Ls : Array Slot} {z : Int32} {rest : List Value} (hret : meth.sig.returnType = some .boolean) (hz : z = 0 ∨ z = 1)
    (hd : decode c.code pc = .ok (.ireturn, 1)) (hq : Q (some (.int z)) T.heap locs) (hc : cells ≤ rc) (hs : slots ≤ rs) : Go p e below (KQ s Q rc rs) T (mkF m pc Ls (.int z :: rest)) :=
  Go.retW X hx hlk hret (by rcases hz with rfl | rfl <;> rfl) (Or.inl ⟨rfl, Or.inr (Or.inl rfl), z, rfl⟩) hd hq hc hs
theorem Go.retA (X : Stand p l e R s m args below meth c T locs cells slots) (hx : p.tables.exec = Jvm.exec) (hlk : meth.locks = false) {pc : Nat} {Ls : Array Slot} {w : Value} {t : FieldType} {rest : List Value} (hret : meth.sig.returnType = some t) (ht : t.isReference = true) (hw : w.isRef = true) (hn : narrow t w = w)
    (hd : decode c.code pc = .ok (.areturn, 1)) (hq : Q (some w) T.heap locs) (hc : cells ≤ rc) (hs : slots ≤ rs) : Go p e below (KQ s Q rc rs) T (mkF m pc Ls (w :: rest)) :=
  Go.retW X hx hlk hret hn (Or.inr (Or.inr (Or.inr (Or.inr ⟨rfl, ht, hw⟩)))) hd hq hc hs
theorem Go.retV (X : Stand p l e R s m args below meth c T locs cells slots) (hx : p.tables.exec = Jvm.exec) (hlk : meth.locks = false) {pc : Nat} {Ls : Array Slot} (hret : meth.sig.returnType = none)
    (hd : decode c.code pc = .ok (.return_, 1)) (hq : Q none T.heap locs) (hc : cells ≤ rc) (hs : slots ≤ rs) : Go p e below (KQ s Q rc rs) T (mkF m pc Ls []) := by
  obtain ⟨fs, hr, hrun, hended, hW, hsame⟩ := X.leave (v := none) (fun _ => rfl) hlk
  exact ⟨_, _, X.returnOut hx hret hd hr, hrun, hended, _, _, rfl, hq, ⟨_, rfl⟩, hW, hsame.mono hc hs⟩
/-- a contract in this family -/
abbrev Met1 (l : Launch) (Z : State) (y : MethodName) (bytes : ByteArray) (maxL : Nat) (ret : Option FieldType) (ws : List Jvm.Cond) (rm : Room) (as' : Array Value) (h0 : Heap) (Q : Option Value → Heap → List Loc → Prop) : Prop :=
  MetFree l y (head1 (Jvm.Cond.code y bytes maxL ret :: ws) rm) (fun a U => a = as' ∧ Z.Warmed39 U.vm ∧ U.heap = h0) (fun _ _ _ _ _ => True) (fun _ U o U' => ∃ v L, o = .returned v ∧ Q v U'.heap L ∧ FrameEnd U o U' L rm.cells rm.slots)
theorem metOf {y : MethodName} {bytes : ByteArray} {maxL : Nat} {ret : Option FieldType} {ws : List Jvm.Cond} {rm : Room} {as' : Array Value} {h0 : Heap} (hp : plainFor y = true)
    (body : ∀ (p : Program) (e : Env) (s : State) (m : MethodId) (below : List Frame) (meth : Method) (c : Code) (s₁ : State), p.tables.exec = Jvm.exec → c.code = bytes → c.maxLocals = maxL → s.vm.findClass y.cls = some m.cls → meth.name = y.name → meth.sig.returnType = ret → meth.locks = false → Z.Warmed39 s.vm →
      Stand p l e rm s m as' below meth c s₁ [] 0 0 → s₁.heap = h0 → Go p e below (KQ s Q rm.cells rm.slots) s₁ (entryFrame m as' maxL)) : Met1 l Z y bytes maxL ret ws rm as' h0 Q := by
  refine MetFree.of_bodySF hp hisR ?_
  intro p e s m args below meth c s₁ Bd hml0 hP hK
  obtain ⟨rfl, hZ, hh⟩ := hP
  exact body p e s m below meth c s₁ Bd.exec Bd.bytes hml0 (findClass_of_methodNamed Bd.named) (name_of_methodNamed Bd.named Bd.method).1 Bd.returns (BodyLoose.notSynchronized Bd) hZ (Stand.of_body Bd) (by rw [← hh, Bd.state]; rfl)
section Calls
variable {own : String} {index : Nat} {y : MethodName} {bytes : ByteArray} {maxL : Nat} {ret : Option FieldType} {rm : Room} {as' : Array Value} {pc : Nat} {Ls : Array Slot} {st rest argsL : List Value} {ps : List FieldType} {r : Option FieldType}
theorem Go.callS (X : Stand p l e R s m args below meth c T locs cells slots) (hx : p.tables.exec = Jvm.exec) (hZ : Z.Warmed39 s.vm) (hown : s.vm.findClass own = some m.cls)
    (w1 : (Cond.methodLink own index y).before a0 Z = true) (w2 : (Cond.static y).before a0 Z = true) (w3 : (Cond.initialized y.cls).before a0 Z = true) (w4 : (Cond.code y bytes maxL ret).before a0 Z = true)
    (hy : y.cls ≠ "java/lang/invoke/MethodHandle" ∧ y.cls ≠ "java/lang/invoke/VarHandle") (hM : Met1 l Z y bytes maxL ret [] rm as' h Q) (eT : T.heap = h) (hsize : Ls.size = c.maxLocals)
    (hpd : parseMethodDescriptor y.desc = some ⟨ps, r⟩) (hlen : argsL.length = ps.length) (hst : st = argsL.reverse ++ rest) (has : argsL.toArray = as') (hdc : decode c.code pc = .ok (.invokestatic index, 3))
    (hf : rm.frames + 1 ≤ R.frames) (hlo : (rest.map fun v => v.category).sum + (maxL + 11) + rm.locals ≤ R.locals) (hce : cells + rm.cells ≤ R.cells) (hsl : slots + rm.slots ≤ R.slots)
    (k : ∀ T' v L, Stand p l e R s m args below meth c T' (locs ++ L) (cells + rm.cells) (slots + rm.slots) → Q v T'.heap L → Go p e below K T' (mkF m (pc + 3) Ls (v.toList ++ rest))) : Go p e below K T (mkF m pc Ls st) := by
  obtain ⟨v, vm₁, ⟨T', L', c', n'⟩, -, X', ⟨L, hQ, e1, e2, e3⟩, st'⟩ := Jvm.LawKit.callS X hx hown (mvT hZ w1) (mvT hZ w2) (mvT hZ w3) (mvT hZ w4) hy (backOf (W := (rest.map fun v => v.category).sum) hM hZ w4 w3 hf hlo) (g := mkF m pc Ls st) rfl hsize (argsL := argsL) (rest := rest) (lenOf hpd hlen) hst (by show 2 * 0 + _ ≤ _; omega) hdc (fun _ _ => ⟨has, eT, hce, hsl⟩)
  dsimp only [Pt.U, Pt.locs, Pt.cells, Pt.slots] at X' e1 e2 e3 st' hQ
  subst e1 e2 e3
  exact Go.to st' (k T' v L X' hQ)
theorem Go.callI (X : Stand p l e R s m args below meth c T locs cells slots) (hx : p.tables.exec = Jvm.exec) (hZ : Z.Warmed39 s.vm) (hown : s.vm.findClass own = some m.cls) (hin : y.name = "<init>")
    (w1 : (Cond.methodLink own index y).before a0 Z = true) (w2 : (Cond.instanceMethod y).before a0 Z = true) (w3 : (Cond.initialized y.cls).before a0 Z = true) (w4 : (Cond.code y bytes maxL none).before a0 Z = true)
    (hy : y.cls ≠ "java/lang/invoke/MethodHandle" ∧ y.cls ≠ "java/lang/invoke/VarHandle") (hM : Met1 l Z y bytes maxL none [] rm as' h Q) (eT : T.heap = h) (hsize : Ls.size = c.maxLocals)
    (hpd : parseMethodDescriptor y.desc = some ⟨ps, r⟩) (hlen : argsL.length = ps.length) {a : Addr} (hst : st = argsL.reverse ++ .ref a :: rest) (has : (Value.ref a :: argsL).toArray = as') (hdc : decode c.code pc = .ok (.invokespecial index, 3))
    (hf : rm.frames + 1 ≤ R.frames) (hlo : (rest.map fun v => v.category).sum + (maxL + 11) + rm.locals ≤ R.locals) (hce : cells + rm.cells ≤ R.cells) (hsl : slots + rm.slots ≤ R.slots)
    (k : ∀ T' v L, Stand p l e R s m args below meth c T' (locs ++ L) (cells + rm.cells) (slots + rm.slots) → Q v T'.heap L → Go p e below K T' (mkF m (pc + 3) Ls (v.toList ++ rest))) : Go p e below K T (mkF m pc Ls st) := by
  obtain ⟨v, vm₁, ⟨T', L', c', n'⟩, -, X', ⟨L, hQ, e1, e2, e3⟩, st'⟩ := X.specialBack hx hin hown (mvT hZ w1) (mvT hZ w2) (mvT hZ w4) hy (backOf (W := (rest.map fun v => v.category).sum) hM hZ w4 w3 hf hlo) (g := mkF m pc Ls st) rfl hsize (Steps.refl _) (a := a) (argsL := argsL) (rest := rest) (lenOf hpd hlen) hst (by show 2 * 0 + _ ≤ _; omega) hdc (fun _ _ => ⟨has, eT, hce, hsl⟩)
  dsimp only [Pt.U, Pt.locs, Pt.cells, Pt.slots] at X' e1 e2 e3 st' hQ
  subst e1 e2 e3
  exact Go.to (fun _ q => st'.trans q) (k T' v L X' hQ)
theorem Go.callV (X : Stand p l e R s m args below meth c T locs cells slots) (hx : p.tables.exec = Jvm.exec) (hZ : Z.Warmed39 s.vm) (hown : s.vm.findClass own = some m.cls)
    (w1 : (Cond.methodLink own index y).before a0 Z = true) (w5 : (Cond.declares y).before a0 Z = true) {C : String} (w6 : (Cond.selects C y y).before a0 Z = true) (w2 : (Cond.instanceMethod y).before a0 Z = true) (w3 : (Cond.initialized y.cls).before a0 Z = true) (w4 : (Cond.code y bytes maxL ret).before a0 Z = true)
    (hy : y.cls ≠ "java/lang/invoke/MethodHandle" ∧ y.cls ≠ "java/lang/invoke/VarHandle") (hM : Met1 l Z y bytes maxL ret [] rm as' h Q) (eT : T.heap = h) {a : Addr} (E : Exa Z h a C) (hsize : Ls.size = c.maxLocals)
    (hpd : parseMethodDescriptor y.desc = some ⟨ps, r⟩) (hlen : argsL.length = ps.length) (hst : st = argsL.reverse ++ .ref a :: rest) (has : (Value.ref a :: argsL).toArray = as') (hdc : decode c.code pc = .ok (.invokevirtual index, 3))
    (hf : rm.frames + 1 ≤ R.frames) (hlo : (rest.map fun v => v.category).sum + (maxL + 11) + rm.locals ≤ R.locals) (hce : cells + rm.cells ≤ R.cells) (hsl : slots + rm.slots ≤ R.slots)
    (k : ∀ T' v L, Stand p l e R s m args below meth c T' (locs ++ L) (cells + rm.cells) (slots + rm.slots) → Q v T'.heap L → Go p e below K T' (mkF m (pc + 3) Ls (v.toList ++ rest))) : Go p e below K T (mkF m pc Ls st) := by
  obtain ⟨cq, kq, q1, q2, q3⟩ := isOf hZ eT E
  obtain ⟨v, vm₁, ⟨T', L', c', n'⟩, -, X', ⟨L, hQ, e1, e2, e3⟩, st'⟩ := X.virtualBack hx (y := y) (z := y) hown (mvT hZ w1) (mvT hZ w5) (notFace_of_selects (args := #[]) (mvT hZ w6)) (mvT hZ w6) (mvT hZ w2) hy (backOf (W := (rest.map fun v => v.category).sum) hM hZ w4 w3 hf hlo) q1 q3 (g := mkF m pc Ls st) rfl hsize (Steps.refl _) (argsL := argsL) (rest := rest) (lenOf hpd hlen) hst (by show 2 * 0 + _ ≤ _; omega) hdc (fun _ _ => ⟨has, eT, hce, hsl⟩)
  dsimp only [Pt.U, Pt.locs, Pt.cells, Pt.slots] at X' e1 e2 e3 st' hQ
  subst e1 e2 e3
  exact Go.to (fun _ q => st'.trans q) (k T' v L X' hQ)
end Calls
/-! arrays of ints (or of chars) by their list -/
def AV (Z : State) (h : Heap) (b : Addr) (ty : FieldType) (xs : List Int32) : Prop := ∃ cl : Cell, Arr Z h b cl ty ∧ cl.slots = (xs.map Value.int).toArray
def rdL (xs : List Int32) (j : Int32) : Option Int32 := if j < 0 then none else xs[j.toNatClampNeg]?
def wrL (xs : List Int32) (j v : Int32) : List Int32 := xs.set j.toNatClampNeg v
variable {b : Addr} {xs : List Int32} {j v w : Int32} {ty : FieldType} {h' : Heap}
theorem AV.lt (A : AV Z h b ty xs) : b < h.size := by obtain ⟨cl, A, -⟩ := A; exact A.lt
theorem AV.ext (A : AV Z h b ty xs) (E : Ext h h') : AV Z h' b ty xs := by obtain ⟨cl, A, q⟩ := A; exact ⟨cl, A.ext E, q⟩
theorem AV.other {a : Addr} {sl : Nat} {u : Value} (A : AV Z h b ty xs) (W : Wr h h' a sl u) (q : b ≠ a) : AV Z h' b ty xs := by obtain ⟨cl, A, r⟩ := A; exact ⟨cl, A.other W q, r⟩
theorem AV.keep {ws : List Addr} (A : AV Z h b ty xs) (Kp : Keep h h' ws) (q : b ∉ ws) : AV Z h' b ty xs := by obtain ⟨cl, A, r⟩ := A; exact ⟨cl, ⟨Kp.2.1 b cl A.1 q, A.2⟩, r⟩
theorem AV.same {n : Nat} (A : AV Z h b ty xs) (W : Wr h h' b n (.int v)) : AV Z h' b ty (xs.set n v) := by
  obtain ⟨cl, A, r⟩ := A
  refine ⟨_, A.same W, ?_⟩
  simp only [Cell.setSlot, r, List.setIfInBounds_toArray, List.map_set]
theorem AV.rd (A : AV Z h b ty xs) (hr : rdL xs j = some v) : ∃ cl : Cell, Arr Z h b cl ty ∧ ¬ (j < 0 ∨ cl.slots.size ≤ j.toNatClampNeg) ∧ cl.slots[j.toNatClampNeg]? = some (.int v) := by
  obtain ⟨cl, A, r⟩ := A
  unfold rdL at hr
  split at hr
  · cases hr
  · rename_i hj
    obtain ⟨hlt, hv⟩ := List.getElem?_eq_some_iff.mp hr
    refine ⟨cl, A, ?_, ?_⟩
    · rw [r]; simp only [List.size_toArray, List.length_map]; rintro (q | q)
      · exact hj q
      · omega
    · rw [r]; simp [hlt, hv]
theorem AV.new {cA : ClassId} {n : Int32} (A : Arr Z h b (newA cA .int n) .int) : AV Z h b .int (List.replicate n.toNatClampNeg 0) := ⟨_, A, by simp [newA, defaultValue]⟩
theorem AV.newC {cA : ClassId} {n : Int32} (A : Arr Z h b (newA cA .char n) .char) : AV Z h b .char (List.replicate n.toNatClampNeg 0) := ⟨_, A, by simp [newA, defaultValue]⟩
variable {pc : Nat} {Ls : Array Slot} {rest : List Value}
theorem Go.iaload (X : Stand p l e R s m args below meth c T locs cells slots) (hx : p.tables.exec = Jvm.exec) (hZ : Z.Warmed39 s.vm) (eT : T.heap = h) (A : AV Z h b .int xs) (hr : rdL xs j = some v) (hd : decode c.code pc = .ok (.iaload, 1))
    (k : Go p e below K T (mkF m (pc + 1) Ls (.int v :: rest))) : Go p e below K T (mkF m pc Ls (.int j :: .ref b :: rest)) := by
  obtain ⟨cl, A, h1, h2⟩ := A.rd hr
  exact Go.to (fun t q => X.iaload hx (by rw [eT]; exact A.1) (State.isArrayOf_alike hZ.alike A.2.1) A.2.2 h1 h2 (g := mkF m pc Ls (.int j :: .ref b :: rest)) rfl rfl hd t q) k
theorem Go.caload (X : Stand p l e R s m args below meth c T locs cells slots) (hx : p.tables.exec = Jvm.exec) (hZ : Z.Warmed39 s.vm) (eT : T.heap = h) (A : AV Z h b .char xs) (hr : rdL xs j = some v) (hd : decode c.code pc = .ok (.caload, 1))
    (k : Go p e below K T (mkF m (pc + 1) Ls (.int v :: rest))) : Go p e below K T (mkF m pc Ls (.int j :: .ref b :: rest)) := by
  obtain ⟨cl, A, h1, h2⟩ := A.rd hr
  exact Go.to (fun t q => X.caload hx (by rw [eT]; exact A.1) (State.isArrayOf_alike hZ.alike A.2.1) A.2.2 h1 h2 (g := mkF m pc Ls (.int j :: .ref b :: rest)) rfl rfl hd t q) k
theorem Go.alen (X : Stand p l e R s m args below meth c T locs cells slots) (hx : p.tables.exec = Jvm.exec) (hZ : Z.Warmed39 s.vm) (eT : T.heap = h) (A : AV Z h b ty xs) (hd : decode c.code pc = .ok (.arraylength, 1))
    (k : Go p e below K T (mkF m (pc + 1) Ls (.int xs.length.toInt32 :: rest))) : Go p e below K T (mkF m pc Ls (.ref b :: rest)) := by
  obtain ⟨cl, A, r⟩ := A
  refine Go.to (fun t q => X.arraylength hx (by rw [eT]; exact A.1) (State.isArrayOf_alike hZ.alike A.2.1) (g := mkF m pc Ls (.ref b :: rest)) rfl rfl hd t q) ?_
  simpa [r] using k
theorem Go.iastore (X : Stand p l e R s m args below meth c T locs cells slots) (hx : p.tables.exec = Jvm.exec) (hZ : Z.Warmed39 s.vm) (eT : T.heap = h) (A : AV Z h b .int xs) (hr : rdL xs j = some w) (hd : decode c.code pc = .ok (.iastore, 1))
    (k : ∀ T' h', Stand p l e R s m args below meth c T' (locs ++ [⟨b, j.toNatClampNeg⟩]) cells slots → T'.heap = h' → Wr h h' b j.toNatClampNeg (.int v) → AV Z h' b .int (wrL xs j v) → Go p e below K T' (mkF m (pc + 1) Ls rest)) : Go p e below K T (mkF m pc Ls (.int v :: .int j :: .ref b :: rest)) := by
  obtain ⟨cl, A', h1, h2⟩ := A.rd hr
  obtain ⟨T', h', X', e', W, st⟩ := stI X hx hZ eT A' (j := j) h1 (g := mkF m pc Ls (.int v :: .int j :: .ref b :: rest)) rfl rfl hd
  exact Go.to st (k T' h' X' e' W (A.same W))
theorem Go.castore (X : Stand p l e R s m args below meth c T locs cells slots) (hx : p.tables.exec = Jvm.exec) (hZ : Z.Warmed39 s.vm) (eT : T.heap = h) (A : AV Z h b .char xs) (hr : rdL xs j = some w) (hn : nar .char v = v) (hd : decode c.code pc = .ok (.castore, 1))
    (k : ∀ T' h', Stand p l e R s m args below meth c T' (locs ++ [⟨b, j.toNatClampNeg⟩]) cells slots → T'.heap = h' → Wr h h' b j.toNatClampNeg (.int v) → AV Z h' b .char (wrL xs j v) → Go p e below K T' (mkF m (pc + 1) Ls rest)) : Go p e below K T (mkF m pc Ls (.int v :: .int j :: .ref b :: rest)) := by
  obtain ⟨cl, A', h1, h2⟩ := A.rd hr
  obtain ⟨T', h', X', e', W, st⟩ := stC X hx hZ eT A' (j := j) h1 (g := mkF m pc Ls (.int v :: .int j :: .ref b :: rest)) rfl rfl hd
  rw [hn] at W
  exact Go.to st (k T' h' X' e' W (A.same W))
theorem Go.newI (X : Stand p l e R s m args below meth c T locs cells slots) (hx : p.tables.exec = Jvm.exec) (hZ : Z.Warmed39 s.vm) (wa : (Cond.arrayClass .int).before a0 Z = true) (eT : T.heap = h) (hd : decode c.code pc = .ok (.newarray .int, 2)) {n : Int32} (hn : ¬ n < 0) {cap : Nat} (hcap : n.toNatClampNeg ≤ cap) (hb : cap * 8 ≤ 536870912) (hc : cells + 1 ≤ R.cells) (hl : slots + cap ≤ R.slots)
    (k : ∀ T' h' b, Stand p l e R s m args below meth c T' locs (cells + 1) (slots + cap) → T'.heap = h' → Ext h h' → b = h.size → AV Z h' b .int (List.replicate n.toNatClampNeg 0) → Go p e below K T' (mkF m (pc + 2) Ls (.ref b :: rest))) : Go p e below K T (mkF m pc Ls (.int n :: rest)) := by
  obtain ⟨T', h', cA, X', e', E, A, st⟩ := newP X hx hZ (aty := .int) wa eT (g := mkF m pc Ls (.int n :: rest)) rfl hd rfl hn hcap hb hc hl
  exact Go.to st (k T' h' _ X' e' E rfl (AV.new A))
theorem Go.newC (X : Stand p l e R s m args below meth c T locs cells slots) (hx : p.tables.exec = Jvm.exec) (hZ : Z.Warmed39 s.vm) (wa : (Cond.arrayClass .char).before a0 Z = true) (eT : T.heap = h) (hd : decode c.code pc = .ok (.newarray .char, 2)) {n : Int32} (hn : ¬ n < 0) {cap : Nat} (hcap : n.toNatClampNeg ≤ cap) (hb : cap * 8 ≤ 536870912) (hc : cells + 1 ≤ R.cells) (hl : slots + cap ≤ R.slots)
    (k : ∀ T' h' b, Stand p l e R s m args below meth c T' locs (cells + 1) (slots + cap) → T'.heap = h' → Ext h h' → b = h.size → AV Z h' b .char (List.replicate n.toNatClampNeg 0) → Go p e below K T' (mkF m (pc + 2) Ls (.ref b :: rest))) : Go p e below K T (mkF m pc Ls (.int n :: rest)) := by
  obtain ⟨T', h', cA, X', e', E, A, st⟩ := newP X hx hZ (aty := .char) wa eT (g := mkF m pc Ls (.int n :: rest)) rfl hd rfl hn hcap hb hc hl
  exact Go.to st (k T' h' _ X' e' E rfl (AV.newC A))
theorem frOne {k n : Nat} {L : List Loc} (N : Fr k L) (q : k ≤ b) : Fr k (L ++ [⟨b, n⟩]) := N.app fun y hy => by cases List.mem_singleton.mp hy; exact q
end OwnKit
theorem pd_0 : parseMethodDescriptor "(C)I" = some ⟨[.char], some .int⟩ := by decide +kernel
def QP (r : Value) (h0 : Heap) : Option Value → Heap → List Loc → Prop := fun v h L => v = some r ∧ h = h0 ∧ L = []
def fA (p1 : Int32) : Int32 := (if p1 = (66 : Int32) then (2 : Int32) else (if p1 = (79 : Int32) then (8 : Int32) else (if p1 = (88 : Int32) then (16 : Int32) else (if p1 = (98 : Int32) then (2 : Int32) else (if p1 = (111 : Int32) then (8 : Int32) else (if p1 = (120 : Int32) then (16 : Int32) else (10 : Int32)))))))
theorem d1_0 : decode prog_132_method_10_code 0 = .ok (.iload_n 0, 1) := by decide +kernel
theorem d1_1 : decode prog_132_method_10_code 1 = .ok (.lookupswitch 73 #[(66, 69), (79, 64), (88, 59), (98, 69), (111, 64), (120, 59)], 59) := by decide +kernel
theorem d1_60 : decode prog_132_method_10_code 60 = .ok (.bipush 16, 2) := by decide +kernel
theorem d1_62 : decode prog_132_method_10_code 62 = .ok (.goto 14, 3) := by decide +kernel
theorem d1_65 : decode prog_132_method_10_code 65 = .ok (.bipush 8, 2) := by decide +kernel
theorem d1_67 : decode prog_132_method_10_code 67 = .ok (.goto 9, 3) := by decide +kernel
theorem d1_70 : decode prog_132_method_10_code 70 = .ok (.iconst 2, 1) := by decide +kernel
theorem d1_71 : decode prog_132_method_10_code 71 = .ok (.goto 5, 3) := by decide +kernel
theorem d1_74 : decode prog_132_method_10_code 74 = .ok (.bipush 10, 2) := by decide +kernel
theorem d1_76 : decode prog_132_method_10_code 76 = .ok (.ireturn, 1) := by decide +kernel
theorem ef_rm1 (m : MethodId) (p1 : Int32) : entryFrame m #[(.int p1)] 1 = mkF m 0 #[.val (.int p1)] [] := by first | (simp [entryFrame, mkF, argsToLocals, Value.category]; done) | rfl
set_option maxHeartbeats 40000000 in
theorem rm1 (l : Launch) (Z : State) (a0 : Array Value) (hw : ∀ d ∈ tables_1, d.before a0 Z = true) (ws : List Jvm.Cond) (p1 : Int32) (h0 : Heap)  :
    Met1 l Z (⟨"com/example/oakwright/oakwright/js/Lexer", "radixOfPrefix", "(C)I"⟩ : MethodName) prog_132_method_10_code 1 (some .int) ws ({ frames := 0, cells := 0, slots := 0, locals := 0 } : Room) #[(.int p1)] h0 (QP (.int (fA p1)) h0) := by
  refine metOf (by first | exact plainFor_of_name (by first | (simp [plainName, overriddenIn]; done) | decide +kernel) | decide +kernel) ?_
  intro p e s m below meth c s₁ hx hby hml hown hnm hret hlk hZ X0 e0
  have hown : s.vm.findClass "com/example/oakwright/oakwright/js/Lexer" = some m.cls := hown
  obtain ⟨K, hK⟩ : ∃ K, K = KQ s (QP (.int (fA p1)) h0) (({ frames := 0, cells := 0, slots := 0, locals := 0 } : Room)).cells (({ frames := 0, cells := 0, slots := 0, locals := 0 } : Room)).slots := ⟨_, rfl⟩
  show Go p e below (KQ s (QP (.int (fA p1)) h0) (({ frames := 0, cells := 0, slots := 0, locals := 0 } : Room)).cells (({ frames := 0, cells := 0, slots := 0, locals := 0 } : Room)).slots) s₁ (entryFrame m #[(.int p1)] 1)
  rw [← hK, ef_rm1 m p1]
  show Go p e below _ s₁ (mkF m 0 #[.val (.int p1)] [])
  refine Go.to (fun _ => XS.iloadN X0.here hx rfl (hb hby d1_0) rfl) ?_
  show Go p e below _ s₁ (mkF m 1 #[.val (.int p1)] [(.int p1)])
  by_cases hc1 : p1 = (66 : Int32)
  · refine Go.to (fun _ q => X0.lookupswitchHit hx rfl (g := (mkF m 1 #[.val (.int p1)] [(.int p1)])) rfl (hb hby d1_1) (by decide) (a := 66) (off := 69) (by rw [hc1]; decide) (by show (0 : Int) ≤ ((1 : Nat) : Int) + 69; decide) _ q) ?_
    show Go p e below _ s₁ (mkF m 70 #[.val (.int p1)] [])
    refine Go.to (fun _ => XS.iconst X0.here hx rfl (hb hby d1_70)) ?_
    show Go p e below _ s₁ (mkF m 71 #[.val (.int p1)] [(.int (2 : Int32))])
    refine Go.to (fun _ => XS.goto X0.here hx rfl (pc0 := 71) (pc' := 76) rfl (hb hby d1_71) (by decide) (by decide)) ?_
    show Go p e below _ s₁ (mkF m 76 #[.val (.int p1)] [(.int (2 : Int32))])
    rw [hK]
    exact Go.retI X0 hx hlk hret (hb hby d1_76) ⟨by rw [fA]; rw [if_pos hc1], e0, rfl⟩ (by decide) (by decide)
  ·
    by_cases hc2 : p1 = (79 : Int32)
    · refine Go.to (fun _ q => X0.lookupswitchHit hx rfl (g := (mkF m 1 #[.val (.int p1)] [(.int p1)])) rfl (hb hby d1_1) (by decide) (a := 79) (off := 64) (by rw [hc2]; decide) (by show (0 : Int) ≤ ((1 : Nat) : Int) + 64; decide) _ q) ?_
      show Go p e below _ s₁ (mkF m 65 #[.val (.int p1)] [])
      refine Go.to (fun _ => XS.bipush X0.here hx rfl (hb hby d1_65)) ?_
      show Go p e below _ s₁ (mkF m 67 #[.val (.int p1)] [(.int (8 : Int32))])
      refine Go.to (fun _ => XS.goto X0.here hx rfl (pc0 := 67) (pc' := 76) rfl (hb hby d1_67) (by decide) (by decide)) ?_
      show Go p e below _ s₁ (mkF m 76 #[.val (.int p1)] [(.int (8 : Int32))])
      rw [hK]
      exact Go.retI X0 hx hlk hret (hb hby d1_76) ⟨by rw [fA]; rw [if_neg hc1]; rw [if_pos hc2], e0, rfl⟩ (by decide) (by decide)
    ·
      by_cases hc3 : p1 = (88 : Int32)
      · refine Go.to (fun _ q => X0.lookupswitchHit hx rfl (g := (mkF m 1 #[.val (.int p1)] [(.int p1)])) rfl (hb hby d1_1) (by decide) (a := 88) (off := 59) (by rw [hc3]; decide) (by show (0 : Int) ≤ ((1 : Nat) : Int) + 59; decide) _ q) ?_
        show Go p e below _ s₁ (mkF m 60 #[.val (.int p1)] [])
        refine Go.to (fun _ => XS.bipush X0.here hx rfl (hb hby d1_60)) ?_
        show Go p e below _ s₁ (mkF m 62 #[.val (.int p1)] [(.int (16 : Int32))])
        refine Go.to (fun _ => XS.goto X0.here hx rfl (pc0 := 62) (pc' := 76) rfl (hb hby d1_62) (by decide) (by decide)) ?_
        show Go p e below _ s₁ (mkF m 76 #[.val (.int p1)] [(.int (16 : Int32))])
        rw [hK]
        exact Go.retI X0 hx hlk hret (hb hby d1_76) ⟨by rw [fA]; rw [if_neg hc1]; rw [if_neg hc2]; rw [if_pos hc3], e0, rfl⟩ (by decide) (by decide)
      ·
        by_cases hc4 : p1 = (98 : Int32)
        · refine Go.to (fun _ q => X0.lookupswitchHit hx rfl (g := (mkF m 1 #[.val (.int p1)] [(.int p1)])) rfl (hb hby d1_1) (by decide) (a := 98) (off := 69) (by rw [hc4]; decide) (by show (0 : Int) ≤ ((1 : Nat) : Int) + 69; decide) _ q) ?_
          show Go p e below _ s₁ (mkF m 70 #[.val (.int p1)] [])
          refine Go.to (fun _ => XS.iconst X0.here hx rfl (hb hby d1_70)) ?_
          show Go p e below _ s₁ (mkF m 71 #[.val (.int p1)] [(.int (2 : Int32))])
          refine Go.to (fun _ => XS.goto X0.here hx rfl (pc0 := 71) (pc' := 76) rfl (hb hby d1_71) (by decide) (by decide)) ?_
          show Go p e below _ s₁ (mkF m 76 #[.val (.int p1)] [(.int (2 : Int32))])
          rw [hK]
          exact Go.retI X0 hx hlk hret (hb hby d1_76) ⟨by rw [fA]; rw [if_neg hc1]; rw [if_neg hc2]; rw [if_neg hc3]; rw [if_pos hc4], e0, rfl⟩ (by decide) (by decide)
        ·
          by_cases hc5 : p1 = (111 : Int32)
          · refine Go.to (fun _ q => X0.lookupswitchHit hx rfl (g := (mkF m 1 #[.val (.int p1)] [(.int p1)])) rfl (hb hby d1_1) (by decide) (a := 111) (off := 64) (by rw [hc5]; decide) (by show (0 : Int) ≤ ((1 : Nat) : Int) + 64; decide) _ q) ?_
            show Go p e below _ s₁ (mkF m 65 #[.val (.int p1)] [])
            refine Go.to (fun _ => XS.bipush X0.here hx rfl (hb hby d1_65)) ?_
            show Go p e below _ s₁ (mkF m 67 #[.val (.int p1)] [(.int (8 : Int32))])
            refine Go.to (fun _ => XS.goto X0.here hx rfl (pc0 := 67) (pc' := 76) rfl (hb hby d1_67) (by decide) (by decide)) ?_
            show Go p e below _ s₁ (mkF m 76 #[.val (.int p1)] [(.int (8 : Int32))])
            rw [hK]
            exact Go.retI X0 hx hlk hret (hb hby d1_76) ⟨by rw [fA]; rw [if_neg hc1]; rw [if_neg hc2]; rw [if_neg hc3]; rw [if_neg hc4]; rw [if_pos hc5], e0, rfl⟩ (by decide) (by decide)
          ·
            by_cases hc6 : p1 = (120 : Int32)
            · refine Go.to (fun _ q => X0.lookupswitchHit hx rfl (g := (mkF m 1 #[.val (.int p1)] [(.int p1)])) rfl (hb hby d1_1) (by decide) (a := 120) (off := 59) (by rw [hc6]; decide) (by show (0 : Int) ≤ ((1 : Nat) : Int) + 59; decide) _ q) ?_
              show Go p e below _ s₁ (mkF m 60 #[.val (.int p1)] [])
              refine Go.to (fun _ => XS.bipush X0.here hx rfl (hb hby d1_60)) ?_
              show Go p e below _ s₁ (mkF m 62 #[.val (.int p1)] [(.int (16 : Int32))])
              refine Go.to (fun _ => XS.goto X0.here hx rfl (pc0 := 62) (pc' := 76) rfl (hb hby d1_62) (by decide) (by decide)) ?_
              show Go p e below _ s₁ (mkF m 76 #[.val (.int p1)] [(.int (16 : Int32))])
              rw [hK]
              exact Go.retI X0 hx hlk hret (hb hby d1_76) ⟨by rw [fA]; rw [if_neg hc1]; rw [if_neg hc2]; rw [if_neg hc3]; rw [if_neg hc4]; rw [if_neg hc5]; rw [if_pos hc6], e0, rfl⟩ (by decide) (by decide)
            ·
              have hm : (#[(66, 69), (79, 64), (88, 59), (98, 69), (111, 64), (120, 59)] : Array (Int × Int)).find? (·.1 == (p1).toInt) = none := find_miss (by
                  intro q hq
                  simp only [List.mem_cons, List.not_mem_nil, or_false] at hq
                  rcases hq with rfl | rfl | rfl | rfl | rfl | rfl
                  · exact fun u => hc1 (Int32.toInt_inj.mp (u.symm.trans (by decide)))
                  · exact fun u => hc2 (Int32.toInt_inj.mp (u.symm.trans (by decide)))
                  · exact fun u => hc3 (Int32.toInt_inj.mp (u.symm.trans (by decide)))
                  · exact fun u => hc4 (Int32.toInt_inj.mp (u.symm.trans (by decide)))
                  · exact fun u => hc5 (Int32.toInt_inj.mp (u.symm.trans (by decide)))
                  · exact fun u => hc6 (Int32.toInt_inj.mp (u.symm.trans (by decide))))
              refine Go.to (fun _ q => X0.lookupswitchMiss hx rfl (g := (mkF m 1 #[.val (.int p1)] [(.int p1)])) rfl (hb hby d1_1) (by decide) hm (by show (0 : Int) ≤ ((1 : Nat) : Int) + 73; decide) _ q) ?_
              show Go p e below _ s₁ (mkF m 74 #[.val (.int p1)] [])
              refine Go.to (fun _ => XS.bipush X0.here hx rfl (hb hby d1_74)) ?_
              show Go p e below _ s₁ (mkF m 76 #[.val (.int p1)] [(.int (10 : Int32))])
              rw [hK]
              exact Go.retI X0 hx hlk hret (hb hby d1_76) ⟨by rw [fA]; rw [if_neg hc1]; rw [if_neg hc2]; rw [if_neg hc3]; rw [if_neg hc4]; rw [if_neg hc5]; rw [if_neg hc6], e0, rfl⟩ (by decide) (by decide)
def own_ch (j : Int32) : Int32 := ([(120 : Int32), (88 : Int32), (111 : Int32), (79 : Int32), (98 : Int32), (66 : Int32), (48 : Int32), (89 : Int32)] : List Int32).getD j.toNatClampNeg 0
theorem own_rd {xs : List Int32} {j : Int32} (h0 : 0 ≤ j.toInt) (h1 : j.toInt < xs.length) : rdL xs j = some (xs.getD j.toNatClampNeg 0) := by
  have q : ¬ j < 0 := by rw [Int32.lt_iff_toInt_lt]; have : (0 : Int32).toInt = 0 := by decide
                         omega
  have r : j.toNatClampNeg < xs.length := by simp only [Int32.toNatClampNeg]; omega
  rw [rdL, if_neg q]; simp [List.getElem?_eq_getElem r]
theorem own_idx (x : Int32) : 0 ≤ (x &&& (7 : Int32)).toInt ∧ (x &&& (7 : Int32)).toInt < 8 := by
  have e := Jvm.Kit.i32_mask x (7 : Int32) (k := 3) (by decide) (by decide)
  rw [e]; omega
def own_g (c : Int32) : Int32 := (if (c ||| (32 : Int32)) = (120 : Int32) then (16 : Int32) else (if (c ||| (32 : Int32)) = (111 : Int32) then (8 : Int32) else (if (c ||| (32 : Int32)) = (98 : Int32) then (2 : Int32) else (10 : Int32))))
theorem own_small : ∀ n, n < 128 → fA (Int32.ofNat n) = own_g (Int32.ofNat n) := by decide +kernel
theorem own_eqn {a b : Int32} (h : a = b) : a.toBitVec.toNat = b.toBitVec.toNat := by rw [h]
theorem own_fg (c : Int32) : fA c = own_g c := by
  by_cases hs : c.toBitVec.toNat < 128
  · have e : c = Int32.ofNat c.toBitVec.toNat := by
      apply Int32.toBitVec_inj.mp
      apply BitVec.eq_of_toNat_eq
      rw [Int32.toBitVec_ofNat', BitVec.toNat_ofNat]; omega
    rw [e]; exact own_small _ hs
  · have ho : 128 ≤ (c ||| (32 : Int32)).toBitVec.toNat := by
      rw [Int32.toBitVec_or, BitVec.toNat_or]
      exact Nat.le_trans (by omega) Nat.left_le_or
    have n1 : ∀ k : Int32, k.toBitVec.toNat < 128 → ¬ c = k := fun k hk h => by have := own_eqn h; omega
    have n2 : ∀ k : Int32, k.toBitVec.toNat < 128 → ¬ (c ||| (32 : Int32)) = k := fun k hk h => by have := own_eqn h; omega
    rw [own_g, fA, if_neg (n2 _ (by decide)), if_neg (n2 _ (by decide)), if_neg (n2 _ (by decide)), if_neg (n1 _ (by decide)), if_neg (n1 _ (by decide)), if_neg (n1 _ (by decide)), if_neg (n1 _ (by decide)), if_neg (n1 _ (by decide)), if_neg (n1 _ (by decide))]
theorem ef_rm0 (m : MethodId) (p1 : Int32) (p2 : Int32) : entryFrame m #[(.int p1), (.int p2)] maxLocals = mkF m 0 #[.val (.int p1), .val (.int p2), .unset, .unset, .unset, .unset, .unset] [] := by first | (simp [entryFrame, mkF, argsToLocals, Value.category, maxLocals]; done) | rfl
set_option maxHeartbeats 40000000 in
theorem rm0 (l : Launch) (Z : State) (a0 : Array Value) (hw : ∀ d ∈ tables_1, d.before a0 Z = true) (ws : List Jvm.Cond) (p1 : Int32) (p2 : Int32) (h0 : Heap) (n0 : Nat) (Z0 : n0 ≤ h0.size) :
    Met1 l Z x code maxLocals ret ws room_1 #[(.int p1), (.int p2)] h0 (fun v h L => v = some (.int 1) ∧ Fr n0 L) := by
  refine metOf (by first | exact plainFor_of_name (by first | (simp [plainName, overriddenIn]; done) | decide +kernel) | decide +kernel) ?_
  intro p e s m below meth c s₁ hx hby hml hown hnm hret hlk hZ X0 e0
  have hown : s.vm.findClass "com/example/oakwright/oakwright/js/LexerRadixOfPrefixPinLaw" = some m.cls := hown
  have hml : c.maxLocals = 7 := hml
  obtain ⟨K, hK⟩ : ∃ K, K = KQ s (fun v h L => v = some (.int 1) ∧ Fr n0 L) (room_1).cells (room_1).slots := ⟨_, rfl⟩
  show Go p e below (KQ s (fun v h L => v = some (.int 1) ∧ Fr n0 L) (room_1).cells (room_1).slots) s₁ (entryFrame m #[(.int p1), (.int p2)] maxLocals)
  rw [← hK, ef_rm0 m p1 p2]
  show Go p e below _ s₁ (mkF m 0 #[.val (.int p1), .val (.int p2), .unset, .unset, .unset, .unset, .unset] [])
  refine Go.to (fun _ => XS.bipush X0.here hx rfl (hb hby at_0)) ?_
  show Go p e below _ s₁ (mkF m 2 #[.val (.int p1), .val (.int p2), .unset, .unset, .unset, .unset, .unset] [(.int (8 : Int32))])
  refine Go.newC X0 hx hZ (hw _ (List.mem_of_getElem? (i := 0) rfl)) e0 (hb hby at_2) (by decide) (cap := 8) (by decide) (by decide) (by decide) (by decide) ?_
  intro T1 h1 b1 X1 e1 E1 g1 A1
  have A1 : AV Z h1 b1 .char [(0 : Int32), (0 : Int32), (0 : Int32), (0 : Int32), (0 : Int32), (0 : Int32), (0 : Int32), (0 : Int32)] := by
    have q : List.replicate ((8 : Int32)).toNatClampNeg (0 : Int32) = [(0 : Int32), (0 : Int32), (0 : Int32), (0 : Int32), (0 : Int32), (0 : Int32), (0 : Int32), (0 : Int32)] := by decide +kernel
    rw [q] at A1; exact A1
  have hg1 : n0 ≤ b1 := by rw [g1]; exact Z0
  show Go p e below _ T1 (mkF m 4 #[.val (.int p1), .val (.int p2), .unset, .unset, .unset, .unset, .unset] [(.ref b1)])
  refine Go.to (fun _ => XS.dup X1.here hx rfl (hb hby at_4) rfl rfl) ?_
  show Go p e below _ T1 (mkF m 5 #[.val (.int p1), .val (.int p2), .unset, .unset, .unset, .unset, .unset] [(.ref b1), (.ref b1)])
  refine Go.to (fun _ => XS.iconst X1.here hx rfl (hb hby at_5)) ?_
  show Go p e below _ T1 (mkF m 6 #[.val (.int p1), .val (.int p2), .unset, .unset, .unset, .unset, .unset] [(.int (0 : Int32)), (.ref b1), (.ref b1)])
  refine Go.to (fun _ => XS.bipush X1.here hx rfl (hb hby at_6)) ?_
  show Go p e below _ T1 (mkF m 8 #[.val (.int p1), .val (.int p2), .unset, .unset, .unset, .unset, .unset] [(.int (120 : Int32)), (.int (0 : Int32)), (.ref b1), (.ref b1)])
  refine Go.castore X1 hx hZ e1 A1 (by decide +kernel : rdL [(0 : Int32), (0 : Int32), (0 : Int32), (0 : Int32), (0 : Int32), (0 : Int32), (0 : Int32), (0 : Int32)] (0 : Int32) = some (0 : Int32)) (by decide +kernel) (hb hby at_8) ?_
  intro T2 h2 X2 e2 W2 A2
  have A2 : AV Z h2 b1 .char [(120 : Int32), (0 : Int32), (0 : Int32), (0 : Int32), (0 : Int32), (0 : Int32), (0 : Int32), (0 : Int32)] := by
    have q : wrL [(0 : Int32), (0 : Int32), (0 : Int32), (0 : Int32), (0 : Int32), (0 : Int32), (0 : Int32), (0 : Int32)] (0 : Int32) (120 : Int32) = [(120 : Int32), (0 : Int32), (0 : Int32), (0 : Int32), (0 : Int32), (0 : Int32), (0 : Int32), (0 : Int32)] := by decide +kernel
    rw [q] at A2; exact A2
  have N2 := frOne (n := ((0 : Int32)).toNatClampNeg) (Fr.nil n0) hg1
  show Go p e below _ T2 (mkF m 9 #[.val (.int p1), .val (.int p2), .unset, .unset, .unset, .unset, .unset] [(.ref b1)])
  refine Go.to (fun _ => XS.dup X2.here hx rfl (hb hby at_9) rfl rfl) ?_
  show Go p e below _ T2 (mkF m 10 #[.val (.int p1), .val (.int p2), .unset, .unset, .unset, .unset, .unset] [(.ref b1), (.ref b1)])
  refine Go.to (fun _ => XS.iconst X2.here hx rfl (hb hby at_10)) ?_
  show Go p e below _ T2 (mkF m 11 #[.val (.int p1), .val (.int p2), .unset, .unset, .unset, .unset, .unset] [(.int (1 : Int32)), (.ref b1), (.ref b1)])
  refine Go.to (fun _ => XS.bipush X2.here hx rfl (hb hby at_11)) ?_
  show Go p e below _ T2 (mkF m 13 #[.val (.int p1), .val (.int p2), .unset, .unset, .unset, .unset, .unset] [(.int (88 : Int32)), (.int (1 : Int32)), (.ref b1), (.ref b1)])
  refine Go.castore X2 hx hZ e2 A2 (by decide +kernel : rdL [(120 : Int32), (0 : Int32), (0 : Int32), (0 : Int32), (0 : Int32), (0 : Int32), (0 : Int32), (0 : Int32)] (1 : Int32) = some (0 : Int32)) (by decide +kernel) (hb hby at_13) ?_
  intro T3 h3 X3 e3 W3 A3
  have A3 : AV Z h3 b1 .char [(120 : Int32), (88 : Int32), (0 : Int32), (0 : Int32), (0 : Int32), (0 : Int32), (0 : Int32), (0 : Int32)] := by
    have q : wrL [(120 : Int32), (0 : Int32), (0 : Int32), (0 : Int32), (0 : Int32), (0 : Int32), (0 : Int32), (0 : Int32)] (1 : Int32) (88 : Int32) = [(120 : Int32), (88 : Int32), (0 : Int32), (0 : Int32), (0 : Int32), (0 : Int32), (0 : Int32), (0 : Int32)] := by decide +kernel
    rw [q] at A3; exact A3
  have N3 := frOne (n := ((1 : Int32)).toNatClampNeg) N2 hg1
  show Go p e below _ T3 (mkF m 14 #[.val (.int p1), .val (.int p2), .unset, .unset, .unset, .unset, .unset] [(.ref b1)])
  refine Go.to (fun _ => XS.dup X3.here hx rfl (hb hby at_14) rfl rfl) ?_
  show Go p e below _ T3 (mkF m 15 #[.val (.int p1), .val (.int p2), .unset, .unset, .unset, .unset, .unset] [(.ref b1), (.ref b1)])
  refine Go.to (fun _ => XS.iconst X3.here hx rfl (hb hby at_15)) ?_
  show Go p e below _ T3 (mkF m 16 #[.val (.int p1), .val (.int p2), .unset, .unset, .unset, .unset, .unset] [(.int (2 : Int32)), (.ref b1), (.ref b1)])
  refine Go.to (fun _ => XS.bipush X3.here hx rfl (hb hby at_16)) ?_
  show Go p e below _ T3 (mkF m 18 #[.val (.int p1), .val (.int p2), .unset, .unset, .unset, .unset, .unset] [(.int (111 : Int32)), (.int (2 : Int32)), (.ref b1), (.ref b1)])
  refine Go.castore X3 hx hZ e3 A3 (by decide +kernel : rdL [(120 : Int32), (88 : Int32), (0 : Int32), (0 : Int32), (0 : Int32), (0 : Int32), (0 : Int32), (0 : Int32)] (2 : Int32) = some (0 : Int32)) (by decide +kernel) (hb hby at_18) ?_
  intro T4 h4 X4 e4 W4 A4
  have A4 : AV Z h4 b1 .char [(120 : Int32), (88 : Int32), (111 : Int32), (0 : Int32), (0 : Int32), (0 : Int32), (0 : Int32), (0 : Int32)] := by
    have q : wrL [(120 : Int32), (88 : Int32), (0 : Int32), (0 : Int32), (0 : Int32), (0 : Int32), (0 : Int32), (0 : Int32)] (2 : Int32) (111 : Int32) = [(120 : Int32), (88 : Int32), (111 : Int32), (0 : Int32), (0 : Int32), (0 : Int32), (0 : Int32), (0 : Int32)] := by decide +kernel
    rw [q] at A4; exact A4
  have N4 := frOne (n := ((2 : Int32)).toNatClampNeg) N3 hg1
  show Go p e below _ T4 (mkF m 19 #[.val (.int p1), .val (.int p2), .unset, .unset, .unset, .unset, .unset] [(.ref b1)])
  refine Go.to (fun _ => XS.dup X4.here hx rfl (hb hby at_19) rfl rfl) ?_
  show Go p e below _ T4 (mkF m 20 #[.val (.int p1), .val (.int p2), .unset, .unset, .unset, .unset, .unset] [(.ref b1), (.ref b1)])
  refine Go.to (fun _ => XS.iconst X4.here hx rfl (hb hby at_20)) ?_
  show Go p e below _ T4 (mkF m 21 #[.val (.int p1), .val (.int p2), .unset, .unset, .unset, .unset, .unset] [(.int (3 : Int32)), (.ref b1), (.ref b1)])
  refine Go.to (fun _ => XS.bipush X4.here hx rfl (hb hby at_21)) ?_
  show Go p e below _ T4 (mkF m 23 #[.val (.int p1), .val (.int p2), .unset, .unset, .unset, .unset, .unset] [(.int (79 : Int32)), (.int (3 : Int32)), (.ref b1), (.ref b1)])
  refine Go.castore X4 hx hZ e4 A4 (by decide +kernel : rdL [(120 : Int32), (88 : Int32), (111 : Int32), (0 : Int32), (0 : Int32), (0 : Int32), (0 : Int32), (0 : Int32)] (3 : Int32) = some (0 : Int32)) (by decide +kernel) (hb hby at_23) ?_
  intro T5 h5 X5 e5 W5 A5
  have A5 : AV Z h5 b1 .char [(120 : Int32), (88 : Int32), (111 : Int32), (79 : Int32), (0 : Int32), (0 : Int32), (0 : Int32), (0 : Int32)] := by
    have q : wrL [(120 : Int32), (88 : Int32), (111 : Int32), (0 : Int32), (0 : Int32), (0 : Int32), (0 : Int32), (0 : Int32)] (3 : Int32) (79 : Int32) = [(120 : Int32), (88 : Int32), (111 : Int32), (79 : Int32), (0 : Int32), (0 : Int32), (0 : Int32), (0 : Int32)] := by decide +kernel
    rw [q] at A5; exact A5
  have N5 := frOne (n := ((3 : Int32)).toNatClampNeg) N4 hg1
  show Go p e below _ T5 (mkF m 24 #[.val (.int p1), .val (.int p2), .unset, .unset, .unset, .unset, .unset] [(.ref b1)])
  refine Go.to (fun _ => XS.dup X5.here hx rfl (hb hby at_24) rfl rfl) ?_
  show Go p e below _ T5 (mkF m 25 #[.val (.int p1), .val (.int p2), .unset, .unset, .unset, .unset, .unset] [(.ref b1), (.ref b1)])
  refine Go.to (fun _ => XS.iconst X5.here hx rfl (hb hby at_25)) ?_
  show Go p e below _ T5 (mkF m 26 #[.val (.int p1), .val (.int p2), .unset, .unset, .unset, .unset, .unset] [(.int (4 : Int32)), (.ref b1), (.ref b1)])
  refine Go.to (fun _ => XS.bipush X5.here hx rfl (hb hby at_26)) ?_
  show Go p e below _ T5 (mkF m 28 #[.val (.int p1), .val (.int p2), .unset, .unset, .unset, .unset, .unset] [(.int (98 : Int32)), (.int (4 : Int32)), (.ref b1), (.ref b1)])
  refine Go.castore X5 hx hZ e5 A5 (by decide +kernel : rdL [(120 : Int32), (88 : Int32), (111 : Int32), (79 : Int32), (0 : Int32), (0 : Int32), (0 : Int32), (0 : Int32)] (4 : Int32) = some (0 : Int32)) (by decide +kernel) (hb hby at_28) ?_
  intro T6 h6 X6 e6 W6 A6
  have A6 : AV Z h6 b1 .char [(120 : Int32), (88 : Int32), (111 : Int32), (79 : Int32), (98 : Int32), (0 : Int32), (0 : Int32), (0 : Int32)] := by
    have q : wrL [(120 : Int32), (88 : Int32), (111 : Int32), (79 : Int32), (0 : Int32), (0 : Int32), (0 : Int32), (0 : Int32)] (4 : Int32) (98 : Int32) = [(120 : Int32), (88 : Int32), (111 : Int32), (79 : Int32), (98 : Int32), (0 : Int32), (0 : Int32), (0 : Int32)] := by decide +kernel
    rw [q] at A6; exact A6
  have N6 := frOne (n := ((4 : Int32)).toNatClampNeg) N5 hg1
  show Go p e below _ T6 (mkF m 29 #[.val (.int p1), .val (.int p2), .unset, .unset, .unset, .unset, .unset] [(.ref b1)])
  refine Go.to (fun _ => XS.dup X6.here hx rfl (hb hby at_29) rfl rfl) ?_
  show Go p e below _ T6 (mkF m 30 #[.val (.int p1), .val (.int p2), .unset, .unset, .unset, .unset, .unset] [(.ref b1), (.ref b1)])
  refine Go.to (fun _ => XS.iconst X6.here hx rfl (hb hby at_30)) ?_
  show Go p e below _ T6 (mkF m 31 #[.val (.int p1), .val (.int p2), .unset, .unset, .unset, .unset, .unset] [(.int (5 : Int32)), (.ref b1), (.ref b1)])
  refine Go.to (fun _ => XS.bipush X6.here hx rfl (hb hby at_31)) ?_
  show Go p e below _ T6 (mkF m 33 #[.val (.int p1), .val (.int p2), .unset, .unset, .unset, .unset, .unset] [(.int (66 : Int32)), (.int (5 : Int32)), (.ref b1), (.ref b1)])
  refine Go.castore X6 hx hZ e6 A6 (by decide +kernel : rdL [(120 : Int32), (88 : Int32), (111 : Int32), (79 : Int32), (98 : Int32), (0 : Int32), (0 : Int32), (0 : Int32)] (5 : Int32) = some (0 : Int32)) (by decide +kernel) (hb hby at_33) ?_
  intro T7 h7 X7 e7 W7 A7
  have A7 : AV Z h7 b1 .char [(120 : Int32), (88 : Int32), (111 : Int32), (79 : Int32), (98 : Int32), (66 : Int32), (0 : Int32), (0 : Int32)] := by
    have q : wrL [(120 : Int32), (88 : Int32), (111 : Int32), (79 : Int32), (98 : Int32), (0 : Int32), (0 : Int32), (0 : Int32)] (5 : Int32) (66 : Int32) = [(120 : Int32), (88 : Int32), (111 : Int32), (79 : Int32), (98 : Int32), (66 : Int32), (0 : Int32), (0 : Int32)] := by decide +kernel
    rw [q] at A7; exact A7
  have N7 := frOne (n := ((5 : Int32)).toNatClampNeg) N6 hg1
  show Go p e below _ T7 (mkF m 34 #[.val (.int p1), .val (.int p2), .unset, .unset, .unset, .unset, .unset] [(.ref b1)])
  refine Go.to (fun _ => XS.dup X7.here hx rfl (hb hby at_34) rfl rfl) ?_
  show Go p e below _ T7 (mkF m 35 #[.val (.int p1), .val (.int p2), .unset, .unset, .unset, .unset, .unset] [(.ref b1), (.ref b1)])
  refine Go.to (fun _ => XS.bipush X7.here hx rfl (hb hby at_35)) ?_
  show Go p e below _ T7 (mkF m 37 #[.val (.int p1), .val (.int p2), .unset, .unset, .unset, .unset, .unset] [(.int (6 : Int32)), (.ref b1), (.ref b1)])
  refine Go.to (fun _ => XS.bipush X7.here hx rfl (hb hby at_37)) ?_
  show Go p e below _ T7 (mkF m 39 #[.val (.int p1), .val (.int p2), .unset, .unset, .unset, .unset, .unset] [(.int (48 : Int32)), (.int (6 : Int32)), (.ref b1), (.ref b1)])
  refine Go.castore X7 hx hZ e7 A7 (by decide +kernel : rdL [(120 : Int32), (88 : Int32), (111 : Int32), (79 : Int32), (98 : Int32), (66 : Int32), (0 : Int32), (0 : Int32)] (6 : Int32) = some (0 : Int32)) (by decide +kernel) (hb hby at_39) ?_
  intro T8 h8 X8 e8 W8 A8
  have A8 : AV Z h8 b1 .char [(120 : Int32), (88 : Int32), (111 : Int32), (79 : Int32), (98 : Int32), (66 : Int32), (48 : Int32), (0 : Int32)] := by
    have q : wrL [(120 : Int32), (88 : Int32), (111 : Int32), (79 : Int32), (98 : Int32), (66 : Int32), (0 : Int32), (0 : Int32)] (6 : Int32) (48 : Int32) = [(120 : Int32), (88 : Int32), (111 : Int32), (79 : Int32), (98 : Int32), (66 : Int32), (48 : Int32), (0 : Int32)] := by decide +kernel
    rw [q] at A8; exact A8
  have N8 := frOne (n := ((6 : Int32)).toNatClampNeg) N7 hg1
  show Go p e below _ T8 (mkF m 40 #[.val (.int p1), .val (.int p2), .unset, .unset, .unset, .unset, .unset] [(.ref b1)])
  refine Go.to (fun _ => XS.dup X8.here hx rfl (hb hby at_40) rfl rfl) ?_
  show Go p e below _ T8 (mkF m 41 #[.val (.int p1), .val (.int p2), .unset, .unset, .unset, .unset, .unset] [(.ref b1), (.ref b1)])
  refine Go.to (fun _ => XS.bipush X8.here hx rfl (hb hby at_41)) ?_
  show Go p e below _ T8 (mkF m 43 #[.val (.int p1), .val (.int p2), .unset, .unset, .unset, .unset, .unset] [(.int (7 : Int32)), (.ref b1), (.ref b1)])
  refine Go.to (fun _ => XS.bipush X8.here hx rfl (hb hby at_43)) ?_
  show Go p e below _ T8 (mkF m 45 #[.val (.int p1), .val (.int p2), .unset, .unset, .unset, .unset, .unset] [(.int (89 : Int32)), (.int (7 : Int32)), (.ref b1), (.ref b1)])
  refine Go.castore X8 hx hZ e8 A8 (by decide +kernel : rdL [(120 : Int32), (88 : Int32), (111 : Int32), (79 : Int32), (98 : Int32), (66 : Int32), (48 : Int32), (0 : Int32)] (7 : Int32) = some (0 : Int32)) (by decide +kernel) (hb hby at_45) ?_
  intro T9 h9 X9 e9 W9 A9
  have A9 : AV Z h9 b1 .char [(120 : Int32), (88 : Int32), (111 : Int32), (79 : Int32), (98 : Int32), (66 : Int32), (48 : Int32), (89 : Int32)] := by
    have q : wrL [(120 : Int32), (88 : Int32), (111 : Int32), (79 : Int32), (98 : Int32), (66 : Int32), (48 : Int32), (0 : Int32)] (7 : Int32) (89 : Int32) = [(120 : Int32), (88 : Int32), (111 : Int32), (79 : Int32), (98 : Int32), (66 : Int32), (48 : Int32), (89 : Int32)] := by decide +kernel
    rw [q] at A9; exact A9
  have N9 := frOne (n := ((7 : Int32)).toNatClampNeg) N8 hg1
  show Go p e below _ T9 (mkF m 46 #[.val (.int p1), .val (.int p2), .unset, .unset, .unset, .unset, .unset] [(.ref b1)])
  refine Go.to (fun _ => XS.astoreN X9.here hx rfl (hb hby at_46) rfl rfl (l' := #[.val (.int p1), .val (.int p2), .val (.ref b1), .unset, .unset, .unset, .unset]) rfl) ?_
  show Go p e below _ T9 (mkF m 47 #[.val (.int p1), .val (.int p2), .val (.ref b1), .unset, .unset, .unset, .unset] [])
  have hj10 : (∀ zc : Int32, zc = (if (p2 &&& (1 : Int32)) = (0 : Int32) then (p1.toUInt32.toUInt16.toUInt32.toInt32) else (own_ch (p1 &&& (7 : Int32)))) → Go p e below K T9 (mkF m 64 #[.val (.int p1), .val (.int p2), .val (.ref b1), .unset, .unset, .unset, .unset] [(.int zc)])) → Go p e below K T9 (mkF m 47 #[.val (.int p1), .val (.int p2), .val (.ref b1), .unset, .unset, .unset, .unset] []) := by
    intro k
    refine Go.to (fun _ => XS.iloadN X9.here hx rfl (hb hby at_47) rfl) ?_
    show Go p e below _ T9 (mkF m 48 #[.val (.int p1), .val (.int p2), .val (.ref b1), .unset, .unset, .unset, .unset] [(.int p2)])
    refine Go.to (fun _ => XS.iconst X9.here hx rfl (hb hby at_48)) ?_
    show Go p e below _ T9 (mkF m 49 #[.val (.int p1), .val (.int p2), .val (.ref b1), .unset, .unset, .unset, .unset] [(.int (1 : Int32)), (.int p2)])
    refine Go.to (fun _ => XS.iand X9.here hx rfl (hb hby at_49) rfl) ?_
    show Go p e below _ T9 (mkF m 50 #[.val (.int p1), .val (.int p2), .val (.ref b1), .unset, .unset, .unset, .unset] [(.int (p2 &&& (1 : Int32)))])
    by_cases hc1 : (p2 &&& (1 : Int32)) = (0 : Int32)
    · refine Go.to (fun _ => XS.ifNo X9.here hx rfl (hb hby at_50) rfl ((if0 _ _).trans (teq hc1).2)) ?_
      show Go p e below _ T9 (mkF m 53 #[.val (.int p1), .val (.int p2), .val (.ref b1), .unset, .unset, .unset, .unset] [])
      refine Go.to (fun _ => XS.iloadN X9.here hx rfl (hb hby at_53) rfl) ?_
      show Go p e below _ T9 (mkF m 54 #[.val (.int p1), .val (.int p2), .val (.ref b1), .unset, .unset, .unset, .unset] [(.int p1)])
      refine Go.to (fun _ => XS.i2c X9.here hx rfl (hb hby at_54) rfl) ?_
      show Go p e below _ T9 (mkF m 55 #[.val (.int p1), .val (.int p2), .val (.ref b1), .unset, .unset, .unset, .unset] [(.int (p1.toUInt32.toUInt16.toUInt32.toInt32))])
      refine Go.to (fun _ => XS.goto X9.here hx rfl (pc0 := 55) (pc' := 64) rfl (hb hby at_55) (by decide) (by decide)) ?_
      show Go p e below _ T9 (mkF m 64 #[.val (.int p1), .val (.int p2), .val (.ref b1), .unset, .unset, .unset, .unset] [(.int (p1.toUInt32.toUInt16.toUInt32.toInt32))])
      exact k (p1.toUInt32.toUInt16.toUInt32.toInt32) (by rw [if_pos hc1])
    · refine Go.to (fun _ => XS.ifYes X9.here hx rfl (pc0 := 50) (pc' := 58) rfl (hb hby at_50) rfl ((if0 _ _).trans (feq hc1).2) (by decide) (by decide)) ?_
      show Go p e below _ T9 (mkF m 58 #[.val (.int p1), .val (.int p2), .val (.ref b1), .unset, .unset, .unset, .unset] [])
      refine Go.to (fun _ => XS.aloadN X9.here hx rfl (hb hby at_58) rfl rfl) ?_
      show Go p e below _ T9 (mkF m 59 #[.val (.int p1), .val (.int p2), .val (.ref b1), .unset, .unset, .unset, .unset] [(.ref b1)])
      refine Go.to (fun _ => XS.iloadN X9.here hx rfl (hb hby at_59) rfl) ?_
      show Go p e below _ T9 (mkF m 60 #[.val (.int p1), .val (.int p2), .val (.ref b1), .unset, .unset, .unset, .unset] [(.int p1), (.ref b1)])
      refine Go.to (fun _ => XS.bipush X9.here hx rfl (hb hby at_60)) ?_
      show Go p e below _ T9 (mkF m 62 #[.val (.int p1), .val (.int p2), .val (.ref b1), .unset, .unset, .unset, .unset] [(.int (7 : Int32)), (.int p1), (.ref b1)])
      refine Go.to (fun _ => XS.iand X9.here hx rfl (hb hby at_62) rfl) ?_
      show Go p e below _ T9 (mkF m 63 #[.val (.int p1), .val (.int p2), .val (.ref b1), .unset, .unset, .unset, .unset] [(.int (p1 &&& (7 : Int32))), (.ref b1)])
      refine Go.caload X9 hx hZ e9 A9 (own_rd (own_idx p1).1 (own_idx p1).2) (hb hby at_63) ?_
      show Go p e below _ T9 (mkF m 64 #[.val (.int p1), .val (.int p2), .val (.ref b1), .unset, .unset, .unset, .unset] [(.int (own_ch (p1 &&& (7 : Int32))))])
      exact k (own_ch (p1 &&& (7 : Int32))) (by rw [if_neg hc1])
  refine hj10 (fun zc hzc => ?_)
  clear hj10
  refine Go.to (fun _ => XS.istoreN X9.here hx rfl (hb hby at_64) rfl (l' := #[.val (.int p1), .val (.int p2), .val (.ref b1), .val (.int zc), .unset, .unset, .unset]) rfl) ?_
  show Go p e below _ T9 (mkF m 65 #[.val (.int p1), .val (.int p2), .val (.ref b1), .val (.int zc), .unset, .unset, .unset] [])
  refine Go.to (fun _ => XS.iloadN X9.here hx rfl (hb hby at_65) rfl) ?_
  show Go p e below _ T9 (mkF m 66 #[.val (.int p1), .val (.int p2), .val (.ref b1), .val (.int zc), .unset, .unset, .unset] [(.int zc)])
  refine Go.callS (y := (⟨"com/example/oakwright/oakwright/js/Lexer", "radixOfPrefix", "(C)I"⟩ : MethodName)) X9 hx hZ hown (hw _ (List.mem_of_getElem? (i := 1) rfl)) (hw _ (List.mem_of_getElem? (i := 2) rfl)) (hw _ (List.mem_of_getElem? (i := 3) rfl)) (hw _ (List.mem_of_getElem? (i := 4) rfl)) (by decide) (rm1 l Z a0 hw [] zc h9) e9 (by rw [hml]; rfl) (pd_0) rfl (argsL := [(.int zc)]) (rest := []) rfl rfl (hb hby at_66) (by decide) (Nat.le_of_ble_eq_true rfl) (by decide) (by decide) ?_
  rintro T11 _ L11 X11 ⟨rfl, e11, rfl⟩
  simp only [List.append_nil] at X11
  show Go p e below _ T11 (mkF m 69 #[.val (.int p1), .val (.int p2), .val (.ref b1), .val (.int zc), .unset, .unset, .unset] [(.int (fA zc))])
  refine Go.to (fun _ => XS.istore X11.here hx rfl (hb hby at_69) rfl (l' := #[.val (.int p1), .val (.int p2), .val (.ref b1), .val (.int zc), .val (.int (fA zc)), .unset, .unset]) rfl) ?_
  show Go p e below _ T11 (mkF m 71 #[.val (.int p1), .val (.int p2), .val (.ref b1), .val (.int zc), .val (.int (fA zc)), .unset, .unset] [])
  refine Go.to (fun _ => XS.iloadN X11.here hx rfl (hb hby at_71) rfl) ?_
  show Go p e below _ T11 (mkF m 72 #[.val (.int p1), .val (.int p2), .val (.ref b1), .val (.int zc), .val (.int (fA zc)), .unset, .unset] [(.int zc)])
  refine Go.to (fun _ => XS.bipush X11.here hx rfl (hb hby at_72)) ?_
  show Go p e below _ T11 (mkF m 74 #[.val (.int p1), .val (.int p2), .val (.ref b1), .val (.int zc), .val (.int (fA zc)), .unset, .unset] [(.int (32 : Int32)), (.int zc)])
  refine Go.to (fun _ => XS.ior X11.here hx rfl (hb hby at_74) rfl) ?_
  show Go p e below _ T11 (mkF m 75 #[.val (.int p1), .val (.int p2), .val (.ref b1), .val (.int zc), .val (.int (fA zc)), .unset, .unset] [(.int (zc ||| (32 : Int32)))])
  refine Go.to (fun _ => XS.istore X11.here hx rfl (hb hby at_75) rfl (l' := #[.val (.int p1), .val (.int p2), .val (.ref b1), .val (.int zc), .val (.int (fA zc)), .val (.int (zc ||| (32 : Int32))), .unset]) rfl) ?_
  show Go p e below _ T11 (mkF m 77 #[.val (.int p1), .val (.int p2), .val (.ref b1), .val (.int zc), .val (.int (fA zc)), .val (.int (zc ||| (32 : Int32))), .unset] [])
  have hj12 : (∀ ze : Int32, ze = (if (zc ||| (32 : Int32)) = (120 : Int32) then (16 : Int32) else (if (zc ||| (32 : Int32)) = (111 : Int32) then (8 : Int32) else (if (zc ||| (32 : Int32)) = (98 : Int32) then (2 : Int32) else (10 : Int32)))) → Go p e below K T11 (mkF m 122 #[.val (.int p1), .val (.int p2), .val (.ref b1), .val (.int zc), .val (.int (fA zc)), .val (.int (zc ||| (32 : Int32))), .val (.int ze)] [])) → Go p e below K T11 (mkF m 77 #[.val (.int p1), .val (.int p2), .val (.ref b1), .val (.int zc), .val (.int (fA zc)), .val (.int (zc ||| (32 : Int32))), .unset] []) := by
    intro k
    refine Go.to (fun _ => XS.iload X11.here hx rfl (hb hby at_77) rfl) ?_
    show Go p e below _ T11 (mkF m 79 #[.val (.int p1), .val (.int p2), .val (.ref b1), .val (.int zc), .val (.int (fA zc)), .val (.int (zc ||| (32 : Int32))), .unset] [(.int (zc ||| (32 : Int32)))])
    refine Go.to (fun _ => XS.bipush X11.here hx rfl (hb hby at_79)) ?_
    show Go p e below _ T11 (mkF m 81 #[.val (.int p1), .val (.int p2), .val (.ref b1), .val (.int zc), .val (.int (fA zc)), .val (.int (zc ||| (32 : Int32))), .unset] [(.int (120 : Int32)), (.int (zc ||| (32 : Int32)))])
    by_cases hc2 : (zc ||| (32 : Int32)) = (120 : Int32)
    · refine Go.to (fun _ => XS.icmpNo X11.here hx rfl (hb hby at_81) rfl (teq hc2).2) ?_
      show Go p e below _ T11 (mkF m 84 #[.val (.int p1), .val (.int p2), .val (.ref b1), .val (.int zc), .val (.int (fA zc)), .val (.int (zc ||| (32 : Int32))), .unset] [])
      refine Go.to (fun _ => XS.bipush X11.here hx rfl (hb hby at_84)) ?_
      show Go p e below _ T11 (mkF m 86 #[.val (.int p1), .val (.int p2), .val (.ref b1), .val (.int zc), .val (.int (fA zc)), .val (.int (zc ||| (32 : Int32))), .unset] [(.int (16 : Int32))])
      refine Go.to (fun _ => XS.istore X11.here hx rfl (hb hby at_86) rfl (l' := #[.val (.int p1), .val (.int p2), .val (.ref b1), .val (.int zc), .val (.int (fA zc)), .val (.int (zc ||| (32 : Int32))), .val (.int (16 : Int32))]) rfl) ?_
      show Go p e below _ T11 (mkF m 88 #[.val (.int p1), .val (.int p2), .val (.ref b1), .val (.int zc), .val (.int (fA zc)), .val (.int (zc ||| (32 : Int32))), .val (.int (16 : Int32))] [])
      refine Go.to (fun _ => XS.goto X11.here hx rfl (pc0 := 88) (pc' := 122) rfl (hb hby at_88) (by decide) (by decide)) ?_
      show Go p e below _ T11 (mkF m 122 #[.val (.int p1), .val (.int p2), .val (.ref b1), .val (.int zc), .val (.int (fA zc)), .val (.int (zc ||| (32 : Int32))), .val (.int (16 : Int32))] [])
      exact k (16 : Int32) (by rw [if_pos hc2])
    · refine Go.to (fun _ => XS.icmpYes X11.here hx rfl (pc0 := 81) (pc' := 91) rfl (hb hby at_81) rfl (feq hc2).2 (by decide) (by decide)) ?_
      show Go p e below _ T11 (mkF m 91 #[.val (.int p1), .val (.int p2), .val (.ref b1), .val (.int zc), .val (.int (fA zc)), .val (.int (zc ||| (32 : Int32))), .unset] [])
      refine Go.to (fun _ => XS.iload X11.here hx rfl (hb hby at_91) rfl) ?_
      show Go p e below _ T11 (mkF m 93 #[.val (.int p1), .val (.int p2), .val (.ref b1), .val (.int zc), .val (.int (fA zc)), .val (.int (zc ||| (32 : Int32))), .unset] [(.int (zc ||| (32 : Int32)))])
      refine Go.to (fun _ => XS.bipush X11.here hx rfl (hb hby at_93)) ?_
      show Go p e below _ T11 (mkF m 95 #[.val (.int p1), .val (.int p2), .val (.ref b1), .val (.int zc), .val (.int (fA zc)), .val (.int (zc ||| (32 : Int32))), .unset] [(.int (111 : Int32)), (.int (zc ||| (32 : Int32)))])
      by_cases hc3 : (zc ||| (32 : Int32)) = (111 : Int32)
      · refine Go.to (fun _ => XS.icmpNo X11.here hx rfl (hb hby at_95) rfl (teq hc3).2) ?_
        show Go p e below _ T11 (mkF m 98 #[.val (.int p1), .val (.int p2), .val (.ref b1), .val (.int zc), .val (.int (fA zc)), .val (.int (zc ||| (32 : Int32))), .unset] [])
        refine Go.to (fun _ => XS.bipush X11.here hx rfl (hb hby at_98)) ?_
        show Go p e below _ T11 (mkF m 100 #[.val (.int p1), .val (.int p2), .val (.ref b1), .val (.int zc), .val (.int (fA zc)), .val (.int (zc ||| (32 : Int32))), .unset] [(.int (8 : Int32))])
        refine Go.to (fun _ => XS.istore X11.here hx rfl (hb hby at_100) rfl (l' := #[.val (.int p1), .val (.int p2), .val (.ref b1), .val (.int zc), .val (.int (fA zc)), .val (.int (zc ||| (32 : Int32))), .val (.int (8 : Int32))]) rfl) ?_
        show Go p e below _ T11 (mkF m 102 #[.val (.int p1), .val (.int p2), .val (.ref b1), .val (.int zc), .val (.int (fA zc)), .val (.int (zc ||| (32 : Int32))), .val (.int (8 : Int32))] [])
        refine Go.to (fun _ => XS.goto X11.here hx rfl (pc0 := 102) (pc' := 122) rfl (hb hby at_102) (by decide) (by decide)) ?_
        show Go p e below _ T11 (mkF m 122 #[.val (.int p1), .val (.int p2), .val (.ref b1), .val (.int zc), .val (.int (fA zc)), .val (.int (zc ||| (32 : Int32))), .val (.int (8 : Int32))] [])
        exact k (8 : Int32) (by rw [if_neg hc2, if_pos hc3])
      · refine Go.to (fun _ => XS.icmpYes X11.here hx rfl (pc0 := 95) (pc' := 105) rfl (hb hby at_95) rfl (feq hc3).2 (by decide) (by decide)) ?_
        show Go p e below _ T11 (mkF m 105 #[.val (.int p1), .val (.int p2), .val (.ref b1), .val (.int zc), .val (.int (fA zc)), .val (.int (zc ||| (32 : Int32))), .unset] [])
        refine Go.to (fun _ => XS.iload X11.here hx rfl (hb hby at_105) rfl) ?_
        show Go p e below _ T11 (mkF m 107 #[.val (.int p1), .val (.int p2), .val (.ref b1), .val (.int zc), .val (.int (fA zc)), .val (.int (zc ||| (32 : Int32))), .unset] [(.int (zc ||| (32 : Int32)))])
        refine Go.to (fun _ => XS.bipush X11.here hx rfl (hb hby at_107)) ?_
        show Go p e below _ T11 (mkF m 109 #[.val (.int p1), .val (.int p2), .val (.ref b1), .val (.int zc), .val (.int (fA zc)), .val (.int (zc ||| (32 : Int32))), .unset] [(.int (98 : Int32)), (.int (zc ||| (32 : Int32)))])
        by_cases hc4 : (zc ||| (32 : Int32)) = (98 : Int32)
        · refine Go.to (fun _ => XS.icmpNo X11.here hx rfl (hb hby at_109) rfl (teq hc4).2) ?_
          show Go p e below _ T11 (mkF m 112 #[.val (.int p1), .val (.int p2), .val (.ref b1), .val (.int zc), .val (.int (fA zc)), .val (.int (zc ||| (32 : Int32))), .unset] [])
          refine Go.to (fun _ => XS.iconst X11.here hx rfl (hb hby at_112)) ?_
          show Go p e below _ T11 (mkF m 113 #[.val (.int p1), .val (.int p2), .val (.ref b1), .val (.int zc), .val (.int (fA zc)), .val (.int (zc ||| (32 : Int32))), .unset] [(.int (2 : Int32))])
          refine Go.to (fun _ => XS.istore X11.here hx rfl (hb hby at_113) rfl (l' := #[.val (.int p1), .val (.int p2), .val (.ref b1), .val (.int zc), .val (.int (fA zc)), .val (.int (zc ||| (32 : Int32))), .val (.int (2 : Int32))]) rfl) ?_
          show Go p e below _ T11 (mkF m 115 #[.val (.int p1), .val (.int p2), .val (.ref b1), .val (.int zc), .val (.int (fA zc)), .val (.int (zc ||| (32 : Int32))), .val (.int (2 : Int32))] [])
          refine Go.to (fun _ => XS.goto X11.here hx rfl (pc0 := 115) (pc' := 122) rfl (hb hby at_115) (by decide) (by decide)) ?_
          show Go p e below _ T11 (mkF m 122 #[.val (.int p1), .val (.int p2), .val (.ref b1), .val (.int zc), .val (.int (fA zc)), .val (.int (zc ||| (32 : Int32))), .val (.int (2 : Int32))] [])
          exact k (2 : Int32) (by rw [if_neg hc2, if_neg hc3, if_pos hc4])
        · refine Go.to (fun _ => XS.icmpYes X11.here hx rfl (pc0 := 109) (pc' := 118) rfl (hb hby at_109) rfl (feq hc4).2 (by decide) (by decide)) ?_
          show Go p e below _ T11 (mkF m 118 #[.val (.int p1), .val (.int p2), .val (.ref b1), .val (.int zc), .val (.int (fA zc)), .val (.int (zc ||| (32 : Int32))), .unset] [])
          refine Go.to (fun _ => XS.bipush X11.here hx rfl (hb hby at_118)) ?_
          show Go p e below _ T11 (mkF m 120 #[.val (.int p1), .val (.int p2), .val (.ref b1), .val (.int zc), .val (.int (fA zc)), .val (.int (zc ||| (32 : Int32))), .unset] [(.int (10 : Int32))])
          refine Go.to (fun _ => XS.istore X11.here hx rfl (hb hby at_120) rfl (l' := #[.val (.int p1), .val (.int p2), .val (.ref b1), .val (.int zc), .val (.int (fA zc)), .val (.int (zc ||| (32 : Int32))), .val (.int (10 : Int32))]) rfl) ?_
          show Go p e below _ T11 (mkF m 122 #[.val (.int p1), .val (.int p2), .val (.ref b1), .val (.int zc), .val (.int (fA zc)), .val (.int (zc ||| (32 : Int32))), .val (.int (10 : Int32))] [])
          exact k (10 : Int32) (by rw [if_neg hc2, if_neg hc3, if_neg hc4])
  refine hj12 (fun ze hze => ?_)
  clear hj12
  refine Go.to (fun _ => XS.iload X11.here hx rfl (hb hby at_122) rfl) ?_
  show Go p e below _ T11 (mkF m 124 #[.val (.int p1), .val (.int p2), .val (.ref b1), .val (.int zc), .val (.int (fA zc)), .val (.int (zc ||| (32 : Int32))), .val (.int ze)] [(.int (fA zc))])
  refine Go.to (fun _ => XS.iload X11.here hx rfl (hb hby at_124) rfl) ?_
  show Go p e below _ T11 (mkF m 126 #[.val (.int p1), .val (.int p2), .val (.ref b1), .val (.int zc), .val (.int (fA zc)), .val (.int (zc ||| (32 : Int32))), .val (.int ze)] [(.int ze), (.int (fA zc))])
  refine Go.to (fun _ => XS.icmpNo X11.here hx rfl (hb hby at_126) rfl (teq (hze.trans (own_fg zc).symm).symm).2) ?_
  show Go p e below _ T11 (mkF m 129 #[.val (.int p1), .val (.int p2), .val (.ref b1), .val (.int zc), .val (.int (fA zc)), .val (.int (zc ||| (32 : Int32))), .val (.int ze)] [])
  refine Go.to (fun _ => XS.iconst X11.here hx rfl (hb hby at_129)) ?_
  show Go p e below _ T11 (mkF m 130 #[.val (.int p1), .val (.int p2), .val (.ref b1), .val (.int zc), .val (.int (fA zc)), .val (.int (zc ||| (32 : Int32))), .val (.int ze)] [(.int (1 : Int32))])
  refine Go.to (fun _ => XS.goto X11.here hx rfl (pc0 := 130) (pc' := 134) rfl (hb hby at_130) (by decide) (by decide)) ?_
  show Go p e below _ T11 (mkF m 134 #[.val (.int p1), .val (.int p2), .val (.ref b1), .val (.int zc), .val (.int (fA zc)), .val (.int (zc ||| (32 : Int32))), .val (.int ze)] [(.int (1 : Int32))])
  rw [hK]
  exact Go.retZ X11 hx hlk hret (by decide) (hb hby at_134) ⟨rfl, N9⟩ (by decide) (by decide)
set_option maxHeartbeats 40000000 in
theorem comes_1 {Post : Tables → Env → Array Value → State → Outcome → State → Prop} (hpost : ∀ tb e args s v u, (limb_1_1.after args s (.returned v) u = true ∧ limb_1_2.after args s (.returned v) u = true ∧ True) → FrameEnd s (.returned v) u (Jvm.fieldLocs frame_1_writes args s ++ Jvm.arrayLocs frame_1_arrays args s ++ Jvm.staticLocs frame_1_statics s) 16 128 → Post tb e args s (.returned v) u) :
    ArmFor flags0 classFile x code maxLocals ret World_1 tables_1 room_1 Calls_1 rest_1 Pre_1 Post := by
  intro l hfl _ _ p e ha hc hk s m args below hf hA hF happ hP
  obtain ⟨hcalls, hrest, hpre⟩ := hP
  obtain ⟨-, -, -, hnamed, -, -, -, hat⟩ := (Spec.applies_iff hf).mp happ
  obtain ⟨hg, hn⟩ := and_e (Cond.before_iff.mp (show (Jvm.Cond.and given_1 narrow_1).before args s = true from hpre))
  obtain ⟨gc, gr0⟩ := and_e hg
  obtain ⟨g0, gr1⟩ := and_e gr0
  obtain ⟨w0, w1, rfl⟩ : ∃ w0 w1 : Value, args = #[w0, w1] := by
    have hs : args.size = 2 := by simpa [Cond.value, given_1] using gc
    obtain ⟨L⟩ := args
    match L, hs with
    | [w0, w1], _ => exact ⟨w0, w1, rfl⟩
  have hw := fun d (hd : d ∈ tables_1) => atoms_spec (ws := Jvm.Cond.code x code maxLocals ret :: tables_1) hat d (List.mem_cons_of_mem _ hd)
  obtain ⟨i0, ei0⟩ := is_v g0
  obtain rfl : w0 = (.int i0) := Option.some.inj ei0
  obtain ⟨i1, ei1⟩ := is_v gr1
  obtain rfl : w1 = (.int i1) := Option.some.inj ei1
  obtain ⟨n, o, h1, h2, h3, _, L, rfl, ⟨rfl, N⟩, hq⟩ := rm0 l s _ hw tables_1 i0 i1 s.heap s.heap.size (Nat.le_refl _) p e ha hc hk s m _ below hf ((Spec.applies_iff_loose hf).mp happ).1 ⟨rfl, State.Warmed39.refl s, rfl⟩ trivial
  refine ⟨n, _, h1, h2, h3, hpost _ _ _ _ _ _ ⟨Cond.after_iff.mpr rfl, Cond.after_iff.mpr (eq_i res_at (Term.int_eval (1)) rfl), trivial⟩ ⟨hq.1, hq.2.1, (hq.2.2.sift fun y hy => Or.inr (N y hy)).mono (by decide) (by decide)⟩⟩
theorem main_1_1 : Claimed_1_1 := comes_1 fun _ _ _ _ _ _ h hF => ⟨h.1, hF⟩
theorem main_1_2 : Claimed_1_2 := comes_1 fun _ _ _ _ _ _ h hF => ⟨h.2.1, hF⟩
end Jvm.Pilot.@@N@@
namespace Jvm.Pilot.@@N@@
open Jvm Jvm.ClassFile Sem Op Lib Jvm.Free Jvm.Stand Jvm.Pilot.@@N@@.Jvm.D
/-! MADE BY PROGRAM (witnessworld.py) out of the Statement's table words and the real class files: 11 classes; the members and pool entries that the words name. The judged class is class 1, her method 1. -/
namespace start1
open Jvm.ClassFile
def u (s : String) : CpInfo := .utf8 (stringToUtf16 s)
/-- a pool by its gaps: so many unusable entries, then the entry; so many at the end -/
def gap : Nat → List CpInfo → List CpInfo
  | 0, r => r
  | n + 1, r => .unusable :: gap n r
def poolList (es : List (Nat × CpInfo)) (last : Nat) : List CpInfo := es.foldr (fun e r => gap e.1 (e.2 :: r)) (gap last [])
def pool (es : List (Nat × CpInfo)) (last : Nat) : Array CpInfo := ⟨poolList es last⟩
def fileOf (pool : Array CpInfo) (this : Nat) (attrs : Array Attribute := #[]) (ms : Array MethodInfo := #[]) (fl : Nat := 33) (sup : Nat := 0) (ifs : Array Nat := #[]) (fds : Array FieldInfo := #[]) : ClassFile where
  minorVersion := 0
  majorVersion := 65
  constantPool := pool
  accessFlags := fl
  thisClass := this
  superClass := sup
  interfaces := ifs
  fields := fds
  methods := ms
  attributes := attrs
def plain (name : String) (sup : Option ClassId) : Class where
  name := name
  kind := .ordinary
  loader := none
  accessFlags := 33
  super := sup
  interfaces := #[]
  cf := none
  fields := #[]
  methods := #[]
  instanceTypes := #[]
  staticTypes := #[]
  resolved := #[]
  callSites := []
  init := .initialized
  statics := none
  mirror := none

def pool0 : Array CpInfo := pool [(5, u "<init>"), (0, u "()V"), (1, .class_ 10), (1, u "java/lang/Object")] 113

def k0m0 : Method := { name := "<init>", desc := "()V", sig := { parameters := [], returnType := none }, accessFlags := 1, code := none }
/-- java/lang/Object -/
def k0 : Class := { plain "java/lang/Object" none with
  accessFlags := 33
  interfaces := #[]
  cf := some (fileOf pool0 8 #[] #[{ accessFlags := 1, nameIndex := 5, descriptorIndex := 6, attributes := #[] }] 33 0 #[] #[])
  fields := #[]
  methods := #[k0m0]
  instanceTypes := #[]
  staticTypes := #[]
  resolved := Array.replicate 124 none
  statics := none }

def pool1 : Array CpInfo := pool [(2, .class_ 4), (1, u "java/lang/Object"), (0, u "<init>"), (0, u "()V"), (0, .methodref 8 9), (0, .class_ 10), (0, .nameAndType 11 12), (0, u "com/example/oakwright/oakwright/js/Lexer"), (0, u "radixOfPrefix"), (0, u "(C)I"), (0, .class_ 14), (0, u "com/example/oakwright/oakwright/js/LexerRadixOfPrefixPinLaw"), (2, u "law"), (0, u "(II)Z")] 5

def k1m0 : Method := { name := "<init>", desc := "()V", sig := { parameters := [], returnType := none }, accessFlags := 2, code := none }
def k1c1 : Code := { maxStack := 4, maxLocals := 7, code := code, exceptionTable := #[], attributes := #[] }
def k1m1 : Method := { name := "law", desc := "(II)Z", sig := { parameters := [.int, .int], returnType := some .boolean }, accessFlags := 9, code := some k1c1 }
/-- com/example/oakwright/oakwright/js/LexerRadixOfPrefixPinLaw -/
def k1 : Class := { plain "com/example/oakwright/oakwright/js/LexerRadixOfPrefixPinLaw" (some 0) with
  accessFlags := 49
  interfaces := #[]
  cf := some (fileOf pool1 13 #[] #[{ accessFlags := 2, nameIndex := 5, descriptorIndex := 6, attributes := #[] }, { accessFlags := 9, nameIndex := 17, descriptorIndex := 18, attributes := #[] }] 49 2 #[] #[])
  fields := #[]
  methods := #[k1m0, k1m1]
  instanceTypes := #[]
  staticTypes := #[]
  resolved := Array.replicate 24 none
  statics := none }

def pool2 : Array CpInfo := pool [(2, .class_ 4), (1, u "java/lang/Object"), (3, .class_ 10), (1, u "com/example/oakwright/oakwright/js/Lexer"), (0, u "source"), (0, u "Lcom/example/oakwright/oakwright/framework/SourceText;"), (8, u "text"), (0, u "Ljava/lang/String;"), (17, u "position"), (0, u "I"), (2, u "strictError"), (52, u "RESERVED_WORDS"), (0, u "Ljava/util/Set;"), (14, u "PUNCTUATORS"), (0, u "Ljava/util/List;"), (95, u "radixOfPrefix"), (0, u "(C)I"), (294, u "INVALID_TOKEN"), (1, u "UNTERMINATED_STRING"), (0, u "INVALID_UNICODE_ESCAPE"), (0, u "STRICT_OCTAL_LITERAL"), (0, u "STRICT_LEADING_ZERO"), (0, u "STRICT_OCTAL_ESCAPE"), (0, u "STRICT_DECIMAL_ESCAPE"), (0, u "CONSECUTIVE_SEPARATORS"), (0, u "TRAILING_SEPARATOR"), (0, u "SEPARATOR_AFTER_LEADING_ZERO"), (0, u "LINE_SEPARATOR"), (0, u "C"), (1, u "PARAGRAPH_SEPARATOR")] 13

def k2c0 : Code := { maxStack := 1, maxLocals := 1, code := prog_132_method_10_code, exceptionTable := #[], attributes := #[] }
def k2m0 : Method := { name := "radixOfPrefix", desc := "(C)I", sig := { parameters := [.char], returnType := some .int }, accessFlags := 8, code := some k2c0 }
/-- com/example/oakwright/oakwright/js/Lexer -/
def k2 : Class := { plain "com/example/oakwright/oakwright/js/Lexer" (some 0) with
  accessFlags := 48
  interfaces := #[]
  cf := some (fileOf pool2 8 #[] #[{ accessFlags := 8, nameIndex := 210, descriptorIndex := 211, attributes := #[] }] 48 2 #[] #[{ accessFlags := 26, nameIndex := 113, descriptorIndex := 114, attributes := #[] }, { accessFlags := 26, nameIndex := 97, descriptorIndex := 98, attributes := #[] }, { accessFlags := 26, nameIndex := 506, descriptorIndex := 22, attributes := #[] }, { accessFlags := 26, nameIndex := 508, descriptorIndex := 22, attributes := #[] }, { accessFlags := 26, nameIndex := 509, descriptorIndex := 22, attributes := #[] }, { accessFlags := 26, nameIndex := 510, descriptorIndex := 22, attributes := #[] }, { accessFlags := 26, nameIndex := 511, descriptorIndex := 22, attributes := #[] }, { accessFlags := 26, nameIndex := 512, descriptorIndex := 22, attributes := #[] }, { accessFlags := 26, nameIndex := 513, descriptorIndex := 22, attributes := #[] }, { accessFlags := 26, nameIndex := 514, descriptorIndex := 22, attributes := #[] }, { accessFlags := 26, nameIndex := 515, descriptorIndex := 22, attributes := #[] }, { accessFlags := 26, nameIndex := 516, descriptorIndex := 22, attributes := #[] }, { accessFlags := 26, nameIndex := 517, descriptorIndex := 518, attributes := #[] }, { accessFlags := 26, nameIndex := 520, descriptorIndex := 518, attributes := #[] }, { accessFlags := 18, nameIndex := 11, descriptorIndex := 12, attributes := #[] }, { accessFlags := 18, nameIndex := 21, descriptorIndex := 22, attributes := #[] }, { accessFlags := 2, nameIndex := 40, descriptorIndex := 41, attributes := #[] }, { accessFlags := 2, nameIndex := 44, descriptorIndex := 22, attributes := #[] }])
  fields := #[{ name := "PUNCTUATORS", type := (.object "java/util/List"), accessFlags := 26, slot := 0, constantValue := 0 }, { name := "RESERVED_WORDS", type := (.object "java/util/Set"), accessFlags := 26, slot := 1, constantValue := 0 }, { name := "INVALID_TOKEN", type := (.object "java/lang/String"), accessFlags := 26, slot := 2, constantValue := 0 }, { name := "UNTERMINATED_STRING", type := (.object "java/lang/String"), accessFlags := 26, slot := 3, constantValue := 0 }, { name := "INVALID_UNICODE_ESCAPE", type := (.object "java/lang/String"), accessFlags := 26, slot := 4, constantValue := 0 }, { name := "STRICT_OCTAL_LITERAL", type := (.object "java/lang/String"), accessFlags := 26, slot := 5, constantValue := 0 }, { name := "STRICT_LEADING_ZERO", type := (.object "java/lang/String"), accessFlags := 26, slot := 6, constantValue := 0 }, { name := "STRICT_OCTAL_ESCAPE", type := (.object "java/lang/String"), accessFlags := 26, slot := 7, constantValue := 0 }, { name := "STRICT_DECIMAL_ESCAPE", type := (.object "java/lang/String"), accessFlags := 26, slot := 8, constantValue := 0 }, { name := "CONSECUTIVE_SEPARATORS", type := (.object "java/lang/String"), accessFlags := 26, slot := 9, constantValue := 0 }, { name := "TRAILING_SEPARATOR", type := (.object "java/lang/String"), accessFlags := 26, slot := 10, constantValue := 0 }, { name := "SEPARATOR_AFTER_LEADING_ZERO", type := (.object "java/lang/String"), accessFlags := 26, slot := 11, constantValue := 0 }, { name := "LINE_SEPARATOR", type := .char, accessFlags := 26, slot := 12, constantValue := 0 }, { name := "PARAGRAPH_SEPARATOR", type := .char, accessFlags := 26, slot := 13, constantValue := 0 }, { name := "source", type := (.object "com/example/oakwright/oakwright/framework/SourceText"), accessFlags := 18, slot := 0, constantValue := 0 }, { name := "text", type := (.object "java/lang/String"), accessFlags := 18, slot := 1, constantValue := 0 }, { name := "position", type := .int, accessFlags := 2, slot := 2, constantValue := 0 }, { name := "strictError", type := (.object "java/lang/String"), accessFlags := 2, slot := 3, constantValue := 0 }]
  methods := #[k2m0]
  instanceTypes := #[(.object "com/example/oakwright/oakwright/framework/SourceText"), (.object "java/lang/String"), .int, (.object "java/lang/String")]
  staticTypes := #[(.object "java/util/List"), (.object "java/util/Set"), (.object "java/lang/String"), (.object "java/lang/String"), (.object "java/lang/String"), (.object "java/lang/String"), (.object "java/lang/String"), (.object "java/lang/String"), (.object "java/lang/String"), (.object "java/lang/String"), (.object "java/lang/String"), (.object "java/lang/String"), .char, .char]
  resolved := Array.replicate 534 none
  statics := none }

def pool3 : Array CpInfo := pool [(1, u "java/lang/Cloneable"), (0, .class_ 1), (0, u "java/lang/Object"), (0, .class_ 3)] 3

/-- java/lang/Cloneable -/
def k3 : Class := { plain "java/lang/Cloneable" (some 0) with
  accessFlags := 1537
  interfaces := #[]
  cf := some (fileOf pool3 2 #[] #[] 1537 4 #[] #[])
  fields := #[]
  methods := #[]
  instanceTypes := #[]
  staticTypes := #[]
  resolved := Array.replicate 8 none
  statics := none }

def pool4 : Array CpInfo := pool [(1, u "java/io/Serializable"), (0, .class_ 1), (0, u "java/lang/Object"), (0, .class_ 3)] 3

/-- java/io/Serializable -/
def k4 : Class := { plain "java/io/Serializable" (some 0) with
  accessFlags := 1537
  interfaces := #[]
  cf := some (fileOf pool4 2 #[] #[] 1537 4 #[] #[])
  fields := #[]
  methods := #[]
  instanceTypes := #[]
  staticTypes := #[]
  resolved := Array.replicate 8 none
  statics := none }

/-- the primitive byte -/
def k5 : Class := { plain "byte" none with kind := .primitive 'B', accessFlags := 0x411 }
/-- [B -/
def k6 : Class := { plain "[B" (some 0) with kind := .array 5 .byte, interfaces := #[3, 4], accessFlags := 1041 }

/-- the primitive char -/
def k7 : Class := { plain "char" none with kind := .primitive 'C', accessFlags := 0x411 }
/-- [C -/
def k8 : Class := { plain "[C" (some 0) with kind := .array 7 .char, interfaces := #[3, 4], accessFlags := 1041 }

/-- the primitive int -/
def k9 : Class := { plain "int" none with kind := .primitive 'I', accessFlags := 0x411 }
/-- [I -/
def k10 : Class := { plain "[I" (some 0) with kind := .array 9 .int, interfaces := #[3, 4], accessFlags := 1041 }

def heap : Heap := #[]
def classes : Array Class := #[k0, k1, k2, k3, k4, k5, k6, k7, k8, k9, k10]
def interned : List (Array UInt16 × Addr) := []
def slotsUsed : Nat := 0
def theMethod : MethodId := ⟨1, 1⟩
def args0 : Array Value := #[.int 5, .int 1]
def aboutOver (below : List Frame) : State where
  vm := { classes := classes, interned := interned.toArray }
  heap := heap
  slotsUsed := slotsUsed
  threads := #[{ frames := .invoking theMethod args0 :: below }]
def below0 : List Frame := [.native { method := ⟨0, 0⟩, args := #[] }]
def about1 : State := aboutOver below0
def p0 : Program := .bare "" "" ""
def e0 : Env := launch0.env 0 0 0
theorem w_frames : about1.frames = Frame.invoking theMethod args0 :: below0 := rfl
set_option maxRecDepth 65536 in
theorem w_args : argsFit about1.vm theMethod args0 = true := by decide +kernel
set_option maxRecDepth 65536 in
theorem w_heap : heapFits about1 = true := by decide +kernel
set_option maxRecDepth 65536 in
theorem w_runnable : about1.curStatus? = some .runnable := by decide +kernel
set_option maxRecDepth 65536 in
theorem w_alone : about1.alone = true := by decide +kernel
set_option maxRecDepth 65536 in
theorem w_named : about1.methodNamed? x = some theMethod := by decide +kernel
set_option maxRecDepth 65536 in
theorem w_hears : about1.hears theMethod below0 = true := by decide +kernel
set_option maxRecDepth 65536 in
theorem w_ripe : about1.ripe theMethod args0 below0 = true := by decide +kernel
theorem w_running : about1.status = .running := rfl
set_option maxRecDepth 65536 in
theorem w_room : about1.hasRoom e0.platform room_1 = true :=
  launch0.hasRoom_least _ room_1 (by decide +kernel) (by decide +kernel) (by decide +kernel) (by decide +kernel) (by decide +kernel) (by decide +kernel)
theorem allAtoms_all (ts : List Jvm.Cond) (a : Array Jvm.Value) (st : Jvm.State) : (allAtoms ts).before a st = ts.all (fun c => c.before a st) := by
  induction ts with
  | nil => rfl
  | cons c t ih =>
    show (Jvm.Cond.and c (allAtoms t)).before a st = _
    rw [Jvm.Cond.before_and, ih, List.all_cons]
def words1 : List Jvm.Cond := Jvm.Cond.code x code maxLocals ret :: tables_1
/-- a 'code' word, met by the world's own term for the bytes: nothing is compared byte by byte -/
theorem code_word {y : MethodName} {bytes : ByteArray} {mx : Nat} {rt : Option FieldType} {a : Array Value} {s : State} {m : MethodId} {meth : Method} {c : Code} (h1 : s.methodNamed? y = some m) (h2 : s.vm.method? m = some meth) (h3 : meth.code = some c) (h4 : c.code = bytes)
    (h5 : (c.maxLocals == mx && c.exceptionTable.isEmpty && decide (c.maxStack ≤ mostOperands) && decide (meth.sig.returnType = rt) && !meth.locks && decide (parseMethodDescriptor y.desc = some meth.sig)) = true) : (Jvm.Cond.code y bytes mx rt).before a s = true := by
  simp only [Bool.and_eq_true, beq_iff_eq, Bool.not_eq_true', decide_eq_true_eq] at h5
  obtain ⟨⟨⟨⟨⟨g1, g2⟩, g3⟩, g4⟩, g5⟩, g6⟩ := h5
  simp [Cond.before, Cond.holds, Cond.value, h1, h2, h3, h4, g1, g2, g3, g4, g5, g6]
def isCode : Jvm.Cond → Bool
  | .code _ _ _ _ => true
  | _ => false
theorem all_split {L : List Jvm.Cond} {P : Jvm.Cond → Bool} (h1 : L.all (fun c => isCode c || P c) = true) (h2 : ∀ c ∈ L.filter isCode, P c = true) : L.all P = true := by
  refine List.all_eq_true.mpr fun c hc => ?_
  have h := List.all_eq_true.mp h1 c hc
  rcases Bool.eq_false_or_eq_true (isCode c) with hi | hi
  · exact h2 c (List.mem_filter.mpr ⟨hc, hi⟩)
  · simpa [hi] using h
set_option maxRecDepth 65536 in
theorem w_c0 : (Jvm.Cond.code x code maxLocals ret).before args0 about1 = true := code_word (m := ⟨1, 1⟩) (meth := k1m1) (c := k1c1) (by decide +kernel) rfl rfl rfl (by decide +kernel)
set_option maxRecDepth 65536 in
theorem w_c1 : (Jvm.Cond.code ({ cls := "com/example/oakwright/oakwright/js/Lexer", name := "radixOfPrefix", desc := "(C)I" } : Jvm.MethodName) prog_132_method_10_code (1 : Nat) (Option.some Jvm.ClassFile.FieldType.int)).before args0 about1 = true := code_word (m := ⟨2, 0⟩) (meth := k2m0) (c := k2c0) (by decide +kernel) rfl rfl rfl (by decide +kernel)
def codes1 : List Jvm.Cond := [Jvm.Cond.code x code maxLocals ret, Jvm.Cond.code ({ cls := "com/example/oakwright/oakwright/js/Lexer", name := "radixOfPrefix", desc := "(C)I" } : Jvm.MethodName) prog_132_method_10_code (1 : Nat) (Option.some Jvm.ClassFile.FieldType.int)]
set_option maxRecDepth 65536 in
theorem codes_eq : words1.filter isCode = codes1 := rfl
theorem w_codes : ∀ c ∈ words1.filter isCode, c.before args0 about1 = true := by
  rw [codes_eq]
  intro c hc
  simp only [codes1, List.mem_cons, List.not_mem_nil, or_false] at hc
  rcases hc with rfl | rfl
  · exact w_c0
  · exact w_c1
set_option maxRecDepth 65536 in
theorem w_t1 : words1.all (fun c => isCode c || c.before args0 about1) = true := by decide +kernel
theorem w_tables : (allAtoms (Jvm.Cond.code x code maxLocals ret :: tables_1)).before args0 about1 = true := by
  rw [allAtoms_all]
  show words1.all (fun c => c.before args0 about1) = true
  refine all_split ?_ w_codes
  rw [w_t1]
set_option maxRecDepth 65536 in
theorem w_case : (Jvm.Cond.and given_1 narrow_1).before args0 about1 = true := by decide +kernel
theorem w_applies : (headSpec (Jvm.Cond.code x code maxLocals ret :: tables_1) room_1).applies x e0.platform about1 = true :=
  (Spec.applies_iff w_frames).mpr ⟨w_running, w_runnable, w_alone, w_named, w_hears, w_ripe, w_room, w_tables⟩
theorem atStart : AtStart classFile x code maxLocals ret World_1 tables_1 room_1 Calls_1 rest_1 Pre_1 launch0 p0 e0 about1 theMethod args0 below0 :=
  ⟨lists_1, trivial, launch0.admits_env _ _ _, launch0.least_env, fairChoices_fair.cas, fairChoices_fair.clock, w_frames, w_args, w_heap, w_applies, trivial, trivial, w_case⟩
end start1
theorem witness_1 : WitnessClaimed_1 := ⟨start1.p0, start1.e0, start1.about1, start1.theMethod, start1.args0, start1.below0, start1.atStart⟩
end Jvm.Pilot.@@N@@
