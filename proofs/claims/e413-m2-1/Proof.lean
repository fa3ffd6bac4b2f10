import JvmDerived
import JvmDerived.Pilot.@@N@@Statement
import JvmDerived.Pilot.@@N@@Code
set_option linter.unusedVariables false
set_option linter.unusedSimpArgs false
@@BLOCK:NumsL.lean.txt@@
set_option maxRecDepth 65536
namespace Jvm.Pilot.@@N@@
open Jvm Jvm.ClassFile Sem Op Lib Jvm.Free Jvm.Stand Jvm.LawKit Jvm.RoadKit Bundle Jvm.Pilot.@@N@@.Jvm.D
/-! OWN KIT: the walk in continuation style over lawnew's family -/
section OwnKit
variable {p : Program} {l : Launch} {e : Env} {R : Room} {s : State} {m : MethodId} {args : Array Value} {below : List Frame} {meth : Method} {c : Code} {T : State} {locs : List Loc} {cells slots : Nat} {Z : State} {a0 : Array Value} {h : Heap} {K : Outcome → State → Prop} {Q : Option Value → Heap → List Loc → Prop} {rc rs : Nat}
/-- from the frame g over T the run comes to its end, and K holds there -/
def Go (p : Program) (e : Env) (below : List Frame) (K : Outcome → State → Prop) (T : State) (g : JFrame) : Prop :=
  ∃ s₂ o, Steps p.tables e below (T.setTop g) s₂ ∧ s₂.status = .running ∧ Ended s₂ below o ∧ K o s₂
theorem Go.to {T T' : State} {g g' : JFrame} (st : ∀ t, Steps p.tables e below (T'.setTop g') t → Steps p.tables e below (T.setTop g) t) (k : Go p e below K T' g') : Go p e below K T g := by
  obtain ⟨s₂, o, h1, h2⟩ := k
  exact ⟨s₂, o, st _ h1, h2⟩
def KQ (s : State) (Q : Option Value → Heap → List Loc → Prop) (rc rs : Nat) : Outcome → State → Prop := fun o U => ∃ v L, o = .returned v ∧ Q v U.heap L ∧ FrameEnd s o U L rc rs
theorem Go.retW (X : Stand p l e R s m args below meth c T locs cells slots) (hx : p.tables.exec = Jvm.exec) (hlk : meth.locks = false) {pc : Nat} {Ls : Array Slot} {w : Value} {t : FieldType} {i : Instr} {rest : List Value} (hret : meth.sig.returnType = some t) (hn : narrow t w = w)
    (hi : (i = .ireturn ∧ (t = .int ∨ t = .boolean ∨ t = .byte ∨ t = .char ∨ t = .short) ∧ ∃ z, w = .int z) ∨ (i = .lreturn ∧ t = .long ∧ ∃ z, w = .long z) ∨ (i = .dreturn ∧ t = .double ∧ ∃ z, w = .double z) ∨ (i = .freturn ∧ t = .float ∧ ∃ z, w = .float z) ∨ (i = .areturn ∧ t.isReference = true ∧ w.isRef = true))
    (hd : decode c.code pc = .ok (i, 1)) (hq : Q (some w) T.heap locs) (hc : cells ≤ rc) (hs : slots ≤ rs) : Go p e below (KQ s Q rc rs) T (mkF m pc Ls (w :: rest)) := by
  obtain ⟨fs, hr, hrun, hended, hW, hsame⟩ := X.leave (v := some w) (fun h => by rw [hret] at h; cases h) hlk
  exact ⟨_, _, retOut X hx hret hn hi hd hr, hrun, hended, _, _, rfl, hq, ⟨_, rfl⟩, hW, hsame.mono hc hs⟩
theorem Go.retI (X : Stand p l e R s m args below meth c T locs cells slots) (hx : p.tables.exec = Jvm.exec) (hlk : meth.locks = false) {pc : Nat} {Ls : Array Slot} {z : Int32} {rest : List Value} (hret : meth.sig.returnType = some .int)
    (hd : decode c.code pc = .ok (.ireturn, 1)) (hq : Q (some (.int z)) T.heap locs) (hc : cells ≤ rc) (hs : slots ≤ rs) : Go p e below (KQ s Q rc rs) T (mkF m pc Ls (.int z :: rest)) :=
  Go.retW X hx hlk hret rfl (Or.inl ⟨rfl, Or.inl rfl, z, rfl⟩) hd hq hc hs
theorem Go.retJ (X : Stand p l e R s m args below meth c T locs cells slots) (hx : p.tables.exec = Jvm.exec) (hlk : meth.locks = false) {pc : Nat} {Ls : Array Slot} {z : Int64} {rest : List Value} (hret : meth.sig.returnType = some .long)
    (hd : decode c.code pc = .ok (.lreturn, 1)) (hq : Q (some (.long z)) T.heap locs) (hc : cells ≤ rc) (hs : slots ≤ rs) : Go p e below (KQ s Q rc rs) T (mkF m pc Ls (.long z :: rest)) :=
  Go.retW X hx hlk hret rfl (Or.inr (Or.inl ⟨rfl, rfl, z, rfl⟩)) hd hq hc hs
theorem Go.retZ (X : Stand p l e R s m args below meth c T locs cells slots) (hx : p.tables.exec = Jvm.exec) (hlk : meth.locks = false) {pc : Nat} {Ls : Array Slot} {z : Int32} {rest : List Value} (hret : meth.sig.returnType = some .boolean) (hz : z = 0 ∨ z = 1)
    (hd : decode c.code pc = .ok (.ireturn, 1)) (hq : Q (some (.int z)) T.heap locs) (hc : cells ≤ rc) (hs : slots ≤ rs) : Go p e below (KQ s Q rc rs) T (mkF m pc Ls (.int z :: rest)) :=
  Go.retW X hx hlk hret (by rcases hz with rfl | rfl <;> rfl) (Or.inl ⟨rfl, Or.inr (Or.inl rfl), z, rfl⟩) hd hq hc hs
theorem Go.retA (X : Stand p l e R s m args below meth c T locs cells slots) (hx : p.tables.exec = Jvm.exec) (hlk : meth.locks = false) {pc : Nat} {Ls : Array Slot} {w : Value} {t : FieldType} {rest : List Value} (hret : meth.sig.returnType = some t) (ht : t.isReference = true) (hw : w.isRef = true) (hn : narrow t w = w)
    (hd : decode c.code pc = .ok (.areturn, 1)) (hq : Q (some w) T.heap locs) (hc : cells ≤ rc) (hs : slots ≤ rs) : Go p e below (KQ s Q rc rs) T (mkF m pc Ls (w :: rest)) :=
  Go.retW X hx hlk hret hn (Or.inr (Or.inr (Or.inr (Or.inr ⟨rfl, ht, hw⟩)))) hd hq hc hs
theorem Go.retV (X : Stand p l e R s m args below meth c T locs cells slots) (hx : p.tables.exec = Jvm.exec) (hlk : meth.locks = false) {pc : Nat} {Ls : Array Slot} (hret : meth.sig.returnType = none)
    (hd : decode c.code pc = .ok (.return_, 1)) (hq : Q none T.heap locs) (hc : cells ≤ rc) (hs : slots ≤ rs) : Go p e below (KQ s Q rc rs) T (mkF m pc Ls []) := by
  obtain ⟨fs, hr, hrun, hended, hW, hsame⟩ := X.leave (v := none) (fun _ => rfl) hlk
  exact ⟨_, _, X.returnOut hx hret hd hr, hrun, hended, _, _, rfl, hq, ⟨_, rfl⟩, hW, hsame.mono hc hs⟩
/-- a contract in this family -/
abbrev Met1 (l : Launch) (Z : State) (y : MethodName) (bytes : ByteArray) (maxL : Nat) (ret : Option FieldType) (ws : List Jvm.Cond) (rm : Room) (as' : Array Value) (h0 : Heap) (Q : Option Value → Heap → List Loc → Prop) : Prop :=
  MetFree l y (head1 (Jvm.Cond.code y bytes maxL ret :: ws) rm) (fun a U => a = as' ∧ Z.Warmed39 U.vm ∧ U.heap = h0) (fun _ _ _ _ _ => True) (fun _ U o U' => ∃ v L, o = .returned v ∧ Q v U'.heap L ∧ FrameEnd U o U' L rm.cells rm.slots)
theorem metOf {y : MethodName} {bytes : ByteArray} {maxL : Nat} {ret : Option FieldType} {ws : List Jvm.Cond} {rm : Room} {as' : Array Value} {h0 : Heap} (hp : plainFor y = true)
    (body : ∀ (p : Program) (e : Env) (s : State) (m : MethodId) (below : List Frame) (meth : Method) (c : Code) (s₁ : State), p.tables.exec = Jvm.exec → c.code = bytes → c.maxLocals = maxL → s.vm.findClass y.cls = some m.cls → meth.name = y.name → meth.sig.returnType = ret → meth.locks = false → Z.Warmed39 s.vm →
      Stand p l e rm s m as' below meth c s₁ [] 0 0 → s₁.heap = h0 → Go p e below (KQ s Q rm.cells rm.slots) s₁ (entryFrame m as' maxL)) : Met1 l Z y bytes maxL ret ws rm as' h0 Q := by
  refine MetFree.of_bodySF hp hisR ?_
  intro p e s m args below meth c s₁ Bd hml0 hP hK
  obtain ⟨rfl, hZ, hh⟩ := hP
  exact body p e s m below meth c s₁ Bd.exec Bd.bytes hml0 (findClass_of_methodNamed Bd.named) (name_of_methodNamed Bd.named Bd.method).1 Bd.returns (BodyLoose.notSynchronized Bd) hZ (Stand.of_body Bd) (by rw [← hh, Bd.state]; rfl)
section Calls
variable {own : String} {index : Nat} {y : MethodName} {bytes : ByteArray} {maxL : Nat} {ret : Option FieldType} {rm : Room} {as' : Array Value} {pc : Nat} {Ls : Array Slot} {st rest argsL : List Value} {ps : List FieldType} {r : Option FieldType}
theorem Go.callS (X : Stand p l e R s m args below meth c T locs cells slots) (hx : p.tables.exec = Jvm.exec) (hZ : Z.Warmed39 s.vm) (hown : s.vm.findClass own = some m.cls)
    (w1 : (Cond.methodLink own index y).before a0 Z = true) (w2 : (Cond.static y).before a0 Z = true) (w3 : (Cond.initialized y.cls).before a0 Z = true) (w4 : (Cond.code y bytes maxL ret).before a0 Z = true)
    (hy : y.cls ≠ "java/lang/invoke/MethodHandle" ∧ y.cls ≠ "java/lang/invoke/VarHandle") (hM : Met1 l Z y bytes maxL ret [] rm as' h Q) (eT : T.heap = h) (hsize : Ls.size = c.maxLocals)
    (hpd : parseMethodDescriptor y.desc = some ⟨ps, r⟩) (hlen : argsL.length = ps.length) (hst : st = argsL.reverse ++ rest) (has : argsL.toArray = as') (hdc : decode c.code pc = .ok (.invokestatic index, 3))
    (hf : rm.frames + 1 ≤ R.frames) (hlo : (rest.map fun v => v.category).sum + (maxL + 11) + rm.locals ≤ R.locals) (hce : cells + rm.cells ≤ R.cells) (hsl : slots + rm.slots ≤ R.slots)
    (k : ∀ T' v L, Stand p l e R s m args below meth c T' (locs ++ L) (cells + rm.cells) (slots + rm.slots) → Q v T'.heap L → Go p e below K T' (mkF m (pc + 3) Ls (v.toList ++ rest))) : Go p e below K T (mkF m pc Ls st) := by
  obtain ⟨v, vm₁, ⟨T', L', c', n'⟩, -, X', ⟨L, hQ, e1, e2, e3⟩, st'⟩ := Jvm.LawKit.callS X hx hown (mvT hZ w1) (mvT hZ w2) (mvT hZ w3) (mvT hZ w4) hy (backOf (W := (rest.map fun v => v.category).sum) hM hZ w4 w3 hf hlo) (g := mkF m pc Ls st) rfl hsize (argsL := argsL) (rest := rest) (lenOf hpd hlen) hst (by show 2 * 0 + _ ≤ _; omega) hdc (fun _ _ => ⟨has, eT, hce, hsl⟩)
  dsimp only [Pt.U, Pt.locs, Pt.cells, Pt.slots] at X' e1 e2 e3 st' hQ
  subst e1 e2 e3
  exact Go.to st' (k T' v L X' hQ)
theorem Go.callI (X : Stand p l e R s m args below meth c T locs cells slots) (hx : p.tables.exec = Jvm.exec) (hZ : Z.Warmed39 s.vm) (hown : s.vm.findClass own = some m.cls) (hin : y.name = "<init>")
    (w1 : (Cond.methodLink own index y).before a0 Z = true) (w2 : (Cond.instanceMethod y).before a0 Z = true) (w3 : (Cond.initialized y.cls).before a0 Z = true) (w4 : (Cond.code y bytes maxL none).before a0 Z = true)
    (hy : y.cls ≠ "java/lang/invoke/MethodHandle" ∧ y.cls ≠ "java/lang/invoke/VarHandle") (hM : Met1 l Z y bytes maxL none [] rm as' h Q) (eT : T.heap = h) (hsize : Ls.size = c.maxLocals)
    (hpd : parseMethodDescriptor y.desc = some ⟨ps, r⟩) (hlen : argsL.length = ps.length) {a : Addr} (hst : st = argsL.reverse ++ .ref a :: rest) (has : (Value.ref a :: argsL).toArray = as') (hdc : decode c.code pc = .ok (.invokespecial index, 3))
    (hf : rm.frames + 1 ≤ R.frames) (hlo : (rest.map fun v => v.category).sum + (maxL + 11) + rm.locals ≤ R.locals) (hce : cells + rm.cells ≤ R.cells) (hsl : slots + rm.slots ≤ R.slots)
    (k : ∀ T' v L, Stand p l e R s m args below meth c T' (locs ++ L) (cells + rm.cells) (slots + rm.slots) → Q v T'.heap L → Go p e below K T' (mkF m (pc + 3) Ls (v.toList ++ rest))) : Go p e below K T (mkF m pc Ls st) := by
  obtain ⟨v, vm₁, ⟨T', L', c', n'⟩, -, X', ⟨L, hQ, e1, e2, e3⟩, st'⟩ := X.specialBack hx hin hown (mvT hZ w1) (mvT hZ w2) (mvT hZ w4) hy (backOf (W := (rest.map fun v => v.category).sum) hM hZ w4 w3 hf hlo) (g := mkF m pc Ls st) rfl hsize (Steps.refl _) (a := a) (argsL := argsL) (rest := rest) (lenOf hpd hlen) hst (by show 2 * 0 + _ ≤ _; omega) hdc (fun _ _ => ⟨has, eT, hce, hsl⟩)
  dsimp only [Pt.U, Pt.locs, Pt.cells, Pt.slots] at X' e1 e2 e3 st' hQ
  subst e1 e2 e3
  exact Go.to (fun _ q => st'.trans q) (k T' v L X' hQ)
theorem Go.callV (X : Stand p l e R s m args below meth c T locs cells slots) (hx : p.tables.exec = Jvm.exec) (hZ : Z.Warmed39 s.vm) (hown : s.vm.findClass own = some m.cls)
    (w1 : (Cond.methodLink own index y).before a0 Z = true) (w5 : (Cond.declares y).before a0 Z = true) {C : String} (w6 : (Cond.selects C y y).before a0 Z = true) (w2 : (Cond.instanceMethod y).before a0 Z = true) (w3 : (Cond.initialized y.cls).before a0 Z = true) (w4 : (Cond.code y bytes maxL ret).before a0 Z = true)
    (hy : y.cls ≠ "java/lang/invoke/MethodHandle" ∧ y.cls ≠ "java/lang/invoke/VarHandle") (hM : Met1 l Z y bytes maxL ret [] rm as' h Q) (eT : T.heap = h) {a : Addr} (E : Exa Z h a C) (hsize : Ls.size = c.maxLocals)
    (hpd : parseMethodDescriptor y.desc = some ⟨ps, r⟩) (hlen : argsL.length = ps.length) (hst : st = argsL.reverse ++ .ref a :: rest) (has : (Value.ref a :: argsL).toArray = as') (hdc : decode c.code pc = .ok (.invokevirtual index, 3))
    (hf : rm.frames + 1 ≤ R.frames) (hlo : (rest.map fun v => v.category).sum + (maxL + 11) + rm.locals ≤ R.locals) (hce : cells + rm.cells ≤ R.cells) (hsl : slots + rm.slots ≤ R.slots)
    (k : ∀ T' v L, Stand p l e R s m args below meth c T' (locs ++ L) (cells + rm.cells) (slots + rm.slots) → Q v T'.heap L → Go p e below K T' (mkF m (pc + 3) Ls (v.toList ++ rest))) : Go p e below K T (mkF m pc Ls st) := by
  obtain ⟨cq, kq, q1, q2, q3⟩ := isOf hZ eT E
  obtain ⟨v, vm₁, ⟨T', L', c', n'⟩, -, X', ⟨L, hQ, e1, e2, e3⟩, st'⟩ := X.virtualBack hx (y := y) (z := y) hown (mvT hZ w1) (mvT hZ w5) (notFace_of_selects (args := #[]) (mvT hZ w6)) (mvT hZ w6) (mvT hZ w2) hy (backOf (W := (rest.map fun v => v.category).sum) hM hZ w4 w3 hf hlo) q1 q3 (g := mkF m pc Ls st) rfl hsize (Steps.refl _) (argsL := argsL) (rest := rest) (lenOf hpd hlen) hst (by show 2 * 0 + _ ≤ _; omega) hdc (fun _ _ => ⟨has, eT, hce, hsl⟩)
  dsimp only [Pt.U, Pt.locs, Pt.cells, Pt.slots] at X' e1 e2 e3 st' hQ
  subst e1 e2 e3
  exact Go.to (fun _ q => st'.trans q) (k T' v L X' hQ)
end Calls
/-! arrays of ints (or of chars) by their list -/
def AV (Z : State) (h : Heap) (b : Addr) (ty : FieldType) (xs : List Int32) : Prop := ∃ cl : Cell, Arr Z h b cl ty ∧ cl.slots = (xs.map Value.int).toArray
def rdL (xs : List Int32) (j : Int32) : Option Int32 := if j < 0 then none else xs[j.toNatClampNeg]?
def wrL (xs : List Int32) (j v : Int32) : List Int32 := xs.set j.toNatClampNeg v
variable {b : Addr} {xs : List Int32} {j v w : Int32} {ty : FieldType} {h' : Heap}
theorem AV.lt (A : AV Z h b ty xs) : b < h.size := by obtain ⟨cl, A, -⟩ := A; exact A.lt
theorem AV.ext (A : AV Z h b ty xs) (E : Ext h h') : AV Z h' b ty xs := by obtain ⟨cl, A, q⟩ := A; exact ⟨cl, A.ext E, q⟩
theorem AV.other {a : Addr} {sl : Nat} {u : Value} (A : AV Z h b ty xs) (W : Wr h h' a sl u) (q : b ≠ a) : AV Z h' b ty xs := by obtain ⟨cl, A, r⟩ := A; exact ⟨cl, A.other W q, r⟩
theorem AV.keep {ws : List Addr} (A : AV Z h b ty xs) (Kp : Keep h h' ws) (q : b ∉ ws) : AV Z h' b ty xs := by obtain ⟨cl, A, r⟩ := A; exact ⟨cl, ⟨Kp.2.1 b cl A.1 q, A.2⟩, r⟩
theorem AV.same {n : Nat} (A : AV Z h b ty xs) (W : Wr h h' b n (.int v)) : AV Z h' b ty (xs.set n v) := by
  obtain ⟨cl, A, r⟩ := A
  refine ⟨_, A.same W, ?_⟩
  simp only [Cell.setSlot, r, List.setIfInBounds_toArray, List.map_set]
theorem AV.rd (A : AV Z h b ty xs) (hr : rdL xs j = some v) : ∃ cl : Cell, Arr Z h b cl ty ∧ ¬ (j < 0 ∨ cl.slots.size ≤ j.toNatClampNeg) ∧ cl.slots[j.toNatClampNeg]? = some (.int v) := by
  obtain ⟨cl, A, r⟩ := A
  unfold rdL at hr
  split at hr
  · cases hr
  · rename_i hj
    obtain ⟨hlt, hv⟩ := List.getElem?_eq_some_iff.mp hr
    refine ⟨cl, A, ?_, ?_⟩
    · rw [r]; simp only [List.size_toArray, List.length_map]; rintro (q | q)
      · exact hj q
      · omega
    · rw [r]; simp [hlt, hv]
theorem AV.new {cA : ClassId} {n : Int32} (A : Arr Z h b (newA cA .int n) .int) : AV Z h b .int (List.replicate n.toNatClampNeg 0) := ⟨_, A, by simp [newA, defaultValue]⟩
theorem AV.newC {cA : ClassId} {n : Int32} (A : Arr Z h b (newA cA .char n) .char) : AV Z h b .char (List.replicate n.toNatClampNeg 0) := ⟨_, A, by simp [newA, defaultValue]⟩
variable {pc : Nat} {Ls : Array Slot} {rest : List Value}
theorem Go.iaload (X : Stand p l e R s m args below meth c T locs cells slots) (hx : p.tables.exec = Jvm.exec) (hZ : Z.Warmed39 s.vm) (eT : T.heap = h) (A : AV Z h b .int xs) (hr : rdL xs j = some v) (hd : decode c.code pc = .ok (.iaload, 1))
    (k : Go p e below K T (mkF m (pc + 1) Ls (.int v :: rest))) : Go p e below K T (mkF m pc Ls (.int j :: .ref b :: rest)) := by
  obtain ⟨cl, A, h1, h2⟩ := A.rd hr
  exact Go.to (fun t q => X.iaload hx (by rw [eT]; exact A.1) (State.isArrayOf_alike hZ.alike A.2.1) A.2.2 h1 h2 (g := mkF m pc Ls (.int j :: .ref b :: rest)) rfl rfl hd t q) k
theorem Go.caload (X : Stand p l e R s m args below meth c T locs cells slots) (hx : p.tables.exec = Jvm.exec) (hZ : Z.Warmed39 s.vm) (eT : T.heap = h) (A : AV Z h b .char xs) (hr : rdL xs j = some v) (hd : decode c.code pc = .ok (.caload, 1))
    (k : Go p e below K T (mkF m (pc + 1) Ls (.int v :: rest))) : Go p e below K T (mkF m pc Ls (.int j :: .ref b :: rest)) := by
  obtain ⟨cl, A, h1, h2⟩ := A.rd hr
  exact Go.to (fun t q => X.caload hx (by rw [eT]; exact A.1) (State.isArrayOf_alike hZ.alike A.2.1) A.2.2 h1 h2 (g := mkF m pc Ls (.int j :: .ref b :: rest)) rfl rfl hd t q) k
theorem Go.alen (X : Stand p l e R s m args below meth c T locs cells slots) (hx : p.tables.exec = Jvm.exec) (hZ : Z.Warmed39 s.vm) (eT : T.heap = h) (A : AV Z h b ty xs) (hd : decode c.code pc = .ok (.arraylength, 1))
    (k : Go p e below K T (mkF m (pc + 1) Ls (.int xs.length.toInt32 :: rest))) : Go p e below K T (mkF m pc Ls (.ref b :: rest)) := by
  obtain ⟨cl, A, r⟩ := A
  refine Go.to (fun t q => X.arraylength hx (by rw [eT]; exact A.1) (State.isArrayOf_alike hZ.alike A.2.1) (g := mkF m pc Ls (.ref b :: rest)) rfl rfl hd t q) ?_
  simpa [r] using k
theorem Go.iastore (X : Stand p l e R s m args below meth c T locs cells slots) (hx : p.tables.exec = Jvm.exec) (hZ : Z.Warmed39 s.vm) (eT : T.heap = h) (A : AV Z h b .int xs) (hr : rdL xs j = some w) (hd : decode c.code pc = .ok (.iastore, 1))
    (k : ∀ T' h', Stand p l e R s m args below meth c T' (locs ++ [⟨b, j.toNatClampNeg⟩]) cells slots → T'.heap = h' → Wr h h' b j.toNatClampNeg (.int v) → AV Z h' b .int (wrL xs j v) → Go p e below K T' (mkF m (pc + 1) Ls rest)) : Go p e below K T (mkF m pc Ls (.int v :: .int j :: .ref b :: rest)) := by
  obtain ⟨cl, A', h1, h2⟩ := A.rd hr
  obtain ⟨T', h', X', e', W, st⟩ := stI X hx hZ eT A' (j := j) h1 (g := mkF m pc Ls (.int v :: .int j :: .ref b :: rest)) rfl rfl hd
  exact Go.to st (k T' h' X' e' W (A.same W))
theorem Go.castore (X : Stand p l e R s m args below meth c T locs cells slots) (hx : p.tables.exec = Jvm.exec) (hZ : Z.Warmed39 s.vm) (eT : T.heap = h) (A : AV Z h b .char xs) (hr : rdL xs j = some w) (hn : nar .char v = v) (hd : decode c.code pc = .ok (.castore, 1))
    (k : ∀ T' h', Stand p l e R s m args below meth c T' (locs ++ [⟨b, j.toNatClampNeg⟩]) cells slots → T'.heap = h' → Wr h h' b j.toNatClampNeg (.int v) → AV Z h' b .char (wrL xs j v) → Go p e below K T' (mkF m (pc + 1) Ls rest)) : Go p e below K T (mkF m pc Ls (.int v :: .int j :: .ref b :: rest)) := by
  obtain ⟨cl, A', h1, h2⟩ := A.rd hr
  obtain ⟨T', h', X', e', W, st⟩ := stC X hx hZ eT A' (j := j) h1 (g := mkF m pc Ls (.int v :: .int j :: .ref b :: rest)) rfl rfl hd
  rw [hn] at W
  exact Go.to st (k T' h' X' e' W (A.same W))
theorem Go.newI (X : Stand p l e R s m args below meth c T locs cells slots) (hx : p.tables.exec = Jvm.exec) (hZ : Z.Warmed39 s.vm) (wa : (Cond.arrayClass .int).before a0 Z = true) (eT : T.heap = h) (hd : decode c.code pc = .ok (.newarray .int, 2)) {n : Int32} (hn : ¬ n < 0) {cap : Nat} (hcap : n.toNatClampNeg ≤ cap) (hb : cap * 8 ≤ 536870912) (hc : cells + 1 ≤ R.cells) (hl : slots + cap ≤ R.slots)
    (k : ∀ T' h' b, Stand p l e R s m args below meth c T' locs (cells + 1) (slots + cap) → T'.heap = h' → Ext h h' → b = h.size → AV Z h' b .int (List.replicate n.toNatClampNeg 0) → Go p e below K T' (mkF m (pc + 2) Ls (.ref b :: rest))) : Go p e below K T (mkF m pc Ls (.int n :: rest)) := by
  obtain ⟨T', h', cA, X', e', E, A, st⟩ := newP X hx hZ (aty := .int) wa eT (g := mkF m pc Ls (.int n :: rest)) rfl hd rfl hn hcap hb hc hl
  exact Go.to st (k T' h' _ X' e' E rfl (AV.new A))
theorem Go.newC (X : Stand p l e R s m args below meth c T locs cells slots) (hx : p.tables.exec = Jvm.exec) (hZ : Z.Warmed39 s.vm) (wa : (Cond.arrayClass .char).before a0 Z = true) (eT : T.heap = h) (hd : decode c.code pc = .ok (.newarray .char, 2)) {n : Int32} (hn : ¬ n < 0) {cap : Nat} (hcap : n.toNatClampNeg ≤ cap) (hb : cap * 8 ≤ 536870912) (hc : cells + 1 ≤ R.cells) (hl : slots + cap ≤ R.slots)
    (k : ∀ T' h' b, Stand p l e R s m args below meth c T' locs (cells + 1) (slots + cap) → T'.heap = h' → Ext h h' → b = h.size → AV Z h' b .char (List.replicate n.toNatClampNeg 0) → Go p e below K T' (mkF m (pc + 2) Ls (.ref b :: rest))) : Go p e below K T (mkF m pc Ls (.int n :: rest)) := by
  obtain ⟨T', h', cA, X', e', E, A, st⟩ := newP X hx hZ (aty := .char) wa eT (g := mkF m pc Ls (.int n :: rest)) rfl hd rfl hn hcap hb hc hl
  exact Go.to st (k T' h' _ X' e' E rfl (AV.newC A))
theorem frOne {k n : Nat} {L : List Loc} (N : Fr k L) (q : k ≤ b) : Fr k (L ++ [⟨b, n⟩]) := N.app fun y hy => by cases List.mem_singleton.mp hy; exact q
end OwnKit
/-! OWN KIT, third part: walks that load String constants (the wide frame) -/
section OwnWide
variable {p : Program} {l : Launch} {e : Env} {R : Room} {s : State} {m : MethodId} {args : Array Value} {below : List Frame} {meth : Method} {c : Code} {T : State} {locs : List Loc} {cells slots : Nat} {Z : State} {a0 : Array Value} {h : Heap} {K : Outcome → State → Prop} {Q : Option Value → Heap → List Loc → Prop} {rc rs : Nat} {EL : List (String × Nat)} {vm0 : Vm}
def KW (Z : State) (EL : List (String × Nat)) (s : State) (Q : Option Value → Heap → List Loc → Prop) (rc rs : Nat) : Outcome → State → Prop := fun o U => ∃ v L, o = .returned v ∧ Q v U.heap L ∧ CHr Z EL s.vm s.heap U.vm U.heap ∧ ReturnedEndW s o U L rc rs
abbrev MetW (l : Launch) (Z : State) (EL : List (String × Nat)) (y : MethodName) (bytes : ByteArray) (maxL : Nat) (ret : Option FieldType) (ws : List Jvm.Cond) (rm : Room) (as' : Array Value) (h0 : Heap) (Q : Option Value → Heap → List Loc → Prop) : Prop :=
  MetFree l y (head1 (Jvm.Cond.code y bytes maxL ret :: ws) rm) (fun a U => a = as' ∧ Z.Warmed39 U.vm ∧ U.heap = h0 ∧ CHv Z EL U.vm h0) (fun _ _ _ _ _ => True) (fun _ U o U' => ∃ v L, o = .returned v ∧ Q v U'.heap L ∧ CHr Z EL U.vm U.heap U'.vm U'.heap ∧ ReturnedEndW U o U' L rm.cells rm.slots)
theorem metOfW {y : MethodName} {bytes : ByteArray} {maxL : Nat} {ret : Option FieldType} {ws : List Jvm.Cond} {rm : Room} {as' : Array Value} {h0 : Heap} (hp : plainFor y = true)
    (body : ∀ (p : Program) (e : Env) (s : State) (m : MethodId) (below : List Frame) (meth : Method) (c : Code) (s₁ : State), p.tables.exec = Jvm.exec → c.code = bytes → c.maxLocals = maxL → s.vm.findClass y.cls = some m.cls → meth.name = y.name → meth.sig.returnType = ret → meth.locks = false → Z.Warmed39 s.vm →
      Stand p l e rm s m as' below meth c s₁ [] 0 0 → s₁.heap = h0 → s.heap = h0 → CHv Z EL s.vm h0 → Go p e below (KW Z EL s Q rm.cells rm.slots) s₁ (entryFrame m as' maxL)) : MetW l Z EL y bytes maxL ret ws rm as' h0 Q := by
  refine MetFree.of_bodySF hp hisR ?_
  intro p e s m args below meth c s₁ Bd hml0 hP hK
  obtain ⟨rfl, hZ, hh, hC⟩ := hP
  exact body p e s m below meth c s₁ Bd.exec Bd.bytes hml0 (findClass_of_methodNamed Bd.named) (name_of_methodNamed Bd.named Bd.method).1 Bd.returns (BodyLoose.notSynchronized Bd) hZ (Stand.of_body Bd) (by rw [← hh, Bd.state]; rfl) hh hC
theorem Go.retWW (X : Stand p l e R (s.setVm vm0) m args below meth c T locs cells slots) (hx : p.tables.exec = Jvm.exec) (hlk : meth.locks = false) {k0 : Nat} (hS : s.Since vm0 k0) (hk : k0 ≤ T.heap.size) {pc : Nat} {Ls : Array Slot} {w : Value} {t : FieldType} {i : Instr} {rest : List Value} (hret : meth.sig.returnType = some t) (hn : narrow t w = w)
    (hi : (i = .ireturn ∧ (t = .int ∨ t = .boolean ∨ t = .byte ∨ t = .char ∨ t = .short) ∧ ∃ z, w = .int z) ∨ (i = .lreturn ∧ t = .long ∧ ∃ z, w = .long z) ∨ (i = .dreturn ∧ t = .double ∧ ∃ z, w = .double z) ∨ (i = .freturn ∧ t = .float ∧ ∃ z, w = .float z) ∨ (i = .areturn ∧ t.isReference = true ∧ w.isRef = true))
    (hd : decode c.code pc = .ok (i, 1)) (hq : Q (some w) T.heap locs) (hC : CHr Z EL s.vm s.heap T.vm T.heap) (hc : cells ≤ rc) (hs : slots ≤ rs) : Go p e below (KW Z EL s Q rc rs) T (mkF m pc Ls (w :: rest)) := by
  obtain ⟨fs, hr, hrun, hended, h1, h2, h3, h4⟩ := X.leaveW hS hk (v := some w) (fun h => by rw [hret] at h; cases h) hlk
  exact ⟨_, _, retOut X hx hret hn hi hd hr, hrun, hended, _, _, rfl, hq, hC, h1, h2, h3, h4.mono hc hs⟩
theorem Go.callSW {own : String} {index : Nat} {y : MethodName} {bytes : ByteArray} {maxL : Nat} {ret : Option FieldType} {rm : Room} {as' : Array Value} {pc : Nat} {Ls : Array Slot} {st rest argsL : List Value} {ps : List FieldType} {r : Option FieldType} {k0 : Nat}
    (X : Stand p l e R (s.setVm vm0) m args below meth c T locs cells slots) (hx : p.tables.exec = Jvm.exec) (hZ : Z.Warmed39 vm0) (hown : vm0.findClass own = some m.cls) (hS : s.Since vm0 k0) (hk : k0 ≤ T.heap.size)
    (w1 : (Cond.methodLink own index y).before a0 Z = true) (w2 : (Cond.static y).before a0 Z = true) (w3 : (Cond.initialized y.cls).before a0 Z = true) (w4 : (Cond.code y bytes maxL ret).before a0 Z = true)
    (hy : y.cls ≠ "java/lang/invoke/MethodHandle" ∧ y.cls ≠ "java/lang/invoke/VarHandle") (hEL : EW Z a0 EL) (H : CHv Z EL vm0 h) (hM : MetW l Z EL y bytes maxL ret [] rm as' h Q) (eT : T.heap = h) (hsize : Ls.size = c.maxLocals)
    (hpd : parseMethodDescriptor y.desc = some ⟨ps, r⟩) (hlen : argsL.length = ps.length) (hst : st = argsL.reverse ++ rest) (has : argsL.toArray = as') (hdc : decode c.code pc = .ok (.invokestatic index, 3))
    (hf : rm.frames + 1 ≤ R.frames) (hlo : (rest.map fun v => v.category).sum + (maxL + 11) + rm.locals ≤ R.locals) (hce : cells + rm.cells ≤ R.cells) (hsl : slots + rm.slots ≤ R.slots)
    (k : ∀ T' v L, Stand p l e R (s.setVm T'.vm) m args below meth c T' (locs ++ L) (cells + rm.cells) (slots + rm.slots) → Q v T'.heap L → s.Since T'.vm T'.heap.size → Z.Warmed39 T'.vm → T'.vm.findClass own = some m.cls → CHr Z EL vm0 h T'.vm T'.heap → Go p e below K T' (mkF m (pc + 3) Ls (v.toList ++ rest))) : Go p e below K T (mkF m pc Ls st) := by
  obtain ⟨v, vm₁, ⟨T', L', c', n'⟩, -, X', hS', hg, ⟨L, hQ, e1, e2, e3, hC⟩, st'⟩ := callSS X hx hown (mvT (s := s.setVm vm0) hZ w1) (mvT (s := s.setVm vm0) hZ w2) (mvT (s := s.setVm vm0) hZ w3) (mvT (s := s.setVm vm0) hZ w4) hy (backOfSH (W := (rest.map fun v => v.category).sum) hM hZ w4 w3 hf hlo hEL H) (g := mkF m pc Ls st) rfl hsize (argsL := argsL) (rest := rest) (lenOf hpd hlen) hst (by show 2 * 0 + _ ≤ _; omega) hdc (fun _ _ => ⟨has, eT, hce, hsl⟩)
  dsimp only [Pt.U, Pt.locs, Pt.cells, Pt.slots] at X' e1 e2 e3 st' hQ hS' hg hC
  subst e1 e2 e3
  have hW : Z.Warmed39 T'.vm := State.Warmed39.trans (t := s.setVm vm0) hZ hS'.1
  exact Go.to (fun _ q => st'.trans q) (k T' v L X' hQ (foldS hS hk hS' hg) hW (by rw [hS'.1.alike.findClass]; exact hown) hC)
end OwnWide
def QP (r : Value) (h0 : Heap) : Option Value → Heap → List Loc → Prop := fun v h L => v = some r ∧ h = h0 ∧ L = []
theorem pd_0 : parseMethodDescriptor "()Z" = some ⟨[], some .boolean⟩ := by decide +kernel
theorem pd_1 : parseMethodDescriptor "()B" = some ⟨[], some .byte⟩ := by decide +kernel
theorem pd_2 : parseMethodDescriptor "()I" = some ⟨[], some .int⟩ := by decide +kernel
theorem pd_3 : parseMethodDescriptor "(I)C" = some ⟨[.int], some .char⟩ := by decide +kernel
theorem pd_4 : parseMethodDescriptor "([BI)C" = some ⟨[(.array .byte), .int], some .char⟩ := by decide +kernel
theorem pd_5 : parseMethodDescriptor "(II)V" = some ⟨[.int, .int], none⟩ := by decide +kernel
theorem pd_6 : parseMethodDescriptor "(IILjava/util/function/BiFunction;)I" = some ⟨[.int, .int, (.object "java/util/function/BiFunction")], some .int⟩ := by decide +kernel
theorem pd_7 : parseMethodDescriptor "(I)Ljava/lang/String;" = some ⟨[.int], some (.object "java/lang/String")⟩ := by decide +kernel
theorem avOf {Z : State} {h : Heap} {b : Addr} {k : ClassId} {ty : FieldType} {z : Int32} {xs : List Int32} {d : Value} (F : Arv Z h b k ty z (xs.map Value.int) d) (hl : z.toNatClampNeg = xs.length) : AV Z h b ty xs := by
  obtain ⟨cl, A, -, S, -, H, -⟩ := F
  refine ⟨cl, A, Array.ext_getElem? fun i => ?_⟩
  by_cases q : i < xs.length
  · rw [H i (by omega)]
    simp [q]
  · rw [Array.getElem?_eq_none (by omega), Array.getElem?_eq_none (by simp; omega)]
section
variable {p : Program} {l : Launch} {e : Env} {R : Room} {s : State} {m : MethodId} {args : Array Value} {below : List Frame} {meth : Method} {c : Code} {T : State} {locs : List Loc} {cells slots : Nat} {Z : State} {h : Heap} {K : Outcome → State → Prop} {b : Addr} {xs : List Int32} {j v : Int32} {pc : Nat} {Ls : Array Slot} {rest : List Value}
theorem Go.baload (X : Stand p l e R s m args below meth c T locs cells slots) (hx : p.tables.exec = Jvm.exec) (hZ : Z.Warmed39 s.vm) (eT : T.heap = h) (A : AV Z h b .byte xs) (hr : rdL xs j = some v) (hd : decode c.code pc = .ok (.baload, 1))
    (k : Go p e below K T (mkF m (pc + 1) Ls (.int v :: rest))) : Go p e below K T (mkF m pc Ls (.int j :: .ref b :: rest)) := by
  obtain ⟨cl, A, h1, h2⟩ := A.rd hr
  exact Go.to (fun t q => X.baloadBytes hx (by rw [eT]; exact A.1) (State.isArrayOf_alike hZ.alike A.2.1) A.2.2 h1 h2 (g := mkF m pc Ls (.int j :: .ref b :: rest)) rfl rfl hd t q) k
end
theorem d3_0 : decode jdk_42_method_154_code 0 = .ok (.getstatic 38, 3) := by decide +kernel
theorem d3_3 : decode jdk_42_method_154_code 3 = .ok (.ifCond .eq 14, 3) := by decide +kernel
theorem d3_6 : decode jdk_42_method_154_code 6 = .ok (.aload_n 0, 1) := by decide +kernel
theorem d3_7 : decode jdk_42_method_154_code 7 = .ok (.getfield 15, 3) := by decide +kernel
theorem d3_10 : decode jdk_42_method_154_code 10 = .ok (.ifCond .ne 7, 3) := by decide +kernel
theorem d3_13 : decode jdk_42_method_154_code 13 = .ok (.iconst 1, 1) := by decide +kernel
theorem d3_14 : decode jdk_42_method_154_code 14 = .ok (.goto 4, 3) := by decide +kernel
theorem d3_18 : decode jdk_42_method_154_code 18 = .ok (.ireturn, 1) := by decide +kernel
theorem ef_rm3 (m : MethodId) (a1 : Addr) : entryFrame m #[(.ref a1)] 1 = mkF m 0 #[.val (.ref a1)] [] := by first | (simp [entryFrame, mkF, argsToLocals, Value.category]; done) | rfl
set_option maxHeartbeats 40000000 in
theorem rm3 (l : Launch) (Z : State) (a0 : Array Value) (hw : ∀ d ∈ tables_1, d.before a0 Z = true) (ws : List Jvm.Cond) (a1 : Addr) (h0 : Heap) (C : Fld Z h0 a1 "java/lang/String" "coder" "B" (.int 0)) (z : Int32) (S1 : Sta Z h0 "java/lang/String" "COMPACT_STRINGS" "Z" (.int z)) (hz : ¬ z = 0) :
    Met1 l Z (⟨"java/lang/String", "isLatin1", "()Z"⟩ : MethodName) jdk_42_method_154_code 1 (some .boolean) ws ({ frames := 0, cells := 0, slots := 0, locals := 0 } : Room) #[(.ref a1)] h0 (QP (.int 1) h0) := by
  refine metOf (by first | exact plainFor_of_name (by first | (simp [plainName, overriddenIn]; done) | decide +kernel) | decide +kernel) ?_
  intro p e s m below meth c s₁ hx hby hml hown hnm hret hlk hZ X0 e0
  have hown : s.vm.findClass "java/lang/String" = some m.cls := hown
  obtain ⟨K, hK⟩ : ∃ K, K = KQ s (QP (.int 1) h0) (({ frames := 0, cells := 0, slots := 0, locals := 0 } : Room)).cells (({ frames := 0, cells := 0, slots := 0, locals := 0 } : Room)).slots := ⟨_, rfl⟩
  show Go p e below (KQ s (QP (.int 1) h0) (({ frames := 0, cells := 0, slots := 0, locals := 0 } : Room)).cells (({ frames := 0, cells := 0, slots := 0, locals := 0 } : Room)).slots) s₁ (entryFrame m #[(.ref a1)] 1)
  rw [← hK, ef_rm3 m a1]
  show Go p e below _ s₁ (mkF m 0 #[.val (.ref a1)] [])
  obtain ⟨T1, X1, e1, st1⟩ := getS (host := "") X0 hx hZ hown (hw _ (List.mem_of_getElem? (i := 23) rfl)) Via.refl e0 S1 (g := (mkF m 0 #[.val (.ref a1)] [])) rfl (hb hby d3_0)
  refine Go.to st1 ?_
  show Go p e below _ T1 (mkF m 3 #[.val (.ref a1)] [(.int z)])
  refine Go.to (fun _ => XS.ifNo X1.here hx rfl (hb hby d3_3) rfl ((if0 _ _).trans (feq hz).1)) ?_
  show Go p e below _ T1 (mkF m 6 #[.val (.ref a1)] [])
  refine Go.to (fun _ => XS.aloadN X1.here hx rfl (hb hby d3_6) rfl rfl) ?_
  show Go p e below _ T1 (mkF m 7 #[.val (.ref a1)] [(.ref a1)])
  obtain ⟨T2, X2, e2, st2⟩ := getF X1 hx hZ hown (host := "") (Or.inl (hw _ (List.mem_of_getElem? (i := 24) rfl))) Via.refl e1 C (g := (mkF m 7 #[.val (.ref a1)] [(.ref a1)])) rfl rfl (hb hby d3_7)
  refine Go.to st2 ?_
  show Go p e below _ T2 (mkF m 10 #[.val (.ref a1)] [(.int (0 : Int32))])
  refine Go.to (fun _ => XS.ifNo X2.here hx rfl (hb hby d3_10) rfl ((if0 _ _).trans (teq (by decide)).2)) ?_
  show Go p e below _ T2 (mkF m 13 #[.val (.ref a1)] [])
  refine Go.to (fun _ => XS.iconst X2.here hx rfl (hb hby d3_13)) ?_
  show Go p e below _ T2 (mkF m 14 #[.val (.ref a1)] [(.int (1 : Int32))])
  refine Go.to (fun _ => XS.goto X2.here hx rfl (pc0 := 14) (pc' := 18) rfl (hb hby d3_14) (by decide) (by decide)) ?_
  show Go p e below _ T2 (mkF m 18 #[.val (.ref a1)] [(.int (1 : Int32))])
  rw [hK]
  exact Go.retZ X2 hx hlk hret (by decide) (hb hby d3_18) ⟨rfl, e2, rfl⟩ (by decide) (by decide)
theorem d8_0 : decode jdk_42_method_152_code 0 = .ok (.getstatic 38, 3) := by decide +kernel
theorem d8_3 : decode jdk_42_method_152_code 3 = .ok (.ifCond .eq 10, 3) := by decide +kernel
theorem d8_6 : decode jdk_42_method_152_code 6 = .ok (.aload_n 0, 1) := by decide +kernel
theorem d8_7 : decode jdk_42_method_152_code 7 = .ok (.getfield 15, 3) := by decide +kernel
theorem d8_10 : decode jdk_42_method_152_code 10 = .ok (.goto 4, 3) := by decide +kernel
theorem d8_14 : decode jdk_42_method_152_code 14 = .ok (.ireturn, 1) := by decide +kernel
theorem ef_rm8 (m : MethodId) (a1 : Addr) : entryFrame m #[(.ref a1)] 1 = mkF m 0 #[.val (.ref a1)] [] := by first | (simp [entryFrame, mkF, argsToLocals, Value.category]; done) | rfl
set_option maxHeartbeats 40000000 in
theorem rm8 (l : Launch) (Z : State) (a0 : Array Value) (hw : ∀ d ∈ tables_1, d.before a0 Z = true) (ws : List Jvm.Cond) (a1 : Addr) (h0 : Heap) (C : Fld Z h0 a1 "java/lang/String" "coder" "B" (.int 0)) (z : Int32) (S1 : Sta Z h0 "java/lang/String" "COMPACT_STRINGS" "Z" (.int z)) (hz : ¬ z = 0) :
    Met1 l Z (⟨"java/lang/String", "coder", "()B"⟩ : MethodName) jdk_42_method_152_code 1 (some .byte) ws ({ frames := 0, cells := 0, slots := 0, locals := 0 } : Room) #[(.ref a1)] h0 (QP (.int 0) h0) := by
  refine metOf (by first | exact plainFor_of_name (by first | (simp [plainName, overriddenIn]; done) | decide +kernel) | decide +kernel) ?_
  intro p e s m below meth c s₁ hx hby hml hown hnm hret hlk hZ X0 e0
  have hown : s.vm.findClass "java/lang/String" = some m.cls := hown
  obtain ⟨K, hK⟩ : ∃ K, K = KQ s (QP (.int 0) h0) (({ frames := 0, cells := 0, slots := 0, locals := 0 } : Room)).cells (({ frames := 0, cells := 0, slots := 0, locals := 0 } : Room)).slots := ⟨_, rfl⟩
  show Go p e below (KQ s (QP (.int 0) h0) (({ frames := 0, cells := 0, slots := 0, locals := 0 } : Room)).cells (({ frames := 0, cells := 0, slots := 0, locals := 0 } : Room)).slots) s₁ (entryFrame m #[(.ref a1)] 1)
  rw [← hK, ef_rm8 m a1]
  show Go p e below _ s₁ (mkF m 0 #[.val (.ref a1)] [])
  obtain ⟨T1, X1, e1, st1⟩ := getS (host := "") X0 hx hZ hown (hw _ (List.mem_of_getElem? (i := 23) rfl)) Via.refl e0 S1 (g := (mkF m 0 #[.val (.ref a1)] [])) rfl (hb hby d8_0)
  refine Go.to st1 ?_
  show Go p e below _ T1 (mkF m 3 #[.val (.ref a1)] [(.int z)])
  refine Go.to (fun _ => XS.ifNo X1.here hx rfl (hb hby d8_3) rfl ((if0 _ _).trans (feq hz).1)) ?_
  show Go p e below _ T1 (mkF m 6 #[.val (.ref a1)] [])
  refine Go.to (fun _ => XS.aloadN X1.here hx rfl (hb hby d8_6) rfl rfl) ?_
  show Go p e below _ T1 (mkF m 7 #[.val (.ref a1)] [(.ref a1)])
  obtain ⟨T2, X2, e2, st2⟩ := getF X1 hx hZ hown (host := "") (Or.inl (hw _ (List.mem_of_getElem? (i := 24) rfl))) Via.refl e1 C (g := (mkF m 7 #[.val (.ref a1)] [(.ref a1)])) rfl rfl (hb hby d8_7)
  refine Go.to st2 ?_
  show Go p e below _ T2 (mkF m 10 #[.val (.ref a1)] [(.int (0 : Int32))])
  refine Go.to (fun _ => XS.goto X2.here hx rfl (pc0 := 10) (pc' := 14) rfl (hb hby d8_10) (by decide) (by decide)) ?_
  show Go p e below _ T2 (mkF m 14 #[.val (.ref a1)] [(.int (0 : Int32))])
  rw [hK]
  exact Go.retW X2 hx hlk hret rfl (Or.inl ⟨rfl, by simp, _, rfl⟩) (hb hby d8_14) ⟨rfl, e2, rfl⟩ (by decide) (by decide)
theorem d6_0 : decode jdk_41_method_11_code 0 = .ok (.iload_n 0, 1) := by decide +kernel
theorem d6_1 : decode jdk_41_method_11_code 1 = .ok (.ifCond .lt 8, 3) := by decide +kernel
theorem d6_4 : decode jdk_41_method_11_code 4 = .ok (.iload_n 0, 1) := by decide +kernel
theorem d6_5 : decode jdk_41_method_11_code 5 = .ok (.iload_n 1, 1) := by decide +kernel
theorem d6_6 : decode jdk_41_method_11_code 6 = .ok (.if_icmp .lt 10, 3) := by decide +kernel
theorem d6_16 : decode jdk_41_method_11_code 16 = .ok (.iload_n 0, 1) := by decide +kernel
theorem d6_17 : decode jdk_41_method_11_code 17 = .ok (.ireturn, 1) := by decide +kernel
theorem ef_rm6 (m : MethodId) (p1 : Int32) (p2 : Int32) (fm : Value) (rfm : fm.isRef = true) : entryFrame m #[(.int p1), (.int p2), fm] 3 = mkF m 0 #[.val (.int p1), .val (.int p2), .val fm] [] := by rcases ref_cases rfm with rfl | ⟨q, rfl⟩ <;> rfl
set_option maxHeartbeats 40000000 in
theorem rm6 (l : Launch) (Z : State) (a0 : Array Value) (hw : ∀ d ∈ tables_1, d.before a0 Z = true) (ws : List Jvm.Cond) (p1 : Int32) (p2 : Int32) (fm : Value) (rfm : fm.isRef = true) (h0 : Heap) (h1 : ¬ p1 < (0 : Int32)) (h2 : p1 < p2) :
    Met1 l Z (⟨"jdk/internal/util/Preconditions", "checkIndex", "(IILjava/util/function/BiFunction;)I"⟩ : MethodName) jdk_41_method_11_code 3 (some .int) ws ({ frames := 0, cells := 0, slots := 0, locals := 0 } : Room) #[(.int p1), (.int p2), fm] h0 (QP (.int p1) h0) := by
  refine metOf (by first | exact plainFor_of_name (by first | (simp [plainName, overriddenIn]; done) | decide +kernel) | decide +kernel) ?_
  intro p e s m below meth c s₁ hx hby hml hown hnm hret hlk hZ X0 e0
  have hown : s.vm.findClass "jdk/internal/util/Preconditions" = some m.cls := hown
  obtain ⟨K, hK⟩ : ∃ K, K = KQ s (QP (.int p1) h0) (({ frames := 0, cells := 0, slots := 0, locals := 0 } : Room)).cells (({ frames := 0, cells := 0, slots := 0, locals := 0 } : Room)).slots := ⟨_, rfl⟩
  show Go p e below (KQ s (QP (.int p1) h0) (({ frames := 0, cells := 0, slots := 0, locals := 0 } : Room)).cells (({ frames := 0, cells := 0, slots := 0, locals := 0 } : Room)).slots) s₁ (entryFrame m #[(.int p1), (.int p2), fm] 3)
  rw [← hK, ef_rm6 m p1 p2 fm rfm]
  show Go p e below _ s₁ (mkF m 0 #[.val (.int p1), .val (.int p2), .val fm] [])
  refine Go.to (fun _ => XS.iloadN X0.here hx rfl (hb hby d6_0) rfl) ?_
  show Go p e below _ s₁ (mkF m 1 #[.val (.int p1), .val (.int p2), .val fm] [(.int p1)])
  refine Go.to (fun _ => XS.ifNo X0.here hx rfl (hb hby d6_1) rfl ((if0 _ _).trans (flt h1).1)) ?_
  show Go p e below _ s₁ (mkF m 4 #[.val (.int p1), .val (.int p2), .val fm] [])
  refine Go.to (fun _ => XS.iloadN X0.here hx rfl (hb hby d6_4) rfl) ?_
  show Go p e below _ s₁ (mkF m 5 #[.val (.int p1), .val (.int p2), .val fm] [(.int p1)])
  refine Go.to (fun _ => XS.iloadN X0.here hx rfl (hb hby d6_5) rfl) ?_
  show Go p e below _ s₁ (mkF m 6 #[.val (.int p1), .val (.int p2), .val fm] [(.int p2), (.int p1)])
  refine Go.to (fun _ => XS.icmpYes X0.here hx rfl (pc0 := 6) (pc' := 16) rfl (hb hby d6_6) rfl (tlt h2).1 (by decide) (by decide)) ?_
  show Go p e below _ s₁ (mkF m 16 #[.val (.int p1), .val (.int p2), .val fm] [])
  refine Go.to (fun _ => XS.iloadN X0.here hx rfl (hb hby d6_16) rfl) ?_
  show Go p e below _ s₁ (mkF m 17 #[.val (.int p1), .val (.int p2), .val fm] [(.int p1)])
  rw [hK]
  exact Go.retI X0 hx hlk hret (hb hby d6_17) ⟨rfl, e0, rfl⟩ (by decide) (by decide)
theorem d5_0 : decode jdk_42_method_155_code 0 = .ok (.iload_n 0, 1) := by decide +kernel
theorem d5_1 : decode jdk_42_method_155_code 1 = .ok (.iload_n 1, 1) := by decide +kernel
theorem d5_2 : decode jdk_42_method_155_code 2 = .ok (.getstatic 1053, 3) := by decide +kernel
theorem d5_5 : decode jdk_42_method_155_code 5 = .ok (.invokestatic 1059, 3) := by decide +kernel
theorem d5_8 : decode jdk_42_method_155_code 8 = .ok (.pop, 1) := by decide +kernel
theorem d5_9 : decode jdk_42_method_155_code 9 = .ok (.return_, 1) := by decide +kernel
theorem ef_rm5 (m : MethodId) (p1 : Int32) (p2 : Int32) : entryFrame m #[(.int p1), (.int p2)] 2 = mkF m 0 #[.val (.int p1), .val (.int p2)] [] := by first | (simp [entryFrame, mkF, argsToLocals, Value.category]; done) | rfl
set_option maxHeartbeats 40000000 in
theorem rm5 (l : Launch) (Z : State) (a0 : Array Value) (hw : ∀ d ∈ tables_1, d.before a0 Z = true) (ws : List Jvm.Cond) (p1 : Int32) (p2 : Int32) (h0 : Heap) (h1 : ¬ p1 < (0 : Int32)) (h2 : p1 < p2) (fm : Value) (rfm : fm.isRef = true) (S2 : Sta Z h0 "jdk/internal/util/Preconditions" "SIOOBE_FORMATTER" "Ljava/util/function/BiFunction;" fm) :
    Met1 l Z (⟨"java/lang/String", "checkIndex", "(II)V"⟩ : MethodName) jdk_42_method_155_code 2 none ws ({ frames := 1, cells := 0, slots := 0, locals := 14 } : Room) #[(.int p1), (.int p2)] h0 (fun v h L => v = none ∧ h = h0 ∧ L = []) := by
  refine metOf (by first | exact plainFor_of_name (by first | (simp [plainName, overriddenIn]; done) | decide +kernel) | decide +kernel) ?_
  intro p e s m below meth c s₁ hx hby hml hown hnm hret hlk hZ X0 e0
  have hown : s.vm.findClass "java/lang/String" = some m.cls := hown
  obtain ⟨K, hK⟩ : ∃ K, K = KQ s (fun v h L => v = none ∧ h = h0 ∧ L = []) (({ frames := 1, cells := 0, slots := 0, locals := 14 } : Room)).cells (({ frames := 1, cells := 0, slots := 0, locals := 14 } : Room)).slots := ⟨_, rfl⟩
  show Go p e below (KQ s (fun v h L => v = none ∧ h = h0 ∧ L = []) (({ frames := 1, cells := 0, slots := 0, locals := 14 } : Room)).cells (({ frames := 1, cells := 0, slots := 0, locals := 14 } : Room)).slots) s₁ (entryFrame m #[(.int p1), (.int p2)] 2)
  rw [← hK, ef_rm5 m p1 p2]
  show Go p e below _ s₁ (mkF m 0 #[.val (.int p1), .val (.int p2)] [])
  refine Go.to (fun _ => XS.iloadN X0.here hx rfl (hb hby d5_0) rfl) ?_
  show Go p e below _ s₁ (mkF m 1 #[.val (.int p1), .val (.int p2)] [(.int p1)])
  refine Go.to (fun _ => XS.iloadN X0.here hx rfl (hb hby d5_1) rfl) ?_
  show Go p e below _ s₁ (mkF m 2 #[.val (.int p1), .val (.int p2)] [(.int p2), (.int p1)])
  obtain ⟨T1, X1, e1, st1⟩ := getS (host := "") X0 hx hZ hown (hw _ (List.mem_of_getElem? (i := 33) rfl)) Via.refl e0 S2 (g := (mkF m 2 #[.val (.int p1), .val (.int p2)] [(.int p2), (.int p1)])) rfl (hb hby d5_2)
  refine Go.to st1 ?_
  show Go p e below _ T1 (mkF m 5 #[.val (.int p1), .val (.int p2)] [fm, (.int p2), (.int p1)])
  refine Go.callS (y := (⟨"jdk/internal/util/Preconditions", "checkIndex", "(IILjava/util/function/BiFunction;)I"⟩ : MethodName)) X1 hx hZ hown (hw _ (List.mem_of_getElem? (i := 35) rfl)) (hw _ (List.mem_of_getElem? (i := 36) rfl)) (hw _ (List.mem_of_getElem? (i := 34) rfl)) (hw _ (List.mem_of_getElem? (i := 37) rfl)) (by decide) (rm6 l Z a0 hw [] p1 p2 fm rfm h0 h1 h2) e1 (by rw [hml]; rfl) (pd_6) rfl (argsL := [(.int p1), (.int p2), fm]) (rest := []) rfl rfl (hb hby d5_5) (by decide) (Nat.le_of_ble_eq_true rfl) (by decide) (by decide) ?_
  rintro T2 _ L2 X2 ⟨rfl, e2, rfl⟩
  simp only [List.append_nil] at X2
  show Go p e below _ T2 (mkF m 8 #[.val (.int p1), .val (.int p2)] [(.int p1)])
  refine Go.to (fun _ => XS.pop X2.here hx rfl (hb hby d5_8) rfl rfl) ?_
  show Go p e below _ T2 (mkF m 9 #[.val (.int p1), .val (.int p2)] [])
  rw [hK]
  exact Go.retV X2 hx hlk hret (hb hby d5_9) ⟨rfl, e2, rfl⟩ (by decide) (by decide)
theorem d4_0 : decode jdk_43_method_2_code 0 = .ok (.iload_n 1, 1) := by decide +kernel
theorem d4_1 : decode jdk_43_method_2_code 1 = .ok (.aload_n 0, 1) := by decide +kernel
theorem d4_2 : decode jdk_43_method_2_code 2 = .ok (.arraylength, 1) := by decide +kernel
theorem d4_3 : decode jdk_43_method_2_code 3 = .ok (.invokestatic 9, 3) := by decide +kernel
theorem d4_6 : decode jdk_43_method_2_code 6 = .ok (.aload_n 0, 1) := by decide +kernel
theorem d4_7 : decode jdk_43_method_2_code 7 = .ok (.iload_n 1, 1) := by decide +kernel
theorem d4_8 : decode jdk_43_method_2_code 8 = .ok (.baload, 1) := by decide +kernel
theorem d4_9 : decode jdk_43_method_2_code 9 = .ok (.sipush 255, 3) := by decide +kernel
theorem d4_12 : decode jdk_43_method_2_code 12 = .ok (.iand, 1) := by decide +kernel
theorem d4_13 : decode jdk_43_method_2_code 13 = .ok (.i2c, 1) := by decide +kernel
theorem d4_14 : decode jdk_43_method_2_code 14 = .ok (.ireturn, 1) := by decide +kernel
theorem ef_rm4 (m : MethodId) (t : Addr) (p2 : Int32) : entryFrame m #[(.ref t), (.int p2)] 2 = mkF m 0 #[.val (.ref t), .val (.int p2)] [] := by first | (simp [entryFrame, mkF, argsToLocals, Value.category]; done) | rfl
set_option maxHeartbeats 40000000 in
theorem rm4 (l : Launch) (Z : State) (a0 : Array Value) (hw : ∀ d ∈ tables_1, d.before a0 Z = true) (ws : List Jvm.Cond) (t : Addr) (p2 : Int32) (h0 : Heap) (bs : List Int32) (A : AV Z h0 t .byte bs) (h1 : ¬ p2 < (0 : Int32)) (h2 : p2 < (bs.length.toInt32)) (fm : Value) (rfm : fm.isRef = true) (S2 : Sta Z h0 "jdk/internal/util/Preconditions" "SIOOBE_FORMATTER" "Ljava/util/function/BiFunction;" fm) (bv r : Int32) (hr : rdL bs p2 = some bv) (hv : ((bv &&& (255 : Int32)).toUInt32.toUInt16.toUInt32.toInt32) = r) (hn : narrow .char (.int r) = .int r) :
    Met1 l Z (⟨"java/lang/StringLatin1", "charAt", "([BI)C"⟩ : MethodName) jdk_43_method_2_code 2 (some .char) ws ({ frames := 2, cells := 0, slots := 0, locals := 27 } : Room) #[(.ref t), (.int p2)] h0 (QP (.int r) h0) := by
  refine metOf (by first | exact plainFor_of_name (by first | (simp [plainName, overriddenIn]; done) | decide +kernel) | decide +kernel) ?_
  intro p e s m below meth c s₁ hx hby hml hown hnm hret hlk hZ X0 e0
  have hown : s.vm.findClass "java/lang/StringLatin1" = some m.cls := hown
  obtain ⟨K, hK⟩ : ∃ K, K = KQ s (QP (.int r) h0) (({ frames := 2, cells := 0, slots := 0, locals := 27 } : Room)).cells (({ frames := 2, cells := 0, slots := 0, locals := 27 } : Room)).slots := ⟨_, rfl⟩
  show Go p e below (KQ s (QP (.int r) h0) (({ frames := 2, cells := 0, slots := 0, locals := 27 } : Room)).cells (({ frames := 2, cells := 0, slots := 0, locals := 27 } : Room)).slots) s₁ (entryFrame m #[(.ref t), (.int p2)] 2)
  rw [← hK, ef_rm4 m t p2]
  show Go p e below _ s₁ (mkF m 0 #[.val (.ref t), .val (.int p2)] [])
  refine Go.to (fun _ => XS.iloadN X0.here hx rfl (hb hby d4_0) rfl) ?_
  show Go p e below _ s₁ (mkF m 1 #[.val (.ref t), .val (.int p2)] [(.int p2)])
  refine Go.to (fun _ => XS.aloadN X0.here hx rfl (hb hby d4_1) rfl rfl) ?_
  show Go p e below _ s₁ (mkF m 2 #[.val (.ref t), .val (.int p2)] [(.ref t), (.int p2)])
  refine Go.alen X0 hx hZ e0 A (hb hby d4_2) ?_
  show Go p e below _ s₁ (mkF m 3 #[.val (.ref t), .val (.int p2)] [(.int (bs.length.toInt32)), (.int p2)])
  refine Go.callS (y := (⟨"java/lang/String", "checkIndex", "(II)V"⟩ : MethodName)) X0 hx hZ hown (hw _ (List.mem_of_getElem? (i := 30) rfl)) (hw _ (List.mem_of_getElem? (i := 31) rfl)) (hw _ (List.mem_of_getElem? (i := 5) rfl)) (hw _ (List.mem_of_getElem? (i := 32) rfl)) (by decide) (rm5 l Z a0 hw [] p2 (bs.length.toInt32) h0 h1 h2 fm rfm S2) e0 (by rw [hml]; rfl) (pd_5) rfl (argsL := [(.int p2), (.int (bs.length.toInt32))]) (rest := []) rfl rfl (hb hby d4_3) (by decide) (Nat.le_of_ble_eq_true rfl) (by decide) (by decide) ?_
  rintro T1 _ L1 X1 ⟨rfl, e1, rfl⟩
  simp only [List.append_nil] at X1
  show Go p e below _ T1 (mkF m 6 #[.val (.ref t), .val (.int p2)] [])
  refine Go.to (fun _ => XS.aloadN X1.here hx rfl (hb hby d4_6) rfl rfl) ?_
  show Go p e below _ T1 (mkF m 7 #[.val (.ref t), .val (.int p2)] [(.ref t)])
  refine Go.to (fun _ => XS.iloadN X1.here hx rfl (hb hby d4_7) rfl) ?_
  show Go p e below _ T1 (mkF m 8 #[.val (.ref t), .val (.int p2)] [(.int p2), (.ref t)])
  refine Go.baload X1 hx hZ e1 A hr (hb hby d4_8) ?_
  show Go p e below _ T1 (mkF m 9 #[.val (.ref t), .val (.int p2)] [(.int bv)])
  refine Go.to (fun _ => XS.sipush X1.here hx rfl (hb hby d4_9)) ?_
  show Go p e below _ T1 (mkF m 12 #[.val (.ref t), .val (.int p2)] [(.int (255 : Int32)), (.int bv)])
  refine Go.to (fun _ => XS.iand X1.here hx rfl (hb hby d4_12) rfl) ?_
  show Go p e below _ T1 (mkF m 13 #[.val (.ref t), .val (.int p2)] [(.int (bv &&& (255 : Int32)))])
  refine Go.to (fun _ => XS.i2c X1.here hx rfl (hb hby d4_13) rfl) ?_
  show Go p e below _ T1 (mkF m 14 #[.val (.ref t), .val (.int p2)] [(.int ((bv &&& (255 : Int32)).toUInt32.toUInt16.toUInt32.toInt32))])
  rw [hv]
  rw [hK]
  exact Go.retW X1 hx hlk hret hn (Or.inl ⟨rfl, by simp, _, rfl⟩) (hb hby d4_14) ⟨rfl, e1, rfl⟩ (by decide) (by decide)
theorem d2_0 : decode jdk_42_method_56_code 0 = .ok (.aload_n 0, 1) := by decide +kernel
theorem d2_1 : decode jdk_42_method_56_code 1 = .ok (.invokevirtual 492, 3) := by decide +kernel
theorem d2_4 : decode jdk_42_method_56_code 4 = .ok (.ifCond .eq 12, 3) := by decide +kernel
theorem d2_7 : decode jdk_42_method_56_code 7 = .ok (.aload_n 0, 1) := by decide +kernel
theorem d2_8 : decode jdk_42_method_56_code 8 = .ok (.getfield 9, 3) := by decide +kernel
theorem d2_11 : decode jdk_42_method_56_code 11 = .ok (.iload_n 1, 1) := by decide +kernel
theorem d2_12 : decode jdk_42_method_56_code 12 = .ok (.invokestatic 495, 3) := by decide +kernel
theorem d2_15 : decode jdk_42_method_56_code 15 = .ok (.ireturn, 1) := by decide +kernel
theorem ef_rm2 (m : MethodId) (a1 : Addr) (p2 : Int32) : entryFrame m #[(.ref a1), (.int p2)] 2 = mkF m 0 #[.val (.ref a1), .val (.int p2)] [] := by first | (simp [entryFrame, mkF, argsToLocals, Value.category]; done) | rfl
set_option maxHeartbeats 40000000 in
theorem rm2 (l : Launch) (Z : State) (a0 : Array Value) (hw : ∀ d ∈ tables_1, d.before a0 Z = true) (ws : List Jvm.Cond) (a1 : Addr) (p2 : Int32) (h0 : Heap) (t : Addr) (bs : List Int32) (E : Exa Z h0 a1 "java/lang/String") (V : Fld Z h0 a1 "java/lang/String" "value" "[B" (.ref t)) (C : Fld Z h0 a1 "java/lang/String" "coder" "B" (.int 0)) (A : AV Z h0 t .byte bs) (z : Int32) (S1 : Sta Z h0 "java/lang/String" "COMPACT_STRINGS" "Z" (.int z)) (hz : ¬ z = 0) (h1 : ¬ p2 < (0 : Int32)) (h2 : p2 < (bs.length.toInt32)) (fm : Value) (rfm : fm.isRef = true) (S2 : Sta Z h0 "jdk/internal/util/Preconditions" "SIOOBE_FORMATTER" "Ljava/util/function/BiFunction;" fm) (bv r : Int32) (hr : rdL bs p2 = some bv) (hv : ((bv &&& (255 : Int32)).toUInt32.toUInt16.toUInt32.toInt32) = r) (hn : narrow .char (.int r) = .int r) :
    Met1 l Z (⟨"java/lang/String", "charAt", "(I)C"⟩ : MethodName) jdk_42_method_56_code 2 (some .char) ws ({ frames := 3, cells := 0, slots := 0, locals := 40 } : Room) #[(.ref a1), (.int p2)] h0 (QP (.int r) h0) := by
  refine metOf (by first | exact plainFor_of_name (by first | (simp [plainName, overriddenIn]; done) | decide +kernel) | decide +kernel) ?_
  intro p e s m below meth c s₁ hx hby hml hown hnm hret hlk hZ X0 e0
  have hown : s.vm.findClass "java/lang/String" = some m.cls := hown
  obtain ⟨K, hK⟩ : ∃ K, K = KQ s (QP (.int r) h0) (({ frames := 3, cells := 0, slots := 0, locals := 40 } : Room)).cells (({ frames := 3, cells := 0, slots := 0, locals := 40 } : Room)).slots := ⟨_, rfl⟩
  show Go p e below (KQ s (QP (.int r) h0) (({ frames := 3, cells := 0, slots := 0, locals := 40 } : Room)).cells (({ frames := 3, cells := 0, slots := 0, locals := 40 } : Room)).slots) s₁ (entryFrame m #[(.ref a1), (.int p2)] 2)
  rw [← hK, ef_rm2 m a1 p2]
  show Go p e below _ s₁ (mkF m 0 #[.val (.ref a1), .val (.int p2)] [])
  refine Go.to (fun _ => XS.aloadN X0.here hx rfl (hb hby d2_0) rfl rfl) ?_
  show Go p e below _ s₁ (mkF m 1 #[.val (.ref a1), .val (.int p2)] [(.ref a1)])
  refine Go.callV (y := (⟨"java/lang/String", "isLatin1", "()Z"⟩ : MethodName)) X0 hx hZ hown (hw _ (List.mem_of_getElem? (i := 18) rfl)) (hw _ (List.mem_of_getElem? (i := 19) rfl)) (hw _ (List.mem_of_getElem? (i := 21) rfl)) (hw _ (List.mem_of_getElem? (i := 20) rfl)) (hw _ (List.mem_of_getElem? (i := 5) rfl)) (hw _ (List.mem_of_getElem? (i := 22) rfl)) (by decide) (rm3 l Z a0 hw [] a1 h0 C z S1 hz) e0 E (by rw [hml]; rfl) (pd_0) rfl (argsL := []) (rest := []) rfl rfl (hb hby d2_1) (by decide) (Nat.le_of_ble_eq_true rfl) (by decide) (by decide) ?_
  rintro T1 _ L1 X1 ⟨rfl, e1, rfl⟩
  simp only [List.append_nil] at X1
  show Go p e below _ T1 (mkF m 4 #[.val (.ref a1), .val (.int p2)] [(.int (1 : Int32))])
  refine Go.to (fun _ => XS.ifNo X1.here hx rfl (hb hby d2_4) rfl ((if0 _ _).trans (feq (by decide)).1)) ?_
  show Go p e below _ T1 (mkF m 7 #[.val (.ref a1), .val (.int p2)] [])
  refine Go.to (fun _ => XS.aloadN X1.here hx rfl (hb hby d2_7) rfl rfl) ?_
  show Go p e below _ T1 (mkF m 8 #[.val (.ref a1), .val (.int p2)] [(.ref a1)])
  obtain ⟨T2, X2, e2, st2⟩ := getF X1 hx hZ hown (host := "") (Or.inl (hw _ (List.mem_of_getElem? (i := 25) rfl))) Via.refl e1 V (g := (mkF m 8 #[.val (.ref a1), .val (.int p2)] [(.ref a1)])) rfl rfl (hb hby d2_8)
  refine Go.to st2 ?_
  show Go p e below _ T2 (mkF m 11 #[.val (.ref a1), .val (.int p2)] [(.ref t)])
  refine Go.to (fun _ => XS.iloadN X2.here hx rfl (hb hby d2_11) rfl) ?_
  show Go p e below _ T2 (mkF m 12 #[.val (.ref a1), .val (.int p2)] [(.int p2), (.ref t)])
  refine Go.callS (y := (⟨"java/lang/StringLatin1", "charAt", "([BI)C"⟩ : MethodName)) X2 hx hZ hown (hw _ (List.mem_of_getElem? (i := 26) rfl)) (hw _ (List.mem_of_getElem? (i := 27) rfl)) (hw _ (List.mem_of_getElem? (i := 28) rfl)) (hw _ (List.mem_of_getElem? (i := 29) rfl)) (by decide) (rm4 l Z a0 hw [] t p2 h0 bs A h1 h2 fm rfm S2 bv r hr hv hn) e2 (by rw [hml]; rfl) (pd_4) rfl (argsL := [(.ref t), (.int p2)]) (rest := []) rfl rfl (hb hby d2_12) (by decide) (Nat.le_of_ble_eq_true rfl) (by decide) (by decide) ?_
  rintro T3 _ L3 X3 ⟨rfl, e3, rfl⟩
  simp only [List.append_nil] at X3
  show Go p e below _ T3 (mkF m 15 #[.val (.ref a1), .val (.int p2)] [(.int r)])
  rw [hK]
  exact Go.retW X3 hx hlk hret hn (Or.inl ⟨rfl, by simp, _, rfl⟩) (hb hby d2_15) ⟨rfl, e3, rfl⟩ (by decide) (by decide)
theorem d7_0 : decode jdk_42_method_54_code 0 = .ok (.aload_n 0, 1) := by decide +kernel
theorem d7_1 : decode jdk_42_method_54_code 1 = .ok (.getfield 9, 3) := by decide +kernel
theorem d7_4 : decode jdk_42_method_54_code 4 = .ok (.arraylength, 1) := by decide +kernel
theorem d7_5 : decode jdk_42_method_54_code 5 = .ok (.aload_n 0, 1) := by decide +kernel
theorem d7_6 : decode jdk_42_method_54_code 6 = .ok (.invokevirtual 335, 3) := by decide +kernel
theorem d7_9 : decode jdk_42_method_54_code 9 = .ok (.ishr, 1) := by decide +kernel
theorem d7_10 : decode jdk_42_method_54_code 10 = .ok (.ireturn, 1) := by decide +kernel
theorem ef_rm7 (m : MethodId) (a1 : Addr) : entryFrame m #[(.ref a1)] 1 = mkF m 0 #[.val (.ref a1)] [] := by first | (simp [entryFrame, mkF, argsToLocals, Value.category]; done) | rfl
set_option maxHeartbeats 40000000 in
theorem rm7 (l : Launch) (Z : State) (a0 : Array Value) (hw : ∀ d ∈ tables_1, d.before a0 Z = true) (ws : List Jvm.Cond) (a1 : Addr) (h0 : Heap) (t : Addr) (bs : List Int32) (E : Exa Z h0 a1 "java/lang/String") (V : Fld Z h0 a1 "java/lang/String" "value" "[B" (.ref t)) (C : Fld Z h0 a1 "java/lang/String" "coder" "B" (.int 0)) (A : AV Z h0 t .byte bs) (z : Int32) (S1 : Sta Z h0 "java/lang/String" "COMPACT_STRINGS" "Z" (.int z)) (hz : ¬ z = 0) (r : Int32) (hr : ((bs.length.toInt32) >>> ((0 : Int32) &&& 31)) = r) :
    Met1 l Z (⟨"java/lang/String", "length", "()I"⟩ : MethodName) jdk_42_method_54_code 1 (some .int) ws ({ frames := 1, cells := 0, slots := 0, locals := 13 } : Room) #[(.ref a1)] h0 (QP (.int r) h0) := by
  refine metOf (by first | exact plainFor_of_name (by first | (simp [plainName, overriddenIn]; done) | decide +kernel) | decide +kernel) ?_
  intro p e s m below meth c s₁ hx hby hml hown hnm hret hlk hZ X0 e0
  have hown : s.vm.findClass "java/lang/String" = some m.cls := hown
  obtain ⟨K, hK⟩ : ∃ K, K = KQ s (QP (.int r) h0) (({ frames := 1, cells := 0, slots := 0, locals := 13 } : Room)).cells (({ frames := 1, cells := 0, slots := 0, locals := 13 } : Room)).slots := ⟨_, rfl⟩
  show Go p e below (KQ s (QP (.int r) h0) (({ frames := 1, cells := 0, slots := 0, locals := 13 } : Room)).cells (({ frames := 1, cells := 0, slots := 0, locals := 13 } : Room)).slots) s₁ (entryFrame m #[(.ref a1)] 1)
  rw [← hK, ef_rm7 m a1]
  show Go p e below _ s₁ (mkF m 0 #[.val (.ref a1)] [])
  refine Go.to (fun _ => XS.aloadN X0.here hx rfl (hb hby d7_0) rfl rfl) ?_
  show Go p e below _ s₁ (mkF m 1 #[.val (.ref a1)] [(.ref a1)])
  obtain ⟨T1, X1, e1, st1⟩ := getF X0 hx hZ hown (host := "") (Or.inl (hw _ (List.mem_of_getElem? (i := 25) rfl))) Via.refl e0 V (g := (mkF m 1 #[.val (.ref a1)] [(.ref a1)])) rfl rfl (hb hby d7_1)
  refine Go.to st1 ?_
  show Go p e below _ T1 (mkF m 4 #[.val (.ref a1)] [(.ref t)])
  refine Go.alen X1 hx hZ e1 A (hb hby d7_4) ?_
  show Go p e below _ T1 (mkF m 5 #[.val (.ref a1)] [(.int (bs.length.toInt32))])
  refine Go.to (fun _ => XS.aloadN X1.here hx rfl (hb hby d7_5) rfl rfl) ?_
  show Go p e below _ T1 (mkF m 6 #[.val (.ref a1)] [(.ref a1), (.int (bs.length.toInt32))])
  refine Go.callV (y := (⟨"java/lang/String", "coder", "()B"⟩ : MethodName)) X1 hx hZ hown (hw _ (List.mem_of_getElem? (i := 43) rfl)) (hw _ (List.mem_of_getElem? (i := 44) rfl)) (hw _ (List.mem_of_getElem? (i := 46) rfl)) (hw _ (List.mem_of_getElem? (i := 45) rfl)) (hw _ (List.mem_of_getElem? (i := 5) rfl)) (hw _ (List.mem_of_getElem? (i := 47) rfl)) (by decide) (rm8 l Z a0 hw [] a1 h0 C z S1 hz) e1 E (by rw [hml]; rfl) (pd_1) rfl (argsL := []) (rest := [(.int (bs.length.toInt32))]) rfl rfl (hb hby d7_6) (by decide) (Nat.le_of_ble_eq_true rfl) (by decide) (by decide) ?_
  rintro T2 _ L2 X2 ⟨rfl, e2, rfl⟩
  simp only [List.append_nil] at X2
  show Go p e below _ T2 (mkF m 9 #[.val (.ref a1)] [(.int (0 : Int32)), (.int (bs.length.toInt32))])
  refine Go.to (fun _ => XS.ishr X2.here hx rfl (hb hby d7_9) rfl) ?_
  show Go p e below _ T2 (mkF m 10 #[.val (.ref a1)] [(.int ((bs.length.toInt32) >>> ((0 : Int32) &&& 31)))])
  rw [hK]
  exact Go.retI X2 hx hlk hret (hb hby d7_10) ⟨by rw [hr], e2, rfl⟩ (by decide) (by decide)
theorem own_ew {Z : State} {a0 : Array Value} (hw : ∀ d ∈ tables_1, d.before a0 Z = true) : EW Z a0 consts_1 := (EW.cons (hw _ (List.mem_of_getElem? (i := 54) rfl)) (by decide +kernel) (EW.cons (hw _ (List.mem_of_getElem? (i := 50) rfl)) (by decide +kernel) (EW.cons (hw _ (List.mem_of_getElem? (i := 48) rfl)) (by decide +kernel) (EW.cons (hw _ (List.mem_of_getElem? (i := 49) rfl)) (by decide +kernel) (EW.cons (hw _ (List.mem_of_getElem? (i := 4) rfl)) (by decide +kernel) (EW.cons (hw _ (List.mem_of_getElem? (i := 53) rfl)) (by decide +kernel) (EW.cons (hw _ (List.mem_of_getElem? (i := 51) rfl)) (by decide +kernel) (EW.cons (hw _ (List.mem_of_getElem? (i := 52) rfl)) (by decide +kernel) (EW.cons (hw _ (List.mem_of_getElem? (i := 12) rfl)) (by decide +kernel) EW.nil)))))))))
theorem own_sa {Z : State} {a0 : Array Value} (hw : ∀ d ∈ tables_1, d.before a0 Z = true) : ∀ a ∈ Bundle.stringAtoms, a.before a0 Z = true := by
  intro a ha
  simp only [Bundle.stringAtoms, List.mem_cons, List.not_mem_nil, or_false] at ha
  rcases ha with rfl | rfl | rfl | rfl | rfl | rfl | rfl
  · exact (hw _ (List.mem_of_getElem? (i := 5) rfl))
  · exact (hw _ (List.mem_of_getElem? (i := 6) rfl))
  · exact (hw _ (List.mem_of_getElem? (i := 7) rfl))
  · exact (hw _ (List.mem_of_getElem? (i := 8) rfl))
  · exact (hw _ (List.mem_of_getElem? (i := 9) rfl))
  · exact (hw _ (List.mem_of_getElem? (i := 10) rfl))
  · exact (hw _ (List.mem_of_getElem? (i := 11) rfl))
theorem d1_0 : decode prog_12_method_7_code 0 = .ok (.iload_n 0, 1) := by decide +kernel
theorem d1_1 : decode prog_12_method_7_code 1 = .ok (.tableswitch 87 4 11 #[47, 52, 57, 62, 67, 72, 77, 82], 47) := by decide +kernel
theorem d1_48 : decode prog_12_method_7_code 48 = .ok (.ldc 32, 2) := by decide +kernel
theorem d1_50 : decode prog_12_method_7_code 50 = .ok (.goto 39, 3) := by decide +kernel
theorem d1_53 : decode prog_12_method_7_code 53 = .ok (.ldc 34, 2) := by decide +kernel
theorem d1_55 : decode prog_12_method_7_code 55 = .ok (.goto 34, 3) := by decide +kernel
theorem d1_58 : decode prog_12_method_7_code 58 = .ok (.ldc 36, 2) := by decide +kernel
theorem d1_60 : decode prog_12_method_7_code 60 = .ok (.goto 29, 3) := by decide +kernel
theorem d1_63 : decode prog_12_method_7_code 63 = .ok (.ldc 38, 2) := by decide +kernel
theorem d1_65 : decode prog_12_method_7_code 65 = .ok (.goto 24, 3) := by decide +kernel
theorem d1_68 : decode prog_12_method_7_code 68 = .ok (.ldc 40, 2) := by decide +kernel
theorem d1_70 : decode prog_12_method_7_code 70 = .ok (.goto 19, 3) := by decide +kernel
theorem d1_73 : decode prog_12_method_7_code 73 = .ok (.ldc 42, 2) := by decide +kernel
theorem d1_75 : decode prog_12_method_7_code 75 = .ok (.goto 14, 3) := by decide +kernel
theorem d1_78 : decode prog_12_method_7_code 78 = .ok (.ldc 44, 2) := by decide +kernel
theorem d1_80 : decode prog_12_method_7_code 80 = .ok (.goto 9, 3) := by decide +kernel
theorem d1_83 : decode prog_12_method_7_code 83 = .ok (.ldc 45, 2) := by decide +kernel
theorem d1_85 : decode prog_12_method_7_code 85 = .ok (.goto 4, 3) := by decide +kernel
theorem d1_88 : decode prog_12_method_7_code 88 = .ok (.aconst_null, 1) := by decide +kernel
theorem d1_89 : decode prog_12_method_7_code 89 = .ok (.areturn, 1) := by decide +kernel
theorem ef_rm1_4 (m : MethodId)  : entryFrame m #[(.int (4 : Int32))] 1 = mkF m 0 #[.val (.int (4 : Int32))] [] := by first | (simp [entryFrame, mkF, argsToLocals, Value.category]; done) | rfl
set_option maxHeartbeats 40000000 in
theorem rm1_4 (l : Launch) (Z : State) (a0 : Array Value) (hw : ∀ d ∈ tables_1, d.before a0 Z = true) (ws : List Jvm.Cond)  (h0 : Heap)  :
    MetW l Z consts_1 (⟨"oakwell/classfile/Bytecode", "newarrayType", "(I)Ljava/lang/String;"⟩ : MethodName) prog_12_method_7_code 1 (some (.object "java/lang/String")) ws ({ frames := 0, cells := 2, slots := 12, locals := 0 } : Room) #[(.int (4 : Int32))] h0 (fun v h L => L = [] ∧ Ext h0 h ∧ ∃ (a b : Addr) (k : ClassId), v = some (.ref a) ∧ Exa Z h a "java/lang/String" ∧ Fld Z h a "java/lang/String" "coder" "B" (.int 0) ∧ Fld Z h a "java/lang/String" "value" "[B" (.ref b) ∧ Arv Z h b k .byte 2 [.int 91, .int 90] (.int 0)) := by
  refine metOfW (by first | exact plainFor_of_name (by first | (simp [plainName, overriddenIn]; done) | decide +kernel) | decide +kernel) ?_
  intro p e s m below meth c s₁ hx hby hml hown hnm hret hlk hZ X0 e0 e00 H0
  have hown : s.vm.findClass "oakwell/classfile/Bytecode" = some m.cls := hown
  obtain ⟨K, hK⟩ : ∃ K, K = KW Z consts_1 s (fun v h L => L = [] ∧ Ext h0 h ∧ ∃ (a b : Addr) (k : ClassId), v = some (.ref a) ∧ Exa Z h a "java/lang/String" ∧ Fld Z h a "java/lang/String" "coder" "B" (.int 0) ∧ Fld Z h a "java/lang/String" "value" "[B" (.ref b) ∧ Arv Z h b k .byte 2 [.int 91, .int 90] (.int 0)) (({ frames := 0, cells := 2, slots := 12, locals := 0 } : Room)).cells (({ frames := 0, cells := 2, slots := 12, locals := 0 } : Room)).slots := ⟨_, rfl⟩
  show Go p e below (KW Z consts_1 s (fun v h L => L = [] ∧ Ext h0 h ∧ ∃ (a b : Addr) (k : ClassId), v = some (.ref a) ∧ Exa Z h a "java/lang/String" ∧ Fld Z h a "java/lang/String" "coder" "B" (.int 0) ∧ Fld Z h a "java/lang/String" "value" "[B" (.ref b) ∧ Arv Z h b k .byte 2 [.int 91, .int 90] (.int 0)) (({ frames := 0, cells := 2, slots := 12, locals := 0 } : Room)).cells (({ frames := 0, cells := 2, slots := 12, locals := 0 } : Room)).slots) s₁ (entryFrame m #[(.int (4 : Int32))] 1)
  rw [← hK, ef_rm1_4 m]
  show Go p e below _ s₁ (mkF m 0 #[.val (.int (4 : Int32))] [])
  refine Go.to (fun _ => XS.iloadN X0.here hx rfl (hb hby d1_0) rfl) ?_
  show Go p e below _ s₁ (mkF m 1 #[.val (.int (4 : Int32))] [(.int (4 : Int32))])
  have f1 : ¬ ((4 : Int32).toInt < 4 ∨ (4 : Int32).toInt > 11) := by decide +kernel
  have f2 : (#[47, 52, 57, 62, 67, 72, 77, 82] : Array Int)[((4 : Int32).toInt - 4).toNat]? = some 47 := by decide +kernel
  refine Go.to (fun _ q => XS.tswIn (g := (mkF m 1 #[.val (.int (4 : Int32))] [(.int (4 : Int32))])) (i := (4 : Int32)) (rest := []) X0.here hx rfl (pc0 := 1) (pc' := 48) rfl (hb hby d1_1) rfl f1 f2 (by decide) (by decide) q) ?_
  show Go p e below _ s₁ (mkF m 48 #[.val (.int (4 : Int32))] [])
  obtain ⟨a9, T9, h9, k9, b9, c9, X9, e9, E9, S9, g9, hZ9, hown9, q1, q2, q3, q4, -, -, C9, -, -, st9⟩ := ldcCH (s := s) (vm0 := s.vm) X0 hx hZ hown (hw _ (List.mem_of_getElem? (i := 54) rfl)) (own_sa hw) e0 ((State.WarmedH.refl s).since _) (Nat.le_refl _) (own_ew hw) (by decide +kernel) H0 (vs := [.int 91, .int 90]) (z := 2) (by decide +kernel) (by decide) (by decide) (g := (mkF m 48 #[.val (.int (4 : Int32))] [])) rfl (hb hby d1_48) (n := 8) (by decide +kernel) (by decide) (by decide) (by decide)
  refine Go.to st9 ?_
  show Go p e below _ T9 (mkF m 50 #[.val (.int (4 : Int32))] [(.ref a9)])
  refine Go.to (fun _ => XS.goto X9.here hx rfl (pc0 := 50) (pc' := 89) rfl (hb hby d1_50) (by decide) (by decide)) ?_
  show Go p e below _ T9 (mkF m 89 #[.val (.int (4 : Int32))] [(.ref a9)])
  rw [hK]
  exact Go.retWW X9 hx hlk S9 (e9 ▸ g9) hret rfl (Or.inr (Or.inr (Or.inr (Or.inr ⟨rfl, rfl, rfl⟩)))) (hb hby d1_89) (e9 ▸ ⟨rfl, E9, a9, b9, c9, rfl, q1, q2, q3, q4⟩) (by rw [e00, e9]; exact C9) (by decide) (by decide)

theorem ef_rm1_5 (m : MethodId)  : entryFrame m #[(.int (5 : Int32))] 1 = mkF m 0 #[.val (.int (5 : Int32))] [] := by first | (simp [entryFrame, mkF, argsToLocals, Value.category]; done) | rfl
set_option maxHeartbeats 40000000 in
theorem rm1_5 (l : Launch) (Z : State) (a0 : Array Value) (hw : ∀ d ∈ tables_1, d.before a0 Z = true) (ws : List Jvm.Cond)  (h0 : Heap)  :
    MetW l Z consts_1 (⟨"oakwell/classfile/Bytecode", "newarrayType", "(I)Ljava/lang/String;"⟩ : MethodName) prog_12_method_7_code 1 (some (.object "java/lang/String")) ws ({ frames := 0, cells := 2, slots := 12, locals := 0 } : Room) #[(.int (5 : Int32))] h0 (fun v h L => L = [] ∧ Ext h0 h ∧ ∃ (a b : Addr) (k : ClassId), v = some (.ref a) ∧ Exa Z h a "java/lang/String" ∧ Fld Z h a "java/lang/String" "coder" "B" (.int 0) ∧ Fld Z h a "java/lang/String" "value" "[B" (.ref b) ∧ Arv Z h b k .byte 2 [.int 91, .int 67] (.int 0)) := by
  refine metOfW (by first | exact plainFor_of_name (by first | (simp [plainName, overriddenIn]; done) | decide +kernel) | decide +kernel) ?_
  intro p e s m below meth c s₁ hx hby hml hown hnm hret hlk hZ X0 e0 e00 H0
  have hown : s.vm.findClass "oakwell/classfile/Bytecode" = some m.cls := hown
  obtain ⟨K, hK⟩ : ∃ K, K = KW Z consts_1 s (fun v h L => L = [] ∧ Ext h0 h ∧ ∃ (a b : Addr) (k : ClassId), v = some (.ref a) ∧ Exa Z h a "java/lang/String" ∧ Fld Z h a "java/lang/String" "coder" "B" (.int 0) ∧ Fld Z h a "java/lang/String" "value" "[B" (.ref b) ∧ Arv Z h b k .byte 2 [.int 91, .int 67] (.int 0)) (({ frames := 0, cells := 2, slots := 12, locals := 0 } : Room)).cells (({ frames := 0, cells := 2, slots := 12, locals := 0 } : Room)).slots := ⟨_, rfl⟩
  show Go p e below (KW Z consts_1 s (fun v h L => L = [] ∧ Ext h0 h ∧ ∃ (a b : Addr) (k : ClassId), v = some (.ref a) ∧ Exa Z h a "java/lang/String" ∧ Fld Z h a "java/lang/String" "coder" "B" (.int 0) ∧ Fld Z h a "java/lang/String" "value" "[B" (.ref b) ∧ Arv Z h b k .byte 2 [.int 91, .int 67] (.int 0)) (({ frames := 0, cells := 2, slots := 12, locals := 0 } : Room)).cells (({ frames := 0, cells := 2, slots := 12, locals := 0 } : Room)).slots) s₁ (entryFrame m #[(.int (5 : Int32))] 1)
  rw [← hK, ef_rm1_5 m]
  show Go p e below _ s₁ (mkF m 0 #[.val (.int (5 : Int32))] [])
  refine Go.to (fun _ => XS.iloadN X0.here hx rfl (hb hby d1_0) rfl) ?_
  show Go p e below _ s₁ (mkF m 1 #[.val (.int (5 : Int32))] [(.int (5 : Int32))])
  have f1 : ¬ ((5 : Int32).toInt < 4 ∨ (5 : Int32).toInt > 11) := by decide +kernel
  have f2 : (#[47, 52, 57, 62, 67, 72, 77, 82] : Array Int)[((5 : Int32).toInt - 4).toNat]? = some 52 := by decide +kernel
  refine Go.to (fun _ q => XS.tswIn (g := (mkF m 1 #[.val (.int (5 : Int32))] [(.int (5 : Int32))])) (i := (5 : Int32)) (rest := []) X0.here hx rfl (pc0 := 1) (pc' := 53) rfl (hb hby d1_1) rfl f1 f2 (by decide) (by decide) q) ?_
  show Go p e below _ s₁ (mkF m 53 #[.val (.int (5 : Int32))] [])
  obtain ⟨a9, T9, h9, k9, b9, c9, X9, e9, E9, S9, g9, hZ9, hown9, q1, q2, q3, q4, -, -, C9, -, -, st9⟩ := ldcCH (s := s) (vm0 := s.vm) X0 hx hZ hown (hw _ (List.mem_of_getElem? (i := 50) rfl)) (own_sa hw) e0 ((State.WarmedH.refl s).since _) (Nat.le_refl _) (own_ew hw) (by decide +kernel) H0 (vs := [.int 91, .int 67]) (z := 2) (by decide +kernel) (by decide) (by decide) (g := (mkF m 53 #[.val (.int (5 : Int32))] [])) rfl (hb hby d1_53) (n := 8) (by decide +kernel) (by decide) (by decide) (by decide)
  refine Go.to st9 ?_
  show Go p e below _ T9 (mkF m 55 #[.val (.int (5 : Int32))] [(.ref a9)])
  refine Go.to (fun _ => XS.goto X9.here hx rfl (pc0 := 55) (pc' := 89) rfl (hb hby d1_55) (by decide) (by decide)) ?_
  show Go p e below _ T9 (mkF m 89 #[.val (.int (5 : Int32))] [(.ref a9)])
  rw [hK]
  exact Go.retWW X9 hx hlk S9 (e9 ▸ g9) hret rfl (Or.inr (Or.inr (Or.inr (Or.inr ⟨rfl, rfl, rfl⟩)))) (hb hby d1_89) (e9 ▸ ⟨rfl, E9, a9, b9, c9, rfl, q1, q2, q3, q4⟩) (by rw [e00, e9]; exact C9) (by decide) (by decide)

theorem ef_rm1_6 (m : MethodId)  : entryFrame m #[(.int (6 : Int32))] 1 = mkF m 0 #[.val (.int (6 : Int32))] [] := by first | (simp [entryFrame, mkF, argsToLocals, Value.category]; done) | rfl
set_option maxHeartbeats 40000000 in
theorem rm1_6 (l : Launch) (Z : State) (a0 : Array Value) (hw : ∀ d ∈ tables_1, d.before a0 Z = true) (ws : List Jvm.Cond)  (h0 : Heap)  :
    MetW l Z consts_1 (⟨"oakwell/classfile/Bytecode", "newarrayType", "(I)Ljava/lang/String;"⟩ : MethodName) prog_12_method_7_code 1 (some (.object "java/lang/String")) ws ({ frames := 0, cells := 2, slots := 12, locals := 0 } : Room) #[(.int (6 : Int32))] h0 (fun v h L => L = [] ∧ Ext h0 h ∧ ∃ (a b : Addr) (k : ClassId), v = some (.ref a) ∧ Exa Z h a "java/lang/String" ∧ Fld Z h a "java/lang/String" "coder" "B" (.int 0) ∧ Fld Z h a "java/lang/String" "value" "[B" (.ref b) ∧ Arv Z h b k .byte 2 [.int 91, .int 70] (.int 0)) := by
  refine metOfW (by first | exact plainFor_of_name (by first | (simp [plainName, overriddenIn]; done) | decide +kernel) | decide +kernel) ?_
  intro p e s m below meth c s₁ hx hby hml hown hnm hret hlk hZ X0 e0 e00 H0
  have hown : s.vm.findClass "oakwell/classfile/Bytecode" = some m.cls := hown
  obtain ⟨K, hK⟩ : ∃ K, K = KW Z consts_1 s (fun v h L => L = [] ∧ Ext h0 h ∧ ∃ (a b : Addr) (k : ClassId), v = some (.ref a) ∧ Exa Z h a "java/lang/String" ∧ Fld Z h a "java/lang/String" "coder" "B" (.int 0) ∧ Fld Z h a "java/lang/String" "value" "[B" (.ref b) ∧ Arv Z h b k .byte 2 [.int 91, .int 70] (.int 0)) (({ frames := 0, cells := 2, slots := 12, locals := 0 } : Room)).cells (({ frames := 0, cells := 2, slots := 12, locals := 0 } : Room)).slots := ⟨_, rfl⟩
  show Go p e below (KW Z consts_1 s (fun v h L => L = [] ∧ Ext h0 h ∧ ∃ (a b : Addr) (k : ClassId), v = some (.ref a) ∧ Exa Z h a "java/lang/String" ∧ Fld Z h a "java/lang/String" "coder" "B" (.int 0) ∧ Fld Z h a "java/lang/String" "value" "[B" (.ref b) ∧ Arv Z h b k .byte 2 [.int 91, .int 70] (.int 0)) (({ frames := 0, cells := 2, slots := 12, locals := 0 } : Room)).cells (({ frames := 0, cells := 2, slots := 12, locals := 0 } : Room)).slots) s₁ (entryFrame m #[(.int (6 : Int32))] 1)
  rw [← hK, ef_rm1_6 m]
  show Go p e below _ s₁ (mkF m 0 #[.val (.int (6 : Int32))] [])
  refine Go.to (fun _ => XS.iloadN X0.here hx rfl (hb hby d1_0) rfl) ?_
  show Go p e below _ s₁ (mkF m 1 #[.val (.int (6 : Int32))] [(.int (6 : Int32))])
  have f1 : ¬ ((6 : Int32).toInt < 4 ∨ (6 : Int32).toInt > 11) := by decide +kernel
  have f2 : (#[47, 52, 57, 62, 67, 72, 77, 82] : Array Int)[((6 : Int32).toInt - 4).toNat]? = some 57 := by decide +kernel
  refine Go.to (fun _ q => XS.tswIn (g := (mkF m 1 #[.val (.int (6 : Int32))] [(.int (6 : Int32))])) (i := (6 : Int32)) (rest := []) X0.here hx rfl (pc0 := 1) (pc' := 58) rfl (hb hby d1_1) rfl f1 f2 (by decide) (by decide) q) ?_
  show Go p e below _ s₁ (mkF m 58 #[.val (.int (6 : Int32))] [])
  obtain ⟨a9, T9, h9, k9, b9, c9, X9, e9, E9, S9, g9, hZ9, hown9, q1, q2, q3, q4, -, -, C9, -, -, st9⟩ := ldcCH (s := s) (vm0 := s.vm) X0 hx hZ hown (hw _ (List.mem_of_getElem? (i := 48) rfl)) (own_sa hw) e0 ((State.WarmedH.refl s).since _) (Nat.le_refl _) (own_ew hw) (by decide +kernel) H0 (vs := [.int 91, .int 70]) (z := 2) (by decide +kernel) (by decide) (by decide) (g := (mkF m 58 #[.val (.int (6 : Int32))] [])) rfl (hb hby d1_58) (n := 8) (by decide +kernel) (by decide) (by decide) (by decide)
  refine Go.to st9 ?_
  show Go p e below _ T9 (mkF m 60 #[.val (.int (6 : Int32))] [(.ref a9)])
  refine Go.to (fun _ => XS.goto X9.here hx rfl (pc0 := 60) (pc' := 89) rfl (hb hby d1_60) (by decide) (by decide)) ?_
  show Go p e below _ T9 (mkF m 89 #[.val (.int (6 : Int32))] [(.ref a9)])
  rw [hK]
  exact Go.retWW X9 hx hlk S9 (e9 ▸ g9) hret rfl (Or.inr (Or.inr (Or.inr (Or.inr ⟨rfl, rfl, rfl⟩)))) (hb hby d1_89) (e9 ▸ ⟨rfl, E9, a9, b9, c9, rfl, q1, q2, q3, q4⟩) (by rw [e00, e9]; exact C9) (by decide) (by decide)

theorem ef_rm1_7 (m : MethodId)  : entryFrame m #[(.int (7 : Int32))] 1 = mkF m 0 #[.val (.int (7 : Int32))] [] := by first | (simp [entryFrame, mkF, argsToLocals, Value.category]; done) | rfl
set_option maxHeartbeats 40000000 in
theorem rm1_7 (l : Launch) (Z : State) (a0 : Array Value) (hw : ∀ d ∈ tables_1, d.before a0 Z = true) (ws : List Jvm.Cond)  (h0 : Heap)  :
    MetW l Z consts_1 (⟨"oakwell/classfile/Bytecode", "newarrayType", "(I)Ljava/lang/String;"⟩ : MethodName) prog_12_method_7_code 1 (some (.object "java/lang/String")) ws ({ frames := 0, cells := 2, slots := 12, locals := 0 } : Room) #[(.int (7 : Int32))] h0 (fun v h L => L = [] ∧ Ext h0 h ∧ ∃ (a b : Addr) (k : ClassId), v = some (.ref a) ∧ Exa Z h a "java/lang/String" ∧ Fld Z h a "java/lang/String" "coder" "B" (.int 0) ∧ Fld Z h a "java/lang/String" "value" "[B" (.ref b) ∧ Arv Z h b k .byte 2 [.int 91, .int 68] (.int 0)) := by
  refine metOfW (by first | exact plainFor_of_name (by first | (simp [plainName, overriddenIn]; done) | decide +kernel) | decide +kernel) ?_
  intro p e s m below meth c s₁ hx hby hml hown hnm hret hlk hZ X0 e0 e00 H0
  have hown : s.vm.findClass "oakwell/classfile/Bytecode" = some m.cls := hown
  obtain ⟨K, hK⟩ : ∃ K, K = KW Z consts_1 s (fun v h L => L = [] ∧ Ext h0 h ∧ ∃ (a b : Addr) (k : ClassId), v = some (.ref a) ∧ Exa Z h a "java/lang/String" ∧ Fld Z h a "java/lang/String" "coder" "B" (.int 0) ∧ Fld Z h a "java/lang/String" "value" "[B" (.ref b) ∧ Arv Z h b k .byte 2 [.int 91, .int 68] (.int 0)) (({ frames := 0, cells := 2, slots := 12, locals := 0 } : Room)).cells (({ frames := 0, cells := 2, slots := 12, locals := 0 } : Room)).slots := ⟨_, rfl⟩
  show Go p e below (KW Z consts_1 s (fun v h L => L = [] ∧ Ext h0 h ∧ ∃ (a b : Addr) (k : ClassId), v = some (.ref a) ∧ Exa Z h a "java/lang/String" ∧ Fld Z h a "java/lang/String" "coder" "B" (.int 0) ∧ Fld Z h a "java/lang/String" "value" "[B" (.ref b) ∧ Arv Z h b k .byte 2 [.int 91, .int 68] (.int 0)) (({ frames := 0, cells := 2, slots := 12, locals := 0 } : Room)).cells (({ frames := 0, cells := 2, slots := 12, locals := 0 } : Room)).slots) s₁ (entryFrame m #[(.int (7 : Int32))] 1)
  rw [← hK, ef_rm1_7 m]
  show Go p e below _ s₁ (mkF m 0 #[.val (.int (7 : Int32))] [])
  refine Go.to (fun _ => XS.iloadN X0.here hx rfl (hb hby d1_0) rfl) ?_
  show Go p e below _ s₁ (mkF m 1 #[.val (.int (7 : Int32))] [(.int (7 : Int32))])
  have f1 : ¬ ((7 : Int32).toInt < 4 ∨ (7 : Int32).toInt > 11) := by decide +kernel
  have f2 : (#[47, 52, 57, 62, 67, 72, 77, 82] : Array Int)[((7 : Int32).toInt - 4).toNat]? = some 62 := by decide +kernel
  refine Go.to (fun _ q => XS.tswIn (g := (mkF m 1 #[.val (.int (7 : Int32))] [(.int (7 : Int32))])) (i := (7 : Int32)) (rest := []) X0.here hx rfl (pc0 := 1) (pc' := 63) rfl (hb hby d1_1) rfl f1 f2 (by decide) (by decide) q) ?_
  show Go p e below _ s₁ (mkF m 63 #[.val (.int (7 : Int32))] [])
  obtain ⟨a9, T9, h9, k9, b9, c9, X9, e9, E9, S9, g9, hZ9, hown9, q1, q2, q3, q4, -, -, C9, -, -, st9⟩ := ldcCH (s := s) (vm0 := s.vm) X0 hx hZ hown (hw _ (List.mem_of_getElem? (i := 49) rfl)) (own_sa hw) e0 ((State.WarmedH.refl s).since _) (Nat.le_refl _) (own_ew hw) (by decide +kernel) H0 (vs := [.int 91, .int 68]) (z := 2) (by decide +kernel) (by decide) (by decide) (g := (mkF m 63 #[.val (.int (7 : Int32))] [])) rfl (hb hby d1_63) (n := 8) (by decide +kernel) (by decide) (by decide) (by decide)
  refine Go.to st9 ?_
  show Go p e below _ T9 (mkF m 65 #[.val (.int (7 : Int32))] [(.ref a9)])
  refine Go.to (fun _ => XS.goto X9.here hx rfl (pc0 := 65) (pc' := 89) rfl (hb hby d1_65) (by decide) (by decide)) ?_
  show Go p e below _ T9 (mkF m 89 #[.val (.int (7 : Int32))] [(.ref a9)])
  rw [hK]
  exact Go.retWW X9 hx hlk S9 (e9 ▸ g9) hret rfl (Or.inr (Or.inr (Or.inr (Or.inr ⟨rfl, rfl, rfl⟩)))) (hb hby d1_89) (e9 ▸ ⟨rfl, E9, a9, b9, c9, rfl, q1, q2, q3, q4⟩) (by rw [e00, e9]; exact C9) (by decide) (by decide)

theorem ef_rm1_8 (m : MethodId)  : entryFrame m #[(.int (8 : Int32))] 1 = mkF m 0 #[.val (.int (8 : Int32))] [] := by first | (simp [entryFrame, mkF, argsToLocals, Value.category]; done) | rfl
set_option maxHeartbeats 40000000 in
theorem rm1_8 (l : Launch) (Z : State) (a0 : Array Value) (hw : ∀ d ∈ tables_1, d.before a0 Z = true) (ws : List Jvm.Cond)  (h0 : Heap)  :
    MetW l Z consts_1 (⟨"oakwell/classfile/Bytecode", "newarrayType", "(I)Ljava/lang/String;"⟩ : MethodName) prog_12_method_7_code 1 (some (.object "java/lang/String")) ws ({ frames := 0, cells := 2, slots := 12, locals := 0 } : Room) #[(.int (8 : Int32))] h0 (fun v h L => L = [] ∧ Ext h0 h ∧ ∃ (a b : Addr) (k : ClassId), v = some (.ref a) ∧ Exa Z h a "java/lang/String" ∧ Fld Z h a "java/lang/String" "coder" "B" (.int 0) ∧ Fld Z h a "java/lang/String" "value" "[B" (.ref b) ∧ Arv Z h b k .byte 2 [.int 91, .int 66] (.int 0)) := by
  refine metOfW (by first | exact plainFor_of_name (by first | (simp [plainName, overriddenIn]; done) | decide +kernel) | decide +kernel) ?_
  intro p e s m below meth c s₁ hx hby hml hown hnm hret hlk hZ X0 e0 e00 H0
  have hown : s.vm.findClass "oakwell/classfile/Bytecode" = some m.cls := hown
  obtain ⟨K, hK⟩ : ∃ K, K = KW Z consts_1 s (fun v h L => L = [] ∧ Ext h0 h ∧ ∃ (a b : Addr) (k : ClassId), v = some (.ref a) ∧ Exa Z h a "java/lang/String" ∧ Fld Z h a "java/lang/String" "coder" "B" (.int 0) ∧ Fld Z h a "java/lang/String" "value" "[B" (.ref b) ∧ Arv Z h b k .byte 2 [.int 91, .int 66] (.int 0)) (({ frames := 0, cells := 2, slots := 12, locals := 0 } : Room)).cells (({ frames := 0, cells := 2, slots := 12, locals := 0 } : Room)).slots := ⟨_, rfl⟩
  show Go p e below (KW Z consts_1 s (fun v h L => L = [] ∧ Ext h0 h ∧ ∃ (a b : Addr) (k : ClassId), v = some (.ref a) ∧ Exa Z h a "java/lang/String" ∧ Fld Z h a "java/lang/String" "coder" "B" (.int 0) ∧ Fld Z h a "java/lang/String" "value" "[B" (.ref b) ∧ Arv Z h b k .byte 2 [.int 91, .int 66] (.int 0)) (({ frames := 0, cells := 2, slots := 12, locals := 0 } : Room)).cells (({ frames := 0, cells := 2, slots := 12, locals := 0 } : Room)).slots) s₁ (entryFrame m #[(.int (8 : Int32))] 1)
  rw [← hK, ef_rm1_8 m]
  show Go p e below _ s₁ (mkF m 0 #[.val (.int (8 : Int32))] [])
  refine Go.to (fun _ => XS.iloadN X0.here hx rfl (hb hby d1_0) rfl) ?_
  show Go p e below _ s₁ (mkF m 1 #[.val (.int (8 : Int32))] [(.int (8 : Int32))])
  have f1 : ¬ ((8 : Int32).toInt < 4 ∨ (8 : Int32).toInt > 11) := by decide +kernel
  have f2 : (#[47, 52, 57, 62, 67, 72, 77, 82] : Array Int)[((8 : Int32).toInt - 4).toNat]? = some 67 := by decide +kernel
  refine Go.to (fun _ q => XS.tswIn (g := (mkF m 1 #[.val (.int (8 : Int32))] [(.int (8 : Int32))])) (i := (8 : Int32)) (rest := []) X0.here hx rfl (pc0 := 1) (pc' := 68) rfl (hb hby d1_1) rfl f1 f2 (by decide) (by decide) q) ?_
  show Go p e below _ s₁ (mkF m 68 #[.val (.int (8 : Int32))] [])
  obtain ⟨a9, T9, h9, k9, b9, c9, X9, e9, E9, S9, g9, hZ9, hown9, q1, q2, q3, q4, -, -, C9, -, -, st9⟩ := ldcCH (s := s) (vm0 := s.vm) X0 hx hZ hown (hw _ (List.mem_of_getElem? (i := 4) rfl)) (own_sa hw) e0 ((State.WarmedH.refl s).since _) (Nat.le_refl _) (own_ew hw) (by decide +kernel) H0 (vs := [.int 91, .int 66]) (z := 2) (by decide +kernel) (by decide) (by decide) (g := (mkF m 68 #[.val (.int (8 : Int32))] [])) rfl (hb hby d1_68) (n := 8) (by decide +kernel) (by decide) (by decide) (by decide)
  refine Go.to st9 ?_
  show Go p e below _ T9 (mkF m 70 #[.val (.int (8 : Int32))] [(.ref a9)])
  refine Go.to (fun _ => XS.goto X9.here hx rfl (pc0 := 70) (pc' := 89) rfl (hb hby d1_70) (by decide) (by decide)) ?_
  show Go p e below _ T9 (mkF m 89 #[.val (.int (8 : Int32))] [(.ref a9)])
  rw [hK]
  exact Go.retWW X9 hx hlk S9 (e9 ▸ g9) hret rfl (Or.inr (Or.inr (Or.inr (Or.inr ⟨rfl, rfl, rfl⟩)))) (hb hby d1_89) (e9 ▸ ⟨rfl, E9, a9, b9, c9, rfl, q1, q2, q3, q4⟩) (by rw [e00, e9]; exact C9) (by decide) (by decide)

theorem ef_rm1_9 (m : MethodId)  : entryFrame m #[(.int (9 : Int32))] 1 = mkF m 0 #[.val (.int (9 : Int32))] [] := by first | (simp [entryFrame, mkF, argsToLocals, Value.category]; done) | rfl
set_option maxHeartbeats 40000000 in
theorem rm1_9 (l : Launch) (Z : State) (a0 : Array Value) (hw : ∀ d ∈ tables_1, d.before a0 Z = true) (ws : List Jvm.Cond)  (h0 : Heap)  :
    MetW l Z consts_1 (⟨"oakwell/classfile/Bytecode", "newarrayType", "(I)Ljava/lang/String;"⟩ : MethodName) prog_12_method_7_code 1 (some (.object "java/lang/String")) ws ({ frames := 0, cells := 2, slots := 12, locals := 0 } : Room) #[(.int (9 : Int32))] h0 (fun v h L => L = [] ∧ Ext h0 h ∧ ∃ (a b : Addr) (k : ClassId), v = some (.ref a) ∧ Exa Z h a "java/lang/String" ∧ Fld Z h a "java/lang/String" "coder" "B" (.int 0) ∧ Fld Z h a "java/lang/String" "value" "[B" (.ref b) ∧ Arv Z h b k .byte 2 [.int 91, .int 83] (.int 0)) := by
  refine metOfW (by first | exact plainFor_of_name (by first | (simp [plainName, overriddenIn]; done) | decide +kernel) | decide +kernel) ?_
  intro p e s m below meth c s₁ hx hby hml hown hnm hret hlk hZ X0 e0 e00 H0
  have hown : s.vm.findClass "oakwell/classfile/Bytecode" = some m.cls := hown
  obtain ⟨K, hK⟩ : ∃ K, K = KW Z consts_1 s (fun v h L => L = [] ∧ Ext h0 h ∧ ∃ (a b : Addr) (k : ClassId), v = some (.ref a) ∧ Exa Z h a "java/lang/String" ∧ Fld Z h a "java/lang/String" "coder" "B" (.int 0) ∧ Fld Z h a "java/lang/String" "value" "[B" (.ref b) ∧ Arv Z h b k .byte 2 [.int 91, .int 83] (.int 0)) (({ frames := 0, cells := 2, slots := 12, locals := 0 } : Room)).cells (({ frames := 0, cells := 2, slots := 12, locals := 0 } : Room)).slots := ⟨_, rfl⟩
  show Go p e below (KW Z consts_1 s (fun v h L => L = [] ∧ Ext h0 h ∧ ∃ (a b : Addr) (k : ClassId), v = some (.ref a) ∧ Exa Z h a "java/lang/String" ∧ Fld Z h a "java/lang/String" "coder" "B" (.int 0) ∧ Fld Z h a "java/lang/String" "value" "[B" (.ref b) ∧ Arv Z h b k .byte 2 [.int 91, .int 83] (.int 0)) (({ frames := 0, cells := 2, slots := 12, locals := 0 } : Room)).cells (({ frames := 0, cells := 2, slots := 12, locals := 0 } : Room)).slots) s₁ (entryFrame m #[(.int (9 : Int32))] 1)
  rw [← hK, ef_rm1_9 m]
  show Go p e below _ s₁ (mkF m 0 #[.val (.int (9 : Int32))] [])
  refine Go.to (fun _ => XS.iloadN X0.here hx rfl (hb hby d1_0) rfl) ?_
  show Go p e below _ s₁ (mkF m 1 #[.val (.int (9 : Int32))] [(.int (9 : Int32))])
  have f1 : ¬ ((9 : Int32).toInt < 4 ∨ (9 : Int32).toInt > 11) := by decide +kernel
  have f2 : (#[47, 52, 57, 62, 67, 72, 77, 82] : Array Int)[((9 : Int32).toInt - 4).toNat]? = some 72 := by decide +kernel
  refine Go.to (fun _ q => XS.tswIn (g := (mkF m 1 #[.val (.int (9 : Int32))] [(.int (9 : Int32))])) (i := (9 : Int32)) (rest := []) X0.here hx rfl (pc0 := 1) (pc' := 73) rfl (hb hby d1_1) rfl f1 f2 (by decide) (by decide) q) ?_
  show Go p e below _ s₁ (mkF m 73 #[.val (.int (9 : Int32))] [])
  obtain ⟨a9, T9, h9, k9, b9, c9, X9, e9, E9, S9, g9, hZ9, hown9, q1, q2, q3, q4, -, -, C9, -, -, st9⟩ := ldcCH (s := s) (vm0 := s.vm) X0 hx hZ hown (hw _ (List.mem_of_getElem? (i := 53) rfl)) (own_sa hw) e0 ((State.WarmedH.refl s).since _) (Nat.le_refl _) (own_ew hw) (by decide +kernel) H0 (vs := [.int 91, .int 83]) (z := 2) (by decide +kernel) (by decide) (by decide) (g := (mkF m 73 #[.val (.int (9 : Int32))] [])) rfl (hb hby d1_73) (n := 8) (by decide +kernel) (by decide) (by decide) (by decide)
  refine Go.to st9 ?_
  show Go p e below _ T9 (mkF m 75 #[.val (.int (9 : Int32))] [(.ref a9)])
  refine Go.to (fun _ => XS.goto X9.here hx rfl (pc0 := 75) (pc' := 89) rfl (hb hby d1_75) (by decide) (by decide)) ?_
  show Go p e below _ T9 (mkF m 89 #[.val (.int (9 : Int32))] [(.ref a9)])
  rw [hK]
  exact Go.retWW X9 hx hlk S9 (e9 ▸ g9) hret rfl (Or.inr (Or.inr (Or.inr (Or.inr ⟨rfl, rfl, rfl⟩)))) (hb hby d1_89) (e9 ▸ ⟨rfl, E9, a9, b9, c9, rfl, q1, q2, q3, q4⟩) (by rw [e00, e9]; exact C9) (by decide) (by decide)

theorem ef_rm1_10 (m : MethodId)  : entryFrame m #[(.int (10 : Int32))] 1 = mkF m 0 #[.val (.int (10 : Int32))] [] := by first | (simp [entryFrame, mkF, argsToLocals, Value.category]; done) | rfl
set_option maxHeartbeats 40000000 in
theorem rm1_10 (l : Launch) (Z : State) (a0 : Array Value) (hw : ∀ d ∈ tables_1, d.before a0 Z = true) (ws : List Jvm.Cond)  (h0 : Heap)  :
    MetW l Z consts_1 (⟨"oakwell/classfile/Bytecode", "newarrayType", "(I)Ljava/lang/String;"⟩ : MethodName) prog_12_method_7_code 1 (some (.object "java/lang/String")) ws ({ frames := 0, cells := 2, slots := 12, locals := 0 } : Room) #[(.int (10 : Int32))] h0 (fun v h L => L = [] ∧ Ext h0 h ∧ ∃ (a b : Addr) (k : ClassId), v = some (.ref a) ∧ Exa Z h a "java/lang/String" ∧ Fld Z h a "java/lang/String" "coder" "B" (.int 0) ∧ Fld Z h a "java/lang/String" "value" "[B" (.ref b) ∧ Arv Z h b k .byte 2 [.int 91, .int 73] (.int 0)) := by
  refine metOfW (by first | exact plainFor_of_name (by first | (simp [plainName, overriddenIn]; done) | decide +kernel) | decide +kernel) ?_
  intro p e s m below meth c s₁ hx hby hml hown hnm hret hlk hZ X0 e0 e00 H0
  have hown : s.vm.findClass "oakwell/classfile/Bytecode" = some m.cls := hown
  obtain ⟨K, hK⟩ : ∃ K, K = KW Z consts_1 s (fun v h L => L = [] ∧ Ext h0 h ∧ ∃ (a b : Addr) (k : ClassId), v = some (.ref a) ∧ Exa Z h a "java/lang/String" ∧ Fld Z h a "java/lang/String" "coder" "B" (.int 0) ∧ Fld Z h a "java/lang/String" "value" "[B" (.ref b) ∧ Arv Z h b k .byte 2 [.int 91, .int 73] (.int 0)) (({ frames := 0, cells := 2, slots := 12, locals := 0 } : Room)).cells (({ frames := 0, cells := 2, slots := 12, locals := 0 } : Room)).slots := ⟨_, rfl⟩
  show Go p e below (KW Z consts_1 s (fun v h L => L = [] ∧ Ext h0 h ∧ ∃ (a b : Addr) (k : ClassId), v = some (.ref a) ∧ Exa Z h a "java/lang/String" ∧ Fld Z h a "java/lang/String" "coder" "B" (.int 0) ∧ Fld Z h a "java/lang/String" "value" "[B" (.ref b) ∧ Arv Z h b k .byte 2 [.int 91, .int 73] (.int 0)) (({ frames := 0, cells := 2, slots := 12, locals := 0 } : Room)).cells (({ frames := 0, cells := 2, slots := 12, locals := 0 } : Room)).slots) s₁ (entryFrame m #[(.int (10 : Int32))] 1)
  rw [← hK, ef_rm1_10 m]
  show Go p e below _ s₁ (mkF m 0 #[.val (.int (10 : Int32))] [])
  refine Go.to (fun _ => XS.iloadN X0.here hx rfl (hb hby d1_0) rfl) ?_
  show Go p e below _ s₁ (mkF m 1 #[.val (.int (10 : Int32))] [(.int (10 : Int32))])
  have f1 : ¬ ((10 : Int32).toInt < 4 ∨ (10 : Int32).toInt > 11) := by decide +kernel
  have f2 : (#[47, 52, 57, 62, 67, 72, 77, 82] : Array Int)[((10 : Int32).toInt - 4).toNat]? = some 77 := by decide +kernel
  refine Go.to (fun _ q => XS.tswIn (g := (mkF m 1 #[.val (.int (10 : Int32))] [(.int (10 : Int32))])) (i := (10 : Int32)) (rest := []) X0.here hx rfl (pc0 := 1) (pc' := 78) rfl (hb hby d1_1) rfl f1 f2 (by decide) (by decide) q) ?_
  show Go p e below _ s₁ (mkF m 78 #[.val (.int (10 : Int32))] [])
  obtain ⟨a9, T9, h9, k9, b9, c9, X9, e9, E9, S9, g9, hZ9, hown9, q1, q2, q3, q4, -, -, C9, -, -, st9⟩ := ldcCH (s := s) (vm0 := s.vm) X0 hx hZ hown (hw _ (List.mem_of_getElem? (i := 51) rfl)) (own_sa hw) e0 ((State.WarmedH.refl s).since _) (Nat.le_refl _) (own_ew hw) (by decide +kernel) H0 (vs := [.int 91, .int 73]) (z := 2) (by decide +kernel) (by decide) (by decide) (g := (mkF m 78 #[.val (.int (10 : Int32))] [])) rfl (hb hby d1_78) (n := 8) (by decide +kernel) (by decide) (by decide) (by decide)
  refine Go.to st9 ?_
  show Go p e below _ T9 (mkF m 80 #[.val (.int (10 : Int32))] [(.ref a9)])
  refine Go.to (fun _ => XS.goto X9.here hx rfl (pc0 := 80) (pc' := 89) rfl (hb hby d1_80) (by decide) (by decide)) ?_
  show Go p e below _ T9 (mkF m 89 #[.val (.int (10 : Int32))] [(.ref a9)])
  rw [hK]
  exact Go.retWW X9 hx hlk S9 (e9 ▸ g9) hret rfl (Or.inr (Or.inr (Or.inr (Or.inr ⟨rfl, rfl, rfl⟩)))) (hb hby d1_89) (e9 ▸ ⟨rfl, E9, a9, b9, c9, rfl, q1, q2, q3, q4⟩) (by rw [e00, e9]; exact C9) (by decide) (by decide)

theorem ef_rm1_11 (m : MethodId)  : entryFrame m #[(.int (11 : Int32))] 1 = mkF m 0 #[.val (.int (11 : Int32))] [] := by first | (simp [entryFrame, mkF, argsToLocals, Value.category]; done) | rfl
set_option maxHeartbeats 40000000 in
theorem rm1_11 (l : Launch) (Z : State) (a0 : Array Value) (hw : ∀ d ∈ tables_1, d.before a0 Z = true) (ws : List Jvm.Cond)  (h0 : Heap)  :
    MetW l Z consts_1 (⟨"oakwell/classfile/Bytecode", "newarrayType", "(I)Ljava/lang/String;"⟩ : MethodName) prog_12_method_7_code 1 (some (.object "java/lang/String")) ws ({ frames := 0, cells := 2, slots := 12, locals := 0 } : Room) #[(.int (11 : Int32))] h0 (fun v h L => L = [] ∧ Ext h0 h ∧ ∃ (a b : Addr) (k : ClassId), v = some (.ref a) ∧ Exa Z h a "java/lang/String" ∧ Fld Z h a "java/lang/String" "coder" "B" (.int 0) ∧ Fld Z h a "java/lang/String" "value" "[B" (.ref b) ∧ Arv Z h b k .byte 2 [.int 91, .int 74] (.int 0)) := by
  refine metOfW (by first | exact plainFor_of_name (by first | (simp [plainName, overriddenIn]; done) | decide +kernel) | decide +kernel) ?_
  intro p e s m below meth c s₁ hx hby hml hown hnm hret hlk hZ X0 e0 e00 H0
  have hown : s.vm.findClass "oakwell/classfile/Bytecode" = some m.cls := hown
  obtain ⟨K, hK⟩ : ∃ K, K = KW Z consts_1 s (fun v h L => L = [] ∧ Ext h0 h ∧ ∃ (a b : Addr) (k : ClassId), v = some (.ref a) ∧ Exa Z h a "java/lang/String" ∧ Fld Z h a "java/lang/String" "coder" "B" (.int 0) ∧ Fld Z h a "java/lang/String" "value" "[B" (.ref b) ∧ Arv Z h b k .byte 2 [.int 91, .int 74] (.int 0)) (({ frames := 0, cells := 2, slots := 12, locals := 0 } : Room)).cells (({ frames := 0, cells := 2, slots := 12, locals := 0 } : Room)).slots := ⟨_, rfl⟩
  show Go p e below (KW Z consts_1 s (fun v h L => L = [] ∧ Ext h0 h ∧ ∃ (a b : Addr) (k : ClassId), v = some (.ref a) ∧ Exa Z h a "java/lang/String" ∧ Fld Z h a "java/lang/String" "coder" "B" (.int 0) ∧ Fld Z h a "java/lang/String" "value" "[B" (.ref b) ∧ Arv Z h b k .byte 2 [.int 91, .int 74] (.int 0)) (({ frames := 0, cells := 2, slots := 12, locals := 0 } : Room)).cells (({ frames := 0, cells := 2, slots := 12, locals := 0 } : Room)).slots) s₁ (entryFrame m #[(.int (11 : Int32))] 1)
  rw [← hK, ef_rm1_11 m]
  show Go p e below _ s₁ (mkF m 0 #[.val (.int (11 : Int32))] [])
  refine Go.to (fun _ => XS.iloadN X0.here hx rfl (hb hby d1_0) rfl) ?_
  show Go p e below _ s₁ (mkF m 1 #[.val (.int (11 : Int32))] [(.int (11 : Int32))])
  have f1 : ¬ ((11 : Int32).toInt < 4 ∨ (11 : Int32).toInt > 11) := by decide +kernel
  have f2 : (#[47, 52, 57, 62, 67, 72, 77, 82] : Array Int)[((11 : Int32).toInt - 4).toNat]? = some 82 := by decide +kernel
  refine Go.to (fun _ q => XS.tswIn (g := (mkF m 1 #[.val (.int (11 : Int32))] [(.int (11 : Int32))])) (i := (11 : Int32)) (rest := []) X0.here hx rfl (pc0 := 1) (pc' := 83) rfl (hb hby d1_1) rfl f1 f2 (by decide) (by decide) q) ?_
  show Go p e below _ s₁ (mkF m 83 #[.val (.int (11 : Int32))] [])
  obtain ⟨a9, T9, h9, k9, b9, c9, X9, e9, E9, S9, g9, hZ9, hown9, q1, q2, q3, q4, -, -, C9, -, -, st9⟩ := ldcCH (s := s) (vm0 := s.vm) X0 hx hZ hown (hw _ (List.mem_of_getElem? (i := 52) rfl)) (own_sa hw) e0 ((State.WarmedH.refl s).since _) (Nat.le_refl _) (own_ew hw) (by decide +kernel) H0 (vs := [.int 91, .int 74]) (z := 2) (by decide +kernel) (by decide) (by decide) (g := (mkF m 83 #[.val (.int (11 : Int32))] [])) rfl (hb hby d1_83) (n := 8) (by decide +kernel) (by decide) (by decide) (by decide)
  refine Go.to st9 ?_
  show Go p e below _ T9 (mkF m 85 #[.val (.int (11 : Int32))] [(.ref a9)])
  refine Go.to (fun _ => XS.goto X9.here hx rfl (pc0 := 85) (pc' := 89) rfl (hb hby d1_85) (by decide) (by decide)) ?_
  show Go p e below _ T9 (mkF m 89 #[.val (.int (11 : Int32))] [(.ref a9)])
  rw [hK]
  exact Go.retWW X9 hx hlk S9 (e9 ▸ g9) hret rfl (Or.inr (Or.inr (Or.inr (Or.inr ⟨rfl, rfl, rfl⟩)))) (hb hby d1_89) (e9 ▸ ⟨rfl, E9, a9, b9, c9, rfl, q1, q2, q3, q4⟩) (by rw [e00, e9]; exact C9) (by decide) (by decide)

theorem ef_rm1_x (m : MethodId) (p1 : Int32) : entryFrame m #[(.int p1)] 1 = mkF m 0 #[.val (.int p1)] [] := by first | (simp [entryFrame, mkF, argsToLocals, Value.category]; done) | rfl
set_option maxHeartbeats 40000000 in
theorem rm1_x (l : Launch) (Z : State) (a0 : Array Value) (hw : ∀ d ∈ tables_1, d.before a0 Z = true) (ws : List Jvm.Cond) (p1 : Int32) (h0 : Heap) (hp : p1.toInt < 4 ∨ p1.toInt > 11) :
    MetW l Z consts_1 (⟨"oakwell/classfile/Bytecode", "newarrayType", "(I)Ljava/lang/String;"⟩ : MethodName) prog_12_method_7_code 1 (some (.object "java/lang/String")) ws ({ frames := 0, cells := 2, slots := 12, locals := 0 } : Room) #[(.int p1)] h0 (fun v h L => L = [] ∧ h = h0 ∧ v = some .null) := by
  refine metOfW (by first | exact plainFor_of_name (by first | (simp [plainName, overriddenIn]; done) | decide +kernel) | decide +kernel) ?_
  intro p e s m below meth c s₁ hx hby hml hown hnm hret hlk hZ X0 e0 e00 H0
  have hown : s.vm.findClass "oakwell/classfile/Bytecode" = some m.cls := hown
  obtain ⟨K, hK⟩ : ∃ K, K = KW Z consts_1 s (fun v h L => L = [] ∧ h = h0 ∧ v = some .null) (({ frames := 0, cells := 2, slots := 12, locals := 0 } : Room)).cells (({ frames := 0, cells := 2, slots := 12, locals := 0 } : Room)).slots := ⟨_, rfl⟩
  show Go p e below (KW Z consts_1 s (fun v h L => L = [] ∧ h = h0 ∧ v = some .null) (({ frames := 0, cells := 2, slots := 12, locals := 0 } : Room)).cells (({ frames := 0, cells := 2, slots := 12, locals := 0 } : Room)).slots) s₁ (entryFrame m #[(.int p1)] 1)
  rw [← hK, ef_rm1_x m p1]
  show Go p e below _ s₁ (mkF m 0 #[.val (.int p1)] [])
  refine Go.to (fun _ => XS.iloadN X0.here hx rfl (hb hby d1_0) rfl) ?_
  show Go p e below _ s₁ (mkF m 1 #[.val (.int p1)] [(.int p1)])
  refine Go.to (fun _ q => XS.tswOut (g := (mkF m 1 #[.val (.int p1)] [(.int p1)])) (i := p1) (rest := []) X0.here hx rfl (pc0 := 1) (pc' := 88) rfl (hb hby d1_1) rfl hp (by decide) (by decide) q) ?_
  show Go p e below _ s₁ (mkF m 88 #[.val (.int p1)] [])
  refine Go.to (fun _ => XS.aconstNull X0.here hx rfl (hb hby d1_88)) ?_
  show Go p e below _ s₁ (mkF m 89 #[.val (.int p1)] [.null])
  rw [hK]
  exact Go.retWW (s := s) (vm0 := s.vm) X0 hx hlk ((State.WarmedH.refl s).since 0) (Nat.zero_le _) hret rfl (Or.inr (Or.inr (Or.inr (Or.inr ⟨rfl, rfl, rfl⟩)))) (hb hby d1_89) ⟨rfl, e0, rfl⟩ (by rw [e00, e0]; exact CHv.at (s := s) (vm0 := s.vm) X0 hZ (own_ew hw) H0) (by decide) (by decide)

theorem own_gt {z : Int32} (hp : z.toInt < 4 ∨ z.toInt > 11) (h : ¬ z < (4 : Int32)) : (11 : Int32) < z := by
  have e4 : (4 : Int32).toInt = 4 := by decide
  have e11 : (11 : Int32).toInt = 11 := by decide
  rw [Int32.lt_iff_toInt_lt] at h ⊢; omega
theorem own_c (z : Int32) : z = 4 ∨ z = 5 ∨ z = 6 ∨ z = 7 ∨ z = 8 ∨ z = 9 ∨ z = 10 ∨ z = 11 ∨ (z.toInt < 4 ∨ z.toInt > 11) := by
  have e4 : (4 : Int32).toInt = 4 := by decide
  have e5 : (5 : Int32).toInt = 5 := by decide
  have e6 : (6 : Int32).toInt = 6 := by decide
  have e7 : (7 : Int32).toInt = 7 := by decide
  have e8 : (8 : Int32).toInt = 8 := by decide
  have e9 : (9 : Int32).toInt = 9 := by decide
  have e10 : (10 : Int32).toInt = 10 := by decide
  have e11 : (11 : Int32).toInt = 11 := by decide
  simp only [← Int32.toInt_inj, e4, e5, e6, e7, e8, e9, e10, e11]; omega
theorem ef_rm0 (m : MethodId) (p1 : Int32) (p2 : Int32) : entryFrame m #[(.int p1), (.int p2)] maxLocals = mkF m 0 #[.val (.int p1), .val (.int p2), .unset, .unset, .unset, .unset] [] := by first | (simp [entryFrame, mkF, argsToLocals, Value.category, maxLocals]; done) | rfl
set_option maxHeartbeats 40000000 in
theorem rm0 (l : Launch) (Z : State) (a0 : Array Value) (hw : ∀ d ∈ tables_1, d.before a0 Z = true) (ws : List Jvm.Cond) (p1 : Int32) (p2 : Int32) (h0 : Heap) (n0 : Nat) (Z0 : n0 ≤ h0.size) (z : Int32) (S1 : Sta Z h0 "java/lang/String" "COMPACT_STRINGS" "Z" (.int z)) (hz : ¬ z = 0) (fm : Value) (rfm : fm.isRef = true) (S2 : Sta Z h0 "jdk/internal/util/Preconditions" "SIOOBE_FORMATTER" "Ljava/util/function/BiFunction;" fm) :
    MetW l Z consts_1 x code maxLocals ret ws room_1 #[(.int p1), (.int p2)] h0 (fun v h L => v = some (.int 1) ∧ Fr n0 L) := by
  refine metOfW (by first | exact plainFor_of_name (by first | (simp [plainName, overriddenIn]; done) | decide +kernel) | decide +kernel) ?_
  intro p e s m below meth c s₁ hx hby hml hown hnm hret hlk hZ X0 e0 e00 H0
  have hown : s.vm.findClass "oakwell/classfile/BytecodeNewarrayTypePinLaw" = some m.cls := hown
  have hml : c.maxLocals = 6 := hml
  obtain ⟨K, hK⟩ : ∃ K, K = KW Z consts_1 s (fun v h L => v = some (.int 1) ∧ Fr n0 L) (room_1).cells (room_1).slots := ⟨_, rfl⟩
  show Go p e below (KW Z consts_1 s (fun v h L => v = some (.int 1) ∧ Fr n0 L) (room_1).cells (room_1).slots) s₁ (entryFrame m #[(.int p1), (.int p2)] maxLocals)
  rw [← hK, ef_rm0 m p1 p2]
  show Go p e below _ s₁ (mkF m 0 #[.val (.int p1), .val (.int p2), .unset, .unset, .unset, .unset] [])
  have hj1 : (∀ zc : Int32, zc = (if (p2 &&& (1 : Int32)) = (0 : Int32) then (p1 &&& (15 : Int32)) else p1) → Go p e below K s₁ (mkF m 14 #[.val (.int p1), .val (.int p2), .unset, .unset, .unset, .unset] [(.int zc)])) → Go p e below K s₁ (mkF m 0 #[.val (.int p1), .val (.int p2), .unset, .unset, .unset, .unset] []) := by
    intro k
    refine Go.to (fun _ => XS.iloadN X0.here hx rfl (hb hby at_0) rfl) ?_
    show Go p e below _ s₁ (mkF m 1 #[.val (.int p1), .val (.int p2), .unset, .unset, .unset, .unset] [(.int p2)])
    refine Go.to (fun _ => XS.iconst X0.here hx rfl (hb hby at_1)) ?_
    show Go p e below _ s₁ (mkF m 2 #[.val (.int p1), .val (.int p2), .unset, .unset, .unset, .unset] [(.int (1 : Int32)), (.int p2)])
    refine Go.to (fun _ => XS.iand X0.here hx rfl (hb hby at_2) rfl) ?_
    show Go p e below _ s₁ (mkF m 3 #[.val (.int p1), .val (.int p2), .unset, .unset, .unset, .unset] [(.int (p2 &&& (1 : Int32)))])
    by_cases hc1 : (p2 &&& (1 : Int32)) = (0 : Int32)
    · refine Go.to (fun _ => XS.ifYes X0.here hx rfl (pc0 := 3) (pc' := 10) rfl (hb hby at_3) rfl ((if0 _ _).trans (teq hc1).1) (by decide) (by decide)) ?_
      show Go p e below _ s₁ (mkF m 10 #[.val (.int p1), .val (.int p2), .unset, .unset, .unset, .unset] [])
      refine Go.to (fun _ => XS.iloadN X0.here hx rfl (hb hby at_10) rfl) ?_
      show Go p e below _ s₁ (mkF m 11 #[.val (.int p1), .val (.int p2), .unset, .unset, .unset, .unset] [(.int p1)])
      refine Go.to (fun _ => XS.bipush X0.here hx rfl (hb hby at_11)) ?_
      show Go p e below _ s₁ (mkF m 13 #[.val (.int p1), .val (.int p2), .unset, .unset, .unset, .unset] [(.int (15 : Int32)), (.int p1)])
      refine Go.to (fun _ => XS.iand X0.here hx rfl (hb hby at_13) rfl) ?_
      show Go p e below _ s₁ (mkF m 14 #[.val (.int p1), .val (.int p2), .unset, .unset, .unset, .unset] [(.int (p1 &&& (15 : Int32)))])
      exact k (p1 &&& (15 : Int32)) (by rw [if_pos hc1])
    · refine Go.to (fun _ => XS.ifNo X0.here hx rfl (hb hby at_3) rfl ((if0 _ _).trans (feq hc1).1)) ?_
      show Go p e below _ s₁ (mkF m 6 #[.val (.int p1), .val (.int p2), .unset, .unset, .unset, .unset] [])
      refine Go.to (fun _ => XS.iloadN X0.here hx rfl (hb hby at_6) rfl) ?_
      show Go p e below _ s₁ (mkF m 7 #[.val (.int p1), .val (.int p2), .unset, .unset, .unset, .unset] [(.int p1)])
      refine Go.to (fun _ => XS.goto X0.here hx rfl (pc0 := 7) (pc' := 14) rfl (hb hby at_7) (by decide) (by decide)) ?_
      show Go p e below _ s₁ (mkF m 14 #[.val (.int p1), .val (.int p2), .unset, .unset, .unset, .unset] [(.int p1)])
      exact k p1 (by rw [if_neg hc1])
  refine hj1 (fun zc hzc => ?_)
  clear hj1
  refine Go.to (fun _ => XS.istoreN X0.here hx rfl (hb hby at_14) rfl (l' := #[.val (.int p1), .val (.int p2), .val (.int zc), .unset, .unset, .unset]) rfl) ?_
  show Go p e below _ s₁ (mkF m 15 #[.val (.int p1), .val (.int p2), .val (.int zc), .unset, .unset, .unset] [])
  rcases own_c zc with rfl | rfl | rfl | rfl | rfl | rfl | rfl | rfl | hp
  · show Go p e below _ s₁ (mkF m 15 #[.val (.int p1), .val (.int p2), .val (.int (4 : Int32)), .unset, .unset, .unset] [])
    refine Go.to (fun _ => XS.iloadN X0.here hx rfl (hb hby at_15) rfl) ?_
    show Go p e below _ s₁ (mkF m 16 #[.val (.int p1), .val (.int p2), .val (.int (4 : Int32)), .unset, .unset, .unset] [(.int (4 : Int32))])
    refine Go.callSW (s := s) (vm0 := s.vm) (y := (⟨"oakwell/classfile/Bytecode", "newarrayType", "(I)Ljava/lang/String;"⟩ : MethodName)) X0 hx hZ hown ((State.WarmedH.refl s).since _) (Nat.le_refl _) (hw _ (List.mem_of_getElem? (i := 0) rfl)) (hw _ (List.mem_of_getElem? (i := 1) rfl)) (hw _ (List.mem_of_getElem? (i := 2) rfl)) (hw _ (List.mem_of_getElem? (i := 3) rfl)) (by decide) (own_ew hw) H0 (rm1_4 l Z a0 hw [] h0) e0 (by rw [hml]; rfl) (pd_7) rfl (argsL := [(.int (4 : Int32))]) (rest := []) rfl rfl (hb hby at_16) (by decide) (Nat.le_of_ble_eq_true rfl) (by decide) (by decide) ?_
    rintro T1 _ L1 X1 ⟨rfl, E1, a1, b1, c1, rfl, q1, q2, q3, q4⟩ S9 hZ1 hown1 C1
    simp only [List.append_nil] at X1
    have X0 := X1
    have hZ : Z.Warmed39 (s.setVm T1.vm).vm := hZ1
    have hown : (s.setVm T1.vm).vm.findClass "oakwell/classfile/BytecodeNewarrayTypePinLaw" = some m.cls := hown1
    show Go p e below _ T1 (mkF m 19 #[.val (.int p1), .val (.int p2), .val (.int (4 : Int32)), .unset, .unset, .unset] [(.ref a1)])
    refine Go.to (fun _ => XS.astoreN X1.here hx rfl (hb hby at_19) rfl rfl (l' := #[.val (.int p1), .val (.int p2), .val (.int (4 : Int32)), .val (.ref a1), .unset, .unset]) rfl) ?_
    show Go p e below _ T1 (mkF m 20 #[.val (.int p1), .val (.int p2), .val (.int (4 : Int32)), .val (.ref a1), .unset, .unset] [])
    refine Go.to (fun _ => XS.iloadN X1.here hx rfl (hb hby at_20) rfl) ?_
    show Go p e below _ T1 (mkF m 21 #[.val (.int p1), .val (.int p2), .val (.int (4 : Int32)), .val (.ref a1), .unset, .unset] [(.int (4 : Int32))])
    refine Go.to (fun _ => XS.iconst X1.here hx rfl (hb hby at_21)) ?_
    show Go p e below _ T1 (mkF m 22 #[.val (.int p1), .val (.int p2), .val (.int (4 : Int32)), .val (.ref a1), .unset, .unset] [(.int (4 : Int32)), (.int (4 : Int32))])
    refine Go.to (fun _ => XS.icmpNo X1.here hx rfl (hb hby at_22) rfl (flt (by decide)).1) ?_
    show Go p e below _ T1 (mkF m 25 #[.val (.int p1), .val (.int p2), .val (.int (4 : Int32)), .val (.ref a1), .unset, .unset] [])
    refine Go.to (fun _ => XS.iloadN X1.here hx rfl (hb hby at_25) rfl) ?_
    show Go p e below _ T1 (mkF m 26 #[.val (.int p1), .val (.int p2), .val (.int (4 : Int32)), .val (.ref a1), .unset, .unset] [(.int (4 : Int32))])
    refine Go.to (fun _ => XS.bipush X1.here hx rfl (hb hby at_26)) ?_
    show Go p e below _ T1 (mkF m 28 #[.val (.int p1), .val (.int p2), .val (.int (4 : Int32)), .val (.ref a1), .unset, .unset] [(.int (11 : Int32)), (.int (4 : Int32))])
    refine Go.to (fun _ => XS.icmpYes X1.here hx rfl (pc0 := 28) (pc' := 41) rfl (hb hby at_28) rfl (flt (by decide)).2.2.2 (by decide) (by decide)) ?_
    show Go p e below _ T1 (mkF m 41 #[.val (.int p1), .val (.int p2), .val (.int (4 : Int32)), .val (.ref a1), .unset, .unset] [])
    obtain ⟨a9, T9, h9, k9, b9, c9, X9, e9, E9, S9, g9, hZ9, hown9, l1, l2, l3, l4, -, -, C9, -, -, st9⟩ := ldcCH (s := s) (vm0 := T1.vm) X1 hx hZ1 hown1 (hw _ (List.mem_of_getElem? (i := 12) rfl)) (own_sa hw) rfl S9 (Nat.le_refl _) (own_ew hw) (by decide +kernel) C1.1 (vs := [.int 90, .int 67, .int 70, .int 68, .int 66, .int 83, .int 73, .int 74]) (z := 8) (by decide +kernel) (by decide) (by decide) (g := (mkF m 41 #[.val (.int p1), .val (.int p2), .val (.int (4 : Int32)), .val (.ref a1), .unset, .unset] [])) rfl (hb hby at_41) (n := 32) (by decide +kernel) (by decide) (by decide) (by decide)
    refine Go.to st9 ?_
    have hZ : Z.Warmed39 (s.setVm T9.vm).vm := hZ9
    have hown : (s.setVm T9.vm).vm.findClass "oakwell/classfile/BytecodeNewarrayTypePinLaw" = some m.cls := hown9
    have A1 : AV Z h9 b1 .byte [91, 90] := avOf (xs := [91, 90]) (q4.ext E9) (by decide)
    have A2 : AV Z h9 b9 .byte [90, 67, 70, 68, 66, 83, 73, 74] := avOf (xs := [90, 67, 70, 68, 66, 83, 73, 74]) l4 (by decide)
    have q1 := Exa.ext E9 q1
    have q2 := Fld.ext E9 q2
    have q3 := Fld.ext E9 q3
    have S1 := Sta.ext E9 (Sta.ext E1 S1)
    have S2 := Sta.ext E9 (Sta.ext E1 S2)
    show Go p e below _ T9 (mkF m 43 #[.val (.int p1), .val (.int p2), .val (.int (4 : Int32)), .val (.ref a1), .unset, .unset] [(.ref a9)])
    refine Go.to (fun _ => XS.astore X9.here hx rfl (hb hby at_43) rfl rfl (l' := #[.val (.int p1), .val (.int p2), .val (.int (4 : Int32)), .val (.ref a1), .val (.ref a9), .unset]) rfl) ?_
    show Go p e below _ T9 (mkF m 45 #[.val (.int p1), .val (.int p2), .val (.int (4 : Int32)), .val (.ref a1), .val (.ref a9), .unset] [])
    refine Go.to (fun _ => XS.aload X9.here hx rfl (hb hby at_45) rfl rfl) ?_
    show Go p e below _ T9 (mkF m 47 #[.val (.int p1), .val (.int p2), .val (.int (4 : Int32)), .val (.ref a1), .val (.ref a9), .unset] [(.ref a9)])
    refine Go.to (fun _ => XS.iloadN X9.here hx rfl (hb hby at_47) rfl) ?_
    show Go p e below _ T9 (mkF m 48 #[.val (.int p1), .val (.int p2), .val (.int (4 : Int32)), .val (.ref a1), .val (.ref a9), .unset] [(.int (4 : Int32)), (.ref a9)])
    refine Go.to (fun _ => XS.iconst X9.here hx rfl (hb hby at_48)) ?_
    show Go p e below _ T9 (mkF m 49 #[.val (.int p1), .val (.int p2), .val (.int (4 : Int32)), .val (.ref a1), .val (.ref a9), .unset] [(.int (4 : Int32)), (.int (4 : Int32)), (.ref a9)])
    refine Go.to (fun _ => XS.isub X9.here hx rfl (hb hby at_49) rfl) ?_
    show Go p e below _ T9 (mkF m 50 #[.val (.int p1), .val (.int p2), .val (.int (4 : Int32)), .val (.ref a1), .val (.ref a9), .unset] [(.int ((4 : Int32) - (4 : Int32))), (.ref a9)])
    refine Go.callV (y := (⟨"java/lang/String", "charAt", "(I)C"⟩ : MethodName)) X9 hx hZ hown (hw _ (List.mem_of_getElem? (i := 13) rfl)) (hw _ (List.mem_of_getElem? (i := 14) rfl)) (hw _ (List.mem_of_getElem? (i := 16) rfl)) (hw _ (List.mem_of_getElem? (i := 15) rfl)) (hw _ (List.mem_of_getElem? (i := 5) rfl)) (hw _ (List.mem_of_getElem? (i := 17) rfl)) (by decide) (rm2 l Z a0 hw [] a9 ((4 : Int32) - (4 : Int32)) h9 b9 [90, 67, 70, 68, 66, 83, 73, 74] l1 l3 l2 A2 z S1 hz (by decide) (by decide) fm rfm S2 90 90 (by decide +kernel) (by decide +kernel) (by decide +kernel)) e9 l1 (by rw [hml]; rfl) (pd_3) rfl (argsL := [(.int ((4 : Int32) - (4 : Int32)))]) (rest := []) rfl rfl (hb hby at_50) (by decide) (Nat.le_of_ble_eq_true rfl) (by decide) (by decide) ?_
    rintro T2 _ L2 X2 ⟨rfl, e2, rfl⟩
    simp only [List.append_nil] at X2
    show Go p e below _ T2 (mkF m 53 #[.val (.int p1), .val (.int p2), .val (.int (4 : Int32)), .val (.ref a1), .val (.ref a9), .unset] [(.int (90 : Int32))])
    refine Go.to (fun _ => XS.istore X2.here hx rfl (hb hby at_53) rfl (l' := #[.val (.int p1), .val (.int p2), .val (.int (4 : Int32)), .val (.ref a1), .val (.ref a9), .val (.int (90 : Int32))]) rfl) ?_
    show Go p e below _ T2 (mkF m 55 #[.val (.int p1), .val (.int p2), .val (.int (4 : Int32)), .val (.ref a1), .val (.ref a9), .val (.int (90 : Int32))] [])
    refine Go.to (fun _ => XS.aloadN X2.here hx rfl (hb hby at_55) rfl rfl) ?_
    show Go p e below _ T2 (mkF m 56 #[.val (.int p1), .val (.int p2), .val (.int (4 : Int32)), .val (.ref a1), .val (.ref a9), .val (.int (90 : Int32))] [(.ref a1)])
    refine Go.to (fun _ => XS.ifnullNo X2.here hx rfl (hb hby at_56) rfl) ?_
    show Go p e below _ T2 (mkF m 59 #[.val (.int p1), .val (.int p2), .val (.int (4 : Int32)), .val (.ref a1), .val (.ref a9), .val (.int (90 : Int32))] [])
    refine Go.to (fun _ => XS.aloadN X2.here hx rfl (hb hby at_59) rfl rfl) ?_
    show Go p e below _ T2 (mkF m 60 #[.val (.int p1), .val (.int p2), .val (.int (4 : Int32)), .val (.ref a1), .val (.ref a9), .val (.int (90 : Int32))] [(.ref a1)])
    refine Go.callV (y := (⟨"java/lang/String", "length", "()I"⟩ : MethodName)) X2 hx hZ hown (hw _ (List.mem_of_getElem? (i := 38) rfl)) (hw _ (List.mem_of_getElem? (i := 39) rfl)) (hw _ (List.mem_of_getElem? (i := 41) rfl)) (hw _ (List.mem_of_getElem? (i := 40) rfl)) (hw _ (List.mem_of_getElem? (i := 5) rfl)) (hw _ (List.mem_of_getElem? (i := 42) rfl)) (by decide) (rm7 l Z a0 hw [] a1 h9 b1 [91, 90] q1 q3 q2 A1 z S1 hz 2 (by decide +kernel)) e2 q1 (by rw [hml]; rfl) (pd_2) rfl (argsL := []) (rest := []) rfl rfl (hb hby at_60) (by decide) (Nat.le_of_ble_eq_true rfl) (by decide) (by decide) ?_
    rintro T3 _ L3 X3 ⟨rfl, e3, rfl⟩
    simp only [List.append_nil] at X3
    show Go p e below _ T3 (mkF m 63 #[.val (.int p1), .val (.int p2), .val (.int (4 : Int32)), .val (.ref a1), .val (.ref a9), .val (.int (90 : Int32))] [(.int (2 : Int32))])
    refine Go.to (fun _ => XS.iconst X3.here hx rfl (hb hby at_63)) ?_
    show Go p e below _ T3 (mkF m 64 #[.val (.int p1), .val (.int p2), .val (.int (4 : Int32)), .val (.ref a1), .val (.ref a9), .val (.int (90 : Int32))] [(.int (2 : Int32)), (.int (2 : Int32))])
    refine Go.to (fun _ => XS.icmpNo X3.here hx rfl (hb hby at_64) rfl (teq (by decide)).2) ?_
    show Go p e below _ T3 (mkF m 67 #[.val (.int p1), .val (.int p2), .val (.int (4 : Int32)), .val (.ref a1), .val (.ref a9), .val (.int (90 : Int32))] [])
    refine Go.to (fun _ => XS.aloadN X3.here hx rfl (hb hby at_67) rfl rfl) ?_
    show Go p e below _ T3 (mkF m 68 #[.val (.int p1), .val (.int p2), .val (.int (4 : Int32)), .val (.ref a1), .val (.ref a9), .val (.int (90 : Int32))] [(.ref a1)])
    refine Go.to (fun _ => XS.iconst X3.here hx rfl (hb hby at_68)) ?_
    show Go p e below _ T3 (mkF m 69 #[.val (.int p1), .val (.int p2), .val (.int (4 : Int32)), .val (.ref a1), .val (.ref a9), .val (.int (90 : Int32))] [(.int (0 : Int32)), (.ref a1)])
    refine Go.callV (y := (⟨"java/lang/String", "charAt", "(I)C"⟩ : MethodName)) X3 hx hZ hown (hw _ (List.mem_of_getElem? (i := 13) rfl)) (hw _ (List.mem_of_getElem? (i := 14) rfl)) (hw _ (List.mem_of_getElem? (i := 16) rfl)) (hw _ (List.mem_of_getElem? (i := 15) rfl)) (hw _ (List.mem_of_getElem? (i := 5) rfl)) (hw _ (List.mem_of_getElem? (i := 17) rfl)) (by decide) (rm2 l Z a0 hw [] a1 (0 : Int32) h9 b1 [91, 90] q1 q3 q2 A1 z S1 hz (by decide) (by decide) fm rfm S2 91 91 (by decide +kernel) (by decide +kernel) (by decide +kernel)) e3 q1 (by rw [hml]; rfl) (pd_3) rfl (argsL := [(.int (0 : Int32))]) (rest := []) rfl rfl (hb hby at_69) (by decide) (Nat.le_of_ble_eq_true rfl) (by decide) (by decide) ?_
    rintro T4 _ L4 X4 ⟨rfl, e4, rfl⟩
    simp only [List.append_nil] at X4
    show Go p e below _ T4 (mkF m 72 #[.val (.int p1), .val (.int p2), .val (.int (4 : Int32)), .val (.ref a1), .val (.ref a9), .val (.int (90 : Int32))] [(.int (91 : Int32))])
    refine Go.to (fun _ => XS.bipush X4.here hx rfl (hb hby at_72)) ?_
    show Go p e below _ T4 (mkF m 74 #[.val (.int p1), .val (.int p2), .val (.int (4 : Int32)), .val (.ref a1), .val (.ref a9), .val (.int (90 : Int32))] [(.int (91 : Int32)), (.int (91 : Int32))])
    refine Go.to (fun _ => XS.icmpNo X4.here hx rfl (hb hby at_74) rfl (teq (by decide)).2) ?_
    show Go p e below _ T4 (mkF m 77 #[.val (.int p1), .val (.int p2), .val (.int (4 : Int32)), .val (.ref a1), .val (.ref a9), .val (.int (90 : Int32))] [])
    refine Go.to (fun _ => XS.aloadN X4.here hx rfl (hb hby at_77) rfl rfl) ?_
    show Go p e below _ T4 (mkF m 78 #[.val (.int p1), .val (.int p2), .val (.int (4 : Int32)), .val (.ref a1), .val (.ref a9), .val (.int (90 : Int32))] [(.ref a1)])
    refine Go.to (fun _ => XS.iconst X4.here hx rfl (hb hby at_78)) ?_
    show Go p e below _ T4 (mkF m 79 #[.val (.int p1), .val (.int p2), .val (.int (4 : Int32)), .val (.ref a1), .val (.ref a9), .val (.int (90 : Int32))] [(.int (1 : Int32)), (.ref a1)])
    refine Go.callV (y := (⟨"java/lang/String", "charAt", "(I)C"⟩ : MethodName)) X4 hx hZ hown (hw _ (List.mem_of_getElem? (i := 13) rfl)) (hw _ (List.mem_of_getElem? (i := 14) rfl)) (hw _ (List.mem_of_getElem? (i := 16) rfl)) (hw _ (List.mem_of_getElem? (i := 15) rfl)) (hw _ (List.mem_of_getElem? (i := 5) rfl)) (hw _ (List.mem_of_getElem? (i := 17) rfl)) (by decide) (rm2 l Z a0 hw [] a1 (1 : Int32) h9 b1 [91, 90] q1 q3 q2 A1 z S1 hz (by decide) (by decide) fm rfm S2 90 90 (by decide +kernel) (by decide +kernel) (by decide +kernel)) e4 q1 (by rw [hml]; rfl) (pd_3) rfl (argsL := [(.int (1 : Int32))]) (rest := []) rfl rfl (hb hby at_79) (by decide) (Nat.le_of_ble_eq_true rfl) (by decide) (by decide) ?_
    rintro T5 _ L5 X5 ⟨rfl, e5, rfl⟩
    simp only [List.append_nil] at X5
    show Go p e below _ T5 (mkF m 82 #[.val (.int p1), .val (.int p2), .val (.int (4 : Int32)), .val (.ref a1), .val (.ref a9), .val (.int (90 : Int32))] [(.int (90 : Int32))])
    refine Go.to (fun _ => XS.iload X5.here hx rfl (hb hby at_82) rfl) ?_
    show Go p e below _ T5 (mkF m 84 #[.val (.int p1), .val (.int p2), .val (.int (4 : Int32)), .val (.ref a1), .val (.ref a9), .val (.int (90 : Int32))] [(.int (90 : Int32)), (.int (90 : Int32))])
    refine Go.to (fun _ => XS.icmpNo X5.here hx rfl (hb hby at_84) rfl (teq (by decide)).2) ?_
    show Go p e below _ T5 (mkF m 87 #[.val (.int p1), .val (.int p2), .val (.int (4 : Int32)), .val (.ref a1), .val (.ref a9), .val (.int (90 : Int32))] [])
    refine Go.to (fun _ => XS.iconst X5.here hx rfl (hb hby at_87)) ?_
    show Go p e below _ T5 (mkF m 88 #[.val (.int p1), .val (.int p2), .val (.int (4 : Int32)), .val (.ref a1), .val (.ref a9), .val (.int (90 : Int32))] [(.int (1 : Int32))])
    refine Go.to (fun _ => XS.goto X5.here hx rfl (pc0 := 88) (pc' := 92) rfl (hb hby at_88) (by decide) (by decide)) ?_
    show Go p e below _ T5 (mkF m 92 #[.val (.int p1), .val (.int p2), .val (.int (4 : Int32)), .val (.ref a1), .val (.ref a9), .val (.int (90 : Int32))] [(.int (1 : Int32))])
    rw [hK]
    exact Go.retWW X5 hx hlk S9 (by rw [e5]; exact g9) hret rfl (Or.inl ⟨rfl, by simp, _, rfl⟩) (hb hby at_92) ⟨rfl, Fr.nil n0⟩ (by rw [e00, e5]; exact (C1.trans C9).trans (CHv.at X5 hZ (own_ew hw) C9.1)) (by decide) (by decide)
  · show Go p e below _ s₁ (mkF m 15 #[.val (.int p1), .val (.int p2), .val (.int (5 : Int32)), .unset, .unset, .unset] [])
    refine Go.to (fun _ => XS.iloadN X0.here hx rfl (hb hby at_15) rfl) ?_
    show Go p e below _ s₁ (mkF m 16 #[.val (.int p1), .val (.int p2), .val (.int (5 : Int32)), .unset, .unset, .unset] [(.int (5 : Int32))])
    refine Go.callSW (s := s) (vm0 := s.vm) (y := (⟨"oakwell/classfile/Bytecode", "newarrayType", "(I)Ljava/lang/String;"⟩ : MethodName)) X0 hx hZ hown ((State.WarmedH.refl s).since _) (Nat.le_refl _) (hw _ (List.mem_of_getElem? (i := 0) rfl)) (hw _ (List.mem_of_getElem? (i := 1) rfl)) (hw _ (List.mem_of_getElem? (i := 2) rfl)) (hw _ (List.mem_of_getElem? (i := 3) rfl)) (by decide) (own_ew hw) H0 (rm1_5 l Z a0 hw [] h0) e0 (by rw [hml]; rfl) (pd_7) rfl (argsL := [(.int (5 : Int32))]) (rest := []) rfl rfl (hb hby at_16) (by decide) (Nat.le_of_ble_eq_true rfl) (by decide) (by decide) ?_
    rintro T1 _ L1 X1 ⟨rfl, E1, a1, b1, c1, rfl, q1, q2, q3, q4⟩ S9 hZ1 hown1 C1
    simp only [List.append_nil] at X1
    have X0 := X1
    have hZ : Z.Warmed39 (s.setVm T1.vm).vm := hZ1
    have hown : (s.setVm T1.vm).vm.findClass "oakwell/classfile/BytecodeNewarrayTypePinLaw" = some m.cls := hown1
    show Go p e below _ T1 (mkF m 19 #[.val (.int p1), .val (.int p2), .val (.int (5 : Int32)), .unset, .unset, .unset] [(.ref a1)])
    refine Go.to (fun _ => XS.astoreN X1.here hx rfl (hb hby at_19) rfl rfl (l' := #[.val (.int p1), .val (.int p2), .val (.int (5 : Int32)), .val (.ref a1), .unset, .unset]) rfl) ?_
    show Go p e below _ T1 (mkF m 20 #[.val (.int p1), .val (.int p2), .val (.int (5 : Int32)), .val (.ref a1), .unset, .unset] [])
    refine Go.to (fun _ => XS.iloadN X1.here hx rfl (hb hby at_20) rfl) ?_
    show Go p e below _ T1 (mkF m 21 #[.val (.int p1), .val (.int p2), .val (.int (5 : Int32)), .val (.ref a1), .unset, .unset] [(.int (5 : Int32))])
    refine Go.to (fun _ => XS.iconst X1.here hx rfl (hb hby at_21)) ?_
    show Go p e below _ T1 (mkF m 22 #[.val (.int p1), .val (.int p2), .val (.int (5 : Int32)), .val (.ref a1), .unset, .unset] [(.int (4 : Int32)), (.int (5 : Int32))])
    refine Go.to (fun _ => XS.icmpNo X1.here hx rfl (hb hby at_22) rfl (flt (by decide)).1) ?_
    show Go p e below _ T1 (mkF m 25 #[.val (.int p1), .val (.int p2), .val (.int (5 : Int32)), .val (.ref a1), .unset, .unset] [])
    refine Go.to (fun _ => XS.iloadN X1.here hx rfl (hb hby at_25) rfl) ?_
    show Go p e below _ T1 (mkF m 26 #[.val (.int p1), .val (.int p2), .val (.int (5 : Int32)), .val (.ref a1), .unset, .unset] [(.int (5 : Int32))])
    refine Go.to (fun _ => XS.bipush X1.here hx rfl (hb hby at_26)) ?_
    show Go p e below _ T1 (mkF m 28 #[.val (.int p1), .val (.int p2), .val (.int (5 : Int32)), .val (.ref a1), .unset, .unset] [(.int (11 : Int32)), (.int (5 : Int32))])
    refine Go.to (fun _ => XS.icmpYes X1.here hx rfl (pc0 := 28) (pc' := 41) rfl (hb hby at_28) rfl (flt (by decide)).2.2.2 (by decide) (by decide)) ?_
    show Go p e below _ T1 (mkF m 41 #[.val (.int p1), .val (.int p2), .val (.int (5 : Int32)), .val (.ref a1), .unset, .unset] [])
    obtain ⟨a9, T9, h9, k9, b9, c9, X9, e9, E9, S9, g9, hZ9, hown9, l1, l2, l3, l4, -, -, C9, -, -, st9⟩ := ldcCH (s := s) (vm0 := T1.vm) X1 hx hZ1 hown1 (hw _ (List.mem_of_getElem? (i := 12) rfl)) (own_sa hw) rfl S9 (Nat.le_refl _) (own_ew hw) (by decide +kernel) C1.1 (vs := [.int 90, .int 67, .int 70, .int 68, .int 66, .int 83, .int 73, .int 74]) (z := 8) (by decide +kernel) (by decide) (by decide) (g := (mkF m 41 #[.val (.int p1), .val (.int p2), .val (.int (5 : Int32)), .val (.ref a1), .unset, .unset] [])) rfl (hb hby at_41) (n := 32) (by decide +kernel) (by decide) (by decide) (by decide)
    refine Go.to st9 ?_
    have hZ : Z.Warmed39 (s.setVm T9.vm).vm := hZ9
    have hown : (s.setVm T9.vm).vm.findClass "oakwell/classfile/BytecodeNewarrayTypePinLaw" = some m.cls := hown9
    have A1 : AV Z h9 b1 .byte [91, 67] := avOf (xs := [91, 67]) (q4.ext E9) (by decide)
    have A2 : AV Z h9 b9 .byte [90, 67, 70, 68, 66, 83, 73, 74] := avOf (xs := [90, 67, 70, 68, 66, 83, 73, 74]) l4 (by decide)
    have q1 := Exa.ext E9 q1
    have q2 := Fld.ext E9 q2
    have q3 := Fld.ext E9 q3
    have S1 := Sta.ext E9 (Sta.ext E1 S1)
    have S2 := Sta.ext E9 (Sta.ext E1 S2)
    show Go p e below _ T9 (mkF m 43 #[.val (.int p1), .val (.int p2), .val (.int (5 : Int32)), .val (.ref a1), .unset, .unset] [(.ref a9)])
    refine Go.to (fun _ => XS.astore X9.here hx rfl (hb hby at_43) rfl rfl (l' := #[.val (.int p1), .val (.int p2), .val (.int (5 : Int32)), .val (.ref a1), .val (.ref a9), .unset]) rfl) ?_
    show Go p e below _ T9 (mkF m 45 #[.val (.int p1), .val (.int p2), .val (.int (5 : Int32)), .val (.ref a1), .val (.ref a9), .unset] [])
    refine Go.to (fun _ => XS.aload X9.here hx rfl (hb hby at_45) rfl rfl) ?_
    show Go p e below _ T9 (mkF m 47 #[.val (.int p1), .val (.int p2), .val (.int (5 : Int32)), .val (.ref a1), .val (.ref a9), .unset] [(.ref a9)])
    refine Go.to (fun _ => XS.iloadN X9.here hx rfl (hb hby at_47) rfl) ?_
    show Go p e below _ T9 (mkF m 48 #[.val (.int p1), .val (.int p2), .val (.int (5 : Int32)), .val (.ref a1), .val (.ref a9), .unset] [(.int (5 : Int32)), (.ref a9)])
    refine Go.to (fun _ => XS.iconst X9.here hx rfl (hb hby at_48)) ?_
    show Go p e below _ T9 (mkF m 49 #[.val (.int p1), .val (.int p2), .val (.int (5 : Int32)), .val (.ref a1), .val (.ref a9), .unset] [(.int (4 : Int32)), (.int (5 : Int32)), (.ref a9)])
    refine Go.to (fun _ => XS.isub X9.here hx rfl (hb hby at_49) rfl) ?_
    show Go p e below _ T9 (mkF m 50 #[.val (.int p1), .val (.int p2), .val (.int (5 : Int32)), .val (.ref a1), .val (.ref a9), .unset] [(.int ((5 : Int32) - (4 : Int32))), (.ref a9)])
    refine Go.callV (y := (⟨"java/lang/String", "charAt", "(I)C"⟩ : MethodName)) X9 hx hZ hown (hw _ (List.mem_of_getElem? (i := 13) rfl)) (hw _ (List.mem_of_getElem? (i := 14) rfl)) (hw _ (List.mem_of_getElem? (i := 16) rfl)) (hw _ (List.mem_of_getElem? (i := 15) rfl)) (hw _ (List.mem_of_getElem? (i := 5) rfl)) (hw _ (List.mem_of_getElem? (i := 17) rfl)) (by decide) (rm2 l Z a0 hw [] a9 ((5 : Int32) - (4 : Int32)) h9 b9 [90, 67, 70, 68, 66, 83, 73, 74] l1 l3 l2 A2 z S1 hz (by decide) (by decide) fm rfm S2 67 67 (by decide +kernel) (by decide +kernel) (by decide +kernel)) e9 l1 (by rw [hml]; rfl) (pd_3) rfl (argsL := [(.int ((5 : Int32) - (4 : Int32)))]) (rest := []) rfl rfl (hb hby at_50) (by decide) (Nat.le_of_ble_eq_true rfl) (by decide) (by decide) ?_
    rintro T6 _ L6 X6 ⟨rfl, e6, rfl⟩
    simp only [List.append_nil] at X6
    show Go p e below _ T6 (mkF m 53 #[.val (.int p1), .val (.int p2), .val (.int (5 : Int32)), .val (.ref a1), .val (.ref a9), .unset] [(.int (67 : Int32))])
    refine Go.to (fun _ => XS.istore X6.here hx rfl (hb hby at_53) rfl (l' := #[.val (.int p1), .val (.int p2), .val (.int (5 : Int32)), .val (.ref a1), .val (.ref a9), .val (.int (67 : Int32))]) rfl) ?_
    show Go p e below _ T6 (mkF m 55 #[.val (.int p1), .val (.int p2), .val (.int (5 : Int32)), .val (.ref a1), .val (.ref a9), .val (.int (67 : Int32))] [])
    refine Go.to (fun _ => XS.aloadN X6.here hx rfl (hb hby at_55) rfl rfl) ?_
    show Go p e below _ T6 (mkF m 56 #[.val (.int p1), .val (.int p2), .val (.int (5 : Int32)), .val (.ref a1), .val (.ref a9), .val (.int (67 : Int32))] [(.ref a1)])
    refine Go.to (fun _ => XS.ifnullNo X6.here hx rfl (hb hby at_56) rfl) ?_
    show Go p e below _ T6 (mkF m 59 #[.val (.int p1), .val (.int p2), .val (.int (5 : Int32)), .val (.ref a1), .val (.ref a9), .val (.int (67 : Int32))] [])
    refine Go.to (fun _ => XS.aloadN X6.here hx rfl (hb hby at_59) rfl rfl) ?_
    show Go p e below _ T6 (mkF m 60 #[.val (.int p1), .val (.int p2), .val (.int (5 : Int32)), .val (.ref a1), .val (.ref a9), .val (.int (67 : Int32))] [(.ref a1)])
    refine Go.callV (y := (⟨"java/lang/String", "length", "()I"⟩ : MethodName)) X6 hx hZ hown (hw _ (List.mem_of_getElem? (i := 38) rfl)) (hw _ (List.mem_of_getElem? (i := 39) rfl)) (hw _ (List.mem_of_getElem? (i := 41) rfl)) (hw _ (List.mem_of_getElem? (i := 40) rfl)) (hw _ (List.mem_of_getElem? (i := 5) rfl)) (hw _ (List.mem_of_getElem? (i := 42) rfl)) (by decide) (rm7 l Z a0 hw [] a1 h9 b1 [91, 67] q1 q3 q2 A1 z S1 hz 2 (by decide +kernel)) e6 q1 (by rw [hml]; rfl) (pd_2) rfl (argsL := []) (rest := []) rfl rfl (hb hby at_60) (by decide) (Nat.le_of_ble_eq_true rfl) (by decide) (by decide) ?_
    rintro T7 _ L7 X7 ⟨rfl, e7, rfl⟩
    simp only [List.append_nil] at X7
    show Go p e below _ T7 (mkF m 63 #[.val (.int p1), .val (.int p2), .val (.int (5 : Int32)), .val (.ref a1), .val (.ref a9), .val (.int (67 : Int32))] [(.int (2 : Int32))])
    refine Go.to (fun _ => XS.iconst X7.here hx rfl (hb hby at_63)) ?_
    show Go p e below _ T7 (mkF m 64 #[.val (.int p1), .val (.int p2), .val (.int (5 : Int32)), .val (.ref a1), .val (.ref a9), .val (.int (67 : Int32))] [(.int (2 : Int32)), (.int (2 : Int32))])
    refine Go.to (fun _ => XS.icmpNo X7.here hx rfl (hb hby at_64) rfl (teq (by decide)).2) ?_
    show Go p e below _ T7 (mkF m 67 #[.val (.int p1), .val (.int p2), .val (.int (5 : Int32)), .val (.ref a1), .val (.ref a9), .val (.int (67 : Int32))] [])
    refine Go.to (fun _ => XS.aloadN X7.here hx rfl (hb hby at_67) rfl rfl) ?_
    show Go p e below _ T7 (mkF m 68 #[.val (.int p1), .val (.int p2), .val (.int (5 : Int32)), .val (.ref a1), .val (.ref a9), .val (.int (67 : Int32))] [(.ref a1)])
    refine Go.to (fun _ => XS.iconst X7.here hx rfl (hb hby at_68)) ?_
    show Go p e below _ T7 (mkF m 69 #[.val (.int p1), .val (.int p2), .val (.int (5 : Int32)), .val (.ref a1), .val (.ref a9), .val (.int (67 : Int32))] [(.int (0 : Int32)), (.ref a1)])
    refine Go.callV (y := (⟨"java/lang/String", "charAt", "(I)C"⟩ : MethodName)) X7 hx hZ hown (hw _ (List.mem_of_getElem? (i := 13) rfl)) (hw _ (List.mem_of_getElem? (i := 14) rfl)) (hw _ (List.mem_of_getElem? (i := 16) rfl)) (hw _ (List.mem_of_getElem? (i := 15) rfl)) (hw _ (List.mem_of_getElem? (i := 5) rfl)) (hw _ (List.mem_of_getElem? (i := 17) rfl)) (by decide) (rm2 l Z a0 hw [] a1 (0 : Int32) h9 b1 [91, 67] q1 q3 q2 A1 z S1 hz (by decide) (by decide) fm rfm S2 91 91 (by decide +kernel) (by decide +kernel) (by decide +kernel)) e7 q1 (by rw [hml]; rfl) (pd_3) rfl (argsL := [(.int (0 : Int32))]) (rest := []) rfl rfl (hb hby at_69) (by decide) (Nat.le_of_ble_eq_true rfl) (by decide) (by decide) ?_
    rintro T8 _ L8 X8 ⟨rfl, e8, rfl⟩
    simp only [List.append_nil] at X8
    show Go p e below _ T8 (mkF m 72 #[.val (.int p1), .val (.int p2), .val (.int (5 : Int32)), .val (.ref a1), .val (.ref a9), .val (.int (67 : Int32))] [(.int (91 : Int32))])
    refine Go.to (fun _ => XS.bipush X8.here hx rfl (hb hby at_72)) ?_
    show Go p e below _ T8 (mkF m 74 #[.val (.int p1), .val (.int p2), .val (.int (5 : Int32)), .val (.ref a1), .val (.ref a9), .val (.int (67 : Int32))] [(.int (91 : Int32)), (.int (91 : Int32))])
    refine Go.to (fun _ => XS.icmpNo X8.here hx rfl (hb hby at_74) rfl (teq (by decide)).2) ?_
    show Go p e below _ T8 (mkF m 77 #[.val (.int p1), .val (.int p2), .val (.int (5 : Int32)), .val (.ref a1), .val (.ref a9), .val (.int (67 : Int32))] [])
    refine Go.to (fun _ => XS.aloadN X8.here hx rfl (hb hby at_77) rfl rfl) ?_
    show Go p e below _ T8 (mkF m 78 #[.val (.int p1), .val (.int p2), .val (.int (5 : Int32)), .val (.ref a1), .val (.ref a9), .val (.int (67 : Int32))] [(.ref a1)])
    refine Go.to (fun _ => XS.iconst X8.here hx rfl (hb hby at_78)) ?_
    show Go p e below _ T8 (mkF m 79 #[.val (.int p1), .val (.int p2), .val (.int (5 : Int32)), .val (.ref a1), .val (.ref a9), .val (.int (67 : Int32))] [(.int (1 : Int32)), (.ref a1)])
    refine Go.callV (y := (⟨"java/lang/String", "charAt", "(I)C"⟩ : MethodName)) X8 hx hZ hown (hw _ (List.mem_of_getElem? (i := 13) rfl)) (hw _ (List.mem_of_getElem? (i := 14) rfl)) (hw _ (List.mem_of_getElem? (i := 16) rfl)) (hw _ (List.mem_of_getElem? (i := 15) rfl)) (hw _ (List.mem_of_getElem? (i := 5) rfl)) (hw _ (List.mem_of_getElem? (i := 17) rfl)) (by decide) (rm2 l Z a0 hw [] a1 (1 : Int32) h9 b1 [91, 67] q1 q3 q2 A1 z S1 hz (by decide) (by decide) fm rfm S2 67 67 (by decide +kernel) (by decide +kernel) (by decide +kernel)) e8 q1 (by rw [hml]; rfl) (pd_3) rfl (argsL := [(.int (1 : Int32))]) (rest := []) rfl rfl (hb hby at_79) (by decide) (Nat.le_of_ble_eq_true rfl) (by decide) (by decide) ?_
    rintro T9 _ L9 X9 ⟨rfl, e9, rfl⟩
    simp only [List.append_nil] at X9
    show Go p e below _ T9 (mkF m 82 #[.val (.int p1), .val (.int p2), .val (.int (5 : Int32)), .val (.ref a1), .val (.ref a9), .val (.int (67 : Int32))] [(.int (67 : Int32))])
    refine Go.to (fun _ => XS.iload X9.here hx rfl (hb hby at_82) rfl) ?_
    show Go p e below _ T9 (mkF m 84 #[.val (.int p1), .val (.int p2), .val (.int (5 : Int32)), .val (.ref a1), .val (.ref a9), .val (.int (67 : Int32))] [(.int (67 : Int32)), (.int (67 : Int32))])
    refine Go.to (fun _ => XS.icmpNo X9.here hx rfl (hb hby at_84) rfl (teq (by decide)).2) ?_
    show Go p e below _ T9 (mkF m 87 #[.val (.int p1), .val (.int p2), .val (.int (5 : Int32)), .val (.ref a1), .val (.ref a9), .val (.int (67 : Int32))] [])
    refine Go.to (fun _ => XS.iconst X9.here hx rfl (hb hby at_87)) ?_
    show Go p e below _ T9 (mkF m 88 #[.val (.int p1), .val (.int p2), .val (.int (5 : Int32)), .val (.ref a1), .val (.ref a9), .val (.int (67 : Int32))] [(.int (1 : Int32))])
    refine Go.to (fun _ => XS.goto X9.here hx rfl (pc0 := 88) (pc' := 92) rfl (hb hby at_88) (by decide) (by decide)) ?_
    show Go p e below _ T9 (mkF m 92 #[.val (.int p1), .val (.int p2), .val (.int (5 : Int32)), .val (.ref a1), .val (.ref a9), .val (.int (67 : Int32))] [(.int (1 : Int32))])
    rw [hK]
    exact Go.retWW X9 hx hlk S9 (by rw [e9]; exact g9) hret rfl (Or.inl ⟨rfl, by simp, _, rfl⟩) (hb hby at_92) ⟨rfl, Fr.nil n0⟩ (by rw [e00, e9]; exact (C1.trans C9).trans (CHv.at X9 hZ (own_ew hw) C9.1)) (by decide) (by decide)
  · show Go p e below _ s₁ (mkF m 15 #[.val (.int p1), .val (.int p2), .val (.int (6 : Int32)), .unset, .unset, .unset] [])
    refine Go.to (fun _ => XS.iloadN X0.here hx rfl (hb hby at_15) rfl) ?_
    show Go p e below _ s₁ (mkF m 16 #[.val (.int p1), .val (.int p2), .val (.int (6 : Int32)), .unset, .unset, .unset] [(.int (6 : Int32))])
    refine Go.callSW (s := s) (vm0 := s.vm) (y := (⟨"oakwell/classfile/Bytecode", "newarrayType", "(I)Ljava/lang/String;"⟩ : MethodName)) X0 hx hZ hown ((State.WarmedH.refl s).since _) (Nat.le_refl _) (hw _ (List.mem_of_getElem? (i := 0) rfl)) (hw _ (List.mem_of_getElem? (i := 1) rfl)) (hw _ (List.mem_of_getElem? (i := 2) rfl)) (hw _ (List.mem_of_getElem? (i := 3) rfl)) (by decide) (own_ew hw) H0 (rm1_6 l Z a0 hw [] h0) e0 (by rw [hml]; rfl) (pd_7) rfl (argsL := [(.int (6 : Int32))]) (rest := []) rfl rfl (hb hby at_16) (by decide) (Nat.le_of_ble_eq_true rfl) (by decide) (by decide) ?_
    rintro T1 _ L1 X1 ⟨rfl, E1, a1, b1, c1, rfl, q1, q2, q3, q4⟩ S9 hZ1 hown1 C1
    simp only [List.append_nil] at X1
    have X0 := X1
    have hZ : Z.Warmed39 (s.setVm T1.vm).vm := hZ1
    have hown : (s.setVm T1.vm).vm.findClass "oakwell/classfile/BytecodeNewarrayTypePinLaw" = some m.cls := hown1
    show Go p e below _ T1 (mkF m 19 #[.val (.int p1), .val (.int p2), .val (.int (6 : Int32)), .unset, .unset, .unset] [(.ref a1)])
    refine Go.to (fun _ => XS.astoreN X1.here hx rfl (hb hby at_19) rfl rfl (l' := #[.val (.int p1), .val (.int p2), .val (.int (6 : Int32)), .val (.ref a1), .unset, .unset]) rfl) ?_
    show Go p e below _ T1 (mkF m 20 #[.val (.int p1), .val (.int p2), .val (.int (6 : Int32)), .val (.ref a1), .unset, .unset] [])
    refine Go.to (fun _ => XS.iloadN X1.here hx rfl (hb hby at_20) rfl) ?_
    show Go p e below _ T1 (mkF m 21 #[.val (.int p1), .val (.int p2), .val (.int (6 : Int32)), .val (.ref a1), .unset, .unset] [(.int (6 : Int32))])
    refine Go.to (fun _ => XS.iconst X1.here hx rfl (hb hby at_21)) ?_
    show Go p e below _ T1 (mkF m 22 #[.val (.int p1), .val (.int p2), .val (.int (6 : Int32)), .val (.ref a1), .unset, .unset] [(.int (4 : Int32)), (.int (6 : Int32))])
    refine Go.to (fun _ => XS.icmpNo X1.here hx rfl (hb hby at_22) rfl (flt (by decide)).1) ?_
    show Go p e below _ T1 (mkF m 25 #[.val (.int p1), .val (.int p2), .val (.int (6 : Int32)), .val (.ref a1), .unset, .unset] [])
    refine Go.to (fun _ => XS.iloadN X1.here hx rfl (hb hby at_25) rfl) ?_
    show Go p e below _ T1 (mkF m 26 #[.val (.int p1), .val (.int p2), .val (.int (6 : Int32)), .val (.ref a1), .unset, .unset] [(.int (6 : Int32))])
    refine Go.to (fun _ => XS.bipush X1.here hx rfl (hb hby at_26)) ?_
    show Go p e below _ T1 (mkF m 28 #[.val (.int p1), .val (.int p2), .val (.int (6 : Int32)), .val (.ref a1), .unset, .unset] [(.int (11 : Int32)), (.int (6 : Int32))])
    refine Go.to (fun _ => XS.icmpYes X1.here hx rfl (pc0 := 28) (pc' := 41) rfl (hb hby at_28) rfl (flt (by decide)).2.2.2 (by decide) (by decide)) ?_
    show Go p e below _ T1 (mkF m 41 #[.val (.int p1), .val (.int p2), .val (.int (6 : Int32)), .val (.ref a1), .unset, .unset] [])
    obtain ⟨a9, T9, h9, k9, b9, c9, X9, e9, E9, S9, g9, hZ9, hown9, l1, l2, l3, l4, -, -, C9, -, -, st9⟩ := ldcCH (s := s) (vm0 := T1.vm) X1 hx hZ1 hown1 (hw _ (List.mem_of_getElem? (i := 12) rfl)) (own_sa hw) rfl S9 (Nat.le_refl _) (own_ew hw) (by decide +kernel) C1.1 (vs := [.int 90, .int 67, .int 70, .int 68, .int 66, .int 83, .int 73, .int 74]) (z := 8) (by decide +kernel) (by decide) (by decide) (g := (mkF m 41 #[.val (.int p1), .val (.int p2), .val (.int (6 : Int32)), .val (.ref a1), .unset, .unset] [])) rfl (hb hby at_41) (n := 32) (by decide +kernel) (by decide) (by decide) (by decide)
    refine Go.to st9 ?_
    have hZ : Z.Warmed39 (s.setVm T9.vm).vm := hZ9
    have hown : (s.setVm T9.vm).vm.findClass "oakwell/classfile/BytecodeNewarrayTypePinLaw" = some m.cls := hown9
    have A1 : AV Z h9 b1 .byte [91, 70] := avOf (xs := [91, 70]) (q4.ext E9) (by decide)
    have A2 : AV Z h9 b9 .byte [90, 67, 70, 68, 66, 83, 73, 74] := avOf (xs := [90, 67, 70, 68, 66, 83, 73, 74]) l4 (by decide)
    have q1 := Exa.ext E9 q1
    have q2 := Fld.ext E9 q2
    have q3 := Fld.ext E9 q3
    have S1 := Sta.ext E9 (Sta.ext E1 S1)
    have S2 := Sta.ext E9 (Sta.ext E1 S2)
    show Go p e below _ T9 (mkF m 43 #[.val (.int p1), .val (.int p2), .val (.int (6 : Int32)), .val (.ref a1), .unset, .unset] [(.ref a9)])
    refine Go.to (fun _ => XS.astore X9.here hx rfl (hb hby at_43) rfl rfl (l' := #[.val (.int p1), .val (.int p2), .val (.int (6 : Int32)), .val (.ref a1), .val (.ref a9), .unset]) rfl) ?_
    show Go p e below _ T9 (mkF m 45 #[.val (.int p1), .val (.int p2), .val (.int (6 : Int32)), .val (.ref a1), .val (.ref a9), .unset] [])
    refine Go.to (fun _ => XS.aload X9.here hx rfl (hb hby at_45) rfl rfl) ?_
    show Go p e below _ T9 (mkF m 47 #[.val (.int p1), .val (.int p2), .val (.int (6 : Int32)), .val (.ref a1), .val (.ref a9), .unset] [(.ref a9)])
    refine Go.to (fun _ => XS.iloadN X9.here hx rfl (hb hby at_47) rfl) ?_
    show Go p e below _ T9 (mkF m 48 #[.val (.int p1), .val (.int p2), .val (.int (6 : Int32)), .val (.ref a1), .val (.ref a9), .unset] [(.int (6 : Int32)), (.ref a9)])
    refine Go.to (fun _ => XS.iconst X9.here hx rfl (hb hby at_48)) ?_
    show Go p e below _ T9 (mkF m 49 #[.val (.int p1), .val (.int p2), .val (.int (6 : Int32)), .val (.ref a1), .val (.ref a9), .unset] [(.int (4 : Int32)), (.int (6 : Int32)), (.ref a9)])
    refine Go.to (fun _ => XS.isub X9.here hx rfl (hb hby at_49) rfl) ?_
    show Go p e below _ T9 (mkF m 50 #[.val (.int p1), .val (.int p2), .val (.int (6 : Int32)), .val (.ref a1), .val (.ref a9), .unset] [(.int ((6 : Int32) - (4 : Int32))), (.ref a9)])
    refine Go.callV (y := (⟨"java/lang/String", "charAt", "(I)C"⟩ : MethodName)) X9 hx hZ hown (hw _ (List.mem_of_getElem? (i := 13) rfl)) (hw _ (List.mem_of_getElem? (i := 14) rfl)) (hw _ (List.mem_of_getElem? (i := 16) rfl)) (hw _ (List.mem_of_getElem? (i := 15) rfl)) (hw _ (List.mem_of_getElem? (i := 5) rfl)) (hw _ (List.mem_of_getElem? (i := 17) rfl)) (by decide) (rm2 l Z a0 hw [] a9 ((6 : Int32) - (4 : Int32)) h9 b9 [90, 67, 70, 68, 66, 83, 73, 74] l1 l3 l2 A2 z S1 hz (by decide) (by decide) fm rfm S2 70 70 (by decide +kernel) (by decide +kernel) (by decide +kernel)) e9 l1 (by rw [hml]; rfl) (pd_3) rfl (argsL := [(.int ((6 : Int32) - (4 : Int32)))]) (rest := []) rfl rfl (hb hby at_50) (by decide) (Nat.le_of_ble_eq_true rfl) (by decide) (by decide) ?_
    rintro T10 _ L10 X10 ⟨rfl, e10, rfl⟩
    simp only [List.append_nil] at X10
    show Go p e below _ T10 (mkF m 53 #[.val (.int p1), .val (.int p2), .val (.int (6 : Int32)), .val (.ref a1), .val (.ref a9), .unset] [(.int (70 : Int32))])
    refine Go.to (fun _ => XS.istore X10.here hx rfl (hb hby at_53) rfl (l' := #[.val (.int p1), .val (.int p2), .val (.int (6 : Int32)), .val (.ref a1), .val (.ref a9), .val (.int (70 : Int32))]) rfl) ?_
    show Go p e below _ T10 (mkF m 55 #[.val (.int p1), .val (.int p2), .val (.int (6 : Int32)), .val (.ref a1), .val (.ref a9), .val (.int (70 : Int32))] [])
    refine Go.to (fun _ => XS.aloadN X10.here hx rfl (hb hby at_55) rfl rfl) ?_
    show Go p e below _ T10 (mkF m 56 #[.val (.int p1), .val (.int p2), .val (.int (6 : Int32)), .val (.ref a1), .val (.ref a9), .val (.int (70 : Int32))] [(.ref a1)])
    refine Go.to (fun _ => XS.ifnullNo X10.here hx rfl (hb hby at_56) rfl) ?_
    show Go p e below _ T10 (mkF m 59 #[.val (.int p1), .val (.int p2), .val (.int (6 : Int32)), .val (.ref a1), .val (.ref a9), .val (.int (70 : Int32))] [])
    refine Go.to (fun _ => XS.aloadN X10.here hx rfl (hb hby at_59) rfl rfl) ?_
    show Go p e below _ T10 (mkF m 60 #[.val (.int p1), .val (.int p2), .val (.int (6 : Int32)), .val (.ref a1), .val (.ref a9), .val (.int (70 : Int32))] [(.ref a1)])
    refine Go.callV (y := (⟨"java/lang/String", "length", "()I"⟩ : MethodName)) X10 hx hZ hown (hw _ (List.mem_of_getElem? (i := 38) rfl)) (hw _ (List.mem_of_getElem? (i := 39) rfl)) (hw _ (List.mem_of_getElem? (i := 41) rfl)) (hw _ (List.mem_of_getElem? (i := 40) rfl)) (hw _ (List.mem_of_getElem? (i := 5) rfl)) (hw _ (List.mem_of_getElem? (i := 42) rfl)) (by decide) (rm7 l Z a0 hw [] a1 h9 b1 [91, 70] q1 q3 q2 A1 z S1 hz 2 (by decide +kernel)) e10 q1 (by rw [hml]; rfl) (pd_2) rfl (argsL := []) (rest := []) rfl rfl (hb hby at_60) (by decide) (Nat.le_of_ble_eq_true rfl) (by decide) (by decide) ?_
    rintro T11 _ L11 X11 ⟨rfl, e11, rfl⟩
    simp only [List.append_nil] at X11
    show Go p e below _ T11 (mkF m 63 #[.val (.int p1), .val (.int p2), .val (.int (6 : Int32)), .val (.ref a1), .val (.ref a9), .val (.int (70 : Int32))] [(.int (2 : Int32))])
    refine Go.to (fun _ => XS.iconst X11.here hx rfl (hb hby at_63)) ?_
    show Go p e below _ T11 (mkF m 64 #[.val (.int p1), .val (.int p2), .val (.int (6 : Int32)), .val (.ref a1), .val (.ref a9), .val (.int (70 : Int32))] [(.int (2 : Int32)), (.int (2 : Int32))])
    refine Go.to (fun _ => XS.icmpNo X11.here hx rfl (hb hby at_64) rfl (teq (by decide)).2) ?_
    show Go p e below _ T11 (mkF m 67 #[.val (.int p1), .val (.int p2), .val (.int (6 : Int32)), .val (.ref a1), .val (.ref a9), .val (.int (70 : Int32))] [])
    refine Go.to (fun _ => XS.aloadN X11.here hx rfl (hb hby at_67) rfl rfl) ?_
    show Go p e below _ T11 (mkF m 68 #[.val (.int p1), .val (.int p2), .val (.int (6 : Int32)), .val (.ref a1), .val (.ref a9), .val (.int (70 : Int32))] [(.ref a1)])
    refine Go.to (fun _ => XS.iconst X11.here hx rfl (hb hby at_68)) ?_
    show Go p e below _ T11 (mkF m 69 #[.val (.int p1), .val (.int p2), .val (.int (6 : Int32)), .val (.ref a1), .val (.ref a9), .val (.int (70 : Int32))] [(.int (0 : Int32)), (.ref a1)])
    refine Go.callV (y := (⟨"java/lang/String", "charAt", "(I)C"⟩ : MethodName)) X11 hx hZ hown (hw _ (List.mem_of_getElem? (i := 13) rfl)) (hw _ (List.mem_of_getElem? (i := 14) rfl)) (hw _ (List.mem_of_getElem? (i := 16) rfl)) (hw _ (List.mem_of_getElem? (i := 15) rfl)) (hw _ (List.mem_of_getElem? (i := 5) rfl)) (hw _ (List.mem_of_getElem? (i := 17) rfl)) (by decide) (rm2 l Z a0 hw [] a1 (0 : Int32) h9 b1 [91, 70] q1 q3 q2 A1 z S1 hz (by decide) (by decide) fm rfm S2 91 91 (by decide +kernel) (by decide +kernel) (by decide +kernel)) e11 q1 (by rw [hml]; rfl) (pd_3) rfl (argsL := [(.int (0 : Int32))]) (rest := []) rfl rfl (hb hby at_69) (by decide) (Nat.le_of_ble_eq_true rfl) (by decide) (by decide) ?_
    rintro T12 _ L12 X12 ⟨rfl, e12, rfl⟩
    simp only [List.append_nil] at X12
    show Go p e below _ T12 (mkF m 72 #[.val (.int p1), .val (.int p2), .val (.int (6 : Int32)), .val (.ref a1), .val (.ref a9), .val (.int (70 : Int32))] [(.int (91 : Int32))])
    refine Go.to (fun _ => XS.bipush X12.here hx rfl (hb hby at_72)) ?_
    show Go p e below _ T12 (mkF m 74 #[.val (.int p1), .val (.int p2), .val (.int (6 : Int32)), .val (.ref a1), .val (.ref a9), .val (.int (70 : Int32))] [(.int (91 : Int32)), (.int (91 : Int32))])
    refine Go.to (fun _ => XS.icmpNo X12.here hx rfl (hb hby at_74) rfl (teq (by decide)).2) ?_
    show Go p e below _ T12 (mkF m 77 #[.val (.int p1), .val (.int p2), .val (.int (6 : Int32)), .val (.ref a1), .val (.ref a9), .val (.int (70 : Int32))] [])
    refine Go.to (fun _ => XS.aloadN X12.here hx rfl (hb hby at_77) rfl rfl) ?_
    show Go p e below _ T12 (mkF m 78 #[.val (.int p1), .val (.int p2), .val (.int (6 : Int32)), .val (.ref a1), .val (.ref a9), .val (.int (70 : Int32))] [(.ref a1)])
    refine Go.to (fun _ => XS.iconst X12.here hx rfl (hb hby at_78)) ?_
    show Go p e below _ T12 (mkF m 79 #[.val (.int p1), .val (.int p2), .val (.int (6 : Int32)), .val (.ref a1), .val (.ref a9), .val (.int (70 : Int32))] [(.int (1 : Int32)), (.ref a1)])
    refine Go.callV (y := (⟨"java/lang/String", "charAt", "(I)C"⟩ : MethodName)) X12 hx hZ hown (hw _ (List.mem_of_getElem? (i := 13) rfl)) (hw _ (List.mem_of_getElem? (i := 14) rfl)) (hw _ (List.mem_of_getElem? (i := 16) rfl)) (hw _ (List.mem_of_getElem? (i := 15) rfl)) (hw _ (List.mem_of_getElem? (i := 5) rfl)) (hw _ (List.mem_of_getElem? (i := 17) rfl)) (by decide) (rm2 l Z a0 hw [] a1 (1 : Int32) h9 b1 [91, 70] q1 q3 q2 A1 z S1 hz (by decide) (by decide) fm rfm S2 70 70 (by decide +kernel) (by decide +kernel) (by decide +kernel)) e12 q1 (by rw [hml]; rfl) (pd_3) rfl (argsL := [(.int (1 : Int32))]) (rest := []) rfl rfl (hb hby at_79) (by decide) (Nat.le_of_ble_eq_true rfl) (by decide) (by decide) ?_
    rintro T13 _ L13 X13 ⟨rfl, e13, rfl⟩
    simp only [List.append_nil] at X13
    show Go p e below _ T13 (mkF m 82 #[.val (.int p1), .val (.int p2), .val (.int (6 : Int32)), .val (.ref a1), .val (.ref a9), .val (.int (70 : Int32))] [(.int (70 : Int32))])
    refine Go.to (fun _ => XS.iload X13.here hx rfl (hb hby at_82) rfl) ?_
    show Go p e below _ T13 (mkF m 84 #[.val (.int p1), .val (.int p2), .val (.int (6 : Int32)), .val (.ref a1), .val (.ref a9), .val (.int (70 : Int32))] [(.int (70 : Int32)), (.int (70 : Int32))])
    refine Go.to (fun _ => XS.icmpNo X13.here hx rfl (hb hby at_84) rfl (teq (by decide)).2) ?_
    show Go p e below _ T13 (mkF m 87 #[.val (.int p1), .val (.int p2), .val (.int (6 : Int32)), .val (.ref a1), .val (.ref a9), .val (.int (70 : Int32))] [])
    refine Go.to (fun _ => XS.iconst X13.here hx rfl (hb hby at_87)) ?_
    show Go p e below _ T13 (mkF m 88 #[.val (.int p1), .val (.int p2), .val (.int (6 : Int32)), .val (.ref a1), .val (.ref a9), .val (.int (70 : Int32))] [(.int (1 : Int32))])
    refine Go.to (fun _ => XS.goto X13.here hx rfl (pc0 := 88) (pc' := 92) rfl (hb hby at_88) (by decide) (by decide)) ?_
    show Go p e below _ T13 (mkF m 92 #[.val (.int p1), .val (.int p2), .val (.int (6 : Int32)), .val (.ref a1), .val (.ref a9), .val (.int (70 : Int32))] [(.int (1 : Int32))])
    rw [hK]
    exact Go.retWW X13 hx hlk S9 (by rw [e13]; exact g9) hret rfl (Or.inl ⟨rfl, by simp, _, rfl⟩) (hb hby at_92) ⟨rfl, Fr.nil n0⟩ (by rw [e00, e13]; exact (C1.trans C9).trans (CHv.at X13 hZ (own_ew hw) C9.1)) (by decide) (by decide)
  · show Go p e below _ s₁ (mkF m 15 #[.val (.int p1), .val (.int p2), .val (.int (7 : Int32)), .unset, .unset, .unset] [])
    refine Go.to (fun _ => XS.iloadN X0.here hx rfl (hb hby at_15) rfl) ?_
    show Go p e below _ s₁ (mkF m 16 #[.val (.int p1), .val (.int p2), .val (.int (7 : Int32)), .unset, .unset, .unset] [(.int (7 : Int32))])
    refine Go.callSW (s := s) (vm0 := s.vm) (y := (⟨"oakwell/classfile/Bytecode", "newarrayType", "(I)Ljava/lang/String;"⟩ : MethodName)) X0 hx hZ hown ((State.WarmedH.refl s).since _) (Nat.le_refl _) (hw _ (List.mem_of_getElem? (i := 0) rfl)) (hw _ (List.mem_of_getElem? (i := 1) rfl)) (hw _ (List.mem_of_getElem? (i := 2) rfl)) (hw _ (List.mem_of_getElem? (i := 3) rfl)) (by decide) (own_ew hw) H0 (rm1_7 l Z a0 hw [] h0) e0 (by rw [hml]; rfl) (pd_7) rfl (argsL := [(.int (7 : Int32))]) (rest := []) rfl rfl (hb hby at_16) (by decide) (Nat.le_of_ble_eq_true rfl) (by decide) (by decide) ?_
    rintro T1 _ L1 X1 ⟨rfl, E1, a1, b1, c1, rfl, q1, q2, q3, q4⟩ S9 hZ1 hown1 C1
    simp only [List.append_nil] at X1
    have X0 := X1
    have hZ : Z.Warmed39 (s.setVm T1.vm).vm := hZ1
    have hown : (s.setVm T1.vm).vm.findClass "oakwell/classfile/BytecodeNewarrayTypePinLaw" = some m.cls := hown1
    show Go p e below _ T1 (mkF m 19 #[.val (.int p1), .val (.int p2), .val (.int (7 : Int32)), .unset, .unset, .unset] [(.ref a1)])
    refine Go.to (fun _ => XS.astoreN X1.here hx rfl (hb hby at_19) rfl rfl (l' := #[.val (.int p1), .val (.int p2), .val (.int (7 : Int32)), .val (.ref a1), .unset, .unset]) rfl) ?_
    show Go p e below _ T1 (mkF m 20 #[.val (.int p1), .val (.int p2), .val (.int (7 : Int32)), .val (.ref a1), .unset, .unset] [])
    refine Go.to (fun _ => XS.iloadN X1.here hx rfl (hb hby at_20) rfl) ?_
    show Go p e below _ T1 (mkF m 21 #[.val (.int p1), .val (.int p2), .val (.int (7 : Int32)), .val (.ref a1), .unset, .unset] [(.int (7 : Int32))])
    refine Go.to (fun _ => XS.iconst X1.here hx rfl (hb hby at_21)) ?_
    show Go p e below _ T1 (mkF m 22 #[.val (.int p1), .val (.int p2), .val (.int (7 : Int32)), .val (.ref a1), .unset, .unset] [(.int (4 : Int32)), (.int (7 : Int32))])
    refine Go.to (fun _ => XS.icmpNo X1.here hx rfl (hb hby at_22) rfl (flt (by decide)).1) ?_
    show Go p e below _ T1 (mkF m 25 #[.val (.int p1), .val (.int p2), .val (.int (7 : Int32)), .val (.ref a1), .unset, .unset] [])
    refine Go.to (fun _ => XS.iloadN X1.here hx rfl (hb hby at_25) rfl) ?_
    show Go p e below _ T1 (mkF m 26 #[.val (.int p1), .val (.int p2), .val (.int (7 : Int32)), .val (.ref a1), .unset, .unset] [(.int (7 : Int32))])
    refine Go.to (fun _ => XS.bipush X1.here hx rfl (hb hby at_26)) ?_
    show Go p e below _ T1 (mkF m 28 #[.val (.int p1), .val (.int p2), .val (.int (7 : Int32)), .val (.ref a1), .unset, .unset] [(.int (11 : Int32)), (.int (7 : Int32))])
    refine Go.to (fun _ => XS.icmpYes X1.here hx rfl (pc0 := 28) (pc' := 41) rfl (hb hby at_28) rfl (flt (by decide)).2.2.2 (by decide) (by decide)) ?_
    show Go p e below _ T1 (mkF m 41 #[.val (.int p1), .val (.int p2), .val (.int (7 : Int32)), .val (.ref a1), .unset, .unset] [])
    obtain ⟨a9, T9, h9, k9, b9, c9, X9, e9, E9, S9, g9, hZ9, hown9, l1, l2, l3, l4, -, -, C9, -, -, st9⟩ := ldcCH (s := s) (vm0 := T1.vm) X1 hx hZ1 hown1 (hw _ (List.mem_of_getElem? (i := 12) rfl)) (own_sa hw) rfl S9 (Nat.le_refl _) (own_ew hw) (by decide +kernel) C1.1 (vs := [.int 90, .int 67, .int 70, .int 68, .int 66, .int 83, .int 73, .int 74]) (z := 8) (by decide +kernel) (by decide) (by decide) (g := (mkF m 41 #[.val (.int p1), .val (.int p2), .val (.int (7 : Int32)), .val (.ref a1), .unset, .unset] [])) rfl (hb hby at_41) (n := 32) (by decide +kernel) (by decide) (by decide) (by decide)
    refine Go.to st9 ?_
    have hZ : Z.Warmed39 (s.setVm T9.vm).vm := hZ9
    have hown : (s.setVm T9.vm).vm.findClass "oakwell/classfile/BytecodeNewarrayTypePinLaw" = some m.cls := hown9
    have A1 : AV Z h9 b1 .byte [91, 68] := avOf (xs := [91, 68]) (q4.ext E9) (by decide)
    have A2 : AV Z h9 b9 .byte [90, 67, 70, 68, 66, 83, 73, 74] := avOf (xs := [90, 67, 70, 68, 66, 83, 73, 74]) l4 (by decide)
    have q1 := Exa.ext E9 q1
    have q2 := Fld.ext E9 q2
    have q3 := Fld.ext E9 q3
    have S1 := Sta.ext E9 (Sta.ext E1 S1)
    have S2 := Sta.ext E9 (Sta.ext E1 S2)
    show Go p e below _ T9 (mkF m 43 #[.val (.int p1), .val (.int p2), .val (.int (7 : Int32)), .val (.ref a1), .unset, .unset] [(.ref a9)])
    refine Go.to (fun _ => XS.astore X9.here hx rfl (hb hby at_43) rfl rfl (l' := #[.val (.int p1), .val (.int p2), .val (.int (7 : Int32)), .val (.ref a1), .val (.ref a9), .unset]) rfl) ?_
    show Go p e below _ T9 (mkF m 45 #[.val (.int p1), .val (.int p2), .val (.int (7 : Int32)), .val (.ref a1), .val (.ref a9), .unset] [])
    refine Go.to (fun _ => XS.aload X9.here hx rfl (hb hby at_45) rfl rfl) ?_
    show Go p e below _ T9 (mkF m 47 #[.val (.int p1), .val (.int p2), .val (.int (7 : Int32)), .val (.ref a1), .val (.ref a9), .unset] [(.ref a9)])
    refine Go.to (fun _ => XS.iloadN X9.here hx rfl (hb hby at_47) rfl) ?_
    show Go p e below _ T9 (mkF m 48 #[.val (.int p1), .val (.int p2), .val (.int (7 : Int32)), .val (.ref a1), .val (.ref a9), .unset] [(.int (7 : Int32)), (.ref a9)])
    refine Go.to (fun _ => XS.iconst X9.here hx rfl (hb hby at_48)) ?_
    show Go p e below _ T9 (mkF m 49 #[.val (.int p1), .val (.int p2), .val (.int (7 : Int32)), .val (.ref a1), .val (.ref a9), .unset] [(.int (4 : Int32)), (.int (7 : Int32)), (.ref a9)])
    refine Go.to (fun _ => XS.isub X9.here hx rfl (hb hby at_49) rfl) ?_
    show Go p e below _ T9 (mkF m 50 #[.val (.int p1), .val (.int p2), .val (.int (7 : Int32)), .val (.ref a1), .val (.ref a9), .unset] [(.int ((7 : Int32) - (4 : Int32))), (.ref a9)])
    refine Go.callV (y := (⟨"java/lang/String", "charAt", "(I)C"⟩ : MethodName)) X9 hx hZ hown (hw _ (List.mem_of_getElem? (i := 13) rfl)) (hw _ (List.mem_of_getElem? (i := 14) rfl)) (hw _ (List.mem_of_getElem? (i := 16) rfl)) (hw _ (List.mem_of_getElem? (i := 15) rfl)) (hw _ (List.mem_of_getElem? (i := 5) rfl)) (hw _ (List.mem_of_getElem? (i := 17) rfl)) (by decide) (rm2 l Z a0 hw [] a9 ((7 : Int32) - (4 : Int32)) h9 b9 [90, 67, 70, 68, 66, 83, 73, 74] l1 l3 l2 A2 z S1 hz (by decide) (by decide) fm rfm S2 68 68 (by decide +kernel) (by decide +kernel) (by decide +kernel)) e9 l1 (by rw [hml]; rfl) (pd_3) rfl (argsL := [(.int ((7 : Int32) - (4 : Int32)))]) (rest := []) rfl rfl (hb hby at_50) (by decide) (Nat.le_of_ble_eq_true rfl) (by decide) (by decide) ?_
    rintro T14 _ L14 X14 ⟨rfl, e14, rfl⟩
    simp only [List.append_nil] at X14
    show Go p e below _ T14 (mkF m 53 #[.val (.int p1), .val (.int p2), .val (.int (7 : Int32)), .val (.ref a1), .val (.ref a9), .unset] [(.int (68 : Int32))])
    refine Go.to (fun _ => XS.istore X14.here hx rfl (hb hby at_53) rfl (l' := #[.val (.int p1), .val (.int p2), .val (.int (7 : Int32)), .val (.ref a1), .val (.ref a9), .val (.int (68 : Int32))]) rfl) ?_
    show Go p e below _ T14 (mkF m 55 #[.val (.int p1), .val (.int p2), .val (.int (7 : Int32)), .val (.ref a1), .val (.ref a9), .val (.int (68 : Int32))] [])
    refine Go.to (fun _ => XS.aloadN X14.here hx rfl (hb hby at_55) rfl rfl) ?_
    show Go p e below _ T14 (mkF m 56 #[.val (.int p1), .val (.int p2), .val (.int (7 : Int32)), .val (.ref a1), .val (.ref a9), .val (.int (68 : Int32))] [(.ref a1)])
    refine Go.to (fun _ => XS.ifnullNo X14.here hx rfl (hb hby at_56) rfl) ?_
    show Go p e below _ T14 (mkF m 59 #[.val (.int p1), .val (.int p2), .val (.int (7 : Int32)), .val (.ref a1), .val (.ref a9), .val (.int (68 : Int32))] [])
    refine Go.to (fun _ => XS.aloadN X14.here hx rfl (hb hby at_59) rfl rfl) ?_
    show Go p e below _ T14 (mkF m 60 #[.val (.int p1), .val (.int p2), .val (.int (7 : Int32)), .val (.ref a1), .val (.ref a9), .val (.int (68 : Int32))] [(.ref a1)])
    refine Go.callV (y := (⟨"java/lang/String", "length", "()I"⟩ : MethodName)) X14 hx hZ hown (hw _ (List.mem_of_getElem? (i := 38) rfl)) (hw _ (List.mem_of_getElem? (i := 39) rfl)) (hw _ (List.mem_of_getElem? (i := 41) rfl)) (hw _ (List.mem_of_getElem? (i := 40) rfl)) (hw _ (List.mem_of_getElem? (i := 5) rfl)) (hw _ (List.mem_of_getElem? (i := 42) rfl)) (by decide) (rm7 l Z a0 hw [] a1 h9 b1 [91, 68] q1 q3 q2 A1 z S1 hz 2 (by decide +kernel)) e14 q1 (by rw [hml]; rfl) (pd_2) rfl (argsL := []) (rest := []) rfl rfl (hb hby at_60) (by decide) (Nat.le_of_ble_eq_true rfl) (by decide) (by decide) ?_
    rintro T15 _ L15 X15 ⟨rfl, e15, rfl⟩
    simp only [List.append_nil] at X15
    show Go p e below _ T15 (mkF m 63 #[.val (.int p1), .val (.int p2), .val (.int (7 : Int32)), .val (.ref a1), .val (.ref a9), .val (.int (68 : Int32))] [(.int (2 : Int32))])
    refine Go.to (fun _ => XS.iconst X15.here hx rfl (hb hby at_63)) ?_
    show Go p e below _ T15 (mkF m 64 #[.val (.int p1), .val (.int p2), .val (.int (7 : Int32)), .val (.ref a1), .val (.ref a9), .val (.int (68 : Int32))] [(.int (2 : Int32)), (.int (2 : Int32))])
    refine Go.to (fun _ => XS.icmpNo X15.here hx rfl (hb hby at_64) rfl (teq (by decide)).2) ?_
    show Go p e below _ T15 (mkF m 67 #[.val (.int p1), .val (.int p2), .val (.int (7 : Int32)), .val (.ref a1), .val (.ref a9), .val (.int (68 : Int32))] [])
    refine Go.to (fun _ => XS.aloadN X15.here hx rfl (hb hby at_67) rfl rfl) ?_
    show Go p e below _ T15 (mkF m 68 #[.val (.int p1), .val (.int p2), .val (.int (7 : Int32)), .val (.ref a1), .val (.ref a9), .val (.int (68 : Int32))] [(.ref a1)])
    refine Go.to (fun _ => XS.iconst X15.here hx rfl (hb hby at_68)) ?_
    show Go p e below _ T15 (mkF m 69 #[.val (.int p1), .val (.int p2), .val (.int (7 : Int32)), .val (.ref a1), .val (.ref a9), .val (.int (68 : Int32))] [(.int (0 : Int32)), (.ref a1)])
    refine Go.callV (y := (⟨"java/lang/String", "charAt", "(I)C"⟩ : MethodName)) X15 hx hZ hown (hw _ (List.mem_of_getElem? (i := 13) rfl)) (hw _ (List.mem_of_getElem? (i := 14) rfl)) (hw _ (List.mem_of_getElem? (i := 16) rfl)) (hw _ (List.mem_of_getElem? (i := 15) rfl)) (hw _ (List.mem_of_getElem? (i := 5) rfl)) (hw _ (List.mem_of_getElem? (i := 17) rfl)) (by decide) (rm2 l Z a0 hw [] a1 (0 : Int32) h9 b1 [91, 68] q1 q3 q2 A1 z S1 hz (by decide) (by decide) fm rfm S2 91 91 (by decide +kernel) (by decide +kernel) (by decide +kernel)) e15 q1 (by rw [hml]; rfl) (pd_3) rfl (argsL := [(.int (0 : Int32))]) (rest := []) rfl rfl (hb hby at_69) (by decide) (Nat.le_of_ble_eq_true rfl) (by decide) (by decide) ?_
    rintro T16 _ L16 X16 ⟨rfl, e16, rfl⟩
    simp only [List.append_nil] at X16
    show Go p e below _ T16 (mkF m 72 #[.val (.int p1), .val (.int p2), .val (.int (7 : Int32)), .val (.ref a1), .val (.ref a9), .val (.int (68 : Int32))] [(.int (91 : Int32))])
    refine Go.to (fun _ => XS.bipush X16.here hx rfl (hb hby at_72)) ?_
    show Go p e below _ T16 (mkF m 74 #[.val (.int p1), .val (.int p2), .val (.int (7 : Int32)), .val (.ref a1), .val (.ref a9), .val (.int (68 : Int32))] [(.int (91 : Int32)), (.int (91 : Int32))])
    refine Go.to (fun _ => XS.icmpNo X16.here hx rfl (hb hby at_74) rfl (teq (by decide)).2) ?_
    show Go p e below _ T16 (mkF m 77 #[.val (.int p1), .val (.int p2), .val (.int (7 : Int32)), .val (.ref a1), .val (.ref a9), .val (.int (68 : Int32))] [])
    refine Go.to (fun _ => XS.aloadN X16.here hx rfl (hb hby at_77) rfl rfl) ?_
    show Go p e below _ T16 (mkF m 78 #[.val (.int p1), .val (.int p2), .val (.int (7 : Int32)), .val (.ref a1), .val (.ref a9), .val (.int (68 : Int32))] [(.ref a1)])
    refine Go.to (fun _ => XS.iconst X16.here hx rfl (hb hby at_78)) ?_
    show Go p e below _ T16 (mkF m 79 #[.val (.int p1), .val (.int p2), .val (.int (7 : Int32)), .val (.ref a1), .val (.ref a9), .val (.int (68 : Int32))] [(.int (1 : Int32)), (.ref a1)])
    refine Go.callV (y := (⟨"java/lang/String", "charAt", "(I)C"⟩ : MethodName)) X16 hx hZ hown (hw _ (List.mem_of_getElem? (i := 13) rfl)) (hw _ (List.mem_of_getElem? (i := 14) rfl)) (hw _ (List.mem_of_getElem? (i := 16) rfl)) (hw _ (List.mem_of_getElem? (i := 15) rfl)) (hw _ (List.mem_of_getElem? (i := 5) rfl)) (hw _ (List.mem_of_getElem? (i := 17) rfl)) (by decide) (rm2 l Z a0 hw [] a1 (1 : Int32) h9 b1 [91, 68] q1 q3 q2 A1 z S1 hz (by decide) (by decide) fm rfm S2 68 68 (by decide +kernel) (by decide +kernel) (by decide +kernel)) e16 q1 (by rw [hml]; rfl) (pd_3) rfl (argsL := [(.int (1 : Int32))]) (rest := []) rfl rfl (hb hby at_79) (by decide) (Nat.le_of_ble_eq_true rfl) (by decide) (by decide) ?_
    rintro T17 _ L17 X17 ⟨rfl, e17, rfl⟩
    simp only [List.append_nil] at X17
    show Go p e below _ T17 (mkF m 82 #[.val (.int p1), .val (.int p2), .val (.int (7 : Int32)), .val (.ref a1), .val (.ref a9), .val (.int (68 : Int32))] [(.int (68 : Int32))])
    refine Go.to (fun _ => XS.iload X17.here hx rfl (hb hby at_82) rfl) ?_
    show Go p e below _ T17 (mkF m 84 #[.val (.int p1), .val (.int p2), .val (.int (7 : Int32)), .val (.ref a1), .val (.ref a9), .val (.int (68 : Int32))] [(.int (68 : Int32)), (.int (68 : Int32))])
    refine Go.to (fun _ => XS.icmpNo X17.here hx rfl (hb hby at_84) rfl (teq (by decide)).2) ?_
    show Go p e below _ T17 (mkF m 87 #[.val (.int p1), .val (.int p2), .val (.int (7 : Int32)), .val (.ref a1), .val (.ref a9), .val (.int (68 : Int32))] [])
    refine Go.to (fun _ => XS.iconst X17.here hx rfl (hb hby at_87)) ?_
    show Go p e below _ T17 (mkF m 88 #[.val (.int p1), .val (.int p2), .val (.int (7 : Int32)), .val (.ref a1), .val (.ref a9), .val (.int (68 : Int32))] [(.int (1 : Int32))])
    refine Go.to (fun _ => XS.goto X17.here hx rfl (pc0 := 88) (pc' := 92) rfl (hb hby at_88) (by decide) (by decide)) ?_
    show Go p e below _ T17 (mkF m 92 #[.val (.int p1), .val (.int p2), .val (.int (7 : Int32)), .val (.ref a1), .val (.ref a9), .val (.int (68 : Int32))] [(.int (1 : Int32))])
    rw [hK]
    exact Go.retWW X17 hx hlk S9 (by rw [e17]; exact g9) hret rfl (Or.inl ⟨rfl, by simp, _, rfl⟩) (hb hby at_92) ⟨rfl, Fr.nil n0⟩ (by rw [e00, e17]; exact (C1.trans C9).trans (CHv.at X17 hZ (own_ew hw) C9.1)) (by decide) (by decide)
  · show Go p e below _ s₁ (mkF m 15 #[.val (.int p1), .val (.int p2), .val (.int (8 : Int32)), .unset, .unset, .unset] [])
    refine Go.to (fun _ => XS.iloadN X0.here hx rfl (hb hby at_15) rfl) ?_
    show Go p e below _ s₁ (mkF m 16 #[.val (.int p1), .val (.int p2), .val (.int (8 : Int32)), .unset, .unset, .unset] [(.int (8 : Int32))])
    refine Go.callSW (s := s) (vm0 := s.vm) (y := (⟨"oakwell/classfile/Bytecode", "newarrayType", "(I)Ljava/lang/String;"⟩ : MethodName)) X0 hx hZ hown ((State.WarmedH.refl s).since _) (Nat.le_refl _) (hw _ (List.mem_of_getElem? (i := 0) rfl)) (hw _ (List.mem_of_getElem? (i := 1) rfl)) (hw _ (List.mem_of_getElem? (i := 2) rfl)) (hw _ (List.mem_of_getElem? (i := 3) rfl)) (by decide) (own_ew hw) H0 (rm1_8 l Z a0 hw [] h0) e0 (by rw [hml]; rfl) (pd_7) rfl (argsL := [(.int (8 : Int32))]) (rest := []) rfl rfl (hb hby at_16) (by decide) (Nat.le_of_ble_eq_true rfl) (by decide) (by decide) ?_
    rintro T1 _ L1 X1 ⟨rfl, E1, a1, b1, c1, rfl, q1, q2, q3, q4⟩ S9 hZ1 hown1 C1
    simp only [List.append_nil] at X1
    have X0 := X1
    have hZ : Z.Warmed39 (s.setVm T1.vm).vm := hZ1
    have hown : (s.setVm T1.vm).vm.findClass "oakwell/classfile/BytecodeNewarrayTypePinLaw" = some m.cls := hown1
    show Go p e below _ T1 (mkF m 19 #[.val (.int p1), .val (.int p2), .val (.int (8 : Int32)), .unset, .unset, .unset] [(.ref a1)])
    refine Go.to (fun _ => XS.astoreN X1.here hx rfl (hb hby at_19) rfl rfl (l' := #[.val (.int p1), .val (.int p2), .val (.int (8 : Int32)), .val (.ref a1), .unset, .unset]) rfl) ?_
    show Go p e below _ T1 (mkF m 20 #[.val (.int p1), .val (.int p2), .val (.int (8 : Int32)), .val (.ref a1), .unset, .unset] [])
    refine Go.to (fun _ => XS.iloadN X1.here hx rfl (hb hby at_20) rfl) ?_
    show Go p e below _ T1 (mkF m 21 #[.val (.int p1), .val (.int p2), .val (.int (8 : Int32)), .val (.ref a1), .unset, .unset] [(.int (8 : Int32))])
    refine Go.to (fun _ => XS.iconst X1.here hx rfl (hb hby at_21)) ?_
    show Go p e below _ T1 (mkF m 22 #[.val (.int p1), .val (.int p2), .val (.int (8 : Int32)), .val (.ref a1), .unset, .unset] [(.int (4 : Int32)), (.int (8 : Int32))])
    refine Go.to (fun _ => XS.icmpNo X1.here hx rfl (hb hby at_22) rfl (flt (by decide)).1) ?_
    show Go p e below _ T1 (mkF m 25 #[.val (.int p1), .val (.int p2), .val (.int (8 : Int32)), .val (.ref a1), .unset, .unset] [])
    refine Go.to (fun _ => XS.iloadN X1.here hx rfl (hb hby at_25) rfl) ?_
    show Go p e below _ T1 (mkF m 26 #[.val (.int p1), .val (.int p2), .val (.int (8 : Int32)), .val (.ref a1), .unset, .unset] [(.int (8 : Int32))])
    refine Go.to (fun _ => XS.bipush X1.here hx rfl (hb hby at_26)) ?_
    show Go p e below _ T1 (mkF m 28 #[.val (.int p1), .val (.int p2), .val (.int (8 : Int32)), .val (.ref a1), .unset, .unset] [(.int (11 : Int32)), (.int (8 : Int32))])
    refine Go.to (fun _ => XS.icmpYes X1.here hx rfl (pc0 := 28) (pc' := 41) rfl (hb hby at_28) rfl (flt (by decide)).2.2.2 (by decide) (by decide)) ?_
    show Go p e below _ T1 (mkF m 41 #[.val (.int p1), .val (.int p2), .val (.int (8 : Int32)), .val (.ref a1), .unset, .unset] [])
    obtain ⟨a9, T9, h9, k9, b9, c9, X9, e9, E9, S9, g9, hZ9, hown9, l1, l2, l3, l4, -, -, C9, -, -, st9⟩ := ldcCH (s := s) (vm0 := T1.vm) X1 hx hZ1 hown1 (hw _ (List.mem_of_getElem? (i := 12) rfl)) (own_sa hw) rfl S9 (Nat.le_refl _) (own_ew hw) (by decide +kernel) C1.1 (vs := [.int 90, .int 67, .int 70, .int 68, .int 66, .int 83, .int 73, .int 74]) (z := 8) (by decide +kernel) (by decide) (by decide) (g := (mkF m 41 #[.val (.int p1), .val (.int p2), .val (.int (8 : Int32)), .val (.ref a1), .unset, .unset] [])) rfl (hb hby at_41) (n := 32) (by decide +kernel) (by decide) (by decide) (by decide)
    refine Go.to st9 ?_
    have hZ : Z.Warmed39 (s.setVm T9.vm).vm := hZ9
    have hown : (s.setVm T9.vm).vm.findClass "oakwell/classfile/BytecodeNewarrayTypePinLaw" = some m.cls := hown9
    have A1 : AV Z h9 b1 .byte [91, 66] := avOf (xs := [91, 66]) (q4.ext E9) (by decide)
    have A2 : AV Z h9 b9 .byte [90, 67, 70, 68, 66, 83, 73, 74] := avOf (xs := [90, 67, 70, 68, 66, 83, 73, 74]) l4 (by decide)
    have q1 := Exa.ext E9 q1
    have q2 := Fld.ext E9 q2
    have q3 := Fld.ext E9 q3
    have S1 := Sta.ext E9 (Sta.ext E1 S1)
    have S2 := Sta.ext E9 (Sta.ext E1 S2)
    show Go p e below _ T9 (mkF m 43 #[.val (.int p1), .val (.int p2), .val (.int (8 : Int32)), .val (.ref a1), .unset, .unset] [(.ref a9)])
    refine Go.to (fun _ => XS.astore X9.here hx rfl (hb hby at_43) rfl rfl (l' := #[.val (.int p1), .val (.int p2), .val (.int (8 : Int32)), .val (.ref a1), .val (.ref a9), .unset]) rfl) ?_
    show Go p e below _ T9 (mkF m 45 #[.val (.int p1), .val (.int p2), .val (.int (8 : Int32)), .val (.ref a1), .val (.ref a9), .unset] [])
    refine Go.to (fun _ => XS.aload X9.here hx rfl (hb hby at_45) rfl rfl) ?_
    show Go p e below _ T9 (mkF m 47 #[.val (.int p1), .val (.int p2), .val (.int (8 : Int32)), .val (.ref a1), .val (.ref a9), .unset] [(.ref a9)])
    refine Go.to (fun _ => XS.iloadN X9.here hx rfl (hb hby at_47) rfl) ?_
    show Go p e below _ T9 (mkF m 48 #[.val (.int p1), .val (.int p2), .val (.int (8 : Int32)), .val (.ref a1), .val (.ref a9), .unset] [(.int (8 : Int32)), (.ref a9)])
    refine Go.to (fun _ => XS.iconst X9.here hx rfl (hb hby at_48)) ?_
    show Go p e below _ T9 (mkF m 49 #[.val (.int p1), .val (.int p2), .val (.int (8 : Int32)), .val (.ref a1), .val (.ref a9), .unset] [(.int (4 : Int32)), (.int (8 : Int32)), (.ref a9)])
    refine Go.to (fun _ => XS.isub X9.here hx rfl (hb hby at_49) rfl) ?_
    show Go p e below _ T9 (mkF m 50 #[.val (.int p1), .val (.int p2), .val (.int (8 : Int32)), .val (.ref a1), .val (.ref a9), .unset] [(.int ((8 : Int32) - (4 : Int32))), (.ref a9)])
    refine Go.callV (y := (⟨"java/lang/String", "charAt", "(I)C"⟩ : MethodName)) X9 hx hZ hown (hw _ (List.mem_of_getElem? (i := 13) rfl)) (hw _ (List.mem_of_getElem? (i := 14) rfl)) (hw _ (List.mem_of_getElem? (i := 16) rfl)) (hw _ (List.mem_of_getElem? (i := 15) rfl)) (hw _ (List.mem_of_getElem? (i := 5) rfl)) (hw _ (List.mem_of_getElem? (i := 17) rfl)) (by decide) (rm2 l Z a0 hw [] a9 ((8 : Int32) - (4 : Int32)) h9 b9 [90, 67, 70, 68, 66, 83, 73, 74] l1 l3 l2 A2 z S1 hz (by decide) (by decide) fm rfm S2 66 66 (by decide +kernel) (by decide +kernel) (by decide +kernel)) e9 l1 (by rw [hml]; rfl) (pd_3) rfl (argsL := [(.int ((8 : Int32) - (4 : Int32)))]) (rest := []) rfl rfl (hb hby at_50) (by decide) (Nat.le_of_ble_eq_true rfl) (by decide) (by decide) ?_
    rintro T18 _ L18 X18 ⟨rfl, e18, rfl⟩
    simp only [List.append_nil] at X18
    show Go p e below _ T18 (mkF m 53 #[.val (.int p1), .val (.int p2), .val (.int (8 : Int32)), .val (.ref a1), .val (.ref a9), .unset] [(.int (66 : Int32))])
    refine Go.to (fun _ => XS.istore X18.here hx rfl (hb hby at_53) rfl (l' := #[.val (.int p1), .val (.int p2), .val (.int (8 : Int32)), .val (.ref a1), .val (.ref a9), .val (.int (66 : Int32))]) rfl) ?_
    show Go p e below _ T18 (mkF m 55 #[.val (.int p1), .val (.int p2), .val (.int (8 : Int32)), .val (.ref a1), .val (.ref a9), .val (.int (66 : Int32))] [])
    refine Go.to (fun _ => XS.aloadN X18.here hx rfl (hb hby at_55) rfl rfl) ?_
    show Go p e below _ T18 (mkF m 56 #[.val (.int p1), .val (.int p2), .val (.int (8 : Int32)), .val (.ref a1), .val (.ref a9), .val (.int (66 : Int32))] [(.ref a1)])
    refine Go.to (fun _ => XS.ifnullNo X18.here hx rfl (hb hby at_56) rfl) ?_
    show Go p e below _ T18 (mkF m 59 #[.val (.int p1), .val (.int p2), .val (.int (8 : Int32)), .val (.ref a1), .val (.ref a9), .val (.int (66 : Int32))] [])
    refine Go.to (fun _ => XS.aloadN X18.here hx rfl (hb hby at_59) rfl rfl) ?_
    show Go p e below _ T18 (mkF m 60 #[.val (.int p1), .val (.int p2), .val (.int (8 : Int32)), .val (.ref a1), .val (.ref a9), .val (.int (66 : Int32))] [(.ref a1)])
    refine Go.callV (y := (⟨"java/lang/String", "length", "()I"⟩ : MethodName)) X18 hx hZ hown (hw _ (List.mem_of_getElem? (i := 38) rfl)) (hw _ (List.mem_of_getElem? (i := 39) rfl)) (hw _ (List.mem_of_getElem? (i := 41) rfl)) (hw _ (List.mem_of_getElem? (i := 40) rfl)) (hw _ (List.mem_of_getElem? (i := 5) rfl)) (hw _ (List.mem_of_getElem? (i := 42) rfl)) (by decide) (rm7 l Z a0 hw [] a1 h9 b1 [91, 66] q1 q3 q2 A1 z S1 hz 2 (by decide +kernel)) e18 q1 (by rw [hml]; rfl) (pd_2) rfl (argsL := []) (rest := []) rfl rfl (hb hby at_60) (by decide) (Nat.le_of_ble_eq_true rfl) (by decide) (by decide) ?_
    rintro T19 _ L19 X19 ⟨rfl, e19, rfl⟩
    simp only [List.append_nil] at X19
    show Go p e below _ T19 (mkF m 63 #[.val (.int p1), .val (.int p2), .val (.int (8 : Int32)), .val (.ref a1), .val (.ref a9), .val (.int (66 : Int32))] [(.int (2 : Int32))])
    refine Go.to (fun _ => XS.iconst X19.here hx rfl (hb hby at_63)) ?_
    show Go p e below _ T19 (mkF m 64 #[.val (.int p1), .val (.int p2), .val (.int (8 : Int32)), .val (.ref a1), .val (.ref a9), .val (.int (66 : Int32))] [(.int (2 : Int32)), (.int (2 : Int32))])
    refine Go.to (fun _ => XS.icmpNo X19.here hx rfl (hb hby at_64) rfl (teq (by decide)).2) ?_
    show Go p e below _ T19 (mkF m 67 #[.val (.int p1), .val (.int p2), .val (.int (8 : Int32)), .val (.ref a1), .val (.ref a9), .val (.int (66 : Int32))] [])
    refine Go.to (fun _ => XS.aloadN X19.here hx rfl (hb hby at_67) rfl rfl) ?_
    show Go p e below _ T19 (mkF m 68 #[.val (.int p1), .val (.int p2), .val (.int (8 : Int32)), .val (.ref a1), .val (.ref a9), .val (.int (66 : Int32))] [(.ref a1)])
    refine Go.to (fun _ => XS.iconst X19.here hx rfl (hb hby at_68)) ?_
    show Go p e below _ T19 (mkF m 69 #[.val (.int p1), .val (.int p2), .val (.int (8 : Int32)), .val (.ref a1), .val (.ref a9), .val (.int (66 : Int32))] [(.int (0 : Int32)), (.ref a1)])
    refine Go.callV (y := (⟨"java/lang/String", "charAt", "(I)C"⟩ : MethodName)) X19 hx hZ hown (hw _ (List.mem_of_getElem? (i := 13) rfl)) (hw _ (List.mem_of_getElem? (i := 14) rfl)) (hw _ (List.mem_of_getElem? (i := 16) rfl)) (hw _ (List.mem_of_getElem? (i := 15) rfl)) (hw _ (List.mem_of_getElem? (i := 5) rfl)) (hw _ (List.mem_of_getElem? (i := 17) rfl)) (by decide) (rm2 l Z a0 hw [] a1 (0 : Int32) h9 b1 [91, 66] q1 q3 q2 A1 z S1 hz (by decide) (by decide) fm rfm S2 91 91 (by decide +kernel) (by decide +kernel) (by decide +kernel)) e19 q1 (by rw [hml]; rfl) (pd_3) rfl (argsL := [(.int (0 : Int32))]) (rest := []) rfl rfl (hb hby at_69) (by decide) (Nat.le_of_ble_eq_true rfl) (by decide) (by decide) ?_
    rintro T20 _ L20 X20 ⟨rfl, e20, rfl⟩
    simp only [List.append_nil] at X20
    show Go p e below _ T20 (mkF m 72 #[.val (.int p1), .val (.int p2), .val (.int (8 : Int32)), .val (.ref a1), .val (.ref a9), .val (.int (66 : Int32))] [(.int (91 : Int32))])
    refine Go.to (fun _ => XS.bipush X20.here hx rfl (hb hby at_72)) ?_
    show Go p e below _ T20 (mkF m 74 #[.val (.int p1), .val (.int p2), .val (.int (8 : Int32)), .val (.ref a1), .val (.ref a9), .val (.int (66 : Int32))] [(.int (91 : Int32)), (.int (91 : Int32))])
    refine Go.to (fun _ => XS.icmpNo X20.here hx rfl (hb hby at_74) rfl (teq (by decide)).2) ?_
    show Go p e below _ T20 (mkF m 77 #[.val (.int p1), .val (.int p2), .val (.int (8 : Int32)), .val (.ref a1), .val (.ref a9), .val (.int (66 : Int32))] [])
    refine Go.to (fun _ => XS.aloadN X20.here hx rfl (hb hby at_77) rfl rfl) ?_
    show Go p e below _ T20 (mkF m 78 #[.val (.int p1), .val (.int p2), .val (.int (8 : Int32)), .val (.ref a1), .val (.ref a9), .val (.int (66 : Int32))] [(.ref a1)])
    refine Go.to (fun _ => XS.iconst X20.here hx rfl (hb hby at_78)) ?_
    show Go p e below _ T20 (mkF m 79 #[.val (.int p1), .val (.int p2), .val (.int (8 : Int32)), .val (.ref a1), .val (.ref a9), .val (.int (66 : Int32))] [(.int (1 : Int32)), (.ref a1)])
    refine Go.callV (y := (⟨"java/lang/String", "charAt", "(I)C"⟩ : MethodName)) X20 hx hZ hown (hw _ (List.mem_of_getElem? (i := 13) rfl)) (hw _ (List.mem_of_getElem? (i := 14) rfl)) (hw _ (List.mem_of_getElem? (i := 16) rfl)) (hw _ (List.mem_of_getElem? (i := 15) rfl)) (hw _ (List.mem_of_getElem? (i := 5) rfl)) (hw _ (List.mem_of_getElem? (i := 17) rfl)) (by decide) (rm2 l Z a0 hw [] a1 (1 : Int32) h9 b1 [91, 66] q1 q3 q2 A1 z S1 hz (by decide) (by decide) fm rfm S2 66 66 (by decide +kernel) (by decide +kernel) (by decide +kernel)) e20 q1 (by rw [hml]; rfl) (pd_3) rfl (argsL := [(.int (1 : Int32))]) (rest := []) rfl rfl (hb hby at_79) (by decide) (Nat.le_of_ble_eq_true rfl) (by decide) (by decide) ?_
    rintro T21 _ L21 X21 ⟨rfl, e21, rfl⟩
    simp only [List.append_nil] at X21
    show Go p e below _ T21 (mkF m 82 #[.val (.int p1), .val (.int p2), .val (.int (8 : Int32)), .val (.ref a1), .val (.ref a9), .val (.int (66 : Int32))] [(.int (66 : Int32))])
    refine Go.to (fun _ => XS.iload X21.here hx rfl (hb hby at_82) rfl) ?_
    show Go p e below _ T21 (mkF m 84 #[.val (.int p1), .val (.int p2), .val (.int (8 : Int32)), .val (.ref a1), .val (.ref a9), .val (.int (66 : Int32))] [(.int (66 : Int32)), (.int (66 : Int32))])
    refine Go.to (fun _ => XS.icmpNo X21.here hx rfl (hb hby at_84) rfl (teq (by decide)).2) ?_
    show Go p e below _ T21 (mkF m 87 #[.val (.int p1), .val (.int p2), .val (.int (8 : Int32)), .val (.ref a1), .val (.ref a9), .val (.int (66 : Int32))] [])
    refine Go.to (fun _ => XS.iconst X21.here hx rfl (hb hby at_87)) ?_
    show Go p e below _ T21 (mkF m 88 #[.val (.int p1), .val (.int p2), .val (.int (8 : Int32)), .val (.ref a1), .val (.ref a9), .val (.int (66 : Int32))] [(.int (1 : Int32))])
    refine Go.to (fun _ => XS.goto X21.here hx rfl (pc0 := 88) (pc' := 92) rfl (hb hby at_88) (by decide) (by decide)) ?_
    show Go p e below _ T21 (mkF m 92 #[.val (.int p1), .val (.int p2), .val (.int (8 : Int32)), .val (.ref a1), .val (.ref a9), .val (.int (66 : Int32))] [(.int (1 : Int32))])
    rw [hK]
    exact Go.retWW X21 hx hlk S9 (by rw [e21]; exact g9) hret rfl (Or.inl ⟨rfl, by simp, _, rfl⟩) (hb hby at_92) ⟨rfl, Fr.nil n0⟩ (by rw [e00, e21]; exact (C1.trans C9).trans (CHv.at X21 hZ (own_ew hw) C9.1)) (by decide) (by decide)
  · show Go p e below _ s₁ (mkF m 15 #[.val (.int p1), .val (.int p2), .val (.int (9 : Int32)), .unset, .unset, .unset] [])
    refine Go.to (fun _ => XS.iloadN X0.here hx rfl (hb hby at_15) rfl) ?_
    show Go p e below _ s₁ (mkF m 16 #[.val (.int p1), .val (.int p2), .val (.int (9 : Int32)), .unset, .unset, .unset] [(.int (9 : Int32))])
    refine Go.callSW (s := s) (vm0 := s.vm) (y := (⟨"oakwell/classfile/Bytecode", "newarrayType", "(I)Ljava/lang/String;"⟩ : MethodName)) X0 hx hZ hown ((State.WarmedH.refl s).since _) (Nat.le_refl _) (hw _ (List.mem_of_getElem? (i := 0) rfl)) (hw _ (List.mem_of_getElem? (i := 1) rfl)) (hw _ (List.mem_of_getElem? (i := 2) rfl)) (hw _ (List.mem_of_getElem? (i := 3) rfl)) (by decide) (own_ew hw) H0 (rm1_9 l Z a0 hw [] h0) e0 (by rw [hml]; rfl) (pd_7) rfl (argsL := [(.int (9 : Int32))]) (rest := []) rfl rfl (hb hby at_16) (by decide) (Nat.le_of_ble_eq_true rfl) (by decide) (by decide) ?_
    rintro T1 _ L1 X1 ⟨rfl, E1, a1, b1, c1, rfl, q1, q2, q3, q4⟩ S9 hZ1 hown1 C1
    simp only [List.append_nil] at X1
    have X0 := X1
    have hZ : Z.Warmed39 (s.setVm T1.vm).vm := hZ1
    have hown : (s.setVm T1.vm).vm.findClass "oakwell/classfile/BytecodeNewarrayTypePinLaw" = some m.cls := hown1
    show Go p e below _ T1 (mkF m 19 #[.val (.int p1), .val (.int p2), .val (.int (9 : Int32)), .unset, .unset, .unset] [(.ref a1)])
    refine Go.to (fun _ => XS.astoreN X1.here hx rfl (hb hby at_19) rfl rfl (l' := #[.val (.int p1), .val (.int p2), .val (.int (9 : Int32)), .val (.ref a1), .unset, .unset]) rfl) ?_
    show Go p e below _ T1 (mkF m 20 #[.val (.int p1), .val (.int p2), .val (.int (9 : Int32)), .val (.ref a1), .unset, .unset] [])
    refine Go.to (fun _ => XS.iloadN X1.here hx rfl (hb hby at_20) rfl) ?_
    show Go p e below _ T1 (mkF m 21 #[.val (.int p1), .val (.int p2), .val (.int (9 : Int32)), .val (.ref a1), .unset, .unset] [(.int (9 : Int32))])
    refine Go.to (fun _ => XS.iconst X1.here hx rfl (hb hby at_21)) ?_
    show Go p e below _ T1 (mkF m 22 #[.val (.int p1), .val (.int p2), .val (.int (9 : Int32)), .val (.ref a1), .unset, .unset] [(.int (4 : Int32)), (.int (9 : Int32))])
    refine Go.to (fun _ => XS.icmpNo X1.here hx rfl (hb hby at_22) rfl (flt (by decide)).1) ?_
    show Go p e below _ T1 (mkF m 25 #[.val (.int p1), .val (.int p2), .val (.int (9 : Int32)), .val (.ref a1), .unset, .unset] [])
    refine Go.to (fun _ => XS.iloadN X1.here hx rfl (hb hby at_25) rfl) ?_
    show Go p e below _ T1 (mkF m 26 #[.val (.int p1), .val (.int p2), .val (.int (9 : Int32)), .val (.ref a1), .unset, .unset] [(.int (9 : Int32))])
    refine Go.to (fun _ => XS.bipush X1.here hx rfl (hb hby at_26)) ?_
    show Go p e below _ T1 (mkF m 28 #[.val (.int p1), .val (.int p2), .val (.int (9 : Int32)), .val (.ref a1), .unset, .unset] [(.int (11 : Int32)), (.int (9 : Int32))])
    refine Go.to (fun _ => XS.icmpYes X1.here hx rfl (pc0 := 28) (pc' := 41) rfl (hb hby at_28) rfl (flt (by decide)).2.2.2 (by decide) (by decide)) ?_
    show Go p e below _ T1 (mkF m 41 #[.val (.int p1), .val (.int p2), .val (.int (9 : Int32)), .val (.ref a1), .unset, .unset] [])
    obtain ⟨a9, T9, h9, k9, b9, c9, X9, e9, E9, S9, g9, hZ9, hown9, l1, l2, l3, l4, -, -, C9, -, -, st9⟩ := ldcCH (s := s) (vm0 := T1.vm) X1 hx hZ1 hown1 (hw _ (List.mem_of_getElem? (i := 12) rfl)) (own_sa hw) rfl S9 (Nat.le_refl _) (own_ew hw) (by decide +kernel) C1.1 (vs := [.int 90, .int 67, .int 70, .int 68, .int 66, .int 83, .int 73, .int 74]) (z := 8) (by decide +kernel) (by decide) (by decide) (g := (mkF m 41 #[.val (.int p1), .val (.int p2), .val (.int (9 : Int32)), .val (.ref a1), .unset, .unset] [])) rfl (hb hby at_41) (n := 32) (by decide +kernel) (by decide) (by decide) (by decide)
    refine Go.to st9 ?_
    have hZ : Z.Warmed39 (s.setVm T9.vm).vm := hZ9
    have hown : (s.setVm T9.vm).vm.findClass "oakwell/classfile/BytecodeNewarrayTypePinLaw" = some m.cls := hown9
    have A1 : AV Z h9 b1 .byte [91, 83] := avOf (xs := [91, 83]) (q4.ext E9) (by decide)
    have A2 : AV Z h9 b9 .byte [90, 67, 70, 68, 66, 83, 73, 74] := avOf (xs := [90, 67, 70, 68, 66, 83, 73, 74]) l4 (by decide)
    have q1 := Exa.ext E9 q1
    have q2 := Fld.ext E9 q2
    have q3 := Fld.ext E9 q3
    have S1 := Sta.ext E9 (Sta.ext E1 S1)
    have S2 := Sta.ext E9 (Sta.ext E1 S2)
    show Go p e below _ T9 (mkF m 43 #[.val (.int p1), .val (.int p2), .val (.int (9 : Int32)), .val (.ref a1), .unset, .unset] [(.ref a9)])
    refine Go.to (fun _ => XS.astore X9.here hx rfl (hb hby at_43) rfl rfl (l' := #[.val (.int p1), .val (.int p2), .val (.int (9 : Int32)), .val (.ref a1), .val (.ref a9), .unset]) rfl) ?_
    show Go p e below _ T9 (mkF m 45 #[.val (.int p1), .val (.int p2), .val (.int (9 : Int32)), .val (.ref a1), .val (.ref a9), .unset] [])
    refine Go.to (fun _ => XS.aload X9.here hx rfl (hb hby at_45) rfl rfl) ?_
    show Go p e below _ T9 (mkF m 47 #[.val (.int p1), .val (.int p2), .val (.int (9 : Int32)), .val (.ref a1), .val (.ref a9), .unset] [(.ref a9)])
    refine Go.to (fun _ => XS.iloadN X9.here hx rfl (hb hby at_47) rfl) ?_
    show Go p e below _ T9 (mkF m 48 #[.val (.int p1), .val (.int p2), .val (.int (9 : Int32)), .val (.ref a1), .val (.ref a9), .unset] [(.int (9 : Int32)), (.ref a9)])
    refine Go.to (fun _ => XS.iconst X9.here hx rfl (hb hby at_48)) ?_
    show Go p e below _ T9 (mkF m 49 #[.val (.int p1), .val (.int p2), .val (.int (9 : Int32)), .val (.ref a1), .val (.ref a9), .unset] [(.int (4 : Int32)), (.int (9 : Int32)), (.ref a9)])
    refine Go.to (fun _ => XS.isub X9.here hx rfl (hb hby at_49) rfl) ?_
    show Go p e below _ T9 (mkF m 50 #[.val (.int p1), .val (.int p2), .val (.int (9 : Int32)), .val (.ref a1), .val (.ref a9), .unset] [(.int ((9 : Int32) - (4 : Int32))), (.ref a9)])
    refine Go.callV (y := (⟨"java/lang/String", "charAt", "(I)C"⟩ : MethodName)) X9 hx hZ hown (hw _ (List.mem_of_getElem? (i := 13) rfl)) (hw _ (List.mem_of_getElem? (i := 14) rfl)) (hw _ (List.mem_of_getElem? (i := 16) rfl)) (hw _ (List.mem_of_getElem? (i := 15) rfl)) (hw _ (List.mem_of_getElem? (i := 5) rfl)) (hw _ (List.mem_of_getElem? (i := 17) rfl)) (by decide) (rm2 l Z a0 hw [] a9 ((9 : Int32) - (4 : Int32)) h9 b9 [90, 67, 70, 68, 66, 83, 73, 74] l1 l3 l2 A2 z S1 hz (by decide) (by decide) fm rfm S2 83 83 (by decide +kernel) (by decide +kernel) (by decide +kernel)) e9 l1 (by rw [hml]; rfl) (pd_3) rfl (argsL := [(.int ((9 : Int32) - (4 : Int32)))]) (rest := []) rfl rfl (hb hby at_50) (by decide) (Nat.le_of_ble_eq_true rfl) (by decide) (by decide) ?_
    rintro T22 _ L22 X22 ⟨rfl, e22, rfl⟩
    simp only [List.append_nil] at X22
    show Go p e below _ T22 (mkF m 53 #[.val (.int p1), .val (.int p2), .val (.int (9 : Int32)), .val (.ref a1), .val (.ref a9), .unset] [(.int (83 : Int32))])
    refine Go.to (fun _ => XS.istore X22.here hx rfl (hb hby at_53) rfl (l' := #[.val (.int p1), .val (.int p2), .val (.int (9 : Int32)), .val (.ref a1), .val (.ref a9), .val (.int (83 : Int32))]) rfl) ?_
    show Go p e below _ T22 (mkF m 55 #[.val (.int p1), .val (.int p2), .val (.int (9 : Int32)), .val (.ref a1), .val (.ref a9), .val (.int (83 : Int32))] [])
    refine Go.to (fun _ => XS.aloadN X22.here hx rfl (hb hby at_55) rfl rfl) ?_
    show Go p e below _ T22 (mkF m 56 #[.val (.int p1), .val (.int p2), .val (.int (9 : Int32)), .val (.ref a1), .val (.ref a9), .val (.int (83 : Int32))] [(.ref a1)])
    refine Go.to (fun _ => XS.ifnullNo X22.here hx rfl (hb hby at_56) rfl) ?_
    show Go p e below _ T22 (mkF m 59 #[.val (.int p1), .val (.int p2), .val (.int (9 : Int32)), .val (.ref a1), .val (.ref a9), .val (.int (83 : Int32))] [])
    refine Go.to (fun _ => XS.aloadN X22.here hx rfl (hb hby at_59) rfl rfl) ?_
    show Go p e below _ T22 (mkF m 60 #[.val (.int p1), .val (.int p2), .val (.int (9 : Int32)), .val (.ref a1), .val (.ref a9), .val (.int (83 : Int32))] [(.ref a1)])
    refine Go.callV (y := (⟨"java/lang/String", "length", "()I"⟩ : MethodName)) X22 hx hZ hown (hw _ (List.mem_of_getElem? (i := 38) rfl)) (hw _ (List.mem_of_getElem? (i := 39) rfl)) (hw _ (List.mem_of_getElem? (i := 41) rfl)) (hw _ (List.mem_of_getElem? (i := 40) rfl)) (hw _ (List.mem_of_getElem? (i := 5) rfl)) (hw _ (List.mem_of_getElem? (i := 42) rfl)) (by decide) (rm7 l Z a0 hw [] a1 h9 b1 [91, 83] q1 q3 q2 A1 z S1 hz 2 (by decide +kernel)) e22 q1 (by rw [hml]; rfl) (pd_2) rfl (argsL := []) (rest := []) rfl rfl (hb hby at_60) (by decide) (Nat.le_of_ble_eq_true rfl) (by decide) (by decide) ?_
    rintro T23 _ L23 X23 ⟨rfl, e23, rfl⟩
    simp only [List.append_nil] at X23
    show Go p e below _ T23 (mkF m 63 #[.val (.int p1), .val (.int p2), .val (.int (9 : Int32)), .val (.ref a1), .val (.ref a9), .val (.int (83 : Int32))] [(.int (2 : Int32))])
    refine Go.to (fun _ => XS.iconst X23.here hx rfl (hb hby at_63)) ?_
    show Go p e below _ T23 (mkF m 64 #[.val (.int p1), .val (.int p2), .val (.int (9 : Int32)), .val (.ref a1), .val (.ref a9), .val (.int (83 : Int32))] [(.int (2 : Int32)), (.int (2 : Int32))])
    refine Go.to (fun _ => XS.icmpNo X23.here hx rfl (hb hby at_64) rfl (teq (by decide)).2) ?_
    show Go p e below _ T23 (mkF m 67 #[.val (.int p1), .val (.int p2), .val (.int (9 : Int32)), .val (.ref a1), .val (.ref a9), .val (.int (83 : Int32))] [])
    refine Go.to (fun _ => XS.aloadN X23.here hx rfl (hb hby at_67) rfl rfl) ?_
    show Go p e below _ T23 (mkF m 68 #[.val (.int p1), .val (.int p2), .val (.int (9 : Int32)), .val (.ref a1), .val (.ref a9), .val (.int (83 : Int32))] [(.ref a1)])
    refine Go.to (fun _ => XS.iconst X23.here hx rfl (hb hby at_68)) ?_
    show Go p e below _ T23 (mkF m 69 #[.val (.int p1), .val (.int p2), .val (.int (9 : Int32)), .val (.ref a1), .val (.ref a9), .val (.int (83 : Int32))] [(.int (0 : Int32)), (.ref a1)])
    refine Go.callV (y := (⟨"java/lang/String", "charAt", "(I)C"⟩ : MethodName)) X23 hx hZ hown (hw _ (List.mem_of_getElem? (i := 13) rfl)) (hw _ (List.mem_of_getElem? (i := 14) rfl)) (hw _ (List.mem_of_getElem? (i := 16) rfl)) (hw _ (List.mem_of_getElem? (i := 15) rfl)) (hw _ (List.mem_of_getElem? (i := 5) rfl)) (hw _ (List.mem_of_getElem? (i := 17) rfl)) (by decide) (rm2 l Z a0 hw [] a1 (0 : Int32) h9 b1 [91, 83] q1 q3 q2 A1 z S1 hz (by decide) (by decide) fm rfm S2 91 91 (by decide +kernel) (by decide +kernel) (by decide +kernel)) e23 q1 (by rw [hml]; rfl) (pd_3) rfl (argsL := [(.int (0 : Int32))]) (rest := []) rfl rfl (hb hby at_69) (by decide) (Nat.le_of_ble_eq_true rfl) (by decide) (by decide) ?_
    rintro T24 _ L24 X24 ⟨rfl, e24, rfl⟩
    simp only [List.append_nil] at X24
    show Go p e below _ T24 (mkF m 72 #[.val (.int p1), .val (.int p2), .val (.int (9 : Int32)), .val (.ref a1), .val (.ref a9), .val (.int (83 : Int32))] [(.int (91 : Int32))])
    refine Go.to (fun _ => XS.bipush X24.here hx rfl (hb hby at_72)) ?_
    show Go p e below _ T24 (mkF m 74 #[.val (.int p1), .val (.int p2), .val (.int (9 : Int32)), .val (.ref a1), .val (.ref a9), .val (.int (83 : Int32))] [(.int (91 : Int32)), (.int (91 : Int32))])
    refine Go.to (fun _ => XS.icmpNo X24.here hx rfl (hb hby at_74) rfl (teq (by decide)).2) ?_
    show Go p e below _ T24 (mkF m 77 #[.val (.int p1), .val (.int p2), .val (.int (9 : Int32)), .val (.ref a1), .val (.ref a9), .val (.int (83 : Int32))] [])
    refine Go.to (fun _ => XS.aloadN X24.here hx rfl (hb hby at_77) rfl rfl) ?_
    show Go p e below _ T24 (mkF m 78 #[.val (.int p1), .val (.int p2), .val (.int (9 : Int32)), .val (.ref a1), .val (.ref a9), .val (.int (83 : Int32))] [(.ref a1)])
    refine Go.to (fun _ => XS.iconst X24.here hx rfl (hb hby at_78)) ?_
    show Go p e below _ T24 (mkF m 79 #[.val (.int p1), .val (.int p2), .val (.int (9 : Int32)), .val (.ref a1), .val (.ref a9), .val (.int (83 : Int32))] [(.int (1 : Int32)), (.ref a1)])
    refine Go.callV (y := (⟨"java/lang/String", "charAt", "(I)C"⟩ : MethodName)) X24 hx hZ hown (hw _ (List.mem_of_getElem? (i := 13) rfl)) (hw _ (List.mem_of_getElem? (i := 14) rfl)) (hw _ (List.mem_of_getElem? (i := 16) rfl)) (hw _ (List.mem_of_getElem? (i := 15) rfl)) (hw _ (List.mem_of_getElem? (i := 5) rfl)) (hw _ (List.mem_of_getElem? (i := 17) rfl)) (by decide) (rm2 l Z a0 hw [] a1 (1 : Int32) h9 b1 [91, 83] q1 q3 q2 A1 z S1 hz (by decide) (by decide) fm rfm S2 83 83 (by decide +kernel) (by decide +kernel) (by decide +kernel)) e24 q1 (by rw [hml]; rfl) (pd_3) rfl (argsL := [(.int (1 : Int32))]) (rest := []) rfl rfl (hb hby at_79) (by decide) (Nat.le_of_ble_eq_true rfl) (by decide) (by decide) ?_
    rintro T25 _ L25 X25 ⟨rfl, e25, rfl⟩
    simp only [List.append_nil] at X25
    show Go p e below _ T25 (mkF m 82 #[.val (.int p1), .val (.int p2), .val (.int (9 : Int32)), .val (.ref a1), .val (.ref a9), .val (.int (83 : Int32))] [(.int (83 : Int32))])
    refine Go.to (fun _ => XS.iload X25.here hx rfl (hb hby at_82) rfl) ?_
    show Go p e below _ T25 (mkF m 84 #[.val (.int p1), .val (.int p2), .val (.int (9 : Int32)), .val (.ref a1), .val (.ref a9), .val (.int (83 : Int32))] [(.int (83 : Int32)), (.int (83 : Int32))])
    refine Go.to (fun _ => XS.icmpNo X25.here hx rfl (hb hby at_84) rfl (teq (by decide)).2) ?_
    show Go p e below _ T25 (mkF m 87 #[.val (.int p1), .val (.int p2), .val (.int (9 : Int32)), .val (.ref a1), .val (.ref a9), .val (.int (83 : Int32))] [])
    refine Go.to (fun _ => XS.iconst X25.here hx rfl (hb hby at_87)) ?_
    show Go p e below _ T25 (mkF m 88 #[.val (.int p1), .val (.int p2), .val (.int (9 : Int32)), .val (.ref a1), .val (.ref a9), .val (.int (83 : Int32))] [(.int (1 : Int32))])
    refine Go.to (fun _ => XS.goto X25.here hx rfl (pc0 := 88) (pc' := 92) rfl (hb hby at_88) (by decide) (by decide)) ?_
    show Go p e below _ T25 (mkF m 92 #[.val (.int p1), .val (.int p2), .val (.int (9 : Int32)), .val (.ref a1), .val (.ref a9), .val (.int (83 : Int32))] [(.int (1 : Int32))])
    rw [hK]
    exact Go.retWW X25 hx hlk S9 (by rw [e25]; exact g9) hret rfl (Or.inl ⟨rfl, by simp, _, rfl⟩) (hb hby at_92) ⟨rfl, Fr.nil n0⟩ (by rw [e00, e25]; exact (C1.trans C9).trans (CHv.at X25 hZ (own_ew hw) C9.1)) (by decide) (by decide)
  · show Go p e below _ s₁ (mkF m 15 #[.val (.int p1), .val (.int p2), .val (.int (10 : Int32)), .unset, .unset, .unset] [])
    refine Go.to (fun _ => XS.iloadN X0.here hx rfl (hb hby at_15) rfl) ?_
    show Go p e below _ s₁ (mkF m 16 #[.val (.int p1), .val (.int p2), .val (.int (10 : Int32)), .unset, .unset, .unset] [(.int (10 : Int32))])
    refine Go.callSW (s := s) (vm0 := s.vm) (y := (⟨"oakwell/classfile/Bytecode", "newarrayType", "(I)Ljava/lang/String;"⟩ : MethodName)) X0 hx hZ hown ((State.WarmedH.refl s).since _) (Nat.le_refl _) (hw _ (List.mem_of_getElem? (i := 0) rfl)) (hw _ (List.mem_of_getElem? (i := 1) rfl)) (hw _ (List.mem_of_getElem? (i := 2) rfl)) (hw _ (List.mem_of_getElem? (i := 3) rfl)) (by decide) (own_ew hw) H0 (rm1_10 l Z a0 hw [] h0) e0 (by rw [hml]; rfl) (pd_7) rfl (argsL := [(.int (10 : Int32))]) (rest := []) rfl rfl (hb hby at_16) (by decide) (Nat.le_of_ble_eq_true rfl) (by decide) (by decide) ?_
    rintro T1 _ L1 X1 ⟨rfl, E1, a1, b1, c1, rfl, q1, q2, q3, q4⟩ S9 hZ1 hown1 C1
    simp only [List.append_nil] at X1
    have X0 := X1
    have hZ : Z.Warmed39 (s.setVm T1.vm).vm := hZ1
    have hown : (s.setVm T1.vm).vm.findClass "oakwell/classfile/BytecodeNewarrayTypePinLaw" = some m.cls := hown1
    show Go p e below _ T1 (mkF m 19 #[.val (.int p1), .val (.int p2), .val (.int (10 : Int32)), .unset, .unset, .unset] [(.ref a1)])
    refine Go.to (fun _ => XS.astoreN X1.here hx rfl (hb hby at_19) rfl rfl (l' := #[.val (.int p1), .val (.int p2), .val (.int (10 : Int32)), .val (.ref a1), .unset, .unset]) rfl) ?_
    show Go p e below _ T1 (mkF m 20 #[.val (.int p1), .val (.int p2), .val (.int (10 : Int32)), .val (.ref a1), .unset, .unset] [])
    refine Go.to (fun _ => XS.iloadN X1.here hx rfl (hb hby at_20) rfl) ?_
    show Go p e below _ T1 (mkF m 21 #[.val (.int p1), .val (.int p2), .val (.int (10 : Int32)), .val (.ref a1), .unset, .unset] [(.int (10 : Int32))])
    refine Go.to (fun _ => XS.iconst X1.here hx rfl (hb hby at_21)) ?_
    show Go p e below _ T1 (mkF m 22 #[.val (.int p1), .val (.int p2), .val (.int (10 : Int32)), .val (.ref a1), .unset, .unset] [(.int (4 : Int32)), (.int (10 : Int32))])
    refine Go.to (fun _ => XS.icmpNo X1.here hx rfl (hb hby at_22) rfl (flt (by decide)).1) ?_
    show Go p e below _ T1 (mkF m 25 #[.val (.int p1), .val (.int p2), .val (.int (10 : Int32)), .val (.ref a1), .unset, .unset] [])
    refine Go.to (fun _ => XS.iloadN X1.here hx rfl (hb hby at_25) rfl) ?_
    show Go p e below _ T1 (mkF m 26 #[.val (.int p1), .val (.int p2), .val (.int (10 : Int32)), .val (.ref a1), .unset, .unset] [(.int (10 : Int32))])
    refine Go.to (fun _ => XS.bipush X1.here hx rfl (hb hby at_26)) ?_
    show Go p e below _ T1 (mkF m 28 #[.val (.int p1), .val (.int p2), .val (.int (10 : Int32)), .val (.ref a1), .unset, .unset] [(.int (11 : Int32)), (.int (10 : Int32))])
    refine Go.to (fun _ => XS.icmpYes X1.here hx rfl (pc0 := 28) (pc' := 41) rfl (hb hby at_28) rfl (flt (by decide)).2.2.2 (by decide) (by decide)) ?_
    show Go p e below _ T1 (mkF m 41 #[.val (.int p1), .val (.int p2), .val (.int (10 : Int32)), .val (.ref a1), .unset, .unset] [])
    obtain ⟨a9, T9, h9, k9, b9, c9, X9, e9, E9, S9, g9, hZ9, hown9, l1, l2, l3, l4, -, -, C9, -, -, st9⟩ := ldcCH (s := s) (vm0 := T1.vm) X1 hx hZ1 hown1 (hw _ (List.mem_of_getElem? (i := 12) rfl)) (own_sa hw) rfl S9 (Nat.le_refl _) (own_ew hw) (by decide +kernel) C1.1 (vs := [.int 90, .int 67, .int 70, .int 68, .int 66, .int 83, .int 73, .int 74]) (z := 8) (by decide +kernel) (by decide) (by decide) (g := (mkF m 41 #[.val (.int p1), .val (.int p2), .val (.int (10 : Int32)), .val (.ref a1), .unset, .unset] [])) rfl (hb hby at_41) (n := 32) (by decide +kernel) (by decide) (by decide) (by decide)
    refine Go.to st9 ?_
    have hZ : Z.Warmed39 (s.setVm T9.vm).vm := hZ9
    have hown : (s.setVm T9.vm).vm.findClass "oakwell/classfile/BytecodeNewarrayTypePinLaw" = some m.cls := hown9
    have A1 : AV Z h9 b1 .byte [91, 73] := avOf (xs := [91, 73]) (q4.ext E9) (by decide)
    have A2 : AV Z h9 b9 .byte [90, 67, 70, 68, 66, 83, 73, 74] := avOf (xs := [90, 67, 70, 68, 66, 83, 73, 74]) l4 (by decide)
    have q1 := Exa.ext E9 q1
    have q2 := Fld.ext E9 q2
    have q3 := Fld.ext E9 q3
    have S1 := Sta.ext E9 (Sta.ext E1 S1)
    have S2 := Sta.ext E9 (Sta.ext E1 S2)
    show Go p e below _ T9 (mkF m 43 #[.val (.int p1), .val (.int p2), .val (.int (10 : Int32)), .val (.ref a1), .unset, .unset] [(.ref a9)])
    refine Go.to (fun _ => XS.astore X9.here hx rfl (hb hby at_43) rfl rfl (l' := #[.val (.int p1), .val (.int p2), .val (.int (10 : Int32)), .val (.ref a1), .val (.ref a9), .unset]) rfl) ?_
    show Go p e below _ T9 (mkF m 45 #[.val (.int p1), .val (.int p2), .val (.int (10 : Int32)), .val (.ref a1), .val (.ref a9), .unset] [])
    refine Go.to (fun _ => XS.aload X9.here hx rfl (hb hby at_45) rfl rfl) ?_
    show Go p e below _ T9 (mkF m 47 #[.val (.int p1), .val (.int p2), .val (.int (10 : Int32)), .val (.ref a1), .val (.ref a9), .unset] [(.ref a9)])
    refine Go.to (fun _ => XS.iloadN X9.here hx rfl (hb hby at_47) rfl) ?_
    show Go p e below _ T9 (mkF m 48 #[.val (.int p1), .val (.int p2), .val (.int (10 : Int32)), .val (.ref a1), .val (.ref a9), .unset] [(.int (10 : Int32)), (.ref a9)])
    refine Go.to (fun _ => XS.iconst X9.here hx rfl (hb hby at_48)) ?_
    show Go p e below _ T9 (mkF m 49 #[.val (.int p1), .val (.int p2), .val (.int (10 : Int32)), .val (.ref a1), .val (.ref a9), .unset] [(.int (4 : Int32)), (.int (10 : Int32)), (.ref a9)])
    refine Go.to (fun _ => XS.isub X9.here hx rfl (hb hby at_49) rfl) ?_
    show Go p e below _ T9 (mkF m 50 #[.val (.int p1), .val (.int p2), .val (.int (10 : Int32)), .val (.ref a1), .val (.ref a9), .unset] [(.int ((10 : Int32) - (4 : Int32))), (.ref a9)])
    refine Go.callV (y := (⟨"java/lang/String", "charAt", "(I)C"⟩ : MethodName)) X9 hx hZ hown (hw _ (List.mem_of_getElem? (i := 13) rfl)) (hw _ (List.mem_of_getElem? (i := 14) rfl)) (hw _ (List.mem_of_getElem? (i := 16) rfl)) (hw _ (List.mem_of_getElem? (i := 15) rfl)) (hw _ (List.mem_of_getElem? (i := 5) rfl)) (hw _ (List.mem_of_getElem? (i := 17) rfl)) (by decide) (rm2 l Z a0 hw [] a9 ((10 : Int32) - (4 : Int32)) h9 b9 [90, 67, 70, 68, 66, 83, 73, 74] l1 l3 l2 A2 z S1 hz (by decide) (by decide) fm rfm S2 73 73 (by decide +kernel) (by decide +kernel) (by decide +kernel)) e9 l1 (by rw [hml]; rfl) (pd_3) rfl (argsL := [(.int ((10 : Int32) - (4 : Int32)))]) (rest := []) rfl rfl (hb hby at_50) (by decide) (Nat.le_of_ble_eq_true rfl) (by decide) (by decide) ?_
    rintro T26 _ L26 X26 ⟨rfl, e26, rfl⟩
    simp only [List.append_nil] at X26
    show Go p e below _ T26 (mkF m 53 #[.val (.int p1), .val (.int p2), .val (.int (10 : Int32)), .val (.ref a1), .val (.ref a9), .unset] [(.int (73 : Int32))])
    refine Go.to (fun _ => XS.istore X26.here hx rfl (hb hby at_53) rfl (l' := #[.val (.int p1), .val (.int p2), .val (.int (10 : Int32)), .val (.ref a1), .val (.ref a9), .val (.int (73 : Int32))]) rfl) ?_
    show Go p e below _ T26 (mkF m 55 #[.val (.int p1), .val (.int p2), .val (.int (10 : Int32)), .val (.ref a1), .val (.ref a9), .val (.int (73 : Int32))] [])
    refine Go.to (fun _ => XS.aloadN X26.here hx rfl (hb hby at_55) rfl rfl) ?_
    show Go p e below _ T26 (mkF m 56 #[.val (.int p1), .val (.int p2), .val (.int (10 : Int32)), .val (.ref a1), .val (.ref a9), .val (.int (73 : Int32))] [(.ref a1)])
    refine Go.to (fun _ => XS.ifnullNo X26.here hx rfl (hb hby at_56) rfl) ?_
    show Go p e below _ T26 (mkF m 59 #[.val (.int p1), .val (.int p2), .val (.int (10 : Int32)), .val (.ref a1), .val (.ref a9), .val (.int (73 : Int32))] [])
    refine Go.to (fun _ => XS.aloadN X26.here hx rfl (hb hby at_59) rfl rfl) ?_
    show Go p e below _ T26 (mkF m 60 #[.val (.int p1), .val (.int p2), .val (.int (10 : Int32)), .val (.ref a1), .val (.ref a9), .val (.int (73 : Int32))] [(.ref a1)])
    refine Go.callV (y := (⟨"java/lang/String", "length", "()I"⟩ : MethodName)) X26 hx hZ hown (hw _ (List.mem_of_getElem? (i := 38) rfl)) (hw _ (List.mem_of_getElem? (i := 39) rfl)) (hw _ (List.mem_of_getElem? (i := 41) rfl)) (hw _ (List.mem_of_getElem? (i := 40) rfl)) (hw _ (List.mem_of_getElem? (i := 5) rfl)) (hw _ (List.mem_of_getElem? (i := 42) rfl)) (by decide) (rm7 l Z a0 hw [] a1 h9 b1 [91, 73] q1 q3 q2 A1 z S1 hz 2 (by decide +kernel)) e26 q1 (by rw [hml]; rfl) (pd_2) rfl (argsL := []) (rest := []) rfl rfl (hb hby at_60) (by decide) (Nat.le_of_ble_eq_true rfl) (by decide) (by decide) ?_
    rintro T27 _ L27 X27 ⟨rfl, e27, rfl⟩
    simp only [List.append_nil] at X27
    show Go p e below _ T27 (mkF m 63 #[.val (.int p1), .val (.int p2), .val (.int (10 : Int32)), .val (.ref a1), .val (.ref a9), .val (.int (73 : Int32))] [(.int (2 : Int32))])
    refine Go.to (fun _ => XS.iconst X27.here hx rfl (hb hby at_63)) ?_
    show Go p e below _ T27 (mkF m 64 #[.val (.int p1), .val (.int p2), .val (.int (10 : Int32)), .val (.ref a1), .val (.ref a9), .val (.int (73 : Int32))] [(.int (2 : Int32)), (.int (2 : Int32))])
    refine Go.to (fun _ => XS.icmpNo X27.here hx rfl (hb hby at_64) rfl (teq (by decide)).2) ?_
    show Go p e below _ T27 (mkF m 67 #[.val (.int p1), .val (.int p2), .val (.int (10 : Int32)), .val (.ref a1), .val (.ref a9), .val (.int (73 : Int32))] [])
    refine Go.to (fun _ => XS.aloadN X27.here hx rfl (hb hby at_67) rfl rfl) ?_
    show Go p e below _ T27 (mkF m 68 #[.val (.int p1), .val (.int p2), .val (.int (10 : Int32)), .val (.ref a1), .val (.ref a9), .val (.int (73 : Int32))] [(.ref a1)])
    refine Go.to (fun _ => XS.iconst X27.here hx rfl (hb hby at_68)) ?_
    show Go p e below _ T27 (mkF m 69 #[.val (.int p1), .val (.int p2), .val (.int (10 : Int32)), .val (.ref a1), .val (.ref a9), .val (.int (73 : Int32))] [(.int (0 : Int32)), (.ref a1)])
    refine Go.callV (y := (⟨"java/lang/String", "charAt", "(I)C"⟩ : MethodName)) X27 hx hZ hown (hw _ (List.mem_of_getElem? (i := 13) rfl)) (hw _ (List.mem_of_getElem? (i := 14) rfl)) (hw _ (List.mem_of_getElem? (i := 16) rfl)) (hw _ (List.mem_of_getElem? (i := 15) rfl)) (hw _ (List.mem_of_getElem? (i := 5) rfl)) (hw _ (List.mem_of_getElem? (i := 17) rfl)) (by decide) (rm2 l Z a0 hw [] a1 (0 : Int32) h9 b1 [91, 73] q1 q3 q2 A1 z S1 hz (by decide) (by decide) fm rfm S2 91 91 (by decide +kernel) (by decide +kernel) (by decide +kernel)) e27 q1 (by rw [hml]; rfl) (pd_3) rfl (argsL := [(.int (0 : Int32))]) (rest := []) rfl rfl (hb hby at_69) (by decide) (Nat.le_of_ble_eq_true rfl) (by decide) (by decide) ?_
    rintro T28 _ L28 X28 ⟨rfl, e28, rfl⟩
    simp only [List.append_nil] at X28
    show Go p e below _ T28 (mkF m 72 #[.val (.int p1), .val (.int p2), .val (.int (10 : Int32)), .val (.ref a1), .val (.ref a9), .val (.int (73 : Int32))] [(.int (91 : Int32))])
    refine Go.to (fun _ => XS.bipush X28.here hx rfl (hb hby at_72)) ?_
    show Go p e below _ T28 (mkF m 74 #[.val (.int p1), .val (.int p2), .val (.int (10 : Int32)), .val (.ref a1), .val (.ref a9), .val (.int (73 : Int32))] [(.int (91 : Int32)), (.int (91 : Int32))])
    refine Go.to (fun _ => XS.icmpNo X28.here hx rfl (hb hby at_74) rfl (teq (by decide)).2) ?_
    show Go p e below _ T28 (mkF m 77 #[.val (.int p1), .val (.int p2), .val (.int (10 : Int32)), .val (.ref a1), .val (.ref a9), .val (.int (73 : Int32))] [])
    refine Go.to (fun _ => XS.aloadN X28.here hx rfl (hb hby at_77) rfl rfl) ?_
    show Go p e below _ T28 (mkF m 78 #[.val (.int p1), .val (.int p2), .val (.int (10 : Int32)), .val (.ref a1), .val (.ref a9), .val (.int (73 : Int32))] [(.ref a1)])
    refine Go.to (fun _ => XS.iconst X28.here hx rfl (hb hby at_78)) ?_
    show Go p e below _ T28 (mkF m 79 #[.val (.int p1), .val (.int p2), .val (.int (10 : Int32)), .val (.ref a1), .val (.ref a9), .val (.int (73 : Int32))] [(.int (1 : Int32)), (.ref a1)])
    refine Go.callV (y := (⟨"java/lang/String", "charAt", "(I)C"⟩ : MethodName)) X28 hx hZ hown (hw _ (List.mem_of_getElem? (i := 13) rfl)) (hw _ (List.mem_of_getElem? (i := 14) rfl)) (hw _ (List.mem_of_getElem? (i := 16) rfl)) (hw _ (List.mem_of_getElem? (i := 15) rfl)) (hw _ (List.mem_of_getElem? (i := 5) rfl)) (hw _ (List.mem_of_getElem? (i := 17) rfl)) (by decide) (rm2 l Z a0 hw [] a1 (1 : Int32) h9 b1 [91, 73] q1 q3 q2 A1 z S1 hz (by decide) (by decide) fm rfm S2 73 73 (by decide +kernel) (by decide +kernel) (by decide +kernel)) e28 q1 (by rw [hml]; rfl) (pd_3) rfl (argsL := [(.int (1 : Int32))]) (rest := []) rfl rfl (hb hby at_79) (by decide) (Nat.le_of_ble_eq_true rfl) (by decide) (by decide) ?_
    rintro T29 _ L29 X29 ⟨rfl, e29, rfl⟩
    simp only [List.append_nil] at X29
    show Go p e below _ T29 (mkF m 82 #[.val (.int p1), .val (.int p2), .val (.int (10 : Int32)), .val (.ref a1), .val (.ref a9), .val (.int (73 : Int32))] [(.int (73 : Int32))])
    refine Go.to (fun _ => XS.iload X29.here hx rfl (hb hby at_82) rfl) ?_
    show Go p e below _ T29 (mkF m 84 #[.val (.int p1), .val (.int p2), .val (.int (10 : Int32)), .val (.ref a1), .val (.ref a9), .val (.int (73 : Int32))] [(.int (73 : Int32)), (.int (73 : Int32))])
    refine Go.to (fun _ => XS.icmpNo X29.here hx rfl (hb hby at_84) rfl (teq (by decide)).2) ?_
    show Go p e below _ T29 (mkF m 87 #[.val (.int p1), .val (.int p2), .val (.int (10 : Int32)), .val (.ref a1), .val (.ref a9), .val (.int (73 : Int32))] [])
    refine Go.to (fun _ => XS.iconst X29.here hx rfl (hb hby at_87)) ?_
    show Go p e below _ T29 (mkF m 88 #[.val (.int p1), .val (.int p2), .val (.int (10 : Int32)), .val (.ref a1), .val (.ref a9), .val (.int (73 : Int32))] [(.int (1 : Int32))])
    refine Go.to (fun _ => XS.goto X29.here hx rfl (pc0 := 88) (pc' := 92) rfl (hb hby at_88) (by decide) (by decide)) ?_
    show Go p e below _ T29 (mkF m 92 #[.val (.int p1), .val (.int p2), .val (.int (10 : Int32)), .val (.ref a1), .val (.ref a9), .val (.int (73 : Int32))] [(.int (1 : Int32))])
    rw [hK]
    exact Go.retWW X29 hx hlk S9 (by rw [e29]; exact g9) hret rfl (Or.inl ⟨rfl, by simp, _, rfl⟩) (hb hby at_92) ⟨rfl, Fr.nil n0⟩ (by rw [e00, e29]; exact (C1.trans C9).trans (CHv.at X29 hZ (own_ew hw) C9.1)) (by decide) (by decide)
  · show Go p e below _ s₁ (mkF m 15 #[.val (.int p1), .val (.int p2), .val (.int (11 : Int32)), .unset, .unset, .unset] [])
    refine Go.to (fun _ => XS.iloadN X0.here hx rfl (hb hby at_15) rfl) ?_
    show Go p e below _ s₁ (mkF m 16 #[.val (.int p1), .val (.int p2), .val (.int (11 : Int32)), .unset, .unset, .unset] [(.int (11 : Int32))])
    refine Go.callSW (s := s) (vm0 := s.vm) (y := (⟨"oakwell/classfile/Bytecode", "newarrayType", "(I)Ljava/lang/String;"⟩ : MethodName)) X0 hx hZ hown ((State.WarmedH.refl s).since _) (Nat.le_refl _) (hw _ (List.mem_of_getElem? (i := 0) rfl)) (hw _ (List.mem_of_getElem? (i := 1) rfl)) (hw _ (List.mem_of_getElem? (i := 2) rfl)) (hw _ (List.mem_of_getElem? (i := 3) rfl)) (by decide) (own_ew hw) H0 (rm1_11 l Z a0 hw [] h0) e0 (by rw [hml]; rfl) (pd_7) rfl (argsL := [(.int (11 : Int32))]) (rest := []) rfl rfl (hb hby at_16) (by decide) (Nat.le_of_ble_eq_true rfl) (by decide) (by decide) ?_
    rintro T1 _ L1 X1 ⟨rfl, E1, a1, b1, c1, rfl, q1, q2, q3, q4⟩ S9 hZ1 hown1 C1
    simp only [List.append_nil] at X1
    have X0 := X1
    have hZ : Z.Warmed39 (s.setVm T1.vm).vm := hZ1
    have hown : (s.setVm T1.vm).vm.findClass "oakwell/classfile/BytecodeNewarrayTypePinLaw" = some m.cls := hown1
    show Go p e below _ T1 (mkF m 19 #[.val (.int p1), .val (.int p2), .val (.int (11 : Int32)), .unset, .unset, .unset] [(.ref a1)])
    refine Go.to (fun _ => XS.astoreN X1.here hx rfl (hb hby at_19) rfl rfl (l' := #[.val (.int p1), .val (.int p2), .val (.int (11 : Int32)), .val (.ref a1), .unset, .unset]) rfl) ?_
    show Go p e below _ T1 (mkF m 20 #[.val (.int p1), .val (.int p2), .val (.int (11 : Int32)), .val (.ref a1), .unset, .unset] [])
    refine Go.to (fun _ => XS.iloadN X1.here hx rfl (hb hby at_20) rfl) ?_
    show Go p e below _ T1 (mkF m 21 #[.val (.int p1), .val (.int p2), .val (.int (11 : Int32)), .val (.ref a1), .unset, .unset] [(.int (11 : Int32))])
    refine Go.to (fun _ => XS.iconst X1.here hx rfl (hb hby at_21)) ?_
    show Go p e below _ T1 (mkF m 22 #[.val (.int p1), .val (.int p2), .val (.int (11 : Int32)), .val (.ref a1), .unset, .unset] [(.int (4 : Int32)), (.int (11 : Int32))])
    refine Go.to (fun _ => XS.icmpNo X1.here hx rfl (hb hby at_22) rfl (flt (by decide)).1) ?_
    show Go p e below _ T1 (mkF m 25 #[.val (.int p1), .val (.int p2), .val (.int (11 : Int32)), .val (.ref a1), .unset, .unset] [])
    refine Go.to (fun _ => XS.iloadN X1.here hx rfl (hb hby at_25) rfl) ?_
    show Go p e below _ T1 (mkF m 26 #[.val (.int p1), .val (.int p2), .val (.int (11 : Int32)), .val (.ref a1), .unset, .unset] [(.int (11 : Int32))])
    refine Go.to (fun _ => XS.bipush X1.here hx rfl (hb hby at_26)) ?_
    show Go p e below _ T1 (mkF m 28 #[.val (.int p1), .val (.int p2), .val (.int (11 : Int32)), .val (.ref a1), .unset, .unset] [(.int (11 : Int32)), (.int (11 : Int32))])
    refine Go.to (fun _ => XS.icmpYes X1.here hx rfl (pc0 := 28) (pc' := 41) rfl (hb hby at_28) rfl (flt (by decide)).2.2.2 (by decide) (by decide)) ?_
    show Go p e below _ T1 (mkF m 41 #[.val (.int p1), .val (.int p2), .val (.int (11 : Int32)), .val (.ref a1), .unset, .unset] [])
    obtain ⟨a9, T9, h9, k9, b9, c9, X9, e9, E9, S9, g9, hZ9, hown9, l1, l2, l3, l4, -, -, C9, -, -, st9⟩ := ldcCH (s := s) (vm0 := T1.vm) X1 hx hZ1 hown1 (hw _ (List.mem_of_getElem? (i := 12) rfl)) (own_sa hw) rfl S9 (Nat.le_refl _) (own_ew hw) (by decide +kernel) C1.1 (vs := [.int 90, .int 67, .int 70, .int 68, .int 66, .int 83, .int 73, .int 74]) (z := 8) (by decide +kernel) (by decide) (by decide) (g := (mkF m 41 #[.val (.int p1), .val (.int p2), .val (.int (11 : Int32)), .val (.ref a1), .unset, .unset] [])) rfl (hb hby at_41) (n := 32) (by decide +kernel) (by decide) (by decide) (by decide)
    refine Go.to st9 ?_
    have hZ : Z.Warmed39 (s.setVm T9.vm).vm := hZ9
    have hown : (s.setVm T9.vm).vm.findClass "oakwell/classfile/BytecodeNewarrayTypePinLaw" = some m.cls := hown9
    have A1 : AV Z h9 b1 .byte [91, 74] := avOf (xs := [91, 74]) (q4.ext E9) (by decide)
    have A2 : AV Z h9 b9 .byte [90, 67, 70, 68, 66, 83, 73, 74] := avOf (xs := [90, 67, 70, 68, 66, 83, 73, 74]) l4 (by decide)
    have q1 := Exa.ext E9 q1
    have q2 := Fld.ext E9 q2
    have q3 := Fld.ext E9 q3
    have S1 := Sta.ext E9 (Sta.ext E1 S1)
    have S2 := Sta.ext E9 (Sta.ext E1 S2)
    show Go p e below _ T9 (mkF m 43 #[.val (.int p1), .val (.int p2), .val (.int (11 : Int32)), .val (.ref a1), .unset, .unset] [(.ref a9)])
    refine Go.to (fun _ => XS.astore X9.here hx rfl (hb hby at_43) rfl rfl (l' := #[.val (.int p1), .val (.int p2), .val (.int (11 : Int32)), .val (.ref a1), .val (.ref a9), .unset]) rfl) ?_
    show Go p e below _ T9 (mkF m 45 #[.val (.int p1), .val (.int p2), .val (.int (11 : Int32)), .val (.ref a1), .val (.ref a9), .unset] [])
    refine Go.to (fun _ => XS.aload X9.here hx rfl (hb hby at_45) rfl rfl) ?_
    show Go p e below _ T9 (mkF m 47 #[.val (.int p1), .val (.int p2), .val (.int (11 : Int32)), .val (.ref a1), .val (.ref a9), .unset] [(.ref a9)])
    refine Go.to (fun _ => XS.iloadN X9.here hx rfl (hb hby at_47) rfl) ?_
    show Go p e below _ T9 (mkF m 48 #[.val (.int p1), .val (.int p2), .val (.int (11 : Int32)), .val (.ref a1), .val (.ref a9), .unset] [(.int (11 : Int32)), (.ref a9)])
    refine Go.to (fun _ => XS.iconst X9.here hx rfl (hb hby at_48)) ?_
    show Go p e below _ T9 (mkF m 49 #[.val (.int p1), .val (.int p2), .val (.int (11 : Int32)), .val (.ref a1), .val (.ref a9), .unset] [(.int (4 : Int32)), (.int (11 : Int32)), (.ref a9)])
    refine Go.to (fun _ => XS.isub X9.here hx rfl (hb hby at_49) rfl) ?_
    show Go p e below _ T9 (mkF m 50 #[.val (.int p1), .val (.int p2), .val (.int (11 : Int32)), .val (.ref a1), .val (.ref a9), .unset] [(.int ((11 : Int32) - (4 : Int32))), (.ref a9)])
    refine Go.callV (y := (⟨"java/lang/String", "charAt", "(I)C"⟩ : MethodName)) X9 hx hZ hown (hw _ (List.mem_of_getElem? (i := 13) rfl)) (hw _ (List.mem_of_getElem? (i := 14) rfl)) (hw _ (List.mem_of_getElem? (i := 16) rfl)) (hw _ (List.mem_of_getElem? (i := 15) rfl)) (hw _ (List.mem_of_getElem? (i := 5) rfl)) (hw _ (List.mem_of_getElem? (i := 17) rfl)) (by decide) (rm2 l Z a0 hw [] a9 ((11 : Int32) - (4 : Int32)) h9 b9 [90, 67, 70, 68, 66, 83, 73, 74] l1 l3 l2 A2 z S1 hz (by decide) (by decide) fm rfm S2 74 74 (by decide +kernel) (by decide +kernel) (by decide +kernel)) e9 l1 (by rw [hml]; rfl) (pd_3) rfl (argsL := [(.int ((11 : Int32) - (4 : Int32)))]) (rest := []) rfl rfl (hb hby at_50) (by decide) (Nat.le_of_ble_eq_true rfl) (by decide) (by decide) ?_
    rintro T30 _ L30 X30 ⟨rfl, e30, rfl⟩
    simp only [List.append_nil] at X30
    show Go p e below _ T30 (mkF m 53 #[.val (.int p1), .val (.int p2), .val (.int (11 : Int32)), .val (.ref a1), .val (.ref a9), .unset] [(.int (74 : Int32))])
    refine Go.to (fun _ => XS.istore X30.here hx rfl (hb hby at_53) rfl (l' := #[.val (.int p1), .val (.int p2), .val (.int (11 : Int32)), .val (.ref a1), .val (.ref a9), .val (.int (74 : Int32))]) rfl) ?_
    show Go p e below _ T30 (mkF m 55 #[.val (.int p1), .val (.int p2), .val (.int (11 : Int32)), .val (.ref a1), .val (.ref a9), .val (.int (74 : Int32))] [])
    refine Go.to (fun _ => XS.aloadN X30.here hx rfl (hb hby at_55) rfl rfl) ?_
    show Go p e below _ T30 (mkF m 56 #[.val (.int p1), .val (.int p2), .val (.int (11 : Int32)), .val (.ref a1), .val (.ref a9), .val (.int (74 : Int32))] [(.ref a1)])
    refine Go.to (fun _ => XS.ifnullNo X30.here hx rfl (hb hby at_56) rfl) ?_
    show Go p e below _ T30 (mkF m 59 #[.val (.int p1), .val (.int p2), .val (.int (11 : Int32)), .val (.ref a1), .val (.ref a9), .val (.int (74 : Int32))] [])
    refine Go.to (fun _ => XS.aloadN X30.here hx rfl (hb hby at_59) rfl rfl) ?_
    show Go p e below _ T30 (mkF m 60 #[.val (.int p1), .val (.int p2), .val (.int (11 : Int32)), .val (.ref a1), .val (.ref a9), .val (.int (74 : Int32))] [(.ref a1)])
    refine Go.callV (y := (⟨"java/lang/String", "length", "()I"⟩ : MethodName)) X30 hx hZ hown (hw _ (List.mem_of_getElem? (i := 38) rfl)) (hw _ (List.mem_of_getElem? (i := 39) rfl)) (hw _ (List.mem_of_getElem? (i := 41) rfl)) (hw _ (List.mem_of_getElem? (i := 40) rfl)) (hw _ (List.mem_of_getElem? (i := 5) rfl)) (hw _ (List.mem_of_getElem? (i := 42) rfl)) (by decide) (rm7 l Z a0 hw [] a1 h9 b1 [91, 74] q1 q3 q2 A1 z S1 hz 2 (by decide +kernel)) e30 q1 (by rw [hml]; rfl) (pd_2) rfl (argsL := []) (rest := []) rfl rfl (hb hby at_60) (by decide) (Nat.le_of_ble_eq_true rfl) (by decide) (by decide) ?_
    rintro T31 _ L31 X31 ⟨rfl, e31, rfl⟩
    simp only [List.append_nil] at X31
    show Go p e below _ T31 (mkF m 63 #[.val (.int p1), .val (.int p2), .val (.int (11 : Int32)), .val (.ref a1), .val (.ref a9), .val (.int (74 : Int32))] [(.int (2 : Int32))])
    refine Go.to (fun _ => XS.iconst X31.here hx rfl (hb hby at_63)) ?_
    show Go p e below _ T31 (mkF m 64 #[.val (.int p1), .val (.int p2), .val (.int (11 : Int32)), .val (.ref a1), .val (.ref a9), .val (.int (74 : Int32))] [(.int (2 : Int32)), (.int (2 : Int32))])
    refine Go.to (fun _ => XS.icmpNo X31.here hx rfl (hb hby at_64) rfl (teq (by decide)).2) ?_
    show Go p e below _ T31 (mkF m 67 #[.val (.int p1), .val (.int p2), .val (.int (11 : Int32)), .val (.ref a1), .val (.ref a9), .val (.int (74 : Int32))] [])
    refine Go.to (fun _ => XS.aloadN X31.here hx rfl (hb hby at_67) rfl rfl) ?_
    show Go p e below _ T31 (mkF m 68 #[.val (.int p1), .val (.int p2), .val (.int (11 : Int32)), .val (.ref a1), .val (.ref a9), .val (.int (74 : Int32))] [(.ref a1)])
    refine Go.to (fun _ => XS.iconst X31.here hx rfl (hb hby at_68)) ?_
    show Go p e below _ T31 (mkF m 69 #[.val (.int p1), .val (.int p2), .val (.int (11 : Int32)), .val (.ref a1), .val (.ref a9), .val (.int (74 : Int32))] [(.int (0 : Int32)), (.ref a1)])
    refine Go.callV (y := (⟨"java/lang/String", "charAt", "(I)C"⟩ : MethodName)) X31 hx hZ hown (hw _ (List.mem_of_getElem? (i := 13) rfl)) (hw _ (List.mem_of_getElem? (i := 14) rfl)) (hw _ (List.mem_of_getElem? (i := 16) rfl)) (hw _ (List.mem_of_getElem? (i := 15) rfl)) (hw _ (List.mem_of_getElem? (i := 5) rfl)) (hw _ (List.mem_of_getElem? (i := 17) rfl)) (by decide) (rm2 l Z a0 hw [] a1 (0 : Int32) h9 b1 [91, 74] q1 q3 q2 A1 z S1 hz (by decide) (by decide) fm rfm S2 91 91 (by decide +kernel) (by decide +kernel) (by decide +kernel)) e31 q1 (by rw [hml]; rfl) (pd_3) rfl (argsL := [(.int (0 : Int32))]) (rest := []) rfl rfl (hb hby at_69) (by decide) (Nat.le_of_ble_eq_true rfl) (by decide) (by decide) ?_
    rintro T32 _ L32 X32 ⟨rfl, e32, rfl⟩
    simp only [List.append_nil] at X32
    show Go p e below _ T32 (mkF m 72 #[.val (.int p1), .val (.int p2), .val (.int (11 : Int32)), .val (.ref a1), .val (.ref a9), .val (.int (74 : Int32))] [(.int (91 : Int32))])
    refine Go.to (fun _ => XS.bipush X32.here hx rfl (hb hby at_72)) ?_
    show Go p e below _ T32 (mkF m 74 #[.val (.int p1), .val (.int p2), .val (.int (11 : Int32)), .val (.ref a1), .val (.ref a9), .val (.int (74 : Int32))] [(.int (91 : Int32)), (.int (91 : Int32))])
    refine Go.to (fun _ => XS.icmpNo X32.here hx rfl (hb hby at_74) rfl (teq (by decide)).2) ?_
    show Go p e below _ T32 (mkF m 77 #[.val (.int p1), .val (.int p2), .val (.int (11 : Int32)), .val (.ref a1), .val (.ref a9), .val (.int (74 : Int32))] [])
    refine Go.to (fun _ => XS.aloadN X32.here hx rfl (hb hby at_77) rfl rfl) ?_
    show Go p e below _ T32 (mkF m 78 #[.val (.int p1), .val (.int p2), .val (.int (11 : Int32)), .val (.ref a1), .val (.ref a9), .val (.int (74 : Int32))] [(.ref a1)])
    refine Go.to (fun _ => XS.iconst X32.here hx rfl (hb hby at_78)) ?_
    show Go p e below _ T32 (mkF m 79 #[.val (.int p1), .val (.int p2), .val (.int (11 : Int32)), .val (.ref a1), .val (.ref a9), .val (.int (74 : Int32))] [(.int (1 : Int32)), (.ref a1)])
    refine Go.callV (y := (⟨"java/lang/String", "charAt", "(I)C"⟩ : MethodName)) X32 hx hZ hown (hw _ (List.mem_of_getElem? (i := 13) rfl)) (hw _ (List.mem_of_getElem? (i := 14) rfl)) (hw _ (List.mem_of_getElem? (i := 16) rfl)) (hw _ (List.mem_of_getElem? (i := 15) rfl)) (hw _ (List.mem_of_getElem? (i := 5) rfl)) (hw _ (List.mem_of_getElem? (i := 17) rfl)) (by decide) (rm2 l Z a0 hw [] a1 (1 : Int32) h9 b1 [91, 74] q1 q3 q2 A1 z S1 hz (by decide) (by decide) fm rfm S2 74 74 (by decide +kernel) (by decide +kernel) (by decide +kernel)) e32 q1 (by rw [hml]; rfl) (pd_3) rfl (argsL := [(.int (1 : Int32))]) (rest := []) rfl rfl (hb hby at_79) (by decide) (Nat.le_of_ble_eq_true rfl) (by decide) (by decide) ?_
    rintro T33 _ L33 X33 ⟨rfl, e33, rfl⟩
    simp only [List.append_nil] at X33
    show Go p e below _ T33 (mkF m 82 #[.val (.int p1), .val (.int p2), .val (.int (11 : Int32)), .val (.ref a1), .val (.ref a9), .val (.int (74 : Int32))] [(.int (74 : Int32))])
    refine Go.to (fun _ => XS.iload X33.here hx rfl (hb hby at_82) rfl) ?_
    show Go p e below _ T33 (mkF m 84 #[.val (.int p1), .val (.int p2), .val (.int (11 : Int32)), .val (.ref a1), .val (.ref a9), .val (.int (74 : Int32))] [(.int (74 : Int32)), (.int (74 : Int32))])
    refine Go.to (fun _ => XS.icmpNo X33.here hx rfl (hb hby at_84) rfl (teq (by decide)).2) ?_
    show Go p e below _ T33 (mkF m 87 #[.val (.int p1), .val (.int p2), .val (.int (11 : Int32)), .val (.ref a1), .val (.ref a9), .val (.int (74 : Int32))] [])
    refine Go.to (fun _ => XS.iconst X33.here hx rfl (hb hby at_87)) ?_
    show Go p e below _ T33 (mkF m 88 #[.val (.int p1), .val (.int p2), .val (.int (11 : Int32)), .val (.ref a1), .val (.ref a9), .val (.int (74 : Int32))] [(.int (1 : Int32))])
    refine Go.to (fun _ => XS.goto X33.here hx rfl (pc0 := 88) (pc' := 92) rfl (hb hby at_88) (by decide) (by decide)) ?_
    show Go p e below _ T33 (mkF m 92 #[.val (.int p1), .val (.int p2), .val (.int (11 : Int32)), .val (.ref a1), .val (.ref a9), .val (.int (74 : Int32))] [(.int (1 : Int32))])
    rw [hK]
    exact Go.retWW X33 hx hlk S9 (by rw [e33]; exact g9) hret rfl (Or.inl ⟨rfl, by simp, _, rfl⟩) (hb hby at_92) ⟨rfl, Fr.nil n0⟩ (by rw [e00, e33]; exact (C1.trans C9).trans (CHv.at X33 hZ (own_ew hw) C9.1)) (by decide) (by decide)
  · show Go p e below _ s₁ (mkF m 15 #[.val (.int p1), .val (.int p2), .val (.int zc), .unset, .unset, .unset] [])
    refine Go.to (fun _ => XS.iloadN X0.here hx rfl (hb hby at_15) rfl) ?_
    show Go p e below _ s₁ (mkF m 16 #[.val (.int p1), .val (.int p2), .val (.int zc), .unset, .unset, .unset] [(.int zc)])
    refine Go.callSW (s := s) (vm0 := s.vm) (y := (⟨"oakwell/classfile/Bytecode", "newarrayType", "(I)Ljava/lang/String;"⟩ : MethodName)) X0 hx hZ hown ((State.WarmedH.refl s).since _) (Nat.le_refl _) (hw _ (List.mem_of_getElem? (i := 0) rfl)) (hw _ (List.mem_of_getElem? (i := 1) rfl)) (hw _ (List.mem_of_getElem? (i := 2) rfl)) (hw _ (List.mem_of_getElem? (i := 3) rfl)) (by decide) (own_ew hw) H0 (rm1_x l Z a0 hw [] zc h0 hp) e0 (by rw [hml]; rfl) (pd_7) rfl (argsL := [(.int zc)]) (rest := []) rfl rfl (hb hby at_16) (by decide) (Nat.le_of_ble_eq_true rfl) (by decide) (by decide) ?_
    rintro T1 _ L1 X1 ⟨rfl, eh, rfl⟩ S9 hZ1 hown1 C1
    simp only [List.append_nil] at X1
    have X0 := X1
    have hZ : Z.Warmed39 (s.setVm T1.vm).vm := hZ1
    have hown : (s.setVm T1.vm).vm.findClass "oakwell/classfile/BytecodeNewarrayTypePinLaw" = some m.cls := hown1
    show Go p e below _ T1 (mkF m 19 #[.val (.int p1), .val (.int p2), .val (.int zc), .unset, .unset, .unset] [.null])
    refine Go.to (fun _ => XS.astoreN X1.here hx rfl (hb hby at_19) rfl rfl (l' := #[.val (.int p1), .val (.int p2), .val (.int zc), .val .null, .unset, .unset]) rfl) ?_
    show Go p e below _ T1 (mkF m 20 #[.val (.int p1), .val (.int p2), .val (.int zc), .val .null, .unset, .unset] [])
    refine Go.to (fun _ => XS.iloadN X1.here hx rfl (hb hby at_20) rfl) ?_
    show Go p e below _ T1 (mkF m 21 #[.val (.int p1), .val (.int p2), .val (.int zc), .val .null, .unset, .unset] [(.int zc)])
    refine Go.to (fun _ => XS.iconst X1.here hx rfl (hb hby at_21)) ?_
    show Go p e below _ T1 (mkF m 22 #[.val (.int p1), .val (.int p2), .val (.int zc), .val .null, .unset, .unset] [(.int (4 : Int32)), (.int zc)])
    by_cases hc2 : zc < (4 : Int32)
    · refine Go.to (fun _ => XS.icmpYes X1.here hx rfl (pc0 := 22) (pc' := 31) rfl (hb hby at_22) rfl (tlt hc2).1 (by decide) (by decide)) ?_
      show Go p e below _ T1 (mkF m 31 #[.val (.int p1), .val (.int p2), .val (.int zc), .val .null, .unset, .unset] [])
      refine Go.to (fun _ => XS.aloadN X1.here hx rfl (hb hby at_31) rfl rfl) ?_
      show Go p e below _ T1 (mkF m 32 #[.val (.int p1), .val (.int p2), .val (.int zc), .val .null, .unset, .unset] [.null])
      refine Go.to (fun _ => XS.ifnonnullNo X1.here hx rfl (hb hby at_32) rfl) ?_
      show Go p e below _ T1 (mkF m 35 #[.val (.int p1), .val (.int p2), .val (.int zc), .val .null, .unset, .unset] [])
      refine Go.to (fun _ => XS.iconst X1.here hx rfl (hb hby at_35)) ?_
      show Go p e below _ T1 (mkF m 36 #[.val (.int p1), .val (.int p2), .val (.int zc), .val .null, .unset, .unset] [(.int (1 : Int32))])
      refine Go.to (fun _ => XS.goto X1.here hx rfl (pc0 := 36) (pc' := 40) rfl (hb hby at_36) (by decide) (by decide)) ?_
      show Go p e below _ T1 (mkF m 40 #[.val (.int p1), .val (.int p2), .val (.int zc), .val .null, .unset, .unset] [(.int (1 : Int32))])
      rw [hK]
      exact Go.retWW X1 hx hlk S9 (Nat.le_refl _) hret rfl (Or.inl ⟨rfl, by simp, _, rfl⟩) (hb hby at_40) ⟨rfl, Fr.nil n0⟩ (by rw [e00]; exact C1) (by decide) (by decide)
    · refine Go.to (fun _ => XS.icmpNo X1.here hx rfl (hb hby at_22) rfl (flt hc2).1) ?_
      show Go p e below _ T1 (mkF m 25 #[.val (.int p1), .val (.int p2), .val (.int zc), .val .null, .unset, .unset] [])
      refine Go.to (fun _ => XS.iloadN X1.here hx rfl (hb hby at_25) rfl) ?_
      show Go p e below _ T1 (mkF m 26 #[.val (.int p1), .val (.int p2), .val (.int zc), .val .null, .unset, .unset] [(.int zc)])
      refine Go.to (fun _ => XS.bipush X1.here hx rfl (hb hby at_26)) ?_
      show Go p e below _ T1 (mkF m 28 #[.val (.int p1), .val (.int p2), .val (.int zc), .val .null, .unset, .unset] [(.int (11 : Int32)), (.int zc)])
      refine Go.to (fun _ => XS.icmpNo X1.here hx rfl (hb hby at_28) rfl (tlt (own_gt hp hc2)).2.2.2) ?_
      show Go p e below _ T1 (mkF m 31 #[.val (.int p1), .val (.int p2), .val (.int zc), .val .null, .unset, .unset] [])
      refine Go.to (fun _ => XS.aloadN X1.here hx rfl (hb hby at_31) rfl rfl) ?_
      show Go p e below _ T1 (mkF m 32 #[.val (.int p1), .val (.int p2), .val (.int zc), .val .null, .unset, .unset] [.null])
      refine Go.to (fun _ => XS.ifnonnullNo X1.here hx rfl (hb hby at_32) rfl) ?_
      show Go p e below _ T1 (mkF m 35 #[.val (.int p1), .val (.int p2), .val (.int zc), .val .null, .unset, .unset] [])
      refine Go.to (fun _ => XS.iconst X1.here hx rfl (hb hby at_35)) ?_
      show Go p e below _ T1 (mkF m 36 #[.val (.int p1), .val (.int p2), .val (.int zc), .val .null, .unset, .unset] [(.int (1 : Int32))])
      refine Go.to (fun _ => XS.goto X1.here hx rfl (pc0 := 36) (pc' := 40) rfl (hb hby at_36) (by decide) (by decide)) ?_
      show Go p e below _ T1 (mkF m 40 #[.val (.int p1), .val (.int p2), .val (.int zc), .val .null, .unset, .unset] [(.int (1 : Int32))])
      rw [hK]
      exact Go.retWW X1 hx hlk S9 (Nat.le_refl _) hret rfl (Or.inl ⟨rfl, by simp, _, rfl⟩) (hb hby at_40) ⟨rfl, Fr.nil n0⟩ (by rw [e00]; exact C1) (by decide) (by decide)
set_option maxHeartbeats 40000000 in
theorem comes_1 {Post : Tables → Env → Array Value → State → Outcome → State → Prop} (hpost : ∀ tb e args s v u, (limb_1_1.after args s (.returned v) u = true ∧ limb_1_2.after args s (.returned v) u = true ∧ True) → ReturnedEndW s (.returned v) u (Jvm.fieldLocs frame_1_writes args s ++ Jvm.arrayLocs frame_1_arrays args s ++ Jvm.staticLocs frame_1_statics s) 24 9280 → Post tb e args s (.returned v) u) :
    ArmFor flags0 classFile x code maxLocals ret World_1 tables_1 room_1 Calls_1 rest_1 Pre_1 Post := by
  intro l hfl _ _ p e ha hc hk s m args below hf hA hF happ hP
  obtain ⟨hcalls, hrest, hpre⟩ := hP
  obtain ⟨-, -, -, hnamed, -, -, -, hat⟩ := (Spec.applies_iff hf).mp happ
  obtain ⟨hg, hn⟩ := and_e (Cond.before_iff.mp (show (Jvm.Cond.and given_1 narrow_1).before args s = true from hpre))
  obtain ⟨gc, gr0⟩ := and_e hg
  obtain ⟨g0, gr1⟩ := and_e gr0
  obtain ⟨w0, w1, rfl⟩ : ∃ w0 w1 : Value, args = #[w0, w1] := by
    have hs : args.size = 2 := by simpa [Cond.value, given_1] using gc
    obtain ⟨L⟩ := args
    match L, hs with
    | [w0, w1], _ => exact ⟨w0, w1, rfl⟩
  have hw := fun d (hd : d ∈ tables_1) => atoms_spec (ws := Jvm.Cond.code x code maxLocals ret :: tables_1) hat d (List.mem_cons_of_mem _ hd)
  obtain ⟨hsets, hown0⟩ := atoms_of _ (rest_1_c_eq ▸ (show rest_1_c.before _ s = true from hrest))
  have n5 := not_v (Cond.before_iff.mp (hsets _ (List.mem_of_getElem? (i := 2) rfl)))
  obtain ⟨i0, ei0⟩ := is_v g0
  obtain rfl : w0 = (.int i0) := Option.some.inj ei0
  obtain ⟨i1, ei1⟩ := is_v gr1
  obtain rfl : w1 = (.int i1) := Option.some.inj ei1
  obtain ⟨i11, e10⟩ := is_v (Cond.before_iff.mp (hsets _ (List.mem_of_getElem? (i := 1) rfl)))
  have S12 : Sta s s.heap "java/lang/String" "COMPACT_STRINGS" "Z" (.int i11) := Sta.start e10 (Or.inl (hsets _ (List.mem_of_getElem? (i := 0) rfl)))
  obtain ⟨v13, e14, r15⟩ := isR_v (Cond.before_iff.mp (hsets _ (List.mem_of_getElem? (i := 8) rfl)))
  have S16 : Sta s s.heap "jdk/internal/util/Preconditions" "SIOOBE_FORMATTER" "Ljava/util/function/BiFunction;" v13 := Sta.start e14 (Or.inl (hsets _ (List.mem_of_getElem? (i := 7) rfl)))
  have c17 : ¬ (i11 = (0 : Int32)) := gotF (Cond.eq_ints e10 (Term.int_eval (0))) n5
  have hH : ∀ q ∈ consts_1, Jvm.Lit.constHeld s q.1 q.2 := fun q hq => hcalls.1 q hq
  have hC := CHv.start (own_ew hw) hH (hsets _ (List.mem_of_getElem? (i := 2) rfl)) (hw _ (List.mem_of_getElem? (i := 7) rfl)) (hw _ (List.mem_of_getElem? (i := 6) rfl))
  obtain ⟨n, o, h1, h2, h3, _, L, rfl, ⟨rfl, N⟩, -, hq⟩ := rm0 l s _ hw tables_1 i0 i1 s.heap s.heap.size (Nat.le_refl _) i11 S12 c17 v13 r15 S16 p e ha hc hk s m _ below hf ((Spec.applies_iff_loose hf).mp happ).1 ⟨rfl, State.Warmed39.refl s, rfl, hC⟩ trivial
  refine ⟨n, _, h1, h2, h3, hpost _ _ _ _ _ _ ⟨Cond.after_iff.mpr rfl, Cond.after_iff.mpr (eq_i res_at (Term.int_eval (1)) rfl), trivial⟩ ⟨hq.1, hq.2.1, hq.2.2.1, (hq.2.2.2.sift fun y hy => Or.inr (N y hy)).mono (by decide) (by decide)⟩⟩
theorem main_1_1 : Claimed_1_1 := comes_1 fun _ _ _ _ _ _ h hF => ⟨h.1, hF⟩
theorem main_1_2 : Claimed_1_2 := comes_1 fun _ _ _ _ _ _ h hF => ⟨h.2.1, hF⟩
end Jvm.Pilot.@@N@@
namespace Jvm.Pilot.@@N@@
open Jvm Jvm.ClassFile Sem Op Lib Jvm.Free Jvm.Stand Jvm.Pilot.@@N@@.Jvm.D
/-! MADE BY PROGRAM (witnessworld.py) out of the Statement's table words and the real class files: 17 classes; the members and pool entries that the words name. The judged class is class 1, her method 1. -/
namespace start1
open Jvm.ClassFile
def u (s : String) : CpInfo := .utf8 (stringToUtf16 s)
/-- a pool by its gaps: so many unusable entries, then the entry; so many at the end -/
def gap : Nat → List CpInfo → List CpInfo
  | 0, r => r
  | n + 1, r => .unusable :: gap n r
def poolList (es : List (Nat × CpInfo)) (last : Nat) : List CpInfo := es.foldr (fun e r => gap e.1 (e.2 :: r)) (gap last [])
def pool (es : List (Nat × CpInfo)) (last : Nat) : Array CpInfo := ⟨poolList es last⟩
def fileOf (pool : Array CpInfo) (this : Nat) (attrs : Array Attribute := #[]) (ms : Array MethodInfo := #[]) (fl : Nat := 33) (sup : Nat := 0) (ifs : Array Nat := #[]) (fds : Array FieldInfo := #[]) : ClassFile where
  minorVersion := 0
  majorVersion := 65
  constantPool := pool
  accessFlags := fl
  thisClass := this
  superClass := sup
  interfaces := ifs
  fields := fds
  methods := ms
  attributes := attrs
def plain (name : String) (sup : Option ClassId) : Class where
  name := name
  kind := .ordinary
  loader := none
  accessFlags := 33
  super := sup
  interfaces := #[]
  cf := none
  fields := #[]
  methods := #[]
  instanceTypes := #[]
  staticTypes := #[]
  resolved := #[]
  callSites := []
  init := .initialized
  statics := none
  mirror := none

def pool0 : Array CpInfo := pool [(5, u "<init>"), (0, u "()V"), (1, .class_ 10), (1, u "java/lang/Object")] 113

def k0m0 : Method := { name := "<init>", desc := "()V", sig := { parameters := [], returnType := none }, accessFlags := 1, code := none }
/-- java/lang/Object -/
def k0 : Class := { plain "java/lang/Object" none with
  accessFlags := 33
  interfaces := #[]
  cf := some (fileOf pool0 8 #[] #[{ accessFlags := 1, nameIndex := 5, descriptorIndex := 6, attributes := #[] }] 33 0 #[] #[])
  fields := #[]
  methods := #[k0m0]
  instanceTypes := #[]
  staticTypes := #[]
  resolved := Array.replicate 124 none
  statics := none }

def pool1 : Array CpInfo := pool [(2, .class_ 4), (1, u "java/lang/Object"), (0, u "<init>"), (0, u "()V"), (0, .methodref 8 9), (0, .class_ 10), (0, .nameAndType 11 12), (0, u "oakwell/classfile/Bytecode"), (0, u "newarrayType"), (0, u "(I)Ljava/lang/String;"), (0, .string 14), (0, u "ZCFDBSIJ"), (0, .methodref 16 17), (0, .class_ 18), (0, .nameAndType 19 20), (0, u "java/lang/String"), (0, u "charAt"), (0, u "(I)C"), (0, .methodref 16 22), (0, .nameAndType 23 24), (0, u "length"), (0, u "()I"), (0, .class_ 26), (0, u "oakwell/classfile/BytecodeNewarrayTypePinLaw"), (2, u "law"), (0, u "(II)Z")] 3

def k1m0 : Method := { name := "<init>", desc := "()V", sig := { parameters := [], returnType := none }, accessFlags := 2, code := none }
def k1c1 : Code := { maxStack := 3, maxLocals := 6, code := code, exceptionTable := #[], attributes := #[] }
def k1m1 : Method := { name := "law", desc := "(II)Z", sig := { parameters := [.int, .int], returnType := some .boolean }, accessFlags := 9, code := some k1c1 }
/-- oakwell/classfile/BytecodeNewarrayTypePinLaw -/
def k1 : Class := { plain "oakwell/classfile/BytecodeNewarrayTypePinLaw" (some 0) with
  accessFlags := 49
  interfaces := #[]
  cf := some (fileOf pool1 25 #[] #[{ accessFlags := 2, nameIndex := 5, descriptorIndex := 6, attributes := #[] }, { accessFlags := 9, nameIndex := 29, descriptorIndex := 30, attributes := #[] }] 49 2 #[] #[])
  fields := #[]
  methods := #[k1m0, k1m1]
  instanceTypes := #[]
  staticTypes := #[]
  resolved := Array.replicate 34 none
  statics := none }

def pool2 : Array CpInfo := pool [(2, .class_ 4), (1, u "java/lang/Object"), (0, u "<init>"), (0, u "()V"), (1, .class_ 10), (1, u "oakwell/classfile/Bytecode"), (0, u "LENGTHS"), (0, u "[I"), (19, .string 33), (0, u "[Z"), (0, .string 35), (0, u "[C"), (0, .string 37), (0, u "[F"), (0, .string 39), (0, u "[D"), (0, .string 41), (0, u "[B"), (0, .string 43), (0, u "[S"), (0, .string 12), (0, .string 46), (0, u "[J"), (10, u "newarrayType"), (0, u "(I)Ljava/lang/String;")] 5

def k2m0 : Method := { name := "<init>", desc := "()V", sig := { parameters := [], returnType := none }, accessFlags := 2, code := none }
def k2c1 : Code := { maxStack := 1, maxLocals := 1, code := prog_12_method_7_code, exceptionTable := #[], attributes := #[] }
def k2m1 : Method := { name := "newarrayType", desc := "(I)Ljava/lang/String;", sig := { parameters := [.int], returnType := some (.object "java/lang/String") }, accessFlags := 9, code := some k2c1 }
/-- oakwell/classfile/Bytecode -/
def k2 : Class := { plain "oakwell/classfile/Bytecode" (some 0) with
  accessFlags := 49
  interfaces := #[]
  cf := some (fileOf pool2 8 #[] #[{ accessFlags := 2, nameIndex := 5, descriptorIndex := 6, attributes := #[] }, { accessFlags := 9, nameIndex := 57, descriptorIndex := 58, attributes := #[] }] 49 2 #[] #[{ accessFlags := 26, nameIndex := 11, descriptorIndex := 12, attributes := #[] }])
  fields := #[{ name := "LENGTHS", type := (.array .int), accessFlags := 26, slot := 0, constantValue := 0 }]
  methods := #[k2m0, k2m1]
  instanceTypes := #[]
  staticTypes := #[(.array .int)]
  resolved := Array.replicate 64 none
  statics := none }

def pool3 : Array CpInfo := pool [(1, .class_ 2), (0, u "java/io/Serializable"), (0, .class_ 4), (0, u "java/lang/Object")] 2

/-- java/io/Serializable -/
def k3 : Class := { plain "java/io/Serializable" (some 0) with
  accessFlags := 1537
  interfaces := #[]
  cf := some (fileOf pool3 1 #[] #[] 1537 3 #[] #[])
  fields := #[]
  methods := #[]
  instanceTypes := #[]
  staticTypes := #[]
  resolved := Array.replicate 7 none
  statics := none }

def pool4 : Array CpInfo := pool [(1, .class_ 2), (0, u "java/lang/Comparable"), (0, .class_ 4), (0, u "java/lang/Object")] 7

/-- java/lang/Comparable -/
def k4 : Class := { plain "java/lang/Comparable" (some 0) with
  accessFlags := 1537
  interfaces := #[]
  cf := some (fileOf pool4 1 #[] #[] 1537 3 #[] #[])
  fields := #[]
  methods := #[]
  instanceTypes := #[]
  staticTypes := #[]
  resolved := Array.replicate 12 none
  statics := none }

def pool5 : Array CpInfo := pool [(2, .class_ 4), (1, u "java/lang/CharSequence"), (42, .class_ 48), (0, u "java/lang/CharSequence$1CodePointIterator"), (10, .class_ 60), (0, u "java/lang/CharSequence$1CharIterator"), (5, .class_ 67), (0, u "java/lang/Object")] 63

/-- java/lang/CharSequence -/
def k5 : Class := { plain "java/lang/CharSequence" (some 0) with
  accessFlags := 1537
  interfaces := #[]
  cf := some (fileOf pool5 2 #[.nestMembers #[47, 59]] #[] 1537 66 #[] #[])
  fields := #[]
  methods := #[]
  instanceTypes := #[]
  staticTypes := #[]
  resolved := Array.replicate 131 none
  statics := none }

def pool6 : Array CpInfo := pool [(1, .class_ 2), (0, u "java/lang/constant/Constable"), (0, .class_ 4), (0, u "java/lang/Object")] 6

/-- java/lang/constant/Constable -/
def k6 : Class := { plain "java/lang/constant/Constable" (some 0) with
  accessFlags := 1537
  interfaces := #[]
  cf := some (fileOf pool6 1 #[] #[] 1537 3 #[] #[])
  fields := #[]
  methods := #[]
  instanceTypes := #[]
  staticTypes := #[]
  resolved := Array.replicate 11 none
  statics := none }

def pool7 : Array CpInfo := pool [(1, .class_ 2), (0, u "java/lang/constant/ConstantDesc"), (0, .class_ 4), (0, u "java/lang/Object")] 32

/-- java/lang/constant/ConstantDesc -/
def k7 : Class := { plain "java/lang/constant/ConstantDesc" (some 0) with
  accessFlags := 1537
  interfaces := #[]
  cf := some (fileOf pool7 1 #[] #[] 1537 3 #[] #[])
  fields := #[]
  methods := #[]
  instanceTypes := #[]
  staticTypes := #[]
  resolved := Array.replicate 37 none
  statics := none }

def pool8 : Array CpInfo := pool [(2, .class_ 4), (1, u "java/lang/Object"), (0, u "<init>"), (0, u "()V"), (2, .fieldref 10 11), (0, .class_ 12), (0, .nameAndType 13 14), (0, u "java/lang/String"), (0, u "value"), (0, u "[B"), (0, .fieldref 10 16), (0, .nameAndType 17 18), (0, u "coder"), (0, u "B"), (2, u "hash"), (0, u "I"), (2, u "hashIsZero"), (0, u "Z"), (11, .fieldref 10 39), (0, .nameAndType 40 26), (0, u "COMPACT_STRINGS"), (66, .class_ 109), (1, u "java/lang/StringLatin1"), (32, u "()Z"), (191, u "()I"), (0, .methodref 10 336), (0, .nameAndType 17 337), (0, u "()B"), (25, u "([BI)C"), (27, u "(II)V"), (35, u "(I)C"), (64, .methodref 10 493), (0, .nameAndType 494 142), (0, u "isLatin1"), (0, .methodref 107 496), (0, .nameAndType 497 363), (0, u "charAt"), (3, u "checkIndex"), (5, u "length"), (67, .class_ 576), (0, u "java/lang/CharSequence"), (22, u "CASE_INSENSITIVE_ORDER"), (0, u "Ljava/util/Comparator;"), (452, .fieldref 1054 1055), (0, .class_ 1056), (0, .nameAndType 1057 1058), (0, u "jdk/internal/util/Preconditions"), (0, u "SIOOBE_FORMATTER"), (0, u "Ljava/util/function/BiFunction;"), (0, .methodref 1054 1060), (0, .nameAndType 501 1061), (0, u "(IILjava/util/function/BiFunction;)I"), (39, u "serialPersistentFields"), (0, u "[Ljava/io/ObjectStreamField;"), (0, .class_ 1104), (0, u "java/lang/String$CaseInsensitiveComparator"), (1, .class_ 1107), (0, u "java/io/Serializable"), (0, .class_ 1109), (0, u "java/lang/Comparable"), (0, .class_ 1111), (0, u "java/lang/constant/Constable"), (0, .class_ 1113), (0, u "java/lang/constant/ConstantDesc"), (2, u "serialVersionUID"), (0, u "J"), (3, u "REPL"), (0, u "C"), (2, u "LATIN1"), (1, u "UTF16")] 323

def k8m0 : Method := { name := "<init>", desc := "()V", sig := { parameters := [], returnType := none }, accessFlags := 1, code := none }
def k8c1 : Code := { maxStack := 2, maxLocals := 1, code := jdk_42_method_54_code, exceptionTable := #[], attributes := #[] }
def k8m1 : Method := { name := "length", desc := "()I", sig := { parameters := [], returnType := some .int }, accessFlags := 1, code := some k8c1 }
def k8c2 : Code := { maxStack := 2, maxLocals := 2, code := jdk_42_method_56_code, exceptionTable := #[], attributes := #[] }
def k8m2 : Method := { name := "charAt", desc := "(I)C", sig := { parameters := [.int], returnType := some .char }, accessFlags := 1, code := some k8c2 }
def k8c3 : Code := { maxStack := 1, maxLocals := 1, code := jdk_42_method_152_code, exceptionTable := #[], attributes := #[] }
def k8m3 : Method := { name := "coder", desc := "()B", sig := { parameters := [], returnType := some .byte }, accessFlags := 0, code := some k8c3 }
def k8c4 : Code := { maxStack := 1, maxLocals := 1, code := jdk_42_method_154_code, exceptionTable := #[], attributes := #[] }
def k8m4 : Method := { name := "isLatin1", desc := "()Z", sig := { parameters := [], returnType := some .boolean }, accessFlags := 0, code := some k8c4 }
def k8c5 : Code := { maxStack := 3, maxLocals := 2, code := jdk_42_method_155_code, exceptionTable := #[], attributes := #[] }
def k8m5 : Method := { name := "checkIndex", desc := "(II)V", sig := { parameters := [.int, .int], returnType := none }, accessFlags := 8, code := some k8c5 }
/-- java/lang/String -/
def k8 : Class := { plain "java/lang/String" (some 0) with
  accessFlags := 49
  interfaces := #[3, 4, 5, 6, 7]
  cf := some (fileOf pool8 10 #[.nestMembers #[1103]] #[{ accessFlags := 1, nameIndex := 5, descriptorIndex := 6, attributes := #[] }, { accessFlags := 1, nameIndex := 507, descriptorIndex := 334, attributes := #[] }, { accessFlags := 1, nameIndex := 497, descriptorIndex := 427, attributes := #[] }, { accessFlags := 0, nameIndex := 17, descriptorIndex := 337, attributes := #[] }, { accessFlags := 0, nameIndex := 494, descriptorIndex := 142, attributes := #[] }, { accessFlags := 8, nameIndex := 501, descriptorIndex := 391, attributes := #[] }] 49 2 #[1106, 1108, 575, 1110, 1112] #[{ accessFlags := 18, nameIndex := 13, descriptorIndex := 14, attributes := #[] }, { accessFlags := 18, nameIndex := 17, descriptorIndex := 18, attributes := #[] }, { accessFlags := 2, nameIndex := 21, descriptorIndex := 22, attributes := #[] }, { accessFlags := 2, nameIndex := 25, descriptorIndex := 26, attributes := #[] }, { accessFlags := 26, nameIndex := 1116, descriptorIndex := 1117, attributes := #[] }, { accessFlags := 24, nameIndex := 40, descriptorIndex := 26, attributes := #[] }, { accessFlags := 26, nameIndex := 1101, descriptorIndex := 1102, attributes := #[] }, { accessFlags := 26, nameIndex := 1121, descriptorIndex := 1122, attributes := #[] }, { accessFlags := 25, nameIndex := 599, descriptorIndex := 600, attributes := #[] }, { accessFlags := 24, nameIndex := 1125, descriptorIndex := 18, attributes := #[] }, { accessFlags := 24, nameIndex := 1127, descriptorIndex := 18, attributes := #[] }])
  fields := #[{ name := "value", type := (.array .byte), accessFlags := 18, slot := 0, constantValue := 0 }, { name := "coder", type := .byte, accessFlags := 18, slot := 1, constantValue := 0 }, { name := "hash", type := .int, accessFlags := 2, slot := 2, constantValue := 0 }, { name := "hashIsZero", type := .boolean, accessFlags := 2, slot := 3, constantValue := 0 }, { name := "serialVersionUID", type := .long, accessFlags := 26, slot := 0, constantValue := 0 }, { name := "COMPACT_STRINGS", type := .boolean, accessFlags := 24, slot := 1, constantValue := 0 }, { name := "serialPersistentFields", type := (.array (.object "java/io/ObjectStreamField")), accessFlags := 26, slot := 2, constantValue := 0 }, { name := "REPL", type := .char, accessFlags := 26, slot := 3, constantValue := 0 }, { name := "CASE_INSENSITIVE_ORDER", type := (.object "java/util/Comparator"), accessFlags := 25, slot := 4, constantValue := 0 }, { name := "LATIN1", type := .byte, accessFlags := 24, slot := 5, constantValue := 0 }, { name := "UTF16", type := .byte, accessFlags := 24, slot := 6, constantValue := 0 }]
  methods := #[k8m0, k8m1, k8m2, k8m3, k8m4, k8m5]
  instanceTypes := #[(.array .byte), .byte, .int, .boolean]
  staticTypes := #[.long, .boolean, (.array (.object "java/io/ObjectStreamField")), .char, (.object "java/util/Comparator"), .byte, .byte]
  resolved := Array.replicate 1451 none
  statics := some 0 }

def pool9 : Array CpInfo := pool [(1, .class_ 2), (0, u "java/lang/String"), (1, .class_ 6), (1, u "java/lang/Object"), (0, u "<init>"), (0, u "()V"), (0, .methodref 1 10), (0, .nameAndType 11 12), (0, u "checkIndex"), (0, u "(II)V"), (1, .class_ 16), (1, u "java/lang/StringLatin1"), (36, u "([BI)C"), (67, u "$assertionsDisabled"), (0, u "Z"), (98, .class_ 223), (1, u "java/lang/StringLatin1$LinesSpliterator"), (28, u "charAt"), (137, .class_ 391), (0, u "java/lang/StringLatin1$CharsSpliterator")] 3

def k9m0 : Method := { name := "<init>", desc := "()V", sig := { parameters := [], returnType := none }, accessFlags := 0, code := none }
def k9c1 : Code := { maxStack := 2, maxLocals := 2, code := jdk_43_method_2_code, exceptionTable := #[], attributes := #[] }
def k9m1 : Method := { name := "charAt", desc := "([BI)C", sig := { parameters := [(.array .byte), .int], returnType := some .char }, accessFlags := 9, code := some k9c1 }
/-- java/lang/StringLatin1 -/
def k9 : Class := { plain "java/lang/StringLatin1" (some 0) with
  accessFlags := 48
  interfaces := #[]
  cf := some (fileOf pool9 14 #[.nestMembers #[390, 221]] #[{ accessFlags := 0, nameIndex := 7, descriptorIndex := 8, attributes := #[] }, { accessFlags := 9, nameIndex := 252, descriptorIndex := 53, attributes := #[] }] 48 4 #[] #[{ accessFlags := 4120, nameIndex := 121, descriptorIndex := 122, attributes := #[] }])
  fields := #[{ name := "$assertionsDisabled", type := .boolean, accessFlags := 4120, slot := 0, constantValue := 0 }]
  methods := #[k9m0, k9m1]
  instanceTypes := #[]
  staticTypes := #[.boolean]
  resolved := Array.replicate 395 none
  statics := none }

def pool10 : Array CpInfo := pool [(2, .class_ 4), (1, u "java/lang/Object"), (0, u "<init>"), (0, u "()V"), (17, .class_ 26), (1, u "jdk/internal/util/Preconditions"), (6, u "checkIndex"), (21, .class_ 56), (0, u "jdk/internal/util/Preconditions$4"), (57, .class_ 115), (0, u "jdk/internal/util/Preconditions$1"), (7, u "SIOOBE_FORMATTER"), (0, u "Ljava/util/function/BiFunction;"), (0, .class_ 126), (0, u "jdk/internal/util/Preconditions$2"), (3, u "AIOOBE_FORMATTER"), (0, .class_ 132), (0, u "jdk/internal/util/Preconditions$3"), (3, u "IOOBE_FORMATTER"), (41, u "(IILjava/util/function/BiFunction;)I")] 15

def k10m0 : Method := { name := "<init>", desc := "()V", sig := { parameters := [], returnType := none }, accessFlags := 1, code := none }
def k10c1 : Code := { maxStack := 3, maxLocals := 3, code := jdk_41_method_11_code, exceptionTable := #[], attributes := #[] }
def k10m1 : Method := { name := "checkIndex", desc := "(IILjava/util/function/BiFunction;)I", sig := { parameters := [.int, .int, (.object "java/util/function/BiFunction")], returnType := some .int }, accessFlags := 9, code := some k10c1 }
/-- jdk/internal/util/Preconditions -/
def k10 : Class := { plain "jdk/internal/util/Preconditions" (some 0) with
  accessFlags := 33
  interfaces := #[]
  cf := some (fileOf pool10 24 #[.nestMembers #[55, 131, 125, 114]] #[{ accessFlags := 1, nameIndex := 5, descriptorIndex := 6, attributes := #[] }, { accessFlags := 9, nameIndex := 33, descriptorIndex := 178, attributes := #[] }] 33 2 #[] #[{ accessFlags := 25, nameIndex := 123, descriptorIndex := 124, attributes := #[] }, { accessFlags := 25, nameIndex := 130, descriptorIndex := 124, attributes := #[] }, { accessFlags := 25, nameIndex := 136, descriptorIndex := 124, attributes := #[] }])
  fields := #[{ name := "SIOOBE_FORMATTER", type := (.object "java/util/function/BiFunction"), accessFlags := 25, slot := 0, constantValue := 0 }, { name := "AIOOBE_FORMATTER", type := (.object "java/util/function/BiFunction"), accessFlags := 25, slot := 1, constantValue := 0 }, { name := "IOOBE_FORMATTER", type := (.object "java/util/function/BiFunction"), accessFlags := 25, slot := 2, constantValue := 0 }]
  methods := #[k10m0, k10m1]
  instanceTypes := #[]
  staticTypes := #[(.object "java/util/function/BiFunction"), (.object "java/util/function/BiFunction"), (.object "java/util/function/BiFunction")]
  resolved := Array.replicate 194 none
  statics := some 1 }

def pool11 : Array CpInfo := pool [(9, u "<init>"), (6, .class_ 18), (1, u "java/lang/Object"), (0, u "()V"), (1, .class_ 23), (1, u "jdk/internal/util/ArraysSupport"), (0, u "LOG2_ARRAY_LONG_INDEX_SCALE"), (0, u "I"), (2, u "U"), (0, u "Ljdk/internal/misc/Unsafe;"), (8, u "BIG_ENDIAN"), (0, u "Z"), (8, u "LOG2_BYTE_BIT_SIZE"), (4, u "LOG2_ARRAY_INT_INDEX_SCALE"), (54, u "JLA"), (0, u "Ljdk/internal/access/JavaLangAccess;"), (11, u "LOG2_ARRAY_BOOLEAN_INDEX_SCALE"), (9, u "LOG2_ARRAY_BYTE_INDEX_SCALE"), (5, u "LOG2_ARRAY_CHAR_INDEX_SCALE"), (5, u "LOG2_ARRAY_SHORT_INDEX_SCALE"), (18, u "LOG2_ARRAY_FLOAT_INDEX_SCALE"), (24, u "LOG2_ARRAY_DOUBLE_INDEX_SCALE"), (89, u "T_BOOLEAN"), (2, u "T_CHAR"), (1, u "T_FLOAT"), (1, u "T_DOUBLE"), (1, u "T_BYTE"), (1, u "T_SHORT"), (1, u "T_INT"), (1, u "T_LONG"), (1, u "SOFT_MAX_ARRAY_LENGTH")] 83

def k11m0 : Method := { name := "<init>", desc := "()V", sig := { parameters := [], returnType := none }, accessFlags := 2, code := none }
/-- jdk/internal/util/ArraysSupport -/
def k11 : Class := { plain "jdk/internal/util/ArraysSupport" (some 0) with
  accessFlags := 33
  interfaces := #[]
  cf := some (fileOf pool11 21 #[] #[{ accessFlags := 2, nameIndex := 9, descriptorIndex := 19, attributes := #[] }] 33 16 #[] #[{ accessFlags := 24, nameIndex := 28, descriptorIndex := 29, attributes := #[] }, { accessFlags := 26, nameIndex := 38, descriptorIndex := 39, attributes := #[] }, { accessFlags := 25, nameIndex := 121, descriptorIndex := 25, attributes := #[] }, { accessFlags := 25, nameIndex := 131, descriptorIndex := 25, attributes := #[] }, { accessFlags := 25, nameIndex := 137, descriptorIndex := 25, attributes := #[] }, { accessFlags := 25, nameIndex := 143, descriptorIndex := 25, attributes := #[] }, { accessFlags := 25, nameIndex := 53, descriptorIndex := 25, attributes := #[] }, { accessFlags := 25, nameIndex := 24, descriptorIndex := 25, attributes := #[] }, { accessFlags := 25, nameIndex := 162, descriptorIndex := 25, attributes := #[] }, { accessFlags := 25, nameIndex := 187, descriptorIndex := 25, attributes := #[] }, { accessFlags := 26, nameIndex := 48, descriptorIndex := 25, attributes := #[] }, { accessFlags := 25, nameIndex := 277, descriptorIndex := 25, attributes := #[] }, { accessFlags := 25, nameIndex := 280, descriptorIndex := 25, attributes := #[] }, { accessFlags := 25, nameIndex := 282, descriptorIndex := 25, attributes := #[] }, { accessFlags := 25, nameIndex := 284, descriptorIndex := 25, attributes := #[] }, { accessFlags := 25, nameIndex := 286, descriptorIndex := 25, attributes := #[] }, { accessFlags := 25, nameIndex := 288, descriptorIndex := 25, attributes := #[] }, { accessFlags := 25, nameIndex := 290, descriptorIndex := 25, attributes := #[] }, { accessFlags := 25, nameIndex := 292, descriptorIndex := 25, attributes := #[] }, { accessFlags := 26, nameIndex := 108, descriptorIndex := 109, attributes := #[] }, { accessFlags := 25, nameIndex := 294, descriptorIndex := 25, attributes := #[] }])
  fields := #[{ name := "U", type := (.object "jdk/internal/misc/Unsafe"), accessFlags := 24, slot := 0, constantValue := 0 }, { name := "BIG_ENDIAN", type := .boolean, accessFlags := 26, slot := 1, constantValue := 0 }, { name := "LOG2_ARRAY_BOOLEAN_INDEX_SCALE", type := .int, accessFlags := 25, slot := 2, constantValue := 0 }, { name := "LOG2_ARRAY_BYTE_INDEX_SCALE", type := .int, accessFlags := 25, slot := 3, constantValue := 0 }, { name := "LOG2_ARRAY_CHAR_INDEX_SCALE", type := .int, accessFlags := 25, slot := 4, constantValue := 0 }, { name := "LOG2_ARRAY_SHORT_INDEX_SCALE", type := .int, accessFlags := 25, slot := 5, constantValue := 0 }, { name := "LOG2_ARRAY_INT_INDEX_SCALE", type := .int, accessFlags := 25, slot := 6, constantValue := 0 }, { name := "LOG2_ARRAY_LONG_INDEX_SCALE", type := .int, accessFlags := 25, slot := 7, constantValue := 0 }, { name := "LOG2_ARRAY_FLOAT_INDEX_SCALE", type := .int, accessFlags := 25, slot := 8, constantValue := 0 }, { name := "LOG2_ARRAY_DOUBLE_INDEX_SCALE", type := .int, accessFlags := 25, slot := 9, constantValue := 0 }, { name := "LOG2_BYTE_BIT_SIZE", type := .int, accessFlags := 26, slot := 10, constantValue := 0 }, { name := "T_BOOLEAN", type := .int, accessFlags := 25, slot := 11, constantValue := 0 }, { name := "T_CHAR", type := .int, accessFlags := 25, slot := 12, constantValue := 0 }, { name := "T_FLOAT", type := .int, accessFlags := 25, slot := 13, constantValue := 0 }, { name := "T_DOUBLE", type := .int, accessFlags := 25, slot := 14, constantValue := 0 }, { name := "T_BYTE", type := .int, accessFlags := 25, slot := 15, constantValue := 0 }, { name := "T_SHORT", type := .int, accessFlags := 25, slot := 16, constantValue := 0 }, { name := "T_INT", type := .int, accessFlags := 25, slot := 17, constantValue := 0 }, { name := "T_LONG", type := .int, accessFlags := 25, slot := 18, constantValue := 0 }, { name := "JLA", type := (.object "jdk/internal/access/JavaLangAccess"), accessFlags := 26, slot := 19, constantValue := 0 }, { name := "SOFT_MAX_ARRAY_LENGTH", type := .int, accessFlags := 25, slot := 20, constantValue := 0 }]
  methods := #[k11m0]
  instanceTypes := #[]
  staticTypes := #[(.object "jdk/internal/misc/Unsafe"), .boolean, .int, .int, .int, .int, .int, .int, .int, .int, .int, .int, .int, .int, .int, .int, .int, .int, .int, (.object "jdk/internal/access/JavaLangAccess"), .int]
  resolved := Array.replicate 378 none
  statics := none }

def pool12 : Array CpInfo := pool [(1, u "java/lang/Cloneable"), (0, .class_ 1), (0, u "java/lang/Object"), (0, .class_ 3)] 3

/-- java/lang/Cloneable -/
def k12 : Class := { plain "java/lang/Cloneable" (some 0) with
  accessFlags := 1537
  interfaces := #[]
  cf := some (fileOf pool12 2 #[] #[] 1537 4 #[] #[])
  fields := #[]
  methods := #[]
  instanceTypes := #[]
  staticTypes := #[]
  resolved := Array.replicate 8 none
  statics := none }

/-- the primitive byte -/
def k13 : Class := { plain "byte" none with kind := .primitive 'B', accessFlags := 0x411 }
/-- [B -/
def k14 : Class := { plain "[B" (some 0) with kind := .array 13 .byte, interfaces := #[12, 3], accessFlags := 1041 }

/-- the primitive int -/
def k15 : Class := { plain "int" none with kind := .primitive 'I', accessFlags := 0x411 }
/-- [I -/
def k16 : Class := { plain "[I" (some 0) with kind := .array 15 .int, interfaces := #[12, 3], accessFlags := 1041 }

def heap : Heap := #[{ cls := 8, slots := #[.long 0, .int 1, .null, .int 0, .null, .int 0, .int 0], vm := .statics 8 },
  { cls := 10, slots := #[.null, .null, .null], vm := .statics 10 }]
def classes : Array Class := #[k0, k1, k2, k3, k4, k5, k6, k7, k8, k9, k10, k11, k12, k13, k14, k15, k16]
def interned : List (Array UInt16 × Addr) := []
def slotsUsed : Nat := 10
def theMethod : MethodId := ⟨1, 1⟩
def args0 : Array Value := #[.int 5, .int 1]
def aboutOver (below : List Frame) : State where
  vm := { classes := classes, interned := interned.toArray }
  heap := heap
  slotsUsed := slotsUsed
  threads := #[{ frames := .invoking theMethod args0 :: below }]
def below0 : List Frame := [.native { method := ⟨0, 0⟩, args := #[] }]
def about1 : State := aboutOver below0
def p0 : Program := .bare "" "" ""
def e0 : Env := launch0.env 0 0 0
theorem w_frames : about1.frames = Frame.invoking theMethod args0 :: below0 := rfl
set_option maxRecDepth 65536 in
theorem w_args : argsFit about1.vm theMethod args0 = true := by decide +kernel
set_option maxRecDepth 65536 in
theorem w_heap : heapFits about1 = true := by decide +kernel
set_option maxRecDepth 65536 in
theorem w_runnable : about1.curStatus? = some .runnable := by decide +kernel
set_option maxRecDepth 65536 in
theorem w_alone : about1.alone = true := by decide +kernel
set_option maxRecDepth 65536 in
theorem w_named : about1.methodNamed? x = some theMethod := by decide +kernel
set_option maxRecDepth 65536 in
theorem w_hears : about1.hears theMethod below0 = true := by decide +kernel
set_option maxRecDepth 65536 in
theorem w_ripe : about1.ripe theMethod args0 below0 = true := by decide +kernel
theorem w_running : about1.status = .running := rfl
set_option maxRecDepth 65536 in
theorem w_room : about1.hasRoom e0.platform room_1 = true :=
  launch0.hasRoom_least _ room_1 (by decide +kernel) (by decide +kernel) (by decide +kernel) (by decide +kernel) (by decide +kernel) (by decide +kernel)
theorem allAtoms_all (ts : List Jvm.Cond) (a : Array Jvm.Value) (st : Jvm.State) : (allAtoms ts).before a st = ts.all (fun c => c.before a st) := by
  induction ts with
  | nil => rfl
  | cons c t ih =>
    show (Jvm.Cond.and c (allAtoms t)).before a st = _
    rw [Jvm.Cond.before_and, ih, List.all_cons]
def words1 : List Jvm.Cond := Jvm.Cond.code x code maxLocals ret :: tables_1
/-- a 'code' word, met by the world's own term for the bytes: nothing is compared byte by byte -/
theorem code_word {y : MethodName} {bytes : ByteArray} {mx : Nat} {rt : Option FieldType} {a : Array Value} {s : State} {m : MethodId} {meth : Method} {c : Code} (h1 : s.methodNamed? y = some m) (h2 : s.vm.method? m = some meth) (h3 : meth.code = some c) (h4 : c.code = bytes)
    (h5 : (c.maxLocals == mx && c.exceptionTable.isEmpty && decide (c.maxStack ≤ mostOperands) && decide (meth.sig.returnType = rt) && !meth.locks && decide (parseMethodDescriptor y.desc = some meth.sig)) = true) : (Jvm.Cond.code y bytes mx rt).before a s = true := by
  simp only [Bool.and_eq_true, beq_iff_eq, Bool.not_eq_true', decide_eq_true_eq] at h5
  obtain ⟨⟨⟨⟨⟨g1, g2⟩, g3⟩, g4⟩, g5⟩, g6⟩ := h5
  simp [Cond.before, Cond.holds, Cond.value, h1, h2, h3, h4, g1, g2, g3, g4, g5, g6]
def isCode : Jvm.Cond → Bool
  | .code _ _ _ _ => true
  | _ => false
theorem all_split {L : List Jvm.Cond} {P : Jvm.Cond → Bool} (h1 : L.all (fun c => isCode c || P c) = true) (h2 : ∀ c ∈ L.filter isCode, P c = true) : L.all P = true := by
  refine List.all_eq_true.mpr fun c hc => ?_
  have h := List.all_eq_true.mp h1 c hc
  rcases Bool.eq_false_or_eq_true (isCode c) with hi | hi
  · exact h2 c (List.mem_filter.mpr ⟨hc, hi⟩)
  · simpa [hi] using h
set_option maxRecDepth 65536 in
theorem w_c0 : (Jvm.Cond.code x code maxLocals ret).before args0 about1 = true := code_word (m := ⟨1, 1⟩) (meth := k1m1) (c := k1c1) (by decide +kernel) rfl rfl rfl (by decide +kernel)
set_option maxRecDepth 65536 in
theorem w_c1 : (Jvm.Cond.code ({ cls := "oakwell/classfile/Bytecode", name := "newarrayType", desc := "(I)Ljava/lang/String;" } : Jvm.MethodName) prog_12_method_7_code (1 : Nat) (Option.some (Jvm.ClassFile.FieldType.object "java/lang/String"))).before args0 about1 = true := code_word (m := ⟨2, 1⟩) (meth := k2m1) (c := k2c1) (by decide +kernel) rfl rfl rfl (by decide +kernel)
set_option maxRecDepth 65536 in
theorem w_c2 : (Jvm.Cond.code ({ cls := "java/lang/String", name := "charAt", desc := "(I)C" } : Jvm.MethodName) jdk_42_method_56_code (2 : Nat) (Option.some Jvm.ClassFile.FieldType.char)).before args0 about1 = true := code_word (m := ⟨8, 2⟩) (meth := k8m2) (c := k8c2) (by decide +kernel) rfl rfl rfl (by decide +kernel)
set_option maxRecDepth 65536 in
theorem w_c3 : (Jvm.Cond.code ({ cls := "java/lang/String", name := "isLatin1", desc := "()Z" } : Jvm.MethodName) jdk_42_method_154_code (1 : Nat) (Option.some Jvm.ClassFile.FieldType.boolean)).before args0 about1 = true := code_word (m := ⟨8, 4⟩) (meth := k8m4) (c := k8c4) (by decide +kernel) rfl rfl rfl (by decide +kernel)
set_option maxRecDepth 65536 in
theorem w_c4 : (Jvm.Cond.code ({ cls := "java/lang/StringLatin1", name := "charAt", desc := "([BI)C" } : Jvm.MethodName) jdk_43_method_2_code (2 : Nat) (Option.some Jvm.ClassFile.FieldType.char)).before args0 about1 = true := code_word (m := ⟨9, 1⟩) (meth := k9m1) (c := k9c1) (by decide +kernel) rfl rfl rfl (by decide +kernel)
set_option maxRecDepth 65536 in
theorem w_c5 : (Jvm.Cond.code ({ cls := "java/lang/String", name := "checkIndex", desc := "(II)V" } : Jvm.MethodName) jdk_42_method_155_code (2 : Nat) (Option.none : Option Jvm.ClassFile.FieldType)).before args0 about1 = true := code_word (m := ⟨8, 5⟩) (meth := k8m5) (c := k8c5) (by decide +kernel) rfl rfl rfl (by decide +kernel)
set_option maxRecDepth 65536 in
theorem w_c6 : (Jvm.Cond.code ({ cls := "jdk/internal/util/Preconditions", name := "checkIndex", desc := "(IILjava/util/function/BiFunction;)I" } : Jvm.MethodName) jdk_41_method_11_code (3 : Nat) (Option.some Jvm.ClassFile.FieldType.int)).before args0 about1 = true := code_word (m := ⟨10, 1⟩) (meth := k10m1) (c := k10c1) (by decide +kernel) rfl rfl rfl (by decide +kernel)
set_option maxRecDepth 65536 in
theorem w_c7 : (Jvm.Cond.code ({ cls := "java/lang/String", name := "length", desc := "()I" } : Jvm.MethodName) jdk_42_method_54_code (1 : Nat) (Option.some Jvm.ClassFile.FieldType.int)).before args0 about1 = true := code_word (m := ⟨8, 1⟩) (meth := k8m1) (c := k8c1) (by decide +kernel) rfl rfl rfl (by decide +kernel)
set_option maxRecDepth 65536 in
theorem w_c8 : (Jvm.Cond.code ({ cls := "java/lang/String", name := "coder", desc := "()B" } : Jvm.MethodName) jdk_42_method_152_code (1 : Nat) (Option.some Jvm.ClassFile.FieldType.byte)).before args0 about1 = true := code_word (m := ⟨8, 3⟩) (meth := k8m3) (c := k8c3) (by decide +kernel) rfl rfl rfl (by decide +kernel)
def codes1 : List Jvm.Cond := [Jvm.Cond.code x code maxLocals ret, Jvm.Cond.code ({ cls := "oakwell/classfile/Bytecode", name := "newarrayType", desc := "(I)Ljava/lang/String;" } : Jvm.MethodName) prog_12_method_7_code (1 : Nat) (Option.some (Jvm.ClassFile.FieldType.object "java/lang/String")), Jvm.Cond.code ({ cls := "java/lang/String", name := "charAt", desc := "(I)C" } : Jvm.MethodName) jdk_42_method_56_code (2 : Nat) (Option.some Jvm.ClassFile.FieldType.char), Jvm.Cond.code ({ cls := "java/lang/String", name := "isLatin1", desc := "()Z" } : Jvm.MethodName) jdk_42_method_154_code (1 : Nat) (Option.some Jvm.ClassFile.FieldType.boolean), Jvm.Cond.code ({ cls := "java/lang/StringLatin1", name := "charAt", desc := "([BI)C" } : Jvm.MethodName) jdk_43_method_2_code (2 : Nat) (Option.some Jvm.ClassFile.FieldType.char), Jvm.Cond.code ({ cls := "java/lang/String", name := "checkIndex", desc := "(II)V" } : Jvm.MethodName) jdk_42_method_155_code (2 : Nat) (Option.none : Option Jvm.ClassFile.FieldType), Jvm.Cond.code ({ cls := "jdk/internal/util/Preconditions", name := "checkIndex", desc := "(IILjava/util/function/BiFunction;)I" } : Jvm.MethodName) jdk_41_method_11_code (3 : Nat) (Option.some Jvm.ClassFile.FieldType.int), Jvm.Cond.code ({ cls := "java/lang/String", name := "length", desc := "()I" } : Jvm.MethodName) jdk_42_method_54_code (1 : Nat) (Option.some Jvm.ClassFile.FieldType.int), Jvm.Cond.code ({ cls := "java/lang/String", name := "coder", desc := "()B" } : Jvm.MethodName) jdk_42_method_152_code (1 : Nat) (Option.some Jvm.ClassFile.FieldType.byte)]
set_option maxRecDepth 65536 in
theorem codes_eq : words1.filter isCode = codes1 := rfl
theorem w_codes : ∀ c ∈ words1.filter isCode, c.before args0 about1 = true := by
  rw [codes_eq]
  intro c hc
  simp only [codes1, List.mem_cons, List.not_mem_nil, or_false] at hc
  rcases hc with rfl | rfl | rfl | rfl | rfl | rfl | rfl | rfl | rfl
  · exact w_c0
  · exact w_c1
  · exact w_c2
  · exact w_c3
  · exact w_c4
  · exact w_c5
  · exact w_c6
  · exact w_c7
  · exact w_c8
set_option maxRecDepth 65536 in
theorem w_t1 : (words1.take 24).all (fun c => isCode c || c.before args0 about1) = true := by decide +kernel
set_option maxRecDepth 65536 in
theorem w_t2 : ((words1.drop 24).take 24).all (fun c => isCode c || c.before args0 about1) = true := by decide +kernel
set_option maxRecDepth 65536 in
theorem w_t3 : ((words1.drop 24).drop 24).all (fun c => isCode c || c.before args0 about1) = true := by decide +kernel
theorem w_tables : (allAtoms (Jvm.Cond.code x code maxLocals ret :: tables_1)).before args0 about1 = true := by
  rw [allAtoms_all]
  show words1.all (fun c => c.before args0 about1) = true
  refine all_split ?_ w_codes
  rw [← List.take_append_drop 24 words1, List.all_append, w_t1, ← List.take_append_drop 24 (words1.drop 24), List.all_append, w_t2, w_t3]
  rfl
set_option maxRecDepth 65536 in
theorem w_rest : rest_1_c.before args0 about1 = true := by decide +kernel
set_option maxRecDepth 65536 in
theorem w_case : (Jvm.Cond.and given_1 narrow_1).before args0 about1 = true := by decide +kernel
set_option maxRecDepth 65536 in
theorem w_consts : constsHeld consts_1 about1 := Jvm.Lit.constsHeldB_iff.mp (by decide +kernel)
theorem w_applies : (headSpec (Jvm.Cond.code x code maxLocals ret :: tables_1) room_1).applies x e0.platform about1 = true :=
  (Spec.applies_iff w_frames).mpr ⟨w_running, w_runnable, w_alone, w_named, w_hears, w_ripe, w_room, w_tables⟩
theorem atStart : AtStart classFile x code maxLocals ret World_1 tables_1 room_1 Calls_1 rest_1 Pre_1 launch0 p0 e0 about1 theMethod args0 below0 :=
  ⟨lists_1, trivial, launch0.admits_env _ _ _, launch0.least_env, fairChoices_fair.cas, fairChoices_fair.clock, w_frames, w_args, w_heap, w_applies, ⟨w_consts, trivial⟩, w_rest, w_case⟩
end start1
theorem witness_1 : WitnessClaimed_1 := ⟨start1.p0, start1.e0, start1.about1, start1.theMethod, start1.args0, start1.below0, start1.atStart⟩
end Jvm.Pilot.@@N@@
