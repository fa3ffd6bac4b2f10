import JvmDerived
import JvmDerived.Pilot.@@N@@Statement
import JvmDerived.Pilot.@@N@@Code
set_option linter.unusedVariables false
set_option linter.unusedSimpArgs false
@@BLOCK:NumsL.lean.txt@@
set_option maxRecDepth 65536
namespace Jvm.Pilot.@@N@@
open Jvm Jvm.ClassFile Sem Op Lib Jvm.Free Jvm.Stand Jvm.LawKit Jvm.RoadKit Bundle Jvm.Pilot.@@N@@.Jvm.D
/-! OWN KIT: the walk in continuation style over lawnew's family -/
section OwnKit
variable {p : Program} {l : Launch} {e : Env} {R : Room} {s : State} {m : MethodId} {args : Array Value} {below : List Frame} {meth : Method} {c : Code} {T : State} {locs : List Loc} {cells slots : Nat} {Z : State} {a0 : Array Value} {h : Heap} {K : Outcome → State → Prop} {Q : Option Value → Heap → List Loc → Prop} {rc rs : Nat}
/-- from the frame g over T the run comes to its end, and K holds there -/
def Go (p : Program) (e : Env) (below : List Frame) (K : Outcome → State → Prop) (T : State) (g : JFrame) : Prop :=
  ∃ s₂ o, Steps p.tables e below (T.setTop g) s₂ ∧ s₂.status = .running ∧ Ended s₂ below o ∧ K o s₂
theorem Go.to {T T' : State} {g g' : JFrame} (st : ∀ t, Steps p.tables e below (T'.setTop g') t → Steps p.tables e below (T.setTop g) t) (k : Go p e below K T' g') : Go p e below K T g := by
  obtain ⟨s₂, o, h1, h2⟩ := k
  exact ⟨s₂, o, st _ h1, h2⟩
def KQ (s : State) (Q : Option Value → Heap → List Loc → Prop) (rc rs : Nat) : Outcome → State → Prop := fun o U => ∃ v L, o = .returned v ∧ Q v U.heap L ∧ FrameEnd s o U L rc rs
theorem Go.retW (X : Stand p l e R s m args below meth c T locs cells slots) (hx : p.tables.exec = Jvm.exec) (hlk : meth.locks = false) {pc : Nat} {Ls : Array Slot} {w : Value} {t : FieldType} {i : Instr} {rest : List Value} (hret : meth.sig.returnType = some t) (hn : narrow t w = w)
    (hi : (i = .ireturn ∧ (t = .int ∨ t = .boolean ∨ t = .byte ∨ t = .char ∨ t = .short) ∧ ∃ z, w = .int z) ∨ (i = .lreturn ∧ t = .long ∧ ∃ z, w = .long z) ∨ (i = .dreturn ∧ t = .double ∧ ∃ z, w = .double z) ∨ (i = .freturn ∧ t = .float ∧ ∃ z, w = .float z) ∨ (i = .areturn ∧ t.isReference = true ∧ w.isRef = true))
    (hd : decode c.code pc = .ok (i, 1)) (hq : Q (some w) T.heap locs) (hc : cells ≤ rc) (hs : slots ≤ rs) : Go p e below (KQ s Q rc rs) T (mkF m pc Ls (w :: rest)) := by
  obtain ⟨fs, hr, hrun, hended, hW, hsame⟩ := X.leave (v := some w) (fun h => by rw [hret] at h; cases h) hlk
  exact ⟨_, _, retOut X hx hret hn hi hd hr, hrun, hended, _, _, rfl, hq, ⟨_, rfl⟩, hW, hsame.mono hc hs⟩
theorem Go.retI (X : Stand p l e R s m args below meth c T locs cells slots) (hx : p.tables.exec = Jvm.exec) (hlk : meth.locks = false) {pc : Nat} {Ls : Array Slot} {z : Int32} {rest : List Value} (hret : meth.sig.returnType = some .int)
    (hd : decode c.code pc = .ok (.ireturn, 1)) (hq : Q (some (.int z)) T.heap locs) (hc : cells ≤ rc) (hs : slots ≤ rs) : Go p e below (KQ s Q rc rs) T (mkF m pc Ls (.int z :: rest)) :=
  Go.retW X hx hlk hret rfl (Or.inl ⟨rfl, Or.inl rfl, z, rfl⟩) hd hq hc hs
theorem Go.retJ (X : Stand p l e R s m args below meth c T locs cells slots) (hx : p.tables.exec = Jvm.exec) (hlk : meth.locks = false) {pc : Nat} {Ls : Array Slot} {z : Int64} {rest : List Value} (hret : meth.sig.returnType = some .long)
    (hd : decode c.code pc = .ok (.lreturn, 1)) (hq : Q (some (.long z)) T.heap locs) (hc : cells ≤ rc) (hs : slots ≤ rs) : Go p e below (KQ s Q rc rs) T (mkF m pc Ls (.long z :: rest)) :=
  Go.retW X hx hlk hret rfl (Or.inr (Or.inl ⟨rfl, rfl, z, rfl⟩)) hd hq hc hs
theorem Go.retZ (X : Stand p l e R s m args below meth c T locs cells slots) (hx : p.tables.exec = Jvm.exec) (hlk : meth.locks = false) {pc : Nat} {Ls : Array Slot} {z : Int32} {rest : List Value} (hret : meth.sig.returnType = some .boolean) (hz : z = 0 ∨ z = 1)
    (hd : decode c.code pc = .ok (.ireturn, 1)) (hq : Q (some (.int z)) T.heap locs) (hc : cells ≤ rc) (hs : slots ≤ rs) : Go p e below (KQ s Q rc rs) T (mkF m pc Ls (.int z :: rest)) :=
  Go.retW X hx hlk hret (by rcases hz with rfl | rfl <;> rfl) (Or.inl ⟨rfl, Or.inr (Or.inl rfl), z, rfl⟩) hd hq hc hs
theorem Go.retA (X : Stand p l e R s m args below meth c T locs cells slots) (hx : p.tables.exec = Jvm.exec) (hlk : meth.locks = false) {pc : Nat} {Ls : Array Slot} {w : Value} {t : FieldType} {rest : List Value} (hret : meth.sig.returnType = some t) (ht : t.isReference = true) (hw : w.isRef = true) (hn : narrow t w = w)
    (hd : decode c.code pc = .ok (.areturn, 1)) (hq : Q (some w) T.heap locs) (hc : cells ≤ rc) (hs : slots ≤ rs) : Go p e below (KQ s Q rc rs) T (mkF m pc Ls (w :: rest)) :=
  Go.retW X hx hlk hret hn (Or.inr (Or.inr (Or.inr (Or.inr ⟨rfl, ht, hw⟩)))) hd hq hc hs
theorem Go.retV (X : Stand p l e R s m args below meth c T locs cells slots) (hx : p.tables.exec = Jvm.exec) (hlk : meth.locks = false) {pc : Nat} {Ls : Array Slot} (hret : meth.sig.returnType = none)
    (hd : decode c.code pc = .ok (.return_, 1)) (hq : Q none T.heap locs) (hc : cells ≤ rc) (hs : slots ≤ rs) : Go p e below (KQ s Q rc rs) T (mkF m pc Ls []) := by
  obtain ⟨fs, hr, hrun, hended, hW, hsame⟩ := X.leave (v := none) (fun _ => rfl) hlk
  exact ⟨_, _, X.returnOut hx hret hd hr, hrun, hended, _, _, rfl, hq, ⟨_, rfl⟩, hW, hsame.mono hc hs⟩
/-- a contract in this family -/
abbrev Met1 (l : Launch) (Z : State) (y : MethodName) (bytes : ByteArray) (maxL : Nat) (ret : Option FieldType) (ws : List Jvm.Cond) (rm : Room) (as' : Array Value) (h0 : Heap) (Q : Option Value → Heap → List Loc → Prop) : Prop :=
  MetFree l y (head1 (Jvm.Cond.code y bytes maxL ret :: ws) rm) (fun a U => a = as' ∧ Z.Warmed39 U.vm ∧ U.heap = h0) (fun _ _ _ _ _ => True) (fun _ U o U' => ∃ v L, o = .returned v ∧ Q v U'.heap L ∧ FrameEnd U o U' L rm.cells rm.slots)
theorem metOf {y : MethodName} {bytes : ByteArray} {maxL : Nat} {ret : Option FieldType} {ws : List Jvm.Cond} {rm : Room} {as' : Array Value} {h0 : Heap} (hp : plainFor y = true)
    (body : ∀ (p : Program) (e : Env) (s : State) (m : MethodId) (below : List Frame) (meth : Method) (c : Code) (s₁ : State), p.tables.exec = Jvm.exec → c.code = bytes → c.maxLocals = maxL → s.vm.findClass y.cls = some m.cls → meth.name = y.name → meth.sig.returnType = ret → meth.locks = false → Z.Warmed39 s.vm →
      Stand p l e rm s m as' below meth c s₁ [] 0 0 → s₁.heap = h0 → Go p e below (KQ s Q rm.cells rm.slots) s₁ (entryFrame m as' maxL)) : Met1 l Z y bytes maxL ret ws rm as' h0 Q := by
  refine MetFree.of_bodySF hp hisR ?_
  intro p e s m args below meth c s₁ Bd hml0 hP hK
  obtain ⟨rfl, hZ, hh⟩ := hP
  exact body p e s m below meth c s₁ Bd.exec Bd.bytes hml0 (findClass_of_methodNamed Bd.named) (name_of_methodNamed Bd.named Bd.method).1 Bd.returns (BodyLoose.notSynchronized Bd) hZ (Stand.of_body Bd) (by rw [← hh, Bd.state]; rfl)
section Calls
variable {own : String} {index : Nat} {y : MethodName} {bytes : ByteArray} {maxL : Nat} {ret : Option FieldType} {rm : Room} {as' : Array Value} {pc : Nat} {Ls : Array Slot} {st rest argsL : List Value} {ps : List FieldType} {r : Option FieldType}
theorem Go.callS (X : Stand p l e R s m args below meth c T locs cells slots) (hx : p.tables.exec = Jvm.exec) (hZ : Z.Warmed39 s.vm) (hown : s.vm.findClass own = some m.cls)
    (w1 : (Cond.methodLink own index y).before a0 Z = true) (w2 : (Cond.static y).before a0 Z = true) (w3 : (Cond.initialized y.cls).before a0 Z = true) (w4 : (Cond.code y bytes maxL ret).before a0 Z = true)
    (hy : y.cls ≠ "java/lang/invoke/MethodHandle" ∧ y.cls ≠ "java/lang/invoke/VarHandle") (hM : Met1 l Z y bytes maxL ret [] rm as' h Q) (eT : T.heap = h) (hsize : Ls.size = c.maxLocals)
    (hpd : parseMethodDescriptor y.desc = some ⟨ps, r⟩) (hlen : argsL.length = ps.length) (hst : st = argsL.reverse ++ rest) (has : argsL.toArray = as') (hdc : decode c.code pc = .ok (.invokestatic index, 3))
    (hf : rm.frames + 1 ≤ R.frames) (hlo : (rest.map fun v => v.category).sum + (maxL + 11) + rm.locals ≤ R.locals) (hce : cells + rm.cells ≤ R.cells) (hsl : slots + rm.slots ≤ R.slots)
    (k : ∀ T' v L, Stand p l e R s m args below meth c T' (locs ++ L) (cells + rm.cells) (slots + rm.slots) → Q v T'.heap L → Go p e below K T' (mkF m (pc + 3) Ls (v.toList ++ rest))) : Go p e below K T (mkF m pc Ls st) := by
  obtain ⟨v, vm₁, ⟨T', L', c', n'⟩, -, X', ⟨L, hQ, e1, e2, e3⟩, st'⟩ := Jvm.LawKit.callS X hx hown (mvT hZ w1) (mvT hZ w2) (mvT hZ w3) (mvT hZ w4) hy (backOf (W := (rest.map fun v => v.category).sum) hM hZ w4 w3 hf hlo) (g := mkF m pc Ls st) rfl hsize (argsL := argsL) (rest := rest) (lenOf hpd hlen) hst (by show 2 * 0 + _ ≤ _; omega) hdc (fun _ _ => ⟨has, eT, hce, hsl⟩)
  dsimp only [Pt.U, Pt.locs, Pt.cells, Pt.slots] at X' e1 e2 e3 st' hQ
  subst e1 e2 e3
  exact Go.to st' (k T' v L X' hQ)
theorem Go.callI (X : Stand p l e R s m args below meth c T locs cells slots) (hx : p.tables.exec = Jvm.exec) (hZ : Z.Warmed39 s.vm) (hown : s.vm.findClass own = some m.cls) (hin : y.name = "<init>")
    (w1 : (Cond.methodLink own index y).before a0 Z = true) (w2 : (Cond.instanceMethod y).before a0 Z = true) (w3 : (Cond.initialized y.cls).before a0 Z = true) (w4 : (Cond.code y bytes maxL none).before a0 Z = true)
    (hy : y.cls ≠ "java/lang/invoke/MethodHandle" ∧ y.cls ≠ "java/lang/invoke/VarHandle") (hM : Met1 l Z y bytes maxL none [] rm as' h Q) (eT : T.heap = h) (hsize : Ls.size = c.maxLocals)
    (hpd : parseMethodDescriptor y.desc = some ⟨ps, r⟩) (hlen : argsL.length = ps.length) {a : Addr} (hst : st = argsL.reverse ++ .ref a :: rest) (has : (Value.ref a :: argsL).toArray = as') (hdc : decode c.code pc = .ok (.invokespecial index, 3))
    (hf : rm.frames + 1 ≤ R.frames) (hlo : (rest.map fun v => v.category).sum + (maxL + 11) + rm.locals ≤ R.locals) (hce : cells + rm.cells ≤ R.cells) (hsl : slots + rm.slots ≤ R.slots)
    (k : ∀ T' v L, Stand p l e R s m args below meth c T' (locs ++ L) (cells + rm.cells) (slots + rm.slots) → Q v T'.heap L → Go p e below K T' (mkF m (pc + 3) Ls (v.toList ++ rest))) : Go p e below K T (mkF m pc Ls st) := by
  obtain ⟨v, vm₁, ⟨T', L', c', n'⟩, -, X', ⟨L, hQ, e1, e2, e3⟩, st'⟩ := X.specialBack hx hin hown (mvT hZ w1) (mvT hZ w2) (mvT hZ w4) hy (backOf (W := (rest.map fun v => v.category).sum) hM hZ w4 w3 hf hlo) (g := mkF m pc Ls st) rfl hsize (Steps.refl _) (a := a) (argsL := argsL) (rest := rest) (lenOf hpd hlen) hst (by show 2 * 0 + _ ≤ _; omega) hdc (fun _ _ => ⟨has, eT, hce, hsl⟩)
  dsimp only [Pt.U, Pt.locs, Pt.cells, Pt.slots] at X' e1 e2 e3 st' hQ
  subst e1 e2 e3
  exact Go.to (fun _ q => st'.trans q) (k T' v L X' hQ)
theorem Go.callV (X : Stand p l e R s m args below meth c T locs cells slots) (hx : p.tables.exec = Jvm.exec) (hZ : Z.Warmed39 s.vm) (hown : s.vm.findClass own = some m.cls)
    (w1 : (Cond.methodLink own index y).before a0 Z = true) (w5 : (Cond.declares y).before a0 Z = true) {C : String} (w6 : (Cond.selects C y y).before a0 Z = true) (w2 : (Cond.instanceMethod y).before a0 Z = true) (w3 : (Cond.initialized y.cls).before a0 Z = true) (w4 : (Cond.code y bytes maxL ret).before a0 Z = true)
    (hy : y.cls ≠ "java/lang/invoke/MethodHandle" ∧ y.cls ≠ "java/lang/invoke/VarHandle") (hM : Met1 l Z y bytes maxL ret [] rm as' h Q) (eT : T.heap = h) {a : Addr} (E : Exa Z h a C) (hsize : Ls.size = c.maxLocals)
    (hpd : parseMethodDescriptor y.desc = some ⟨ps, r⟩) (hlen : argsL.length = ps.length) (hst : st = argsL.reverse ++ .ref a :: rest) (has : (Value.ref a :: argsL).toArray = as') (hdc : decode c.code pc = .ok (.invokevirtual index, 3))
    (hf : rm.frames + 1 ≤ R.frames) (hlo : (rest.map fun v => v.category).sum + (maxL + 11) + rm.locals ≤ R.locals) (hce : cells + rm.cells ≤ R.cells) (hsl : slots + rm.slots ≤ R.slots)
    (k : ∀ T' v L, Stand p l e R s m args below meth c T' (locs ++ L) (cells + rm.cells) (slots + rm.slots) → Q v T'.heap L → Go p e below K T' (mkF m (pc + 3) Ls (v.toList ++ rest))) : Go p e below K T (mkF m pc Ls st) := by
  obtain ⟨cq, kq, q1, q2, q3⟩ := isOf hZ eT E
  obtain ⟨v, vm₁, ⟨T', L', c', n'⟩, -, X', ⟨L, hQ, e1, e2, e3⟩, st'⟩ := X.virtualBack hx (y := y) (z := y) hown (mvT hZ w1) (mvT hZ w5) (notFace_of_selects (args := #[]) (mvT hZ w6)) (mvT hZ w6) (mvT hZ w2) hy (backOf (W := (rest.map fun v => v.category).sum) hM hZ w4 w3 hf hlo) q1 q3 (g := mkF m pc Ls st) rfl hsize (Steps.refl _) (argsL := argsL) (rest := rest) (lenOf hpd hlen) hst (by show 2 * 0 + _ ≤ _; omega) hdc (fun _ _ => ⟨has, eT, hce, hsl⟩)
  dsimp only [Pt.U, Pt.locs, Pt.cells, Pt.slots] at X' e1 e2 e3 st' hQ
  subst e1 e2 e3
  exact Go.to (fun _ q => st'.trans q) (k T' v L X' hQ)
end Calls
/-! arrays of ints (or of chars) by their list -/
def AV (Z : State) (h : Heap) (b : Addr) (ty : FieldType) (xs : List Int32) : Prop := ∃ cl : Cell, Arr Z h b cl ty ∧ cl.slots = (xs.map Value.int).toArray
def rdL (xs : List Int32) (j : Int32) : Option Int32 := if j < 0 then none else xs[j.toNatClampNeg]?
def wrL (xs : List Int32) (j v : Int32) : List Int32 := xs.set j.toNatClampNeg v
variable {b : Addr} {xs : List Int32} {j v w : Int32} {ty : FieldType} {h' : Heap}
theorem AV.lt (A : AV Z h b ty xs) : b < h.size := by obtain ⟨cl, A, -⟩ := A; exact A.lt
theorem AV.ext (A : AV Z h b ty xs) (E : Ext h h') : AV Z h' b ty xs := by obtain ⟨cl, A, q⟩ := A; exact ⟨cl, A.ext E, q⟩
theorem AV.other {a : Addr} {sl : Nat} {u : Value} (A : AV Z h b ty xs) (W : Wr h h' a sl u) (q : b ≠ a) : AV Z h' b ty xs := by obtain ⟨cl, A, r⟩ := A; exact ⟨cl, A.other W q, r⟩
theorem AV.keep {ws : List Addr} (A : AV Z h b ty xs) (Kp : Keep h h' ws) (q : b ∉ ws) : AV Z h' b ty xs := by obtain ⟨cl, A, r⟩ := A; exact ⟨cl, ⟨Kp.2.1 b cl A.1 q, A.2⟩, r⟩
theorem AV.same {n : Nat} (A : AV Z h b ty xs) (W : Wr h h' b n (.int v)) : AV Z h' b ty (xs.set n v) := by
  obtain ⟨cl, A, r⟩ := A
  refine ⟨_, A.same W, ?_⟩
  simp only [Cell.setSlot, r, List.setIfInBounds_toArray, List.map_set]
theorem AV.rd (A : AV Z h b ty xs) (hr : rdL xs j = some v) : ∃ cl : Cell, Arr Z h b cl ty ∧ ¬ (j < 0 ∨ cl.slots.size ≤ j.toNatClampNeg) ∧ cl.slots[j.toNatClampNeg]? = some (.int v) := by
  obtain ⟨cl, A, r⟩ := A
  unfold rdL at hr
  split at hr
  · cases hr
  · rename_i hj
    obtain ⟨hlt, hv⟩ := List.getElem?_eq_some_iff.mp hr
    refine ⟨cl, A, ?_, ?_⟩
    · rw [r]; simp only [List.size_toArray, List.length_map]; rintro (q | q)
      · exact hj q
      · omega
    · rw [r]; simp [hlt, hv]
theorem AV.new {cA : ClassId} {n : Int32} (A : Arr Z h b (newA cA .int n) .int) : AV Z h b .int (List.replicate n.toNatClampNeg 0) := ⟨_, A, by simp [newA, defaultValue]⟩
theorem AV.newC {cA : ClassId} {n : Int32} (A : Arr Z h b (newA cA .char n) .char) : AV Z h b .char (List.replicate n.toNatClampNeg 0) := ⟨_, A, by simp [newA, defaultValue]⟩
variable {pc : Nat} {Ls : Array Slot} {rest : List Value}
theorem Go.iaload (X : Stand p l e R s m args below meth c T locs cells slots) (hx : p.tables.exec = Jvm.exec) (hZ : Z.Warmed39 s.vm) (eT : T.heap = h) (A : AV Z h b .int xs) (hr : rdL xs j = some v) (hd : decode c.code pc = .ok (.iaload, 1))
    (k : Go p e below K T (mkF m (pc + 1) Ls (.int v :: rest))) : Go p e below K T (mkF m pc Ls (.int j :: .ref b :: rest)) := by
  obtain ⟨cl, A, h1, h2⟩ := A.rd hr
  exact Go.to (fun t q => X.iaload hx (by rw [eT]; exact A.1) (State.isArrayOf_alike hZ.alike A.2.1) A.2.2 h1 h2 (g := mkF m pc Ls (.int j :: .ref b :: rest)) rfl rfl hd t q) k
theorem Go.caload (X : Stand p l e R s m args below meth c T locs cells slots) (hx : p.tables.exec = Jvm.exec) (hZ : Z.Warmed39 s.vm) (eT : T.heap = h) (A : AV Z h b .char xs) (hr : rdL xs j = some v) (hd : decode c.code pc = .ok (.caload, 1))
    (k : Go p e below K T (mkF m (pc + 1) Ls (.int v :: rest))) : Go p e below K T (mkF m pc Ls (.int j :: .ref b :: rest)) := by
  obtain ⟨cl, A, h1, h2⟩ := A.rd hr
  exact Go.to (fun t q => X.caload hx (by rw [eT]; exact A.1) (State.isArrayOf_alike hZ.alike A.2.1) A.2.2 h1 h2 (g := mkF m pc Ls (.int j :: .ref b :: rest)) rfl rfl hd t q) k
theorem Go.alen (X : Stand p l e R s m args below meth c T locs cells slots) (hx : p.tables.exec = Jvm.exec) (hZ : Z.Warmed39 s.vm) (eT : T.heap = h) (A : AV Z h b ty xs) (hd : decode c.code pc = .ok (.arraylength, 1))
    (k : Go p e below K T (mkF m (pc + 1) Ls (.int xs.length.toInt32 :: rest))) : Go p e below K T (mkF m pc Ls (.ref b :: rest)) := by
  obtain ⟨cl, A, r⟩ := A
  refine Go.to (fun t q => X.arraylength hx (by rw [eT]; exact A.1) (State.isArrayOf_alike hZ.alike A.2.1) (g := mkF m pc Ls (.ref b :: rest)) rfl rfl hd t q) ?_
  simpa [r] using k
theorem Go.iastore (X : Stand p l e R s m args below meth c T locs cells slots) (hx : p.tables.exec = Jvm.exec) (hZ : Z.Warmed39 s.vm) (eT : T.heap = h) (A : AV Z h b .int xs) (hr : rdL xs j = some w) (hd : decode c.code pc = .ok (.iastore, 1))
    (k : ∀ T' h', Stand p l e R s m args below meth c T' (locs ++ [⟨b, j.toNatClampNeg⟩]) cells slots → T'.heap = h' → Wr h h' b j.toNatClampNeg (.int v) → AV Z h' b .int (wrL xs j v) → Go p e below K T' (mkF m (pc + 1) Ls rest)) : Go p e below K T (mkF m pc Ls (.int v :: .int j :: .ref b :: rest)) := by
  obtain ⟨cl, A', h1, h2⟩ := A.rd hr
  obtain ⟨T', h', X', e', W, st⟩ := stI X hx hZ eT A' (j := j) h1 (g := mkF m pc Ls (.int v :: .int j :: .ref b :: rest)) rfl rfl hd
  exact Go.to st (k T' h' X' e' W (A.same W))
theorem Go.castore (X : Stand p l e R s m args below meth c T locs cells slots) (hx : p.tables.exec = Jvm.exec) (hZ : Z.Warmed39 s.vm) (eT : T.heap = h) (A : AV Z h b .char xs) (hr : rdL xs j = some w) (hn : nar .char v = v) (hd : decode c.code pc = .ok (.castore, 1))
    (k : ∀ T' h', Stand p l e R s m args below meth c T' (locs ++ [⟨b, j.toNatClampNeg⟩]) cells slots → T'.heap = h' → Wr h h' b j.toNatClampNeg (.int v) → AV Z h' b .char (wrL xs j v) → Go p e below K T' (mkF m (pc + 1) Ls rest)) : Go p e below K T (mkF m pc Ls (.int v :: .int j :: .ref b :: rest)) := by
  obtain ⟨cl, A', h1, h2⟩ := A.rd hr
  obtain ⟨T', h', X', e', W, st⟩ := stC X hx hZ eT A' (j := j) h1 (g := mkF m pc Ls (.int v :: .int j :: .ref b :: rest)) rfl rfl hd
  rw [hn] at W
  exact Go.to st (k T' h' X' e' W (A.same W))
theorem Go.newI (X : Stand p l e R s m args below meth c T locs cells slots) (hx : p.tables.exec = Jvm.exec) (hZ : Z.Warmed39 s.vm) (wa : (Cond.arrayClass .int).before a0 Z = true) (eT : T.heap = h) (hd : decode c.code pc = .ok (.newarray .int, 2)) {n : Int32} (hn : ¬ n < 0) {cap : Nat} (hcap : n.toNatClampNeg ≤ cap) (hb : cap * 8 ≤ 536870912) (hc : cells + 1 ≤ R.cells) (hl : slots + cap ≤ R.slots)
    (k : ∀ T' h' b, Stand p l e R s m args below meth c T' locs (cells + 1) (slots + cap) → T'.heap = h' → Ext h h' → b = h.size → AV Z h' b .int (List.replicate n.toNatClampNeg 0) → Go p e below K T' (mkF m (pc + 2) Ls (.ref b :: rest))) : Go p e below K T (mkF m pc Ls (.int n :: rest)) := by
  obtain ⟨T', h', cA, X', e', E, A, st⟩ := newP X hx hZ (aty := .int) wa eT (g := mkF m pc Ls (.int n :: rest)) rfl hd rfl hn hcap hb hc hl
  exact Go.to st (k T' h' _ X' e' E rfl (AV.new A))
theorem Go.newC (X : Stand p l e R s m args below meth c T locs cells slots) (hx : p.tables.exec = Jvm.exec) (hZ : Z.Warmed39 s.vm) (wa : (Cond.arrayClass .char).before a0 Z = true) (eT : T.heap = h) (hd : decode c.code pc = .ok (.newarray .char, 2)) {n : Int32} (hn : ¬ n < 0) {cap : Nat} (hcap : n.toNatClampNeg ≤ cap) (hb : cap * 8 ≤ 536870912) (hc : cells + 1 ≤ R.cells) (hl : slots + cap ≤ R.slots)
    (k : ∀ T' h' b, Stand p l e R s m args below meth c T' locs (cells + 1) (slots + cap) → T'.heap = h' → Ext h h' → b = h.size → AV Z h' b .char (List.replicate n.toNatClampNeg 0) → Go p e below K T' (mkF m (pc + 2) Ls (.ref b :: rest))) : Go p e below K T (mkF m pc Ls (.int n :: rest)) := by
  obtain ⟨T', h', cA, X', e', E, A, st⟩ := newP X hx hZ (aty := .char) wa eT (g := mkF m pc Ls (.int n :: rest)) rfl hd rfl hn hcap hb hc hl
  exact Go.to st (k T' h' _ X' e' E rfl (AV.newC A))
theorem frOne {k n : Nat} {L : List Loc} (N : Fr k L) (q : k ≤ b) : Fr k (L ++ [⟨b, n⟩]) := N.app fun y hy => by cases List.mem_singleton.mp hy; exact q
end OwnKit
theorem pd_0 : parseMethodDescriptor "(CJ)J" = some ⟨[.char, .long], some .long⟩ := by decide +kernel
def QP (r : Value) (h0 : Heap) : Option Value → Heap → List Loc → Prop := fun v h L => v = some r ∧ h = h0 ∧ L = []
def fA (p1 : Int32) (q2 : Int64) : Int64 := (if p1 = (66 : Int32) then (((q2.toInt32).toInt8.toInt32).toInt64) else (if p1 = (67 : Int32) then (((q2.toInt32).toUInt32.toUInt16.toUInt32.toInt32).toInt64) else (if p1 = (83 : Int32) then (((q2.toInt32).toInt16.toInt32).toInt64) else (if p1 = (90 : Int32) then (q2 &&& (1 : Int64)) else q2))))
theorem d1_0 : decode prog_87_method_13_code 0 = .ok (.iload_n 0, 1) := by decide +kernel
theorem d1_1 : decode prog_87_method_13_code 1 = .ok (.lookupswitch 70 #[(66, 49), (67, 56), (83, 63), (90, 43)], 43) := by decide +kernel
theorem d1_44 : decode prog_87_method_13_code 44 = .ok (.lload_n 1, 1) := by decide +kernel
theorem d1_45 : decode prog_87_method_13_code 45 = .ok (.lconst 1, 1) := by decide +kernel
theorem d1_46 : decode prog_87_method_13_code 46 = .ok (.land, 1) := by decide +kernel
theorem d1_47 : decode prog_87_method_13_code 47 = .ok (.goto 25, 3) := by decide +kernel
theorem d1_50 : decode prog_87_method_13_code 50 = .ok (.lload_n 1, 1) := by decide +kernel
theorem d1_51 : decode prog_87_method_13_code 51 = .ok (.l2i, 1) := by decide +kernel
theorem d1_52 : decode prog_87_method_13_code 52 = .ok (.i2b, 1) := by decide +kernel
theorem d1_53 : decode prog_87_method_13_code 53 = .ok (.i2l, 1) := by decide +kernel
theorem d1_54 : decode prog_87_method_13_code 54 = .ok (.goto 18, 3) := by decide +kernel
theorem d1_57 : decode prog_87_method_13_code 57 = .ok (.lload_n 1, 1) := by decide +kernel
theorem d1_58 : decode prog_87_method_13_code 58 = .ok (.l2i, 1) := by decide +kernel
theorem d1_59 : decode prog_87_method_13_code 59 = .ok (.i2c, 1) := by decide +kernel
theorem d1_60 : decode prog_87_method_13_code 60 = .ok (.i2l, 1) := by decide +kernel
theorem d1_61 : decode prog_87_method_13_code 61 = .ok (.goto 11, 3) := by decide +kernel
theorem d1_64 : decode prog_87_method_13_code 64 = .ok (.lload_n 1, 1) := by decide +kernel
theorem d1_65 : decode prog_87_method_13_code 65 = .ok (.l2i, 1) := by decide +kernel
theorem d1_66 : decode prog_87_method_13_code 66 = .ok (.i2s, 1) := by decide +kernel
theorem d1_67 : decode prog_87_method_13_code 67 = .ok (.i2l, 1) := by decide +kernel
theorem d1_68 : decode prog_87_method_13_code 68 = .ok (.goto 4, 3) := by decide +kernel
theorem d1_71 : decode prog_87_method_13_code 71 = .ok (.lload_n 1, 1) := by decide +kernel
theorem d1_72 : decode prog_87_method_13_code 72 = .ok (.lreturn, 1) := by decide +kernel
theorem ef_rm1 (m : MethodId) (p1 : Int32) (q2 : Int64) : entryFrame m #[(.int p1), (.long q2)] 3 = mkF m 0 #[.val (.int p1), .val (.long q2), .second] [] := by first | (simp [entryFrame, mkF, argsToLocals, Value.category]; done) | rfl
set_option maxHeartbeats 40000000 in
theorem rm1 (l : Launch) (Z : State) (a0 : Array Value) (hw : ∀ d ∈ tables_1, d.before a0 Z = true) (ws : List Jvm.Cond) (p1 : Int32) (q2 : Int64) (h0 : Heap)  :
    Met1 l Z (⟨"oakwell/vm/Instruction", "narrow", "(CJ)J"⟩ : MethodName) prog_87_method_13_code 3 (some .long) ws ({ frames := 0, cells := 0, slots := 0, locals := 0 } : Room) #[(.int p1), (.long q2)] h0 (QP (.long (fA p1 q2)) h0) := by
  refine metOf (by first | exact plainFor_of_name (by first | (simp [plainName, overriddenIn]; done) | decide +kernel) | decide +kernel) ?_
  intro p e s m below meth c s₁ hx hby hml hown hnm hret hlk hZ X0 e0
  have hown : s.vm.findClass "oakwell/vm/Instruction" = some m.cls := hown
  obtain ⟨K, hK⟩ : ∃ K, K = KQ s (QP (.long (fA p1 q2)) h0) (({ frames := 0, cells := 0, slots := 0, locals := 0 } : Room)).cells (({ frames := 0, cells := 0, slots := 0, locals := 0 } : Room)).slots := ⟨_, rfl⟩
  show Go p e below (KQ s (QP (.long (fA p1 q2)) h0) (({ frames := 0, cells := 0, slots := 0, locals := 0 } : Room)).cells (({ frames := 0, cells := 0, slots := 0, locals := 0 } : Room)).slots) s₁ (entryFrame m #[(.int p1), (.long q2)] 3)
  rw [← hK, ef_rm1 m p1 q2]
  show Go p e below _ s₁ (mkF m 0 #[.val (.int p1), .val (.long q2), .second] [])
  refine Go.to (fun _ => XS.iloadN X0.here hx rfl (hb hby d1_0) rfl) ?_
  show Go p e below _ s₁ (mkF m 1 #[.val (.int p1), .val (.long q2), .second] [(.int p1)])
  by_cases hc1 : p1 = (66 : Int32)
  · refine Go.to (fun _ q => X0.lookupswitchHit hx rfl (g := (mkF m 1 #[.val (.int p1), .val (.long q2), .second] [(.int p1)])) rfl (hb hby d1_1) (by decide) (a := 66) (off := 49) (by rw [hc1]; decide) (by show (0 : Int) ≤ ((1 : Nat) : Int) + 49; decide) _ q) ?_
    show Go p e below _ s₁ (mkF m 50 #[.val (.int p1), .val (.long q2), .second] [])
    refine Go.to (fun _ => XS.lloadN X0.here hx rfl (hb hby d1_50) rfl) ?_
    show Go p e below _ s₁ (mkF m 51 #[.val (.int p1), .val (.long q2), .second] [(.long q2)])
    refine Go.to (fun _ => XS.l2i X0.here hx rfl (hb hby d1_51) rfl) ?_
    show Go p e below _ s₁ (mkF m 52 #[.val (.int p1), .val (.long q2), .second] [(.int (q2.toInt32))])
    refine Go.to (fun _ => XS.i2b X0.here hx rfl (hb hby d1_52) rfl) ?_
    show Go p e below _ s₁ (mkF m 53 #[.val (.int p1), .val (.long q2), .second] [(.int ((q2.toInt32).toInt8.toInt32))])
    refine Go.to (fun _ => XS.i2l X0.here hx rfl (hb hby d1_53) rfl) ?_
    show Go p e below _ s₁ (mkF m 54 #[.val (.int p1), .val (.long q2), .second] [(.long (((q2.toInt32).toInt8.toInt32).toInt64))])
    refine Go.to (fun _ => XS.goto X0.here hx rfl (pc0 := 54) (pc' := 72) rfl (hb hby d1_54) (by decide) (by decide)) ?_
    show Go p e below _ s₁ (mkF m 72 #[.val (.int p1), .val (.long q2), .second] [(.long (((q2.toInt32).toInt8.toInt32).toInt64))])
    rw [hK]
    exact Go.retJ X0 hx hlk hret (hb hby d1_72) ⟨by rw [fA]; rw [if_pos hc1], e0, rfl⟩ (by decide) (by decide)
  ·
    by_cases hc2 : p1 = (67 : Int32)
    · refine Go.to (fun _ q => X0.lookupswitchHit hx rfl (g := (mkF m 1 #[.val (.int p1), .val (.long q2), .second] [(.int p1)])) rfl (hb hby d1_1) (by decide) (a := 67) (off := 56) (by rw [hc2]; decide) (by show (0 : Int) ≤ ((1 : Nat) : Int) + 56; decide) _ q) ?_
      show Go p e below _ s₁ (mkF m 57 #[.val (.int p1), .val (.long q2), .second] [])
      refine Go.to (fun _ => XS.lloadN X0.here hx rfl (hb hby d1_57) rfl) ?_
      show Go p e below _ s₁ (mkF m 58 #[.val (.int p1), .val (.long q2), .second] [(.long q2)])
      refine Go.to (fun _ => XS.l2i X0.here hx rfl (hb hby d1_58) rfl) ?_
      show Go p e below _ s₁ (mkF m 59 #[.val (.int p1), .val (.long q2), .second] [(.int (q2.toInt32))])
      refine Go.to (fun _ => XS.i2c X0.here hx rfl (hb hby d1_59) rfl) ?_
      show Go p e below _ s₁ (mkF m 60 #[.val (.int p1), .val (.long q2), .second] [(.int ((q2.toInt32).toUInt32.toUInt16.toUInt32.toInt32))])
      refine Go.to (fun _ => XS.i2l X0.here hx rfl (hb hby d1_60) rfl) ?_
      show Go p e below _ s₁ (mkF m 61 #[.val (.int p1), .val (.long q2), .second] [(.long (((q2.toInt32).toUInt32.toUInt16.toUInt32.toInt32).toInt64))])
      refine Go.to (fun _ => XS.goto X0.here hx rfl (pc0 := 61) (pc' := 72) rfl (hb hby d1_61) (by decide) (by decide)) ?_
      show Go p e below _ s₁ (mkF m 72 #[.val (.int p1), .val (.long q2), .second] [(.long (((q2.toInt32).toUInt32.toUInt16.toUInt32.toInt32).toInt64))])
      rw [hK]
      exact Go.retJ X0 hx hlk hret (hb hby d1_72) ⟨by rw [fA]; rw [if_neg hc1]; rw [if_pos hc2], e0, rfl⟩ (by decide) (by decide)
    ·
      by_cases hc3 : p1 = (83 : Int32)
      · refine Go.to (fun _ q => X0.lookupswitchHit hx rfl (g := (mkF m 1 #[.val (.int p1), .val (.long q2), .second] [(.int p1)])) rfl (hb hby d1_1) (by decide) (a := 83) (off := 63) (by rw [hc3]; decide) (by show (0 : Int) ≤ ((1 : Nat) : Int) + 63; decide) _ q) ?_
        show Go p e below _ s₁ (mkF m 64 #[.val (.int p1), .val (.long q2), .second] [])
        refine Go.to (fun _ => XS.lloadN X0.here hx rfl (hb hby d1_64) rfl) ?_
        show Go p e below _ s₁ (mkF m 65 #[.val (.int p1), .val (.long q2), .second] [(.long q2)])
        refine Go.to (fun _ => XS.l2i X0.here hx rfl (hb hby d1_65) rfl) ?_
        show Go p e below _ s₁ (mkF m 66 #[.val (.int p1), .val (.long q2), .second] [(.int (q2.toInt32))])
        refine Go.to (fun _ => XS.i2s X0.here hx rfl (hb hby d1_66) rfl) ?_
        show Go p e below _ s₁ (mkF m 67 #[.val (.int p1), .val (.long q2), .second] [(.int ((q2.toInt32).toInt16.toInt32))])
        refine Go.to (fun _ => XS.i2l X0.here hx rfl (hb hby d1_67) rfl) ?_
        show Go p e below _ s₁ (mkF m 68 #[.val (.int p1), .val (.long q2), .second] [(.long (((q2.toInt32).toInt16.toInt32).toInt64))])
        refine Go.to (fun _ => XS.goto X0.here hx rfl (pc0 := 68) (pc' := 72) rfl (hb hby d1_68) (by decide) (by decide)) ?_
        show Go p e below _ s₁ (mkF m 72 #[.val (.int p1), .val (.long q2), .second] [(.long (((q2.toInt32).toInt16.toInt32).toInt64))])
        rw [hK]
        exact Go.retJ X0 hx hlk hret (hb hby d1_72) ⟨by rw [fA]; rw [if_neg hc1]; rw [if_neg hc2]; rw [if_pos hc3], e0, rfl⟩ (by decide) (by decide)
      ·
        by_cases hc4 : p1 = (90 : Int32)
        · refine Go.to (fun _ q => X0.lookupswitchHit hx rfl (g := (mkF m 1 #[.val (.int p1), .val (.long q2), .second] [(.int p1)])) rfl (hb hby d1_1) (by decide) (a := 90) (off := 43) (by rw [hc4]; decide) (by show (0 : Int) ≤ ((1 : Nat) : Int) + 43; decide) _ q) ?_
          show Go p e below _ s₁ (mkF m 44 #[.val (.int p1), .val (.long q2), .second] [])
          refine Go.to (fun _ => XS.lloadN X0.here hx rfl (hb hby d1_44) rfl) ?_
          show Go p e below _ s₁ (mkF m 45 #[.val (.int p1), .val (.long q2), .second] [(.long q2)])
          refine Go.to (fun _ => XS.lconst X0.here hx rfl (hb hby d1_45)) ?_
          show Go p e below _ s₁ (mkF m 46 #[.val (.int p1), .val (.long q2), .second] [(.long (1 : Int64)), (.long q2)])
          refine Go.to (fun _ => XS.land X0.here hx rfl (hb hby d1_46) rfl) ?_
          show Go p e below _ s₁ (mkF m 47 #[.val (.int p1), .val (.long q2), .second] [(.long (q2 &&& (1 : Int64)))])
          refine Go.to (fun _ => XS.goto X0.here hx rfl (pc0 := 47) (pc' := 72) rfl (hb hby d1_47) (by decide) (by decide)) ?_
          show Go p e below _ s₁ (mkF m 72 #[.val (.int p1), .val (.long q2), .second] [(.long (q2 &&& (1 : Int64)))])
          rw [hK]
          exact Go.retJ X0 hx hlk hret (hb hby d1_72) ⟨by rw [fA]; rw [if_neg hc1]; rw [if_neg hc2]; rw [if_neg hc3]; rw [if_pos hc4], e0, rfl⟩ (by decide) (by decide)
        ·
          have hm : (#[(66, 49), (67, 56), (83, 63), (90, 43)] : Array (Int × Int)).find? (·.1 == (p1).toInt) = none := find_miss (by
              intro q hq
              simp only [List.mem_cons, List.not_mem_nil, or_false] at hq
              rcases hq with rfl | rfl | rfl | rfl
              · exact fun u => hc1 (Int32.toInt_inj.mp (u.symm.trans (by decide)))
              · exact fun u => hc2 (Int32.toInt_inj.mp (u.symm.trans (by decide)))
              · exact fun u => hc3 (Int32.toInt_inj.mp (u.symm.trans (by decide)))
              · exact fun u => hc4 (Int32.toInt_inj.mp (u.symm.trans (by decide))))
          refine Go.to (fun _ q => X0.lookupswitchMiss hx rfl (g := (mkF m 1 #[.val (.int p1), .val (.long q2), .second] [(.int p1)])) rfl (hb hby d1_1) (by decide) hm (by show (0 : Int) ≤ ((1 : Nat) : Int) + 70; decide) _ q) ?_
          show Go p e below _ s₁ (mkF m 71 #[.val (.int p1), .val (.long q2), .second] [])
          refine Go.to (fun _ => XS.lloadN X0.here hx rfl (hb hby d1_71) rfl) ?_
          show Go p e below _ s₁ (mkF m 72 #[.val (.int p1), .val (.long q2), .second] [(.long q2)])
          rw [hK]
          exact Go.retJ X0 hx hlk hret (hb hby d1_72) ⟨by rw [fA]; rw [if_neg hc1]; rw [if_neg hc2]; rw [if_neg hc3]; rw [if_neg hc4], e0, rfl⟩ (by decide) (by decide)
theorem own_rd {xs : List Int32} {j : Int32} (h0 : 0 ≤ j.toInt) (h1 : j.toInt < xs.length) : rdL xs j = some (xs.getD j.toNatClampNeg 0) := by
  have z : (0 : Int32).toInt = 0 := by decide
  have q : ¬ j < 0 := by rw [Int32.lt_iff_toInt_lt]; omega
  have r : j.toNatClampNeg < xs.length := by simp only [Int32.toNatClampNeg]; omega
  rw [rdL, if_neg q]; simp [List.getElem?_eq_getElem r]
def own_ch (j : Int32) : Int32 := ([(90 : Int32), (66 : Int32), (67 : Int32), (83 : Int32), (73 : Int32), (74 : Int32), (70 : Int32), (68 : Int32), (76 : Int32), (91 : Int32)] : List Int32).getD j.toNatClampNeg 0
theorem own_idx (x : Int32) (h : (x &&& (15 : Int32)) < (10 : Int32)) : 0 ≤ (x &&& (15 : Int32)).toInt ∧ (x &&& (15 : Int32)).toInt < 10 := by
  have e := Jvm.Kit.i32_mask x (15 : Int32) (k := 4) (by decide) (by decide)
  have e10 : (10 : Int32).toInt = 10 := by decide
  rw [Int32.lt_iff_toInt_lt] at h
  omega
theorem own_xor (n k : Nat) (h : n < 2 ^ (k + 1)) : n ^^^ 2 ^ k = if n < 2 ^ k then n + 2 ^ k else n - 2 ^ k := by
  have hp : 0 < 2 ^ k := Nat.two_pow_pos k
  have h2 : 2 ^ (k + 1) = 2 ^ k * 2 := Nat.pow_succ 2 k
  have d : (n ^^^ 2 ^ k) / 2 ^ k = (n / 2 ^ k) ^^^ 1 := by rw [Nat.xor_div_two_pow, Nat.div_self hp]
  have m : (n ^^^ 2 ^ k) % 2 ^ k = n % 2 ^ k := by rw [Nat.xor_mod_two_pow, Nat.mod_self, Nat.xor_zero]
  have e := Nat.div_add_mod (n ^^^ 2 ^ k) (2 ^ k)
  rw [d, m] at e
  split
  · rename_i c
    rw [Nat.div_eq_of_lt c, Nat.mod_eq_of_lt c] at e
    simp at e; omega
  · rename_i c
    have q1 : n / 2 ^ k = 1 := by
      rw [Nat.div_eq_iff hp]; omega
    have q2 := Nat.div_add_mod n (2 ^ k)
    rw [q1] at q2 e
    simp at e q2; omega
theorem own_xorL (x : Int64) (k : Nat) (y : Int64) (hk : k < 40) (hy : y.toBitVec.toNat = 2 ^ k) (h0 : 0 ≤ x.toInt) (h1 : x.toInt < 2 ^ (k + 1)) : (x ^^^ y).toInt = if x.toInt < 2 ^ k then x.toInt + 2 ^ k else x.toInt - 2 ^ k := by
  have hp : 2 ^ (k + 1) ≤ 2 ^ 40 := Nat.pow_le_pow_right (by decide) (by omega)
  have hp0 : 2 ^ k ≤ 2 ^ 40 := Nat.pow_le_pow_right (by decide) (by omega)
  have ci : ((2 ^ (k + 1) : Nat) : Int) = 2 ^ (k + 1) := by norm_cast
  have ci0 : ((2 ^ k : Nat) : Int) = 2 ^ k := by norm_cast
  have rx : x.toInt = x.toBitVec.toInt := rfl
  have bx := BitVec.toInt_eq_toNat_cond x.toBitVec
  have lx := x.toBitVec.isLt
  have nx : x.toInt = (x.toBitVec.toNat : Int) := by
    rw [rx, bx]; rw [rx, bx] at h0 h1
    split
    · rfl
    · rename_i c; rw [if_neg c] at h0; omega
  have hn : x.toBitVec.toNat < 2 ^ (k + 1) := by omega
  have q := own_xor _ k hn
  have tn : (x ^^^ y).toBitVec.toNat = x.toBitVec.toNat ^^^ 2 ^ k := by rw [Int64.toBitVec_xor, BitVec.toNat_xor, hy]
  have hpp : 2 ^ (k + 1) = 2 ^ k * 2 := Nat.pow_succ 2 k
  have ty : (x ^^^ y).toInt = ((x ^^^ y).toBitVec.toNat : Int) := by
    have r : (x ^^^ y).toInt = (x ^^^ y).toBitVec.toInt := rfl
    rw [r, BitVec.toInt_eq_toNat_cond, if_pos]
    rw [tn, q]; split <;> omega
  rw [ty, tn, q]
  split
  · rename_i c; rw [if_pos (by omega)]; omega
  · rename_i c; rw [if_neg (by omega)]; omega
def own_g (c : Int32) (v : Int64) : Int64 := (if c = (90 : Int32) then (((v - (v / (2 : Int64)) * (2 : Int64)) + (2 : Int64)) - (((v - (v / (2 : Int64)) * (2 : Int64)) + (2 : Int64)) / (2 : Int64)) * (2 : Int64)) else (if c = (66 : Int32) then (((v &&& (255 : Int64)) ^^^ (128 : Int64)) - (128 : Int64)) else (if c = (67 : Int32) then (v &&& (65535 : Int64)) else (if c = (83 : Int32) then (((v &&& (65535 : Int64)) ^^^ (32768 : Int64)) - (32768 : Int64)) else v))))
theorem own_fg (c : Int32) (v : Int64) : fA c v = own_g c v := by
  have l2 : (2 : Int64).toInt = 2 := by decide
  have l255 := Jvm.Kit.i64_mask v (255 : Int64) (k := 8) (by decide) (by decide)
  have l65535 := Jvm.Kit.i64_mask v (65535 : Int64) (k := 16) (by decide) (by decide)
  have l1 := Jvm.Kit.i64_mask v (1 : Int64) (k := 1) (by decide) (by decide)
  have rv := rng64 v
  have c1 := c_l2i v
  have r1 := rng32 v.toInt32
  have hZ : (v &&& (1 : Int64)) = (((v - (v / (2 : Int64)) * (2 : Int64)) + (2 : Int64)) - (((v - (v / (2 : Int64)) * (2 : Int64)) + (2 : Int64)) / (2 : Int64)) * (2 : Int64)) := by
    refine Int64.toInt_inj.mp ?_
    have q1 := c_lrem v (2 : Int64) 2 l2
    have q2 : (v - (v / (2 : Int64)) * (2 : Int64)).toInt = v.toInt % 2 ∨ (v - (v / (2 : Int64)) * (2 : Int64)).toInt = -((-v.toInt) % 2) := by
      by_cases s : 0 ≤ v.toInt
      · exact Or.inl (q1.1 s)
      · exact Or.inr (q1.2 (by omega))
    have q3 : ((v - (v / (2 : Int64)) * (2 : Int64)) + (2 : Int64)).toInt = (v - (v / (2 : Int64)) * (2 : Int64)).toInt + 2 := by
      rw [Jvm.Kit.i64_add (by omega) (by omega), l2]
    rw [l1, (c_lrem ((v - (v / (2 : Int64)) * (2 : Int64)) + (2 : Int64)) (2 : Int64) 2 l2).1 (by omega), q3]
    omega
  have hB : v.toInt32.toInt8.toInt32.toInt64 = ((v &&& (255 : Int64)) ^^^ (128 : Int64)) - (128 : Int64) := by
    refine Int64.toInt_inj.mp ?_
    have b1 := c_i2b v.toInt32
    have x1 := own_xorL (v &&& (255 : Int64)) 7 (128 : Int64) (by decide) (by decide) (by omega) (by omega)
    have e128 : (128 : Int64).toInt = 128 := by decide
    rw [Jvm.Kit.i64_of_i32, Jvm.Kit.i64_sub (by rw [x1]; split <;> omega) (by rw [x1]; split <;> omega), x1, e128]
    split <;> omega
  have hC : v.toInt32.toUInt32.toUInt16.toUInt32.toInt32.toInt64 = v &&& (65535 : Int64) := by
    refine Int64.toInt_inj.mp ?_
    have b1 := c_i2c v.toInt32
    rw [Jvm.Kit.i64_of_i32]
    omega
  have hS : v.toInt32.toInt16.toInt32.toInt64 = ((v &&& (65535 : Int64)) ^^^ (32768 : Int64)) - (32768 : Int64) := by
    refine Int64.toInt_inj.mp ?_
    have b1 := c_i2s v.toInt32
    have x1 := own_xorL (v &&& (65535 : Int64)) 15 (32768 : Int64) (by decide) (by decide) (by omega) (by omega)
    have e128 : (32768 : Int64).toInt = 32768 := by decide
    rw [Jvm.Kit.i64_of_i32, Jvm.Kit.i64_sub (by rw [x1]; split <;> omega) (by rw [x1]; split <;> omega), x1, e128]
    split <;> omega
  unfold fA own_g
  rw [hZ, hB, hC, hS]
  by_cases c1 : c = (66 : Int32)
  · subst c1; rfl
  · by_cases c2 : c = (67 : Int32)
    · subst c2; rfl
    · by_cases c3 : c = (83 : Int32)
      · subst c3; rfl
      · by_cases c4 : c = (90 : Int32)
        · subst c4; rfl
        · simp only [c1, c2, c3, c4, if_false]
theorem ef_rm0 (m : MethodId) (p1 : Int32) (p2 : Int32) (p3 : Int64) : entryFrame m #[(.int p1), (.int p2), (.long p3)] maxLocals = mkF m 0 #[.val (.int p1), .val (.int p2), .val (.long p3), .second, .unset, .unset, .unset, .unset, .unset, .unset, .unset] [] := by first | (simp [entryFrame, mkF, argsToLocals, Value.category, maxLocals]; done) | rfl
set_option maxHeartbeats 40000000 in
theorem rm0 (l : Launch) (Z : State) (a0 : Array Value) (hw : ∀ d ∈ tables_1, d.before a0 Z = true) (ws : List Jvm.Cond) (p1 : Int32) (p2 : Int32) (p3 : Int64) (h0 : Heap) (n0 : Nat) (Z0 : n0 ≤ h0.size) :
    Met1 l Z x code maxLocals ret ws room_1 #[(.int p1), (.int p2), (.long p3)] h0 (fun v h L => v = some (.int 1) ∧ Fr n0 L) := by
  refine metOf (by first | exact plainFor_of_name (by first | (simp [plainName, overriddenIn]; done) | decide +kernel) | decide +kernel) ?_
  intro p e s m below meth c s₁ hx hby hml hown hnm hret hlk hZ X0 e0
  have hown : s.vm.findClass "oakwell/vm/InstructionNarrowPinLaw" = some m.cls := hown
  have hml : c.maxLocals = 11 := hml
  obtain ⟨K, hK⟩ : ∃ K, K = KQ s (fun v h L => v = some (.int 1) ∧ Fr n0 L) (room_1).cells (room_1).slots := ⟨_, rfl⟩
  show Go p e below (KQ s (fun v h L => v = some (.int 1) ∧ Fr n0 L) (room_1).cells (room_1).slots) s₁ (entryFrame m #[(.int p1), (.int p2), (.long p3)] maxLocals)
  rw [← hK, ef_rm0 m p1 p2 p3]
  show Go p e below _ s₁ (mkF m 0 #[.val (.int p1), .val (.int p2), .val (.long p3), .second, .unset, .unset, .unset, .unset, .unset, .unset, .unset] [])
  refine Go.to (fun _ => XS.bipush X0.here hx rfl (hb hby at_0)) ?_
  show Go p e below _ s₁ (mkF m 2 #[.val (.int p1), .val (.int p2), .val (.long p3), .second, .unset, .unset, .unset, .unset, .unset, .unset, .unset] [(.int (10 : Int32))])
  refine Go.newC X0 hx hZ (hw _ (List.mem_of_getElem? (i := 0) rfl)) e0 (hb hby at_2) (by decide) (cap := 10) (by decide) (by decide) (by decide) (by decide) ?_
  intro T1 h1 b1 X1 e1 E1 g1 A1
  have A1 : AV Z h1 b1 .char [(0 : Int32), (0 : Int32), (0 : Int32), (0 : Int32), (0 : Int32), (0 : Int32), (0 : Int32), (0 : Int32), (0 : Int32), (0 : Int32)] := by
    have q : List.replicate ((10 : Int32)).toNatClampNeg (0 : Int32) = [(0 : Int32), (0 : Int32), (0 : Int32), (0 : Int32), (0 : Int32), (0 : Int32), (0 : Int32), (0 : Int32), (0 : Int32), (0 : Int32)] := by decide +kernel
    rw [q] at A1; exact A1
  have hg1 : n0 ≤ b1 := by rw [g1]; exact Z0
  show Go p e below _ T1 (mkF m 4 #[.val (.int p1), .val (.int p2), .val (.long p3), .second, .unset, .unset, .unset, .unset, .unset, .unset, .unset] [(.ref b1)])
  refine Go.to (fun _ => XS.dup X1.here hx rfl (hb hby at_4) rfl rfl) ?_
  show Go p e below _ T1 (mkF m 5 #[.val (.int p1), .val (.int p2), .val (.long p3), .second, .unset, .unset, .unset, .unset, .unset, .unset, .unset] [(.ref b1), (.ref b1)])
  refine Go.to (fun _ => XS.iconst X1.here hx rfl (hb hby at_5)) ?_
  show Go p e below _ T1 (mkF m 6 #[.val (.int p1), .val (.int p2), .val (.long p3), .second, .unset, .unset, .unset, .unset, .unset, .unset, .unset] [(.int (0 : Int32)), (.ref b1), (.ref b1)])
  refine Go.to (fun _ => XS.bipush X1.here hx rfl (hb hby at_6)) ?_
  show Go p e below _ T1 (mkF m 8 #[.val (.int p1), .val (.int p2), .val (.long p3), .second, .unset, .unset, .unset, .unset, .unset, .unset, .unset] [(.int (90 : Int32)), (.int (0 : Int32)), (.ref b1), (.ref b1)])
  refine Go.castore X1 hx hZ e1 A1 (by decide +kernel : rdL [(0 : Int32), (0 : Int32), (0 : Int32), (0 : Int32), (0 : Int32), (0 : Int32), (0 : Int32), (0 : Int32), (0 : Int32), (0 : Int32)] (0 : Int32) = some (0 : Int32)) (by decide +kernel) (hb hby at_8) ?_
  intro T2 h2 X2 e2 W2 A2
  have A2 : AV Z h2 b1 .char [(90 : Int32), (0 : Int32), (0 : Int32), (0 : Int32), (0 : Int32), (0 : Int32), (0 : Int32), (0 : Int32), (0 : Int32), (0 : Int32)] := by
    have q : wrL [(0 : Int32), (0 : Int32), (0 : Int32), (0 : Int32), (0 : Int32), (0 : Int32), (0 : Int32), (0 : Int32), (0 : Int32), (0 : Int32)] (0 : Int32) (90 : Int32) = [(90 : Int32), (0 : Int32), (0 : Int32), (0 : Int32), (0 : Int32), (0 : Int32), (0 : Int32), (0 : Int32), (0 : Int32), (0 : Int32)] := by decide +kernel
    rw [q] at A2; exact A2
  have N2 := frOne (n := ((0 : Int32)).toNatClampNeg) (Fr.nil n0) hg1
  show Go p e below _ T2 (mkF m 9 #[.val (.int p1), .val (.int p2), .val (.long p3), .second, .unset, .unset, .unset, .unset, .unset, .unset, .unset] [(.ref b1)])
  refine Go.to (fun _ => XS.dup X2.here hx rfl (hb hby at_9) rfl rfl) ?_
  show Go p e below _ T2 (mkF m 10 #[.val (.int p1), .val (.int p2), .val (.long p3), .second, .unset, .unset, .unset, .unset, .unset, .unset, .unset] [(.ref b1), (.ref b1)])
  refine Go.to (fun _ => XS.iconst X2.here hx rfl (hb hby at_10)) ?_
  show Go p e below _ T2 (mkF m 11 #[.val (.int p1), .val (.int p2), .val (.long p3), .second, .unset, .unset, .unset, .unset, .unset, .unset, .unset] [(.int (1 : Int32)), (.ref b1), (.ref b1)])
  refine Go.to (fun _ => XS.bipush X2.here hx rfl (hb hby at_11)) ?_
  show Go p e below _ T2 (mkF m 13 #[.val (.int p1), .val (.int p2), .val (.long p3), .second, .unset, .unset, .unset, .unset, .unset, .unset, .unset] [(.int (66 : Int32)), (.int (1 : Int32)), (.ref b1), (.ref b1)])
  refine Go.castore X2 hx hZ e2 A2 (by decide +kernel : rdL [(90 : Int32), (0 : Int32), (0 : Int32), (0 : Int32), (0 : Int32), (0 : Int32), (0 : Int32), (0 : Int32), (0 : Int32), (0 : Int32)] (1 : Int32) = some (0 : Int32)) (by decide +kernel) (hb hby at_13) ?_
  intro T3 h3 X3 e3 W3 A3
  have A3 : AV Z h3 b1 .char [(90 : Int32), (66 : Int32), (0 : Int32), (0 : Int32), (0 : Int32), (0 : Int32), (0 : Int32), (0 : Int32), (0 : Int32), (0 : Int32)] := by
    have q : wrL [(90 : Int32), (0 : Int32), (0 : Int32), (0 : Int32), (0 : Int32), (0 : Int32), (0 : Int32), (0 : Int32), (0 : Int32), (0 : Int32)] (1 : Int32) (66 : Int32) = [(90 : Int32), (66 : Int32), (0 : Int32), (0 : Int32), (0 : Int32), (0 : Int32), (0 : Int32), (0 : Int32), (0 : Int32), (0 : Int32)] := by decide +kernel
    rw [q] at A3; exact A3
  have N3 := frOne (n := ((1 : Int32)).toNatClampNeg) N2 hg1
  show Go p e below _ T3 (mkF m 14 #[.val (.int p1), .val (.int p2), .val (.long p3), .second, .unset, .unset, .unset, .unset, .unset, .unset, .unset] [(.ref b1)])
  refine Go.to (fun _ => XS.dup X3.here hx rfl (hb hby at_14) rfl rfl) ?_
  show Go p e below _ T3 (mkF m 15 #[.val (.int p1), .val (.int p2), .val (.long p3), .second, .unset, .unset, .unset, .unset, .unset, .unset, .unset] [(.ref b1), (.ref b1)])
  refine Go.to (fun _ => XS.iconst X3.here hx rfl (hb hby at_15)) ?_
  show Go p e below _ T3 (mkF m 16 #[.val (.int p1), .val (.int p2), .val (.long p3), .second, .unset, .unset, .unset, .unset, .unset, .unset, .unset] [(.int (2 : Int32)), (.ref b1), (.ref b1)])
  refine Go.to (fun _ => XS.bipush X3.here hx rfl (hb hby at_16)) ?_
  show Go p e below _ T3 (mkF m 18 #[.val (.int p1), .val (.int p2), .val (.long p3), .second, .unset, .unset, .unset, .unset, .unset, .unset, .unset] [(.int (67 : Int32)), (.int (2 : Int32)), (.ref b1), (.ref b1)])
  refine Go.castore X3 hx hZ e3 A3 (by decide +kernel : rdL [(90 : Int32), (66 : Int32), (0 : Int32), (0 : Int32), (0 : Int32), (0 : Int32), (0 : Int32), (0 : Int32), (0 : Int32), (0 : Int32)] (2 : Int32) = some (0 : Int32)) (by decide +kernel) (hb hby at_18) ?_
  intro T4 h4 X4 e4 W4 A4
  have A4 : AV Z h4 b1 .char [(90 : Int32), (66 : Int32), (67 : Int32), (0 : Int32), (0 : Int32), (0 : Int32), (0 : Int32), (0 : Int32), (0 : Int32), (0 : Int32)] := by
    have q : wrL [(90 : Int32), (66 : Int32), (0 : Int32), (0 : Int32), (0 : Int32), (0 : Int32), (0 : Int32), (0 : Int32), (0 : Int32), (0 : Int32)] (2 : Int32) (67 : Int32) = [(90 : Int32), (66 : Int32), (67 : Int32), (0 : Int32), (0 : Int32), (0 : Int32), (0 : Int32), (0 : Int32), (0 : Int32), (0 : Int32)] := by decide +kernel
    rw [q] at A4; exact A4
  have N4 := frOne (n := ((2 : Int32)).toNatClampNeg) N3 hg1
  show Go p e below _ T4 (mkF m 19 #[.val (.int p1), .val (.int p2), .val (.long p3), .second, .unset, .unset, .unset, .unset, .unset, .unset, .unset] [(.ref b1)])
  refine Go.to (fun _ => XS.dup X4.here hx rfl (hb hby at_19) rfl rfl) ?_
  show Go p e below _ T4 (mkF m 20 #[.val (.int p1), .val (.int p2), .val (.long p3), .second, .unset, .unset, .unset, .unset, .unset, .unset, .unset] [(.ref b1), (.ref b1)])
  refine Go.to (fun _ => XS.iconst X4.here hx rfl (hb hby at_20)) ?_
  show Go p e below _ T4 (mkF m 21 #[.val (.int p1), .val (.int p2), .val (.long p3), .second, .unset, .unset, .unset, .unset, .unset, .unset, .unset] [(.int (3 : Int32)), (.ref b1), (.ref b1)])
  refine Go.to (fun _ => XS.bipush X4.here hx rfl (hb hby at_21)) ?_
  show Go p e below _ T4 (mkF m 23 #[.val (.int p1), .val (.int p2), .val (.long p3), .second, .unset, .unset, .unset, .unset, .unset, .unset, .unset] [(.int (83 : Int32)), (.int (3 : Int32)), (.ref b1), (.ref b1)])
  refine Go.castore X4 hx hZ e4 A4 (by decide +kernel : rdL [(90 : Int32), (66 : Int32), (67 : Int32), (0 : Int32), (0 : Int32), (0 : Int32), (0 : Int32), (0 : Int32), (0 : Int32), (0 : Int32)] (3 : Int32) = some (0 : Int32)) (by decide +kernel) (hb hby at_23) ?_
  intro T5 h5 X5 e5 W5 A5
  have A5 : AV Z h5 b1 .char [(90 : Int32), (66 : Int32), (67 : Int32), (83 : Int32), (0 : Int32), (0 : Int32), (0 : Int32), (0 : Int32), (0 : Int32), (0 : Int32)] := by
    have q : wrL [(90 : Int32), (66 : Int32), (67 : Int32), (0 : Int32), (0 : Int32), (0 : Int32), (0 : Int32), (0 : Int32), (0 : Int32), (0 : Int32)] (3 : Int32) (83 : Int32) = [(90 : Int32), (66 : Int32), (67 : Int32), (83 : Int32), (0 : Int32), (0 : Int32), (0 : Int32), (0 : Int32), (0 : Int32), (0 : Int32)] := by decide +kernel
    rw [q] at A5; exact A5
  have N5 := frOne (n := ((3 : Int32)).toNatClampNeg) N4 hg1
  show Go p e below _ T5 (mkF m 24 #[.val (.int p1), .val (.int p2), .val (.long p3), .second, .unset, .unset, .unset, .unset, .unset, .unset, .unset] [(.ref b1)])
  refine Go.to (fun _ => XS.dup X5.here hx rfl (hb hby at_24) rfl rfl) ?_
  show Go p e below _ T5 (mkF m 25 #[.val (.int p1), .val (.int p2), .val (.long p3), .second, .unset, .unset, .unset, .unset, .unset, .unset, .unset] [(.ref b1), (.ref b1)])
  refine Go.to (fun _ => XS.iconst X5.here hx rfl (hb hby at_25)) ?_
  show Go p e below _ T5 (mkF m 26 #[.val (.int p1), .val (.int p2), .val (.long p3), .second, .unset, .unset, .unset, .unset, .unset, .unset, .unset] [(.int (4 : Int32)), (.ref b1), (.ref b1)])
  refine Go.to (fun _ => XS.bipush X5.here hx rfl (hb hby at_26)) ?_
  show Go p e below _ T5 (mkF m 28 #[.val (.int p1), .val (.int p2), .val (.long p3), .second, .unset, .unset, .unset, .unset, .unset, .unset, .unset] [(.int (73 : Int32)), (.int (4 : Int32)), (.ref b1), (.ref b1)])
  refine Go.castore X5 hx hZ e5 A5 (by decide +kernel : rdL [(90 : Int32), (66 : Int32), (67 : Int32), (83 : Int32), (0 : Int32), (0 : Int32), (0 : Int32), (0 : Int32), (0 : Int32), (0 : Int32)] (4 : Int32) = some (0 : Int32)) (by decide +kernel) (hb hby at_28) ?_
  intro T6 h6 X6 e6 W6 A6
  have A6 : AV Z h6 b1 .char [(90 : Int32), (66 : Int32), (67 : Int32), (83 : Int32), (73 : Int32), (0 : Int32), (0 : Int32), (0 : Int32), (0 : Int32), (0 : Int32)] := by
    have q : wrL [(90 : Int32), (66 : Int32), (67 : Int32), (83 : Int32), (0 : Int32), (0 : Int32), (0 : Int32), (0 : Int32), (0 : Int32), (0 : Int32)] (4 : Int32) (73 : Int32) = [(90 : Int32), (66 : Int32), (67 : Int32), (83 : Int32), (73 : Int32), (0 : Int32), (0 : Int32), (0 : Int32), (0 : Int32), (0 : Int32)] := by decide +kernel
    rw [q] at A6; exact A6
  have N6 := frOne (n := ((4 : Int32)).toNatClampNeg) N5 hg1
  show Go p e below _ T6 (mkF m 29 #[.val (.int p1), .val (.int p2), .val (.long p3), .second, .unset, .unset, .unset, .unset, .unset, .unset, .unset] [(.ref b1)])
  refine Go.to (fun _ => XS.dup X6.here hx rfl (hb hby at_29) rfl rfl) ?_
  show Go p e below _ T6 (mkF m 30 #[.val (.int p1), .val (.int p2), .val (.long p3), .second, .unset, .unset, .unset, .unset, .unset, .unset, .unset] [(.ref b1), (.ref b1)])
  refine Go.to (fun _ => XS.iconst X6.here hx rfl (hb hby at_30)) ?_
  show Go p e below _ T6 (mkF m 31 #[.val (.int p1), .val (.int p2), .val (.long p3), .second, .unset, .unset, .unset, .unset, .unset, .unset, .unset] [(.int (5 : Int32)), (.ref b1), (.ref b1)])
  refine Go.to (fun _ => XS.bipush X6.here hx rfl (hb hby at_31)) ?_
  show Go p e below _ T6 (mkF m 33 #[.val (.int p1), .val (.int p2), .val (.long p3), .second, .unset, .unset, .unset, .unset, .unset, .unset, .unset] [(.int (74 : Int32)), (.int (5 : Int32)), (.ref b1), (.ref b1)])
  refine Go.castore X6 hx hZ e6 A6 (by decide +kernel : rdL [(90 : Int32), (66 : Int32), (67 : Int32), (83 : Int32), (73 : Int32), (0 : Int32), (0 : Int32), (0 : Int32), (0 : Int32), (0 : Int32)] (5 : Int32) = some (0 : Int32)) (by decide +kernel) (hb hby at_33) ?_
  intro T7 h7 X7 e7 W7 A7
  have A7 : AV Z h7 b1 .char [(90 : Int32), (66 : Int32), (67 : Int32), (83 : Int32), (73 : Int32), (74 : Int32), (0 : Int32), (0 : Int32), (0 : Int32), (0 : Int32)] := by
    have q : wrL [(90 : Int32), (66 : Int32), (67 : Int32), (83 : Int32), (73 : Int32), (0 : Int32), (0 : Int32), (0 : Int32), (0 : Int32), (0 : Int32)] (5 : Int32) (74 : Int32) = [(90 : Int32), (66 : Int32), (67 : Int32), (83 : Int32), (73 : Int32), (74 : Int32), (0 : Int32), (0 : Int32), (0 : Int32), (0 : Int32)] := by decide +kernel
    rw [q] at A7; exact A7
  have N7 := frOne (n := ((5 : Int32)).toNatClampNeg) N6 hg1
  show Go p e below _ T7 (mkF m 34 #[.val (.int p1), .val (.int p2), .val (.long p3), .second, .unset, .unset, .unset, .unset, .unset, .unset, .unset] [(.ref b1)])
  refine Go.to (fun _ => XS.dup X7.here hx rfl (hb hby at_34) rfl rfl) ?_
  show Go p e below _ T7 (mkF m 35 #[.val (.int p1), .val (.int p2), .val (.long p3), .second, .unset, .unset, .unset, .unset, .unset, .unset, .unset] [(.ref b1), (.ref b1)])
  refine Go.to (fun _ => XS.bipush X7.here hx rfl (hb hby at_35)) ?_
  show Go p e below _ T7 (mkF m 37 #[.val (.int p1), .val (.int p2), .val (.long p3), .second, .unset, .unset, .unset, .unset, .unset, .unset, .unset] [(.int (6 : Int32)), (.ref b1), (.ref b1)])
  refine Go.to (fun _ => XS.bipush X7.here hx rfl (hb hby at_37)) ?_
  show Go p e below _ T7 (mkF m 39 #[.val (.int p1), .val (.int p2), .val (.long p3), .second, .unset, .unset, .unset, .unset, .unset, .unset, .unset] [(.int (70 : Int32)), (.int (6 : Int32)), (.ref b1), (.ref b1)])
  refine Go.castore X7 hx hZ e7 A7 (by decide +kernel : rdL [(90 : Int32), (66 : Int32), (67 : Int32), (83 : Int32), (73 : Int32), (74 : Int32), (0 : Int32), (0 : Int32), (0 : Int32), (0 : Int32)] (6 : Int32) = some (0 : Int32)) (by decide +kernel) (hb hby at_39) ?_
  intro T8 h8 X8 e8 W8 A8
  have A8 : AV Z h8 b1 .char [(90 : Int32), (66 : Int32), (67 : Int32), (83 : Int32), (73 : Int32), (74 : Int32), (70 : Int32), (0 : Int32), (0 : Int32), (0 : Int32)] := by
    have q : wrL [(90 : Int32), (66 : Int32), (67 : Int32), (83 : Int32), (73 : Int32), (74 : Int32), (0 : Int32), (0 : Int32), (0 : Int32), (0 : Int32)] (6 : Int32) (70 : Int32) = [(90 : Int32), (66 : Int32), (67 : Int32), (83 : Int32), (73 : Int32), (74 : Int32), (70 : Int32), (0 : Int32), (0 : Int32), (0 : Int32)] := by decide +kernel
    rw [q] at A8; exact A8
  have N8 := frOne (n := ((6 : Int32)).toNatClampNeg) N7 hg1
  show Go p e below _ T8 (mkF m 40 #[.val (.int p1), .val (.int p2), .val (.long p3), .second, .unset, .unset, .unset, .unset, .unset, .unset, .unset] [(.ref b1)])
  refine Go.to (fun _ => XS.dup X8.here hx rfl (hb hby at_40) rfl rfl) ?_
  show Go p e below _ T8 (mkF m 41 #[.val (.int p1), .val (.int p2), .val (.long p3), .second, .unset, .unset, .unset, .unset, .unset, .unset, .unset] [(.ref b1), (.ref b1)])
  refine Go.to (fun _ => XS.bipush X8.here hx rfl (hb hby at_41)) ?_
  show Go p e below _ T8 (mkF m 43 #[.val (.int p1), .val (.int p2), .val (.long p3), .second, .unset, .unset, .unset, .unset, .unset, .unset, .unset] [(.int (7 : Int32)), (.ref b1), (.ref b1)])
  refine Go.to (fun _ => XS.bipush X8.here hx rfl (hb hby at_43)) ?_
  show Go p e below _ T8 (mkF m 45 #[.val (.int p1), .val (.int p2), .val (.long p3), .second, .unset, .unset, .unset, .unset, .unset, .unset, .unset] [(.int (68 : Int32)), (.int (7 : Int32)), (.ref b1), (.ref b1)])
  refine Go.castore X8 hx hZ e8 A8 (by decide +kernel : rdL [(90 : Int32), (66 : Int32), (67 : Int32), (83 : Int32), (73 : Int32), (74 : Int32), (70 : Int32), (0 : Int32), (0 : Int32), (0 : Int32)] (7 : Int32) = some (0 : Int32)) (by decide +kernel) (hb hby at_45) ?_
  intro T9 h9 X9 e9 W9 A9
  have A9 : AV Z h9 b1 .char [(90 : Int32), (66 : Int32), (67 : Int32), (83 : Int32), (73 : Int32), (74 : Int32), (70 : Int32), (68 : Int32), (0 : Int32), (0 : Int32)] := by
    have q : wrL [(90 : Int32), (66 : Int32), (67 : Int32), (83 : Int32), (73 : Int32), (74 : Int32), (70 : Int32), (0 : Int32), (0 : Int32), (0 : Int32)] (7 : Int32) (68 : Int32) = [(90 : Int32), (66 : Int32), (67 : Int32), (83 : Int32), (73 : Int32), (74 : Int32), (70 : Int32), (68 : Int32), (0 : Int32), (0 : Int32)] := by decide +kernel
    rw [q] at A9; exact A9
  have N9 := frOne (n := ((7 : Int32)).toNatClampNeg) N8 hg1
  show Go p e below _ T9 (mkF m 46 #[.val (.int p1), .val (.int p2), .val (.long p3), .second, .unset, .unset, .unset, .unset, .unset, .unset, .unset] [(.ref b1)])
  refine Go.to (fun _ => XS.dup X9.here hx rfl (hb hby at_46) rfl rfl) ?_
  show Go p e below _ T9 (mkF m 47 #[.val (.int p1), .val (.int p2), .val (.long p3), .second, .unset, .unset, .unset, .unset, .unset, .unset, .unset] [(.ref b1), (.ref b1)])
  refine Go.to (fun _ => XS.bipush X9.here hx rfl (hb hby at_47)) ?_
  show Go p e below _ T9 (mkF m 49 #[.val (.int p1), .val (.int p2), .val (.long p3), .second, .unset, .unset, .unset, .unset, .unset, .unset, .unset] [(.int (8 : Int32)), (.ref b1), (.ref b1)])
  refine Go.to (fun _ => XS.bipush X9.here hx rfl (hb hby at_49)) ?_
  show Go p e below _ T9 (mkF m 51 #[.val (.int p1), .val (.int p2), .val (.long p3), .second, .unset, .unset, .unset, .unset, .unset, .unset, .unset] [(.int (76 : Int32)), (.int (8 : Int32)), (.ref b1), (.ref b1)])
  refine Go.castore X9 hx hZ e9 A9 (by decide +kernel : rdL [(90 : Int32), (66 : Int32), (67 : Int32), (83 : Int32), (73 : Int32), (74 : Int32), (70 : Int32), (68 : Int32), (0 : Int32), (0 : Int32)] (8 : Int32) = some (0 : Int32)) (by decide +kernel) (hb hby at_51) ?_
  intro T10 h10 X10 e10 W10 A10
  have A10 : AV Z h10 b1 .char [(90 : Int32), (66 : Int32), (67 : Int32), (83 : Int32), (73 : Int32), (74 : Int32), (70 : Int32), (68 : Int32), (76 : Int32), (0 : Int32)] := by
    have q : wrL [(90 : Int32), (66 : Int32), (67 : Int32), (83 : Int32), (73 : Int32), (74 : Int32), (70 : Int32), (68 : Int32), (0 : Int32), (0 : Int32)] (8 : Int32) (76 : Int32) = [(90 : Int32), (66 : Int32), (67 : Int32), (83 : Int32), (73 : Int32), (74 : Int32), (70 : Int32), (68 : Int32), (76 : Int32), (0 : Int32)] := by decide +kernel
    rw [q] at A10; exact A10
  have N10 := frOne (n := ((8 : Int32)).toNatClampNeg) N9 hg1
  show Go p e below _ T10 (mkF m 52 #[.val (.int p1), .val (.int p2), .val (.long p3), .second, .unset, .unset, .unset, .unset, .unset, .unset, .unset] [(.ref b1)])
  refine Go.to (fun _ => XS.dup X10.here hx rfl (hb hby at_52) rfl rfl) ?_
  show Go p e below _ T10 (mkF m 53 #[.val (.int p1), .val (.int p2), .val (.long p3), .second, .unset, .unset, .unset, .unset, .unset, .unset, .unset] [(.ref b1), (.ref b1)])
  refine Go.to (fun _ => XS.bipush X10.here hx rfl (hb hby at_53)) ?_
  show Go p e below _ T10 (mkF m 55 #[.val (.int p1), .val (.int p2), .val (.long p3), .second, .unset, .unset, .unset, .unset, .unset, .unset, .unset] [(.int (9 : Int32)), (.ref b1), (.ref b1)])
  refine Go.to (fun _ => XS.bipush X10.here hx rfl (hb hby at_55)) ?_
  show Go p e below _ T10 (mkF m 57 #[.val (.int p1), .val (.int p2), .val (.long p3), .second, .unset, .unset, .unset, .unset, .unset, .unset, .unset] [(.int (91 : Int32)), (.int (9 : Int32)), (.ref b1), (.ref b1)])
  refine Go.castore X10 hx hZ e10 A10 (by decide +kernel : rdL [(90 : Int32), (66 : Int32), (67 : Int32), (83 : Int32), (73 : Int32), (74 : Int32), (70 : Int32), (68 : Int32), (76 : Int32), (0 : Int32)] (9 : Int32) = some (0 : Int32)) (by decide +kernel) (hb hby at_57) ?_
  intro T11 h11 X11 e11 W11 A11
  have A11 : AV Z h11 b1 .char [(90 : Int32), (66 : Int32), (67 : Int32), (83 : Int32), (73 : Int32), (74 : Int32), (70 : Int32), (68 : Int32), (76 : Int32), (91 : Int32)] := by
    have q : wrL [(90 : Int32), (66 : Int32), (67 : Int32), (83 : Int32), (73 : Int32), (74 : Int32), (70 : Int32), (68 : Int32), (76 : Int32), (0 : Int32)] (9 : Int32) (91 : Int32) = [(90 : Int32), (66 : Int32), (67 : Int32), (83 : Int32), (73 : Int32), (74 : Int32), (70 : Int32), (68 : Int32), (76 : Int32), (91 : Int32)] := by decide +kernel
    rw [q] at A11; exact A11
  have N11 := frOne (n := ((9 : Int32)).toNatClampNeg) N10 hg1
  show Go p e below _ T11 (mkF m 58 #[.val (.int p1), .val (.int p2), .val (.long p3), .second, .unset, .unset, .unset, .unset, .unset, .unset, .unset] [(.ref b1)])
  refine Go.to (fun _ => XS.astore X11.here hx rfl (hb hby at_58) rfl rfl (l' := #[.val (.int p1), .val (.int p2), .val (.long p3), .second, .val (.ref b1), .unset, .unset, .unset, .unset, .unset, .unset]) rfl) ?_
  show Go p e below _ T11 (mkF m 60 #[.val (.int p1), .val (.int p2), .val (.long p3), .second, .val (.ref b1), .unset, .unset, .unset, .unset, .unset, .unset] [])
  refine Go.to (fun _ => XS.iloadN X11.here hx rfl (hb hby at_60) rfl) ?_
  show Go p e below _ T11 (mkF m 61 #[.val (.int p1), .val (.int p2), .val (.long p3), .second, .val (.ref b1), .unset, .unset, .unset, .unset, .unset, .unset] [(.int p1)])
  refine Go.to (fun _ => XS.bipush X11.here hx rfl (hb hby at_61)) ?_
  show Go p e below _ T11 (mkF m 63 #[.val (.int p1), .val (.int p2), .val (.long p3), .second, .val (.ref b1), .unset, .unset, .unset, .unset, .unset, .unset] [(.int (15 : Int32)), (.int p1)])
  refine Go.to (fun _ => XS.iand X11.here hx rfl (hb hby at_63) rfl) ?_
  show Go p e below _ T11 (mkF m 64 #[.val (.int p1), .val (.int p2), .val (.long p3), .second, .val (.ref b1), .unset, .unset, .unset, .unset, .unset, .unset] [(.int (p1 &&& (15 : Int32)))])
  refine Go.to (fun _ => XS.istore X11.here hx rfl (hb hby at_64) rfl (l' := #[.val (.int p1), .val (.int p2), .val (.long p3), .second, .val (.ref b1), .val (.int (p1 &&& (15 : Int32))), .unset, .unset, .unset, .unset, .unset]) rfl) ?_
  show Go p e below _ T11 (mkF m 66 #[.val (.int p1), .val (.int p2), .val (.long p3), .second, .val (.ref b1), .val (.int (p1 &&& (15 : Int32))), .unset, .unset, .unset, .unset, .unset] [])
  have hj12 : (∀ zc : Int32, zc = (if (p1 &&& (15 : Int32)) < (10 : Int32) then (own_ch (p1 &&& (15 : Int32))) else (p2.toUInt32.toUInt16.toUInt32.toInt32)) → Go p e below K T11 (mkF m 87 #[.val (.int p1), .val (.int p2), .val (.long p3), .second, .val (.ref b1), .val (.int (p1 &&& (15 : Int32))), .val (.int zc), .unset, .unset, .unset, .unset] [])) → Go p e below K T11 (mkF m 66 #[.val (.int p1), .val (.int p2), .val (.long p3), .second, .val (.ref b1), .val (.int (p1 &&& (15 : Int32))), .unset, .unset, .unset, .unset, .unset] []) := by
    intro k
    refine Go.to (fun _ => XS.iload X11.here hx rfl (hb hby at_66) rfl) ?_
    show Go p e below _ T11 (mkF m 68 #[.val (.int p1), .val (.int p2), .val (.long p3), .second, .val (.ref b1), .val (.int (p1 &&& (15 : Int32))), .unset, .unset, .unset, .unset, .unset] [(.int (p1 &&& (15 : Int32)))])
    refine Go.to (fun _ => XS.bipush X11.here hx rfl (hb hby at_68)) ?_
    show Go p e below _ T11 (mkF m 70 #[.val (.int p1), .val (.int p2), .val (.long p3), .second, .val (.ref b1), .val (.int (p1 &&& (15 : Int32))), .unset, .unset, .unset, .unset, .unset] [(.int (10 : Int32)), (.int (p1 &&& (15 : Int32)))])
    by_cases hc1 : (p1 &&& (15 : Int32)) < (10 : Int32)
    · refine Go.to (fun _ => XS.icmpNo X11.here hx rfl (hb hby at_70) rfl (tlt hc1).2.1) ?_
      show Go p e below _ T11 (mkF m 73 #[.val (.int p1), .val (.int p2), .val (.long p3), .second, .val (.ref b1), .val (.int (p1 &&& (15 : Int32))), .unset, .unset, .unset, .unset, .unset] [])
      refine Go.to (fun _ => XS.aload X11.here hx rfl (hb hby at_73) rfl rfl) ?_
      show Go p e below _ T11 (mkF m 75 #[.val (.int p1), .val (.int p2), .val (.long p3), .second, .val (.ref b1), .val (.int (p1 &&& (15 : Int32))), .unset, .unset, .unset, .unset, .unset] [(.ref b1)])
      refine Go.to (fun _ => XS.iload X11.here hx rfl (hb hby at_75) rfl) ?_
      show Go p e below _ T11 (mkF m 77 #[.val (.int p1), .val (.int p2), .val (.long p3), .second, .val (.ref b1), .val (.int (p1 &&& (15 : Int32))), .unset, .unset, .unset, .unset, .unset] [(.int (p1 &&& (15 : Int32))), (.ref b1)])
      refine Go.caload X11 hx hZ e11 A11 (own_rd (own_idx p1 hc1).1 (own_idx p1 hc1).2) (hb hby at_77) ?_
      show Go p e below _ T11 (mkF m 78 #[.val (.int p1), .val (.int p2), .val (.long p3), .second, .val (.ref b1), .val (.int (p1 &&& (15 : Int32))), .unset, .unset, .unset, .unset, .unset] [(.int (own_ch (p1 &&& (15 : Int32))))])
      refine Go.to (fun _ => XS.istore X11.here hx rfl (hb hby at_78) rfl (l' := #[.val (.int p1), .val (.int p2), .val (.long p3), .second, .val (.ref b1), .val (.int (p1 &&& (15 : Int32))), .val (.int (own_ch (p1 &&& (15 : Int32)))), .unset, .unset, .unset, .unset]) rfl) ?_
      show Go p e below _ T11 (mkF m 80 #[.val (.int p1), .val (.int p2), .val (.long p3), .second, .val (.ref b1), .val (.int (p1 &&& (15 : Int32))), .val (.int (own_ch (p1 &&& (15 : Int32)))), .unset, .unset, .unset, .unset] [])
      refine Go.to (fun _ => XS.goto X11.here hx rfl (pc0 := 80) (pc' := 87) rfl (hb hby at_80) (by decide) (by decide)) ?_
      show Go p e below _ T11 (mkF m 87 #[.val (.int p1), .val (.int p2), .val (.long p3), .second, .val (.ref b1), .val (.int (p1 &&& (15 : Int32))), .val (.int (own_ch (p1 &&& (15 : Int32)))), .unset, .unset, .unset, .unset] [])
      exact k (own_ch (p1 &&& (15 : Int32))) (by rw [if_pos hc1])
    · refine Go.to (fun _ => XS.icmpYes X11.here hx rfl (pc0 := 70) (pc' := 83) rfl (hb hby at_70) rfl (flt hc1).2.1 (by decide) (by decide)) ?_
      show Go p e below _ T11 (mkF m 83 #[.val (.int p1), .val (.int p2), .val (.long p3), .second, .val (.ref b1), .val (.int (p1 &&& (15 : Int32))), .unset, .unset, .unset, .unset, .unset] [])
      refine Go.to (fun _ => XS.iloadN X11.here hx rfl (hb hby at_83) rfl) ?_
      show Go p e below _ T11 (mkF m 84 #[.val (.int p1), .val (.int p2), .val (.long p3), .second, .val (.ref b1), .val (.int (p1 &&& (15 : Int32))), .unset, .unset, .unset, .unset, .unset] [(.int p2)])
      refine Go.to (fun _ => XS.i2c X11.here hx rfl (hb hby at_84) rfl) ?_
      show Go p e below _ T11 (mkF m 85 #[.val (.int p1), .val (.int p2), .val (.long p3), .second, .val (.ref b1), .val (.int (p1 &&& (15 : Int32))), .unset, .unset, .unset, .unset, .unset] [(.int (p2.toUInt32.toUInt16.toUInt32.toInt32))])
      refine Go.to (fun _ => XS.istore X11.here hx rfl (hb hby at_85) rfl (l' := #[.val (.int p1), .val (.int p2), .val (.long p3), .second, .val (.ref b1), .val (.int (p1 &&& (15 : Int32))), .val (.int (p2.toUInt32.toUInt16.toUInt32.toInt32)), .unset, .unset, .unset, .unset]) rfl) ?_
      show Go p e below _ T11 (mkF m 87 #[.val (.int p1), .val (.int p2), .val (.long p3), .second, .val (.ref b1), .val (.int (p1 &&& (15 : Int32))), .val (.int (p2.toUInt32.toUInt16.toUInt32.toInt32)), .unset, .unset, .unset, .unset] [])
      exact k (p2.toUInt32.toUInt16.toUInt32.toInt32) (by rw [if_neg hc1])
  refine hj12 (fun zc hzc => ?_)
  clear hj12
  refine Go.to (fun _ => XS.iload X11.here hx rfl (hb hby at_87) rfl) ?_
  show Go p e below _ T11 (mkF m 89 #[.val (.int p1), .val (.int p2), .val (.long p3), .second, .val (.ref b1), .val (.int (p1 &&& (15 : Int32))), .val (.int zc), .unset, .unset, .unset, .unset] [(.int zc)])
  refine Go.to (fun _ => XS.lloadN X11.here hx rfl (hb hby at_89) rfl) ?_
  show Go p e below _ T11 (mkF m 90 #[.val (.int p1), .val (.int p2), .val (.long p3), .second, .val (.ref b1), .val (.int (p1 &&& (15 : Int32))), .val (.int zc), .unset, .unset, .unset, .unset] [(.long p3), (.int zc)])
  refine Go.callS (y := (⟨"oakwell/vm/Instruction", "narrow", "(CJ)J"⟩ : MethodName)) X11 hx hZ hown (hw _ (List.mem_of_getElem? (i := 1) rfl)) (hw _ (List.mem_of_getElem? (i := 2) rfl)) (hw _ (List.mem_of_getElem? (i := 3) rfl)) (hw _ (List.mem_of_getElem? (i := 4) rfl)) (by decide) (rm1 l Z a0 hw [] zc p3 h11) e11 (by rw [hml]; rfl) (pd_0) rfl (argsL := [(.int zc), (.long p3)]) (rest := []) rfl rfl (hb hby at_90) (by decide) (Nat.le_of_ble_eq_true rfl) (by decide) (by decide) ?_
  rintro T13 _ L13 X13 ⟨rfl, e13, rfl⟩
  simp only [List.append_nil] at X13
  show Go p e below _ T13 (mkF m 93 #[.val (.int p1), .val (.int p2), .val (.long p3), .second, .val (.ref b1), .val (.int (p1 &&& (15 : Int32))), .val (.int zc), .unset, .unset, .unset, .unset] [(.long (fA zc p3))])
  refine Go.to (fun _ => XS.lstore X13.here hx rfl (hb hby at_93) rfl (l' := #[.val (.int p1), .val (.int p2), .val (.long p3), .second, .val (.ref b1), .val (.int (p1 &&& (15 : Int32))), .val (.int zc), .val (.long (fA zc p3)), .second, .unset, .unset]) rfl) ?_
  show Go p e below _ T13 (mkF m 95 #[.val (.int p1), .val (.int p2), .val (.long p3), .second, .val (.ref b1), .val (.int (p1 &&& (15 : Int32))), .val (.int zc), .val (.long (fA zc p3)), .second, .unset, .unset] [])
  have hj14 : (∀ ze : Int64, ze = (if zc = (90 : Int32) then (((p3 - (p3 / (2 : Int64)) * (2 : Int64)) + (2 : Int64)) - (((p3 - (p3 / (2 : Int64)) * (2 : Int64)) + (2 : Int64)) / (2 : Int64)) * (2 : Int64)) else (if zc = (66 : Int32) then (((p3 &&& (255 : Int64)) ^^^ (128 : Int64)) - (128 : Int64)) else (if zc = (67 : Int32) then (p3 &&& (65535 : Int64)) else (if zc = (83 : Int32) then (((p3 &&& (65535 : Int64)) ^^^ (32768 : Int64)) - (32768 : Int64)) else p3)))) → Go p e below K T13 (mkF m 190 #[.val (.int p1), .val (.int p2), .val (.long p3), .second, .val (.ref b1), .val (.int (p1 &&& (15 : Int32))), .val (.int zc), .val (.long (fA zc p3)), .second, .val (.long ze), .second] [])) → Go p e below K T13 (mkF m 95 #[.val (.int p1), .val (.int p2), .val (.long p3), .second, .val (.ref b1), .val (.int (p1 &&& (15 : Int32))), .val (.int zc), .val (.long (fA zc p3)), .second, .unset, .unset] []) := by
    intro k
    refine Go.to (fun _ => XS.iload X13.here hx rfl (hb hby at_95) rfl) ?_
    show Go p e below _ T13 (mkF m 97 #[.val (.int p1), .val (.int p2), .val (.long p3), .second, .val (.ref b1), .val (.int (p1 &&& (15 : Int32))), .val (.int zc), .val (.long (fA zc p3)), .second, .unset, .unset] [(.int zc)])
    refine Go.to (fun _ => XS.bipush X13.here hx rfl (hb hby at_97)) ?_
    show Go p e below _ T13 (mkF m 99 #[.val (.int p1), .val (.int p2), .val (.long p3), .second, .val (.ref b1), .val (.int (p1 &&& (15 : Int32))), .val (.int zc), .val (.long (fA zc p3)), .second, .unset, .unset] [(.int (90 : Int32)), (.int zc)])
    by_cases hc2 : zc = (90 : Int32)
    · refine Go.to (fun _ => XS.icmpNo X13.here hx rfl (hb hby at_99) rfl (teq hc2).2) ?_
      show Go p e below _ T13 (mkF m 102 #[.val (.int p1), .val (.int p2), .val (.long p3), .second, .val (.ref b1), .val (.int (p1 &&& (15 : Int32))), .val (.int zc), .val (.long (fA zc p3)), .second, .unset, .unset] [])
      refine Go.to (fun _ => XS.lloadN X13.here hx rfl (hb hby at_102) rfl) ?_
      show Go p e below _ T13 (mkF m 103 #[.val (.int p1), .val (.int p2), .val (.long p3), .second, .val (.ref b1), .val (.int (p1 &&& (15 : Int32))), .val (.int zc), .val (.long (fA zc p3)), .second, .unset, .unset] [(.long p3)])
      refine Go.to (fun _ => X13.ldc2Long hx hown (mvT hZ (hw _ (List.mem_of_getElem? (i := 5) rfl))) (g := (mkF m 103 #[.val (.int p1), .val (.int p2), .val (.long p3), .second, .val (.ref b1), .val (.int (p1 &&& (15 : Int32))), .val (.int zc), .val (.long (fA zc p3)), .second, .unset, .unset] [(.long p3)])) rfl (hb hby at_103) _) ?_
      show Go p e below _ T13 (mkF m 106 #[.val (.int p1), .val (.int p2), .val (.long p3), .second, .val (.ref b1), .val (.int (p1 &&& (15 : Int32))), .val (.int zc), .val (.long (fA zc p3)), .second, .unset, .unset] [(.long (2 : Int64)), (.long p3)])
      refine Go.to (fun _ => XS.lrem X13.here hx rfl (hb hby at_106) rfl (by decide)) ?_
      show Go p e below _ T13 (mkF m 107 #[.val (.int p1), .val (.int p2), .val (.long p3), .second, .val (.ref b1), .val (.int (p1 &&& (15 : Int32))), .val (.int zc), .val (.long (fA zc p3)), .second, .unset, .unset] [(.long (p3 - (p3 / (2 : Int64)) * (2 : Int64)))])
      refine Go.to (fun _ => X13.ldc2Long hx hown (mvT hZ (hw _ (List.mem_of_getElem? (i := 5) rfl))) (g := (mkF m 107 #[.val (.int p1), .val (.int p2), .val (.long p3), .second, .val (.ref b1), .val (.int (p1 &&& (15 : Int32))), .val (.int zc), .val (.long (fA zc p3)), .second, .unset, .unset] [(.long (p3 - (p3 / (2 : Int64)) * (2 : Int64)))])) rfl (hb hby at_107) _) ?_
      show Go p e below _ T13 (mkF m 110 #[.val (.int p1), .val (.int p2), .val (.long p3), .second, .val (.ref b1), .val (.int (p1 &&& (15 : Int32))), .val (.int zc), .val (.long (fA zc p3)), .second, .unset, .unset] [(.long (2 : Int64)), (.long (p3 - (p3 / (2 : Int64)) * (2 : Int64)))])
      refine Go.to (fun _ => XS.ladd X13.here hx rfl (hb hby at_110) rfl) ?_
      show Go p e below _ T13 (mkF m 111 #[.val (.int p1), .val (.int p2), .val (.long p3), .second, .val (.ref b1), .val (.int (p1 &&& (15 : Int32))), .val (.int zc), .val (.long (fA zc p3)), .second, .unset, .unset] [(.long ((p3 - (p3 / (2 : Int64)) * (2 : Int64)) + (2 : Int64)))])
      refine Go.to (fun _ => X13.ldc2Long hx hown (mvT hZ (hw _ (List.mem_of_getElem? (i := 5) rfl))) (g := (mkF m 111 #[.val (.int p1), .val (.int p2), .val (.long p3), .second, .val (.ref b1), .val (.int (p1 &&& (15 : Int32))), .val (.int zc), .val (.long (fA zc p3)), .second, .unset, .unset] [(.long ((p3 - (p3 / (2 : Int64)) * (2 : Int64)) + (2 : Int64)))])) rfl (hb hby at_111) _) ?_
      show Go p e below _ T13 (mkF m 114 #[.val (.int p1), .val (.int p2), .val (.long p3), .second, .val (.ref b1), .val (.int (p1 &&& (15 : Int32))), .val (.int zc), .val (.long (fA zc p3)), .second, .unset, .unset] [(.long (2 : Int64)), (.long ((p3 - (p3 / (2 : Int64)) * (2 : Int64)) + (2 : Int64)))])
      refine Go.to (fun _ => XS.lrem X13.here hx rfl (hb hby at_114) rfl (by decide)) ?_
      show Go p e below _ T13 (mkF m 115 #[.val (.int p1), .val (.int p2), .val (.long p3), .second, .val (.ref b1), .val (.int (p1 &&& (15 : Int32))), .val (.int zc), .val (.long (fA zc p3)), .second, .unset, .unset] [(.long (((p3 - (p3 / (2 : Int64)) * (2 : Int64)) + (2 : Int64)) - (((p3 - (p3 / (2 : Int64)) * (2 : Int64)) + (2 : Int64)) / (2 : Int64)) * (2 : Int64)))])
      refine Go.to (fun _ => XS.lstore X13.here hx rfl (hb hby at_115) rfl (l' := #[.val (.int p1), .val (.int p2), .val (.long p3), .second, .val (.ref b1), .val (.int (p1 &&& (15 : Int32))), .val (.int zc), .val (.long (fA zc p3)), .second, .val (.long (((p3 - (p3 / (2 : Int64)) * (2 : Int64)) + (2 : Int64)) - (((p3 - (p3 / (2 : Int64)) * (2 : Int64)) + (2 : Int64)) / (2 : Int64)) * (2 : Int64))), .second]) rfl) ?_
      show Go p e below _ T13 (mkF m 117 #[.val (.int p1), .val (.int p2), .val (.long p3), .second, .val (.ref b1), .val (.int (p1 &&& (15 : Int32))), .val (.int zc), .val (.long (fA zc p3)), .second, .val (.long (((p3 - (p3 / (2 : Int64)) * (2 : Int64)) + (2 : Int64)) - (((p3 - (p3 / (2 : Int64)) * (2 : Int64)) + (2 : Int64)) / (2 : Int64)) * (2 : Int64))), .second] [])
      refine Go.to (fun _ => XS.goto X13.here hx rfl (pc0 := 117) (pc' := 190) rfl (hb hby at_117) (by decide) (by decide)) ?_
      show Go p e below _ T13 (mkF m 190 #[.val (.int p1), .val (.int p2), .val (.long p3), .second, .val (.ref b1), .val (.int (p1 &&& (15 : Int32))), .val (.int zc), .val (.long (fA zc p3)), .second, .val (.long (((p3 - (p3 / (2 : Int64)) * (2 : Int64)) + (2 : Int64)) - (((p3 - (p3 / (2 : Int64)) * (2 : Int64)) + (2 : Int64)) / (2 : Int64)) * (2 : Int64))), .second] [])
      exact k (((p3 - (p3 / (2 : Int64)) * (2 : Int64)) + (2 : Int64)) - (((p3 - (p3 / (2 : Int64)) * (2 : Int64)) + (2 : Int64)) / (2 : Int64)) * (2 : Int64)) (by rw [if_pos hc2])
    · refine Go.to (fun _ => XS.icmpYes X13.here hx rfl (pc0 := 99) (pc' := 120) rfl (hb hby at_99) rfl (feq hc2).2 (by decide) (by decide)) ?_
      show Go p e below _ T13 (mkF m 120 #[.val (.int p1), .val (.int p2), .val (.long p3), .second, .val (.ref b1), .val (.int (p1 &&& (15 : Int32))), .val (.int zc), .val (.long (fA zc p3)), .second, .unset, .unset] [])
      refine Go.to (fun _ => XS.iload X13.here hx rfl (hb hby at_120) rfl) ?_
      show Go p e below _ T13 (mkF m 122 #[.val (.int p1), .val (.int p2), .val (.long p3), .second, .val (.ref b1), .val (.int (p1 &&& (15 : Int32))), .val (.int zc), .val (.long (fA zc p3)), .second, .unset, .unset] [(.int zc)])
      refine Go.to (fun _ => XS.bipush X13.here hx rfl (hb hby at_122)) ?_
      show Go p e below _ T13 (mkF m 124 #[.val (.int p1), .val (.int p2), .val (.long p3), .second, .val (.ref b1), .val (.int (p1 &&& (15 : Int32))), .val (.int zc), .val (.long (fA zc p3)), .second, .unset, .unset] [(.int (66 : Int32)), (.int zc)])
      by_cases hc3 : zc = (66 : Int32)
      · refine Go.to (fun _ => XS.icmpNo X13.here hx rfl (hb hby at_124) rfl (teq hc3).2) ?_
        show Go p e below _ T13 (mkF m 127 #[.val (.int p1), .val (.int p2), .val (.long p3), .second, .val (.ref b1), .val (.int (p1 &&& (15 : Int32))), .val (.int zc), .val (.long (fA zc p3)), .second, .unset, .unset] [])
        refine Go.to (fun _ => XS.lloadN X13.here hx rfl (hb hby at_127) rfl) ?_
        show Go p e below _ T13 (mkF m 128 #[.val (.int p1), .val (.int p2), .val (.long p3), .second, .val (.ref b1), .val (.int (p1 &&& (15 : Int32))), .val (.int zc), .val (.long (fA zc p3)), .second, .unset, .unset] [(.long p3)])
        refine Go.to (fun _ => X13.ldc2Long hx hown (mvT hZ (hw _ (List.mem_of_getElem? (i := 6) rfl))) (g := (mkF m 128 #[.val (.int p1), .val (.int p2), .val (.long p3), .second, .val (.ref b1), .val (.int (p1 &&& (15 : Int32))), .val (.int zc), .val (.long (fA zc p3)), .second, .unset, .unset] [(.long p3)])) rfl (hb hby at_128) _) ?_
        show Go p e below _ T13 (mkF m 131 #[.val (.int p1), .val (.int p2), .val (.long p3), .second, .val (.ref b1), .val (.int (p1 &&& (15 : Int32))), .val (.int zc), .val (.long (fA zc p3)), .second, .unset, .unset] [(.long (255 : Int64)), (.long p3)])
        refine Go.to (fun _ => XS.land X13.here hx rfl (hb hby at_131) rfl) ?_
        show Go p e below _ T13 (mkF m 132 #[.val (.int p1), .val (.int p2), .val (.long p3), .second, .val (.ref b1), .val (.int (p1 &&& (15 : Int32))), .val (.int zc), .val (.long (fA zc p3)), .second, .unset, .unset] [(.long (p3 &&& (255 : Int64)))])
        refine Go.to (fun _ => X13.ldc2Long hx hown (mvT hZ (hw _ (List.mem_of_getElem? (i := 7) rfl))) (g := (mkF m 132 #[.val (.int p1), .val (.int p2), .val (.long p3), .second, .val (.ref b1), .val (.int (p1 &&& (15 : Int32))), .val (.int zc), .val (.long (fA zc p3)), .second, .unset, .unset] [(.long (p3 &&& (255 : Int64)))])) rfl (hb hby at_132) _) ?_
        show Go p e below _ T13 (mkF m 135 #[.val (.int p1), .val (.int p2), .val (.long p3), .second, .val (.ref b1), .val (.int (p1 &&& (15 : Int32))), .val (.int zc), .val (.long (fA zc p3)), .second, .unset, .unset] [(.long (128 : Int64)), (.long (p3 &&& (255 : Int64)))])
        refine Go.to (fun _ => XS.lxor X13.here hx rfl (hb hby at_135) rfl) ?_
        show Go p e below _ T13 (mkF m 136 #[.val (.int p1), .val (.int p2), .val (.long p3), .second, .val (.ref b1), .val (.int (p1 &&& (15 : Int32))), .val (.int zc), .val (.long (fA zc p3)), .second, .unset, .unset] [(.long ((p3 &&& (255 : Int64)) ^^^ (128 : Int64)))])
        refine Go.to (fun _ => X13.ldc2Long hx hown (mvT hZ (hw _ (List.mem_of_getElem? (i := 7) rfl))) (g := (mkF m 136 #[.val (.int p1), .val (.int p2), .val (.long p3), .second, .val (.ref b1), .val (.int (p1 &&& (15 : Int32))), .val (.int zc), .val (.long (fA zc p3)), .second, .unset, .unset] [(.long ((p3 &&& (255 : Int64)) ^^^ (128 : Int64)))])) rfl (hb hby at_136) _) ?_
        show Go p e below _ T13 (mkF m 139 #[.val (.int p1), .val (.int p2), .val (.long p3), .second, .val (.ref b1), .val (.int (p1 &&& (15 : Int32))), .val (.int zc), .val (.long (fA zc p3)), .second, .unset, .unset] [(.long (128 : Int64)), (.long ((p3 &&& (255 : Int64)) ^^^ (128 : Int64)))])
        refine Go.to (fun _ => XS.lsub X13.here hx rfl (hb hby at_139) rfl) ?_
        show Go p e below _ T13 (mkF m 140 #[.val (.int p1), .val (.int p2), .val (.long p3), .second, .val (.ref b1), .val (.int (p1 &&& (15 : Int32))), .val (.int zc), .val (.long (fA zc p3)), .second, .unset, .unset] [(.long (((p3 &&& (255 : Int64)) ^^^ (128 : Int64)) - (128 : Int64)))])
        refine Go.to (fun _ => XS.lstore X13.here hx rfl (hb hby at_140) rfl (l' := #[.val (.int p1), .val (.int p2), .val (.long p3), .second, .val (.ref b1), .val (.int (p1 &&& (15 : Int32))), .val (.int zc), .val (.long (fA zc p3)), .second, .val (.long (((p3 &&& (255 : Int64)) ^^^ (128 : Int64)) - (128 : Int64))), .second]) rfl) ?_
        show Go p e below _ T13 (mkF m 142 #[.val (.int p1), .val (.int p2), .val (.long p3), .second, .val (.ref b1), .val (.int (p1 &&& (15 : Int32))), .val (.int zc), .val (.long (fA zc p3)), .second, .val (.long (((p3 &&& (255 : Int64)) ^^^ (128 : Int64)) - (128 : Int64))), .second] [])
        refine Go.to (fun _ => XS.goto X13.here hx rfl (pc0 := 142) (pc' := 190) rfl (hb hby at_142) (by decide) (by decide)) ?_
        show Go p e below _ T13 (mkF m 190 #[.val (.int p1), .val (.int p2), .val (.long p3), .second, .val (.ref b1), .val (.int (p1 &&& (15 : Int32))), .val (.int zc), .val (.long (fA zc p3)), .second, .val (.long (((p3 &&& (255 : Int64)) ^^^ (128 : Int64)) - (128 : Int64))), .second] [])
        exact k (((p3 &&& (255 : Int64)) ^^^ (128 : Int64)) - (128 : Int64)) (by rw [if_neg hc2, if_pos hc3])
      · refine Go.to (fun _ => XS.icmpYes X13.here hx rfl (pc0 := 124) (pc' := 145) rfl (hb hby at_124) rfl (feq hc3).2 (by decide) (by decide)) ?_
        show Go p e below _ T13 (mkF m 145 #[.val (.int p1), .val (.int p2), .val (.long p3), .second, .val (.ref b1), .val (.int (p1 &&& (15 : Int32))), .val (.int zc), .val (.long (fA zc p3)), .second, .unset, .unset] [])
        refine Go.to (fun _ => XS.iload X13.here hx rfl (hb hby at_145) rfl) ?_
        show Go p e below _ T13 (mkF m 147 #[.val (.int p1), .val (.int p2), .val (.long p3), .second, .val (.ref b1), .val (.int (p1 &&& (15 : Int32))), .val (.int zc), .val (.long (fA zc p3)), .second, .unset, .unset] [(.int zc)])
        refine Go.to (fun _ => XS.bipush X13.here hx rfl (hb hby at_147)) ?_
        show Go p e below _ T13 (mkF m 149 #[.val (.int p1), .val (.int p2), .val (.long p3), .second, .val (.ref b1), .val (.int (p1 &&& (15 : Int32))), .val (.int zc), .val (.long (fA zc p3)), .second, .unset, .unset] [(.int (67 : Int32)), (.int zc)])
        by_cases hc4 : zc = (67 : Int32)
        · refine Go.to (fun _ => XS.icmpNo X13.here hx rfl (hb hby at_149) rfl (teq hc4).2) ?_
          show Go p e below _ T13 (mkF m 152 #[.val (.int p1), .val (.int p2), .val (.long p3), .second, .val (.ref b1), .val (.int (p1 &&& (15 : Int32))), .val (.int zc), .val (.long (fA zc p3)), .second, .unset, .unset] [])
          refine Go.to (fun _ => XS.lloadN X13.here hx rfl (hb hby at_152) rfl) ?_
          show Go p e below _ T13 (mkF m 153 #[.val (.int p1), .val (.int p2), .val (.long p3), .second, .val (.ref b1), .val (.int (p1 &&& (15 : Int32))), .val (.int zc), .val (.long (fA zc p3)), .second, .unset, .unset] [(.long p3)])
          refine Go.to (fun _ => X13.ldc2Long hx hown (mvT hZ (hw _ (List.mem_of_getElem? (i := 8) rfl))) (g := (mkF m 153 #[.val (.int p1), .val (.int p2), .val (.long p3), .second, .val (.ref b1), .val (.int (p1 &&& (15 : Int32))), .val (.int zc), .val (.long (fA zc p3)), .second, .unset, .unset] [(.long p3)])) rfl (hb hby at_153) _) ?_
          show Go p e below _ T13 (mkF m 156 #[.val (.int p1), .val (.int p2), .val (.long p3), .second, .val (.ref b1), .val (.int (p1 &&& (15 : Int32))), .val (.int zc), .val (.long (fA zc p3)), .second, .unset, .unset] [(.long (65535 : Int64)), (.long p3)])
          refine Go.to (fun _ => XS.land X13.here hx rfl (hb hby at_156) rfl) ?_
          show Go p e below _ T13 (mkF m 157 #[.val (.int p1), .val (.int p2), .val (.long p3), .second, .val (.ref b1), .val (.int (p1 &&& (15 : Int32))), .val (.int zc), .val (.long (fA zc p3)), .second, .unset, .unset] [(.long (p3 &&& (65535 : Int64)))])
          refine Go.to (fun _ => XS.lstore X13.here hx rfl (hb hby at_157) rfl (l' := #[.val (.int p1), .val (.int p2), .val (.long p3), .second, .val (.ref b1), .val (.int (p1 &&& (15 : Int32))), .val (.int zc), .val (.long (fA zc p3)), .second, .val (.long (p3 &&& (65535 : Int64))), .second]) rfl) ?_
          show Go p e below _ T13 (mkF m 159 #[.val (.int p1), .val (.int p2), .val (.long p3), .second, .val (.ref b1), .val (.int (p1 &&& (15 : Int32))), .val (.int zc), .val (.long (fA zc p3)), .second, .val (.long (p3 &&& (65535 : Int64))), .second] [])
          refine Go.to (fun _ => XS.goto X13.here hx rfl (pc0 := 159) (pc' := 190) rfl (hb hby at_159) (by decide) (by decide)) ?_
          show Go p e below _ T13 (mkF m 190 #[.val (.int p1), .val (.int p2), .val (.long p3), .second, .val (.ref b1), .val (.int (p1 &&& (15 : Int32))), .val (.int zc), .val (.long (fA zc p3)), .second, .val (.long (p3 &&& (65535 : Int64))), .second] [])
          exact k (p3 &&& (65535 : Int64)) (by rw [if_neg hc2, if_neg hc3, if_pos hc4])
        · refine Go.to (fun _ => XS.icmpYes X13.here hx rfl (pc0 := 149) (pc' := 162) rfl (hb hby at_149) rfl (feq hc4).2 (by decide) (by decide)) ?_
          show Go p e below _ T13 (mkF m 162 #[.val (.int p1), .val (.int p2), .val (.long p3), .second, .val (.ref b1), .val (.int (p1 &&& (15 : Int32))), .val (.int zc), .val (.long (fA zc p3)), .second, .unset, .unset] [])
          refine Go.to (fun _ => XS.iload X13.here hx rfl (hb hby at_162) rfl) ?_
          show Go p e below _ T13 (mkF m 164 #[.val (.int p1), .val (.int p2), .val (.long p3), .second, .val (.ref b1), .val (.int (p1 &&& (15 : Int32))), .val (.int zc), .val (.long (fA zc p3)), .second, .unset, .unset] [(.int zc)])
          refine Go.to (fun _ => XS.bipush X13.here hx rfl (hb hby at_164)) ?_
          show Go p e below _ T13 (mkF m 166 #[.val (.int p1), .val (.int p2), .val (.long p3), .second, .val (.ref b1), .val (.int (p1 &&& (15 : Int32))), .val (.int zc), .val (.long (fA zc p3)), .second, .unset, .unset] [(.int (83 : Int32)), (.int zc)])
          by_cases hc5 : zc = (83 : Int32)
          · refine Go.to (fun _ => XS.icmpNo X13.here hx rfl (hb hby at_166) rfl (teq hc5).2) ?_
            show Go p e below _ T13 (mkF m 169 #[.val (.int p1), .val (.int p2), .val (.long p3), .second, .val (.ref b1), .val (.int (p1 &&& (15 : Int32))), .val (.int zc), .val (.long (fA zc p3)), .second, .unset, .unset] [])
            refine Go.to (fun _ => XS.lloadN X13.here hx rfl (hb hby at_169) rfl) ?_
            show Go p e below _ T13 (mkF m 170 #[.val (.int p1), .val (.int p2), .val (.long p3), .second, .val (.ref b1), .val (.int (p1 &&& (15 : Int32))), .val (.int zc), .val (.long (fA zc p3)), .second, .unset, .unset] [(.long p3)])
            refine Go.to (fun _ => X13.ldc2Long hx hown (mvT hZ (hw _ (List.mem_of_getElem? (i := 8) rfl))) (g := (mkF m 170 #[.val (.int p1), .val (.int p2), .val (.long p3), .second, .val (.ref b1), .val (.int (p1 &&& (15 : Int32))), .val (.int zc), .val (.long (fA zc p3)), .second, .unset, .unset] [(.long p3)])) rfl (hb hby at_170) _) ?_
            show Go p e below _ T13 (mkF m 173 #[.val (.int p1), .val (.int p2), .val (.long p3), .second, .val (.ref b1), .val (.int (p1 &&& (15 : Int32))), .val (.int zc), .val (.long (fA zc p3)), .second, .unset, .unset] [(.long (65535 : Int64)), (.long p3)])
            refine Go.to (fun _ => XS.land X13.here hx rfl (hb hby at_173) rfl) ?_
            show Go p e below _ T13 (mkF m 174 #[.val (.int p1), .val (.int p2), .val (.long p3), .second, .val (.ref b1), .val (.int (p1 &&& (15 : Int32))), .val (.int zc), .val (.long (fA zc p3)), .second, .unset, .unset] [(.long (p3 &&& (65535 : Int64)))])
            refine Go.to (fun _ => X13.ldc2Long hx hown (mvT hZ (hw _ (List.mem_of_getElem? (i := 9) rfl))) (g := (mkF m 174 #[.val (.int p1), .val (.int p2), .val (.long p3), .second, .val (.ref b1), .val (.int (p1 &&& (15 : Int32))), .val (.int zc), .val (.long (fA zc p3)), .second, .unset, .unset] [(.long (p3 &&& (65535 : Int64)))])) rfl (hb hby at_174) _) ?_
            show Go p e below _ T13 (mkF m 177 #[.val (.int p1), .val (.int p2), .val (.long p3), .second, .val (.ref b1), .val (.int (p1 &&& (15 : Int32))), .val (.int zc), .val (.long (fA zc p3)), .second, .unset, .unset] [(.long (32768 : Int64)), (.long (p3 &&& (65535 : Int64)))])
            refine Go.to (fun _ => XS.lxor X13.here hx rfl (hb hby at_177) rfl) ?_
            show Go p e below _ T13 (mkF m 178 #[.val (.int p1), .val (.int p2), .val (.long p3), .second, .val (.ref b1), .val (.int (p1 &&& (15 : Int32))), .val (.int zc), .val (.long (fA zc p3)), .second, .unset, .unset] [(.long ((p3 &&& (65535 : Int64)) ^^^ (32768 : Int64)))])
            refine Go.to (fun _ => X13.ldc2Long hx hown (mvT hZ (hw _ (List.mem_of_getElem? (i := 9) rfl))) (g := (mkF m 178 #[.val (.int p1), .val (.int p2), .val (.long p3), .second, .val (.ref b1), .val (.int (p1 &&& (15 : Int32))), .val (.int zc), .val (.long (fA zc p3)), .second, .unset, .unset] [(.long ((p3 &&& (65535 : Int64)) ^^^ (32768 : Int64)))])) rfl (hb hby at_178) _) ?_
            show Go p e below _ T13 (mkF m 181 #[.val (.int p1), .val (.int p2), .val (.long p3), .second, .val (.ref b1), .val (.int (p1 &&& (15 : Int32))), .val (.int zc), .val (.long (fA zc p3)), .second, .unset, .unset] [(.long (32768 : Int64)), (.long ((p3 &&& (65535 : Int64)) ^^^ (32768 : Int64)))])
            refine Go.to (fun _ => XS.lsub X13.here hx rfl (hb hby at_181) rfl) ?_
            show Go p e below _ T13 (mkF m 182 #[.val (.int p1), .val (.int p2), .val (.long p3), .second, .val (.ref b1), .val (.int (p1 &&& (15 : Int32))), .val (.int zc), .val (.long (fA zc p3)), .second, .unset, .unset] [(.long (((p3 &&& (65535 : Int64)) ^^^ (32768 : Int64)) - (32768 : Int64)))])
            refine Go.to (fun _ => XS.lstore X13.here hx rfl (hb hby at_182) rfl (l' := #[.val (.int p1), .val (.int p2), .val (.long p3), .second, .val (.ref b1), .val (.int (p1 &&& (15 : Int32))), .val (.int zc), .val (.long (fA zc p3)), .second, .val (.long (((p3 &&& (65535 : Int64)) ^^^ (32768 : Int64)) - (32768 : Int64))), .second]) rfl) ?_
            show Go p e below _ T13 (mkF m 184 #[.val (.int p1), .val (.int p2), .val (.long p3), .second, .val (.ref b1), .val (.int (p1 &&& (15 : Int32))), .val (.int zc), .val (.long (fA zc p3)), .second, .val (.long (((p3 &&& (65535 : Int64)) ^^^ (32768 : Int64)) - (32768 : Int64))), .second] [])
            refine Go.to (fun _ => XS.goto X13.here hx rfl (pc0 := 184) (pc' := 190) rfl (hb hby at_184) (by decide) (by decide)) ?_
            show Go p e below _ T13 (mkF m 190 #[.val (.int p1), .val (.int p2), .val (.long p3), .second, .val (.ref b1), .val (.int (p1 &&& (15 : Int32))), .val (.int zc), .val (.long (fA zc p3)), .second, .val (.long (((p3 &&& (65535 : Int64)) ^^^ (32768 : Int64)) - (32768 : Int64))), .second] [])
            exact k (((p3 &&& (65535 : Int64)) ^^^ (32768 : Int64)) - (32768 : Int64)) (by rw [if_neg hc2, if_neg hc3, if_neg hc4, if_pos hc5])
          · refine Go.to (fun _ => XS.icmpYes X13.here hx rfl (pc0 := 166) (pc' := 187) rfl (hb hby at_166) rfl (feq hc5).2 (by decide) (by decide)) ?_
            show Go p e below _ T13 (mkF m 187 #[.val (.int p1), .val (.int p2), .val (.long p3), .second, .val (.ref b1), .val (.int (p1 &&& (15 : Int32))), .val (.int zc), .val (.long (fA zc p3)), .second, .unset, .unset] [])
            refine Go.to (fun _ => XS.lloadN X13.here hx rfl (hb hby at_187) rfl) ?_
            show Go p e below _ T13 (mkF m 188 #[.val (.int p1), .val (.int p2), .val (.long p3), .second, .val (.ref b1), .val (.int (p1 &&& (15 : Int32))), .val (.int zc), .val (.long (fA zc p3)), .second, .unset, .unset] [(.long p3)])
            refine Go.to (fun _ => XS.lstore X13.here hx rfl (hb hby at_188) rfl (l' := #[.val (.int p1), .val (.int p2), .val (.long p3), .second, .val (.ref b1), .val (.int (p1 &&& (15 : Int32))), .val (.int zc), .val (.long (fA zc p3)), .second, .val (.long p3), .second]) rfl) ?_
            show Go p e below _ T13 (mkF m 190 #[.val (.int p1), .val (.int p2), .val (.long p3), .second, .val (.ref b1), .val (.int (p1 &&& (15 : Int32))), .val (.int zc), .val (.long (fA zc p3)), .second, .val (.long p3), .second] [])
            exact k p3 (by rw [if_neg hc2, if_neg hc3, if_neg hc4, if_neg hc5])
  refine hj14 (fun ze hze => ?_)
  clear hj14
  refine Go.to (fun _ => XS.lload X13.here hx rfl (hb hby at_190) rfl) ?_
  show Go p e below _ T13 (mkF m 192 #[.val (.int p1), .val (.int p2), .val (.long p3), .second, .val (.ref b1), .val (.int (p1 &&& (15 : Int32))), .val (.int zc), .val (.long (fA zc p3)), .second, .val (.long ze), .second] [(.long (fA zc p3))])
  refine Go.to (fun _ => XS.lload X13.here hx rfl (hb hby at_192) rfl) ?_
  show Go p e below _ T13 (mkF m 194 #[.val (.int p1), .val (.int p2), .val (.long p3), .second, .val (.ref b1), .val (.int (p1 &&& (15 : Int32))), .val (.int zc), .val (.long (fA zc p3)), .second, .val (.long ze), .second] [(.long ze), (.long (fA zc p3))])
  refine Go.to (fun _ => XS.lcmp X13.here hx rfl (hb hby at_194) rfl) ?_
  show Go p e below _ T13 (mkF m 195 #[.val (.int p1), .val (.int p2), .val (.long p3), .second, .val (.ref b1), .val (.int (p1 &&& (15 : Int32))), .val (.int zc), .val (.long (fA zc p3)), .second, .val (.long ze), .second] [(.int (lcmpW (fA zc p3) ze))])
  refine Go.to (fun _ => XS.ifNo X13.here hx rfl (hb hby at_195) rfl ((if0 _ _).trans (teq ((lw_eq _ _).mpr (hze.trans (own_fg zc p3).symm).symm)).2)) ?_
  show Go p e below _ T13 (mkF m 198 #[.val (.int p1), .val (.int p2), .val (.long p3), .second, .val (.ref b1), .val (.int (p1 &&& (15 : Int32))), .val (.int zc), .val (.long (fA zc p3)), .second, .val (.long ze), .second] [])
  refine Go.to (fun _ => XS.iconst X13.here hx rfl (hb hby at_198)) ?_
  show Go p e below _ T13 (mkF m 199 #[.val (.int p1), .val (.int p2), .val (.long p3), .second, .val (.ref b1), .val (.int (p1 &&& (15 : Int32))), .val (.int zc), .val (.long (fA zc p3)), .second, .val (.long ze), .second] [(.int (1 : Int32))])
  refine Go.to (fun _ => XS.goto X13.here hx rfl (pc0 := 199) (pc' := 203) rfl (hb hby at_199) (by decide) (by decide)) ?_
  show Go p e below _ T13 (mkF m 203 #[.val (.int p1), .val (.int p2), .val (.long p3), .second, .val (.ref b1), .val (.int (p1 &&& (15 : Int32))), .val (.int zc), .val (.long (fA zc p3)), .second, .val (.long ze), .second] [(.int (1 : Int32))])
  rw [hK]
  exact Go.retZ X13 hx hlk hret (by decide) (hb hby at_203) ⟨rfl, N11⟩ (by decide) (by decide)
set_option maxHeartbeats 40000000 in
theorem comes_1 {Post : Tables → Env → Array Value → State → Outcome → State → Prop} (hpost : ∀ tb e args s v u, (limb_1_1.after args s (.returned v) u = true ∧ limb_1_2.after args s (.returned v) u = true ∧ True) → FrameEnd s (.returned v) u (Jvm.fieldLocs frame_1_writes args s ++ Jvm.arrayLocs frame_1_arrays args s ++ Jvm.staticLocs frame_1_statics s) 16 128 → Post tb e args s (.returned v) u) :
    ArmFor flags0 classFile x code maxLocals ret World_1 tables_1 room_1 Calls_1 rest_1 Pre_1 Post := by
  intro l hfl _ _ p e ha hc hk s m args below hf hA hF happ hP
  obtain ⟨hcalls, hrest, hpre⟩ := hP
  obtain ⟨-, -, -, hnamed, -, -, -, hat⟩ := (Spec.applies_iff hf).mp happ
  obtain ⟨hg, hn⟩ := and_e (Cond.before_iff.mp (show (Jvm.Cond.and given_1 narrow_1).before args s = true from hpre))
  obtain ⟨gc, gr0⟩ := and_e hg
  obtain ⟨g0, gr1⟩ := and_e gr0
  obtain ⟨g1, gr2⟩ := and_e gr1
  obtain ⟨w0, w1, w2, rfl⟩ : ∃ w0 w1 w2 : Value, args = #[w0, w1, w2] := by
    have hs : args.size = 3 := by simpa [Cond.value, given_1] using gc
    obtain ⟨L⟩ := args
    match L, hs with
    | [w0, w1, w2], _ => exact ⟨w0, w1, w2, rfl⟩
  have hw := fun d (hd : d ∈ tables_1) => atoms_spec (ws := Jvm.Cond.code x code maxLocals ret :: tables_1) hat d (List.mem_cons_of_mem _ hd)
  obtain ⟨i0, ei0⟩ := is_v g0
  obtain rfl : w0 = (.int i0) := Option.some.inj ei0
  obtain ⟨i1, ei1⟩ := is_v g1
  obtain rfl : w1 = (.int i1) := Option.some.inj ei1
  obtain ⟨i2, ei2⟩ := isL_v gr2
  obtain rfl : w2 = (.long i2) := Option.some.inj ei2
  obtain ⟨n, o, h1, h2, h3, _, L, rfl, ⟨rfl, N⟩, hq⟩ := rm0 l s _ hw tables_1 i0 i1 i2 s.heap s.heap.size (Nat.le_refl _) p e ha hc hk s m _ below hf ((Spec.applies_iff_loose hf).mp happ).1 ⟨rfl, State.Warmed39.refl s, rfl⟩ trivial
  refine ⟨n, _, h1, h2, h3, hpost _ _ _ _ _ _ ⟨Cond.after_iff.mpr rfl, Cond.after_iff.mpr (eq_i res_at (Term.int_eval (1)) rfl), trivial⟩ ⟨hq.1, hq.2.1, (hq.2.2.sift fun y hy => Or.inr (N y hy)).mono (by decide) (by decide)⟩⟩
theorem main_1_1 : Claimed_1_1 := comes_1 fun _ _ _ _ _ _ h hF => ⟨h.1, hF⟩
theorem main_1_2 : Claimed_1_2 := comes_1 fun _ _ _ _ _ _ h hF => ⟨h.2.1, hF⟩
end Jvm.Pilot.@@N@@
namespace Jvm.Pilot.@@N@@
open Jvm Jvm.ClassFile Sem Op Lib Jvm.Free Jvm.Stand Jvm.Pilot.@@N@@.Jvm.D
/-! MADE BY PROGRAM (witnessworld.py) out of the Statement's table words and the real class files: 11 classes; the members and pool entries that the words name. The judged class is class 1, her method 1. -/
namespace start1
open Jvm.ClassFile
def u (s : String) : CpInfo := .utf8 (stringToUtf16 s)
/-- a pool by its gaps: so many unusable entries, then the entry; so many at the end -/
def gap : Nat → List CpInfo → List CpInfo
  | 0, r => r
  | n + 1, r => .unusable :: gap n r
def poolList (es : List (Nat × CpInfo)) (last : Nat) : List CpInfo := es.foldr (fun e r => gap e.1 (e.2 :: r)) (gap last [])
def pool (es : List (Nat × CpInfo)) (last : Nat) : Array CpInfo := ⟨poolList es last⟩
def fileOf (pool : Array CpInfo) (this : Nat) (attrs : Array Attribute := #[]) (ms : Array MethodInfo := #[]) (fl : Nat := 33) (sup : Nat := 0) (ifs : Array Nat := #[]) (fds : Array FieldInfo := #[]) : ClassFile where
  minorVersion := 0
  majorVersion := 65
  constantPool := pool
  accessFlags := fl
  thisClass := this
  superClass := sup
  interfaces := ifs
  fields := fds
  methods := ms
  attributes := attrs
def plain (name : String) (sup : Option ClassId) : Class where
  name := name
  kind := .ordinary
  loader := none
  accessFlags := 33
  super := sup
  interfaces := #[]
  cf := none
  fields := #[]
  methods := #[]
  instanceTypes := #[]
  staticTypes := #[]
  resolved := #[]
  callSites := []
  init := .initialized
  statics := none
  mirror := none

def pool0 : Array CpInfo := pool [(5, u "<init>"), (0, u "()V"), (1, .class_ 10), (1, u "java/lang/Object")] 113

def k0m0 : Method := { name := "<init>", desc := "()V", sig := { parameters := [], returnType := none }, accessFlags := 1, code := none }
/-- java/lang/Object -/
def k0 : Class := { plain "java/lang/Object" none with
  accessFlags := 33
  interfaces := #[]
  cf := some (fileOf pool0 8 #[] #[{ accessFlags := 1, nameIndex := 5, descriptorIndex := 6, attributes := #[] }] 33 0 #[] #[])
  fields := #[]
  methods := #[k0m0]
  instanceTypes := #[]
  staticTypes := #[]
  resolved := Array.replicate 124 none
  statics := none }

def pool1 : Array CpInfo := pool [(2, .class_ 4), (1, u "java/lang/Object"), (0, u "<init>"), (0, u "()V"), (0, .methodref 8 9), (0, .class_ 10), (0, .nameAndType 11 12), (0, u "oakwell/vm/Instruction"), (0, u "narrow"), (0, u "(CJ)J"), (0, .long 2), (1, .long 255), (1, .long 128), (1, .long 65535), (1, .long 32768), (1, .class_ 24), (0, u "oakwell/vm/InstructionNarrowPinLaw"), (2, u "law"), (0, u "(IIJ)Z")] 5

def k1m0 : Method := { name := "<init>", desc := "()V", sig := { parameters := [], returnType := none }, accessFlags := 1, code := none }
def k1c1 : Code := { maxStack := 4, maxLocals := 11, code := code, exceptionTable := #[], attributes := #[] }
def k1m1 : Method := { name := "law", desc := "(IIJ)Z", sig := { parameters := [.int, .int, .long], returnType := some .boolean }, accessFlags := 9, code := some k1c1 }
/-- oakwell/vm/InstructionNarrowPinLaw -/
def k1 : Class := { plain "oakwell/vm/InstructionNarrowPinLaw" (some 0) with
  accessFlags := 49
  interfaces := #[]
  cf := some (fileOf pool1 23 #[] #[{ accessFlags := 1, nameIndex := 5, descriptorIndex := 6, attributes := #[] }, { accessFlags := 9, nameIndex := 27, descriptorIndex := 28, attributes := #[] }] 49 2 #[] #[])
  fields := #[]
  methods := #[k1m0, k1m1]
  instanceTypes := #[]
  staticTypes := #[]
  resolved := Array.replicate 34 none
  statics := none }

def pool2 : Array CpInfo := pool [(2, .class_ 4), (1, u "java/lang/Object"), (6, u "operation"), (2, .class_ 16), (1, u "oakwell/vm/Instruction"), (0, u "I"), (2, u "operandA"), (4, u "operandB"), (4, u "operandC"), (6, .class_ 38), (0, u "oakwell/vm/Instruction$Move"), (3, .class_ 43), (0, u "oakwell/vm/Instruction$MoveReference"), (1, .class_ 46), (0, u "oakwell/vm/Instruction$IntAdd"), (1, .class_ 49), (0, u "oakwell/vm/Instruction$IntSubtract"), (1, .class_ 52), (0, u "oakwell/vm/Instruction$IntMultiply"), (1, .class_ 55), (0, u "oakwell/vm/Instruction$IntDivide"), (1, .class_ 58), (0, u "oakwell/vm/Instruction$IntRemainder"), (1, .class_ 61), (0, u "oakwell/vm/Instruction$IntAnd"), (1, .class_ 64), (0, u "oakwell/vm/Instruction$IntOr"), (1, .class_ 67), (0, u "oakwell/vm/Instruction$IntXor"), (1, .class_ 70), (0, u "oakwell/vm/Instruction$IntShiftLeft"), (1, .class_ 73), (0, u "oakwell/vm/Instruction$IntShiftRight"), (1, .class_ 76), (0, u "oakwell/vm/Instruction$IntUnsignedShiftRight"), (1, .class_ 79), (0, u "oakwell/vm/Instruction$IntNegate"), (1, .class_ 82), (0, u "oakwell/vm/Instruction$LongAdd"), (1, .class_ 85), (0, u "oakwell/vm/Instruction$LongSubtract"), (1, .class_ 88), (0, u "oakwell/vm/Instruction$LongMultiply"), (1, .class_ 91), (0, u "oakwell/vm/Instruction$LongDivide"), (1, .class_ 94), (0, u "oakwell/vm/Instruction$LongRemainder"), (1, .class_ 97), (0, u "oakwell/vm/Instruction$LongAnd"), (1, .class_ 100), (0, u "oakwell/vm/Instruction$LongOr"), (1, .class_ 103), (0, u "oakwell/vm/Instruction$LongXor"), (1, .class_ 106), (0, u "oakwell/vm/Instruction$LongShiftLeft"), (1, .class_ 109), (0, u "oakwell/vm/Instruction$LongShiftRight"), (1, .class_ 112), (0, u "oakwell/vm/Instruction$LongUnsignedShiftRight"), (1, .class_ 115), (0, u "oakwell/vm/Instruction$LongNegate"), (1, .class_ 118), (0, u "oakwell/vm/Instruction$LongCompare"), (1, .class_ 121), (0, u "oakwell/vm/Instruction$FloatAdd"), (1, .class_ 124), (0, u "oakwell/vm/Instruction$FloatSubtract"), (1, .class_ 127), (0, u "oakwell/vm/Instruction$FloatMultiply"), (1, .class_ 130), (0, u "oakwell/vm/Instruction$FloatDivide"), (1, .class_ 133), (0, u "oakwell/vm/Instruction$FloatNegate"), (1, .class_ 136), (0, u "oakwell/vm/Instruction$FloatCompare"), (3, .class_ 141), (0, u "oakwell/vm/Instruction$DoubleAdd"), (1, .class_ 144), (0, u "oakwell/vm/Instruction$DoubleSubtract"), (1, .class_ 147), (0, u "oakwell/vm/Instruction$DoubleMultiply"), (1, .class_ 150), (0, u "oakwell/vm/Instruction$DoubleDivide"), (1, .class_ 153), (0, u "oakwell/vm/Instruction$DoubleNegate"), (1, .class_ 156), (0, u "oakwell/vm/Instruction$DoubleCompare"), (1, .class_ 159), (0, u "oakwell/vm/Instruction$IntToFloat"), (1, .class_ 162), (0, u "oakwell/vm/Instruction$IntToDouble"), (1, .class_ 165), (0, u "oakwell/vm/Instruction$LongToInt"), (1, .class_ 168), (0, u "oakwell/vm/Instruction$LongToFloat"), (1, .class_ 171), (0, u "oakwell/vm/Instruction$LongToDouble"), (1, .class_ 174), (0, u "oakwell/vm/Instruction$FloatToInt"), (1, .class_ 177), (0, u "oakwell/vm/Instruction$FloatToLong"), (1, .class_ 180), (0, u "oakwell/vm/Instruction$FloatToDouble"), (1, .class_ 183), (0, u "oakwell/vm/Instruction$DoubleToInt"), (1, .class_ 186), (0, u "oakwell/vm/Instruction$DoubleToLong"), (1, .class_ 189), (0, u "oakwell/vm/Instruction$DoubleToFloat"), (1, .class_ 192), (0, u "oakwell/vm/Instruction$IntToByte"), (1, .class_ 195), (0, u "oakwell/vm/Instruction$IntToChar"), (1, .class_ 198), (0, u "oakwell/vm/Instruction$IntToShort"), (1, .class_ 201), (0, u "oakwell/vm/Instruction$IntArrayLoad"), (1, .class_ 204), (0, u "oakwell/vm/Instruction$LongArrayLoad"), (1, .class_ 207), (0, u "oakwell/vm/Instruction$FloatArrayLoad"), (1, .class_ 210), (0, u "oakwell/vm/Instruction$DoubleArrayLoad"), (1, .class_ 213), (0, u "oakwell/vm/Instruction$ReferenceArrayLoad"), (1, .class_ 216), (0, u "oakwell/vm/Instruction$ByteArrayLoad"), (1, .class_ 219), (0, u "oakwell/vm/Instruction$CharArrayLoad"), (1, .class_ 222), (0, u "oakwell/vm/Instruction$ShortArrayLoad"), (1, .class_ 225), (0, u "oakwell/vm/Instruction$IntArrayStore"), (1, .class_ 228), (0, u "oakwell/vm/Instruction$LongArrayStore"), (1, .class_ 231), (0, u "oakwell/vm/Instruction$FloatArrayStore"), (1, .class_ 234), (0, u "oakwell/vm/Instruction$DoubleArrayStore"), (1, .class_ 237), (0, u "oakwell/vm/Instruction$ReferenceArrayStore"), (1, .class_ 240), (0, u "oakwell/vm/Instruction$ByteArrayStore"), (1, .class_ 243), (0, u "oakwell/vm/Instruction$CharArrayStore"), (1, .class_ 246), (0, u "oakwell/vm/Instruction$ShortArrayStore"), (1, .class_ 249), (0, u "oakwell/vm/Instruction$ArrayLength"), (1, .class_ 252), (0, u "oakwell/vm/Instruction$IfZero"), (1, .class_ 255), (0, u "oakwell/vm/Instruction$IfNotZero"), (1, .class_ 258), (0, u "oakwell/vm/Instruction$IfNegative"), (1, .class_ 261), (0, u "oakwell/vm/Instruction$IfNotNegative"), (1, .class_ 264), (0, u "oakwell/vm/Instruction$IfPositive"), (1, .class_ 267), (0, u "oakwell/vm/Instruction$IfNotPositive"), (1, .class_ 270), (0, u "oakwell/vm/Instruction$IfEqual"), (1, .class_ 273), (0, u "oakwell/vm/Instruction$IfNotEqual"), (1, .class_ 276), (0, u "oakwell/vm/Instruction$IfLess"), (1, .class_ 279), (0, u "oakwell/vm/Instruction$IfNotLess"), (1, .class_ 282), (0, u "oakwell/vm/Instruction$IfGreater"), (1, .class_ 285), (0, u "oakwell/vm/Instruction$IfNotGreater"), (1, .class_ 288), (0, u "oakwell/vm/Instruction$IfEqualToLength"), (1, .class_ 291), (0, u "oakwell/vm/Instruction$IfNotEqualToLength"), (1, .class_ 294), (0, u "oakwell/vm/Instruction$IfLessThanLength"), (1, .class_ 297), (0, u "oakwell/vm/Instruction$IfNotLessThanLength"), (1, .class_ 300), (0, u "oakwell/vm/Instruction$IfGreaterThanLength"), (1, .class_ 303), (0, u "oakwell/vm/Instruction$IfNotGreaterThanLength"), (1, .class_ 306), (0, u "oakwell/vm/Instruction$IfSame"), (1, .class_ 309), (0, u "oakwell/vm/Instruction$IfNotSame"), (1, .class_ 312), (0, u "oakwell/vm/Instruction$IfNull"), (1, .class_ 315), (0, u "oakwell/vm/Instruction$IfNotNull"), (1, .class_ 318), (0, u "oakwell/vm/Instruction$Goto"), (1, .class_ 321), (0, u "oakwell/vm/Instruction$TableSwitch"), (3, .class_ 326), (0, u "oakwell/vm/Instruction$LookupSwitch"), (1, .class_ 329), (0, u "oakwell/vm/Instruction$JumpToSubroutine"), (1, .class_ 332), (0, u "oakwell/vm/Instruction$ReturnFromSubroutine"), (1, .class_ 335), (0, u "oakwell/vm/Instruction$ReturnPrimitive"), (1, .class_ 338), (0, u "oakwell/vm/Instruction$ReturnNarrowed"), (1, .class_ 341), (0, u "oakwell/vm/Instruction$ReturnReference"), (1, .class_ 344), (0, u "oakwell/vm/Instruction$ReturnVoid"), (1, .class_ 347), (0, u "oakwell/vm/Instruction$SquareRoot"), (1, .class_ 350), (0, u "oakwell/vm/Instruction$Slow"), (21, u "RETURNED"), (2, u "INVOKED"), (1, u "BACKWARD"), (23, u "narrow"), (0, u "(CJ)J"), (3, .class_ 407), (0, u "oakwell/vm/Instruction$InstanceOf"), (0, .class_ 409), (0, u "oakwell/vm/Instruction$CheckCast"), (0, .class_ 411), (0, u "oakwell/vm/Instruction$TypeCheck"), (0, .class_ 413), (0, u "oakwell/vm/Instruction$NewArray"), (0, .class_ 415), (0, u "oakwell/vm/Instruction$New"), (0, .class_ 417), (0, u "oakwell/vm/Instruction$InvokeVirtual"), (0, .class_ 419), (0, u "oakwell/vm/Instruction$Inlined"), (0, .class_ 421), (0, u "oakwell/vm/Instruction$InvokeSpecial"), (0, .class_ 423), (0, u "oakwell/vm/Instruction$InvokeStatic"), (0, .class_ 425), (0, u "oakwell/vm/Instruction$PutFieldReference"), (0, .class_ 427), (0, u "oakwell/vm/Instruction$PutFieldPrimitive"), (0, .class_ 429), (0, u "oakwell/vm/Instruction$GetFieldReference"), (0, .class_ 431), (0, u "oakwell/vm/Instruction$GetFieldPrimitive"), (0, .class_ 433), (0, u "oakwell/vm/Instruction$PutStaticReference"), (0, .class_ 435), (0, u "oakwell/vm/Instruction$PutStaticPrimitive"), (0, .class_ 437), (0, u "oakwell/vm/Instruction$GetStaticReference"), (0, .class_ 439), (0, u "oakwell/vm/Instruction$GetStaticPrimitive"), (0, .class_ 441), (0, u "oakwell/vm/Instruction$LoadConstant"), (0, .class_ 443), (0, u "oakwell/vm/Instruction$Branch"), (0, .class_ 445), (0, u "oakwell/vm/Instruction$Pure")] 124

def k2c0 : Code := { maxStack := 4, maxLocals := 3, code := prog_87_method_13_code, exceptionTable := #[], attributes := #[] }
def k2m0 : Method := { name := "narrow", desc := "(CJ)J", sig := { parameters := [.char, .long], returnType := some .long }, accessFlags := 8, code := some k2c0 }
/-- oakwell/vm/Instruction -/
def k2 : Class := { plain "oakwell/vm/Instruction" (some 0) with
  accessFlags := 1056
  interfaces := #[]
  cf := some (fileOf pool2 14 #[.nestMembers #[406, 408, 410, 412, 414, 346, 416, 418, 420, 422, 424, 426, 428, 430, 432, 434, 436, 438, 440, 343, 340, 337, 334, 331, 328, 325, 320, 317, 314, 311, 308, 305, 302, 299, 296, 293, 290, 287, 284, 281, 278, 275, 272, 269, 266, 263, 260, 257, 254, 251, 442, 248, 245, 242, 239, 236, 233, 230, 227, 224, 221, 218, 215, 212, 209, 206, 203, 200, 197, 194, 191, 188, 185, 182, 179, 176, 173, 170, 167, 164, 161, 158, 155, 152, 149, 146, 143, 140, 135, 132, 129, 126, 123, 120, 117, 114, 111, 108, 105, 102, 99, 96, 93, 90, 87, 84, 81, 78, 75, 72, 69, 66, 63, 60, 57, 54, 51, 48, 45, 42, 37, 349, 444]] #[{ accessFlags := 8, nameIndex := 401, descriptorIndex := 402, attributes := #[] }] 1056 2 #[] #[{ accessFlags := 24, nameIndex := 372, descriptorIndex := 17, attributes := #[] }, { accessFlags := 24, nameIndex := 375, descriptorIndex := 17, attributes := #[] }, { accessFlags := 24, nameIndex := 377, descriptorIndex := 17, attributes := #[] }, { accessFlags := 16, nameIndex := 11, descriptorIndex := 17, attributes := #[] }, { accessFlags := 16, nameIndex := 20, descriptorIndex := 17, attributes := #[] }, { accessFlags := 16, nameIndex := 25, descriptorIndex := 17, attributes := #[] }, { accessFlags := 16, nameIndex := 30, descriptorIndex := 17, attributes := #[] }])
  fields := #[{ name := "RETURNED", type := .int, accessFlags := 24, slot := 0, constantValue := 0 }, { name := "INVOKED", type := .int, accessFlags := 24, slot := 1, constantValue := 0 }, { name := "BACKWARD", type := .int, accessFlags := 24, slot := 2, constantValue := 0 }, { name := "operation", type := .int, accessFlags := 16, slot := 0, constantValue := 0 }, { name := "operandA", type := .int, accessFlags := 16, slot := 1, constantValue := 0 }, { name := "operandB", type := .int, accessFlags := 16, slot := 2, constantValue := 0 }, { name := "operandC", type := .int, accessFlags := 16, slot := 3, constantValue := 0 }]
  methods := #[k2m0]
  instanceTypes := #[.int, .int, .int, .int]
  staticTypes := #[.int, .int, .int]
  resolved := Array.replicate 570 none
  statics := none }

def pool3 : Array CpInfo := pool [(1, u "java/lang/Cloneable"), (0, .class_ 1), (0, u "java/lang/Object"), (0, .class_ 3)] 3

/-- java/lang/Cloneable -/
def k3 : Class := { plain "java/lang/Cloneable" (some 0) with
  accessFlags := 1537
  interfaces := #[]
  cf := some (fileOf pool3 2 #[] #[] 1537 4 #[] #[])
  fields := #[]
  methods := #[]
  instanceTypes := #[]
  staticTypes := #[]
  resolved := Array.replicate 8 none
  statics := none }

def pool4 : Array CpInfo := pool [(1, u "java/io/Serializable"), (0, .class_ 1), (0, u "java/lang/Object"), (0, .class_ 3)] 3

/-- java/io/Serializable -/
def k4 : Class := { plain "java/io/Serializable" (some 0) with
  accessFlags := 1537
  interfaces := #[]
  cf := some (fileOf pool4 2 #[] #[] 1537 4 #[] #[])
  fields := #[]
  methods := #[]
  instanceTypes := #[]
  staticTypes := #[]
  resolved := Array.replicate 8 none
  statics := none }

/-- the primitive byte -/
def k5 : Class := { plain "byte" none with kind := .primitive 'B', accessFlags := 0x411 }
/-- [B -/
def k6 : Class := { plain "[B" (some 0) with kind := .array 5 .byte, interfaces := #[3, 4], accessFlags := 1041 }

/-- the primitive char -/
def k7 : Class := { plain "char" none with kind := .primitive 'C', accessFlags := 0x411 }
/-- [C -/
def k8 : Class := { plain "[C" (some 0) with kind := .array 7 .char, interfaces := #[3, 4], accessFlags := 1041 }

/-- the primitive int -/
def k9 : Class := { plain "int" none with kind := .primitive 'I', accessFlags := 0x411 }
/-- [I -/
def k10 : Class := { plain "[I" (some 0) with kind := .array 9 .int, interfaces := #[3, 4], accessFlags := 1041 }

def heap : Heap := #[]
def classes : Array Class := #[k0, k1, k2, k3, k4, k5, k6, k7, k8, k9, k10]
def interned : List (Array UInt16 × Addr) := []
def slotsUsed : Nat := 0
def theMethod : MethodId := ⟨1, 1⟩
def args0 : Array Value := #[.int 5, .int 1, .long 7]
def aboutOver (below : List Frame) : State where
  vm := { classes := classes, interned := interned.toArray }
  heap := heap
  slotsUsed := slotsUsed
  threads := #[{ frames := .invoking theMethod args0 :: below }]
def below0 : List Frame := [.native { method := ⟨0, 0⟩, args := #[] }]
def about1 : State := aboutOver below0
def p0 : Program := .bare "" "" ""
def e0 : Env := launch0.env 0 0 0
theorem w_frames : about1.frames = Frame.invoking theMethod args0 :: below0 := rfl
set_option maxRecDepth 65536 in
theorem w_args : argsFit about1.vm theMethod args0 = true := by decide +kernel
set_option maxRecDepth 65536 in
theorem w_heap : heapFits about1 = true := by decide +kernel
set_option maxRecDepth 65536 in
theorem w_runnable : about1.curStatus? = some .runnable := by decide +kernel
set_option maxRecDepth 65536 in
theorem w_alone : about1.alone = true := by decide +kernel
set_option maxRecDepth 65536 in
theorem w_named : about1.methodNamed? x = some theMethod := by decide +kernel
set_option maxRecDepth 65536 in
theorem w_hears : about1.hears theMethod below0 = true := by decide +kernel
set_option maxRecDepth 65536 in
theorem w_ripe : about1.ripe theMethod args0 below0 = true := by decide +kernel
theorem w_running : about1.status = .running := rfl
set_option maxRecDepth 65536 in
theorem w_room : about1.hasRoom e0.platform room_1 = true :=
  launch0.hasRoom_least _ room_1 (by decide +kernel) (by decide +kernel) (by decide +kernel) (by decide +kernel) (by decide +kernel) (by decide +kernel)
theorem allAtoms_all (ts : List Jvm.Cond) (a : Array Jvm.Value) (st : Jvm.State) : (allAtoms ts).before a st = ts.all (fun c => c.before a st) := by
  induction ts with
  | nil => rfl
  | cons c t ih =>
    show (Jvm.Cond.and c (allAtoms t)).before a st = _
    rw [Jvm.Cond.before_and, ih, List.all_cons]
def words1 : List Jvm.Cond := Jvm.Cond.code x code maxLocals ret :: tables_1
/-- a 'code' word, met by the world's own term for the bytes: nothing is compared byte by byte -/
theorem code_word {y : MethodName} {bytes : ByteArray} {mx : Nat} {rt : Option FieldType} {a : Array Value} {s : State} {m : MethodId} {meth : Method} {c : Code} (h1 : s.methodNamed? y = some m) (h2 : s.vm.method? m = some meth) (h3 : meth.code = some c) (h4 : c.code = bytes)
    (h5 : (c.maxLocals == mx && c.exceptionTable.isEmpty && decide (c.maxStack ≤ mostOperands) && decide (meth.sig.returnType = rt) && !meth.locks && decide (parseMethodDescriptor y.desc = some meth.sig)) = true) : (Jvm.Cond.code y bytes mx rt).before a s = true := by
  simp only [Bool.and_eq_true, beq_iff_eq, Bool.not_eq_true', decide_eq_true_eq] at h5
  obtain ⟨⟨⟨⟨⟨g1, g2⟩, g3⟩, g4⟩, g5⟩, g6⟩ := h5
  simp [Cond.before, Cond.holds, Cond.value, h1, h2, h3, h4, g1, g2, g3, g4, g5, g6]
def isCode : Jvm.Cond → Bool
  | .code _ _ _ _ => true
  | _ => false
theorem all_split {L : List Jvm.Cond} {P : Jvm.Cond → Bool} (h1 : L.all (fun c => isCode c || P c) = true) (h2 : ∀ c ∈ L.filter isCode, P c = true) : L.all P = true := by
  refine List.all_eq_true.mpr fun c hc => ?_
  have h := List.all_eq_true.mp h1 c hc
  rcases Bool.eq_false_or_eq_true (isCode c) with hi | hi
  · exact h2 c (List.mem_filter.mpr ⟨hc, hi⟩)
  · simpa [hi] using h
set_option maxRecDepth 65536 in
theorem w_c0 : (Jvm.Cond.code x code maxLocals ret).before args0 about1 = true := code_word (m := ⟨1, 1⟩) (meth := k1m1) (c := k1c1) (by decide +kernel) rfl rfl rfl (by decide +kernel)
set_option maxRecDepth 65536 in
theorem w_c1 : (Jvm.Cond.code ({ cls := "oakwell/vm/Instruction", name := "narrow", desc := "(CJ)J" } : Jvm.MethodName) prog_87_method_13_code (3 : Nat) (Option.some Jvm.ClassFile.FieldType.long)).before args0 about1 = true := code_word (m := ⟨2, 0⟩) (meth := k2m0) (c := k2c0) (by decide +kernel) rfl rfl rfl (by decide +kernel)
def codes1 : List Jvm.Cond := [Jvm.Cond.code x code maxLocals ret, Jvm.Cond.code ({ cls := "oakwell/vm/Instruction", name := "narrow", desc := "(CJ)J" } : Jvm.MethodName) prog_87_method_13_code (3 : Nat) (Option.some Jvm.ClassFile.FieldType.long)]
set_option maxRecDepth 65536 in
theorem codes_eq : words1.filter isCode = codes1 := rfl
theorem w_codes : ∀ c ∈ words1.filter isCode, c.before args0 about1 = true := by
  rw [codes_eq]
  intro c hc
  simp only [codes1, List.mem_cons, List.not_mem_nil, or_false] at hc
  rcases hc with rfl | rfl
  · exact w_c0
  · exact w_c1
set_option maxRecDepth 65536 in
theorem w_t1 : words1.all (fun c => isCode c || c.before args0 about1) = true := by decide +kernel
theorem w_tables : (allAtoms (Jvm.Cond.code x code maxLocals ret :: tables_1)).before args0 about1 = true := by
  rw [allAtoms_all]
  show words1.all (fun c => c.before args0 about1) = true
  refine all_split ?_ w_codes
  rw [w_t1]
set_option maxRecDepth 65536 in
theorem w_case : (Jvm.Cond.and given_1 narrow_1).before args0 about1 = true := by decide +kernel
theorem w_applies : (headSpec (Jvm.Cond.code x code maxLocals ret :: tables_1) room_1).applies x e0.platform about1 = true :=
  (Spec.applies_iff w_frames).mpr ⟨w_running, w_runnable, w_alone, w_named, w_hears, w_ripe, w_room, w_tables⟩
theorem atStart : AtStart classFile x code maxLocals ret World_1 tables_1 room_1 Calls_1 rest_1 Pre_1 launch0 p0 e0 about1 theMethod args0 below0 :=
  ⟨lists_1, trivial, launch0.admits_env _ _ _, launch0.least_env, fairChoices_fair.cas, fairChoices_fair.clock, w_frames, w_args, w_heap, w_applies, trivial, trivial, w_case⟩
end start1
theorem witness_1 : WitnessClaimed_1 := ⟨start1.p0, start1.e0, start1.about1, start1.theMethod, start1.args0, start1.below0, start1.atStart⟩
end Jvm.Pilot.@@N@@
