import JvmDerived
import JvmDerived.Pilot.@@N@@Statement
import JvmDerived.Pilot.@@N@@Code
set_option linter.unusedVariables false
set_option linter.unusedSimpArgs false
@@BLOCK:NumsL.lean.txt@@
set_option maxRecDepth 65536
namespace Jvm.Pilot.@@N@@
open Jvm Jvm.ClassFile Sem Op Lib Jvm.Free Jvm.Stand Jvm.LawKit Jvm.RoadKit Bundle Jvm.Pilot.@@N@@.Jvm.D
/-! OWN KIT: the walk in continuation style over lawnew's family -/
section OwnKit
variable {p : Program} {l : Launch} {e : Env} {R : Room} {s : State} {m : MethodId} {args : Array Value} {below : List Frame} {meth : Method} {c : Code} {T : State} {locs : List Loc} {cells slots : Nat} {Z : State} {a0 : Array Value} {h : Heap} {K : Outcome → State → Prop} {Q : Option Value → Heap → List Loc → Prop} {rc rs : Nat}
/-- from the frame g over T the run comes to its end, and K holds there -/
def Go (p : Program) (e : Env) (below : List Frame) (K : Outcome → State → Prop) (T : State) (g : JFrame) : Prop :=
  ∃ s₂ o, Steps p.tables e below (T.setTop g) s₂ ∧ s₂.status = .running ∧ Ended s₂ below o ∧ K o s₂
theorem Go.to {T T' : State} {g g' : JFrame} (st : ∀ t, Steps p.tables e below (T'.setTop g') t → Steps p.tables e below (T.setTop g) t) (k : Go p e below K T' g') : Go p e below K T g := by
  obtain ⟨s₂, o, h1, h2⟩ := k
  exact ⟨s₂, o, st _ h1, h2⟩
def KQ (s : State) (Q : Option Value → Heap → List Loc → Prop) (rc rs : Nat) : Outcome → State → Prop := fun o U => ∃ v L, o = .returned v ∧ Q v U.heap L ∧ FrameEnd s o U L rc rs
theorem Go.retW (X : Stand p l e R s m args below meth c T locs cells slots) (hx : p.tables.exec = Jvm.exec) (hlk : meth.locks = false) {pc : Nat} {Ls : Array Slot} {w : Value} {t : FieldType} {i : Instr} {rest : List Value} (hret : meth.sig.returnType = some t) (hn : narrow t w = w)
    (hi : (i = .ireturn ∧ (t = .int ∨ t = .boolean ∨ t = .byte ∨ t = .char ∨ t = .short) ∧ ∃ z, w = .int z) ∨ (i = .lreturn ∧ t = .long ∧ ∃ z, w = .long z) ∨ (i = .dreturn ∧ t = .double ∧ ∃ z, w = .double z) ∨ (i = .freturn ∧ t = .float ∧ ∃ z, w = .float z) ∨ (i = .areturn ∧ t.isReference = true ∧ w.isRef = true))
    (hd : decode c.code pc = .ok (i, 1)) (hq : Q (some w) T.heap locs) (hc : cells ≤ rc) (hs : slots ≤ rs) : Go p e below (KQ s Q rc rs) T (mkF m pc Ls (w :: rest)) := by
  obtain ⟨fs, hr, hrun, hended, hW, hsame⟩ := X.leave (v := some w) (fun h => by rw [hret] at h; cases h) hlk
  exact ⟨_, _, retOut X hx hret hn hi hd hr, hrun, hended, _, _, rfl, hq, ⟨_, rfl⟩, hW, hsame.mono hc hs⟩
theorem Go.retI (X : Stand p l e R s m args below meth c T locs cells slots) (hx : p.tables.exec = Jvm.exec) (hlk : meth.locks = false) {pc : Nat} {Ls : Array Slot} {z : Int32} {rest : List Value} (hret : meth.sig.returnType = some .int)
    (hd : decode c.code pc = .ok (.ireturn, 1)) (hq : Q (some (.int z)) T.heap locs) (hc : cells ≤ rc) (hs : slots ≤ rs) : Go p e below (KQ s Q rc rs) T (mkF m pc Ls (.int z :: rest)) :=
  Go.retW X hx hlk hret rfl (Or.inl ⟨rfl, Or.inl rfl, z, rfl⟩) hd hq hc hs
theorem Go.retJ (X : Stand p l e R s m args below meth c T locs cells slots) (hx : p.tables.exec = Jvm.exec) (hlk : meth.locks = false) {pc : Nat} {Ls : Array Slot} {z : Int64} {rest : List Value} (hret : meth.sig.returnType = some .long)
    (hd : decode c.code pc = .ok (.lreturn, 1)) (hq : Q (some (.long z)) T.heap locs) (hc : cells ≤ rc) (hs : slots ≤ rs) : Go p e below (KQ s Q rc rs) T (mkF m pc Ls (.long z :: rest)) :=
  Go.retW X hx hlk hret rfl (Or.inr (Or.inl ⟨rfl, rfl, z, rfl⟩)) hd hq hc hs
theorem Go.retZ (X : Stand p l e R s m args below meth c T locs cells slots) (hx : p.tables.exec = Jvm.exec) (hlk : meth.locks = false) {pc : Nat} {Ls : Array Slot} {z : Int32} {rest : List Value} (hret : meth.sig.returnType = some .boolean) (hz : z = 0 ∨ z = 1)
    (hd : decode c.code pc = .ok (.ireturn, 1)) (hq : Q (some (.int z)) T.heap locs) (hc : cells ≤ rc) (hs : slots ≤ rs) : Go p e below (KQ s Q rc rs) T (mkF m pc Ls (.int z :: rest)) :=
  Go.retW X hx hlk hret (by rcases hz with rfl | rfl <;> rfl) (Or.inl ⟨rfl, Or.inr (Or.inl rfl), z, rfl⟩) hd hq hc hs
theorem Go.retA (X : Stand p l e R s m args below meth c T locs cells slots) (hx : p.tables.exec = Jvm.exec) (hlk : meth.locks = false) {pc : Nat} {Ls : Array Slot} {w : Value} {t : FieldType} {rest : List Value} (hret : meth.sig.returnType = some t) (ht : t.isReference = true) (hw : w.isRef = true) (hn : narrow t w = w)
    (hd : decode c.code pc = .ok (.areturn, 1)) (hq : Q (some w) T.heap locs) (hc : cells ≤ rc) (hs : slots ≤ rs) : Go p e below (KQ s Q rc rs) T (mkF m pc Ls (w :: rest)) :=
  Go.retW X hx hlk hret hn (Or.inr (Or.inr (Or.inr (Or.inr ⟨rfl, ht, hw⟩)))) hd hq hc hs
theorem Go.retV (X : Stand p l e R s m args below meth c T locs cells slots) (hx : p.tables.exec = Jvm.exec) (hlk : meth.locks = false) {pc : Nat} {Ls : Array Slot} (hret : meth.sig.returnType = none)
    (hd : decode c.code pc = .ok (.return_, 1)) (hq : Q none T.heap locs) (hc : cells ≤ rc) (hs : slots ≤ rs) : Go p e below (KQ s Q rc rs) T (mkF m pc Ls []) := by
  obtain ⟨fs, hr, hrun, hended, hW, hsame⟩ := X.leave (v := none) (fun _ => rfl) hlk
  exact ⟨_, _, X.returnOut hx hret hd hr, hrun, hended, _, _, rfl, hq, ⟨_, rfl⟩, hW, hsame.mono hc hs⟩
/-- a contract in this family -/
abbrev Met1 (l : Launch) (Z : State) (y : MethodName) (bytes : ByteArray) (maxL : Nat) (ret : Option FieldType) (ws : List Jvm.Cond) (rm : Room) (as' : Array Value) (h0 : Heap) (Q : Option Value → Heap → List Loc → Prop) : Prop :=
  MetFree l y (head1 (Jvm.Cond.code y bytes maxL ret :: ws) rm) (fun a U => a = as' ∧ Z.Warmed39 U.vm ∧ U.heap = h0) (fun _ _ _ _ _ => True) (fun _ U o U' => ∃ v L, o = .returned v ∧ Q v U'.heap L ∧ FrameEnd U o U' L rm.cells rm.slots)
theorem metOf {y : MethodName} {bytes : ByteArray} {maxL : Nat} {ret : Option FieldType} {ws : List Jvm.Cond} {rm : Room} {as' : Array Value} {h0 : Heap} (hp : plainFor y = true)
    (body : ∀ (p : Program) (e : Env) (s : State) (m : MethodId) (below : List Frame) (meth : Method) (c : Code) (s₁ : State), p.tables.exec = Jvm.exec → c.code = bytes → c.maxLocals = maxL → s.vm.findClass y.cls = some m.cls → meth.name = y.name → meth.sig.returnType = ret → meth.locks = false → Z.Warmed39 s.vm →
      Stand p l e rm s m as' below meth c s₁ [] 0 0 → s₁.heap = h0 → Go p e below (KQ s Q rm.cells rm.slots) s₁ (entryFrame m as' maxL)) : Met1 l Z y bytes maxL ret ws rm as' h0 Q := by
  refine MetFree.of_bodySF hp hisR ?_
  intro p e s m args below meth c s₁ Bd hml0 hP hK
  obtain ⟨rfl, hZ, hh⟩ := hP
  exact body p e s m below meth c s₁ Bd.exec Bd.bytes hml0 (findClass_of_methodNamed Bd.named) (name_of_methodNamed Bd.named Bd.method).1 Bd.returns (BodyLoose.notSynchronized Bd) hZ (Stand.of_body Bd) (by rw [← hh, Bd.state]; rfl)
section Calls
variable {own : String} {index : Nat} {y : MethodName} {bytes : ByteArray} {maxL : Nat} {ret : Option FieldType} {rm : Room} {as' : Array Value} {pc : Nat} {Ls : Array Slot} {st rest argsL : List Value} {ps : List FieldType} {r : Option FieldType}
theorem Go.callS (X : Stand p l e R s m args below meth c T locs cells slots) (hx : p.tables.exec = Jvm.exec) (hZ : Z.Warmed39 s.vm) (hown : s.vm.findClass own = some m.cls)
    (w1 : (Cond.methodLink own index y).before a0 Z = true) (w2 : (Cond.static y).before a0 Z = true) (w3 : (Cond.initialized y.cls).before a0 Z = true) (w4 : (Cond.code y bytes maxL ret).before a0 Z = true)
    (hy : y.cls ≠ "java/lang/invoke/MethodHandle" ∧ y.cls ≠ "java/lang/invoke/VarHandle") (hM : Met1 l Z y bytes maxL ret [] rm as' h Q) (eT : T.heap = h) (hsize : Ls.size = c.maxLocals)
    (hpd : parseMethodDescriptor y.desc = some ⟨ps, r⟩) (hlen : argsL.length = ps.length) (hst : st = argsL.reverse ++ rest) (has : argsL.toArray = as') (hdc : decode c.code pc = .ok (.invokestatic index, 3))
    (hf : rm.frames + 1 ≤ R.frames) (hlo : (rest.map fun v => v.category).sum + (maxL + 11) + rm.locals ≤ R.locals) (hce : cells + rm.cells ≤ R.cells) (hsl : slots + rm.slots ≤ R.slots)
    (k : ∀ T' v L, Stand p l e R s m args below meth c T' (locs ++ L) (cells + rm.cells) (slots + rm.slots) → Q v T'.heap L → Go p e below K T' (mkF m (pc + 3) Ls (v.toList ++ rest))) : Go p e below K T (mkF m pc Ls st) := by
  obtain ⟨v, vm₁, ⟨T', L', c', n'⟩, -, X', ⟨L, hQ, e1, e2, e3⟩, st'⟩ := Jvm.LawKit.callS X hx hown (mvT hZ w1) (mvT hZ w2) (mvT hZ w3) (mvT hZ w4) hy (backOf (W := (rest.map fun v => v.category).sum) hM hZ w4 w3 hf hlo) (g := mkF m pc Ls st) rfl hsize (argsL := argsL) (rest := rest) (lenOf hpd hlen) hst (by show 2 * 0 + _ ≤ _; omega) hdc (fun _ _ => ⟨has, eT, hce, hsl⟩)
  dsimp only [Pt.U, Pt.locs, Pt.cells, Pt.slots] at X' e1 e2 e3 st' hQ
  subst e1 e2 e3
  exact Go.to st' (k T' v L X' hQ)
theorem Go.callI (X : Stand p l e R s m args below meth c T locs cells slots) (hx : p.tables.exec = Jvm.exec) (hZ : Z.Warmed39 s.vm) (hown : s.vm.findClass own = some m.cls) (hin : y.name = "<init>")
    (w1 : (Cond.methodLink own index y).before a0 Z = true) (w2 : (Cond.instanceMethod y).before a0 Z = true) (w3 : (Cond.initialized y.cls).before a0 Z = true) (w4 : (Cond.code y bytes maxL none).before a0 Z = true)
    (hy : y.cls ≠ "java/lang/invoke/MethodHandle" ∧ y.cls ≠ "java/lang/invoke/VarHandle") (hM : Met1 l Z y bytes maxL none [] rm as' h Q) (eT : T.heap = h) (hsize : Ls.size = c.maxLocals)
    (hpd : parseMethodDescriptor y.desc = some ⟨ps, r⟩) (hlen : argsL.length = ps.length) {a : Addr} (hst : st = argsL.reverse ++ .ref a :: rest) (has : (Value.ref a :: argsL).toArray = as') (hdc : decode c.code pc = .ok (.invokespecial index, 3))
    (hf : rm.frames + 1 ≤ R.frames) (hlo : (rest.map fun v => v.category).sum + (maxL + 11) + rm.locals ≤ R.locals) (hce : cells + rm.cells ≤ R.cells) (hsl : slots + rm.slots ≤ R.slots)
    (k : ∀ T' v L, Stand p l e R s m args below meth c T' (locs ++ L) (cells + rm.cells) (slots + rm.slots) → Q v T'.heap L → Go p e below K T' (mkF m (pc + 3) Ls (v.toList ++ rest))) : Go p e below K T (mkF m pc Ls st) := by
  obtain ⟨v, vm₁, ⟨T', L', c', n'⟩, -, X', ⟨L, hQ, e1, e2, e3⟩, st'⟩ := X.specialBack hx hin hown (mvT hZ w1) (mvT hZ w2) (mvT hZ w4) hy (backOf (W := (rest.map fun v => v.category).sum) hM hZ w4 w3 hf hlo) (g := mkF m pc Ls st) rfl hsize (Steps.refl _) (a := a) (argsL := argsL) (rest := rest) (lenOf hpd hlen) hst (by show 2 * 0 + _ ≤ _; omega) hdc (fun _ _ => ⟨has, eT, hce, hsl⟩)
  dsimp only [Pt.U, Pt.locs, Pt.cells, Pt.slots] at X' e1 e2 e3 st' hQ
  subst e1 e2 e3
  exact Go.to (fun _ q => st'.trans q) (k T' v L X' hQ)
theorem Go.callV (X : Stand p l e R s m args below meth c T locs cells slots) (hx : p.tables.exec = Jvm.exec) (hZ : Z.Warmed39 s.vm) (hown : s.vm.findClass own = some m.cls)
    (w1 : (Cond.methodLink own index y).before a0 Z = true) (w5 : (Cond.declares y).before a0 Z = true) {C : String} (w6 : (Cond.selects C y y).before a0 Z = true) (w2 : (Cond.instanceMethod y).before a0 Z = true) (w3 : (Cond.initialized y.cls).before a0 Z = true) (w4 : (Cond.code y bytes maxL ret).before a0 Z = true)
    (hy : y.cls ≠ "java/lang/invoke/MethodHandle" ∧ y.cls ≠ "java/lang/invoke/VarHandle") (hM : Met1 l Z y bytes maxL ret [] rm as' h Q) (eT : T.heap = h) {a : Addr} (E : Exa Z h a C) (hsize : Ls.size = c.maxLocals)
    (hpd : parseMethodDescriptor y.desc = some ⟨ps, r⟩) (hlen : argsL.length = ps.length) (hst : st = argsL.reverse ++ .ref a :: rest) (has : (Value.ref a :: argsL).toArray = as') (hdc : decode c.code pc = .ok (.invokevirtual index, 3))
    (hf : rm.frames + 1 ≤ R.frames) (hlo : (rest.map fun v => v.category).sum + (maxL + 11) + rm.locals ≤ R.locals) (hce : cells + rm.cells ≤ R.cells) (hsl : slots + rm.slots ≤ R.slots)
    (k : ∀ T' v L, Stand p l e R s m args below meth c T' (locs ++ L) (cells + rm.cells) (slots + rm.slots) → Q v T'.heap L → Go p e below K T' (mkF m (pc + 3) Ls (v.toList ++ rest))) : Go p e below K T (mkF m pc Ls st) := by
  obtain ⟨cq, kq, q1, q2, q3⟩ := isOf hZ eT E
  obtain ⟨v, vm₁, ⟨T', L', c', n'⟩, -, X', ⟨L, hQ, e1, e2, e3⟩, st'⟩ := X.virtualBack hx (y := y) (z := y) hown (mvT hZ w1) (mvT hZ w5) (notFace_of_selects (args := #[]) (mvT hZ w6)) (mvT hZ w6) (mvT hZ w2) hy (backOf (W := (rest.map fun v => v.category).sum) hM hZ w4 w3 hf hlo) q1 q3 (g := mkF m pc Ls st) rfl hsize (Steps.refl _) (argsL := argsL) (rest := rest) (lenOf hpd hlen) hst (by show 2 * 0 + _ ≤ _; omega) hdc (fun _ _ => ⟨has, eT, hce, hsl⟩)
  dsimp only [Pt.U, Pt.locs, Pt.cells, Pt.slots] at X' e1 e2 e3 st' hQ
  subst e1 e2 e3
  exact Go.to (fun _ q => st'.trans q) (k T' v L X' hQ)
end Calls
/-! arrays of ints (or of chars) by their list -/
def AV (Z : State) (h : Heap) (b : Addr) (ty : FieldType) (xs : List Int32) : Prop := ∃ cl : Cell, Arr Z h b cl ty ∧ cl.slots = (xs.map Value.int).toArray
def rdL (xs : List Int32) (j : Int32) : Option Int32 := if j < 0 then none else xs[j.toNatClampNeg]?
def wrL (xs : List Int32) (j v : Int32) : List Int32 := xs.set j.toNatClampNeg v
variable {b : Addr} {xs : List Int32} {j v w : Int32} {ty : FieldType} {h' : Heap}
theorem AV.lt (A : AV Z h b ty xs) : b < h.size := by obtain ⟨cl, A, -⟩ := A; exact A.lt
theorem AV.ext (A : AV Z h b ty xs) (E : Ext h h') : AV Z h' b ty xs := by obtain ⟨cl, A, q⟩ := A; exact ⟨cl, A.ext E, q⟩
theorem AV.other {a : Addr} {sl : Nat} {u : Value} (A : AV Z h b ty xs) (W : Wr h h' a sl u) (q : b ≠ a) : AV Z h' b ty xs := by obtain ⟨cl, A, r⟩ := A; exact ⟨cl, A.other W q, r⟩
theorem AV.keep {ws : List Addr} (A : AV Z h b ty xs) (Kp : Keep h h' ws) (q : b ∉ ws) : AV Z h' b ty xs := by obtain ⟨cl, A, r⟩ := A; exact ⟨cl, ⟨Kp.2.1 b cl A.1 q, A.2⟩, r⟩
theorem AV.same {n : Nat} (A : AV Z h b ty xs) (W : Wr h h' b n (.int v)) : AV Z h' b ty (xs.set n v) := by
  obtain ⟨cl, A, r⟩ := A
  refine ⟨_, A.same W, ?_⟩
  simp only [Cell.setSlot, r, List.setIfInBounds_toArray, List.map_set]
theorem AV.rd (A : AV Z h b ty xs) (hr : rdL xs j = some v) : ∃ cl : Cell, Arr Z h b cl ty ∧ ¬ (j < 0 ∨ cl.slots.size ≤ j.toNatClampNeg) ∧ cl.slots[j.toNatClampNeg]? = some (.int v) := by
  obtain ⟨cl, A, r⟩ := A
  unfold rdL at hr
  split at hr
  · cases hr
  · rename_i hj
    obtain ⟨hlt, hv⟩ := List.getElem?_eq_some_iff.mp hr
    refine ⟨cl, A, ?_, ?_⟩
    · rw [r]; simp only [List.size_toArray, List.length_map]; rintro (q | q)
      · exact hj q
      · omega
    · rw [r]; simp [hlt, hv]
theorem AV.new {cA : ClassId} {n : Int32} (A : Arr Z h b (newA cA .int n) .int) : AV Z h b .int (List.replicate n.toNatClampNeg 0) := ⟨_, A, by simp [newA, defaultValue]⟩
theorem AV.newC {cA : ClassId} {n : Int32} (A : Arr Z h b (newA cA .char n) .char) : AV Z h b .char (List.replicate n.toNatClampNeg 0) := ⟨_, A, by simp [newA, defaultValue]⟩
variable {pc : Nat} {Ls : Array Slot} {rest : List Value}
theorem Go.iaload (X : Stand p l e R s m args below meth c T locs cells slots) (hx : p.tables.exec = Jvm.exec) (hZ : Z.Warmed39 s.vm) (eT : T.heap = h) (A : AV Z h b .int xs) (hr : rdL xs j = some v) (hd : decode c.code pc = .ok (.iaload, 1))
    (k : Go p e below K T (mkF m (pc + 1) Ls (.int v :: rest))) : Go p e below K T (mkF m pc Ls (.int j :: .ref b :: rest)) := by
  obtain ⟨cl, A, h1, h2⟩ := A.rd hr
  exact Go.to (fun t q => X.iaload hx (by rw [eT]; exact A.1) (State.isArrayOf_alike hZ.alike A.2.1) A.2.2 h1 h2 (g := mkF m pc Ls (.int j :: .ref b :: rest)) rfl rfl hd t q) k
theorem Go.caload (X : Stand p l e R s m args below meth c T locs cells slots) (hx : p.tables.exec = Jvm.exec) (hZ : Z.Warmed39 s.vm) (eT : T.heap = h) (A : AV Z h b .char xs) (hr : rdL xs j = some v) (hd : decode c.code pc = .ok (.caload, 1))
    (k : Go p e below K T (mkF m (pc + 1) Ls (.int v :: rest))) : Go p e below K T (mkF m pc Ls (.int j :: .ref b :: rest)) := by
  obtain ⟨cl, A, h1, h2⟩ := A.rd hr
  exact Go.to (fun t q => X.caload hx (by rw [eT]; exact A.1) (State.isArrayOf_alike hZ.alike A.2.1) A.2.2 h1 h2 (g := mkF m pc Ls (.int j :: .ref b :: rest)) rfl rfl hd t q) k
theorem Go.alen (X : Stand p l e R s m args below meth c T locs cells slots) (hx : p.tables.exec = Jvm.exec) (hZ : Z.Warmed39 s.vm) (eT : T.heap = h) (A : AV Z h b ty xs) (hd : decode c.code pc = .ok (.arraylength, 1))
    (k : Go p e below K T (mkF m (pc + 1) Ls (.int xs.length.toInt32 :: rest))) : Go p e below K T (mkF m pc Ls (.ref b :: rest)) := by
  obtain ⟨cl, A, r⟩ := A
  refine Go.to (fun t q => X.arraylength hx (by rw [eT]; exact A.1) (State.isArrayOf_alike hZ.alike A.2.1) (g := mkF m pc Ls (.ref b :: rest)) rfl rfl hd t q) ?_
  simpa [r] using k
theorem Go.iastore (X : Stand p l e R s m args below meth c T locs cells slots) (hx : p.tables.exec = Jvm.exec) (hZ : Z.Warmed39 s.vm) (eT : T.heap = h) (A : AV Z h b .int xs) (hr : rdL xs j = some w) (hd : decode c.code pc = .ok (.iastore, 1))
    (k : ∀ T' h', Stand p l e R s m args below meth c T' (locs ++ [⟨b, j.toNatClampNeg⟩]) cells slots → T'.heap = h' → Wr h h' b j.toNatClampNeg (.int v) → AV Z h' b .int (wrL xs j v) → Go p e below K T' (mkF m (pc + 1) Ls rest)) : Go p e below K T (mkF m pc Ls (.int v :: .int j :: .ref b :: rest)) := by
  obtain ⟨cl, A', h1, h2⟩ := A.rd hr
  obtain ⟨T', h', X', e', W, st⟩ := stI X hx hZ eT A' (j := j) h1 (g := mkF m pc Ls (.int v :: .int j :: .ref b :: rest)) rfl rfl hd
  exact Go.to st (k T' h' X' e' W (A.same W))
theorem Go.castore (X : Stand p l e R s m args below meth c T locs cells slots) (hx : p.tables.exec = Jvm.exec) (hZ : Z.Warmed39 s.vm) (eT : T.heap = h) (A : AV Z h b .char xs) (hr : rdL xs j = some w) (hn : nar .char v = v) (hd : decode c.code pc = .ok (.castore, 1))
    (k : ∀ T' h', Stand p l e R s m args below meth c T' (locs ++ [⟨b, j.toNatClampNeg⟩]) cells slots → T'.heap = h' → Wr h h' b j.toNatClampNeg (.int v) → AV Z h' b .char (wrL xs j v) → Go p e below K T' (mkF m (pc + 1) Ls rest)) : Go p e below K T (mkF m pc Ls (.int v :: .int j :: .ref b :: rest)) := by
  obtain ⟨cl, A', h1, h2⟩ := A.rd hr
  obtain ⟨T', h', X', e', W, st⟩ := stC X hx hZ eT A' (j := j) h1 (g := mkF m pc Ls (.int v :: .int j :: .ref b :: rest)) rfl rfl hd
  rw [hn] at W
  exact Go.to st (k T' h' X' e' W (A.same W))
theorem Go.newI (X : Stand p l e R s m args below meth c T locs cells slots) (hx : p.tables.exec = Jvm.exec) (hZ : Z.Warmed39 s.vm) (wa : (Cond.arrayClass .int).before a0 Z = true) (eT : T.heap = h) (hd : decode c.code pc = .ok (.newarray .int, 2)) {n : Int32} (hn : ¬ n < 0) {cap : Nat} (hcap : n.toNatClampNeg ≤ cap) (hb : cap * 8 ≤ 536870912) (hc : cells + 1 ≤ R.cells) (hl : slots + cap ≤ R.slots)
    (k : ∀ T' h' b, Stand p l e R s m args below meth c T' locs (cells + 1) (slots + cap) → T'.heap = h' → Ext h h' → b = h.size → AV Z h' b .int (List.replicate n.toNatClampNeg 0) → Go p e below K T' (mkF m (pc + 2) Ls (.ref b :: rest))) : Go p e below K T (mkF m pc Ls (.int n :: rest)) := by
  obtain ⟨T', h', cA, X', e', E, A, st⟩ := newP X hx hZ (aty := .int) wa eT (g := mkF m pc Ls (.int n :: rest)) rfl hd rfl hn hcap hb hc hl
  exact Go.to st (k T' h' _ X' e' E rfl (AV.new A))
theorem Go.newC (X : Stand p l e R s m args below meth c T locs cells slots) (hx : p.tables.exec = Jvm.exec) (hZ : Z.Warmed39 s.vm) (wa : (Cond.arrayClass .char).before a0 Z = true) (eT : T.heap = h) (hd : decode c.code pc = .ok (.newarray .char, 2)) {n : Int32} (hn : ¬ n < 0) {cap : Nat} (hcap : n.toNatClampNeg ≤ cap) (hb : cap * 8 ≤ 536870912) (hc : cells + 1 ≤ R.cells) (hl : slots + cap ≤ R.slots)
    (k : ∀ T' h' b, Stand p l e R s m args below meth c T' locs (cells + 1) (slots + cap) → T'.heap = h' → Ext h h' → b = h.size → AV Z h' b .char (List.replicate n.toNatClampNeg 0) → Go p e below K T' (mkF m (pc + 2) Ls (.ref b :: rest))) : Go p e below K T (mkF m pc Ls (.int n :: rest)) := by
  obtain ⟨T', h', cA, X', e', E, A, st⟩ := newP X hx hZ (aty := .char) wa eT (g := mkF m pc Ls (.int n :: rest)) rfl hd rfl hn hcap hb hc hl
  exact Go.to st (k T' h' _ X' e' E rfl (AV.newC A))
theorem frOne {k n : Nat} {L : List Loc} (N : Fr k L) (q : k ≤ b) : Fr k (L ++ [⟨b, n⟩]) := N.app fun y hy => by cases List.mem_singleton.mp hy; exact q
end OwnKit
/-! OWN KIT, second part: an object by its fields nF (name, descriptor) and their values vs, with its int arrays at ad and what they hold -/
section OwnObj
variable {p : Program} {l : Launch} {e : Env} {R : Room} {s : State} {m : MethodId} {args : Array Value} {below : List Frame} {meth : Method} {c : Code} {T : State} {locs : List Loc} {cells slots : Nat} {Z : State} {a0 : Array Value} {h h' hb : Heap} {K : Outcome → State → Prop}
variable {n0 : Nat} {a b : Addr} {C : String} {nF : List (String × String)} {f : String × String} {vs : List Value} {ad : List Addr} {xs : List (List Int32)} {k n : Nat} {u : Value} {v j w : Int32} {x : List Int32}
def Obj (Z : State) (n0 : Nat) (hb h : Heap) (a : Addr) (C : String) (nF : List (String × String)) (vs : List Value) (ad : List Addr) (xs : List (List Int32)) : Prop :=
  Exa Z h a C ∧ n0 ≤ a ∧ (∀ b ∈ ad, n0 ≤ b) ∧ ad.Nodup ∧ a ∉ ad ∧ Keep hb h (a :: ad) ∧ ad.length = xs.length ∧
  (∀ (k : Nat) (f : String × String) (v : Value), nF[k]? = some f → vs[k]? = some v → Fld Z h a C f.1 f.2 v) ∧
  (∀ (k : Nat) (b : Addr) (x : List Int32), ad[k]? = some b → xs[k]? = some x → AV Z h b .int x)
def Lay (Z : State) (C : String) (nF : List (String × String)) : Prop :=
  ∀ (k : Nat) (f : String × String) (k' : Nat) (f' : String × String), nF[k]? = some f → nF[k']? = some f' → k ≠ k' → Jvm.RoadKit.slotOf Z C f'.1 f'.2 ≠ Jvm.RoadKit.slotOf Z C f.1 f.2
theorem lay_of (hL : ∀ q ∈ nF, Laid Z a0 C C q.1 q.2) (hp : ∀ q ∈ nF, (parseFieldDescriptor q.2).isSome = true) (hd : (nF.map (·.1)).Nodup) : Lay Z C nF := by
  intro k f k' f' h1 h2 hne
  obtain ⟨t1, e1⟩ := Option.isSome_iff_exists.mp (hp _ (List.mem_of_getElem? h1))
  obtain ⟨t2, e2⟩ := Option.isSome_iff_exists.mp (hp _ (List.mem_of_getElem? h2))
  refine Jvm.RoadKit.slot_ne (hL _ (List.mem_of_getElem? h2)) (hL _ (List.mem_of_getElem? h1)) (fun q => hne ?_) e2 e1
  have g1 : (nF.map (·.1))[k]? = some f.1 := by rw [List.getElem?_map, h1]; rfl
  have g2 : (nF.map (·.1))[k']? = some f'.1 := by rw [List.getElem?_map, h2]; rfl
  obtain ⟨l1, r1⟩ := List.getElem?_eq_some_iff.mp g1
  obtain ⟨l2, r2⟩ := List.getElem?_eq_some_iff.mp g2
  exact (List.getElem_inj hd).mp (r1.trans (q.symm.trans r2.symm))
theorem Obj.exa (O : Obj Z n0 hb h a C nF vs ad xs) : Exa Z h a C := O.1
theorem Obj.ge (O : Obj Z n0 hb h a C nF vs ad xs) : n0 ≤ a := O.2.1
theorem Obj.ges (O : Obj Z n0 hb h a C nF vs ad xs) (hk : ad[k]? = some b) : n0 ≤ b := O.2.2.1 b (List.mem_of_getElem? hk)
theorem Obj.kept (O : Obj Z n0 hb h a C nF vs ad xs) : Keep hb h (a :: ad) := O.2.2.2.2.2.1
theorem Obj.fld (O : Obj Z n0 hb h a C nF vs ad xs) (h1 : nF[k]? = some f) (h2 : vs[k]? = some u) : Fld Z h a C f.1 f.2 u := O.2.2.2.2.2.2.2.1 k f u h1 h2
theorem Obj.av (O : Obj Z n0 hb h a C nF vs ad xs) (h1 : ad[k]? = some b) (h2 : xs[k]? = some x) : AV Z h b .int x := O.2.2.2.2.2.2.2.2 k b x h1 h2
theorem Obj.ne (O : Obj Z n0 hb h a C nF vs ad xs) (hk : ad[k]? = some b) : b ≠ a := fun q => O.2.2.2.2.1 (q ▸ List.mem_of_getElem? hk)
theorem Obj.size (O : Obj Z n0 hb h a C nF vs ad xs) : hb.size ≤ h.size := O.kept.1
theorem Obj.lt (O : Obj Z n0 hb h a C nF vs ad xs) : n0 ≤ h.size := Nat.le_trans O.ge (Nat.le_of_lt O.exa.lt)
theorem Obj.lts (O : Obj Z n0 hb h a C nF vs ad xs) (hb' : b ∈ ad) : b < h.size := by
  obtain ⟨k, hk⟩ := List.getElem?_of_mem hb'
  have hlen := O.2.2.2.2.2.2.1
  obtain ⟨l1, -⟩ := List.getElem?_eq_some_iff.mp hk
  exact (O.av hk (List.getElem?_eq_getElem (hlen ▸ l1))).lt
theorem Obj.start (E : Exa Z h a C) (g : n0 ≤ a) (F : ∀ (k : Nat) (f : String × String) (v : Value), nF[k]? = some f → vs[k]? = some v → Fld Z h a C f.1 f.2 v) : Obj Z n0 h h a C nF vs [] [] :=
  ⟨E, g, fun _ q => absurd q List.not_mem_nil, List.nodup_nil, List.not_mem_nil, Keep.refl _ _, rfl, F, fun k b x q => by simp at q⟩
theorem Obj.born (E : Exa Z h a C) (g : n0 ≤ a) (D : ∀ {O nm d : String} {ty : FieldType}, Laid Z a0 C O nm d → parseFieldDescriptor d = some ty → Fld Z h a O nm d (defaultValue ty)) (hL : ∀ q ∈ nF, Laid Z a0 C C q.1 q.2) (hp : ∀ q ∈ nF, (parseFieldDescriptor q.2).isSome = true)
    (hv : vs = nF.map fun q => ((parseFieldDescriptor q.2).map defaultValue).getD .null) : Obj Z n0 h h a C nF vs [] [] := by
  refine Obj.start E g fun k f v h1 h2 => ?_
  rw [hv, List.getElem?_map, h1] at h2
  obtain ⟨t, et⟩ := Option.isSome_iff_exists.mp (hp _ (List.mem_of_getElem? h1))
  simp [et] at h2
  rw [← h2]
  exact D (hL _ (List.mem_of_getElem? h1)) et
theorem Obj.put (O : Obj Z n0 hb h a C nF vs ad xs) (L : Lay Z C nF) (hk : nF[k]? = some f) (W : Wr h h' a (Jvm.RoadKit.slotOf Z C f.1 f.2) u) : Obj Z n0 hb h' a C nF (vs.set k u) ad xs := by
  have O' := O
  obtain ⟨o1, o2, o3, o4, o5, o6, o7, o8, o9⟩ := O
  refine ⟨o1.wr W, o2, o3, o4, o5, o6.wr W (Or.inl (List.mem_cons_self ..)), o7, fun k' f' v' h1 h2 => ?_, fun k' b x h1 h2 => ?_⟩
  · by_cases q : k = k'
    · subst q
      cases hk.symm.trans h1
      rw [List.getElem?_set_self'] at h2
      cases h3 : vs[k]? with
      | none => simp [h3] at h2
      | some w =>
        simp [h3] at h2
        subst h2
        exact (o8 k f w hk h3).same W
    · rw [List.getElem?_set_ne q] at h2
      exact (o8 k' f' v' h1 h2).other W (Or.inr (L k f k' f' hk h1 q))
  · exact (o9 k' b x h1 h2).other W (O'.ne h1)
theorem Obj.putA (O : Obj Z n0 hb h a C nF vs ad xs) (hk : ad[k]? = some b) (hx : xs[k]? = some x) (W : Wr h h' b n (.int v)) : Obj Z n0 hb h' a C nF vs ad (xs.set k (x.set n v)) := by
  have O' := O
  obtain ⟨o1, o2, o3, o4, o5, o6, o7, o8, o9⟩ := O
  refine ⟨o1.wr W, o2, o3, o4, o5, o6.wr W (Or.inl (List.mem_cons_of_mem _ (List.mem_of_getElem? hk))), by rw [List.length_set]; exact o7, fun k' f' v' h1 h2 => ?_, fun k' b' x' h1 h2 => ?_⟩
  · exact (o8 k' f' v' h1 h2).other W (Or.inl (O'.ne hk).symm)
  · by_cases q : k = k'
    · subst q
      cases hk.symm.trans h1
      rw [List.getElem?_set_self', hx] at h2
      simp at h2
      subst h2
      exact (o9 k b x hk hx).same W
    · rw [List.getElem?_set_ne q] at h2
      refine (o9 k' b' x' h1 h2).other W fun r => q ?_
      obtain ⟨l1, e1⟩ := List.getElem?_eq_some_iff.mp hk
      obtain ⟨l2, e2⟩ := List.getElem?_eq_some_iff.mp h1
      exact (List.getElem_inj o4).mp (e1.trans (r.symm.trans e2.symm))
theorem Obj.rebase {hb' : Heap} (O : Obj Z n0 hb h a C nF vs ad xs) (Kp : Keep hb' hb (a :: ad)) : Obj Z n0 hb' h a C nF vs ad xs := by
  obtain ⟨o1, o2, o3, o4, o5, o6, o7, o8, o9⟩ := O
  exact ⟨o1, o2, o3, o4, o5, Kp.trans o6 (fun x hx => Or.inl hx), o7, o8, o9⟩
theorem Obj.anew (O : Obj Z n0 hb h a C nF vs ad xs) : Obj Z n0 h h a C nF vs ad xs := by
  obtain ⟨o1, o2, o3, o4, o5, o6, o7, o8, o9⟩ := O
  exact ⟨o1, o2, o3, o4, o5, Keep.refl _ _, o7, o8, o9⟩
theorem Obj.ext (O : Obj Z n0 hb h a C nF vs ad xs) (E : Ext h h') : Obj Z n0 hb h' a C nF vs ad xs := by
  obtain ⟨o1, o2, o3, o4, o5, o6, o7, o8, o9⟩ := O
  exact ⟨o1.ext E, o2, o3, o4, o5, o6.ext E, o7, fun k f v h1 h2 => (o8 k f v h1 h2).ext E, fun k b x h1 h2 => (o9 k b x h1 h2).ext E⟩
theorem Obj.more (O : Obj Z n0 hb h a C nF vs ad xs) (E : Ext h h') (q : b = h.size) (A : AV Z h' b .int x) : Obj Z n0 hb h' a C nF vs (ad ++ [b]) (xs ++ [x]) := by
  have O' := O
  obtain ⟨o1, o2, o3, o4, o5, o6, o7, o8, o9⟩ := O
  refine ⟨o1.ext E, o2, fun b' hb' => ?_, ?_, fun r => ?_, ?_, by simp [o7], fun k f v h1 h2 => (o8 k f v h1 h2).ext E, fun k' b' x' h1 h2 => ?_⟩
  · rcases List.mem_append.mp hb' with r | r
    · exact o3 _ r
    · cases List.mem_singleton.mp r; rw [q]; exact O'.lt
  · rw [List.nodup_append]
    refine ⟨o4, by simp, fun y hy z hz => ?_⟩
    cases List.mem_singleton.mp hz
    rw [q]; exact Nat.ne_of_lt (O'.lts hy)
  · rcases List.mem_append.mp r with r | r
    · exact o5 r
    · have r1 := List.mem_singleton.mp r
      have r2 := o1.lt
      rw [r1, q] at r2
      exact Nat.lt_irrefl _ r2
  · have Kp := o6.ext E
    exact ⟨Kp.1, fun x c h1 h2 => Kp.2.1 x c h1 (fun r => h2 (by simp only [List.mem_cons, List.mem_append] at r ⊢; rcases r with r | r <;> simp [r])), Kp.2.2⟩
  · rcases Nat.lt_trichotomy k' ad.length with r | r | r
    · rw [List.getElem?_append_left r] at h1
      rw [List.getElem?_append_left (o7 ▸ r)] at h2
      exact (o9 k' b' x' h1 h2).ext E
    · subst r
      rw [List.getElem?_append_right (Nat.le_refl _)] at h1
      rw [List.getElem?_append_right (Nat.le_of_eq o7.symm), o7] at h2
      simp at h1 h2
      subst h1 h2
      exact A
    · rw [List.getElem?_append_right (Nat.le_of_lt r), List.getElem?_eq_none (by simp; omega)] at h1
      cases h1
theorem Obj.over {ws : List Addr} (O : Obj Z n0 hb h a C nF vs ad xs) (Kp : Keep h h' ws) (h1 : a ∉ ws) (h2 : ∀ b ∈ ad, b ∉ ws) : Obj Z n0 h' h' a C nF vs ad xs := by
  obtain ⟨o1, o2, o3, o4, o5, o6, o7, o8, o9⟩ := O
  exact ⟨o1.keep Kp, o2, o3, o4, o5, Keep.refl _ _, o7, fun k f v q1 q2 => (o8 k f v q1 q2).keep Kp h1, fun k b x q1 q2 => (o9 k b x q1 q2).keep Kp (h2 b (List.mem_of_getElem? q1))⟩
/-- a write elsewhere -/
theorem Obj.other {a' : Addr} {sl : Nat} {u : Value} (O : Obj Z n0 hb h a C nF vs ad xs) (W : Wr h h' a' sl u) (hf : hb.size ≤ a') (h1 : a ≠ a') (h2 : a' ∉ ad) : Obj Z n0 hb h' a C nF vs ad xs := by
  obtain ⟨o1, o2, o3, o4, o5, o6, o7, o8, o9⟩ := O
  exact ⟨o1.wr W, o2, o3, o4, o5, o6.wr W (Or.inr hf), o7, fun k f v q1 q2 => (o8 k f v q1 q2).other W (Or.inl h1), fun k b x q1 q2 => (o9 k b x q1 q2).other W (fun q => h2 (q ▸ List.mem_of_getElem? q1))⟩
variable {pc : Nat} {Ls : Array Slot} {rest : List Value} {own : String} {index kk : Nat} {ty : FieldType}
theorem Go.oget (X : Stand p l e R s m args below meth c T locs cells slots) (hx : p.tables.exec = Jvm.exec) (hZ : Z.Warmed39 s.vm) (hown : s.vm.findClass own = some m.cls) (wl : (Cond.fieldLink own index C f.1 f.2).before a0 Z = true) (eT : T.heap = h) (O : Obj Z n0 hb h a C nF vs ad xs) (h1 : nF[k]? = some f) (h2 : vs[k]? = some u)
    (hd : decode c.code pc = .ok (.getfield index, 3)) (kc : ∀ T', Stand p l e R s m args below meth c T' locs cells slots → T'.heap = h → Go p e below K T' (mkF m (pc + 3) Ls (u :: rest))) : Go p e below K T (mkF m pc Ls (.ref a :: rest)) := by
  obtain ⟨T', X', e', st⟩ := getF X hx hZ hown (host := "") (Or.inl wl) Via.refl eT (O.fld h1 h2) (g := mkF m pc Ls (.ref a :: rest)) rfl rfl hd
  exact Go.to st (kc T' X' e')
theorem Go.oput (X : Stand p l e R s m args below meth c T locs cells slots) (hx : p.tables.exec = Jvm.exec) (hZ : Z.Warmed39 s.vm) (hown : s.vm.findClass own = some m.cls) (wl : (Cond.fieldLink own index C f.1 f.2).before a0 Z = true) (eT : T.heap = h) (N : Fr n0 locs) (O : Obj Z n0 hb h a C nF vs ad xs) (L : Lay Z C nF) (h1 : nF[k]? = some f) {u0 : Value} (h2 : vs[k]? = some u0)
    (wy : (Cond.lays C C f.1 f.2).before a0 Z = true ∨ ((Cond.laysFinal C C f.1 f.2).before a0 Z = true ∧ own = C ∧ meth.name = "<init>")) (wi : (Cond.instantiable C kk).before a0 Z = true) (hty : parseFieldDescriptor f.2 = some ty) (hn : narrow ty u = u) (hft : fits ty u = true) (hd : decode c.code pc = .ok (.putfield index, 3))
    (kc : ∀ T' h' locs', Stand p l e R s m args below meth c T' locs' cells slots → T'.heap = h' → Fr n0 locs' → Obj Z n0 hb h' a C nF (vs.set k u) ad xs → Go p e below K T' (mkF m (pc + 3) Ls rest)) : Go p e below K T (mkF m pc Ls (u :: .ref a :: rest)) := by
  obtain ⟨T', h', X', e', W, st⟩ := putF X hx hZ hown (host := "") (Or.inl wl) Via.refl eT (O.fld h1 h2) O.exa wy wi hty hn hft (g := mkF m pc Ls (u :: .ref a :: rest)) rfl rfl hd
  exact Go.to st (kc T' h' _ X' e' (frOne N O.ge) (O.put L h1 W))
theorem Go.oload (X : Stand p l e R s m args below meth c T locs cells slots) (hx : p.tables.exec = Jvm.exec) (hZ : Z.Warmed39 s.vm) (eT : T.heap = h) (O : Obj Z n0 hb h a C nF vs ad xs) (h1 : ad[k]? = some b) (h2 : xs[k]? = some x) (hr : rdL x j = some v) (hd : decode c.code pc = .ok (.iaload, 1))
    (kc : Go p e below K T (mkF m (pc + 1) Ls (.int v :: rest))) : Go p e below K T (mkF m pc Ls (.int j :: .ref b :: rest)) := Go.iaload X hx hZ eT (O.av h1 h2) hr hd kc
theorem Go.ostore (X : Stand p l e R s m args below meth c T locs cells slots) (hx : p.tables.exec = Jvm.exec) (hZ : Z.Warmed39 s.vm) (eT : T.heap = h) (N : Fr n0 locs) (O : Obj Z n0 hb h a C nF vs ad xs) (h1 : ad[k]? = some b) (h2 : xs[k]? = some x) (hr : rdL x j = some w) (hd : decode c.code pc = .ok (.iastore, 1))
    (kc : ∀ T' h' locs', Stand p l e R s m args below meth c T' locs' cells slots → T'.heap = h' → Fr n0 locs' → Obj Z n0 hb h' a C nF vs ad (xs.set k (wrL x j v)) → Go p e below K T' (mkF m (pc + 1) Ls rest)) : Go p e below K T (mkF m pc Ls (.int v :: .int j :: .ref b :: rest)) :=
  Go.iastore X hx hZ eT (O.av h1 h2) hr hd fun T' h' X' e' W _ => kc T' h' _ X' e' (frOne N (O.ges h1)) (O.putA h1 h2 W)
theorem Go.onew (X : Stand p l e R s m args below meth c T locs cells slots) (hx : p.tables.exec = Jvm.exec) (hZ : Z.Warmed39 s.vm) (wa : (Cond.arrayClass .int).before a0 Z = true) (eT : T.heap = h) (O : Obj Z n0 hb h a C nF vs ad xs) (hd : decode c.code pc = .ok (.newarray .int, 2)) {n : Int32} (hn : ¬ n < 0) {cap : Nat} (hcap : n.toNatClampNeg ≤ cap) (hbig : cap * 8 ≤ 536870912) (hc : cells + 1 ≤ R.cells) (hl : slots + cap ≤ R.slots)
    (kc : ∀ T' h' b, Stand p l e R s m args below meth c T' locs (cells + 1) (slots + cap) → T'.heap = h' → Obj Z n0 hb h' a C nF vs (ad ++ [b]) (xs ++ [List.replicate n.toNatClampNeg 0]) → Go p e below K T' (mkF m (pc + 2) Ls (.ref b :: rest))) : Go p e below K T (mkF m pc Ls (.int n :: rest)) :=
  Go.newI X hx hZ wa eT hd hn hcap hbig hc hl fun T' h' b X' e' E q A => kc T' h' b X' e' (O.more E q A)
end OwnObj
def QP (r : Value) (h0 : Heap) : Option Value → Heap → List Loc → Prop := fun v h L => v = some r ∧ h = h0 ∧ L = []
theorem pd_0 : parseMethodDescriptor "(I)V" = some ⟨[.int], none⟩ := by decide +kernel
theorem pd_1 : parseMethodDescriptor "()V" = some ⟨[], none⟩ := by decide +kernel
theorem pd_2 : parseMethodDescriptor "()I" = some ⟨[], some .int⟩ := by decide +kernel
theorem pd_3 : parseMethodDescriptor "(I)I" = some ⟨[.int], some .int⟩ := by decide +kernel
theorem pd_4 : parseMethodDescriptor "(II)I" = some ⟨[.int, .int], some .int⟩ := by decide +kernel
theorem pd_5 : parseMethodDescriptor "(Lcom/example/tracegauge/tracegauge/automata/Partition;II)V" = some ⟨[(.object "com/example/tracegauge/tracegauge/automata/Partition"), .int, .int], none⟩ := by decide +kernel
theorem pd_6 : parseMethodDescriptor "(Lcom/example/tracegauge/tracegauge/automata/Partition;)[I" = some ⟨[(.object "com/example/tracegauge/tracegauge/automata/Partition")], some (.array .int)⟩ := by decide +kernel
theorem pd_7 : parseMethodDescriptor "(IIZ)I" = some ⟨[.int, .int, .boolean], some .int⟩ := by decide +kernel
theorem pd_8 : parseMethodDescriptor "([III)I" = some ⟨[(.array .int), .int, .int], some .int⟩ := by decide +kernel
theorem pd_9 : parseMethodDescriptor "([III)Z" = some ⟨[(.array .int), .int, .int], some .boolean⟩ := by decide +kernel
theorem pd_10 : parseMethodDescriptor "([I[III)Z" = some ⟨[(.array .int), (.array .int), .int, .int], some .boolean⟩ := by decide +kernel
theorem pd_11 : parseMethodDescriptor "([IIIII)Z" = some ⟨[(.array .int), .int, .int, .int, .int], some .boolean⟩ := by decide +kernel
theorem pd_12 : parseMethodDescriptor "(Lcom/example/tracegauge/tracegauge/automata/Partition;[II)Z" = some ⟨[(.object "com/example/tracegauge/tracegauge/automata/Partition"), (.array .int), .int], some .boolean⟩ := by decide +kernel
theorem dupX2 {tb : Tables} [Ours tb] {e : Env} {below : List Frame} {T target : State} {m : MethodId} {c : Code} {g : JFrame} (h : At T m c below) (hx : tb.exec = Jvm.exec) (hg : g.method = m) {x y z : Value} {rest : List Value} (hd : decode c.code g.pc = .ok (.dup_x2, 1)) (hs : g.stack = x :: y :: z :: rest) (hc : x.category = 1) (hc' : y.category = 1) (hc'' : z.category = 1)
    (hr : Steps tb e below (T.setTop { g with pc := g.pc + 1, stack := x :: y :: z :: x :: rest }) target) : Steps tb e below (T.setTop g) target := by
  subst hg
  jvm_step h [h.top, hx, hd, hs, hc, hc', hc'']
  exact hr
def nFp : List (String × String) := [("elements", "[I"), ("positions", "[I"), ("sets", "[I"), ("first", "[I"), ("end", "[I"), ("marked", "[I"), ("touched", "[I"), ("touchedCount", "I"), ("setCount", "I")]
theorem laidp {Z : State} {a0 : Array Value} (hw : ∀ d ∈ tables_1, d.before a0 Z = true) : ∀ q ∈ nFp, Laid Z a0 "com/example/tracegauge/tracegauge/automata/Partition" "com/example/tracegauge/tracegauge/automata/Partition" q.1 q.2 := by
  intro q hq
  simp only [nFp, List.mem_cons, List.not_mem_nil, or_false] at hq
  rcases hq with rfl | rfl | rfl | rfl | rfl | rfl | rfl | rfl | rfl
  · exact Or.inr (hw _ (List.mem_of_getElem? (i := 11) rfl))
  · exact Or.inr (hw _ (List.mem_of_getElem? (i := 13) rfl))
  · exact Or.inr (hw _ (List.mem_of_getElem? (i := 15) rfl))
  · exact Or.inr (hw _ (List.mem_of_getElem? (i := 17) rfl))
  · exact Or.inr (hw _ (List.mem_of_getElem? (i := 19) rfl))
  · exact Or.inr (hw _ (List.mem_of_getElem? (i := 21) rfl))
  · exact Or.inr (hw _ (List.mem_of_getElem? (i := 23) rfl))
  · exact Or.inl (hw _ (List.mem_of_getElem? (i := 39) rfl))
  · exact Or.inl (hw _ (List.mem_of_getElem? (i := 25) rfl))
theorem layp {Z : State} {a0 : Array Value} (hw : ∀ d ∈ tables_1, d.before a0 Z = true) : Lay Z "com/example/tracegauge/tracegauge/automata/Partition" nFp := lay_of (laidp hw) (by decide +kernel) (by decide +kernel)
def iniF : Nat → Int32 → Int32 → List Int32 → List Int32 → Option (List Int32 × List Int32)
  | 0, _, _, _, _ => none
  | k + 1, n, i, el, po => if i < n then (rdL el i).bind fun _ => (rdL po i).bind fun _ => iniF k n (i + (1 : Int32)) (wrL el i i) (wrL po i i) else some (el, po)
theorem d1_0 : decode prog_27_method_1_code 0 = .ok (.aload_n 0, 1) := by decide +kernel
theorem d1_1 : decode prog_27_method_1_code 1 = .ok (.invokespecial 1, 3) := by decide +kernel
theorem d1_4 : decode prog_27_method_1_code 4 = .ok (.aload_n 0, 1) := by decide +kernel
theorem d1_5 : decode prog_27_method_1_code 5 = .ok (.iload_n 1, 1) := by decide +kernel
theorem d1_6 : decode prog_27_method_1_code 6 = .ok (.newarray .int, 2) := by decide +kernel
theorem d1_8 : decode prog_27_method_1_code 8 = .ok (.putfield 7, 3) := by decide +kernel
theorem d1_11 : decode prog_27_method_1_code 11 = .ok (.aload_n 0, 1) := by decide +kernel
theorem d1_12 : decode prog_27_method_1_code 12 = .ok (.iload_n 1, 1) := by decide +kernel
theorem d1_13 : decode prog_27_method_1_code 13 = .ok (.newarray .int, 2) := by decide +kernel
theorem d1_15 : decode prog_27_method_1_code 15 = .ok (.putfield 13, 3) := by decide +kernel
theorem d1_18 : decode prog_27_method_1_code 18 = .ok (.aload_n 0, 1) := by decide +kernel
theorem d1_19 : decode prog_27_method_1_code 19 = .ok (.iload_n 1, 1) := by decide +kernel
theorem d1_20 : decode prog_27_method_1_code 20 = .ok (.newarray .int, 2) := by decide +kernel
theorem d1_22 : decode prog_27_method_1_code 22 = .ok (.putfield 16, 3) := by decide +kernel
theorem d1_25 : decode prog_27_method_1_code 25 = .ok (.iconst 0, 1) := by decide +kernel
theorem d1_26 : decode prog_27_method_1_code 26 = .ok (.istore_n 2, 1) := by decide +kernel
theorem d1_27 : decode prog_27_method_1_code 27 = .ok (.iload_n 2, 1) := by decide +kernel
theorem d1_28 : decode prog_27_method_1_code 28 = .ok (.iload_n 1, 1) := by decide +kernel
theorem d1_29 : decode prog_27_method_1_code 29 = .ok (.if_icmp .ge 23, 3) := by decide +kernel
theorem d1_32 : decode prog_27_method_1_code 32 = .ok (.aload_n 0, 1) := by decide +kernel
theorem d1_33 : decode prog_27_method_1_code 33 = .ok (.getfield 7, 3) := by decide +kernel
theorem d1_36 : decode prog_27_method_1_code 36 = .ok (.iload_n 2, 1) := by decide +kernel
theorem d1_37 : decode prog_27_method_1_code 37 = .ok (.iload_n 2, 1) := by decide +kernel
theorem d1_38 : decode prog_27_method_1_code 38 = .ok (.iastore, 1) := by decide +kernel
theorem d1_39 : decode prog_27_method_1_code 39 = .ok (.aload_n 0, 1) := by decide +kernel
theorem d1_40 : decode prog_27_method_1_code 40 = .ok (.getfield 13, 3) := by decide +kernel
theorem d1_43 : decode prog_27_method_1_code 43 = .ok (.iload_n 2, 1) := by decide +kernel
theorem d1_44 : decode prog_27_method_1_code 44 = .ok (.iload_n 2, 1) := by decide +kernel
theorem d1_45 : decode prog_27_method_1_code 45 = .ok (.iastore, 1) := by decide +kernel
theorem d1_46 : decode prog_27_method_1_code 46 = .ok (.iinc 2 1, 3) := by decide +kernel
theorem d1_49 : decode prog_27_method_1_code 49 = .ok (.goto (-22), 3) := by decide +kernel
theorem d1_52 : decode prog_27_method_1_code 52 = .ok (.aload_n 0, 1) := by decide +kernel
theorem d1_53 : decode prog_27_method_1_code 53 = .ok (.iload_n 1, 1) := by decide +kernel
theorem d1_54 : decode prog_27_method_1_code 54 = .ok (.newarray .int, 2) := by decide +kernel
theorem d1_56 : decode prog_27_method_1_code 56 = .ok (.putfield 19, 3) := by decide +kernel
theorem d1_59 : decode prog_27_method_1_code 59 = .ok (.aload_n 0, 1) := by decide +kernel
theorem d1_60 : decode prog_27_method_1_code 60 = .ok (.iload_n 1, 1) := by decide +kernel
theorem d1_61 : decode prog_27_method_1_code 61 = .ok (.newarray .int, 2) := by decide +kernel
theorem d1_63 : decode prog_27_method_1_code 63 = .ok (.putfield 22, 3) := by decide +kernel
theorem d1_66 : decode prog_27_method_1_code 66 = .ok (.aload_n 0, 1) := by decide +kernel
theorem d1_67 : decode prog_27_method_1_code 67 = .ok (.iload_n 1, 1) := by decide +kernel
theorem d1_68 : decode prog_27_method_1_code 68 = .ok (.newarray .int, 2) := by decide +kernel
theorem d1_70 : decode prog_27_method_1_code 70 = .ok (.putfield 25, 3) := by decide +kernel
theorem d1_73 : decode prog_27_method_1_code 73 = .ok (.aload_n 0, 1) := by decide +kernel
theorem d1_74 : decode prog_27_method_1_code 74 = .ok (.iload_n 1, 1) := by decide +kernel
theorem d1_75 : decode prog_27_method_1_code 75 = .ok (.newarray .int, 2) := by decide +kernel
theorem d1_77 : decode prog_27_method_1_code 77 = .ok (.putfield 28, 3) := by decide +kernel
theorem d1_80 : decode prog_27_method_1_code 80 = .ok (.iload_n 1, 1) := by decide +kernel
theorem d1_81 : decode prog_27_method_1_code 81 = .ok (.ifCond .le 15, 3) := by decide +kernel
theorem d1_84 : decode prog_27_method_1_code 84 = .ok (.aload_n 0, 1) := by decide +kernel
theorem d1_85 : decode prog_27_method_1_code 85 = .ok (.getfield 22, 3) := by decide +kernel
theorem d1_88 : decode prog_27_method_1_code 88 = .ok (.iconst 0, 1) := by decide +kernel
theorem d1_89 : decode prog_27_method_1_code 89 = .ok (.iload_n 1, 1) := by decide +kernel
theorem d1_90 : decode prog_27_method_1_code 90 = .ok (.iastore, 1) := by decide +kernel
theorem d1_91 : decode prog_27_method_1_code 91 = .ok (.aload_n 0, 1) := by decide +kernel
theorem d1_92 : decode prog_27_method_1_code 92 = .ok (.iconst 1, 1) := by decide +kernel
theorem d1_93 : decode prog_27_method_1_code 93 = .ok (.putfield 31, 3) := by decide +kernel
theorem d1_96 : decode prog_27_method_1_code 96 = .ok (.return_, 1) := by decide +kernel
theorem ef_rm1 (m : MethodId) (a1 : Addr) (p2 : Int32) : entryFrame m #[(.ref a1), (.int p2)] 3 = mkF m 0 #[.val (.ref a1), .val (.int p2), .unset] [] := by first | (simp [entryFrame, mkF, argsToLocals, Value.category]; done) | rfl
set_option maxHeartbeats 40000000 in
theorem rm1 (l : Launch) (Z : State) (a0 : Array Value) (hw : ∀ d ∈ tables_1, d.before a0 Z = true) (ws : List Jvm.Cond) (a1 : Addr) (p2 : Int32) (h0 : Heap) (n0 : Nat) (O : Obj Z n0 h0 h0 a1 "com/example/tracegauge/tracegauge/automata/Partition" nFp [.null, .null, .null, .null, .null, .null, .null, .int 0, .int 0] [] []) (hn : ¬ p2 < 0) (hcap : p2.toNatClampNeg ≤ 4) (hpos : (0 : Int32) < p2) (fuel : Nat) (el' po' : List Int32) (hf : iniF fuel p2 0 (List.replicate (p2).toNatClampNeg (0 : Int32)) (List.replicate (p2).toNatClampNeg (0 : Int32)) = some (el', po')) (w : Int32) (he : rdL (List.replicate (p2).toNatClampNeg (0 : Int32)) (0 : Int32) = some w) :
    Met1 l Z (⟨"com/example/tracegauge/tracegauge/automata/Partition", "<init>", "(I)V"⟩ : MethodName) prog_27_method_1_code 3 none ws ({ frames := 1, cells := 7, slots := 28, locals := 12 } : Room) #[(.ref a1), (.int p2)] h0 (fun v h L => v = none ∧ Fr n0 L ∧ ∃ b0 b1 b2 b3 b4 b5 b6, Obj Z n0 h0 h a1 "com/example/tracegauge/tracegauge/automata/Partition" nFp [.ref b0, .ref b1, .ref b2, .ref b3, .ref b4, .ref b5, .ref b6, .int (0 : Int32), .int (1 : Int32)] [b0, b1, b2, b3, b4, b5, b6] [el', po', (List.replicate (p2).toNatClampNeg (0 : Int32)), (List.replicate (p2).toNatClampNeg (0 : Int32)), (wrL (List.replicate (p2).toNatClampNeg (0 : Int32)) (0 : Int32) p2), (List.replicate (p2).toNatClampNeg (0 : Int32)), (List.replicate (p2).toNatClampNeg (0 : Int32))]) := by
  refine metOf (by first | exact plainFor_of_name (by first | (simp [plainName, overriddenIn]; done) | decide +kernel) | decide +kernel) ?_
  intro p e s m below meth c s₁ hx hby hml hown hnm hret hlk hZ X0 e0
  have hown : s.vm.findClass "com/example/tracegauge/tracegauge/automata/Partition" = some m.cls := hown
  obtain ⟨K, hK⟩ : ∃ K, K = KQ s (fun v h L => v = none ∧ Fr n0 L ∧ ∃ b0 b1 b2 b3 b4 b5 b6, Obj Z n0 h0 h a1 "com/example/tracegauge/tracegauge/automata/Partition" nFp [.ref b0, .ref b1, .ref b2, .ref b3, .ref b4, .ref b5, .ref b6, .int (0 : Int32), .int (1 : Int32)] [b0, b1, b2, b3, b4, b5, b6] [el', po', (List.replicate (p2).toNatClampNeg (0 : Int32)), (List.replicate (p2).toNatClampNeg (0 : Int32)), (wrL (List.replicate (p2).toNatClampNeg (0 : Int32)) (0 : Int32) p2), (List.replicate (p2).toNatClampNeg (0 : Int32)), (List.replicate (p2).toNatClampNeg (0 : Int32))]) (({ frames := 1, cells := 7, slots := 28, locals := 12 } : Room)).cells (({ frames := 1, cells := 7, slots := 28, locals := 12 } : Room)).slots := ⟨_, rfl⟩
  show Go p e below (KQ s (fun v h L => v = none ∧ Fr n0 L ∧ ∃ b0 b1 b2 b3 b4 b5 b6, Obj Z n0 h0 h a1 "com/example/tracegauge/tracegauge/automata/Partition" nFp [.ref b0, .ref b1, .ref b2, .ref b3, .ref b4, .ref b5, .ref b6, .int (0 : Int32), .int (1 : Int32)] [b0, b1, b2, b3, b4, b5, b6] [el', po', (List.replicate (p2).toNatClampNeg (0 : Int32)), (List.replicate (p2).toNatClampNeg (0 : Int32)), (wrL (List.replicate (p2).toNatClampNeg (0 : Int32)) (0 : Int32) p2), (List.replicate (p2).toNatClampNeg (0 : Int32)), (List.replicate (p2).toNatClampNeg (0 : Int32))]) (({ frames := 1, cells := 7, slots := 28, locals := 12 } : Room)).cells (({ frames := 1, cells := 7, slots := 28, locals := 12 } : Room)).slots) s₁ (entryFrame m #[(.ref a1), (.int p2)] 3)
  rw [← hK, ef_rm1 m a1 p2]
  show Go p e below _ s₁ (mkF m 0 #[.val (.ref a1), .val (.int p2), .unset] [])
  refine Go.to (fun _ => XS.aloadN X0.here hx rfl (hb hby d1_0) rfl rfl) ?_
  show Go p e below _ s₁ (mkF m 1 #[.val (.ref a1), .val (.int p2), .unset] [(.ref a1)])
  obtain ⟨T1, X1, e1, st1⟩ := initO X0 hx hZ hown (hw _ (List.mem_of_getElem? (i := 6) rfl)) (hw _ (List.mem_of_getElem? (i := 7) rfl)) (hw _ (List.mem_of_getElem? (i := 8) rfl)) e0 (g := (mkF m 1 #[.val (.ref a1), .val (.int p2), .unset] [(.ref a1)])) rfl (by rw [hml]; rfl) rfl (hb hby d1_1) (by decide) (W := 0) (by show 2 * 0 + _ ≤ _; exact Nat.le_of_eq rfl) (by decide)
  refine Go.to st1 ?_
  show Go p e below _ T1 (mkF m 4 #[.val (.ref a1), .val (.int p2), .unset] [])
  refine Go.to (fun _ => XS.aloadN X1.here hx rfl (hb hby d1_4) rfl rfl) ?_
  show Go p e below _ T1 (mkF m 5 #[.val (.ref a1), .val (.int p2), .unset] [(.ref a1)])
  refine Go.to (fun _ => XS.iloadN X1.here hx rfl (hb hby d1_5) rfl) ?_
  show Go p e below _ T1 (mkF m 6 #[.val (.ref a1), .val (.int p2), .unset] [(.int p2), (.ref a1)])
  refine Go.onew X1 hx hZ (hw _ (List.mem_of_getElem? (i := 9) rfl)) e1 O (hb hby d1_6) hn (cap := 4) hcap (by decide) (by decide) (by decide) ?_
  intro T2 h2 b2 X2 e2 O2
  have O2 : Obj Z n0 h0 h2 a1 "com/example/tracegauge/tracegauge/automata/Partition" nFp [.null, .null, .null, .null, .null, .null, .null, (.int (0 : Int32)), (.int (0 : Int32))] [b2] [(List.replicate (p2).toNatClampNeg (0 : Int32))] := O2
  show Go p e below _ T2 (mkF m 8 #[.val (.ref a1), .val (.int p2), .unset] [(.ref b2), (.ref a1)])
  refine Go.oput (f := ("elements", "[I")) X2 hx hZ hown (hw _ (List.mem_of_getElem? (i := 10) rfl)) e2 (Fr.nil n0) O2 (layp hw) (k := 0) rfl rfl (Or.inr ⟨(hw _ (List.mem_of_getElem? (i := 11) rfl)), rfl, hnm⟩) (hw _ (List.mem_of_getElem? (i := 1) rfl)) (ty := (.array .int)) (by decide) rfl rfl (hb hby d1_8) ?_
  intro T3 h3 L3 X3 e3 N3 O3
  have O3 : Obj Z n0 h0 h3 a1 "com/example/tracegauge/tracegauge/automata/Partition" nFp [(.ref b2), .null, .null, .null, .null, .null, .null, (.int (0 : Int32)), (.int (0 : Int32))] [b2] [(List.replicate (p2).toNatClampNeg (0 : Int32))] := O3
  show Go p e below _ T3 (mkF m 11 #[.val (.ref a1), .val (.int p2), .unset] [])
  refine Go.to (fun _ => XS.aloadN X3.here hx rfl (hb hby d1_11) rfl rfl) ?_
  show Go p e below _ T3 (mkF m 12 #[.val (.ref a1), .val (.int p2), .unset] [(.ref a1)])
  refine Go.to (fun _ => XS.iloadN X3.here hx rfl (hb hby d1_12) rfl) ?_
  show Go p e below _ T3 (mkF m 13 #[.val (.ref a1), .val (.int p2), .unset] [(.int p2), (.ref a1)])
  refine Go.onew X3 hx hZ (hw _ (List.mem_of_getElem? (i := 9) rfl)) e3 O3 (hb hby d1_13) hn (cap := 4) hcap (by decide) (by decide) (by decide) ?_
  intro T4 h4 b4 X4 e4 O4
  have O4 : Obj Z n0 h0 h4 a1 "com/example/tracegauge/tracegauge/automata/Partition" nFp [(.ref b2), .null, .null, .null, .null, .null, .null, (.int (0 : Int32)), (.int (0 : Int32))] [b2, b4] [(List.replicate (p2).toNatClampNeg (0 : Int32)), (List.replicate (p2).toNatClampNeg (0 : Int32))] := O4
  show Go p e below _ T4 (mkF m 15 #[.val (.ref a1), .val (.int p2), .unset] [(.ref b4), (.ref a1)])
  refine Go.oput (f := ("positions", "[I")) X4 hx hZ hown (hw _ (List.mem_of_getElem? (i := 12) rfl)) e4 N3 O4 (layp hw) (k := 1) rfl rfl (Or.inr ⟨(hw _ (List.mem_of_getElem? (i := 13) rfl)), rfl, hnm⟩) (hw _ (List.mem_of_getElem? (i := 1) rfl)) (ty := (.array .int)) (by decide) rfl rfl (hb hby d1_15) ?_
  intro T5 h5 L5 X5 e5 N5 O5
  have O5 : Obj Z n0 h0 h5 a1 "com/example/tracegauge/tracegauge/automata/Partition" nFp [(.ref b2), (.ref b4), .null, .null, .null, .null, .null, (.int (0 : Int32)), (.int (0 : Int32))] [b2, b4] [(List.replicate (p2).toNatClampNeg (0 : Int32)), (List.replicate (p2).toNatClampNeg (0 : Int32))] := O5
  show Go p e below _ T5 (mkF m 18 #[.val (.ref a1), .val (.int p2), .unset] [])
  refine Go.to (fun _ => XS.aloadN X5.here hx rfl (hb hby d1_18) rfl rfl) ?_
  show Go p e below _ T5 (mkF m 19 #[.val (.ref a1), .val (.int p2), .unset] [(.ref a1)])
  refine Go.to (fun _ => XS.iloadN X5.here hx rfl (hb hby d1_19) rfl) ?_
  show Go p e below _ T5 (mkF m 20 #[.val (.ref a1), .val (.int p2), .unset] [(.int p2), (.ref a1)])
  refine Go.onew X5 hx hZ (hw _ (List.mem_of_getElem? (i := 9) rfl)) e5 O5 (hb hby d1_20) hn (cap := 4) hcap (by decide) (by decide) (by decide) ?_
  intro T6 h6 b6 X6 e6 O6
  have O6 : Obj Z n0 h0 h6 a1 "com/example/tracegauge/tracegauge/automata/Partition" nFp [(.ref b2), (.ref b4), .null, .null, .null, .null, .null, (.int (0 : Int32)), (.int (0 : Int32))] [b2, b4, b6] [(List.replicate (p2).toNatClampNeg (0 : Int32)), (List.replicate (p2).toNatClampNeg (0 : Int32)), (List.replicate (p2).toNatClampNeg (0 : Int32))] := O6
  show Go p e below _ T6 (mkF m 22 #[.val (.ref a1), .val (.int p2), .unset] [(.ref b6), (.ref a1)])
  refine Go.oput (f := ("sets", "[I")) X6 hx hZ hown (hw _ (List.mem_of_getElem? (i := 14) rfl)) e6 N5 O6 (layp hw) (k := 2) rfl rfl (Or.inr ⟨(hw _ (List.mem_of_getElem? (i := 15) rfl)), rfl, hnm⟩) (hw _ (List.mem_of_getElem? (i := 1) rfl)) (ty := (.array .int)) (by decide) rfl rfl (hb hby d1_22) ?_
  intro T7 h7 L7 X7 e7 N7 O7
  have O7 : Obj Z n0 h0 h7 a1 "com/example/tracegauge/tracegauge/automata/Partition" nFp [(.ref b2), (.ref b4), (.ref b6), .null, .null, .null, .null, (.int (0 : Int32)), (.int (0 : Int32))] [b2, b4, b6] [(List.replicate (p2).toNatClampNeg (0 : Int32)), (List.replicate (p2).toNatClampNeg (0 : Int32)), (List.replicate (p2).toNatClampNeg (0 : Int32))] := O7
  show Go p e below _ T7 (mkF m 25 #[.val (.ref a1), .val (.int p2), .unset] [])
  refine Go.to (fun _ => XS.iconst X7.here hx rfl (hb hby d1_25)) ?_
  show Go p e below _ T7 (mkF m 26 #[.val (.ref a1), .val (.int p2), .unset] [(.int (0 : Int32))])
  refine Go.to (fun _ => XS.istoreN X7.here hx rfl (hb hby d1_26) rfl (l' := #[.val (.ref a1), .val (.int p2), .val (.int (0 : Int32))]) rfl) ?_
  show Go p e below _ T7 (mkF m 27 #[.val (.ref a1), .val (.int p2), .val (.int (0 : Int32))] [])
  have loop : ∀ (fuel : Nat) (i : Int32) (el po : List Int32), iniF fuel p2 i el po = some (el', po') → ∀ (T : State) (h : Heap) (L : List Loc), Stand p l e ({ frames := 1, cells := 7, slots := 28, locals := 12 } : Room) s m #[.ref a1, .int p2] below meth c T L 3 12 → T.heap = h → Fr n0 L → Obj Z n0 h0 h a1 "com/example/tracegauge/tracegauge/automata/Partition" nFp [(.ref b2), (.ref b4), (.ref b6), .null, .null, .null, .null, (.int (0 : Int32)), (.int (0 : Int32))] [b2, b4, b6] [el, po, (List.replicate (p2).toNatClampNeg (0 : Int32))] → Go p e below K T (mkF m 27 #[.val (.ref a1), .val (.int p2), .val (.int i)] []) := by
    intro fuel
    induction fuel with
    | zero => intro i el po hf; simp [iniF] at hf
    | succ fuel ih =>
      intro i el po hf T h L X e' N O
      refine Go.to (fun _ => XS.iloadN X.here hx rfl (hb hby d1_27) rfl) ?_
      show Go p e below _ T (mkF m 28 #[.val (.ref a1), .val (.int p2), .val (.int i)] [(.int i)])
      refine Go.to (fun _ => XS.iloadN X.here hx rfl (hb hby d1_28) rfl) ?_
      show Go p e below _ T (mkF m 29 #[.val (.ref a1), .val (.int p2), .val (.int i)] [(.int p2), (.int i)])
      by_cases hc1 : i < p2
      · refine Go.to (fun _ => XS.icmpNo X.here hx rfl (hb hby d1_29) rfl (tlt hc1).2.1) ?_
        show Go p e below _ T (mkF m 32 #[.val (.ref a1), .val (.int p2), .val (.int i)] [])
        rw [iniF, if_pos hc1] at hf
        obtain ⟨y1, hy1, hf⟩ := Option.bind_eq_some_iff.mp hf
        obtain ⟨y2, hy2, hf⟩ := Option.bind_eq_some_iff.mp hf
        refine Go.to (fun _ => XS.aloadN X.here hx rfl (hb hby d1_32) rfl rfl) ?_
        show Go p e below _ T (mkF m 33 #[.val (.ref a1), .val (.int p2), .val (.int i)] [(.ref a1)])
        refine Go.oget (f := ("elements", "[I")) X hx hZ hown (hw _ (List.mem_of_getElem? (i := 10) rfl)) e' O (k := 0) rfl rfl (hb hby d1_33) ?_
        intro T8 X8 e8
        show Go p e below _ T8 (mkF m 36 #[.val (.ref a1), .val (.int p2), .val (.int i)] [(.ref b2)])
        refine Go.to (fun _ => XS.iloadN X8.here hx rfl (hb hby d1_36) rfl) ?_
        show Go p e below _ T8 (mkF m 37 #[.val (.ref a1), .val (.int p2), .val (.int i)] [(.int i), (.ref b2)])
        refine Go.to (fun _ => XS.iloadN X8.here hx rfl (hb hby d1_37) rfl) ?_
        show Go p e below _ T8 (mkF m 38 #[.val (.ref a1), .val (.int p2), .val (.int i)] [(.int i), (.int i), (.ref b2)])
        refine Go.ostore X8 hx hZ e8 N O (k := 0) rfl rfl hy1 (hb hby d1_38) ?_
        intro T9 h9 L9 X9 e9 N9 O9
        have O9 : Obj Z n0 h0 h9 a1 "com/example/tracegauge/tracegauge/automata/Partition" nFp [(.ref b2), (.ref b4), (.ref b6), .null, .null, .null, .null, (.int (0 : Int32)), (.int (0 : Int32))] [b2, b4, b6] [(wrL el i i), po, (List.replicate (p2).toNatClampNeg (0 : Int32))] := O9
        show Go p e below _ T9 (mkF m 39 #[.val (.ref a1), .val (.int p2), .val (.int i)] [])
        refine Go.to (fun _ => XS.aloadN X9.here hx rfl (hb hby d1_39) rfl rfl) ?_
        show Go p e below _ T9 (mkF m 40 #[.val (.ref a1), .val (.int p2), .val (.int i)] [(.ref a1)])
        refine Go.oget (f := ("positions", "[I")) X9 hx hZ hown (hw _ (List.mem_of_getElem? (i := 12) rfl)) e9 O9 (k := 1) rfl rfl (hb hby d1_40) ?_
        intro T10 X10 e10
        show Go p e below _ T10 (mkF m 43 #[.val (.ref a1), .val (.int p2), .val (.int i)] [(.ref b4)])
        refine Go.to (fun _ => XS.iloadN X10.here hx rfl (hb hby d1_43) rfl) ?_
        show Go p e below _ T10 (mkF m 44 #[.val (.ref a1), .val (.int p2), .val (.int i)] [(.int i), (.ref b4)])
        refine Go.to (fun _ => XS.iloadN X10.here hx rfl (hb hby d1_44) rfl) ?_
        show Go p e below _ T10 (mkF m 45 #[.val (.ref a1), .val (.int p2), .val (.int i)] [(.int i), (.int i), (.ref b4)])
        refine Go.ostore X10 hx hZ e10 N9 O9 (k := 1) rfl rfl hy2 (hb hby d1_45) ?_
        intro T11 h11 L11 X11 e11 N11 O11
        have O11 : Obj Z n0 h0 h11 a1 "com/example/tracegauge/tracegauge/automata/Partition" nFp [(.ref b2), (.ref b4), (.ref b6), .null, .null, .null, .null, (.int (0 : Int32)), (.int (0 : Int32))] [b2, b4, b6] [(wrL el i i), (wrL po i i), (List.replicate (p2).toNatClampNeg (0 : Int32))] := O11
        show Go p e below _ T11 (mkF m 46 #[.val (.ref a1), .val (.int p2), .val (.int i)] [])
        refine Go.to (fun _ => XS.iinc X11.here hx rfl (hb hby d1_46) rfl (l' := #[.val (.ref a1), .val (.int p2), .val (.int (i + (1 : Int32)))]) rfl) ?_
        show Go p e below _ T11 (mkF m 49 #[.val (.ref a1), .val (.int p2), .val (.int (i + (1 : Int32)))] [])
        refine Go.to (fun _ => XS.goto X11.here hx rfl (pc0 := 49) (pc' := 27) rfl (hb hby d1_49) (by decide) (by decide)) ?_
        show Go p e below _ T11 (mkF m 27 #[.val (.ref a1), .val (.int p2), .val (.int (i + (1 : Int32)))] [])
        exact ih _ _ _ hf _ _ _ X11 e11 N11 O11
      · refine Go.to (fun _ => XS.icmpYes X.here hx rfl (pc0 := 29) (pc' := 52) rfl (hb hby d1_29) rfl (flt hc1).2.1 (by decide) (by decide)) ?_
        show Go p e below _ T (mkF m 52 #[.val (.ref a1), .val (.int p2), .val (.int i)] [])
        rw [iniF, if_neg hc1] at hf
        simp only [Option.some.injEq, Prod.mk.injEq] at hf
        obtain ⟨rfl, rfl⟩ := hf
        refine Go.to (fun _ => XS.aloadN X.here hx rfl (hb hby d1_52) rfl rfl) ?_
        show Go p e below _ T (mkF m 53 #[.val (.ref a1), .val (.int p2), .val (.int i)] [(.ref a1)])
        refine Go.to (fun _ => XS.iloadN X.here hx rfl (hb hby d1_53) rfl) ?_
        show Go p e below _ T (mkF m 54 #[.val (.ref a1), .val (.int p2), .val (.int i)] [(.int p2), (.ref a1)])
        refine Go.onew X hx hZ (hw _ (List.mem_of_getElem? (i := 9) rfl)) e' O (hb hby d1_54) hn (cap := 4) hcap (by decide) (by decide) (by decide) ?_
        intro T12 h12 b12 X12 e12 O12
        have O12 : Obj Z n0 h0 h12 a1 "com/example/tracegauge/tracegauge/automata/Partition" nFp [(.ref b2), (.ref b4), (.ref b6), .null, .null, .null, .null, (.int (0 : Int32)), (.int (0 : Int32))] [b2, b4, b6, b12] [el, po, (List.replicate (p2).toNatClampNeg (0 : Int32)), (List.replicate (p2).toNatClampNeg (0 : Int32))] := O12
        show Go p e below _ T12 (mkF m 56 #[.val (.ref a1), .val (.int p2), .val (.int i)] [(.ref b12), (.ref a1)])
        refine Go.oput (f := ("first", "[I")) X12 hx hZ hown (hw _ (List.mem_of_getElem? (i := 16) rfl)) e12 N O12 (layp hw) (k := 3) rfl rfl (Or.inr ⟨(hw _ (List.mem_of_getElem? (i := 17) rfl)), rfl, hnm⟩) (hw _ (List.mem_of_getElem? (i := 1) rfl)) (ty := (.array .int)) (by decide) rfl rfl (hb hby d1_56) ?_
        intro T13 h13 L13 X13 e13 N13 O13
        have O13 : Obj Z n0 h0 h13 a1 "com/example/tracegauge/tracegauge/automata/Partition" nFp [(.ref b2), (.ref b4), (.ref b6), (.ref b12), .null, .null, .null, (.int (0 : Int32)), (.int (0 : Int32))] [b2, b4, b6, b12] [el, po, (List.replicate (p2).toNatClampNeg (0 : Int32)), (List.replicate (p2).toNatClampNeg (0 : Int32))] := O13
        show Go p e below _ T13 (mkF m 59 #[.val (.ref a1), .val (.int p2), .val (.int i)] [])
        refine Go.to (fun _ => XS.aloadN X13.here hx rfl (hb hby d1_59) rfl rfl) ?_
        show Go p e below _ T13 (mkF m 60 #[.val (.ref a1), .val (.int p2), .val (.int i)] [(.ref a1)])
        refine Go.to (fun _ => XS.iloadN X13.here hx rfl (hb hby d1_60) rfl) ?_
        show Go p e below _ T13 (mkF m 61 #[.val (.ref a1), .val (.int p2), .val (.int i)] [(.int p2), (.ref a1)])
        refine Go.onew X13 hx hZ (hw _ (List.mem_of_getElem? (i := 9) rfl)) e13 O13 (hb hby d1_61) hn (cap := 4) hcap (by decide) (by decide) (by decide) ?_
        intro T14 h14 b14 X14 e14 O14
        have O14 : Obj Z n0 h0 h14 a1 "com/example/tracegauge/tracegauge/automata/Partition" nFp [(.ref b2), (.ref b4), (.ref b6), (.ref b12), .null, .null, .null, (.int (0 : Int32)), (.int (0 : Int32))] [b2, b4, b6, b12, b14] [el, po, (List.replicate (p2).toNatClampNeg (0 : Int32)), (List.replicate (p2).toNatClampNeg (0 : Int32)), (List.replicate (p2).toNatClampNeg (0 : Int32))] := O14
        show Go p e below _ T14 (mkF m 63 #[.val (.ref a1), .val (.int p2), .val (.int i)] [(.ref b14), (.ref a1)])
        refine Go.oput (f := ("end", "[I")) X14 hx hZ hown (hw _ (List.mem_of_getElem? (i := 18) rfl)) e14 N13 O14 (layp hw) (k := 4) rfl rfl (Or.inr ⟨(hw _ (List.mem_of_getElem? (i := 19) rfl)), rfl, hnm⟩) (hw _ (List.mem_of_getElem? (i := 1) rfl)) (ty := (.array .int)) (by decide) rfl rfl (hb hby d1_63) ?_
        intro T15 h15 L15 X15 e15 N15 O15
        have O15 : Obj Z n0 h0 h15 a1 "com/example/tracegauge/tracegauge/automata/Partition" nFp [(.ref b2), (.ref b4), (.ref b6), (.ref b12), (.ref b14), .null, .null, (.int (0 : Int32)), (.int (0 : Int32))] [b2, b4, b6, b12, b14] [el, po, (List.replicate (p2).toNatClampNeg (0 : Int32)), (List.replicate (p2).toNatClampNeg (0 : Int32)), (List.replicate (p2).toNatClampNeg (0 : Int32))] := O15
        show Go p e below _ T15 (mkF m 66 #[.val (.ref a1), .val (.int p2), .val (.int i)] [])
        refine Go.to (fun _ => XS.aloadN X15.here hx rfl (hb hby d1_66) rfl rfl) ?_
        show Go p e below _ T15 (mkF m 67 #[.val (.ref a1), .val (.int p2), .val (.int i)] [(.ref a1)])
        refine Go.to (fun _ => XS.iloadN X15.here hx rfl (hb hby d1_67) rfl) ?_
        show Go p e below _ T15 (mkF m 68 #[.val (.ref a1), .val (.int p2), .val (.int i)] [(.int p2), (.ref a1)])
        refine Go.onew X15 hx hZ (hw _ (List.mem_of_getElem? (i := 9) rfl)) e15 O15 (hb hby d1_68) hn (cap := 4) hcap (by decide) (by decide) (by decide) ?_
        intro T16 h16 b16 X16 e16 O16
        have O16 : Obj Z n0 h0 h16 a1 "com/example/tracegauge/tracegauge/automata/Partition" nFp [(.ref b2), (.ref b4), (.ref b6), (.ref b12), (.ref b14), .null, .null, (.int (0 : Int32)), (.int (0 : Int32))] [b2, b4, b6, b12, b14, b16] [el, po, (List.replicate (p2).toNatClampNeg (0 : Int32)), (List.replicate (p2).toNatClampNeg (0 : Int32)), (List.replicate (p2).toNatClampNeg (0 : Int32)), (List.replicate (p2).toNatClampNeg (0 : Int32))] := O16
        show Go p e below _ T16 (mkF m 70 #[.val (.ref a1), .val (.int p2), .val (.int i)] [(.ref b16), (.ref a1)])
        refine Go.oput (f := ("marked", "[I")) X16 hx hZ hown (hw _ (List.mem_of_getElem? (i := 20) rfl)) e16 N15 O16 (layp hw) (k := 5) rfl rfl (Or.inr ⟨(hw _ (List.mem_of_getElem? (i := 21) rfl)), rfl, hnm⟩) (hw _ (List.mem_of_getElem? (i := 1) rfl)) (ty := (.array .int)) (by decide) rfl rfl (hb hby d1_70) ?_
        intro T17 h17 L17 X17 e17 N17 O17
        have O17 : Obj Z n0 h0 h17 a1 "com/example/tracegauge/tracegauge/automata/Partition" nFp [(.ref b2), (.ref b4), (.ref b6), (.ref b12), (.ref b14), (.ref b16), .null, (.int (0 : Int32)), (.int (0 : Int32))] [b2, b4, b6, b12, b14, b16] [el, po, (List.replicate (p2).toNatClampNeg (0 : Int32)), (List.replicate (p2).toNatClampNeg (0 : Int32)), (List.replicate (p2).toNatClampNeg (0 : Int32)), (List.replicate (p2).toNatClampNeg (0 : Int32))] := O17
        show Go p e below _ T17 (mkF m 73 #[.val (.ref a1), .val (.int p2), .val (.int i)] [])
        refine Go.to (fun _ => XS.aloadN X17.here hx rfl (hb hby d1_73) rfl rfl) ?_
        show Go p e below _ T17 (mkF m 74 #[.val (.ref a1), .val (.int p2), .val (.int i)] [(.ref a1)])
        refine Go.to (fun _ => XS.iloadN X17.here hx rfl (hb hby d1_74) rfl) ?_
        show Go p e below _ T17 (mkF m 75 #[.val (.ref a1), .val (.int p2), .val (.int i)] [(.int p2), (.ref a1)])
        refine Go.onew X17 hx hZ (hw _ (List.mem_of_getElem? (i := 9) rfl)) e17 O17 (hb hby d1_75) hn (cap := 4) hcap (by decide) (by decide) (by decide) ?_
        intro T18 h18 b18 X18 e18 O18
        have O18 : Obj Z n0 h0 h18 a1 "com/example/tracegauge/tracegauge/automata/Partition" nFp [(.ref b2), (.ref b4), (.ref b6), (.ref b12), (.ref b14), (.ref b16), .null, (.int (0 : Int32)), (.int (0 : Int32))] [b2, b4, b6, b12, b14, b16, b18] [el, po, (List.replicate (p2).toNatClampNeg (0 : Int32)), (List.replicate (p2).toNatClampNeg (0 : Int32)), (List.replicate (p2).toNatClampNeg (0 : Int32)), (List.replicate (p2).toNatClampNeg (0 : Int32)), (List.replicate (p2).toNatClampNeg (0 : Int32))] := O18
        show Go p e below _ T18 (mkF m 77 #[.val (.ref a1), .val (.int p2), .val (.int i)] [(.ref b18), (.ref a1)])
        refine Go.oput (f := ("touched", "[I")) X18 hx hZ hown (hw _ (List.mem_of_getElem? (i := 22) rfl)) e18 N17 O18 (layp hw) (k := 6) rfl rfl (Or.inr ⟨(hw _ (List.mem_of_getElem? (i := 23) rfl)), rfl, hnm⟩) (hw _ (List.mem_of_getElem? (i := 1) rfl)) (ty := (.array .int)) (by decide) rfl rfl (hb hby d1_77) ?_
        intro T19 h19 L19 X19 e19 N19 O19
        have O19 : Obj Z n0 h0 h19 a1 "com/example/tracegauge/tracegauge/automata/Partition" nFp [(.ref b2), (.ref b4), (.ref b6), (.ref b12), (.ref b14), (.ref b16), (.ref b18), (.int (0 : Int32)), (.int (0 : Int32))] [b2, b4, b6, b12, b14, b16, b18] [el, po, (List.replicate (p2).toNatClampNeg (0 : Int32)), (List.replicate (p2).toNatClampNeg (0 : Int32)), (List.replicate (p2).toNatClampNeg (0 : Int32)), (List.replicate (p2).toNatClampNeg (0 : Int32)), (List.replicate (p2).toNatClampNeg (0 : Int32))] := O19
        show Go p e below _ T19 (mkF m 80 #[.val (.ref a1), .val (.int p2), .val (.int i)] [])
        refine Go.to (fun _ => XS.iloadN X19.here hx rfl (hb hby d1_80) rfl) ?_
        show Go p e below _ T19 (mkF m 81 #[.val (.ref a1), .val (.int p2), .val (.int i)] [(.int p2)])
        refine Go.to (fun _ => XS.ifNo X19.here hx rfl (hb hby d1_81) rfl ((if0 _ _).trans (tlt hpos).2.2.2)) ?_
        show Go p e below _ T19 (mkF m 84 #[.val (.ref a1), .val (.int p2), .val (.int i)] [])
        refine Go.to (fun _ => XS.aloadN X19.here hx rfl (hb hby d1_84) rfl rfl) ?_
        show Go p e below _ T19 (mkF m 85 #[.val (.ref a1), .val (.int p2), .val (.int i)] [(.ref a1)])
        refine Go.oget (f := ("end", "[I")) X19 hx hZ hown (hw _ (List.mem_of_getElem? (i := 18) rfl)) e19 O19 (k := 4) rfl rfl (hb hby d1_85) ?_
        intro T20 X20 e20
        show Go p e below _ T20 (mkF m 88 #[.val (.ref a1), .val (.int p2), .val (.int i)] [(.ref b14)])
        refine Go.to (fun _ => XS.iconst X20.here hx rfl (hb hby d1_88)) ?_
        show Go p e below _ T20 (mkF m 89 #[.val (.ref a1), .val (.int p2), .val (.int i)] [(.int (0 : Int32)), (.ref b14)])
        refine Go.to (fun _ => XS.iloadN X20.here hx rfl (hb hby d1_89) rfl) ?_
        show Go p e below _ T20 (mkF m 90 #[.val (.ref a1), .val (.int p2), .val (.int i)] [(.int p2), (.int (0 : Int32)), (.ref b14)])
        refine Go.ostore X20 hx hZ e20 N19 O19 (k := 4) rfl rfl he (hb hby d1_90) ?_
        intro T21 h21 L21 X21 e21 N21 O21
        have O21 : Obj Z n0 h0 h21 a1 "com/example/tracegauge/tracegauge/automata/Partition" nFp [(.ref b2), (.ref b4), (.ref b6), (.ref b12), (.ref b14), (.ref b16), (.ref b18), (.int (0 : Int32)), (.int (0 : Int32))] [b2, b4, b6, b12, b14, b16, b18] [el, po, (List.replicate (p2).toNatClampNeg (0 : Int32)), (List.replicate (p2).toNatClampNeg (0 : Int32)), (wrL (List.replicate (p2).toNatClampNeg (0 : Int32)) (0 : Int32) p2), (List.replicate (p2).toNatClampNeg (0 : Int32)), (List.replicate (p2).toNatClampNeg (0 : Int32))] := O21
        show Go p e below _ T21 (mkF m 91 #[.val (.ref a1), .val (.int p2), .val (.int i)] [])
        refine Go.to (fun _ => XS.aloadN X21.here hx rfl (hb hby d1_91) rfl rfl) ?_
        show Go p e below _ T21 (mkF m 92 #[.val (.ref a1), .val (.int p2), .val (.int i)] [(.ref a1)])
        refine Go.to (fun _ => XS.iconst X21.here hx rfl (hb hby d1_92)) ?_
        show Go p e below _ T21 (mkF m 93 #[.val (.ref a1), .val (.int p2), .val (.int i)] [(.int (1 : Int32)), (.ref a1)])
        refine Go.oput (f := ("setCount", "I")) X21 hx hZ hown (hw _ (List.mem_of_getElem? (i := 24) rfl)) e21 N21 O21 (layp hw) (k := 8) rfl rfl (Or.inl (hw _ (List.mem_of_getElem? (i := 25) rfl))) (hw _ (List.mem_of_getElem? (i := 1) rfl)) (ty := .int) (by decide) rfl rfl (hb hby d1_93) ?_
        intro T22 h22 L22 X22 e22 N22 O22
        have O22 : Obj Z n0 h0 h22 a1 "com/example/tracegauge/tracegauge/automata/Partition" nFp [(.ref b2), (.ref b4), (.ref b6), (.ref b12), (.ref b14), (.ref b16), (.ref b18), (.int (0 : Int32)), (.int (1 : Int32))] [b2, b4, b6, b12, b14, b16, b18] [el, po, (List.replicate (p2).toNatClampNeg (0 : Int32)), (List.replicate (p2).toNatClampNeg (0 : Int32)), (wrL (List.replicate (p2).toNatClampNeg (0 : Int32)) (0 : Int32) p2), (List.replicate (p2).toNatClampNeg (0 : Int32)), (List.replicate (p2).toNatClampNeg (0 : Int32))] := O22
        show Go p e below _ T22 (mkF m 96 #[.val (.ref a1), .val (.int p2), .val (.int i)] [])
        rw [hK]
        exact Go.retV X22 hx hlk hret (hb hby d1_96) ⟨rfl, N22, _, _, _, _, _, _, _, e22 ▸ O22⟩ (by decide) (by decide)
  exact loop fuel (0 : Int32) _ _ hf _ _ _ X7 e7 N7 O7
theorem d7_0 : decode prog_27_method_3_code 0 = .ok (.aload_n 0, 1) := by decide +kernel
theorem d7_1 : decode prog_27_method_3_code 1 = .ok (.getfield 16, 3) := by decide +kernel
theorem d7_4 : decode prog_27_method_3_code 4 = .ok (.iload_n 1, 1) := by decide +kernel
theorem d7_5 : decode prog_27_method_3_code 5 = .ok (.iaload, 1) := by decide +kernel
theorem d7_6 : decode prog_27_method_3_code 6 = .ok (.ireturn, 1) := by decide +kernel
theorem ef_rm7 (m : MethodId) (a1 : Addr) (p2 : Int32) : entryFrame m #[(.ref a1), (.int p2)] 2 = mkF m 0 #[.val (.ref a1), .val (.int p2)] [] := by first | (simp [entryFrame, mkF, argsToLocals, Value.category]; done) | rfl
set_option maxHeartbeats 40000000 in
theorem rm7 (l : Launch) (Z : State) (a0 : Array Value) (hw : ∀ d ∈ tables_1, d.before a0 Z = true) (ws : List Jvm.Cond) (a1 : Addr) (p2 : Int32) (h0 : Heap) (n0 : Nat) (b0 b1 b2 b3 b4 b5 b6 : Addr) (el po se fi en ma tu : List Int32) (tc sc : Int32) (O : Obj Z n0 h0 h0 a1 "com/example/tracegauge/tracegauge/automata/Partition" nFp [.ref b0, .ref b1, .ref b2, .ref b3, .ref b4, .ref b5, .ref b6, .int tc, .int sc] [b0, b1, b2, b3, b4, b5, b6] [el, po, se, fi, en, ma, tu]) (w : Int32) (hr : rdL se p2 = some w) :
    Met1 l Z (⟨"com/example/tracegauge/tracegauge/automata/Partition", "setOf", "(I)I"⟩ : MethodName) prog_27_method_3_code 2 (some .int) ws ({ frames := 0, cells := 0, slots := 0, locals := 0 } : Room) #[(.ref a1), (.int p2)] h0 (QP (.int w) h0) := by
  refine metOf (by first | exact plainFor_of_name (by first | (simp [plainName, overriddenIn]; done) | decide +kernel) | decide +kernel) ?_
  intro p e s m below meth c s₁ hx hby hml hown hnm hret hlk hZ X0 e0
  have hown : s.vm.findClass "com/example/tracegauge/tracegauge/automata/Partition" = some m.cls := hown
  obtain ⟨K, hK⟩ : ∃ K, K = KQ s (QP (.int w) h0) (({ frames := 0, cells := 0, slots := 0, locals := 0 } : Room)).cells (({ frames := 0, cells := 0, slots := 0, locals := 0 } : Room)).slots := ⟨_, rfl⟩
  show Go p e below (KQ s (QP (.int w) h0) (({ frames := 0, cells := 0, slots := 0, locals := 0 } : Room)).cells (({ frames := 0, cells := 0, slots := 0, locals := 0 } : Room)).slots) s₁ (entryFrame m #[(.ref a1), (.int p2)] 2)
  rw [← hK, ef_rm7 m a1 p2]
  show Go p e below _ s₁ (mkF m 0 #[.val (.ref a1), .val (.int p2)] [])
  refine Go.to (fun _ => XS.aloadN X0.here hx rfl (hb hby d7_0) rfl rfl) ?_
  show Go p e below _ s₁ (mkF m 1 #[.val (.ref a1), .val (.int p2)] [(.ref a1)])
  refine Go.oget (f := ("sets", "[I")) X0 hx hZ hown (hw _ (List.mem_of_getElem? (i := 14) rfl)) e0 O (k := 2) rfl rfl (hb hby d7_1) ?_
  intro T1 X1 e1
  show Go p e below _ T1 (mkF m 4 #[.val (.ref a1), .val (.int p2)] [(.ref b2)])
  refine Go.to (fun _ => XS.iloadN X1.here hx rfl (hb hby d7_4) rfl) ?_
  show Go p e below _ T1 (mkF m 5 #[.val (.ref a1), .val (.int p2)] [(.int p2), (.ref b2)])
  refine Go.oload X1 hx hZ e1 O (k := 2) rfl rfl hr (hb hby d7_5) ?_
  show Go p e below _ T1 (mkF m 6 #[.val (.ref a1), .val (.int p2)] [(.int w)])
  rw [hK]
  exact Go.retI X1 hx hlk hret (hb hby d7_6) ⟨rfl, e1, rfl⟩ (by decide) (by decide)
theorem d16_0 : decode prog_27_method_4_code 0 = .ok (.aload_n 0, 1) := by decide +kernel
theorem d16_1 : decode prog_27_method_4_code 1 = .ok (.getfield 19, 3) := by decide +kernel
theorem d16_4 : decode prog_27_method_4_code 4 = .ok (.iload_n 1, 1) := by decide +kernel
theorem d16_5 : decode prog_27_method_4_code 5 = .ok (.iaload, 1) := by decide +kernel
theorem d16_6 : decode prog_27_method_4_code 6 = .ok (.ireturn, 1) := by decide +kernel
theorem ef_rm16 (m : MethodId) (a1 : Addr) (p2 : Int32) : entryFrame m #[(.ref a1), (.int p2)] 2 = mkF m 0 #[.val (.ref a1), .val (.int p2)] [] := by first | (simp [entryFrame, mkF, argsToLocals, Value.category]; done) | rfl
set_option maxHeartbeats 40000000 in
theorem rm16 (l : Launch) (Z : State) (a0 : Array Value) (hw : ∀ d ∈ tables_1, d.before a0 Z = true) (ws : List Jvm.Cond) (a1 : Addr) (p2 : Int32) (h0 : Heap) (n0 : Nat) (b0 b1 b2 b3 b4 b5 b6 : Addr) (el po se fi en ma tu : List Int32) (tc sc : Int32) (O : Obj Z n0 h0 h0 a1 "com/example/tracegauge/tracegauge/automata/Partition" nFp [.ref b0, .ref b1, .ref b2, .ref b3, .ref b4, .ref b5, .ref b6, .int tc, .int sc] [b0, b1, b2, b3, b4, b5, b6] [el, po, se, fi, en, ma, tu]) (w : Int32) (hr : rdL fi p2 = some w) :
    Met1 l Z (⟨"com/example/tracegauge/tracegauge/automata/Partition", "first", "(I)I"⟩ : MethodName) prog_27_method_4_code 2 (some .int) ws ({ frames := 0, cells := 0, slots := 0, locals := 0 } : Room) #[(.ref a1), (.int p2)] h0 (QP (.int w) h0) := by
  refine metOf (by first | exact plainFor_of_name (by first | (simp [plainName, overriddenIn]; done) | decide +kernel) | decide +kernel) ?_
  intro p e s m below meth c s₁ hx hby hml hown hnm hret hlk hZ X0 e0
  have hown : s.vm.findClass "com/example/tracegauge/tracegauge/automata/Partition" = some m.cls := hown
  obtain ⟨K, hK⟩ : ∃ K, K = KQ s (QP (.int w) h0) (({ frames := 0, cells := 0, slots := 0, locals := 0 } : Room)).cells (({ frames := 0, cells := 0, slots := 0, locals := 0 } : Room)).slots := ⟨_, rfl⟩
  show Go p e below (KQ s (QP (.int w) h0) (({ frames := 0, cells := 0, slots := 0, locals := 0 } : Room)).cells (({ frames := 0, cells := 0, slots := 0, locals := 0 } : Room)).slots) s₁ (entryFrame m #[(.ref a1), (.int p2)] 2)
  rw [← hK, ef_rm16 m a1 p2]
  show Go p e below _ s₁ (mkF m 0 #[.val (.ref a1), .val (.int p2)] [])
  refine Go.to (fun _ => XS.aloadN X0.here hx rfl (hb hby d16_0) rfl rfl) ?_
  show Go p e below _ s₁ (mkF m 1 #[.val (.ref a1), .val (.int p2)] [(.ref a1)])
  refine Go.oget (f := ("first", "[I")) X0 hx hZ hown (hw _ (List.mem_of_getElem? (i := 16) rfl)) e0 O (k := 3) rfl rfl (hb hby d16_1) ?_
  intro T1 X1 e1
  show Go p e below _ T1 (mkF m 4 #[.val (.ref a1), .val (.int p2)] [(.ref b3)])
  refine Go.to (fun _ => XS.iloadN X1.here hx rfl (hb hby d16_4) rfl) ?_
  show Go p e below _ T1 (mkF m 5 #[.val (.ref a1), .val (.int p2)] [(.int p2), (.ref b3)])
  refine Go.oload X1 hx hZ e1 O (k := 3) rfl rfl hr (hb hby d16_5) ?_
  show Go p e below _ T1 (mkF m 6 #[.val (.ref a1), .val (.int p2)] [(.int w)])
  rw [hK]
  exact Go.retI X1 hx hlk hret (hb hby d16_6) ⟨rfl, e1, rfl⟩ (by decide) (by decide)
theorem d15_0 : decode prog_27_method_5_code 0 = .ok (.aload_n 0, 1) := by decide +kernel
theorem d15_1 : decode prog_27_method_5_code 1 = .ok (.getfield 22, 3) := by decide +kernel
theorem d15_4 : decode prog_27_method_5_code 4 = .ok (.iload_n 1, 1) := by decide +kernel
theorem d15_5 : decode prog_27_method_5_code 5 = .ok (.iaload, 1) := by decide +kernel
theorem d15_6 : decode prog_27_method_5_code 6 = .ok (.ireturn, 1) := by decide +kernel
theorem ef_rm15 (m : MethodId) (a1 : Addr) (p2 : Int32) : entryFrame m #[(.ref a1), (.int p2)] 2 = mkF m 0 #[.val (.ref a1), .val (.int p2)] [] := by first | (simp [entryFrame, mkF, argsToLocals, Value.category]; done) | rfl
set_option maxHeartbeats 40000000 in
theorem rm15 (l : Launch) (Z : State) (a0 : Array Value) (hw : ∀ d ∈ tables_1, d.before a0 Z = true) (ws : List Jvm.Cond) (a1 : Addr) (p2 : Int32) (h0 : Heap) (n0 : Nat) (b0 b1 b2 b3 b4 b5 b6 : Addr) (el po se fi en ma tu : List Int32) (tc sc : Int32) (O : Obj Z n0 h0 h0 a1 "com/example/tracegauge/tracegauge/automata/Partition" nFp [.ref b0, .ref b1, .ref b2, .ref b3, .ref b4, .ref b5, .ref b6, .int tc, .int sc] [b0, b1, b2, b3, b4, b5, b6] [el, po, se, fi, en, ma, tu]) (w : Int32) (hr : rdL en p2 = some w) :
    Met1 l Z (⟨"com/example/tracegauge/tracegauge/automata/Partition", "end", "(I)I"⟩ : MethodName) prog_27_method_5_code 2 (some .int) ws ({ frames := 0, cells := 0, slots := 0, locals := 0 } : Room) #[(.ref a1), (.int p2)] h0 (QP (.int w) h0) := by
  refine metOf (by first | exact plainFor_of_name (by first | (simp [plainName, overriddenIn]; done) | decide +kernel) | decide +kernel) ?_
  intro p e s m below meth c s₁ hx hby hml hown hnm hret hlk hZ X0 e0
  have hown : s.vm.findClass "com/example/tracegauge/tracegauge/automata/Partition" = some m.cls := hown
  obtain ⟨K, hK⟩ : ∃ K, K = KQ s (QP (.int w) h0) (({ frames := 0, cells := 0, slots := 0, locals := 0 } : Room)).cells (({ frames := 0, cells := 0, slots := 0, locals := 0 } : Room)).slots := ⟨_, rfl⟩
  show Go p e below (KQ s (QP (.int w) h0) (({ frames := 0, cells := 0, slots := 0, locals := 0 } : Room)).cells (({ frames := 0, cells := 0, slots := 0, locals := 0 } : Room)).slots) s₁ (entryFrame m #[(.ref a1), (.int p2)] 2)
  rw [← hK, ef_rm15 m a1 p2]
  show Go p e below _ s₁ (mkF m 0 #[.val (.ref a1), .val (.int p2)] [])
  refine Go.to (fun _ => XS.aloadN X0.here hx rfl (hb hby d15_0) rfl rfl) ?_
  show Go p e below _ s₁ (mkF m 1 #[.val (.ref a1), .val (.int p2)] [(.ref a1)])
  refine Go.oget (f := ("end", "[I")) X0 hx hZ hown (hw _ (List.mem_of_getElem? (i := 18) rfl)) e0 O (k := 4) rfl rfl (hb hby d15_1) ?_
  intro T1 X1 e1
  show Go p e below _ T1 (mkF m 4 #[.val (.ref a1), .val (.int p2)] [(.ref b4)])
  refine Go.to (fun _ => XS.iloadN X1.here hx rfl (hb hby d15_4) rfl) ?_
  show Go p e below _ T1 (mkF m 5 #[.val (.ref a1), .val (.int p2)] [(.int p2), (.ref b4)])
  refine Go.oload X1 hx hZ e1 O (k := 4) rfl rfl hr (hb hby d15_5) ?_
  show Go p e below _ T1 (mkF m 6 #[.val (.ref a1), .val (.int p2)] [(.int w)])
  rw [hK]
  exact Go.retI X1 hx hlk hret (hb hby d15_6) ⟨rfl, e1, rfl⟩ (by decide) (by decide)
theorem d8_0 : decode prog_27_method_2_code 0 = .ok (.aload_n 0, 1) := by decide +kernel
theorem d8_1 : decode prog_27_method_2_code 1 = .ok (.getfield 31, 3) := by decide +kernel
theorem d8_4 : decode prog_27_method_2_code 4 = .ok (.ireturn, 1) := by decide +kernel
theorem ef_rm8 (m : MethodId) (a1 : Addr) : entryFrame m #[(.ref a1)] 1 = mkF m 0 #[.val (.ref a1)] [] := by first | (simp [entryFrame, mkF, argsToLocals, Value.category]; done) | rfl
set_option maxHeartbeats 40000000 in
theorem rm8 (l : Launch) (Z : State) (a0 : Array Value) (hw : ∀ d ∈ tables_1, d.before a0 Z = true) (ws : List Jvm.Cond) (a1 : Addr) (h0 : Heap) (n0 : Nat) (b0 b1 b2 b3 b4 b5 b6 : Addr) (el po se fi en ma tu : List Int32) (tc sc : Int32) (O : Obj Z n0 h0 h0 a1 "com/example/tracegauge/tracegauge/automata/Partition" nFp [.ref b0, .ref b1, .ref b2, .ref b3, .ref b4, .ref b5, .ref b6, .int tc, .int sc] [b0, b1, b2, b3, b4, b5, b6] [el, po, se, fi, en, ma, tu]) :
    Met1 l Z (⟨"com/example/tracegauge/tracegauge/automata/Partition", "setCount", "()I"⟩ : MethodName) prog_27_method_2_code 1 (some .int) ws ({ frames := 0, cells := 0, slots := 0, locals := 0 } : Room) #[(.ref a1)] h0 (QP (.int sc) h0) := by
  refine metOf (by first | exact plainFor_of_name (by first | (simp [plainName, overriddenIn]; done) | decide +kernel) | decide +kernel) ?_
  intro p e s m below meth c s₁ hx hby hml hown hnm hret hlk hZ X0 e0
  have hown : s.vm.findClass "com/example/tracegauge/tracegauge/automata/Partition" = some m.cls := hown
  obtain ⟨K, hK⟩ : ∃ K, K = KQ s (QP (.int sc) h0) (({ frames := 0, cells := 0, slots := 0, locals := 0 } : Room)).cells (({ frames := 0, cells := 0, slots := 0, locals := 0 } : Room)).slots := ⟨_, rfl⟩
  show Go p e below (KQ s (QP (.int sc) h0) (({ frames := 0, cells := 0, slots := 0, locals := 0 } : Room)).cells (({ frames := 0, cells := 0, slots := 0, locals := 0 } : Room)).slots) s₁ (entryFrame m #[(.ref a1)] 1)
  rw [← hK, ef_rm8 m a1]
  show Go p e below _ s₁ (mkF m 0 #[.val (.ref a1)] [])
  refine Go.to (fun _ => XS.aloadN X0.here hx rfl (hb hby d8_0) rfl rfl) ?_
  show Go p e below _ s₁ (mkF m 1 #[.val (.ref a1)] [(.ref a1)])
  refine Go.oget (f := ("setCount", "I")) X0 hx hZ hown (hw _ (List.mem_of_getElem? (i := 24) rfl)) e0 O (k := 8) rfl rfl (hb hby d8_1) ?_
  intro T1 X1 e1
  show Go p e below _ T1 (mkF m 4 #[.val (.ref a1)] [(.int sc)])
  rw [hK]
  exact Go.retI X1 hx hlk hret (hb hby d8_4) ⟨rfl, e1, rfl⟩ (by decide) (by decide)
def markF (p2 : Int32) (el po se fi en ma tu : List Int32) (tc sc : Int32) : Option (List Int32 × List Int32 × List Int32 × List Int32 × List Int32 × List Int32 × List Int32 × Int32 × Int32) := ((rdL se p2).bind fun v1 => ((rdL po p2).bind fun v2 => ((rdL fi v1).bind fun v3 => ((rdL ma v1).bind fun v4 => (if v2 < (v3 + v4) then some (el, po, se, fi, en, ma, tu, tc, sc) else ((rdL el (v3 + v4)).bind fun v5 => ((some (wrL el (v3 + v4) p2)).bind fun x6 => ((some (wrL po p2 (v3 + v4))).bind fun x7 => ((rdL x6 v2).bind fun v8 => ((some (wrL x6 v2 v5)).bind fun x9 => ((rdL x7 v5).bind fun v10 => ((some (wrL x7 v5 v2)).bind fun x11 => ((some (wrL ma v1 (v4 + (1 : Int32)))).bind fun x12 => (if v4 = (0 : Int32) then ((rdL tu tc).bind fun v13 => ((some (wrL tu tc v1)).bind fun x14 => some (x9, x11, se, fi, en, x12, x14, (tc + (1 : Int32)), sc))) else some (x9, x11, se, fi, en, x12, tu, tc, sc)))))))))))))))
theorem d9_0 : decode prog_27_method_7_code 0 = .ok (.aload_n 0, 1) := by decide +kernel
theorem d9_1 : decode prog_27_method_7_code 1 = .ok (.getfield 16, 3) := by decide +kernel
theorem d9_4 : decode prog_27_method_7_code 4 = .ok (.iload_n 1, 1) := by decide +kernel
theorem d9_5 : decode prog_27_method_7_code 5 = .ok (.iaload, 1) := by decide +kernel
theorem d9_6 : decode prog_27_method_7_code 6 = .ok (.istore_n 2, 1) := by decide +kernel
theorem d9_7 : decode prog_27_method_7_code 7 = .ok (.aload_n 0, 1) := by decide +kernel
theorem d9_8 : decode prog_27_method_7_code 8 = .ok (.getfield 13, 3) := by decide +kernel
theorem d9_11 : decode prog_27_method_7_code 11 = .ok (.iload_n 1, 1) := by decide +kernel
theorem d9_12 : decode prog_27_method_7_code 12 = .ok (.iaload, 1) := by decide +kernel
theorem d9_13 : decode prog_27_method_7_code 13 = .ok (.istore_n 3, 1) := by decide +kernel
theorem d9_14 : decode prog_27_method_7_code 14 = .ok (.aload_n 0, 1) := by decide +kernel
theorem d9_15 : decode prog_27_method_7_code 15 = .ok (.getfield 19, 3) := by decide +kernel
theorem d9_18 : decode prog_27_method_7_code 18 = .ok (.iload_n 2, 1) := by decide +kernel
theorem d9_19 : decode prog_27_method_7_code 19 = .ok (.iaload, 1) := by decide +kernel
theorem d9_20 : decode prog_27_method_7_code 20 = .ok (.aload_n 0, 1) := by decide +kernel
theorem d9_21 : decode prog_27_method_7_code 21 = .ok (.getfield 25, 3) := by decide +kernel
theorem d9_24 : decode prog_27_method_7_code 24 = .ok (.iload_n 2, 1) := by decide +kernel
theorem d9_25 : decode prog_27_method_7_code 25 = .ok (.iaload, 1) := by decide +kernel
theorem d9_26 : decode prog_27_method_7_code 26 = .ok (.iadd, 1) := by decide +kernel
theorem d9_27 : decode prog_27_method_7_code 27 = .ok (.istore 4, 2) := by decide +kernel
theorem d9_29 : decode prog_27_method_7_code 29 = .ok (.iload_n 3, 1) := by decide +kernel
theorem d9_30 : decode prog_27_method_7_code 30 = .ok (.iload 4, 2) := by decide +kernel
theorem d9_32 : decode prog_27_method_7_code 32 = .ok (.if_icmp .ge 4, 3) := by decide +kernel
theorem d9_35 : decode prog_27_method_7_code 35 = .ok (.return_, 1) := by decide +kernel
theorem d9_36 : decode prog_27_method_7_code 36 = .ok (.aload_n 0, 1) := by decide +kernel
theorem d9_37 : decode prog_27_method_7_code 37 = .ok (.getfield 7, 3) := by decide +kernel
theorem d9_40 : decode prog_27_method_7_code 40 = .ok (.iload 4, 2) := by decide +kernel
theorem d9_42 : decode prog_27_method_7_code 42 = .ok (.iaload, 1) := by decide +kernel
theorem d9_43 : decode prog_27_method_7_code 43 = .ok (.istore 5, 2) := by decide +kernel
theorem d9_45 : decode prog_27_method_7_code 45 = .ok (.aload_n 0, 1) := by decide +kernel
theorem d9_46 : decode prog_27_method_7_code 46 = .ok (.getfield 7, 3) := by decide +kernel
theorem d9_49 : decode prog_27_method_7_code 49 = .ok (.iload 4, 2) := by decide +kernel
theorem d9_51 : decode prog_27_method_7_code 51 = .ok (.iload_n 1, 1) := by decide +kernel
theorem d9_52 : decode prog_27_method_7_code 52 = .ok (.iastore, 1) := by decide +kernel
theorem d9_53 : decode prog_27_method_7_code 53 = .ok (.aload_n 0, 1) := by decide +kernel
theorem d9_54 : decode prog_27_method_7_code 54 = .ok (.getfield 13, 3) := by decide +kernel
theorem d9_57 : decode prog_27_method_7_code 57 = .ok (.iload_n 1, 1) := by decide +kernel
theorem d9_58 : decode prog_27_method_7_code 58 = .ok (.iload 4, 2) := by decide +kernel
theorem d9_60 : decode prog_27_method_7_code 60 = .ok (.iastore, 1) := by decide +kernel
theorem d9_61 : decode prog_27_method_7_code 61 = .ok (.aload_n 0, 1) := by decide +kernel
theorem d9_62 : decode prog_27_method_7_code 62 = .ok (.getfield 7, 3) := by decide +kernel
theorem d9_65 : decode prog_27_method_7_code 65 = .ok (.iload_n 3, 1) := by decide +kernel
theorem d9_66 : decode prog_27_method_7_code 66 = .ok (.iload 5, 2) := by decide +kernel
theorem d9_68 : decode prog_27_method_7_code 68 = .ok (.iastore, 1) := by decide +kernel
theorem d9_69 : decode prog_27_method_7_code 69 = .ok (.aload_n 0, 1) := by decide +kernel
theorem d9_70 : decode prog_27_method_7_code 70 = .ok (.getfield 13, 3) := by decide +kernel
theorem d9_73 : decode prog_27_method_7_code 73 = .ok (.iload 5, 2) := by decide +kernel
theorem d9_75 : decode prog_27_method_7_code 75 = .ok (.iload_n 3, 1) := by decide +kernel
theorem d9_76 : decode prog_27_method_7_code 76 = .ok (.iastore, 1) := by decide +kernel
theorem d9_77 : decode prog_27_method_7_code 77 = .ok (.aload_n 0, 1) := by decide +kernel
theorem d9_78 : decode prog_27_method_7_code 78 = .ok (.getfield 25, 3) := by decide +kernel
theorem d9_81 : decode prog_27_method_7_code 81 = .ok (.iload_n 2, 1) := by decide +kernel
theorem d9_82 : decode prog_27_method_7_code 82 = .ok (.dup2, 1) := by decide +kernel
theorem d9_83 : decode prog_27_method_7_code 83 = .ok (.iaload, 1) := by decide +kernel
theorem d9_84 : decode prog_27_method_7_code 84 = .ok (.dup_x2, 1) := by decide +kernel
theorem d9_85 : decode prog_27_method_7_code 85 = .ok (.iconst 1, 1) := by decide +kernel
theorem d9_86 : decode prog_27_method_7_code 86 = .ok (.iadd, 1) := by decide +kernel
theorem d9_87 : decode prog_27_method_7_code 87 = .ok (.iastore, 1) := by decide +kernel
theorem d9_88 : decode prog_27_method_7_code 88 = .ok (.ifCond .ne 20, 3) := by decide +kernel
theorem d9_91 : decode prog_27_method_7_code 91 = .ok (.aload_n 0, 1) := by decide +kernel
theorem d9_92 : decode prog_27_method_7_code 92 = .ok (.getfield 28, 3) := by decide +kernel
theorem d9_95 : decode prog_27_method_7_code 95 = .ok (.aload_n 0, 1) := by decide +kernel
theorem d9_96 : decode prog_27_method_7_code 96 = .ok (.dup, 1) := by decide +kernel
theorem d9_97 : decode prog_27_method_7_code 97 = .ok (.getfield 35, 3) := by decide +kernel
theorem d9_100 : decode prog_27_method_7_code 100 = .ok (.dup_x1, 1) := by decide +kernel
theorem d9_101 : decode prog_27_method_7_code 101 = .ok (.iconst 1, 1) := by decide +kernel
theorem d9_102 : decode prog_27_method_7_code 102 = .ok (.iadd, 1) := by decide +kernel
theorem d9_103 : decode prog_27_method_7_code 103 = .ok (.putfield 35, 3) := by decide +kernel
theorem d9_106 : decode prog_27_method_7_code 106 = .ok (.iload_n 2, 1) := by decide +kernel
theorem d9_107 : decode prog_27_method_7_code 107 = .ok (.iastore, 1) := by decide +kernel
theorem d9_108 : decode prog_27_method_7_code 108 = .ok (.return_, 1) := by decide +kernel
theorem ef_rm9 (m : MethodId) (a1 : Addr) (p2 : Int32) : entryFrame m #[(.ref a1), (.int p2)] 6 = mkF m 0 #[.val (.ref a1), .val (.int p2), .unset, .unset, .unset, .unset] [] := by first | (simp [entryFrame, mkF, argsToLocals, Value.category]; done) | rfl
set_option maxHeartbeats 40000000 in
theorem rm9 (l : Launch) (Z : State) (a0 : Array Value) (hw : ∀ d ∈ tables_1, d.before a0 Z = true) (ws : List Jvm.Cond) (a1 : Addr) (p2 : Int32) (h0 : Heap) (n0 : Nat) (b0 b1 b2 b3 b4 b5 b6 : Addr) (el po se fi en ma tu : List Int32) (tc sc : Int32) (O : Obj Z n0 h0 h0 a1 "com/example/tracegauge/tracegauge/automata/Partition" nFp [.ref b0, .ref b1, .ref b2, .ref b3, .ref b4, .ref b5, .ref b6, .int tc, .int sc] [b0, b1, b2, b3, b4, b5, b6] [el, po, se, fi, en, ma, tu]) (el' po' se' fi' en' ma' tu' : List Int32) (tc' sc' : Int32) (hf : markF p2 el po se fi en ma tu tc sc = some (el', po', se', fi', en', ma', tu', tc', sc')) :
    Met1 l Z (⟨"com/example/tracegauge/tracegauge/automata/Partition", "mark", "(I)V"⟩ : MethodName) prog_27_method_7_code 6 none ws ({ frames := 0, cells := 0, slots := 0, locals := 0 } : Room) #[(.ref a1), (.int p2)] h0 (fun v h L => v = none ∧ Fr n0 L ∧ Obj Z n0 h0 h a1 "com/example/tracegauge/tracegauge/automata/Partition" nFp [.ref b0, .ref b1, .ref b2, .ref b3, .ref b4, .ref b5, .ref b6, .int tc', .int sc'] [b0, b1, b2, b3, b4, b5, b6] [el', po', se', fi', en', ma', tu']) := by
  refine metOf (by first | exact plainFor_of_name (by first | (simp [plainName, overriddenIn]; done) | decide +kernel) | decide +kernel) ?_
  intro p e s m below meth c s₁ hx hby hml hown hnm hret hlk hZ X0 e0
  have hown : s.vm.findClass "com/example/tracegauge/tracegauge/automata/Partition" = some m.cls := hown
  obtain ⟨K, hK⟩ : ∃ K, K = KQ s (fun v h L => v = none ∧ Fr n0 L ∧ Obj Z n0 h0 h a1 "com/example/tracegauge/tracegauge/automata/Partition" nFp [.ref b0, .ref b1, .ref b2, .ref b3, .ref b4, .ref b5, .ref b6, .int tc', .int sc'] [b0, b1, b2, b3, b4, b5, b6] [el', po', se', fi', en', ma', tu']) (({ frames := 0, cells := 0, slots := 0, locals := 0 } : Room)).cells (({ frames := 0, cells := 0, slots := 0, locals := 0 } : Room)).slots := ⟨_, rfl⟩
  show Go p e below (KQ s (fun v h L => v = none ∧ Fr n0 L ∧ Obj Z n0 h0 h a1 "com/example/tracegauge/tracegauge/automata/Partition" nFp [.ref b0, .ref b1, .ref b2, .ref b3, .ref b4, .ref b5, .ref b6, .int tc', .int sc'] [b0, b1, b2, b3, b4, b5, b6] [el', po', se', fi', en', ma', tu']) (({ frames := 0, cells := 0, slots := 0, locals := 0 } : Room)).cells (({ frames := 0, cells := 0, slots := 0, locals := 0 } : Room)).slots) s₁ (entryFrame m #[(.ref a1), (.int p2)] 6)
  rw [← hK, ef_rm9 m a1 p2]
  rw [markF] at hf
  show Go p e below _ s₁ (mkF m 0 #[.val (.ref a1), .val (.int p2), .unset, .unset, .unset, .unset] [])
  refine Go.to (fun _ => XS.aloadN X0.here hx rfl (hb hby d9_0) rfl rfl) ?_
  show Go p e below _ s₁ (mkF m 1 #[.val (.ref a1), .val (.int p2), .unset, .unset, .unset, .unset] [(.ref a1)])
  refine Go.oget (f := ("sets", "[I")) X0 hx hZ hown (hw _ (List.mem_of_getElem? (i := 14) rfl)) e0 O (k := 2) rfl rfl (hb hby d9_1) ?_
  intro T1 X1 e1
  show Go p e below _ T1 (mkF m 4 #[.val (.ref a1), .val (.int p2), .unset, .unset, .unset, .unset] [(.ref b2)])
  refine Go.to (fun _ => XS.iloadN X1.here hx rfl (hb hby d9_4) rfl) ?_
  show Go p e below _ T1 (mkF m 5 #[.val (.ref a1), .val (.int p2), .unset, .unset, .unset, .unset] [(.int p2), (.ref b2)])
  obtain ⟨v1, hv1, hf⟩ := Option.bind_eq_some_iff.mp hf
  refine Go.oload X1 hx hZ e1 O (k := 2) rfl rfl hv1 (hb hby d9_5) ?_
  show Go p e below _ T1 (mkF m 6 #[.val (.ref a1), .val (.int p2), .unset, .unset, .unset, .unset] [(.int v1)])
  refine Go.to (fun _ => XS.istoreN X1.here hx rfl (hb hby d9_6) rfl (l' := #[.val (.ref a1), .val (.int p2), .val (.int v1), .unset, .unset, .unset]) rfl) ?_
  show Go p e below _ T1 (mkF m 7 #[.val (.ref a1), .val (.int p2), .val (.int v1), .unset, .unset, .unset] [])
  refine Go.to (fun _ => XS.aloadN X1.here hx rfl (hb hby d9_7) rfl rfl) ?_
  show Go p e below _ T1 (mkF m 8 #[.val (.ref a1), .val (.int p2), .val (.int v1), .unset, .unset, .unset] [(.ref a1)])
  refine Go.oget (f := ("positions", "[I")) X1 hx hZ hown (hw _ (List.mem_of_getElem? (i := 12) rfl)) e1 O (k := 1) rfl rfl (hb hby d9_8) ?_
  intro T2 X2 e2
  show Go p e below _ T2 (mkF m 11 #[.val (.ref a1), .val (.int p2), .val (.int v1), .unset, .unset, .unset] [(.ref b1)])
  refine Go.to (fun _ => XS.iloadN X2.here hx rfl (hb hby d9_11) rfl) ?_
  show Go p e below _ T2 (mkF m 12 #[.val (.ref a1), .val (.int p2), .val (.int v1), .unset, .unset, .unset] [(.int p2), (.ref b1)])
  obtain ⟨v2, hv2, hf⟩ := Option.bind_eq_some_iff.mp hf
  refine Go.oload X2 hx hZ e2 O (k := 1) rfl rfl hv2 (hb hby d9_12) ?_
  show Go p e below _ T2 (mkF m 13 #[.val (.ref a1), .val (.int p2), .val (.int v1), .unset, .unset, .unset] [(.int v2)])
  refine Go.to (fun _ => XS.istoreN X2.here hx rfl (hb hby d9_13) rfl (l' := #[.val (.ref a1), .val (.int p2), .val (.int v1), .val (.int v2), .unset, .unset]) rfl) ?_
  show Go p e below _ T2 (mkF m 14 #[.val (.ref a1), .val (.int p2), .val (.int v1), .val (.int v2), .unset, .unset] [])
  refine Go.to (fun _ => XS.aloadN X2.here hx rfl (hb hby d9_14) rfl rfl) ?_
  show Go p e below _ T2 (mkF m 15 #[.val (.ref a1), .val (.int p2), .val (.int v1), .val (.int v2), .unset, .unset] [(.ref a1)])
  refine Go.oget (f := ("first", "[I")) X2 hx hZ hown (hw _ (List.mem_of_getElem? (i := 16) rfl)) e2 O (k := 3) rfl rfl (hb hby d9_15) ?_
  intro T3 X3 e3
  show Go p e below _ T3 (mkF m 18 #[.val (.ref a1), .val (.int p2), .val (.int v1), .val (.int v2), .unset, .unset] [(.ref b3)])
  refine Go.to (fun _ => XS.iloadN X3.here hx rfl (hb hby d9_18) rfl) ?_
  show Go p e below _ T3 (mkF m 19 #[.val (.ref a1), .val (.int p2), .val (.int v1), .val (.int v2), .unset, .unset] [(.int v1), (.ref b3)])
  obtain ⟨v3, hv3, hf⟩ := Option.bind_eq_some_iff.mp hf
  refine Go.oload X3 hx hZ e3 O (k := 3) rfl rfl hv3 (hb hby d9_19) ?_
  show Go p e below _ T3 (mkF m 20 #[.val (.ref a1), .val (.int p2), .val (.int v1), .val (.int v2), .unset, .unset] [(.int v3)])
  refine Go.to (fun _ => XS.aloadN X3.here hx rfl (hb hby d9_20) rfl rfl) ?_
  show Go p e below _ T3 (mkF m 21 #[.val (.ref a1), .val (.int p2), .val (.int v1), .val (.int v2), .unset, .unset] [(.ref a1), (.int v3)])
  refine Go.oget (f := ("marked", "[I")) X3 hx hZ hown (hw _ (List.mem_of_getElem? (i := 20) rfl)) e3 O (k := 5) rfl rfl (hb hby d9_21) ?_
  intro T4 X4 e4
  show Go p e below _ T4 (mkF m 24 #[.val (.ref a1), .val (.int p2), .val (.int v1), .val (.int v2), .unset, .unset] [(.ref b5), (.int v3)])
  refine Go.to (fun _ => XS.iloadN X4.here hx rfl (hb hby d9_24) rfl) ?_
  show Go p e below _ T4 (mkF m 25 #[.val (.ref a1), .val (.int p2), .val (.int v1), .val (.int v2), .unset, .unset] [(.int v1), (.ref b5), (.int v3)])
  obtain ⟨v4, hv4, hf⟩ := Option.bind_eq_some_iff.mp hf
  refine Go.oload X4 hx hZ e4 O (k := 5) rfl rfl hv4 (hb hby d9_25) ?_
  show Go p e below _ T4 (mkF m 26 #[.val (.ref a1), .val (.int p2), .val (.int v1), .val (.int v2), .unset, .unset] [(.int v4), (.int v3)])
  refine Go.to (fun _ => XS.iadd X4.here hx rfl (hb hby d9_26) rfl) ?_
  show Go p e below _ T4 (mkF m 27 #[.val (.ref a1), .val (.int p2), .val (.int v1), .val (.int v2), .unset, .unset] [(.int (v3 + v4))])
  refine Go.to (fun _ => XS.istore X4.here hx rfl (hb hby d9_27) rfl (l' := #[.val (.ref a1), .val (.int p2), .val (.int v1), .val (.int v2), .val (.int (v3 + v4)), .unset]) rfl) ?_
  show Go p e below _ T4 (mkF m 29 #[.val (.ref a1), .val (.int p2), .val (.int v1), .val (.int v2), .val (.int (v3 + v4)), .unset] [])
  refine Go.to (fun _ => XS.iloadN X4.here hx rfl (hb hby d9_29) rfl) ?_
  show Go p e below _ T4 (mkF m 30 #[.val (.ref a1), .val (.int p2), .val (.int v1), .val (.int v2), .val (.int (v3 + v4)), .unset] [(.int v2)])
  refine Go.to (fun _ => XS.iload X4.here hx rfl (hb hby d9_30) rfl) ?_
  show Go p e below _ T4 (mkF m 32 #[.val (.ref a1), .val (.int p2), .val (.int v1), .val (.int v2), .val (.int (v3 + v4)), .unset] [(.int (v3 + v4)), (.int v2)])
  by_cases hc1 : v2 < (v3 + v4)
  · rw [if_pos hc1] at hf
    refine Go.to (fun _ => XS.icmpNo X4.here hx rfl (hb hby d9_32) rfl (tlt hc1).2.1) ?_
    show Go p e below _ T4 (mkF m 35 #[.val (.ref a1), .val (.int p2), .val (.int v1), .val (.int v2), .val (.int (v3 + v4)), .unset] [])
    simp only [Option.some.injEq, Prod.mk.injEq] at hf
    obtain ⟨rfl, rfl, rfl, rfl, rfl, rfl, rfl, rfl, rfl⟩ := hf
    rw [hK]
    exact Go.retV X4 hx hlk hret (hb hby d9_35) ⟨rfl, (Fr.nil n0), e4 ▸ O⟩ (by decide) (by decide)
  · rw [if_neg hc1] at hf
    refine Go.to (fun _ => XS.icmpYes X4.here hx rfl (pc0 := 32) (pc' := 36) rfl (hb hby d9_32) rfl (flt hc1).2.1 (by decide) (by decide)) ?_
    show Go p e below _ T4 (mkF m 36 #[.val (.ref a1), .val (.int p2), .val (.int v1), .val (.int v2), .val (.int (v3 + v4)), .unset] [])
    refine Go.to (fun _ => XS.aloadN X4.here hx rfl (hb hby d9_36) rfl rfl) ?_
    show Go p e below _ T4 (mkF m 37 #[.val (.ref a1), .val (.int p2), .val (.int v1), .val (.int v2), .val (.int (v3 + v4)), .unset] [(.ref a1)])
    refine Go.oget (f := ("elements", "[I")) X4 hx hZ hown (hw _ (List.mem_of_getElem? (i := 10) rfl)) e4 O (k := 0) rfl rfl (hb hby d9_37) ?_
    intro T5 X5 e5
    show Go p e below _ T5 (mkF m 40 #[.val (.ref a1), .val (.int p2), .val (.int v1), .val (.int v2), .val (.int (v3 + v4)), .unset] [(.ref b0)])
    refine Go.to (fun _ => XS.iload X5.here hx rfl (hb hby d9_40) rfl) ?_
    show Go p e below _ T5 (mkF m 42 #[.val (.ref a1), .val (.int p2), .val (.int v1), .val (.int v2), .val (.int (v3 + v4)), .unset] [(.int (v3 + v4)), (.ref b0)])
    obtain ⟨v5, hv5, hf⟩ := Option.bind_eq_some_iff.mp hf
    refine Go.oload X5 hx hZ e5 O (k := 0) rfl rfl hv5 (hb hby d9_42) ?_
    show Go p e below _ T5 (mkF m 43 #[.val (.ref a1), .val (.int p2), .val (.int v1), .val (.int v2), .val (.int (v3 + v4)), .unset] [(.int v5)])
    refine Go.to (fun _ => XS.istore X5.here hx rfl (hb hby d9_43) rfl (l' := #[.val (.ref a1), .val (.int p2), .val (.int v1), .val (.int v2), .val (.int (v3 + v4)), .val (.int v5)]) rfl) ?_
    show Go p e below _ T5 (mkF m 45 #[.val (.ref a1), .val (.int p2), .val (.int v1), .val (.int v2), .val (.int (v3 + v4)), .val (.int v5)] [])
    refine Go.to (fun _ => XS.aloadN X5.here hx rfl (hb hby d9_45) rfl rfl) ?_
    show Go p e below _ T5 (mkF m 46 #[.val (.ref a1), .val (.int p2), .val (.int v1), .val (.int v2), .val (.int (v3 + v4)), .val (.int v5)] [(.ref a1)])
    refine Go.oget (f := ("elements", "[I")) X5 hx hZ hown (hw _ (List.mem_of_getElem? (i := 10) rfl)) e5 O (k := 0) rfl rfl (hb hby d9_46) ?_
    intro T6 X6 e6
    show Go p e below _ T6 (mkF m 49 #[.val (.ref a1), .val (.int p2), .val (.int v1), .val (.int v2), .val (.int (v3 + v4)), .val (.int v5)] [(.ref b0)])
    refine Go.to (fun _ => XS.iload X6.here hx rfl (hb hby d9_49) rfl) ?_
    show Go p e below _ T6 (mkF m 51 #[.val (.ref a1), .val (.int p2), .val (.int v1), .val (.int v2), .val (.int (v3 + v4)), .val (.int v5)] [(.int (v3 + v4)), (.ref b0)])
    refine Go.to (fun _ => XS.iloadN X6.here hx rfl (hb hby d9_51) rfl) ?_
    show Go p e below _ T6 (mkF m 52 #[.val (.ref a1), .val (.int p2), .val (.int v1), .val (.int v2), .val (.int (v3 + v4)), .val (.int v5)] [(.int p2), (.int (v3 + v4)), (.ref b0)])
    refine Go.ostore X6 hx hZ e6 (Fr.nil n0) O (k := 0) rfl rfl hv5 (hb hby d9_52) ?_
    intro T7 h7 L7 X7 e7 N7 O7
    have O7 : Obj Z n0 h0 h7 a1 "com/example/tracegauge/tracegauge/automata/Partition" nFp [(.ref b0), (.ref b1), (.ref b2), (.ref b3), (.ref b4), (.ref b5), (.ref b6), (.int tc), (.int sc)] [b0, b1, b2, b3, b4, b5, b6] [(wrL el (v3 + v4) p2), po, se, fi, en, ma, tu] := O7
    obtain ⟨x6, hx6, hf⟩ := Option.bind_eq_some_iff.mp hf
    rw [Option.some.inj hx6] at O7
    show Go p e below _ T7 (mkF m 53 #[.val (.ref a1), .val (.int p2), .val (.int v1), .val (.int v2), .val (.int (v3 + v4)), .val (.int v5)] [])
    refine Go.to (fun _ => XS.aloadN X7.here hx rfl (hb hby d9_53) rfl rfl) ?_
    show Go p e below _ T7 (mkF m 54 #[.val (.ref a1), .val (.int p2), .val (.int v1), .val (.int v2), .val (.int (v3 + v4)), .val (.int v5)] [(.ref a1)])
    refine Go.oget (f := ("positions", "[I")) X7 hx hZ hown (hw _ (List.mem_of_getElem? (i := 12) rfl)) e7 O7 (k := 1) rfl rfl (hb hby d9_54) ?_
    intro T8 X8 e8
    show Go p e below _ T8 (mkF m 57 #[.val (.ref a1), .val (.int p2), .val (.int v1), .val (.int v2), .val (.int (v3 + v4)), .val (.int v5)] [(.ref b1)])
    refine Go.to (fun _ => XS.iloadN X8.here hx rfl (hb hby d9_57) rfl) ?_
    show Go p e below _ T8 (mkF m 58 #[.val (.ref a1), .val (.int p2), .val (.int v1), .val (.int v2), .val (.int (v3 + v4)), .val (.int v5)] [(.int p2), (.ref b1)])
    refine Go.to (fun _ => XS.iload X8.here hx rfl (hb hby d9_58) rfl) ?_
    show Go p e below _ T8 (mkF m 60 #[.val (.ref a1), .val (.int p2), .val (.int v1), .val (.int v2), .val (.int (v3 + v4)), .val (.int v5)] [(.int (v3 + v4)), (.int p2), (.ref b1)])
    refine Go.ostore X8 hx hZ e8 N7 O7 (k := 1) rfl rfl hv2 (hb hby d9_60) ?_
    intro T9 h9 L9 X9 e9 N9 O9
    have O9 : Obj Z n0 h0 h9 a1 "com/example/tracegauge/tracegauge/automata/Partition" nFp [(.ref b0), (.ref b1), (.ref b2), (.ref b3), (.ref b4), (.ref b5), (.ref b6), (.int tc), (.int sc)] [b0, b1, b2, b3, b4, b5, b6] [x6, (wrL po p2 (v3 + v4)), se, fi, en, ma, tu] := O9
    obtain ⟨x7, hx7, hf⟩ := Option.bind_eq_some_iff.mp hf
    rw [Option.some.inj hx7] at O9
    show Go p e below _ T9 (mkF m 61 #[.val (.ref a1), .val (.int p2), .val (.int v1), .val (.int v2), .val (.int (v3 + v4)), .val (.int v5)] [])
    refine Go.to (fun _ => XS.aloadN X9.here hx rfl (hb hby d9_61) rfl rfl) ?_
    show Go p e below _ T9 (mkF m 62 #[.val (.ref a1), .val (.int p2), .val (.int v1), .val (.int v2), .val (.int (v3 + v4)), .val (.int v5)] [(.ref a1)])
    refine Go.oget (f := ("elements", "[I")) X9 hx hZ hown (hw _ (List.mem_of_getElem? (i := 10) rfl)) e9 O9 (k := 0) rfl rfl (hb hby d9_62) ?_
    intro T10 X10 e10
    show Go p e below _ T10 (mkF m 65 #[.val (.ref a1), .val (.int p2), .val (.int v1), .val (.int v2), .val (.int (v3 + v4)), .val (.int v5)] [(.ref b0)])
    refine Go.to (fun _ => XS.iloadN X10.here hx rfl (hb hby d9_65) rfl) ?_
    show Go p e below _ T10 (mkF m 66 #[.val (.ref a1), .val (.int p2), .val (.int v1), .val (.int v2), .val (.int (v3 + v4)), .val (.int v5)] [(.int v2), (.ref b0)])
    refine Go.to (fun _ => XS.iload X10.here hx rfl (hb hby d9_66) rfl) ?_
    show Go p e below _ T10 (mkF m 68 #[.val (.ref a1), .val (.int p2), .val (.int v1), .val (.int v2), .val (.int (v3 + v4)), .val (.int v5)] [(.int v5), (.int v2), (.ref b0)])
    obtain ⟨v8, hv8, hf⟩ := Option.bind_eq_some_iff.mp hf
    refine Go.ostore X10 hx hZ e10 N9 O9 (k := 0) rfl rfl hv8 (hb hby d9_68) ?_
    intro T11 h11 L11 X11 e11 N11 O11
    have O11 : Obj Z n0 h0 h11 a1 "com/example/tracegauge/tracegauge/automata/Partition" nFp [(.ref b0), (.ref b1), (.ref b2), (.ref b3), (.ref b4), (.ref b5), (.ref b6), (.int tc), (.int sc)] [b0, b1, b2, b3, b4, b5, b6] [(wrL x6 v2 v5), x7, se, fi, en, ma, tu] := O11
    obtain ⟨x9, hx9, hf⟩ := Option.bind_eq_some_iff.mp hf
    rw [Option.some.inj hx9] at O11
    show Go p e below _ T11 (mkF m 69 #[.val (.ref a1), .val (.int p2), .val (.int v1), .val (.int v2), .val (.int (v3 + v4)), .val (.int v5)] [])
    refine Go.to (fun _ => XS.aloadN X11.here hx rfl (hb hby d9_69) rfl rfl) ?_
    show Go p e below _ T11 (mkF m 70 #[.val (.ref a1), .val (.int p2), .val (.int v1), .val (.int v2), .val (.int (v3 + v4)), .val (.int v5)] [(.ref a1)])
    refine Go.oget (f := ("positions", "[I")) X11 hx hZ hown (hw _ (List.mem_of_getElem? (i := 12) rfl)) e11 O11 (k := 1) rfl rfl (hb hby d9_70) ?_
    intro T12 X12 e12
    show Go p e below _ T12 (mkF m 73 #[.val (.ref a1), .val (.int p2), .val (.int v1), .val (.int v2), .val (.int (v3 + v4)), .val (.int v5)] [(.ref b1)])
    refine Go.to (fun _ => XS.iload X12.here hx rfl (hb hby d9_73) rfl) ?_
    show Go p e below _ T12 (mkF m 75 #[.val (.ref a1), .val (.int p2), .val (.int v1), .val (.int v2), .val (.int (v3 + v4)), .val (.int v5)] [(.int v5), (.ref b1)])
    refine Go.to (fun _ => XS.iloadN X12.here hx rfl (hb hby d9_75) rfl) ?_
    show Go p e below _ T12 (mkF m 76 #[.val (.ref a1), .val (.int p2), .val (.int v1), .val (.int v2), .val (.int (v3 + v4)), .val (.int v5)] [(.int v2), (.int v5), (.ref b1)])
    obtain ⟨v10, hv10, hf⟩ := Option.bind_eq_some_iff.mp hf
    refine Go.ostore X12 hx hZ e12 N11 O11 (k := 1) rfl rfl hv10 (hb hby d9_76) ?_
    intro T13 h13 L13 X13 e13 N13 O13
    have O13 : Obj Z n0 h0 h13 a1 "com/example/tracegauge/tracegauge/automata/Partition" nFp [(.ref b0), (.ref b1), (.ref b2), (.ref b3), (.ref b4), (.ref b5), (.ref b6), (.int tc), (.int sc)] [b0, b1, b2, b3, b4, b5, b6] [x9, (wrL x7 v5 v2), se, fi, en, ma, tu] := O13
    obtain ⟨x11, hx11, hf⟩ := Option.bind_eq_some_iff.mp hf
    rw [Option.some.inj hx11] at O13
    show Go p e below _ T13 (mkF m 77 #[.val (.ref a1), .val (.int p2), .val (.int v1), .val (.int v2), .val (.int (v3 + v4)), .val (.int v5)] [])
    refine Go.to (fun _ => XS.aloadN X13.here hx rfl (hb hby d9_77) rfl rfl) ?_
    show Go p e below _ T13 (mkF m 78 #[.val (.ref a1), .val (.int p2), .val (.int v1), .val (.int v2), .val (.int (v3 + v4)), .val (.int v5)] [(.ref a1)])
    refine Go.oget (f := ("marked", "[I")) X13 hx hZ hown (hw _ (List.mem_of_getElem? (i := 20) rfl)) e13 O13 (k := 5) rfl rfl (hb hby d9_78) ?_
    intro T14 X14 e14
    show Go p e below _ T14 (mkF m 81 #[.val (.ref a1), .val (.int p2), .val (.int v1), .val (.int v2), .val (.int (v3 + v4)), .val (.int v5)] [(.ref b5)])
    refine Go.to (fun _ => XS.iloadN X14.here hx rfl (hb hby d9_81) rfl) ?_
    show Go p e below _ T14 (mkF m 82 #[.val (.ref a1), .val (.int p2), .val (.int v1), .val (.int v2), .val (.int (v3 + v4)), .val (.int v5)] [(.int v1), (.ref b5)])
    refine Go.to (fun _ => XT.dup2 X14.here hx rfl (hb hby d9_82) rfl rfl rfl) ?_
    show Go p e below _ T14 (mkF m 83 #[.val (.ref a1), .val (.int p2), .val (.int v1), .val (.int v2), .val (.int (v3 + v4)), .val (.int v5)] [(.int v1), (.ref b5), (.int v1), (.ref b5)])
    refine Go.oload X14 hx hZ e14 O13 (k := 5) rfl rfl hv4 (hb hby d9_83) ?_
    show Go p e below _ T14 (mkF m 84 #[.val (.ref a1), .val (.int p2), .val (.int v1), .val (.int v2), .val (.int (v3 + v4)), .val (.int v5)] [(.int v4), (.int v1), (.ref b5)])
    refine Go.to (fun _ => dupX2 X14.here hx rfl (hb hby d9_84) rfl rfl rfl rfl) ?_
    show Go p e below _ T14 (mkF m 85 #[.val (.ref a1), .val (.int p2), .val (.int v1), .val (.int v2), .val (.int (v3 + v4)), .val (.int v5)] [(.int v4), (.int v1), (.ref b5), (.int v4)])
    refine Go.to (fun _ => XS.iconst X14.here hx rfl (hb hby d9_85)) ?_
    show Go p e below _ T14 (mkF m 86 #[.val (.ref a1), .val (.int p2), .val (.int v1), .val (.int v2), .val (.int (v3 + v4)), .val (.int v5)] [(.int (1 : Int32)), (.int v4), (.int v1), (.ref b5), (.int v4)])
    refine Go.to (fun _ => XS.iadd X14.here hx rfl (hb hby d9_86) rfl) ?_
    show Go p e below _ T14 (mkF m 87 #[.val (.ref a1), .val (.int p2), .val (.int v1), .val (.int v2), .val (.int (v3 + v4)), .val (.int v5)] [(.int (v4 + (1 : Int32))), (.int v1), (.ref b5), (.int v4)])
    refine Go.ostore X14 hx hZ e14 N13 O13 (k := 5) rfl rfl hv4 (hb hby d9_87) ?_
    intro T15 h15 L15 X15 e15 N15 O15
    have O15 : Obj Z n0 h0 h15 a1 "com/example/tracegauge/tracegauge/automata/Partition" nFp [(.ref b0), (.ref b1), (.ref b2), (.ref b3), (.ref b4), (.ref b5), (.ref b6), (.int tc), (.int sc)] [b0, b1, b2, b3, b4, b5, b6] [x9, x11, se, fi, en, (wrL ma v1 (v4 + (1 : Int32))), tu] := O15
    obtain ⟨x12, hx12, hf⟩ := Option.bind_eq_some_iff.mp hf
    rw [Option.some.inj hx12] at O15
    show Go p e below _ T15 (mkF m 88 #[.val (.ref a1), .val (.int p2), .val (.int v1), .val (.int v2), .val (.int (v3 + v4)), .val (.int v5)] [(.int v4)])
    by_cases hc2 : v4 = (0 : Int32)
    · rw [if_pos hc2] at hf
      refine Go.to (fun _ => XS.ifNo X15.here hx rfl (hb hby d9_88) rfl ((if0 _ _).trans (teq hc2).2)) ?_
      show Go p e below _ T15 (mkF m 91 #[.val (.ref a1), .val (.int p2), .val (.int v1), .val (.int v2), .val (.int (v3 + v4)), .val (.int v5)] [])
      refine Go.to (fun _ => XS.aloadN X15.here hx rfl (hb hby d9_91) rfl rfl) ?_
      show Go p e below _ T15 (mkF m 92 #[.val (.ref a1), .val (.int p2), .val (.int v1), .val (.int v2), .val (.int (v3 + v4)), .val (.int v5)] [(.ref a1)])
      refine Go.oget (f := ("touched", "[I")) X15 hx hZ hown (hw _ (List.mem_of_getElem? (i := 22) rfl)) e15 O15 (k := 6) rfl rfl (hb hby d9_92) ?_
      intro T16 X16 e16
      show Go p e below _ T16 (mkF m 95 #[.val (.ref a1), .val (.int p2), .val (.int v1), .val (.int v2), .val (.int (v3 + v4)), .val (.int v5)] [(.ref b6)])
      refine Go.to (fun _ => XS.aloadN X16.here hx rfl (hb hby d9_95) rfl rfl) ?_
      show Go p e below _ T16 (mkF m 96 #[.val (.ref a1), .val (.int p2), .val (.int v1), .val (.int v2), .val (.int (v3 + v4)), .val (.int v5)] [(.ref a1), (.ref b6)])
      refine Go.to (fun _ => XS.dup X16.here hx rfl (hb hby d9_96) rfl rfl) ?_
      show Go p e below _ T16 (mkF m 97 #[.val (.ref a1), .val (.int p2), .val (.int v1), .val (.int v2), .val (.int (v3 + v4)), .val (.int v5)] [(.ref a1), (.ref a1), (.ref b6)])
      refine Go.oget (f := ("touchedCount", "I")) X16 hx hZ hown (hw _ (List.mem_of_getElem? (i := 38) rfl)) e16 O15 (k := 7) rfl rfl (hb hby d9_97) ?_
      intro T17 X17 e17
      show Go p e below _ T17 (mkF m 100 #[.val (.ref a1), .val (.int p2), .val (.int v1), .val (.int v2), .val (.int (v3 + v4)), .val (.int v5)] [(.int tc), (.ref a1), (.ref b6)])
      refine Go.to (fun _ => XS.dupX1 X17.here hx rfl (hb hby d9_100) rfl rfl rfl) ?_
      show Go p e below _ T17 (mkF m 101 #[.val (.ref a1), .val (.int p2), .val (.int v1), .val (.int v2), .val (.int (v3 + v4)), .val (.int v5)] [(.int tc), (.ref a1), (.int tc), (.ref b6)])
      refine Go.to (fun _ => XS.iconst X17.here hx rfl (hb hby d9_101)) ?_
      show Go p e below _ T17 (mkF m 102 #[.val (.ref a1), .val (.int p2), .val (.int v1), .val (.int v2), .val (.int (v3 + v4)), .val (.int v5)] [(.int (1 : Int32)), (.int tc), (.ref a1), (.int tc), (.ref b6)])
      refine Go.to (fun _ => XS.iadd X17.here hx rfl (hb hby d9_102) rfl) ?_
      show Go p e below _ T17 (mkF m 103 #[.val (.ref a1), .val (.int p2), .val (.int v1), .val (.int v2), .val (.int (v3 + v4)), .val (.int v5)] [(.int (tc + (1 : Int32))), (.ref a1), (.int tc), (.ref b6)])
      refine Go.oput (f := ("touchedCount", "I")) X17 hx hZ hown (hw _ (List.mem_of_getElem? (i := 38) rfl)) e17 N15 O15 (layp hw) (k := 7) rfl rfl (Or.inl (hw _ (List.mem_of_getElem? (i := 39) rfl))) (hw _ (List.mem_of_getElem? (i := 1) rfl)) (ty := .int) (by decide) rfl rfl (hb hby d9_103) ?_
      intro T18 h18 L18 X18 e18 N18 O18
      have O18 : Obj Z n0 h0 h18 a1 "com/example/tracegauge/tracegauge/automata/Partition" nFp [(.ref b0), (.ref b1), (.ref b2), (.ref b3), (.ref b4), (.ref b5), (.ref b6), (.int (tc + (1 : Int32))), (.int sc)] [b0, b1, b2, b3, b4, b5, b6] [x9, x11, se, fi, en, x12, tu] := O18
      show Go p e below _ T18 (mkF m 106 #[.val (.ref a1), .val (.int p2), .val (.int v1), .val (.int v2), .val (.int (v3 + v4)), .val (.int v5)] [(.int tc), (.ref b6)])
      refine Go.to (fun _ => XS.iloadN X18.here hx rfl (hb hby d9_106) rfl) ?_
      show Go p e below _ T18 (mkF m 107 #[.val (.ref a1), .val (.int p2), .val (.int v1), .val (.int v2), .val (.int (v3 + v4)), .val (.int v5)] [(.int v1), (.int tc), (.ref b6)])
      obtain ⟨v13, hv13, hf⟩ := Option.bind_eq_some_iff.mp hf
      refine Go.ostore X18 hx hZ e18 N18 O18 (k := 6) rfl rfl hv13 (hb hby d9_107) ?_
      intro T19 h19 L19 X19 e19 N19 O19
      have O19 : Obj Z n0 h0 h19 a1 "com/example/tracegauge/tracegauge/automata/Partition" nFp [(.ref b0), (.ref b1), (.ref b2), (.ref b3), (.ref b4), (.ref b5), (.ref b6), (.int (tc + (1 : Int32))), (.int sc)] [b0, b1, b2, b3, b4, b5, b6] [x9, x11, se, fi, en, x12, (wrL tu tc v1)] := O19
      obtain ⟨x14, hx14, hf⟩ := Option.bind_eq_some_iff.mp hf
      rw [Option.some.inj hx14] at O19
      show Go p e below _ T19 (mkF m 108 #[.val (.ref a1), .val (.int p2), .val (.int v1), .val (.int v2), .val (.int (v3 + v4)), .val (.int v5)] [])
      simp only [Option.some.injEq, Prod.mk.injEq] at hf
      obtain ⟨rfl, rfl, rfl, rfl, rfl, rfl, rfl, rfl, rfl⟩ := hf
      rw [hK]
      exact Go.retV X19 hx hlk hret (hb hby d9_108) ⟨rfl, N19, e19 ▸ O19⟩ (by decide) (by decide)
    · rw [if_neg hc2] at hf
      refine Go.to (fun _ => XS.ifYes X15.here hx rfl (pc0 := 88) (pc' := 108) rfl (hb hby d9_88) rfl ((if0 _ _).trans (feq hc2).2) (by decide) (by decide)) ?_
      show Go p e below _ T15 (mkF m 108 #[.val (.ref a1), .val (.int p2), .val (.int v1), .val (.int v2), .val (.int (v3 + v4)), .val (.int v5)] [])
      simp only [Option.some.injEq, Prod.mk.injEq] at hf
      obtain ⟨rfl, rfl, rfl, rfl, rfl, rfl, rfl, rfl, rfl⟩ := hf
      rw [hK]
      exact Go.retV X15 hx hlk hret (hb hby d9_108) ⟨rfl, N15, e15 ▸ O15⟩ (by decide) (by decide)
def fillF : Nat → Int32 → Int32 → Int32 → List Int32 → List Int32 → Option (List Int32)
  | 0, _, _, _, _, _ => none
  | k + 1, part, pl, ev, el, se => if pl < ev then (rdL el pl).bind fun x => (rdL se x).bind fun _ => fillF k part (pl + (1 : Int32)) ev el (wrL se x part) else some se
def splitF : Nat → List Int32 → List Int32 → List Int32 → List Int32 → List Int32 → List Int32 → List Int32 → Int32 → Int32 → Option (List Int32 × List Int32 × List Int32 × List Int32 × List Int32 × List Int32 × List Int32 × Int32 × Int32)
  | 0, _, _, _, _, _, _, _, _, _ => none
  | n + 1, el, po, se, fi, en, ma, tu, tc, sc => (if (0 : Int32) < tc then ((rdL tu (tc - (1 : Int32))).bind fun v1 => ((rdL fi v1).bind fun v2 => ((rdL ma v1).bind fun v3 => ((some (wrL ma v1 (0 : Int32))).bind fun x4 => ((rdL en v1).bind fun v5 => (if (v2 + v3) = v5 then splitF n el po se fi en x4 tu (tc - (1 : Int32)) sc else (if (v5 - (v2 + v3)) < ((v2 + v3) - v2) then ((rdL fi sc).bind fun v6 => ((some (wrL fi sc (v2 + v3))).bind fun x7 => ((rdL en sc).bind fun v8 => ((some (wrL en sc v5)).bind fun x9 => ((rdL x9 v1).bind fun v10 => ((some (wrL x9 v1 (v2 + v3))).bind fun x11 => ((rdL x7 sc).bind fun v12 => ((rdL x11 sc).bind fun v13 => ((fillF 9 sc v12 v13 el se).bind fun s14 => splitF n el po s14 x7 x11 x4 tu (tc - (1 : Int32)) (sc + (1 : Int32))))))))))) else ((rdL fi sc).bind fun v6 => ((some (wrL fi sc v2)).bind fun x7 => ((rdL en sc).bind fun v8 => ((some (wrL en sc (v2 + v3))).bind fun x9 => ((rdL x7 v1).bind fun v10 => ((some (wrL x7 v1 (v2 + v3))).bind fun x11 => ((rdL x11 sc).bind fun v12 => ((rdL x9 sc).bind fun v13 => ((fillF 9 sc v12 v13 el se).bind fun s14 => splitF n el po s14 x11 x9 x4 tu (tc - (1 : Int32)) (sc + (1 : Int32)))))))))))))))))) else some (el, po, se, fi, en, ma, tu, tc, sc))
theorem d5_0 : decode prog_27_method_8_code 0 = .ok (.aload_n 0, 1) := by decide +kernel
theorem d5_1 : decode prog_27_method_8_code 1 = .ok (.getfield 35, 3) := by decide +kernel
theorem d5_4 : decode prog_27_method_8_code 4 = .ok (.ifCond .le 181, 3) := by decide +kernel
theorem d5_7 : decode prog_27_method_8_code 7 = .ok (.aload_n 0, 1) := by decide +kernel
theorem d5_8 : decode prog_27_method_8_code 8 = .ok (.getfield 28, 3) := by decide +kernel
theorem d5_11 : decode prog_27_method_8_code 11 = .ok (.aload_n 0, 1) := by decide +kernel
theorem d5_12 : decode prog_27_method_8_code 12 = .ok (.dup, 1) := by decide +kernel
theorem d5_13 : decode prog_27_method_8_code 13 = .ok (.getfield 35, 3) := by decide +kernel
theorem d5_16 : decode prog_27_method_8_code 16 = .ok (.iconst 1, 1) := by decide +kernel
theorem d5_17 : decode prog_27_method_8_code 17 = .ok (.isub, 1) := by decide +kernel
theorem d5_18 : decode prog_27_method_8_code 18 = .ok (.dup_x1, 1) := by decide +kernel
theorem d5_19 : decode prog_27_method_8_code 19 = .ok (.putfield 35, 3) := by decide +kernel
theorem d5_22 : decode prog_27_method_8_code 22 = .ok (.iaload, 1) := by decide +kernel
theorem d5_23 : decode prog_27_method_8_code 23 = .ok (.istore_n 1, 1) := by decide +kernel
theorem d5_24 : decode prog_27_method_8_code 24 = .ok (.aload_n 0, 1) := by decide +kernel
theorem d5_25 : decode prog_27_method_8_code 25 = .ok (.getfield 19, 3) := by decide +kernel
theorem d5_28 : decode prog_27_method_8_code 28 = .ok (.iload_n 1, 1) := by decide +kernel
theorem d5_29 : decode prog_27_method_8_code 29 = .ok (.iaload, 1) := by decide +kernel
theorem d5_30 : decode prog_27_method_8_code 30 = .ok (.aload_n 0, 1) := by decide +kernel
theorem d5_31 : decode prog_27_method_8_code 31 = .ok (.getfield 25, 3) := by decide +kernel
theorem d5_34 : decode prog_27_method_8_code 34 = .ok (.iload_n 1, 1) := by decide +kernel
theorem d5_35 : decode prog_27_method_8_code 35 = .ok (.iaload, 1) := by decide +kernel
theorem d5_36 : decode prog_27_method_8_code 36 = .ok (.iadd, 1) := by decide +kernel
theorem d5_37 : decode prog_27_method_8_code 37 = .ok (.istore_n 2, 1) := by decide +kernel
theorem d5_38 : decode prog_27_method_8_code 38 = .ok (.aload_n 0, 1) := by decide +kernel
theorem d5_39 : decode prog_27_method_8_code 39 = .ok (.getfield 25, 3) := by decide +kernel
theorem d5_42 : decode prog_27_method_8_code 42 = .ok (.iload_n 1, 1) := by decide +kernel
theorem d5_43 : decode prog_27_method_8_code 43 = .ok (.iconst 0, 1) := by decide +kernel
theorem d5_44 : decode prog_27_method_8_code 44 = .ok (.iastore, 1) := by decide +kernel
theorem d5_45 : decode prog_27_method_8_code 45 = .ok (.iload_n 2, 1) := by decide +kernel
theorem d5_46 : decode prog_27_method_8_code 46 = .ok (.aload_n 0, 1) := by decide +kernel
theorem d5_47 : decode prog_27_method_8_code 47 = .ok (.getfield 22, 3) := by decide +kernel
theorem d5_50 : decode prog_27_method_8_code 50 = .ok (.iload_n 1, 1) := by decide +kernel
theorem d5_51 : decode prog_27_method_8_code 51 = .ok (.iaload, 1) := by decide +kernel
theorem d5_52 : decode prog_27_method_8_code 52 = .ok (.if_icmp .ne 6, 3) := by decide +kernel
theorem d5_55 : decode prog_27_method_8_code 55 = .ok (.goto (-55), 3) := by decide +kernel
theorem d5_58 : decode prog_27_method_8_code 58 = .ok (.aload_n 0, 1) := by decide +kernel
theorem d5_59 : decode prog_27_method_8_code 59 = .ok (.dup, 1) := by decide +kernel
theorem d5_60 : decode prog_27_method_8_code 60 = .ok (.getfield 31, 3) := by decide +kernel
theorem d5_63 : decode prog_27_method_8_code 63 = .ok (.dup_x1, 1) := by decide +kernel
theorem d5_64 : decode prog_27_method_8_code 64 = .ok (.iconst 1, 1) := by decide +kernel
theorem d5_65 : decode prog_27_method_8_code 65 = .ok (.iadd, 1) := by decide +kernel
theorem d5_66 : decode prog_27_method_8_code 66 = .ok (.putfield 31, 3) := by decide +kernel
theorem d5_69 : decode prog_27_method_8_code 69 = .ok (.istore_n 3, 1) := by decide +kernel
theorem d5_70 : decode prog_27_method_8_code 70 = .ok (.iload_n 2, 1) := by decide +kernel
theorem d5_71 : decode prog_27_method_8_code 71 = .ok (.aload_n 0, 1) := by decide +kernel
theorem d5_72 : decode prog_27_method_8_code 72 = .ok (.getfield 19, 3) := by decide +kernel
theorem d5_75 : decode prog_27_method_8_code 75 = .ok (.iload_n 1, 1) := by decide +kernel
theorem d5_76 : decode prog_27_method_8_code 76 = .ok (.iaload, 1) := by decide +kernel
theorem d5_77 : decode prog_27_method_8_code 77 = .ok (.isub, 1) := by decide +kernel
theorem d5_78 : decode prog_27_method_8_code 78 = .ok (.aload_n 0, 1) := by decide +kernel
theorem d5_79 : decode prog_27_method_8_code 79 = .ok (.getfield 22, 3) := by decide +kernel
theorem d5_82 : decode prog_27_method_8_code 82 = .ok (.iload_n 1, 1) := by decide +kernel
theorem d5_83 : decode prog_27_method_8_code 83 = .ok (.iaload, 1) := by decide +kernel
theorem d5_84 : decode prog_27_method_8_code 84 = .ok (.iload_n 2, 1) := by decide +kernel
theorem d5_85 : decode prog_27_method_8_code 85 = .ok (.isub, 1) := by decide +kernel
theorem d5_86 : decode prog_27_method_8_code 86 = .ok (.if_icmp .gt 32, 3) := by decide +kernel
theorem d5_89 : decode prog_27_method_8_code 89 = .ok (.aload_n 0, 1) := by decide +kernel
theorem d5_90 : decode prog_27_method_8_code 90 = .ok (.getfield 19, 3) := by decide +kernel
theorem d5_93 : decode prog_27_method_8_code 93 = .ok (.iload_n 3, 1) := by decide +kernel
theorem d5_94 : decode prog_27_method_8_code 94 = .ok (.aload_n 0, 1) := by decide +kernel
theorem d5_95 : decode prog_27_method_8_code 95 = .ok (.getfield 19, 3) := by decide +kernel
theorem d5_98 : decode prog_27_method_8_code 98 = .ok (.iload_n 1, 1) := by decide +kernel
theorem d5_99 : decode prog_27_method_8_code 99 = .ok (.iaload, 1) := by decide +kernel
theorem d5_100 : decode prog_27_method_8_code 100 = .ok (.iastore, 1) := by decide +kernel
theorem d5_101 : decode prog_27_method_8_code 101 = .ok (.aload_n 0, 1) := by decide +kernel
theorem d5_102 : decode prog_27_method_8_code 102 = .ok (.getfield 22, 3) := by decide +kernel
theorem d5_105 : decode prog_27_method_8_code 105 = .ok (.iload_n 3, 1) := by decide +kernel
theorem d5_106 : decode prog_27_method_8_code 106 = .ok (.iload_n 2, 1) := by decide +kernel
theorem d5_107 : decode prog_27_method_8_code 107 = .ok (.iastore, 1) := by decide +kernel
theorem d5_108 : decode prog_27_method_8_code 108 = .ok (.aload_n 0, 1) := by decide +kernel
theorem d5_109 : decode prog_27_method_8_code 109 = .ok (.getfield 19, 3) := by decide +kernel
theorem d5_112 : decode prog_27_method_8_code 112 = .ok (.iload_n 1, 1) := by decide +kernel
theorem d5_113 : decode prog_27_method_8_code 113 = .ok (.iload_n 2, 1) := by decide +kernel
theorem d5_114 : decode prog_27_method_8_code 114 = .ok (.iastore, 1) := by decide +kernel
theorem d5_115 : decode prog_27_method_8_code 115 = .ok (.goto 29, 3) := by decide +kernel
theorem d5_118 : decode prog_27_method_8_code 118 = .ok (.aload_n 0, 1) := by decide +kernel
theorem d5_119 : decode prog_27_method_8_code 119 = .ok (.getfield 19, 3) := by decide +kernel
theorem d5_122 : decode prog_27_method_8_code 122 = .ok (.iload_n 3, 1) := by decide +kernel
theorem d5_123 : decode prog_27_method_8_code 123 = .ok (.iload_n 2, 1) := by decide +kernel
theorem d5_124 : decode prog_27_method_8_code 124 = .ok (.iastore, 1) := by decide +kernel
theorem d5_125 : decode prog_27_method_8_code 125 = .ok (.aload_n 0, 1) := by decide +kernel
theorem d5_126 : decode prog_27_method_8_code 126 = .ok (.getfield 22, 3) := by decide +kernel
theorem d5_129 : decode prog_27_method_8_code 129 = .ok (.iload_n 3, 1) := by decide +kernel
theorem d5_130 : decode prog_27_method_8_code 130 = .ok (.aload_n 0, 1) := by decide +kernel
theorem d5_131 : decode prog_27_method_8_code 131 = .ok (.getfield 22, 3) := by decide +kernel
theorem d5_134 : decode prog_27_method_8_code 134 = .ok (.iload_n 1, 1) := by decide +kernel
theorem d5_135 : decode prog_27_method_8_code 135 = .ok (.iaload, 1) := by decide +kernel
theorem d5_136 : decode prog_27_method_8_code 136 = .ok (.iastore, 1) := by decide +kernel
theorem d5_137 : decode prog_27_method_8_code 137 = .ok (.aload_n 0, 1) := by decide +kernel
theorem d5_138 : decode prog_27_method_8_code 138 = .ok (.getfield 22, 3) := by decide +kernel
theorem d5_141 : decode prog_27_method_8_code 141 = .ok (.iload_n 1, 1) := by decide +kernel
theorem d5_142 : decode prog_27_method_8_code 142 = .ok (.iload_n 2, 1) := by decide +kernel
theorem d5_143 : decode prog_27_method_8_code 143 = .ok (.iastore, 1) := by decide +kernel
theorem d5_144 : decode prog_27_method_8_code 144 = .ok (.aload_n 0, 1) := by decide +kernel
theorem d5_145 : decode prog_27_method_8_code 145 = .ok (.getfield 19, 3) := by decide +kernel
theorem d5_148 : decode prog_27_method_8_code 148 = .ok (.iload_n 3, 1) := by decide +kernel
theorem d5_149 : decode prog_27_method_8_code 149 = .ok (.iaload, 1) := by decide +kernel
theorem d5_150 : decode prog_27_method_8_code 150 = .ok (.istore 4, 2) := by decide +kernel
theorem d5_152 : decode prog_27_method_8_code 152 = .ok (.iload 4, 2) := by decide +kernel
theorem d5_154 : decode prog_27_method_8_code 154 = .ok (.aload_n 0, 1) := by decide +kernel
theorem d5_155 : decode prog_27_method_8_code 155 = .ok (.getfield 22, 3) := by decide +kernel
theorem d5_158 : decode prog_27_method_8_code 158 = .ok (.iload_n 3, 1) := by decide +kernel
theorem d5_159 : decode prog_27_method_8_code 159 = .ok (.iaload, 1) := by decide +kernel
theorem d5_160 : decode prog_27_method_8_code 160 = .ok (.if_icmp .ge 22, 3) := by decide +kernel
theorem d5_163 : decode prog_27_method_8_code 163 = .ok (.aload_n 0, 1) := by decide +kernel
theorem d5_164 : decode prog_27_method_8_code 164 = .ok (.getfield 16, 3) := by decide +kernel
theorem d5_167 : decode prog_27_method_8_code 167 = .ok (.aload_n 0, 1) := by decide +kernel
theorem d5_168 : decode prog_27_method_8_code 168 = .ok (.getfield 7, 3) := by decide +kernel
theorem d5_171 : decode prog_27_method_8_code 171 = .ok (.iload 4, 2) := by decide +kernel
theorem d5_173 : decode prog_27_method_8_code 173 = .ok (.iaload, 1) := by decide +kernel
theorem d5_174 : decode prog_27_method_8_code 174 = .ok (.iload_n 3, 1) := by decide +kernel
theorem d5_175 : decode prog_27_method_8_code 175 = .ok (.iastore, 1) := by decide +kernel
theorem d5_176 : decode prog_27_method_8_code 176 = .ok (.iinc 4 1, 3) := by decide +kernel
theorem d5_179 : decode prog_27_method_8_code 179 = .ok (.goto (-27), 3) := by decide +kernel
theorem d5_182 : decode prog_27_method_8_code 182 = .ok (.goto (-182), 3) := by decide +kernel
theorem d5_185 : decode prog_27_method_8_code 185 = .ok (.return_, 1) := by decide +kernel
theorem ef_rm5 (m : MethodId) (a1 : Addr) : entryFrame m #[(.ref a1)] 5 = mkF m 0 #[.val (.ref a1), .unset, .unset, .unset, .unset] [] := by first | (simp [entryFrame, mkF, argsToLocals, Value.category]; done) | rfl
set_option maxHeartbeats 40000000 in
theorem rm5 (l : Launch) (Z : State) (a0 : Array Value) (hw : ∀ d ∈ tables_1, d.before a0 Z = true) (ws : List Jvm.Cond) (a1 : Addr) (h0 : Heap) (n0 : Nat) (b0 b1 b2 b3 b4 b5 b6 : Addr) (el po se fi en ma tu : List Int32) (tc sc : Int32) (O : Obj Z n0 h0 h0 a1 "com/example/tracegauge/tracegauge/automata/Partition" nFp [.ref b0, .ref b1, .ref b2, .ref b3, .ref b4, .ref b5, .ref b6, .int tc, .int sc] [b0, b1, b2, b3, b4, b5, b6] [el, po, se, fi, en, ma, tu]) (fuel : Nat) (el' po' se' fi' en' ma' tu' : List Int32) (tc' sc' : Int32) (hf : splitF fuel el po se fi en ma tu tc sc = some (el', po', se', fi', en', ma', tu', tc', sc')) :
    Met1 l Z (⟨"com/example/tracegauge/tracegauge/automata/Partition", "split", "()V"⟩ : MethodName) prog_27_method_8_code 5 none ws ({ frames := 0, cells := 0, slots := 0, locals := 0 } : Room) #[(.ref a1)] h0 (fun v h L => v = none ∧ Fr n0 L ∧ Obj Z n0 h0 h a1 "com/example/tracegauge/tracegauge/automata/Partition" nFp [.ref b0, .ref b1, .ref b2, .ref b3, .ref b4, .ref b5, .ref b6, .int tc', .int sc'] [b0, b1, b2, b3, b4, b5, b6] [el', po', se', fi', en', ma', tu']) := by
  refine metOf (by first | exact plainFor_of_name (by first | (simp [plainName, overriddenIn]; done) | decide +kernel) | decide +kernel) ?_
  intro p e s m below meth c s₁ hx hby hml hown hnm hret hlk hZ X0 e0
  have hown : s.vm.findClass "com/example/tracegauge/tracegauge/automata/Partition" = some m.cls := hown
  obtain ⟨K, hK⟩ : ∃ K, K = KQ s (fun v h L => v = none ∧ Fr n0 L ∧ Obj Z n0 h0 h a1 "com/example/tracegauge/tracegauge/automata/Partition" nFp [.ref b0, .ref b1, .ref b2, .ref b3, .ref b4, .ref b5, .ref b6, .int tc', .int sc'] [b0, b1, b2, b3, b4, b5, b6] [el', po', se', fi', en', ma', tu']) (({ frames := 0, cells := 0, slots := 0, locals := 0 } : Room)).cells (({ frames := 0, cells := 0, slots := 0, locals := 0 } : Room)).slots := ⟨_, rfl⟩
  show Go p e below (KQ s (fun v h L => v = none ∧ Fr n0 L ∧ Obj Z n0 h0 h a1 "com/example/tracegauge/tracegauge/automata/Partition" nFp [.ref b0, .ref b1, .ref b2, .ref b3, .ref b4, .ref b5, .ref b6, .int tc', .int sc'] [b0, b1, b2, b3, b4, b5, b6] [el', po', se', fi', en', ma', tu']) (({ frames := 0, cells := 0, slots := 0, locals := 0 } : Room)).cells (({ frames := 0, cells := 0, slots := 0, locals := 0 } : Room)).slots) s₁ (entryFrame m #[(.ref a1)] 5)
  rw [← hK, ef_rm5 m a1]
  show Go p e below _ s₁ (mkF m 0 #[.val (.ref a1), .unset, .unset, .unset, .unset] [])
  have loop : ∀ (fuel : Nat) (el po se fi en ma tu : List Int32) (tc sc : Int32) (l1 l2 l3 l4 : Slot), One l1 → One l2 → One l3 → One l4 → splitF fuel el po se fi en ma tu tc sc = some (el', po', se', fi', en', ma', tu', tc', sc') → ∀ (T : State) (h : Heap) (L : List Loc), Stand p l e ({ frames := 0, cells := 0, slots := 0, locals := 0 } : Room) s m #[.ref a1] below meth c T L 0 0 → T.heap = h → Fr n0 L → Obj Z n0 h0 h a1 "com/example/tracegauge/tracegauge/automata/Partition" nFp [.ref b0, .ref b1, .ref b2, .ref b3, .ref b4, .ref b5, .ref b6, .int tc, .int sc] [b0, b1, b2, b3, b4, b5, b6] [el, po, se, fi, en, ma, tu] → Go p e below K T (mkF m 0 #[.val (.ref a1), l1, l2, l3, l4] []) := by
    clear hf O
    intro fuel
    induction fuel with
    | zero => intro el po se fi en ma tu tc sc l1 l2 l3 l4 hl1 hl2 hl3 hl4 hf; simp [splitF] at hf
    | succ fuel ih =>
      intro el po se fi en ma tu tc sc l1 l2 l3 l4 hl1 hl2 hl3 hl4 hf T h L X e' N O
      rw [splitF] at hf
      show Go p e below _ T (mkF m 0 #[.val (.ref a1), l1, l2, l3, l4] [])
      refine Go.to (fun _ => XS.aloadN X.here hx rfl (hb hby d5_0) rfl rfl) ?_
      show Go p e below _ T (mkF m 1 #[.val (.ref a1), l1, l2, l3, l4] [(.ref a1)])
      refine Go.oget (f := ("touchedCount", "I")) X hx hZ hown (hw _ (List.mem_of_getElem? (i := 38) rfl)) e' O (k := 7) rfl rfl (hb hby d5_1) ?_
      intro T1 X1 e1
      show Go p e below _ T1 (mkF m 4 #[.val (.ref a1), l1, l2, l3, l4] [(.int tc)])
      by_cases hc1 : (0 : Int32) < tc
      · rw [if_pos hc1] at hf
        refine Go.to (fun _ => XS.ifNo X1.here hx rfl (hb hby d5_4) rfl ((if0 _ _).trans (tlt hc1).2.2.2)) ?_
        show Go p e below _ T1 (mkF m 7 #[.val (.ref a1), l1, l2, l3, l4] [])
        refine Go.to (fun _ => XS.aloadN X1.here hx rfl (hb hby d5_7) rfl rfl) ?_
        show Go p e below _ T1 (mkF m 8 #[.val (.ref a1), l1, l2, l3, l4] [(.ref a1)])
        refine Go.oget (f := ("touched", "[I")) X1 hx hZ hown (hw _ (List.mem_of_getElem? (i := 22) rfl)) e1 O (k := 6) rfl rfl (hb hby d5_8) ?_
        intro T2 X2 e2
        show Go p e below _ T2 (mkF m 11 #[.val (.ref a1), l1, l2, l3, l4] [(.ref b6)])
        refine Go.to (fun _ => XS.aloadN X2.here hx rfl (hb hby d5_11) rfl rfl) ?_
        show Go p e below _ T2 (mkF m 12 #[.val (.ref a1), l1, l2, l3, l4] [(.ref a1), (.ref b6)])
        refine Go.to (fun _ => XS.dup X2.here hx rfl (hb hby d5_12) rfl rfl) ?_
        show Go p e below _ T2 (mkF m 13 #[.val (.ref a1), l1, l2, l3, l4] [(.ref a1), (.ref a1), (.ref b6)])
        refine Go.oget (f := ("touchedCount", "I")) X2 hx hZ hown (hw _ (List.mem_of_getElem? (i := 38) rfl)) e2 O (k := 7) rfl rfl (hb hby d5_13) ?_
        intro T3 X3 e3
        show Go p e below _ T3 (mkF m 16 #[.val (.ref a1), l1, l2, l3, l4] [(.int tc), (.ref a1), (.ref b6)])
        refine Go.to (fun _ => XS.iconst X3.here hx rfl (hb hby d5_16)) ?_
        show Go p e below _ T3 (mkF m 17 #[.val (.ref a1), l1, l2, l3, l4] [(.int (1 : Int32)), (.int tc), (.ref a1), (.ref b6)])
        refine Go.to (fun _ => XS.isub X3.here hx rfl (hb hby d5_17) rfl) ?_
        show Go p e below _ T3 (mkF m 18 #[.val (.ref a1), l1, l2, l3, l4] [(.int (tc - (1 : Int32))), (.ref a1), (.ref b6)])
        refine Go.to (fun _ => XS.dupX1 X3.here hx rfl (hb hby d5_18) rfl rfl rfl) ?_
        show Go p e below _ T3 (mkF m 19 #[.val (.ref a1), l1, l2, l3, l4] [(.int (tc - (1 : Int32))), (.ref a1), (.int (tc - (1 : Int32))), (.ref b6)])
        refine Go.oput (f := ("touchedCount", "I")) X3 hx hZ hown (hw _ (List.mem_of_getElem? (i := 38) rfl)) e3 N O (layp hw) (k := 7) rfl rfl (Or.inl (hw _ (List.mem_of_getElem? (i := 39) rfl))) (hw _ (List.mem_of_getElem? (i := 1) rfl)) (ty := .int) (by decide) rfl rfl (hb hby d5_19) ?_
        intro T4 h4 L4 X4 e4 N4 O4
        have O4 : Obj Z n0 h0 h4 a1 "com/example/tracegauge/tracegauge/automata/Partition" nFp [(.ref b0), (.ref b1), (.ref b2), (.ref b3), (.ref b4), (.ref b5), (.ref b6), (.int (tc - (1 : Int32))), (.int sc)] [b0, b1, b2, b3, b4, b5, b6] [el, po, se, fi, en, ma, tu] := O4
        show Go p e below _ T4 (mkF m 22 #[.val (.ref a1), l1, l2, l3, l4] [(.int (tc - (1 : Int32))), (.ref b6)])
        obtain ⟨v1, hv1, hf⟩ := Option.bind_eq_some_iff.mp hf
        refine Go.oload X4 hx hZ e4 O4 (k := 6) rfl rfl hv1 (hb hby d5_22) ?_
        show Go p e below _ T4 (mkF m 23 #[.val (.ref a1), l1, l2, l3, l4] [(.int v1)])
        refine Go.to (fun _ => XS.istoreNS X4.here hx rfl (hb hby d5_23) rfl rfl hl1) ?_
        show Go p e below _ T4 (mkF m 24 #[.val (.ref a1), .val (.int v1), l2, l3, l4] [])
        refine Go.to (fun _ => XS.aloadN X4.here hx rfl (hb hby d5_24) rfl rfl) ?_
        show Go p e below _ T4 (mkF m 25 #[.val (.ref a1), .val (.int v1), l2, l3, l4] [(.ref a1)])
        refine Go.oget (f := ("first", "[I")) X4 hx hZ hown (hw _ (List.mem_of_getElem? (i := 16) rfl)) e4 O4 (k := 3) rfl rfl (hb hby d5_25) ?_
        intro T5 X5 e5
        show Go p e below _ T5 (mkF m 28 #[.val (.ref a1), .val (.int v1), l2, l3, l4] [(.ref b3)])
        refine Go.to (fun _ => XS.iloadN X5.here hx rfl (hb hby d5_28) rfl) ?_
        show Go p e below _ T5 (mkF m 29 #[.val (.ref a1), .val (.int v1), l2, l3, l4] [(.int v1), (.ref b3)])
        obtain ⟨v2, hv2, hf⟩ := Option.bind_eq_some_iff.mp hf
        refine Go.oload X5 hx hZ e5 O4 (k := 3) rfl rfl hv2 (hb hby d5_29) ?_
        show Go p e below _ T5 (mkF m 30 #[.val (.ref a1), .val (.int v1), l2, l3, l4] [(.int v2)])
        refine Go.to (fun _ => XS.aloadN X5.here hx rfl (hb hby d5_30) rfl rfl) ?_
        show Go p e below _ T5 (mkF m 31 #[.val (.ref a1), .val (.int v1), l2, l3, l4] [(.ref a1), (.int v2)])
        refine Go.oget (f := ("marked", "[I")) X5 hx hZ hown (hw _ (List.mem_of_getElem? (i := 20) rfl)) e5 O4 (k := 5) rfl rfl (hb hby d5_31) ?_
        intro T6 X6 e6
        show Go p e below _ T6 (mkF m 34 #[.val (.ref a1), .val (.int v1), l2, l3, l4] [(.ref b5), (.int v2)])
        refine Go.to (fun _ => XS.iloadN X6.here hx rfl (hb hby d5_34) rfl) ?_
        show Go p e below _ T6 (mkF m 35 #[.val (.ref a1), .val (.int v1), l2, l3, l4] [(.int v1), (.ref b5), (.int v2)])
        obtain ⟨v3, hv3, hf⟩ := Option.bind_eq_some_iff.mp hf
        refine Go.oload X6 hx hZ e6 O4 (k := 5) rfl rfl hv3 (hb hby d5_35) ?_
        show Go p e below _ T6 (mkF m 36 #[.val (.ref a1), .val (.int v1), l2, l3, l4] [(.int v3), (.int v2)])
        refine Go.to (fun _ => XS.iadd X6.here hx rfl (hb hby d5_36) rfl) ?_
        show Go p e below _ T6 (mkF m 37 #[.val (.ref a1), .val (.int v1), l2, l3, l4] [(.int (v2 + v3))])
        refine Go.to (fun _ => XS.istoreNS X6.here hx rfl (hb hby d5_37) rfl rfl hl2) ?_
        show Go p e below _ T6 (mkF m 38 #[.val (.ref a1), .val (.int v1), .val (.int (v2 + v3)), l3, l4] [])
        refine Go.to (fun _ => XS.aloadN X6.here hx rfl (hb hby d5_38) rfl rfl) ?_
        show Go p e below _ T6 (mkF m 39 #[.val (.ref a1), .val (.int v1), .val (.int (v2 + v3)), l3, l4] [(.ref a1)])
        refine Go.oget (f := ("marked", "[I")) X6 hx hZ hown (hw _ (List.mem_of_getElem? (i := 20) rfl)) e6 O4 (k := 5) rfl rfl (hb hby d5_39) ?_
        intro T7 X7 e7
        show Go p e below _ T7 (mkF m 42 #[.val (.ref a1), .val (.int v1), .val (.int (v2 + v3)), l3, l4] [(.ref b5)])
        refine Go.to (fun _ => XS.iloadN X7.here hx rfl (hb hby d5_42) rfl) ?_
        show Go p e below _ T7 (mkF m 43 #[.val (.ref a1), .val (.int v1), .val (.int (v2 + v3)), l3, l4] [(.int v1), (.ref b5)])
        refine Go.to (fun _ => XS.iconst X7.here hx rfl (hb hby d5_43)) ?_
        show Go p e below _ T7 (mkF m 44 #[.val (.ref a1), .val (.int v1), .val (.int (v2 + v3)), l3, l4] [(.int (0 : Int32)), (.int v1), (.ref b5)])
        refine Go.ostore X7 hx hZ e7 N4 O4 (k := 5) rfl rfl hv3 (hb hby d5_44) ?_
        intro T8 h8 L8 X8 e8 N8 O8
        have O8 : Obj Z n0 h0 h8 a1 "com/example/tracegauge/tracegauge/automata/Partition" nFp [(.ref b0), (.ref b1), (.ref b2), (.ref b3), (.ref b4), (.ref b5), (.ref b6), (.int (tc - (1 : Int32))), (.int sc)] [b0, b1, b2, b3, b4, b5, b6] [el, po, se, fi, en, (wrL ma v1 (0 : Int32)), tu] := O8
        obtain ⟨x4, hx4, hf⟩ := Option.bind_eq_some_iff.mp hf
        rw [Option.some.inj hx4] at O8
        show Go p e below _ T8 (mkF m 45 #[.val (.ref a1), .val (.int v1), .val (.int (v2 + v3)), l3, l4] [])
        refine Go.to (fun _ => XS.iloadN X8.here hx rfl (hb hby d5_45) rfl) ?_
        show Go p e below _ T8 (mkF m 46 #[.val (.ref a1), .val (.int v1), .val (.int (v2 + v3)), l3, l4] [(.int (v2 + v3))])
        refine Go.to (fun _ => XS.aloadN X8.here hx rfl (hb hby d5_46) rfl rfl) ?_
        show Go p e below _ T8 (mkF m 47 #[.val (.ref a1), .val (.int v1), .val (.int (v2 + v3)), l3, l4] [(.ref a1), (.int (v2 + v3))])
        refine Go.oget (f := ("end", "[I")) X8 hx hZ hown (hw _ (List.mem_of_getElem? (i := 18) rfl)) e8 O8 (k := 4) rfl rfl (hb hby d5_47) ?_
        intro T9 X9 e9
        show Go p e below _ T9 (mkF m 50 #[.val (.ref a1), .val (.int v1), .val (.int (v2 + v3)), l3, l4] [(.ref b4), (.int (v2 + v3))])
        refine Go.to (fun _ => XS.iloadN X9.here hx rfl (hb hby d5_50) rfl) ?_
        show Go p e below _ T9 (mkF m 51 #[.val (.ref a1), .val (.int v1), .val (.int (v2 + v3)), l3, l4] [(.int v1), (.ref b4), (.int (v2 + v3))])
        obtain ⟨v5, hv5, hf⟩ := Option.bind_eq_some_iff.mp hf
        refine Go.oload X9 hx hZ e9 O8 (k := 4) rfl rfl hv5 (hb hby d5_51) ?_
        show Go p e below _ T9 (mkF m 52 #[.val (.ref a1), .val (.int v1), .val (.int (v2 + v3)), l3, l4] [(.int v5), (.int (v2 + v3))])
        by_cases hc2 : (v2 + v3) = v5
        · rw [if_pos hc2] at hf
          refine Go.to (fun _ => XS.icmpNo X9.here hx rfl (hb hby d5_52) rfl (teq hc2).2) ?_
          show Go p e below _ T9 (mkF m 55 #[.val (.ref a1), .val (.int v1), .val (.int (v2 + v3)), l3, l4] [])
          refine Go.to (fun _ => XS.goto X9.here hx rfl (pc0 := 55) (pc' := 0) rfl (hb hby d5_55) (by decide) (by decide)) ?_
          show Go p e below _ T9 (mkF m 0 #[.val (.ref a1), .val (.int v1), .val (.int (v2 + v3)), l3, l4] [])
          exact ih _ _ _ _ _ _ _ _ _ _ _ _ _ (One.val rfl) (One.val rfl) hl3 hl4 hf _ _ _ X9 e9 N8 O8
        · rw [if_neg hc2] at hf
          refine Go.to (fun _ => XS.icmpYes X9.here hx rfl (pc0 := 52) (pc' := 58) rfl (hb hby d5_52) rfl (feq hc2).2 (by decide) (by decide)) ?_
          show Go p e below _ T9 (mkF m 58 #[.val (.ref a1), .val (.int v1), .val (.int (v2 + v3)), l3, l4] [])
          refine Go.to (fun _ => XS.aloadN X9.here hx rfl (hb hby d5_58) rfl rfl) ?_
          show Go p e below _ T9 (mkF m 59 #[.val (.ref a1), .val (.int v1), .val (.int (v2 + v3)), l3, l4] [(.ref a1)])
          refine Go.to (fun _ => XS.dup X9.here hx rfl (hb hby d5_59) rfl rfl) ?_
          show Go p e below _ T9 (mkF m 60 #[.val (.ref a1), .val (.int v1), .val (.int (v2 + v3)), l3, l4] [(.ref a1), (.ref a1)])
          refine Go.oget (f := ("setCount", "I")) X9 hx hZ hown (hw _ (List.mem_of_getElem? (i := 24) rfl)) e9 O8 (k := 8) rfl rfl (hb hby d5_60) ?_
          intro T10 X10 e10
          show Go p e below _ T10 (mkF m 63 #[.val (.ref a1), .val (.int v1), .val (.int (v2 + v3)), l3, l4] [(.int sc), (.ref a1)])
          refine Go.to (fun _ => XS.dupX1 X10.here hx rfl (hb hby d5_63) rfl rfl rfl) ?_
          show Go p e below _ T10 (mkF m 64 #[.val (.ref a1), .val (.int v1), .val (.int (v2 + v3)), l3, l4] [(.int sc), (.ref a1), (.int sc)])
          refine Go.to (fun _ => XS.iconst X10.here hx rfl (hb hby d5_64)) ?_
          show Go p e below _ T10 (mkF m 65 #[.val (.ref a1), .val (.int v1), .val (.int (v2 + v3)), l3, l4] [(.int (1 : Int32)), (.int sc), (.ref a1), (.int sc)])
          refine Go.to (fun _ => XS.iadd X10.here hx rfl (hb hby d5_65) rfl) ?_
          show Go p e below _ T10 (mkF m 66 #[.val (.ref a1), .val (.int v1), .val (.int (v2 + v3)), l3, l4] [(.int (sc + (1 : Int32))), (.ref a1), (.int sc)])
          refine Go.oput (f := ("setCount", "I")) X10 hx hZ hown (hw _ (List.mem_of_getElem? (i := 24) rfl)) e10 N8 O8 (layp hw) (k := 8) rfl rfl (Or.inl (hw _ (List.mem_of_getElem? (i := 25) rfl))) (hw _ (List.mem_of_getElem? (i := 1) rfl)) (ty := .int) (by decide) rfl rfl (hb hby d5_66) ?_
          intro T11 h11 L11 X11 e11 N11 O11
          have O11 : Obj Z n0 h0 h11 a1 "com/example/tracegauge/tracegauge/automata/Partition" nFp [(.ref b0), (.ref b1), (.ref b2), (.ref b3), (.ref b4), (.ref b5), (.ref b6), (.int (tc - (1 : Int32))), (.int (sc + (1 : Int32)))] [b0, b1, b2, b3, b4, b5, b6] [el, po, se, fi, en, x4, tu] := O11
          show Go p e below _ T11 (mkF m 69 #[.val (.ref a1), .val (.int v1), .val (.int (v2 + v3)), l3, l4] [(.int sc)])
          refine Go.to (fun _ => XS.istoreNS X11.here hx rfl (hb hby d5_69) rfl rfl hl3) ?_
          show Go p e below _ T11 (mkF m 70 #[.val (.ref a1), .val (.int v1), .val (.int (v2 + v3)), .val (.int sc), l4] [])
          refine Go.to (fun _ => XS.iloadN X11.here hx rfl (hb hby d5_70) rfl) ?_
          show Go p e below _ T11 (mkF m 71 #[.val (.ref a1), .val (.int v1), .val (.int (v2 + v3)), .val (.int sc), l4] [(.int (v2 + v3))])
          refine Go.to (fun _ => XS.aloadN X11.here hx rfl (hb hby d5_71) rfl rfl) ?_
          show Go p e below _ T11 (mkF m 72 #[.val (.ref a1), .val (.int v1), .val (.int (v2 + v3)), .val (.int sc), l4] [(.ref a1), (.int (v2 + v3))])
          refine Go.oget (f := ("first", "[I")) X11 hx hZ hown (hw _ (List.mem_of_getElem? (i := 16) rfl)) e11 O11 (k := 3) rfl rfl (hb hby d5_72) ?_
          intro T12 X12 e12
          show Go p e below _ T12 (mkF m 75 #[.val (.ref a1), .val (.int v1), .val (.int (v2 + v3)), .val (.int sc), l4] [(.ref b3), (.int (v2 + v3))])
          refine Go.to (fun _ => XS.iloadN X12.here hx rfl (hb hby d5_75) rfl) ?_
          show Go p e below _ T12 (mkF m 76 #[.val (.ref a1), .val (.int v1), .val (.int (v2 + v3)), .val (.int sc), l4] [(.int v1), (.ref b3), (.int (v2 + v3))])
          refine Go.oload X12 hx hZ e12 O11 (k := 3) rfl rfl hv2 (hb hby d5_76) ?_
          show Go p e below _ T12 (mkF m 77 #[.val (.ref a1), .val (.int v1), .val (.int (v2 + v3)), .val (.int sc), l4] [(.int v2), (.int (v2 + v3))])
          refine Go.to (fun _ => XS.isub X12.here hx rfl (hb hby d5_77) rfl) ?_
          show Go p e below _ T12 (mkF m 78 #[.val (.ref a1), .val (.int v1), .val (.int (v2 + v3)), .val (.int sc), l4] [(.int ((v2 + v3) - v2))])
          refine Go.to (fun _ => XS.aloadN X12.here hx rfl (hb hby d5_78) rfl rfl) ?_
          show Go p e below _ T12 (mkF m 79 #[.val (.ref a1), .val (.int v1), .val (.int (v2 + v3)), .val (.int sc), l4] [(.ref a1), (.int ((v2 + v3) - v2))])
          refine Go.oget (f := ("end", "[I")) X12 hx hZ hown (hw _ (List.mem_of_getElem? (i := 18) rfl)) e12 O11 (k := 4) rfl rfl (hb hby d5_79) ?_
          intro T13 X13 e13
          show Go p e below _ T13 (mkF m 82 #[.val (.ref a1), .val (.int v1), .val (.int (v2 + v3)), .val (.int sc), l4] [(.ref b4), (.int ((v2 + v3) - v2))])
          refine Go.to (fun _ => XS.iloadN X13.here hx rfl (hb hby d5_82) rfl) ?_
          show Go p e below _ T13 (mkF m 83 #[.val (.ref a1), .val (.int v1), .val (.int (v2 + v3)), .val (.int sc), l4] [(.int v1), (.ref b4), (.int ((v2 + v3) - v2))])
          refine Go.oload X13 hx hZ e13 O11 (k := 4) rfl rfl hv5 (hb hby d5_83) ?_
          show Go p e below _ T13 (mkF m 84 #[.val (.ref a1), .val (.int v1), .val (.int (v2 + v3)), .val (.int sc), l4] [(.int v5), (.int ((v2 + v3) - v2))])
          refine Go.to (fun _ => XS.iloadN X13.here hx rfl (hb hby d5_84) rfl) ?_
          show Go p e below _ T13 (mkF m 85 #[.val (.ref a1), .val (.int v1), .val (.int (v2 + v3)), .val (.int sc), l4] [(.int (v2 + v3)), (.int v5), (.int ((v2 + v3) - v2))])
          refine Go.to (fun _ => XS.isub X13.here hx rfl (hb hby d5_85) rfl) ?_
          show Go p e below _ T13 (mkF m 86 #[.val (.ref a1), .val (.int v1), .val (.int (v2 + v3)), .val (.int sc), l4] [(.int (v5 - (v2 + v3))), (.int ((v2 + v3) - v2))])
          by_cases hc3 : (v5 - (v2 + v3)) < ((v2 + v3) - v2)
          · rw [if_pos hc3] at hf
            refine Go.to (fun _ => XS.icmpYes X13.here hx rfl (pc0 := 86) (pc' := 118) rfl (hb hby d5_86) rfl (tlt hc3).2.2.1 (by decide) (by decide)) ?_
            show Go p e below _ T13 (mkF m 118 #[.val (.ref a1), .val (.int v1), .val (.int (v2 + v3)), .val (.int sc), l4] [])
            refine Go.to (fun _ => XS.aloadN X13.here hx rfl (hb hby d5_118) rfl rfl) ?_
            show Go p e below _ T13 (mkF m 119 #[.val (.ref a1), .val (.int v1), .val (.int (v2 + v3)), .val (.int sc), l4] [(.ref a1)])
            refine Go.oget (f := ("first", "[I")) X13 hx hZ hown (hw _ (List.mem_of_getElem? (i := 16) rfl)) e13 O11 (k := 3) rfl rfl (hb hby d5_119) ?_
            intro T14 X14 e14
            show Go p e below _ T14 (mkF m 122 #[.val (.ref a1), .val (.int v1), .val (.int (v2 + v3)), .val (.int sc), l4] [(.ref b3)])
            refine Go.to (fun _ => XS.iloadN X14.here hx rfl (hb hby d5_122) rfl) ?_
            show Go p e below _ T14 (mkF m 123 #[.val (.ref a1), .val (.int v1), .val (.int (v2 + v3)), .val (.int sc), l4] [(.int sc), (.ref b3)])
            refine Go.to (fun _ => XS.iloadN X14.here hx rfl (hb hby d5_123) rfl) ?_
            show Go p e below _ T14 (mkF m 124 #[.val (.ref a1), .val (.int v1), .val (.int (v2 + v3)), .val (.int sc), l4] [(.int (v2 + v3)), (.int sc), (.ref b3)])
            obtain ⟨v6, hv6, hf⟩ := Option.bind_eq_some_iff.mp hf
            refine Go.ostore X14 hx hZ e14 N11 O11 (k := 3) rfl rfl hv6 (hb hby d5_124) ?_
            intro T15 h15 L15 X15 e15 N15 O15
            have O15 : Obj Z n0 h0 h15 a1 "com/example/tracegauge/tracegauge/automata/Partition" nFp [(.ref b0), (.ref b1), (.ref b2), (.ref b3), (.ref b4), (.ref b5), (.ref b6), (.int (tc - (1 : Int32))), (.int (sc + (1 : Int32)))] [b0, b1, b2, b3, b4, b5, b6] [el, po, se, (wrL fi sc (v2 + v3)), en, x4, tu] := O15
            obtain ⟨x7, hx7, hf⟩ := Option.bind_eq_some_iff.mp hf
            rw [Option.some.inj hx7] at O15
            show Go p e below _ T15 (mkF m 125 #[.val (.ref a1), .val (.int v1), .val (.int (v2 + v3)), .val (.int sc), l4] [])
            refine Go.to (fun _ => XS.aloadN X15.here hx rfl (hb hby d5_125) rfl rfl) ?_
            show Go p e below _ T15 (mkF m 126 #[.val (.ref a1), .val (.int v1), .val (.int (v2 + v3)), .val (.int sc), l4] [(.ref a1)])
            refine Go.oget (f := ("end", "[I")) X15 hx hZ hown (hw _ (List.mem_of_getElem? (i := 18) rfl)) e15 O15 (k := 4) rfl rfl (hb hby d5_126) ?_
            intro T16 X16 e16
            show Go p e below _ T16 (mkF m 129 #[.val (.ref a1), .val (.int v1), .val (.int (v2 + v3)), .val (.int sc), l4] [(.ref b4)])
            refine Go.to (fun _ => XS.iloadN X16.here hx rfl (hb hby d5_129) rfl) ?_
            show Go p e below _ T16 (mkF m 130 #[.val (.ref a1), .val (.int v1), .val (.int (v2 + v3)), .val (.int sc), l4] [(.int sc), (.ref b4)])
            refine Go.to (fun _ => XS.aloadN X16.here hx rfl (hb hby d5_130) rfl rfl) ?_
            show Go p e below _ T16 (mkF m 131 #[.val (.ref a1), .val (.int v1), .val (.int (v2 + v3)), .val (.int sc), l4] [(.ref a1), (.int sc), (.ref b4)])
            refine Go.oget (f := ("end", "[I")) X16 hx hZ hown (hw _ (List.mem_of_getElem? (i := 18) rfl)) e16 O15 (k := 4) rfl rfl (hb hby d5_131) ?_
            intro T17 X17 e17
            show Go p e below _ T17 (mkF m 134 #[.val (.ref a1), .val (.int v1), .val (.int (v2 + v3)), .val (.int sc), l4] [(.ref b4), (.int sc), (.ref b4)])
            refine Go.to (fun _ => XS.iloadN X17.here hx rfl (hb hby d5_134) rfl) ?_
            show Go p e below _ T17 (mkF m 135 #[.val (.ref a1), .val (.int v1), .val (.int (v2 + v3)), .val (.int sc), l4] [(.int v1), (.ref b4), (.int sc), (.ref b4)])
            refine Go.oload X17 hx hZ e17 O15 (k := 4) rfl rfl hv5 (hb hby d5_135) ?_
            show Go p e below _ T17 (mkF m 136 #[.val (.ref a1), .val (.int v1), .val (.int (v2 + v3)), .val (.int sc), l4] [(.int v5), (.int sc), (.ref b4)])
            obtain ⟨v8, hv8, hf⟩ := Option.bind_eq_some_iff.mp hf
            refine Go.ostore X17 hx hZ e17 N15 O15 (k := 4) rfl rfl hv8 (hb hby d5_136) ?_
            intro T18 h18 L18 X18 e18 N18 O18
            have O18 : Obj Z n0 h0 h18 a1 "com/example/tracegauge/tracegauge/automata/Partition" nFp [(.ref b0), (.ref b1), (.ref b2), (.ref b3), (.ref b4), (.ref b5), (.ref b6), (.int (tc - (1 : Int32))), (.int (sc + (1 : Int32)))] [b0, b1, b2, b3, b4, b5, b6] [el, po, se, x7, (wrL en sc v5), x4, tu] := O18
            obtain ⟨x9, hx9, hf⟩ := Option.bind_eq_some_iff.mp hf
            rw [Option.some.inj hx9] at O18
            show Go p e below _ T18 (mkF m 137 #[.val (.ref a1), .val (.int v1), .val (.int (v2 + v3)), .val (.int sc), l4] [])
            refine Go.to (fun _ => XS.aloadN X18.here hx rfl (hb hby d5_137) rfl rfl) ?_
            show Go p e below _ T18 (mkF m 138 #[.val (.ref a1), .val (.int v1), .val (.int (v2 + v3)), .val (.int sc), l4] [(.ref a1)])
            refine Go.oget (f := ("end", "[I")) X18 hx hZ hown (hw _ (List.mem_of_getElem? (i := 18) rfl)) e18 O18 (k := 4) rfl rfl (hb hby d5_138) ?_
            intro T19 X19 e19
            show Go p e below _ T19 (mkF m 141 #[.val (.ref a1), .val (.int v1), .val (.int (v2 + v3)), .val (.int sc), l4] [(.ref b4)])
            refine Go.to (fun _ => XS.iloadN X19.here hx rfl (hb hby d5_141) rfl) ?_
            show Go p e below _ T19 (mkF m 142 #[.val (.ref a1), .val (.int v1), .val (.int (v2 + v3)), .val (.int sc), l4] [(.int v1), (.ref b4)])
            refine Go.to (fun _ => XS.iloadN X19.here hx rfl (hb hby d5_142) rfl) ?_
            show Go p e below _ T19 (mkF m 143 #[.val (.ref a1), .val (.int v1), .val (.int (v2 + v3)), .val (.int sc), l4] [(.int (v2 + v3)), (.int v1), (.ref b4)])
            obtain ⟨v10, hv10, hf⟩ := Option.bind_eq_some_iff.mp hf
            refine Go.ostore X19 hx hZ e19 N18 O18 (k := 4) rfl rfl hv10 (hb hby d5_143) ?_
            intro T20 h20 L20 X20 e20 N20 O20
            have O20 : Obj Z n0 h0 h20 a1 "com/example/tracegauge/tracegauge/automata/Partition" nFp [(.ref b0), (.ref b1), (.ref b2), (.ref b3), (.ref b4), (.ref b5), (.ref b6), (.int (tc - (1 : Int32))), (.int (sc + (1 : Int32)))] [b0, b1, b2, b3, b4, b5, b6] [el, po, se, x7, (wrL x9 v1 (v2 + v3)), x4, tu] := O20
            obtain ⟨x11, hx11, hf⟩ := Option.bind_eq_some_iff.mp hf
            rw [Option.some.inj hx11] at O20
            show Go p e below _ T20 (mkF m 144 #[.val (.ref a1), .val (.int v1), .val (.int (v2 + v3)), .val (.int sc), l4] [])
            refine Go.to (fun _ => XS.aloadN X20.here hx rfl (hb hby d5_144) rfl rfl) ?_
            show Go p e below _ T20 (mkF m 145 #[.val (.ref a1), .val (.int v1), .val (.int (v2 + v3)), .val (.int sc), l4] [(.ref a1)])
            refine Go.oget (f := ("first", "[I")) X20 hx hZ hown (hw _ (List.mem_of_getElem? (i := 16) rfl)) e20 O20 (k := 3) rfl rfl (hb hby d5_145) ?_
            intro T21 X21 e21
            show Go p e below _ T21 (mkF m 148 #[.val (.ref a1), .val (.int v1), .val (.int (v2 + v3)), .val (.int sc), l4] [(.ref b3)])
            refine Go.to (fun _ => XS.iloadN X21.here hx rfl (hb hby d5_148) rfl) ?_
            show Go p e below _ T21 (mkF m 149 #[.val (.ref a1), .val (.int v1), .val (.int (v2 + v3)), .val (.int sc), l4] [(.int sc), (.ref b3)])
            obtain ⟨v12, hv12, hf⟩ := Option.bind_eq_some_iff.mp hf
            refine Go.oload X21 hx hZ e21 O20 (k := 3) rfl rfl hv12 (hb hby d5_149) ?_
            show Go p e below _ T21 (mkF m 150 #[.val (.ref a1), .val (.int v1), .val (.int (v2 + v3)), .val (.int sc), l4] [(.int v12)])
            refine Go.to (fun _ => XS.istoreS X21.here hx rfl (hb hby d5_150) rfl rfl hl4) ?_
            show Go p e below _ T21 (mkF m 152 #[.val (.ref a1), .val (.int v1), .val (.int (v2 + v3)), .val (.int sc), .val (.int v12)] [])
            obtain ⟨v13, hv13, hf⟩ := Option.bind_eq_some_iff.mp hf
            obtain ⟨s14, hs14, hf⟩ := Option.bind_eq_some_iff.mp hf
            have fill : ∀ (k : Nat) (pl : Int32) (sq : List Int32), fillF k sc pl v13 el sq = some s14 → ∀ (T : State) (h : Heap) (L : List Loc), Stand p l e ({ frames := 0, cells := 0, slots := 0, locals := 0 } : Room) s m #[.ref a1] below meth c T L 0 0 → T.heap = h → Fr n0 L → Obj Z n0 h0 h a1 "com/example/tracegauge/tracegauge/automata/Partition" nFp [(.ref b0), (.ref b1), (.ref b2), (.ref b3), (.ref b4), (.ref b5), (.ref b6), (.int (tc - (1 : Int32))), (.int (sc + (1 : Int32)))] [b0, b1, b2, b3, b4, b5, b6] [el, po, sq, x7, x11, x4, tu] → (∀ (pl : Int32) (T : State) (h : Heap) (L : List Loc), Stand p l e ({ frames := 0, cells := 0, slots := 0, locals := 0 } : Room) s m #[.ref a1] below meth c T L 0 0 → T.heap = h → Fr n0 L → Obj Z n0 h0 h a1 "com/example/tracegauge/tracegauge/automata/Partition" nFp [(.ref b0), (.ref b1), (.ref b2), (.ref b3), (.ref b4), (.ref b5), (.ref b6), (.int (tc - (1 : Int32))), (.int (sc + (1 : Int32)))] [b0, b1, b2, b3, b4, b5, b6] [el, po, s14, x7, x11, x4, tu] → Go p e below K T (mkF m 182 #[.val (.ref a1), .val (.int v1), .val (.int (v2 + v3)), .val (.int sc), .val (.int pl)] [])) → Go p e below K T (mkF m 152 #[.val (.ref a1), .val (.int v1), .val (.int (v2 + v3)), .val (.int sc), .val (.int pl)] []) := by
              intro k
              induction k with
              | zero => intro pl sq hf; simp [fillF] at hf
              | succ k ih2 =>
                intro pl sq hf T h L X e' N O kk
                rw [fillF] at hf
                refine Go.to (fun _ => XS.iload X.here hx rfl (hb hby d5_152) rfl) ?_
                show Go p e below _ T (mkF m 154 #[.val (.ref a1), .val (.int v1), .val (.int (v2 + v3)), .val (.int sc), .val (.int pl)] [(.int pl)])
                refine Go.to (fun _ => XS.aloadN X.here hx rfl (hb hby d5_154) rfl rfl) ?_
                show Go p e below _ T (mkF m 155 #[.val (.ref a1), .val (.int v1), .val (.int (v2 + v3)), .val (.int sc), .val (.int pl)] [(.ref a1), (.int pl)])
                refine Go.oget (f := ("end", "[I")) X hx hZ hown (hw _ (List.mem_of_getElem? (i := 18) rfl)) e' O (k := 4) rfl rfl (hb hby d5_155) ?_
                intro T22 X22 e22
                show Go p e below _ T22 (mkF m 158 #[.val (.ref a1), .val (.int v1), .val (.int (v2 + v3)), .val (.int sc), .val (.int pl)] [(.ref b4), (.int pl)])
                refine Go.to (fun _ => XS.iloadN X22.here hx rfl (hb hby d5_158) rfl) ?_
                show Go p e below _ T22 (mkF m 159 #[.val (.ref a1), .val (.int v1), .val (.int (v2 + v3)), .val (.int sc), .val (.int pl)] [(.int sc), (.ref b4), (.int pl)])
                refine Go.oload X22 hx hZ e22 O (k := 4) rfl rfl hv13 (hb hby d5_159) ?_
                show Go p e below _ T22 (mkF m 160 #[.val (.ref a1), .val (.int v1), .val (.int (v2 + v3)), .val (.int sc), .val (.int pl)] [(.int v13), (.int pl)])
                by_cases hc101 : pl < v13
                · refine Go.to (fun _ => XS.icmpNo X22.here hx rfl (hb hby d5_160) rfl (tlt hc101).2.1) ?_
                  show Go p e below _ T22 (mkF m 163 #[.val (.ref a1), .val (.int v1), .val (.int (v2 + v3)), .val (.int sc), .val (.int pl)] [])
                  rw [if_pos hc101] at hf
                  obtain ⟨xx, hxx, hf⟩ := Option.bind_eq_some_iff.mp hf
                  obtain ⟨yy, hyy, hf⟩ := Option.bind_eq_some_iff.mp hf
                  refine Go.to (fun _ => XS.aloadN X22.here hx rfl (hb hby d5_163) rfl rfl) ?_
                  show Go p e below _ T22 (mkF m 164 #[.val (.ref a1), .val (.int v1), .val (.int (v2 + v3)), .val (.int sc), .val (.int pl)] [(.ref a1)])
                  refine Go.oget (f := ("sets", "[I")) X22 hx hZ hown (hw _ (List.mem_of_getElem? (i := 14) rfl)) e22 O (k := 2) rfl rfl (hb hby d5_164) ?_
                  intro T23 X23 e23
                  show Go p e below _ T23 (mkF m 167 #[.val (.ref a1), .val (.int v1), .val (.int (v2 + v3)), .val (.int sc), .val (.int pl)] [(.ref b2)])
                  refine Go.to (fun _ => XS.aloadN X23.here hx rfl (hb hby d5_167) rfl rfl) ?_
                  show Go p e below _ T23 (mkF m 168 #[.val (.ref a1), .val (.int v1), .val (.int (v2 + v3)), .val (.int sc), .val (.int pl)] [(.ref a1), (.ref b2)])
                  refine Go.oget (f := ("elements", "[I")) X23 hx hZ hown (hw _ (List.mem_of_getElem? (i := 10) rfl)) e23 O (k := 0) rfl rfl (hb hby d5_168) ?_
                  intro T24 X24 e24
                  show Go p e below _ T24 (mkF m 171 #[.val (.ref a1), .val (.int v1), .val (.int (v2 + v3)), .val (.int sc), .val (.int pl)] [(.ref b0), (.ref b2)])
                  refine Go.to (fun _ => XS.iload X24.here hx rfl (hb hby d5_171) rfl) ?_
                  show Go p e below _ T24 (mkF m 173 #[.val (.ref a1), .val (.int v1), .val (.int (v2 + v3)), .val (.int sc), .val (.int pl)] [(.int pl), (.ref b0), (.ref b2)])
                  refine Go.oload X24 hx hZ e24 O (k := 0) rfl rfl hxx (hb hby d5_173) ?_
                  show Go p e below _ T24 (mkF m 174 #[.val (.ref a1), .val (.int v1), .val (.int (v2 + v3)), .val (.int sc), .val (.int pl)] [(.int xx), (.ref b2)])
                  refine Go.to (fun _ => XS.iloadN X24.here hx rfl (hb hby d5_174) rfl) ?_
                  show Go p e below _ T24 (mkF m 175 #[.val (.ref a1), .val (.int v1), .val (.int (v2 + v3)), .val (.int sc), .val (.int pl)] [(.int sc), (.int xx), (.ref b2)])
                  refine Go.ostore X24 hx hZ e24 N O (k := 2) rfl rfl hyy (hb hby d5_175) ?_
                  intro T25 h25 L25 X25 e25 N25 O25
                  have O25 : Obj Z n0 h0 h25 a1 "com/example/tracegauge/tracegauge/automata/Partition" nFp [(.ref b0), (.ref b1), (.ref b2), (.ref b3), (.ref b4), (.ref b5), (.ref b6), (.int (tc - (1 : Int32))), (.int (sc + (1 : Int32)))] [b0, b1, b2, b3, b4, b5, b6] [el, po, (wrL sq xx sc), x7, x11, x4, tu] := O25
                  show Go p e below _ T25 (mkF m 176 #[.val (.ref a1), .val (.int v1), .val (.int (v2 + v3)), .val (.int sc), .val (.int pl)] [])
                  refine Go.to (fun _ => XS.iinc X25.here hx rfl (hb hby d5_176) rfl (l' := #[.val (.ref a1), .val (.int v1), .val (.int (v2 + v3)), .val (.int sc), .val (.int (pl + (1 : Int32)))]) rfl) ?_
                  show Go p e below _ T25 (mkF m 179 #[.val (.ref a1), .val (.int v1), .val (.int (v2 + v3)), .val (.int sc), .val (.int (pl + (1 : Int32)))] [])
                  refine Go.to (fun _ => XS.goto X25.here hx rfl (pc0 := 179) (pc' := 152) rfl (hb hby d5_179) (by decide) (by decide)) ?_
                  show Go p e below _ T25 (mkF m 152 #[.val (.ref a1), .val (.int v1), .val (.int (v2 + v3)), .val (.int sc), .val (.int (pl + (1 : Int32)))] [])
                  exact ih2 _ _ hf _ _ _ X25 e25 N25 O25 kk
                · refine Go.to (fun _ => XS.icmpYes X22.here hx rfl (pc0 := 160) (pc' := 182) rfl (hb hby d5_160) rfl (flt hc101).2.1 (by decide) (by decide)) ?_
                  show Go p e below _ T22 (mkF m 182 #[.val (.ref a1), .val (.int v1), .val (.int (v2 + v3)), .val (.int sc), .val (.int pl)] [])
                  rw [if_neg hc101] at hf
                  cases Option.some.inj hf
                  exact kk _ _ _ _ X22 e22 N O
            refine fill 9 _ _ hs14 _ _ _ X21 e21 N20 O20 (fun pl T h L X e' N O => ?_)
            clear fill
            show Go p e below _ T (mkF m 182 #[.val (.ref a1), .val (.int v1), .val (.int (v2 + v3)), .val (.int sc), .val (.int pl)] [])
            refine Go.to (fun _ => XS.goto X.here hx rfl (pc0 := 182) (pc' := 0) rfl (hb hby d5_182) (by decide) (by decide)) ?_
            show Go p e below _ T (mkF m 0 #[.val (.ref a1), .val (.int v1), .val (.int (v2 + v3)), .val (.int sc), .val (.int pl)] [])
            exact ih _ _ _ _ _ _ _ _ _ _ _ _ _ (One.val rfl) (One.val rfl) (One.val rfl) (One.val rfl) hf _ _ _ X e' N O
          · rw [if_neg hc3] at hf
            refine Go.to (fun _ => XS.icmpNo X13.here hx rfl (hb hby d5_86) rfl (flt hc3).2.2.1) ?_
            show Go p e below _ T13 (mkF m 89 #[.val (.ref a1), .val (.int v1), .val (.int (v2 + v3)), .val (.int sc), l4] [])
            refine Go.to (fun _ => XS.aloadN X13.here hx rfl (hb hby d5_89) rfl rfl) ?_
            show Go p e below _ T13 (mkF m 90 #[.val (.ref a1), .val (.int v1), .val (.int (v2 + v3)), .val (.int sc), l4] [(.ref a1)])
            refine Go.oget (f := ("first", "[I")) X13 hx hZ hown (hw _ (List.mem_of_getElem? (i := 16) rfl)) e13 O11 (k := 3) rfl rfl (hb hby d5_90) ?_
            intro T26 X26 e26
            show Go p e below _ T26 (mkF m 93 #[.val (.ref a1), .val (.int v1), .val (.int (v2 + v3)), .val (.int sc), l4] [(.ref b3)])
            refine Go.to (fun _ => XS.iloadN X26.here hx rfl (hb hby d5_93) rfl) ?_
            show Go p e below _ T26 (mkF m 94 #[.val (.ref a1), .val (.int v1), .val (.int (v2 + v3)), .val (.int sc), l4] [(.int sc), (.ref b3)])
            refine Go.to (fun _ => XS.aloadN X26.here hx rfl (hb hby d5_94) rfl rfl) ?_
            show Go p e below _ T26 (mkF m 95 #[.val (.ref a1), .val (.int v1), .val (.int (v2 + v3)), .val (.int sc), l4] [(.ref a1), (.int sc), (.ref b3)])
            refine Go.oget (f := ("first", "[I")) X26 hx hZ hown (hw _ (List.mem_of_getElem? (i := 16) rfl)) e26 O11 (k := 3) rfl rfl (hb hby d5_95) ?_
            intro T27 X27 e27
            show Go p e below _ T27 (mkF m 98 #[.val (.ref a1), .val (.int v1), .val (.int (v2 + v3)), .val (.int sc), l4] [(.ref b3), (.int sc), (.ref b3)])
            refine Go.to (fun _ => XS.iloadN X27.here hx rfl (hb hby d5_98) rfl) ?_
            show Go p e below _ T27 (mkF m 99 #[.val (.ref a1), .val (.int v1), .val (.int (v2 + v3)), .val (.int sc), l4] [(.int v1), (.ref b3), (.int sc), (.ref b3)])
            refine Go.oload X27 hx hZ e27 O11 (k := 3) rfl rfl hv2 (hb hby d5_99) ?_
            show Go p e below _ T27 (mkF m 100 #[.val (.ref a1), .val (.int v1), .val (.int (v2 + v3)), .val (.int sc), l4] [(.int v2), (.int sc), (.ref b3)])
            obtain ⟨v6, hv6, hf⟩ := Option.bind_eq_some_iff.mp hf
            refine Go.ostore X27 hx hZ e27 N11 O11 (k := 3) rfl rfl hv6 (hb hby d5_100) ?_
            intro T28 h28 L28 X28 e28 N28 O28
            have O28 : Obj Z n0 h0 h28 a1 "com/example/tracegauge/tracegauge/automata/Partition" nFp [(.ref b0), (.ref b1), (.ref b2), (.ref b3), (.ref b4), (.ref b5), (.ref b6), (.int (tc - (1 : Int32))), (.int (sc + (1 : Int32)))] [b0, b1, b2, b3, b4, b5, b6] [el, po, se, (wrL fi sc v2), en, x4, tu] := O28
            obtain ⟨x7, hx7, hf⟩ := Option.bind_eq_some_iff.mp hf
            rw [Option.some.inj hx7] at O28
            show Go p e below _ T28 (mkF m 101 #[.val (.ref a1), .val (.int v1), .val (.int (v2 + v3)), .val (.int sc), l4] [])
            refine Go.to (fun _ => XS.aloadN X28.here hx rfl (hb hby d5_101) rfl rfl) ?_
            show Go p e below _ T28 (mkF m 102 #[.val (.ref a1), .val (.int v1), .val (.int (v2 + v3)), .val (.int sc), l4] [(.ref a1)])
            refine Go.oget (f := ("end", "[I")) X28 hx hZ hown (hw _ (List.mem_of_getElem? (i := 18) rfl)) e28 O28 (k := 4) rfl rfl (hb hby d5_102) ?_
            intro T29 X29 e29
            show Go p e below _ T29 (mkF m 105 #[.val (.ref a1), .val (.int v1), .val (.int (v2 + v3)), .val (.int sc), l4] [(.ref b4)])
            refine Go.to (fun _ => XS.iloadN X29.here hx rfl (hb hby d5_105) rfl) ?_
            show Go p e below _ T29 (mkF m 106 #[.val (.ref a1), .val (.int v1), .val (.int (v2 + v3)), .val (.int sc), l4] [(.int sc), (.ref b4)])
            refine Go.to (fun _ => XS.iloadN X29.here hx rfl (hb hby d5_106) rfl) ?_
            show Go p e below _ T29 (mkF m 107 #[.val (.ref a1), .val (.int v1), .val (.int (v2 + v3)), .val (.int sc), l4] [(.int (v2 + v3)), (.int sc), (.ref b4)])
            obtain ⟨v8, hv8, hf⟩ := Option.bind_eq_some_iff.mp hf
            refine Go.ostore X29 hx hZ e29 N28 O28 (k := 4) rfl rfl hv8 (hb hby d5_107) ?_
            intro T30 h30 L30 X30 e30 N30 O30
            have O30 : Obj Z n0 h0 h30 a1 "com/example/tracegauge/tracegauge/automata/Partition" nFp [(.ref b0), (.ref b1), (.ref b2), (.ref b3), (.ref b4), (.ref b5), (.ref b6), (.int (tc - (1 : Int32))), (.int (sc + (1 : Int32)))] [b0, b1, b2, b3, b4, b5, b6] [el, po, se, x7, (wrL en sc (v2 + v3)), x4, tu] := O30
            obtain ⟨x9, hx9, hf⟩ := Option.bind_eq_some_iff.mp hf
            rw [Option.some.inj hx9] at O30
            show Go p e below _ T30 (mkF m 108 #[.val (.ref a1), .val (.int v1), .val (.int (v2 + v3)), .val (.int sc), l4] [])
            refine Go.to (fun _ => XS.aloadN X30.here hx rfl (hb hby d5_108) rfl rfl) ?_
            show Go p e below _ T30 (mkF m 109 #[.val (.ref a1), .val (.int v1), .val (.int (v2 + v3)), .val (.int sc), l4] [(.ref a1)])
            refine Go.oget (f := ("first", "[I")) X30 hx hZ hown (hw _ (List.mem_of_getElem? (i := 16) rfl)) e30 O30 (k := 3) rfl rfl (hb hby d5_109) ?_
            intro T31 X31 e31
            show Go p e below _ T31 (mkF m 112 #[.val (.ref a1), .val (.int v1), .val (.int (v2 + v3)), .val (.int sc), l4] [(.ref b3)])
            refine Go.to (fun _ => XS.iloadN X31.here hx rfl (hb hby d5_112) rfl) ?_
            show Go p e below _ T31 (mkF m 113 #[.val (.ref a1), .val (.int v1), .val (.int (v2 + v3)), .val (.int sc), l4] [(.int v1), (.ref b3)])
            refine Go.to (fun _ => XS.iloadN X31.here hx rfl (hb hby d5_113) rfl) ?_
            show Go p e below _ T31 (mkF m 114 #[.val (.ref a1), .val (.int v1), .val (.int (v2 + v3)), .val (.int sc), l4] [(.int (v2 + v3)), (.int v1), (.ref b3)])
            obtain ⟨v10, hv10, hf⟩ := Option.bind_eq_some_iff.mp hf
            refine Go.ostore X31 hx hZ e31 N30 O30 (k := 3) rfl rfl hv10 (hb hby d5_114) ?_
            intro T32 h32 L32 X32 e32 N32 O32
            have O32 : Obj Z n0 h0 h32 a1 "com/example/tracegauge/tracegauge/automata/Partition" nFp [(.ref b0), (.ref b1), (.ref b2), (.ref b3), (.ref b4), (.ref b5), (.ref b6), (.int (tc - (1 : Int32))), (.int (sc + (1 : Int32)))] [b0, b1, b2, b3, b4, b5, b6] [el, po, se, (wrL x7 v1 (v2 + v3)), x9, x4, tu] := O32
            obtain ⟨x11, hx11, hf⟩ := Option.bind_eq_some_iff.mp hf
            rw [Option.some.inj hx11] at O32
            show Go p e below _ T32 (mkF m 115 #[.val (.ref a1), .val (.int v1), .val (.int (v2 + v3)), .val (.int sc), l4] [])
            refine Go.to (fun _ => XS.goto X32.here hx rfl (pc0 := 115) (pc' := 144) rfl (hb hby d5_115) (by decide) (by decide)) ?_
            show Go p e below _ T32 (mkF m 144 #[.val (.ref a1), .val (.int v1), .val (.int (v2 + v3)), .val (.int sc), l4] [])
            refine Go.to (fun _ => XS.aloadN X32.here hx rfl (hb hby d5_144) rfl rfl) ?_
            show Go p e below _ T32 (mkF m 145 #[.val (.ref a1), .val (.int v1), .val (.int (v2 + v3)), .val (.int sc), l4] [(.ref a1)])
            refine Go.oget (f := ("first", "[I")) X32 hx hZ hown (hw _ (List.mem_of_getElem? (i := 16) rfl)) e32 O32 (k := 3) rfl rfl (hb hby d5_145) ?_
            intro T33 X33 e33
            show Go p e below _ T33 (mkF m 148 #[.val (.ref a1), .val (.int v1), .val (.int (v2 + v3)), .val (.int sc), l4] [(.ref b3)])
            refine Go.to (fun _ => XS.iloadN X33.here hx rfl (hb hby d5_148) rfl) ?_
            show Go p e below _ T33 (mkF m 149 #[.val (.ref a1), .val (.int v1), .val (.int (v2 + v3)), .val (.int sc), l4] [(.int sc), (.ref b3)])
            obtain ⟨v12, hv12, hf⟩ := Option.bind_eq_some_iff.mp hf
            refine Go.oload X33 hx hZ e33 O32 (k := 3) rfl rfl hv12 (hb hby d5_149) ?_
            show Go p e below _ T33 (mkF m 150 #[.val (.ref a1), .val (.int v1), .val (.int (v2 + v3)), .val (.int sc), l4] [(.int v12)])
            refine Go.to (fun _ => XS.istoreS X33.here hx rfl (hb hby d5_150) rfl rfl hl4) ?_
            show Go p e below _ T33 (mkF m 152 #[.val (.ref a1), .val (.int v1), .val (.int (v2 + v3)), .val (.int sc), .val (.int v12)] [])
            obtain ⟨v13, hv13, hf⟩ := Option.bind_eq_some_iff.mp hf
            obtain ⟨s14, hs14, hf⟩ := Option.bind_eq_some_iff.mp hf
            have fill : ∀ (k : Nat) (pl : Int32) (sq : List Int32), fillF k sc pl v13 el sq = some s14 → ∀ (T : State) (h : Heap) (L : List Loc), Stand p l e ({ frames := 0, cells := 0, slots := 0, locals := 0 } : Room) s m #[.ref a1] below meth c T L 0 0 → T.heap = h → Fr n0 L → Obj Z n0 h0 h a1 "com/example/tracegauge/tracegauge/automata/Partition" nFp [(.ref b0), (.ref b1), (.ref b2), (.ref b3), (.ref b4), (.ref b5), (.ref b6), (.int (tc - (1 : Int32))), (.int (sc + (1 : Int32)))] [b0, b1, b2, b3, b4, b5, b6] [el, po, sq, x11, x9, x4, tu] → (∀ (pl : Int32) (T : State) (h : Heap) (L : List Loc), Stand p l e ({ frames := 0, cells := 0, slots := 0, locals := 0 } : Room) s m #[.ref a1] below meth c T L 0 0 → T.heap = h → Fr n0 L → Obj Z n0 h0 h a1 "com/example/tracegauge/tracegauge/automata/Partition" nFp [(.ref b0), (.ref b1), (.ref b2), (.ref b3), (.ref b4), (.ref b5), (.ref b6), (.int (tc - (1 : Int32))), (.int (sc + (1 : Int32)))] [b0, b1, b2, b3, b4, b5, b6] [el, po, s14, x11, x9, x4, tu] → Go p e below K T (mkF m 182 #[.val (.ref a1), .val (.int v1), .val (.int (v2 + v3)), .val (.int sc), .val (.int pl)] [])) → Go p e below K T (mkF m 152 #[.val (.ref a1), .val (.int v1), .val (.int (v2 + v3)), .val (.int sc), .val (.int pl)] []) := by
              intro k
              induction k with
              | zero => intro pl sq hf; simp [fillF] at hf
              | succ k ih2 =>
                intro pl sq hf T h L X e' N O kk
                rw [fillF] at hf
                refine Go.to (fun _ => XS.iload X.here hx rfl (hb hby d5_152) rfl) ?_
                show Go p e below _ T (mkF m 154 #[.val (.ref a1), .val (.int v1), .val (.int (v2 + v3)), .val (.int sc), .val (.int pl)] [(.int pl)])
                refine Go.to (fun _ => XS.aloadN X.here hx rfl (hb hby d5_154) rfl rfl) ?_
                show Go p e below _ T (mkF m 155 #[.val (.ref a1), .val (.int v1), .val (.int (v2 + v3)), .val (.int sc), .val (.int pl)] [(.ref a1), (.int pl)])
                refine Go.oget (f := ("end", "[I")) X hx hZ hown (hw _ (List.mem_of_getElem? (i := 18) rfl)) e' O (k := 4) rfl rfl (hb hby d5_155) ?_
                intro T34 X34 e34
                show Go p e below _ T34 (mkF m 158 #[.val (.ref a1), .val (.int v1), .val (.int (v2 + v3)), .val (.int sc), .val (.int pl)] [(.ref b4), (.int pl)])
                refine Go.to (fun _ => XS.iloadN X34.here hx rfl (hb hby d5_158) rfl) ?_
                show Go p e below _ T34 (mkF m 159 #[.val (.ref a1), .val (.int v1), .val (.int (v2 + v3)), .val (.int sc), .val (.int pl)] [(.int sc), (.ref b4), (.int pl)])
                refine Go.oload X34 hx hZ e34 O (k := 4) rfl rfl hv13 (hb hby d5_159) ?_
                show Go p e below _ T34 (mkF m 160 #[.val (.ref a1), .val (.int v1), .val (.int (v2 + v3)), .val (.int sc), .val (.int pl)] [(.int v13), (.int pl)])
                by_cases hc101 : pl < v13
                · refine Go.to (fun _ => XS.icmpNo X34.here hx rfl (hb hby d5_160) rfl (tlt hc101).2.1) ?_
                  show Go p e below _ T34 (mkF m 163 #[.val (.ref a1), .val (.int v1), .val (.int (v2 + v3)), .val (.int sc), .val (.int pl)] [])
                  rw [if_pos hc101] at hf
                  obtain ⟨xx, hxx, hf⟩ := Option.bind_eq_some_iff.mp hf
                  obtain ⟨yy, hyy, hf⟩ := Option.bind_eq_some_iff.mp hf
                  refine Go.to (fun _ => XS.aloadN X34.here hx rfl (hb hby d5_163) rfl rfl) ?_
                  show Go p e below _ T34 (mkF m 164 #[.val (.ref a1), .val (.int v1), .val (.int (v2 + v3)), .val (.int sc), .val (.int pl)] [(.ref a1)])
                  refine Go.oget (f := ("sets", "[I")) X34 hx hZ hown (hw _ (List.mem_of_getElem? (i := 14) rfl)) e34 O (k := 2) rfl rfl (hb hby d5_164) ?_
                  intro T35 X35 e35
                  show Go p e below _ T35 (mkF m 167 #[.val (.ref a1), .val (.int v1), .val (.int (v2 + v3)), .val (.int sc), .val (.int pl)] [(.ref b2)])
                  refine Go.to (fun _ => XS.aloadN X35.here hx rfl (hb hby d5_167) rfl rfl) ?_
                  show Go p e below _ T35 (mkF m 168 #[.val (.ref a1), .val (.int v1), .val (.int (v2 + v3)), .val (.int sc), .val (.int pl)] [(.ref a1), (.ref b2)])
                  refine Go.oget (f := ("elements", "[I")) X35 hx hZ hown (hw _ (List.mem_of_getElem? (i := 10) rfl)) e35 O (k := 0) rfl rfl (hb hby d5_168) ?_
                  intro T36 X36 e36
                  show Go p e below _ T36 (mkF m 171 #[.val (.ref a1), .val (.int v1), .val (.int (v2 + v3)), .val (.int sc), .val (.int pl)] [(.ref b0), (.ref b2)])
                  refine Go.to (fun _ => XS.iload X36.here hx rfl (hb hby d5_171) rfl) ?_
                  show Go p e below _ T36 (mkF m 173 #[.val (.ref a1), .val (.int v1), .val (.int (v2 + v3)), .val (.int sc), .val (.int pl)] [(.int pl), (.ref b0), (.ref b2)])
                  refine Go.oload X36 hx hZ e36 O (k := 0) rfl rfl hxx (hb hby d5_173) ?_
                  show Go p e below _ T36 (mkF m 174 #[.val (.ref a1), .val (.int v1), .val (.int (v2 + v3)), .val (.int sc), .val (.int pl)] [(.int xx), (.ref b2)])
                  refine Go.to (fun _ => XS.iloadN X36.here hx rfl (hb hby d5_174) rfl) ?_
                  show Go p e below _ T36 (mkF m 175 #[.val (.ref a1), .val (.int v1), .val (.int (v2 + v3)), .val (.int sc), .val (.int pl)] [(.int sc), (.int xx), (.ref b2)])
                  refine Go.ostore X36 hx hZ e36 N O (k := 2) rfl rfl hyy (hb hby d5_175) ?_
                  intro T37 h37 L37 X37 e37 N37 O37
                  have O37 : Obj Z n0 h0 h37 a1 "com/example/tracegauge/tracegauge/automata/Partition" nFp [(.ref b0), (.ref b1), (.ref b2), (.ref b3), (.ref b4), (.ref b5), (.ref b6), (.int (tc - (1 : Int32))), (.int (sc + (1 : Int32)))] [b0, b1, b2, b3, b4, b5, b6] [el, po, (wrL sq xx sc), x11, x9, x4, tu] := O37
                  show Go p e below _ T37 (mkF m 176 #[.val (.ref a1), .val (.int v1), .val (.int (v2 + v3)), .val (.int sc), .val (.int pl)] [])
                  refine Go.to (fun _ => XS.iinc X37.here hx rfl (hb hby d5_176) rfl (l' := #[.val (.ref a1), .val (.int v1), .val (.int (v2 + v3)), .val (.int sc), .val (.int (pl + (1 : Int32)))]) rfl) ?_
                  show Go p e below _ T37 (mkF m 179 #[.val (.ref a1), .val (.int v1), .val (.int (v2 + v3)), .val (.int sc), .val (.int (pl + (1 : Int32)))] [])
                  refine Go.to (fun _ => XS.goto X37.here hx rfl (pc0 := 179) (pc' := 152) rfl (hb hby d5_179) (by decide) (by decide)) ?_
                  show Go p e below _ T37 (mkF m 152 #[.val (.ref a1), .val (.int v1), .val (.int (v2 + v3)), .val (.int sc), .val (.int (pl + (1 : Int32)))] [])
                  exact ih2 _ _ hf _ _ _ X37 e37 N37 O37 kk
                · refine Go.to (fun _ => XS.icmpYes X34.here hx rfl (pc0 := 160) (pc' := 182) rfl (hb hby d5_160) rfl (flt hc101).2.1 (by decide) (by decide)) ?_
                  show Go p e below _ T34 (mkF m 182 #[.val (.ref a1), .val (.int v1), .val (.int (v2 + v3)), .val (.int sc), .val (.int pl)] [])
                  rw [if_neg hc101] at hf
                  cases Option.some.inj hf
                  exact kk _ _ _ _ X34 e34 N O
            refine fill 9 _ _ hs14 _ _ _ X33 e33 N32 O32 (fun pl T h L X e' N O => ?_)
            clear fill
            show Go p e below _ T (mkF m 182 #[.val (.ref a1), .val (.int v1), .val (.int (v2 + v3)), .val (.int sc), .val (.int pl)] [])
            refine Go.to (fun _ => XS.goto X.here hx rfl (pc0 := 182) (pc' := 0) rfl (hb hby d5_182) (by decide) (by decide)) ?_
            show Go p e below _ T (mkF m 0 #[.val (.ref a1), .val (.int v1), .val (.int (v2 + v3)), .val (.int sc), .val (.int pl)] [])
            exact ih _ _ _ _ _ _ _ _ _ _ _ _ _ (One.val rfl) (One.val rfl) (One.val rfl) (One.val rfl) hf _ _ _ X e' N O
      · rw [if_neg hc1] at hf
        refine Go.to (fun _ => XS.ifYes X1.here hx rfl (pc0 := 4) (pc' := 185) rfl (hb hby d5_4) rfl ((if0 _ _).trans (flt hc1).2.2.2) (by decide) (by decide)) ?_
        show Go p e below _ T1 (mkF m 185 #[.val (.ref a1), l1, l2, l3, l4] [])
        simp only [Option.some.injEq, Prod.mk.injEq] at hf
        obtain ⟨rfl, rfl, rfl, rfl, rfl, rfl, rfl, rfl, rfl⟩ := hf
        rw [hK]
        exact Go.retV X1 hx hlk hret (hb hby d5_185) ⟨rfl, N, e1 ▸ O⟩ (by decide) (by decide)
  exact loop fuel el po se fi en ma tu tc sc .unset .unset .unset .unset One.u One.u One.u One.u hf _ _ _ X0 e0 (Fr.nil n0) O
def fBit (p1 : Int32) (p2 : Int32) : Int32 := ((p1 >>> (p2 &&& 31)) &&& (1 : Int32))
theorem d4_0 : decode method_2_code 0 = .ok (.iload_n 0, 1) := by decide +kernel
theorem d4_1 : decode method_2_code 1 = .ok (.iload_n 1, 1) := by decide +kernel
theorem d4_2 : decode method_2_code 2 = .ok (.ishr, 1) := by decide +kernel
theorem d4_3 : decode method_2_code 3 = .ok (.iconst 1, 1) := by decide +kernel
theorem d4_4 : decode method_2_code 4 = .ok (.iand, 1) := by decide +kernel
theorem d4_5 : decode method_2_code 5 = .ok (.ireturn, 1) := by decide +kernel
theorem ef_rm4 (m : MethodId) (p1 : Int32) (p2 : Int32) : entryFrame m #[(.int p1), (.int p2)] 2 = mkF m 0 #[.val (.int p1), .val (.int p2)] [] := by first | (simp [entryFrame, mkF, argsToLocals, Value.category]; done) | rfl
set_option maxHeartbeats 40000000 in
theorem rm4 (l : Launch) (Z : State) (a0 : Array Value) (hw : ∀ d ∈ tables_1, d.before a0 Z = true) (ws : List Jvm.Cond) (p1 : Int32) (p2 : Int32) (h0 : Heap)  :
    Met1 l Z (⟨"com/example/tracegauge/tracegauge/automata/PartitionSplitPinLaw", "bit", "(II)I"⟩ : MethodName) method_2_code 2 (some .int) ws ({ frames := 0, cells := 0, slots := 0, locals := 0 } : Room) #[(.int p1), (.int p2)] h0 (QP (.int (fBit p1 p2)) h0) := by
  refine metOf (by first | exact plainFor_of_name (by first | (simp [plainName, overriddenIn]; done) | decide +kernel) | decide +kernel) ?_
  intro p e s m below meth c s₁ hx hby hml hown hnm hret hlk hZ X0 e0
  have hown : s.vm.findClass "com/example/tracegauge/tracegauge/automata/PartitionSplitPinLaw" = some m.cls := hown
  obtain ⟨K, hK⟩ : ∃ K, K = KQ s (QP (.int (fBit p1 p2)) h0) (({ frames := 0, cells := 0, slots := 0, locals := 0 } : Room)).cells (({ frames := 0, cells := 0, slots := 0, locals := 0 } : Room)).slots := ⟨_, rfl⟩
  show Go p e below (KQ s (QP (.int (fBit p1 p2)) h0) (({ frames := 0, cells := 0, slots := 0, locals := 0 } : Room)).cells (({ frames := 0, cells := 0, slots := 0, locals := 0 } : Room)).slots) s₁ (entryFrame m #[(.int p1), (.int p2)] 2)
  rw [← hK, ef_rm4 m p1 p2]
  show Go p e below _ s₁ (mkF m 0 #[.val (.int p1), .val (.int p2)] [])
  refine Go.to (fun _ => XS.iloadN X0.here hx rfl (hb hby d4_0) rfl) ?_
  show Go p e below _ s₁ (mkF m 1 #[.val (.int p1), .val (.int p2)] [(.int p1)])
  refine Go.to (fun _ => XS.iloadN X0.here hx rfl (hb hby d4_1) rfl) ?_
  show Go p e below _ s₁ (mkF m 2 #[.val (.int p1), .val (.int p2)] [(.int p2), (.int p1)])
  refine Go.to (fun _ => XS.ishr X0.here hx rfl (hb hby d4_2) rfl) ?_
  show Go p e below _ s₁ (mkF m 3 #[.val (.int p1), .val (.int p2)] [(.int (p1 >>> (p2 &&& 31)))])
  refine Go.to (fun _ => XS.iconst X0.here hx rfl (hb hby d4_3)) ?_
  show Go p e below _ s₁ (mkF m 4 #[.val (.int p1), .val (.int p2)] [(.int (1 : Int32)), (.int (p1 >>> (p2 &&& 31)))])
  refine Go.to (fun _ => XS.iand X0.here hx rfl (hb hby d4_4) rfl) ?_
  show Go p e below _ s₁ (mkF m 5 #[.val (.int p1), .val (.int p2)] [(.int ((p1 >>> (p2 &&& 31)) &&& (1 : Int32)))])
  rw [hK]
  exact Go.retI X0 hx hlk hret (hb hby d4_5) ⟨by rw [fBit], e0, rfl⟩ (by decide) (by decide)
def fL (p1 : Int32) (p2 : Int32) (p3 : Int32) : Int32 := (if (fBit p1 p2) = (1 : Int32) then (if (1 : Int32) = p3 then (1 : Int32) else (0 : Int32)) else (if (0 : Int32) = p3 then (1 : Int32) else (0 : Int32)))
theorem d17_0 : decode method_6_code 0 = .ok (.iload_n 0, 1) := by decide +kernel
theorem d17_1 : decode method_6_code 1 = .ok (.iload_n 1, 1) := by decide +kernel
theorem d17_2 : decode method_6_code 2 = .ok (.invokestatic 7, 3) := by decide +kernel
theorem d17_5 : decode method_6_code 5 = .ok (.iconst 1, 1) := by decide +kernel
theorem d17_6 : decode method_6_code 6 = .ok (.if_icmp .ne 7, 3) := by decide +kernel
theorem d17_9 : decode method_6_code 9 = .ok (.iconst 1, 1) := by decide +kernel
theorem d17_10 : decode method_6_code 10 = .ok (.goto 4, 3) := by decide +kernel
theorem d17_13 : decode method_6_code 13 = .ok (.iconst 0, 1) := by decide +kernel
theorem d17_14 : decode method_6_code 14 = .ok (.iload_n 2, 1) := by decide +kernel
theorem d17_15 : decode method_6_code 15 = .ok (.if_icmp .ne 7, 3) := by decide +kernel
theorem d17_18 : decode method_6_code 18 = .ok (.iconst 1, 1) := by decide +kernel
theorem d17_19 : decode method_6_code 19 = .ok (.goto 4, 3) := by decide +kernel
theorem d17_22 : decode method_6_code 22 = .ok (.iconst 0, 1) := by decide +kernel
theorem d17_23 : decode method_6_code 23 = .ok (.ireturn, 1) := by decide +kernel
theorem ef_rm17 (m : MethodId) (p1 : Int32) (p2 : Int32) (p3 : Int32) : entryFrame m #[(.int p1), (.int p2), (.int p3)] 3 = mkF m 0 #[.val (.int p1), .val (.int p2), .val (.int p3)] [] := by first | (simp [entryFrame, mkF, argsToLocals, Value.category]; done) | rfl
set_option maxHeartbeats 40000000 in
theorem rm17 (l : Launch) (Z : State) (a0 : Array Value) (hw : ∀ d ∈ tables_1, d.before a0 Z = true) (ws : List Jvm.Cond) (p1 : Int32) (p2 : Int32) (p3 : Int32) (h0 : Heap)  :
    Met1 l Z (⟨"com/example/tracegauge/tracegauge/automata/PartitionSplitPinLaw", "label", "(IIZ)I"⟩ : MethodName) method_6_code 3 (some .int) ws ({ frames := 1, cells := 0, slots := 0, locals := 13 } : Room) #[(.int p1), (.int p2), (.int p3)] h0 (QP (.int (fL p1 p2 p3)) h0) := by
  refine metOf (by first | exact plainFor_of_name (by first | (simp [plainName, overriddenIn]; done) | decide +kernel) | decide +kernel) ?_
  intro p e s m below meth c s₁ hx hby hml hown hnm hret hlk hZ X0 e0
  have hown : s.vm.findClass "com/example/tracegauge/tracegauge/automata/PartitionSplitPinLaw" = some m.cls := hown
  obtain ⟨K, hK⟩ : ∃ K, K = KQ s (QP (.int (fL p1 p2 p3)) h0) (({ frames := 1, cells := 0, slots := 0, locals := 13 } : Room)).cells (({ frames := 1, cells := 0, slots := 0, locals := 13 } : Room)).slots := ⟨_, rfl⟩
  show Go p e below (KQ s (QP (.int (fL p1 p2 p3)) h0) (({ frames := 1, cells := 0, slots := 0, locals := 13 } : Room)).cells (({ frames := 1, cells := 0, slots := 0, locals := 13 } : Room)).slots) s₁ (entryFrame m #[(.int p1), (.int p2), (.int p3)] 3)
  rw [← hK, ef_rm17 m p1 p2 p3]
  show Go p e below _ s₁ (mkF m 0 #[.val (.int p1), .val (.int p2), .val (.int p3)] [])
  refine Go.to (fun _ => XS.iloadN X0.here hx rfl (hb hby d17_0) rfl) ?_
  show Go p e below _ s₁ (mkF m 1 #[.val (.int p1), .val (.int p2), .val (.int p3)] [(.int p1)])
  refine Go.to (fun _ => XS.iloadN X0.here hx rfl (hb hby d17_1) rfl) ?_
  show Go p e below _ s₁ (mkF m 2 #[.val (.int p1), .val (.int p2), .val (.int p3)] [(.int p2), (.int p1)])
  refine Go.callS (y := (⟨"com/example/tracegauge/tracegauge/automata/PartitionSplitPinLaw", "bit", "(II)I"⟩ : MethodName)) X0 hx hZ hown (hw _ (List.mem_of_getElem? (i := 30) rfl)) (hw _ (List.mem_of_getElem? (i := 31) rfl)) (hw _ (List.mem_of_getElem? (i := 28) rfl)) (hw _ (List.mem_of_getElem? (i := 32) rfl)) (by decide) (rm4 l Z a0 hw [] p1 p2 h0) e0 (by rw [hml]; rfl) (pd_4) rfl (argsL := [(.int p1), (.int p2)]) (rest := []) rfl rfl (hb hby d17_2) (by decide) (Nat.le_of_ble_eq_true rfl) (by decide) (by decide) ?_
  rintro T1 _ L1 X1 ⟨rfl, e1, rfl⟩
  simp only [List.append_nil] at X1
  show Go p e below _ T1 (mkF m 5 #[.val (.int p1), .val (.int p2), .val (.int p3)] [(.int (fBit p1 p2))])
  refine Go.to (fun _ => XS.iconst X1.here hx rfl (hb hby d17_5)) ?_
  show Go p e below _ T1 (mkF m 6 #[.val (.int p1), .val (.int p2), .val (.int p3)] [(.int (1 : Int32)), (.int (fBit p1 p2))])
  by_cases hc1 : (fBit p1 p2) = (1 : Int32)
  · refine Go.to (fun _ => XS.icmpNo X1.here hx rfl (hb hby d17_6) rfl (teq hc1).2) ?_
    show Go p e below _ T1 (mkF m 9 #[.val (.int p1), .val (.int p2), .val (.int p3)] [])
    refine Go.to (fun _ => XS.iconst X1.here hx rfl (hb hby d17_9)) ?_
    show Go p e below _ T1 (mkF m 10 #[.val (.int p1), .val (.int p2), .val (.int p3)] [(.int (1 : Int32))])
    refine Go.to (fun _ => XS.goto X1.here hx rfl (pc0 := 10) (pc' := 14) rfl (hb hby d17_10) (by decide) (by decide)) ?_
    show Go p e below _ T1 (mkF m 14 #[.val (.int p1), .val (.int p2), .val (.int p3)] [(.int (1 : Int32))])
    refine Go.to (fun _ => XS.iloadN X1.here hx rfl (hb hby d17_14) rfl) ?_
    show Go p e below _ T1 (mkF m 15 #[.val (.int p1), .val (.int p2), .val (.int p3)] [(.int p3), (.int (1 : Int32))])
    by_cases hc2 : (1 : Int32) = p3
    · refine Go.to (fun _ => XS.icmpNo X1.here hx rfl (hb hby d17_15) rfl (teq hc2).2) ?_
      show Go p e below _ T1 (mkF m 18 #[.val (.int p1), .val (.int p2), .val (.int p3)] [])
      refine Go.to (fun _ => XS.iconst X1.here hx rfl (hb hby d17_18)) ?_
      show Go p e below _ T1 (mkF m 19 #[.val (.int p1), .val (.int p2), .val (.int p3)] [(.int (1 : Int32))])
      refine Go.to (fun _ => XS.goto X1.here hx rfl (pc0 := 19) (pc' := 23) rfl (hb hby d17_19) (by decide) (by decide)) ?_
      show Go p e below _ T1 (mkF m 23 #[.val (.int p1), .val (.int p2), .val (.int p3)] [(.int (1 : Int32))])
      rw [hK]
      exact Go.retI X1 hx hlk hret (hb hby d17_23) ⟨by rw [fL]; rw [if_pos hc1]; rw [if_pos hc2], e1, rfl⟩ (by decide) (by decide)
    · refine Go.to (fun _ => XS.icmpYes X1.here hx rfl (pc0 := 15) (pc' := 22) rfl (hb hby d17_15) rfl (feq hc2).2 (by decide) (by decide)) ?_
      show Go p e below _ T1 (mkF m 22 #[.val (.int p1), .val (.int p2), .val (.int p3)] [])
      refine Go.to (fun _ => XS.iconst X1.here hx rfl (hb hby d17_22)) ?_
      show Go p e below _ T1 (mkF m 23 #[.val (.int p1), .val (.int p2), .val (.int p3)] [(.int (0 : Int32))])
      rw [hK]
      exact Go.retI X1 hx hlk hret (hb hby d17_23) ⟨by rw [fL]; rw [if_pos hc1]; rw [if_neg hc2], e1, rfl⟩ (by decide) (by decide)
  · refine Go.to (fun _ => XS.icmpYes X1.here hx rfl (pc0 := 6) (pc' := 13) rfl (hb hby d17_6) rfl (feq hc1).2 (by decide) (by decide)) ?_
    show Go p e below _ T1 (mkF m 13 #[.val (.int p1), .val (.int p2), .val (.int p3)] [])
    refine Go.to (fun _ => XS.iconst X1.here hx rfl (hb hby d17_13)) ?_
    show Go p e below _ T1 (mkF m 14 #[.val (.int p1), .val (.int p2), .val (.int p3)] [(.int (0 : Int32))])
    refine Go.to (fun _ => XS.iloadN X1.here hx rfl (hb hby d17_14) rfl) ?_
    show Go p e below _ T1 (mkF m 15 #[.val (.int p1), .val (.int p2), .val (.int p3)] [(.int p3), (.int (0 : Int32))])
    by_cases hc3 : (0 : Int32) = p3
    · refine Go.to (fun _ => XS.icmpNo X1.here hx rfl (hb hby d17_15) rfl (teq hc3).2) ?_
      show Go p e below _ T1 (mkF m 18 #[.val (.int p1), .val (.int p2), .val (.int p3)] [])
      refine Go.to (fun _ => XS.iconst X1.here hx rfl (hb hby d17_18)) ?_
      show Go p e below _ T1 (mkF m 19 #[.val (.int p1), .val (.int p2), .val (.int p3)] [(.int (1 : Int32))])
      refine Go.to (fun _ => XS.goto X1.here hx rfl (pc0 := 19) (pc' := 23) rfl (hb hby d17_19) (by decide) (by decide)) ?_
      show Go p e below _ T1 (mkF m 23 #[.val (.int p1), .val (.int p2), .val (.int p3)] [(.int (1 : Int32))])
      rw [hK]
      exact Go.retI X1 hx hlk hret (hb hby d17_23) ⟨by rw [fL]; rw [if_neg hc1]; rw [if_pos hc3], e1, rfl⟩ (by decide) (by decide)
    · refine Go.to (fun _ => XS.icmpYes X1.here hx rfl (pc0 := 15) (pc' := 22) rfl (hb hby d17_15) rfl (feq hc3).2 (by decide) (by decide)) ?_
      show Go p e below _ T1 (mkF m 22 #[.val (.int p1), .val (.int p2), .val (.int p3)] [])
      refine Go.to (fun _ => XS.iconst X1.here hx rfl (hb hby d17_22)) ?_
      show Go p e below _ T1 (mkF m 23 #[.val (.int p1), .val (.int p2), .val (.int p3)] [(.int (0 : Int32))])
      rw [hK]
      exact Go.retI X1 hx hlk hret (hb hby d17_23) ⟨by rw [fL]; rw [if_neg hc1]; rw [if_neg hc3], e1, rfl⟩ (by decide) (by decide)
def cntF (l1 : List Int32) (p2 : Int32) (p3 : Int32) : Option Int32 := ((rdL l1 (0 : Int32)).bind fun v1 => ((some (if v1 = p2 then (if (fBit p3 (0 : Int32)) = (1 : Int32) then ((0 : Int32) + (1 : Int32)) else (0 : Int32)) else (0 : Int32))).bind fun c1 => ((rdL l1 (1 : Int32)).bind fun v3 => ((some (if v3 = p2 then (if (fBit p3 (1 : Int32)) = (1 : Int32) then (c1 + (1 : Int32)) else c1) else c1)).bind fun c2 => ((rdL l1 (2 : Int32)).bind fun v5 => ((some (if v5 = p2 then (if (fBit p3 (2 : Int32)) = (1 : Int32) then (c2 + (1 : Int32)) else c2) else c2)).bind fun c3 => ((rdL l1 (3 : Int32)).bind fun v7 => ((some (if v7 = p2 then (if (fBit p3 (3 : Int32)) = (1 : Int32) then (c3 + (1 : Int32)) else c3) else c3)).bind fun c4 => some c4))))))))
theorem d11_0 : decode method_3_code 0 = .ok (.iconst 0, 1) := by decide +kernel
theorem d11_1 : decode method_3_code 1 = .ok (.istore_n 3, 1) := by decide +kernel
theorem d11_2 : decode method_3_code 2 = .ok (.aload_n 0, 1) := by decide +kernel
theorem d11_3 : decode method_3_code 3 = .ok (.iconst 0, 1) := by decide +kernel
theorem d11_4 : decode method_3_code 4 = .ok (.iaload, 1) := by decide +kernel
theorem d11_5 : decode method_3_code 5 = .ok (.iload_n 1, 1) := by decide +kernel
theorem d11_6 : decode method_3_code 6 = .ok (.if_icmp .ne 15, 3) := by decide +kernel
theorem d11_9 : decode method_3_code 9 = .ok (.iload_n 2, 1) := by decide +kernel
theorem d11_10 : decode method_3_code 10 = .ok (.iconst 0, 1) := by decide +kernel
theorem d11_11 : decode method_3_code 11 = .ok (.invokestatic 7, 3) := by decide +kernel
theorem d11_14 : decode method_3_code 14 = .ok (.iconst 1, 1) := by decide +kernel
theorem d11_15 : decode method_3_code 15 = .ok (.if_icmp .ne 6, 3) := by decide +kernel
theorem d11_18 : decode method_3_code 18 = .ok (.iinc 3 1, 3) := by decide +kernel
theorem d11_21 : decode method_3_code 21 = .ok (.aload_n 0, 1) := by decide +kernel
theorem d11_22 : decode method_3_code 22 = .ok (.iconst 1, 1) := by decide +kernel
theorem d11_23 : decode method_3_code 23 = .ok (.iaload, 1) := by decide +kernel
theorem d11_24 : decode method_3_code 24 = .ok (.iload_n 1, 1) := by decide +kernel
theorem d11_25 : decode method_3_code 25 = .ok (.if_icmp .ne 15, 3) := by decide +kernel
theorem d11_28 : decode method_3_code 28 = .ok (.iload_n 2, 1) := by decide +kernel
theorem d11_29 : decode method_3_code 29 = .ok (.iconst 1, 1) := by decide +kernel
theorem d11_30 : decode method_3_code 30 = .ok (.invokestatic 7, 3) := by decide +kernel
theorem d11_33 : decode method_3_code 33 = .ok (.iconst 1, 1) := by decide +kernel
theorem d11_34 : decode method_3_code 34 = .ok (.if_icmp .ne 6, 3) := by decide +kernel
theorem d11_37 : decode method_3_code 37 = .ok (.iinc 3 1, 3) := by decide +kernel
theorem d11_40 : decode method_3_code 40 = .ok (.aload_n 0, 1) := by decide +kernel
theorem d11_41 : decode method_3_code 41 = .ok (.iconst 2, 1) := by decide +kernel
theorem d11_42 : decode method_3_code 42 = .ok (.iaload, 1) := by decide +kernel
theorem d11_43 : decode method_3_code 43 = .ok (.iload_n 1, 1) := by decide +kernel
theorem d11_44 : decode method_3_code 44 = .ok (.if_icmp .ne 15, 3) := by decide +kernel
theorem d11_47 : decode method_3_code 47 = .ok (.iload_n 2, 1) := by decide +kernel
theorem d11_48 : decode method_3_code 48 = .ok (.iconst 2, 1) := by decide +kernel
theorem d11_49 : decode method_3_code 49 = .ok (.invokestatic 7, 3) := by decide +kernel
theorem d11_52 : decode method_3_code 52 = .ok (.iconst 1, 1) := by decide +kernel
theorem d11_53 : decode method_3_code 53 = .ok (.if_icmp .ne 6, 3) := by decide +kernel
theorem d11_56 : decode method_3_code 56 = .ok (.iinc 3 1, 3) := by decide +kernel
theorem d11_59 : decode method_3_code 59 = .ok (.aload_n 0, 1) := by decide +kernel
theorem d11_60 : decode method_3_code 60 = .ok (.iconst 3, 1) := by decide +kernel
theorem d11_61 : decode method_3_code 61 = .ok (.iaload, 1) := by decide +kernel
theorem d11_62 : decode method_3_code 62 = .ok (.iload_n 1, 1) := by decide +kernel
theorem d11_63 : decode method_3_code 63 = .ok (.if_icmp .ne 15, 3) := by decide +kernel
theorem d11_66 : decode method_3_code 66 = .ok (.iload_n 2, 1) := by decide +kernel
theorem d11_67 : decode method_3_code 67 = .ok (.iconst 3, 1) := by decide +kernel
theorem d11_68 : decode method_3_code 68 = .ok (.invokestatic 7, 3) := by decide +kernel
theorem d11_71 : decode method_3_code 71 = .ok (.iconst 1, 1) := by decide +kernel
theorem d11_72 : decode method_3_code 72 = .ok (.if_icmp .ne 6, 3) := by decide +kernel
theorem d11_75 : decode method_3_code 75 = .ok (.iinc 3 1, 3) := by decide +kernel
theorem d11_78 : decode method_3_code 78 = .ok (.iload_n 3, 1) := by decide +kernel
theorem d11_79 : decode method_3_code 79 = .ok (.ireturn, 1) := by decide +kernel
theorem ef_rm11 (m : MethodId) (a1 : Addr) (p2 : Int32) (p3 : Int32) : entryFrame m #[(.ref a1), (.int p2), (.int p3)] 4 = mkF m 0 #[.val (.ref a1), .val (.int p2), .val (.int p3), .unset] [] := by first | (simp [entryFrame, mkF, argsToLocals, Value.category]; done) | rfl
set_option maxHeartbeats 40000000 in
theorem rm11 (l : Launch) (Z : State) (a0 : Array Value) (hw : ∀ d ∈ tables_1, d.before a0 Z = true) (ws : List Jvm.Cond) (a1 : Addr) (p2 : Int32) (p3 : Int32) (h0 : Heap) (l1 : List Int32) (Al1 : AV Z h0 a1 .int l1) (r : Int32) (hf : cntF l1 p2 p3 = some r) :
    Met1 l Z (⟨"com/example/tracegauge/tracegauge/automata/PartitionSplitPinLaw", "count", "([III)I"⟩ : MethodName) method_3_code 4 (some .int) ws ({ frames := 1, cells := 0, slots := 0, locals := 13 } : Room) #[(.ref a1), (.int p2), (.int p3)] h0 (QP (.int r) h0) := by
  refine metOf (by first | exact plainFor_of_name (by first | (simp [plainName, overriddenIn]; done) | decide +kernel) | decide +kernel) ?_
  intro p e s m below meth c s₁ hx hby hml hown hnm hret hlk hZ X0 e0
  have hown : s.vm.findClass "com/example/tracegauge/tracegauge/automata/PartitionSplitPinLaw" = some m.cls := hown
  obtain ⟨K, hK⟩ : ∃ K, K = KQ s (QP (.int r) h0) (({ frames := 1, cells := 0, slots := 0, locals := 13 } : Room)).cells (({ frames := 1, cells := 0, slots := 0, locals := 13 } : Room)).slots := ⟨_, rfl⟩
  show Go p e below (KQ s (QP (.int r) h0) (({ frames := 1, cells := 0, slots := 0, locals := 13 } : Room)).cells (({ frames := 1, cells := 0, slots := 0, locals := 13 } : Room)).slots) s₁ (entryFrame m #[(.ref a1), (.int p2), (.int p3)] 4)
  rw [← hK, ef_rm11 m a1 p2 p3]
  rw [cntF] at hf
  show Go p e below _ s₁ (mkF m 0 #[.val (.ref a1), .val (.int p2), .val (.int p3), .unset] [])
  refine Go.to (fun _ => XS.iconst X0.here hx rfl (hb hby d11_0)) ?_
  show Go p e below _ s₁ (mkF m 1 #[.val (.ref a1), .val (.int p2), .val (.int p3), .unset] [(.int (0 : Int32))])
  refine Go.to (fun _ => XS.istoreN X0.here hx rfl (hb hby d11_1) rfl (l' := #[.val (.ref a1), .val (.int p2), .val (.int p3), .val (.int (0 : Int32))]) rfl) ?_
  show Go p e below _ s₁ (mkF m 2 #[.val (.ref a1), .val (.int p2), .val (.int p3), .val (.int (0 : Int32))] [])
  refine Go.to (fun _ => XS.aloadN X0.here hx rfl (hb hby d11_2) rfl rfl) ?_
  show Go p e below _ s₁ (mkF m 3 #[.val (.ref a1), .val (.int p2), .val (.int p3), .val (.int (0 : Int32))] [(.ref a1)])
  refine Go.to (fun _ => XS.iconst X0.here hx rfl (hb hby d11_3)) ?_
  show Go p e below _ s₁ (mkF m 4 #[.val (.ref a1), .val (.int p2), .val (.int p3), .val (.int (0 : Int32))] [(.int (0 : Int32)), (.ref a1)])
  obtain ⟨v1, hv1, hf⟩ := Option.bind_eq_some_iff.mp hf
  refine Go.iaload X0 hx hZ e0 Al1 hv1 (hb hby d11_4) ?_
  show Go p e below _ s₁ (mkF m 5 #[.val (.ref a1), .val (.int p2), .val (.int p3), .val (.int (0 : Int32))] [(.int v1)])
  refine Go.to (fun _ => XS.iloadN X0.here hx rfl (hb hby d11_5) rfl) ?_
  show Go p e below _ s₁ (mkF m 6 #[.val (.ref a1), .val (.int p2), .val (.int p3), .val (.int (0 : Int32))] [(.int p2), (.int v1)])
  have hj1 : (∀ (T1 : State), Stand p l e ({ frames := 1, cells := 0, slots := 0, locals := 13 } : Room) s m #[(.ref a1), (.int p2), (.int p3)] below meth c T1 [] 0 0 → T1.heap = h0 → ∀ c1 : Int32, c1 = (if v1 = p2 then (if (fBit p3 (0 : Int32)) = (1 : Int32) then ((0 : Int32) + (1 : Int32)) else (0 : Int32)) else (0 : Int32)) → Go p e below K T1 (mkF m 21 #[.val (.ref a1), .val (.int p2), .val (.int p3), .val (.int c1)] [])) → Go p e below K s₁ (mkF m 6 #[.val (.ref a1), .val (.int p2), .val (.int p3), .val (.int (0 : Int32))] [(.int p2), (.int v1)]) := by
    intro k
    by_cases hc1 : v1 = p2
    · refine Go.to (fun _ => XS.icmpNo X0.here hx rfl (hb hby d11_6) rfl (teq hc1).2) ?_
      show Go p e below _ s₁ (mkF m 9 #[.val (.ref a1), .val (.int p2), .val (.int p3), .val (.int (0 : Int32))] [])
      refine Go.to (fun _ => XS.iloadN X0.here hx rfl (hb hby d11_9) rfl) ?_
      show Go p e below _ s₁ (mkF m 10 #[.val (.ref a1), .val (.int p2), .val (.int p3), .val (.int (0 : Int32))] [(.int p3)])
      refine Go.to (fun _ => XS.iconst X0.here hx rfl (hb hby d11_10)) ?_
      show Go p e below _ s₁ (mkF m 11 #[.val (.ref a1), .val (.int p2), .val (.int p3), .val (.int (0 : Int32))] [(.int (0 : Int32)), (.int p3)])
      refine Go.callS (y := (⟨"com/example/tracegauge/tracegauge/automata/PartitionSplitPinLaw", "bit", "(II)I"⟩ : MethodName)) X0 hx hZ hown (hw _ (List.mem_of_getElem? (i := 30) rfl)) (hw _ (List.mem_of_getElem? (i := 31) rfl)) (hw _ (List.mem_of_getElem? (i := 28) rfl)) (hw _ (List.mem_of_getElem? (i := 32) rfl)) (by decide) (rm4 l Z a0 hw [] p3 (0 : Int32) h0) e0 (by rw [hml]; rfl) (pd_4) rfl (argsL := [(.int p3), (.int (0 : Int32))]) (rest := []) rfl rfl (hb hby d11_11) (by decide) (Nat.le_of_ble_eq_true rfl) (by decide) (by decide) ?_
      rintro T2 _ L2 X2 ⟨rfl, e2, rfl⟩
      simp only [List.append_nil] at X2
      show Go p e below _ T2 (mkF m 14 #[.val (.ref a1), .val (.int p2), .val (.int p3), .val (.int (0 : Int32))] [(.int (fBit p3 (0 : Int32)))])
      refine Go.to (fun _ => XS.iconst X2.here hx rfl (hb hby d11_14)) ?_
      show Go p e below _ T2 (mkF m 15 #[.val (.ref a1), .val (.int p2), .val (.int p3), .val (.int (0 : Int32))] [(.int (1 : Int32)), (.int (fBit p3 (0 : Int32)))])
      by_cases hc2 : (fBit p3 (0 : Int32)) = (1 : Int32)
      · refine Go.to (fun _ => XS.icmpNo X2.here hx rfl (hb hby d11_15) rfl (teq hc2).2) ?_
        show Go p e below _ T2 (mkF m 18 #[.val (.ref a1), .val (.int p2), .val (.int p3), .val (.int (0 : Int32))] [])
        refine Go.to (fun _ => XS.iinc X2.here hx rfl (hb hby d11_18) rfl (l' := #[.val (.ref a1), .val (.int p2), .val (.int p3), .val (.int ((0 : Int32) + (1 : Int32)))]) rfl) ?_
        show Go p e below _ T2 (mkF m 21 #[.val (.ref a1), .val (.int p2), .val (.int p3), .val (.int ((0 : Int32) + (1 : Int32)))] [])
        exact k _ X2 e2 ((0 : Int32) + (1 : Int32)) (by rw [if_pos hc1, if_pos hc2])
      · refine Go.to (fun _ => XS.icmpYes X2.here hx rfl (pc0 := 15) (pc' := 21) rfl (hb hby d11_15) rfl (feq hc2).2 (by decide) (by decide)) ?_
        show Go p e below _ T2 (mkF m 21 #[.val (.ref a1), .val (.int p2), .val (.int p3), .val (.int (0 : Int32))] [])
        exact k _ X2 e2 (0 : Int32) (by rw [if_pos hc1, if_neg hc2])
    · refine Go.to (fun _ => XS.icmpYes X0.here hx rfl (pc0 := 6) (pc' := 21) rfl (hb hby d11_6) rfl (feq hc1).2 (by decide) (by decide)) ?_
      show Go p e below _ s₁ (mkF m 21 #[.val (.ref a1), .val (.int p2), .val (.int p3), .val (.int (0 : Int32))] [])
      exact k _ X0 e0 (0 : Int32) (by rw [if_neg hc1])
  refine hj1 (fun T1 X1 e1 c1 hc1 => ?_)
  clear hj1
  obtain ⟨y2, hy2, hf⟩ := Option.bind_eq_some_iff.mp hf
  rw [(Option.some.inj hy2).symm.trans hc1.symm] at hf
  refine Go.to (fun _ => XS.aloadN X1.here hx rfl (hb hby d11_21) rfl rfl) ?_
  show Go p e below _ T1 (mkF m 22 #[.val (.ref a1), .val (.int p2), .val (.int p3), .val (.int c1)] [(.ref a1)])
  refine Go.to (fun _ => XS.iconst X1.here hx rfl (hb hby d11_22)) ?_
  show Go p e below _ T1 (mkF m 23 #[.val (.ref a1), .val (.int p2), .val (.int p3), .val (.int c1)] [(.int (1 : Int32)), (.ref a1)])
  obtain ⟨v3, hv3, hf⟩ := Option.bind_eq_some_iff.mp hf
  refine Go.iaload X1 hx hZ e1 Al1 hv3 (hb hby d11_23) ?_
  show Go p e below _ T1 (mkF m 24 #[.val (.ref a1), .val (.int p2), .val (.int p3), .val (.int c1)] [(.int v3)])
  refine Go.to (fun _ => XS.iloadN X1.here hx rfl (hb hby d11_24) rfl) ?_
  show Go p e below _ T1 (mkF m 25 #[.val (.ref a1), .val (.int p2), .val (.int p3), .val (.int c1)] [(.int p2), (.int v3)])
  have hj3 : (∀ (T3 : State), Stand p l e ({ frames := 1, cells := 0, slots := 0, locals := 13 } : Room) s m #[(.ref a1), (.int p2), (.int p3)] below meth c T3 [] 0 0 → T3.heap = h0 → ∀ c2 : Int32, c2 = (if v3 = p2 then (if (fBit p3 (1 : Int32)) = (1 : Int32) then (c1 + (1 : Int32)) else c1) else c1) → Go p e below K T3 (mkF m 40 #[.val (.ref a1), .val (.int p2), .val (.int p3), .val (.int c2)] [])) → Go p e below K T1 (mkF m 25 #[.val (.ref a1), .val (.int p2), .val (.int p3), .val (.int c1)] [(.int p2), (.int v3)]) := by
    intro k
    by_cases hc3 : v3 = p2
    · refine Go.to (fun _ => XS.icmpNo X1.here hx rfl (hb hby d11_25) rfl (teq hc3).2) ?_
      show Go p e below _ T1 (mkF m 28 #[.val (.ref a1), .val (.int p2), .val (.int p3), .val (.int c1)] [])
      refine Go.to (fun _ => XS.iloadN X1.here hx rfl (hb hby d11_28) rfl) ?_
      show Go p e below _ T1 (mkF m 29 #[.val (.ref a1), .val (.int p2), .val (.int p3), .val (.int c1)] [(.int p3)])
      refine Go.to (fun _ => XS.iconst X1.here hx rfl (hb hby d11_29)) ?_
      show Go p e below _ T1 (mkF m 30 #[.val (.ref a1), .val (.int p2), .val (.int p3), .val (.int c1)] [(.int (1 : Int32)), (.int p3)])
      refine Go.callS (y := (⟨"com/example/tracegauge/tracegauge/automata/PartitionSplitPinLaw", "bit", "(II)I"⟩ : MethodName)) X1 hx hZ hown (hw _ (List.mem_of_getElem? (i := 30) rfl)) (hw _ (List.mem_of_getElem? (i := 31) rfl)) (hw _ (List.mem_of_getElem? (i := 28) rfl)) (hw _ (List.mem_of_getElem? (i := 32) rfl)) (by decide) (rm4 l Z a0 hw [] p3 (1 : Int32) h0) e1 (by rw [hml]; rfl) (pd_4) rfl (argsL := [(.int p3), (.int (1 : Int32))]) (rest := []) rfl rfl (hb hby d11_30) (by decide) (Nat.le_of_ble_eq_true rfl) (by decide) (by decide) ?_
      rintro T4 _ L4 X4 ⟨rfl, e4, rfl⟩
      simp only [List.append_nil] at X4
      show Go p e below _ T4 (mkF m 33 #[.val (.ref a1), .val (.int p2), .val (.int p3), .val (.int c1)] [(.int (fBit p3 (1 : Int32)))])
      refine Go.to (fun _ => XS.iconst X4.here hx rfl (hb hby d11_33)) ?_
      show Go p e below _ T4 (mkF m 34 #[.val (.ref a1), .val (.int p2), .val (.int p3), .val (.int c1)] [(.int (1 : Int32)), (.int (fBit p3 (1 : Int32)))])
      by_cases hc4 : (fBit p3 (1 : Int32)) = (1 : Int32)
      · refine Go.to (fun _ => XS.icmpNo X4.here hx rfl (hb hby d11_34) rfl (teq hc4).2) ?_
        show Go p e below _ T4 (mkF m 37 #[.val (.ref a1), .val (.int p2), .val (.int p3), .val (.int c1)] [])
        refine Go.to (fun _ => XS.iinc X4.here hx rfl (hb hby d11_37) rfl (l' := #[.val (.ref a1), .val (.int p2), .val (.int p3), .val (.int (c1 + (1 : Int32)))]) rfl) ?_
        show Go p e below _ T4 (mkF m 40 #[.val (.ref a1), .val (.int p2), .val (.int p3), .val (.int (c1 + (1 : Int32)))] [])
        exact k _ X4 e4 (c1 + (1 : Int32)) (by rw [if_pos hc3, if_pos hc4])
      · refine Go.to (fun _ => XS.icmpYes X4.here hx rfl (pc0 := 34) (pc' := 40) rfl (hb hby d11_34) rfl (feq hc4).2 (by decide) (by decide)) ?_
        show Go p e below _ T4 (mkF m 40 #[.val (.ref a1), .val (.int p2), .val (.int p3), .val (.int c1)] [])
        exact k _ X4 e4 c1 (by rw [if_pos hc3, if_neg hc4])
    · refine Go.to (fun _ => XS.icmpYes X1.here hx rfl (pc0 := 25) (pc' := 40) rfl (hb hby d11_25) rfl (feq hc3).2 (by decide) (by decide)) ?_
      show Go p e below _ T1 (mkF m 40 #[.val (.ref a1), .val (.int p2), .val (.int p3), .val (.int c1)] [])
      exact k _ X1 e1 c1 (by rw [if_neg hc3])
  refine hj3 (fun T3 X3 e3 c2 hc2 => ?_)
  clear hj3
  obtain ⟨y4, hy4, hf⟩ := Option.bind_eq_some_iff.mp hf
  rw [(Option.some.inj hy4).symm.trans hc2.symm] at hf
  refine Go.to (fun _ => XS.aloadN X3.here hx rfl (hb hby d11_40) rfl rfl) ?_
  show Go p e below _ T3 (mkF m 41 #[.val (.ref a1), .val (.int p2), .val (.int p3), .val (.int c2)] [(.ref a1)])
  refine Go.to (fun _ => XS.iconst X3.here hx rfl (hb hby d11_41)) ?_
  show Go p e below _ T3 (mkF m 42 #[.val (.ref a1), .val (.int p2), .val (.int p3), .val (.int c2)] [(.int (2 : Int32)), (.ref a1)])
  obtain ⟨v5, hv5, hf⟩ := Option.bind_eq_some_iff.mp hf
  refine Go.iaload X3 hx hZ e3 Al1 hv5 (hb hby d11_42) ?_
  show Go p e below _ T3 (mkF m 43 #[.val (.ref a1), .val (.int p2), .val (.int p3), .val (.int c2)] [(.int v5)])
  refine Go.to (fun _ => XS.iloadN X3.here hx rfl (hb hby d11_43) rfl) ?_
  show Go p e below _ T3 (mkF m 44 #[.val (.ref a1), .val (.int p2), .val (.int p3), .val (.int c2)] [(.int p2), (.int v5)])
  have hj5 : (∀ (T5 : State), Stand p l e ({ frames := 1, cells := 0, slots := 0, locals := 13 } : Room) s m #[(.ref a1), (.int p2), (.int p3)] below meth c T5 [] 0 0 → T5.heap = h0 → ∀ c3 : Int32, c3 = (if v5 = p2 then (if (fBit p3 (2 : Int32)) = (1 : Int32) then (c2 + (1 : Int32)) else c2) else c2) → Go p e below K T5 (mkF m 59 #[.val (.ref a1), .val (.int p2), .val (.int p3), .val (.int c3)] [])) → Go p e below K T3 (mkF m 44 #[.val (.ref a1), .val (.int p2), .val (.int p3), .val (.int c2)] [(.int p2), (.int v5)]) := by
    intro k
    by_cases hc5 : v5 = p2
    · refine Go.to (fun _ => XS.icmpNo X3.here hx rfl (hb hby d11_44) rfl (teq hc5).2) ?_
      show Go p e below _ T3 (mkF m 47 #[.val (.ref a1), .val (.int p2), .val (.int p3), .val (.int c2)] [])
      refine Go.to (fun _ => XS.iloadN X3.here hx rfl (hb hby d11_47) rfl) ?_
      show Go p e below _ T3 (mkF m 48 #[.val (.ref a1), .val (.int p2), .val (.int p3), .val (.int c2)] [(.int p3)])
      refine Go.to (fun _ => XS.iconst X3.here hx rfl (hb hby d11_48)) ?_
      show Go p e below _ T3 (mkF m 49 #[.val (.ref a1), .val (.int p2), .val (.int p3), .val (.int c2)] [(.int (2 : Int32)), (.int p3)])
      refine Go.callS (y := (⟨"com/example/tracegauge/tracegauge/automata/PartitionSplitPinLaw", "bit", "(II)I"⟩ : MethodName)) X3 hx hZ hown (hw _ (List.mem_of_getElem? (i := 30) rfl)) (hw _ (List.mem_of_getElem? (i := 31) rfl)) (hw _ (List.mem_of_getElem? (i := 28) rfl)) (hw _ (List.mem_of_getElem? (i := 32) rfl)) (by decide) (rm4 l Z a0 hw [] p3 (2 : Int32) h0) e3 (by rw [hml]; rfl) (pd_4) rfl (argsL := [(.int p3), (.int (2 : Int32))]) (rest := []) rfl rfl (hb hby d11_49) (by decide) (Nat.le_of_ble_eq_true rfl) (by decide) (by decide) ?_
      rintro T6 _ L6 X6 ⟨rfl, e6, rfl⟩
      simp only [List.append_nil] at X6
      show Go p e below _ T6 (mkF m 52 #[.val (.ref a1), .val (.int p2), .val (.int p3), .val (.int c2)] [(.int (fBit p3 (2 : Int32)))])
      refine Go.to (fun _ => XS.iconst X6.here hx rfl (hb hby d11_52)) ?_
      show Go p e below _ T6 (mkF m 53 #[.val (.ref a1), .val (.int p2), .val (.int p3), .val (.int c2)] [(.int (1 : Int32)), (.int (fBit p3 (2 : Int32)))])
      by_cases hc6 : (fBit p3 (2 : Int32)) = (1 : Int32)
      · refine Go.to (fun _ => XS.icmpNo X6.here hx rfl (hb hby d11_53) rfl (teq hc6).2) ?_
        show Go p e below _ T6 (mkF m 56 #[.val (.ref a1), .val (.int p2), .val (.int p3), .val (.int c2)] [])
        refine Go.to (fun _ => XS.iinc X6.here hx rfl (hb hby d11_56) rfl (l' := #[.val (.ref a1), .val (.int p2), .val (.int p3), .val (.int (c2 + (1 : Int32)))]) rfl) ?_
        show Go p e below _ T6 (mkF m 59 #[.val (.ref a1), .val (.int p2), .val (.int p3), .val (.int (c2 + (1 : Int32)))] [])
        exact k _ X6 e6 (c2 + (1 : Int32)) (by rw [if_pos hc5, if_pos hc6])
      · refine Go.to (fun _ => XS.icmpYes X6.here hx rfl (pc0 := 53) (pc' := 59) rfl (hb hby d11_53) rfl (feq hc6).2 (by decide) (by decide)) ?_
        show Go p e below _ T6 (mkF m 59 #[.val (.ref a1), .val (.int p2), .val (.int p3), .val (.int c2)] [])
        exact k _ X6 e6 c2 (by rw [if_pos hc5, if_neg hc6])
    · refine Go.to (fun _ => XS.icmpYes X3.here hx rfl (pc0 := 44) (pc' := 59) rfl (hb hby d11_44) rfl (feq hc5).2 (by decide) (by decide)) ?_
      show Go p e below _ T3 (mkF m 59 #[.val (.ref a1), .val (.int p2), .val (.int p3), .val (.int c2)] [])
      exact k _ X3 e3 c2 (by rw [if_neg hc5])
  refine hj5 (fun T5 X5 e5 c3 hc3 => ?_)
  clear hj5
  obtain ⟨y6, hy6, hf⟩ := Option.bind_eq_some_iff.mp hf
  rw [(Option.some.inj hy6).symm.trans hc3.symm] at hf
  refine Go.to (fun _ => XS.aloadN X5.here hx rfl (hb hby d11_59) rfl rfl) ?_
  show Go p e below _ T5 (mkF m 60 #[.val (.ref a1), .val (.int p2), .val (.int p3), .val (.int c3)] [(.ref a1)])
  refine Go.to (fun _ => XS.iconst X5.here hx rfl (hb hby d11_60)) ?_
  show Go p e below _ T5 (mkF m 61 #[.val (.ref a1), .val (.int p2), .val (.int p3), .val (.int c3)] [(.int (3 : Int32)), (.ref a1)])
  obtain ⟨v7, hv7, hf⟩ := Option.bind_eq_some_iff.mp hf
  refine Go.iaload X5 hx hZ e5 Al1 hv7 (hb hby d11_61) ?_
  show Go p e below _ T5 (mkF m 62 #[.val (.ref a1), .val (.int p2), .val (.int p3), .val (.int c3)] [(.int v7)])
  refine Go.to (fun _ => XS.iloadN X5.here hx rfl (hb hby d11_62) rfl) ?_
  show Go p e below _ T5 (mkF m 63 #[.val (.ref a1), .val (.int p2), .val (.int p3), .val (.int c3)] [(.int p2), (.int v7)])
  have hj7 : (∀ (T7 : State), Stand p l e ({ frames := 1, cells := 0, slots := 0, locals := 13 } : Room) s m #[(.ref a1), (.int p2), (.int p3)] below meth c T7 [] 0 0 → T7.heap = h0 → ∀ c4 : Int32, c4 = (if v7 = p2 then (if (fBit p3 (3 : Int32)) = (1 : Int32) then (c3 + (1 : Int32)) else c3) else c3) → Go p e below K T7 (mkF m 78 #[.val (.ref a1), .val (.int p2), .val (.int p3), .val (.int c4)] [])) → Go p e below K T5 (mkF m 63 #[.val (.ref a1), .val (.int p2), .val (.int p3), .val (.int c3)] [(.int p2), (.int v7)]) := by
    intro k
    by_cases hc7 : v7 = p2
    · refine Go.to (fun _ => XS.icmpNo X5.here hx rfl (hb hby d11_63) rfl (teq hc7).2) ?_
      show Go p e below _ T5 (mkF m 66 #[.val (.ref a1), .val (.int p2), .val (.int p3), .val (.int c3)] [])
      refine Go.to (fun _ => XS.iloadN X5.here hx rfl (hb hby d11_66) rfl) ?_
      show Go p e below _ T5 (mkF m 67 #[.val (.ref a1), .val (.int p2), .val (.int p3), .val (.int c3)] [(.int p3)])
      refine Go.to (fun _ => XS.iconst X5.here hx rfl (hb hby d11_67)) ?_
      show Go p e below _ T5 (mkF m 68 #[.val (.ref a1), .val (.int p2), .val (.int p3), .val (.int c3)] [(.int (3 : Int32)), (.int p3)])
      refine Go.callS (y := (⟨"com/example/tracegauge/tracegauge/automata/PartitionSplitPinLaw", "bit", "(II)I"⟩ : MethodName)) X5 hx hZ hown (hw _ (List.mem_of_getElem? (i := 30) rfl)) (hw _ (List.mem_of_getElem? (i := 31) rfl)) (hw _ (List.mem_of_getElem? (i := 28) rfl)) (hw _ (List.mem_of_getElem? (i := 32) rfl)) (by decide) (rm4 l Z a0 hw [] p3 (3 : Int32) h0) e5 (by rw [hml]; rfl) (pd_4) rfl (argsL := [(.int p3), (.int (3 : Int32))]) (rest := []) rfl rfl (hb hby d11_68) (by decide) (Nat.le_of_ble_eq_true rfl) (by decide) (by decide) ?_
      rintro T8 _ L8 X8 ⟨rfl, e8, rfl⟩
      simp only [List.append_nil] at X8
      show Go p e below _ T8 (mkF m 71 #[.val (.ref a1), .val (.int p2), .val (.int p3), .val (.int c3)] [(.int (fBit p3 (3 : Int32)))])
      refine Go.to (fun _ => XS.iconst X8.here hx rfl (hb hby d11_71)) ?_
      show Go p e below _ T8 (mkF m 72 #[.val (.ref a1), .val (.int p2), .val (.int p3), .val (.int c3)] [(.int (1 : Int32)), (.int (fBit p3 (3 : Int32)))])
      by_cases hc8 : (fBit p3 (3 : Int32)) = (1 : Int32)
      · refine Go.to (fun _ => XS.icmpNo X8.here hx rfl (hb hby d11_72) rfl (teq hc8).2) ?_
        show Go p e below _ T8 (mkF m 75 #[.val (.ref a1), .val (.int p2), .val (.int p3), .val (.int c3)] [])
        refine Go.to (fun _ => XS.iinc X8.here hx rfl (hb hby d11_75) rfl (l' := #[.val (.ref a1), .val (.int p2), .val (.int p3), .val (.int (c3 + (1 : Int32)))]) rfl) ?_
        show Go p e below _ T8 (mkF m 78 #[.val (.ref a1), .val (.int p2), .val (.int p3), .val (.int (c3 + (1 : Int32)))] [])
        exact k _ X8 e8 (c3 + (1 : Int32)) (by rw [if_pos hc7, if_pos hc8])
      · refine Go.to (fun _ => XS.icmpYes X8.here hx rfl (pc0 := 72) (pc' := 78) rfl (hb hby d11_72) rfl (feq hc8).2 (by decide) (by decide)) ?_
        show Go p e below _ T8 (mkF m 78 #[.val (.ref a1), .val (.int p2), .val (.int p3), .val (.int c3)] [])
        exact k _ X8 e8 c3 (by rw [if_pos hc7, if_neg hc8])
    · refine Go.to (fun _ => XS.icmpYes X5.here hx rfl (pc0 := 63) (pc' := 78) rfl (hb hby d11_63) rfl (feq hc7).2 (by decide) (by decide)) ?_
      show Go p e below _ T5 (mkF m 78 #[.val (.ref a1), .val (.int p2), .val (.int p3), .val (.int c3)] [])
      exact k _ X5 e5 c3 (by rw [if_neg hc7])
  refine hj7 (fun T7 X7 e7 c4 hc4 => ?_)
  clear hj7
  obtain ⟨y8, hy8, hf⟩ := Option.bind_eq_some_iff.mp hf
  rw [(Option.some.inj hy8).symm.trans hc4.symm] at hf
  refine Go.to (fun _ => XS.iloadN X7.here hx rfl (hb hby d11_78) rfl) ?_
  show Go p e below _ T7 (mkF m 79 #[.val (.ref a1), .val (.int p2), .val (.int p3), .val (.int c4)] [(.int c4)])
  have hr := Option.some.inj hf
  rw [hK]
  exact Go.retI X7 hx hlk hret (hb hby d11_79) ⟨by rw [← hr], e7, rfl⟩ (by decide) (by decide)
def splF (l1 : List Int32) (p2 : Int32) (p3 : Int32) : Option Int32 := ((cntF l1 p2 (15 : Int32)).bind fun k1 => ((cntF l1 p2 p3).bind fun k2 => (if (0 : Int32) < k2 then (if k2 < k1 then some (1 : Int32) else some (0 : Int32)) else some (0 : Int32))))
theorem d10_0 : decode method_7_code 0 = .ok (.aload_n 0, 1) := by decide +kernel
theorem d10_1 : decode method_7_code 1 = .ok (.iload_n 1, 1) := by decide +kernel
theorem d10_2 : decode method_7_code 2 = .ok (.bipush 15, 2) := by decide +kernel
theorem d10_4 : decode method_7_code 4 = .ok (.invokestatic 30, 3) := by decide +kernel
theorem d10_7 : decode method_7_code 7 = .ok (.istore_n 3, 1) := by decide +kernel
theorem d10_8 : decode method_7_code 8 = .ok (.aload_n 0, 1) := by decide +kernel
theorem d10_9 : decode method_7_code 9 = .ok (.iload_n 1, 1) := by decide +kernel
theorem d10_10 : decode method_7_code 10 = .ok (.iload_n 2, 1) := by decide +kernel
theorem d10_11 : decode method_7_code 11 = .ok (.invokestatic 30, 3) := by decide +kernel
theorem d10_14 : decode method_7_code 14 = .ok (.istore 4, 2) := by decide +kernel
theorem d10_16 : decode method_7_code 16 = .ok (.iload 4, 2) := by decide +kernel
theorem d10_18 : decode method_7_code 18 = .ok (.ifCond .le 13, 3) := by decide +kernel
theorem d10_21 : decode method_7_code 21 = .ok (.iload 4, 2) := by decide +kernel
theorem d10_23 : decode method_7_code 23 = .ok (.iload_n 3, 1) := by decide +kernel
theorem d10_24 : decode method_7_code 24 = .ok (.if_icmp .ge 7, 3) := by decide +kernel
theorem d10_27 : decode method_7_code 27 = .ok (.iconst 1, 1) := by decide +kernel
theorem d10_28 : decode method_7_code 28 = .ok (.goto 4, 3) := by decide +kernel
theorem d10_31 : decode method_7_code 31 = .ok (.iconst 0, 1) := by decide +kernel
theorem d10_32 : decode method_7_code 32 = .ok (.ireturn, 1) := by decide +kernel
theorem ef_rm10 (m : MethodId) (a1 : Addr) (p2 : Int32) (p3 : Int32) : entryFrame m #[(.ref a1), (.int p2), (.int p3)] 5 = mkF m 0 #[.val (.ref a1), .val (.int p2), .val (.int p3), .unset, .unset] [] := by first | (simp [entryFrame, mkF, argsToLocals, Value.category]; done) | rfl
set_option maxHeartbeats 40000000 in
theorem rm10 (l : Launch) (Z : State) (a0 : Array Value) (hw : ∀ d ∈ tables_1, d.before a0 Z = true) (ws : List Jvm.Cond) (a1 : Addr) (p2 : Int32) (p3 : Int32) (h0 : Heap) (l1 : List Int32) (Al1 : AV Z h0 a1 .int l1) (r : Int32) (hf : splF l1 p2 p3 = some r) :
    Met1 l Z (⟨"com/example/tracegauge/tracegauge/automata/PartitionSplitPinLaw", "splits", "([III)Z"⟩ : MethodName) method_7_code 5 (some .boolean) ws ({ frames := 2, cells := 0, slots := 0, locals := 28 } : Room) #[(.ref a1), (.int p2), (.int p3)] h0 (QP (.int r) h0) := by
  refine metOf (by first | exact plainFor_of_name (by first | (simp [plainName, overriddenIn]; done) | decide +kernel) | decide +kernel) ?_
  intro p e s m below meth c s₁ hx hby hml hown hnm hret hlk hZ X0 e0
  have hown : s.vm.findClass "com/example/tracegauge/tracegauge/automata/PartitionSplitPinLaw" = some m.cls := hown
  obtain ⟨K, hK⟩ : ∃ K, K = KQ s (QP (.int r) h0) (({ frames := 2, cells := 0, slots := 0, locals := 28 } : Room)).cells (({ frames := 2, cells := 0, slots := 0, locals := 28 } : Room)).slots := ⟨_, rfl⟩
  show Go p e below (KQ s (QP (.int r) h0) (({ frames := 2, cells := 0, slots := 0, locals := 28 } : Room)).cells (({ frames := 2, cells := 0, slots := 0, locals := 28 } : Room)).slots) s₁ (entryFrame m #[(.ref a1), (.int p2), (.int p3)] 5)
  rw [← hK, ef_rm10 m a1 p2 p3]
  rw [splF] at hf
  show Go p e below _ s₁ (mkF m 0 #[.val (.ref a1), .val (.int p2), .val (.int p3), .unset, .unset] [])
  refine Go.to (fun _ => XS.aloadN X0.here hx rfl (hb hby d10_0) rfl rfl) ?_
  show Go p e below _ s₁ (mkF m 1 #[.val (.ref a1), .val (.int p2), .val (.int p3), .unset, .unset] [(.ref a1)])
  refine Go.to (fun _ => XS.iloadN X0.here hx rfl (hb hby d10_1) rfl) ?_
  show Go p e below _ s₁ (mkF m 2 #[.val (.ref a1), .val (.int p2), .val (.int p3), .unset, .unset] [(.int p2), (.ref a1)])
  refine Go.to (fun _ => XS.bipush X0.here hx rfl (hb hby d10_2)) ?_
  show Go p e below _ s₁ (mkF m 4 #[.val (.ref a1), .val (.int p2), .val (.int p3), .unset, .unset] [(.int (15 : Int32)), (.int p2), (.ref a1)])
  obtain ⟨k1, hk1, hf⟩ := Option.bind_eq_some_iff.mp hf
  refine Go.callS (y := (⟨"com/example/tracegauge/tracegauge/automata/PartitionSplitPinLaw", "count", "([III)I"⟩ : MethodName)) X0 hx hZ hown (hw _ (List.mem_of_getElem? (i := 61) rfl)) (hw _ (List.mem_of_getElem? (i := 62) rfl)) (hw _ (List.mem_of_getElem? (i := 28) rfl)) (hw _ (List.mem_of_getElem? (i := 63) rfl)) (by decide) (rm11 l Z a0 hw [] a1 p2 (15 : Int32) h0 l1 Al1 k1 hk1) e0 (by rw [hml]; rfl) (pd_8) rfl (argsL := [(.ref a1), (.int p2), (.int (15 : Int32))]) (rest := []) rfl rfl (hb hby d10_4) (by decide) (Nat.le_of_ble_eq_true rfl) (by decide) (by decide) ?_
  rintro T1 _ L1 X1 ⟨rfl, e1, rfl⟩
  simp only [List.append_nil] at X1
  show Go p e below _ T1 (mkF m 7 #[.val (.ref a1), .val (.int p2), .val (.int p3), .unset, .unset] [(.int k1)])
  refine Go.to (fun _ => XS.istoreN X1.here hx rfl (hb hby d10_7) rfl (l' := #[.val (.ref a1), .val (.int p2), .val (.int p3), .val (.int k1), .unset]) rfl) ?_
  show Go p e below _ T1 (mkF m 8 #[.val (.ref a1), .val (.int p2), .val (.int p3), .val (.int k1), .unset] [])
  refine Go.to (fun _ => XS.aloadN X1.here hx rfl (hb hby d10_8) rfl rfl) ?_
  show Go p e below _ T1 (mkF m 9 #[.val (.ref a1), .val (.int p2), .val (.int p3), .val (.int k1), .unset] [(.ref a1)])
  refine Go.to (fun _ => XS.iloadN X1.here hx rfl (hb hby d10_9) rfl) ?_
  show Go p e below _ T1 (mkF m 10 #[.val (.ref a1), .val (.int p2), .val (.int p3), .val (.int k1), .unset] [(.int p2), (.ref a1)])
  refine Go.to (fun _ => XS.iloadN X1.here hx rfl (hb hby d10_10) rfl) ?_
  show Go p e below _ T1 (mkF m 11 #[.val (.ref a1), .val (.int p2), .val (.int p3), .val (.int k1), .unset] [(.int p3), (.int p2), (.ref a1)])
  obtain ⟨k2, hk2, hf⟩ := Option.bind_eq_some_iff.mp hf
  refine Go.callS (y := (⟨"com/example/tracegauge/tracegauge/automata/PartitionSplitPinLaw", "count", "([III)I"⟩ : MethodName)) X1 hx hZ hown (hw _ (List.mem_of_getElem? (i := 61) rfl)) (hw _ (List.mem_of_getElem? (i := 62) rfl)) (hw _ (List.mem_of_getElem? (i := 28) rfl)) (hw _ (List.mem_of_getElem? (i := 63) rfl)) (by decide) (rm11 l Z a0 hw [] a1 p2 p3 h0 l1 Al1 k2 hk2) e1 (by rw [hml]; rfl) (pd_8) rfl (argsL := [(.ref a1), (.int p2), (.int p3)]) (rest := []) rfl rfl (hb hby d10_11) (by decide) (Nat.le_of_ble_eq_true rfl) (by decide) (by decide) ?_
  rintro T2 _ L2 X2 ⟨rfl, e2, rfl⟩
  simp only [List.append_nil] at X2
  show Go p e below _ T2 (mkF m 14 #[.val (.ref a1), .val (.int p2), .val (.int p3), .val (.int k1), .unset] [(.int k2)])
  refine Go.to (fun _ => XS.istore X2.here hx rfl (hb hby d10_14) rfl (l' := #[.val (.ref a1), .val (.int p2), .val (.int p3), .val (.int k1), .val (.int k2)]) rfl) ?_
  show Go p e below _ T2 (mkF m 16 #[.val (.ref a1), .val (.int p2), .val (.int p3), .val (.int k1), .val (.int k2)] [])
  refine Go.to (fun _ => XS.iload X2.here hx rfl (hb hby d10_16) rfl) ?_
  show Go p e below _ T2 (mkF m 18 #[.val (.ref a1), .val (.int p2), .val (.int p3), .val (.int k1), .val (.int k2)] [(.int k2)])
  by_cases hc1 : (0 : Int32) < k2
  · rw [if_pos hc1] at hf
    refine Go.to (fun _ => XS.ifNo X2.here hx rfl (hb hby d10_18) rfl ((if0 _ _).trans (tlt hc1).2.2.2)) ?_
    show Go p e below _ T2 (mkF m 21 #[.val (.ref a1), .val (.int p2), .val (.int p3), .val (.int k1), .val (.int k2)] [])
    refine Go.to (fun _ => XS.iload X2.here hx rfl (hb hby d10_21) rfl) ?_
    show Go p e below _ T2 (mkF m 23 #[.val (.ref a1), .val (.int p2), .val (.int p3), .val (.int k1), .val (.int k2)] [(.int k2)])
    refine Go.to (fun _ => XS.iloadN X2.here hx rfl (hb hby d10_23) rfl) ?_
    show Go p e below _ T2 (mkF m 24 #[.val (.ref a1), .val (.int p2), .val (.int p3), .val (.int k1), .val (.int k2)] [(.int k1), (.int k2)])
    by_cases hc2 : k2 < k1
    · rw [if_pos hc2] at hf
      refine Go.to (fun _ => XS.icmpNo X2.here hx rfl (hb hby d10_24) rfl (tlt hc2).2.1) ?_
      show Go p e below _ T2 (mkF m 27 #[.val (.ref a1), .val (.int p2), .val (.int p3), .val (.int k1), .val (.int k2)] [])
      refine Go.to (fun _ => XS.iconst X2.here hx rfl (hb hby d10_27)) ?_
      show Go p e below _ T2 (mkF m 28 #[.val (.ref a1), .val (.int p2), .val (.int p3), .val (.int k1), .val (.int k2)] [(.int (1 : Int32))])
      refine Go.to (fun _ => XS.goto X2.here hx rfl (pc0 := 28) (pc' := 32) rfl (hb hby d10_28) (by decide) (by decide)) ?_
      show Go p e below _ T2 (mkF m 32 #[.val (.ref a1), .val (.int p2), .val (.int p3), .val (.int k1), .val (.int k2)] [(.int (1 : Int32))])
      have hr := Option.some.inj hf
      rw [hK]
      exact Go.retZ X2 hx hlk hret (by decide) (hb hby d10_32) ⟨by rw [← hr], e2, rfl⟩ (by decide) (by decide)
    · rw [if_neg hc2] at hf
      refine Go.to (fun _ => XS.icmpYes X2.here hx rfl (pc0 := 24) (pc' := 31) rfl (hb hby d10_24) rfl (flt hc2).2.1 (by decide) (by decide)) ?_
      show Go p e below _ T2 (mkF m 31 #[.val (.ref a1), .val (.int p2), .val (.int p3), .val (.int k1), .val (.int k2)] [])
      refine Go.to (fun _ => XS.iconst X2.here hx rfl (hb hby d10_31)) ?_
      show Go p e below _ T2 (mkF m 32 #[.val (.ref a1), .val (.int p2), .val (.int p3), .val (.int k1), .val (.int k2)] [(.int (0 : Int32))])
      have hr := Option.some.inj hf
      rw [hK]
      exact Go.retZ X2 hx hlk hret (by decide) (hb hby d10_32) ⟨by rw [← hr], e2, rfl⟩ (by decide) (by decide)
  · rw [if_neg hc1] at hf
    refine Go.to (fun _ => XS.ifYes X2.here hx rfl (pc0 := 18) (pc' := 31) rfl (hb hby d10_18) rfl ((if0 _ _).trans (flt hc1).2.2.2) (by decide) (by decide)) ?_
    show Go p e below _ T2 (mkF m 31 #[.val (.ref a1), .val (.int p2), .val (.int p3), .val (.int k1), .val (.int k2)] [])
    refine Go.to (fun _ => XS.iconst X2.here hx rfl (hb hby d10_31)) ?_
    show Go p e below _ T2 (mkF m 32 #[.val (.ref a1), .val (.int p2), .val (.int p3), .val (.int k1), .val (.int k2)] [(.int (0 : Int32))])
    have hr := Option.some.inj hf
    rw [hK]
    exact Go.retZ X2 hx hlk hret (by decide) (hb hby d10_32) ⟨by rw [← hr], e2, rfl⟩ (by decide) (by decide)
def plcF (l1 : List Int32) (l2 : List Int32) (p3 : Int32) (p4 : Int32) : Option Int32 := ((rdL l1 p4).bind fun v1 => ((cntF l1 v1 (15 : Int32)).bind fun k2 => ((cntF l1 v1 p3).bind fun k3 => (if k3 = (0 : Int32) then ((rdL l2 p4).bind fun v4 => (if v4 = v1 then some (1 : Int32) else some (0 : Int32))) else (if k3 = k2 then ((rdL l2 p4).bind fun v4 => (if v4 = v1 then some (1 : Int32) else some (0 : Int32))) else ((some (if (k2 - k3) < k3 then (0 : Int32) else (1 : Int32))).bind fun mn => ((some (if (fBit p3 p4) = (1 : Int32) then (1 : Int32) else (0 : Int32))).bind fun bt => ((some (if bt = mn then (1 : Int32) else (0 : Int32))).bind fun mv => (if mv = (0 : Int32) then ((rdL l2 p4).bind fun v7 => (if v7 = v1 then some (1 : Int32) else some (0 : Int32))) else ((rdL l2 p4).bind fun v7 => ((rdL l1 (4 : Int32)).bind fun v8 => (if v7 < v8 then some (0 : Int32) else ((rdL l2 (4 : Int32)).bind fun v9 => (if v7 < v9 then some (1 : Int32) else some (0 : Int32)))))))))))))))
theorem d12_0 : decode method_8_code 0 = .ok (.aload_n 0, 1) := by decide +kernel
theorem d12_1 : decode method_8_code 1 = .ok (.iload_n 3, 1) := by decide +kernel
theorem d12_2 : decode method_8_code 2 = .ok (.iaload, 1) := by decide +kernel
theorem d12_3 : decode method_8_code 3 = .ok (.istore 4, 2) := by decide +kernel
theorem d12_5 : decode method_8_code 5 = .ok (.aload_n 0, 1) := by decide +kernel
theorem d12_6 : decode method_8_code 6 = .ok (.iload 4, 2) := by decide +kernel
theorem d12_8 : decode method_8_code 8 = .ok (.bipush 15, 2) := by decide +kernel
theorem d12_10 : decode method_8_code 10 = .ok (.invokestatic 30, 3) := by decide +kernel
theorem d12_13 : decode method_8_code 13 = .ok (.istore 5, 2) := by decide +kernel
theorem d12_15 : decode method_8_code 15 = .ok (.aload_n 0, 1) := by decide +kernel
theorem d12_16 : decode method_8_code 16 = .ok (.iload 4, 2) := by decide +kernel
theorem d12_18 : decode method_8_code 18 = .ok (.iload_n 2, 1) := by decide +kernel
theorem d12_19 : decode method_8_code 19 = .ok (.invokestatic 30, 3) := by decide +kernel
theorem d12_22 : decode method_8_code 22 = .ok (.istore 6, 2) := by decide +kernel
theorem d12_24 : decode method_8_code 24 = .ok (.iload 6, 2) := by decide +kernel
theorem d12_26 : decode method_8_code 26 = .ok (.ifCond .eq 10, 3) := by decide +kernel
theorem d12_29 : decode method_8_code 29 = .ok (.iload 6, 2) := by decide +kernel
theorem d12_31 : decode method_8_code 31 = .ok (.iload 5, 2) := by decide +kernel
theorem d12_33 : decode method_8_code 33 = .ok (.if_icmp .ne 17, 3) := by decide +kernel
theorem d12_36 : decode method_8_code 36 = .ok (.aload_n 1, 1) := by decide +kernel
theorem d12_37 : decode method_8_code 37 = .ok (.iload_n 3, 1) := by decide +kernel
theorem d12_38 : decode method_8_code 38 = .ok (.iaload, 1) := by decide +kernel
theorem d12_39 : decode method_8_code 39 = .ok (.iload 4, 2) := by decide +kernel
theorem d12_41 : decode method_8_code 41 = .ok (.if_icmp .ne 7, 3) := by decide +kernel
theorem d12_44 : decode method_8_code 44 = .ok (.iconst 1, 1) := by decide +kernel
theorem d12_45 : decode method_8_code 45 = .ok (.goto 4, 3) := by decide +kernel
theorem d12_48 : decode method_8_code 48 = .ok (.iconst 0, 1) := by decide +kernel
theorem d12_49 : decode method_8_code 49 = .ok (.ireturn, 1) := by decide +kernel
theorem d12_50 : decode method_8_code 50 = .ok (.iload 6, 2) := by decide +kernel
theorem d12_52 : decode method_8_code 52 = .ok (.iload 5, 2) := by decide +kernel
theorem d12_54 : decode method_8_code 54 = .ok (.iload 6, 2) := by decide +kernel
theorem d12_56 : decode method_8_code 56 = .ok (.isub, 1) := by decide +kernel
theorem d12_57 : decode method_8_code 57 = .ok (.if_icmp .gt 7, 3) := by decide +kernel
theorem d12_60 : decode method_8_code 60 = .ok (.iconst 1, 1) := by decide +kernel
theorem d12_61 : decode method_8_code 61 = .ok (.goto 4, 3) := by decide +kernel
theorem d12_64 : decode method_8_code 64 = .ok (.iconst 0, 1) := by decide +kernel
theorem d12_65 : decode method_8_code 65 = .ok (.istore 7, 2) := by decide +kernel
theorem d12_67 : decode method_8_code 67 = .ok (.iload_n 2, 1) := by decide +kernel
theorem d12_68 : decode method_8_code 68 = .ok (.iload_n 3, 1) := by decide +kernel
theorem d12_69 : decode method_8_code 69 = .ok (.invokestatic 7, 3) := by decide +kernel
theorem d12_72 : decode method_8_code 72 = .ok (.iconst 1, 1) := by decide +kernel
theorem d12_73 : decode method_8_code 73 = .ok (.if_icmp .ne 7, 3) := by decide +kernel
theorem d12_76 : decode method_8_code 76 = .ok (.iconst 1, 1) := by decide +kernel
theorem d12_77 : decode method_8_code 77 = .ok (.goto 4, 3) := by decide +kernel
theorem d12_80 : decode method_8_code 80 = .ok (.iconst 0, 1) := by decide +kernel
theorem d12_81 : decode method_8_code 81 = .ok (.iload 7, 2) := by decide +kernel
theorem d12_83 : decode method_8_code 83 = .ok (.if_icmp .ne 7, 3) := by decide +kernel
theorem d12_86 : decode method_8_code 86 = .ok (.iconst 1, 1) := by decide +kernel
theorem d12_87 : decode method_8_code 87 = .ok (.goto 4, 3) := by decide +kernel
theorem d12_90 : decode method_8_code 90 = .ok (.iconst 0, 1) := by decide +kernel
theorem d12_91 : decode method_8_code 91 = .ok (.istore 8, 2) := by decide +kernel
theorem d12_93 : decode method_8_code 93 = .ok (.iload 8, 2) := by decide +kernel
theorem d12_95 : decode method_8_code 95 = .ok (.ifCond .eq 27, 3) := by decide +kernel
theorem d12_98 : decode method_8_code 98 = .ok (.aload_n 1, 1) := by decide +kernel
theorem d12_99 : decode method_8_code 99 = .ok (.iload_n 3, 1) := by decide +kernel
theorem d12_100 : decode method_8_code 100 = .ok (.iaload, 1) := by decide +kernel
theorem d12_101 : decode method_8_code 101 = .ok (.aload_n 0, 1) := by decide +kernel
theorem d12_102 : decode method_8_code 102 = .ok (.iconst 4, 1) := by decide +kernel
theorem d12_103 : decode method_8_code 103 = .ok (.iaload, 1) := by decide +kernel
theorem d12_104 : decode method_8_code 104 = .ok (.if_icmp .lt 16, 3) := by decide +kernel
theorem d12_107 : decode method_8_code 107 = .ok (.aload_n 1, 1) := by decide +kernel
theorem d12_108 : decode method_8_code 108 = .ok (.iload_n 3, 1) := by decide +kernel
theorem d12_109 : decode method_8_code 109 = .ok (.iaload, 1) := by decide +kernel
theorem d12_110 : decode method_8_code 110 = .ok (.aload_n 1, 1) := by decide +kernel
theorem d12_111 : decode method_8_code 111 = .ok (.iconst 4, 1) := by decide +kernel
theorem d12_112 : decode method_8_code 112 = .ok (.iaload, 1) := by decide +kernel
theorem d12_113 : decode method_8_code 113 = .ok (.if_icmp .ge 7, 3) := by decide +kernel
theorem d12_116 : decode method_8_code 116 = .ok (.iconst 1, 1) := by decide +kernel
theorem d12_117 : decode method_8_code 117 = .ok (.goto 4, 3) := by decide +kernel
theorem d12_120 : decode method_8_code 120 = .ok (.iconst 0, 1) := by decide +kernel
theorem d12_121 : decode method_8_code 121 = .ok (.ireturn, 1) := by decide +kernel
theorem d12_122 : decode method_8_code 122 = .ok (.aload_n 1, 1) := by decide +kernel
theorem d12_123 : decode method_8_code 123 = .ok (.iload_n 3, 1) := by decide +kernel
theorem d12_124 : decode method_8_code 124 = .ok (.iaload, 1) := by decide +kernel
theorem d12_125 : decode method_8_code 125 = .ok (.iload 4, 2) := by decide +kernel
theorem d12_127 : decode method_8_code 127 = .ok (.if_icmp .ne 7, 3) := by decide +kernel
theorem d12_130 : decode method_8_code 130 = .ok (.iconst 1, 1) := by decide +kernel
theorem d12_131 : decode method_8_code 131 = .ok (.goto 4, 3) := by decide +kernel
theorem d12_134 : decode method_8_code 134 = .ok (.iconst 0, 1) := by decide +kernel
theorem d12_135 : decode method_8_code 135 = .ok (.ireturn, 1) := by decide +kernel
theorem ef_rm12 (m : MethodId) (a1 : Addr) (a2 : Addr) (p3 : Int32) (p4 : Int32) : entryFrame m #[(.ref a1), (.ref a2), (.int p3), (.int p4)] 9 = mkF m 0 #[.val (.ref a1), .val (.ref a2), .val (.int p3), .val (.int p4), .unset, .unset, .unset, .unset, .unset] [] := by first | (simp [entryFrame, mkF, argsToLocals, Value.category]; done) | rfl
set_option maxHeartbeats 40000000 in
theorem rm12 (l : Launch) (Z : State) (a0 : Array Value) (hw : ∀ d ∈ tables_1, d.before a0 Z = true) (ws : List Jvm.Cond) (a1 : Addr) (a2 : Addr) (p3 : Int32) (p4 : Int32) (h0 : Heap) (l1 : List Int32) (Al1 : AV Z h0 a1 .int l1) (l2 : List Int32) (Al2 : AV Z h0 a2 .int l2) (r : Int32) (hf : plcF l1 l2 p3 p4 = some r) :
    Met1 l Z (⟨"com/example/tracegauge/tracegauge/automata/PartitionSplitPinLaw", "placeOk", "([I[III)Z"⟩ : MethodName) method_8_code 9 (some .boolean) ws ({ frames := 2, cells := 0, slots := 0, locals := 28 } : Room) #[(.ref a1), (.ref a2), (.int p3), (.int p4)] h0 (QP (.int r) h0) := by
  refine metOf (by first | exact plainFor_of_name (by first | (simp [plainName, overriddenIn]; done) | decide +kernel) | decide +kernel) ?_
  intro p e s m below meth c s₁ hx hby hml hown hnm hret hlk hZ X0 e0
  have hown : s.vm.findClass "com/example/tracegauge/tracegauge/automata/PartitionSplitPinLaw" = some m.cls := hown
  obtain ⟨K, hK⟩ : ∃ K, K = KQ s (QP (.int r) h0) (({ frames := 2, cells := 0, slots := 0, locals := 28 } : Room)).cells (({ frames := 2, cells := 0, slots := 0, locals := 28 } : Room)).slots := ⟨_, rfl⟩
  show Go p e below (KQ s (QP (.int r) h0) (({ frames := 2, cells := 0, slots := 0, locals := 28 } : Room)).cells (({ frames := 2, cells := 0, slots := 0, locals := 28 } : Room)).slots) s₁ (entryFrame m #[(.ref a1), (.ref a2), (.int p3), (.int p4)] 9)
  rw [← hK, ef_rm12 m a1 a2 p3 p4]
  rw [plcF] at hf
  show Go p e below _ s₁ (mkF m 0 #[.val (.ref a1), .val (.ref a2), .val (.int p3), .val (.int p4), .unset, .unset, .unset, .unset, .unset] [])
  refine Go.to (fun _ => XS.aloadN X0.here hx rfl (hb hby d12_0) rfl rfl) ?_
  show Go p e below _ s₁ (mkF m 1 #[.val (.ref a1), .val (.ref a2), .val (.int p3), .val (.int p4), .unset, .unset, .unset, .unset, .unset] [(.ref a1)])
  refine Go.to (fun _ => XS.iloadN X0.here hx rfl (hb hby d12_1) rfl) ?_
  show Go p e below _ s₁ (mkF m 2 #[.val (.ref a1), .val (.ref a2), .val (.int p3), .val (.int p4), .unset, .unset, .unset, .unset, .unset] [(.int p4), (.ref a1)])
  obtain ⟨v1, hv1, hf⟩ := Option.bind_eq_some_iff.mp hf
  refine Go.iaload X0 hx hZ e0 Al1 hv1 (hb hby d12_2) ?_
  show Go p e below _ s₁ (mkF m 3 #[.val (.ref a1), .val (.ref a2), .val (.int p3), .val (.int p4), .unset, .unset, .unset, .unset, .unset] [(.int v1)])
  refine Go.to (fun _ => XS.istore X0.here hx rfl (hb hby d12_3) rfl (l' := #[.val (.ref a1), .val (.ref a2), .val (.int p3), .val (.int p4), .val (.int v1), .unset, .unset, .unset, .unset]) rfl) ?_
  show Go p e below _ s₁ (mkF m 5 #[.val (.ref a1), .val (.ref a2), .val (.int p3), .val (.int p4), .val (.int v1), .unset, .unset, .unset, .unset] [])
  refine Go.to (fun _ => XS.aloadN X0.here hx rfl (hb hby d12_5) rfl rfl) ?_
  show Go p e below _ s₁ (mkF m 6 #[.val (.ref a1), .val (.ref a2), .val (.int p3), .val (.int p4), .val (.int v1), .unset, .unset, .unset, .unset] [(.ref a1)])
  refine Go.to (fun _ => XS.iload X0.here hx rfl (hb hby d12_6) rfl) ?_
  show Go p e below _ s₁ (mkF m 8 #[.val (.ref a1), .val (.ref a2), .val (.int p3), .val (.int p4), .val (.int v1), .unset, .unset, .unset, .unset] [(.int v1), (.ref a1)])
  refine Go.to (fun _ => XS.bipush X0.here hx rfl (hb hby d12_8)) ?_
  show Go p e below _ s₁ (mkF m 10 #[.val (.ref a1), .val (.ref a2), .val (.int p3), .val (.int p4), .val (.int v1), .unset, .unset, .unset, .unset] [(.int (15 : Int32)), (.int v1), (.ref a1)])
  obtain ⟨k2, hk2, hf⟩ := Option.bind_eq_some_iff.mp hf
  refine Go.callS (y := (⟨"com/example/tracegauge/tracegauge/automata/PartitionSplitPinLaw", "count", "([III)I"⟩ : MethodName)) X0 hx hZ hown (hw _ (List.mem_of_getElem? (i := 61) rfl)) (hw _ (List.mem_of_getElem? (i := 62) rfl)) (hw _ (List.mem_of_getElem? (i := 28) rfl)) (hw _ (List.mem_of_getElem? (i := 63) rfl)) (by decide) (rm11 l Z a0 hw [] a1 v1 (15 : Int32) h0 l1 Al1 k2 hk2) e0 (by rw [hml]; rfl) (pd_8) rfl (argsL := [(.ref a1), (.int v1), (.int (15 : Int32))]) (rest := []) rfl rfl (hb hby d12_10) (by decide) (Nat.le_of_ble_eq_true rfl) (by decide) (by decide) ?_
  rintro T1 _ L1 X1 ⟨rfl, e1, rfl⟩
  simp only [List.append_nil] at X1
  show Go p e below _ T1 (mkF m 13 #[.val (.ref a1), .val (.ref a2), .val (.int p3), .val (.int p4), .val (.int v1), .unset, .unset, .unset, .unset] [(.int k2)])
  refine Go.to (fun _ => XS.istore X1.here hx rfl (hb hby d12_13) rfl (l' := #[.val (.ref a1), .val (.ref a2), .val (.int p3), .val (.int p4), .val (.int v1), .val (.int k2), .unset, .unset, .unset]) rfl) ?_
  show Go p e below _ T1 (mkF m 15 #[.val (.ref a1), .val (.ref a2), .val (.int p3), .val (.int p4), .val (.int v1), .val (.int k2), .unset, .unset, .unset] [])
  refine Go.to (fun _ => XS.aloadN X1.here hx rfl (hb hby d12_15) rfl rfl) ?_
  show Go p e below _ T1 (mkF m 16 #[.val (.ref a1), .val (.ref a2), .val (.int p3), .val (.int p4), .val (.int v1), .val (.int k2), .unset, .unset, .unset] [(.ref a1)])
  refine Go.to (fun _ => XS.iload X1.here hx rfl (hb hby d12_16) rfl) ?_
  show Go p e below _ T1 (mkF m 18 #[.val (.ref a1), .val (.ref a2), .val (.int p3), .val (.int p4), .val (.int v1), .val (.int k2), .unset, .unset, .unset] [(.int v1), (.ref a1)])
  refine Go.to (fun _ => XS.iloadN X1.here hx rfl (hb hby d12_18) rfl) ?_
  show Go p e below _ T1 (mkF m 19 #[.val (.ref a1), .val (.ref a2), .val (.int p3), .val (.int p4), .val (.int v1), .val (.int k2), .unset, .unset, .unset] [(.int p3), (.int v1), (.ref a1)])
  obtain ⟨k3, hk3, hf⟩ := Option.bind_eq_some_iff.mp hf
  refine Go.callS (y := (⟨"com/example/tracegauge/tracegauge/automata/PartitionSplitPinLaw", "count", "([III)I"⟩ : MethodName)) X1 hx hZ hown (hw _ (List.mem_of_getElem? (i := 61) rfl)) (hw _ (List.mem_of_getElem? (i := 62) rfl)) (hw _ (List.mem_of_getElem? (i := 28) rfl)) (hw _ (List.mem_of_getElem? (i := 63) rfl)) (by decide) (rm11 l Z a0 hw [] a1 v1 p3 h0 l1 Al1 k3 hk3) e1 (by rw [hml]; rfl) (pd_8) rfl (argsL := [(.ref a1), (.int v1), (.int p3)]) (rest := []) rfl rfl (hb hby d12_19) (by decide) (Nat.le_of_ble_eq_true rfl) (by decide) (by decide) ?_
  rintro T2 _ L2 X2 ⟨rfl, e2, rfl⟩
  simp only [List.append_nil] at X2
  show Go p e below _ T2 (mkF m 22 #[.val (.ref a1), .val (.ref a2), .val (.int p3), .val (.int p4), .val (.int v1), .val (.int k2), .unset, .unset, .unset] [(.int k3)])
  refine Go.to (fun _ => XS.istore X2.here hx rfl (hb hby d12_22) rfl (l' := #[.val (.ref a1), .val (.ref a2), .val (.int p3), .val (.int p4), .val (.int v1), .val (.int k2), .val (.int k3), .unset, .unset]) rfl) ?_
  show Go p e below _ T2 (mkF m 24 #[.val (.ref a1), .val (.ref a2), .val (.int p3), .val (.int p4), .val (.int v1), .val (.int k2), .val (.int k3), .unset, .unset] [])
  refine Go.to (fun _ => XS.iload X2.here hx rfl (hb hby d12_24) rfl) ?_
  show Go p e below _ T2 (mkF m 26 #[.val (.ref a1), .val (.ref a2), .val (.int p3), .val (.int p4), .val (.int v1), .val (.int k2), .val (.int k3), .unset, .unset] [(.int k3)])
  by_cases hc1 : k3 = (0 : Int32)
  · rw [if_pos hc1] at hf
    refine Go.to (fun _ => XS.ifYes X2.here hx rfl (pc0 := 26) (pc' := 36) rfl (hb hby d12_26) rfl ((if0 _ _).trans (teq hc1).1) (by decide) (by decide)) ?_
    show Go p e below _ T2 (mkF m 36 #[.val (.ref a1), .val (.ref a2), .val (.int p3), .val (.int p4), .val (.int v1), .val (.int k2), .val (.int k3), .unset, .unset] [])
    refine Go.to (fun _ => XS.aloadN X2.here hx rfl (hb hby d12_36) rfl rfl) ?_
    show Go p e below _ T2 (mkF m 37 #[.val (.ref a1), .val (.ref a2), .val (.int p3), .val (.int p4), .val (.int v1), .val (.int k2), .val (.int k3), .unset, .unset] [(.ref a2)])
    refine Go.to (fun _ => XS.iloadN X2.here hx rfl (hb hby d12_37) rfl) ?_
    show Go p e below _ T2 (mkF m 38 #[.val (.ref a1), .val (.ref a2), .val (.int p3), .val (.int p4), .val (.int v1), .val (.int k2), .val (.int k3), .unset, .unset] [(.int p4), (.ref a2)])
    obtain ⟨v4, hv4, hf⟩ := Option.bind_eq_some_iff.mp hf
    refine Go.iaload X2 hx hZ e2 Al2 hv4 (hb hby d12_38) ?_
    show Go p e below _ T2 (mkF m 39 #[.val (.ref a1), .val (.ref a2), .val (.int p3), .val (.int p4), .val (.int v1), .val (.int k2), .val (.int k3), .unset, .unset] [(.int v4)])
    refine Go.to (fun _ => XS.iload X2.here hx rfl (hb hby d12_39) rfl) ?_
    show Go p e below _ T2 (mkF m 41 #[.val (.ref a1), .val (.ref a2), .val (.int p3), .val (.int p4), .val (.int v1), .val (.int k2), .val (.int k3), .unset, .unset] [(.int v1), (.int v4)])
    by_cases hc2 : v4 = v1
    · rw [if_pos hc2] at hf
      refine Go.to (fun _ => XS.icmpNo X2.here hx rfl (hb hby d12_41) rfl (teq hc2).2) ?_
      show Go p e below _ T2 (mkF m 44 #[.val (.ref a1), .val (.ref a2), .val (.int p3), .val (.int p4), .val (.int v1), .val (.int k2), .val (.int k3), .unset, .unset] [])
      refine Go.to (fun _ => XS.iconst X2.here hx rfl (hb hby d12_44)) ?_
      show Go p e below _ T2 (mkF m 45 #[.val (.ref a1), .val (.ref a2), .val (.int p3), .val (.int p4), .val (.int v1), .val (.int k2), .val (.int k3), .unset, .unset] [(.int (1 : Int32))])
      refine Go.to (fun _ => XS.goto X2.here hx rfl (pc0 := 45) (pc' := 49) rfl (hb hby d12_45) (by decide) (by decide)) ?_
      show Go p e below _ T2 (mkF m 49 #[.val (.ref a1), .val (.ref a2), .val (.int p3), .val (.int p4), .val (.int v1), .val (.int k2), .val (.int k3), .unset, .unset] [(.int (1 : Int32))])
      have hr := Option.some.inj hf
      rw [hK]
      exact Go.retZ X2 hx hlk hret (by decide) (hb hby d12_49) ⟨by rw [← hr], e2, rfl⟩ (by decide) (by decide)
    · rw [if_neg hc2] at hf
      refine Go.to (fun _ => XS.icmpYes X2.here hx rfl (pc0 := 41) (pc' := 48) rfl (hb hby d12_41) rfl (feq hc2).2 (by decide) (by decide)) ?_
      show Go p e below _ T2 (mkF m 48 #[.val (.ref a1), .val (.ref a2), .val (.int p3), .val (.int p4), .val (.int v1), .val (.int k2), .val (.int k3), .unset, .unset] [])
      refine Go.to (fun _ => XS.iconst X2.here hx rfl (hb hby d12_48)) ?_
      show Go p e below _ T2 (mkF m 49 #[.val (.ref a1), .val (.ref a2), .val (.int p3), .val (.int p4), .val (.int v1), .val (.int k2), .val (.int k3), .unset, .unset] [(.int (0 : Int32))])
      have hr := Option.some.inj hf
      rw [hK]
      exact Go.retZ X2 hx hlk hret (by decide) (hb hby d12_49) ⟨by rw [← hr], e2, rfl⟩ (by decide) (by decide)
  · rw [if_neg hc1] at hf
    refine Go.to (fun _ => XS.ifNo X2.here hx rfl (hb hby d12_26) rfl ((if0 _ _).trans (feq hc1).1)) ?_
    show Go p e below _ T2 (mkF m 29 #[.val (.ref a1), .val (.ref a2), .val (.int p3), .val (.int p4), .val (.int v1), .val (.int k2), .val (.int k3), .unset, .unset] [])
    refine Go.to (fun _ => XS.iload X2.here hx rfl (hb hby d12_29) rfl) ?_
    show Go p e below _ T2 (mkF m 31 #[.val (.ref a1), .val (.ref a2), .val (.int p3), .val (.int p4), .val (.int v1), .val (.int k2), .val (.int k3), .unset, .unset] [(.int k3)])
    refine Go.to (fun _ => XS.iload X2.here hx rfl (hb hby d12_31) rfl) ?_
    show Go p e below _ T2 (mkF m 33 #[.val (.ref a1), .val (.ref a2), .val (.int p3), .val (.int p4), .val (.int v1), .val (.int k2), .val (.int k3), .unset, .unset] [(.int k2), (.int k3)])
    by_cases hc3 : k3 = k2
    · rw [if_pos hc3] at hf
      refine Go.to (fun _ => XS.icmpNo X2.here hx rfl (hb hby d12_33) rfl (teq hc3).2) ?_
      show Go p e below _ T2 (mkF m 36 #[.val (.ref a1), .val (.ref a2), .val (.int p3), .val (.int p4), .val (.int v1), .val (.int k2), .val (.int k3), .unset, .unset] [])
      refine Go.to (fun _ => XS.aloadN X2.here hx rfl (hb hby d12_36) rfl rfl) ?_
      show Go p e below _ T2 (mkF m 37 #[.val (.ref a1), .val (.ref a2), .val (.int p3), .val (.int p4), .val (.int v1), .val (.int k2), .val (.int k3), .unset, .unset] [(.ref a2)])
      refine Go.to (fun _ => XS.iloadN X2.here hx rfl (hb hby d12_37) rfl) ?_
      show Go p e below _ T2 (mkF m 38 #[.val (.ref a1), .val (.ref a2), .val (.int p3), .val (.int p4), .val (.int v1), .val (.int k2), .val (.int k3), .unset, .unset] [(.int p4), (.ref a2)])
      obtain ⟨v4, hv4, hf⟩ := Option.bind_eq_some_iff.mp hf
      refine Go.iaload X2 hx hZ e2 Al2 hv4 (hb hby d12_38) ?_
      show Go p e below _ T2 (mkF m 39 #[.val (.ref a1), .val (.ref a2), .val (.int p3), .val (.int p4), .val (.int v1), .val (.int k2), .val (.int k3), .unset, .unset] [(.int v4)])
      refine Go.to (fun _ => XS.iload X2.here hx rfl (hb hby d12_39) rfl) ?_
      show Go p e below _ T2 (mkF m 41 #[.val (.ref a1), .val (.ref a2), .val (.int p3), .val (.int p4), .val (.int v1), .val (.int k2), .val (.int k3), .unset, .unset] [(.int v1), (.int v4)])
      by_cases hc4 : v4 = v1
      · rw [if_pos hc4] at hf
        refine Go.to (fun _ => XS.icmpNo X2.here hx rfl (hb hby d12_41) rfl (teq hc4).2) ?_
        show Go p e below _ T2 (mkF m 44 #[.val (.ref a1), .val (.ref a2), .val (.int p3), .val (.int p4), .val (.int v1), .val (.int k2), .val (.int k3), .unset, .unset] [])
        refine Go.to (fun _ => XS.iconst X2.here hx rfl (hb hby d12_44)) ?_
        show Go p e below _ T2 (mkF m 45 #[.val (.ref a1), .val (.ref a2), .val (.int p3), .val (.int p4), .val (.int v1), .val (.int k2), .val (.int k3), .unset, .unset] [(.int (1 : Int32))])
        refine Go.to (fun _ => XS.goto X2.here hx rfl (pc0 := 45) (pc' := 49) rfl (hb hby d12_45) (by decide) (by decide)) ?_
        show Go p e below _ T2 (mkF m 49 #[.val (.ref a1), .val (.ref a2), .val (.int p3), .val (.int p4), .val (.int v1), .val (.int k2), .val (.int k3), .unset, .unset] [(.int (1 : Int32))])
        have hr := Option.some.inj hf
        rw [hK]
        exact Go.retZ X2 hx hlk hret (by decide) (hb hby d12_49) ⟨by rw [← hr], e2, rfl⟩ (by decide) (by decide)
      · rw [if_neg hc4] at hf
        refine Go.to (fun _ => XS.icmpYes X2.here hx rfl (pc0 := 41) (pc' := 48) rfl (hb hby d12_41) rfl (feq hc4).2 (by decide) (by decide)) ?_
        show Go p e below _ T2 (mkF m 48 #[.val (.ref a1), .val (.ref a2), .val (.int p3), .val (.int p4), .val (.int v1), .val (.int k2), .val (.int k3), .unset, .unset] [])
        refine Go.to (fun _ => XS.iconst X2.here hx rfl (hb hby d12_48)) ?_
        show Go p e below _ T2 (mkF m 49 #[.val (.ref a1), .val (.ref a2), .val (.int p3), .val (.int p4), .val (.int v1), .val (.int k2), .val (.int k3), .unset, .unset] [(.int (0 : Int32))])
        have hr := Option.some.inj hf
        rw [hK]
        exact Go.retZ X2 hx hlk hret (by decide) (hb hby d12_49) ⟨by rw [← hr], e2, rfl⟩ (by decide) (by decide)
    · rw [if_neg hc3] at hf
      refine Go.to (fun _ => XS.icmpYes X2.here hx rfl (pc0 := 33) (pc' := 50) rfl (hb hby d12_33) rfl (feq hc3).2 (by decide) (by decide)) ?_
      show Go p e below _ T2 (mkF m 50 #[.val (.ref a1), .val (.ref a2), .val (.int p3), .val (.int p4), .val (.int v1), .val (.int k2), .val (.int k3), .unset, .unset] [])
      refine Go.to (fun _ => XS.iload X2.here hx rfl (hb hby d12_50) rfl) ?_
      show Go p e below _ T2 (mkF m 52 #[.val (.ref a1), .val (.ref a2), .val (.int p3), .val (.int p4), .val (.int v1), .val (.int k2), .val (.int k3), .unset, .unset] [(.int k3)])
      refine Go.to (fun _ => XS.iload X2.here hx rfl (hb hby d12_52) rfl) ?_
      show Go p e below _ T2 (mkF m 54 #[.val (.ref a1), .val (.ref a2), .val (.int p3), .val (.int p4), .val (.int v1), .val (.int k2), .val (.int k3), .unset, .unset] [(.int k2), (.int k3)])
      refine Go.to (fun _ => XS.iload X2.here hx rfl (hb hby d12_54) rfl) ?_
      show Go p e below _ T2 (mkF m 56 #[.val (.ref a1), .val (.ref a2), .val (.int p3), .val (.int p4), .val (.int v1), .val (.int k2), .val (.int k3), .unset, .unset] [(.int k3), (.int k2), (.int k3)])
      refine Go.to (fun _ => XS.isub X2.here hx rfl (hb hby d12_56) rfl) ?_
      show Go p e below _ T2 (mkF m 57 #[.val (.ref a1), .val (.ref a2), .val (.int p3), .val (.int p4), .val (.int v1), .val (.int k2), .val (.int k3), .unset, .unset] [(.int (k2 - k3)), (.int k3)])
      have hj3 : (∀ mn : Int32, mn = (if (k2 - k3) < k3 then (0 : Int32) else (1 : Int32)) → Go p e below K T2 (mkF m 65 #[.val (.ref a1), .val (.ref a2), .val (.int p3), .val (.int p4), .val (.int v1), .val (.int k2), .val (.int k3), .unset, .unset] [(.int mn)])) → Go p e below K T2 (mkF m 57 #[.val (.ref a1), .val (.ref a2), .val (.int p3), .val (.int p4), .val (.int v1), .val (.int k2), .val (.int k3), .unset, .unset] [(.int (k2 - k3)), (.int k3)]) := by
        intro k
        by_cases hc5 : (k2 - k3) < k3
        · refine Go.to (fun _ => XS.icmpYes X2.here hx rfl (pc0 := 57) (pc' := 64) rfl (hb hby d12_57) rfl (tlt hc5).2.2.1 (by decide) (by decide)) ?_
          show Go p e below _ T2 (mkF m 64 #[.val (.ref a1), .val (.ref a2), .val (.int p3), .val (.int p4), .val (.int v1), .val (.int k2), .val (.int k3), .unset, .unset] [])
          refine Go.to (fun _ => XS.iconst X2.here hx rfl (hb hby d12_64)) ?_
          show Go p e below _ T2 (mkF m 65 #[.val (.ref a1), .val (.ref a2), .val (.int p3), .val (.int p4), .val (.int v1), .val (.int k2), .val (.int k3), .unset, .unset] [(.int (0 : Int32))])
          exact k (0 : Int32) (by rw [if_pos hc5])
        · refine Go.to (fun _ => XS.icmpNo X2.here hx rfl (hb hby d12_57) rfl (flt hc5).2.2.1) ?_
          show Go p e below _ T2 (mkF m 60 #[.val (.ref a1), .val (.ref a2), .val (.int p3), .val (.int p4), .val (.int v1), .val (.int k2), .val (.int k3), .unset, .unset] [])
          refine Go.to (fun _ => XS.iconst X2.here hx rfl (hb hby d12_60)) ?_
          show Go p e below _ T2 (mkF m 61 #[.val (.ref a1), .val (.ref a2), .val (.int p3), .val (.int p4), .val (.int v1), .val (.int k2), .val (.int k3), .unset, .unset] [(.int (1 : Int32))])
          refine Go.to (fun _ => XS.goto X2.here hx rfl (pc0 := 61) (pc' := 65) rfl (hb hby d12_61) (by decide) (by decide)) ?_
          show Go p e below _ T2 (mkF m 65 #[.val (.ref a1), .val (.ref a2), .val (.int p3), .val (.int p4), .val (.int v1), .val (.int k2), .val (.int k3), .unset, .unset] [(.int (1 : Int32))])
          exact k (1 : Int32) (by rw [if_neg hc5])
      refine hj3 (fun mn hmn => ?_)
      clear hj3
      obtain ⟨y4, hy4, hf⟩ := Option.bind_eq_some_iff.mp hf
      rw [(Option.some.inj hy4).symm.trans hmn.symm] at hf
      refine Go.to (fun _ => XS.istore X2.here hx rfl (hb hby d12_65) rfl (l' := #[.val (.ref a1), .val (.ref a2), .val (.int p3), .val (.int p4), .val (.int v1), .val (.int k2), .val (.int k3), .val (.int mn), .unset]) rfl) ?_
      show Go p e below _ T2 (mkF m 67 #[.val (.ref a1), .val (.ref a2), .val (.int p3), .val (.int p4), .val (.int v1), .val (.int k2), .val (.int k3), .val (.int mn), .unset] [])
      refine Go.to (fun _ => XS.iloadN X2.here hx rfl (hb hby d12_67) rfl) ?_
      show Go p e below _ T2 (mkF m 68 #[.val (.ref a1), .val (.ref a2), .val (.int p3), .val (.int p4), .val (.int v1), .val (.int k2), .val (.int k3), .val (.int mn), .unset] [(.int p3)])
      refine Go.to (fun _ => XS.iloadN X2.here hx rfl (hb hby d12_68) rfl) ?_
      show Go p e below _ T2 (mkF m 69 #[.val (.ref a1), .val (.ref a2), .val (.int p3), .val (.int p4), .val (.int v1), .val (.int k2), .val (.int k3), .val (.int mn), .unset] [(.int p4), (.int p3)])
      refine Go.callS (y := (⟨"com/example/tracegauge/tracegauge/automata/PartitionSplitPinLaw", "bit", "(II)I"⟩ : MethodName)) X2 hx hZ hown (hw _ (List.mem_of_getElem? (i := 30) rfl)) (hw _ (List.mem_of_getElem? (i := 31) rfl)) (hw _ (List.mem_of_getElem? (i := 28) rfl)) (hw _ (List.mem_of_getElem? (i := 32) rfl)) (by decide) (rm4 l Z a0 hw [] p3 p4 h0) e2 (by rw [hml]; rfl) (pd_4) rfl (argsL := [(.int p3), (.int p4)]) (rest := []) rfl rfl (hb hby d12_69) (by decide) (Nat.le_of_ble_eq_true rfl) (by decide) (by decide) ?_
      rintro T4 _ L4 X4 ⟨rfl, e4, rfl⟩
      simp only [List.append_nil] at X4
      show Go p e below _ T4 (mkF m 72 #[.val (.ref a1), .val (.ref a2), .val (.int p3), .val (.int p4), .val (.int v1), .val (.int k2), .val (.int k3), .val (.int mn), .unset] [(.int (fBit p3 p4))])
      refine Go.to (fun _ => XS.iconst X4.here hx rfl (hb hby d12_72)) ?_
      show Go p e below _ T4 (mkF m 73 #[.val (.ref a1), .val (.ref a2), .val (.int p3), .val (.int p4), .val (.int v1), .val (.int k2), .val (.int k3), .val (.int mn), .unset] [(.int (1 : Int32)), (.int (fBit p3 p4))])
      have hj5 : (∀ bt : Int32, bt = (if (fBit p3 p4) = (1 : Int32) then (1 : Int32) else (0 : Int32)) → Go p e below K T4 (mkF m 81 #[.val (.ref a1), .val (.ref a2), .val (.int p3), .val (.int p4), .val (.int v1), .val (.int k2), .val (.int k3), .val (.int mn), .unset] [(.int bt)])) → Go p e below K T4 (mkF m 73 #[.val (.ref a1), .val (.ref a2), .val (.int p3), .val (.int p4), .val (.int v1), .val (.int k2), .val (.int k3), .val (.int mn), .unset] [(.int (1 : Int32)), (.int (fBit p3 p4))]) := by
        intro k
        by_cases hc6 : (fBit p3 p4) = (1 : Int32)
        · refine Go.to (fun _ => XS.icmpNo X4.here hx rfl (hb hby d12_73) rfl (teq hc6).2) ?_
          show Go p e below _ T4 (mkF m 76 #[.val (.ref a1), .val (.ref a2), .val (.int p3), .val (.int p4), .val (.int v1), .val (.int k2), .val (.int k3), .val (.int mn), .unset] [])
          refine Go.to (fun _ => XS.iconst X4.here hx rfl (hb hby d12_76)) ?_
          show Go p e below _ T4 (mkF m 77 #[.val (.ref a1), .val (.ref a2), .val (.int p3), .val (.int p4), .val (.int v1), .val (.int k2), .val (.int k3), .val (.int mn), .unset] [(.int (1 : Int32))])
          refine Go.to (fun _ => XS.goto X4.here hx rfl (pc0 := 77) (pc' := 81) rfl (hb hby d12_77) (by decide) (by decide)) ?_
          show Go p e below _ T4 (mkF m 81 #[.val (.ref a1), .val (.ref a2), .val (.int p3), .val (.int p4), .val (.int v1), .val (.int k2), .val (.int k3), .val (.int mn), .unset] [(.int (1 : Int32))])
          exact k (1 : Int32) (by rw [if_pos hc6])
        · refine Go.to (fun _ => XS.icmpYes X4.here hx rfl (pc0 := 73) (pc' := 80) rfl (hb hby d12_73) rfl (feq hc6).2 (by decide) (by decide)) ?_
          show Go p e below _ T4 (mkF m 80 #[.val (.ref a1), .val (.ref a2), .val (.int p3), .val (.int p4), .val (.int v1), .val (.int k2), .val (.int k3), .val (.int mn), .unset] [])
          refine Go.to (fun _ => XS.iconst X4.here hx rfl (hb hby d12_80)) ?_
          show Go p e below _ T4 (mkF m 81 #[.val (.ref a1), .val (.ref a2), .val (.int p3), .val (.int p4), .val (.int v1), .val (.int k2), .val (.int k3), .val (.int mn), .unset] [(.int (0 : Int32))])
          exact k (0 : Int32) (by rw [if_neg hc6])
      refine hj5 (fun bt hbt => ?_)
      clear hj5
      obtain ⟨y5, hy5, hf⟩ := Option.bind_eq_some_iff.mp hf
      rw [(Option.some.inj hy5).symm.trans hbt.symm] at hf
      refine Go.to (fun _ => XS.iload X4.here hx rfl (hb hby d12_81) rfl) ?_
      show Go p e below _ T4 (mkF m 83 #[.val (.ref a1), .val (.ref a2), .val (.int p3), .val (.int p4), .val (.int v1), .val (.int k2), .val (.int k3), .val (.int mn), .unset] [(.int mn), (.int bt)])
      have hj6 : (∀ mv : Int32, mv = (if bt = mn then (1 : Int32) else (0 : Int32)) → Go p e below K T4 (mkF m 91 #[.val (.ref a1), .val (.ref a2), .val (.int p3), .val (.int p4), .val (.int v1), .val (.int k2), .val (.int k3), .val (.int mn), .unset] [(.int mv)])) → Go p e below K T4 (mkF m 83 #[.val (.ref a1), .val (.ref a2), .val (.int p3), .val (.int p4), .val (.int v1), .val (.int k2), .val (.int k3), .val (.int mn), .unset] [(.int mn), (.int bt)]) := by
        intro k
        by_cases hc7 : bt = mn
        · refine Go.to (fun _ => XS.icmpNo X4.here hx rfl (hb hby d12_83) rfl (teq hc7).2) ?_
          show Go p e below _ T4 (mkF m 86 #[.val (.ref a1), .val (.ref a2), .val (.int p3), .val (.int p4), .val (.int v1), .val (.int k2), .val (.int k3), .val (.int mn), .unset] [])
          refine Go.to (fun _ => XS.iconst X4.here hx rfl (hb hby d12_86)) ?_
          show Go p e below _ T4 (mkF m 87 #[.val (.ref a1), .val (.ref a2), .val (.int p3), .val (.int p4), .val (.int v1), .val (.int k2), .val (.int k3), .val (.int mn), .unset] [(.int (1 : Int32))])
          refine Go.to (fun _ => XS.goto X4.here hx rfl (pc0 := 87) (pc' := 91) rfl (hb hby d12_87) (by decide) (by decide)) ?_
          show Go p e below _ T4 (mkF m 91 #[.val (.ref a1), .val (.ref a2), .val (.int p3), .val (.int p4), .val (.int v1), .val (.int k2), .val (.int k3), .val (.int mn), .unset] [(.int (1 : Int32))])
          exact k (1 : Int32) (by rw [if_pos hc7])
        · refine Go.to (fun _ => XS.icmpYes X4.here hx rfl (pc0 := 83) (pc' := 90) rfl (hb hby d12_83) rfl (feq hc7).2 (by decide) (by decide)) ?_
          show Go p e below _ T4 (mkF m 90 #[.val (.ref a1), .val (.ref a2), .val (.int p3), .val (.int p4), .val (.int v1), .val (.int k2), .val (.int k3), .val (.int mn), .unset] [])
          refine Go.to (fun _ => XS.iconst X4.here hx rfl (hb hby d12_90)) ?_
          show Go p e below _ T4 (mkF m 91 #[.val (.ref a1), .val (.ref a2), .val (.int p3), .val (.int p4), .val (.int v1), .val (.int k2), .val (.int k3), .val (.int mn), .unset] [(.int (0 : Int32))])
          exact k (0 : Int32) (by rw [if_neg hc7])
      refine hj6 (fun mv hmv => ?_)
      clear hj6
      obtain ⟨y6, hy6, hf⟩ := Option.bind_eq_some_iff.mp hf
      rw [(Option.some.inj hy6).symm.trans hmv.symm] at hf
      refine Go.to (fun _ => XS.istore X4.here hx rfl (hb hby d12_91) rfl (l' := #[.val (.ref a1), .val (.ref a2), .val (.int p3), .val (.int p4), .val (.int v1), .val (.int k2), .val (.int k3), .val (.int mn), .val (.int mv)]) rfl) ?_
      show Go p e below _ T4 (mkF m 93 #[.val (.ref a1), .val (.ref a2), .val (.int p3), .val (.int p4), .val (.int v1), .val (.int k2), .val (.int k3), .val (.int mn), .val (.int mv)] [])
      refine Go.to (fun _ => XS.iload X4.here hx rfl (hb hby d12_93) rfl) ?_
      show Go p e below _ T4 (mkF m 95 #[.val (.ref a1), .val (.ref a2), .val (.int p3), .val (.int p4), .val (.int v1), .val (.int k2), .val (.int k3), .val (.int mn), .val (.int mv)] [(.int mv)])
      by_cases hc8 : mv = (0 : Int32)
      · rw [if_pos hc8] at hf
        refine Go.to (fun _ => XS.ifYes X4.here hx rfl (pc0 := 95) (pc' := 122) rfl (hb hby d12_95) rfl ((if0 _ _).trans (teq hc8).1) (by decide) (by decide)) ?_
        show Go p e below _ T4 (mkF m 122 #[.val (.ref a1), .val (.ref a2), .val (.int p3), .val (.int p4), .val (.int v1), .val (.int k2), .val (.int k3), .val (.int mn), .val (.int mv)] [])
        refine Go.to (fun _ => XS.aloadN X4.here hx rfl (hb hby d12_122) rfl rfl) ?_
        show Go p e below _ T4 (mkF m 123 #[.val (.ref a1), .val (.ref a2), .val (.int p3), .val (.int p4), .val (.int v1), .val (.int k2), .val (.int k3), .val (.int mn), .val (.int mv)] [(.ref a2)])
        refine Go.to (fun _ => XS.iloadN X4.here hx rfl (hb hby d12_123) rfl) ?_
        show Go p e below _ T4 (mkF m 124 #[.val (.ref a1), .val (.ref a2), .val (.int p3), .val (.int p4), .val (.int v1), .val (.int k2), .val (.int k3), .val (.int mn), .val (.int mv)] [(.int p4), (.ref a2)])
        obtain ⟨v7, hv7, hf⟩ := Option.bind_eq_some_iff.mp hf
        refine Go.iaload X4 hx hZ e4 Al2 hv7 (hb hby d12_124) ?_
        show Go p e below _ T4 (mkF m 125 #[.val (.ref a1), .val (.ref a2), .val (.int p3), .val (.int p4), .val (.int v1), .val (.int k2), .val (.int k3), .val (.int mn), .val (.int mv)] [(.int v7)])
        refine Go.to (fun _ => XS.iload X4.here hx rfl (hb hby d12_125) rfl) ?_
        show Go p e below _ T4 (mkF m 127 #[.val (.ref a1), .val (.ref a2), .val (.int p3), .val (.int p4), .val (.int v1), .val (.int k2), .val (.int k3), .val (.int mn), .val (.int mv)] [(.int v1), (.int v7)])
        by_cases hc9 : v7 = v1
        · rw [if_pos hc9] at hf
          refine Go.to (fun _ => XS.icmpNo X4.here hx rfl (hb hby d12_127) rfl (teq hc9).2) ?_
          show Go p e below _ T4 (mkF m 130 #[.val (.ref a1), .val (.ref a2), .val (.int p3), .val (.int p4), .val (.int v1), .val (.int k2), .val (.int k3), .val (.int mn), .val (.int mv)] [])
          refine Go.to (fun _ => XS.iconst X4.here hx rfl (hb hby d12_130)) ?_
          show Go p e below _ T4 (mkF m 131 #[.val (.ref a1), .val (.ref a2), .val (.int p3), .val (.int p4), .val (.int v1), .val (.int k2), .val (.int k3), .val (.int mn), .val (.int mv)] [(.int (1 : Int32))])
          refine Go.to (fun _ => XS.goto X4.here hx rfl (pc0 := 131) (pc' := 135) rfl (hb hby d12_131) (by decide) (by decide)) ?_
          show Go p e below _ T4 (mkF m 135 #[.val (.ref a1), .val (.ref a2), .val (.int p3), .val (.int p4), .val (.int v1), .val (.int k2), .val (.int k3), .val (.int mn), .val (.int mv)] [(.int (1 : Int32))])
          have hr := Option.some.inj hf
          rw [hK]
          exact Go.retZ X4 hx hlk hret (by decide) (hb hby d12_135) ⟨by rw [← hr], e4, rfl⟩ (by decide) (by decide)
        · rw [if_neg hc9] at hf
          refine Go.to (fun _ => XS.icmpYes X4.here hx rfl (pc0 := 127) (pc' := 134) rfl (hb hby d12_127) rfl (feq hc9).2 (by decide) (by decide)) ?_
          show Go p e below _ T4 (mkF m 134 #[.val (.ref a1), .val (.ref a2), .val (.int p3), .val (.int p4), .val (.int v1), .val (.int k2), .val (.int k3), .val (.int mn), .val (.int mv)] [])
          refine Go.to (fun _ => XS.iconst X4.here hx rfl (hb hby d12_134)) ?_
          show Go p e below _ T4 (mkF m 135 #[.val (.ref a1), .val (.ref a2), .val (.int p3), .val (.int p4), .val (.int v1), .val (.int k2), .val (.int k3), .val (.int mn), .val (.int mv)] [(.int (0 : Int32))])
          have hr := Option.some.inj hf
          rw [hK]
          exact Go.retZ X4 hx hlk hret (by decide) (hb hby d12_135) ⟨by rw [← hr], e4, rfl⟩ (by decide) (by decide)
      · rw [if_neg hc8] at hf
        refine Go.to (fun _ => XS.ifNo X4.here hx rfl (hb hby d12_95) rfl ((if0 _ _).trans (feq hc8).1)) ?_
        show Go p e below _ T4 (mkF m 98 #[.val (.ref a1), .val (.ref a2), .val (.int p3), .val (.int p4), .val (.int v1), .val (.int k2), .val (.int k3), .val (.int mn), .val (.int mv)] [])
        refine Go.to (fun _ => XS.aloadN X4.here hx rfl (hb hby d12_98) rfl rfl) ?_
        show Go p e below _ T4 (mkF m 99 #[.val (.ref a1), .val (.ref a2), .val (.int p3), .val (.int p4), .val (.int v1), .val (.int k2), .val (.int k3), .val (.int mn), .val (.int mv)] [(.ref a2)])
        refine Go.to (fun _ => XS.iloadN X4.here hx rfl (hb hby d12_99) rfl) ?_
        show Go p e below _ T4 (mkF m 100 #[.val (.ref a1), .val (.ref a2), .val (.int p3), .val (.int p4), .val (.int v1), .val (.int k2), .val (.int k3), .val (.int mn), .val (.int mv)] [(.int p4), (.ref a2)])
        obtain ⟨v7, hv7, hf⟩ := Option.bind_eq_some_iff.mp hf
        refine Go.iaload X4 hx hZ e4 Al2 hv7 (hb hby d12_100) ?_
        show Go p e below _ T4 (mkF m 101 #[.val (.ref a1), .val (.ref a2), .val (.int p3), .val (.int p4), .val (.int v1), .val (.int k2), .val (.int k3), .val (.int mn), .val (.int mv)] [(.int v7)])
        refine Go.to (fun _ => XS.aloadN X4.here hx rfl (hb hby d12_101) rfl rfl) ?_
        show Go p e below _ T4 (mkF m 102 #[.val (.ref a1), .val (.ref a2), .val (.int p3), .val (.int p4), .val (.int v1), .val (.int k2), .val (.int k3), .val (.int mn), .val (.int mv)] [(.ref a1), (.int v7)])
        refine Go.to (fun _ => XS.iconst X4.here hx rfl (hb hby d12_102)) ?_
        show Go p e below _ T4 (mkF m 103 #[.val (.ref a1), .val (.ref a2), .val (.int p3), .val (.int p4), .val (.int v1), .val (.int k2), .val (.int k3), .val (.int mn), .val (.int mv)] [(.int (4 : Int32)), (.ref a1), (.int v7)])
        obtain ⟨v8, hv8, hf⟩ := Option.bind_eq_some_iff.mp hf
        refine Go.iaload X4 hx hZ e4 Al1 hv8 (hb hby d12_103) ?_
        show Go p e below _ T4 (mkF m 104 #[.val (.ref a1), .val (.ref a2), .val (.int p3), .val (.int p4), .val (.int v1), .val (.int k2), .val (.int k3), .val (.int mn), .val (.int mv)] [(.int v8), (.int v7)])
        by_cases hc10 : v7 < v8
        · rw [if_pos hc10] at hf
          refine Go.to (fun _ => XS.icmpYes X4.here hx rfl (pc0 := 104) (pc' := 120) rfl (hb hby d12_104) rfl (tlt hc10).1 (by decide) (by decide)) ?_
          show Go p e below _ T4 (mkF m 120 #[.val (.ref a1), .val (.ref a2), .val (.int p3), .val (.int p4), .val (.int v1), .val (.int k2), .val (.int k3), .val (.int mn), .val (.int mv)] [])
          refine Go.to (fun _ => XS.iconst X4.here hx rfl (hb hby d12_120)) ?_
          show Go p e below _ T4 (mkF m 121 #[.val (.ref a1), .val (.ref a2), .val (.int p3), .val (.int p4), .val (.int v1), .val (.int k2), .val (.int k3), .val (.int mn), .val (.int mv)] [(.int (0 : Int32))])
          have hr := Option.some.inj hf
          rw [hK]
          exact Go.retZ X4 hx hlk hret (by decide) (hb hby d12_121) ⟨by rw [← hr], e4, rfl⟩ (by decide) (by decide)
        · rw [if_neg hc10] at hf
          refine Go.to (fun _ => XS.icmpNo X4.here hx rfl (hb hby d12_104) rfl (flt hc10).1) ?_
          show Go p e below _ T4 (mkF m 107 #[.val (.ref a1), .val (.ref a2), .val (.int p3), .val (.int p4), .val (.int v1), .val (.int k2), .val (.int k3), .val (.int mn), .val (.int mv)] [])
          refine Go.to (fun _ => XS.aloadN X4.here hx rfl (hb hby d12_107) rfl rfl) ?_
          show Go p e below _ T4 (mkF m 108 #[.val (.ref a1), .val (.ref a2), .val (.int p3), .val (.int p4), .val (.int v1), .val (.int k2), .val (.int k3), .val (.int mn), .val (.int mv)] [(.ref a2)])
          refine Go.to (fun _ => XS.iloadN X4.here hx rfl (hb hby d12_108) rfl) ?_
          show Go p e below _ T4 (mkF m 109 #[.val (.ref a1), .val (.ref a2), .val (.int p3), .val (.int p4), .val (.int v1), .val (.int k2), .val (.int k3), .val (.int mn), .val (.int mv)] [(.int p4), (.ref a2)])
          refine Go.iaload X4 hx hZ e4 Al2 hv7 (hb hby d12_109) ?_
          show Go p e below _ T4 (mkF m 110 #[.val (.ref a1), .val (.ref a2), .val (.int p3), .val (.int p4), .val (.int v1), .val (.int k2), .val (.int k3), .val (.int mn), .val (.int mv)] [(.int v7)])
          refine Go.to (fun _ => XS.aloadN X4.here hx rfl (hb hby d12_110) rfl rfl) ?_
          show Go p e below _ T4 (mkF m 111 #[.val (.ref a1), .val (.ref a2), .val (.int p3), .val (.int p4), .val (.int v1), .val (.int k2), .val (.int k3), .val (.int mn), .val (.int mv)] [(.ref a2), (.int v7)])
          refine Go.to (fun _ => XS.iconst X4.here hx rfl (hb hby d12_111)) ?_
          show Go p e below _ T4 (mkF m 112 #[.val (.ref a1), .val (.ref a2), .val (.int p3), .val (.int p4), .val (.int v1), .val (.int k2), .val (.int k3), .val (.int mn), .val (.int mv)] [(.int (4 : Int32)), (.ref a2), (.int v7)])
          obtain ⟨v9, hv9, hf⟩ := Option.bind_eq_some_iff.mp hf
          refine Go.iaload X4 hx hZ e4 Al2 hv9 (hb hby d12_112) ?_
          show Go p e below _ T4 (mkF m 113 #[.val (.ref a1), .val (.ref a2), .val (.int p3), .val (.int p4), .val (.int v1), .val (.int k2), .val (.int k3), .val (.int mn), .val (.int mv)] [(.int v9), (.int v7)])
          by_cases hc11 : v7 < v9
          · rw [if_pos hc11] at hf
            refine Go.to (fun _ => XS.icmpNo X4.here hx rfl (hb hby d12_113) rfl (tlt hc11).2.1) ?_
            show Go p e below _ T4 (mkF m 116 #[.val (.ref a1), .val (.ref a2), .val (.int p3), .val (.int p4), .val (.int v1), .val (.int k2), .val (.int k3), .val (.int mn), .val (.int mv)] [])
            refine Go.to (fun _ => XS.iconst X4.here hx rfl (hb hby d12_116)) ?_
            show Go p e below _ T4 (mkF m 117 #[.val (.ref a1), .val (.ref a2), .val (.int p3), .val (.int p4), .val (.int v1), .val (.int k2), .val (.int k3), .val (.int mn), .val (.int mv)] [(.int (1 : Int32))])
            refine Go.to (fun _ => XS.goto X4.here hx rfl (pc0 := 117) (pc' := 121) rfl (hb hby d12_117) (by decide) (by decide)) ?_
            show Go p e below _ T4 (mkF m 121 #[.val (.ref a1), .val (.ref a2), .val (.int p3), .val (.int p4), .val (.int v1), .val (.int k2), .val (.int k3), .val (.int mn), .val (.int mv)] [(.int (1 : Int32))])
            have hr := Option.some.inj hf
            rw [hK]
            exact Go.retZ X4 hx hlk hret (by decide) (hb hby d12_121) ⟨by rw [← hr], e4, rfl⟩ (by decide) (by decide)
          · rw [if_neg hc11] at hf
            refine Go.to (fun _ => XS.icmpYes X4.here hx rfl (pc0 := 113) (pc' := 120) rfl (hb hby d12_113) rfl (flt hc11).2.1 (by decide) (by decide)) ?_
            show Go p e below _ T4 (mkF m 120 #[.val (.ref a1), .val (.ref a2), .val (.int p3), .val (.int p4), .val (.int v1), .val (.int k2), .val (.int k3), .val (.int mn), .val (.int mv)] [])
            refine Go.to (fun _ => XS.iconst X4.here hx rfl (hb hby d12_120)) ?_
            show Go p e below _ T4 (mkF m 121 #[.val (.ref a1), .val (.ref a2), .val (.int p3), .val (.int p4), .val (.int v1), .val (.int k2), .val (.int k3), .val (.int mn), .val (.int mv)] [(.int (0 : Int32))])
            have hr := Option.some.inj hf
            rw [hK]
            exact Go.retZ X4 hx hlk hret (by decide) (hb hby d12_121) ⟨by rw [← hr], e4, rfl⟩ (by decide) (by decide)
def samF (l1 : List Int32) (p2 : Int32) (p3 : Int32) (p4 : Int32) (p5 : Int32) : Option Int32 := ((some (if (fBit p2 p4) = (fBit p2 p5) then (if (fBit p3 p4) = (fBit p3 p5) then (1 : Int32) else (0 : Int32)) else (0 : Int32))).bind fun sm => ((rdL l1 p4).bind fun v2 => ((rdL l1 p5).bind fun v3 => ((some (if v2 = v3 then (1 : Int32) else (0 : Int32))).bind fun eq => ((some (if eq = sm then (1 : Int32) else (0 : Int32))).bind fun rs => some rs)))))
theorem d13_0 : decode method_9_code 0 = .ok (.iload_n 1, 1) := by decide +kernel
theorem d13_1 : decode method_9_code 1 = .ok (.iload_n 3, 1) := by decide +kernel
theorem d13_2 : decode method_9_code 2 = .ok (.invokestatic 7, 3) := by decide +kernel
theorem d13_5 : decode method_9_code 5 = .ok (.iload_n 1, 1) := by decide +kernel
theorem d13_6 : decode method_9_code 6 = .ok (.iload 4, 2) := by decide +kernel
theorem d13_8 : decode method_9_code 8 = .ok (.invokestatic 7, 3) := by decide +kernel
theorem d13_11 : decode method_9_code 11 = .ok (.if_icmp .ne 21, 3) := by decide +kernel
theorem d13_14 : decode method_9_code 14 = .ok (.iload_n 2, 1) := by decide +kernel
theorem d13_15 : decode method_9_code 15 = .ok (.iload_n 3, 1) := by decide +kernel
theorem d13_16 : decode method_9_code 16 = .ok (.invokestatic 7, 3) := by decide +kernel
theorem d13_19 : decode method_9_code 19 = .ok (.iload_n 2, 1) := by decide +kernel
theorem d13_20 : decode method_9_code 20 = .ok (.iload 4, 2) := by decide +kernel
theorem d13_22 : decode method_9_code 22 = .ok (.invokestatic 7, 3) := by decide +kernel
theorem d13_25 : decode method_9_code 25 = .ok (.if_icmp .ne 7, 3) := by decide +kernel
theorem d13_28 : decode method_9_code 28 = .ok (.iconst 1, 1) := by decide +kernel
theorem d13_29 : decode method_9_code 29 = .ok (.goto 4, 3) := by decide +kernel
theorem d13_32 : decode method_9_code 32 = .ok (.iconst 0, 1) := by decide +kernel
theorem d13_33 : decode method_9_code 33 = .ok (.istore 5, 2) := by decide +kernel
theorem d13_35 : decode method_9_code 35 = .ok (.aload_n 0, 1) := by decide +kernel
theorem d13_36 : decode method_9_code 36 = .ok (.iload_n 3, 1) := by decide +kernel
theorem d13_37 : decode method_9_code 37 = .ok (.iaload, 1) := by decide +kernel
theorem d13_38 : decode method_9_code 38 = .ok (.aload_n 0, 1) := by decide +kernel
theorem d13_39 : decode method_9_code 39 = .ok (.iload 4, 2) := by decide +kernel
theorem d13_41 : decode method_9_code 41 = .ok (.iaload, 1) := by decide +kernel
theorem d13_42 : decode method_9_code 42 = .ok (.if_icmp .ne 7, 3) := by decide +kernel
theorem d13_45 : decode method_9_code 45 = .ok (.iconst 1, 1) := by decide +kernel
theorem d13_46 : decode method_9_code 46 = .ok (.goto 4, 3) := by decide +kernel
theorem d13_49 : decode method_9_code 49 = .ok (.iconst 0, 1) := by decide +kernel
theorem d13_50 : decode method_9_code 50 = .ok (.iload 5, 2) := by decide +kernel
theorem d13_52 : decode method_9_code 52 = .ok (.if_icmp .ne 7, 3) := by decide +kernel
theorem d13_55 : decode method_9_code 55 = .ok (.iconst 1, 1) := by decide +kernel
theorem d13_56 : decode method_9_code 56 = .ok (.goto 4, 3) := by decide +kernel
theorem d13_59 : decode method_9_code 59 = .ok (.iconst 0, 1) := by decide +kernel
theorem d13_60 : decode method_9_code 60 = .ok (.ireturn, 1) := by decide +kernel
theorem ef_rm13 (m : MethodId) (a1 : Addr) (p2 : Int32) (p3 : Int32) (p4 : Int32) (p5 : Int32) : entryFrame m #[(.ref a1), (.int p2), (.int p3), (.int p4), (.int p5)] 6 = mkF m 0 #[.val (.ref a1), .val (.int p2), .val (.int p3), .val (.int p4), .val (.int p5), .unset] [] := by first | (simp [entryFrame, mkF, argsToLocals, Value.category]; done) | rfl
set_option maxHeartbeats 40000000 in
theorem rm13 (l : Launch) (Z : State) (a0 : Array Value) (hw : ∀ d ∈ tables_1, d.before a0 Z = true) (ws : List Jvm.Cond) (a1 : Addr) (p2 : Int32) (p3 : Int32) (p4 : Int32) (p5 : Int32) (h0 : Heap) (l1 : List Int32) (Al1 : AV Z h0 a1 .int l1) (r : Int32) (hf : samF l1 p2 p3 p4 p5 = some r) :
    Met1 l Z (⟨"com/example/tracegauge/tracegauge/automata/PartitionSplitPinLaw", "sameOk", "([IIIII)Z"⟩ : MethodName) method_9_code 6 (some .boolean) ws ({ frames := 1, cells := 0, slots := 0, locals := 14 } : Room) #[(.ref a1), (.int p2), (.int p3), (.int p4), (.int p5)] h0 (QP (.int r) h0) := by
  refine metOf (by first | exact plainFor_of_name (by first | (simp [plainName, overriddenIn]; done) | decide +kernel) | decide +kernel) ?_
  intro p e s m below meth c s₁ hx hby hml hown hnm hret hlk hZ X0 e0
  have hown : s.vm.findClass "com/example/tracegauge/tracegauge/automata/PartitionSplitPinLaw" = some m.cls := hown
  obtain ⟨K, hK⟩ : ∃ K, K = KQ s (QP (.int r) h0) (({ frames := 1, cells := 0, slots := 0, locals := 14 } : Room)).cells (({ frames := 1, cells := 0, slots := 0, locals := 14 } : Room)).slots := ⟨_, rfl⟩
  show Go p e below (KQ s (QP (.int r) h0) (({ frames := 1, cells := 0, slots := 0, locals := 14 } : Room)).cells (({ frames := 1, cells := 0, slots := 0, locals := 14 } : Room)).slots) s₁ (entryFrame m #[(.ref a1), (.int p2), (.int p3), (.int p4), (.int p5)] 6)
  rw [← hK, ef_rm13 m a1 p2 p3 p4 p5]
  rw [samF] at hf
  show Go p e below _ s₁ (mkF m 0 #[.val (.ref a1), .val (.int p2), .val (.int p3), .val (.int p4), .val (.int p5), .unset] [])
  refine Go.to (fun _ => XS.iloadN X0.here hx rfl (hb hby d13_0) rfl) ?_
  show Go p e below _ s₁ (mkF m 1 #[.val (.ref a1), .val (.int p2), .val (.int p3), .val (.int p4), .val (.int p5), .unset] [(.int p2)])
  refine Go.to (fun _ => XS.iloadN X0.here hx rfl (hb hby d13_1) rfl) ?_
  show Go p e below _ s₁ (mkF m 2 #[.val (.ref a1), .val (.int p2), .val (.int p3), .val (.int p4), .val (.int p5), .unset] [(.int p4), (.int p2)])
  refine Go.callS (y := (⟨"com/example/tracegauge/tracegauge/automata/PartitionSplitPinLaw", "bit", "(II)I"⟩ : MethodName)) X0 hx hZ hown (hw _ (List.mem_of_getElem? (i := 30) rfl)) (hw _ (List.mem_of_getElem? (i := 31) rfl)) (hw _ (List.mem_of_getElem? (i := 28) rfl)) (hw _ (List.mem_of_getElem? (i := 32) rfl)) (by decide) (rm4 l Z a0 hw [] p2 p4 h0) e0 (by rw [hml]; rfl) (pd_4) rfl (argsL := [(.int p2), (.int p4)]) (rest := []) rfl rfl (hb hby d13_2) (by decide) (Nat.le_of_ble_eq_true rfl) (by decide) (by decide) ?_
  rintro T1 _ L1 X1 ⟨rfl, e1, rfl⟩
  simp only [List.append_nil] at X1
  show Go p e below _ T1 (mkF m 5 #[.val (.ref a1), .val (.int p2), .val (.int p3), .val (.int p4), .val (.int p5), .unset] [(.int (fBit p2 p4))])
  refine Go.to (fun _ => XS.iloadN X1.here hx rfl (hb hby d13_5) rfl) ?_
  show Go p e below _ T1 (mkF m 6 #[.val (.ref a1), .val (.int p2), .val (.int p3), .val (.int p4), .val (.int p5), .unset] [(.int p2), (.int (fBit p2 p4))])
  refine Go.to (fun _ => XS.iload X1.here hx rfl (hb hby d13_6) rfl) ?_
  show Go p e below _ T1 (mkF m 8 #[.val (.ref a1), .val (.int p2), .val (.int p3), .val (.int p4), .val (.int p5), .unset] [(.int p5), (.int p2), (.int (fBit p2 p4))])
  refine Go.callS (y := (⟨"com/example/tracegauge/tracegauge/automata/PartitionSplitPinLaw", "bit", "(II)I"⟩ : MethodName)) X1 hx hZ hown (hw _ (List.mem_of_getElem? (i := 30) rfl)) (hw _ (List.mem_of_getElem? (i := 31) rfl)) (hw _ (List.mem_of_getElem? (i := 28) rfl)) (hw _ (List.mem_of_getElem? (i := 32) rfl)) (by decide) (rm4 l Z a0 hw [] p2 p5 h0) e1 (by rw [hml]; rfl) (pd_4) rfl (argsL := [(.int p2), (.int p5)]) (rest := [(.int (fBit p2 p4))]) rfl rfl (hb hby d13_8) (by decide) (Nat.le_of_ble_eq_true rfl) (by decide) (by decide) ?_
  rintro T2 _ L2 X2 ⟨rfl, e2, rfl⟩
  simp only [List.append_nil] at X2
  show Go p e below _ T2 (mkF m 11 #[.val (.ref a1), .val (.int p2), .val (.int p3), .val (.int p4), .val (.int p5), .unset] [(.int (fBit p2 p5)), (.int (fBit p2 p4))])
  have hj3 : (∀ (T3 : State), Stand p l e ({ frames := 1, cells := 0, slots := 0, locals := 14 } : Room) s m #[(.ref a1), (.int p2), (.int p3), (.int p4), (.int p5)] below meth c T3 [] 0 0 → T3.heap = h0 → ∀ sm : Int32, sm = (if (fBit p2 p4) = (fBit p2 p5) then (if (fBit p3 p4) = (fBit p3 p5) then (1 : Int32) else (0 : Int32)) else (0 : Int32)) → Go p e below K T3 (mkF m 33 #[.val (.ref a1), .val (.int p2), .val (.int p3), .val (.int p4), .val (.int p5), .unset] [(.int sm)])) → Go p e below K T2 (mkF m 11 #[.val (.ref a1), .val (.int p2), .val (.int p3), .val (.int p4), .val (.int p5), .unset] [(.int (fBit p2 p5)), (.int (fBit p2 p4))]) := by
    intro k
    by_cases hc1 : (fBit p2 p4) = (fBit p2 p5)
    · refine Go.to (fun _ => XS.icmpNo X2.here hx rfl (hb hby d13_11) rfl (teq hc1).2) ?_
      show Go p e below _ T2 (mkF m 14 #[.val (.ref a1), .val (.int p2), .val (.int p3), .val (.int p4), .val (.int p5), .unset] [])
      refine Go.to (fun _ => XS.iloadN X2.here hx rfl (hb hby d13_14) rfl) ?_
      show Go p e below _ T2 (mkF m 15 #[.val (.ref a1), .val (.int p2), .val (.int p3), .val (.int p4), .val (.int p5), .unset] [(.int p3)])
      refine Go.to (fun _ => XS.iloadN X2.here hx rfl (hb hby d13_15) rfl) ?_
      show Go p e below _ T2 (mkF m 16 #[.val (.ref a1), .val (.int p2), .val (.int p3), .val (.int p4), .val (.int p5), .unset] [(.int p4), (.int p3)])
      refine Go.callS (y := (⟨"com/example/tracegauge/tracegauge/automata/PartitionSplitPinLaw", "bit", "(II)I"⟩ : MethodName)) X2 hx hZ hown (hw _ (List.mem_of_getElem? (i := 30) rfl)) (hw _ (List.mem_of_getElem? (i := 31) rfl)) (hw _ (List.mem_of_getElem? (i := 28) rfl)) (hw _ (List.mem_of_getElem? (i := 32) rfl)) (by decide) (rm4 l Z a0 hw [] p3 p4 h0) e2 (by rw [hml]; rfl) (pd_4) rfl (argsL := [(.int p3), (.int p4)]) (rest := []) rfl rfl (hb hby d13_16) (by decide) (Nat.le_of_ble_eq_true rfl) (by decide) (by decide) ?_
      rintro T4 _ L4 X4 ⟨rfl, e4, rfl⟩
      simp only [List.append_nil] at X4
      show Go p e below _ T4 (mkF m 19 #[.val (.ref a1), .val (.int p2), .val (.int p3), .val (.int p4), .val (.int p5), .unset] [(.int (fBit p3 p4))])
      refine Go.to (fun _ => XS.iloadN X4.here hx rfl (hb hby d13_19) rfl) ?_
      show Go p e below _ T4 (mkF m 20 #[.val (.ref a1), .val (.int p2), .val (.int p3), .val (.int p4), .val (.int p5), .unset] [(.int p3), (.int (fBit p3 p4))])
      refine Go.to (fun _ => XS.iload X4.here hx rfl (hb hby d13_20) rfl) ?_
      show Go p e below _ T4 (mkF m 22 #[.val (.ref a1), .val (.int p2), .val (.int p3), .val (.int p4), .val (.int p5), .unset] [(.int p5), (.int p3), (.int (fBit p3 p4))])
      refine Go.callS (y := (⟨"com/example/tracegauge/tracegauge/automata/PartitionSplitPinLaw", "bit", "(II)I"⟩ : MethodName)) X4 hx hZ hown (hw _ (List.mem_of_getElem? (i := 30) rfl)) (hw _ (List.mem_of_getElem? (i := 31) rfl)) (hw _ (List.mem_of_getElem? (i := 28) rfl)) (hw _ (List.mem_of_getElem? (i := 32) rfl)) (by decide) (rm4 l Z a0 hw [] p3 p5 h0) e4 (by rw [hml]; rfl) (pd_4) rfl (argsL := [(.int p3), (.int p5)]) (rest := [(.int (fBit p3 p4))]) rfl rfl (hb hby d13_22) (by decide) (Nat.le_of_ble_eq_true rfl) (by decide) (by decide) ?_
      rintro T5 _ L5 X5 ⟨rfl, e5, rfl⟩
      simp only [List.append_nil] at X5
      show Go p e below _ T5 (mkF m 25 #[.val (.ref a1), .val (.int p2), .val (.int p3), .val (.int p4), .val (.int p5), .unset] [(.int (fBit p3 p5)), (.int (fBit p3 p4))])
      by_cases hc2 : (fBit p3 p4) = (fBit p3 p5)
      · refine Go.to (fun _ => XS.icmpNo X5.here hx rfl (hb hby d13_25) rfl (teq hc2).2) ?_
        show Go p e below _ T5 (mkF m 28 #[.val (.ref a1), .val (.int p2), .val (.int p3), .val (.int p4), .val (.int p5), .unset] [])
        refine Go.to (fun _ => XS.iconst X5.here hx rfl (hb hby d13_28)) ?_
        show Go p e below _ T5 (mkF m 29 #[.val (.ref a1), .val (.int p2), .val (.int p3), .val (.int p4), .val (.int p5), .unset] [(.int (1 : Int32))])
        refine Go.to (fun _ => XS.goto X5.here hx rfl (pc0 := 29) (pc' := 33) rfl (hb hby d13_29) (by decide) (by decide)) ?_
        show Go p e below _ T5 (mkF m 33 #[.val (.ref a1), .val (.int p2), .val (.int p3), .val (.int p4), .val (.int p5), .unset] [(.int (1 : Int32))])
        exact k _ X5 e5 (1 : Int32) (by rw [if_pos hc1, if_pos hc2])
      · refine Go.to (fun _ => XS.icmpYes X5.here hx rfl (pc0 := 25) (pc' := 32) rfl (hb hby d13_25) rfl (feq hc2).2 (by decide) (by decide)) ?_
        show Go p e below _ T5 (mkF m 32 #[.val (.ref a1), .val (.int p2), .val (.int p3), .val (.int p4), .val (.int p5), .unset] [])
        refine Go.to (fun _ => XS.iconst X5.here hx rfl (hb hby d13_32)) ?_
        show Go p e below _ T5 (mkF m 33 #[.val (.ref a1), .val (.int p2), .val (.int p3), .val (.int p4), .val (.int p5), .unset] [(.int (0 : Int32))])
        exact k _ X5 e5 (0 : Int32) (by rw [if_pos hc1, if_neg hc2])
    · refine Go.to (fun _ => XS.icmpYes X2.here hx rfl (pc0 := 11) (pc' := 32) rfl (hb hby d13_11) rfl (feq hc1).2 (by decide) (by decide)) ?_
      show Go p e below _ T2 (mkF m 32 #[.val (.ref a1), .val (.int p2), .val (.int p3), .val (.int p4), .val (.int p5), .unset] [])
      refine Go.to (fun _ => XS.iconst X2.here hx rfl (hb hby d13_32)) ?_
      show Go p e below _ T2 (mkF m 33 #[.val (.ref a1), .val (.int p2), .val (.int p3), .val (.int p4), .val (.int p5), .unset] [(.int (0 : Int32))])
      exact k _ X2 e2 (0 : Int32) (by rw [if_neg hc1])
  refine hj3 (fun T3 X3 e3 sm hsm => ?_)
  clear hj3
  obtain ⟨y1, hy1, hf⟩ := Option.bind_eq_some_iff.mp hf
  rw [(Option.some.inj hy1).symm.trans hsm.symm] at hf
  refine Go.to (fun _ => XS.istore X3.here hx rfl (hb hby d13_33) rfl (l' := #[.val (.ref a1), .val (.int p2), .val (.int p3), .val (.int p4), .val (.int p5), .val (.int sm)]) rfl) ?_
  show Go p e below _ T3 (mkF m 35 #[.val (.ref a1), .val (.int p2), .val (.int p3), .val (.int p4), .val (.int p5), .val (.int sm)] [])
  refine Go.to (fun _ => XS.aloadN X3.here hx rfl (hb hby d13_35) rfl rfl) ?_
  show Go p e below _ T3 (mkF m 36 #[.val (.ref a1), .val (.int p2), .val (.int p3), .val (.int p4), .val (.int p5), .val (.int sm)] [(.ref a1)])
  refine Go.to (fun _ => XS.iloadN X3.here hx rfl (hb hby d13_36) rfl) ?_
  show Go p e below _ T3 (mkF m 37 #[.val (.ref a1), .val (.int p2), .val (.int p3), .val (.int p4), .val (.int p5), .val (.int sm)] [(.int p4), (.ref a1)])
  obtain ⟨v2, hv2, hf⟩ := Option.bind_eq_some_iff.mp hf
  refine Go.iaload X3 hx hZ e3 Al1 hv2 (hb hby d13_37) ?_
  show Go p e below _ T3 (mkF m 38 #[.val (.ref a1), .val (.int p2), .val (.int p3), .val (.int p4), .val (.int p5), .val (.int sm)] [(.int v2)])
  refine Go.to (fun _ => XS.aloadN X3.here hx rfl (hb hby d13_38) rfl rfl) ?_
  show Go p e below _ T3 (mkF m 39 #[.val (.ref a1), .val (.int p2), .val (.int p3), .val (.int p4), .val (.int p5), .val (.int sm)] [(.ref a1), (.int v2)])
  refine Go.to (fun _ => XS.iload X3.here hx rfl (hb hby d13_39) rfl) ?_
  show Go p e below _ T3 (mkF m 41 #[.val (.ref a1), .val (.int p2), .val (.int p3), .val (.int p4), .val (.int p5), .val (.int sm)] [(.int p5), (.ref a1), (.int v2)])
  obtain ⟨v3, hv3, hf⟩ := Option.bind_eq_some_iff.mp hf
  refine Go.iaload X3 hx hZ e3 Al1 hv3 (hb hby d13_41) ?_
  show Go p e below _ T3 (mkF m 42 #[.val (.ref a1), .val (.int p2), .val (.int p3), .val (.int p4), .val (.int p5), .val (.int sm)] [(.int v3), (.int v2)])
  have hj6 : (∀ eq : Int32, eq = (if v2 = v3 then (1 : Int32) else (0 : Int32)) → Go p e below K T3 (mkF m 50 #[.val (.ref a1), .val (.int p2), .val (.int p3), .val (.int p4), .val (.int p5), .val (.int sm)] [(.int eq)])) → Go p e below K T3 (mkF m 42 #[.val (.ref a1), .val (.int p2), .val (.int p3), .val (.int p4), .val (.int p5), .val (.int sm)] [(.int v3), (.int v2)]) := by
    intro k
    by_cases hc3 : v2 = v3
    · refine Go.to (fun _ => XS.icmpNo X3.here hx rfl (hb hby d13_42) rfl (teq hc3).2) ?_
      show Go p e below _ T3 (mkF m 45 #[.val (.ref a1), .val (.int p2), .val (.int p3), .val (.int p4), .val (.int p5), .val (.int sm)] [])
      refine Go.to (fun _ => XS.iconst X3.here hx rfl (hb hby d13_45)) ?_
      show Go p e below _ T3 (mkF m 46 #[.val (.ref a1), .val (.int p2), .val (.int p3), .val (.int p4), .val (.int p5), .val (.int sm)] [(.int (1 : Int32))])
      refine Go.to (fun _ => XS.goto X3.here hx rfl (pc0 := 46) (pc' := 50) rfl (hb hby d13_46) (by decide) (by decide)) ?_
      show Go p e below _ T3 (mkF m 50 #[.val (.ref a1), .val (.int p2), .val (.int p3), .val (.int p4), .val (.int p5), .val (.int sm)] [(.int (1 : Int32))])
      exact k (1 : Int32) (by rw [if_pos hc3])
    · refine Go.to (fun _ => XS.icmpYes X3.here hx rfl (pc0 := 42) (pc' := 49) rfl (hb hby d13_42) rfl (feq hc3).2 (by decide) (by decide)) ?_
      show Go p e below _ T3 (mkF m 49 #[.val (.ref a1), .val (.int p2), .val (.int p3), .val (.int p4), .val (.int p5), .val (.int sm)] [])
      refine Go.to (fun _ => XS.iconst X3.here hx rfl (hb hby d13_49)) ?_
      show Go p e below _ T3 (mkF m 50 #[.val (.ref a1), .val (.int p2), .val (.int p3), .val (.int p4), .val (.int p5), .val (.int sm)] [(.int (0 : Int32))])
      exact k (0 : Int32) (by rw [if_neg hc3])
  refine hj6 (fun eq heq => ?_)
  clear hj6
  obtain ⟨y4, hy4, hf⟩ := Option.bind_eq_some_iff.mp hf
  rw [(Option.some.inj hy4).symm.trans heq.symm] at hf
  refine Go.to (fun _ => XS.iload X3.here hx rfl (hb hby d13_50) rfl) ?_
  show Go p e below _ T3 (mkF m 52 #[.val (.ref a1), .val (.int p2), .val (.int p3), .val (.int p4), .val (.int p5), .val (.int sm)] [(.int sm), (.int eq)])
  have hj7 : (∀ rs : Int32, rs = (if eq = sm then (1 : Int32) else (0 : Int32)) → Go p e below K T3 (mkF m 60 #[.val (.ref a1), .val (.int p2), .val (.int p3), .val (.int p4), .val (.int p5), .val (.int sm)] [(.int rs)])) → Go p e below K T3 (mkF m 52 #[.val (.ref a1), .val (.int p2), .val (.int p3), .val (.int p4), .val (.int p5), .val (.int sm)] [(.int sm), (.int eq)]) := by
    intro k
    by_cases hc4 : eq = sm
    · refine Go.to (fun _ => XS.icmpNo X3.here hx rfl (hb hby d13_52) rfl (teq hc4).2) ?_
      show Go p e below _ T3 (mkF m 55 #[.val (.ref a1), .val (.int p2), .val (.int p3), .val (.int p4), .val (.int p5), .val (.int sm)] [])
      refine Go.to (fun _ => XS.iconst X3.here hx rfl (hb hby d13_55)) ?_
      show Go p e below _ T3 (mkF m 56 #[.val (.ref a1), .val (.int p2), .val (.int p3), .val (.int p4), .val (.int p5), .val (.int sm)] [(.int (1 : Int32))])
      refine Go.to (fun _ => XS.goto X3.here hx rfl (pc0 := 56) (pc' := 60) rfl (hb hby d13_56) (by decide) (by decide)) ?_
      show Go p e below _ T3 (mkF m 60 #[.val (.ref a1), .val (.int p2), .val (.int p3), .val (.int p4), .val (.int p5), .val (.int sm)] [(.int (1 : Int32))])
      exact k (1 : Int32) (by rw [if_pos hc4])
    · refine Go.to (fun _ => XS.icmpYes X3.here hx rfl (pc0 := 52) (pc' := 59) rfl (hb hby d13_52) rfl (feq hc4).2 (by decide) (by decide)) ?_
      show Go p e below _ T3 (mkF m 59 #[.val (.ref a1), .val (.int p2), .val (.int p3), .val (.int p4), .val (.int p5), .val (.int sm)] [])
      refine Go.to (fun _ => XS.iconst X3.here hx rfl (hb hby d13_59)) ?_
      show Go p e below _ T3 (mkF m 60 #[.val (.ref a1), .val (.int p2), .val (.int p3), .val (.int p4), .val (.int p5), .val (.int sm)] [(.int (0 : Int32))])
      exact k (0 : Int32) (by rw [if_neg hc4])
  refine hj7 (fun rs hrs => ?_)
  clear hj7
  obtain ⟨y5, hy5, hf⟩ := Option.bind_eq_some_iff.mp hf
  rw [(Option.some.inj hy5).symm.trans hrs.symm] at hf
  have hr := Option.some.inj hf
  rw [hK]
  exact Go.retZ X3 hx hlk hret (by rw [hrs]; split <;> simp) (hb hby d13_60) ⟨by rw [← hr], e3, rfl⟩ (by decide) (by decide)
def sizF (l2 : List Int32) (fi : List Int32) (en : List Int32) (p3 : Int32) : Option Int32 := ((rdL l2 p3).bind fun v1 => ((rdL en v1).bind fun v2 => ((rdL fi v1).bind fun v3 => ((cntF l2 v1 (15 : Int32)).bind fun k4 => (if (v2 - v3) = k4 then some (1 : Int32) else some (0 : Int32))))))
theorem d14_0 : decode method_10_code 0 = .ok (.aload_n 1, 1) := by decide +kernel
theorem d14_1 : decode method_10_code 1 = .ok (.iload_n 2, 1) := by decide +kernel
theorem d14_2 : decode method_10_code 2 = .ok (.iaload, 1) := by decide +kernel
theorem d14_3 : decode method_10_code 3 = .ok (.istore_n 3, 1) := by decide +kernel
theorem d14_4 : decode method_10_code 4 = .ok (.aload_n 0, 1) := by decide +kernel
theorem d14_5 : decode method_10_code 5 = .ok (.iload_n 3, 1) := by decide +kernel
theorem d14_6 : decode method_10_code 6 = .ok (.invokevirtual 34, 3) := by decide +kernel
theorem d14_9 : decode method_10_code 9 = .ok (.aload_n 0, 1) := by decide +kernel
theorem d14_10 : decode method_10_code 10 = .ok (.iload_n 3, 1) := by decide +kernel
theorem d14_11 : decode method_10_code 11 = .ok (.invokevirtual 37, 3) := by decide +kernel
theorem d14_14 : decode method_10_code 14 = .ok (.isub, 1) := by decide +kernel
theorem d14_15 : decode method_10_code 15 = .ok (.aload_n 1, 1) := by decide +kernel
theorem d14_16 : decode method_10_code 16 = .ok (.iload_n 3, 1) := by decide +kernel
theorem d14_17 : decode method_10_code 17 = .ok (.bipush 15, 2) := by decide +kernel
theorem d14_19 : decode method_10_code 19 = .ok (.invokestatic 30, 3) := by decide +kernel
theorem d14_22 : decode method_10_code 22 = .ok (.if_icmp .ne 7, 3) := by decide +kernel
theorem d14_25 : decode method_10_code 25 = .ok (.iconst 1, 1) := by decide +kernel
theorem d14_26 : decode method_10_code 26 = .ok (.goto 4, 3) := by decide +kernel
theorem d14_29 : decode method_10_code 29 = .ok (.iconst 0, 1) := by decide +kernel
theorem d14_30 : decode method_10_code 30 = .ok (.ireturn, 1) := by decide +kernel
theorem ef_rm14 (m : MethodId) (a1 : Addr) (a2 : Addr) (p3 : Int32) : entryFrame m #[(.ref a1), (.ref a2), (.int p3)] 4 = mkF m 0 #[.val (.ref a1), .val (.ref a2), .val (.int p3), .unset] [] := by first | (simp [entryFrame, mkF, argsToLocals, Value.category]; done) | rfl
set_option maxHeartbeats 40000000 in
theorem rm14 (l : Launch) (Z : State) (a0 : Array Value) (hw : ∀ d ∈ tables_1, d.before a0 Z = true) (ws : List Jvm.Cond) (a1 : Addr) (a2 : Addr) (p3 : Int32) (h0 : Heap) (l2 : List Int32) (Al2 : AV Z h0 a2 .int l2) (n0 : Nat) (b0 b1 b2 b3 b4 b5 b6 : Addr) (el po se fi en ma tu : List Int32) (tc sc : Int32) (O : Obj Z n0 h0 h0 a1 "com/example/tracegauge/tracegauge/automata/Partition" nFp [.ref b0, .ref b1, .ref b2, .ref b3, .ref b4, .ref b5, .ref b6, .int tc, .int sc] [b0, b1, b2, b3, b4, b5, b6] [el, po, se, fi, en, ma, tu]) (r : Int32) (hf : sizF l2 fi en p3 = some r) :
    Met1 l Z (⟨"com/example/tracegauge/tracegauge/automata/PartitionSplitPinLaw", "sizeOk", "(Lcom/example/tracegauge/tracegauge/automata/Partition;[II)Z"⟩ : MethodName) method_10_code 4 (some .boolean) ws ({ frames := 2, cells := 0, slots := 0, locals := 29 } : Room) #[(.ref a1), (.ref a2), (.int p3)] h0 (QP (.int r) h0) := by
  refine metOf (by first | exact plainFor_of_name (by first | (simp [plainName, overriddenIn]; done) | decide +kernel) | decide +kernel) ?_
  intro p e s m below meth c s₁ hx hby hml hown hnm hret hlk hZ X0 e0
  have hown : s.vm.findClass "com/example/tracegauge/tracegauge/automata/PartitionSplitPinLaw" = some m.cls := hown
  obtain ⟨K, hK⟩ : ∃ K, K = KQ s (QP (.int r) h0) (({ frames := 2, cells := 0, slots := 0, locals := 29 } : Room)).cells (({ frames := 2, cells := 0, slots := 0, locals := 29 } : Room)).slots := ⟨_, rfl⟩
  show Go p e below (KQ s (QP (.int r) h0) (({ frames := 2, cells := 0, slots := 0, locals := 29 } : Room)).cells (({ frames := 2, cells := 0, slots := 0, locals := 29 } : Room)).slots) s₁ (entryFrame m #[(.ref a1), (.ref a2), (.int p3)] 4)
  rw [← hK, ef_rm14 m a1 a2 p3]
  rw [sizF] at hf
  show Go p e below _ s₁ (mkF m 0 #[.val (.ref a1), .val (.ref a2), .val (.int p3), .unset] [])
  refine Go.to (fun _ => XS.aloadN X0.here hx rfl (hb hby d14_0) rfl rfl) ?_
  show Go p e below _ s₁ (mkF m 1 #[.val (.ref a1), .val (.ref a2), .val (.int p3), .unset] [(.ref a2)])
  refine Go.to (fun _ => XS.iloadN X0.here hx rfl (hb hby d14_1) rfl) ?_
  show Go p e below _ s₁ (mkF m 2 #[.val (.ref a1), .val (.ref a2), .val (.int p3), .unset] [(.int p3), (.ref a2)])
  obtain ⟨v1, hv1, hf⟩ := Option.bind_eq_some_iff.mp hf
  refine Go.iaload X0 hx hZ e0 Al2 hv1 (hb hby d14_2) ?_
  show Go p e below _ s₁ (mkF m 3 #[.val (.ref a1), .val (.ref a2), .val (.int p3), .unset] [(.int v1)])
  refine Go.to (fun _ => XS.istoreN X0.here hx rfl (hb hby d14_3) rfl (l' := #[.val (.ref a1), .val (.ref a2), .val (.int p3), .val (.int v1)]) rfl) ?_
  show Go p e below _ s₁ (mkF m 4 #[.val (.ref a1), .val (.ref a2), .val (.int p3), .val (.int v1)] [])
  refine Go.to (fun _ => XS.aloadN X0.here hx rfl (hb hby d14_4) rfl rfl) ?_
  show Go p e below _ s₁ (mkF m 5 #[.val (.ref a1), .val (.ref a2), .val (.int p3), .val (.int v1)] [(.ref a1)])
  refine Go.to (fun _ => XS.iloadN X0.here hx rfl (hb hby d14_5) rfl) ?_
  show Go p e below _ s₁ (mkF m 6 #[.val (.ref a1), .val (.ref a2), .val (.int p3), .val (.int v1)] [(.int v1), (.ref a1)])
  obtain ⟨v2, hv2, hf⟩ := Option.bind_eq_some_iff.mp hf
  refine Go.callV (y := (⟨"com/example/tracegauge/tracegauge/automata/Partition", "end", "(I)I"⟩ : MethodName)) X0 hx hZ hown (hw _ (List.mem_of_getElem? (i := 73) rfl)) (hw _ (List.mem_of_getElem? (i := 74) rfl)) (hw _ (List.mem_of_getElem? (i := 76) rfl)) (hw _ (List.mem_of_getElem? (i := 75) rfl)) (hw _ (List.mem_of_getElem? (i := 2) rfl)) (hw _ (List.mem_of_getElem? (i := 77) rfl)) (by decide) (rm15 l Z a0 hw [] a1 v1 h0 n0 b0 b1 b2 b3 b4 b5 b6 el po se fi en ma tu tc sc O v2 hv2) e0 O.exa (by rw [hml]; rfl) (pd_3) rfl (argsL := [(.int v1)]) (rest := []) rfl rfl (hb hby d14_6) (by decide) (Nat.le_of_ble_eq_true rfl) (by decide) (by decide) ?_
  rintro T1 _ L1 X1 ⟨rfl, e1, rfl⟩
  simp only [List.append_nil] at X1
  show Go p e below _ T1 (mkF m 9 #[.val (.ref a1), .val (.ref a2), .val (.int p3), .val (.int v1)] [(.int v2)])
  refine Go.to (fun _ => XS.aloadN X1.here hx rfl (hb hby d14_9) rfl rfl) ?_
  show Go p e below _ T1 (mkF m 10 #[.val (.ref a1), .val (.ref a2), .val (.int p3), .val (.int v1)] [(.ref a1), (.int v2)])
  refine Go.to (fun _ => XS.iloadN X1.here hx rfl (hb hby d14_10) rfl) ?_
  show Go p e below _ T1 (mkF m 11 #[.val (.ref a1), .val (.ref a2), .val (.int p3), .val (.int v1)] [(.int v1), (.ref a1), (.int v2)])
  obtain ⟨v3, hv3, hf⟩ := Option.bind_eq_some_iff.mp hf
  refine Go.callV (y := (⟨"com/example/tracegauge/tracegauge/automata/Partition", "first", "(I)I"⟩ : MethodName)) X1 hx hZ hown (hw _ (List.mem_of_getElem? (i := 78) rfl)) (hw _ (List.mem_of_getElem? (i := 79) rfl)) (hw _ (List.mem_of_getElem? (i := 81) rfl)) (hw _ (List.mem_of_getElem? (i := 80) rfl)) (hw _ (List.mem_of_getElem? (i := 2) rfl)) (hw _ (List.mem_of_getElem? (i := 82) rfl)) (by decide) (rm16 l Z a0 hw [] a1 v1 h0 n0 b0 b1 b2 b3 b4 b5 b6 el po se fi en ma tu tc sc O v3 hv3) e1 O.exa (by rw [hml]; rfl) (pd_3) rfl (argsL := [(.int v1)]) (rest := [(.int v2)]) rfl rfl (hb hby d14_11) (by decide) (Nat.le_of_ble_eq_true rfl) (by decide) (by decide) ?_
  rintro T2 _ L2 X2 ⟨rfl, e2, rfl⟩
  simp only [List.append_nil] at X2
  show Go p e below _ T2 (mkF m 14 #[.val (.ref a1), .val (.ref a2), .val (.int p3), .val (.int v1)] [(.int v3), (.int v2)])
  refine Go.to (fun _ => XS.isub X2.here hx rfl (hb hby d14_14) rfl) ?_
  show Go p e below _ T2 (mkF m 15 #[.val (.ref a1), .val (.ref a2), .val (.int p3), .val (.int v1)] [(.int (v2 - v3))])
  refine Go.to (fun _ => XS.aloadN X2.here hx rfl (hb hby d14_15) rfl rfl) ?_
  show Go p e below _ T2 (mkF m 16 #[.val (.ref a1), .val (.ref a2), .val (.int p3), .val (.int v1)] [(.ref a2), (.int (v2 - v3))])
  refine Go.to (fun _ => XS.iloadN X2.here hx rfl (hb hby d14_16) rfl) ?_
  show Go p e below _ T2 (mkF m 17 #[.val (.ref a1), .val (.ref a2), .val (.int p3), .val (.int v1)] [(.int v1), (.ref a2), (.int (v2 - v3))])
  refine Go.to (fun _ => XS.bipush X2.here hx rfl (hb hby d14_17)) ?_
  show Go p e below _ T2 (mkF m 19 #[.val (.ref a1), .val (.ref a2), .val (.int p3), .val (.int v1)] [(.int (15 : Int32)), (.int v1), (.ref a2), (.int (v2 - v3))])
  obtain ⟨k4, hk4, hf⟩ := Option.bind_eq_some_iff.mp hf
  refine Go.callS (y := (⟨"com/example/tracegauge/tracegauge/automata/PartitionSplitPinLaw", "count", "([III)I"⟩ : MethodName)) X2 hx hZ hown (hw _ (List.mem_of_getElem? (i := 61) rfl)) (hw _ (List.mem_of_getElem? (i := 62) rfl)) (hw _ (List.mem_of_getElem? (i := 28) rfl)) (hw _ (List.mem_of_getElem? (i := 63) rfl)) (by decide) (rm11 l Z a0 hw [] a2 v1 (15 : Int32) h0 l2 Al2 k4 hk4) e2 (by rw [hml]; rfl) (pd_8) rfl (argsL := [(.ref a2), (.int v1), (.int (15 : Int32))]) (rest := [(.int (v2 - v3))]) rfl rfl (hb hby d14_19) (by decide) (Nat.le_of_ble_eq_true rfl) (by decide) (by decide) ?_
  rintro T3 _ L3 X3 ⟨rfl, e3, rfl⟩
  simp only [List.append_nil] at X3
  show Go p e below _ T3 (mkF m 22 #[.val (.ref a1), .val (.ref a2), .val (.int p3), .val (.int v1)] [(.int k4), (.int (v2 - v3))])
  by_cases hc1 : (v2 - v3) = k4
  · rw [if_pos hc1] at hf
    refine Go.to (fun _ => XS.icmpNo X3.here hx rfl (hb hby d14_22) rfl (teq hc1).2) ?_
    show Go p e below _ T3 (mkF m 25 #[.val (.ref a1), .val (.ref a2), .val (.int p3), .val (.int v1)] [])
    refine Go.to (fun _ => XS.iconst X3.here hx rfl (hb hby d14_25)) ?_
    show Go p e below _ T3 (mkF m 26 #[.val (.ref a1), .val (.ref a2), .val (.int p3), .val (.int v1)] [(.int (1 : Int32))])
    refine Go.to (fun _ => XS.goto X3.here hx rfl (pc0 := 26) (pc' := 30) rfl (hb hby d14_26) (by decide) (by decide)) ?_
    show Go p e below _ T3 (mkF m 30 #[.val (.ref a1), .val (.ref a2), .val (.int p3), .val (.int v1)] [(.int (1 : Int32))])
    have hr := Option.some.inj hf
    rw [hK]
    exact Go.retZ X3 hx hlk hret (by decide) (hb hby d14_30) ⟨by rw [← hr], e3, rfl⟩ (by decide) (by decide)
  · rw [if_neg hc1] at hf
    refine Go.to (fun _ => XS.icmpYes X3.here hx rfl (pc0 := 22) (pc' := 29) rfl (hb hby d14_22) rfl (feq hc1).2 (by decide) (by decide)) ?_
    show Go p e below _ T3 (mkF m 29 #[.val (.ref a1), .val (.ref a2), .val (.int p3), .val (.int v1)] [])
    refine Go.to (fun _ => XS.iconst X3.here hx rfl (hb hby d14_29)) ?_
    show Go p e below _ T3 (mkF m 30 #[.val (.ref a1), .val (.ref a2), .val (.int p3), .val (.int v1)] [(.int (0 : Int32))])
    have hr := Option.some.inj hf
    rw [hK]
    exact Go.retZ X3 hx hlk hret (by decide) (hb hby d14_30) ⟨by rw [← hr], e3, rfl⟩ (by decide) (by decide)
theorem d6_0 : decode method_5_code 0 = .ok (.iconst 5, 1) := by decide +kernel
theorem d6_1 : decode method_5_code 1 = .ok (.newarray .int, 2) := by decide +kernel
theorem d6_3 : decode method_5_code 3 = .ok (.astore_n 1, 1) := by decide +kernel
theorem d6_4 : decode method_5_code 4 = .ok (.aload_n 1, 1) := by decide +kernel
theorem d6_5 : decode method_5_code 5 = .ok (.iconst 0, 1) := by decide +kernel
theorem d6_6 : decode method_5_code 6 = .ok (.aload_n 0, 1) := by decide +kernel
theorem d6_7 : decode method_5_code 7 = .ok (.iconst 0, 1) := by decide +kernel
theorem d6_8 : decode method_5_code 8 = .ok (.invokevirtual 22, 3) := by decide +kernel
theorem d6_11 : decode method_5_code 11 = .ok (.iastore, 1) := by decide +kernel
theorem d6_12 : decode method_5_code 12 = .ok (.aload_n 1, 1) := by decide +kernel
theorem d6_13 : decode method_5_code 13 = .ok (.iconst 1, 1) := by decide +kernel
theorem d6_14 : decode method_5_code 14 = .ok (.aload_n 0, 1) := by decide +kernel
theorem d6_15 : decode method_5_code 15 = .ok (.iconst 1, 1) := by decide +kernel
theorem d6_16 : decode method_5_code 16 = .ok (.invokevirtual 22, 3) := by decide +kernel
theorem d6_19 : decode method_5_code 19 = .ok (.iastore, 1) := by decide +kernel
theorem d6_20 : decode method_5_code 20 = .ok (.aload_n 1, 1) := by decide +kernel
theorem d6_21 : decode method_5_code 21 = .ok (.iconst 2, 1) := by decide +kernel
theorem d6_22 : decode method_5_code 22 = .ok (.aload_n 0, 1) := by decide +kernel
theorem d6_23 : decode method_5_code 23 = .ok (.iconst 2, 1) := by decide +kernel
theorem d6_24 : decode method_5_code 24 = .ok (.invokevirtual 22, 3) := by decide +kernel
theorem d6_27 : decode method_5_code 27 = .ok (.iastore, 1) := by decide +kernel
theorem d6_28 : decode method_5_code 28 = .ok (.aload_n 1, 1) := by decide +kernel
theorem d6_29 : decode method_5_code 29 = .ok (.iconst 3, 1) := by decide +kernel
theorem d6_30 : decode method_5_code 30 = .ok (.aload_n 0, 1) := by decide +kernel
theorem d6_31 : decode method_5_code 31 = .ok (.iconst 3, 1) := by decide +kernel
theorem d6_32 : decode method_5_code 32 = .ok (.invokevirtual 22, 3) := by decide +kernel
theorem d6_35 : decode method_5_code 35 = .ok (.iastore, 1) := by decide +kernel
theorem d6_36 : decode method_5_code 36 = .ok (.aload_n 1, 1) := by decide +kernel
theorem d6_37 : decode method_5_code 37 = .ok (.iconst 4, 1) := by decide +kernel
theorem d6_38 : decode method_5_code 38 = .ok (.aload_n 0, 1) := by decide +kernel
theorem d6_39 : decode method_5_code 39 = .ok (.invokevirtual 26, 3) := by decide +kernel
theorem d6_42 : decode method_5_code 42 = .ok (.iastore, 1) := by decide +kernel
theorem d6_43 : decode method_5_code 43 = .ok (.aload_n 1, 1) := by decide +kernel
theorem d6_44 : decode method_5_code 44 = .ok (.areturn, 1) := by decide +kernel
theorem ef_rm6 (m : MethodId) (a1 : Addr) : entryFrame m #[(.ref a1)] 2 = mkF m 0 #[.val (.ref a1), .unset] [] := by first | (simp [entryFrame, mkF, argsToLocals, Value.category]; done) | rfl
set_option maxHeartbeats 40000000 in
theorem rm6 (l : Launch) (Z : State) (a0 : Array Value) (hw : ∀ d ∈ tables_1, d.before a0 Z = true) (ws : List Jvm.Cond) (a1 : Addr) (h0 : Heap) (n0 : Nat) (b0 b1 b2 b3 b4 b5 b6 : Addr) (el po se fi en ma tu : List Int32) (tc sc : Int32) (O : Obj Z n0 h0 h0 a1 "com/example/tracegauge/tracegauge/automata/Partition" nFp [.ref b0, .ref b1, .ref b2, .ref b3, .ref b4, .ref b5, .ref b6, .int tc, .int sc] [b0, b1, b2, b3, b4, b5, b6] [el, po, se, fi, en, ma, tu]) (x0 x1 x2 x3 : Int32) (hr0 : rdL se (0 : Int32) = some x0) (hr1 : rdL se (1 : Int32) = some x1) (hr2 : rdL se (2 : Int32) = some x2) (hr3 : rdL se (3 : Int32) = some x3) :
    Met1 l Z (⟨"com/example/tracegauge/tracegauge/automata/PartitionSplitPinLaw", "observe", "(Lcom/example/tracegauge/tracegauge/automata/Partition;)[I"⟩ : MethodName) method_5_code 2 (some (.array .int)) ws ({ frames := 1, cells := 1, slots := 5, locals := 15 } : Room) #[(.ref a1)] h0 (fun v h L => Fr n0 L ∧ ∃ b, v = some (.ref b) ∧ n0 ≤ b ∧ h0.size ≤ b ∧ Keep h0 h [] ∧ AV Z h b .int [x0, x1, x2, x3, sc]) := by
  refine metOf (by first | exact plainFor_of_name (by first | (simp [plainName, overriddenIn]; done) | decide +kernel) | decide +kernel) ?_
  intro p e s m below meth c s₁ hx hby hml hown hnm hret hlk hZ X0 e0
  have hown : s.vm.findClass "com/example/tracegauge/tracegauge/automata/PartitionSplitPinLaw" = some m.cls := hown
  obtain ⟨K, hK⟩ : ∃ K, K = KQ s (fun v h L => Fr n0 L ∧ ∃ b, v = some (.ref b) ∧ n0 ≤ b ∧ h0.size ≤ b ∧ Keep h0 h [] ∧ AV Z h b .int [x0, x1, x2, x3, sc]) (({ frames := 1, cells := 1, slots := 5, locals := 15 } : Room)).cells (({ frames := 1, cells := 1, slots := 5, locals := 15 } : Room)).slots := ⟨_, rfl⟩
  show Go p e below (KQ s (fun v h L => Fr n0 L ∧ ∃ b, v = some (.ref b) ∧ n0 ≤ b ∧ h0.size ≤ b ∧ Keep h0 h [] ∧ AV Z h b .int [x0, x1, x2, x3, sc]) (({ frames := 1, cells := 1, slots := 5, locals := 15 } : Room)).cells (({ frames := 1, cells := 1, slots := 5, locals := 15 } : Room)).slots) s₁ (entryFrame m #[(.ref a1)] 2)
  rw [← hK, ef_rm6 m a1]
  show Go p e below _ s₁ (mkF m 0 #[.val (.ref a1), .unset] [])
  refine Go.to (fun _ => XS.iconst X0.here hx rfl (hb hby d6_0)) ?_
  show Go p e below _ s₁ (mkF m 1 #[.val (.ref a1), .unset] [(.int (5 : Int32))])
  refine Go.newI X0 hx hZ (hw _ (List.mem_of_getElem? (i := 9) rfl)) e0 (hb hby d6_1) (by decide) (cap := 5) (by decide) (by decide) (by decide) (by decide) ?_
  intro T1 h1 ar1 X1 e1 E1 g1 A1
  have A1 : AV Z h1 ar1 .int [(0 : Int32), (0 : Int32), (0 : Int32), (0 : Int32), (0 : Int32)] := by
    have q : List.replicate ((5 : Int32)).toNatClampNeg (0 : Int32) = [(0 : Int32), (0 : Int32), (0 : Int32), (0 : Int32), (0 : Int32)] := by decide +kernel
    rw [q] at A1; exact A1
  have gb : h0.size ≤ ar1 := by rw [g1]; exact Nat.le_refl _
  have nb : a1 ≠ ar1 := Nat.ne_of_lt (Nat.lt_of_lt_of_le O.exa.lt gb)
  have nbs : ar1 ∉ [b0, b1, b2, b3, b4, b5, b6] := fun q => absurd (O.lts q) (Nat.not_lt.mpr gb)
  have O1 := O.ext E1
  have K1 : Keep h0 h1 [] := (Keep.refl h0 []).ext E1
  show Go p e below _ T1 (mkF m 3 #[.val (.ref a1), .unset] [(.ref ar1)])
  refine Go.to (fun _ => XS.astoreN X1.here hx rfl (hb hby d6_3) rfl rfl (l' := #[.val (.ref a1), .val (.ref ar1)]) rfl) ?_
  show Go p e below _ T1 (mkF m 4 #[.val (.ref a1), .val (.ref ar1)] [])
  refine Go.to (fun _ => XS.aloadN X1.here hx rfl (hb hby d6_4) rfl rfl) ?_
  show Go p e below _ T1 (mkF m 5 #[.val (.ref a1), .val (.ref ar1)] [(.ref ar1)])
  refine Go.to (fun _ => XS.iconst X1.here hx rfl (hb hby d6_5)) ?_
  show Go p e below _ T1 (mkF m 6 #[.val (.ref a1), .val (.ref ar1)] [(.int (0 : Int32)), (.ref ar1)])
  refine Go.to (fun _ => XS.aloadN X1.here hx rfl (hb hby d6_6) rfl rfl) ?_
  show Go p e below _ T1 (mkF m 7 #[.val (.ref a1), .val (.ref ar1)] [(.ref a1), (.int (0 : Int32)), (.ref ar1)])
  refine Go.to (fun _ => XS.iconst X1.here hx rfl (hb hby d6_7)) ?_
  show Go p e below _ T1 (mkF m 8 #[.val (.ref a1), .val (.ref ar1)] [(.int (0 : Int32)), (.ref a1), (.int (0 : Int32)), (.ref ar1)])
  refine Go.callV (y := (⟨"com/example/tracegauge/tracegauge/automata/Partition", "setOf", "(I)I"⟩ : MethodName)) X1 hx hZ hown (hw _ (List.mem_of_getElem? (i := 43) rfl)) (hw _ (List.mem_of_getElem? (i := 44) rfl)) (hw _ (List.mem_of_getElem? (i := 46) rfl)) (hw _ (List.mem_of_getElem? (i := 45) rfl)) (hw _ (List.mem_of_getElem? (i := 2) rfl)) (hw _ (List.mem_of_getElem? (i := 47) rfl)) (by decide) (rm7 l Z a0 hw [] a1 (0 : Int32) h1 n0 b0 b1 b2 b3 b4 b5 b6 el po se fi en ma tu tc sc O1.anew x0 hr0) e1 O1.exa (by rw [hml]; rfl) (pd_3) rfl (argsL := [(.int (0 : Int32))]) (rest := [(.int (0 : Int32)), (.ref ar1)]) rfl rfl (hb hby d6_8) (by decide) (Nat.le_of_ble_eq_true rfl) (by decide) (by decide) ?_
  rintro T2 _ L2 X2 ⟨rfl, e2, rfl⟩
  simp only [List.append_nil] at X2
  show Go p e below _ T2 (mkF m 11 #[.val (.ref a1), .val (.ref ar1)] [(.int x0), (.int (0 : Int32)), (.ref ar1)])
  refine Go.iastore X2 hx hZ e2 A1 (rfl : rdL [(0 : Int32), (0 : Int32), (0 : Int32), (0 : Int32), (0 : Int32)] (0 : Int32) = some (0 : Int32)) (hb hby d6_11) ?_
  intro T3 h3 X3 e3 W3 A3
  have A3 : AV Z h3 ar1 .int [x0, (0 : Int32), (0 : Int32), (0 : Int32), (0 : Int32)] := A3
  have N3 := frOne (n := ((0 : Int32)).toNatClampNeg) (Fr.nil n0) (Nat.le_trans O.lt gb)
  have O3 := O1.other W3 gb nb nbs
  have K3 := K1.wr W3 (Or.inr gb)
  show Go p e below _ T3 (mkF m 12 #[.val (.ref a1), .val (.ref ar1)] [])
  refine Go.to (fun _ => XS.aloadN X3.here hx rfl (hb hby d6_12) rfl rfl) ?_
  show Go p e below _ T3 (mkF m 13 #[.val (.ref a1), .val (.ref ar1)] [(.ref ar1)])
  refine Go.to (fun _ => XS.iconst X3.here hx rfl (hb hby d6_13)) ?_
  show Go p e below _ T3 (mkF m 14 #[.val (.ref a1), .val (.ref ar1)] [(.int (1 : Int32)), (.ref ar1)])
  refine Go.to (fun _ => XS.aloadN X3.here hx rfl (hb hby d6_14) rfl rfl) ?_
  show Go p e below _ T3 (mkF m 15 #[.val (.ref a1), .val (.ref ar1)] [(.ref a1), (.int (1 : Int32)), (.ref ar1)])
  refine Go.to (fun _ => XS.iconst X3.here hx rfl (hb hby d6_15)) ?_
  show Go p e below _ T3 (mkF m 16 #[.val (.ref a1), .val (.ref ar1)] [(.int (1 : Int32)), (.ref a1), (.int (1 : Int32)), (.ref ar1)])
  refine Go.callV (y := (⟨"com/example/tracegauge/tracegauge/automata/Partition", "setOf", "(I)I"⟩ : MethodName)) X3 hx hZ hown (hw _ (List.mem_of_getElem? (i := 43) rfl)) (hw _ (List.mem_of_getElem? (i := 44) rfl)) (hw _ (List.mem_of_getElem? (i := 46) rfl)) (hw _ (List.mem_of_getElem? (i := 45) rfl)) (hw _ (List.mem_of_getElem? (i := 2) rfl)) (hw _ (List.mem_of_getElem? (i := 47) rfl)) (by decide) (rm7 l Z a0 hw [] a1 (1 : Int32) h3 n0 b0 b1 b2 b3 b4 b5 b6 el po se fi en ma tu tc sc O3.anew x1 hr1) e3 O3.exa (by rw [hml]; rfl) (pd_3) rfl (argsL := [(.int (1 : Int32))]) (rest := [(.int (1 : Int32)), (.ref ar1)]) rfl rfl (hb hby d6_16) (by decide) (Nat.le_of_ble_eq_true rfl) (by decide) (by decide) ?_
  rintro T4 _ L4 X4 ⟨rfl, e4, rfl⟩
  simp only [List.append_nil] at X4
  show Go p e below _ T4 (mkF m 19 #[.val (.ref a1), .val (.ref ar1)] [(.int x1), (.int (1 : Int32)), (.ref ar1)])
  refine Go.iastore X4 hx hZ e4 A3 (rfl : rdL [x0, (0 : Int32), (0 : Int32), (0 : Int32), (0 : Int32)] (1 : Int32) = some (0 : Int32)) (hb hby d6_19) ?_
  intro T5 h5 X5 e5 W5 A5
  have A5 : AV Z h5 ar1 .int [x0, x1, (0 : Int32), (0 : Int32), (0 : Int32)] := A5
  have N5 := frOne (n := ((1 : Int32)).toNatClampNeg) N3 (Nat.le_trans O.lt gb)
  have O5 := O3.other W5 gb nb nbs
  have K5 := K3.wr W5 (Or.inr gb)
  show Go p e below _ T5 (mkF m 20 #[.val (.ref a1), .val (.ref ar1)] [])
  refine Go.to (fun _ => XS.aloadN X5.here hx rfl (hb hby d6_20) rfl rfl) ?_
  show Go p e below _ T5 (mkF m 21 #[.val (.ref a1), .val (.ref ar1)] [(.ref ar1)])
  refine Go.to (fun _ => XS.iconst X5.here hx rfl (hb hby d6_21)) ?_
  show Go p e below _ T5 (mkF m 22 #[.val (.ref a1), .val (.ref ar1)] [(.int (2 : Int32)), (.ref ar1)])
  refine Go.to (fun _ => XS.aloadN X5.here hx rfl (hb hby d6_22) rfl rfl) ?_
  show Go p e below _ T5 (mkF m 23 #[.val (.ref a1), .val (.ref ar1)] [(.ref a1), (.int (2 : Int32)), (.ref ar1)])
  refine Go.to (fun _ => XS.iconst X5.here hx rfl (hb hby d6_23)) ?_
  show Go p e below _ T5 (mkF m 24 #[.val (.ref a1), .val (.ref ar1)] [(.int (2 : Int32)), (.ref a1), (.int (2 : Int32)), (.ref ar1)])
  refine Go.callV (y := (⟨"com/example/tracegauge/tracegauge/automata/Partition", "setOf", "(I)I"⟩ : MethodName)) X5 hx hZ hown (hw _ (List.mem_of_getElem? (i := 43) rfl)) (hw _ (List.mem_of_getElem? (i := 44) rfl)) (hw _ (List.mem_of_getElem? (i := 46) rfl)) (hw _ (List.mem_of_getElem? (i := 45) rfl)) (hw _ (List.mem_of_getElem? (i := 2) rfl)) (hw _ (List.mem_of_getElem? (i := 47) rfl)) (by decide) (rm7 l Z a0 hw [] a1 (2 : Int32) h5 n0 b0 b1 b2 b3 b4 b5 b6 el po se fi en ma tu tc sc O5.anew x2 hr2) e5 O5.exa (by rw [hml]; rfl) (pd_3) rfl (argsL := [(.int (2 : Int32))]) (rest := [(.int (2 : Int32)), (.ref ar1)]) rfl rfl (hb hby d6_24) (by decide) (Nat.le_of_ble_eq_true rfl) (by decide) (by decide) ?_
  rintro T6 _ L6 X6 ⟨rfl, e6, rfl⟩
  simp only [List.append_nil] at X6
  show Go p e below _ T6 (mkF m 27 #[.val (.ref a1), .val (.ref ar1)] [(.int x2), (.int (2 : Int32)), (.ref ar1)])
  refine Go.iastore X6 hx hZ e6 A5 (rfl : rdL [x0, x1, (0 : Int32), (0 : Int32), (0 : Int32)] (2 : Int32) = some (0 : Int32)) (hb hby d6_27) ?_
  intro T7 h7 X7 e7 W7 A7
  have A7 : AV Z h7 ar1 .int [x0, x1, x2, (0 : Int32), (0 : Int32)] := A7
  have N7 := frOne (n := ((2 : Int32)).toNatClampNeg) N5 (Nat.le_trans O.lt gb)
  have O7 := O5.other W7 gb nb nbs
  have K7 := K5.wr W7 (Or.inr gb)
  show Go p e below _ T7 (mkF m 28 #[.val (.ref a1), .val (.ref ar1)] [])
  refine Go.to (fun _ => XS.aloadN X7.here hx rfl (hb hby d6_28) rfl rfl) ?_
  show Go p e below _ T7 (mkF m 29 #[.val (.ref a1), .val (.ref ar1)] [(.ref ar1)])
  refine Go.to (fun _ => XS.iconst X7.here hx rfl (hb hby d6_29)) ?_
  show Go p e below _ T7 (mkF m 30 #[.val (.ref a1), .val (.ref ar1)] [(.int (3 : Int32)), (.ref ar1)])
  refine Go.to (fun _ => XS.aloadN X7.here hx rfl (hb hby d6_30) rfl rfl) ?_
  show Go p e below _ T7 (mkF m 31 #[.val (.ref a1), .val (.ref ar1)] [(.ref a1), (.int (3 : Int32)), (.ref ar1)])
  refine Go.to (fun _ => XS.iconst X7.here hx rfl (hb hby d6_31)) ?_
  show Go p e below _ T7 (mkF m 32 #[.val (.ref a1), .val (.ref ar1)] [(.int (3 : Int32)), (.ref a1), (.int (3 : Int32)), (.ref ar1)])
  refine Go.callV (y := (⟨"com/example/tracegauge/tracegauge/automata/Partition", "setOf", "(I)I"⟩ : MethodName)) X7 hx hZ hown (hw _ (List.mem_of_getElem? (i := 43) rfl)) (hw _ (List.mem_of_getElem? (i := 44) rfl)) (hw _ (List.mem_of_getElem? (i := 46) rfl)) (hw _ (List.mem_of_getElem? (i := 45) rfl)) (hw _ (List.mem_of_getElem? (i := 2) rfl)) (hw _ (List.mem_of_getElem? (i := 47) rfl)) (by decide) (rm7 l Z a0 hw [] a1 (3 : Int32) h7 n0 b0 b1 b2 b3 b4 b5 b6 el po se fi en ma tu tc sc O7.anew x3 hr3) e7 O7.exa (by rw [hml]; rfl) (pd_3) rfl (argsL := [(.int (3 : Int32))]) (rest := [(.int (3 : Int32)), (.ref ar1)]) rfl rfl (hb hby d6_32) (by decide) (Nat.le_of_ble_eq_true rfl) (by decide) (by decide) ?_
  rintro T8 _ L8 X8 ⟨rfl, e8, rfl⟩
  simp only [List.append_nil] at X8
  show Go p e below _ T8 (mkF m 35 #[.val (.ref a1), .val (.ref ar1)] [(.int x3), (.int (3 : Int32)), (.ref ar1)])
  refine Go.iastore X8 hx hZ e8 A7 (rfl : rdL [x0, x1, x2, (0 : Int32), (0 : Int32)] (3 : Int32) = some (0 : Int32)) (hb hby d6_35) ?_
  intro T9 h9 X9 e9 W9 A9
  have A9 : AV Z h9 ar1 .int [x0, x1, x2, x3, (0 : Int32)] := A9
  have N9 := frOne (n := ((3 : Int32)).toNatClampNeg) N7 (Nat.le_trans O.lt gb)
  have O9 := O7.other W9 gb nb nbs
  have K9 := K7.wr W9 (Or.inr gb)
  show Go p e below _ T9 (mkF m 36 #[.val (.ref a1), .val (.ref ar1)] [])
  refine Go.to (fun _ => XS.aloadN X9.here hx rfl (hb hby d6_36) rfl rfl) ?_
  show Go p e below _ T9 (mkF m 37 #[.val (.ref a1), .val (.ref ar1)] [(.ref ar1)])
  refine Go.to (fun _ => XS.iconst X9.here hx rfl (hb hby d6_37)) ?_
  show Go p e below _ T9 (mkF m 38 #[.val (.ref a1), .val (.ref ar1)] [(.int (4 : Int32)), (.ref ar1)])
  refine Go.to (fun _ => XS.aloadN X9.here hx rfl (hb hby d6_38) rfl rfl) ?_
  show Go p e below _ T9 (mkF m 39 #[.val (.ref a1), .val (.ref ar1)] [(.ref a1), (.int (4 : Int32)), (.ref ar1)])
  refine Go.callV (y := (⟨"com/example/tracegauge/tracegauge/automata/Partition", "setCount", "()I"⟩ : MethodName)) X9 hx hZ hown (hw _ (List.mem_of_getElem? (i := 48) rfl)) (hw _ (List.mem_of_getElem? (i := 49) rfl)) (hw _ (List.mem_of_getElem? (i := 51) rfl)) (hw _ (List.mem_of_getElem? (i := 50) rfl)) (hw _ (List.mem_of_getElem? (i := 2) rfl)) (hw _ (List.mem_of_getElem? (i := 52) rfl)) (by decide) (rm8 l Z a0 hw [] a1 h9 n0 b0 b1 b2 b3 b4 b5 b6 el po se fi en ma tu tc sc O9.anew) e9 O9.exa (by rw [hml]; rfl) (pd_2) rfl (argsL := []) (rest := [(.int (4 : Int32)), (.ref ar1)]) rfl rfl (hb hby d6_39) (by decide) (Nat.le_of_ble_eq_true rfl) (by decide) (by decide) ?_
  rintro T10 _ L10 X10 ⟨rfl, e10, rfl⟩
  simp only [List.append_nil] at X10
  show Go p e below _ T10 (mkF m 42 #[.val (.ref a1), .val (.ref ar1)] [(.int sc), (.int (4 : Int32)), (.ref ar1)])
  refine Go.iastore X10 hx hZ e10 A9 (rfl : rdL [x0, x1, x2, x3, (0 : Int32)] (4 : Int32) = some (0 : Int32)) (hb hby d6_42) ?_
  intro T11 h11 X11 e11 W11 A11
  have A11 : AV Z h11 ar1 .int [x0, x1, x2, x3, sc] := A11
  have N11 := frOne (n := ((4 : Int32)).toNatClampNeg) N9 (Nat.le_trans O.lt gb)
  have O11 := O9.other W11 gb nb nbs
  have K11 := K9.wr W11 (Or.inr gb)
  show Go p e below _ T11 (mkF m 43 #[.val (.ref a1), .val (.ref ar1)] [])
  refine Go.to (fun _ => XS.aloadN X11.here hx rfl (hb hby d6_43) rfl rfl) ?_
  show Go p e below _ T11 (mkF m 44 #[.val (.ref a1), .val (.ref ar1)] [(.ref ar1)])
  rw [hK]
  exact Go.retA X11 hx hlk hret rfl rfl rfl (hb hby d6_44) ⟨N11, _, rfl, Nat.le_trans O.lt gb, gb, e11 ▸ K11, e11 ▸ A11⟩ (by decide) (by decide)
def cbF (m x : Int32) (el po se fi en ma tu : List Int32) (tc sc : Int32) : Option (List Int32 × List Int32 × List Int32 × List Int32 × List Int32 × List Int32 × List Int32 × Int32 × Int32) := if fBit m x = (1 : Int32) then markF x el po se fi en ma tu tc sc else some (el, po, se, fi, en, ma, tu, tc, sc)
def msF (m o : Int32) (el po se fi en ma tu : List Int32) (tc sc : Int32) : Option (List Int32 × List Int32 × List Int32 × List Int32 × List Int32 × List Int32 × List Int32 × Int32 × Int32) := (cbF m ((0 : Int32) ^^^ o) el po se fi en ma tu tc sc).bind fun (el1, po1, se1, fi1, en1, ma1, tu1, tc1, sc1) => (cbF m ((1 : Int32) ^^^ o) el1 po1 se1 fi1 en1 ma1 tu1 tc1 sc1).bind fun (el2, po2, se2, fi2, en2, ma2, tu2, tc2, sc2) => (cbF m ((2 : Int32) ^^^ o) el2 po2 se2 fi2 en2 ma2 tu2 tc2 sc2).bind fun (el3, po3, se3, fi3, en3, ma3, tu3, tc3, sc3) => (cbF m ((3 : Int32) ^^^ o) el3 po3 se3 fi3 en3 ma3 tu3 tc3 sc3).bind fun (el4, po4, se4, fi4, en4, ma4, tu4, tc4, sc4) => (splitF 5 el4 po4 se4 fi4 en4 ma4 tu4 tc4 sc4)
theorem d3_0 : decode method_4_code 0 = .ok (.iconst 0, 1) := by decide +kernel
theorem d3_1 : decode method_4_code 1 = .ok (.iload_n 2, 1) := by decide +kernel
theorem d3_2 : decode method_4_code 2 = .ok (.ixor, 1) := by decide +kernel
theorem d3_3 : decode method_4_code 3 = .ok (.istore_n 3, 1) := by decide +kernel
theorem d3_4 : decode method_4_code 4 = .ok (.iconst 1, 1) := by decide +kernel
theorem d3_5 : decode method_4_code 5 = .ok (.iload_n 2, 1) := by decide +kernel
theorem d3_6 : decode method_4_code 6 = .ok (.ixor, 1) := by decide +kernel
theorem d3_7 : decode method_4_code 7 = .ok (.istore 4, 2) := by decide +kernel
theorem d3_9 : decode method_4_code 9 = .ok (.iconst 2, 1) := by decide +kernel
theorem d3_10 : decode method_4_code 10 = .ok (.iload_n 2, 1) := by decide +kernel
theorem d3_11 : decode method_4_code 11 = .ok (.ixor, 1) := by decide +kernel
theorem d3_12 : decode method_4_code 12 = .ok (.istore 5, 2) := by decide +kernel
theorem d3_14 : decode method_4_code 14 = .ok (.iconst 3, 1) := by decide +kernel
theorem d3_15 : decode method_4_code 15 = .ok (.iload_n 2, 1) := by decide +kernel
theorem d3_16 : decode method_4_code 16 = .ok (.ixor, 1) := by decide +kernel
theorem d3_17 : decode method_4_code 17 = .ok (.istore 6, 2) := by decide +kernel
theorem d3_19 : decode method_4_code 19 = .ok (.iload_n 1, 1) := by decide +kernel
theorem d3_20 : decode method_4_code 20 = .ok (.iload_n 3, 1) := by decide +kernel
theorem d3_21 : decode method_4_code 21 = .ok (.invokestatic 7, 3) := by decide +kernel
theorem d3_24 : decode method_4_code 24 = .ok (.iconst 1, 1) := by decide +kernel
theorem d3_25 : decode method_4_code 25 = .ok (.if_icmp .ne 8, 3) := by decide +kernel
theorem d3_28 : decode method_4_code 28 = .ok (.aload_n 0, 1) := by decide +kernel
theorem d3_29 : decode method_4_code 29 = .ok (.iload_n 3, 1) := by decide +kernel
theorem d3_30 : decode method_4_code 30 = .ok (.invokevirtual 13, 3) := by decide +kernel
theorem d3_33 : decode method_4_code 33 = .ok (.iload_n 1, 1) := by decide +kernel
theorem d3_34 : decode method_4_code 34 = .ok (.iload 4, 2) := by decide +kernel
theorem d3_36 : decode method_4_code 36 = .ok (.invokestatic 7, 3) := by decide +kernel
theorem d3_39 : decode method_4_code 39 = .ok (.iconst 1, 1) := by decide +kernel
theorem d3_40 : decode method_4_code 40 = .ok (.if_icmp .ne 9, 3) := by decide +kernel
theorem d3_43 : decode method_4_code 43 = .ok (.aload_n 0, 1) := by decide +kernel
theorem d3_44 : decode method_4_code 44 = .ok (.iload 4, 2) := by decide +kernel
theorem d3_46 : decode method_4_code 46 = .ok (.invokevirtual 13, 3) := by decide +kernel
theorem d3_49 : decode method_4_code 49 = .ok (.iload_n 1, 1) := by decide +kernel
theorem d3_50 : decode method_4_code 50 = .ok (.iload 5, 2) := by decide +kernel
theorem d3_52 : decode method_4_code 52 = .ok (.invokestatic 7, 3) := by decide +kernel
theorem d3_55 : decode method_4_code 55 = .ok (.iconst 1, 1) := by decide +kernel
theorem d3_56 : decode method_4_code 56 = .ok (.if_icmp .ne 9, 3) := by decide +kernel
theorem d3_59 : decode method_4_code 59 = .ok (.aload_n 0, 1) := by decide +kernel
theorem d3_60 : decode method_4_code 60 = .ok (.iload 5, 2) := by decide +kernel
theorem d3_62 : decode method_4_code 62 = .ok (.invokevirtual 13, 3) := by decide +kernel
theorem d3_65 : decode method_4_code 65 = .ok (.iload_n 1, 1) := by decide +kernel
theorem d3_66 : decode method_4_code 66 = .ok (.iload 6, 2) := by decide +kernel
theorem d3_68 : decode method_4_code 68 = .ok (.invokestatic 7, 3) := by decide +kernel
theorem d3_71 : decode method_4_code 71 = .ok (.iconst 1, 1) := by decide +kernel
theorem d3_72 : decode method_4_code 72 = .ok (.if_icmp .ne 9, 3) := by decide +kernel
theorem d3_75 : decode method_4_code 75 = .ok (.aload_n 0, 1) := by decide +kernel
theorem d3_76 : decode method_4_code 76 = .ok (.iload 6, 2) := by decide +kernel
theorem d3_78 : decode method_4_code 78 = .ok (.invokevirtual 13, 3) := by decide +kernel
theorem d3_81 : decode method_4_code 81 = .ok (.aload_n 0, 1) := by decide +kernel
theorem d3_82 : decode method_4_code 82 = .ok (.invokevirtual 19, 3) := by decide +kernel
theorem d3_85 : decode method_4_code 85 = .ok (.return_, 1) := by decide +kernel
theorem ef_rm3 (m : MethodId) (a1 : Addr) (p2 : Int32) (p3 : Int32) : entryFrame m #[(.ref a1), (.int p2), (.int p3)] 7 = mkF m 0 #[.val (.ref a1), .val (.int p2), .val (.int p3), .unset, .unset, .unset, .unset] [] := by first | (simp [entryFrame, mkF, argsToLocals, Value.category]; done) | rfl
set_option maxHeartbeats 40000000 in
theorem rm3 (l : Launch) (Z : State) (a0 : Array Value) (hw : ∀ d ∈ tables_1, d.before a0 Z = true) (ws : List Jvm.Cond) (a1 : Addr) (p2 : Int32) (p3 : Int32) (h0 : Heap) (n0 : Nat) (b0 b1 b2 b3 b4 b5 b6 : Addr) (el po se fi en ma tu : List Int32) (tc sc : Int32) (O : Obj Z n0 h0 h0 a1 "com/example/tracegauge/tracegauge/automata/Partition" nFp [.ref b0, .ref b1, .ref b2, .ref b3, .ref b4, .ref b5, .ref b6, .int tc, .int sc] [b0, b1, b2, b3, b4, b5, b6] [el, po, se, fi, en, ma, tu]) (el' po' se' fi' en' ma' tu' : List Int32) (tc' sc' : Int32) (hf : msF p2 p3 el po se fi en ma tu tc sc = some (el', po', se', fi', en', ma', tu', tc', sc')) :
    Met1 l Z (⟨"com/example/tracegauge/tracegauge/automata/PartitionSplitPinLaw", "markAndSplit", "(Lcom/example/tracegauge/tracegauge/automata/Partition;II)V"⟩ : MethodName) method_4_code 7 none ws ({ frames := 1, cells := 0, slots := 0, locals := 17 } : Room) #[(.ref a1), (.int p2), (.int p3)] h0 (fun v h L => v = none ∧ Fr n0 L ∧ Obj Z n0 h0 h a1 "com/example/tracegauge/tracegauge/automata/Partition" nFp [.ref b0, .ref b1, .ref b2, .ref b3, .ref b4, .ref b5, .ref b6, .int tc', .int sc'] [b0, b1, b2, b3, b4, b5, b6] [el', po', se', fi', en', ma', tu']) := by
  refine metOf (by first | exact plainFor_of_name (by first | (simp [plainName, overriddenIn]; done) | decide +kernel) | decide +kernel) ?_
  intro p e s m below meth c s₁ hx hby hml hown hnm hret hlk hZ X0 e0
  have hown : s.vm.findClass "com/example/tracegauge/tracegauge/automata/PartitionSplitPinLaw" = some m.cls := hown
  obtain ⟨K, hK⟩ : ∃ K, K = KQ s (fun v h L => v = none ∧ Fr n0 L ∧ Obj Z n0 h0 h a1 "com/example/tracegauge/tracegauge/automata/Partition" nFp [.ref b0, .ref b1, .ref b2, .ref b3, .ref b4, .ref b5, .ref b6, .int tc', .int sc'] [b0, b1, b2, b3, b4, b5, b6] [el', po', se', fi', en', ma', tu']) (({ frames := 1, cells := 0, slots := 0, locals := 17 } : Room)).cells (({ frames := 1, cells := 0, slots := 0, locals := 17 } : Room)).slots := ⟨_, rfl⟩
  show Go p e below (KQ s (fun v h L => v = none ∧ Fr n0 L ∧ Obj Z n0 h0 h a1 "com/example/tracegauge/tracegauge/automata/Partition" nFp [.ref b0, .ref b1, .ref b2, .ref b3, .ref b4, .ref b5, .ref b6, .int tc', .int sc'] [b0, b1, b2, b3, b4, b5, b6] [el', po', se', fi', en', ma', tu']) (({ frames := 1, cells := 0, slots := 0, locals := 17 } : Room)).cells (({ frames := 1, cells := 0, slots := 0, locals := 17 } : Room)).slots) s₁ (entryFrame m #[(.ref a1), (.int p2), (.int p3)] 7)
  rw [← hK, ef_rm3 m a1 p2 p3]
  rw [msF] at hf
  show Go p e below _ s₁ (mkF m 0 #[.val (.ref a1), .val (.int p2), .val (.int p3), .unset, .unset, .unset, .unset] [])
  refine Go.to (fun _ => XS.iconst X0.here hx rfl (hb hby d3_0)) ?_
  show Go p e below _ s₁ (mkF m 1 #[.val (.ref a1), .val (.int p2), .val (.int p3), .unset, .unset, .unset, .unset] [(.int (0 : Int32))])
  refine Go.to (fun _ => XS.iloadN X0.here hx rfl (hb hby d3_1) rfl) ?_
  show Go p e below _ s₁ (mkF m 2 #[.val (.ref a1), .val (.int p2), .val (.int p3), .unset, .unset, .unset, .unset] [(.int p3), (.int (0 : Int32))])
  refine Go.to (fun _ => XS.ixor X0.here hx rfl (hb hby d3_2) rfl) ?_
  show Go p e below _ s₁ (mkF m 3 #[.val (.ref a1), .val (.int p2), .val (.int p3), .unset, .unset, .unset, .unset] [(.int ((0 : Int32) ^^^ p3))])
  refine Go.to (fun _ => XS.istoreN X0.here hx rfl (hb hby d3_3) rfl (l' := #[.val (.ref a1), .val (.int p2), .val (.int p3), .val (.int ((0 : Int32) ^^^ p3)), .unset, .unset, .unset]) rfl) ?_
  show Go p e below _ s₁ (mkF m 4 #[.val (.ref a1), .val (.int p2), .val (.int p3), .val (.int ((0 : Int32) ^^^ p3)), .unset, .unset, .unset] [])
  refine Go.to (fun _ => XS.iconst X0.here hx rfl (hb hby d3_4)) ?_
  show Go p e below _ s₁ (mkF m 5 #[.val (.ref a1), .val (.int p2), .val (.int p3), .val (.int ((0 : Int32) ^^^ p3)), .unset, .unset, .unset] [(.int (1 : Int32))])
  refine Go.to (fun _ => XS.iloadN X0.here hx rfl (hb hby d3_5) rfl) ?_
  show Go p e below _ s₁ (mkF m 6 #[.val (.ref a1), .val (.int p2), .val (.int p3), .val (.int ((0 : Int32) ^^^ p3)), .unset, .unset, .unset] [(.int p3), (.int (1 : Int32))])
  refine Go.to (fun _ => XS.ixor X0.here hx rfl (hb hby d3_6) rfl) ?_
  show Go p e below _ s₁ (mkF m 7 #[.val (.ref a1), .val (.int p2), .val (.int p3), .val (.int ((0 : Int32) ^^^ p3)), .unset, .unset, .unset] [(.int ((1 : Int32) ^^^ p3))])
  refine Go.to (fun _ => XS.istore X0.here hx rfl (hb hby d3_7) rfl (l' := #[.val (.ref a1), .val (.int p2), .val (.int p3), .val (.int ((0 : Int32) ^^^ p3)), .val (.int ((1 : Int32) ^^^ p3)), .unset, .unset]) rfl) ?_
  show Go p e below _ s₁ (mkF m 9 #[.val (.ref a1), .val (.int p2), .val (.int p3), .val (.int ((0 : Int32) ^^^ p3)), .val (.int ((1 : Int32) ^^^ p3)), .unset, .unset] [])
  refine Go.to (fun _ => XS.iconst X0.here hx rfl (hb hby d3_9)) ?_
  show Go p e below _ s₁ (mkF m 10 #[.val (.ref a1), .val (.int p2), .val (.int p3), .val (.int ((0 : Int32) ^^^ p3)), .val (.int ((1 : Int32) ^^^ p3)), .unset, .unset] [(.int (2 : Int32))])
  refine Go.to (fun _ => XS.iloadN X0.here hx rfl (hb hby d3_10) rfl) ?_
  show Go p e below _ s₁ (mkF m 11 #[.val (.ref a1), .val (.int p2), .val (.int p3), .val (.int ((0 : Int32) ^^^ p3)), .val (.int ((1 : Int32) ^^^ p3)), .unset, .unset] [(.int p3), (.int (2 : Int32))])
  refine Go.to (fun _ => XS.ixor X0.here hx rfl (hb hby d3_11) rfl) ?_
  show Go p e below _ s₁ (mkF m 12 #[.val (.ref a1), .val (.int p2), .val (.int p3), .val (.int ((0 : Int32) ^^^ p3)), .val (.int ((1 : Int32) ^^^ p3)), .unset, .unset] [(.int ((2 : Int32) ^^^ p3))])
  refine Go.to (fun _ => XS.istore X0.here hx rfl (hb hby d3_12) rfl (l' := #[.val (.ref a1), .val (.int p2), .val (.int p3), .val (.int ((0 : Int32) ^^^ p3)), .val (.int ((1 : Int32) ^^^ p3)), .val (.int ((2 : Int32) ^^^ p3)), .unset]) rfl) ?_
  show Go p e below _ s₁ (mkF m 14 #[.val (.ref a1), .val (.int p2), .val (.int p3), .val (.int ((0 : Int32) ^^^ p3)), .val (.int ((1 : Int32) ^^^ p3)), .val (.int ((2 : Int32) ^^^ p3)), .unset] [])
  refine Go.to (fun _ => XS.iconst X0.here hx rfl (hb hby d3_14)) ?_
  show Go p e below _ s₁ (mkF m 15 #[.val (.ref a1), .val (.int p2), .val (.int p3), .val (.int ((0 : Int32) ^^^ p3)), .val (.int ((1 : Int32) ^^^ p3)), .val (.int ((2 : Int32) ^^^ p3)), .unset] [(.int (3 : Int32))])
  refine Go.to (fun _ => XS.iloadN X0.here hx rfl (hb hby d3_15) rfl) ?_
  show Go p e below _ s₁ (mkF m 16 #[.val (.ref a1), .val (.int p2), .val (.int p3), .val (.int ((0 : Int32) ^^^ p3)), .val (.int ((1 : Int32) ^^^ p3)), .val (.int ((2 : Int32) ^^^ p3)), .unset] [(.int p3), (.int (3 : Int32))])
  refine Go.to (fun _ => XS.ixor X0.here hx rfl (hb hby d3_16) rfl) ?_
  show Go p e below _ s₁ (mkF m 17 #[.val (.ref a1), .val (.int p2), .val (.int p3), .val (.int ((0 : Int32) ^^^ p3)), .val (.int ((1 : Int32) ^^^ p3)), .val (.int ((2 : Int32) ^^^ p3)), .unset] [(.int ((3 : Int32) ^^^ p3))])
  refine Go.to (fun _ => XS.istore X0.here hx rfl (hb hby d3_17) rfl (l' := #[.val (.ref a1), .val (.int p2), .val (.int p3), .val (.int ((0 : Int32) ^^^ p3)), .val (.int ((1 : Int32) ^^^ p3)), .val (.int ((2 : Int32) ^^^ p3)), .val (.int ((3 : Int32) ^^^ p3))]) rfl) ?_
  show Go p e below _ s₁ (mkF m 19 #[.val (.ref a1), .val (.int p2), .val (.int p3), .val (.int ((0 : Int32) ^^^ p3)), .val (.int ((1 : Int32) ^^^ p3)), .val (.int ((2 : Int32) ^^^ p3)), .val (.int ((3 : Int32) ^^^ p3))] [])
  obtain ⟨⟨el1, po1, se1, fi1, en1, ma1, tu1, tc1, sc1⟩, hS0, hf⟩ := Option.bind_eq_some_iff.mp hf
  dsimp only at hf
  have hj0 : (∀ (T : State) (h : Heap) (L : List Loc), Stand p l e ({ frames := 1, cells := 0, slots := 0, locals := 17 } : Room) s m #[(.ref a1), (.int p2), (.int p3)] below meth c T L 0 0 → T.heap = h → Fr n0 L → Obj Z n0 h0 h a1 "com/example/tracegauge/tracegauge/automata/Partition" nFp [.ref b0, .ref b1, .ref b2, .ref b3, .ref b4, .ref b5, .ref b6, .int tc1, .int sc1] [b0, b1, b2, b3, b4, b5, b6] [el1, po1, se1, fi1, en1, ma1, tu1] → Go p e below K T (mkF m 33 #[.val (.ref a1), .val (.int p2), .val (.int p3), .val (.int ((0 : Int32) ^^^ p3)), .val (.int ((1 : Int32) ^^^ p3)), .val (.int ((2 : Int32) ^^^ p3)), .val (.int ((3 : Int32) ^^^ p3))] [])) → Go p e below K s₁ (mkF m 19 #[.val (.ref a1), .val (.int p2), .val (.int p3), .val (.int ((0 : Int32) ^^^ p3)), .val (.int ((1 : Int32) ^^^ p3)), .val (.int ((2 : Int32) ^^^ p3)), .val (.int ((3 : Int32) ^^^ p3))] []) := by
    intro kk
    rw [cbF] at hS0
    by_cases hck : fBit p2 ((0 : Int32) ^^^ p3) = (1 : Int32)
    · rw [if_pos hck] at hS0
      refine Go.to (fun _ => XS.iloadN X0.here hx rfl (hb hby d3_19) rfl) ?_
      show Go p e below _ s₁ (mkF m 20 #[.val (.ref a1), .val (.int p2), .val (.int p3), .val (.int ((0 : Int32) ^^^ p3)), .val (.int ((1 : Int32) ^^^ p3)), .val (.int ((2 : Int32) ^^^ p3)), .val (.int ((3 : Int32) ^^^ p3))] [(.int p2)])
      refine Go.to (fun _ => XS.iloadN X0.here hx rfl (hb hby d3_20) rfl) ?_
      show Go p e below _ s₁ (mkF m 21 #[.val (.ref a1), .val (.int p2), .val (.int p3), .val (.int ((0 : Int32) ^^^ p3)), .val (.int ((1 : Int32) ^^^ p3)), .val (.int ((2 : Int32) ^^^ p3)), .val (.int ((3 : Int32) ^^^ p3))] [(.int ((0 : Int32) ^^^ p3)), (.int p2)])
      refine Go.callS (y := (⟨"com/example/tracegauge/tracegauge/automata/PartitionSplitPinLaw", "bit", "(II)I"⟩ : MethodName)) X0 hx hZ hown (hw _ (List.mem_of_getElem? (i := 30) rfl)) (hw _ (List.mem_of_getElem? (i := 31) rfl)) (hw _ (List.mem_of_getElem? (i := 28) rfl)) (hw _ (List.mem_of_getElem? (i := 32) rfl)) (by decide) (rm4 l Z a0 hw [] p2 ((0 : Int32) ^^^ p3) h0) e0 (by rw [hml]; rfl) (pd_4) rfl (argsL := [(.int p2), (.int ((0 : Int32) ^^^ p3))]) (rest := []) rfl rfl (hb hby d3_21) (by decide) (Nat.le_of_ble_eq_true rfl) (by decide) (by decide) ?_
      rintro T1 _ L1 X1 ⟨rfl, e1, rfl⟩
      simp only [List.append_nil] at X1
      show Go p e below _ T1 (mkF m 24 #[.val (.ref a1), .val (.int p2), .val (.int p3), .val (.int ((0 : Int32) ^^^ p3)), .val (.int ((1 : Int32) ^^^ p3)), .val (.int ((2 : Int32) ^^^ p3)), .val (.int ((3 : Int32) ^^^ p3))] [(.int (fBit p2 ((0 : Int32) ^^^ p3)))])
      refine Go.to (fun _ => XS.iconst X1.here hx rfl (hb hby d3_24)) ?_
      show Go p e below _ T1 (mkF m 25 #[.val (.ref a1), .val (.int p2), .val (.int p3), .val (.int ((0 : Int32) ^^^ p3)), .val (.int ((1 : Int32) ^^^ p3)), .val (.int ((2 : Int32) ^^^ p3)), .val (.int ((3 : Int32) ^^^ p3))] [(.int (1 : Int32)), (.int (fBit p2 ((0 : Int32) ^^^ p3)))])
      refine Go.to (fun _ => XS.icmpNo X1.here hx rfl (hb hby d3_25) rfl (teq hck).2) ?_
      show Go p e below _ T1 (mkF m 28 #[.val (.ref a1), .val (.int p2), .val (.int p3), .val (.int ((0 : Int32) ^^^ p3)), .val (.int ((1 : Int32) ^^^ p3)), .val (.int ((2 : Int32) ^^^ p3)), .val (.int ((3 : Int32) ^^^ p3))] [])
      refine Go.to (fun _ => XS.aloadN X1.here hx rfl (hb hby d3_28) rfl rfl) ?_
      show Go p e below _ T1 (mkF m 29 #[.val (.ref a1), .val (.int p2), .val (.int p3), .val (.int ((0 : Int32) ^^^ p3)), .val (.int ((1 : Int32) ^^^ p3)), .val (.int ((2 : Int32) ^^^ p3)), .val (.int ((3 : Int32) ^^^ p3))] [(.ref a1)])
      refine Go.to (fun _ => XS.iloadN X1.here hx rfl (hb hby d3_29) rfl) ?_
      show Go p e below _ T1 (mkF m 30 #[.val (.ref a1), .val (.int p2), .val (.int p3), .val (.int ((0 : Int32) ^^^ p3)), .val (.int ((1 : Int32) ^^^ p3)), .val (.int ((2 : Int32) ^^^ p3)), .val (.int ((3 : Int32) ^^^ p3))] [(.int ((0 : Int32) ^^^ p3)), (.ref a1)])
      refine Go.callV (y := (⟨"com/example/tracegauge/tracegauge/automata/Partition", "mark", "(I)V"⟩ : MethodName)) X1 hx hZ hown (hw _ (List.mem_of_getElem? (i := 53) rfl)) (hw _ (List.mem_of_getElem? (i := 54) rfl)) (hw _ (List.mem_of_getElem? (i := 56) rfl)) (hw _ (List.mem_of_getElem? (i := 55) rfl)) (hw _ (List.mem_of_getElem? (i := 2) rfl)) (hw _ (List.mem_of_getElem? (i := 57) rfl)) (by decide) (rm9 l Z a0 hw [] a1 ((0 : Int32) ^^^ p3) h0 n0 b0 b1 b2 b3 b4 b5 b6 el po se fi en ma tu tc sc O.anew el1 po1 se1 fi1 en1 ma1 tu1 tc1 sc1 hS0) e1 O.exa (by rw [hml]; rfl) (pd_0) rfl (argsL := [(.int ((0 : Int32) ^^^ p3))]) (rest := []) rfl rfl (hb hby d3_30) (by decide) (Nat.le_of_ble_eq_true rfl) (by decide) (by decide) ?_
      rintro T2 _ L2 X2 ⟨rfl, N2, O2⟩
      exact kk _ _ _ X2 rfl (Fr.app (Fr.nil n0) N2) (O2.rebase O.kept)
    · rw [if_neg hck] at hS0
      simp only [Option.some.injEq, Prod.mk.injEq] at hS0
      obtain ⟨rfl, rfl, rfl, rfl, rfl, rfl, rfl, rfl, rfl⟩ := hS0
      refine Go.to (fun _ => XS.iloadN X0.here hx rfl (hb hby d3_19) rfl) ?_
      show Go p e below _ s₁ (mkF m 20 #[.val (.ref a1), .val (.int p2), .val (.int p3), .val (.int ((0 : Int32) ^^^ p3)), .val (.int ((1 : Int32) ^^^ p3)), .val (.int ((2 : Int32) ^^^ p3)), .val (.int ((3 : Int32) ^^^ p3))] [(.int p2)])
      refine Go.to (fun _ => XS.iloadN X0.here hx rfl (hb hby d3_20) rfl) ?_
      show Go p e below _ s₁ (mkF m 21 #[.val (.ref a1), .val (.int p2), .val (.int p3), .val (.int ((0 : Int32) ^^^ p3)), .val (.int ((1 : Int32) ^^^ p3)), .val (.int ((2 : Int32) ^^^ p3)), .val (.int ((3 : Int32) ^^^ p3))] [(.int ((0 : Int32) ^^^ p3)), (.int p2)])
      refine Go.callS (y := (⟨"com/example/tracegauge/tracegauge/automata/PartitionSplitPinLaw", "bit", "(II)I"⟩ : MethodName)) X0 hx hZ hown (hw _ (List.mem_of_getElem? (i := 30) rfl)) (hw _ (List.mem_of_getElem? (i := 31) rfl)) (hw _ (List.mem_of_getElem? (i := 28) rfl)) (hw _ (List.mem_of_getElem? (i := 32) rfl)) (by decide) (rm4 l Z a0 hw [] p2 ((0 : Int32) ^^^ p3) h0) e0 (by rw [hml]; rfl) (pd_4) rfl (argsL := [(.int p2), (.int ((0 : Int32) ^^^ p3))]) (rest := []) rfl rfl (hb hby d3_21) (by decide) (Nat.le_of_ble_eq_true rfl) (by decide) (by decide) ?_
      rintro T3 _ L3 X3 ⟨rfl, e3, rfl⟩
      simp only [List.append_nil] at X3
      show Go p e below _ T3 (mkF m 24 #[.val (.ref a1), .val (.int p2), .val (.int p3), .val (.int ((0 : Int32) ^^^ p3)), .val (.int ((1 : Int32) ^^^ p3)), .val (.int ((2 : Int32) ^^^ p3)), .val (.int ((3 : Int32) ^^^ p3))] [(.int (fBit p2 ((0 : Int32) ^^^ p3)))])
      refine Go.to (fun _ => XS.iconst X3.here hx rfl (hb hby d3_24)) ?_
      show Go p e below _ T3 (mkF m 25 #[.val (.ref a1), .val (.int p2), .val (.int p3), .val (.int ((0 : Int32) ^^^ p3)), .val (.int ((1 : Int32) ^^^ p3)), .val (.int ((2 : Int32) ^^^ p3)), .val (.int ((3 : Int32) ^^^ p3))] [(.int (1 : Int32)), (.int (fBit p2 ((0 : Int32) ^^^ p3)))])
      refine Go.to (fun _ => XS.icmpYes X3.here hx rfl (pc0 := 25) (pc' := 33) rfl (hb hby d3_25) rfl (feq hck).2 (by decide) (by decide)) ?_
      show Go p e below _ T3 (mkF m 33 #[.val (.ref a1), .val (.int p2), .val (.int p3), .val (.int ((0 : Int32) ^^^ p3)), .val (.int ((1 : Int32) ^^^ p3)), .val (.int ((2 : Int32) ^^^ p3)), .val (.int ((3 : Int32) ^^^ p3))] [])
      exact kk _ _ _ X3 e3 (Fr.nil n0) O
  refine hj0 (fun T h L X e' N O => ?_)
  clear hj0 hS0
  show Go p e below _ T (mkF m 33 #[.val (.ref a1), .val (.int p2), .val (.int p3), .val (.int ((0 : Int32) ^^^ p3)), .val (.int ((1 : Int32) ^^^ p3)), .val (.int ((2 : Int32) ^^^ p3)), .val (.int ((3 : Int32) ^^^ p3))] [])
  obtain ⟨⟨el2, po2, se2, fi2, en2, ma2, tu2, tc2, sc2⟩, hS1, hf⟩ := Option.bind_eq_some_iff.mp hf
  dsimp only at hf
  have hj1 : (∀ (T : State) (h : Heap) (L : List Loc), Stand p l e ({ frames := 1, cells := 0, slots := 0, locals := 17 } : Room) s m #[(.ref a1), (.int p2), (.int p3)] below meth c T L 0 0 → T.heap = h → Fr n0 L → Obj Z n0 h0 h a1 "com/example/tracegauge/tracegauge/automata/Partition" nFp [.ref b0, .ref b1, .ref b2, .ref b3, .ref b4, .ref b5, .ref b6, .int tc2, .int sc2] [b0, b1, b2, b3, b4, b5, b6] [el2, po2, se2, fi2, en2, ma2, tu2] → Go p e below K T (mkF m 49 #[.val (.ref a1), .val (.int p2), .val (.int p3), .val (.int ((0 : Int32) ^^^ p3)), .val (.int ((1 : Int32) ^^^ p3)), .val (.int ((2 : Int32) ^^^ p3)), .val (.int ((3 : Int32) ^^^ p3))] [])) → Go p e below K T (mkF m 33 #[.val (.ref a1), .val (.int p2), .val (.int p3), .val (.int ((0 : Int32) ^^^ p3)), .val (.int ((1 : Int32) ^^^ p3)), .val (.int ((2 : Int32) ^^^ p3)), .val (.int ((3 : Int32) ^^^ p3))] []) := by
    intro kk
    rw [cbF] at hS1
    by_cases hck : fBit p2 ((1 : Int32) ^^^ p3) = (1 : Int32)
    · rw [if_pos hck] at hS1
      refine Go.to (fun _ => XS.iloadN X.here hx rfl (hb hby d3_33) rfl) ?_
      show Go p e below _ T (mkF m 34 #[.val (.ref a1), .val (.int p2), .val (.int p3), .val (.int ((0 : Int32) ^^^ p3)), .val (.int ((1 : Int32) ^^^ p3)), .val (.int ((2 : Int32) ^^^ p3)), .val (.int ((3 : Int32) ^^^ p3))] [(.int p2)])
      refine Go.to (fun _ => XS.iload X.here hx rfl (hb hby d3_34) rfl) ?_
      show Go p e below _ T (mkF m 36 #[.val (.ref a1), .val (.int p2), .val (.int p3), .val (.int ((0 : Int32) ^^^ p3)), .val (.int ((1 : Int32) ^^^ p3)), .val (.int ((2 : Int32) ^^^ p3)), .val (.int ((3 : Int32) ^^^ p3))] [(.int ((1 : Int32) ^^^ p3)), (.int p2)])
      refine Go.callS (y := (⟨"com/example/tracegauge/tracegauge/automata/PartitionSplitPinLaw", "bit", "(II)I"⟩ : MethodName)) X hx hZ hown (hw _ (List.mem_of_getElem? (i := 30) rfl)) (hw _ (List.mem_of_getElem? (i := 31) rfl)) (hw _ (List.mem_of_getElem? (i := 28) rfl)) (hw _ (List.mem_of_getElem? (i := 32) rfl)) (by decide) (rm4 l Z a0 hw [] p2 ((1 : Int32) ^^^ p3) h) e' (by rw [hml]; rfl) (pd_4) rfl (argsL := [(.int p2), (.int ((1 : Int32) ^^^ p3))]) (rest := []) rfl rfl (hb hby d3_36) (by decide) (Nat.le_of_ble_eq_true rfl) (by decide) (by decide) ?_
      rintro T4 _ L4 X4 ⟨rfl, e4, rfl⟩
      simp only [List.append_nil] at X4
      show Go p e below _ T4 (mkF m 39 #[.val (.ref a1), .val (.int p2), .val (.int p3), .val (.int ((0 : Int32) ^^^ p3)), .val (.int ((1 : Int32) ^^^ p3)), .val (.int ((2 : Int32) ^^^ p3)), .val (.int ((3 : Int32) ^^^ p3))] [(.int (fBit p2 ((1 : Int32) ^^^ p3)))])
      refine Go.to (fun _ => XS.iconst X4.here hx rfl (hb hby d3_39)) ?_
      show Go p e below _ T4 (mkF m 40 #[.val (.ref a1), .val (.int p2), .val (.int p3), .val (.int ((0 : Int32) ^^^ p3)), .val (.int ((1 : Int32) ^^^ p3)), .val (.int ((2 : Int32) ^^^ p3)), .val (.int ((3 : Int32) ^^^ p3))] [(.int (1 : Int32)), (.int (fBit p2 ((1 : Int32) ^^^ p3)))])
      refine Go.to (fun _ => XS.icmpNo X4.here hx rfl (hb hby d3_40) rfl (teq hck).2) ?_
      show Go p e below _ T4 (mkF m 43 #[.val (.ref a1), .val (.int p2), .val (.int p3), .val (.int ((0 : Int32) ^^^ p3)), .val (.int ((1 : Int32) ^^^ p3)), .val (.int ((2 : Int32) ^^^ p3)), .val (.int ((3 : Int32) ^^^ p3))] [])
      refine Go.to (fun _ => XS.aloadN X4.here hx rfl (hb hby d3_43) rfl rfl) ?_
      show Go p e below _ T4 (mkF m 44 #[.val (.ref a1), .val (.int p2), .val (.int p3), .val (.int ((0 : Int32) ^^^ p3)), .val (.int ((1 : Int32) ^^^ p3)), .val (.int ((2 : Int32) ^^^ p3)), .val (.int ((3 : Int32) ^^^ p3))] [(.ref a1)])
      refine Go.to (fun _ => XS.iload X4.here hx rfl (hb hby d3_44) rfl) ?_
      show Go p e below _ T4 (mkF m 46 #[.val (.ref a1), .val (.int p2), .val (.int p3), .val (.int ((0 : Int32) ^^^ p3)), .val (.int ((1 : Int32) ^^^ p3)), .val (.int ((2 : Int32) ^^^ p3)), .val (.int ((3 : Int32) ^^^ p3))] [(.int ((1 : Int32) ^^^ p3)), (.ref a1)])
      refine Go.callV (y := (⟨"com/example/tracegauge/tracegauge/automata/Partition", "mark", "(I)V"⟩ : MethodName)) X4 hx hZ hown (hw _ (List.mem_of_getElem? (i := 53) rfl)) (hw _ (List.mem_of_getElem? (i := 54) rfl)) (hw _ (List.mem_of_getElem? (i := 56) rfl)) (hw _ (List.mem_of_getElem? (i := 55) rfl)) (hw _ (List.mem_of_getElem? (i := 2) rfl)) (hw _ (List.mem_of_getElem? (i := 57) rfl)) (by decide) (rm9 l Z a0 hw [] a1 ((1 : Int32) ^^^ p3) h n0 b0 b1 b2 b3 b4 b5 b6 el1 po1 se1 fi1 en1 ma1 tu1 tc1 sc1 O.anew el2 po2 se2 fi2 en2 ma2 tu2 tc2 sc2 hS1) e4 O.exa (by rw [hml]; rfl) (pd_0) rfl (argsL := [(.int ((1 : Int32) ^^^ p3))]) (rest := []) rfl rfl (hb hby d3_46) (by decide) (Nat.le_of_ble_eq_true rfl) (by decide) (by decide) ?_
      rintro T5 _ L5 X5 ⟨rfl, N5, O5⟩
      exact kk _ _ _ X5 rfl (Fr.app N N5) (O5.rebase O.kept)
    · rw [if_neg hck] at hS1
      simp only [Option.some.injEq, Prod.mk.injEq] at hS1
      obtain ⟨rfl, rfl, rfl, rfl, rfl, rfl, rfl, rfl, rfl⟩ := hS1
      refine Go.to (fun _ => XS.iloadN X.here hx rfl (hb hby d3_33) rfl) ?_
      show Go p e below _ T (mkF m 34 #[.val (.ref a1), .val (.int p2), .val (.int p3), .val (.int ((0 : Int32) ^^^ p3)), .val (.int ((1 : Int32) ^^^ p3)), .val (.int ((2 : Int32) ^^^ p3)), .val (.int ((3 : Int32) ^^^ p3))] [(.int p2)])
      refine Go.to (fun _ => XS.iload X.here hx rfl (hb hby d3_34) rfl) ?_
      show Go p e below _ T (mkF m 36 #[.val (.ref a1), .val (.int p2), .val (.int p3), .val (.int ((0 : Int32) ^^^ p3)), .val (.int ((1 : Int32) ^^^ p3)), .val (.int ((2 : Int32) ^^^ p3)), .val (.int ((3 : Int32) ^^^ p3))] [(.int ((1 : Int32) ^^^ p3)), (.int p2)])
      refine Go.callS (y := (⟨"com/example/tracegauge/tracegauge/automata/PartitionSplitPinLaw", "bit", "(II)I"⟩ : MethodName)) X hx hZ hown (hw _ (List.mem_of_getElem? (i := 30) rfl)) (hw _ (List.mem_of_getElem? (i := 31) rfl)) (hw _ (List.mem_of_getElem? (i := 28) rfl)) (hw _ (List.mem_of_getElem? (i := 32) rfl)) (by decide) (rm4 l Z a0 hw [] p2 ((1 : Int32) ^^^ p3) h) e' (by rw [hml]; rfl) (pd_4) rfl (argsL := [(.int p2), (.int ((1 : Int32) ^^^ p3))]) (rest := []) rfl rfl (hb hby d3_36) (by decide) (Nat.le_of_ble_eq_true rfl) (by decide) (by decide) ?_
      rintro T6 _ L6 X6 ⟨rfl, e6, rfl⟩
      simp only [List.append_nil] at X6
      show Go p e below _ T6 (mkF m 39 #[.val (.ref a1), .val (.int p2), .val (.int p3), .val (.int ((0 : Int32) ^^^ p3)), .val (.int ((1 : Int32) ^^^ p3)), .val (.int ((2 : Int32) ^^^ p3)), .val (.int ((3 : Int32) ^^^ p3))] [(.int (fBit p2 ((1 : Int32) ^^^ p3)))])
      refine Go.to (fun _ => XS.iconst X6.here hx rfl (hb hby d3_39)) ?_
      show Go p e below _ T6 (mkF m 40 #[.val (.ref a1), .val (.int p2), .val (.int p3), .val (.int ((0 : Int32) ^^^ p3)), .val (.int ((1 : Int32) ^^^ p3)), .val (.int ((2 : Int32) ^^^ p3)), .val (.int ((3 : Int32) ^^^ p3))] [(.int (1 : Int32)), (.int (fBit p2 ((1 : Int32) ^^^ p3)))])
      refine Go.to (fun _ => XS.icmpYes X6.here hx rfl (pc0 := 40) (pc' := 49) rfl (hb hby d3_40) rfl (feq hck).2 (by decide) (by decide)) ?_
      show Go p e below _ T6 (mkF m 49 #[.val (.ref a1), .val (.int p2), .val (.int p3), .val (.int ((0 : Int32) ^^^ p3)), .val (.int ((1 : Int32) ^^^ p3)), .val (.int ((2 : Int32) ^^^ p3)), .val (.int ((3 : Int32) ^^^ p3))] [])
      exact kk _ _ _ X6 e6 N O
  refine hj1 (fun T h L X e' N O => ?_)
  clear hj1 hS1
  show Go p e below _ T (mkF m 49 #[.val (.ref a1), .val (.int p2), .val (.int p3), .val (.int ((0 : Int32) ^^^ p3)), .val (.int ((1 : Int32) ^^^ p3)), .val (.int ((2 : Int32) ^^^ p3)), .val (.int ((3 : Int32) ^^^ p3))] [])
  obtain ⟨⟨el3, po3, se3, fi3, en3, ma3, tu3, tc3, sc3⟩, hS2, hf⟩ := Option.bind_eq_some_iff.mp hf
  dsimp only at hf
  have hj2 : (∀ (T : State) (h : Heap) (L : List Loc), Stand p l e ({ frames := 1, cells := 0, slots := 0, locals := 17 } : Room) s m #[(.ref a1), (.int p2), (.int p3)] below meth c T L 0 0 → T.heap = h → Fr n0 L → Obj Z n0 h0 h a1 "com/example/tracegauge/tracegauge/automata/Partition" nFp [.ref b0, .ref b1, .ref b2, .ref b3, .ref b4, .ref b5, .ref b6, .int tc3, .int sc3] [b0, b1, b2, b3, b4, b5, b6] [el3, po3, se3, fi3, en3, ma3, tu3] → Go p e below K T (mkF m 65 #[.val (.ref a1), .val (.int p2), .val (.int p3), .val (.int ((0 : Int32) ^^^ p3)), .val (.int ((1 : Int32) ^^^ p3)), .val (.int ((2 : Int32) ^^^ p3)), .val (.int ((3 : Int32) ^^^ p3))] [])) → Go p e below K T (mkF m 49 #[.val (.ref a1), .val (.int p2), .val (.int p3), .val (.int ((0 : Int32) ^^^ p3)), .val (.int ((1 : Int32) ^^^ p3)), .val (.int ((2 : Int32) ^^^ p3)), .val (.int ((3 : Int32) ^^^ p3))] []) := by
    intro kk
    rw [cbF] at hS2
    by_cases hck : fBit p2 ((2 : Int32) ^^^ p3) = (1 : Int32)
    · rw [if_pos hck] at hS2
      refine Go.to (fun _ => XS.iloadN X.here hx rfl (hb hby d3_49) rfl) ?_
      show Go p e below _ T (mkF m 50 #[.val (.ref a1), .val (.int p2), .val (.int p3), .val (.int ((0 : Int32) ^^^ p3)), .val (.int ((1 : Int32) ^^^ p3)), .val (.int ((2 : Int32) ^^^ p3)), .val (.int ((3 : Int32) ^^^ p3))] [(.int p2)])
      refine Go.to (fun _ => XS.iload X.here hx rfl (hb hby d3_50) rfl) ?_
      show Go p e below _ T (mkF m 52 #[.val (.ref a1), .val (.int p2), .val (.int p3), .val (.int ((0 : Int32) ^^^ p3)), .val (.int ((1 : Int32) ^^^ p3)), .val (.int ((2 : Int32) ^^^ p3)), .val (.int ((3 : Int32) ^^^ p3))] [(.int ((2 : Int32) ^^^ p3)), (.int p2)])
      refine Go.callS (y := (⟨"com/example/tracegauge/tracegauge/automata/PartitionSplitPinLaw", "bit", "(II)I"⟩ : MethodName)) X hx hZ hown (hw _ (List.mem_of_getElem? (i := 30) rfl)) (hw _ (List.mem_of_getElem? (i := 31) rfl)) (hw _ (List.mem_of_getElem? (i := 28) rfl)) (hw _ (List.mem_of_getElem? (i := 32) rfl)) (by decide) (rm4 l Z a0 hw [] p2 ((2 : Int32) ^^^ p3) h) e' (by rw [hml]; rfl) (pd_4) rfl (argsL := [(.int p2), (.int ((2 : Int32) ^^^ p3))]) (rest := []) rfl rfl (hb hby d3_52) (by decide) (Nat.le_of_ble_eq_true rfl) (by decide) (by decide) ?_
      rintro T7 _ L7 X7 ⟨rfl, e7, rfl⟩
      simp only [List.append_nil] at X7
      show Go p e below _ T7 (mkF m 55 #[.val (.ref a1), .val (.int p2), .val (.int p3), .val (.int ((0 : Int32) ^^^ p3)), .val (.int ((1 : Int32) ^^^ p3)), .val (.int ((2 : Int32) ^^^ p3)), .val (.int ((3 : Int32) ^^^ p3))] [(.int (fBit p2 ((2 : Int32) ^^^ p3)))])
      refine Go.to (fun _ => XS.iconst X7.here hx rfl (hb hby d3_55)) ?_
      show Go p e below _ T7 (mkF m 56 #[.val (.ref a1), .val (.int p2), .val (.int p3), .val (.int ((0 : Int32) ^^^ p3)), .val (.int ((1 : Int32) ^^^ p3)), .val (.int ((2 : Int32) ^^^ p3)), .val (.int ((3 : Int32) ^^^ p3))] [(.int (1 : Int32)), (.int (fBit p2 ((2 : Int32) ^^^ p3)))])
      refine Go.to (fun _ => XS.icmpNo X7.here hx rfl (hb hby d3_56) rfl (teq hck).2) ?_
      show Go p e below _ T7 (mkF m 59 #[.val (.ref a1), .val (.int p2), .val (.int p3), .val (.int ((0 : Int32) ^^^ p3)), .val (.int ((1 : Int32) ^^^ p3)), .val (.int ((2 : Int32) ^^^ p3)), .val (.int ((3 : Int32) ^^^ p3))] [])
      refine Go.to (fun _ => XS.aloadN X7.here hx rfl (hb hby d3_59) rfl rfl) ?_
      show Go p e below _ T7 (mkF m 60 #[.val (.ref a1), .val (.int p2), .val (.int p3), .val (.int ((0 : Int32) ^^^ p3)), .val (.int ((1 : Int32) ^^^ p3)), .val (.int ((2 : Int32) ^^^ p3)), .val (.int ((3 : Int32) ^^^ p3))] [(.ref a1)])
      refine Go.to (fun _ => XS.iload X7.here hx rfl (hb hby d3_60) rfl) ?_
      show Go p e below _ T7 (mkF m 62 #[.val (.ref a1), .val (.int p2), .val (.int p3), .val (.int ((0 : Int32) ^^^ p3)), .val (.int ((1 : Int32) ^^^ p3)), .val (.int ((2 : Int32) ^^^ p3)), .val (.int ((3 : Int32) ^^^ p3))] [(.int ((2 : Int32) ^^^ p3)), (.ref a1)])
      refine Go.callV (y := (⟨"com/example/tracegauge/tracegauge/automata/Partition", "mark", "(I)V"⟩ : MethodName)) X7 hx hZ hown (hw _ (List.mem_of_getElem? (i := 53) rfl)) (hw _ (List.mem_of_getElem? (i := 54) rfl)) (hw _ (List.mem_of_getElem? (i := 56) rfl)) (hw _ (List.mem_of_getElem? (i := 55) rfl)) (hw _ (List.mem_of_getElem? (i := 2) rfl)) (hw _ (List.mem_of_getElem? (i := 57) rfl)) (by decide) (rm9 l Z a0 hw [] a1 ((2 : Int32) ^^^ p3) h n0 b0 b1 b2 b3 b4 b5 b6 el2 po2 se2 fi2 en2 ma2 tu2 tc2 sc2 O.anew el3 po3 se3 fi3 en3 ma3 tu3 tc3 sc3 hS2) e7 O.exa (by rw [hml]; rfl) (pd_0) rfl (argsL := [(.int ((2 : Int32) ^^^ p3))]) (rest := []) rfl rfl (hb hby d3_62) (by decide) (Nat.le_of_ble_eq_true rfl) (by decide) (by decide) ?_
      rintro T8 _ L8 X8 ⟨rfl, N8, O8⟩
      exact kk _ _ _ X8 rfl (Fr.app N N8) (O8.rebase O.kept)
    · rw [if_neg hck] at hS2
      simp only [Option.some.injEq, Prod.mk.injEq] at hS2
      obtain ⟨rfl, rfl, rfl, rfl, rfl, rfl, rfl, rfl, rfl⟩ := hS2
      refine Go.to (fun _ => XS.iloadN X.here hx rfl (hb hby d3_49) rfl) ?_
      show Go p e below _ T (mkF m 50 #[.val (.ref a1), .val (.int p2), .val (.int p3), .val (.int ((0 : Int32) ^^^ p3)), .val (.int ((1 : Int32) ^^^ p3)), .val (.int ((2 : Int32) ^^^ p3)), .val (.int ((3 : Int32) ^^^ p3))] [(.int p2)])
      refine Go.to (fun _ => XS.iload X.here hx rfl (hb hby d3_50) rfl) ?_
      show Go p e below _ T (mkF m 52 #[.val (.ref a1), .val (.int p2), .val (.int p3), .val (.int ((0 : Int32) ^^^ p3)), .val (.int ((1 : Int32) ^^^ p3)), .val (.int ((2 : Int32) ^^^ p3)), .val (.int ((3 : Int32) ^^^ p3))] [(.int ((2 : Int32) ^^^ p3)), (.int p2)])
      refine Go.callS (y := (⟨"com/example/tracegauge/tracegauge/automata/PartitionSplitPinLaw", "bit", "(II)I"⟩ : MethodName)) X hx hZ hown (hw _ (List.mem_of_getElem? (i := 30) rfl)) (hw _ (List.mem_of_getElem? (i := 31) rfl)) (hw _ (List.mem_of_getElem? (i := 28) rfl)) (hw _ (List.mem_of_getElem? (i := 32) rfl)) (by decide) (rm4 l Z a0 hw [] p2 ((2 : Int32) ^^^ p3) h) e' (by rw [hml]; rfl) (pd_4) rfl (argsL := [(.int p2), (.int ((2 : Int32) ^^^ p3))]) (rest := []) rfl rfl (hb hby d3_52) (by decide) (Nat.le_of_ble_eq_true rfl) (by decide) (by decide) ?_
      rintro T9 _ L9 X9 ⟨rfl, e9, rfl⟩
      simp only [List.append_nil] at X9
      show Go p e below _ T9 (mkF m 55 #[.val (.ref a1), .val (.int p2), .val (.int p3), .val (.int ((0 : Int32) ^^^ p3)), .val (.int ((1 : Int32) ^^^ p3)), .val (.int ((2 : Int32) ^^^ p3)), .val (.int ((3 : Int32) ^^^ p3))] [(.int (fBit p2 ((2 : Int32) ^^^ p3)))])
      refine Go.to (fun _ => XS.iconst X9.here hx rfl (hb hby d3_55)) ?_
      show Go p e below _ T9 (mkF m 56 #[.val (.ref a1), .val (.int p2), .val (.int p3), .val (.int ((0 : Int32) ^^^ p3)), .val (.int ((1 : Int32) ^^^ p3)), .val (.int ((2 : Int32) ^^^ p3)), .val (.int ((3 : Int32) ^^^ p3))] [(.int (1 : Int32)), (.int (fBit p2 ((2 : Int32) ^^^ p3)))])
      refine Go.to (fun _ => XS.icmpYes X9.here hx rfl (pc0 := 56) (pc' := 65) rfl (hb hby d3_56) rfl (feq hck).2 (by decide) (by decide)) ?_
      show Go p e below _ T9 (mkF m 65 #[.val (.ref a1), .val (.int p2), .val (.int p3), .val (.int ((0 : Int32) ^^^ p3)), .val (.int ((1 : Int32) ^^^ p3)), .val (.int ((2 : Int32) ^^^ p3)), .val (.int ((3 : Int32) ^^^ p3))] [])
      exact kk _ _ _ X9 e9 N O
  refine hj2 (fun T h L X e' N O => ?_)
  clear hj2 hS2
  show Go p e below _ T (mkF m 65 #[.val (.ref a1), .val (.int p2), .val (.int p3), .val (.int ((0 : Int32) ^^^ p3)), .val (.int ((1 : Int32) ^^^ p3)), .val (.int ((2 : Int32) ^^^ p3)), .val (.int ((3 : Int32) ^^^ p3))] [])
  obtain ⟨⟨el4, po4, se4, fi4, en4, ma4, tu4, tc4, sc4⟩, hS3, hf⟩ := Option.bind_eq_some_iff.mp hf
  dsimp only at hf
  have hj3 : (∀ (T : State) (h : Heap) (L : List Loc), Stand p l e ({ frames := 1, cells := 0, slots := 0, locals := 17 } : Room) s m #[(.ref a1), (.int p2), (.int p3)] below meth c T L 0 0 → T.heap = h → Fr n0 L → Obj Z n0 h0 h a1 "com/example/tracegauge/tracegauge/automata/Partition" nFp [.ref b0, .ref b1, .ref b2, .ref b3, .ref b4, .ref b5, .ref b6, .int tc4, .int sc4] [b0, b1, b2, b3, b4, b5, b6] [el4, po4, se4, fi4, en4, ma4, tu4] → Go p e below K T (mkF m 81 #[.val (.ref a1), .val (.int p2), .val (.int p3), .val (.int ((0 : Int32) ^^^ p3)), .val (.int ((1 : Int32) ^^^ p3)), .val (.int ((2 : Int32) ^^^ p3)), .val (.int ((3 : Int32) ^^^ p3))] [])) → Go p e below K T (mkF m 65 #[.val (.ref a1), .val (.int p2), .val (.int p3), .val (.int ((0 : Int32) ^^^ p3)), .val (.int ((1 : Int32) ^^^ p3)), .val (.int ((2 : Int32) ^^^ p3)), .val (.int ((3 : Int32) ^^^ p3))] []) := by
    intro kk
    rw [cbF] at hS3
    by_cases hck : fBit p2 ((3 : Int32) ^^^ p3) = (1 : Int32)
    · rw [if_pos hck] at hS3
      refine Go.to (fun _ => XS.iloadN X.here hx rfl (hb hby d3_65) rfl) ?_
      show Go p e below _ T (mkF m 66 #[.val (.ref a1), .val (.int p2), .val (.int p3), .val (.int ((0 : Int32) ^^^ p3)), .val (.int ((1 : Int32) ^^^ p3)), .val (.int ((2 : Int32) ^^^ p3)), .val (.int ((3 : Int32) ^^^ p3))] [(.int p2)])
      refine Go.to (fun _ => XS.iload X.here hx rfl (hb hby d3_66) rfl) ?_
      show Go p e below _ T (mkF m 68 #[.val (.ref a1), .val (.int p2), .val (.int p3), .val (.int ((0 : Int32) ^^^ p3)), .val (.int ((1 : Int32) ^^^ p3)), .val (.int ((2 : Int32) ^^^ p3)), .val (.int ((3 : Int32) ^^^ p3))] [(.int ((3 : Int32) ^^^ p3)), (.int p2)])
      refine Go.callS (y := (⟨"com/example/tracegauge/tracegauge/automata/PartitionSplitPinLaw", "bit", "(II)I"⟩ : MethodName)) X hx hZ hown (hw _ (List.mem_of_getElem? (i := 30) rfl)) (hw _ (List.mem_of_getElem? (i := 31) rfl)) (hw _ (List.mem_of_getElem? (i := 28) rfl)) (hw _ (List.mem_of_getElem? (i := 32) rfl)) (by decide) (rm4 l Z a0 hw [] p2 ((3 : Int32) ^^^ p3) h) e' (by rw [hml]; rfl) (pd_4) rfl (argsL := [(.int p2), (.int ((3 : Int32) ^^^ p3))]) (rest := []) rfl rfl (hb hby d3_68) (by decide) (Nat.le_of_ble_eq_true rfl) (by decide) (by decide) ?_
      rintro T10 _ L10 X10 ⟨rfl, e10, rfl⟩
      simp only [List.append_nil] at X10
      show Go p e below _ T10 (mkF m 71 #[.val (.ref a1), .val (.int p2), .val (.int p3), .val (.int ((0 : Int32) ^^^ p3)), .val (.int ((1 : Int32) ^^^ p3)), .val (.int ((2 : Int32) ^^^ p3)), .val (.int ((3 : Int32) ^^^ p3))] [(.int (fBit p2 ((3 : Int32) ^^^ p3)))])
      refine Go.to (fun _ => XS.iconst X10.here hx rfl (hb hby d3_71)) ?_
      show Go p e below _ T10 (mkF m 72 #[.val (.ref a1), .val (.int p2), .val (.int p3), .val (.int ((0 : Int32) ^^^ p3)), .val (.int ((1 : Int32) ^^^ p3)), .val (.int ((2 : Int32) ^^^ p3)), .val (.int ((3 : Int32) ^^^ p3))] [(.int (1 : Int32)), (.int (fBit p2 ((3 : Int32) ^^^ p3)))])
      refine Go.to (fun _ => XS.icmpNo X10.here hx rfl (hb hby d3_72) rfl (teq hck).2) ?_
      show Go p e below _ T10 (mkF m 75 #[.val (.ref a1), .val (.int p2), .val (.int p3), .val (.int ((0 : Int32) ^^^ p3)), .val (.int ((1 : Int32) ^^^ p3)), .val (.int ((2 : Int32) ^^^ p3)), .val (.int ((3 : Int32) ^^^ p3))] [])
      refine Go.to (fun _ => XS.aloadN X10.here hx rfl (hb hby d3_75) rfl rfl) ?_
      show Go p e below _ T10 (mkF m 76 #[.val (.ref a1), .val (.int p2), .val (.int p3), .val (.int ((0 : Int32) ^^^ p3)), .val (.int ((1 : Int32) ^^^ p3)), .val (.int ((2 : Int32) ^^^ p3)), .val (.int ((3 : Int32) ^^^ p3))] [(.ref a1)])
      refine Go.to (fun _ => XS.iload X10.here hx rfl (hb hby d3_76) rfl) ?_
      show Go p e below _ T10 (mkF m 78 #[.val (.ref a1), .val (.int p2), .val (.int p3), .val (.int ((0 : Int32) ^^^ p3)), .val (.int ((1 : Int32) ^^^ p3)), .val (.int ((2 : Int32) ^^^ p3)), .val (.int ((3 : Int32) ^^^ p3))] [(.int ((3 : Int32) ^^^ p3)), (.ref a1)])
      refine Go.callV (y := (⟨"com/example/tracegauge/tracegauge/automata/Partition", "mark", "(I)V"⟩ : MethodName)) X10 hx hZ hown (hw _ (List.mem_of_getElem? (i := 53) rfl)) (hw _ (List.mem_of_getElem? (i := 54) rfl)) (hw _ (List.mem_of_getElem? (i := 56) rfl)) (hw _ (List.mem_of_getElem? (i := 55) rfl)) (hw _ (List.mem_of_getElem? (i := 2) rfl)) (hw _ (List.mem_of_getElem? (i := 57) rfl)) (by decide) (rm9 l Z a0 hw [] a1 ((3 : Int32) ^^^ p3) h n0 b0 b1 b2 b3 b4 b5 b6 el3 po3 se3 fi3 en3 ma3 tu3 tc3 sc3 O.anew el4 po4 se4 fi4 en4 ma4 tu4 tc4 sc4 hS3) e10 O.exa (by rw [hml]; rfl) (pd_0) rfl (argsL := [(.int ((3 : Int32) ^^^ p3))]) (rest := []) rfl rfl (hb hby d3_78) (by decide) (Nat.le_of_ble_eq_true rfl) (by decide) (by decide) ?_
      rintro T11 _ L11 X11 ⟨rfl, N11, O11⟩
      exact kk _ _ _ X11 rfl (Fr.app N N11) (O11.rebase O.kept)
    · rw [if_neg hck] at hS3
      simp only [Option.some.injEq, Prod.mk.injEq] at hS3
      obtain ⟨rfl, rfl, rfl, rfl, rfl, rfl, rfl, rfl, rfl⟩ := hS3
      refine Go.to (fun _ => XS.iloadN X.here hx rfl (hb hby d3_65) rfl) ?_
      show Go p e below _ T (mkF m 66 #[.val (.ref a1), .val (.int p2), .val (.int p3), .val (.int ((0 : Int32) ^^^ p3)), .val (.int ((1 : Int32) ^^^ p3)), .val (.int ((2 : Int32) ^^^ p3)), .val (.int ((3 : Int32) ^^^ p3))] [(.int p2)])
      refine Go.to (fun _ => XS.iload X.here hx rfl (hb hby d3_66) rfl) ?_
      show Go p e below _ T (mkF m 68 #[.val (.ref a1), .val (.int p2), .val (.int p3), .val (.int ((0 : Int32) ^^^ p3)), .val (.int ((1 : Int32) ^^^ p3)), .val (.int ((2 : Int32) ^^^ p3)), .val (.int ((3 : Int32) ^^^ p3))] [(.int ((3 : Int32) ^^^ p3)), (.int p2)])
      refine Go.callS (y := (⟨"com/example/tracegauge/tracegauge/automata/PartitionSplitPinLaw", "bit", "(II)I"⟩ : MethodName)) X hx hZ hown (hw _ (List.mem_of_getElem? (i := 30) rfl)) (hw _ (List.mem_of_getElem? (i := 31) rfl)) (hw _ (List.mem_of_getElem? (i := 28) rfl)) (hw _ (List.mem_of_getElem? (i := 32) rfl)) (by decide) (rm4 l Z a0 hw [] p2 ((3 : Int32) ^^^ p3) h) e' (by rw [hml]; rfl) (pd_4) rfl (argsL := [(.int p2), (.int ((3 : Int32) ^^^ p3))]) (rest := []) rfl rfl (hb hby d3_68) (by decide) (Nat.le_of_ble_eq_true rfl) (by decide) (by decide) ?_
      rintro T12 _ L12 X12 ⟨rfl, e12, rfl⟩
      simp only [List.append_nil] at X12
      show Go p e below _ T12 (mkF m 71 #[.val (.ref a1), .val (.int p2), .val (.int p3), .val (.int ((0 : Int32) ^^^ p3)), .val (.int ((1 : Int32) ^^^ p3)), .val (.int ((2 : Int32) ^^^ p3)), .val (.int ((3 : Int32) ^^^ p3))] [(.int (fBit p2 ((3 : Int32) ^^^ p3)))])
      refine Go.to (fun _ => XS.iconst X12.here hx rfl (hb hby d3_71)) ?_
      show Go p e below _ T12 (mkF m 72 #[.val (.ref a1), .val (.int p2), .val (.int p3), .val (.int ((0 : Int32) ^^^ p3)), .val (.int ((1 : Int32) ^^^ p3)), .val (.int ((2 : Int32) ^^^ p3)), .val (.int ((3 : Int32) ^^^ p3))] [(.int (1 : Int32)), (.int (fBit p2 ((3 : Int32) ^^^ p3)))])
      refine Go.to (fun _ => XS.icmpYes X12.here hx rfl (pc0 := 72) (pc' := 81) rfl (hb hby d3_72) rfl (feq hck).2 (by decide) (by decide)) ?_
      show Go p e below _ T12 (mkF m 81 #[.val (.ref a1), .val (.int p2), .val (.int p3), .val (.int ((0 : Int32) ^^^ p3)), .val (.int ((1 : Int32) ^^^ p3)), .val (.int ((2 : Int32) ^^^ p3)), .val (.int ((3 : Int32) ^^^ p3))] [])
      exact kk _ _ _ X12 e12 N O
  refine hj3 (fun T h L X e' N O => ?_)
  clear hj3 hS3
  show Go p e below _ T (mkF m 81 #[.val (.ref a1), .val (.int p2), .val (.int p3), .val (.int ((0 : Int32) ^^^ p3)), .val (.int ((1 : Int32) ^^^ p3)), .val (.int ((2 : Int32) ^^^ p3)), .val (.int ((3 : Int32) ^^^ p3))] [])
  refine Go.to (fun _ => XS.aloadN X.here hx rfl (hb hby d3_81) rfl rfl) ?_
  show Go p e below _ T (mkF m 82 #[.val (.ref a1), .val (.int p2), .val (.int p3), .val (.int ((0 : Int32) ^^^ p3)), .val (.int ((1 : Int32) ^^^ p3)), .val (.int ((2 : Int32) ^^^ p3)), .val (.int ((3 : Int32) ^^^ p3))] [(.ref a1)])
  refine Go.callV (y := (⟨"com/example/tracegauge/tracegauge/automata/Partition", "split", "()V"⟩ : MethodName)) X hx hZ hown (hw _ (List.mem_of_getElem? (i := 33) rfl)) (hw _ (List.mem_of_getElem? (i := 34) rfl)) (hw _ (List.mem_of_getElem? (i := 36) rfl)) (hw _ (List.mem_of_getElem? (i := 35) rfl)) (hw _ (List.mem_of_getElem? (i := 2) rfl)) (hw _ (List.mem_of_getElem? (i := 37) rfl)) (by decide) (rm5 l Z a0 hw [] a1 h n0 b0 b1 b2 b3 b4 b5 b6 el4 po4 se4 fi4 en4 ma4 tu4 tc4 sc4 O.anew 5 el' po' se' fi' en' ma' tu' tc' sc' hf) e' O.exa (by rw [hml]; rfl) (pd_1) rfl (argsL := []) (rest := []) rfl rfl (hb hby d3_82) (by decide) (Nat.le_of_ble_eq_true rfl) (by decide) (by decide) ?_
  rintro T13 _ L13 X13 ⟨rfl, N13, O13⟩
  have N13 := Fr.app N N13
  have O13 := O13.rebase O.kept
  show Go p e below _ T13 (mkF m 85 #[.val (.ref a1), .val (.int p2), .val (.int p3), .val (.int ((0 : Int32) ^^^ p3)), .val (.int ((1 : Int32) ^^^ p3)), .val (.int ((2 : Int32) ^^^ p3)), .val (.int ((3 : Int32) ^^^ p3))] [])
  rw [hK]
  exact Go.retV X13 hx hlk hret (hb hby d3_85) ⟨rfl, N13, O13⟩ (by decide) (by decide)
def own_S0 : List Int32 × List Int32 × List Int32 × List Int32 × List Int32 × List Int32 × List Int32 × Int32 × Int32 := ([(0 : Int32), (1 : Int32), (2 : Int32), (3 : Int32)], [(0 : Int32), (1 : Int32), (2 : Int32), (3 : Int32)], [(0 : Int32), (0 : Int32), (0 : Int32), (0 : Int32)], [(0 : Int32), (0 : Int32), (0 : Int32), (0 : Int32)], [(4 : Int32), (0 : Int32), (0 : Int32), (0 : Int32)], [(0 : Int32), (0 : Int32), (0 : Int32), (0 : Int32)], [(0 : Int32), (0 : Int32), (0 : Int32), (0 : Int32)], (0 : Int32), (1 : Int32))
theorem own_rep : List.replicate (4 : Int32).toNatClampNeg (0 : Int32) = [(0 : Int32), (0 : Int32), (0 : Int32), (0 : Int32)] := by decide +kernel
theorem own_ini : iniF 6 (4 : Int32) 0 [(0 : Int32), (0 : Int32), (0 : Int32), (0 : Int32)] [(0 : Int32), (0 : Int32), (0 : Int32), (0 : Int32)] = some ([(0 : Int32), (1 : Int32), (2 : Int32), (3 : Int32)], [(0 : Int32), (1 : Int32), (2 : Int32), (3 : Int32)]) := by decide +kernel
def own_t1 (a : Int32) (x0 x1 x2 x3 sc1 : Int32) : Bool := let k := ((((fBit a (0 : Int32)) + (fBit a (1 : Int32))) + (fBit a (2 : Int32))) + (fBit a (3 : Int32)))
  if k = 0 then sc1 == 1 && x0 == 0 && x1 == 0 && x2 == 0 && x3 == 0 else if k = 4 then sc1 == 1 && x0 == 0 && x1 == 0 && x2 == 0 && x3 == 0 else sc1 == 2 &&
    (if ((4 : Int32) - k) < k then x0 == fL a 0 0 && x1 == fL a 1 0 && x2 == fL a 2 0 && x3 == fL a 3 0 else x0 == fL a 0 1 && x1 == fL a 1 1 && x2 == fL a 2 1 && x3 == fL a 3 1)
def own_t2 (a b : Int32) (x0 x1 x2 x3 sc1 : Int32) (fi2 en2 : List Int32) (y0 y1 y2 y3 sc2 : Int32) : Bool :=
  match splF [x0, x1, x2, x3, sc1] 0 b with
  | none => false
  | some s0 => (match (if sc1 = 2 then splF [x0, x1, x2, x3, sc1] 1 b else some 0) with
    | none => false
    | some s1 => sc2 == ((sc1 + (if s0 = (0 : Int32) then (0 : Int32) else (1 : Int32))) + (if sc1 = (2 : Int32) then (if s1 = (0 : Int32) then (0 : Int32) else (1 : Int32)) else (0 : Int32)))) &&
   plcF [x0, x1, x2, x3, sc1] [y0, y1, y2, y3, sc2] b 0 == some 1 && plcF [x0, x1, x2, x3, sc1] [y0, y1, y2, y3, sc2] b 1 == some 1 && plcF [x0, x1, x2, x3, sc1] [y0, y1, y2, y3, sc2] b 2 == some 1 && plcF [x0, x1, x2, x3, sc1] [y0, y1, y2, y3, sc2] b 3 == some 1 &&
   samF [y0, y1, y2, y3, sc2] a b 0 1 == some 1 && samF [y0, y1, y2, y3, sc2] a b 0 2 == some 1 && samF [y0, y1, y2, y3, sc2] a b 0 3 == some 1 && samF [y0, y1, y2, y3, sc2] a b 1 2 == some 1 && samF [y0, y1, y2, y3, sc2] a b 1 3 == some 1 && samF [y0, y1, y2, y3, sc2] a b 2 3 == some 1 && sizF [y0, y1, y2, y3, sc2] fi2 en2 0 == some 1 && sizF [y0, y1, y2, y3, sc2] fi2 en2 1 == some 1 && sizF [y0, y1, y2, y3, sc2] fi2 en2 2 == some 1 && sizF [y0, y1, y2, y3, sc2] fi2 en2 3 == some 1
def own_go (a o : Int32) : Bool := match msF a o [(0 : Int32), (1 : Int32), (2 : Int32), (3 : Int32)] [(0 : Int32), (1 : Int32), (2 : Int32), (3 : Int32)] [(0 : Int32), (0 : Int32), (0 : Int32), (0 : Int32)] [(0 : Int32), (0 : Int32), (0 : Int32), (0 : Int32)] [(4 : Int32), (0 : Int32), (0 : Int32), (0 : Int32)] [(0 : Int32), (0 : Int32), (0 : Int32), (0 : Int32)] [(0 : Int32), (0 : Int32), (0 : Int32), (0 : Int32)] (0 : Int32) (1 : Int32) with
  | none => false
  | some (el1, po1, se1, fi1, en1, ma1, tu1, tc1, sc1) => match rdL se1 0, rdL se1 1, rdL se1 2, rdL se1 3 with
    | some x0, some x1, some x2, some x3 => own_t1 a x0 x1 x2 x3 sc1 && ((List.range 16).all fun i => (List.range 4).all fun j => match msF (Int32.ofNat i) (Int32.ofNat j) el1 po1 se1 fi1 en1 ma1 tu1 tc1 sc1 with
      | none => false
      | some (el2, po2, se2, fi2, en2, ma2, tu2, tc2, sc2) => match rdL se2 0, rdL se2 1, rdL se2 2, rdL se2 3 with
        | some y0, some y1, some y2, some y3 => own_t2 a (Int32.ofNat i) x0 x1 x2 x3 sc1 fi2 en2 y0 y1 y2 y3 sc2
        | _, _, _, _ => false)
    | _, _, _, _ => false
theorem own_go_0 : ((List.range 4).all fun j => own_go (Int32.ofNat 0) (Int32.ofNat j)) = true := by decide +kernel
theorem own_go_1 : ((List.range 4).all fun j => own_go (Int32.ofNat 1) (Int32.ofNat j)) = true := by decide +kernel
theorem own_go_2 : ((List.range 4).all fun j => own_go (Int32.ofNat 2) (Int32.ofNat j)) = true := by decide +kernel
theorem own_go_3 : ((List.range 4).all fun j => own_go (Int32.ofNat 3) (Int32.ofNat j)) = true := by decide +kernel
theorem own_go_4 : ((List.range 4).all fun j => own_go (Int32.ofNat 4) (Int32.ofNat j)) = true := by decide +kernel
theorem own_go_5 : ((List.range 4).all fun j => own_go (Int32.ofNat 5) (Int32.ofNat j)) = true := by decide +kernel
theorem own_go_6 : ((List.range 4).all fun j => own_go (Int32.ofNat 6) (Int32.ofNat j)) = true := by decide +kernel
theorem own_go_7 : ((List.range 4).all fun j => own_go (Int32.ofNat 7) (Int32.ofNat j)) = true := by decide +kernel
theorem own_go_8 : ((List.range 4).all fun j => own_go (Int32.ofNat 8) (Int32.ofNat j)) = true := by decide +kernel
theorem own_go_9 : ((List.range 4).all fun j => own_go (Int32.ofNat 9) (Int32.ofNat j)) = true := by decide +kernel
theorem own_go_10 : ((List.range 4).all fun j => own_go (Int32.ofNat 10) (Int32.ofNat j)) = true := by decide +kernel
theorem own_go_11 : ((List.range 4).all fun j => own_go (Int32.ofNat 11) (Int32.ofNat j)) = true := by decide +kernel
theorem own_go_12 : ((List.range 4).all fun j => own_go (Int32.ofNat 12) (Int32.ofNat j)) = true := by decide +kernel
theorem own_go_13 : ((List.range 4).all fun j => own_go (Int32.ofNat 13) (Int32.ofNat j)) = true := by decide +kernel
theorem own_go_14 : ((List.range 4).all fun j => own_go (Int32.ofNat 14) (Int32.ofNat j)) = true := by decide +kernel
theorem own_go_15 : ((List.range 4).all fun j => own_go (Int32.ofNat 15) (Int32.ofNat j)) = true := by decide +kernel
theorem own_u1 {a x0 x1 x2 x3 sc1 : Int32} (g : own_t1 a x0 x1 x2 x3 sc1 = true) : (((((fBit a (0 : Int32)) + (fBit a (1 : Int32))) + (fBit a (2 : Int32))) + (fBit a (3 : Int32))) = (0 : Int32) ∨ ((((fBit a (0 : Int32)) + (fBit a (1 : Int32))) + (fBit a (2 : Int32))) + (fBit a (3 : Int32))) = (4 : Int32) → sc1 = (1 : Int32) ∧ x0 = (0 : Int32) ∧ x1 = (0 : Int32) ∧ x2 = (0 : Int32) ∧ x3 = (0 : Int32)) ∧ (¬ ((((fBit a (0 : Int32)) + (fBit a (1 : Int32))) + (fBit a (2 : Int32))) + (fBit a (3 : Int32))) = (0 : Int32) → ¬ ((((fBit a (0 : Int32)) + (fBit a (1 : Int32))) + (fBit a (2 : Int32))) + (fBit a (3 : Int32))) = (4 : Int32) → sc1 = (2 : Int32)) ∧
    (¬ ((((fBit a (0 : Int32)) + (fBit a (1 : Int32))) + (fBit a (2 : Int32))) + (fBit a (3 : Int32))) = (0 : Int32) → ¬ ((((fBit a (0 : Int32)) + (fBit a (1 : Int32))) + (fBit a (2 : Int32))) + (fBit a (3 : Int32))) = (4 : Int32) → ¬ (((4 : Int32) - ((((fBit a (0 : Int32)) + (fBit a (1 : Int32))) + (fBit a (2 : Int32))) + (fBit a (3 : Int32)))) < ((((fBit a (0 : Int32)) + (fBit a (1 : Int32))) + (fBit a (2 : Int32))) + (fBit a (3 : Int32)))) → x0 = (fL a (0 : Int32) (1 : Int32)) ∧ x1 = (fL a (1 : Int32) (1 : Int32)) ∧ x2 = (fL a (2 : Int32) (1 : Int32)) ∧ x3 = (fL a (3 : Int32) (1 : Int32))) ∧ (¬ ((((fBit a (0 : Int32)) + (fBit a (1 : Int32))) + (fBit a (2 : Int32))) + (fBit a (3 : Int32))) = (0 : Int32) → ¬ ((((fBit a (0 : Int32)) + (fBit a (1 : Int32))) + (fBit a (2 : Int32))) + (fBit a (3 : Int32))) = (4 : Int32) → (((4 : Int32) - ((((fBit a (0 : Int32)) + (fBit a (1 : Int32))) + (fBit a (2 : Int32))) + (fBit a (3 : Int32)))) < ((((fBit a (0 : Int32)) + (fBit a (1 : Int32))) + (fBit a (2 : Int32))) + (fBit a (3 : Int32)))) → x0 = (fL a (0 : Int32) (0 : Int32)) ∧ x1 = (fL a (1 : Int32) (0 : Int32)) ∧ x2 = (fL a (2 : Int32) (0 : Int32)) ∧ x3 = (fL a (3 : Int32) (0 : Int32))) := by
  unfold own_t1 at g
  dsimp only at g
  generalize ((((fBit a (0 : Int32)) + (fBit a (1 : Int32))) + (fBit a (2 : Int32))) + (fBit a (3 : Int32))) = k at *
  by_cases c0 : k = 0
  · rw [if_pos c0] at g
    simp only [Bool.and_eq_true, beq_iff_eq] at g
    exact ⟨fun _ => ⟨g.1.1.1.1, g.1.1.1.2, g.1.1.2, g.1.2, g.2⟩, fun h => absurd c0 h, fun h => absurd c0 h, fun h => absurd c0 h⟩
  · rw [if_neg c0] at g
    by_cases c4 : k = 4
    · rw [if_pos c4] at g
      simp only [Bool.and_eq_true, beq_iff_eq] at g
      exact ⟨fun _ => ⟨g.1.1.1.1, g.1.1.1.2, g.1.1.2, g.1.2, g.2⟩, fun _ h => absurd c4 h, fun _ h => absurd c4 h, fun _ h => absurd c4 h⟩
    · rw [if_neg c4] at g
      rw [Bool.and_eq_true] at g
      refine ⟨fun h => h.elim (fun h => absurd h c0) (fun h => absurd h c4), fun _ _ => by simpa using g.1, fun _ _ m => ?_, fun _ _ m => ?_⟩
      · have q := g.2
        rw [if_neg m] at q
        simp only [Bool.and_eq_true, beq_iff_eq] at q
        exact ⟨q.1.1.1, q.1.1.2, q.1.2, q.2⟩
      · have q := g.2
        rw [if_pos m] at q
        simp only [Bool.and_eq_true, beq_iff_eq] at q
        exact ⟨q.1.1.1, q.1.1.2, q.1.2, q.2⟩
theorem own_u2 {a b x0 x1 x2 x3 sc1 : Int32} {fi2 en2 : List Int32} {y0 y1 y2 y3 sc2 : Int32} (g : own_t2 a b x0 x1 x2 x3 sc1 fi2 en2 y0 y1 y2 y3 sc2 = true) : ∃ s0 s1 : Int32, splF [x0, x1, x2, x3, sc1] (0 : Int32) b = some s0 ∧ (sc1 = (2 : Int32) → splF [x0, x1, x2, x3, sc1] (1 : Int32) b = some s1) ∧ (∀ d0 d1, d0 = (if s0 = (0 : Int32) then (0 : Int32) else (1 : Int32)) → d1 = (if sc1 = (2 : Int32) then (if s1 = (0 : Int32) then (0 : Int32) else (1 : Int32)) else (0 : Int32)) → sc2 = ((sc1 + d0) + d1)) ∧ (plcF [x0, x1, x2, x3, sc1] [y0, y1, y2, y3, sc2] b (0 : Int32) = some (1 : Int32) ∧ plcF [x0, x1, x2, x3, sc1] [y0, y1, y2, y3, sc2] b (1 : Int32) = some (1 : Int32) ∧ plcF [x0, x1, x2, x3, sc1] [y0, y1, y2, y3, sc2] b (2 : Int32) = some (1 : Int32) ∧ plcF [x0, x1, x2, x3, sc1] [y0, y1, y2, y3, sc2] b (3 : Int32) = some (1 : Int32)) ∧ (samF [y0, y1, y2, y3, sc2] a b (0 : Int32) (1 : Int32) = some (1 : Int32) ∧ samF [y0, y1, y2, y3, sc2] a b (0 : Int32) (2 : Int32) = some (1 : Int32) ∧ samF [y0, y1, y2, y3, sc2] a b (0 : Int32) (3 : Int32) = some (1 : Int32) ∧ samF [y0, y1, y2, y3, sc2] a b (1 : Int32) (2 : Int32) = some (1 : Int32) ∧ samF [y0, y1, y2, y3, sc2] a b (1 : Int32) (3 : Int32) = some (1 : Int32) ∧ samF [y0, y1, y2, y3, sc2] a b (2 : Int32) (3 : Int32) = some (1 : Int32)) ∧ sizF [y0, y1, y2, y3, sc2] fi2 en2 (0 : Int32) = some (1 : Int32) ∧ sizF [y0, y1, y2, y3, sc2] fi2 en2 (1 : Int32) = some (1 : Int32) ∧ sizF [y0, y1, y2, y3, sc2] fi2 en2 (2 : Int32) = some (1 : Int32) ∧ sizF [y0, y1, y2, y3, sc2] fi2 en2 (3 : Int32) = some (1 : Int32) := by
  unfold own_t2 at g
  split at g
  · cases g
  · rename_i s0 hs0
    simp only [Bool.and_eq_true, beq_iff_eq] at g
    obtain ⟨⟨⟨⟨⟨⟨⟨⟨⟨⟨⟨⟨⟨⟨g0, p0⟩, p1⟩, p2⟩, p3⟩, a0⟩, a1⟩, a2⟩, a3⟩, a4⟩, a5⟩, z0⟩, z1⟩, z2⟩, z3⟩ := g
    split at g0
    · cases g0
    · rename_i s1 hs1
      refine ⟨s0, s1, hs0, fun h => by rw [if_pos h] at hs1; exact hs1, fun d0 d1 e0 e1 => ?_, ⟨p0, p1, p2, p3⟩, ⟨a0, a1, a2, a3, a4, a5⟩, z0, z1, z2, z3⟩
      rw [e0, e1]; simpa using g0
theorem own_all (i j : Nat) (hi : i < 16) (hj : j < 4) : own_go (Int32.ofNat i) (Int32.ofNat j) = true := by
  have q : ∀ i, i < 16 → ((List.range 4).all fun j => own_go (Int32.ofNat i) (Int32.ofNat j)) = true := by
    intro i hi
    have q : i = 0 ∨ i = 1 ∨ i = 2 ∨ i = 3 ∨ i = 4 ∨ i = 5 ∨ i = 6 ∨ i = 7 ∨ i = 8 ∨ i = 9 ∨ i = 10 ∨ i = 11 ∨ i = 12 ∨ i = 13 ∨ i = 14 ∨ i = 15 := by omega
    rcases q with rfl | rfl | rfl | rfl | rfl | rfl | rfl | rfl | rfl | rfl | rfl | rfl | rfl | rfl | rfl | rfl
    · exact own_go_0
    · exact own_go_1
    · exact own_go_2
    · exact own_go_3
    · exact own_go_4
    · exact own_go_5
    · exact own_go_6
    · exact own_go_7
    · exact own_go_8
    · exact own_go_9
    · exact own_go_10
    · exact own_go_11
    · exact own_go_12
    · exact own_go_13
    · exact own_go_14
    · exact own_go_15
  exact List.all_eq_true.mp (q i hi) j (List.mem_range.mpr hj)
theorem own_a {x z : Int32} (h : z = (x &&& (15 : Int32))) : ∃ i, i < 16 ∧ z = Int32.ofNat i := by
  have e := Jvm.Kit.i32_mask x (15 : Int32) (k := 4) (by decide) (by decide)
  rw [← h] at e
  refine ⟨z.toNatClampNeg, by simp only [Int32.toNatClampNeg]; omega, Int32.toInt_inj.mp ?_⟩
  rw [Int32.toInt_ofNat_small (by simp only [Int32.toNatClampNeg]; omega)]
  simp only [Int32.toNatClampNeg]; omega
theorem own_o {x z : Int32} (h : z = (x &&& (3 : Int32))) : ∃ i, i < 4 ∧ z = Int32.ofNat i := by
  have e := Jvm.Kit.i32_mask x (3 : Int32) (k := 2) (by decide) (by decide)
  rw [← h] at e
  refine ⟨z.toNatClampNeg, by simp only [Int32.toNatClampNeg]; omega, Int32.toInt_inj.mp ?_⟩
  rw [Int32.toInt_ofNat_small (by simp only [Int32.toNatClampNeg]; omega)]
  simp only [Int32.toNatClampNeg]; omega
theorem own_law {a b o q : Int32} (ha : ∃ i, i < 16 ∧ a = Int32.ofNat i) (hb : ∃ i, i < 16 ∧ b = Int32.ofNat i) (ho : ∃ i, i < 4 ∧ o = Int32.ofNat i) (hq : ∃ i, i < 4 ∧ q = Int32.ofNat i) :
    ∃ (el1 po1 se1 fi1 en1 ma1 tu1 : List Int32) (tc1 sc1 x0 x1 x2 x3 : Int32), msF a o [(0 : Int32), (1 : Int32), (2 : Int32), (3 : Int32)] [(0 : Int32), (1 : Int32), (2 : Int32), (3 : Int32)] [(0 : Int32), (0 : Int32), (0 : Int32), (0 : Int32)] [(0 : Int32), (0 : Int32), (0 : Int32), (0 : Int32)] [(4 : Int32), (0 : Int32), (0 : Int32), (0 : Int32)] [(0 : Int32), (0 : Int32), (0 : Int32), (0 : Int32)] [(0 : Int32), (0 : Int32), (0 : Int32), (0 : Int32)] (0 : Int32) (1 : Int32) = some (el1, po1, se1, fi1, en1, ma1, tu1, tc1, sc1) ∧ (rdL se1 (0 : Int32) = some x0 ∧ rdL se1 (1 : Int32) = some x1 ∧ rdL se1 (2 : Int32) = some x2 ∧ rdL se1 (3 : Int32) = some x3) ∧ (((((fBit a (0 : Int32)) + (fBit a (1 : Int32))) + (fBit a (2 : Int32))) + (fBit a (3 : Int32))) = (0 : Int32) ∨ ((((fBit a (0 : Int32)) + (fBit a (1 : Int32))) + (fBit a (2 : Int32))) + (fBit a (3 : Int32))) = (4 : Int32) → sc1 = (1 : Int32) ∧ x0 = (0 : Int32) ∧ x1 = (0 : Int32) ∧ x2 = (0 : Int32) ∧ x3 = (0 : Int32)) ∧ (¬ ((((fBit a (0 : Int32)) + (fBit a (1 : Int32))) + (fBit a (2 : Int32))) + (fBit a (3 : Int32))) = (0 : Int32) → ¬ ((((fBit a (0 : Int32)) + (fBit a (1 : Int32))) + (fBit a (2 : Int32))) + (fBit a (3 : Int32))) = (4 : Int32) → sc1 = (2 : Int32)) ∧ (¬ ((((fBit a (0 : Int32)) + (fBit a (1 : Int32))) + (fBit a (2 : Int32))) + (fBit a (3 : Int32))) = (0 : Int32) → ¬ ((((fBit a (0 : Int32)) + (fBit a (1 : Int32))) + (fBit a (2 : Int32))) + (fBit a (3 : Int32))) = (4 : Int32) → ¬ ((4 : Int32) - ((((fBit a (0 : Int32)) + (fBit a (1 : Int32))) + (fBit a (2 : Int32))) + (fBit a (3 : Int32)))) < ((((fBit a (0 : Int32)) + (fBit a (1 : Int32))) + (fBit a (2 : Int32))) + (fBit a (3 : Int32))) → x0 = (fL a (0 : Int32) (1 : Int32)) ∧ x1 = (fL a (1 : Int32) (1 : Int32)) ∧ x2 = (fL a (2 : Int32) (1 : Int32)) ∧ x3 = (fL a (3 : Int32) (1 : Int32))) ∧ (¬ ((((fBit a (0 : Int32)) + (fBit a (1 : Int32))) + (fBit a (2 : Int32))) + (fBit a (3 : Int32))) = (0 : Int32) → ¬ ((((fBit a (0 : Int32)) + (fBit a (1 : Int32))) + (fBit a (2 : Int32))) + (fBit a (3 : Int32))) = (4 : Int32) → ((4 : Int32) - ((((fBit a (0 : Int32)) + (fBit a (1 : Int32))) + (fBit a (2 : Int32))) + (fBit a (3 : Int32)))) < ((((fBit a (0 : Int32)) + (fBit a (1 : Int32))) + (fBit a (2 : Int32))) + (fBit a (3 : Int32))) → x0 = (fL a (0 : Int32) (0 : Int32)) ∧ x1 = (fL a (1 : Int32) (0 : Int32)) ∧ x2 = (fL a (2 : Int32) (0 : Int32)) ∧ x3 = (fL a (3 : Int32) (0 : Int32))) ∧ ∃ (el2 po2 se2 fi2 en2 ma2 tu2 : List Int32) (tc2 sc2 y0 y1 y2 y3 : Int32), msF b q el1 po1 se1 fi1 en1 ma1 tu1 tc1 sc1 = some (el2, po2, se2, fi2, en2, ma2, tu2, tc2, sc2) ∧ (rdL se2 (0 : Int32) = some y0 ∧ rdL se2 (1 : Int32) = some y1 ∧ rdL se2 (2 : Int32) = some y2 ∧ rdL se2 (3 : Int32) = some y3) ∧ ∃ s0 s1 : Int32, splF [x0, x1, x2, x3, sc1] (0 : Int32) b = some s0 ∧ (sc1 = (2 : Int32) → splF [x0, x1, x2, x3, sc1] (1 : Int32) b = some s1) ∧ (∀ d0 d1, d0 = (if s0 = (0 : Int32) then (0 : Int32) else (1 : Int32)) → d1 = (if sc1 = (2 : Int32) then (if s1 = (0 : Int32) then (0 : Int32) else (1 : Int32)) else (0 : Int32)) → sc2 = ((sc1 + d0) + d1)) ∧ (plcF [x0, x1, x2, x3, sc1] [y0, y1, y2, y3, sc2] b (0 : Int32) = some (1 : Int32) ∧ plcF [x0, x1, x2, x3, sc1] [y0, y1, y2, y3, sc2] b (1 : Int32) = some (1 : Int32) ∧ plcF [x0, x1, x2, x3, sc1] [y0, y1, y2, y3, sc2] b (2 : Int32) = some (1 : Int32) ∧ plcF [x0, x1, x2, x3, sc1] [y0, y1, y2, y3, sc2] b (3 : Int32) = some (1 : Int32)) ∧ (samF [y0, y1, y2, y3, sc2] a b (0 : Int32) (1 : Int32) = some (1 : Int32) ∧ samF [y0, y1, y2, y3, sc2] a b (0 : Int32) (2 : Int32) = some (1 : Int32) ∧ samF [y0, y1, y2, y3, sc2] a b (0 : Int32) (3 : Int32) = some (1 : Int32) ∧ samF [y0, y1, y2, y3, sc2] a b (1 : Int32) (2 : Int32) = some (1 : Int32) ∧ samF [y0, y1, y2, y3, sc2] a b (1 : Int32) (3 : Int32) = some (1 : Int32) ∧ samF [y0, y1, y2, y3, sc2] a b (2 : Int32) (3 : Int32) = some (1 : Int32)) ∧ sizF [y0, y1, y2, y3, sc2] fi2 en2 (0 : Int32) = some (1 : Int32) ∧ sizF [y0, y1, y2, y3, sc2] fi2 en2 (1 : Int32) = some (1 : Int32) ∧ sizF [y0, y1, y2, y3, sc2] fi2 en2 (2 : Int32) = some (1 : Int32) ∧ sizF [y0, y1, y2, y3, sc2] fi2 en2 (3 : Int32) = some (1 : Int32) := by
  obtain ⟨ia, la, rfl⟩ := ha
  obtain ⟨ib, lb, rfl⟩ := hb
  obtain ⟨io, lo, rfl⟩ := ho
  obtain ⟨iq, lq, rfl⟩ := hq
  have g := own_all ia io la lo
  generalize Int32.ofNat ia = a at *
  unfold own_go at g
  split at g
  · cases g
  · rename_i el1 po1 se1 fi1 en1 ma1 tu1 tc1 sc1 hm1
    split at g
    · rename_i x0 x1 x2 x3 hx0 hx1 hx2 hx3
      rw [Bool.and_eq_true] at g
      have g2 := List.all_eq_true.mp (List.all_eq_true.mp g.2 ib (List.mem_range.mpr lb)) iq (List.mem_range.mpr lq)
      have g1 := g.1
      generalize Int32.ofNat ib = b at *
      generalize Int32.ofNat iq = q at *
      split at g2
      · cases g2
      · rename_i el2 po2 se2 fi2 en2 ma2 tu2 tc2 sc2 hm2
        split at g2
        · rename_i y0 y1 y2 y3 hy0 hy1 hy2 hy3
          obtain ⟨s0, s1, hs0, hs1, hc2, hp, hs, hz⟩ := own_u2 g2
          obtain ⟨h1, h2, h3, h4⟩ := own_u1 g1
          exact ⟨el1, po1, se1, fi1, en1, ma1, tu1, tc1, sc1, x0, x1, x2, x3, hm1, ⟨hx0, hx1, hx2, hx3⟩, h1, h2, h3, h4, el2, po2, se2, fi2, en2, ma2, tu2, tc2, sc2, y0, y1, y2, y3, hm2, ⟨hy0, hy1, hy2, hy3⟩, s0, s1, hs0, hs1, hc2, hp, hs, hz⟩
        · cases g2
    · cases g
theorem ef_rm0 (m : MethodId) (p1 : Int32) (p2 : Int32) (p3 : Int32) : entryFrame m #[(.int p1), (.int p2), (.int p3)] maxLocals = mkF m 0 #[.val (.int p1), .val (.int p2), .val (.int p3), .unset, .unset, .unset, .unset, .unset, .unset, .unset, .unset, .unset, .unset] [] := by first | (simp [entryFrame, mkF, argsToLocals, Value.category, maxLocals]; done) | rfl
set_option maxHeartbeats 40000000 in
theorem rm0 (l : Launch) (Z : State) (a0 : Array Value) (hw : ∀ d ∈ tables_1, d.before a0 Z = true) (ws : List Jvm.Cond) (p1 : Int32) (p2 : Int32) (p3 : Int32) (h0 : Heap) (n0 : Nat) (Z0 : n0 ≤ h0.size) :
    Met1 l Z x code maxLocals ret ws room_1 #[(.int p1), (.int p2), (.int p3)] h0 (fun v h L => v = some (.int 1) ∧ Fr n0 L) := by
  refine metOf (by first | exact plainFor_of_name (by first | (simp [plainName, overriddenIn]; done) | decide +kernel) | decide +kernel) ?_
  intro p e s m below meth c s₁ hx hby hml hown hnm hret hlk hZ X0 e0
  have hown : s.vm.findClass "com/example/tracegauge/tracegauge/automata/PartitionSplitPinLaw" = some m.cls := hown
  have hml : c.maxLocals = 13 := hml
  obtain ⟨K, hK⟩ : ∃ K, K = KQ s (fun v h L => v = some (.int 1) ∧ Fr n0 L) (room_1).cells (room_1).slots := ⟨_, rfl⟩
  show Go p e below (KQ s (fun v h L => v = some (.int 1) ∧ Fr n0 L) (room_1).cells (room_1).slots) s₁ (entryFrame m #[(.int p1), (.int p2), (.int p3)] maxLocals)
  rw [← hK, ef_rm0 m p1 p2 p3]
  show Go p e below _ s₁ (mkF m 0 #[.val (.int p1), .val (.int p2), .val (.int p3), .unset, .unset, .unset, .unset, .unset, .unset, .unset, .unset, .unset, .unset] [])
  refine Go.to (fun _ => XS.iloadN X0.here hx rfl (hb hby at_0) rfl) ?_
  show Go p e below _ s₁ (mkF m 1 #[.val (.int p1), .val (.int p2), .val (.int p3), .unset, .unset, .unset, .unset, .unset, .unset, .unset, .unset, .unset, .unset] [(.int p1)])
  refine Go.to (fun _ => XS.bipush X0.here hx rfl (hb hby at_1)) ?_
  show Go p e below _ s₁ (mkF m 3 #[.val (.int p1), .val (.int p2), .val (.int p3), .unset, .unset, .unset, .unset, .unset, .unset, .unset, .unset, .unset, .unset] [(.int (15 : Int32)), (.int p1)])
  refine Go.to (fun _ => XS.iand X0.here hx rfl (hb hby at_3) rfl) ?_
  show Go p e below _ s₁ (mkF m 4 #[.val (.int p1), .val (.int p2), .val (.int p3), .unset, .unset, .unset, .unset, .unset, .unset, .unset, .unset, .unset, .unset] [(.int (p1 &&& (15 : Int32)))])
  refine Go.to (fun _ => XS.istoreN X0.here hx rfl (hb hby at_4) rfl (l' := #[.val (.int p1), .val (.int p2), .val (.int p3), .val (.int (p1 &&& (15 : Int32))), .unset, .unset, .unset, .unset, .unset, .unset, .unset, .unset, .unset]) rfl) ?_
  show Go p e below _ s₁ (mkF m 5 #[.val (.int p1), .val (.int p2), .val (.int p3), .val (.int (p1 &&& (15 : Int32))), .unset, .unset, .unset, .unset, .unset, .unset, .unset, .unset, .unset] [])
  obtain ⟨za, hza⟩ : ∃ z : Int32, z = (p1 &&& (15 : Int32)) := ⟨_, rfl⟩
  rw [← hza]
  show Go p e below _ s₁ (mkF m 5 #[.val (.int p1), .val (.int p2), .val (.int p3), .val (.int za), .unset, .unset, .unset, .unset, .unset, .unset, .unset, .unset, .unset] [])
  refine Go.to (fun _ => XS.iloadN X0.here hx rfl (hb hby at_5) rfl) ?_
  show Go p e below _ s₁ (mkF m 6 #[.val (.int p1), .val (.int p2), .val (.int p3), .val (.int za), .unset, .unset, .unset, .unset, .unset, .unset, .unset, .unset, .unset] [(.int p2)])
  refine Go.to (fun _ => XS.bipush X0.here hx rfl (hb hby at_6)) ?_
  show Go p e below _ s₁ (mkF m 8 #[.val (.int p1), .val (.int p2), .val (.int p3), .val (.int za), .unset, .unset, .unset, .unset, .unset, .unset, .unset, .unset, .unset] [(.int (15 : Int32)), (.int p2)])
  refine Go.to (fun _ => XS.iand X0.here hx rfl (hb hby at_8) rfl) ?_
  show Go p e below _ s₁ (mkF m 9 #[.val (.int p1), .val (.int p2), .val (.int p3), .val (.int za), .unset, .unset, .unset, .unset, .unset, .unset, .unset, .unset, .unset] [(.int (p2 &&& (15 : Int32)))])
  refine Go.to (fun _ => XS.istore X0.here hx rfl (hb hby at_9) rfl (l' := #[.val (.int p1), .val (.int p2), .val (.int p3), .val (.int za), .val (.int (p2 &&& (15 : Int32))), .unset, .unset, .unset, .unset, .unset, .unset, .unset, .unset]) rfl) ?_
  show Go p e below _ s₁ (mkF m 11 #[.val (.int p1), .val (.int p2), .val (.int p3), .val (.int za), .val (.int (p2 &&& (15 : Int32))), .unset, .unset, .unset, .unset, .unset, .unset, .unset, .unset] [])
  obtain ⟨zb, hzb⟩ : ∃ z : Int32, z = (p2 &&& (15 : Int32)) := ⟨_, rfl⟩
  rw [← hzb]
  show Go p e below _ s₁ (mkF m 11 #[.val (.int p1), .val (.int p2), .val (.int p3), .val (.int za), .val (.int zb), .unset, .unset, .unset, .unset, .unset, .unset, .unset, .unset] [])
  refine Go.to (fun _ => XS.iloadN X0.here hx rfl (hb hby at_11) rfl) ?_
  show Go p e below _ s₁ (mkF m 12 #[.val (.int p1), .val (.int p2), .val (.int p3), .val (.int za), .val (.int zb), .unset, .unset, .unset, .unset, .unset, .unset, .unset, .unset] [(.int p3)])
  refine Go.to (fun _ => XS.iconst X0.here hx rfl (hb hby at_12)) ?_
  show Go p e below _ s₁ (mkF m 13 #[.val (.int p1), .val (.int p2), .val (.int p3), .val (.int za), .val (.int zb), .unset, .unset, .unset, .unset, .unset, .unset, .unset, .unset] [(.int (3 : Int32)), (.int p3)])
  refine Go.to (fun _ => XS.iand X0.here hx rfl (hb hby at_13) rfl) ?_
  show Go p e below _ s₁ (mkF m 14 #[.val (.int p1), .val (.int p2), .val (.int p3), .val (.int za), .val (.int zb), .unset, .unset, .unset, .unset, .unset, .unset, .unset, .unset] [(.int (p3 &&& (3 : Int32)))])
  refine Go.to (fun _ => XS.istore X0.here hx rfl (hb hby at_14) rfl (l' := #[.val (.int p1), .val (.int p2), .val (.int p3), .val (.int za), .val (.int zb), .val (.int (p3 &&& (3 : Int32))), .unset, .unset, .unset, .unset, .unset, .unset, .unset]) rfl) ?_
  show Go p e below _ s₁ (mkF m 16 #[.val (.int p1), .val (.int p2), .val (.int p3), .val (.int za), .val (.int zb), .val (.int (p3 &&& (3 : Int32))), .unset, .unset, .unset, .unset, .unset, .unset, .unset] [])
  obtain ⟨zo, hzo⟩ : ∃ z : Int32, z = (p3 &&& (3 : Int32)) := ⟨_, rfl⟩
  rw [← hzo]
  show Go p e below _ s₁ (mkF m 16 #[.val (.int p1), .val (.int p2), .val (.int p3), .val (.int za), .val (.int zb), .val (.int zo), .unset, .unset, .unset, .unset, .unset, .unset, .unset] [])
  refine Go.to (fun _ => XS.iloadN X0.here hx rfl (hb hby at_16) rfl) ?_
  show Go p e below _ s₁ (mkF m 17 #[.val (.int p1), .val (.int p2), .val (.int p3), .val (.int za), .val (.int zb), .val (.int zo), .unset, .unset, .unset, .unset, .unset, .unset, .unset] [(.int p3)])
  refine Go.to (fun _ => XS.iconst X0.here hx rfl (hb hby at_17)) ?_
  show Go p e below _ s₁ (mkF m 18 #[.val (.int p1), .val (.int p2), .val (.int p3), .val (.int za), .val (.int zb), .val (.int zo), .unset, .unset, .unset, .unset, .unset, .unset, .unset] [(.int (2 : Int32)), (.int p3)])
  refine Go.to (fun _ => XS.ishr X0.here hx rfl (hb hby at_18) rfl) ?_
  show Go p e below _ s₁ (mkF m 19 #[.val (.int p1), .val (.int p2), .val (.int p3), .val (.int za), .val (.int zb), .val (.int zo), .unset, .unset, .unset, .unset, .unset, .unset, .unset] [(.int (p3 >>> ((2 : Int32) &&& 31)))])
  refine Go.to (fun _ => XS.iconst X0.here hx rfl (hb hby at_19)) ?_
  show Go p e below _ s₁ (mkF m 20 #[.val (.int p1), .val (.int p2), .val (.int p3), .val (.int za), .val (.int zb), .val (.int zo), .unset, .unset, .unset, .unset, .unset, .unset, .unset] [(.int (3 : Int32)), (.int (p3 >>> ((2 : Int32) &&& 31)))])
  refine Go.to (fun _ => XS.iand X0.here hx rfl (hb hby at_20) rfl) ?_
  show Go p e below _ s₁ (mkF m 21 #[.val (.int p1), .val (.int p2), .val (.int p3), .val (.int za), .val (.int zb), .val (.int zo), .unset, .unset, .unset, .unset, .unset, .unset, .unset] [(.int ((p3 >>> ((2 : Int32) &&& 31)) &&& (3 : Int32)))])
  refine Go.to (fun _ => XS.istore X0.here hx rfl (hb hby at_21) rfl (l' := #[.val (.int p1), .val (.int p2), .val (.int p3), .val (.int za), .val (.int zb), .val (.int zo), .val (.int ((p3 >>> ((2 : Int32) &&& 31)) &&& (3 : Int32))), .unset, .unset, .unset, .unset, .unset, .unset]) rfl) ?_
  show Go p e below _ s₁ (mkF m 23 #[.val (.int p1), .val (.int p2), .val (.int p3), .val (.int za), .val (.int zb), .val (.int zo), .val (.int ((p3 >>> ((2 : Int32) &&& 31)) &&& (3 : Int32))), .unset, .unset, .unset, .unset, .unset, .unset] [])
  obtain ⟨zq, hzq⟩ : ∃ z : Int32, z = ((p3 >>> ((2 : Int32) &&& 31)) &&& (3 : Int32)) := ⟨_, rfl⟩
  rw [← hzq]
  show Go p e below _ s₁ (mkF m 23 #[.val (.int p1), .val (.int p2), .val (.int p3), .val (.int za), .val (.int zb), .val (.int zo), .val (.int zq), .unset, .unset, .unset, .unset, .unset, .unset] [])
  obtain ⟨el1, po1, se1, fi1, en1, ma1, tu1, tc1, sc1, x0, x1, x2, x3, hm1, ⟨hx0, hx1, hx2, hx3⟩, hH1, hH2, hH3, hH4, el2, po2, se2, fi2, en2, ma2, tu2, tc2, sc2, y0, y1, y2, y3, hm2, ⟨hy0, hy1, hy2, hy3⟩, s0, s1, hs0, hs1, hc2, ⟨hp0, hp1, hp2, hp3⟩, ⟨ha0, ha1, ha2, ha3, ha4, ha5⟩, hz0, hz1, hz2, hz3⟩ := own_law (own_a hza) (own_a hzb) (own_o hzo) (own_o hzq)
  obtain ⟨T1, h1, X1, e1, E1, B1, D1, -, st1⟩ := newO X0 hx hZ hown (hw _ (List.mem_of_getElem? (i := 0) rfl)) (hw _ (List.mem_of_getElem? (i := 1) rfl)) (hw _ (List.mem_of_getElem? (i := 2) rfl)) e0 (g := (mkF m 23 #[.val (.int p1), .val (.int p2), .val (.int p3), .val (.int za), .val (.int zb), .val (.int zo), .val (.int zq), .unset, .unset, .unset, .unset, .unset, .unset] [])) rfl (hb hby at_23) (by decide) (by decide)
  obtain ⟨a1, g1⟩ : ∃ z, z = h0.size := ⟨_, rfl⟩
  rw [← g1] at B1 D1 st1
  refine Go.to st1 ?_
  have O1 : Obj Z n0 h1 h1 a1 "com/example/tracegauge/tracegauge/automata/Partition" nFp [.null, .null, .null, .null, .null, .null, .null, (.int (0 : Int32)), (.int (0 : Int32))] [] [] := Obj.born B1 (by rw [g1]; exact Z0) D1 (laidp hw) (by decide +kernel) rfl
  show Go p e below _ T1 (mkF m 26 #[.val (.int p1), .val (.int p2), .val (.int p3), .val (.int za), .val (.int zb), .val (.int zo), .val (.int zq), .unset, .unset, .unset, .unset, .unset, .unset] [(.ref a1)])
  refine Go.to (fun _ => XS.dup X1.here hx rfl (hb hby at_26) rfl rfl) ?_
  show Go p e below _ T1 (mkF m 27 #[.val (.int p1), .val (.int p2), .val (.int p3), .val (.int za), .val (.int zb), .val (.int zo), .val (.int zq), .unset, .unset, .unset, .unset, .unset, .unset] [(.ref a1), (.ref a1)])
  refine Go.to (fun _ => XS.iconst X1.here hx rfl (hb hby at_27)) ?_
  show Go p e below _ T1 (mkF m 28 #[.val (.int p1), .val (.int p2), .val (.int p3), .val (.int za), .val (.int zb), .val (.int zo), .val (.int zq), .unset, .unset, .unset, .unset, .unset, .unset] [(.int (4 : Int32)), (.ref a1), (.ref a1)])
  refine Go.callI (y := (⟨"com/example/tracegauge/tracegauge/automata/Partition", "<init>", "(I)V"⟩ : MethodName)) X1 hx hZ hown rfl (hw _ (List.mem_of_getElem? (i := 3) rfl)) (hw _ (List.mem_of_getElem? (i := 4) rfl)) (hw _ (List.mem_of_getElem? (i := 2) rfl)) (hw _ (List.mem_of_getElem? (i := 5) rfl)) (by decide) (rm1 l Z a0 hw [] a1 (4 : Int32) h1 n0 O1 (by decide) (by decide) (by decide) 6 _ _ (by rw [own_rep]; exact own_ini) (0 : Int32) (by rw [own_rep]; rfl)) e1 (by rw [hml]; rfl) (pd_0) rfl (a := a1) (argsL := [(.int (4 : Int32))]) (rest := [(.ref a1)]) rfl rfl (hb hby at_28) (by decide) (Nat.le_of_ble_eq_true rfl) (by decide) (by decide) ?_
  rintro T2 _ L2 X2 ⟨rfl, N2, b0, b1, b2, b3, b4, b5, b6, O2⟩
  have N2 := Fr.app (Fr.nil n0) N2
  have O2 : Obj Z n0 T2.heap T2.heap a1 "com/example/tracegauge/tracegauge/automata/Partition" nFp [.ref b0, .ref b1, .ref b2, .ref b3, .ref b4, .ref b5, .ref b6, .int (0 : Int32), .int (1 : Int32)] [b0, b1, b2, b3, b4, b5, b6] [[(0 : Int32), (1 : Int32), (2 : Int32), (3 : Int32)], [(0 : Int32), (1 : Int32), (2 : Int32), (3 : Int32)], [(0 : Int32), (0 : Int32), (0 : Int32), (0 : Int32)], [(0 : Int32), (0 : Int32), (0 : Int32), (0 : Int32)], [(4 : Int32), (0 : Int32), (0 : Int32), (0 : Int32)], [(0 : Int32), (0 : Int32), (0 : Int32), (0 : Int32)], [(0 : Int32), (0 : Int32), (0 : Int32), (0 : Int32)]] := by
    have O2 := O2.anew
    rw [own_rep] at O2; exact O2
  show Go p e below _ T2 (mkF m 31 #[.val (.int p1), .val (.int p2), .val (.int p3), .val (.int za), .val (.int zb), .val (.int zo), .val (.int zq), .unset, .unset, .unset, .unset, .unset, .unset] [(.ref a1)])
  refine Go.to (fun _ => XS.astore X2.here hx rfl (hb hby at_31) rfl rfl (l' := #[.val (.int p1), .val (.int p2), .val (.int p3), .val (.int za), .val (.int zb), .val (.int zo), .val (.int zq), .val (.ref a1), .unset, .unset, .unset, .unset, .unset]) rfl) ?_
  show Go p e below _ T2 (mkF m 33 #[.val (.int p1), .val (.int p2), .val (.int p3), .val (.int za), .val (.int zb), .val (.int zo), .val (.int zq), .val (.ref a1), .unset, .unset, .unset, .unset, .unset] [])
  refine Go.to (fun _ => XS.aload X2.here hx rfl (hb hby at_33) rfl rfl) ?_
  show Go p e below _ T2 (mkF m 35 #[.val (.int p1), .val (.int p2), .val (.int p3), .val (.int za), .val (.int zb), .val (.int zo), .val (.int zq), .val (.ref a1), .unset, .unset, .unset, .unset, .unset] [(.ref a1)])
  refine Go.to (fun _ => XS.iloadN X2.here hx rfl (hb hby at_35) rfl) ?_
  show Go p e below _ T2 (mkF m 36 #[.val (.int p1), .val (.int p2), .val (.int p3), .val (.int za), .val (.int zb), .val (.int zo), .val (.int zq), .val (.ref a1), .unset, .unset, .unset, .unset, .unset] [(.int za), (.ref a1)])
  refine Go.to (fun _ => XS.iload X2.here hx rfl (hb hby at_36) rfl) ?_
  show Go p e below _ T2 (mkF m 38 #[.val (.int p1), .val (.int p2), .val (.int p3), .val (.int za), .val (.int zb), .val (.int zo), .val (.int zq), .val (.ref a1), .unset, .unset, .unset, .unset, .unset] [(.int zo), (.int za), (.ref a1)])
  refine Go.callS (y := (⟨"com/example/tracegauge/tracegauge/automata/PartitionSplitPinLaw", "markAndSplit", "(Lcom/example/tracegauge/tracegauge/automata/Partition;II)V"⟩ : MethodName)) X2 hx hZ hown (hw _ (List.mem_of_getElem? (i := 26) rfl)) (hw _ (List.mem_of_getElem? (i := 27) rfl)) (hw _ (List.mem_of_getElem? (i := 28) rfl)) (hw _ (List.mem_of_getElem? (i := 29) rfl)) (by decide) (rm3 l Z a0 hw [] a1 za zo T2.heap n0 b0 b1 b2 b3 b4 b5 b6 [(0 : Int32), (1 : Int32), (2 : Int32), (3 : Int32)] [(0 : Int32), (1 : Int32), (2 : Int32), (3 : Int32)] [(0 : Int32), (0 : Int32), (0 : Int32), (0 : Int32)] [(0 : Int32), (0 : Int32), (0 : Int32), (0 : Int32)] [(4 : Int32), (0 : Int32), (0 : Int32), (0 : Int32)] [(0 : Int32), (0 : Int32), (0 : Int32), (0 : Int32)] [(0 : Int32), (0 : Int32), (0 : Int32), (0 : Int32)] (0 : Int32) (1 : Int32) O2.anew el1 po1 se1 fi1 en1 ma1 tu1 tc1 sc1 hm1) rfl (by rw [hml]; rfl) (pd_5) rfl (argsL := [(.ref a1), (.int za), (.int zo)]) (rest := []) rfl rfl (hb hby at_38) (by decide) (Nat.le_of_ble_eq_true rfl) (by decide) (by decide) ?_
  rintro T3 _ L3 X3 ⟨rfl, N3, O3⟩
  have N3 := Fr.app N2 N3
  have O3 := O3.anew
  show Go p e below _ T3 (mkF m 41 #[.val (.int p1), .val (.int p2), .val (.int p3), .val (.int za), .val (.int zb), .val (.int zo), .val (.int zq), .val (.ref a1), .unset, .unset, .unset, .unset, .unset] [])
  refine Go.to (fun _ => XS.aload X3.here hx rfl (hb hby at_41) rfl rfl) ?_
  show Go p e below _ T3 (mkF m 43 #[.val (.int p1), .val (.int p2), .val (.int p3), .val (.int za), .val (.int zb), .val (.int zo), .val (.int zq), .val (.ref a1), .unset, .unset, .unset, .unset, .unset] [(.ref a1)])
  refine Go.callS (y := (⟨"com/example/tracegauge/tracegauge/automata/PartitionSplitPinLaw", "observe", "(Lcom/example/tracegauge/tracegauge/automata/Partition;)[I"⟩ : MethodName)) X3 hx hZ hown (hw _ (List.mem_of_getElem? (i := 40) rfl)) (hw _ (List.mem_of_getElem? (i := 41) rfl)) (hw _ (List.mem_of_getElem? (i := 28) rfl)) (hw _ (List.mem_of_getElem? (i := 42) rfl)) (by decide) (rm6 l Z a0 hw [] a1 T3.heap n0 b0 b1 b2 b3 b4 b5 b6 el1 po1 se1 fi1 en1 ma1 tu1 tc1 sc1 O3.anew x0 x1 x2 x3 hx0 hx1 hx2 hx3) rfl (by rw [hml]; rfl) (pd_6) rfl (argsL := [(.ref a1)]) (rest := []) rfl rfl (hb hby at_43) (by decide) (Nat.le_of_ble_eq_true rfl) (by decide) (by decide) ?_
  rintro T4 _ L4 X4 ⟨N4, r1, rfl, gr1, fr1, K4, A4⟩
  have N4 := Fr.app N3 N4
  have nr1 : r1 ∉ [a1, b0, b1, b2, b3, b4, b5, b6] := fun q => by
    rcases List.mem_cons.mp q with q | q
    · exact absurd O3.exa.lt (Nat.not_lt.mpr (q ▸ fr1))
    · exact absurd (O3.lts q) (Nat.not_lt.mpr fr1)
  have O4 := O3.over K4 nin0 (fun _ _ => nin0)
  obtain ⟨L1_, X4, N4⟩ : ∃ L, Stand p l e room_1 s m #[.int p1, .int p2, .int p3] below meth c T4 L 9 42 ∧ Fr n0 L := ⟨_, X4, N4⟩
  show Go p e below _ T4 (mkF m 46 #[.val (.int p1), .val (.int p2), .val (.int p3), .val (.int za), .val (.int zb), .val (.int zo), .val (.int zq), .val (.ref a1), .unset, .unset, .unset, .unset, .unset] [(.ref r1)])
  refine Go.to (fun _ => XS.astore X4.here hx rfl (hb hby at_46) rfl rfl (l' := #[.val (.int p1), .val (.int p2), .val (.int p3), .val (.int za), .val (.int zb), .val (.int zo), .val (.int zq), .val (.ref a1), .val (.ref r1), .unset, .unset, .unset, .unset]) rfl) ?_
  show Go p e below _ T4 (mkF m 48 #[.val (.int p1), .val (.int p2), .val (.int p3), .val (.int za), .val (.int zb), .val (.int zo), .val (.int zq), .val (.ref a1), .val (.ref r1), .unset, .unset, .unset, .unset] [])
  refine Go.to (fun _ => XS.iloadN X4.here hx rfl (hb hby at_48) rfl) ?_
  show Go p e below _ T4 (mkF m 49 #[.val (.int p1), .val (.int p2), .val (.int p3), .val (.int za), .val (.int zb), .val (.int zo), .val (.int zq), .val (.ref a1), .val (.ref r1), .unset, .unset, .unset, .unset] [(.int za)])
  refine Go.to (fun _ => XS.iconst X4.here hx rfl (hb hby at_49)) ?_
  show Go p e below _ T4 (mkF m 50 #[.val (.int p1), .val (.int p2), .val (.int p3), .val (.int za), .val (.int zb), .val (.int zo), .val (.int zq), .val (.ref a1), .val (.ref r1), .unset, .unset, .unset, .unset] [(.int (0 : Int32)), (.int za)])
  refine Go.callS (y := (⟨"com/example/tracegauge/tracegauge/automata/PartitionSplitPinLaw", "bit", "(II)I"⟩ : MethodName)) X4 hx hZ hown (hw _ (List.mem_of_getElem? (i := 30) rfl)) (hw _ (List.mem_of_getElem? (i := 31) rfl)) (hw _ (List.mem_of_getElem? (i := 28) rfl)) (hw _ (List.mem_of_getElem? (i := 32) rfl)) (by decide) (rm4 l Z a0 hw [] za (0 : Int32) T4.heap) rfl (by rw [hml]; rfl) (pd_4) rfl (argsL := [(.int za), (.int (0 : Int32))]) (rest := []) rfl rfl (hb hby at_50) (by decide) (Nat.le_of_ble_eq_true rfl) (by decide) (by decide) ?_
  rintro T5 _ L5 X5 ⟨rfl, e5, rfl⟩
  simp only [List.append_nil] at X5
  show Go p e below _ T5 (mkF m 53 #[.val (.int p1), .val (.int p2), .val (.int p3), .val (.int za), .val (.int zb), .val (.int zo), .val (.int zq), .val (.ref a1), .val (.ref r1), .unset, .unset, .unset, .unset] [(.int (fBit za (0 : Int32)))])
  refine Go.to (fun _ => XS.iloadN X5.here hx rfl (hb hby at_53) rfl) ?_
  show Go p e below _ T5 (mkF m 54 #[.val (.int p1), .val (.int p2), .val (.int p3), .val (.int za), .val (.int zb), .val (.int zo), .val (.int zq), .val (.ref a1), .val (.ref r1), .unset, .unset, .unset, .unset] [(.int za), (.int (fBit za (0 : Int32)))])
  refine Go.to (fun _ => XS.iconst X5.here hx rfl (hb hby at_54)) ?_
  show Go p e below _ T5 (mkF m 55 #[.val (.int p1), .val (.int p2), .val (.int p3), .val (.int za), .val (.int zb), .val (.int zo), .val (.int zq), .val (.ref a1), .val (.ref r1), .unset, .unset, .unset, .unset] [(.int (1 : Int32)), (.int za), (.int (fBit za (0 : Int32)))])
  refine Go.callS (y := (⟨"com/example/tracegauge/tracegauge/automata/PartitionSplitPinLaw", "bit", "(II)I"⟩ : MethodName)) X5 hx hZ hown (hw _ (List.mem_of_getElem? (i := 30) rfl)) (hw _ (List.mem_of_getElem? (i := 31) rfl)) (hw _ (List.mem_of_getElem? (i := 28) rfl)) (hw _ (List.mem_of_getElem? (i := 32) rfl)) (by decide) (rm4 l Z a0 hw [] za (1 : Int32) T4.heap) e5 (by rw [hml]; rfl) (pd_4) rfl (argsL := [(.int za), (.int (1 : Int32))]) (rest := [(.int (fBit za (0 : Int32)))]) rfl rfl (hb hby at_55) (by decide) (Nat.le_of_ble_eq_true rfl) (by decide) (by decide) ?_
  rintro T6 _ L6 X6 ⟨rfl, e6, rfl⟩
  simp only [List.append_nil] at X6
  show Go p e below _ T6 (mkF m 58 #[.val (.int p1), .val (.int p2), .val (.int p3), .val (.int za), .val (.int zb), .val (.int zo), .val (.int zq), .val (.ref a1), .val (.ref r1), .unset, .unset, .unset, .unset] [(.int (fBit za (1 : Int32))), (.int (fBit za (0 : Int32)))])
  refine Go.to (fun _ => XS.iadd X6.here hx rfl (hb hby at_58) rfl) ?_
  show Go p e below _ T6 (mkF m 59 #[.val (.int p1), .val (.int p2), .val (.int p3), .val (.int za), .val (.int zb), .val (.int zo), .val (.int zq), .val (.ref a1), .val (.ref r1), .unset, .unset, .unset, .unset] [(.int ((fBit za (0 : Int32)) + (fBit za (1 : Int32))))])
  refine Go.to (fun _ => XS.iloadN X6.here hx rfl (hb hby at_59) rfl) ?_
  show Go p e below _ T6 (mkF m 60 #[.val (.int p1), .val (.int p2), .val (.int p3), .val (.int za), .val (.int zb), .val (.int zo), .val (.int zq), .val (.ref a1), .val (.ref r1), .unset, .unset, .unset, .unset] [(.int za), (.int ((fBit za (0 : Int32)) + (fBit za (1 : Int32))))])
  refine Go.to (fun _ => XS.iconst X6.here hx rfl (hb hby at_60)) ?_
  show Go p e below _ T6 (mkF m 61 #[.val (.int p1), .val (.int p2), .val (.int p3), .val (.int za), .val (.int zb), .val (.int zo), .val (.int zq), .val (.ref a1), .val (.ref r1), .unset, .unset, .unset, .unset] [(.int (2 : Int32)), (.int za), (.int ((fBit za (0 : Int32)) + (fBit za (1 : Int32))))])
  refine Go.callS (y := (⟨"com/example/tracegauge/tracegauge/automata/PartitionSplitPinLaw", "bit", "(II)I"⟩ : MethodName)) X6 hx hZ hown (hw _ (List.mem_of_getElem? (i := 30) rfl)) (hw _ (List.mem_of_getElem? (i := 31) rfl)) (hw _ (List.mem_of_getElem? (i := 28) rfl)) (hw _ (List.mem_of_getElem? (i := 32) rfl)) (by decide) (rm4 l Z a0 hw [] za (2 : Int32) T4.heap) e6 (by rw [hml]; rfl) (pd_4) rfl (argsL := [(.int za), (.int (2 : Int32))]) (rest := [(.int ((fBit za (0 : Int32)) + (fBit za (1 : Int32))))]) rfl rfl (hb hby at_61) (by decide) (Nat.le_of_ble_eq_true rfl) (by decide) (by decide) ?_
  rintro T7 _ L7 X7 ⟨rfl, e7, rfl⟩
  simp only [List.append_nil] at X7
  show Go p e below _ T7 (mkF m 64 #[.val (.int p1), .val (.int p2), .val (.int p3), .val (.int za), .val (.int zb), .val (.int zo), .val (.int zq), .val (.ref a1), .val (.ref r1), .unset, .unset, .unset, .unset] [(.int (fBit za (2 : Int32))), (.int ((fBit za (0 : Int32)) + (fBit za (1 : Int32))))])
  refine Go.to (fun _ => XS.iadd X7.here hx rfl (hb hby at_64) rfl) ?_
  show Go p e below _ T7 (mkF m 65 #[.val (.int p1), .val (.int p2), .val (.int p3), .val (.int za), .val (.int zb), .val (.int zo), .val (.int zq), .val (.ref a1), .val (.ref r1), .unset, .unset, .unset, .unset] [(.int (((fBit za (0 : Int32)) + (fBit za (1 : Int32))) + (fBit za (2 : Int32))))])
  refine Go.to (fun _ => XS.iloadN X7.here hx rfl (hb hby at_65) rfl) ?_
  show Go p e below _ T7 (mkF m 66 #[.val (.int p1), .val (.int p2), .val (.int p3), .val (.int za), .val (.int zb), .val (.int zo), .val (.int zq), .val (.ref a1), .val (.ref r1), .unset, .unset, .unset, .unset] [(.int za), (.int (((fBit za (0 : Int32)) + (fBit za (1 : Int32))) + (fBit za (2 : Int32))))])
  refine Go.to (fun _ => XS.iconst X7.here hx rfl (hb hby at_66)) ?_
  show Go p e below _ T7 (mkF m 67 #[.val (.int p1), .val (.int p2), .val (.int p3), .val (.int za), .val (.int zb), .val (.int zo), .val (.int zq), .val (.ref a1), .val (.ref r1), .unset, .unset, .unset, .unset] [(.int (3 : Int32)), (.int za), (.int (((fBit za (0 : Int32)) + (fBit za (1 : Int32))) + (fBit za (2 : Int32))))])
  refine Go.callS (y := (⟨"com/example/tracegauge/tracegauge/automata/PartitionSplitPinLaw", "bit", "(II)I"⟩ : MethodName)) X7 hx hZ hown (hw _ (List.mem_of_getElem? (i := 30) rfl)) (hw _ (List.mem_of_getElem? (i := 31) rfl)) (hw _ (List.mem_of_getElem? (i := 28) rfl)) (hw _ (List.mem_of_getElem? (i := 32) rfl)) (by decide) (rm4 l Z a0 hw [] za (3 : Int32) T4.heap) e7 (by rw [hml]; rfl) (pd_4) rfl (argsL := [(.int za), (.int (3 : Int32))]) (rest := [(.int (((fBit za (0 : Int32)) + (fBit za (1 : Int32))) + (fBit za (2 : Int32))))]) rfl rfl (hb hby at_67) (by decide) (Nat.le_of_ble_eq_true rfl) (by decide) (by decide) ?_
  rintro T8 _ L8 X8 ⟨rfl, e8, rfl⟩
  simp only [List.append_nil] at X8
  show Go p e below _ T8 (mkF m 70 #[.val (.int p1), .val (.int p2), .val (.int p3), .val (.int za), .val (.int zb), .val (.int zo), .val (.int zq), .val (.ref a1), .val (.ref r1), .unset, .unset, .unset, .unset] [(.int (fBit za (3 : Int32))), (.int (((fBit za (0 : Int32)) + (fBit za (1 : Int32))) + (fBit za (2 : Int32))))])
  refine Go.to (fun _ => XS.iadd X8.here hx rfl (hb hby at_70) rfl) ?_
  show Go p e below _ T8 (mkF m 71 #[.val (.int p1), .val (.int p2), .val (.int p3), .val (.int za), .val (.int zb), .val (.int zo), .val (.int zq), .val (.ref a1), .val (.ref r1), .unset, .unset, .unset, .unset] [(.int ((((fBit za (0 : Int32)) + (fBit za (1 : Int32))) + (fBit za (2 : Int32))) + (fBit za (3 : Int32))))])
  refine Go.to (fun _ => XS.istore X8.here hx rfl (hb hby at_71) rfl (l' := #[.val (.int p1), .val (.int p2), .val (.int p3), .val (.int za), .val (.int zb), .val (.int zo), .val (.int zq), .val (.ref a1), .val (.ref r1), .val (.int ((((fBit za (0 : Int32)) + (fBit za (1 : Int32))) + (fBit za (2 : Int32))) + (fBit za (3 : Int32)))), .unset, .unset, .unset]) rfl) ?_
  show Go p e below _ T8 (mkF m 73 #[.val (.int p1), .val (.int p2), .val (.int p3), .val (.int za), .val (.int zb), .val (.int zo), .val (.int zq), .val (.ref a1), .val (.ref r1), .val (.int ((((fBit za (0 : Int32)) + (fBit za (1 : Int32))) + (fBit za (2 : Int32))) + (fBit za (3 : Int32)))), .unset, .unset, .unset] [])
  obtain ⟨zk, hzk⟩ : ∃ z : Int32, z = ((((fBit za (0 : Int32)) + (fBit za (1 : Int32))) + (fBit za (2 : Int32))) + (fBit za (3 : Int32))) := ⟨_, rfl⟩
  rw [← hzk]
  rw [← hzk] at hH1 hH2 hH3 hH4
  show Go p e below _ T8 (mkF m 73 #[.val (.int p1), .val (.int p2), .val (.int p3), .val (.int za), .val (.int zb), .val (.int zo), .val (.int zq), .val (.ref a1), .val (.ref r1), .val (.int zk), .unset, .unset, .unset] [])
  have hj9 : (∀ (T9 : State), Stand p l e room_1 s m #[.int p1, .int p2, .int p3] below meth c T9 L1_ 9 42 → T9.heap = T4.heap → ∀ s11 : Slot, One s11 → Go p e below K T9 (mkF m 217 #[.val (.int p1), .val (.int p2), .val (.int p3), .val (.int za), .val (.int zb), .val (.int zo), .val (.int zq), .val (.ref a1), .val (.ref r1), .val (.int zk), .val (.int (1 : Int32)), s11, .unset] [])) → Go p e below K T8 (mkF m 73 #[.val (.int p1), .val (.int p2), .val (.int p3), .val (.int za), .val (.int zb), .val (.int zo), .val (.int zq), .val (.ref a1), .val (.ref r1), .val (.int zk), .unset, .unset, .unset] []) := by
    intro k
    refine Go.to (fun _ => XS.iload X8.here hx rfl (hb hby at_73) rfl) ?_
    show Go p e below _ T8 (mkF m 75 #[.val (.int p1), .val (.int p2), .val (.int p3), .val (.int za), .val (.int zb), .val (.int zo), .val (.int zq), .val (.ref a1), .val (.ref r1), .val (.int zk), .unset, .unset, .unset] [(.int zk)])
    by_cases hc1 : zk = (0 : Int32)
    · refine Go.to (fun _ => XS.ifYes X8.here hx rfl (pc0 := 75) (pc' := 84) rfl (hb hby at_75) rfl ((if0 _ _).trans (teq hc1).1) (by decide) (by decide)) ?_
      show Go p e below _ T8 (mkF m 84 #[.val (.int p1), .val (.int p2), .val (.int p3), .val (.int za), .val (.int zb), .val (.int zo), .val (.int zq), .val (.ref a1), .val (.ref r1), .val (.int zk), .unset, .unset, .unset] [])
      refine Go.to (fun _ => XS.aload X8.here hx rfl (hb hby at_84) rfl rfl) ?_
      show Go p e below _ T8 (mkF m 86 #[.val (.int p1), .val (.int p2), .val (.int p3), .val (.int za), .val (.int zb), .val (.int zo), .val (.int zq), .val (.ref a1), .val (.ref r1), .val (.int zk), .unset, .unset, .unset] [(.ref r1)])
      refine Go.to (fun _ => XS.iconst X8.here hx rfl (hb hby at_86)) ?_
      show Go p e below _ T8 (mkF m 87 #[.val (.int p1), .val (.int p2), .val (.int p3), .val (.int za), .val (.int zb), .val (.int zo), .val (.int zq), .val (.ref a1), .val (.ref r1), .val (.int zk), .unset, .unset, .unset] [(.int (4 : Int32)), (.ref r1)])
      refine Go.iaload X8 hx hZ e8 A4 rfl (hb hby at_87) ?_
      show Go p e below _ T8 (mkF m 88 #[.val (.int p1), .val (.int p2), .val (.int p3), .val (.int za), .val (.int zb), .val (.int zo), .val (.int zq), .val (.ref a1), .val (.ref r1), .val (.int zk), .unset, .unset, .unset] [(.int sc1)])
      refine Go.to (fun _ => XS.iconst X8.here hx rfl (hb hby at_88)) ?_
      show Go p e below _ T8 (mkF m 89 #[.val (.int p1), .val (.int p2), .val (.int p3), .val (.int za), .val (.int zb), .val (.int zo), .val (.int zq), .val (.ref a1), .val (.ref r1), .val (.int zk), .unset, .unset, .unset] [(.int (1 : Int32)), (.int sc1)])
      refine Go.to (fun _ => XS.icmpNo X8.here hx rfl (hb hby at_89) rfl (teq (hH1 (Or.inl hc1)).1).2) ?_
      show Go p e below _ T8 (mkF m 92 #[.val (.int p1), .val (.int p2), .val (.int p3), .val (.int za), .val (.int zb), .val (.int zo), .val (.int zq), .val (.ref a1), .val (.ref r1), .val (.int zk), .unset, .unset, .unset] [])
      refine Go.to (fun _ => XS.aload X8.here hx rfl (hb hby at_92) rfl rfl) ?_
      show Go p e below _ T8 (mkF m 94 #[.val (.int p1), .val (.int p2), .val (.int p3), .val (.int za), .val (.int zb), .val (.int zo), .val (.int zq), .val (.ref a1), .val (.ref r1), .val (.int zk), .unset, .unset, .unset] [(.ref r1)])
      refine Go.to (fun _ => XS.iconst X8.here hx rfl (hb hby at_94)) ?_
      show Go p e below _ T8 (mkF m 95 #[.val (.int p1), .val (.int p2), .val (.int p3), .val (.int za), .val (.int zb), .val (.int zo), .val (.int zq), .val (.ref a1), .val (.ref r1), .val (.int zk), .unset, .unset, .unset] [(.int (0 : Int32)), (.ref r1)])
      refine Go.iaload X8 hx hZ e8 A4 rfl (hb hby at_95) ?_
      show Go p e below _ T8 (mkF m 96 #[.val (.int p1), .val (.int p2), .val (.int p3), .val (.int za), .val (.int zb), .val (.int zo), .val (.int zq), .val (.ref a1), .val (.ref r1), .val (.int zk), .unset, .unset, .unset] [(.int x0)])
      refine Go.to (fun _ => XS.ifNo X8.here hx rfl (hb hby at_96) rfl ((if0 _ _).trans (teq (hH1 (Or.inl hc1)).2.1).2)) ?_
      show Go p e below _ T8 (mkF m 99 #[.val (.int p1), .val (.int p2), .val (.int p3), .val (.int za), .val (.int zb), .val (.int zo), .val (.int zq), .val (.ref a1), .val (.ref r1), .val (.int zk), .unset, .unset, .unset] [])
      refine Go.to (fun _ => XS.aload X8.here hx rfl (hb hby at_99) rfl rfl) ?_
      show Go p e below _ T8 (mkF m 101 #[.val (.int p1), .val (.int p2), .val (.int p3), .val (.int za), .val (.int zb), .val (.int zo), .val (.int zq), .val (.ref a1), .val (.ref r1), .val (.int zk), .unset, .unset, .unset] [(.ref r1)])
      refine Go.to (fun _ => XS.iconst X8.here hx rfl (hb hby at_101)) ?_
      show Go p e below _ T8 (mkF m 102 #[.val (.int p1), .val (.int p2), .val (.int p3), .val (.int za), .val (.int zb), .val (.int zo), .val (.int zq), .val (.ref a1), .val (.ref r1), .val (.int zk), .unset, .unset, .unset] [(.int (1 : Int32)), (.ref r1)])
      refine Go.iaload X8 hx hZ e8 A4 rfl (hb hby at_102) ?_
      show Go p e below _ T8 (mkF m 103 #[.val (.int p1), .val (.int p2), .val (.int p3), .val (.int za), .val (.int zb), .val (.int zo), .val (.int zq), .val (.ref a1), .val (.ref r1), .val (.int zk), .unset, .unset, .unset] [(.int x1)])
      refine Go.to (fun _ => XS.ifNo X8.here hx rfl (hb hby at_103) rfl ((if0 _ _).trans (teq (hH1 (Or.inl hc1)).2.2.1).2)) ?_
      show Go p e below _ T8 (mkF m 106 #[.val (.int p1), .val (.int p2), .val (.int p3), .val (.int za), .val (.int zb), .val (.int zo), .val (.int zq), .val (.ref a1), .val (.ref r1), .val (.int zk), .unset, .unset, .unset] [])
      refine Go.to (fun _ => XS.aload X8.here hx rfl (hb hby at_106) rfl rfl) ?_
      show Go p e below _ T8 (mkF m 108 #[.val (.int p1), .val (.int p2), .val (.int p3), .val (.int za), .val (.int zb), .val (.int zo), .val (.int zq), .val (.ref a1), .val (.ref r1), .val (.int zk), .unset, .unset, .unset] [(.ref r1)])
      refine Go.to (fun _ => XS.iconst X8.here hx rfl (hb hby at_108)) ?_
      show Go p e below _ T8 (mkF m 109 #[.val (.int p1), .val (.int p2), .val (.int p3), .val (.int za), .val (.int zb), .val (.int zo), .val (.int zq), .val (.ref a1), .val (.ref r1), .val (.int zk), .unset, .unset, .unset] [(.int (2 : Int32)), (.ref r1)])
      refine Go.iaload X8 hx hZ e8 A4 rfl (hb hby at_109) ?_
      show Go p e below _ T8 (mkF m 110 #[.val (.int p1), .val (.int p2), .val (.int p3), .val (.int za), .val (.int zb), .val (.int zo), .val (.int zq), .val (.ref a1), .val (.ref r1), .val (.int zk), .unset, .unset, .unset] [(.int x2)])
      refine Go.to (fun _ => XS.ifNo X8.here hx rfl (hb hby at_110) rfl ((if0 _ _).trans (teq (hH1 (Or.inl hc1)).2.2.2.1).2)) ?_
      show Go p e below _ T8 (mkF m 113 #[.val (.int p1), .val (.int p2), .val (.int p3), .val (.int za), .val (.int zb), .val (.int zo), .val (.int zq), .val (.ref a1), .val (.ref r1), .val (.int zk), .unset, .unset, .unset] [])
      refine Go.to (fun _ => XS.aload X8.here hx rfl (hb hby at_113) rfl rfl) ?_
      show Go p e below _ T8 (mkF m 115 #[.val (.int p1), .val (.int p2), .val (.int p3), .val (.int za), .val (.int zb), .val (.int zo), .val (.int zq), .val (.ref a1), .val (.ref r1), .val (.int zk), .unset, .unset, .unset] [(.ref r1)])
      refine Go.to (fun _ => XS.iconst X8.here hx rfl (hb hby at_115)) ?_
      show Go p e below _ T8 (mkF m 116 #[.val (.int p1), .val (.int p2), .val (.int p3), .val (.int za), .val (.int zb), .val (.int zo), .val (.int zq), .val (.ref a1), .val (.ref r1), .val (.int zk), .unset, .unset, .unset] [(.int (3 : Int32)), (.ref r1)])
      refine Go.iaload X8 hx hZ e8 A4 rfl (hb hby at_116) ?_
      show Go p e below _ T8 (mkF m 117 #[.val (.int p1), .val (.int p2), .val (.int p3), .val (.int za), .val (.int zb), .val (.int zo), .val (.int zq), .val (.ref a1), .val (.ref r1), .val (.int zk), .unset, .unset, .unset] [(.int x3)])
      refine Go.to (fun _ => XS.ifNo X8.here hx rfl (hb hby at_117) rfl ((if0 _ _).trans (teq (hH1 (Or.inl hc1)).2.2.2.2).2)) ?_
      show Go p e below _ T8 (mkF m 120 #[.val (.int p1), .val (.int p2), .val (.int p3), .val (.int za), .val (.int zb), .val (.int zo), .val (.int zq), .val (.ref a1), .val (.ref r1), .val (.int zk), .unset, .unset, .unset] [])
      refine Go.to (fun _ => XS.iconst X8.here hx rfl (hb hby at_120)) ?_
      show Go p e below _ T8 (mkF m 121 #[.val (.int p1), .val (.int p2), .val (.int p3), .val (.int za), .val (.int zb), .val (.int zo), .val (.int zq), .val (.ref a1), .val (.ref r1), .val (.int zk), .unset, .unset, .unset] [(.int (1 : Int32))])
      refine Go.to (fun _ => XS.goto X8.here hx rfl (pc0 := 121) (pc' := 125) rfl (hb hby at_121) (by decide) (by decide)) ?_
      show Go p e below _ T8 (mkF m 125 #[.val (.int p1), .val (.int p2), .val (.int p3), .val (.int za), .val (.int zb), .val (.int zo), .val (.int zq), .val (.ref a1), .val (.ref r1), .val (.int zk), .unset, .unset, .unset] [(.int (1 : Int32))])
      refine Go.to (fun _ => XS.istore X8.here hx rfl (hb hby at_125) rfl (l' := #[.val (.int p1), .val (.int p2), .val (.int p3), .val (.int za), .val (.int zb), .val (.int zo), .val (.int zq), .val (.ref a1), .val (.ref r1), .val (.int zk), .val (.int (1 : Int32)), .unset, .unset]) rfl) ?_
      show Go p e below _ T8 (mkF m 127 #[.val (.int p1), .val (.int p2), .val (.int p3), .val (.int za), .val (.int zb), .val (.int zo), .val (.int zq), .val (.ref a1), .val (.ref r1), .val (.int zk), .val (.int (1 : Int32)), .unset, .unset] [])
      refine Go.to (fun _ => XS.goto X8.here hx rfl (pc0 := 127) (pc' := 217) rfl (hb hby at_127) (by decide) (by decide)) ?_
      show Go p e below _ T8 (mkF m 217 #[.val (.int p1), .val (.int p2), .val (.int p3), .val (.int za), .val (.int zb), .val (.int zo), .val (.int zq), .val (.ref a1), .val (.ref r1), .val (.int zk), .val (.int (1 : Int32)), .unset, .unset] [])
      exact k _ X8 e8 .unset One.u
    · refine Go.to (fun _ => XS.ifNo X8.here hx rfl (hb hby at_75) rfl ((if0 _ _).trans (feq hc1).1)) ?_
      show Go p e below _ T8 (mkF m 78 #[.val (.int p1), .val (.int p2), .val (.int p3), .val (.int za), .val (.int zb), .val (.int zo), .val (.int zq), .val (.ref a1), .val (.ref r1), .val (.int zk), .unset, .unset, .unset] [])
      refine Go.to (fun _ => XS.iload X8.here hx rfl (hb hby at_78) rfl) ?_
      show Go p e below _ T8 (mkF m 80 #[.val (.int p1), .val (.int p2), .val (.int p3), .val (.int za), .val (.int zb), .val (.int zo), .val (.int zq), .val (.ref a1), .val (.ref r1), .val (.int zk), .unset, .unset, .unset] [(.int zk)])
      refine Go.to (fun _ => XS.iconst X8.here hx rfl (hb hby at_80)) ?_
      show Go p e below _ T8 (mkF m 81 #[.val (.int p1), .val (.int p2), .val (.int p3), .val (.int za), .val (.int zb), .val (.int zo), .val (.int zq), .val (.ref a1), .val (.ref r1), .val (.int zk), .unset, .unset, .unset] [(.int (4 : Int32)), (.int zk)])
      by_cases hc2 : zk = (4 : Int32)
      · refine Go.to (fun _ => XS.icmpNo X8.here hx rfl (hb hby at_81) rfl (teq hc2).2) ?_
        show Go p e below _ T8 (mkF m 84 #[.val (.int p1), .val (.int p2), .val (.int p3), .val (.int za), .val (.int zb), .val (.int zo), .val (.int zq), .val (.ref a1), .val (.ref r1), .val (.int zk), .unset, .unset, .unset] [])
        refine Go.to (fun _ => XS.aload X8.here hx rfl (hb hby at_84) rfl rfl) ?_
        show Go p e below _ T8 (mkF m 86 #[.val (.int p1), .val (.int p2), .val (.int p3), .val (.int za), .val (.int zb), .val (.int zo), .val (.int zq), .val (.ref a1), .val (.ref r1), .val (.int zk), .unset, .unset, .unset] [(.ref r1)])
        refine Go.to (fun _ => XS.iconst X8.here hx rfl (hb hby at_86)) ?_
        show Go p e below _ T8 (mkF m 87 #[.val (.int p1), .val (.int p2), .val (.int p3), .val (.int za), .val (.int zb), .val (.int zo), .val (.int zq), .val (.ref a1), .val (.ref r1), .val (.int zk), .unset, .unset, .unset] [(.int (4 : Int32)), (.ref r1)])
        refine Go.iaload X8 hx hZ e8 A4 rfl (hb hby at_87) ?_
        show Go p e below _ T8 (mkF m 88 #[.val (.int p1), .val (.int p2), .val (.int p3), .val (.int za), .val (.int zb), .val (.int zo), .val (.int zq), .val (.ref a1), .val (.ref r1), .val (.int zk), .unset, .unset, .unset] [(.int sc1)])
        refine Go.to (fun _ => XS.iconst X8.here hx rfl (hb hby at_88)) ?_
        show Go p e below _ T8 (mkF m 89 #[.val (.int p1), .val (.int p2), .val (.int p3), .val (.int za), .val (.int zb), .val (.int zo), .val (.int zq), .val (.ref a1), .val (.ref r1), .val (.int zk), .unset, .unset, .unset] [(.int (1 : Int32)), (.int sc1)])
        refine Go.to (fun _ => XS.icmpNo X8.here hx rfl (hb hby at_89) rfl (teq (hH1 (Or.inr hc2)).1).2) ?_
        show Go p e below _ T8 (mkF m 92 #[.val (.int p1), .val (.int p2), .val (.int p3), .val (.int za), .val (.int zb), .val (.int zo), .val (.int zq), .val (.ref a1), .val (.ref r1), .val (.int zk), .unset, .unset, .unset] [])
        refine Go.to (fun _ => XS.aload X8.here hx rfl (hb hby at_92) rfl rfl) ?_
        show Go p e below _ T8 (mkF m 94 #[.val (.int p1), .val (.int p2), .val (.int p3), .val (.int za), .val (.int zb), .val (.int zo), .val (.int zq), .val (.ref a1), .val (.ref r1), .val (.int zk), .unset, .unset, .unset] [(.ref r1)])
        refine Go.to (fun _ => XS.iconst X8.here hx rfl (hb hby at_94)) ?_
        show Go p e below _ T8 (mkF m 95 #[.val (.int p1), .val (.int p2), .val (.int p3), .val (.int za), .val (.int zb), .val (.int zo), .val (.int zq), .val (.ref a1), .val (.ref r1), .val (.int zk), .unset, .unset, .unset] [(.int (0 : Int32)), (.ref r1)])
        refine Go.iaload X8 hx hZ e8 A4 rfl (hb hby at_95) ?_
        show Go p e below _ T8 (mkF m 96 #[.val (.int p1), .val (.int p2), .val (.int p3), .val (.int za), .val (.int zb), .val (.int zo), .val (.int zq), .val (.ref a1), .val (.ref r1), .val (.int zk), .unset, .unset, .unset] [(.int x0)])
        refine Go.to (fun _ => XS.ifNo X8.here hx rfl (hb hby at_96) rfl ((if0 _ _).trans (teq (hH1 (Or.inr hc2)).2.1).2)) ?_
        show Go p e below _ T8 (mkF m 99 #[.val (.int p1), .val (.int p2), .val (.int p3), .val (.int za), .val (.int zb), .val (.int zo), .val (.int zq), .val (.ref a1), .val (.ref r1), .val (.int zk), .unset, .unset, .unset] [])
        refine Go.to (fun _ => XS.aload X8.here hx rfl (hb hby at_99) rfl rfl) ?_
        show Go p e below _ T8 (mkF m 101 #[.val (.int p1), .val (.int p2), .val (.int p3), .val (.int za), .val (.int zb), .val (.int zo), .val (.int zq), .val (.ref a1), .val (.ref r1), .val (.int zk), .unset, .unset, .unset] [(.ref r1)])
        refine Go.to (fun _ => XS.iconst X8.here hx rfl (hb hby at_101)) ?_
        show Go p e below _ T8 (mkF m 102 #[.val (.int p1), .val (.int p2), .val (.int p3), .val (.int za), .val (.int zb), .val (.int zo), .val (.int zq), .val (.ref a1), .val (.ref r1), .val (.int zk), .unset, .unset, .unset] [(.int (1 : Int32)), (.ref r1)])
        refine Go.iaload X8 hx hZ e8 A4 rfl (hb hby at_102) ?_
        show Go p e below _ T8 (mkF m 103 #[.val (.int p1), .val (.int p2), .val (.int p3), .val (.int za), .val (.int zb), .val (.int zo), .val (.int zq), .val (.ref a1), .val (.ref r1), .val (.int zk), .unset, .unset, .unset] [(.int x1)])
        refine Go.to (fun _ => XS.ifNo X8.here hx rfl (hb hby at_103) rfl ((if0 _ _).trans (teq (hH1 (Or.inr hc2)).2.2.1).2)) ?_
        show Go p e below _ T8 (mkF m 106 #[.val (.int p1), .val (.int p2), .val (.int p3), .val (.int za), .val (.int zb), .val (.int zo), .val (.int zq), .val (.ref a1), .val (.ref r1), .val (.int zk), .unset, .unset, .unset] [])
        refine Go.to (fun _ => XS.aload X8.here hx rfl (hb hby at_106) rfl rfl) ?_
        show Go p e below _ T8 (mkF m 108 #[.val (.int p1), .val (.int p2), .val (.int p3), .val (.int za), .val (.int zb), .val (.int zo), .val (.int zq), .val (.ref a1), .val (.ref r1), .val (.int zk), .unset, .unset, .unset] [(.ref r1)])
        refine Go.to (fun _ => XS.iconst X8.here hx rfl (hb hby at_108)) ?_
        show Go p e below _ T8 (mkF m 109 #[.val (.int p1), .val (.int p2), .val (.int p3), .val (.int za), .val (.int zb), .val (.int zo), .val (.int zq), .val (.ref a1), .val (.ref r1), .val (.int zk), .unset, .unset, .unset] [(.int (2 : Int32)), (.ref r1)])
        refine Go.iaload X8 hx hZ e8 A4 rfl (hb hby at_109) ?_
        show Go p e below _ T8 (mkF m 110 #[.val (.int p1), .val (.int p2), .val (.int p3), .val (.int za), .val (.int zb), .val (.int zo), .val (.int zq), .val (.ref a1), .val (.ref r1), .val (.int zk), .unset, .unset, .unset] [(.int x2)])
        refine Go.to (fun _ => XS.ifNo X8.here hx rfl (hb hby at_110) rfl ((if0 _ _).trans (teq (hH1 (Or.inr hc2)).2.2.2.1).2)) ?_
        show Go p e below _ T8 (mkF m 113 #[.val (.int p1), .val (.int p2), .val (.int p3), .val (.int za), .val (.int zb), .val (.int zo), .val (.int zq), .val (.ref a1), .val (.ref r1), .val (.int zk), .unset, .unset, .unset] [])
        refine Go.to (fun _ => XS.aload X8.here hx rfl (hb hby at_113) rfl rfl) ?_
        show Go p e below _ T8 (mkF m 115 #[.val (.int p1), .val (.int p2), .val (.int p3), .val (.int za), .val (.int zb), .val (.int zo), .val (.int zq), .val (.ref a1), .val (.ref r1), .val (.int zk), .unset, .unset, .unset] [(.ref r1)])
        refine Go.to (fun _ => XS.iconst X8.here hx rfl (hb hby at_115)) ?_
        show Go p e below _ T8 (mkF m 116 #[.val (.int p1), .val (.int p2), .val (.int p3), .val (.int za), .val (.int zb), .val (.int zo), .val (.int zq), .val (.ref a1), .val (.ref r1), .val (.int zk), .unset, .unset, .unset] [(.int (3 : Int32)), (.ref r1)])
        refine Go.iaload X8 hx hZ e8 A4 rfl (hb hby at_116) ?_
        show Go p e below _ T8 (mkF m 117 #[.val (.int p1), .val (.int p2), .val (.int p3), .val (.int za), .val (.int zb), .val (.int zo), .val (.int zq), .val (.ref a1), .val (.ref r1), .val (.int zk), .unset, .unset, .unset] [(.int x3)])
        refine Go.to (fun _ => XS.ifNo X8.here hx rfl (hb hby at_117) rfl ((if0 _ _).trans (teq (hH1 (Or.inr hc2)).2.2.2.2).2)) ?_
        show Go p e below _ T8 (mkF m 120 #[.val (.int p1), .val (.int p2), .val (.int p3), .val (.int za), .val (.int zb), .val (.int zo), .val (.int zq), .val (.ref a1), .val (.ref r1), .val (.int zk), .unset, .unset, .unset] [])
        refine Go.to (fun _ => XS.iconst X8.here hx rfl (hb hby at_120)) ?_
        show Go p e below _ T8 (mkF m 121 #[.val (.int p1), .val (.int p2), .val (.int p3), .val (.int za), .val (.int zb), .val (.int zo), .val (.int zq), .val (.ref a1), .val (.ref r1), .val (.int zk), .unset, .unset, .unset] [(.int (1 : Int32))])
        refine Go.to (fun _ => XS.goto X8.here hx rfl (pc0 := 121) (pc' := 125) rfl (hb hby at_121) (by decide) (by decide)) ?_
        show Go p e below _ T8 (mkF m 125 #[.val (.int p1), .val (.int p2), .val (.int p3), .val (.int za), .val (.int zb), .val (.int zo), .val (.int zq), .val (.ref a1), .val (.ref r1), .val (.int zk), .unset, .unset, .unset] [(.int (1 : Int32))])
        refine Go.to (fun _ => XS.istore X8.here hx rfl (hb hby at_125) rfl (l' := #[.val (.int p1), .val (.int p2), .val (.int p3), .val (.int za), .val (.int zb), .val (.int zo), .val (.int zq), .val (.ref a1), .val (.ref r1), .val (.int zk), .val (.int (1 : Int32)), .unset, .unset]) rfl) ?_
        show Go p e below _ T8 (mkF m 127 #[.val (.int p1), .val (.int p2), .val (.int p3), .val (.int za), .val (.int zb), .val (.int zo), .val (.int zq), .val (.ref a1), .val (.ref r1), .val (.int zk), .val (.int (1 : Int32)), .unset, .unset] [])
        refine Go.to (fun _ => XS.goto X8.here hx rfl (pc0 := 127) (pc' := 217) rfl (hb hby at_127) (by decide) (by decide)) ?_
        show Go p e below _ T8 (mkF m 217 #[.val (.int p1), .val (.int p2), .val (.int p3), .val (.int za), .val (.int zb), .val (.int zo), .val (.int zq), .val (.ref a1), .val (.ref r1), .val (.int zk), .val (.int (1 : Int32)), .unset, .unset] [])
        exact k _ X8 e8 .unset One.u
      · refine Go.to (fun _ => XS.icmpYes X8.here hx rfl (pc0 := 81) (pc' := 130) rfl (hb hby at_81) rfl (feq hc2).2 (by decide) (by decide)) ?_
        show Go p e below _ T8 (mkF m 130 #[.val (.int p1), .val (.int p2), .val (.int p3), .val (.int za), .val (.int zb), .val (.int zo), .val (.int zq), .val (.ref a1), .val (.ref r1), .val (.int zk), .unset, .unset, .unset] [])
        refine Go.to (fun _ => XS.iload X8.here hx rfl (hb hby at_130) rfl) ?_
        show Go p e below _ T8 (mkF m 132 #[.val (.int p1), .val (.int p2), .val (.int p3), .val (.int za), .val (.int zb), .val (.int zo), .val (.int zq), .val (.ref a1), .val (.ref r1), .val (.int zk), .unset, .unset, .unset] [(.int zk)])
        refine Go.to (fun _ => XS.iconst X8.here hx rfl (hb hby at_132)) ?_
        show Go p e below _ T8 (mkF m 133 #[.val (.int p1), .val (.int p2), .val (.int p3), .val (.int za), .val (.int zb), .val (.int zo), .val (.int zq), .val (.ref a1), .val (.ref r1), .val (.int zk), .unset, .unset, .unset] [(.int (4 : Int32)), (.int zk)])
        refine Go.to (fun _ => XS.iload X8.here hx rfl (hb hby at_133) rfl) ?_
        show Go p e below _ T8 (mkF m 135 #[.val (.int p1), .val (.int p2), .val (.int p3), .val (.int za), .val (.int zb), .val (.int zo), .val (.int zq), .val (.ref a1), .val (.ref r1), .val (.int zk), .unset, .unset, .unset] [(.int zk), (.int (4 : Int32)), (.int zk)])
        refine Go.to (fun _ => XS.isub X8.here hx rfl (hb hby at_135) rfl) ?_
        show Go p e below _ T8 (mkF m 136 #[.val (.int p1), .val (.int p2), .val (.int p3), .val (.int za), .val (.int zb), .val (.int zo), .val (.int zq), .val (.ref a1), .val (.ref r1), .val (.int zk), .unset, .unset, .unset] [(.int ((4 : Int32) - zk)), (.int zk)])
        by_cases hc3 : ((4 : Int32) - zk) < zk
        · refine Go.to (fun _ => XS.icmpYes X8.here hx rfl (pc0 := 136) (pc' := 143) rfl (hb hby at_136) rfl (tlt hc3).2.2.1 (by decide) (by decide)) ?_
          show Go p e below _ T8 (mkF m 143 #[.val (.int p1), .val (.int p2), .val (.int p3), .val (.int za), .val (.int zb), .val (.int zo), .val (.int zq), .val (.ref a1), .val (.ref r1), .val (.int zk), .unset, .unset, .unset] [])
          refine Go.to (fun _ => XS.iconst X8.here hx rfl (hb hby at_143)) ?_
          show Go p e below _ T8 (mkF m 144 #[.val (.int p1), .val (.int p2), .val (.int p3), .val (.int za), .val (.int zb), .val (.int zo), .val (.int zq), .val (.ref a1), .val (.ref r1), .val (.int zk), .unset, .unset, .unset] [(.int (0 : Int32))])
          refine Go.to (fun _ => XS.istore X8.here hx rfl (hb hby at_144) rfl (l' := #[.val (.int p1), .val (.int p2), .val (.int p3), .val (.int za), .val (.int zb), .val (.int zo), .val (.int zq), .val (.ref a1), .val (.ref r1), .val (.int zk), .unset, .val (.int (0 : Int32)), .unset]) rfl) ?_
          show Go p e below _ T8 (mkF m 146 #[.val (.int p1), .val (.int p2), .val (.int p3), .val (.int za), .val (.int zb), .val (.int zo), .val (.int zq), .val (.ref a1), .val (.ref r1), .val (.int zk), .unset, .val (.int (0 : Int32)), .unset] [])
          refine Go.to (fun _ => XS.aload X8.here hx rfl (hb hby at_146) rfl rfl) ?_
          show Go p e below _ T8 (mkF m 148 #[.val (.int p1), .val (.int p2), .val (.int p3), .val (.int za), .val (.int zb), .val (.int zo), .val (.int zq), .val (.ref a1), .val (.ref r1), .val (.int zk), .unset, .val (.int (0 : Int32)), .unset] [(.ref r1)])
          refine Go.to (fun _ => XS.iconst X8.here hx rfl (hb hby at_148)) ?_
          show Go p e below _ T8 (mkF m 149 #[.val (.int p1), .val (.int p2), .val (.int p3), .val (.int za), .val (.int zb), .val (.int zo), .val (.int zq), .val (.ref a1), .val (.ref r1), .val (.int zk), .unset, .val (.int (0 : Int32)), .unset] [(.int (4 : Int32)), (.ref r1)])
          refine Go.iaload X8 hx hZ e8 A4 rfl (hb hby at_149) ?_
          show Go p e below _ T8 (mkF m 150 #[.val (.int p1), .val (.int p2), .val (.int p3), .val (.int za), .val (.int zb), .val (.int zo), .val (.int zq), .val (.ref a1), .val (.ref r1), .val (.int zk), .unset, .val (.int (0 : Int32)), .unset] [(.int sc1)])
          refine Go.to (fun _ => XS.iconst X8.here hx rfl (hb hby at_150)) ?_
          show Go p e below _ T8 (mkF m 151 #[.val (.int p1), .val (.int p2), .val (.int p3), .val (.int za), .val (.int zb), .val (.int zo), .val (.int zq), .val (.ref a1), .val (.ref r1), .val (.int zk), .unset, .val (.int (0 : Int32)), .unset] [(.int (2 : Int32)), (.int sc1)])
          refine Go.to (fun _ => XS.icmpNo X8.here hx rfl (hb hby at_151) rfl (teq (hH2 hc1 hc2)).2) ?_
          show Go p e below _ T8 (mkF m 154 #[.val (.int p1), .val (.int p2), .val (.int p3), .val (.int za), .val (.int zb), .val (.int zo), .val (.int zq), .val (.ref a1), .val (.ref r1), .val (.int zk), .unset, .val (.int (0 : Int32)), .unset] [])
          refine Go.to (fun _ => XS.aload X8.here hx rfl (hb hby at_154) rfl rfl) ?_
          show Go p e below _ T8 (mkF m 156 #[.val (.int p1), .val (.int p2), .val (.int p3), .val (.int za), .val (.int zb), .val (.int zo), .val (.int zq), .val (.ref a1), .val (.ref r1), .val (.int zk), .unset, .val (.int (0 : Int32)), .unset] [(.ref r1)])
          refine Go.to (fun _ => XS.iconst X8.here hx rfl (hb hby at_156)) ?_
          show Go p e below _ T8 (mkF m 157 #[.val (.int p1), .val (.int p2), .val (.int p3), .val (.int za), .val (.int zb), .val (.int zo), .val (.int zq), .val (.ref a1), .val (.ref r1), .val (.int zk), .unset, .val (.int (0 : Int32)), .unset] [(.int (0 : Int32)), (.ref r1)])
          refine Go.iaload X8 hx hZ e8 A4 rfl (hb hby at_157) ?_
          show Go p e below _ T8 (mkF m 158 #[.val (.int p1), .val (.int p2), .val (.int p3), .val (.int za), .val (.int zb), .val (.int zo), .val (.int zq), .val (.ref a1), .val (.ref r1), .val (.int zk), .unset, .val (.int (0 : Int32)), .unset] [(.int x0)])
          refine Go.to (fun _ => XS.iloadN X8.here hx rfl (hb hby at_158) rfl) ?_
          show Go p e below _ T8 (mkF m 159 #[.val (.int p1), .val (.int p2), .val (.int p3), .val (.int za), .val (.int zb), .val (.int zo), .val (.int zq), .val (.ref a1), .val (.ref r1), .val (.int zk), .unset, .val (.int (0 : Int32)), .unset] [(.int za), (.int x0)])
          refine Go.to (fun _ => XS.iconst X8.here hx rfl (hb hby at_159)) ?_
          show Go p e below _ T8 (mkF m 160 #[.val (.int p1), .val (.int p2), .val (.int p3), .val (.int za), .val (.int zb), .val (.int zo), .val (.int zq), .val (.ref a1), .val (.ref r1), .val (.int zk), .unset, .val (.int (0 : Int32)), .unset] [(.int (0 : Int32)), (.int za), (.int x0)])
          refine Go.to (fun _ => XS.iload X8.here hx rfl (hb hby at_160) rfl) ?_
          show Go p e below _ T8 (mkF m 162 #[.val (.int p1), .val (.int p2), .val (.int p3), .val (.int za), .val (.int zb), .val (.int zo), .val (.int zq), .val (.ref a1), .val (.ref r1), .val (.int zk), .unset, .val (.int (0 : Int32)), .unset] [(.int (0 : Int32)), (.int (0 : Int32)), (.int za), (.int x0)])
          refine Go.callS (y := (⟨"com/example/tracegauge/tracegauge/automata/PartitionSplitPinLaw", "label", "(IIZ)I"⟩ : MethodName)) X8 hx hZ hown (hw _ (List.mem_of_getElem? (i := 83) rfl)) (hw _ (List.mem_of_getElem? (i := 84) rfl)) (hw _ (List.mem_of_getElem? (i := 28) rfl)) (hw _ (List.mem_of_getElem? (i := 85) rfl)) (by decide) (rm17 l Z a0 hw [] za (0 : Int32) (0 : Int32) T4.heap) e8 (by rw [hml]; rfl) (pd_7) rfl (argsL := [(.int za), (.int (0 : Int32)), (.int (0 : Int32))]) (rest := [(.int x0)]) rfl rfl (hb hby at_162) (by decide) (Nat.le_of_ble_eq_true rfl) (by decide) (by decide) ?_
          rintro T10 _ L10 X10 ⟨rfl, e10, rfl⟩
          simp only [List.append_nil] at X10
          show Go p e below _ T10 (mkF m 165 #[.val (.int p1), .val (.int p2), .val (.int p3), .val (.int za), .val (.int zb), .val (.int zo), .val (.int zq), .val (.ref a1), .val (.ref r1), .val (.int zk), .unset, .val (.int (0 : Int32)), .unset] [(.int (fL za (0 : Int32) (0 : Int32))), (.int x0)])
          refine Go.to (fun _ => XS.icmpNo X10.here hx rfl (hb hby at_165) rfl (teq (hH4 hc1 hc2 hc3).1).2) ?_
          show Go p e below _ T10 (mkF m 168 #[.val (.int p1), .val (.int p2), .val (.int p3), .val (.int za), .val (.int zb), .val (.int zo), .val (.int zq), .val (.ref a1), .val (.ref r1), .val (.int zk), .unset, .val (.int (0 : Int32)), .unset] [])
          refine Go.to (fun _ => XS.aload X10.here hx rfl (hb hby at_168) rfl rfl) ?_
          show Go p e below _ T10 (mkF m 170 #[.val (.int p1), .val (.int p2), .val (.int p3), .val (.int za), .val (.int zb), .val (.int zo), .val (.int zq), .val (.ref a1), .val (.ref r1), .val (.int zk), .unset, .val (.int (0 : Int32)), .unset] [(.ref r1)])
          refine Go.to (fun _ => XS.iconst X10.here hx rfl (hb hby at_170)) ?_
          show Go p e below _ T10 (mkF m 171 #[.val (.int p1), .val (.int p2), .val (.int p3), .val (.int za), .val (.int zb), .val (.int zo), .val (.int zq), .val (.ref a1), .val (.ref r1), .val (.int zk), .unset, .val (.int (0 : Int32)), .unset] [(.int (1 : Int32)), (.ref r1)])
          refine Go.iaload X10 hx hZ e10 A4 rfl (hb hby at_171) ?_
          show Go p e below _ T10 (mkF m 172 #[.val (.int p1), .val (.int p2), .val (.int p3), .val (.int za), .val (.int zb), .val (.int zo), .val (.int zq), .val (.ref a1), .val (.ref r1), .val (.int zk), .unset, .val (.int (0 : Int32)), .unset] [(.int x1)])
          refine Go.to (fun _ => XS.iloadN X10.here hx rfl (hb hby at_172) rfl) ?_
          show Go p e below _ T10 (mkF m 173 #[.val (.int p1), .val (.int p2), .val (.int p3), .val (.int za), .val (.int zb), .val (.int zo), .val (.int zq), .val (.ref a1), .val (.ref r1), .val (.int zk), .unset, .val (.int (0 : Int32)), .unset] [(.int za), (.int x1)])
          refine Go.to (fun _ => XS.iconst X10.here hx rfl (hb hby at_173)) ?_
          show Go p e below _ T10 (mkF m 174 #[.val (.int p1), .val (.int p2), .val (.int p3), .val (.int za), .val (.int zb), .val (.int zo), .val (.int zq), .val (.ref a1), .val (.ref r1), .val (.int zk), .unset, .val (.int (0 : Int32)), .unset] [(.int (1 : Int32)), (.int za), (.int x1)])
          refine Go.to (fun _ => XS.iload X10.here hx rfl (hb hby at_174) rfl) ?_
          show Go p e below _ T10 (mkF m 176 #[.val (.int p1), .val (.int p2), .val (.int p3), .val (.int za), .val (.int zb), .val (.int zo), .val (.int zq), .val (.ref a1), .val (.ref r1), .val (.int zk), .unset, .val (.int (0 : Int32)), .unset] [(.int (0 : Int32)), (.int (1 : Int32)), (.int za), (.int x1)])
          refine Go.callS (y := (⟨"com/example/tracegauge/tracegauge/automata/PartitionSplitPinLaw", "label", "(IIZ)I"⟩ : MethodName)) X10 hx hZ hown (hw _ (List.mem_of_getElem? (i := 83) rfl)) (hw _ (List.mem_of_getElem? (i := 84) rfl)) (hw _ (List.mem_of_getElem? (i := 28) rfl)) (hw _ (List.mem_of_getElem? (i := 85) rfl)) (by decide) (rm17 l Z a0 hw [] za (1 : Int32) (0 : Int32) T4.heap) e10 (by rw [hml]; rfl) (pd_7) rfl (argsL := [(.int za), (.int (1 : Int32)), (.int (0 : Int32))]) (rest := [(.int x1)]) rfl rfl (hb hby at_176) (by decide) (Nat.le_of_ble_eq_true rfl) (by decide) (by decide) ?_
          rintro T11 _ L11 X11 ⟨rfl, e11, rfl⟩
          simp only [List.append_nil] at X11
          show Go p e below _ T11 (mkF m 179 #[.val (.int p1), .val (.int p2), .val (.int p3), .val (.int za), .val (.int zb), .val (.int zo), .val (.int zq), .val (.ref a1), .val (.ref r1), .val (.int zk), .unset, .val (.int (0 : Int32)), .unset] [(.int (fL za (1 : Int32) (0 : Int32))), (.int x1)])
          refine Go.to (fun _ => XS.icmpNo X11.here hx rfl (hb hby at_179) rfl (teq (hH4 hc1 hc2 hc3).2.1).2) ?_
          show Go p e below _ T11 (mkF m 182 #[.val (.int p1), .val (.int p2), .val (.int p3), .val (.int za), .val (.int zb), .val (.int zo), .val (.int zq), .val (.ref a1), .val (.ref r1), .val (.int zk), .unset, .val (.int (0 : Int32)), .unset] [])
          refine Go.to (fun _ => XS.aload X11.here hx rfl (hb hby at_182) rfl rfl) ?_
          show Go p e below _ T11 (mkF m 184 #[.val (.int p1), .val (.int p2), .val (.int p3), .val (.int za), .val (.int zb), .val (.int zo), .val (.int zq), .val (.ref a1), .val (.ref r1), .val (.int zk), .unset, .val (.int (0 : Int32)), .unset] [(.ref r1)])
          refine Go.to (fun _ => XS.iconst X11.here hx rfl (hb hby at_184)) ?_
          show Go p e below _ T11 (mkF m 185 #[.val (.int p1), .val (.int p2), .val (.int p3), .val (.int za), .val (.int zb), .val (.int zo), .val (.int zq), .val (.ref a1), .val (.ref r1), .val (.int zk), .unset, .val (.int (0 : Int32)), .unset] [(.int (2 : Int32)), (.ref r1)])
          refine Go.iaload X11 hx hZ e11 A4 rfl (hb hby at_185) ?_
          show Go p e below _ T11 (mkF m 186 #[.val (.int p1), .val (.int p2), .val (.int p3), .val (.int za), .val (.int zb), .val (.int zo), .val (.int zq), .val (.ref a1), .val (.ref r1), .val (.int zk), .unset, .val (.int (0 : Int32)), .unset] [(.int x2)])
          refine Go.to (fun _ => XS.iloadN X11.here hx rfl (hb hby at_186) rfl) ?_
          show Go p e below _ T11 (mkF m 187 #[.val (.int p1), .val (.int p2), .val (.int p3), .val (.int za), .val (.int zb), .val (.int zo), .val (.int zq), .val (.ref a1), .val (.ref r1), .val (.int zk), .unset, .val (.int (0 : Int32)), .unset] [(.int za), (.int x2)])
          refine Go.to (fun _ => XS.iconst X11.here hx rfl (hb hby at_187)) ?_
          show Go p e below _ T11 (mkF m 188 #[.val (.int p1), .val (.int p2), .val (.int p3), .val (.int za), .val (.int zb), .val (.int zo), .val (.int zq), .val (.ref a1), .val (.ref r1), .val (.int zk), .unset, .val (.int (0 : Int32)), .unset] [(.int (2 : Int32)), (.int za), (.int x2)])
          refine Go.to (fun _ => XS.iload X11.here hx rfl (hb hby at_188) rfl) ?_
          show Go p e below _ T11 (mkF m 190 #[.val (.int p1), .val (.int p2), .val (.int p3), .val (.int za), .val (.int zb), .val (.int zo), .val (.int zq), .val (.ref a1), .val (.ref r1), .val (.int zk), .unset, .val (.int (0 : Int32)), .unset] [(.int (0 : Int32)), (.int (2 : Int32)), (.int za), (.int x2)])
          refine Go.callS (y := (⟨"com/example/tracegauge/tracegauge/automata/PartitionSplitPinLaw", "label", "(IIZ)I"⟩ : MethodName)) X11 hx hZ hown (hw _ (List.mem_of_getElem? (i := 83) rfl)) (hw _ (List.mem_of_getElem? (i := 84) rfl)) (hw _ (List.mem_of_getElem? (i := 28) rfl)) (hw _ (List.mem_of_getElem? (i := 85) rfl)) (by decide) (rm17 l Z a0 hw [] za (2 : Int32) (0 : Int32) T4.heap) e11 (by rw [hml]; rfl) (pd_7) rfl (argsL := [(.int za), (.int (2 : Int32)), (.int (0 : Int32))]) (rest := [(.int x2)]) rfl rfl (hb hby at_190) (by decide) (Nat.le_of_ble_eq_true rfl) (by decide) (by decide) ?_
          rintro T12 _ L12 X12 ⟨rfl, e12, rfl⟩
          simp only [List.append_nil] at X12
          show Go p e below _ T12 (mkF m 193 #[.val (.int p1), .val (.int p2), .val (.int p3), .val (.int za), .val (.int zb), .val (.int zo), .val (.int zq), .val (.ref a1), .val (.ref r1), .val (.int zk), .unset, .val (.int (0 : Int32)), .unset] [(.int (fL za (2 : Int32) (0 : Int32))), (.int x2)])
          refine Go.to (fun _ => XS.icmpNo X12.here hx rfl (hb hby at_193) rfl (teq (hH4 hc1 hc2 hc3).2.2.1).2) ?_
          show Go p e below _ T12 (mkF m 196 #[.val (.int p1), .val (.int p2), .val (.int p3), .val (.int za), .val (.int zb), .val (.int zo), .val (.int zq), .val (.ref a1), .val (.ref r1), .val (.int zk), .unset, .val (.int (0 : Int32)), .unset] [])
          refine Go.to (fun _ => XS.aload X12.here hx rfl (hb hby at_196) rfl rfl) ?_
          show Go p e below _ T12 (mkF m 198 #[.val (.int p1), .val (.int p2), .val (.int p3), .val (.int za), .val (.int zb), .val (.int zo), .val (.int zq), .val (.ref a1), .val (.ref r1), .val (.int zk), .unset, .val (.int (0 : Int32)), .unset] [(.ref r1)])
          refine Go.to (fun _ => XS.iconst X12.here hx rfl (hb hby at_198)) ?_
          show Go p e below _ T12 (mkF m 199 #[.val (.int p1), .val (.int p2), .val (.int p3), .val (.int za), .val (.int zb), .val (.int zo), .val (.int zq), .val (.ref a1), .val (.ref r1), .val (.int zk), .unset, .val (.int (0 : Int32)), .unset] [(.int (3 : Int32)), (.ref r1)])
          refine Go.iaload X12 hx hZ e12 A4 rfl (hb hby at_199) ?_
          show Go p e below _ T12 (mkF m 200 #[.val (.int p1), .val (.int p2), .val (.int p3), .val (.int za), .val (.int zb), .val (.int zo), .val (.int zq), .val (.ref a1), .val (.ref r1), .val (.int zk), .unset, .val (.int (0 : Int32)), .unset] [(.int x3)])
          refine Go.to (fun _ => XS.iloadN X12.here hx rfl (hb hby at_200) rfl) ?_
          show Go p e below _ T12 (mkF m 201 #[.val (.int p1), .val (.int p2), .val (.int p3), .val (.int za), .val (.int zb), .val (.int zo), .val (.int zq), .val (.ref a1), .val (.ref r1), .val (.int zk), .unset, .val (.int (0 : Int32)), .unset] [(.int za), (.int x3)])
          refine Go.to (fun _ => XS.iconst X12.here hx rfl (hb hby at_201)) ?_
          show Go p e below _ T12 (mkF m 202 #[.val (.int p1), .val (.int p2), .val (.int p3), .val (.int za), .val (.int zb), .val (.int zo), .val (.int zq), .val (.ref a1), .val (.ref r1), .val (.int zk), .unset, .val (.int (0 : Int32)), .unset] [(.int (3 : Int32)), (.int za), (.int x3)])
          refine Go.to (fun _ => XS.iload X12.here hx rfl (hb hby at_202) rfl) ?_
          show Go p e below _ T12 (mkF m 204 #[.val (.int p1), .val (.int p2), .val (.int p3), .val (.int za), .val (.int zb), .val (.int zo), .val (.int zq), .val (.ref a1), .val (.ref r1), .val (.int zk), .unset, .val (.int (0 : Int32)), .unset] [(.int (0 : Int32)), (.int (3 : Int32)), (.int za), (.int x3)])
          refine Go.callS (y := (⟨"com/example/tracegauge/tracegauge/automata/PartitionSplitPinLaw", "label", "(IIZ)I"⟩ : MethodName)) X12 hx hZ hown (hw _ (List.mem_of_getElem? (i := 83) rfl)) (hw _ (List.mem_of_getElem? (i := 84) rfl)) (hw _ (List.mem_of_getElem? (i := 28) rfl)) (hw _ (List.mem_of_getElem? (i := 85) rfl)) (by decide) (rm17 l Z a0 hw [] za (3 : Int32) (0 : Int32) T4.heap) e12 (by rw [hml]; rfl) (pd_7) rfl (argsL := [(.int za), (.int (3 : Int32)), (.int (0 : Int32))]) (rest := [(.int x3)]) rfl rfl (hb hby at_204) (by decide) (Nat.le_of_ble_eq_true rfl) (by decide) (by decide) ?_
          rintro T13 _ L13 X13 ⟨rfl, e13, rfl⟩
          simp only [List.append_nil] at X13
          show Go p e below _ T13 (mkF m 207 #[.val (.int p1), .val (.int p2), .val (.int p3), .val (.int za), .val (.int zb), .val (.int zo), .val (.int zq), .val (.ref a1), .val (.ref r1), .val (.int zk), .unset, .val (.int (0 : Int32)), .unset] [(.int (fL za (3 : Int32) (0 : Int32))), (.int x3)])
          refine Go.to (fun _ => XS.icmpNo X13.here hx rfl (hb hby at_207) rfl (teq (hH4 hc1 hc2 hc3).2.2.2).2) ?_
          show Go p e below _ T13 (mkF m 210 #[.val (.int p1), .val (.int p2), .val (.int p3), .val (.int za), .val (.int zb), .val (.int zo), .val (.int zq), .val (.ref a1), .val (.ref r1), .val (.int zk), .unset, .val (.int (0 : Int32)), .unset] [])
          refine Go.to (fun _ => XS.iconst X13.here hx rfl (hb hby at_210)) ?_
          show Go p e below _ T13 (mkF m 211 #[.val (.int p1), .val (.int p2), .val (.int p3), .val (.int za), .val (.int zb), .val (.int zo), .val (.int zq), .val (.ref a1), .val (.ref r1), .val (.int zk), .unset, .val (.int (0 : Int32)), .unset] [(.int (1 : Int32))])
          refine Go.to (fun _ => XS.goto X13.here hx rfl (pc0 := 211) (pc' := 215) rfl (hb hby at_211) (by decide) (by decide)) ?_
          show Go p e below _ T13 (mkF m 215 #[.val (.int p1), .val (.int p2), .val (.int p3), .val (.int za), .val (.int zb), .val (.int zo), .val (.int zq), .val (.ref a1), .val (.ref r1), .val (.int zk), .unset, .val (.int (0 : Int32)), .unset] [(.int (1 : Int32))])
          refine Go.to (fun _ => XS.istore X13.here hx rfl (hb hby at_215) rfl (l' := #[.val (.int p1), .val (.int p2), .val (.int p3), .val (.int za), .val (.int zb), .val (.int zo), .val (.int zq), .val (.ref a1), .val (.ref r1), .val (.int zk), .val (.int (1 : Int32)), .val (.int (0 : Int32)), .unset]) rfl) ?_
          show Go p e below _ T13 (mkF m 217 #[.val (.int p1), .val (.int p2), .val (.int p3), .val (.int za), .val (.int zb), .val (.int zo), .val (.int zq), .val (.ref a1), .val (.ref r1), .val (.int zk), .val (.int (1 : Int32)), .val (.int (0 : Int32)), .unset] [])
          exact k _ X13 e13 (.val (.int (0 : Int32))) (One.val rfl)
        · refine Go.to (fun _ => XS.icmpNo X8.here hx rfl (hb hby at_136) rfl (flt hc3).2.2.1) ?_
          show Go p e below _ T8 (mkF m 139 #[.val (.int p1), .val (.int p2), .val (.int p3), .val (.int za), .val (.int zb), .val (.int zo), .val (.int zq), .val (.ref a1), .val (.ref r1), .val (.int zk), .unset, .unset, .unset] [])
          refine Go.to (fun _ => XS.iconst X8.here hx rfl (hb hby at_139)) ?_
          show Go p e below _ T8 (mkF m 140 #[.val (.int p1), .val (.int p2), .val (.int p3), .val (.int za), .val (.int zb), .val (.int zo), .val (.int zq), .val (.ref a1), .val (.ref r1), .val (.int zk), .unset, .unset, .unset] [(.int (1 : Int32))])
          refine Go.to (fun _ => XS.goto X8.here hx rfl (pc0 := 140) (pc' := 144) rfl (hb hby at_140) (by decide) (by decide)) ?_
          show Go p e below _ T8 (mkF m 144 #[.val (.int p1), .val (.int p2), .val (.int p3), .val (.int za), .val (.int zb), .val (.int zo), .val (.int zq), .val (.ref a1), .val (.ref r1), .val (.int zk), .unset, .unset, .unset] [(.int (1 : Int32))])
          refine Go.to (fun _ => XS.istore X8.here hx rfl (hb hby at_144) rfl (l' := #[.val (.int p1), .val (.int p2), .val (.int p3), .val (.int za), .val (.int zb), .val (.int zo), .val (.int zq), .val (.ref a1), .val (.ref r1), .val (.int zk), .unset, .val (.int (1 : Int32)), .unset]) rfl) ?_
          show Go p e below _ T8 (mkF m 146 #[.val (.int p1), .val (.int p2), .val (.int p3), .val (.int za), .val (.int zb), .val (.int zo), .val (.int zq), .val (.ref a1), .val (.ref r1), .val (.int zk), .unset, .val (.int (1 : Int32)), .unset] [])
          refine Go.to (fun _ => XS.aload X8.here hx rfl (hb hby at_146) rfl rfl) ?_
          show Go p e below _ T8 (mkF m 148 #[.val (.int p1), .val (.int p2), .val (.int p3), .val (.int za), .val (.int zb), .val (.int zo), .val (.int zq), .val (.ref a1), .val (.ref r1), .val (.int zk), .unset, .val (.int (1 : Int32)), .unset] [(.ref r1)])
          refine Go.to (fun _ => XS.iconst X8.here hx rfl (hb hby at_148)) ?_
          show Go p e below _ T8 (mkF m 149 #[.val (.int p1), .val (.int p2), .val (.int p3), .val (.int za), .val (.int zb), .val (.int zo), .val (.int zq), .val (.ref a1), .val (.ref r1), .val (.int zk), .unset, .val (.int (1 : Int32)), .unset] [(.int (4 : Int32)), (.ref r1)])
          refine Go.iaload X8 hx hZ e8 A4 rfl (hb hby at_149) ?_
          show Go p e below _ T8 (mkF m 150 #[.val (.int p1), .val (.int p2), .val (.int p3), .val (.int za), .val (.int zb), .val (.int zo), .val (.int zq), .val (.ref a1), .val (.ref r1), .val (.int zk), .unset, .val (.int (1 : Int32)), .unset] [(.int sc1)])
          refine Go.to (fun _ => XS.iconst X8.here hx rfl (hb hby at_150)) ?_
          show Go p e below _ T8 (mkF m 151 #[.val (.int p1), .val (.int p2), .val (.int p3), .val (.int za), .val (.int zb), .val (.int zo), .val (.int zq), .val (.ref a1), .val (.ref r1), .val (.int zk), .unset, .val (.int (1 : Int32)), .unset] [(.int (2 : Int32)), (.int sc1)])
          refine Go.to (fun _ => XS.icmpNo X8.here hx rfl (hb hby at_151) rfl (teq (hH2 hc1 hc2)).2) ?_
          show Go p e below _ T8 (mkF m 154 #[.val (.int p1), .val (.int p2), .val (.int p3), .val (.int za), .val (.int zb), .val (.int zo), .val (.int zq), .val (.ref a1), .val (.ref r1), .val (.int zk), .unset, .val (.int (1 : Int32)), .unset] [])
          refine Go.to (fun _ => XS.aload X8.here hx rfl (hb hby at_154) rfl rfl) ?_
          show Go p e below _ T8 (mkF m 156 #[.val (.int p1), .val (.int p2), .val (.int p3), .val (.int za), .val (.int zb), .val (.int zo), .val (.int zq), .val (.ref a1), .val (.ref r1), .val (.int zk), .unset, .val (.int (1 : Int32)), .unset] [(.ref r1)])
          refine Go.to (fun _ => XS.iconst X8.here hx rfl (hb hby at_156)) ?_
          show Go p e below _ T8 (mkF m 157 #[.val (.int p1), .val (.int p2), .val (.int p3), .val (.int za), .val (.int zb), .val (.int zo), .val (.int zq), .val (.ref a1), .val (.ref r1), .val (.int zk), .unset, .val (.int (1 : Int32)), .unset] [(.int (0 : Int32)), (.ref r1)])
          refine Go.iaload X8 hx hZ e8 A4 rfl (hb hby at_157) ?_
          show Go p e below _ T8 (mkF m 158 #[.val (.int p1), .val (.int p2), .val (.int p3), .val (.int za), .val (.int zb), .val (.int zo), .val (.int zq), .val (.ref a1), .val (.ref r1), .val (.int zk), .unset, .val (.int (1 : Int32)), .unset] [(.int x0)])
          refine Go.to (fun _ => XS.iloadN X8.here hx rfl (hb hby at_158) rfl) ?_
          show Go p e below _ T8 (mkF m 159 #[.val (.int p1), .val (.int p2), .val (.int p3), .val (.int za), .val (.int zb), .val (.int zo), .val (.int zq), .val (.ref a1), .val (.ref r1), .val (.int zk), .unset, .val (.int (1 : Int32)), .unset] [(.int za), (.int x0)])
          refine Go.to (fun _ => XS.iconst X8.here hx rfl (hb hby at_159)) ?_
          show Go p e below _ T8 (mkF m 160 #[.val (.int p1), .val (.int p2), .val (.int p3), .val (.int za), .val (.int zb), .val (.int zo), .val (.int zq), .val (.ref a1), .val (.ref r1), .val (.int zk), .unset, .val (.int (1 : Int32)), .unset] [(.int (0 : Int32)), (.int za), (.int x0)])
          refine Go.to (fun _ => XS.iload X8.here hx rfl (hb hby at_160) rfl) ?_
          show Go p e below _ T8 (mkF m 162 #[.val (.int p1), .val (.int p2), .val (.int p3), .val (.int za), .val (.int zb), .val (.int zo), .val (.int zq), .val (.ref a1), .val (.ref r1), .val (.int zk), .unset, .val (.int (1 : Int32)), .unset] [(.int (1 : Int32)), (.int (0 : Int32)), (.int za), (.int x0)])
          refine Go.callS (y := (⟨"com/example/tracegauge/tracegauge/automata/PartitionSplitPinLaw", "label", "(IIZ)I"⟩ : MethodName)) X8 hx hZ hown (hw _ (List.mem_of_getElem? (i := 83) rfl)) (hw _ (List.mem_of_getElem? (i := 84) rfl)) (hw _ (List.mem_of_getElem? (i := 28) rfl)) (hw _ (List.mem_of_getElem? (i := 85) rfl)) (by decide) (rm17 l Z a0 hw [] za (0 : Int32) (1 : Int32) T4.heap) e8 (by rw [hml]; rfl) (pd_7) rfl (argsL := [(.int za), (.int (0 : Int32)), (.int (1 : Int32))]) (rest := [(.int x0)]) rfl rfl (hb hby at_162) (by decide) (Nat.le_of_ble_eq_true rfl) (by decide) (by decide) ?_
          rintro T14 _ L14 X14 ⟨rfl, e14, rfl⟩
          simp only [List.append_nil] at X14
          show Go p e below _ T14 (mkF m 165 #[.val (.int p1), .val (.int p2), .val (.int p3), .val (.int za), .val (.int zb), .val (.int zo), .val (.int zq), .val (.ref a1), .val (.ref r1), .val (.int zk), .unset, .val (.int (1 : Int32)), .unset] [(.int (fL za (0 : Int32) (1 : Int32))), (.int x0)])
          refine Go.to (fun _ => XS.icmpNo X14.here hx rfl (hb hby at_165) rfl (teq (hH3 hc1 hc2 hc3).1).2) ?_
          show Go p e below _ T14 (mkF m 168 #[.val (.int p1), .val (.int p2), .val (.int p3), .val (.int za), .val (.int zb), .val (.int zo), .val (.int zq), .val (.ref a1), .val (.ref r1), .val (.int zk), .unset, .val (.int (1 : Int32)), .unset] [])
          refine Go.to (fun _ => XS.aload X14.here hx rfl (hb hby at_168) rfl rfl) ?_
          show Go p e below _ T14 (mkF m 170 #[.val (.int p1), .val (.int p2), .val (.int p3), .val (.int za), .val (.int zb), .val (.int zo), .val (.int zq), .val (.ref a1), .val (.ref r1), .val (.int zk), .unset, .val (.int (1 : Int32)), .unset] [(.ref r1)])
          refine Go.to (fun _ => XS.iconst X14.here hx rfl (hb hby at_170)) ?_
          show Go p e below _ T14 (mkF m 171 #[.val (.int p1), .val (.int p2), .val (.int p3), .val (.int za), .val (.int zb), .val (.int zo), .val (.int zq), .val (.ref a1), .val (.ref r1), .val (.int zk), .unset, .val (.int (1 : Int32)), .unset] [(.int (1 : Int32)), (.ref r1)])
          refine Go.iaload X14 hx hZ e14 A4 rfl (hb hby at_171) ?_
          show Go p e below _ T14 (mkF m 172 #[.val (.int p1), .val (.int p2), .val (.int p3), .val (.int za), .val (.int zb), .val (.int zo), .val (.int zq), .val (.ref a1), .val (.ref r1), .val (.int zk), .unset, .val (.int (1 : Int32)), .unset] [(.int x1)])
          refine Go.to (fun _ => XS.iloadN X14.here hx rfl (hb hby at_172) rfl) ?_
          show Go p e below _ T14 (mkF m 173 #[.val (.int p1), .val (.int p2), .val (.int p3), .val (.int za), .val (.int zb), .val (.int zo), .val (.int zq), .val (.ref a1), .val (.ref r1), .val (.int zk), .unset, .val (.int (1 : Int32)), .unset] [(.int za), (.int x1)])
          refine Go.to (fun _ => XS.iconst X14.here hx rfl (hb hby at_173)) ?_
          show Go p e below _ T14 (mkF m 174 #[.val (.int p1), .val (.int p2), .val (.int p3), .val (.int za), .val (.int zb), .val (.int zo), .val (.int zq), .val (.ref a1), .val (.ref r1), .val (.int zk), .unset, .val (.int (1 : Int32)), .unset] [(.int (1 : Int32)), (.int za), (.int x1)])
          refine Go.to (fun _ => XS.iload X14.here hx rfl (hb hby at_174) rfl) ?_
          show Go p e below _ T14 (mkF m 176 #[.val (.int p1), .val (.int p2), .val (.int p3), .val (.int za), .val (.int zb), .val (.int zo), .val (.int zq), .val (.ref a1), .val (.ref r1), .val (.int zk), .unset, .val (.int (1 : Int32)), .unset] [(.int (1 : Int32)), (.int (1 : Int32)), (.int za), (.int x1)])
          refine Go.callS (y := (⟨"com/example/tracegauge/tracegauge/automata/PartitionSplitPinLaw", "label", "(IIZ)I"⟩ : MethodName)) X14 hx hZ hown (hw _ (List.mem_of_getElem? (i := 83) rfl)) (hw _ (List.mem_of_getElem? (i := 84) rfl)) (hw _ (List.mem_of_getElem? (i := 28) rfl)) (hw _ (List.mem_of_getElem? (i := 85) rfl)) (by decide) (rm17 l Z a0 hw [] za (1 : Int32) (1 : Int32) T4.heap) e14 (by rw [hml]; rfl) (pd_7) rfl (argsL := [(.int za), (.int (1 : Int32)), (.int (1 : Int32))]) (rest := [(.int x1)]) rfl rfl (hb hby at_176) (by decide) (Nat.le_of_ble_eq_true rfl) (by decide) (by decide) ?_
          rintro T15 _ L15 X15 ⟨rfl, e15, rfl⟩
          simp only [List.append_nil] at X15
          show Go p e below _ T15 (mkF m 179 #[.val (.int p1), .val (.int p2), .val (.int p3), .val (.int za), .val (.int zb), .val (.int zo), .val (.int zq), .val (.ref a1), .val (.ref r1), .val (.int zk), .unset, .val (.int (1 : Int32)), .unset] [(.int (fL za (1 : Int32) (1 : Int32))), (.int x1)])
          refine Go.to (fun _ => XS.icmpNo X15.here hx rfl (hb hby at_179) rfl (teq (hH3 hc1 hc2 hc3).2.1).2) ?_
          show Go p e below _ T15 (mkF m 182 #[.val (.int p1), .val (.int p2), .val (.int p3), .val (.int za), .val (.int zb), .val (.int zo), .val (.int zq), .val (.ref a1), .val (.ref r1), .val (.int zk), .unset, .val (.int (1 : Int32)), .unset] [])
          refine Go.to (fun _ => XS.aload X15.here hx rfl (hb hby at_182) rfl rfl) ?_
          show Go p e below _ T15 (mkF m 184 #[.val (.int p1), .val (.int p2), .val (.int p3), .val (.int za), .val (.int zb), .val (.int zo), .val (.int zq), .val (.ref a1), .val (.ref r1), .val (.int zk), .unset, .val (.int (1 : Int32)), .unset] [(.ref r1)])
          refine Go.to (fun _ => XS.iconst X15.here hx rfl (hb hby at_184)) ?_
          show Go p e below _ T15 (mkF m 185 #[.val (.int p1), .val (.int p2), .val (.int p3), .val (.int za), .val (.int zb), .val (.int zo), .val (.int zq), .val (.ref a1), .val (.ref r1), .val (.int zk), .unset, .val (.int (1 : Int32)), .unset] [(.int (2 : Int32)), (.ref r1)])
          refine Go.iaload X15 hx hZ e15 A4 rfl (hb hby at_185) ?_
          show Go p e below _ T15 (mkF m 186 #[.val (.int p1), .val (.int p2), .val (.int p3), .val (.int za), .val (.int zb), .val (.int zo), .val (.int zq), .val (.ref a1), .val (.ref r1), .val (.int zk), .unset, .val (.int (1 : Int32)), .unset] [(.int x2)])
          refine Go.to (fun _ => XS.iloadN X15.here hx rfl (hb hby at_186) rfl) ?_
          show Go p e below _ T15 (mkF m 187 #[.val (.int p1), .val (.int p2), .val (.int p3), .val (.int za), .val (.int zb), .val (.int zo), .val (.int zq), .val (.ref a1), .val (.ref r1), .val (.int zk), .unset, .val (.int (1 : Int32)), .unset] [(.int za), (.int x2)])
          refine Go.to (fun _ => XS.iconst X15.here hx rfl (hb hby at_187)) ?_
          show Go p e below _ T15 (mkF m 188 #[.val (.int p1), .val (.int p2), .val (.int p3), .val (.int za), .val (.int zb), .val (.int zo), .val (.int zq), .val (.ref a1), .val (.ref r1), .val (.int zk), .unset, .val (.int (1 : Int32)), .unset] [(.int (2 : Int32)), (.int za), (.int x2)])
          refine Go.to (fun _ => XS.iload X15.here hx rfl (hb hby at_188) rfl) ?_
          show Go p e below _ T15 (mkF m 190 #[.val (.int p1), .val (.int p2), .val (.int p3), .val (.int za), .val (.int zb), .val (.int zo), .val (.int zq), .val (.ref a1), .val (.ref r1), .val (.int zk), .unset, .val (.int (1 : Int32)), .unset] [(.int (1 : Int32)), (.int (2 : Int32)), (.int za), (.int x2)])
          refine Go.callS (y := (⟨"com/example/tracegauge/tracegauge/automata/PartitionSplitPinLaw", "label", "(IIZ)I"⟩ : MethodName)) X15 hx hZ hown (hw _ (List.mem_of_getElem? (i := 83) rfl)) (hw _ (List.mem_of_getElem? (i := 84) rfl)) (hw _ (List.mem_of_getElem? (i := 28) rfl)) (hw _ (List.mem_of_getElem? (i := 85) rfl)) (by decide) (rm17 l Z a0 hw [] za (2 : Int32) (1 : Int32) T4.heap) e15 (by rw [hml]; rfl) (pd_7) rfl (argsL := [(.int za), (.int (2 : Int32)), (.int (1 : Int32))]) (rest := [(.int x2)]) rfl rfl (hb hby at_190) (by decide) (Nat.le_of_ble_eq_true rfl) (by decide) (by decide) ?_
          rintro T16 _ L16 X16 ⟨rfl, e16, rfl⟩
          simp only [List.append_nil] at X16
          show Go p e below _ T16 (mkF m 193 #[.val (.int p1), .val (.int p2), .val (.int p3), .val (.int za), .val (.int zb), .val (.int zo), .val (.int zq), .val (.ref a1), .val (.ref r1), .val (.int zk), .unset, .val (.int (1 : Int32)), .unset] [(.int (fL za (2 : Int32) (1 : Int32))), (.int x2)])
          refine Go.to (fun _ => XS.icmpNo X16.here hx rfl (hb hby at_193) rfl (teq (hH3 hc1 hc2 hc3).2.2.1).2) ?_
          show Go p e below _ T16 (mkF m 196 #[.val (.int p1), .val (.int p2), .val (.int p3), .val (.int za), .val (.int zb), .val (.int zo), .val (.int zq), .val (.ref a1), .val (.ref r1), .val (.int zk), .unset, .val (.int (1 : Int32)), .unset] [])
          refine Go.to (fun _ => XS.aload X16.here hx rfl (hb hby at_196) rfl rfl) ?_
          show Go p e below _ T16 (mkF m 198 #[.val (.int p1), .val (.int p2), .val (.int p3), .val (.int za), .val (.int zb), .val (.int zo), .val (.int zq), .val (.ref a1), .val (.ref r1), .val (.int zk), .unset, .val (.int (1 : Int32)), .unset] [(.ref r1)])
          refine Go.to (fun _ => XS.iconst X16.here hx rfl (hb hby at_198)) ?_
          show Go p e below _ T16 (mkF m 199 #[.val (.int p1), .val (.int p2), .val (.int p3), .val (.int za), .val (.int zb), .val (.int zo), .val (.int zq), .val (.ref a1), .val (.ref r1), .val (.int zk), .unset, .val (.int (1 : Int32)), .unset] [(.int (3 : Int32)), (.ref r1)])
          refine Go.iaload X16 hx hZ e16 A4 rfl (hb hby at_199) ?_
          show Go p e below _ T16 (mkF m 200 #[.val (.int p1), .val (.int p2), .val (.int p3), .val (.int za), .val (.int zb), .val (.int zo), .val (.int zq), .val (.ref a1), .val (.ref r1), .val (.int zk), .unset, .val (.int (1 : Int32)), .unset] [(.int x3)])
          refine Go.to (fun _ => XS.iloadN X16.here hx rfl (hb hby at_200) rfl) ?_
          show Go p e below _ T16 (mkF m 201 #[.val (.int p1), .val (.int p2), .val (.int p3), .val (.int za), .val (.int zb), .val (.int zo), .val (.int zq), .val (.ref a1), .val (.ref r1), .val (.int zk), .unset, .val (.int (1 : Int32)), .unset] [(.int za), (.int x3)])
          refine Go.to (fun _ => XS.iconst X16.here hx rfl (hb hby at_201)) ?_
          show Go p e below _ T16 (mkF m 202 #[.val (.int p1), .val (.int p2), .val (.int p3), .val (.int za), .val (.int zb), .val (.int zo), .val (.int zq), .val (.ref a1), .val (.ref r1), .val (.int zk), .unset, .val (.int (1 : Int32)), .unset] [(.int (3 : Int32)), (.int za), (.int x3)])
          refine Go.to (fun _ => XS.iload X16.here hx rfl (hb hby at_202) rfl) ?_
          show Go p e below _ T16 (mkF m 204 #[.val (.int p1), .val (.int p2), .val (.int p3), .val (.int za), .val (.int zb), .val (.int zo), .val (.int zq), .val (.ref a1), .val (.ref r1), .val (.int zk), .unset, .val (.int (1 : Int32)), .unset] [(.int (1 : Int32)), (.int (3 : Int32)), (.int za), (.int x3)])
          refine Go.callS (y := (⟨"com/example/tracegauge/tracegauge/automata/PartitionSplitPinLaw", "label", "(IIZ)I"⟩ : MethodName)) X16 hx hZ hown (hw _ (List.mem_of_getElem? (i := 83) rfl)) (hw _ (List.mem_of_getElem? (i := 84) rfl)) (hw _ (List.mem_of_getElem? (i := 28) rfl)) (hw _ (List.mem_of_getElem? (i := 85) rfl)) (by decide) (rm17 l Z a0 hw [] za (3 : Int32) (1 : Int32) T4.heap) e16 (by rw [hml]; rfl) (pd_7) rfl (argsL := [(.int za), (.int (3 : Int32)), (.int (1 : Int32))]) (rest := [(.int x3)]) rfl rfl (hb hby at_204) (by decide) (Nat.le_of_ble_eq_true rfl) (by decide) (by decide) ?_
          rintro T17 _ L17 X17 ⟨rfl, e17, rfl⟩
          simp only [List.append_nil] at X17
          show Go p e below _ T17 (mkF m 207 #[.val (.int p1), .val (.int p2), .val (.int p3), .val (.int za), .val (.int zb), .val (.int zo), .val (.int zq), .val (.ref a1), .val (.ref r1), .val (.int zk), .unset, .val (.int (1 : Int32)), .unset] [(.int (fL za (3 : Int32) (1 : Int32))), (.int x3)])
          refine Go.to (fun _ => XS.icmpNo X17.here hx rfl (hb hby at_207) rfl (teq (hH3 hc1 hc2 hc3).2.2.2).2) ?_
          show Go p e below _ T17 (mkF m 210 #[.val (.int p1), .val (.int p2), .val (.int p3), .val (.int za), .val (.int zb), .val (.int zo), .val (.int zq), .val (.ref a1), .val (.ref r1), .val (.int zk), .unset, .val (.int (1 : Int32)), .unset] [])
          refine Go.to (fun _ => XS.iconst X17.here hx rfl (hb hby at_210)) ?_
          show Go p e below _ T17 (mkF m 211 #[.val (.int p1), .val (.int p2), .val (.int p3), .val (.int za), .val (.int zb), .val (.int zo), .val (.int zq), .val (.ref a1), .val (.ref r1), .val (.int zk), .unset, .val (.int (1 : Int32)), .unset] [(.int (1 : Int32))])
          refine Go.to (fun _ => XS.goto X17.here hx rfl (pc0 := 211) (pc' := 215) rfl (hb hby at_211) (by decide) (by decide)) ?_
          show Go p e below _ T17 (mkF m 215 #[.val (.int p1), .val (.int p2), .val (.int p3), .val (.int za), .val (.int zb), .val (.int zo), .val (.int zq), .val (.ref a1), .val (.ref r1), .val (.int zk), .unset, .val (.int (1 : Int32)), .unset] [(.int (1 : Int32))])
          refine Go.to (fun _ => XS.istore X17.here hx rfl (hb hby at_215) rfl (l' := #[.val (.int p1), .val (.int p2), .val (.int p3), .val (.int za), .val (.int zb), .val (.int zo), .val (.int zq), .val (.ref a1), .val (.ref r1), .val (.int zk), .val (.int (1 : Int32)), .val (.int (1 : Int32)), .unset]) rfl) ?_
          show Go p e below _ T17 (mkF m 217 #[.val (.int p1), .val (.int p2), .val (.int p3), .val (.int za), .val (.int zb), .val (.int zo), .val (.int zq), .val (.ref a1), .val (.ref r1), .val (.int zk), .val (.int (1 : Int32)), .val (.int (1 : Int32)), .unset] [])
          exact k _ X17 e17 (.val (.int (1 : Int32))) (One.val rfl)
  refine hj9 (fun T9 X9 e9 s11 hs11 => ?_)
  clear hj9
  refine Go.to (fun _ => XS.iload X9.here hx rfl (hb hby at_217) rfl) ?_
  show Go p e below _ T9 (mkF m 219 #[.val (.int p1), .val (.int p2), .val (.int p3), .val (.int za), .val (.int zb), .val (.int zo), .val (.int zq), .val (.ref a1), .val (.ref r1), .val (.int zk), .val (.int (1 : Int32)), s11, .unset] [(.int (1 : Int32))])
  refine Go.to (fun _ => XS.ifYes X9.here hx rfl (pc0 := 219) (pc' := 224) rfl (hb hby at_219) rfl ((if0 _ _).trans (feq (by decide)).2) (by decide) (by decide)) ?_
  show Go p e below _ T9 (mkF m 224 #[.val (.int p1), .val (.int p2), .val (.int p3), .val (.int za), .val (.int zb), .val (.int zo), .val (.int zq), .val (.ref a1), .val (.ref r1), .val (.int zk), .val (.int (1 : Int32)), s11, .unset] [])
  refine Go.to (fun _ => XS.aload X9.here hx rfl (hb hby at_224) rfl rfl) ?_
  show Go p e below _ T9 (mkF m 226 #[.val (.int p1), .val (.int p2), .val (.int p3), .val (.int za), .val (.int zb), .val (.int zo), .val (.int zq), .val (.ref a1), .val (.ref r1), .val (.int zk), .val (.int (1 : Int32)), s11, .unset] [(.ref a1)])
  refine Go.to (fun _ => XS.iload X9.here hx rfl (hb hby at_226) rfl) ?_
  show Go p e below _ T9 (mkF m 228 #[.val (.int p1), .val (.int p2), .val (.int p3), .val (.int za), .val (.int zb), .val (.int zo), .val (.int zq), .val (.ref a1), .val (.ref r1), .val (.int zk), .val (.int (1 : Int32)), s11, .unset] [(.int zb), (.ref a1)])
  refine Go.to (fun _ => XS.iload X9.here hx rfl (hb hby at_228) rfl) ?_
  show Go p e below _ T9 (mkF m 230 #[.val (.int p1), .val (.int p2), .val (.int p3), .val (.int za), .val (.int zb), .val (.int zo), .val (.int zq), .val (.ref a1), .val (.ref r1), .val (.int zk), .val (.int (1 : Int32)), s11, .unset] [(.int zq), (.int zb), (.ref a1)])
  refine Go.callS (y := (⟨"com/example/tracegauge/tracegauge/automata/PartitionSplitPinLaw", "markAndSplit", "(Lcom/example/tracegauge/tracegauge/automata/Partition;II)V"⟩ : MethodName)) X9 hx hZ hown (hw _ (List.mem_of_getElem? (i := 26) rfl)) (hw _ (List.mem_of_getElem? (i := 27) rfl)) (hw _ (List.mem_of_getElem? (i := 28) rfl)) (hw _ (List.mem_of_getElem? (i := 29) rfl)) (by decide) (rm3 l Z a0 hw [] a1 zb zq T4.heap n0 b0 b1 b2 b3 b4 b5 b6 el1 po1 se1 fi1 en1 ma1 tu1 tc1 sc1 O4.anew el2 po2 se2 fi2 en2 ma2 tu2 tc2 sc2 hm2) e9 (by rw [hml]; rfl) (pd_5) rfl (argsL := [(.ref a1), (.int zb), (.int zq)]) (rest := []) rfl rfl (hb hby at_230) (by decide) (Nat.le_of_ble_eq_true rfl) (by decide) (by decide) ?_
  rintro T18 _ L18 X18 ⟨rfl, N18, O18⟩
  have N18 := Fr.app N4 N18
  have A18 := A4.keep O18.kept nr1
  have O18 := O18.anew
  show Go p e below _ T18 (mkF m 233 #[.val (.int p1), .val (.int p2), .val (.int p3), .val (.int za), .val (.int zb), .val (.int zo), .val (.int zq), .val (.ref a1), .val (.ref r1), .val (.int zk), .val (.int (1 : Int32)), s11, .unset] [])
  refine Go.to (fun _ => XS.aload X18.here hx rfl (hb hby at_233) rfl rfl) ?_
  show Go p e below _ T18 (mkF m 235 #[.val (.int p1), .val (.int p2), .val (.int p3), .val (.int za), .val (.int zb), .val (.int zo), .val (.int zq), .val (.ref a1), .val (.ref r1), .val (.int zk), .val (.int (1 : Int32)), s11, .unset] [(.ref a1)])
  refine Go.callS (y := (⟨"com/example/tracegauge/tracegauge/automata/PartitionSplitPinLaw", "observe", "(Lcom/example/tracegauge/tracegauge/automata/Partition;)[I"⟩ : MethodName)) X18 hx hZ hown (hw _ (List.mem_of_getElem? (i := 40) rfl)) (hw _ (List.mem_of_getElem? (i := 41) rfl)) (hw _ (List.mem_of_getElem? (i := 28) rfl)) (hw _ (List.mem_of_getElem? (i := 42) rfl)) (by decide) (rm6 l Z a0 hw [] a1 T18.heap n0 b0 b1 b2 b3 b4 b5 b6 el2 po2 se2 fi2 en2 ma2 tu2 tc2 sc2 O18.anew y0 y1 y2 y3 hy0 hy1 hy2 hy3) rfl (by rw [hml]; rfl) (pd_6) rfl (argsL := [(.ref a1)]) (rest := []) rfl rfl (hb hby at_235) (by decide) (Nat.le_of_ble_eq_true rfl) (by decide) (by decide) ?_
  rintro T19 _ L19 X19 ⟨N19, r2, rfl, gr2, fr2, K19, A19⟩
  have N19 := Fr.app N18 N19
  have B19 := A18.keep K19 nin0
  have O19 := O18.over K19 nin0 (fun _ _ => nin0)
  obtain ⟨L2_, X19, N19⟩ : ∃ L, Stand p l e room_1 s m #[.int p1, .int p2, .int p3] below meth c T19 L 10 47 ∧ Fr n0 L := ⟨_, X19, N19⟩
  show Go p e below _ T19 (mkF m 238 #[.val (.int p1), .val (.int p2), .val (.int p3), .val (.int za), .val (.int zb), .val (.int zo), .val (.int zq), .val (.ref a1), .val (.ref r1), .val (.int zk), .val (.int (1 : Int32)), s11, .unset] [(.ref r2)])
  refine Go.to (fun _ => XS.astoreS X19.here hx rfl (hb hby at_238) rfl rfl rfl rfl hs11) ?_
  show Go p e below _ T19 (mkF m 240 #[.val (.int p1), .val (.int p2), .val (.int p3), .val (.int za), .val (.int zb), .val (.int zo), .val (.int zq), .val (.ref a1), .val (.ref r1), .val (.int zk), .val (.int (1 : Int32)), .val (.ref r2), .unset] [])
  refine Go.to (fun _ => XS.aload X19.here hx rfl (hb hby at_240) rfl rfl) ?_
  show Go p e below _ T19 (mkF m 242 #[.val (.int p1), .val (.int p2), .val (.int p3), .val (.int za), .val (.int zb), .val (.int zo), .val (.int zq), .val (.ref a1), .val (.ref r1), .val (.int zk), .val (.int (1 : Int32)), .val (.ref r2), .unset] [(.ref r1)])
  refine Go.to (fun _ => XS.iconst X19.here hx rfl (hb hby at_242)) ?_
  show Go p e below _ T19 (mkF m 243 #[.val (.int p1), .val (.int p2), .val (.int p3), .val (.int za), .val (.int zb), .val (.int zo), .val (.int zq), .val (.ref a1), .val (.ref r1), .val (.int zk), .val (.int (1 : Int32)), .val (.ref r2), .unset] [(.int (4 : Int32)), (.ref r1)])
  refine Go.iaload X19 hx hZ rfl B19 rfl (hb hby at_243) ?_
  show Go p e below _ T19 (mkF m 244 #[.val (.int p1), .val (.int p2), .val (.int p3), .val (.int za), .val (.int zb), .val (.int zo), .val (.int zq), .val (.ref a1), .val (.ref r1), .val (.int zk), .val (.int (1 : Int32)), .val (.ref r2), .unset] [(.int sc1)])
  refine Go.to (fun _ => XS.aload X19.here hx rfl (hb hby at_244) rfl rfl) ?_
  show Go p e below _ T19 (mkF m 246 #[.val (.int p1), .val (.int p2), .val (.int p3), .val (.int za), .val (.int zb), .val (.int zo), .val (.int zq), .val (.ref a1), .val (.ref r1), .val (.int zk), .val (.int (1 : Int32)), .val (.ref r2), .unset] [(.ref r1), (.int sc1)])
  refine Go.to (fun _ => XS.iconst X19.here hx rfl (hb hby at_246)) ?_
  show Go p e below _ T19 (mkF m 247 #[.val (.int p1), .val (.int p2), .val (.int p3), .val (.int za), .val (.int zb), .val (.int zo), .val (.int zq), .val (.ref a1), .val (.ref r1), .val (.int zk), .val (.int (1 : Int32)), .val (.ref r2), .unset] [(.int (0 : Int32)), (.ref r1), (.int sc1)])
  refine Go.to (fun _ => XS.iload X19.here hx rfl (hb hby at_247) rfl) ?_
  show Go p e below _ T19 (mkF m 249 #[.val (.int p1), .val (.int p2), .val (.int p3), .val (.int za), .val (.int zb), .val (.int zo), .val (.int zq), .val (.ref a1), .val (.ref r1), .val (.int zk), .val (.int (1 : Int32)), .val (.ref r2), .unset] [(.int zb), (.int (0 : Int32)), (.ref r1), (.int sc1)])
  refine Go.callS (y := (⟨"com/example/tracegauge/tracegauge/automata/PartitionSplitPinLaw", "splits", "([III)Z"⟩ : MethodName)) X19 hx hZ hown (hw _ (List.mem_of_getElem? (i := 58) rfl)) (hw _ (List.mem_of_getElem? (i := 59) rfl)) (hw _ (List.mem_of_getElem? (i := 28) rfl)) (hw _ (List.mem_of_getElem? (i := 60) rfl)) (by decide) (rm10 l Z a0 hw [] r1 (0 : Int32) zb T19.heap [x0, x1, x2, x3, sc1] B19 s0 hs0) rfl (by rw [hml]; rfl) (pd_9) rfl (argsL := [(.ref r1), (.int (0 : Int32)), (.int zb)]) (rest := [(.int sc1)]) rfl rfl (hb hby at_249) (by decide) (Nat.le_of_ble_eq_true rfl) (by decide) (by decide) ?_
  rintro T20 _ L20 X20 ⟨rfl, e20, rfl⟩
  simp only [List.append_nil] at X20
  show Go p e below _ T20 (mkF m 252 #[.val (.int p1), .val (.int p2), .val (.int p3), .val (.int za), .val (.int zb), .val (.int zo), .val (.int zq), .val (.ref a1), .val (.ref r1), .val (.int zk), .val (.int (1 : Int32)), .val (.ref r2), .unset] [(.int s0), (.int sc1)])
  have hj21 : (∀ d0 : Int32, d0 = (if s0 = (0 : Int32) then (0 : Int32) else (1 : Int32)) → Go p e below K T20 (mkF m 260 #[.val (.int p1), .val (.int p2), .val (.int p3), .val (.int za), .val (.int zb), .val (.int zo), .val (.int zq), .val (.ref a1), .val (.ref r1), .val (.int zk), .val (.int (1 : Int32)), .val (.ref r2), .unset] [(.int d0), (.int sc1)])) → Go p e below K T20 (mkF m 252 #[.val (.int p1), .val (.int p2), .val (.int p3), .val (.int za), .val (.int zb), .val (.int zo), .val (.int zq), .val (.ref a1), .val (.ref r1), .val (.int zk), .val (.int (1 : Int32)), .val (.ref r2), .unset] [(.int s0), (.int sc1)]) := by
    intro k
    by_cases hc4 : s0 = (0 : Int32)
    · refine Go.to (fun _ => XS.ifYes X20.here hx rfl (pc0 := 252) (pc' := 259) rfl (hb hby at_252) rfl ((if0 _ _).trans (teq hc4).1) (by decide) (by decide)) ?_
      show Go p e below _ T20 (mkF m 259 #[.val (.int p1), .val (.int p2), .val (.int p3), .val (.int za), .val (.int zb), .val (.int zo), .val (.int zq), .val (.ref a1), .val (.ref r1), .val (.int zk), .val (.int (1 : Int32)), .val (.ref r2), .unset] [(.int sc1)])
      refine Go.to (fun _ => XS.iconst X20.here hx rfl (hb hby at_259)) ?_
      show Go p e below _ T20 (mkF m 260 #[.val (.int p1), .val (.int p2), .val (.int p3), .val (.int za), .val (.int zb), .val (.int zo), .val (.int zq), .val (.ref a1), .val (.ref r1), .val (.int zk), .val (.int (1 : Int32)), .val (.ref r2), .unset] [(.int (0 : Int32)), (.int sc1)])
      exact k (0 : Int32) (by rw [if_pos hc4])
    · refine Go.to (fun _ => XS.ifNo X20.here hx rfl (hb hby at_252) rfl ((if0 _ _).trans (feq hc4).1)) ?_
      show Go p e below _ T20 (mkF m 255 #[.val (.int p1), .val (.int p2), .val (.int p3), .val (.int za), .val (.int zb), .val (.int zo), .val (.int zq), .val (.ref a1), .val (.ref r1), .val (.int zk), .val (.int (1 : Int32)), .val (.ref r2), .unset] [(.int sc1)])
      refine Go.to (fun _ => XS.iconst X20.here hx rfl (hb hby at_255)) ?_
      show Go p e below _ T20 (mkF m 256 #[.val (.int p1), .val (.int p2), .val (.int p3), .val (.int za), .val (.int zb), .val (.int zo), .val (.int zq), .val (.ref a1), .val (.ref r1), .val (.int zk), .val (.int (1 : Int32)), .val (.ref r2), .unset] [(.int (1 : Int32)), (.int sc1)])
      refine Go.to (fun _ => XS.goto X20.here hx rfl (pc0 := 256) (pc' := 260) rfl (hb hby at_256) (by decide) (by decide)) ?_
      show Go p e below _ T20 (mkF m 260 #[.val (.int p1), .val (.int p2), .val (.int p3), .val (.int za), .val (.int zb), .val (.int zo), .val (.int zq), .val (.ref a1), .val (.ref r1), .val (.int zk), .val (.int (1 : Int32)), .val (.ref r2), .unset] [(.int (1 : Int32)), (.int sc1)])
      exact k (1 : Int32) (by rw [if_neg hc4])
  refine hj21 (fun d0 hd0 => ?_)
  clear hj21
  refine Go.to (fun _ => XS.iadd X20.here hx rfl (hb hby at_260) rfl) ?_
  show Go p e below _ T20 (mkF m 261 #[.val (.int p1), .val (.int p2), .val (.int p3), .val (.int za), .val (.int zb), .val (.int zo), .val (.int zq), .val (.ref a1), .val (.ref r1), .val (.int zk), .val (.int (1 : Int32)), .val (.ref r2), .unset] [(.int (sc1 + d0))])
  refine Go.to (fun _ => XS.aload X20.here hx rfl (hb hby at_261) rfl rfl) ?_
  show Go p e below _ T20 (mkF m 263 #[.val (.int p1), .val (.int p2), .val (.int p3), .val (.int za), .val (.int zb), .val (.int zo), .val (.int zq), .val (.ref a1), .val (.ref r1), .val (.int zk), .val (.int (1 : Int32)), .val (.ref r2), .unset] [(.ref r1), (.int (sc1 + d0))])
  refine Go.to (fun _ => XS.iconst X20.here hx rfl (hb hby at_263)) ?_
  show Go p e below _ T20 (mkF m 264 #[.val (.int p1), .val (.int p2), .val (.int p3), .val (.int za), .val (.int zb), .val (.int zo), .val (.int zq), .val (.ref a1), .val (.ref r1), .val (.int zk), .val (.int (1 : Int32)), .val (.ref r2), .unset] [(.int (4 : Int32)), (.ref r1), (.int (sc1 + d0))])
  refine Go.iaload X20 hx hZ e20 B19 rfl (hb hby at_264) ?_
  show Go p e below _ T20 (mkF m 265 #[.val (.int p1), .val (.int p2), .val (.int p3), .val (.int za), .val (.int zb), .val (.int zo), .val (.int zq), .val (.ref a1), .val (.ref r1), .val (.int zk), .val (.int (1 : Int32)), .val (.ref r2), .unset] [(.int sc1), (.int (sc1 + d0))])
  refine Go.to (fun _ => XS.iconst X20.here hx rfl (hb hby at_265)) ?_
  show Go p e below _ T20 (mkF m 266 #[.val (.int p1), .val (.int p2), .val (.int p3), .val (.int za), .val (.int zb), .val (.int zo), .val (.int zq), .val (.ref a1), .val (.ref r1), .val (.int zk), .val (.int (1 : Int32)), .val (.ref r2), .unset] [(.int (2 : Int32)), (.int sc1), (.int (sc1 + d0))])
  have hj22 : (∀ (T22 : State), Stand p l e room_1 s m #[.int p1, .int p2, .int p3] below meth c T22 L2_ 10 47 → T22.heap = T19.heap → ∀ d1 : Int32, d1 = (if sc1 = (2 : Int32) then (if s1 = (0 : Int32) then (0 : Int32) else (1 : Int32)) else (0 : Int32)) → Go p e below K T22 (mkF m 285 #[.val (.int p1), .val (.int p2), .val (.int p3), .val (.int za), .val (.int zb), .val (.int zo), .val (.int zq), .val (.ref a1), .val (.ref r1), .val (.int zk), .val (.int (1 : Int32)), .val (.ref r2), .unset] [(.int d1), (.int (sc1 + d0))])) → Go p e below K T20 (mkF m 266 #[.val (.int p1), .val (.int p2), .val (.int p3), .val (.int za), .val (.int zb), .val (.int zo), .val (.int zq), .val (.ref a1), .val (.ref r1), .val (.int zk), .val (.int (1 : Int32)), .val (.ref r2), .unset] [(.int (2 : Int32)), (.int sc1), (.int (sc1 + d0))]) := by
    intro k
    by_cases hc5 : sc1 = (2 : Int32)
    · refine Go.to (fun _ => XS.icmpNo X20.here hx rfl (hb hby at_266) rfl (teq hc5).2) ?_
      show Go p e below _ T20 (mkF m 269 #[.val (.int p1), .val (.int p2), .val (.int p3), .val (.int za), .val (.int zb), .val (.int zo), .val (.int zq), .val (.ref a1), .val (.ref r1), .val (.int zk), .val (.int (1 : Int32)), .val (.ref r2), .unset] [(.int (sc1 + d0))])
      refine Go.to (fun _ => XS.aload X20.here hx rfl (hb hby at_269) rfl rfl) ?_
      show Go p e below _ T20 (mkF m 271 #[.val (.int p1), .val (.int p2), .val (.int p3), .val (.int za), .val (.int zb), .val (.int zo), .val (.int zq), .val (.ref a1), .val (.ref r1), .val (.int zk), .val (.int (1 : Int32)), .val (.ref r2), .unset] [(.ref r1), (.int (sc1 + d0))])
      refine Go.to (fun _ => XS.iconst X20.here hx rfl (hb hby at_271)) ?_
      show Go p e below _ T20 (mkF m 272 #[.val (.int p1), .val (.int p2), .val (.int p3), .val (.int za), .val (.int zb), .val (.int zo), .val (.int zq), .val (.ref a1), .val (.ref r1), .val (.int zk), .val (.int (1 : Int32)), .val (.ref r2), .unset] [(.int (1 : Int32)), (.ref r1), (.int (sc1 + d0))])
      refine Go.to (fun _ => XS.iload X20.here hx rfl (hb hby at_272) rfl) ?_
      show Go p e below _ T20 (mkF m 274 #[.val (.int p1), .val (.int p2), .val (.int p3), .val (.int za), .val (.int zb), .val (.int zo), .val (.int zq), .val (.ref a1), .val (.ref r1), .val (.int zk), .val (.int (1 : Int32)), .val (.ref r2), .unset] [(.int zb), (.int (1 : Int32)), (.ref r1), (.int (sc1 + d0))])
      refine Go.callS (y := (⟨"com/example/tracegauge/tracegauge/automata/PartitionSplitPinLaw", "splits", "([III)Z"⟩ : MethodName)) X20 hx hZ hown (hw _ (List.mem_of_getElem? (i := 58) rfl)) (hw _ (List.mem_of_getElem? (i := 59) rfl)) (hw _ (List.mem_of_getElem? (i := 28) rfl)) (hw _ (List.mem_of_getElem? (i := 60) rfl)) (by decide) (rm10 l Z a0 hw [] r1 (1 : Int32) zb T19.heap [x0, x1, x2, x3, sc1] B19 s1 (hs1 hc5)) e20 (by rw [hml]; rfl) (pd_9) rfl (argsL := [(.ref r1), (.int (1 : Int32)), (.int zb)]) (rest := [(.int (sc1 + d0))]) rfl rfl (hb hby at_274) (by decide) (Nat.le_of_ble_eq_true rfl) (by decide) (by decide) ?_
      rintro T23 _ L23 X23 ⟨rfl, e23, rfl⟩
      simp only [List.append_nil] at X23
      show Go p e below _ T23 (mkF m 277 #[.val (.int p1), .val (.int p2), .val (.int p3), .val (.int za), .val (.int zb), .val (.int zo), .val (.int zq), .val (.ref a1), .val (.ref r1), .val (.int zk), .val (.int (1 : Int32)), .val (.ref r2), .unset] [(.int s1), (.int (sc1 + d0))])
      by_cases hc6 : s1 = (0 : Int32)
      · refine Go.to (fun _ => XS.ifYes X23.here hx rfl (pc0 := 277) (pc' := 284) rfl (hb hby at_277) rfl ((if0 _ _).trans (teq hc6).1) (by decide) (by decide)) ?_
        show Go p e below _ T23 (mkF m 284 #[.val (.int p1), .val (.int p2), .val (.int p3), .val (.int za), .val (.int zb), .val (.int zo), .val (.int zq), .val (.ref a1), .val (.ref r1), .val (.int zk), .val (.int (1 : Int32)), .val (.ref r2), .unset] [(.int (sc1 + d0))])
        refine Go.to (fun _ => XS.iconst X23.here hx rfl (hb hby at_284)) ?_
        show Go p e below _ T23 (mkF m 285 #[.val (.int p1), .val (.int p2), .val (.int p3), .val (.int za), .val (.int zb), .val (.int zo), .val (.int zq), .val (.ref a1), .val (.ref r1), .val (.int zk), .val (.int (1 : Int32)), .val (.ref r2), .unset] [(.int (0 : Int32)), (.int (sc1 + d0))])
        exact k _ X23 e23 (0 : Int32) (by rw [if_pos hc5, if_pos hc6])
      · refine Go.to (fun _ => XS.ifNo X23.here hx rfl (hb hby at_277) rfl ((if0 _ _).trans (feq hc6).1)) ?_
        show Go p e below _ T23 (mkF m 280 #[.val (.int p1), .val (.int p2), .val (.int p3), .val (.int za), .val (.int zb), .val (.int zo), .val (.int zq), .val (.ref a1), .val (.ref r1), .val (.int zk), .val (.int (1 : Int32)), .val (.ref r2), .unset] [(.int (sc1 + d0))])
        refine Go.to (fun _ => XS.iconst X23.here hx rfl (hb hby at_280)) ?_
        show Go p e below _ T23 (mkF m 281 #[.val (.int p1), .val (.int p2), .val (.int p3), .val (.int za), .val (.int zb), .val (.int zo), .val (.int zq), .val (.ref a1), .val (.ref r1), .val (.int zk), .val (.int (1 : Int32)), .val (.ref r2), .unset] [(.int (1 : Int32)), (.int (sc1 + d0))])
        refine Go.to (fun _ => XS.goto X23.here hx rfl (pc0 := 281) (pc' := 285) rfl (hb hby at_281) (by decide) (by decide)) ?_
        show Go p e below _ T23 (mkF m 285 #[.val (.int p1), .val (.int p2), .val (.int p3), .val (.int za), .val (.int zb), .val (.int zo), .val (.int zq), .val (.ref a1), .val (.ref r1), .val (.int zk), .val (.int (1 : Int32)), .val (.ref r2), .unset] [(.int (1 : Int32)), (.int (sc1 + d0))])
        exact k _ X23 e23 (1 : Int32) (by rw [if_pos hc5, if_neg hc6])
    · refine Go.to (fun _ => XS.icmpYes X20.here hx rfl (pc0 := 266) (pc' := 284) rfl (hb hby at_266) rfl (feq hc5).2 (by decide) (by decide)) ?_
      show Go p e below _ T20 (mkF m 284 #[.val (.int p1), .val (.int p2), .val (.int p3), .val (.int za), .val (.int zb), .val (.int zo), .val (.int zq), .val (.ref a1), .val (.ref r1), .val (.int zk), .val (.int (1 : Int32)), .val (.ref r2), .unset] [(.int (sc1 + d0))])
      refine Go.to (fun _ => XS.iconst X20.here hx rfl (hb hby at_284)) ?_
      show Go p e below _ T20 (mkF m 285 #[.val (.int p1), .val (.int p2), .val (.int p3), .val (.int za), .val (.int zb), .val (.int zo), .val (.int zq), .val (.ref a1), .val (.ref r1), .val (.int zk), .val (.int (1 : Int32)), .val (.ref r2), .unset] [(.int (0 : Int32)), (.int (sc1 + d0))])
      exact k _ X20 e20 (0 : Int32) (by rw [if_neg hc5])
  refine hj22 (fun T22 X22 e22 d1 hd1 => ?_)
  clear hj22
  refine Go.to (fun _ => XS.iadd X22.here hx rfl (hb hby at_285) rfl) ?_
  show Go p e below _ T22 (mkF m 286 #[.val (.int p1), .val (.int p2), .val (.int p3), .val (.int za), .val (.int zb), .val (.int zo), .val (.int zq), .val (.ref a1), .val (.ref r1), .val (.int zk), .val (.int (1 : Int32)), .val (.ref r2), .unset] [(.int ((sc1 + d0) + d1))])
  refine Go.to (fun _ => XS.istore X22.here hx rfl (hb hby at_286) rfl (l' := #[.val (.int p1), .val (.int p2), .val (.int p3), .val (.int za), .val (.int zb), .val (.int zo), .val (.int zq), .val (.ref a1), .val (.ref r1), .val (.int zk), .val (.int (1 : Int32)), .val (.ref r2), .val (.int ((sc1 + d0) + d1))]) rfl) ?_
  show Go p e below _ T22 (mkF m 288 #[.val (.int p1), .val (.int p2), .val (.int p3), .val (.int za), .val (.int zb), .val (.int zo), .val (.int zq), .val (.ref a1), .val (.ref r1), .val (.int zk), .val (.int (1 : Int32)), .val (.ref r2), .val (.int ((sc1 + d0) + d1))] [])
  refine Go.to (fun _ => XS.aload X22.here hx rfl (hb hby at_288) rfl rfl) ?_
  show Go p e below _ T22 (mkF m 290 #[.val (.int p1), .val (.int p2), .val (.int p3), .val (.int za), .val (.int zb), .val (.int zo), .val (.int zq), .val (.ref a1), .val (.ref r1), .val (.int zk), .val (.int (1 : Int32)), .val (.ref r2), .val (.int ((sc1 + d0) + d1))] [(.ref r2)])
  refine Go.to (fun _ => XS.iconst X22.here hx rfl (hb hby at_290)) ?_
  show Go p e below _ T22 (mkF m 291 #[.val (.int p1), .val (.int p2), .val (.int p3), .val (.int za), .val (.int zb), .val (.int zo), .val (.int zq), .val (.ref a1), .val (.ref r1), .val (.int zk), .val (.int (1 : Int32)), .val (.ref r2), .val (.int ((sc1 + d0) + d1))] [(.int (4 : Int32)), (.ref r2)])
  refine Go.iaload X22 hx hZ e22 A19 rfl (hb hby at_291) ?_
  show Go p e below _ T22 (mkF m 292 #[.val (.int p1), .val (.int p2), .val (.int p3), .val (.int za), .val (.int zb), .val (.int zo), .val (.int zq), .val (.ref a1), .val (.ref r1), .val (.int zk), .val (.int (1 : Int32)), .val (.ref r2), .val (.int ((sc1 + d0) + d1))] [(.int sc2)])
  refine Go.to (fun _ => XS.iload X22.here hx rfl (hb hby at_292) rfl) ?_
  show Go p e below _ T22 (mkF m 294 #[.val (.int p1), .val (.int p2), .val (.int p3), .val (.int za), .val (.int zb), .val (.int zo), .val (.int zq), .val (.ref a1), .val (.ref r1), .val (.int zk), .val (.int (1 : Int32)), .val (.ref r2), .val (.int ((sc1 + d0) + d1))] [(.int ((sc1 + d0) + d1)), (.int sc2)])
  refine Go.to (fun _ => XS.icmpYes X22.here hx rfl (pc0 := 294) (pc' := 299) rfl (hb hby at_294) rfl (teq (hc2 d0 d1 hd0 hd1)).1 (by decide) (by decide)) ?_
  show Go p e below _ T22 (mkF m 299 #[.val (.int p1), .val (.int p2), .val (.int p3), .val (.int za), .val (.int zb), .val (.int zo), .val (.int zq), .val (.ref a1), .val (.ref r1), .val (.int zk), .val (.int (1 : Int32)), .val (.ref r2), .val (.int ((sc1 + d0) + d1))] [])
  refine Go.to (fun _ => XS.aload X22.here hx rfl (hb hby at_299) rfl rfl) ?_
  show Go p e below _ T22 (mkF m 301 #[.val (.int p1), .val (.int p2), .val (.int p3), .val (.int za), .val (.int zb), .val (.int zo), .val (.int zq), .val (.ref a1), .val (.ref r1), .val (.int zk), .val (.int (1 : Int32)), .val (.ref r2), .val (.int ((sc1 + d0) + d1))] [(.ref r1)])
  refine Go.to (fun _ => XS.aload X22.here hx rfl (hb hby at_301) rfl rfl) ?_
  show Go p e below _ T22 (mkF m 303 #[.val (.int p1), .val (.int p2), .val (.int p3), .val (.int za), .val (.int zb), .val (.int zo), .val (.int zq), .val (.ref a1), .val (.ref r1), .val (.int zk), .val (.int (1 : Int32)), .val (.ref r2), .val (.int ((sc1 + d0) + d1))] [(.ref r2), (.ref r1)])
  refine Go.to (fun _ => XS.iload X22.here hx rfl (hb hby at_303) rfl) ?_
  show Go p e below _ T22 (mkF m 305 #[.val (.int p1), .val (.int p2), .val (.int p3), .val (.int za), .val (.int zb), .val (.int zo), .val (.int zq), .val (.ref a1), .val (.ref r1), .val (.int zk), .val (.int (1 : Int32)), .val (.ref r2), .val (.int ((sc1 + d0) + d1))] [(.int zb), (.ref r2), (.ref r1)])
  refine Go.to (fun _ => XS.iconst X22.here hx rfl (hb hby at_305)) ?_
  show Go p e below _ T22 (mkF m 306 #[.val (.int p1), .val (.int p2), .val (.int p3), .val (.int za), .val (.int zb), .val (.int zo), .val (.int zq), .val (.ref a1), .val (.ref r1), .val (.int zk), .val (.int (1 : Int32)), .val (.ref r2), .val (.int ((sc1 + d0) + d1))] [(.int (0 : Int32)), (.int zb), (.ref r2), (.ref r1)])
  refine Go.callS (y := (⟨"com/example/tracegauge/tracegauge/automata/PartitionSplitPinLaw", "placeOk", "([I[III)Z"⟩ : MethodName)) X22 hx hZ hown (hw _ (List.mem_of_getElem? (i := 64) rfl)) (hw _ (List.mem_of_getElem? (i := 65) rfl)) (hw _ (List.mem_of_getElem? (i := 28) rfl)) (hw _ (List.mem_of_getElem? (i := 66) rfl)) (by decide) (rm12 l Z a0 hw [] r1 r2 zb (0 : Int32) T19.heap [x0, x1, x2, x3, sc1] B19 [y0, y1, y2, y3, sc2] A19 (1 : Int32) hp0) e22 (by rw [hml]; rfl) (pd_10) rfl (argsL := [(.ref r1), (.ref r2), (.int zb), (.int (0 : Int32))]) (rest := []) rfl rfl (hb hby at_306) (by decide) (Nat.le_of_ble_eq_true rfl) (by decide) (by decide) ?_
  rintro T24 _ L24 X24 ⟨rfl, e24, rfl⟩
  simp only [List.append_nil] at X24
  show Go p e below _ T24 (mkF m 309 #[.val (.int p1), .val (.int p2), .val (.int p3), .val (.int za), .val (.int zb), .val (.int zo), .val (.int zq), .val (.ref a1), .val (.ref r1), .val (.int zk), .val (.int (1 : Int32)), .val (.ref r2), .val (.int ((sc1 + d0) + d1))] [(.int (1 : Int32))])
  refine Go.to (fun _ => XS.ifNo X24.here hx rfl (hb hby at_309) rfl ((if0 _ _).trans (feq (by decide)).1)) ?_
  show Go p e below _ T24 (mkF m 312 #[.val (.int p1), .val (.int p2), .val (.int p3), .val (.int za), .val (.int zb), .val (.int zo), .val (.int zq), .val (.ref a1), .val (.ref r1), .val (.int zk), .val (.int (1 : Int32)), .val (.ref r2), .val (.int ((sc1 + d0) + d1))] [])
  refine Go.to (fun _ => XS.aload X24.here hx rfl (hb hby at_312) rfl rfl) ?_
  show Go p e below _ T24 (mkF m 314 #[.val (.int p1), .val (.int p2), .val (.int p3), .val (.int za), .val (.int zb), .val (.int zo), .val (.int zq), .val (.ref a1), .val (.ref r1), .val (.int zk), .val (.int (1 : Int32)), .val (.ref r2), .val (.int ((sc1 + d0) + d1))] [(.ref r1)])
  refine Go.to (fun _ => XS.aload X24.here hx rfl (hb hby at_314) rfl rfl) ?_
  show Go p e below _ T24 (mkF m 316 #[.val (.int p1), .val (.int p2), .val (.int p3), .val (.int za), .val (.int zb), .val (.int zo), .val (.int zq), .val (.ref a1), .val (.ref r1), .val (.int zk), .val (.int (1 : Int32)), .val (.ref r2), .val (.int ((sc1 + d0) + d1))] [(.ref r2), (.ref r1)])
  refine Go.to (fun _ => XS.iload X24.here hx rfl (hb hby at_316) rfl) ?_
  show Go p e below _ T24 (mkF m 318 #[.val (.int p1), .val (.int p2), .val (.int p3), .val (.int za), .val (.int zb), .val (.int zo), .val (.int zq), .val (.ref a1), .val (.ref r1), .val (.int zk), .val (.int (1 : Int32)), .val (.ref r2), .val (.int ((sc1 + d0) + d1))] [(.int zb), (.ref r2), (.ref r1)])
  refine Go.to (fun _ => XS.iconst X24.here hx rfl (hb hby at_318)) ?_
  show Go p e below _ T24 (mkF m 319 #[.val (.int p1), .val (.int p2), .val (.int p3), .val (.int za), .val (.int zb), .val (.int zo), .val (.int zq), .val (.ref a1), .val (.ref r1), .val (.int zk), .val (.int (1 : Int32)), .val (.ref r2), .val (.int ((sc1 + d0) + d1))] [(.int (1 : Int32)), (.int zb), (.ref r2), (.ref r1)])
  refine Go.callS (y := (⟨"com/example/tracegauge/tracegauge/automata/PartitionSplitPinLaw", "placeOk", "([I[III)Z"⟩ : MethodName)) X24 hx hZ hown (hw _ (List.mem_of_getElem? (i := 64) rfl)) (hw _ (List.mem_of_getElem? (i := 65) rfl)) (hw _ (List.mem_of_getElem? (i := 28) rfl)) (hw _ (List.mem_of_getElem? (i := 66) rfl)) (by decide) (rm12 l Z a0 hw [] r1 r2 zb (1 : Int32) T19.heap [x0, x1, x2, x3, sc1] B19 [y0, y1, y2, y3, sc2] A19 (1 : Int32) hp1) e24 (by rw [hml]; rfl) (pd_10) rfl (argsL := [(.ref r1), (.ref r2), (.int zb), (.int (1 : Int32))]) (rest := []) rfl rfl (hb hby at_319) (by decide) (Nat.le_of_ble_eq_true rfl) (by decide) (by decide) ?_
  rintro T25 _ L25 X25 ⟨rfl, e25, rfl⟩
  simp only [List.append_nil] at X25
  show Go p e below _ T25 (mkF m 322 #[.val (.int p1), .val (.int p2), .val (.int p3), .val (.int za), .val (.int zb), .val (.int zo), .val (.int zq), .val (.ref a1), .val (.ref r1), .val (.int zk), .val (.int (1 : Int32)), .val (.ref r2), .val (.int ((sc1 + d0) + d1))] [(.int (1 : Int32))])
  refine Go.to (fun _ => XS.ifNo X25.here hx rfl (hb hby at_322) rfl ((if0 _ _).trans (feq (by decide)).1)) ?_
  show Go p e below _ T25 (mkF m 325 #[.val (.int p1), .val (.int p2), .val (.int p3), .val (.int za), .val (.int zb), .val (.int zo), .val (.int zq), .val (.ref a1), .val (.ref r1), .val (.int zk), .val (.int (1 : Int32)), .val (.ref r2), .val (.int ((sc1 + d0) + d1))] [])
  refine Go.to (fun _ => XS.aload X25.here hx rfl (hb hby at_325) rfl rfl) ?_
  show Go p e below _ T25 (mkF m 327 #[.val (.int p1), .val (.int p2), .val (.int p3), .val (.int za), .val (.int zb), .val (.int zo), .val (.int zq), .val (.ref a1), .val (.ref r1), .val (.int zk), .val (.int (1 : Int32)), .val (.ref r2), .val (.int ((sc1 + d0) + d1))] [(.ref r1)])
  refine Go.to (fun _ => XS.aload X25.here hx rfl (hb hby at_327) rfl rfl) ?_
  show Go p e below _ T25 (mkF m 329 #[.val (.int p1), .val (.int p2), .val (.int p3), .val (.int za), .val (.int zb), .val (.int zo), .val (.int zq), .val (.ref a1), .val (.ref r1), .val (.int zk), .val (.int (1 : Int32)), .val (.ref r2), .val (.int ((sc1 + d0) + d1))] [(.ref r2), (.ref r1)])
  refine Go.to (fun _ => XS.iload X25.here hx rfl (hb hby at_329) rfl) ?_
  show Go p e below _ T25 (mkF m 331 #[.val (.int p1), .val (.int p2), .val (.int p3), .val (.int za), .val (.int zb), .val (.int zo), .val (.int zq), .val (.ref a1), .val (.ref r1), .val (.int zk), .val (.int (1 : Int32)), .val (.ref r2), .val (.int ((sc1 + d0) + d1))] [(.int zb), (.ref r2), (.ref r1)])
  refine Go.to (fun _ => XS.iconst X25.here hx rfl (hb hby at_331)) ?_
  show Go p e below _ T25 (mkF m 332 #[.val (.int p1), .val (.int p2), .val (.int p3), .val (.int za), .val (.int zb), .val (.int zo), .val (.int zq), .val (.ref a1), .val (.ref r1), .val (.int zk), .val (.int (1 : Int32)), .val (.ref r2), .val (.int ((sc1 + d0) + d1))] [(.int (2 : Int32)), (.int zb), (.ref r2), (.ref r1)])
  refine Go.callS (y := (⟨"com/example/tracegauge/tracegauge/automata/PartitionSplitPinLaw", "placeOk", "([I[III)Z"⟩ : MethodName)) X25 hx hZ hown (hw _ (List.mem_of_getElem? (i := 64) rfl)) (hw _ (List.mem_of_getElem? (i := 65) rfl)) (hw _ (List.mem_of_getElem? (i := 28) rfl)) (hw _ (List.mem_of_getElem? (i := 66) rfl)) (by decide) (rm12 l Z a0 hw [] r1 r2 zb (2 : Int32) T19.heap [x0, x1, x2, x3, sc1] B19 [y0, y1, y2, y3, sc2] A19 (1 : Int32) hp2) e25 (by rw [hml]; rfl) (pd_10) rfl (argsL := [(.ref r1), (.ref r2), (.int zb), (.int (2 : Int32))]) (rest := []) rfl rfl (hb hby at_332) (by decide) (Nat.le_of_ble_eq_true rfl) (by decide) (by decide) ?_
  rintro T26 _ L26 X26 ⟨rfl, e26, rfl⟩
  simp only [List.append_nil] at X26
  show Go p e below _ T26 (mkF m 335 #[.val (.int p1), .val (.int p2), .val (.int p3), .val (.int za), .val (.int zb), .val (.int zo), .val (.int zq), .val (.ref a1), .val (.ref r1), .val (.int zk), .val (.int (1 : Int32)), .val (.ref r2), .val (.int ((sc1 + d0) + d1))] [(.int (1 : Int32))])
  refine Go.to (fun _ => XS.ifNo X26.here hx rfl (hb hby at_335) rfl ((if0 _ _).trans (feq (by decide)).1)) ?_
  show Go p e below _ T26 (mkF m 338 #[.val (.int p1), .val (.int p2), .val (.int p3), .val (.int za), .val (.int zb), .val (.int zo), .val (.int zq), .val (.ref a1), .val (.ref r1), .val (.int zk), .val (.int (1 : Int32)), .val (.ref r2), .val (.int ((sc1 + d0) + d1))] [])
  refine Go.to (fun _ => XS.aload X26.here hx rfl (hb hby at_338) rfl rfl) ?_
  show Go p e below _ T26 (mkF m 340 #[.val (.int p1), .val (.int p2), .val (.int p3), .val (.int za), .val (.int zb), .val (.int zo), .val (.int zq), .val (.ref a1), .val (.ref r1), .val (.int zk), .val (.int (1 : Int32)), .val (.ref r2), .val (.int ((sc1 + d0) + d1))] [(.ref r1)])
  refine Go.to (fun _ => XS.aload X26.here hx rfl (hb hby at_340) rfl rfl) ?_
  show Go p e below _ T26 (mkF m 342 #[.val (.int p1), .val (.int p2), .val (.int p3), .val (.int za), .val (.int zb), .val (.int zo), .val (.int zq), .val (.ref a1), .val (.ref r1), .val (.int zk), .val (.int (1 : Int32)), .val (.ref r2), .val (.int ((sc1 + d0) + d1))] [(.ref r2), (.ref r1)])
  refine Go.to (fun _ => XS.iload X26.here hx rfl (hb hby at_342) rfl) ?_
  show Go p e below _ T26 (mkF m 344 #[.val (.int p1), .val (.int p2), .val (.int p3), .val (.int za), .val (.int zb), .val (.int zo), .val (.int zq), .val (.ref a1), .val (.ref r1), .val (.int zk), .val (.int (1 : Int32)), .val (.ref r2), .val (.int ((sc1 + d0) + d1))] [(.int zb), (.ref r2), (.ref r1)])
  refine Go.to (fun _ => XS.iconst X26.here hx rfl (hb hby at_344)) ?_
  show Go p e below _ T26 (mkF m 345 #[.val (.int p1), .val (.int p2), .val (.int p3), .val (.int za), .val (.int zb), .val (.int zo), .val (.int zq), .val (.ref a1), .val (.ref r1), .val (.int zk), .val (.int (1 : Int32)), .val (.ref r2), .val (.int ((sc1 + d0) + d1))] [(.int (3 : Int32)), (.int zb), (.ref r2), (.ref r1)])
  refine Go.callS (y := (⟨"com/example/tracegauge/tracegauge/automata/PartitionSplitPinLaw", "placeOk", "([I[III)Z"⟩ : MethodName)) X26 hx hZ hown (hw _ (List.mem_of_getElem? (i := 64) rfl)) (hw _ (List.mem_of_getElem? (i := 65) rfl)) (hw _ (List.mem_of_getElem? (i := 28) rfl)) (hw _ (List.mem_of_getElem? (i := 66) rfl)) (by decide) (rm12 l Z a0 hw [] r1 r2 zb (3 : Int32) T19.heap [x0, x1, x2, x3, sc1] B19 [y0, y1, y2, y3, sc2] A19 (1 : Int32) hp3) e26 (by rw [hml]; rfl) (pd_10) rfl (argsL := [(.ref r1), (.ref r2), (.int zb), (.int (3 : Int32))]) (rest := []) rfl rfl (hb hby at_345) (by decide) (Nat.le_of_ble_eq_true rfl) (by decide) (by decide) ?_
  rintro T27 _ L27 X27 ⟨rfl, e27, rfl⟩
  simp only [List.append_nil] at X27
  show Go p e below _ T27 (mkF m 348 #[.val (.int p1), .val (.int p2), .val (.int p3), .val (.int za), .val (.int zb), .val (.int zo), .val (.int zq), .val (.ref a1), .val (.ref r1), .val (.int zk), .val (.int (1 : Int32)), .val (.ref r2), .val (.int ((sc1 + d0) + d1))] [(.int (1 : Int32))])
  refine Go.to (fun _ => XS.ifYes X27.here hx rfl (pc0 := 348) (pc' := 353) rfl (hb hby at_348) rfl ((if0 _ _).trans (feq (by decide)).2) (by decide) (by decide)) ?_
  show Go p e below _ T27 (mkF m 353 #[.val (.int p1), .val (.int p2), .val (.int p3), .val (.int za), .val (.int zb), .val (.int zo), .val (.int zq), .val (.ref a1), .val (.ref r1), .val (.int zk), .val (.int (1 : Int32)), .val (.ref r2), .val (.int ((sc1 + d0) + d1))] [])
  refine Go.to (fun _ => XS.aload X27.here hx rfl (hb hby at_353) rfl rfl) ?_
  show Go p e below _ T27 (mkF m 355 #[.val (.int p1), .val (.int p2), .val (.int p3), .val (.int za), .val (.int zb), .val (.int zo), .val (.int zq), .val (.ref a1), .val (.ref r1), .val (.int zk), .val (.int (1 : Int32)), .val (.ref r2), .val (.int ((sc1 + d0) + d1))] [(.ref r2)])
  refine Go.to (fun _ => XS.iloadN X27.here hx rfl (hb hby at_355) rfl) ?_
  show Go p e below _ T27 (mkF m 356 #[.val (.int p1), .val (.int p2), .val (.int p3), .val (.int za), .val (.int zb), .val (.int zo), .val (.int zq), .val (.ref a1), .val (.ref r1), .val (.int zk), .val (.int (1 : Int32)), .val (.ref r2), .val (.int ((sc1 + d0) + d1))] [(.int za), (.ref r2)])
  refine Go.to (fun _ => XS.iload X27.here hx rfl (hb hby at_356) rfl) ?_
  show Go p e below _ T27 (mkF m 358 #[.val (.int p1), .val (.int p2), .val (.int p3), .val (.int za), .val (.int zb), .val (.int zo), .val (.int zq), .val (.ref a1), .val (.ref r1), .val (.int zk), .val (.int (1 : Int32)), .val (.ref r2), .val (.int ((sc1 + d0) + d1))] [(.int zb), (.int za), (.ref r2)])
  refine Go.to (fun _ => XS.iconst X27.here hx rfl (hb hby at_358)) ?_
  show Go p e below _ T27 (mkF m 359 #[.val (.int p1), .val (.int p2), .val (.int p3), .val (.int za), .val (.int zb), .val (.int zo), .val (.int zq), .val (.ref a1), .val (.ref r1), .val (.int zk), .val (.int (1 : Int32)), .val (.ref r2), .val (.int ((sc1 + d0) + d1))] [(.int (0 : Int32)), (.int zb), (.int za), (.ref r2)])
  refine Go.to (fun _ => XS.iconst X27.here hx rfl (hb hby at_359)) ?_
  show Go p e below _ T27 (mkF m 360 #[.val (.int p1), .val (.int p2), .val (.int p3), .val (.int za), .val (.int zb), .val (.int zo), .val (.int zq), .val (.ref a1), .val (.ref r1), .val (.int zk), .val (.int (1 : Int32)), .val (.ref r2), .val (.int ((sc1 + d0) + d1))] [(.int (1 : Int32)), (.int (0 : Int32)), (.int zb), (.int za), (.ref r2)])
  refine Go.callS (y := (⟨"com/example/tracegauge/tracegauge/automata/PartitionSplitPinLaw", "sameOk", "([IIIII)Z"⟩ : MethodName)) X27 hx hZ hown (hw _ (List.mem_of_getElem? (i := 67) rfl)) (hw _ (List.mem_of_getElem? (i := 68) rfl)) (hw _ (List.mem_of_getElem? (i := 28) rfl)) (hw _ (List.mem_of_getElem? (i := 69) rfl)) (by decide) (rm13 l Z a0 hw [] r2 za zb (0 : Int32) (1 : Int32) T19.heap [y0, y1, y2, y3, sc2] A19 (1 : Int32) ha0) e27 (by rw [hml]; rfl) (pd_11) rfl (argsL := [(.ref r2), (.int za), (.int zb), (.int (0 : Int32)), (.int (1 : Int32))]) (rest := []) rfl rfl (hb hby at_360) (by decide) (Nat.le_of_ble_eq_true rfl) (by decide) (by decide) ?_
  rintro T28 _ L28 X28 ⟨rfl, e28, rfl⟩
  simp only [List.append_nil] at X28
  show Go p e below _ T28 (mkF m 363 #[.val (.int p1), .val (.int p2), .val (.int p3), .val (.int za), .val (.int zb), .val (.int zo), .val (.int zq), .val (.ref a1), .val (.ref r1), .val (.int zk), .val (.int (1 : Int32)), .val (.ref r2), .val (.int ((sc1 + d0) + d1))] [(.int (1 : Int32))])
  refine Go.to (fun _ => XS.ifNo X28.here hx rfl (hb hby at_363) rfl ((if0 _ _).trans (feq (by decide)).1)) ?_
  show Go p e below _ T28 (mkF m 366 #[.val (.int p1), .val (.int p2), .val (.int p3), .val (.int za), .val (.int zb), .val (.int zo), .val (.int zq), .val (.ref a1), .val (.ref r1), .val (.int zk), .val (.int (1 : Int32)), .val (.ref r2), .val (.int ((sc1 + d0) + d1))] [])
  refine Go.to (fun _ => XS.aload X28.here hx rfl (hb hby at_366) rfl rfl) ?_
  show Go p e below _ T28 (mkF m 368 #[.val (.int p1), .val (.int p2), .val (.int p3), .val (.int za), .val (.int zb), .val (.int zo), .val (.int zq), .val (.ref a1), .val (.ref r1), .val (.int zk), .val (.int (1 : Int32)), .val (.ref r2), .val (.int ((sc1 + d0) + d1))] [(.ref r2)])
  refine Go.to (fun _ => XS.iloadN X28.here hx rfl (hb hby at_368) rfl) ?_
  show Go p e below _ T28 (mkF m 369 #[.val (.int p1), .val (.int p2), .val (.int p3), .val (.int za), .val (.int zb), .val (.int zo), .val (.int zq), .val (.ref a1), .val (.ref r1), .val (.int zk), .val (.int (1 : Int32)), .val (.ref r2), .val (.int ((sc1 + d0) + d1))] [(.int za), (.ref r2)])
  refine Go.to (fun _ => XS.iload X28.here hx rfl (hb hby at_369) rfl) ?_
  show Go p e below _ T28 (mkF m 371 #[.val (.int p1), .val (.int p2), .val (.int p3), .val (.int za), .val (.int zb), .val (.int zo), .val (.int zq), .val (.ref a1), .val (.ref r1), .val (.int zk), .val (.int (1 : Int32)), .val (.ref r2), .val (.int ((sc1 + d0) + d1))] [(.int zb), (.int za), (.ref r2)])
  refine Go.to (fun _ => XS.iconst X28.here hx rfl (hb hby at_371)) ?_
  show Go p e below _ T28 (mkF m 372 #[.val (.int p1), .val (.int p2), .val (.int p3), .val (.int za), .val (.int zb), .val (.int zo), .val (.int zq), .val (.ref a1), .val (.ref r1), .val (.int zk), .val (.int (1 : Int32)), .val (.ref r2), .val (.int ((sc1 + d0) + d1))] [(.int (0 : Int32)), (.int zb), (.int za), (.ref r2)])
  refine Go.to (fun _ => XS.iconst X28.here hx rfl (hb hby at_372)) ?_
  show Go p e below _ T28 (mkF m 373 #[.val (.int p1), .val (.int p2), .val (.int p3), .val (.int za), .val (.int zb), .val (.int zo), .val (.int zq), .val (.ref a1), .val (.ref r1), .val (.int zk), .val (.int (1 : Int32)), .val (.ref r2), .val (.int ((sc1 + d0) + d1))] [(.int (2 : Int32)), (.int (0 : Int32)), (.int zb), (.int za), (.ref r2)])
  refine Go.callS (y := (⟨"com/example/tracegauge/tracegauge/automata/PartitionSplitPinLaw", "sameOk", "([IIIII)Z"⟩ : MethodName)) X28 hx hZ hown (hw _ (List.mem_of_getElem? (i := 67) rfl)) (hw _ (List.mem_of_getElem? (i := 68) rfl)) (hw _ (List.mem_of_getElem? (i := 28) rfl)) (hw _ (List.mem_of_getElem? (i := 69) rfl)) (by decide) (rm13 l Z a0 hw [] r2 za zb (0 : Int32) (2 : Int32) T19.heap [y0, y1, y2, y3, sc2] A19 (1 : Int32) ha1) e28 (by rw [hml]; rfl) (pd_11) rfl (argsL := [(.ref r2), (.int za), (.int zb), (.int (0 : Int32)), (.int (2 : Int32))]) (rest := []) rfl rfl (hb hby at_373) (by decide) (Nat.le_of_ble_eq_true rfl) (by decide) (by decide) ?_
  rintro T29 _ L29 X29 ⟨rfl, e29, rfl⟩
  simp only [List.append_nil] at X29
  show Go p e below _ T29 (mkF m 376 #[.val (.int p1), .val (.int p2), .val (.int p3), .val (.int za), .val (.int zb), .val (.int zo), .val (.int zq), .val (.ref a1), .val (.ref r1), .val (.int zk), .val (.int (1 : Int32)), .val (.ref r2), .val (.int ((sc1 + d0) + d1))] [(.int (1 : Int32))])
  refine Go.to (fun _ => XS.ifNo X29.here hx rfl (hb hby at_376) rfl ((if0 _ _).trans (feq (by decide)).1)) ?_
  show Go p e below _ T29 (mkF m 379 #[.val (.int p1), .val (.int p2), .val (.int p3), .val (.int za), .val (.int zb), .val (.int zo), .val (.int zq), .val (.ref a1), .val (.ref r1), .val (.int zk), .val (.int (1 : Int32)), .val (.ref r2), .val (.int ((sc1 + d0) + d1))] [])
  refine Go.to (fun _ => XS.aload X29.here hx rfl (hb hby at_379) rfl rfl) ?_
  show Go p e below _ T29 (mkF m 381 #[.val (.int p1), .val (.int p2), .val (.int p3), .val (.int za), .val (.int zb), .val (.int zo), .val (.int zq), .val (.ref a1), .val (.ref r1), .val (.int zk), .val (.int (1 : Int32)), .val (.ref r2), .val (.int ((sc1 + d0) + d1))] [(.ref r2)])
  refine Go.to (fun _ => XS.iloadN X29.here hx rfl (hb hby at_381) rfl) ?_
  show Go p e below _ T29 (mkF m 382 #[.val (.int p1), .val (.int p2), .val (.int p3), .val (.int za), .val (.int zb), .val (.int zo), .val (.int zq), .val (.ref a1), .val (.ref r1), .val (.int zk), .val (.int (1 : Int32)), .val (.ref r2), .val (.int ((sc1 + d0) + d1))] [(.int za), (.ref r2)])
  refine Go.to (fun _ => XS.iload X29.here hx rfl (hb hby at_382) rfl) ?_
  show Go p e below _ T29 (mkF m 384 #[.val (.int p1), .val (.int p2), .val (.int p3), .val (.int za), .val (.int zb), .val (.int zo), .val (.int zq), .val (.ref a1), .val (.ref r1), .val (.int zk), .val (.int (1 : Int32)), .val (.ref r2), .val (.int ((sc1 + d0) + d1))] [(.int zb), (.int za), (.ref r2)])
  refine Go.to (fun _ => XS.iconst X29.here hx rfl (hb hby at_384)) ?_
  show Go p e below _ T29 (mkF m 385 #[.val (.int p1), .val (.int p2), .val (.int p3), .val (.int za), .val (.int zb), .val (.int zo), .val (.int zq), .val (.ref a1), .val (.ref r1), .val (.int zk), .val (.int (1 : Int32)), .val (.ref r2), .val (.int ((sc1 + d0) + d1))] [(.int (0 : Int32)), (.int zb), (.int za), (.ref r2)])
  refine Go.to (fun _ => XS.iconst X29.here hx rfl (hb hby at_385)) ?_
  show Go p e below _ T29 (mkF m 386 #[.val (.int p1), .val (.int p2), .val (.int p3), .val (.int za), .val (.int zb), .val (.int zo), .val (.int zq), .val (.ref a1), .val (.ref r1), .val (.int zk), .val (.int (1 : Int32)), .val (.ref r2), .val (.int ((sc1 + d0) + d1))] [(.int (3 : Int32)), (.int (0 : Int32)), (.int zb), (.int za), (.ref r2)])
  refine Go.callS (y := (⟨"com/example/tracegauge/tracegauge/automata/PartitionSplitPinLaw", "sameOk", "([IIIII)Z"⟩ : MethodName)) X29 hx hZ hown (hw _ (List.mem_of_getElem? (i := 67) rfl)) (hw _ (List.mem_of_getElem? (i := 68) rfl)) (hw _ (List.mem_of_getElem? (i := 28) rfl)) (hw _ (List.mem_of_getElem? (i := 69) rfl)) (by decide) (rm13 l Z a0 hw [] r2 za zb (0 : Int32) (3 : Int32) T19.heap [y0, y1, y2, y3, sc2] A19 (1 : Int32) ha2) e29 (by rw [hml]; rfl) (pd_11) rfl (argsL := [(.ref r2), (.int za), (.int zb), (.int (0 : Int32)), (.int (3 : Int32))]) (rest := []) rfl rfl (hb hby at_386) (by decide) (Nat.le_of_ble_eq_true rfl) (by decide) (by decide) ?_
  rintro T30 _ L30 X30 ⟨rfl, e30, rfl⟩
  simp only [List.append_nil] at X30
  show Go p e below _ T30 (mkF m 389 #[.val (.int p1), .val (.int p2), .val (.int p3), .val (.int za), .val (.int zb), .val (.int zo), .val (.int zq), .val (.ref a1), .val (.ref r1), .val (.int zk), .val (.int (1 : Int32)), .val (.ref r2), .val (.int ((sc1 + d0) + d1))] [(.int (1 : Int32))])
  refine Go.to (fun _ => XS.ifNo X30.here hx rfl (hb hby at_389) rfl ((if0 _ _).trans (feq (by decide)).1)) ?_
  show Go p e below _ T30 (mkF m 392 #[.val (.int p1), .val (.int p2), .val (.int p3), .val (.int za), .val (.int zb), .val (.int zo), .val (.int zq), .val (.ref a1), .val (.ref r1), .val (.int zk), .val (.int (1 : Int32)), .val (.ref r2), .val (.int ((sc1 + d0) + d1))] [])
  refine Go.to (fun _ => XS.aload X30.here hx rfl (hb hby at_392) rfl rfl) ?_
  show Go p e below _ T30 (mkF m 394 #[.val (.int p1), .val (.int p2), .val (.int p3), .val (.int za), .val (.int zb), .val (.int zo), .val (.int zq), .val (.ref a1), .val (.ref r1), .val (.int zk), .val (.int (1 : Int32)), .val (.ref r2), .val (.int ((sc1 + d0) + d1))] [(.ref r2)])
  refine Go.to (fun _ => XS.iloadN X30.here hx rfl (hb hby at_394) rfl) ?_
  show Go p e below _ T30 (mkF m 395 #[.val (.int p1), .val (.int p2), .val (.int p3), .val (.int za), .val (.int zb), .val (.int zo), .val (.int zq), .val (.ref a1), .val (.ref r1), .val (.int zk), .val (.int (1 : Int32)), .val (.ref r2), .val (.int ((sc1 + d0) + d1))] [(.int za), (.ref r2)])
  refine Go.to (fun _ => XS.iload X30.here hx rfl (hb hby at_395) rfl) ?_
  show Go p e below _ T30 (mkF m 397 #[.val (.int p1), .val (.int p2), .val (.int p3), .val (.int za), .val (.int zb), .val (.int zo), .val (.int zq), .val (.ref a1), .val (.ref r1), .val (.int zk), .val (.int (1 : Int32)), .val (.ref r2), .val (.int ((sc1 + d0) + d1))] [(.int zb), (.int za), (.ref r2)])
  refine Go.to (fun _ => XS.iconst X30.here hx rfl (hb hby at_397)) ?_
  show Go p e below _ T30 (mkF m 398 #[.val (.int p1), .val (.int p2), .val (.int p3), .val (.int za), .val (.int zb), .val (.int zo), .val (.int zq), .val (.ref a1), .val (.ref r1), .val (.int zk), .val (.int (1 : Int32)), .val (.ref r2), .val (.int ((sc1 + d0) + d1))] [(.int (1 : Int32)), (.int zb), (.int za), (.ref r2)])
  refine Go.to (fun _ => XS.iconst X30.here hx rfl (hb hby at_398)) ?_
  show Go p e below _ T30 (mkF m 399 #[.val (.int p1), .val (.int p2), .val (.int p3), .val (.int za), .val (.int zb), .val (.int zo), .val (.int zq), .val (.ref a1), .val (.ref r1), .val (.int zk), .val (.int (1 : Int32)), .val (.ref r2), .val (.int ((sc1 + d0) + d1))] [(.int (2 : Int32)), (.int (1 : Int32)), (.int zb), (.int za), (.ref r2)])
  refine Go.callS (y := (⟨"com/example/tracegauge/tracegauge/automata/PartitionSplitPinLaw", "sameOk", "([IIIII)Z"⟩ : MethodName)) X30 hx hZ hown (hw _ (List.mem_of_getElem? (i := 67) rfl)) (hw _ (List.mem_of_getElem? (i := 68) rfl)) (hw _ (List.mem_of_getElem? (i := 28) rfl)) (hw _ (List.mem_of_getElem? (i := 69) rfl)) (by decide) (rm13 l Z a0 hw [] r2 za zb (1 : Int32) (2 : Int32) T19.heap [y0, y1, y2, y3, sc2] A19 (1 : Int32) ha3) e30 (by rw [hml]; rfl) (pd_11) rfl (argsL := [(.ref r2), (.int za), (.int zb), (.int (1 : Int32)), (.int (2 : Int32))]) (rest := []) rfl rfl (hb hby at_399) (by decide) (Nat.le_of_ble_eq_true rfl) (by decide) (by decide) ?_
  rintro T31 _ L31 X31 ⟨rfl, e31, rfl⟩
  simp only [List.append_nil] at X31
  show Go p e below _ T31 (mkF m 402 #[.val (.int p1), .val (.int p2), .val (.int p3), .val (.int za), .val (.int zb), .val (.int zo), .val (.int zq), .val (.ref a1), .val (.ref r1), .val (.int zk), .val (.int (1 : Int32)), .val (.ref r2), .val (.int ((sc1 + d0) + d1))] [(.int (1 : Int32))])
  refine Go.to (fun _ => XS.ifNo X31.here hx rfl (hb hby at_402) rfl ((if0 _ _).trans (feq (by decide)).1)) ?_
  show Go p e below _ T31 (mkF m 405 #[.val (.int p1), .val (.int p2), .val (.int p3), .val (.int za), .val (.int zb), .val (.int zo), .val (.int zq), .val (.ref a1), .val (.ref r1), .val (.int zk), .val (.int (1 : Int32)), .val (.ref r2), .val (.int ((sc1 + d0) + d1))] [])
  refine Go.to (fun _ => XS.aload X31.here hx rfl (hb hby at_405) rfl rfl) ?_
  show Go p e below _ T31 (mkF m 407 #[.val (.int p1), .val (.int p2), .val (.int p3), .val (.int za), .val (.int zb), .val (.int zo), .val (.int zq), .val (.ref a1), .val (.ref r1), .val (.int zk), .val (.int (1 : Int32)), .val (.ref r2), .val (.int ((sc1 + d0) + d1))] [(.ref r2)])
  refine Go.to (fun _ => XS.iloadN X31.here hx rfl (hb hby at_407) rfl) ?_
  show Go p e below _ T31 (mkF m 408 #[.val (.int p1), .val (.int p2), .val (.int p3), .val (.int za), .val (.int zb), .val (.int zo), .val (.int zq), .val (.ref a1), .val (.ref r1), .val (.int zk), .val (.int (1 : Int32)), .val (.ref r2), .val (.int ((sc1 + d0) + d1))] [(.int za), (.ref r2)])
  refine Go.to (fun _ => XS.iload X31.here hx rfl (hb hby at_408) rfl) ?_
  show Go p e below _ T31 (mkF m 410 #[.val (.int p1), .val (.int p2), .val (.int p3), .val (.int za), .val (.int zb), .val (.int zo), .val (.int zq), .val (.ref a1), .val (.ref r1), .val (.int zk), .val (.int (1 : Int32)), .val (.ref r2), .val (.int ((sc1 + d0) + d1))] [(.int zb), (.int za), (.ref r2)])
  refine Go.to (fun _ => XS.iconst X31.here hx rfl (hb hby at_410)) ?_
  show Go p e below _ T31 (mkF m 411 #[.val (.int p1), .val (.int p2), .val (.int p3), .val (.int za), .val (.int zb), .val (.int zo), .val (.int zq), .val (.ref a1), .val (.ref r1), .val (.int zk), .val (.int (1 : Int32)), .val (.ref r2), .val (.int ((sc1 + d0) + d1))] [(.int (1 : Int32)), (.int zb), (.int za), (.ref r2)])
  refine Go.to (fun _ => XS.iconst X31.here hx rfl (hb hby at_411)) ?_
  show Go p e below _ T31 (mkF m 412 #[.val (.int p1), .val (.int p2), .val (.int p3), .val (.int za), .val (.int zb), .val (.int zo), .val (.int zq), .val (.ref a1), .val (.ref r1), .val (.int zk), .val (.int (1 : Int32)), .val (.ref r2), .val (.int ((sc1 + d0) + d1))] [(.int (3 : Int32)), (.int (1 : Int32)), (.int zb), (.int za), (.ref r2)])
  refine Go.callS (y := (⟨"com/example/tracegauge/tracegauge/automata/PartitionSplitPinLaw", "sameOk", "([IIIII)Z"⟩ : MethodName)) X31 hx hZ hown (hw _ (List.mem_of_getElem? (i := 67) rfl)) (hw _ (List.mem_of_getElem? (i := 68) rfl)) (hw _ (List.mem_of_getElem? (i := 28) rfl)) (hw _ (List.mem_of_getElem? (i := 69) rfl)) (by decide) (rm13 l Z a0 hw [] r2 za zb (1 : Int32) (3 : Int32) T19.heap [y0, y1, y2, y3, sc2] A19 (1 : Int32) ha4) e31 (by rw [hml]; rfl) (pd_11) rfl (argsL := [(.ref r2), (.int za), (.int zb), (.int (1 : Int32)), (.int (3 : Int32))]) (rest := []) rfl rfl (hb hby at_412) (by decide) (Nat.le_of_ble_eq_true rfl) (by decide) (by decide) ?_
  rintro T32 _ L32 X32 ⟨rfl, e32, rfl⟩
  simp only [List.append_nil] at X32
  show Go p e below _ T32 (mkF m 415 #[.val (.int p1), .val (.int p2), .val (.int p3), .val (.int za), .val (.int zb), .val (.int zo), .val (.int zq), .val (.ref a1), .val (.ref r1), .val (.int zk), .val (.int (1 : Int32)), .val (.ref r2), .val (.int ((sc1 + d0) + d1))] [(.int (1 : Int32))])
  refine Go.to (fun _ => XS.ifNo X32.here hx rfl (hb hby at_415) rfl ((if0 _ _).trans (feq (by decide)).1)) ?_
  show Go p e below _ T32 (mkF m 418 #[.val (.int p1), .val (.int p2), .val (.int p3), .val (.int za), .val (.int zb), .val (.int zo), .val (.int zq), .val (.ref a1), .val (.ref r1), .val (.int zk), .val (.int (1 : Int32)), .val (.ref r2), .val (.int ((sc1 + d0) + d1))] [])
  refine Go.to (fun _ => XS.aload X32.here hx rfl (hb hby at_418) rfl rfl) ?_
  show Go p e below _ T32 (mkF m 420 #[.val (.int p1), .val (.int p2), .val (.int p3), .val (.int za), .val (.int zb), .val (.int zo), .val (.int zq), .val (.ref a1), .val (.ref r1), .val (.int zk), .val (.int (1 : Int32)), .val (.ref r2), .val (.int ((sc1 + d0) + d1))] [(.ref r2)])
  refine Go.to (fun _ => XS.iloadN X32.here hx rfl (hb hby at_420) rfl) ?_
  show Go p e below _ T32 (mkF m 421 #[.val (.int p1), .val (.int p2), .val (.int p3), .val (.int za), .val (.int zb), .val (.int zo), .val (.int zq), .val (.ref a1), .val (.ref r1), .val (.int zk), .val (.int (1 : Int32)), .val (.ref r2), .val (.int ((sc1 + d0) + d1))] [(.int za), (.ref r2)])
  refine Go.to (fun _ => XS.iload X32.here hx rfl (hb hby at_421) rfl) ?_
  show Go p e below _ T32 (mkF m 423 #[.val (.int p1), .val (.int p2), .val (.int p3), .val (.int za), .val (.int zb), .val (.int zo), .val (.int zq), .val (.ref a1), .val (.ref r1), .val (.int zk), .val (.int (1 : Int32)), .val (.ref r2), .val (.int ((sc1 + d0) + d1))] [(.int zb), (.int za), (.ref r2)])
  refine Go.to (fun _ => XS.iconst X32.here hx rfl (hb hby at_423)) ?_
  show Go p e below _ T32 (mkF m 424 #[.val (.int p1), .val (.int p2), .val (.int p3), .val (.int za), .val (.int zb), .val (.int zo), .val (.int zq), .val (.ref a1), .val (.ref r1), .val (.int zk), .val (.int (1 : Int32)), .val (.ref r2), .val (.int ((sc1 + d0) + d1))] [(.int (2 : Int32)), (.int zb), (.int za), (.ref r2)])
  refine Go.to (fun _ => XS.iconst X32.here hx rfl (hb hby at_424)) ?_
  show Go p e below _ T32 (mkF m 425 #[.val (.int p1), .val (.int p2), .val (.int p3), .val (.int za), .val (.int zb), .val (.int zo), .val (.int zq), .val (.ref a1), .val (.ref r1), .val (.int zk), .val (.int (1 : Int32)), .val (.ref r2), .val (.int ((sc1 + d0) + d1))] [(.int (3 : Int32)), (.int (2 : Int32)), (.int zb), (.int za), (.ref r2)])
  refine Go.callS (y := (⟨"com/example/tracegauge/tracegauge/automata/PartitionSplitPinLaw", "sameOk", "([IIIII)Z"⟩ : MethodName)) X32 hx hZ hown (hw _ (List.mem_of_getElem? (i := 67) rfl)) (hw _ (List.mem_of_getElem? (i := 68) rfl)) (hw _ (List.mem_of_getElem? (i := 28) rfl)) (hw _ (List.mem_of_getElem? (i := 69) rfl)) (by decide) (rm13 l Z a0 hw [] r2 za zb (2 : Int32) (3 : Int32) T19.heap [y0, y1, y2, y3, sc2] A19 (1 : Int32) ha5) e32 (by rw [hml]; rfl) (pd_11) rfl (argsL := [(.ref r2), (.int za), (.int zb), (.int (2 : Int32)), (.int (3 : Int32))]) (rest := []) rfl rfl (hb hby at_425) (by decide) (Nat.le_of_ble_eq_true rfl) (by decide) (by decide) ?_
  rintro T33 _ L33 X33 ⟨rfl, e33, rfl⟩
  simp only [List.append_nil] at X33
  show Go p e below _ T33 (mkF m 428 #[.val (.int p1), .val (.int p2), .val (.int p3), .val (.int za), .val (.int zb), .val (.int zo), .val (.int zq), .val (.ref a1), .val (.ref r1), .val (.int zk), .val (.int (1 : Int32)), .val (.ref r2), .val (.int ((sc1 + d0) + d1))] [(.int (1 : Int32))])
  refine Go.to (fun _ => XS.ifYes X33.here hx rfl (pc0 := 428) (pc' := 433) rfl (hb hby at_428) rfl ((if0 _ _).trans (feq (by decide)).2) (by decide) (by decide)) ?_
  show Go p e below _ T33 (mkF m 433 #[.val (.int p1), .val (.int p2), .val (.int p3), .val (.int za), .val (.int zb), .val (.int zo), .val (.int zq), .val (.ref a1), .val (.ref r1), .val (.int zk), .val (.int (1 : Int32)), .val (.ref r2), .val (.int ((sc1 + d0) + d1))] [])
  refine Go.to (fun _ => XS.aload X33.here hx rfl (hb hby at_433) rfl rfl) ?_
  show Go p e below _ T33 (mkF m 435 #[.val (.int p1), .val (.int p2), .val (.int p3), .val (.int za), .val (.int zb), .val (.int zo), .val (.int zq), .val (.ref a1), .val (.ref r1), .val (.int zk), .val (.int (1 : Int32)), .val (.ref r2), .val (.int ((sc1 + d0) + d1))] [(.ref a1)])
  refine Go.to (fun _ => XS.aload X33.here hx rfl (hb hby at_435) rfl rfl) ?_
  show Go p e below _ T33 (mkF m 437 #[.val (.int p1), .val (.int p2), .val (.int p3), .val (.int za), .val (.int zb), .val (.int zo), .val (.int zq), .val (.ref a1), .val (.ref r1), .val (.int zk), .val (.int (1 : Int32)), .val (.ref r2), .val (.int ((sc1 + d0) + d1))] [(.ref r2), (.ref a1)])
  refine Go.to (fun _ => XS.iconst X33.here hx rfl (hb hby at_437)) ?_
  show Go p e below _ T33 (mkF m 438 #[.val (.int p1), .val (.int p2), .val (.int p3), .val (.int za), .val (.int zb), .val (.int zo), .val (.int zq), .val (.ref a1), .val (.ref r1), .val (.int zk), .val (.int (1 : Int32)), .val (.ref r2), .val (.int ((sc1 + d0) + d1))] [(.int (0 : Int32)), (.ref r2), (.ref a1)])
  refine Go.callS (y := (⟨"com/example/tracegauge/tracegauge/automata/PartitionSplitPinLaw", "sizeOk", "(Lcom/example/tracegauge/tracegauge/automata/Partition;[II)Z"⟩ : MethodName)) X33 hx hZ hown (hw _ (List.mem_of_getElem? (i := 70) rfl)) (hw _ (List.mem_of_getElem? (i := 71) rfl)) (hw _ (List.mem_of_getElem? (i := 28) rfl)) (hw _ (List.mem_of_getElem? (i := 72) rfl)) (by decide) (rm14 l Z a0 hw [] a1 r2 (0 : Int32) T19.heap [y0, y1, y2, y3, sc2] A19 n0 b0 b1 b2 b3 b4 b5 b6 el2 po2 se2 fi2 en2 ma2 tu2 tc2 sc2 O19.anew (1 : Int32) hz0) e33 (by rw [hml]; rfl) (pd_12) rfl (argsL := [(.ref a1), (.ref r2), (.int (0 : Int32))]) (rest := []) rfl rfl (hb hby at_438) (by decide) (Nat.le_of_ble_eq_true rfl) (by decide) (by decide) ?_
  rintro T34 _ L34 X34 ⟨rfl, e34, rfl⟩
  simp only [List.append_nil] at X34
  show Go p e below _ T34 (mkF m 441 #[.val (.int p1), .val (.int p2), .val (.int p3), .val (.int za), .val (.int zb), .val (.int zo), .val (.int zq), .val (.ref a1), .val (.ref r1), .val (.int zk), .val (.int (1 : Int32)), .val (.ref r2), .val (.int ((sc1 + d0) + d1))] [(.int (1 : Int32))])
  refine Go.to (fun _ => XS.ifNo X34.here hx rfl (hb hby at_441) rfl ((if0 _ _).trans (feq (by decide)).1)) ?_
  show Go p e below _ T34 (mkF m 444 #[.val (.int p1), .val (.int p2), .val (.int p3), .val (.int za), .val (.int zb), .val (.int zo), .val (.int zq), .val (.ref a1), .val (.ref r1), .val (.int zk), .val (.int (1 : Int32)), .val (.ref r2), .val (.int ((sc1 + d0) + d1))] [])
  refine Go.to (fun _ => XS.aload X34.here hx rfl (hb hby at_444) rfl rfl) ?_
  show Go p e below _ T34 (mkF m 446 #[.val (.int p1), .val (.int p2), .val (.int p3), .val (.int za), .val (.int zb), .val (.int zo), .val (.int zq), .val (.ref a1), .val (.ref r1), .val (.int zk), .val (.int (1 : Int32)), .val (.ref r2), .val (.int ((sc1 + d0) + d1))] [(.ref a1)])
  refine Go.to (fun _ => XS.aload X34.here hx rfl (hb hby at_446) rfl rfl) ?_
  show Go p e below _ T34 (mkF m 448 #[.val (.int p1), .val (.int p2), .val (.int p3), .val (.int za), .val (.int zb), .val (.int zo), .val (.int zq), .val (.ref a1), .val (.ref r1), .val (.int zk), .val (.int (1 : Int32)), .val (.ref r2), .val (.int ((sc1 + d0) + d1))] [(.ref r2), (.ref a1)])
  refine Go.to (fun _ => XS.iconst X34.here hx rfl (hb hby at_448)) ?_
  show Go p e below _ T34 (mkF m 449 #[.val (.int p1), .val (.int p2), .val (.int p3), .val (.int za), .val (.int zb), .val (.int zo), .val (.int zq), .val (.ref a1), .val (.ref r1), .val (.int zk), .val (.int (1 : Int32)), .val (.ref r2), .val (.int ((sc1 + d0) + d1))] [(.int (1 : Int32)), (.ref r2), (.ref a1)])
  refine Go.callS (y := (⟨"com/example/tracegauge/tracegauge/automata/PartitionSplitPinLaw", "sizeOk", "(Lcom/example/tracegauge/tracegauge/automata/Partition;[II)Z"⟩ : MethodName)) X34 hx hZ hown (hw _ (List.mem_of_getElem? (i := 70) rfl)) (hw _ (List.mem_of_getElem? (i := 71) rfl)) (hw _ (List.mem_of_getElem? (i := 28) rfl)) (hw _ (List.mem_of_getElem? (i := 72) rfl)) (by decide) (rm14 l Z a0 hw [] a1 r2 (1 : Int32) T19.heap [y0, y1, y2, y3, sc2] A19 n0 b0 b1 b2 b3 b4 b5 b6 el2 po2 se2 fi2 en2 ma2 tu2 tc2 sc2 O19.anew (1 : Int32) hz1) e34 (by rw [hml]; rfl) (pd_12) rfl (argsL := [(.ref a1), (.ref r2), (.int (1 : Int32))]) (rest := []) rfl rfl (hb hby at_449) (by decide) (Nat.le_of_ble_eq_true rfl) (by decide) (by decide) ?_
  rintro T35 _ L35 X35 ⟨rfl, e35, rfl⟩
  simp only [List.append_nil] at X35
  show Go p e below _ T35 (mkF m 452 #[.val (.int p1), .val (.int p2), .val (.int p3), .val (.int za), .val (.int zb), .val (.int zo), .val (.int zq), .val (.ref a1), .val (.ref r1), .val (.int zk), .val (.int (1 : Int32)), .val (.ref r2), .val (.int ((sc1 + d0) + d1))] [(.int (1 : Int32))])
  refine Go.to (fun _ => XS.ifNo X35.here hx rfl (hb hby at_452) rfl ((if0 _ _).trans (feq (by decide)).1)) ?_
  show Go p e below _ T35 (mkF m 455 #[.val (.int p1), .val (.int p2), .val (.int p3), .val (.int za), .val (.int zb), .val (.int zo), .val (.int zq), .val (.ref a1), .val (.ref r1), .val (.int zk), .val (.int (1 : Int32)), .val (.ref r2), .val (.int ((sc1 + d0) + d1))] [])
  refine Go.to (fun _ => XS.aload X35.here hx rfl (hb hby at_455) rfl rfl) ?_
  show Go p e below _ T35 (mkF m 457 #[.val (.int p1), .val (.int p2), .val (.int p3), .val (.int za), .val (.int zb), .val (.int zo), .val (.int zq), .val (.ref a1), .val (.ref r1), .val (.int zk), .val (.int (1 : Int32)), .val (.ref r2), .val (.int ((sc1 + d0) + d1))] [(.ref a1)])
  refine Go.to (fun _ => XS.aload X35.here hx rfl (hb hby at_457) rfl rfl) ?_
  show Go p e below _ T35 (mkF m 459 #[.val (.int p1), .val (.int p2), .val (.int p3), .val (.int za), .val (.int zb), .val (.int zo), .val (.int zq), .val (.ref a1), .val (.ref r1), .val (.int zk), .val (.int (1 : Int32)), .val (.ref r2), .val (.int ((sc1 + d0) + d1))] [(.ref r2), (.ref a1)])
  refine Go.to (fun _ => XS.iconst X35.here hx rfl (hb hby at_459)) ?_
  show Go p e below _ T35 (mkF m 460 #[.val (.int p1), .val (.int p2), .val (.int p3), .val (.int za), .val (.int zb), .val (.int zo), .val (.int zq), .val (.ref a1), .val (.ref r1), .val (.int zk), .val (.int (1 : Int32)), .val (.ref r2), .val (.int ((sc1 + d0) + d1))] [(.int (2 : Int32)), (.ref r2), (.ref a1)])
  refine Go.callS (y := (⟨"com/example/tracegauge/tracegauge/automata/PartitionSplitPinLaw", "sizeOk", "(Lcom/example/tracegauge/tracegauge/automata/Partition;[II)Z"⟩ : MethodName)) X35 hx hZ hown (hw _ (List.mem_of_getElem? (i := 70) rfl)) (hw _ (List.mem_of_getElem? (i := 71) rfl)) (hw _ (List.mem_of_getElem? (i := 28) rfl)) (hw _ (List.mem_of_getElem? (i := 72) rfl)) (by decide) (rm14 l Z a0 hw [] a1 r2 (2 : Int32) T19.heap [y0, y1, y2, y3, sc2] A19 n0 b0 b1 b2 b3 b4 b5 b6 el2 po2 se2 fi2 en2 ma2 tu2 tc2 sc2 O19.anew (1 : Int32) hz2) e35 (by rw [hml]; rfl) (pd_12) rfl (argsL := [(.ref a1), (.ref r2), (.int (2 : Int32))]) (rest := []) rfl rfl (hb hby at_460) (by decide) (Nat.le_of_ble_eq_true rfl) (by decide) (by decide) ?_
  rintro T36 _ L36 X36 ⟨rfl, e36, rfl⟩
  simp only [List.append_nil] at X36
  show Go p e below _ T36 (mkF m 463 #[.val (.int p1), .val (.int p2), .val (.int p3), .val (.int za), .val (.int zb), .val (.int zo), .val (.int zq), .val (.ref a1), .val (.ref r1), .val (.int zk), .val (.int (1 : Int32)), .val (.ref r2), .val (.int ((sc1 + d0) + d1))] [(.int (1 : Int32))])
  refine Go.to (fun _ => XS.ifNo X36.here hx rfl (hb hby at_463) rfl ((if0 _ _).trans (feq (by decide)).1)) ?_
  show Go p e below _ T36 (mkF m 466 #[.val (.int p1), .val (.int p2), .val (.int p3), .val (.int za), .val (.int zb), .val (.int zo), .val (.int zq), .val (.ref a1), .val (.ref r1), .val (.int zk), .val (.int (1 : Int32)), .val (.ref r2), .val (.int ((sc1 + d0) + d1))] [])
  refine Go.to (fun _ => XS.aload X36.here hx rfl (hb hby at_466) rfl rfl) ?_
  show Go p e below _ T36 (mkF m 468 #[.val (.int p1), .val (.int p2), .val (.int p3), .val (.int za), .val (.int zb), .val (.int zo), .val (.int zq), .val (.ref a1), .val (.ref r1), .val (.int zk), .val (.int (1 : Int32)), .val (.ref r2), .val (.int ((sc1 + d0) + d1))] [(.ref a1)])
  refine Go.to (fun _ => XS.aload X36.here hx rfl (hb hby at_468) rfl rfl) ?_
  show Go p e below _ T36 (mkF m 470 #[.val (.int p1), .val (.int p2), .val (.int p3), .val (.int za), .val (.int zb), .val (.int zo), .val (.int zq), .val (.ref a1), .val (.ref r1), .val (.int zk), .val (.int (1 : Int32)), .val (.ref r2), .val (.int ((sc1 + d0) + d1))] [(.ref r2), (.ref a1)])
  refine Go.to (fun _ => XS.iconst X36.here hx rfl (hb hby at_470)) ?_
  show Go p e below _ T36 (mkF m 471 #[.val (.int p1), .val (.int p2), .val (.int p3), .val (.int za), .val (.int zb), .val (.int zo), .val (.int zq), .val (.ref a1), .val (.ref r1), .val (.int zk), .val (.int (1 : Int32)), .val (.ref r2), .val (.int ((sc1 + d0) + d1))] [(.int (3 : Int32)), (.ref r2), (.ref a1)])
  refine Go.callS (y := (⟨"com/example/tracegauge/tracegauge/automata/PartitionSplitPinLaw", "sizeOk", "(Lcom/example/tracegauge/tracegauge/automata/Partition;[II)Z"⟩ : MethodName)) X36 hx hZ hown (hw _ (List.mem_of_getElem? (i := 70) rfl)) (hw _ (List.mem_of_getElem? (i := 71) rfl)) (hw _ (List.mem_of_getElem? (i := 28) rfl)) (hw _ (List.mem_of_getElem? (i := 72) rfl)) (by decide) (rm14 l Z a0 hw [] a1 r2 (3 : Int32) T19.heap [y0, y1, y2, y3, sc2] A19 n0 b0 b1 b2 b3 b4 b5 b6 el2 po2 se2 fi2 en2 ma2 tu2 tc2 sc2 O19.anew (1 : Int32) hz3) e36 (by rw [hml]; rfl) (pd_12) rfl (argsL := [(.ref a1), (.ref r2), (.int (3 : Int32))]) (rest := []) rfl rfl (hb hby at_471) (by decide) (Nat.le_of_ble_eq_true rfl) (by decide) (by decide) ?_
  rintro T37 _ L37 X37 ⟨rfl, e37, rfl⟩
  simp only [List.append_nil] at X37
  show Go p e below _ T37 (mkF m 474 #[.val (.int p1), .val (.int p2), .val (.int p3), .val (.int za), .val (.int zb), .val (.int zo), .val (.int zq), .val (.ref a1), .val (.ref r1), .val (.int zk), .val (.int (1 : Int32)), .val (.ref r2), .val (.int ((sc1 + d0) + d1))] [(.int (1 : Int32))])
  refine Go.to (fun _ => XS.ifNo X37.here hx rfl (hb hby at_474) rfl ((if0 _ _).trans (feq (by decide)).1)) ?_
  show Go p e below _ T37 (mkF m 477 #[.val (.int p1), .val (.int p2), .val (.int p3), .val (.int za), .val (.int zb), .val (.int zo), .val (.int zq), .val (.ref a1), .val (.ref r1), .val (.int zk), .val (.int (1 : Int32)), .val (.ref r2), .val (.int ((sc1 + d0) + d1))] [])
  refine Go.to (fun _ => XS.iconst X37.here hx rfl (hb hby at_477)) ?_
  show Go p e below _ T37 (mkF m 478 #[.val (.int p1), .val (.int p2), .val (.int p3), .val (.int za), .val (.int zb), .val (.int zo), .val (.int zq), .val (.ref a1), .val (.ref r1), .val (.int zk), .val (.int (1 : Int32)), .val (.ref r2), .val (.int ((sc1 + d0) + d1))] [(.int (1 : Int32))])
  refine Go.to (fun _ => XS.goto X37.here hx rfl (pc0 := 478) (pc' := 482) rfl (hb hby at_478) (by decide) (by decide)) ?_
  show Go p e below _ T37 (mkF m 482 #[.val (.int p1), .val (.int p2), .val (.int p3), .val (.int za), .val (.int zb), .val (.int zo), .val (.int zq), .val (.ref a1), .val (.ref r1), .val (.int zk), .val (.int (1 : Int32)), .val (.ref r2), .val (.int ((sc1 + d0) + d1))] [(.int (1 : Int32))])
  rw [hK]
  exact Go.retZ X37 hx hlk hret (by decide) (hb hby at_482) ⟨rfl, N19⟩ (by decide) (by decide)
set_option maxHeartbeats 40000000 in
theorem comes_1 {Post : Tables → Env → Array Value → State → Outcome → State → Prop} (hpost : ∀ tb e args s v u, (limb_1_1.after args s (.returned v) u = true ∧ limb_1_2.after args s (.returned v) u = true ∧ True) → FrameEnd s (.returned v) u (Jvm.fieldLocs frame_1_writes args s ++ Jvm.arrayLocs frame_1_arrays args s ++ Jvm.staticLocs frame_1_statics s) 32 192 → Post tb e args s (.returned v) u) :
    ArmFor flags0 classFile x code maxLocals ret World_1 tables_1 room_1 Calls_1 rest_1 Pre_1 Post := by
  intro l hfl _ _ p e ha hc hk s m args below hf hA hF happ hP
  obtain ⟨hcalls, hrest, hpre⟩ := hP
  obtain ⟨-, -, -, hnamed, -, -, -, hat⟩ := (Spec.applies_iff hf).mp happ
  obtain ⟨hg, hn⟩ := and_e (Cond.before_iff.mp (show (Jvm.Cond.and given_1 narrow_1).before args s = true from hpre))
  obtain ⟨gc, gr0⟩ := and_e hg
  obtain ⟨g0, gr1⟩ := and_e gr0
  obtain ⟨g1, gr2⟩ := and_e gr1
  obtain ⟨w0, w1, w2, rfl⟩ : ∃ w0 w1 w2 : Value, args = #[w0, w1, w2] := by
    have hs : args.size = 3 := by simpa [Cond.value, given_1] using gc
    obtain ⟨L⟩ := args
    match L, hs with
    | [w0, w1, w2], _ => exact ⟨w0, w1, w2, rfl⟩
  have hw := fun d (hd : d ∈ tables_1) => atoms_spec (ws := Jvm.Cond.code x code maxLocals ret :: tables_1) hat d (List.mem_cons_of_mem _ hd)
  obtain ⟨i0, ei0⟩ := is_v g0
  obtain rfl : w0 = (.int i0) := Option.some.inj ei0
  obtain ⟨i1, ei1⟩ := is_v g1
  obtain rfl : w1 = (.int i1) := Option.some.inj ei1
  obtain ⟨i2, ei2⟩ := is_v gr2
  obtain rfl : w2 = (.int i2) := Option.some.inj ei2
  obtain ⟨n, o, h1, h2, h3, _, L, rfl, ⟨rfl, N⟩, hq⟩ := rm0 l s _ hw tables_1 i0 i1 i2 s.heap s.heap.size (Nat.le_refl _) p e ha hc hk s m _ below hf ((Spec.applies_iff_loose hf).mp happ).1 ⟨rfl, State.Warmed39.refl s, rfl⟩ trivial
  refine ⟨n, _, h1, h2, h3, hpost _ _ _ _ _ _ ⟨Cond.after_iff.mpr rfl, Cond.after_iff.mpr (eq_i res_at (Term.int_eval (1)) rfl), trivial⟩ ⟨hq.1, hq.2.1, (hq.2.2.sift fun y hy => Or.inr (N y hy)).mono (by decide) (by decide)⟩⟩
theorem main_1_1 : Claimed_1_1 := comes_1 fun _ _ _ _ _ _ h hF => ⟨h.1, hF⟩
theorem main_1_2 : Claimed_1_2 := comes_1 fun _ _ _ _ _ _ h hF => ⟨h.2.1, hF⟩
end Jvm.Pilot.@@N@@
namespace Jvm.Pilot.@@N@@
open Jvm Jvm.ClassFile Sem Op Lib Jvm.Free Jvm.Stand Jvm.Pilot.@@N@@.Jvm.D
/-! MADE BY PROGRAM (witnessworld.py) out of the Statement's table words and the real class files: 9 classes; the members and pool entries that the words name. The judged class is class 1, her method 10. -/
namespace start1
open Jvm.ClassFile
def u (s : String) : CpInfo := .utf8 (stringToUtf16 s)
/-- a pool by its gaps: so many unusable entries, then the entry; so many at the end -/
def gap : Nat → List CpInfo → List CpInfo
  | 0, r => r
  | n + 1, r => .unusable :: gap n r
def poolList (es : List (Nat × CpInfo)) (last : Nat) : List CpInfo := es.foldr (fun e r => gap e.1 (e.2 :: r)) (gap last [])
def pool (es : List (Nat × CpInfo)) (last : Nat) : Array CpInfo := ⟨poolList es last⟩
def fileOf (pool : Array CpInfo) (this : Nat) (attrs : Array Attribute := #[]) (ms : Array MethodInfo := #[]) (fl : Nat := 33) (sup : Nat := 0) (ifs : Array Nat := #[]) (fds : Array FieldInfo := #[]) : ClassFile where
  minorVersion := 0
  majorVersion := 65
  constantPool := pool
  accessFlags := fl
  thisClass := this
  superClass := sup
  interfaces := ifs
  fields := fds
  methods := ms
  attributes := attrs
def plain (name : String) (sup : Option ClassId) : Class where
  name := name
  kind := .ordinary
  loader := none
  accessFlags := 33
  super := sup
  interfaces := #[]
  cf := none
  fields := #[]
  methods := #[]
  instanceTypes := #[]
  staticTypes := #[]
  resolved := #[]
  callSites := []
  init := .initialized
  statics := none
  mirror := none

def pool0 : Array CpInfo := pool [(5, u "<init>"), (0, u "()V"), (1, .class_ 10), (1, u "java/lang/Object")] 113

def k0c0 : Code := { maxStack := 0, maxLocals := 1, code := object_method_1_code, exceptionTable := #[], attributes := #[] }
def k0m0 : Method := { name := "<init>", desc := "()V", sig := { parameters := [], returnType := none }, accessFlags := 1, code := some k0c0 }
/-- java/lang/Object -/
def k0 : Class := { plain "java/lang/Object" none with
  accessFlags := 33
  interfaces := #[]
  cf := some (fileOf pool0 8 #[] #[{ accessFlags := 1, nameIndex := 5, descriptorIndex := 6, attributes := #[] }] 33 0 #[] #[])
  fields := #[]
  methods := #[k0m0]
  instanceTypes := #[]
  staticTypes := #[]
  resolved := Array.replicate 124 none
  statics := none }

def pool1 : Array CpInfo := pool [(2, .class_ 4), (1, u "java/lang/Object"), (0, u "<init>"), (0, u "()V"), (0, .methodref 8 9), (0, .class_ 10), (0, .nameAndType 11 12), (0, u "com/example/tracegauge/tracegauge/automata/PartitionSplitPinLaw"), (0, u "bit"), (0, u "(II)I"), (0, .methodref 14 15), (0, .class_ 16), (0, .nameAndType 17 18), (0, u "com/example/tracegauge/tracegauge/automata/Partition"), (0, u "mark"), (0, u "(I)V"), (0, .methodref 14 20), (0, .nameAndType 21 6), (0, u "split"), (0, .methodref 14 23), (0, .nameAndType 24 25), (0, u "setOf"), (0, u "(I)I"), (0, .methodref 14 27), (0, .nameAndType 28 29), (0, u "setCount"), (0, u "()I"), (0, .methodref 8 31), (0, .nameAndType 32 33), (0, u "count"), (0, u "([III)I"), (0, .methodref 14 35), (0, .nameAndType 36 25), (0, u "end"), (0, .methodref 14 38), (0, .nameAndType 39 25), (0, u "first"), (0, .methodref 14 41), (0, .nameAndType 5 18), (0, .methodref 8 43), (0, .nameAndType 44 45), (0, u "markAndSplit"), (0, u "(Lcom/example/tracegauge/tracegauge/automata/Partition;II)V"), (0, .methodref 8 47), (0, .nameAndType 48 49), (0, u "observe"), (0, u "(Lcom/example/tracegauge/tracegauge/automata/Partition;)[I"), (0, .methodref 8 51), (0, .nameAndType 52 53), (0, u "label"), (0, u "(IIZ)I"), (0, .methodref 8 55), (0, .nameAndType 56 57), (0, u "splits"), (0, u "([III)Z"), (0, .methodref 8 59), (0, .nameAndType 60 61), (0, u "placeOk"), (0, u "([I[III)Z"), (0, .methodref 8 63), (0, .nameAndType 64 65), (0, u "sameOk"), (0, u "([IIIII)Z"), (0, .methodref 8 67), (0, .nameAndType 68 69), (0, u "sizeOk"), (0, u "(Lcom/example/tracegauge/tracegauge/automata/Partition;[II)Z"), (3, u "law"), (0, u "(III)Z")] 4

def k1m0 : Method := { name := "<init>", desc := "()V", sig := { parameters := [], returnType := none }, accessFlags := 1, code := none }
def k1c1 : Code := { maxStack := 2, maxLocals := 2, code := method_2_code, exceptionTable := #[], attributes := #[] }
def k1m1 : Method := { name := "bit", desc := "(II)I", sig := { parameters := [.int, .int], returnType := some .int }, accessFlags := 10, code := some k1c1 }
def k1c2 : Code := { maxStack := 2, maxLocals := 4, code := method_3_code, exceptionTable := #[], attributes := #[] }
def k1m2 : Method := { name := "count", desc := "([III)I", sig := { parameters := [(.array .int), .int, .int], returnType := some .int }, accessFlags := 10, code := some k1c2 }
def k1c3 : Code := { maxStack := 2, maxLocals := 7, code := method_4_code, exceptionTable := #[], attributes := #[] }
def k1m3 : Method := { name := "markAndSplit", desc := "(Lcom/example/tracegauge/tracegauge/automata/Partition;II)V", sig := { parameters := [(.object "com/example/tracegauge/tracegauge/automata/Partition"), .int, .int], returnType := none }, accessFlags := 10, code := some k1c3 }
def k1c4 : Code := { maxStack := 4, maxLocals := 2, code := method_5_code, exceptionTable := #[], attributes := #[] }
def k1m4 : Method := { name := "observe", desc := "(Lcom/example/tracegauge/tracegauge/automata/Partition;)[I", sig := { parameters := [(.object "com/example/tracegauge/tracegauge/automata/Partition")], returnType := some (.array .int) }, accessFlags := 10, code := some k1c4 }
def k1c5 : Code := { maxStack := 2, maxLocals := 3, code := method_6_code, exceptionTable := #[], attributes := #[] }
def k1m5 : Method := { name := "label", desc := "(IIZ)I", sig := { parameters := [.int, .int, .boolean], returnType := some .int }, accessFlags := 10, code := some k1c5 }
def k1c6 : Code := { maxStack := 3, maxLocals := 5, code := method_7_code, exceptionTable := #[], attributes := #[] }
def k1m6 : Method := { name := "splits", desc := "([III)Z", sig := { parameters := [(.array .int), .int, .int], returnType := some .boolean }, accessFlags := 10, code := some k1c6 }
def k1c7 : Code := { maxStack := 3, maxLocals := 9, code := method_8_code, exceptionTable := #[], attributes := #[] }
def k1m7 : Method := { name := "placeOk", desc := "([I[III)Z", sig := { parameters := [(.array .int), (.array .int), .int, .int], returnType := some .boolean }, accessFlags := 10, code := some k1c7 }
def k1c8 : Code := { maxStack := 3, maxLocals := 6, code := method_9_code, exceptionTable := #[], attributes := #[] }
def k1m8 : Method := { name := "sameOk", desc := "([IIIII)Z", sig := { parameters := [(.array .int), .int, .int, .int, .int], returnType := some .boolean }, accessFlags := 10, code := some k1c8 }
def k1c9 : Code := { maxStack := 4, maxLocals := 4, code := method_10_code, exceptionTable := #[], attributes := #[] }
def k1m9 : Method := { name := "sizeOk", desc := "(Lcom/example/tracegauge/tracegauge/automata/Partition;[II)Z", sig := { parameters := [(.object "com/example/tracegauge/tracegauge/automata/Partition"), (.array .int), .int], returnType := some .boolean }, accessFlags := 10, code := some k1c9 }
def k1c10 : Code := { maxStack := 5, maxLocals := 13, code := code, exceptionTable := #[], attributes := #[] }
def k1m10 : Method := { name := "law", desc := "(III)Z", sig := { parameters := [.int, .int, .int], returnType := some .boolean }, accessFlags := 9, code := some k1c10 }
/-- com/example/tracegauge/tracegauge/automata/PartitionSplitPinLaw -/
def k1 : Class := { plain "com/example/tracegauge/tracegauge/automata/PartitionSplitPinLaw" (some 0) with
  accessFlags := 49
  interfaces := #[]
  cf := some (fileOf pool1 8 #[] #[{ accessFlags := 1, nameIndex := 5, descriptorIndex := 6, attributes := #[] }, { accessFlags := 10, nameIndex := 11, descriptorIndex := 12, attributes := #[] }, { accessFlags := 10, nameIndex := 32, descriptorIndex := 33, attributes := #[] }, { accessFlags := 10, nameIndex := 44, descriptorIndex := 45, attributes := #[] }, { accessFlags := 10, nameIndex := 48, descriptorIndex := 49, attributes := #[] }, { accessFlags := 10, nameIndex := 52, descriptorIndex := 53, attributes := #[] }, { accessFlags := 10, nameIndex := 56, descriptorIndex := 57, attributes := #[] }, { accessFlags := 10, nameIndex := 60, descriptorIndex := 61, attributes := #[] }, { accessFlags := 10, nameIndex := 64, descriptorIndex := 65, attributes := #[] }, { accessFlags := 10, nameIndex := 68, descriptorIndex := 69, attributes := #[] }, { accessFlags := 9, nameIndex := 73, descriptorIndex := 74, attributes := #[] }] 49 2 #[] #[])
  fields := #[]
  methods := #[k1m0, k1m1, k1m2, k1m3, k1m4, k1m5, k1m6, k1m7, k1m8, k1m9, k1m10]
  instanceTypes := #[]
  staticTypes := #[]
  resolved := Array.replicate 79 none
  statics := none }

def pool2 : Array CpInfo := pool [(1, .methodref 2 3), (0, .class_ 4), (0, .nameAndType 5 6), (0, u "java/lang/Object"), (0, u "<init>"), (0, u "()V"), (0, .fieldref 8 9), (0, .class_ 10), (0, .nameAndType 11 12), (0, u "com/example/tracegauge/tracegauge/automata/Partition"), (0, u "elements"), (0, u "[I"), (0, .fieldref 8 14), (0, .nameAndType 15 12), (0, u "positions"), (0, .fieldref 8 17), (0, .nameAndType 18 12), (0, u "sets"), (0, .fieldref 8 20), (0, .nameAndType 21 12), (0, u "first"), (0, .fieldref 8 23), (0, .nameAndType 24 12), (0, u "end"), (0, .fieldref 8 26), (0, .nameAndType 27 12), (0, u "marked"), (0, .fieldref 8 29), (0, .nameAndType 30 12), (0, u "touched"), (0, .fieldref 8 32), (0, .nameAndType 33 34), (0, u "setCount"), (0, u "I"), (0, .fieldref 8 36), (0, .nameAndType 37 34), (0, u "touchedCount"), (0, u "(I)V"), (3, u "()I"), (0, u "setOf"), (0, u "(I)I"), (1, u "mark"), (0, u "split")] 2

def k2c0 : Code := { maxStack := 3, maxLocals := 3, code := prog_27_method_1_code, exceptionTable := #[], attributes := #[] }
def k2m0 : Method := { name := "<init>", desc := "(I)V", sig := { parameters := [.int], returnType := none }, accessFlags := 0, code := some k2c0 }
def k2c1 : Code := { maxStack := 1, maxLocals := 1, code := prog_27_method_2_code, exceptionTable := #[], attributes := #[] }
def k2m1 : Method := { name := "setCount", desc := "()I", sig := { parameters := [], returnType := some .int }, accessFlags := 0, code := some k2c1 }
def k2c2 : Code := { maxStack := 2, maxLocals := 2, code := prog_27_method_3_code, exceptionTable := #[], attributes := #[] }
def k2m2 : Method := { name := "setOf", desc := "(I)I", sig := { parameters := [.int], returnType := some .int }, accessFlags := 0, code := some k2c2 }
def k2c3 : Code := { maxStack := 2, maxLocals := 2, code := prog_27_method_4_code, exceptionTable := #[], attributes := #[] }
def k2m3 : Method := { name := "first", desc := "(I)I", sig := { parameters := [.int], returnType := some .int }, accessFlags := 0, code := some k2c3 }
def k2c4 : Code := { maxStack := 2, maxLocals := 2, code := prog_27_method_5_code, exceptionTable := #[], attributes := #[] }
def k2m4 : Method := { name := "end", desc := "(I)I", sig := { parameters := [.int], returnType := some .int }, accessFlags := 0, code := some k2c4 }
def k2c5 : Code := { maxStack := 5, maxLocals := 6, code := prog_27_method_7_code, exceptionTable := #[], attributes := #[] }
def k2m5 : Method := { name := "mark", desc := "(I)V", sig := { parameters := [.int], returnType := none }, accessFlags := 0, code := some k2c5 }
def k2c6 : Code := { maxStack := 4, maxLocals := 5, code := prog_27_method_8_code, exceptionTable := #[], attributes := #[] }
def k2m6 : Method := { name := "split", desc := "()V", sig := { parameters := [], returnType := none }, accessFlags := 0, code := some k2c6 }
/-- com/example/tracegauge/tracegauge/automata/Partition -/
def k2 : Class := { plain "com/example/tracegauge/tracegauge/automata/Partition" (some 0) with
  accessFlags := 48
  interfaces := #[]
  cf := some (fileOf pool2 8 #[] #[{ accessFlags := 0, nameIndex := 5, descriptorIndex := 38, attributes := #[] }, { accessFlags := 0, nameIndex := 33, descriptorIndex := 42, attributes := #[] }, { accessFlags := 0, nameIndex := 43, descriptorIndex := 44, attributes := #[] }, { accessFlags := 0, nameIndex := 21, descriptorIndex := 44, attributes := #[] }, { accessFlags := 0, nameIndex := 24, descriptorIndex := 44, attributes := #[] }, { accessFlags := 0, nameIndex := 46, descriptorIndex := 38, attributes := #[] }, { accessFlags := 0, nameIndex := 47, descriptorIndex := 6, attributes := #[] }] 48 2 #[] #[{ accessFlags := 18, nameIndex := 11, descriptorIndex := 12, attributes := #[] }, { accessFlags := 18, nameIndex := 15, descriptorIndex := 12, attributes := #[] }, { accessFlags := 18, nameIndex := 18, descriptorIndex := 12, attributes := #[] }, { accessFlags := 18, nameIndex := 21, descriptorIndex := 12, attributes := #[] }, { accessFlags := 18, nameIndex := 24, descriptorIndex := 12, attributes := #[] }, { accessFlags := 18, nameIndex := 27, descriptorIndex := 12, attributes := #[] }, { accessFlags := 18, nameIndex := 30, descriptorIndex := 12, attributes := #[] }, { accessFlags := 2, nameIndex := 37, descriptorIndex := 34, attributes := #[] }, { accessFlags := 2, nameIndex := 33, descriptorIndex := 34, attributes := #[] }])
  fields := #[{ name := "elements", type := (.array .int), accessFlags := 18, slot := 0, constantValue := 0 }, { name := "positions", type := (.array .int), accessFlags := 18, slot := 1, constantValue := 0 }, { name := "sets", type := (.array .int), accessFlags := 18, slot := 2, constantValue := 0 }, { name := "first", type := (.array .int), accessFlags := 18, slot := 3, constantValue := 0 }, { name := "end", type := (.array .int), accessFlags := 18, slot := 4, constantValue := 0 }, { name := "marked", type := (.array .int), accessFlags := 18, slot := 5, constantValue := 0 }, { name := "touched", type := (.array .int), accessFlags := 18, slot := 6, constantValue := 0 }, { name := "touchedCount", type := .int, accessFlags := 2, slot := 7, constantValue := 0 }, { name := "setCount", type := .int, accessFlags := 2, slot := 8, constantValue := 0 }]
  methods := #[k2m0, k2m1, k2m2, k2m3, k2m4, k2m5, k2m6]
  instanceTypes := #[(.array .int), (.array .int), (.array .int), (.array .int), (.array .int), (.array .int), (.array .int), .int, .int]
  staticTypes := #[]
  resolved := Array.replicate 50 none
  statics := none }

def pool3 : Array CpInfo := pool [(1, u "java/lang/Cloneable"), (0, .class_ 1), (0, u "java/lang/Object"), (0, .class_ 3)] 3

/-- java/lang/Cloneable -/
def k3 : Class := { plain "java/lang/Cloneable" (some 0) with
  accessFlags := 1537
  interfaces := #[]
  cf := some (fileOf pool3 2 #[] #[] 1537 4 #[] #[])
  fields := #[]
  methods := #[]
  instanceTypes := #[]
  staticTypes := #[]
  resolved := Array.replicate 8 none
  statics := none }

def pool4 : Array CpInfo := pool [(1, u "java/io/Serializable"), (0, .class_ 1), (0, u "java/lang/Object"), (0, .class_ 3)] 3

/-- java/io/Serializable -/
def k4 : Class := { plain "java/io/Serializable" (some 0) with
  accessFlags := 1537
  interfaces := #[]
  cf := some (fileOf pool4 2 #[] #[] 1537 4 #[] #[])
  fields := #[]
  methods := #[]
  instanceTypes := #[]
  staticTypes := #[]
  resolved := Array.replicate 8 none
  statics := none }

/-- the primitive byte -/
def k5 : Class := { plain "byte" none with kind := .primitive 'B', accessFlags := 0x411 }
/-- [B -/
def k6 : Class := { plain "[B" (some 0) with kind := .array 5 .byte, interfaces := #[3, 4], accessFlags := 1041 }

/-- the primitive int -/
def k7 : Class := { plain "int" none with kind := .primitive 'I', accessFlags := 0x411 }
/-- [I -/
def k8 : Class := { plain "[I" (some 0) with kind := .array 7 .int, interfaces := #[3, 4], accessFlags := 1041 }

def heap : Heap := #[]
def classes : Array Class := #[k0, k1, k2, k3, k4, k5, k6, k7, k8]
def interned : List (Array UInt16 × Addr) := []
def slotsUsed : Nat := 0
def theMethod : MethodId := ⟨1, 10⟩
def args0 : Array Value := #[.int 5, .int 1, .int 2]
def aboutOver (below : List Frame) : State where
  vm := { classes := classes, interned := interned.toArray }
  heap := heap
  slotsUsed := slotsUsed
  threads := #[{ frames := .invoking theMethod args0 :: below }]
def below0 : List Frame := [.native { method := ⟨0, 0⟩, args := #[] }]
def about1 : State := aboutOver below0
def p0 : Program := .bare "" "" ""
def e0 : Env := launch0.env 0 0 0
theorem w_frames : about1.frames = Frame.invoking theMethod args0 :: below0 := rfl
set_option maxRecDepth 65536 in
theorem w_args : argsFit about1.vm theMethod args0 = true := by decide +kernel
set_option maxRecDepth 65536 in
theorem w_heap : heapFits about1 = true := by decide +kernel
set_option maxRecDepth 65536 in
theorem w_runnable : about1.curStatus? = some .runnable := by decide +kernel
set_option maxRecDepth 65536 in
theorem w_alone : about1.alone = true := by decide +kernel
set_option maxRecDepth 65536 in
theorem w_named : about1.methodNamed? x = some theMethod := by decide +kernel
set_option maxRecDepth 65536 in
theorem w_hears : about1.hears theMethod below0 = true := by decide +kernel
set_option maxRecDepth 65536 in
theorem w_ripe : about1.ripe theMethod args0 below0 = true := by decide +kernel
theorem w_running : about1.status = .running := rfl
set_option maxRecDepth 65536 in
theorem w_room : about1.hasRoom e0.platform room_1 = true :=
  launch0.hasRoom_least _ room_1 (by decide +kernel) (by decide +kernel) (by decide +kernel) (by decide +kernel) (by decide +kernel) (by decide +kernel)
theorem allAtoms_all (ts : List Jvm.Cond) (a : Array Jvm.Value) (st : Jvm.State) : (allAtoms ts).before a st = ts.all (fun c => c.before a st) := by
  induction ts with
  | nil => rfl
  | cons c t ih =>
    show (Jvm.Cond.and c (allAtoms t)).before a st = _
    rw [Jvm.Cond.before_and, ih, List.all_cons]
def words1 : List Jvm.Cond := Jvm.Cond.code x code maxLocals ret :: tables_1
/-- a 'code' word, met by the world's own term for the bytes: nothing is compared byte by byte -/
theorem code_word {y : MethodName} {bytes : ByteArray} {mx : Nat} {rt : Option FieldType} {a : Array Value} {s : State} {m : MethodId} {meth : Method} {c : Code} (h1 : s.methodNamed? y = some m) (h2 : s.vm.method? m = some meth) (h3 : meth.code = some c) (h4 : c.code = bytes)
    (h5 : (c.maxLocals == mx && c.exceptionTable.isEmpty && decide (c.maxStack ≤ mostOperands) && decide (meth.sig.returnType = rt) && !meth.locks && decide (parseMethodDescriptor y.desc = some meth.sig)) = true) : (Jvm.Cond.code y bytes mx rt).before a s = true := by
  simp only [Bool.and_eq_true, beq_iff_eq, Bool.not_eq_true', decide_eq_true_eq] at h5
  obtain ⟨⟨⟨⟨⟨g1, g2⟩, g3⟩, g4⟩, g5⟩, g6⟩ := h5
  simp [Cond.before, Cond.holds, Cond.value, h1, h2, h3, h4, g1, g2, g3, g4, g5, g6]
def isCode : Jvm.Cond → Bool
  | .code _ _ _ _ => true
  | _ => false
theorem all_split {L : List Jvm.Cond} {P : Jvm.Cond → Bool} (h1 : L.all (fun c => isCode c || P c) = true) (h2 : ∀ c ∈ L.filter isCode, P c = true) : L.all P = true := by
  refine List.all_eq_true.mpr fun c hc => ?_
  have h := List.all_eq_true.mp h1 c hc
  rcases Bool.eq_false_or_eq_true (isCode c) with hi | hi
  · exact h2 c (List.mem_filter.mpr ⟨hc, hi⟩)
  · simpa [hi] using h
set_option maxRecDepth 65536 in
theorem w_c0 : (Jvm.Cond.code x code maxLocals ret).before args0 about1 = true := code_word (m := ⟨1, 10⟩) (meth := k1m10) (c := k1c10) (by decide +kernel) rfl rfl rfl (by decide +kernel)
set_option maxRecDepth 65536 in
theorem w_c1 : (Jvm.Cond.code ({ cls := "com/example/tracegauge/tracegauge/automata/Partition", name := "<init>", desc := "(I)V" } : Jvm.MethodName) prog_27_method_1_code (3 : Nat) (Option.none : Option Jvm.ClassFile.FieldType)).before args0 about1 = true := code_word (m := ⟨2, 0⟩) (meth := k2m0) (c := k2c0) (by decide +kernel) rfl rfl rfl (by decide +kernel)
set_option maxRecDepth 65536 in
theorem w_c2 : (Jvm.Cond.code ({ cls := "java/lang/Object", name := "<init>", desc := "()V" } : Jvm.MethodName) object_method_1_code (1 : Nat) (Option.none : Option Jvm.ClassFile.FieldType)).before args0 about1 = true := code_word (m := ⟨0, 0⟩) (meth := k0m0) (c := k0c0) (by decide +kernel) rfl rfl rfl (by decide +kernel)
set_option maxRecDepth 65536 in
theorem w_c3 : (Jvm.Cond.code ({ cls := "com/example/tracegauge/tracegauge/automata/PartitionSplitPinLaw", name := "markAndSplit", desc := "(Lcom/example/tracegauge/tracegauge/automata/Partition;II)V" } : Jvm.MethodName) method_4_code (7 : Nat) (Option.none : Option Jvm.ClassFile.FieldType)).before args0 about1 = true := code_word (m := ⟨1, 3⟩) (meth := k1m3) (c := k1c3) (by decide +kernel) rfl rfl rfl (by decide +kernel)
set_option maxRecDepth 65536 in
theorem w_c4 : (Jvm.Cond.code ({ cls := "com/example/tracegauge/tracegauge/automata/PartitionSplitPinLaw", name := "bit", desc := "(II)I" } : Jvm.MethodName) method_2_code (2 : Nat) (Option.some Jvm.ClassFile.FieldType.int)).before args0 about1 = true := code_word (m := ⟨1, 1⟩) (meth := k1m1) (c := k1c1) (by decide +kernel) rfl rfl rfl (by decide +kernel)
set_option maxRecDepth 65536 in
theorem w_c5 : (Jvm.Cond.code ({ cls := "com/example/tracegauge/tracegauge/automata/Partition", name := "split", desc := "()V" } : Jvm.MethodName) prog_27_method_8_code (5 : Nat) (Option.none : Option Jvm.ClassFile.FieldType)).before args0 about1 = true := code_word (m := ⟨2, 6⟩) (meth := k2m6) (c := k2c6) (by decide +kernel) rfl rfl rfl (by decide +kernel)
set_option maxRecDepth 65536 in
theorem w_c6 : (Jvm.Cond.code ({ cls := "com/example/tracegauge/tracegauge/automata/PartitionSplitPinLaw", name := "observe", desc := "(Lcom/example/tracegauge/tracegauge/automata/Partition;)[I" } : Jvm.MethodName) method_5_code (2 : Nat) (Option.some (Jvm.ClassFile.FieldType.array Jvm.ClassFile.FieldType.int))).before args0 about1 = true := code_word (m := ⟨1, 4⟩) (meth := k1m4) (c := k1c4) (by decide +kernel) rfl rfl rfl (by decide +kernel)
set_option maxRecDepth 65536 in
theorem w_c7 : (Jvm.Cond.code ({ cls := "com/example/tracegauge/tracegauge/automata/Partition", name := "setOf", desc := "(I)I" } : Jvm.MethodName) prog_27_method_3_code (2 : Nat) (Option.some Jvm.ClassFile.FieldType.int)).before args0 about1 = true := code_word (m := ⟨2, 2⟩) (meth := k2m2) (c := k2c2) (by decide +kernel) rfl rfl rfl (by decide +kernel)
set_option maxRecDepth 65536 in
theorem w_c8 : (Jvm.Cond.code ({ cls := "com/example/tracegauge/tracegauge/automata/Partition", name := "setCount", desc := "()I" } : Jvm.MethodName) prog_27_method_2_code (1 : Nat) (Option.some Jvm.ClassFile.FieldType.int)).before args0 about1 = true := code_word (m := ⟨2, 1⟩) (meth := k2m1) (c := k2c1) (by decide +kernel) rfl rfl rfl (by decide +kernel)
set_option maxRecDepth 65536 in
theorem w_c9 : (Jvm.Cond.code ({ cls := "com/example/tracegauge/tracegauge/automata/Partition", name := "mark", desc := "(I)V" } : Jvm.MethodName) prog_27_method_7_code (6 : Nat) (Option.none : Option Jvm.ClassFile.FieldType)).before args0 about1 = true := code_word (m := ⟨2, 5⟩) (meth := k2m5) (c := k2c5) (by decide +kernel) rfl rfl rfl (by decide +kernel)
set_option maxRecDepth 65536 in
theorem w_c10 : (Jvm.Cond.code ({ cls := "com/example/tracegauge/tracegauge/automata/PartitionSplitPinLaw", name := "splits", desc := "([III)Z" } : Jvm.MethodName) method_7_code (5 : Nat) (Option.some Jvm.ClassFile.FieldType.boolean)).before args0 about1 = true := code_word (m := ⟨1, 6⟩) (meth := k1m6) (c := k1c6) (by decide +kernel) rfl rfl rfl (by decide +kernel)
set_option maxRecDepth 65536 in
theorem w_c11 : (Jvm.Cond.code ({ cls := "com/example/tracegauge/tracegauge/automata/PartitionSplitPinLaw", name := "count", desc := "([III)I" } : Jvm.MethodName) method_3_code (4 : Nat) (Option.some Jvm.ClassFile.FieldType.int)).before args0 about1 = true := code_word (m := ⟨1, 2⟩) (meth := k1m2) (c := k1c2) (by decide +kernel) rfl rfl rfl (by decide +kernel)
set_option maxRecDepth 65536 in
theorem w_c12 : (Jvm.Cond.code ({ cls := "com/example/tracegauge/tracegauge/automata/PartitionSplitPinLaw", name := "placeOk", desc := "([I[III)Z" } : Jvm.MethodName) method_8_code (9 : Nat) (Option.some Jvm.ClassFile.FieldType.boolean)).before args0 about1 = true := code_word (m := ⟨1, 7⟩) (meth := k1m7) (c := k1c7) (by decide +kernel) rfl rfl rfl (by decide +kernel)
set_option maxRecDepth 65536 in
theorem w_c13 : (Jvm.Cond.code ({ cls := "com/example/tracegauge/tracegauge/automata/PartitionSplitPinLaw", name := "sameOk", desc := "([IIIII)Z" } : Jvm.MethodName) method_9_code (6 : Nat) (Option.some Jvm.ClassFile.FieldType.boolean)).before args0 about1 = true := code_word (m := ⟨1, 8⟩) (meth := k1m8) (c := k1c8) (by decide +kernel) rfl rfl rfl (by decide +kernel)
set_option maxRecDepth 65536 in
theorem w_c14 : (Jvm.Cond.code ({ cls := "com/example/tracegauge/tracegauge/automata/PartitionSplitPinLaw", name := "sizeOk", desc := "(Lcom/example/tracegauge/tracegauge/automata/Partition;[II)Z" } : Jvm.MethodName) method_10_code (4 : Nat) (Option.some Jvm.ClassFile.FieldType.boolean)).before args0 about1 = true := code_word (m := ⟨1, 9⟩) (meth := k1m9) (c := k1c9) (by decide +kernel) rfl rfl rfl (by decide +kernel)
set_option maxRecDepth 65536 in
theorem w_c15 : (Jvm.Cond.code ({ cls := "com/example/tracegauge/tracegauge/automata/Partition", name := "end", desc := "(I)I" } : Jvm.MethodName) prog_27_method_5_code (2 : Nat) (Option.some Jvm.ClassFile.FieldType.int)).before args0 about1 = true := code_word (m := ⟨2, 4⟩) (meth := k2m4) (c := k2c4) (by decide +kernel) rfl rfl rfl (by decide +kernel)
set_option maxRecDepth 65536 in
theorem w_c16 : (Jvm.Cond.code ({ cls := "com/example/tracegauge/tracegauge/automata/Partition", name := "first", desc := "(I)I" } : Jvm.MethodName) prog_27_method_4_code (2 : Nat) (Option.some Jvm.ClassFile.FieldType.int)).before args0 about1 = true := code_word (m := ⟨2, 3⟩) (meth := k2m3) (c := k2c3) (by decide +kernel) rfl rfl rfl (by decide +kernel)
set_option maxRecDepth 65536 in
theorem w_c17 : (Jvm.Cond.code ({ cls := "com/example/tracegauge/tracegauge/automata/PartitionSplitPinLaw", name := "label", desc := "(IIZ)I" } : Jvm.MethodName) method_6_code (3 : Nat) (Option.some Jvm.ClassFile.FieldType.int)).before args0 about1 = true := code_word (m := ⟨1, 5⟩) (meth := k1m5) (c := k1c5) (by decide +kernel) rfl rfl rfl (by decide +kernel)
def codes1 : List Jvm.Cond := [Jvm.Cond.code x code maxLocals ret, Jvm.Cond.code ({ cls := "com/example/tracegauge/tracegauge/automata/Partition", name := "<init>", desc := "(I)V" } : Jvm.MethodName) prog_27_method_1_code (3 : Nat) (Option.none : Option Jvm.ClassFile.FieldType), Jvm.Cond.code ({ cls := "java/lang/Object", name := "<init>", desc := "()V" } : Jvm.MethodName) object_method_1_code (1 : Nat) (Option.none : Option Jvm.ClassFile.FieldType), Jvm.Cond.code ({ cls := "com/example/tracegauge/tracegauge/automata/PartitionSplitPinLaw", name := "markAndSplit", desc := "(Lcom/example/tracegauge/tracegauge/automata/Partition;II)V" } : Jvm.MethodName) method_4_code (7 : Nat) (Option.none : Option Jvm.ClassFile.FieldType), Jvm.Cond.code ({ cls := "com/example/tracegauge/tracegauge/automata/PartitionSplitPinLaw", name := "bit", desc := "(II)I" } : Jvm.MethodName) method_2_code (2 : Nat) (Option.some Jvm.ClassFile.FieldType.int), Jvm.Cond.code ({ cls := "com/example/tracegauge/tracegauge/automata/Partition", name := "split", desc := "()V" } : Jvm.MethodName) prog_27_method_8_code (5 : Nat) (Option.none : Option Jvm.ClassFile.FieldType), Jvm.Cond.code ({ cls := "com/example/tracegauge/tracegauge/automata/PartitionSplitPinLaw", name := "observe", desc := "(Lcom/example/tracegauge/tracegauge/automata/Partition;)[I" } : Jvm.MethodName) method_5_code (2 : Nat) (Option.some (Jvm.ClassFile.FieldType.array Jvm.ClassFile.FieldType.int)), Jvm.Cond.code ({ cls := "com/example/tracegauge/tracegauge/automata/Partition", name := "setOf", desc := "(I)I" } : Jvm.MethodName) prog_27_method_3_code (2 : Nat) (Option.some Jvm.ClassFile.FieldType.int), Jvm.Cond.code ({ cls := "com/example/tracegauge/tracegauge/automata/Partition", name := "setCount", desc := "()I" } : Jvm.MethodName) prog_27_method_2_code (1 : Nat) (Option.some Jvm.ClassFile.FieldType.int), Jvm.Cond.code ({ cls := "com/example/tracegauge/tracegauge/automata/Partition", name := "mark", desc := "(I)V" } : Jvm.MethodName) prog_27_method_7_code (6 : Nat) (Option.none : Option Jvm.ClassFile.FieldType), Jvm.Cond.code ({ cls := "com/example/tracegauge/tracegauge/automata/PartitionSplitPinLaw", name := "splits", desc := "([III)Z" } : Jvm.MethodName) method_7_code (5 : Nat) (Option.some Jvm.ClassFile.FieldType.boolean), Jvm.Cond.code ({ cls := "com/example/tracegauge/tracegauge/automata/PartitionSplitPinLaw", name := "count", desc := "([III)I" } : Jvm.MethodName) method_3_code (4 : Nat) (Option.some Jvm.ClassFile.FieldType.int), Jvm.Cond.code ({ cls := "com/example/tracegauge/tracegauge/automata/PartitionSplitPinLaw", name := "placeOk", desc := "([I[III)Z" } : Jvm.MethodName) method_8_code (9 : Nat) (Option.some Jvm.ClassFile.FieldType.boolean), Jvm.Cond.code ({ cls := "com/example/tracegauge/tracegauge/automata/PartitionSplitPinLaw", name := "sameOk", desc := "([IIIII)Z" } : Jvm.MethodName) method_9_code (6 : Nat) (Option.some Jvm.ClassFile.FieldType.boolean), Jvm.Cond.code ({ cls := "com/example/tracegauge/tracegauge/automata/PartitionSplitPinLaw", name := "sizeOk", desc := "(Lcom/example/tracegauge/tracegauge/automata/Partition;[II)Z" } : Jvm.MethodName) method_10_code (4 : Nat) (Option.some Jvm.ClassFile.FieldType.boolean), Jvm.Cond.code ({ cls := "com/example/tracegauge/tracegauge/automata/Partition", name := "end", desc := "(I)I" } : Jvm.MethodName) prog_27_method_5_code (2 : Nat) (Option.some Jvm.ClassFile.FieldType.int), Jvm.Cond.code ({ cls := "com/example/tracegauge/tracegauge/automata/Partition", name := "first", desc := "(I)I" } : Jvm.MethodName) prog_27_method_4_code (2 : Nat) (Option.some Jvm.ClassFile.FieldType.int), Jvm.Cond.code ({ cls := "com/example/tracegauge/tracegauge/automata/PartitionSplitPinLaw", name := "label", desc := "(IIZ)I" } : Jvm.MethodName) method_6_code (3 : Nat) (Option.some Jvm.ClassFile.FieldType.int)]
set_option maxRecDepth 65536 in
theorem codes_eq : words1.filter isCode = codes1 := rfl
theorem w_codes : ∀ c ∈ words1.filter isCode, c.before args0 about1 = true := by
  rw [codes_eq]
  intro c hc
  simp only [codes1, List.mem_cons, List.not_mem_nil, or_false] at hc
  rcases hc with rfl | rfl | rfl | rfl | rfl | rfl | rfl | rfl | rfl | rfl | rfl | rfl | rfl | rfl | rfl | rfl | rfl | rfl
  · exact w_c0
  · exact w_c1
  · exact w_c2
  · exact w_c3
  · exact w_c4
  · exact w_c5
  · exact w_c6
  · exact w_c7
  · exact w_c8
  · exact w_c9
  · exact w_c10
  · exact w_c11
  · exact w_c12
  · exact w_c13
  · exact w_c14
  · exact w_c15
  · exact w_c16
  · exact w_c17
set_option maxRecDepth 65536 in
theorem w_t1 : (words1.take 24).all (fun c => isCode c || c.before args0 about1) = true := by decide +kernel
set_option maxRecDepth 65536 in
theorem w_t2 : ((words1.drop 24).take 24).all (fun c => isCode c || c.before args0 about1) = true := by decide +kernel
set_option maxRecDepth 65536 in
theorem w_t3 : (((words1.drop 24).drop 24).take 24).all (fun c => isCode c || c.before args0 about1) = true := by decide +kernel
set_option maxRecDepth 65536 in
theorem w_t4 : (((words1.drop 24).drop 24).drop 24).all (fun c => isCode c || c.before args0 about1) = true := by decide +kernel
theorem w_tables : (allAtoms (Jvm.Cond.code x code maxLocals ret :: tables_1)).before args0 about1 = true := by
  rw [allAtoms_all]
  show words1.all (fun c => c.before args0 about1) = true
  refine all_split ?_ w_codes
  rw [← List.take_append_drop 24 words1, List.all_append, w_t1, ← List.take_append_drop 24 (words1.drop 24), List.all_append, w_t2, ← List.take_append_drop 24 ((words1.drop 24).drop 24), List.all_append, w_t3, w_t4]
  rfl
set_option maxRecDepth 65536 in
theorem w_case : (Jvm.Cond.and given_1 narrow_1).before args0 about1 = true := by decide +kernel
theorem w_applies : (headSpec (Jvm.Cond.code x code maxLocals ret :: tables_1) room_1).applies x e0.platform about1 = true :=
  (Spec.applies_iff w_frames).mpr ⟨w_running, w_runnable, w_alone, w_named, w_hears, w_ripe, w_room, w_tables⟩
theorem atStart : AtStart classFile x code maxLocals ret World_1 tables_1 room_1 Calls_1 rest_1 Pre_1 launch0 p0 e0 about1 theMethod args0 below0 :=
  ⟨lists_1, trivial, launch0.admits_env _ _ _, launch0.least_env, fairChoices_fair.cas, fairChoices_fair.clock, w_frames, w_args, w_heap, w_applies, trivial, trivial, w_case⟩
end start1
theorem witness_1 : WitnessClaimed_1 := ⟨start1.p0, start1.e0, start1.about1, start1.theMethod, start1.args0, start1.below0, start1.atStart⟩
end Jvm.Pilot.@@N@@
