import JvmDerived
import JvmDerived.Pilot.@@N@@Statement
import JvmDerived.Pilot.@@N@@Code
set_option linter.unusedVariables false
set_option linter.unusedSimpArgs false
@@BLOCK:NumsL.lean.txt@@
set_option maxRecDepth 65536
namespace Jvm.Pilot.@@N@@
open Jvm Jvm.ClassFile Sem Op Lib Jvm.Free Jvm.Stand Jvm.LawKit Jvm.RoadKit Bundle Jvm.Pilot.@@N@@.Jvm.D
/-! OWN KIT: the walk in continuation style over lawnew's family -/
section OwnKit
variable {p : Program} {l : Launch} {e : Env} {R : Room} {s : State} {m : MethodId} {args : Array Value} {below : List Frame} {meth : Method} {c : Code} {T : State} {locs : List Loc} {cells slots : Nat} {Z : State} {a0 : Array Value} {h : Heap} {K : Outcome → State → Prop} {Q : Option Value → Heap → List Loc → Prop} {rc rs : Nat}
/-- from the frame g over T the run comes to its end, and K holds there -/
def Go (p : Program) (e : Env) (below : List Frame) (K : Outcome → State → Prop) (T : State) (g : JFrame) : Prop :=
  ∃ s₂ o, Steps p.tables e below (T.setTop g) s₂ ∧ s₂.status = .running ∧ Ended s₂ below o ∧ K o s₂
theorem Go.to {T T' : State} {g g' : JFrame} (st : ∀ t, Steps p.tables e below (T'.setTop g') t → Steps p.tables e below (T.setTop g) t) (k : Go p e below K T' g') : Go p e below K T g := by
  obtain ⟨s₂, o, h1, h2⟩ := k
  exact ⟨s₂, o, st _ h1, h2⟩
def KQ (s : State) (Q : Option Value → Heap → List Loc → Prop) (rc rs : Nat) : Outcome → State → Prop := fun o U => ∃ v L, o = .returned v ∧ Q v U.heap L ∧ FrameEnd s o U L rc rs
theorem Go.retW (X : Stand p l e R s m args below meth c T locs cells slots) (hx : p.tables.exec = Jvm.exec) (hlk : meth.locks = false) {pc : Nat} {Ls : Array Slot} {w : Value} {t : FieldType} {i : Instr} {rest : List Value} (hret : meth.sig.returnType = some t) (hn : narrow t w = w)
    (hi : (i = .ireturn ∧ (t = .int ∨ t = .boolean ∨ t = .byte ∨ t = .char ∨ t = .short) ∧ ∃ z, w = .int z) ∨ (i = .lreturn ∧ t = .long ∧ ∃ z, w = .long z) ∨ (i = .dreturn ∧ t = .double ∧ ∃ z, w = .double z) ∨ (i = .freturn ∧ t = .float ∧ ∃ z, w = .float z) ∨ (i = .areturn ∧ t.isReference = true ∧ w.isRef = true))
    (hd : decode c.code pc = .ok (i, 1)) (hq : Q (some w) T.heap locs) (hc : cells ≤ rc) (hs : slots ≤ rs) : Go p e below (KQ s Q rc rs) T (mkF m pc Ls (w :: rest)) := by
  obtain ⟨fs, hr, hrun, hended, hW, hsame⟩ := X.leave (v := some w) (fun h => by rw [hret] at h; cases h) hlk
  exact ⟨_, _, retOut X hx hret hn hi hd hr, hrun, hended, _, _, rfl, hq, ⟨_, rfl⟩, hW, hsame.mono hc hs⟩
theorem Go.retI (X : Stand p l e R s m args below meth c T locs cells slots) (hx : p.tables.exec = Jvm.exec) (hlk : meth.locks = false) {pc : Nat} {Ls : Array Slot} {z : Int32} {rest : List Value} (hret : meth.sig.returnType = some .int)
    (hd : decode c.code pc = .ok (.ireturn, 1)) (hq : Q (some (.int z)) T.heap locs) (hc : cells ≤ rc) (hs : slots ≤ rs) : Go p e below (KQ s Q rc rs) T (mkF m pc Ls (.int z :: rest)) :=
  Go.retW X hx hlk hret rfl (Or.inl ⟨rfl, Or.inl rfl, z, rfl⟩) hd hq hc hs
theorem Go.retJ (X : Stand p l e R s m args below meth c T locs cells slots) (hx : p.tables.exec = Jvm.exec) (hlk : meth.locks = false) {pc : Nat} {Ls : Array Slot} {z : Int64} {rest : List Value} (hret : meth.sig.returnType = some .long)
    (hd : decode c.code pc = .ok (.lreturn, 1)) (hq : Q (some (.long z)) T.heap locs) (hc : cells ≤ rc) (hs : slots ≤ rs) : Go p e below (KQ s Q rc rs) T (mkF m pc Ls (.long z :: rest)) :=
  Go.retW X hx hlk hret rfl (Or.inr (Or.inl ⟨rfl, rfl, z, rfl⟩)) hd hq hc hs
theorem Go.retZ (X : Stand p l e R s m args below meth c T locs cells slots) (hx : p.tables.exec = Jvm.exec) (hlk : meth.locks = false) {pc : Nat} {Ls : Array Slot} {z : Int32} {rest : List Value} (hret : meth.sig.returnType = some .boolean) (hz : z = 0 ∨ z = 1)
    (hd : decode c.code pc = .ok (.ireturn, 1)) (hq : Q (some (.int z)) T.heap locs) (hc : cells ≤ rc) (hs : slots ≤ rs) : Go p e below (KQ s Q rc rs) T (mkF m pc Ls (.int z :: rest)) :=
  Go.retW X hx hlk hret (by rcases hz with rfl | rfl <;> rfl) (Or.inl ⟨rfl, Or.inr (Or.inl rfl), z, rfl⟩) hd hq hc hs
theorem Go.retA (X : Stand p l e R s m args below meth c T locs cells slots) (hx : p.tables.exec = Jvm.exec) (hlk : meth.locks = false) {pc : Nat} {Ls : Array Slot} {w : Value} {t : FieldType} {rest : List Value} (hret : meth.sig.returnType = some t) (ht : t.isReference = true) (hw : w.isRef = true) (hn : narrow t w = w)
    (hd : decode c.code pc = .ok (.areturn, 1)) (hq : Q (some w) T.heap locs) (hc : cells ≤ rc) (hs : slots ≤ rs) : Go p e below (KQ s Q rc rs) T (mkF m pc Ls (w :: rest)) :=
  Go.retW X hx hlk hret hn (Or.inr (Or.inr (Or.inr (Or.inr ⟨rfl, ht, hw⟩)))) hd hq hc hs
theorem Go.retV (X : Stand p l e R s m args below meth c T locs cells slots) (hx : p.tables.exec = Jvm.exec) (hlk : meth.locks = false) {pc : Nat} {Ls : Array Slot} (hret : meth.sig.returnType = none)
    (hd : decode c.code pc = .ok (.return_, 1)) (hq : Q none T.heap locs) (hc : cells ≤ rc) (hs : slots ≤ rs) : Go p e below (KQ s Q rc rs) T (mkF m pc Ls []) := by
  obtain ⟨fs, hr, hrun, hended, hW, hsame⟩ := X.leave (v := none) (fun _ => rfl) hlk
  exact ⟨_, _, X.returnOut hx hret hd hr, hrun, hended, _, _, rfl, hq, ⟨_, rfl⟩, hW, hsame.mono hc hs⟩
/-- a contract in this family -/
abbrev Met1 (l : Launch) (Z : State) (y : MethodName) (bytes : ByteArray) (maxL : Nat) (ret : Option FieldType) (ws : List Jvm.Cond) (rm : Room) (as' : Array Value) (h0 : Heap) (Q : Option Value → Heap → List Loc → Prop) : Prop :=
  MetFree l y (head1 (Jvm.Cond.code y bytes maxL ret :: ws) rm) (fun a U => a = as' ∧ Z.Warmed39 U.vm ∧ U.heap = h0) (fun _ _ _ _ _ => True) (fun _ U o U' => ∃ v L, o = .returned v ∧ Q v U'.heap L ∧ FrameEnd U o U' L rm.cells rm.slots)
theorem metOf {y : MethodName} {bytes : ByteArray} {maxL : Nat} {ret : Option FieldType} {ws : List Jvm.Cond} {rm : Room} {as' : Array Value} {h0 : Heap} (hp : plainFor y = true)
    (body : ∀ (p : Program) (e : Env) (s : State) (m : MethodId) (below : List Frame) (meth : Method) (c : Code) (s₁ : State), p.tables.exec = Jvm.exec → c.code = bytes → c.maxLocals = maxL → s.vm.findClass y.cls = some m.cls → meth.name = y.name → meth.sig.returnType = ret → meth.locks = false → Z.Warmed39 s.vm →
      Stand p l e rm s m as' below meth c s₁ [] 0 0 → s₁.heap = h0 → Go p e below (KQ s Q rm.cells rm.slots) s₁ (entryFrame m as' maxL)) : Met1 l Z y bytes maxL ret ws rm as' h0 Q := by
  refine MetFree.of_bodySF hp hisR ?_
  intro p e s m args below meth c s₁ Bd hml0 hP hK
  obtain ⟨rfl, hZ, hh⟩ := hP
  exact body p e s m below meth c s₁ Bd.exec Bd.bytes hml0 (findClass_of_methodNamed Bd.named) (name_of_methodNamed Bd.named Bd.method).1 Bd.returns (BodyLoose.notSynchronized Bd) hZ (Stand.of_body Bd) (by rw [← hh, Bd.state]; rfl)
section Calls
variable {own : String} {index : Nat} {y : MethodName} {bytes : ByteArray} {maxL : Nat} {ret : Option FieldType} {rm : Room} {as' : Array Value} {pc : Nat} {Ls : Array Slot} {st rest argsL : List Value} {ps : List FieldType} {r : Option FieldType}
theorem Go.callS (X : Stand p l e R s m args below meth c T locs cells slots) (hx : p.tables.exec = Jvm.exec) (hZ : Z.Warmed39 s.vm) (hown : s.vm.findClass own = some m.cls)
    (w1 : (Cond.methodLink own index y).before a0 Z = true) (w2 : (Cond.static y).before a0 Z = true) (w3 : (Cond.initialized y.cls).before a0 Z = true) (w4 : (Cond.code y bytes maxL ret).before a0 Z = true)
    (hy : y.cls ≠ "java/lang/invoke/MethodHandle" ∧ y.cls ≠ "java/lang/invoke/VarHandle") (hM : Met1 l Z y bytes maxL ret [] rm as' h Q) (eT : T.heap = h) (hsize : Ls.size = c.maxLocals)
    (hpd : parseMethodDescriptor y.desc = some ⟨ps, r⟩) (hlen : argsL.length = ps.length) (hst : st = argsL.reverse ++ rest) (has : argsL.toArray = as') (hdc : decode c.code pc = .ok (.invokestatic index, 3))
    (hf : rm.frames + 1 ≤ R.frames) (hlo : (rest.map fun v => v.category).sum + (maxL + 11) + rm.locals ≤ R.locals) (hce : cells + rm.cells ≤ R.cells) (hsl : slots + rm.slots ≤ R.slots)
    (k : ∀ T' v L, Stand p l e R s m args below meth c T' (locs ++ L) (cells + rm.cells) (slots + rm.slots) → Q v T'.heap L → Go p e below K T' (mkF m (pc + 3) Ls (v.toList ++ rest))) : Go p e below K T (mkF m pc Ls st) := by
  obtain ⟨v, vm₁, ⟨T', L', c', n'⟩, -, X', ⟨L, hQ, e1, e2, e3⟩, st'⟩ := Jvm.LawKit.callS X hx hown (mvT hZ w1) (mvT hZ w2) (mvT hZ w3) (mvT hZ w4) hy (backOf (W := (rest.map fun v => v.category).sum) hM hZ w4 w3 hf hlo) (g := mkF m pc Ls st) rfl hsize (argsL := argsL) (rest := rest) (lenOf hpd hlen) hst (by show 2 * 0 + _ ≤ _; omega) hdc (fun _ _ => ⟨has, eT, hce, hsl⟩)
  dsimp only [Pt.U, Pt.locs, Pt.cells, Pt.slots] at X' e1 e2 e3 st' hQ
  subst e1 e2 e3
  exact Go.to st' (k T' v L X' hQ)
theorem Go.callI (X : Stand p l e R s m args below meth c T locs cells slots) (hx : p.tables.exec = Jvm.exec) (hZ : Z.Warmed39 s.vm) (hown : s.vm.findClass own = some m.cls) (hin : y.name = "<init>")
    (w1 : (Cond.methodLink own index y).before a0 Z = true) (w2 : (Cond.instanceMethod y).before a0 Z = true) (w3 : (Cond.initialized y.cls).before a0 Z = true) (w4 : (Cond.code y bytes maxL none).before a0 Z = true)
    (hy : y.cls ≠ "java/lang/invoke/MethodHandle" ∧ y.cls ≠ "java/lang/invoke/VarHandle") (hM : Met1 l Z y bytes maxL none [] rm as' h Q) (eT : T.heap = h) (hsize : Ls.size = c.maxLocals)
    (hpd : parseMethodDescriptor y.desc = some ⟨ps, r⟩) (hlen : argsL.length = ps.length) {a : Addr} (hst : st = argsL.reverse ++ .ref a :: rest) (has : (Value.ref a :: argsL).toArray = as') (hdc : decode c.code pc = .ok (.invokespecial index, 3))
    (hf : rm.frames + 1 ≤ R.frames) (hlo : (rest.map fun v => v.category).sum + (maxL + 11) + rm.locals ≤ R.locals) (hce : cells + rm.cells ≤ R.cells) (hsl : slots + rm.slots ≤ R.slots)
    (k : ∀ T' v L, Stand p l e R s m args below meth c T' (locs ++ L) (cells + rm.cells) (slots + rm.slots) → Q v T'.heap L → Go p e below K T' (mkF m (pc + 3) Ls (v.toList ++ rest))) : Go p e below K T (mkF m pc Ls st) := by
  obtain ⟨v, vm₁, ⟨T', L', c', n'⟩, -, X', ⟨L, hQ, e1, e2, e3⟩, st'⟩ := X.specialBack hx hin hown (mvT hZ w1) (mvT hZ w2) (mvT hZ w4) hy (backOf (W := (rest.map fun v => v.category).sum) hM hZ w4 w3 hf hlo) (g := mkF m pc Ls st) rfl hsize (Steps.refl _) (a := a) (argsL := argsL) (rest := rest) (lenOf hpd hlen) hst (by show 2 * 0 + _ ≤ _; omega) hdc (fun _ _ => ⟨has, eT, hce, hsl⟩)
  dsimp only [Pt.U, Pt.locs, Pt.cells, Pt.slots] at X' e1 e2 e3 st' hQ
  subst e1 e2 e3
  exact Go.to (fun _ q => st'.trans q) (k T' v L X' hQ)
theorem Go.callV (X : Stand p l e R s m args below meth c T locs cells slots) (hx : p.tables.exec = Jvm.exec) (hZ : Z.Warmed39 s.vm) (hown : s.vm.findClass own = some m.cls)
    (w1 : (Cond.methodLink own index y).before a0 Z = true) (w5 : (Cond.declares y).before a0 Z = true) {C : String} (w6 : (Cond.selects C y y).before a0 Z = true) (w2 : (Cond.instanceMethod y).before a0 Z = true) (w3 : (Cond.initialized y.cls).before a0 Z = true) (w4 : (Cond.code y bytes maxL ret).before a0 Z = true)
    (hy : y.cls ≠ "java/lang/invoke/MethodHandle" ∧ y.cls ≠ "java/lang/invoke/VarHandle") (hM : Met1 l Z y bytes maxL ret [] rm as' h Q) (eT : T.heap = h) {a : Addr} (E : Exa Z h a C) (hsize : Ls.size = c.maxLocals)
    (hpd : parseMethodDescriptor y.desc = some ⟨ps, r⟩) (hlen : argsL.length = ps.length) (hst : st = argsL.reverse ++ .ref a :: rest) (has : (Value.ref a :: argsL).toArray = as') (hdc : decode c.code pc = .ok (.invokevirtual index, 3))
    (hf : rm.frames + 1 ≤ R.frames) (hlo : (rest.map fun v => v.category).sum + (maxL + 11) + rm.locals ≤ R.locals) (hce : cells + rm.cells ≤ R.cells) (hsl : slots + rm.slots ≤ R.slots)
    (k : ∀ T' v L, Stand p l e R s m args below meth c T' (locs ++ L) (cells + rm.cells) (slots + rm.slots) → Q v T'.heap L → Go p e below K T' (mkF m (pc + 3) Ls (v.toList ++ rest))) : Go p e below K T (mkF m pc Ls st) := by
  obtain ⟨cq, kq, q1, q2, q3⟩ := isOf hZ eT E
  obtain ⟨v, vm₁, ⟨T', L', c', n'⟩, -, X', ⟨L, hQ, e1, e2, e3⟩, st'⟩ := X.virtualBack hx (y := y) (z := y) hown (mvT hZ w1) (mvT hZ w5) (notFace_of_selects (args := #[]) (mvT hZ w6)) (mvT hZ w6) (mvT hZ w2) hy (backOf (W := (rest.map fun v => v.category).sum) hM hZ w4 w3 hf hlo) q1 q3 (g := mkF m pc Ls st) rfl hsize (Steps.refl _) (argsL := argsL) (rest := rest) (lenOf hpd hlen) hst (by show 2 * 0 + _ ≤ _; omega) hdc (fun _ _ => ⟨has, eT, hce, hsl⟩)
  dsimp only [Pt.U, Pt.locs, Pt.cells, Pt.slots] at X' e1 e2 e3 st' hQ
  subst e1 e2 e3
  exact Go.to (fun _ q => st'.trans q) (k T' v L X' hQ)
end Calls
/-! arrays of ints (or of chars) by their list -/
def AV (Z : State) (h : Heap) (b : Addr) (ty : FieldType) (xs : List Int32) : Prop := ∃ cl : Cell, Arr Z h b cl ty ∧ cl.slots = (xs.map Value.int).toArray
def rdL (xs : List Int32) (j : Int32) : Option Int32 := if j < 0 then none else xs[j.toNatClampNeg]?
def wrL (xs : List Int32) (j v : Int32) : List Int32 := xs.set j.toNatClampNeg v
variable {b : Addr} {xs : List Int32} {j v w : Int32} {ty : FieldType} {h' : Heap}
theorem AV.lt (A : AV Z h b ty xs) : b < h.size := by obtain ⟨cl, A, -⟩ := A; exact A.lt
theorem AV.ext (A : AV Z h b ty xs) (E : Ext h h') : AV Z h' b ty xs := by obtain ⟨cl, A, q⟩ := A; exact ⟨cl, A.ext E, q⟩
theorem AV.other {a : Addr} {sl : Nat} {u : Value} (A : AV Z h b ty xs) (W : Wr h h' a sl u) (q : b ≠ a) : AV Z h' b ty xs := by obtain ⟨cl, A, r⟩ := A; exact ⟨cl, A.other W q, r⟩
theorem AV.keep {ws : List Addr} (A : AV Z h b ty xs) (Kp : Keep h h' ws) (q : b ∉ ws) : AV Z h' b ty xs := by obtain ⟨cl, A, r⟩ := A; exact ⟨cl, ⟨Kp.2.1 b cl A.1 q, A.2⟩, r⟩
theorem AV.same {n : Nat} (A : AV Z h b ty xs) (W : Wr h h' b n (.int v)) : AV Z h' b ty (xs.set n v) := by
  obtain ⟨cl, A, r⟩ := A
  refine ⟨_, A.same W, ?_⟩
  simp only [Cell.setSlot, r, List.setIfInBounds_toArray, List.map_set]
theorem AV.rd (A : AV Z h b ty xs) (hr : rdL xs j = some v) : ∃ cl : Cell, Arr Z h b cl ty ∧ ¬ (j < 0 ∨ cl.slots.size ≤ j.toNatClampNeg) ∧ cl.slots[j.toNatClampNeg]? = some (.int v) := by
  obtain ⟨cl, A, r⟩ := A
  unfold rdL at hr
  split at hr
  · cases hr
  · rename_i hj
    obtain ⟨hlt, hv⟩ := List.getElem?_eq_some_iff.mp hr
    refine ⟨cl, A, ?_, ?_⟩
    · rw [r]; simp only [List.size_toArray, List.length_map]; rintro (q | q)
      · exact hj q
      · omega
    · rw [r]; simp [hlt, hv]
theorem AV.new {cA : ClassId} {n : Int32} (A : Arr Z h b (newA cA .int n) .int) : AV Z h b .int (List.replicate n.toNatClampNeg 0) := ⟨_, A, by simp [newA, defaultValue]⟩
theorem AV.newC {cA : ClassId} {n : Int32} (A : Arr Z h b (newA cA .char n) .char) : AV Z h b .char (List.replicate n.toNatClampNeg 0) := ⟨_, A, by simp [newA, defaultValue]⟩
variable {pc : Nat} {Ls : Array Slot} {rest : List Value}
theorem Go.iaload (X : Stand p l e R s m args below meth c T locs cells slots) (hx : p.tables.exec = Jvm.exec) (hZ : Z.Warmed39 s.vm) (eT : T.heap = h) (A : AV Z h b .int xs) (hr : rdL xs j = some v) (hd : decode c.code pc = .ok (.iaload, 1))
    (k : Go p e below K T (mkF m (pc + 1) Ls (.int v :: rest))) : Go p e below K T (mkF m pc Ls (.int j :: .ref b :: rest)) := by
  obtain ⟨cl, A, h1, h2⟩ := A.rd hr
  exact Go.to (fun t q => X.iaload hx (by rw [eT]; exact A.1) (State.isArrayOf_alike hZ.alike A.2.1) A.2.2 h1 h2 (g := mkF m pc Ls (.int j :: .ref b :: rest)) rfl rfl hd t q) k
theorem Go.caload (X : Stand p l e R s m args below meth c T locs cells slots) (hx : p.tables.exec = Jvm.exec) (hZ : Z.Warmed39 s.vm) (eT : T.heap = h) (A : AV Z h b .char xs) (hr : rdL xs j = some v) (hd : decode c.code pc = .ok (.caload, 1))
    (k : Go p e below K T (mkF m (pc + 1) Ls (.int v :: rest))) : Go p e below K T (mkF m pc Ls (.int j :: .ref b :: rest)) := by
  obtain ⟨cl, A, h1, h2⟩ := A.rd hr
  exact Go.to (fun t q => X.caload hx (by rw [eT]; exact A.1) (State.isArrayOf_alike hZ.alike A.2.1) A.2.2 h1 h2 (g := mkF m pc Ls (.int j :: .ref b :: rest)) rfl rfl hd t q) k
theorem Go.alen (X : Stand p l e R s m args below meth c T locs cells slots) (hx : p.tables.exec = Jvm.exec) (hZ : Z.Warmed39 s.vm) (eT : T.heap = h) (A : AV Z h b ty xs) (hd : decode c.code pc = .ok (.arraylength, 1))
    (k : Go p e below K T (mkF m (pc + 1) Ls (.int xs.length.toInt32 :: rest))) : Go p e below K T (mkF m pc Ls (.ref b :: rest)) := by
  obtain ⟨cl, A, r⟩ := A
  refine Go.to (fun t q => X.arraylength hx (by rw [eT]; exact A.1) (State.isArrayOf_alike hZ.alike A.2.1) (g := mkF m pc Ls (.ref b :: rest)) rfl rfl hd t q) ?_
  simpa [r] using k
theorem Go.iastore (X : Stand p l e R s m args below meth c T locs cells slots) (hx : p.tables.exec = Jvm.exec) (hZ : Z.Warmed39 s.vm) (eT : T.heap = h) (A : AV Z h b .int xs) (hr : rdL xs j = some w) (hd : decode c.code pc = .ok (.iastore, 1))
    (k : ∀ T' h', Stand p l e R s m args below meth c T' (locs ++ [⟨b, j.toNatClampNeg⟩]) cells slots → T'.heap = h' → Wr h h' b j.toNatClampNeg (.int v) → AV Z h' b .int (wrL xs j v) → Go p e below K T' (mkF m (pc + 1) Ls rest)) : Go p e below K T (mkF m pc Ls (.int v :: .int j :: .ref b :: rest)) := by
  obtain ⟨cl, A', h1, h2⟩ := A.rd hr
  obtain ⟨T', h', X', e', W, st⟩ := stI X hx hZ eT A' (j := j) h1 (g := mkF m pc Ls (.int v :: .int j :: .ref b :: rest)) rfl rfl hd
  exact Go.to st (k T' h' X' e' W (A.same W))
theorem Go.castore (X : Stand p l e R s m args below meth c T locs cells slots) (hx : p.tables.exec = Jvm.exec) (hZ : Z.Warmed39 s.vm) (eT : T.heap = h) (A : AV Z h b .char xs) (hr : rdL xs j = some w) (hn : nar .char v = v) (hd : decode c.code pc = .ok (.castore, 1))
    (k : ∀ T' h', Stand p l e R s m args below meth c T' (locs ++ [⟨b, j.toNatClampNeg⟩]) cells slots → T'.heap = h' → Wr h h' b j.toNatClampNeg (.int v) → AV Z h' b .char (wrL xs j v) → Go p e below K T' (mkF m (pc + 1) Ls rest)) : Go p e below K T (mkF m pc Ls (.int v :: .int j :: .ref b :: rest)) := by
  obtain ⟨cl, A', h1, h2⟩ := A.rd hr
  obtain ⟨T', h', X', e', W, st⟩ := stC X hx hZ eT A' (j := j) h1 (g := mkF m pc Ls (.int v :: .int j :: .ref b :: rest)) rfl rfl hd
  rw [hn] at W
  exact Go.to st (k T' h' X' e' W (A.same W))
theorem Go.newI (X : Stand p l e R s m args below meth c T locs cells slots) (hx : p.tables.exec = Jvm.exec) (hZ : Z.Warmed39 s.vm) (wa : (Cond.arrayClass .int).before a0 Z = true) (eT : T.heap = h) (hd : decode c.code pc = .ok (.newarray .int, 2)) {n : Int32} (hn : ¬ n < 0) {cap : Nat} (hcap : n.toNatClampNeg ≤ cap) (hb : cap * 8 ≤ 536870912) (hc : cells + 1 ≤ R.cells) (hl : slots + cap ≤ R.slots)
    (k : ∀ T' h' b, Stand p l e R s m args below meth c T' locs (cells + 1) (slots + cap) → T'.heap = h' → Ext h h' → b = h.size → AV Z h' b .int (List.replicate n.toNatClampNeg 0) → Go p e below K T' (mkF m (pc + 2) Ls (.ref b :: rest))) : Go p e below K T (mkF m pc Ls (.int n :: rest)) := by
  obtain ⟨T', h', cA, X', e', E, A, st⟩ := newP X hx hZ (aty := .int) wa eT (g := mkF m pc Ls (.int n :: rest)) rfl hd rfl hn hcap hb hc hl
  exact Go.to st (k T' h' _ X' e' E rfl (AV.new A))
theorem Go.newC (X : Stand p l e R s m args below meth c T locs cells slots) (hx : p.tables.exec = Jvm.exec) (hZ : Z.Warmed39 s.vm) (wa : (Cond.arrayClass .char).before a0 Z = true) (eT : T.heap = h) (hd : decode c.code pc = .ok (.newarray .char, 2)) {n : Int32} (hn : ¬ n < 0) {cap : Nat} (hcap : n.toNatClampNeg ≤ cap) (hb : cap * 8 ≤ 536870912) (hc : cells + 1 ≤ R.cells) (hl : slots + cap ≤ R.slots)
    (k : ∀ T' h' b, Stand p l e R s m args below meth c T' locs (cells + 1) (slots + cap) → T'.heap = h' → Ext h h' → b = h.size → AV Z h' b .char (List.replicate n.toNatClampNeg 0) → Go p e below K T' (mkF m (pc + 2) Ls (.ref b :: rest))) : Go p e below K T (mkF m pc Ls (.int n :: rest)) := by
  obtain ⟨T', h', cA, X', e', E, A, st⟩ := newP X hx hZ (aty := .char) wa eT (g := mkF m pc Ls (.int n :: rest)) rfl hd rfl hn hcap hb hc hl
  exact Go.to st (k T' h' _ X' e' E rfl (AV.newC A))
theorem frOne {k n : Nat} {L : List Loc} (N : Fr k L) (q : k ≤ b) : Fr k (L ++ [⟨b, n⟩]) := N.app fun y hy => by cases List.mem_singleton.mp hy; exact q
end OwnKit
/-! OWN KIT, second part: an object by its fields nF (name, descriptor) and their values vs, with its int arrays at ad and what they hold -/
section OwnObj
variable {p : Program} {l : Launch} {e : Env} {R : Room} {s : State} {m : MethodId} {args : Array Value} {below : List Frame} {meth : Method} {c : Code} {T : State} {locs : List Loc} {cells slots : Nat} {Z : State} {a0 : Array Value} {h h' hb : Heap} {K : Outcome → State → Prop}
variable {n0 : Nat} {a b : Addr} {C : String} {nF : List (String × String)} {f : String × String} {vs : List Value} {ad : List Addr} {xs : List (List Int32)} {k n : Nat} {u : Value} {v j w : Int32} {x : List Int32}
def Obj (Z : State) (n0 : Nat) (hb h : Heap) (a : Addr) (C : String) (nF : List (String × String)) (vs : List Value) (ad : List Addr) (xs : List (List Int32)) : Prop :=
  Exa Z h a C ∧ n0 ≤ a ∧ (∀ b ∈ ad, n0 ≤ b) ∧ ad.Nodup ∧ a ∉ ad ∧ Keep hb h (a :: ad) ∧ ad.length = xs.length ∧
  (∀ (k : Nat) (f : String × String) (v : Value), nF[k]? = some f → vs[k]? = some v → Fld Z h a C f.1 f.2 v) ∧
  (∀ (k : Nat) (b : Addr) (x : List Int32), ad[k]? = some b → xs[k]? = some x → AV Z h b .int x)
def Lay (Z : State) (C : String) (nF : List (String × String)) : Prop :=
  ∀ (k : Nat) (f : String × String) (k' : Nat) (f' : String × String), nF[k]? = some f → nF[k']? = some f' → k ≠ k' → Jvm.RoadKit.slotOf Z C f'.1 f'.2 ≠ Jvm.RoadKit.slotOf Z C f.1 f.2
theorem lay_of (hL : ∀ q ∈ nF, Laid Z a0 C C q.1 q.2) (hp : ∀ q ∈ nF, (parseFieldDescriptor q.2).isSome = true) (hd : (nF.map (·.1)).Nodup) : Lay Z C nF := by
  intro k f k' f' h1 h2 hne
  obtain ⟨t1, e1⟩ := Option.isSome_iff_exists.mp (hp _ (List.mem_of_getElem? h1))
  obtain ⟨t2, e2⟩ := Option.isSome_iff_exists.mp (hp _ (List.mem_of_getElem? h2))
  refine Jvm.RoadKit.slot_ne (hL _ (List.mem_of_getElem? h2)) (hL _ (List.mem_of_getElem? h1)) (fun q => hne ?_) e2 e1
  have g1 : (nF.map (·.1))[k]? = some f.1 := by rw [List.getElem?_map, h1]; rfl
  have g2 : (nF.map (·.1))[k']? = some f'.1 := by rw [List.getElem?_map, h2]; rfl
  obtain ⟨l1, r1⟩ := List.getElem?_eq_some_iff.mp g1
  obtain ⟨l2, r2⟩ := List.getElem?_eq_some_iff.mp g2
  exact (List.getElem_inj hd).mp (r1.trans (q.symm.trans r2.symm))
theorem Obj.exa (O : Obj Z n0 hb h a C nF vs ad xs) : Exa Z h a C := O.1
theorem Obj.ge (O : Obj Z n0 hb h a C nF vs ad xs) : n0 ≤ a := O.2.1
theorem Obj.ges (O : Obj Z n0 hb h a C nF vs ad xs) (hk : ad[k]? = some b) : n0 ≤ b := O.2.2.1 b (List.mem_of_getElem? hk)
theorem Obj.kept (O : Obj Z n0 hb h a C nF vs ad xs) : Keep hb h (a :: ad) := O.2.2.2.2.2.1
theorem Obj.fld (O : Obj Z n0 hb h a C nF vs ad xs) (h1 : nF[k]? = some f) (h2 : vs[k]? = some u) : Fld Z h a C f.1 f.2 u := O.2.2.2.2.2.2.2.1 k f u h1 h2
theorem Obj.av (O : Obj Z n0 hb h a C nF vs ad xs) (h1 : ad[k]? = some b) (h2 : xs[k]? = some x) : AV Z h b .int x := O.2.2.2.2.2.2.2.2 k b x h1 h2
theorem Obj.ne (O : Obj Z n0 hb h a C nF vs ad xs) (hk : ad[k]? = some b) : b ≠ a := fun q => O.2.2.2.2.1 (q ▸ List.mem_of_getElem? hk)
theorem Obj.size (O : Obj Z n0 hb h a C nF vs ad xs) : hb.size ≤ h.size := O.kept.1
theorem Obj.lt (O : Obj Z n0 hb h a C nF vs ad xs) : n0 ≤ h.size := Nat.le_trans O.ge (Nat.le_of_lt O.exa.lt)
theorem Obj.lts (O : Obj Z n0 hb h a C nF vs ad xs) (hb' : b ∈ ad) : b < h.size := by
  obtain ⟨k, hk⟩ := List.getElem?_of_mem hb'
  have hlen := O.2.2.2.2.2.2.1
  obtain ⟨l1, -⟩ := List.getElem?_eq_some_iff.mp hk
  exact (O.av hk (List.getElem?_eq_getElem (hlen ▸ l1))).lt
theorem Obj.start (E : Exa Z h a C) (g : n0 ≤ a) (F : ∀ (k : Nat) (f : String × String) (v : Value), nF[k]? = some f → vs[k]? = some v → Fld Z h a C f.1 f.2 v) : Obj Z n0 h h a C nF vs [] [] :=
  ⟨E, g, fun _ q => absurd q List.not_mem_nil, List.nodup_nil, List.not_mem_nil, Keep.refl _ _, rfl, F, fun k b x q => by simp at q⟩
theorem Obj.born (E : Exa Z h a C) (g : n0 ≤ a) (D : ∀ {O nm d : String} {ty : FieldType}, Laid Z a0 C O nm d → parseFieldDescriptor d = some ty → Fld Z h a O nm d (defaultValue ty)) (hL : ∀ q ∈ nF, Laid Z a0 C C q.1 q.2) (hp : ∀ q ∈ nF, (parseFieldDescriptor q.2).isSome = true)
    (hv : vs = nF.map fun q => ((parseFieldDescriptor q.2).map defaultValue).getD .null) : Obj Z n0 h h a C nF vs [] [] := by
  refine Obj.start E g fun k f v h1 h2 => ?_
  rw [hv, List.getElem?_map, h1] at h2
  obtain ⟨t, et⟩ := Option.isSome_iff_exists.mp (hp _ (List.mem_of_getElem? h1))
  simp [et] at h2
  rw [← h2]
  exact D (hL _ (List.mem_of_getElem? h1)) et
theorem Obj.put (O : Obj Z n0 hb h a C nF vs ad xs) (L : Lay Z C nF) (hk : nF[k]? = some f) (W : Wr h h' a (Jvm.RoadKit.slotOf Z C f.1 f.2) u) : Obj Z n0 hb h' a C nF (vs.set k u) ad xs := by
  have O' := O
  obtain ⟨o1, o2, o3, o4, o5, o6, o7, o8, o9⟩ := O
  refine ⟨o1.wr W, o2, o3, o4, o5, o6.wr W (Or.inl (List.mem_cons_self ..)), o7, fun k' f' v' h1 h2 => ?_, fun k' b x h1 h2 => ?_⟩
  · by_cases q : k = k'
    · subst q
      cases hk.symm.trans h1
      rw [List.getElem?_set_self'] at h2
      cases h3 : vs[k]? with
      | none => simp [h3] at h2
      | some w =>
        simp [h3] at h2
        subst h2
        exact (o8 k f w hk h3).same W
    · rw [List.getElem?_set_ne q] at h2
      exact (o8 k' f' v' h1 h2).other W (Or.inr (L k f k' f' hk h1 q))
  · exact (o9 k' b x h1 h2).other W (O'.ne h1)
theorem Obj.putA (O : Obj Z n0 hb h a C nF vs ad xs) (hk : ad[k]? = some b) (hx : xs[k]? = some x) (W : Wr h h' b n (.int v)) : Obj Z n0 hb h' a C nF vs ad (xs.set k (x.set n v)) := by
  have O' := O
  obtain ⟨o1, o2, o3, o4, o5, o6, o7, o8, o9⟩ := O
  refine ⟨o1.wr W, o2, o3, o4, o5, o6.wr W (Or.inl (List.mem_cons_of_mem _ (List.mem_of_getElem? hk))), by rw [List.length_set]; exact o7, fun k' f' v' h1 h2 => ?_, fun k' b' x' h1 h2 => ?_⟩
  · exact (o8 k' f' v' h1 h2).other W (Or.inl (O'.ne hk).symm)
  · by_cases q : k = k'
    · subst q
      cases hk.symm.trans h1
      rw [List.getElem?_set_self', hx] at h2
      simp at h2
      subst h2
      exact (o9 k b x hk hx).same W
    · rw [List.getElem?_set_ne q] at h2
      refine (o9 k' b' x' h1 h2).other W fun r => q ?_
      obtain ⟨l1, e1⟩ := List.getElem?_eq_some_iff.mp hk
      obtain ⟨l2, e2⟩ := List.getElem?_eq_some_iff.mp h1
      exact (List.getElem_inj o4).mp (e1.trans (r.symm.trans e2.symm))
theorem Obj.rebase {hb' : Heap} (O : Obj Z n0 hb h a C nF vs ad xs) (Kp : Keep hb' hb (a :: ad)) : Obj Z n0 hb' h a C nF vs ad xs := by
  obtain ⟨o1, o2, o3, o4, o5, o6, o7, o8, o9⟩ := O
  exact ⟨o1, o2, o3, o4, o5, Kp.trans o6 (fun x hx => Or.inl hx), o7, o8, o9⟩
theorem Obj.anew (O : Obj Z n0 hb h a C nF vs ad xs) : Obj Z n0 h h a C nF vs ad xs := by
  obtain ⟨o1, o2, o3, o4, o5, o6, o7, o8, o9⟩ := O
  exact ⟨o1, o2, o3, o4, o5, Keep.refl _ _, o7, o8, o9⟩
theorem Obj.ext (O : Obj Z n0 hb h a C nF vs ad xs) (E : Ext h h') : Obj Z n0 hb h' a C nF vs ad xs := by
  obtain ⟨o1, o2, o3, o4, o5, o6, o7, o8, o9⟩ := O
  exact ⟨o1.ext E, o2, o3, o4, o5, o6.ext E, o7, fun k f v h1 h2 => (o8 k f v h1 h2).ext E, fun k b x h1 h2 => (o9 k b x h1 h2).ext E⟩
theorem Obj.more (O : Obj Z n0 hb h a C nF vs ad xs) (E : Ext h h') (q : b = h.size) (A : AV Z h' b .int x) : Obj Z n0 hb h' a C nF vs (ad ++ [b]) (xs ++ [x]) := by
  have O' := O
  obtain ⟨o1, o2, o3, o4, o5, o6, o7, o8, o9⟩ := O
  refine ⟨o1.ext E, o2, fun b' hb' => ?_, ?_, fun r => ?_, ?_, by simp [o7], fun k f v h1 h2 => (o8 k f v h1 h2).ext E, fun k' b' x' h1 h2 => ?_⟩
  · rcases List.mem_append.mp hb' with r | r
    · exact o3 _ r
    · cases List.mem_singleton.mp r; rw [q]; exact O'.lt
  · rw [List.nodup_append]
    refine ⟨o4, by simp, fun y hy z hz => ?_⟩
    cases List.mem_singleton.mp hz
    rw [q]; exact Nat.ne_of_lt (O'.lts hy)
  · rcases List.mem_append.mp r with r | r
    · exact o5 r
    · have r1 := List.mem_singleton.mp r
      have r2 := o1.lt
      rw [r1, q] at r2
      exact Nat.lt_irrefl _ r2
  · have Kp := o6.ext E
    exact ⟨Kp.1, fun x c h1 h2 => Kp.2.1 x c h1 (fun r => h2 (by simp only [List.mem_cons, List.mem_append] at r ⊢; rcases r with r | r <;> simp [r])), Kp.2.2⟩
  · rcases Nat.lt_trichotomy k' ad.length with r | r | r
    · rw [List.getElem?_append_left r] at h1
      rw [List.getElem?_append_left (o7 ▸ r)] at h2
      exact (o9 k' b' x' h1 h2).ext E
    · subst r
      rw [List.getElem?_append_right (Nat.le_refl _)] at h1
      rw [List.getElem?_append_right (Nat.le_of_eq o7.symm), o7] at h2
      simp at h1 h2
      subst h1 h2
      exact A
    · rw [List.getElem?_append_right (Nat.le_of_lt r), List.getElem?_eq_none (by simp; omega)] at h1
      cases h1
theorem Obj.over {ws : List Addr} (O : Obj Z n0 hb h a C nF vs ad xs) (Kp : Keep h h' ws) (h1 : a ∉ ws) (h2 : ∀ b ∈ ad, b ∉ ws) : Obj Z n0 h' h' a C nF vs ad xs := by
  obtain ⟨o1, o2, o3, o4, o5, o6, o7, o8, o9⟩ := O
  exact ⟨o1.keep Kp, o2, o3, o4, o5, Keep.refl _ _, o7, fun k f v q1 q2 => (o8 k f v q1 q2).keep Kp h1, fun k b x q1 q2 => (o9 k b x q1 q2).keep Kp (h2 b (List.mem_of_getElem? q1))⟩
/-- a write elsewhere -/
theorem Obj.other {a' : Addr} {sl : Nat} {u : Value} (O : Obj Z n0 hb h a C nF vs ad xs) (W : Wr h h' a' sl u) (hf : hb.size ≤ a') (h1 : a ≠ a') (h2 : a' ∉ ad) : Obj Z n0 hb h' a C nF vs ad xs := by
  obtain ⟨o1, o2, o3, o4, o5, o6, o7, o8, o9⟩ := O
  exact ⟨o1.wr W, o2, o3, o4, o5, o6.wr W (Or.inr hf), o7, fun k f v q1 q2 => (o8 k f v q1 q2).other W (Or.inl h1), fun k b x q1 q2 => (o9 k b x q1 q2).other W (fun q => h2 (q ▸ List.mem_of_getElem? q1))⟩
variable {pc : Nat} {Ls : Array Slot} {rest : List Value} {own : String} {index kk : Nat} {ty : FieldType}
theorem Go.oget (X : Stand p l e R s m args below meth c T locs cells slots) (hx : p.tables.exec = Jvm.exec) (hZ : Z.Warmed39 s.vm) (hown : s.vm.findClass own = some m.cls) (wl : (Cond.fieldLink own index C f.1 f.2).before a0 Z = true) (eT : T.heap = h) (O : Obj Z n0 hb h a C nF vs ad xs) (h1 : nF[k]? = some f) (h2 : vs[k]? = some u)
    (hd : decode c.code pc = .ok (.getfield index, 3)) (kc : ∀ T', Stand p l e R s m args below meth c T' locs cells slots → T'.heap = h → Go p e below K T' (mkF m (pc + 3) Ls (u :: rest))) : Go p e below K T (mkF m pc Ls (.ref a :: rest)) := by
  obtain ⟨T', X', e', st⟩ := getF X hx hZ hown (host := "") (Or.inl wl) Via.refl eT (O.fld h1 h2) (g := mkF m pc Ls (.ref a :: rest)) rfl rfl hd
  exact Go.to st (kc T' X' e')
theorem Go.oput (X : Stand p l e R s m args below meth c T locs cells slots) (hx : p.tables.exec = Jvm.exec) (hZ : Z.Warmed39 s.vm) (hown : s.vm.findClass own = some m.cls) (wl : (Cond.fieldLink own index C f.1 f.2).before a0 Z = true) (eT : T.heap = h) (N : Fr n0 locs) (O : Obj Z n0 hb h a C nF vs ad xs) (L : Lay Z C nF) (h1 : nF[k]? = some f) {u0 : Value} (h2 : vs[k]? = some u0)
    (wy : (Cond.lays C C f.1 f.2).before a0 Z = true ∨ ((Cond.laysFinal C C f.1 f.2).before a0 Z = true ∧ own = C ∧ meth.name = "<init>")) (wi : (Cond.instantiable C kk).before a0 Z = true) (hty : parseFieldDescriptor f.2 = some ty) (hn : narrow ty u = u) (hft : fits ty u = true) (hd : decode c.code pc = .ok (.putfield index, 3))
    (kc : ∀ T' h' locs', Stand p l e R s m args below meth c T' locs' cells slots → T'.heap = h' → Fr n0 locs' → Obj Z n0 hb h' a C nF (vs.set k u) ad xs → Go p e below K T' (mkF m (pc + 3) Ls rest)) : Go p e below K T (mkF m pc Ls (u :: .ref a :: rest)) := by
  obtain ⟨T', h', X', e', W, st⟩ := putF X hx hZ hown (host := "") (Or.inl wl) Via.refl eT (O.fld h1 h2) O.exa wy wi hty hn hft (g := mkF m pc Ls (u :: .ref a :: rest)) rfl rfl hd
  exact Go.to st (kc T' h' _ X' e' (frOne N O.ge) (O.put L h1 W))
theorem Go.oload (X : Stand p l e R s m args below meth c T locs cells slots) (hx : p.tables.exec = Jvm.exec) (hZ : Z.Warmed39 s.vm) (eT : T.heap = h) (O : Obj Z n0 hb h a C nF vs ad xs) (h1 : ad[k]? = some b) (h2 : xs[k]? = some x) (hr : rdL x j = some v) (hd : decode c.code pc = .ok (.iaload, 1))
    (kc : Go p e below K T (mkF m (pc + 1) Ls (.int v :: rest))) : Go p e below K T (mkF m pc Ls (.int j :: .ref b :: rest)) := Go.iaload X hx hZ eT (O.av h1 h2) hr hd kc
theorem Go.ostore (X : Stand p l e R s m args below meth c T locs cells slots) (hx : p.tables.exec = Jvm.exec) (hZ : Z.Warmed39 s.vm) (eT : T.heap = h) (N : Fr n0 locs) (O : Obj Z n0 hb h a C nF vs ad xs) (h1 : ad[k]? = some b) (h2 : xs[k]? = some x) (hr : rdL x j = some w) (hd : decode c.code pc = .ok (.iastore, 1))
    (kc : ∀ T' h' locs', Stand p l e R s m args below meth c T' locs' cells slots → T'.heap = h' → Fr n0 locs' → Obj Z n0 hb h' a C nF vs ad (xs.set k (wrL x j v)) → Go p e below K T' (mkF m (pc + 1) Ls rest)) : Go p e below K T (mkF m pc Ls (.int v :: .int j :: .ref b :: rest)) :=
  Go.iastore X hx hZ eT (O.av h1 h2) hr hd fun T' h' X' e' W _ => kc T' h' _ X' e' (frOne N (O.ges h1)) (O.putA h1 h2 W)
theorem Go.onew (X : Stand p l e R s m args below meth c T locs cells slots) (hx : p.tables.exec = Jvm.exec) (hZ : Z.Warmed39 s.vm) (wa : (Cond.arrayClass .int).before a0 Z = true) (eT : T.heap = h) (O : Obj Z n0 hb h a C nF vs ad xs) (hd : decode c.code pc = .ok (.newarray .int, 2)) {n : Int32} (hn : ¬ n < 0) {cap : Nat} (hcap : n.toNatClampNeg ≤ cap) (hbig : cap * 8 ≤ 536870912) (hc : cells + 1 ≤ R.cells) (hl : slots + cap ≤ R.slots)
    (kc : ∀ T' h' b, Stand p l e R s m args below meth c T' locs (cells + 1) (slots + cap) → T'.heap = h' → Obj Z n0 hb h' a C nF vs (ad ++ [b]) (xs ++ [List.replicate n.toNatClampNeg 0]) → Go p e below K T' (mkF m (pc + 2) Ls (.ref b :: rest))) : Go p e below K T (mkF m pc Ls (.int n :: rest)) :=
  Go.newI X hx hZ wa eT hd hn hcap hbig hc hl fun T' h' b X' e' E q A => kc T' h' b X' e' (O.more E q A)
end OwnObj
def QP (r : Value) (h0 : Heap) : Option Value → Heap → List Loc → Prop := fun v h L => v = some r ∧ h = h0 ∧ L = []
theorem pd_0 : parseMethodDescriptor "(I)V" = some ⟨[.int], none⟩ := by decide +kernel
theorem pd_1 : parseMethodDescriptor "()V" = some ⟨[], none⟩ := by decide +kernel
theorem pd_2 : parseMethodDescriptor "()I" = some ⟨[], some .int⟩ := by decide +kernel
theorem pd_3 : parseMethodDescriptor "(I)I" = some ⟨[.int], some .int⟩ := by decide +kernel
theorem pd_4 : parseMethodDescriptor "(IIZIZIZIZ)Z" = some ⟨[.int, .int, .boolean, .int, .boolean, .int, .boolean, .int, .boolean], some .boolean⟩ := by decide +kernel
theorem pd_5 : parseMethodDescriptor "(Lcom/example/tracegauge/tracegauge/automata/Partition;IIZII)Z" = some ⟨[(.object "com/example/tracegauge/tracegauge/automata/Partition"), .int, .int, .boolean, .int, .int], some .boolean⟩ := by decide +kernel
theorem dupX2 {tb : Tables} [Ours tb] {e : Env} {below : List Frame} {T target : State} {m : MethodId} {c : Code} {g : JFrame} (h : At T m c below) (hx : tb.exec = Jvm.exec) (hg : g.method = m) {x y z : Value} {rest : List Value} (hd : decode c.code g.pc = .ok (.dup_x2, 1)) (hs : g.stack = x :: y :: z :: rest) (hc : x.category = 1) (hc' : y.category = 1) (hc'' : z.category = 1)
    (hr : Steps tb e below (T.setTop { g with pc := g.pc + 1, stack := x :: y :: z :: x :: rest }) target) : Steps tb e below (T.setTop g) target := by
  subst hg
  jvm_step h [h.top, hx, hd, hs, hc, hc', hc'']
  exact hr
def nFp : List (String × String) := [("elements", "[I"), ("positions", "[I"), ("sets", "[I"), ("first", "[I"), ("end", "[I"), ("marked", "[I"), ("touched", "[I"), ("touchedCount", "I"), ("setCount", "I")]
theorem laidp {Z : State} {a0 : Array Value} (hw : ∀ d ∈ tables_1, d.before a0 Z = true) : ∀ q ∈ nFp, Laid Z a0 "com/example/tracegauge/tracegauge/automata/Partition" "com/example/tracegauge/tracegauge/automata/Partition" q.1 q.2 := by
  intro q hq
  simp only [nFp, List.mem_cons, List.not_mem_nil, or_false] at hq
  rcases hq with rfl | rfl | rfl | rfl | rfl | rfl | rfl | rfl | rfl
  · exact Or.inr (hw _ (List.mem_of_getElem? (i := 12) rfl))
  · exact Or.inr (hw _ (List.mem_of_getElem? (i := 14) rfl))
  · exact Or.inr (hw _ (List.mem_of_getElem? (i := 16) rfl))
  · exact Or.inr (hw _ (List.mem_of_getElem? (i := 18) rfl))
  · exact Or.inr (hw _ (List.mem_of_getElem? (i := 20) rfl))
  · exact Or.inr (hw _ (List.mem_of_getElem? (i := 22) rfl))
  · exact Or.inr (hw _ (List.mem_of_getElem? (i := 24) rfl))
  · exact Or.inl (hw _ (List.mem_of_getElem? (i := 33) rfl))
  · exact Or.inl (hw _ (List.mem_of_getElem? (i := 26) rfl))
theorem layp {Z : State} {a0 : Array Value} (hw : ∀ d ∈ tables_1, d.before a0 Z = true) : Lay Z "com/example/tracegauge/tracegauge/automata/Partition" nFp := lay_of (laidp hw) (by decide +kernel) (by decide +kernel)
def iniF : Nat → Int32 → Int32 → List Int32 → List Int32 → Option (List Int32 × List Int32)
  | 0, _, _, _, _ => none
  | k + 1, n, i, el, po => if i < n then (rdL el i).bind fun _ => (rdL po i).bind fun _ => iniF k n (i + (1 : Int32)) (wrL el i i) (wrL po i i) else some (el, po)
theorem d1_0 : decode prog_27_method_1_code 0 = .ok (.aload_n 0, 1) := by decide +kernel
theorem d1_1 : decode prog_27_method_1_code 1 = .ok (.invokespecial 1, 3) := by decide +kernel
theorem d1_4 : decode prog_27_method_1_code 4 = .ok (.aload_n 0, 1) := by decide +kernel
theorem d1_5 : decode prog_27_method_1_code 5 = .ok (.iload_n 1, 1) := by decide +kernel
theorem d1_6 : decode prog_27_method_1_code 6 = .ok (.newarray .int, 2) := by decide +kernel
theorem d1_8 : decode prog_27_method_1_code 8 = .ok (.putfield 7, 3) := by decide +kernel
theorem d1_11 : decode prog_27_method_1_code 11 = .ok (.aload_n 0, 1) := by decide +kernel
theorem d1_12 : decode prog_27_method_1_code 12 = .ok (.iload_n 1, 1) := by decide +kernel
theorem d1_13 : decode prog_27_method_1_code 13 = .ok (.newarray .int, 2) := by decide +kernel
theorem d1_15 : decode prog_27_method_1_code 15 = .ok (.putfield 13, 3) := by decide +kernel
theorem d1_18 : decode prog_27_method_1_code 18 = .ok (.aload_n 0, 1) := by decide +kernel
theorem d1_19 : decode prog_27_method_1_code 19 = .ok (.iload_n 1, 1) := by decide +kernel
theorem d1_20 : decode prog_27_method_1_code 20 = .ok (.newarray .int, 2) := by decide +kernel
theorem d1_22 : decode prog_27_method_1_code 22 = .ok (.putfield 16, 3) := by decide +kernel
theorem d1_25 : decode prog_27_method_1_code 25 = .ok (.iconst 0, 1) := by decide +kernel
theorem d1_26 : decode prog_27_method_1_code 26 = .ok (.istore_n 2, 1) := by decide +kernel
theorem d1_27 : decode prog_27_method_1_code 27 = .ok (.iload_n 2, 1) := by decide +kernel
theorem d1_28 : decode prog_27_method_1_code 28 = .ok (.iload_n 1, 1) := by decide +kernel
theorem d1_29 : decode prog_27_method_1_code 29 = .ok (.if_icmp .ge 23, 3) := by decide +kernel
theorem d1_32 : decode prog_27_method_1_code 32 = .ok (.aload_n 0, 1) := by decide +kernel
theorem d1_33 : decode prog_27_method_1_code 33 = .ok (.getfield 7, 3) := by decide +kernel
theorem d1_36 : decode prog_27_method_1_code 36 = .ok (.iload_n 2, 1) := by decide +kernel
theorem d1_37 : decode prog_27_method_1_code 37 = .ok (.iload_n 2, 1) := by decide +kernel
theorem d1_38 : decode prog_27_method_1_code 38 = .ok (.iastore, 1) := by decide +kernel
theorem d1_39 : decode prog_27_method_1_code 39 = .ok (.aload_n 0, 1) := by decide +kernel
theorem d1_40 : decode prog_27_method_1_code 40 = .ok (.getfield 13, 3) := by decide +kernel
theorem d1_43 : decode prog_27_method_1_code 43 = .ok (.iload_n 2, 1) := by decide +kernel
theorem d1_44 : decode prog_27_method_1_code 44 = .ok (.iload_n 2, 1) := by decide +kernel
theorem d1_45 : decode prog_27_method_1_code 45 = .ok (.iastore, 1) := by decide +kernel
theorem d1_46 : decode prog_27_method_1_code 46 = .ok (.iinc 2 1, 3) := by decide +kernel
theorem d1_49 : decode prog_27_method_1_code 49 = .ok (.goto (-22), 3) := by decide +kernel
theorem d1_52 : decode prog_27_method_1_code 52 = .ok (.aload_n 0, 1) := by decide +kernel
theorem d1_53 : decode prog_27_method_1_code 53 = .ok (.iload_n 1, 1) := by decide +kernel
theorem d1_54 : decode prog_27_method_1_code 54 = .ok (.newarray .int, 2) := by decide +kernel
theorem d1_56 : decode prog_27_method_1_code 56 = .ok (.putfield 19, 3) := by decide +kernel
theorem d1_59 : decode prog_27_method_1_code 59 = .ok (.aload_n 0, 1) := by decide +kernel
theorem d1_60 : decode prog_27_method_1_code 60 = .ok (.iload_n 1, 1) := by decide +kernel
theorem d1_61 : decode prog_27_method_1_code 61 = .ok (.newarray .int, 2) := by decide +kernel
theorem d1_63 : decode prog_27_method_1_code 63 = .ok (.putfield 22, 3) := by decide +kernel
theorem d1_66 : decode prog_27_method_1_code 66 = .ok (.aload_n 0, 1) := by decide +kernel
theorem d1_67 : decode prog_27_method_1_code 67 = .ok (.iload_n 1, 1) := by decide +kernel
theorem d1_68 : decode prog_27_method_1_code 68 = .ok (.newarray .int, 2) := by decide +kernel
theorem d1_70 : decode prog_27_method_1_code 70 = .ok (.putfield 25, 3) := by decide +kernel
theorem d1_73 : decode prog_27_method_1_code 73 = .ok (.aload_n 0, 1) := by decide +kernel
theorem d1_74 : decode prog_27_method_1_code 74 = .ok (.iload_n 1, 1) := by decide +kernel
theorem d1_75 : decode prog_27_method_1_code 75 = .ok (.newarray .int, 2) := by decide +kernel
theorem d1_77 : decode prog_27_method_1_code 77 = .ok (.putfield 28, 3) := by decide +kernel
theorem d1_80 : decode prog_27_method_1_code 80 = .ok (.iload_n 1, 1) := by decide +kernel
theorem d1_81 : decode prog_27_method_1_code 81 = .ok (.ifCond .le 15, 3) := by decide +kernel
theorem d1_84 : decode prog_27_method_1_code 84 = .ok (.aload_n 0, 1) := by decide +kernel
theorem d1_85 : decode prog_27_method_1_code 85 = .ok (.getfield 22, 3) := by decide +kernel
theorem d1_88 : decode prog_27_method_1_code 88 = .ok (.iconst 0, 1) := by decide +kernel
theorem d1_89 : decode prog_27_method_1_code 89 = .ok (.iload_n 1, 1) := by decide +kernel
theorem d1_90 : decode prog_27_method_1_code 90 = .ok (.iastore, 1) := by decide +kernel
theorem d1_91 : decode prog_27_method_1_code 91 = .ok (.aload_n 0, 1) := by decide +kernel
theorem d1_92 : decode prog_27_method_1_code 92 = .ok (.iconst 1, 1) := by decide +kernel
theorem d1_93 : decode prog_27_method_1_code 93 = .ok (.putfield 31, 3) := by decide +kernel
theorem d1_96 : decode prog_27_method_1_code 96 = .ok (.return_, 1) := by decide +kernel
theorem ef_rm1 (m : MethodId) (a1 : Addr) (p2 : Int32) : entryFrame m #[(.ref a1), (.int p2)] 3 = mkF m 0 #[.val (.ref a1), .val (.int p2), .unset] [] := by first | (simp [entryFrame, mkF, argsToLocals, Value.category]; done) | rfl
set_option maxHeartbeats 40000000 in
theorem rm1 (l : Launch) (Z : State) (a0 : Array Value) (hw : ∀ d ∈ tables_1, d.before a0 Z = true) (ws : List Jvm.Cond) (a1 : Addr) (p2 : Int32) (h0 : Heap) (n0 : Nat) (O : Obj Z n0 h0 h0 a1 "com/example/tracegauge/tracegauge/automata/Partition" nFp [.null, .null, .null, .null, .null, .null, .null, .int 0, .int 0] [] []) (hn : ¬ p2 < 0) (hcap : p2.toNatClampNeg ≤ 4) (hpos : (0 : Int32) < p2) (fuel : Nat) (el' po' : List Int32) (hf : iniF fuel p2 0 (List.replicate (p2).toNatClampNeg (0 : Int32)) (List.replicate (p2).toNatClampNeg (0 : Int32)) = some (el', po')) (w : Int32) (he : rdL (List.replicate (p2).toNatClampNeg (0 : Int32)) (0 : Int32) = some w) :
    Met1 l Z (⟨"com/example/tracegauge/tracegauge/automata/Partition", "<init>", "(I)V"⟩ : MethodName) prog_27_method_1_code 3 none ws ({ frames := 1, cells := 7, slots := 28, locals := 12 } : Room) #[(.ref a1), (.int p2)] h0 (fun v h L => v = none ∧ Fr n0 L ∧ ∃ b0 b1 b2 b3 b4 b5 b6, Obj Z n0 h0 h a1 "com/example/tracegauge/tracegauge/automata/Partition" nFp [.ref b0, .ref b1, .ref b2, .ref b3, .ref b4, .ref b5, .ref b6, .int (0 : Int32), .int (1 : Int32)] [b0, b1, b2, b3, b4, b5, b6] [el', po', (List.replicate (p2).toNatClampNeg (0 : Int32)), (List.replicate (p2).toNatClampNeg (0 : Int32)), (wrL (List.replicate (p2).toNatClampNeg (0 : Int32)) (0 : Int32) p2), (List.replicate (p2).toNatClampNeg (0 : Int32)), (List.replicate (p2).toNatClampNeg (0 : Int32))]) := by
  refine metOf (by first | exact plainFor_of_name (by first | (simp [plainName, overriddenIn]; done) | decide +kernel) | decide +kernel) ?_
  intro p e s m below meth c s₁ hx hby hml hown hnm hret hlk hZ X0 e0
  have hown : s.vm.findClass "com/example/tracegauge/tracegauge/automata/Partition" = some m.cls := hown
  obtain ⟨K, hK⟩ : ∃ K, K = KQ s (fun v h L => v = none ∧ Fr n0 L ∧ ∃ b0 b1 b2 b3 b4 b5 b6, Obj Z n0 h0 h a1 "com/example/tracegauge/tracegauge/automata/Partition" nFp [.ref b0, .ref b1, .ref b2, .ref b3, .ref b4, .ref b5, .ref b6, .int (0 : Int32), .int (1 : Int32)] [b0, b1, b2, b3, b4, b5, b6] [el', po', (List.replicate (p2).toNatClampNeg (0 : Int32)), (List.replicate (p2).toNatClampNeg (0 : Int32)), (wrL (List.replicate (p2).toNatClampNeg (0 : Int32)) (0 : Int32) p2), (List.replicate (p2).toNatClampNeg (0 : Int32)), (List.replicate (p2).toNatClampNeg (0 : Int32))]) (({ frames := 1, cells := 7, slots := 28, locals := 12 } : Room)).cells (({ frames := 1, cells := 7, slots := 28, locals := 12 } : Room)).slots := ⟨_, rfl⟩
  show Go p e below (KQ s (fun v h L => v = none ∧ Fr n0 L ∧ ∃ b0 b1 b2 b3 b4 b5 b6, Obj Z n0 h0 h a1 "com/example/tracegauge/tracegauge/automata/Partition" nFp [.ref b0, .ref b1, .ref b2, .ref b3, .ref b4, .ref b5, .ref b6, .int (0 : Int32), .int (1 : Int32)] [b0, b1, b2, b3, b4, b5, b6] [el', po', (List.replicate (p2).toNatClampNeg (0 : Int32)), (List.replicate (p2).toNatClampNeg (0 : Int32)), (wrL (List.replicate (p2).toNatClampNeg (0 : Int32)) (0 : Int32) p2), (List.replicate (p2).toNatClampNeg (0 : Int32)), (List.replicate (p2).toNatClampNeg (0 : Int32))]) (({ frames := 1, cells := 7, slots := 28, locals := 12 } : Room)).cells (({ frames := 1, cells := 7, slots := 28, locals := 12 } : Room)).slots) s₁ (entryFrame m #[(.ref a1), (.int p2)] 3)
  rw [← hK, ef_rm1 m a1 p2]
  show Go p e below _ s₁ (mkF m 0 #[.val (.ref a1), .val (.int p2), .unset] [])
  refine Go.to (fun _ => XS.aloadN X0.here hx rfl (hb hby d1_0) rfl rfl) ?_
  show Go p e below _ s₁ (mkF m 1 #[.val (.ref a1), .val (.int p2), .unset] [(.ref a1)])
  obtain ⟨T1, X1, e1, st1⟩ := initO X0 hx hZ hown (hw _ (List.mem_of_getElem? (i := 7) rfl)) (hw _ (List.mem_of_getElem? (i := 8) rfl)) (hw _ (List.mem_of_getElem? (i := 9) rfl)) e0 (g := (mkF m 1 #[.val (.ref a1), .val (.int p2), .unset] [(.ref a1)])) rfl (by rw [hml]; rfl) rfl (hb hby d1_1) (by decide) (W := 0) (by show 2 * 0 + _ ≤ _; exact Nat.le_of_eq rfl) (by decide)
  refine Go.to st1 ?_
  show Go p e below _ T1 (mkF m 4 #[.val (.ref a1), .val (.int p2), .unset] [])
  refine Go.to (fun _ => XS.aloadN X1.here hx rfl (hb hby d1_4) rfl rfl) ?_
  show Go p e below _ T1 (mkF m 5 #[.val (.ref a1), .val (.int p2), .unset] [(.ref a1)])
  refine Go.to (fun _ => XS.iloadN X1.here hx rfl (hb hby d1_5) rfl) ?_
  show Go p e below _ T1 (mkF m 6 #[.val (.ref a1), .val (.int p2), .unset] [(.int p2), (.ref a1)])
  refine Go.onew X1 hx hZ (hw _ (List.mem_of_getElem? (i := 10) rfl)) e1 O (hb hby d1_6) hn (cap := 4) hcap (by decide) (by decide) (by decide) ?_
  intro T2 h2 b2 X2 e2 O2
  have O2 : Obj Z n0 h0 h2 a1 "com/example/tracegauge/tracegauge/automata/Partition" nFp [.null, .null, .null, .null, .null, .null, .null, (.int (0 : Int32)), (.int (0 : Int32))] [b2] [(List.replicate (p2).toNatClampNeg (0 : Int32))] := O2
  show Go p e below _ T2 (mkF m 8 #[.val (.ref a1), .val (.int p2), .unset] [(.ref b2), (.ref a1)])
  refine Go.oput (f := ("elements", "[I")) X2 hx hZ hown (hw _ (List.mem_of_getElem? (i := 11) rfl)) e2 (Fr.nil n0) O2 (layp hw) (k := 0) rfl rfl (Or.inr ⟨(hw _ (List.mem_of_getElem? (i := 12) rfl)), rfl, hnm⟩) (hw _ (List.mem_of_getElem? (i := 2) rfl)) (ty := (.array .int)) (by decide) rfl rfl (hb hby d1_8) ?_
  intro T3 h3 L3 X3 e3 N3 O3
  have O3 : Obj Z n0 h0 h3 a1 "com/example/tracegauge/tracegauge/automata/Partition" nFp [(.ref b2), .null, .null, .null, .null, .null, .null, (.int (0 : Int32)), (.int (0 : Int32))] [b2] [(List.replicate (p2).toNatClampNeg (0 : Int32))] := O3
  show Go p e below _ T3 (mkF m 11 #[.val (.ref a1), .val (.int p2), .unset] [])
  refine Go.to (fun _ => XS.aloadN X3.here hx rfl (hb hby d1_11) rfl rfl) ?_
  show Go p e below _ T3 (mkF m 12 #[.val (.ref a1), .val (.int p2), .unset] [(.ref a1)])
  refine Go.to (fun _ => XS.iloadN X3.here hx rfl (hb hby d1_12) rfl) ?_
  show Go p e below _ T3 (mkF m 13 #[.val (.ref a1), .val (.int p2), .unset] [(.int p2), (.ref a1)])
  refine Go.onew X3 hx hZ (hw _ (List.mem_of_getElem? (i := 10) rfl)) e3 O3 (hb hby d1_13) hn (cap := 4) hcap (by decide) (by decide) (by decide) ?_
  intro T4 h4 b4 X4 e4 O4
  have O4 : Obj Z n0 h0 h4 a1 "com/example/tracegauge/tracegauge/automata/Partition" nFp [(.ref b2), .null, .null, .null, .null, .null, .null, (.int (0 : Int32)), (.int (0 : Int32))] [b2, b4] [(List.replicate (p2).toNatClampNeg (0 : Int32)), (List.replicate (p2).toNatClampNeg (0 : Int32))] := O4
  show Go p e below _ T4 (mkF m 15 #[.val (.ref a1), .val (.int p2), .unset] [(.ref b4), (.ref a1)])
  refine Go.oput (f := ("positions", "[I")) X4 hx hZ hown (hw _ (List.mem_of_getElem? (i := 13) rfl)) e4 N3 O4 (layp hw) (k := 1) rfl rfl (Or.inr ⟨(hw _ (List.mem_of_getElem? (i := 14) rfl)), rfl, hnm⟩) (hw _ (List.mem_of_getElem? (i := 2) rfl)) (ty := (.array .int)) (by decide) rfl rfl (hb hby d1_15) ?_
  intro T5 h5 L5 X5 e5 N5 O5
  have O5 : Obj Z n0 h0 h5 a1 "com/example/tracegauge/tracegauge/automata/Partition" nFp [(.ref b2), (.ref b4), .null, .null, .null, .null, .null, (.int (0 : Int32)), (.int (0 : Int32))] [b2, b4] [(List.replicate (p2).toNatClampNeg (0 : Int32)), (List.replicate (p2).toNatClampNeg (0 : Int32))] := O5
  show Go p e below _ T5 (mkF m 18 #[.val (.ref a1), .val (.int p2), .unset] [])
  refine Go.to (fun _ => XS.aloadN X5.here hx rfl (hb hby d1_18) rfl rfl) ?_
  show Go p e below _ T5 (mkF m 19 #[.val (.ref a1), .val (.int p2), .unset] [(.ref a1)])
  refine Go.to (fun _ => XS.iloadN X5.here hx rfl (hb hby d1_19) rfl) ?_
  show Go p e below _ T5 (mkF m 20 #[.val (.ref a1), .val (.int p2), .unset] [(.int p2), (.ref a1)])
  refine Go.onew X5 hx hZ (hw _ (List.mem_of_getElem? (i := 10) rfl)) e5 O5 (hb hby d1_20) hn (cap := 4) hcap (by decide) (by decide) (by decide) ?_
  intro T6 h6 b6 X6 e6 O6
  have O6 : Obj Z n0 h0 h6 a1 "com/example/tracegauge/tracegauge/automata/Partition" nFp [(.ref b2), (.ref b4), .null, .null, .null, .null, .null, (.int (0 : Int32)), (.int (0 : Int32))] [b2, b4, b6] [(List.replicate (p2).toNatClampNeg (0 : Int32)), (List.replicate (p2).toNatClampNeg (0 : Int32)), (List.replicate (p2).toNatClampNeg (0 : Int32))] := O6
  show Go p e below _ T6 (mkF m 22 #[.val (.ref a1), .val (.int p2), .unset] [(.ref b6), (.ref a1)])
  refine Go.oput (f := ("sets", "[I")) X6 hx hZ hown (hw _ (List.mem_of_getElem? (i := 15) rfl)) e6 N5 O6 (layp hw) (k := 2) rfl rfl (Or.inr ⟨(hw _ (List.mem_of_getElem? (i := 16) rfl)), rfl, hnm⟩) (hw _ (List.mem_of_getElem? (i := 2) rfl)) (ty := (.array .int)) (by decide) rfl rfl (hb hby d1_22) ?_
  intro T7 h7 L7 X7 e7 N7 O7
  have O7 : Obj Z n0 h0 h7 a1 "com/example/tracegauge/tracegauge/automata/Partition" nFp [(.ref b2), (.ref b4), (.ref b6), .null, .null, .null, .null, (.int (0 : Int32)), (.int (0 : Int32))] [b2, b4, b6] [(List.replicate (p2).toNatClampNeg (0 : Int32)), (List.replicate (p2).toNatClampNeg (0 : Int32)), (List.replicate (p2).toNatClampNeg (0 : Int32))] := O7
  show Go p e below _ T7 (mkF m 25 #[.val (.ref a1), .val (.int p2), .unset] [])
  refine Go.to (fun _ => XS.iconst X7.here hx rfl (hb hby d1_25)) ?_
  show Go p e below _ T7 (mkF m 26 #[.val (.ref a1), .val (.int p2), .unset] [(.int (0 : Int32))])
  refine Go.to (fun _ => XS.istoreN X7.here hx rfl (hb hby d1_26) rfl (l' := #[.val (.ref a1), .val (.int p2), .val (.int (0 : Int32))]) rfl) ?_
  show Go p e below _ T7 (mkF m 27 #[.val (.ref a1), .val (.int p2), .val (.int (0 : Int32))] [])
  have loop : ∀ (fuel : Nat) (i : Int32) (el po : List Int32), iniF fuel p2 i el po = some (el', po') → ∀ (T : State) (h : Heap) (L : List Loc), Stand p l e ({ frames := 1, cells := 7, slots := 28, locals := 12 } : Room) s m #[.ref a1, .int p2] below meth c T L 3 12 → T.heap = h → Fr n0 L → Obj Z n0 h0 h a1 "com/example/tracegauge/tracegauge/automata/Partition" nFp [(.ref b2), (.ref b4), (.ref b6), .null, .null, .null, .null, (.int (0 : Int32)), (.int (0 : Int32))] [b2, b4, b6] [el, po, (List.replicate (p2).toNatClampNeg (0 : Int32))] → Go p e below K T (mkF m 27 #[.val (.ref a1), .val (.int p2), .val (.int i)] []) := by
    intro fuel
    induction fuel with
    | zero => intro i el po hf; simp [iniF] at hf
    | succ fuel ih =>
      intro i el po hf T h L X e' N O
      refine Go.to (fun _ => XS.iloadN X.here hx rfl (hb hby d1_27) rfl) ?_
      show Go p e below _ T (mkF m 28 #[.val (.ref a1), .val (.int p2), .val (.int i)] [(.int i)])
      refine Go.to (fun _ => XS.iloadN X.here hx rfl (hb hby d1_28) rfl) ?_
      show Go p e below _ T (mkF m 29 #[.val (.ref a1), .val (.int p2), .val (.int i)] [(.int p2), (.int i)])
      by_cases hc1 : i < p2
      · refine Go.to (fun _ => XS.icmpNo X.here hx rfl (hb hby d1_29) rfl (tlt hc1).2.1) ?_
        show Go p e below _ T (mkF m 32 #[.val (.ref a1), .val (.int p2), .val (.int i)] [])
        rw [iniF, if_pos hc1] at hf
        obtain ⟨y1, hy1, hf⟩ := Option.bind_eq_some_iff.mp hf
        obtain ⟨y2, hy2, hf⟩ := Option.bind_eq_some_iff.mp hf
        refine Go.to (fun _ => XS.aloadN X.here hx rfl (hb hby d1_32) rfl rfl) ?_
        show Go p e below _ T (mkF m 33 #[.val (.ref a1), .val (.int p2), .val (.int i)] [(.ref a1)])
        refine Go.oget (f := ("elements", "[I")) X hx hZ hown (hw _ (List.mem_of_getElem? (i := 11) rfl)) e' O (k := 0) rfl rfl (hb hby d1_33) ?_
        intro T8 X8 e8
        show Go p e below _ T8 (mkF m 36 #[.val (.ref a1), .val (.int p2), .val (.int i)] [(.ref b2)])
        refine Go.to (fun _ => XS.iloadN X8.here hx rfl (hb hby d1_36) rfl) ?_
        show Go p e below _ T8 (mkF m 37 #[.val (.ref a1), .val (.int p2), .val (.int i)] [(.int i), (.ref b2)])
        refine Go.to (fun _ => XS.iloadN X8.here hx rfl (hb hby d1_37) rfl) ?_
        show Go p e below _ T8 (mkF m 38 #[.val (.ref a1), .val (.int p2), .val (.int i)] [(.int i), (.int i), (.ref b2)])
        refine Go.ostore X8 hx hZ e8 N O (k := 0) rfl rfl hy1 (hb hby d1_38) ?_
        intro T9 h9 L9 X9 e9 N9 O9
        have O9 : Obj Z n0 h0 h9 a1 "com/example/tracegauge/tracegauge/automata/Partition" nFp [(.ref b2), (.ref b4), (.ref b6), .null, .null, .null, .null, (.int (0 : Int32)), (.int (0 : Int32))] [b2, b4, b6] [(wrL el i i), po, (List.replicate (p2).toNatClampNeg (0 : Int32))] := O9
        show Go p e below _ T9 (mkF m 39 #[.val (.ref a1), .val (.int p2), .val (.int i)] [])
        refine Go.to (fun _ => XS.aloadN X9.here hx rfl (hb hby d1_39) rfl rfl) ?_
        show Go p e below _ T9 (mkF m 40 #[.val (.ref a1), .val (.int p2), .val (.int i)] [(.ref a1)])
        refine Go.oget (f := ("positions", "[I")) X9 hx hZ hown (hw _ (List.mem_of_getElem? (i := 13) rfl)) e9 O9 (k := 1) rfl rfl (hb hby d1_40) ?_
        intro T10 X10 e10
        show Go p e below _ T10 (mkF m 43 #[.val (.ref a1), .val (.int p2), .val (.int i)] [(.ref b4)])
        refine Go.to (fun _ => XS.iloadN X10.here hx rfl (hb hby d1_43) rfl) ?_
        show Go p e below _ T10 (mkF m 44 #[.val (.ref a1), .val (.int p2), .val (.int i)] [(.int i), (.ref b4)])
        refine Go.to (fun _ => XS.iloadN X10.here hx rfl (hb hby d1_44) rfl) ?_
        show Go p e below _ T10 (mkF m 45 #[.val (.ref a1), .val (.int p2), .val (.int i)] [(.int i), (.int i), (.ref b4)])
        refine Go.ostore X10 hx hZ e10 N9 O9 (k := 1) rfl rfl hy2 (hb hby d1_45) ?_
        intro T11 h11 L11 X11 e11 N11 O11
        have O11 : Obj Z n0 h0 h11 a1 "com/example/tracegauge/tracegauge/automata/Partition" nFp [(.ref b2), (.ref b4), (.ref b6), .null, .null, .null, .null, (.int (0 : Int32)), (.int (0 : Int32))] [b2, b4, b6] [(wrL el i i), (wrL po i i), (List.replicate (p2).toNatClampNeg (0 : Int32))] := O11
        show Go p e below _ T11 (mkF m 46 #[.val (.ref a1), .val (.int p2), .val (.int i)] [])
        refine Go.to (fun _ => XS.iinc X11.here hx rfl (hb hby d1_46) rfl (l' := #[.val (.ref a1), .val (.int p2), .val (.int (i + (1 : Int32)))]) rfl) ?_
        show Go p e below _ T11 (mkF m 49 #[.val (.ref a1), .val (.int p2), .val (.int (i + (1 : Int32)))] [])
        refine Go.to (fun _ => XS.goto X11.here hx rfl (pc0 := 49) (pc' := 27) rfl (hb hby d1_49) (by decide) (by decide)) ?_
        show Go p e below _ T11 (mkF m 27 #[.val (.ref a1), .val (.int p2), .val (.int (i + (1 : Int32)))] [])
        exact ih _ _ _ hf _ _ _ X11 e11 N11 O11
      · refine Go.to (fun _ => XS.icmpYes X.here hx rfl (pc0 := 29) (pc' := 52) rfl (hb hby d1_29) rfl (flt hc1).2.1 (by decide) (by decide)) ?_
        show Go p e below _ T (mkF m 52 #[.val (.ref a1), .val (.int p2), .val (.int i)] [])
        rw [iniF, if_neg hc1] at hf
        simp only [Option.some.injEq, Prod.mk.injEq] at hf
        obtain ⟨rfl, rfl⟩ := hf
        refine Go.to (fun _ => XS.aloadN X.here hx rfl (hb hby d1_52) rfl rfl) ?_
        show Go p e below _ T (mkF m 53 #[.val (.ref a1), .val (.int p2), .val (.int i)] [(.ref a1)])
        refine Go.to (fun _ => XS.iloadN X.here hx rfl (hb hby d1_53) rfl) ?_
        show Go p e below _ T (mkF m 54 #[.val (.ref a1), .val (.int p2), .val (.int i)] [(.int p2), (.ref a1)])
        refine Go.onew X hx hZ (hw _ (List.mem_of_getElem? (i := 10) rfl)) e' O (hb hby d1_54) hn (cap := 4) hcap (by decide) (by decide) (by decide) ?_
        intro T12 h12 b12 X12 e12 O12
        have O12 : Obj Z n0 h0 h12 a1 "com/example/tracegauge/tracegauge/automata/Partition" nFp [(.ref b2), (.ref b4), (.ref b6), .null, .null, .null, .null, (.int (0 : Int32)), (.int (0 : Int32))] [b2, b4, b6, b12] [el, po, (List.replicate (p2).toNatClampNeg (0 : Int32)), (List.replicate (p2).toNatClampNeg (0 : Int32))] := O12
        show Go p e below _ T12 (mkF m 56 #[.val (.ref a1), .val (.int p2), .val (.int i)] [(.ref b12), (.ref a1)])
        refine Go.oput (f := ("first", "[I")) X12 hx hZ hown (hw _ (List.mem_of_getElem? (i := 17) rfl)) e12 N O12 (layp hw) (k := 3) rfl rfl (Or.inr ⟨(hw _ (List.mem_of_getElem? (i := 18) rfl)), rfl, hnm⟩) (hw _ (List.mem_of_getElem? (i := 2) rfl)) (ty := (.array .int)) (by decide) rfl rfl (hb hby d1_56) ?_
        intro T13 h13 L13 X13 e13 N13 O13
        have O13 : Obj Z n0 h0 h13 a1 "com/example/tracegauge/tracegauge/automata/Partition" nFp [(.ref b2), (.ref b4), (.ref b6), (.ref b12), .null, .null, .null, (.int (0 : Int32)), (.int (0 : Int32))] [b2, b4, b6, b12] [el, po, (List.replicate (p2).toNatClampNeg (0 : Int32)), (List.replicate (p2).toNatClampNeg (0 : Int32))] := O13
        show Go p e below _ T13 (mkF m 59 #[.val (.ref a1), .val (.int p2), .val (.int i)] [])
        refine Go.to (fun _ => XS.aloadN X13.here hx rfl (hb hby d1_59) rfl rfl) ?_
        show Go p e below _ T13 (mkF m 60 #[.val (.ref a1), .val (.int p2), .val (.int i)] [(.ref a1)])
        refine Go.to (fun _ => XS.iloadN X13.here hx rfl (hb hby d1_60) rfl) ?_
        show Go p e below _ T13 (mkF m 61 #[.val (.ref a1), .val (.int p2), .val (.int i)] [(.int p2), (.ref a1)])
        refine Go.onew X13 hx hZ (hw _ (List.mem_of_getElem? (i := 10) rfl)) e13 O13 (hb hby d1_61) hn (cap := 4) hcap (by decide) (by decide) (by decide) ?_
        intro T14 h14 b14 X14 e14 O14
        have O14 : Obj Z n0 h0 h14 a1 "com/example/tracegauge/tracegauge/automata/Partition" nFp [(.ref b2), (.ref b4), (.ref b6), (.ref b12), .null, .null, .null, (.int (0 : Int32)), (.int (0 : Int32))] [b2, b4, b6, b12, b14] [el, po, (List.replicate (p2).toNatClampNeg (0 : Int32)), (List.replicate (p2).toNatClampNeg (0 : Int32)), (List.replicate (p2).toNatClampNeg (0 : Int32))] := O14
        show Go p e below _ T14 (mkF m 63 #[.val (.ref a1), .val (.int p2), .val (.int i)] [(.ref b14), (.ref a1)])
        refine Go.oput (f := ("end", "[I")) X14 hx hZ hown (hw _ (List.mem_of_getElem? (i := 19) rfl)) e14 N13 O14 (layp hw) (k := 4) rfl rfl (Or.inr ⟨(hw _ (List.mem_of_getElem? (i := 20) rfl)), rfl, hnm⟩) (hw _ (List.mem_of_getElem? (i := 2) rfl)) (ty := (.array .int)) (by decide) rfl rfl (hb hby d1_63) ?_
        intro T15 h15 L15 X15 e15 N15 O15
        have O15 : Obj Z n0 h0 h15 a1 "com/example/tracegauge/tracegauge/automata/Partition" nFp [(.ref b2), (.ref b4), (.ref b6), (.ref b12), (.ref b14), .null, .null, (.int (0 : Int32)), (.int (0 : Int32))] [b2, b4, b6, b12, b14] [el, po, (List.replicate (p2).toNatClampNeg (0 : Int32)), (List.replicate (p2).toNatClampNeg (0 : Int32)), (List.replicate (p2).toNatClampNeg (0 : Int32))] := O15
        show Go p e below _ T15 (mkF m 66 #[.val (.ref a1), .val (.int p2), .val (.int i)] [])
        refine Go.to (fun _ => XS.aloadN X15.here hx rfl (hb hby d1_66) rfl rfl) ?_
        show Go p e below _ T15 (mkF m 67 #[.val (.ref a1), .val (.int p2), .val (.int i)] [(.ref a1)])
        refine Go.to (fun _ => XS.iloadN X15.here hx rfl (hb hby d1_67) rfl) ?_
        show Go p e below _ T15 (mkF m 68 #[.val (.ref a1), .val (.int p2), .val (.int i)] [(.int p2), (.ref a1)])
        refine Go.onew X15 hx hZ (hw _ (List.mem_of_getElem? (i := 10) rfl)) e15 O15 (hb hby d1_68) hn (cap := 4) hcap (by decide) (by decide) (by decide) ?_
        intro T16 h16 b16 X16 e16 O16
        have O16 : Obj Z n0 h0 h16 a1 "com/example/tracegauge/tracegauge/automata/Partition" nFp [(.ref b2), (.ref b4), (.ref b6), (.ref b12), (.ref b14), .null, .null, (.int (0 : Int32)), (.int (0 : Int32))] [b2, b4, b6, b12, b14, b16] [el, po, (List.replicate (p2).toNatClampNeg (0 : Int32)), (List.replicate (p2).toNatClampNeg (0 : Int32)), (List.replicate (p2).toNatClampNeg (0 : Int32)), (List.replicate (p2).toNatClampNeg (0 : Int32))] := O16
        show Go p e below _ T16 (mkF m 70 #[.val (.ref a1), .val (.int p2), .val (.int i)] [(.ref b16), (.ref a1)])
        refine Go.oput (f := ("marked", "[I")) X16 hx hZ hown (hw _ (List.mem_of_getElem? (i := 21) rfl)) e16 N15 O16 (layp hw) (k := 5) rfl rfl (Or.inr ⟨(hw _ (List.mem_of_getElem? (i := 22) rfl)), rfl, hnm⟩) (hw _ (List.mem_of_getElem? (i := 2) rfl)) (ty := (.array .int)) (by decide) rfl rfl (hb hby d1_70) ?_
        intro T17 h17 L17 X17 e17 N17 O17
        have O17 : Obj Z n0 h0 h17 a1 "com/example/tracegauge/tracegauge/automata/Partition" nFp [(.ref b2), (.ref b4), (.ref b6), (.ref b12), (.ref b14), (.ref b16), .null, (.int (0 : Int32)), (.int (0 : Int32))] [b2, b4, b6, b12, b14, b16] [el, po, (List.replicate (p2).toNatClampNeg (0 : Int32)), (List.replicate (p2).toNatClampNeg (0 : Int32)), (List.replicate (p2).toNatClampNeg (0 : Int32)), (List.replicate (p2).toNatClampNeg (0 : Int32))] := O17
        show Go p e below _ T17 (mkF m 73 #[.val (.ref a1), .val (.int p2), .val (.int i)] [])
        refine Go.to (fun _ => XS.aloadN X17.here hx rfl (hb hby d1_73) rfl rfl) ?_
        show Go p e below _ T17 (mkF m 74 #[.val (.ref a1), .val (.int p2), .val (.int i)] [(.ref a1)])
        refine Go.to (fun _ => XS.iloadN X17.here hx rfl (hb hby d1_74) rfl) ?_
        show Go p e below _ T17 (mkF m 75 #[.val (.ref a1), .val (.int p2), .val (.int i)] [(.int p2), (.ref a1)])
        refine Go.onew X17 hx hZ (hw _ (List.mem_of_getElem? (i := 10) rfl)) e17 O17 (hb hby d1_75) hn (cap := 4) hcap (by decide) (by decide) (by decide) ?_
        intro T18 h18 b18 X18 e18 O18
        have O18 : Obj Z n0 h0 h18 a1 "com/example/tracegauge/tracegauge/automata/Partition" nFp [(.ref b2), (.ref b4), (.ref b6), (.ref b12), (.ref b14), (.ref b16), .null, (.int (0 : Int32)), (.int (0 : Int32))] [b2, b4, b6, b12, b14, b16, b18] [el, po, (List.replicate (p2).toNatClampNeg (0 : Int32)), (List.replicate (p2).toNatClampNeg (0 : Int32)), (List.replicate (p2).toNatClampNeg (0 : Int32)), (List.replicate (p2).toNatClampNeg (0 : Int32)), (List.replicate (p2).toNatClampNeg (0 : Int32))] := O18
        show Go p e below _ T18 (mkF m 77 #[.val (.ref a1), .val (.int p2), .val (.int i)] [(.ref b18), (.ref a1)])
        refine Go.oput (f := ("touched", "[I")) X18 hx hZ hown (hw _ (List.mem_of_getElem? (i := 23) rfl)) e18 N17 O18 (layp hw) (k := 6) rfl rfl (Or.inr ⟨(hw _ (List.mem_of_getElem? (i := 24) rfl)), rfl, hnm⟩) (hw _ (List.mem_of_getElem? (i := 2) rfl)) (ty := (.array .int)) (by decide) rfl rfl (hb hby d1_77) ?_
        intro T19 h19 L19 X19 e19 N19 O19
        have O19 : Obj Z n0 h0 h19 a1 "com/example/tracegauge/tracegauge/automata/Partition" nFp [(.ref b2), (.ref b4), (.ref b6), (.ref b12), (.ref b14), (.ref b16), (.ref b18), (.int (0 : Int32)), (.int (0 : Int32))] [b2, b4, b6, b12, b14, b16, b18] [el, po, (List.replicate (p2).toNatClampNeg (0 : Int32)), (List.replicate (p2).toNatClampNeg (0 : Int32)), (List.replicate (p2).toNatClampNeg (0 : Int32)), (List.replicate (p2).toNatClampNeg (0 : Int32)), (List.replicate (p2).toNatClampNeg (0 : Int32))] := O19
        show Go p e below _ T19 (mkF m 80 #[.val (.ref a1), .val (.int p2), .val (.int i)] [])
        refine Go.to (fun _ => XS.iloadN X19.here hx rfl (hb hby d1_80) rfl) ?_
        show Go p e below _ T19 (mkF m 81 #[.val (.ref a1), .val (.int p2), .val (.int i)] [(.int p2)])
        refine Go.to (fun _ => XS.ifNo X19.here hx rfl (hb hby d1_81) rfl ((if0 _ _).trans (tlt hpos).2.2.2)) ?_
        show Go p e below _ T19 (mkF m 84 #[.val (.ref a1), .val (.int p2), .val (.int i)] [])
        refine Go.to (fun _ => XS.aloadN X19.here hx rfl (hb hby d1_84) rfl rfl) ?_
        show Go p e below _ T19 (mkF m 85 #[.val (.ref a1), .val (.int p2), .val (.int i)] [(.ref a1)])
        refine Go.oget (f := ("end", "[I")) X19 hx hZ hown (hw _ (List.mem_of_getElem? (i := 19) rfl)) e19 O19 (k := 4) rfl rfl (hb hby d1_85) ?_
        intro T20 X20 e20
        show Go p e below _ T20 (mkF m 88 #[.val (.ref a1), .val (.int p2), .val (.int i)] [(.ref b14)])
        refine Go.to (fun _ => XS.iconst X20.here hx rfl (hb hby d1_88)) ?_
        show Go p e below _ T20 (mkF m 89 #[.val (.ref a1), .val (.int p2), .val (.int i)] [(.int (0 : Int32)), (.ref b14)])
        refine Go.to (fun _ => XS.iloadN X20.here hx rfl (hb hby d1_89) rfl) ?_
        show Go p e below _ T20 (mkF m 90 #[.val (.ref a1), .val (.int p2), .val (.int i)] [(.int p2), (.int (0 : Int32)), (.ref b14)])
        refine Go.ostore X20 hx hZ e20 N19 O19 (k := 4) rfl rfl he (hb hby d1_90) ?_
        intro T21 h21 L21 X21 e21 N21 O21
        have O21 : Obj Z n0 h0 h21 a1 "com/example/tracegauge/tracegauge/automata/Partition" nFp [(.ref b2), (.ref b4), (.ref b6), (.ref b12), (.ref b14), (.ref b16), (.ref b18), (.int (0 : Int32)), (.int (0 : Int32))] [b2, b4, b6, b12, b14, b16, b18] [el, po, (List.replicate (p2).toNatClampNeg (0 : Int32)), (List.replicate (p2).toNatClampNeg (0 : Int32)), (wrL (List.replicate (p2).toNatClampNeg (0 : Int32)) (0 : Int32) p2), (List.replicate (p2).toNatClampNeg (0 : Int32)), (List.replicate (p2).toNatClampNeg (0 : Int32))] := O21
        show Go p e below _ T21 (mkF m 91 #[.val (.ref a1), .val (.int p2), .val (.int i)] [])
        refine Go.to (fun _ => XS.aloadN X21.here hx rfl (hb hby d1_91) rfl rfl) ?_
        show Go p e below _ T21 (mkF m 92 #[.val (.ref a1), .val (.int p2), .val (.int i)] [(.ref a1)])
        refine Go.to (fun _ => XS.iconst X21.here hx rfl (hb hby d1_92)) ?_
        show Go p e below _ T21 (mkF m 93 #[.val (.ref a1), .val (.int p2), .val (.int i)] [(.int (1 : Int32)), (.ref a1)])
        refine Go.oput (f := ("setCount", "I")) X21 hx hZ hown (hw _ (List.mem_of_getElem? (i := 25) rfl)) e21 N21 O21 (layp hw) (k := 8) rfl rfl (Or.inl (hw _ (List.mem_of_getElem? (i := 26) rfl))) (hw _ (List.mem_of_getElem? (i := 2) rfl)) (ty := .int) (by decide) rfl rfl (hb hby d1_93) ?_
        intro T22 h22 L22 X22 e22 N22 O22
        have O22 : Obj Z n0 h0 h22 a1 "com/example/tracegauge/tracegauge/automata/Partition" nFp [(.ref b2), (.ref b4), (.ref b6), (.ref b12), (.ref b14), (.ref b16), (.ref b18), (.int (0 : Int32)), (.int (1 : Int32))] [b2, b4, b6, b12, b14, b16, b18] [el, po, (List.replicate (p2).toNatClampNeg (0 : Int32)), (List.replicate (p2).toNatClampNeg (0 : Int32)), (wrL (List.replicate (p2).toNatClampNeg (0 : Int32)) (0 : Int32) p2), (List.replicate (p2).toNatClampNeg (0 : Int32)), (List.replicate (p2).toNatClampNeg (0 : Int32))] := O22
        show Go p e below _ T22 (mkF m 96 #[.val (.ref a1), .val (.int p2), .val (.int i)] [])
        rw [hK]
        exact Go.retV X22 hx hlk hret (hb hby d1_96) ⟨rfl, N22, _, _, _, _, _, _, _, e22 ▸ O22⟩ (by decide) (by decide)
  exact loop fuel (0 : Int32) _ _ hf _ _ _ X7 e7 N7 O7
theorem d8_0 : decode prog_27_method_3_code 0 = .ok (.aload_n 0, 1) := by decide +kernel
theorem d8_1 : decode prog_27_method_3_code 1 = .ok (.getfield 16, 3) := by decide +kernel
theorem d8_4 : decode prog_27_method_3_code 4 = .ok (.iload_n 1, 1) := by decide +kernel
theorem d8_5 : decode prog_27_method_3_code 5 = .ok (.iaload, 1) := by decide +kernel
theorem d8_6 : decode prog_27_method_3_code 6 = .ok (.ireturn, 1) := by decide +kernel
theorem ef_rm8 (m : MethodId) (a1 : Addr) (p2 : Int32) : entryFrame m #[(.ref a1), (.int p2)] 2 = mkF m 0 #[.val (.ref a1), .val (.int p2)] [] := by first | (simp [entryFrame, mkF, argsToLocals, Value.category]; done) | rfl
set_option maxHeartbeats 40000000 in
theorem rm8 (l : Launch) (Z : State) (a0 : Array Value) (hw : ∀ d ∈ tables_1, d.before a0 Z = true) (ws : List Jvm.Cond) (a1 : Addr) (p2 : Int32) (h0 : Heap) (n0 : Nat) (b0 b1 b2 b3 b4 b5 b6 : Addr) (el po se fi en ma tu : List Int32) (tc sc : Int32) (O : Obj Z n0 h0 h0 a1 "com/example/tracegauge/tracegauge/automata/Partition" nFp [.ref b0, .ref b1, .ref b2, .ref b3, .ref b4, .ref b5, .ref b6, .int tc, .int sc] [b0, b1, b2, b3, b4, b5, b6] [el, po, se, fi, en, ma, tu]) (w : Int32) (hr : rdL se p2 = some w) :
    Met1 l Z (⟨"com/example/tracegauge/tracegauge/automata/Partition", "setOf", "(I)I"⟩ : MethodName) prog_27_method_3_code 2 (some .int) ws ({ frames := 0, cells := 0, slots := 0, locals := 0 } : Room) #[(.ref a1), (.int p2)] h0 (QP (.int w) h0) := by
  refine metOf (by first | exact plainFor_of_name (by first | (simp [plainName, overriddenIn]; done) | decide +kernel) | decide +kernel) ?_
  intro p e s m below meth c s₁ hx hby hml hown hnm hret hlk hZ X0 e0
  have hown : s.vm.findClass "com/example/tracegauge/tracegauge/automata/Partition" = some m.cls := hown
  obtain ⟨K, hK⟩ : ∃ K, K = KQ s (QP (.int w) h0) (({ frames := 0, cells := 0, slots := 0, locals := 0 } : Room)).cells (({ frames := 0, cells := 0, slots := 0, locals := 0 } : Room)).slots := ⟨_, rfl⟩
  show Go p e below (KQ s (QP (.int w) h0) (({ frames := 0, cells := 0, slots := 0, locals := 0 } : Room)).cells (({ frames := 0, cells := 0, slots := 0, locals := 0 } : Room)).slots) s₁ (entryFrame m #[(.ref a1), (.int p2)] 2)
  rw [← hK, ef_rm8 m a1 p2]
  show Go p e below _ s₁ (mkF m 0 #[.val (.ref a1), .val (.int p2)] [])
  refine Go.to (fun _ => XS.aloadN X0.here hx rfl (hb hby d8_0) rfl rfl) ?_
  show Go p e below _ s₁ (mkF m 1 #[.val (.ref a1), .val (.int p2)] [(.ref a1)])
  refine Go.oget (f := ("sets", "[I")) X0 hx hZ hown (hw _ (List.mem_of_getElem? (i := 15) rfl)) e0 O (k := 2) rfl rfl (hb hby d8_1) ?_
  intro T1 X1 e1
  show Go p e below _ T1 (mkF m 4 #[.val (.ref a1), .val (.int p2)] [(.ref b2)])
  refine Go.to (fun _ => XS.iloadN X1.here hx rfl (hb hby d8_4) rfl) ?_
  show Go p e below _ T1 (mkF m 5 #[.val (.ref a1), .val (.int p2)] [(.int p2), (.ref b2)])
  refine Go.oload X1 hx hZ e1 O (k := 2) rfl rfl hr (hb hby d8_5) ?_
  show Go p e below _ T1 (mkF m 6 #[.val (.ref a1), .val (.int p2)] [(.int w)])
  rw [hK]
  exact Go.retI X1 hx hlk hret (hb hby d8_6) ⟨rfl, e1, rfl⟩ (by decide) (by decide)
theorem d6_0 : decode prog_27_method_2_code 0 = .ok (.aload_n 0, 1) := by decide +kernel
theorem d6_1 : decode prog_27_method_2_code 1 = .ok (.getfield 31, 3) := by decide +kernel
theorem d6_4 : decode prog_27_method_2_code 4 = .ok (.ireturn, 1) := by decide +kernel
theorem ef_rm6 (m : MethodId) (a1 : Addr) : entryFrame m #[(.ref a1)] 1 = mkF m 0 #[.val (.ref a1)] [] := by first | (simp [entryFrame, mkF, argsToLocals, Value.category]; done) | rfl
set_option maxHeartbeats 40000000 in
theorem rm6 (l : Launch) (Z : State) (a0 : Array Value) (hw : ∀ d ∈ tables_1, d.before a0 Z = true) (ws : List Jvm.Cond) (a1 : Addr) (h0 : Heap) (n0 : Nat) (b0 b1 b2 b3 b4 b5 b6 : Addr) (el po se fi en ma tu : List Int32) (tc sc : Int32) (O : Obj Z n0 h0 h0 a1 "com/example/tracegauge/tracegauge/automata/Partition" nFp [.ref b0, .ref b1, .ref b2, .ref b3, .ref b4, .ref b5, .ref b6, .int tc, .int sc] [b0, b1, b2, b3, b4, b5, b6] [el, po, se, fi, en, ma, tu]) :
    Met1 l Z (⟨"com/example/tracegauge/tracegauge/automata/Partition", "setCount", "()I"⟩ : MethodName) prog_27_method_2_code 1 (some .int) ws ({ frames := 0, cells := 0, slots := 0, locals := 0 } : Room) #[(.ref a1)] h0 (QP (.int sc) h0) := by
  refine metOf (by first | exact plainFor_of_name (by first | (simp [plainName, overriddenIn]; done) | decide +kernel) | decide +kernel) ?_
  intro p e s m below meth c s₁ hx hby hml hown hnm hret hlk hZ X0 e0
  have hown : s.vm.findClass "com/example/tracegauge/tracegauge/automata/Partition" = some m.cls := hown
  obtain ⟨K, hK⟩ : ∃ K, K = KQ s (QP (.int sc) h0) (({ frames := 0, cells := 0, slots := 0, locals := 0 } : Room)).cells (({ frames := 0, cells := 0, slots := 0, locals := 0 } : Room)).slots := ⟨_, rfl⟩
  show Go p e below (KQ s (QP (.int sc) h0) (({ frames := 0, cells := 0, slots := 0, locals := 0 } : Room)).cells (({ frames := 0, cells := 0, slots := 0, locals := 0 } : Room)).slots) s₁ (entryFrame m #[(.ref a1)] 1)
  rw [← hK, ef_rm6 m a1]
  show Go p e below _ s₁ (mkF m 0 #[.val (.ref a1)] [])
  refine Go.to (fun _ => XS.aloadN X0.here hx rfl (hb hby d6_0) rfl rfl) ?_
  show Go p e below _ s₁ (mkF m 1 #[.val (.ref a1)] [(.ref a1)])
  refine Go.oget (f := ("setCount", "I")) X0 hx hZ hown (hw _ (List.mem_of_getElem? (i := 25) rfl)) e0 O (k := 8) rfl rfl (hb hby d6_1) ?_
  intro T1 X1 e1
  show Go p e below _ T1 (mkF m 4 #[.val (.ref a1)] [(.int sc)])
  rw [hK]
  exact Go.retI X1 hx hlk hret (hb hby d6_4) ⟨rfl, e1, rfl⟩ (by decide) (by decide)
def markF (p2 : Int32) (el po se fi en ma tu : List Int32) (tc sc : Int32) : Option (List Int32 × List Int32 × List Int32 × List Int32 × List Int32 × List Int32 × List Int32 × Int32 × Int32) := ((rdL se p2).bind fun v1 => ((rdL po p2).bind fun v2 => ((rdL fi v1).bind fun v3 => ((rdL ma v1).bind fun v4 => (if v2 < (v3 + v4) then some (el, po, se, fi, en, ma, tu, tc, sc) else ((rdL el (v3 + v4)).bind fun v5 => ((some (wrL el (v3 + v4) p2)).bind fun x6 => ((some (wrL po p2 (v3 + v4))).bind fun x7 => ((rdL x6 v2).bind fun v8 => ((some (wrL x6 v2 v5)).bind fun x9 => ((rdL x7 v5).bind fun v10 => ((some (wrL x7 v5 v2)).bind fun x11 => ((some (wrL ma v1 (v4 + (1 : Int32)))).bind fun x12 => (if v4 = (0 : Int32) then ((rdL tu tc).bind fun v13 => ((some (wrL tu tc v1)).bind fun x14 => some (x9, x11, se, fi, en, x12, x14, (tc + (1 : Int32)), sc))) else some (x9, x11, se, fi, en, x12, tu, tc, sc)))))))))))))))
theorem d3_0 : decode prog_27_method_7_code 0 = .ok (.aload_n 0, 1) := by decide +kernel
theorem d3_1 : decode prog_27_method_7_code 1 = .ok (.getfield 16, 3) := by decide +kernel
theorem d3_4 : decode prog_27_method_7_code 4 = .ok (.iload_n 1, 1) := by decide +kernel
theorem d3_5 : decode prog_27_method_7_code 5 = .ok (.iaload, 1) := by decide +kernel
theorem d3_6 : decode prog_27_method_7_code 6 = .ok (.istore_n 2, 1) := by decide +kernel
theorem d3_7 : decode prog_27_method_7_code 7 = .ok (.aload_n 0, 1) := by decide +kernel
theorem d3_8 : decode prog_27_method_7_code 8 = .ok (.getfield 13, 3) := by decide +kernel
theorem d3_11 : decode prog_27_method_7_code 11 = .ok (.iload_n 1, 1) := by decide +kernel
theorem d3_12 : decode prog_27_method_7_code 12 = .ok (.iaload, 1) := by decide +kernel
theorem d3_13 : decode prog_27_method_7_code 13 = .ok (.istore_n 3, 1) := by decide +kernel
theorem d3_14 : decode prog_27_method_7_code 14 = .ok (.aload_n 0, 1) := by decide +kernel
theorem d3_15 : decode prog_27_method_7_code 15 = .ok (.getfield 19, 3) := by decide +kernel
theorem d3_18 : decode prog_27_method_7_code 18 = .ok (.iload_n 2, 1) := by decide +kernel
theorem d3_19 : decode prog_27_method_7_code 19 = .ok (.iaload, 1) := by decide +kernel
theorem d3_20 : decode prog_27_method_7_code 20 = .ok (.aload_n 0, 1) := by decide +kernel
theorem d3_21 : decode prog_27_method_7_code 21 = .ok (.getfield 25, 3) := by decide +kernel
theorem d3_24 : decode prog_27_method_7_code 24 = .ok (.iload_n 2, 1) := by decide +kernel
theorem d3_25 : decode prog_27_method_7_code 25 = .ok (.iaload, 1) := by decide +kernel
theorem d3_26 : decode prog_27_method_7_code 26 = .ok (.iadd, 1) := by decide +kernel
theorem d3_27 : decode prog_27_method_7_code 27 = .ok (.istore 4, 2) := by decide +kernel
theorem d3_29 : decode prog_27_method_7_code 29 = .ok (.iload_n 3, 1) := by decide +kernel
theorem d3_30 : decode prog_27_method_7_code 30 = .ok (.iload 4, 2) := by decide +kernel
theorem d3_32 : decode prog_27_method_7_code 32 = .ok (.if_icmp .ge 4, 3) := by decide +kernel
theorem d3_35 : decode prog_27_method_7_code 35 = .ok (.return_, 1) := by decide +kernel
theorem d3_36 : decode prog_27_method_7_code 36 = .ok (.aload_n 0, 1) := by decide +kernel
theorem d3_37 : decode prog_27_method_7_code 37 = .ok (.getfield 7, 3) := by decide +kernel
theorem d3_40 : decode prog_27_method_7_code 40 = .ok (.iload 4, 2) := by decide +kernel
theorem d3_42 : decode prog_27_method_7_code 42 = .ok (.iaload, 1) := by decide +kernel
theorem d3_43 : decode prog_27_method_7_code 43 = .ok (.istore 5, 2) := by decide +kernel
theorem d3_45 : decode prog_27_method_7_code 45 = .ok (.aload_n 0, 1) := by decide +kernel
theorem d3_46 : decode prog_27_method_7_code 46 = .ok (.getfield 7, 3) := by decide +kernel
theorem d3_49 : decode prog_27_method_7_code 49 = .ok (.iload 4, 2) := by decide +kernel
theorem d3_51 : decode prog_27_method_7_code 51 = .ok (.iload_n 1, 1) := by decide +kernel
theorem d3_52 : decode prog_27_method_7_code 52 = .ok (.iastore, 1) := by decide +kernel
theorem d3_53 : decode prog_27_method_7_code 53 = .ok (.aload_n 0, 1) := by decide +kernel
theorem d3_54 : decode prog_27_method_7_code 54 = .ok (.getfield 13, 3) := by decide +kernel
theorem d3_57 : decode prog_27_method_7_code 57 = .ok (.iload_n 1, 1) := by decide +kernel
theorem d3_58 : decode prog_27_method_7_code 58 = .ok (.iload 4, 2) := by decide +kernel
theorem d3_60 : decode prog_27_method_7_code 60 = .ok (.iastore, 1) := by decide +kernel
theorem d3_61 : decode prog_27_method_7_code 61 = .ok (.aload_n 0, 1) := by decide +kernel
theorem d3_62 : decode prog_27_method_7_code 62 = .ok (.getfield 7, 3) := by decide +kernel
theorem d3_65 : decode prog_27_method_7_code 65 = .ok (.iload_n 3, 1) := by decide +kernel
theorem d3_66 : decode prog_27_method_7_code 66 = .ok (.iload 5, 2) := by decide +kernel
theorem d3_68 : decode prog_27_method_7_code 68 = .ok (.iastore, 1) := by decide +kernel
theorem d3_69 : decode prog_27_method_7_code 69 = .ok (.aload_n 0, 1) := by decide +kernel
theorem d3_70 : decode prog_27_method_7_code 70 = .ok (.getfield 13, 3) := by decide +kernel
theorem d3_73 : decode prog_27_method_7_code 73 = .ok (.iload 5, 2) := by decide +kernel
theorem d3_75 : decode prog_27_method_7_code 75 = .ok (.iload_n 3, 1) := by decide +kernel
theorem d3_76 : decode prog_27_method_7_code 76 = .ok (.iastore, 1) := by decide +kernel
theorem d3_77 : decode prog_27_method_7_code 77 = .ok (.aload_n 0, 1) := by decide +kernel
theorem d3_78 : decode prog_27_method_7_code 78 = .ok (.getfield 25, 3) := by decide +kernel
theorem d3_81 : decode prog_27_method_7_code 81 = .ok (.iload_n 2, 1) := by decide +kernel
theorem d3_82 : decode prog_27_method_7_code 82 = .ok (.dup2, 1) := by decide +kernel
theorem d3_83 : decode prog_27_method_7_code 83 = .ok (.iaload, 1) := by decide +kernel
theorem d3_84 : decode prog_27_method_7_code 84 = .ok (.dup_x2, 1) := by decide +kernel
theorem d3_85 : decode prog_27_method_7_code 85 = .ok (.iconst 1, 1) := by decide +kernel
theorem d3_86 : decode prog_27_method_7_code 86 = .ok (.iadd, 1) := by decide +kernel
theorem d3_87 : decode prog_27_method_7_code 87 = .ok (.iastore, 1) := by decide +kernel
theorem d3_88 : decode prog_27_method_7_code 88 = .ok (.ifCond .ne 20, 3) := by decide +kernel
theorem d3_91 : decode prog_27_method_7_code 91 = .ok (.aload_n 0, 1) := by decide +kernel
theorem d3_92 : decode prog_27_method_7_code 92 = .ok (.getfield 28, 3) := by decide +kernel
theorem d3_95 : decode prog_27_method_7_code 95 = .ok (.aload_n 0, 1) := by decide +kernel
theorem d3_96 : decode prog_27_method_7_code 96 = .ok (.dup, 1) := by decide +kernel
theorem d3_97 : decode prog_27_method_7_code 97 = .ok (.getfield 35, 3) := by decide +kernel
theorem d3_100 : decode prog_27_method_7_code 100 = .ok (.dup_x1, 1) := by decide +kernel
theorem d3_101 : decode prog_27_method_7_code 101 = .ok (.iconst 1, 1) := by decide +kernel
theorem d3_102 : decode prog_27_method_7_code 102 = .ok (.iadd, 1) := by decide +kernel
theorem d3_103 : decode prog_27_method_7_code 103 = .ok (.putfield 35, 3) := by decide +kernel
theorem d3_106 : decode prog_27_method_7_code 106 = .ok (.iload_n 2, 1) := by decide +kernel
theorem d3_107 : decode prog_27_method_7_code 107 = .ok (.iastore, 1) := by decide +kernel
theorem d3_108 : decode prog_27_method_7_code 108 = .ok (.return_, 1) := by decide +kernel
theorem ef_rm3 (m : MethodId) (a1 : Addr) (p2 : Int32) : entryFrame m #[(.ref a1), (.int p2)] 6 = mkF m 0 #[.val (.ref a1), .val (.int p2), .unset, .unset, .unset, .unset] [] := by first | (simp [entryFrame, mkF, argsToLocals, Value.category]; done) | rfl
set_option maxHeartbeats 40000000 in
theorem rm3 (l : Launch) (Z : State) (a0 : Array Value) (hw : ∀ d ∈ tables_1, d.before a0 Z = true) (ws : List Jvm.Cond) (a1 : Addr) (p2 : Int32) (h0 : Heap) (n0 : Nat) (b0 b1 b2 b3 b4 b5 b6 : Addr) (el po se fi en ma tu : List Int32) (tc sc : Int32) (O : Obj Z n0 h0 h0 a1 "com/example/tracegauge/tracegauge/automata/Partition" nFp [.ref b0, .ref b1, .ref b2, .ref b3, .ref b4, .ref b5, .ref b6, .int tc, .int sc] [b0, b1, b2, b3, b4, b5, b6] [el, po, se, fi, en, ma, tu]) (el' po' se' fi' en' ma' tu' : List Int32) (tc' sc' : Int32) (hf : markF p2 el po se fi en ma tu tc sc = some (el', po', se', fi', en', ma', tu', tc', sc')) :
    Met1 l Z (⟨"com/example/tracegauge/tracegauge/automata/Partition", "mark", "(I)V"⟩ : MethodName) prog_27_method_7_code 6 none ws ({ frames := 0, cells := 0, slots := 0, locals := 0 } : Room) #[(.ref a1), (.int p2)] h0 (fun v h L => v = none ∧ Fr n0 L ∧ Obj Z n0 h0 h a1 "com/example/tracegauge/tracegauge/automata/Partition" nFp [.ref b0, .ref b1, .ref b2, .ref b3, .ref b4, .ref b5, .ref b6, .int tc', .int sc'] [b0, b1, b2, b3, b4, b5, b6] [el', po', se', fi', en', ma', tu']) := by
  refine metOf (by first | exact plainFor_of_name (by first | (simp [plainName, overriddenIn]; done) | decide +kernel) | decide +kernel) ?_
  intro p e s m below meth c s₁ hx hby hml hown hnm hret hlk hZ X0 e0
  have hown : s.vm.findClass "com/example/tracegauge/tracegauge/automata/Partition" = some m.cls := hown
  obtain ⟨K, hK⟩ : ∃ K, K = KQ s (fun v h L => v = none ∧ Fr n0 L ∧ Obj Z n0 h0 h a1 "com/example/tracegauge/tracegauge/automata/Partition" nFp [.ref b0, .ref b1, .ref b2, .ref b3, .ref b4, .ref b5, .ref b6, .int tc', .int sc'] [b0, b1, b2, b3, b4, b5, b6] [el', po', se', fi', en', ma', tu']) (({ frames := 0, cells := 0, slots := 0, locals := 0 } : Room)).cells (({ frames := 0, cells := 0, slots := 0, locals := 0 } : Room)).slots := ⟨_, rfl⟩
  show Go p e below (KQ s (fun v h L => v = none ∧ Fr n0 L ∧ Obj Z n0 h0 h a1 "com/example/tracegauge/tracegauge/automata/Partition" nFp [.ref b0, .ref b1, .ref b2, .ref b3, .ref b4, .ref b5, .ref b6, .int tc', .int sc'] [b0, b1, b2, b3, b4, b5, b6] [el', po', se', fi', en', ma', tu']) (({ frames := 0, cells := 0, slots := 0, locals := 0 } : Room)).cells (({ frames := 0, cells := 0, slots := 0, locals := 0 } : Room)).slots) s₁ (entryFrame m #[(.ref a1), (.int p2)] 6)
  rw [← hK, ef_rm3 m a1 p2]
  rw [markF] at hf
  show Go p e below _ s₁ (mkF m 0 #[.val (.ref a1), .val (.int p2), .unset, .unset, .unset, .unset] [])
  refine Go.to (fun _ => XS.aloadN X0.here hx rfl (hb hby d3_0) rfl rfl) ?_
  show Go p e below _ s₁ (mkF m 1 #[.val (.ref a1), .val (.int p2), .unset, .unset, .unset, .unset] [(.ref a1)])
  refine Go.oget (f := ("sets", "[I")) X0 hx hZ hown (hw _ (List.mem_of_getElem? (i := 15) rfl)) e0 O (k := 2) rfl rfl (hb hby d3_1) ?_
  intro T1 X1 e1
  show Go p e below _ T1 (mkF m 4 #[.val (.ref a1), .val (.int p2), .unset, .unset, .unset, .unset] [(.ref b2)])
  refine Go.to (fun _ => XS.iloadN X1.here hx rfl (hb hby d3_4) rfl) ?_
  show Go p e below _ T1 (mkF m 5 #[.val (.ref a1), .val (.int p2), .unset, .unset, .unset, .unset] [(.int p2), (.ref b2)])
  obtain ⟨v1, hv1, hf⟩ := Option.bind_eq_some_iff.mp hf
  refine Go.oload X1 hx hZ e1 O (k := 2) rfl rfl hv1 (hb hby d3_5) ?_
  show Go p e below _ T1 (mkF m 6 #[.val (.ref a1), .val (.int p2), .unset, .unset, .unset, .unset] [(.int v1)])
  refine Go.to (fun _ => XS.istoreN X1.here hx rfl (hb hby d3_6) rfl (l' := #[.val (.ref a1), .val (.int p2), .val (.int v1), .unset, .unset, .unset]) rfl) ?_
  show Go p e below _ T1 (mkF m 7 #[.val (.ref a1), .val (.int p2), .val (.int v1), .unset, .unset, .unset] [])
  refine Go.to (fun _ => XS.aloadN X1.here hx rfl (hb hby d3_7) rfl rfl) ?_
  show Go p e below _ T1 (mkF m 8 #[.val (.ref a1), .val (.int p2), .val (.int v1), .unset, .unset, .unset] [(.ref a1)])
  refine Go.oget (f := ("positions", "[I")) X1 hx hZ hown (hw _ (List.mem_of_getElem? (i := 13) rfl)) e1 O (k := 1) rfl rfl (hb hby d3_8) ?_
  intro T2 X2 e2
  show Go p e below _ T2 (mkF m 11 #[.val (.ref a1), .val (.int p2), .val (.int v1), .unset, .unset, .unset] [(.ref b1)])
  refine Go.to (fun _ => XS.iloadN X2.here hx rfl (hb hby d3_11) rfl) ?_
  show Go p e below _ T2 (mkF m 12 #[.val (.ref a1), .val (.int p2), .val (.int v1), .unset, .unset, .unset] [(.int p2), (.ref b1)])
  obtain ⟨v2, hv2, hf⟩ := Option.bind_eq_some_iff.mp hf
  refine Go.oload X2 hx hZ e2 O (k := 1) rfl rfl hv2 (hb hby d3_12) ?_
  show Go p e below _ T2 (mkF m 13 #[.val (.ref a1), .val (.int p2), .val (.int v1), .unset, .unset, .unset] [(.int v2)])
  refine Go.to (fun _ => XS.istoreN X2.here hx rfl (hb hby d3_13) rfl (l' := #[.val (.ref a1), .val (.int p2), .val (.int v1), .val (.int v2), .unset, .unset]) rfl) ?_
  show Go p e below _ T2 (mkF m 14 #[.val (.ref a1), .val (.int p2), .val (.int v1), .val (.int v2), .unset, .unset] [])
  refine Go.to (fun _ => XS.aloadN X2.here hx rfl (hb hby d3_14) rfl rfl) ?_
  show Go p e below _ T2 (mkF m 15 #[.val (.ref a1), .val (.int p2), .val (.int v1), .val (.int v2), .unset, .unset] [(.ref a1)])
  refine Go.oget (f := ("first", "[I")) X2 hx hZ hown (hw _ (List.mem_of_getElem? (i := 17) rfl)) e2 O (k := 3) rfl rfl (hb hby d3_15) ?_
  intro T3 X3 e3
  show Go p e below _ T3 (mkF m 18 #[.val (.ref a1), .val (.int p2), .val (.int v1), .val (.int v2), .unset, .unset] [(.ref b3)])
  refine Go.to (fun _ => XS.iloadN X3.here hx rfl (hb hby d3_18) rfl) ?_
  show Go p e below _ T3 (mkF m 19 #[.val (.ref a1), .val (.int p2), .val (.int v1), .val (.int v2), .unset, .unset] [(.int v1), (.ref b3)])
  obtain ⟨v3, hv3, hf⟩ := Option.bind_eq_some_iff.mp hf
  refine Go.oload X3 hx hZ e3 O (k := 3) rfl rfl hv3 (hb hby d3_19) ?_
  show Go p e below _ T3 (mkF m 20 #[.val (.ref a1), .val (.int p2), .val (.int v1), .val (.int v2), .unset, .unset] [(.int v3)])
  refine Go.to (fun _ => XS.aloadN X3.here hx rfl (hb hby d3_20) rfl rfl) ?_
  show Go p e below _ T3 (mkF m 21 #[.val (.ref a1), .val (.int p2), .val (.int v1), .val (.int v2), .unset, .unset] [(.ref a1), (.int v3)])
  refine Go.oget (f := ("marked", "[I")) X3 hx hZ hown (hw _ (List.mem_of_getElem? (i := 21) rfl)) e3 O (k := 5) rfl rfl (hb hby d3_21) ?_
  intro T4 X4 e4
  show Go p e below _ T4 (mkF m 24 #[.val (.ref a1), .val (.int p2), .val (.int v1), .val (.int v2), .unset, .unset] [(.ref b5), (.int v3)])
  refine Go.to (fun _ => XS.iloadN X4.here hx rfl (hb hby d3_24) rfl) ?_
  show Go p e below _ T4 (mkF m 25 #[.val (.ref a1), .val (.int p2), .val (.int v1), .val (.int v2), .unset, .unset] [(.int v1), (.ref b5), (.int v3)])
  obtain ⟨v4, hv4, hf⟩ := Option.bind_eq_some_iff.mp hf
  refine Go.oload X4 hx hZ e4 O (k := 5) rfl rfl hv4 (hb hby d3_25) ?_
  show Go p e below _ T4 (mkF m 26 #[.val (.ref a1), .val (.int p2), .val (.int v1), .val (.int v2), .unset, .unset] [(.int v4), (.int v3)])
  refine Go.to (fun _ => XS.iadd X4.here hx rfl (hb hby d3_26) rfl) ?_
  show Go p e below _ T4 (mkF m 27 #[.val (.ref a1), .val (.int p2), .val (.int v1), .val (.int v2), .unset, .unset] [(.int (v3 + v4))])
  refine Go.to (fun _ => XS.istore X4.here hx rfl (hb hby d3_27) rfl (l' := #[.val (.ref a1), .val (.int p2), .val (.int v1), .val (.int v2), .val (.int (v3 + v4)), .unset]) rfl) ?_
  show Go p e below _ T4 (mkF m 29 #[.val (.ref a1), .val (.int p2), .val (.int v1), .val (.int v2), .val (.int (v3 + v4)), .unset] [])
  refine Go.to (fun _ => XS.iloadN X4.here hx rfl (hb hby d3_29) rfl) ?_
  show Go p e below _ T4 (mkF m 30 #[.val (.ref a1), .val (.int p2), .val (.int v1), .val (.int v2), .val (.int (v3 + v4)), .unset] [(.int v2)])
  refine Go.to (fun _ => XS.iload X4.here hx rfl (hb hby d3_30) rfl) ?_
  show Go p e below _ T4 (mkF m 32 #[.val (.ref a1), .val (.int p2), .val (.int v1), .val (.int v2), .val (.int (v3 + v4)), .unset] [(.int (v3 + v4)), (.int v2)])
  by_cases hc1 : v2 < (v3 + v4)
  · rw [if_pos hc1] at hf
    refine Go.to (fun _ => XS.icmpNo X4.here hx rfl (hb hby d3_32) rfl (tlt hc1).2.1) ?_
    show Go p e below _ T4 (mkF m 35 #[.val (.ref a1), .val (.int p2), .val (.int v1), .val (.int v2), .val (.int (v3 + v4)), .unset] [])
    simp only [Option.some.injEq, Prod.mk.injEq] at hf
    obtain ⟨rfl, rfl, rfl, rfl, rfl, rfl, rfl, rfl, rfl⟩ := hf
    rw [hK]
    exact Go.retV X4 hx hlk hret (hb hby d3_35) ⟨rfl, (Fr.nil n0), e4 ▸ O⟩ (by decide) (by decide)
  · rw [if_neg hc1] at hf
    refine Go.to (fun _ => XS.icmpYes X4.here hx rfl (pc0 := 32) (pc' := 36) rfl (hb hby d3_32) rfl (flt hc1).2.1 (by decide) (by decide)) ?_
    show Go p e below _ T4 (mkF m 36 #[.val (.ref a1), .val (.int p2), .val (.int v1), .val (.int v2), .val (.int (v3 + v4)), .unset] [])
    refine Go.to (fun _ => XS.aloadN X4.here hx rfl (hb hby d3_36) rfl rfl) ?_
    show Go p e below _ T4 (mkF m 37 #[.val (.ref a1), .val (.int p2), .val (.int v1), .val (.int v2), .val (.int (v3 + v4)), .unset] [(.ref a1)])
    refine Go.oget (f := ("elements", "[I")) X4 hx hZ hown (hw _ (List.mem_of_getElem? (i := 11) rfl)) e4 O (k := 0) rfl rfl (hb hby d3_37) ?_
    intro T5 X5 e5
    show Go p e below _ T5 (mkF m 40 #[.val (.ref a1), .val (.int p2), .val (.int v1), .val (.int v2), .val (.int (v3 + v4)), .unset] [(.ref b0)])
    refine Go.to (fun _ => XS.iload X5.here hx rfl (hb hby d3_40) rfl) ?_
    show Go p e below _ T5 (mkF m 42 #[.val (.ref a1), .val (.int p2), .val (.int v1), .val (.int v2), .val (.int (v3 + v4)), .unset] [(.int (v3 + v4)), (.ref b0)])
    obtain ⟨v5, hv5, hf⟩ := Option.bind_eq_some_iff.mp hf
    refine Go.oload X5 hx hZ e5 O (k := 0) rfl rfl hv5 (hb hby d3_42) ?_
    show Go p e below _ T5 (mkF m 43 #[.val (.ref a1), .val (.int p2), .val (.int v1), .val (.int v2), .val (.int (v3 + v4)), .unset] [(.int v5)])
    refine Go.to (fun _ => XS.istore X5.here hx rfl (hb hby d3_43) rfl (l' := #[.val (.ref a1), .val (.int p2), .val (.int v1), .val (.int v2), .val (.int (v3 + v4)), .val (.int v5)]) rfl) ?_
    show Go p e below _ T5 (mkF m 45 #[.val (.ref a1), .val (.int p2), .val (.int v1), .val (.int v2), .val (.int (v3 + v4)), .val (.int v5)] [])
    refine Go.to (fun _ => XS.aloadN X5.here hx rfl (hb hby d3_45) rfl rfl) ?_
    show Go p e below _ T5 (mkF m 46 #[.val (.ref a1), .val (.int p2), .val (.int v1), .val (.int v2), .val (.int (v3 + v4)), .val (.int v5)] [(.ref a1)])
    refine Go.oget (f := ("elements", "[I")) X5 hx hZ hown (hw _ (List.mem_of_getElem? (i := 11) rfl)) e5 O (k := 0) rfl rfl (hb hby d3_46) ?_
    intro T6 X6 e6
    show Go p e below _ T6 (mkF m 49 #[.val (.ref a1), .val (.int p2), .val (.int v1), .val (.int v2), .val (.int (v3 + v4)), .val (.int v5)] [(.ref b0)])
    refine Go.to (fun _ => XS.iload X6.here hx rfl (hb hby d3_49) rfl) ?_
    show Go p e below _ T6 (mkF m 51 #[.val (.ref a1), .val (.int p2), .val (.int v1), .val (.int v2), .val (.int (v3 + v4)), .val (.int v5)] [(.int (v3 + v4)), (.ref b0)])
    refine Go.to (fun _ => XS.iloadN X6.here hx rfl (hb hby d3_51) rfl) ?_
    show Go p e below _ T6 (mkF m 52 #[.val (.ref a1), .val (.int p2), .val (.int v1), .val (.int v2), .val (.int (v3 + v4)), .val (.int v5)] [(.int p2), (.int (v3 + v4)), (.ref b0)])
    refine Go.ostore X6 hx hZ e6 (Fr.nil n0) O (k := 0) rfl rfl hv5 (hb hby d3_52) ?_
    intro T7 h7 L7 X7 e7 N7 O7
    have O7 : Obj Z n0 h0 h7 a1 "com/example/tracegauge/tracegauge/automata/Partition" nFp [(.ref b0), (.ref b1), (.ref b2), (.ref b3), (.ref b4), (.ref b5), (.ref b6), (.int tc), (.int sc)] [b0, b1, b2, b3, b4, b5, b6] [(wrL el (v3 + v4) p2), po, se, fi, en, ma, tu] := O7
    obtain ⟨x6, hx6, hf⟩ := Option.bind_eq_some_iff.mp hf
    rw [Option.some.inj hx6] at O7
    show Go p e below _ T7 (mkF m 53 #[.val (.ref a1), .val (.int p2), .val (.int v1), .val (.int v2), .val (.int (v3 + v4)), .val (.int v5)] [])
    refine Go.to (fun _ => XS.aloadN X7.here hx rfl (hb hby d3_53) rfl rfl) ?_
    show Go p e below _ T7 (mkF m 54 #[.val (.ref a1), .val (.int p2), .val (.int v1), .val (.int v2), .val (.int (v3 + v4)), .val (.int v5)] [(.ref a1)])
    refine Go.oget (f := ("positions", "[I")) X7 hx hZ hown (hw _ (List.mem_of_getElem? (i := 13) rfl)) e7 O7 (k := 1) rfl rfl (hb hby d3_54) ?_
    intro T8 X8 e8
    show Go p e below _ T8 (mkF m 57 #[.val (.ref a1), .val (.int p2), .val (.int v1), .val (.int v2), .val (.int (v3 + v4)), .val (.int v5)] [(.ref b1)])
    refine Go.to (fun _ => XS.iloadN X8.here hx rfl (hb hby d3_57) rfl) ?_
    show Go p e below _ T8 (mkF m 58 #[.val (.ref a1), .val (.int p2), .val (.int v1), .val (.int v2), .val (.int (v3 + v4)), .val (.int v5)] [(.int p2), (.ref b1)])
    refine Go.to (fun _ => XS.iload X8.here hx rfl (hb hby d3_58) rfl) ?_
    show Go p e below _ T8 (mkF m 60 #[.val (.ref a1), .val (.int p2), .val (.int v1), .val (.int v2), .val (.int (v3 + v4)), .val (.int v5)] [(.int (v3 + v4)), (.int p2), (.ref b1)])
    refine Go.ostore X8 hx hZ e8 N7 O7 (k := 1) rfl rfl hv2 (hb hby d3_60) ?_
    intro T9 h9 L9 X9 e9 N9 O9
    have O9 : Obj Z n0 h0 h9 a1 "com/example/tracegauge/tracegauge/automata/Partition" nFp [(.ref b0), (.ref b1), (.ref b2), (.ref b3), (.ref b4), (.ref b5), (.ref b6), (.int tc), (.int sc)] [b0, b1, b2, b3, b4, b5, b6] [x6, (wrL po p2 (v3 + v4)), se, fi, en, ma, tu] := O9
    obtain ⟨x7, hx7, hf⟩ := Option.bind_eq_some_iff.mp hf
    rw [Option.some.inj hx7] at O9
    show Go p e below _ T9 (mkF m 61 #[.val (.ref a1), .val (.int p2), .val (.int v1), .val (.int v2), .val (.int (v3 + v4)), .val (.int v5)] [])
    refine Go.to (fun _ => XS.aloadN X9.here hx rfl (hb hby d3_61) rfl rfl) ?_
    show Go p e below _ T9 (mkF m 62 #[.val (.ref a1), .val (.int p2), .val (.int v1), .val (.int v2), .val (.int (v3 + v4)), .val (.int v5)] [(.ref a1)])
    refine Go.oget (f := ("elements", "[I")) X9 hx hZ hown (hw _ (List.mem_of_getElem? (i := 11) rfl)) e9 O9 (k := 0) rfl rfl (hb hby d3_62) ?_
    intro T10 X10 e10
    show Go p e below _ T10 (mkF m 65 #[.val (.ref a1), .val (.int p2), .val (.int v1), .val (.int v2), .val (.int (v3 + v4)), .val (.int v5)] [(.ref b0)])
    refine Go.to (fun _ => XS.iloadN X10.here hx rfl (hb hby d3_65) rfl) ?_
    show Go p e below _ T10 (mkF m 66 #[.val (.ref a1), .val (.int p2), .val (.int v1), .val (.int v2), .val (.int (v3 + v4)), .val (.int v5)] [(.int v2), (.ref b0)])
    refine Go.to (fun _ => XS.iload X10.here hx rfl (hb hby d3_66) rfl) ?_
    show Go p e below _ T10 (mkF m 68 #[.val (.ref a1), .val (.int p2), .val (.int v1), .val (.int v2), .val (.int (v3 + v4)), .val (.int v5)] [(.int v5), (.int v2), (.ref b0)])
    obtain ⟨v8, hv8, hf⟩ := Option.bind_eq_some_iff.mp hf
    refine Go.ostore X10 hx hZ e10 N9 O9 (k := 0) rfl rfl hv8 (hb hby d3_68) ?_
    intro T11 h11 L11 X11 e11 N11 O11
    have O11 : Obj Z n0 h0 h11 a1 "com/example/tracegauge/tracegauge/automata/Partition" nFp [(.ref b0), (.ref b1), (.ref b2), (.ref b3), (.ref b4), (.ref b5), (.ref b6), (.int tc), (.int sc)] [b0, b1, b2, b3, b4, b5, b6] [(wrL x6 v2 v5), x7, se, fi, en, ma, tu] := O11
    obtain ⟨x9, hx9, hf⟩ := Option.bind_eq_some_iff.mp hf
    rw [Option.some.inj hx9] at O11
    show Go p e below _ T11 (mkF m 69 #[.val (.ref a1), .val (.int p2), .val (.int v1), .val (.int v2), .val (.int (v3 + v4)), .val (.int v5)] [])
    refine Go.to (fun _ => XS.aloadN X11.here hx rfl (hb hby d3_69) rfl rfl) ?_
    show Go p e below _ T11 (mkF m 70 #[.val (.ref a1), .val (.int p2), .val (.int v1), .val (.int v2), .val (.int (v3 + v4)), .val (.int v5)] [(.ref a1)])
    refine Go.oget (f := ("positions", "[I")) X11 hx hZ hown (hw _ (List.mem_of_getElem? (i := 13) rfl)) e11 O11 (k := 1) rfl rfl (hb hby d3_70) ?_
    intro T12 X12 e12
    show Go p e below _ T12 (mkF m 73 #[.val (.ref a1), .val (.int p2), .val (.int v1), .val (.int v2), .val (.int (v3 + v4)), .val (.int v5)] [(.ref b1)])
    refine Go.to (fun _ => XS.iload X12.here hx rfl (hb hby d3_73) rfl) ?_
    show Go p e below _ T12 (mkF m 75 #[.val (.ref a1), .val (.int p2), .val (.int v1), .val (.int v2), .val (.int (v3 + v4)), .val (.int v5)] [(.int v5), (.ref b1)])
    refine Go.to (fun _ => XS.iloadN X12.here hx rfl (hb hby d3_75) rfl) ?_
    show Go p e below _ T12 (mkF m 76 #[.val (.ref a1), .val (.int p2), .val (.int v1), .val (.int v2), .val (.int (v3 + v4)), .val (.int v5)] [(.int v2), (.int v5), (.ref b1)])
    obtain ⟨v10, hv10, hf⟩ := Option.bind_eq_some_iff.mp hf
    refine Go.ostore X12 hx hZ e12 N11 O11 (k := 1) rfl rfl hv10 (hb hby d3_76) ?_
    intro T13 h13 L13 X13 e13 N13 O13
    have O13 : Obj Z n0 h0 h13 a1 "com/example/tracegauge/tracegauge/automata/Partition" nFp [(.ref b0), (.ref b1), (.ref b2), (.ref b3), (.ref b4), (.ref b5), (.ref b6), (.int tc), (.int sc)] [b0, b1, b2, b3, b4, b5, b6] [x9, (wrL x7 v5 v2), se, fi, en, ma, tu] := O13
    obtain ⟨x11, hx11, hf⟩ := Option.bind_eq_some_iff.mp hf
    rw [Option.some.inj hx11] at O13
    show Go p e below _ T13 (mkF m 77 #[.val (.ref a1), .val (.int p2), .val (.int v1), .val (.int v2), .val (.int (v3 + v4)), .val (.int v5)] [])
    refine Go.to (fun _ => XS.aloadN X13.here hx rfl (hb hby d3_77) rfl rfl) ?_
    show Go p e below _ T13 (mkF m 78 #[.val (.ref a1), .val (.int p2), .val (.int v1), .val (.int v2), .val (.int (v3 + v4)), .val (.int v5)] [(.ref a1)])
    refine Go.oget (f := ("marked", "[I")) X13 hx hZ hown (hw _ (List.mem_of_getElem? (i := 21) rfl)) e13 O13 (k := 5) rfl rfl (hb hby d3_78) ?_
    intro T14 X14 e14
    show Go p e below _ T14 (mkF m 81 #[.val (.ref a1), .val (.int p2), .val (.int v1), .val (.int v2), .val (.int (v3 + v4)), .val (.int v5)] [(.ref b5)])
    refine Go.to (fun _ => XS.iloadN X14.here hx rfl (hb hby d3_81) rfl) ?_
    show Go p e below _ T14 (mkF m 82 #[.val (.ref a1), .val (.int p2), .val (.int v1), .val (.int v2), .val (.int (v3 + v4)), .val (.int v5)] [(.int v1), (.ref b5)])
    refine Go.to (fun _ => XT.dup2 X14.here hx rfl (hb hby d3_82) rfl rfl rfl) ?_
    show Go p e below _ T14 (mkF m 83 #[.val (.ref a1), .val (.int p2), .val (.int v1), .val (.int v2), .val (.int (v3 + v4)), .val (.int v5)] [(.int v1), (.ref b5), (.int v1), (.ref b5)])
    refine Go.oload X14 hx hZ e14 O13 (k := 5) rfl rfl hv4 (hb hby d3_83) ?_
    show Go p e below _ T14 (mkF m 84 #[.val (.ref a1), .val (.int p2), .val (.int v1), .val (.int v2), .val (.int (v3 + v4)), .val (.int v5)] [(.int v4), (.int v1), (.ref b5)])
    refine Go.to (fun _ => dupX2 X14.here hx rfl (hb hby d3_84) rfl rfl rfl rfl) ?_
    show Go p e below _ T14 (mkF m 85 #[.val (.ref a1), .val (.int p2), .val (.int v1), .val (.int v2), .val (.int (v3 + v4)), .val (.int v5)] [(.int v4), (.int v1), (.ref b5), (.int v4)])
    refine Go.to (fun _ => XS.iconst X14.here hx rfl (hb hby d3_85)) ?_
    show Go p e below _ T14 (mkF m 86 #[.val (.ref a1), .val (.int p2), .val (.int v1), .val (.int v2), .val (.int (v3 + v4)), .val (.int v5)] [(.int (1 : Int32)), (.int v4), (.int v1), (.ref b5), (.int v4)])
    refine Go.to (fun _ => XS.iadd X14.here hx rfl (hb hby d3_86) rfl) ?_
    show Go p e below _ T14 (mkF m 87 #[.val (.ref a1), .val (.int p2), .val (.int v1), .val (.int v2), .val (.int (v3 + v4)), .val (.int v5)] [(.int (v4 + (1 : Int32))), (.int v1), (.ref b5), (.int v4)])
    refine Go.ostore X14 hx hZ e14 N13 O13 (k := 5) rfl rfl hv4 (hb hby d3_87) ?_
    intro T15 h15 L15 X15 e15 N15 O15
    have O15 : Obj Z n0 h0 h15 a1 "com/example/tracegauge/tracegauge/automata/Partition" nFp [(.ref b0), (.ref b1), (.ref b2), (.ref b3), (.ref b4), (.ref b5), (.ref b6), (.int tc), (.int sc)] [b0, b1, b2, b3, b4, b5, b6] [x9, x11, se, fi, en, (wrL ma v1 (v4 + (1 : Int32))), tu] := O15
    obtain ⟨x12, hx12, hf⟩ := Option.bind_eq_some_iff.mp hf
    rw [Option.some.inj hx12] at O15
    show Go p e below _ T15 (mkF m 88 #[.val (.ref a1), .val (.int p2), .val (.int v1), .val (.int v2), .val (.int (v3 + v4)), .val (.int v5)] [(.int v4)])
    by_cases hc2 : v4 = (0 : Int32)
    · rw [if_pos hc2] at hf
      refine Go.to (fun _ => XS.ifNo X15.here hx rfl (hb hby d3_88) rfl ((if0 _ _).trans (teq hc2).2)) ?_
      show Go p e below _ T15 (mkF m 91 #[.val (.ref a1), .val (.int p2), .val (.int v1), .val (.int v2), .val (.int (v3 + v4)), .val (.int v5)] [])
      refine Go.to (fun _ => XS.aloadN X15.here hx rfl (hb hby d3_91) rfl rfl) ?_
      show Go p e below _ T15 (mkF m 92 #[.val (.ref a1), .val (.int p2), .val (.int v1), .val (.int v2), .val (.int (v3 + v4)), .val (.int v5)] [(.ref a1)])
      refine Go.oget (f := ("touched", "[I")) X15 hx hZ hown (hw _ (List.mem_of_getElem? (i := 23) rfl)) e15 O15 (k := 6) rfl rfl (hb hby d3_92) ?_
      intro T16 X16 e16
      show Go p e below _ T16 (mkF m 95 #[.val (.ref a1), .val (.int p2), .val (.int v1), .val (.int v2), .val (.int (v3 + v4)), .val (.int v5)] [(.ref b6)])
      refine Go.to (fun _ => XS.aloadN X16.here hx rfl (hb hby d3_95) rfl rfl) ?_
      show Go p e below _ T16 (mkF m 96 #[.val (.ref a1), .val (.int p2), .val (.int v1), .val (.int v2), .val (.int (v3 + v4)), .val (.int v5)] [(.ref a1), (.ref b6)])
      refine Go.to (fun _ => XS.dup X16.here hx rfl (hb hby d3_96) rfl rfl) ?_
      show Go p e below _ T16 (mkF m 97 #[.val (.ref a1), .val (.int p2), .val (.int v1), .val (.int v2), .val (.int (v3 + v4)), .val (.int v5)] [(.ref a1), (.ref a1), (.ref b6)])
      refine Go.oget (f := ("touchedCount", "I")) X16 hx hZ hown (hw _ (List.mem_of_getElem? (i := 32) rfl)) e16 O15 (k := 7) rfl rfl (hb hby d3_97) ?_
      intro T17 X17 e17
      show Go p e below _ T17 (mkF m 100 #[.val (.ref a1), .val (.int p2), .val (.int v1), .val (.int v2), .val (.int (v3 + v4)), .val (.int v5)] [(.int tc), (.ref a1), (.ref b6)])
      refine Go.to (fun _ => XS.dupX1 X17.here hx rfl (hb hby d3_100) rfl rfl rfl) ?_
      show Go p e below _ T17 (mkF m 101 #[.val (.ref a1), .val (.int p2), .val (.int v1), .val (.int v2), .val (.int (v3 + v4)), .val (.int v5)] [(.int tc), (.ref a1), (.int tc), (.ref b6)])
      refine Go.to (fun _ => XS.iconst X17.here hx rfl (hb hby d3_101)) ?_
      show Go p e below _ T17 (mkF m 102 #[.val (.ref a1), .val (.int p2), .val (.int v1), .val (.int v2), .val (.int (v3 + v4)), .val (.int v5)] [(.int (1 : Int32)), (.int tc), (.ref a1), (.int tc), (.ref b6)])
      refine Go.to (fun _ => XS.iadd X17.here hx rfl (hb hby d3_102) rfl) ?_
      show Go p e below _ T17 (mkF m 103 #[.val (.ref a1), .val (.int p2), .val (.int v1), .val (.int v2), .val (.int (v3 + v4)), .val (.int v5)] [(.int (tc + (1 : Int32))), (.ref a1), (.int tc), (.ref b6)])
      refine Go.oput (f := ("touchedCount", "I")) X17 hx hZ hown (hw _ (List.mem_of_getElem? (i := 32) rfl)) e17 N15 O15 (layp hw) (k := 7) rfl rfl (Or.inl (hw _ (List.mem_of_getElem? (i := 33) rfl))) (hw _ (List.mem_of_getElem? (i := 2) rfl)) (ty := .int) (by decide) rfl rfl (hb hby d3_103) ?_
      intro T18 h18 L18 X18 e18 N18 O18
      have O18 : Obj Z n0 h0 h18 a1 "com/example/tracegauge/tracegauge/automata/Partition" nFp [(.ref b0), (.ref b1), (.ref b2), (.ref b3), (.ref b4), (.ref b5), (.ref b6), (.int (tc + (1 : Int32))), (.int sc)] [b0, b1, b2, b3, b4, b5, b6] [x9, x11, se, fi, en, x12, tu] := O18
      show Go p e below _ T18 (mkF m 106 #[.val (.ref a1), .val (.int p2), .val (.int v1), .val (.int v2), .val (.int (v3 + v4)), .val (.int v5)] [(.int tc), (.ref b6)])
      refine Go.to (fun _ => XS.iloadN X18.here hx rfl (hb hby d3_106) rfl) ?_
      show Go p e below _ T18 (mkF m 107 #[.val (.ref a1), .val (.int p2), .val (.int v1), .val (.int v2), .val (.int (v3 + v4)), .val (.int v5)] [(.int v1), (.int tc), (.ref b6)])
      obtain ⟨v13, hv13, hf⟩ := Option.bind_eq_some_iff.mp hf
      refine Go.ostore X18 hx hZ e18 N18 O18 (k := 6) rfl rfl hv13 (hb hby d3_107) ?_
      intro T19 h19 L19 X19 e19 N19 O19
      have O19 : Obj Z n0 h0 h19 a1 "com/example/tracegauge/tracegauge/automata/Partition" nFp [(.ref b0), (.ref b1), (.ref b2), (.ref b3), (.ref b4), (.ref b5), (.ref b6), (.int (tc + (1 : Int32))), (.int sc)] [b0, b1, b2, b3, b4, b5, b6] [x9, x11, se, fi, en, x12, (wrL tu tc v1)] := O19
      obtain ⟨x14, hx14, hf⟩ := Option.bind_eq_some_iff.mp hf
      rw [Option.some.inj hx14] at O19
      show Go p e below _ T19 (mkF m 108 #[.val (.ref a1), .val (.int p2), .val (.int v1), .val (.int v2), .val (.int (v3 + v4)), .val (.int v5)] [])
      simp only [Option.some.injEq, Prod.mk.injEq] at hf
      obtain ⟨rfl, rfl, rfl, rfl, rfl, rfl, rfl, rfl, rfl⟩ := hf
      rw [hK]
      exact Go.retV X19 hx hlk hret (hb hby d3_108) ⟨rfl, N19, e19 ▸ O19⟩ (by decide) (by decide)
    · rw [if_neg hc2] at hf
      refine Go.to (fun _ => XS.ifYes X15.here hx rfl (pc0 := 88) (pc' := 108) rfl (hb hby d3_88) rfl ((if0 _ _).trans (feq hc2).2) (by decide) (by decide)) ?_
      show Go p e below _ T15 (mkF m 108 #[.val (.ref a1), .val (.int p2), .val (.int v1), .val (.int v2), .val (.int (v3 + v4)), .val (.int v5)] [])
      simp only [Option.some.injEq, Prod.mk.injEq] at hf
      obtain ⟨rfl, rfl, rfl, rfl, rfl, rfl, rfl, rfl, rfl⟩ := hf
      rw [hK]
      exact Go.retV X15 hx hlk hret (hb hby d3_108) ⟨rfl, N15, e15 ▸ O15⟩ (by decide) (by decide)
def fillF : Nat → Int32 → Int32 → Int32 → List Int32 → List Int32 → Option (List Int32)
  | 0, _, _, _, _, _ => none
  | k + 1, part, pl, ev, el, se => if pl < ev then (rdL el pl).bind fun x => (rdL se x).bind fun _ => fillF k part (pl + (1 : Int32)) ev el (wrL se x part) else some se
def splitF : Nat → List Int32 → List Int32 → List Int32 → List Int32 → List Int32 → List Int32 → List Int32 → Int32 → Int32 → Option (List Int32 × List Int32 × List Int32 × List Int32 × List Int32 × List Int32 × List Int32 × Int32 × Int32)
  | 0, _, _, _, _, _, _, _, _, _ => none
  | n + 1, el, po, se, fi, en, ma, tu, tc, sc => (if (0 : Int32) < tc then ((rdL tu (tc - (1 : Int32))).bind fun v1 => ((rdL fi v1).bind fun v2 => ((rdL ma v1).bind fun v3 => ((some (wrL ma v1 (0 : Int32))).bind fun x4 => ((rdL en v1).bind fun v5 => (if (v2 + v3) = v5 then splitF n el po se fi en x4 tu (tc - (1 : Int32)) sc else (if (v5 - (v2 + v3)) < ((v2 + v3) - v2) then ((rdL fi sc).bind fun v6 => ((some (wrL fi sc (v2 + v3))).bind fun x7 => ((rdL en sc).bind fun v8 => ((some (wrL en sc v5)).bind fun x9 => ((rdL x9 v1).bind fun v10 => ((some (wrL x9 v1 (v2 + v3))).bind fun x11 => ((rdL x7 sc).bind fun v12 => ((rdL x11 sc).bind fun v13 => ((fillF 9 sc v12 v13 el se).bind fun s14 => splitF n el po s14 x7 x11 x4 tu (tc - (1 : Int32)) (sc + (1 : Int32))))))))))) else ((rdL fi sc).bind fun v6 => ((some (wrL fi sc v2)).bind fun x7 => ((rdL en sc).bind fun v8 => ((some (wrL en sc (v2 + v3))).bind fun x9 => ((rdL x7 v1).bind fun v10 => ((some (wrL x7 v1 (v2 + v3))).bind fun x11 => ((rdL x11 sc).bind fun v12 => ((rdL x9 sc).bind fun v13 => ((fillF 9 sc v12 v13 el se).bind fun s14 => splitF n el po s14 x11 x9 x4 tu (tc - (1 : Int32)) (sc + (1 : Int32)))))))))))))))))) else some (el, po, se, fi, en, ma, tu, tc, sc))
theorem d4_0 : decode prog_27_method_8_code 0 = .ok (.aload_n 0, 1) := by decide +kernel
theorem d4_1 : decode prog_27_method_8_code 1 = .ok (.getfield 35, 3) := by decide +kernel
theorem d4_4 : decode prog_27_method_8_code 4 = .ok (.ifCond .le 181, 3) := by decide +kernel
theorem d4_7 : decode prog_27_method_8_code 7 = .ok (.aload_n 0, 1) := by decide +kernel
theorem d4_8 : decode prog_27_method_8_code 8 = .ok (.getfield 28, 3) := by decide +kernel
theorem d4_11 : decode prog_27_method_8_code 11 = .ok (.aload_n 0, 1) := by decide +kernel
theorem d4_12 : decode prog_27_method_8_code 12 = .ok (.dup, 1) := by decide +kernel
theorem d4_13 : decode prog_27_method_8_code 13 = .ok (.getfield 35, 3) := by decide +kernel
theorem d4_16 : decode prog_27_method_8_code 16 = .ok (.iconst 1, 1) := by decide +kernel
theorem d4_17 : decode prog_27_method_8_code 17 = .ok (.isub, 1) := by decide +kernel
theorem d4_18 : decode prog_27_method_8_code 18 = .ok (.dup_x1, 1) := by decide +kernel
theorem d4_19 : decode prog_27_method_8_code 19 = .ok (.putfield 35, 3) := by decide +kernel
theorem d4_22 : decode prog_27_method_8_code 22 = .ok (.iaload, 1) := by decide +kernel
theorem d4_23 : decode prog_27_method_8_code 23 = .ok (.istore_n 1, 1) := by decide +kernel
theorem d4_24 : decode prog_27_method_8_code 24 = .ok (.aload_n 0, 1) := by decide +kernel
theorem d4_25 : decode prog_27_method_8_code 25 = .ok (.getfield 19, 3) := by decide +kernel
theorem d4_28 : decode prog_27_method_8_code 28 = .ok (.iload_n 1, 1) := by decide +kernel
theorem d4_29 : decode prog_27_method_8_code 29 = .ok (.iaload, 1) := by decide +kernel
theorem d4_30 : decode prog_27_method_8_code 30 = .ok (.aload_n 0, 1) := by decide +kernel
theorem d4_31 : decode prog_27_method_8_code 31 = .ok (.getfield 25, 3) := by decide +kernel
theorem d4_34 : decode prog_27_method_8_code 34 = .ok (.iload_n 1, 1) := by decide +kernel
theorem d4_35 : decode prog_27_method_8_code 35 = .ok (.iaload, 1) := by decide +kernel
theorem d4_36 : decode prog_27_method_8_code 36 = .ok (.iadd, 1) := by decide +kernel
theorem d4_37 : decode prog_27_method_8_code 37 = .ok (.istore_n 2, 1) := by decide +kernel
theorem d4_38 : decode prog_27_method_8_code 38 = .ok (.aload_n 0, 1) := by decide +kernel
theorem d4_39 : decode prog_27_method_8_code 39 = .ok (.getfield 25, 3) := by decide +kernel
theorem d4_42 : decode prog_27_method_8_code 42 = .ok (.iload_n 1, 1) := by decide +kernel
theorem d4_43 : decode prog_27_method_8_code 43 = .ok (.iconst 0, 1) := by decide +kernel
theorem d4_44 : decode prog_27_method_8_code 44 = .ok (.iastore, 1) := by decide +kernel
theorem d4_45 : decode prog_27_method_8_code 45 = .ok (.iload_n 2, 1) := by decide +kernel
theorem d4_46 : decode prog_27_method_8_code 46 = .ok (.aload_n 0, 1) := by decide +kernel
theorem d4_47 : decode prog_27_method_8_code 47 = .ok (.getfield 22, 3) := by decide +kernel
theorem d4_50 : decode prog_27_method_8_code 50 = .ok (.iload_n 1, 1) := by decide +kernel
theorem d4_51 : decode prog_27_method_8_code 51 = .ok (.iaload, 1) := by decide +kernel
theorem d4_52 : decode prog_27_method_8_code 52 = .ok (.if_icmp .ne 6, 3) := by decide +kernel
theorem d4_55 : decode prog_27_method_8_code 55 = .ok (.goto (-55), 3) := by decide +kernel
theorem d4_58 : decode prog_27_method_8_code 58 = .ok (.aload_n 0, 1) := by decide +kernel
theorem d4_59 : decode prog_27_method_8_code 59 = .ok (.dup, 1) := by decide +kernel
theorem d4_60 : decode prog_27_method_8_code 60 = .ok (.getfield 31, 3) := by decide +kernel
theorem d4_63 : decode prog_27_method_8_code 63 = .ok (.dup_x1, 1) := by decide +kernel
theorem d4_64 : decode prog_27_method_8_code 64 = .ok (.iconst 1, 1) := by decide +kernel
theorem d4_65 : decode prog_27_method_8_code 65 = .ok (.iadd, 1) := by decide +kernel
theorem d4_66 : decode prog_27_method_8_code 66 = .ok (.putfield 31, 3) := by decide +kernel
theorem d4_69 : decode prog_27_method_8_code 69 = .ok (.istore_n 3, 1) := by decide +kernel
theorem d4_70 : decode prog_27_method_8_code 70 = .ok (.iload_n 2, 1) := by decide +kernel
theorem d4_71 : decode prog_27_method_8_code 71 = .ok (.aload_n 0, 1) := by decide +kernel
theorem d4_72 : decode prog_27_method_8_code 72 = .ok (.getfield 19, 3) := by decide +kernel
theorem d4_75 : decode prog_27_method_8_code 75 = .ok (.iload_n 1, 1) := by decide +kernel
theorem d4_76 : decode prog_27_method_8_code 76 = .ok (.iaload, 1) := by decide +kernel
theorem d4_77 : decode prog_27_method_8_code 77 = .ok (.isub, 1) := by decide +kernel
theorem d4_78 : decode prog_27_method_8_code 78 = .ok (.aload_n 0, 1) := by decide +kernel
theorem d4_79 : decode prog_27_method_8_code 79 = .ok (.getfield 22, 3) := by decide +kernel
theorem d4_82 : decode prog_27_method_8_code 82 = .ok (.iload_n 1, 1) := by decide +kernel
theorem d4_83 : decode prog_27_method_8_code 83 = .ok (.iaload, 1) := by decide +kernel
theorem d4_84 : decode prog_27_method_8_code 84 = .ok (.iload_n 2, 1) := by decide +kernel
theorem d4_85 : decode prog_27_method_8_code 85 = .ok (.isub, 1) := by decide +kernel
theorem d4_86 : decode prog_27_method_8_code 86 = .ok (.if_icmp .gt 32, 3) := by decide +kernel
theorem d4_89 : decode prog_27_method_8_code 89 = .ok (.aload_n 0, 1) := by decide +kernel
theorem d4_90 : decode prog_27_method_8_code 90 = .ok (.getfield 19, 3) := by decide +kernel
theorem d4_93 : decode prog_27_method_8_code 93 = .ok (.iload_n 3, 1) := by decide +kernel
theorem d4_94 : decode prog_27_method_8_code 94 = .ok (.aload_n 0, 1) := by decide +kernel
theorem d4_95 : decode prog_27_method_8_code 95 = .ok (.getfield 19, 3) := by decide +kernel
theorem d4_98 : decode prog_27_method_8_code 98 = .ok (.iload_n 1, 1) := by decide +kernel
theorem d4_99 : decode prog_27_method_8_code 99 = .ok (.iaload, 1) := by decide +kernel
theorem d4_100 : decode prog_27_method_8_code 100 = .ok (.iastore, 1) := by decide +kernel
theorem d4_101 : decode prog_27_method_8_code 101 = .ok (.aload_n 0, 1) := by decide +kernel
theorem d4_102 : decode prog_27_method_8_code 102 = .ok (.getfield 22, 3) := by decide +kernel
theorem d4_105 : decode prog_27_method_8_code 105 = .ok (.iload_n 3, 1) := by decide +kernel
theorem d4_106 : decode prog_27_method_8_code 106 = .ok (.iload_n 2, 1) := by decide +kernel
theorem d4_107 : decode prog_27_method_8_code 107 = .ok (.iastore, 1) := by decide +kernel
theorem d4_108 : decode prog_27_method_8_code 108 = .ok (.aload_n 0, 1) := by decide +kernel
theorem d4_109 : decode prog_27_method_8_code 109 = .ok (.getfield 19, 3) := by decide +kernel
theorem d4_112 : decode prog_27_method_8_code 112 = .ok (.iload_n 1, 1) := by decide +kernel
theorem d4_113 : decode prog_27_method_8_code 113 = .ok (.iload_n 2, 1) := by decide +kernel
theorem d4_114 : decode prog_27_method_8_code 114 = .ok (.iastore, 1) := by decide +kernel
theorem d4_115 : decode prog_27_method_8_code 115 = .ok (.goto 29, 3) := by decide +kernel
theorem d4_118 : decode prog_27_method_8_code 118 = .ok (.aload_n 0, 1) := by decide +kernel
theorem d4_119 : decode prog_27_method_8_code 119 = .ok (.getfield 19, 3) := by decide +kernel
theorem d4_122 : decode prog_27_method_8_code 122 = .ok (.iload_n 3, 1) := by decide +kernel
theorem d4_123 : decode prog_27_method_8_code 123 = .ok (.iload_n 2, 1) := by decide +kernel
theorem d4_124 : decode prog_27_method_8_code 124 = .ok (.iastore, 1) := by decide +kernel
theorem d4_125 : decode prog_27_method_8_code 125 = .ok (.aload_n 0, 1) := by decide +kernel
theorem d4_126 : decode prog_27_method_8_code 126 = .ok (.getfield 22, 3) := by decide +kernel
theorem d4_129 : decode prog_27_method_8_code 129 = .ok (.iload_n 3, 1) := by decide +kernel
theorem d4_130 : decode prog_27_method_8_code 130 = .ok (.aload_n 0, 1) := by decide +kernel
theorem d4_131 : decode prog_27_method_8_code 131 = .ok (.getfield 22, 3) := by decide +kernel
theorem d4_134 : decode prog_27_method_8_code 134 = .ok (.iload_n 1, 1) := by decide +kernel
theorem d4_135 : decode prog_27_method_8_code 135 = .ok (.iaload, 1) := by decide +kernel
theorem d4_136 : decode prog_27_method_8_code 136 = .ok (.iastore, 1) := by decide +kernel
theorem d4_137 : decode prog_27_method_8_code 137 = .ok (.aload_n 0, 1) := by decide +kernel
theorem d4_138 : decode prog_27_method_8_code 138 = .ok (.getfield 22, 3) := by decide +kernel
theorem d4_141 : decode prog_27_method_8_code 141 = .ok (.iload_n 1, 1) := by decide +kernel
theorem d4_142 : decode prog_27_method_8_code 142 = .ok (.iload_n 2, 1) := by decide +kernel
theorem d4_143 : decode prog_27_method_8_code 143 = .ok (.iastore, 1) := by decide +kernel
theorem d4_144 : decode prog_27_method_8_code 144 = .ok (.aload_n 0, 1) := by decide +kernel
theorem d4_145 : decode prog_27_method_8_code 145 = .ok (.getfield 19, 3) := by decide +kernel
theorem d4_148 : decode prog_27_method_8_code 148 = .ok (.iload_n 3, 1) := by decide +kernel
theorem d4_149 : decode prog_27_method_8_code 149 = .ok (.iaload, 1) := by decide +kernel
theorem d4_150 : decode prog_27_method_8_code 150 = .ok (.istore 4, 2) := by decide +kernel
theorem d4_152 : decode prog_27_method_8_code 152 = .ok (.iload 4, 2) := by decide +kernel
theorem d4_154 : decode prog_27_method_8_code 154 = .ok (.aload_n 0, 1) := by decide +kernel
theorem d4_155 : decode prog_27_method_8_code 155 = .ok (.getfield 22, 3) := by decide +kernel
theorem d4_158 : decode prog_27_method_8_code 158 = .ok (.iload_n 3, 1) := by decide +kernel
theorem d4_159 : decode prog_27_method_8_code 159 = .ok (.iaload, 1) := by decide +kernel
theorem d4_160 : decode prog_27_method_8_code 160 = .ok (.if_icmp .ge 22, 3) := by decide +kernel
theorem d4_163 : decode prog_27_method_8_code 163 = .ok (.aload_n 0, 1) := by decide +kernel
theorem d4_164 : decode prog_27_method_8_code 164 = .ok (.getfield 16, 3) := by decide +kernel
theorem d4_167 : decode prog_27_method_8_code 167 = .ok (.aload_n 0, 1) := by decide +kernel
theorem d4_168 : decode prog_27_method_8_code 168 = .ok (.getfield 7, 3) := by decide +kernel
theorem d4_171 : decode prog_27_method_8_code 171 = .ok (.iload 4, 2) := by decide +kernel
theorem d4_173 : decode prog_27_method_8_code 173 = .ok (.iaload, 1) := by decide +kernel
theorem d4_174 : decode prog_27_method_8_code 174 = .ok (.iload_n 3, 1) := by decide +kernel
theorem d4_175 : decode prog_27_method_8_code 175 = .ok (.iastore, 1) := by decide +kernel
theorem d4_176 : decode prog_27_method_8_code 176 = .ok (.iinc 4 1, 3) := by decide +kernel
theorem d4_179 : decode prog_27_method_8_code 179 = .ok (.goto (-27), 3) := by decide +kernel
theorem d4_182 : decode prog_27_method_8_code 182 = .ok (.goto (-182), 3) := by decide +kernel
theorem d4_185 : decode prog_27_method_8_code 185 = .ok (.return_, 1) := by decide +kernel
theorem ef_rm4 (m : MethodId) (a1 : Addr) : entryFrame m #[(.ref a1)] 5 = mkF m 0 #[.val (.ref a1), .unset, .unset, .unset, .unset] [] := by first | (simp [entryFrame, mkF, argsToLocals, Value.category]; done) | rfl
set_option maxHeartbeats 40000000 in
theorem rm4 (l : Launch) (Z : State) (a0 : Array Value) (hw : ∀ d ∈ tables_1, d.before a0 Z = true) (ws : List Jvm.Cond) (a1 : Addr) (h0 : Heap) (n0 : Nat) (b0 b1 b2 b3 b4 b5 b6 : Addr) (el po se fi en ma tu : List Int32) (tc sc : Int32) (O : Obj Z n0 h0 h0 a1 "com/example/tracegauge/tracegauge/automata/Partition" nFp [.ref b0, .ref b1, .ref b2, .ref b3, .ref b4, .ref b5, .ref b6, .int tc, .int sc] [b0, b1, b2, b3, b4, b5, b6] [el, po, se, fi, en, ma, tu]) (fuel : Nat) (el' po' se' fi' en' ma' tu' : List Int32) (tc' sc' : Int32) (hf : splitF fuel el po se fi en ma tu tc sc = some (el', po', se', fi', en', ma', tu', tc', sc')) :
    Met1 l Z (⟨"com/example/tracegauge/tracegauge/automata/Partition", "split", "()V"⟩ : MethodName) prog_27_method_8_code 5 none ws ({ frames := 0, cells := 0, slots := 0, locals := 0 } : Room) #[(.ref a1)] h0 (fun v h L => v = none ∧ Fr n0 L ∧ Obj Z n0 h0 h a1 "com/example/tracegauge/tracegauge/automata/Partition" nFp [.ref b0, .ref b1, .ref b2, .ref b3, .ref b4, .ref b5, .ref b6, .int tc', .int sc'] [b0, b1, b2, b3, b4, b5, b6] [el', po', se', fi', en', ma', tu']) := by
  refine metOf (by first | exact plainFor_of_name (by first | (simp [plainName, overriddenIn]; done) | decide +kernel) | decide +kernel) ?_
  intro p e s m below meth c s₁ hx hby hml hown hnm hret hlk hZ X0 e0
  have hown : s.vm.findClass "com/example/tracegauge/tracegauge/automata/Partition" = some m.cls := hown
  obtain ⟨K, hK⟩ : ∃ K, K = KQ s (fun v h L => v = none ∧ Fr n0 L ∧ Obj Z n0 h0 h a1 "com/example/tracegauge/tracegauge/automata/Partition" nFp [.ref b0, .ref b1, .ref b2, .ref b3, .ref b4, .ref b5, .ref b6, .int tc', .int sc'] [b0, b1, b2, b3, b4, b5, b6] [el', po', se', fi', en', ma', tu']) (({ frames := 0, cells := 0, slots := 0, locals := 0 } : Room)).cells (({ frames := 0, cells := 0, slots := 0, locals := 0 } : Room)).slots := ⟨_, rfl⟩
  show Go p e below (KQ s (fun v h L => v = none ∧ Fr n0 L ∧ Obj Z n0 h0 h a1 "com/example/tracegauge/tracegauge/automata/Partition" nFp [.ref b0, .ref b1, .ref b2, .ref b3, .ref b4, .ref b5, .ref b6, .int tc', .int sc'] [b0, b1, b2, b3, b4, b5, b6] [el', po', se', fi', en', ma', tu']) (({ frames := 0, cells := 0, slots := 0, locals := 0 } : Room)).cells (({ frames := 0, cells := 0, slots := 0, locals := 0 } : Room)).slots) s₁ (entryFrame m #[(.ref a1)] 5)
  rw [← hK, ef_rm4 m a1]
  show Go p e below _ s₁ (mkF m 0 #[.val (.ref a1), .unset, .unset, .unset, .unset] [])
  have loop : ∀ (fuel : Nat) (el po se fi en ma tu : List Int32) (tc sc : Int32) (l1 l2 l3 l4 : Slot), One l1 → One l2 → One l3 → One l4 → splitF fuel el po se fi en ma tu tc sc = some (el', po', se', fi', en', ma', tu', tc', sc') → ∀ (T : State) (h : Heap) (L : List Loc), Stand p l e ({ frames := 0, cells := 0, slots := 0, locals := 0 } : Room) s m #[.ref a1] below meth c T L 0 0 → T.heap = h → Fr n0 L → Obj Z n0 h0 h a1 "com/example/tracegauge/tracegauge/automata/Partition" nFp [.ref b0, .ref b1, .ref b2, .ref b3, .ref b4, .ref b5, .ref b6, .int tc, .int sc] [b0, b1, b2, b3, b4, b5, b6] [el, po, se, fi, en, ma, tu] → Go p e below K T (mkF m 0 #[.val (.ref a1), l1, l2, l3, l4] []) := by
    clear hf O
    intro fuel
    induction fuel with
    | zero => intro el po se fi en ma tu tc sc l1 l2 l3 l4 hl1 hl2 hl3 hl4 hf; simp [splitF] at hf
    | succ fuel ih =>
      intro el po se fi en ma tu tc sc l1 l2 l3 l4 hl1 hl2 hl3 hl4 hf T h L X e' N O
      rw [splitF] at hf
      show Go p e below _ T (mkF m 0 #[.val (.ref a1), l1, l2, l3, l4] [])
      refine Go.to (fun _ => XS.aloadN X.here hx rfl (hb hby d4_0) rfl rfl) ?_
      show Go p e below _ T (mkF m 1 #[.val (.ref a1), l1, l2, l3, l4] [(.ref a1)])
      refine Go.oget (f := ("touchedCount", "I")) X hx hZ hown (hw _ (List.mem_of_getElem? (i := 32) rfl)) e' O (k := 7) rfl rfl (hb hby d4_1) ?_
      intro T1 X1 e1
      show Go p e below _ T1 (mkF m 4 #[.val (.ref a1), l1, l2, l3, l4] [(.int tc)])
      by_cases hc1 : (0 : Int32) < tc
      · rw [if_pos hc1] at hf
        refine Go.to (fun _ => XS.ifNo X1.here hx rfl (hb hby d4_4) rfl ((if0 _ _).trans (tlt hc1).2.2.2)) ?_
        show Go p e below _ T1 (mkF m 7 #[.val (.ref a1), l1, l2, l3, l4] [])
        refine Go.to (fun _ => XS.aloadN X1.here hx rfl (hb hby d4_7) rfl rfl) ?_
        show Go p e below _ T1 (mkF m 8 #[.val (.ref a1), l1, l2, l3, l4] [(.ref a1)])
        refine Go.oget (f := ("touched", "[I")) X1 hx hZ hown (hw _ (List.mem_of_getElem? (i := 23) rfl)) e1 O (k := 6) rfl rfl (hb hby d4_8) ?_
        intro T2 X2 e2
        show Go p e below _ T2 (mkF m 11 #[.val (.ref a1), l1, l2, l3, l4] [(.ref b6)])
        refine Go.to (fun _ => XS.aloadN X2.here hx rfl (hb hby d4_11) rfl rfl) ?_
        show Go p e below _ T2 (mkF m 12 #[.val (.ref a1), l1, l2, l3, l4] [(.ref a1), (.ref b6)])
        refine Go.to (fun _ => XS.dup X2.here hx rfl (hb hby d4_12) rfl rfl) ?_
        show Go p e below _ T2 (mkF m 13 #[.val (.ref a1), l1, l2, l3, l4] [(.ref a1), (.ref a1), (.ref b6)])
        refine Go.oget (f := ("touchedCount", "I")) X2 hx hZ hown (hw _ (List.mem_of_getElem? (i := 32) rfl)) e2 O (k := 7) rfl rfl (hb hby d4_13) ?_
        intro T3 X3 e3
        show Go p e below _ T3 (mkF m 16 #[.val (.ref a1), l1, l2, l3, l4] [(.int tc), (.ref a1), (.ref b6)])
        refine Go.to (fun _ => XS.iconst X3.here hx rfl (hb hby d4_16)) ?_
        show Go p e below _ T3 (mkF m 17 #[.val (.ref a1), l1, l2, l3, l4] [(.int (1 : Int32)), (.int tc), (.ref a1), (.ref b6)])
        refine Go.to (fun _ => XS.isub X3.here hx rfl (hb hby d4_17) rfl) ?_
        show Go p e below _ T3 (mkF m 18 #[.val (.ref a1), l1, l2, l3, l4] [(.int (tc - (1 : Int32))), (.ref a1), (.ref b6)])
        refine Go.to (fun _ => XS.dupX1 X3.here hx rfl (hb hby d4_18) rfl rfl rfl) ?_
        show Go p e below _ T3 (mkF m 19 #[.val (.ref a1), l1, l2, l3, l4] [(.int (tc - (1 : Int32))), (.ref a1), (.int (tc - (1 : Int32))), (.ref b6)])
        refine Go.oput (f := ("touchedCount", "I")) X3 hx hZ hown (hw _ (List.mem_of_getElem? (i := 32) rfl)) e3 N O (layp hw) (k := 7) rfl rfl (Or.inl (hw _ (List.mem_of_getElem? (i := 33) rfl))) (hw _ (List.mem_of_getElem? (i := 2) rfl)) (ty := .int) (by decide) rfl rfl (hb hby d4_19) ?_
        intro T4 h4 L4 X4 e4 N4 O4
        have O4 : Obj Z n0 h0 h4 a1 "com/example/tracegauge/tracegauge/automata/Partition" nFp [(.ref b0), (.ref b1), (.ref b2), (.ref b3), (.ref b4), (.ref b5), (.ref b6), (.int (tc - (1 : Int32))), (.int sc)] [b0, b1, b2, b3, b4, b5, b6] [el, po, se, fi, en, ma, tu] := O4
        show Go p e below _ T4 (mkF m 22 #[.val (.ref a1), l1, l2, l3, l4] [(.int (tc - (1 : Int32))), (.ref b6)])
        obtain ⟨v1, hv1, hf⟩ := Option.bind_eq_some_iff.mp hf
        refine Go.oload X4 hx hZ e4 O4 (k := 6) rfl rfl hv1 (hb hby d4_22) ?_
        show Go p e below _ T4 (mkF m 23 #[.val (.ref a1), l1, l2, l3, l4] [(.int v1)])
        refine Go.to (fun _ => XS.istoreNS X4.here hx rfl (hb hby d4_23) rfl rfl hl1) ?_
        show Go p e below _ T4 (mkF m 24 #[.val (.ref a1), .val (.int v1), l2, l3, l4] [])
        refine Go.to (fun _ => XS.aloadN X4.here hx rfl (hb hby d4_24) rfl rfl) ?_
        show Go p e below _ T4 (mkF m 25 #[.val (.ref a1), .val (.int v1), l2, l3, l4] [(.ref a1)])
        refine Go.oget (f := ("first", "[I")) X4 hx hZ hown (hw _ (List.mem_of_getElem? (i := 17) rfl)) e4 O4 (k := 3) rfl rfl (hb hby d4_25) ?_
        intro T5 X5 e5
        show Go p e below _ T5 (mkF m 28 #[.val (.ref a1), .val (.int v1), l2, l3, l4] [(.ref b3)])
        refine Go.to (fun _ => XS.iloadN X5.here hx rfl (hb hby d4_28) rfl) ?_
        show Go p e below _ T5 (mkF m 29 #[.val (.ref a1), .val (.int v1), l2, l3, l4] [(.int v1), (.ref b3)])
        obtain ⟨v2, hv2, hf⟩ := Option.bind_eq_some_iff.mp hf
        refine Go.oload X5 hx hZ e5 O4 (k := 3) rfl rfl hv2 (hb hby d4_29) ?_
        show Go p e below _ T5 (mkF m 30 #[.val (.ref a1), .val (.int v1), l2, l3, l4] [(.int v2)])
        refine Go.to (fun _ => XS.aloadN X5.here hx rfl (hb hby d4_30) rfl rfl) ?_
        show Go p e below _ T5 (mkF m 31 #[.val (.ref a1), .val (.int v1), l2, l3, l4] [(.ref a1), (.int v2)])
        refine Go.oget (f := ("marked", "[I")) X5 hx hZ hown (hw _ (List.mem_of_getElem? (i := 21) rfl)) e5 O4 (k := 5) rfl rfl (hb hby d4_31) ?_
        intro T6 X6 e6
        show Go p e below _ T6 (mkF m 34 #[.val (.ref a1), .val (.int v1), l2, l3, l4] [(.ref b5), (.int v2)])
        refine Go.to (fun _ => XS.iloadN X6.here hx rfl (hb hby d4_34) rfl) ?_
        show Go p e below _ T6 (mkF m 35 #[.val (.ref a1), .val (.int v1), l2, l3, l4] [(.int v1), (.ref b5), (.int v2)])
        obtain ⟨v3, hv3, hf⟩ := Option.bind_eq_some_iff.mp hf
        refine Go.oload X6 hx hZ e6 O4 (k := 5) rfl rfl hv3 (hb hby d4_35) ?_
        show Go p e below _ T6 (mkF m 36 #[.val (.ref a1), .val (.int v1), l2, l3, l4] [(.int v3), (.int v2)])
        refine Go.to (fun _ => XS.iadd X6.here hx rfl (hb hby d4_36) rfl) ?_
        show Go p e below _ T6 (mkF m 37 #[.val (.ref a1), .val (.int v1), l2, l3, l4] [(.int (v2 + v3))])
        refine Go.to (fun _ => XS.istoreNS X6.here hx rfl (hb hby d4_37) rfl rfl hl2) ?_
        show Go p e below _ T6 (mkF m 38 #[.val (.ref a1), .val (.int v1), .val (.int (v2 + v3)), l3, l4] [])
        refine Go.to (fun _ => XS.aloadN X6.here hx rfl (hb hby d4_38) rfl rfl) ?_
        show Go p e below _ T6 (mkF m 39 #[.val (.ref a1), .val (.int v1), .val (.int (v2 + v3)), l3, l4] [(.ref a1)])
        refine Go.oget (f := ("marked", "[I")) X6 hx hZ hown (hw _ (List.mem_of_getElem? (i := 21) rfl)) e6 O4 (k := 5) rfl rfl (hb hby d4_39) ?_
        intro T7 X7 e7
        show Go p e below _ T7 (mkF m 42 #[.val (.ref a1), .val (.int v1), .val (.int (v2 + v3)), l3, l4] [(.ref b5)])
        refine Go.to (fun _ => XS.iloadN X7.here hx rfl (hb hby d4_42) rfl) ?_
        show Go p e below _ T7 (mkF m 43 #[.val (.ref a1), .val (.int v1), .val (.int (v2 + v3)), l3, l4] [(.int v1), (.ref b5)])
        refine Go.to (fun _ => XS.iconst X7.here hx rfl (hb hby d4_43)) ?_
        show Go p e below _ T7 (mkF m 44 #[.val (.ref a1), .val (.int v1), .val (.int (v2 + v3)), l3, l4] [(.int (0 : Int32)), (.int v1), (.ref b5)])
        refine Go.ostore X7 hx hZ e7 N4 O4 (k := 5) rfl rfl hv3 (hb hby d4_44) ?_
        intro T8 h8 L8 X8 e8 N8 O8
        have O8 : Obj Z n0 h0 h8 a1 "com/example/tracegauge/tracegauge/automata/Partition" nFp [(.ref b0), (.ref b1), (.ref b2), (.ref b3), (.ref b4), (.ref b5), (.ref b6), (.int (tc - (1 : Int32))), (.int sc)] [b0, b1, b2, b3, b4, b5, b6] [el, po, se, fi, en, (wrL ma v1 (0 : Int32)), tu] := O8
        obtain ⟨x4, hx4, hf⟩ := Option.bind_eq_some_iff.mp hf
        rw [Option.some.inj hx4] at O8
        show Go p e below _ T8 (mkF m 45 #[.val (.ref a1), .val (.int v1), .val (.int (v2 + v3)), l3, l4] [])
        refine Go.to (fun _ => XS.iloadN X8.here hx rfl (hb hby d4_45) rfl) ?_
        show Go p e below _ T8 (mkF m 46 #[.val (.ref a1), .val (.int v1), .val (.int (v2 + v3)), l3, l4] [(.int (v2 + v3))])
        refine Go.to (fun _ => XS.aloadN X8.here hx rfl (hb hby d4_46) rfl rfl) ?_
        show Go p e below _ T8 (mkF m 47 #[.val (.ref a1), .val (.int v1), .val (.int (v2 + v3)), l3, l4] [(.ref a1), (.int (v2 + v3))])
        refine Go.oget (f := ("end", "[I")) X8 hx hZ hown (hw _ (List.mem_of_getElem? (i := 19) rfl)) e8 O8 (k := 4) rfl rfl (hb hby d4_47) ?_
        intro T9 X9 e9
        show Go p e below _ T9 (mkF m 50 #[.val (.ref a1), .val (.int v1), .val (.int (v2 + v3)), l3, l4] [(.ref b4), (.int (v2 + v3))])
        refine Go.to (fun _ => XS.iloadN X9.here hx rfl (hb hby d4_50) rfl) ?_
        show Go p e below _ T9 (mkF m 51 #[.val (.ref a1), .val (.int v1), .val (.int (v2 + v3)), l3, l4] [(.int v1), (.ref b4), (.int (v2 + v3))])
        obtain ⟨v5, hv5, hf⟩ := Option.bind_eq_some_iff.mp hf
        refine Go.oload X9 hx hZ e9 O8 (k := 4) rfl rfl hv5 (hb hby d4_51) ?_
        show Go p e below _ T9 (mkF m 52 #[.val (.ref a1), .val (.int v1), .val (.int (v2 + v3)), l3, l4] [(.int v5), (.int (v2 + v3))])
        by_cases hc2 : (v2 + v3) = v5
        · rw [if_pos hc2] at hf
          refine Go.to (fun _ => XS.icmpNo X9.here hx rfl (hb hby d4_52) rfl (teq hc2).2) ?_
          show Go p e below _ T9 (mkF m 55 #[.val (.ref a1), .val (.int v1), .val (.int (v2 + v3)), l3, l4] [])
          refine Go.to (fun _ => XS.goto X9.here hx rfl (pc0 := 55) (pc' := 0) rfl (hb hby d4_55) (by decide) (by decide)) ?_
          show Go p e below _ T9 (mkF m 0 #[.val (.ref a1), .val (.int v1), .val (.int (v2 + v3)), l3, l4] [])
          exact ih _ _ _ _ _ _ _ _ _ _ _ _ _ (One.val rfl) (One.val rfl) hl3 hl4 hf _ _ _ X9 e9 N8 O8
        · rw [if_neg hc2] at hf
          refine Go.to (fun _ => XS.icmpYes X9.here hx rfl (pc0 := 52) (pc' := 58) rfl (hb hby d4_52) rfl (feq hc2).2 (by decide) (by decide)) ?_
          show Go p e below _ T9 (mkF m 58 #[.val (.ref a1), .val (.int v1), .val (.int (v2 + v3)), l3, l4] [])
          refine Go.to (fun _ => XS.aloadN X9.here hx rfl (hb hby d4_58) rfl rfl) ?_
          show Go p e below _ T9 (mkF m 59 #[.val (.ref a1), .val (.int v1), .val (.int (v2 + v3)), l3, l4] [(.ref a1)])
          refine Go.to (fun _ => XS.dup X9.here hx rfl (hb hby d4_59) rfl rfl) ?_
          show Go p e below _ T9 (mkF m 60 #[.val (.ref a1), .val (.int v1), .val (.int (v2 + v3)), l3, l4] [(.ref a1), (.ref a1)])
          refine Go.oget (f := ("setCount", "I")) X9 hx hZ hown (hw _ (List.mem_of_getElem? (i := 25) rfl)) e9 O8 (k := 8) rfl rfl (hb hby d4_60) ?_
          intro T10 X10 e10
          show Go p e below _ T10 (mkF m 63 #[.val (.ref a1), .val (.int v1), .val (.int (v2 + v3)), l3, l4] [(.int sc), (.ref a1)])
          refine Go.to (fun _ => XS.dupX1 X10.here hx rfl (hb hby d4_63) rfl rfl rfl) ?_
          show Go p e below _ T10 (mkF m 64 #[.val (.ref a1), .val (.int v1), .val (.int (v2 + v3)), l3, l4] [(.int sc), (.ref a1), (.int sc)])
          refine Go.to (fun _ => XS.iconst X10.here hx rfl (hb hby d4_64)) ?_
          show Go p e below _ T10 (mkF m 65 #[.val (.ref a1), .val (.int v1), .val (.int (v2 + v3)), l3, l4] [(.int (1 : Int32)), (.int sc), (.ref a1), (.int sc)])
          refine Go.to (fun _ => XS.iadd X10.here hx rfl (hb hby d4_65) rfl) ?_
          show Go p e below _ T10 (mkF m 66 #[.val (.ref a1), .val (.int v1), .val (.int (v2 + v3)), l3, l4] [(.int (sc + (1 : Int32))), (.ref a1), (.int sc)])
          refine Go.oput (f := ("setCount", "I")) X10 hx hZ hown (hw _ (List.mem_of_getElem? (i := 25) rfl)) e10 N8 O8 (layp hw) (k := 8) rfl rfl (Or.inl (hw _ (List.mem_of_getElem? (i := 26) rfl))) (hw _ (List.mem_of_getElem? (i := 2) rfl)) (ty := .int) (by decide) rfl rfl (hb hby d4_66) ?_
          intro T11 h11 L11 X11 e11 N11 O11
          have O11 : Obj Z n0 h0 h11 a1 "com/example/tracegauge/tracegauge/automata/Partition" nFp [(.ref b0), (.ref b1), (.ref b2), (.ref b3), (.ref b4), (.ref b5), (.ref b6), (.int (tc - (1 : Int32))), (.int (sc + (1 : Int32)))] [b0, b1, b2, b3, b4, b5, b6] [el, po, se, fi, en, x4, tu] := O11
          show Go p e below _ T11 (mkF m 69 #[.val (.ref a1), .val (.int v1), .val (.int (v2 + v3)), l3, l4] [(.int sc)])
          refine Go.to (fun _ => XS.istoreNS X11.here hx rfl (hb hby d4_69) rfl rfl hl3) ?_
          show Go p e below _ T11 (mkF m 70 #[.val (.ref a1), .val (.int v1), .val (.int (v2 + v3)), .val (.int sc), l4] [])
          refine Go.to (fun _ => XS.iloadN X11.here hx rfl (hb hby d4_70) rfl) ?_
          show Go p e below _ T11 (mkF m 71 #[.val (.ref a1), .val (.int v1), .val (.int (v2 + v3)), .val (.int sc), l4] [(.int (v2 + v3))])
          refine Go.to (fun _ => XS.aloadN X11.here hx rfl (hb hby d4_71) rfl rfl) ?_
          show Go p e below _ T11 (mkF m 72 #[.val (.ref a1), .val (.int v1), .val (.int (v2 + v3)), .val (.int sc), l4] [(.ref a1), (.int (v2 + v3))])
          refine Go.oget (f := ("first", "[I")) X11 hx hZ hown (hw _ (List.mem_of_getElem? (i := 17) rfl)) e11 O11 (k := 3) rfl rfl (hb hby d4_72) ?_
          intro T12 X12 e12
          show Go p e below _ T12 (mkF m 75 #[.val (.ref a1), .val (.int v1), .val (.int (v2 + v3)), .val (.int sc), l4] [(.ref b3), (.int (v2 + v3))])
          refine Go.to (fun _ => XS.iloadN X12.here hx rfl (hb hby d4_75) rfl) ?_
          show Go p e below _ T12 (mkF m 76 #[.val (.ref a1), .val (.int v1), .val (.int (v2 + v3)), .val (.int sc), l4] [(.int v1), (.ref b3), (.int (v2 + v3))])
          refine Go.oload X12 hx hZ e12 O11 (k := 3) rfl rfl hv2 (hb hby d4_76) ?_
          show Go p e below _ T12 (mkF m 77 #[.val (.ref a1), .val (.int v1), .val (.int (v2 + v3)), .val (.int sc), l4] [(.int v2), (.int (v2 + v3))])
          refine Go.to (fun _ => XS.isub X12.here hx rfl (hb hby d4_77) rfl) ?_
          show Go p e below _ T12 (mkF m 78 #[.val (.ref a1), .val (.int v1), .val (.int (v2 + v3)), .val (.int sc), l4] [(.int ((v2 + v3) - v2))])
          refine Go.to (fun _ => XS.aloadN X12.here hx rfl (hb hby d4_78) rfl rfl) ?_
          show Go p e below _ T12 (mkF m 79 #[.val (.ref a1), .val (.int v1), .val (.int (v2 + v3)), .val (.int sc), l4] [(.ref a1), (.int ((v2 + v3) - v2))])
          refine Go.oget (f := ("end", "[I")) X12 hx hZ hown (hw _ (List.mem_of_getElem? (i := 19) rfl)) e12 O11 (k := 4) rfl rfl (hb hby d4_79) ?_
          intro T13 X13 e13
          show Go p e below _ T13 (mkF m 82 #[.val (.ref a1), .val (.int v1), .val (.int (v2 + v3)), .val (.int sc), l4] [(.ref b4), (.int ((v2 + v3) - v2))])
          refine Go.to (fun _ => XS.iloadN X13.here hx rfl (hb hby d4_82) rfl) ?_
          show Go p e below _ T13 (mkF m 83 #[.val (.ref a1), .val (.int v1), .val (.int (v2 + v3)), .val (.int sc), l4] [(.int v1), (.ref b4), (.int ((v2 + v3) - v2))])
          refine Go.oload X13 hx hZ e13 O11 (k := 4) rfl rfl hv5 (hb hby d4_83) ?_
          show Go p e below _ T13 (mkF m 84 #[.val (.ref a1), .val (.int v1), .val (.int (v2 + v3)), .val (.int sc), l4] [(.int v5), (.int ((v2 + v3) - v2))])
          refine Go.to (fun _ => XS.iloadN X13.here hx rfl (hb hby d4_84) rfl) ?_
          show Go p e below _ T13 (mkF m 85 #[.val (.ref a1), .val (.int v1), .val (.int (v2 + v3)), .val (.int sc), l4] [(.int (v2 + v3)), (.int v5), (.int ((v2 + v3) - v2))])
          refine Go.to (fun _ => XS.isub X13.here hx rfl (hb hby d4_85) rfl) ?_
          show Go p e below _ T13 (mkF m 86 #[.val (.ref a1), .val (.int v1), .val (.int (v2 + v3)), .val (.int sc), l4] [(.int (v5 - (v2 + v3))), (.int ((v2 + v3) - v2))])
          by_cases hc3 : (v5 - (v2 + v3)) < ((v2 + v3) - v2)
          · rw [if_pos hc3] at hf
            refine Go.to (fun _ => XS.icmpYes X13.here hx rfl (pc0 := 86) (pc' := 118) rfl (hb hby d4_86) rfl (tlt hc3).2.2.1 (by decide) (by decide)) ?_
            show Go p e below _ T13 (mkF m 118 #[.val (.ref a1), .val (.int v1), .val (.int (v2 + v3)), .val (.int sc), l4] [])
            refine Go.to (fun _ => XS.aloadN X13.here hx rfl (hb hby d4_118) rfl rfl) ?_
            show Go p e below _ T13 (mkF m 119 #[.val (.ref a1), .val (.int v1), .val (.int (v2 + v3)), .val (.int sc), l4] [(.ref a1)])
            refine Go.oget (f := ("first", "[I")) X13 hx hZ hown (hw _ (List.mem_of_getElem? (i := 17) rfl)) e13 O11 (k := 3) rfl rfl (hb hby d4_119) ?_
            intro T14 X14 e14
            show Go p e below _ T14 (mkF m 122 #[.val (.ref a1), .val (.int v1), .val (.int (v2 + v3)), .val (.int sc), l4] [(.ref b3)])
            refine Go.to (fun _ => XS.iloadN X14.here hx rfl (hb hby d4_122) rfl) ?_
            show Go p e below _ T14 (mkF m 123 #[.val (.ref a1), .val (.int v1), .val (.int (v2 + v3)), .val (.int sc), l4] [(.int sc), (.ref b3)])
            refine Go.to (fun _ => XS.iloadN X14.here hx rfl (hb hby d4_123) rfl) ?_
            show Go p e below _ T14 (mkF m 124 #[.val (.ref a1), .val (.int v1), .val (.int (v2 + v3)), .val (.int sc), l4] [(.int (v2 + v3)), (.int sc), (.ref b3)])
            obtain ⟨v6, hv6, hf⟩ := Option.bind_eq_some_iff.mp hf
            refine Go.ostore X14 hx hZ e14 N11 O11 (k := 3) rfl rfl hv6 (hb hby d4_124) ?_
            intro T15 h15 L15 X15 e15 N15 O15
            have O15 : Obj Z n0 h0 h15 a1 "com/example/tracegauge/tracegauge/automata/Partition" nFp [(.ref b0), (.ref b1), (.ref b2), (.ref b3), (.ref b4), (.ref b5), (.ref b6), (.int (tc - (1 : Int32))), (.int (sc + (1 : Int32)))] [b0, b1, b2, b3, b4, b5, b6] [el, po, se, (wrL fi sc (v2 + v3)), en, x4, tu] := O15
            obtain ⟨x7, hx7, hf⟩ := Option.bind_eq_some_iff.mp hf
            rw [Option.some.inj hx7] at O15
            show Go p e below _ T15 (mkF m 125 #[.val (.ref a1), .val (.int v1), .val (.int (v2 + v3)), .val (.int sc), l4] [])
            refine Go.to (fun _ => XS.aloadN X15.here hx rfl (hb hby d4_125) rfl rfl) ?_
            show Go p e below _ T15 (mkF m 126 #[.val (.ref a1), .val (.int v1), .val (.int (v2 + v3)), .val (.int sc), l4] [(.ref a1)])
            refine Go.oget (f := ("end", "[I")) X15 hx hZ hown (hw _ (List.mem_of_getElem? (i := 19) rfl)) e15 O15 (k := 4) rfl rfl (hb hby d4_126) ?_
            intro T16 X16 e16
            show Go p e below _ T16 (mkF m 129 #[.val (.ref a1), .val (.int v1), .val (.int (v2 + v3)), .val (.int sc), l4] [(.ref b4)])
            refine Go.to (fun _ => XS.iloadN X16.here hx rfl (hb hby d4_129) rfl) ?_
            show Go p e below _ T16 (mkF m 130 #[.val (.ref a1), .val (.int v1), .val (.int (v2 + v3)), .val (.int sc), l4] [(.int sc), (.ref b4)])
            refine Go.to (fun _ => XS.aloadN X16.here hx rfl (hb hby d4_130) rfl rfl) ?_
            show Go p e below _ T16 (mkF m 131 #[.val (.ref a1), .val (.int v1), .val (.int (v2 + v3)), .val (.int sc), l4] [(.ref a1), (.int sc), (.ref b4)])
            refine Go.oget (f := ("end", "[I")) X16 hx hZ hown (hw _ (List.mem_of_getElem? (i := 19) rfl)) e16 O15 (k := 4) rfl rfl (hb hby d4_131) ?_
            intro T17 X17 e17
            show Go p e below _ T17 (mkF m 134 #[.val (.ref a1), .val (.int v1), .val (.int (v2 + v3)), .val (.int sc), l4] [(.ref b4), (.int sc), (.ref b4)])
            refine Go.to (fun _ => XS.iloadN X17.here hx rfl (hb hby d4_134) rfl) ?_
            show Go p e below _ T17 (mkF m 135 #[.val (.ref a1), .val (.int v1), .val (.int (v2 + v3)), .val (.int sc), l4] [(.int v1), (.ref b4), (.int sc), (.ref b4)])
            refine Go.oload X17 hx hZ e17 O15 (k := 4) rfl rfl hv5 (hb hby d4_135) ?_
            show Go p e below _ T17 (mkF m 136 #[.val (.ref a1), .val (.int v1), .val (.int (v2 + v3)), .val (.int sc), l4] [(.int v5), (.int sc), (.ref b4)])
            obtain ⟨v8, hv8, hf⟩ := Option.bind_eq_some_iff.mp hf
            refine Go.ostore X17 hx hZ e17 N15 O15 (k := 4) rfl rfl hv8 (hb hby d4_136) ?_
            intro T18 h18 L18 X18 e18 N18 O18
            have O18 : Obj Z n0 h0 h18 a1 "com/example/tracegauge/tracegauge/automata/Partition" nFp [(.ref b0), (.ref b1), (.ref b2), (.ref b3), (.ref b4), (.ref b5), (.ref b6), (.int (tc - (1 : Int32))), (.int (sc + (1 : Int32)))] [b0, b1, b2, b3, b4, b5, b6] [el, po, se, x7, (wrL en sc v5), x4, tu] := O18
            obtain ⟨x9, hx9, hf⟩ := Option.bind_eq_some_iff.mp hf
            rw [Option.some.inj hx9] at O18
            show Go p e below _ T18 (mkF m 137 #[.val (.ref a1), .val (.int v1), .val (.int (v2 + v3)), .val (.int sc), l4] [])
            refine Go.to (fun _ => XS.aloadN X18.here hx rfl (hb hby d4_137) rfl rfl) ?_
            show Go p e below _ T18 (mkF m 138 #[.val (.ref a1), .val (.int v1), .val (.int (v2 + v3)), .val (.int sc), l4] [(.ref a1)])
            refine Go.oget (f := ("end", "[I")) X18 hx hZ hown (hw _ (List.mem_of_getElem? (i := 19) rfl)) e18 O18 (k := 4) rfl rfl (hb hby d4_138) ?_
            intro T19 X19 e19
            show Go p e below _ T19 (mkF m 141 #[.val (.ref a1), .val (.int v1), .val (.int (v2 + v3)), .val (.int sc), l4] [(.ref b4)])
            refine Go.to (fun _ => XS.iloadN X19.here hx rfl (hb hby d4_141) rfl) ?_
            show Go p e below _ T19 (mkF m 142 #[.val (.ref a1), .val (.int v1), .val (.int (v2 + v3)), .val (.int sc), l4] [(.int v1), (.ref b4)])
            refine Go.to (fun _ => XS.iloadN X19.here hx rfl (hb hby d4_142) rfl) ?_
            show Go p e below _ T19 (mkF m 143 #[.val (.ref a1), .val (.int v1), .val (.int (v2 + v3)), .val (.int sc), l4] [(.int (v2 + v3)), (.int v1), (.ref b4)])
            obtain ⟨v10, hv10, hf⟩ := Option.bind_eq_some_iff.mp hf
            refine Go.ostore X19 hx hZ e19 N18 O18 (k := 4) rfl rfl hv10 (hb hby d4_143) ?_
            intro T20 h20 L20 X20 e20 N20 O20
            have O20 : Obj Z n0 h0 h20 a1 "com/example/tracegauge/tracegauge/automata/Partition" nFp [(.ref b0), (.ref b1), (.ref b2), (.ref b3), (.ref b4), (.ref b5), (.ref b6), (.int (tc - (1 : Int32))), (.int (sc + (1 : Int32)))] [b0, b1, b2, b3, b4, b5, b6] [el, po, se, x7, (wrL x9 v1 (v2 + v3)), x4, tu] := O20
            obtain ⟨x11, hx11, hf⟩ := Option.bind_eq_some_iff.mp hf
            rw [Option.some.inj hx11] at O20
            show Go p e below _ T20 (mkF m 144 #[.val (.ref a1), .val (.int v1), .val (.int (v2 + v3)), .val (.int sc), l4] [])
            refine Go.to (fun _ => XS.aloadN X20.here hx rfl (hb hby d4_144) rfl rfl) ?_
            show Go p e below _ T20 (mkF m 145 #[.val (.ref a1), .val (.int v1), .val (.int (v2 + v3)), .val (.int sc), l4] [(.ref a1)])
            refine Go.oget (f := ("first", "[I")) X20 hx hZ hown (hw _ (List.mem_of_getElem? (i := 17) rfl)) e20 O20 (k := 3) rfl rfl (hb hby d4_145) ?_
            intro T21 X21 e21
            show Go p e below _ T21 (mkF m 148 #[.val (.ref a1), .val (.int v1), .val (.int (v2 + v3)), .val (.int sc), l4] [(.ref b3)])
            refine Go.to (fun _ => XS.iloadN X21.here hx rfl (hb hby d4_148) rfl) ?_
            show Go p e below _ T21 (mkF m 149 #[.val (.ref a1), .val (.int v1), .val (.int (v2 + v3)), .val (.int sc), l4] [(.int sc), (.ref b3)])
            obtain ⟨v12, hv12, hf⟩ := Option.bind_eq_some_iff.mp hf
            refine Go.oload X21 hx hZ e21 O20 (k := 3) rfl rfl hv12 (hb hby d4_149) ?_
            show Go p e below _ T21 (mkF m 150 #[.val (.ref a1), .val (.int v1), .val (.int (v2 + v3)), .val (.int sc), l4] [(.int v12)])
            refine Go.to (fun _ => XS.istoreS X21.here hx rfl (hb hby d4_150) rfl rfl hl4) ?_
            show Go p e below _ T21 (mkF m 152 #[.val (.ref a1), .val (.int v1), .val (.int (v2 + v3)), .val (.int sc), .val (.int v12)] [])
            obtain ⟨v13, hv13, hf⟩ := Option.bind_eq_some_iff.mp hf
            obtain ⟨s14, hs14, hf⟩ := Option.bind_eq_some_iff.mp hf
            have fill : ∀ (k : Nat) (pl : Int32) (sq : List Int32), fillF k sc pl v13 el sq = some s14 → ∀ (T : State) (h : Heap) (L : List Loc), Stand p l e ({ frames := 0, cells := 0, slots := 0, locals := 0 } : Room) s m #[.ref a1] below meth c T L 0 0 → T.heap = h → Fr n0 L → Obj Z n0 h0 h a1 "com/example/tracegauge/tracegauge/automata/Partition" nFp [(.ref b0), (.ref b1), (.ref b2), (.ref b3), (.ref b4), (.ref b5), (.ref b6), (.int (tc - (1 : Int32))), (.int (sc + (1 : Int32)))] [b0, b1, b2, b3, b4, b5, b6] [el, po, sq, x7, x11, x4, tu] → (∀ (pl : Int32) (T : State) (h : Heap) (L : List Loc), Stand p l e ({ frames := 0, cells := 0, slots := 0, locals := 0 } : Room) s m #[.ref a1] below meth c T L 0 0 → T.heap = h → Fr n0 L → Obj Z n0 h0 h a1 "com/example/tracegauge/tracegauge/automata/Partition" nFp [(.ref b0), (.ref b1), (.ref b2), (.ref b3), (.ref b4), (.ref b5), (.ref b6), (.int (tc - (1 : Int32))), (.int (sc + (1 : Int32)))] [b0, b1, b2, b3, b4, b5, b6] [el, po, s14, x7, x11, x4, tu] → Go p e below K T (mkF m 182 #[.val (.ref a1), .val (.int v1), .val (.int (v2 + v3)), .val (.int sc), .val (.int pl)] [])) → Go p e below K T (mkF m 152 #[.val (.ref a1), .val (.int v1), .val (.int (v2 + v3)), .val (.int sc), .val (.int pl)] []) := by
              intro k
              induction k with
              | zero => intro pl sq hf; simp [fillF] at hf
              | succ k ih2 =>
                intro pl sq hf T h L X e' N O kk
                rw [fillF] at hf
                refine Go.to (fun _ => XS.iload X.here hx rfl (hb hby d4_152) rfl) ?_
                show Go p e below _ T (mkF m 154 #[.val (.ref a1), .val (.int v1), .val (.int (v2 + v3)), .val (.int sc), .val (.int pl)] [(.int pl)])
                refine Go.to (fun _ => XS.aloadN X.here hx rfl (hb hby d4_154) rfl rfl) ?_
                show Go p e below _ T (mkF m 155 #[.val (.ref a1), .val (.int v1), .val (.int (v2 + v3)), .val (.int sc), .val (.int pl)] [(.ref a1), (.int pl)])
                refine Go.oget (f := ("end", "[I")) X hx hZ hown (hw _ (List.mem_of_getElem? (i := 19) rfl)) e' O (k := 4) rfl rfl (hb hby d4_155) ?_
                intro T22 X22 e22
                show Go p e below _ T22 (mkF m 158 #[.val (.ref a1), .val (.int v1), .val (.int (v2 + v3)), .val (.int sc), .val (.int pl)] [(.ref b4), (.int pl)])
                refine Go.to (fun _ => XS.iloadN X22.here hx rfl (hb hby d4_158) rfl) ?_
                show Go p e below _ T22 (mkF m 159 #[.val (.ref a1), .val (.int v1), .val (.int (v2 + v3)), .val (.int sc), .val (.int pl)] [(.int sc), (.ref b4), (.int pl)])
                refine Go.oload X22 hx hZ e22 O (k := 4) rfl rfl hv13 (hb hby d4_159) ?_
                show Go p e below _ T22 (mkF m 160 #[.val (.ref a1), .val (.int v1), .val (.int (v2 + v3)), .val (.int sc), .val (.int pl)] [(.int v13), (.int pl)])
                by_cases hc101 : pl < v13
                · refine Go.to (fun _ => XS.icmpNo X22.here hx rfl (hb hby d4_160) rfl (tlt hc101).2.1) ?_
                  show Go p e below _ T22 (mkF m 163 #[.val (.ref a1), .val (.int v1), .val (.int (v2 + v3)), .val (.int sc), .val (.int pl)] [])
                  rw [if_pos hc101] at hf
                  obtain ⟨xx, hxx, hf⟩ := Option.bind_eq_some_iff.mp hf
                  obtain ⟨yy, hyy, hf⟩ := Option.bind_eq_some_iff.mp hf
                  refine Go.to (fun _ => XS.aloadN X22.here hx rfl (hb hby d4_163) rfl rfl) ?_
                  show Go p e below _ T22 (mkF m 164 #[.val (.ref a1), .val (.int v1), .val (.int (v2 + v3)), .val (.int sc), .val (.int pl)] [(.ref a1)])
                  refine Go.oget (f := ("sets", "[I")) X22 hx hZ hown (hw _ (List.mem_of_getElem? (i := 15) rfl)) e22 O (k := 2) rfl rfl (hb hby d4_164) ?_
                  intro T23 X23 e23
                  show Go p e below _ T23 (mkF m 167 #[.val (.ref a1), .val (.int v1), .val (.int (v2 + v3)), .val (.int sc), .val (.int pl)] [(.ref b2)])
                  refine Go.to (fun _ => XS.aloadN X23.here hx rfl (hb hby d4_167) rfl rfl) ?_
                  show Go p e below _ T23 (mkF m 168 #[.val (.ref a1), .val (.int v1), .val (.int (v2 + v3)), .val (.int sc), .val (.int pl)] [(.ref a1), (.ref b2)])
                  refine Go.oget (f := ("elements", "[I")) X23 hx hZ hown (hw _ (List.mem_of_getElem? (i := 11) rfl)) e23 O (k := 0) rfl rfl (hb hby d4_168) ?_
                  intro T24 X24 e24
                  show Go p e below _ T24 (mkF m 171 #[.val (.ref a1), .val (.int v1), .val (.int (v2 + v3)), .val (.int sc), .val (.int pl)] [(.ref b0), (.ref b2)])
                  refine Go.to (fun _ => XS.iload X24.here hx rfl (hb hby d4_171) rfl) ?_
                  show Go p e below _ T24 (mkF m 173 #[.val (.ref a1), .val (.int v1), .val (.int (v2 + v3)), .val (.int sc), .val (.int pl)] [(.int pl), (.ref b0), (.ref b2)])
                  refine Go.oload X24 hx hZ e24 O (k := 0) rfl rfl hxx (hb hby d4_173) ?_
                  show Go p e below _ T24 (mkF m 174 #[.val (.ref a1), .val (.int v1), .val (.int (v2 + v3)), .val (.int sc), .val (.int pl)] [(.int xx), (.ref b2)])
                  refine Go.to (fun _ => XS.iloadN X24.here hx rfl (hb hby d4_174) rfl) ?_
                  show Go p e below _ T24 (mkF m 175 #[.val (.ref a1), .val (.int v1), .val (.int (v2 + v3)), .val (.int sc), .val (.int pl)] [(.int sc), (.int xx), (.ref b2)])
                  refine Go.ostore X24 hx hZ e24 N O (k := 2) rfl rfl hyy (hb hby d4_175) ?_
                  intro T25 h25 L25 X25 e25 N25 O25
                  have O25 : Obj Z n0 h0 h25 a1 "com/example/tracegauge/tracegauge/automata/Partition" nFp [(.ref b0), (.ref b1), (.ref b2), (.ref b3), (.ref b4), (.ref b5), (.ref b6), (.int (tc - (1 : Int32))), (.int (sc + (1 : Int32)))] [b0, b1, b2, b3, b4, b5, b6] [el, po, (wrL sq xx sc), x7, x11, x4, tu] := O25
                  show Go p e below _ T25 (mkF m 176 #[.val (.ref a1), .val (.int v1), .val (.int (v2 + v3)), .val (.int sc), .val (.int pl)] [])
                  refine Go.to (fun _ => XS.iinc X25.here hx rfl (hb hby d4_176) rfl (l' := #[.val (.ref a1), .val (.int v1), .val (.int (v2 + v3)), .val (.int sc), .val (.int (pl + (1 : Int32)))]) rfl) ?_
                  show Go p e below _ T25 (mkF m 179 #[.val (.ref a1), .val (.int v1), .val (.int (v2 + v3)), .val (.int sc), .val (.int (pl + (1 : Int32)))] [])
                  refine Go.to (fun _ => XS.goto X25.here hx rfl (pc0 := 179) (pc' := 152) rfl (hb hby d4_179) (by decide) (by decide)) ?_
                  show Go p e below _ T25 (mkF m 152 #[.val (.ref a1), .val (.int v1), .val (.int (v2 + v3)), .val (.int sc), .val (.int (pl + (1 : Int32)))] [])
                  exact ih2 _ _ hf _ _ _ X25 e25 N25 O25 kk
                · refine Go.to (fun _ => XS.icmpYes X22.here hx rfl (pc0 := 160) (pc' := 182) rfl (hb hby d4_160) rfl (flt hc101).2.1 (by decide) (by decide)) ?_
                  show Go p e below _ T22 (mkF m 182 #[.val (.ref a1), .val (.int v1), .val (.int (v2 + v3)), .val (.int sc), .val (.int pl)] [])
                  rw [if_neg hc101] at hf
                  cases Option.some.inj hf
                  exact kk _ _ _ _ X22 e22 N O
            refine fill 9 _ _ hs14 _ _ _ X21 e21 N20 O20 (fun pl T h L X e' N O => ?_)
            clear fill
            show Go p e below _ T (mkF m 182 #[.val (.ref a1), .val (.int v1), .val (.int (v2 + v3)), .val (.int sc), .val (.int pl)] [])
            refine Go.to (fun _ => XS.goto X.here hx rfl (pc0 := 182) (pc' := 0) rfl (hb hby d4_182) (by decide) (by decide)) ?_
            show Go p e below _ T (mkF m 0 #[.val (.ref a1), .val (.int v1), .val (.int (v2 + v3)), .val (.int sc), .val (.int pl)] [])
            exact ih _ _ _ _ _ _ _ _ _ _ _ _ _ (One.val rfl) (One.val rfl) (One.val rfl) (One.val rfl) hf _ _ _ X e' N O
          · rw [if_neg hc3] at hf
            refine Go.to (fun _ => XS.icmpNo X13.here hx rfl (hb hby d4_86) rfl (flt hc3).2.2.1) ?_
            show Go p e below _ T13 (mkF m 89 #[.val (.ref a1), .val (.int v1), .val (.int (v2 + v3)), .val (.int sc), l4] [])
            refine Go.to (fun _ => XS.aloadN X13.here hx rfl (hb hby d4_89) rfl rfl) ?_
            show Go p e below _ T13 (mkF m 90 #[.val (.ref a1), .val (.int v1), .val (.int (v2 + v3)), .val (.int sc), l4] [(.ref a1)])
            refine Go.oget (f := ("first", "[I")) X13 hx hZ hown (hw _ (List.mem_of_getElem? (i := 17) rfl)) e13 O11 (k := 3) rfl rfl (hb hby d4_90) ?_
            intro T26 X26 e26
            show Go p e below _ T26 (mkF m 93 #[.val (.ref a1), .val (.int v1), .val (.int (v2 + v3)), .val (.int sc), l4] [(.ref b3)])
            refine Go.to (fun _ => XS.iloadN X26.here hx rfl (hb hby d4_93) rfl) ?_
            show Go p e below _ T26 (mkF m 94 #[.val (.ref a1), .val (.int v1), .val (.int (v2 + v3)), .val (.int sc), l4] [(.int sc), (.ref b3)])
            refine Go.to (fun _ => XS.aloadN X26.here hx rfl (hb hby d4_94) rfl rfl) ?_
            show Go p e below _ T26 (mkF m 95 #[.val (.ref a1), .val (.int v1), .val (.int (v2 + v3)), .val (.int sc), l4] [(.ref a1), (.int sc), (.ref b3)])
            refine Go.oget (f := ("first", "[I")) X26 hx hZ hown (hw _ (List.mem_of_getElem? (i := 17) rfl)) e26 O11 (k := 3) rfl rfl (hb hby d4_95) ?_
            intro T27 X27 e27
            show Go p e below _ T27 (mkF m 98 #[.val (.ref a1), .val (.int v1), .val (.int (v2 + v3)), .val (.int sc), l4] [(.ref b3), (.int sc), (.ref b3)])
            refine Go.to (fun _ => XS.iloadN X27.here hx rfl (hb hby d4_98) rfl) ?_
            show Go p e below _ T27 (mkF m 99 #[.val (.ref a1), .val (.int v1), .val (.int (v2 + v3)), .val (.int sc), l4] [(.int v1), (.ref b3), (.int sc), (.ref b3)])
            refine Go.oload X27 hx hZ e27 O11 (k := 3) rfl rfl hv2 (hb hby d4_99) ?_
            show Go p e below _ T27 (mkF m 100 #[.val (.ref a1), .val (.int v1), .val (.int (v2 + v3)), .val (.int sc), l4] [(.int v2), (.int sc), (.ref b3)])
            obtain ⟨v6, hv6, hf⟩ := Option.bind_eq_some_iff.mp hf
            refine Go.ostore X27 hx hZ e27 N11 O11 (k := 3) rfl rfl hv6 (hb hby d4_100) ?_
            intro T28 h28 L28 X28 e28 N28 O28
            have O28 : Obj Z n0 h0 h28 a1 "com/example/tracegauge/tracegauge/automata/Partition" nFp [(.ref b0), (.ref b1), (.ref b2), (.ref b3), (.ref b4), (.ref b5), (.ref b6), (.int (tc - (1 : Int32))), (.int (sc + (1 : Int32)))] [b0, b1, b2, b3, b4, b5, b6] [el, po, se, (wrL fi sc v2), en, x4, tu] := O28
            obtain ⟨x7, hx7, hf⟩ := Option.bind_eq_some_iff.mp hf
            rw [Option.some.inj hx7] at O28
            show Go p e below _ T28 (mkF m 101 #[.val (.ref a1), .val (.int v1), .val (.int (v2 + v3)), .val (.int sc), l4] [])
            refine Go.to (fun _ => XS.aloadN X28.here hx rfl (hb hby d4_101) rfl rfl) ?_
            show Go p e below _ T28 (mkF m 102 #[.val (.ref a1), .val (.int v1), .val (.int (v2 + v3)), .val (.int sc), l4] [(.ref a1)])
            refine Go.oget (f := ("end", "[I")) X28 hx hZ hown (hw _ (List.mem_of_getElem? (i := 19) rfl)) e28 O28 (k := 4) rfl rfl (hb hby d4_102) ?_
            intro T29 X29 e29
            show Go p e below _ T29 (mkF m 105 #[.val (.ref a1), .val (.int v1), .val (.int (v2 + v3)), .val (.int sc), l4] [(.ref b4)])
            refine Go.to (fun _ => XS.iloadN X29.here hx rfl (hb hby d4_105) rfl) ?_
            show Go p e below _ T29 (mkF m 106 #[.val (.ref a1), .val (.int v1), .val (.int (v2 + v3)), .val (.int sc), l4] [(.int sc), (.ref b4)])
            refine Go.to (fun _ => XS.iloadN X29.here hx rfl (hb hby d4_106) rfl) ?_
            show Go p e below _ T29 (mkF m 107 #[.val (.ref a1), .val (.int v1), .val (.int (v2 + v3)), .val (.int sc), l4] [(.int (v2 + v3)), (.int sc), (.ref b4)])
            obtain ⟨v8, hv8, hf⟩ := Option.bind_eq_some_iff.mp hf
            refine Go.ostore X29 hx hZ e29 N28 O28 (k := 4) rfl rfl hv8 (hb hby d4_107) ?_
            intro T30 h30 L30 X30 e30 N30 O30
            have O30 : Obj Z n0 h0 h30 a1 "com/example/tracegauge/tracegauge/automata/Partition" nFp [(.ref b0), (.ref b1), (.ref b2), (.ref b3), (.ref b4), (.ref b5), (.ref b6), (.int (tc - (1 : Int32))), (.int (sc + (1 : Int32)))] [b0, b1, b2, b3, b4, b5, b6] [el, po, se, x7, (wrL en sc (v2 + v3)), x4, tu] := O30
            obtain ⟨x9, hx9, hf⟩ := Option.bind_eq_some_iff.mp hf
            rw [Option.some.inj hx9] at O30
            show Go p e below _ T30 (mkF m 108 #[.val (.ref a1), .val (.int v1), .val (.int (v2 + v3)), .val (.int sc), l4] [])
            refine Go.to (fun _ => XS.aloadN X30.here hx rfl (hb hby d4_108) rfl rfl) ?_
            show Go p e below _ T30 (mkF m 109 #[.val (.ref a1), .val (.int v1), .val (.int (v2 + v3)), .val (.int sc), l4] [(.ref a1)])
            refine Go.oget (f := ("first", "[I")) X30 hx hZ hown (hw _ (List.mem_of_getElem? (i := 17) rfl)) e30 O30 (k := 3) rfl rfl (hb hby d4_109) ?_
            intro T31 X31 e31
            show Go p e below _ T31 (mkF m 112 #[.val (.ref a1), .val (.int v1), .val (.int (v2 + v3)), .val (.int sc), l4] [(.ref b3)])
            refine Go.to (fun _ => XS.iloadN X31.here hx rfl (hb hby d4_112) rfl) ?_
            show Go p e below _ T31 (mkF m 113 #[.val (.ref a1), .val (.int v1), .val (.int (v2 + v3)), .val (.int sc), l4] [(.int v1), (.ref b3)])
            refine Go.to (fun _ => XS.iloadN X31.here hx rfl (hb hby d4_113) rfl) ?_
            show Go p e below _ T31 (mkF m 114 #[.val (.ref a1), .val (.int v1), .val (.int (v2 + v3)), .val (.int sc), l4] [(.int (v2 + v3)), (.int v1), (.ref b3)])
            obtain ⟨v10, hv10, hf⟩ := Option.bind_eq_some_iff.mp hf
            refine Go.ostore X31 hx hZ e31 N30 O30 (k := 3) rfl rfl hv10 (hb hby d4_114) ?_
            intro T32 h32 L32 X32 e32 N32 O32
            have O32 : Obj Z n0 h0 h32 a1 "com/example/tracegauge/tracegauge/automata/Partition" nFp [(.ref b0), (.ref b1), (.ref b2), (.ref b3), (.ref b4), (.ref b5), (.ref b6), (.int (tc - (1 : Int32))), (.int (sc + (1 : Int32)))] [b0, b1, b2, b3, b4, b5, b6] [el, po, se, (wrL x7 v1 (v2 + v3)), x9, x4, tu] := O32
            obtain ⟨x11, hx11, hf⟩ := Option.bind_eq_some_iff.mp hf
            rw [Option.some.inj hx11] at O32
            show Go p e below _ T32 (mkF m 115 #[.val (.ref a1), .val (.int v1), .val (.int (v2 + v3)), .val (.int sc), l4] [])
            refine Go.to (fun _ => XS.goto X32.here hx rfl (pc0 := 115) (pc' := 144) rfl (hb hby d4_115) (by decide) (by decide)) ?_
            show Go p e below _ T32 (mkF m 144 #[.val (.ref a1), .val (.int v1), .val (.int (v2 + v3)), .val (.int sc), l4] [])
            refine Go.to (fun _ => XS.aloadN X32.here hx rfl (hb hby d4_144) rfl rfl) ?_
            show Go p e below _ T32 (mkF m 145 #[.val (.ref a1), .val (.int v1), .val (.int (v2 + v3)), .val (.int sc), l4] [(.ref a1)])
            refine Go.oget (f := ("first", "[I")) X32 hx hZ hown (hw _ (List.mem_of_getElem? (i := 17) rfl)) e32 O32 (k := 3) rfl rfl (hb hby d4_145) ?_
            intro T33 X33 e33
            show Go p e below _ T33 (mkF m 148 #[.val (.ref a1), .val (.int v1), .val (.int (v2 + v3)), .val (.int sc), l4] [(.ref b3)])
            refine Go.to (fun _ => XS.iloadN X33.here hx rfl (hb hby d4_148) rfl) ?_
            show Go p e below _ T33 (mkF m 149 #[.val (.ref a1), .val (.int v1), .val (.int (v2 + v3)), .val (.int sc), l4] [(.int sc), (.ref b3)])
            obtain ⟨v12, hv12, hf⟩ := Option.bind_eq_some_iff.mp hf
            refine Go.oload X33 hx hZ e33 O32 (k := 3) rfl rfl hv12 (hb hby d4_149) ?_
            show Go p e below _ T33 (mkF m 150 #[.val (.ref a1), .val (.int v1), .val (.int (v2 + v3)), .val (.int sc), l4] [(.int v12)])
            refine Go.to (fun _ => XS.istoreS X33.here hx rfl (hb hby d4_150) rfl rfl hl4) ?_
            show Go p e below _ T33 (mkF m 152 #[.val (.ref a1), .val (.int v1), .val (.int (v2 + v3)), .val (.int sc), .val (.int v12)] [])
            obtain ⟨v13, hv13, hf⟩ := Option.bind_eq_some_iff.mp hf
            obtain ⟨s14, hs14, hf⟩ := Option.bind_eq_some_iff.mp hf
            have fill : ∀ (k : Nat) (pl : Int32) (sq : List Int32), fillF k sc pl v13 el sq = some s14 → ∀ (T : State) (h : Heap) (L : List Loc), Stand p l e ({ frames := 0, cells := 0, slots := 0, locals := 0 } : Room) s m #[.ref a1] below meth c T L 0 0 → T.heap = h → Fr n0 L → Obj Z n0 h0 h a1 "com/example/tracegauge/tracegauge/automata/Partition" nFp [(.ref b0), (.ref b1), (.ref b2), (.ref b3), (.ref b4), (.ref b5), (.ref b6), (.int (tc - (1 : Int32))), (.int (sc + (1 : Int32)))] [b0, b1, b2, b3, b4, b5, b6] [el, po, sq, x11, x9, x4, tu] → (∀ (pl : Int32) (T : State) (h : Heap) (L : List Loc), Stand p l e ({ frames := 0, cells := 0, slots := 0, locals := 0 } : Room) s m #[.ref a1] below meth c T L 0 0 → T.heap = h → Fr n0 L → Obj Z n0 h0 h a1 "com/example/tracegauge/tracegauge/automata/Partition" nFp [(.ref b0), (.ref b1), (.ref b2), (.ref b3), (.ref b4), (.ref b5), (.ref b6), (.int (tc - (1 : Int32))), (.int (sc + (1 : Int32)))] [b0, b1, b2, b3, b4, b5, b6] [el, po, s14, x11, x9, x4, tu] → Go p e below K T (mkF m 182 #[.val (.ref a1), .val (.int v1), .val (.int (v2 + v3)), .val (.int sc), .val (.int pl)] [])) → Go p e below K T (mkF m 152 #[.val (.ref a1), .val (.int v1), .val (.int (v2 + v3)), .val (.int sc), .val (.int pl)] []) := by
              intro k
              induction k with
              | zero => intro pl sq hf; simp [fillF] at hf
              | succ k ih2 =>
                intro pl sq hf T h L X e' N O kk
                rw [fillF] at hf
                refine Go.to (fun _ => XS.iload X.here hx rfl (hb hby d4_152) rfl) ?_
                show Go p e below _ T (mkF m 154 #[.val (.ref a1), .val (.int v1), .val (.int (v2 + v3)), .val (.int sc), .val (.int pl)] [(.int pl)])
                refine Go.to (fun _ => XS.aloadN X.here hx rfl (hb hby d4_154) rfl rfl) ?_
                show Go p e below _ T (mkF m 155 #[.val (.ref a1), .val (.int v1), .val (.int (v2 + v3)), .val (.int sc), .val (.int pl)] [(.ref a1), (.int pl)])
                refine Go.oget (f := ("end", "[I")) X hx hZ hown (hw _ (List.mem_of_getElem? (i := 19) rfl)) e' O (k := 4) rfl rfl (hb hby d4_155) ?_
                intro T34 X34 e34
                show Go p e below _ T34 (mkF m 158 #[.val (.ref a1), .val (.int v1), .val (.int (v2 + v3)), .val (.int sc), .val (.int pl)] [(.ref b4), (.int pl)])
                refine Go.to (fun _ => XS.iloadN X34.here hx rfl (hb hby d4_158) rfl) ?_
                show Go p e below _ T34 (mkF m 159 #[.val (.ref a1), .val (.int v1), .val (.int (v2 + v3)), .val (.int sc), .val (.int pl)] [(.int sc), (.ref b4), (.int pl)])
                refine Go.oload X34 hx hZ e34 O (k := 4) rfl rfl hv13 (hb hby d4_159) ?_
                show Go p e below _ T34 (mkF m 160 #[.val (.ref a1), .val (.int v1), .val (.int (v2 + v3)), .val (.int sc), .val (.int pl)] [(.int v13), (.int pl)])
                by_cases hc101 : pl < v13
                · refine Go.to (fun _ => XS.icmpNo X34.here hx rfl (hb hby d4_160) rfl (tlt hc101).2.1) ?_
                  show Go p e below _ T34 (mkF m 163 #[.val (.ref a1), .val (.int v1), .val (.int (v2 + v3)), .val (.int sc), .val (.int pl)] [])
                  rw [if_pos hc101] at hf
                  obtain ⟨xx, hxx, hf⟩ := Option.bind_eq_some_iff.mp hf
                  obtain ⟨yy, hyy, hf⟩ := Option.bind_eq_some_iff.mp hf
                  refine Go.to (fun _ => XS.aloadN X34.here hx rfl (hb hby d4_163) rfl rfl) ?_
                  show Go p e below _ T34 (mkF m 164 #[.val (.ref a1), .val (.int v1), .val (.int (v2 + v3)), .val (.int sc), .val (.int pl)] [(.ref a1)])
                  refine Go.oget (f := ("sets", "[I")) X34 hx hZ hown (hw _ (List.mem_of_getElem? (i := 15) rfl)) e34 O (k := 2) rfl rfl (hb hby d4_164) ?_
                  intro T35 X35 e35
                  show Go p e below _ T35 (mkF m 167 #[.val (.ref a1), .val (.int v1), .val (.int (v2 + v3)), .val (.int sc), .val (.int pl)] [(.ref b2)])
                  refine Go.to (fun _ => XS.aloadN X35.here hx rfl (hb hby d4_167) rfl rfl) ?_
                  show Go p e below _ T35 (mkF m 168 #[.val (.ref a1), .val (.int v1), .val (.int (v2 + v3)), .val (.int sc), .val (.int pl)] [(.ref a1), (.ref b2)])
                  refine Go.oget (f := ("elements", "[I")) X35 hx hZ hown (hw _ (List.mem_of_getElem? (i := 11) rfl)) e35 O (k := 0) rfl rfl (hb hby d4_168) ?_
                  intro T36 X36 e36
                  show Go p e below _ T36 (mkF m 171 #[.val (.ref a1), .val (.int v1), .val (.int (v2 + v3)), .val (.int sc), .val (.int pl)] [(.ref b0), (.ref b2)])
                  refine Go.to (fun _ => XS.iload X36.here hx rfl (hb hby d4_171) rfl) ?_
                  show Go p e below _ T36 (mkF m 173 #[.val (.ref a1), .val (.int v1), .val (.int (v2 + v3)), .val (.int sc), .val (.int pl)] [(.int pl), (.ref b0), (.ref b2)])
                  refine Go.oload X36 hx hZ e36 O (k := 0) rfl rfl hxx (hb hby d4_173) ?_
                  show Go p e below _ T36 (mkF m 174 #[.val (.ref a1), .val (.int v1), .val (.int (v2 + v3)), .val (.int sc), .val (.int pl)] [(.int xx), (.ref b2)])
                  refine Go.to (fun _ => XS.iloadN X36.here hx rfl (hb hby d4_174) rfl) ?_
                  show Go p e below _ T36 (mkF m 175 #[.val (.ref a1), .val (.int v1), .val (.int (v2 + v3)), .val (.int sc), .val (.int pl)] [(.int sc), (.int xx), (.ref b2)])
                  refine Go.ostore X36 hx hZ e36 N O (k := 2) rfl rfl hyy (hb hby d4_175) ?_
                  intro T37 h37 L37 X37 e37 N37 O37
                  have O37 : Obj Z n0 h0 h37 a1 "com/example/tracegauge/tracegauge/automata/Partition" nFp [(.ref b0), (.ref b1), (.ref b2), (.ref b3), (.ref b4), (.ref b5), (.ref b6), (.int (tc - (1 : Int32))), (.int (sc + (1 : Int32)))] [b0, b1, b2, b3, b4, b5, b6] [el, po, (wrL sq xx sc), x11, x9, x4, tu] := O37
                  show Go p e below _ T37 (mkF m 176 #[.val (.ref a1), .val (.int v1), .val (.int (v2 + v3)), .val (.int sc), .val (.int pl)] [])
                  refine Go.to (fun _ => XS.iinc X37.here hx rfl (hb hby d4_176) rfl (l' := #[.val (.ref a1), .val (.int v1), .val (.int (v2 + v3)), .val (.int sc), .val (.int (pl + (1 : Int32)))]) rfl) ?_
                  show Go p e below _ T37 (mkF m 179 #[.val (.ref a1), .val (.int v1), .val (.int (v2 + v3)), .val (.int sc), .val (.int (pl + (1 : Int32)))] [])
                  refine Go.to (fun _ => XS.goto X37.here hx rfl (pc0 := 179) (pc' := 152) rfl (hb hby d4_179) (by decide) (by decide)) ?_
                  show Go p e below _ T37 (mkF m 152 #[.val (.ref a1), .val (.int v1), .val (.int (v2 + v3)), .val (.int sc), .val (.int (pl + (1 : Int32)))] [])
                  exact ih2 _ _ hf _ _ _ X37 e37 N37 O37 kk
                · refine Go.to (fun _ => XS.icmpYes X34.here hx rfl (pc0 := 160) (pc' := 182) rfl (hb hby d4_160) rfl (flt hc101).2.1 (by decide) (by decide)) ?_
                  show Go p e below _ T34 (mkF m 182 #[.val (.ref a1), .val (.int v1), .val (.int (v2 + v3)), .val (.int sc), .val (.int pl)] [])
                  rw [if_neg hc101] at hf
                  cases Option.some.inj hf
                  exact kk _ _ _ _ X34 e34 N O
            refine fill 9 _ _ hs14 _ _ _ X33 e33 N32 O32 (fun pl T h L X e' N O => ?_)
            clear fill
            show Go p e below _ T (mkF m 182 #[.val (.ref a1), .val (.int v1), .val (.int (v2 + v3)), .val (.int sc), .val (.int pl)] [])
            refine Go.to (fun _ => XS.goto X.here hx rfl (pc0 := 182) (pc' := 0) rfl (hb hby d4_182) (by decide) (by decide)) ?_
            show Go p e below _ T (mkF m 0 #[.val (.ref a1), .val (.int v1), .val (.int (v2 + v3)), .val (.int sc), .val (.int pl)] [])
            exact ih _ _ _ _ _ _ _ _ _ _ _ _ _ (One.val rfl) (One.val rfl) (One.val rfl) (One.val rfl) hf _ _ _ X e' N O
      · rw [if_neg hc1] at hf
        refine Go.to (fun _ => XS.ifYes X1.here hx rfl (pc0 := 4) (pc' := 185) rfl (hb hby d4_4) rfl ((if0 _ _).trans (flt hc1).2.2.2) (by decide) (by decide)) ?_
        show Go p e below _ T1 (mkF m 185 #[.val (.ref a1), l1, l2, l3, l4] [])
        simp only [Option.some.injEq, Prod.mk.injEq] at hf
        obtain ⟨rfl, rfl, rfl, rfl, rfl, rfl, rfl, rfl, rfl⟩ := hf
        rw [hK]
        exact Go.retV X1 hx hlk hret (hb hby d4_185) ⟨rfl, N, e1 ▸ O⟩ (by decide) (by decide)
  exact loop fuel el po se fi en ma tu tc sc .unset .unset .unset .unset One.u One.u One.u One.u hf _ _ _ X0 e0 (Fr.nil n0) O
def fH (p1 : Int32) (p2 : Int32) (p3 : Int32) (p4 : Int32) (p5 : Int32) (p6 : Int32) (p7 : Int32) (p8 : Int32) (p9 : Int32) : Int32 := (if p3 = (0 : Int32) then (if p5 = (0 : Int32) then (if p7 = (0 : Int32) then (if p9 = (0 : Int32) then (0 : Int32) else (if p8 = p1 then (1 : Int32) else (0 : Int32))) else (if p6 = p1 then (1 : Int32) else (if p9 = (0 : Int32) then (0 : Int32) else (if p8 = p1 then (1 : Int32) else (0 : Int32))))) else (if p4 = p1 then (1 : Int32) else (if p7 = (0 : Int32) then (if p9 = (0 : Int32) then (0 : Int32) else (if p8 = p1 then (1 : Int32) else (0 : Int32))) else (if p6 = p1 then (1 : Int32) else (if p9 = (0 : Int32) then (0 : Int32) else (if p8 = p1 then (1 : Int32) else (0 : Int32))))))) else (if p2 = p1 then (1 : Int32) else (if p5 = (0 : Int32) then (if p7 = (0 : Int32) then (if p9 = (0 : Int32) then (0 : Int32) else (if p8 = p1 then (1 : Int32) else (0 : Int32))) else (if p6 = p1 then (1 : Int32) else (if p9 = (0 : Int32) then (0 : Int32) else (if p8 = p1 then (1 : Int32) else (0 : Int32))))) else (if p4 = p1 then (1 : Int32) else (if p7 = (0 : Int32) then (if p9 = (0 : Int32) then (0 : Int32) else (if p8 = p1 then (1 : Int32) else (0 : Int32))) else (if p6 = p1 then (1 : Int32) else (if p9 = (0 : Int32) then (0 : Int32) else (if p8 = p1 then (1 : Int32) else (0 : Int32)))))))))
theorem d5_0 : decode method_3_code 0 = .ok (.iload_n 2, 1) := by decide +kernel
theorem d5_1 : decode method_3_code 1 = .ok (.ifCond .eq 8, 3) := by decide +kernel
theorem d5_4 : decode method_3_code 4 = .ok (.iload_n 1, 1) := by decide +kernel
theorem d5_5 : decode method_3_code 5 = .ok (.iload_n 0, 1) := by decide +kernel
theorem d5_6 : decode method_3_code 6 = .ok (.if_icmp .eq 35, 3) := by decide +kernel
theorem d5_9 : decode method_3_code 9 = .ok (.iload 4, 2) := by decide +kernel
theorem d5_11 : decode method_3_code 11 = .ok (.ifCond .eq 8, 3) := by decide +kernel
theorem d5_14 : decode method_3_code 14 = .ok (.iload_n 3, 1) := by decide +kernel
theorem d5_15 : decode method_3_code 15 = .ok (.iload_n 0, 1) := by decide +kernel
theorem d5_16 : decode method_3_code 16 = .ok (.if_icmp .eq 25, 3) := by decide +kernel
theorem d5_19 : decode method_3_code 19 = .ok (.iload 6, 2) := by decide +kernel
theorem d5_21 : decode method_3_code 21 = .ok (.ifCond .eq 9, 3) := by decide +kernel
theorem d5_24 : decode method_3_code 24 = .ok (.iload 5, 2) := by decide +kernel
theorem d5_26 : decode method_3_code 26 = .ok (.iload_n 0, 1) := by decide +kernel
theorem d5_27 : decode method_3_code 27 = .ok (.if_icmp .eq 14, 3) := by decide +kernel
theorem d5_30 : decode method_3_code 30 = .ok (.iload 8, 2) := by decide +kernel
theorem d5_32 : decode method_3_code 32 = .ok (.ifCond .eq 13, 3) := by decide +kernel
theorem d5_35 : decode method_3_code 35 = .ok (.iload 7, 2) := by decide +kernel
theorem d5_37 : decode method_3_code 37 = .ok (.iload_n 0, 1) := by decide +kernel
theorem d5_38 : decode method_3_code 38 = .ok (.if_icmp .ne 7, 3) := by decide +kernel
theorem d5_41 : decode method_3_code 41 = .ok (.iconst 1, 1) := by decide +kernel
theorem d5_42 : decode method_3_code 42 = .ok (.goto 4, 3) := by decide +kernel
theorem d5_45 : decode method_3_code 45 = .ok (.iconst 0, 1) := by decide +kernel
theorem d5_46 : decode method_3_code 46 = .ok (.ireturn, 1) := by decide +kernel
theorem ef_rm5 (m : MethodId) (p1 : Int32) (p2 : Int32) (p3 : Int32) (p4 : Int32) (p5 : Int32) (p6 : Int32) (p7 : Int32) (p8 : Int32) (p9 : Int32) : entryFrame m #[(.int p1), (.int p2), (.int p3), (.int p4), (.int p5), (.int p6), (.int p7), (.int p8), (.int p9)] 9 = mkF m 0 #[.val (.int p1), .val (.int p2), .val (.int p3), .val (.int p4), .val (.int p5), .val (.int p6), .val (.int p7), .val (.int p8), .val (.int p9)] [] := by first | (simp [entryFrame, mkF, argsToLocals, Value.category]; done) | rfl
set_option maxHeartbeats 40000000 in
theorem rm5 (l : Launch) (Z : State) (a0 : Array Value) (hw : ∀ d ∈ tables_1, d.before a0 Z = true) (ws : List Jvm.Cond) (p1 : Int32) (p2 : Int32) (p3 : Int32) (p4 : Int32) (p5 : Int32) (p6 : Int32) (p7 : Int32) (p8 : Int32) (p9 : Int32) (h0 : Heap)  :
    Met1 l Z (⟨"com/example/tracegauge/tracegauge/automata/PartitionMarkPinLaw", "hit", "(IIZIZIZIZ)Z"⟩ : MethodName) method_3_code 9 (some .boolean) ws ({ frames := 0, cells := 0, slots := 0, locals := 0 } : Room) #[(.int p1), (.int p2), (.int p3), (.int p4), (.int p5), (.int p6), (.int p7), (.int p8), (.int p9)] h0 (QP (.int (fH p1 p2 p3 p4 p5 p6 p7 p8 p9)) h0) := by
  refine metOf (by first | exact plainFor_of_name (by first | (simp [plainName, overriddenIn]; done) | decide +kernel) | decide +kernel) ?_
  intro p e s m below meth c s₁ hx hby hml hown hnm hret hlk hZ X0 e0
  have hown : s.vm.findClass "com/example/tracegauge/tracegauge/automata/PartitionMarkPinLaw" = some m.cls := hown
  obtain ⟨K, hK⟩ : ∃ K, K = KQ s (QP (.int (fH p1 p2 p3 p4 p5 p6 p7 p8 p9)) h0) (({ frames := 0, cells := 0, slots := 0, locals := 0 } : Room)).cells (({ frames := 0, cells := 0, slots := 0, locals := 0 } : Room)).slots := ⟨_, rfl⟩
  show Go p e below (KQ s (QP (.int (fH p1 p2 p3 p4 p5 p6 p7 p8 p9)) h0) (({ frames := 0, cells := 0, slots := 0, locals := 0 } : Room)).cells (({ frames := 0, cells := 0, slots := 0, locals := 0 } : Room)).slots) s₁ (entryFrame m #[(.int p1), (.int p2), (.int p3), (.int p4), (.int p5), (.int p6), (.int p7), (.int p8), (.int p9)] 9)
  rw [← hK, ef_rm5 m p1 p2 p3 p4 p5 p6 p7 p8 p9]
  show Go p e below _ s₁ (mkF m 0 #[.val (.int p1), .val (.int p2), .val (.int p3), .val (.int p4), .val (.int p5), .val (.int p6), .val (.int p7), .val (.int p8), .val (.int p9)] [])
  refine Go.to (fun _ => XS.iloadN X0.here hx rfl (hb hby d5_0) rfl) ?_
  show Go p e below _ s₁ (mkF m 1 #[.val (.int p1), .val (.int p2), .val (.int p3), .val (.int p4), .val (.int p5), .val (.int p6), .val (.int p7), .val (.int p8), .val (.int p9)] [(.int p3)])
  by_cases hc1 : p3 = (0 : Int32)
  · refine Go.to (fun _ => XS.ifYes X0.here hx rfl (pc0 := 1) (pc' := 9) rfl (hb hby d5_1) rfl ((if0 _ _).trans (teq hc1).1) (by decide) (by decide)) ?_
    show Go p e below _ s₁ (mkF m 9 #[.val (.int p1), .val (.int p2), .val (.int p3), .val (.int p4), .val (.int p5), .val (.int p6), .val (.int p7), .val (.int p8), .val (.int p9)] [])
    refine Go.to (fun _ => XS.iload X0.here hx rfl (hb hby d5_9) rfl) ?_
    show Go p e below _ s₁ (mkF m 11 #[.val (.int p1), .val (.int p2), .val (.int p3), .val (.int p4), .val (.int p5), .val (.int p6), .val (.int p7), .val (.int p8), .val (.int p9)] [(.int p5)])
    by_cases hc2 : p5 = (0 : Int32)
    · refine Go.to (fun _ => XS.ifYes X0.here hx rfl (pc0 := 11) (pc' := 19) rfl (hb hby d5_11) rfl ((if0 _ _).trans (teq hc2).1) (by decide) (by decide)) ?_
      show Go p e below _ s₁ (mkF m 19 #[.val (.int p1), .val (.int p2), .val (.int p3), .val (.int p4), .val (.int p5), .val (.int p6), .val (.int p7), .val (.int p8), .val (.int p9)] [])
      refine Go.to (fun _ => XS.iload X0.here hx rfl (hb hby d5_19) rfl) ?_
      show Go p e below _ s₁ (mkF m 21 #[.val (.int p1), .val (.int p2), .val (.int p3), .val (.int p4), .val (.int p5), .val (.int p6), .val (.int p7), .val (.int p8), .val (.int p9)] [(.int p7)])
      by_cases hc3 : p7 = (0 : Int32)
      · refine Go.to (fun _ => XS.ifYes X0.here hx rfl (pc0 := 21) (pc' := 30) rfl (hb hby d5_21) rfl ((if0 _ _).trans (teq hc3).1) (by decide) (by decide)) ?_
        show Go p e below _ s₁ (mkF m 30 #[.val (.int p1), .val (.int p2), .val (.int p3), .val (.int p4), .val (.int p5), .val (.int p6), .val (.int p7), .val (.int p8), .val (.int p9)] [])
        refine Go.to (fun _ => XS.iload X0.here hx rfl (hb hby d5_30) rfl) ?_
        show Go p e below _ s₁ (mkF m 32 #[.val (.int p1), .val (.int p2), .val (.int p3), .val (.int p4), .val (.int p5), .val (.int p6), .val (.int p7), .val (.int p8), .val (.int p9)] [(.int p9)])
        by_cases hc4 : p9 = (0 : Int32)
        · refine Go.to (fun _ => XS.ifYes X0.here hx rfl (pc0 := 32) (pc' := 45) rfl (hb hby d5_32) rfl ((if0 _ _).trans (teq hc4).1) (by decide) (by decide)) ?_
          show Go p e below _ s₁ (mkF m 45 #[.val (.int p1), .val (.int p2), .val (.int p3), .val (.int p4), .val (.int p5), .val (.int p6), .val (.int p7), .val (.int p8), .val (.int p9)] [])
          refine Go.to (fun _ => XS.iconst X0.here hx rfl (hb hby d5_45)) ?_
          show Go p e below _ s₁ (mkF m 46 #[.val (.int p1), .val (.int p2), .val (.int p3), .val (.int p4), .val (.int p5), .val (.int p6), .val (.int p7), .val (.int p8), .val (.int p9)] [(.int (0 : Int32))])
          rw [hK]
          exact Go.retZ X0 hx hlk hret (by decide) (hb hby d5_46) ⟨by rw [fH]; rw [if_pos hc1]; rw [if_pos hc2]; rw [if_pos hc3]; rw [if_pos hc4], e0, rfl⟩ (by decide) (by decide)
        · refine Go.to (fun _ => XS.ifNo X0.here hx rfl (hb hby d5_32) rfl ((if0 _ _).trans (feq hc4).1)) ?_
          show Go p e below _ s₁ (mkF m 35 #[.val (.int p1), .val (.int p2), .val (.int p3), .val (.int p4), .val (.int p5), .val (.int p6), .val (.int p7), .val (.int p8), .val (.int p9)] [])
          refine Go.to (fun _ => XS.iload X0.here hx rfl (hb hby d5_35) rfl) ?_
          show Go p e below _ s₁ (mkF m 37 #[.val (.int p1), .val (.int p2), .val (.int p3), .val (.int p4), .val (.int p5), .val (.int p6), .val (.int p7), .val (.int p8), .val (.int p9)] [(.int p8)])
          refine Go.to (fun _ => XS.iloadN X0.here hx rfl (hb hby d5_37) rfl) ?_
          show Go p e below _ s₁ (mkF m 38 #[.val (.int p1), .val (.int p2), .val (.int p3), .val (.int p4), .val (.int p5), .val (.int p6), .val (.int p7), .val (.int p8), .val (.int p9)] [(.int p1), (.int p8)])
          by_cases hc5 : p8 = p1
          · refine Go.to (fun _ => XS.icmpNo X0.here hx rfl (hb hby d5_38) rfl (teq hc5).2) ?_
            show Go p e below _ s₁ (mkF m 41 #[.val (.int p1), .val (.int p2), .val (.int p3), .val (.int p4), .val (.int p5), .val (.int p6), .val (.int p7), .val (.int p8), .val (.int p9)] [])
            refine Go.to (fun _ => XS.iconst X0.here hx rfl (hb hby d5_41)) ?_
            show Go p e below _ s₁ (mkF m 42 #[.val (.int p1), .val (.int p2), .val (.int p3), .val (.int p4), .val (.int p5), .val (.int p6), .val (.int p7), .val (.int p8), .val (.int p9)] [(.int (1 : Int32))])
            refine Go.to (fun _ => XS.goto X0.here hx rfl (pc0 := 42) (pc' := 46) rfl (hb hby d5_42) (by decide) (by decide)) ?_
            show Go p e below _ s₁ (mkF m 46 #[.val (.int p1), .val (.int p2), .val (.int p3), .val (.int p4), .val (.int p5), .val (.int p6), .val (.int p7), .val (.int p8), .val (.int p9)] [(.int (1 : Int32))])
            rw [hK]
            exact Go.retZ X0 hx hlk hret (by decide) (hb hby d5_46) ⟨by rw [fH]; rw [if_pos hc1]; rw [if_pos hc2]; rw [if_pos hc3]; rw [if_neg hc4]; rw [if_pos hc5], e0, rfl⟩ (by decide) (by decide)
          · refine Go.to (fun _ => XS.icmpYes X0.here hx rfl (pc0 := 38) (pc' := 45) rfl (hb hby d5_38) rfl (feq hc5).2 (by decide) (by decide)) ?_
            show Go p e below _ s₁ (mkF m 45 #[.val (.int p1), .val (.int p2), .val (.int p3), .val (.int p4), .val (.int p5), .val (.int p6), .val (.int p7), .val (.int p8), .val (.int p9)] [])
            refine Go.to (fun _ => XS.iconst X0.here hx rfl (hb hby d5_45)) ?_
            show Go p e below _ s₁ (mkF m 46 #[.val (.int p1), .val (.int p2), .val (.int p3), .val (.int p4), .val (.int p5), .val (.int p6), .val (.int p7), .val (.int p8), .val (.int p9)] [(.int (0 : Int32))])
            rw [hK]
            exact Go.retZ X0 hx hlk hret (by decide) (hb hby d5_46) ⟨by rw [fH]; rw [if_pos hc1]; rw [if_pos hc2]; rw [if_pos hc3]; rw [if_neg hc4]; rw [if_neg hc5], e0, rfl⟩ (by decide) (by decide)
      · refine Go.to (fun _ => XS.ifNo X0.here hx rfl (hb hby d5_21) rfl ((if0 _ _).trans (feq hc3).1)) ?_
        show Go p e below _ s₁ (mkF m 24 #[.val (.int p1), .val (.int p2), .val (.int p3), .val (.int p4), .val (.int p5), .val (.int p6), .val (.int p7), .val (.int p8), .val (.int p9)] [])
        refine Go.to (fun _ => XS.iload X0.here hx rfl (hb hby d5_24) rfl) ?_
        show Go p e below _ s₁ (mkF m 26 #[.val (.int p1), .val (.int p2), .val (.int p3), .val (.int p4), .val (.int p5), .val (.int p6), .val (.int p7), .val (.int p8), .val (.int p9)] [(.int p6)])
        refine Go.to (fun _ => XS.iloadN X0.here hx rfl (hb hby d5_26) rfl) ?_
        show Go p e below _ s₁ (mkF m 27 #[.val (.int p1), .val (.int p2), .val (.int p3), .val (.int p4), .val (.int p5), .val (.int p6), .val (.int p7), .val (.int p8), .val (.int p9)] [(.int p1), (.int p6)])
        by_cases hc6 : p6 = p1
        · refine Go.to (fun _ => XS.icmpYes X0.here hx rfl (pc0 := 27) (pc' := 41) rfl (hb hby d5_27) rfl (teq hc6).1 (by decide) (by decide)) ?_
          show Go p e below _ s₁ (mkF m 41 #[.val (.int p1), .val (.int p2), .val (.int p3), .val (.int p4), .val (.int p5), .val (.int p6), .val (.int p7), .val (.int p8), .val (.int p9)] [])
          refine Go.to (fun _ => XS.iconst X0.here hx rfl (hb hby d5_41)) ?_
          show Go p e below _ s₁ (mkF m 42 #[.val (.int p1), .val (.int p2), .val (.int p3), .val (.int p4), .val (.int p5), .val (.int p6), .val (.int p7), .val (.int p8), .val (.int p9)] [(.int (1 : Int32))])
          refine Go.to (fun _ => XS.goto X0.here hx rfl (pc0 := 42) (pc' := 46) rfl (hb hby d5_42) (by decide) (by decide)) ?_
          show Go p e below _ s₁ (mkF m 46 #[.val (.int p1), .val (.int p2), .val (.int p3), .val (.int p4), .val (.int p5), .val (.int p6), .val (.int p7), .val (.int p8), .val (.int p9)] [(.int (1 : Int32))])
          rw [hK]
          exact Go.retZ X0 hx hlk hret (by decide) (hb hby d5_46) ⟨by rw [fH]; rw [if_pos hc1]; rw [if_pos hc2]; rw [if_neg hc3]; rw [if_pos hc6], e0, rfl⟩ (by decide) (by decide)
        · refine Go.to (fun _ => XS.icmpNo X0.here hx rfl (hb hby d5_27) rfl (feq hc6).1) ?_
          show Go p e below _ s₁ (mkF m 30 #[.val (.int p1), .val (.int p2), .val (.int p3), .val (.int p4), .val (.int p5), .val (.int p6), .val (.int p7), .val (.int p8), .val (.int p9)] [])
          refine Go.to (fun _ => XS.iload X0.here hx rfl (hb hby d5_30) rfl) ?_
          show Go p e below _ s₁ (mkF m 32 #[.val (.int p1), .val (.int p2), .val (.int p3), .val (.int p4), .val (.int p5), .val (.int p6), .val (.int p7), .val (.int p8), .val (.int p9)] [(.int p9)])
          by_cases hc7 : p9 = (0 : Int32)
          · refine Go.to (fun _ => XS.ifYes X0.here hx rfl (pc0 := 32) (pc' := 45) rfl (hb hby d5_32) rfl ((if0 _ _).trans (teq hc7).1) (by decide) (by decide)) ?_
            show Go p e below _ s₁ (mkF m 45 #[.val (.int p1), .val (.int p2), .val (.int p3), .val (.int p4), .val (.int p5), .val (.int p6), .val (.int p7), .val (.int p8), .val (.int p9)] [])
            refine Go.to (fun _ => XS.iconst X0.here hx rfl (hb hby d5_45)) ?_
            show Go p e below _ s₁ (mkF m 46 #[.val (.int p1), .val (.int p2), .val (.int p3), .val (.int p4), .val (.int p5), .val (.int p6), .val (.int p7), .val (.int p8), .val (.int p9)] [(.int (0 : Int32))])
            rw [hK]
            exact Go.retZ X0 hx hlk hret (by decide) (hb hby d5_46) ⟨by rw [fH]; rw [if_pos hc1]; rw [if_pos hc2]; rw [if_neg hc3]; rw [if_neg hc6]; rw [if_pos hc7], e0, rfl⟩ (by decide) (by decide)
          · refine Go.to (fun _ => XS.ifNo X0.here hx rfl (hb hby d5_32) rfl ((if0 _ _).trans (feq hc7).1)) ?_
            show Go p e below _ s₁ (mkF m 35 #[.val (.int p1), .val (.int p2), .val (.int p3), .val (.int p4), .val (.int p5), .val (.int p6), .val (.int p7), .val (.int p8), .val (.int p9)] [])
            refine Go.to (fun _ => XS.iload X0.here hx rfl (hb hby d5_35) rfl) ?_
            show Go p e below _ s₁ (mkF m 37 #[.val (.int p1), .val (.int p2), .val (.int p3), .val (.int p4), .val (.int p5), .val (.int p6), .val (.int p7), .val (.int p8), .val (.int p9)] [(.int p8)])
            refine Go.to (fun _ => XS.iloadN X0.here hx rfl (hb hby d5_37) rfl) ?_
            show Go p e below _ s₁ (mkF m 38 #[.val (.int p1), .val (.int p2), .val (.int p3), .val (.int p4), .val (.int p5), .val (.int p6), .val (.int p7), .val (.int p8), .val (.int p9)] [(.int p1), (.int p8)])
            by_cases hc8 : p8 = p1
            · refine Go.to (fun _ => XS.icmpNo X0.here hx rfl (hb hby d5_38) rfl (teq hc8).2) ?_
              show Go p e below _ s₁ (mkF m 41 #[.val (.int p1), .val (.int p2), .val (.int p3), .val (.int p4), .val (.int p5), .val (.int p6), .val (.int p7), .val (.int p8), .val (.int p9)] [])
              refine Go.to (fun _ => XS.iconst X0.here hx rfl (hb hby d5_41)) ?_
              show Go p e below _ s₁ (mkF m 42 #[.val (.int p1), .val (.int p2), .val (.int p3), .val (.int p4), .val (.int p5), .val (.int p6), .val (.int p7), .val (.int p8), .val (.int p9)] [(.int (1 : Int32))])
              refine Go.to (fun _ => XS.goto X0.here hx rfl (pc0 := 42) (pc' := 46) rfl (hb hby d5_42) (by decide) (by decide)) ?_
              show Go p e below _ s₁ (mkF m 46 #[.val (.int p1), .val (.int p2), .val (.int p3), .val (.int p4), .val (.int p5), .val (.int p6), .val (.int p7), .val (.int p8), .val (.int p9)] [(.int (1 : Int32))])
              rw [hK]
              exact Go.retZ X0 hx hlk hret (by decide) (hb hby d5_46) ⟨by rw [fH]; rw [if_pos hc1]; rw [if_pos hc2]; rw [if_neg hc3]; rw [if_neg hc6]; rw [if_neg hc7]; rw [if_pos hc8], e0, rfl⟩ (by decide) (by decide)
            · refine Go.to (fun _ => XS.icmpYes X0.here hx rfl (pc0 := 38) (pc' := 45) rfl (hb hby d5_38) rfl (feq hc8).2 (by decide) (by decide)) ?_
              show Go p e below _ s₁ (mkF m 45 #[.val (.int p1), .val (.int p2), .val (.int p3), .val (.int p4), .val (.int p5), .val (.int p6), .val (.int p7), .val (.int p8), .val (.int p9)] [])
              refine Go.to (fun _ => XS.iconst X0.here hx rfl (hb hby d5_45)) ?_
              show Go p e below _ s₁ (mkF m 46 #[.val (.int p1), .val (.int p2), .val (.int p3), .val (.int p4), .val (.int p5), .val (.int p6), .val (.int p7), .val (.int p8), .val (.int p9)] [(.int (0 : Int32))])
              rw [hK]
              exact Go.retZ X0 hx hlk hret (by decide) (hb hby d5_46) ⟨by rw [fH]; rw [if_pos hc1]; rw [if_pos hc2]; rw [if_neg hc3]; rw [if_neg hc6]; rw [if_neg hc7]; rw [if_neg hc8], e0, rfl⟩ (by decide) (by decide)
    · refine Go.to (fun _ => XS.ifNo X0.here hx rfl (hb hby d5_11) rfl ((if0 _ _).trans (feq hc2).1)) ?_
      show Go p e below _ s₁ (mkF m 14 #[.val (.int p1), .val (.int p2), .val (.int p3), .val (.int p4), .val (.int p5), .val (.int p6), .val (.int p7), .val (.int p8), .val (.int p9)] [])
      refine Go.to (fun _ => XS.iloadN X0.here hx rfl (hb hby d5_14) rfl) ?_
      show Go p e below _ s₁ (mkF m 15 #[.val (.int p1), .val (.int p2), .val (.int p3), .val (.int p4), .val (.int p5), .val (.int p6), .val (.int p7), .val (.int p8), .val (.int p9)] [(.int p4)])
      refine Go.to (fun _ => XS.iloadN X0.here hx rfl (hb hby d5_15) rfl) ?_
      show Go p e below _ s₁ (mkF m 16 #[.val (.int p1), .val (.int p2), .val (.int p3), .val (.int p4), .val (.int p5), .val (.int p6), .val (.int p7), .val (.int p8), .val (.int p9)] [(.int p1), (.int p4)])
      by_cases hc9 : p4 = p1
      · refine Go.to (fun _ => XS.icmpYes X0.here hx rfl (pc0 := 16) (pc' := 41) rfl (hb hby d5_16) rfl (teq hc9).1 (by decide) (by decide)) ?_
        show Go p e below _ s₁ (mkF m 41 #[.val (.int p1), .val (.int p2), .val (.int p3), .val (.int p4), .val (.int p5), .val (.int p6), .val (.int p7), .val (.int p8), .val (.int p9)] [])
        refine Go.to (fun _ => XS.iconst X0.here hx rfl (hb hby d5_41)) ?_
        show Go p e below _ s₁ (mkF m 42 #[.val (.int p1), .val (.int p2), .val (.int p3), .val (.int p4), .val (.int p5), .val (.int p6), .val (.int p7), .val (.int p8), .val (.int p9)] [(.int (1 : Int32))])
        refine Go.to (fun _ => XS.goto X0.here hx rfl (pc0 := 42) (pc' := 46) rfl (hb hby d5_42) (by decide) (by decide)) ?_
        show Go p e below _ s₁ (mkF m 46 #[.val (.int p1), .val (.int p2), .val (.int p3), .val (.int p4), .val (.int p5), .val (.int p6), .val (.int p7), .val (.int p8), .val (.int p9)] [(.int (1 : Int32))])
        rw [hK]
        exact Go.retZ X0 hx hlk hret (by decide) (hb hby d5_46) ⟨by rw [fH]; rw [if_pos hc1]; rw [if_neg hc2]; rw [if_pos hc9], e0, rfl⟩ (by decide) (by decide)
      · refine Go.to (fun _ => XS.icmpNo X0.here hx rfl (hb hby d5_16) rfl (feq hc9).1) ?_
        show Go p e below _ s₁ (mkF m 19 #[.val (.int p1), .val (.int p2), .val (.int p3), .val (.int p4), .val (.int p5), .val (.int p6), .val (.int p7), .val (.int p8), .val (.int p9)] [])
        refine Go.to (fun _ => XS.iload X0.here hx rfl (hb hby d5_19) rfl) ?_
        show Go p e below _ s₁ (mkF m 21 #[.val (.int p1), .val (.int p2), .val (.int p3), .val (.int p4), .val (.int p5), .val (.int p6), .val (.int p7), .val (.int p8), .val (.int p9)] [(.int p7)])
        by_cases hc10 : p7 = (0 : Int32)
        · refine Go.to (fun _ => XS.ifYes X0.here hx rfl (pc0 := 21) (pc' := 30) rfl (hb hby d5_21) rfl ((if0 _ _).trans (teq hc10).1) (by decide) (by decide)) ?_
          show Go p e below _ s₁ (mkF m 30 #[.val (.int p1), .val (.int p2), .val (.int p3), .val (.int p4), .val (.int p5), .val (.int p6), .val (.int p7), .val (.int p8), .val (.int p9)] [])
          refine Go.to (fun _ => XS.iload X0.here hx rfl (hb hby d5_30) rfl) ?_
          show Go p e below _ s₁ (mkF m 32 #[.val (.int p1), .val (.int p2), .val (.int p3), .val (.int p4), .val (.int p5), .val (.int p6), .val (.int p7), .val (.int p8), .val (.int p9)] [(.int p9)])
          by_cases hc11 : p9 = (0 : Int32)
          · refine Go.to (fun _ => XS.ifYes X0.here hx rfl (pc0 := 32) (pc' := 45) rfl (hb hby d5_32) rfl ((if0 _ _).trans (teq hc11).1) (by decide) (by decide)) ?_
            show Go p e below _ s₁ (mkF m 45 #[.val (.int p1), .val (.int p2), .val (.int p3), .val (.int p4), .val (.int p5), .val (.int p6), .val (.int p7), .val (.int p8), .val (.int p9)] [])
            refine Go.to (fun _ => XS.iconst X0.here hx rfl (hb hby d5_45)) ?_
            show Go p e below _ s₁ (mkF m 46 #[.val (.int p1), .val (.int p2), .val (.int p3), .val (.int p4), .val (.int p5), .val (.int p6), .val (.int p7), .val (.int p8), .val (.int p9)] [(.int (0 : Int32))])
            rw [hK]
            exact Go.retZ X0 hx hlk hret (by decide) (hb hby d5_46) ⟨by rw [fH]; rw [if_pos hc1]; rw [if_neg hc2]; rw [if_neg hc9]; rw [if_pos hc10]; rw [if_pos hc11], e0, rfl⟩ (by decide) (by decide)
          · refine Go.to (fun _ => XS.ifNo X0.here hx rfl (hb hby d5_32) rfl ((if0 _ _).trans (feq hc11).1)) ?_
            show Go p e below _ s₁ (mkF m 35 #[.val (.int p1), .val (.int p2), .val (.int p3), .val (.int p4), .val (.int p5), .val (.int p6), .val (.int p7), .val (.int p8), .val (.int p9)] [])
            refine Go.to (fun _ => XS.iload X0.here hx rfl (hb hby d5_35) rfl) ?_
            show Go p e below _ s₁ (mkF m 37 #[.val (.int p1), .val (.int p2), .val (.int p3), .val (.int p4), .val (.int p5), .val (.int p6), .val (.int p7), .val (.int p8), .val (.int p9)] [(.int p8)])
            refine Go.to (fun _ => XS.iloadN X0.here hx rfl (hb hby d5_37) rfl) ?_
            show Go p e below _ s₁ (mkF m 38 #[.val (.int p1), .val (.int p2), .val (.int p3), .val (.int p4), .val (.int p5), .val (.int p6), .val (.int p7), .val (.int p8), .val (.int p9)] [(.int p1), (.int p8)])
            by_cases hc12 : p8 = p1
            · refine Go.to (fun _ => XS.icmpNo X0.here hx rfl (hb hby d5_38) rfl (teq hc12).2) ?_
              show Go p e below _ s₁ (mkF m 41 #[.val (.int p1), .val (.int p2), .val (.int p3), .val (.int p4), .val (.int p5), .val (.int p6), .val (.int p7), .val (.int p8), .val (.int p9)] [])
              refine Go.to (fun _ => XS.iconst X0.here hx rfl (hb hby d5_41)) ?_
              show Go p e below _ s₁ (mkF m 42 #[.val (.int p1), .val (.int p2), .val (.int p3), .val (.int p4), .val (.int p5), .val (.int p6), .val (.int p7), .val (.int p8), .val (.int p9)] [(.int (1 : Int32))])
              refine Go.to (fun _ => XS.goto X0.here hx rfl (pc0 := 42) (pc' := 46) rfl (hb hby d5_42) (by decide) (by decide)) ?_
              show Go p e below _ s₁ (mkF m 46 #[.val (.int p1), .val (.int p2), .val (.int p3), .val (.int p4), .val (.int p5), .val (.int p6), .val (.int p7), .val (.int p8), .val (.int p9)] [(.int (1 : Int32))])
              rw [hK]
              exact Go.retZ X0 hx hlk hret (by decide) (hb hby d5_46) ⟨by rw [fH]; rw [if_pos hc1]; rw [if_neg hc2]; rw [if_neg hc9]; rw [if_pos hc10]; rw [if_neg hc11]; rw [if_pos hc12], e0, rfl⟩ (by decide) (by decide)
            · refine Go.to (fun _ => XS.icmpYes X0.here hx rfl (pc0 := 38) (pc' := 45) rfl (hb hby d5_38) rfl (feq hc12).2 (by decide) (by decide)) ?_
              show Go p e below _ s₁ (mkF m 45 #[.val (.int p1), .val (.int p2), .val (.int p3), .val (.int p4), .val (.int p5), .val (.int p6), .val (.int p7), .val (.int p8), .val (.int p9)] [])
              refine Go.to (fun _ => XS.iconst X0.here hx rfl (hb hby d5_45)) ?_
              show Go p e below _ s₁ (mkF m 46 #[.val (.int p1), .val (.int p2), .val (.int p3), .val (.int p4), .val (.int p5), .val (.int p6), .val (.int p7), .val (.int p8), .val (.int p9)] [(.int (0 : Int32))])
              rw [hK]
              exact Go.retZ X0 hx hlk hret (by decide) (hb hby d5_46) ⟨by rw [fH]; rw [if_pos hc1]; rw [if_neg hc2]; rw [if_neg hc9]; rw [if_pos hc10]; rw [if_neg hc11]; rw [if_neg hc12], e0, rfl⟩ (by decide) (by decide)
        · refine Go.to (fun _ => XS.ifNo X0.here hx rfl (hb hby d5_21) rfl ((if0 _ _).trans (feq hc10).1)) ?_
          show Go p e below _ s₁ (mkF m 24 #[.val (.int p1), .val (.int p2), .val (.int p3), .val (.int p4), .val (.int p5), .val (.int p6), .val (.int p7), .val (.int p8), .val (.int p9)] [])
          refine Go.to (fun _ => XS.iload X0.here hx rfl (hb hby d5_24) rfl) ?_
          show Go p e below _ s₁ (mkF m 26 #[.val (.int p1), .val (.int p2), .val (.int p3), .val (.int p4), .val (.int p5), .val (.int p6), .val (.int p7), .val (.int p8), .val (.int p9)] [(.int p6)])
          refine Go.to (fun _ => XS.iloadN X0.here hx rfl (hb hby d5_26) rfl) ?_
          show Go p e below _ s₁ (mkF m 27 #[.val (.int p1), .val (.int p2), .val (.int p3), .val (.int p4), .val (.int p5), .val (.int p6), .val (.int p7), .val (.int p8), .val (.int p9)] [(.int p1), (.int p6)])
          by_cases hc13 : p6 = p1
          · refine Go.to (fun _ => XS.icmpYes X0.here hx rfl (pc0 := 27) (pc' := 41) rfl (hb hby d5_27) rfl (teq hc13).1 (by decide) (by decide)) ?_
            show Go p e below _ s₁ (mkF m 41 #[.val (.int p1), .val (.int p2), .val (.int p3), .val (.int p4), .val (.int p5), .val (.int p6), .val (.int p7), .val (.int p8), .val (.int p9)] [])
            refine Go.to (fun _ => XS.iconst X0.here hx rfl (hb hby d5_41)) ?_
            show Go p e below _ s₁ (mkF m 42 #[.val (.int p1), .val (.int p2), .val (.int p3), .val (.int p4), .val (.int p5), .val (.int p6), .val (.int p7), .val (.int p8), .val (.int p9)] [(.int (1 : Int32))])
            refine Go.to (fun _ => XS.goto X0.here hx rfl (pc0 := 42) (pc' := 46) rfl (hb hby d5_42) (by decide) (by decide)) ?_
            show Go p e below _ s₁ (mkF m 46 #[.val (.int p1), .val (.int p2), .val (.int p3), .val (.int p4), .val (.int p5), .val (.int p6), .val (.int p7), .val (.int p8), .val (.int p9)] [(.int (1 : Int32))])
            rw [hK]
            exact Go.retZ X0 hx hlk hret (by decide) (hb hby d5_46) ⟨by rw [fH]; rw [if_pos hc1]; rw [if_neg hc2]; rw [if_neg hc9]; rw [if_neg hc10]; rw [if_pos hc13], e0, rfl⟩ (by decide) (by decide)
          · refine Go.to (fun _ => XS.icmpNo X0.here hx rfl (hb hby d5_27) rfl (feq hc13).1) ?_
            show Go p e below _ s₁ (mkF m 30 #[.val (.int p1), .val (.int p2), .val (.int p3), .val (.int p4), .val (.int p5), .val (.int p6), .val (.int p7), .val (.int p8), .val (.int p9)] [])
            refine Go.to (fun _ => XS.iload X0.here hx rfl (hb hby d5_30) rfl) ?_
            show Go p e below _ s₁ (mkF m 32 #[.val (.int p1), .val (.int p2), .val (.int p3), .val (.int p4), .val (.int p5), .val (.int p6), .val (.int p7), .val (.int p8), .val (.int p9)] [(.int p9)])
            by_cases hc14 : p9 = (0 : Int32)
            · refine Go.to (fun _ => XS.ifYes X0.here hx rfl (pc0 := 32) (pc' := 45) rfl (hb hby d5_32) rfl ((if0 _ _).trans (teq hc14).1) (by decide) (by decide)) ?_
              show Go p e below _ s₁ (mkF m 45 #[.val (.int p1), .val (.int p2), .val (.int p3), .val (.int p4), .val (.int p5), .val (.int p6), .val (.int p7), .val (.int p8), .val (.int p9)] [])
              refine Go.to (fun _ => XS.iconst X0.here hx rfl (hb hby d5_45)) ?_
              show Go p e below _ s₁ (mkF m 46 #[.val (.int p1), .val (.int p2), .val (.int p3), .val (.int p4), .val (.int p5), .val (.int p6), .val (.int p7), .val (.int p8), .val (.int p9)] [(.int (0 : Int32))])
              rw [hK]
              exact Go.retZ X0 hx hlk hret (by decide) (hb hby d5_46) ⟨by rw [fH]; rw [if_pos hc1]; rw [if_neg hc2]; rw [if_neg hc9]; rw [if_neg hc10]; rw [if_neg hc13]; rw [if_pos hc14], e0, rfl⟩ (by decide) (by decide)
            · refine Go.to (fun _ => XS.ifNo X0.here hx rfl (hb hby d5_32) rfl ((if0 _ _).trans (feq hc14).1)) ?_
              show Go p e below _ s₁ (mkF m 35 #[.val (.int p1), .val (.int p2), .val (.int p3), .val (.int p4), .val (.int p5), .val (.int p6), .val (.int p7), .val (.int p8), .val (.int p9)] [])
              refine Go.to (fun _ => XS.iload X0.here hx rfl (hb hby d5_35) rfl) ?_
              show Go p e below _ s₁ (mkF m 37 #[.val (.int p1), .val (.int p2), .val (.int p3), .val (.int p4), .val (.int p5), .val (.int p6), .val (.int p7), .val (.int p8), .val (.int p9)] [(.int p8)])
              refine Go.to (fun _ => XS.iloadN X0.here hx rfl (hb hby d5_37) rfl) ?_
              show Go p e below _ s₁ (mkF m 38 #[.val (.int p1), .val (.int p2), .val (.int p3), .val (.int p4), .val (.int p5), .val (.int p6), .val (.int p7), .val (.int p8), .val (.int p9)] [(.int p1), (.int p8)])
              by_cases hc15 : p8 = p1
              · refine Go.to (fun _ => XS.icmpNo X0.here hx rfl (hb hby d5_38) rfl (teq hc15).2) ?_
                show Go p e below _ s₁ (mkF m 41 #[.val (.int p1), .val (.int p2), .val (.int p3), .val (.int p4), .val (.int p5), .val (.int p6), .val (.int p7), .val (.int p8), .val (.int p9)] [])
                refine Go.to (fun _ => XS.iconst X0.here hx rfl (hb hby d5_41)) ?_
                show Go p e below _ s₁ (mkF m 42 #[.val (.int p1), .val (.int p2), .val (.int p3), .val (.int p4), .val (.int p5), .val (.int p6), .val (.int p7), .val (.int p8), .val (.int p9)] [(.int (1 : Int32))])
                refine Go.to (fun _ => XS.goto X0.here hx rfl (pc0 := 42) (pc' := 46) rfl (hb hby d5_42) (by decide) (by decide)) ?_
                show Go p e below _ s₁ (mkF m 46 #[.val (.int p1), .val (.int p2), .val (.int p3), .val (.int p4), .val (.int p5), .val (.int p6), .val (.int p7), .val (.int p8), .val (.int p9)] [(.int (1 : Int32))])
                rw [hK]
                exact Go.retZ X0 hx hlk hret (by decide) (hb hby d5_46) ⟨by rw [fH]; rw [if_pos hc1]; rw [if_neg hc2]; rw [if_neg hc9]; rw [if_neg hc10]; rw [if_neg hc13]; rw [if_neg hc14]; rw [if_pos hc15], e0, rfl⟩ (by decide) (by decide)
              · refine Go.to (fun _ => XS.icmpYes X0.here hx rfl (pc0 := 38) (pc' := 45) rfl (hb hby d5_38) rfl (feq hc15).2 (by decide) (by decide)) ?_
                show Go p e below _ s₁ (mkF m 45 #[.val (.int p1), .val (.int p2), .val (.int p3), .val (.int p4), .val (.int p5), .val (.int p6), .val (.int p7), .val (.int p8), .val (.int p9)] [])
                refine Go.to (fun _ => XS.iconst X0.here hx rfl (hb hby d5_45)) ?_
                show Go p e below _ s₁ (mkF m 46 #[.val (.int p1), .val (.int p2), .val (.int p3), .val (.int p4), .val (.int p5), .val (.int p6), .val (.int p7), .val (.int p8), .val (.int p9)] [(.int (0 : Int32))])
                rw [hK]
                exact Go.retZ X0 hx hlk hret (by decide) (hb hby d5_46) ⟨by rw [fH]; rw [if_pos hc1]; rw [if_neg hc2]; rw [if_neg hc9]; rw [if_neg hc10]; rw [if_neg hc13]; rw [if_neg hc14]; rw [if_neg hc15], e0, rfl⟩ (by decide) (by decide)
  · refine Go.to (fun _ => XS.ifNo X0.here hx rfl (hb hby d5_1) rfl ((if0 _ _).trans (feq hc1).1)) ?_
    show Go p e below _ s₁ (mkF m 4 #[.val (.int p1), .val (.int p2), .val (.int p3), .val (.int p4), .val (.int p5), .val (.int p6), .val (.int p7), .val (.int p8), .val (.int p9)] [])
    refine Go.to (fun _ => XS.iloadN X0.here hx rfl (hb hby d5_4) rfl) ?_
    show Go p e below _ s₁ (mkF m 5 #[.val (.int p1), .val (.int p2), .val (.int p3), .val (.int p4), .val (.int p5), .val (.int p6), .val (.int p7), .val (.int p8), .val (.int p9)] [(.int p2)])
    refine Go.to (fun _ => XS.iloadN X0.here hx rfl (hb hby d5_5) rfl) ?_
    show Go p e below _ s₁ (mkF m 6 #[.val (.int p1), .val (.int p2), .val (.int p3), .val (.int p4), .val (.int p5), .val (.int p6), .val (.int p7), .val (.int p8), .val (.int p9)] [(.int p1), (.int p2)])
    by_cases hc16 : p2 = p1
    · refine Go.to (fun _ => XS.icmpYes X0.here hx rfl (pc0 := 6) (pc' := 41) rfl (hb hby d5_6) rfl (teq hc16).1 (by decide) (by decide)) ?_
      show Go p e below _ s₁ (mkF m 41 #[.val (.int p1), .val (.int p2), .val (.int p3), .val (.int p4), .val (.int p5), .val (.int p6), .val (.int p7), .val (.int p8), .val (.int p9)] [])
      refine Go.to (fun _ => XS.iconst X0.here hx rfl (hb hby d5_41)) ?_
      show Go p e below _ s₁ (mkF m 42 #[.val (.int p1), .val (.int p2), .val (.int p3), .val (.int p4), .val (.int p5), .val (.int p6), .val (.int p7), .val (.int p8), .val (.int p9)] [(.int (1 : Int32))])
      refine Go.to (fun _ => XS.goto X0.here hx rfl (pc0 := 42) (pc' := 46) rfl (hb hby d5_42) (by decide) (by decide)) ?_
      show Go p e below _ s₁ (mkF m 46 #[.val (.int p1), .val (.int p2), .val (.int p3), .val (.int p4), .val (.int p5), .val (.int p6), .val (.int p7), .val (.int p8), .val (.int p9)] [(.int (1 : Int32))])
      rw [hK]
      exact Go.retZ X0 hx hlk hret (by decide) (hb hby d5_46) ⟨by rw [fH]; rw [if_neg hc1]; rw [if_pos hc16], e0, rfl⟩ (by decide) (by decide)
    · refine Go.to (fun _ => XS.icmpNo X0.here hx rfl (hb hby d5_6) rfl (feq hc16).1) ?_
      show Go p e below _ s₁ (mkF m 9 #[.val (.int p1), .val (.int p2), .val (.int p3), .val (.int p4), .val (.int p5), .val (.int p6), .val (.int p7), .val (.int p8), .val (.int p9)] [])
      refine Go.to (fun _ => XS.iload X0.here hx rfl (hb hby d5_9) rfl) ?_
      show Go p e below _ s₁ (mkF m 11 #[.val (.int p1), .val (.int p2), .val (.int p3), .val (.int p4), .val (.int p5), .val (.int p6), .val (.int p7), .val (.int p8), .val (.int p9)] [(.int p5)])
      by_cases hc17 : p5 = (0 : Int32)
      · refine Go.to (fun _ => XS.ifYes X0.here hx rfl (pc0 := 11) (pc' := 19) rfl (hb hby d5_11) rfl ((if0 _ _).trans (teq hc17).1) (by decide) (by decide)) ?_
        show Go p e below _ s₁ (mkF m 19 #[.val (.int p1), .val (.int p2), .val (.int p3), .val (.int p4), .val (.int p5), .val (.int p6), .val (.int p7), .val (.int p8), .val (.int p9)] [])
        refine Go.to (fun _ => XS.iload X0.here hx rfl (hb hby d5_19) rfl) ?_
        show Go p e below _ s₁ (mkF m 21 #[.val (.int p1), .val (.int p2), .val (.int p3), .val (.int p4), .val (.int p5), .val (.int p6), .val (.int p7), .val (.int p8), .val (.int p9)] [(.int p7)])
        by_cases hc18 : p7 = (0 : Int32)
        · refine Go.to (fun _ => XS.ifYes X0.here hx rfl (pc0 := 21) (pc' := 30) rfl (hb hby d5_21) rfl ((if0 _ _).trans (teq hc18).1) (by decide) (by decide)) ?_
          show Go p e below _ s₁ (mkF m 30 #[.val (.int p1), .val (.int p2), .val (.int p3), .val (.int p4), .val (.int p5), .val (.int p6), .val (.int p7), .val (.int p8), .val (.int p9)] [])
          refine Go.to (fun _ => XS.iload X0.here hx rfl (hb hby d5_30) rfl) ?_
          show Go p e below _ s₁ (mkF m 32 #[.val (.int p1), .val (.int p2), .val (.int p3), .val (.int p4), .val (.int p5), .val (.int p6), .val (.int p7), .val (.int p8), .val (.int p9)] [(.int p9)])
          by_cases hc19 : p9 = (0 : Int32)
          · refine Go.to (fun _ => XS.ifYes X0.here hx rfl (pc0 := 32) (pc' := 45) rfl (hb hby d5_32) rfl ((if0 _ _).trans (teq hc19).1) (by decide) (by decide)) ?_
            show Go p e below _ s₁ (mkF m 45 #[.val (.int p1), .val (.int p2), .val (.int p3), .val (.int p4), .val (.int p5), .val (.int p6), .val (.int p7), .val (.int p8), .val (.int p9)] [])
            refine Go.to (fun _ => XS.iconst X0.here hx rfl (hb hby d5_45)) ?_
            show Go p e below _ s₁ (mkF m 46 #[.val (.int p1), .val (.int p2), .val (.int p3), .val (.int p4), .val (.int p5), .val (.int p6), .val (.int p7), .val (.int p8), .val (.int p9)] [(.int (0 : Int32))])
            rw [hK]
            exact Go.retZ X0 hx hlk hret (by decide) (hb hby d5_46) ⟨by rw [fH]; rw [if_neg hc1]; rw [if_neg hc16]; rw [if_pos hc17]; rw [if_pos hc18]; rw [if_pos hc19], e0, rfl⟩ (by decide) (by decide)
          · refine Go.to (fun _ => XS.ifNo X0.here hx rfl (hb hby d5_32) rfl ((if0 _ _).trans (feq hc19).1)) ?_
            show Go p e below _ s₁ (mkF m 35 #[.val (.int p1), .val (.int p2), .val (.int p3), .val (.int p4), .val (.int p5), .val (.int p6), .val (.int p7), .val (.int p8), .val (.int p9)] [])
            refine Go.to (fun _ => XS.iload X0.here hx rfl (hb hby d5_35) rfl) ?_
            show Go p e below _ s₁ (mkF m 37 #[.val (.int p1), .val (.int p2), .val (.int p3), .val (.int p4), .val (.int p5), .val (.int p6), .val (.int p7), .val (.int p8), .val (.int p9)] [(.int p8)])
            refine Go.to (fun _ => XS.iloadN X0.here hx rfl (hb hby d5_37) rfl) ?_
            show Go p e below _ s₁ (mkF m 38 #[.val (.int p1), .val (.int p2), .val (.int p3), .val (.int p4), .val (.int p5), .val (.int p6), .val (.int p7), .val (.int p8), .val (.int p9)] [(.int p1), (.int p8)])
            by_cases hc20 : p8 = p1
            · refine Go.to (fun _ => XS.icmpNo X0.here hx rfl (hb hby d5_38) rfl (teq hc20).2) ?_
              show Go p e below _ s₁ (mkF m 41 #[.val (.int p1), .val (.int p2), .val (.int p3), .val (.int p4), .val (.int p5), .val (.int p6), .val (.int p7), .val (.int p8), .val (.int p9)] [])
              refine Go.to (fun _ => XS.iconst X0.here hx rfl (hb hby d5_41)) ?_
              show Go p e below _ s₁ (mkF m 42 #[.val (.int p1), .val (.int p2), .val (.int p3), .val (.int p4), .val (.int p5), .val (.int p6), .val (.int p7), .val (.int p8), .val (.int p9)] [(.int (1 : Int32))])
              refine Go.to (fun _ => XS.goto X0.here hx rfl (pc0 := 42) (pc' := 46) rfl (hb hby d5_42) (by decide) (by decide)) ?_
              show Go p e below _ s₁ (mkF m 46 #[.val (.int p1), .val (.int p2), .val (.int p3), .val (.int p4), .val (.int p5), .val (.int p6), .val (.int p7), .val (.int p8), .val (.int p9)] [(.int (1 : Int32))])
              rw [hK]
              exact Go.retZ X0 hx hlk hret (by decide) (hb hby d5_46) ⟨by rw [fH]; rw [if_neg hc1]; rw [if_neg hc16]; rw [if_pos hc17]; rw [if_pos hc18]; rw [if_neg hc19]; rw [if_pos hc20], e0, rfl⟩ (by decide) (by decide)
            · refine Go.to (fun _ => XS.icmpYes X0.here hx rfl (pc0 := 38) (pc' := 45) rfl (hb hby d5_38) rfl (feq hc20).2 (by decide) (by decide)) ?_
              show Go p e below _ s₁ (mkF m 45 #[.val (.int p1), .val (.int p2), .val (.int p3), .val (.int p4), .val (.int p5), .val (.int p6), .val (.int p7), .val (.int p8), .val (.int p9)] [])
              refine Go.to (fun _ => XS.iconst X0.here hx rfl (hb hby d5_45)) ?_
              show Go p e below _ s₁ (mkF m 46 #[.val (.int p1), .val (.int p2), .val (.int p3), .val (.int p4), .val (.int p5), .val (.int p6), .val (.int p7), .val (.int p8), .val (.int p9)] [(.int (0 : Int32))])
              rw [hK]
              exact Go.retZ X0 hx hlk hret (by decide) (hb hby d5_46) ⟨by rw [fH]; rw [if_neg hc1]; rw [if_neg hc16]; rw [if_pos hc17]; rw [if_pos hc18]; rw [if_neg hc19]; rw [if_neg hc20], e0, rfl⟩ (by decide) (by decide)
        · refine Go.to (fun _ => XS.ifNo X0.here hx rfl (hb hby d5_21) rfl ((if0 _ _).trans (feq hc18).1)) ?_
          show Go p e below _ s₁ (mkF m 24 #[.val (.int p1), .val (.int p2), .val (.int p3), .val (.int p4), .val (.int p5), .val (.int p6), .val (.int p7), .val (.int p8), .val (.int p9)] [])
          refine Go.to (fun _ => XS.iload X0.here hx rfl (hb hby d5_24) rfl) ?_
          show Go p e below _ s₁ (mkF m 26 #[.val (.int p1), .val (.int p2), .val (.int p3), .val (.int p4), .val (.int p5), .val (.int p6), .val (.int p7), .val (.int p8), .val (.int p9)] [(.int p6)])
          refine Go.to (fun _ => XS.iloadN X0.here hx rfl (hb hby d5_26) rfl) ?_
          show Go p e below _ s₁ (mkF m 27 #[.val (.int p1), .val (.int p2), .val (.int p3), .val (.int p4), .val (.int p5), .val (.int p6), .val (.int p7), .val (.int p8), .val (.int p9)] [(.int p1), (.int p6)])
          by_cases hc21 : p6 = p1
          · refine Go.to (fun _ => XS.icmpYes X0.here hx rfl (pc0 := 27) (pc' := 41) rfl (hb hby d5_27) rfl (teq hc21).1 (by decide) (by decide)) ?_
            show Go p e below _ s₁ (mkF m 41 #[.val (.int p1), .val (.int p2), .val (.int p3), .val (.int p4), .val (.int p5), .val (.int p6), .val (.int p7), .val (.int p8), .val (.int p9)] [])
            refine Go.to (fun _ => XS.iconst X0.here hx rfl (hb hby d5_41)) ?_
            show Go p e below _ s₁ (mkF m 42 #[.val (.int p1), .val (.int p2), .val (.int p3), .val (.int p4), .val (.int p5), .val (.int p6), .val (.int p7), .val (.int p8), .val (.int p9)] [(.int (1 : Int32))])
            refine Go.to (fun _ => XS.goto X0.here hx rfl (pc0 := 42) (pc' := 46) rfl (hb hby d5_42) (by decide) (by decide)) ?_
            show Go p e below _ s₁ (mkF m 46 #[.val (.int p1), .val (.int p2), .val (.int p3), .val (.int p4), .val (.int p5), .val (.int p6), .val (.int p7), .val (.int p8), .val (.int p9)] [(.int (1 : Int32))])
            rw [hK]
            exact Go.retZ X0 hx hlk hret (by decide) (hb hby d5_46) ⟨by rw [fH]; rw [if_neg hc1]; rw [if_neg hc16]; rw [if_pos hc17]; rw [if_neg hc18]; rw [if_pos hc21], e0, rfl⟩ (by decide) (by decide)
          · refine Go.to (fun _ => XS.icmpNo X0.here hx rfl (hb hby d5_27) rfl (feq hc21).1) ?_
            show Go p e below _ s₁ (mkF m 30 #[.val (.int p1), .val (.int p2), .val (.int p3), .val (.int p4), .val (.int p5), .val (.int p6), .val (.int p7), .val (.int p8), .val (.int p9)] [])
            refine Go.to (fun _ => XS.iload X0.here hx rfl (hb hby d5_30) rfl) ?_
            show Go p e below _ s₁ (mkF m 32 #[.val (.int p1), .val (.int p2), .val (.int p3), .val (.int p4), .val (.int p5), .val (.int p6), .val (.int p7), .val (.int p8), .val (.int p9)] [(.int p9)])
            by_cases hc22 : p9 = (0 : Int32)
            · refine Go.to (fun _ => XS.ifYes X0.here hx rfl (pc0 := 32) (pc' := 45) rfl (hb hby d5_32) rfl ((if0 _ _).trans (teq hc22).1) (by decide) (by decide)) ?_
              show Go p e below _ s₁ (mkF m 45 #[.val (.int p1), .val (.int p2), .val (.int p3), .val (.int p4), .val (.int p5), .val (.int p6), .val (.int p7), .val (.int p8), .val (.int p9)] [])
              refine Go.to (fun _ => XS.iconst X0.here hx rfl (hb hby d5_45)) ?_
              show Go p e below _ s₁ (mkF m 46 #[.val (.int p1), .val (.int p2), .val (.int p3), .val (.int p4), .val (.int p5), .val (.int p6), .val (.int p7), .val (.int p8), .val (.int p9)] [(.int (0 : Int32))])
              rw [hK]
              exact Go.retZ X0 hx hlk hret (by decide) (hb hby d5_46) ⟨by rw [fH]; rw [if_neg hc1]; rw [if_neg hc16]; rw [if_pos hc17]; rw [if_neg hc18]; rw [if_neg hc21]; rw [if_pos hc22], e0, rfl⟩ (by decide) (by decide)
            · refine Go.to (fun _ => XS.ifNo X0.here hx rfl (hb hby d5_32) rfl ((if0 _ _).trans (feq hc22).1)) ?_
              show Go p e below _ s₁ (mkF m 35 #[.val (.int p1), .val (.int p2), .val (.int p3), .val (.int p4), .val (.int p5), .val (.int p6), .val (.int p7), .val (.int p8), .val (.int p9)] [])
              refine Go.to (fun _ => XS.iload X0.here hx rfl (hb hby d5_35) rfl) ?_
              show Go p e below _ s₁ (mkF m 37 #[.val (.int p1), .val (.int p2), .val (.int p3), .val (.int p4), .val (.int p5), .val (.int p6), .val (.int p7), .val (.int p8), .val (.int p9)] [(.int p8)])
              refine Go.to (fun _ => XS.iloadN X0.here hx rfl (hb hby d5_37) rfl) ?_
              show Go p e below _ s₁ (mkF m 38 #[.val (.int p1), .val (.int p2), .val (.int p3), .val (.int p4), .val (.int p5), .val (.int p6), .val (.int p7), .val (.int p8), .val (.int p9)] [(.int p1), (.int p8)])
              by_cases hc23 : p8 = p1
              · refine Go.to (fun _ => XS.icmpNo X0.here hx rfl (hb hby d5_38) rfl (teq hc23).2) ?_
                show Go p e below _ s₁ (mkF m 41 #[.val (.int p1), .val (.int p2), .val (.int p3), .val (.int p4), .val (.int p5), .val (.int p6), .val (.int p7), .val (.int p8), .val (.int p9)] [])
                refine Go.to (fun _ => XS.iconst X0.here hx rfl (hb hby d5_41)) ?_
                show Go p e below _ s₁ (mkF m 42 #[.val (.int p1), .val (.int p2), .val (.int p3), .val (.int p4), .val (.int p5), .val (.int p6), .val (.int p7), .val (.int p8), .val (.int p9)] [(.int (1 : Int32))])
                refine Go.to (fun _ => XS.goto X0.here hx rfl (pc0 := 42) (pc' := 46) rfl (hb hby d5_42) (by decide) (by decide)) ?_
                show Go p e below _ s₁ (mkF m 46 #[.val (.int p1), .val (.int p2), .val (.int p3), .val (.int p4), .val (.int p5), .val (.int p6), .val (.int p7), .val (.int p8), .val (.int p9)] [(.int (1 : Int32))])
                rw [hK]
                exact Go.retZ X0 hx hlk hret (by decide) (hb hby d5_46) ⟨by rw [fH]; rw [if_neg hc1]; rw [if_neg hc16]; rw [if_pos hc17]; rw [if_neg hc18]; rw [if_neg hc21]; rw [if_neg hc22]; rw [if_pos hc23], e0, rfl⟩ (by decide) (by decide)
              · refine Go.to (fun _ => XS.icmpYes X0.here hx rfl (pc0 := 38) (pc' := 45) rfl (hb hby d5_38) rfl (feq hc23).2 (by decide) (by decide)) ?_
                show Go p e below _ s₁ (mkF m 45 #[.val (.int p1), .val (.int p2), .val (.int p3), .val (.int p4), .val (.int p5), .val (.int p6), .val (.int p7), .val (.int p8), .val (.int p9)] [])
                refine Go.to (fun _ => XS.iconst X0.here hx rfl (hb hby d5_45)) ?_
                show Go p e below _ s₁ (mkF m 46 #[.val (.int p1), .val (.int p2), .val (.int p3), .val (.int p4), .val (.int p5), .val (.int p6), .val (.int p7), .val (.int p8), .val (.int p9)] [(.int (0 : Int32))])
                rw [hK]
                exact Go.retZ X0 hx hlk hret (by decide) (hb hby d5_46) ⟨by rw [fH]; rw [if_neg hc1]; rw [if_neg hc16]; rw [if_pos hc17]; rw [if_neg hc18]; rw [if_neg hc21]; rw [if_neg hc22]; rw [if_neg hc23], e0, rfl⟩ (by decide) (by decide)
      · refine Go.to (fun _ => XS.ifNo X0.here hx rfl (hb hby d5_11) rfl ((if0 _ _).trans (feq hc17).1)) ?_
        show Go p e below _ s₁ (mkF m 14 #[.val (.int p1), .val (.int p2), .val (.int p3), .val (.int p4), .val (.int p5), .val (.int p6), .val (.int p7), .val (.int p8), .val (.int p9)] [])
        refine Go.to (fun _ => XS.iloadN X0.here hx rfl (hb hby d5_14) rfl) ?_
        show Go p e below _ s₁ (mkF m 15 #[.val (.int p1), .val (.int p2), .val (.int p3), .val (.int p4), .val (.int p5), .val (.int p6), .val (.int p7), .val (.int p8), .val (.int p9)] [(.int p4)])
        refine Go.to (fun _ => XS.iloadN X0.here hx rfl (hb hby d5_15) rfl) ?_
        show Go p e below _ s₁ (mkF m 16 #[.val (.int p1), .val (.int p2), .val (.int p3), .val (.int p4), .val (.int p5), .val (.int p6), .val (.int p7), .val (.int p8), .val (.int p9)] [(.int p1), (.int p4)])
        by_cases hc24 : p4 = p1
        · refine Go.to (fun _ => XS.icmpYes X0.here hx rfl (pc0 := 16) (pc' := 41) rfl (hb hby d5_16) rfl (teq hc24).1 (by decide) (by decide)) ?_
          show Go p e below _ s₁ (mkF m 41 #[.val (.int p1), .val (.int p2), .val (.int p3), .val (.int p4), .val (.int p5), .val (.int p6), .val (.int p7), .val (.int p8), .val (.int p9)] [])
          refine Go.to (fun _ => XS.iconst X0.here hx rfl (hb hby d5_41)) ?_
          show Go p e below _ s₁ (mkF m 42 #[.val (.int p1), .val (.int p2), .val (.int p3), .val (.int p4), .val (.int p5), .val (.int p6), .val (.int p7), .val (.int p8), .val (.int p9)] [(.int (1 : Int32))])
          refine Go.to (fun _ => XS.goto X0.here hx rfl (pc0 := 42) (pc' := 46) rfl (hb hby d5_42) (by decide) (by decide)) ?_
          show Go p e below _ s₁ (mkF m 46 #[.val (.int p1), .val (.int p2), .val (.int p3), .val (.int p4), .val (.int p5), .val (.int p6), .val (.int p7), .val (.int p8), .val (.int p9)] [(.int (1 : Int32))])
          rw [hK]
          exact Go.retZ X0 hx hlk hret (by decide) (hb hby d5_46) ⟨by rw [fH]; rw [if_neg hc1]; rw [if_neg hc16]; rw [if_neg hc17]; rw [if_pos hc24], e0, rfl⟩ (by decide) (by decide)
        · refine Go.to (fun _ => XS.icmpNo X0.here hx rfl (hb hby d5_16) rfl (feq hc24).1) ?_
          show Go p e below _ s₁ (mkF m 19 #[.val (.int p1), .val (.int p2), .val (.int p3), .val (.int p4), .val (.int p5), .val (.int p6), .val (.int p7), .val (.int p8), .val (.int p9)] [])
          refine Go.to (fun _ => XS.iload X0.here hx rfl (hb hby d5_19) rfl) ?_
          show Go p e below _ s₁ (mkF m 21 #[.val (.int p1), .val (.int p2), .val (.int p3), .val (.int p4), .val (.int p5), .val (.int p6), .val (.int p7), .val (.int p8), .val (.int p9)] [(.int p7)])
          by_cases hc25 : p7 = (0 : Int32)
          · refine Go.to (fun _ => XS.ifYes X0.here hx rfl (pc0 := 21) (pc' := 30) rfl (hb hby d5_21) rfl ((if0 _ _).trans (teq hc25).1) (by decide) (by decide)) ?_
            show Go p e below _ s₁ (mkF m 30 #[.val (.int p1), .val (.int p2), .val (.int p3), .val (.int p4), .val (.int p5), .val (.int p6), .val (.int p7), .val (.int p8), .val (.int p9)] [])
            refine Go.to (fun _ => XS.iload X0.here hx rfl (hb hby d5_30) rfl) ?_
            show Go p e below _ s₁ (mkF m 32 #[.val (.int p1), .val (.int p2), .val (.int p3), .val (.int p4), .val (.int p5), .val (.int p6), .val (.int p7), .val (.int p8), .val (.int p9)] [(.int p9)])
            by_cases hc26 : p9 = (0 : Int32)
            · refine Go.to (fun _ => XS.ifYes X0.here hx rfl (pc0 := 32) (pc' := 45) rfl (hb hby d5_32) rfl ((if0 _ _).trans (teq hc26).1) (by decide) (by decide)) ?_
              show Go p e below _ s₁ (mkF m 45 #[.val (.int p1), .val (.int p2), .val (.int p3), .val (.int p4), .val (.int p5), .val (.int p6), .val (.int p7), .val (.int p8), .val (.int p9)] [])
              refine Go.to (fun _ => XS.iconst X0.here hx rfl (hb hby d5_45)) ?_
              show Go p e below _ s₁ (mkF m 46 #[.val (.int p1), .val (.int p2), .val (.int p3), .val (.int p4), .val (.int p5), .val (.int p6), .val (.int p7), .val (.int p8), .val (.int p9)] [(.int (0 : Int32))])
              rw [hK]
              exact Go.retZ X0 hx hlk hret (by decide) (hb hby d5_46) ⟨by rw [fH]; rw [if_neg hc1]; rw [if_neg hc16]; rw [if_neg hc17]; rw [if_neg hc24]; rw [if_pos hc25]; rw [if_pos hc26], e0, rfl⟩ (by decide) (by decide)
            · refine Go.to (fun _ => XS.ifNo X0.here hx rfl (hb hby d5_32) rfl ((if0 _ _).trans (feq hc26).1)) ?_
              show Go p e below _ s₁ (mkF m 35 #[.val (.int p1), .val (.int p2), .val (.int p3), .val (.int p4), .val (.int p5), .val (.int p6), .val (.int p7), .val (.int p8), .val (.int p9)] [])
              refine Go.to (fun _ => XS.iload X0.here hx rfl (hb hby d5_35) rfl) ?_
              show Go p e below _ s₁ (mkF m 37 #[.val (.int p1), .val (.int p2), .val (.int p3), .val (.int p4), .val (.int p5), .val (.int p6), .val (.int p7), .val (.int p8), .val (.int p9)] [(.int p8)])
              refine Go.to (fun _ => XS.iloadN X0.here hx rfl (hb hby d5_37) rfl) ?_
              show Go p e below _ s₁ (mkF m 38 #[.val (.int p1), .val (.int p2), .val (.int p3), .val (.int p4), .val (.int p5), .val (.int p6), .val (.int p7), .val (.int p8), .val (.int p9)] [(.int p1), (.int p8)])
              by_cases hc27 : p8 = p1
              · refine Go.to (fun _ => XS.icmpNo X0.here hx rfl (hb hby d5_38) rfl (teq hc27).2) ?_
                show Go p e below _ s₁ (mkF m 41 #[.val (.int p1), .val (.int p2), .val (.int p3), .val (.int p4), .val (.int p5), .val (.int p6), .val (.int p7), .val (.int p8), .val (.int p9)] [])
                refine Go.to (fun _ => XS.iconst X0.here hx rfl (hb hby d5_41)) ?_
                show Go p e below _ s₁ (mkF m 42 #[.val (.int p1), .val (.int p2), .val (.int p3), .val (.int p4), .val (.int p5), .val (.int p6), .val (.int p7), .val (.int p8), .val (.int p9)] [(.int (1 : Int32))])
                refine Go.to (fun _ => XS.goto X0.here hx rfl (pc0 := 42) (pc' := 46) rfl (hb hby d5_42) (by decide) (by decide)) ?_
                show Go p e below _ s₁ (mkF m 46 #[.val (.int p1), .val (.int p2), .val (.int p3), .val (.int p4), .val (.int p5), .val (.int p6), .val (.int p7), .val (.int p8), .val (.int p9)] [(.int (1 : Int32))])
                rw [hK]
                exact Go.retZ X0 hx hlk hret (by decide) (hb hby d5_46) ⟨by rw [fH]; rw [if_neg hc1]; rw [if_neg hc16]; rw [if_neg hc17]; rw [if_neg hc24]; rw [if_pos hc25]; rw [if_neg hc26]; rw [if_pos hc27], e0, rfl⟩ (by decide) (by decide)
              · refine Go.to (fun _ => XS.icmpYes X0.here hx rfl (pc0 := 38) (pc' := 45) rfl (hb hby d5_38) rfl (feq hc27).2 (by decide) (by decide)) ?_
                show Go p e below _ s₁ (mkF m 45 #[.val (.int p1), .val (.int p2), .val (.int p3), .val (.int p4), .val (.int p5), .val (.int p6), .val (.int p7), .val (.int p8), .val (.int p9)] [])
                refine Go.to (fun _ => XS.iconst X0.here hx rfl (hb hby d5_45)) ?_
                show Go p e below _ s₁ (mkF m 46 #[.val (.int p1), .val (.int p2), .val (.int p3), .val (.int p4), .val (.int p5), .val (.int p6), .val (.int p7), .val (.int p8), .val (.int p9)] [(.int (0 : Int32))])
                rw [hK]
                exact Go.retZ X0 hx hlk hret (by decide) (hb hby d5_46) ⟨by rw [fH]; rw [if_neg hc1]; rw [if_neg hc16]; rw [if_neg hc17]; rw [if_neg hc24]; rw [if_pos hc25]; rw [if_neg hc26]; rw [if_neg hc27], e0, rfl⟩ (by decide) (by decide)
          · refine Go.to (fun _ => XS.ifNo X0.here hx rfl (hb hby d5_21) rfl ((if0 _ _).trans (feq hc25).1)) ?_
            show Go p e below _ s₁ (mkF m 24 #[.val (.int p1), .val (.int p2), .val (.int p3), .val (.int p4), .val (.int p5), .val (.int p6), .val (.int p7), .val (.int p8), .val (.int p9)] [])
            refine Go.to (fun _ => XS.iload X0.here hx rfl (hb hby d5_24) rfl) ?_
            show Go p e below _ s₁ (mkF m 26 #[.val (.int p1), .val (.int p2), .val (.int p3), .val (.int p4), .val (.int p5), .val (.int p6), .val (.int p7), .val (.int p8), .val (.int p9)] [(.int p6)])
            refine Go.to (fun _ => XS.iloadN X0.here hx rfl (hb hby d5_26) rfl) ?_
            show Go p e below _ s₁ (mkF m 27 #[.val (.int p1), .val (.int p2), .val (.int p3), .val (.int p4), .val (.int p5), .val (.int p6), .val (.int p7), .val (.int p8), .val (.int p9)] [(.int p1), (.int p6)])
            by_cases hc28 : p6 = p1
            · refine Go.to (fun _ => XS.icmpYes X0.here hx rfl (pc0 := 27) (pc' := 41) rfl (hb hby d5_27) rfl (teq hc28).1 (by decide) (by decide)) ?_
              show Go p e below _ s₁ (mkF m 41 #[.val (.int p1), .val (.int p2), .val (.int p3), .val (.int p4), .val (.int p5), .val (.int p6), .val (.int p7), .val (.int p8), .val (.int p9)] [])
              refine Go.to (fun _ => XS.iconst X0.here hx rfl (hb hby d5_41)) ?_
              show Go p e below _ s₁ (mkF m 42 #[.val (.int p1), .val (.int p2), .val (.int p3), .val (.int p4), .val (.int p5), .val (.int p6), .val (.int p7), .val (.int p8), .val (.int p9)] [(.int (1 : Int32))])
              refine Go.to (fun _ => XS.goto X0.here hx rfl (pc0 := 42) (pc' := 46) rfl (hb hby d5_42) (by decide) (by decide)) ?_
              show Go p e below _ s₁ (mkF m 46 #[.val (.int p1), .val (.int p2), .val (.int p3), .val (.int p4), .val (.int p5), .val (.int p6), .val (.int p7), .val (.int p8), .val (.int p9)] [(.int (1 : Int32))])
              rw [hK]
              exact Go.retZ X0 hx hlk hret (by decide) (hb hby d5_46) ⟨by rw [fH]; rw [if_neg hc1]; rw [if_neg hc16]; rw [if_neg hc17]; rw [if_neg hc24]; rw [if_neg hc25]; rw [if_pos hc28], e0, rfl⟩ (by decide) (by decide)
            · refine Go.to (fun _ => XS.icmpNo X0.here hx rfl (hb hby d5_27) rfl (feq hc28).1) ?_
              show Go p e below _ s₁ (mkF m 30 #[.val (.int p1), .val (.int p2), .val (.int p3), .val (.int p4), .val (.int p5), .val (.int p6), .val (.int p7), .val (.int p8), .val (.int p9)] [])
              refine Go.to (fun _ => XS.iload X0.here hx rfl (hb hby d5_30) rfl) ?_
              show Go p e below _ s₁ (mkF m 32 #[.val (.int p1), .val (.int p2), .val (.int p3), .val (.int p4), .val (.int p5), .val (.int p6), .val (.int p7), .val (.int p8), .val (.int p9)] [(.int p9)])
              by_cases hc29 : p9 = (0 : Int32)
              · refine Go.to (fun _ => XS.ifYes X0.here hx rfl (pc0 := 32) (pc' := 45) rfl (hb hby d5_32) rfl ((if0 _ _).trans (teq hc29).1) (by decide) (by decide)) ?_
                show Go p e below _ s₁ (mkF m 45 #[.val (.int p1), .val (.int p2), .val (.int p3), .val (.int p4), .val (.int p5), .val (.int p6), .val (.int p7), .val (.int p8), .val (.int p9)] [])
                refine Go.to (fun _ => XS.iconst X0.here hx rfl (hb hby d5_45)) ?_
                show Go p e below _ s₁ (mkF m 46 #[.val (.int p1), .val (.int p2), .val (.int p3), .val (.int p4), .val (.int p5), .val (.int p6), .val (.int p7), .val (.int p8), .val (.int p9)] [(.int (0 : Int32))])
                rw [hK]
                exact Go.retZ X0 hx hlk hret (by decide) (hb hby d5_46) ⟨by rw [fH]; rw [if_neg hc1]; rw [if_neg hc16]; rw [if_neg hc17]; rw [if_neg hc24]; rw [if_neg hc25]; rw [if_neg hc28]; rw [if_pos hc29], e0, rfl⟩ (by decide) (by decide)
              · refine Go.to (fun _ => XS.ifNo X0.here hx rfl (hb hby d5_32) rfl ((if0 _ _).trans (feq hc29).1)) ?_
                show Go p e below _ s₁ (mkF m 35 #[.val (.int p1), .val (.int p2), .val (.int p3), .val (.int p4), .val (.int p5), .val (.int p6), .val (.int p7), .val (.int p8), .val (.int p9)] [])
                refine Go.to (fun _ => XS.iload X0.here hx rfl (hb hby d5_35) rfl) ?_
                show Go p e below _ s₁ (mkF m 37 #[.val (.int p1), .val (.int p2), .val (.int p3), .val (.int p4), .val (.int p5), .val (.int p6), .val (.int p7), .val (.int p8), .val (.int p9)] [(.int p8)])
                refine Go.to (fun _ => XS.iloadN X0.here hx rfl (hb hby d5_37) rfl) ?_
                show Go p e below _ s₁ (mkF m 38 #[.val (.int p1), .val (.int p2), .val (.int p3), .val (.int p4), .val (.int p5), .val (.int p6), .val (.int p7), .val (.int p8), .val (.int p9)] [(.int p1), (.int p8)])
                by_cases hc30 : p8 = p1
                · refine Go.to (fun _ => XS.icmpNo X0.here hx rfl (hb hby d5_38) rfl (teq hc30).2) ?_
                  show Go p e below _ s₁ (mkF m 41 #[.val (.int p1), .val (.int p2), .val (.int p3), .val (.int p4), .val (.int p5), .val (.int p6), .val (.int p7), .val (.int p8), .val (.int p9)] [])
                  refine Go.to (fun _ => XS.iconst X0.here hx rfl (hb hby d5_41)) ?_
                  show Go p e below _ s₁ (mkF m 42 #[.val (.int p1), .val (.int p2), .val (.int p3), .val (.int p4), .val (.int p5), .val (.int p6), .val (.int p7), .val (.int p8), .val (.int p9)] [(.int (1 : Int32))])
                  refine Go.to (fun _ => XS.goto X0.here hx rfl (pc0 := 42) (pc' := 46) rfl (hb hby d5_42) (by decide) (by decide)) ?_
                  show Go p e below _ s₁ (mkF m 46 #[.val (.int p1), .val (.int p2), .val (.int p3), .val (.int p4), .val (.int p5), .val (.int p6), .val (.int p7), .val (.int p8), .val (.int p9)] [(.int (1 : Int32))])
                  rw [hK]
                  exact Go.retZ X0 hx hlk hret (by decide) (hb hby d5_46) ⟨by rw [fH]; rw [if_neg hc1]; rw [if_neg hc16]; rw [if_neg hc17]; rw [if_neg hc24]; rw [if_neg hc25]; rw [if_neg hc28]; rw [if_neg hc29]; rw [if_pos hc30], e0, rfl⟩ (by decide) (by decide)
                · refine Go.to (fun _ => XS.icmpYes X0.here hx rfl (pc0 := 38) (pc' := 45) rfl (hb hby d5_38) rfl (feq hc30).2 (by decide) (by decide)) ?_
                  show Go p e below _ s₁ (mkF m 45 #[.val (.int p1), .val (.int p2), .val (.int p3), .val (.int p4), .val (.int p5), .val (.int p6), .val (.int p7), .val (.int p8), .val (.int p9)] [])
                  refine Go.to (fun _ => XS.iconst X0.here hx rfl (hb hby d5_45)) ?_
                  show Go p e below _ s₁ (mkF m 46 #[.val (.int p1), .val (.int p2), .val (.int p3), .val (.int p4), .val (.int p5), .val (.int p6), .val (.int p7), .val (.int p8), .val (.int p9)] [(.int (0 : Int32))])
                  rw [hK]
                  exact Go.retZ X0 hx hlk hret (by decide) (hb hby d5_46) ⟨by rw [fH]; rw [if_neg hc1]; rw [if_neg hc16]; rw [if_neg hc17]; rw [if_neg hc24]; rw [if_neg hc25]; rw [if_neg hc28]; rw [if_neg hc29]; rw [if_neg hc30], e0, rfl⟩ (by decide) (by decide)
def checkF (se : List Int32) (p2 p3 p4 p5 p6 : Int32) : Option Int32 := (if p2 < p3 then (if p4 = (0 : Int32) then ((rdL se p2).bind fun v1 => (if v1 = p6 then some (1 : Int32) else some (0 : Int32))) else ((rdL se p2).bind fun v1 => (if v1 = p5 then some (1 : Int32) else some (0 : Int32)))) else some (1 : Int32))
theorem d7_0 : decode method_4_code 0 = .ok (.iload_n 1, 1) := by decide +kernel
theorem d7_1 : decode method_4_code 1 = .ok (.iload_n 2, 1) := by decide +kernel
theorem d7_2 : decode method_4_code 2 = .ok (.if_icmp .lt 5, 3) := by decide +kernel
theorem d7_5 : decode method_4_code 5 = .ok (.iconst 1, 1) := by decide +kernel
theorem d7_6 : decode method_4_code 6 = .ok (.ireturn, 1) := by decide +kernel
theorem d7_7 : decode method_4_code 7 = .ok (.iload_n 3, 1) := by decide +kernel
theorem d7_8 : decode method_4_code 8 = .ok (.ifCond .eq 8, 3) := by decide +kernel
theorem d7_11 : decode method_4_code 11 = .ok (.iload 4, 2) := by decide +kernel
theorem d7_13 : decode method_4_code 13 = .ok (.goto 5, 3) := by decide +kernel
theorem d7_16 : decode method_4_code 16 = .ok (.iload 5, 2) := by decide +kernel
theorem d7_18 : decode method_4_code 18 = .ok (.istore 6, 2) := by decide +kernel
theorem d7_20 : decode method_4_code 20 = .ok (.aload_n 0, 1) := by decide +kernel
theorem d7_21 : decode method_4_code 21 = .ok (.iload_n 1, 1) := by decide +kernel
theorem d7_22 : decode method_4_code 22 = .ok (.invokevirtual 33, 3) := by decide +kernel
theorem d7_25 : decode method_4_code 25 = .ok (.iload 6, 2) := by decide +kernel
theorem d7_27 : decode method_4_code 27 = .ok (.if_icmp .ne 7, 3) := by decide +kernel
theorem d7_30 : decode method_4_code 30 = .ok (.iconst 1, 1) := by decide +kernel
theorem d7_31 : decode method_4_code 31 = .ok (.goto 4, 3) := by decide +kernel
theorem d7_34 : decode method_4_code 34 = .ok (.iconst 0, 1) := by decide +kernel
theorem d7_35 : decode method_4_code 35 = .ok (.ireturn, 1) := by decide +kernel
theorem ef_rm7 (m : MethodId) (a1 : Addr) (p2 : Int32) (p3 : Int32) (p4 : Int32) (p5 : Int32) (p6 : Int32) : entryFrame m #[(.ref a1), (.int p2), (.int p3), (.int p4), (.int p5), (.int p6)] 7 = mkF m 0 #[.val (.ref a1), .val (.int p2), .val (.int p3), .val (.int p4), .val (.int p5), .val (.int p6), .unset] [] := by first | (simp [entryFrame, mkF, argsToLocals, Value.category]; done) | rfl
set_option maxHeartbeats 40000000 in
theorem rm7 (l : Launch) (Z : State) (a0 : Array Value) (hw : ∀ d ∈ tables_1, d.before a0 Z = true) (ws : List Jvm.Cond) (a1 : Addr) (p2 : Int32) (p3 : Int32) (p4 : Int32) (p5 : Int32) (p6 : Int32) (h0 : Heap) (n0 : Nat) (b0 b1 b2 b3 b4 b5 b6 : Addr) (el po se fi en ma tu : List Int32) (tc sc : Int32) (O : Obj Z n0 h0 h0 a1 "com/example/tracegauge/tracegauge/automata/Partition" nFp [.ref b0, .ref b1, .ref b2, .ref b3, .ref b4, .ref b5, .ref b6, .int tc, .int sc] [b0, b1, b2, b3, b4, b5, b6] [el, po, se, fi, en, ma, tu]) (r : Int32) (hf : checkF se p2 p3 p4 p5 p6 = some r) :
    Met1 l Z (⟨"com/example/tracegauge/tracegauge/automata/PartitionMarkPinLaw", "check", "(Lcom/example/tracegauge/tracegauge/automata/Partition;IIZII)Z"⟩ : MethodName) method_4_code 7 (some .boolean) ws ({ frames := 1, cells := 0, slots := 0, locals := 13 } : Room) #[(.ref a1), (.int p2), (.int p3), (.int p4), (.int p5), (.int p6)] h0 (QP (.int r) h0) := by
  refine metOf (by first | exact plainFor_of_name (by first | (simp [plainName, overriddenIn]; done) | decide +kernel) | decide +kernel) ?_
  intro p e s m below meth c s₁ hx hby hml hown hnm hret hlk hZ X0 e0
  have hown : s.vm.findClass "com/example/tracegauge/tracegauge/automata/PartitionMarkPinLaw" = some m.cls := hown
  obtain ⟨K, hK⟩ : ∃ K, K = KQ s (QP (.int r) h0) (({ frames := 1, cells := 0, slots := 0, locals := 13 } : Room)).cells (({ frames := 1, cells := 0, slots := 0, locals := 13 } : Room)).slots := ⟨_, rfl⟩
  show Go p e below (KQ s (QP (.int r) h0) (({ frames := 1, cells := 0, slots := 0, locals := 13 } : Room)).cells (({ frames := 1, cells := 0, slots := 0, locals := 13 } : Room)).slots) s₁ (entryFrame m #[(.ref a1), (.int p2), (.int p3), (.int p4), (.int p5), (.int p6)] 7)
  rw [← hK, ef_rm7 m a1 p2 p3 p4 p5 p6]
  rw [checkF] at hf
  show Go p e below _ s₁ (mkF m 0 #[.val (.ref a1), .val (.int p2), .val (.int p3), .val (.int p4), .val (.int p5), .val (.int p6), .unset] [])
  refine Go.to (fun _ => XS.iloadN X0.here hx rfl (hb hby d7_0) rfl) ?_
  show Go p e below _ s₁ (mkF m 1 #[.val (.ref a1), .val (.int p2), .val (.int p3), .val (.int p4), .val (.int p5), .val (.int p6), .unset] [(.int p2)])
  refine Go.to (fun _ => XS.iloadN X0.here hx rfl (hb hby d7_1) rfl) ?_
  show Go p e below _ s₁ (mkF m 2 #[.val (.ref a1), .val (.int p2), .val (.int p3), .val (.int p4), .val (.int p5), .val (.int p6), .unset] [(.int p3), (.int p2)])
  by_cases hc1 : p2 < p3
  · rw [if_pos hc1] at hf
    refine Go.to (fun _ => XS.icmpYes X0.here hx rfl (pc0 := 2) (pc' := 7) rfl (hb hby d7_2) rfl (tlt hc1).1 (by decide) (by decide)) ?_
    show Go p e below _ s₁ (mkF m 7 #[.val (.ref a1), .val (.int p2), .val (.int p3), .val (.int p4), .val (.int p5), .val (.int p6), .unset] [])
    refine Go.to (fun _ => XS.iloadN X0.here hx rfl (hb hby d7_7) rfl) ?_
    show Go p e below _ s₁ (mkF m 8 #[.val (.ref a1), .val (.int p2), .val (.int p3), .val (.int p4), .val (.int p5), .val (.int p6), .unset] [(.int p4)])
    by_cases hc2 : p4 = (0 : Int32)
    · rw [if_pos hc2] at hf
      refine Go.to (fun _ => XS.ifYes X0.here hx rfl (pc0 := 8) (pc' := 16) rfl (hb hby d7_8) rfl ((if0 _ _).trans (teq hc2).1) (by decide) (by decide)) ?_
      show Go p e below _ s₁ (mkF m 16 #[.val (.ref a1), .val (.int p2), .val (.int p3), .val (.int p4), .val (.int p5), .val (.int p6), .unset] [])
      refine Go.to (fun _ => XS.iload X0.here hx rfl (hb hby d7_16) rfl) ?_
      show Go p e below _ s₁ (mkF m 18 #[.val (.ref a1), .val (.int p2), .val (.int p3), .val (.int p4), .val (.int p5), .val (.int p6), .unset] [(.int p6)])
      refine Go.to (fun _ => XS.istore X0.here hx rfl (hb hby d7_18) rfl (l' := #[.val (.ref a1), .val (.int p2), .val (.int p3), .val (.int p4), .val (.int p5), .val (.int p6), .val (.int p6)]) rfl) ?_
      show Go p e below _ s₁ (mkF m 20 #[.val (.ref a1), .val (.int p2), .val (.int p3), .val (.int p4), .val (.int p5), .val (.int p6), .val (.int p6)] [])
      refine Go.to (fun _ => XS.aloadN X0.here hx rfl (hb hby d7_20) rfl rfl) ?_
      show Go p e below _ s₁ (mkF m 21 #[.val (.ref a1), .val (.int p2), .val (.int p3), .val (.int p4), .val (.int p5), .val (.int p6), .val (.int p6)] [(.ref a1)])
      refine Go.to (fun _ => XS.iloadN X0.here hx rfl (hb hby d7_21) rfl) ?_
      show Go p e below _ s₁ (mkF m 22 #[.val (.ref a1), .val (.int p2), .val (.int p3), .val (.int p4), .val (.int p5), .val (.int p6), .val (.int p6)] [(.int p2), (.ref a1)])
      obtain ⟨v1, hv1, hf⟩ := Option.bind_eq_some_iff.mp hf
      refine Go.callV (y := (⟨"com/example/tracegauge/tracegauge/automata/Partition", "setOf", "(I)I"⟩ : MethodName)) X0 hx hZ hown (hw _ (List.mem_of_getElem? (i := 51) rfl)) (hw _ (List.mem_of_getElem? (i := 52) rfl)) (hw _ (List.mem_of_getElem? (i := 54) rfl)) (hw _ (List.mem_of_getElem? (i := 53) rfl)) (hw _ (List.mem_of_getElem? (i := 3) rfl)) (hw _ (List.mem_of_getElem? (i := 55) rfl)) (by decide) (rm8 l Z a0 hw [] a1 p2 h0 n0 b0 b1 b2 b3 b4 b5 b6 el po se fi en ma tu tc sc O v1 hv1) e0 O.exa (by rw [hml]; rfl) (pd_3) rfl (argsL := [(.int p2)]) (rest := []) rfl rfl (hb hby d7_22) (by decide) (Nat.le_of_ble_eq_true rfl) (by decide) (by decide) ?_
      rintro T1 _ L1 X1 ⟨rfl, e1, rfl⟩
      simp only [List.append_nil] at X1
      show Go p e below _ T1 (mkF m 25 #[.val (.ref a1), .val (.int p2), .val (.int p3), .val (.int p4), .val (.int p5), .val (.int p6), .val (.int p6)] [(.int v1)])
      refine Go.to (fun _ => XS.iload X1.here hx rfl (hb hby d7_25) rfl) ?_
      show Go p e below _ T1 (mkF m 27 #[.val (.ref a1), .val (.int p2), .val (.int p3), .val (.int p4), .val (.int p5), .val (.int p6), .val (.int p6)] [(.int p6), (.int v1)])
      by_cases hc3 : v1 = p6
      · rw [if_pos hc3] at hf
        refine Go.to (fun _ => XS.icmpNo X1.here hx rfl (hb hby d7_27) rfl (teq hc3).2) ?_
        show Go p e below _ T1 (mkF m 30 #[.val (.ref a1), .val (.int p2), .val (.int p3), .val (.int p4), .val (.int p5), .val (.int p6), .val (.int p6)] [])
        refine Go.to (fun _ => XS.iconst X1.here hx rfl (hb hby d7_30)) ?_
        show Go p e below _ T1 (mkF m 31 #[.val (.ref a1), .val (.int p2), .val (.int p3), .val (.int p4), .val (.int p5), .val (.int p6), .val (.int p6)] [(.int (1 : Int32))])
        refine Go.to (fun _ => XS.goto X1.here hx rfl (pc0 := 31) (pc' := 35) rfl (hb hby d7_31) (by decide) (by decide)) ?_
        show Go p e below _ T1 (mkF m 35 #[.val (.ref a1), .val (.int p2), .val (.int p3), .val (.int p4), .val (.int p5), .val (.int p6), .val (.int p6)] [(.int (1 : Int32))])
        have hr := Option.some.inj hf
        rw [hK]
        exact Go.retZ X1 hx hlk hret (by decide) (hb hby d7_35) ⟨by rw [← hr], e1, rfl⟩ (by decide) (by decide)
      · rw [if_neg hc3] at hf
        refine Go.to (fun _ => XS.icmpYes X1.here hx rfl (pc0 := 27) (pc' := 34) rfl (hb hby d7_27) rfl (feq hc3).2 (by decide) (by decide)) ?_
        show Go p e below _ T1 (mkF m 34 #[.val (.ref a1), .val (.int p2), .val (.int p3), .val (.int p4), .val (.int p5), .val (.int p6), .val (.int p6)] [])
        refine Go.to (fun _ => XS.iconst X1.here hx rfl (hb hby d7_34)) ?_
        show Go p e below _ T1 (mkF m 35 #[.val (.ref a1), .val (.int p2), .val (.int p3), .val (.int p4), .val (.int p5), .val (.int p6), .val (.int p6)] [(.int (0 : Int32))])
        have hr := Option.some.inj hf
        rw [hK]
        exact Go.retZ X1 hx hlk hret (by decide) (hb hby d7_35) ⟨by rw [← hr], e1, rfl⟩ (by decide) (by decide)
    · rw [if_neg hc2] at hf
      refine Go.to (fun _ => XS.ifNo X0.here hx rfl (hb hby d7_8) rfl ((if0 _ _).trans (feq hc2).1)) ?_
      show Go p e below _ s₁ (mkF m 11 #[.val (.ref a1), .val (.int p2), .val (.int p3), .val (.int p4), .val (.int p5), .val (.int p6), .unset] [])
      refine Go.to (fun _ => XS.iload X0.here hx rfl (hb hby d7_11) rfl) ?_
      show Go p e below _ s₁ (mkF m 13 #[.val (.ref a1), .val (.int p2), .val (.int p3), .val (.int p4), .val (.int p5), .val (.int p6), .unset] [(.int p5)])
      refine Go.to (fun _ => XS.goto X0.here hx rfl (pc0 := 13) (pc' := 18) rfl (hb hby d7_13) (by decide) (by decide)) ?_
      show Go p e below _ s₁ (mkF m 18 #[.val (.ref a1), .val (.int p2), .val (.int p3), .val (.int p4), .val (.int p5), .val (.int p6), .unset] [(.int p5)])
      refine Go.to (fun _ => XS.istore X0.here hx rfl (hb hby d7_18) rfl (l' := #[.val (.ref a1), .val (.int p2), .val (.int p3), .val (.int p4), .val (.int p5), .val (.int p6), .val (.int p5)]) rfl) ?_
      show Go p e below _ s₁ (mkF m 20 #[.val (.ref a1), .val (.int p2), .val (.int p3), .val (.int p4), .val (.int p5), .val (.int p6), .val (.int p5)] [])
      refine Go.to (fun _ => XS.aloadN X0.here hx rfl (hb hby d7_20) rfl rfl) ?_
      show Go p e below _ s₁ (mkF m 21 #[.val (.ref a1), .val (.int p2), .val (.int p3), .val (.int p4), .val (.int p5), .val (.int p6), .val (.int p5)] [(.ref a1)])
      refine Go.to (fun _ => XS.iloadN X0.here hx rfl (hb hby d7_21) rfl) ?_
      show Go p e below _ s₁ (mkF m 22 #[.val (.ref a1), .val (.int p2), .val (.int p3), .val (.int p4), .val (.int p5), .val (.int p6), .val (.int p5)] [(.int p2), (.ref a1)])
      obtain ⟨v1, hv1, hf⟩ := Option.bind_eq_some_iff.mp hf
      refine Go.callV (y := (⟨"com/example/tracegauge/tracegauge/automata/Partition", "setOf", "(I)I"⟩ : MethodName)) X0 hx hZ hown (hw _ (List.mem_of_getElem? (i := 51) rfl)) (hw _ (List.mem_of_getElem? (i := 52) rfl)) (hw _ (List.mem_of_getElem? (i := 54) rfl)) (hw _ (List.mem_of_getElem? (i := 53) rfl)) (hw _ (List.mem_of_getElem? (i := 3) rfl)) (hw _ (List.mem_of_getElem? (i := 55) rfl)) (by decide) (rm8 l Z a0 hw [] a1 p2 h0 n0 b0 b1 b2 b3 b4 b5 b6 el po se fi en ma tu tc sc O v1 hv1) e0 O.exa (by rw [hml]; rfl) (pd_3) rfl (argsL := [(.int p2)]) (rest := []) rfl rfl (hb hby d7_22) (by decide) (Nat.le_of_ble_eq_true rfl) (by decide) (by decide) ?_
      rintro T2 _ L2 X2 ⟨rfl, e2, rfl⟩
      simp only [List.append_nil] at X2
      show Go p e below _ T2 (mkF m 25 #[.val (.ref a1), .val (.int p2), .val (.int p3), .val (.int p4), .val (.int p5), .val (.int p6), .val (.int p5)] [(.int v1)])
      refine Go.to (fun _ => XS.iload X2.here hx rfl (hb hby d7_25) rfl) ?_
      show Go p e below _ T2 (mkF m 27 #[.val (.ref a1), .val (.int p2), .val (.int p3), .val (.int p4), .val (.int p5), .val (.int p6), .val (.int p5)] [(.int p5), (.int v1)])
      by_cases hc4 : v1 = p5
      · rw [if_pos hc4] at hf
        refine Go.to (fun _ => XS.icmpNo X2.here hx rfl (hb hby d7_27) rfl (teq hc4).2) ?_
        show Go p e below _ T2 (mkF m 30 #[.val (.ref a1), .val (.int p2), .val (.int p3), .val (.int p4), .val (.int p5), .val (.int p6), .val (.int p5)] [])
        refine Go.to (fun _ => XS.iconst X2.here hx rfl (hb hby d7_30)) ?_
        show Go p e below _ T2 (mkF m 31 #[.val (.ref a1), .val (.int p2), .val (.int p3), .val (.int p4), .val (.int p5), .val (.int p6), .val (.int p5)] [(.int (1 : Int32))])
        refine Go.to (fun _ => XS.goto X2.here hx rfl (pc0 := 31) (pc' := 35) rfl (hb hby d7_31) (by decide) (by decide)) ?_
        show Go p e below _ T2 (mkF m 35 #[.val (.ref a1), .val (.int p2), .val (.int p3), .val (.int p4), .val (.int p5), .val (.int p6), .val (.int p5)] [(.int (1 : Int32))])
        have hr := Option.some.inj hf
        rw [hK]
        exact Go.retZ X2 hx hlk hret (by decide) (hb hby d7_35) ⟨by rw [← hr], e2, rfl⟩ (by decide) (by decide)
      · rw [if_neg hc4] at hf
        refine Go.to (fun _ => XS.icmpYes X2.here hx rfl (pc0 := 27) (pc' := 34) rfl (hb hby d7_27) rfl (feq hc4).2 (by decide) (by decide)) ?_
        show Go p e below _ T2 (mkF m 34 #[.val (.ref a1), .val (.int p2), .val (.int p3), .val (.int p4), .val (.int p5), .val (.int p6), .val (.int p5)] [])
        refine Go.to (fun _ => XS.iconst X2.here hx rfl (hb hby d7_34)) ?_
        show Go p e below _ T2 (mkF m 35 #[.val (.ref a1), .val (.int p2), .val (.int p3), .val (.int p4), .val (.int p5), .val (.int p6), .val (.int p5)] [(.int (0 : Int32))])
        have hr := Option.some.inj hf
        rw [hK]
        exact Go.retZ X2 hx hlk hret (by decide) (hb hby d7_35) ⟨by rw [← hr], e2, rfl⟩ (by decide) (by decide)
  · rw [if_neg hc1] at hf
    refine Go.to (fun _ => XS.icmpNo X0.here hx rfl (hb hby d7_2) rfl (flt hc1).1) ?_
    show Go p e below _ s₁ (mkF m 5 #[.val (.ref a1), .val (.int p2), .val (.int p3), .val (.int p4), .val (.int p5), .val (.int p6), .unset] [])
    refine Go.to (fun _ => XS.iconst X0.here hx rfl (hb hby d7_5)) ?_
    show Go p e below _ s₁ (mkF m 6 #[.val (.ref a1), .val (.int p2), .val (.int p3), .val (.int p4), .val (.int p5), .val (.int p6), .unset] [(.int (1 : Int32))])
    have hr := Option.some.inj hf
    rw [hK]
    exact Go.retZ X0 hx hlk hret (by decide) (hb hby d7_6) ⟨by rw [← hr], e0, rfl⟩ (by decide) (by decide)
def cmF (k x : Int32) (el po se fi en ma tu : List Int32) (tc sc : Int32) : Option (List Int32 × List Int32 × List Int32 × List Int32 × List Int32 × List Int32 × List Int32 × Int32 × Int32) := if k = (0 : Int32) then some (el, po, se, fi, en, ma, tu, tc, sc) else markF x el po se fi en ma tu tc sc
def lawF (zn x0 x1 x2 x3 k0 k1 k2 k3 : Int32) (el0 po0 : List Int32) : Option Int32 := (cmF k0 x0 el0 po0 (List.replicate (zn).toNatClampNeg (0 : Int32)) (List.replicate (zn).toNatClampNeg (0 : Int32)) (wrL (List.replicate (zn).toNatClampNeg (0 : Int32)) (0 : Int32) zn) (List.replicate (zn).toNatClampNeg (0 : Int32)) (List.replicate (zn).toNatClampNeg (0 : Int32)) (0 : Int32) (1 : Int32)).bind fun (el1, po1, se1, fi1, en1, ma1, tu1, tc1, sc1) => (cmF k1 x1 el1 po1 se1 fi1 en1 ma1 tu1 tc1 sc1).bind fun (el2, po2, se2, fi2, en2, ma2, tu2, tc2, sc2) => (cmF k2 x2 el2 po2 se2 fi2 en2 ma2 tu2 tc2 sc2).bind fun (el3, po3, se3, fi3, en3, ma3, tu3, tc3, sc3) => (cmF k3 x3 el3 po3 se3 fi3 en3 ma3 tu3 tc3 sc3).bind fun (el4, po4, se4, fi4, en4, ma4, tu4, tc4, sc4) => (splitF 5 el4 po4 se4 fi4 en4 ma4 tu4 tc4 sc4).bind fun (el5, po5, se5, fi5, en5, ma5, tu5, tc5, sc5) => ((some (fH (0 : Int32) x0 k0 x1 k1 x2 k2 x3 k3)).bind fun q0 => ((some (fH (1 : Int32) x0 k0 x1 k1 x2 k2 x3 k3)).bind fun q1 => ((some (fH (2 : Int32) x0 k0 x1 k1 x2 k2 x3 k3)).bind fun q2 => ((some (fH (3 : Int32) x0 k0 x1 k1 x2 k2 x3 k3)).bind fun q3 => ((some (if q0 = (0 : Int32) then (0 : Int32) else (if (0 : Int32) < zn then ((0 : Int32) + (1 : Int32)) else (0 : Int32)))).bind fun m1 => ((some (if q1 = (0 : Int32) then m1 else (if (1 : Int32) < zn then (m1 + (1 : Int32)) else m1))).bind fun m2 => ((some (if q2 = (0 : Int32) then m2 else (if (2 : Int32) < zn then (m2 + (1 : Int32)) else m2))).bind fun m3 => ((some (if q3 = (0 : Int32) then m3 else (if (3 : Int32) < zn then (m3 + (1 : Int32)) else m3))).bind fun mm => ((some (if mm = (0 : Int32) then (1 : Int32) else (if mm = zn then (1 : Int32) else (if (zn - mm) < mm then (2 : Int32) else (2 : Int32))))).bind fun eC => ((some (if mm = (0 : Int32) then (0 : Int32) else (if mm = zn then (0 : Int32) else (if (zn - mm) < mm then (0 : Int32) else (1 : Int32))))).bind fun eM => ((some (if mm = (0 : Int32) then (0 : Int32) else (if mm = zn then (0 : Int32) else (if (zn - mm) < mm then (1 : Int32) else (0 : Int32))))).bind fun eU => (if sc5 = eC then ((checkF se5 (0 : Int32) zn q0 eM eU).bind fun c12 => (if c12 = (0 : Int32) then some (0 : Int32) else ((checkF se5 (1 : Int32) zn q1 eM eU).bind fun c13 => (if c13 = (0 : Int32) then some (0 : Int32) else ((checkF se5 (2 : Int32) zn q2 eM eU).bind fun c14 => (if c14 = (0 : Int32) then some (0 : Int32) else ((checkF se5 (3 : Int32) zn q3 eM eU).bind fun c15 => (if c15 = (0 : Int32) then some (0 : Int32) else some (1 : Int32))))))))) else some (0 : Int32)))))))))))))
theorem own_n {k z : Int32} (h : z = ((1 : Int32) + (k &&& (3 : Int32)))) : ¬ z < 0 ∧ z.toNatClampNeg ≤ 4 ∧ (0 : Int32) < z ∧ (z = 1 ∨ z = 2 ∨ z = 3 ∨ z = 4) := by
  have e := Jvm.Kit.i32_mask k (3 : Int32) (k := 2) (by decide) (by decide)
  have e0 : (0 : Int32).toInt = 0 := by decide
  have e1 : (1 : Int32).toInt = 1 := by decide
  have e2 : (2 : Int32).toInt = 2 := by decide
  have e3 : (3 : Int32).toInt = 3 := by decide
  have e4 : (4 : Int32).toInt = 4 := by decide
  have q : z.toInt = 1 + k.toInt % 2 ^ 2 := by rw [h, Jvm.Kit.i32_add (by omega) (by omega), e, e1]
  simp only [Int32.lt_iff_toInt_lt, Int32.toNatClampNeg, ← Int32.toInt_inj, e0, e1, e2, e3, e4]; omega
theorem own_nz {z : Int32} (h : ¬ z < 0 ∧ z.toNatClampNeg ≤ 4 ∧ (0 : Int32) < z ∧ (z = 1 ∨ z = 2 ∨ z = 3 ∨ z = 4)) : ¬ z = (0 : Int32) := by
  rintro rfl; exact absurd h.2.2.1 (by decide)
theorem own_x {x n p : Int32} (h : ¬ n < 0 ∧ n.toNatClampNeg ≤ 4 ∧ (0 : Int32) < n ∧ (n = 1 ∨ n = 2 ∨ n = 3 ∨ n = 4)) (hx : x = ((p &&& (2147483647 : Int32)) % n)) : ∃ i, i < n.toNatClampNeg ∧ x = Int32.ofNat i := by
  have e := Jvm.Kit.i32_mask p (2147483647 : Int32) (k := 31) (by decide) (by decide)
  have q := Jvm.Kit.i32_rem_nonneg (x := p &&& (2147483647 : Int32)) (y := n) (by omega)
  rw [← hx] at q
  have hp := h.2.2.1
  rw [Int32.lt_iff_toInt_lt] at hp
  have e0 : (0 : Int32).toInt = 0 := by decide
  have l1 : 0 ≤ x.toInt := by rw [q]; exact Int.emod_nonneg _ (by omega)
  have l2 : x.toInt < n.toInt := by rw [q]; exact Int.emod_lt_of_pos _ (by omega)
  refine ⟨x.toNatClampNeg, by simp only [Int32.toNatClampNeg]; omega, ?_⟩
  refine Int32.toInt_inj.mp ?_
  rw [Int32.toInt_ofNat_small (by simp only [Int32.toNatClampNeg]; have := x.toInt_lt; omega)]
  simp only [Int32.toNatClampNeg]; omega
theorem own_b {k : Int32} {P : Prop} [Decidable P] (h : k = (if P then (0 : Int32) else (1 : Int32))) : k = 0 ∨ k = 1 := by
  rw [h]; split <;> simp
def own_go (n : Nat) : Bool := match iniF 6 (Int32.ofNat n) 0 (List.replicate (Int32.ofNat n).toNatClampNeg (0 : Int32)) (List.replicate (Int32.ofNat n).toNatClampNeg (0 : Int32)) with
  | none => false
  | some (el0, po0) => (rdL (List.replicate (Int32.ofNat n).toNatClampNeg (0 : Int32)) (0 : Int32)).isSome && (List.range n).all fun i0 => (List.range n).all fun i1 => (List.range n).all fun i2 => (List.range n).all fun i3 =>
      [0, 1].all fun k0 => [0, 1].all fun k1 => [0, 1].all fun k2 => [0, 1].all fun k3 => lawF (Int32.ofNat n) (Int32.ofNat i0) (Int32.ofNat i1) (Int32.ofNat i2) (Int32.ofNat i3) k0 k1 k2 k3 el0 po0 == some 1
theorem own_go1 : own_go 1 = true := by decide +kernel
theorem own_go2 : own_go 2 = true := by decide +kernel
theorem own_go3 : own_go 3 = true := by decide +kernel
theorem own_go4 : own_go 4 = true := by decide +kernel
theorem own_pick {n : Nat} (hg : own_go n = true) {x0 x1 x2 x3 k0 k1 k2 k3 : Int32} (h0 : ∃ i, i < n ∧ x0 = Int32.ofNat i) (h1 : ∃ i, i < n ∧ x1 = Int32.ofNat i) (h2 : ∃ i, i < n ∧ x2 = Int32.ofNat i) (h3 : ∃ i, i < n ∧ x3 = Int32.ofNat i) (g0 : k0 = 0 ∨ k0 = 1) (g1 : k1 = 0 ∨ k1 = 1) (g2 : k2 = 0 ∨ k2 = 1) (g3 : k3 = 0 ∨ k3 = 1) :
    ∃ el0 po0 wq, iniF 6 (Int32.ofNat n) 0 (List.replicate (Int32.ofNat n).toNatClampNeg (0 : Int32)) (List.replicate (Int32.ofNat n).toNatClampNeg (0 : Int32)) = some (el0, po0) ∧ rdL (List.replicate (Int32.ofNat n).toNatClampNeg (0 : Int32)) (0 : Int32) = some wq ∧ lawF (Int32.ofNat n) x0 x1 x2 x3 k0 k1 k2 k3 el0 po0 = some 1 := by
  unfold own_go at hg
  obtain ⟨i0, l0, rfl⟩ := h0
  obtain ⟨i1, l1, rfl⟩ := h1
  obtain ⟨i2, l2, rfl⟩ := h2
  obtain ⟨i3, l3, rfl⟩ := h3
  split at hg
  · cases hg
  · rename_i el0 po0 he
    rw [Bool.and_eq_true] at hg
    obtain ⟨wq, hwq⟩ := Option.isSome_iff_exists.mp hg.1
    refine ⟨el0, po0, wq, he, hwq, ?_⟩
    have m : ∀ k : Int32, k = 0 ∨ k = 1 → k ∈ ([0, 1] : List Int32) := fun k hk => by simpa using hk
    have q := List.all_eq_true.mp (List.all_eq_true.mp (List.all_eq_true.mp (List.all_eq_true.mp (List.all_eq_true.mp (List.all_eq_true.mp (List.all_eq_true.mp (List.all_eq_true.mp hg.2 i0 (List.mem_range.mpr l0)) i1 (List.mem_range.mpr l1)) i2 (List.mem_range.mpr l2)) i3 (List.mem_range.mpr l3)) k0 (m _ g0)) k1 (m _ g1)) k2 (m _ g2)) k3 (m _ g3)
    exact eq_of_beq q
theorem own_law {zn x0 x1 x2 x3 k0 k1 k2 k3 : Int32} (hn : zn = 1 ∨ zn = 2 ∨ zn = 3 ∨ zn = 4) (h0 : ∃ i, i < zn.toNatClampNeg ∧ x0 = Int32.ofNat i) (h1 : ∃ i, i < zn.toNatClampNeg ∧ x1 = Int32.ofNat i) (h2 : ∃ i, i < zn.toNatClampNeg ∧ x2 = Int32.ofNat i) (h3 : ∃ i, i < zn.toNatClampNeg ∧ x3 = Int32.ofNat i) (g0 : k0 = 0 ∨ k0 = 1) (g1 : k1 = 0 ∨ k1 = 1) (g2 : k2 = 0 ∨ k2 = 1) (g3 : k3 = 0 ∨ k3 = 1) :
    ∃ el0 po0 wq, iniF 6 zn 0 (List.replicate (zn).toNatClampNeg (0 : Int32)) (List.replicate (zn).toNatClampNeg (0 : Int32)) = some (el0, po0) ∧ rdL (List.replicate (zn).toNatClampNeg (0 : Int32)) (0 : Int32) = some wq ∧ lawF zn x0 x1 x2 x3 k0 k1 k2 k3 el0 po0 = some 1 := by
  have t1 : (1 : Int32).toNatClampNeg = 1 := by decide
  have t2 : (2 : Int32).toNatClampNeg = 2 := by decide
  have t3 : (3 : Int32).toNatClampNeg = 3 := by decide
  have t4 : (4 : Int32).toNatClampNeg = 4 := by decide
  rcases hn with rfl | rfl | rfl | rfl
  · rw [t1] at h0 h1 h2 h3; exact own_pick own_go1 h0 h1 h2 h3 g0 g1 g2 g3
  · rw [t2] at h0 h1 h2 h3; exact own_pick own_go2 h0 h1 h2 h3 g0 g1 g2 g3
  · rw [t3] at h0 h1 h2 h3; exact own_pick own_go3 h0 h1 h2 h3 g0 g1 g2 g3
  · rw [t4] at h0 h1 h2 h3; exact own_pick own_go4 h0 h1 h2 h3 g0 g1 g2 g3
theorem ef_rm0 (m : MethodId) (p1 : Int32) (p2 : Int32) (p3 : Int32) (p4 : Int32) (p5 : Int32) (p6 : Int32) : entryFrame m #[(.int p1), (.int p2), (.int p3), (.int p4), (.int p5), (.int p6)] maxLocals = mkF m 0 #[.val (.int p1), .val (.int p2), .val (.int p3), .val (.int p4), .val (.int p5), .val (.int p6), .unset, .unset, .unset, .unset, .unset, .unset, .unset, .unset, .unset, .unset, .unset, .unset, .unset, .unset, .unset, .unset, .unset, .unset] [] := by first | (simp [entryFrame, mkF, argsToLocals, Value.category, maxLocals]; done) | rfl
set_option maxHeartbeats 40000000 in
theorem rm0 (l : Launch) (Z : State) (a0 : Array Value) (hw : ∀ d ∈ tables_1, d.before a0 Z = true) (ws : List Jvm.Cond) (p1 : Int32) (p2 : Int32) (p3 : Int32) (p4 : Int32) (p5 : Int32) (p6 : Int32) (h0 : Heap) (n0 : Nat) (Z0 : n0 ≤ h0.size) :
    Met1 l Z x code maxLocals ret ws room_1 #[(.int p1), (.int p2), (.int p3), (.int p4), (.int p5), (.int p6)] h0 (fun v h L => v = some (.int 1) ∧ Fr n0 L) := by
  refine metOf (by first | exact plainFor_of_name (by first | (simp [plainName, overriddenIn]; done) | decide +kernel) | decide +kernel) ?_
  intro p e s m below meth c s₁ hx hby hml hown hnm hret hlk hZ X0 e0
  have hown : s.vm.findClass "com/example/tracegauge/tracegauge/automata/PartitionMarkPinLaw" = some m.cls := hown
  have hml : c.maxLocals = 24 := hml
  obtain ⟨K, hK⟩ : ∃ K, K = KQ s (fun v h L => v = some (.int 1) ∧ Fr n0 L) (room_1).cells (room_1).slots := ⟨_, rfl⟩
  show Go p e below (KQ s (fun v h L => v = some (.int 1) ∧ Fr n0 L) (room_1).cells (room_1).slots) s₁ (entryFrame m #[(.int p1), (.int p2), (.int p3), (.int p4), (.int p5), (.int p6)] maxLocals)
  rw [← hK, ef_rm0 m p1 p2 p3 p4 p5 p6]
  show Go p e below _ s₁ (mkF m 0 #[.val (.int p1), .val (.int p2), .val (.int p3), .val (.int p4), .val (.int p5), .val (.int p6), .unset, .unset, .unset, .unset, .unset, .unset, .unset, .unset, .unset, .unset, .unset, .unset, .unset, .unset, .unset, .unset, .unset, .unset] [])
  refine Go.to (fun _ => XS.iconst X0.here hx rfl (hb hby at_0)) ?_
  show Go p e below _ s₁ (mkF m 1 #[.val (.int p1), .val (.int p2), .val (.int p3), .val (.int p4), .val (.int p5), .val (.int p6), .unset, .unset, .unset, .unset, .unset, .unset, .unset, .unset, .unset, .unset, .unset, .unset, .unset, .unset, .unset, .unset, .unset, .unset] [(.int (1 : Int32))])
  refine Go.to (fun _ => XS.iloadN X0.here hx rfl (hb hby at_1) rfl) ?_
  show Go p e below _ s₁ (mkF m 2 #[.val (.int p1), .val (.int p2), .val (.int p3), .val (.int p4), .val (.int p5), .val (.int p6), .unset, .unset, .unset, .unset, .unset, .unset, .unset, .unset, .unset, .unset, .unset, .unset, .unset, .unset, .unset, .unset, .unset, .unset] [(.int p1), (.int (1 : Int32))])
  refine Go.to (fun _ => XS.iconst X0.here hx rfl (hb hby at_2)) ?_
  show Go p e below _ s₁ (mkF m 3 #[.val (.int p1), .val (.int p2), .val (.int p3), .val (.int p4), .val (.int p5), .val (.int p6), .unset, .unset, .unset, .unset, .unset, .unset, .unset, .unset, .unset, .unset, .unset, .unset, .unset, .unset, .unset, .unset, .unset, .unset] [(.int (3 : Int32)), (.int p1), (.int (1 : Int32))])
  refine Go.to (fun _ => XS.iand X0.here hx rfl (hb hby at_3) rfl) ?_
  show Go p e below _ s₁ (mkF m 4 #[.val (.int p1), .val (.int p2), .val (.int p3), .val (.int p4), .val (.int p5), .val (.int p6), .unset, .unset, .unset, .unset, .unset, .unset, .unset, .unset, .unset, .unset, .unset, .unset, .unset, .unset, .unset, .unset, .unset, .unset] [(.int (p1 &&& (3 : Int32))), (.int (1 : Int32))])
  refine Go.to (fun _ => XS.iadd X0.here hx rfl (hb hby at_4) rfl) ?_
  show Go p e below _ s₁ (mkF m 5 #[.val (.int p1), .val (.int p2), .val (.int p3), .val (.int p4), .val (.int p5), .val (.int p6), .unset, .unset, .unset, .unset, .unset, .unset, .unset, .unset, .unset, .unset, .unset, .unset, .unset, .unset, .unset, .unset, .unset, .unset] [(.int ((1 : Int32) + (p1 &&& (3 : Int32))))])
  refine Go.to (fun _ => XS.istore X0.here hx rfl (hb hby at_5) rfl (l' := #[.val (.int p1), .val (.int p2), .val (.int p3), .val (.int p4), .val (.int p5), .val (.int p6), .val (.int ((1 : Int32) + (p1 &&& (3 : Int32)))), .unset, .unset, .unset, .unset, .unset, .unset, .unset, .unset, .unset, .unset, .unset, .unset, .unset, .unset, .unset, .unset, .unset]) rfl) ?_
  show Go p e below _ s₁ (mkF m 7 #[.val (.int p1), .val (.int p2), .val (.int p3), .val (.int p4), .val (.int p5), .val (.int p6), .val (.int ((1 : Int32) + (p1 &&& (3 : Int32)))), .unset, .unset, .unset, .unset, .unset, .unset, .unset, .unset, .unset, .unset, .unset, .unset, .unset, .unset, .unset, .unset, .unset] [])
  obtain ⟨zn, hzn⟩ : ∃ z : Int32, z = ((1 : Int32) + (p1 &&& (3 : Int32))) := ⟨_, rfl⟩
  rw [← hzn]
  have hN := own_n hzn
  have hnz : ¬ zn = (0 : Int32) := own_nz hN
  show Go p e below _ s₁ (mkF m 7 #[.val (.int p1), .val (.int p2), .val (.int p3), .val (.int p4), .val (.int p5), .val (.int p6), .val (.int zn), .unset, .unset, .unset, .unset, .unset, .unset, .unset, .unset, .unset, .unset, .unset, .unset, .unset, .unset, .unset, .unset, .unset] [])
  refine Go.to (fun _ => XS.iloadN X0.here hx rfl (hb hby at_7) rfl) ?_
  show Go p e below _ s₁ (mkF m 8 #[.val (.int p1), .val (.int p2), .val (.int p3), .val (.int p4), .val (.int p5), .val (.int p6), .val (.int zn), .unset, .unset, .unset, .unset, .unset, .unset, .unset, .unset, .unset, .unset, .unset, .unset, .unset, .unset, .unset, .unset, .unset] [(.int p2)])
  refine Go.to (fun _ => X0.ldcInt hx hown (mvT hZ (hw _ (List.mem_of_getElem? (i := 0) rfl))) (g := (mkF m 8 #[.val (.int p1), .val (.int p2), .val (.int p3), .val (.int p4), .val (.int p5), .val (.int p6), .val (.int zn), .unset, .unset, .unset, .unset, .unset, .unset, .unset, .unset, .unset, .unset, .unset, .unset, .unset, .unset, .unset, .unset, .unset] [(.int p2)])) rfl (hb hby at_8) _) ?_
  show Go p e below _ s₁ (mkF m 10 #[.val (.int p1), .val (.int p2), .val (.int p3), .val (.int p4), .val (.int p5), .val (.int p6), .val (.int zn), .unset, .unset, .unset, .unset, .unset, .unset, .unset, .unset, .unset, .unset, .unset, .unset, .unset, .unset, .unset, .unset, .unset] [(.int (2147483647 : Int32)), (.int p2)])
  refine Go.to (fun _ => XS.iand X0.here hx rfl (hb hby at_10) rfl) ?_
  show Go p e below _ s₁ (mkF m 11 #[.val (.int p1), .val (.int p2), .val (.int p3), .val (.int p4), .val (.int p5), .val (.int p6), .val (.int zn), .unset, .unset, .unset, .unset, .unset, .unset, .unset, .unset, .unset, .unset, .unset, .unset, .unset, .unset, .unset, .unset, .unset] [(.int (p2 &&& (2147483647 : Int32)))])
  refine Go.to (fun _ => XS.iload X0.here hx rfl (hb hby at_11) rfl) ?_
  show Go p e below _ s₁ (mkF m 13 #[.val (.int p1), .val (.int p2), .val (.int p3), .val (.int p4), .val (.int p5), .val (.int p6), .val (.int zn), .unset, .unset, .unset, .unset, .unset, .unset, .unset, .unset, .unset, .unset, .unset, .unset, .unset, .unset, .unset, .unset, .unset] [(.int zn), (.int (p2 &&& (2147483647 : Int32)))])
  refine Go.to (fun _ => iremM X0 hx rfl (hb hby at_13) rfl hnz) ?_
  show Go p e below _ s₁ (mkF m 14 #[.val (.int p1), .val (.int p2), .val (.int p3), .val (.int p4), .val (.int p5), .val (.int p6), .val (.int zn), .unset, .unset, .unset, .unset, .unset, .unset, .unset, .unset, .unset, .unset, .unset, .unset, .unset, .unset, .unset, .unset, .unset] [(.int ((p2 &&& (2147483647 : Int32)) % zn))])
  refine Go.to (fun _ => XS.istore X0.here hx rfl (hb hby at_14) rfl (l' := #[.val (.int p1), .val (.int p2), .val (.int p3), .val (.int p4), .val (.int p5), .val (.int p6), .val (.int zn), .val (.int ((p2 &&& (2147483647 : Int32)) % zn)), .unset, .unset, .unset, .unset, .unset, .unset, .unset, .unset, .unset, .unset, .unset, .unset, .unset, .unset, .unset, .unset]) rfl) ?_
  show Go p e below _ s₁ (mkF m 16 #[.val (.int p1), .val (.int p2), .val (.int p3), .val (.int p4), .val (.int p5), .val (.int p6), .val (.int zn), .val (.int ((p2 &&& (2147483647 : Int32)) % zn)), .unset, .unset, .unset, .unset, .unset, .unset, .unset, .unset, .unset, .unset, .unset, .unset, .unset, .unset, .unset, .unset] [])
  obtain ⟨x0, hx0⟩ : ∃ z : Int32, z = ((p2 &&& (2147483647 : Int32)) % zn) := ⟨_, rfl⟩
  rw [← hx0]
  show Go p e below _ s₁ (mkF m 16 #[.val (.int p1), .val (.int p2), .val (.int p3), .val (.int p4), .val (.int p5), .val (.int p6), .val (.int zn), .val (.int x0), .unset, .unset, .unset, .unset, .unset, .unset, .unset, .unset, .unset, .unset, .unset, .unset, .unset, .unset, .unset, .unset] [])
  refine Go.to (fun _ => XS.iloadN X0.here hx rfl (hb hby at_16) rfl) ?_
  show Go p e below _ s₁ (mkF m 17 #[.val (.int p1), .val (.int p2), .val (.int p3), .val (.int p4), .val (.int p5), .val (.int p6), .val (.int zn), .val (.int x0), .unset, .unset, .unset, .unset, .unset, .unset, .unset, .unset, .unset, .unset, .unset, .unset, .unset, .unset, .unset, .unset] [(.int p3)])
  refine Go.to (fun _ => X0.ldcInt hx hown (mvT hZ (hw _ (List.mem_of_getElem? (i := 0) rfl))) (g := (mkF m 17 #[.val (.int p1), .val (.int p2), .val (.int p3), .val (.int p4), .val (.int p5), .val (.int p6), .val (.int zn), .val (.int x0), .unset, .unset, .unset, .unset, .unset, .unset, .unset, .unset, .unset, .unset, .unset, .unset, .unset, .unset, .unset, .unset] [(.int p3)])) rfl (hb hby at_17) _) ?_
  show Go p e below _ s₁ (mkF m 19 #[.val (.int p1), .val (.int p2), .val (.int p3), .val (.int p4), .val (.int p5), .val (.int p6), .val (.int zn), .val (.int x0), .unset, .unset, .unset, .unset, .unset, .unset, .unset, .unset, .unset, .unset, .unset, .unset, .unset, .unset, .unset, .unset] [(.int (2147483647 : Int32)), (.int p3)])
  refine Go.to (fun _ => XS.iand X0.here hx rfl (hb hby at_19) rfl) ?_
  show Go p e below _ s₁ (mkF m 20 #[.val (.int p1), .val (.int p2), .val (.int p3), .val (.int p4), .val (.int p5), .val (.int p6), .val (.int zn), .val (.int x0), .unset, .unset, .unset, .unset, .unset, .unset, .unset, .unset, .unset, .unset, .unset, .unset, .unset, .unset, .unset, .unset] [(.int (p3 &&& (2147483647 : Int32)))])
  refine Go.to (fun _ => XS.iload X0.here hx rfl (hb hby at_20) rfl) ?_
  show Go p e below _ s₁ (mkF m 22 #[.val (.int p1), .val (.int p2), .val (.int p3), .val (.int p4), .val (.int p5), .val (.int p6), .val (.int zn), .val (.int x0), .unset, .unset, .unset, .unset, .unset, .unset, .unset, .unset, .unset, .unset, .unset, .unset, .unset, .unset, .unset, .unset] [(.int zn), (.int (p3 &&& (2147483647 : Int32)))])
  refine Go.to (fun _ => iremM X0 hx rfl (hb hby at_22) rfl hnz) ?_
  show Go p e below _ s₁ (mkF m 23 #[.val (.int p1), .val (.int p2), .val (.int p3), .val (.int p4), .val (.int p5), .val (.int p6), .val (.int zn), .val (.int x0), .unset, .unset, .unset, .unset, .unset, .unset, .unset, .unset, .unset, .unset, .unset, .unset, .unset, .unset, .unset, .unset] [(.int ((p3 &&& (2147483647 : Int32)) % zn))])
  refine Go.to (fun _ => XS.istore X0.here hx rfl (hb hby at_23) rfl (l' := #[.val (.int p1), .val (.int p2), .val (.int p3), .val (.int p4), .val (.int p5), .val (.int p6), .val (.int zn), .val (.int x0), .val (.int ((p3 &&& (2147483647 : Int32)) % zn)), .unset, .unset, .unset, .unset, .unset, .unset, .unset, .unset, .unset, .unset, .unset, .unset, .unset, .unset, .unset]) rfl) ?_
  show Go p e below _ s₁ (mkF m 25 #[.val (.int p1), .val (.int p2), .val (.int p3), .val (.int p4), .val (.int p5), .val (.int p6), .val (.int zn), .val (.int x0), .val (.int ((p3 &&& (2147483647 : Int32)) % zn)), .unset, .unset, .unset, .unset, .unset, .unset, .unset, .unset, .unset, .unset, .unset, .unset, .unset, .unset, .unset] [])
  obtain ⟨x1, hx1⟩ : ∃ z : Int32, z = ((p3 &&& (2147483647 : Int32)) % zn) := ⟨_, rfl⟩
  rw [← hx1]
  show Go p e below _ s₁ (mkF m 25 #[.val (.int p1), .val (.int p2), .val (.int p3), .val (.int p4), .val (.int p5), .val (.int p6), .val (.int zn), .val (.int x0), .val (.int x1), .unset, .unset, .unset, .unset, .unset, .unset, .unset, .unset, .unset, .unset, .unset, .unset, .unset, .unset, .unset] [])
  refine Go.to (fun _ => XS.iloadN X0.here hx rfl (hb hby at_25) rfl) ?_
  show Go p e below _ s₁ (mkF m 26 #[.val (.int p1), .val (.int p2), .val (.int p3), .val (.int p4), .val (.int p5), .val (.int p6), .val (.int zn), .val (.int x0), .val (.int x1), .unset, .unset, .unset, .unset, .unset, .unset, .unset, .unset, .unset, .unset, .unset, .unset, .unset, .unset, .unset] [(.int p4)])
  refine Go.to (fun _ => X0.ldcInt hx hown (mvT hZ (hw _ (List.mem_of_getElem? (i := 0) rfl))) (g := (mkF m 26 #[.val (.int p1), .val (.int p2), .val (.int p3), .val (.int p4), .val (.int p5), .val (.int p6), .val (.int zn), .val (.int x0), .val (.int x1), .unset, .unset, .unset, .unset, .unset, .unset, .unset, .unset, .unset, .unset, .unset, .unset, .unset, .unset, .unset] [(.int p4)])) rfl (hb hby at_26) _) ?_
  show Go p e below _ s₁ (mkF m 28 #[.val (.int p1), .val (.int p2), .val (.int p3), .val (.int p4), .val (.int p5), .val (.int p6), .val (.int zn), .val (.int x0), .val (.int x1), .unset, .unset, .unset, .unset, .unset, .unset, .unset, .unset, .unset, .unset, .unset, .unset, .unset, .unset, .unset] [(.int (2147483647 : Int32)), (.int p4)])
  refine Go.to (fun _ => XS.iand X0.here hx rfl (hb hby at_28) rfl) ?_
  show Go p e below _ s₁ (mkF m 29 #[.val (.int p1), .val (.int p2), .val (.int p3), .val (.int p4), .val (.int p5), .val (.int p6), .val (.int zn), .val (.int x0), .val (.int x1), .unset, .unset, .unset, .unset, .unset, .unset, .unset, .unset, .unset, .unset, .unset, .unset, .unset, .unset, .unset] [(.int (p4 &&& (2147483647 : Int32)))])
  refine Go.to (fun _ => XS.iload X0.here hx rfl (hb hby at_29) rfl) ?_
  show Go p e below _ s₁ (mkF m 31 #[.val (.int p1), .val (.int p2), .val (.int p3), .val (.int p4), .val (.int p5), .val (.int p6), .val (.int zn), .val (.int x0), .val (.int x1), .unset, .unset, .unset, .unset, .unset, .unset, .unset, .unset, .unset, .unset, .unset, .unset, .unset, .unset, .unset] [(.int zn), (.int (p4 &&& (2147483647 : Int32)))])
  refine Go.to (fun _ => iremM X0 hx rfl (hb hby at_31) rfl hnz) ?_
  show Go p e below _ s₁ (mkF m 32 #[.val (.int p1), .val (.int p2), .val (.int p3), .val (.int p4), .val (.int p5), .val (.int p6), .val (.int zn), .val (.int x0), .val (.int x1), .unset, .unset, .unset, .unset, .unset, .unset, .unset, .unset, .unset, .unset, .unset, .unset, .unset, .unset, .unset] [(.int ((p4 &&& (2147483647 : Int32)) % zn))])
  refine Go.to (fun _ => XS.istore X0.here hx rfl (hb hby at_32) rfl (l' := #[.val (.int p1), .val (.int p2), .val (.int p3), .val (.int p4), .val (.int p5), .val (.int p6), .val (.int zn), .val (.int x0), .val (.int x1), .val (.int ((p4 &&& (2147483647 : Int32)) % zn)), .unset, .unset, .unset, .unset, .unset, .unset, .unset, .unset, .unset, .unset, .unset, .unset, .unset, .unset]) rfl) ?_
  show Go p e below _ s₁ (mkF m 34 #[.val (.int p1), .val (.int p2), .val (.int p3), .val (.int p4), .val (.int p5), .val (.int p6), .val (.int zn), .val (.int x0), .val (.int x1), .val (.int ((p4 &&& (2147483647 : Int32)) % zn)), .unset, .unset, .unset, .unset, .unset, .unset, .unset, .unset, .unset, .unset, .unset, .unset, .unset, .unset] [])
  obtain ⟨x2, hx2⟩ : ∃ z : Int32, z = ((p4 &&& (2147483647 : Int32)) % zn) := ⟨_, rfl⟩
  rw [← hx2]
  show Go p e below _ s₁ (mkF m 34 #[.val (.int p1), .val (.int p2), .val (.int p3), .val (.int p4), .val (.int p5), .val (.int p6), .val (.int zn), .val (.int x0), .val (.int x1), .val (.int x2), .unset, .unset, .unset, .unset, .unset, .unset, .unset, .unset, .unset, .unset, .unset, .unset, .unset, .unset] [])
  refine Go.to (fun _ => XS.iload X0.here hx rfl (hb hby at_34) rfl) ?_
  show Go p e below _ s₁ (mkF m 36 #[.val (.int p1), .val (.int p2), .val (.int p3), .val (.int p4), .val (.int p5), .val (.int p6), .val (.int zn), .val (.int x0), .val (.int x1), .val (.int x2), .unset, .unset, .unset, .unset, .unset, .unset, .unset, .unset, .unset, .unset, .unset, .unset, .unset, .unset] [(.int p5)])
  refine Go.to (fun _ => X0.ldcInt hx hown (mvT hZ (hw _ (List.mem_of_getElem? (i := 0) rfl))) (g := (mkF m 36 #[.val (.int p1), .val (.int p2), .val (.int p3), .val (.int p4), .val (.int p5), .val (.int p6), .val (.int zn), .val (.int x0), .val (.int x1), .val (.int x2), .unset, .unset, .unset, .unset, .unset, .unset, .unset, .unset, .unset, .unset, .unset, .unset, .unset, .unset] [(.int p5)])) rfl (hb hby at_36) _) ?_
  show Go p e below _ s₁ (mkF m 38 #[.val (.int p1), .val (.int p2), .val (.int p3), .val (.int p4), .val (.int p5), .val (.int p6), .val (.int zn), .val (.int x0), .val (.int x1), .val (.int x2), .unset, .unset, .unset, .unset, .unset, .unset, .unset, .unset, .unset, .unset, .unset, .unset, .unset, .unset] [(.int (2147483647 : Int32)), (.int p5)])
  refine Go.to (fun _ => XS.iand X0.here hx rfl (hb hby at_38) rfl) ?_
  show Go p e below _ s₁ (mkF m 39 #[.val (.int p1), .val (.int p2), .val (.int p3), .val (.int p4), .val (.int p5), .val (.int p6), .val (.int zn), .val (.int x0), .val (.int x1), .val (.int x2), .unset, .unset, .unset, .unset, .unset, .unset, .unset, .unset, .unset, .unset, .unset, .unset, .unset, .unset] [(.int (p5 &&& (2147483647 : Int32)))])
  refine Go.to (fun _ => XS.iload X0.here hx rfl (hb hby at_39) rfl) ?_
  show Go p e below _ s₁ (mkF m 41 #[.val (.int p1), .val (.int p2), .val (.int p3), .val (.int p4), .val (.int p5), .val (.int p6), .val (.int zn), .val (.int x0), .val (.int x1), .val (.int x2), .unset, .unset, .unset, .unset, .unset, .unset, .unset, .unset, .unset, .unset, .unset, .unset, .unset, .unset] [(.int zn), (.int (p5 &&& (2147483647 : Int32)))])
  refine Go.to (fun _ => iremM X0 hx rfl (hb hby at_41) rfl hnz) ?_
  show Go p e below _ s₁ (mkF m 42 #[.val (.int p1), .val (.int p2), .val (.int p3), .val (.int p4), .val (.int p5), .val (.int p6), .val (.int zn), .val (.int x0), .val (.int x1), .val (.int x2), .unset, .unset, .unset, .unset, .unset, .unset, .unset, .unset, .unset, .unset, .unset, .unset, .unset, .unset] [(.int ((p5 &&& (2147483647 : Int32)) % zn))])
  refine Go.to (fun _ => XS.istore X0.here hx rfl (hb hby at_42) rfl (l' := #[.val (.int p1), .val (.int p2), .val (.int p3), .val (.int p4), .val (.int p5), .val (.int p6), .val (.int zn), .val (.int x0), .val (.int x1), .val (.int x2), .val (.int ((p5 &&& (2147483647 : Int32)) % zn)), .unset, .unset, .unset, .unset, .unset, .unset, .unset, .unset, .unset, .unset, .unset, .unset, .unset]) rfl) ?_
  show Go p e below _ s₁ (mkF m 44 #[.val (.int p1), .val (.int p2), .val (.int p3), .val (.int p4), .val (.int p5), .val (.int p6), .val (.int zn), .val (.int x0), .val (.int x1), .val (.int x2), .val (.int ((p5 &&& (2147483647 : Int32)) % zn)), .unset, .unset, .unset, .unset, .unset, .unset, .unset, .unset, .unset, .unset, .unset, .unset, .unset] [])
  obtain ⟨x3, hx3⟩ : ∃ z : Int32, z = ((p5 &&& (2147483647 : Int32)) % zn) := ⟨_, rfl⟩
  rw [← hx3]
  show Go p e below _ s₁ (mkF m 44 #[.val (.int p1), .val (.int p2), .val (.int p3), .val (.int p4), .val (.int p5), .val (.int p6), .val (.int zn), .val (.int x0), .val (.int x1), .val (.int x2), .val (.int x3), .unset, .unset, .unset, .unset, .unset, .unset, .unset, .unset, .unset, .unset, .unset, .unset, .unset] [])
  have hj1 : (∀ k0 : Int32, k0 = (if (p6 &&& (1 : Int32)) = (0 : Int32) then (0 : Int32) else (1 : Int32)) → Go p e below K s₁ (mkF m 56 #[.val (.int p1), .val (.int p2), .val (.int p3), .val (.int p4), .val (.int p5), .val (.int p6), .val (.int zn), .val (.int x0), .val (.int x1), .val (.int x2), .val (.int x3), .unset, .unset, .unset, .unset, .unset, .unset, .unset, .unset, .unset, .unset, .unset, .unset, .unset] [(.int k0)])) → Go p e below K s₁ (mkF m 44 #[.val (.int p1), .val (.int p2), .val (.int p3), .val (.int p4), .val (.int p5), .val (.int p6), .val (.int zn), .val (.int x0), .val (.int x1), .val (.int x2), .val (.int x3), .unset, .unset, .unset, .unset, .unset, .unset, .unset, .unset, .unset, .unset, .unset, .unset, .unset] []) := by
    intro k
    refine Go.to (fun _ => XS.iload X0.here hx rfl (hb hby at_44) rfl) ?_
    show Go p e below _ s₁ (mkF m 46 #[.val (.int p1), .val (.int p2), .val (.int p3), .val (.int p4), .val (.int p5), .val (.int p6), .val (.int zn), .val (.int x0), .val (.int x1), .val (.int x2), .val (.int x3), .unset, .unset, .unset, .unset, .unset, .unset, .unset, .unset, .unset, .unset, .unset, .unset, .unset] [(.int p6)])
    refine Go.to (fun _ => XS.iconst X0.here hx rfl (hb hby at_46)) ?_
    show Go p e below _ s₁ (mkF m 47 #[.val (.int p1), .val (.int p2), .val (.int p3), .val (.int p4), .val (.int p5), .val (.int p6), .val (.int zn), .val (.int x0), .val (.int x1), .val (.int x2), .val (.int x3), .unset, .unset, .unset, .unset, .unset, .unset, .unset, .unset, .unset, .unset, .unset, .unset, .unset] [(.int (1 : Int32)), (.int p6)])
    refine Go.to (fun _ => XS.iand X0.here hx rfl (hb hby at_47) rfl) ?_
    show Go p e below _ s₁ (mkF m 48 #[.val (.int p1), .val (.int p2), .val (.int p3), .val (.int p4), .val (.int p5), .val (.int p6), .val (.int zn), .val (.int x0), .val (.int x1), .val (.int x2), .val (.int x3), .unset, .unset, .unset, .unset, .unset, .unset, .unset, .unset, .unset, .unset, .unset, .unset, .unset] [(.int (p6 &&& (1 : Int32)))])
    by_cases hc1 : (p6 &&& (1 : Int32)) = (0 : Int32)
    · refine Go.to (fun _ => XS.ifYes X0.here hx rfl (pc0 := 48) (pc' := 55) rfl (hb hby at_48) rfl ((if0 _ _).trans (teq hc1).1) (by decide) (by decide)) ?_
      show Go p e below _ s₁ (mkF m 55 #[.val (.int p1), .val (.int p2), .val (.int p3), .val (.int p4), .val (.int p5), .val (.int p6), .val (.int zn), .val (.int x0), .val (.int x1), .val (.int x2), .val (.int x3), .unset, .unset, .unset, .unset, .unset, .unset, .unset, .unset, .unset, .unset, .unset, .unset, .unset] [])
      refine Go.to (fun _ => XS.iconst X0.here hx rfl (hb hby at_55)) ?_
      show Go p e below _ s₁ (mkF m 56 #[.val (.int p1), .val (.int p2), .val (.int p3), .val (.int p4), .val (.int p5), .val (.int p6), .val (.int zn), .val (.int x0), .val (.int x1), .val (.int x2), .val (.int x3), .unset, .unset, .unset, .unset, .unset, .unset, .unset, .unset, .unset, .unset, .unset, .unset, .unset] [(.int (0 : Int32))])
      exact k (0 : Int32) (by rw [if_pos hc1])
    · refine Go.to (fun _ => XS.ifNo X0.here hx rfl (hb hby at_48) rfl ((if0 _ _).trans (feq hc1).1)) ?_
      show Go p e below _ s₁ (mkF m 51 #[.val (.int p1), .val (.int p2), .val (.int p3), .val (.int p4), .val (.int p5), .val (.int p6), .val (.int zn), .val (.int x0), .val (.int x1), .val (.int x2), .val (.int x3), .unset, .unset, .unset, .unset, .unset, .unset, .unset, .unset, .unset, .unset, .unset, .unset, .unset] [])
      refine Go.to (fun _ => XS.iconst X0.here hx rfl (hb hby at_51)) ?_
      show Go p e below _ s₁ (mkF m 52 #[.val (.int p1), .val (.int p2), .val (.int p3), .val (.int p4), .val (.int p5), .val (.int p6), .val (.int zn), .val (.int x0), .val (.int x1), .val (.int x2), .val (.int x3), .unset, .unset, .unset, .unset, .unset, .unset, .unset, .unset, .unset, .unset, .unset, .unset, .unset] [(.int (1 : Int32))])
      refine Go.to (fun _ => XS.goto X0.here hx rfl (pc0 := 52) (pc' := 56) rfl (hb hby at_52) (by decide) (by decide)) ?_
      show Go p e below _ s₁ (mkF m 56 #[.val (.int p1), .val (.int p2), .val (.int p3), .val (.int p4), .val (.int p5), .val (.int p6), .val (.int zn), .val (.int x0), .val (.int x1), .val (.int x2), .val (.int x3), .unset, .unset, .unset, .unset, .unset, .unset, .unset, .unset, .unset, .unset, .unset, .unset, .unset] [(.int (1 : Int32))])
      exact k (1 : Int32) (by rw [if_neg hc1])
  refine hj1 (fun k0 hk0 => ?_)
  clear hj1
  refine Go.to (fun _ => XS.istore X0.here hx rfl (hb hby at_56) rfl (l' := #[.val (.int p1), .val (.int p2), .val (.int p3), .val (.int p4), .val (.int p5), .val (.int p6), .val (.int zn), .val (.int x0), .val (.int x1), .val (.int x2), .val (.int x3), .val (.int k0), .unset, .unset, .unset, .unset, .unset, .unset, .unset, .unset, .unset, .unset, .unset, .unset]) rfl) ?_
  show Go p e below _ s₁ (mkF m 58 #[.val (.int p1), .val (.int p2), .val (.int p3), .val (.int p4), .val (.int p5), .val (.int p6), .val (.int zn), .val (.int x0), .val (.int x1), .val (.int x2), .val (.int x3), .val (.int k0), .unset, .unset, .unset, .unset, .unset, .unset, .unset, .unset, .unset, .unset, .unset, .unset] [])
  have hj2 : (∀ k1 : Int32, k1 = (if (p6 &&& (2 : Int32)) = (0 : Int32) then (0 : Int32) else (1 : Int32)) → Go p e below K s₁ (mkF m 70 #[.val (.int p1), .val (.int p2), .val (.int p3), .val (.int p4), .val (.int p5), .val (.int p6), .val (.int zn), .val (.int x0), .val (.int x1), .val (.int x2), .val (.int x3), .val (.int k0), .unset, .unset, .unset, .unset, .unset, .unset, .unset, .unset, .unset, .unset, .unset, .unset] [(.int k1)])) → Go p e below K s₁ (mkF m 58 #[.val (.int p1), .val (.int p2), .val (.int p3), .val (.int p4), .val (.int p5), .val (.int p6), .val (.int zn), .val (.int x0), .val (.int x1), .val (.int x2), .val (.int x3), .val (.int k0), .unset, .unset, .unset, .unset, .unset, .unset, .unset, .unset, .unset, .unset, .unset, .unset] []) := by
    intro k
    refine Go.to (fun _ => XS.iload X0.here hx rfl (hb hby at_58) rfl) ?_
    show Go p e below _ s₁ (mkF m 60 #[.val (.int p1), .val (.int p2), .val (.int p3), .val (.int p4), .val (.int p5), .val (.int p6), .val (.int zn), .val (.int x0), .val (.int x1), .val (.int x2), .val (.int x3), .val (.int k0), .unset, .unset, .unset, .unset, .unset, .unset, .unset, .unset, .unset, .unset, .unset, .unset] [(.int p6)])
    refine Go.to (fun _ => XS.iconst X0.here hx rfl (hb hby at_60)) ?_
    show Go p e below _ s₁ (mkF m 61 #[.val (.int p1), .val (.int p2), .val (.int p3), .val (.int p4), .val (.int p5), .val (.int p6), .val (.int zn), .val (.int x0), .val (.int x1), .val (.int x2), .val (.int x3), .val (.int k0), .unset, .unset, .unset, .unset, .unset, .unset, .unset, .unset, .unset, .unset, .unset, .unset] [(.int (2 : Int32)), (.int p6)])
    refine Go.to (fun _ => XS.iand X0.here hx rfl (hb hby at_61) rfl) ?_
    show Go p e below _ s₁ (mkF m 62 #[.val (.int p1), .val (.int p2), .val (.int p3), .val (.int p4), .val (.int p5), .val (.int p6), .val (.int zn), .val (.int x0), .val (.int x1), .val (.int x2), .val (.int x3), .val (.int k0), .unset, .unset, .unset, .unset, .unset, .unset, .unset, .unset, .unset, .unset, .unset, .unset] [(.int (p6 &&& (2 : Int32)))])
    by_cases hc2 : (p6 &&& (2 : Int32)) = (0 : Int32)
    · refine Go.to (fun _ => XS.ifYes X0.here hx rfl (pc0 := 62) (pc' := 69) rfl (hb hby at_62) rfl ((if0 _ _).trans (teq hc2).1) (by decide) (by decide)) ?_
      show Go p e below _ s₁ (mkF m 69 #[.val (.int p1), .val (.int p2), .val (.int p3), .val (.int p4), .val (.int p5), .val (.int p6), .val (.int zn), .val (.int x0), .val (.int x1), .val (.int x2), .val (.int x3), .val (.int k0), .unset, .unset, .unset, .unset, .unset, .unset, .unset, .unset, .unset, .unset, .unset, .unset] [])
      refine Go.to (fun _ => XS.iconst X0.here hx rfl (hb hby at_69)) ?_
      show Go p e below _ s₁ (mkF m 70 #[.val (.int p1), .val (.int p2), .val (.int p3), .val (.int p4), .val (.int p5), .val (.int p6), .val (.int zn), .val (.int x0), .val (.int x1), .val (.int x2), .val (.int x3), .val (.int k0), .unset, .unset, .unset, .unset, .unset, .unset, .unset, .unset, .unset, .unset, .unset, .unset] [(.int (0 : Int32))])
      exact k (0 : Int32) (by rw [if_pos hc2])
    · refine Go.to (fun _ => XS.ifNo X0.here hx rfl (hb hby at_62) rfl ((if0 _ _).trans (feq hc2).1)) ?_
      show Go p e below _ s₁ (mkF m 65 #[.val (.int p1), .val (.int p2), .val (.int p3), .val (.int p4), .val (.int p5), .val (.int p6), .val (.int zn), .val (.int x0), .val (.int x1), .val (.int x2), .val (.int x3), .val (.int k0), .unset, .unset, .unset, .unset, .unset, .unset, .unset, .unset, .unset, .unset, .unset, .unset] [])
      refine Go.to (fun _ => XS.iconst X0.here hx rfl (hb hby at_65)) ?_
      show Go p e below _ s₁ (mkF m 66 #[.val (.int p1), .val (.int p2), .val (.int p3), .val (.int p4), .val (.int p5), .val (.int p6), .val (.int zn), .val (.int x0), .val (.int x1), .val (.int x2), .val (.int x3), .val (.int k0), .unset, .unset, .unset, .unset, .unset, .unset, .unset, .unset, .unset, .unset, .unset, .unset] [(.int (1 : Int32))])
      refine Go.to (fun _ => XS.goto X0.here hx rfl (pc0 := 66) (pc' := 70) rfl (hb hby at_66) (by decide) (by decide)) ?_
      show Go p e below _ s₁ (mkF m 70 #[.val (.int p1), .val (.int p2), .val (.int p3), .val (.int p4), .val (.int p5), .val (.int p6), .val (.int zn), .val (.int x0), .val (.int x1), .val (.int x2), .val (.int x3), .val (.int k0), .unset, .unset, .unset, .unset, .unset, .unset, .unset, .unset, .unset, .unset, .unset, .unset] [(.int (1 : Int32))])
      exact k (1 : Int32) (by rw [if_neg hc2])
  refine hj2 (fun k1 hk1 => ?_)
  clear hj2
  refine Go.to (fun _ => XS.istore X0.here hx rfl (hb hby at_70) rfl (l' := #[.val (.int p1), .val (.int p2), .val (.int p3), .val (.int p4), .val (.int p5), .val (.int p6), .val (.int zn), .val (.int x0), .val (.int x1), .val (.int x2), .val (.int x3), .val (.int k0), .val (.int k1), .unset, .unset, .unset, .unset, .unset, .unset, .unset, .unset, .unset, .unset, .unset]) rfl) ?_
  show Go p e below _ s₁ (mkF m 72 #[.val (.int p1), .val (.int p2), .val (.int p3), .val (.int p4), .val (.int p5), .val (.int p6), .val (.int zn), .val (.int x0), .val (.int x1), .val (.int x2), .val (.int x3), .val (.int k0), .val (.int k1), .unset, .unset, .unset, .unset, .unset, .unset, .unset, .unset, .unset, .unset, .unset] [])
  have hj3 : (∀ k2 : Int32, k2 = (if (p6 &&& (4 : Int32)) = (0 : Int32) then (0 : Int32) else (1 : Int32)) → Go p e below K s₁ (mkF m 84 #[.val (.int p1), .val (.int p2), .val (.int p3), .val (.int p4), .val (.int p5), .val (.int p6), .val (.int zn), .val (.int x0), .val (.int x1), .val (.int x2), .val (.int x3), .val (.int k0), .val (.int k1), .unset, .unset, .unset, .unset, .unset, .unset, .unset, .unset, .unset, .unset, .unset] [(.int k2)])) → Go p e below K s₁ (mkF m 72 #[.val (.int p1), .val (.int p2), .val (.int p3), .val (.int p4), .val (.int p5), .val (.int p6), .val (.int zn), .val (.int x0), .val (.int x1), .val (.int x2), .val (.int x3), .val (.int k0), .val (.int k1), .unset, .unset, .unset, .unset, .unset, .unset, .unset, .unset, .unset, .unset, .unset] []) := by
    intro k
    refine Go.to (fun _ => XS.iload X0.here hx rfl (hb hby at_72) rfl) ?_
    show Go p e below _ s₁ (mkF m 74 #[.val (.int p1), .val (.int p2), .val (.int p3), .val (.int p4), .val (.int p5), .val (.int p6), .val (.int zn), .val (.int x0), .val (.int x1), .val (.int x2), .val (.int x3), .val (.int k0), .val (.int k1), .unset, .unset, .unset, .unset, .unset, .unset, .unset, .unset, .unset, .unset, .unset] [(.int p6)])
    refine Go.to (fun _ => XS.iconst X0.here hx rfl (hb hby at_74)) ?_
    show Go p e below _ s₁ (mkF m 75 #[.val (.int p1), .val (.int p2), .val (.int p3), .val (.int p4), .val (.int p5), .val (.int p6), .val (.int zn), .val (.int x0), .val (.int x1), .val (.int x2), .val (.int x3), .val (.int k0), .val (.int k1), .unset, .unset, .unset, .unset, .unset, .unset, .unset, .unset, .unset, .unset, .unset] [(.int (4 : Int32)), (.int p6)])
    refine Go.to (fun _ => XS.iand X0.here hx rfl (hb hby at_75) rfl) ?_
    show Go p e below _ s₁ (mkF m 76 #[.val (.int p1), .val (.int p2), .val (.int p3), .val (.int p4), .val (.int p5), .val (.int p6), .val (.int zn), .val (.int x0), .val (.int x1), .val (.int x2), .val (.int x3), .val (.int k0), .val (.int k1), .unset, .unset, .unset, .unset, .unset, .unset, .unset, .unset, .unset, .unset, .unset] [(.int (p6 &&& (4 : Int32)))])
    by_cases hc3 : (p6 &&& (4 : Int32)) = (0 : Int32)
    · refine Go.to (fun _ => XS.ifYes X0.here hx rfl (pc0 := 76) (pc' := 83) rfl (hb hby at_76) rfl ((if0 _ _).trans (teq hc3).1) (by decide) (by decide)) ?_
      show Go p e below _ s₁ (mkF m 83 #[.val (.int p1), .val (.int p2), .val (.int p3), .val (.int p4), .val (.int p5), .val (.int p6), .val (.int zn), .val (.int x0), .val (.int x1), .val (.int x2), .val (.int x3), .val (.int k0), .val (.int k1), .unset, .unset, .unset, .unset, .unset, .unset, .unset, .unset, .unset, .unset, .unset] [])
      refine Go.to (fun _ => XS.iconst X0.here hx rfl (hb hby at_83)) ?_
      show Go p e below _ s₁ (mkF m 84 #[.val (.int p1), .val (.int p2), .val (.int p3), .val (.int p4), .val (.int p5), .val (.int p6), .val (.int zn), .val (.int x0), .val (.int x1), .val (.int x2), .val (.int x3), .val (.int k0), .val (.int k1), .unset, .unset, .unset, .unset, .unset, .unset, .unset, .unset, .unset, .unset, .unset] [(.int (0 : Int32))])
      exact k (0 : Int32) (by rw [if_pos hc3])
    · refine Go.to (fun _ => XS.ifNo X0.here hx rfl (hb hby at_76) rfl ((if0 _ _).trans (feq hc3).1)) ?_
      show Go p e below _ s₁ (mkF m 79 #[.val (.int p1), .val (.int p2), .val (.int p3), .val (.int p4), .val (.int p5), .val (.int p6), .val (.int zn), .val (.int x0), .val (.int x1), .val (.int x2), .val (.int x3), .val (.int k0), .val (.int k1), .unset, .unset, .unset, .unset, .unset, .unset, .unset, .unset, .unset, .unset, .unset] [])
      refine Go.to (fun _ => XS.iconst X0.here hx rfl (hb hby at_79)) ?_
      show Go p e below _ s₁ (mkF m 80 #[.val (.int p1), .val (.int p2), .val (.int p3), .val (.int p4), .val (.int p5), .val (.int p6), .val (.int zn), .val (.int x0), .val (.int x1), .val (.int x2), .val (.int x3), .val (.int k0), .val (.int k1), .unset, .unset, .unset, .unset, .unset, .unset, .unset, .unset, .unset, .unset, .unset] [(.int (1 : Int32))])
      refine Go.to (fun _ => XS.goto X0.here hx rfl (pc0 := 80) (pc' := 84) rfl (hb hby at_80) (by decide) (by decide)) ?_
      show Go p e below _ s₁ (mkF m 84 #[.val (.int p1), .val (.int p2), .val (.int p3), .val (.int p4), .val (.int p5), .val (.int p6), .val (.int zn), .val (.int x0), .val (.int x1), .val (.int x2), .val (.int x3), .val (.int k0), .val (.int k1), .unset, .unset, .unset, .unset, .unset, .unset, .unset, .unset, .unset, .unset, .unset] [(.int (1 : Int32))])
      exact k (1 : Int32) (by rw [if_neg hc3])
  refine hj3 (fun k2 hk2 => ?_)
  clear hj3
  refine Go.to (fun _ => XS.istore X0.here hx rfl (hb hby at_84) rfl (l' := #[.val (.int p1), .val (.int p2), .val (.int p3), .val (.int p4), .val (.int p5), .val (.int p6), .val (.int zn), .val (.int x0), .val (.int x1), .val (.int x2), .val (.int x3), .val (.int k0), .val (.int k1), .val (.int k2), .unset, .unset, .unset, .unset, .unset, .unset, .unset, .unset, .unset, .unset]) rfl) ?_
  show Go p e below _ s₁ (mkF m 86 #[.val (.int p1), .val (.int p2), .val (.int p3), .val (.int p4), .val (.int p5), .val (.int p6), .val (.int zn), .val (.int x0), .val (.int x1), .val (.int x2), .val (.int x3), .val (.int k0), .val (.int k1), .val (.int k2), .unset, .unset, .unset, .unset, .unset, .unset, .unset, .unset, .unset, .unset] [])
  have hj4 : (∀ k3 : Int32, k3 = (if (p6 &&& (8 : Int32)) = (0 : Int32) then (0 : Int32) else (1 : Int32)) → Go p e below K s₁ (mkF m 99 #[.val (.int p1), .val (.int p2), .val (.int p3), .val (.int p4), .val (.int p5), .val (.int p6), .val (.int zn), .val (.int x0), .val (.int x1), .val (.int x2), .val (.int x3), .val (.int k0), .val (.int k1), .val (.int k2), .unset, .unset, .unset, .unset, .unset, .unset, .unset, .unset, .unset, .unset] [(.int k3)])) → Go p e below K s₁ (mkF m 86 #[.val (.int p1), .val (.int p2), .val (.int p3), .val (.int p4), .val (.int p5), .val (.int p6), .val (.int zn), .val (.int x0), .val (.int x1), .val (.int x2), .val (.int x3), .val (.int k0), .val (.int k1), .val (.int k2), .unset, .unset, .unset, .unset, .unset, .unset, .unset, .unset, .unset, .unset] []) := by
    intro k
    refine Go.to (fun _ => XS.iload X0.here hx rfl (hb hby at_86) rfl) ?_
    show Go p e below _ s₁ (mkF m 88 #[.val (.int p1), .val (.int p2), .val (.int p3), .val (.int p4), .val (.int p5), .val (.int p6), .val (.int zn), .val (.int x0), .val (.int x1), .val (.int x2), .val (.int x3), .val (.int k0), .val (.int k1), .val (.int k2), .unset, .unset, .unset, .unset, .unset, .unset, .unset, .unset, .unset, .unset] [(.int p6)])
    refine Go.to (fun _ => XS.bipush X0.here hx rfl (hb hby at_88)) ?_
    show Go p e below _ s₁ (mkF m 90 #[.val (.int p1), .val (.int p2), .val (.int p3), .val (.int p4), .val (.int p5), .val (.int p6), .val (.int zn), .val (.int x0), .val (.int x1), .val (.int x2), .val (.int x3), .val (.int k0), .val (.int k1), .val (.int k2), .unset, .unset, .unset, .unset, .unset, .unset, .unset, .unset, .unset, .unset] [(.int (8 : Int32)), (.int p6)])
    refine Go.to (fun _ => XS.iand X0.here hx rfl (hb hby at_90) rfl) ?_
    show Go p e below _ s₁ (mkF m 91 #[.val (.int p1), .val (.int p2), .val (.int p3), .val (.int p4), .val (.int p5), .val (.int p6), .val (.int zn), .val (.int x0), .val (.int x1), .val (.int x2), .val (.int x3), .val (.int k0), .val (.int k1), .val (.int k2), .unset, .unset, .unset, .unset, .unset, .unset, .unset, .unset, .unset, .unset] [(.int (p6 &&& (8 : Int32)))])
    by_cases hc4 : (p6 &&& (8 : Int32)) = (0 : Int32)
    · refine Go.to (fun _ => XS.ifYes X0.here hx rfl (pc0 := 91) (pc' := 98) rfl (hb hby at_91) rfl ((if0 _ _).trans (teq hc4).1) (by decide) (by decide)) ?_
      show Go p e below _ s₁ (mkF m 98 #[.val (.int p1), .val (.int p2), .val (.int p3), .val (.int p4), .val (.int p5), .val (.int p6), .val (.int zn), .val (.int x0), .val (.int x1), .val (.int x2), .val (.int x3), .val (.int k0), .val (.int k1), .val (.int k2), .unset, .unset, .unset, .unset, .unset, .unset, .unset, .unset, .unset, .unset] [])
      refine Go.to (fun _ => XS.iconst X0.here hx rfl (hb hby at_98)) ?_
      show Go p e below _ s₁ (mkF m 99 #[.val (.int p1), .val (.int p2), .val (.int p3), .val (.int p4), .val (.int p5), .val (.int p6), .val (.int zn), .val (.int x0), .val (.int x1), .val (.int x2), .val (.int x3), .val (.int k0), .val (.int k1), .val (.int k2), .unset, .unset, .unset, .unset, .unset, .unset, .unset, .unset, .unset, .unset] [(.int (0 : Int32))])
      exact k (0 : Int32) (by rw [if_pos hc4])
    · refine Go.to (fun _ => XS.ifNo X0.here hx rfl (hb hby at_91) rfl ((if0 _ _).trans (feq hc4).1)) ?_
      show Go p e below _ s₁ (mkF m 94 #[.val (.int p1), .val (.int p2), .val (.int p3), .val (.int p4), .val (.int p5), .val (.int p6), .val (.int zn), .val (.int x0), .val (.int x1), .val (.int x2), .val (.int x3), .val (.int k0), .val (.int k1), .val (.int k2), .unset, .unset, .unset, .unset, .unset, .unset, .unset, .unset, .unset, .unset] [])
      refine Go.to (fun _ => XS.iconst X0.here hx rfl (hb hby at_94)) ?_
      show Go p e below _ s₁ (mkF m 95 #[.val (.int p1), .val (.int p2), .val (.int p3), .val (.int p4), .val (.int p5), .val (.int p6), .val (.int zn), .val (.int x0), .val (.int x1), .val (.int x2), .val (.int x3), .val (.int k0), .val (.int k1), .val (.int k2), .unset, .unset, .unset, .unset, .unset, .unset, .unset, .unset, .unset, .unset] [(.int (1 : Int32))])
      refine Go.to (fun _ => XS.goto X0.here hx rfl (pc0 := 95) (pc' := 99) rfl (hb hby at_95) (by decide) (by decide)) ?_
      show Go p e below _ s₁ (mkF m 99 #[.val (.int p1), .val (.int p2), .val (.int p3), .val (.int p4), .val (.int p5), .val (.int p6), .val (.int zn), .val (.int x0), .val (.int x1), .val (.int x2), .val (.int x3), .val (.int k0), .val (.int k1), .val (.int k2), .unset, .unset, .unset, .unset, .unset, .unset, .unset, .unset, .unset, .unset] [(.int (1 : Int32))])
      exact k (1 : Int32) (by rw [if_neg hc4])
  refine hj4 (fun k3 hk3 => ?_)
  clear hj4
  refine Go.to (fun _ => XS.istore X0.here hx rfl (hb hby at_99) rfl (l' := #[.val (.int p1), .val (.int p2), .val (.int p3), .val (.int p4), .val (.int p5), .val (.int p6), .val (.int zn), .val (.int x0), .val (.int x1), .val (.int x2), .val (.int x3), .val (.int k0), .val (.int k1), .val (.int k2), .val (.int k3), .unset, .unset, .unset, .unset, .unset, .unset, .unset, .unset, .unset]) rfl) ?_
  show Go p e below _ s₁ (mkF m 101 #[.val (.int p1), .val (.int p2), .val (.int p3), .val (.int p4), .val (.int p5), .val (.int p6), .val (.int zn), .val (.int x0), .val (.int x1), .val (.int x2), .val (.int x3), .val (.int k0), .val (.int k1), .val (.int k2), .val (.int k3), .unset, .unset, .unset, .unset, .unset, .unset, .unset, .unset, .unset] [])
  obtain ⟨el0, po0, wq, hini, hwq, hf⟩ := own_law hN.2.2.2 (own_x hN hx0) (own_x hN hx1) (own_x hN hx2) (own_x hN hx3) (own_b hk0) (own_b hk1) (own_b hk2) (own_b hk3)
  rw [lawF] at hf
  obtain ⟨T5, h5, X5, e5, E5, B5, D5, -, st5⟩ := newO X0 hx hZ hown (hw _ (List.mem_of_getElem? (i := 1) rfl)) (hw _ (List.mem_of_getElem? (i := 2) rfl)) (hw _ (List.mem_of_getElem? (i := 3) rfl)) e0 (g := (mkF m 101 #[.val (.int p1), .val (.int p2), .val (.int p3), .val (.int p4), .val (.int p5), .val (.int p6), .val (.int zn), .val (.int x0), .val (.int x1), .val (.int x2), .val (.int x3), .val (.int k0), .val (.int k1), .val (.int k2), .val (.int k3), .unset, .unset, .unset, .unset, .unset, .unset, .unset, .unset, .unset] [])) rfl (hb hby at_101) (by decide) (by decide)
  obtain ⟨a5, g5⟩ : ∃ z, z = h0.size := ⟨_, rfl⟩
  rw [← g5] at B5 D5 st5
  refine Go.to st5 ?_
  have O5 : Obj Z n0 h5 h5 a5 "com/example/tracegauge/tracegauge/automata/Partition" nFp [.null, .null, .null, .null, .null, .null, .null, (.int (0 : Int32)), (.int (0 : Int32))] [] [] := Obj.born B5 (by rw [g5]; exact Z0) D5 (laidp hw) (by decide +kernel) rfl
  show Go p e below _ T5 (mkF m 104 #[.val (.int p1), .val (.int p2), .val (.int p3), .val (.int p4), .val (.int p5), .val (.int p6), .val (.int zn), .val (.int x0), .val (.int x1), .val (.int x2), .val (.int x3), .val (.int k0), .val (.int k1), .val (.int k2), .val (.int k3), .unset, .unset, .unset, .unset, .unset, .unset, .unset, .unset, .unset] [(.ref a5)])
  refine Go.to (fun _ => XS.dup X5.here hx rfl (hb hby at_104) rfl rfl) ?_
  show Go p e below _ T5 (mkF m 105 #[.val (.int p1), .val (.int p2), .val (.int p3), .val (.int p4), .val (.int p5), .val (.int p6), .val (.int zn), .val (.int x0), .val (.int x1), .val (.int x2), .val (.int x3), .val (.int k0), .val (.int k1), .val (.int k2), .val (.int k3), .unset, .unset, .unset, .unset, .unset, .unset, .unset, .unset, .unset] [(.ref a5), (.ref a5)])
  refine Go.to (fun _ => XS.iload X5.here hx rfl (hb hby at_105) rfl) ?_
  show Go p e below _ T5 (mkF m 107 #[.val (.int p1), .val (.int p2), .val (.int p3), .val (.int p4), .val (.int p5), .val (.int p6), .val (.int zn), .val (.int x0), .val (.int x1), .val (.int x2), .val (.int x3), .val (.int k0), .val (.int k1), .val (.int k2), .val (.int k3), .unset, .unset, .unset, .unset, .unset, .unset, .unset, .unset, .unset] [(.int zn), (.ref a5), (.ref a5)])
  refine Go.callI (y := (⟨"com/example/tracegauge/tracegauge/automata/Partition", "<init>", "(I)V"⟩ : MethodName)) X5 hx hZ hown rfl (hw _ (List.mem_of_getElem? (i := 4) rfl)) (hw _ (List.mem_of_getElem? (i := 5) rfl)) (hw _ (List.mem_of_getElem? (i := 3) rfl)) (hw _ (List.mem_of_getElem? (i := 6) rfl)) (by decide) (rm1 l Z a0 hw [] a5 zn h5 n0 O5 hN.1 hN.2.1 hN.2.2.1 6 el0 po0 hini wq hwq) e5 (by rw [hml]; rfl) (pd_0) rfl (a := a5) (argsL := [(.int zn)]) (rest := [(.ref a5)]) rfl rfl (hb hby at_107) (by decide) (Nat.le_of_ble_eq_true rfl) (by decide) (by decide) ?_
  rintro T6 _ L6 X6 ⟨rfl, N6, b0, b1, b2, b3, b4, b5, b6, O6⟩
  have N6 := Fr.app (Fr.nil n0) N6
  have O6 := O6.anew
  show Go p e below _ T6 (mkF m 110 #[.val (.int p1), .val (.int p2), .val (.int p3), .val (.int p4), .val (.int p5), .val (.int p6), .val (.int zn), .val (.int x0), .val (.int x1), .val (.int x2), .val (.int x3), .val (.int k0), .val (.int k1), .val (.int k2), .val (.int k3), .unset, .unset, .unset, .unset, .unset, .unset, .unset, .unset, .unset] [(.ref a5)])
  refine Go.to (fun _ => XS.astore X6.here hx rfl (hb hby at_110) rfl rfl (l' := #[.val (.int p1), .val (.int p2), .val (.int p3), .val (.int p4), .val (.int p5), .val (.int p6), .val (.int zn), .val (.int x0), .val (.int x1), .val (.int x2), .val (.int x3), .val (.int k0), .val (.int k1), .val (.int k2), .val (.int k3), .val (.ref a5), .unset, .unset, .unset, .unset, .unset, .unset, .unset, .unset]) rfl) ?_
  show Go p e below _ T6 (mkF m 112 #[.val (.int p1), .val (.int p2), .val (.int p3), .val (.int p4), .val (.int p5), .val (.int p6), .val (.int zn), .val (.int x0), .val (.int x1), .val (.int x2), .val (.int x3), .val (.int k0), .val (.int k1), .val (.int k2), .val (.int k3), .val (.ref a5), .unset, .unset, .unset, .unset, .unset, .unset, .unset, .unset] [])
  obtain ⟨⟨el1, po1, se1, fi1, en1, ma1, tu1, tc1, sc1⟩, hS0, hf⟩ := Option.bind_eq_some_iff.mp hf
  dsimp only at hf
  have hj0 : (∀ (T : State) (h : Heap) (L : List Loc), Stand p l e room_1 s m #[.int p1, .int p2, .int p3, .int p4, .int p5, .int p6] below meth c T L 8 37 → T.heap = h → Fr n0 L → Obj Z n0 h h a5 "com/example/tracegauge/tracegauge/automata/Partition" nFp [.ref b0, .ref b1, .ref b2, .ref b3, .ref b4, .ref b5, .ref b6, .int tc1, .int sc1] [b0, b1, b2, b3, b4, b5, b6] [el1, po1, se1, fi1, en1, ma1, tu1] → Go p e below K T (mkF m 124 #[.val (.int p1), .val (.int p2), .val (.int p3), .val (.int p4), .val (.int p5), .val (.int p6), .val (.int zn), .val (.int x0), .val (.int x1), .val (.int x2), .val (.int x3), .val (.int k0), .val (.int k1), .val (.int k2), .val (.int k3), .val (.ref a5), .unset, .unset, .unset, .unset, .unset, .unset, .unset, .unset] [])) → Go p e below K T6 (mkF m 112 #[.val (.int p1), .val (.int p2), .val (.int p3), .val (.int p4), .val (.int p5), .val (.int p6), .val (.int zn), .val (.int x0), .val (.int x1), .val (.int x2), .val (.int x3), .val (.int k0), .val (.int k1), .val (.int k2), .val (.int k3), .val (.ref a5), .unset, .unset, .unset, .unset, .unset, .unset, .unset, .unset] []) := by
    intro kk
    rw [cmF] at hS0
    by_cases hck : k0 = (0 : Int32)
    · rw [if_pos hck] at hS0
      simp only [Option.some.injEq, Prod.mk.injEq] at hS0
      obtain ⟨rfl, rfl, rfl, rfl, rfl, rfl, rfl, rfl, rfl⟩ := hS0
      refine Go.to (fun _ => XS.iload X6.here hx rfl (hb hby at_112) rfl) ?_
      show Go p e below _ T6 (mkF m 114 #[.val (.int p1), .val (.int p2), .val (.int p3), .val (.int p4), .val (.int p5), .val (.int p6), .val (.int zn), .val (.int x0), .val (.int x1), .val (.int x2), .val (.int x3), .val (.int k0), .val (.int k1), .val (.int k2), .val (.int k3), .val (.ref a5), .unset, .unset, .unset, .unset, .unset, .unset, .unset, .unset] [(.int k0)])
      refine Go.to (fun _ => XS.ifYes X6.here hx rfl (pc0 := 114) (pc' := 124) rfl (hb hby at_114) rfl ((if0 _ _).trans (teq hck).1) (by decide) (by decide)) ?_
      show Go p e below _ T6 (mkF m 124 #[.val (.int p1), .val (.int p2), .val (.int p3), .val (.int p4), .val (.int p5), .val (.int p6), .val (.int zn), .val (.int x0), .val (.int x1), .val (.int x2), .val (.int x3), .val (.int k0), .val (.int k1), .val (.int k2), .val (.int k3), .val (.ref a5), .unset, .unset, .unset, .unset, .unset, .unset, .unset, .unset] [])
      exact kk _ _ _ X6 rfl N6 O6
    · rw [if_neg hck] at hS0
      refine Go.to (fun _ => XS.iload X6.here hx rfl (hb hby at_112) rfl) ?_
      show Go p e below _ T6 (mkF m 114 #[.val (.int p1), .val (.int p2), .val (.int p3), .val (.int p4), .val (.int p5), .val (.int p6), .val (.int zn), .val (.int x0), .val (.int x1), .val (.int x2), .val (.int x3), .val (.int k0), .val (.int k1), .val (.int k2), .val (.int k3), .val (.ref a5), .unset, .unset, .unset, .unset, .unset, .unset, .unset, .unset] [(.int k0)])
      refine Go.to (fun _ => XS.ifNo X6.here hx rfl (hb hby at_114) rfl ((if0 _ _).trans (feq hck).1)) ?_
      show Go p e below _ T6 (mkF m 117 #[.val (.int p1), .val (.int p2), .val (.int p3), .val (.int p4), .val (.int p5), .val (.int p6), .val (.int zn), .val (.int x0), .val (.int x1), .val (.int x2), .val (.int x3), .val (.int k0), .val (.int k1), .val (.int k2), .val (.int k3), .val (.ref a5), .unset, .unset, .unset, .unset, .unset, .unset, .unset, .unset] [])
      refine Go.to (fun _ => XS.aload X6.here hx rfl (hb hby at_117) rfl rfl) ?_
      show Go p e below _ T6 (mkF m 119 #[.val (.int p1), .val (.int p2), .val (.int p3), .val (.int p4), .val (.int p5), .val (.int p6), .val (.int zn), .val (.int x0), .val (.int x1), .val (.int x2), .val (.int x3), .val (.int k0), .val (.int k1), .val (.int k2), .val (.int k3), .val (.ref a5), .unset, .unset, .unset, .unset, .unset, .unset, .unset, .unset] [(.ref a5)])
      refine Go.to (fun _ => XS.iload X6.here hx rfl (hb hby at_119) rfl) ?_
      show Go p e below _ T6 (mkF m 121 #[.val (.int p1), .val (.int p2), .val (.int p3), .val (.int p4), .val (.int p5), .val (.int p6), .val (.int zn), .val (.int x0), .val (.int x1), .val (.int x2), .val (.int x3), .val (.int k0), .val (.int k1), .val (.int k2), .val (.int k3), .val (.ref a5), .unset, .unset, .unset, .unset, .unset, .unset, .unset, .unset] [(.int x0), (.ref a5)])
      refine Go.callV (y := (⟨"com/example/tracegauge/tracegauge/automata/Partition", "mark", "(I)V"⟩ : MethodName)) X6 hx hZ hown (hw _ (List.mem_of_getElem? (i := 27) rfl)) (hw _ (List.mem_of_getElem? (i := 28) rfl)) (hw _ (List.mem_of_getElem? (i := 30) rfl)) (hw _ (List.mem_of_getElem? (i := 29) rfl)) (hw _ (List.mem_of_getElem? (i := 3) rfl)) (hw _ (List.mem_of_getElem? (i := 31) rfl)) (by decide) (rm3 l Z a0 hw [] a5 x0 T6.heap n0 b0 b1 b2 b3 b4 b5 b6 el0 po0 (List.replicate (zn).toNatClampNeg (0 : Int32)) (List.replicate (zn).toNatClampNeg (0 : Int32)) (wrL (List.replicate (zn).toNatClampNeg (0 : Int32)) (0 : Int32) zn) (List.replicate (zn).toNatClampNeg (0 : Int32)) (List.replicate (zn).toNatClampNeg (0 : Int32)) (0 : Int32) (1 : Int32) O6 el1 po1 se1 fi1 en1 ma1 tu1 tc1 sc1 hS0) rfl O6.exa (by rw [hml]; rfl) (pd_0) rfl (argsL := [(.int x0)]) (rest := []) rfl rfl (hb hby at_121) (by decide) (Nat.le_of_ble_eq_true rfl) (by decide) (by decide) ?_
      rintro T7 _ L7 X7 ⟨rfl, N7, O7⟩
      exact kk _ _ _ X7 rfl (Fr.app N6 N7) O7.anew
  refine hj0 (fun T h L X e' N O => ?_)
  clear hj0 hS0
  show Go p e below _ T (mkF m 124 #[.val (.int p1), .val (.int p2), .val (.int p3), .val (.int p4), .val (.int p5), .val (.int p6), .val (.int zn), .val (.int x0), .val (.int x1), .val (.int x2), .val (.int x3), .val (.int k0), .val (.int k1), .val (.int k2), .val (.int k3), .val (.ref a5), .unset, .unset, .unset, .unset, .unset, .unset, .unset, .unset] [])
  obtain ⟨⟨el2, po2, se2, fi2, en2, ma2, tu2, tc2, sc2⟩, hS1, hf⟩ := Option.bind_eq_some_iff.mp hf
  dsimp only at hf
  have hj1 : (∀ (T : State) (h : Heap) (L : List Loc), Stand p l e room_1 s m #[.int p1, .int p2, .int p3, .int p4, .int p5, .int p6] below meth c T L 8 37 → T.heap = h → Fr n0 L → Obj Z n0 h h a5 "com/example/tracegauge/tracegauge/automata/Partition" nFp [.ref b0, .ref b1, .ref b2, .ref b3, .ref b4, .ref b5, .ref b6, .int tc2, .int sc2] [b0, b1, b2, b3, b4, b5, b6] [el2, po2, se2, fi2, en2, ma2, tu2] → Go p e below K T (mkF m 136 #[.val (.int p1), .val (.int p2), .val (.int p3), .val (.int p4), .val (.int p5), .val (.int p6), .val (.int zn), .val (.int x0), .val (.int x1), .val (.int x2), .val (.int x3), .val (.int k0), .val (.int k1), .val (.int k2), .val (.int k3), .val (.ref a5), .unset, .unset, .unset, .unset, .unset, .unset, .unset, .unset] [])) → Go p e below K T (mkF m 124 #[.val (.int p1), .val (.int p2), .val (.int p3), .val (.int p4), .val (.int p5), .val (.int p6), .val (.int zn), .val (.int x0), .val (.int x1), .val (.int x2), .val (.int x3), .val (.int k0), .val (.int k1), .val (.int k2), .val (.int k3), .val (.ref a5), .unset, .unset, .unset, .unset, .unset, .unset, .unset, .unset] []) := by
    intro kk
    rw [cmF] at hS1
    by_cases hck : k1 = (0 : Int32)
    · rw [if_pos hck] at hS1
      simp only [Option.some.injEq, Prod.mk.injEq] at hS1
      obtain ⟨rfl, rfl, rfl, rfl, rfl, rfl, rfl, rfl, rfl⟩ := hS1
      refine Go.to (fun _ => XS.iload X.here hx rfl (hb hby at_124) rfl) ?_
      show Go p e below _ T (mkF m 126 #[.val (.int p1), .val (.int p2), .val (.int p3), .val (.int p4), .val (.int p5), .val (.int p6), .val (.int zn), .val (.int x0), .val (.int x1), .val (.int x2), .val (.int x3), .val (.int k0), .val (.int k1), .val (.int k2), .val (.int k3), .val (.ref a5), .unset, .unset, .unset, .unset, .unset, .unset, .unset, .unset] [(.int k1)])
      refine Go.to (fun _ => XS.ifYes X.here hx rfl (pc0 := 126) (pc' := 136) rfl (hb hby at_126) rfl ((if0 _ _).trans (teq hck).1) (by decide) (by decide)) ?_
      show Go p e below _ T (mkF m 136 #[.val (.int p1), .val (.int p2), .val (.int p3), .val (.int p4), .val (.int p5), .val (.int p6), .val (.int zn), .val (.int x0), .val (.int x1), .val (.int x2), .val (.int x3), .val (.int k0), .val (.int k1), .val (.int k2), .val (.int k3), .val (.ref a5), .unset, .unset, .unset, .unset, .unset, .unset, .unset, .unset] [])
      exact kk _ _ _ X e' N O
    · rw [if_neg hck] at hS1
      refine Go.to (fun _ => XS.iload X.here hx rfl (hb hby at_124) rfl) ?_
      show Go p e below _ T (mkF m 126 #[.val (.int p1), .val (.int p2), .val (.int p3), .val (.int p4), .val (.int p5), .val (.int p6), .val (.int zn), .val (.int x0), .val (.int x1), .val (.int x2), .val (.int x3), .val (.int k0), .val (.int k1), .val (.int k2), .val (.int k3), .val (.ref a5), .unset, .unset, .unset, .unset, .unset, .unset, .unset, .unset] [(.int k1)])
      refine Go.to (fun _ => XS.ifNo X.here hx rfl (hb hby at_126) rfl ((if0 _ _).trans (feq hck).1)) ?_
      show Go p e below _ T (mkF m 129 #[.val (.int p1), .val (.int p2), .val (.int p3), .val (.int p4), .val (.int p5), .val (.int p6), .val (.int zn), .val (.int x0), .val (.int x1), .val (.int x2), .val (.int x3), .val (.int k0), .val (.int k1), .val (.int k2), .val (.int k3), .val (.ref a5), .unset, .unset, .unset, .unset, .unset, .unset, .unset, .unset] [])
      refine Go.to (fun _ => XS.aload X.here hx rfl (hb hby at_129) rfl rfl) ?_
      show Go p e below _ T (mkF m 131 #[.val (.int p1), .val (.int p2), .val (.int p3), .val (.int p4), .val (.int p5), .val (.int p6), .val (.int zn), .val (.int x0), .val (.int x1), .val (.int x2), .val (.int x3), .val (.int k0), .val (.int k1), .val (.int k2), .val (.int k3), .val (.ref a5), .unset, .unset, .unset, .unset, .unset, .unset, .unset, .unset] [(.ref a5)])
      refine Go.to (fun _ => XS.iload X.here hx rfl (hb hby at_131) rfl) ?_
      show Go p e below _ T (mkF m 133 #[.val (.int p1), .val (.int p2), .val (.int p3), .val (.int p4), .val (.int p5), .val (.int p6), .val (.int zn), .val (.int x0), .val (.int x1), .val (.int x2), .val (.int x3), .val (.int k0), .val (.int k1), .val (.int k2), .val (.int k3), .val (.ref a5), .unset, .unset, .unset, .unset, .unset, .unset, .unset, .unset] [(.int x1), (.ref a5)])
      refine Go.callV (y := (⟨"com/example/tracegauge/tracegauge/automata/Partition", "mark", "(I)V"⟩ : MethodName)) X hx hZ hown (hw _ (List.mem_of_getElem? (i := 27) rfl)) (hw _ (List.mem_of_getElem? (i := 28) rfl)) (hw _ (List.mem_of_getElem? (i := 30) rfl)) (hw _ (List.mem_of_getElem? (i := 29) rfl)) (hw _ (List.mem_of_getElem? (i := 3) rfl)) (hw _ (List.mem_of_getElem? (i := 31) rfl)) (by decide) (rm3 l Z a0 hw [] a5 x1 h n0 b0 b1 b2 b3 b4 b5 b6 el1 po1 se1 fi1 en1 ma1 tu1 tc1 sc1 O el2 po2 se2 fi2 en2 ma2 tu2 tc2 sc2 hS1) e' O.exa (by rw [hml]; rfl) (pd_0) rfl (argsL := [(.int x1)]) (rest := []) rfl rfl (hb hby at_133) (by decide) (Nat.le_of_ble_eq_true rfl) (by decide) (by decide) ?_
      rintro T8 _ L8 X8 ⟨rfl, N8, O8⟩
      exact kk _ _ _ X8 rfl (Fr.app N N8) O8.anew
  refine hj1 (fun T h L X e' N O => ?_)
  clear hj1 hS1
  show Go p e below _ T (mkF m 136 #[.val (.int p1), .val (.int p2), .val (.int p3), .val (.int p4), .val (.int p5), .val (.int p6), .val (.int zn), .val (.int x0), .val (.int x1), .val (.int x2), .val (.int x3), .val (.int k0), .val (.int k1), .val (.int k2), .val (.int k3), .val (.ref a5), .unset, .unset, .unset, .unset, .unset, .unset, .unset, .unset] [])
  obtain ⟨⟨el3, po3, se3, fi3, en3, ma3, tu3, tc3, sc3⟩, hS2, hf⟩ := Option.bind_eq_some_iff.mp hf
  dsimp only at hf
  have hj2 : (∀ (T : State) (h : Heap) (L : List Loc), Stand p l e room_1 s m #[.int p1, .int p2, .int p3, .int p4, .int p5, .int p6] below meth c T L 8 37 → T.heap = h → Fr n0 L → Obj Z n0 h h a5 "com/example/tracegauge/tracegauge/automata/Partition" nFp [.ref b0, .ref b1, .ref b2, .ref b3, .ref b4, .ref b5, .ref b6, .int tc3, .int sc3] [b0, b1, b2, b3, b4, b5, b6] [el3, po3, se3, fi3, en3, ma3, tu3] → Go p e below K T (mkF m 148 #[.val (.int p1), .val (.int p2), .val (.int p3), .val (.int p4), .val (.int p5), .val (.int p6), .val (.int zn), .val (.int x0), .val (.int x1), .val (.int x2), .val (.int x3), .val (.int k0), .val (.int k1), .val (.int k2), .val (.int k3), .val (.ref a5), .unset, .unset, .unset, .unset, .unset, .unset, .unset, .unset] [])) → Go p e below K T (mkF m 136 #[.val (.int p1), .val (.int p2), .val (.int p3), .val (.int p4), .val (.int p5), .val (.int p6), .val (.int zn), .val (.int x0), .val (.int x1), .val (.int x2), .val (.int x3), .val (.int k0), .val (.int k1), .val (.int k2), .val (.int k3), .val (.ref a5), .unset, .unset, .unset, .unset, .unset, .unset, .unset, .unset] []) := by
    intro kk
    rw [cmF] at hS2
    by_cases hck : k2 = (0 : Int32)
    · rw [if_pos hck] at hS2
      simp only [Option.some.injEq, Prod.mk.injEq] at hS2
      obtain ⟨rfl, rfl, rfl, rfl, rfl, rfl, rfl, rfl, rfl⟩ := hS2
      refine Go.to (fun _ => XS.iload X.here hx rfl (hb hby at_136) rfl) ?_
      show Go p e below _ T (mkF m 138 #[.val (.int p1), .val (.int p2), .val (.int p3), .val (.int p4), .val (.int p5), .val (.int p6), .val (.int zn), .val (.int x0), .val (.int x1), .val (.int x2), .val (.int x3), .val (.int k0), .val (.int k1), .val (.int k2), .val (.int k3), .val (.ref a5), .unset, .unset, .unset, .unset, .unset, .unset, .unset, .unset] [(.int k2)])
      refine Go.to (fun _ => XS.ifYes X.here hx rfl (pc0 := 138) (pc' := 148) rfl (hb hby at_138) rfl ((if0 _ _).trans (teq hck).1) (by decide) (by decide)) ?_
      show Go p e below _ T (mkF m 148 #[.val (.int p1), .val (.int p2), .val (.int p3), .val (.int p4), .val (.int p5), .val (.int p6), .val (.int zn), .val (.int x0), .val (.int x1), .val (.int x2), .val (.int x3), .val (.int k0), .val (.int k1), .val (.int k2), .val (.int k3), .val (.ref a5), .unset, .unset, .unset, .unset, .unset, .unset, .unset, .unset] [])
      exact kk _ _ _ X e' N O
    · rw [if_neg hck] at hS2
      refine Go.to (fun _ => XS.iload X.here hx rfl (hb hby at_136) rfl) ?_
      show Go p e below _ T (mkF m 138 #[.val (.int p1), .val (.int p2), .val (.int p3), .val (.int p4), .val (.int p5), .val (.int p6), .val (.int zn), .val (.int x0), .val (.int x1), .val (.int x2), .val (.int x3), .val (.int k0), .val (.int k1), .val (.int k2), .val (.int k3), .val (.ref a5), .unset, .unset, .unset, .unset, .unset, .unset, .unset, .unset] [(.int k2)])
      refine Go.to (fun _ => XS.ifNo X.here hx rfl (hb hby at_138) rfl ((if0 _ _).trans (feq hck).1)) ?_
      show Go p e below _ T (mkF m 141 #[.val (.int p1), .val (.int p2), .val (.int p3), .val (.int p4), .val (.int p5), .val (.int p6), .val (.int zn), .val (.int x0), .val (.int x1), .val (.int x2), .val (.int x3), .val (.int k0), .val (.int k1), .val (.int k2), .val (.int k3), .val (.ref a5), .unset, .unset, .unset, .unset, .unset, .unset, .unset, .unset] [])
      refine Go.to (fun _ => XS.aload X.here hx rfl (hb hby at_141) rfl rfl) ?_
      show Go p e below _ T (mkF m 143 #[.val (.int p1), .val (.int p2), .val (.int p3), .val (.int p4), .val (.int p5), .val (.int p6), .val (.int zn), .val (.int x0), .val (.int x1), .val (.int x2), .val (.int x3), .val (.int k0), .val (.int k1), .val (.int k2), .val (.int k3), .val (.ref a5), .unset, .unset, .unset, .unset, .unset, .unset, .unset, .unset] [(.ref a5)])
      refine Go.to (fun _ => XS.iload X.here hx rfl (hb hby at_143) rfl) ?_
      show Go p e below _ T (mkF m 145 #[.val (.int p1), .val (.int p2), .val (.int p3), .val (.int p4), .val (.int p5), .val (.int p6), .val (.int zn), .val (.int x0), .val (.int x1), .val (.int x2), .val (.int x3), .val (.int k0), .val (.int k1), .val (.int k2), .val (.int k3), .val (.ref a5), .unset, .unset, .unset, .unset, .unset, .unset, .unset, .unset] [(.int x2), (.ref a5)])
      refine Go.callV (y := (⟨"com/example/tracegauge/tracegauge/automata/Partition", "mark", "(I)V"⟩ : MethodName)) X hx hZ hown (hw _ (List.mem_of_getElem? (i := 27) rfl)) (hw _ (List.mem_of_getElem? (i := 28) rfl)) (hw _ (List.mem_of_getElem? (i := 30) rfl)) (hw _ (List.mem_of_getElem? (i := 29) rfl)) (hw _ (List.mem_of_getElem? (i := 3) rfl)) (hw _ (List.mem_of_getElem? (i := 31) rfl)) (by decide) (rm3 l Z a0 hw [] a5 x2 h n0 b0 b1 b2 b3 b4 b5 b6 el2 po2 se2 fi2 en2 ma2 tu2 tc2 sc2 O el3 po3 se3 fi3 en3 ma3 tu3 tc3 sc3 hS2) e' O.exa (by rw [hml]; rfl) (pd_0) rfl (argsL := [(.int x2)]) (rest := []) rfl rfl (hb hby at_145) (by decide) (Nat.le_of_ble_eq_true rfl) (by decide) (by decide) ?_
      rintro T9 _ L9 X9 ⟨rfl, N9, O9⟩
      exact kk _ _ _ X9 rfl (Fr.app N N9) O9.anew
  refine hj2 (fun T h L X e' N O => ?_)
  clear hj2 hS2
  show Go p e below _ T (mkF m 148 #[.val (.int p1), .val (.int p2), .val (.int p3), .val (.int p4), .val (.int p5), .val (.int p6), .val (.int zn), .val (.int x0), .val (.int x1), .val (.int x2), .val (.int x3), .val (.int k0), .val (.int k1), .val (.int k2), .val (.int k3), .val (.ref a5), .unset, .unset, .unset, .unset, .unset, .unset, .unset, .unset] [])
  obtain ⟨⟨el4, po4, se4, fi4, en4, ma4, tu4, tc4, sc4⟩, hS3, hf⟩ := Option.bind_eq_some_iff.mp hf
  dsimp only at hf
  have hj3 : (∀ (T : State) (h : Heap) (L : List Loc), Stand p l e room_1 s m #[.int p1, .int p2, .int p3, .int p4, .int p5, .int p6] below meth c T L 8 37 → T.heap = h → Fr n0 L → Obj Z n0 h h a5 "com/example/tracegauge/tracegauge/automata/Partition" nFp [.ref b0, .ref b1, .ref b2, .ref b3, .ref b4, .ref b5, .ref b6, .int tc4, .int sc4] [b0, b1, b2, b3, b4, b5, b6] [el4, po4, se4, fi4, en4, ma4, tu4] → Go p e below K T (mkF m 160 #[.val (.int p1), .val (.int p2), .val (.int p3), .val (.int p4), .val (.int p5), .val (.int p6), .val (.int zn), .val (.int x0), .val (.int x1), .val (.int x2), .val (.int x3), .val (.int k0), .val (.int k1), .val (.int k2), .val (.int k3), .val (.ref a5), .unset, .unset, .unset, .unset, .unset, .unset, .unset, .unset] [])) → Go p e below K T (mkF m 148 #[.val (.int p1), .val (.int p2), .val (.int p3), .val (.int p4), .val (.int p5), .val (.int p6), .val (.int zn), .val (.int x0), .val (.int x1), .val (.int x2), .val (.int x3), .val (.int k0), .val (.int k1), .val (.int k2), .val (.int k3), .val (.ref a5), .unset, .unset, .unset, .unset, .unset, .unset, .unset, .unset] []) := by
    intro kk
    rw [cmF] at hS3
    by_cases hck : k3 = (0 : Int32)
    · rw [if_pos hck] at hS3
      simp only [Option.some.injEq, Prod.mk.injEq] at hS3
      obtain ⟨rfl, rfl, rfl, rfl, rfl, rfl, rfl, rfl, rfl⟩ := hS3
      refine Go.to (fun _ => XS.iload X.here hx rfl (hb hby at_148) rfl) ?_
      show Go p e below _ T (mkF m 150 #[.val (.int p1), .val (.int p2), .val (.int p3), .val (.int p4), .val (.int p5), .val (.int p6), .val (.int zn), .val (.int x0), .val (.int x1), .val (.int x2), .val (.int x3), .val (.int k0), .val (.int k1), .val (.int k2), .val (.int k3), .val (.ref a5), .unset, .unset, .unset, .unset, .unset, .unset, .unset, .unset] [(.int k3)])
      refine Go.to (fun _ => XS.ifYes X.here hx rfl (pc0 := 150) (pc' := 160) rfl (hb hby at_150) rfl ((if0 _ _).trans (teq hck).1) (by decide) (by decide)) ?_
      show Go p e below _ T (mkF m 160 #[.val (.int p1), .val (.int p2), .val (.int p3), .val (.int p4), .val (.int p5), .val (.int p6), .val (.int zn), .val (.int x0), .val (.int x1), .val (.int x2), .val (.int x3), .val (.int k0), .val (.int k1), .val (.int k2), .val (.int k3), .val (.ref a5), .unset, .unset, .unset, .unset, .unset, .unset, .unset, .unset] [])
      exact kk _ _ _ X e' N O
    · rw [if_neg hck] at hS3
      refine Go.to (fun _ => XS.iload X.here hx rfl (hb hby at_148) rfl) ?_
      show Go p e below _ T (mkF m 150 #[.val (.int p1), .val (.int p2), .val (.int p3), .val (.int p4), .val (.int p5), .val (.int p6), .val (.int zn), .val (.int x0), .val (.int x1), .val (.int x2), .val (.int x3), .val (.int k0), .val (.int k1), .val (.int k2), .val (.int k3), .val (.ref a5), .unset, .unset, .unset, .unset, .unset, .unset, .unset, .unset] [(.int k3)])
      refine Go.to (fun _ => XS.ifNo X.here hx rfl (hb hby at_150) rfl ((if0 _ _).trans (feq hck).1)) ?_
      show Go p e below _ T (mkF m 153 #[.val (.int p1), .val (.int p2), .val (.int p3), .val (.int p4), .val (.int p5), .val (.int p6), .val (.int zn), .val (.int x0), .val (.int x1), .val (.int x2), .val (.int x3), .val (.int k0), .val (.int k1), .val (.int k2), .val (.int k3), .val (.ref a5), .unset, .unset, .unset, .unset, .unset, .unset, .unset, .unset] [])
      refine Go.to (fun _ => XS.aload X.here hx rfl (hb hby at_153) rfl rfl) ?_
      show Go p e below _ T (mkF m 155 #[.val (.int p1), .val (.int p2), .val (.int p3), .val (.int p4), .val (.int p5), .val (.int p6), .val (.int zn), .val (.int x0), .val (.int x1), .val (.int x2), .val (.int x3), .val (.int k0), .val (.int k1), .val (.int k2), .val (.int k3), .val (.ref a5), .unset, .unset, .unset, .unset, .unset, .unset, .unset, .unset] [(.ref a5)])
      refine Go.to (fun _ => XS.iload X.here hx rfl (hb hby at_155) rfl) ?_
      show Go p e below _ T (mkF m 157 #[.val (.int p1), .val (.int p2), .val (.int p3), .val (.int p4), .val (.int p5), .val (.int p6), .val (.int zn), .val (.int x0), .val (.int x1), .val (.int x2), .val (.int x3), .val (.int k0), .val (.int k1), .val (.int k2), .val (.int k3), .val (.ref a5), .unset, .unset, .unset, .unset, .unset, .unset, .unset, .unset] [(.int x3), (.ref a5)])
      refine Go.callV (y := (⟨"com/example/tracegauge/tracegauge/automata/Partition", "mark", "(I)V"⟩ : MethodName)) X hx hZ hown (hw _ (List.mem_of_getElem? (i := 27) rfl)) (hw _ (List.mem_of_getElem? (i := 28) rfl)) (hw _ (List.mem_of_getElem? (i := 30) rfl)) (hw _ (List.mem_of_getElem? (i := 29) rfl)) (hw _ (List.mem_of_getElem? (i := 3) rfl)) (hw _ (List.mem_of_getElem? (i := 31) rfl)) (by decide) (rm3 l Z a0 hw [] a5 x3 h n0 b0 b1 b2 b3 b4 b5 b6 el3 po3 se3 fi3 en3 ma3 tu3 tc3 sc3 O el4 po4 se4 fi4 en4 ma4 tu4 tc4 sc4 hS3) e' O.exa (by rw [hml]; rfl) (pd_0) rfl (argsL := [(.int x3)]) (rest := []) rfl rfl (hb hby at_157) (by decide) (Nat.le_of_ble_eq_true rfl) (by decide) (by decide) ?_
      rintro T10 _ L10 X10 ⟨rfl, N10, O10⟩
      exact kk _ _ _ X10 rfl (Fr.app N N10) O10.anew
  refine hj3 (fun T h L X e' N O => ?_)
  clear hj3 hS3
  show Go p e below _ T (mkF m 160 #[.val (.int p1), .val (.int p2), .val (.int p3), .val (.int p4), .val (.int p5), .val (.int p6), .val (.int zn), .val (.int x0), .val (.int x1), .val (.int x2), .val (.int x3), .val (.int k0), .val (.int k1), .val (.int k2), .val (.int k3), .val (.ref a5), .unset, .unset, .unset, .unset, .unset, .unset, .unset, .unset] [])
  refine Go.to (fun _ => XS.aload X.here hx rfl (hb hby at_160) rfl rfl) ?_
  show Go p e below _ T (mkF m 162 #[.val (.int p1), .val (.int p2), .val (.int p3), .val (.int p4), .val (.int p5), .val (.int p6), .val (.int zn), .val (.int x0), .val (.int x1), .val (.int x2), .val (.int x3), .val (.int k0), .val (.int k1), .val (.int k2), .val (.int k3), .val (.ref a5), .unset, .unset, .unset, .unset, .unset, .unset, .unset, .unset] [(.ref a5)])
  obtain ⟨⟨el5, po5, se5, fi5, en5, ma5, tu5, tc5, sc5⟩, hS5, hf⟩ := Option.bind_eq_some_iff.mp hf
  dsimp only at hf
  refine Go.callV (y := (⟨"com/example/tracegauge/tracegauge/automata/Partition", "split", "()V"⟩ : MethodName)) X hx hZ hown (hw _ (List.mem_of_getElem? (i := 34) rfl)) (hw _ (List.mem_of_getElem? (i := 35) rfl)) (hw _ (List.mem_of_getElem? (i := 37) rfl)) (hw _ (List.mem_of_getElem? (i := 36) rfl)) (hw _ (List.mem_of_getElem? (i := 3) rfl)) (hw _ (List.mem_of_getElem? (i := 38) rfl)) (by decide) (rm4 l Z a0 hw [] a5 h n0 b0 b1 b2 b3 b4 b5 b6 el4 po4 se4 fi4 en4 ma4 tu4 tc4 sc4 O 5 el5 po5 se5 fi5 en5 ma5 tu5 tc5 sc5 hS5) e' O.exa (by rw [hml]; rfl) (pd_1) rfl (argsL := []) (rest := []) rfl rfl (hb hby at_162) (by decide) (Nat.le_of_ble_eq_true rfl) (by decide) (by decide) ?_
  rintro T11 _ L11 X11 ⟨rfl, N11, O11⟩
  have N11 := Fr.app N N11
  have O11 := O11.anew
  show Go p e below _ T11 (mkF m 165 #[.val (.int p1), .val (.int p2), .val (.int p3), .val (.int p4), .val (.int p5), .val (.int p6), .val (.int zn), .val (.int x0), .val (.int x1), .val (.int x2), .val (.int x3), .val (.int k0), .val (.int k1), .val (.int k2), .val (.int k3), .val (.ref a5), .unset, .unset, .unset, .unset, .unset, .unset, .unset, .unset] [])
  refine Go.to (fun _ => XS.iconst X11.here hx rfl (hb hby at_165)) ?_
  show Go p e below _ T11 (mkF m 166 #[.val (.int p1), .val (.int p2), .val (.int p3), .val (.int p4), .val (.int p5), .val (.int p6), .val (.int zn), .val (.int x0), .val (.int x1), .val (.int x2), .val (.int x3), .val (.int k0), .val (.int k1), .val (.int k2), .val (.int k3), .val (.ref a5), .unset, .unset, .unset, .unset, .unset, .unset, .unset, .unset] [(.int (0 : Int32))])
  refine Go.to (fun _ => XS.iload X11.here hx rfl (hb hby at_166) rfl) ?_
  show Go p e below _ T11 (mkF m 168 #[.val (.int p1), .val (.int p2), .val (.int p3), .val (.int p4), .val (.int p5), .val (.int p6), .val (.int zn), .val (.int x0), .val (.int x1), .val (.int x2), .val (.int x3), .val (.int k0), .val (.int k1), .val (.int k2), .val (.int k3), .val (.ref a5), .unset, .unset, .unset, .unset, .unset, .unset, .unset, .unset] [(.int x0), (.int (0 : Int32))])
  refine Go.to (fun _ => XS.iload X11.here hx rfl (hb hby at_168) rfl) ?_
  show Go p e below _ T11 (mkF m 170 #[.val (.int p1), .val (.int p2), .val (.int p3), .val (.int p4), .val (.int p5), .val (.int p6), .val (.int zn), .val (.int x0), .val (.int x1), .val (.int x2), .val (.int x3), .val (.int k0), .val (.int k1), .val (.int k2), .val (.int k3), .val (.ref a5), .unset, .unset, .unset, .unset, .unset, .unset, .unset, .unset] [(.int k0), (.int x0), (.int (0 : Int32))])
  refine Go.to (fun _ => XS.iload X11.here hx rfl (hb hby at_170) rfl) ?_
  show Go p e below _ T11 (mkF m 172 #[.val (.int p1), .val (.int p2), .val (.int p3), .val (.int p4), .val (.int p5), .val (.int p6), .val (.int zn), .val (.int x0), .val (.int x1), .val (.int x2), .val (.int x3), .val (.int k0), .val (.int k1), .val (.int k2), .val (.int k3), .val (.ref a5), .unset, .unset, .unset, .unset, .unset, .unset, .unset, .unset] [(.int x1), (.int k0), (.int x0), (.int (0 : Int32))])
  refine Go.to (fun _ => XS.iload X11.here hx rfl (hb hby at_172) rfl) ?_
  show Go p e below _ T11 (mkF m 174 #[.val (.int p1), .val (.int p2), .val (.int p3), .val (.int p4), .val (.int p5), .val (.int p6), .val (.int zn), .val (.int x0), .val (.int x1), .val (.int x2), .val (.int x3), .val (.int k0), .val (.int k1), .val (.int k2), .val (.int k3), .val (.ref a5), .unset, .unset, .unset, .unset, .unset, .unset, .unset, .unset] [(.int k1), (.int x1), (.int k0), (.int x0), (.int (0 : Int32))])
  refine Go.to (fun _ => XS.iload X11.here hx rfl (hb hby at_174) rfl) ?_
  show Go p e below _ T11 (mkF m 176 #[.val (.int p1), .val (.int p2), .val (.int p3), .val (.int p4), .val (.int p5), .val (.int p6), .val (.int zn), .val (.int x0), .val (.int x1), .val (.int x2), .val (.int x3), .val (.int k0), .val (.int k1), .val (.int k2), .val (.int k3), .val (.ref a5), .unset, .unset, .unset, .unset, .unset, .unset, .unset, .unset] [(.int x2), (.int k1), (.int x1), (.int k0), (.int x0), (.int (0 : Int32))])
  refine Go.to (fun _ => XS.iload X11.here hx rfl (hb hby at_176) rfl) ?_
  show Go p e below _ T11 (mkF m 178 #[.val (.int p1), .val (.int p2), .val (.int p3), .val (.int p4), .val (.int p5), .val (.int p6), .val (.int zn), .val (.int x0), .val (.int x1), .val (.int x2), .val (.int x3), .val (.int k0), .val (.int k1), .val (.int k2), .val (.int k3), .val (.ref a5), .unset, .unset, .unset, .unset, .unset, .unset, .unset, .unset] [(.int k2), (.int x2), (.int k1), (.int x1), (.int k0), (.int x0), (.int (0 : Int32))])
  refine Go.to (fun _ => XS.iload X11.here hx rfl (hb hby at_178) rfl) ?_
  show Go p e below _ T11 (mkF m 180 #[.val (.int p1), .val (.int p2), .val (.int p3), .val (.int p4), .val (.int p5), .val (.int p6), .val (.int zn), .val (.int x0), .val (.int x1), .val (.int x2), .val (.int x3), .val (.int k0), .val (.int k1), .val (.int k2), .val (.int k3), .val (.ref a5), .unset, .unset, .unset, .unset, .unset, .unset, .unset, .unset] [(.int x3), (.int k2), (.int x2), (.int k1), (.int x1), (.int k0), (.int x0), (.int (0 : Int32))])
  refine Go.to (fun _ => XS.iload X11.here hx rfl (hb hby at_180) rfl) ?_
  show Go p e below _ T11 (mkF m 182 #[.val (.int p1), .val (.int p2), .val (.int p3), .val (.int p4), .val (.int p5), .val (.int p6), .val (.int zn), .val (.int x0), .val (.int x1), .val (.int x2), .val (.int x3), .val (.int k0), .val (.int k1), .val (.int k2), .val (.int k3), .val (.ref a5), .unset, .unset, .unset, .unset, .unset, .unset, .unset, .unset] [(.int k3), (.int x3), (.int k2), (.int x2), (.int k1), (.int x1), (.int k0), (.int x0), (.int (0 : Int32))])
  refine Go.callS (y := (⟨"com/example/tracegauge/tracegauge/automata/PartitionMarkPinLaw", "hit", "(IIZIZIZIZ)Z"⟩ : MethodName)) X11 hx hZ hown (hw _ (List.mem_of_getElem? (i := 39) rfl)) (hw _ (List.mem_of_getElem? (i := 40) rfl)) (hw _ (List.mem_of_getElem? (i := 41) rfl)) (hw _ (List.mem_of_getElem? (i := 42) rfl)) (by decide) (rm5 l Z a0 hw [] (0 : Int32) x0 k0 x1 k1 x2 k2 x3 k3 T11.heap) rfl (by rw [hml]; rfl) (pd_4) rfl (argsL := [(.int (0 : Int32)), (.int x0), (.int k0), (.int x1), (.int k1), (.int x2), (.int k2), (.int x3), (.int k3)]) (rest := []) rfl rfl (hb hby at_182) (by decide) (Nat.le_of_ble_eq_true rfl) (by decide) (by decide) ?_
  rintro T12 _ L12 X12 ⟨rfl, e12, rfl⟩
  simp only [List.append_nil] at X12
  show Go p e below _ T12 (mkF m 185 #[.val (.int p1), .val (.int p2), .val (.int p3), .val (.int p4), .val (.int p5), .val (.int p6), .val (.int zn), .val (.int x0), .val (.int x1), .val (.int x2), .val (.int x3), .val (.int k0), .val (.int k1), .val (.int k2), .val (.int k3), .val (.ref a5), .unset, .unset, .unset, .unset, .unset, .unset, .unset, .unset] [(.int (fH (0 : Int32) x0 k0 x1 k1 x2 k2 x3 k3))])
  obtain ⟨q0, hq0⟩ : ∃ z : Int32, z = (fH (0 : Int32) x0 k0 x1 k1 x2 k2 x3 k3) := ⟨_, rfl⟩
  rw [← hq0]
  show Go p e below _ T12 (mkF m 185 #[.val (.int p1), .val (.int p2), .val (.int p3), .val (.int p4), .val (.int p5), .val (.int p6), .val (.int zn), .val (.int x0), .val (.int x1), .val (.int x2), .val (.int x3), .val (.int k0), .val (.int k1), .val (.int k2), .val (.int k3), .val (.ref a5), .unset, .unset, .unset, .unset, .unset, .unset, .unset, .unset] [(.int q0)])
  obtain ⟨y1, hy1, hf⟩ := Option.bind_eq_some_iff.mp hf
  rw [(Option.some.inj hy1).symm.trans hq0.symm] at hf
  refine Go.to (fun _ => XS.istore X12.here hx rfl (hb hby at_185) rfl (l' := #[.val (.int p1), .val (.int p2), .val (.int p3), .val (.int p4), .val (.int p5), .val (.int p6), .val (.int zn), .val (.int x0), .val (.int x1), .val (.int x2), .val (.int x3), .val (.int k0), .val (.int k1), .val (.int k2), .val (.int k3), .val (.ref a5), .val (.int q0), .unset, .unset, .unset, .unset, .unset, .unset, .unset]) rfl) ?_
  show Go p e below _ T12 (mkF m 187 #[.val (.int p1), .val (.int p2), .val (.int p3), .val (.int p4), .val (.int p5), .val (.int p6), .val (.int zn), .val (.int x0), .val (.int x1), .val (.int x2), .val (.int x3), .val (.int k0), .val (.int k1), .val (.int k2), .val (.int k3), .val (.ref a5), .val (.int q0), .unset, .unset, .unset, .unset, .unset, .unset, .unset] [])
  refine Go.to (fun _ => XS.iconst X12.here hx rfl (hb hby at_187)) ?_
  show Go p e below _ T12 (mkF m 188 #[.val (.int p1), .val (.int p2), .val (.int p3), .val (.int p4), .val (.int p5), .val (.int p6), .val (.int zn), .val (.int x0), .val (.int x1), .val (.int x2), .val (.int x3), .val (.int k0), .val (.int k1), .val (.int k2), .val (.int k3), .val (.ref a5), .val (.int q0), .unset, .unset, .unset, .unset, .unset, .unset, .unset] [(.int (1 : Int32))])
  refine Go.to (fun _ => XS.iload X12.here hx rfl (hb hby at_188) rfl) ?_
  show Go p e below _ T12 (mkF m 190 #[.val (.int p1), .val (.int p2), .val (.int p3), .val (.int p4), .val (.int p5), .val (.int p6), .val (.int zn), .val (.int x0), .val (.int x1), .val (.int x2), .val (.int x3), .val (.int k0), .val (.int k1), .val (.int k2), .val (.int k3), .val (.ref a5), .val (.int q0), .unset, .unset, .unset, .unset, .unset, .unset, .unset] [(.int x0), (.int (1 : Int32))])
  refine Go.to (fun _ => XS.iload X12.here hx rfl (hb hby at_190) rfl) ?_
  show Go p e below _ T12 (mkF m 192 #[.val (.int p1), .val (.int p2), .val (.int p3), .val (.int p4), .val (.int p5), .val (.int p6), .val (.int zn), .val (.int x0), .val (.int x1), .val (.int x2), .val (.int x3), .val (.int k0), .val (.int k1), .val (.int k2), .val (.int k3), .val (.ref a5), .val (.int q0), .unset, .unset, .unset, .unset, .unset, .unset, .unset] [(.int k0), (.int x0), (.int (1 : Int32))])
  refine Go.to (fun _ => XS.iload X12.here hx rfl (hb hby at_192) rfl) ?_
  show Go p e below _ T12 (mkF m 194 #[.val (.int p1), .val (.int p2), .val (.int p3), .val (.int p4), .val (.int p5), .val (.int p6), .val (.int zn), .val (.int x0), .val (.int x1), .val (.int x2), .val (.int x3), .val (.int k0), .val (.int k1), .val (.int k2), .val (.int k3), .val (.ref a5), .val (.int q0), .unset, .unset, .unset, .unset, .unset, .unset, .unset] [(.int x1), (.int k0), (.int x0), (.int (1 : Int32))])
  refine Go.to (fun _ => XS.iload X12.here hx rfl (hb hby at_194) rfl) ?_
  show Go p e below _ T12 (mkF m 196 #[.val (.int p1), .val (.int p2), .val (.int p3), .val (.int p4), .val (.int p5), .val (.int p6), .val (.int zn), .val (.int x0), .val (.int x1), .val (.int x2), .val (.int x3), .val (.int k0), .val (.int k1), .val (.int k2), .val (.int k3), .val (.ref a5), .val (.int q0), .unset, .unset, .unset, .unset, .unset, .unset, .unset] [(.int k1), (.int x1), (.int k0), (.int x0), (.int (1 : Int32))])
  refine Go.to (fun _ => XS.iload X12.here hx rfl (hb hby at_196) rfl) ?_
  show Go p e below _ T12 (mkF m 198 #[.val (.int p1), .val (.int p2), .val (.int p3), .val (.int p4), .val (.int p5), .val (.int p6), .val (.int zn), .val (.int x0), .val (.int x1), .val (.int x2), .val (.int x3), .val (.int k0), .val (.int k1), .val (.int k2), .val (.int k3), .val (.ref a5), .val (.int q0), .unset, .unset, .unset, .unset, .unset, .unset, .unset] [(.int x2), (.int k1), (.int x1), (.int k0), (.int x0), (.int (1 : Int32))])
  refine Go.to (fun _ => XS.iload X12.here hx rfl (hb hby at_198) rfl) ?_
  show Go p e below _ T12 (mkF m 200 #[.val (.int p1), .val (.int p2), .val (.int p3), .val (.int p4), .val (.int p5), .val (.int p6), .val (.int zn), .val (.int x0), .val (.int x1), .val (.int x2), .val (.int x3), .val (.int k0), .val (.int k1), .val (.int k2), .val (.int k3), .val (.ref a5), .val (.int q0), .unset, .unset, .unset, .unset, .unset, .unset, .unset] [(.int k2), (.int x2), (.int k1), (.int x1), (.int k0), (.int x0), (.int (1 : Int32))])
  refine Go.to (fun _ => XS.iload X12.here hx rfl (hb hby at_200) rfl) ?_
  show Go p e below _ T12 (mkF m 202 #[.val (.int p1), .val (.int p2), .val (.int p3), .val (.int p4), .val (.int p5), .val (.int p6), .val (.int zn), .val (.int x0), .val (.int x1), .val (.int x2), .val (.int x3), .val (.int k0), .val (.int k1), .val (.int k2), .val (.int k3), .val (.ref a5), .val (.int q0), .unset, .unset, .unset, .unset, .unset, .unset, .unset] [(.int x3), (.int k2), (.int x2), (.int k1), (.int x1), (.int k0), (.int x0), (.int (1 : Int32))])
  refine Go.to (fun _ => XS.iload X12.here hx rfl (hb hby at_202) rfl) ?_
  show Go p e below _ T12 (mkF m 204 #[.val (.int p1), .val (.int p2), .val (.int p3), .val (.int p4), .val (.int p5), .val (.int p6), .val (.int zn), .val (.int x0), .val (.int x1), .val (.int x2), .val (.int x3), .val (.int k0), .val (.int k1), .val (.int k2), .val (.int k3), .val (.ref a5), .val (.int q0), .unset, .unset, .unset, .unset, .unset, .unset, .unset] [(.int k3), (.int x3), (.int k2), (.int x2), (.int k1), (.int x1), (.int k0), (.int x0), (.int (1 : Int32))])
  refine Go.callS (y := (⟨"com/example/tracegauge/tracegauge/automata/PartitionMarkPinLaw", "hit", "(IIZIZIZIZ)Z"⟩ : MethodName)) X12 hx hZ hown (hw _ (List.mem_of_getElem? (i := 39) rfl)) (hw _ (List.mem_of_getElem? (i := 40) rfl)) (hw _ (List.mem_of_getElem? (i := 41) rfl)) (hw _ (List.mem_of_getElem? (i := 42) rfl)) (by decide) (rm5 l Z a0 hw [] (1 : Int32) x0 k0 x1 k1 x2 k2 x3 k3 T11.heap) e12 (by rw [hml]; rfl) (pd_4) rfl (argsL := [(.int (1 : Int32)), (.int x0), (.int k0), (.int x1), (.int k1), (.int x2), (.int k2), (.int x3), (.int k3)]) (rest := []) rfl rfl (hb hby at_204) (by decide) (Nat.le_of_ble_eq_true rfl) (by decide) (by decide) ?_
  rintro T13 _ L13 X13 ⟨rfl, e13, rfl⟩
  simp only [List.append_nil] at X13
  show Go p e below _ T13 (mkF m 207 #[.val (.int p1), .val (.int p2), .val (.int p3), .val (.int p4), .val (.int p5), .val (.int p6), .val (.int zn), .val (.int x0), .val (.int x1), .val (.int x2), .val (.int x3), .val (.int k0), .val (.int k1), .val (.int k2), .val (.int k3), .val (.ref a5), .val (.int q0), .unset, .unset, .unset, .unset, .unset, .unset, .unset] [(.int (fH (1 : Int32) x0 k0 x1 k1 x2 k2 x3 k3))])
  obtain ⟨q1, hq1⟩ : ∃ z : Int32, z = (fH (1 : Int32) x0 k0 x1 k1 x2 k2 x3 k3) := ⟨_, rfl⟩
  rw [← hq1]
  show Go p e below _ T13 (mkF m 207 #[.val (.int p1), .val (.int p2), .val (.int p3), .val (.int p4), .val (.int p5), .val (.int p6), .val (.int zn), .val (.int x0), .val (.int x1), .val (.int x2), .val (.int x3), .val (.int k0), .val (.int k1), .val (.int k2), .val (.int k3), .val (.ref a5), .val (.int q0), .unset, .unset, .unset, .unset, .unset, .unset, .unset] [(.int q1)])
  obtain ⟨y2, hy2, hf⟩ := Option.bind_eq_some_iff.mp hf
  rw [(Option.some.inj hy2).symm.trans hq1.symm] at hf
  refine Go.to (fun _ => XS.istore X13.here hx rfl (hb hby at_207) rfl (l' := #[.val (.int p1), .val (.int p2), .val (.int p3), .val (.int p4), .val (.int p5), .val (.int p6), .val (.int zn), .val (.int x0), .val (.int x1), .val (.int x2), .val (.int x3), .val (.int k0), .val (.int k1), .val (.int k2), .val (.int k3), .val (.ref a5), .val (.int q0), .val (.int q1), .unset, .unset, .unset, .unset, .unset, .unset]) rfl) ?_
  show Go p e below _ T13 (mkF m 209 #[.val (.int p1), .val (.int p2), .val (.int p3), .val (.int p4), .val (.int p5), .val (.int p6), .val (.int zn), .val (.int x0), .val (.int x1), .val (.int x2), .val (.int x3), .val (.int k0), .val (.int k1), .val (.int k2), .val (.int k3), .val (.ref a5), .val (.int q0), .val (.int q1), .unset, .unset, .unset, .unset, .unset, .unset] [])
  refine Go.to (fun _ => XS.iconst X13.here hx rfl (hb hby at_209)) ?_
  show Go p e below _ T13 (mkF m 210 #[.val (.int p1), .val (.int p2), .val (.int p3), .val (.int p4), .val (.int p5), .val (.int p6), .val (.int zn), .val (.int x0), .val (.int x1), .val (.int x2), .val (.int x3), .val (.int k0), .val (.int k1), .val (.int k2), .val (.int k3), .val (.ref a5), .val (.int q0), .val (.int q1), .unset, .unset, .unset, .unset, .unset, .unset] [(.int (2 : Int32))])
  refine Go.to (fun _ => XS.iload X13.here hx rfl (hb hby at_210) rfl) ?_
  show Go p e below _ T13 (mkF m 212 #[.val (.int p1), .val (.int p2), .val (.int p3), .val (.int p4), .val (.int p5), .val (.int p6), .val (.int zn), .val (.int x0), .val (.int x1), .val (.int x2), .val (.int x3), .val (.int k0), .val (.int k1), .val (.int k2), .val (.int k3), .val (.ref a5), .val (.int q0), .val (.int q1), .unset, .unset, .unset, .unset, .unset, .unset] [(.int x0), (.int (2 : Int32))])
  refine Go.to (fun _ => XS.iload X13.here hx rfl (hb hby at_212) rfl) ?_
  show Go p e below _ T13 (mkF m 214 #[.val (.int p1), .val (.int p2), .val (.int p3), .val (.int p4), .val (.int p5), .val (.int p6), .val (.int zn), .val (.int x0), .val (.int x1), .val (.int x2), .val (.int x3), .val (.int k0), .val (.int k1), .val (.int k2), .val (.int k3), .val (.ref a5), .val (.int q0), .val (.int q1), .unset, .unset, .unset, .unset, .unset, .unset] [(.int k0), (.int x0), (.int (2 : Int32))])
  refine Go.to (fun _ => XS.iload X13.here hx rfl (hb hby at_214) rfl) ?_
  show Go p e below _ T13 (mkF m 216 #[.val (.int p1), .val (.int p2), .val (.int p3), .val (.int p4), .val (.int p5), .val (.int p6), .val (.int zn), .val (.int x0), .val (.int x1), .val (.int x2), .val (.int x3), .val (.int k0), .val (.int k1), .val (.int k2), .val (.int k3), .val (.ref a5), .val (.int q0), .val (.int q1), .unset, .unset, .unset, .unset, .unset, .unset] [(.int x1), (.int k0), (.int x0), (.int (2 : Int32))])
  refine Go.to (fun _ => XS.iload X13.here hx rfl (hb hby at_216) rfl) ?_
  show Go p e below _ T13 (mkF m 218 #[.val (.int p1), .val (.int p2), .val (.int p3), .val (.int p4), .val (.int p5), .val (.int p6), .val (.int zn), .val (.int x0), .val (.int x1), .val (.int x2), .val (.int x3), .val (.int k0), .val (.int k1), .val (.int k2), .val (.int k3), .val (.ref a5), .val (.int q0), .val (.int q1), .unset, .unset, .unset, .unset, .unset, .unset] [(.int k1), (.int x1), (.int k0), (.int x0), (.int (2 : Int32))])
  refine Go.to (fun _ => XS.iload X13.here hx rfl (hb hby at_218) rfl) ?_
  show Go p e below _ T13 (mkF m 220 #[.val (.int p1), .val (.int p2), .val (.int p3), .val (.int p4), .val (.int p5), .val (.int p6), .val (.int zn), .val (.int x0), .val (.int x1), .val (.int x2), .val (.int x3), .val (.int k0), .val (.int k1), .val (.int k2), .val (.int k3), .val (.ref a5), .val (.int q0), .val (.int q1), .unset, .unset, .unset, .unset, .unset, .unset] [(.int x2), (.int k1), (.int x1), (.int k0), (.int x0), (.int (2 : Int32))])
  refine Go.to (fun _ => XS.iload X13.here hx rfl (hb hby at_220) rfl) ?_
  show Go p e below _ T13 (mkF m 222 #[.val (.int p1), .val (.int p2), .val (.int p3), .val (.int p4), .val (.int p5), .val (.int p6), .val (.int zn), .val (.int x0), .val (.int x1), .val (.int x2), .val (.int x3), .val (.int k0), .val (.int k1), .val (.int k2), .val (.int k3), .val (.ref a5), .val (.int q0), .val (.int q1), .unset, .unset, .unset, .unset, .unset, .unset] [(.int k2), (.int x2), (.int k1), (.int x1), (.int k0), (.int x0), (.int (2 : Int32))])
  refine Go.to (fun _ => XS.iload X13.here hx rfl (hb hby at_222) rfl) ?_
  show Go p e below _ T13 (mkF m 224 #[.val (.int p1), .val (.int p2), .val (.int p3), .val (.int p4), .val (.int p5), .val (.int p6), .val (.int zn), .val (.int x0), .val (.int x1), .val (.int x2), .val (.int x3), .val (.int k0), .val (.int k1), .val (.int k2), .val (.int k3), .val (.ref a5), .val (.int q0), .val (.int q1), .unset, .unset, .unset, .unset, .unset, .unset] [(.int x3), (.int k2), (.int x2), (.int k1), (.int x1), (.int k0), (.int x0), (.int (2 : Int32))])
  refine Go.to (fun _ => XS.iload X13.here hx rfl (hb hby at_224) rfl) ?_
  show Go p e below _ T13 (mkF m 226 #[.val (.int p1), .val (.int p2), .val (.int p3), .val (.int p4), .val (.int p5), .val (.int p6), .val (.int zn), .val (.int x0), .val (.int x1), .val (.int x2), .val (.int x3), .val (.int k0), .val (.int k1), .val (.int k2), .val (.int k3), .val (.ref a5), .val (.int q0), .val (.int q1), .unset, .unset, .unset, .unset, .unset, .unset] [(.int k3), (.int x3), (.int k2), (.int x2), (.int k1), (.int x1), (.int k0), (.int x0), (.int (2 : Int32))])
  refine Go.callS (y := (⟨"com/example/tracegauge/tracegauge/automata/PartitionMarkPinLaw", "hit", "(IIZIZIZIZ)Z"⟩ : MethodName)) X13 hx hZ hown (hw _ (List.mem_of_getElem? (i := 39) rfl)) (hw _ (List.mem_of_getElem? (i := 40) rfl)) (hw _ (List.mem_of_getElem? (i := 41) rfl)) (hw _ (List.mem_of_getElem? (i := 42) rfl)) (by decide) (rm5 l Z a0 hw [] (2 : Int32) x0 k0 x1 k1 x2 k2 x3 k3 T11.heap) e13 (by rw [hml]; rfl) (pd_4) rfl (argsL := [(.int (2 : Int32)), (.int x0), (.int k0), (.int x1), (.int k1), (.int x2), (.int k2), (.int x3), (.int k3)]) (rest := []) rfl rfl (hb hby at_226) (by decide) (Nat.le_of_ble_eq_true rfl) (by decide) (by decide) ?_
  rintro T14 _ L14 X14 ⟨rfl, e14, rfl⟩
  simp only [List.append_nil] at X14
  show Go p e below _ T14 (mkF m 229 #[.val (.int p1), .val (.int p2), .val (.int p3), .val (.int p4), .val (.int p5), .val (.int p6), .val (.int zn), .val (.int x0), .val (.int x1), .val (.int x2), .val (.int x3), .val (.int k0), .val (.int k1), .val (.int k2), .val (.int k3), .val (.ref a5), .val (.int q0), .val (.int q1), .unset, .unset, .unset, .unset, .unset, .unset] [(.int (fH (2 : Int32) x0 k0 x1 k1 x2 k2 x3 k3))])
  obtain ⟨q2, hq2⟩ : ∃ z : Int32, z = (fH (2 : Int32) x0 k0 x1 k1 x2 k2 x3 k3) := ⟨_, rfl⟩
  rw [← hq2]
  show Go p e below _ T14 (mkF m 229 #[.val (.int p1), .val (.int p2), .val (.int p3), .val (.int p4), .val (.int p5), .val (.int p6), .val (.int zn), .val (.int x0), .val (.int x1), .val (.int x2), .val (.int x3), .val (.int k0), .val (.int k1), .val (.int k2), .val (.int k3), .val (.ref a5), .val (.int q0), .val (.int q1), .unset, .unset, .unset, .unset, .unset, .unset] [(.int q2)])
  obtain ⟨y3, hy3, hf⟩ := Option.bind_eq_some_iff.mp hf
  rw [(Option.some.inj hy3).symm.trans hq2.symm] at hf
  refine Go.to (fun _ => XS.istore X14.here hx rfl (hb hby at_229) rfl (l' := #[.val (.int p1), .val (.int p2), .val (.int p3), .val (.int p4), .val (.int p5), .val (.int p6), .val (.int zn), .val (.int x0), .val (.int x1), .val (.int x2), .val (.int x3), .val (.int k0), .val (.int k1), .val (.int k2), .val (.int k3), .val (.ref a5), .val (.int q0), .val (.int q1), .val (.int q2), .unset, .unset, .unset, .unset, .unset]) rfl) ?_
  show Go p e below _ T14 (mkF m 231 #[.val (.int p1), .val (.int p2), .val (.int p3), .val (.int p4), .val (.int p5), .val (.int p6), .val (.int zn), .val (.int x0), .val (.int x1), .val (.int x2), .val (.int x3), .val (.int k0), .val (.int k1), .val (.int k2), .val (.int k3), .val (.ref a5), .val (.int q0), .val (.int q1), .val (.int q2), .unset, .unset, .unset, .unset, .unset] [])
  refine Go.to (fun _ => XS.iconst X14.here hx rfl (hb hby at_231)) ?_
  show Go p e below _ T14 (mkF m 232 #[.val (.int p1), .val (.int p2), .val (.int p3), .val (.int p4), .val (.int p5), .val (.int p6), .val (.int zn), .val (.int x0), .val (.int x1), .val (.int x2), .val (.int x3), .val (.int k0), .val (.int k1), .val (.int k2), .val (.int k3), .val (.ref a5), .val (.int q0), .val (.int q1), .val (.int q2), .unset, .unset, .unset, .unset, .unset] [(.int (3 : Int32))])
  refine Go.to (fun _ => XS.iload X14.here hx rfl (hb hby at_232) rfl) ?_
  show Go p e below _ T14 (mkF m 234 #[.val (.int p1), .val (.int p2), .val (.int p3), .val (.int p4), .val (.int p5), .val (.int p6), .val (.int zn), .val (.int x0), .val (.int x1), .val (.int x2), .val (.int x3), .val (.int k0), .val (.int k1), .val (.int k2), .val (.int k3), .val (.ref a5), .val (.int q0), .val (.int q1), .val (.int q2), .unset, .unset, .unset, .unset, .unset] [(.int x0), (.int (3 : Int32))])
  refine Go.to (fun _ => XS.iload X14.here hx rfl (hb hby at_234) rfl) ?_
  show Go p e below _ T14 (mkF m 236 #[.val (.int p1), .val (.int p2), .val (.int p3), .val (.int p4), .val (.int p5), .val (.int p6), .val (.int zn), .val (.int x0), .val (.int x1), .val (.int x2), .val (.int x3), .val (.int k0), .val (.int k1), .val (.int k2), .val (.int k3), .val (.ref a5), .val (.int q0), .val (.int q1), .val (.int q2), .unset, .unset, .unset, .unset, .unset] [(.int k0), (.int x0), (.int (3 : Int32))])
  refine Go.to (fun _ => XS.iload X14.here hx rfl (hb hby at_236) rfl) ?_
  show Go p e below _ T14 (mkF m 238 #[.val (.int p1), .val (.int p2), .val (.int p3), .val (.int p4), .val (.int p5), .val (.int p6), .val (.int zn), .val (.int x0), .val (.int x1), .val (.int x2), .val (.int x3), .val (.int k0), .val (.int k1), .val (.int k2), .val (.int k3), .val (.ref a5), .val (.int q0), .val (.int q1), .val (.int q2), .unset, .unset, .unset, .unset, .unset] [(.int x1), (.int k0), (.int x0), (.int (3 : Int32))])
  refine Go.to (fun _ => XS.iload X14.here hx rfl (hb hby at_238) rfl) ?_
  show Go p e below _ T14 (mkF m 240 #[.val (.int p1), .val (.int p2), .val (.int p3), .val (.int p4), .val (.int p5), .val (.int p6), .val (.int zn), .val (.int x0), .val (.int x1), .val (.int x2), .val (.int x3), .val (.int k0), .val (.int k1), .val (.int k2), .val (.int k3), .val (.ref a5), .val (.int q0), .val (.int q1), .val (.int q2), .unset, .unset, .unset, .unset, .unset] [(.int k1), (.int x1), (.int k0), (.int x0), (.int (3 : Int32))])
  refine Go.to (fun _ => XS.iload X14.here hx rfl (hb hby at_240) rfl) ?_
  show Go p e below _ T14 (mkF m 242 #[.val (.int p1), .val (.int p2), .val (.int p3), .val (.int p4), .val (.int p5), .val (.int p6), .val (.int zn), .val (.int x0), .val (.int x1), .val (.int x2), .val (.int x3), .val (.int k0), .val (.int k1), .val (.int k2), .val (.int k3), .val (.ref a5), .val (.int q0), .val (.int q1), .val (.int q2), .unset, .unset, .unset, .unset, .unset] [(.int x2), (.int k1), (.int x1), (.int k0), (.int x0), (.int (3 : Int32))])
  refine Go.to (fun _ => XS.iload X14.here hx rfl (hb hby at_242) rfl) ?_
  show Go p e below _ T14 (mkF m 244 #[.val (.int p1), .val (.int p2), .val (.int p3), .val (.int p4), .val (.int p5), .val (.int p6), .val (.int zn), .val (.int x0), .val (.int x1), .val (.int x2), .val (.int x3), .val (.int k0), .val (.int k1), .val (.int k2), .val (.int k3), .val (.ref a5), .val (.int q0), .val (.int q1), .val (.int q2), .unset, .unset, .unset, .unset, .unset] [(.int k2), (.int x2), (.int k1), (.int x1), (.int k0), (.int x0), (.int (3 : Int32))])
  refine Go.to (fun _ => XS.iload X14.here hx rfl (hb hby at_244) rfl) ?_
  show Go p e below _ T14 (mkF m 246 #[.val (.int p1), .val (.int p2), .val (.int p3), .val (.int p4), .val (.int p5), .val (.int p6), .val (.int zn), .val (.int x0), .val (.int x1), .val (.int x2), .val (.int x3), .val (.int k0), .val (.int k1), .val (.int k2), .val (.int k3), .val (.ref a5), .val (.int q0), .val (.int q1), .val (.int q2), .unset, .unset, .unset, .unset, .unset] [(.int x3), (.int k2), (.int x2), (.int k1), (.int x1), (.int k0), (.int x0), (.int (3 : Int32))])
  refine Go.to (fun _ => XS.iload X14.here hx rfl (hb hby at_246) rfl) ?_
  show Go p e below _ T14 (mkF m 248 #[.val (.int p1), .val (.int p2), .val (.int p3), .val (.int p4), .val (.int p5), .val (.int p6), .val (.int zn), .val (.int x0), .val (.int x1), .val (.int x2), .val (.int x3), .val (.int k0), .val (.int k1), .val (.int k2), .val (.int k3), .val (.ref a5), .val (.int q0), .val (.int q1), .val (.int q2), .unset, .unset, .unset, .unset, .unset] [(.int k3), (.int x3), (.int k2), (.int x2), (.int k1), (.int x1), (.int k0), (.int x0), (.int (3 : Int32))])
  refine Go.callS (y := (⟨"com/example/tracegauge/tracegauge/automata/PartitionMarkPinLaw", "hit", "(IIZIZIZIZ)Z"⟩ : MethodName)) X14 hx hZ hown (hw _ (List.mem_of_getElem? (i := 39) rfl)) (hw _ (List.mem_of_getElem? (i := 40) rfl)) (hw _ (List.mem_of_getElem? (i := 41) rfl)) (hw _ (List.mem_of_getElem? (i := 42) rfl)) (by decide) (rm5 l Z a0 hw [] (3 : Int32) x0 k0 x1 k1 x2 k2 x3 k3 T11.heap) e14 (by rw [hml]; rfl) (pd_4) rfl (argsL := [(.int (3 : Int32)), (.int x0), (.int k0), (.int x1), (.int k1), (.int x2), (.int k2), (.int x3), (.int k3)]) (rest := []) rfl rfl (hb hby at_248) (by decide) (Nat.le_of_ble_eq_true rfl) (by decide) (by decide) ?_
  rintro T15 _ L15 X15 ⟨rfl, e15, rfl⟩
  simp only [List.append_nil] at X15
  show Go p e below _ T15 (mkF m 251 #[.val (.int p1), .val (.int p2), .val (.int p3), .val (.int p4), .val (.int p5), .val (.int p6), .val (.int zn), .val (.int x0), .val (.int x1), .val (.int x2), .val (.int x3), .val (.int k0), .val (.int k1), .val (.int k2), .val (.int k3), .val (.ref a5), .val (.int q0), .val (.int q1), .val (.int q2), .unset, .unset, .unset, .unset, .unset] [(.int (fH (3 : Int32) x0 k0 x1 k1 x2 k2 x3 k3))])
  obtain ⟨q3, hq3⟩ : ∃ z : Int32, z = (fH (3 : Int32) x0 k0 x1 k1 x2 k2 x3 k3) := ⟨_, rfl⟩
  rw [← hq3]
  show Go p e below _ T15 (mkF m 251 #[.val (.int p1), .val (.int p2), .val (.int p3), .val (.int p4), .val (.int p5), .val (.int p6), .val (.int zn), .val (.int x0), .val (.int x1), .val (.int x2), .val (.int x3), .val (.int k0), .val (.int k1), .val (.int k2), .val (.int k3), .val (.ref a5), .val (.int q0), .val (.int q1), .val (.int q2), .unset, .unset, .unset, .unset, .unset] [(.int q3)])
  obtain ⟨y4, hy4, hf⟩ := Option.bind_eq_some_iff.mp hf
  rw [(Option.some.inj hy4).symm.trans hq3.symm] at hf
  refine Go.to (fun _ => XS.istore X15.here hx rfl (hb hby at_251) rfl (l' := #[.val (.int p1), .val (.int p2), .val (.int p3), .val (.int p4), .val (.int p5), .val (.int p6), .val (.int zn), .val (.int x0), .val (.int x1), .val (.int x2), .val (.int x3), .val (.int k0), .val (.int k1), .val (.int k2), .val (.int k3), .val (.ref a5), .val (.int q0), .val (.int q1), .val (.int q2), .val (.int q3), .unset, .unset, .unset, .unset]) rfl) ?_
  show Go p e below _ T15 (mkF m 253 #[.val (.int p1), .val (.int p2), .val (.int p3), .val (.int p4), .val (.int p5), .val (.int p6), .val (.int zn), .val (.int x0), .val (.int x1), .val (.int x2), .val (.int x3), .val (.int k0), .val (.int k1), .val (.int k2), .val (.int k3), .val (.ref a5), .val (.int q0), .val (.int q1), .val (.int q2), .val (.int q3), .unset, .unset, .unset, .unset] [])
  refine Go.to (fun _ => XS.iconst X15.here hx rfl (hb hby at_253)) ?_
  show Go p e below _ T15 (mkF m 254 #[.val (.int p1), .val (.int p2), .val (.int p3), .val (.int p4), .val (.int p5), .val (.int p6), .val (.int zn), .val (.int x0), .val (.int x1), .val (.int x2), .val (.int x3), .val (.int k0), .val (.int k1), .val (.int k2), .val (.int k3), .val (.ref a5), .val (.int q0), .val (.int q1), .val (.int q2), .val (.int q3), .unset, .unset, .unset, .unset] [(.int (0 : Int32))])
  refine Go.to (fun _ => XS.istore X15.here hx rfl (hb hby at_254) rfl (l' := #[.val (.int p1), .val (.int p2), .val (.int p3), .val (.int p4), .val (.int p5), .val (.int p6), .val (.int zn), .val (.int x0), .val (.int x1), .val (.int x2), .val (.int x3), .val (.int k0), .val (.int k1), .val (.int k2), .val (.int k3), .val (.ref a5), .val (.int q0), .val (.int q1), .val (.int q2), .val (.int q3), .val (.int (0 : Int32)), .unset, .unset, .unset]) rfl) ?_
  show Go p e below _ T15 (mkF m 256 #[.val (.int p1), .val (.int p2), .val (.int p3), .val (.int p4), .val (.int p5), .val (.int p6), .val (.int zn), .val (.int x0), .val (.int x1), .val (.int x2), .val (.int x3), .val (.int k0), .val (.int k1), .val (.int k2), .val (.int k3), .val (.ref a5), .val (.int q0), .val (.int q1), .val (.int q2), .val (.int q3), .val (.int (0 : Int32)), .unset, .unset, .unset] [])
  have hj16 : (∀ m1 : Int32, m1 = (if q0 = (0 : Int32) then (0 : Int32) else (if (0 : Int32) < zn then ((0 : Int32) + (1 : Int32)) else (0 : Int32))) → Go p e below K T15 (mkF m 270 #[.val (.int p1), .val (.int p2), .val (.int p3), .val (.int p4), .val (.int p5), .val (.int p6), .val (.int zn), .val (.int x0), .val (.int x1), .val (.int x2), .val (.int x3), .val (.int k0), .val (.int k1), .val (.int k2), .val (.int k3), .val (.ref a5), .val (.int q0), .val (.int q1), .val (.int q2), .val (.int q3), .val (.int m1), .unset, .unset, .unset] [])) → Go p e below K T15 (mkF m 256 #[.val (.int p1), .val (.int p2), .val (.int p3), .val (.int p4), .val (.int p5), .val (.int p6), .val (.int zn), .val (.int x0), .val (.int x1), .val (.int x2), .val (.int x3), .val (.int k0), .val (.int k1), .val (.int k2), .val (.int k3), .val (.ref a5), .val (.int q0), .val (.int q1), .val (.int q2), .val (.int q3), .val (.int (0 : Int32)), .unset, .unset, .unset] []) := by
    intro k
    refine Go.to (fun _ => XS.iload X15.here hx rfl (hb hby at_256) rfl) ?_
    show Go p e below _ T15 (mkF m 258 #[.val (.int p1), .val (.int p2), .val (.int p3), .val (.int p4), .val (.int p5), .val (.int p6), .val (.int zn), .val (.int x0), .val (.int x1), .val (.int x2), .val (.int x3), .val (.int k0), .val (.int k1), .val (.int k2), .val (.int k3), .val (.ref a5), .val (.int q0), .val (.int q1), .val (.int q2), .val (.int q3), .val (.int (0 : Int32)), .unset, .unset, .unset] [(.int q0)])
    by_cases hc5 : q0 = (0 : Int32)
    · refine Go.to (fun _ => XS.ifYes X15.here hx rfl (pc0 := 258) (pc' := 270) rfl (hb hby at_258) rfl ((if0 _ _).trans (teq hc5).1) (by decide) (by decide)) ?_
      show Go p e below _ T15 (mkF m 270 #[.val (.int p1), .val (.int p2), .val (.int p3), .val (.int p4), .val (.int p5), .val (.int p6), .val (.int zn), .val (.int x0), .val (.int x1), .val (.int x2), .val (.int x3), .val (.int k0), .val (.int k1), .val (.int k2), .val (.int k3), .val (.ref a5), .val (.int q0), .val (.int q1), .val (.int q2), .val (.int q3), .val (.int (0 : Int32)), .unset, .unset, .unset] [])
      exact k (0 : Int32) (by rw [if_pos hc5])
    · refine Go.to (fun _ => XS.ifNo X15.here hx rfl (hb hby at_258) rfl ((if0 _ _).trans (feq hc5).1)) ?_
      show Go p e below _ T15 (mkF m 261 #[.val (.int p1), .val (.int p2), .val (.int p3), .val (.int p4), .val (.int p5), .val (.int p6), .val (.int zn), .val (.int x0), .val (.int x1), .val (.int x2), .val (.int x3), .val (.int k0), .val (.int k1), .val (.int k2), .val (.int k3), .val (.ref a5), .val (.int q0), .val (.int q1), .val (.int q2), .val (.int q3), .val (.int (0 : Int32)), .unset, .unset, .unset] [])
      refine Go.to (fun _ => XS.iconst X15.here hx rfl (hb hby at_261)) ?_
      show Go p e below _ T15 (mkF m 262 #[.val (.int p1), .val (.int p2), .val (.int p3), .val (.int p4), .val (.int p5), .val (.int p6), .val (.int zn), .val (.int x0), .val (.int x1), .val (.int x2), .val (.int x3), .val (.int k0), .val (.int k1), .val (.int k2), .val (.int k3), .val (.ref a5), .val (.int q0), .val (.int q1), .val (.int q2), .val (.int q3), .val (.int (0 : Int32)), .unset, .unset, .unset] [(.int (0 : Int32))])
      refine Go.to (fun _ => XS.iload X15.here hx rfl (hb hby at_262) rfl) ?_
      show Go p e below _ T15 (mkF m 264 #[.val (.int p1), .val (.int p2), .val (.int p3), .val (.int p4), .val (.int p5), .val (.int p6), .val (.int zn), .val (.int x0), .val (.int x1), .val (.int x2), .val (.int x3), .val (.int k0), .val (.int k1), .val (.int k2), .val (.int k3), .val (.ref a5), .val (.int q0), .val (.int q1), .val (.int q2), .val (.int q3), .val (.int (0 : Int32)), .unset, .unset, .unset] [(.int zn), (.int (0 : Int32))])
      by_cases hc6 : (0 : Int32) < zn
      · refine Go.to (fun _ => XS.icmpNo X15.here hx rfl (hb hby at_264) rfl (tlt hc6).2.1) ?_
        show Go p e below _ T15 (mkF m 267 #[.val (.int p1), .val (.int p2), .val (.int p3), .val (.int p4), .val (.int p5), .val (.int p6), .val (.int zn), .val (.int x0), .val (.int x1), .val (.int x2), .val (.int x3), .val (.int k0), .val (.int k1), .val (.int k2), .val (.int k3), .val (.ref a5), .val (.int q0), .val (.int q1), .val (.int q2), .val (.int q3), .val (.int (0 : Int32)), .unset, .unset, .unset] [])
        refine Go.to (fun _ => XS.iinc X15.here hx rfl (hb hby at_267) rfl (l' := #[.val (.int p1), .val (.int p2), .val (.int p3), .val (.int p4), .val (.int p5), .val (.int p6), .val (.int zn), .val (.int x0), .val (.int x1), .val (.int x2), .val (.int x3), .val (.int k0), .val (.int k1), .val (.int k2), .val (.int k3), .val (.ref a5), .val (.int q0), .val (.int q1), .val (.int q2), .val (.int q3), .val (.int ((0 : Int32) + (1 : Int32))), .unset, .unset, .unset]) rfl) ?_
        show Go p e below _ T15 (mkF m 270 #[.val (.int p1), .val (.int p2), .val (.int p3), .val (.int p4), .val (.int p5), .val (.int p6), .val (.int zn), .val (.int x0), .val (.int x1), .val (.int x2), .val (.int x3), .val (.int k0), .val (.int k1), .val (.int k2), .val (.int k3), .val (.ref a5), .val (.int q0), .val (.int q1), .val (.int q2), .val (.int q3), .val (.int ((0 : Int32) + (1 : Int32))), .unset, .unset, .unset] [])
        exact k ((0 : Int32) + (1 : Int32)) (by rw [if_neg hc5, if_pos hc6])
      · refine Go.to (fun _ => XS.icmpYes X15.here hx rfl (pc0 := 264) (pc' := 270) rfl (hb hby at_264) rfl (flt hc6).2.1 (by decide) (by decide)) ?_
        show Go p e below _ T15 (mkF m 270 #[.val (.int p1), .val (.int p2), .val (.int p3), .val (.int p4), .val (.int p5), .val (.int p6), .val (.int zn), .val (.int x0), .val (.int x1), .val (.int x2), .val (.int x3), .val (.int k0), .val (.int k1), .val (.int k2), .val (.int k3), .val (.ref a5), .val (.int q0), .val (.int q1), .val (.int q2), .val (.int q3), .val (.int (0 : Int32)), .unset, .unset, .unset] [])
        exact k (0 : Int32) (by rw [if_neg hc5, if_neg hc6])
  refine hj16 (fun m1 hm1 => ?_)
  clear hj16
  obtain ⟨y5, hy5, hf⟩ := Option.bind_eq_some_iff.mp hf
  rw [(Option.some.inj hy5).symm.trans hm1.symm] at hf
  have hj17 : (∀ m2 : Int32, m2 = (if q1 = (0 : Int32) then m1 else (if (1 : Int32) < zn then (m1 + (1 : Int32)) else m1)) → Go p e below K T15 (mkF m 284 #[.val (.int p1), .val (.int p2), .val (.int p3), .val (.int p4), .val (.int p5), .val (.int p6), .val (.int zn), .val (.int x0), .val (.int x1), .val (.int x2), .val (.int x3), .val (.int k0), .val (.int k1), .val (.int k2), .val (.int k3), .val (.ref a5), .val (.int q0), .val (.int q1), .val (.int q2), .val (.int q3), .val (.int m2), .unset, .unset, .unset] [])) → Go p e below K T15 (mkF m 270 #[.val (.int p1), .val (.int p2), .val (.int p3), .val (.int p4), .val (.int p5), .val (.int p6), .val (.int zn), .val (.int x0), .val (.int x1), .val (.int x2), .val (.int x3), .val (.int k0), .val (.int k1), .val (.int k2), .val (.int k3), .val (.ref a5), .val (.int q0), .val (.int q1), .val (.int q2), .val (.int q3), .val (.int m1), .unset, .unset, .unset] []) := by
    intro k
    refine Go.to (fun _ => XS.iload X15.here hx rfl (hb hby at_270) rfl) ?_
    show Go p e below _ T15 (mkF m 272 #[.val (.int p1), .val (.int p2), .val (.int p3), .val (.int p4), .val (.int p5), .val (.int p6), .val (.int zn), .val (.int x0), .val (.int x1), .val (.int x2), .val (.int x3), .val (.int k0), .val (.int k1), .val (.int k2), .val (.int k3), .val (.ref a5), .val (.int q0), .val (.int q1), .val (.int q2), .val (.int q3), .val (.int m1), .unset, .unset, .unset] [(.int q1)])
    by_cases hc7 : q1 = (0 : Int32)
    · refine Go.to (fun _ => XS.ifYes X15.here hx rfl (pc0 := 272) (pc' := 284) rfl (hb hby at_272) rfl ((if0 _ _).trans (teq hc7).1) (by decide) (by decide)) ?_
      show Go p e below _ T15 (mkF m 284 #[.val (.int p1), .val (.int p2), .val (.int p3), .val (.int p4), .val (.int p5), .val (.int p6), .val (.int zn), .val (.int x0), .val (.int x1), .val (.int x2), .val (.int x3), .val (.int k0), .val (.int k1), .val (.int k2), .val (.int k3), .val (.ref a5), .val (.int q0), .val (.int q1), .val (.int q2), .val (.int q3), .val (.int m1), .unset, .unset, .unset] [])
      exact k m1 (by rw [if_pos hc7])
    · refine Go.to (fun _ => XS.ifNo X15.here hx rfl (hb hby at_272) rfl ((if0 _ _).trans (feq hc7).1)) ?_
      show Go p e below _ T15 (mkF m 275 #[.val (.int p1), .val (.int p2), .val (.int p3), .val (.int p4), .val (.int p5), .val (.int p6), .val (.int zn), .val (.int x0), .val (.int x1), .val (.int x2), .val (.int x3), .val (.int k0), .val (.int k1), .val (.int k2), .val (.int k3), .val (.ref a5), .val (.int q0), .val (.int q1), .val (.int q2), .val (.int q3), .val (.int m1), .unset, .unset, .unset] [])
      refine Go.to (fun _ => XS.iconst X15.here hx rfl (hb hby at_275)) ?_
      show Go p e below _ T15 (mkF m 276 #[.val (.int p1), .val (.int p2), .val (.int p3), .val (.int p4), .val (.int p5), .val (.int p6), .val (.int zn), .val (.int x0), .val (.int x1), .val (.int x2), .val (.int x3), .val (.int k0), .val (.int k1), .val (.int k2), .val (.int k3), .val (.ref a5), .val (.int q0), .val (.int q1), .val (.int q2), .val (.int q3), .val (.int m1), .unset, .unset, .unset] [(.int (1 : Int32))])
      refine Go.to (fun _ => XS.iload X15.here hx rfl (hb hby at_276) rfl) ?_
      show Go p e below _ T15 (mkF m 278 #[.val (.int p1), .val (.int p2), .val (.int p3), .val (.int p4), .val (.int p5), .val (.int p6), .val (.int zn), .val (.int x0), .val (.int x1), .val (.int x2), .val (.int x3), .val (.int k0), .val (.int k1), .val (.int k2), .val (.int k3), .val (.ref a5), .val (.int q0), .val (.int q1), .val (.int q2), .val (.int q3), .val (.int m1), .unset, .unset, .unset] [(.int zn), (.int (1 : Int32))])
      by_cases hc8 : (1 : Int32) < zn
      · refine Go.to (fun _ => XS.icmpNo X15.here hx rfl (hb hby at_278) rfl (tlt hc8).2.1) ?_
        show Go p e below _ T15 (mkF m 281 #[.val (.int p1), .val (.int p2), .val (.int p3), .val (.int p4), .val (.int p5), .val (.int p6), .val (.int zn), .val (.int x0), .val (.int x1), .val (.int x2), .val (.int x3), .val (.int k0), .val (.int k1), .val (.int k2), .val (.int k3), .val (.ref a5), .val (.int q0), .val (.int q1), .val (.int q2), .val (.int q3), .val (.int m1), .unset, .unset, .unset] [])
        refine Go.to (fun _ => XS.iinc X15.here hx rfl (hb hby at_281) rfl (l' := #[.val (.int p1), .val (.int p2), .val (.int p3), .val (.int p4), .val (.int p5), .val (.int p6), .val (.int zn), .val (.int x0), .val (.int x1), .val (.int x2), .val (.int x3), .val (.int k0), .val (.int k1), .val (.int k2), .val (.int k3), .val (.ref a5), .val (.int q0), .val (.int q1), .val (.int q2), .val (.int q3), .val (.int (m1 + (1 : Int32))), .unset, .unset, .unset]) rfl) ?_
        show Go p e below _ T15 (mkF m 284 #[.val (.int p1), .val (.int p2), .val (.int p3), .val (.int p4), .val (.int p5), .val (.int p6), .val (.int zn), .val (.int x0), .val (.int x1), .val (.int x2), .val (.int x3), .val (.int k0), .val (.int k1), .val (.int k2), .val (.int k3), .val (.ref a5), .val (.int q0), .val (.int q1), .val (.int q2), .val (.int q3), .val (.int (m1 + (1 : Int32))), .unset, .unset, .unset] [])
        exact k (m1 + (1 : Int32)) (by rw [if_neg hc7, if_pos hc8])
      · refine Go.to (fun _ => XS.icmpYes X15.here hx rfl (pc0 := 278) (pc' := 284) rfl (hb hby at_278) rfl (flt hc8).2.1 (by decide) (by decide)) ?_
        show Go p e below _ T15 (mkF m 284 #[.val (.int p1), .val (.int p2), .val (.int p3), .val (.int p4), .val (.int p5), .val (.int p6), .val (.int zn), .val (.int x0), .val (.int x1), .val (.int x2), .val (.int x3), .val (.int k0), .val (.int k1), .val (.int k2), .val (.int k3), .val (.ref a5), .val (.int q0), .val (.int q1), .val (.int q2), .val (.int q3), .val (.int m1), .unset, .unset, .unset] [])
        exact k m1 (by rw [if_neg hc7, if_neg hc8])
  refine hj17 (fun m2 hm2 => ?_)
  clear hj17
  obtain ⟨y6, hy6, hf⟩ := Option.bind_eq_some_iff.mp hf
  rw [(Option.some.inj hy6).symm.trans hm2.symm] at hf
  have hj18 : (∀ m3 : Int32, m3 = (if q2 = (0 : Int32) then m2 else (if (2 : Int32) < zn then (m2 + (1 : Int32)) else m2)) → Go p e below K T15 (mkF m 298 #[.val (.int p1), .val (.int p2), .val (.int p3), .val (.int p4), .val (.int p5), .val (.int p6), .val (.int zn), .val (.int x0), .val (.int x1), .val (.int x2), .val (.int x3), .val (.int k0), .val (.int k1), .val (.int k2), .val (.int k3), .val (.ref a5), .val (.int q0), .val (.int q1), .val (.int q2), .val (.int q3), .val (.int m3), .unset, .unset, .unset] [])) → Go p e below K T15 (mkF m 284 #[.val (.int p1), .val (.int p2), .val (.int p3), .val (.int p4), .val (.int p5), .val (.int p6), .val (.int zn), .val (.int x0), .val (.int x1), .val (.int x2), .val (.int x3), .val (.int k0), .val (.int k1), .val (.int k2), .val (.int k3), .val (.ref a5), .val (.int q0), .val (.int q1), .val (.int q2), .val (.int q3), .val (.int m2), .unset, .unset, .unset] []) := by
    intro k
    refine Go.to (fun _ => XS.iload X15.here hx rfl (hb hby at_284) rfl) ?_
    show Go p e below _ T15 (mkF m 286 #[.val (.int p1), .val (.int p2), .val (.int p3), .val (.int p4), .val (.int p5), .val (.int p6), .val (.int zn), .val (.int x0), .val (.int x1), .val (.int x2), .val (.int x3), .val (.int k0), .val (.int k1), .val (.int k2), .val (.int k3), .val (.ref a5), .val (.int q0), .val (.int q1), .val (.int q2), .val (.int q3), .val (.int m2), .unset, .unset, .unset] [(.int q2)])
    by_cases hc9 : q2 = (0 : Int32)
    · refine Go.to (fun _ => XS.ifYes X15.here hx rfl (pc0 := 286) (pc' := 298) rfl (hb hby at_286) rfl ((if0 _ _).trans (teq hc9).1) (by decide) (by decide)) ?_
      show Go p e below _ T15 (mkF m 298 #[.val (.int p1), .val (.int p2), .val (.int p3), .val (.int p4), .val (.int p5), .val (.int p6), .val (.int zn), .val (.int x0), .val (.int x1), .val (.int x2), .val (.int x3), .val (.int k0), .val (.int k1), .val (.int k2), .val (.int k3), .val (.ref a5), .val (.int q0), .val (.int q1), .val (.int q2), .val (.int q3), .val (.int m2), .unset, .unset, .unset] [])
      exact k m2 (by rw [if_pos hc9])
    · refine Go.to (fun _ => XS.ifNo X15.here hx rfl (hb hby at_286) rfl ((if0 _ _).trans (feq hc9).1)) ?_
      show Go p e below _ T15 (mkF m 289 #[.val (.int p1), .val (.int p2), .val (.int p3), .val (.int p4), .val (.int p5), .val (.int p6), .val (.int zn), .val (.int x0), .val (.int x1), .val (.int x2), .val (.int x3), .val (.int k0), .val (.int k1), .val (.int k2), .val (.int k3), .val (.ref a5), .val (.int q0), .val (.int q1), .val (.int q2), .val (.int q3), .val (.int m2), .unset, .unset, .unset] [])
      refine Go.to (fun _ => XS.iconst X15.here hx rfl (hb hby at_289)) ?_
      show Go p e below _ T15 (mkF m 290 #[.val (.int p1), .val (.int p2), .val (.int p3), .val (.int p4), .val (.int p5), .val (.int p6), .val (.int zn), .val (.int x0), .val (.int x1), .val (.int x2), .val (.int x3), .val (.int k0), .val (.int k1), .val (.int k2), .val (.int k3), .val (.ref a5), .val (.int q0), .val (.int q1), .val (.int q2), .val (.int q3), .val (.int m2), .unset, .unset, .unset] [(.int (2 : Int32))])
      refine Go.to (fun _ => XS.iload X15.here hx rfl (hb hby at_290) rfl) ?_
      show Go p e below _ T15 (mkF m 292 #[.val (.int p1), .val (.int p2), .val (.int p3), .val (.int p4), .val (.int p5), .val (.int p6), .val (.int zn), .val (.int x0), .val (.int x1), .val (.int x2), .val (.int x3), .val (.int k0), .val (.int k1), .val (.int k2), .val (.int k3), .val (.ref a5), .val (.int q0), .val (.int q1), .val (.int q2), .val (.int q3), .val (.int m2), .unset, .unset, .unset] [(.int zn), (.int (2 : Int32))])
      by_cases hc10 : (2 : Int32) < zn
      · refine Go.to (fun _ => XS.icmpNo X15.here hx rfl (hb hby at_292) rfl (tlt hc10).2.1) ?_
        show Go p e below _ T15 (mkF m 295 #[.val (.int p1), .val (.int p2), .val (.int p3), .val (.int p4), .val (.int p5), .val (.int p6), .val (.int zn), .val (.int x0), .val (.int x1), .val (.int x2), .val (.int x3), .val (.int k0), .val (.int k1), .val (.int k2), .val (.int k3), .val (.ref a5), .val (.int q0), .val (.int q1), .val (.int q2), .val (.int q3), .val (.int m2), .unset, .unset, .unset] [])
        refine Go.to (fun _ => XS.iinc X15.here hx rfl (hb hby at_295) rfl (l' := #[.val (.int p1), .val (.int p2), .val (.int p3), .val (.int p4), .val (.int p5), .val (.int p6), .val (.int zn), .val (.int x0), .val (.int x1), .val (.int x2), .val (.int x3), .val (.int k0), .val (.int k1), .val (.int k2), .val (.int k3), .val (.ref a5), .val (.int q0), .val (.int q1), .val (.int q2), .val (.int q3), .val (.int (m2 + (1 : Int32))), .unset, .unset, .unset]) rfl) ?_
        show Go p e below _ T15 (mkF m 298 #[.val (.int p1), .val (.int p2), .val (.int p3), .val (.int p4), .val (.int p5), .val (.int p6), .val (.int zn), .val (.int x0), .val (.int x1), .val (.int x2), .val (.int x3), .val (.int k0), .val (.int k1), .val (.int k2), .val (.int k3), .val (.ref a5), .val (.int q0), .val (.int q1), .val (.int q2), .val (.int q3), .val (.int (m2 + (1 : Int32))), .unset, .unset, .unset] [])
        exact k (m2 + (1 : Int32)) (by rw [if_neg hc9, if_pos hc10])
      · refine Go.to (fun _ => XS.icmpYes X15.here hx rfl (pc0 := 292) (pc' := 298) rfl (hb hby at_292) rfl (flt hc10).2.1 (by decide) (by decide)) ?_
        show Go p e below _ T15 (mkF m 298 #[.val (.int p1), .val (.int p2), .val (.int p3), .val (.int p4), .val (.int p5), .val (.int p6), .val (.int zn), .val (.int x0), .val (.int x1), .val (.int x2), .val (.int x3), .val (.int k0), .val (.int k1), .val (.int k2), .val (.int k3), .val (.ref a5), .val (.int q0), .val (.int q1), .val (.int q2), .val (.int q3), .val (.int m2), .unset, .unset, .unset] [])
        exact k m2 (by rw [if_neg hc9, if_neg hc10])
  refine hj18 (fun m3 hm3 => ?_)
  clear hj18
  obtain ⟨y7, hy7, hf⟩ := Option.bind_eq_some_iff.mp hf
  rw [(Option.some.inj hy7).symm.trans hm3.symm] at hf
  have hj19 : (∀ mm : Int32, mm = (if q3 = (0 : Int32) then m3 else (if (3 : Int32) < zn then (m3 + (1 : Int32)) else m3)) → Go p e below K T15 (mkF m 312 #[.val (.int p1), .val (.int p2), .val (.int p3), .val (.int p4), .val (.int p5), .val (.int p6), .val (.int zn), .val (.int x0), .val (.int x1), .val (.int x2), .val (.int x3), .val (.int k0), .val (.int k1), .val (.int k2), .val (.int k3), .val (.ref a5), .val (.int q0), .val (.int q1), .val (.int q2), .val (.int q3), .val (.int mm), .unset, .unset, .unset] [])) → Go p e below K T15 (mkF m 298 #[.val (.int p1), .val (.int p2), .val (.int p3), .val (.int p4), .val (.int p5), .val (.int p6), .val (.int zn), .val (.int x0), .val (.int x1), .val (.int x2), .val (.int x3), .val (.int k0), .val (.int k1), .val (.int k2), .val (.int k3), .val (.ref a5), .val (.int q0), .val (.int q1), .val (.int q2), .val (.int q3), .val (.int m3), .unset, .unset, .unset] []) := by
    intro k
    refine Go.to (fun _ => XS.iload X15.here hx rfl (hb hby at_298) rfl) ?_
    show Go p e below _ T15 (mkF m 300 #[.val (.int p1), .val (.int p2), .val (.int p3), .val (.int p4), .val (.int p5), .val (.int p6), .val (.int zn), .val (.int x0), .val (.int x1), .val (.int x2), .val (.int x3), .val (.int k0), .val (.int k1), .val (.int k2), .val (.int k3), .val (.ref a5), .val (.int q0), .val (.int q1), .val (.int q2), .val (.int q3), .val (.int m3), .unset, .unset, .unset] [(.int q3)])
    by_cases hc11 : q3 = (0 : Int32)
    · refine Go.to (fun _ => XS.ifYes X15.here hx rfl (pc0 := 300) (pc' := 312) rfl (hb hby at_300) rfl ((if0 _ _).trans (teq hc11).1) (by decide) (by decide)) ?_
      show Go p e below _ T15 (mkF m 312 #[.val (.int p1), .val (.int p2), .val (.int p3), .val (.int p4), .val (.int p5), .val (.int p6), .val (.int zn), .val (.int x0), .val (.int x1), .val (.int x2), .val (.int x3), .val (.int k0), .val (.int k1), .val (.int k2), .val (.int k3), .val (.ref a5), .val (.int q0), .val (.int q1), .val (.int q2), .val (.int q3), .val (.int m3), .unset, .unset, .unset] [])
      exact k m3 (by rw [if_pos hc11])
    · refine Go.to (fun _ => XS.ifNo X15.here hx rfl (hb hby at_300) rfl ((if0 _ _).trans (feq hc11).1)) ?_
      show Go p e below _ T15 (mkF m 303 #[.val (.int p1), .val (.int p2), .val (.int p3), .val (.int p4), .val (.int p5), .val (.int p6), .val (.int zn), .val (.int x0), .val (.int x1), .val (.int x2), .val (.int x3), .val (.int k0), .val (.int k1), .val (.int k2), .val (.int k3), .val (.ref a5), .val (.int q0), .val (.int q1), .val (.int q2), .val (.int q3), .val (.int m3), .unset, .unset, .unset] [])
      refine Go.to (fun _ => XS.iconst X15.here hx rfl (hb hby at_303)) ?_
      show Go p e below _ T15 (mkF m 304 #[.val (.int p1), .val (.int p2), .val (.int p3), .val (.int p4), .val (.int p5), .val (.int p6), .val (.int zn), .val (.int x0), .val (.int x1), .val (.int x2), .val (.int x3), .val (.int k0), .val (.int k1), .val (.int k2), .val (.int k3), .val (.ref a5), .val (.int q0), .val (.int q1), .val (.int q2), .val (.int q3), .val (.int m3), .unset, .unset, .unset] [(.int (3 : Int32))])
      refine Go.to (fun _ => XS.iload X15.here hx rfl (hb hby at_304) rfl) ?_
      show Go p e below _ T15 (mkF m 306 #[.val (.int p1), .val (.int p2), .val (.int p3), .val (.int p4), .val (.int p5), .val (.int p6), .val (.int zn), .val (.int x0), .val (.int x1), .val (.int x2), .val (.int x3), .val (.int k0), .val (.int k1), .val (.int k2), .val (.int k3), .val (.ref a5), .val (.int q0), .val (.int q1), .val (.int q2), .val (.int q3), .val (.int m3), .unset, .unset, .unset] [(.int zn), (.int (3 : Int32))])
      by_cases hc12 : (3 : Int32) < zn
      · refine Go.to (fun _ => XS.icmpNo X15.here hx rfl (hb hby at_306) rfl (tlt hc12).2.1) ?_
        show Go p e below _ T15 (mkF m 309 #[.val (.int p1), .val (.int p2), .val (.int p3), .val (.int p4), .val (.int p5), .val (.int p6), .val (.int zn), .val (.int x0), .val (.int x1), .val (.int x2), .val (.int x3), .val (.int k0), .val (.int k1), .val (.int k2), .val (.int k3), .val (.ref a5), .val (.int q0), .val (.int q1), .val (.int q2), .val (.int q3), .val (.int m3), .unset, .unset, .unset] [])
        refine Go.to (fun _ => XS.iinc X15.here hx rfl (hb hby at_309) rfl (l' := #[.val (.int p1), .val (.int p2), .val (.int p3), .val (.int p4), .val (.int p5), .val (.int p6), .val (.int zn), .val (.int x0), .val (.int x1), .val (.int x2), .val (.int x3), .val (.int k0), .val (.int k1), .val (.int k2), .val (.int k3), .val (.ref a5), .val (.int q0), .val (.int q1), .val (.int q2), .val (.int q3), .val (.int (m3 + (1 : Int32))), .unset, .unset, .unset]) rfl) ?_
        show Go p e below _ T15 (mkF m 312 #[.val (.int p1), .val (.int p2), .val (.int p3), .val (.int p4), .val (.int p5), .val (.int p6), .val (.int zn), .val (.int x0), .val (.int x1), .val (.int x2), .val (.int x3), .val (.int k0), .val (.int k1), .val (.int k2), .val (.int k3), .val (.ref a5), .val (.int q0), .val (.int q1), .val (.int q2), .val (.int q3), .val (.int (m3 + (1 : Int32))), .unset, .unset, .unset] [])
        exact k (m3 + (1 : Int32)) (by rw [if_neg hc11, if_pos hc12])
      · refine Go.to (fun _ => XS.icmpYes X15.here hx rfl (pc0 := 306) (pc' := 312) rfl (hb hby at_306) rfl (flt hc12).2.1 (by decide) (by decide)) ?_
        show Go p e below _ T15 (mkF m 312 #[.val (.int p1), .val (.int p2), .val (.int p3), .val (.int p4), .val (.int p5), .val (.int p6), .val (.int zn), .val (.int x0), .val (.int x1), .val (.int x2), .val (.int x3), .val (.int k0), .val (.int k1), .val (.int k2), .val (.int k3), .val (.ref a5), .val (.int q0), .val (.int q1), .val (.int q2), .val (.int q3), .val (.int m3), .unset, .unset, .unset] [])
        exact k m3 (by rw [if_neg hc11, if_neg hc12])
  refine hj19 (fun mm hmm => ?_)
  clear hj19
  obtain ⟨y8, hy8, hf⟩ := Option.bind_eq_some_iff.mp hf
  rw [(Option.some.inj hy8).symm.trans hmm.symm] at hf
  have hj20 : (∀ eC : Int32, eC = (if mm = (0 : Int32) then (1 : Int32) else (if mm = zn then (1 : Int32) else (if (zn - mm) < mm then (2 : Int32) else (2 : Int32)))) → ∀ eM : Int32, eM = (if mm = (0 : Int32) then (0 : Int32) else (if mm = zn then (0 : Int32) else (if (zn - mm) < mm then (0 : Int32) else (1 : Int32)))) → ∀ eU : Int32, eU = (if mm = (0 : Int32) then (0 : Int32) else (if mm = zn then (0 : Int32) else (if (zn - mm) < mm then (1 : Int32) else (0 : Int32)))) → Go p e below K T15 (mkF m 367 #[.val (.int p1), .val (.int p2), .val (.int p3), .val (.int p4), .val (.int p5), .val (.int p6), .val (.int zn), .val (.int x0), .val (.int x1), .val (.int x2), .val (.int x3), .val (.int k0), .val (.int k1), .val (.int k2), .val (.int k3), .val (.ref a5), .val (.int q0), .val (.int q1), .val (.int q2), .val (.int q3), .val (.int mm), .val (.int eC), .val (.int eM), .val (.int eU)] [])) → Go p e below K T15 (mkF m 312 #[.val (.int p1), .val (.int p2), .val (.int p3), .val (.int p4), .val (.int p5), .val (.int p6), .val (.int zn), .val (.int x0), .val (.int x1), .val (.int x2), .val (.int x3), .val (.int k0), .val (.int k1), .val (.int k2), .val (.int k3), .val (.ref a5), .val (.int q0), .val (.int q1), .val (.int q2), .val (.int q3), .val (.int mm), .unset, .unset, .unset] []) := by
    intro k
    refine Go.to (fun _ => XS.iload X15.here hx rfl (hb hby at_312) rfl) ?_
    show Go p e below _ T15 (mkF m 314 #[.val (.int p1), .val (.int p2), .val (.int p3), .val (.int p4), .val (.int p5), .val (.int p6), .val (.int zn), .val (.int x0), .val (.int x1), .val (.int x2), .val (.int x3), .val (.int k0), .val (.int k1), .val (.int k2), .val (.int k3), .val (.ref a5), .val (.int q0), .val (.int q1), .val (.int q2), .val (.int q3), .val (.int mm), .unset, .unset, .unset] [(.int mm)])
    by_cases hc13 : mm = (0 : Int32)
    · refine Go.to (fun _ => XS.ifYes X15.here hx rfl (pc0 := 314) (pc' := 324) rfl (hb hby at_314) rfl ((if0 _ _).trans (teq hc13).1) (by decide) (by decide)) ?_
      show Go p e below _ T15 (mkF m 324 #[.val (.int p1), .val (.int p2), .val (.int p3), .val (.int p4), .val (.int p5), .val (.int p6), .val (.int zn), .val (.int x0), .val (.int x1), .val (.int x2), .val (.int x3), .val (.int k0), .val (.int k1), .val (.int k2), .val (.int k3), .val (.ref a5), .val (.int q0), .val (.int q1), .val (.int q2), .val (.int q3), .val (.int mm), .unset, .unset, .unset] [])
      refine Go.to (fun _ => XS.iconst X15.here hx rfl (hb hby at_324)) ?_
      show Go p e below _ T15 (mkF m 325 #[.val (.int p1), .val (.int p2), .val (.int p3), .val (.int p4), .val (.int p5), .val (.int p6), .val (.int zn), .val (.int x0), .val (.int x1), .val (.int x2), .val (.int x3), .val (.int k0), .val (.int k1), .val (.int k2), .val (.int k3), .val (.ref a5), .val (.int q0), .val (.int q1), .val (.int q2), .val (.int q3), .val (.int mm), .unset, .unset, .unset] [(.int (1 : Int32))])
      refine Go.to (fun _ => XS.istore X15.here hx rfl (hb hby at_325) rfl (l' := #[.val (.int p1), .val (.int p2), .val (.int p3), .val (.int p4), .val (.int p5), .val (.int p6), .val (.int zn), .val (.int x0), .val (.int x1), .val (.int x2), .val (.int x3), .val (.int k0), .val (.int k1), .val (.int k2), .val (.int k3), .val (.ref a5), .val (.int q0), .val (.int q1), .val (.int q2), .val (.int q3), .val (.int mm), .val (.int (1 : Int32)), .unset, .unset]) rfl) ?_
      show Go p e below _ T15 (mkF m 327 #[.val (.int p1), .val (.int p2), .val (.int p3), .val (.int p4), .val (.int p5), .val (.int p6), .val (.int zn), .val (.int x0), .val (.int x1), .val (.int x2), .val (.int x3), .val (.int k0), .val (.int k1), .val (.int k2), .val (.int k3), .val (.ref a5), .val (.int q0), .val (.int q1), .val (.int q2), .val (.int q3), .val (.int mm), .val (.int (1 : Int32)), .unset, .unset] [])
      refine Go.to (fun _ => XS.iconst X15.here hx rfl (hb hby at_327)) ?_
      show Go p e below _ T15 (mkF m 328 #[.val (.int p1), .val (.int p2), .val (.int p3), .val (.int p4), .val (.int p5), .val (.int p6), .val (.int zn), .val (.int x0), .val (.int x1), .val (.int x2), .val (.int x3), .val (.int k0), .val (.int k1), .val (.int k2), .val (.int k3), .val (.ref a5), .val (.int q0), .val (.int q1), .val (.int q2), .val (.int q3), .val (.int mm), .val (.int (1 : Int32)), .unset, .unset] [(.int (0 : Int32))])
      refine Go.to (fun _ => XS.istore X15.here hx rfl (hb hby at_328) rfl (l' := #[.val (.int p1), .val (.int p2), .val (.int p3), .val (.int p4), .val (.int p5), .val (.int p6), .val (.int zn), .val (.int x0), .val (.int x1), .val (.int x2), .val (.int x3), .val (.int k0), .val (.int k1), .val (.int k2), .val (.int k3), .val (.ref a5), .val (.int q0), .val (.int q1), .val (.int q2), .val (.int q3), .val (.int mm), .val (.int (1 : Int32)), .val (.int (0 : Int32)), .unset]) rfl) ?_
      show Go p e below _ T15 (mkF m 330 #[.val (.int p1), .val (.int p2), .val (.int p3), .val (.int p4), .val (.int p5), .val (.int p6), .val (.int zn), .val (.int x0), .val (.int x1), .val (.int x2), .val (.int x3), .val (.int k0), .val (.int k1), .val (.int k2), .val (.int k3), .val (.ref a5), .val (.int q0), .val (.int q1), .val (.int q2), .val (.int q3), .val (.int mm), .val (.int (1 : Int32)), .val (.int (0 : Int32)), .unset] [])
      refine Go.to (fun _ => XS.iconst X15.here hx rfl (hb hby at_330)) ?_
      show Go p e below _ T15 (mkF m 331 #[.val (.int p1), .val (.int p2), .val (.int p3), .val (.int p4), .val (.int p5), .val (.int p6), .val (.int zn), .val (.int x0), .val (.int x1), .val (.int x2), .val (.int x3), .val (.int k0), .val (.int k1), .val (.int k2), .val (.int k3), .val (.ref a5), .val (.int q0), .val (.int q1), .val (.int q2), .val (.int q3), .val (.int mm), .val (.int (1 : Int32)), .val (.int (0 : Int32)), .unset] [(.int (0 : Int32))])
      refine Go.to (fun _ => XS.istore X15.here hx rfl (hb hby at_331) rfl (l' := #[.val (.int p1), .val (.int p2), .val (.int p3), .val (.int p4), .val (.int p5), .val (.int p6), .val (.int zn), .val (.int x0), .val (.int x1), .val (.int x2), .val (.int x3), .val (.int k0), .val (.int k1), .val (.int k2), .val (.int k3), .val (.ref a5), .val (.int q0), .val (.int q1), .val (.int q2), .val (.int q3), .val (.int mm), .val (.int (1 : Int32)), .val (.int (0 : Int32)), .val (.int (0 : Int32))]) rfl) ?_
      show Go p e below _ T15 (mkF m 333 #[.val (.int p1), .val (.int p2), .val (.int p3), .val (.int p4), .val (.int p5), .val (.int p6), .val (.int zn), .val (.int x0), .val (.int x1), .val (.int x2), .val (.int x3), .val (.int k0), .val (.int k1), .val (.int k2), .val (.int k3), .val (.ref a5), .val (.int q0), .val (.int q1), .val (.int q2), .val (.int q3), .val (.int mm), .val (.int (1 : Int32)), .val (.int (0 : Int32)), .val (.int (0 : Int32))] [])
      refine Go.to (fun _ => XS.goto X15.here hx rfl (pc0 := 333) (pc' := 367) rfl (hb hby at_333) (by decide) (by decide)) ?_
      show Go p e below _ T15 (mkF m 367 #[.val (.int p1), .val (.int p2), .val (.int p3), .val (.int p4), .val (.int p5), .val (.int p6), .val (.int zn), .val (.int x0), .val (.int x1), .val (.int x2), .val (.int x3), .val (.int k0), .val (.int k1), .val (.int k2), .val (.int k3), .val (.ref a5), .val (.int q0), .val (.int q1), .val (.int q2), .val (.int q3), .val (.int mm), .val (.int (1 : Int32)), .val (.int (0 : Int32)), .val (.int (0 : Int32))] [])
      exact k (1 : Int32) (by rw [if_pos hc13]) (0 : Int32) (by rw [if_pos hc13]) (0 : Int32) (by rw [if_pos hc13])
    · refine Go.to (fun _ => XS.ifNo X15.here hx rfl (hb hby at_314) rfl ((if0 _ _).trans (feq hc13).1)) ?_
      show Go p e below _ T15 (mkF m 317 #[.val (.int p1), .val (.int p2), .val (.int p3), .val (.int p4), .val (.int p5), .val (.int p6), .val (.int zn), .val (.int x0), .val (.int x1), .val (.int x2), .val (.int x3), .val (.int k0), .val (.int k1), .val (.int k2), .val (.int k3), .val (.ref a5), .val (.int q0), .val (.int q1), .val (.int q2), .val (.int q3), .val (.int mm), .unset, .unset, .unset] [])
      refine Go.to (fun _ => XS.iload X15.here hx rfl (hb hby at_317) rfl) ?_
      show Go p e below _ T15 (mkF m 319 #[.val (.int p1), .val (.int p2), .val (.int p3), .val (.int p4), .val (.int p5), .val (.int p6), .val (.int zn), .val (.int x0), .val (.int x1), .val (.int x2), .val (.int x3), .val (.int k0), .val (.int k1), .val (.int k2), .val (.int k3), .val (.ref a5), .val (.int q0), .val (.int q1), .val (.int q2), .val (.int q3), .val (.int mm), .unset, .unset, .unset] [(.int mm)])
      refine Go.to (fun _ => XS.iload X15.here hx rfl (hb hby at_319) rfl) ?_
      show Go p e below _ T15 (mkF m 321 #[.val (.int p1), .val (.int p2), .val (.int p3), .val (.int p4), .val (.int p5), .val (.int p6), .val (.int zn), .val (.int x0), .val (.int x1), .val (.int x2), .val (.int x3), .val (.int k0), .val (.int k1), .val (.int k2), .val (.int k3), .val (.ref a5), .val (.int q0), .val (.int q1), .val (.int q2), .val (.int q3), .val (.int mm), .unset, .unset, .unset] [(.int zn), (.int mm)])
      by_cases hc14 : mm = zn
      · refine Go.to (fun _ => XS.icmpNo X15.here hx rfl (hb hby at_321) rfl (teq hc14).2) ?_
        show Go p e below _ T15 (mkF m 324 #[.val (.int p1), .val (.int p2), .val (.int p3), .val (.int p4), .val (.int p5), .val (.int p6), .val (.int zn), .val (.int x0), .val (.int x1), .val (.int x2), .val (.int x3), .val (.int k0), .val (.int k1), .val (.int k2), .val (.int k3), .val (.ref a5), .val (.int q0), .val (.int q1), .val (.int q2), .val (.int q3), .val (.int mm), .unset, .unset, .unset] [])
        refine Go.to (fun _ => XS.iconst X15.here hx rfl (hb hby at_324)) ?_
        show Go p e below _ T15 (mkF m 325 #[.val (.int p1), .val (.int p2), .val (.int p3), .val (.int p4), .val (.int p5), .val (.int p6), .val (.int zn), .val (.int x0), .val (.int x1), .val (.int x2), .val (.int x3), .val (.int k0), .val (.int k1), .val (.int k2), .val (.int k3), .val (.ref a5), .val (.int q0), .val (.int q1), .val (.int q2), .val (.int q3), .val (.int mm), .unset, .unset, .unset] [(.int (1 : Int32))])
        refine Go.to (fun _ => XS.istore X15.here hx rfl (hb hby at_325) rfl (l' := #[.val (.int p1), .val (.int p2), .val (.int p3), .val (.int p4), .val (.int p5), .val (.int p6), .val (.int zn), .val (.int x0), .val (.int x1), .val (.int x2), .val (.int x3), .val (.int k0), .val (.int k1), .val (.int k2), .val (.int k3), .val (.ref a5), .val (.int q0), .val (.int q1), .val (.int q2), .val (.int q3), .val (.int mm), .val (.int (1 : Int32)), .unset, .unset]) rfl) ?_
        show Go p e below _ T15 (mkF m 327 #[.val (.int p1), .val (.int p2), .val (.int p3), .val (.int p4), .val (.int p5), .val (.int p6), .val (.int zn), .val (.int x0), .val (.int x1), .val (.int x2), .val (.int x3), .val (.int k0), .val (.int k1), .val (.int k2), .val (.int k3), .val (.ref a5), .val (.int q0), .val (.int q1), .val (.int q2), .val (.int q3), .val (.int mm), .val (.int (1 : Int32)), .unset, .unset] [])
        refine Go.to (fun _ => XS.iconst X15.here hx rfl (hb hby at_327)) ?_
        show Go p e below _ T15 (mkF m 328 #[.val (.int p1), .val (.int p2), .val (.int p3), .val (.int p4), .val (.int p5), .val (.int p6), .val (.int zn), .val (.int x0), .val (.int x1), .val (.int x2), .val (.int x3), .val (.int k0), .val (.int k1), .val (.int k2), .val (.int k3), .val (.ref a5), .val (.int q0), .val (.int q1), .val (.int q2), .val (.int q3), .val (.int mm), .val (.int (1 : Int32)), .unset, .unset] [(.int (0 : Int32))])
        refine Go.to (fun _ => XS.istore X15.here hx rfl (hb hby at_328) rfl (l' := #[.val (.int p1), .val (.int p2), .val (.int p3), .val (.int p4), .val (.int p5), .val (.int p6), .val (.int zn), .val (.int x0), .val (.int x1), .val (.int x2), .val (.int x3), .val (.int k0), .val (.int k1), .val (.int k2), .val (.int k3), .val (.ref a5), .val (.int q0), .val (.int q1), .val (.int q2), .val (.int q3), .val (.int mm), .val (.int (1 : Int32)), .val (.int (0 : Int32)), .unset]) rfl) ?_
        show Go p e below _ T15 (mkF m 330 #[.val (.int p1), .val (.int p2), .val (.int p3), .val (.int p4), .val (.int p5), .val (.int p6), .val (.int zn), .val (.int x0), .val (.int x1), .val (.int x2), .val (.int x3), .val (.int k0), .val (.int k1), .val (.int k2), .val (.int k3), .val (.ref a5), .val (.int q0), .val (.int q1), .val (.int q2), .val (.int q3), .val (.int mm), .val (.int (1 : Int32)), .val (.int (0 : Int32)), .unset] [])
        refine Go.to (fun _ => XS.iconst X15.here hx rfl (hb hby at_330)) ?_
        show Go p e below _ T15 (mkF m 331 #[.val (.int p1), .val (.int p2), .val (.int p3), .val (.int p4), .val (.int p5), .val (.int p6), .val (.int zn), .val (.int x0), .val (.int x1), .val (.int x2), .val (.int x3), .val (.int k0), .val (.int k1), .val (.int k2), .val (.int k3), .val (.ref a5), .val (.int q0), .val (.int q1), .val (.int q2), .val (.int q3), .val (.int mm), .val (.int (1 : Int32)), .val (.int (0 : Int32)), .unset] [(.int (0 : Int32))])
        refine Go.to (fun _ => XS.istore X15.here hx rfl (hb hby at_331) rfl (l' := #[.val (.int p1), .val (.int p2), .val (.int p3), .val (.int p4), .val (.int p5), .val (.int p6), .val (.int zn), .val (.int x0), .val (.int x1), .val (.int x2), .val (.int x3), .val (.int k0), .val (.int k1), .val (.int k2), .val (.int k3), .val (.ref a5), .val (.int q0), .val (.int q1), .val (.int q2), .val (.int q3), .val (.int mm), .val (.int (1 : Int32)), .val (.int (0 : Int32)), .val (.int (0 : Int32))]) rfl) ?_
        show Go p e below _ T15 (mkF m 333 #[.val (.int p1), .val (.int p2), .val (.int p3), .val (.int p4), .val (.int p5), .val (.int p6), .val (.int zn), .val (.int x0), .val (.int x1), .val (.int x2), .val (.int x3), .val (.int k0), .val (.int k1), .val (.int k2), .val (.int k3), .val (.ref a5), .val (.int q0), .val (.int q1), .val (.int q2), .val (.int q3), .val (.int mm), .val (.int (1 : Int32)), .val (.int (0 : Int32)), .val (.int (0 : Int32))] [])
        refine Go.to (fun _ => XS.goto X15.here hx rfl (pc0 := 333) (pc' := 367) rfl (hb hby at_333) (by decide) (by decide)) ?_
        show Go p e below _ T15 (mkF m 367 #[.val (.int p1), .val (.int p2), .val (.int p3), .val (.int p4), .val (.int p5), .val (.int p6), .val (.int zn), .val (.int x0), .val (.int x1), .val (.int x2), .val (.int x3), .val (.int k0), .val (.int k1), .val (.int k2), .val (.int k3), .val (.ref a5), .val (.int q0), .val (.int q1), .val (.int q2), .val (.int q3), .val (.int mm), .val (.int (1 : Int32)), .val (.int (0 : Int32)), .val (.int (0 : Int32))] [])
        exact k (1 : Int32) (by rw [if_neg hc13, if_pos hc14]) (0 : Int32) (by rw [if_neg hc13, if_pos hc14]) (0 : Int32) (by rw [if_neg hc13, if_pos hc14])
      · refine Go.to (fun _ => XS.icmpYes X15.here hx rfl (pc0 := 321) (pc' := 336) rfl (hb hby at_321) rfl (feq hc14).2 (by decide) (by decide)) ?_
        show Go p e below _ T15 (mkF m 336 #[.val (.int p1), .val (.int p2), .val (.int p3), .val (.int p4), .val (.int p5), .val (.int p6), .val (.int zn), .val (.int x0), .val (.int x1), .val (.int x2), .val (.int x3), .val (.int k0), .val (.int k1), .val (.int k2), .val (.int k3), .val (.ref a5), .val (.int q0), .val (.int q1), .val (.int q2), .val (.int q3), .val (.int mm), .unset, .unset, .unset] [])
        refine Go.to (fun _ => XS.iload X15.here hx rfl (hb hby at_336) rfl) ?_
        show Go p e below _ T15 (mkF m 338 #[.val (.int p1), .val (.int p2), .val (.int p3), .val (.int p4), .val (.int p5), .val (.int p6), .val (.int zn), .val (.int x0), .val (.int x1), .val (.int x2), .val (.int x3), .val (.int k0), .val (.int k1), .val (.int k2), .val (.int k3), .val (.ref a5), .val (.int q0), .val (.int q1), .val (.int q2), .val (.int q3), .val (.int mm), .unset, .unset, .unset] [(.int mm)])
        refine Go.to (fun _ => XS.iload X15.here hx rfl (hb hby at_338) rfl) ?_
        show Go p e below _ T15 (mkF m 340 #[.val (.int p1), .val (.int p2), .val (.int p3), .val (.int p4), .val (.int p5), .val (.int p6), .val (.int zn), .val (.int x0), .val (.int x1), .val (.int x2), .val (.int x3), .val (.int k0), .val (.int k1), .val (.int k2), .val (.int k3), .val (.ref a5), .val (.int q0), .val (.int q1), .val (.int q2), .val (.int q3), .val (.int mm), .unset, .unset, .unset] [(.int zn), (.int mm)])
        refine Go.to (fun _ => XS.iload X15.here hx rfl (hb hby at_340) rfl) ?_
        show Go p e below _ T15 (mkF m 342 #[.val (.int p1), .val (.int p2), .val (.int p3), .val (.int p4), .val (.int p5), .val (.int p6), .val (.int zn), .val (.int x0), .val (.int x1), .val (.int x2), .val (.int x3), .val (.int k0), .val (.int k1), .val (.int k2), .val (.int k3), .val (.ref a5), .val (.int q0), .val (.int q1), .val (.int q2), .val (.int q3), .val (.int mm), .unset, .unset, .unset] [(.int mm), (.int zn), (.int mm)])
        refine Go.to (fun _ => XS.isub X15.here hx rfl (hb hby at_342) rfl) ?_
        show Go p e below _ T15 (mkF m 343 #[.val (.int p1), .val (.int p2), .val (.int p3), .val (.int p4), .val (.int p5), .val (.int p6), .val (.int zn), .val (.int x0), .val (.int x1), .val (.int x2), .val (.int x3), .val (.int k0), .val (.int k1), .val (.int k2), .val (.int k3), .val (.ref a5), .val (.int q0), .val (.int q1), .val (.int q2), .val (.int q3), .val (.int mm), .unset, .unset, .unset] [(.int (zn - mm)), (.int mm)])
        by_cases hc15 : (zn - mm) < mm
        · refine Go.to (fun _ => XS.icmpYes X15.here hx rfl (pc0 := 343) (pc' := 358) rfl (hb hby at_343) rfl (tlt hc15).2.2.1 (by decide) (by decide)) ?_
          show Go p e below _ T15 (mkF m 358 #[.val (.int p1), .val (.int p2), .val (.int p3), .val (.int p4), .val (.int p5), .val (.int p6), .val (.int zn), .val (.int x0), .val (.int x1), .val (.int x2), .val (.int x3), .val (.int k0), .val (.int k1), .val (.int k2), .val (.int k3), .val (.ref a5), .val (.int q0), .val (.int q1), .val (.int q2), .val (.int q3), .val (.int mm), .unset, .unset, .unset] [])
          refine Go.to (fun _ => XS.iconst X15.here hx rfl (hb hby at_358)) ?_
          show Go p e below _ T15 (mkF m 359 #[.val (.int p1), .val (.int p2), .val (.int p3), .val (.int p4), .val (.int p5), .val (.int p6), .val (.int zn), .val (.int x0), .val (.int x1), .val (.int x2), .val (.int x3), .val (.int k0), .val (.int k1), .val (.int k2), .val (.int k3), .val (.ref a5), .val (.int q0), .val (.int q1), .val (.int q2), .val (.int q3), .val (.int mm), .unset, .unset, .unset] [(.int (2 : Int32))])
          refine Go.to (fun _ => XS.istore X15.here hx rfl (hb hby at_359) rfl (l' := #[.val (.int p1), .val (.int p2), .val (.int p3), .val (.int p4), .val (.int p5), .val (.int p6), .val (.int zn), .val (.int x0), .val (.int x1), .val (.int x2), .val (.int x3), .val (.int k0), .val (.int k1), .val (.int k2), .val (.int k3), .val (.ref a5), .val (.int q0), .val (.int q1), .val (.int q2), .val (.int q3), .val (.int mm), .val (.int (2 : Int32)), .unset, .unset]) rfl) ?_
          show Go p e below _ T15 (mkF m 361 #[.val (.int p1), .val (.int p2), .val (.int p3), .val (.int p4), .val (.int p5), .val (.int p6), .val (.int zn), .val (.int x0), .val (.int x1), .val (.int x2), .val (.int x3), .val (.int k0), .val (.int k1), .val (.int k2), .val (.int k3), .val (.ref a5), .val (.int q0), .val (.int q1), .val (.int q2), .val (.int q3), .val (.int mm), .val (.int (2 : Int32)), .unset, .unset] [])
          refine Go.to (fun _ => XS.iconst X15.here hx rfl (hb hby at_361)) ?_
          show Go p e below _ T15 (mkF m 362 #[.val (.int p1), .val (.int p2), .val (.int p3), .val (.int p4), .val (.int p5), .val (.int p6), .val (.int zn), .val (.int x0), .val (.int x1), .val (.int x2), .val (.int x3), .val (.int k0), .val (.int k1), .val (.int k2), .val (.int k3), .val (.ref a5), .val (.int q0), .val (.int q1), .val (.int q2), .val (.int q3), .val (.int mm), .val (.int (2 : Int32)), .unset, .unset] [(.int (0 : Int32))])
          refine Go.to (fun _ => XS.istore X15.here hx rfl (hb hby at_362) rfl (l' := #[.val (.int p1), .val (.int p2), .val (.int p3), .val (.int p4), .val (.int p5), .val (.int p6), .val (.int zn), .val (.int x0), .val (.int x1), .val (.int x2), .val (.int x3), .val (.int k0), .val (.int k1), .val (.int k2), .val (.int k3), .val (.ref a5), .val (.int q0), .val (.int q1), .val (.int q2), .val (.int q3), .val (.int mm), .val (.int (2 : Int32)), .val (.int (0 : Int32)), .unset]) rfl) ?_
          show Go p e below _ T15 (mkF m 364 #[.val (.int p1), .val (.int p2), .val (.int p3), .val (.int p4), .val (.int p5), .val (.int p6), .val (.int zn), .val (.int x0), .val (.int x1), .val (.int x2), .val (.int x3), .val (.int k0), .val (.int k1), .val (.int k2), .val (.int k3), .val (.ref a5), .val (.int q0), .val (.int q1), .val (.int q2), .val (.int q3), .val (.int mm), .val (.int (2 : Int32)), .val (.int (0 : Int32)), .unset] [])
          refine Go.to (fun _ => XS.iconst X15.here hx rfl (hb hby at_364)) ?_
          show Go p e below _ T15 (mkF m 365 #[.val (.int p1), .val (.int p2), .val (.int p3), .val (.int p4), .val (.int p5), .val (.int p6), .val (.int zn), .val (.int x0), .val (.int x1), .val (.int x2), .val (.int x3), .val (.int k0), .val (.int k1), .val (.int k2), .val (.int k3), .val (.ref a5), .val (.int q0), .val (.int q1), .val (.int q2), .val (.int q3), .val (.int mm), .val (.int (2 : Int32)), .val (.int (0 : Int32)), .unset] [(.int (1 : Int32))])
          refine Go.to (fun _ => XS.istore X15.here hx rfl (hb hby at_365) rfl (l' := #[.val (.int p1), .val (.int p2), .val (.int p3), .val (.int p4), .val (.int p5), .val (.int p6), .val (.int zn), .val (.int x0), .val (.int x1), .val (.int x2), .val (.int x3), .val (.int k0), .val (.int k1), .val (.int k2), .val (.int k3), .val (.ref a5), .val (.int q0), .val (.int q1), .val (.int q2), .val (.int q3), .val (.int mm), .val (.int (2 : Int32)), .val (.int (0 : Int32)), .val (.int (1 : Int32))]) rfl) ?_
          show Go p e below _ T15 (mkF m 367 #[.val (.int p1), .val (.int p2), .val (.int p3), .val (.int p4), .val (.int p5), .val (.int p6), .val (.int zn), .val (.int x0), .val (.int x1), .val (.int x2), .val (.int x3), .val (.int k0), .val (.int k1), .val (.int k2), .val (.int k3), .val (.ref a5), .val (.int q0), .val (.int q1), .val (.int q2), .val (.int q3), .val (.int mm), .val (.int (2 : Int32)), .val (.int (0 : Int32)), .val (.int (1 : Int32))] [])
          exact k (2 : Int32) (by rw [if_neg hc13, if_neg hc14, if_pos hc15]) (0 : Int32) (by rw [if_neg hc13, if_neg hc14, if_pos hc15]) (1 : Int32) (by rw [if_neg hc13, if_neg hc14, if_pos hc15])
        · refine Go.to (fun _ => XS.icmpNo X15.here hx rfl (hb hby at_343) rfl (flt hc15).2.2.1) ?_
          show Go p e below _ T15 (mkF m 346 #[.val (.int p1), .val (.int p2), .val (.int p3), .val (.int p4), .val (.int p5), .val (.int p6), .val (.int zn), .val (.int x0), .val (.int x1), .val (.int x2), .val (.int x3), .val (.int k0), .val (.int k1), .val (.int k2), .val (.int k3), .val (.ref a5), .val (.int q0), .val (.int q1), .val (.int q2), .val (.int q3), .val (.int mm), .unset, .unset, .unset] [])
          refine Go.to (fun _ => XS.iconst X15.here hx rfl (hb hby at_346)) ?_
          show Go p e below _ T15 (mkF m 347 #[.val (.int p1), .val (.int p2), .val (.int p3), .val (.int p4), .val (.int p5), .val (.int p6), .val (.int zn), .val (.int x0), .val (.int x1), .val (.int x2), .val (.int x3), .val (.int k0), .val (.int k1), .val (.int k2), .val (.int k3), .val (.ref a5), .val (.int q0), .val (.int q1), .val (.int q2), .val (.int q3), .val (.int mm), .unset, .unset, .unset] [(.int (2 : Int32))])
          refine Go.to (fun _ => XS.istore X15.here hx rfl (hb hby at_347) rfl (l' := #[.val (.int p1), .val (.int p2), .val (.int p3), .val (.int p4), .val (.int p5), .val (.int p6), .val (.int zn), .val (.int x0), .val (.int x1), .val (.int x2), .val (.int x3), .val (.int k0), .val (.int k1), .val (.int k2), .val (.int k3), .val (.ref a5), .val (.int q0), .val (.int q1), .val (.int q2), .val (.int q3), .val (.int mm), .val (.int (2 : Int32)), .unset, .unset]) rfl) ?_
          show Go p e below _ T15 (mkF m 349 #[.val (.int p1), .val (.int p2), .val (.int p3), .val (.int p4), .val (.int p5), .val (.int p6), .val (.int zn), .val (.int x0), .val (.int x1), .val (.int x2), .val (.int x3), .val (.int k0), .val (.int k1), .val (.int k2), .val (.int k3), .val (.ref a5), .val (.int q0), .val (.int q1), .val (.int q2), .val (.int q3), .val (.int mm), .val (.int (2 : Int32)), .unset, .unset] [])
          refine Go.to (fun _ => XS.iconst X15.here hx rfl (hb hby at_349)) ?_
          show Go p e below _ T15 (mkF m 350 #[.val (.int p1), .val (.int p2), .val (.int p3), .val (.int p4), .val (.int p5), .val (.int p6), .val (.int zn), .val (.int x0), .val (.int x1), .val (.int x2), .val (.int x3), .val (.int k0), .val (.int k1), .val (.int k2), .val (.int k3), .val (.ref a5), .val (.int q0), .val (.int q1), .val (.int q2), .val (.int q3), .val (.int mm), .val (.int (2 : Int32)), .unset, .unset] [(.int (1 : Int32))])
          refine Go.to (fun _ => XS.istore X15.here hx rfl (hb hby at_350) rfl (l' := #[.val (.int p1), .val (.int p2), .val (.int p3), .val (.int p4), .val (.int p5), .val (.int p6), .val (.int zn), .val (.int x0), .val (.int x1), .val (.int x2), .val (.int x3), .val (.int k0), .val (.int k1), .val (.int k2), .val (.int k3), .val (.ref a5), .val (.int q0), .val (.int q1), .val (.int q2), .val (.int q3), .val (.int mm), .val (.int (2 : Int32)), .val (.int (1 : Int32)), .unset]) rfl) ?_
          show Go p e below _ T15 (mkF m 352 #[.val (.int p1), .val (.int p2), .val (.int p3), .val (.int p4), .val (.int p5), .val (.int p6), .val (.int zn), .val (.int x0), .val (.int x1), .val (.int x2), .val (.int x3), .val (.int k0), .val (.int k1), .val (.int k2), .val (.int k3), .val (.ref a5), .val (.int q0), .val (.int q1), .val (.int q2), .val (.int q3), .val (.int mm), .val (.int (2 : Int32)), .val (.int (1 : Int32)), .unset] [])
          refine Go.to (fun _ => XS.iconst X15.here hx rfl (hb hby at_352)) ?_
          show Go p e below _ T15 (mkF m 353 #[.val (.int p1), .val (.int p2), .val (.int p3), .val (.int p4), .val (.int p5), .val (.int p6), .val (.int zn), .val (.int x0), .val (.int x1), .val (.int x2), .val (.int x3), .val (.int k0), .val (.int k1), .val (.int k2), .val (.int k3), .val (.ref a5), .val (.int q0), .val (.int q1), .val (.int q2), .val (.int q3), .val (.int mm), .val (.int (2 : Int32)), .val (.int (1 : Int32)), .unset] [(.int (0 : Int32))])
          refine Go.to (fun _ => XS.istore X15.here hx rfl (hb hby at_353) rfl (l' := #[.val (.int p1), .val (.int p2), .val (.int p3), .val (.int p4), .val (.int p5), .val (.int p6), .val (.int zn), .val (.int x0), .val (.int x1), .val (.int x2), .val (.int x3), .val (.int k0), .val (.int k1), .val (.int k2), .val (.int k3), .val (.ref a5), .val (.int q0), .val (.int q1), .val (.int q2), .val (.int q3), .val (.int mm), .val (.int (2 : Int32)), .val (.int (1 : Int32)), .val (.int (0 : Int32))]) rfl) ?_
          show Go p e below _ T15 (mkF m 355 #[.val (.int p1), .val (.int p2), .val (.int p3), .val (.int p4), .val (.int p5), .val (.int p6), .val (.int zn), .val (.int x0), .val (.int x1), .val (.int x2), .val (.int x3), .val (.int k0), .val (.int k1), .val (.int k2), .val (.int k3), .val (.ref a5), .val (.int q0), .val (.int q1), .val (.int q2), .val (.int q3), .val (.int mm), .val (.int (2 : Int32)), .val (.int (1 : Int32)), .val (.int (0 : Int32))] [])
          refine Go.to (fun _ => XS.goto X15.here hx rfl (pc0 := 355) (pc' := 367) rfl (hb hby at_355) (by decide) (by decide)) ?_
          show Go p e below _ T15 (mkF m 367 #[.val (.int p1), .val (.int p2), .val (.int p3), .val (.int p4), .val (.int p5), .val (.int p6), .val (.int zn), .val (.int x0), .val (.int x1), .val (.int x2), .val (.int x3), .val (.int k0), .val (.int k1), .val (.int k2), .val (.int k3), .val (.ref a5), .val (.int q0), .val (.int q1), .val (.int q2), .val (.int q3), .val (.int mm), .val (.int (2 : Int32)), .val (.int (1 : Int32)), .val (.int (0 : Int32))] [])
          exact k (2 : Int32) (by rw [if_neg hc13, if_neg hc14, if_neg hc15]) (1 : Int32) (by rw [if_neg hc13, if_neg hc14, if_neg hc15]) (0 : Int32) (by rw [if_neg hc13, if_neg hc14, if_neg hc15])
  refine hj20 (fun eC heC eM heM eU heU => ?_)
  clear hj20
  obtain ⟨y9, hy9, hf⟩ := Option.bind_eq_some_iff.mp hf
  rw [(Option.some.inj hy9).symm.trans heC.symm] at hf
  obtain ⟨y10, hy10, hf⟩ := Option.bind_eq_some_iff.mp hf
  rw [(Option.some.inj hy10).symm.trans heM.symm] at hf
  obtain ⟨y11, hy11, hf⟩ := Option.bind_eq_some_iff.mp hf
  rw [(Option.some.inj hy11).symm.trans heU.symm] at hf
  refine Go.to (fun _ => XS.aload X15.here hx rfl (hb hby at_367) rfl rfl) ?_
  show Go p e below _ T15 (mkF m 369 #[.val (.int p1), .val (.int p2), .val (.int p3), .val (.int p4), .val (.int p5), .val (.int p6), .val (.int zn), .val (.int x0), .val (.int x1), .val (.int x2), .val (.int x3), .val (.int k0), .val (.int k1), .val (.int k2), .val (.int k3), .val (.ref a5), .val (.int q0), .val (.int q1), .val (.int q2), .val (.int q3), .val (.int mm), .val (.int eC), .val (.int eM), .val (.int eU)] [(.ref a5)])
  refine Go.callV (y := (⟨"com/example/tracegauge/tracegauge/automata/Partition", "setCount", "()I"⟩ : MethodName)) X15 hx hZ hown (hw _ (List.mem_of_getElem? (i := 43) rfl)) (hw _ (List.mem_of_getElem? (i := 44) rfl)) (hw _ (List.mem_of_getElem? (i := 46) rfl)) (hw _ (List.mem_of_getElem? (i := 45) rfl)) (hw _ (List.mem_of_getElem? (i := 3) rfl)) (hw _ (List.mem_of_getElem? (i := 47) rfl)) (by decide) (rm6 l Z a0 hw [] a5 T11.heap n0 b0 b1 b2 b3 b4 b5 b6 el5 po5 se5 fi5 en5 ma5 tu5 tc5 sc5 O11) e15 O11.exa (by rw [hml]; rfl) (pd_2) rfl (argsL := []) (rest := []) rfl rfl (hb hby at_369) (by decide) (Nat.le_of_ble_eq_true rfl) (by decide) (by decide) ?_
  rintro T21 _ L21 X21 ⟨rfl, e21, rfl⟩
  simp only [List.append_nil] at X21
  show Go p e below _ T21 (mkF m 372 #[.val (.int p1), .val (.int p2), .val (.int p3), .val (.int p4), .val (.int p5), .val (.int p6), .val (.int zn), .val (.int x0), .val (.int x1), .val (.int x2), .val (.int x3), .val (.int k0), .val (.int k1), .val (.int k2), .val (.int k3), .val (.ref a5), .val (.int q0), .val (.int q1), .val (.int q2), .val (.int q3), .val (.int mm), .val (.int eC), .val (.int eM), .val (.int eU)] [(.int sc5)])
  refine Go.to (fun _ => XS.iload X21.here hx rfl (hb hby at_372) rfl) ?_
  show Go p e below _ T21 (mkF m 374 #[.val (.int p1), .val (.int p2), .val (.int p3), .val (.int p4), .val (.int p5), .val (.int p6), .val (.int zn), .val (.int x0), .val (.int x1), .val (.int x2), .val (.int x3), .val (.int k0), .val (.int k1), .val (.int k2), .val (.int k3), .val (.ref a5), .val (.int q0), .val (.int q1), .val (.int q2), .val (.int q3), .val (.int mm), .val (.int eC), .val (.int eM), .val (.int eU)] [(.int eC), (.int sc5)])
  by_cases hc16 : sc5 = eC
  · rw [if_pos hc16] at hf
    refine Go.to (fun _ => XS.icmpYes X21.here hx rfl (pc0 := 374) (pc' := 379) rfl (hb hby at_374) rfl (teq hc16).1 (by decide) (by decide)) ?_
    show Go p e below _ T21 (mkF m 379 #[.val (.int p1), .val (.int p2), .val (.int p3), .val (.int p4), .val (.int p5), .val (.int p6), .val (.int zn), .val (.int x0), .val (.int x1), .val (.int x2), .val (.int x3), .val (.int k0), .val (.int k1), .val (.int k2), .val (.int k3), .val (.ref a5), .val (.int q0), .val (.int q1), .val (.int q2), .val (.int q3), .val (.int mm), .val (.int eC), .val (.int eM), .val (.int eU)] [])
    refine Go.to (fun _ => XS.aload X21.here hx rfl (hb hby at_379) rfl rfl) ?_
    show Go p e below _ T21 (mkF m 381 #[.val (.int p1), .val (.int p2), .val (.int p3), .val (.int p4), .val (.int p5), .val (.int p6), .val (.int zn), .val (.int x0), .val (.int x1), .val (.int x2), .val (.int x3), .val (.int k0), .val (.int k1), .val (.int k2), .val (.int k3), .val (.ref a5), .val (.int q0), .val (.int q1), .val (.int q2), .val (.int q3), .val (.int mm), .val (.int eC), .val (.int eM), .val (.int eU)] [(.ref a5)])
    refine Go.to (fun _ => XS.iconst X21.here hx rfl (hb hby at_381)) ?_
    show Go p e below _ T21 (mkF m 382 #[.val (.int p1), .val (.int p2), .val (.int p3), .val (.int p4), .val (.int p5), .val (.int p6), .val (.int zn), .val (.int x0), .val (.int x1), .val (.int x2), .val (.int x3), .val (.int k0), .val (.int k1), .val (.int k2), .val (.int k3), .val (.ref a5), .val (.int q0), .val (.int q1), .val (.int q2), .val (.int q3), .val (.int mm), .val (.int eC), .val (.int eM), .val (.int eU)] [(.int (0 : Int32)), (.ref a5)])
    refine Go.to (fun _ => XS.iload X21.here hx rfl (hb hby at_382) rfl) ?_
    show Go p e below _ T21 (mkF m 384 #[.val (.int p1), .val (.int p2), .val (.int p3), .val (.int p4), .val (.int p5), .val (.int p6), .val (.int zn), .val (.int x0), .val (.int x1), .val (.int x2), .val (.int x3), .val (.int k0), .val (.int k1), .val (.int k2), .val (.int k3), .val (.ref a5), .val (.int q0), .val (.int q1), .val (.int q2), .val (.int q3), .val (.int mm), .val (.int eC), .val (.int eM), .val (.int eU)] [(.int zn), (.int (0 : Int32)), (.ref a5)])
    refine Go.to (fun _ => XS.iload X21.here hx rfl (hb hby at_384) rfl) ?_
    show Go p e below _ T21 (mkF m 386 #[.val (.int p1), .val (.int p2), .val (.int p3), .val (.int p4), .val (.int p5), .val (.int p6), .val (.int zn), .val (.int x0), .val (.int x1), .val (.int x2), .val (.int x3), .val (.int k0), .val (.int k1), .val (.int k2), .val (.int k3), .val (.ref a5), .val (.int q0), .val (.int q1), .val (.int q2), .val (.int q3), .val (.int mm), .val (.int eC), .val (.int eM), .val (.int eU)] [(.int q0), (.int zn), (.int (0 : Int32)), (.ref a5)])
    refine Go.to (fun _ => XS.iload X21.here hx rfl (hb hby at_386) rfl) ?_
    show Go p e below _ T21 (mkF m 388 #[.val (.int p1), .val (.int p2), .val (.int p3), .val (.int p4), .val (.int p5), .val (.int p6), .val (.int zn), .val (.int x0), .val (.int x1), .val (.int x2), .val (.int x3), .val (.int k0), .val (.int k1), .val (.int k2), .val (.int k3), .val (.ref a5), .val (.int q0), .val (.int q1), .val (.int q2), .val (.int q3), .val (.int mm), .val (.int eC), .val (.int eM), .val (.int eU)] [(.int eM), (.int q0), (.int zn), (.int (0 : Int32)), (.ref a5)])
    refine Go.to (fun _ => XS.iload X21.here hx rfl (hb hby at_388) rfl) ?_
    show Go p e below _ T21 (mkF m 390 #[.val (.int p1), .val (.int p2), .val (.int p3), .val (.int p4), .val (.int p5), .val (.int p6), .val (.int zn), .val (.int x0), .val (.int x1), .val (.int x2), .val (.int x3), .val (.int k0), .val (.int k1), .val (.int k2), .val (.int k3), .val (.ref a5), .val (.int q0), .val (.int q1), .val (.int q2), .val (.int q3), .val (.int mm), .val (.int eC), .val (.int eM), .val (.int eU)] [(.int eU), (.int eM), (.int q0), (.int zn), (.int (0 : Int32)), (.ref a5)])
    obtain ⟨c12, hc12, hf⟩ := Option.bind_eq_some_iff.mp hf
    refine Go.callS (y := (⟨"com/example/tracegauge/tracegauge/automata/PartitionMarkPinLaw", "check", "(Lcom/example/tracegauge/tracegauge/automata/Partition;IIZII)Z"⟩ : MethodName)) X21 hx hZ hown (hw _ (List.mem_of_getElem? (i := 48) rfl)) (hw _ (List.mem_of_getElem? (i := 49) rfl)) (hw _ (List.mem_of_getElem? (i := 41) rfl)) (hw _ (List.mem_of_getElem? (i := 50) rfl)) (by decide) (rm7 l Z a0 hw [] a5 (0 : Int32) zn q0 eM eU T11.heap n0 b0 b1 b2 b3 b4 b5 b6 el5 po5 se5 fi5 en5 ma5 tu5 tc5 sc5 O11 c12 hc12) e21 (by rw [hml]; rfl) (pd_5) rfl (argsL := [(.ref a5), (.int (0 : Int32)), (.int zn), (.int q0), (.int eM), (.int eU)]) (rest := []) rfl rfl (hb hby at_390) (by decide) (Nat.le_of_ble_eq_true rfl) (by decide) (by decide) ?_
    rintro T22 _ L22 X22 ⟨rfl, e22, rfl⟩
    simp only [List.append_nil] at X22
    show Go p e below _ T22 (mkF m 393 #[.val (.int p1), .val (.int p2), .val (.int p3), .val (.int p4), .val (.int p5), .val (.int p6), .val (.int zn), .val (.int x0), .val (.int x1), .val (.int x2), .val (.int x3), .val (.int k0), .val (.int k1), .val (.int k2), .val (.int k3), .val (.ref a5), .val (.int q0), .val (.int q1), .val (.int q2), .val (.int q3), .val (.int mm), .val (.int eC), .val (.int eM), .val (.int eU)] [(.int c12)])
    by_cases hc17 : c12 = (0 : Int32)
    · rw [if_pos hc17] at hf
      refine Go.to (fun _ => XS.ifYes X22.here hx rfl (pc0 := 393) (pc' := 451) rfl (hb hby at_393) rfl ((if0 _ _).trans (teq hc17).1) (by decide) (by decide)) ?_
      show Go p e below _ T22 (mkF m 451 #[.val (.int p1), .val (.int p2), .val (.int p3), .val (.int p4), .val (.int p5), .val (.int p6), .val (.int zn), .val (.int x0), .val (.int x1), .val (.int x2), .val (.int x3), .val (.int k0), .val (.int k1), .val (.int k2), .val (.int k3), .val (.ref a5), .val (.int q0), .val (.int q1), .val (.int q2), .val (.int q3), .val (.int mm), .val (.int eC), .val (.int eM), .val (.int eU)] [])
      refine Go.to (fun _ => XS.iconst X22.here hx rfl (hb hby at_451)) ?_
      show Go p e below _ T22 (mkF m 452 #[.val (.int p1), .val (.int p2), .val (.int p3), .val (.int p4), .val (.int p5), .val (.int p6), .val (.int zn), .val (.int x0), .val (.int x1), .val (.int x2), .val (.int x3), .val (.int k0), .val (.int k1), .val (.int k2), .val (.int k3), .val (.ref a5), .val (.int q0), .val (.int q1), .val (.int q2), .val (.int q3), .val (.int mm), .val (.int eC), .val (.int eM), .val (.int eU)] [(.int (0 : Int32))])
      exact absurd (Option.some.inj hf) (by decide)
    · rw [if_neg hc17] at hf
      refine Go.to (fun _ => XS.ifNo X22.here hx rfl (hb hby at_393) rfl ((if0 _ _).trans (feq hc17).1)) ?_
      show Go p e below _ T22 (mkF m 396 #[.val (.int p1), .val (.int p2), .val (.int p3), .val (.int p4), .val (.int p5), .val (.int p6), .val (.int zn), .val (.int x0), .val (.int x1), .val (.int x2), .val (.int x3), .val (.int k0), .val (.int k1), .val (.int k2), .val (.int k3), .val (.ref a5), .val (.int q0), .val (.int q1), .val (.int q2), .val (.int q3), .val (.int mm), .val (.int eC), .val (.int eM), .val (.int eU)] [])
      refine Go.to (fun _ => XS.aload X22.here hx rfl (hb hby at_396) rfl rfl) ?_
      show Go p e below _ T22 (mkF m 398 #[.val (.int p1), .val (.int p2), .val (.int p3), .val (.int p4), .val (.int p5), .val (.int p6), .val (.int zn), .val (.int x0), .val (.int x1), .val (.int x2), .val (.int x3), .val (.int k0), .val (.int k1), .val (.int k2), .val (.int k3), .val (.ref a5), .val (.int q0), .val (.int q1), .val (.int q2), .val (.int q3), .val (.int mm), .val (.int eC), .val (.int eM), .val (.int eU)] [(.ref a5)])
      refine Go.to (fun _ => XS.iconst X22.here hx rfl (hb hby at_398)) ?_
      show Go p e below _ T22 (mkF m 399 #[.val (.int p1), .val (.int p2), .val (.int p3), .val (.int p4), .val (.int p5), .val (.int p6), .val (.int zn), .val (.int x0), .val (.int x1), .val (.int x2), .val (.int x3), .val (.int k0), .val (.int k1), .val (.int k2), .val (.int k3), .val (.ref a5), .val (.int q0), .val (.int q1), .val (.int q2), .val (.int q3), .val (.int mm), .val (.int eC), .val (.int eM), .val (.int eU)] [(.int (1 : Int32)), (.ref a5)])
      refine Go.to (fun _ => XS.iload X22.here hx rfl (hb hby at_399) rfl) ?_
      show Go p e below _ T22 (mkF m 401 #[.val (.int p1), .val (.int p2), .val (.int p3), .val (.int p4), .val (.int p5), .val (.int p6), .val (.int zn), .val (.int x0), .val (.int x1), .val (.int x2), .val (.int x3), .val (.int k0), .val (.int k1), .val (.int k2), .val (.int k3), .val (.ref a5), .val (.int q0), .val (.int q1), .val (.int q2), .val (.int q3), .val (.int mm), .val (.int eC), .val (.int eM), .val (.int eU)] [(.int zn), (.int (1 : Int32)), (.ref a5)])
      refine Go.to (fun _ => XS.iload X22.here hx rfl (hb hby at_401) rfl) ?_
      show Go p e below _ T22 (mkF m 403 #[.val (.int p1), .val (.int p2), .val (.int p3), .val (.int p4), .val (.int p5), .val (.int p6), .val (.int zn), .val (.int x0), .val (.int x1), .val (.int x2), .val (.int x3), .val (.int k0), .val (.int k1), .val (.int k2), .val (.int k3), .val (.ref a5), .val (.int q0), .val (.int q1), .val (.int q2), .val (.int q3), .val (.int mm), .val (.int eC), .val (.int eM), .val (.int eU)] [(.int q1), (.int zn), (.int (1 : Int32)), (.ref a5)])
      refine Go.to (fun _ => XS.iload X22.here hx rfl (hb hby at_403) rfl) ?_
      show Go p e below _ T22 (mkF m 405 #[.val (.int p1), .val (.int p2), .val (.int p3), .val (.int p4), .val (.int p5), .val (.int p6), .val (.int zn), .val (.int x0), .val (.int x1), .val (.int x2), .val (.int x3), .val (.int k0), .val (.int k1), .val (.int k2), .val (.int k3), .val (.ref a5), .val (.int q0), .val (.int q1), .val (.int q2), .val (.int q3), .val (.int mm), .val (.int eC), .val (.int eM), .val (.int eU)] [(.int eM), (.int q1), (.int zn), (.int (1 : Int32)), (.ref a5)])
      refine Go.to (fun _ => XS.iload X22.here hx rfl (hb hby at_405) rfl) ?_
      show Go p e below _ T22 (mkF m 407 #[.val (.int p1), .val (.int p2), .val (.int p3), .val (.int p4), .val (.int p5), .val (.int p6), .val (.int zn), .val (.int x0), .val (.int x1), .val (.int x2), .val (.int x3), .val (.int k0), .val (.int k1), .val (.int k2), .val (.int k3), .val (.ref a5), .val (.int q0), .val (.int q1), .val (.int q2), .val (.int q3), .val (.int mm), .val (.int eC), .val (.int eM), .val (.int eU)] [(.int eU), (.int eM), (.int q1), (.int zn), (.int (1 : Int32)), (.ref a5)])
      obtain ⟨c13, hc13, hf⟩ := Option.bind_eq_some_iff.mp hf
      refine Go.callS (y := (⟨"com/example/tracegauge/tracegauge/automata/PartitionMarkPinLaw", "check", "(Lcom/example/tracegauge/tracegauge/automata/Partition;IIZII)Z"⟩ : MethodName)) X22 hx hZ hown (hw _ (List.mem_of_getElem? (i := 48) rfl)) (hw _ (List.mem_of_getElem? (i := 49) rfl)) (hw _ (List.mem_of_getElem? (i := 41) rfl)) (hw _ (List.mem_of_getElem? (i := 50) rfl)) (by decide) (rm7 l Z a0 hw [] a5 (1 : Int32) zn q1 eM eU T11.heap n0 b0 b1 b2 b3 b4 b5 b6 el5 po5 se5 fi5 en5 ma5 tu5 tc5 sc5 O11 c13 hc13) e22 (by rw [hml]; rfl) (pd_5) rfl (argsL := [(.ref a5), (.int (1 : Int32)), (.int zn), (.int q1), (.int eM), (.int eU)]) (rest := []) rfl rfl (hb hby at_407) (by decide) (Nat.le_of_ble_eq_true rfl) (by decide) (by decide) ?_
      rintro T23 _ L23 X23 ⟨rfl, e23, rfl⟩
      simp only [List.append_nil] at X23
      show Go p e below _ T23 (mkF m 410 #[.val (.int p1), .val (.int p2), .val (.int p3), .val (.int p4), .val (.int p5), .val (.int p6), .val (.int zn), .val (.int x0), .val (.int x1), .val (.int x2), .val (.int x3), .val (.int k0), .val (.int k1), .val (.int k2), .val (.int k3), .val (.ref a5), .val (.int q0), .val (.int q1), .val (.int q2), .val (.int q3), .val (.int mm), .val (.int eC), .val (.int eM), .val (.int eU)] [(.int c13)])
      by_cases hc18 : c13 = (0 : Int32)
      · rw [if_pos hc18] at hf
        refine Go.to (fun _ => XS.ifYes X23.here hx rfl (pc0 := 410) (pc' := 451) rfl (hb hby at_410) rfl ((if0 _ _).trans (teq hc18).1) (by decide) (by decide)) ?_
        show Go p e below _ T23 (mkF m 451 #[.val (.int p1), .val (.int p2), .val (.int p3), .val (.int p4), .val (.int p5), .val (.int p6), .val (.int zn), .val (.int x0), .val (.int x1), .val (.int x2), .val (.int x3), .val (.int k0), .val (.int k1), .val (.int k2), .val (.int k3), .val (.ref a5), .val (.int q0), .val (.int q1), .val (.int q2), .val (.int q3), .val (.int mm), .val (.int eC), .val (.int eM), .val (.int eU)] [])
        refine Go.to (fun _ => XS.iconst X23.here hx rfl (hb hby at_451)) ?_
        show Go p e below _ T23 (mkF m 452 #[.val (.int p1), .val (.int p2), .val (.int p3), .val (.int p4), .val (.int p5), .val (.int p6), .val (.int zn), .val (.int x0), .val (.int x1), .val (.int x2), .val (.int x3), .val (.int k0), .val (.int k1), .val (.int k2), .val (.int k3), .val (.ref a5), .val (.int q0), .val (.int q1), .val (.int q2), .val (.int q3), .val (.int mm), .val (.int eC), .val (.int eM), .val (.int eU)] [(.int (0 : Int32))])
        exact absurd (Option.some.inj hf) (by decide)
      · rw [if_neg hc18] at hf
        refine Go.to (fun _ => XS.ifNo X23.here hx rfl (hb hby at_410) rfl ((if0 _ _).trans (feq hc18).1)) ?_
        show Go p e below _ T23 (mkF m 413 #[.val (.int p1), .val (.int p2), .val (.int p3), .val (.int p4), .val (.int p5), .val (.int p6), .val (.int zn), .val (.int x0), .val (.int x1), .val (.int x2), .val (.int x3), .val (.int k0), .val (.int k1), .val (.int k2), .val (.int k3), .val (.ref a5), .val (.int q0), .val (.int q1), .val (.int q2), .val (.int q3), .val (.int mm), .val (.int eC), .val (.int eM), .val (.int eU)] [])
        refine Go.to (fun _ => XS.aload X23.here hx rfl (hb hby at_413) rfl rfl) ?_
        show Go p e below _ T23 (mkF m 415 #[.val (.int p1), .val (.int p2), .val (.int p3), .val (.int p4), .val (.int p5), .val (.int p6), .val (.int zn), .val (.int x0), .val (.int x1), .val (.int x2), .val (.int x3), .val (.int k0), .val (.int k1), .val (.int k2), .val (.int k3), .val (.ref a5), .val (.int q0), .val (.int q1), .val (.int q2), .val (.int q3), .val (.int mm), .val (.int eC), .val (.int eM), .val (.int eU)] [(.ref a5)])
        refine Go.to (fun _ => XS.iconst X23.here hx rfl (hb hby at_415)) ?_
        show Go p e below _ T23 (mkF m 416 #[.val (.int p1), .val (.int p2), .val (.int p3), .val (.int p4), .val (.int p5), .val (.int p6), .val (.int zn), .val (.int x0), .val (.int x1), .val (.int x2), .val (.int x3), .val (.int k0), .val (.int k1), .val (.int k2), .val (.int k3), .val (.ref a5), .val (.int q0), .val (.int q1), .val (.int q2), .val (.int q3), .val (.int mm), .val (.int eC), .val (.int eM), .val (.int eU)] [(.int (2 : Int32)), (.ref a5)])
        refine Go.to (fun _ => XS.iload X23.here hx rfl (hb hby at_416) rfl) ?_
        show Go p e below _ T23 (mkF m 418 #[.val (.int p1), .val (.int p2), .val (.int p3), .val (.int p4), .val (.int p5), .val (.int p6), .val (.int zn), .val (.int x0), .val (.int x1), .val (.int x2), .val (.int x3), .val (.int k0), .val (.int k1), .val (.int k2), .val (.int k3), .val (.ref a5), .val (.int q0), .val (.int q1), .val (.int q2), .val (.int q3), .val (.int mm), .val (.int eC), .val (.int eM), .val (.int eU)] [(.int zn), (.int (2 : Int32)), (.ref a5)])
        refine Go.to (fun _ => XS.iload X23.here hx rfl (hb hby at_418) rfl) ?_
        show Go p e below _ T23 (mkF m 420 #[.val (.int p1), .val (.int p2), .val (.int p3), .val (.int p4), .val (.int p5), .val (.int p6), .val (.int zn), .val (.int x0), .val (.int x1), .val (.int x2), .val (.int x3), .val (.int k0), .val (.int k1), .val (.int k2), .val (.int k3), .val (.ref a5), .val (.int q0), .val (.int q1), .val (.int q2), .val (.int q3), .val (.int mm), .val (.int eC), .val (.int eM), .val (.int eU)] [(.int q2), (.int zn), (.int (2 : Int32)), (.ref a5)])
        refine Go.to (fun _ => XS.iload X23.here hx rfl (hb hby at_420) rfl) ?_
        show Go p e below _ T23 (mkF m 422 #[.val (.int p1), .val (.int p2), .val (.int p3), .val (.int p4), .val (.int p5), .val (.int p6), .val (.int zn), .val (.int x0), .val (.int x1), .val (.int x2), .val (.int x3), .val (.int k0), .val (.int k1), .val (.int k2), .val (.int k3), .val (.ref a5), .val (.int q0), .val (.int q1), .val (.int q2), .val (.int q3), .val (.int mm), .val (.int eC), .val (.int eM), .val (.int eU)] [(.int eM), (.int q2), (.int zn), (.int (2 : Int32)), (.ref a5)])
        refine Go.to (fun _ => XS.iload X23.here hx rfl (hb hby at_422) rfl) ?_
        show Go p e below _ T23 (mkF m 424 #[.val (.int p1), .val (.int p2), .val (.int p3), .val (.int p4), .val (.int p5), .val (.int p6), .val (.int zn), .val (.int x0), .val (.int x1), .val (.int x2), .val (.int x3), .val (.int k0), .val (.int k1), .val (.int k2), .val (.int k3), .val (.ref a5), .val (.int q0), .val (.int q1), .val (.int q2), .val (.int q3), .val (.int mm), .val (.int eC), .val (.int eM), .val (.int eU)] [(.int eU), (.int eM), (.int q2), (.int zn), (.int (2 : Int32)), (.ref a5)])
        obtain ⟨c14, hc14, hf⟩ := Option.bind_eq_some_iff.mp hf
        refine Go.callS (y := (⟨"com/example/tracegauge/tracegauge/automata/PartitionMarkPinLaw", "check", "(Lcom/example/tracegauge/tracegauge/automata/Partition;IIZII)Z"⟩ : MethodName)) X23 hx hZ hown (hw _ (List.mem_of_getElem? (i := 48) rfl)) (hw _ (List.mem_of_getElem? (i := 49) rfl)) (hw _ (List.mem_of_getElem? (i := 41) rfl)) (hw _ (List.mem_of_getElem? (i := 50) rfl)) (by decide) (rm7 l Z a0 hw [] a5 (2 : Int32) zn q2 eM eU T11.heap n0 b0 b1 b2 b3 b4 b5 b6 el5 po5 se5 fi5 en5 ma5 tu5 tc5 sc5 O11 c14 hc14) e23 (by rw [hml]; rfl) (pd_5) rfl (argsL := [(.ref a5), (.int (2 : Int32)), (.int zn), (.int q2), (.int eM), (.int eU)]) (rest := []) rfl rfl (hb hby at_424) (by decide) (Nat.le_of_ble_eq_true rfl) (by decide) (by decide) ?_
        rintro T24 _ L24 X24 ⟨rfl, e24, rfl⟩
        simp only [List.append_nil] at X24
        show Go p e below _ T24 (mkF m 427 #[.val (.int p1), .val (.int p2), .val (.int p3), .val (.int p4), .val (.int p5), .val (.int p6), .val (.int zn), .val (.int x0), .val (.int x1), .val (.int x2), .val (.int x3), .val (.int k0), .val (.int k1), .val (.int k2), .val (.int k3), .val (.ref a5), .val (.int q0), .val (.int q1), .val (.int q2), .val (.int q3), .val (.int mm), .val (.int eC), .val (.int eM), .val (.int eU)] [(.int c14)])
        by_cases hc19 : c14 = (0 : Int32)
        · rw [if_pos hc19] at hf
          refine Go.to (fun _ => XS.ifYes X24.here hx rfl (pc0 := 427) (pc' := 451) rfl (hb hby at_427) rfl ((if0 _ _).trans (teq hc19).1) (by decide) (by decide)) ?_
          show Go p e below _ T24 (mkF m 451 #[.val (.int p1), .val (.int p2), .val (.int p3), .val (.int p4), .val (.int p5), .val (.int p6), .val (.int zn), .val (.int x0), .val (.int x1), .val (.int x2), .val (.int x3), .val (.int k0), .val (.int k1), .val (.int k2), .val (.int k3), .val (.ref a5), .val (.int q0), .val (.int q1), .val (.int q2), .val (.int q3), .val (.int mm), .val (.int eC), .val (.int eM), .val (.int eU)] [])
          refine Go.to (fun _ => XS.iconst X24.here hx rfl (hb hby at_451)) ?_
          show Go p e below _ T24 (mkF m 452 #[.val (.int p1), .val (.int p2), .val (.int p3), .val (.int p4), .val (.int p5), .val (.int p6), .val (.int zn), .val (.int x0), .val (.int x1), .val (.int x2), .val (.int x3), .val (.int k0), .val (.int k1), .val (.int k2), .val (.int k3), .val (.ref a5), .val (.int q0), .val (.int q1), .val (.int q2), .val (.int q3), .val (.int mm), .val (.int eC), .val (.int eM), .val (.int eU)] [(.int (0 : Int32))])
          exact absurd (Option.some.inj hf) (by decide)
        · rw [if_neg hc19] at hf
          refine Go.to (fun _ => XS.ifNo X24.here hx rfl (hb hby at_427) rfl ((if0 _ _).trans (feq hc19).1)) ?_
          show Go p e below _ T24 (mkF m 430 #[.val (.int p1), .val (.int p2), .val (.int p3), .val (.int p4), .val (.int p5), .val (.int p6), .val (.int zn), .val (.int x0), .val (.int x1), .val (.int x2), .val (.int x3), .val (.int k0), .val (.int k1), .val (.int k2), .val (.int k3), .val (.ref a5), .val (.int q0), .val (.int q1), .val (.int q2), .val (.int q3), .val (.int mm), .val (.int eC), .val (.int eM), .val (.int eU)] [])
          refine Go.to (fun _ => XS.aload X24.here hx rfl (hb hby at_430) rfl rfl) ?_
          show Go p e below _ T24 (mkF m 432 #[.val (.int p1), .val (.int p2), .val (.int p3), .val (.int p4), .val (.int p5), .val (.int p6), .val (.int zn), .val (.int x0), .val (.int x1), .val (.int x2), .val (.int x3), .val (.int k0), .val (.int k1), .val (.int k2), .val (.int k3), .val (.ref a5), .val (.int q0), .val (.int q1), .val (.int q2), .val (.int q3), .val (.int mm), .val (.int eC), .val (.int eM), .val (.int eU)] [(.ref a5)])
          refine Go.to (fun _ => XS.iconst X24.here hx rfl (hb hby at_432)) ?_
          show Go p e below _ T24 (mkF m 433 #[.val (.int p1), .val (.int p2), .val (.int p3), .val (.int p4), .val (.int p5), .val (.int p6), .val (.int zn), .val (.int x0), .val (.int x1), .val (.int x2), .val (.int x3), .val (.int k0), .val (.int k1), .val (.int k2), .val (.int k3), .val (.ref a5), .val (.int q0), .val (.int q1), .val (.int q2), .val (.int q3), .val (.int mm), .val (.int eC), .val (.int eM), .val (.int eU)] [(.int (3 : Int32)), (.ref a5)])
          refine Go.to (fun _ => XS.iload X24.here hx rfl (hb hby at_433) rfl) ?_
          show Go p e below _ T24 (mkF m 435 #[.val (.int p1), .val (.int p2), .val (.int p3), .val (.int p4), .val (.int p5), .val (.int p6), .val (.int zn), .val (.int x0), .val (.int x1), .val (.int x2), .val (.int x3), .val (.int k0), .val (.int k1), .val (.int k2), .val (.int k3), .val (.ref a5), .val (.int q0), .val (.int q1), .val (.int q2), .val (.int q3), .val (.int mm), .val (.int eC), .val (.int eM), .val (.int eU)] [(.int zn), (.int (3 : Int32)), (.ref a5)])
          refine Go.to (fun _ => XS.iload X24.here hx rfl (hb hby at_435) rfl) ?_
          show Go p e below _ T24 (mkF m 437 #[.val (.int p1), .val (.int p2), .val (.int p3), .val (.int p4), .val (.int p5), .val (.int p6), .val (.int zn), .val (.int x0), .val (.int x1), .val (.int x2), .val (.int x3), .val (.int k0), .val (.int k1), .val (.int k2), .val (.int k3), .val (.ref a5), .val (.int q0), .val (.int q1), .val (.int q2), .val (.int q3), .val (.int mm), .val (.int eC), .val (.int eM), .val (.int eU)] [(.int q3), (.int zn), (.int (3 : Int32)), (.ref a5)])
          refine Go.to (fun _ => XS.iload X24.here hx rfl (hb hby at_437) rfl) ?_
          show Go p e below _ T24 (mkF m 439 #[.val (.int p1), .val (.int p2), .val (.int p3), .val (.int p4), .val (.int p5), .val (.int p6), .val (.int zn), .val (.int x0), .val (.int x1), .val (.int x2), .val (.int x3), .val (.int k0), .val (.int k1), .val (.int k2), .val (.int k3), .val (.ref a5), .val (.int q0), .val (.int q1), .val (.int q2), .val (.int q3), .val (.int mm), .val (.int eC), .val (.int eM), .val (.int eU)] [(.int eM), (.int q3), (.int zn), (.int (3 : Int32)), (.ref a5)])
          refine Go.to (fun _ => XS.iload X24.here hx rfl (hb hby at_439) rfl) ?_
          show Go p e below _ T24 (mkF m 441 #[.val (.int p1), .val (.int p2), .val (.int p3), .val (.int p4), .val (.int p5), .val (.int p6), .val (.int zn), .val (.int x0), .val (.int x1), .val (.int x2), .val (.int x3), .val (.int k0), .val (.int k1), .val (.int k2), .val (.int k3), .val (.ref a5), .val (.int q0), .val (.int q1), .val (.int q2), .val (.int q3), .val (.int mm), .val (.int eC), .val (.int eM), .val (.int eU)] [(.int eU), (.int eM), (.int q3), (.int zn), (.int (3 : Int32)), (.ref a5)])
          obtain ⟨c15, hc15, hf⟩ := Option.bind_eq_some_iff.mp hf
          refine Go.callS (y := (⟨"com/example/tracegauge/tracegauge/automata/PartitionMarkPinLaw", "check", "(Lcom/example/tracegauge/tracegauge/automata/Partition;IIZII)Z"⟩ : MethodName)) X24 hx hZ hown (hw _ (List.mem_of_getElem? (i := 48) rfl)) (hw _ (List.mem_of_getElem? (i := 49) rfl)) (hw _ (List.mem_of_getElem? (i := 41) rfl)) (hw _ (List.mem_of_getElem? (i := 50) rfl)) (by decide) (rm7 l Z a0 hw [] a5 (3 : Int32) zn q3 eM eU T11.heap n0 b0 b1 b2 b3 b4 b5 b6 el5 po5 se5 fi5 en5 ma5 tu5 tc5 sc5 O11 c15 hc15) e24 (by rw [hml]; rfl) (pd_5) rfl (argsL := [(.ref a5), (.int (3 : Int32)), (.int zn), (.int q3), (.int eM), (.int eU)]) (rest := []) rfl rfl (hb hby at_441) (by decide) (Nat.le_of_ble_eq_true rfl) (by decide) (by decide) ?_
          rintro T25 _ L25 X25 ⟨rfl, e25, rfl⟩
          simp only [List.append_nil] at X25
          show Go p e below _ T25 (mkF m 444 #[.val (.int p1), .val (.int p2), .val (.int p3), .val (.int p4), .val (.int p5), .val (.int p6), .val (.int zn), .val (.int x0), .val (.int x1), .val (.int x2), .val (.int x3), .val (.int k0), .val (.int k1), .val (.int k2), .val (.int k3), .val (.ref a5), .val (.int q0), .val (.int q1), .val (.int q2), .val (.int q3), .val (.int mm), .val (.int eC), .val (.int eM), .val (.int eU)] [(.int c15)])
          by_cases hc20 : c15 = (0 : Int32)
          · rw [if_pos hc20] at hf
            refine Go.to (fun _ => XS.ifYes X25.here hx rfl (pc0 := 444) (pc' := 451) rfl (hb hby at_444) rfl ((if0 _ _).trans (teq hc20).1) (by decide) (by decide)) ?_
            show Go p e below _ T25 (mkF m 451 #[.val (.int p1), .val (.int p2), .val (.int p3), .val (.int p4), .val (.int p5), .val (.int p6), .val (.int zn), .val (.int x0), .val (.int x1), .val (.int x2), .val (.int x3), .val (.int k0), .val (.int k1), .val (.int k2), .val (.int k3), .val (.ref a5), .val (.int q0), .val (.int q1), .val (.int q2), .val (.int q3), .val (.int mm), .val (.int eC), .val (.int eM), .val (.int eU)] [])
            refine Go.to (fun _ => XS.iconst X25.here hx rfl (hb hby at_451)) ?_
            show Go p e below _ T25 (mkF m 452 #[.val (.int p1), .val (.int p2), .val (.int p3), .val (.int p4), .val (.int p5), .val (.int p6), .val (.int zn), .val (.int x0), .val (.int x1), .val (.int x2), .val (.int x3), .val (.int k0), .val (.int k1), .val (.int k2), .val (.int k3), .val (.ref a5), .val (.int q0), .val (.int q1), .val (.int q2), .val (.int q3), .val (.int mm), .val (.int eC), .val (.int eM), .val (.int eU)] [(.int (0 : Int32))])
            exact absurd (Option.some.inj hf) (by decide)
          · rw [if_neg hc20] at hf
            refine Go.to (fun _ => XS.ifNo X25.here hx rfl (hb hby at_444) rfl ((if0 _ _).trans (feq hc20).1)) ?_
            show Go p e below _ T25 (mkF m 447 #[.val (.int p1), .val (.int p2), .val (.int p3), .val (.int p4), .val (.int p5), .val (.int p6), .val (.int zn), .val (.int x0), .val (.int x1), .val (.int x2), .val (.int x3), .val (.int k0), .val (.int k1), .val (.int k2), .val (.int k3), .val (.ref a5), .val (.int q0), .val (.int q1), .val (.int q2), .val (.int q3), .val (.int mm), .val (.int eC), .val (.int eM), .val (.int eU)] [])
            refine Go.to (fun _ => XS.iconst X25.here hx rfl (hb hby at_447)) ?_
            show Go p e below _ T25 (mkF m 448 #[.val (.int p1), .val (.int p2), .val (.int p3), .val (.int p4), .val (.int p5), .val (.int p6), .val (.int zn), .val (.int x0), .val (.int x1), .val (.int x2), .val (.int x3), .val (.int k0), .val (.int k1), .val (.int k2), .val (.int k3), .val (.ref a5), .val (.int q0), .val (.int q1), .val (.int q2), .val (.int q3), .val (.int mm), .val (.int eC), .val (.int eM), .val (.int eU)] [(.int (1 : Int32))])
            refine Go.to (fun _ => XS.goto X25.here hx rfl (pc0 := 448) (pc' := 452) rfl (hb hby at_448) (by decide) (by decide)) ?_
            show Go p e below _ T25 (mkF m 452 #[.val (.int p1), .val (.int p2), .val (.int p3), .val (.int p4), .val (.int p5), .val (.int p6), .val (.int zn), .val (.int x0), .val (.int x1), .val (.int x2), .val (.int x3), .val (.int k0), .val (.int k1), .val (.int k2), .val (.int k3), .val (.ref a5), .val (.int q0), .val (.int q1), .val (.int q2), .val (.int q3), .val (.int mm), .val (.int eC), .val (.int eM), .val (.int eU)] [(.int (1 : Int32))])
            rw [hK]
            exact Go.retZ X25 hx hlk hret (by decide) (hb hby at_452) ⟨rfl, N11⟩ (by decide) (by decide)
  · rw [if_neg hc16] at hf
    refine Go.to (fun _ => XS.icmpNo X21.here hx rfl (hb hby at_374) rfl (feq hc16).1) ?_
    show Go p e below _ T21 (mkF m 377 #[.val (.int p1), .val (.int p2), .val (.int p3), .val (.int p4), .val (.int p5), .val (.int p6), .val (.int zn), .val (.int x0), .val (.int x1), .val (.int x2), .val (.int x3), .val (.int k0), .val (.int k1), .val (.int k2), .val (.int k3), .val (.ref a5), .val (.int q0), .val (.int q1), .val (.int q2), .val (.int q3), .val (.int mm), .val (.int eC), .val (.int eM), .val (.int eU)] [])
    refine Go.to (fun _ => XS.iconst X21.here hx rfl (hb hby at_377)) ?_
    show Go p e below _ T21 (mkF m 378 #[.val (.int p1), .val (.int p2), .val (.int p3), .val (.int p4), .val (.int p5), .val (.int p6), .val (.int zn), .val (.int x0), .val (.int x1), .val (.int x2), .val (.int x3), .val (.int k0), .val (.int k1), .val (.int k2), .val (.int k3), .val (.ref a5), .val (.int q0), .val (.int q1), .val (.int q2), .val (.int q3), .val (.int mm), .val (.int eC), .val (.int eM), .val (.int eU)] [(.int (0 : Int32))])
    exact absurd (Option.some.inj hf) (by decide)
set_option maxHeartbeats 40000000 in
theorem comes_1 {Post : Tables → Env → Array Value → State → Outcome → State → Prop} (hpost : ∀ tb e args s v u, (limb_1_1.after args s (.returned v) u = true ∧ limb_1_2.after args s (.returned v) u = true ∧ True) → FrameEnd s (.returned v) u (Jvm.fieldLocs frame_1_writes args s ++ Jvm.arrayLocs frame_1_arrays args s ++ Jvm.staticLocs frame_1_statics s) 24 192 → Post tb e args s (.returned v) u) :
    ArmFor flags0 classFile x code maxLocals ret World_1 tables_1 room_1 Calls_1 rest_1 Pre_1 Post := by
  intro l hfl _ _ p e ha hc hk s m args below hf hA hF happ hP
  obtain ⟨hcalls, hrest, hpre⟩ := hP
  obtain ⟨-, -, -, hnamed, -, -, -, hat⟩ := (Spec.applies_iff hf).mp happ
  obtain ⟨hg, hn⟩ := and_e (Cond.before_iff.mp (show (Jvm.Cond.and given_1 narrow_1).before args s = true from hpre))
  obtain ⟨gc, gr0⟩ := and_e hg
  obtain ⟨g0, gr1⟩ := and_e gr0
  obtain ⟨g1, gr2⟩ := and_e gr1
  obtain ⟨g2, gr3⟩ := and_e gr2
  obtain ⟨g3, gr4⟩ := and_e gr3
  obtain ⟨g4, gr5⟩ := and_e gr4
  obtain ⟨w0, w1, w2, w3, w4, w5, rfl⟩ : ∃ w0 w1 w2 w3 w4 w5 : Value, args = #[w0, w1, w2, w3, w4, w5] := by
    have hs : args.size = 6 := by simpa [Cond.value, given_1] using gc
    obtain ⟨L⟩ := args
    match L, hs with
    | [w0, w1, w2, w3, w4, w5], _ => exact ⟨w0, w1, w2, w3, w4, w5, rfl⟩
  have hw := fun d (hd : d ∈ tables_1) => atoms_spec (ws := Jvm.Cond.code x code maxLocals ret :: tables_1) hat d (List.mem_cons_of_mem _ hd)
  obtain ⟨i0, ei0⟩ := is_v g0
  obtain rfl : w0 = (.int i0) := Option.some.inj ei0
  obtain ⟨i1, ei1⟩ := is_v g1
  obtain rfl : w1 = (.int i1) := Option.some.inj ei1
  obtain ⟨i2, ei2⟩ := is_v g2
  obtain rfl : w2 = (.int i2) := Option.some.inj ei2
  obtain ⟨i3, ei3⟩ := is_v g3
  obtain rfl : w3 = (.int i3) := Option.some.inj ei3
  obtain ⟨i4, ei4⟩ := is_v g4
  obtain rfl : w4 = (.int i4) := Option.some.inj ei4
  obtain ⟨i5, ei5⟩ := is_v gr5
  obtain rfl : w5 = (.int i5) := Option.some.inj ei5
  obtain ⟨n, o, h1, h2, h3, _, L, rfl, ⟨rfl, N⟩, hq⟩ := rm0 l s _ hw tables_1 i0 i1 i2 i3 i4 i5 s.heap s.heap.size (Nat.le_refl _) p e ha hc hk s m _ below hf ((Spec.applies_iff_loose hf).mp happ).1 ⟨rfl, State.Warmed39.refl s, rfl⟩ trivial
  refine ⟨n, _, h1, h2, h3, hpost _ _ _ _ _ _ ⟨Cond.after_iff.mpr rfl, Cond.after_iff.mpr (eq_i res_at (Term.int_eval (1)) rfl), trivial⟩ ⟨hq.1, hq.2.1, (hq.2.2.sift fun y hy => Or.inr (N y hy)).mono (by decide) (by decide)⟩⟩
theorem main_1_1 : Claimed_1_1 := comes_1 fun _ _ _ _ _ _ h hF => ⟨h.1, hF⟩
theorem main_1_2 : Claimed_1_2 := comes_1 fun _ _ _ _ _ _ h hF => ⟨h.2.1, hF⟩
end Jvm.Pilot.@@N@@
namespace Jvm.Pilot.@@N@@
open Jvm Jvm.ClassFile Sem Op Lib Jvm.Free Jvm.Stand Jvm.Pilot.@@N@@.Jvm.D
/-! MADE BY PROGRAM (witnessworld.py) out of the Statement's table words and the real class files: 9 classes; the members and pool entries that the words name. The judged class is class 1, her method 1. -/
namespace start1
open Jvm.ClassFile
def u (s : String) : CpInfo := .utf8 (stringToUtf16 s)
/-- a pool by its gaps: so many unusable entries, then the entry; so many at the end -/
def gap : Nat → List CpInfo → List CpInfo
  | 0, r => r
  | n + 1, r => .unusable :: gap n r
def poolList (es : List (Nat × CpInfo)) (last : Nat) : List CpInfo := es.foldr (fun e r => gap e.1 (e.2 :: r)) (gap last [])
def pool (es : List (Nat × CpInfo)) (last : Nat) : Array CpInfo := ⟨poolList es last⟩
def fileOf (pool : Array CpInfo) (this : Nat) (attrs : Array Attribute := #[]) (ms : Array MethodInfo := #[]) (fl : Nat := 33) (sup : Nat := 0) (ifs : Array Nat := #[]) (fds : Array FieldInfo := #[]) : ClassFile where
  minorVersion := 0
  majorVersion := 65
  constantPool := pool
  accessFlags := fl
  thisClass := this
  superClass := sup
  interfaces := ifs
  fields := fds
  methods := ms
  attributes := attrs
def plain (name : String) (sup : Option ClassId) : Class where
  name := name
  kind := .ordinary
  loader := none
  accessFlags := 33
  super := sup
  interfaces := #[]
  cf := none
  fields := #[]
  methods := #[]
  instanceTypes := #[]
  staticTypes := #[]
  resolved := #[]
  callSites := []
  init := .initialized
  statics := none
  mirror := none

def pool0 : Array CpInfo := pool [(5, u "<init>"), (0, u "()V"), (1, .class_ 10), (1, u "java/lang/Object")] 113

def k0c0 : Code := { maxStack := 0, maxLocals := 1, code := object_method_1_code, exceptionTable := #[], attributes := #[] }
def k0m0 : Method := { name := "<init>", desc := "()V", sig := { parameters := [], returnType := none }, accessFlags := 1, code := some k0c0 }
/-- java/lang/Object -/
def k0 : Class := { plain "java/lang/Object" none with
  accessFlags := 33
  interfaces := #[]
  cf := some (fileOf pool0 8 #[] #[{ accessFlags := 1, nameIndex := 5, descriptorIndex := 6, attributes := #[] }] 33 0 #[] #[])
  fields := #[]
  methods := #[k0m0]
  instanceTypes := #[]
  staticTypes := #[]
  resolved := Array.replicate 124 none
  statics := none }

def pool1 : Array CpInfo := pool [(2, .class_ 4), (1, u "java/lang/Object"), (0, u "<init>"), (0, u "()V"), (0, .integer 2147483647), (0, .class_ 9), (0, u "com/example/tracegauge/tracegauge/automata/Partition"), (0, .methodref 8 11), (0, .nameAndType 5 12), (0, u "(I)V"), (0, .methodref 8 14), (0, .nameAndType 15 12), (0, u "mark"), (0, .methodref 8 17), (0, .nameAndType 18 6), (0, u "split"), (0, .methodref 20 21), (0, .class_ 22), (0, .nameAndType 23 24), (0, u "com/example/tracegauge/tracegauge/automata/PartitionMarkPinLaw"), (0, u "hit"), (0, u "(IIZIZIZIZ)Z"), (0, .methodref 8 26), (0, .nameAndType 27 28), (0, u "setCount"), (0, u "()I"), (0, .methodref 20 30), (0, .nameAndType 31 32), (0, u "check"), (0, u "(Lcom/example/tracegauge/tracegauge/automata/Partition;IIZII)Z"), (0, .methodref 8 34), (0, .nameAndType 35 36), (0, u "setOf"), (0, u "(I)I"), (2, u "law"), (0, u "(IIIIII)Z")] 3

def k1m0 : Method := { name := "<init>", desc := "()V", sig := { parameters := [], returnType := none }, accessFlags := 1, code := none }
def k1c1 : Code := { maxStack := 9, maxLocals := 24, code := code, exceptionTable := #[], attributes := #[] }
def k1m1 : Method := { name := "law", desc := "(IIIIII)Z", sig := { parameters := [.int, .int, .int, .int, .int, .int], returnType := some .boolean }, accessFlags := 9, code := some k1c1 }
def k1c2 : Code := { maxStack := 2, maxLocals := 9, code := method_3_code, exceptionTable := #[], attributes := #[] }
def k1m2 : Method := { name := "hit", desc := "(IIZIZIZIZ)Z", sig := { parameters := [.int, .int, .boolean, .int, .boolean, .int, .boolean, .int, .boolean], returnType := some .boolean }, accessFlags := 10, code := some k1c2 }
def k1c3 : Code := { maxStack := 2, maxLocals := 7, code := method_4_code, exceptionTable := #[], attributes := #[] }
def k1m3 : Method := { name := "check", desc := "(Lcom/example/tracegauge/tracegauge/automata/Partition;IIZII)Z", sig := { parameters := [(.object "com/example/tracegauge/tracegauge/automata/Partition"), .int, .int, .boolean, .int, .int], returnType := some .boolean }, accessFlags := 10, code := some k1c3 }
/-- com/example/tracegauge/tracegauge/automata/PartitionMarkPinLaw -/
def k1 : Class := { plain "com/example/tracegauge/tracegauge/automata/PartitionMarkPinLaw" (some 0) with
  accessFlags := 49
  interfaces := #[]
  cf := some (fileOf pool1 20 #[] #[{ accessFlags := 1, nameIndex := 5, descriptorIndex := 6, attributes := #[] }, { accessFlags := 9, nameIndex := 39, descriptorIndex := 40, attributes := #[] }, { accessFlags := 10, nameIndex := 23, descriptorIndex := 24, attributes := #[] }, { accessFlags := 10, nameIndex := 31, descriptorIndex := 32, attributes := #[] }] 49 2 #[] #[])
  fields := #[]
  methods := #[k1m0, k1m1, k1m2, k1m3]
  instanceTypes := #[]
  staticTypes := #[]
  resolved := Array.replicate 44 none
  statics := none }

def pool2 : Array CpInfo := pool [(1, .methodref 2 3), (0, .class_ 4), (0, .nameAndType 5 6), (0, u "java/lang/Object"), (0, u "<init>"), (0, u "()V"), (0, .fieldref 8 9), (0, .class_ 10), (0, .nameAndType 11 12), (0, u "com/example/tracegauge/tracegauge/automata/Partition"), (0, u "elements"), (0, u "[I"), (0, .fieldref 8 14), (0, .nameAndType 15 12), (0, u "positions"), (0, .fieldref 8 17), (0, .nameAndType 18 12), (0, u "sets"), (0, .fieldref 8 20), (0, .nameAndType 21 12), (0, u "first"), (0, .fieldref 8 23), (0, .nameAndType 24 12), (0, u "end"), (0, .fieldref 8 26), (0, .nameAndType 27 12), (0, u "marked"), (0, .fieldref 8 29), (0, .nameAndType 30 12), (0, u "touched"), (0, .fieldref 8 32), (0, .nameAndType 33 34), (0, u "setCount"), (0, u "I"), (0, .fieldref 8 36), (0, .nameAndType 37 34), (0, u "touchedCount"), (0, u "(I)V"), (3, u "()I"), (0, u "setOf"), (0, u "(I)I"), (1, u "mark"), (0, u "split")] 2

def k2c0 : Code := { maxStack := 3, maxLocals := 3, code := prog_27_method_1_code, exceptionTable := #[], attributes := #[] }
def k2m0 : Method := { name := "<init>", desc := "(I)V", sig := { parameters := [.int], returnType := none }, accessFlags := 0, code := some k2c0 }
def k2c1 : Code := { maxStack := 1, maxLocals := 1, code := prog_27_method_2_code, exceptionTable := #[], attributes := #[] }
def k2m1 : Method := { name := "setCount", desc := "()I", sig := { parameters := [], returnType := some .int }, accessFlags := 0, code := some k2c1 }
def k2c2 : Code := { maxStack := 2, maxLocals := 2, code := prog_27_method_3_code, exceptionTable := #[], attributes := #[] }
def k2m2 : Method := { name := "setOf", desc := "(I)I", sig := { parameters := [.int], returnType := some .int }, accessFlags := 0, code := some k2c2 }
def k2c3 : Code := { maxStack := 5, maxLocals := 6, code := prog_27_method_7_code, exceptionTable := #[], attributes := #[] }
def k2m3 : Method := { name := "mark", desc := "(I)V", sig := { parameters := [.int], returnType := none }, accessFlags := 0, code := some k2c3 }
def k2c4 : Code := { maxStack := 4, maxLocals := 5, code := prog_27_method_8_code, exceptionTable := #[], attributes := #[] }
def k2m4 : Method := { name := "split", desc := "()V", sig := { parameters := [], returnType := none }, accessFlags := 0, code := some k2c4 }
/-- com/example/tracegauge/tracegauge/automata/Partition -/
def k2 : Class := { plain "com/example/tracegauge/tracegauge/automata/Partition" (some 0) with
  accessFlags := 48
  interfaces := #[]
  cf := some (fileOf pool2 8 #[] #[{ accessFlags := 0, nameIndex := 5, descriptorIndex := 38, attributes := #[] }, { accessFlags := 0, nameIndex := 33, descriptorIndex := 42, attributes := #[] }, { accessFlags := 0, nameIndex := 43, descriptorIndex := 44, attributes := #[] }, { accessFlags := 0, nameIndex := 46, descriptorIndex := 38, attributes := #[] }, { accessFlags := 0, nameIndex := 47, descriptorIndex := 6, attributes := #[] }] 48 2 #[] #[{ accessFlags := 18, nameIndex := 11, descriptorIndex := 12, attributes := #[] }, { accessFlags := 18, nameIndex := 15, descriptorIndex := 12, attributes := #[] }, { accessFlags := 18, nameIndex := 18, descriptorIndex := 12, attributes := #[] }, { accessFlags := 18, nameIndex := 21, descriptorIndex := 12, attributes := #[] }, { accessFlags := 18, nameIndex := 24, descriptorIndex := 12, attributes := #[] }, { accessFlags := 18, nameIndex := 27, descriptorIndex := 12, attributes := #[] }, { accessFlags := 18, nameIndex := 30, descriptorIndex := 12, attributes := #[] }, { accessFlags := 2, nameIndex := 37, descriptorIndex := 34, attributes := #[] }, { accessFlags := 2, nameIndex := 33, descriptorIndex := 34, attributes := #[] }])
  fields := #[{ name := "elements", type := (.array .int), accessFlags := 18, slot := 0, constantValue := 0 }, { name := "positions", type := (.array .int), accessFlags := 18, slot := 1, constantValue := 0 }, { name := "sets", type := (.array .int), accessFlags := 18, slot := 2, constantValue := 0 }, { name := "first", type := (.array .int), accessFlags := 18, slot := 3, constantValue := 0 }, { name := "end", type := (.array .int), accessFlags := 18, slot := 4, constantValue := 0 }, { name := "marked", type := (.array .int), accessFlags := 18, slot := 5, constantValue := 0 }, { name := "touched", type := (.array .int), accessFlags := 18, slot := 6, constantValue := 0 }, { name := "touchedCount", type := .int, accessFlags := 2, slot := 7, constantValue := 0 }, { name := "setCount", type := .int, accessFlags := 2, slot := 8, constantValue := 0 }]
  methods := #[k2m0, k2m1, k2m2, k2m3, k2m4]
  instanceTypes := #[(.array .int), (.array .int), (.array .int), (.array .int), (.array .int), (.array .int), (.array .int), .int, .int]
  staticTypes := #[]
  resolved := Array.replicate 50 none
  statics := none }

def pool3 : Array CpInfo := pool [(1, u "java/lang/Cloneable"), (0, .class_ 1), (0, u "java/lang/Object"), (0, .class_ 3)] 3

/-- java/lang/Cloneable -/
def k3 : Class := { plain "java/lang/Cloneable" (some 0) with
  accessFlags := 1537
  interfaces := #[]
  cf := some (fileOf pool3 2 #[] #[] 1537 4 #[] #[])
  fields := #[]
  methods := #[]
  instanceTypes := #[]
  staticTypes := #[]
  resolved := Array.replicate 8 none
  statics := none }

def pool4 : Array CpInfo := pool [(1, u "java/io/Serializable"), (0, .class_ 1), (0, u "java/lang/Object"), (0, .class_ 3)] 3

/-- java/io/Serializable -/
def k4 : Class := { plain "java/io/Serializable" (some 0) with
  accessFlags := 1537
  interfaces := #[]
  cf := some (fileOf pool4 2 #[] #[] 1537 4 #[] #[])
  fields := #[]
  methods := #[]
  instanceTypes := #[]
  staticTypes := #[]
  resolved := Array.replicate 8 none
  statics := none }

/-- the primitive byte -/
def k5 : Class := { plain "byte" none with kind := .primitive 'B', accessFlags := 0x411 }
/-- [B -/
def k6 : Class := { plain "[B" (some 0) with kind := .array 5 .byte, interfaces := #[3, 4], accessFlags := 1041 }

/-- the primitive int -/
def k7 : Class := { plain "int" none with kind := .primitive 'I', accessFlags := 0x411 }
/-- [I -/
def k8 : Class := { plain "[I" (some 0) with kind := .array 7 .int, interfaces := #[3, 4], accessFlags := 1041 }

def heap : Heap := #[]
def classes : Array Class := #[k0, k1, k2, k3, k4, k5, k6, k7, k8]
def interned : List (Array UInt16 × Addr) := []
def slotsUsed : Nat := 0
def theMethod : MethodId := ⟨1, 1⟩
def args0 : Array Value := #[.int 5, .int 1, .int 2, .int 1, .int 3, .int 4]
def aboutOver (below : List Frame) : State where
  vm := { classes := classes, interned := interned.toArray }
  heap := heap
  slotsUsed := slotsUsed
  threads := #[{ frames := .invoking theMethod args0 :: below }]
def below0 : List Frame := [.native { method := ⟨0, 0⟩, args := #[] }]
def about1 : State := aboutOver below0
def p0 : Program := .bare "" "" ""
def e0 : Env := launch0.env 0 0 0
theorem w_frames : about1.frames = Frame.invoking theMethod args0 :: below0 := rfl
set_option maxRecDepth 65536 in
theorem w_args : argsFit about1.vm theMethod args0 = true := by decide +kernel
set_option maxRecDepth 65536 in
theorem w_heap : heapFits about1 = true := by decide +kernel
set_option maxRecDepth 65536 in
theorem w_runnable : about1.curStatus? = some .runnable := by decide +kernel
set_option maxRecDepth 65536 in
theorem w_alone : about1.alone = true := by decide +kernel
set_option maxRecDepth 65536 in
theorem w_named : about1.methodNamed? x = some theMethod := by decide +kernel
set_option maxRecDepth 65536 in
theorem w_hears : about1.hears theMethod below0 = true := by decide +kernel
set_option maxRecDepth 65536 in
theorem w_ripe : about1.ripe theMethod args0 below0 = true := by decide +kernel
theorem w_running : about1.status = .running := rfl
set_option maxRecDepth 65536 in
theorem w_room : about1.hasRoom e0.platform room_1 = true :=
  launch0.hasRoom_least _ room_1 (by decide +kernel) (by decide +kernel) (by decide +kernel) (by decide +kernel) (by decide +kernel) (by decide +kernel)
theorem allAtoms_all (ts : List Jvm.Cond) (a : Array Jvm.Value) (st : Jvm.State) : (allAtoms ts).before a st = ts.all (fun c => c.before a st) := by
  induction ts with
  | nil => rfl
  | cons c t ih =>
    show (Jvm.Cond.and c (allAtoms t)).before a st = _
    rw [Jvm.Cond.before_and, ih, List.all_cons]
def words1 : List Jvm.Cond := Jvm.Cond.code x code maxLocals ret :: tables_1
/-- a 'code' word, met by the world's own term for the bytes: nothing is compared byte by byte -/
theorem code_word {y : MethodName} {bytes : ByteArray} {mx : Nat} {rt : Option FieldType} {a : Array Value} {s : State} {m : MethodId} {meth : Method} {c : Code} (h1 : s.methodNamed? y = some m) (h2 : s.vm.method? m = some meth) (h3 : meth.code = some c) (h4 : c.code = bytes)
    (h5 : (c.maxLocals == mx && c.exceptionTable.isEmpty && decide (c.maxStack ≤ mostOperands) && decide (meth.sig.returnType = rt) && !meth.locks && decide (parseMethodDescriptor y.desc = some meth.sig)) = true) : (Jvm.Cond.code y bytes mx rt).before a s = true := by
  simp only [Bool.and_eq_true, beq_iff_eq, Bool.not_eq_true', decide_eq_true_eq] at h5
  obtain ⟨⟨⟨⟨⟨g1, g2⟩, g3⟩, g4⟩, g5⟩, g6⟩ := h5
  simp [Cond.before, Cond.holds, Cond.value, h1, h2, h3, h4, g1, g2, g3, g4, g5, g6]
def isCode : Jvm.Cond → Bool
  | .code _ _ _ _ => true
  | _ => false
theorem all_split {L : List Jvm.Cond} {P : Jvm.Cond → Bool} (h1 : L.all (fun c => isCode c || P c) = true) (h2 : ∀ c ∈ L.filter isCode, P c = true) : L.all P = true := by
  refine List.all_eq_true.mpr fun c hc => ?_
  have h := List.all_eq_true.mp h1 c hc
  rcases Bool.eq_false_or_eq_true (isCode c) with hi | hi
  · exact h2 c (List.mem_filter.mpr ⟨hc, hi⟩)
  · simpa [hi] using h
set_option maxRecDepth 65536 in
theorem w_c0 : (Jvm.Cond.code x code maxLocals ret).before args0 about1 = true := code_word (m := ⟨1, 1⟩) (meth := k1m1) (c := k1c1) (by decide +kernel) rfl rfl rfl (by decide +kernel)
set_option maxRecDepth 65536 in
theorem w_c1 : (Jvm.Cond.code ({ cls := "com/example/tracegauge/tracegauge/automata/Partition", name := "<init>", desc := "(I)V" } : Jvm.MethodName) prog_27_method_1_code (3 : Nat) (Option.none : Option Jvm.ClassFile.FieldType)).before args0 about1 = true := code_word (m := ⟨2, 0⟩) (meth := k2m0) (c := k2c0) (by decide +kernel) rfl rfl rfl (by decide +kernel)
set_option maxRecDepth 65536 in
theorem w_c2 : (Jvm.Cond.code ({ cls := "java/lang/Object", name := "<init>", desc := "()V" } : Jvm.MethodName) object_method_1_code (1 : Nat) (Option.none : Option Jvm.ClassFile.FieldType)).before args0 about1 = true := code_word (m := ⟨0, 0⟩) (meth := k0m0) (c := k0c0) (by decide +kernel) rfl rfl rfl (by decide +kernel)
set_option maxRecDepth 65536 in
theorem w_c3 : (Jvm.Cond.code ({ cls := "com/example/tracegauge/tracegauge/automata/Partition", name := "mark", desc := "(I)V" } : Jvm.MethodName) prog_27_method_7_code (6 : Nat) (Option.none : Option Jvm.ClassFile.FieldType)).before args0 about1 = true := code_word (m := ⟨2, 3⟩) (meth := k2m3) (c := k2c3) (by decide +kernel) rfl rfl rfl (by decide +kernel)
set_option maxRecDepth 65536 in
theorem w_c4 : (Jvm.Cond.code ({ cls := "com/example/tracegauge/tracegauge/automata/Partition", name := "split", desc := "()V" } : Jvm.MethodName) prog_27_method_8_code (5 : Nat) (Option.none : Option Jvm.ClassFile.FieldType)).before args0 about1 = true := code_word (m := ⟨2, 4⟩) (meth := k2m4) (c := k2c4) (by decide +kernel) rfl rfl rfl (by decide +kernel)
set_option maxRecDepth 65536 in
theorem w_c5 : (Jvm.Cond.code ({ cls := "com/example/tracegauge/tracegauge/automata/PartitionMarkPinLaw", name := "hit", desc := "(IIZIZIZIZ)Z" } : Jvm.MethodName) method_3_code (9 : Nat) (Option.some Jvm.ClassFile.FieldType.boolean)).before args0 about1 = true := code_word (m := ⟨1, 2⟩) (meth := k1m2) (c := k1c2) (by decide +kernel) rfl rfl rfl (by decide +kernel)
set_option maxRecDepth 65536 in
theorem w_c6 : (Jvm.Cond.code ({ cls := "com/example/tracegauge/tracegauge/automata/Partition", name := "setCount", desc := "()I" } : Jvm.MethodName) prog_27_method_2_code (1 : Nat) (Option.some Jvm.ClassFile.FieldType.int)).before args0 about1 = true := code_word (m := ⟨2, 1⟩) (meth := k2m1) (c := k2c1) (by decide +kernel) rfl rfl rfl (by decide +kernel)
set_option maxRecDepth 65536 in
theorem w_c7 : (Jvm.Cond.code ({ cls := "com/example/tracegauge/tracegauge/automata/PartitionMarkPinLaw", name := "check", desc := "(Lcom/example/tracegauge/tracegauge/automata/Partition;IIZII)Z" } : Jvm.MethodName) method_4_code (7 : Nat) (Option.some Jvm.ClassFile.FieldType.boolean)).before args0 about1 = true := code_word (m := ⟨1, 3⟩) (meth := k1m3) (c := k1c3) (by decide +kernel) rfl rfl rfl (by decide +kernel)
set_option maxRecDepth 65536 in
theorem w_c8 : (Jvm.Cond.code ({ cls := "com/example/tracegauge/tracegauge/automata/Partition", name := "setOf", desc := "(I)I" } : Jvm.MethodName) prog_27_method_3_code (2 : Nat) (Option.some Jvm.ClassFile.FieldType.int)).before args0 about1 = true := code_word (m := ⟨2, 2⟩) (meth := k2m2) (c := k2c2) (by decide +kernel) rfl rfl rfl (by decide +kernel)
def codes1 : List Jvm.Cond := [Jvm.Cond.code x code maxLocals ret, Jvm.Cond.code ({ cls := "com/example/tracegauge/tracegauge/automata/Partition", name := "<init>", desc := "(I)V" } : Jvm.MethodName) prog_27_method_1_code (3 : Nat) (Option.none : Option Jvm.ClassFile.FieldType), Jvm.Cond.code ({ cls := "java/lang/Object", name := "<init>", desc := "()V" } : Jvm.MethodName) object_method_1_code (1 : Nat) (Option.none : Option Jvm.ClassFile.FieldType), Jvm.Cond.code ({ cls := "com/example/tracegauge/tracegauge/automata/Partition", name := "mark", desc := "(I)V" } : Jvm.MethodName) prog_27_method_7_code (6 : Nat) (Option.none : Option Jvm.ClassFile.FieldType), Jvm.Cond.code ({ cls := "com/example/tracegauge/tracegauge/automata/Partition", name := "split", desc := "()V" } : Jvm.MethodName) prog_27_method_8_code (5 : Nat) (Option.none : Option Jvm.ClassFile.FieldType), Jvm.Cond.code ({ cls := "com/example/tracegauge/tracegauge/automata/PartitionMarkPinLaw", name := "hit", desc := "(IIZIZIZIZ)Z" } : Jvm.MethodName) method_3_code (9 : Nat) (Option.some Jvm.ClassFile.FieldType.boolean), Jvm.Cond.code ({ cls := "com/example/tracegauge/tracegauge/automata/Partition", name := "setCount", desc := "()I" } : Jvm.MethodName) prog_27_method_2_code (1 : Nat) (Option.some Jvm.ClassFile.FieldType.int), Jvm.Cond.code ({ cls := "com/example/tracegauge/tracegauge/automata/PartitionMarkPinLaw", name := "check", desc := "(Lcom/example/tracegauge/tracegauge/automata/Partition;IIZII)Z" } : Jvm.MethodName) method_4_code (7 : Nat) (Option.some Jvm.ClassFile.FieldType.boolean), Jvm.Cond.code ({ cls := "com/example/tracegauge/tracegauge/automata/Partition", name := "setOf", desc := "(I)I" } : Jvm.MethodName) prog_27_method_3_code (2 : Nat) (Option.some Jvm.ClassFile.FieldType.int)]
set_option maxRecDepth 65536 in
theorem codes_eq : words1.filter isCode = codes1 := rfl
theorem w_codes : ∀ c ∈ words1.filter isCode, c.before args0 about1 = true := by
  rw [codes_eq]
  intro c hc
  simp only [codes1, List.mem_cons, List.not_mem_nil, or_false] at hc
  rcases hc with rfl | rfl | rfl | rfl | rfl | rfl | rfl | rfl | rfl
  · exact w_c0
  · exact w_c1
  · exact w_c2
  · exact w_c3
  · exact w_c4
  · exact w_c5
  · exact w_c6
  · exact w_c7
  · exact w_c8
set_option maxRecDepth 65536 in
theorem w_t1 : (words1.take 24).all (fun c => isCode c || c.before args0 about1) = true := by decide +kernel
set_option maxRecDepth 65536 in
theorem w_t2 : ((words1.drop 24).take 24).all (fun c => isCode c || c.before args0 about1) = true := by decide +kernel
set_option maxRecDepth 65536 in
theorem w_t3 : ((words1.drop 24).drop 24).all (fun c => isCode c || c.before args0 about1) = true := by decide +kernel
theorem w_tables : (allAtoms (Jvm.Cond.code x code maxLocals ret :: tables_1)).before args0 about1 = true := by
  rw [allAtoms_all]
  show words1.all (fun c => c.before args0 about1) = true
  refine all_split ?_ w_codes
  rw [← List.take_append_drop 24 words1, List.all_append, w_t1, ← List.take_append_drop 24 (words1.drop 24), List.all_append, w_t2, w_t3]
  rfl
set_option maxRecDepth 65536 in
theorem w_case : (Jvm.Cond.and given_1 narrow_1).before args0 about1 = true := by decide +kernel
theorem w_applies : (headSpec (Jvm.Cond.code x code maxLocals ret :: tables_1) room_1).applies x e0.platform about1 = true :=
  (Spec.applies_iff w_frames).mpr ⟨w_running, w_runnable, w_alone, w_named, w_hears, w_ripe, w_room, w_tables⟩
theorem atStart : AtStart classFile x code maxLocals ret World_1 tables_1 room_1 Calls_1 rest_1 Pre_1 launch0 p0 e0 about1 theMethod args0 below0 :=
  ⟨lists_1, trivial, launch0.admits_env _ _ _, launch0.least_env, fairChoices_fair.cas, fairChoices_fair.clock, w_frames, w_args, w_heap, w_applies, trivial, trivial, w_case⟩
end start1
theorem witness_1 : WitnessClaimed_1 := ⟨start1.p0, start1.e0, start1.about1, start1.theMethod, start1.args0, start1.below0, start1.atStart⟩
end Jvm.Pilot.@@N@@
