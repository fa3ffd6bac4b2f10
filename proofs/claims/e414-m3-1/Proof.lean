import JvmDerived
import JvmDerived.Pilot.@@N@@Statement
import JvmDerived.Pilot.@@N@@Code
set_option linter.unusedVariables false
set_option linter.unusedSimpArgs false
@@BLOCK:NumsL.lean.txt@@
set_option maxRecDepth 65536
namespace Jvm.Pilot.@@N@@
open Jvm Jvm.ClassFile Sem Op Lib Jvm.Free Jvm.Stand Jvm.LawKit Jvm.RoadKit Bundle Jvm.Pilot.@@N@@.Jvm.D
/-! OWN KIT: the walk in continuation style over lawnew's family -/
section OwnKit
variable {p : Program} {l : Launch} {e : Env} {R : Room} {s : State} {m : MethodId} {args : Array Value} {below : List Frame} {meth : Method} {c : Code} {T : State} {locs : List Loc} {cells slots : Nat} {Z : State} {a0 : Array Value} {h : Heap} {K : Outcome → State → Prop} {Q : Option Value → Heap → List Loc → Prop} {rc rs : Nat}
/-- from the frame g over T the run comes to its end, and K holds there -/
def Go (p : Program) (e : Env) (below : List Frame) (K : Outcome → State → Prop) (T : State) (g : JFrame) : Prop :=
  ∃ s₂ o, Steps p.tables e below (T.setTop g) s₂ ∧ s₂.status = .running ∧ Ended s₂ below o ∧ K o s₂
theorem Go.to {T T' : State} {g g' : JFrame} (st : ∀ t, Steps p.tables e below (T'.setTop g') t → Steps p.tables e below (T.setTop g) t) (k : Go p e below K T' g') : Go p e below K T g := by
  obtain ⟨s₂, o, h1, h2⟩ := k
  exact ⟨s₂, o, st _ h1, h2⟩
def KQ (s : State) (Q : Option Value → Heap → List Loc → Prop) (rc rs : Nat) : Outcome → State → Prop := fun o U => ∃ v L, o = .returned v ∧ Q v U.heap L ∧ FrameEnd s o U L rc rs
theorem Go.retW (X : Stand p l e R s m args below meth c T locs cells slots) (hx : p.tables.exec = Jvm.exec) (hlk : meth.locks = false) {pc : Nat} {Ls : Array Slot} {w : Value} {t : FieldType} {i : Instr} {rest : List Value} (hret : meth.sig.returnType = some t) (hn : narrow t w = w)
    (hi : (i = .ireturn ∧ (t = .int ∨ t = .boolean ∨ t = .byte ∨ t = .char ∨ t = .short) ∧ ∃ z, w = .int z) ∨ (i = .lreturn ∧ t = .long ∧ ∃ z, w = .long z) ∨ (i = .dreturn ∧ t = .double ∧ ∃ z, w = .double z) ∨ (i = .freturn ∧ t = .float ∧ ∃ z, w = .float z) ∨ (i = .areturn ∧ t.isReference = true ∧ w.isRef = true))
    (hd : decode c.code pc = .ok (i, 1)) (hq : Q (some w) T.heap locs) (hc : cells ≤ rc) (hs : slots ≤ rs) : Go p e below (KQ s Q rc rs) T (mkF m pc Ls (w :: rest)) := by
  obtain ⟨fs, hr, hrun, hended, hW, hsame⟩ := X.leave (v := some w) (fun h => by rw [hret] at h; cases h) hlk
  exact ⟨_, _, retOut X hx hret hn hi hd hr, hrun, hended, _, _, rfl, hq, ⟨_, rfl⟩, hW, hsame.mono hc hs⟩
theorem Go.retI (X : Stand p l e R s m args below meth c T locs cells slots) (hx : p.tables.exec = Jvm.exec) (hlk : meth.locks = false) {pc : Nat} {Ls : Array Slot} {z : Int32} {rest : List Value} (hret : meth.sig.returnType = some .int)
    (hd : decode c.code pc = .ok (.ireturn, 1)) (hq : Q (some (.int z)) T.heap locs) (hc : cells ≤ rc) (hs : slots ≤ rs) : Go p e below (KQ s Q rc rs) T (mkF m pc Ls (.int z :: rest)) :=
  Go.retW X hx hlk hret rfl (Or.inl ⟨rfl, Or.inl rfl, z, rfl⟩) hd hq hc hs
theorem Go.retJ (X : Stand p l e R s m args below meth c T locs cells slots) (hx : p.tables.exec = Jvm.exec) (hlk : meth.locks = false) {pc : Nat} {Ls : Array Slot} {z : Int64} {rest : List Value} (hret : meth.sig.returnType = some .long)
    (hd : decode c.code pc = .ok (.lreturn, 1)) (hq : Q (some (.long z)) T.heap locs) (hc : cells ≤ rc) (hs : slots ≤ rs) : Go p e below (KQ s Q rc rs) T (mkF m pc Ls (.long z :: rest)) :=
  Go.retW X hx hlk hret rfl (Or.inr (Or.inl ⟨rfl, rfl, z, rfl⟩)) hd hq hc hs
theorem Go.retZ (X : Stand p l e R s m args below meth c T locs cells slots) (hx : p.tables.exec = Jvm.exec) (hlk : meth.locks = false) {pc : Nat} {Ls : Array Slot} {z : Int32} {rest : List Value} (hret : meth.sig.returnType = some .boolean) (hz : z = 0 ∨ z = 1)
    (hd : decode c.code pc = .ok (.ireturn, 1)) (hq : Q (some (.int z)) T.heap locs) (hc : cells ≤ rc) (hs : slots ≤ rs) : Go p e below (KQ s Q rc rs) T (mkF m pc Ls (.int z :: rest)) :=
  Go.retW X hx hlk hret (by rcases hz with rfl | rfl <;> rfl) (Or.inl ⟨rfl, Or.inr (Or.inl rfl), z, rfl⟩) hd hq hc hs
theorem Go.retA (X : Stand p l e R s m args below meth c T locs cells slots) (hx : p.tables.exec = Jvm.exec) (hlk : meth.locks = false) {pc : Nat} {Ls : Array Slot} {w : Value} {t : FieldType} {rest : List Value} (hret : meth.sig.returnType = some t) (ht : t.isReference = true) (hw : w.isRef = true) (hn : narrow t w = w)
    (hd : decode c.code pc = .ok (.areturn, 1)) (hq : Q (some w) T.heap locs) (hc : cells ≤ rc) (hs : slots ≤ rs) : Go p e below (KQ s Q rc rs) T (mkF m pc Ls (w :: rest)) :=
  Go.retW X hx hlk hret hn (Or.inr (Or.inr (Or.inr (Or.inr ⟨rfl, ht, hw⟩)))) hd hq hc hs
theorem Go.retV (X : Stand p l e R s m args below meth c T locs cells slots) (hx : p.tables.exec = Jvm.exec) (hlk : meth.locks = false) {pc : Nat} {Ls : Array Slot} (hret : meth.sig.returnType = none)
    (hd : decode c.code pc = .ok (.return_, 1)) (hq : Q none T.heap locs) (hc : cells ≤ rc) (hs : slots ≤ rs) : Go p e below (KQ s Q rc rs) T (mkF m pc Ls []) := by
  obtain ⟨fs, hr, hrun, hended, hW, hsame⟩ := X.leave (v := none) (fun _ => rfl) hlk
  exact ⟨_, _, X.returnOut hx hret hd hr, hrun, hended, _, _, rfl, hq, ⟨_, rfl⟩, hW, hsame.mono hc hs⟩
/-- a contract in this family -/
abbrev Met1 (l : Launch) (Z : State) (y : MethodName) (bytes : ByteArray) (maxL : Nat) (ret : Option FieldType) (ws : List Jvm.Cond) (rm : Room) (as' : Array Value) (h0 : Heap) (Q : Option Value → Heap → List Loc → Prop) : Prop :=
  MetFree l y (head1 (Jvm.Cond.code y bytes maxL ret :: ws) rm) (fun a U => a = as' ∧ Z.Warmed39 U.vm ∧ U.heap = h0) (fun _ _ _ _ _ => True) (fun _ U o U' => ∃ v L, o = .returned v ∧ Q v U'.heap L ∧ FrameEnd U o U' L rm.cells rm.slots)
theorem metOf {y : MethodName} {bytes : ByteArray} {maxL : Nat} {ret : Option FieldType} {ws : List Jvm.Cond} {rm : Room} {as' : Array Value} {h0 : Heap} (hp : plainFor y = true)
    (body : ∀ (p : Program) (e : Env) (s : State) (m : MethodId) (below : List Frame) (meth : Method) (c : Code) (s₁ : State), p.tables.exec = Jvm.exec → c.code = bytes → c.maxLocals = maxL → s.vm.findClass y.cls = some m.cls → meth.name = y.name → meth.sig.returnType = ret → meth.locks = false → Z.Warmed39 s.vm →
      Stand p l e rm s m as' below meth c s₁ [] 0 0 → s₁.heap = h0 → Go p e below (KQ s Q rm.cells rm.slots) s₁ (entryFrame m as' maxL)) : Met1 l Z y bytes maxL ret ws rm as' h0 Q := by
  refine MetFree.of_bodySF hp hisR ?_
  intro p e s m args below meth c s₁ Bd hml0 hP hK
  obtain ⟨rfl, hZ, hh⟩ := hP
  exact body p e s m below meth c s₁ Bd.exec Bd.bytes hml0 (findClass_of_methodNamed Bd.named) (name_of_methodNamed Bd.named Bd.method).1 Bd.returns (BodyLoose.notSynchronized Bd) hZ (Stand.of_body Bd) (by rw [← hh, Bd.state]; rfl)
section Calls
variable {own : String} {index : Nat} {y : MethodName} {bytes : ByteArray} {maxL : Nat} {ret : Option FieldType} {rm : Room} {as' : Array Value} {pc : Nat} {Ls : Array Slot} {st rest argsL : List Value} {ps : List FieldType} {r : Option FieldType}
theorem Go.callS (X : Stand p l e R s m args below meth c T locs cells slots) (hx : p.tables.exec = Jvm.exec) (hZ : Z.Warmed39 s.vm) (hown : s.vm.findClass own = some m.cls)
    (w1 : (Cond.methodLink own index y).before a0 Z = true) (w2 : (Cond.static y).before a0 Z = true) (w3 : (Cond.initialized y.cls).before a0 Z = true) (w4 : (Cond.code y bytes maxL ret).before a0 Z = true)
    (hy : y.cls ≠ "java/lang/invoke/MethodHandle" ∧ y.cls ≠ "java/lang/invoke/VarHandle") (hM : Met1 l Z y bytes maxL ret [] rm as' h Q) (eT : T.heap = h) (hsize : Ls.size = c.maxLocals)
    (hpd : parseMethodDescriptor y.desc = some ⟨ps, r⟩) (hlen : argsL.length = ps.length) (hst : st = argsL.reverse ++ rest) (has : argsL.toArray = as') (hdc : decode c.code pc = .ok (.invokestatic index, 3))
    (hf : rm.frames + 1 ≤ R.frames) (hlo : (rest.map fun v => v.category).sum + (maxL + 11) + rm.locals ≤ R.locals) (hce : cells + rm.cells ≤ R.cells) (hsl : slots + rm.slots ≤ R.slots)
    (k : ∀ T' v L, Stand p l e R s m args below meth c T' (locs ++ L) (cells + rm.cells) (slots + rm.slots) → Q v T'.heap L → Go p e below K T' (mkF m (pc + 3) Ls (v.toList ++ rest))) : Go p e below K T (mkF m pc Ls st) := by
  obtain ⟨v, vm₁, ⟨T', L', c', n'⟩, -, X', ⟨L, hQ, e1, e2, e3⟩, st'⟩ := Jvm.LawKit.callS X hx hown (mvT hZ w1) (mvT hZ w2) (mvT hZ w3) (mvT hZ w4) hy (backOf (W := (rest.map fun v => v.category).sum) hM hZ w4 w3 hf hlo) (g := mkF m pc Ls st) rfl hsize (argsL := argsL) (rest := rest) (lenOf hpd hlen) hst (by show 2 * 0 + _ ≤ _; omega) hdc (fun _ _ => ⟨has, eT, hce, hsl⟩)
  dsimp only [Pt.U, Pt.locs, Pt.cells, Pt.slots] at X' e1 e2 e3 st' hQ
  subst e1 e2 e3
  exact Go.to st' (k T' v L X' hQ)
theorem Go.callI (X : Stand p l e R s m args below meth c T locs cells slots) (hx : p.tables.exec = Jvm.exec) (hZ : Z.Warmed39 s.vm) (hown : s.vm.findClass own = some m.cls) (hin : y.name = "<init>")
    (w1 : (Cond.methodLink own index y).before a0 Z = true) (w2 : (Cond.instanceMethod y).before a0 Z = true) (w3 : (Cond.initialized y.cls).before a0 Z = true) (w4 : (Cond.code y bytes maxL none).before a0 Z = true)
    (hy : y.cls ≠ "java/lang/invoke/MethodHandle" ∧ y.cls ≠ "java/lang/invoke/VarHandle") (hM : Met1 l Z y bytes maxL none [] rm as' h Q) (eT : T.heap = h) (hsize : Ls.size = c.maxLocals)
    (hpd : parseMethodDescriptor y.desc = some ⟨ps, r⟩) (hlen : argsL.length = ps.length) {a : Addr} (hst : st = argsL.reverse ++ .ref a :: rest) (has : (Value.ref a :: argsL).toArray = as') (hdc : decode c.code pc = .ok (.invokespecial index, 3))
    (hf : rm.frames + 1 ≤ R.frames) (hlo : (rest.map fun v => v.category).sum + (maxL + 11) + rm.locals ≤ R.locals) (hce : cells + rm.cells ≤ R.cells) (hsl : slots + rm.slots ≤ R.slots)
    (k : ∀ T' v L, Stand p l e R s m args below meth c T' (locs ++ L) (cells + rm.cells) (slots + rm.slots) → Q v T'.heap L → Go p e below K T' (mkF m (pc + 3) Ls (v.toList ++ rest))) : Go p e below K T (mkF m pc Ls st) := by
  obtain ⟨v, vm₁, ⟨T', L', c', n'⟩, -, X', ⟨L, hQ, e1, e2, e3⟩, st'⟩ := X.specialBack hx hin hown (mvT hZ w1) (mvT hZ w2) (mvT hZ w4) hy (backOf (W := (rest.map fun v => v.category).sum) hM hZ w4 w3 hf hlo) (g := mkF m pc Ls st) rfl hsize (Steps.refl _) (a := a) (argsL := argsL) (rest := rest) (lenOf hpd hlen) hst (by show 2 * 0 + _ ≤ _; omega) hdc (fun _ _ => ⟨has, eT, hce, hsl⟩)
  dsimp only [Pt.U, Pt.locs, Pt.cells, Pt.slots] at X' e1 e2 e3 st' hQ
  subst e1 e2 e3
  exact Go.to (fun _ q => st'.trans q) (k T' v L X' hQ)
theorem Go.callV (X : Stand p l e R s m args below meth c T locs cells slots) (hx : p.tables.exec = Jvm.exec) (hZ : Z.Warmed39 s.vm) (hown : s.vm.findClass own = some m.cls)
    (w1 : (Cond.methodLink own index y).before a0 Z = true) (w5 : (Cond.declares y).before a0 Z = true) {C : String} (w6 : (Cond.selects C y y).before a0 Z = true) (w2 : (Cond.instanceMethod y).before a0 Z = true) (w3 : (Cond.initialized y.cls).before a0 Z = true) (w4 : (Cond.code y bytes maxL ret).before a0 Z = true)
    (hy : y.cls ≠ "java/lang/invoke/MethodHandle" ∧ y.cls ≠ "java/lang/invoke/VarHandle") (hM : Met1 l Z y bytes maxL ret [] rm as' h Q) (eT : T.heap = h) {a : Addr} (E : Exa Z h a C) (hsize : Ls.size = c.maxLocals)
    (hpd : parseMethodDescriptor y.desc = some ⟨ps, r⟩) (hlen : argsL.length = ps.length) (hst : st = argsL.reverse ++ .ref a :: rest) (has : (Value.ref a :: argsL).toArray = as') (hdc : decode c.code pc = .ok (.invokevirtual index, 3))
    (hf : rm.frames + 1 ≤ R.frames) (hlo : (rest.map fun v => v.category).sum + (maxL + 11) + rm.locals ≤ R.locals) (hce : cells + rm.cells ≤ R.cells) (hsl : slots + rm.slots ≤ R.slots)
    (k : ∀ T' v L, Stand p l e R s m args below meth c T' (locs ++ L) (cells + rm.cells) (slots + rm.slots) → Q v T'.heap L → Go p e below K T' (mkF m (pc + 3) Ls (v.toList ++ rest))) : Go p e below K T (mkF m pc Ls st) := by
  obtain ⟨cq, kq, q1, q2, q3⟩ := isOf hZ eT E
  obtain ⟨v, vm₁, ⟨T', L', c', n'⟩, -, X', ⟨L, hQ, e1, e2, e3⟩, st'⟩ := X.virtualBack hx (y := y) (z := y) hown (mvT hZ w1) (mvT hZ w5) (notFace_of_selects (args := #[]) (mvT hZ w6)) (mvT hZ w6) (mvT hZ w2) hy (backOf (W := (rest.map fun v => v.category).sum) hM hZ w4 w3 hf hlo) q1 q3 (g := mkF m pc Ls st) rfl hsize (Steps.refl _) (argsL := argsL) (rest := rest) (lenOf hpd hlen) hst (by show 2 * 0 + _ ≤ _; omega) hdc (fun _ _ => ⟨has, eT, hce, hsl⟩)
  dsimp only [Pt.U, Pt.locs, Pt.cells, Pt.slots] at X' e1 e2 e3 st' hQ
  subst e1 e2 e3
  exact Go.to (fun _ q => st'.trans q) (k T' v L X' hQ)
end Calls
/-! arrays of ints (or of chars) by their list -/
def AV (Z : State) (h : Heap) (b : Addr) (ty : FieldType) (xs : List Int32) : Prop := ∃ cl : Cell, Arr Z h b cl ty ∧ cl.slots = (xs.map Value.int).toArray
def rdL (xs : List Int32) (j : Int32) : Option Int32 := if j < 0 then none else xs[j.toNatClampNeg]?
def wrL (xs : List Int32) (j v : Int32) : List Int32 := xs.set j.toNatClampNeg v
variable {b : Addr} {xs : List Int32} {j v w : Int32} {ty : FieldType} {h' : Heap}
theorem AV.lt (A : AV Z h b ty xs) : b < h.size := by obtain ⟨cl, A, -⟩ := A; exact A.lt
theorem AV.ext (A : AV Z h b ty xs) (E : Ext h h') : AV Z h' b ty xs := by obtain ⟨cl, A, q⟩ := A; exact ⟨cl, A.ext E, q⟩
theorem AV.other {a : Addr} {sl : Nat} {u : Value} (A : AV Z h b ty xs) (W : Wr h h' a sl u) (q : b ≠ a) : AV Z h' b ty xs := by obtain ⟨cl, A, r⟩ := A; exact ⟨cl, A.other W q, r⟩
theorem AV.keep {ws : List Addr} (A : AV Z h b ty xs) (Kp : Keep h h' ws) (q : b ∉ ws) : AV Z h' b ty xs := by obtain ⟨cl, A, r⟩ := A; exact ⟨cl, ⟨Kp.2.1 b cl A.1 q, A.2⟩, r⟩
theorem AV.same {n : Nat} (A : AV Z h b ty xs) (W : Wr h h' b n (.int v)) : AV Z h' b ty (xs.set n v) := by
  obtain ⟨cl, A, r⟩ := A
  refine ⟨_, A.same W, ?_⟩
  simp only [Cell.setSlot, r, List.setIfInBounds_toArray, List.map_set]
theorem AV.rd (A : AV Z h b ty xs) (hr : rdL xs j = some v) : ∃ cl : Cell, Arr Z h b cl ty ∧ ¬ (j < 0 ∨ cl.slots.size ≤ j.toNatClampNeg) ∧ cl.slots[j.toNatClampNeg]? = some (.int v) := by
  obtain ⟨cl, A, r⟩ := A
  unfold rdL at hr
  split at hr
  · cases hr
  · rename_i hj
    obtain ⟨hlt, hv⟩ := List.getElem?_eq_some_iff.mp hr
    refine ⟨cl, A, ?_, ?_⟩
    · rw [r]; simp only [List.size_toArray, List.length_map]; rintro (q | q)
      · exact hj q
      · omega
    · rw [r]; simp [hlt, hv]
theorem AV.new {cA : ClassId} {n : Int32} (A : Arr Z h b (newA cA .int n) .int) : AV Z h b .int (List.replicate n.toNatClampNeg 0) := ⟨_, A, by simp [newA, defaultValue]⟩
theorem AV.newC {cA : ClassId} {n : Int32} (A : Arr Z h b (newA cA .char n) .char) : AV Z h b .char (List.replicate n.toNatClampNeg 0) := ⟨_, A, by simp [newA, defaultValue]⟩
variable {pc : Nat} {Ls : Array Slot} {rest : List Value}
theorem Go.iaload (X : Stand p l e R s m args below meth c T locs cells slots) (hx : p.tables.exec = Jvm.exec) (hZ : Z.Warmed39 s.vm) (eT : T.heap = h) (A : AV Z h b .int xs) (hr : rdL xs j = some v) (hd : decode c.code pc = .ok (.iaload, 1))
    (k : Go p e below K T (mkF m (pc + 1) Ls (.int v :: rest))) : Go p e below K T (mkF m pc Ls (.int j :: .ref b :: rest)) := by
  obtain ⟨cl, A, h1, h2⟩ := A.rd hr
  exact Go.to (fun t q => X.iaload hx (by rw [eT]; exact A.1) (State.isArrayOf_alike hZ.alike A.2.1) A.2.2 h1 h2 (g := mkF m pc Ls (.int j :: .ref b :: rest)) rfl rfl hd t q) k
theorem Go.caload (X : Stand p l e R s m args below meth c T locs cells slots) (hx : p.tables.exec = Jvm.exec) (hZ : Z.Warmed39 s.vm) (eT : T.heap = h) (A : AV Z h b .char xs) (hr : rdL xs j = some v) (hd : decode c.code pc = .ok (.caload, 1))
    (k : Go p e below K T (mkF m (pc + 1) Ls (.int v :: rest))) : Go p e below K T (mkF m pc Ls (.int j :: .ref b :: rest)) := by
  obtain ⟨cl, A, h1, h2⟩ := A.rd hr
  exact Go.to (fun t q => X.caload hx (by rw [eT]; exact A.1) (State.isArrayOf_alike hZ.alike A.2.1) A.2.2 h1 h2 (g := mkF m pc Ls (.int j :: .ref b :: rest)) rfl rfl hd t q) k
theorem Go.alen (X : Stand p l e R s m args below meth c T locs cells slots) (hx : p.tables.exec = Jvm.exec) (hZ : Z.Warmed39 s.vm) (eT : T.heap = h) (A : AV Z h b ty xs) (hd : decode c.code pc = .ok (.arraylength, 1))
    (k : Go p e below K T (mkF m (pc + 1) Ls (.int xs.length.toInt32 :: rest))) : Go p e below K T (mkF m pc Ls (.ref b :: rest)) := by
  obtain ⟨cl, A, r⟩ := A
  refine Go.to (fun t q => X.arraylength hx (by rw [eT]; exact A.1) (State.isArrayOf_alike hZ.alike A.2.1) (g := mkF m pc Ls (.ref b :: rest)) rfl rfl hd t q) ?_
  simpa [r] using k
theorem Go.iastore (X : Stand p l e R s m args below meth c T locs cells slots) (hx : p.tables.exec = Jvm.exec) (hZ : Z.Warmed39 s.vm) (eT : T.heap = h) (A : AV Z h b .int xs) (hr : rdL xs j = some w) (hd : decode c.code pc = .ok (.iastore, 1))
    (k : ∀ T' h', Stand p l e R s m args below meth c T' (locs ++ [⟨b, j.toNatClampNeg⟩]) cells slots → T'.heap = h' → Wr h h' b j.toNatClampNeg (.int v) → AV Z h' b .int (wrL xs j v) → Go p e below K T' (mkF m (pc + 1) Ls rest)) : Go p e below K T (mkF m pc Ls (.int v :: .int j :: .ref b :: rest)) := by
  obtain ⟨cl, A', h1, h2⟩ := A.rd hr
  obtain ⟨T', h', X', e', W, st⟩ := stI X hx hZ eT A' (j := j) h1 (g := mkF m pc Ls (.int v :: .int j :: .ref b :: rest)) rfl rfl hd
  exact Go.to st (k T' h' X' e' W (A.same W))
theorem Go.castore (X : Stand p l e R s m args below meth c T locs cells slots) (hx : p.tables.exec = Jvm.exec) (hZ : Z.Warmed39 s.vm) (eT : T.heap = h) (A : AV Z h b .char xs) (hr : rdL xs j = some w) (hn : nar .char v = v) (hd : decode c.code pc = .ok (.castore, 1))
    (k : ∀ T' h', Stand p l e R s m args below meth c T' (locs ++ [⟨b, j.toNatClampNeg⟩]) cells slots → T'.heap = h' → Wr h h' b j.toNatClampNeg (.int v) → AV Z h' b .char (wrL xs j v) → Go p e below K T' (mkF m (pc + 1) Ls rest)) : Go p e below K T (mkF m pc Ls (.int v :: .int j :: .ref b :: rest)) := by
  obtain ⟨cl, A', h1, h2⟩ := A.rd hr
  obtain ⟨T', h', X', e', W, st⟩ := stC X hx hZ eT A' (j := j) h1 (g := mkF m pc Ls (.int v :: .int j :: .ref b :: rest)) rfl rfl hd
  rw [hn] at W
  exact Go.to st (k T' h' X' e' W (A.same W))
theorem Go.newI (X : Stand p l e R s m args below meth c T locs cells slots) (hx : p.tables.exec = Jvm.exec) (hZ : Z.Warmed39 s.vm) (wa : (Cond.arrayClass .int).before a0 Z = true) (eT : T.heap = h) (hd : decode c.code pc = .ok (.newarray .int, 2)) {n : Int32} (hn : ¬ n < 0) {cap : Nat} (hcap : n.toNatClampNeg ≤ cap) (hb : cap * 8 ≤ 536870912) (hc : cells + 1 ≤ R.cells) (hl : slots + cap ≤ R.slots)
    (k : ∀ T' h' b, Stand p l e R s m args below meth c T' locs (cells + 1) (slots + cap) → T'.heap = h' → Ext h h' → b = h.size → AV Z h' b .int (List.replicate n.toNatClampNeg 0) → Go p e below K T' (mkF m (pc + 2) Ls (.ref b :: rest))) : Go p e below K T (mkF m pc Ls (.int n :: rest)) := by
  obtain ⟨T', h', cA, X', e', E, A, st⟩ := newP X hx hZ (aty := .int) wa eT (g := mkF m pc Ls (.int n :: rest)) rfl hd rfl hn hcap hb hc hl
  exact Go.to st (k T' h' _ X' e' E rfl (AV.new A))
theorem Go.newC (X : Stand p l e R s m args below meth c T locs cells slots) (hx : p.tables.exec = Jvm.exec) (hZ : Z.Warmed39 s.vm) (wa : (Cond.arrayClass .char).before a0 Z = true) (eT : T.heap = h) (hd : decode c.code pc = .ok (.newarray .char, 2)) {n : Int32} (hn : ¬ n < 0) {cap : Nat} (hcap : n.toNatClampNeg ≤ cap) (hb : cap * 8 ≤ 536870912) (hc : cells + 1 ≤ R.cells) (hl : slots + cap ≤ R.slots)
    (k : ∀ T' h' b, Stand p l e R s m args below meth c T' locs (cells + 1) (slots + cap) → T'.heap = h' → Ext h h' → b = h.size → AV Z h' b .char (List.replicate n.toNatClampNeg 0) → Go p e below K T' (mkF m (pc + 2) Ls (.ref b :: rest))) : Go p e below K T (mkF m pc Ls (.int n :: rest)) := by
  obtain ⟨T', h', cA, X', e', E, A, st⟩ := newP X hx hZ (aty := .char) wa eT (g := mkF m pc Ls (.int n :: rest)) rfl hd rfl hn hcap hb hc hl
  exact Go.to st (k T' h' _ X' e' E rfl (AV.newC A))
theorem frOne {k n : Nat} {L : List Loc} (N : Fr k L) (q : k ≤ b) : Fr k (L ++ [⟨b, n⟩]) := N.app fun y hy => by cases List.mem_singleton.mp hy; exact q
end OwnKit
theorem pd_0 : parseMethodDescriptor "(J)I" = some ⟨[.long], some .int⟩ := by decide +kernel
def QP (r : Value) (h0 : Heap) : Option Value → Heap → List Loc → Prop := fun v h L => v = some r ∧ h = h0 ∧ L = []
def fA (q1 : Int64) : Int32 := (q1.toInt32)
theorem d1_0 : decode prog_37_method_3_code 0 = .ok (.lload_n 0, 1) := by decide +kernel
theorem d1_1 : decode prog_37_method_3_code 1 = .ok (.ldc2_w 17, 3) := by decide +kernel
theorem d1_4 : decode prog_37_method_3_code 4 = .ok (.lcmp, 1) := by decide +kernel
theorem d1_5 : decode prog_37_method_3_code 5 = .ok (.ifCond .le 13, 3) := by decide +kernel
theorem d1_18 : decode prog_37_method_3_code 18 = .ok (.lload_n 0, 1) := by decide +kernel
theorem d1_19 : decode prog_37_method_3_code 19 = .ok (.l2i, 1) := by decide +kernel
theorem d1_20 : decode prog_37_method_3_code 20 = .ok (.ireturn, 1) := by decide +kernel
theorem ef_rm1 (m : MethodId) (q1 : Int64) : entryFrame m #[(.long q1)] 2 = mkF m 0 #[.val (.long q1), .second] [] := by first | (simp [entryFrame, mkF, argsToLocals, Value.category]; done) | rfl
set_option maxHeartbeats 40000000 in
theorem rm1 (l : Launch) (Z : State) (a0 : Array Value) (hw : ∀ d ∈ tables_1, d.before a0 Z = true) (ws : List Jvm.Cond) (q1 : Int64) (h0 : Heap) (hn : ¬ (2147483639 : Int64) < q1) :
    Met1 l Z (⟨"com/example/tracegauge/tracegauge/graphs/Capacity", "exact", "(J)I"⟩ : MethodName) prog_37_method_3_code 2 (some .int) ws ({ frames := 0, cells := 0, slots := 0, locals := 0 } : Room) #[(.long q1)] h0 (QP (.int (fA q1)) h0) := by
  refine metOf (by first | exact plainFor_of_name (by first | (simp [plainName, overriddenIn]; done) | decide +kernel) | decide +kernel) ?_
  intro p e s m below meth c s₁ hx hby hml hown hnm hret hlk hZ X0 e0
  have hown : s.vm.findClass "com/example/tracegauge/tracegauge/graphs/Capacity" = some m.cls := hown
  obtain ⟨K, hK⟩ : ∃ K, K = KQ s (QP (.int (fA q1)) h0) (({ frames := 0, cells := 0, slots := 0, locals := 0 } : Room)).cells (({ frames := 0, cells := 0, slots := 0, locals := 0 } : Room)).slots := ⟨_, rfl⟩
  show Go p e below (KQ s (QP (.int (fA q1)) h0) (({ frames := 0, cells := 0, slots := 0, locals := 0 } : Room)).cells (({ frames := 0, cells := 0, slots := 0, locals := 0 } : Room)).slots) s₁ (entryFrame m #[(.long q1)] 2)
  rw [← hK, ef_rm1 m q1]
  show Go p e below _ s₁ (mkF m 0 #[.val (.long q1), .second] [])
  refine Go.to (fun _ => XS.lloadN X0.here hx rfl (hb hby d1_0) rfl) ?_
  show Go p e below _ s₁ (mkF m 1 #[.val (.long q1), .second] [(.long q1)])
  refine Go.to (fun _ => X0.ldc2Long hx hown (mvT hZ (hw _ (List.mem_of_getElem? (i := 6) rfl))) (g := (mkF m 1 #[.val (.long q1), .second] [(.long q1)])) rfl (hb hby d1_1) _) ?_
  show Go p e below _ s₁ (mkF m 4 #[.val (.long q1), .second] [(.long (2147483639 : Int64)), (.long q1)])
  refine Go.to (fun _ => XS.lcmp X0.here hx rfl (hb hby d1_4) rfl) ?_
  show Go p e below _ s₁ (mkF m 5 #[.val (.long q1), .second] [(.int (lcmpW q1 (2147483639 : Int64)))])
  refine Go.to (fun _ => XS.ifYes X0.here hx rfl (pc0 := 5) (pc' := 18) rfl (hb hby d1_5) rfl ((if0 _ _).trans (flt (fun q => hn ((lw_gt _ _).mp q))).2.2.2) (by decide) (by decide)) ?_
  show Go p e below _ s₁ (mkF m 18 #[.val (.long q1), .second] [])
  refine Go.to (fun _ => XS.lloadN X0.here hx rfl (hb hby d1_18) rfl) ?_
  show Go p e below _ s₁ (mkF m 19 #[.val (.long q1), .second] [(.long q1)])
  refine Go.to (fun _ => XS.l2i X0.here hx rfl (hb hby d1_19) rfl) ?_
  show Go p e below _ s₁ (mkF m 20 #[.val (.long q1), .second] [(.int (q1.toInt32))])
  rw [hK]
  exact Go.retI X0 hx hlk hret (hb hby d1_20) ⟨by rw [fA], e0, rfl⟩ (by decide) (by decide)
theorem own_n (x : Int64) (m : Int32) (z : Int64) (hz : z = (if m = (0 : Int32) then (2147483639 : Int64) else (if m = (1 : Int32) then (0 : Int64) else ((x &&& (9223372036854775807 : Int64)) - ((x &&& (9223372036854775807 : Int64)) / ((2147483639 : Int64) + (1 : Int64))) * ((2147483639 : Int64) + (1 : Int64)))))) :
    0 ≤ z.toInt ∧ z.toInt ≤ 2147483639 := by
  have e1 : (2147483639 : Int64).toInt = 2147483639 := by decide
  have e2 : ((2147483639 : Int64) + (1 : Int64)).toInt = 2147483640 := by decide
  have e3 : (0 : Int64).toInt = 0 := by decide
  have e4 : (x &&& (9223372036854775807 : Int64)).toInt = x.toInt % 2 ^ 63 := Jvm.Kit.i64_mask x _ (k := 63) (by decide) (by decide)
  have e5 := Jvm.Kit.i64_rem_nonneg (x := x &&& (9223372036854775807 : Int64)) (y := (2147483639 : Int64) + (1 : Int64)) (by omega)
  rw [e2] at e5
  subst hz
  split
  · omega
  · split
    · omega
    · omega
theorem own_r (z : Int64) (h : 0 ≤ z.toInt ∧ z.toInt ≤ 2147483639) : z.toInt32.toInt = z.toInt ∧ z.toInt32.toInt64 = z := by
  have e1 := Jvm.Kit.i32_of_i64 (x := z) (by omega) (by omega)
  exact ⟨e1, Int64.toInt_inj.mp (by rw [Jvm.Kit.i64_of_i32, e1])⟩
theorem ef_rm0 (m : MethodId) (p1 : Int64) (p2 : Int32) : entryFrame m #[(.long p1), (.int p2)] maxLocals = mkF m 0 #[.val (.long p1), .second, .val (.int p2), .unset, .unset, .unset, .unset, .unset, .unset] [] := by first | (simp [entryFrame, mkF, argsToLocals, Value.category, maxLocals]; done) | rfl
set_option maxHeartbeats 40000000 in
theorem rm0 (l : Launch) (Z : State) (a0 : Array Value) (hw : ∀ d ∈ tables_1, d.before a0 Z = true) (ws : List Jvm.Cond) (p1 : Int64) (p2 : Int32) (h0 : Heap) (n0 : Nat) (Z0 : n0 ≤ h0.size) :
    Met1 l Z x code maxLocals ret ws room_1 #[(.long p1), (.int p2)] h0 (fun v h L => v = some (.int 1) ∧ Fr n0 L) := by
  refine metOf (by first | exact plainFor_of_name (by first | (simp [plainName, overriddenIn]; done) | decide +kernel) | decide +kernel) ?_
  intro p e s m below meth c s₁ hx hby hml hown hnm hret hlk hZ X0 e0
  have hown : s.vm.findClass "com/example/tracegauge/tracegauge/graphs/CapacityExactPinLaw" = some m.cls := hown
  have hml : c.maxLocals = 9 := hml
  obtain ⟨K, hK⟩ : ∃ K, K = KQ s (fun v h L => v = some (.int 1) ∧ Fr n0 L) (room_1).cells (room_1).slots := ⟨_, rfl⟩
  show Go p e below (KQ s (fun v h L => v = some (.int 1) ∧ Fr n0 L) (room_1).cells (room_1).slots) s₁ (entryFrame m #[(.long p1), (.int p2)] maxLocals)
  rw [← hK, ef_rm0 m p1 p2]
  show Go p e below _ s₁ (mkF m 0 #[.val (.long p1), .second, .val (.int p2), .unset, .unset, .unset, .unset, .unset, .unset] [])
  refine Go.to (fun _ => X0.ldc2Long hx hown (mvT hZ (hw _ (List.mem_of_getElem? (i := 0) rfl))) (g := (mkF m 0 #[.val (.long p1), .second, .val (.int p2), .unset, .unset, .unset, .unset, .unset, .unset] [])) rfl (hb hby at_0) _) ?_
  show Go p e below _ s₁ (mkF m 3 #[.val (.long p1), .second, .val (.int p2), .unset, .unset, .unset, .unset, .unset, .unset] [(.long (2147483639 : Int64))])
  refine Go.to (fun _ => XS.lstoreN X0.here hx rfl (hb hby at_3) rfl (l' := #[.val (.long p1), .second, .val (.int p2), .val (.long (2147483639 : Int64)), .second, .unset, .unset, .unset, .unset]) rfl) ?_
  show Go p e below _ s₁ (mkF m 4 #[.val (.long p1), .second, .val (.int p2), .val (.long (2147483639 : Int64)), .second, .unset, .unset, .unset, .unset] [])
  refine Go.to (fun _ => XS.iloadN X0.here hx rfl (hb hby at_4) rfl) ?_
  show Go p e below _ s₁ (mkF m 5 #[.val (.long p1), .second, .val (.int p2), .val (.long (2147483639 : Int64)), .second, .unset, .unset, .unset, .unset] [(.int p2)])
  refine Go.to (fun _ => XS.iconst X0.here hx rfl (hb hby at_5)) ?_
  show Go p e below _ s₁ (mkF m 6 #[.val (.long p1), .second, .val (.int p2), .val (.long (2147483639 : Int64)), .second, .unset, .unset, .unset, .unset] [(.int (3 : Int32)), (.int p2)])
  refine Go.to (fun _ => XS.iand X0.here hx rfl (hb hby at_6) rfl) ?_
  show Go p e below _ s₁ (mkF m 7 #[.val (.long p1), .second, .val (.int p2), .val (.long (2147483639 : Int64)), .second, .unset, .unset, .unset, .unset] [(.int (p2 &&& (3 : Int32)))])
  refine Go.to (fun _ => XS.istore X0.here hx rfl (hb hby at_7) rfl (l' := #[.val (.long p1), .second, .val (.int p2), .val (.long (2147483639 : Int64)), .second, .val (.int (p2 &&& (3 : Int32))), .unset, .unset, .unset]) rfl) ?_
  show Go p e below _ s₁ (mkF m 9 #[.val (.long p1), .second, .val (.int p2), .val (.long (2147483639 : Int64)), .second, .val (.int (p2 &&& (3 : Int32))), .unset, .unset, .unset] [])
  have hj1 : (∀ z6 : Int64, z6 = (if (p2 &&& (3 : Int32)) = (0 : Int32) then (2147483639 : Int64) else (if (p2 &&& (3 : Int32)) = (1 : Int32) then (0 : Int64) else ((p1 &&& (9223372036854775807 : Int64)) - ((p1 &&& (9223372036854775807 : Int64)) / ((2147483639 : Int64) + (1 : Int64))) * ((2147483639 : Int64) + (1 : Int64))))) → Go p e below K s₁ (mkF m 43 #[.val (.long p1), .second, .val (.int p2), .val (.long (2147483639 : Int64)), .second, .val (.int (p2 &&& (3 : Int32))), .val (.long z6), .second, .unset] [])) → Go p e below K s₁ (mkF m 9 #[.val (.long p1), .second, .val (.int p2), .val (.long (2147483639 : Int64)), .second, .val (.int (p2 &&& (3 : Int32))), .unset, .unset, .unset] []) := by
    intro k
    refine Go.to (fun _ => XS.iload X0.here hx rfl (hb hby at_9) rfl) ?_
    show Go p e below _ s₁ (mkF m 11 #[.val (.long p1), .second, .val (.int p2), .val (.long (2147483639 : Int64)), .second, .val (.int (p2 &&& (3 : Int32))), .unset, .unset, .unset] [(.int (p2 &&& (3 : Int32)))])
    by_cases hc1 : (p2 &&& (3 : Int32)) = (0 : Int32)
    · refine Go.to (fun _ => XS.ifNo X0.here hx rfl (hb hby at_11) rfl ((if0 _ _).trans (teq hc1).2)) ?_
      show Go p e below _ s₁ (mkF m 14 #[.val (.long p1), .second, .val (.int p2), .val (.long (2147483639 : Int64)), .second, .val (.int (p2 &&& (3 : Int32))), .unset, .unset, .unset] [])
      refine Go.to (fun _ => XS.lloadN X0.here hx rfl (hb hby at_14) rfl) ?_
      show Go p e below _ s₁ (mkF m 15 #[.val (.long p1), .second, .val (.int p2), .val (.long (2147483639 : Int64)), .second, .val (.int (p2 &&& (3 : Int32))), .unset, .unset, .unset] [(.long (2147483639 : Int64))])
      refine Go.to (fun _ => XS.lstore X0.here hx rfl (hb hby at_15) rfl (l' := #[.val (.long p1), .second, .val (.int p2), .val (.long (2147483639 : Int64)), .second, .val (.int (p2 &&& (3 : Int32))), .val (.long (2147483639 : Int64)), .second, .unset]) rfl) ?_
      show Go p e below _ s₁ (mkF m 17 #[.val (.long p1), .second, .val (.int p2), .val (.long (2147483639 : Int64)), .second, .val (.int (p2 &&& (3 : Int32))), .val (.long (2147483639 : Int64)), .second, .unset] [])
      refine Go.to (fun _ => XS.goto X0.here hx rfl (pc0 := 17) (pc' := 43) rfl (hb hby at_17) (by decide) (by decide)) ?_
      show Go p e below _ s₁ (mkF m 43 #[.val (.long p1), .second, .val (.int p2), .val (.long (2147483639 : Int64)), .second, .val (.int (p2 &&& (3 : Int32))), .val (.long (2147483639 : Int64)), .second, .unset] [])
      exact k (2147483639 : Int64) (by rw [if_pos hc1])
    · refine Go.to (fun _ => XS.ifYes X0.here hx rfl (pc0 := 11) (pc' := 20) rfl (hb hby at_11) rfl ((if0 _ _).trans (feq hc1).2) (by decide) (by decide)) ?_
      show Go p e below _ s₁ (mkF m 20 #[.val (.long p1), .second, .val (.int p2), .val (.long (2147483639 : Int64)), .second, .val (.int (p2 &&& (3 : Int32))), .unset, .unset, .unset] [])
      refine Go.to (fun _ => XS.iload X0.here hx rfl (hb hby at_20) rfl) ?_
      show Go p e below _ s₁ (mkF m 22 #[.val (.long p1), .second, .val (.int p2), .val (.long (2147483639 : Int64)), .second, .val (.int (p2 &&& (3 : Int32))), .unset, .unset, .unset] [(.int (p2 &&& (3 : Int32)))])
      refine Go.to (fun _ => XS.iconst X0.here hx rfl (hb hby at_22)) ?_
      show Go p e below _ s₁ (mkF m 23 #[.val (.long p1), .second, .val (.int p2), .val (.long (2147483639 : Int64)), .second, .val (.int (p2 &&& (3 : Int32))), .unset, .unset, .unset] [(.int (1 : Int32)), (.int (p2 &&& (3 : Int32)))])
      by_cases hc2 : (p2 &&& (3 : Int32)) = (1 : Int32)
      · refine Go.to (fun _ => XS.icmpNo X0.here hx rfl (hb hby at_23) rfl (teq hc2).2) ?_
        show Go p e below _ s₁ (mkF m 26 #[.val (.long p1), .second, .val (.int p2), .val (.long (2147483639 : Int64)), .second, .val (.int (p2 &&& (3 : Int32))), .unset, .unset, .unset] [])
        refine Go.to (fun _ => XS.lconst X0.here hx rfl (hb hby at_26)) ?_
        show Go p e below _ s₁ (mkF m 27 #[.val (.long p1), .second, .val (.int p2), .val (.long (2147483639 : Int64)), .second, .val (.int (p2 &&& (3 : Int32))), .unset, .unset, .unset] [(.long (0 : Int64))])
        refine Go.to (fun _ => XS.lstore X0.here hx rfl (hb hby at_27) rfl (l' := #[.val (.long p1), .second, .val (.int p2), .val (.long (2147483639 : Int64)), .second, .val (.int (p2 &&& (3 : Int32))), .val (.long (0 : Int64)), .second, .unset]) rfl) ?_
        show Go p e below _ s₁ (mkF m 29 #[.val (.long p1), .second, .val (.int p2), .val (.long (2147483639 : Int64)), .second, .val (.int (p2 &&& (3 : Int32))), .val (.long (0 : Int64)), .second, .unset] [])
        refine Go.to (fun _ => XS.goto X0.here hx rfl (pc0 := 29) (pc' := 43) rfl (hb hby at_29) (by decide) (by decide)) ?_
        show Go p e below _ s₁ (mkF m 43 #[.val (.long p1), .second, .val (.int p2), .val (.long (2147483639 : Int64)), .second, .val (.int (p2 &&& (3 : Int32))), .val (.long (0 : Int64)), .second, .unset] [])
        exact k (0 : Int64) (by rw [if_neg hc1, if_pos hc2])
      · refine Go.to (fun _ => XS.icmpYes X0.here hx rfl (pc0 := 23) (pc' := 32) rfl (hb hby at_23) rfl (feq hc2).2 (by decide) (by decide)) ?_
        show Go p e below _ s₁ (mkF m 32 #[.val (.long p1), .second, .val (.int p2), .val (.long (2147483639 : Int64)), .second, .val (.int (p2 &&& (3 : Int32))), .unset, .unset, .unset] [])
        refine Go.to (fun _ => XS.lloadN X0.here hx rfl (hb hby at_32) rfl) ?_
        show Go p e below _ s₁ (mkF m 33 #[.val (.long p1), .second, .val (.int p2), .val (.long (2147483639 : Int64)), .second, .val (.int (p2 &&& (3 : Int32))), .unset, .unset, .unset] [(.long p1)])
        refine Go.to (fun _ => X0.ldc2Long hx hown (mvT hZ (hw _ (List.mem_of_getElem? (i := 1) rfl))) (g := (mkF m 33 #[.val (.long p1), .second, .val (.int p2), .val (.long (2147483639 : Int64)), .second, .val (.int (p2 &&& (3 : Int32))), .unset, .unset, .unset] [(.long p1)])) rfl (hb hby at_33) _) ?_
        show Go p e below _ s₁ (mkF m 36 #[.val (.long p1), .second, .val (.int p2), .val (.long (2147483639 : Int64)), .second, .val (.int (p2 &&& (3 : Int32))), .unset, .unset, .unset] [(.long (9223372036854775807 : Int64)), (.long p1)])
        refine Go.to (fun _ => XS.land X0.here hx rfl (hb hby at_36) rfl) ?_
        show Go p e below _ s₁ (mkF m 37 #[.val (.long p1), .second, .val (.int p2), .val (.long (2147483639 : Int64)), .second, .val (.int (p2 &&& (3 : Int32))), .unset, .unset, .unset] [(.long (p1 &&& (9223372036854775807 : Int64)))])
        refine Go.to (fun _ => XS.lloadN X0.here hx rfl (hb hby at_37) rfl) ?_
        show Go p e below _ s₁ (mkF m 38 #[.val (.long p1), .second, .val (.int p2), .val (.long (2147483639 : Int64)), .second, .val (.int (p2 &&& (3 : Int32))), .unset, .unset, .unset] [(.long (2147483639 : Int64)), (.long (p1 &&& (9223372036854775807 : Int64)))])
        refine Go.to (fun _ => XS.lconst X0.here hx rfl (hb hby at_38)) ?_
        show Go p e below _ s₁ (mkF m 39 #[.val (.long p1), .second, .val (.int p2), .val (.long (2147483639 : Int64)), .second, .val (.int (p2 &&& (3 : Int32))), .unset, .unset, .unset] [(.long (1 : Int64)), (.long (2147483639 : Int64)), (.long (p1 &&& (9223372036854775807 : Int64)))])
        refine Go.to (fun _ => XS.ladd X0.here hx rfl (hb hby at_39) rfl) ?_
        show Go p e below _ s₁ (mkF m 40 #[.val (.long p1), .second, .val (.int p2), .val (.long (2147483639 : Int64)), .second, .val (.int (p2 &&& (3 : Int32))), .unset, .unset, .unset] [(.long ((2147483639 : Int64) + (1 : Int64))), (.long (p1 &&& (9223372036854775807 : Int64)))])
        refine Go.to (fun _ => XS.lrem X0.here hx rfl (hb hby at_40) rfl (by decide)) ?_
        show Go p e below _ s₁ (mkF m 41 #[.val (.long p1), .second, .val (.int p2), .val (.long (2147483639 : Int64)), .second, .val (.int (p2 &&& (3 : Int32))), .unset, .unset, .unset] [(.long ((p1 &&& (9223372036854775807 : Int64)) - ((p1 &&& (9223372036854775807 : Int64)) / ((2147483639 : Int64) + (1 : Int64))) * ((2147483639 : Int64) + (1 : Int64))))])
        refine Go.to (fun _ => XS.lstore X0.here hx rfl (hb hby at_41) rfl (l' := #[.val (.long p1), .second, .val (.int p2), .val (.long (2147483639 : Int64)), .second, .val (.int (p2 &&& (3 : Int32))), .val (.long ((p1 &&& (9223372036854775807 : Int64)) - ((p1 &&& (9223372036854775807 : Int64)) / ((2147483639 : Int64) + (1 : Int64))) * ((2147483639 : Int64) + (1 : Int64)))), .second, .unset]) rfl) ?_
        show Go p e below _ s₁ (mkF m 43 #[.val (.long p1), .second, .val (.int p2), .val (.long (2147483639 : Int64)), .second, .val (.int (p2 &&& (3 : Int32))), .val (.long ((p1 &&& (9223372036854775807 : Int64)) - ((p1 &&& (9223372036854775807 : Int64)) / ((2147483639 : Int64) + (1 : Int64))) * ((2147483639 : Int64) + (1 : Int64)))), .second, .unset] [])
        exact k ((p1 &&& (9223372036854775807 : Int64)) - ((p1 &&& (9223372036854775807 : Int64)) / ((2147483639 : Int64) + (1 : Int64))) * ((2147483639 : Int64) + (1 : Int64))) (by rw [if_neg hc1, if_neg hc2])
  refine hj1 (fun z6 hz6 => ?_)
  clear hj1
  have hb6 := own_n _ _ _ hz6
  have hr6 := own_r _ hb6
  have e1 : (2147483639 : Int64).toInt = 2147483639 := by decide
  have e2 : (2147483639 : Int32).toInt = 2147483639 := by decide
  have e3 : (0 : Int32).toInt = 0 := by decide
  have hle : ¬ (2147483639 : Int64) < z6 := by rw [Int64.lt_iff_toInt_lt]; omega
  have hA : fA z6 = z6.toInt32 := rfl
  have k1 : lcmpW ((fA z6).toInt64) z6 = (0 : Int32) := (lw_eq _ _).mpr (by rw [hA]; exact hr6.2)
  have k2 : ¬ (fA z6) < (0 : Int32) := by rw [hA, Int32.lt_iff_toInt_lt]; omega
  have k3 : ¬ (2147483639 : Int32) < (fA z6) := by rw [hA, Int32.lt_iff_toInt_lt]; omega
  refine Go.to (fun _ => XS.lload X0.here hx rfl (hb hby at_43) rfl) ?_
  show Go p e below _ s₁ (mkF m 45 #[.val (.long p1), .second, .val (.int p2), .val (.long (2147483639 : Int64)), .second, .val (.int (p2 &&& (3 : Int32))), .val (.long z6), .second, .unset] [(.long z6)])
  refine Go.callS (y := (⟨"com/example/tracegauge/tracegauge/graphs/Capacity", "exact", "(J)I"⟩ : MethodName)) X0 hx hZ hown (hw _ (List.mem_of_getElem? (i := 2) rfl)) (hw _ (List.mem_of_getElem? (i := 3) rfl)) (hw _ (List.mem_of_getElem? (i := 4) rfl)) (hw _ (List.mem_of_getElem? (i := 5) rfl)) (by decide) (rm1 l Z a0 hw [] z6 h0 hle) e0 (by rw [hml]; rfl) (pd_0) rfl (argsL := [(.long z6)]) (rest := []) rfl rfl (hb hby at_45) (by decide) (Nat.le_of_ble_eq_true rfl) (by decide) (by decide) ?_
  rintro T2 _ L2 X2 ⟨rfl, e2, rfl⟩
  simp only [List.append_nil] at X2
  show Go p e below _ T2 (mkF m 48 #[.val (.long p1), .second, .val (.int p2), .val (.long (2147483639 : Int64)), .second, .val (.int (p2 &&& (3 : Int32))), .val (.long z6), .second, .unset] [(.int (fA z6))])
  refine Go.to (fun _ => XS.istore X2.here hx rfl (hb hby at_48) rfl (l' := #[.val (.long p1), .second, .val (.int p2), .val (.long (2147483639 : Int64)), .second, .val (.int (p2 &&& (3 : Int32))), .val (.long z6), .second, .val (.int (fA z6))]) rfl) ?_
  show Go p e below _ T2 (mkF m 50 #[.val (.long p1), .second, .val (.int p2), .val (.long (2147483639 : Int64)), .second, .val (.int (p2 &&& (3 : Int32))), .val (.long z6), .second, .val (.int (fA z6))] [])
  refine Go.to (fun _ => XS.iload X2.here hx rfl (hb hby at_50) rfl) ?_
  show Go p e below _ T2 (mkF m 52 #[.val (.long p1), .second, .val (.int p2), .val (.long (2147483639 : Int64)), .second, .val (.int (p2 &&& (3 : Int32))), .val (.long z6), .second, .val (.int (fA z6))] [(.int (fA z6))])
  refine Go.to (fun _ => XS.i2l X2.here hx rfl (hb hby at_52) rfl) ?_
  show Go p e below _ T2 (mkF m 53 #[.val (.long p1), .second, .val (.int p2), .val (.long (2147483639 : Int64)), .second, .val (.int (p2 &&& (3 : Int32))), .val (.long z6), .second, .val (.int (fA z6))] [(.long ((fA z6).toInt64))])
  refine Go.to (fun _ => XS.lload X2.here hx rfl (hb hby at_53) rfl) ?_
  show Go p e below _ T2 (mkF m 55 #[.val (.long p1), .second, .val (.int p2), .val (.long (2147483639 : Int64)), .second, .val (.int (p2 &&& (3 : Int32))), .val (.long z6), .second, .val (.int (fA z6))] [(.long z6), (.long ((fA z6).toInt64))])
  refine Go.to (fun _ => XS.lcmp X2.here hx rfl (hb hby at_55) rfl) ?_
  show Go p e below _ T2 (mkF m 56 #[.val (.long p1), .second, .val (.int p2), .val (.long (2147483639 : Int64)), .second, .val (.int (p2 &&& (3 : Int32))), .val (.long z6), .second, .val (.int (fA z6))] [(.int (lcmpW ((fA z6).toInt64) z6))])
  refine Go.to (fun _ => XS.ifNo X2.here hx rfl (hb hby at_56) rfl ((if0 _ _).trans (teq k1).2)) ?_
  show Go p e below _ T2 (mkF m 59 #[.val (.long p1), .second, .val (.int p2), .val (.long (2147483639 : Int64)), .second, .val (.int (p2 &&& (3 : Int32))), .val (.long z6), .second, .val (.int (fA z6))] [])
  refine Go.to (fun _ => XS.iload X2.here hx rfl (hb hby at_59) rfl) ?_
  show Go p e below _ T2 (mkF m 61 #[.val (.long p1), .second, .val (.int p2), .val (.long (2147483639 : Int64)), .second, .val (.int (p2 &&& (3 : Int32))), .val (.long z6), .second, .val (.int (fA z6))] [(.int (fA z6))])
  refine Go.to (fun _ => XS.ifNo X2.here hx rfl (hb hby at_61) rfl ((if0 _ _).trans (flt k2).1)) ?_
  show Go p e below _ T2 (mkF m 64 #[.val (.long p1), .second, .val (.int p2), .val (.long (2147483639 : Int64)), .second, .val (.int (p2 &&& (3 : Int32))), .val (.long z6), .second, .val (.int (fA z6))] [])
  refine Go.to (fun _ => XS.iload X2.here hx rfl (hb hby at_64) rfl) ?_
  show Go p e below _ T2 (mkF m 66 #[.val (.long p1), .second, .val (.int p2), .val (.long (2147483639 : Int64)), .second, .val (.int (p2 &&& (3 : Int32))), .val (.long z6), .second, .val (.int (fA z6))] [(.int (fA z6))])
  refine Go.to (fun _ => X2.ldcInt hx hown (mvT hZ (hw _ (List.mem_of_getElem? (i := 7) rfl))) (g := (mkF m 66 #[.val (.long p1), .second, .val (.int p2), .val (.long (2147483639 : Int64)), .second, .val (.int (p2 &&& (3 : Int32))), .val (.long z6), .second, .val (.int (fA z6))] [(.int (fA z6))])) rfl (hb hby at_66) _) ?_
  show Go p e below _ T2 (mkF m 68 #[.val (.long p1), .second, .val (.int p2), .val (.long (2147483639 : Int64)), .second, .val (.int (p2 &&& (3 : Int32))), .val (.long z6), .second, .val (.int (fA z6))] [(.int (2147483639 : Int32)), (.int (fA z6))])
  refine Go.to (fun _ => XS.icmpNo X2.here hx rfl (hb hby at_68) rfl (flt k3).2.2.1) ?_
  show Go p e below _ T2 (mkF m 71 #[.val (.long p1), .second, .val (.int p2), .val (.long (2147483639 : Int64)), .second, .val (.int (p2 &&& (3 : Int32))), .val (.long z6), .second, .val (.int (fA z6))] [])
  refine Go.to (fun _ => XS.iconst X2.here hx rfl (hb hby at_71)) ?_
  show Go p e below _ T2 (mkF m 72 #[.val (.long p1), .second, .val (.int p2), .val (.long (2147483639 : Int64)), .second, .val (.int (p2 &&& (3 : Int32))), .val (.long z6), .second, .val (.int (fA z6))] [(.int (1 : Int32))])
  refine Go.to (fun _ => XS.goto X2.here hx rfl (pc0 := 72) (pc' := 76) rfl (hb hby at_72) (by decide) (by decide)) ?_
  show Go p e below _ T2 (mkF m 76 #[.val (.long p1), .second, .val (.int p2), .val (.long (2147483639 : Int64)), .second, .val (.int (p2 &&& (3 : Int32))), .val (.long z6), .second, .val (.int (fA z6))] [(.int (1 : Int32))])
  rw [hK]
  exact Go.retZ X2 hx hlk hret (by decide) (hb hby at_76) ⟨rfl, Fr.nil n0⟩ (by decide) (by decide)
set_option maxHeartbeats 40000000 in
theorem comes_1 {Post : Tables → Env → Array Value → State → Outcome → State → Prop} (hpost : ∀ tb e args s v u, (limb_1_1.after args s (.returned v) u = true ∧ limb_1_2.after args s (.returned v) u = true ∧ True) → FrameEnd s (.returned v) u (Jvm.fieldLocs frame_1_writes args s ++ Jvm.arrayLocs frame_1_arrays args s ++ Jvm.staticLocs frame_1_statics s) 0 0 → Post tb e args s (.returned v) u) :
    ArmFor flags0 classFile x code maxLocals ret World_1 tables_1 room_1 Calls_1 rest_1 Pre_1 Post := by
  intro l hfl _ _ p e ha hc hk s m args below hf hA hF happ hP
  obtain ⟨hcalls, hrest, hpre⟩ := hP
  obtain ⟨-, -, -, hnamed, -, -, -, hat⟩ := (Spec.applies_iff hf).mp happ
  obtain ⟨hg, hn⟩ := and_e (Cond.before_iff.mp (show (Jvm.Cond.and given_1 narrow_1).before args s = true from hpre))
  obtain ⟨gc, gr0⟩ := and_e hg
  obtain ⟨g0, gr1⟩ := and_e gr0
  obtain ⟨w0, w1, rfl⟩ : ∃ w0 w1 : Value, args = #[w0, w1] := by
    have hs : args.size = 2 := by simpa [Cond.value, given_1] using gc
    obtain ⟨L⟩ := args
    match L, hs with
    | [w0, w1], _ => exact ⟨w0, w1, rfl⟩
  have hw := fun d (hd : d ∈ tables_1) => atoms_spec (ws := Jvm.Cond.code x code maxLocals ret :: tables_1) hat d (List.mem_cons_of_mem _ hd)
  obtain ⟨i0, ei0⟩ := isL_v g0
  obtain rfl : w0 = (.long i0) := Option.some.inj ei0
  obtain ⟨i1, ei1⟩ := is_v gr1
  obtain rfl : w1 = (.int i1) := Option.some.inj ei1
  obtain ⟨n, o, h1, h2, h3, _, L, rfl, ⟨rfl, N⟩, hq⟩ := rm0 l s _ hw tables_1 i0 i1 s.heap s.heap.size (Nat.le_refl _) p e ha hc hk s m _ below hf ((Spec.applies_iff_loose hf).mp happ).1 ⟨rfl, State.Warmed39.refl s, rfl⟩ trivial
  refine ⟨n, _, h1, h2, h3, hpost _ _ _ _ _ _ ⟨Cond.after_iff.mpr rfl, Cond.after_iff.mpr (eq_i res_at (Term.int_eval (1)) rfl), trivial⟩ ⟨hq.1, hq.2.1, (hq.2.2.sift fun y hy => Or.inr (N y hy)).mono (by decide) (by decide)⟩⟩
theorem main_1_1 : Claimed_1_1 := comes_1 fun _ _ _ _ _ _ h hF => ⟨h.1, hF⟩
theorem main_1_2 : Claimed_1_2 := comes_1 fun _ _ _ _ _ _ h hF => ⟨h.2.1, hF⟩
end Jvm.Pilot.@@N@@
namespace Jvm.Pilot.@@N@@
open Jvm Jvm.ClassFile Sem Op Lib Jvm.Free Jvm.Stand Jvm.Pilot.@@N@@.Jvm.D
/-! MADE BY PROGRAM (witnessworld.py) out of the Statement's table words and the real class files: 9 classes; the members and pool entries that the words name. The judged class is class 1, her method 1. -/
namespace start1
open Jvm.ClassFile
def u (s : String) : CpInfo := .utf8 (stringToUtf16 s)
/-- a pool by its gaps: so many unusable entries, then the entry; so many at the end -/
def gap : Nat → List CpInfo → List CpInfo
  | 0, r => r
  | n + 1, r => .unusable :: gap n r
def poolList (es : List (Nat × CpInfo)) (last : Nat) : List CpInfo := es.foldr (fun e r => gap e.1 (e.2 :: r)) (gap last [])
def pool (es : List (Nat × CpInfo)) (last : Nat) : Array CpInfo := ⟨poolList es last⟩
def fileOf (pool : Array CpInfo) (this : Nat) (attrs : Array Attribute := #[]) (ms : Array MethodInfo := #[]) (fl : Nat := 33) (sup : Nat := 0) (ifs : Array Nat := #[]) (fds : Array FieldInfo := #[]) : ClassFile where
  minorVersion := 0
  majorVersion := 65
  constantPool := pool
  accessFlags := fl
  thisClass := this
  superClass := sup
  interfaces := ifs
  fields := fds
  methods := ms
  attributes := attrs
def plain (name : String) (sup : Option ClassId) : Class where
  name := name
  kind := .ordinary
  loader := none
  accessFlags := 33
  super := sup
  interfaces := #[]
  cf := none
  fields := #[]
  methods := #[]
  instanceTypes := #[]
  staticTypes := #[]
  resolved := #[]
  callSites := []
  init := .initialized
  statics := none
  mirror := none

def pool0 : Array CpInfo := pool [(5, u "<init>"), (0, u "()V"), (1, .class_ 10), (1, u "java/lang/Object")] 113

def k0m0 : Method := { name := "<init>", desc := "()V", sig := { parameters := [], returnType := none }, accessFlags := 1, code := none }
/-- java/lang/Object -/
def k0 : Class := { plain "java/lang/Object" none with
  accessFlags := 33
  interfaces := #[]
  cf := some (fileOf pool0 8 #[] #[{ accessFlags := 1, nameIndex := 5, descriptorIndex := 6, attributes := #[] }] 33 0 #[] #[])
  fields := #[]
  methods := #[k0m0]
  instanceTypes := #[]
  staticTypes := #[]
  resolved := Array.replicate 124 none
  statics := none }

def pool1 : Array CpInfo := pool [(2, .class_ 4), (1, u "java/lang/Object"), (0, u "<init>"), (0, u "()V"), (0, .class_ 8), (0, u "com/example/tracegauge/tracegauge/graphs/Capacity"), (0, .long 2147483639), (3, .long 9223372036854775807), (1, .methodref 7 16), (0, .nameAndType 17 18), (0, u "exact"), (0, u "(J)I"), (0, .integer 2147483639), (0, .class_ 21), (0, u "com/example/tracegauge/tracegauge/graphs/CapacityExactPinLaw"), (2, u "law"), (0, u "(JI)Z")] 3

def k1m0 : Method := { name := "<init>", desc := "()V", sig := { parameters := [], returnType := none }, accessFlags := 1, code := none }
def k1c1 : Code := { maxStack := 6, maxLocals := 9, code := code, exceptionTable := #[], attributes := #[] }
def k1m1 : Method := { name := "law", desc := "(JI)Z", sig := { parameters := [.long, .int], returnType := some .boolean }, accessFlags := 9, code := some k1c1 }
/-- com/example/tracegauge/tracegauge/graphs/CapacityExactPinLaw -/
def k1 : Class := { plain "com/example/tracegauge/tracegauge/graphs/CapacityExactPinLaw" (some 0) with
  accessFlags := 49
  interfaces := #[]
  cf := some (fileOf pool1 20 #[] #[{ accessFlags := 1, nameIndex := 5, descriptorIndex := 6, attributes := #[] }, { accessFlags := 9, nameIndex := 24, descriptorIndex := 25, attributes := #[] }] 49 2 #[] #[])
  fields := #[]
  methods := #[k1m0, k1m1]
  instanceTypes := #[]
  staticTypes := #[]
  resolved := Array.replicate 29 none
  statics := none }

def pool2 : Array CpInfo := pool [(4, .class_ 6), (1, u "java/lang/Object"), (0, u "<init>"), (0, u "()V"), (1, .class_ 12), (1, u "com/example/tracegauge/tracegauge/graphs/Capacity"), (0, u "exact"), (0, u "(J)I"), (2, .long 2147483639), (18, u "MAX_ARRAY_LENGTH"), (0, u "I")] 9

def k2m0 : Method := { name := "<init>", desc := "()V", sig := { parameters := [], returnType := none }, accessFlags := 2, code := none }
def k2c1 : Code := { maxStack := 4, maxLocals := 2, code := prog_37_method_3_code, exceptionTable := #[], attributes := #[] }
def k2m1 : Method := { name := "exact", desc := "(J)I", sig := { parameters := [.long], returnType := some .int }, accessFlags := 9, code := some k2c1 }
/-- com/example/tracegauge/tracegauge/graphs/Capacity -/
def k2 : Class := { plain "com/example/tracegauge/tracegauge/graphs/Capacity" (some 0) with
  accessFlags := 49
  interfaces := #[]
  cf := some (fileOf pool2 10 #[] #[{ accessFlags := 2, nameIndex := 7, descriptorIndex := 8, attributes := #[] }, { accessFlags := 9, nameIndex := 13, descriptorIndex := 14, attributes := #[] }] 49 4 #[] #[{ accessFlags := 25, nameIndex := 36, descriptorIndex := 37, attributes := #[] }])
  fields := #[{ name := "MAX_ARRAY_LENGTH", type := .int, accessFlags := 25, slot := 0, constantValue := 0 }]
  methods := #[k2m0, k2m1]
  instanceTypes := #[]
  staticTypes := #[.int]
  resolved := Array.replicate 47 none
  statics := none }

def pool3 : Array CpInfo := pool [(1, u "java/lang/Cloneable"), (0, .class_ 1), (0, u "java/lang/Object"), (0, .class_ 3)] 3

/-- java/lang/Cloneable -/
def k3 : Class := { plain "java/lang/Cloneable" (some 0) with
  accessFlags := 1537
  interfaces := #[]
  cf := some (fileOf pool3 2 #[] #[] 1537 4 #[] #[])
  fields := #[]
  methods := #[]
  instanceTypes := #[]
  staticTypes := #[]
  resolved := Array.replicate 8 none
  statics := none }

def pool4 : Array CpInfo := pool [(1, u "java/io/Serializable"), (0, .class_ 1), (0, u "java/lang/Object"), (0, .class_ 3)] 3

/-- java/io/Serializable -/
def k4 : Class := { plain "java/io/Serializable" (some 0) with
  accessFlags := 1537
  interfaces := #[]
  cf := some (fileOf pool4 2 #[] #[] 1537 4 #[] #[])
  fields := #[]
  methods := #[]
  instanceTypes := #[]
  staticTypes := #[]
  resolved := Array.replicate 8 none
  statics := none }

/-- the primitive byte -/
def k5 : Class := { plain "byte" none with kind := .primitive 'B', accessFlags := 0x411 }
/-- [B -/
def k6 : Class := { plain "[B" (some 0) with kind := .array 5 .byte, interfaces := #[3, 4], accessFlags := 1041 }

/-- the primitive int -/
def k7 : Class := { plain "int" none with kind := .primitive 'I', accessFlags := 0x411 }
/-- [I -/
def k8 : Class := { plain "[I" (some 0) with kind := .array 7 .int, interfaces := #[3, 4], accessFlags := 1041 }

def heap : Heap := #[]
def classes : Array Class := #[k0, k1, k2, k3, k4, k5, k6, k7, k8]
def interned : List (Array UInt16 × Addr) := []
def slotsUsed : Nat := 0
def theMethod : MethodId := ⟨1, 1⟩
def args0 : Array Value := #[.long 5, .int 1]
def aboutOver (below : List Frame) : State where
  vm := { classes := classes, interned := interned.toArray }
  heap := heap
  slotsUsed := slotsUsed
  threads := #[{ frames := .invoking theMethod args0 :: below }]
def below0 : List Frame := [.native { method := ⟨0, 0⟩, args := #[] }]
def about1 : State := aboutOver below0
def p0 : Program := .bare "" "" ""
def e0 : Env := launch0.env 0 0 0
theorem w_frames : about1.frames = Frame.invoking theMethod args0 :: below0 := rfl
set_option maxRecDepth 65536 in
theorem w_args : argsFit about1.vm theMethod args0 = true := by decide +kernel
set_option maxRecDepth 65536 in
theorem w_heap : heapFits about1 = true := by decide +kernel
set_option maxRecDepth 65536 in
theorem w_runnable : about1.curStatus? = some .runnable := by decide +kernel
set_option maxRecDepth 65536 in
theorem w_alone : about1.alone = true := by decide +kernel
set_option maxRecDepth 65536 in
theorem w_named : about1.methodNamed? x = some theMethod := by decide +kernel
set_option maxRecDepth 65536 in
theorem w_hears : about1.hears theMethod below0 = true := by decide +kernel
set_option maxRecDepth 65536 in
theorem w_ripe : about1.ripe theMethod args0 below0 = true := by decide +kernel
theorem w_running : about1.status = .running := rfl
set_option maxRecDepth 65536 in
theorem w_room : about1.hasRoom e0.platform room_1 = true :=
  launch0.hasRoom_least _ room_1 (by decide +kernel) (by decide +kernel) (by decide +kernel) (by decide +kernel) (by decide +kernel) (by decide +kernel)
theorem allAtoms_all (ts : List Jvm.Cond) (a : Array Jvm.Value) (st : Jvm.State) : (allAtoms ts).before a st = ts.all (fun c => c.before a st) := by
  induction ts with
  | nil => rfl
  | cons c t ih =>
    show (Jvm.Cond.and c (allAtoms t)).before a st = _
    rw [Jvm.Cond.before_and, ih, List.all_cons]
def words1 : List Jvm.Cond := Jvm.Cond.code x code maxLocals ret :: tables_1
/-- a 'code' word, met by the world's own term for the bytes: nothing is compared byte by byte -/
theorem code_word {y : MethodName} {bytes : ByteArray} {mx : Nat} {rt : Option FieldType} {a : Array Value} {s : State} {m : MethodId} {meth : Method} {c : Code} (h1 : s.methodNamed? y = some m) (h2 : s.vm.method? m = some meth) (h3 : meth.code = some c) (h4 : c.code = bytes)
    (h5 : (c.maxLocals == mx && c.exceptionTable.isEmpty && decide (c.maxStack ≤ mostOperands) && decide (meth.sig.returnType = rt) && !meth.locks && decide (parseMethodDescriptor y.desc = some meth.sig)) = true) : (Jvm.Cond.code y bytes mx rt).before a s = true := by
  simp only [Bool.and_eq_true, beq_iff_eq, Bool.not_eq_true', decide_eq_true_eq] at h5
  obtain ⟨⟨⟨⟨⟨g1, g2⟩, g3⟩, g4⟩, g5⟩, g6⟩ := h5
  simp [Cond.before, Cond.holds, Cond.value, h1, h2, h3, h4, g1, g2, g3, g4, g5, g6]
def isCode : Jvm.Cond → Bool
  | .code _ _ _ _ => true
  | _ => false
theorem all_split {L : List Jvm.Cond} {P : Jvm.Cond → Bool} (h1 : L.all (fun c => isCode c || P c) = true) (h2 : ∀ c ∈ L.filter isCode, P c = true) : L.all P = true := by
  refine List.all_eq_true.mpr fun c hc => ?_
  have h := List.all_eq_true.mp h1 c hc
  rcases Bool.eq_false_or_eq_true (isCode c) with hi | hi
  · exact h2 c (List.mem_filter.mpr ⟨hc, hi⟩)
  · simpa [hi] using h
set_option maxRecDepth 65536 in
theorem w_c0 : (Jvm.Cond.code x code maxLocals ret).before args0 about1 = true := code_word (m := ⟨1, 1⟩) (meth := k1m1) (c := k1c1) (by decide +kernel) rfl rfl rfl (by decide +kernel)
set_option maxRecDepth 65536 in
theorem w_c1 : (Jvm.Cond.code ({ cls := "com/example/tracegauge/tracegauge/graphs/Capacity", name := "exact", desc := "(J)I" } : Jvm.MethodName) prog_37_method_3_code (2 : Nat) (Option.some Jvm.ClassFile.FieldType.int)).before args0 about1 = true := code_word (m := ⟨2, 1⟩) (meth := k2m1) (c := k2c1) (by decide +kernel) rfl rfl rfl (by decide +kernel)
def codes1 : List Jvm.Cond := [Jvm.Cond.code x code maxLocals ret, Jvm.Cond.code ({ cls := "com/example/tracegauge/tracegauge/graphs/Capacity", name := "exact", desc := "(J)I" } : Jvm.MethodName) prog_37_method_3_code (2 : Nat) (Option.some Jvm.ClassFile.FieldType.int)]
set_option maxRecDepth 65536 in
theorem codes_eq : words1.filter isCode = codes1 := rfl
theorem w_codes : ∀ c ∈ words1.filter isCode, c.before args0 about1 = true := by
  rw [codes_eq]
  intro c hc
  simp only [codes1, List.mem_cons, List.not_mem_nil, or_false] at hc
  rcases hc with rfl | rfl
  · exact w_c0
  · exact w_c1
set_option maxRecDepth 65536 in
theorem w_t1 : words1.all (fun c => isCode c || c.before args0 about1) = true := by decide +kernel
theorem w_tables : (allAtoms (Jvm.Cond.code x code maxLocals ret :: tables_1)).before args0 about1 = true := by
  rw [allAtoms_all]
  show words1.all (fun c => c.before args0 about1) = true
  refine all_split ?_ w_codes
  rw [w_t1]
set_option maxRecDepth 65536 in
theorem w_case : (Jvm.Cond.and given_1 narrow_1).before args0 about1 = true := by decide +kernel
theorem w_applies : (headSpec (Jvm.Cond.code x code maxLocals ret :: tables_1) room_1).applies x e0.platform about1 = true :=
  (Spec.applies_iff w_frames).mpr ⟨w_running, w_runnable, w_alone, w_named, w_hears, w_ripe, w_room, w_tables⟩
theorem atStart : AtStart classFile x code maxLocals ret World_1 tables_1 room_1 Calls_1 rest_1 Pre_1 launch0 p0 e0 about1 theMethod args0 below0 :=
  ⟨lists_1, trivial, launch0.admits_env _ _ _, launch0.least_env, fairChoices_fair.cas, fairChoices_fair.clock, w_frames, w_args, w_heap, w_applies, trivial, trivial, w_case⟩
end start1
theorem witness_1 : WitnessClaimed_1 := ⟨start1.p0, start1.e0, start1.about1, start1.theMethod, start1.args0, start1.below0, start1.atStart⟩
end Jvm.Pilot.@@N@@
