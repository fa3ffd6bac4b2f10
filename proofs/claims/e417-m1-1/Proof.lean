import JvmDerived
import JvmDerived.Pilot.@@N@@Statement
import JvmDerived.Pilot.@@N@@Code
set_option linter.unusedVariables false
set_option linter.unusedSimpArgs false
@@BLOCK:NumsL.lean.txt@@
set_option maxRecDepth 65536
namespace Jvm.Pilot.@@N@@
open Jvm Jvm.ClassFile Sem Op Lib Jvm.Free Jvm.Stand Jvm.LawKit Jvm.RoadKit Bundle Jvm.Pilot.@@N@@.Jvm.D
/-! OWN KIT: the walk in continuation style over lawnew's family -/
section OwnKit
variable {p : Program} {l : Launch} {e : Env} {R : Room} {s : State} {m : MethodId} {args : Array Value} {below : List Frame} {meth : Method} {c : Code} {T : State} {locs : List Loc} {cells slots : Nat} {Z : State} {a0 : Array Value} {h : Heap} {K : Outcome → State → Prop} {Q : Option Value → Heap → List Loc → Prop} {rc rs : Nat}
/-- from the frame g over T the run comes to its end, and K holds there -/
def Go (p : Program) (e : Env) (below : List Frame) (K : Outcome → State → Prop) (T : State) (g : JFrame) : Prop :=
  ∃ s₂ o, Steps p.tables e below (T.setTop g) s₂ ∧ s₂.status = .running ∧ Ended s₂ below o ∧ K o s₂
theorem Go.to {T T' : State} {g g' : JFrame} (st : ∀ t, Steps p.tables e below (T'.setTop g') t → Steps p.tables e below (T.setTop g) t) (k : Go p e below K T' g') : Go p e below K T g := by
  obtain ⟨s₂, o, h1, h2⟩ := k
  exact ⟨s₂, o, st _ h1, h2⟩
def KQ (s : State) (Q : Option Value → Heap → List Loc → Prop) (rc rs : Nat) : Outcome → State → Prop := fun o U => ∃ v L, o = .returned v ∧ Q v U.heap L ∧ FrameEnd s o U L rc rs
theorem Go.retW (X : Stand p l e R s m args below meth c T locs cells slots) (hx : p.tables.exec = Jvm.exec) (hlk : meth.locks = false) {pc : Nat} {Ls : Array Slot} {w : Value} {t : FieldType} {i : Instr} {rest : List Value} (hret : meth.sig.returnType = some t) (hn : narrow t w = w)
    (hi : (i = .ireturn ∧ (t = .int ∨ t = .boolean ∨ t = .byte ∨ t = .char ∨ t = .short) ∧ ∃ z, w = .int z) ∨ (i = .lreturn ∧ t = .long ∧ ∃ z, w = .long z) ∨ (i = .dreturn ∧ t = .double ∧ ∃ z, w = .double z) ∨ (i = .freturn ∧ t = .float ∧ ∃ z, w = .float z) ∨ (i = .areturn ∧ t.isReference = true ∧ w.isRef = true))
    (hd : decode c.code pc = .ok (i, 1)) (hq : Q (some w) T.heap locs) (hc : cells ≤ rc) (hs : slots ≤ rs) : Go p e below (KQ s Q rc rs) T (mkF m pc Ls (w :: rest)) := by
  obtain ⟨fs, hr, hrun, hended, hW, hsame⟩ := X.leave (v := some w) (fun h => by rw [hret] at h; cases h) hlk
  exact ⟨_, _, retOut X hx hret hn hi hd hr, hrun, hended, _, _, rfl, hq, ⟨_, rfl⟩, hW, hsame.mono hc hs⟩
theorem Go.retI (X : Stand p l e R s m args below meth c T locs cells slots) (hx : p.tables.exec = Jvm.exec) (hlk : meth.locks = false) {pc : Nat} {Ls : Array Slot} {z : Int32} {rest : List Value} (hret : meth.sig.returnType = some .int)
    (hd : decode c.code pc = .ok (.ireturn, 1)) (hq : Q (some (.int z)) T.heap locs) (hc : cells ≤ rc) (hs : slots ≤ rs) : Go p e below (KQ s Q rc rs) T (mkF m pc Ls (.int z :: rest)) :=
  Go.retW X hx hlk hret rfl (Or.inl ⟨rfl, Or.inl rfl, z, rfl⟩) hd hq hc hs
theorem Go.retJ (X : Stand p l e R s m args below meth c T locs cells slots) (hx : p.tables.exec = Jvm.exec) (hlk : meth.locks = false) {pc : Nat} {Ls : Array Slot} {z : Int64} {rest : List Value} (hret : meth.sig.returnType = some .long)
    (hd : decode c.code pc = .ok (.lreturn, 1)) (hq : Q (some (.long z)) T.heap locs) (hc : cells ≤ rc) (hs : slots ≤ rs) : Go p e below (KQ s Q rc rs) T (mkF m pc Ls (.long z :: rest)) :=
  Go.retW X hx hlk hret rfl (Or.inr (Or.inl ⟨rfl, rfl, z, rfl⟩)) hd hq hc hs
theorem Go.retZ (X : Stand p l e R s m args below meth c T locs cells slots) (hx : p.tables.exec = Jvm.exec) (hlk : meth.locks = false) {pc : Nat} {Ls : Array Slot} {z : Int32} {rest : List Value} (hret : meth.sig.returnType = some .boolean) (hz : z = 0 ∨ z = 1)
    (hd : decode c.code pc = .ok (.ireturn, 1)) (hq : Q (some (.int z)) T.heap locs) (hc : cells ≤ rc) (hs : slots ≤ rs) : Go p e below (KQ s Q rc rs) T (mkF m pc Ls (.int z :: rest)) :=
  Go.retW X hx hlk hret (by rcases hz with rfl | rfl <;> rfl) (Or.inl ⟨rfl, Or.inr (Or.inl rfl), z, rfl⟩) hd hq hc hs
theorem Go.retA (X : Stand p l e R s m args below meth c T locs cells slots) (hx : p.tables.exec = Jvm.exec) (hlk : meth.locks = false) {pc : Nat} {Ls : Array Slot} {w : Value} {t : FieldType} {rest : List Value} (hret : meth.sig.returnType = some t) (ht : t.isReference = true) (hw : w.isRef = true) (hn : narrow t w = w)
    (hd : decode c.code pc = .ok (.areturn, 1)) (hq : Q (some w) T.heap locs) (hc : cells ≤ rc) (hs : slots ≤ rs) : Go p e below (KQ s Q rc rs) T (mkF m pc Ls (w :: rest)) :=
  Go.retW X hx hlk hret hn (Or.inr (Or.inr (Or.inr (Or.inr ⟨rfl, ht, hw⟩)))) hd hq hc hs
theorem Go.retV (X : Stand p l e R s m args below meth c T locs cells slots) (hx : p.tables.exec = Jvm.exec) (hlk : meth.locks = false) {pc : Nat} {Ls : Array Slot} (hret : meth.sig.returnType = none)
    (hd : decode c.code pc = .ok (.return_, 1)) (hq : Q none T.heap locs) (hc : cells ≤ rc) (hs : slots ≤ rs) : Go p e below (KQ s Q rc rs) T (mkF m pc Ls []) := by
  obtain ⟨fs, hr, hrun, hended, hW, hsame⟩ := X.leave (v := none) (fun _ => rfl) hlk
  exact ⟨_, _, X.returnOut hx hret hd hr, hrun, hended, _, _, rfl, hq, ⟨_, rfl⟩, hW, hsame.mono hc hs⟩
/-- a contract in this family -/
abbrev Met1 (l : Launch) (Z : State) (y : MethodName) (bytes : ByteArray) (maxL : Nat) (ret : Option FieldType) (ws : List Jvm.Cond) (rm : Room) (as' : Array Value) (h0 : Heap) (Q : Option Value → Heap → List Loc → Prop) : Prop :=
  MetFree l y (head1 (Jvm.Cond.code y bytes maxL ret :: ws) rm) (fun a U => a = as' ∧ Z.Warmed39 U.vm ∧ U.heap = h0) (fun _ _ _ _ _ => True) (fun _ U o U' => ∃ v L, o = .returned v ∧ Q v U'.heap L ∧ FrameEnd U o U' L rm.cells rm.slots)
theorem metOf {y : MethodName} {bytes : ByteArray} {maxL : Nat} {ret : Option FieldType} {ws : List Jvm.Cond} {rm : Room} {as' : Array Value} {h0 : Heap} (hp : plainFor y = true)
    (body : ∀ (p : Program) (e : Env) (s : State) (m : MethodId) (below : List Frame) (meth : Method) (c : Code) (s₁ : State), p.tables.exec = Jvm.exec → c.code = bytes → c.maxLocals = maxL → s.vm.findClass y.cls = some m.cls → meth.name = y.name → meth.sig.returnType = ret → meth.locks = false → Z.Warmed39 s.vm →
      Stand p l e rm s m as' below meth c s₁ [] 0 0 → s₁.heap = h0 → Go p e below (KQ s Q rm.cells rm.slots) s₁ (entryFrame m as' maxL)) : Met1 l Z y bytes maxL ret ws rm as' h0 Q := by
  refine MetFree.of_bodySF hp hisR ?_
  intro p e s m args below meth c s₁ Bd hml0 hP hK
  obtain ⟨rfl, hZ, hh⟩ := hP
  exact body p e s m below meth c s₁ Bd.exec Bd.bytes hml0 (findClass_of_methodNamed Bd.named) (name_of_methodNamed Bd.named Bd.method).1 Bd.returns (BodyLoose.notSynchronized Bd) hZ (Stand.of_body Bd) (by rw [← hh, Bd.state]; rfl)
section Calls
variable {own : String} {index : Nat} {y : MethodName} {bytes : ByteArray} {maxL : Nat} {ret : Option FieldType} {rm : Room} {as' : Array Value} {pc : Nat} {Ls : Array Slot} {st rest argsL : List Value} {ps : List FieldType} {r : Option FieldType}
theorem Go.callS (X : Stand p l e R s m args below meth c T locs cells slots) (hx : p.tables.exec = Jvm.exec) (hZ : Z.Warmed39 s.vm) (hown : s.vm.findClass own = some m.cls)
    (w1 : (Cond.methodLink own index y).before a0 Z = true) (w2 : (Cond.static y).before a0 Z = true) (w3 : (Cond.initialized y.cls).before a0 Z = true) (w4 : (Cond.code y bytes maxL ret).before a0 Z = true)
    (hy : y.cls ≠ "java/lang/invoke/MethodHandle" ∧ y.cls ≠ "java/lang/invoke/VarHandle") (hM : Met1 l Z y bytes maxL ret [] rm as' h Q) (eT : T.heap = h) (hsize : Ls.size = c.maxLocals)
    (hpd : parseMethodDescriptor y.desc = some ⟨ps, r⟩) (hlen : argsL.length = ps.length) (hst : st = argsL.reverse ++ rest) (has : argsL.toArray = as') (hdc : decode c.code pc = .ok (.invokestatic index, 3))
    (hf : rm.frames + 1 ≤ R.frames) (hlo : (rest.map fun v => v.category).sum + (maxL + 11) + rm.locals ≤ R.locals) (hce : cells + rm.cells ≤ R.cells) (hsl : slots + rm.slots ≤ R.slots)
    (k : ∀ T' v L, Stand p l e R s m args below meth c T' (locs ++ L) (cells + rm.cells) (slots + rm.slots) → Q v T'.heap L → Go p e below K T' (mkF m (pc + 3) Ls (v.toList ++ rest))) : Go p e below K T (mkF m pc Ls st) := by
  obtain ⟨v, vm₁, ⟨T', L', c', n'⟩, -, X', ⟨L, hQ, e1, e2, e3⟩, st'⟩ := Jvm.LawKit.callS X hx hown (mvT hZ w1) (mvT hZ w2) (mvT hZ w3) (mvT hZ w4) hy (backOf (W := (rest.map fun v => v.category).sum) hM hZ w4 w3 hf hlo) (g := mkF m pc Ls st) rfl hsize (argsL := argsL) (rest := rest) (lenOf hpd hlen) hst (by show 2 * 0 + _ ≤ _; omega) hdc (fun _ _ => ⟨has, eT, hce, hsl⟩)
  dsimp only [Pt.U, Pt.locs, Pt.cells, Pt.slots] at X' e1 e2 e3 st' hQ
  subst e1 e2 e3
  exact Go.to st' (k T' v L X' hQ)
theorem Go.callI (X : Stand p l e R s m args below meth c T locs cells slots) (hx : p.tables.exec = Jvm.exec) (hZ : Z.Warmed39 s.vm) (hown : s.vm.findClass own = some m.cls) (hin : y.name = "<init>")
    (w1 : (Cond.methodLink own index y).before a0 Z = true) (w2 : (Cond.instanceMethod y).before a0 Z = true) (w3 : (Cond.initialized y.cls).before a0 Z = true) (w4 : (Cond.code y bytes maxL none).before a0 Z = true)
    (hy : y.cls ≠ "java/lang/invoke/MethodHandle" ∧ y.cls ≠ "java/lang/invoke/VarHandle") (hM : Met1 l Z y bytes maxL none [] rm as' h Q) (eT : T.heap = h) (hsize : Ls.size = c.maxLocals)
    (hpd : parseMethodDescriptor y.desc = some ⟨ps, r⟩) (hlen : argsL.length = ps.length) {a : Addr} (hst : st = argsL.reverse ++ .ref a :: rest) (has : (Value.ref a :: argsL).toArray = as') (hdc : decode c.code pc = .ok (.invokespecial index, 3))
    (hf : rm.frames + 1 ≤ R.frames) (hlo : (rest.map fun v => v.category).sum + (maxL + 11) + rm.locals ≤ R.locals) (hce : cells + rm.cells ≤ R.cells) (hsl : slots + rm.slots ≤ R.slots)
    (k : ∀ T' v L, Stand p l e R s m args below meth c T' (locs ++ L) (cells + rm.cells) (slots + rm.slots) → Q v T'.heap L → Go p e below K T' (mkF m (pc + 3) Ls (v.toList ++ rest))) : Go p e below K T (mkF m pc Ls st) := by
  obtain ⟨v, vm₁, ⟨T', L', c', n'⟩, -, X', ⟨L, hQ, e1, e2, e3⟩, st'⟩ := X.specialBack hx hin hown (mvT hZ w1) (mvT hZ w2) (mvT hZ w4) hy (backOf (W := (rest.map fun v => v.category).sum) hM hZ w4 w3 hf hlo) (g := mkF m pc Ls st) rfl hsize (Steps.refl _) (a := a) (argsL := argsL) (rest := rest) (lenOf hpd hlen) hst (by show 2 * 0 + _ ≤ _; omega) hdc (fun _ _ => ⟨has, eT, hce, hsl⟩)
  dsimp only [Pt.U, Pt.locs, Pt.cells, Pt.slots] at X' e1 e2 e3 st' hQ
  subst e1 e2 e3
  exact Go.to (fun _ q => st'.trans q) (k T' v L X' hQ)
theorem Go.callV (X : Stand p l e R s m args below meth c T locs cells slots) (hx : p.tables.exec = Jvm.exec) (hZ : Z.Warmed39 s.vm) (hown : s.vm.findClass own = some m.cls)
    (w1 : (Cond.methodLink own index y).before a0 Z = true) (w5 : (Cond.declares y).before a0 Z = true) {C : String} (w6 : (Cond.selects C y y).before a0 Z = true) (w2 : (Cond.instanceMethod y).before a0 Z = true) (w3 : (Cond.initialized y.cls).before a0 Z = true) (w4 : (Cond.code y bytes maxL ret).before a0 Z = true)
    (hy : y.cls ≠ "java/lang/invoke/MethodHandle" ∧ y.cls ≠ "java/lang/invoke/VarHandle") (hM : Met1 l Z y bytes maxL ret [] rm as' h Q) (eT : T.heap = h) {a : Addr} (E : Exa Z h a C) (hsize : Ls.size = c.maxLocals)
    (hpd : parseMethodDescriptor y.desc = some ⟨ps, r⟩) (hlen : argsL.length = ps.length) (hst : st = argsL.reverse ++ .ref a :: rest) (has : (Value.ref a :: argsL).toArray = as') (hdc : decode c.code pc = .ok (.invokevirtual index, 3))
    (hf : rm.frames + 1 ≤ R.frames) (hlo : (rest.map fun v => v.category).sum + (maxL + 11) + rm.locals ≤ R.locals) (hce : cells + rm.cells ≤ R.cells) (hsl : slots + rm.slots ≤ R.slots)
    (k : ∀ T' v L, Stand p l e R s m args below meth c T' (locs ++ L) (cells + rm.cells) (slots + rm.slots) → Q v T'.heap L → Go p e below K T' (mkF m (pc + 3) Ls (v.toList ++ rest))) : Go p e below K T (mkF m pc Ls st) := by
  obtain ⟨cq, kq, q1, q2, q3⟩ := isOf hZ eT E
  obtain ⟨v, vm₁, ⟨T', L', c', n'⟩, -, X', ⟨L, hQ, e1, e2, e3⟩, st'⟩ := X.virtualBack hx (y := y) (z := y) hown (mvT hZ w1) (mvT hZ w5) (notFace_of_selects (args := #[]) (mvT hZ w6)) (mvT hZ w6) (mvT hZ w2) hy (backOf (W := (rest.map fun v => v.category).sum) hM hZ w4 w3 hf hlo) q1 q3 (g := mkF m pc Ls st) rfl hsize (Steps.refl _) (argsL := argsL) (rest := rest) (lenOf hpd hlen) hst (by show 2 * 0 + _ ≤ _; omega) hdc (fun _ _ => ⟨has, eT, hce, hsl⟩)
  dsimp only [Pt.U, Pt.locs, Pt.cells, Pt.slots] at X' e1 e2 e3 st' hQ
  subst e1 e2 e3
  exact Go.to (fun _ q => st'.trans q) (k T' v L X' hQ)
end Calls
/-! arrays of ints (or of chars) by their list -/
def AV (Z : State) (h : Heap) (b : Addr) (ty : FieldType) (xs : List Int32) : Prop := ∃ cl : Cell, Arr Z h b cl ty ∧ cl.slots = (xs.map Value.int).toArray
def rdL (xs : List Int32) (j : Int32) : Option Int32 := if j < 0 then none else xs[j.toNatClampNeg]?
def wrL (xs : List Int32) (j v : Int32) : List Int32 := xs.set j.toNatClampNeg v
variable {b : Addr} {xs : List Int32} {j v w : Int32} {ty : FieldType} {h' : Heap}
theorem AV.lt (A : AV Z h b ty xs) : b < h.size := by obtain ⟨cl, A, -⟩ := A; exact A.lt
theorem AV.ext (A : AV Z h b ty xs) (E : Ext h h') : AV Z h' b ty xs := by obtain ⟨cl, A, q⟩ := A; exact ⟨cl, A.ext E, q⟩
theorem AV.other {a : Addr} {sl : Nat} {u : Value} (A : AV Z h b ty xs) (W : Wr h h' a sl u) (q : b ≠ a) : AV Z h' b ty xs := by obtain ⟨cl, A, r⟩ := A; exact ⟨cl, A.other W q, r⟩
theorem AV.keep {ws : List Addr} (A : AV Z h b ty xs) (Kp : Keep h h' ws) (q : b ∉ ws) : AV Z h' b ty xs := by obtain ⟨cl, A, r⟩ := A; exact ⟨cl, ⟨Kp.2.1 b cl A.1 q, A.2⟩, r⟩
theorem AV.same {n : Nat} (A : AV Z h b ty xs) (W : Wr h h' b n (.int v)) : AV Z h' b ty (xs.set n v) := by
  obtain ⟨cl, A, r⟩ := A
  refine ⟨_, A.same W, ?_⟩
  simp only [Cell.setSlot, r, List.setIfInBounds_toArray, List.map_set]
theorem AV.rd (A : AV Z h b ty xs) (hr : rdL xs j = some v) : ∃ cl : Cell, Arr Z h b cl ty ∧ ¬ (j < 0 ∨ cl.slots.size ≤ j.toNatClampNeg) ∧ cl.slots[j.toNatClampNeg]? = some (.int v) := by
  obtain ⟨cl, A, r⟩ := A
  unfold rdL at hr
  split at hr
  · cases hr
  · rename_i hj
    obtain ⟨hlt, hv⟩ := List.getElem?_eq_some_iff.mp hr
    refine ⟨cl, A, ?_, ?_⟩
    · rw [r]; simp only [List.size_toArray, List.length_map]; rintro (q | q)
      · exact hj q
      · omega
    · rw [r]; simp [hlt, hv]
theorem AV.new {cA : ClassId} {n : Int32} (A : Arr Z h b (newA cA .int n) .int) : AV Z h b .int (List.replicate n.toNatClampNeg 0) := ⟨_, A, by simp [newA, defaultValue]⟩
theorem AV.newC {cA : ClassId} {n : Int32} (A : Arr Z h b (newA cA .char n) .char) : AV Z h b .char (List.replicate n.toNatClampNeg 0) := ⟨_, A, by simp [newA, defaultValue]⟩
variable {pc : Nat} {Ls : Array Slot} {rest : List Value}
theorem Go.iaload (X : Stand p l e R s m args below meth c T locs cells slots) (hx : p.tables.exec = Jvm.exec) (hZ : Z.Warmed39 s.vm) (eT : T.heap = h) (A : AV Z h b .int xs) (hr : rdL xs j = some v) (hd : decode c.code pc = .ok (.iaload, 1))
    (k : Go p e below K T (mkF m (pc + 1) Ls (.int v :: rest))) : Go p e below K T (mkF m pc Ls (.int j :: .ref b :: rest)) := by
  obtain ⟨cl, A, h1, h2⟩ := A.rd hr
  exact Go.to (fun t q => X.iaload hx (by rw [eT]; exact A.1) (State.isArrayOf_alike hZ.alike A.2.1) A.2.2 h1 h2 (g := mkF m pc Ls (.int j :: .ref b :: rest)) rfl rfl hd t q) k
theorem Go.caload (X : Stand p l e R s m args below meth c T locs cells slots) (hx : p.tables.exec = Jvm.exec) (hZ : Z.Warmed39 s.vm) (eT : T.heap = h) (A : AV Z h b .char xs) (hr : rdL xs j = some v) (hd : decode c.code pc = .ok (.caload, 1))
    (k : Go p e below K T (mkF m (pc + 1) Ls (.int v :: rest))) : Go p e below K T (mkF m pc Ls (.int j :: .ref b :: rest)) := by
  obtain ⟨cl, A, h1, h2⟩ := A.rd hr
  exact Go.to (fun t q => X.caload hx (by rw [eT]; exact A.1) (State.isArrayOf_alike hZ.alike A.2.1) A.2.2 h1 h2 (g := mkF m pc Ls (.int j :: .ref b :: rest)) rfl rfl hd t q) k
theorem Go.alen (X : Stand p l e R s m args below meth c T locs cells slots) (hx : p.tables.exec = Jvm.exec) (hZ : Z.Warmed39 s.vm) (eT : T.heap = h) (A : AV Z h b ty xs) (hd : decode c.code pc = .ok (.arraylength, 1))
    (k : Go p e below K T (mkF m (pc + 1) Ls (.int xs.length.toInt32 :: rest))) : Go p e below K T (mkF m pc Ls (.ref b :: rest)) := by
  obtain ⟨cl, A, r⟩ := A
  refine Go.to (fun t q => X.arraylength hx (by rw [eT]; exact A.1) (State.isArrayOf_alike hZ.alike A.2.1) (g := mkF m pc Ls (.ref b :: rest)) rfl rfl hd t q) ?_
  simpa [r] using k
theorem Go.iastore (X : Stand p l e R s m args below meth c T locs cells slots) (hx : p.tables.exec = Jvm.exec) (hZ : Z.Warmed39 s.vm) (eT : T.heap = h) (A : AV Z h b .int xs) (hr : rdL xs j = some w) (hd : decode c.code pc = .ok (.iastore, 1))
    (k : ∀ T' h', Stand p l e R s m args below meth c T' (locs ++ [⟨b, j.toNatClampNeg⟩]) cells slots → T'.heap = h' → Wr h h' b j.toNatClampNeg (.int v) → AV Z h' b .int (wrL xs j v) → Go p e below K T' (mkF m (pc + 1) Ls rest)) : Go p e below K T (mkF m pc Ls (.int v :: .int j :: .ref b :: rest)) := by
  obtain ⟨cl, A', h1, h2⟩ := A.rd hr
  obtain ⟨T', h', X', e', W, st⟩ := stI X hx hZ eT A' (j := j) h1 (g := mkF m pc Ls (.int v :: .int j :: .ref b :: rest)) rfl rfl hd
  exact Go.to st (k T' h' X' e' W (A.same W))
theorem Go.castore (X : Stand p l e R s m args below meth c T locs cells slots) (hx : p.tables.exec = Jvm.exec) (hZ : Z.Warmed39 s.vm) (eT : T.heap = h) (A : AV Z h b .char xs) (hr : rdL xs j = some w) (hn : nar .char v = v) (hd : decode c.code pc = .ok (.castore, 1))
    (k : ∀ T' h', Stand p l e R s m args below meth c T' (locs ++ [⟨b, j.toNatClampNeg⟩]) cells slots → T'.heap = h' → Wr h h' b j.toNatClampNeg (.int v) → AV Z h' b .char (wrL xs j v) → Go p e below K T' (mkF m (pc + 1) Ls rest)) : Go p e below K T (mkF m pc Ls (.int v :: .int j :: .ref b :: rest)) := by
  obtain ⟨cl, A', h1, h2⟩ := A.rd hr
  obtain ⟨T', h', X', e', W, st⟩ := stC X hx hZ eT A' (j := j) h1 (g := mkF m pc Ls (.int v :: .int j :: .ref b :: rest)) rfl rfl hd
  rw [hn] at W
  exact Go.to st (k T' h' X' e' W (A.same W))
theorem Go.newI (X : Stand p l e R s m args below meth c T locs cells slots) (hx : p.tables.exec = Jvm.exec) (hZ : Z.Warmed39 s.vm) (wa : (Cond.arrayClass .int).before a0 Z = true) (eT : T.heap = h) (hd : decode c.code pc = .ok (.newarray .int, 2)) {n : Int32} (hn : ¬ n < 0) {cap : Nat} (hcap : n.toNatClampNeg ≤ cap) (hb : cap * 8 ≤ 536870912) (hc : cells + 1 ≤ R.cells) (hl : slots + cap ≤ R.slots)
    (k : ∀ T' h' b, Stand p l e R s m args below meth c T' locs (cells + 1) (slots + cap) → T'.heap = h' → Ext h h' → b = h.size → AV Z h' b .int (List.replicate n.toNatClampNeg 0) → Go p e below K T' (mkF m (pc + 2) Ls (.ref b :: rest))) : Go p e below K T (mkF m pc Ls (.int n :: rest)) := by
  obtain ⟨T', h', cA, X', e', E, A, st⟩ := newP X hx hZ (aty := .int) wa eT (g := mkF m pc Ls (.int n :: rest)) rfl hd rfl hn hcap hb hc hl
  exact Go.to st (k T' h' _ X' e' E rfl (AV.new A))
theorem Go.newC (X : Stand p l e R s m args below meth c T locs cells slots) (hx : p.tables.exec = Jvm.exec) (hZ : Z.Warmed39 s.vm) (wa : (Cond.arrayClass .char).before a0 Z = true) (eT : T.heap = h) (hd : decode c.code pc = .ok (.newarray .char, 2)) {n : Int32} (hn : ¬ n < 0) {cap : Nat} (hcap : n.toNatClampNeg ≤ cap) (hb : cap * 8 ≤ 536870912) (hc : cells + 1 ≤ R.cells) (hl : slots + cap ≤ R.slots)
    (k : ∀ T' h' b, Stand p l e R s m args below meth c T' locs (cells + 1) (slots + cap) → T'.heap = h' → Ext h h' → b = h.size → AV Z h' b .char (List.replicate n.toNatClampNeg 0) → Go p e below K T' (mkF m (pc + 2) Ls (.ref b :: rest))) : Go p e below K T (mkF m pc Ls (.int n :: rest)) := by
  obtain ⟨T', h', cA, X', e', E, A, st⟩ := newP X hx hZ (aty := .char) wa eT (g := mkF m pc Ls (.int n :: rest)) rfl hd rfl hn hcap hb hc hl
  exact Go.to st (k T' h' _ X' e' E rfl (AV.newC A))
theorem frOne {k n : Nat} {L : List Loc} (N : Fr k L) (q : k ≤ b) : Fr k (L ++ [⟨b, n⟩]) := N.app fun y hy => by cases List.mem_singleton.mp hy; exact q
end OwnKit
theorem pd_0 : parseMethodDescriptor "(JIJ)J" = some ⟨[.long, .int, .long], some .long⟩ := by decide +kernel
def QP (r : Value) (h0 : Heap) : Option Value → Heap → List Loc → Prop := fun v h L => v = some r ∧ h = h0 ∧ L = []
def fA (q1 : Int64) (p2 : Int32) (q3 : Int64) : Int64 := (if (0 : Int32) < (lcmpW (((q1 / (p2.toInt64)) + (1 : Int64)) * (p2.toInt64)) q3) then (0 : Int64) else (((q1 / (p2.toInt64)) + (1 : Int64)) * (p2.toInt64)))
theorem d1_0 : decode prog_58_method_7_code 0 = .ok (.lload_n 0, 1) := by decide +kernel
theorem d1_1 : decode prog_58_method_7_code 1 = .ok (.iload_n 2, 1) := by decide +kernel
theorem d1_2 : decode prog_58_method_7_code 2 = .ok (.i2l, 1) := by decide +kernel
theorem d1_3 : decode prog_58_method_7_code 3 = .ok (.ldiv, 1) := by decide +kernel
theorem d1_4 : decode prog_58_method_7_code 4 = .ok (.lconst 1, 1) := by decide +kernel
theorem d1_5 : decode prog_58_method_7_code 5 = .ok (.ladd, 1) := by decide +kernel
theorem d1_6 : decode prog_58_method_7_code 6 = .ok (.iload_n 2, 1) := by decide +kernel
theorem d1_7 : decode prog_58_method_7_code 7 = .ok (.i2l, 1) := by decide +kernel
theorem d1_8 : decode prog_58_method_7_code 8 = .ok (.lmul, 1) := by decide +kernel
theorem d1_9 : decode prog_58_method_7_code 9 = .ok (.lstore 5, 2) := by decide +kernel
theorem d1_11 : decode prog_58_method_7_code 11 = .ok (.lload 5, 2) := by decide +kernel
theorem d1_13 : decode prog_58_method_7_code 13 = .ok (.lload_n 3, 1) := by decide +kernel
theorem d1_14 : decode prog_58_method_7_code 14 = .ok (.lcmp, 1) := by decide +kernel
theorem d1_15 : decode prog_58_method_7_code 15 = .ok (.ifCond .gt 8, 3) := by decide +kernel
theorem d1_18 : decode prog_58_method_7_code 18 = .ok (.lload 5, 2) := by decide +kernel
theorem d1_20 : decode prog_58_method_7_code 20 = .ok (.goto 4, 3) := by decide +kernel
theorem d1_23 : decode prog_58_method_7_code 23 = .ok (.lconst 0, 1) := by decide +kernel
theorem d1_24 : decode prog_58_method_7_code 24 = .ok (.lreturn, 1) := by decide +kernel
theorem ef_rm1 (m : MethodId) (q1 : Int64) (p2 : Int32) (q3 : Int64) : entryFrame m #[(.long q1), (.int p2), (.long q3)] 7 = mkF m 0 #[.val (.long q1), .second, .val (.int p2), .val (.long q3), .second, .unset, .unset] [] := by first | (simp [entryFrame, mkF, argsToLocals, Value.category]; done) | rfl
set_option maxHeartbeats 40000000 in
theorem rm1 (l : Launch) (Z : State) (a0 : Array Value) (hw : ∀ d ∈ tables_1, d.before a0 Z = true) (ws : List Jvm.Cond) (q1 : Int64) (p2 : Int32) (q3 : Int64) (h0 : Heap) (hnz : ¬ p2.toInt64 = (0 : Int64)) :
    Met1 l Z (⟨"com/example/eventually/eventually/learning/QLearning", "stableFrom", "(JIJ)J"⟩ : MethodName) prog_58_method_7_code 7 (some .long) ws ({ frames := 0, cells := 0, slots := 0, locals := 0 } : Room) #[(.long q1), (.int p2), (.long q3)] h0 (QP (.long (fA q1 p2 q3)) h0) := by
  refine metOf (by first | exact plainFor_of_name (by first | (simp [plainName, overriddenIn]; done) | decide +kernel) | decide +kernel) ?_
  intro p e s m below meth c s₁ hx hby hml hown hnm hret hlk hZ X0 e0
  have hown : s.vm.findClass "com/example/eventually/eventually/learning/QLearning" = some m.cls := hown
  obtain ⟨K, hK⟩ : ∃ K, K = KQ s (QP (.long (fA q1 p2 q3)) h0) (({ frames := 0, cells := 0, slots := 0, locals := 0 } : Room)).cells (({ frames := 0, cells := 0, slots := 0, locals := 0 } : Room)).slots := ⟨_, rfl⟩
  show Go p e below (KQ s (QP (.long (fA q1 p2 q3)) h0) (({ frames := 0, cells := 0, slots := 0, locals := 0 } : Room)).cells (({ frames := 0, cells := 0, slots := 0, locals := 0 } : Room)).slots) s₁ (entryFrame m #[(.long q1), (.int p2), (.long q3)] 7)
  rw [← hK, ef_rm1 m q1 p2 q3]
  show Go p e below _ s₁ (mkF m 0 #[.val (.long q1), .second, .val (.int p2), .val (.long q3), .second, .unset, .unset] [])
  refine Go.to (fun _ => XS.lloadN X0.here hx rfl (hb hby d1_0) rfl) ?_
  show Go p e below _ s₁ (mkF m 1 #[.val (.long q1), .second, .val (.int p2), .val (.long q3), .second, .unset, .unset] [(.long q1)])
  refine Go.to (fun _ => XS.iloadN X0.here hx rfl (hb hby d1_1) rfl) ?_
  show Go p e below _ s₁ (mkF m 2 #[.val (.long q1), .second, .val (.int p2), .val (.long q3), .second, .unset, .unset] [(.int p2), (.long q1)])
  refine Go.to (fun _ => XS.i2l X0.here hx rfl (hb hby d1_2) rfl) ?_
  show Go p e below _ s₁ (mkF m 3 #[.val (.long q1), .second, .val (.int p2), .val (.long q3), .second, .unset, .unset] [(.long (p2.toInt64)), (.long q1)])
  refine Go.to (fun _ => XS.ldiv X0.here hx rfl (hb hby d1_3) rfl hnz) ?_
  show Go p e below _ s₁ (mkF m 4 #[.val (.long q1), .second, .val (.int p2), .val (.long q3), .second, .unset, .unset] [(.long (q1 / (p2.toInt64)))])
  refine Go.to (fun _ => XS.lconst X0.here hx rfl (hb hby d1_4)) ?_
  show Go p e below _ s₁ (mkF m 5 #[.val (.long q1), .second, .val (.int p2), .val (.long q3), .second, .unset, .unset] [(.long (1 : Int64)), (.long (q1 / (p2.toInt64)))])
  refine Go.to (fun _ => XS.ladd X0.here hx rfl (hb hby d1_5) rfl) ?_
  show Go p e below _ s₁ (mkF m 6 #[.val (.long q1), .second, .val (.int p2), .val (.long q3), .second, .unset, .unset] [(.long ((q1 / (p2.toInt64)) + (1 : Int64)))])
  refine Go.to (fun _ => XS.iloadN X0.here hx rfl (hb hby d1_6) rfl) ?_
  show Go p e below _ s₁ (mkF m 7 #[.val (.long q1), .second, .val (.int p2), .val (.long q3), .second, .unset, .unset] [(.int p2), (.long ((q1 / (p2.toInt64)) + (1 : Int64)))])
  refine Go.to (fun _ => XS.i2l X0.here hx rfl (hb hby d1_7) rfl) ?_
  show Go p e below _ s₁ (mkF m 8 #[.val (.long q1), .second, .val (.int p2), .val (.long q3), .second, .unset, .unset] [(.long (p2.toInt64)), (.long ((q1 / (p2.toInt64)) + (1 : Int64)))])
  refine Go.to (fun _ => XS.lmul X0.here hx rfl (hb hby d1_8) rfl) ?_
  show Go p e below _ s₁ (mkF m 9 #[.val (.long q1), .second, .val (.int p2), .val (.long q3), .second, .unset, .unset] [(.long (((q1 / (p2.toInt64)) + (1 : Int64)) * (p2.toInt64)))])
  refine Go.to (fun _ => XS.lstore X0.here hx rfl (hb hby d1_9) rfl (l' := #[.val (.long q1), .second, .val (.int p2), .val (.long q3), .second, .val (.long (((q1 / (p2.toInt64)) + (1 : Int64)) * (p2.toInt64))), .second]) rfl) ?_
  show Go p e below _ s₁ (mkF m 11 #[.val (.long q1), .second, .val (.int p2), .val (.long q3), .second, .val (.long (((q1 / (p2.toInt64)) + (1 : Int64)) * (p2.toInt64))), .second] [])
  refine Go.to (fun _ => XS.lload X0.here hx rfl (hb hby d1_11) rfl) ?_
  show Go p e below _ s₁ (mkF m 13 #[.val (.long q1), .second, .val (.int p2), .val (.long q3), .second, .val (.long (((q1 / (p2.toInt64)) + (1 : Int64)) * (p2.toInt64))), .second] [(.long (((q1 / (p2.toInt64)) + (1 : Int64)) * (p2.toInt64)))])
  refine Go.to (fun _ => XS.lloadN X0.here hx rfl (hb hby d1_13) rfl) ?_
  show Go p e below _ s₁ (mkF m 14 #[.val (.long q1), .second, .val (.int p2), .val (.long q3), .second, .val (.long (((q1 / (p2.toInt64)) + (1 : Int64)) * (p2.toInt64))), .second] [(.long q3), (.long (((q1 / (p2.toInt64)) + (1 : Int64)) * (p2.toInt64)))])
  refine Go.to (fun _ => XS.lcmp X0.here hx rfl (hb hby d1_14) rfl) ?_
  show Go p e below _ s₁ (mkF m 15 #[.val (.long q1), .second, .val (.int p2), .val (.long q3), .second, .val (.long (((q1 / (p2.toInt64)) + (1 : Int64)) * (p2.toInt64))), .second] [(.int (lcmpW (((q1 / (p2.toInt64)) + (1 : Int64)) * (p2.toInt64)) q3))])
  by_cases hc1 : (0 : Int32) < (lcmpW (((q1 / (p2.toInt64)) + (1 : Int64)) * (p2.toInt64)) q3)
  · refine Go.to (fun _ => XS.ifYes X0.here hx rfl (pc0 := 15) (pc' := 23) rfl (hb hby d1_15) rfl ((if0 _ _).trans (tlt hc1).2.2.1) (by decide) (by decide)) ?_
    show Go p e below _ s₁ (mkF m 23 #[.val (.long q1), .second, .val (.int p2), .val (.long q3), .second, .val (.long (((q1 / (p2.toInt64)) + (1 : Int64)) * (p2.toInt64))), .second] [])
    refine Go.to (fun _ => XS.lconst X0.here hx rfl (hb hby d1_23)) ?_
    show Go p e below _ s₁ (mkF m 24 #[.val (.long q1), .second, .val (.int p2), .val (.long q3), .second, .val (.long (((q1 / (p2.toInt64)) + (1 : Int64)) * (p2.toInt64))), .second] [(.long (0 : Int64))])
    rw [hK]
    exact Go.retJ X0 hx hlk hret (hb hby d1_24) ⟨by rw [fA]; rw [if_pos hc1], e0, rfl⟩ (by decide) (by decide)
  · refine Go.to (fun _ => XS.ifNo X0.here hx rfl (hb hby d1_15) rfl ((if0 _ _).trans (flt hc1).2.2.1)) ?_
    show Go p e below _ s₁ (mkF m 18 #[.val (.long q1), .second, .val (.int p2), .val (.long q3), .second, .val (.long (((q1 / (p2.toInt64)) + (1 : Int64)) * (p2.toInt64))), .second] [])
    refine Go.to (fun _ => XS.lload X0.here hx rfl (hb hby d1_18) rfl) ?_
    show Go p e below _ s₁ (mkF m 20 #[.val (.long q1), .second, .val (.int p2), .val (.long q3), .second, .val (.long (((q1 / (p2.toInt64)) + (1 : Int64)) * (p2.toInt64))), .second] [(.long (((q1 / (p2.toInt64)) + (1 : Int64)) * (p2.toInt64)))])
    refine Go.to (fun _ => XS.goto X0.here hx rfl (pc0 := 20) (pc' := 24) rfl (hb hby d1_20) (by decide) (by decide)) ?_
    show Go p e below _ s₁ (mkF m 24 #[.val (.long q1), .second, .val (.int p2), .val (.long q3), .second, .val (.long (((q1 / (p2.toInt64)) + (1 : Int64)) * (p2.toInt64))), .second] [(.long (((q1 / (p2.toInt64)) + (1 : Int64)) * (p2.toInt64)))])
    rw [hK]
    exact Go.retJ X0 hx hlk hret (hb hby d1_24) ⟨by rw [fA]; rw [if_neg hc1], e0, rfl⟩ (by decide) (by decide)
theorem own_l {p1 zl : Int64} (h : zl = p1 &&& (4611686018427387903 : Int64)) : 0 ≤ zl.toInt ∧ zl.toInt < 2 ^ 62 := by
  have e4 : (p1 &&& (4611686018427387903 : Int64)).toInt = p1.toInt % 2 ^ 62 := Jvm.Kit.i64_mask p1 _ (k := 62) (by decide) (by decide)
  rw [h, e4]; omega
theorem own_i (p2 zi : Int32) (h : zi = (if (p2 &&& (2147483647 : Int32)) = (0 : Int32) then (1 : Int32) else (p2 &&& (2147483647 : Int32)))) : 1 ≤ zi.toInt ∧ zi.toInt < 2 ^ 31 := by
  have e4 : (p2 &&& (2147483647 : Int32)).toInt = p2.toInt % 2 ^ 31 := Jvm.Kit.i32_mask p2 _ (k := 31) (by decide) (by decide)
  have e1 : (1 : Int32).toInt = 1 := by decide
  have e0 : (0 : Int32).toInt = 0 := by decide
  rw [h]
  split
  · omega
  · rename_i q
    rw [← Int32.toInt_inj, e4, e0] at q
    omega
theorem own_nz {zi : Int32} (h : 1 ≤ zi.toInt) : ¬ zi.toInt64 = (0 : Int64) := fun q => by
  have := congrArg Int64.toInt q
  rw [Jvm.Kit.i64_of_i32] at this
  have e0 : (0 : Int64).toInt = 0 := by decide
  omega
theorem own_e {p1 p4 zl ze : Int64} {p3 p5 : Int32} (hl : zl = p1 &&& (4611686018427387903 : Int64)) (h : ze = (if (p5 &&& (1 : Int32)) = (0 : Int32) then (zl + (p3.toInt64)) else (p4 &&& (4611686018427387903 : Int64)))) : -2 ^ 62 < ze.toInt ∧ ze.toInt < 2 ^ 63 := by
  have e4 : (p4 &&& (4611686018427387903 : Int64)).toInt = p4.toInt % 2 ^ 62 := Jvm.Kit.i64_mask p4 _ (k := 62) (by decide) (by decide)
  have hb := own_l hl
  have hr := rng32 p3
  have e5 : (zl + p3.toInt64).toInt = zl.toInt + p3.toInt := by
    rw [Jvm.Kit.i64_add (by rw [Jvm.Kit.i64_of_i32]; omega) (by rw [Jvm.Kit.i64_of_i32]; omega), Jvm.Kit.i64_of_i32]
  rw [h]
  split <;> omega
theorem own_all {zl ze zr zn : Int64} {zi : Int32} (hl : 0 ≤ zl.toInt ∧ zl.toInt < 2 ^ 62) (hi : 1 ≤ zi.toInt ∧ zi.toInt < 2 ^ 31) (he : -2 ^ 62 < ze.toInt ∧ ze.toInt < 2 ^ 63) (hr : zr = fA zl zi ze)
    (hn : zn = ((zl - (zl - (zl / (zi.toInt64)) * (zi.toInt64))) + (zi.toInt64))) :
    (zr = (0 : Int64) → ze < zn) ∧ (¬ zr = (0 : Int64) → (zr - (zr / (zi.toInt64)) * (zi.toInt64)) = (0 : Int64) ∧ zl < zr ∧ ¬ zl < zr - (zi.toInt64) ∧ ¬ ze < zr) := by
  have e0 : (0 : Int64).toInt = 0 := by decide
  have e1 : (1 : Int64).toInt = 1 := by decide
  obtain ⟨i, ei⟩ : ∃ i, i = zi.toInt := ⟨_, rfl⟩
  obtain ⟨d, ed⟩ : ∃ d : Int64, d = zi.toInt64 := ⟨_, rfl⟩
  have hd : d.toInt = i := by rw [ed, Jvm.Kit.i64_of_i32, ei]
  obtain ⟨a, ea⟩ : ∃ a, a = zl.toInt := ⟨_, rfl⟩
  rw [← ed] at hn ⊢
  have q1 : (zl / d).toInt = a / i := by rw [Jvm.Kit.i64_div (by omega), hd, ← ea, Int.tdiv_eq_ediv_of_nonneg (by omega)]
  have q2 : (zl - (zl / d) * d).toInt = a % i := by rw [Jvm.Kit.i64_rem_nonneg (by omega), hd, ← ea]
  have m0 : 0 ≤ a % i := Int.emod_nonneg _ (by omega)
  have m1 : a % i < i := Int.emod_lt_of_pos _ (by omega)
  have m2 : i * (a / i) + a % i = a := Int.mul_ediv_add_emod a i
  have m3 : 0 ≤ a / i := Int.ediv_nonneg (by omega) (by omega)
  have m4 : a / i ≤ a := Int.ediv_le_self _ (by omega)
  have m5 : (a / i + 1) * i = i * (a / i) + i := by rw [Int.add_mul, Int.one_mul, Int.mul_comm]
  have q3 : (zl / d + (1 : Int64)).toInt = a / i + 1 := by rw [Jvm.Kit.i64_add (by omega) (by omega), q1, e1]
  have q4 : ((zl / d + (1 : Int64)) * d).toInt = i * (a / i) + i := by
    rw [Jvm.Kit.i64_mul (by rw [q3, hd, m5]; omega) (by rw [q3, hd, m5]; omega), q3, hd, m5]
  have q5 : (zl - (zl - (zl / d) * d)).toInt = a - a % i := by rw [Jvm.Kit.i64_sub (by omega) (by omega), q2, ← ea]
  have q6 : zn.toInt = i * (a / i) + i := by rw [hn, Jvm.Kit.i64_add (by omega) (by omega), q5, hd]; omega
  have f : zr = (if ze < (zl / d + (1 : Int64)) * d then (0 : Int64) else (zl / d + (1 : Int64)) * d) := by
    rw [hr, fA, ← ed]
    by_cases c : ze < (zl / d + (1 : Int64)) * d
    · rw [if_pos c, if_pos ((lw_gt _ _).mpr c)]
    · rw [if_neg c, if_neg (fun u => c ((lw_gt _ _).mp u))]
  by_cases c : ze < (zl / d + (1 : Int64)) * d
  · rw [if_pos c] at f
    refine ⟨fun _ => ?_, fun u => absurd f u⟩
    rw [Int64.lt_iff_toInt_lt] at c ⊢; omega
  · rw [if_neg c] at f
    have q7 : zr.toInt = i * (a / i) + i := by rw [f, q4]
    refine ⟨fun u => ?_, fun _ => ⟨?_, ?_, ?_, ?_⟩⟩
    · rw [u, e0] at q7; exfalso; have := Int.mul_nonneg (show 0 ≤ i by omega) m3; omega
    · refine Int64.toInt_inj.mp ?_
      rw [Jvm.Kit.i64_rem_nonneg (by omega), hd, q7, e0, show i * (a / i) + i = i * (a / i + 1) by rw [Int.mul_add, Int.mul_one]]
      exact Int.mul_emod_right _ _
    · rw [Int64.lt_iff_toInt_lt]; omega
    · rw [Int64.lt_iff_toInt_lt, Jvm.Kit.i64_sub (by omega) (by omega), q7, hd]; omega
    · rw [f]; exact c
theorem ef_rm0 (m : MethodId) (p1 : Int64) (p2 : Int32) (p3 : Int32) (p4 : Int64) (p5 : Int32) : entryFrame m #[(.long p1), (.int p2), (.int p3), (.long p4), (.int p5)] maxLocals = mkF m 0 #[.val (.long p1), .second, .val (.int p2), .val (.int p3), .val (.long p4), .second, .val (.int p5), .unset, .unset, .unset, .unset, .unset, .unset, .unset, .unset, .unset] [] := by first | (simp [entryFrame, mkF, argsToLocals, Value.category, maxLocals]; done) | rfl
set_option maxHeartbeats 40000000 in
theorem rm0 (l : Launch) (Z : State) (a0 : Array Value) (hw : ∀ d ∈ tables_1, d.before a0 Z = true) (ws : List Jvm.Cond) (p1 : Int64) (p2 : Int32) (p3 : Int32) (p4 : Int64) (p5 : Int32) (h0 : Heap) (n0 : Nat) (Z0 : n0 ≤ h0.size) :
    Met1 l Z x code maxLocals ret ws room_1 #[(.long p1), (.int p2), (.int p3), (.long p4), (.int p5)] h0 (fun v h L => v = some (.int 1) ∧ Fr n0 L) := by
  refine metOf (by first | exact plainFor_of_name (by first | (simp [plainName, overriddenIn]; done) | decide +kernel) | decide +kernel) ?_
  intro p e s m below meth c s₁ hx hby hml hown hnm hret hlk hZ X0 e0
  have hown : s.vm.findClass "com/example/eventually/eventually/learning/QLearningStableFromPinLaw" = some m.cls := hown
  have hml : c.maxLocals = 16 := hml
  obtain ⟨K, hK⟩ : ∃ K, K = KQ s (fun v h L => v = some (.int 1) ∧ Fr n0 L) (room_1).cells (room_1).slots := ⟨_, rfl⟩
  show Go p e below (KQ s (fun v h L => v = some (.int 1) ∧ Fr n0 L) (room_1).cells (room_1).slots) s₁ (entryFrame m #[(.long p1), (.int p2), (.int p3), (.long p4), (.int p5)] maxLocals)
  rw [← hK, ef_rm0 m p1 p2 p3 p4 p5]
  show Go p e below _ s₁ (mkF m 0 #[.val (.long p1), .second, .val (.int p2), .val (.int p3), .val (.long p4), .second, .val (.int p5), .unset, .unset, .unset, .unset, .unset, .unset, .unset, .unset, .unset] [])
  refine Go.to (fun _ => XS.lloadN X0.here hx rfl (hb hby at_0) rfl) ?_
  show Go p e below _ s₁ (mkF m 1 #[.val (.long p1), .second, .val (.int p2), .val (.int p3), .val (.long p4), .second, .val (.int p5), .unset, .unset, .unset, .unset, .unset, .unset, .unset, .unset, .unset] [(.long p1)])
  refine Go.to (fun _ => X0.ldc2Long hx hown (mvT hZ (hw _ (List.mem_of_getElem? (i := 0) rfl))) (g := (mkF m 1 #[.val (.long p1), .second, .val (.int p2), .val (.int p3), .val (.long p4), .second, .val (.int p5), .unset, .unset, .unset, .unset, .unset, .unset, .unset, .unset, .unset] [(.long p1)])) rfl (hb hby at_1) _) ?_
  show Go p e below _ s₁ (mkF m 4 #[.val (.long p1), .second, .val (.int p2), .val (.int p3), .val (.long p4), .second, .val (.int p5), .unset, .unset, .unset, .unset, .unset, .unset, .unset, .unset, .unset] [(.long (4611686018427387903 : Int64)), (.long p1)])
  refine Go.to (fun _ => XS.land X0.here hx rfl (hb hby at_4) rfl) ?_
  show Go p e below _ s₁ (mkF m 5 #[.val (.long p1), .second, .val (.int p2), .val (.int p3), .val (.long p4), .second, .val (.int p5), .unset, .unset, .unset, .unset, .unset, .unset, .unset, .unset, .unset] [(.long (p1 &&& (4611686018427387903 : Int64)))])
  refine Go.to (fun _ => XS.lstore X0.here hx rfl (hb hby at_5) rfl (l' := #[.val (.long p1), .second, .val (.int p2), .val (.int p3), .val (.long p4), .second, .val (.int p5), .val (.long (p1 &&& (4611686018427387903 : Int64))), .second, .unset, .unset, .unset, .unset, .unset, .unset, .unset]) rfl) ?_
  show Go p e below _ s₁ (mkF m 7 #[.val (.long p1), .second, .val (.int p2), .val (.int p3), .val (.long p4), .second, .val (.int p5), .val (.long (p1 &&& (4611686018427387903 : Int64))), .second, .unset, .unset, .unset, .unset, .unset, .unset, .unset] [])
  obtain ⟨zl, hzl⟩ : ∃ z : Int64, z = p1 &&& (4611686018427387903 : Int64) := ⟨_, rfl⟩
  rw [← hzl]
  show Go p e below _ s₁ (mkF m 7 #[.val (.long p1), .second, .val (.int p2), .val (.int p3), .val (.long p4), .second, .val (.int p5), .val (.long zl), .second, .unset, .unset, .unset, .unset, .unset, .unset, .unset] [])
  refine Go.to (fun _ => XS.iloadN X0.here hx rfl (hb hby at_7) rfl) ?_
  show Go p e below _ s₁ (mkF m 8 #[.val (.long p1), .second, .val (.int p2), .val (.int p3), .val (.long p4), .second, .val (.int p5), .val (.long zl), .second, .unset, .unset, .unset, .unset, .unset, .unset, .unset] [(.int p2)])
  refine Go.to (fun _ => X0.ldcInt hx hown (mvT hZ (hw _ (List.mem_of_getElem? (i := 1) rfl))) (g := (mkF m 8 #[.val (.long p1), .second, .val (.int p2), .val (.int p3), .val (.long p4), .second, .val (.int p5), .val (.long zl), .second, .unset, .unset, .unset, .unset, .unset, .unset, .unset] [(.int p2)])) rfl (hb hby at_8) _) ?_
  show Go p e below _ s₁ (mkF m 10 #[.val (.long p1), .second, .val (.int p2), .val (.int p3), .val (.long p4), .second, .val (.int p5), .val (.long zl), .second, .unset, .unset, .unset, .unset, .unset, .unset, .unset] [(.int (2147483647 : Int32)), (.int p2)])
  refine Go.to (fun _ => XS.iand X0.here hx rfl (hb hby at_10) rfl) ?_
  show Go p e below _ s₁ (mkF m 11 #[.val (.long p1), .second, .val (.int p2), .val (.int p3), .val (.long p4), .second, .val (.int p5), .val (.long zl), .second, .unset, .unset, .unset, .unset, .unset, .unset, .unset] [(.int (p2 &&& (2147483647 : Int32)))])
  refine Go.to (fun _ => XS.istore X0.here hx rfl (hb hby at_11) rfl (l' := #[.val (.long p1), .second, .val (.int p2), .val (.int p3), .val (.long p4), .second, .val (.int p5), .val (.long zl), .second, .val (.int (p2 &&& (2147483647 : Int32))), .unset, .unset, .unset, .unset, .unset, .unset]) rfl) ?_
  show Go p e below _ s₁ (mkF m 13 #[.val (.long p1), .second, .val (.int p2), .val (.int p3), .val (.long p4), .second, .val (.int p5), .val (.long zl), .second, .val (.int (p2 &&& (2147483647 : Int32))), .unset, .unset, .unset, .unset, .unset, .unset] [])
  have hj1 : (∀ zi : Int32, zi = (if (p2 &&& (2147483647 : Int32)) = (0 : Int32) then (1 : Int32) else (p2 &&& (2147483647 : Int32))) → Go p e below K s₁ (mkF m 21 #[.val (.long p1), .second, .val (.int p2), .val (.int p3), .val (.long p4), .second, .val (.int p5), .val (.long zl), .second, .val (.int zi), .unset, .unset, .unset, .unset, .unset, .unset] [])) → Go p e below K s₁ (mkF m 13 #[.val (.long p1), .second, .val (.int p2), .val (.int p3), .val (.long p4), .second, .val (.int p5), .val (.long zl), .second, .val (.int (p2 &&& (2147483647 : Int32))), .unset, .unset, .unset, .unset, .unset, .unset] []) := by
    intro k
    refine Go.to (fun _ => XS.iload X0.here hx rfl (hb hby at_13) rfl) ?_
    show Go p e below _ s₁ (mkF m 15 #[.val (.long p1), .second, .val (.int p2), .val (.int p3), .val (.long p4), .second, .val (.int p5), .val (.long zl), .second, .val (.int (p2 &&& (2147483647 : Int32))), .unset, .unset, .unset, .unset, .unset, .unset] [(.int (p2 &&& (2147483647 : Int32)))])
    by_cases hc1 : (p2 &&& (2147483647 : Int32)) = (0 : Int32)
    · refine Go.to (fun _ => XS.ifNo X0.here hx rfl (hb hby at_15) rfl ((if0 _ _).trans (teq hc1).2)) ?_
      show Go p e below _ s₁ (mkF m 18 #[.val (.long p1), .second, .val (.int p2), .val (.int p3), .val (.long p4), .second, .val (.int p5), .val (.long zl), .second, .val (.int (p2 &&& (2147483647 : Int32))), .unset, .unset, .unset, .unset, .unset, .unset] [])
      refine Go.to (fun _ => XS.iconst X0.here hx rfl (hb hby at_18)) ?_
      show Go p e below _ s₁ (mkF m 19 #[.val (.long p1), .second, .val (.int p2), .val (.int p3), .val (.long p4), .second, .val (.int p5), .val (.long zl), .second, .val (.int (p2 &&& (2147483647 : Int32))), .unset, .unset, .unset, .unset, .unset, .unset] [(.int (1 : Int32))])
      refine Go.to (fun _ => XS.istore X0.here hx rfl (hb hby at_19) rfl (l' := #[.val (.long p1), .second, .val (.int p2), .val (.int p3), .val (.long p4), .second, .val (.int p5), .val (.long zl), .second, .val (.int (1 : Int32)), .unset, .unset, .unset, .unset, .unset, .unset]) rfl) ?_
      show Go p e below _ s₁ (mkF m 21 #[.val (.long p1), .second, .val (.int p2), .val (.int p3), .val (.long p4), .second, .val (.int p5), .val (.long zl), .second, .val (.int (1 : Int32)), .unset, .unset, .unset, .unset, .unset, .unset] [])
      exact k (1 : Int32) (by rw [if_pos hc1])
    · refine Go.to (fun _ => XS.ifYes X0.here hx rfl (pc0 := 15) (pc' := 21) rfl (hb hby at_15) rfl ((if0 _ _).trans (feq hc1).2) (by decide) (by decide)) ?_
      show Go p e below _ s₁ (mkF m 21 #[.val (.long p1), .second, .val (.int p2), .val (.int p3), .val (.long p4), .second, .val (.int p5), .val (.long zl), .second, .val (.int (p2 &&& (2147483647 : Int32))), .unset, .unset, .unset, .unset, .unset, .unset] [])
      exact k (p2 &&& (2147483647 : Int32)) (by rw [if_neg hc1])
  refine hj1 (fun zi hzi => ?_)
  clear hj1
  have hj2 : (∀ ze : Int64, ze = (if (p5 &&& (1 : Int32)) = (0 : Int32) then (zl + (p3.toInt64)) else (p4 &&& (4611686018427387903 : Int64))) → Go p e below K s₁ (mkF m 42 #[.val (.long p1), .second, .val (.int p2), .val (.int p3), .val (.long p4), .second, .val (.int p5), .val (.long zl), .second, .val (.int zi), .unset, .unset, .unset, .unset, .unset, .unset] [(.long ze)])) → Go p e below K s₁ (mkF m 21 #[.val (.long p1), .second, .val (.int p2), .val (.int p3), .val (.long p4), .second, .val (.int p5), .val (.long zl), .second, .val (.int zi), .unset, .unset, .unset, .unset, .unset, .unset] []) := by
    intro k
    refine Go.to (fun _ => XS.iload X0.here hx rfl (hb hby at_21) rfl) ?_
    show Go p e below _ s₁ (mkF m 23 #[.val (.long p1), .second, .val (.int p2), .val (.int p3), .val (.long p4), .second, .val (.int p5), .val (.long zl), .second, .val (.int zi), .unset, .unset, .unset, .unset, .unset, .unset] [(.int p5)])
    refine Go.to (fun _ => XS.iconst X0.here hx rfl (hb hby at_23)) ?_
    show Go p e below _ s₁ (mkF m 24 #[.val (.long p1), .second, .val (.int p2), .val (.int p3), .val (.long p4), .second, .val (.int p5), .val (.long zl), .second, .val (.int zi), .unset, .unset, .unset, .unset, .unset, .unset] [(.int (1 : Int32)), (.int p5)])
    refine Go.to (fun _ => XS.iand X0.here hx rfl (hb hby at_24) rfl) ?_
    show Go p e below _ s₁ (mkF m 25 #[.val (.long p1), .second, .val (.int p2), .val (.int p3), .val (.long p4), .second, .val (.int p5), .val (.long zl), .second, .val (.int zi), .unset, .unset, .unset, .unset, .unset, .unset] [(.int (p5 &&& (1 : Int32)))])
    by_cases hc2 : (p5 &&& (1 : Int32)) = (0 : Int32)
    · refine Go.to (fun _ => XS.ifYes X0.here hx rfl (pc0 := 25) (pc' := 37) rfl (hb hby at_25) rfl ((if0 _ _).trans (teq hc2).1) (by decide) (by decide)) ?_
      show Go p e below _ s₁ (mkF m 37 #[.val (.long p1), .second, .val (.int p2), .val (.int p3), .val (.long p4), .second, .val (.int p5), .val (.long zl), .second, .val (.int zi), .unset, .unset, .unset, .unset, .unset, .unset] [])
      refine Go.to (fun _ => XS.lload X0.here hx rfl (hb hby at_37) rfl) ?_
      show Go p e below _ s₁ (mkF m 39 #[.val (.long p1), .second, .val (.int p2), .val (.int p3), .val (.long p4), .second, .val (.int p5), .val (.long zl), .second, .val (.int zi), .unset, .unset, .unset, .unset, .unset, .unset] [(.long zl)])
      refine Go.to (fun _ => XS.iloadN X0.here hx rfl (hb hby at_39) rfl) ?_
      show Go p e below _ s₁ (mkF m 40 #[.val (.long p1), .second, .val (.int p2), .val (.int p3), .val (.long p4), .second, .val (.int p5), .val (.long zl), .second, .val (.int zi), .unset, .unset, .unset, .unset, .unset, .unset] [(.int p3), (.long zl)])
      refine Go.to (fun _ => XS.i2l X0.here hx rfl (hb hby at_40) rfl) ?_
      show Go p e below _ s₁ (mkF m 41 #[.val (.long p1), .second, .val (.int p2), .val (.int p3), .val (.long p4), .second, .val (.int p5), .val (.long zl), .second, .val (.int zi), .unset, .unset, .unset, .unset, .unset, .unset] [(.long (p3.toInt64)), (.long zl)])
      refine Go.to (fun _ => XS.ladd X0.here hx rfl (hb hby at_41) rfl) ?_
      show Go p e below _ s₁ (mkF m 42 #[.val (.long p1), .second, .val (.int p2), .val (.int p3), .val (.long p4), .second, .val (.int p5), .val (.long zl), .second, .val (.int zi), .unset, .unset, .unset, .unset, .unset, .unset] [(.long (zl + (p3.toInt64)))])
      exact k (zl + (p3.toInt64)) (by rw [if_pos hc2])
    · refine Go.to (fun _ => XS.ifNo X0.here hx rfl (hb hby at_25) rfl ((if0 _ _).trans (feq hc2).1)) ?_
      show Go p e below _ s₁ (mkF m 28 #[.val (.long p1), .second, .val (.int p2), .val (.int p3), .val (.long p4), .second, .val (.int p5), .val (.long zl), .second, .val (.int zi), .unset, .unset, .unset, .unset, .unset, .unset] [])
      refine Go.to (fun _ => XS.lload X0.here hx rfl (hb hby at_28) rfl) ?_
      show Go p e below _ s₁ (mkF m 30 #[.val (.long p1), .second, .val (.int p2), .val (.int p3), .val (.long p4), .second, .val (.int p5), .val (.long zl), .second, .val (.int zi), .unset, .unset, .unset, .unset, .unset, .unset] [(.long p4)])
      refine Go.to (fun _ => X0.ldc2Long hx hown (mvT hZ (hw _ (List.mem_of_getElem? (i := 0) rfl))) (g := (mkF m 30 #[.val (.long p1), .second, .val (.int p2), .val (.int p3), .val (.long p4), .second, .val (.int p5), .val (.long zl), .second, .val (.int zi), .unset, .unset, .unset, .unset, .unset, .unset] [(.long p4)])) rfl (hb hby at_30) _) ?_
      show Go p e below _ s₁ (mkF m 33 #[.val (.long p1), .second, .val (.int p2), .val (.int p3), .val (.long p4), .second, .val (.int p5), .val (.long zl), .second, .val (.int zi), .unset, .unset, .unset, .unset, .unset, .unset] [(.long (4611686018427387903 : Int64)), (.long p4)])
      refine Go.to (fun _ => XS.land X0.here hx rfl (hb hby at_33) rfl) ?_
      show Go p e below _ s₁ (mkF m 34 #[.val (.long p1), .second, .val (.int p2), .val (.int p3), .val (.long p4), .second, .val (.int p5), .val (.long zl), .second, .val (.int zi), .unset, .unset, .unset, .unset, .unset, .unset] [(.long (p4 &&& (4611686018427387903 : Int64)))])
      refine Go.to (fun _ => XS.goto X0.here hx rfl (pc0 := 34) (pc' := 42) rfl (hb hby at_34) (by decide) (by decide)) ?_
      show Go p e below _ s₁ (mkF m 42 #[.val (.long p1), .second, .val (.int p2), .val (.int p3), .val (.long p4), .second, .val (.int p5), .val (.long zl), .second, .val (.int zi), .unset, .unset, .unset, .unset, .unset, .unset] [(.long (p4 &&& (4611686018427387903 : Int64)))])
      exact k (p4 &&& (4611686018427387903 : Int64)) (by rw [if_neg hc2])
  refine hj2 (fun ze hze => ?_)
  clear hj2
  refine Go.to (fun _ => XS.lstore X0.here hx rfl (hb hby at_42) rfl (l' := #[.val (.long p1), .second, .val (.int p2), .val (.int p3), .val (.long p4), .second, .val (.int p5), .val (.long zl), .second, .val (.int zi), .val (.long ze), .second, .unset, .unset, .unset, .unset]) rfl) ?_
  show Go p e below _ s₁ (mkF m 44 #[.val (.long p1), .second, .val (.int p2), .val (.int p3), .val (.long p4), .second, .val (.int p5), .val (.long zl), .second, .val (.int zi), .val (.long ze), .second, .unset, .unset, .unset, .unset] [])
  have hi := own_i _ _ hzi
  have hnz : ¬ zi.toInt64 = (0 : Int64) := own_nz hi.1
  obtain ⟨zr, hzr⟩ : ∃ z : Int64, z = fA zl zi ze := ⟨_, rfl⟩
  refine Go.to (fun _ => XS.lload X0.here hx rfl (hb hby at_44) rfl) ?_
  show Go p e below _ s₁ (mkF m 46 #[.val (.long p1), .second, .val (.int p2), .val (.int p3), .val (.long p4), .second, .val (.int p5), .val (.long zl), .second, .val (.int zi), .val (.long ze), .second, .unset, .unset, .unset, .unset] [(.long zl)])
  refine Go.to (fun _ => XS.iload X0.here hx rfl (hb hby at_46) rfl) ?_
  show Go p e below _ s₁ (mkF m 48 #[.val (.long p1), .second, .val (.int p2), .val (.int p3), .val (.long p4), .second, .val (.int p5), .val (.long zl), .second, .val (.int zi), .val (.long ze), .second, .unset, .unset, .unset, .unset] [(.int zi), (.long zl)])
  refine Go.to (fun _ => XS.lload X0.here hx rfl (hb hby at_48) rfl) ?_
  show Go p e below _ s₁ (mkF m 50 #[.val (.long p1), .second, .val (.int p2), .val (.int p3), .val (.long p4), .second, .val (.int p5), .val (.long zl), .second, .val (.int zi), .val (.long ze), .second, .unset, .unset, .unset, .unset] [(.long ze), (.int zi), (.long zl)])
  refine Go.callS (y := (⟨"com/example/eventually/eventually/learning/QLearning", "stableFrom", "(JIJ)J"⟩ : MethodName)) X0 hx hZ hown (hw _ (List.mem_of_getElem? (i := 2) rfl)) (hw _ (List.mem_of_getElem? (i := 3) rfl)) (hw _ (List.mem_of_getElem? (i := 4) rfl)) (hw _ (List.mem_of_getElem? (i := 5) rfl)) (by decide) (rm1 l Z a0 hw [] zl zi ze h0 hnz) e0 (by rw [hml]; rfl) (pd_0) rfl (argsL := [(.long zl), (.int zi), (.long ze)]) (rest := []) rfl rfl (hb hby at_50) (by decide) (Nat.le_of_ble_eq_true rfl) (by decide) (by decide) ?_
  rintro T3 _ L3 X3 ⟨rfl, e3, rfl⟩
  simp only [List.append_nil] at X3
  show Go p e below _ T3 (mkF m 53 #[.val (.long p1), .second, .val (.int p2), .val (.int p3), .val (.long p4), .second, .val (.int p5), .val (.long zl), .second, .val (.int zi), .val (.long ze), .second, .unset, .unset, .unset, .unset] [(.long (fA zl zi ze))])
  refine Go.to (fun _ => XS.lstore X3.here hx rfl (hb hby at_53) rfl (l' := #[.val (.long p1), .second, .val (.int p2), .val (.int p3), .val (.long p4), .second, .val (.int p5), .val (.long zl), .second, .val (.int zi), .val (.long ze), .second, .val (.long (fA zl zi ze)), .second, .unset, .unset]) rfl) ?_
  show Go p e below _ T3 (mkF m 55 #[.val (.long p1), .second, .val (.int p2), .val (.int p3), .val (.long p4), .second, .val (.int p5), .val (.long zl), .second, .val (.int zi), .val (.long ze), .second, .val (.long (fA zl zi ze)), .second, .unset, .unset] [])
  rw [← hzr]
  show Go p e below _ T3 (mkF m 55 #[.val (.long p1), .second, .val (.int p2), .val (.int p3), .val (.long p4), .second, .val (.int p5), .val (.long zl), .second, .val (.int zi), .val (.long ze), .second, .val (.long zr), .second, .unset, .unset] [])
  refine Go.to (fun _ => XS.lload X3.here hx rfl (hb hby at_55) rfl) ?_
  show Go p e below _ T3 (mkF m 57 #[.val (.long p1), .second, .val (.int p2), .val (.int p3), .val (.long p4), .second, .val (.int p5), .val (.long zl), .second, .val (.int zi), .val (.long ze), .second, .val (.long zr), .second, .unset, .unset] [(.long zl)])
  refine Go.to (fun _ => XS.lload X3.here hx rfl (hb hby at_57) rfl) ?_
  show Go p e below _ T3 (mkF m 59 #[.val (.long p1), .second, .val (.int p2), .val (.int p3), .val (.long p4), .second, .val (.int p5), .val (.long zl), .second, .val (.int zi), .val (.long ze), .second, .val (.long zr), .second, .unset, .unset] [(.long zl), (.long zl)])
  refine Go.to (fun _ => XS.iload X3.here hx rfl (hb hby at_59) rfl) ?_
  show Go p e below _ T3 (mkF m 61 #[.val (.long p1), .second, .val (.int p2), .val (.int p3), .val (.long p4), .second, .val (.int p5), .val (.long zl), .second, .val (.int zi), .val (.long ze), .second, .val (.long zr), .second, .unset, .unset] [(.int zi), (.long zl), (.long zl)])
  refine Go.to (fun _ => XS.i2l X3.here hx rfl (hb hby at_61) rfl) ?_
  show Go p e below _ T3 (mkF m 62 #[.val (.long p1), .second, .val (.int p2), .val (.int p3), .val (.long p4), .second, .val (.int p5), .val (.long zl), .second, .val (.int zi), .val (.long ze), .second, .val (.long zr), .second, .unset, .unset] [(.long (zi.toInt64)), (.long zl), (.long zl)])
  refine Go.to (fun _ => XS.lrem X3.here hx rfl (hb hby at_62) rfl hnz) ?_
  show Go p e below _ T3 (mkF m 63 #[.val (.long p1), .second, .val (.int p2), .val (.int p3), .val (.long p4), .second, .val (.int p5), .val (.long zl), .second, .val (.int zi), .val (.long ze), .second, .val (.long zr), .second, .unset, .unset] [(.long (zl - (zl / (zi.toInt64)) * (zi.toInt64))), (.long zl)])
  refine Go.to (fun _ => XS.lsub X3.here hx rfl (hb hby at_63) rfl) ?_
  show Go p e below _ T3 (mkF m 64 #[.val (.long p1), .second, .val (.int p2), .val (.int p3), .val (.long p4), .second, .val (.int p5), .val (.long zl), .second, .val (.int zi), .val (.long ze), .second, .val (.long zr), .second, .unset, .unset] [(.long (zl - (zl - (zl / (zi.toInt64)) * (zi.toInt64))))])
  refine Go.to (fun _ => XS.iload X3.here hx rfl (hb hby at_64) rfl) ?_
  show Go p e below _ T3 (mkF m 66 #[.val (.long p1), .second, .val (.int p2), .val (.int p3), .val (.long p4), .second, .val (.int p5), .val (.long zl), .second, .val (.int zi), .val (.long ze), .second, .val (.long zr), .second, .unset, .unset] [(.int zi), (.long (zl - (zl - (zl / (zi.toInt64)) * (zi.toInt64))))])
  refine Go.to (fun _ => XS.i2l X3.here hx rfl (hb hby at_66) rfl) ?_
  show Go p e below _ T3 (mkF m 67 #[.val (.long p1), .second, .val (.int p2), .val (.int p3), .val (.long p4), .second, .val (.int p5), .val (.long zl), .second, .val (.int zi), .val (.long ze), .second, .val (.long zr), .second, .unset, .unset] [(.long (zi.toInt64)), (.long (zl - (zl - (zl / (zi.toInt64)) * (zi.toInt64))))])
  refine Go.to (fun _ => XS.ladd X3.here hx rfl (hb hby at_67) rfl) ?_
  show Go p e below _ T3 (mkF m 68 #[.val (.long p1), .second, .val (.int p2), .val (.int p3), .val (.long p4), .second, .val (.int p5), .val (.long zl), .second, .val (.int zi), .val (.long ze), .second, .val (.long zr), .second, .unset, .unset] [(.long ((zl - (zl - (zl / (zi.toInt64)) * (zi.toInt64))) + (zi.toInt64)))])
  refine Go.to (fun _ => XS.lstore X3.here hx rfl (hb hby at_68) rfl (l' := #[.val (.long p1), .second, .val (.int p2), .val (.int p3), .val (.long p4), .second, .val (.int p5), .val (.long zl), .second, .val (.int zi), .val (.long ze), .second, .val (.long zr), .second, .val (.long ((zl - (zl - (zl / (zi.toInt64)) * (zi.toInt64))) + (zi.toInt64))), .second]) rfl) ?_
  show Go p e below _ T3 (mkF m 70 #[.val (.long p1), .second, .val (.int p2), .val (.int p3), .val (.long p4), .second, .val (.int p5), .val (.long zl), .second, .val (.int zi), .val (.long ze), .second, .val (.long zr), .second, .val (.long ((zl - (zl - (zl / (zi.toInt64)) * (zi.toInt64))) + (zi.toInt64))), .second] [])
  obtain ⟨zn, hzn⟩ : ∃ z : Int64, z = ((zl - (zl - (zl / (zi.toInt64)) * (zi.toInt64))) + (zi.toInt64)) := ⟨_, rfl⟩
  rw [← hzn]
  show Go p e below _ T3 (mkF m 70 #[.val (.long p1), .second, .val (.int p2), .val (.int p3), .val (.long p4), .second, .val (.int p5), .val (.long zl), .second, .val (.int zi), .val (.long ze), .second, .val (.long zr), .second, .val (.long zn), .second] [])
  have hall := own_all (own_l hzl) hi (own_e hzl hze) hzr hzn
  refine Go.to (fun _ => XS.lload X3.here hx rfl (hb hby at_70) rfl) ?_
  show Go p e below _ T3 (mkF m 72 #[.val (.long p1), .second, .val (.int p2), .val (.int p3), .val (.long p4), .second, .val (.int p5), .val (.long zl), .second, .val (.int zi), .val (.long ze), .second, .val (.long zr), .second, .val (.long zn), .second] [(.long zr)])
  refine Go.to (fun _ => XS.lconst X3.here hx rfl (hb hby at_72)) ?_
  show Go p e below _ T3 (mkF m 73 #[.val (.long p1), .second, .val (.int p2), .val (.int p3), .val (.long p4), .second, .val (.int p5), .val (.long zl), .second, .val (.int zi), .val (.long ze), .second, .val (.long zr), .second, .val (.long zn), .second] [(.long (0 : Int64)), (.long zr)])
  refine Go.to (fun _ => XS.lcmp X3.here hx rfl (hb hby at_73) rfl) ?_
  show Go p e below _ T3 (mkF m 74 #[.val (.long p1), .second, .val (.int p2), .val (.int p3), .val (.long p4), .second, .val (.int p5), .val (.long zl), .second, .val (.int zi), .val (.long ze), .second, .val (.long zr), .second, .val (.long zn), .second] [(.int (lcmpW zr (0 : Int64)))])
  by_cases hc3 : (lcmpW zr (0 : Int64)) = (0 : Int32)
  · refine Go.to (fun _ => XS.ifNo X3.here hx rfl (hb hby at_74) rfl ((if0 _ _).trans (teq hc3).2)) ?_
    show Go p e below _ T3 (mkF m 77 #[.val (.long p1), .second, .val (.int p2), .val (.int p3), .val (.long p4), .second, .val (.int p5), .val (.long zl), .second, .val (.int zi), .val (.long ze), .second, .val (.long zr), .second, .val (.long zn), .second] [])
    refine Go.to (fun _ => XS.lload X3.here hx rfl (hb hby at_77) rfl) ?_
    show Go p e below _ T3 (mkF m 79 #[.val (.long p1), .second, .val (.int p2), .val (.int p3), .val (.long p4), .second, .val (.int p5), .val (.long zl), .second, .val (.int zi), .val (.long ze), .second, .val (.long zr), .second, .val (.long zn), .second] [(.long zn)])
    refine Go.to (fun _ => XS.lload X3.here hx rfl (hb hby at_79) rfl) ?_
    show Go p e below _ T3 (mkF m 81 #[.val (.long p1), .second, .val (.int p2), .val (.int p3), .val (.long p4), .second, .val (.int p5), .val (.long zl), .second, .val (.int zi), .val (.long ze), .second, .val (.long zr), .second, .val (.long zn), .second] [(.long ze), (.long zn)])
    refine Go.to (fun _ => XS.lcmp X3.here hx rfl (hb hby at_81) rfl) ?_
    show Go p e below _ T3 (mkF m 82 #[.val (.long p1), .second, .val (.int p2), .val (.int p3), .val (.long p4), .second, .val (.int p5), .val (.long zl), .second, .val (.int zi), .val (.long ze), .second, .val (.long zr), .second, .val (.long zn), .second] [(.int (lcmpW zn ze))])
    refine Go.to (fun _ => XS.ifNo X3.here hx rfl (hb hby at_82) rfl ((if0 _ _).trans (tlt ((lw_gt _ _).mpr (hall.1 ((lw_eq _ _).mp hc3)))).2.2.2)) ?_
    show Go p e below _ T3 (mkF m 85 #[.val (.long p1), .second, .val (.int p2), .val (.int p3), .val (.long p4), .second, .val (.int p5), .val (.long zl), .second, .val (.int zi), .val (.long ze), .second, .val (.long zr), .second, .val (.long zn), .second] [])
    refine Go.to (fun _ => XS.iconst X3.here hx rfl (hb hby at_85)) ?_
    show Go p e below _ T3 (mkF m 86 #[.val (.long p1), .second, .val (.int p2), .val (.int p3), .val (.long p4), .second, .val (.int p5), .val (.long zl), .second, .val (.int zi), .val (.long ze), .second, .val (.long zr), .second, .val (.long zn), .second] [(.int (1 : Int32))])
    refine Go.to (fun _ => XS.goto X3.here hx rfl (pc0 := 86) (pc' := 90) rfl (hb hby at_86) (by decide) (by decide)) ?_
    show Go p e below _ T3 (mkF m 90 #[.val (.long p1), .second, .val (.int p2), .val (.int p3), .val (.long p4), .second, .val (.int p5), .val (.long zl), .second, .val (.int zi), .val (.long ze), .second, .val (.long zr), .second, .val (.long zn), .second] [(.int (1 : Int32))])
    rw [hK]
    exact Go.retZ X3 hx hlk hret (by decide) (hb hby at_90) ⟨rfl, Fr.nil n0⟩ (by decide) (by decide)
  · refine Go.to (fun _ => XS.ifYes X3.here hx rfl (pc0 := 74) (pc' := 91) rfl (hb hby at_74) rfl ((if0 _ _).trans (feq hc3).2) (by decide) (by decide)) ?_
    show Go p e below _ T3 (mkF m 91 #[.val (.long p1), .second, .val (.int p2), .val (.int p3), .val (.long p4), .second, .val (.int p5), .val (.long zl), .second, .val (.int zi), .val (.long ze), .second, .val (.long zr), .second, .val (.long zn), .second] [])
    refine Go.to (fun _ => XS.lload X3.here hx rfl (hb hby at_91) rfl) ?_
    show Go p e below _ T3 (mkF m 93 #[.val (.long p1), .second, .val (.int p2), .val (.int p3), .val (.long p4), .second, .val (.int p5), .val (.long zl), .second, .val (.int zi), .val (.long ze), .second, .val (.long zr), .second, .val (.long zn), .second] [(.long zr)])
    refine Go.to (fun _ => XS.iload X3.here hx rfl (hb hby at_93) rfl) ?_
    show Go p e below _ T3 (mkF m 95 #[.val (.long p1), .second, .val (.int p2), .val (.int p3), .val (.long p4), .second, .val (.int p5), .val (.long zl), .second, .val (.int zi), .val (.long ze), .second, .val (.long zr), .second, .val (.long zn), .second] [(.int zi), (.long zr)])
    refine Go.to (fun _ => XS.i2l X3.here hx rfl (hb hby at_95) rfl) ?_
    show Go p e below _ T3 (mkF m 96 #[.val (.long p1), .second, .val (.int p2), .val (.int p3), .val (.long p4), .second, .val (.int p5), .val (.long zl), .second, .val (.int zi), .val (.long ze), .second, .val (.long zr), .second, .val (.long zn), .second] [(.long (zi.toInt64)), (.long zr)])
    refine Go.to (fun _ => XS.lrem X3.here hx rfl (hb hby at_96) rfl hnz) ?_
    show Go p e below _ T3 (mkF m 97 #[.val (.long p1), .second, .val (.int p2), .val (.int p3), .val (.long p4), .second, .val (.int p5), .val (.long zl), .second, .val (.int zi), .val (.long ze), .second, .val (.long zr), .second, .val (.long zn), .second] [(.long (zr - (zr / (zi.toInt64)) * (zi.toInt64)))])
    refine Go.to (fun _ => XS.lconst X3.here hx rfl (hb hby at_97)) ?_
    show Go p e below _ T3 (mkF m 98 #[.val (.long p1), .second, .val (.int p2), .val (.int p3), .val (.long p4), .second, .val (.int p5), .val (.long zl), .second, .val (.int zi), .val (.long ze), .second, .val (.long zr), .second, .val (.long zn), .second] [(.long (0 : Int64)), (.long (zr - (zr / (zi.toInt64)) * (zi.toInt64)))])
    refine Go.to (fun _ => XS.lcmp X3.here hx rfl (hb hby at_98) rfl) ?_
    show Go p e below _ T3 (mkF m 99 #[.val (.long p1), .second, .val (.int p2), .val (.int p3), .val (.long p4), .second, .val (.int p5), .val (.long zl), .second, .val (.int zi), .val (.long ze), .second, .val (.long zr), .second, .val (.long zn), .second] [(.int (lcmpW (zr - (zr / (zi.toInt64)) * (zi.toInt64)) (0 : Int64)))])
    refine Go.to (fun _ => XS.ifNo X3.here hx rfl (hb hby at_99) rfl ((if0 _ _).trans (teq ((lw_eq _ _).mpr (hall.2 (fun q => hc3 ((lw_eq _ _).mpr q))).1)).2)) ?_
    show Go p e below _ T3 (mkF m 102 #[.val (.long p1), .second, .val (.int p2), .val (.int p3), .val (.long p4), .second, .val (.int p5), .val (.long zl), .second, .val (.int zi), .val (.long ze), .second, .val (.long zr), .second, .val (.long zn), .second] [])
    refine Go.to (fun _ => XS.lload X3.here hx rfl (hb hby at_102) rfl) ?_
    show Go p e below _ T3 (mkF m 104 #[.val (.long p1), .second, .val (.int p2), .val (.int p3), .val (.long p4), .second, .val (.int p5), .val (.long zl), .second, .val (.int zi), .val (.long ze), .second, .val (.long zr), .second, .val (.long zn), .second] [(.long zr)])
    refine Go.to (fun _ => XS.lload X3.here hx rfl (hb hby at_104) rfl) ?_
    show Go p e below _ T3 (mkF m 106 #[.val (.long p1), .second, .val (.int p2), .val (.int p3), .val (.long p4), .second, .val (.int p5), .val (.long zl), .second, .val (.int zi), .val (.long ze), .second, .val (.long zr), .second, .val (.long zn), .second] [(.long zl), (.long zr)])
    refine Go.to (fun _ => XS.lcmp X3.here hx rfl (hb hby at_106) rfl) ?_
    show Go p e below _ T3 (mkF m 107 #[.val (.long p1), .second, .val (.int p2), .val (.int p3), .val (.long p4), .second, .val (.int p5), .val (.long zl), .second, .val (.int zi), .val (.long ze), .second, .val (.long zr), .second, .val (.long zn), .second] [(.int (lcmpW zr zl))])
    refine Go.to (fun _ => XS.ifNo X3.here hx rfl (hb hby at_107) rfl ((if0 _ _).trans (tlt ((lw_gt _ _).mpr (hall.2 (fun q => hc3 ((lw_eq _ _).mpr q))).2.1)).2.2.2)) ?_
    show Go p e below _ T3 (mkF m 110 #[.val (.long p1), .second, .val (.int p2), .val (.int p3), .val (.long p4), .second, .val (.int p5), .val (.long zl), .second, .val (.int zi), .val (.long ze), .second, .val (.long zr), .second, .val (.long zn), .second] [])
    refine Go.to (fun _ => XS.lload X3.here hx rfl (hb hby at_110) rfl) ?_
    show Go p e below _ T3 (mkF m 112 #[.val (.long p1), .second, .val (.int p2), .val (.int p3), .val (.long p4), .second, .val (.int p5), .val (.long zl), .second, .val (.int zi), .val (.long ze), .second, .val (.long zr), .second, .val (.long zn), .second] [(.long zr)])
    refine Go.to (fun _ => XS.iload X3.here hx rfl (hb hby at_112) rfl) ?_
    show Go p e below _ T3 (mkF m 114 #[.val (.long p1), .second, .val (.int p2), .val (.int p3), .val (.long p4), .second, .val (.int p5), .val (.long zl), .second, .val (.int zi), .val (.long ze), .second, .val (.long zr), .second, .val (.long zn), .second] [(.int zi), (.long zr)])
    refine Go.to (fun _ => XS.i2l X3.here hx rfl (hb hby at_114) rfl) ?_
    show Go p e below _ T3 (mkF m 115 #[.val (.long p1), .second, .val (.int p2), .val (.int p3), .val (.long p4), .second, .val (.int p5), .val (.long zl), .second, .val (.int zi), .val (.long ze), .second, .val (.long zr), .second, .val (.long zn), .second] [(.long (zi.toInt64)), (.long zr)])
    refine Go.to (fun _ => XS.lsub X3.here hx rfl (hb hby at_115) rfl) ?_
    show Go p e below _ T3 (mkF m 116 #[.val (.long p1), .second, .val (.int p2), .val (.int p3), .val (.long p4), .second, .val (.int p5), .val (.long zl), .second, .val (.int zi), .val (.long ze), .second, .val (.long zr), .second, .val (.long zn), .second] [(.long (zr - (zi.toInt64)))])
    refine Go.to (fun _ => XS.lload X3.here hx rfl (hb hby at_116) rfl) ?_
    show Go p e below _ T3 (mkF m 118 #[.val (.long p1), .second, .val (.int p2), .val (.int p3), .val (.long p4), .second, .val (.int p5), .val (.long zl), .second, .val (.int zi), .val (.long ze), .second, .val (.long zr), .second, .val (.long zn), .second] [(.long zl), (.long (zr - (zi.toInt64)))])
    refine Go.to (fun _ => XS.lcmp X3.here hx rfl (hb hby at_118) rfl) ?_
    show Go p e below _ T3 (mkF m 119 #[.val (.long p1), .second, .val (.int p2), .val (.int p3), .val (.long p4), .second, .val (.int p5), .val (.long zl), .second, .val (.int zi), .val (.long ze), .second, .val (.long zr), .second, .val (.long zn), .second] [(.int (lcmpW (zr - (zi.toInt64)) zl))])
    refine Go.to (fun _ => XS.ifNo X3.here hx rfl (hb hby at_119) rfl ((if0 _ _).trans (flt (fun u => (hall.2 (fun q => hc3 ((lw_eq _ _).mpr q))).2.2.1 ((lw_gt _ _).mp u))).2.2.1)) ?_
    show Go p e below _ T3 (mkF m 122 #[.val (.long p1), .second, .val (.int p2), .val (.int p3), .val (.long p4), .second, .val (.int p5), .val (.long zl), .second, .val (.int zi), .val (.long ze), .second, .val (.long zr), .second, .val (.long zn), .second] [])
    refine Go.to (fun _ => XS.lload X3.here hx rfl (hb hby at_122) rfl) ?_
    show Go p e below _ T3 (mkF m 124 #[.val (.long p1), .second, .val (.int p2), .val (.int p3), .val (.long p4), .second, .val (.int p5), .val (.long zl), .second, .val (.int zi), .val (.long ze), .second, .val (.long zr), .second, .val (.long zn), .second] [(.long zr)])
    refine Go.to (fun _ => XS.lload X3.here hx rfl (hb hby at_124) rfl) ?_
    show Go p e below _ T3 (mkF m 126 #[.val (.long p1), .second, .val (.int p2), .val (.int p3), .val (.long p4), .second, .val (.int p5), .val (.long zl), .second, .val (.int zi), .val (.long ze), .second, .val (.long zr), .second, .val (.long zn), .second] [(.long ze), (.long zr)])
    refine Go.to (fun _ => XS.lcmp X3.here hx rfl (hb hby at_126) rfl) ?_
    show Go p e below _ T3 (mkF m 127 #[.val (.long p1), .second, .val (.int p2), .val (.int p3), .val (.long p4), .second, .val (.int p5), .val (.long zl), .second, .val (.int zi), .val (.long ze), .second, .val (.long zr), .second, .val (.long zn), .second] [(.int (lcmpW zr ze))])
    refine Go.to (fun _ => XS.ifNo X3.here hx rfl (hb hby at_127) rfl ((if0 _ _).trans (flt (fun u => (hall.2 (fun q => hc3 ((lw_eq _ _).mpr q))).2.2.2 ((lw_gt _ _).mp u))).2.2.1)) ?_
    show Go p e below _ T3 (mkF m 130 #[.val (.long p1), .second, .val (.int p2), .val (.int p3), .val (.long p4), .second, .val (.int p5), .val (.long zl), .second, .val (.int zi), .val (.long ze), .second, .val (.long zr), .second, .val (.long zn), .second] [])
    refine Go.to (fun _ => XS.iconst X3.here hx rfl (hb hby at_130)) ?_
    show Go p e below _ T3 (mkF m 131 #[.val (.long p1), .second, .val (.int p2), .val (.int p3), .val (.long p4), .second, .val (.int p5), .val (.long zl), .second, .val (.int zi), .val (.long ze), .second, .val (.long zr), .second, .val (.long zn), .second] [(.int (1 : Int32))])
    refine Go.to (fun _ => XS.goto X3.here hx rfl (pc0 := 131) (pc' := 135) rfl (hb hby at_131) (by decide) (by decide)) ?_
    show Go p e below _ T3 (mkF m 135 #[.val (.long p1), .second, .val (.int p2), .val (.int p3), .val (.long p4), .second, .val (.int p5), .val (.long zl), .second, .val (.int zi), .val (.long ze), .second, .val (.long zr), .second, .val (.long zn), .second] [(.int (1 : Int32))])
    rw [hK]
    exact Go.retZ X3 hx hlk hret (by decide) (hb hby at_135) ⟨rfl, Fr.nil n0⟩ (by decide) (by decide)
set_option maxHeartbeats 40000000 in
theorem comes_1 {Post : Tables → Env → Array Value → State → Outcome → State → Prop} (hpost : ∀ tb e args s v u, (limb_1_1.after args s (.returned v) u = true ∧ limb_1_2.after args s (.returned v) u = true ∧ True) → FrameEnd s (.returned v) u (Jvm.fieldLocs frame_1_writes args s ++ Jvm.arrayLocs frame_1_arrays args s ++ Jvm.staticLocs frame_1_statics s) 0 0 → Post tb e args s (.returned v) u) :
    ArmFor flags0 classFile x code maxLocals ret World_1 tables_1 room_1 Calls_1 rest_1 Pre_1 Post := by
  intro l hfl _ _ p e ha hc hk s m args below hf hA hF happ hP
  obtain ⟨hcalls, hrest, hpre⟩ := hP
  obtain ⟨-, -, -, hnamed, -, -, -, hat⟩ := (Spec.applies_iff hf).mp happ
  obtain ⟨hg, hn⟩ := and_e (Cond.before_iff.mp (show (Jvm.Cond.and given_1 narrow_1).before args s = true from hpre))
  obtain ⟨gc, gr0⟩ := and_e hg
  obtain ⟨g0, gr1⟩ := and_e gr0
  obtain ⟨g1, gr2⟩ := and_e gr1
  obtain ⟨g2, gr3⟩ := and_e gr2
  obtain ⟨g3, gr4⟩ := and_e gr3
  obtain ⟨w0, w1, w2, w3, w4, rfl⟩ : ∃ w0 w1 w2 w3 w4 : Value, args = #[w0, w1, w2, w3, w4] := by
    have hs : args.size = 5 := by simpa [Cond.value, given_1] using gc
    obtain ⟨L⟩ := args
    match L, hs with
    | [w0, w1, w2, w3, w4], _ => exact ⟨w0, w1, w2, w3, w4, rfl⟩
  have hw := fun d (hd : d ∈ tables_1) => atoms_spec (ws := Jvm.Cond.code x code maxLocals ret :: tables_1) hat d (List.mem_cons_of_mem _ hd)
  obtain ⟨i0, ei0⟩ := isL_v g0
  obtain rfl : w0 = (.long i0) := Option.some.inj ei0
  obtain ⟨i1, ei1⟩ := is_v g1
  obtain rfl : w1 = (.int i1) := Option.some.inj ei1
  obtain ⟨i2, ei2⟩ := is_v g2
  obtain rfl : w2 = (.int i2) := Option.some.inj ei2
  obtain ⟨i3, ei3⟩ := isL_v g3
  obtain rfl : w3 = (.long i3) := Option.some.inj ei3
  obtain ⟨i4, ei4⟩ := is_v gr4
  obtain rfl : w4 = (.int i4) := Option.some.inj ei4
  obtain ⟨n, o, h1, h2, h3, _, L, rfl, ⟨rfl, N⟩, hq⟩ := rm0 l s _ hw tables_1 i0 i1 i2 i3 i4 s.heap s.heap.size (Nat.le_refl _) p e ha hc hk s m _ below hf ((Spec.applies_iff_loose hf).mp happ).1 ⟨rfl, State.Warmed39.refl s, rfl⟩ trivial
  refine ⟨n, _, h1, h2, h3, hpost _ _ _ _ _ _ ⟨Cond.after_iff.mpr rfl, Cond.after_iff.mpr (eq_i res_at (Term.int_eval (1)) rfl), trivial⟩ ⟨hq.1, hq.2.1, (hq.2.2.sift fun y hy => Or.inr (N y hy)).mono (by decide) (by decide)⟩⟩
theorem main_1_1 : Claimed_1_1 := comes_1 fun _ _ _ _ _ _ h hF => ⟨h.1, hF⟩
theorem main_1_2 : Claimed_1_2 := comes_1 fun _ _ _ _ _ _ h hF => ⟨h.2.1, hF⟩
end Jvm.Pilot.@@N@@
namespace Jvm.Pilot.@@N@@
open Jvm Jvm.ClassFile Sem Op Lib Jvm.Free Jvm.Stand Jvm.Pilot.@@N@@.Jvm.D
/-! MADE BY PROGRAM (witnessworld.py) out of the Statement's table words and the real class files: 9 classes; the members and pool entries that the words name. The judged class is class 1, her method 1. -/
namespace start1
open Jvm.ClassFile
def u (s : String) : CpInfo := .utf8 (stringToUtf16 s)
/-- a pool by its gaps: so many unusable entries, then the entry; so many at the end -/
def gap : Nat → List CpInfo → List CpInfo
  | 0, r => r
  | n + 1, r => .unusable :: gap n r
def poolList (es : List (Nat × CpInfo)) (last : Nat) : List CpInfo := es.foldr (fun e r => gap e.1 (e.2 :: r)) (gap last [])
def pool (es : List (Nat × CpInfo)) (last : Nat) : Array CpInfo := ⟨poolList es last⟩
def fileOf (pool : Array CpInfo) (this : Nat) (attrs : Array Attribute := #[]) (ms : Array MethodInfo := #[]) (fl : Nat := 33) (sup : Nat := 0) (ifs : Array Nat := #[]) (fds : Array FieldInfo := #[]) : ClassFile where
  minorVersion := 0
  majorVersion := 65
  constantPool := pool
  accessFlags := fl
  thisClass := this
  superClass := sup
  interfaces := ifs
  fields := fds
  methods := ms
  attributes := attrs
def plain (name : String) (sup : Option ClassId) : Class where
  name := name
  kind := .ordinary
  loader := none
  accessFlags := 33
  super := sup
  interfaces := #[]
  cf := none
  fields := #[]
  methods := #[]
  instanceTypes := #[]
  staticTypes := #[]
  resolved := #[]
  callSites := []
  init := .initialized
  statics := none
  mirror := none

def pool0 : Array CpInfo := pool [(5, u "<init>"), (0, u "()V"), (1, .class_ 10), (1, u "java/lang/Object")] 113

def k0m0 : Method := { name := "<init>", desc := "()V", sig := { parameters := [], returnType := none }, accessFlags := 1, code := none }
/-- java/lang/Object -/
def k0 : Class := { plain "java/lang/Object" none with
  accessFlags := 33
  interfaces := #[]
  cf := some (fileOf pool0 8 #[] #[{ accessFlags := 1, nameIndex := 5, descriptorIndex := 6, attributes := #[] }] 33 0 #[] #[])
  fields := #[]
  methods := #[k0m0]
  instanceTypes := #[]
  staticTypes := #[]
  resolved := Array.replicate 124 none
  statics := none }

def pool1 : Array CpInfo := pool [(2, .class_ 4), (1, u "java/lang/Object"), (0, u "<init>"), (0, u "()V"), (0, .long 4611686018427387903), (1, .integer 2147483647), (0, .methodref 11 12), (0, .class_ 13), (0, .nameAndType 14 15), (0, u "com/example/eventually/eventually/learning/QLearning"), (0, u "stableFrom"), (0, u "(JIJ)J"), (0, .class_ 17), (0, u "com/example/eventually/eventually/learning/QLearningStableFromPinLaw"), (2, u "law"), (0, u "(JIIJI)Z")] 3

def k1m0 : Method := { name := "<init>", desc := "()V", sig := { parameters := [], returnType := none }, accessFlags := 1, code := none }
def k1c1 : Code := { maxStack := 6, maxLocals := 16, code := code, exceptionTable := #[], attributes := #[] }
def k1m1 : Method := { name := "law", desc := "(JIIJI)Z", sig := { parameters := [.long, .int, .int, .long, .int], returnType := some .boolean }, accessFlags := 9, code := some k1c1 }
/-- com/example/eventually/eventually/learning/QLearningStableFromPinLaw -/
def k1 : Class := { plain "com/example/eventually/eventually/learning/QLearningStableFromPinLaw" (some 0) with
  accessFlags := 49
  interfaces := #[]
  cf := some (fileOf pool1 16 #[] #[{ accessFlags := 1, nameIndex := 5, descriptorIndex := 6, attributes := #[] }, { accessFlags := 9, nameIndex := 20, descriptorIndex := 21, attributes := #[] }] 49 2 #[] #[])
  fields := #[]
  methods := #[k1m0, k1m1]
  instanceTypes := #[]
  staticTypes := #[]
  resolved := Array.replicate 25 none
  statics := none }

def pool2 : Array CpInfo := pool [(2, .class_ 4), (1, u "java/lang/Object"), (9, .class_ 16), (1, u "com/example/eventually/eventually/learning/QLearning"), (0, u "settings"), (0, u "Lcom/example/eventually/eventually/learning/Settings;"), (14, u "sampled"), (0, u "Lcom/example/eventually/eventually/synthesis/ImplicitProduct;"), (6, u "evaluated"), (0, u "Lcom/example/eventually/eventually/synthesis/AugmentedProduct;"), (6, u "optimum"), (0, u "D"), (176, u "stableFrom"), (0, u "(JIJ)J"), (54, u "EXPLORATION"), (3, u "RATE_EXPONENT"), (2, u "SATISFYING_TOLERANCE")] 58

def k2c0 : Code := { maxStack := 4, maxLocals := 7, code := prog_58_method_7_code, exceptionTable := #[], attributes := #[] }
def k2m0 : Method := { name := "stableFrom", desc := "(JIJ)J", sig := { parameters := [.long, .int, .long], returnType := some .long }, accessFlags := 8, code := some k2c0 }
/-- com/example/eventually/eventually/learning/QLearning -/
def k2 : Class := { plain "com/example/eventually/eventually/learning/QLearning" (some 0) with
  accessFlags := 49
  interfaces := #[]
  cf := some (fileOf pool2 14 #[] #[{ accessFlags := 8, nameIndex := 227, descriptorIndex := 228, attributes := #[] }] 49 2 #[] #[{ accessFlags := 25, nameIndex := 283, descriptorIndex := 50, attributes := #[] }, { accessFlags := 25, nameIndex := 287, descriptorIndex := 50, attributes := #[] }, { accessFlags := 25, nameIndex := 290, descriptorIndex := 50, attributes := #[] }, { accessFlags := 18, nameIndex := 17, descriptorIndex := 18, attributes := #[] }, { accessFlags := 18, nameIndex := 33, descriptorIndex := 34, attributes := #[] }, { accessFlags := 18, nameIndex := 41, descriptorIndex := 42, attributes := #[] }, { accessFlags := 18, nameIndex := 49, descriptorIndex := 50, attributes := #[] }])
  fields := #[{ name := "EXPLORATION", type := .double, accessFlags := 25, slot := 0, constantValue := 0 }, { name := "RATE_EXPONENT", type := .double, accessFlags := 25, slot := 1, constantValue := 0 }, { name := "SATISFYING_TOLERANCE", type := .double, accessFlags := 25, slot := 2, constantValue := 0 }, { name := "settings", type := (.object "com/example/eventually/eventually/learning/Settings"), accessFlags := 18, slot := 0, constantValue := 0 }, { name := "sampled", type := (.object "com/example/eventually/eventually/synthesis/ImplicitProduct"), accessFlags := 18, slot := 1, constantValue := 0 }, { name := "evaluated", type := (.object "com/example/eventually/eventually/synthesis/AugmentedProduct"), accessFlags := 18, slot := 2, constantValue := 0 }, { name := "optimum", type := .double, accessFlags := 18, slot := 3, constantValue := 0 }]
  methods := #[k2m0]
  instanceTypes := #[(.object "com/example/eventually/eventually/learning/Settings"), (.object "com/example/eventually/eventually/synthesis/ImplicitProduct"), (.object "com/example/eventually/eventually/synthesis/AugmentedProduct"), .double]
  staticTypes := #[.double, .double, .double]
  resolved := Array.replicate 349 none
  statics := none }

def pool3 : Array CpInfo := pool [(1, u "java/lang/Cloneable"), (0, .class_ 1), (0, u "java/lang/Object"), (0, .class_ 3)] 3

/-- java/lang/Cloneable -/
def k3 : Class := { plain "java/lang/Cloneable" (some 0) with
  accessFlags := 1537
  interfaces := #[]
  cf := some (fileOf pool3 2 #[] #[] 1537 4 #[] #[])
  fields := #[]
  methods := #[]
  instanceTypes := #[]
  staticTypes := #[]
  resolved := Array.replicate 8 none
  statics := none }

def pool4 : Array CpInfo := pool [(1, u "java/io/Serializable"), (0, .class_ 1), (0, u "java/lang/Object"), (0, .class_ 3)] 3

/-- java/io/Serializable -/
def k4 : Class := { plain "java/io/Serializable" (some 0) with
  accessFlags := 1537
  interfaces := #[]
  cf := some (fileOf pool4 2 #[] #[] 1537 4 #[] #[])
  fields := #[]
  methods := #[]
  instanceTypes := #[]
  staticTypes := #[]
  resolved := Array.replicate 8 none
  statics := none }

/-- the primitive byte -/
def k5 : Class := { plain "byte" none with kind := .primitive 'B', accessFlags := 0x411 }
/-- [B -/
def k6 : Class := { plain "[B" (some 0) with kind := .array 5 .byte, interfaces := #[3, 4], accessFlags := 1041 }

/-- the primitive int -/
def k7 : Class := { plain "int" none with kind := .primitive 'I', accessFlags := 0x411 }
/-- [I -/
def k8 : Class := { plain "[I" (some 0) with kind := .array 7 .int, interfaces := #[3, 4], accessFlags := 1041 }

def heap : Heap := #[]
def classes : Array Class := #[k0, k1, k2, k3, k4, k5, k6, k7, k8]
def interned : List (Array UInt16 × Addr) := []
def slotsUsed : Nat := 0
def theMethod : MethodId := ⟨1, 1⟩
def args0 : Array Value := #[.long 5, .int 1, .int 3, .long 4, .int 1]
def aboutOver (below : List Frame) : State where
  vm := { classes := classes, interned := interned.toArray }
  heap := heap
  slotsUsed := slotsUsed
  threads := #[{ frames := .invoking theMethod args0 :: below }]
def below0 : List Frame := [.native { method := ⟨0, 0⟩, args := #[] }]
def about1 : State := aboutOver below0
def p0 : Program := .bare "" "" ""
def e0 : Env := launch0.env 0 0 0
theorem w_frames : about1.frames = Frame.invoking theMethod args0 :: below0 := rfl
set_option maxRecDepth 65536 in
theorem w_args : argsFit about1.vm theMethod args0 = true := by decide +kernel
set_option maxRecDepth 65536 in
theorem w_heap : heapFits about1 = true := by decide +kernel
set_option maxRecDepth 65536 in
theorem w_runnable : about1.curStatus? = some .runnable := by decide +kernel
set_option maxRecDepth 65536 in
theorem w_alone : about1.alone = true := by decide +kernel
set_option maxRecDepth 65536 in
theorem w_named : about1.methodNamed? x = some theMethod := by decide +kernel
set_option maxRecDepth 65536 in
theorem w_hears : about1.hears theMethod below0 = true := by decide +kernel
set_option maxRecDepth 65536 in
theorem w_ripe : about1.ripe theMethod args0 below0 = true := by decide +kernel
theorem w_running : about1.status = .running := rfl
set_option maxRecDepth 65536 in
theorem w_room : about1.hasRoom e0.platform room_1 = true :=
  launch0.hasRoom_least _ room_1 (by decide +kernel) (by decide +kernel) (by decide +kernel) (by decide +kernel) (by decide +kernel) (by decide +kernel)
theorem allAtoms_all (ts : List Jvm.Cond) (a : Array Jvm.Value) (st : Jvm.State) : (allAtoms ts).before a st = ts.all (fun c => c.before a st) := by
  induction ts with
  | nil => rfl
  | cons c t ih =>
    show (Jvm.Cond.and c (allAtoms t)).before a st = _
    rw [Jvm.Cond.before_and, ih, List.all_cons]
def words1 : List Jvm.Cond := Jvm.Cond.code x code maxLocals ret :: tables_1
/-- a 'code' word, met by the world's own term for the bytes: nothing is compared byte by byte -/
theorem code_word {y : MethodName} {bytes : ByteArray} {mx : Nat} {rt : Option FieldType} {a : Array Value} {s : State} {m : MethodId} {meth : Method} {c : Code} (h1 : s.methodNamed? y = some m) (h2 : s.vm.method? m = some meth) (h3 : meth.code = some c) (h4 : c.code = bytes)
    (h5 : (c.maxLocals == mx && c.exceptionTable.isEmpty && decide (c.maxStack ≤ mostOperands) && decide (meth.sig.returnType = rt) && !meth.locks && decide (parseMethodDescriptor y.desc = some meth.sig)) = true) : (Jvm.Cond.code y bytes mx rt).before a s = true := by
  simp only [Bool.and_eq_true, beq_iff_eq, Bool.not_eq_true', decide_eq_true_eq] at h5
  obtain ⟨⟨⟨⟨⟨g1, g2⟩, g3⟩, g4⟩, g5⟩, g6⟩ := h5
  simp [Cond.before, Cond.holds, Cond.value, h1, h2, h3, h4, g1, g2, g3, g4, g5, g6]
def isCode : Jvm.Cond → Bool
  | .code _ _ _ _ => true
  | _ => false
theorem all_split {L : List Jvm.Cond} {P : Jvm.Cond → Bool} (h1 : L.all (fun c => isCode c || P c) = true) (h2 : ∀ c ∈ L.filter isCode, P c = true) : L.all P = true := by
  refine List.all_eq_true.mpr fun c hc => ?_
  have h := List.all_eq_true.mp h1 c hc
  rcases Bool.eq_false_or_eq_true (isCode c) with hi | hi
  · exact h2 c (List.mem_filter.mpr ⟨hc, hi⟩)
  · simpa [hi] using h
set_option maxRecDepth 65536 in
theorem w_c0 : (Jvm.Cond.code x code maxLocals ret).before args0 about1 = true := code_word (m := ⟨1, 1⟩) (meth := k1m1) (c := k1c1) (by decide +kernel) rfl rfl rfl (by decide +kernel)
set_option maxRecDepth 65536 in
theorem w_c1 : (Jvm.Cond.code ({ cls := "com/example/eventually/eventually/learning/QLearning", name := "stableFrom", desc := "(JIJ)J" } : Jvm.MethodName) prog_58_method_7_code (7 : Nat) (Option.some Jvm.ClassFile.FieldType.long)).before args0 about1 = true := code_word (m := ⟨2, 0⟩) (meth := k2m0) (c := k2c0) (by decide +kernel) rfl rfl rfl (by decide +kernel)
def codes1 : List Jvm.Cond := [Jvm.Cond.code x code maxLocals ret, Jvm.Cond.code ({ cls := "com/example/eventually/eventually/learning/QLearning", name := "stableFrom", desc := "(JIJ)J" } : Jvm.MethodName) prog_58_method_7_code (7 : Nat) (Option.some Jvm.ClassFile.FieldType.long)]
set_option maxRecDepth 65536 in
theorem codes_eq : words1.filter isCode = codes1 := rfl
theorem w_codes : ∀ c ∈ words1.filter isCode, c.before args0 about1 = true := by
  rw [codes_eq]
  intro c hc
  simp only [codes1, List.mem_cons, List.not_mem_nil, or_false] at hc
  rcases hc with rfl | rfl
  · exact w_c0
  · exact w_c1
set_option maxRecDepth 65536 in
theorem w_t1 : words1.all (fun c => isCode c || c.before args0 about1) = true := by decide +kernel
theorem w_tables : (allAtoms (Jvm.Cond.code x code maxLocals ret :: tables_1)).before args0 about1 = true := by
  rw [allAtoms_all]
  show words1.all (fun c => c.before args0 about1) = true
  refine all_split ?_ w_codes
  rw [w_t1]
set_option maxRecDepth 65536 in
theorem w_case : (Jvm.Cond.and given_1 narrow_1).before args0 about1 = true := by decide +kernel
theorem w_applies : (headSpec (Jvm.Cond.code x code maxLocals ret :: tables_1) room_1).applies x e0.platform about1 = true :=
  (Spec.applies_iff w_frames).mpr ⟨w_running, w_runnable, w_alone, w_named, w_hears, w_ripe, w_room, w_tables⟩
theorem atStart : AtStart classFile x code maxLocals ret World_1 tables_1 room_1 Calls_1 rest_1 Pre_1 launch0 p0 e0 about1 theMethod args0 below0 :=
  ⟨lists_1, trivial, launch0.admits_env _ _ _, launch0.least_env, fairChoices_fair.cas, fairChoices_fair.clock, w_frames, w_args, w_heap, w_applies, trivial, trivial, w_case⟩
end start1
theorem witness_1 : WitnessClaimed_1 := ⟨start1.p0, start1.e0, start1.about1, start1.theMethod, start1.args0, start1.below0, start1.atStart⟩
end Jvm.Pilot.@@N@@
