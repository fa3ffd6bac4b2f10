import JvmDerived
import JvmDerived.Pilot.@@N@@Statement
import JvmDerived.Pilot.@@N@@Code
set_option linter.unusedVariables false
set_option linter.unusedSimpArgs false
@@BLOCK:NumsL.lean.txt@@
set_option maxRecDepth 65536
namespace Jvm.Pilot.@@N@@
open Jvm Jvm.ClassFile Sem Op Lib Jvm.Free Jvm.Stand Jvm.LawKit Jvm.RoadKit Bundle Jvm.Pilot.@@N@@.Jvm.D
/-! OWN KIT: the walk in continuation style over lawnew's family -/
section OwnKit
variable {p : Program} {l : Launch} {e : Env} {R : Room} {s : State} {m : MethodId} {args : Array Value} {below : List Frame} {meth : Method} {c : Code} {T : State} {locs : List Loc} {cells slots : Nat} {Z : State} {a0 : Array Value} {h : Heap} {K : Outcome → State → Prop} {Q : Option Value → Heap → List Loc → Prop} {rc rs : Nat}
/-- from the frame g over T the run comes to its end, and K holds there -/
def Go (p : Program) (e : Env) (below : List Frame) (K : Outcome → State → Prop) (T : State) (g : JFrame) : Prop :=
  ∃ s₂ o, Steps p.tables e below (T.setTop g) s₂ ∧ s₂.status = .running ∧ Ended s₂ below o ∧ K o s₂
theorem Go.to {T T' : State} {g g' : JFrame} (st : ∀ t, Steps p.tables e below (T'.setTop g') t → Steps p.tables e below (T.setTop g) t) (k : Go p e below K T' g') : Go p e below K T g := by
  obtain ⟨s₂, o, h1, h2⟩ := k
  exact ⟨s₂, o, st _ h1, h2⟩
def KQ (s : State) (Q : Option Value → Heap → List Loc → Prop) (rc rs : Nat) : Outcome → State → Prop := fun o U => ∃ v L, o = .returned v ∧ Q v U.heap L ∧ FrameEnd s o U L rc rs
theorem Go.retW (X : Stand p l e R s m args below meth c T locs cells slots) (hx : p.tables.exec = Jvm.exec) (hlk : meth.locks = false) {pc : Nat} {Ls : Array Slot} {w : Value} {t : FieldType} {i : Instr} {rest : List Value} (hret : meth.sig.returnType = some t) (hn : narrow t w = w)
    (hi : (i = .ireturn ∧ (t = .int ∨ t = .boolean ∨ t = .byte ∨ t = .char ∨ t = .short) ∧ ∃ z, w = .int z) ∨ (i = .lreturn ∧ t = .long ∧ ∃ z, w = .long z) ∨ (i = .dreturn ∧ t = .double ∧ ∃ z, w = .double z) ∨ (i = .freturn ∧ t = .float ∧ ∃ z, w = .float z) ∨ (i = .areturn ∧ t.isReference = true ∧ w.isRef = true))
    (hd : decode c.code pc = .ok (i, 1)) (hq : Q (some w) T.heap locs) (hc : cells ≤ rc) (hs : slots ≤ rs) : Go p e below (KQ s Q rc rs) T (mkF m pc Ls (w :: rest)) := by
  obtain ⟨fs, hr, hrun, hended, hW, hsame⟩ := X.leave (v := some w) (fun h => by rw [hret] at h; cases h) hlk
  exact ⟨_, _, retOut X hx hret hn hi hd hr, hrun, hended, _, _, rfl, hq, ⟨_, rfl⟩, hW, hsame.mono hc hs⟩
theorem Go.retI (X : Stand p l e R s m args below meth c T locs cells slots) (hx : p.tables.exec = Jvm.exec) (hlk : meth.locks = false) {pc : Nat} {Ls : Array Slot} {z : Int32} {rest : List Value} (hret : meth.sig.returnType = some .int)
    (hd : decode c.code pc = .ok (.ireturn, 1)) (hq : Q (some (.int z)) T.heap locs) (hc : cells ≤ rc) (hs : slots ≤ rs) : Go p e below (KQ s Q rc rs) T (mkF m pc Ls (.int z :: rest)) :=
  Go.retW X hx hlk hret rfl (Or.inl ⟨rfl, Or.inl rfl, z, rfl⟩) hd hq hc hs
theorem Go.retJ (X : Stand p l e R s m args below meth c T locs cells slots) (hx : p.tables.exec = Jvm.exec) (hlk : meth.locks = false) {pc : Nat} {Ls : Array Slot} {z : Int64} {rest : List Value} (hret : meth.sig.returnType = some .long)
    (hd : decode c.code pc = .ok (.lreturn, 1)) (hq : Q (some (.long z)) T.heap locs) (hc : cells ≤ rc) (hs : slots ≤ rs) : Go p e below (KQ s Q rc rs) T (mkF m pc Ls (.long z :: rest)) :=
  Go.retW X hx hlk hret rfl (Or.inr (Or.inl ⟨rfl, rfl, z, rfl⟩)) hd hq hc hs
theorem Go.retZ (X : Stand p l e R s m args below meth c T locs cells slots) (hx : p.tables.exec = Jvm.exec) (hlk : meth.locks = false) {pc : Nat} {Ls : Array Slot} {z : Int32} {rest : List Value} (hret : meth.sig.returnType = some .boolean) (hz : z = 0 ∨ z = 1)
    (hd : decode c.code pc = .ok (.ireturn, 1)) (hq : Q (some (.int z)) T.heap locs) (hc : cells ≤ rc) (hs : slots ≤ rs) : Go p e below (KQ s Q rc rs) T (mkF m pc Ls (.int z :: rest)) :=
  Go.retW X hx hlk hret (by rcases hz with rfl | rfl <;> rfl) (Or.inl ⟨rfl, Or.inr (Or.inl rfl), z, rfl⟩) hd hq hc hs
theorem Go.retA (X : Stand p l e R s m args below meth c T locs cells slots) (hx : p.tables.exec = Jvm.exec) (hlk : meth.locks = false) {pc : Nat} {Ls : Array Slot} {w : Value} {t : FieldType} {rest : List Value} (hret : meth.sig.returnType = some t) (ht : t.isReference = true) (hw : w.isRef = true) (hn : narrow t w = w)
    (hd : decode c.code pc = .ok (.areturn, 1)) (hq : Q (some w) T.heap locs) (hc : cells ≤ rc) (hs : slots ≤ rs) : Go p e below (KQ s Q rc rs) T (mkF m pc Ls (w :: rest)) :=
  Go.retW X hx hlk hret hn (Or.inr (Or.inr (Or.inr (Or.inr ⟨rfl, ht, hw⟩)))) hd hq hc hs
theorem Go.retV (X : Stand p l e R s m args below meth c T locs cells slots) (hx : p.tables.exec = Jvm.exec) (hlk : meth.locks = false) {pc : Nat} {Ls : Array Slot} (hret : meth.sig.returnType = none)
    (hd : decode c.code pc = .ok (.return_, 1)) (hq : Q none T.heap locs) (hc : cells ≤ rc) (hs : slots ≤ rs) : Go p e below (KQ s Q rc rs) T (mkF m pc Ls []) := by
  obtain ⟨fs, hr, hrun, hended, hW, hsame⟩ := X.leave (v := none) (fun _ => rfl) hlk
  exact ⟨_, _, X.returnOut hx hret hd hr, hrun, hended, _, _, rfl, hq, ⟨_, rfl⟩, hW, hsame.mono hc hs⟩
/-- a contract in this family -/
abbrev Met1 (l : Launch) (Z : State) (y : MethodName) (bytes : ByteArray) (maxL : Nat) (ret : Option FieldType) (ws : List Jvm.Cond) (rm : Room) (as' : Array Value) (h0 : Heap) (Q : Option Value → Heap → List Loc → Prop) : Prop :=
  MetFree l y (head1 (Jvm.Cond.code y bytes maxL ret :: ws) rm) (fun a U => a = as' ∧ Z.Warmed39 U.vm ∧ U.heap = h0) (fun _ _ _ _ _ => True) (fun _ U o U' => ∃ v L, o = .returned v ∧ Q v U'.heap L ∧ FrameEnd U o U' L rm.cells rm.slots)
theorem metOf {y : MethodName} {bytes : ByteArray} {maxL : Nat} {ret : Option FieldType} {ws : List Jvm.Cond} {rm : Room} {as' : Array Value} {h0 : Heap} (hp : plainFor y = true)
    (body : ∀ (p : Program) (e : Env) (s : State) (m : MethodId) (below : List Frame) (meth : Method) (c : Code) (s₁ : State), p.tables.exec = Jvm.exec → c.code = bytes → c.maxLocals = maxL → s.vm.findClass y.cls = some m.cls → meth.name = y.name → meth.sig.returnType = ret → meth.locks = false → Z.Warmed39 s.vm →
      Stand p l e rm s m as' below meth c s₁ [] 0 0 → s₁.heap = h0 → Go p e below (KQ s Q rm.cells rm.slots) s₁ (entryFrame m as' maxL)) : Met1 l Z y bytes maxL ret ws rm as' h0 Q := by
  refine MetFree.of_bodySF hp hisR ?_
  intro p e s m args below meth c s₁ Bd hml0 hP hK
  obtain ⟨rfl, hZ, hh⟩ := hP
  exact body p e s m below meth c s₁ Bd.exec Bd.bytes hml0 (findClass_of_methodNamed Bd.named) (name_of_methodNamed Bd.named Bd.method).1 Bd.returns (BodyLoose.notSynchronized Bd) hZ (Stand.of_body Bd) (by rw [← hh, Bd.state]; rfl)
section Calls
variable {own : String} {index : Nat} {y : MethodName} {bytes : ByteArray} {maxL : Nat} {ret : Option FieldType} {rm : Room} {as' : Array Value} {pc : Nat} {Ls : Array Slot} {st rest argsL : List Value} {ps : List FieldType} {r : Option FieldType}
theorem Go.callS (X : Stand p l e R s m args below meth c T locs cells slots) (hx : p.tables.exec = Jvm.exec) (hZ : Z.Warmed39 s.vm) (hown : s.vm.findClass own = some m.cls)
    (w1 : (Cond.methodLink own index y).before a0 Z = true) (w2 : (Cond.static y).before a0 Z = true) (w3 : (Cond.initialized y.cls).before a0 Z = true) (w4 : (Cond.code y bytes maxL ret).before a0 Z = true)
    (hy : y.cls ≠ "java/lang/invoke/MethodHandle" ∧ y.cls ≠ "java/lang/invoke/VarHandle") (hM : Met1 l Z y bytes maxL ret [] rm as' h Q) (eT : T.heap = h) (hsize : Ls.size = c.maxLocals)
    (hpd : parseMethodDescriptor y.desc = some ⟨ps, r⟩) (hlen : argsL.length = ps.length) (hst : st = argsL.reverse ++ rest) (has : argsL.toArray = as') (hdc : decode c.code pc = .ok (.invokestatic index, 3))
    (hf : rm.frames + 1 ≤ R.frames) (hlo : (rest.map fun v => v.category).sum + (maxL + 11) + rm.locals ≤ R.locals) (hce : cells + rm.cells ≤ R.cells) (hsl : slots + rm.slots ≤ R.slots)
    (k : ∀ T' v L, Stand p l e R s m args below meth c T' (locs ++ L) (cells + rm.cells) (slots + rm.slots) → Q v T'.heap L → Go p e below K T' (mkF m (pc + 3) Ls (v.toList ++ rest))) : Go p e below K T (mkF m pc Ls st) := by
  obtain ⟨v, vm₁, ⟨T', L', c', n'⟩, -, X', ⟨L, hQ, e1, e2, e3⟩, st'⟩ := Jvm.LawKit.callS X hx hown (mvT hZ w1) (mvT hZ w2) (mvT hZ w3) (mvT hZ w4) hy (backOf (W := (rest.map fun v => v.category).sum) hM hZ w4 w3 hf hlo) (g := mkF m pc Ls st) rfl hsize (argsL := argsL) (rest := rest) (lenOf hpd hlen) hst (by show 2 * 0 + _ ≤ _; omega) hdc (fun _ _ => ⟨has, eT, hce, hsl⟩)
  dsimp only [Pt.U, Pt.locs, Pt.cells, Pt.slots] at X' e1 e2 e3 st' hQ
  subst e1 e2 e3
  exact Go.to st' (k T' v L X' hQ)
theorem Go.callI (X : Stand p l e R s m args below meth c T locs cells slots) (hx : p.tables.exec = Jvm.exec) (hZ : Z.Warmed39 s.vm) (hown : s.vm.findClass own = some m.cls) (hin : y.name = "<init>")
    (w1 : (Cond.methodLink own index y).before a0 Z = true) (w2 : (Cond.instanceMethod y).before a0 Z = true) (w3 : (Cond.initialized y.cls).before a0 Z = true) (w4 : (Cond.code y bytes maxL none).before a0 Z = true)
    (hy : y.cls ≠ "java/lang/invoke/MethodHandle" ∧ y.cls ≠ "java/lang/invoke/VarHandle") (hM : Met1 l Z y bytes maxL none [] rm as' h Q) (eT : T.heap = h) (hsize : Ls.size = c.maxLocals)
    (hpd : parseMethodDescriptor y.desc = some ⟨ps, r⟩) (hlen : argsL.length = ps.length) {a : Addr} (hst : st = argsL.reverse ++ .ref a :: rest) (has : (Value.ref a :: argsL).toArray = as') (hdc : decode c.code pc = .ok (.invokespecial index, 3))
    (hf : rm.frames + 1 ≤ R.frames) (hlo : (rest.map fun v => v.category).sum + (maxL + 11) + rm.locals ≤ R.locals) (hce : cells + rm.cells ≤ R.cells) (hsl : slots + rm.slots ≤ R.slots)
    (k : ∀ T' v L, Stand p l e R s m args below meth c T' (locs ++ L) (cells + rm.cells) (slots + rm.slots) → Q v T'.heap L → Go p e below K T' (mkF m (pc + 3) Ls (v.toList ++ rest))) : Go p e below K T (mkF m pc Ls st) := by
  obtain ⟨v, vm₁, ⟨T', L', c', n'⟩, -, X', ⟨L, hQ, e1, e2, e3⟩, st'⟩ := X.specialBack hx hin hown (mvT hZ w1) (mvT hZ w2) (mvT hZ w4) hy (backOf (W := (rest.map fun v => v.category).sum) hM hZ w4 w3 hf hlo) (g := mkF m pc Ls st) rfl hsize (Steps.refl _) (a := a) (argsL := argsL) (rest := rest) (lenOf hpd hlen) hst (by show 2 * 0 + _ ≤ _; omega) hdc (fun _ _ => ⟨has, eT, hce, hsl⟩)
  dsimp only [Pt.U, Pt.locs, Pt.cells, Pt.slots] at X' e1 e2 e3 st' hQ
  subst e1 e2 e3
  exact Go.to (fun _ q => st'.trans q) (k T' v L X' hQ)
theorem Go.callV (X : Stand p l e R s m args below meth c T locs cells slots) (hx : p.tables.exec = Jvm.exec) (hZ : Z.Warmed39 s.vm) (hown : s.vm.findClass own = some m.cls)
    (w1 : (Cond.methodLink own index y).before a0 Z = true) (w5 : (Cond.declares y).before a0 Z = true) {C : String} (w6 : (Cond.selects C y y).before a0 Z = true) (w2 : (Cond.instanceMethod y).before a0 Z = true) (w3 : (Cond.initialized y.cls).before a0 Z = true) (w4 : (Cond.code y bytes maxL ret).before a0 Z = true)
    (hy : y.cls ≠ "java/lang/invoke/MethodHandle" ∧ y.cls ≠ "java/lang/invoke/VarHandle") (hM : Met1 l Z y bytes maxL ret [] rm as' h Q) (eT : T.heap = h) {a : Addr} (E : Exa Z h a C) (hsize : Ls.size = c.maxLocals)
    (hpd : parseMethodDescriptor y.desc = some ⟨ps, r⟩) (hlen : argsL.length = ps.length) (hst : st = argsL.reverse ++ .ref a :: rest) (has : (Value.ref a :: argsL).toArray = as') (hdc : decode c.code pc = .ok (.invokevirtual index, 3))
    (hf : rm.frames + 1 ≤ R.frames) (hlo : (rest.map fun v => v.category).sum + (maxL + 11) + rm.locals ≤ R.locals) (hce : cells + rm.cells ≤ R.cells) (hsl : slots + rm.slots ≤ R.slots)
    (k : ∀ T' v L, Stand p l e R s m args below meth c T' (locs ++ L) (cells + rm.cells) (slots + rm.slots) → Q v T'.heap L → Go p e below K T' (mkF m (pc + 3) Ls (v.toList ++ rest))) : Go p e below K T (mkF m pc Ls st) := by
  obtain ⟨cq, kq, q1, q2, q3⟩ := isOf hZ eT E
  obtain ⟨v, vm₁, ⟨T', L', c', n'⟩, -, X', ⟨L, hQ, e1, e2, e3⟩, st'⟩ := X.virtualBack hx (y := y) (z := y) hown (mvT hZ w1) (mvT hZ w5) (notFace_of_selects (args := #[]) (mvT hZ w6)) (mvT hZ w6) (mvT hZ w2) hy (backOf (W := (rest.map fun v => v.category).sum) hM hZ w4 w3 hf hlo) q1 q3 (g := mkF m pc Ls st) rfl hsize (Steps.refl _) (argsL := argsL) (rest := rest) (lenOf hpd hlen) hst (by show 2 * 0 + _ ≤ _; omega) hdc (fun _ _ => ⟨has, eT, hce, hsl⟩)
  dsimp only [Pt.U, Pt.locs, Pt.cells, Pt.slots] at X' e1 e2 e3 st' hQ
  subst e1 e2 e3
  exact Go.to (fun _ q => st'.trans q) (k T' v L X' hQ)
end Calls
/-! arrays of ints (or of chars) by their list -/
def AV (Z : State) (h : Heap) (b : Addr) (ty : FieldType) (xs : List Int32) : Prop := ∃ cl : Cell, Arr Z h b cl ty ∧ cl.slots = (xs.map Value.int).toArray
def rdL (xs : List Int32) (j : Int32) : Option Int32 := if j < 0 then none else xs[j.toNatClampNeg]?
def wrL (xs : List Int32) (j v : Int32) : List Int32 := xs.set j.toNatClampNeg v
variable {b : Addr} {xs : List Int32} {j v w : Int32} {ty : FieldType} {h' : Heap}
theorem AV.lt (A : AV Z h b ty xs) : b < h.size := by obtain ⟨cl, A, -⟩ := A; exact A.lt
theorem AV.ext (A : AV Z h b ty xs) (E : Ext h h') : AV Z h' b ty xs := by obtain ⟨cl, A, q⟩ := A; exact ⟨cl, A.ext E, q⟩
theorem AV.other {a : Addr} {sl : Nat} {u : Value} (A : AV Z h b ty xs) (W : Wr h h' a sl u) (q : b ≠ a) : AV Z h' b ty xs := by obtain ⟨cl, A, r⟩ := A; exact ⟨cl, A.other W q, r⟩
theorem AV.keep {ws : List Addr} (A : AV Z h b ty xs) (Kp : Keep h h' ws) (q : b ∉ ws) : AV Z h' b ty xs := by obtain ⟨cl, A, r⟩ := A; exact ⟨cl, ⟨Kp.2.1 b cl A.1 q, A.2⟩, r⟩
theorem AV.same {n : Nat} (A : AV Z h b ty xs) (W : Wr h h' b n (.int v)) : AV Z h' b ty (xs.set n v) := by
  obtain ⟨cl, A, r⟩ := A
  refine ⟨_, A.same W, ?_⟩
  simp only [Cell.setSlot, r, List.setIfInBounds_toArray, List.map_set]
theorem AV.rd (A : AV Z h b ty xs) (hr : rdL xs j = some v) : ∃ cl : Cell, Arr Z h b cl ty ∧ ¬ (j < 0 ∨ cl.slots.size ≤ j.toNatClampNeg) ∧ cl.slots[j.toNatClampNeg]? = some (.int v) := by
  obtain ⟨cl, A, r⟩ := A
  unfold rdL at hr
  split at hr
  · cases hr
  · rename_i hj
    obtain ⟨hlt, hv⟩ := List.getElem?_eq_some_iff.mp hr
    refine ⟨cl, A, ?_, ?_⟩
    · rw [r]; simp only [List.size_toArray, List.length_map]; rintro (q | q)
      · exact hj q
      · omega
    · rw [r]; simp [hlt, hv]
theorem AV.new {cA : ClassId} {n : Int32} (A : Arr Z h b (newA cA .int n) .int) : AV Z h b .int (List.replicate n.toNatClampNeg 0) := ⟨_, A, by simp [newA, defaultValue]⟩
theorem AV.newC {cA : ClassId} {n : Int32} (A : Arr Z h b (newA cA .char n) .char) : AV Z h b .char (List.replicate n.toNatClampNeg 0) := ⟨_, A, by simp [newA, defaultValue]⟩
variable {pc : Nat} {Ls : Array Slot} {rest : List Value}
theorem Go.iaload (X : Stand p l e R s m args below meth c T locs cells slots) (hx : p.tables.exec = Jvm.exec) (hZ : Z.Warmed39 s.vm) (eT : T.heap = h) (A : AV Z h b .int xs) (hr : rdL xs j = some v) (hd : decode c.code pc = .ok (.iaload, 1))
    (k : Go p e below K T (mkF m (pc + 1) Ls (.int v :: rest))) : Go p e below K T (mkF m pc Ls (.int j :: .ref b :: rest)) := by
  obtain ⟨cl, A, h1, h2⟩ := A.rd hr
  exact Go.to (fun t q => X.iaload hx (by rw [eT]; exact A.1) (State.isArrayOf_alike hZ.alike A.2.1) A.2.2 h1 h2 (g := mkF m pc Ls (.int j :: .ref b :: rest)) rfl rfl hd t q) k
theorem Go.caload (X : Stand p l e R s m args below meth c T locs cells slots) (hx : p.tables.exec = Jvm.exec) (hZ : Z.Warmed39 s.vm) (eT : T.heap = h) (A : AV Z h b .char xs) (hr : rdL xs j = some v) (hd : decode c.code pc = .ok (.caload, 1))
    (k : Go p e below K T (mkF m (pc + 1) Ls (.int v :: rest))) : Go p e below K T (mkF m pc Ls (.int j :: .ref b :: rest)) := by
  obtain ⟨cl, A, h1, h2⟩ := A.rd hr
  exact Go.to (fun t q => X.caload hx (by rw [eT]; exact A.1) (State.isArrayOf_alike hZ.alike A.2.1) A.2.2 h1 h2 (g := mkF m pc Ls (.int j :: .ref b :: rest)) rfl rfl hd t q) k
theorem Go.alen (X : Stand p l e R s m args below meth c T locs cells slots) (hx : p.tables.exec = Jvm.exec) (hZ : Z.Warmed39 s.vm) (eT : T.heap = h) (A : AV Z h b ty xs) (hd : decode c.code pc = .ok (.arraylength, 1))
    (k : Go p e below K T (mkF m (pc + 1) Ls (.int xs.length.toInt32 :: rest))) : Go p e below K T (mkF m pc Ls (.ref b :: rest)) := by
  obtain ⟨cl, A, r⟩ := A
  refine Go.to (fun t q => X.arraylength hx (by rw [eT]; exact A.1) (State.isArrayOf_alike hZ.alike A.2.1) (g := mkF m pc Ls (.ref b :: rest)) rfl rfl hd t q) ?_
  simpa [r] using k
theorem Go.iastore (X : Stand p l e R s m args below meth c T locs cells slots) (hx : p.tables.exec = Jvm.exec) (hZ : Z.Warmed39 s.vm) (eT : T.heap = h) (A : AV Z h b .int xs) (hr : rdL xs j = some w) (hd : decode c.code pc = .ok (.iastore, 1))
    (k : ∀ T' h', Stand p l e R s m args below meth c T' (locs ++ [⟨b, j.toNatClampNeg⟩]) cells slots → T'.heap = h' → Wr h h' b j.toNatClampNeg (.int v) → AV Z h' b .int (wrL xs j v) → Go p e below K T' (mkF m (pc + 1) Ls rest)) : Go p e below K T (mkF m pc Ls (.int v :: .int j :: .ref b :: rest)) := by
  obtain ⟨cl, A', h1, h2⟩ := A.rd hr
  obtain ⟨T', h', X', e', W, st⟩ := stI X hx hZ eT A' (j := j) h1 (g := mkF m pc Ls (.int v :: .int j :: .ref b :: rest)) rfl rfl hd
  exact Go.to st (k T' h' X' e' W (A.same W))
theorem Go.castore (X : Stand p l e R s m args below meth c T locs cells slots) (hx : p.tables.exec = Jvm.exec) (hZ : Z.Warmed39 s.vm) (eT : T.heap = h) (A : AV Z h b .char xs) (hr : rdL xs j = some w) (hn : nar .char v = v) (hd : decode c.code pc = .ok (.castore, 1))
    (k : ∀ T' h', Stand p l e R s m args below meth c T' (locs ++ [⟨b, j.toNatClampNeg⟩]) cells slots → T'.heap = h' → Wr h h' b j.toNatClampNeg (.int v) → AV Z h' b .char (wrL xs j v) → Go p e below K T' (mkF m (pc + 1) Ls rest)) : Go p e below K T (mkF m pc Ls (.int v :: .int j :: .ref b :: rest)) := by
  obtain ⟨cl, A', h1, h2⟩ := A.rd hr
  obtain ⟨T', h', X', e', W, st⟩ := stC X hx hZ eT A' (j := j) h1 (g := mkF m pc Ls (.int v :: .int j :: .ref b :: rest)) rfl rfl hd
  rw [hn] at W
  exact Go.to st (k T' h' X' e' W (A.same W))
theorem Go.newI (X : Stand p l e R s m args below meth c T locs cells slots) (hx : p.tables.exec = Jvm.exec) (hZ : Z.Warmed39 s.vm) (wa : (Cond.arrayClass .int).before a0 Z = true) (eT : T.heap = h) (hd : decode c.code pc = .ok (.newarray .int, 2)) {n : Int32} (hn : ¬ n < 0) {cap : Nat} (hcap : n.toNatClampNeg ≤ cap) (hb : cap * 8 ≤ 536870912) (hc : cells + 1 ≤ R.cells) (hl : slots + cap ≤ R.slots)
    (k : ∀ T' h' b, Stand p l e R s m args below meth c T' locs (cells + 1) (slots + cap) → T'.heap = h' → Ext h h' → b = h.size → AV Z h' b .int (List.replicate n.toNatClampNeg 0) → Go p e below K T' (mkF m (pc + 2) Ls (.ref b :: rest))) : Go p e below K T (mkF m pc Ls (.int n :: rest)) := by
  obtain ⟨T', h', cA, X', e', E, A, st⟩ := newP X hx hZ (aty := .int) wa eT (g := mkF m pc Ls (.int n :: rest)) rfl hd rfl hn hcap hb hc hl
  exact Go.to st (k T' h' _ X' e' E rfl (AV.new A))
theorem Go.newC (X : Stand p l e R s m args below meth c T locs cells slots) (hx : p.tables.exec = Jvm.exec) (hZ : Z.Warmed39 s.vm) (wa : (Cond.arrayClass .char).before a0 Z = true) (eT : T.heap = h) (hd : decode c.code pc = .ok (.newarray .char, 2)) {n : Int32} (hn : ¬ n < 0) {cap : Nat} (hcap : n.toNatClampNeg ≤ cap) (hb : cap * 8 ≤ 536870912) (hc : cells + 1 ≤ R.cells) (hl : slots + cap ≤ R.slots)
    (k : ∀ T' h' b, Stand p l e R s m args below meth c T' locs (cells + 1) (slots + cap) → T'.heap = h' → Ext h h' → b = h.size → AV Z h' b .char (List.replicate n.toNatClampNeg 0) → Go p e below K T' (mkF m (pc + 2) Ls (.ref b :: rest))) : Go p e below K T (mkF m pc Ls (.int n :: rest)) := by
  obtain ⟨T', h', cA, X', e', E, A, st⟩ := newP X hx hZ (aty := .char) wa eT (g := mkF m pc Ls (.int n :: rest)) rfl hd rfl hn hcap hb hc hl
  exact Go.to st (k T' h' _ X' e' E rfl (AV.newC A))
theorem frOne {k n : Nat} {L : List Loc} (N : Fr k L) (q : k ≤ b) : Fr k (L ++ [⟨b, n⟩]) := N.app fun y hy => by cases List.mem_singleton.mp hy; exact q
end OwnKit
/-! OWN KIT, second part: an object by its fields nF (name, descriptor) and their values vs, with its int arrays at ad and what they hold -/
section OwnObj
variable {p : Program} {l : Launch} {e : Env} {R : Room} {s : State} {m : MethodId} {args : Array Value} {below : List Frame} {meth : Method} {c : Code} {T : State} {locs : List Loc} {cells slots : Nat} {Z : State} {a0 : Array Value} {h h' hb : Heap} {K : Outcome → State → Prop}
variable {n0 : Nat} {a b : Addr} {C : String} {nF : List (String × String)} {f : String × String} {vs : List Value} {ad : List Addr} {xs : List (List Int32)} {k n : Nat} {u : Value} {v j w : Int32} {x : List Int32}
def Obj (Z : State) (n0 : Nat) (hb h : Heap) (a : Addr) (C : String) (nF : List (String × String)) (vs : List Value) (ad : List Addr) (xs : List (List Int32)) : Prop :=
  Exa Z h a C ∧ n0 ≤ a ∧ (∀ b ∈ ad, n0 ≤ b) ∧ ad.Nodup ∧ a ∉ ad ∧ Keep hb h (a :: ad) ∧ ad.length = xs.length ∧
  (∀ (k : Nat) (f : String × String) (v : Value), nF[k]? = some f → vs[k]? = some v → Fld Z h a C f.1 f.2 v) ∧
  (∀ (k : Nat) (b : Addr) (x : List Int32), ad[k]? = some b → xs[k]? = some x → AV Z h b .int x)
def Lay (Z : State) (C : String) (nF : List (String × String)) : Prop :=
  ∀ (k : Nat) (f : String × String) (k' : Nat) (f' : String × String), nF[k]? = some f → nF[k']? = some f' → k ≠ k' → Jvm.RoadKit.slotOf Z C f'.1 f'.2 ≠ Jvm.RoadKit.slotOf Z C f.1 f.2
theorem lay_of (hL : ∀ q ∈ nF, Laid Z a0 C C q.1 q.2) (hp : ∀ q ∈ nF, (parseFieldDescriptor q.2).isSome = true) (hd : (nF.map (·.1)).Nodup) : Lay Z C nF := by
  intro k f k' f' h1 h2 hne
  obtain ⟨t1, e1⟩ := Option.isSome_iff_exists.mp (hp _ (List.mem_of_getElem? h1))
  obtain ⟨t2, e2⟩ := Option.isSome_iff_exists.mp (hp _ (List.mem_of_getElem? h2))
  refine Jvm.RoadKit.slot_ne (hL _ (List.mem_of_getElem? h2)) (hL _ (List.mem_of_getElem? h1)) (fun q => hne ?_) e2 e1
  have g1 : (nF.map (·.1))[k]? = some f.1 := by rw [List.getElem?_map, h1]; rfl
  have g2 : (nF.map (·.1))[k']? = some f'.1 := by rw [List.getElem?_map, h2]; rfl
  obtain ⟨l1, r1⟩ := List.getElem?_eq_some_iff.mp g1
  obtain ⟨l2, r2⟩ := List.getElem?_eq_some_iff.mp g2
  exact (List.getElem_inj hd).mp (r1.trans (q.symm.trans r2.symm))
theorem Obj.exa (O : Obj Z n0 hb h a C nF vs ad xs) : Exa Z h a C := O.1
theorem Obj.ge (O : Obj Z n0 hb h a C nF vs ad xs) : n0 ≤ a := O.2.1
theorem Obj.ges (O : Obj Z n0 hb h a C nF vs ad xs) (hk : ad[k]? = some b) : n0 ≤ b := O.2.2.1 b (List.mem_of_getElem? hk)
theorem Obj.kept (O : Obj Z n0 hb h a C nF vs ad xs) : Keep hb h (a :: ad) := O.2.2.2.2.2.1
theorem Obj.fld (O : Obj Z n0 hb h a C nF vs ad xs) (h1 : nF[k]? = some f) (h2 : vs[k]? = some u) : Fld Z h a C f.1 f.2 u := O.2.2.2.2.2.2.2.1 k f u h1 h2
theorem Obj.av (O : Obj Z n0 hb h a C nF vs ad xs) (h1 : ad[k]? = some b) (h2 : xs[k]? = some x) : AV Z h b .int x := O.2.2.2.2.2.2.2.2 k b x h1 h2
theorem Obj.ne (O : Obj Z n0 hb h a C nF vs ad xs) (hk : ad[k]? = some b) : b ≠ a := fun q => O.2.2.2.2.1 (q ▸ List.mem_of_getElem? hk)
theorem Obj.size (O : Obj Z n0 hb h a C nF vs ad xs) : hb.size ≤ h.size := O.kept.1
theorem Obj.lt (O : Obj Z n0 hb h a C nF vs ad xs) : n0 ≤ h.size := Nat.le_trans O.ge (Nat.le_of_lt O.exa.lt)
theorem Obj.lts (O : Obj Z n0 hb h a C nF vs ad xs) (hb' : b ∈ ad) : b < h.size := by
  obtain ⟨k, hk⟩ := List.getElem?_of_mem hb'
  have hlen := O.2.2.2.2.2.2.1
  obtain ⟨l1, -⟩ := List.getElem?_eq_some_iff.mp hk
  exact (O.av hk (List.getElem?_eq_getElem (hlen ▸ l1))).lt
theorem Obj.start (E : Exa Z h a C) (g : n0 ≤ a) (F : ∀ (k : Nat) (f : String × String) (v : Value), nF[k]? = some f → vs[k]? = some v → Fld Z h a C f.1 f.2 v) : Obj Z n0 h h a C nF vs [] [] :=
  ⟨E, g, fun _ q => absurd q List.not_mem_nil, List.nodup_nil, List.not_mem_nil, Keep.refl _ _, rfl, F, fun k b x q => by simp at q⟩
theorem Obj.born (E : Exa Z h a C) (g : n0 ≤ a) (D : ∀ {O nm d : String} {ty : FieldType}, Laid Z a0 C O nm d → parseFieldDescriptor d = some ty → Fld Z h a O nm d (defaultValue ty)) (hL : ∀ q ∈ nF, Laid Z a0 C C q.1 q.2) (hp : ∀ q ∈ nF, (parseFieldDescriptor q.2).isSome = true)
    (hv : vs = nF.map fun q => ((parseFieldDescriptor q.2).map defaultValue).getD .null) : Obj Z n0 h h a C nF vs [] [] := by
  refine Obj.start E g fun k f v h1 h2 => ?_
  rw [hv, List.getElem?_map, h1] at h2
  obtain ⟨t, et⟩ := Option.isSome_iff_exists.mp (hp _ (List.mem_of_getElem? h1))
  simp [et] at h2
  rw [← h2]
  exact D (hL _ (List.mem_of_getElem? h1)) et
theorem Obj.put (O : Obj Z n0 hb h a C nF vs ad xs) (L : Lay Z C nF) (hk : nF[k]? = some f) (W : Wr h h' a (Jvm.RoadKit.slotOf Z C f.1 f.2) u) : Obj Z n0 hb h' a C nF (vs.set k u) ad xs := by
  have O' := O
  obtain ⟨o1, o2, o3, o4, o5, o6, o7, o8, o9⟩ := O
  refine ⟨o1.wr W, o2, o3, o4, o5, o6.wr W (Or.inl (List.mem_cons_self ..)), o7, fun k' f' v' h1 h2 => ?_, fun k' b x h1 h2 => ?_⟩
  · by_cases q : k = k'
    · subst q
      cases hk.symm.trans h1
      rw [List.getElem?_set_self'] at h2
      cases h3 : vs[k]? with
      | none => simp [h3] at h2
      | some w =>
        simp [h3] at h2
        subst h2
        exact (o8 k f w hk h3).same W
    · rw [List.getElem?_set_ne q] at h2
      exact (o8 k' f' v' h1 h2).other W (Or.inr (L k f k' f' hk h1 q))
  · exact (o9 k' b x h1 h2).other W (O'.ne h1)
theorem Obj.putA (O : Obj Z n0 hb h a C nF vs ad xs) (hk : ad[k]? = some b) (hx : xs[k]? = some x) (W : Wr h h' b n (.int v)) : Obj Z n0 hb h' a C nF vs ad (xs.set k (x.set n v)) := by
  have O' := O
  obtain ⟨o1, o2, o3, o4, o5, o6, o7, o8, o9⟩ := O
  refine ⟨o1.wr W, o2, o3, o4, o5, o6.wr W (Or.inl (List.mem_cons_of_mem _ (List.mem_of_getElem? hk))), by rw [List.length_set]; exact o7, fun k' f' v' h1 h2 => ?_, fun k' b' x' h1 h2 => ?_⟩
  · exact (o8 k' f' v' h1 h2).other W (Or.inl (O'.ne hk).symm)
  · by_cases q : k = k'
    · subst q
      cases hk.symm.trans h1
      rw [List.getElem?_set_self', hx] at h2
      simp at h2
      subst h2
      exact (o9 k b x hk hx).same W
    · rw [List.getElem?_set_ne q] at h2
      refine (o9 k' b' x' h1 h2).other W fun r => q ?_
      obtain ⟨l1, e1⟩ := List.getElem?_eq_some_iff.mp hk
      obtain ⟨l2, e2⟩ := List.getElem?_eq_some_iff.mp h1
      exact (List.getElem_inj o4).mp (e1.trans (r.symm.trans e2.symm))
theorem Obj.rebase {hb' : Heap} (O : Obj Z n0 hb h a C nF vs ad xs) (Kp : Keep hb' hb (a :: ad)) : Obj Z n0 hb' h a C nF vs ad xs := by
  obtain ⟨o1, o2, o3, o4, o5, o6, o7, o8, o9⟩ := O
  exact ⟨o1, o2, o3, o4, o5, Kp.trans o6 (fun x hx => Or.inl hx), o7, o8, o9⟩
theorem Obj.anew (O : Obj Z n0 hb h a C nF vs ad xs) : Obj Z n0 h h a C nF vs ad xs := by
  obtain ⟨o1, o2, o3, o4, o5, o6, o7, o8, o9⟩ := O
  exact ⟨o1, o2, o3, o4, o5, Keep.refl _ _, o7, o8, o9⟩
theorem Obj.ext (O : Obj Z n0 hb h a C nF vs ad xs) (E : Ext h h') : Obj Z n0 hb h' a C nF vs ad xs := by
  obtain ⟨o1, o2, o3, o4, o5, o6, o7, o8, o9⟩ := O
  exact ⟨o1.ext E, o2, o3, o4, o5, o6.ext E, o7, fun k f v h1 h2 => (o8 k f v h1 h2).ext E, fun k b x h1 h2 => (o9 k b x h1 h2).ext E⟩
theorem Obj.more (O : Obj Z n0 hb h a C nF vs ad xs) (E : Ext h h') (q : b = h.size) (A : AV Z h' b .int x) : Obj Z n0 hb h' a C nF vs (ad ++ [b]) (xs ++ [x]) := by
  have O' := O
  obtain ⟨o1, o2, o3, o4, o5, o6, o7, o8, o9⟩ := O
  refine ⟨o1.ext E, o2, fun b' hb' => ?_, ?_, fun r => ?_, ?_, by simp [o7], fun k f v h1 h2 => (o8 k f v h1 h2).ext E, fun k' b' x' h1 h2 => ?_⟩
  · rcases List.mem_append.mp hb' with r | r
    · exact o3 _ r
    · cases List.mem_singleton.mp r; rw [q]; exact O'.lt
  · rw [List.nodup_append]
    refine ⟨o4, by simp, fun y hy z hz => ?_⟩
    cases List.mem_singleton.mp hz
    rw [q]; exact Nat.ne_of_lt (O'.lts hy)
  · rcases List.mem_append.mp r with r | r
    · exact o5 r
    · have r1 := List.mem_singleton.mp r
      have r2 := o1.lt
      rw [r1, q] at r2
      exact Nat.lt_irrefl _ r2
  · have Kp := o6.ext E
    exact ⟨Kp.1, fun x c h1 h2 => Kp.2.1 x c h1 (fun r => h2 (by simp only [List.mem_cons, List.mem_append] at r ⊢; rcases r with r | r <;> simp [r])), Kp.2.2⟩
  · rcases Nat.lt_trichotomy k' ad.length with r | r | r
    · rw [List.getElem?_append_left r] at h1
      rw [List.getElem?_append_left (o7 ▸ r)] at h2
      exact (o9 k' b' x' h1 h2).ext E
    · subst r
      rw [List.getElem?_append_right (Nat.le_refl _)] at h1
      rw [List.getElem?_append_right (Nat.le_of_eq o7.symm), o7] at h2
      simp at h1 h2
      subst h1 h2
      exact A
    · rw [List.getElem?_append_right (Nat.le_of_lt r), List.getElem?_eq_none (by simp; omega)] at h1
      cases h1
theorem Obj.over {ws : List Addr} (O : Obj Z n0 hb h a C nF vs ad xs) (Kp : Keep h h' ws) (h1 : a ∉ ws) (h2 : ∀ b ∈ ad, b ∉ ws) : Obj Z n0 h' h' a C nF vs ad xs := by
  obtain ⟨o1, o2, o3, o4, o5, o6, o7, o8, o9⟩ := O
  exact ⟨o1.keep Kp, o2, o3, o4, o5, Keep.refl _ _, o7, fun k f v q1 q2 => (o8 k f v q1 q2).keep Kp h1, fun k b x q1 q2 => (o9 k b x q1 q2).keep Kp (h2 b (List.mem_of_getElem? q1))⟩
/-- a write elsewhere -/
theorem Obj.other {a' : Addr} {sl : Nat} {u : Value} (O : Obj Z n0 hb h a C nF vs ad xs) (W : Wr h h' a' sl u) (hf : hb.size ≤ a') (h1 : a ≠ a') (h2 : a' ∉ ad) : Obj Z n0 hb h' a C nF vs ad xs := by
  obtain ⟨o1, o2, o3, o4, o5, o6, o7, o8, o9⟩ := O
  exact ⟨o1.wr W, o2, o3, o4, o5, o6.wr W (Or.inr hf), o7, fun k f v q1 q2 => (o8 k f v q1 q2).other W (Or.inl h1), fun k b x q1 q2 => (o9 k b x q1 q2).other W (fun q => h2 (q ▸ List.mem_of_getElem? q1))⟩
variable {pc : Nat} {Ls : Array Slot} {rest : List Value} {own : String} {index kk : Nat} {ty : FieldType}
theorem Go.oget (X : Stand p l e R s m args below meth c T locs cells slots) (hx : p.tables.exec = Jvm.exec) (hZ : Z.Warmed39 s.vm) (hown : s.vm.findClass own = some m.cls) (wl : (Cond.fieldLink own index C f.1 f.2).before a0 Z = true) (eT : T.heap = h) (O : Obj Z n0 hb h a C nF vs ad xs) (h1 : nF[k]? = some f) (h2 : vs[k]? = some u)
    (hd : decode c.code pc = .ok (.getfield index, 3)) (kc : ∀ T', Stand p l e R s m args below meth c T' locs cells slots → T'.heap = h → Go p e below K T' (mkF m (pc + 3) Ls (u :: rest))) : Go p e below K T (mkF m pc Ls (.ref a :: rest)) := by
  obtain ⟨T', X', e', st⟩ := getF X hx hZ hown (host := "") (Or.inl wl) Via.refl eT (O.fld h1 h2) (g := mkF m pc Ls (.ref a :: rest)) rfl rfl hd
  exact Go.to st (kc T' X' e')
theorem Go.oput (X : Stand p l e R s m args below meth c T locs cells slots) (hx : p.tables.exec = Jvm.exec) (hZ : Z.Warmed39 s.vm) (hown : s.vm.findClass own = some m.cls) (wl : (Cond.fieldLink own index C f.1 f.2).before a0 Z = true) (eT : T.heap = h) (N : Fr n0 locs) (O : Obj Z n0 hb h a C nF vs ad xs) (L : Lay Z C nF) (h1 : nF[k]? = some f) {u0 : Value} (h2 : vs[k]? = some u0)
    (wy : (Cond.lays C C f.1 f.2).before a0 Z = true ∨ ((Cond.laysFinal C C f.1 f.2).before a0 Z = true ∧ own = C ∧ meth.name = "<init>")) (wi : (Cond.instantiable C kk).before a0 Z = true) (hty : parseFieldDescriptor f.2 = some ty) (hn : narrow ty u = u) (hft : fits ty u = true) (hd : decode c.code pc = .ok (.putfield index, 3))
    (kc : ∀ T' h' locs', Stand p l e R s m args below meth c T' locs' cells slots → T'.heap = h' → Fr n0 locs' → Obj Z n0 hb h' a C nF (vs.set k u) ad xs → Go p e below K T' (mkF m (pc + 3) Ls rest)) : Go p e below K T (mkF m pc Ls (u :: .ref a :: rest)) := by
  obtain ⟨T', h', X', e', W, st⟩ := putF X hx hZ hown (host := "") (Or.inl wl) Via.refl eT (O.fld h1 h2) O.exa wy wi hty hn hft (g := mkF m pc Ls (u :: .ref a :: rest)) rfl rfl hd
  exact Go.to st (kc T' h' _ X' e' (frOne N O.ge) (O.put L h1 W))
theorem Go.oload (X : Stand p l e R s m args below meth c T locs cells slots) (hx : p.tables.exec = Jvm.exec) (hZ : Z.Warmed39 s.vm) (eT : T.heap = h) (O : Obj Z n0 hb h a C nF vs ad xs) (h1 : ad[k]? = some b) (h2 : xs[k]? = some x) (hr : rdL x j = some v) (hd : decode c.code pc = .ok (.iaload, 1))
    (kc : Go p e below K T (mkF m (pc + 1) Ls (.int v :: rest))) : Go p e below K T (mkF m pc Ls (.int j :: .ref b :: rest)) := Go.iaload X hx hZ eT (O.av h1 h2) hr hd kc
theorem Go.ostore (X : Stand p l e R s m args below meth c T locs cells slots) (hx : p.tables.exec = Jvm.exec) (hZ : Z.Warmed39 s.vm) (eT : T.heap = h) (N : Fr n0 locs) (O : Obj Z n0 hb h a C nF vs ad xs) (h1 : ad[k]? = some b) (h2 : xs[k]? = some x) (hr : rdL x j = some w) (hd : decode c.code pc = .ok (.iastore, 1))
    (kc : ∀ T' h' locs', Stand p l e R s m args below meth c T' locs' cells slots → T'.heap = h' → Fr n0 locs' → Obj Z n0 hb h' a C nF vs ad (xs.set k (wrL x j v)) → Go p e below K T' (mkF m (pc + 1) Ls rest)) : Go p e below K T (mkF m pc Ls (.int v :: .int j :: .ref b :: rest)) :=
  Go.iastore X hx hZ eT (O.av h1 h2) hr hd fun T' h' X' e' W _ => kc T' h' _ X' e' (frOne N (O.ges h1)) (O.putA h1 h2 W)
theorem Go.onew (X : Stand p l e R s m args below meth c T locs cells slots) (hx : p.tables.exec = Jvm.exec) (hZ : Z.Warmed39 s.vm) (wa : (Cond.arrayClass .int).before a0 Z = true) (eT : T.heap = h) (O : Obj Z n0 hb h a C nF vs ad xs) (hd : decode c.code pc = .ok (.newarray .int, 2)) {n : Int32} (hn : ¬ n < 0) {cap : Nat} (hcap : n.toNatClampNeg ≤ cap) (hbig : cap * 8 ≤ 536870912) (hc : cells + 1 ≤ R.cells) (hl : slots + cap ≤ R.slots)
    (kc : ∀ T' h' b, Stand p l e R s m args below meth c T' locs (cells + 1) (slots + cap) → T'.heap = h' → Obj Z n0 hb h' a C nF vs (ad ++ [b]) (xs ++ [List.replicate n.toNatClampNeg 0]) → Go p e below K T' (mkF m (pc + 2) Ls (.ref b :: rest))) : Go p e below K T (mkF m pc Ls (.int n :: rest)) :=
  Go.newI X hx hZ wa eT hd hn hcap hbig hc hl fun T' h' b X' e' E q A => kc T' h' b X' e' (O.more E q A)
end OwnObj
def QP (r : Value) (h0 : Heap) : Option Value → Heap → List Loc → Prop := fun v h L => v = some r ∧ h = h0 ∧ L = []
theorem pd_0 : parseMethodDescriptor "(I)V" = some ⟨[.int], none⟩ := by decide +kernel
theorem pd_1 : parseMethodDescriptor "()I" = some ⟨[], some .int⟩ := by decide +kernel
theorem pd_2 : parseMethodDescriptor "()Z" = some ⟨[], some .boolean⟩ := by decide +kernel
theorem pd_3 : parseMethodDescriptor "()[I" = some ⟨[], some (.array .int)⟩ := by decide +kernel
def nFq : List (String × String) := [("states", "[I"), ("head", "I"), ("tail", "I")]
theorem laidq {Z : State} {a0 : Array Value} (hw : ∀ d ∈ tables_1, d.before a0 Z = true) : ∀ q ∈ nFq, Laid Z a0 "com/example/eventually/eventually/solver/StateQueue" "com/example/eventually/eventually/solver/StateQueue" q.1 q.2 := by
  intro q hq
  simp only [nFq, List.mem_cons, List.not_mem_nil, or_false] at hq
  rcases hq with rfl | rfl | rfl
  · exact Or.inr (hw _ (List.mem_of_getElem? (i := 11) rfl))
  · exact Or.inl (hw _ (List.mem_of_getElem? (i := 25) rfl))
  · exact Or.inl (hw _ (List.mem_of_getElem? (i := 18) rfl))
theorem layq {Z : State} {a0 : Array Value} (hw : ∀ d ∈ tables_1, d.before a0 Z = true) : Lay Z "com/example/eventually/eventually/solver/StateQueue" nFq := lay_of (laidq hw) (by decide +kernel) (by decide +kernel)
theorem d1_0 : decode prog_110_method_1_code 0 = .ok (.aload_n 0, 1) := by decide +kernel
theorem d1_1 : decode prog_110_method_1_code 1 = .ok (.invokespecial 1, 3) := by decide +kernel
theorem d1_4 : decode prog_110_method_1_code 4 = .ok (.aload_n 0, 1) := by decide +kernel
theorem d1_5 : decode prog_110_method_1_code 5 = .ok (.iload_n 1, 1) := by decide +kernel
theorem d1_6 : decode prog_110_method_1_code 6 = .ok (.newarray .int, 2) := by decide +kernel
theorem d1_8 : decode prog_110_method_1_code 8 = .ok (.putfield 7, 3) := by decide +kernel
theorem d1_11 : decode prog_110_method_1_code 11 = .ok (.return_, 1) := by decide +kernel
theorem ef_rm1 (m : MethodId) (a1 : Addr) (p2 : Int32) : entryFrame m #[(.ref a1), (.int p2)] 2 = mkF m 0 #[.val (.ref a1), .val (.int p2)] [] := by first | (simp [entryFrame, mkF, argsToLocals, Value.category]; done) | rfl
set_option maxHeartbeats 40000000 in
theorem rm1 (l : Launch) (Z : State) (a0 : Array Value) (hw : ∀ d ∈ tables_1, d.before a0 Z = true) (ws : List Jvm.Cond) (a1 : Addr) (p2 : Int32) (h0 : Heap) (n0 : Nat) (O : Obj Z n0 h0 h0 a1 "com/example/eventually/eventually/solver/StateQueue" nFq [.null, .int 0, .int 0] [] []) (hn : ¬ p2 < 0) (hcap : p2.toNatClampNeg ≤ 6) :
    Met1 l Z (⟨"com/example/eventually/eventually/solver/StateQueue", "<init>", "(I)V"⟩ : MethodName) prog_110_method_1_code 2 none ws ({ frames := 1, cells := 1, slots := 6, locals := 12 } : Room) #[(.ref a1), (.int p2)] h0 (fun v h L => v = none ∧ Fr n0 L ∧ ∃ b, Obj Z n0 h0 h a1 "com/example/eventually/eventually/solver/StateQueue" nFq [.ref b, .int 0, .int 0] [b] [List.replicate p2.toNatClampNeg 0]) := by
  refine metOf (by first | exact plainFor_of_name (by first | (simp [plainName, overriddenIn]; done) | decide +kernel) | decide +kernel) ?_
  intro p e s m below meth c s₁ hx hby hml hown hnm hret hlk hZ X0 e0
  have hown : s.vm.findClass "com/example/eventually/eventually/solver/StateQueue" = some m.cls := hown
  obtain ⟨K, hK⟩ : ∃ K, K = KQ s (fun v h L => v = none ∧ Fr n0 L ∧ ∃ b, Obj Z n0 h0 h a1 "com/example/eventually/eventually/solver/StateQueue" nFq [.ref b, .int 0, .int 0] [b] [List.replicate p2.toNatClampNeg 0]) (({ frames := 1, cells := 1, slots := 6, locals := 12 } : Room)).cells (({ frames := 1, cells := 1, slots := 6, locals := 12 } : Room)).slots := ⟨_, rfl⟩
  show Go p e below (KQ s (fun v h L => v = none ∧ Fr n0 L ∧ ∃ b, Obj Z n0 h0 h a1 "com/example/eventually/eventually/solver/StateQueue" nFq [.ref b, .int 0, .int 0] [b] [List.replicate p2.toNatClampNeg 0]) (({ frames := 1, cells := 1, slots := 6, locals := 12 } : Room)).cells (({ frames := 1, cells := 1, slots := 6, locals := 12 } : Room)).slots) s₁ (entryFrame m #[(.ref a1), (.int p2)] 2)
  rw [← hK, ef_rm1 m a1 p2]
  show Go p e below _ s₁ (mkF m 0 #[.val (.ref a1), .val (.int p2)] [])
  refine Go.to (fun _ => XS.aloadN X0.here hx rfl (hb hby d1_0) rfl rfl) ?_
  show Go p e below _ s₁ (mkF m 1 #[.val (.ref a1), .val (.int p2)] [(.ref a1)])
  obtain ⟨T1, X1, e1, st1⟩ := initO X0 hx hZ hown (hw _ (List.mem_of_getElem? (i := 6) rfl)) (hw _ (List.mem_of_getElem? (i := 7) rfl)) (hw _ (List.mem_of_getElem? (i := 8) rfl)) e0 (g := (mkF m 1 #[.val (.ref a1), .val (.int p2)] [(.ref a1)])) rfl (by rw [hml]; rfl) rfl (hb hby d1_1) (by decide) (W := 0) (by show 2 * 0 + _ ≤ _; exact Nat.le_of_eq rfl) (by decide)
  refine Go.to st1 ?_
  show Go p e below _ T1 (mkF m 4 #[.val (.ref a1), .val (.int p2)] [])
  refine Go.to (fun _ => XS.aloadN X1.here hx rfl (hb hby d1_4) rfl rfl) ?_
  show Go p e below _ T1 (mkF m 5 #[.val (.ref a1), .val (.int p2)] [(.ref a1)])
  refine Go.to (fun _ => XS.iloadN X1.here hx rfl (hb hby d1_5) rfl) ?_
  show Go p e below _ T1 (mkF m 6 #[.val (.ref a1), .val (.int p2)] [(.int p2), (.ref a1)])
  refine Go.onew X1 hx hZ (hw _ (List.mem_of_getElem? (i := 9) rfl)) e1 O (hb hby d1_6) hn (cap := 6) hcap (by decide) (by decide) (by decide) ?_
  intro T2 h2 b2 X2 e2 O2
  have O2 : Obj Z n0 h0 h2 a1 "com/example/eventually/eventually/solver/StateQueue" nFq [.null, (.int 0), (.int 0)] [b2] [(List.replicate (p2).toNatClampNeg (0 : Int32))] := O2
  show Go p e below _ T2 (mkF m 8 #[.val (.ref a1), .val (.int p2)] [(.ref b2), (.ref a1)])
  refine Go.oput (f := ("states", "[I")) X2 hx hZ hown (hw _ (List.mem_of_getElem? (i := 10) rfl)) e2 (Fr.nil n0) O2 (layq hw) (k := 0) rfl rfl (Or.inr ⟨(hw _ (List.mem_of_getElem? (i := 11) rfl)), rfl, hnm⟩) (hw _ (List.mem_of_getElem? (i := 1) rfl)) (ty := (.array .int)) (by decide) rfl rfl (hb hby d1_8) ?_
  intro T3 h3 L3 X3 e3 N3 O3
  have O3 : Obj Z n0 h0 h3 a1 "com/example/eventually/eventually/solver/StateQueue" nFq [(.ref b2), (.int 0), (.int 0)] [b2] [(List.replicate (p2).toNatClampNeg (0 : Int32))] := O3
  show Go p e below _ T3 (mkF m 11 #[.val (.ref a1), .val (.int p2)] [])
  rw [hK]
  exact Go.retV X3 hx hlk hret (hb hby d1_11) ⟨rfl, N3, _, e3 ▸ O3⟩ (by decide) (by decide)
theorem d6_0 : decode prog_110_method_2_code 0 = .ok (.aload_n 0, 1) := by decide +kernel
theorem d6_1 : decode prog_110_method_2_code 1 = .ok (.getfield 7, 3) := by decide +kernel
theorem d6_4 : decode prog_110_method_2_code 4 = .ok (.aload_n 0, 1) := by decide +kernel
theorem d6_5 : decode prog_110_method_2_code 5 = .ok (.getfield 13, 3) := by decide +kernel
theorem d6_8 : decode prog_110_method_2_code 8 = .ok (.iload_n 1, 1) := by decide +kernel
theorem d6_9 : decode prog_110_method_2_code 9 = .ok (.iastore, 1) := by decide +kernel
theorem d6_10 : decode prog_110_method_2_code 10 = .ok (.aload_n 0, 1) := by decide +kernel
theorem d6_11 : decode prog_110_method_2_code 11 = .ok (.dup, 1) := by decide +kernel
theorem d6_12 : decode prog_110_method_2_code 12 = .ok (.getfield 13, 3) := by decide +kernel
theorem d6_15 : decode prog_110_method_2_code 15 = .ok (.iconst 1, 1) := by decide +kernel
theorem d6_16 : decode prog_110_method_2_code 16 = .ok (.iadd, 1) := by decide +kernel
theorem d6_17 : decode prog_110_method_2_code 17 = .ok (.putfield 13, 3) := by decide +kernel
theorem d6_20 : decode prog_110_method_2_code 20 = .ok (.return_, 1) := by decide +kernel
theorem ef_rm6 (m : MethodId) (a1 : Addr) (p2 : Int32) : entryFrame m #[(.ref a1), (.int p2)] 2 = mkF m 0 #[.val (.ref a1), .val (.int p2)] [] := by first | (simp [entryFrame, mkF, argsToLocals, Value.category]; done) | rfl
set_option maxHeartbeats 40000000 in
theorem rm6 (l : Launch) (Z : State) (a0 : Array Value) (hw : ∀ d ∈ tables_1, d.before a0 Z = true) (ws : List Jvm.Cond) (a1 : Addr) (p2 : Int32) (h0 : Heap) (n0 : Nat) (b : Addr) (hd tl : Int32) (xs : List Int32) (O : Obj Z n0 h0 h0 a1 "com/example/eventually/eventually/solver/StateQueue" nFq [.ref b, .int hd, .int tl] [b] [xs]) (w : Int32) (hr : rdL xs tl = some w) :
    Met1 l Z (⟨"com/example/eventually/eventually/solver/StateQueue", "add", "(I)V"⟩ : MethodName) prog_110_method_2_code 2 none ws ({ frames := 0, cells := 0, slots := 0, locals := 0 } : Room) #[(.ref a1), (.int p2)] h0 (fun v h L => v = none ∧ Fr n0 L ∧ Obj Z n0 h0 h a1 "com/example/eventually/eventually/solver/StateQueue" nFq [.ref b, .int hd, .int (tl + 1)] [b] [wrL xs tl p2]) := by
  refine metOf (by first | exact plainFor_of_name (by first | (simp [plainName, overriddenIn]; done) | decide +kernel) | decide +kernel) ?_
  intro p e s m below meth c s₁ hx hby hml hown hnm hret hlk hZ X0 e0
  have hown : s.vm.findClass "com/example/eventually/eventually/solver/StateQueue" = some m.cls := hown
  obtain ⟨K, hK⟩ : ∃ K, K = KQ s (fun v h L => v = none ∧ Fr n0 L ∧ Obj Z n0 h0 h a1 "com/example/eventually/eventually/solver/StateQueue" nFq [.ref b, .int hd, .int (tl + 1)] [b] [wrL xs tl p2]) (({ frames := 0, cells := 0, slots := 0, locals := 0 } : Room)).cells (({ frames := 0, cells := 0, slots := 0, locals := 0 } : Room)).slots := ⟨_, rfl⟩
  show Go p e below (KQ s (fun v h L => v = none ∧ Fr n0 L ∧ Obj Z n0 h0 h a1 "com/example/eventually/eventually/solver/StateQueue" nFq [.ref b, .int hd, .int (tl + 1)] [b] [wrL xs tl p2]) (({ frames := 0, cells := 0, slots := 0, locals := 0 } : Room)).cells (({ frames := 0, cells := 0, slots := 0, locals := 0 } : Room)).slots) s₁ (entryFrame m #[(.ref a1), (.int p2)] 2)
  rw [← hK, ef_rm6 m a1 p2]
  show Go p e below _ s₁ (mkF m 0 #[.val (.ref a1), .val (.int p2)] [])
  refine Go.to (fun _ => XS.aloadN X0.here hx rfl (hb hby d6_0) rfl rfl) ?_
  show Go p e below _ s₁ (mkF m 1 #[.val (.ref a1), .val (.int p2)] [(.ref a1)])
  refine Go.oget (f := ("states", "[I")) X0 hx hZ hown (hw _ (List.mem_of_getElem? (i := 10) rfl)) e0 O (k := 0) rfl rfl (hb hby d6_1) ?_
  intro T1 X1 e1
  show Go p e below _ T1 (mkF m 4 #[.val (.ref a1), .val (.int p2)] [(.ref b)])
  refine Go.to (fun _ => XS.aloadN X1.here hx rfl (hb hby d6_4) rfl rfl) ?_
  show Go p e below _ T1 (mkF m 5 #[.val (.ref a1), .val (.int p2)] [(.ref a1), (.ref b)])
  refine Go.oget (f := ("tail", "I")) X1 hx hZ hown (hw _ (List.mem_of_getElem? (i := 17) rfl)) e1 O (k := 2) rfl rfl (hb hby d6_5) ?_
  intro T2 X2 e2
  show Go p e below _ T2 (mkF m 8 #[.val (.ref a1), .val (.int p2)] [(.int tl), (.ref b)])
  refine Go.to (fun _ => XS.iloadN X2.here hx rfl (hb hby d6_8) rfl) ?_
  show Go p e below _ T2 (mkF m 9 #[.val (.ref a1), .val (.int p2)] [(.int p2), (.int tl), (.ref b)])
  refine Go.ostore X2 hx hZ e2 (Fr.nil n0) O (k := 0) rfl rfl hr (hb hby d6_9) ?_
  intro T3 h3 L3 X3 e3 N3 O3
  have O3 : Obj Z n0 h0 h3 a1 "com/example/eventually/eventually/solver/StateQueue" nFq [(.ref b), (.int hd), (.int tl)] [b] [(wrL xs tl p2)] := O3
  show Go p e below _ T3 (mkF m 10 #[.val (.ref a1), .val (.int p2)] [])
  refine Go.to (fun _ => XS.aloadN X3.here hx rfl (hb hby d6_10) rfl rfl) ?_
  show Go p e below _ T3 (mkF m 11 #[.val (.ref a1), .val (.int p2)] [(.ref a1)])
  refine Go.to (fun _ => XS.dup X3.here hx rfl (hb hby d6_11) rfl rfl) ?_
  show Go p e below _ T3 (mkF m 12 #[.val (.ref a1), .val (.int p2)] [(.ref a1), (.ref a1)])
  refine Go.oget (f := ("tail", "I")) X3 hx hZ hown (hw _ (List.mem_of_getElem? (i := 17) rfl)) e3 O3 (k := 2) rfl rfl (hb hby d6_12) ?_
  intro T4 X4 e4
  show Go p e below _ T4 (mkF m 15 #[.val (.ref a1), .val (.int p2)] [(.int tl), (.ref a1)])
  refine Go.to (fun _ => XS.iconst X4.here hx rfl (hb hby d6_15)) ?_
  show Go p e below _ T4 (mkF m 16 #[.val (.ref a1), .val (.int p2)] [(.int (1 : Int32)), (.int tl), (.ref a1)])
  refine Go.to (fun _ => XS.iadd X4.here hx rfl (hb hby d6_16) rfl) ?_
  show Go p e below _ T4 (mkF m 17 #[.val (.ref a1), .val (.int p2)] [(.int (tl + (1 : Int32))), (.ref a1)])
  refine Go.oput (f := ("tail", "I")) X4 hx hZ hown (hw _ (List.mem_of_getElem? (i := 17) rfl)) e4 N3 O3 (layq hw) (k := 2) rfl rfl (Or.inl (hw _ (List.mem_of_getElem? (i := 18) rfl))) (hw _ (List.mem_of_getElem? (i := 1) rfl)) (ty := .int) (by decide) rfl rfl (hb hby d6_17) ?_
  intro T5 h5 L5 X5 e5 N5 O5
  have O5 : Obj Z n0 h0 h5 a1 "com/example/eventually/eventually/solver/StateQueue" nFq [(.ref b), (.int hd), (.int (tl + (1 : Int32)))] [b] [(wrL xs tl p2)] := O5
  show Go p e below _ T5 (mkF m 20 #[.val (.ref a1), .val (.int p2)] [])
  rw [hK]
  exact Go.retV X5 hx hlk hret (hb hby d6_20) ⟨rfl, N5, e5 ▸ O5⟩ (by decide) (by decide)
theorem d7_0 : decode prog_110_method_5_code 0 = .ok (.aload_n 0, 1) := by decide +kernel
theorem d7_1 : decode prog_110_method_5_code 1 = .ok (.getfield 7, 3) := by decide +kernel
theorem d7_4 : decode prog_110_method_5_code 4 = .ok (.aload_n 0, 1) := by decide +kernel
theorem d7_5 : decode prog_110_method_5_code 5 = .ok (.getfield 27, 3) := by decide +kernel
theorem d7_8 : decode prog_110_method_5_code 8 = .ok (.iaload, 1) := by decide +kernel
theorem d7_9 : decode prog_110_method_5_code 9 = .ok (.istore_n 1, 1) := by decide +kernel
theorem d7_10 : decode prog_110_method_5_code 10 = .ok (.aload_n 0, 1) := by decide +kernel
theorem d7_11 : decode prog_110_method_5_code 11 = .ok (.dup, 1) := by decide +kernel
theorem d7_12 : decode prog_110_method_5_code 12 = .ok (.getfield 27, 3) := by decide +kernel
theorem d7_15 : decode prog_110_method_5_code 15 = .ok (.iconst 1, 1) := by decide +kernel
theorem d7_16 : decode prog_110_method_5_code 16 = .ok (.iadd, 1) := by decide +kernel
theorem d7_17 : decode prog_110_method_5_code 17 = .ok (.putfield 27, 3) := by decide +kernel
theorem d7_20 : decode prog_110_method_5_code 20 = .ok (.iload_n 1, 1) := by decide +kernel
theorem d7_21 : decode prog_110_method_5_code 21 = .ok (.ireturn, 1) := by decide +kernel
theorem ef_rm7 (m : MethodId) (a1 : Addr) : entryFrame m #[(.ref a1)] 2 = mkF m 0 #[.val (.ref a1), .unset] [] := by first | (simp [entryFrame, mkF, argsToLocals, Value.category]; done) | rfl
set_option maxHeartbeats 40000000 in
theorem rm7 (l : Launch) (Z : State) (a0 : Array Value) (hw : ∀ d ∈ tables_1, d.before a0 Z = true) (ws : List Jvm.Cond) (a1 : Addr) (h0 : Heap) (n0 : Nat) (b : Addr) (hd tl : Int32) (xs : List Int32) (O : Obj Z n0 h0 h0 a1 "com/example/eventually/eventually/solver/StateQueue" nFq [.ref b, .int hd, .int tl] [b] [xs]) (w : Int32) (hr : rdL xs hd = some w) :
    Met1 l Z (⟨"com/example/eventually/eventually/solver/StateQueue", "take", "()I"⟩ : MethodName) prog_110_method_5_code 2 (some .int) ws ({ frames := 0, cells := 0, slots := 0, locals := 0 } : Room) #[(.ref a1)] h0 (fun v h L => v = some (.int w) ∧ Fr n0 L ∧ Obj Z n0 h0 h a1 "com/example/eventually/eventually/solver/StateQueue" nFq [.ref b, .int (hd + 1), .int tl] [b] [xs]) := by
  refine metOf (by first | exact plainFor_of_name (by first | (simp [plainName, overriddenIn]; done) | decide +kernel) | decide +kernel) ?_
  intro p e s m below meth c s₁ hx hby hml hown hnm hret hlk hZ X0 e0
  have hown : s.vm.findClass "com/example/eventually/eventually/solver/StateQueue" = some m.cls := hown
  obtain ⟨K, hK⟩ : ∃ K, K = KQ s (fun v h L => v = some (.int w) ∧ Fr n0 L ∧ Obj Z n0 h0 h a1 "com/example/eventually/eventually/solver/StateQueue" nFq [.ref b, .int (hd + 1), .int tl] [b] [xs]) (({ frames := 0, cells := 0, slots := 0, locals := 0 } : Room)).cells (({ frames := 0, cells := 0, slots := 0, locals := 0 } : Room)).slots := ⟨_, rfl⟩
  show Go p e below (KQ s (fun v h L => v = some (.int w) ∧ Fr n0 L ∧ Obj Z n0 h0 h a1 "com/example/eventually/eventually/solver/StateQueue" nFq [.ref b, .int (hd + 1), .int tl] [b] [xs]) (({ frames := 0, cells := 0, slots := 0, locals := 0 } : Room)).cells (({ frames := 0, cells := 0, slots := 0, locals := 0 } : Room)).slots) s₁ (entryFrame m #[(.ref a1)] 2)
  rw [← hK, ef_rm7 m a1]
  show Go p e below _ s₁ (mkF m 0 #[.val (.ref a1), .unset] [])
  refine Go.to (fun _ => XS.aloadN X0.here hx rfl (hb hby d7_0) rfl rfl) ?_
  show Go p e below _ s₁ (mkF m 1 #[.val (.ref a1), .unset] [(.ref a1)])
  refine Go.oget (f := ("states", "[I")) X0 hx hZ hown (hw _ (List.mem_of_getElem? (i := 10) rfl)) e0 O (k := 0) rfl rfl (hb hby d7_1) ?_
  intro T1 X1 e1
  show Go p e below _ T1 (mkF m 4 #[.val (.ref a1), .unset] [(.ref b)])
  refine Go.to (fun _ => XS.aloadN X1.here hx rfl (hb hby d7_4) rfl rfl) ?_
  show Go p e below _ T1 (mkF m 5 #[.val (.ref a1), .unset] [(.ref a1), (.ref b)])
  refine Go.oget (f := ("head", "I")) X1 hx hZ hown (hw _ (List.mem_of_getElem? (i := 24) rfl)) e1 O (k := 1) rfl rfl (hb hby d7_5) ?_
  intro T2 X2 e2
  show Go p e below _ T2 (mkF m 8 #[.val (.ref a1), .unset] [(.int hd), (.ref b)])
  refine Go.oload X2 hx hZ e2 O (k := 0) rfl rfl hr (hb hby d7_8) ?_
  show Go p e below _ T2 (mkF m 9 #[.val (.ref a1), .unset] [(.int w)])
  refine Go.to (fun _ => XS.istoreN X2.here hx rfl (hb hby d7_9) rfl (l' := #[.val (.ref a1), .val (.int w)]) rfl) ?_
  show Go p e below _ T2 (mkF m 10 #[.val (.ref a1), .val (.int w)] [])
  refine Go.to (fun _ => XS.aloadN X2.here hx rfl (hb hby d7_10) rfl rfl) ?_
  show Go p e below _ T2 (mkF m 11 #[.val (.ref a1), .val (.int w)] [(.ref a1)])
  refine Go.to (fun _ => XS.dup X2.here hx rfl (hb hby d7_11) rfl rfl) ?_
  show Go p e below _ T2 (mkF m 12 #[.val (.ref a1), .val (.int w)] [(.ref a1), (.ref a1)])
  refine Go.oget (f := ("head", "I")) X2 hx hZ hown (hw _ (List.mem_of_getElem? (i := 24) rfl)) e2 O (k := 1) rfl rfl (hb hby d7_12) ?_
  intro T3 X3 e3
  show Go p e below _ T3 (mkF m 15 #[.val (.ref a1), .val (.int w)] [(.int hd), (.ref a1)])
  refine Go.to (fun _ => XS.iconst X3.here hx rfl (hb hby d7_15)) ?_
  show Go p e below _ T3 (mkF m 16 #[.val (.ref a1), .val (.int w)] [(.int (1 : Int32)), (.int hd), (.ref a1)])
  refine Go.to (fun _ => XS.iadd X3.here hx rfl (hb hby d7_16) rfl) ?_
  show Go p e below _ T3 (mkF m 17 #[.val (.ref a1), .val (.int w)] [(.int (hd + (1 : Int32))), (.ref a1)])
  refine Go.oput (f := ("head", "I")) X3 hx hZ hown (hw _ (List.mem_of_getElem? (i := 24) rfl)) e3 (Fr.nil n0) O (layq hw) (k := 1) rfl rfl (Or.inl (hw _ (List.mem_of_getElem? (i := 25) rfl))) (hw _ (List.mem_of_getElem? (i := 1) rfl)) (ty := .int) (by decide) rfl rfl (hb hby d7_17) ?_
  intro T4 h4 L4 X4 e4 N4 O4
  have O4 : Obj Z n0 h0 h4 a1 "com/example/eventually/eventually/solver/StateQueue" nFq [(.ref b), (.int (hd + (1 : Int32))), (.int tl)] [b] [xs] := O4
  show Go p e below _ T4 (mkF m 20 #[.val (.ref a1), .val (.int w)] [])
  refine Go.to (fun _ => XS.iloadN X4.here hx rfl (hb hby d7_20) rfl) ?_
  show Go p e below _ T4 (mkF m 21 #[.val (.ref a1), .val (.int w)] [(.int w)])
  rw [hK]
  exact Go.retI X4 hx hlk hret (hb hby d7_21) ⟨rfl, N4, e4 ▸ O4⟩ (by decide) (by decide)
theorem d4_0 : decode prog_110_method_4_code 0 = .ok (.aload_n 0, 1) := by decide +kernel
theorem d4_1 : decode prog_110_method_4_code 1 = .ok (.getfield 27, 3) := by decide +kernel
theorem d4_4 : decode prog_110_method_4_code 4 = .ok (.aload_n 0, 1) := by decide +kernel
theorem d4_5 : decode prog_110_method_4_code 5 = .ok (.getfield 13, 3) := by decide +kernel
theorem d4_8 : decode prog_110_method_4_code 8 = .ok (.if_icmp .ne 7, 3) := by decide +kernel
theorem d4_11 : decode prog_110_method_4_code 11 = .ok (.iconst 1, 1) := by decide +kernel
theorem d4_12 : decode prog_110_method_4_code 12 = .ok (.goto 4, 3) := by decide +kernel
theorem d4_15 : decode prog_110_method_4_code 15 = .ok (.iconst 0, 1) := by decide +kernel
theorem d4_16 : decode prog_110_method_4_code 16 = .ok (.ireturn, 1) := by decide +kernel
theorem ef_rm4 (m : MethodId) (a1 : Addr) : entryFrame m #[(.ref a1)] 1 = mkF m 0 #[.val (.ref a1)] [] := by first | (simp [entryFrame, mkF, argsToLocals, Value.category]; done) | rfl
set_option maxHeartbeats 40000000 in
theorem rm4 (l : Launch) (Z : State) (a0 : Array Value) (hw : ∀ d ∈ tables_1, d.before a0 Z = true) (ws : List Jvm.Cond) (a1 : Addr) (h0 : Heap) (n0 : Nat) (b : Addr) (hd tl : Int32) (xs : List Int32) (O : Obj Z n0 h0 h0 a1 "com/example/eventually/eventually/solver/StateQueue" nFq [.ref b, .int hd, .int tl] [b] [xs]) :
    Met1 l Z (⟨"com/example/eventually/eventually/solver/StateQueue", "isEmpty", "()Z"⟩ : MethodName) prog_110_method_4_code 1 (some .boolean) ws ({ frames := 0, cells := 0, slots := 0, locals := 0 } : Room) #[(.ref a1)] h0 (QP (.int (if hd = tl then 1 else 0)) h0) := by
  refine metOf (by first | exact plainFor_of_name (by first | (simp [plainName, overriddenIn]; done) | decide +kernel) | decide +kernel) ?_
  intro p e s m below meth c s₁ hx hby hml hown hnm hret hlk hZ X0 e0
  have hown : s.vm.findClass "com/example/eventually/eventually/solver/StateQueue" = some m.cls := hown
  obtain ⟨K, hK⟩ : ∃ K, K = KQ s (QP (.int (if hd = tl then 1 else 0)) h0) (({ frames := 0, cells := 0, slots := 0, locals := 0 } : Room)).cells (({ frames := 0, cells := 0, slots := 0, locals := 0 } : Room)).slots := ⟨_, rfl⟩
  show Go p e below (KQ s (QP (.int (if hd = tl then 1 else 0)) h0) (({ frames := 0, cells := 0, slots := 0, locals := 0 } : Room)).cells (({ frames := 0, cells := 0, slots := 0, locals := 0 } : Room)).slots) s₁ (entryFrame m #[(.ref a1)] 1)
  rw [← hK, ef_rm4 m a1]
  show Go p e below _ s₁ (mkF m 0 #[.val (.ref a1)] [])
  refine Go.to (fun _ => XS.aloadN X0.here hx rfl (hb hby d4_0) rfl rfl) ?_
  show Go p e below _ s₁ (mkF m 1 #[.val (.ref a1)] [(.ref a1)])
  refine Go.oget (f := ("head", "I")) X0 hx hZ hown (hw _ (List.mem_of_getElem? (i := 24) rfl)) e0 O (k := 1) rfl rfl (hb hby d4_1) ?_
  intro T1 X1 e1
  show Go p e below _ T1 (mkF m 4 #[.val (.ref a1)] [(.int hd)])
  refine Go.to (fun _ => XS.aloadN X1.here hx rfl (hb hby d4_4) rfl rfl) ?_
  show Go p e below _ T1 (mkF m 5 #[.val (.ref a1)] [(.ref a1), (.int hd)])
  refine Go.oget (f := ("tail", "I")) X1 hx hZ hown (hw _ (List.mem_of_getElem? (i := 17) rfl)) e1 O (k := 2) rfl rfl (hb hby d4_5) ?_
  intro T2 X2 e2
  show Go p e below _ T2 (mkF m 8 #[.val (.ref a1)] [(.int tl), (.int hd)])
  by_cases hc1 : hd = tl
  · refine Go.to (fun _ => XS.icmpNo X2.here hx rfl (hb hby d4_8) rfl (teq hc1).2) ?_
    show Go p e below _ T2 (mkF m 11 #[.val (.ref a1)] [])
    refine Go.to (fun _ => XS.iconst X2.here hx rfl (hb hby d4_11)) ?_
    show Go p e below _ T2 (mkF m 12 #[.val (.ref a1)] [(.int (1 : Int32))])
    refine Go.to (fun _ => XS.goto X2.here hx rfl (pc0 := 12) (pc' := 16) rfl (hb hby d4_12) (by decide) (by decide)) ?_
    show Go p e below _ T2 (mkF m 16 #[.val (.ref a1)] [(.int (1 : Int32))])
    rw [hK]
    exact Go.retZ X2 hx hlk hret (by decide) (hb hby d4_16) ⟨by rw [if_pos hc1], e2, rfl⟩ (by decide) (by decide)
  · refine Go.to (fun _ => XS.icmpYes X2.here hx rfl (pc0 := 8) (pc' := 15) rfl (hb hby d4_8) rfl (feq hc1).2 (by decide) (by decide)) ?_
    show Go p e below _ T2 (mkF m 15 #[.val (.ref a1)] [])
    refine Go.to (fun _ => XS.iconst X2.here hx rfl (hb hby d4_15)) ?_
    show Go p e below _ T2 (mkF m 16 #[.val (.ref a1)] [(.int (0 : Int32))])
    rw [hK]
    exact Go.retZ X2 hx hlk hret (by decide) (hb hby d4_16) ⟨by rw [if_neg hc1], e2, rfl⟩ (by decide) (by decide)
theorem d3_0 : decode prog_110_method_6_code 0 = .ok (.aload_n 0, 1) := by decide +kernel
theorem d3_1 : decode prog_110_method_6_code 1 = .ok (.getfield 13, 3) := by decide +kernel
theorem d3_4 : decode prog_110_method_6_code 4 = .ok (.ireturn, 1) := by decide +kernel
theorem ef_rm3 (m : MethodId) (a1 : Addr) : entryFrame m #[(.ref a1)] 1 = mkF m 0 #[.val (.ref a1)] [] := by first | (simp [entryFrame, mkF, argsToLocals, Value.category]; done) | rfl
set_option maxHeartbeats 40000000 in
theorem rm3 (l : Launch) (Z : State) (a0 : Array Value) (hw : ∀ d ∈ tables_1, d.before a0 Z = true) (ws : List Jvm.Cond) (a1 : Addr) (h0 : Heap) (n0 : Nat) (b : Addr) (hd tl : Int32) (xs : List Int32) (O : Obj Z n0 h0 h0 a1 "com/example/eventually/eventually/solver/StateQueue" nFq [.ref b, .int hd, .int tl] [b] [xs]) :
    Met1 l Z (⟨"com/example/eventually/eventually/solver/StateQueue", "size", "()I"⟩ : MethodName) prog_110_method_6_code 1 (some .int) ws ({ frames := 0, cells := 0, slots := 0, locals := 0 } : Room) #[(.ref a1)] h0 (QP (.int tl) h0) := by
  refine metOf (by first | exact plainFor_of_name (by first | (simp [plainName, overriddenIn]; done) | decide +kernel) | decide +kernel) ?_
  intro p e s m below meth c s₁ hx hby hml hown hnm hret hlk hZ X0 e0
  have hown : s.vm.findClass "com/example/eventually/eventually/solver/StateQueue" = some m.cls := hown
  obtain ⟨K, hK⟩ : ∃ K, K = KQ s (QP (.int tl) h0) (({ frames := 0, cells := 0, slots := 0, locals := 0 } : Room)).cells (({ frames := 0, cells := 0, slots := 0, locals := 0 } : Room)).slots := ⟨_, rfl⟩
  show Go p e below (KQ s (QP (.int tl) h0) (({ frames := 0, cells := 0, slots := 0, locals := 0 } : Room)).cells (({ frames := 0, cells := 0, slots := 0, locals := 0 } : Room)).slots) s₁ (entryFrame m #[(.ref a1)] 1)
  rw [← hK, ef_rm3 m a1]
  show Go p e below _ s₁ (mkF m 0 #[.val (.ref a1)] [])
  refine Go.to (fun _ => XS.aloadN X0.here hx rfl (hb hby d3_0) rfl rfl) ?_
  show Go p e below _ s₁ (mkF m 1 #[.val (.ref a1)] [(.ref a1)])
  refine Go.oget (f := ("tail", "I")) X0 hx hZ hown (hw _ (List.mem_of_getElem? (i := 17) rfl)) e0 O (k := 2) rfl rfl (hb hby d3_1) ?_
  intro T1 X1 e1
  show Go p e below _ T1 (mkF m 4 #[.val (.ref a1)] [(.int tl)])
  rw [hK]
  exact Go.retI X1 hx hlk hret (hb hby d3_4) ⟨rfl, e1, rfl⟩ (by decide) (by decide)
theorem d5_0 : decode prog_110_method_7_code 0 = .ok (.aload_n 0, 1) := by decide +kernel
theorem d5_1 : decode prog_110_method_7_code 1 = .ok (.getfield 7, 3) := by decide +kernel
theorem d5_4 : decode prog_110_method_7_code 4 = .ok (.areturn, 1) := by decide +kernel
theorem ef_rm5 (m : MethodId) (a1 : Addr) : entryFrame m #[(.ref a1)] 1 = mkF m 0 #[.val (.ref a1)] [] := by first | (simp [entryFrame, mkF, argsToLocals, Value.category]; done) | rfl
set_option maxHeartbeats 40000000 in
theorem rm5 (l : Launch) (Z : State) (a0 : Array Value) (hw : ∀ d ∈ tables_1, d.before a0 Z = true) (ws : List Jvm.Cond) (a1 : Addr) (h0 : Heap) (n0 : Nat) (b : Addr) (hd tl : Int32) (xs : List Int32) (O : Obj Z n0 h0 h0 a1 "com/example/eventually/eventually/solver/StateQueue" nFq [.ref b, .int hd, .int tl] [b] [xs]) :
    Met1 l Z (⟨"com/example/eventually/eventually/solver/StateQueue", "added", "()[I"⟩ : MethodName) prog_110_method_7_code 1 (some (.array .int)) ws ({ frames := 0, cells := 0, slots := 0, locals := 0 } : Room) #[(.ref a1)] h0 (QP (.ref b) h0) := by
  refine metOf (by first | exact plainFor_of_name (by first | (simp [plainName, overriddenIn]; done) | decide +kernel) | decide +kernel) ?_
  intro p e s m below meth c s₁ hx hby hml hown hnm hret hlk hZ X0 e0
  have hown : s.vm.findClass "com/example/eventually/eventually/solver/StateQueue" = some m.cls := hown
  obtain ⟨K, hK⟩ : ∃ K, K = KQ s (QP (.ref b) h0) (({ frames := 0, cells := 0, slots := 0, locals := 0 } : Room)).cells (({ frames := 0, cells := 0, slots := 0, locals := 0 } : Room)).slots := ⟨_, rfl⟩
  show Go p e below (KQ s (QP (.ref b) h0) (({ frames := 0, cells := 0, slots := 0, locals := 0 } : Room)).cells (({ frames := 0, cells := 0, slots := 0, locals := 0 } : Room)).slots) s₁ (entryFrame m #[(.ref a1)] 1)
  rw [← hK, ef_rm5 m a1]
  show Go p e below _ s₁ (mkF m 0 #[.val (.ref a1)] [])
  refine Go.to (fun _ => XS.aloadN X0.here hx rfl (hb hby d5_0) rfl rfl) ?_
  show Go p e below _ s₁ (mkF m 1 #[.val (.ref a1)] [(.ref a1)])
  refine Go.oget (f := ("states", "[I")) X0 hx hZ hown (hw _ (List.mem_of_getElem? (i := 10) rfl)) e0 O (k := 0) rfl rfl (hb hby d5_1) ?_
  intro T1 X1 e1
  show Go p e below _ T1 (mkF m 4 #[.val (.ref a1)] [(.ref b)])
  rw [hK]
  exact Go.retA X1 hx hlk hret rfl rfl rfl (hb hby d5_4) ⟨rfl, e1, rfl⟩ (by decide) (by decide)
theorem own_c {k z : Int32} (h : z = (3 : Int32) + (k &&& (3 : Int32))) : 3 ≤ z.toInt ∧ z.toInt ≤ 6 := by
  have e := Jvm.Kit.i32_mask k (3 : Int32) (k := 2) (by decide) (by decide)
  have e3 : (3 : Int32).toInt = 3 := by decide
  rw [h, Jvm.Kit.i32_add (by omega) (by omega)]; omega
theorem own_cn {k z : Int32} (h : z = (3 : Int32) + (k &&& (3 : Int32))) : ¬ z < 0 ∧ z.toNatClampNeg ≤ 6 ∧ 3 ≤ z.toNatClampNeg := by
  have q := own_c h
  have e0 : (0 : Int32).toInt = 0 := by decide
  simp only [Int32.lt_iff_toInt_lt, Int32.toNatClampNeg]; omega
theorem own_n {k z : Int32} (h : z = (k &&& (3 : Int32))) : z = 0 ∨ z = 1 ∨ z = 2 ∨ z = 3 := by
  have e := Jvm.Kit.i32_mask k (3 : Int32) (k := 2) (by decide) (by decide)
  rw [← h] at e
  have e0 : (0 : Int32).toInt = 0 := by decide
  have e1 : (1 : Int32).toInt = 1 := by decide
  have e2 : (2 : Int32).toInt = 2 := by decide
  have e3 : (3 : Int32).toInt = 3 := by decide
  simp only [← Int32.toInt_inj, e0, e1, e2, e3]; omega
theorem own_ys {k z : Int32} (h : z = (3 : Int32) + (k &&& (3 : Int32))) : ∃ ys : List Int32, List.replicate z.toNatClampNeg (0 : Int32) = (0 : Int32) :: (0 : Int32) :: (0 : Int32) :: ys ∧ ys.length + 3 = z.toNatClampNeg := by
  obtain ⟨-, -, q⟩ := own_cn h
  refine ⟨List.replicate (z.toNatClampNeg - 3) 0, ?_, by simp; omega⟩
  obtain ⟨n, hn⟩ : ∃ n, z.toNatClampNeg = n + 3 := ⟨z.toNatClampNeg - 3, by omega⟩
  rw [hn]; simp [List.replicate_succ]
theorem own_len {k z a b c : Int32} {ys : List Int32} (h : z = (3 : Int32) + (k &&& (3 : Int32))) (hy : ys.length + 3 = z.toNatClampNeg) : (a :: b :: c :: ys).length.toInt32 = z := by
  have q : (a :: b :: c :: ys).length = z.toNatClampNeg := by simp only [List.length_cons]; omega
  rw [q]; exact (back32 (own_cn h).1).1
theorem ef_rm0 (m : MethodId) (p1 : Int32) (p2 : Int32) (p3 : Int32) (p4 : Int32) : entryFrame m #[(.int p1), (.int p2), (.int p3), (.int p4)] maxLocals = mkF m 0 #[.val (.int p1), .val (.int p2), .val (.int p3), .val (.int p4), .unset, .unset, .unset, .unset, .unset] [] := by first | (simp [entryFrame, mkF, argsToLocals, Value.category, maxLocals]; done) | rfl
set_option maxHeartbeats 40000000 in
theorem rm0 (l : Launch) (Z : State) (a0 : Array Value) (hw : ∀ d ∈ tables_1, d.before a0 Z = true) (ws : List Jvm.Cond) (p1 : Int32) (p2 : Int32) (p3 : Int32) (p4 : Int32) (h0 : Heap) (n0 : Nat) (Z0 : n0 ≤ h0.size) :
    Met1 l Z x code maxLocals ret ws room_1 #[(.int p1), (.int p2), (.int p3), (.int p4)] h0 (fun v h L => v = some (.int 1) ∧ Fr n0 L) := by
  refine metOf (by first | exact plainFor_of_name (by first | (simp [plainName, overriddenIn]; done) | decide +kernel) | decide +kernel) ?_
  intro p e s m below meth c s₁ hx hby hml hown hnm hret hlk hZ X0 e0
  have hown : s.vm.findClass "com/example/eventually/eventually/solver/StateQueueAddPinLaw" = some m.cls := hown
  have hml : c.maxLocals = 9 := hml
  obtain ⟨K, hK⟩ : ∃ K, K = KQ s (fun v h L => v = some (.int 1) ∧ Fr n0 L) (room_1).cells (room_1).slots := ⟨_, rfl⟩
  show Go p e below (KQ s (fun v h L => v = some (.int 1) ∧ Fr n0 L) (room_1).cells (room_1).slots) s₁ (entryFrame m #[(.int p1), (.int p2), (.int p3), (.int p4)] maxLocals)
  rw [← hK, ef_rm0 m p1 p2 p3 p4]
  show Go p e below _ s₁ (mkF m 0 #[.val (.int p1), .val (.int p2), .val (.int p3), .val (.int p4), .unset, .unset, .unset, .unset, .unset] [])
  refine Go.to (fun _ => XS.iconst X0.here hx rfl (hb hby at_0)) ?_
  show Go p e below _ s₁ (mkF m 1 #[.val (.int p1), .val (.int p2), .val (.int p3), .val (.int p4), .unset, .unset, .unset, .unset, .unset] [(.int (3 : Int32))])
  refine Go.to (fun _ => XS.iloadN X0.here hx rfl (hb hby at_1) rfl) ?_
  show Go p e below _ s₁ (mkF m 2 #[.val (.int p1), .val (.int p2), .val (.int p3), .val (.int p4), .unset, .unset, .unset, .unset, .unset] [(.int p4), (.int (3 : Int32))])
  refine Go.to (fun _ => XS.iconst X0.here hx rfl (hb hby at_2)) ?_
  show Go p e below _ s₁ (mkF m 3 #[.val (.int p1), .val (.int p2), .val (.int p3), .val (.int p4), .unset, .unset, .unset, .unset, .unset] [(.int (3 : Int32)), (.int p4), (.int (3 : Int32))])
  refine Go.to (fun _ => XS.iand X0.here hx rfl (hb hby at_3) rfl) ?_
  show Go p e below _ s₁ (mkF m 4 #[.val (.int p1), .val (.int p2), .val (.int p3), .val (.int p4), .unset, .unset, .unset, .unset, .unset] [(.int (p4 &&& (3 : Int32))), (.int (3 : Int32))])
  refine Go.to (fun _ => XS.iadd X0.here hx rfl (hb hby at_4) rfl) ?_
  show Go p e below _ s₁ (mkF m 5 #[.val (.int p1), .val (.int p2), .val (.int p3), .val (.int p4), .unset, .unset, .unset, .unset, .unset] [(.int ((3 : Int32) + (p4 &&& (3 : Int32))))])
  refine Go.to (fun _ => XS.istore X0.here hx rfl (hb hby at_5) rfl (l' := #[.val (.int p1), .val (.int p2), .val (.int p3), .val (.int p4), .val (.int ((3 : Int32) + (p4 &&& (3 : Int32)))), .unset, .unset, .unset, .unset]) rfl) ?_
  show Go p e below _ s₁ (mkF m 7 #[.val (.int p1), .val (.int p2), .val (.int p3), .val (.int p4), .val (.int ((3 : Int32) + (p4 &&& (3 : Int32)))), .unset, .unset, .unset, .unset] [])
  refine Go.to (fun _ => XS.iloadN X0.here hx rfl (hb hby at_7) rfl) ?_
  show Go p e below _ s₁ (mkF m 8 #[.val (.int p1), .val (.int p2), .val (.int p3), .val (.int p4), .val (.int ((3 : Int32) + (p4 &&& (3 : Int32)))), .unset, .unset, .unset, .unset] [(.int p4)])
  refine Go.to (fun _ => XS.iconst X0.here hx rfl (hb hby at_8)) ?_
  show Go p e below _ s₁ (mkF m 9 #[.val (.int p1), .val (.int p2), .val (.int p3), .val (.int p4), .val (.int ((3 : Int32) + (p4 &&& (3 : Int32)))), .unset, .unset, .unset, .unset] [(.int (2 : Int32)), (.int p4)])
  refine Go.to (fun _ => XS.iushr X0.here hx rfl (hb hby at_9) rfl) ?_
  show Go p e below _ s₁ (mkF m 10 #[.val (.int p1), .val (.int p2), .val (.int p3), .val (.int p4), .val (.int ((3 : Int32) + (p4 &&& (3 : Int32)))), .unset, .unset, .unset, .unset] [(.int ((p4.toUInt32 >>> ((2 : Int32) &&& 31).toUInt32).toInt32))])
  refine Go.to (fun _ => XS.iconst X0.here hx rfl (hb hby at_10)) ?_
  show Go p e below _ s₁ (mkF m 11 #[.val (.int p1), .val (.int p2), .val (.int p3), .val (.int p4), .val (.int ((3 : Int32) + (p4 &&& (3 : Int32)))), .unset, .unset, .unset, .unset] [(.int (3 : Int32)), (.int ((p4.toUInt32 >>> ((2 : Int32) &&& 31).toUInt32).toInt32))])
  refine Go.to (fun _ => XS.iand X0.here hx rfl (hb hby at_11) rfl) ?_
  show Go p e below _ s₁ (mkF m 12 #[.val (.int p1), .val (.int p2), .val (.int p3), .val (.int p4), .val (.int ((3 : Int32) + (p4 &&& (3 : Int32)))), .unset, .unset, .unset, .unset] [(.int (((p4.toUInt32 >>> ((2 : Int32) &&& 31).toUInt32).toInt32) &&& (3 : Int32)))])
  refine Go.to (fun _ => XS.istore X0.here hx rfl (hb hby at_12) rfl (l' := #[.val (.int p1), .val (.int p2), .val (.int p3), .val (.int p4), .val (.int ((3 : Int32) + (p4 &&& (3 : Int32)))), .val (.int (((p4.toUInt32 >>> ((2 : Int32) &&& 31).toUInt32).toInt32) &&& (3 : Int32))), .unset, .unset, .unset]) rfl) ?_
  show Go p e below _ s₁ (mkF m 14 #[.val (.int p1), .val (.int p2), .val (.int p3), .val (.int p4), .val (.int ((3 : Int32) + (p4 &&& (3 : Int32)))), .val (.int (((p4.toUInt32 >>> ((2 : Int32) &&& 31).toUInt32).toInt32) &&& (3 : Int32))), .unset, .unset, .unset] [])
  obtain ⟨zc, hzc⟩ : ∃ z : Int32, z = ((3 : Int32) + (p4 &&& (3 : Int32))) := ⟨_, rfl⟩
  rw [← hzc]
  obtain ⟨zn, hzn⟩ : ∃ z : Int32, z = (((p4.toUInt32 >>> ((2 : Int32) &&& 31).toUInt32).toInt32) &&& (3 : Int32)) := ⟨_, rfl⟩
  rw [← hzn]
  obtain ⟨ys, hys, hyl⟩ := own_ys hzc
  show Go p e below _ s₁ (mkF m 14 #[.val (.int p1), .val (.int p2), .val (.int p3), .val (.int p4), .val (.int zc), .val (.int zn), .unset, .unset, .unset] [])
  obtain ⟨T1, h1, X1, e1, E1, B1, D1, -, st1⟩ := newO X0 hx hZ hown (hw _ (List.mem_of_getElem? (i := 0) rfl)) (hw _ (List.mem_of_getElem? (i := 1) rfl)) (hw _ (List.mem_of_getElem? (i := 2) rfl)) e0 (g := (mkF m 14 #[.val (.int p1), .val (.int p2), .val (.int p3), .val (.int p4), .val (.int zc), .val (.int zn), .unset, .unset, .unset] [])) rfl (hb hby at_14) (by decide) (by decide)
  obtain ⟨a1, g1⟩ : ∃ z, z = h0.size := ⟨_, rfl⟩
  rw [← g1] at B1 D1 st1
  refine Go.to st1 ?_
  have O1 : Obj Z n0 h1 h1 a1 "com/example/eventually/eventually/solver/StateQueue" nFq [.null, (.int (0 : Int32)), (.int (0 : Int32))] [] [] := Obj.born B1 (by rw [g1]; exact Z0) D1 (laidq hw) (by decide +kernel) rfl
  show Go p e below _ T1 (mkF m 17 #[.val (.int p1), .val (.int p2), .val (.int p3), .val (.int p4), .val (.int zc), .val (.int zn), .unset, .unset, .unset] [(.ref a1)])
  refine Go.to (fun _ => XS.dup X1.here hx rfl (hb hby at_17) rfl rfl) ?_
  show Go p e below _ T1 (mkF m 18 #[.val (.int p1), .val (.int p2), .val (.int p3), .val (.int p4), .val (.int zc), .val (.int zn), .unset, .unset, .unset] [(.ref a1), (.ref a1)])
  refine Go.to (fun _ => XS.iload X1.here hx rfl (hb hby at_18) rfl) ?_
  show Go p e below _ T1 (mkF m 20 #[.val (.int p1), .val (.int p2), .val (.int p3), .val (.int p4), .val (.int zc), .val (.int zn), .unset, .unset, .unset] [(.int zc), (.ref a1), (.ref a1)])
  refine Go.callI (y := (⟨"com/example/eventually/eventually/solver/StateQueue", "<init>", "(I)V"⟩ : MethodName)) X1 hx hZ hown rfl (hw _ (List.mem_of_getElem? (i := 3) rfl)) (hw _ (List.mem_of_getElem? (i := 4) rfl)) (hw _ (List.mem_of_getElem? (i := 2) rfl)) (hw _ (List.mem_of_getElem? (i := 5) rfl)) (by decide) (rm1 l Z a0 hw [] a1 zc h1 n0 O1 (own_cn hzc).1 (own_cn hzc).2.1) e1 (by rw [hml]; rfl) (pd_0) rfl (a := a1) (argsL := [(.int zc)]) (rest := [(.ref a1)]) rfl rfl (hb hby at_20) (by decide) (Nat.le_of_ble_eq_true rfl) (by decide) (by decide) ?_
  rintro T2 _ L2 X2 ⟨rfl, N2, b2, O2⟩
  have N2 := Fr.app (Fr.nil n0) N2
  have O2 : Obj Z n0 T2.heap T2.heap a1 "com/example/eventually/eventually/solver/StateQueue" nFq [.ref b2, .int (0 : Int32), .int (0 : Int32)] [b2] [((0 : Int32) :: (0 : Int32) :: (0 : Int32) :: ys)] := by
    have O2 := O2.anew
    rw [hys] at O2; exact O2
  show Go p e below _ T2 (mkF m 23 #[.val (.int p1), .val (.int p2), .val (.int p3), .val (.int p4), .val (.int zc), .val (.int zn), .unset, .unset, .unset] [(.ref a1)])
  refine Go.to (fun _ => XS.astore X2.here hx rfl (hb hby at_23) rfl rfl (l' := #[.val (.int p1), .val (.int p2), .val (.int p3), .val (.int p4), .val (.int zc), .val (.int zn), .val (.ref a1), .unset, .unset]) rfl) ?_
  show Go p e below _ T2 (mkF m 25 #[.val (.int p1), .val (.int p2), .val (.int p3), .val (.int p4), .val (.int zc), .val (.int zn), .val (.ref a1), .unset, .unset] [])
  rcases own_n hzn with rfl | rfl | rfl | rfl
  · show Go p e below _ T2 (mkF m 25 #[.val (.int p1), .val (.int p2), .val (.int p3), .val (.int p4), .val (.int zc), .val (.int (0 : Int32)), .val (.ref a1), .unset, .unset] [])
    refine Go.to (fun _ => XS.iload X2.here hx rfl (hb hby at_25) rfl) ?_
    show Go p e below _ T2 (mkF m 27 #[.val (.int p1), .val (.int p2), .val (.int p3), .val (.int p4), .val (.int zc), .val (.int (0 : Int32)), .val (.ref a1), .unset, .unset] [(.int (0 : Int32))])
    refine Go.to (fun _ => XS.iconst X2.here hx rfl (hb hby at_27)) ?_
    show Go p e below _ T2 (mkF m 28 #[.val (.int p1), .val (.int p2), .val (.int p3), .val (.int p4), .val (.int zc), .val (.int (0 : Int32)), .val (.ref a1), .unset, .unset] [(.int (1 : Int32)), (.int (0 : Int32))])
    refine Go.to (fun _ => XS.icmpYes X2.here hx rfl (pc0 := 28) (pc' := 37) rfl (hb hby at_28) rfl (tlt (by decide)).1 (by decide) (by decide)) ?_
    show Go p e below _ T2 (mkF m 37 #[.val (.int p1), .val (.int p2), .val (.int p3), .val (.int p4), .val (.int zc), .val (.int (0 : Int32)), .val (.ref a1), .unset, .unset] [])
    refine Go.to (fun _ => XS.iload X2.here hx rfl (hb hby at_37) rfl) ?_
    show Go p e below _ T2 (mkF m 39 #[.val (.int p1), .val (.int p2), .val (.int p3), .val (.int p4), .val (.int zc), .val (.int (0 : Int32)), .val (.ref a1), .unset, .unset] [(.int (0 : Int32))])
    refine Go.to (fun _ => XS.iconst X2.here hx rfl (hb hby at_39)) ?_
    show Go p e below _ T2 (mkF m 40 #[.val (.int p1), .val (.int p2), .val (.int p3), .val (.int p4), .val (.int zc), .val (.int (0 : Int32)), .val (.ref a1), .unset, .unset] [(.int (2 : Int32)), (.int (0 : Int32))])
    refine Go.to (fun _ => XS.icmpYes X2.here hx rfl (pc0 := 40) (pc' := 49) rfl (hb hby at_40) rfl (tlt (by decide)).1 (by decide) (by decide)) ?_
    show Go p e below _ T2 (mkF m 49 #[.val (.int p1), .val (.int p2), .val (.int p3), .val (.int p4), .val (.int zc), .val (.int (0 : Int32)), .val (.ref a1), .unset, .unset] [])
    refine Go.to (fun _ => XS.iload X2.here hx rfl (hb hby at_49) rfl) ?_
    show Go p e below _ T2 (mkF m 51 #[.val (.int p1), .val (.int p2), .val (.int p3), .val (.int p4), .val (.int zc), .val (.int (0 : Int32)), .val (.ref a1), .unset, .unset] [(.int (0 : Int32))])
    refine Go.to (fun _ => XS.iconst X2.here hx rfl (hb hby at_51)) ?_
    show Go p e below _ T2 (mkF m 52 #[.val (.int p1), .val (.int p2), .val (.int p3), .val (.int p4), .val (.int zc), .val (.int (0 : Int32)), .val (.ref a1), .unset, .unset] [(.int (3 : Int32)), (.int (0 : Int32))])
    refine Go.to (fun _ => XS.icmpYes X2.here hx rfl (pc0 := 52) (pc' := 61) rfl (hb hby at_52) rfl (tlt (by decide)).1 (by decide) (by decide)) ?_
    show Go p e below _ T2 (mkF m 61 #[.val (.int p1), .val (.int p2), .val (.int p3), .val (.int p4), .val (.int zc), .val (.int (0 : Int32)), .val (.ref a1), .unset, .unset] [])
    refine Go.to (fun _ => XS.aload X2.here hx rfl (hb hby at_61) rfl rfl) ?_
    show Go p e below _ T2 (mkF m 63 #[.val (.int p1), .val (.int p2), .val (.int p3), .val (.int p4), .val (.int zc), .val (.int (0 : Int32)), .val (.ref a1), .unset, .unset] [(.ref a1)])
    refine Go.callV (y := (⟨"com/example/eventually/eventually/solver/StateQueue", "size", "()I"⟩ : MethodName)) X2 hx hZ hown (hw _ (List.mem_of_getElem? (i := 12) rfl)) (hw _ (List.mem_of_getElem? (i := 13) rfl)) (hw _ (List.mem_of_getElem? (i := 15) rfl)) (hw _ (List.mem_of_getElem? (i := 14) rfl)) (hw _ (List.mem_of_getElem? (i := 2) rfl)) (hw _ (List.mem_of_getElem? (i := 16) rfl)) (by decide) (rm3 l Z a0 hw [] a1 T2.heap n0 b2 (0 : Int32) (0 : Int32) ((0 : Int32) :: (0 : Int32) :: (0 : Int32) :: ys) O2) rfl O2.exa (by rw [hml]; rfl) (pd_1) rfl (argsL := []) (rest := []) rfl rfl (hb hby at_63) (by decide) (Nat.le_of_ble_eq_true rfl) (by decide) (by decide) ?_
    rintro T3 _ L3 X3 ⟨rfl, e3, rfl⟩
    simp only [List.append_nil] at X3
    show Go p e below _ T3 (mkF m 66 #[.val (.int p1), .val (.int p2), .val (.int p3), .val (.int p4), .val (.int zc), .val (.int (0 : Int32)), .val (.ref a1), .unset, .unset] [(.int (0 : Int32))])
    refine Go.to (fun _ => XS.iload X3.here hx rfl (hb hby at_66) rfl) ?_
    show Go p e below _ T3 (mkF m 68 #[.val (.int p1), .val (.int p2), .val (.int p3), .val (.int p4), .val (.int zc), .val (.int (0 : Int32)), .val (.ref a1), .unset, .unset] [(.int (0 : Int32)), (.int (0 : Int32))])
    refine Go.to (fun _ => XS.icmpNo X3.here hx rfl (hb hby at_68) rfl (teq (by decide)).2) ?_
    show Go p e below _ T3 (mkF m 71 #[.val (.int p1), .val (.int p2), .val (.int p3), .val (.int p4), .val (.int zc), .val (.int (0 : Int32)), .val (.ref a1), .unset, .unset] [])
    refine Go.to (fun _ => XS.iconst X3.here hx rfl (hb hby at_71)) ?_
    show Go p e below _ T3 (mkF m 72 #[.val (.int p1), .val (.int p2), .val (.int p3), .val (.int p4), .val (.int zc), .val (.int (0 : Int32)), .val (.ref a1), .unset, .unset] [(.int (1 : Int32))])
    refine Go.to (fun _ => XS.goto X3.here hx rfl (pc0 := 72) (pc' := 76) rfl (hb hby at_72) (by decide) (by decide)) ?_
    show Go p e below _ T3 (mkF m 76 #[.val (.int p1), .val (.int p2), .val (.int p3), .val (.int p4), .val (.int zc), .val (.int (0 : Int32)), .val (.ref a1), .unset, .unset] [(.int (1 : Int32))])
    refine Go.to (fun _ => XS.istore X3.here hx rfl (hb hby at_76) rfl (l' := #[.val (.int p1), .val (.int p2), .val (.int p3), .val (.int p4), .val (.int zc), .val (.int (0 : Int32)), .val (.ref a1), .val (.int (1 : Int32)), .unset]) rfl) ?_
    show Go p e below _ T3 (mkF m 78 #[.val (.int p1), .val (.int p2), .val (.int p3), .val (.int p4), .val (.int zc), .val (.int (0 : Int32)), .val (.ref a1), .val (.int (1 : Int32)), .unset] [])
    refine Go.to (fun _ => XS.iload X3.here hx rfl (hb hby at_78) rfl) ?_
    show Go p e below _ T3 (mkF m 80 #[.val (.int p1), .val (.int p2), .val (.int p3), .val (.int p4), .val (.int zc), .val (.int (0 : Int32)), .val (.ref a1), .val (.int (1 : Int32)), .unset] [(.int (1 : Int32))])
    refine Go.to (fun _ => XS.ifNo X3.here hx rfl (hb hby at_80) rfl ((if0 _ _).trans (feq (by decide)).1)) ?_
    show Go p e below _ T3 (mkF m 83 #[.val (.int p1), .val (.int p2), .val (.int p3), .val (.int p4), .val (.int zc), .val (.int (0 : Int32)), .val (.ref a1), .val (.int (1 : Int32)), .unset] [])
    refine Go.to (fun _ => XS.aload X3.here hx rfl (hb hby at_83) rfl rfl) ?_
    show Go p e below _ T3 (mkF m 85 #[.val (.int p1), .val (.int p2), .val (.int p3), .val (.int p4), .val (.int zc), .val (.int (0 : Int32)), .val (.ref a1), .val (.int (1 : Int32)), .unset] [(.ref a1)])
    refine Go.callV (y := (⟨"com/example/eventually/eventually/solver/StateQueue", "isEmpty", "()Z"⟩ : MethodName)) X3 hx hZ hown (hw _ (List.mem_of_getElem? (i := 19) rfl)) (hw _ (List.mem_of_getElem? (i := 20) rfl)) (hw _ (List.mem_of_getElem? (i := 22) rfl)) (hw _ (List.mem_of_getElem? (i := 21) rfl)) (hw _ (List.mem_of_getElem? (i := 2) rfl)) (hw _ (List.mem_of_getElem? (i := 23) rfl)) (by decide) (rm4 l Z a0 hw [] a1 T2.heap n0 b2 (0 : Int32) (0 : Int32) ((0 : Int32) :: (0 : Int32) :: (0 : Int32) :: ys) O2) e3 O2.exa (by rw [hml]; rfl) (pd_2) rfl (argsL := []) (rest := []) rfl rfl (hb hby at_85) (by decide) (Nat.le_of_ble_eq_true rfl) (by decide) (by decide) ?_
    rintro T4 _ L4 X4 ⟨rfl, e4, rfl⟩
    simp only [List.append_nil] at X4
    show Go p e below _ T4 (mkF m 88 #[.val (.int p1), .val (.int p2), .val (.int p3), .val (.int p4), .val (.int zc), .val (.int (0 : Int32)), .val (.ref a1), .val (.int (1 : Int32)), .unset] [(.int (1 : Int32))])
    refine Go.to (fun _ => XS.iload X4.here hx rfl (hb hby at_88) rfl) ?_
    show Go p e below _ T4 (mkF m 90 #[.val (.int p1), .val (.int p2), .val (.int p3), .val (.int p4), .val (.int zc), .val (.int (0 : Int32)), .val (.ref a1), .val (.int (1 : Int32)), .unset] [(.int (0 : Int32)), (.int (1 : Int32))])
    refine Go.to (fun _ => XS.ifNo X4.here hx rfl (hb hby at_90) rfl ((if0 _ _).trans (teq (by decide)).2)) ?_
    show Go p e below _ T4 (mkF m 93 #[.val (.int p1), .val (.int p2), .val (.int p3), .val (.int p4), .val (.int zc), .val (.int (0 : Int32)), .val (.ref a1), .val (.int (1 : Int32)), .unset] [(.int (1 : Int32))])
    refine Go.to (fun _ => XS.iconst X4.here hx rfl (hb hby at_93)) ?_
    show Go p e below _ T4 (mkF m 94 #[.val (.int p1), .val (.int p2), .val (.int p3), .val (.int p4), .val (.int zc), .val (.int (0 : Int32)), .val (.ref a1), .val (.int (1 : Int32)), .unset] [(.int (1 : Int32)), (.int (1 : Int32))])
    refine Go.to (fun _ => XS.goto X4.here hx rfl (pc0 := 94) (pc' := 98) rfl (hb hby at_94) (by decide) (by decide)) ?_
    show Go p e below _ T4 (mkF m 98 #[.val (.int p1), .val (.int p2), .val (.int p3), .val (.int p4), .val (.int zc), .val (.int (0 : Int32)), .val (.ref a1), .val (.int (1 : Int32)), .unset] [(.int (1 : Int32)), (.int (1 : Int32))])
    refine Go.to (fun _ => XS.icmpNo X4.here hx rfl (hb hby at_98) rfl (teq (by decide)).2) ?_
    show Go p e below _ T4 (mkF m 101 #[.val (.int p1), .val (.int p2), .val (.int p3), .val (.int p4), .val (.int zc), .val (.int (0 : Int32)), .val (.ref a1), .val (.int (1 : Int32)), .unset] [])
    refine Go.to (fun _ => XS.iconst X4.here hx rfl (hb hby at_101)) ?_
    show Go p e below _ T4 (mkF m 102 #[.val (.int p1), .val (.int p2), .val (.int p3), .val (.int p4), .val (.int zc), .val (.int (0 : Int32)), .val (.ref a1), .val (.int (1 : Int32)), .unset] [(.int (1 : Int32))])
    refine Go.to (fun _ => XS.goto X4.here hx rfl (pc0 := 102) (pc' := 106) rfl (hb hby at_102) (by decide) (by decide)) ?_
    show Go p e below _ T4 (mkF m 106 #[.val (.int p1), .val (.int p2), .val (.int p3), .val (.int p4), .val (.int zc), .val (.int (0 : Int32)), .val (.ref a1), .val (.int (1 : Int32)), .unset] [(.int (1 : Int32))])
    refine Go.to (fun _ => XS.istore X4.here hx rfl (hb hby at_106) rfl (l' := #[.val (.int p1), .val (.int p2), .val (.int p3), .val (.int p4), .val (.int zc), .val (.int (0 : Int32)), .val (.ref a1), .val (.int (1 : Int32)), .unset]) rfl) ?_
    show Go p e below _ T4 (mkF m 108 #[.val (.int p1), .val (.int p2), .val (.int p3), .val (.int p4), .val (.int zc), .val (.int (0 : Int32)), .val (.ref a1), .val (.int (1 : Int32)), .unset] [])
    refine Go.to (fun _ => XS.aload X4.here hx rfl (hb hby at_108) rfl rfl) ?_
    show Go p e below _ T4 (mkF m 110 #[.val (.int p1), .val (.int p2), .val (.int p3), .val (.int p4), .val (.int zc), .val (.int (0 : Int32)), .val (.ref a1), .val (.int (1 : Int32)), .unset] [(.ref a1)])
    refine Go.callV (y := (⟨"com/example/eventually/eventually/solver/StateQueue", "added", "()[I"⟩ : MethodName)) X4 hx hZ hown (hw _ (List.mem_of_getElem? (i := 26) rfl)) (hw _ (List.mem_of_getElem? (i := 27) rfl)) (hw _ (List.mem_of_getElem? (i := 29) rfl)) (hw _ (List.mem_of_getElem? (i := 28) rfl)) (hw _ (List.mem_of_getElem? (i := 2) rfl)) (hw _ (List.mem_of_getElem? (i := 30) rfl)) (by decide) (rm5 l Z a0 hw [] a1 T2.heap n0 b2 (0 : Int32) (0 : Int32) ((0 : Int32) :: (0 : Int32) :: (0 : Int32) :: ys) O2) e4 O2.exa (by rw [hml]; rfl) (pd_3) rfl (argsL := []) (rest := []) rfl rfl (hb hby at_110) (by decide) (Nat.le_of_ble_eq_true rfl) (by decide) (by decide) ?_
    rintro T5 _ L5 X5 ⟨rfl, e5, rfl⟩
    simp only [List.append_nil] at X5
    show Go p e below _ T5 (mkF m 113 #[.val (.int p1), .val (.int p2), .val (.int p3), .val (.int p4), .val (.int zc), .val (.int (0 : Int32)), .val (.ref a1), .val (.int (1 : Int32)), .unset] [(.ref b2)])
    refine Go.to (fun _ => XS.astore X5.here hx rfl (hb hby at_113) rfl rfl (l' := #[.val (.int p1), .val (.int p2), .val (.int p3), .val (.int p4), .val (.int zc), .val (.int (0 : Int32)), .val (.ref a1), .val (.int (1 : Int32)), .val (.ref b2)]) rfl) ?_
    show Go p e below _ T5 (mkF m 115 #[.val (.int p1), .val (.int p2), .val (.int p3), .val (.int p4), .val (.int zc), .val (.int (0 : Int32)), .val (.ref a1), .val (.int (1 : Int32)), .val (.ref b2)] [])
    refine Go.to (fun _ => XS.iload X5.here hx rfl (hb hby at_115) rfl) ?_
    show Go p e below _ T5 (mkF m 117 #[.val (.int p1), .val (.int p2), .val (.int p3), .val (.int p4), .val (.int zc), .val (.int (0 : Int32)), .val (.ref a1), .val (.int (1 : Int32)), .val (.ref b2)] [(.int (1 : Int32))])
    refine Go.to (fun _ => XS.ifNo X5.here hx rfl (hb hby at_117) rfl ((if0 _ _).trans (feq (by decide)).1)) ?_
    show Go p e below _ T5 (mkF m 120 #[.val (.int p1), .val (.int p2), .val (.int p3), .val (.int p4), .val (.int zc), .val (.int (0 : Int32)), .val (.ref a1), .val (.int (1 : Int32)), .val (.ref b2)] [])
    refine Go.to (fun _ => XS.aload X5.here hx rfl (hb hby at_120) rfl rfl) ?_
    show Go p e below _ T5 (mkF m 122 #[.val (.int p1), .val (.int p2), .val (.int p3), .val (.int p4), .val (.int zc), .val (.int (0 : Int32)), .val (.ref a1), .val (.int (1 : Int32)), .val (.ref b2)] [(.ref b2)])
    refine Go.alen X5 hx hZ e5 (O2.av (k := 0) rfl rfl) (hb hby at_122) ?_
    show Go p e below _ T5 (mkF m 123 #[.val (.int p1), .val (.int p2), .val (.int p3), .val (.int p4), .val (.int zc), .val (.int (0 : Int32)), .val (.ref a1), .val (.int (1 : Int32)), .val (.ref b2)] [(.int ((((0 : Int32) :: (0 : Int32) :: (0 : Int32) :: ys)).length.toInt32))])
    refine Go.to (fun _ => XS.iload X5.here hx rfl (hb hby at_123) rfl) ?_
    show Go p e below _ T5 (mkF m 125 #[.val (.int p1), .val (.int p2), .val (.int p3), .val (.int p4), .val (.int zc), .val (.int (0 : Int32)), .val (.ref a1), .val (.int (1 : Int32)), .val (.ref b2)] [(.int zc), (.int ((((0 : Int32) :: (0 : Int32) :: (0 : Int32) :: ys)).length.toInt32))])
    refine Go.to (fun _ => XS.icmpNo X5.here hx rfl (hb hby at_125) rfl (teq (own_len hzc hyl)).2) ?_
    show Go p e below _ T5 (mkF m 128 #[.val (.int p1), .val (.int p2), .val (.int p3), .val (.int p4), .val (.int zc), .val (.int (0 : Int32)), .val (.ref a1), .val (.int (1 : Int32)), .val (.ref b2)] [])
    refine Go.to (fun _ => XS.iconst X5.here hx rfl (hb hby at_128)) ?_
    show Go p e below _ T5 (mkF m 129 #[.val (.int p1), .val (.int p2), .val (.int p3), .val (.int p4), .val (.int zc), .val (.int (0 : Int32)), .val (.ref a1), .val (.int (1 : Int32)), .val (.ref b2)] [(.int (1 : Int32))])
    refine Go.to (fun _ => XS.goto X5.here hx rfl (pc0 := 129) (pc' := 133) rfl (hb hby at_129) (by decide) (by decide)) ?_
    show Go p e below _ T5 (mkF m 133 #[.val (.int p1), .val (.int p2), .val (.int p3), .val (.int p4), .val (.int zc), .val (.int (0 : Int32)), .val (.ref a1), .val (.int (1 : Int32)), .val (.ref b2)] [(.int (1 : Int32))])
    refine Go.to (fun _ => XS.istore X5.here hx rfl (hb hby at_133) rfl (l' := #[.val (.int p1), .val (.int p2), .val (.int p3), .val (.int p4), .val (.int zc), .val (.int (0 : Int32)), .val (.ref a1), .val (.int (1 : Int32)), .val (.ref b2)]) rfl) ?_
    show Go p e below _ T5 (mkF m 135 #[.val (.int p1), .val (.int p2), .val (.int p3), .val (.int p4), .val (.int zc), .val (.int (0 : Int32)), .val (.ref a1), .val (.int (1 : Int32)), .val (.ref b2)] [])
    refine Go.to (fun _ => XS.iload X5.here hx rfl (hb hby at_135) rfl) ?_
    show Go p e below _ T5 (mkF m 137 #[.val (.int p1), .val (.int p2), .val (.int p3), .val (.int p4), .val (.int zc), .val (.int (0 : Int32)), .val (.ref a1), .val (.int (1 : Int32)), .val (.ref b2)] [(.int (0 : Int32))])
    refine Go.to (fun _ => XS.iconst X5.here hx rfl (hb hby at_137)) ?_
    show Go p e below _ T5 (mkF m 138 #[.val (.int p1), .val (.int p2), .val (.int p3), .val (.int p4), .val (.int zc), .val (.int (0 : Int32)), .val (.ref a1), .val (.int (1 : Int32)), .val (.ref b2)] [(.int (1 : Int32)), (.int (0 : Int32))])
    refine Go.to (fun _ => XS.icmpYes X5.here hx rfl (pc0 := 138) (pc' := 161) rfl (hb hby at_138) rfl (tlt (by decide)).1 (by decide) (by decide)) ?_
    show Go p e below _ T5 (mkF m 161 #[.val (.int p1), .val (.int p2), .val (.int p3), .val (.int p4), .val (.int zc), .val (.int (0 : Int32)), .val (.ref a1), .val (.int (1 : Int32)), .val (.ref b2)] [])
    refine Go.to (fun _ => XS.iload X5.here hx rfl (hb hby at_161) rfl) ?_
    show Go p e below _ T5 (mkF m 163 #[.val (.int p1), .val (.int p2), .val (.int p3), .val (.int p4), .val (.int zc), .val (.int (0 : Int32)), .val (.ref a1), .val (.int (1 : Int32)), .val (.ref b2)] [(.int (0 : Int32))])
    refine Go.to (fun _ => XS.iconst X5.here hx rfl (hb hby at_163)) ?_
    show Go p e below _ T5 (mkF m 164 #[.val (.int p1), .val (.int p2), .val (.int p3), .val (.int p4), .val (.int zc), .val (.int (0 : Int32)), .val (.ref a1), .val (.int (1 : Int32)), .val (.ref b2)] [(.int (2 : Int32)), (.int (0 : Int32))])
    refine Go.to (fun _ => XS.icmpYes X5.here hx rfl (pc0 := 164) (pc' := 187) rfl (hb hby at_164) rfl (tlt (by decide)).1 (by decide) (by decide)) ?_
    show Go p e below _ T5 (mkF m 187 #[.val (.int p1), .val (.int p2), .val (.int p3), .val (.int p4), .val (.int zc), .val (.int (0 : Int32)), .val (.ref a1), .val (.int (1 : Int32)), .val (.ref b2)] [])
    refine Go.to (fun _ => XS.iload X5.here hx rfl (hb hby at_187) rfl) ?_
    show Go p e below _ T5 (mkF m 189 #[.val (.int p1), .val (.int p2), .val (.int p3), .val (.int p4), .val (.int zc), .val (.int (0 : Int32)), .val (.ref a1), .val (.int (1 : Int32)), .val (.ref b2)] [(.int (0 : Int32))])
    refine Go.to (fun _ => XS.iconst X5.here hx rfl (hb hby at_189)) ?_
    show Go p e below _ T5 (mkF m 190 #[.val (.int p1), .val (.int p2), .val (.int p3), .val (.int p4), .val (.int zc), .val (.int (0 : Int32)), .val (.ref a1), .val (.int (1 : Int32)), .val (.ref b2)] [(.int (3 : Int32)), (.int (0 : Int32))])
    refine Go.to (fun _ => XS.icmpYes X5.here hx rfl (pc0 := 190) (pc' := 213) rfl (hb hby at_190) rfl (tlt (by decide)).1 (by decide) (by decide)) ?_
    show Go p e below _ T5 (mkF m 213 #[.val (.int p1), .val (.int p2), .val (.int p3), .val (.int p4), .val (.int zc), .val (.int (0 : Int32)), .val (.ref a1), .val (.int (1 : Int32)), .val (.ref b2)] [])
    refine Go.to (fun _ => XS.iload X5.here hx rfl (hb hby at_213) rfl) ?_
    show Go p e below _ T5 (mkF m 215 #[.val (.int p1), .val (.int p2), .val (.int p3), .val (.int p4), .val (.int zc), .val (.int (0 : Int32)), .val (.ref a1), .val (.int (1 : Int32)), .val (.ref b2)] [(.int (0 : Int32))])
    refine Go.to (fun _ => XS.iconst X5.here hx rfl (hb hby at_215)) ?_
    show Go p e below _ T5 (mkF m 216 #[.val (.int p1), .val (.int p2), .val (.int p3), .val (.int p4), .val (.int zc), .val (.int (0 : Int32)), .val (.ref a1), .val (.int (1 : Int32)), .val (.ref b2)] [(.int (3 : Int32)), (.int (0 : Int32))])
    refine Go.to (fun _ => XS.icmpNo X5.here hx rfl (hb hby at_216) rfl (tlt (by decide)).2.1) ?_
    show Go p e below _ T5 (mkF m 219 #[.val (.int p1), .val (.int p2), .val (.int p3), .val (.int p4), .val (.int zc), .val (.int (0 : Int32)), .val (.ref a1), .val (.int (1 : Int32)), .val (.ref b2)] [])
    refine Go.to (fun _ => XS.iload X5.here hx rfl (hb hby at_219) rfl) ?_
    show Go p e below _ T5 (mkF m 221 #[.val (.int p1), .val (.int p2), .val (.int p3), .val (.int p4), .val (.int zc), .val (.int (0 : Int32)), .val (.ref a1), .val (.int (1 : Int32)), .val (.ref b2)] [(.int (1 : Int32))])
    refine Go.to (fun _ => XS.ifNo X5.here hx rfl (hb hby at_221) rfl ((if0 _ _).trans (feq (by decide)).1)) ?_
    show Go p e below _ T5 (mkF m 224 #[.val (.int p1), .val (.int p2), .val (.int p3), .val (.int p4), .val (.int zc), .val (.int (0 : Int32)), .val (.ref a1), .val (.int (1 : Int32)), .val (.ref b2)] [])
    refine Go.to (fun _ => XS.aload X5.here hx rfl (hb hby at_224) rfl rfl) ?_
    show Go p e below _ T5 (mkF m 226 #[.val (.int p1), .val (.int p2), .val (.int p3), .val (.int p4), .val (.int zc), .val (.int (0 : Int32)), .val (.ref a1), .val (.int (1 : Int32)), .val (.ref b2)] [(.ref b2)])
    refine Go.to (fun _ => XS.iload X5.here hx rfl (hb hby at_226) rfl) ?_
    show Go p e below _ T5 (mkF m 228 #[.val (.int p1), .val (.int p2), .val (.int p3), .val (.int p4), .val (.int zc), .val (.int (0 : Int32)), .val (.ref a1), .val (.int (1 : Int32)), .val (.ref b2)] [(.int (0 : Int32)), (.ref b2)])
    refine Go.oload X5 hx hZ e5 O2 (k := 0) rfl rfl rfl (hb hby at_228) ?_
    show Go p e below _ T5 (mkF m 229 #[.val (.int p1), .val (.int p2), .val (.int p3), .val (.int p4), .val (.int zc), .val (.int (0 : Int32)), .val (.ref a1), .val (.int (1 : Int32)), .val (.ref b2)] [(.int (0 : Int32))])
    refine Go.to (fun _ => XS.ifNo X5.here hx rfl (hb hby at_229) rfl ((if0 _ _).trans (teq (by decide)).2)) ?_
    show Go p e below _ T5 (mkF m 232 #[.val (.int p1), .val (.int p2), .val (.int p3), .val (.int p4), .val (.int zc), .val (.int (0 : Int32)), .val (.ref a1), .val (.int (1 : Int32)), .val (.ref b2)] [])
    refine Go.to (fun _ => XS.iconst X5.here hx rfl (hb hby at_232)) ?_
    show Go p e below _ T5 (mkF m 233 #[.val (.int p1), .val (.int p2), .val (.int p3), .val (.int p4), .val (.int zc), .val (.int (0 : Int32)), .val (.ref a1), .val (.int (1 : Int32)), .val (.ref b2)] [(.int (1 : Int32))])
    refine Go.to (fun _ => XS.goto X5.here hx rfl (pc0 := 233) (pc' := 237) rfl (hb hby at_233) (by decide) (by decide)) ?_
    show Go p e below _ T5 (mkF m 237 #[.val (.int p1), .val (.int p2), .val (.int p3), .val (.int p4), .val (.int zc), .val (.int (0 : Int32)), .val (.ref a1), .val (.int (1 : Int32)), .val (.ref b2)] [(.int (1 : Int32))])
    refine Go.to (fun _ => XS.istore X5.here hx rfl (hb hby at_237) rfl (l' := #[.val (.int p1), .val (.int p2), .val (.int p3), .val (.int p4), .val (.int zc), .val (.int (0 : Int32)), .val (.ref a1), .val (.int (1 : Int32)), .val (.ref b2)]) rfl) ?_
    show Go p e below _ T5 (mkF m 239 #[.val (.int p1), .val (.int p2), .val (.int p3), .val (.int p4), .val (.int zc), .val (.int (0 : Int32)), .val (.ref a1), .val (.int (1 : Int32)), .val (.ref b2)] [])
    refine Go.to (fun _ => XS.iload X5.here hx rfl (hb hby at_239) rfl) ?_
    show Go p e below _ T5 (mkF m 241 #[.val (.int p1), .val (.int p2), .val (.int p3), .val (.int p4), .val (.int zc), .val (.int (0 : Int32)), .val (.ref a1), .val (.int (1 : Int32)), .val (.ref b2)] [(.int (0 : Int32))])
    refine Go.to (fun _ => XS.iconst X5.here hx rfl (hb hby at_241)) ?_
    show Go p e below _ T5 (mkF m 242 #[.val (.int p1), .val (.int p2), .val (.int p3), .val (.int p4), .val (.int zc), .val (.int (0 : Int32)), .val (.ref a1), .val (.int (1 : Int32)), .val (.ref b2)] [(.int (1 : Int32)), (.int (0 : Int32))])
    refine Go.to (fun _ => XS.icmpYes X5.here hx rfl (pc0 := 242) (pc' := 266) rfl (hb hby at_242) rfl (tlt (by decide)).1 (by decide) (by decide)) ?_
    show Go p e below _ T5 (mkF m 266 #[.val (.int p1), .val (.int p2), .val (.int p3), .val (.int p4), .val (.int zc), .val (.int (0 : Int32)), .val (.ref a1), .val (.int (1 : Int32)), .val (.ref b2)] [])
    refine Go.to (fun _ => XS.iload X5.here hx rfl (hb hby at_266) rfl) ?_
    show Go p e below _ T5 (mkF m 268 #[.val (.int p1), .val (.int p2), .val (.int p3), .val (.int p4), .val (.int zc), .val (.int (0 : Int32)), .val (.ref a1), .val (.int (1 : Int32)), .val (.ref b2)] [(.int (0 : Int32))])
    refine Go.to (fun _ => XS.iconst X5.here hx rfl (hb hby at_268)) ?_
    show Go p e below _ T5 (mkF m 269 #[.val (.int p1), .val (.int p2), .val (.int p3), .val (.int p4), .val (.int zc), .val (.int (0 : Int32)), .val (.ref a1), .val (.int (1 : Int32)), .val (.ref b2)] [(.int (2 : Int32)), (.int (0 : Int32))])
    refine Go.to (fun _ => XS.icmpYes X5.here hx rfl (pc0 := 269) (pc' := 293) rfl (hb hby at_269) rfl (tlt (by decide)).1 (by decide) (by decide)) ?_
    show Go p e below _ T5 (mkF m 293 #[.val (.int p1), .val (.int p2), .val (.int p3), .val (.int p4), .val (.int zc), .val (.int (0 : Int32)), .val (.ref a1), .val (.int (1 : Int32)), .val (.ref b2)] [])
    refine Go.to (fun _ => XS.iload X5.here hx rfl (hb hby at_293) rfl) ?_
    show Go p e below _ T5 (mkF m 295 #[.val (.int p1), .val (.int p2), .val (.int p3), .val (.int p4), .val (.int zc), .val (.int (0 : Int32)), .val (.ref a1), .val (.int (1 : Int32)), .val (.ref b2)] [(.int (0 : Int32))])
    refine Go.to (fun _ => XS.iconst X5.here hx rfl (hb hby at_295)) ?_
    show Go p e below _ T5 (mkF m 296 #[.val (.int p1), .val (.int p2), .val (.int p3), .val (.int p4), .val (.int zc), .val (.int (0 : Int32)), .val (.ref a1), .val (.int (1 : Int32)), .val (.ref b2)] [(.int (3 : Int32)), (.int (0 : Int32))])
    refine Go.to (fun _ => XS.icmpYes X5.here hx rfl (pc0 := 296) (pc' := 320) rfl (hb hby at_296) rfl (tlt (by decide)).1 (by decide) (by decide)) ?_
    show Go p e below _ T5 (mkF m 320 #[.val (.int p1), .val (.int p2), .val (.int p3), .val (.int p4), .val (.int zc), .val (.int (0 : Int32)), .val (.ref a1), .val (.int (1 : Int32)), .val (.ref b2)] [])
    refine Go.to (fun _ => XS.iload X5.here hx rfl (hb hby at_320) rfl) ?_
    show Go p e below _ T5 (mkF m 322 #[.val (.int p1), .val (.int p2), .val (.int p3), .val (.int p4), .val (.int zc), .val (.int (0 : Int32)), .val (.ref a1), .val (.int (1 : Int32)), .val (.ref b2)] [(.int (1 : Int32))])
    refine Go.to (fun _ => XS.ifNo X5.here hx rfl (hb hby at_322) rfl ((if0 _ _).trans (feq (by decide)).1)) ?_
    show Go p e below _ T5 (mkF m 325 #[.val (.int p1), .val (.int p2), .val (.int p3), .val (.int p4), .val (.int zc), .val (.int (0 : Int32)), .val (.ref a1), .val (.int (1 : Int32)), .val (.ref b2)] [])
    refine Go.to (fun _ => XS.aload X5.here hx rfl (hb hby at_325) rfl rfl) ?_
    show Go p e below _ T5 (mkF m 327 #[.val (.int p1), .val (.int p2), .val (.int p3), .val (.int p4), .val (.int zc), .val (.int (0 : Int32)), .val (.ref a1), .val (.int (1 : Int32)), .val (.ref b2)] [(.ref a1)])
    refine Go.callV (y := (⟨"com/example/eventually/eventually/solver/StateQueue", "isEmpty", "()Z"⟩ : MethodName)) X5 hx hZ hown (hw _ (List.mem_of_getElem? (i := 19) rfl)) (hw _ (List.mem_of_getElem? (i := 20) rfl)) (hw _ (List.mem_of_getElem? (i := 22) rfl)) (hw _ (List.mem_of_getElem? (i := 21) rfl)) (hw _ (List.mem_of_getElem? (i := 2) rfl)) (hw _ (List.mem_of_getElem? (i := 23) rfl)) (by decide) (rm4 l Z a0 hw [] a1 T2.heap n0 b2 (0 : Int32) (0 : Int32) ((0 : Int32) :: (0 : Int32) :: (0 : Int32) :: ys) O2) e5 O2.exa (by rw [hml]; rfl) (pd_2) rfl (argsL := []) (rest := []) rfl rfl (hb hby at_327) (by decide) (Nat.le_of_ble_eq_true rfl) (by decide) (by decide) ?_
    rintro T6 _ L6 X6 ⟨rfl, e6, rfl⟩
    simp only [List.append_nil] at X6
    show Go p e below _ T6 (mkF m 330 #[.val (.int p1), .val (.int p2), .val (.int p3), .val (.int p4), .val (.int zc), .val (.int (0 : Int32)), .val (.ref a1), .val (.int (1 : Int32)), .val (.ref b2)] [(.int (1 : Int32))])
    refine Go.to (fun _ => XS.ifNo X6.here hx rfl (hb hby at_330) rfl ((if0 _ _).trans (feq (by decide)).1)) ?_
    show Go p e below _ T6 (mkF m 333 #[.val (.int p1), .val (.int p2), .val (.int p3), .val (.int p4), .val (.int zc), .val (.int (0 : Int32)), .val (.ref a1), .val (.int (1 : Int32)), .val (.ref b2)] [])
    refine Go.to (fun _ => XS.iconst X6.here hx rfl (hb hby at_333)) ?_
    show Go p e below _ T6 (mkF m 334 #[.val (.int p1), .val (.int p2), .val (.int p3), .val (.int p4), .val (.int zc), .val (.int (0 : Int32)), .val (.ref a1), .val (.int (1 : Int32)), .val (.ref b2)] [(.int (1 : Int32))])
    refine Go.to (fun _ => XS.goto X6.here hx rfl (pc0 := 334) (pc' := 338) rfl (hb hby at_334) (by decide) (by decide)) ?_
    show Go p e below _ T6 (mkF m 338 #[.val (.int p1), .val (.int p2), .val (.int p3), .val (.int p4), .val (.int zc), .val (.int (0 : Int32)), .val (.ref a1), .val (.int (1 : Int32)), .val (.ref b2)] [(.int (1 : Int32))])
    refine Go.to (fun _ => XS.istore X6.here hx rfl (hb hby at_338) rfl (l' := #[.val (.int p1), .val (.int p2), .val (.int p3), .val (.int p4), .val (.int zc), .val (.int (0 : Int32)), .val (.ref a1), .val (.int (1 : Int32)), .val (.ref b2)]) rfl) ?_
    show Go p e below _ T6 (mkF m 340 #[.val (.int p1), .val (.int p2), .val (.int p3), .val (.int p4), .val (.int zc), .val (.int (0 : Int32)), .val (.ref a1), .val (.int (1 : Int32)), .val (.ref b2)] [])
    refine Go.to (fun _ => XS.iload X6.here hx rfl (hb hby at_340) rfl) ?_
    show Go p e below _ T6 (mkF m 342 #[.val (.int p1), .val (.int p2), .val (.int p3), .val (.int p4), .val (.int zc), .val (.int (0 : Int32)), .val (.ref a1), .val (.int (1 : Int32)), .val (.ref b2)] [(.int (1 : Int32))])
    rw [hK]
    exact Go.retZ X6 hx hlk hret (by decide) (hb hby at_342) ⟨rfl, N2⟩ (by decide) (by decide)
  · show Go p e below _ T2 (mkF m 25 #[.val (.int p1), .val (.int p2), .val (.int p3), .val (.int p4), .val (.int zc), .val (.int (1 : Int32)), .val (.ref a1), .unset, .unset] [])
    refine Go.to (fun _ => XS.iload X2.here hx rfl (hb hby at_25) rfl) ?_
    show Go p e below _ T2 (mkF m 27 #[.val (.int p1), .val (.int p2), .val (.int p3), .val (.int p4), .val (.int zc), .val (.int (1 : Int32)), .val (.ref a1), .unset, .unset] [(.int (1 : Int32))])
    refine Go.to (fun _ => XS.iconst X2.here hx rfl (hb hby at_27)) ?_
    show Go p e below _ T2 (mkF m 28 #[.val (.int p1), .val (.int p2), .val (.int p3), .val (.int p4), .val (.int zc), .val (.int (1 : Int32)), .val (.ref a1), .unset, .unset] [(.int (1 : Int32)), (.int (1 : Int32))])
    refine Go.to (fun _ => XS.icmpNo X2.here hx rfl (hb hby at_28) rfl (flt (by decide)).1) ?_
    show Go p e below _ T2 (mkF m 31 #[.val (.int p1), .val (.int p2), .val (.int p3), .val (.int p4), .val (.int zc), .val (.int (1 : Int32)), .val (.ref a1), .unset, .unset] [])
    refine Go.to (fun _ => XS.aload X2.here hx rfl (hb hby at_31) rfl rfl) ?_
    show Go p e below _ T2 (mkF m 33 #[.val (.int p1), .val (.int p2), .val (.int p3), .val (.int p4), .val (.int zc), .val (.int (1 : Int32)), .val (.ref a1), .unset, .unset] [(.ref a1)])
    refine Go.to (fun _ => XS.iloadN X2.here hx rfl (hb hby at_33) rfl) ?_
    show Go p e below _ T2 (mkF m 34 #[.val (.int p1), .val (.int p2), .val (.int p3), .val (.int p4), .val (.int zc), .val (.int (1 : Int32)), .val (.ref a1), .unset, .unset] [(.int p1), (.ref a1)])
    refine Go.callV (y := (⟨"com/example/eventually/eventually/solver/StateQueue", "add", "(I)V"⟩ : MethodName)) X2 hx hZ hown (hw _ (List.mem_of_getElem? (i := 31) rfl)) (hw _ (List.mem_of_getElem? (i := 32) rfl)) (hw _ (List.mem_of_getElem? (i := 34) rfl)) (hw _ (List.mem_of_getElem? (i := 33) rfl)) (hw _ (List.mem_of_getElem? (i := 2) rfl)) (hw _ (List.mem_of_getElem? (i := 35) rfl)) (by decide) (rm6 l Z a0 hw [] a1 p1 T2.heap n0 b2 (0 : Int32) (0 : Int32) ((0 : Int32) :: (0 : Int32) :: (0 : Int32) :: ys) O2 (0 : Int32) rfl) rfl O2.exa (by rw [hml]; rfl) (pd_0) rfl (argsL := [(.int p1)]) (rest := []) rfl rfl (hb hby at_34) (by decide) (Nat.le_of_ble_eq_true rfl) (by decide) (by decide) ?_
    rintro T7 _ L7 X7 ⟨rfl, N7, O7⟩
    have O7 : Obj Z n0 T7.heap T7.heap a1 "com/example/eventually/eventually/solver/StateQueue" nFq [.ref b2, .int (0 : Int32), .int (1 : Int32)] [b2] [(p1 :: (0 : Int32) :: (0 : Int32) :: ys)] := by
      have q1 : (0 : Int32) + (1 : Int32) = (1 : Int32) := by decide
      have q2 : wrL ((0 : Int32) :: (0 : Int32) :: (0 : Int32) :: ys) (0 : Int32) p1 = (p1 :: (0 : Int32) :: (0 : Int32) :: ys) := rfl
      have O7 := O7.anew
      rw [q1, q2] at O7; exact O7
    have N7 := Fr.app N2 N7
    show Go p e below _ T7 (mkF m 37 #[.val (.int p1), .val (.int p2), .val (.int p3), .val (.int p4), .val (.int zc), .val (.int (1 : Int32)), .val (.ref a1), .unset, .unset] [])
    refine Go.to (fun _ => XS.iload X7.here hx rfl (hb hby at_37) rfl) ?_
    show Go p e below _ T7 (mkF m 39 #[.val (.int p1), .val (.int p2), .val (.int p3), .val (.int p4), .val (.int zc), .val (.int (1 : Int32)), .val (.ref a1), .unset, .unset] [(.int (1 : Int32))])
    refine Go.to (fun _ => XS.iconst X7.here hx rfl (hb hby at_39)) ?_
    show Go p e below _ T7 (mkF m 40 #[.val (.int p1), .val (.int p2), .val (.int p3), .val (.int p4), .val (.int zc), .val (.int (1 : Int32)), .val (.ref a1), .unset, .unset] [(.int (2 : Int32)), (.int (1 : Int32))])
    refine Go.to (fun _ => XS.icmpYes X7.here hx rfl (pc0 := 40) (pc' := 49) rfl (hb hby at_40) rfl (tlt (by decide)).1 (by decide) (by decide)) ?_
    show Go p e below _ T7 (mkF m 49 #[.val (.int p1), .val (.int p2), .val (.int p3), .val (.int p4), .val (.int zc), .val (.int (1 : Int32)), .val (.ref a1), .unset, .unset] [])
    refine Go.to (fun _ => XS.iload X7.here hx rfl (hb hby at_49) rfl) ?_
    show Go p e below _ T7 (mkF m 51 #[.val (.int p1), .val (.int p2), .val (.int p3), .val (.int p4), .val (.int zc), .val (.int (1 : Int32)), .val (.ref a1), .unset, .unset] [(.int (1 : Int32))])
    refine Go.to (fun _ => XS.iconst X7.here hx rfl (hb hby at_51)) ?_
    show Go p e below _ T7 (mkF m 52 #[.val (.int p1), .val (.int p2), .val (.int p3), .val (.int p4), .val (.int zc), .val (.int (1 : Int32)), .val (.ref a1), .unset, .unset] [(.int (3 : Int32)), (.int (1 : Int32))])
    refine Go.to (fun _ => XS.icmpYes X7.here hx rfl (pc0 := 52) (pc' := 61) rfl (hb hby at_52) rfl (tlt (by decide)).1 (by decide) (by decide)) ?_
    show Go p e below _ T7 (mkF m 61 #[.val (.int p1), .val (.int p2), .val (.int p3), .val (.int p4), .val (.int zc), .val (.int (1 : Int32)), .val (.ref a1), .unset, .unset] [])
    refine Go.to (fun _ => XS.aload X7.here hx rfl (hb hby at_61) rfl rfl) ?_
    show Go p e below _ T7 (mkF m 63 #[.val (.int p1), .val (.int p2), .val (.int p3), .val (.int p4), .val (.int zc), .val (.int (1 : Int32)), .val (.ref a1), .unset, .unset] [(.ref a1)])
    refine Go.callV (y := (⟨"com/example/eventually/eventually/solver/StateQueue", "size", "()I"⟩ : MethodName)) X7 hx hZ hown (hw _ (List.mem_of_getElem? (i := 12) rfl)) (hw _ (List.mem_of_getElem? (i := 13) rfl)) (hw _ (List.mem_of_getElem? (i := 15) rfl)) (hw _ (List.mem_of_getElem? (i := 14) rfl)) (hw _ (List.mem_of_getElem? (i := 2) rfl)) (hw _ (List.mem_of_getElem? (i := 16) rfl)) (by decide) (rm3 l Z a0 hw [] a1 T7.heap n0 b2 (0 : Int32) (1 : Int32) (p1 :: (0 : Int32) :: (0 : Int32) :: ys) O7) rfl O7.exa (by rw [hml]; rfl) (pd_1) rfl (argsL := []) (rest := []) rfl rfl (hb hby at_63) (by decide) (Nat.le_of_ble_eq_true rfl) (by decide) (by decide) ?_
    rintro T8 _ L8 X8 ⟨rfl, e8, rfl⟩
    simp only [List.append_nil] at X8
    show Go p e below _ T8 (mkF m 66 #[.val (.int p1), .val (.int p2), .val (.int p3), .val (.int p4), .val (.int zc), .val (.int (1 : Int32)), .val (.ref a1), .unset, .unset] [(.int (1 : Int32))])
    refine Go.to (fun _ => XS.iload X8.here hx rfl (hb hby at_66) rfl) ?_
    show Go p e below _ T8 (mkF m 68 #[.val (.int p1), .val (.int p2), .val (.int p3), .val (.int p4), .val (.int zc), .val (.int (1 : Int32)), .val (.ref a1), .unset, .unset] [(.int (1 : Int32)), (.int (1 : Int32))])
    refine Go.to (fun _ => XS.icmpNo X8.here hx rfl (hb hby at_68) rfl (teq (by decide)).2) ?_
    show Go p e below _ T8 (mkF m 71 #[.val (.int p1), .val (.int p2), .val (.int p3), .val (.int p4), .val (.int zc), .val (.int (1 : Int32)), .val (.ref a1), .unset, .unset] [])
    refine Go.to (fun _ => XS.iconst X8.here hx rfl (hb hby at_71)) ?_
    show Go p e below _ T8 (mkF m 72 #[.val (.int p1), .val (.int p2), .val (.int p3), .val (.int p4), .val (.int zc), .val (.int (1 : Int32)), .val (.ref a1), .unset, .unset] [(.int (1 : Int32))])
    refine Go.to (fun _ => XS.goto X8.here hx rfl (pc0 := 72) (pc' := 76) rfl (hb hby at_72) (by decide) (by decide)) ?_
    show Go p e below _ T8 (mkF m 76 #[.val (.int p1), .val (.int p2), .val (.int p3), .val (.int p4), .val (.int zc), .val (.int (1 : Int32)), .val (.ref a1), .unset, .unset] [(.int (1 : Int32))])
    refine Go.to (fun _ => XS.istore X8.here hx rfl (hb hby at_76) rfl (l' := #[.val (.int p1), .val (.int p2), .val (.int p3), .val (.int p4), .val (.int zc), .val (.int (1 : Int32)), .val (.ref a1), .val (.int (1 : Int32)), .unset]) rfl) ?_
    show Go p e below _ T8 (mkF m 78 #[.val (.int p1), .val (.int p2), .val (.int p3), .val (.int p4), .val (.int zc), .val (.int (1 : Int32)), .val (.ref a1), .val (.int (1 : Int32)), .unset] [])
    refine Go.to (fun _ => XS.iload X8.here hx rfl (hb hby at_78) rfl) ?_
    show Go p e below _ T8 (mkF m 80 #[.val (.int p1), .val (.int p2), .val (.int p3), .val (.int p4), .val (.int zc), .val (.int (1 : Int32)), .val (.ref a1), .val (.int (1 : Int32)), .unset] [(.int (1 : Int32))])
    refine Go.to (fun _ => XS.ifNo X8.here hx rfl (hb hby at_80) rfl ((if0 _ _).trans (feq (by decide)).1)) ?_
    show Go p e below _ T8 (mkF m 83 #[.val (.int p1), .val (.int p2), .val (.int p3), .val (.int p4), .val (.int zc), .val (.int (1 : Int32)), .val (.ref a1), .val (.int (1 : Int32)), .unset] [])
    refine Go.to (fun _ => XS.aload X8.here hx rfl (hb hby at_83) rfl rfl) ?_
    show Go p e below _ T8 (mkF m 85 #[.val (.int p1), .val (.int p2), .val (.int p3), .val (.int p4), .val (.int zc), .val (.int (1 : Int32)), .val (.ref a1), .val (.int (1 : Int32)), .unset] [(.ref a1)])
    refine Go.callV (y := (⟨"com/example/eventually/eventually/solver/StateQueue", "isEmpty", "()Z"⟩ : MethodName)) X8 hx hZ hown (hw _ (List.mem_of_getElem? (i := 19) rfl)) (hw _ (List.mem_of_getElem? (i := 20) rfl)) (hw _ (List.mem_of_getElem? (i := 22) rfl)) (hw _ (List.mem_of_getElem? (i := 21) rfl)) (hw _ (List.mem_of_getElem? (i := 2) rfl)) (hw _ (List.mem_of_getElem? (i := 23) rfl)) (by decide) (rm4 l Z a0 hw [] a1 T7.heap n0 b2 (0 : Int32) (1 : Int32) (p1 :: (0 : Int32) :: (0 : Int32) :: ys) O7) e8 O7.exa (by rw [hml]; rfl) (pd_2) rfl (argsL := []) (rest := []) rfl rfl (hb hby at_85) (by decide) (Nat.le_of_ble_eq_true rfl) (by decide) (by decide) ?_
    rintro T9 _ L9 X9 ⟨rfl, e9, rfl⟩
    simp only [List.append_nil] at X9
    show Go p e below _ T9 (mkF m 88 #[.val (.int p1), .val (.int p2), .val (.int p3), .val (.int p4), .val (.int zc), .val (.int (1 : Int32)), .val (.ref a1), .val (.int (1 : Int32)), .unset] [(.int (0 : Int32))])
    refine Go.to (fun _ => XS.iload X9.here hx rfl (hb hby at_88) rfl) ?_
    show Go p e below _ T9 (mkF m 90 #[.val (.int p1), .val (.int p2), .val (.int p3), .val (.int p4), .val (.int zc), .val (.int (1 : Int32)), .val (.ref a1), .val (.int (1 : Int32)), .unset] [(.int (1 : Int32)), (.int (0 : Int32))])
    refine Go.to (fun _ => XS.ifYes X9.here hx rfl (pc0 := 90) (pc' := 97) rfl (hb hby at_90) rfl ((if0 _ _).trans (feq (by decide)).2) (by decide) (by decide)) ?_
    show Go p e below _ T9 (mkF m 97 #[.val (.int p1), .val (.int p2), .val (.int p3), .val (.int p4), .val (.int zc), .val (.int (1 : Int32)), .val (.ref a1), .val (.int (1 : Int32)), .unset] [(.int (0 : Int32))])
    refine Go.to (fun _ => XS.iconst X9.here hx rfl (hb hby at_97)) ?_
    show Go p e below _ T9 (mkF m 98 #[.val (.int p1), .val (.int p2), .val (.int p3), .val (.int p4), .val (.int zc), .val (.int (1 : Int32)), .val (.ref a1), .val (.int (1 : Int32)), .unset] [(.int (0 : Int32)), (.int (0 : Int32))])
    refine Go.to (fun _ => XS.icmpNo X9.here hx rfl (hb hby at_98) rfl (teq (by decide)).2) ?_
    show Go p e below _ T9 (mkF m 101 #[.val (.int p1), .val (.int p2), .val (.int p3), .val (.int p4), .val (.int zc), .val (.int (1 : Int32)), .val (.ref a1), .val (.int (1 : Int32)), .unset] [])
    refine Go.to (fun _ => XS.iconst X9.here hx rfl (hb hby at_101)) ?_
    show Go p e below _ T9 (mkF m 102 #[.val (.int p1), .val (.int p2), .val (.int p3), .val (.int p4), .val (.int zc), .val (.int (1 : Int32)), .val (.ref a1), .val (.int (1 : Int32)), .unset] [(.int (1 : Int32))])
    refine Go.to (fun _ => XS.goto X9.here hx rfl (pc0 := 102) (pc' := 106) rfl (hb hby at_102) (by decide) (by decide)) ?_
    show Go p e below _ T9 (mkF m 106 #[.val (.int p1), .val (.int p2), .val (.int p3), .val (.int p4), .val (.int zc), .val (.int (1 : Int32)), .val (.ref a1), .val (.int (1 : Int32)), .unset] [(.int (1 : Int32))])
    refine Go.to (fun _ => XS.istore X9.here hx rfl (hb hby at_106) rfl (l' := #[.val (.int p1), .val (.int p2), .val (.int p3), .val (.int p4), .val (.int zc), .val (.int (1 : Int32)), .val (.ref a1), .val (.int (1 : Int32)), .unset]) rfl) ?_
    show Go p e below _ T9 (mkF m 108 #[.val (.int p1), .val (.int p2), .val (.int p3), .val (.int p4), .val (.int zc), .val (.int (1 : Int32)), .val (.ref a1), .val (.int (1 : Int32)), .unset] [])
    refine Go.to (fun _ => XS.aload X9.here hx rfl (hb hby at_108) rfl rfl) ?_
    show Go p e below _ T9 (mkF m 110 #[.val (.int p1), .val (.int p2), .val (.int p3), .val (.int p4), .val (.int zc), .val (.int (1 : Int32)), .val (.ref a1), .val (.int (1 : Int32)), .unset] [(.ref a1)])
    refine Go.callV (y := (⟨"com/example/eventually/eventually/solver/StateQueue", "added", "()[I"⟩ : MethodName)) X9 hx hZ hown (hw _ (List.mem_of_getElem? (i := 26) rfl)) (hw _ (List.mem_of_getElem? (i := 27) rfl)) (hw _ (List.mem_of_getElem? (i := 29) rfl)) (hw _ (List.mem_of_getElem? (i := 28) rfl)) (hw _ (List.mem_of_getElem? (i := 2) rfl)) (hw _ (List.mem_of_getElem? (i := 30) rfl)) (by decide) (rm5 l Z a0 hw [] a1 T7.heap n0 b2 (0 : Int32) (1 : Int32) (p1 :: (0 : Int32) :: (0 : Int32) :: ys) O7) e9 O7.exa (by rw [hml]; rfl) (pd_3) rfl (argsL := []) (rest := []) rfl rfl (hb hby at_110) (by decide) (Nat.le_of_ble_eq_true rfl) (by decide) (by decide) ?_
    rintro T10 _ L10 X10 ⟨rfl, e10, rfl⟩
    simp only [List.append_nil] at X10
    show Go p e below _ T10 (mkF m 113 #[.val (.int p1), .val (.int p2), .val (.int p3), .val (.int p4), .val (.int zc), .val (.int (1 : Int32)), .val (.ref a1), .val (.int (1 : Int32)), .unset] [(.ref b2)])
    refine Go.to (fun _ => XS.astore X10.here hx rfl (hb hby at_113) rfl rfl (l' := #[.val (.int p1), .val (.int p2), .val (.int p3), .val (.int p4), .val (.int zc), .val (.int (1 : Int32)), .val (.ref a1), .val (.int (1 : Int32)), .val (.ref b2)]) rfl) ?_
    show Go p e below _ T10 (mkF m 115 #[.val (.int p1), .val (.int p2), .val (.int p3), .val (.int p4), .val (.int zc), .val (.int (1 : Int32)), .val (.ref a1), .val (.int (1 : Int32)), .val (.ref b2)] [])
    refine Go.to (fun _ => XS.iload X10.here hx rfl (hb hby at_115) rfl) ?_
    show Go p e below _ T10 (mkF m 117 #[.val (.int p1), .val (.int p2), .val (.int p3), .val (.int p4), .val (.int zc), .val (.int (1 : Int32)), .val (.ref a1), .val (.int (1 : Int32)), .val (.ref b2)] [(.int (1 : Int32))])
    refine Go.to (fun _ => XS.ifNo X10.here hx rfl (hb hby at_117) rfl ((if0 _ _).trans (feq (by decide)).1)) ?_
    show Go p e below _ T10 (mkF m 120 #[.val (.int p1), .val (.int p2), .val (.int p3), .val (.int p4), .val (.int zc), .val (.int (1 : Int32)), .val (.ref a1), .val (.int (1 : Int32)), .val (.ref b2)] [])
    refine Go.to (fun _ => XS.aload X10.here hx rfl (hb hby at_120) rfl rfl) ?_
    show Go p e below _ T10 (mkF m 122 #[.val (.int p1), .val (.int p2), .val (.int p3), .val (.int p4), .val (.int zc), .val (.int (1 : Int32)), .val (.ref a1), .val (.int (1 : Int32)), .val (.ref b2)] [(.ref b2)])
    refine Go.alen X10 hx hZ e10 (O7.av (k := 0) rfl rfl) (hb hby at_122) ?_
    show Go p e below _ T10 (mkF m 123 #[.val (.int p1), .val (.int p2), .val (.int p3), .val (.int p4), .val (.int zc), .val (.int (1 : Int32)), .val (.ref a1), .val (.int (1 : Int32)), .val (.ref b2)] [(.int (((p1 :: (0 : Int32) :: (0 : Int32) :: ys)).length.toInt32))])
    refine Go.to (fun _ => XS.iload X10.here hx rfl (hb hby at_123) rfl) ?_
    show Go p e below _ T10 (mkF m 125 #[.val (.int p1), .val (.int p2), .val (.int p3), .val (.int p4), .val (.int zc), .val (.int (1 : Int32)), .val (.ref a1), .val (.int (1 : Int32)), .val (.ref b2)] [(.int zc), (.int (((p1 :: (0 : Int32) :: (0 : Int32) :: ys)).length.toInt32))])
    refine Go.to (fun _ => XS.icmpNo X10.here hx rfl (hb hby at_125) rfl (teq (own_len hzc hyl)).2) ?_
    show Go p e below _ T10 (mkF m 128 #[.val (.int p1), .val (.int p2), .val (.int p3), .val (.int p4), .val (.int zc), .val (.int (1 : Int32)), .val (.ref a1), .val (.int (1 : Int32)), .val (.ref b2)] [])
    refine Go.to (fun _ => XS.iconst X10.here hx rfl (hb hby at_128)) ?_
    show Go p e below _ T10 (mkF m 129 #[.val (.int p1), .val (.int p2), .val (.int p3), .val (.int p4), .val (.int zc), .val (.int (1 : Int32)), .val (.ref a1), .val (.int (1 : Int32)), .val (.ref b2)] [(.int (1 : Int32))])
    refine Go.to (fun _ => XS.goto X10.here hx rfl (pc0 := 129) (pc' := 133) rfl (hb hby at_129) (by decide) (by decide)) ?_
    show Go p e below _ T10 (mkF m 133 #[.val (.int p1), .val (.int p2), .val (.int p3), .val (.int p4), .val (.int zc), .val (.int (1 : Int32)), .val (.ref a1), .val (.int (1 : Int32)), .val (.ref b2)] [(.int (1 : Int32))])
    refine Go.to (fun _ => XS.istore X10.here hx rfl (hb hby at_133) rfl (l' := #[.val (.int p1), .val (.int p2), .val (.int p3), .val (.int p4), .val (.int zc), .val (.int (1 : Int32)), .val (.ref a1), .val (.int (1 : Int32)), .val (.ref b2)]) rfl) ?_
    show Go p e below _ T10 (mkF m 135 #[.val (.int p1), .val (.int p2), .val (.int p3), .val (.int p4), .val (.int zc), .val (.int (1 : Int32)), .val (.ref a1), .val (.int (1 : Int32)), .val (.ref b2)] [])
    refine Go.to (fun _ => XS.iload X10.here hx rfl (hb hby at_135) rfl) ?_
    show Go p e below _ T10 (mkF m 137 #[.val (.int p1), .val (.int p2), .val (.int p3), .val (.int p4), .val (.int zc), .val (.int (1 : Int32)), .val (.ref a1), .val (.int (1 : Int32)), .val (.ref b2)] [(.int (1 : Int32))])
    refine Go.to (fun _ => XS.iconst X10.here hx rfl (hb hby at_137)) ?_
    show Go p e below _ T10 (mkF m 138 #[.val (.int p1), .val (.int p2), .val (.int p3), .val (.int p4), .val (.int zc), .val (.int (1 : Int32)), .val (.ref a1), .val (.int (1 : Int32)), .val (.ref b2)] [(.int (1 : Int32)), (.int (1 : Int32))])
    refine Go.to (fun _ => XS.icmpNo X10.here hx rfl (hb hby at_138) rfl (flt (by decide)).1) ?_
    show Go p e below _ T10 (mkF m 141 #[.val (.int p1), .val (.int p2), .val (.int p3), .val (.int p4), .val (.int zc), .val (.int (1 : Int32)), .val (.ref a1), .val (.int (1 : Int32)), .val (.ref b2)] [])
    refine Go.to (fun _ => XS.iload X10.here hx rfl (hb hby at_141) rfl) ?_
    show Go p e below _ T10 (mkF m 143 #[.val (.int p1), .val (.int p2), .val (.int p3), .val (.int p4), .val (.int zc), .val (.int (1 : Int32)), .val (.ref a1), .val (.int (1 : Int32)), .val (.ref b2)] [(.int (1 : Int32))])
    refine Go.to (fun _ => XS.ifNo X10.here hx rfl (hb hby at_143) rfl ((if0 _ _).trans (feq (by decide)).1)) ?_
    show Go p e below _ T10 (mkF m 146 #[.val (.int p1), .val (.int p2), .val (.int p3), .val (.int p4), .val (.int zc), .val (.int (1 : Int32)), .val (.ref a1), .val (.int (1 : Int32)), .val (.ref b2)] [])
    refine Go.to (fun _ => XS.aload X10.here hx rfl (hb hby at_146) rfl rfl) ?_
    show Go p e below _ T10 (mkF m 148 #[.val (.int p1), .val (.int p2), .val (.int p3), .val (.int p4), .val (.int zc), .val (.int (1 : Int32)), .val (.ref a1), .val (.int (1 : Int32)), .val (.ref b2)] [(.ref b2)])
    refine Go.to (fun _ => XS.iconst X10.here hx rfl (hb hby at_148)) ?_
    show Go p e below _ T10 (mkF m 149 #[.val (.int p1), .val (.int p2), .val (.int p3), .val (.int p4), .val (.int zc), .val (.int (1 : Int32)), .val (.ref a1), .val (.int (1 : Int32)), .val (.ref b2)] [(.int (0 : Int32)), (.ref b2)])
    refine Go.oload X10 hx hZ e10 O7 (k := 0) rfl rfl rfl (hb hby at_149) ?_
    show Go p e below _ T10 (mkF m 150 #[.val (.int p1), .val (.int p2), .val (.int p3), .val (.int p4), .val (.int zc), .val (.int (1 : Int32)), .val (.ref a1), .val (.int (1 : Int32)), .val (.ref b2)] [(.int p1)])
    refine Go.to (fun _ => XS.iloadN X10.here hx rfl (hb hby at_150) rfl) ?_
    show Go p e below _ T10 (mkF m 151 #[.val (.int p1), .val (.int p2), .val (.int p3), .val (.int p4), .val (.int zc), .val (.int (1 : Int32)), .val (.ref a1), .val (.int (1 : Int32)), .val (.ref b2)] [(.int p1), (.int p1)])
    refine Go.to (fun _ => XS.icmpNo X10.here hx rfl (hb hby at_151) rfl (teq rfl).2) ?_
    show Go p e below _ T10 (mkF m 154 #[.val (.int p1), .val (.int p2), .val (.int p3), .val (.int p4), .val (.int zc), .val (.int (1 : Int32)), .val (.ref a1), .val (.int (1 : Int32)), .val (.ref b2)] [])
    refine Go.to (fun _ => XS.iconst X10.here hx rfl (hb hby at_154)) ?_
    show Go p e below _ T10 (mkF m 155 #[.val (.int p1), .val (.int p2), .val (.int p3), .val (.int p4), .val (.int zc), .val (.int (1 : Int32)), .val (.ref a1), .val (.int (1 : Int32)), .val (.ref b2)] [(.int (1 : Int32))])
    refine Go.to (fun _ => XS.goto X10.here hx rfl (pc0 := 155) (pc' := 159) rfl (hb hby at_155) (by decide) (by decide)) ?_
    show Go p e below _ T10 (mkF m 159 #[.val (.int p1), .val (.int p2), .val (.int p3), .val (.int p4), .val (.int zc), .val (.int (1 : Int32)), .val (.ref a1), .val (.int (1 : Int32)), .val (.ref b2)] [(.int (1 : Int32))])
    refine Go.to (fun _ => XS.istore X10.here hx rfl (hb hby at_159) rfl (l' := #[.val (.int p1), .val (.int p2), .val (.int p3), .val (.int p4), .val (.int zc), .val (.int (1 : Int32)), .val (.ref a1), .val (.int (1 : Int32)), .val (.ref b2)]) rfl) ?_
    show Go p e below _ T10 (mkF m 161 #[.val (.int p1), .val (.int p2), .val (.int p3), .val (.int p4), .val (.int zc), .val (.int (1 : Int32)), .val (.ref a1), .val (.int (1 : Int32)), .val (.ref b2)] [])
    refine Go.to (fun _ => XS.iload X10.here hx rfl (hb hby at_161) rfl) ?_
    show Go p e below _ T10 (mkF m 163 #[.val (.int p1), .val (.int p2), .val (.int p3), .val (.int p4), .val (.int zc), .val (.int (1 : Int32)), .val (.ref a1), .val (.int (1 : Int32)), .val (.ref b2)] [(.int (1 : Int32))])
    refine Go.to (fun _ => XS.iconst X10.here hx rfl (hb hby at_163)) ?_
    show Go p e below _ T10 (mkF m 164 #[.val (.int p1), .val (.int p2), .val (.int p3), .val (.int p4), .val (.int zc), .val (.int (1 : Int32)), .val (.ref a1), .val (.int (1 : Int32)), .val (.ref b2)] [(.int (2 : Int32)), (.int (1 : Int32))])
    refine Go.to (fun _ => XS.icmpYes X10.here hx rfl (pc0 := 164) (pc' := 187) rfl (hb hby at_164) rfl (tlt (by decide)).1 (by decide) (by decide)) ?_
    show Go p e below _ T10 (mkF m 187 #[.val (.int p1), .val (.int p2), .val (.int p3), .val (.int p4), .val (.int zc), .val (.int (1 : Int32)), .val (.ref a1), .val (.int (1 : Int32)), .val (.ref b2)] [])
    refine Go.to (fun _ => XS.iload X10.here hx rfl (hb hby at_187) rfl) ?_
    show Go p e below _ T10 (mkF m 189 #[.val (.int p1), .val (.int p2), .val (.int p3), .val (.int p4), .val (.int zc), .val (.int (1 : Int32)), .val (.ref a1), .val (.int (1 : Int32)), .val (.ref b2)] [(.int (1 : Int32))])
    refine Go.to (fun _ => XS.iconst X10.here hx rfl (hb hby at_189)) ?_
    show Go p e below _ T10 (mkF m 190 #[.val (.int p1), .val (.int p2), .val (.int p3), .val (.int p4), .val (.int zc), .val (.int (1 : Int32)), .val (.ref a1), .val (.int (1 : Int32)), .val (.ref b2)] [(.int (3 : Int32)), (.int (1 : Int32))])
    refine Go.to (fun _ => XS.icmpYes X10.here hx rfl (pc0 := 190) (pc' := 213) rfl (hb hby at_190) rfl (tlt (by decide)).1 (by decide) (by decide)) ?_
    show Go p e below _ T10 (mkF m 213 #[.val (.int p1), .val (.int p2), .val (.int p3), .val (.int p4), .val (.int zc), .val (.int (1 : Int32)), .val (.ref a1), .val (.int (1 : Int32)), .val (.ref b2)] [])
    refine Go.to (fun _ => XS.iload X10.here hx rfl (hb hby at_213) rfl) ?_
    show Go p e below _ T10 (mkF m 215 #[.val (.int p1), .val (.int p2), .val (.int p3), .val (.int p4), .val (.int zc), .val (.int (1 : Int32)), .val (.ref a1), .val (.int (1 : Int32)), .val (.ref b2)] [(.int (1 : Int32))])
    refine Go.to (fun _ => XS.iconst X10.here hx rfl (hb hby at_215)) ?_
    show Go p e below _ T10 (mkF m 216 #[.val (.int p1), .val (.int p2), .val (.int p3), .val (.int p4), .val (.int zc), .val (.int (1 : Int32)), .val (.ref a1), .val (.int (1 : Int32)), .val (.ref b2)] [(.int (3 : Int32)), (.int (1 : Int32))])
    refine Go.to (fun _ => XS.icmpNo X10.here hx rfl (hb hby at_216) rfl (tlt (by decide)).2.1) ?_
    show Go p e below _ T10 (mkF m 219 #[.val (.int p1), .val (.int p2), .val (.int p3), .val (.int p4), .val (.int zc), .val (.int (1 : Int32)), .val (.ref a1), .val (.int (1 : Int32)), .val (.ref b2)] [])
    refine Go.to (fun _ => XS.iload X10.here hx rfl (hb hby at_219) rfl) ?_
    show Go p e below _ T10 (mkF m 221 #[.val (.int p1), .val (.int p2), .val (.int p3), .val (.int p4), .val (.int zc), .val (.int (1 : Int32)), .val (.ref a1), .val (.int (1 : Int32)), .val (.ref b2)] [(.int (1 : Int32))])
    refine Go.to (fun _ => XS.ifNo X10.here hx rfl (hb hby at_221) rfl ((if0 _ _).trans (feq (by decide)).1)) ?_
    show Go p e below _ T10 (mkF m 224 #[.val (.int p1), .val (.int p2), .val (.int p3), .val (.int p4), .val (.int zc), .val (.int (1 : Int32)), .val (.ref a1), .val (.int (1 : Int32)), .val (.ref b2)] [])
    refine Go.to (fun _ => XS.aload X10.here hx rfl (hb hby at_224) rfl rfl) ?_
    show Go p e below _ T10 (mkF m 226 #[.val (.int p1), .val (.int p2), .val (.int p3), .val (.int p4), .val (.int zc), .val (.int (1 : Int32)), .val (.ref a1), .val (.int (1 : Int32)), .val (.ref b2)] [(.ref b2)])
    refine Go.to (fun _ => XS.iload X10.here hx rfl (hb hby at_226) rfl) ?_
    show Go p e below _ T10 (mkF m 228 #[.val (.int p1), .val (.int p2), .val (.int p3), .val (.int p4), .val (.int zc), .val (.int (1 : Int32)), .val (.ref a1), .val (.int (1 : Int32)), .val (.ref b2)] [(.int (1 : Int32)), (.ref b2)])
    refine Go.oload X10 hx hZ e10 O7 (k := 0) rfl rfl rfl (hb hby at_228) ?_
    show Go p e below _ T10 (mkF m 229 #[.val (.int p1), .val (.int p2), .val (.int p3), .val (.int p4), .val (.int zc), .val (.int (1 : Int32)), .val (.ref a1), .val (.int (1 : Int32)), .val (.ref b2)] [(.int (0 : Int32))])
    refine Go.to (fun _ => XS.ifNo X10.here hx rfl (hb hby at_229) rfl ((if0 _ _).trans (teq (by decide)).2)) ?_
    show Go p e below _ T10 (mkF m 232 #[.val (.int p1), .val (.int p2), .val (.int p3), .val (.int p4), .val (.int zc), .val (.int (1 : Int32)), .val (.ref a1), .val (.int (1 : Int32)), .val (.ref b2)] [])
    refine Go.to (fun _ => XS.iconst X10.here hx rfl (hb hby at_232)) ?_
    show Go p e below _ T10 (mkF m 233 #[.val (.int p1), .val (.int p2), .val (.int p3), .val (.int p4), .val (.int zc), .val (.int (1 : Int32)), .val (.ref a1), .val (.int (1 : Int32)), .val (.ref b2)] [(.int (1 : Int32))])
    refine Go.to (fun _ => XS.goto X10.here hx rfl (pc0 := 233) (pc' := 237) rfl (hb hby at_233) (by decide) (by decide)) ?_
    show Go p e below _ T10 (mkF m 237 #[.val (.int p1), .val (.int p2), .val (.int p3), .val (.int p4), .val (.int zc), .val (.int (1 : Int32)), .val (.ref a1), .val (.int (1 : Int32)), .val (.ref b2)] [(.int (1 : Int32))])
    refine Go.to (fun _ => XS.istore X10.here hx rfl (hb hby at_237) rfl (l' := #[.val (.int p1), .val (.int p2), .val (.int p3), .val (.int p4), .val (.int zc), .val (.int (1 : Int32)), .val (.ref a1), .val (.int (1 : Int32)), .val (.ref b2)]) rfl) ?_
    show Go p e below _ T10 (mkF m 239 #[.val (.int p1), .val (.int p2), .val (.int p3), .val (.int p4), .val (.int zc), .val (.int (1 : Int32)), .val (.ref a1), .val (.int (1 : Int32)), .val (.ref b2)] [])
    refine Go.to (fun _ => XS.iload X10.here hx rfl (hb hby at_239) rfl) ?_
    show Go p e below _ T10 (mkF m 241 #[.val (.int p1), .val (.int p2), .val (.int p3), .val (.int p4), .val (.int zc), .val (.int (1 : Int32)), .val (.ref a1), .val (.int (1 : Int32)), .val (.ref b2)] [(.int (1 : Int32))])
    refine Go.to (fun _ => XS.iconst X10.here hx rfl (hb hby at_241)) ?_
    show Go p e below _ T10 (mkF m 242 #[.val (.int p1), .val (.int p2), .val (.int p3), .val (.int p4), .val (.int zc), .val (.int (1 : Int32)), .val (.ref a1), .val (.int (1 : Int32)), .val (.ref b2)] [(.int (1 : Int32)), (.int (1 : Int32))])
    refine Go.to (fun _ => XS.icmpNo X10.here hx rfl (hb hby at_242) rfl (flt (by decide)).1) ?_
    show Go p e below _ T10 (mkF m 245 #[.val (.int p1), .val (.int p2), .val (.int p3), .val (.int p4), .val (.int zc), .val (.int (1 : Int32)), .val (.ref a1), .val (.int (1 : Int32)), .val (.ref b2)] [])
    refine Go.to (fun _ => XS.iload X10.here hx rfl (hb hby at_245) rfl) ?_
    show Go p e below _ T10 (mkF m 247 #[.val (.int p1), .val (.int p2), .val (.int p3), .val (.int p4), .val (.int zc), .val (.int (1 : Int32)), .val (.ref a1), .val (.int (1 : Int32)), .val (.ref b2)] [(.int (1 : Int32))])
    refine Go.to (fun _ => XS.ifNo X10.here hx rfl (hb hby at_247) rfl ((if0 _ _).trans (feq (by decide)).1)) ?_
    show Go p e below _ T10 (mkF m 250 #[.val (.int p1), .val (.int p2), .val (.int p3), .val (.int p4), .val (.int zc), .val (.int (1 : Int32)), .val (.ref a1), .val (.int (1 : Int32)), .val (.ref b2)] [])
    refine Go.to (fun _ => XS.aload X10.here hx rfl (hb hby at_250) rfl rfl) ?_
    show Go p e below _ T10 (mkF m 252 #[.val (.int p1), .val (.int p2), .val (.int p3), .val (.int p4), .val (.int zc), .val (.int (1 : Int32)), .val (.ref a1), .val (.int (1 : Int32)), .val (.ref b2)] [(.ref a1)])
    refine Go.callV (y := (⟨"com/example/eventually/eventually/solver/StateQueue", "take", "()I"⟩ : MethodName)) X10 hx hZ hown (hw _ (List.mem_of_getElem? (i := 36) rfl)) (hw _ (List.mem_of_getElem? (i := 37) rfl)) (hw _ (List.mem_of_getElem? (i := 39) rfl)) (hw _ (List.mem_of_getElem? (i := 38) rfl)) (hw _ (List.mem_of_getElem? (i := 2) rfl)) (hw _ (List.mem_of_getElem? (i := 40) rfl)) (by decide) (rm7 l Z a0 hw [] a1 T7.heap n0 b2 (0 : Int32) (1 : Int32) (p1 :: (0 : Int32) :: (0 : Int32) :: ys) O7 p1 rfl) e10 O7.exa (by rw [hml]; rfl) (pd_1) rfl (argsL := []) (rest := []) rfl rfl (hb hby at_252) (by decide) (Nat.le_of_ble_eq_true rfl) (by decide) (by decide) ?_
    rintro T11 _ L11 X11 ⟨rfl, N11, O11⟩
    have O11 : Obj Z n0 T11.heap T11.heap a1 "com/example/eventually/eventually/solver/StateQueue" nFq [.ref b2, .int (1 : Int32), .int (1 : Int32)] [b2] [(p1 :: (0 : Int32) :: (0 : Int32) :: ys)] := by
      have q1 : (0 : Int32) + (1 : Int32) = (1 : Int32) := by decide
      have O11 := O11.anew
      rw [q1] at O11; exact O11
    have N11 := Fr.app N7 N11
    show Go p e below _ T11 (mkF m 255 #[.val (.int p1), .val (.int p2), .val (.int p3), .val (.int p4), .val (.int zc), .val (.int (1 : Int32)), .val (.ref a1), .val (.int (1 : Int32)), .val (.ref b2)] [(.int p1)])
    refine Go.to (fun _ => XS.iloadN X11.here hx rfl (hb hby at_255) rfl) ?_
    show Go p e below _ T11 (mkF m 256 #[.val (.int p1), .val (.int p2), .val (.int p3), .val (.int p4), .val (.int zc), .val (.int (1 : Int32)), .val (.ref a1), .val (.int (1 : Int32)), .val (.ref b2)] [(.int p1), (.int p1)])
    refine Go.to (fun _ => XS.icmpNo X11.here hx rfl (hb hby at_256) rfl (teq rfl).2) ?_
    show Go p e below _ T11 (mkF m 259 #[.val (.int p1), .val (.int p2), .val (.int p3), .val (.int p4), .val (.int zc), .val (.int (1 : Int32)), .val (.ref a1), .val (.int (1 : Int32)), .val (.ref b2)] [])
    refine Go.to (fun _ => XS.iconst X11.here hx rfl (hb hby at_259)) ?_
    show Go p e below _ T11 (mkF m 260 #[.val (.int p1), .val (.int p2), .val (.int p3), .val (.int p4), .val (.int zc), .val (.int (1 : Int32)), .val (.ref a1), .val (.int (1 : Int32)), .val (.ref b2)] [(.int (1 : Int32))])
    refine Go.to (fun _ => XS.goto X11.here hx rfl (pc0 := 260) (pc' := 264) rfl (hb hby at_260) (by decide) (by decide)) ?_
    show Go p e below _ T11 (mkF m 264 #[.val (.int p1), .val (.int p2), .val (.int p3), .val (.int p4), .val (.int zc), .val (.int (1 : Int32)), .val (.ref a1), .val (.int (1 : Int32)), .val (.ref b2)] [(.int (1 : Int32))])
    refine Go.to (fun _ => XS.istore X11.here hx rfl (hb hby at_264) rfl (l' := #[.val (.int p1), .val (.int p2), .val (.int p3), .val (.int p4), .val (.int zc), .val (.int (1 : Int32)), .val (.ref a1), .val (.int (1 : Int32)), .val (.ref b2)]) rfl) ?_
    show Go p e below _ T11 (mkF m 266 #[.val (.int p1), .val (.int p2), .val (.int p3), .val (.int p4), .val (.int zc), .val (.int (1 : Int32)), .val (.ref a1), .val (.int (1 : Int32)), .val (.ref b2)] [])
    refine Go.to (fun _ => XS.iload X11.here hx rfl (hb hby at_266) rfl) ?_
    show Go p e below _ T11 (mkF m 268 #[.val (.int p1), .val (.int p2), .val (.int p3), .val (.int p4), .val (.int zc), .val (.int (1 : Int32)), .val (.ref a1), .val (.int (1 : Int32)), .val (.ref b2)] [(.int (1 : Int32))])
    refine Go.to (fun _ => XS.iconst X11.here hx rfl (hb hby at_268)) ?_
    show Go p e below _ T11 (mkF m 269 #[.val (.int p1), .val (.int p2), .val (.int p3), .val (.int p4), .val (.int zc), .val (.int (1 : Int32)), .val (.ref a1), .val (.int (1 : Int32)), .val (.ref b2)] [(.int (2 : Int32)), (.int (1 : Int32))])
    refine Go.to (fun _ => XS.icmpYes X11.here hx rfl (pc0 := 269) (pc' := 293) rfl (hb hby at_269) rfl (tlt (by decide)).1 (by decide) (by decide)) ?_
    show Go p e below _ T11 (mkF m 293 #[.val (.int p1), .val (.int p2), .val (.int p3), .val (.int p4), .val (.int zc), .val (.int (1 : Int32)), .val (.ref a1), .val (.int (1 : Int32)), .val (.ref b2)] [])
    refine Go.to (fun _ => XS.iload X11.here hx rfl (hb hby at_293) rfl) ?_
    show Go p e below _ T11 (mkF m 295 #[.val (.int p1), .val (.int p2), .val (.int p3), .val (.int p4), .val (.int zc), .val (.int (1 : Int32)), .val (.ref a1), .val (.int (1 : Int32)), .val (.ref b2)] [(.int (1 : Int32))])
    refine Go.to (fun _ => XS.iconst X11.here hx rfl (hb hby at_295)) ?_
    show Go p e below _ T11 (mkF m 296 #[.val (.int p1), .val (.int p2), .val (.int p3), .val (.int p4), .val (.int zc), .val (.int (1 : Int32)), .val (.ref a1), .val (.int (1 : Int32)), .val (.ref b2)] [(.int (3 : Int32)), (.int (1 : Int32))])
    refine Go.to (fun _ => XS.icmpYes X11.here hx rfl (pc0 := 296) (pc' := 320) rfl (hb hby at_296) rfl (tlt (by decide)).1 (by decide) (by decide)) ?_
    show Go p e below _ T11 (mkF m 320 #[.val (.int p1), .val (.int p2), .val (.int p3), .val (.int p4), .val (.int zc), .val (.int (1 : Int32)), .val (.ref a1), .val (.int (1 : Int32)), .val (.ref b2)] [])
    refine Go.to (fun _ => XS.iload X11.here hx rfl (hb hby at_320) rfl) ?_
    show Go p e below _ T11 (mkF m 322 #[.val (.int p1), .val (.int p2), .val (.int p3), .val (.int p4), .val (.int zc), .val (.int (1 : Int32)), .val (.ref a1), .val (.int (1 : Int32)), .val (.ref b2)] [(.int (1 : Int32))])
    refine Go.to (fun _ => XS.ifNo X11.here hx rfl (hb hby at_322) rfl ((if0 _ _).trans (feq (by decide)).1)) ?_
    show Go p e below _ T11 (mkF m 325 #[.val (.int p1), .val (.int p2), .val (.int p3), .val (.int p4), .val (.int zc), .val (.int (1 : Int32)), .val (.ref a1), .val (.int (1 : Int32)), .val (.ref b2)] [])
    refine Go.to (fun _ => XS.aload X11.here hx rfl (hb hby at_325) rfl rfl) ?_
    show Go p e below _ T11 (mkF m 327 #[.val (.int p1), .val (.int p2), .val (.int p3), .val (.int p4), .val (.int zc), .val (.int (1 : Int32)), .val (.ref a1), .val (.int (1 : Int32)), .val (.ref b2)] [(.ref a1)])
    refine Go.callV (y := (⟨"com/example/eventually/eventually/solver/StateQueue", "isEmpty", "()Z"⟩ : MethodName)) X11 hx hZ hown (hw _ (List.mem_of_getElem? (i := 19) rfl)) (hw _ (List.mem_of_getElem? (i := 20) rfl)) (hw _ (List.mem_of_getElem? (i := 22) rfl)) (hw _ (List.mem_of_getElem? (i := 21) rfl)) (hw _ (List.mem_of_getElem? (i := 2) rfl)) (hw _ (List.mem_of_getElem? (i := 23) rfl)) (by decide) (rm4 l Z a0 hw [] a1 T11.heap n0 b2 (1 : Int32) (1 : Int32) (p1 :: (0 : Int32) :: (0 : Int32) :: ys) O11) rfl O11.exa (by rw [hml]; rfl) (pd_2) rfl (argsL := []) (rest := []) rfl rfl (hb hby at_327) (by decide) (Nat.le_of_ble_eq_true rfl) (by decide) (by decide) ?_
    rintro T12 _ L12 X12 ⟨rfl, e12, rfl⟩
    simp only [List.append_nil] at X12
    show Go p e below _ T12 (mkF m 330 #[.val (.int p1), .val (.int p2), .val (.int p3), .val (.int p4), .val (.int zc), .val (.int (1 : Int32)), .val (.ref a1), .val (.int (1 : Int32)), .val (.ref b2)] [(.int (1 : Int32))])
    refine Go.to (fun _ => XS.ifNo X12.here hx rfl (hb hby at_330) rfl ((if0 _ _).trans (feq (by decide)).1)) ?_
    show Go p e below _ T12 (mkF m 333 #[.val (.int p1), .val (.int p2), .val (.int p3), .val (.int p4), .val (.int zc), .val (.int (1 : Int32)), .val (.ref a1), .val (.int (1 : Int32)), .val (.ref b2)] [])
    refine Go.to (fun _ => XS.iconst X12.here hx rfl (hb hby at_333)) ?_
    show Go p e below _ T12 (mkF m 334 #[.val (.int p1), .val (.int p2), .val (.int p3), .val (.int p4), .val (.int zc), .val (.int (1 : Int32)), .val (.ref a1), .val (.int (1 : Int32)), .val (.ref b2)] [(.int (1 : Int32))])
    refine Go.to (fun _ => XS.goto X12.here hx rfl (pc0 := 334) (pc' := 338) rfl (hb hby at_334) (by decide) (by decide)) ?_
    show Go p e below _ T12 (mkF m 338 #[.val (.int p1), .val (.int p2), .val (.int p3), .val (.int p4), .val (.int zc), .val (.int (1 : Int32)), .val (.ref a1), .val (.int (1 : Int32)), .val (.ref b2)] [(.int (1 : Int32))])
    refine Go.to (fun _ => XS.istore X12.here hx rfl (hb hby at_338) rfl (l' := #[.val (.int p1), .val (.int p2), .val (.int p3), .val (.int p4), .val (.int zc), .val (.int (1 : Int32)), .val (.ref a1), .val (.int (1 : Int32)), .val (.ref b2)]) rfl) ?_
    show Go p e below _ T12 (mkF m 340 #[.val (.int p1), .val (.int p2), .val (.int p3), .val (.int p4), .val (.int zc), .val (.int (1 : Int32)), .val (.ref a1), .val (.int (1 : Int32)), .val (.ref b2)] [])
    refine Go.to (fun _ => XS.iload X12.here hx rfl (hb hby at_340) rfl) ?_
    show Go p e below _ T12 (mkF m 342 #[.val (.int p1), .val (.int p2), .val (.int p3), .val (.int p4), .val (.int zc), .val (.int (1 : Int32)), .val (.ref a1), .val (.int (1 : Int32)), .val (.ref b2)] [(.int (1 : Int32))])
    rw [hK]
    exact Go.retZ X12 hx hlk hret (by decide) (hb hby at_342) ⟨rfl, N11⟩ (by decide) (by decide)
  · show Go p e below _ T2 (mkF m 25 #[.val (.int p1), .val (.int p2), .val (.int p3), .val (.int p4), .val (.int zc), .val (.int (2 : Int32)), .val (.ref a1), .unset, .unset] [])
    refine Go.to (fun _ => XS.iload X2.here hx rfl (hb hby at_25) rfl) ?_
    show Go p e below _ T2 (mkF m 27 #[.val (.int p1), .val (.int p2), .val (.int p3), .val (.int p4), .val (.int zc), .val (.int (2 : Int32)), .val (.ref a1), .unset, .unset] [(.int (2 : Int32))])
    refine Go.to (fun _ => XS.iconst X2.here hx rfl (hb hby at_27)) ?_
    show Go p e below _ T2 (mkF m 28 #[.val (.int p1), .val (.int p2), .val (.int p3), .val (.int p4), .val (.int zc), .val (.int (2 : Int32)), .val (.ref a1), .unset, .unset] [(.int (1 : Int32)), (.int (2 : Int32))])
    refine Go.to (fun _ => XS.icmpNo X2.here hx rfl (hb hby at_28) rfl (flt (by decide)).1) ?_
    show Go p e below _ T2 (mkF m 31 #[.val (.int p1), .val (.int p2), .val (.int p3), .val (.int p4), .val (.int zc), .val (.int (2 : Int32)), .val (.ref a1), .unset, .unset] [])
    refine Go.to (fun _ => XS.aload X2.here hx rfl (hb hby at_31) rfl rfl) ?_
    show Go p e below _ T2 (mkF m 33 #[.val (.int p1), .val (.int p2), .val (.int p3), .val (.int p4), .val (.int zc), .val (.int (2 : Int32)), .val (.ref a1), .unset, .unset] [(.ref a1)])
    refine Go.to (fun _ => XS.iloadN X2.here hx rfl (hb hby at_33) rfl) ?_
    show Go p e below _ T2 (mkF m 34 #[.val (.int p1), .val (.int p2), .val (.int p3), .val (.int p4), .val (.int zc), .val (.int (2 : Int32)), .val (.ref a1), .unset, .unset] [(.int p1), (.ref a1)])
    refine Go.callV (y := (⟨"com/example/eventually/eventually/solver/StateQueue", "add", "(I)V"⟩ : MethodName)) X2 hx hZ hown (hw _ (List.mem_of_getElem? (i := 31) rfl)) (hw _ (List.mem_of_getElem? (i := 32) rfl)) (hw _ (List.mem_of_getElem? (i := 34) rfl)) (hw _ (List.mem_of_getElem? (i := 33) rfl)) (hw _ (List.mem_of_getElem? (i := 2) rfl)) (hw _ (List.mem_of_getElem? (i := 35) rfl)) (by decide) (rm6 l Z a0 hw [] a1 p1 T2.heap n0 b2 (0 : Int32) (0 : Int32) ((0 : Int32) :: (0 : Int32) :: (0 : Int32) :: ys) O2 (0 : Int32) rfl) rfl O2.exa (by rw [hml]; rfl) (pd_0) rfl (argsL := [(.int p1)]) (rest := []) rfl rfl (hb hby at_34) (by decide) (Nat.le_of_ble_eq_true rfl) (by decide) (by decide) ?_
    rintro T13 _ L13 X13 ⟨rfl, N13, O13⟩
    have O13 : Obj Z n0 T13.heap T13.heap a1 "com/example/eventually/eventually/solver/StateQueue" nFq [.ref b2, .int (0 : Int32), .int (1 : Int32)] [b2] [(p1 :: (0 : Int32) :: (0 : Int32) :: ys)] := by
      have q1 : (0 : Int32) + (1 : Int32) = (1 : Int32) := by decide
      have q2 : wrL ((0 : Int32) :: (0 : Int32) :: (0 : Int32) :: ys) (0 : Int32) p1 = (p1 :: (0 : Int32) :: (0 : Int32) :: ys) := rfl
      have O13 := O13.anew
      rw [q1, q2] at O13; exact O13
    have N13 := Fr.app N2 N13
    show Go p e below _ T13 (mkF m 37 #[.val (.int p1), .val (.int p2), .val (.int p3), .val (.int p4), .val (.int zc), .val (.int (2 : Int32)), .val (.ref a1), .unset, .unset] [])
    refine Go.to (fun _ => XS.iload X13.here hx rfl (hb hby at_37) rfl) ?_
    show Go p e below _ T13 (mkF m 39 #[.val (.int p1), .val (.int p2), .val (.int p3), .val (.int p4), .val (.int zc), .val (.int (2 : Int32)), .val (.ref a1), .unset, .unset] [(.int (2 : Int32))])
    refine Go.to (fun _ => XS.iconst X13.here hx rfl (hb hby at_39)) ?_
    show Go p e below _ T13 (mkF m 40 #[.val (.int p1), .val (.int p2), .val (.int p3), .val (.int p4), .val (.int zc), .val (.int (2 : Int32)), .val (.ref a1), .unset, .unset] [(.int (2 : Int32)), (.int (2 : Int32))])
    refine Go.to (fun _ => XS.icmpNo X13.here hx rfl (hb hby at_40) rfl (flt (by decide)).1) ?_
    show Go p e below _ T13 (mkF m 43 #[.val (.int p1), .val (.int p2), .val (.int p3), .val (.int p4), .val (.int zc), .val (.int (2 : Int32)), .val (.ref a1), .unset, .unset] [])
    refine Go.to (fun _ => XS.aload X13.here hx rfl (hb hby at_43) rfl rfl) ?_
    show Go p e below _ T13 (mkF m 45 #[.val (.int p1), .val (.int p2), .val (.int p3), .val (.int p4), .val (.int zc), .val (.int (2 : Int32)), .val (.ref a1), .unset, .unset] [(.ref a1)])
    refine Go.to (fun _ => XS.iloadN X13.here hx rfl (hb hby at_45) rfl) ?_
    show Go p e below _ T13 (mkF m 46 #[.val (.int p1), .val (.int p2), .val (.int p3), .val (.int p4), .val (.int zc), .val (.int (2 : Int32)), .val (.ref a1), .unset, .unset] [(.int p2), (.ref a1)])
    refine Go.callV (y := (⟨"com/example/eventually/eventually/solver/StateQueue", "add", "(I)V"⟩ : MethodName)) X13 hx hZ hown (hw _ (List.mem_of_getElem? (i := 31) rfl)) (hw _ (List.mem_of_getElem? (i := 32) rfl)) (hw _ (List.mem_of_getElem? (i := 34) rfl)) (hw _ (List.mem_of_getElem? (i := 33) rfl)) (hw _ (List.mem_of_getElem? (i := 2) rfl)) (hw _ (List.mem_of_getElem? (i := 35) rfl)) (by decide) (rm6 l Z a0 hw [] a1 p2 T13.heap n0 b2 (0 : Int32) (1 : Int32) (p1 :: (0 : Int32) :: (0 : Int32) :: ys) O13 (0 : Int32) rfl) rfl O13.exa (by rw [hml]; rfl) (pd_0) rfl (argsL := [(.int p2)]) (rest := []) rfl rfl (hb hby at_46) (by decide) (Nat.le_of_ble_eq_true rfl) (by decide) (by decide) ?_
    rintro T14 _ L14 X14 ⟨rfl, N14, O14⟩
    have O14 : Obj Z n0 T14.heap T14.heap a1 "com/example/eventually/eventually/solver/StateQueue" nFq [.ref b2, .int (0 : Int32), .int (2 : Int32)] [b2] [(p1 :: p2 :: (0 : Int32) :: ys)] := by
      have q1 : (1 : Int32) + (1 : Int32) = (2 : Int32) := by decide
      have q2 : wrL (p1 :: (0 : Int32) :: (0 : Int32) :: ys) (1 : Int32) p2 = (p1 :: p2 :: (0 : Int32) :: ys) := rfl
      have O14 := O14.anew
      rw [q1, q2] at O14; exact O14
    have N14 := Fr.app N13 N14
    show Go p e below _ T14 (mkF m 49 #[.val (.int p1), .val (.int p2), .val (.int p3), .val (.int p4), .val (.int zc), .val (.int (2 : Int32)), .val (.ref a1), .unset, .unset] [])
    refine Go.to (fun _ => XS.iload X14.here hx rfl (hb hby at_49) rfl) ?_
    show Go p e below _ T14 (mkF m 51 #[.val (.int p1), .val (.int p2), .val (.int p3), .val (.int p4), .val (.int zc), .val (.int (2 : Int32)), .val (.ref a1), .unset, .unset] [(.int (2 : Int32))])
    refine Go.to (fun _ => XS.iconst X14.here hx rfl (hb hby at_51)) ?_
    show Go p e below _ T14 (mkF m 52 #[.val (.int p1), .val (.int p2), .val (.int p3), .val (.int p4), .val (.int zc), .val (.int (2 : Int32)), .val (.ref a1), .unset, .unset] [(.int (3 : Int32)), (.int (2 : Int32))])
    refine Go.to (fun _ => XS.icmpYes X14.here hx rfl (pc0 := 52) (pc' := 61) rfl (hb hby at_52) rfl (tlt (by decide)).1 (by decide) (by decide)) ?_
    show Go p e below _ T14 (mkF m 61 #[.val (.int p1), .val (.int p2), .val (.int p3), .val (.int p4), .val (.int zc), .val (.int (2 : Int32)), .val (.ref a1), .unset, .unset] [])
    refine Go.to (fun _ => XS.aload X14.here hx rfl (hb hby at_61) rfl rfl) ?_
    show Go p e below _ T14 (mkF m 63 #[.val (.int p1), .val (.int p2), .val (.int p3), .val (.int p4), .val (.int zc), .val (.int (2 : Int32)), .val (.ref a1), .unset, .unset] [(.ref a1)])
    refine Go.callV (y := (⟨"com/example/eventually/eventually/solver/StateQueue", "size", "()I"⟩ : MethodName)) X14 hx hZ hown (hw _ (List.mem_of_getElem? (i := 12) rfl)) (hw _ (List.mem_of_getElem? (i := 13) rfl)) (hw _ (List.mem_of_getElem? (i := 15) rfl)) (hw _ (List.mem_of_getElem? (i := 14) rfl)) (hw _ (List.mem_of_getElem? (i := 2) rfl)) (hw _ (List.mem_of_getElem? (i := 16) rfl)) (by decide) (rm3 l Z a0 hw [] a1 T14.heap n0 b2 (0 : Int32) (2 : Int32) (p1 :: p2 :: (0 : Int32) :: ys) O14) rfl O14.exa (by rw [hml]; rfl) (pd_1) rfl (argsL := []) (rest := []) rfl rfl (hb hby at_63) (by decide) (Nat.le_of_ble_eq_true rfl) (by decide) (by decide) ?_
    rintro T15 _ L15 X15 ⟨rfl, e15, rfl⟩
    simp only [List.append_nil] at X15
    show Go p e below _ T15 (mkF m 66 #[.val (.int p1), .val (.int p2), .val (.int p3), .val (.int p4), .val (.int zc), .val (.int (2 : Int32)), .val (.ref a1), .unset, .unset] [(.int (2 : Int32))])
    refine Go.to (fun _ => XS.iload X15.here hx rfl (hb hby at_66) rfl) ?_
    show Go p e below _ T15 (mkF m 68 #[.val (.int p1), .val (.int p2), .val (.int p3), .val (.int p4), .val (.int zc), .val (.int (2 : Int32)), .val (.ref a1), .unset, .unset] [(.int (2 : Int32)), (.int (2 : Int32))])
    refine Go.to (fun _ => XS.icmpNo X15.here hx rfl (hb hby at_68) rfl (teq (by decide)).2) ?_
    show Go p e below _ T15 (mkF m 71 #[.val (.int p1), .val (.int p2), .val (.int p3), .val (.int p4), .val (.int zc), .val (.int (2 : Int32)), .val (.ref a1), .unset, .unset] [])
    refine Go.to (fun _ => XS.iconst X15.here hx rfl (hb hby at_71)) ?_
    show Go p e below _ T15 (mkF m 72 #[.val (.int p1), .val (.int p2), .val (.int p3), .val (.int p4), .val (.int zc), .val (.int (2 : Int32)), .val (.ref a1), .unset, .unset] [(.int (1 : Int32))])
    refine Go.to (fun _ => XS.goto X15.here hx rfl (pc0 := 72) (pc' := 76) rfl (hb hby at_72) (by decide) (by decide)) ?_
    show Go p e below _ T15 (mkF m 76 #[.val (.int p1), .val (.int p2), .val (.int p3), .val (.int p4), .val (.int zc), .val (.int (2 : Int32)), .val (.ref a1), .unset, .unset] [(.int (1 : Int32))])
    refine Go.to (fun _ => XS.istore X15.here hx rfl (hb hby at_76) rfl (l' := #[.val (.int p1), .val (.int p2), .val (.int p3), .val (.int p4), .val (.int zc), .val (.int (2 : Int32)), .val (.ref a1), .val (.int (1 : Int32)), .unset]) rfl) ?_
    show Go p e below _ T15 (mkF m 78 #[.val (.int p1), .val (.int p2), .val (.int p3), .val (.int p4), .val (.int zc), .val (.int (2 : Int32)), .val (.ref a1), .val (.int (1 : Int32)), .unset] [])
    refine Go.to (fun _ => XS.iload X15.here hx rfl (hb hby at_78) rfl) ?_
    show Go p e below _ T15 (mkF m 80 #[.val (.int p1), .val (.int p2), .val (.int p3), .val (.int p4), .val (.int zc), .val (.int (2 : Int32)), .val (.ref a1), .val (.int (1 : Int32)), .unset] [(.int (1 : Int32))])
    refine Go.to (fun _ => XS.ifNo X15.here hx rfl (hb hby at_80) rfl ((if0 _ _).trans (feq (by decide)).1)) ?_
    show Go p e below _ T15 (mkF m 83 #[.val (.int p1), .val (.int p2), .val (.int p3), .val (.int p4), .val (.int zc), .val (.int (2 : Int32)), .val (.ref a1), .val (.int (1 : Int32)), .unset] [])
    refine Go.to (fun _ => XS.aload X15.here hx rfl (hb hby at_83) rfl rfl) ?_
    show Go p e below _ T15 (mkF m 85 #[.val (.int p1), .val (.int p2), .val (.int p3), .val (.int p4), .val (.int zc), .val (.int (2 : Int32)), .val (.ref a1), .val (.int (1 : Int32)), .unset] [(.ref a1)])
    refine Go.callV (y := (⟨"com/example/eventually/eventually/solver/StateQueue", "isEmpty", "()Z"⟩ : MethodName)) X15 hx hZ hown (hw _ (List.mem_of_getElem? (i := 19) rfl)) (hw _ (List.mem_of_getElem? (i := 20) rfl)) (hw _ (List.mem_of_getElem? (i := 22) rfl)) (hw _ (List.mem_of_getElem? (i := 21) rfl)) (hw _ (List.mem_of_getElem? (i := 2) rfl)) (hw _ (List.mem_of_getElem? (i := 23) rfl)) (by decide) (rm4 l Z a0 hw [] a1 T14.heap n0 b2 (0 : Int32) (2 : Int32) (p1 :: p2 :: (0 : Int32) :: ys) O14) e15 O14.exa (by rw [hml]; rfl) (pd_2) rfl (argsL := []) (rest := []) rfl rfl (hb hby at_85) (by decide) (Nat.le_of_ble_eq_true rfl) (by decide) (by decide) ?_
    rintro T16 _ L16 X16 ⟨rfl, e16, rfl⟩
    simp only [List.append_nil] at X16
    show Go p e below _ T16 (mkF m 88 #[.val (.int p1), .val (.int p2), .val (.int p3), .val (.int p4), .val (.int zc), .val (.int (2 : Int32)), .val (.ref a1), .val (.int (1 : Int32)), .unset] [(.int (0 : Int32))])
    refine Go.to (fun _ => XS.iload X16.here hx rfl (hb hby at_88) rfl) ?_
    show Go p e below _ T16 (mkF m 90 #[.val (.int p1), .val (.int p2), .val (.int p3), .val (.int p4), .val (.int zc), .val (.int (2 : Int32)), .val (.ref a1), .val (.int (1 : Int32)), .unset] [(.int (2 : Int32)), (.int (0 : Int32))])
    refine Go.to (fun _ => XS.ifYes X16.here hx rfl (pc0 := 90) (pc' := 97) rfl (hb hby at_90) rfl ((if0 _ _).trans (feq (by decide)).2) (by decide) (by decide)) ?_
    show Go p e below _ T16 (mkF m 97 #[.val (.int p1), .val (.int p2), .val (.int p3), .val (.int p4), .val (.int zc), .val (.int (2 : Int32)), .val (.ref a1), .val (.int (1 : Int32)), .unset] [(.int (0 : Int32))])
    refine Go.to (fun _ => XS.iconst X16.here hx rfl (hb hby at_97)) ?_
    show Go p e below _ T16 (mkF m 98 #[.val (.int p1), .val (.int p2), .val (.int p3), .val (.int p4), .val (.int zc), .val (.int (2 : Int32)), .val (.ref a1), .val (.int (1 : Int32)), .unset] [(.int (0 : Int32)), (.int (0 : Int32))])
    refine Go.to (fun _ => XS.icmpNo X16.here hx rfl (hb hby at_98) rfl (teq (by decide)).2) ?_
    show Go p e below _ T16 (mkF m 101 #[.val (.int p1), .val (.int p2), .val (.int p3), .val (.int p4), .val (.int zc), .val (.int (2 : Int32)), .val (.ref a1), .val (.int (1 : Int32)), .unset] [])
    refine Go.to (fun _ => XS.iconst X16.here hx rfl (hb hby at_101)) ?_
    show Go p e below _ T16 (mkF m 102 #[.val (.int p1), .val (.int p2), .val (.int p3), .val (.int p4), .val (.int zc), .val (.int (2 : Int32)), .val (.ref a1), .val (.int (1 : Int32)), .unset] [(.int (1 : Int32))])
    refine Go.to (fun _ => XS.goto X16.here hx rfl (pc0 := 102) (pc' := 106) rfl (hb hby at_102) (by decide) (by decide)) ?_
    show Go p e below _ T16 (mkF m 106 #[.val (.int p1), .val (.int p2), .val (.int p3), .val (.int p4), .val (.int zc), .val (.int (2 : Int32)), .val (.ref a1), .val (.int (1 : Int32)), .unset] [(.int (1 : Int32))])
    refine Go.to (fun _ => XS.istore X16.here hx rfl (hb hby at_106) rfl (l' := #[.val (.int p1), .val (.int p2), .val (.int p3), .val (.int p4), .val (.int zc), .val (.int (2 : Int32)), .val (.ref a1), .val (.int (1 : Int32)), .unset]) rfl) ?_
    show Go p e below _ T16 (mkF m 108 #[.val (.int p1), .val (.int p2), .val (.int p3), .val (.int p4), .val (.int zc), .val (.int (2 : Int32)), .val (.ref a1), .val (.int (1 : Int32)), .unset] [])
    refine Go.to (fun _ => XS.aload X16.here hx rfl (hb hby at_108) rfl rfl) ?_
    show Go p e below _ T16 (mkF m 110 #[.val (.int p1), .val (.int p2), .val (.int p3), .val (.int p4), .val (.int zc), .val (.int (2 : Int32)), .val (.ref a1), .val (.int (1 : Int32)), .unset] [(.ref a1)])
    refine Go.callV (y := (⟨"com/example/eventually/eventually/solver/StateQueue", "added", "()[I"⟩ : MethodName)) X16 hx hZ hown (hw _ (List.mem_of_getElem? (i := 26) rfl)) (hw _ (List.mem_of_getElem? (i := 27) rfl)) (hw _ (List.mem_of_getElem? (i := 29) rfl)) (hw _ (List.mem_of_getElem? (i := 28) rfl)) (hw _ (List.mem_of_getElem? (i := 2) rfl)) (hw _ (List.mem_of_getElem? (i := 30) rfl)) (by decide) (rm5 l Z a0 hw [] a1 T14.heap n0 b2 (0 : Int32) (2 : Int32) (p1 :: p2 :: (0 : Int32) :: ys) O14) e16 O14.exa (by rw [hml]; rfl) (pd_3) rfl (argsL := []) (rest := []) rfl rfl (hb hby at_110) (by decide) (Nat.le_of_ble_eq_true rfl) (by decide) (by decide) ?_
    rintro T17 _ L17 X17 ⟨rfl, e17, rfl⟩
    simp only [List.append_nil] at X17
    show Go p e below _ T17 (mkF m 113 #[.val (.int p1), .val (.int p2), .val (.int p3), .val (.int p4), .val (.int zc), .val (.int (2 : Int32)), .val (.ref a1), .val (.int (1 : Int32)), .unset] [(.ref b2)])
    refine Go.to (fun _ => XS.astore X17.here hx rfl (hb hby at_113) rfl rfl (l' := #[.val (.int p1), .val (.int p2), .val (.int p3), .val (.int p4), .val (.int zc), .val (.int (2 : Int32)), .val (.ref a1), .val (.int (1 : Int32)), .val (.ref b2)]) rfl) ?_
    show Go p e below _ T17 (mkF m 115 #[.val (.int p1), .val (.int p2), .val (.int p3), .val (.int p4), .val (.int zc), .val (.int (2 : Int32)), .val (.ref a1), .val (.int (1 : Int32)), .val (.ref b2)] [])
    refine Go.to (fun _ => XS.iload X17.here hx rfl (hb hby at_115) rfl) ?_
    show Go p e below _ T17 (mkF m 117 #[.val (.int p1), .val (.int p2), .val (.int p3), .val (.int p4), .val (.int zc), .val (.int (2 : Int32)), .val (.ref a1), .val (.int (1 : Int32)), .val (.ref b2)] [(.int (1 : Int32))])
    refine Go.to (fun _ => XS.ifNo X17.here hx rfl (hb hby at_117) rfl ((if0 _ _).trans (feq (by decide)).1)) ?_
    show Go p e below _ T17 (mkF m 120 #[.val (.int p1), .val (.int p2), .val (.int p3), .val (.int p4), .val (.int zc), .val (.int (2 : Int32)), .val (.ref a1), .val (.int (1 : Int32)), .val (.ref b2)] [])
    refine Go.to (fun _ => XS.aload X17.here hx rfl (hb hby at_120) rfl rfl) ?_
    show Go p e below _ T17 (mkF m 122 #[.val (.int p1), .val (.int p2), .val (.int p3), .val (.int p4), .val (.int zc), .val (.int (2 : Int32)), .val (.ref a1), .val (.int (1 : Int32)), .val (.ref b2)] [(.ref b2)])
    refine Go.alen X17 hx hZ e17 (O14.av (k := 0) rfl rfl) (hb hby at_122) ?_
    show Go p e below _ T17 (mkF m 123 #[.val (.int p1), .val (.int p2), .val (.int p3), .val (.int p4), .val (.int zc), .val (.int (2 : Int32)), .val (.ref a1), .val (.int (1 : Int32)), .val (.ref b2)] [(.int (((p1 :: p2 :: (0 : Int32) :: ys)).length.toInt32))])
    refine Go.to (fun _ => XS.iload X17.here hx rfl (hb hby at_123) rfl) ?_
    show Go p e below _ T17 (mkF m 125 #[.val (.int p1), .val (.int p2), .val (.int p3), .val (.int p4), .val (.int zc), .val (.int (2 : Int32)), .val (.ref a1), .val (.int (1 : Int32)), .val (.ref b2)] [(.int zc), (.int (((p1 :: p2 :: (0 : Int32) :: ys)).length.toInt32))])
    refine Go.to (fun _ => XS.icmpNo X17.here hx rfl (hb hby at_125) rfl (teq (own_len hzc hyl)).2) ?_
    show Go p e below _ T17 (mkF m 128 #[.val (.int p1), .val (.int p2), .val (.int p3), .val (.int p4), .val (.int zc), .val (.int (2 : Int32)), .val (.ref a1), .val (.int (1 : Int32)), .val (.ref b2)] [])
    refine Go.to (fun _ => XS.iconst X17.here hx rfl (hb hby at_128)) ?_
    show Go p e below _ T17 (mkF m 129 #[.val (.int p1), .val (.int p2), .val (.int p3), .val (.int p4), .val (.int zc), .val (.int (2 : Int32)), .val (.ref a1), .val (.int (1 : Int32)), .val (.ref b2)] [(.int (1 : Int32))])
    refine Go.to (fun _ => XS.goto X17.here hx rfl (pc0 := 129) (pc' := 133) rfl (hb hby at_129) (by decide) (by decide)) ?_
    show Go p e below _ T17 (mkF m 133 #[.val (.int p1), .val (.int p2), .val (.int p3), .val (.int p4), .val (.int zc), .val (.int (2 : Int32)), .val (.ref a1), .val (.int (1 : Int32)), .val (.ref b2)] [(.int (1 : Int32))])
    refine Go.to (fun _ => XS.istore X17.here hx rfl (hb hby at_133) rfl (l' := #[.val (.int p1), .val (.int p2), .val (.int p3), .val (.int p4), .val (.int zc), .val (.int (2 : Int32)), .val (.ref a1), .val (.int (1 : Int32)), .val (.ref b2)]) rfl) ?_
    show Go p e below _ T17 (mkF m 135 #[.val (.int p1), .val (.int p2), .val (.int p3), .val (.int p4), .val (.int zc), .val (.int (2 : Int32)), .val (.ref a1), .val (.int (1 : Int32)), .val (.ref b2)] [])
    refine Go.to (fun _ => XS.iload X17.here hx rfl (hb hby at_135) rfl) ?_
    show Go p e below _ T17 (mkF m 137 #[.val (.int p1), .val (.int p2), .val (.int p3), .val (.int p4), .val (.int zc), .val (.int (2 : Int32)), .val (.ref a1), .val (.int (1 : Int32)), .val (.ref b2)] [(.int (2 : Int32))])
    refine Go.to (fun _ => XS.iconst X17.here hx rfl (hb hby at_137)) ?_
    show Go p e below _ T17 (mkF m 138 #[.val (.int p1), .val (.int p2), .val (.int p3), .val (.int p4), .val (.int zc), .val (.int (2 : Int32)), .val (.ref a1), .val (.int (1 : Int32)), .val (.ref b2)] [(.int (1 : Int32)), (.int (2 : Int32))])
    refine Go.to (fun _ => XS.icmpNo X17.here hx rfl (hb hby at_138) rfl (flt (by decide)).1) ?_
    show Go p e below _ T17 (mkF m 141 #[.val (.int p1), .val (.int p2), .val (.int p3), .val (.int p4), .val (.int zc), .val (.int (2 : Int32)), .val (.ref a1), .val (.int (1 : Int32)), .val (.ref b2)] [])
    refine Go.to (fun _ => XS.iload X17.here hx rfl (hb hby at_141) rfl) ?_
    show Go p e below _ T17 (mkF m 143 #[.val (.int p1), .val (.int p2), .val (.int p3), .val (.int p4), .val (.int zc), .val (.int (2 : Int32)), .val (.ref a1), .val (.int (1 : Int32)), .val (.ref b2)] [(.int (1 : Int32))])
    refine Go.to (fun _ => XS.ifNo X17.here hx rfl (hb hby at_143) rfl ((if0 _ _).trans (feq (by decide)).1)) ?_
    show Go p e below _ T17 (mkF m 146 #[.val (.int p1), .val (.int p2), .val (.int p3), .val (.int p4), .val (.int zc), .val (.int (2 : Int32)), .val (.ref a1), .val (.int (1 : Int32)), .val (.ref b2)] [])
    refine Go.to (fun _ => XS.aload X17.here hx rfl (hb hby at_146) rfl rfl) ?_
    show Go p e below _ T17 (mkF m 148 #[.val (.int p1), .val (.int p2), .val (.int p3), .val (.int p4), .val (.int zc), .val (.int (2 : Int32)), .val (.ref a1), .val (.int (1 : Int32)), .val (.ref b2)] [(.ref b2)])
    refine Go.to (fun _ => XS.iconst X17.here hx rfl (hb hby at_148)) ?_
    show Go p e below _ T17 (mkF m 149 #[.val (.int p1), .val (.int p2), .val (.int p3), .val (.int p4), .val (.int zc), .val (.int (2 : Int32)), .val (.ref a1), .val (.int (1 : Int32)), .val (.ref b2)] [(.int (0 : Int32)), (.ref b2)])
    refine Go.oload X17 hx hZ e17 O14 (k := 0) rfl rfl rfl (hb hby at_149) ?_
    show Go p e below _ T17 (mkF m 150 #[.val (.int p1), .val (.int p2), .val (.int p3), .val (.int p4), .val (.int zc), .val (.int (2 : Int32)), .val (.ref a1), .val (.int (1 : Int32)), .val (.ref b2)] [(.int p1)])
    refine Go.to (fun _ => XS.iloadN X17.here hx rfl (hb hby at_150) rfl) ?_
    show Go p e below _ T17 (mkF m 151 #[.val (.int p1), .val (.int p2), .val (.int p3), .val (.int p4), .val (.int zc), .val (.int (2 : Int32)), .val (.ref a1), .val (.int (1 : Int32)), .val (.ref b2)] [(.int p1), (.int p1)])
    refine Go.to (fun _ => XS.icmpNo X17.here hx rfl (hb hby at_151) rfl (teq rfl).2) ?_
    show Go p e below _ T17 (mkF m 154 #[.val (.int p1), .val (.int p2), .val (.int p3), .val (.int p4), .val (.int zc), .val (.int (2 : Int32)), .val (.ref a1), .val (.int (1 : Int32)), .val (.ref b2)] [])
    refine Go.to (fun _ => XS.iconst X17.here hx rfl (hb hby at_154)) ?_
    show Go p e below _ T17 (mkF m 155 #[.val (.int p1), .val (.int p2), .val (.int p3), .val (.int p4), .val (.int zc), .val (.int (2 : Int32)), .val (.ref a1), .val (.int (1 : Int32)), .val (.ref b2)] [(.int (1 : Int32))])
    refine Go.to (fun _ => XS.goto X17.here hx rfl (pc0 := 155) (pc' := 159) rfl (hb hby at_155) (by decide) (by decide)) ?_
    show Go p e below _ T17 (mkF m 159 #[.val (.int p1), .val (.int p2), .val (.int p3), .val (.int p4), .val (.int zc), .val (.int (2 : Int32)), .val (.ref a1), .val (.int (1 : Int32)), .val (.ref b2)] [(.int (1 : Int32))])
    refine Go.to (fun _ => XS.istore X17.here hx rfl (hb hby at_159) rfl (l' := #[.val (.int p1), .val (.int p2), .val (.int p3), .val (.int p4), .val (.int zc), .val (.int (2 : Int32)), .val (.ref a1), .val (.int (1 : Int32)), .val (.ref b2)]) rfl) ?_
    show Go p e below _ T17 (mkF m 161 #[.val (.int p1), .val (.int p2), .val (.int p3), .val (.int p4), .val (.int zc), .val (.int (2 : Int32)), .val (.ref a1), .val (.int (1 : Int32)), .val (.ref b2)] [])
    refine Go.to (fun _ => XS.iload X17.here hx rfl (hb hby at_161) rfl) ?_
    show Go p e below _ T17 (mkF m 163 #[.val (.int p1), .val (.int p2), .val (.int p3), .val (.int p4), .val (.int zc), .val (.int (2 : Int32)), .val (.ref a1), .val (.int (1 : Int32)), .val (.ref b2)] [(.int (2 : Int32))])
    refine Go.to (fun _ => XS.iconst X17.here hx rfl (hb hby at_163)) ?_
    show Go p e below _ T17 (mkF m 164 #[.val (.int p1), .val (.int p2), .val (.int p3), .val (.int p4), .val (.int zc), .val (.int (2 : Int32)), .val (.ref a1), .val (.int (1 : Int32)), .val (.ref b2)] [(.int (2 : Int32)), (.int (2 : Int32))])
    refine Go.to (fun _ => XS.icmpNo X17.here hx rfl (hb hby at_164) rfl (flt (by decide)).1) ?_
    show Go p e below _ T17 (mkF m 167 #[.val (.int p1), .val (.int p2), .val (.int p3), .val (.int p4), .val (.int zc), .val (.int (2 : Int32)), .val (.ref a1), .val (.int (1 : Int32)), .val (.ref b2)] [])
    refine Go.to (fun _ => XS.iload X17.here hx rfl (hb hby at_167) rfl) ?_
    show Go p e below _ T17 (mkF m 169 #[.val (.int p1), .val (.int p2), .val (.int p3), .val (.int p4), .val (.int zc), .val (.int (2 : Int32)), .val (.ref a1), .val (.int (1 : Int32)), .val (.ref b2)] [(.int (1 : Int32))])
    refine Go.to (fun _ => XS.ifNo X17.here hx rfl (hb hby at_169) rfl ((if0 _ _).trans (feq (by decide)).1)) ?_
    show Go p e below _ T17 (mkF m 172 #[.val (.int p1), .val (.int p2), .val (.int p3), .val (.int p4), .val (.int zc), .val (.int (2 : Int32)), .val (.ref a1), .val (.int (1 : Int32)), .val (.ref b2)] [])
    refine Go.to (fun _ => XS.aload X17.here hx rfl (hb hby at_172) rfl rfl) ?_
    show Go p e below _ T17 (mkF m 174 #[.val (.int p1), .val (.int p2), .val (.int p3), .val (.int p4), .val (.int zc), .val (.int (2 : Int32)), .val (.ref a1), .val (.int (1 : Int32)), .val (.ref b2)] [(.ref b2)])
    refine Go.to (fun _ => XS.iconst X17.here hx rfl (hb hby at_174)) ?_
    show Go p e below _ T17 (mkF m 175 #[.val (.int p1), .val (.int p2), .val (.int p3), .val (.int p4), .val (.int zc), .val (.int (2 : Int32)), .val (.ref a1), .val (.int (1 : Int32)), .val (.ref b2)] [(.int (1 : Int32)), (.ref b2)])
    refine Go.oload X17 hx hZ e17 O14 (k := 0) rfl rfl rfl (hb hby at_175) ?_
    show Go p e below _ T17 (mkF m 176 #[.val (.int p1), .val (.int p2), .val (.int p3), .val (.int p4), .val (.int zc), .val (.int (2 : Int32)), .val (.ref a1), .val (.int (1 : Int32)), .val (.ref b2)] [(.int p2)])
    refine Go.to (fun _ => XS.iloadN X17.here hx rfl (hb hby at_176) rfl) ?_
    show Go p e below _ T17 (mkF m 177 #[.val (.int p1), .val (.int p2), .val (.int p3), .val (.int p4), .val (.int zc), .val (.int (2 : Int32)), .val (.ref a1), .val (.int (1 : Int32)), .val (.ref b2)] [(.int p2), (.int p2)])
    refine Go.to (fun _ => XS.icmpNo X17.here hx rfl (hb hby at_177) rfl (teq rfl).2) ?_
    show Go p e below _ T17 (mkF m 180 #[.val (.int p1), .val (.int p2), .val (.int p3), .val (.int p4), .val (.int zc), .val (.int (2 : Int32)), .val (.ref a1), .val (.int (1 : Int32)), .val (.ref b2)] [])
    refine Go.to (fun _ => XS.iconst X17.here hx rfl (hb hby at_180)) ?_
    show Go p e below _ T17 (mkF m 181 #[.val (.int p1), .val (.int p2), .val (.int p3), .val (.int p4), .val (.int zc), .val (.int (2 : Int32)), .val (.ref a1), .val (.int (1 : Int32)), .val (.ref b2)] [(.int (1 : Int32))])
    refine Go.to (fun _ => XS.goto X17.here hx rfl (pc0 := 181) (pc' := 185) rfl (hb hby at_181) (by decide) (by decide)) ?_
    show Go p e below _ T17 (mkF m 185 #[.val (.int p1), .val (.int p2), .val (.int p3), .val (.int p4), .val (.int zc), .val (.int (2 : Int32)), .val (.ref a1), .val (.int (1 : Int32)), .val (.ref b2)] [(.int (1 : Int32))])
    refine Go.to (fun _ => XS.istore X17.here hx rfl (hb hby at_185) rfl (l' := #[.val (.int p1), .val (.int p2), .val (.int p3), .val (.int p4), .val (.int zc), .val (.int (2 : Int32)), .val (.ref a1), .val (.int (1 : Int32)), .val (.ref b2)]) rfl) ?_
    show Go p e below _ T17 (mkF m 187 #[.val (.int p1), .val (.int p2), .val (.int p3), .val (.int p4), .val (.int zc), .val (.int (2 : Int32)), .val (.ref a1), .val (.int (1 : Int32)), .val (.ref b2)] [])
    refine Go.to (fun _ => XS.iload X17.here hx rfl (hb hby at_187) rfl) ?_
    show Go p e below _ T17 (mkF m 189 #[.val (.int p1), .val (.int p2), .val (.int p3), .val (.int p4), .val (.int zc), .val (.int (2 : Int32)), .val (.ref a1), .val (.int (1 : Int32)), .val (.ref b2)] [(.int (2 : Int32))])
    refine Go.to (fun _ => XS.iconst X17.here hx rfl (hb hby at_189)) ?_
    show Go p e below _ T17 (mkF m 190 #[.val (.int p1), .val (.int p2), .val (.int p3), .val (.int p4), .val (.int zc), .val (.int (2 : Int32)), .val (.ref a1), .val (.int (1 : Int32)), .val (.ref b2)] [(.int (3 : Int32)), (.int (2 : Int32))])
    refine Go.to (fun _ => XS.icmpYes X17.here hx rfl (pc0 := 190) (pc' := 213) rfl (hb hby at_190) rfl (tlt (by decide)).1 (by decide) (by decide)) ?_
    show Go p e below _ T17 (mkF m 213 #[.val (.int p1), .val (.int p2), .val (.int p3), .val (.int p4), .val (.int zc), .val (.int (2 : Int32)), .val (.ref a1), .val (.int (1 : Int32)), .val (.ref b2)] [])
    refine Go.to (fun _ => XS.iload X17.here hx rfl (hb hby at_213) rfl) ?_
    show Go p e below _ T17 (mkF m 215 #[.val (.int p1), .val (.int p2), .val (.int p3), .val (.int p4), .val (.int zc), .val (.int (2 : Int32)), .val (.ref a1), .val (.int (1 : Int32)), .val (.ref b2)] [(.int (2 : Int32))])
    refine Go.to (fun _ => XS.iconst X17.here hx rfl (hb hby at_215)) ?_
    show Go p e below _ T17 (mkF m 216 #[.val (.int p1), .val (.int p2), .val (.int p3), .val (.int p4), .val (.int zc), .val (.int (2 : Int32)), .val (.ref a1), .val (.int (1 : Int32)), .val (.ref b2)] [(.int (3 : Int32)), (.int (2 : Int32))])
    refine Go.to (fun _ => XS.icmpNo X17.here hx rfl (hb hby at_216) rfl (tlt (by decide)).2.1) ?_
    show Go p e below _ T17 (mkF m 219 #[.val (.int p1), .val (.int p2), .val (.int p3), .val (.int p4), .val (.int zc), .val (.int (2 : Int32)), .val (.ref a1), .val (.int (1 : Int32)), .val (.ref b2)] [])
    refine Go.to (fun _ => XS.iload X17.here hx rfl (hb hby at_219) rfl) ?_
    show Go p e below _ T17 (mkF m 221 #[.val (.int p1), .val (.int p2), .val (.int p3), .val (.int p4), .val (.int zc), .val (.int (2 : Int32)), .val (.ref a1), .val (.int (1 : Int32)), .val (.ref b2)] [(.int (1 : Int32))])
    refine Go.to (fun _ => XS.ifNo X17.here hx rfl (hb hby at_221) rfl ((if0 _ _).trans (feq (by decide)).1)) ?_
    show Go p e below _ T17 (mkF m 224 #[.val (.int p1), .val (.int p2), .val (.int p3), .val (.int p4), .val (.int zc), .val (.int (2 : Int32)), .val (.ref a1), .val (.int (1 : Int32)), .val (.ref b2)] [])
    refine Go.to (fun _ => XS.aload X17.here hx rfl (hb hby at_224) rfl rfl) ?_
    show Go p e below _ T17 (mkF m 226 #[.val (.int p1), .val (.int p2), .val (.int p3), .val (.int p4), .val (.int zc), .val (.int (2 : Int32)), .val (.ref a1), .val (.int (1 : Int32)), .val (.ref b2)] [(.ref b2)])
    refine Go.to (fun _ => XS.iload X17.here hx rfl (hb hby at_226) rfl) ?_
    show Go p e below _ T17 (mkF m 228 #[.val (.int p1), .val (.int p2), .val (.int p3), .val (.int p4), .val (.int zc), .val (.int (2 : Int32)), .val (.ref a1), .val (.int (1 : Int32)), .val (.ref b2)] [(.int (2 : Int32)), (.ref b2)])
    refine Go.oload X17 hx hZ e17 O14 (k := 0) rfl rfl rfl (hb hby at_228) ?_
    show Go p e below _ T17 (mkF m 229 #[.val (.int p1), .val (.int p2), .val (.int p3), .val (.int p4), .val (.int zc), .val (.int (2 : Int32)), .val (.ref a1), .val (.int (1 : Int32)), .val (.ref b2)] [(.int (0 : Int32))])
    refine Go.to (fun _ => XS.ifNo X17.here hx rfl (hb hby at_229) rfl ((if0 _ _).trans (teq (by decide)).2)) ?_
    show Go p e below _ T17 (mkF m 232 #[.val (.int p1), .val (.int p2), .val (.int p3), .val (.int p4), .val (.int zc), .val (.int (2 : Int32)), .val (.ref a1), .val (.int (1 : Int32)), .val (.ref b2)] [])
    refine Go.to (fun _ => XS.iconst X17.here hx rfl (hb hby at_232)) ?_
    show Go p e below _ T17 (mkF m 233 #[.val (.int p1), .val (.int p2), .val (.int p3), .val (.int p4), .val (.int zc), .val (.int (2 : Int32)), .val (.ref a1), .val (.int (1 : Int32)), .val (.ref b2)] [(.int (1 : Int32))])
    refine Go.to (fun _ => XS.goto X17.here hx rfl (pc0 := 233) (pc' := 237) rfl (hb hby at_233) (by decide) (by decide)) ?_
    show Go p e below _ T17 (mkF m 237 #[.val (.int p1), .val (.int p2), .val (.int p3), .val (.int p4), .val (.int zc), .val (.int (2 : Int32)), .val (.ref a1), .val (.int (1 : Int32)), .val (.ref b2)] [(.int (1 : Int32))])
    refine Go.to (fun _ => XS.istore X17.here hx rfl (hb hby at_237) rfl (l' := #[.val (.int p1), .val (.int p2), .val (.int p3), .val (.int p4), .val (.int zc), .val (.int (2 : Int32)), .val (.ref a1), .val (.int (1 : Int32)), .val (.ref b2)]) rfl) ?_
    show Go p e below _ T17 (mkF m 239 #[.val (.int p1), .val (.int p2), .val (.int p3), .val (.int p4), .val (.int zc), .val (.int (2 : Int32)), .val (.ref a1), .val (.int (1 : Int32)), .val (.ref b2)] [])
    refine Go.to (fun _ => XS.iload X17.here hx rfl (hb hby at_239) rfl) ?_
    show Go p e below _ T17 (mkF m 241 #[.val (.int p1), .val (.int p2), .val (.int p3), .val (.int p4), .val (.int zc), .val (.int (2 : Int32)), .val (.ref a1), .val (.int (1 : Int32)), .val (.ref b2)] [(.int (2 : Int32))])
    refine Go.to (fun _ => XS.iconst X17.here hx rfl (hb hby at_241)) ?_
    show Go p e below _ T17 (mkF m 242 #[.val (.int p1), .val (.int p2), .val (.int p3), .val (.int p4), .val (.int zc), .val (.int (2 : Int32)), .val (.ref a1), .val (.int (1 : Int32)), .val (.ref b2)] [(.int (1 : Int32)), (.int (2 : Int32))])
    refine Go.to (fun _ => XS.icmpNo X17.here hx rfl (hb hby at_242) rfl (flt (by decide)).1) ?_
    show Go p e below _ T17 (mkF m 245 #[.val (.int p1), .val (.int p2), .val (.int p3), .val (.int p4), .val (.int zc), .val (.int (2 : Int32)), .val (.ref a1), .val (.int (1 : Int32)), .val (.ref b2)] [])
    refine Go.to (fun _ => XS.iload X17.here hx rfl (hb hby at_245) rfl) ?_
    show Go p e below _ T17 (mkF m 247 #[.val (.int p1), .val (.int p2), .val (.int p3), .val (.int p4), .val (.int zc), .val (.int (2 : Int32)), .val (.ref a1), .val (.int (1 : Int32)), .val (.ref b2)] [(.int (1 : Int32))])
    refine Go.to (fun _ => XS.ifNo X17.here hx rfl (hb hby at_247) rfl ((if0 _ _).trans (feq (by decide)).1)) ?_
    show Go p e below _ T17 (mkF m 250 #[.val (.int p1), .val (.int p2), .val (.int p3), .val (.int p4), .val (.int zc), .val (.int (2 : Int32)), .val (.ref a1), .val (.int (1 : Int32)), .val (.ref b2)] [])
    refine Go.to (fun _ => XS.aload X17.here hx rfl (hb hby at_250) rfl rfl) ?_
    show Go p e below _ T17 (mkF m 252 #[.val (.int p1), .val (.int p2), .val (.int p3), .val (.int p4), .val (.int zc), .val (.int (2 : Int32)), .val (.ref a1), .val (.int (1 : Int32)), .val (.ref b2)] [(.ref a1)])
    refine Go.callV (y := (⟨"com/example/eventually/eventually/solver/StateQueue", "take", "()I"⟩ : MethodName)) X17 hx hZ hown (hw _ (List.mem_of_getElem? (i := 36) rfl)) (hw _ (List.mem_of_getElem? (i := 37) rfl)) (hw _ (List.mem_of_getElem? (i := 39) rfl)) (hw _ (List.mem_of_getElem? (i := 38) rfl)) (hw _ (List.mem_of_getElem? (i := 2) rfl)) (hw _ (List.mem_of_getElem? (i := 40) rfl)) (by decide) (rm7 l Z a0 hw [] a1 T14.heap n0 b2 (0 : Int32) (2 : Int32) (p1 :: p2 :: (0 : Int32) :: ys) O14 p1 rfl) e17 O14.exa (by rw [hml]; rfl) (pd_1) rfl (argsL := []) (rest := []) rfl rfl (hb hby at_252) (by decide) (Nat.le_of_ble_eq_true rfl) (by decide) (by decide) ?_
    rintro T18 _ L18 X18 ⟨rfl, N18, O18⟩
    have O18 : Obj Z n0 T18.heap T18.heap a1 "com/example/eventually/eventually/solver/StateQueue" nFq [.ref b2, .int (1 : Int32), .int (2 : Int32)] [b2] [(p1 :: p2 :: (0 : Int32) :: ys)] := by
      have q1 : (0 : Int32) + (1 : Int32) = (1 : Int32) := by decide
      have O18 := O18.anew
      rw [q1] at O18; exact O18
    have N18 := Fr.app N14 N18
    show Go p e below _ T18 (mkF m 255 #[.val (.int p1), .val (.int p2), .val (.int p3), .val (.int p4), .val (.int zc), .val (.int (2 : Int32)), .val (.ref a1), .val (.int (1 : Int32)), .val (.ref b2)] [(.int p1)])
    refine Go.to (fun _ => XS.iloadN X18.here hx rfl (hb hby at_255) rfl) ?_
    show Go p e below _ T18 (mkF m 256 #[.val (.int p1), .val (.int p2), .val (.int p3), .val (.int p4), .val (.int zc), .val (.int (2 : Int32)), .val (.ref a1), .val (.int (1 : Int32)), .val (.ref b2)] [(.int p1), (.int p1)])
    refine Go.to (fun _ => XS.icmpNo X18.here hx rfl (hb hby at_256) rfl (teq rfl).2) ?_
    show Go p e below _ T18 (mkF m 259 #[.val (.int p1), .val (.int p2), .val (.int p3), .val (.int p4), .val (.int zc), .val (.int (2 : Int32)), .val (.ref a1), .val (.int (1 : Int32)), .val (.ref b2)] [])
    refine Go.to (fun _ => XS.iconst X18.here hx rfl (hb hby at_259)) ?_
    show Go p e below _ T18 (mkF m 260 #[.val (.int p1), .val (.int p2), .val (.int p3), .val (.int p4), .val (.int zc), .val (.int (2 : Int32)), .val (.ref a1), .val (.int (1 : Int32)), .val (.ref b2)] [(.int (1 : Int32))])
    refine Go.to (fun _ => XS.goto X18.here hx rfl (pc0 := 260) (pc' := 264) rfl (hb hby at_260) (by decide) (by decide)) ?_
    show Go p e below _ T18 (mkF m 264 #[.val (.int p1), .val (.int p2), .val (.int p3), .val (.int p4), .val (.int zc), .val (.int (2 : Int32)), .val (.ref a1), .val (.int (1 : Int32)), .val (.ref b2)] [(.int (1 : Int32))])
    refine Go.to (fun _ => XS.istore X18.here hx rfl (hb hby at_264) rfl (l' := #[.val (.int p1), .val (.int p2), .val (.int p3), .val (.int p4), .val (.int zc), .val (.int (2 : Int32)), .val (.ref a1), .val (.int (1 : Int32)), .val (.ref b2)]) rfl) ?_
    show Go p e below _ T18 (mkF m 266 #[.val (.int p1), .val (.int p2), .val (.int p3), .val (.int p4), .val (.int zc), .val (.int (2 : Int32)), .val (.ref a1), .val (.int (1 : Int32)), .val (.ref b2)] [])
    refine Go.to (fun _ => XS.iload X18.here hx rfl (hb hby at_266) rfl) ?_
    show Go p e below _ T18 (mkF m 268 #[.val (.int p1), .val (.int p2), .val (.int p3), .val (.int p4), .val (.int zc), .val (.int (2 : Int32)), .val (.ref a1), .val (.int (1 : Int32)), .val (.ref b2)] [(.int (2 : Int32))])
    refine Go.to (fun _ => XS.iconst X18.here hx rfl (hb hby at_268)) ?_
    show Go p e below _ T18 (mkF m 269 #[.val (.int p1), .val (.int p2), .val (.int p3), .val (.int p4), .val (.int zc), .val (.int (2 : Int32)), .val (.ref a1), .val (.int (1 : Int32)), .val (.ref b2)] [(.int (2 : Int32)), (.int (2 : Int32))])
    refine Go.to (fun _ => XS.icmpNo X18.here hx rfl (hb hby at_269) rfl (flt (by decide)).1) ?_
    show Go p e below _ T18 (mkF m 272 #[.val (.int p1), .val (.int p2), .val (.int p3), .val (.int p4), .val (.int zc), .val (.int (2 : Int32)), .val (.ref a1), .val (.int (1 : Int32)), .val (.ref b2)] [])
    refine Go.to (fun _ => XS.iload X18.here hx rfl (hb hby at_272) rfl) ?_
    show Go p e below _ T18 (mkF m 274 #[.val (.int p1), .val (.int p2), .val (.int p3), .val (.int p4), .val (.int zc), .val (.int (2 : Int32)), .val (.ref a1), .val (.int (1 : Int32)), .val (.ref b2)] [(.int (1 : Int32))])
    refine Go.to (fun _ => XS.ifNo X18.here hx rfl (hb hby at_274) rfl ((if0 _ _).trans (feq (by decide)).1)) ?_
    show Go p e below _ T18 (mkF m 277 #[.val (.int p1), .val (.int p2), .val (.int p3), .val (.int p4), .val (.int zc), .val (.int (2 : Int32)), .val (.ref a1), .val (.int (1 : Int32)), .val (.ref b2)] [])
    refine Go.to (fun _ => XS.aload X18.here hx rfl (hb hby at_277) rfl rfl) ?_
    show Go p e below _ T18 (mkF m 279 #[.val (.int p1), .val (.int p2), .val (.int p3), .val (.int p4), .val (.int zc), .val (.int (2 : Int32)), .val (.ref a1), .val (.int (1 : Int32)), .val (.ref b2)] [(.ref a1)])
    refine Go.callV (y := (⟨"com/example/eventually/eventually/solver/StateQueue", "take", "()I"⟩ : MethodName)) X18 hx hZ hown (hw _ (List.mem_of_getElem? (i := 36) rfl)) (hw _ (List.mem_of_getElem? (i := 37) rfl)) (hw _ (List.mem_of_getElem? (i := 39) rfl)) (hw _ (List.mem_of_getElem? (i := 38) rfl)) (hw _ (List.mem_of_getElem? (i := 2) rfl)) (hw _ (List.mem_of_getElem? (i := 40) rfl)) (by decide) (rm7 l Z a0 hw [] a1 T18.heap n0 b2 (1 : Int32) (2 : Int32) (p1 :: p2 :: (0 : Int32) :: ys) O18 p2 rfl) rfl O18.exa (by rw [hml]; rfl) (pd_1) rfl (argsL := []) (rest := []) rfl rfl (hb hby at_279) (by decide) (Nat.le_of_ble_eq_true rfl) (by decide) (by decide) ?_
    rintro T19 _ L19 X19 ⟨rfl, N19, O19⟩
    have O19 : Obj Z n0 T19.heap T19.heap a1 "com/example/eventually/eventually/solver/StateQueue" nFq [.ref b2, .int (2 : Int32), .int (2 : Int32)] [b2] [(p1 :: p2 :: (0 : Int32) :: ys)] := by
      have q1 : (1 : Int32) + (1 : Int32) = (2 : Int32) := by decide
      have O19 := O19.anew
      rw [q1] at O19; exact O19
    have N19 := Fr.app N18 N19
    show Go p e below _ T19 (mkF m 282 #[.val (.int p1), .val (.int p2), .val (.int p3), .val (.int p4), .val (.int zc), .val (.int (2 : Int32)), .val (.ref a1), .val (.int (1 : Int32)), .val (.ref b2)] [(.int p2)])
    refine Go.to (fun _ => XS.iloadN X19.here hx rfl (hb hby at_282) rfl) ?_
    show Go p e below _ T19 (mkF m 283 #[.val (.int p1), .val (.int p2), .val (.int p3), .val (.int p4), .val (.int zc), .val (.int (2 : Int32)), .val (.ref a1), .val (.int (1 : Int32)), .val (.ref b2)] [(.int p2), (.int p2)])
    refine Go.to (fun _ => XS.icmpNo X19.here hx rfl (hb hby at_283) rfl (teq rfl).2) ?_
    show Go p e below _ T19 (mkF m 286 #[.val (.int p1), .val (.int p2), .val (.int p3), .val (.int p4), .val (.int zc), .val (.int (2 : Int32)), .val (.ref a1), .val (.int (1 : Int32)), .val (.ref b2)] [])
    refine Go.to (fun _ => XS.iconst X19.here hx rfl (hb hby at_286)) ?_
    show Go p e below _ T19 (mkF m 287 #[.val (.int p1), .val (.int p2), .val (.int p3), .val (.int p4), .val (.int zc), .val (.int (2 : Int32)), .val (.ref a1), .val (.int (1 : Int32)), .val (.ref b2)] [(.int (1 : Int32))])
    refine Go.to (fun _ => XS.goto X19.here hx rfl (pc0 := 287) (pc' := 291) rfl (hb hby at_287) (by decide) (by decide)) ?_
    show Go p e below _ T19 (mkF m 291 #[.val (.int p1), .val (.int p2), .val (.int p3), .val (.int p4), .val (.int zc), .val (.int (2 : Int32)), .val (.ref a1), .val (.int (1 : Int32)), .val (.ref b2)] [(.int (1 : Int32))])
    refine Go.to (fun _ => XS.istore X19.here hx rfl (hb hby at_291) rfl (l' := #[.val (.int p1), .val (.int p2), .val (.int p3), .val (.int p4), .val (.int zc), .val (.int (2 : Int32)), .val (.ref a1), .val (.int (1 : Int32)), .val (.ref b2)]) rfl) ?_
    show Go p e below _ T19 (mkF m 293 #[.val (.int p1), .val (.int p2), .val (.int p3), .val (.int p4), .val (.int zc), .val (.int (2 : Int32)), .val (.ref a1), .val (.int (1 : Int32)), .val (.ref b2)] [])
    refine Go.to (fun _ => XS.iload X19.here hx rfl (hb hby at_293) rfl) ?_
    show Go p e below _ T19 (mkF m 295 #[.val (.int p1), .val (.int p2), .val (.int p3), .val (.int p4), .val (.int zc), .val (.int (2 : Int32)), .val (.ref a1), .val (.int (1 : Int32)), .val (.ref b2)] [(.int (2 : Int32))])
    refine Go.to (fun _ => XS.iconst X19.here hx rfl (hb hby at_295)) ?_
    show Go p e below _ T19 (mkF m 296 #[.val (.int p1), .val (.int p2), .val (.int p3), .val (.int p4), .val (.int zc), .val (.int (2 : Int32)), .val (.ref a1), .val (.int (1 : Int32)), .val (.ref b2)] [(.int (3 : Int32)), (.int (2 : Int32))])
    refine Go.to (fun _ => XS.icmpYes X19.here hx rfl (pc0 := 296) (pc' := 320) rfl (hb hby at_296) rfl (tlt (by decide)).1 (by decide) (by decide)) ?_
    show Go p e below _ T19 (mkF m 320 #[.val (.int p1), .val (.int p2), .val (.int p3), .val (.int p4), .val (.int zc), .val (.int (2 : Int32)), .val (.ref a1), .val (.int (1 : Int32)), .val (.ref b2)] [])
    refine Go.to (fun _ => XS.iload X19.here hx rfl (hb hby at_320) rfl) ?_
    show Go p e below _ T19 (mkF m 322 #[.val (.int p1), .val (.int p2), .val (.int p3), .val (.int p4), .val (.int zc), .val (.int (2 : Int32)), .val (.ref a1), .val (.int (1 : Int32)), .val (.ref b2)] [(.int (1 : Int32))])
    refine Go.to (fun _ => XS.ifNo X19.here hx rfl (hb hby at_322) rfl ((if0 _ _).trans (feq (by decide)).1)) ?_
    show Go p e below _ T19 (mkF m 325 #[.val (.int p1), .val (.int p2), .val (.int p3), .val (.int p4), .val (.int zc), .val (.int (2 : Int32)), .val (.ref a1), .val (.int (1 : Int32)), .val (.ref b2)] [])
    refine Go.to (fun _ => XS.aload X19.here hx rfl (hb hby at_325) rfl rfl) ?_
    show Go p e below _ T19 (mkF m 327 #[.val (.int p1), .val (.int p2), .val (.int p3), .val (.int p4), .val (.int zc), .val (.int (2 : Int32)), .val (.ref a1), .val (.int (1 : Int32)), .val (.ref b2)] [(.ref a1)])
    refine Go.callV (y := (⟨"com/example/eventually/eventually/solver/StateQueue", "isEmpty", "()Z"⟩ : MethodName)) X19 hx hZ hown (hw _ (List.mem_of_getElem? (i := 19) rfl)) (hw _ (List.mem_of_getElem? (i := 20) rfl)) (hw _ (List.mem_of_getElem? (i := 22) rfl)) (hw _ (List.mem_of_getElem? (i := 21) rfl)) (hw _ (List.mem_of_getElem? (i := 2) rfl)) (hw _ (List.mem_of_getElem? (i := 23) rfl)) (by decide) (rm4 l Z a0 hw [] a1 T19.heap n0 b2 (2 : Int32) (2 : Int32) (p1 :: p2 :: (0 : Int32) :: ys) O19) rfl O19.exa (by rw [hml]; rfl) (pd_2) rfl (argsL := []) (rest := []) rfl rfl (hb hby at_327) (by decide) (Nat.le_of_ble_eq_true rfl) (by decide) (by decide) ?_
    rintro T20 _ L20 X20 ⟨rfl, e20, rfl⟩
    simp only [List.append_nil] at X20
    show Go p e below _ T20 (mkF m 330 #[.val (.int p1), .val (.int p2), .val (.int p3), .val (.int p4), .val (.int zc), .val (.int (2 : Int32)), .val (.ref a1), .val (.int (1 : Int32)), .val (.ref b2)] [(.int (1 : Int32))])
    refine Go.to (fun _ => XS.ifNo X20.here hx rfl (hb hby at_330) rfl ((if0 _ _).trans (feq (by decide)).1)) ?_
    show Go p e below _ T20 (mkF m 333 #[.val (.int p1), .val (.int p2), .val (.int p3), .val (.int p4), .val (.int zc), .val (.int (2 : Int32)), .val (.ref a1), .val (.int (1 : Int32)), .val (.ref b2)] [])
    refine Go.to (fun _ => XS.iconst X20.here hx rfl (hb hby at_333)) ?_
    show Go p e below _ T20 (mkF m 334 #[.val (.int p1), .val (.int p2), .val (.int p3), .val (.int p4), .val (.int zc), .val (.int (2 : Int32)), .val (.ref a1), .val (.int (1 : Int32)), .val (.ref b2)] [(.int (1 : Int32))])
    refine Go.to (fun _ => XS.goto X20.here hx rfl (pc0 := 334) (pc' := 338) rfl (hb hby at_334) (by decide) (by decide)) ?_
    show Go p e below _ T20 (mkF m 338 #[.val (.int p1), .val (.int p2), .val (.int p3), .val (.int p4), .val (.int zc), .val (.int (2 : Int32)), .val (.ref a1), .val (.int (1 : Int32)), .val (.ref b2)] [(.int (1 : Int32))])
    refine Go.to (fun _ => XS.istore X20.here hx rfl (hb hby at_338) rfl (l' := #[.val (.int p1), .val (.int p2), .val (.int p3), .val (.int p4), .val (.int zc), .val (.int (2 : Int32)), .val (.ref a1), .val (.int (1 : Int32)), .val (.ref b2)]) rfl) ?_
    show Go p e below _ T20 (mkF m 340 #[.val (.int p1), .val (.int p2), .val (.int p3), .val (.int p4), .val (.int zc), .val (.int (2 : Int32)), .val (.ref a1), .val (.int (1 : Int32)), .val (.ref b2)] [])
    refine Go.to (fun _ => XS.iload X20.here hx rfl (hb hby at_340) rfl) ?_
    show Go p e below _ T20 (mkF m 342 #[.val (.int p1), .val (.int p2), .val (.int p3), .val (.int p4), .val (.int zc), .val (.int (2 : Int32)), .val (.ref a1), .val (.int (1 : Int32)), .val (.ref b2)] [(.int (1 : Int32))])
    rw [hK]
    exact Go.retZ X20 hx hlk hret (by decide) (hb hby at_342) ⟨rfl, N19⟩ (by decide) (by decide)
  · show Go p e below _ T2 (mkF m 25 #[.val (.int p1), .val (.int p2), .val (.int p3), .val (.int p4), .val (.int zc), .val (.int (3 : Int32)), .val (.ref a1), .unset, .unset] [])
    refine Go.to (fun _ => XS.iload X2.here hx rfl (hb hby at_25) rfl) ?_
    show Go p e below _ T2 (mkF m 27 #[.val (.int p1), .val (.int p2), .val (.int p3), .val (.int p4), .val (.int zc), .val (.int (3 : Int32)), .val (.ref a1), .unset, .unset] [(.int (3 : Int32))])
    refine Go.to (fun _ => XS.iconst X2.here hx rfl (hb hby at_27)) ?_
    show Go p e below _ T2 (mkF m 28 #[.val (.int p1), .val (.int p2), .val (.int p3), .val (.int p4), .val (.int zc), .val (.int (3 : Int32)), .val (.ref a1), .unset, .unset] [(.int (1 : Int32)), (.int (3 : Int32))])
    refine Go.to (fun _ => XS.icmpNo X2.here hx rfl (hb hby at_28) rfl (flt (by decide)).1) ?_
    show Go p e below _ T2 (mkF m 31 #[.val (.int p1), .val (.int p2), .val (.int p3), .val (.int p4), .val (.int zc), .val (.int (3 : Int32)), .val (.ref a1), .unset, .unset] [])
    refine Go.to (fun _ => XS.aload X2.here hx rfl (hb hby at_31) rfl rfl) ?_
    show Go p e below _ T2 (mkF m 33 #[.val (.int p1), .val (.int p2), .val (.int p3), .val (.int p4), .val (.int zc), .val (.int (3 : Int32)), .val (.ref a1), .unset, .unset] [(.ref a1)])
    refine Go.to (fun _ => XS.iloadN X2.here hx rfl (hb hby at_33) rfl) ?_
    show Go p e below _ T2 (mkF m 34 #[.val (.int p1), .val (.int p2), .val (.int p3), .val (.int p4), .val (.int zc), .val (.int (3 : Int32)), .val (.ref a1), .unset, .unset] [(.int p1), (.ref a1)])
    refine Go.callV (y := (⟨"com/example/eventually/eventually/solver/StateQueue", "add", "(I)V"⟩ : MethodName)) X2 hx hZ hown (hw _ (List.mem_of_getElem? (i := 31) rfl)) (hw _ (List.mem_of_getElem? (i := 32) rfl)) (hw _ (List.mem_of_getElem? (i := 34) rfl)) (hw _ (List.mem_of_getElem? (i := 33) rfl)) (hw _ (List.mem_of_getElem? (i := 2) rfl)) (hw _ (List.mem_of_getElem? (i := 35) rfl)) (by decide) (rm6 l Z a0 hw [] a1 p1 T2.heap n0 b2 (0 : Int32) (0 : Int32) ((0 : Int32) :: (0 : Int32) :: (0 : Int32) :: ys) O2 (0 : Int32) rfl) rfl O2.exa (by rw [hml]; rfl) (pd_0) rfl (argsL := [(.int p1)]) (rest := []) rfl rfl (hb hby at_34) (by decide) (Nat.le_of_ble_eq_true rfl) (by decide) (by decide) ?_
    rintro T21 _ L21 X21 ⟨rfl, N21, O21⟩
    have O21 : Obj Z n0 T21.heap T21.heap a1 "com/example/eventually/eventually/solver/StateQueue" nFq [.ref b2, .int (0 : Int32), .int (1 : Int32)] [b2] [(p1 :: (0 : Int32) :: (0 : Int32) :: ys)] := by
      have q1 : (0 : Int32) + (1 : Int32) = (1 : Int32) := by decide
      have q2 : wrL ((0 : Int32) :: (0 : Int32) :: (0 : Int32) :: ys) (0 : Int32) p1 = (p1 :: (0 : Int32) :: (0 : Int32) :: ys) := rfl
      have O21 := O21.anew
      rw [q1, q2] at O21; exact O21
    have N21 := Fr.app N2 N21
    show Go p e below _ T21 (mkF m 37 #[.val (.int p1), .val (.int p2), .val (.int p3), .val (.int p4), .val (.int zc), .val (.int (3 : Int32)), .val (.ref a1), .unset, .unset] [])
    refine Go.to (fun _ => XS.iload X21.here hx rfl (hb hby at_37) rfl) ?_
    show Go p e below _ T21 (mkF m 39 #[.val (.int p1), .val (.int p2), .val (.int p3), .val (.int p4), .val (.int zc), .val (.int (3 : Int32)), .val (.ref a1), .unset, .unset] [(.int (3 : Int32))])
    refine Go.to (fun _ => XS.iconst X21.here hx rfl (hb hby at_39)) ?_
    show Go p e below _ T21 (mkF m 40 #[.val (.int p1), .val (.int p2), .val (.int p3), .val (.int p4), .val (.int zc), .val (.int (3 : Int32)), .val (.ref a1), .unset, .unset] [(.int (2 : Int32)), (.int (3 : Int32))])
    refine Go.to (fun _ => XS.icmpNo X21.here hx rfl (hb hby at_40) rfl (flt (by decide)).1) ?_
    show Go p e below _ T21 (mkF m 43 #[.val (.int p1), .val (.int p2), .val (.int p3), .val (.int p4), .val (.int zc), .val (.int (3 : Int32)), .val (.ref a1), .unset, .unset] [])
    refine Go.to (fun _ => XS.aload X21.here hx rfl (hb hby at_43) rfl rfl) ?_
    show Go p e below _ T21 (mkF m 45 #[.val (.int p1), .val (.int p2), .val (.int p3), .val (.int p4), .val (.int zc), .val (.int (3 : Int32)), .val (.ref a1), .unset, .unset] [(.ref a1)])
    refine Go.to (fun _ => XS.iloadN X21.here hx rfl (hb hby at_45) rfl) ?_
    show Go p e below _ T21 (mkF m 46 #[.val (.int p1), .val (.int p2), .val (.int p3), .val (.int p4), .val (.int zc), .val (.int (3 : Int32)), .val (.ref a1), .unset, .unset] [(.int p2), (.ref a1)])
    refine Go.callV (y := (⟨"com/example/eventually/eventually/solver/StateQueue", "add", "(I)V"⟩ : MethodName)) X21 hx hZ hown (hw _ (List.mem_of_getElem? (i := 31) rfl)) (hw _ (List.mem_of_getElem? (i := 32) rfl)) (hw _ (List.mem_of_getElem? (i := 34) rfl)) (hw _ (List.mem_of_getElem? (i := 33) rfl)) (hw _ (List.mem_of_getElem? (i := 2) rfl)) (hw _ (List.mem_of_getElem? (i := 35) rfl)) (by decide) (rm6 l Z a0 hw [] a1 p2 T21.heap n0 b2 (0 : Int32) (1 : Int32) (p1 :: (0 : Int32) :: (0 : Int32) :: ys) O21 (0 : Int32) rfl) rfl O21.exa (by rw [hml]; rfl) (pd_0) rfl (argsL := [(.int p2)]) (rest := []) rfl rfl (hb hby at_46) (by decide) (Nat.le_of_ble_eq_true rfl) (by decide) (by decide) ?_
    rintro T22 _ L22 X22 ⟨rfl, N22, O22⟩
    have O22 : Obj Z n0 T22.heap T22.heap a1 "com/example/eventually/eventually/solver/StateQueue" nFq [.ref b2, .int (0 : Int32), .int (2 : Int32)] [b2] [(p1 :: p2 :: (0 : Int32) :: ys)] := by
      have q1 : (1 : Int32) + (1 : Int32) = (2 : Int32) := by decide
      have q2 : wrL (p1 :: (0 : Int32) :: (0 : Int32) :: ys) (1 : Int32) p2 = (p1 :: p2 :: (0 : Int32) :: ys) := rfl
      have O22 := O22.anew
      rw [q1, q2] at O22; exact O22
    have N22 := Fr.app N21 N22
    show Go p e below _ T22 (mkF m 49 #[.val (.int p1), .val (.int p2), .val (.int p3), .val (.int p4), .val (.int zc), .val (.int (3 : Int32)), .val (.ref a1), .unset, .unset] [])
    refine Go.to (fun _ => XS.iload X22.here hx rfl (hb hby at_49) rfl) ?_
    show Go p e below _ T22 (mkF m 51 #[.val (.int p1), .val (.int p2), .val (.int p3), .val (.int p4), .val (.int zc), .val (.int (3 : Int32)), .val (.ref a1), .unset, .unset] [(.int (3 : Int32))])
    refine Go.to (fun _ => XS.iconst X22.here hx rfl (hb hby at_51)) ?_
    show Go p e below _ T22 (mkF m 52 #[.val (.int p1), .val (.int p2), .val (.int p3), .val (.int p4), .val (.int zc), .val (.int (3 : Int32)), .val (.ref a1), .unset, .unset] [(.int (3 : Int32)), (.int (3 : Int32))])
    refine Go.to (fun _ => XS.icmpNo X22.here hx rfl (hb hby at_52) rfl (flt (by decide)).1) ?_
    show Go p e below _ T22 (mkF m 55 #[.val (.int p1), .val (.int p2), .val (.int p3), .val (.int p4), .val (.int zc), .val (.int (3 : Int32)), .val (.ref a1), .unset, .unset] [])
    refine Go.to (fun _ => XS.aload X22.here hx rfl (hb hby at_55) rfl rfl) ?_
    show Go p e below _ T22 (mkF m 57 #[.val (.int p1), .val (.int p2), .val (.int p3), .val (.int p4), .val (.int zc), .val (.int (3 : Int32)), .val (.ref a1), .unset, .unset] [(.ref a1)])
    refine Go.to (fun _ => XS.iloadN X22.here hx rfl (hb hby at_57) rfl) ?_
    show Go p e below _ T22 (mkF m 58 #[.val (.int p1), .val (.int p2), .val (.int p3), .val (.int p4), .val (.int zc), .val (.int (3 : Int32)), .val (.ref a1), .unset, .unset] [(.int p3), (.ref a1)])
    refine Go.callV (y := (⟨"com/example/eventually/eventually/solver/StateQueue", "add", "(I)V"⟩ : MethodName)) X22 hx hZ hown (hw _ (List.mem_of_getElem? (i := 31) rfl)) (hw _ (List.mem_of_getElem? (i := 32) rfl)) (hw _ (List.mem_of_getElem? (i := 34) rfl)) (hw _ (List.mem_of_getElem? (i := 33) rfl)) (hw _ (List.mem_of_getElem? (i := 2) rfl)) (hw _ (List.mem_of_getElem? (i := 35) rfl)) (by decide) (rm6 l Z a0 hw [] a1 p3 T22.heap n0 b2 (0 : Int32) (2 : Int32) (p1 :: p2 :: (0 : Int32) :: ys) O22 (0 : Int32) rfl) rfl O22.exa (by rw [hml]; rfl) (pd_0) rfl (argsL := [(.int p3)]) (rest := []) rfl rfl (hb hby at_58) (by decide) (Nat.le_of_ble_eq_true rfl) (by decide) (by decide) ?_
    rintro T23 _ L23 X23 ⟨rfl, N23, O23⟩
    have O23 : Obj Z n0 T23.heap T23.heap a1 "com/example/eventually/eventually/solver/StateQueue" nFq [.ref b2, .int (0 : Int32), .int (3 : Int32)] [b2] [(p1 :: p2 :: p3 :: ys)] := by
      have q1 : (2 : Int32) + (1 : Int32) = (3 : Int32) := by decide
      have q2 : wrL (p1 :: p2 :: (0 : Int32) :: ys) (2 : Int32) p3 = (p1 :: p2 :: p3 :: ys) := rfl
      have O23 := O23.anew
      rw [q1, q2] at O23; exact O23
    have N23 := Fr.app N22 N23
    show Go p e below _ T23 (mkF m 61 #[.val (.int p1), .val (.int p2), .val (.int p3), .val (.int p4), .val (.int zc), .val (.int (3 : Int32)), .val (.ref a1), .unset, .unset] [])
    refine Go.to (fun _ => XS.aload X23.here hx rfl (hb hby at_61) rfl rfl) ?_
    show Go p e below _ T23 (mkF m 63 #[.val (.int p1), .val (.int p2), .val (.int p3), .val (.int p4), .val (.int zc), .val (.int (3 : Int32)), .val (.ref a1), .unset, .unset] [(.ref a1)])
    refine Go.callV (y := (⟨"com/example/eventually/eventually/solver/StateQueue", "size", "()I"⟩ : MethodName)) X23 hx hZ hown (hw _ (List.mem_of_getElem? (i := 12) rfl)) (hw _ (List.mem_of_getElem? (i := 13) rfl)) (hw _ (List.mem_of_getElem? (i := 15) rfl)) (hw _ (List.mem_of_getElem? (i := 14) rfl)) (hw _ (List.mem_of_getElem? (i := 2) rfl)) (hw _ (List.mem_of_getElem? (i := 16) rfl)) (by decide) (rm3 l Z a0 hw [] a1 T23.heap n0 b2 (0 : Int32) (3 : Int32) (p1 :: p2 :: p3 :: ys) O23) rfl O23.exa (by rw [hml]; rfl) (pd_1) rfl (argsL := []) (rest := []) rfl rfl (hb hby at_63) (by decide) (Nat.le_of_ble_eq_true rfl) (by decide) (by decide) ?_
    rintro T24 _ L24 X24 ⟨rfl, e24, rfl⟩
    simp only [List.append_nil] at X24
    show Go p e below _ T24 (mkF m 66 #[.val (.int p1), .val (.int p2), .val (.int p3), .val (.int p4), .val (.int zc), .val (.int (3 : Int32)), .val (.ref a1), .unset, .unset] [(.int (3 : Int32))])
    refine Go.to (fun _ => XS.iload X24.here hx rfl (hb hby at_66) rfl) ?_
    show Go p e below _ T24 (mkF m 68 #[.val (.int p1), .val (.int p2), .val (.int p3), .val (.int p4), .val (.int zc), .val (.int (3 : Int32)), .val (.ref a1), .unset, .unset] [(.int (3 : Int32)), (.int (3 : Int32))])
    refine Go.to (fun _ => XS.icmpNo X24.here hx rfl (hb hby at_68) rfl (teq (by decide)).2) ?_
    show Go p e below _ T24 (mkF m 71 #[.val (.int p1), .val (.int p2), .val (.int p3), .val (.int p4), .val (.int zc), .val (.int (3 : Int32)), .val (.ref a1), .unset, .unset] [])
    refine Go.to (fun _ => XS.iconst X24.here hx rfl (hb hby at_71)) ?_
    show Go p e below _ T24 (mkF m 72 #[.val (.int p1), .val (.int p2), .val (.int p3), .val (.int p4), .val (.int zc), .val (.int (3 : Int32)), .val (.ref a1), .unset, .unset] [(.int (1 : Int32))])
    refine Go.to (fun _ => XS.goto X24.here hx rfl (pc0 := 72) (pc' := 76) rfl (hb hby at_72) (by decide) (by decide)) ?_
    show Go p e below _ T24 (mkF m 76 #[.val (.int p1), .val (.int p2), .val (.int p3), .val (.int p4), .val (.int zc), .val (.int (3 : Int32)), .val (.ref a1), .unset, .unset] [(.int (1 : Int32))])
    refine Go.to (fun _ => XS.istore X24.here hx rfl (hb hby at_76) rfl (l' := #[.val (.int p1), .val (.int p2), .val (.int p3), .val (.int p4), .val (.int zc), .val (.int (3 : Int32)), .val (.ref a1), .val (.int (1 : Int32)), .unset]) rfl) ?_
    show Go p e below _ T24 (mkF m 78 #[.val (.int p1), .val (.int p2), .val (.int p3), .val (.int p4), .val (.int zc), .val (.int (3 : Int32)), .val (.ref a1), .val (.int (1 : Int32)), .unset] [])
    refine Go.to (fun _ => XS.iload X24.here hx rfl (hb hby at_78) rfl) ?_
    show Go p e below _ T24 (mkF m 80 #[.val (.int p1), .val (.int p2), .val (.int p3), .val (.int p4), .val (.int zc), .val (.int (3 : Int32)), .val (.ref a1), .val (.int (1 : Int32)), .unset] [(.int (1 : Int32))])
    refine Go.to (fun _ => XS.ifNo X24.here hx rfl (hb hby at_80) rfl ((if0 _ _).trans (feq (by decide)).1)) ?_
    show Go p e below _ T24 (mkF m 83 #[.val (.int p1), .val (.int p2), .val (.int p3), .val (.int p4), .val (.int zc), .val (.int (3 : Int32)), .val (.ref a1), .val (.int (1 : Int32)), .unset] [])
    refine Go.to (fun _ => XS.aload X24.here hx rfl (hb hby at_83) rfl rfl) ?_
    show Go p e below _ T24 (mkF m 85 #[.val (.int p1), .val (.int p2), .val (.int p3), .val (.int p4), .val (.int zc), .val (.int (3 : Int32)), .val (.ref a1), .val (.int (1 : Int32)), .unset] [(.ref a1)])
    refine Go.callV (y := (⟨"com/example/eventually/eventually/solver/StateQueue", "isEmpty", "()Z"⟩ : MethodName)) X24 hx hZ hown (hw _ (List.mem_of_getElem? (i := 19) rfl)) (hw _ (List.mem_of_getElem? (i := 20) rfl)) (hw _ (List.mem_of_getElem? (i := 22) rfl)) (hw _ (List.mem_of_getElem? (i := 21) rfl)) (hw _ (List.mem_of_getElem? (i := 2) rfl)) (hw _ (List.mem_of_getElem? (i := 23) rfl)) (by decide) (rm4 l Z a0 hw [] a1 T23.heap n0 b2 (0 : Int32) (3 : Int32) (p1 :: p2 :: p3 :: ys) O23) e24 O23.exa (by rw [hml]; rfl) (pd_2) rfl (argsL := []) (rest := []) rfl rfl (hb hby at_85) (by decide) (Nat.le_of_ble_eq_true rfl) (by decide) (by decide) ?_
    rintro T25 _ L25 X25 ⟨rfl, e25, rfl⟩
    simp only [List.append_nil] at X25
    show Go p e below _ T25 (mkF m 88 #[.val (.int p1), .val (.int p2), .val (.int p3), .val (.int p4), .val (.int zc), .val (.int (3 : Int32)), .val (.ref a1), .val (.int (1 : Int32)), .unset] [(.int (0 : Int32))])
    refine Go.to (fun _ => XS.iload X25.here hx rfl (hb hby at_88) rfl) ?_
    show Go p e below _ T25 (mkF m 90 #[.val (.int p1), .val (.int p2), .val (.int p3), .val (.int p4), .val (.int zc), .val (.int (3 : Int32)), .val (.ref a1), .val (.int (1 : Int32)), .unset] [(.int (3 : Int32)), (.int (0 : Int32))])
    refine Go.to (fun _ => XS.ifYes X25.here hx rfl (pc0 := 90) (pc' := 97) rfl (hb hby at_90) rfl ((if0 _ _).trans (feq (by decide)).2) (by decide) (by decide)) ?_
    show Go p e below _ T25 (mkF m 97 #[.val (.int p1), .val (.int p2), .val (.int p3), .val (.int p4), .val (.int zc), .val (.int (3 : Int32)), .val (.ref a1), .val (.int (1 : Int32)), .unset] [(.int (0 : Int32))])
    refine Go.to (fun _ => XS.iconst X25.here hx rfl (hb hby at_97)) ?_
    show Go p e below _ T25 (mkF m 98 #[.val (.int p1), .val (.int p2), .val (.int p3), .val (.int p4), .val (.int zc), .val (.int (3 : Int32)), .val (.ref a1), .val (.int (1 : Int32)), .unset] [(.int (0 : Int32)), (.int (0 : Int32))])
    refine Go.to (fun _ => XS.icmpNo X25.here hx rfl (hb hby at_98) rfl (teq (by decide)).2) ?_
    show Go p e below _ T25 (mkF m 101 #[.val (.int p1), .val (.int p2), .val (.int p3), .val (.int p4), .val (.int zc), .val (.int (3 : Int32)), .val (.ref a1), .val (.int (1 : Int32)), .unset] [])
    refine Go.to (fun _ => XS.iconst X25.here hx rfl (hb hby at_101)) ?_
    show Go p e below _ T25 (mkF m 102 #[.val (.int p1), .val (.int p2), .val (.int p3), .val (.int p4), .val (.int zc), .val (.int (3 : Int32)), .val (.ref a1), .val (.int (1 : Int32)), .unset] [(.int (1 : Int32))])
    refine Go.to (fun _ => XS.goto X25.here hx rfl (pc0 := 102) (pc' := 106) rfl (hb hby at_102) (by decide) (by decide)) ?_
    show Go p e below _ T25 (mkF m 106 #[.val (.int p1), .val (.int p2), .val (.int p3), .val (.int p4), .val (.int zc), .val (.int (3 : Int32)), .val (.ref a1), .val (.int (1 : Int32)), .unset] [(.int (1 : Int32))])
    refine Go.to (fun _ => XS.istore X25.here hx rfl (hb hby at_106) rfl (l' := #[.val (.int p1), .val (.int p2), .val (.int p3), .val (.int p4), .val (.int zc), .val (.int (3 : Int32)), .val (.ref a1), .val (.int (1 : Int32)), .unset]) rfl) ?_
    show Go p e below _ T25 (mkF m 108 #[.val (.int p1), .val (.int p2), .val (.int p3), .val (.int p4), .val (.int zc), .val (.int (3 : Int32)), .val (.ref a1), .val (.int (1 : Int32)), .unset] [])
    refine Go.to (fun _ => XS.aload X25.here hx rfl (hb hby at_108) rfl rfl) ?_
    show Go p e below _ T25 (mkF m 110 #[.val (.int p1), .val (.int p2), .val (.int p3), .val (.int p4), .val (.int zc), .val (.int (3 : Int32)), .val (.ref a1), .val (.int (1 : Int32)), .unset] [(.ref a1)])
    refine Go.callV (y := (⟨"com/example/eventually/eventually/solver/StateQueue", "added", "()[I"⟩ : MethodName)) X25 hx hZ hown (hw _ (List.mem_of_getElem? (i := 26) rfl)) (hw _ (List.mem_of_getElem? (i := 27) rfl)) (hw _ (List.mem_of_getElem? (i := 29) rfl)) (hw _ (List.mem_of_getElem? (i := 28) rfl)) (hw _ (List.mem_of_getElem? (i := 2) rfl)) (hw _ (List.mem_of_getElem? (i := 30) rfl)) (by decide) (rm5 l Z a0 hw [] a1 T23.heap n0 b2 (0 : Int32) (3 : Int32) (p1 :: p2 :: p3 :: ys) O23) e25 O23.exa (by rw [hml]; rfl) (pd_3) rfl (argsL := []) (rest := []) rfl rfl (hb hby at_110) (by decide) (Nat.le_of_ble_eq_true rfl) (by decide) (by decide) ?_
    rintro T26 _ L26 X26 ⟨rfl, e26, rfl⟩
    simp only [List.append_nil] at X26
    show Go p e below _ T26 (mkF m 113 #[.val (.int p1), .val (.int p2), .val (.int p3), .val (.int p4), .val (.int zc), .val (.int (3 : Int32)), .val (.ref a1), .val (.int (1 : Int32)), .unset] [(.ref b2)])
    refine Go.to (fun _ => XS.astore X26.here hx rfl (hb hby at_113) rfl rfl (l' := #[.val (.int p1), .val (.int p2), .val (.int p3), .val (.int p4), .val (.int zc), .val (.int (3 : Int32)), .val (.ref a1), .val (.int (1 : Int32)), .val (.ref b2)]) rfl) ?_
    show Go p e below _ T26 (mkF m 115 #[.val (.int p1), .val (.int p2), .val (.int p3), .val (.int p4), .val (.int zc), .val (.int (3 : Int32)), .val (.ref a1), .val (.int (1 : Int32)), .val (.ref b2)] [])
    refine Go.to (fun _ => XS.iload X26.here hx rfl (hb hby at_115) rfl) ?_
    show Go p e below _ T26 (mkF m 117 #[.val (.int p1), .val (.int p2), .val (.int p3), .val (.int p4), .val (.int zc), .val (.int (3 : Int32)), .val (.ref a1), .val (.int (1 : Int32)), .val (.ref b2)] [(.int (1 : Int32))])
    refine Go.to (fun _ => XS.ifNo X26.here hx rfl (hb hby at_117) rfl ((if0 _ _).trans (feq (by decide)).1)) ?_
    show Go p e below _ T26 (mkF m 120 #[.val (.int p1), .val (.int p2), .val (.int p3), .val (.int p4), .val (.int zc), .val (.int (3 : Int32)), .val (.ref a1), .val (.int (1 : Int32)), .val (.ref b2)] [])
    refine Go.to (fun _ => XS.aload X26.here hx rfl (hb hby at_120) rfl rfl) ?_
    show Go p e below _ T26 (mkF m 122 #[.val (.int p1), .val (.int p2), .val (.int p3), .val (.int p4), .val (.int zc), .val (.int (3 : Int32)), .val (.ref a1), .val (.int (1 : Int32)), .val (.ref b2)] [(.ref b2)])
    refine Go.alen X26 hx hZ e26 (O23.av (k := 0) rfl rfl) (hb hby at_122) ?_
    show Go p e below _ T26 (mkF m 123 #[.val (.int p1), .val (.int p2), .val (.int p3), .val (.int p4), .val (.int zc), .val (.int (3 : Int32)), .val (.ref a1), .val (.int (1 : Int32)), .val (.ref b2)] [(.int (((p1 :: p2 :: p3 :: ys)).length.toInt32))])
    refine Go.to (fun _ => XS.iload X26.here hx rfl (hb hby at_123) rfl) ?_
    show Go p e below _ T26 (mkF m 125 #[.val (.int p1), .val (.int p2), .val (.int p3), .val (.int p4), .val (.int zc), .val (.int (3 : Int32)), .val (.ref a1), .val (.int (1 : Int32)), .val (.ref b2)] [(.int zc), (.int (((p1 :: p2 :: p3 :: ys)).length.toInt32))])
    refine Go.to (fun _ => XS.icmpNo X26.here hx rfl (hb hby at_125) rfl (teq (own_len hzc hyl)).2) ?_
    show Go p e below _ T26 (mkF m 128 #[.val (.int p1), .val (.int p2), .val (.int p3), .val (.int p4), .val (.int zc), .val (.int (3 : Int32)), .val (.ref a1), .val (.int (1 : Int32)), .val (.ref b2)] [])
    refine Go.to (fun _ => XS.iconst X26.here hx rfl (hb hby at_128)) ?_
    show Go p e below _ T26 (mkF m 129 #[.val (.int p1), .val (.int p2), .val (.int p3), .val (.int p4), .val (.int zc), .val (.int (3 : Int32)), .val (.ref a1), .val (.int (1 : Int32)), .val (.ref b2)] [(.int (1 : Int32))])
    refine Go.to (fun _ => XS.goto X26.here hx rfl (pc0 := 129) (pc' := 133) rfl (hb hby at_129) (by decide) (by decide)) ?_
    show Go p e below _ T26 (mkF m 133 #[.val (.int p1), .val (.int p2), .val (.int p3), .val (.int p4), .val (.int zc), .val (.int (3 : Int32)), .val (.ref a1), .val (.int (1 : Int32)), .val (.ref b2)] [(.int (1 : Int32))])
    refine Go.to (fun _ => XS.istore X26.here hx rfl (hb hby at_133) rfl (l' := #[.val (.int p1), .val (.int p2), .val (.int p3), .val (.int p4), .val (.int zc), .val (.int (3 : Int32)), .val (.ref a1), .val (.int (1 : Int32)), .val (.ref b2)]) rfl) ?_
    show Go p e below _ T26 (mkF m 135 #[.val (.int p1), .val (.int p2), .val (.int p3), .val (.int p4), .val (.int zc), .val (.int (3 : Int32)), .val (.ref a1), .val (.int (1 : Int32)), .val (.ref b2)] [])
    refine Go.to (fun _ => XS.iload X26.here hx rfl (hb hby at_135) rfl) ?_
    show Go p e below _ T26 (mkF m 137 #[.val (.int p1), .val (.int p2), .val (.int p3), .val (.int p4), .val (.int zc), .val (.int (3 : Int32)), .val (.ref a1), .val (.int (1 : Int32)), .val (.ref b2)] [(.int (3 : Int32))])
    refine Go.to (fun _ => XS.iconst X26.here hx rfl (hb hby at_137)) ?_
    show Go p e below _ T26 (mkF m 138 #[.val (.int p1), .val (.int p2), .val (.int p3), .val (.int p4), .val (.int zc), .val (.int (3 : Int32)), .val (.ref a1), .val (.int (1 : Int32)), .val (.ref b2)] [(.int (1 : Int32)), (.int (3 : Int32))])
    refine Go.to (fun _ => XS.icmpNo X26.here hx rfl (hb hby at_138) rfl (flt (by decide)).1) ?_
    show Go p e below _ T26 (mkF m 141 #[.val (.int p1), .val (.int p2), .val (.int p3), .val (.int p4), .val (.int zc), .val (.int (3 : Int32)), .val (.ref a1), .val (.int (1 : Int32)), .val (.ref b2)] [])
    refine Go.to (fun _ => XS.iload X26.here hx rfl (hb hby at_141) rfl) ?_
    show Go p e below _ T26 (mkF m 143 #[.val (.int p1), .val (.int p2), .val (.int p3), .val (.int p4), .val (.int zc), .val (.int (3 : Int32)), .val (.ref a1), .val (.int (1 : Int32)), .val (.ref b2)] [(.int (1 : Int32))])
    refine Go.to (fun _ => XS.ifNo X26.here hx rfl (hb hby at_143) rfl ((if0 _ _).trans (feq (by decide)).1)) ?_
    show Go p e below _ T26 (mkF m 146 #[.val (.int p1), .val (.int p2), .val (.int p3), .val (.int p4), .val (.int zc), .val (.int (3 : Int32)), .val (.ref a1), .val (.int (1 : Int32)), .val (.ref b2)] [])
    refine Go.to (fun _ => XS.aload X26.here hx rfl (hb hby at_146) rfl rfl) ?_
    show Go p e below _ T26 (mkF m 148 #[.val (.int p1), .val (.int p2), .val (.int p3), .val (.int p4), .val (.int zc), .val (.int (3 : Int32)), .val (.ref a1), .val (.int (1 : Int32)), .val (.ref b2)] [(.ref b2)])
    refine Go.to (fun _ => XS.iconst X26.here hx rfl (hb hby at_148)) ?_
    show Go p e below _ T26 (mkF m 149 #[.val (.int p1), .val (.int p2), .val (.int p3), .val (.int p4), .val (.int zc), .val (.int (3 : Int32)), .val (.ref a1), .val (.int (1 : Int32)), .val (.ref b2)] [(.int (0 : Int32)), (.ref b2)])
    refine Go.oload X26 hx hZ e26 O23 (k := 0) rfl rfl rfl (hb hby at_149) ?_
    show Go p e below _ T26 (mkF m 150 #[.val (.int p1), .val (.int p2), .val (.int p3), .val (.int p4), .val (.int zc), .val (.int (3 : Int32)), .val (.ref a1), .val (.int (1 : Int32)), .val (.ref b2)] [(.int p1)])
    refine Go.to (fun _ => XS.iloadN X26.here hx rfl (hb hby at_150) rfl) ?_
    show Go p e below _ T26 (mkF m 151 #[.val (.int p1), .val (.int p2), .val (.int p3), .val (.int p4), .val (.int zc), .val (.int (3 : Int32)), .val (.ref a1), .val (.int (1 : Int32)), .val (.ref b2)] [(.int p1), (.int p1)])
    refine Go.to (fun _ => XS.icmpNo X26.here hx rfl (hb hby at_151) rfl (teq rfl).2) ?_
    show Go p e below _ T26 (mkF m 154 #[.val (.int p1), .val (.int p2), .val (.int p3), .val (.int p4), .val (.int zc), .val (.int (3 : Int32)), .val (.ref a1), .val (.int (1 : Int32)), .val (.ref b2)] [])
    refine Go.to (fun _ => XS.iconst X26.here hx rfl (hb hby at_154)) ?_
    show Go p e below _ T26 (mkF m 155 #[.val (.int p1), .val (.int p2), .val (.int p3), .val (.int p4), .val (.int zc), .val (.int (3 : Int32)), .val (.ref a1), .val (.int (1 : Int32)), .val (.ref b2)] [(.int (1 : Int32))])
    refine Go.to (fun _ => XS.goto X26.here hx rfl (pc0 := 155) (pc' := 159) rfl (hb hby at_155) (by decide) (by decide)) ?_
    show Go p e below _ T26 (mkF m 159 #[.val (.int p1), .val (.int p2), .val (.int p3), .val (.int p4), .val (.int zc), .val (.int (3 : Int32)), .val (.ref a1), .val (.int (1 : Int32)), .val (.ref b2)] [(.int (1 : Int32))])
    refine Go.to (fun _ => XS.istore X26.here hx rfl (hb hby at_159) rfl (l' := #[.val (.int p1), .val (.int p2), .val (.int p3), .val (.int p4), .val (.int zc), .val (.int (3 : Int32)), .val (.ref a1), .val (.int (1 : Int32)), .val (.ref b2)]) rfl) ?_
    show Go p e below _ T26 (mkF m 161 #[.val (.int p1), .val (.int p2), .val (.int p3), .val (.int p4), .val (.int zc), .val (.int (3 : Int32)), .val (.ref a1), .val (.int (1 : Int32)), .val (.ref b2)] [])
    refine Go.to (fun _ => XS.iload X26.here hx rfl (hb hby at_161) rfl) ?_
    show Go p e below _ T26 (mkF m 163 #[.val (.int p1), .val (.int p2), .val (.int p3), .val (.int p4), .val (.int zc), .val (.int (3 : Int32)), .val (.ref a1), .val (.int (1 : Int32)), .val (.ref b2)] [(.int (3 : Int32))])
    refine Go.to (fun _ => XS.iconst X26.here hx rfl (hb hby at_163)) ?_
    show Go p e below _ T26 (mkF m 164 #[.val (.int p1), .val (.int p2), .val (.int p3), .val (.int p4), .val (.int zc), .val (.int (3 : Int32)), .val (.ref a1), .val (.int (1 : Int32)), .val (.ref b2)] [(.int (2 : Int32)), (.int (3 : Int32))])
    refine Go.to (fun _ => XS.icmpNo X26.here hx rfl (hb hby at_164) rfl (flt (by decide)).1) ?_
    show Go p e below _ T26 (mkF m 167 #[.val (.int p1), .val (.int p2), .val (.int p3), .val (.int p4), .val (.int zc), .val (.int (3 : Int32)), .val (.ref a1), .val (.int (1 : Int32)), .val (.ref b2)] [])
    refine Go.to (fun _ => XS.iload X26.here hx rfl (hb hby at_167) rfl) ?_
    show Go p e below _ T26 (mkF m 169 #[.val (.int p1), .val (.int p2), .val (.int p3), .val (.int p4), .val (.int zc), .val (.int (3 : Int32)), .val (.ref a1), .val (.int (1 : Int32)), .val (.ref b2)] [(.int (1 : Int32))])
    refine Go.to (fun _ => XS.ifNo X26.here hx rfl (hb hby at_169) rfl ((if0 _ _).trans (feq (by decide)).1)) ?_
    show Go p e below _ T26 (mkF m 172 #[.val (.int p1), .val (.int p2), .val (.int p3), .val (.int p4), .val (.int zc), .val (.int (3 : Int32)), .val (.ref a1), .val (.int (1 : Int32)), .val (.ref b2)] [])
    refine Go.to (fun _ => XS.aload X26.here hx rfl (hb hby at_172) rfl rfl) ?_
    show Go p e below _ T26 (mkF m 174 #[.val (.int p1), .val (.int p2), .val (.int p3), .val (.int p4), .val (.int zc), .val (.int (3 : Int32)), .val (.ref a1), .val (.int (1 : Int32)), .val (.ref b2)] [(.ref b2)])
    refine Go.to (fun _ => XS.iconst X26.here hx rfl (hb hby at_174)) ?_
    show Go p e below _ T26 (mkF m 175 #[.val (.int p1), .val (.int p2), .val (.int p3), .val (.int p4), .val (.int zc), .val (.int (3 : Int32)), .val (.ref a1), .val (.int (1 : Int32)), .val (.ref b2)] [(.int (1 : Int32)), (.ref b2)])
    refine Go.oload X26 hx hZ e26 O23 (k := 0) rfl rfl rfl (hb hby at_175) ?_
    show Go p e below _ T26 (mkF m 176 #[.val (.int p1), .val (.int p2), .val (.int p3), .val (.int p4), .val (.int zc), .val (.int (3 : Int32)), .val (.ref a1), .val (.int (1 : Int32)), .val (.ref b2)] [(.int p2)])
    refine Go.to (fun _ => XS.iloadN X26.here hx rfl (hb hby at_176) rfl) ?_
    show Go p e below _ T26 (mkF m 177 #[.val (.int p1), .val (.int p2), .val (.int p3), .val (.int p4), .val (.int zc), .val (.int (3 : Int32)), .val (.ref a1), .val (.int (1 : Int32)), .val (.ref b2)] [(.int p2), (.int p2)])
    refine Go.to (fun _ => XS.icmpNo X26.here hx rfl (hb hby at_177) rfl (teq rfl).2) ?_
    show Go p e below _ T26 (mkF m 180 #[.val (.int p1), .val (.int p2), .val (.int p3), .val (.int p4), .val (.int zc), .val (.int (3 : Int32)), .val (.ref a1), .val (.int (1 : Int32)), .val (.ref b2)] [])
    refine Go.to (fun _ => XS.iconst X26.here hx rfl (hb hby at_180)) ?_
    show Go p e below _ T26 (mkF m 181 #[.val (.int p1), .val (.int p2), .val (.int p3), .val (.int p4), .val (.int zc), .val (.int (3 : Int32)), .val (.ref a1), .val (.int (1 : Int32)), .val (.ref b2)] [(.int (1 : Int32))])
    refine Go.to (fun _ => XS.goto X26.here hx rfl (pc0 := 181) (pc' := 185) rfl (hb hby at_181) (by decide) (by decide)) ?_
    show Go p e below _ T26 (mkF m 185 #[.val (.int p1), .val (.int p2), .val (.int p3), .val (.int p4), .val (.int zc), .val (.int (3 : Int32)), .val (.ref a1), .val (.int (1 : Int32)), .val (.ref b2)] [(.int (1 : Int32))])
    refine Go.to (fun _ => XS.istore X26.here hx rfl (hb hby at_185) rfl (l' := #[.val (.int p1), .val (.int p2), .val (.int p3), .val (.int p4), .val (.int zc), .val (.int (3 : Int32)), .val (.ref a1), .val (.int (1 : Int32)), .val (.ref b2)]) rfl) ?_
    show Go p e below _ T26 (mkF m 187 #[.val (.int p1), .val (.int p2), .val (.int p3), .val (.int p4), .val (.int zc), .val (.int (3 : Int32)), .val (.ref a1), .val (.int (1 : Int32)), .val (.ref b2)] [])
    refine Go.to (fun _ => XS.iload X26.here hx rfl (hb hby at_187) rfl) ?_
    show Go p e below _ T26 (mkF m 189 #[.val (.int p1), .val (.int p2), .val (.int p3), .val (.int p4), .val (.int zc), .val (.int (3 : Int32)), .val (.ref a1), .val (.int (1 : Int32)), .val (.ref b2)] [(.int (3 : Int32))])
    refine Go.to (fun _ => XS.iconst X26.here hx rfl (hb hby at_189)) ?_
    show Go p e below _ T26 (mkF m 190 #[.val (.int p1), .val (.int p2), .val (.int p3), .val (.int p4), .val (.int zc), .val (.int (3 : Int32)), .val (.ref a1), .val (.int (1 : Int32)), .val (.ref b2)] [(.int (3 : Int32)), (.int (3 : Int32))])
    refine Go.to (fun _ => XS.icmpNo X26.here hx rfl (hb hby at_190) rfl (flt (by decide)).1) ?_
    show Go p e below _ T26 (mkF m 193 #[.val (.int p1), .val (.int p2), .val (.int p3), .val (.int p4), .val (.int zc), .val (.int (3 : Int32)), .val (.ref a1), .val (.int (1 : Int32)), .val (.ref b2)] [])
    refine Go.to (fun _ => XS.iload X26.here hx rfl (hb hby at_193) rfl) ?_
    show Go p e below _ T26 (mkF m 195 #[.val (.int p1), .val (.int p2), .val (.int p3), .val (.int p4), .val (.int zc), .val (.int (3 : Int32)), .val (.ref a1), .val (.int (1 : Int32)), .val (.ref b2)] [(.int (1 : Int32))])
    refine Go.to (fun _ => XS.ifNo X26.here hx rfl (hb hby at_195) rfl ((if0 _ _).trans (feq (by decide)).1)) ?_
    show Go p e below _ T26 (mkF m 198 #[.val (.int p1), .val (.int p2), .val (.int p3), .val (.int p4), .val (.int zc), .val (.int (3 : Int32)), .val (.ref a1), .val (.int (1 : Int32)), .val (.ref b2)] [])
    refine Go.to (fun _ => XS.aload X26.here hx rfl (hb hby at_198) rfl rfl) ?_
    show Go p e below _ T26 (mkF m 200 #[.val (.int p1), .val (.int p2), .val (.int p3), .val (.int p4), .val (.int zc), .val (.int (3 : Int32)), .val (.ref a1), .val (.int (1 : Int32)), .val (.ref b2)] [(.ref b2)])
    refine Go.to (fun _ => XS.iconst X26.here hx rfl (hb hby at_200)) ?_
    show Go p e below _ T26 (mkF m 201 #[.val (.int p1), .val (.int p2), .val (.int p3), .val (.int p4), .val (.int zc), .val (.int (3 : Int32)), .val (.ref a1), .val (.int (1 : Int32)), .val (.ref b2)] [(.int (2 : Int32)), (.ref b2)])
    refine Go.oload X26 hx hZ e26 O23 (k := 0) rfl rfl rfl (hb hby at_201) ?_
    show Go p e below _ T26 (mkF m 202 #[.val (.int p1), .val (.int p2), .val (.int p3), .val (.int p4), .val (.int zc), .val (.int (3 : Int32)), .val (.ref a1), .val (.int (1 : Int32)), .val (.ref b2)] [(.int p3)])
    refine Go.to (fun _ => XS.iloadN X26.here hx rfl (hb hby at_202) rfl) ?_
    show Go p e below _ T26 (mkF m 203 #[.val (.int p1), .val (.int p2), .val (.int p3), .val (.int p4), .val (.int zc), .val (.int (3 : Int32)), .val (.ref a1), .val (.int (1 : Int32)), .val (.ref b2)] [(.int p3), (.int p3)])
    refine Go.to (fun _ => XS.icmpNo X26.here hx rfl (hb hby at_203) rfl (teq rfl).2) ?_
    show Go p e below _ T26 (mkF m 206 #[.val (.int p1), .val (.int p2), .val (.int p3), .val (.int p4), .val (.int zc), .val (.int (3 : Int32)), .val (.ref a1), .val (.int (1 : Int32)), .val (.ref b2)] [])
    refine Go.to (fun _ => XS.iconst X26.here hx rfl (hb hby at_206)) ?_
    show Go p e below _ T26 (mkF m 207 #[.val (.int p1), .val (.int p2), .val (.int p3), .val (.int p4), .val (.int zc), .val (.int (3 : Int32)), .val (.ref a1), .val (.int (1 : Int32)), .val (.ref b2)] [(.int (1 : Int32))])
    refine Go.to (fun _ => XS.goto X26.here hx rfl (pc0 := 207) (pc' := 211) rfl (hb hby at_207) (by decide) (by decide)) ?_
    show Go p e below _ T26 (mkF m 211 #[.val (.int p1), .val (.int p2), .val (.int p3), .val (.int p4), .val (.int zc), .val (.int (3 : Int32)), .val (.ref a1), .val (.int (1 : Int32)), .val (.ref b2)] [(.int (1 : Int32))])
    refine Go.to (fun _ => XS.istore X26.here hx rfl (hb hby at_211) rfl (l' := #[.val (.int p1), .val (.int p2), .val (.int p3), .val (.int p4), .val (.int zc), .val (.int (3 : Int32)), .val (.ref a1), .val (.int (1 : Int32)), .val (.ref b2)]) rfl) ?_
    show Go p e below _ T26 (mkF m 213 #[.val (.int p1), .val (.int p2), .val (.int p3), .val (.int p4), .val (.int zc), .val (.int (3 : Int32)), .val (.ref a1), .val (.int (1 : Int32)), .val (.ref b2)] [])
    refine Go.to (fun _ => XS.iload X26.here hx rfl (hb hby at_213) rfl) ?_
    show Go p e below _ T26 (mkF m 215 #[.val (.int p1), .val (.int p2), .val (.int p3), .val (.int p4), .val (.int zc), .val (.int (3 : Int32)), .val (.ref a1), .val (.int (1 : Int32)), .val (.ref b2)] [(.int (3 : Int32))])
    refine Go.to (fun _ => XS.iconst X26.here hx rfl (hb hby at_215)) ?_
    show Go p e below _ T26 (mkF m 216 #[.val (.int p1), .val (.int p2), .val (.int p3), .val (.int p4), .val (.int zc), .val (.int (3 : Int32)), .val (.ref a1), .val (.int (1 : Int32)), .val (.ref b2)] [(.int (3 : Int32)), (.int (3 : Int32))])
    refine Go.to (fun _ => XS.icmpYes X26.here hx rfl (pc0 := 216) (pc' := 239) rfl (hb hby at_216) rfl (flt (by decide)).2.1 (by decide) (by decide)) ?_
    show Go p e below _ T26 (mkF m 239 #[.val (.int p1), .val (.int p2), .val (.int p3), .val (.int p4), .val (.int zc), .val (.int (3 : Int32)), .val (.ref a1), .val (.int (1 : Int32)), .val (.ref b2)] [])
    refine Go.to (fun _ => XS.iload X26.here hx rfl (hb hby at_239) rfl) ?_
    show Go p e below _ T26 (mkF m 241 #[.val (.int p1), .val (.int p2), .val (.int p3), .val (.int p4), .val (.int zc), .val (.int (3 : Int32)), .val (.ref a1), .val (.int (1 : Int32)), .val (.ref b2)] [(.int (3 : Int32))])
    refine Go.to (fun _ => XS.iconst X26.here hx rfl (hb hby at_241)) ?_
    show Go p e below _ T26 (mkF m 242 #[.val (.int p1), .val (.int p2), .val (.int p3), .val (.int p4), .val (.int zc), .val (.int (3 : Int32)), .val (.ref a1), .val (.int (1 : Int32)), .val (.ref b2)] [(.int (1 : Int32)), (.int (3 : Int32))])
    refine Go.to (fun _ => XS.icmpNo X26.here hx rfl (hb hby at_242) rfl (flt (by decide)).1) ?_
    show Go p e below _ T26 (mkF m 245 #[.val (.int p1), .val (.int p2), .val (.int p3), .val (.int p4), .val (.int zc), .val (.int (3 : Int32)), .val (.ref a1), .val (.int (1 : Int32)), .val (.ref b2)] [])
    refine Go.to (fun _ => XS.iload X26.here hx rfl (hb hby at_245) rfl) ?_
    show Go p e below _ T26 (mkF m 247 #[.val (.int p1), .val (.int p2), .val (.int p3), .val (.int p4), .val (.int zc), .val (.int (3 : Int32)), .val (.ref a1), .val (.int (1 : Int32)), .val (.ref b2)] [(.int (1 : Int32))])
    refine Go.to (fun _ => XS.ifNo X26.here hx rfl (hb hby at_247) rfl ((if0 _ _).trans (feq (by decide)).1)) ?_
    show Go p e below _ T26 (mkF m 250 #[.val (.int p1), .val (.int p2), .val (.int p3), .val (.int p4), .val (.int zc), .val (.int (3 : Int32)), .val (.ref a1), .val (.int (1 : Int32)), .val (.ref b2)] [])
    refine Go.to (fun _ => XS.aload X26.here hx rfl (hb hby at_250) rfl rfl) ?_
    show Go p e below _ T26 (mkF m 252 #[.val (.int p1), .val (.int p2), .val (.int p3), .val (.int p4), .val (.int zc), .val (.int (3 : Int32)), .val (.ref a1), .val (.int (1 : Int32)), .val (.ref b2)] [(.ref a1)])
    refine Go.callV (y := (⟨"com/example/eventually/eventually/solver/StateQueue", "take", "()I"⟩ : MethodName)) X26 hx hZ hown (hw _ (List.mem_of_getElem? (i := 36) rfl)) (hw _ (List.mem_of_getElem? (i := 37) rfl)) (hw _ (List.mem_of_getElem? (i := 39) rfl)) (hw _ (List.mem_of_getElem? (i := 38) rfl)) (hw _ (List.mem_of_getElem? (i := 2) rfl)) (hw _ (List.mem_of_getElem? (i := 40) rfl)) (by decide) (rm7 l Z a0 hw [] a1 T23.heap n0 b2 (0 : Int32) (3 : Int32) (p1 :: p2 :: p3 :: ys) O23 p1 rfl) e26 O23.exa (by rw [hml]; rfl) (pd_1) rfl (argsL := []) (rest := []) rfl rfl (hb hby at_252) (by decide) (Nat.le_of_ble_eq_true rfl) (by decide) (by decide) ?_
    rintro T27 _ L27 X27 ⟨rfl, N27, O27⟩
    have O27 : Obj Z n0 T27.heap T27.heap a1 "com/example/eventually/eventually/solver/StateQueue" nFq [.ref b2, .int (1 : Int32), .int (3 : Int32)] [b2] [(p1 :: p2 :: p3 :: ys)] := by
      have q1 : (0 : Int32) + (1 : Int32) = (1 : Int32) := by decide
      have O27 := O27.anew
      rw [q1] at O27; exact O27
    have N27 := Fr.app N23 N27
    show Go p e below _ T27 (mkF m 255 #[.val (.int p1), .val (.int p2), .val (.int p3), .val (.int p4), .val (.int zc), .val (.int (3 : Int32)), .val (.ref a1), .val (.int (1 : Int32)), .val (.ref b2)] [(.int p1)])
    refine Go.to (fun _ => XS.iloadN X27.here hx rfl (hb hby at_255) rfl) ?_
    show Go p e below _ T27 (mkF m 256 #[.val (.int p1), .val (.int p2), .val (.int p3), .val (.int p4), .val (.int zc), .val (.int (3 : Int32)), .val (.ref a1), .val (.int (1 : Int32)), .val (.ref b2)] [(.int p1), (.int p1)])
    refine Go.to (fun _ => XS.icmpNo X27.here hx rfl (hb hby at_256) rfl (teq rfl).2) ?_
    show Go p e below _ T27 (mkF m 259 #[.val (.int p1), .val (.int p2), .val (.int p3), .val (.int p4), .val (.int zc), .val (.int (3 : Int32)), .val (.ref a1), .val (.int (1 : Int32)), .val (.ref b2)] [])
    refine Go.to (fun _ => XS.iconst X27.here hx rfl (hb hby at_259)) ?_
    show Go p e below _ T27 (mkF m 260 #[.val (.int p1), .val (.int p2), .val (.int p3), .val (.int p4), .val (.int zc), .val (.int (3 : Int32)), .val (.ref a1), .val (.int (1 : Int32)), .val (.ref b2)] [(.int (1 : Int32))])
    refine Go.to (fun _ => XS.goto X27.here hx rfl (pc0 := 260) (pc' := 264) rfl (hb hby at_260) (by decide) (by decide)) ?_
    show Go p e below _ T27 (mkF m 264 #[.val (.int p1), .val (.int p2), .val (.int p3), .val (.int p4), .val (.int zc), .val (.int (3 : Int32)), .val (.ref a1), .val (.int (1 : Int32)), .val (.ref b2)] [(.int (1 : Int32))])
    refine Go.to (fun _ => XS.istore X27.here hx rfl (hb hby at_264) rfl (l' := #[.val (.int p1), .val (.int p2), .val (.int p3), .val (.int p4), .val (.int zc), .val (.int (3 : Int32)), .val (.ref a1), .val (.int (1 : Int32)), .val (.ref b2)]) rfl) ?_
    show Go p e below _ T27 (mkF m 266 #[.val (.int p1), .val (.int p2), .val (.int p3), .val (.int p4), .val (.int zc), .val (.int (3 : Int32)), .val (.ref a1), .val (.int (1 : Int32)), .val (.ref b2)] [])
    refine Go.to (fun _ => XS.iload X27.here hx rfl (hb hby at_266) rfl) ?_
    show Go p e below _ T27 (mkF m 268 #[.val (.int p1), .val (.int p2), .val (.int p3), .val (.int p4), .val (.int zc), .val (.int (3 : Int32)), .val (.ref a1), .val (.int (1 : Int32)), .val (.ref b2)] [(.int (3 : Int32))])
    refine Go.to (fun _ => XS.iconst X27.here hx rfl (hb hby at_268)) ?_
    show Go p e below _ T27 (mkF m 269 #[.val (.int p1), .val (.int p2), .val (.int p3), .val (.int p4), .val (.int zc), .val (.int (3 : Int32)), .val (.ref a1), .val (.int (1 : Int32)), .val (.ref b2)] [(.int (2 : Int32)), (.int (3 : Int32))])
    refine Go.to (fun _ => XS.icmpNo X27.here hx rfl (hb hby at_269) rfl (flt (by decide)).1) ?_
    show Go p e below _ T27 (mkF m 272 #[.val (.int p1), .val (.int p2), .val (.int p3), .val (.int p4), .val (.int zc), .val (.int (3 : Int32)), .val (.ref a1), .val (.int (1 : Int32)), .val (.ref b2)] [])
    refine Go.to (fun _ => XS.iload X27.here hx rfl (hb hby at_272) rfl) ?_
    show Go p e below _ T27 (mkF m 274 #[.val (.int p1), .val (.int p2), .val (.int p3), .val (.int p4), .val (.int zc), .val (.int (3 : Int32)), .val (.ref a1), .val (.int (1 : Int32)), .val (.ref b2)] [(.int (1 : Int32))])
    refine Go.to (fun _ => XS.ifNo X27.here hx rfl (hb hby at_274) rfl ((if0 _ _).trans (feq (by decide)).1)) ?_
    show Go p e below _ T27 (mkF m 277 #[.val (.int p1), .val (.int p2), .val (.int p3), .val (.int p4), .val (.int zc), .val (.int (3 : Int32)), .val (.ref a1), .val (.int (1 : Int32)), .val (.ref b2)] [])
    refine Go.to (fun _ => XS.aload X27.here hx rfl (hb hby at_277) rfl rfl) ?_
    show Go p e below _ T27 (mkF m 279 #[.val (.int p1), .val (.int p2), .val (.int p3), .val (.int p4), .val (.int zc), .val (.int (3 : Int32)), .val (.ref a1), .val (.int (1 : Int32)), .val (.ref b2)] [(.ref a1)])
    refine Go.callV (y := (⟨"com/example/eventually/eventually/solver/StateQueue", "take", "()I"⟩ : MethodName)) X27 hx hZ hown (hw _ (List.mem_of_getElem? (i := 36) rfl)) (hw _ (List.mem_of_getElem? (i := 37) rfl)) (hw _ (List.mem_of_getElem? (i := 39) rfl)) (hw _ (List.mem_of_getElem? (i := 38) rfl)) (hw _ (List.mem_of_getElem? (i := 2) rfl)) (hw _ (List.mem_of_getElem? (i := 40) rfl)) (by decide) (rm7 l Z a0 hw [] a1 T27.heap n0 b2 (1 : Int32) (3 : Int32) (p1 :: p2 :: p3 :: ys) O27 p2 rfl) rfl O27.exa (by rw [hml]; rfl) (pd_1) rfl (argsL := []) (rest := []) rfl rfl (hb hby at_279) (by decide) (Nat.le_of_ble_eq_true rfl) (by decide) (by decide) ?_
    rintro T28 _ L28 X28 ⟨rfl, N28, O28⟩
    have O28 : Obj Z n0 T28.heap T28.heap a1 "com/example/eventually/eventually/solver/StateQueue" nFq [.ref b2, .int (2 : Int32), .int (3 : Int32)] [b2] [(p1 :: p2 :: p3 :: ys)] := by
      have q1 : (1 : Int32) + (1 : Int32) = (2 : Int32) := by decide
      have O28 := O28.anew
      rw [q1] at O28; exact O28
    have N28 := Fr.app N27 N28
    show Go p e below _ T28 (mkF m 282 #[.val (.int p1), .val (.int p2), .val (.int p3), .val (.int p4), .val (.int zc), .val (.int (3 : Int32)), .val (.ref a1), .val (.int (1 : Int32)), .val (.ref b2)] [(.int p2)])
    refine Go.to (fun _ => XS.iloadN X28.here hx rfl (hb hby at_282) rfl) ?_
    show Go p e below _ T28 (mkF m 283 #[.val (.int p1), .val (.int p2), .val (.int p3), .val (.int p4), .val (.int zc), .val (.int (3 : Int32)), .val (.ref a1), .val (.int (1 : Int32)), .val (.ref b2)] [(.int p2), (.int p2)])
    refine Go.to (fun _ => XS.icmpNo X28.here hx rfl (hb hby at_283) rfl (teq rfl).2) ?_
    show Go p e below _ T28 (mkF m 286 #[.val (.int p1), .val (.int p2), .val (.int p3), .val (.int p4), .val (.int zc), .val (.int (3 : Int32)), .val (.ref a1), .val (.int (1 : Int32)), .val (.ref b2)] [])
    refine Go.to (fun _ => XS.iconst X28.here hx rfl (hb hby at_286)) ?_
    show Go p e below _ T28 (mkF m 287 #[.val (.int p1), .val (.int p2), .val (.int p3), .val (.int p4), .val (.int zc), .val (.int (3 : Int32)), .val (.ref a1), .val (.int (1 : Int32)), .val (.ref b2)] [(.int (1 : Int32))])
    refine Go.to (fun _ => XS.goto X28.here hx rfl (pc0 := 287) (pc' := 291) rfl (hb hby at_287) (by decide) (by decide)) ?_
    show Go p e below _ T28 (mkF m 291 #[.val (.int p1), .val (.int p2), .val (.int p3), .val (.int p4), .val (.int zc), .val (.int (3 : Int32)), .val (.ref a1), .val (.int (1 : Int32)), .val (.ref b2)] [(.int (1 : Int32))])
    refine Go.to (fun _ => XS.istore X28.here hx rfl (hb hby at_291) rfl (l' := #[.val (.int p1), .val (.int p2), .val (.int p3), .val (.int p4), .val (.int zc), .val (.int (3 : Int32)), .val (.ref a1), .val (.int (1 : Int32)), .val (.ref b2)]) rfl) ?_
    show Go p e below _ T28 (mkF m 293 #[.val (.int p1), .val (.int p2), .val (.int p3), .val (.int p4), .val (.int zc), .val (.int (3 : Int32)), .val (.ref a1), .val (.int (1 : Int32)), .val (.ref b2)] [])
    refine Go.to (fun _ => XS.iload X28.here hx rfl (hb hby at_293) rfl) ?_
    show Go p e below _ T28 (mkF m 295 #[.val (.int p1), .val (.int p2), .val (.int p3), .val (.int p4), .val (.int zc), .val (.int (3 : Int32)), .val (.ref a1), .val (.int (1 : Int32)), .val (.ref b2)] [(.int (3 : Int32))])
    refine Go.to (fun _ => XS.iconst X28.here hx rfl (hb hby at_295)) ?_
    show Go p e below _ T28 (mkF m 296 #[.val (.int p1), .val (.int p2), .val (.int p3), .val (.int p4), .val (.int zc), .val (.int (3 : Int32)), .val (.ref a1), .val (.int (1 : Int32)), .val (.ref b2)] [(.int (3 : Int32)), (.int (3 : Int32))])
    refine Go.to (fun _ => XS.icmpNo X28.here hx rfl (hb hby at_296) rfl (flt (by decide)).1) ?_
    show Go p e below _ T28 (mkF m 299 #[.val (.int p1), .val (.int p2), .val (.int p3), .val (.int p4), .val (.int zc), .val (.int (3 : Int32)), .val (.ref a1), .val (.int (1 : Int32)), .val (.ref b2)] [])
    refine Go.to (fun _ => XS.iload X28.here hx rfl (hb hby at_299) rfl) ?_
    show Go p e below _ T28 (mkF m 301 #[.val (.int p1), .val (.int p2), .val (.int p3), .val (.int p4), .val (.int zc), .val (.int (3 : Int32)), .val (.ref a1), .val (.int (1 : Int32)), .val (.ref b2)] [(.int (1 : Int32))])
    refine Go.to (fun _ => XS.ifNo X28.here hx rfl (hb hby at_301) rfl ((if0 _ _).trans (feq (by decide)).1)) ?_
    show Go p e below _ T28 (mkF m 304 #[.val (.int p1), .val (.int p2), .val (.int p3), .val (.int p4), .val (.int zc), .val (.int (3 : Int32)), .val (.ref a1), .val (.int (1 : Int32)), .val (.ref b2)] [])
    refine Go.to (fun _ => XS.aload X28.here hx rfl (hb hby at_304) rfl rfl) ?_
    show Go p e below _ T28 (mkF m 306 #[.val (.int p1), .val (.int p2), .val (.int p3), .val (.int p4), .val (.int zc), .val (.int (3 : Int32)), .val (.ref a1), .val (.int (1 : Int32)), .val (.ref b2)] [(.ref a1)])
    refine Go.callV (y := (⟨"com/example/eventually/eventually/solver/StateQueue", "take", "()I"⟩ : MethodName)) X28 hx hZ hown (hw _ (List.mem_of_getElem? (i := 36) rfl)) (hw _ (List.mem_of_getElem? (i := 37) rfl)) (hw _ (List.mem_of_getElem? (i := 39) rfl)) (hw _ (List.mem_of_getElem? (i := 38) rfl)) (hw _ (List.mem_of_getElem? (i := 2) rfl)) (hw _ (List.mem_of_getElem? (i := 40) rfl)) (by decide) (rm7 l Z a0 hw [] a1 T28.heap n0 b2 (2 : Int32) (3 : Int32) (p1 :: p2 :: p3 :: ys) O28 p3 rfl) rfl O28.exa (by rw [hml]; rfl) (pd_1) rfl (argsL := []) (rest := []) rfl rfl (hb hby at_306) (by decide) (Nat.le_of_ble_eq_true rfl) (by decide) (by decide) ?_
    rintro T29 _ L29 X29 ⟨rfl, N29, O29⟩
    have O29 : Obj Z n0 T29.heap T29.heap a1 "com/example/eventually/eventually/solver/StateQueue" nFq [.ref b2, .int (3 : Int32), .int (3 : Int32)] [b2] [(p1 :: p2 :: p3 :: ys)] := by
      have q1 : (2 : Int32) + (1 : Int32) = (3 : Int32) := by decide
      have O29 := O29.anew
      rw [q1] at O29; exact O29
    have N29 := Fr.app N28 N29
    show Go p e below _ T29 (mkF m 309 #[.val (.int p1), .val (.int p2), .val (.int p3), .val (.int p4), .val (.int zc), .val (.int (3 : Int32)), .val (.ref a1), .val (.int (1 : Int32)), .val (.ref b2)] [(.int p3)])
    refine Go.to (fun _ => XS.iloadN X29.here hx rfl (hb hby at_309) rfl) ?_
    show Go p e below _ T29 (mkF m 310 #[.val (.int p1), .val (.int p2), .val (.int p3), .val (.int p4), .val (.int zc), .val (.int (3 : Int32)), .val (.ref a1), .val (.int (1 : Int32)), .val (.ref b2)] [(.int p3), (.int p3)])
    refine Go.to (fun _ => XS.icmpNo X29.here hx rfl (hb hby at_310) rfl (teq rfl).2) ?_
    show Go p e below _ T29 (mkF m 313 #[.val (.int p1), .val (.int p2), .val (.int p3), .val (.int p4), .val (.int zc), .val (.int (3 : Int32)), .val (.ref a1), .val (.int (1 : Int32)), .val (.ref b2)] [])
    refine Go.to (fun _ => XS.iconst X29.here hx rfl (hb hby at_313)) ?_
    show Go p e below _ T29 (mkF m 314 #[.val (.int p1), .val (.int p2), .val (.int p3), .val (.int p4), .val (.int zc), .val (.int (3 : Int32)), .val (.ref a1), .val (.int (1 : Int32)), .val (.ref b2)] [(.int (1 : Int32))])
    refine Go.to (fun _ => XS.goto X29.here hx rfl (pc0 := 314) (pc' := 318) rfl (hb hby at_314) (by decide) (by decide)) ?_
    show Go p e below _ T29 (mkF m 318 #[.val (.int p1), .val (.int p2), .val (.int p3), .val (.int p4), .val (.int zc), .val (.int (3 : Int32)), .val (.ref a1), .val (.int (1 : Int32)), .val (.ref b2)] [(.int (1 : Int32))])
    refine Go.to (fun _ => XS.istore X29.here hx rfl (hb hby at_318) rfl (l' := #[.val (.int p1), .val (.int p2), .val (.int p3), .val (.int p4), .val (.int zc), .val (.int (3 : Int32)), .val (.ref a1), .val (.int (1 : Int32)), .val (.ref b2)]) rfl) ?_
    show Go p e below _ T29 (mkF m 320 #[.val (.int p1), .val (.int p2), .val (.int p3), .val (.int p4), .val (.int zc), .val (.int (3 : Int32)), .val (.ref a1), .val (.int (1 : Int32)), .val (.ref b2)] [])
    refine Go.to (fun _ => XS.iload X29.here hx rfl (hb hby at_320) rfl) ?_
    show Go p e below _ T29 (mkF m 322 #[.val (.int p1), .val (.int p2), .val (.int p3), .val (.int p4), .val (.int zc), .val (.int (3 : Int32)), .val (.ref a1), .val (.int (1 : Int32)), .val (.ref b2)] [(.int (1 : Int32))])
    refine Go.to (fun _ => XS.ifNo X29.here hx rfl (hb hby at_322) rfl ((if0 _ _).trans (feq (by decide)).1)) ?_
    show Go p e below _ T29 (mkF m 325 #[.val (.int p1), .val (.int p2), .val (.int p3), .val (.int p4), .val (.int zc), .val (.int (3 : Int32)), .val (.ref a1), .val (.int (1 : Int32)), .val (.ref b2)] [])
    refine Go.to (fun _ => XS.aload X29.here hx rfl (hb hby at_325) rfl rfl) ?_
    show Go p e below _ T29 (mkF m 327 #[.val (.int p1), .val (.int p2), .val (.int p3), .val (.int p4), .val (.int zc), .val (.int (3 : Int32)), .val (.ref a1), .val (.int (1 : Int32)), .val (.ref b2)] [(.ref a1)])
    refine Go.callV (y := (⟨"com/example/eventually/eventually/solver/StateQueue", "isEmpty", "()Z"⟩ : MethodName)) X29 hx hZ hown (hw _ (List.mem_of_getElem? (i := 19) rfl)) (hw _ (List.mem_of_getElem? (i := 20) rfl)) (hw _ (List.mem_of_getElem? (i := 22) rfl)) (hw _ (List.mem_of_getElem? (i := 21) rfl)) (hw _ (List.mem_of_getElem? (i := 2) rfl)) (hw _ (List.mem_of_getElem? (i := 23) rfl)) (by decide) (rm4 l Z a0 hw [] a1 T29.heap n0 b2 (3 : Int32) (3 : Int32) (p1 :: p2 :: p3 :: ys) O29) rfl O29.exa (by rw [hml]; rfl) (pd_2) rfl (argsL := []) (rest := []) rfl rfl (hb hby at_327) (by decide) (Nat.le_of_ble_eq_true rfl) (by decide) (by decide) ?_
    rintro T30 _ L30 X30 ⟨rfl, e30, rfl⟩
    simp only [List.append_nil] at X30
    show Go p e below _ T30 (mkF m 330 #[.val (.int p1), .val (.int p2), .val (.int p3), .val (.int p4), .val (.int zc), .val (.int (3 : Int32)), .val (.ref a1), .val (.int (1 : Int32)), .val (.ref b2)] [(.int (1 : Int32))])
    refine Go.to (fun _ => XS.ifNo X30.here hx rfl (hb hby at_330) rfl ((if0 _ _).trans (feq (by decide)).1)) ?_
    show Go p e below _ T30 (mkF m 333 #[.val (.int p1), .val (.int p2), .val (.int p3), .val (.int p4), .val (.int zc), .val (.int (3 : Int32)), .val (.ref a1), .val (.int (1 : Int32)), .val (.ref b2)] [])
    refine Go.to (fun _ => XS.iconst X30.here hx rfl (hb hby at_333)) ?_
    show Go p e below _ T30 (mkF m 334 #[.val (.int p1), .val (.int p2), .val (.int p3), .val (.int p4), .val (.int zc), .val (.int (3 : Int32)), .val (.ref a1), .val (.int (1 : Int32)), .val (.ref b2)] [(.int (1 : Int32))])
    refine Go.to (fun _ => XS.goto X30.here hx rfl (pc0 := 334) (pc' := 338) rfl (hb hby at_334) (by decide) (by decide)) ?_
    show Go p e below _ T30 (mkF m 338 #[.val (.int p1), .val (.int p2), .val (.int p3), .val (.int p4), .val (.int zc), .val (.int (3 : Int32)), .val (.ref a1), .val (.int (1 : Int32)), .val (.ref b2)] [(.int (1 : Int32))])
    refine Go.to (fun _ => XS.istore X30.here hx rfl (hb hby at_338) rfl (l' := #[.val (.int p1), .val (.int p2), .val (.int p3), .val (.int p4), .val (.int zc), .val (.int (3 : Int32)), .val (.ref a1), .val (.int (1 : Int32)), .val (.ref b2)]) rfl) ?_
    show Go p e below _ T30 (mkF m 340 #[.val (.int p1), .val (.int p2), .val (.int p3), .val (.int p4), .val (.int zc), .val (.int (3 : Int32)), .val (.ref a1), .val (.int (1 : Int32)), .val (.ref b2)] [])
    refine Go.to (fun _ => XS.iload X30.here hx rfl (hb hby at_340) rfl) ?_
    show Go p e below _ T30 (mkF m 342 #[.val (.int p1), .val (.int p2), .val (.int p3), .val (.int p4), .val (.int zc), .val (.int (3 : Int32)), .val (.ref a1), .val (.int (1 : Int32)), .val (.ref b2)] [(.int (1 : Int32))])
    rw [hK]
    exact Go.retZ X30 hx hlk hret (by decide) (hb hby at_342) ⟨rfl, N29⟩ (by decide) (by decide)
set_option maxHeartbeats 40000000 in
theorem comes_1 {Post : Tables → Env → Array Value → State → Outcome → State → Prop} (hpost : ∀ tb e args s v u, (limb_1_1.after args s (.returned v) u = true ∧ limb_1_2.after args s (.returned v) u = true ∧ True) → FrameEnd s (.returned v) u (Jvm.fieldLocs frame_1_writes args s ++ Jvm.arrayLocs frame_1_arrays args s ++ Jvm.staticLocs frame_1_statics s) 16 128 → Post tb e args s (.returned v) u) :
    ArmFor flags0 classFile x code maxLocals ret World_1 tables_1 room_1 Calls_1 rest_1 Pre_1 Post := by
  intro l hfl _ _ p e ha hc hk s m args below hf hA hF happ hP
  obtain ⟨hcalls, hrest, hpre⟩ := hP
  obtain ⟨-, -, -, hnamed, -, -, -, hat⟩ := (Spec.applies_iff hf).mp happ
  obtain ⟨hg, hn⟩ := and_e (Cond.before_iff.mp (show (Jvm.Cond.and given_1 narrow_1).before args s = true from hpre))
  obtain ⟨gc, gr0⟩ := and_e hg
  obtain ⟨g0, gr1⟩ := and_e gr0
  obtain ⟨g1, gr2⟩ := and_e gr1
  obtain ⟨g2, gr3⟩ := and_e gr2
  obtain ⟨w0, w1, w2, w3, rfl⟩ : ∃ w0 w1 w2 w3 : Value, args = #[w0, w1, w2, w3] := by
    have hs : args.size = 4 := by simpa [Cond.value, given_1] using gc
    obtain ⟨L⟩ := args
    match L, hs with
    | [w0, w1, w2, w3], _ => exact ⟨w0, w1, w2, w3, rfl⟩
  have hw := fun d (hd : d ∈ tables_1) => atoms_spec (ws := Jvm.Cond.code x code maxLocals ret :: tables_1) hat d (List.mem_cons_of_mem _ hd)
  obtain ⟨i0, ei0⟩ := is_v g0
  obtain rfl : w0 = (.int i0) := Option.some.inj ei0
  obtain ⟨i1, ei1⟩ := is_v g1
  obtain rfl : w1 = (.int i1) := Option.some.inj ei1
  obtain ⟨i2, ei2⟩ := is_v g2
  obtain rfl : w2 = (.int i2) := Option.some.inj ei2
  obtain ⟨i3, ei3⟩ := is_v gr3
  obtain rfl : w3 = (.int i3) := Option.some.inj ei3
  obtain ⟨n, o, h1, h2, h3, _, L, rfl, ⟨rfl, N⟩, hq⟩ := rm0 l s _ hw tables_1 i0 i1 i2 i3 s.heap s.heap.size (Nat.le_refl _) p e ha hc hk s m _ below hf ((Spec.applies_iff_loose hf).mp happ).1 ⟨rfl, State.Warmed39.refl s, rfl⟩ trivial
  refine ⟨n, _, h1, h2, h3, hpost _ _ _ _ _ _ ⟨Cond.after_iff.mpr rfl, Cond.after_iff.mpr (eq_i res_at (Term.int_eval (1)) rfl), trivial⟩ ⟨hq.1, hq.2.1, (hq.2.2.sift fun y hy => Or.inr (N y hy)).mono (by decide) (by decide)⟩⟩
theorem main_1_1 : Claimed_1_1 := comes_1 fun _ _ _ _ _ _ h hF => ⟨h.1, hF⟩
theorem main_1_2 : Claimed_1_2 := comes_1 fun _ _ _ _ _ _ h hF => ⟨h.2.1, hF⟩
end Jvm.Pilot.@@N@@
namespace Jvm.Pilot.@@N@@
open Jvm Jvm.ClassFile Sem Op Lib Jvm.Free Jvm.Stand Jvm.Pilot.@@N@@.Jvm.D
/-! MADE BY PROGRAM (witnessworld.py) out of the Statement's table words and the real class files: 9 classes; the members and pool entries that the words name. The judged class is class 1, her method 1. -/
namespace start1
open Jvm.ClassFile
def u (s : String) : CpInfo := .utf8 (stringToUtf16 s)
/-- a pool by its gaps: so many unusable entries, then the entry; so many at the end -/
def gap : Nat → List CpInfo → List CpInfo
  | 0, r => r
  | n + 1, r => .unusable :: gap n r
def poolList (es : List (Nat × CpInfo)) (last : Nat) : List CpInfo := es.foldr (fun e r => gap e.1 (e.2 :: r)) (gap last [])
def pool (es : List (Nat × CpInfo)) (last : Nat) : Array CpInfo := ⟨poolList es last⟩
def fileOf (pool : Array CpInfo) (this : Nat) (attrs : Array Attribute := #[]) (ms : Array MethodInfo := #[]) (fl : Nat := 33) (sup : Nat := 0) (ifs : Array Nat := #[]) (fds : Array FieldInfo := #[]) : ClassFile where
  minorVersion := 0
  majorVersion := 65
  constantPool := pool
  accessFlags := fl
  thisClass := this
  superClass := sup
  interfaces := ifs
  fields := fds
  methods := ms
  attributes := attrs
def plain (name : String) (sup : Option ClassId) : Class where
  name := name
  kind := .ordinary
  loader := none
  accessFlags := 33
  super := sup
  interfaces := #[]
  cf := none
  fields := #[]
  methods := #[]
  instanceTypes := #[]
  staticTypes := #[]
  resolved := #[]
  callSites := []
  init := .initialized
  statics := none
  mirror := none

def pool0 : Array CpInfo := pool [(5, u "<init>"), (0, u "()V"), (1, .class_ 10), (1, u "java/lang/Object")] 113

def k0c0 : Code := { maxStack := 0, maxLocals := 1, code := object_method_1_code, exceptionTable := #[], attributes := #[] }
def k0m0 : Method := { name := "<init>", desc := "()V", sig := { parameters := [], returnType := none }, accessFlags := 1, code := some k0c0 }
/-- java/lang/Object -/
def k0 : Class := { plain "java/lang/Object" none with
  accessFlags := 33
  interfaces := #[]
  cf := some (fileOf pool0 8 #[] #[{ accessFlags := 1, nameIndex := 5, descriptorIndex := 6, attributes := #[] }] 33 0 #[] #[])
  fields := #[]
  methods := #[k0m0]
  instanceTypes := #[]
  staticTypes := #[]
  resolved := Array.replicate 124 none
  statics := none }

def pool1 : Array CpInfo := pool [(2, .class_ 4), (1, u "java/lang/Object"), (0, u "<init>"), (0, u "()V"), (0, .class_ 8), (0, u "com/example/eventually/eventually/solver/StateQueue"), (0, .methodref 7 10), (0, .nameAndType 5 11), (0, u "(I)V"), (0, .methodref 7 13), (0, .nameAndType 14 11), (0, u "add"), (0, .methodref 7 16), (0, .nameAndType 17 18), (0, u "size"), (0, u "()I"), (0, .methodref 7 20), (0, .nameAndType 21 22), (0, u "isEmpty"), (0, u "()Z"), (0, .methodref 7 24), (0, .nameAndType 25 26), (0, u "added"), (0, u "()[I"), (0, .methodref 7 28), (0, .nameAndType 29 18), (0, u "take"), (0, .class_ 31), (0, u "com/example/eventually/eventually/solver/StateQueueAddPinLaw"), (2, u "law"), (0, u "(IIII)Z")] 5

def k1m0 : Method := { name := "<init>", desc := "()V", sig := { parameters := [], returnType := none }, accessFlags := 1, code := none }
def k1c1 : Code := { maxStack := 3, maxLocals := 9, code := code, exceptionTable := #[], attributes := #[] }
def k1m1 : Method := { name := "law", desc := "(IIII)Z", sig := { parameters := [.int, .int, .int, .int], returnType := some .boolean }, accessFlags := 9, code := some k1c1 }
/-- com/example/eventually/eventually/solver/StateQueueAddPinLaw -/
def k1 : Class := { plain "com/example/eventually/eventually/solver/StateQueueAddPinLaw" (some 0) with
  accessFlags := 49
  interfaces := #[]
  cf := some (fileOf pool1 30 #[] #[{ accessFlags := 1, nameIndex := 5, descriptorIndex := 6, attributes := #[] }, { accessFlags := 9, nameIndex := 34, descriptorIndex := 35, attributes := #[] }] 49 2 #[] #[])
  fields := #[]
  methods := #[k1m0, k1m1]
  instanceTypes := #[]
  staticTypes := #[]
  resolved := Array.replicate 41 none
  statics := none }

def pool2 : Array CpInfo := pool [(1, .methodref 2 3), (0, .class_ 4), (0, .nameAndType 5 6), (0, u "java/lang/Object"), (0, u "<init>"), (0, u "()V"), (0, .fieldref 8 9), (0, .class_ 10), (0, .nameAndType 11 12), (0, u "com/example/eventually/eventually/solver/StateQueue"), (0, u "states"), (0, u "[I"), (0, .fieldref 8 14), (0, .nameAndType 15 16), (0, u "tail"), (0, u "I"), (8, u "add"), (0, u "(I)V"), (0, .fieldref 8 28), (0, .nameAndType 29 16), (0, u "head"), (5, u "isEmpty"), (0, u "()Z"), (0, u "take"), (0, u "()I"), (0, u "size"), (0, u "added"), (0, u "()[I")] 2

def k2c0 : Code := { maxStack := 2, maxLocals := 2, code := prog_110_method_1_code, exceptionTable := #[], attributes := #[] }
def k2m0 : Method := { name := "<init>", desc := "(I)V", sig := { parameters := [.int], returnType := none }, accessFlags := 0, code := some k2c0 }
def k2c1 : Code := { maxStack := 3, maxLocals := 2, code := prog_110_method_2_code, exceptionTable := #[], attributes := #[] }
def k2m1 : Method := { name := "add", desc := "(I)V", sig := { parameters := [.int], returnType := none }, accessFlags := 0, code := some k2c1 }
def k2c2 : Code := { maxStack := 2, maxLocals := 1, code := prog_110_method_4_code, exceptionTable := #[], attributes := #[] }
def k2m2 : Method := { name := "isEmpty", desc := "()Z", sig := { parameters := [], returnType := some .boolean }, accessFlags := 0, code := some k2c2 }
def k2c3 : Code := { maxStack := 3, maxLocals := 2, code := prog_110_method_5_code, exceptionTable := #[], attributes := #[] }
def k2m3 : Method := { name := "take", desc := "()I", sig := { parameters := [], returnType := some .int }, accessFlags := 0, code := some k2c3 }
def k2c4 : Code := { maxStack := 1, maxLocals := 1, code := prog_110_method_6_code, exceptionTable := #[], attributes := #[] }
def k2m4 : Method := { name := "size", desc := "()I", sig := { parameters := [], returnType := some .int }, accessFlags := 0, code := some k2c4 }
def k2c5 : Code := { maxStack := 1, maxLocals := 1, code := prog_110_method_7_code, exceptionTable := #[], attributes := #[] }
def k2m5 : Method := { name := "added", desc := "()[I", sig := { parameters := [], returnType := some (.array .int) }, accessFlags := 0, code := some k2c5 }
/-- com/example/eventually/eventually/solver/StateQueue -/
def k2 : Class := { plain "com/example/eventually/eventually/solver/StateQueue" (some 0) with
  accessFlags := 48
  interfaces := #[]
  cf := some (fileOf pool2 8 #[] #[{ accessFlags := 0, nameIndex := 5, descriptorIndex := 26, attributes := #[] }, { accessFlags := 0, nameIndex := 25, descriptorIndex := 26, attributes := #[] }, { accessFlags := 0, nameIndex := 35, descriptorIndex := 36, attributes := #[] }, { accessFlags := 0, nameIndex := 37, descriptorIndex := 38, attributes := #[] }, { accessFlags := 0, nameIndex := 39, descriptorIndex := 38, attributes := #[] }, { accessFlags := 0, nameIndex := 40, descriptorIndex := 41, attributes := #[] }] 48 2 #[] #[{ accessFlags := 18, nameIndex := 11, descriptorIndex := 12, attributes := #[] }, { accessFlags := 2, nameIndex := 29, descriptorIndex := 16, attributes := #[] }, { accessFlags := 2, nameIndex := 15, descriptorIndex := 16, attributes := #[] }])
  fields := #[{ name := "states", type := (.array .int), accessFlags := 18, slot := 0, constantValue := 0 }, { name := "head", type := .int, accessFlags := 2, slot := 1, constantValue := 0 }, { name := "tail", type := .int, accessFlags := 2, slot := 2, constantValue := 0 }]
  methods := #[k2m0, k2m1, k2m2, k2m3, k2m4, k2m5]
  instanceTypes := #[(.array .int), .int, .int]
  staticTypes := #[]
  resolved := Array.replicate 44 none
  statics := none }

def pool3 : Array CpInfo := pool [(1, u "java/lang/Cloneable"), (0, .class_ 1), (0, u "java/lang/Object"), (0, .class_ 3)] 3

/-- java/lang/Cloneable -/
def k3 : Class := { plain "java/lang/Cloneable" (some 0) with
  accessFlags := 1537
  interfaces := #[]
  cf := some (fileOf pool3 2 #[] #[] 1537 4 #[] #[])
  fields := #[]
  methods := #[]
  instanceTypes := #[]
  staticTypes := #[]
  resolved := Array.replicate 8 none
  statics := none }

def pool4 : Array CpInfo := pool [(1, u "java/io/Serializable"), (0, .class_ 1), (0, u "java/lang/Object"), (0, .class_ 3)] 3

/-- java/io/Serializable -/
def k4 : Class := { plain "java/io/Serializable" (some 0) with
  accessFlags := 1537
  interfaces := #[]
  cf := some (fileOf pool4 2 #[] #[] 1537 4 #[] #[])
  fields := #[]
  methods := #[]
  instanceTypes := #[]
  staticTypes := #[]
  resolved := Array.replicate 8 none
  statics := none }

/-- the primitive byte -/
def k5 : Class := { plain "byte" none with kind := .primitive 'B', accessFlags := 0x411 }
/-- [B -/
def k6 : Class := { plain "[B" (some 0) with kind := .array 5 .byte, interfaces := #[3, 4], accessFlags := 1041 }

/-- the primitive int -/
def k7 : Class := { plain "int" none with kind := .primitive 'I', accessFlags := 0x411 }
/-- [I -/
def k8 : Class := { plain "[I" (some 0) with kind := .array 7 .int, interfaces := #[3, 4], accessFlags := 1041 }

def heap : Heap := #[]
def classes : Array Class := #[k0, k1, k2, k3, k4, k5, k6, k7, k8]
def interned : List (Array UInt16 × Addr) := []
def slotsUsed : Nat := 0
def theMethod : MethodId := ⟨1, 1⟩
def args0 : Array Value := #[.int 5, .int 1, .int 2, .int 1]
def aboutOver (below : List Frame) : State where
  vm := { classes := classes, interned := interned.toArray }
  heap := heap
  slotsUsed := slotsUsed
  threads := #[{ frames := .invoking theMethod args0 :: below }]
def below0 : List Frame := [.native { method := ⟨0, 0⟩, args := #[] }]
def about1 : State := aboutOver below0
def p0 : Program := .bare "" "" ""
def e0 : Env := launch0.env 0 0 0
theorem w_frames : about1.frames = Frame.invoking theMethod args0 :: below0 := rfl
set_option maxRecDepth 65536 in
theorem w_args : argsFit about1.vm theMethod args0 = true := by decide +kernel
set_option maxRecDepth 65536 in
theorem w_heap : heapFits about1 = true := by decide +kernel
set_option maxRecDepth 65536 in
theorem w_runnable : about1.curStatus? = some .runnable := by decide +kernel
set_option maxRecDepth 65536 in
theorem w_alone : about1.alone = true := by decide +kernel
set_option maxRecDepth 65536 in
theorem w_named : about1.methodNamed? x = some theMethod := by decide +kernel
set_option maxRecDepth 65536 in
theorem w_hears : about1.hears theMethod below0 = true := by decide +kernel
set_option maxRecDepth 65536 in
theorem w_ripe : about1.ripe theMethod args0 below0 = true := by decide +kernel
theorem w_running : about1.status = .running := rfl
set_option maxRecDepth 65536 in
theorem w_room : about1.hasRoom e0.platform room_1 = true :=
  launch0.hasRoom_least _ room_1 (by decide +kernel) (by decide +kernel) (by decide +kernel) (by decide +kernel) (by decide +kernel) (by decide +kernel)
theorem allAtoms_all (ts : List Jvm.Cond) (a : Array Jvm.Value) (st : Jvm.State) : (allAtoms ts).before a st = ts.all (fun c => c.before a st) := by
  induction ts with
  | nil => rfl
  | cons c t ih =>
    show (Jvm.Cond.and c (allAtoms t)).before a st = _
    rw [Jvm.Cond.before_and, ih, List.all_cons]
def words1 : List Jvm.Cond := Jvm.Cond.code x code maxLocals ret :: tables_1
/-- a 'code' word, met by the world's own term for the bytes: nothing is compared byte by byte -/
theorem code_word {y : MethodName} {bytes : ByteArray} {mx : Nat} {rt : Option FieldType} {a : Array Value} {s : State} {m : MethodId} {meth : Method} {c : Code} (h1 : s.methodNamed? y = some m) (h2 : s.vm.method? m = some meth) (h3 : meth.code = some c) (h4 : c.code = bytes)
    (h5 : (c.maxLocals == mx && c.exceptionTable.isEmpty && decide (c.maxStack ≤ mostOperands) && decide (meth.sig.returnType = rt) && !meth.locks && decide (parseMethodDescriptor y.desc = some meth.sig)) = true) : (Jvm.Cond.code y bytes mx rt).before a s = true := by
  simp only [Bool.and_eq_true, beq_iff_eq, Bool.not_eq_true', decide_eq_true_eq] at h5
  obtain ⟨⟨⟨⟨⟨g1, g2⟩, g3⟩, g4⟩, g5⟩, g6⟩ := h5
  simp [Cond.before, Cond.holds, Cond.value, h1, h2, h3, h4, g1, g2, g3, g4, g5, g6]
def isCode : Jvm.Cond → Bool
  | .code _ _ _ _ => true
  | _ => false
theorem all_split {L : List Jvm.Cond} {P : Jvm.Cond → Bool} (h1 : L.all (fun c => isCode c || P c) = true) (h2 : ∀ c ∈ L.filter isCode, P c = true) : L.all P = true := by
  refine List.all_eq_true.mpr fun c hc => ?_
  have h := List.all_eq_true.mp h1 c hc
  rcases Bool.eq_false_or_eq_true (isCode c) with hi | hi
  · exact h2 c (List.mem_filter.mpr ⟨hc, hi⟩)
  · simpa [hi] using h
set_option maxRecDepth 65536 in
theorem w_c0 : (Jvm.Cond.code x code maxLocals ret).before args0 about1 = true := code_word (m := ⟨1, 1⟩) (meth := k1m1) (c := k1c1) (by decide +kernel) rfl rfl rfl (by decide +kernel)
set_option maxRecDepth 65536 in
theorem w_c1 : (Jvm.Cond.code ({ cls := "com/example/eventually/eventually/solver/StateQueue", name := "<init>", desc := "(I)V" } : Jvm.MethodName) prog_110_method_1_code (2 : Nat) (Option.none : Option Jvm.ClassFile.FieldType)).before args0 about1 = true := code_word (m := ⟨2, 0⟩) (meth := k2m0) (c := k2c0) (by decide +kernel) rfl rfl rfl (by decide +kernel)
set_option maxRecDepth 65536 in
theorem w_c2 : (Jvm.Cond.code ({ cls := "java/lang/Object", name := "<init>", desc := "()V" } : Jvm.MethodName) object_method_1_code (1 : Nat) (Option.none : Option Jvm.ClassFile.FieldType)).before args0 about1 = true := code_word (m := ⟨0, 0⟩) (meth := k0m0) (c := k0c0) (by decide +kernel) rfl rfl rfl (by decide +kernel)
set_option maxRecDepth 65536 in
theorem w_c3 : (Jvm.Cond.code ({ cls := "com/example/eventually/eventually/solver/StateQueue", name := "size", desc := "()I" } : Jvm.MethodName) prog_110_method_6_code (1 : Nat) (Option.some Jvm.ClassFile.FieldType.int)).before args0 about1 = true := code_word (m := ⟨2, 4⟩) (meth := k2m4) (c := k2c4) (by decide +kernel) rfl rfl rfl (by decide +kernel)
set_option maxRecDepth 65536 in
theorem w_c4 : (Jvm.Cond.code ({ cls := "com/example/eventually/eventually/solver/StateQueue", name := "isEmpty", desc := "()Z" } : Jvm.MethodName) prog_110_method_4_code (1 : Nat) (Option.some Jvm.ClassFile.FieldType.boolean)).before args0 about1 = true := code_word (m := ⟨2, 2⟩) (meth := k2m2) (c := k2c2) (by decide +kernel) rfl rfl rfl (by decide +kernel)
set_option maxRecDepth 65536 in
theorem w_c5 : (Jvm.Cond.code ({ cls := "com/example/eventually/eventually/solver/StateQueue", name := "added", desc := "()[I" } : Jvm.MethodName) prog_110_method_7_code (1 : Nat) (Option.some (Jvm.ClassFile.FieldType.array Jvm.ClassFile.FieldType.int))).before args0 about1 = true := code_word (m := ⟨2, 5⟩) (meth := k2m5) (c := k2c5) (by decide +kernel) rfl rfl rfl (by decide +kernel)
set_option maxRecDepth 65536 in
theorem w_c6 : (Jvm.Cond.code ({ cls := "com/example/eventually/eventually/solver/StateQueue", name := "add", desc := "(I)V" } : Jvm.MethodName) prog_110_method_2_code (2 : Nat) (Option.none : Option Jvm.ClassFile.FieldType)).before args0 about1 = true := code_word (m := ⟨2, 1⟩) (meth := k2m1) (c := k2c1) (by decide +kernel) rfl rfl rfl (by decide +kernel)
set_option maxRecDepth 65536 in
theorem w_c7 : (Jvm.Cond.code ({ cls := "com/example/eventually/eventually/solver/StateQueue", name := "take", desc := "()I" } : Jvm.MethodName) prog_110_method_5_code (2 : Nat) (Option.some Jvm.ClassFile.FieldType.int)).before args0 about1 = true := code_word (m := ⟨2, 3⟩) (meth := k2m3) (c := k2c3) (by decide +kernel) rfl rfl rfl (by decide +kernel)
def codes1 : List Jvm.Cond := [Jvm.Cond.code x code maxLocals ret, Jvm.Cond.code ({ cls := "com/example/eventually/eventually/solver/StateQueue", name := "<init>", desc := "(I)V" } : Jvm.MethodName) prog_110_method_1_code (2 : Nat) (Option.none : Option Jvm.ClassFile.FieldType), Jvm.Cond.code ({ cls := "java/lang/Object", name := "<init>", desc := "()V" } : Jvm.MethodName) object_method_1_code (1 : Nat) (Option.none : Option Jvm.ClassFile.FieldType), Jvm.Cond.code ({ cls := "com/example/eventually/eventually/solver/StateQueue", name := "size", desc := "()I" } : Jvm.MethodName) prog_110_method_6_code (1 : Nat) (Option.some Jvm.ClassFile.FieldType.int), Jvm.Cond.code ({ cls := "com/example/eventually/eventually/solver/StateQueue", name := "isEmpty", desc := "()Z" } : Jvm.MethodName) prog_110_method_4_code (1 : Nat) (Option.some Jvm.ClassFile.FieldType.boolean), Jvm.Cond.code ({ cls := "com/example/eventually/eventually/solver/StateQueue", name := "added", desc := "()[I" } : Jvm.MethodName) prog_110_method_7_code (1 : Nat) (Option.some (Jvm.ClassFile.FieldType.array Jvm.ClassFile.FieldType.int)), Jvm.Cond.code ({ cls := "com/example/eventually/eventually/solver/StateQueue", name := "add", desc := "(I)V" } : Jvm.MethodName) prog_110_method_2_code (2 : Nat) (Option.none : Option Jvm.ClassFile.FieldType), Jvm.Cond.code ({ cls := "com/example/eventually/eventually/solver/StateQueue", name := "take", desc := "()I" } : Jvm.MethodName) prog_110_method_5_code (2 : Nat) (Option.some Jvm.ClassFile.FieldType.int)]
set_option maxRecDepth 65536 in
theorem codes_eq : words1.filter isCode = codes1 := rfl
theorem w_codes : ∀ c ∈ words1.filter isCode, c.before args0 about1 = true := by
  rw [codes_eq]
  intro c hc
  simp only [codes1, List.mem_cons, List.not_mem_nil, or_false] at hc
  rcases hc with rfl | rfl | rfl | rfl | rfl | rfl | rfl | rfl
  · exact w_c0
  · exact w_c1
  · exact w_c2
  · exact w_c3
  · exact w_c4
  · exact w_c5
  · exact w_c6
  · exact w_c7
set_option maxRecDepth 65536 in
theorem w_t1 : (words1.take 24).all (fun c => isCode c || c.before args0 about1) = true := by decide +kernel
set_option maxRecDepth 65536 in
theorem w_t2 : (words1.drop 24).all (fun c => isCode c || c.before args0 about1) = true := by decide +kernel
theorem w_tables : (allAtoms (Jvm.Cond.code x code maxLocals ret :: tables_1)).before args0 about1 = true := by
  rw [allAtoms_all]
  show words1.all (fun c => c.before args0 about1) = true
  refine all_split ?_ w_codes
  rw [← List.take_append_drop 24 words1, List.all_append, w_t1, w_t2]
  rfl
set_option maxRecDepth 65536 in
theorem w_case : (Jvm.Cond.and given_1 narrow_1).before args0 about1 = true := by decide +kernel
theorem w_applies : (headSpec (Jvm.Cond.code x code maxLocals ret :: tables_1) room_1).applies x e0.platform about1 = true :=
  (Spec.applies_iff w_frames).mpr ⟨w_running, w_runnable, w_alone, w_named, w_hears, w_ripe, w_room, w_tables⟩
theorem atStart : AtStart classFile x code maxLocals ret World_1 tables_1 room_1 Calls_1 rest_1 Pre_1 launch0 p0 e0 about1 theMethod args0 below0 :=
  ⟨lists_1, trivial, launch0.admits_env _ _ _, launch0.least_env, fairChoices_fair.cas, fairChoices_fair.clock, w_frames, w_args, w_heap, w_applies, trivial, trivial, w_case⟩
end start1
theorem witness_1 : WitnessClaimed_1 := ⟨start1.p0, start1.e0, start1.about1, start1.theMethod, start1.args0, start1.below0, start1.atStart⟩
end Jvm.Pilot.@@N@@
