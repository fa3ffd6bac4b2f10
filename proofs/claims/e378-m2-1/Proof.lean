import JvmDerived
import JvmDerived.Pilot.@@N@@Statement
import JvmDerived.Pilot.@@N@@Code
set_option linter.unusedVariables false
set_option linter.unusedSimpArgs false
@@BLOCK:NumsL.lean.txt@@
@@BLOCK:Masks.lean.txt@@
set_option maxRecDepth 65536
namespace Jvm.Pilot.@@N@@
open Jvm Jvm.ClassFile Sem Op Lib Jvm.Free Jvm.Stand Jvm.LawKit Jvm.RoadKit Bundle Jvm.Pilot.@@N@@.Jvm.D
/-! OWN KIT: the walk in continuation style over lawnew's family -/
section OwnKit
variable {p : Program} {l : Launch} {e : Env} {R : Room} {s : State} {m : MethodId} {args : Array Value} {below : List Frame} {meth : Method} {c : Code} {T : State} {locs : List Loc} {cells slots : Nat} {Z : State} {a0 : Array Value} {h : Heap} {K : Outcome → State → Prop} {Q : Option Value → Heap → List Loc → Prop} {rc rs : Nat}
/-- from the frame g over T the run comes to its end, and K holds there -/
def Go (p : Program) (e : Env) (below : List Frame) (K : Outcome → State → Prop) (T : State) (g : JFrame) : Prop :=
  ∃ s₂ o, Steps p.tables e below (T.setTop g) s₂ ∧ s₂.status = .running ∧ Ended s₂ below o ∧ K o s₂
theorem Go.to {T T' : State} {g g' : JFrame} (st : ∀ t, Steps p.tables e below (T'.setTop g') t → Steps p.tables e below (T.setTop g) t) (k : Go p e below K T' g') : Go p e below K T g := by
  obtain ⟨s₂, o, h1, h2⟩ := k
  exact ⟨s₂, o, st _ h1, h2⟩
def KQ (s : State) (Q : Option Value → Heap → List Loc → Prop) (rc rs : Nat) : Outcome → State → Prop := fun o U => ∃ v L, o = .returned v ∧ Q v U.heap L ∧ FrameEnd s o U L rc rs
theorem Go.retW (X : Stand p l e R s m args below meth c T locs cells slots) (hx : p.tables.exec = Jvm.exec) (hlk : meth.locks = false) {pc : Nat} {Ls : Array Slot} {w : Value} {t : FieldType} {i : Instr} {rest : List Value} (hret : meth.sig.returnType = some t) (hn : narrow t w = w)
    (hi : (i = .ireturn ∧ (t = .int ∨ t = .boolean ∨ t = .byte ∨ t = .char ∨ t = .short) ∧ ∃ z, w = .int z) ∨ (i = .lreturn ∧ t = .long ∧ ∃ z, w = .long z) ∨ (i = .dreturn ∧ t = .double ∧ ∃ z, w = .double z) ∨ (i = .freturn ∧ t = .float ∧ ∃ z, w = .float z) ∨ (i = .areturn ∧ t.isReference = true ∧ w.isRef = true))
    (hd : decode c.code pc = .ok (i, 1)) (hq : Q (some w) T.heap locs) (hc : cells ≤ rc) (hs : slots ≤ rs) : Go p e below (KQ s Q rc rs) T (mkF m pc Ls (w :: rest)) := by
  obtain ⟨fs, hr, hrun, hended, hW, hsame⟩ := X.leave (v := some w) (fun h => by rw [hret] at h; cases h) hlk
  exact ⟨_, _, retOut X hx hret hn hi hd hr, hrun, hended, _, _, rfl, hq, ⟨_, rfl⟩, hW, hsame.mono hc hs⟩
theorem Go.retI (X : Stand p l e R s m args below meth c T locs cells slots) (hx : p.tables.exec = Jvm.exec) (hlk : meth.locks = false) {pc : Nat} {Ls : Array Slot} {z : Int32} {rest : List Value} (hret : meth.sig.returnType = some .int)
    (hd : decode c.code pc = .ok (.ireturn, 1)) (hq : Q (some (.int z)) T.heap locs) (hc : cells ≤ rc) (hs : slots ≤ rs) : Go p e below (KQ s Q rc rs) T (mkF m pc Ls (.int z :: rest)) :=
  Go.retW X hx hlk hret rfl (Or.inl ⟨rfl, Or.inl rfl, z, rfl⟩) hd hq hc hs
theorem Go.retJ (X : Stand p l e R s m args below meth c T locs cells slots) (hx : p.tables.exec = Jvm.exec) (hlk : meth.locks = false) {pc : Nat} {Ls : Array Slot} {z : Int64} {rest : List Value} (hret : meth.sig.returnType = some .long)
    (hd : decode c.code pc = .ok (.lreturn, 1)) (hq : Q (some (.long z)) T.heap locs) (hc : cells ≤ rc) (hs : slots ≤ rs) : Go p e below (KQ s Q rc rs) T (mkF m pc Ls (.long z :: rest)) :=
  Go.retW X hx hlk hret rfl (Or.inr (Or.inl ⟨rfl, rfl, z, rfl⟩)) hd hq hc hs
theorem Go.retZ (X : Stand p l e R s m args below meth c T locs cells slots) (hx : p.tables.exec = Jvm.exec) (hlk : meth.locks = false) {pc : Nat} {Ls : Array Slot} {z : Int32} {rest : List Value} (hret : meth.sig.returnType = some .boolean) (hz : z = 0 ∨ z = 1)
    (hd : decode c.code pc = .ok (.ireturn, 1)) (hq : Q (some (.int z)) T.heap locs) (hc : cells ≤ rc) (hs : slots ≤ rs) : Go p e below (KQ s Q rc rs) T (mkF m pc Ls (.int z :: rest)) :=
  Go.retW X hx hlk hret (by rcases hz with rfl | rfl <;> rfl) (Or.inl ⟨rfl, Or.inr (Or.inl rfl), z, rfl⟩) hd hq hc hs
theorem Go.retA (X : Stand p l e R s m args below meth c T locs cells slots) (hx : p.tables.exec = Jvm.exec) (hlk : meth.locks = false) {pc : Nat} {Ls : Array Slot} {w : Value} {t : FieldType} {rest : List Value} (hret : meth.sig.returnType = some t) (ht : t.isReference = true) (hw : w.isRef = true) (hn : narrow t w = w)
    (hd : decode c.code pc = .ok (.areturn, 1)) (hq : Q (some w) T.heap locs) (hc : cells ≤ rc) (hs : slots ≤ rs) : Go p e below (KQ s Q rc rs) T (mkF m pc Ls (w :: rest)) :=
  Go.retW X hx hlk hret hn (Or.inr (Or.inr (Or.inr (Or.inr ⟨rfl, ht, hw⟩)))) hd hq hc hs
theorem Go.retV (X : Stand p l e R s m args below meth c T locs cells slots) (hx : p.tables.exec = Jvm.exec) (hlk : meth.locks = false) {pc : Nat} {Ls : Array Slot} (hret : meth.sig.returnType = none)
    (hd : decode c.code pc = .ok (.return_, 1)) (hq : Q none T.heap locs) (hc : cells ≤ rc) (hs : slots ≤ rs) : Go p e below (KQ s Q rc rs) T (mkF m pc Ls []) := by
  obtain ⟨fs, hr, hrun, hended, hW, hsame⟩ := X.leave (v := none) (fun _ => rfl) hlk
  exact ⟨_, _, X.returnOut hx hret hd hr, hrun, hended, _, _, rfl, hq, ⟨_, rfl⟩, hW, hsame.mono hc hs⟩
/-- a contract in this family -/
abbrev Met1 (l : Launch) (Z : State) (y : MethodName) (bytes : ByteArray) (maxL : Nat) (ret : Option FieldType) (ws : List Jvm.Cond) (rm : Room) (as' : Array Value) (h0 : Heap) (Q : Option Value → Heap → List Loc → Prop) : Prop :=
  MetFree l y (head1 (Jvm.Cond.code y bytes maxL ret :: ws) rm) (fun a U => a = as' ∧ Z.Warmed39 U.vm ∧ U.heap = h0) (fun _ _ _ _ _ => True) (fun _ U o U' => ∃ v L, o = .returned v ∧ Q v U'.heap L ∧ FrameEnd U o U' L rm.cells rm.slots)
theorem metOf {y : MethodName} {bytes : ByteArray} {maxL : Nat} {ret : Option FieldType} {ws : List Jvm.Cond} {rm : Room} {as' : Array Value} {h0 : Heap} (hp : plainFor y = true)
    (body : ∀ (p : Program) (e : Env) (s : State) (m : MethodId) (below : List Frame) (meth : Method) (c : Code) (s₁ : State), p.tables.exec = Jvm.exec → c.code = bytes → c.maxLocals = maxL → s.vm.findClass y.cls = some m.cls → meth.name = y.name → meth.sig.returnType = ret → meth.locks = false → Z.Warmed39 s.vm →
      Stand p l e rm s m as' below meth c s₁ [] 0 0 → s₁.heap = h0 → Go p e below (KQ s Q rm.cells rm.slots) s₁ (entryFrame m as' maxL)) : Met1 l Z y bytes maxL ret ws rm as' h0 Q := by
  refine MetFree.of_bodySF hp hisR ?_
  intro p e s m args below meth c s₁ Bd hml0 hP hK
  obtain ⟨rfl, hZ, hh⟩ := hP
  exact body p e s m below meth c s₁ Bd.exec Bd.bytes hml0 (findClass_of_methodNamed Bd.named) (name_of_methodNamed Bd.named Bd.method).1 Bd.returns (BodyLoose.notSynchronized Bd) hZ (Stand.of_body Bd) (by rw [← hh, Bd.state]; rfl)
section Calls
variable {own : String} {index : Nat} {y : MethodName} {bytes : ByteArray} {maxL : Nat} {ret : Option FieldType} {rm : Room} {as' : Array Value} {pc : Nat} {Ls : Array Slot} {st rest argsL : List Value} {ps : List FieldType} {r : Option FieldType}
theorem Go.callS (X : Stand p l e R s m args below meth c T locs cells slots) (hx : p.tables.exec = Jvm.exec) (hZ : Z.Warmed39 s.vm) (hown : s.vm.findClass own = some m.cls)
    (w1 : (Cond.methodLink own index y).before a0 Z = true) (w2 : (Cond.static y).before a0 Z = true) (w3 : (Cond.initialized y.cls).before a0 Z = true) (w4 : (Cond.code y bytes maxL ret).before a0 Z = true)
    (hy : y.cls ≠ "java/lang/invoke/MethodHandle" ∧ y.cls ≠ "java/lang/invoke/VarHandle") (hM : Met1 l Z y bytes maxL ret [] rm as' h Q) (eT : T.heap = h) (hsize : Ls.size = c.maxLocals)
    (hpd : parseMethodDescriptor y.desc = some ⟨ps, r⟩) (hlen : argsL.length = ps.length) (hst : st = argsL.reverse ++ rest) (has : argsL.toArray = as') (hdc : decode c.code pc = .ok (.invokestatic index, 3))
    (hf : rm.frames + 1 ≤ R.frames) (hlo : (rest.map fun v => v.category).sum + (maxL + 11) + rm.locals ≤ R.locals) (hce : cells + rm.cells ≤ R.cells) (hsl : slots + rm.slots ≤ R.slots)
    (k : ∀ T' v L, Stand p l e R s m args below meth c T' (locs ++ L) (cells + rm.cells) (slots + rm.slots) → Q v T'.heap L → Go p e below K T' (mkF m (pc + 3) Ls (v.toList ++ rest))) : Go p e below K T (mkF m pc Ls st) := by
  obtain ⟨v, vm₁, ⟨T', L', c', n'⟩, -, X', ⟨L, hQ, e1, e2, e3⟩, st'⟩ := Jvm.LawKit.callS X hx hown (mvT hZ w1) (mvT hZ w2) (mvT hZ w3) (mvT hZ w4) hy (backOf (W := (rest.map fun v => v.category).sum) hM hZ w4 w3 hf hlo) (g := mkF m pc Ls st) rfl hsize (argsL := argsL) (rest := rest) (lenOf hpd hlen) hst (by show 2 * 0 + _ ≤ _; omega) hdc (fun _ _ => ⟨has, eT, hce, hsl⟩)
  dsimp only [Pt.U, Pt.locs, Pt.cells, Pt.slots] at X' e1 e2 e3 st' hQ
  subst e1 e2 e3
  exact Go.to st' (k T' v L X' hQ)
theorem Go.callI (X : Stand p l e R s m args below meth c T locs cells slots) (hx : p.tables.exec = Jvm.exec) (hZ : Z.Warmed39 s.vm) (hown : s.vm.findClass own = some m.cls) (hin : y.name = "<init>")
    (w1 : (Cond.methodLink own index y).before a0 Z = true) (w2 : (Cond.instanceMethod y).before a0 Z = true) (w3 : (Cond.initialized y.cls).before a0 Z = true) (w4 : (Cond.code y bytes maxL none).before a0 Z = true)
    (hy : y.cls ≠ "java/lang/invoke/MethodHandle" ∧ y.cls ≠ "java/lang/invoke/VarHandle") (hM : Met1 l Z y bytes maxL none [] rm as' h Q) (eT : T.heap = h) (hsize : Ls.size = c.maxLocals)
    (hpd : parseMethodDescriptor y.desc = some ⟨ps, r⟩) (hlen : argsL.length = ps.length) {a : Addr} (hst : st = argsL.reverse ++ .ref a :: rest) (has : (Value.ref a :: argsL).toArray = as') (hdc : decode c.code pc = .ok (.invokespecial index, 3))
    (hf : rm.frames + 1 ≤ R.frames) (hlo : (rest.map fun v => v.category).sum + (maxL + 11) + rm.locals ≤ R.locals) (hce : cells + rm.cells ≤ R.cells) (hsl : slots + rm.slots ≤ R.slots)
    (k : ∀ T' v L, Stand p l e R s m args below meth c T' (locs ++ L) (cells + rm.cells) (slots + rm.slots) → Q v T'.heap L → Go p e below K T' (mkF m (pc + 3) Ls (v.toList ++ rest))) : Go p e below K T (mkF m pc Ls st) := by
  obtain ⟨v, vm₁, ⟨T', L', c', n'⟩, -, X', ⟨L, hQ, e1, e2, e3⟩, st'⟩ := X.specialBack hx hin hown (mvT hZ w1) (mvT hZ w2) (mvT hZ w4) hy (backOf (W := (rest.map fun v => v.category).sum) hM hZ w4 w3 hf hlo) (g := mkF m pc Ls st) rfl hsize (Steps.refl _) (a := a) (argsL := argsL) (rest := rest) (lenOf hpd hlen) hst (by show 2 * 0 + _ ≤ _; omega) hdc (fun _ _ => ⟨has, eT, hce, hsl⟩)
  dsimp only [Pt.U, Pt.locs, Pt.cells, Pt.slots] at X' e1 e2 e3 st' hQ
  subst e1 e2 e3
  exact Go.to (fun _ q => st'.trans q) (k T' v L X' hQ)
theorem Go.callV (X : Stand p l e R s m args below meth c T locs cells slots) (hx : p.tables.exec = Jvm.exec) (hZ : Z.Warmed39 s.vm) (hown : s.vm.findClass own = some m.cls)
    (w1 : (Cond.methodLink own index y).before a0 Z = true) (w5 : (Cond.declares y).before a0 Z = true) {C : String} (w6 : (Cond.selects C y y).before a0 Z = true) (w2 : (Cond.instanceMethod y).before a0 Z = true) (w3 : (Cond.initialized y.cls).before a0 Z = true) (w4 : (Cond.code y bytes maxL ret).before a0 Z = true)
    (hy : y.cls ≠ "java/lang/invoke/MethodHandle" ∧ y.cls ≠ "java/lang/invoke/VarHandle") (hM : Met1 l Z y bytes maxL ret [] rm as' h Q) (eT : T.heap = h) {a : Addr} (E : Exa Z h a C) (hsize : Ls.size = c.maxLocals)
    (hpd : parseMethodDescriptor y.desc = some ⟨ps, r⟩) (hlen : argsL.length = ps.length) (hst : st = argsL.reverse ++ .ref a :: rest) (has : (Value.ref a :: argsL).toArray = as') (hdc : decode c.code pc = .ok (.invokevirtual index, 3))
    (hf : rm.frames + 1 ≤ R.frames) (hlo : (rest.map fun v => v.category).sum + (maxL + 11) + rm.locals ≤ R.locals) (hce : cells + rm.cells ≤ R.cells) (hsl : slots + rm.slots ≤ R.slots)
    (k : ∀ T' v L, Stand p l e R s m args below meth c T' (locs ++ L) (cells + rm.cells) (slots + rm.slots) → Q v T'.heap L → Go p e below K T' (mkF m (pc + 3) Ls (v.toList ++ rest))) : Go p e below K T (mkF m pc Ls st) := by
  obtain ⟨cq, kq, q1, q2, q3⟩ := isOf hZ eT E
  obtain ⟨v, vm₁, ⟨T', L', c', n'⟩, -, X', ⟨L, hQ, e1, e2, e3⟩, st'⟩ := X.virtualBack hx (y := y) (z := y) hown (mvT hZ w1) (mvT hZ w5) (notFace_of_selects (args := #[]) (mvT hZ w6)) (mvT hZ w6) (mvT hZ w2) hy (backOf (W := (rest.map fun v => v.category).sum) hM hZ w4 w3 hf hlo) q1 q3 (g := mkF m pc Ls st) rfl hsize (Steps.refl _) (argsL := argsL) (rest := rest) (lenOf hpd hlen) hst (by show 2 * 0 + _ ≤ _; omega) hdc (fun _ _ => ⟨has, eT, hce, hsl⟩)
  dsimp only [Pt.U, Pt.locs, Pt.cells, Pt.slots] at X' e1 e2 e3 st' hQ
  subst e1 e2 e3
  exact Go.to (fun _ q => st'.trans q) (k T' v L X' hQ)
end Calls
/-! arrays of ints (or of chars) by their list -/
def AV (Z : State) (h : Heap) (b : Addr) (ty : FieldType) (xs : List Int32) : Prop := ∃ cl : Cell, Arr Z h b cl ty ∧ cl.slots = (xs.map Value.int).toArray
def rdL (xs : List Int32) (j : Int32) : Option Int32 := if j < 0 then none else xs[j.toNatClampNeg]?
def wrL (xs : List Int32) (j v : Int32) : List Int32 := xs.set j.toNatClampNeg v
variable {b : Addr} {xs : List Int32} {j v w : Int32} {ty : FieldType} {h' : Heap}
theorem AV.lt (A : AV Z h b ty xs) : b < h.size := by obtain ⟨cl, A, -⟩ := A; exact A.lt
theorem AV.ext (A : AV Z h b ty xs) (E : Ext h h') : AV Z h' b ty xs := by obtain ⟨cl, A, q⟩ := A; exact ⟨cl, A.ext E, q⟩
theorem AV.other {a : Addr} {sl : Nat} {u : Value} (A : AV Z h b ty xs) (W : Wr h h' a sl u) (q : b ≠ a) : AV Z h' b ty xs := by obtain ⟨cl, A, r⟩ := A; exact ⟨cl, A.other W q, r⟩
theorem AV.keep {ws : List Addr} (A : AV Z h b ty xs) (Kp : Keep h h' ws) (q : b ∉ ws) : AV Z h' b ty xs := by obtain ⟨cl, A, r⟩ := A; exact ⟨cl, ⟨Kp.2.1 b cl A.1 q, A.2⟩, r⟩
theorem AV.same {n : Nat} (A : AV Z h b ty xs) (W : Wr h h' b n (.int v)) : AV Z h' b ty (xs.set n v) := by
  obtain ⟨cl, A, r⟩ := A
  refine ⟨_, A.same W, ?_⟩
  simp only [Cell.setSlot, r, List.setIfInBounds_toArray, List.map_set]
theorem AV.rd (A : AV Z h b ty xs) (hr : rdL xs j = some v) : ∃ cl : Cell, Arr Z h b cl ty ∧ ¬ (j < 0 ∨ cl.slots.size ≤ j.toNatClampNeg) ∧ cl.slots[j.toNatClampNeg]? = some (.int v) := by
  obtain ⟨cl, A, r⟩ := A
  unfold rdL at hr
  split at hr
  · cases hr
  · rename_i hj
    obtain ⟨hlt, hv⟩ := List.getElem?_eq_some_iff.mp hr
    refine ⟨cl, A, ?_, ?_⟩
    · rw [r]; simp only [List.size_toArray, List.length_map]; rintro (q | q)
      · exact hj q
      · omega
    · rw [r]; simp [hlt, hv]
theorem AV.new {cA : ClassId} {n : Int32} (A : Arr Z h b (newA cA .int n) .int) : AV Z h b .int (List.replicate n.toNatClampNeg 0) := ⟨_, A, by simp [newA, defaultValue]⟩
theorem AV.newC {cA : ClassId} {n : Int32} (A : Arr Z h b (newA cA .char n) .char) : AV Z h b .char (List.replicate n.toNatClampNeg 0) := ⟨_, A, by simp [newA, defaultValue]⟩
variable {pc : Nat} {Ls : Array Slot} {rest : List Value}
theorem Go.iaload (X : Stand p l e R s m args below meth c T locs cells slots) (hx : p.tables.exec = Jvm.exec) (hZ : Z.Warmed39 s.vm) (eT : T.heap = h) (A : AV Z h b .int xs) (hr : rdL xs j = some v) (hd : decode c.code pc = .ok (.iaload, 1))
    (k : Go p e below K T (mkF m (pc + 1) Ls (.int v :: rest))) : Go p e below K T (mkF m pc Ls (.int j :: .ref b :: rest)) := by
  obtain ⟨cl, A, h1, h2⟩ := A.rd hr
  exact Go.to (fun t q => X.iaload hx (by rw [eT]; exact A.1) (State.isArrayOf_alike hZ.alike A.2.1) A.2.2 h1 h2 (g := mkF m pc Ls (.int j :: .ref b :: rest)) rfl rfl hd t q) k
theorem Go.caload (X : Stand p l e R s m args below meth c T locs cells slots) (hx : p.tables.exec = Jvm.exec) (hZ : Z.Warmed39 s.vm) (eT : T.heap = h) (A : AV Z h b .char xs) (hr : rdL xs j = some v) (hd : decode c.code pc = .ok (.caload, 1))
    (k : Go p e below K T (mkF m (pc + 1) Ls (.int v :: rest))) : Go p e below K T (mkF m pc Ls (.int j :: .ref b :: rest)) := by
  obtain ⟨cl, A, h1, h2⟩ := A.rd hr
  exact Go.to (fun t q => X.caload hx (by rw [eT]; exact A.1) (State.isArrayOf_alike hZ.alike A.2.1) A.2.2 h1 h2 (g := mkF m pc Ls (.int j :: .ref b :: rest)) rfl rfl hd t q) k
theorem Go.alen (X : Stand p l e R s m args below meth c T locs cells slots) (hx : p.tables.exec = Jvm.exec) (hZ : Z.Warmed39 s.vm) (eT : T.heap = h) (A : AV Z h b ty xs) (hd : decode c.code pc = .ok (.arraylength, 1))
    (k : Go p e below K T (mkF m (pc + 1) Ls (.int xs.length.toInt32 :: rest))) : Go p e below K T (mkF m pc Ls (.ref b :: rest)) := by
  obtain ⟨cl, A, r⟩ := A
  refine Go.to (fun t q => X.arraylength hx (by rw [eT]; exact A.1) (State.isArrayOf_alike hZ.alike A.2.1) (g := mkF m pc Ls (.ref b :: rest)) rfl rfl hd t q) ?_
  simpa [r] using k
theorem Go.iastore (X : Stand p l e R s m args below meth c T locs cells slots) (hx : p.tables.exec = Jvm.exec) (hZ : Z.Warmed39 s.vm) (eT : T.heap = h) (A : AV Z h b .int xs) (hr : rdL xs j = some w) (hd : decode c.code pc = .ok (.iastore, 1))
    (k : ∀ T' h', Stand p l e R s m args below meth c T' (locs ++ [⟨b, j.toNatClampNeg⟩]) cells slots → T'.heap = h' → Wr h h' b j.toNatClampNeg (.int v) → AV Z h' b .int (wrL xs j v) → Go p e below K T' (mkF m (pc + 1) Ls rest)) : Go p e below K T (mkF m pc Ls (.int v :: .int j :: .ref b :: rest)) := by
  obtain ⟨cl, A', h1, h2⟩ := A.rd hr
  obtain ⟨T', h', X', e', W, st⟩ := stI X hx hZ eT A' (j := j) h1 (g := mkF m pc Ls (.int v :: .int j :: .ref b :: rest)) rfl rfl hd
  exact Go.to st (k T' h' X' e' W (A.same W))
theorem Go.castore (X : Stand p l e R s m args below meth c T locs cells slots) (hx : p.tables.exec = Jvm.exec) (hZ : Z.Warmed39 s.vm) (eT : T.heap = h) (A : AV Z h b .char xs) (hr : rdL xs j = some w) (hn : nar .char v = v) (hd : decode c.code pc = .ok (.castore, 1))
    (k : ∀ T' h', Stand p l e R s m args below meth c T' (locs ++ [⟨b, j.toNatClampNeg⟩]) cells slots → T'.heap = h' → Wr h h' b j.toNatClampNeg (.int v) → AV Z h' b .char (wrL xs j v) → Go p e below K T' (mkF m (pc + 1) Ls rest)) : Go p e below K T (mkF m pc Ls (.int v :: .int j :: .ref b :: rest)) := by
  obtain ⟨cl, A', h1, h2⟩ := A.rd hr
  obtain ⟨T', h', X', e', W, st⟩ := stC X hx hZ eT A' (j := j) h1 (g := mkF m pc Ls (.int v :: .int j :: .ref b :: rest)) rfl rfl hd
  rw [hn] at W
  exact Go.to st (k T' h' X' e' W (A.same W))
theorem Go.newI (X : Stand p l e R s m args below meth c T locs cells slots) (hx : p.tables.exec = Jvm.exec) (hZ : Z.Warmed39 s.vm) (wa : (Cond.arrayClass .int).before a0 Z = true) (eT : T.heap = h) (hd : decode c.code pc = .ok (.newarray .int, 2)) {n : Int32} (hn : ¬ n < 0) {cap : Nat} (hcap : n.toNatClampNeg ≤ cap) (hb : cap * 8 ≤ 536870912) (hc : cells + 1 ≤ R.cells) (hl : slots + cap ≤ R.slots)
    (k : ∀ T' h' b, Stand p l e R s m args below meth c T' locs (cells + 1) (slots + cap) → T'.heap = h' → Ext h h' → b = h.size → AV Z h' b .int (List.replicate n.toNatClampNeg 0) → Go p e below K T' (mkF m (pc + 2) Ls (.ref b :: rest))) : Go p e below K T (mkF m pc Ls (.int n :: rest)) := by
  obtain ⟨T', h', cA, X', e', E, A, st⟩ := newP X hx hZ (aty := .int) wa eT (g := mkF m pc Ls (.int n :: rest)) rfl hd rfl hn hcap hb hc hl
  exact Go.to st (k T' h' _ X' e' E rfl (AV.new A))
theorem Go.newC (X : Stand p l e R s m args below meth c T locs cells slots) (hx : p.tables.exec = Jvm.exec) (hZ : Z.Warmed39 s.vm) (wa : (Cond.arrayClass .char).before a0 Z = true) (eT : T.heap = h) (hd : decode c.code pc = .ok (.newarray .char, 2)) {n : Int32} (hn : ¬ n < 0) {cap : Nat} (hcap : n.toNatClampNeg ≤ cap) (hb : cap * 8 ≤ 536870912) (hc : cells + 1 ≤ R.cells) (hl : slots + cap ≤ R.slots)
    (k : ∀ T' h' b, Stand p l e R s m args below meth c T' locs (cells + 1) (slots + cap) → T'.heap = h' → Ext h h' → b = h.size → AV Z h' b .char (List.replicate n.toNatClampNeg 0) → Go p e below K T' (mkF m (pc + 2) Ls (.ref b :: rest))) : Go p e below K T (mkF m pc Ls (.int n :: rest)) := by
  obtain ⟨T', h', cA, X', e', E, A, st⟩ := newP X hx hZ (aty := .char) wa eT (g := mkF m pc Ls (.int n :: rest)) rfl hd rfl hn hcap hb hc hl
  exact Go.to st (k T' h' _ X' e' E rfl (AV.newC A))
theorem frOne {k n : Nat} {L : List Loc} (N : Fr k L) (q : k ≤ b) : Fr k (L ++ [⟨b, n⟩]) := N.app fun y hy => by cases List.mem_singleton.mp hy; exact q
end OwnKit
/-! OWN KIT, second part: an object by its fields nF (name, descriptor) and their values vs, with its int arrays at ad and what they hold -/
section OwnObj
variable {p : Program} {l : Launch} {e : Env} {R : Room} {s : State} {m : MethodId} {args : Array Value} {below : List Frame} {meth : Method} {c : Code} {T : State} {locs : List Loc} {cells slots : Nat} {Z : State} {a0 : Array Value} {h h' hb : Heap} {K : Outcome → State → Prop}
variable {n0 : Nat} {a b : Addr} {C : String} {nF : List (String × String)} {f : String × String} {vs : List Value} {ad : List Addr} {xs : List (List Int32)} {k n : Nat} {u : Value} {v j w : Int32} {x : List Int32}
def Obj (Z : State) (n0 : Nat) (hb h : Heap) (a : Addr) (C : String) (nF : List (String × String)) (vs : List Value) (ad : List Addr) (xs : List (List Int32)) : Prop :=
  Exa Z h a C ∧ n0 ≤ a ∧ (∀ b ∈ ad, n0 ≤ b) ∧ ad.Nodup ∧ a ∉ ad ∧ Keep hb h (a :: ad) ∧ ad.length = xs.length ∧
  (∀ (k : Nat) (f : String × String) (v : Value), nF[k]? = some f → vs[k]? = some v → Fld Z h a C f.1 f.2 v) ∧
  (∀ (k : Nat) (b : Addr) (x : List Int32), ad[k]? = some b → xs[k]? = some x → AV Z h b .int x)
def Lay (Z : State) (C : String) (nF : List (String × String)) : Prop :=
  ∀ (k : Nat) (f : String × String) (k' : Nat) (f' : String × String), nF[k]? = some f → nF[k']? = some f' → k ≠ k' → Jvm.RoadKit.slotOf Z C f'.1 f'.2 ≠ Jvm.RoadKit.slotOf Z C f.1 f.2
theorem lay_of (hL : ∀ q ∈ nF, Laid Z a0 C C q.1 q.2) (hp : ∀ q ∈ nF, (parseFieldDescriptor q.2).isSome = true) (hd : (nF.map (·.1)).Nodup) : Lay Z C nF := by
  intro k f k' f' h1 h2 hne
  obtain ⟨t1, e1⟩ := Option.isSome_iff_exists.mp (hp _ (List.mem_of_getElem? h1))
  obtain ⟨t2, e2⟩ := Option.isSome_iff_exists.mp (hp _ (List.mem_of_getElem? h2))
  refine Jvm.RoadKit.slot_ne (hL _ (List.mem_of_getElem? h2)) (hL _ (List.mem_of_getElem? h1)) (fun q => hne ?_) e2 e1
  have g1 : (nF.map (·.1))[k]? = some f.1 := by rw [List.getElem?_map, h1]; rfl
  have g2 : (nF.map (·.1))[k']? = some f'.1 := by rw [List.getElem?_map, h2]; rfl
  obtain ⟨l1, r1⟩ := List.getElem?_eq_some_iff.mp g1
  obtain ⟨l2, r2⟩ := List.getElem?_eq_some_iff.mp g2
  exact (List.getElem_inj hd).mp (r1.trans (q.symm.trans r2.symm))
theorem Obj.exa (O : Obj Z n0 hb h a C nF vs ad xs) : Exa Z h a C := O.1
theorem Obj.ge (O : Obj Z n0 hb h a C nF vs ad xs) : n0 ≤ a := O.2.1
theorem Obj.ges (O : Obj Z n0 hb h a C nF vs ad xs) (hk : ad[k]? = some b) : n0 ≤ b := O.2.2.1 b (List.mem_of_getElem? hk)
theorem Obj.kept (O : Obj Z n0 hb h a C nF vs ad xs) : Keep hb h (a :: ad) := O.2.2.2.2.2.1
theorem Obj.fld (O : Obj Z n0 hb h a C nF vs ad xs) (h1 : nF[k]? = some f) (h2 : vs[k]? = some u) : Fld Z h a C f.1 f.2 u := O.2.2.2.2.2.2.2.1 k f u h1 h2
theorem Obj.av (O : Obj Z n0 hb h a C nF vs ad xs) (h1 : ad[k]? = some b) (h2 : xs[k]? = some x) : AV Z h b .int x := O.2.2.2.2.2.2.2.2 k b x h1 h2
theorem Obj.ne (O : Obj Z n0 hb h a C nF vs ad xs) (hk : ad[k]? = some b) : b ≠ a := fun q => O.2.2.2.2.1 (q ▸ List.mem_of_getElem? hk)
theorem Obj.size (O : Obj Z n0 hb h a C nF vs ad xs) : hb.size ≤ h.size := O.kept.1
theorem Obj.lt (O : Obj Z n0 hb h a C nF vs ad xs) : n0 ≤ h.size := Nat.le_trans O.ge (Nat.le_of_lt O.exa.lt)
theorem Obj.lts (O : Obj Z n0 hb h a C nF vs ad xs) (hb' : b ∈ ad) : b < h.size := by
  obtain ⟨k, hk⟩ := List.getElem?_of_mem hb'
  have hlen := O.2.2.2.2.2.2.1
  obtain ⟨l1, -⟩ := List.getElem?_eq_some_iff.mp hk
  exact (O.av hk (List.getElem?_eq_getElem (hlen ▸ l1))).lt
theorem Obj.start (E : Exa Z h a C) (g : n0 ≤ a) (F : ∀ (k : Nat) (f : String × String) (v : Value), nF[k]? = some f → vs[k]? = some v → Fld Z h a C f.1 f.2 v) : Obj Z n0 h h a C nF vs [] [] :=
  ⟨E, g, fun _ q => absurd q List.not_mem_nil, List.nodup_nil, List.not_mem_nil, Keep.refl _ _, rfl, F, fun k b x q => by simp at q⟩
theorem Obj.born (E : Exa Z h a C) (g : n0 ≤ a) (D : ∀ {O nm d : String} {ty : FieldType}, Laid Z a0 C O nm d → parseFieldDescriptor d = some ty → Fld Z h a O nm d (defaultValue ty)) (hL : ∀ q ∈ nF, Laid Z a0 C C q.1 q.2) (hp : ∀ q ∈ nF, (parseFieldDescriptor q.2).isSome = true)
    (hv : vs = nF.map fun q => ((parseFieldDescriptor q.2).map defaultValue).getD .null) : Obj Z n0 h h a C nF vs [] [] := by
  refine Obj.start E g fun k f v h1 h2 => ?_
  rw [hv, List.getElem?_map, h1] at h2
  obtain ⟨t, et⟩ := Option.isSome_iff_exists.mp (hp _ (List.mem_of_getElem? h1))
  simp [et] at h2
  rw [← h2]
  exact D (hL _ (List.mem_of_getElem? h1)) et
theorem Obj.put (O : Obj Z n0 hb h a C nF vs ad xs) (L : Lay Z C nF) (hk : nF[k]? = some f) (W : Wr h h' a (Jvm.RoadKit.slotOf Z C f.1 f.2) u) : Obj Z n0 hb h' a C nF (vs.set k u) ad xs := by
  have O' := O
  obtain ⟨o1, o2, o3, o4, o5, o6, o7, o8, o9⟩ := O
  refine ⟨o1.wr W, o2, o3, o4, o5, o6.wr W (Or.inl (List.mem_cons_self ..)), o7, fun k' f' v' h1 h2 => ?_, fun k' b x h1 h2 => ?_⟩
  · by_cases q : k = k'
    · subst q
      cases hk.symm.trans h1
      rw [List.getElem?_set_self'] at h2
      cases h3 : vs[k]? with
      | none => simp [h3] at h2
      | some w =>
        simp [h3] at h2
        subst h2
        exact (o8 k f w hk h3).same W
    · rw [List.getElem?_set_ne q] at h2
      exact (o8 k' f' v' h1 h2).other W (Or.inr (L k f k' f' hk h1 q))
  · exact (o9 k' b x h1 h2).other W (O'.ne h1)
theorem Obj.putA (O : Obj Z n0 hb h a C nF vs ad xs) (hk : ad[k]? = some b) (hx : xs[k]? = some x) (W : Wr h h' b n (.int v)) : Obj Z n0 hb h' a C nF vs ad (xs.set k (x.set n v)) := by
  have O' := O
  obtain ⟨o1, o2, o3, o4, o5, o6, o7, o8, o9⟩ := O
  refine ⟨o1.wr W, o2, o3, o4, o5, o6.wr W (Or.inl (List.mem_cons_of_mem _ (List.mem_of_getElem? hk))), by rw [List.length_set]; exact o7, fun k' f' v' h1 h2 => ?_, fun k' b' x' h1 h2 => ?_⟩
  · exact (o8 k' f' v' h1 h2).other W (Or.inl (O'.ne hk).symm)
  · by_cases q : k = k'
    · subst q
      cases hk.symm.trans h1
      rw [List.getElem?_set_self', hx] at h2
      simp at h2
      subst h2
      exact (o9 k b x hk hx).same W
    · rw [List.getElem?_set_ne q] at h2
      refine (o9 k' b' x' h1 h2).other W fun r => q ?_
      obtain ⟨l1, e1⟩ := List.getElem?_eq_some_iff.mp hk
      obtain ⟨l2, e2⟩ := List.getElem?_eq_some_iff.mp h1
      exact (List.getElem_inj o4).mp (e1.trans (r.symm.trans e2.symm))
theorem Obj.rebase {hb' : Heap} (O : Obj Z n0 hb h a C nF vs ad xs) (Kp : Keep hb' hb (a :: ad)) : Obj Z n0 hb' h a C nF vs ad xs := by
  obtain ⟨o1, o2, o3, o4, o5, o6, o7, o8, o9⟩ := O
  exact ⟨o1, o2, o3, o4, o5, Kp.trans o6 (fun x hx => Or.inl hx), o7, o8, o9⟩
theorem Obj.anew (O : Obj Z n0 hb h a C nF vs ad xs) : Obj Z n0 h h a C nF vs ad xs := by
  obtain ⟨o1, o2, o3, o4, o5, o6, o7, o8, o9⟩ := O
  exact ⟨o1, o2, o3, o4, o5, Keep.refl _ _, o7, o8, o9⟩
theorem Obj.ext (O : Obj Z n0 hb h a C nF vs ad xs) (E : Ext h h') : Obj Z n0 hb h' a C nF vs ad xs := by
  obtain ⟨o1, o2, o3, o4, o5, o6, o7, o8, o9⟩ := O
  exact ⟨o1.ext E, o2, o3, o4, o5, o6.ext E, o7, fun k f v h1 h2 => (o8 k f v h1 h2).ext E, fun k b x h1 h2 => (o9 k b x h1 h2).ext E⟩
theorem Obj.more (O : Obj Z n0 hb h a C nF vs ad xs) (E : Ext h h') (q : b = h.size) (A : AV Z h' b .int x) : Obj Z n0 hb h' a C nF vs (ad ++ [b]) (xs ++ [x]) := by
  have O' := O
  obtain ⟨o1, o2, o3, o4, o5, o6, o7, o8, o9⟩ := O
  refine ⟨o1.ext E, o2, fun b' hb' => ?_, ?_, fun r => ?_, ?_, by simp [o7], fun k f v h1 h2 => (o8 k f v h1 h2).ext E, fun k' b' x' h1 h2 => ?_⟩
  · rcases List.mem_append.mp hb' with r | r
    · exact o3 _ r
    · cases List.mem_singleton.mp r; rw [q]; exact O'.lt
  · rw [List.nodup_append]
    refine ⟨o4, by simp, fun y hy z hz => ?_⟩
    cases List.mem_singleton.mp hz
    rw [q]; exact Nat.ne_of_lt (O'.lts hy)
  · rcases List.mem_append.mp r with r | r
    · exact o5 r
    · have r1 := List.mem_singleton.mp r
      have r2 := o1.lt
      rw [r1, q] at r2
      exact Nat.lt_irrefl _ r2
  · have Kp := o6.ext E
    exact ⟨Kp.1, fun x c h1 h2 => Kp.2.1 x c h1 (fun r => h2 (by simp only [List.mem_cons, List.mem_append] at r ⊢; rcases r with r | r <;> simp [r])), Kp.2.2⟩
  · rcases Nat.lt_trichotomy k' ad.length with r | r | r
    · rw [List.getElem?_append_left r] at h1
      rw [List.getElem?_append_left (o7 ▸ r)] at h2
      exact (o9 k' b' x' h1 h2).ext E
    · subst r
      rw [List.getElem?_append_right (Nat.le_refl _)] at h1
      rw [List.getElem?_append_right (Nat.le_of_eq o7.symm), o7] at h2
      simp at h1 h2
      subst h1 h2
      exact A
    · rw [List.getElem?_append_right (Nat.le_of_lt r), List.getElem?_eq_none (by simp; omega)] at h1
      cases h1
theorem Obj.over {ws : List Addr} (O : Obj Z n0 hb h a C nF vs ad xs) (Kp : Keep h h' ws) (h1 : a ∉ ws) (h2 : ∀ b ∈ ad, b ∉ ws) : Obj Z n0 h' h' a C nF vs ad xs := by
  obtain ⟨o1, o2, o3, o4, o5, o6, o7, o8, o9⟩ := O
  exact ⟨o1.keep Kp, o2, o3, o4, o5, Keep.refl _ _, o7, fun k f v q1 q2 => (o8 k f v q1 q2).keep Kp h1, fun k b x q1 q2 => (o9 k b x q1 q2).keep Kp (h2 b (List.mem_of_getElem? q1))⟩
/-- a write elsewhere -/
theorem Obj.other {a' : Addr} {sl : Nat} {u : Value} (O : Obj Z n0 hb h a C nF vs ad xs) (W : Wr h h' a' sl u) (hf : hb.size ≤ a') (h1 : a ≠ a') (h2 : a' ∉ ad) : Obj Z n0 hb h' a C nF vs ad xs := by
  obtain ⟨o1, o2, o3, o4, o5, o6, o7, o8, o9⟩ := O
  exact ⟨o1.wr W, o2, o3, o4, o5, o6.wr W (Or.inr hf), o7, fun k f v q1 q2 => (o8 k f v q1 q2).other W (Or.inl h1), fun k b x q1 q2 => (o9 k b x q1 q2).other W (fun q => h2 (q ▸ List.mem_of_getElem? q1))⟩
variable {pc : Nat} {Ls : Array Slot} {rest : List Value} {own : String} {index kk : Nat} {ty : FieldType}
theorem Go.oget (X : Stand p l e R s m args below meth c T locs cells slots) (hx : p.tables.exec = Jvm.exec) (hZ : Z.Warmed39 s.vm) (hown : s.vm.findClass own = some m.cls) (wl : (Cond.fieldLink own index C f.1 f.2).before a0 Z = true) (eT : T.heap = h) (O : Obj Z n0 hb h a C nF vs ad xs) (h1 : nF[k]? = some f) (h2 : vs[k]? = some u)
    (hd : decode c.code pc = .ok (.getfield index, 3)) (kc : ∀ T', Stand p l e R s m args below meth c T' locs cells slots → T'.heap = h → Go p e below K T' (mkF m (pc + 3) Ls (u :: rest))) : Go p e below K T (mkF m pc Ls (.ref a :: rest)) := by
  obtain ⟨T', X', e', st⟩ := getF X hx hZ hown (host := "") (Or.inl wl) Via.refl eT (O.fld h1 h2) (g := mkF m pc Ls (.ref a :: rest)) rfl rfl hd
  exact Go.to st (kc T' X' e')
theorem Go.oput (X : Stand p l e R s m args below meth c T locs cells slots) (hx : p.tables.exec = Jvm.exec) (hZ : Z.Warmed39 s.vm) (hown : s.vm.findClass own = some m.cls) (wl : (Cond.fieldLink own index C f.1 f.2).before a0 Z = true) (eT : T.heap = h) (N : Fr n0 locs) (O : Obj Z n0 hb h a C nF vs ad xs) (L : Lay Z C nF) (h1 : nF[k]? = some f) {u0 : Value} (h2 : vs[k]? = some u0)
    (wy : (Cond.lays C C f.1 f.2).before a0 Z = true ∨ ((Cond.laysFinal C C f.1 f.2).before a0 Z = true ∧ own = C ∧ meth.name = "<init>")) (wi : (Cond.instantiable C kk).before a0 Z = true) (hty : parseFieldDescriptor f.2 = some ty) (hn : narrow ty u = u) (hft : fits ty u = true) (hd : decode c.code pc = .ok (.putfield index, 3))
    (kc : ∀ T' h' locs', Stand p l e R s m args below meth c T' locs' cells slots → T'.heap = h' → Fr n0 locs' → Obj Z n0 hb h' a C nF (vs.set k u) ad xs → Go p e below K T' (mkF m (pc + 3) Ls rest)) : Go p e below K T (mkF m pc Ls (u :: .ref a :: rest)) := by
  obtain ⟨T', h', X', e', W, st⟩ := putF X hx hZ hown (host := "") (Or.inl wl) Via.refl eT (O.fld h1 h2) O.exa wy wi hty hn hft (g := mkF m pc Ls (u :: .ref a :: rest)) rfl rfl hd
  exact Go.to st (kc T' h' _ X' e' (frOne N O.ge) (O.put L h1 W))
theorem Go.oload (X : Stand p l e R s m args below meth c T locs cells slots) (hx : p.tables.exec = Jvm.exec) (hZ : Z.Warmed39 s.vm) (eT : T.heap = h) (O : Obj Z n0 hb h a C nF vs ad xs) (h1 : ad[k]? = some b) (h2 : xs[k]? = some x) (hr : rdL x j = some v) (hd : decode c.code pc = .ok (.iaload, 1))
    (kc : Go p e below K T (mkF m (pc + 1) Ls (.int v :: rest))) : Go p e below K T (mkF m pc Ls (.int j :: .ref b :: rest)) := Go.iaload X hx hZ eT (O.av h1 h2) hr hd kc
theorem Go.ostore (X : Stand p l e R s m args below meth c T locs cells slots) (hx : p.tables.exec = Jvm.exec) (hZ : Z.Warmed39 s.vm) (eT : T.heap = h) (N : Fr n0 locs) (O : Obj Z n0 hb h a C nF vs ad xs) (h1 : ad[k]? = some b) (h2 : xs[k]? = some x) (hr : rdL x j = some w) (hd : decode c.code pc = .ok (.iastore, 1))
    (kc : ∀ T' h' locs', Stand p l e R s m args below meth c T' locs' cells slots → T'.heap = h' → Fr n0 locs' → Obj Z n0 hb h' a C nF vs ad (xs.set k (wrL x j v)) → Go p e below K T' (mkF m (pc + 1) Ls rest)) : Go p e below K T (mkF m pc Ls (.int v :: .int j :: .ref b :: rest)) :=
  Go.iastore X hx hZ eT (O.av h1 h2) hr hd fun T' h' X' e' W _ => kc T' h' _ X' e' (frOne N (O.ges h1)) (O.putA h1 h2 W)
theorem Go.onew (X : Stand p l e R s m args below meth c T locs cells slots) (hx : p.tables.exec = Jvm.exec) (hZ : Z.Warmed39 s.vm) (wa : (Cond.arrayClass .int).before a0 Z = true) (eT : T.heap = h) (O : Obj Z n0 hb h a C nF vs ad xs) (hd : decode c.code pc = .ok (.newarray .int, 2)) {n : Int32} (hn : ¬ n < 0) {cap : Nat} (hcap : n.toNatClampNeg ≤ cap) (hbig : cap * 8 ≤ 536870912) (hc : cells + 1 ≤ R.cells) (hl : slots + cap ≤ R.slots)
    (kc : ∀ T' h' b, Stand p l e R s m args below meth c T' locs (cells + 1) (slots + cap) → T'.heap = h' → Obj Z n0 hb h' a C nF vs (ad ++ [b]) (xs ++ [List.replicate n.toNatClampNeg 0]) → Go p e below K T' (mkF m (pc + 2) Ls (.ref b :: rest))) : Go p e below K T (mkF m pc Ls (.int n :: rest)) :=
  Go.newI X hx hZ wa eT hd hn hcap hbig hc hl fun T' h' b X' e' E q A => kc T' h' b X' e' (O.more E q A)
end OwnObj
def QP (r : Value) (h0 : Heap) : Option Value → Heap → List Loc → Prop := fun v h L => v = some r ∧ h = h0 ∧ L = []
theorem pd_0 : parseMethodDescriptor "()V" = some ⟨[], none⟩ := by decide +kernel
theorem pd_1 : parseMethodDescriptor "(I)V" = some ⟨[.int], none⟩ := by decide +kernel
theorem pd_2 : parseMethodDescriptor "(IIII)V" = some ⟨[.int, .int, .int, .int], none⟩ := by decide +kernel
theorem pd_3 : parseMethodDescriptor "(IIIIIIIIIIII)I" = some ⟨[.int, .int, .int, .int, .int, .int, .int, .int, .int, .int, .int, .int], some .int⟩ := by decide +kernel
theorem pd_4 : parseMethodDescriptor "(II)I" = some ⟨[.int, .int], some .int⟩ := by decide +kernel
def nFm : List (String × String) := [("stack", "[I"), ("registers", "[I"), ("top", "I")]
theorem laidm {Z : State} {a0 : Array Value} (hw : ∀ d ∈ tables_1, d.before a0 Z = true) : ∀ q ∈ nFm, Laid Z a0 "com/example/oakwright/oakwright/regex/MatchState" "com/example/oakwright/oakwright/regex/MatchState" q.1 q.2 := by
  intro q hq
  simp only [nFm, List.mem_cons, List.not_mem_nil, or_false] at hq
  rcases hq with rfl | rfl | rfl
  · exact Or.inl (hw _ (List.mem_of_getElem? (i := 16) rfl))
  · exact Or.inr (hw _ (List.mem_of_getElem? (i := 18) rfl))
  · exact Or.inl (hw _ (List.mem_of_getElem? (i := 26) rfl))
theorem laym {Z : State} {a0 : Array Value} (hw : ∀ d ∈ tables_1, d.before a0 Z = true) : Lay Z "com/example/oakwright/oakwright/regex/MatchState" nFm := lay_of (laidm hw) (by decide +kernel) (by decide +kernel)
theorem d2_0 : decode prog_30_method_1_code 0 = .ok (.aload_n 0, 1) := by decide +kernel
theorem d2_1 : decode prog_30_method_1_code 1 = .ok (.invokespecial 1, 3) := by decide +kernel
theorem d2_4 : decode prog_30_method_1_code 4 = .ok (.return_, 1) := by decide +kernel
theorem ef_rm2 (m : MethodId) (a1 : Addr) : entryFrame m #[(.ref a1)] 1 = mkF m 0 #[.val (.ref a1)] [] := by first | (simp [entryFrame, mkF, argsToLocals, Value.category]; done) | rfl
set_option maxHeartbeats 40000000 in
theorem rm2 (l : Launch) (Z : State) (a0 : Array Value) (hw : ∀ d ∈ tables_1, d.before a0 Z = true) (ws : List Jvm.Cond) (a1 : Addr) (h0 : Heap)  :
    Met1 l Z (⟨"com/example/oakwright/oakwright/framework/HeapObject", "<init>", "()V"⟩ : MethodName) prog_30_method_1_code 1 none ws ({ frames := 1, cells := 0, slots := 0, locals := 12 } : Room) #[(.ref a1)] h0 (fun v h L => v = none ∧ h = h0 ∧ L = []) := by
  refine metOf (by first | exact plainFor_of_name (by first | (simp [plainName, overriddenIn]; done) | decide +kernel) | decide +kernel) ?_
  intro p e s m below meth c s₁ hx hby hml hown hnm hret hlk hZ X0 e0
  have hown : s.vm.findClass "com/example/oakwright/oakwright/framework/HeapObject" = some m.cls := hown
  obtain ⟨K, hK⟩ : ∃ K, K = KQ s (fun v h L => v = none ∧ h = h0 ∧ L = []) (({ frames := 1, cells := 0, slots := 0, locals := 12 } : Room)).cells (({ frames := 1, cells := 0, slots := 0, locals := 12 } : Room)).slots := ⟨_, rfl⟩
  show Go p e below (KQ s (fun v h L => v = none ∧ h = h0 ∧ L = []) (({ frames := 1, cells := 0, slots := 0, locals := 12 } : Room)).cells (({ frames := 1, cells := 0, slots := 0, locals := 12 } : Room)).slots) s₁ (entryFrame m #[(.ref a1)] 1)
  rw [← hK, ef_rm2 m a1]
  show Go p e below _ s₁ (mkF m 0 #[.val (.ref a1)] [])
  refine Go.to (fun _ => XS.aloadN X0.here hx rfl (hb hby d2_0) rfl rfl) ?_
  show Go p e below _ s₁ (mkF m 1 #[.val (.ref a1)] [(.ref a1)])
  obtain ⟨T1, X1, e1, st1⟩ := initO X0 hx hZ hown (hw _ (List.mem_of_getElem? (i := 11) rfl)) (hw _ (List.mem_of_getElem? (i := 12) rfl)) (hw _ (List.mem_of_getElem? (i := 13) rfl)) e0 (g := (mkF m 1 #[.val (.ref a1)] [(.ref a1)])) rfl (by rw [hml]; rfl) rfl (hb hby d2_1) (by decide) (W := 0) (by show 2 * 0 + _ ≤ _; exact Nat.le_of_eq rfl) (by decide)
  refine Go.to st1 ?_
  show Go p e below _ T1 (mkF m 4 #[.val (.ref a1)] [])
  rw [hK]
  exact Go.retV X1 hx hlk hret (hb hby d2_4) ⟨rfl, e1, rfl⟩ (by decide) (by decide)
theorem d1_0 : decode prog_204_method_1_code 0 = .ok (.aload_n 0, 1) := by decide +kernel
theorem d1_1 : decode prog_204_method_1_code 1 = .ok (.invokespecial 1, 3) := by decide +kernel
theorem d1_4 : decode prog_204_method_1_code 4 = .ok (.aload_n 0, 1) := by decide +kernel
theorem d1_5 : decode prog_204_method_1_code 5 = .ok (.sipush 128, 3) := by decide +kernel
theorem d1_8 : decode prog_204_method_1_code 8 = .ok (.newarray .int, 2) := by decide +kernel
theorem d1_10 : decode prog_204_method_1_code 10 = .ok (.putfield 9, 3) := by decide +kernel
theorem d1_13 : decode prog_204_method_1_code 13 = .ok (.aload_n 0, 1) := by decide +kernel
theorem d1_14 : decode prog_204_method_1_code 14 = .ok (.iload_n 1, 1) := by decide +kernel
theorem d1_15 : decode prog_204_method_1_code 15 = .ok (.newarray .int, 2) := by decide +kernel
theorem d1_17 : decode prog_204_method_1_code 17 = .ok (.putfield 13, 3) := by decide +kernel
theorem d1_20 : decode prog_204_method_1_code 20 = .ok (.return_, 1) := by decide +kernel
theorem ef_rm1 (m : MethodId) (a1 : Addr) (p2 : Int32) : entryFrame m #[(.ref a1), (.int p2)] 2 = mkF m 0 #[.val (.ref a1), .val (.int p2)] [] := by first | (simp [entryFrame, mkF, argsToLocals, Value.category]; done) | rfl
set_option maxHeartbeats 40000000 in
theorem rm1 (l : Launch) (Z : State) (a0 : Array Value) (hw : ∀ d ∈ tables_1, d.before a0 Z = true) (ws : List Jvm.Cond) (a1 : Addr) (p2 : Int32) (h0 : Heap) (n0 : Nat) (O : Obj Z n0 h0 h0 a1 "com/example/oakwright/oakwright/regex/MatchState" nFm [.null, .null, .int 0] [] []) (hn : ¬ p2 < 0) (hcap : p2.toNatClampNeg ≤ 2) :
    Met1 l Z (⟨"com/example/oakwright/oakwright/regex/MatchState", "<init>", "(I)V"⟩ : MethodName) prog_204_method_1_code 2 none ws ({ frames := 2, cells := 2, slots := 130, locals := 24 } : Room) #[(.ref a1), (.int p2)] h0 (fun v h L => v = none ∧ Fr n0 L ∧ ∃ b0 b1, Obj Z n0 h0 h a1 "com/example/oakwright/oakwright/regex/MatchState" nFm [.ref b0, .ref b1, .int 0] [b0, b1] [List.replicate (128 : Int32).toNatClampNeg 0, List.replicate p2.toNatClampNeg 0]) := by
  refine metOf (by first | exact plainFor_of_name (by first | (simp [plainName, overriddenIn]; done) | decide +kernel) | decide +kernel) ?_
  intro p e s m below meth c s₁ hx hby hml hown hnm hret hlk hZ X0 e0
  have hown : s.vm.findClass "com/example/oakwright/oakwright/regex/MatchState" = some m.cls := hown
  obtain ⟨K, hK⟩ : ∃ K, K = KQ s (fun v h L => v = none ∧ Fr n0 L ∧ ∃ b0 b1, Obj Z n0 h0 h a1 "com/example/oakwright/oakwright/regex/MatchState" nFm [.ref b0, .ref b1, .int 0] [b0, b1] [List.replicate (128 : Int32).toNatClampNeg 0, List.replicate p2.toNatClampNeg 0]) (({ frames := 2, cells := 2, slots := 130, locals := 24 } : Room)).cells (({ frames := 2, cells := 2, slots := 130, locals := 24 } : Room)).slots := ⟨_, rfl⟩
  show Go p e below (KQ s (fun v h L => v = none ∧ Fr n0 L ∧ ∃ b0 b1, Obj Z n0 h0 h a1 "com/example/oakwright/oakwright/regex/MatchState" nFm [.ref b0, .ref b1, .int 0] [b0, b1] [List.replicate (128 : Int32).toNatClampNeg 0, List.replicate p2.toNatClampNeg 0]) (({ frames := 2, cells := 2, slots := 130, locals := 24 } : Room)).cells (({ frames := 2, cells := 2, slots := 130, locals := 24 } : Room)).slots) s₁ (entryFrame m #[(.ref a1), (.int p2)] 2)
  rw [← hK, ef_rm1 m a1 p2]
  show Go p e below _ s₁ (mkF m 0 #[.val (.ref a1), .val (.int p2)] [])
  refine Go.to (fun _ => XS.aloadN X0.here hx rfl (hb hby d1_0) rfl rfl) ?_
  show Go p e below _ s₁ (mkF m 1 #[.val (.ref a1), .val (.int p2)] [(.ref a1)])
  refine Go.callI (y := (⟨"com/example/oakwright/oakwright/framework/HeapObject", "<init>", "()V"⟩ : MethodName)) X0 hx hZ hown rfl (hw _ (List.mem_of_getElem? (i := 6) rfl)) (hw _ (List.mem_of_getElem? (i := 7) rfl)) (hw _ (List.mem_of_getElem? (i := 9) rfl)) (hw _ (List.mem_of_getElem? (i := 10) rfl)) (by decide) (rm2 l Z a0 hw [] a1 h0) e0 (by rw [hml]; rfl) (pd_0) rfl (a := a1) (argsL := []) (rest := []) rfl rfl (hb hby d1_1) (by decide) (Nat.le_of_ble_eq_true rfl) (by decide) (by decide) ?_
  rintro T1 _ L1 X1 ⟨rfl, e1, rfl⟩
  simp only [List.append_nil] at X1
  show Go p e below _ T1 (mkF m 4 #[.val (.ref a1), .val (.int p2)] [])
  refine Go.to (fun _ => XS.aloadN X1.here hx rfl (hb hby d1_4) rfl rfl) ?_
  show Go p e below _ T1 (mkF m 5 #[.val (.ref a1), .val (.int p2)] [(.ref a1)])
  refine Go.to (fun _ => XS.sipush X1.here hx rfl (hb hby d1_5)) ?_
  show Go p e below _ T1 (mkF m 8 #[.val (.ref a1), .val (.int p2)] [(.int (128 : Int32)), (.ref a1)])
  refine Go.onew X1 hx hZ (hw _ (List.mem_of_getElem? (i := 14) rfl)) e1 O (hb hby d1_8) (by decide) (cap := 128) (by decide) (by decide) (by decide) (by decide) ?_
  intro T2 h2 b2 X2 e2 O2
  have O2 : Obj Z n0 h0 h2 a1 "com/example/oakwright/oakwright/regex/MatchState" nFm [.null, .null, (.int 0)] [b2] [(List.replicate ((128 : Int32)).toNatClampNeg (0 : Int32))] := O2
  show Go p e below _ T2 (mkF m 10 #[.val (.ref a1), .val (.int p2)] [(.ref b2), (.ref a1)])
  refine Go.oput (f := ("stack", "[I")) X2 hx hZ hown (hw _ (List.mem_of_getElem? (i := 15) rfl)) e2 (Fr.nil n0) O2 (laym hw) (k := 0) rfl rfl (Or.inl (hw _ (List.mem_of_getElem? (i := 16) rfl))) (hw _ (List.mem_of_getElem? (i := 1) rfl)) (ty := (.array .int)) (by decide) rfl rfl (hb hby d1_10) ?_
  intro T3 h3 L3 X3 e3 N3 O3
  have O3 : Obj Z n0 h0 h3 a1 "com/example/oakwright/oakwright/regex/MatchState" nFm [(.ref b2), .null, (.int 0)] [b2] [(List.replicate ((128 : Int32)).toNatClampNeg (0 : Int32))] := O3
  show Go p e below _ T3 (mkF m 13 #[.val (.ref a1), .val (.int p2)] [])
  refine Go.to (fun _ => XS.aloadN X3.here hx rfl (hb hby d1_13) rfl rfl) ?_
  show Go p e below _ T3 (mkF m 14 #[.val (.ref a1), .val (.int p2)] [(.ref a1)])
  refine Go.to (fun _ => XS.iloadN X3.here hx rfl (hb hby d1_14) rfl) ?_
  show Go p e below _ T3 (mkF m 15 #[.val (.ref a1), .val (.int p2)] [(.int p2), (.ref a1)])
  refine Go.onew X3 hx hZ (hw _ (List.mem_of_getElem? (i := 14) rfl)) e3 O3 (hb hby d1_15) hn (cap := 2) hcap (by decide) (by decide) (by decide) ?_
  intro T4 h4 b4 X4 e4 O4
  have O4 : Obj Z n0 h0 h4 a1 "com/example/oakwright/oakwright/regex/MatchState" nFm [(.ref b2), .null, (.int 0)] [b2, b4] [(List.replicate ((128 : Int32)).toNatClampNeg (0 : Int32)), (List.replicate (p2).toNatClampNeg (0 : Int32))] := O4
  show Go p e below _ T4 (mkF m 17 #[.val (.ref a1), .val (.int p2)] [(.ref b4), (.ref a1)])
  refine Go.oput (f := ("registers", "[I")) X4 hx hZ hown (hw _ (List.mem_of_getElem? (i := 17) rfl)) e4 N3 O4 (laym hw) (k := 1) rfl rfl (Or.inr ⟨(hw _ (List.mem_of_getElem? (i := 18) rfl)), rfl, hnm⟩) (hw _ (List.mem_of_getElem? (i := 1) rfl)) (ty := (.array .int)) (by decide) rfl rfl (hb hby d1_17) ?_
  intro T5 h5 L5 X5 e5 N5 O5
  have O5 : Obj Z n0 h0 h5 a1 "com/example/oakwright/oakwright/regex/MatchState" nFm [(.ref b2), (.ref b4), (.int 0)] [b2, b4] [(List.replicate ((128 : Int32)).toNatClampNeg (0 : Int32)), (List.replicate (p2).toNatClampNeg (0 : Int32))] := O5
  show Go p e below _ T5 (mkF m 20 #[.val (.ref a1), .val (.int p2)] [])
  rw [hK]
  exact Go.retV X5 hx hlk hret (hb hby d1_20) ⟨rfl, N5, _, _, e5 ▸ O5⟩ (by decide) (by decide)
theorem d4_0 : decode prog_204_method_4_code 0 = .ok (.aload_n 0, 1) := by decide +kernel
theorem d4_1 : decode prog_204_method_4_code 1 = .ok (.getfield 22, 3) := by decide +kernel
theorem d4_4 : decode prog_204_method_4_code 4 = .ok (.aload_n 0, 1) := by decide +kernel
theorem d4_5 : decode prog_204_method_4_code 5 = .ok (.getfield 9, 3) := by decide +kernel
theorem d4_8 : decode prog_204_method_4_code 8 = .ok (.arraylength, 1) := by decide +kernel
theorem d4_9 : decode prog_204_method_4_code 9 = .ok (.if_icmp .ne 33, 3) := by decide +kernel
theorem d4_42 : decode prog_204_method_4_code 42 = .ok (.aload_n 0, 1) := by decide +kernel
theorem d4_43 : decode prog_204_method_4_code 43 = .ok (.getfield 9, 3) := by decide +kernel
theorem d4_46 : decode prog_204_method_4_code 46 = .ok (.aload_n 0, 1) := by decide +kernel
theorem d4_47 : decode prog_204_method_4_code 47 = .ok (.getfield 22, 3) := by decide +kernel
theorem d4_50 : decode prog_204_method_4_code 50 = .ok (.iload_n 1, 1) := by decide +kernel
theorem d4_51 : decode prog_204_method_4_code 51 = .ok (.iastore, 1) := by decide +kernel
theorem d4_52 : decode prog_204_method_4_code 52 = .ok (.aload_n 0, 1) := by decide +kernel
theorem d4_53 : decode prog_204_method_4_code 53 = .ok (.getfield 9, 3) := by decide +kernel
theorem d4_56 : decode prog_204_method_4_code 56 = .ok (.aload_n 0, 1) := by decide +kernel
theorem d4_57 : decode prog_204_method_4_code 57 = .ok (.getfield 22, 3) := by decide +kernel
theorem d4_60 : decode prog_204_method_4_code 60 = .ok (.iconst 1, 1) := by decide +kernel
theorem d4_61 : decode prog_204_method_4_code 61 = .ok (.iadd, 1) := by decide +kernel
theorem d4_62 : decode prog_204_method_4_code 62 = .ok (.iload_n 2, 1) := by decide +kernel
theorem d4_63 : decode prog_204_method_4_code 63 = .ok (.iastore, 1) := by decide +kernel
theorem d4_64 : decode prog_204_method_4_code 64 = .ok (.aload_n 0, 1) := by decide +kernel
theorem d4_65 : decode prog_204_method_4_code 65 = .ok (.getfield 9, 3) := by decide +kernel
theorem d4_68 : decode prog_204_method_4_code 68 = .ok (.aload_n 0, 1) := by decide +kernel
theorem d4_69 : decode prog_204_method_4_code 69 = .ok (.getfield 22, 3) := by decide +kernel
theorem d4_72 : decode prog_204_method_4_code 72 = .ok (.iconst 2, 1) := by decide +kernel
theorem d4_73 : decode prog_204_method_4_code 73 = .ok (.iadd, 1) := by decide +kernel
theorem d4_74 : decode prog_204_method_4_code 74 = .ok (.iload_n 3, 1) := by decide +kernel
theorem d4_75 : decode prog_204_method_4_code 75 = .ok (.iastore, 1) := by decide +kernel
theorem d4_76 : decode prog_204_method_4_code 76 = .ok (.aload_n 0, 1) := by decide +kernel
theorem d4_77 : decode prog_204_method_4_code 77 = .ok (.getfield 9, 3) := by decide +kernel
theorem d4_80 : decode prog_204_method_4_code 80 = .ok (.aload_n 0, 1) := by decide +kernel
theorem d4_81 : decode prog_204_method_4_code 81 = .ok (.getfield 22, 3) := by decide +kernel
theorem d4_84 : decode prog_204_method_4_code 84 = .ok (.iconst 3, 1) := by decide +kernel
theorem d4_85 : decode prog_204_method_4_code 85 = .ok (.iadd, 1) := by decide +kernel
theorem d4_86 : decode prog_204_method_4_code 86 = .ok (.iload 4, 2) := by decide +kernel
theorem d4_88 : decode prog_204_method_4_code 88 = .ok (.iastore, 1) := by decide +kernel
theorem d4_89 : decode prog_204_method_4_code 89 = .ok (.aload_n 0, 1) := by decide +kernel
theorem d4_90 : decode prog_204_method_4_code 90 = .ok (.dup, 1) := by decide +kernel
theorem d4_91 : decode prog_204_method_4_code 91 = .ok (.getfield 22, 3) := by decide +kernel
theorem d4_94 : decode prog_204_method_4_code 94 = .ok (.iconst 4, 1) := by decide +kernel
theorem d4_95 : decode prog_204_method_4_code 95 = .ok (.iadd, 1) := by decide +kernel
theorem d4_96 : decode prog_204_method_4_code 96 = .ok (.putfield 22, 3) := by decide +kernel
theorem d4_99 : decode prog_204_method_4_code 99 = .ok (.return_, 1) := by decide +kernel
theorem ef_rm4 (m : MethodId) (a1 : Addr) (p2 : Int32) (p3 : Int32) (p4 : Int32) (p5 : Int32) : entryFrame m #[(.ref a1), (.int p2), (.int p3), (.int p4), (.int p5)] 6 = mkF m 0 #[.val (.ref a1), .val (.int p2), .val (.int p3), .val (.int p4), .val (.int p5), .unset] [] := by first | (simp [entryFrame, mkF, argsToLocals, Value.category]; done) | rfl
set_option maxHeartbeats 40000000 in
theorem rm4 (l : Launch) (Z : State) (a0 : Array Value) (hw : ∀ d ∈ tables_1, d.before a0 Z = true) (ws : List Jvm.Cond) (a1 : Addr) (p2 : Int32) (p3 : Int32) (p4 : Int32) (p5 : Int32) (h0 : Heap) (n0 : Nat) (b0 b1 : Addr) (tp : Int32) (sk rg : List Int32) (O : Obj Z n0 h0 h0 a1 "com/example/oakwright/oakwright/regex/MatchState" nFm [.ref b0, .ref b1, .int tp] [b0, b1] [sk, rg]) (w1 w2 w3 w4 : Int32) (hl : ¬ tp = (sk.length.toInt32)) (h1 : rdL sk tp = some w1) (h2 : rdL (wrL sk tp p2) (tp + (1 : Int32)) = some w2) (h3 : rdL (wrL (wrL sk tp p2) (tp + (1 : Int32)) p3) (tp + (2 : Int32)) = some w3) (h4 : rdL (wrL (wrL (wrL sk tp p2) (tp + (1 : Int32)) p3) (tp + (2 : Int32)) p4) (tp + (3 : Int32)) = some w4) :
    Met1 l Z (⟨"com/example/oakwright/oakwright/regex/MatchState", "push", "(IIII)V"⟩ : MethodName) prog_204_method_4_code 6 none ws ({ frames := 0, cells := 0, slots := 0, locals := 0 } : Room) #[(.ref a1), (.int p2), (.int p3), (.int p4), (.int p5)] h0 (fun v h L => v = none ∧ Fr n0 L ∧ Obj Z n0 h0 h a1 "com/example/oakwright/oakwright/regex/MatchState" nFm [.ref b0, .ref b1, .int (tp + (4 : Int32))] [b0, b1] [(wrL (wrL (wrL (wrL sk tp p2) (tp + (1 : Int32)) p3) (tp + (2 : Int32)) p4) (tp + (3 : Int32)) p5), rg]) := by
  refine metOf (by first | exact plainFor_of_name (by first | (simp [plainName, overriddenIn]; done) | decide +kernel) | decide +kernel) ?_
  intro p e s m below meth c s₁ hx hby hml hown hnm hret hlk hZ X0 e0
  have hown : s.vm.findClass "com/example/oakwright/oakwright/regex/MatchState" = some m.cls := hown
  obtain ⟨K, hK⟩ : ∃ K, K = KQ s (fun v h L => v = none ∧ Fr n0 L ∧ Obj Z n0 h0 h a1 "com/example/oakwright/oakwright/regex/MatchState" nFm [.ref b0, .ref b1, .int (tp + (4 : Int32))] [b0, b1] [(wrL (wrL (wrL (wrL sk tp p2) (tp + (1 : Int32)) p3) (tp + (2 : Int32)) p4) (tp + (3 : Int32)) p5), rg]) (({ frames := 0, cells := 0, slots := 0, locals := 0 } : Room)).cells (({ frames := 0, cells := 0, slots := 0, locals := 0 } : Room)).slots := ⟨_, rfl⟩
  show Go p e below (KQ s (fun v h L => v = none ∧ Fr n0 L ∧ Obj Z n0 h0 h a1 "com/example/oakwright/oakwright/regex/MatchState" nFm [.ref b0, .ref b1, .int (tp + (4 : Int32))] [b0, b1] [(wrL (wrL (wrL (wrL sk tp p2) (tp + (1 : Int32)) p3) (tp + (2 : Int32)) p4) (tp + (3 : Int32)) p5), rg]) (({ frames := 0, cells := 0, slots := 0, locals := 0 } : Room)).cells (({ frames := 0, cells := 0, slots := 0, locals := 0 } : Room)).slots) s₁ (entryFrame m #[(.ref a1), (.int p2), (.int p3), (.int p4), (.int p5)] 6)
  rw [← hK, ef_rm4 m a1 p2 p3 p4 p5]
  show Go p e below _ s₁ (mkF m 0 #[.val (.ref a1), .val (.int p2), .val (.int p3), .val (.int p4), .val (.int p5), .unset] [])
  refine Go.to (fun _ => XS.aloadN X0.here hx rfl (hb hby d4_0) rfl rfl) ?_
  show Go p e below _ s₁ (mkF m 1 #[.val (.ref a1), .val (.int p2), .val (.int p3), .val (.int p4), .val (.int p5), .unset] [(.ref a1)])
  refine Go.oget (f := ("top", "I")) X0 hx hZ hown (hw _ (List.mem_of_getElem? (i := 25) rfl)) e0 O (k := 2) rfl rfl (hb hby d4_1) ?_
  intro T1 X1 e1
  show Go p e below _ T1 (mkF m 4 #[.val (.ref a1), .val (.int p2), .val (.int p3), .val (.int p4), .val (.int p5), .unset] [(.int tp)])
  refine Go.to (fun _ => XS.aloadN X1.here hx rfl (hb hby d4_4) rfl rfl) ?_
  show Go p e below _ T1 (mkF m 5 #[.val (.ref a1), .val (.int p2), .val (.int p3), .val (.int p4), .val (.int p5), .unset] [(.ref a1), (.int tp)])
  refine Go.oget (f := ("stack", "[I")) X1 hx hZ hown (hw _ (List.mem_of_getElem? (i := 15) rfl)) e1 O (k := 0) rfl rfl (hb hby d4_5) ?_
  intro T2 X2 e2
  show Go p e below _ T2 (mkF m 8 #[.val (.ref a1), .val (.int p2), .val (.int p3), .val (.int p4), .val (.int p5), .unset] [(.ref b0), (.int tp)])
  refine Go.alen X2 hx hZ e2 (O.av (k := 0) rfl rfl) (hb hby d4_8) ?_
  show Go p e below _ T2 (mkF m 9 #[.val (.ref a1), .val (.int p2), .val (.int p3), .val (.int p4), .val (.int p5), .unset] [(.int ((sk).length.toInt32)), (.int tp)])
  refine Go.to (fun _ => XS.icmpYes X2.here hx rfl (pc0 := 9) (pc' := 42) rfl (hb hby d4_9) rfl (feq hl).2 (by decide) (by decide)) ?_
  show Go p e below _ T2 (mkF m 42 #[.val (.ref a1), .val (.int p2), .val (.int p3), .val (.int p4), .val (.int p5), .unset] [])
  refine Go.to (fun _ => XS.aloadN X2.here hx rfl (hb hby d4_42) rfl rfl) ?_
  show Go p e below _ T2 (mkF m 43 #[.val (.ref a1), .val (.int p2), .val (.int p3), .val (.int p4), .val (.int p5), .unset] [(.ref a1)])
  refine Go.oget (f := ("stack", "[I")) X2 hx hZ hown (hw _ (List.mem_of_getElem? (i := 15) rfl)) e2 O (k := 0) rfl rfl (hb hby d4_43) ?_
  intro T3 X3 e3
  show Go p e below _ T3 (mkF m 46 #[.val (.ref a1), .val (.int p2), .val (.int p3), .val (.int p4), .val (.int p5), .unset] [(.ref b0)])
  refine Go.to (fun _ => XS.aloadN X3.here hx rfl (hb hby d4_46) rfl rfl) ?_
  show Go p e below _ T3 (mkF m 47 #[.val (.ref a1), .val (.int p2), .val (.int p3), .val (.int p4), .val (.int p5), .unset] [(.ref a1), (.ref b0)])
  refine Go.oget (f := ("top", "I")) X3 hx hZ hown (hw _ (List.mem_of_getElem? (i := 25) rfl)) e3 O (k := 2) rfl rfl (hb hby d4_47) ?_
  intro T4 X4 e4
  show Go p e below _ T4 (mkF m 50 #[.val (.ref a1), .val (.int p2), .val (.int p3), .val (.int p4), .val (.int p5), .unset] [(.int tp), (.ref b0)])
  refine Go.to (fun _ => XS.iloadN X4.here hx rfl (hb hby d4_50) rfl) ?_
  show Go p e below _ T4 (mkF m 51 #[.val (.ref a1), .val (.int p2), .val (.int p3), .val (.int p4), .val (.int p5), .unset] [(.int p2), (.int tp), (.ref b0)])
  refine Go.ostore X4 hx hZ e4 (Fr.nil n0) O (k := 0) rfl rfl h1 (hb hby d4_51) ?_
  intro T5 h5 L5 X5 e5 N5 O5
  have O5 : Obj Z n0 h0 h5 a1 "com/example/oakwright/oakwright/regex/MatchState" nFm [(.ref b0), (.ref b1), (.int tp)] [b0, b1] [(wrL sk tp p2), rg] := O5
  show Go p e below _ T5 (mkF m 52 #[.val (.ref a1), .val (.int p2), .val (.int p3), .val (.int p4), .val (.int p5), .unset] [])
  refine Go.to (fun _ => XS.aloadN X5.here hx rfl (hb hby d4_52) rfl rfl) ?_
  show Go p e below _ T5 (mkF m 53 #[.val (.ref a1), .val (.int p2), .val (.int p3), .val (.int p4), .val (.int p5), .unset] [(.ref a1)])
  refine Go.oget (f := ("stack", "[I")) X5 hx hZ hown (hw _ (List.mem_of_getElem? (i := 15) rfl)) e5 O5 (k := 0) rfl rfl (hb hby d4_53) ?_
  intro T6 X6 e6
  show Go p e below _ T6 (mkF m 56 #[.val (.ref a1), .val (.int p2), .val (.int p3), .val (.int p4), .val (.int p5), .unset] [(.ref b0)])
  refine Go.to (fun _ => XS.aloadN X6.here hx rfl (hb hby d4_56) rfl rfl) ?_
  show Go p e below _ T6 (mkF m 57 #[.val (.ref a1), .val (.int p2), .val (.int p3), .val (.int p4), .val (.int p5), .unset] [(.ref a1), (.ref b0)])
  refine Go.oget (f := ("top", "I")) X6 hx hZ hown (hw _ (List.mem_of_getElem? (i := 25) rfl)) e6 O5 (k := 2) rfl rfl (hb hby d4_57) ?_
  intro T7 X7 e7
  show Go p e below _ T7 (mkF m 60 #[.val (.ref a1), .val (.int p2), .val (.int p3), .val (.int p4), .val (.int p5), .unset] [(.int tp), (.ref b0)])
  refine Go.to (fun _ => XS.iconst X7.here hx rfl (hb hby d4_60)) ?_
  show Go p e below _ T7 (mkF m 61 #[.val (.ref a1), .val (.int p2), .val (.int p3), .val (.int p4), .val (.int p5), .unset] [(.int (1 : Int32)), (.int tp), (.ref b0)])
  refine Go.to (fun _ => XS.iadd X7.here hx rfl (hb hby d4_61) rfl) ?_
  show Go p e below _ T7 (mkF m 62 #[.val (.ref a1), .val (.int p2), .val (.int p3), .val (.int p4), .val (.int p5), .unset] [(.int (tp + (1 : Int32))), (.ref b0)])
  refine Go.to (fun _ => XS.iloadN X7.here hx rfl (hb hby d4_62) rfl) ?_
  show Go p e below _ T7 (mkF m 63 #[.val (.ref a1), .val (.int p2), .val (.int p3), .val (.int p4), .val (.int p5), .unset] [(.int p3), (.int (tp + (1 : Int32))), (.ref b0)])
  refine Go.ostore X7 hx hZ e7 N5 O5 (k := 0) rfl rfl h2 (hb hby d4_63) ?_
  intro T8 h8 L8 X8 e8 N8 O8
  have O8 : Obj Z n0 h0 h8 a1 "com/example/oakwright/oakwright/regex/MatchState" nFm [(.ref b0), (.ref b1), (.int tp)] [b0, b1] [(wrL (wrL sk tp p2) (tp + (1 : Int32)) p3), rg] := O8
  show Go p e below _ T8 (mkF m 64 #[.val (.ref a1), .val (.int p2), .val (.int p3), .val (.int p4), .val (.int p5), .unset] [])
  refine Go.to (fun _ => XS.aloadN X8.here hx rfl (hb hby d4_64) rfl rfl) ?_
  show Go p e below _ T8 (mkF m 65 #[.val (.ref a1), .val (.int p2), .val (.int p3), .val (.int p4), .val (.int p5), .unset] [(.ref a1)])
  refine Go.oget (f := ("stack", "[I")) X8 hx hZ hown (hw _ (List.mem_of_getElem? (i := 15) rfl)) e8 O8 (k := 0) rfl rfl (hb hby d4_65) ?_
  intro T9 X9 e9
  show Go p e below _ T9 (mkF m 68 #[.val (.ref a1), .val (.int p2), .val (.int p3), .val (.int p4), .val (.int p5), .unset] [(.ref b0)])
  refine Go.to (fun _ => XS.aloadN X9.here hx rfl (hb hby d4_68) rfl rfl) ?_
  show Go p e below _ T9 (mkF m 69 #[.val (.ref a1), .val (.int p2), .val (.int p3), .val (.int p4), .val (.int p5), .unset] [(.ref a1), (.ref b0)])
  refine Go.oget (f := ("top", "I")) X9 hx hZ hown (hw _ (List.mem_of_getElem? (i := 25) rfl)) e9 O8 (k := 2) rfl rfl (hb hby d4_69) ?_
  intro T10 X10 e10
  show Go p e below _ T10 (mkF m 72 #[.val (.ref a1), .val (.int p2), .val (.int p3), .val (.int p4), .val (.int p5), .unset] [(.int tp), (.ref b0)])
  refine Go.to (fun _ => XS.iconst X10.here hx rfl (hb hby d4_72)) ?_
  show Go p e below _ T10 (mkF m 73 #[.val (.ref a1), .val (.int p2), .val (.int p3), .val (.int p4), .val (.int p5), .unset] [(.int (2 : Int32)), (.int tp), (.ref b0)])
  refine Go.to (fun _ => XS.iadd X10.here hx rfl (hb hby d4_73) rfl) ?_
  show Go p e below _ T10 (mkF m 74 #[.val (.ref a1), .val (.int p2), .val (.int p3), .val (.int p4), .val (.int p5), .unset] [(.int (tp + (2 : Int32))), (.ref b0)])
  refine Go.to (fun _ => XS.iloadN X10.here hx rfl (hb hby d4_74) rfl) ?_
  show Go p e below _ T10 (mkF m 75 #[.val (.ref a1), .val (.int p2), .val (.int p3), .val (.int p4), .val (.int p5), .unset] [(.int p4), (.int (tp + (2 : Int32))), (.ref b0)])
  refine Go.ostore X10 hx hZ e10 N8 O8 (k := 0) rfl rfl h3 (hb hby d4_75) ?_
  intro T11 h11 L11 X11 e11 N11 O11
  have O11 : Obj Z n0 h0 h11 a1 "com/example/oakwright/oakwright/regex/MatchState" nFm [(.ref b0), (.ref b1), (.int tp)] [b0, b1] [(wrL (wrL (wrL sk tp p2) (tp + (1 : Int32)) p3) (tp + (2 : Int32)) p4), rg] := O11
  show Go p e below _ T11 (mkF m 76 #[.val (.ref a1), .val (.int p2), .val (.int p3), .val (.int p4), .val (.int p5), .unset] [])
  refine Go.to (fun _ => XS.aloadN X11.here hx rfl (hb hby d4_76) rfl rfl) ?_
  show Go p e below _ T11 (mkF m 77 #[.val (.ref a1), .val (.int p2), .val (.int p3), .val (.int p4), .val (.int p5), .unset] [(.ref a1)])
  refine Go.oget (f := ("stack", "[I")) X11 hx hZ hown (hw _ (List.mem_of_getElem? (i := 15) rfl)) e11 O11 (k := 0) rfl rfl (hb hby d4_77) ?_
  intro T12 X12 e12
  show Go p e below _ T12 (mkF m 80 #[.val (.ref a1), .val (.int p2), .val (.int p3), .val (.int p4), .val (.int p5), .unset] [(.ref b0)])
  refine Go.to (fun _ => XS.aloadN X12.here hx rfl (hb hby d4_80) rfl rfl) ?_
  show Go p e below _ T12 (mkF m 81 #[.val (.ref a1), .val (.int p2), .val (.int p3), .val (.int p4), .val (.int p5), .unset] [(.ref a1), (.ref b0)])
  refine Go.oget (f := ("top", "I")) X12 hx hZ hown (hw _ (List.mem_of_getElem? (i := 25) rfl)) e12 O11 (k := 2) rfl rfl (hb hby d4_81) ?_
  intro T13 X13 e13
  show Go p e below _ T13 (mkF m 84 #[.val (.ref a1), .val (.int p2), .val (.int p3), .val (.int p4), .val (.int p5), .unset] [(.int tp), (.ref b0)])
  refine Go.to (fun _ => XS.iconst X13.here hx rfl (hb hby d4_84)) ?_
  show Go p e below _ T13 (mkF m 85 #[.val (.ref a1), .val (.int p2), .val (.int p3), .val (.int p4), .val (.int p5), .unset] [(.int (3 : Int32)), (.int tp), (.ref b0)])
  refine Go.to (fun _ => XS.iadd X13.here hx rfl (hb hby d4_85) rfl) ?_
  show Go p e below _ T13 (mkF m 86 #[.val (.ref a1), .val (.int p2), .val (.int p3), .val (.int p4), .val (.int p5), .unset] [(.int (tp + (3 : Int32))), (.ref b0)])
  refine Go.to (fun _ => XS.iload X13.here hx rfl (hb hby d4_86) rfl) ?_
  show Go p e below _ T13 (mkF m 88 #[.val (.ref a1), .val (.int p2), .val (.int p3), .val (.int p4), .val (.int p5), .unset] [(.int p5), (.int (tp + (3 : Int32))), (.ref b0)])
  refine Go.ostore X13 hx hZ e13 N11 O11 (k := 0) rfl rfl h4 (hb hby d4_88) ?_
  intro T14 h14 L14 X14 e14 N14 O14
  have O14 : Obj Z n0 h0 h14 a1 "com/example/oakwright/oakwright/regex/MatchState" nFm [(.ref b0), (.ref b1), (.int tp)] [b0, b1] [(wrL (wrL (wrL (wrL sk tp p2) (tp + (1 : Int32)) p3) (tp + (2 : Int32)) p4) (tp + (3 : Int32)) p5), rg] := O14
  show Go p e below _ T14 (mkF m 89 #[.val (.ref a1), .val (.int p2), .val (.int p3), .val (.int p4), .val (.int p5), .unset] [])
  refine Go.to (fun _ => XS.aloadN X14.here hx rfl (hb hby d4_89) rfl rfl) ?_
  show Go p e below _ T14 (mkF m 90 #[.val (.ref a1), .val (.int p2), .val (.int p3), .val (.int p4), .val (.int p5), .unset] [(.ref a1)])
  refine Go.to (fun _ => XS.dup X14.here hx rfl (hb hby d4_90) rfl rfl) ?_
  show Go p e below _ T14 (mkF m 91 #[.val (.ref a1), .val (.int p2), .val (.int p3), .val (.int p4), .val (.int p5), .unset] [(.ref a1), (.ref a1)])
  refine Go.oget (f := ("top", "I")) X14 hx hZ hown (hw _ (List.mem_of_getElem? (i := 25) rfl)) e14 O14 (k := 2) rfl rfl (hb hby d4_91) ?_
  intro T15 X15 e15
  show Go p e below _ T15 (mkF m 94 #[.val (.ref a1), .val (.int p2), .val (.int p3), .val (.int p4), .val (.int p5), .unset] [(.int tp), (.ref a1)])
  refine Go.to (fun _ => XS.iconst X15.here hx rfl (hb hby d4_94)) ?_
  show Go p e below _ T15 (mkF m 95 #[.val (.ref a1), .val (.int p2), .val (.int p3), .val (.int p4), .val (.int p5), .unset] [(.int (4 : Int32)), (.int tp), (.ref a1)])
  refine Go.to (fun _ => XS.iadd X15.here hx rfl (hb hby d4_95) rfl) ?_
  show Go p e below _ T15 (mkF m 96 #[.val (.ref a1), .val (.int p2), .val (.int p3), .val (.int p4), .val (.int p5), .unset] [(.int (tp + (4 : Int32))), (.ref a1)])
  refine Go.oput (f := ("top", "I")) X15 hx hZ hown (hw _ (List.mem_of_getElem? (i := 25) rfl)) e15 N14 O14 (laym hw) (k := 2) rfl rfl (Or.inl (hw _ (List.mem_of_getElem? (i := 26) rfl))) (hw _ (List.mem_of_getElem? (i := 1) rfl)) (ty := .int) (by decide) rfl rfl (hb hby d4_96) ?_
  intro T16 h16 L16 X16 e16 N16 O16
  have O16 : Obj Z n0 h0 h16 a1 "com/example/oakwright/oakwright/regex/MatchState" nFm [(.ref b0), (.ref b1), (.int (tp + (4 : Int32)))] [b0, b1] [(wrL (wrL (wrL (wrL sk tp p2) (tp + (1 : Int32)) p3) (tp + (2 : Int32)) p4) (tp + (3 : Int32)) p5), rg] := O16
  show Go p e below _ T16 (mkF m 99 #[.val (.ref a1), .val (.int p2), .val (.int p3), .val (.int p4), .val (.int p5), .unset] [])
  rw [hK]
  exact Go.retV X16 hx hlk hret (hb hby d4_99) ⟨rfl, N16, e16 ▸ O16⟩ (by decide) (by decide)
def unw : Nat → Int32 → Int32 → List Int32 → List Int32 → Option (Int32 × List Int32)
  | 0, _, _, _, _ => none
  | n + 1, mq, tp, sk, rg => if mq < tp then (rdL sk (tp - (4 : Int32))).bind fun kd => if kd = (1 : Int32) then (rdL sk ((tp - (4 : Int32)) + (1 : Int32))).bind fun r => (rdL sk ((tp - (4 : Int32)) + (2 : Int32))).bind fun v => (rdL rg r).bind fun _ => unw n mq (tp - (4 : Int32)) sk (wrL rg r v) else unw n mq (tp - (4 : Int32)) sk rg else some (tp, rg)
theorem d5_0 : decode prog_204_method_6_code 0 = .ok (.aload_n 0, 1) := by decide +kernel
theorem d5_1 : decode prog_204_method_6_code 1 = .ok (.getfield 22, 3) := by decide +kernel
theorem d5_4 : decode prog_204_method_6_code 4 = .ok (.iload_n 1, 1) := by decide +kernel
theorem d5_5 : decode prog_204_method_6_code 5 = .ok (.if_icmp .le 56, 3) := by decide +kernel
theorem d5_8 : decode prog_204_method_6_code 8 = .ok (.aload_n 0, 1) := by decide +kernel
theorem d5_9 : decode prog_204_method_6_code 9 = .ok (.dup, 1) := by decide +kernel
theorem d5_10 : decode prog_204_method_6_code 10 = .ok (.getfield 22, 3) := by decide +kernel
theorem d5_13 : decode prog_204_method_6_code 13 = .ok (.iconst 4, 1) := by decide +kernel
theorem d5_14 : decode prog_204_method_6_code 14 = .ok (.isub, 1) := by decide +kernel
theorem d5_15 : decode prog_204_method_6_code 15 = .ok (.putfield 22, 3) := by decide +kernel
theorem d5_18 : decode prog_204_method_6_code 18 = .ok (.aload_n 0, 1) := by decide +kernel
theorem d5_19 : decode prog_204_method_6_code 19 = .ok (.getfield 9, 3) := by decide +kernel
theorem d5_22 : decode prog_204_method_6_code 22 = .ok (.aload_n 0, 1) := by decide +kernel
theorem d5_23 : decode prog_204_method_6_code 23 = .ok (.getfield 22, 3) := by decide +kernel
theorem d5_26 : decode prog_204_method_6_code 26 = .ok (.iaload, 1) := by decide +kernel
theorem d5_27 : decode prog_204_method_6_code 27 = .ok (.iconst 1, 1) := by decide +kernel
theorem d5_28 : decode prog_204_method_6_code 28 = .ok (.if_icmp .ne (-28), 3) := by decide +kernel
theorem d5_31 : decode prog_204_method_6_code 31 = .ok (.aload_n 0, 1) := by decide +kernel
theorem d5_32 : decode prog_204_method_6_code 32 = .ok (.getfield 13, 3) := by decide +kernel
theorem d5_35 : decode prog_204_method_6_code 35 = .ok (.aload_n 0, 1) := by decide +kernel
theorem d5_36 : decode prog_204_method_6_code 36 = .ok (.getfield 9, 3) := by decide +kernel
theorem d5_39 : decode prog_204_method_6_code 39 = .ok (.aload_n 0, 1) := by decide +kernel
theorem d5_40 : decode prog_204_method_6_code 40 = .ok (.getfield 22, 3) := by decide +kernel
theorem d5_43 : decode prog_204_method_6_code 43 = .ok (.iconst 1, 1) := by decide +kernel
theorem d5_44 : decode prog_204_method_6_code 44 = .ok (.iadd, 1) := by decide +kernel
theorem d5_45 : decode prog_204_method_6_code 45 = .ok (.iaload, 1) := by decide +kernel
theorem d5_46 : decode prog_204_method_6_code 46 = .ok (.aload_n 0, 1) := by decide +kernel
theorem d5_47 : decode prog_204_method_6_code 47 = .ok (.getfield 9, 3) := by decide +kernel
theorem d5_50 : decode prog_204_method_6_code 50 = .ok (.aload_n 0, 1) := by decide +kernel
theorem d5_51 : decode prog_204_method_6_code 51 = .ok (.getfield 22, 3) := by decide +kernel
theorem d5_54 : decode prog_204_method_6_code 54 = .ok (.iconst 2, 1) := by decide +kernel
theorem d5_55 : decode prog_204_method_6_code 55 = .ok (.iadd, 1) := by decide +kernel
theorem d5_56 : decode prog_204_method_6_code 56 = .ok (.iaload, 1) := by decide +kernel
theorem d5_57 : decode prog_204_method_6_code 57 = .ok (.iastore, 1) := by decide +kernel
theorem d5_58 : decode prog_204_method_6_code 58 = .ok (.goto (-58), 3) := by decide +kernel
theorem d5_61 : decode prog_204_method_6_code 61 = .ok (.return_, 1) := by decide +kernel
theorem ef_rm5 (m : MethodId) (a1 : Addr) (p2 : Int32) : entryFrame m #[(.ref a1), (.int p2)] 2 = mkF m 0 #[.val (.ref a1), .val (.int p2)] [] := by first | (simp [entryFrame, mkF, argsToLocals, Value.category]; done) | rfl
set_option maxHeartbeats 40000000 in
theorem rm5 (l : Launch) (Z : State) (a0 : Array Value) (hw : ∀ d ∈ tables_1, d.before a0 Z = true) (ws : List Jvm.Cond) (a1 : Addr) (p2 : Int32) (h0 : Heap) (n0 : Nat) (b0 b1 : Addr) (tp : Int32) (sk rg : List Int32) (O : Obj Z n0 h0 h0 a1 "com/example/oakwright/oakwright/regex/MatchState" nFm [.ref b0, .ref b1, .int tp] [b0, b1] [sk, rg]) (fuel : Nat) (tp' : Int32) (rg' : List Int32) (hf : unw fuel p2 tp sk rg = some (tp', rg')) :
    Met1 l Z (⟨"com/example/oakwright/oakwright/regex/MatchState", "unwindTo", "(I)V"⟩ : MethodName) prog_204_method_6_code 2 none ws ({ frames := 0, cells := 0, slots := 0, locals := 0 } : Room) #[(.ref a1), (.int p2)] h0 (fun v h L => v = none ∧ Fr n0 L ∧ Obj Z n0 h0 h a1 "com/example/oakwright/oakwright/regex/MatchState" nFm [.ref b0, .ref b1, .int tp'] [b0, b1] [sk, rg']) := by
  refine metOf (by first | exact plainFor_of_name (by first | (simp [plainName, overriddenIn]; done) | decide +kernel) | decide +kernel) ?_
  intro p e s m below meth c s₁ hx hby hml hown hnm hret hlk hZ X0 e0
  have hown : s.vm.findClass "com/example/oakwright/oakwright/regex/MatchState" = some m.cls := hown
  obtain ⟨K, hK⟩ : ∃ K, K = KQ s (fun v h L => v = none ∧ Fr n0 L ∧ Obj Z n0 h0 h a1 "com/example/oakwright/oakwright/regex/MatchState" nFm [.ref b0, .ref b1, .int tp'] [b0, b1] [sk, rg']) (({ frames := 0, cells := 0, slots := 0, locals := 0 } : Room)).cells (({ frames := 0, cells := 0, slots := 0, locals := 0 } : Room)).slots := ⟨_, rfl⟩
  show Go p e below (KQ s (fun v h L => v = none ∧ Fr n0 L ∧ Obj Z n0 h0 h a1 "com/example/oakwright/oakwright/regex/MatchState" nFm [.ref b0, .ref b1, .int tp'] [b0, b1] [sk, rg']) (({ frames := 0, cells := 0, slots := 0, locals := 0 } : Room)).cells (({ frames := 0, cells := 0, slots := 0, locals := 0 } : Room)).slots) s₁ (entryFrame m #[(.ref a1), (.int p2)] 2)
  rw [← hK, ef_rm5 m a1 p2]
  show Go p e below _ s₁ (mkF m 0 #[.val (.ref a1), .val (.int p2)] [])
  have loop : ∀ (fuel : Nat) (tp : Int32) (rg : List Int32), unw fuel p2 tp sk rg = some (tp', rg') → ∀ (T : State) (h : Heap) (L : List Loc), Stand p l e ({ frames := 0, cells := 0, slots := 0, locals := 0 } : Room) s m #[.ref a1, .int p2] below meth c T L 0 0 → T.heap = h → Fr n0 L → Obj Z n0 h0 h a1 "com/example/oakwright/oakwright/regex/MatchState" nFm [.ref b0, .ref b1, .int tp] [b0, b1] [sk, rg] → Go p e below K T (mkF m 0 #[.val (.ref a1), .val (.int p2)] []) := by
    intro fuel
    induction fuel with
    | zero => intro tp rg hf; simp [unw] at hf
    | succ fuel ih =>
      intro tp rg hf T h L X e' N O
      refine Go.to (fun _ => XS.aloadN X.here hx rfl (hb hby d5_0) rfl rfl) ?_
      show Go p e below _ T (mkF m 1 #[.val (.ref a1), .val (.int p2)] [(.ref a1)])
      refine Go.oget (f := ("top", "I")) X hx hZ hown (hw _ (List.mem_of_getElem? (i := 25) rfl)) e' O (k := 2) rfl rfl (hb hby d5_1) ?_
      intro T1 X1 e1
      show Go p e below _ T1 (mkF m 4 #[.val (.ref a1), .val (.int p2)] [(.int tp)])
      refine Go.to (fun _ => XS.iloadN X1.here hx rfl (hb hby d5_4) rfl) ?_
      show Go p e below _ T1 (mkF m 5 #[.val (.ref a1), .val (.int p2)] [(.int p2), (.int tp)])
      by_cases hc1 : p2 < tp
      · refine Go.to (fun _ => XS.icmpNo X1.here hx rfl (hb hby d5_5) rfl (tlt hc1).2.2.2) ?_
        show Go p e below _ T1 (mkF m 8 #[.val (.ref a1), .val (.int p2)] [])
        rw [unw, if_pos hc1] at hf
        obtain ⟨kd, hkd, hf⟩ := Option.bind_eq_some_iff.mp hf
        refine Go.to (fun _ => XS.aloadN X1.here hx rfl (hb hby d5_8) rfl rfl) ?_
        show Go p e below _ T1 (mkF m 9 #[.val (.ref a1), .val (.int p2)] [(.ref a1)])
        refine Go.to (fun _ => XS.dup X1.here hx rfl (hb hby d5_9) rfl rfl) ?_
        show Go p e below _ T1 (mkF m 10 #[.val (.ref a1), .val (.int p2)] [(.ref a1), (.ref a1)])
        refine Go.oget (f := ("top", "I")) X1 hx hZ hown (hw _ (List.mem_of_getElem? (i := 25) rfl)) e1 O (k := 2) rfl rfl (hb hby d5_10) ?_
        intro T2 X2 e2
        show Go p e below _ T2 (mkF m 13 #[.val (.ref a1), .val (.int p2)] [(.int tp), (.ref a1)])
        refine Go.to (fun _ => XS.iconst X2.here hx rfl (hb hby d5_13)) ?_
        show Go p e below _ T2 (mkF m 14 #[.val (.ref a1), .val (.int p2)] [(.int (4 : Int32)), (.int tp), (.ref a1)])
        refine Go.to (fun _ => XS.isub X2.here hx rfl (hb hby d5_14) rfl) ?_
        show Go p e below _ T2 (mkF m 15 #[.val (.ref a1), .val (.int p2)] [(.int (tp - (4 : Int32))), (.ref a1)])
        refine Go.oput (f := ("top", "I")) X2 hx hZ hown (hw _ (List.mem_of_getElem? (i := 25) rfl)) e2 N O (laym hw) (k := 2) rfl rfl (Or.inl (hw _ (List.mem_of_getElem? (i := 26) rfl))) (hw _ (List.mem_of_getElem? (i := 1) rfl)) (ty := .int) (by decide) rfl rfl (hb hby d5_15) ?_
        intro T3 h3 L3 X3 e3 N3 O3
        have O3 : Obj Z n0 h0 h3 a1 "com/example/oakwright/oakwright/regex/MatchState" nFm [(.ref b0), (.ref b1), (.int (tp - (4 : Int32)))] [b0, b1] [sk, rg] := O3
        show Go p e below _ T3 (mkF m 18 #[.val (.ref a1), .val (.int p2)] [])
        refine Go.to (fun _ => XS.aloadN X3.here hx rfl (hb hby d5_18) rfl rfl) ?_
        show Go p e below _ T3 (mkF m 19 #[.val (.ref a1), .val (.int p2)] [(.ref a1)])
        refine Go.oget (f := ("stack", "[I")) X3 hx hZ hown (hw _ (List.mem_of_getElem? (i := 15) rfl)) e3 O3 (k := 0) rfl rfl (hb hby d5_19) ?_
        intro T4 X4 e4
        show Go p e below _ T4 (mkF m 22 #[.val (.ref a1), .val (.int p2)] [(.ref b0)])
        refine Go.to (fun _ => XS.aloadN X4.here hx rfl (hb hby d5_22) rfl rfl) ?_
        show Go p e below _ T4 (mkF m 23 #[.val (.ref a1), .val (.int p2)] [(.ref a1), (.ref b0)])
        refine Go.oget (f := ("top", "I")) X4 hx hZ hown (hw _ (List.mem_of_getElem? (i := 25) rfl)) e4 O3 (k := 2) rfl rfl (hb hby d5_23) ?_
        intro T5 X5 e5
        show Go p e below _ T5 (mkF m 26 #[.val (.ref a1), .val (.int p2)] [(.int (tp - (4 : Int32))), (.ref b0)])
        refine Go.oload X5 hx hZ e5 O3 (k := 0) rfl rfl hkd (hb hby d5_26) ?_
        show Go p e below _ T5 (mkF m 27 #[.val (.ref a1), .val (.int p2)] [(.int kd)])
        refine Go.to (fun _ => XS.iconst X5.here hx rfl (hb hby d5_27)) ?_
        show Go p e below _ T5 (mkF m 28 #[.val (.ref a1), .val (.int p2)] [(.int (1 : Int32)), (.int kd)])
        by_cases hc2 : kd = (1 : Int32)
        · refine Go.to (fun _ => XS.icmpNo X5.here hx rfl (hb hby d5_28) rfl (teq hc2).2) ?_
          show Go p e below _ T5 (mkF m 31 #[.val (.ref a1), .val (.int p2)] [])
          rw [if_pos hc2] at hf
          obtain ⟨r, hr, hf⟩ := Option.bind_eq_some_iff.mp hf
          obtain ⟨v, hv, hf⟩ := Option.bind_eq_some_iff.mp hf
          obtain ⟨wo, hwo, hf⟩ := Option.bind_eq_some_iff.mp hf
          refine Go.to (fun _ => XS.aloadN X5.here hx rfl (hb hby d5_31) rfl rfl) ?_
          show Go p e below _ T5 (mkF m 32 #[.val (.ref a1), .val (.int p2)] [(.ref a1)])
          refine Go.oget (f := ("registers", "[I")) X5 hx hZ hown (hw _ (List.mem_of_getElem? (i := 17) rfl)) e5 O3 (k := 1) rfl rfl (hb hby d5_32) ?_
          intro T6 X6 e6
          show Go p e below _ T6 (mkF m 35 #[.val (.ref a1), .val (.int p2)] [(.ref b1)])
          refine Go.to (fun _ => XS.aloadN X6.here hx rfl (hb hby d5_35) rfl rfl) ?_
          show Go p e below _ T6 (mkF m 36 #[.val (.ref a1), .val (.int p2)] [(.ref a1), (.ref b1)])
          refine Go.oget (f := ("stack", "[I")) X6 hx hZ hown (hw _ (List.mem_of_getElem? (i := 15) rfl)) e6 O3 (k := 0) rfl rfl (hb hby d5_36) ?_
          intro T7 X7 e7
          show Go p e below _ T7 (mkF m 39 #[.val (.ref a1), .val (.int p2)] [(.ref b0), (.ref b1)])
          refine Go.to (fun _ => XS.aloadN X7.here hx rfl (hb hby d5_39) rfl rfl) ?_
          show Go p e below _ T7 (mkF m 40 #[.val (.ref a1), .val (.int p2)] [(.ref a1), (.ref b0), (.ref b1)])
          refine Go.oget (f := ("top", "I")) X7 hx hZ hown (hw _ (List.mem_of_getElem? (i := 25) rfl)) e7 O3 (k := 2) rfl rfl (hb hby d5_40) ?_
          intro T8 X8 e8
          show Go p e below _ T8 (mkF m 43 #[.val (.ref a1), .val (.int p2)] [(.int (tp - (4 : Int32))), (.ref b0), (.ref b1)])
          refine Go.to (fun _ => XS.iconst X8.here hx rfl (hb hby d5_43)) ?_
          show Go p e below _ T8 (mkF m 44 #[.val (.ref a1), .val (.int p2)] [(.int (1 : Int32)), (.int (tp - (4 : Int32))), (.ref b0), (.ref b1)])
          refine Go.to (fun _ => XS.iadd X8.here hx rfl (hb hby d5_44) rfl) ?_
          show Go p e below _ T8 (mkF m 45 #[.val (.ref a1), .val (.int p2)] [(.int ((tp - (4 : Int32)) + (1 : Int32))), (.ref b0), (.ref b1)])
          refine Go.oload X8 hx hZ e8 O3 (k := 0) rfl rfl hr (hb hby d5_45) ?_
          show Go p e below _ T8 (mkF m 46 #[.val (.ref a1), .val (.int p2)] [(.int r), (.ref b1)])
          refine Go.to (fun _ => XS.aloadN X8.here hx rfl (hb hby d5_46) rfl rfl) ?_
          show Go p e below _ T8 (mkF m 47 #[.val (.ref a1), .val (.int p2)] [(.ref a1), (.int r), (.ref b1)])
          refine Go.oget (f := ("stack", "[I")) X8 hx hZ hown (hw _ (List.mem_of_getElem? (i := 15) rfl)) e8 O3 (k := 0) rfl rfl (hb hby d5_47) ?_
          intro T9 X9 e9
          show Go p e below _ T9 (mkF m 50 #[.val (.ref a1), .val (.int p2)] [(.ref b0), (.int r), (.ref b1)])
          refine Go.to (fun _ => XS.aloadN X9.here hx rfl (hb hby d5_50) rfl rfl) ?_
          show Go p e below _ T9 (mkF m 51 #[.val (.ref a1), .val (.int p2)] [(.ref a1), (.ref b0), (.int r), (.ref b1)])
          refine Go.oget (f := ("top", "I")) X9 hx hZ hown (hw _ (List.mem_of_getElem? (i := 25) rfl)) e9 O3 (k := 2) rfl rfl (hb hby d5_51) ?_
          intro T10 X10 e10
          show Go p e below _ T10 (mkF m 54 #[.val (.ref a1), .val (.int p2)] [(.int (tp - (4 : Int32))), (.ref b0), (.int r), (.ref b1)])
          refine Go.to (fun _ => XS.iconst X10.here hx rfl (hb hby d5_54)) ?_
          show Go p e below _ T10 (mkF m 55 #[.val (.ref a1), .val (.int p2)] [(.int (2 : Int32)), (.int (tp - (4 : Int32))), (.ref b0), (.int r), (.ref b1)])
          refine Go.to (fun _ => XS.iadd X10.here hx rfl (hb hby d5_55) rfl) ?_
          show Go p e below _ T10 (mkF m 56 #[.val (.ref a1), .val (.int p2)] [(.int ((tp - (4 : Int32)) + (2 : Int32))), (.ref b0), (.int r), (.ref b1)])
          refine Go.oload X10 hx hZ e10 O3 (k := 0) rfl rfl hv (hb hby d5_56) ?_
          show Go p e below _ T10 (mkF m 57 #[.val (.ref a1), .val (.int p2)] [(.int v), (.int r), (.ref b1)])
          refine Go.ostore X10 hx hZ e10 N3 O3 (k := 1) rfl rfl hwo (hb hby d5_57) ?_
          intro T11 h11 L11 X11 e11 N11 O11
          have O11 : Obj Z n0 h0 h11 a1 "com/example/oakwright/oakwright/regex/MatchState" nFm [(.ref b0), (.ref b1), (.int (tp - (4 : Int32)))] [b0, b1] [sk, (wrL rg r v)] := O11
          show Go p e below _ T11 (mkF m 58 #[.val (.ref a1), .val (.int p2)] [])
          refine Go.to (fun _ => XS.goto X11.here hx rfl (pc0 := 58) (pc' := 0) rfl (hb hby d5_58) (by decide) (by decide)) ?_
          show Go p e below _ T11 (mkF m 0 #[.val (.ref a1), .val (.int p2)] [])
          exact ih _ _ hf _ _ _ X11 e11 N11 O11
        · refine Go.to (fun _ => XS.icmpYes X5.here hx rfl (pc0 := 28) (pc' := 0) rfl (hb hby d5_28) rfl (feq hc2).2 (by decide) (by decide)) ?_
          show Go p e below _ T5 (mkF m 0 #[.val (.ref a1), .val (.int p2)] [])
          rw [if_neg hc2] at hf
          exact ih _ _ hf _ _ _ X5 e5 N3 O3
      · refine Go.to (fun _ => XS.icmpYes X1.here hx rfl (pc0 := 5) (pc' := 61) rfl (hb hby d5_5) rfl (flt hc1).2.2.2 (by decide) (by decide)) ?_
        show Go p e below _ T1 (mkF m 61 #[.val (.ref a1), .val (.int p2)] [])
        rw [unw, if_neg hc1] at hf
        simp only [Option.some.injEq, Prod.mk.injEq] at hf
        obtain ⟨rfl, rfl⟩ := hf
        rw [hK]
        exact Go.retV X1 hx hlk hret (hb hby d5_61) ⟨rfl, N, e1 ▸ O⟩ (by decide) (by decide)
  exact loop fuel tp rg hf _ _ _ X0 e0 (Fr.nil n0) O
def fE (p1 : Int32) (p2 : Int32) (p3 : Int32) (p4 : Int32) (p5 : Int32) (p6 : Int32) (p7 : Int32) (p8 : Int32) (p9 : Int32) (p10 : Int32) (p11 : Int32) (p12 : Int32) : Int32 := (if (0 : Int32) < p3 then (if (1 : Int32) < p3 then (if (2 : Int32) < p3 then p2 else (if p10 = (1 : Int32) then (if p11 = p1 then p12 else p2) else p2)) else (if p7 = (1 : Int32) then (if p8 = p1 then p9 else (if (2 : Int32) < p3 then p2 else (if p10 = (1 : Int32) then (if p11 = p1 then p12 else p2) else p2))) else (if (2 : Int32) < p3 then p2 else (if p10 = (1 : Int32) then (if p11 = p1 then p12 else p2) else p2)))) else (if p4 = (1 : Int32) then (if p5 = p1 then p6 else (if (1 : Int32) < p3 then (if (2 : Int32) < p3 then p2 else (if p10 = (1 : Int32) then (if p11 = p1 then p12 else p2) else p2)) else (if p7 = (1 : Int32) then (if p8 = p1 then p9 else (if (2 : Int32) < p3 then p2 else (if p10 = (1 : Int32) then (if p11 = p1 then p12 else p2) else p2))) else (if (2 : Int32) < p3 then p2 else (if p10 = (1 : Int32) then (if p11 = p1 then p12 else p2) else p2))))) else (if (1 : Int32) < p3 then (if (2 : Int32) < p3 then p2 else (if p10 = (1 : Int32) then (if p11 = p1 then p12 else p2) else p2)) else (if p7 = (1 : Int32) then (if p8 = p1 then p9 else (if (2 : Int32) < p3 then p2 else (if p10 = (1 : Int32) then (if p11 = p1 then p12 else p2) else p2))) else (if (2 : Int32) < p3 then p2 else (if p10 = (1 : Int32) then (if p11 = p1 then p12 else p2) else p2))))))
theorem d6_0 : decode method_2_code 0 = .ok (.iload_n 2, 1) := by decide +kernel
theorem d6_1 : decode method_2_code 1 = .ok (.ifCond .gt 17, 3) := by decide +kernel
theorem d6_4 : decode method_2_code 4 = .ok (.iload_n 3, 1) := by decide +kernel
theorem d6_5 : decode method_2_code 5 = .ok (.iconst 1, 1) := by decide +kernel
theorem d6_6 : decode method_2_code 6 = .ok (.if_icmp .ne 12, 3) := by decide +kernel
theorem d6_9 : decode method_2_code 9 = .ok (.iload 4, 2) := by decide +kernel
theorem d6_11 : decode method_2_code 11 = .ok (.iload_n 0, 1) := by decide +kernel
theorem d6_12 : decode method_2_code 12 = .ok (.if_icmp .ne 6, 3) := by decide +kernel
theorem d6_15 : decode method_2_code 15 = .ok (.iload 5, 2) := by decide +kernel
theorem d6_17 : decode method_2_code 17 = .ok (.ireturn, 1) := by decide +kernel
theorem d6_18 : decode method_2_code 18 = .ok (.iload_n 2, 1) := by decide +kernel
theorem d6_19 : decode method_2_code 19 = .ok (.iconst 1, 1) := by decide +kernel
theorem d6_20 : decode method_2_code 20 = .ok (.if_icmp .gt 18, 3) := by decide +kernel
theorem d6_23 : decode method_2_code 23 = .ok (.iload 6, 2) := by decide +kernel
theorem d6_25 : decode method_2_code 25 = .ok (.iconst 1, 1) := by decide +kernel
theorem d6_26 : decode method_2_code 26 = .ok (.if_icmp .ne 12, 3) := by decide +kernel
theorem d6_29 : decode method_2_code 29 = .ok (.iload 7, 2) := by decide +kernel
theorem d6_31 : decode method_2_code 31 = .ok (.iload_n 0, 1) := by decide +kernel
theorem d6_32 : decode method_2_code 32 = .ok (.if_icmp .ne 6, 3) := by decide +kernel
theorem d6_35 : decode method_2_code 35 = .ok (.iload 8, 2) := by decide +kernel
theorem d6_37 : decode method_2_code 37 = .ok (.ireturn, 1) := by decide +kernel
theorem d6_38 : decode method_2_code 38 = .ok (.iload_n 2, 1) := by decide +kernel
theorem d6_39 : decode method_2_code 39 = .ok (.iconst 2, 1) := by decide +kernel
theorem d6_40 : decode method_2_code 40 = .ok (.if_icmp .gt 18, 3) := by decide +kernel
theorem d6_43 : decode method_2_code 43 = .ok (.iload 9, 2) := by decide +kernel
theorem d6_45 : decode method_2_code 45 = .ok (.iconst 1, 1) := by decide +kernel
theorem d6_46 : decode method_2_code 46 = .ok (.if_icmp .ne 12, 3) := by decide +kernel
theorem d6_49 : decode method_2_code 49 = .ok (.iload 10, 2) := by decide +kernel
theorem d6_51 : decode method_2_code 51 = .ok (.iload_n 0, 1) := by decide +kernel
theorem d6_52 : decode method_2_code 52 = .ok (.if_icmp .ne 6, 3) := by decide +kernel
theorem d6_55 : decode method_2_code 55 = .ok (.iload 11, 2) := by decide +kernel
theorem d6_57 : decode method_2_code 57 = .ok (.ireturn, 1) := by decide +kernel
theorem d6_58 : decode method_2_code 58 = .ok (.iload_n 1, 1) := by decide +kernel
theorem d6_59 : decode method_2_code 59 = .ok (.ireturn, 1) := by decide +kernel
theorem ef_rm6 (m : MethodId) (p1 : Int32) (p2 : Int32) (p3 : Int32) (p4 : Int32) (p5 : Int32) (p6 : Int32) (p7 : Int32) (p8 : Int32) (p9 : Int32) (p10 : Int32) (p11 : Int32) (p12 : Int32) : entryFrame m #[(.int p1), (.int p2), (.int p3), (.int p4), (.int p5), (.int p6), (.int p7), (.int p8), (.int p9), (.int p10), (.int p11), (.int p12)] 12 = mkF m 0 #[.val (.int p1), .val (.int p2), .val (.int p3), .val (.int p4), .val (.int p5), .val (.int p6), .val (.int p7), .val (.int p8), .val (.int p9), .val (.int p10), .val (.int p11), .val (.int p12)] [] := by first | (simp [entryFrame, mkF, argsToLocals, Value.category]; done) | rfl
set_option maxHeartbeats 40000000 in
theorem rm6 (l : Launch) (Z : State) (a0 : Array Value) (hw : ∀ d ∈ tables_1, d.before a0 Z = true) (ws : List Jvm.Cond) (p1 : Int32) (p2 : Int32) (p3 : Int32) (p4 : Int32) (p5 : Int32) (p6 : Int32) (p7 : Int32) (p8 : Int32) (p9 : Int32) (p10 : Int32) (p11 : Int32) (p12 : Int32) (h0 : Heap)  :
    Met1 l Z (⟨"com/example/oakwright/oakwright/regex/MatchStateUnwindToPinLaw", "expect", "(IIIIIIIIIIII)I"⟩ : MethodName) method_2_code 12 (some .int) ws ({ frames := 0, cells := 0, slots := 0, locals := 0 } : Room) #[(.int p1), (.int p2), (.int p3), (.int p4), (.int p5), (.int p6), (.int p7), (.int p8), (.int p9), (.int p10), (.int p11), (.int p12)] h0 (QP (.int (fE p1 p2 p3 p4 p5 p6 p7 p8 p9 p10 p11 p12)) h0) := by
  refine metOf (by first | exact plainFor_of_name (by first | (simp [plainName, overriddenIn]; done) | decide +kernel) | decide +kernel) ?_
  intro p e s m below meth c s₁ hx hby hml hown hnm hret hlk hZ X0 e0
  have hown : s.vm.findClass "com/example/oakwright/oakwright/regex/MatchStateUnwindToPinLaw" = some m.cls := hown
  obtain ⟨K, hK⟩ : ∃ K, K = KQ s (QP (.int (fE p1 p2 p3 p4 p5 p6 p7 p8 p9 p10 p11 p12)) h0) (({ frames := 0, cells := 0, slots := 0, locals := 0 } : Room)).cells (({ frames := 0, cells := 0, slots := 0, locals := 0 } : Room)).slots := ⟨_, rfl⟩
  show Go p e below (KQ s (QP (.int (fE p1 p2 p3 p4 p5 p6 p7 p8 p9 p10 p11 p12)) h0) (({ frames := 0, cells := 0, slots := 0, locals := 0 } : Room)).cells (({ frames := 0, cells := 0, slots := 0, locals := 0 } : Room)).slots) s₁ (entryFrame m #[(.int p1), (.int p2), (.int p3), (.int p4), (.int p5), (.int p6), (.int p7), (.int p8), (.int p9), (.int p10), (.int p11), (.int p12)] 12)
  rw [← hK, ef_rm6 m p1 p2 p3 p4 p5 p6 p7 p8 p9 p10 p11 p12]
  show Go p e below _ s₁ (mkF m 0 #[.val (.int p1), .val (.int p2), .val (.int p3), .val (.int p4), .val (.int p5), .val (.int p6), .val (.int p7), .val (.int p8), .val (.int p9), .val (.int p10), .val (.int p11), .val (.int p12)] [])
  refine Go.to (fun _ => XS.iloadN X0.here hx rfl (hb hby d6_0) rfl) ?_
  show Go p e below _ s₁ (mkF m 1 #[.val (.int p1), .val (.int p2), .val (.int p3), .val (.int p4), .val (.int p5), .val (.int p6), .val (.int p7), .val (.int p8), .val (.int p9), .val (.int p10), .val (.int p11), .val (.int p12)] [(.int p3)])
  by_cases hc1 : (0 : Int32) < p3
  · refine Go.to (fun _ => XS.ifYes X0.here hx rfl (pc0 := 1) (pc' := 18) rfl (hb hby d6_1) rfl ((if0 _ _).trans (tlt hc1).2.2.1) (by decide) (by decide)) ?_
    show Go p e below _ s₁ (mkF m 18 #[.val (.int p1), .val (.int p2), .val (.int p3), .val (.int p4), .val (.int p5), .val (.int p6), .val (.int p7), .val (.int p8), .val (.int p9), .val (.int p10), .val (.int p11), .val (.int p12)] [])
    refine Go.to (fun _ => XS.iloadN X0.here hx rfl (hb hby d6_18) rfl) ?_
    show Go p e below _ s₁ (mkF m 19 #[.val (.int p1), .val (.int p2), .val (.int p3), .val (.int p4), .val (.int p5), .val (.int p6), .val (.int p7), .val (.int p8), .val (.int p9), .val (.int p10), .val (.int p11), .val (.int p12)] [(.int p3)])
    refine Go.to (fun _ => XS.iconst X0.here hx rfl (hb hby d6_19)) ?_
    show Go p e below _ s₁ (mkF m 20 #[.val (.int p1), .val (.int p2), .val (.int p3), .val (.int p4), .val (.int p5), .val (.int p6), .val (.int p7), .val (.int p8), .val (.int p9), .val (.int p10), .val (.int p11), .val (.int p12)] [(.int (1 : Int32)), (.int p3)])
    by_cases hc2 : (1 : Int32) < p3
    · refine Go.to (fun _ => XS.icmpYes X0.here hx rfl (pc0 := 20) (pc' := 38) rfl (hb hby d6_20) rfl (tlt hc2).2.2.1 (by decide) (by decide)) ?_
      show Go p e below _ s₁ (mkF m 38 #[.val (.int p1), .val (.int p2), .val (.int p3), .val (.int p4), .val (.int p5), .val (.int p6), .val (.int p7), .val (.int p8), .val (.int p9), .val (.int p10), .val (.int p11), .val (.int p12)] [])
      refine Go.to (fun _ => XS.iloadN X0.here hx rfl (hb hby d6_38) rfl) ?_
      show Go p e below _ s₁ (mkF m 39 #[.val (.int p1), .val (.int p2), .val (.int p3), .val (.int p4), .val (.int p5), .val (.int p6), .val (.int p7), .val (.int p8), .val (.int p9), .val (.int p10), .val (.int p11), .val (.int p12)] [(.int p3)])
      refine Go.to (fun _ => XS.iconst X0.here hx rfl (hb hby d6_39)) ?_
      show Go p e below _ s₁ (mkF m 40 #[.val (.int p1), .val (.int p2), .val (.int p3), .val (.int p4), .val (.int p5), .val (.int p6), .val (.int p7), .val (.int p8), .val (.int p9), .val (.int p10), .val (.int p11), .val (.int p12)] [(.int (2 : Int32)), (.int p3)])
      by_cases hc3 : (2 : Int32) < p3
      · refine Go.to (fun _ => XS.icmpYes X0.here hx rfl (pc0 := 40) (pc' := 58) rfl (hb hby d6_40) rfl (tlt hc3).2.2.1 (by decide) (by decide)) ?_
        show Go p e below _ s₁ (mkF m 58 #[.val (.int p1), .val (.int p2), .val (.int p3), .val (.int p4), .val (.int p5), .val (.int p6), .val (.int p7), .val (.int p8), .val (.int p9), .val (.int p10), .val (.int p11), .val (.int p12)] [])
        refine Go.to (fun _ => XS.iloadN X0.here hx rfl (hb hby d6_58) rfl) ?_
        show Go p e below _ s₁ (mkF m 59 #[.val (.int p1), .val (.int p2), .val (.int p3), .val (.int p4), .val (.int p5), .val (.int p6), .val (.int p7), .val (.int p8), .val (.int p9), .val (.int p10), .val (.int p11), .val (.int p12)] [(.int p2)])
        rw [hK]
        exact Go.retI X0 hx hlk hret (hb hby d6_59) ⟨by rw [fE]; rw [if_pos hc1]; rw [if_pos hc2]; rw [if_pos hc3], e0, rfl⟩ (by decide) (by decide)
      · refine Go.to (fun _ => XS.icmpNo X0.here hx rfl (hb hby d6_40) rfl (flt hc3).2.2.1) ?_
        show Go p e below _ s₁ (mkF m 43 #[.val (.int p1), .val (.int p2), .val (.int p3), .val (.int p4), .val (.int p5), .val (.int p6), .val (.int p7), .val (.int p8), .val (.int p9), .val (.int p10), .val (.int p11), .val (.int p12)] [])
        refine Go.to (fun _ => XS.iload X0.here hx rfl (hb hby d6_43) rfl) ?_
        show Go p e below _ s₁ (mkF m 45 #[.val (.int p1), .val (.int p2), .val (.int p3), .val (.int p4), .val (.int p5), .val (.int p6), .val (.int p7), .val (.int p8), .val (.int p9), .val (.int p10), .val (.int p11), .val (.int p12)] [(.int p10)])
        refine Go.to (fun _ => XS.iconst X0.here hx rfl (hb hby d6_45)) ?_
        show Go p e below _ s₁ (mkF m 46 #[.val (.int p1), .val (.int p2), .val (.int p3), .val (.int p4), .val (.int p5), .val (.int p6), .val (.int p7), .val (.int p8), .val (.int p9), .val (.int p10), .val (.int p11), .val (.int p12)] [(.int (1 : Int32)), (.int p10)])
        by_cases hc4 : p10 = (1 : Int32)
        · refine Go.to (fun _ => XS.icmpNo X0.here hx rfl (hb hby d6_46) rfl (teq hc4).2) ?_
          show Go p e below _ s₁ (mkF m 49 #[.val (.int p1), .val (.int p2), .val (.int p3), .val (.int p4), .val (.int p5), .val (.int p6), .val (.int p7), .val (.int p8), .val (.int p9), .val (.int p10), .val (.int p11), .val (.int p12)] [])
          refine Go.to (fun _ => XS.iload X0.here hx rfl (hb hby d6_49) rfl) ?_
          show Go p e below _ s₁ (mkF m 51 #[.val (.int p1), .val (.int p2), .val (.int p3), .val (.int p4), .val (.int p5), .val (.int p6), .val (.int p7), .val (.int p8), .val (.int p9), .val (.int p10), .val (.int p11), .val (.int p12)] [(.int p11)])
          refine Go.to (fun _ => XS.iloadN X0.here hx rfl (hb hby d6_51) rfl) ?_
          show Go p e below _ s₁ (mkF m 52 #[.val (.int p1), .val (.int p2), .val (.int p3), .val (.int p4), .val (.int p5), .val (.int p6), .val (.int p7), .val (.int p8), .val (.int p9), .val (.int p10), .val (.int p11), .val (.int p12)] [(.int p1), (.int p11)])
          by_cases hc5 : p11 = p1
          · refine Go.to (fun _ => XS.icmpNo X0.here hx rfl (hb hby d6_52) rfl (teq hc5).2) ?_
            show Go p e below _ s₁ (mkF m 55 #[.val (.int p1), .val (.int p2), .val (.int p3), .val (.int p4), .val (.int p5), .val (.int p6), .val (.int p7), .val (.int p8), .val (.int p9), .val (.int p10), .val (.int p11), .val (.int p12)] [])
            refine Go.to (fun _ => XS.iload X0.here hx rfl (hb hby d6_55) rfl) ?_
            show Go p e below _ s₁ (mkF m 57 #[.val (.int p1), .val (.int p2), .val (.int p3), .val (.int p4), .val (.int p5), .val (.int p6), .val (.int p7), .val (.int p8), .val (.int p9), .val (.int p10), .val (.int p11), .val (.int p12)] [(.int p12)])
            rw [hK]
            exact Go.retI X0 hx hlk hret (hb hby d6_57) ⟨by rw [fE]; rw [if_pos hc1]; rw [if_pos hc2]; rw [if_neg hc3]; rw [if_pos hc4]; rw [if_pos hc5], e0, rfl⟩ (by decide) (by decide)
          · refine Go.to (fun _ => XS.icmpYes X0.here hx rfl (pc0 := 52) (pc' := 58) rfl (hb hby d6_52) rfl (feq hc5).2 (by decide) (by decide)) ?_
            show Go p e below _ s₁ (mkF m 58 #[.val (.int p1), .val (.int p2), .val (.int p3), .val (.int p4), .val (.int p5), .val (.int p6), .val (.int p7), .val (.int p8), .val (.int p9), .val (.int p10), .val (.int p11), .val (.int p12)] [])
            refine Go.to (fun _ => XS.iloadN X0.here hx rfl (hb hby d6_58) rfl) ?_
            show Go p e below _ s₁ (mkF m 59 #[.val (.int p1), .val (.int p2), .val (.int p3), .val (.int p4), .val (.int p5), .val (.int p6), .val (.int p7), .val (.int p8), .val (.int p9), .val (.int p10), .val (.int p11), .val (.int p12)] [(.int p2)])
            rw [hK]
            exact Go.retI X0 hx hlk hret (hb hby d6_59) ⟨by rw [fE]; rw [if_pos hc1]; rw [if_pos hc2]; rw [if_neg hc3]; rw [if_pos hc4]; rw [if_neg hc5], e0, rfl⟩ (by decide) (by decide)
        · refine Go.to (fun _ => XS.icmpYes X0.here hx rfl (pc0 := 46) (pc' := 58) rfl (hb hby d6_46) rfl (feq hc4).2 (by decide) (by decide)) ?_
          show Go p e below _ s₁ (mkF m 58 #[.val (.int p1), .val (.int p2), .val (.int p3), .val (.int p4), .val (.int p5), .val (.int p6), .val (.int p7), .val (.int p8), .val (.int p9), .val (.int p10), .val (.int p11), .val (.int p12)] [])
          refine Go.to (fun _ => XS.iloadN X0.here hx rfl (hb hby d6_58) rfl) ?_
          show Go p e below _ s₁ (mkF m 59 #[.val (.int p1), .val (.int p2), .val (.int p3), .val (.int p4), .val (.int p5), .val (.int p6), .val (.int p7), .val (.int p8), .val (.int p9), .val (.int p10), .val (.int p11), .val (.int p12)] [(.int p2)])
          rw [hK]
          exact Go.retI X0 hx hlk hret (hb hby d6_59) ⟨by rw [fE]; rw [if_pos hc1]; rw [if_pos hc2]; rw [if_neg hc3]; rw [if_neg hc4], e0, rfl⟩ (by decide) (by decide)
    · refine Go.to (fun _ => XS.icmpNo X0.here hx rfl (hb hby d6_20) rfl (flt hc2).2.2.1) ?_
      show Go p e below _ s₁ (mkF m 23 #[.val (.int p1), .val (.int p2), .val (.int p3), .val (.int p4), .val (.int p5), .val (.int p6), .val (.int p7), .val (.int p8), .val (.int p9), .val (.int p10), .val (.int p11), .val (.int p12)] [])
      refine Go.to (fun _ => XS.iload X0.here hx rfl (hb hby d6_23) rfl) ?_
      show Go p e below _ s₁ (mkF m 25 #[.val (.int p1), .val (.int p2), .val (.int p3), .val (.int p4), .val (.int p5), .val (.int p6), .val (.int p7), .val (.int p8), .val (.int p9), .val (.int p10), .val (.int p11), .val (.int p12)] [(.int p7)])
      refine Go.to (fun _ => XS.iconst X0.here hx rfl (hb hby d6_25)) ?_
      show Go p e below _ s₁ (mkF m 26 #[.val (.int p1), .val (.int p2), .val (.int p3), .val (.int p4), .val (.int p5), .val (.int p6), .val (.int p7), .val (.int p8), .val (.int p9), .val (.int p10), .val (.int p11), .val (.int p12)] [(.int (1 : Int32)), (.int p7)])
      by_cases hc6 : p7 = (1 : Int32)
      · refine Go.to (fun _ => XS.icmpNo X0.here hx rfl (hb hby d6_26) rfl (teq hc6).2) ?_
        show Go p e below _ s₁ (mkF m 29 #[.val (.int p1), .val (.int p2), .val (.int p3), .val (.int p4), .val (.int p5), .val (.int p6), .val (.int p7), .val (.int p8), .val (.int p9), .val (.int p10), .val (.int p11), .val (.int p12)] [])
        refine Go.to (fun _ => XS.iload X0.here hx rfl (hb hby d6_29) rfl) ?_
        show Go p e below _ s₁ (mkF m 31 #[.val (.int p1), .val (.int p2), .val (.int p3), .val (.int p4), .val (.int p5), .val (.int p6), .val (.int p7), .val (.int p8), .val (.int p9), .val (.int p10), .val (.int p11), .val (.int p12)] [(.int p8)])
        refine Go.to (fun _ => XS.iloadN X0.here hx rfl (hb hby d6_31) rfl) ?_
        show Go p e below _ s₁ (mkF m 32 #[.val (.int p1), .val (.int p2), .val (.int p3), .val (.int p4), .val (.int p5), .val (.int p6), .val (.int p7), .val (.int p8), .val (.int p9), .val (.int p10), .val (.int p11), .val (.int p12)] [(.int p1), (.int p8)])
        by_cases hc7 : p8 = p1
        · refine Go.to (fun _ => XS.icmpNo X0.here hx rfl (hb hby d6_32) rfl (teq hc7).2) ?_
          show Go p e below _ s₁ (mkF m 35 #[.val (.int p1), .val (.int p2), .val (.int p3), .val (.int p4), .val (.int p5), .val (.int p6), .val (.int p7), .val (.int p8), .val (.int p9), .val (.int p10), .val (.int p11), .val (.int p12)] [])
          refine Go.to (fun _ => XS.iload X0.here hx rfl (hb hby d6_35) rfl) ?_
          show Go p e below _ s₁ (mkF m 37 #[.val (.int p1), .val (.int p2), .val (.int p3), .val (.int p4), .val (.int p5), .val (.int p6), .val (.int p7), .val (.int p8), .val (.int p9), .val (.int p10), .val (.int p11), .val (.int p12)] [(.int p9)])
          rw [hK]
          exact Go.retI X0 hx hlk hret (hb hby d6_37) ⟨by rw [fE]; rw [if_pos hc1]; rw [if_neg hc2]; rw [if_pos hc6]; rw [if_pos hc7], e0, rfl⟩ (by decide) (by decide)
        · refine Go.to (fun _ => XS.icmpYes X0.here hx rfl (pc0 := 32) (pc' := 38) rfl (hb hby d6_32) rfl (feq hc7).2 (by decide) (by decide)) ?_
          show Go p e below _ s₁ (mkF m 38 #[.val (.int p1), .val (.int p2), .val (.int p3), .val (.int p4), .val (.int p5), .val (.int p6), .val (.int p7), .val (.int p8), .val (.int p9), .val (.int p10), .val (.int p11), .val (.int p12)] [])
          refine Go.to (fun _ => XS.iloadN X0.here hx rfl (hb hby d6_38) rfl) ?_
          show Go p e below _ s₁ (mkF m 39 #[.val (.int p1), .val (.int p2), .val (.int p3), .val (.int p4), .val (.int p5), .val (.int p6), .val (.int p7), .val (.int p8), .val (.int p9), .val (.int p10), .val (.int p11), .val (.int p12)] [(.int p3)])
          refine Go.to (fun _ => XS.iconst X0.here hx rfl (hb hby d6_39)) ?_
          show Go p e below _ s₁ (mkF m 40 #[.val (.int p1), .val (.int p2), .val (.int p3), .val (.int p4), .val (.int p5), .val (.int p6), .val (.int p7), .val (.int p8), .val (.int p9), .val (.int p10), .val (.int p11), .val (.int p12)] [(.int (2 : Int32)), (.int p3)])
          by_cases hc8 : (2 : Int32) < p3
          · refine Go.to (fun _ => XS.icmpYes X0.here hx rfl (pc0 := 40) (pc' := 58) rfl (hb hby d6_40) rfl (tlt hc8).2.2.1 (by decide) (by decide)) ?_
            show Go p e below _ s₁ (mkF m 58 #[.val (.int p1), .val (.int p2), .val (.int p3), .val (.int p4), .val (.int p5), .val (.int p6), .val (.int p7), .val (.int p8), .val (.int p9), .val (.int p10), .val (.int p11), .val (.int p12)] [])
            refine Go.to (fun _ => XS.iloadN X0.here hx rfl (hb hby d6_58) rfl) ?_
            show Go p e below _ s₁ (mkF m 59 #[.val (.int p1), .val (.int p2), .val (.int p3), .val (.int p4), .val (.int p5), .val (.int p6), .val (.int p7), .val (.int p8), .val (.int p9), .val (.int p10), .val (.int p11), .val (.int p12)] [(.int p2)])
            rw [hK]
            exact Go.retI X0 hx hlk hret (hb hby d6_59) ⟨by rw [fE]; rw [if_pos hc1]; rw [if_neg hc2]; rw [if_pos hc6]; rw [if_neg hc7]; rw [if_pos hc8], e0, rfl⟩ (by decide) (by decide)
          · refine Go.to (fun _ => XS.icmpNo X0.here hx rfl (hb hby d6_40) rfl (flt hc8).2.2.1) ?_
            show Go p e below _ s₁ (mkF m 43 #[.val (.int p1), .val (.int p2), .val (.int p3), .val (.int p4), .val (.int p5), .val (.int p6), .val (.int p7), .val (.int p8), .val (.int p9), .val (.int p10), .val (.int p11), .val (.int p12)] [])
            refine Go.to (fun _ => XS.iload X0.here hx rfl (hb hby d6_43) rfl) ?_
            show Go p e below _ s₁ (mkF m 45 #[.val (.int p1), .val (.int p2), .val (.int p3), .val (.int p4), .val (.int p5), .val (.int p6), .val (.int p7), .val (.int p8), .val (.int p9), .val (.int p10), .val (.int p11), .val (.int p12)] [(.int p10)])
            refine Go.to (fun _ => XS.iconst X0.here hx rfl (hb hby d6_45)) ?_
            show Go p e below _ s₁ (mkF m 46 #[.val (.int p1), .val (.int p2), .val (.int p3), .val (.int p4), .val (.int p5), .val (.int p6), .val (.int p7), .val (.int p8), .val (.int p9), .val (.int p10), .val (.int p11), .val (.int p12)] [(.int (1 : Int32)), (.int p10)])
            by_cases hc9 : p10 = (1 : Int32)
            · refine Go.to (fun _ => XS.icmpNo X0.here hx rfl (hb hby d6_46) rfl (teq hc9).2) ?_
              show Go p e below _ s₁ (mkF m 49 #[.val (.int p1), .val (.int p2), .val (.int p3), .val (.int p4), .val (.int p5), .val (.int p6), .val (.int p7), .val (.int p8), .val (.int p9), .val (.int p10), .val (.int p11), .val (.int p12)] [])
              refine Go.to (fun _ => XS.iload X0.here hx rfl (hb hby d6_49) rfl) ?_
              show Go p e below _ s₁ (mkF m 51 #[.val (.int p1), .val (.int p2), .val (.int p3), .val (.int p4), .val (.int p5), .val (.int p6), .val (.int p7), .val (.int p8), .val (.int p9), .val (.int p10), .val (.int p11), .val (.int p12)] [(.int p11)])
              refine Go.to (fun _ => XS.iloadN X0.here hx rfl (hb hby d6_51) rfl) ?_
              show Go p e below _ s₁ (mkF m 52 #[.val (.int p1), .val (.int p2), .val (.int p3), .val (.int p4), .val (.int p5), .val (.int p6), .val (.int p7), .val (.int p8), .val (.int p9), .val (.int p10), .val (.int p11), .val (.int p12)] [(.int p1), (.int p11)])
              by_cases hc10 : p11 = p1
              · refine Go.to (fun _ => XS.icmpNo X0.here hx rfl (hb hby d6_52) rfl (teq hc10).2) ?_
                show Go p e below _ s₁ (mkF m 55 #[.val (.int p1), .val (.int p2), .val (.int p3), .val (.int p4), .val (.int p5), .val (.int p6), .val (.int p7), .val (.int p8), .val (.int p9), .val (.int p10), .val (.int p11), .val (.int p12)] [])
                refine Go.to (fun _ => XS.iload X0.here hx rfl (hb hby d6_55) rfl) ?_
                show Go p e below _ s₁ (mkF m 57 #[.val (.int p1), .val (.int p2), .val (.int p3), .val (.int p4), .val (.int p5), .val (.int p6), .val (.int p7), .val (.int p8), .val (.int p9), .val (.int p10), .val (.int p11), .val (.int p12)] [(.int p12)])
                rw [hK]
                exact Go.retI X0 hx hlk hret (hb hby d6_57) ⟨by rw [fE]; rw [if_pos hc1]; rw [if_neg hc2]; rw [if_pos hc6]; rw [if_neg hc7]; rw [if_neg hc8]; rw [if_pos hc9]; rw [if_pos hc10], e0, rfl⟩ (by decide) (by decide)
              · refine Go.to (fun _ => XS.icmpYes X0.here hx rfl (pc0 := 52) (pc' := 58) rfl (hb hby d6_52) rfl (feq hc10).2 (by decide) (by decide)) ?_
                show Go p e below _ s₁ (mkF m 58 #[.val (.int p1), .val (.int p2), .val (.int p3), .val (.int p4), .val (.int p5), .val (.int p6), .val (.int p7), .val (.int p8), .val (.int p9), .val (.int p10), .val (.int p11), .val (.int p12)] [])
                refine Go.to (fun _ => XS.iloadN X0.here hx rfl (hb hby d6_58) rfl) ?_
                show Go p e below _ s₁ (mkF m 59 #[.val (.int p1), .val (.int p2), .val (.int p3), .val (.int p4), .val (.int p5), .val (.int p6), .val (.int p7), .val (.int p8), .val (.int p9), .val (.int p10), .val (.int p11), .val (.int p12)] [(.int p2)])
                rw [hK]
                exact Go.retI X0 hx hlk hret (hb hby d6_59) ⟨by rw [fE]; rw [if_pos hc1]; rw [if_neg hc2]; rw [if_pos hc6]; rw [if_neg hc7]; rw [if_neg hc8]; rw [if_pos hc9]; rw [if_neg hc10], e0, rfl⟩ (by decide) (by decide)
            · refine Go.to (fun _ => XS.icmpYes X0.here hx rfl (pc0 := 46) (pc' := 58) rfl (hb hby d6_46) rfl (feq hc9).2 (by decide) (by decide)) ?_
              show Go p e below _ s₁ (mkF m 58 #[.val (.int p1), .val (.int p2), .val (.int p3), .val (.int p4), .val (.int p5), .val (.int p6), .val (.int p7), .val (.int p8), .val (.int p9), .val (.int p10), .val (.int p11), .val (.int p12)] [])
              refine Go.to (fun _ => XS.iloadN X0.here hx rfl (hb hby d6_58) rfl) ?_
              show Go p e below _ s₁ (mkF m 59 #[.val (.int p1), .val (.int p2), .val (.int p3), .val (.int p4), .val (.int p5), .val (.int p6), .val (.int p7), .val (.int p8), .val (.int p9), .val (.int p10), .val (.int p11), .val (.int p12)] [(.int p2)])
              rw [hK]
              exact Go.retI X0 hx hlk hret (hb hby d6_59) ⟨by rw [fE]; rw [if_pos hc1]; rw [if_neg hc2]; rw [if_pos hc6]; rw [if_neg hc7]; rw [if_neg hc8]; rw [if_neg hc9], e0, rfl⟩ (by decide) (by decide)
      · refine Go.to (fun _ => XS.icmpYes X0.here hx rfl (pc0 := 26) (pc' := 38) rfl (hb hby d6_26) rfl (feq hc6).2 (by decide) (by decide)) ?_
        show Go p e below _ s₁ (mkF m 38 #[.val (.int p1), .val (.int p2), .val (.int p3), .val (.int p4), .val (.int p5), .val (.int p6), .val (.int p7), .val (.int p8), .val (.int p9), .val (.int p10), .val (.int p11), .val (.int p12)] [])
        refine Go.to (fun _ => XS.iloadN X0.here hx rfl (hb hby d6_38) rfl) ?_
        show Go p e below _ s₁ (mkF m 39 #[.val (.int p1), .val (.int p2), .val (.int p3), .val (.int p4), .val (.int p5), .val (.int p6), .val (.int p7), .val (.int p8), .val (.int p9), .val (.int p10), .val (.int p11), .val (.int p12)] [(.int p3)])
        refine Go.to (fun _ => XS.iconst X0.here hx rfl (hb hby d6_39)) ?_
        show Go p e below _ s₁ (mkF m 40 #[.val (.int p1), .val (.int p2), .val (.int p3), .val (.int p4), .val (.int p5), .val (.int p6), .val (.int p7), .val (.int p8), .val (.int p9), .val (.int p10), .val (.int p11), .val (.int p12)] [(.int (2 : Int32)), (.int p3)])
        by_cases hc11 : (2 : Int32) < p3
        · refine Go.to (fun _ => XS.icmpYes X0.here hx rfl (pc0 := 40) (pc' := 58) rfl (hb hby d6_40) rfl (tlt hc11).2.2.1 (by decide) (by decide)) ?_
          show Go p e below _ s₁ (mkF m 58 #[.val (.int p1), .val (.int p2), .val (.int p3), .val (.int p4), .val (.int p5), .val (.int p6), .val (.int p7), .val (.int p8), .val (.int p9), .val (.int p10), .val (.int p11), .val (.int p12)] [])
          refine Go.to (fun _ => XS.iloadN X0.here hx rfl (hb hby d6_58) rfl) ?_
          show Go p e below _ s₁ (mkF m 59 #[.val (.int p1), .val (.int p2), .val (.int p3), .val (.int p4), .val (.int p5), .val (.int p6), .val (.int p7), .val (.int p8), .val (.int p9), .val (.int p10), .val (.int p11), .val (.int p12)] [(.int p2)])
          rw [hK]
          exact Go.retI X0 hx hlk hret (hb hby d6_59) ⟨by rw [fE]; rw [if_pos hc1]; rw [if_neg hc2]; rw [if_neg hc6]; rw [if_pos hc11], e0, rfl⟩ (by decide) (by decide)
        · refine Go.to (fun _ => XS.icmpNo X0.here hx rfl (hb hby d6_40) rfl (flt hc11).2.2.1) ?_
          show Go p e below _ s₁ (mkF m 43 #[.val (.int p1), .val (.int p2), .val (.int p3), .val (.int p4), .val (.int p5), .val (.int p6), .val (.int p7), .val (.int p8), .val (.int p9), .val (.int p10), .val (.int p11), .val (.int p12)] [])
          refine Go.to (fun _ => XS.iload X0.here hx rfl (hb hby d6_43) rfl) ?_
          show Go p e below _ s₁ (mkF m 45 #[.val (.int p1), .val (.int p2), .val (.int p3), .val (.int p4), .val (.int p5), .val (.int p6), .val (.int p7), .val (.int p8), .val (.int p9), .val (.int p10), .val (.int p11), .val (.int p12)] [(.int p10)])
          refine Go.to (fun _ => XS.iconst X0.here hx rfl (hb hby d6_45)) ?_
          show Go p e below _ s₁ (mkF m 46 #[.val (.int p1), .val (.int p2), .val (.int p3), .val (.int p4), .val (.int p5), .val (.int p6), .val (.int p7), .val (.int p8), .val (.int p9), .val (.int p10), .val (.int p11), .val (.int p12)] [(.int (1 : Int32)), (.int p10)])
          by_cases hc12 : p10 = (1 : Int32)
          · refine Go.to (fun _ => XS.icmpNo X0.here hx rfl (hb hby d6_46) rfl (teq hc12).2) ?_
            show Go p e below _ s₁ (mkF m 49 #[.val (.int p1), .val (.int p2), .val (.int p3), .val (.int p4), .val (.int p5), .val (.int p6), .val (.int p7), .val (.int p8), .val (.int p9), .val (.int p10), .val (.int p11), .val (.int p12)] [])
            refine Go.to (fun _ => XS.iload X0.here hx rfl (hb hby d6_49) rfl) ?_
            show Go p e below _ s₁ (mkF m 51 #[.val (.int p1), .val (.int p2), .val (.int p3), .val (.int p4), .val (.int p5), .val (.int p6), .val (.int p7), .val (.int p8), .val (.int p9), .val (.int p10), .val (.int p11), .val (.int p12)] [(.int p11)])
            refine Go.to (fun _ => XS.iloadN X0.here hx rfl (hb hby d6_51) rfl) ?_
            show Go p e below _ s₁ (mkF m 52 #[.val (.int p1), .val (.int p2), .val (.int p3), .val (.int p4), .val (.int p5), .val (.int p6), .val (.int p7), .val (.int p8), .val (.int p9), .val (.int p10), .val (.int p11), .val (.int p12)] [(.int p1), (.int p11)])
            by_cases hc13 : p11 = p1
            · refine Go.to (fun _ => XS.icmpNo X0.here hx rfl (hb hby d6_52) rfl (teq hc13).2) ?_
              show Go p e below _ s₁ (mkF m 55 #[.val (.int p1), .val (.int p2), .val (.int p3), .val (.int p4), .val (.int p5), .val (.int p6), .val (.int p7), .val (.int p8), .val (.int p9), .val (.int p10), .val (.int p11), .val (.int p12)] [])
              refine Go.to (fun _ => XS.iload X0.here hx rfl (hb hby d6_55) rfl) ?_
              show Go p e below _ s₁ (mkF m 57 #[.val (.int p1), .val (.int p2), .val (.int p3), .val (.int p4), .val (.int p5), .val (.int p6), .val (.int p7), .val (.int p8), .val (.int p9), .val (.int p10), .val (.int p11), .val (.int p12)] [(.int p12)])
              rw [hK]
              exact Go.retI X0 hx hlk hret (hb hby d6_57) ⟨by rw [fE]; rw [if_pos hc1]; rw [if_neg hc2]; rw [if_neg hc6]; rw [if_neg hc11]; rw [if_pos hc12]; rw [if_pos hc13], e0, rfl⟩ (by decide) (by decide)
            · refine Go.to (fun _ => XS.icmpYes X0.here hx rfl (pc0 := 52) (pc' := 58) rfl (hb hby d6_52) rfl (feq hc13).2 (by decide) (by decide)) ?_
              show Go p e below _ s₁ (mkF m 58 #[.val (.int p1), .val (.int p2), .val (.int p3), .val (.int p4), .val (.int p5), .val (.int p6), .val (.int p7), .val (.int p8), .val (.int p9), .val (.int p10), .val (.int p11), .val (.int p12)] [])
              refine Go.to (fun _ => XS.iloadN X0.here hx rfl (hb hby d6_58) rfl) ?_
              show Go p e below _ s₁ (mkF m 59 #[.val (.int p1), .val (.int p2), .val (.int p3), .val (.int p4), .val (.int p5), .val (.int p6), .val (.int p7), .val (.int p8), .val (.int p9), .val (.int p10), .val (.int p11), .val (.int p12)] [(.int p2)])
              rw [hK]
              exact Go.retI X0 hx hlk hret (hb hby d6_59) ⟨by rw [fE]; rw [if_pos hc1]; rw [if_neg hc2]; rw [if_neg hc6]; rw [if_neg hc11]; rw [if_pos hc12]; rw [if_neg hc13], e0, rfl⟩ (by decide) (by decide)
          · refine Go.to (fun _ => XS.icmpYes X0.here hx rfl (pc0 := 46) (pc' := 58) rfl (hb hby d6_46) rfl (feq hc12).2 (by decide) (by decide)) ?_
            show Go p e below _ s₁ (mkF m 58 #[.val (.int p1), .val (.int p2), .val (.int p3), .val (.int p4), .val (.int p5), .val (.int p6), .val (.int p7), .val (.int p8), .val (.int p9), .val (.int p10), .val (.int p11), .val (.int p12)] [])
            refine Go.to (fun _ => XS.iloadN X0.here hx rfl (hb hby d6_58) rfl) ?_
            show Go p e below _ s₁ (mkF m 59 #[.val (.int p1), .val (.int p2), .val (.int p3), .val (.int p4), .val (.int p5), .val (.int p6), .val (.int p7), .val (.int p8), .val (.int p9), .val (.int p10), .val (.int p11), .val (.int p12)] [(.int p2)])
            rw [hK]
            exact Go.retI X0 hx hlk hret (hb hby d6_59) ⟨by rw [fE]; rw [if_pos hc1]; rw [if_neg hc2]; rw [if_neg hc6]; rw [if_neg hc11]; rw [if_neg hc12], e0, rfl⟩ (by decide) (by decide)
  · refine Go.to (fun _ => XS.ifNo X0.here hx rfl (hb hby d6_1) rfl ((if0 _ _).trans (flt hc1).2.2.1)) ?_
    show Go p e below _ s₁ (mkF m 4 #[.val (.int p1), .val (.int p2), .val (.int p3), .val (.int p4), .val (.int p5), .val (.int p6), .val (.int p7), .val (.int p8), .val (.int p9), .val (.int p10), .val (.int p11), .val (.int p12)] [])
    refine Go.to (fun _ => XS.iloadN X0.here hx rfl (hb hby d6_4) rfl) ?_
    show Go p e below _ s₁ (mkF m 5 #[.val (.int p1), .val (.int p2), .val (.int p3), .val (.int p4), .val (.int p5), .val (.int p6), .val (.int p7), .val (.int p8), .val (.int p9), .val (.int p10), .val (.int p11), .val (.int p12)] [(.int p4)])
    refine Go.to (fun _ => XS.iconst X0.here hx rfl (hb hby d6_5)) ?_
    show Go p e below _ s₁ (mkF m 6 #[.val (.int p1), .val (.int p2), .val (.int p3), .val (.int p4), .val (.int p5), .val (.int p6), .val (.int p7), .val (.int p8), .val (.int p9), .val (.int p10), .val (.int p11), .val (.int p12)] [(.int (1 : Int32)), (.int p4)])
    by_cases hc14 : p4 = (1 : Int32)
    · refine Go.to (fun _ => XS.icmpNo X0.here hx rfl (hb hby d6_6) rfl (teq hc14).2) ?_
      show Go p e below _ s₁ (mkF m 9 #[.val (.int p1), .val (.int p2), .val (.int p3), .val (.int p4), .val (.int p5), .val (.int p6), .val (.int p7), .val (.int p8), .val (.int p9), .val (.int p10), .val (.int p11), .val (.int p12)] [])
      refine Go.to (fun _ => XS.iload X0.here hx rfl (hb hby d6_9) rfl) ?_
      show Go p e below _ s₁ (mkF m 11 #[.val (.int p1), .val (.int p2), .val (.int p3), .val (.int p4), .val (.int p5), .val (.int p6), .val (.int p7), .val (.int p8), .val (.int p9), .val (.int p10), .val (.int p11), .val (.int p12)] [(.int p5)])
      refine Go.to (fun _ => XS.iloadN X0.here hx rfl (hb hby d6_11) rfl) ?_
      show Go p e below _ s₁ (mkF m 12 #[.val (.int p1), .val (.int p2), .val (.int p3), .val (.int p4), .val (.int p5), .val (.int p6), .val (.int p7), .val (.int p8), .val (.int p9), .val (.int p10), .val (.int p11), .val (.int p12)] [(.int p1), (.int p5)])
      by_cases hc15 : p5 = p1
      · refine Go.to (fun _ => XS.icmpNo X0.here hx rfl (hb hby d6_12) rfl (teq hc15).2) ?_
        show Go p e below _ s₁ (mkF m 15 #[.val (.int p1), .val (.int p2), .val (.int p3), .val (.int p4), .val (.int p5), .val (.int p6), .val (.int p7), .val (.int p8), .val (.int p9), .val (.int p10), .val (.int p11), .val (.int p12)] [])
        refine Go.to (fun _ => XS.iload X0.here hx rfl (hb hby d6_15) rfl) ?_
        show Go p e below _ s₁ (mkF m 17 #[.val (.int p1), .val (.int p2), .val (.int p3), .val (.int p4), .val (.int p5), .val (.int p6), .val (.int p7), .val (.int p8), .val (.int p9), .val (.int p10), .val (.int p11), .val (.int p12)] [(.int p6)])
        rw [hK]
        exact Go.retI X0 hx hlk hret (hb hby d6_17) ⟨by rw [fE]; rw [if_neg hc1]; rw [if_pos hc14]; rw [if_pos hc15], e0, rfl⟩ (by decide) (by decide)
      · refine Go.to (fun _ => XS.icmpYes X0.here hx rfl (pc0 := 12) (pc' := 18) rfl (hb hby d6_12) rfl (feq hc15).2 (by decide) (by decide)) ?_
        show Go p e below _ s₁ (mkF m 18 #[.val (.int p1), .val (.int p2), .val (.int p3), .val (.int p4), .val (.int p5), .val (.int p6), .val (.int p7), .val (.int p8), .val (.int p9), .val (.int p10), .val (.int p11), .val (.int p12)] [])
        refine Go.to (fun _ => XS.iloadN X0.here hx rfl (hb hby d6_18) rfl) ?_
        show Go p e below _ s₁ (mkF m 19 #[.val (.int p1), .val (.int p2), .val (.int p3), .val (.int p4), .val (.int p5), .val (.int p6), .val (.int p7), .val (.int p8), .val (.int p9), .val (.int p10), .val (.int p11), .val (.int p12)] [(.int p3)])
        refine Go.to (fun _ => XS.iconst X0.here hx rfl (hb hby d6_19)) ?_
        show Go p e below _ s₁ (mkF m 20 #[.val (.int p1), .val (.int p2), .val (.int p3), .val (.int p4), .val (.int p5), .val (.int p6), .val (.int p7), .val (.int p8), .val (.int p9), .val (.int p10), .val (.int p11), .val (.int p12)] [(.int (1 : Int32)), (.int p3)])
        by_cases hc16 : (1 : Int32) < p3
        · refine Go.to (fun _ => XS.icmpYes X0.here hx rfl (pc0 := 20) (pc' := 38) rfl (hb hby d6_20) rfl (tlt hc16).2.2.1 (by decide) (by decide)) ?_
          show Go p e below _ s₁ (mkF m 38 #[.val (.int p1), .val (.int p2), .val (.int p3), .val (.int p4), .val (.int p5), .val (.int p6), .val (.int p7), .val (.int p8), .val (.int p9), .val (.int p10), .val (.int p11), .val (.int p12)] [])
          refine Go.to (fun _ => XS.iloadN X0.here hx rfl (hb hby d6_38) rfl) ?_
          show Go p e below _ s₁ (mkF m 39 #[.val (.int p1), .val (.int p2), .val (.int p3), .val (.int p4), .val (.int p5), .val (.int p6), .val (.int p7), .val (.int p8), .val (.int p9), .val (.int p10), .val (.int p11), .val (.int p12)] [(.int p3)])
          refine Go.to (fun _ => XS.iconst X0.here hx rfl (hb hby d6_39)) ?_
          show Go p e below _ s₁ (mkF m 40 #[.val (.int p1), .val (.int p2), .val (.int p3), .val (.int p4), .val (.int p5), .val (.int p6), .val (.int p7), .val (.int p8), .val (.int p9), .val (.int p10), .val (.int p11), .val (.int p12)] [(.int (2 : Int32)), (.int p3)])
          by_cases hc17 : (2 : Int32) < p3
          · refine Go.to (fun _ => XS.icmpYes X0.here hx rfl (pc0 := 40) (pc' := 58) rfl (hb hby d6_40) rfl (tlt hc17).2.2.1 (by decide) (by decide)) ?_
            show Go p e below _ s₁ (mkF m 58 #[.val (.int p1), .val (.int p2), .val (.int p3), .val (.int p4), .val (.int p5), .val (.int p6), .val (.int p7), .val (.int p8), .val (.int p9), .val (.int p10), .val (.int p11), .val (.int p12)] [])
            refine Go.to (fun _ => XS.iloadN X0.here hx rfl (hb hby d6_58) rfl) ?_
            show Go p e below _ s₁ (mkF m 59 #[.val (.int p1), .val (.int p2), .val (.int p3), .val (.int p4), .val (.int p5), .val (.int p6), .val (.int p7), .val (.int p8), .val (.int p9), .val (.int p10), .val (.int p11), .val (.int p12)] [(.int p2)])
            rw [hK]
            exact Go.retI X0 hx hlk hret (hb hby d6_59) ⟨by rw [fE]; rw [if_neg hc1]; rw [if_pos hc14]; rw [if_neg hc15]; rw [if_pos hc16]; rw [if_pos hc17], e0, rfl⟩ (by decide) (by decide)
          · refine Go.to (fun _ => XS.icmpNo X0.here hx rfl (hb hby d6_40) rfl (flt hc17).2.2.1) ?_
            show Go p e below _ s₁ (mkF m 43 #[.val (.int p1), .val (.int p2), .val (.int p3), .val (.int p4), .val (.int p5), .val (.int p6), .val (.int p7), .val (.int p8), .val (.int p9), .val (.int p10), .val (.int p11), .val (.int p12)] [])
            refine Go.to (fun _ => XS.iload X0.here hx rfl (hb hby d6_43) rfl) ?_
            show Go p e below _ s₁ (mkF m 45 #[.val (.int p1), .val (.int p2), .val (.int p3), .val (.int p4), .val (.int p5), .val (.int p6), .val (.int p7), .val (.int p8), .val (.int p9), .val (.int p10), .val (.int p11), .val (.int p12)] [(.int p10)])
            refine Go.to (fun _ => XS.iconst X0.here hx rfl (hb hby d6_45)) ?_
            show Go p e below _ s₁ (mkF m 46 #[.val (.int p1), .val (.int p2), .val (.int p3), .val (.int p4), .val (.int p5), .val (.int p6), .val (.int p7), .val (.int p8), .val (.int p9), .val (.int p10), .val (.int p11), .val (.int p12)] [(.int (1 : Int32)), (.int p10)])
            by_cases hc18 : p10 = (1 : Int32)
            · refine Go.to (fun _ => XS.icmpNo X0.here hx rfl (hb hby d6_46) rfl (teq hc18).2) ?_
              show Go p e below _ s₁ (mkF m 49 #[.val (.int p1), .val (.int p2), .val (.int p3), .val (.int p4), .val (.int p5), .val (.int p6), .val (.int p7), .val (.int p8), .val (.int p9), .val (.int p10), .val (.int p11), .val (.int p12)] [])
              refine Go.to (fun _ => XS.iload X0.here hx rfl (hb hby d6_49) rfl) ?_
              show Go p e below _ s₁ (mkF m 51 #[.val (.int p1), .val (.int p2), .val (.int p3), .val (.int p4), .val (.int p5), .val (.int p6), .val (.int p7), .val (.int p8), .val (.int p9), .val (.int p10), .val (.int p11), .val (.int p12)] [(.int p11)])
              refine Go.to (fun _ => XS.iloadN X0.here hx rfl (hb hby d6_51) rfl) ?_
              show Go p e below _ s₁ (mkF m 52 #[.val (.int p1), .val (.int p2), .val (.int p3), .val (.int p4), .val (.int p5), .val (.int p6), .val (.int p7), .val (.int p8), .val (.int p9), .val (.int p10), .val (.int p11), .val (.int p12)] [(.int p1), (.int p11)])
              by_cases hc19 : p11 = p1
              · refine Go.to (fun _ => XS.icmpNo X0.here hx rfl (hb hby d6_52) rfl (teq hc19).2) ?_
                show Go p e below _ s₁ (mkF m 55 #[.val (.int p1), .val (.int p2), .val (.int p3), .val (.int p4), .val (.int p5), .val (.int p6), .val (.int p7), .val (.int p8), .val (.int p9), .val (.int p10), .val (.int p11), .val (.int p12)] [])
                refine Go.to (fun _ => XS.iload X0.here hx rfl (hb hby d6_55) rfl) ?_
                show Go p e below _ s₁ (mkF m 57 #[.val (.int p1), .val (.int p2), .val (.int p3), .val (.int p4), .val (.int p5), .val (.int p6), .val (.int p7), .val (.int p8), .val (.int p9), .val (.int p10), .val (.int p11), .val (.int p12)] [(.int p12)])
                rw [hK]
                exact Go.retI X0 hx hlk hret (hb hby d6_57) ⟨by rw [fE]; rw [if_neg hc1]; rw [if_pos hc14]; rw [if_neg hc15]; rw [if_pos hc16]; rw [if_neg hc17]; rw [if_pos hc18]; rw [if_pos hc19], e0, rfl⟩ (by decide) (by decide)
              · refine Go.to (fun _ => XS.icmpYes X0.here hx rfl (pc0 := 52) (pc' := 58) rfl (hb hby d6_52) rfl (feq hc19).2 (by decide) (by decide)) ?_
                show Go p e below _ s₁ (mkF m 58 #[.val (.int p1), .val (.int p2), .val (.int p3), .val (.int p4), .val (.int p5), .val (.int p6), .val (.int p7), .val (.int p8), .val (.int p9), .val (.int p10), .val (.int p11), .val (.int p12)] [])
                refine Go.to (fun _ => XS.iloadN X0.here hx rfl (hb hby d6_58) rfl) ?_
                show Go p e below _ s₁ (mkF m 59 #[.val (.int p1), .val (.int p2), .val (.int p3), .val (.int p4), .val (.int p5), .val (.int p6), .val (.int p7), .val (.int p8), .val (.int p9), .val (.int p10), .val (.int p11), .val (.int p12)] [(.int p2)])
                rw [hK]
                exact Go.retI X0 hx hlk hret (hb hby d6_59) ⟨by rw [fE]; rw [if_neg hc1]; rw [if_pos hc14]; rw [if_neg hc15]; rw [if_pos hc16]; rw [if_neg hc17]; rw [if_pos hc18]; rw [if_neg hc19], e0, rfl⟩ (by decide) (by decide)
            · refine Go.to (fun _ => XS.icmpYes X0.here hx rfl (pc0 := 46) (pc' := 58) rfl (hb hby d6_46) rfl (feq hc18).2 (by decide) (by decide)) ?_
              show Go p e below _ s₁ (mkF m 58 #[.val (.int p1), .val (.int p2), .val (.int p3), .val (.int p4), .val (.int p5), .val (.int p6), .val (.int p7), .val (.int p8), .val (.int p9), .val (.int p10), .val (.int p11), .val (.int p12)] [])
              refine Go.to (fun _ => XS.iloadN X0.here hx rfl (hb hby d6_58) rfl) ?_
              show Go p e below _ s₁ (mkF m 59 #[.val (.int p1), .val (.int p2), .val (.int p3), .val (.int p4), .val (.int p5), .val (.int p6), .val (.int p7), .val (.int p8), .val (.int p9), .val (.int p10), .val (.int p11), .val (.int p12)] [(.int p2)])
              rw [hK]
              exact Go.retI X0 hx hlk hret (hb hby d6_59) ⟨by rw [fE]; rw [if_neg hc1]; rw [if_pos hc14]; rw [if_neg hc15]; rw [if_pos hc16]; rw [if_neg hc17]; rw [if_neg hc18], e0, rfl⟩ (by decide) (by decide)
        · refine Go.to (fun _ => XS.icmpNo X0.here hx rfl (hb hby d6_20) rfl (flt hc16).2.2.1) ?_
          show Go p e below _ s₁ (mkF m 23 #[.val (.int p1), .val (.int p2), .val (.int p3), .val (.int p4), .val (.int p5), .val (.int p6), .val (.int p7), .val (.int p8), .val (.int p9), .val (.int p10), .val (.int p11), .val (.int p12)] [])
          refine Go.to (fun _ => XS.iload X0.here hx rfl (hb hby d6_23) rfl) ?_
          show Go p e below _ s₁ (mkF m 25 #[.val (.int p1), .val (.int p2), .val (.int p3), .val (.int p4), .val (.int p5), .val (.int p6), .val (.int p7), .val (.int p8), .val (.int p9), .val (.int p10), .val (.int p11), .val (.int p12)] [(.int p7)])
          refine Go.to (fun _ => XS.iconst X0.here hx rfl (hb hby d6_25)) ?_
          show Go p e below _ s₁ (mkF m 26 #[.val (.int p1), .val (.int p2), .val (.int p3), .val (.int p4), .val (.int p5), .val (.int p6), .val (.int p7), .val (.int p8), .val (.int p9), .val (.int p10), .val (.int p11), .val (.int p12)] [(.int (1 : Int32)), (.int p7)])
          by_cases hc20 : p7 = (1 : Int32)
          · refine Go.to (fun _ => XS.icmpNo X0.here hx rfl (hb hby d6_26) rfl (teq hc20).2) ?_
            show Go p e below _ s₁ (mkF m 29 #[.val (.int p1), .val (.int p2), .val (.int p3), .val (.int p4), .val (.int p5), .val (.int p6), .val (.int p7), .val (.int p8), .val (.int p9), .val (.int p10), .val (.int p11), .val (.int p12)] [])
            refine Go.to (fun _ => XS.iload X0.here hx rfl (hb hby d6_29) rfl) ?_
            show Go p e below _ s₁ (mkF m 31 #[.val (.int p1), .val (.int p2), .val (.int p3), .val (.int p4), .val (.int p5), .val (.int p6), .val (.int p7), .val (.int p8), .val (.int p9), .val (.int p10), .val (.int p11), .val (.int p12)] [(.int p8)])
            refine Go.to (fun _ => XS.iloadN X0.here hx rfl (hb hby d6_31) rfl) ?_
            show Go p e below _ s₁ (mkF m 32 #[.val (.int p1), .val (.int p2), .val (.int p3), .val (.int p4), .val (.int p5), .val (.int p6), .val (.int p7), .val (.int p8), .val (.int p9), .val (.int p10), .val (.int p11), .val (.int p12)] [(.int p1), (.int p8)])
            by_cases hc21 : p8 = p1
            · refine Go.to (fun _ => XS.icmpNo X0.here hx rfl (hb hby d6_32) rfl (teq hc21).2) ?_
              show Go p e below _ s₁ (mkF m 35 #[.val (.int p1), .val (.int p2), .val (.int p3), .val (.int p4), .val (.int p5), .val (.int p6), .val (.int p7), .val (.int p8), .val (.int p9), .val (.int p10), .val (.int p11), .val (.int p12)] [])
              refine Go.to (fun _ => XS.iload X0.here hx rfl (hb hby d6_35) rfl) ?_
              show Go p e below _ s₁ (mkF m 37 #[.val (.int p1), .val (.int p2), .val (.int p3), .val (.int p4), .val (.int p5), .val (.int p6), .val (.int p7), .val (.int p8), .val (.int p9), .val (.int p10), .val (.int p11), .val (.int p12)] [(.int p9)])
              rw [hK]
              exact Go.retI X0 hx hlk hret (hb hby d6_37) ⟨by rw [fE]; rw [if_neg hc1]; rw [if_pos hc14]; rw [if_neg hc15]; rw [if_neg hc16]; rw [if_pos hc20]; rw [if_pos hc21], e0, rfl⟩ (by decide) (by decide)
            · refine Go.to (fun _ => XS.icmpYes X0.here hx rfl (pc0 := 32) (pc' := 38) rfl (hb hby d6_32) rfl (feq hc21).2 (by decide) (by decide)) ?_
              show Go p e below _ s₁ (mkF m 38 #[.val (.int p1), .val (.int p2), .val (.int p3), .val (.int p4), .val (.int p5), .val (.int p6), .val (.int p7), .val (.int p8), .val (.int p9), .val (.int p10), .val (.int p11), .val (.int p12)] [])
              refine Go.to (fun _ => XS.iloadN X0.here hx rfl (hb hby d6_38) rfl) ?_
              show Go p e below _ s₁ (mkF m 39 #[.val (.int p1), .val (.int p2), .val (.int p3), .val (.int p4), .val (.int p5), .val (.int p6), .val (.int p7), .val (.int p8), .val (.int p9), .val (.int p10), .val (.int p11), .val (.int p12)] [(.int p3)])
              refine Go.to (fun _ => XS.iconst X0.here hx rfl (hb hby d6_39)) ?_
              show Go p e below _ s₁ (mkF m 40 #[.val (.int p1), .val (.int p2), .val (.int p3), .val (.int p4), .val (.int p5), .val (.int p6), .val (.int p7), .val (.int p8), .val (.int p9), .val (.int p10), .val (.int p11), .val (.int p12)] [(.int (2 : Int32)), (.int p3)])
              by_cases hc22 : (2 : Int32) < p3
              · refine Go.to (fun _ => XS.icmpYes X0.here hx rfl (pc0 := 40) (pc' := 58) rfl (hb hby d6_40) rfl (tlt hc22).2.2.1 (by decide) (by decide)) ?_
                show Go p e below _ s₁ (mkF m 58 #[.val (.int p1), .val (.int p2), .val (.int p3), .val (.int p4), .val (.int p5), .val (.int p6), .val (.int p7), .val (.int p8), .val (.int p9), .val (.int p10), .val (.int p11), .val (.int p12)] [])
                refine Go.to (fun _ => XS.iloadN X0.here hx rfl (hb hby d6_58) rfl) ?_
                show Go p e below _ s₁ (mkF m 59 #[.val (.int p1), .val (.int p2), .val (.int p3), .val (.int p4), .val (.int p5), .val (.int p6), .val (.int p7), .val (.int p8), .val (.int p9), .val (.int p10), .val (.int p11), .val (.int p12)] [(.int p2)])
                rw [hK]
                exact Go.retI X0 hx hlk hret (hb hby d6_59) ⟨by rw [fE]; rw [if_neg hc1]; rw [if_pos hc14]; rw [if_neg hc15]; rw [if_neg hc16]; rw [if_pos hc20]; rw [if_neg hc21]; rw [if_pos hc22], e0, rfl⟩ (by decide) (by decide)
              · refine Go.to (fun _ => XS.icmpNo X0.here hx rfl (hb hby d6_40) rfl (flt hc22).2.2.1) ?_
                show Go p e below _ s₁ (mkF m 43 #[.val (.int p1), .val (.int p2), .val (.int p3), .val (.int p4), .val (.int p5), .val (.int p6), .val (.int p7), .val (.int p8), .val (.int p9), .val (.int p10), .val (.int p11), .val (.int p12)] [])
                refine Go.to (fun _ => XS.iload X0.here hx rfl (hb hby d6_43) rfl) ?_
                show Go p e below _ s₁ (mkF m 45 #[.val (.int p1), .val (.int p2), .val (.int p3), .val (.int p4), .val (.int p5), .val (.int p6), .val (.int p7), .val (.int p8), .val (.int p9), .val (.int p10), .val (.int p11), .val (.int p12)] [(.int p10)])
                refine Go.to (fun _ => XS.iconst X0.here hx rfl (hb hby d6_45)) ?_
                show Go p e below _ s₁ (mkF m 46 #[.val (.int p1), .val (.int p2), .val (.int p3), .val (.int p4), .val (.int p5), .val (.int p6), .val (.int p7), .val (.int p8), .val (.int p9), .val (.int p10), .val (.int p11), .val (.int p12)] [(.int (1 : Int32)), (.int p10)])
                by_cases hc23 : p10 = (1 : Int32)
                · refine Go.to (fun _ => XS.icmpNo X0.here hx rfl (hb hby d6_46) rfl (teq hc23).2) ?_
                  show Go p e below _ s₁ (mkF m 49 #[.val (.int p1), .val (.int p2), .val (.int p3), .val (.int p4), .val (.int p5), .val (.int p6), .val (.int p7), .val (.int p8), .val (.int p9), .val (.int p10), .val (.int p11), .val (.int p12)] [])
                  refine Go.to (fun _ => XS.iload X0.here hx rfl (hb hby d6_49) rfl) ?_
                  show Go p e below _ s₁ (mkF m 51 #[.val (.int p1), .val (.int p2), .val (.int p3), .val (.int p4), .val (.int p5), .val (.int p6), .val (.int p7), .val (.int p8), .val (.int p9), .val (.int p10), .val (.int p11), .val (.int p12)] [(.int p11)])
                  refine Go.to (fun _ => XS.iloadN X0.here hx rfl (hb hby d6_51) rfl) ?_
                  show Go p e below _ s₁ (mkF m 52 #[.val (.int p1), .val (.int p2), .val (.int p3), .val (.int p4), .val (.int p5), .val (.int p6), .val (.int p7), .val (.int p8), .val (.int p9), .val (.int p10), .val (.int p11), .val (.int p12)] [(.int p1), (.int p11)])
                  by_cases hc24 : p11 = p1
                  · refine Go.to (fun _ => XS.icmpNo X0.here hx rfl (hb hby d6_52) rfl (teq hc24).2) ?_
                    show Go p e below _ s₁ (mkF m 55 #[.val (.int p1), .val (.int p2), .val (.int p3), .val (.int p4), .val (.int p5), .val (.int p6), .val (.int p7), .val (.int p8), .val (.int p9), .val (.int p10), .val (.int p11), .val (.int p12)] [])
                    refine Go.to (fun _ => XS.iload X0.here hx rfl (hb hby d6_55) rfl) ?_
                    show Go p e below _ s₁ (mkF m 57 #[.val (.int p1), .val (.int p2), .val (.int p3), .val (.int p4), .val (.int p5), .val (.int p6), .val (.int p7), .val (.int p8), .val (.int p9), .val (.int p10), .val (.int p11), .val (.int p12)] [(.int p12)])
                    rw [hK]
                    exact Go.retI X0 hx hlk hret (hb hby d6_57) ⟨by rw [fE]; rw [if_neg hc1]; rw [if_pos hc14]; rw [if_neg hc15]; rw [if_neg hc16]; rw [if_pos hc20]; rw [if_neg hc21]; rw [if_neg hc22]; rw [if_pos hc23]; rw [if_pos hc24], e0, rfl⟩ (by decide) (by decide)
                  · refine Go.to (fun _ => XS.icmpYes X0.here hx rfl (pc0 := 52) (pc' := 58) rfl (hb hby d6_52) rfl (feq hc24).2 (by decide) (by decide)) ?_
                    show Go p e below _ s₁ (mkF m 58 #[.val (.int p1), .val (.int p2), .val (.int p3), .val (.int p4), .val (.int p5), .val (.int p6), .val (.int p7), .val (.int p8), .val (.int p9), .val (.int p10), .val (.int p11), .val (.int p12)] [])
                    refine Go.to (fun _ => XS.iloadN X0.here hx rfl (hb hby d6_58) rfl) ?_
                    show Go p e below _ s₁ (mkF m 59 #[.val (.int p1), .val (.int p2), .val (.int p3), .val (.int p4), .val (.int p5), .val (.int p6), .val (.int p7), .val (.int p8), .val (.int p9), .val (.int p10), .val (.int p11), .val (.int p12)] [(.int p2)])
                    rw [hK]
                    exact Go.retI X0 hx hlk hret (hb hby d6_59) ⟨by rw [fE]; rw [if_neg hc1]; rw [if_pos hc14]; rw [if_neg hc15]; rw [if_neg hc16]; rw [if_pos hc20]; rw [if_neg hc21]; rw [if_neg hc22]; rw [if_pos hc23]; rw [if_neg hc24], e0, rfl⟩ (by decide) (by decide)
                · refine Go.to (fun _ => XS.icmpYes X0.here hx rfl (pc0 := 46) (pc' := 58) rfl (hb hby d6_46) rfl (feq hc23).2 (by decide) (by decide)) ?_
                  show Go p e below _ s₁ (mkF m 58 #[.val (.int p1), .val (.int p2), .val (.int p3), .val (.int p4), .val (.int p5), .val (.int p6), .val (.int p7), .val (.int p8), .val (.int p9), .val (.int p10), .val (.int p11), .val (.int p12)] [])
                  refine Go.to (fun _ => XS.iloadN X0.here hx rfl (hb hby d6_58) rfl) ?_
                  show Go p e below _ s₁ (mkF m 59 #[.val (.int p1), .val (.int p2), .val (.int p3), .val (.int p4), .val (.int p5), .val (.int p6), .val (.int p7), .val (.int p8), .val (.int p9), .val (.int p10), .val (.int p11), .val (.int p12)] [(.int p2)])
                  rw [hK]
                  exact Go.retI X0 hx hlk hret (hb hby d6_59) ⟨by rw [fE]; rw [if_neg hc1]; rw [if_pos hc14]; rw [if_neg hc15]; rw [if_neg hc16]; rw [if_pos hc20]; rw [if_neg hc21]; rw [if_neg hc22]; rw [if_neg hc23], e0, rfl⟩ (by decide) (by decide)
          · refine Go.to (fun _ => XS.icmpYes X0.here hx rfl (pc0 := 26) (pc' := 38) rfl (hb hby d6_26) rfl (feq hc20).2 (by decide) (by decide)) ?_
            show Go p e below _ s₁ (mkF m 38 #[.val (.int p1), .val (.int p2), .val (.int p3), .val (.int p4), .val (.int p5), .val (.int p6), .val (.int p7), .val (.int p8), .val (.int p9), .val (.int p10), .val (.int p11), .val (.int p12)] [])
            refine Go.to (fun _ => XS.iloadN X0.here hx rfl (hb hby d6_38) rfl) ?_
            show Go p e below _ s₁ (mkF m 39 #[.val (.int p1), .val (.int p2), .val (.int p3), .val (.int p4), .val (.int p5), .val (.int p6), .val (.int p7), .val (.int p8), .val (.int p9), .val (.int p10), .val (.int p11), .val (.int p12)] [(.int p3)])
            refine Go.to (fun _ => XS.iconst X0.here hx rfl (hb hby d6_39)) ?_
            show Go p e below _ s₁ (mkF m 40 #[.val (.int p1), .val (.int p2), .val (.int p3), .val (.int p4), .val (.int p5), .val (.int p6), .val (.int p7), .val (.int p8), .val (.int p9), .val (.int p10), .val (.int p11), .val (.int p12)] [(.int (2 : Int32)), (.int p3)])
            by_cases hc25 : (2 : Int32) < p3
            · refine Go.to (fun _ => XS.icmpYes X0.here hx rfl (pc0 := 40) (pc' := 58) rfl (hb hby d6_40) rfl (tlt hc25).2.2.1 (by decide) (by decide)) ?_
              show Go p e below _ s₁ (mkF m 58 #[.val (.int p1), .val (.int p2), .val (.int p3), .val (.int p4), .val (.int p5), .val (.int p6), .val (.int p7), .val (.int p8), .val (.int p9), .val (.int p10), .val (.int p11), .val (.int p12)] [])
              refine Go.to (fun _ => XS.iloadN X0.here hx rfl (hb hby d6_58) rfl) ?_
              show Go p e below _ s₁ (mkF m 59 #[.val (.int p1), .val (.int p2), .val (.int p3), .val (.int p4), .val (.int p5), .val (.int p6), .val (.int p7), .val (.int p8), .val (.int p9), .val (.int p10), .val (.int p11), .val (.int p12)] [(.int p2)])
              rw [hK]
              exact Go.retI X0 hx hlk hret (hb hby d6_59) ⟨by rw [fE]; rw [if_neg hc1]; rw [if_pos hc14]; rw [if_neg hc15]; rw [if_neg hc16]; rw [if_neg hc20]; rw [if_pos hc25], e0, rfl⟩ (by decide) (by decide)
            · refine Go.to (fun _ => XS.icmpNo X0.here hx rfl (hb hby d6_40) rfl (flt hc25).2.2.1) ?_
              show Go p e below _ s₁ (mkF m 43 #[.val (.int p1), .val (.int p2), .val (.int p3), .val (.int p4), .val (.int p5), .val (.int p6), .val (.int p7), .val (.int p8), .val (.int p9), .val (.int p10), .val (.int p11), .val (.int p12)] [])
              refine Go.to (fun _ => XS.iload X0.here hx rfl (hb hby d6_43) rfl) ?_
              show Go p e below _ s₁ (mkF m 45 #[.val (.int p1), .val (.int p2), .val (.int p3), .val (.int p4), .val (.int p5), .val (.int p6), .val (.int p7), .val (.int p8), .val (.int p9), .val (.int p10), .val (.int p11), .val (.int p12)] [(.int p10)])
              refine Go.to (fun _ => XS.iconst X0.here hx rfl (hb hby d6_45)) ?_
              show Go p e below _ s₁ (mkF m 46 #[.val (.int p1), .val (.int p2), .val (.int p3), .val (.int p4), .val (.int p5), .val (.int p6), .val (.int p7), .val (.int p8), .val (.int p9), .val (.int p10), .val (.int p11), .val (.int p12)] [(.int (1 : Int32)), (.int p10)])
              by_cases hc26 : p10 = (1 : Int32)
              · refine Go.to (fun _ => XS.icmpNo X0.here hx rfl (hb hby d6_46) rfl (teq hc26).2) ?_
                show Go p e below _ s₁ (mkF m 49 #[.val (.int p1), .val (.int p2), .val (.int p3), .val (.int p4), .val (.int p5), .val (.int p6), .val (.int p7), .val (.int p8), .val (.int p9), .val (.int p10), .val (.int p11), .val (.int p12)] [])
                refine Go.to (fun _ => XS.iload X0.here hx rfl (hb hby d6_49) rfl) ?_
                show Go p e below _ s₁ (mkF m 51 #[.val (.int p1), .val (.int p2), .val (.int p3), .val (.int p4), .val (.int p5), .val (.int p6), .val (.int p7), .val (.int p8), .val (.int p9), .val (.int p10), .val (.int p11), .val (.int p12)] [(.int p11)])
                refine Go.to (fun _ => XS.iloadN X0.here hx rfl (hb hby d6_51) rfl) ?_
                show Go p e below _ s₁ (mkF m 52 #[.val (.int p1), .val (.int p2), .val (.int p3), .val (.int p4), .val (.int p5), .val (.int p6), .val (.int p7), .val (.int p8), .val (.int p9), .val (.int p10), .val (.int p11), .val (.int p12)] [(.int p1), (.int p11)])
                by_cases hc27 : p11 = p1
                · refine Go.to (fun _ => XS.icmpNo X0.here hx rfl (hb hby d6_52) rfl (teq hc27).2) ?_
                  show Go p e below _ s₁ (mkF m 55 #[.val (.int p1), .val (.int p2), .val (.int p3), .val (.int p4), .val (.int p5), .val (.int p6), .val (.int p7), .val (.int p8), .val (.int p9), .val (.int p10), .val (.int p11), .val (.int p12)] [])
                  refine Go.to (fun _ => XS.iload X0.here hx rfl (hb hby d6_55) rfl) ?_
                  show Go p e below _ s₁ (mkF m 57 #[.val (.int p1), .val (.int p2), .val (.int p3), .val (.int p4), .val (.int p5), .val (.int p6), .val (.int p7), .val (.int p8), .val (.int p9), .val (.int p10), .val (.int p11), .val (.int p12)] [(.int p12)])
                  rw [hK]
                  exact Go.retI X0 hx hlk hret (hb hby d6_57) ⟨by rw [fE]; rw [if_neg hc1]; rw [if_pos hc14]; rw [if_neg hc15]; rw [if_neg hc16]; rw [if_neg hc20]; rw [if_neg hc25]; rw [if_pos hc26]; rw [if_pos hc27], e0, rfl⟩ (by decide) (by decide)
                · refine Go.to (fun _ => XS.icmpYes X0.here hx rfl (pc0 := 52) (pc' := 58) rfl (hb hby d6_52) rfl (feq hc27).2 (by decide) (by decide)) ?_
                  show Go p e below _ s₁ (mkF m 58 #[.val (.int p1), .val (.int p2), .val (.int p3), .val (.int p4), .val (.int p5), .val (.int p6), .val (.int p7), .val (.int p8), .val (.int p9), .val (.int p10), .val (.int p11), .val (.int p12)] [])
                  refine Go.to (fun _ => XS.iloadN X0.here hx rfl (hb hby d6_58) rfl) ?_
                  show Go p e below _ s₁ (mkF m 59 #[.val (.int p1), .val (.int p2), .val (.int p3), .val (.int p4), .val (.int p5), .val (.int p6), .val (.int p7), .val (.int p8), .val (.int p9), .val (.int p10), .val (.int p11), .val (.int p12)] [(.int p2)])
                  rw [hK]
                  exact Go.retI X0 hx hlk hret (hb hby d6_59) ⟨by rw [fE]; rw [if_neg hc1]; rw [if_pos hc14]; rw [if_neg hc15]; rw [if_neg hc16]; rw [if_neg hc20]; rw [if_neg hc25]; rw [if_pos hc26]; rw [if_neg hc27], e0, rfl⟩ (by decide) (by decide)
              · refine Go.to (fun _ => XS.icmpYes X0.here hx rfl (pc0 := 46) (pc' := 58) rfl (hb hby d6_46) rfl (feq hc26).2 (by decide) (by decide)) ?_
                show Go p e below _ s₁ (mkF m 58 #[.val (.int p1), .val (.int p2), .val (.int p3), .val (.int p4), .val (.int p5), .val (.int p6), .val (.int p7), .val (.int p8), .val (.int p9), .val (.int p10), .val (.int p11), .val (.int p12)] [])
                refine Go.to (fun _ => XS.iloadN X0.here hx rfl (hb hby d6_58) rfl) ?_
                show Go p e below _ s₁ (mkF m 59 #[.val (.int p1), .val (.int p2), .val (.int p3), .val (.int p4), .val (.int p5), .val (.int p6), .val (.int p7), .val (.int p8), .val (.int p9), .val (.int p10), .val (.int p11), .val (.int p12)] [(.int p2)])
                rw [hK]
                exact Go.retI X0 hx hlk hret (hb hby d6_59) ⟨by rw [fE]; rw [if_neg hc1]; rw [if_pos hc14]; rw [if_neg hc15]; rw [if_neg hc16]; rw [if_neg hc20]; rw [if_neg hc25]; rw [if_neg hc26], e0, rfl⟩ (by decide) (by decide)
    · refine Go.to (fun _ => XS.icmpYes X0.here hx rfl (pc0 := 6) (pc' := 18) rfl (hb hby d6_6) rfl (feq hc14).2 (by decide) (by decide)) ?_
      show Go p e below _ s₁ (mkF m 18 #[.val (.int p1), .val (.int p2), .val (.int p3), .val (.int p4), .val (.int p5), .val (.int p6), .val (.int p7), .val (.int p8), .val (.int p9), .val (.int p10), .val (.int p11), .val (.int p12)] [])
      refine Go.to (fun _ => XS.iloadN X0.here hx rfl (hb hby d6_18) rfl) ?_
      show Go p e below _ s₁ (mkF m 19 #[.val (.int p1), .val (.int p2), .val (.int p3), .val (.int p4), .val (.int p5), .val (.int p6), .val (.int p7), .val (.int p8), .val (.int p9), .val (.int p10), .val (.int p11), .val (.int p12)] [(.int p3)])
      refine Go.to (fun _ => XS.iconst X0.here hx rfl (hb hby d6_19)) ?_
      show Go p e below _ s₁ (mkF m 20 #[.val (.int p1), .val (.int p2), .val (.int p3), .val (.int p4), .val (.int p5), .val (.int p6), .val (.int p7), .val (.int p8), .val (.int p9), .val (.int p10), .val (.int p11), .val (.int p12)] [(.int (1 : Int32)), (.int p3)])
      by_cases hc28 : (1 : Int32) < p3
      · refine Go.to (fun _ => XS.icmpYes X0.here hx rfl (pc0 := 20) (pc' := 38) rfl (hb hby d6_20) rfl (tlt hc28).2.2.1 (by decide) (by decide)) ?_
        show Go p e below _ s₁ (mkF m 38 #[.val (.int p1), .val (.int p2), .val (.int p3), .val (.int p4), .val (.int p5), .val (.int p6), .val (.int p7), .val (.int p8), .val (.int p9), .val (.int p10), .val (.int p11), .val (.int p12)] [])
        refine Go.to (fun _ => XS.iloadN X0.here hx rfl (hb hby d6_38) rfl) ?_
        show Go p e below _ s₁ (mkF m 39 #[.val (.int p1), .val (.int p2), .val (.int p3), .val (.int p4), .val (.int p5), .val (.int p6), .val (.int p7), .val (.int p8), .val (.int p9), .val (.int p10), .val (.int p11), .val (.int p12)] [(.int p3)])
        refine Go.to (fun _ => XS.iconst X0.here hx rfl (hb hby d6_39)) ?_
        show Go p e below _ s₁ (mkF m 40 #[.val (.int p1), .val (.int p2), .val (.int p3), .val (.int p4), .val (.int p5), .val (.int p6), .val (.int p7), .val (.int p8), .val (.int p9), .val (.int p10), .val (.int p11), .val (.int p12)] [(.int (2 : Int32)), (.int p3)])
        by_cases hc29 : (2 : Int32) < p3
        · refine Go.to (fun _ => XS.icmpYes X0.here hx rfl (pc0 := 40) (pc' := 58) rfl (hb hby d6_40) rfl (tlt hc29).2.2.1 (by decide) (by decide)) ?_
          show Go p e below _ s₁ (mkF m 58 #[.val (.int p1), .val (.int p2), .val (.int p3), .val (.int p4), .val (.int p5), .val (.int p6), .val (.int p7), .val (.int p8), .val (.int p9), .val (.int p10), .val (.int p11), .val (.int p12)] [])
          refine Go.to (fun _ => XS.iloadN X0.here hx rfl (hb hby d6_58) rfl) ?_
          show Go p e below _ s₁ (mkF m 59 #[.val (.int p1), .val (.int p2), .val (.int p3), .val (.int p4), .val (.int p5), .val (.int p6), .val (.int p7), .val (.int p8), .val (.int p9), .val (.int p10), .val (.int p11), .val (.int p12)] [(.int p2)])
          rw [hK]
          exact Go.retI X0 hx hlk hret (hb hby d6_59) ⟨by rw [fE]; rw [if_neg hc1]; rw [if_neg hc14]; rw [if_pos hc28]; rw [if_pos hc29], e0, rfl⟩ (by decide) (by decide)
        · refine Go.to (fun _ => XS.icmpNo X0.here hx rfl (hb hby d6_40) rfl (flt hc29).2.2.1) ?_
          show Go p e below _ s₁ (mkF m 43 #[.val (.int p1), .val (.int p2), .val (.int p3), .val (.int p4), .val (.int p5), .val (.int p6), .val (.int p7), .val (.int p8), .val (.int p9), .val (.int p10), .val (.int p11), .val (.int p12)] [])
          refine Go.to (fun _ => XS.iload X0.here hx rfl (hb hby d6_43) rfl) ?_
          show Go p e below _ s₁ (mkF m 45 #[.val (.int p1), .val (.int p2), .val (.int p3), .val (.int p4), .val (.int p5), .val (.int p6), .val (.int p7), .val (.int p8), .val (.int p9), .val (.int p10), .val (.int p11), .val (.int p12)] [(.int p10)])
          refine Go.to (fun _ => XS.iconst X0.here hx rfl (hb hby d6_45)) ?_
          show Go p e below _ s₁ (mkF m 46 #[.val (.int p1), .val (.int p2), .val (.int p3), .val (.int p4), .val (.int p5), .val (.int p6), .val (.int p7), .val (.int p8), .val (.int p9), .val (.int p10), .val (.int p11), .val (.int p12)] [(.int (1 : Int32)), (.int p10)])
          by_cases hc30 : p10 = (1 : Int32)
          · refine Go.to (fun _ => XS.icmpNo X0.here hx rfl (hb hby d6_46) rfl (teq hc30).2) ?_
            show Go p e below _ s₁ (mkF m 49 #[.val (.int p1), .val (.int p2), .val (.int p3), .val (.int p4), .val (.int p5), .val (.int p6), .val (.int p7), .val (.int p8), .val (.int p9), .val (.int p10), .val (.int p11), .val (.int p12)] [])
            refine Go.to (fun _ => XS.iload X0.here hx rfl (hb hby d6_49) rfl) ?_
            show Go p e below _ s₁ (mkF m 51 #[.val (.int p1), .val (.int p2), .val (.int p3), .val (.int p4), .val (.int p5), .val (.int p6), .val (.int p7), .val (.int p8), .val (.int p9), .val (.int p10), .val (.int p11), .val (.int p12)] [(.int p11)])
            refine Go.to (fun _ => XS.iloadN X0.here hx rfl (hb hby d6_51) rfl) ?_
            show Go p e below _ s₁ (mkF m 52 #[.val (.int p1), .val (.int p2), .val (.int p3), .val (.int p4), .val (.int p5), .val (.int p6), .val (.int p7), .val (.int p8), .val (.int p9), .val (.int p10), .val (.int p11), .val (.int p12)] [(.int p1), (.int p11)])
            by_cases hc31 : p11 = p1
            · refine Go.to (fun _ => XS.icmpNo X0.here hx rfl (hb hby d6_52) rfl (teq hc31).2) ?_
              show Go p e below _ s₁ (mkF m 55 #[.val (.int p1), .val (.int p2), .val (.int p3), .val (.int p4), .val (.int p5), .val (.int p6), .val (.int p7), .val (.int p8), .val (.int p9), .val (.int p10), .val (.int p11), .val (.int p12)] [])
              refine Go.to (fun _ => XS.iload X0.here hx rfl (hb hby d6_55) rfl) ?_
              show Go p e below _ s₁ (mkF m 57 #[.val (.int p1), .val (.int p2), .val (.int p3), .val (.int p4), .val (.int p5), .val (.int p6), .val (.int p7), .val (.int p8), .val (.int p9), .val (.int p10), .val (.int p11), .val (.int p12)] [(.int p12)])
              rw [hK]
              exact Go.retI X0 hx hlk hret (hb hby d6_57) ⟨by rw [fE]; rw [if_neg hc1]; rw [if_neg hc14]; rw [if_pos hc28]; rw [if_neg hc29]; rw [if_pos hc30]; rw [if_pos hc31], e0, rfl⟩ (by decide) (by decide)
            · refine Go.to (fun _ => XS.icmpYes X0.here hx rfl (pc0 := 52) (pc' := 58) rfl (hb hby d6_52) rfl (feq hc31).2 (by decide) (by decide)) ?_
              show Go p e below _ s₁ (mkF m 58 #[.val (.int p1), .val (.int p2), .val (.int p3), .val (.int p4), .val (.int p5), .val (.int p6), .val (.int p7), .val (.int p8), .val (.int p9), .val (.int p10), .val (.int p11), .val (.int p12)] [])
              refine Go.to (fun _ => XS.iloadN X0.here hx rfl (hb hby d6_58) rfl) ?_
              show Go p e below _ s₁ (mkF m 59 #[.val (.int p1), .val (.int p2), .val (.int p3), .val (.int p4), .val (.int p5), .val (.int p6), .val (.int p7), .val (.int p8), .val (.int p9), .val (.int p10), .val (.int p11), .val (.int p12)] [(.int p2)])
              rw [hK]
              exact Go.retI X0 hx hlk hret (hb hby d6_59) ⟨by rw [fE]; rw [if_neg hc1]; rw [if_neg hc14]; rw [if_pos hc28]; rw [if_neg hc29]; rw [if_pos hc30]; rw [if_neg hc31], e0, rfl⟩ (by decide) (by decide)
          · refine Go.to (fun _ => XS.icmpYes X0.here hx rfl (pc0 := 46) (pc' := 58) rfl (hb hby d6_46) rfl (feq hc30).2 (by decide) (by decide)) ?_
            show Go p e below _ s₁ (mkF m 58 #[.val (.int p1), .val (.int p2), .val (.int p3), .val (.int p4), .val (.int p5), .val (.int p6), .val (.int p7), .val (.int p8), .val (.int p9), .val (.int p10), .val (.int p11), .val (.int p12)] [])
            refine Go.to (fun _ => XS.iloadN X0.here hx rfl (hb hby d6_58) rfl) ?_
            show Go p e below _ s₁ (mkF m 59 #[.val (.int p1), .val (.int p2), .val (.int p3), .val (.int p4), .val (.int p5), .val (.int p6), .val (.int p7), .val (.int p8), .val (.int p9), .val (.int p10), .val (.int p11), .val (.int p12)] [(.int p2)])
            rw [hK]
            exact Go.retI X0 hx hlk hret (hb hby d6_59) ⟨by rw [fE]; rw [if_neg hc1]; rw [if_neg hc14]; rw [if_pos hc28]; rw [if_neg hc29]; rw [if_neg hc30], e0, rfl⟩ (by decide) (by decide)
      · refine Go.to (fun _ => XS.icmpNo X0.here hx rfl (hb hby d6_20) rfl (flt hc28).2.2.1) ?_
        show Go p e below _ s₁ (mkF m 23 #[.val (.int p1), .val (.int p2), .val (.int p3), .val (.int p4), .val (.int p5), .val (.int p6), .val (.int p7), .val (.int p8), .val (.int p9), .val (.int p10), .val (.int p11), .val (.int p12)] [])
        refine Go.to (fun _ => XS.iload X0.here hx rfl (hb hby d6_23) rfl) ?_
        show Go p e below _ s₁ (mkF m 25 #[.val (.int p1), .val (.int p2), .val (.int p3), .val (.int p4), .val (.int p5), .val (.int p6), .val (.int p7), .val (.int p8), .val (.int p9), .val (.int p10), .val (.int p11), .val (.int p12)] [(.int p7)])
        refine Go.to (fun _ => XS.iconst X0.here hx rfl (hb hby d6_25)) ?_
        show Go p e below _ s₁ (mkF m 26 #[.val (.int p1), .val (.int p2), .val (.int p3), .val (.int p4), .val (.int p5), .val (.int p6), .val (.int p7), .val (.int p8), .val (.int p9), .val (.int p10), .val (.int p11), .val (.int p12)] [(.int (1 : Int32)), (.int p7)])
        by_cases hc32 : p7 = (1 : Int32)
        · refine Go.to (fun _ => XS.icmpNo X0.here hx rfl (hb hby d6_26) rfl (teq hc32).2) ?_
          show Go p e below _ s₁ (mkF m 29 #[.val (.int p1), .val (.int p2), .val (.int p3), .val (.int p4), .val (.int p5), .val (.int p6), .val (.int p7), .val (.int p8), .val (.int p9), .val (.int p10), .val (.int p11), .val (.int p12)] [])
          refine Go.to (fun _ => XS.iload X0.here hx rfl (hb hby d6_29) rfl) ?_
          show Go p e below _ s₁ (mkF m 31 #[.val (.int p1), .val (.int p2), .val (.int p3), .val (.int p4), .val (.int p5), .val (.int p6), .val (.int p7), .val (.int p8), .val (.int p9), .val (.int p10), .val (.int p11), .val (.int p12)] [(.int p8)])
          refine Go.to (fun _ => XS.iloadN X0.here hx rfl (hb hby d6_31) rfl) ?_
          show Go p e below _ s₁ (mkF m 32 #[.val (.int p1), .val (.int p2), .val (.int p3), .val (.int p4), .val (.int p5), .val (.int p6), .val (.int p7), .val (.int p8), .val (.int p9), .val (.int p10), .val (.int p11), .val (.int p12)] [(.int p1), (.int p8)])
          by_cases hc33 : p8 = p1
          · refine Go.to (fun _ => XS.icmpNo X0.here hx rfl (hb hby d6_32) rfl (teq hc33).2) ?_
            show Go p e below _ s₁ (mkF m 35 #[.val (.int p1), .val (.int p2), .val (.int p3), .val (.int p4), .val (.int p5), .val (.int p6), .val (.int p7), .val (.int p8), .val (.int p9), .val (.int p10), .val (.int p11), .val (.int p12)] [])
            refine Go.to (fun _ => XS.iload X0.here hx rfl (hb hby d6_35) rfl) ?_
            show Go p e below _ s₁ (mkF m 37 #[.val (.int p1), .val (.int p2), .val (.int p3), .val (.int p4), .val (.int p5), .val (.int p6), .val (.int p7), .val (.int p8), .val (.int p9), .val (.int p10), .val (.int p11), .val (.int p12)] [(.int p9)])
            rw [hK]
            exact Go.retI X0 hx hlk hret (hb hby d6_37) ⟨by rw [fE]; rw [if_neg hc1]; rw [if_neg hc14]; rw [if_neg hc28]; rw [if_pos hc32]; rw [if_pos hc33], e0, rfl⟩ (by decide) (by decide)
          · refine Go.to (fun _ => XS.icmpYes X0.here hx rfl (pc0 := 32) (pc' := 38) rfl (hb hby d6_32) rfl (feq hc33).2 (by decide) (by decide)) ?_
            show Go p e below _ s₁ (mkF m 38 #[.val (.int p1), .val (.int p2), .val (.int p3), .val (.int p4), .val (.int p5), .val (.int p6), .val (.int p7), .val (.int p8), .val (.int p9), .val (.int p10), .val (.int p11), .val (.int p12)] [])
            refine Go.to (fun _ => XS.iloadN X0.here hx rfl (hb hby d6_38) rfl) ?_
            show Go p e below _ s₁ (mkF m 39 #[.val (.int p1), .val (.int p2), .val (.int p3), .val (.int p4), .val (.int p5), .val (.int p6), .val (.int p7), .val (.int p8), .val (.int p9), .val (.int p10), .val (.int p11), .val (.int p12)] [(.int p3)])
            refine Go.to (fun _ => XS.iconst X0.here hx rfl (hb hby d6_39)) ?_
            show Go p e below _ s₁ (mkF m 40 #[.val (.int p1), .val (.int p2), .val (.int p3), .val (.int p4), .val (.int p5), .val (.int p6), .val (.int p7), .val (.int p8), .val (.int p9), .val (.int p10), .val (.int p11), .val (.int p12)] [(.int (2 : Int32)), (.int p3)])
            by_cases hc34 : (2 : Int32) < p3
            · refine Go.to (fun _ => XS.icmpYes X0.here hx rfl (pc0 := 40) (pc' := 58) rfl (hb hby d6_40) rfl (tlt hc34).2.2.1 (by decide) (by decide)) ?_
              show Go p e below _ s₁ (mkF m 58 #[.val (.int p1), .val (.int p2), .val (.int p3), .val (.int p4), .val (.int p5), .val (.int p6), .val (.int p7), .val (.int p8), .val (.int p9), .val (.int p10), .val (.int p11), .val (.int p12)] [])
              refine Go.to (fun _ => XS.iloadN X0.here hx rfl (hb hby d6_58) rfl) ?_
              show Go p e below _ s₁ (mkF m 59 #[.val (.int p1), .val (.int p2), .val (.int p3), .val (.int p4), .val (.int p5), .val (.int p6), .val (.int p7), .val (.int p8), .val (.int p9), .val (.int p10), .val (.int p11), .val (.int p12)] [(.int p2)])
              rw [hK]
              exact Go.retI X0 hx hlk hret (hb hby d6_59) ⟨by rw [fE]; rw [if_neg hc1]; rw [if_neg hc14]; rw [if_neg hc28]; rw [if_pos hc32]; rw [if_neg hc33]; rw [if_pos hc34], e0, rfl⟩ (by decide) (by decide)
            · refine Go.to (fun _ => XS.icmpNo X0.here hx rfl (hb hby d6_40) rfl (flt hc34).2.2.1) ?_
              show Go p e below _ s₁ (mkF m 43 #[.val (.int p1), .val (.int p2), .val (.int p3), .val (.int p4), .val (.int p5), .val (.int p6), .val (.int p7), .val (.int p8), .val (.int p9), .val (.int p10), .val (.int p11), .val (.int p12)] [])
              refine Go.to (fun _ => XS.iload X0.here hx rfl (hb hby d6_43) rfl) ?_
              show Go p e below _ s₁ (mkF m 45 #[.val (.int p1), .val (.int p2), .val (.int p3), .val (.int p4), .val (.int p5), .val (.int p6), .val (.int p7), .val (.int p8), .val (.int p9), .val (.int p10), .val (.int p11), .val (.int p12)] [(.int p10)])
              refine Go.to (fun _ => XS.iconst X0.here hx rfl (hb hby d6_45)) ?_
              show Go p e below _ s₁ (mkF m 46 #[.val (.int p1), .val (.int p2), .val (.int p3), .val (.int p4), .val (.int p5), .val (.int p6), .val (.int p7), .val (.int p8), .val (.int p9), .val (.int p10), .val (.int p11), .val (.int p12)] [(.int (1 : Int32)), (.int p10)])
              by_cases hc35 : p10 = (1 : Int32)
              · refine Go.to (fun _ => XS.icmpNo X0.here hx rfl (hb hby d6_46) rfl (teq hc35).2) ?_
                show Go p e below _ s₁ (mkF m 49 #[.val (.int p1), .val (.int p2), .val (.int p3), .val (.int p4), .val (.int p5), .val (.int p6), .val (.int p7), .val (.int p8), .val (.int p9), .val (.int p10), .val (.int p11), .val (.int p12)] [])
                refine Go.to (fun _ => XS.iload X0.here hx rfl (hb hby d6_49) rfl) ?_
                show Go p e below _ s₁ (mkF m 51 #[.val (.int p1), .val (.int p2), .val (.int p3), .val (.int p4), .val (.int p5), .val (.int p6), .val (.int p7), .val (.int p8), .val (.int p9), .val (.int p10), .val (.int p11), .val (.int p12)] [(.int p11)])
                refine Go.to (fun _ => XS.iloadN X0.here hx rfl (hb hby d6_51) rfl) ?_
                show Go p e below _ s₁ (mkF m 52 #[.val (.int p1), .val (.int p2), .val (.int p3), .val (.int p4), .val (.int p5), .val (.int p6), .val (.int p7), .val (.int p8), .val (.int p9), .val (.int p10), .val (.int p11), .val (.int p12)] [(.int p1), (.int p11)])
                by_cases hc36 : p11 = p1
                · refine Go.to (fun _ => XS.icmpNo X0.here hx rfl (hb hby d6_52) rfl (teq hc36).2) ?_
                  show Go p e below _ s₁ (mkF m 55 #[.val (.int p1), .val (.int p2), .val (.int p3), .val (.int p4), .val (.int p5), .val (.int p6), .val (.int p7), .val (.int p8), .val (.int p9), .val (.int p10), .val (.int p11), .val (.int p12)] [])
                  refine Go.to (fun _ => XS.iload X0.here hx rfl (hb hby d6_55) rfl) ?_
                  show Go p e below _ s₁ (mkF m 57 #[.val (.int p1), .val (.int p2), .val (.int p3), .val (.int p4), .val (.int p5), .val (.int p6), .val (.int p7), .val (.int p8), .val (.int p9), .val (.int p10), .val (.int p11), .val (.int p12)] [(.int p12)])
                  rw [hK]
                  exact Go.retI X0 hx hlk hret (hb hby d6_57) ⟨by rw [fE]; rw [if_neg hc1]; rw [if_neg hc14]; rw [if_neg hc28]; rw [if_pos hc32]; rw [if_neg hc33]; rw [if_neg hc34]; rw [if_pos hc35]; rw [if_pos hc36], e0, rfl⟩ (by decide) (by decide)
                · refine Go.to (fun _ => XS.icmpYes X0.here hx rfl (pc0 := 52) (pc' := 58) rfl (hb hby d6_52) rfl (feq hc36).2 (by decide) (by decide)) ?_
                  show Go p e below _ s₁ (mkF m 58 #[.val (.int p1), .val (.int p2), .val (.int p3), .val (.int p4), .val (.int p5), .val (.int p6), .val (.int p7), .val (.int p8), .val (.int p9), .val (.int p10), .val (.int p11), .val (.int p12)] [])
                  refine Go.to (fun _ => XS.iloadN X0.here hx rfl (hb hby d6_58) rfl) ?_
                  show Go p e below _ s₁ (mkF m 59 #[.val (.int p1), .val (.int p2), .val (.int p3), .val (.int p4), .val (.int p5), .val (.int p6), .val (.int p7), .val (.int p8), .val (.int p9), .val (.int p10), .val (.int p11), .val (.int p12)] [(.int p2)])
                  rw [hK]
                  exact Go.retI X0 hx hlk hret (hb hby d6_59) ⟨by rw [fE]; rw [if_neg hc1]; rw [if_neg hc14]; rw [if_neg hc28]; rw [if_pos hc32]; rw [if_neg hc33]; rw [if_neg hc34]; rw [if_pos hc35]; rw [if_neg hc36], e0, rfl⟩ (by decide) (by decide)
              · refine Go.to (fun _ => XS.icmpYes X0.here hx rfl (pc0 := 46) (pc' := 58) rfl (hb hby d6_46) rfl (feq hc35).2 (by decide) (by decide)) ?_
                show Go p e below _ s₁ (mkF m 58 #[.val (.int p1), .val (.int p2), .val (.int p3), .val (.int p4), .val (.int p5), .val (.int p6), .val (.int p7), .val (.int p8), .val (.int p9), .val (.int p10), .val (.int p11), .val (.int p12)] [])
                refine Go.to (fun _ => XS.iloadN X0.here hx rfl (hb hby d6_58) rfl) ?_
                show Go p e below _ s₁ (mkF m 59 #[.val (.int p1), .val (.int p2), .val (.int p3), .val (.int p4), .val (.int p5), .val (.int p6), .val (.int p7), .val (.int p8), .val (.int p9), .val (.int p10), .val (.int p11), .val (.int p12)] [(.int p2)])
                rw [hK]
                exact Go.retI X0 hx hlk hret (hb hby d6_59) ⟨by rw [fE]; rw [if_neg hc1]; rw [if_neg hc14]; rw [if_neg hc28]; rw [if_pos hc32]; rw [if_neg hc33]; rw [if_neg hc34]; rw [if_neg hc35], e0, rfl⟩ (by decide) (by decide)
        · refine Go.to (fun _ => XS.icmpYes X0.here hx rfl (pc0 := 26) (pc' := 38) rfl (hb hby d6_26) rfl (feq hc32).2 (by decide) (by decide)) ?_
          show Go p e below _ s₁ (mkF m 38 #[.val (.int p1), .val (.int p2), .val (.int p3), .val (.int p4), .val (.int p5), .val (.int p6), .val (.int p7), .val (.int p8), .val (.int p9), .val (.int p10), .val (.int p11), .val (.int p12)] [])
          refine Go.to (fun _ => XS.iloadN X0.here hx rfl (hb hby d6_38) rfl) ?_
          show Go p e below _ s₁ (mkF m 39 #[.val (.int p1), .val (.int p2), .val (.int p3), .val (.int p4), .val (.int p5), .val (.int p6), .val (.int p7), .val (.int p8), .val (.int p9), .val (.int p10), .val (.int p11), .val (.int p12)] [(.int p3)])
          refine Go.to (fun _ => XS.iconst X0.here hx rfl (hb hby d6_39)) ?_
          show Go p e below _ s₁ (mkF m 40 #[.val (.int p1), .val (.int p2), .val (.int p3), .val (.int p4), .val (.int p5), .val (.int p6), .val (.int p7), .val (.int p8), .val (.int p9), .val (.int p10), .val (.int p11), .val (.int p12)] [(.int (2 : Int32)), (.int p3)])
          by_cases hc37 : (2 : Int32) < p3
          · refine Go.to (fun _ => XS.icmpYes X0.here hx rfl (pc0 := 40) (pc' := 58) rfl (hb hby d6_40) rfl (tlt hc37).2.2.1 (by decide) (by decide)) ?_
            show Go p e below _ s₁ (mkF m 58 #[.val (.int p1), .val (.int p2), .val (.int p3), .val (.int p4), .val (.int p5), .val (.int p6), .val (.int p7), .val (.int p8), .val (.int p9), .val (.int p10), .val (.int p11), .val (.int p12)] [])
            refine Go.to (fun _ => XS.iloadN X0.here hx rfl (hb hby d6_58) rfl) ?_
            show Go p e below _ s₁ (mkF m 59 #[.val (.int p1), .val (.int p2), .val (.int p3), .val (.int p4), .val (.int p5), .val (.int p6), .val (.int p7), .val (.int p8), .val (.int p9), .val (.int p10), .val (.int p11), .val (.int p12)] [(.int p2)])
            rw [hK]
            exact Go.retI X0 hx hlk hret (hb hby d6_59) ⟨by rw [fE]; rw [if_neg hc1]; rw [if_neg hc14]; rw [if_neg hc28]; rw [if_neg hc32]; rw [if_pos hc37], e0, rfl⟩ (by decide) (by decide)
          · refine Go.to (fun _ => XS.icmpNo X0.here hx rfl (hb hby d6_40) rfl (flt hc37).2.2.1) ?_
            show Go p e below _ s₁ (mkF m 43 #[.val (.int p1), .val (.int p2), .val (.int p3), .val (.int p4), .val (.int p5), .val (.int p6), .val (.int p7), .val (.int p8), .val (.int p9), .val (.int p10), .val (.int p11), .val (.int p12)] [])
            refine Go.to (fun _ => XS.iload X0.here hx rfl (hb hby d6_43) rfl) ?_
            show Go p e below _ s₁ (mkF m 45 #[.val (.int p1), .val (.int p2), .val (.int p3), .val (.int p4), .val (.int p5), .val (.int p6), .val (.int p7), .val (.int p8), .val (.int p9), .val (.int p10), .val (.int p11), .val (.int p12)] [(.int p10)])
            refine Go.to (fun _ => XS.iconst X0.here hx rfl (hb hby d6_45)) ?_
            show Go p e below _ s₁ (mkF m 46 #[.val (.int p1), .val (.int p2), .val (.int p3), .val (.int p4), .val (.int p5), .val (.int p6), .val (.int p7), .val (.int p8), .val (.int p9), .val (.int p10), .val (.int p11), .val (.int p12)] [(.int (1 : Int32)), (.int p10)])
            by_cases hc38 : p10 = (1 : Int32)
            · refine Go.to (fun _ => XS.icmpNo X0.here hx rfl (hb hby d6_46) rfl (teq hc38).2) ?_
              show Go p e below _ s₁ (mkF m 49 #[.val (.int p1), .val (.int p2), .val (.int p3), .val (.int p4), .val (.int p5), .val (.int p6), .val (.int p7), .val (.int p8), .val (.int p9), .val (.int p10), .val (.int p11), .val (.int p12)] [])
              refine Go.to (fun _ => XS.iload X0.here hx rfl (hb hby d6_49) rfl) ?_
              show Go p e below _ s₁ (mkF m 51 #[.val (.int p1), .val (.int p2), .val (.int p3), .val (.int p4), .val (.int p5), .val (.int p6), .val (.int p7), .val (.int p8), .val (.int p9), .val (.int p10), .val (.int p11), .val (.int p12)] [(.int p11)])
              refine Go.to (fun _ => XS.iloadN X0.here hx rfl (hb hby d6_51) rfl) ?_
              show Go p e below _ s₁ (mkF m 52 #[.val (.int p1), .val (.int p2), .val (.int p3), .val (.int p4), .val (.int p5), .val (.int p6), .val (.int p7), .val (.int p8), .val (.int p9), .val (.int p10), .val (.int p11), .val (.int p12)] [(.int p1), (.int p11)])
              by_cases hc39 : p11 = p1
              · refine Go.to (fun _ => XS.icmpNo X0.here hx rfl (hb hby d6_52) rfl (teq hc39).2) ?_
                show Go p e below _ s₁ (mkF m 55 #[.val (.int p1), .val (.int p2), .val (.int p3), .val (.int p4), .val (.int p5), .val (.int p6), .val (.int p7), .val (.int p8), .val (.int p9), .val (.int p10), .val (.int p11), .val (.int p12)] [])
                refine Go.to (fun _ => XS.iload X0.here hx rfl (hb hby d6_55) rfl) ?_
                show Go p e below _ s₁ (mkF m 57 #[.val (.int p1), .val (.int p2), .val (.int p3), .val (.int p4), .val (.int p5), .val (.int p6), .val (.int p7), .val (.int p8), .val (.int p9), .val (.int p10), .val (.int p11), .val (.int p12)] [(.int p12)])
                rw [hK]
                exact Go.retI X0 hx hlk hret (hb hby d6_57) ⟨by rw [fE]; rw [if_neg hc1]; rw [if_neg hc14]; rw [if_neg hc28]; rw [if_neg hc32]; rw [if_neg hc37]; rw [if_pos hc38]; rw [if_pos hc39], e0, rfl⟩ (by decide) (by decide)
              · refine Go.to (fun _ => XS.icmpYes X0.here hx rfl (pc0 := 52) (pc' := 58) rfl (hb hby d6_52) rfl (feq hc39).2 (by decide) (by decide)) ?_
                show Go p e below _ s₁ (mkF m 58 #[.val (.int p1), .val (.int p2), .val (.int p3), .val (.int p4), .val (.int p5), .val (.int p6), .val (.int p7), .val (.int p8), .val (.int p9), .val (.int p10), .val (.int p11), .val (.int p12)] [])
                refine Go.to (fun _ => XS.iloadN X0.here hx rfl (hb hby d6_58) rfl) ?_
                show Go p e below _ s₁ (mkF m 59 #[.val (.int p1), .val (.int p2), .val (.int p3), .val (.int p4), .val (.int p5), .val (.int p6), .val (.int p7), .val (.int p8), .val (.int p9), .val (.int p10), .val (.int p11), .val (.int p12)] [(.int p2)])
                rw [hK]
                exact Go.retI X0 hx hlk hret (hb hby d6_59) ⟨by rw [fE]; rw [if_neg hc1]; rw [if_neg hc14]; rw [if_neg hc28]; rw [if_neg hc32]; rw [if_neg hc37]; rw [if_pos hc38]; rw [if_neg hc39], e0, rfl⟩ (by decide) (by decide)
            · refine Go.to (fun _ => XS.icmpYes X0.here hx rfl (pc0 := 46) (pc' := 58) rfl (hb hby d6_46) rfl (feq hc38).2 (by decide) (by decide)) ?_
              show Go p e below _ s₁ (mkF m 58 #[.val (.int p1), .val (.int p2), .val (.int p3), .val (.int p4), .val (.int p5), .val (.int p6), .val (.int p7), .val (.int p8), .val (.int p9), .val (.int p10), .val (.int p11), .val (.int p12)] [])
              refine Go.to (fun _ => XS.iloadN X0.here hx rfl (hb hby d6_58) rfl) ?_
              show Go p e below _ s₁ (mkF m 59 #[.val (.int p1), .val (.int p2), .val (.int p3), .val (.int p4), .val (.int p5), .val (.int p6), .val (.int p7), .val (.int p8), .val (.int p9), .val (.int p10), .val (.int p11), .val (.int p12)] [(.int p2)])
              rw [hK]
              exact Go.retI X0 hx hlk hret (hb hby d6_59) ⟨by rw [fE]; rw [if_neg hc1]; rw [if_neg hc14]; rw [if_neg hc28]; rw [if_neg hc32]; rw [if_neg hc37]; rw [if_neg hc38], e0, rfl⟩ (by decide) (by decide)
def fM (p1 : Int32) (p2 : Int32) : Int32 := (if p2 < p1 then p2 else p1)
theorem d7_0 : decode jdk_29_method_69_code 0 = .ok (.iload_n 0, 1) := by decide +kernel
theorem d7_1 : decode jdk_29_method_69_code 1 = .ok (.iload_n 1, 1) := by decide +kernel
theorem d7_2 : decode jdk_29_method_69_code 2 = .ok (.if_icmp .gt 7, 3) := by decide +kernel
theorem d7_5 : decode jdk_29_method_69_code 5 = .ok (.iload_n 0, 1) := by decide +kernel
theorem d7_6 : decode jdk_29_method_69_code 6 = .ok (.goto 4, 3) := by decide +kernel
theorem d7_9 : decode jdk_29_method_69_code 9 = .ok (.iload_n 1, 1) := by decide +kernel
theorem d7_10 : decode jdk_29_method_69_code 10 = .ok (.ireturn, 1) := by decide +kernel
theorem ef_rm7 (m : MethodId) (p1 : Int32) (p2 : Int32) : entryFrame m #[(.int p1), (.int p2)] 2 = mkF m 0 #[.val (.int p1), .val (.int p2)] [] := by first | (simp [entryFrame, mkF, argsToLocals, Value.category]; done) | rfl
set_option maxHeartbeats 40000000 in
theorem rm7 (l : Launch) (Z : State) (a0 : Array Value) (hw : ∀ d ∈ tables_1, d.before a0 Z = true) (ws : List Jvm.Cond) (p1 : Int32) (p2 : Int32) (h0 : Heap)  :
    Met1 l Z (⟨"java/lang/Math", "min", "(II)I"⟩ : MethodName) jdk_29_method_69_code 2 (some .int) ws ({ frames := 0, cells := 0, slots := 0, locals := 0 } : Room) #[(.int p1), (.int p2)] h0 (QP (.int (fM p1 p2)) h0) := by
  refine metOf (by first | exact plainFor_of_name (by first | (simp [plainName, overriddenIn]; done) | decide +kernel) | decide +kernel) ?_
  intro p e s m below meth c s₁ hx hby hml hown hnm hret hlk hZ X0 e0
  have hown : s.vm.findClass "java/lang/Math" = some m.cls := hown
  obtain ⟨K, hK⟩ : ∃ K, K = KQ s (QP (.int (fM p1 p2)) h0) (({ frames := 0, cells := 0, slots := 0, locals := 0 } : Room)).cells (({ frames := 0, cells := 0, slots := 0, locals := 0 } : Room)).slots := ⟨_, rfl⟩
  show Go p e below (KQ s (QP (.int (fM p1 p2)) h0) (({ frames := 0, cells := 0, slots := 0, locals := 0 } : Room)).cells (({ frames := 0, cells := 0, slots := 0, locals := 0 } : Room)).slots) s₁ (entryFrame m #[(.int p1), (.int p2)] 2)
  rw [← hK, ef_rm7 m p1 p2]
  show Go p e below _ s₁ (mkF m 0 #[.val (.int p1), .val (.int p2)] [])
  refine Go.to (fun _ => XS.iloadN X0.here hx rfl (hb hby d7_0) rfl) ?_
  show Go p e below _ s₁ (mkF m 1 #[.val (.int p1), .val (.int p2)] [(.int p1)])
  refine Go.to (fun _ => XS.iloadN X0.here hx rfl (hb hby d7_1) rfl) ?_
  show Go p e below _ s₁ (mkF m 2 #[.val (.int p1), .val (.int p2)] [(.int p2), (.int p1)])
  by_cases hc1 : p2 < p1
  · refine Go.to (fun _ => XS.icmpYes X0.here hx rfl (pc0 := 2) (pc' := 9) rfl (hb hby d7_2) rfl (tlt hc1).2.2.1 (by decide) (by decide)) ?_
    show Go p e below _ s₁ (mkF m 9 #[.val (.int p1), .val (.int p2)] [])
    refine Go.to (fun _ => XS.iloadN X0.here hx rfl (hb hby d7_9) rfl) ?_
    show Go p e below _ s₁ (mkF m 10 #[.val (.int p1), .val (.int p2)] [(.int p2)])
    rw [hK]
    exact Go.retI X0 hx hlk hret (hb hby d7_10) ⟨by rw [fM]; rw [if_pos hc1], e0, rfl⟩ (by decide) (by decide)
  · refine Go.to (fun _ => XS.icmpNo X0.here hx rfl (hb hby d7_2) rfl (flt hc1).2.2.1) ?_
    show Go p e below _ s₁ (mkF m 5 #[.val (.int p1), .val (.int p2)] [])
    refine Go.to (fun _ => XS.iloadN X0.here hx rfl (hb hby d7_5) rfl) ?_
    show Go p e below _ s₁ (mkF m 6 #[.val (.int p1), .val (.int p2)] [(.int p1)])
    refine Go.to (fun _ => XS.goto X0.here hx rfl (pc0 := 6) (pc' := 10) rfl (hb hby d7_6) (by decide) (by decide)) ?_
    show Go p e below _ s₁ (mkF m 10 #[.val (.int p1), .val (.int p2)] [(.int p1)])
    rw [hK]
    exact Go.retI X0 hx hlk hret (hb hby d7_10) ⟨by rw [fM]; rw [if_neg hc1], e0, rfl⟩ (by decide) (by decide)
theorem own_sk : ∃ ys : List Int32, List.replicate (128 : Int32).toNatClampNeg (0 : Int32) = (0 : Int32) :: (0 : Int32) :: (0 : Int32) :: (0 : Int32) :: (0 : Int32) :: (0 : Int32) :: (0 : Int32) :: (0 : Int32) :: (0 : Int32) :: (0 : Int32) :: (0 : Int32) :: (0 : Int32) :: ys ∧ ys.length = 116 :=
  ⟨List.replicate 116 0, by decide +kernel, by decide +kernel⟩
theorem own_len {a b c d e f g h i j k l : Int32} {ys : List Int32} (hy : ys.length = 116) {n : Int32} (hn : ¬ n = (128 : Int32)) : ¬ n = ((a :: b :: c :: d :: e :: f :: g :: h :: i :: j :: k :: l :: ys).length.toInt32) := by
  have q : (a :: b :: c :: d :: e :: f :: g :: h :: i :: j :: k :: l :: ys).length = 128 := by simp only [List.length_cons]; omega
  rw [q]; exact hn
theorem own_r {x z : Int32} (h : z = (x &&& (1 : Int32))) : z = 0 ∨ z = 1 := by
  have e := Jvm.Kit.i32_mask x (1 : Int32) (k := 1) (by decide) (by decide)
  rw [← h] at e
  have e0 : (0 : Int32).toInt = 0 := by decide
  have e1 : (1 : Int32).toInt = 1 := by decide
  simp only [← Int32.toInt_inj, e0, e1]; omega
theorem own_k {p z : Int32} (h : z = (((p.toUInt32 >>> ((9 : Int32) &&& 31).toUInt32).toInt32) % (5 : Int32))) : z = 0 ∨ z = 1 ∨ z = 2 ∨ z = 3 ∨ z = 4 := by
  have q := Jvm.Kit.i32_iushr_nonneg p (n := ((9 : Int32) &&& 31).toUInt32) (k := 9) (by decide) (by decide) (by decide)
  rw [Int32.le_iff_toInt_le] at q
  have e0 : (0 : Int32).toInt = 0 := by decide
  have e1 : (1 : Int32).toInt = 1 := by decide
  have e2 : (2 : Int32).toInt = 2 := by decide
  have e3 : (3 : Int32).toInt = 3 := by decide
  have e4 : (4 : Int32).toInt = 4 := by decide
  have e5 : (5 : Int32).toInt = 5 := by decide
  have r := Jvm.Kit.i32_rem_nonneg (y := (5 : Int32)) (e0 ▸ q)
  rw [← h, e5] at r
  simp only [← Int32.toInt_inj, e0, e1, e2, e3, e4]; omega
set_option maxHeartbeats 40000000 in
theorem own_law (v0 v1 v2 a b k0 k1 k2 r0 r1 r2 kk : Int32) (ys : List Int32) (h0 : r0 = 0 ∨ r0 = 1) (h1 : r1 = 0 ∨ r1 = 1) (h2 : r2 = 0 ∨ r2 = 1) (hk : kk = 0 ∨ kk = 1 ∨ kk = 2 ∨ kk = 3 ∨ kk = 4) :
    ∃ tp g0 g1, unw 5 ((4 : Int32) * kk) (12 : Int32) (k0 :: r0 :: v0 :: v1 :: k1 :: r1 :: v1 :: v2 :: k2 :: r2 :: v2 :: v0 :: ys) [a, b] = some (tp, [g0, g1]) ∧ tp = (fM (12 : Int32) ((4 : Int32) * kk)) ∧ g0 = (fE (0 : Int32) a kk k0 r0 v0 k1 r1 v1 k2 r2 v2) ∧ g1 = (fE (1 : Int32) b kk k0 r0 v0 k1 r1 v1 k2 r2 v2) := by
  obtain ⟨X, hX⟩ : ∃ X, X = (k0 :: r0 :: v0 :: v1 :: k1 :: r1 :: v1 :: v2 :: k2 :: r2 :: v2 :: v0 :: ys) := ⟨_, rfl⟩
  rw [← hX]
  have d0 : rdL X ((12 : Int32) - (4 : Int32)) = some k2 := by rw [hX]; rfl
  have d1 : rdL X ((12 : Int32) - (4 : Int32) + (1 : Int32)) = some r2 := by rw [hX]; rfl
  have d2 : rdL X ((12 : Int32) - (4 : Int32) + (2 : Int32)) = some v2 := by rw [hX]; rfl
  have d3 : rdL X ((12 : Int32) - (4 : Int32) - (4 : Int32)) = some k1 := by rw [hX]; rfl
  have d4 : rdL X ((12 : Int32) - (4 : Int32) - (4 : Int32) + (1 : Int32)) = some r1 := by rw [hX]; rfl
  have d5 : rdL X ((12 : Int32) - (4 : Int32) - (4 : Int32) + (2 : Int32)) = some v1 := by rw [hX]; rfl
  have d6 : rdL X ((12 : Int32) - (4 : Int32) - (4 : Int32) - (4 : Int32)) = some k0 := by rw [hX]; rfl
  have d7 : rdL X ((12 : Int32) - (4 : Int32) - (4 : Int32) - (4 : Int32) + (1 : Int32)) = some r0 := by rw [hX]; rfl
  have d8 : rdL X ((12 : Int32) - (4 : Int32) - (4 : Int32) - (4 : Int32) + (2 : Int32)) = some v0 := by rw [hX]; rfl
  have w0 : ∀ x y : Int32, rdL [x, y] 0 = some x := fun _ _ => rfl
  have w1 : ∀ x y : Int32, rdL [x, y] 1 = some y := fun _ _ => rfl
  have u0 : ∀ x y z : Int32, wrL [x, y] 0 z = [z, y] := fun _ _ _ => rfl
  have u1 : ∀ x y z : Int32, wrL [x, y] 1 z = [x, z] := fun _ _ _ => rfl
  have c0 : ((4 : Int32) * 0) < (12 : Int32) ∧ ((4 : Int32) * 0) < (12 : Int32) - (4 : Int32) ∧ ((4 : Int32) * 0) < (12 : Int32) - (4 : Int32) - (4 : Int32) ∧ ¬ ((4 : Int32) * 0) < (12 : Int32) - (4 : Int32) - (4 : Int32) - (4 : Int32) := by decide
  have c1 : ((4 : Int32) * 1) < (12 : Int32) ∧ ((4 : Int32) * 1) < (12 : Int32) - (4 : Int32) ∧ ¬ ((4 : Int32) * 1) < (12 : Int32) - (4 : Int32) - (4 : Int32) := by decide
  have c2 : ((4 : Int32) * 2) < (12 : Int32) ∧ ¬ ((4 : Int32) * 2) < (12 : Int32) - (4 : Int32) := by decide
  have c3 : ¬ ((4 : Int32) * 3) < (12 : Int32) := by decide
  have c4 : ¬ ((4 : Int32) * 4) < (12 : Int32) := by decide
  have z01 : ¬ (0 : Int32) = 1 := by decide
  have z10 : ¬ (1 : Int32) = 0 := by decide
  rcases hk with rfl | rfl | rfl | rfl | rfl
  · rcases h0 with rfl | rfl <;> rcases h1 with rfl | rfl <;> rcases h2 with rfl | rfl <;> by_cases q0 : k0 = 1 <;> by_cases q1 : k1 = 1 <;> by_cases q2 : k2 = 1 <;>
      (simp only [unw, c0, if_true, if_false, d0, d1, d2, d3, d4, d5, d6, d7, d8, Option.bind_some, q0, q1, q2, w0, w1, u0, u1]; exact ⟨_, _, _, rfl, by decide, by simp [fE, q0, q1, q2, z01, z10], by simp [fE, q0, q1, q2, z01, z10]⟩)
  · rcases h1 with rfl | rfl <;> rcases h2 with rfl | rfl <;> by_cases q1 : k1 = 1 <;> by_cases q2 : k2 = 1 <;>
      (simp only [unw, c1, if_true, if_false, d0, d1, d2, d3, d4, d5, Option.bind_some, q1, q2, w0, w1, u0, u1]; exact ⟨_, _, _, rfl, by decide, by simp [fE, q1, q2, z01, z10], by simp [fE, q1, q2, z01, z10]⟩)
  · rcases h2 with rfl | rfl <;> by_cases q2 : k2 = 1 <;>
      (simp only [unw, c2, if_true, if_false, d0, d1, d2, Option.bind_some, q2, w0, w1, u0, u1]; exact ⟨_, _, _, rfl, by decide, by simp [fE, q2, z01, z10], by simp [fE, q2, z01, z10]⟩)
  · simp only [unw, c3, if_false]; exact ⟨_, _, _, rfl, by decide, by simp [fE], by simp [fE]⟩
  · simp only [unw, c4, if_false]; exact ⟨_, _, _, rfl, by decide, by simp [fE], by simp [fE]⟩
theorem ef_rm0 (m : MethodId) (p1 : Int32) (p2 : Int32) (p3 : Int32) (p4 : Int32) (p5 : Int32) (p6 : Int32) : entryFrame m #[(.int p1), (.int p2), (.int p3), (.int p4), (.int p5), (.int p6)] maxLocals = mkF m 0 #[.val (.int p1), .val (.int p2), .val (.int p3), .val (.int p4), .val (.int p5), .val (.int p6), .unset, .unset, .unset, .unset, .unset, .unset, .unset, .unset, .unset, .unset] [] := by first | (simp [entryFrame, mkF, argsToLocals, Value.category, maxLocals]; done) | rfl
set_option maxHeartbeats 40000000 in
theorem rm0 (l : Launch) (Z : State) (a0 : Array Value) (hw : ∀ d ∈ tables_1, d.before a0 Z = true) (ws : List Jvm.Cond) (p1 : Int32) (p2 : Int32) (p3 : Int32) (p4 : Int32) (p5 : Int32) (p6 : Int32) (h0 : Heap) (n0 : Nat) (Z0 : n0 ≤ h0.size) :
    Met1 l Z x code maxLocals ret ws room_1 #[(.int p1), (.int p2), (.int p3), (.int p4), (.int p5), (.int p6)] h0 (fun v h L => v = some (.int 1) ∧ Fr n0 L) := by
  refine metOf (by first | exact plainFor_of_name (by first | (simp [plainName, overriddenIn]; done) | decide +kernel) | decide +kernel) ?_
  intro p e s m below meth c s₁ hx hby hml hown hnm hret hlk hZ X0 e0
  have hown : s.vm.findClass "com/example/oakwright/oakwright/regex/MatchStateUnwindToPinLaw" = some m.cls := hown
  have hml : c.maxLocals = 16 := hml
  obtain ⟨K, hK⟩ : ∃ K, K = KQ s (fun v h L => v = some (.int 1) ∧ Fr n0 L) (room_1).cells (room_1).slots := ⟨_, rfl⟩
  show Go p e below (KQ s (fun v h L => v = some (.int 1) ∧ Fr n0 L) (room_1).cells (room_1).slots) s₁ (entryFrame m #[(.int p1), (.int p2), (.int p3), (.int p4), (.int p5), (.int p6)] maxLocals)
  rw [← hK, ef_rm0 m p1 p2 p3 p4 p5 p6]
  show Go p e below _ s₁ (mkF m 0 #[.val (.int p1), .val (.int p2), .val (.int p3), .val (.int p4), .val (.int p5), .val (.int p6), .unset, .unset, .unset, .unset, .unset, .unset, .unset, .unset, .unset, .unset] [])
  refine Go.to (fun _ => XS.iloadN X0.here hx rfl (hb hby at_0) rfl) ?_
  show Go p e below _ s₁ (mkF m 1 #[.val (.int p1), .val (.int p2), .val (.int p3), .val (.int p4), .val (.int p5), .val (.int p6), .unset, .unset, .unset, .unset, .unset, .unset, .unset, .unset, .unset, .unset] [(.int p1)])
  refine Go.to (fun _ => XS.iconst X0.here hx rfl (hb hby at_1)) ?_
  show Go p e below _ s₁ (mkF m 2 #[.val (.int p1), .val (.int p2), .val (.int p3), .val (.int p4), .val (.int p5), .val (.int p6), .unset, .unset, .unset, .unset, .unset, .unset, .unset, .unset, .unset, .unset] [(.int (3 : Int32)), (.int p1)])
  refine Go.to (fun _ => XS.iand X0.here hx rfl (hb hby at_2) rfl) ?_
  show Go p e below _ s₁ (mkF m 3 #[.val (.int p1), .val (.int p2), .val (.int p3), .val (.int p4), .val (.int p5), .val (.int p6), .unset, .unset, .unset, .unset, .unset, .unset, .unset, .unset, .unset, .unset] [(.int (p1 &&& (3 : Int32)))])
  refine Go.to (fun _ => XS.istore X0.here hx rfl (hb hby at_3) rfl (l' := #[.val (.int p1), .val (.int p2), .val (.int p3), .val (.int p4), .val (.int p5), .val (.int p6), .val (.int (p1 &&& (3 : Int32))), .unset, .unset, .unset, .unset, .unset, .unset, .unset, .unset, .unset]) rfl) ?_
  show Go p e below _ s₁ (mkF m 5 #[.val (.int p1), .val (.int p2), .val (.int p3), .val (.int p4), .val (.int p5), .val (.int p6), .val (.int (p1 &&& (3 : Int32))), .unset, .unset, .unset, .unset, .unset, .unset, .unset, .unset, .unset] [])
  refine Go.to (fun _ => XS.iloadN X0.here hx rfl (hb hby at_5) rfl) ?_
  show Go p e below _ s₁ (mkF m 6 #[.val (.int p1), .val (.int p2), .val (.int p3), .val (.int p4), .val (.int p5), .val (.int p6), .val (.int (p1 &&& (3 : Int32))), .unset, .unset, .unset, .unset, .unset, .unset, .unset, .unset, .unset] [(.int p1)])
  refine Go.to (fun _ => XS.iconst X0.here hx rfl (hb hby at_6)) ?_
  show Go p e below _ s₁ (mkF m 7 #[.val (.int p1), .val (.int p2), .val (.int p3), .val (.int p4), .val (.int p5), .val (.int p6), .val (.int (p1 &&& (3 : Int32))), .unset, .unset, .unset, .unset, .unset, .unset, .unset, .unset, .unset] [(.int (2 : Int32)), (.int p1)])
  refine Go.to (fun _ => XS.iushr X0.here hx rfl (hb hby at_7) rfl) ?_
  show Go p e below _ s₁ (mkF m 8 #[.val (.int p1), .val (.int p2), .val (.int p3), .val (.int p4), .val (.int p5), .val (.int p6), .val (.int (p1 &&& (3 : Int32))), .unset, .unset, .unset, .unset, .unset, .unset, .unset, .unset, .unset] [(.int ((p1.toUInt32 >>> ((2 : Int32) &&& 31).toUInt32).toInt32))])
  refine Go.to (fun _ => XS.iconst X0.here hx rfl (hb hby at_8)) ?_
  show Go p e below _ s₁ (mkF m 9 #[.val (.int p1), .val (.int p2), .val (.int p3), .val (.int p4), .val (.int p5), .val (.int p6), .val (.int (p1 &&& (3 : Int32))), .unset, .unset, .unset, .unset, .unset, .unset, .unset, .unset, .unset] [(.int (3 : Int32)), (.int ((p1.toUInt32 >>> ((2 : Int32) &&& 31).toUInt32).toInt32))])
  refine Go.to (fun _ => XS.iand X0.here hx rfl (hb hby at_9) rfl) ?_
  show Go p e below _ s₁ (mkF m 10 #[.val (.int p1), .val (.int p2), .val (.int p3), .val (.int p4), .val (.int p5), .val (.int p6), .val (.int (p1 &&& (3 : Int32))), .unset, .unset, .unset, .unset, .unset, .unset, .unset, .unset, .unset] [(.int (((p1.toUInt32 >>> ((2 : Int32) &&& 31).toUInt32).toInt32) &&& (3 : Int32)))])
  refine Go.to (fun _ => XS.istore X0.here hx rfl (hb hby at_10) rfl (l' := #[.val (.int p1), .val (.int p2), .val (.int p3), .val (.int p4), .val (.int p5), .val (.int p6), .val (.int (p1 &&& (3 : Int32))), .val (.int (((p1.toUInt32 >>> ((2 : Int32) &&& 31).toUInt32).toInt32) &&& (3 : Int32))), .unset, .unset, .unset, .unset, .unset, .unset, .unset, .unset]) rfl) ?_
  show Go p e below _ s₁ (mkF m 12 #[.val (.int p1), .val (.int p2), .val (.int p3), .val (.int p4), .val (.int p5), .val (.int p6), .val (.int (p1 &&& (3 : Int32))), .val (.int (((p1.toUInt32 >>> ((2 : Int32) &&& 31).toUInt32).toInt32) &&& (3 : Int32))), .unset, .unset, .unset, .unset, .unset, .unset, .unset, .unset] [])
  refine Go.to (fun _ => XS.iloadN X0.here hx rfl (hb hby at_12) rfl) ?_
  show Go p e below _ s₁ (mkF m 13 #[.val (.int p1), .val (.int p2), .val (.int p3), .val (.int p4), .val (.int p5), .val (.int p6), .val (.int (p1 &&& (3 : Int32))), .val (.int (((p1.toUInt32 >>> ((2 : Int32) &&& 31).toUInt32).toInt32) &&& (3 : Int32))), .unset, .unset, .unset, .unset, .unset, .unset, .unset, .unset] [(.int p1)])
  refine Go.to (fun _ => XS.iconst X0.here hx rfl (hb hby at_13)) ?_
  show Go p e below _ s₁ (mkF m 14 #[.val (.int p1), .val (.int p2), .val (.int p3), .val (.int p4), .val (.int p5), .val (.int p6), .val (.int (p1 &&& (3 : Int32))), .val (.int (((p1.toUInt32 >>> ((2 : Int32) &&& 31).toUInt32).toInt32) &&& (3 : Int32))), .unset, .unset, .unset, .unset, .unset, .unset, .unset, .unset] [(.int (4 : Int32)), (.int p1)])
  refine Go.to (fun _ => XS.iushr X0.here hx rfl (hb hby at_14) rfl) ?_
  show Go p e below _ s₁ (mkF m 15 #[.val (.int p1), .val (.int p2), .val (.int p3), .val (.int p4), .val (.int p5), .val (.int p6), .val (.int (p1 &&& (3 : Int32))), .val (.int (((p1.toUInt32 >>> ((2 : Int32) &&& 31).toUInt32).toInt32) &&& (3 : Int32))), .unset, .unset, .unset, .unset, .unset, .unset, .unset, .unset] [(.int ((p1.toUInt32 >>> ((4 : Int32) &&& 31).toUInt32).toInt32))])
  refine Go.to (fun _ => XS.iconst X0.here hx rfl (hb hby at_15)) ?_
  show Go p e below _ s₁ (mkF m 16 #[.val (.int p1), .val (.int p2), .val (.int p3), .val (.int p4), .val (.int p5), .val (.int p6), .val (.int (p1 &&& (3 : Int32))), .val (.int (((p1.toUInt32 >>> ((2 : Int32) &&& 31).toUInt32).toInt32) &&& (3 : Int32))), .unset, .unset, .unset, .unset, .unset, .unset, .unset, .unset] [(.int (3 : Int32)), (.int ((p1.toUInt32 >>> ((4 : Int32) &&& 31).toUInt32).toInt32))])
  refine Go.to (fun _ => XS.iand X0.here hx rfl (hb hby at_16) rfl) ?_
  show Go p e below _ s₁ (mkF m 17 #[.val (.int p1), .val (.int p2), .val (.int p3), .val (.int p4), .val (.int p5), .val (.int p6), .val (.int (p1 &&& (3 : Int32))), .val (.int (((p1.toUInt32 >>> ((2 : Int32) &&& 31).toUInt32).toInt32) &&& (3 : Int32))), .unset, .unset, .unset, .unset, .unset, .unset, .unset, .unset] [(.int (((p1.toUInt32 >>> ((4 : Int32) &&& 31).toUInt32).toInt32) &&& (3 : Int32)))])
  refine Go.to (fun _ => XS.istore X0.here hx rfl (hb hby at_17) rfl (l' := #[.val (.int p1), .val (.int p2), .val (.int p3), .val (.int p4), .val (.int p5), .val (.int p6), .val (.int (p1 &&& (3 : Int32))), .val (.int (((p1.toUInt32 >>> ((2 : Int32) &&& 31).toUInt32).toInt32) &&& (3 : Int32))), .val (.int (((p1.toUInt32 >>> ((4 : Int32) &&& 31).toUInt32).toInt32) &&& (3 : Int32))), .unset, .unset, .unset, .unset, .unset, .unset, .unset]) rfl) ?_
  show Go p e below _ s₁ (mkF m 19 #[.val (.int p1), .val (.int p2), .val (.int p3), .val (.int p4), .val (.int p5), .val (.int p6), .val (.int (p1 &&& (3 : Int32))), .val (.int (((p1.toUInt32 >>> ((2 : Int32) &&& 31).toUInt32).toInt32) &&& (3 : Int32))), .val (.int (((p1.toUInt32 >>> ((4 : Int32) &&& 31).toUInt32).toInt32) &&& (3 : Int32))), .unset, .unset, .unset, .unset, .unset, .unset, .unset] [])
  refine Go.to (fun _ => XS.iloadN X0.here hx rfl (hb hby at_19) rfl) ?_
  show Go p e below _ s₁ (mkF m 20 #[.val (.int p1), .val (.int p2), .val (.int p3), .val (.int p4), .val (.int p5), .val (.int p6), .val (.int (p1 &&& (3 : Int32))), .val (.int (((p1.toUInt32 >>> ((2 : Int32) &&& 31).toUInt32).toInt32) &&& (3 : Int32))), .val (.int (((p1.toUInt32 >>> ((4 : Int32) &&& 31).toUInt32).toInt32) &&& (3 : Int32))), .unset, .unset, .unset, .unset, .unset, .unset, .unset] [(.int p1)])
  refine Go.to (fun _ => XS.bipush X0.here hx rfl (hb hby at_20)) ?_
  show Go p e below _ s₁ (mkF m 22 #[.val (.int p1), .val (.int p2), .val (.int p3), .val (.int p4), .val (.int p5), .val (.int p6), .val (.int (p1 &&& (3 : Int32))), .val (.int (((p1.toUInt32 >>> ((2 : Int32) &&& 31).toUInt32).toInt32) &&& (3 : Int32))), .val (.int (((p1.toUInt32 >>> ((4 : Int32) &&& 31).toUInt32).toInt32) &&& (3 : Int32))), .unset, .unset, .unset, .unset, .unset, .unset, .unset] [(.int (6 : Int32)), (.int p1)])
  refine Go.to (fun _ => XS.iushr X0.here hx rfl (hb hby at_22) rfl) ?_
  show Go p e below _ s₁ (mkF m 23 #[.val (.int p1), .val (.int p2), .val (.int p3), .val (.int p4), .val (.int p5), .val (.int p6), .val (.int (p1 &&& (3 : Int32))), .val (.int (((p1.toUInt32 >>> ((2 : Int32) &&& 31).toUInt32).toInt32) &&& (3 : Int32))), .val (.int (((p1.toUInt32 >>> ((4 : Int32) &&& 31).toUInt32).toInt32) &&& (3 : Int32))), .unset, .unset, .unset, .unset, .unset, .unset, .unset] [(.int ((p1.toUInt32 >>> ((6 : Int32) &&& 31).toUInt32).toInt32))])
  refine Go.to (fun _ => XS.iconst X0.here hx rfl (hb hby at_23)) ?_
  show Go p e below _ s₁ (mkF m 24 #[.val (.int p1), .val (.int p2), .val (.int p3), .val (.int p4), .val (.int p5), .val (.int p6), .val (.int (p1 &&& (3 : Int32))), .val (.int (((p1.toUInt32 >>> ((2 : Int32) &&& 31).toUInt32).toInt32) &&& (3 : Int32))), .val (.int (((p1.toUInt32 >>> ((4 : Int32) &&& 31).toUInt32).toInt32) &&& (3 : Int32))), .unset, .unset, .unset, .unset, .unset, .unset, .unset] [(.int (1 : Int32)), (.int ((p1.toUInt32 >>> ((6 : Int32) &&& 31).toUInt32).toInt32))])
  refine Go.to (fun _ => XS.iand X0.here hx rfl (hb hby at_24) rfl) ?_
  show Go p e below _ s₁ (mkF m 25 #[.val (.int p1), .val (.int p2), .val (.int p3), .val (.int p4), .val (.int p5), .val (.int p6), .val (.int (p1 &&& (3 : Int32))), .val (.int (((p1.toUInt32 >>> ((2 : Int32) &&& 31).toUInt32).toInt32) &&& (3 : Int32))), .val (.int (((p1.toUInt32 >>> ((4 : Int32) &&& 31).toUInt32).toInt32) &&& (3 : Int32))), .unset, .unset, .unset, .unset, .unset, .unset, .unset] [(.int (((p1.toUInt32 >>> ((6 : Int32) &&& 31).toUInt32).toInt32) &&& (1 : Int32)))])
  refine Go.to (fun _ => XS.istore X0.here hx rfl (hb hby at_25) rfl (l' := #[.val (.int p1), .val (.int p2), .val (.int p3), .val (.int p4), .val (.int p5), .val (.int p6), .val (.int (p1 &&& (3 : Int32))), .val (.int (((p1.toUInt32 >>> ((2 : Int32) &&& 31).toUInt32).toInt32) &&& (3 : Int32))), .val (.int (((p1.toUInt32 >>> ((4 : Int32) &&& 31).toUInt32).toInt32) &&& (3 : Int32))), .val (.int (((p1.toUInt32 >>> ((6 : Int32) &&& 31).toUInt32).toInt32) &&& (1 : Int32))), .unset, .unset, .unset, .unset, .unset, .unset]) rfl) ?_
  show Go p e below _ s₁ (mkF m 27 #[.val (.int p1), .val (.int p2), .val (.int p3), .val (.int p4), .val (.int p5), .val (.int p6), .val (.int (p1 &&& (3 : Int32))), .val (.int (((p1.toUInt32 >>> ((2 : Int32) &&& 31).toUInt32).toInt32) &&& (3 : Int32))), .val (.int (((p1.toUInt32 >>> ((4 : Int32) &&& 31).toUInt32).toInt32) &&& (3 : Int32))), .val (.int (((p1.toUInt32 >>> ((6 : Int32) &&& 31).toUInt32).toInt32) &&& (1 : Int32))), .unset, .unset, .unset, .unset, .unset, .unset] [])
  refine Go.to (fun _ => XS.iloadN X0.here hx rfl (hb hby at_27) rfl) ?_
  show Go p e below _ s₁ (mkF m 28 #[.val (.int p1), .val (.int p2), .val (.int p3), .val (.int p4), .val (.int p5), .val (.int p6), .val (.int (p1 &&& (3 : Int32))), .val (.int (((p1.toUInt32 >>> ((2 : Int32) &&& 31).toUInt32).toInt32) &&& (3 : Int32))), .val (.int (((p1.toUInt32 >>> ((4 : Int32) &&& 31).toUInt32).toInt32) &&& (3 : Int32))), .val (.int (((p1.toUInt32 >>> ((6 : Int32) &&& 31).toUInt32).toInt32) &&& (1 : Int32))), .unset, .unset, .unset, .unset, .unset, .unset] [(.int p1)])
  refine Go.to (fun _ => XS.bipush X0.here hx rfl (hb hby at_28)) ?_
  show Go p e below _ s₁ (mkF m 30 #[.val (.int p1), .val (.int p2), .val (.int p3), .val (.int p4), .val (.int p5), .val (.int p6), .val (.int (p1 &&& (3 : Int32))), .val (.int (((p1.toUInt32 >>> ((2 : Int32) &&& 31).toUInt32).toInt32) &&& (3 : Int32))), .val (.int (((p1.toUInt32 >>> ((4 : Int32) &&& 31).toUInt32).toInt32) &&& (3 : Int32))), .val (.int (((p1.toUInt32 >>> ((6 : Int32) &&& 31).toUInt32).toInt32) &&& (1 : Int32))), .unset, .unset, .unset, .unset, .unset, .unset] [(.int (7 : Int32)), (.int p1)])
  refine Go.to (fun _ => XS.iushr X0.here hx rfl (hb hby at_30) rfl) ?_
  show Go p e below _ s₁ (mkF m 31 #[.val (.int p1), .val (.int p2), .val (.int p3), .val (.int p4), .val (.int p5), .val (.int p6), .val (.int (p1 &&& (3 : Int32))), .val (.int (((p1.toUInt32 >>> ((2 : Int32) &&& 31).toUInt32).toInt32) &&& (3 : Int32))), .val (.int (((p1.toUInt32 >>> ((4 : Int32) &&& 31).toUInt32).toInt32) &&& (3 : Int32))), .val (.int (((p1.toUInt32 >>> ((6 : Int32) &&& 31).toUInt32).toInt32) &&& (1 : Int32))), .unset, .unset, .unset, .unset, .unset, .unset] [(.int ((p1.toUInt32 >>> ((7 : Int32) &&& 31).toUInt32).toInt32))])
  refine Go.to (fun _ => XS.iconst X0.here hx rfl (hb hby at_31)) ?_
  show Go p e below _ s₁ (mkF m 32 #[.val (.int p1), .val (.int p2), .val (.int p3), .val (.int p4), .val (.int p5), .val (.int p6), .val (.int (p1 &&& (3 : Int32))), .val (.int (((p1.toUInt32 >>> ((2 : Int32) &&& 31).toUInt32).toInt32) &&& (3 : Int32))), .val (.int (((p1.toUInt32 >>> ((4 : Int32) &&& 31).toUInt32).toInt32) &&& (3 : Int32))), .val (.int (((p1.toUInt32 >>> ((6 : Int32) &&& 31).toUInt32).toInt32) &&& (1 : Int32))), .unset, .unset, .unset, .unset, .unset, .unset] [(.int (1 : Int32)), (.int ((p1.toUInt32 >>> ((7 : Int32) &&& 31).toUInt32).toInt32))])
  refine Go.to (fun _ => XS.iand X0.here hx rfl (hb hby at_32) rfl) ?_
  show Go p e below _ s₁ (mkF m 33 #[.val (.int p1), .val (.int p2), .val (.int p3), .val (.int p4), .val (.int p5), .val (.int p6), .val (.int (p1 &&& (3 : Int32))), .val (.int (((p1.toUInt32 >>> ((2 : Int32) &&& 31).toUInt32).toInt32) &&& (3 : Int32))), .val (.int (((p1.toUInt32 >>> ((4 : Int32) &&& 31).toUInt32).toInt32) &&& (3 : Int32))), .val (.int (((p1.toUInt32 >>> ((6 : Int32) &&& 31).toUInt32).toInt32) &&& (1 : Int32))), .unset, .unset, .unset, .unset, .unset, .unset] [(.int (((p1.toUInt32 >>> ((7 : Int32) &&& 31).toUInt32).toInt32) &&& (1 : Int32)))])
  refine Go.to (fun _ => XS.istore X0.here hx rfl (hb hby at_33) rfl (l' := #[.val (.int p1), .val (.int p2), .val (.int p3), .val (.int p4), .val (.int p5), .val (.int p6), .val (.int (p1 &&& (3 : Int32))), .val (.int (((p1.toUInt32 >>> ((2 : Int32) &&& 31).toUInt32).toInt32) &&& (3 : Int32))), .val (.int (((p1.toUInt32 >>> ((4 : Int32) &&& 31).toUInt32).toInt32) &&& (3 : Int32))), .val (.int (((p1.toUInt32 >>> ((6 : Int32) &&& 31).toUInt32).toInt32) &&& (1 : Int32))), .val (.int (((p1.toUInt32 >>> ((7 : Int32) &&& 31).toUInt32).toInt32) &&& (1 : Int32))), .unset, .unset, .unset, .unset, .unset]) rfl) ?_
  show Go p e below _ s₁ (mkF m 35 #[.val (.int p1), .val (.int p2), .val (.int p3), .val (.int p4), .val (.int p5), .val (.int p6), .val (.int (p1 &&& (3 : Int32))), .val (.int (((p1.toUInt32 >>> ((2 : Int32) &&& 31).toUInt32).toInt32) &&& (3 : Int32))), .val (.int (((p1.toUInt32 >>> ((4 : Int32) &&& 31).toUInt32).toInt32) &&& (3 : Int32))), .val (.int (((p1.toUInt32 >>> ((6 : Int32) &&& 31).toUInt32).toInt32) &&& (1 : Int32))), .val (.int (((p1.toUInt32 >>> ((7 : Int32) &&& 31).toUInt32).toInt32) &&& (1 : Int32))), .unset, .unset, .unset, .unset, .unset] [])
  refine Go.to (fun _ => XS.iloadN X0.here hx rfl (hb hby at_35) rfl) ?_
  show Go p e below _ s₁ (mkF m 36 #[.val (.int p1), .val (.int p2), .val (.int p3), .val (.int p4), .val (.int p5), .val (.int p6), .val (.int (p1 &&& (3 : Int32))), .val (.int (((p1.toUInt32 >>> ((2 : Int32) &&& 31).toUInt32).toInt32) &&& (3 : Int32))), .val (.int (((p1.toUInt32 >>> ((4 : Int32) &&& 31).toUInt32).toInt32) &&& (3 : Int32))), .val (.int (((p1.toUInt32 >>> ((6 : Int32) &&& 31).toUInt32).toInt32) &&& (1 : Int32))), .val (.int (((p1.toUInt32 >>> ((7 : Int32) &&& 31).toUInt32).toInt32) &&& (1 : Int32))), .unset, .unset, .unset, .unset, .unset] [(.int p1)])
  refine Go.to (fun _ => XS.bipush X0.here hx rfl (hb hby at_36)) ?_
  show Go p e below _ s₁ (mkF m 38 #[.val (.int p1), .val (.int p2), .val (.int p3), .val (.int p4), .val (.int p5), .val (.int p6), .val (.int (p1 &&& (3 : Int32))), .val (.int (((p1.toUInt32 >>> ((2 : Int32) &&& 31).toUInt32).toInt32) &&& (3 : Int32))), .val (.int (((p1.toUInt32 >>> ((4 : Int32) &&& 31).toUInt32).toInt32) &&& (3 : Int32))), .val (.int (((p1.toUInt32 >>> ((6 : Int32) &&& 31).toUInt32).toInt32) &&& (1 : Int32))), .val (.int (((p1.toUInt32 >>> ((7 : Int32) &&& 31).toUInt32).toInt32) &&& (1 : Int32))), .unset, .unset, .unset, .unset, .unset] [(.int (8 : Int32)), (.int p1)])
  refine Go.to (fun _ => XS.iushr X0.here hx rfl (hb hby at_38) rfl) ?_
  show Go p e below _ s₁ (mkF m 39 #[.val (.int p1), .val (.int p2), .val (.int p3), .val (.int p4), .val (.int p5), .val (.int p6), .val (.int (p1 &&& (3 : Int32))), .val (.int (((p1.toUInt32 >>> ((2 : Int32) &&& 31).toUInt32).toInt32) &&& (3 : Int32))), .val (.int (((p1.toUInt32 >>> ((4 : Int32) &&& 31).toUInt32).toInt32) &&& (3 : Int32))), .val (.int (((p1.toUInt32 >>> ((6 : Int32) &&& 31).toUInt32).toInt32) &&& (1 : Int32))), .val (.int (((p1.toUInt32 >>> ((7 : Int32) &&& 31).toUInt32).toInt32) &&& (1 : Int32))), .unset, .unset, .unset, .unset, .unset] [(.int ((p1.toUInt32 >>> ((8 : Int32) &&& 31).toUInt32).toInt32))])
  refine Go.to (fun _ => XS.iconst X0.here hx rfl (hb hby at_39)) ?_
  show Go p e below _ s₁ (mkF m 40 #[.val (.int p1), .val (.int p2), .val (.int p3), .val (.int p4), .val (.int p5), .val (.int p6), .val (.int (p1 &&& (3 : Int32))), .val (.int (((p1.toUInt32 >>> ((2 : Int32) &&& 31).toUInt32).toInt32) &&& (3 : Int32))), .val (.int (((p1.toUInt32 >>> ((4 : Int32) &&& 31).toUInt32).toInt32) &&& (3 : Int32))), .val (.int (((p1.toUInt32 >>> ((6 : Int32) &&& 31).toUInt32).toInt32) &&& (1 : Int32))), .val (.int (((p1.toUInt32 >>> ((7 : Int32) &&& 31).toUInt32).toInt32) &&& (1 : Int32))), .unset, .unset, .unset, .unset, .unset] [(.int (1 : Int32)), (.int ((p1.toUInt32 >>> ((8 : Int32) &&& 31).toUInt32).toInt32))])
  refine Go.to (fun _ => XS.iand X0.here hx rfl (hb hby at_40) rfl) ?_
  show Go p e below _ s₁ (mkF m 41 #[.val (.int p1), .val (.int p2), .val (.int p3), .val (.int p4), .val (.int p5), .val (.int p6), .val (.int (p1 &&& (3 : Int32))), .val (.int (((p1.toUInt32 >>> ((2 : Int32) &&& 31).toUInt32).toInt32) &&& (3 : Int32))), .val (.int (((p1.toUInt32 >>> ((4 : Int32) &&& 31).toUInt32).toInt32) &&& (3 : Int32))), .val (.int (((p1.toUInt32 >>> ((6 : Int32) &&& 31).toUInt32).toInt32) &&& (1 : Int32))), .val (.int (((p1.toUInt32 >>> ((7 : Int32) &&& 31).toUInt32).toInt32) &&& (1 : Int32))), .unset, .unset, .unset, .unset, .unset] [(.int (((p1.toUInt32 >>> ((8 : Int32) &&& 31).toUInt32).toInt32) &&& (1 : Int32)))])
  refine Go.to (fun _ => XS.istore X0.here hx rfl (hb hby at_41) rfl (l' := #[.val (.int p1), .val (.int p2), .val (.int p3), .val (.int p4), .val (.int p5), .val (.int p6), .val (.int (p1 &&& (3 : Int32))), .val (.int (((p1.toUInt32 >>> ((2 : Int32) &&& 31).toUInt32).toInt32) &&& (3 : Int32))), .val (.int (((p1.toUInt32 >>> ((4 : Int32) &&& 31).toUInt32).toInt32) &&& (3 : Int32))), .val (.int (((p1.toUInt32 >>> ((6 : Int32) &&& 31).toUInt32).toInt32) &&& (1 : Int32))), .val (.int (((p1.toUInt32 >>> ((7 : Int32) &&& 31).toUInt32).toInt32) &&& (1 : Int32))), .val (.int (((p1.toUInt32 >>> ((8 : Int32) &&& 31).toUInt32).toInt32) &&& (1 : Int32))), .unset, .unset, .unset, .unset]) rfl) ?_
  show Go p e below _ s₁ (mkF m 43 #[.val (.int p1), .val (.int p2), .val (.int p3), .val (.int p4), .val (.int p5), .val (.int p6), .val (.int (p1 &&& (3 : Int32))), .val (.int (((p1.toUInt32 >>> ((2 : Int32) &&& 31).toUInt32).toInt32) &&& (3 : Int32))), .val (.int (((p1.toUInt32 >>> ((4 : Int32) &&& 31).toUInt32).toInt32) &&& (3 : Int32))), .val (.int (((p1.toUInt32 >>> ((6 : Int32) &&& 31).toUInt32).toInt32) &&& (1 : Int32))), .val (.int (((p1.toUInt32 >>> ((7 : Int32) &&& 31).toUInt32).toInt32) &&& (1 : Int32))), .val (.int (((p1.toUInt32 >>> ((8 : Int32) &&& 31).toUInt32).toInt32) &&& (1 : Int32))), .unset, .unset, .unset, .unset] [])
  refine Go.to (fun _ => XS.iloadN X0.here hx rfl (hb hby at_43) rfl) ?_
  show Go p e below _ s₁ (mkF m 44 #[.val (.int p1), .val (.int p2), .val (.int p3), .val (.int p4), .val (.int p5), .val (.int p6), .val (.int (p1 &&& (3 : Int32))), .val (.int (((p1.toUInt32 >>> ((2 : Int32) &&& 31).toUInt32).toInt32) &&& (3 : Int32))), .val (.int (((p1.toUInt32 >>> ((4 : Int32) &&& 31).toUInt32).toInt32) &&& (3 : Int32))), .val (.int (((p1.toUInt32 >>> ((6 : Int32) &&& 31).toUInt32).toInt32) &&& (1 : Int32))), .val (.int (((p1.toUInt32 >>> ((7 : Int32) &&& 31).toUInt32).toInt32) &&& (1 : Int32))), .val (.int (((p1.toUInt32 >>> ((8 : Int32) &&& 31).toUInt32).toInt32) &&& (1 : Int32))), .unset, .unset, .unset, .unset] [(.int p1)])
  refine Go.to (fun _ => XS.bipush X0.here hx rfl (hb hby at_44)) ?_
  show Go p e below _ s₁ (mkF m 46 #[.val (.int p1), .val (.int p2), .val (.int p3), .val (.int p4), .val (.int p5), .val (.int p6), .val (.int (p1 &&& (3 : Int32))), .val (.int (((p1.toUInt32 >>> ((2 : Int32) &&& 31).toUInt32).toInt32) &&& (3 : Int32))), .val (.int (((p1.toUInt32 >>> ((4 : Int32) &&& 31).toUInt32).toInt32) &&& (3 : Int32))), .val (.int (((p1.toUInt32 >>> ((6 : Int32) &&& 31).toUInt32).toInt32) &&& (1 : Int32))), .val (.int (((p1.toUInt32 >>> ((7 : Int32) &&& 31).toUInt32).toInt32) &&& (1 : Int32))), .val (.int (((p1.toUInt32 >>> ((8 : Int32) &&& 31).toUInt32).toInt32) &&& (1 : Int32))), .unset, .unset, .unset, .unset] [(.int (9 : Int32)), (.int p1)])
  refine Go.to (fun _ => XS.iushr X0.here hx rfl (hb hby at_46) rfl) ?_
  show Go p e below _ s₁ (mkF m 47 #[.val (.int p1), .val (.int p2), .val (.int p3), .val (.int p4), .val (.int p5), .val (.int p6), .val (.int (p1 &&& (3 : Int32))), .val (.int (((p1.toUInt32 >>> ((2 : Int32) &&& 31).toUInt32).toInt32) &&& (3 : Int32))), .val (.int (((p1.toUInt32 >>> ((4 : Int32) &&& 31).toUInt32).toInt32) &&& (3 : Int32))), .val (.int (((p1.toUInt32 >>> ((6 : Int32) &&& 31).toUInt32).toInt32) &&& (1 : Int32))), .val (.int (((p1.toUInt32 >>> ((7 : Int32) &&& 31).toUInt32).toInt32) &&& (1 : Int32))), .val (.int (((p1.toUInt32 >>> ((8 : Int32) &&& 31).toUInt32).toInt32) &&& (1 : Int32))), .unset, .unset, .unset, .unset] [(.int ((p1.toUInt32 >>> ((9 : Int32) &&& 31).toUInt32).toInt32))])
  refine Go.to (fun _ => XS.iconst X0.here hx rfl (hb hby at_47)) ?_
  show Go p e below _ s₁ (mkF m 48 #[.val (.int p1), .val (.int p2), .val (.int p3), .val (.int p4), .val (.int p5), .val (.int p6), .val (.int (p1 &&& (3 : Int32))), .val (.int (((p1.toUInt32 >>> ((2 : Int32) &&& 31).toUInt32).toInt32) &&& (3 : Int32))), .val (.int (((p1.toUInt32 >>> ((4 : Int32) &&& 31).toUInt32).toInt32) &&& (3 : Int32))), .val (.int (((p1.toUInt32 >>> ((6 : Int32) &&& 31).toUInt32).toInt32) &&& (1 : Int32))), .val (.int (((p1.toUInt32 >>> ((7 : Int32) &&& 31).toUInt32).toInt32) &&& (1 : Int32))), .val (.int (((p1.toUInt32 >>> ((8 : Int32) &&& 31).toUInt32).toInt32) &&& (1 : Int32))), .unset, .unset, .unset, .unset] [(.int (5 : Int32)), (.int ((p1.toUInt32 >>> ((9 : Int32) &&& 31).toUInt32).toInt32))])
  refine Go.to (fun _ => iremM X0 hx rfl (hb hby at_48) rfl (by decide)) ?_
  show Go p e below _ s₁ (mkF m 49 #[.val (.int p1), .val (.int p2), .val (.int p3), .val (.int p4), .val (.int p5), .val (.int p6), .val (.int (p1 &&& (3 : Int32))), .val (.int (((p1.toUInt32 >>> ((2 : Int32) &&& 31).toUInt32).toInt32) &&& (3 : Int32))), .val (.int (((p1.toUInt32 >>> ((4 : Int32) &&& 31).toUInt32).toInt32) &&& (3 : Int32))), .val (.int (((p1.toUInt32 >>> ((6 : Int32) &&& 31).toUInt32).toInt32) &&& (1 : Int32))), .val (.int (((p1.toUInt32 >>> ((7 : Int32) &&& 31).toUInt32).toInt32) &&& (1 : Int32))), .val (.int (((p1.toUInt32 >>> ((8 : Int32) &&& 31).toUInt32).toInt32) &&& (1 : Int32))), .unset, .unset, .unset, .unset] [(.int (((p1.toUInt32 >>> ((9 : Int32) &&& 31).toUInt32).toInt32) % (5 : Int32)))])
  refine Go.to (fun _ => XS.istore X0.here hx rfl (hb hby at_49) rfl (l' := #[.val (.int p1), .val (.int p2), .val (.int p3), .val (.int p4), .val (.int p5), .val (.int p6), .val (.int (p1 &&& (3 : Int32))), .val (.int (((p1.toUInt32 >>> ((2 : Int32) &&& 31).toUInt32).toInt32) &&& (3 : Int32))), .val (.int (((p1.toUInt32 >>> ((4 : Int32) &&& 31).toUInt32).toInt32) &&& (3 : Int32))), .val (.int (((p1.toUInt32 >>> ((6 : Int32) &&& 31).toUInt32).toInt32) &&& (1 : Int32))), .val (.int (((p1.toUInt32 >>> ((7 : Int32) &&& 31).toUInt32).toInt32) &&& (1 : Int32))), .val (.int (((p1.toUInt32 >>> ((8 : Int32) &&& 31).toUInt32).toInt32) &&& (1 : Int32))), .val (.int (((p1.toUInt32 >>> ((9 : Int32) &&& 31).toUInt32).toInt32) % (5 : Int32))), .unset, .unset, .unset]) rfl) ?_
  show Go p e below _ s₁ (mkF m 51 #[.val (.int p1), .val (.int p2), .val (.int p3), .val (.int p4), .val (.int p5), .val (.int p6), .val (.int (p1 &&& (3 : Int32))), .val (.int (((p1.toUInt32 >>> ((2 : Int32) &&& 31).toUInt32).toInt32) &&& (3 : Int32))), .val (.int (((p1.toUInt32 >>> ((4 : Int32) &&& 31).toUInt32).toInt32) &&& (3 : Int32))), .val (.int (((p1.toUInt32 >>> ((6 : Int32) &&& 31).toUInt32).toInt32) &&& (1 : Int32))), .val (.int (((p1.toUInt32 >>> ((7 : Int32) &&& 31).toUInt32).toInt32) &&& (1 : Int32))), .val (.int (((p1.toUInt32 >>> ((8 : Int32) &&& 31).toUInt32).toInt32) &&& (1 : Int32))), .val (.int (((p1.toUInt32 >>> ((9 : Int32) &&& 31).toUInt32).toInt32) % (5 : Int32))), .unset, .unset, .unset] [])
  obtain ⟨k0, hk0⟩ : ∃ z : Int32, z = (p1 &&& (3 : Int32)) := ⟨_, rfl⟩
  rw [← hk0]
  obtain ⟨k1, hk1⟩ : ∃ z : Int32, z = (((p1.toUInt32 >>> ((2 : Int32) &&& 31).toUInt32).toInt32) &&& (3 : Int32)) := ⟨_, rfl⟩
  rw [← hk1]
  obtain ⟨k2, hk2⟩ : ∃ z : Int32, z = (((p1.toUInt32 >>> ((4 : Int32) &&& 31).toUInt32).toInt32) &&& (3 : Int32)) := ⟨_, rfl⟩
  rw [← hk2]
  obtain ⟨r0, hr0⟩ : ∃ z : Int32, z = (((p1.toUInt32 >>> ((6 : Int32) &&& 31).toUInt32).toInt32) &&& (1 : Int32)) := ⟨_, rfl⟩
  rw [← hr0]
  obtain ⟨r1, hr1⟩ : ∃ z : Int32, z = (((p1.toUInt32 >>> ((7 : Int32) &&& 31).toUInt32).toInt32) &&& (1 : Int32)) := ⟨_, rfl⟩
  rw [← hr1]
  obtain ⟨r2, hr2⟩ : ∃ z : Int32, z = (((p1.toUInt32 >>> ((8 : Int32) &&& 31).toUInt32).toInt32) &&& (1 : Int32)) := ⟨_, rfl⟩
  rw [← hr2]
  obtain ⟨kk, hkk⟩ : ∃ z : Int32, z = (((p1.toUInt32 >>> ((9 : Int32) &&& 31).toUInt32).toInt32) % (5 : Int32)) := ⟨_, rfl⟩
  rw [← hkk]
  have hR0 := own_r hr0
  have hR1 := own_r hr1
  have hR2 := own_r hr2
  have hKK := own_k hkk
  obtain ⟨ys, hys, hyl⟩ := own_sk
  show Go p e below _ s₁ (mkF m 51 #[.val (.int p1), .val (.int p2), .val (.int p3), .val (.int p4), .val (.int p5), .val (.int p6), .val (.int k0), .val (.int k1), .val (.int k2), .val (.int r0), .val (.int r1), .val (.int r2), .val (.int kk), .unset, .unset, .unset] [])
  obtain ⟨T1, h1, X1, e1, E1, B1, D1, -, st1⟩ := newO X0 hx hZ hown (hw _ (List.mem_of_getElem? (i := 0) rfl)) (hw _ (List.mem_of_getElem? (i := 1) rfl)) (hw _ (List.mem_of_getElem? (i := 2) rfl)) e0 (g := (mkF m 51 #[.val (.int p1), .val (.int p2), .val (.int p3), .val (.int p4), .val (.int p5), .val (.int p6), .val (.int k0), .val (.int k1), .val (.int k2), .val (.int r0), .val (.int r1), .val (.int r2), .val (.int kk), .unset, .unset, .unset] [])) rfl (hb hby at_51) (by decide) (by decide)
  obtain ⟨a1, g1⟩ : ∃ z, z = h0.size := ⟨_, rfl⟩
  rw [← g1] at B1 D1 st1
  refine Go.to st1 ?_
  have O1 : Obj Z n0 h1 h1 a1 "com/example/oakwright/oakwright/regex/MatchState" nFm [.null, .null, (.int (0 : Int32))] [] [] := Obj.born B1 (by rw [g1]; exact Z0) D1 (laidm hw) (by decide +kernel) rfl
  show Go p e below _ T1 (mkF m 54 #[.val (.int p1), .val (.int p2), .val (.int p3), .val (.int p4), .val (.int p5), .val (.int p6), .val (.int k0), .val (.int k1), .val (.int k2), .val (.int r0), .val (.int r1), .val (.int r2), .val (.int kk), .unset, .unset, .unset] [(.ref a1)])
  refine Go.to (fun _ => XS.dup X1.here hx rfl (hb hby at_54) rfl rfl) ?_
  show Go p e below _ T1 (mkF m 55 #[.val (.int p1), .val (.int p2), .val (.int p3), .val (.int p4), .val (.int p5), .val (.int p6), .val (.int k0), .val (.int k1), .val (.int k2), .val (.int r0), .val (.int r1), .val (.int r2), .val (.int kk), .unset, .unset, .unset] [(.ref a1), (.ref a1)])
  refine Go.to (fun _ => XS.iconst X1.here hx rfl (hb hby at_55)) ?_
  show Go p e below _ T1 (mkF m 56 #[.val (.int p1), .val (.int p2), .val (.int p3), .val (.int p4), .val (.int p5), .val (.int p6), .val (.int k0), .val (.int k1), .val (.int k2), .val (.int r0), .val (.int r1), .val (.int r2), .val (.int kk), .unset, .unset, .unset] [(.int (2 : Int32)), (.ref a1), (.ref a1)])
  refine Go.callI (y := (⟨"com/example/oakwright/oakwright/regex/MatchState", "<init>", "(I)V"⟩ : MethodName)) X1 hx hZ hown rfl (hw _ (List.mem_of_getElem? (i := 3) rfl)) (hw _ (List.mem_of_getElem? (i := 4) rfl)) (hw _ (List.mem_of_getElem? (i := 2) rfl)) (hw _ (List.mem_of_getElem? (i := 5) rfl)) (by decide) (rm1 l Z a0 hw [] a1 (2 : Int32) h1 n0 O1 (by decide) (by decide)) e1 (by rw [hml]; rfl) (pd_1) rfl (a := a1) (argsL := [(.int (2 : Int32))]) (rest := [(.ref a1)]) rfl rfl (hb hby at_56) (by decide) (Nat.le_of_ble_eq_true rfl) (by decide) (by decide) ?_
  rintro T2 _ L2 X2 ⟨rfl, N2, b0, b1, O2⟩
  have N2 := Fr.app (Fr.nil n0) N2
  have O2 : Obj Z n0 T2.heap T2.heap a1 "com/example/oakwright/oakwright/regex/MatchState" nFm [.ref b0, .ref b1, .int (0 : Int32)] [b0, b1] [((0 : Int32) :: (0 : Int32) :: (0 : Int32) :: (0 : Int32) :: (0 : Int32) :: (0 : Int32) :: (0 : Int32) :: (0 : Int32) :: (0 : Int32) :: (0 : Int32) :: (0 : Int32) :: (0 : Int32) :: ys), [(0 : Int32), (0 : Int32)]] := by
    have O2 := O2.anew
    have q : List.replicate (2 : Int32).toNatClampNeg (0 : Int32) = [(0 : Int32), (0 : Int32)] := by decide +kernel
    rw [hys, q] at O2; exact O2
  show Go p e below _ T2 (mkF m 59 #[.val (.int p1), .val (.int p2), .val (.int p3), .val (.int p4), .val (.int p5), .val (.int p6), .val (.int k0), .val (.int k1), .val (.int k2), .val (.int r0), .val (.int r1), .val (.int r2), .val (.int kk), .unset, .unset, .unset] [(.ref a1)])
  refine Go.to (fun _ => XS.astore X2.here hx rfl (hb hby at_59) rfl rfl (l' := #[.val (.int p1), .val (.int p2), .val (.int p3), .val (.int p4), .val (.int p5), .val (.int p6), .val (.int k0), .val (.int k1), .val (.int k2), .val (.int r0), .val (.int r1), .val (.int r2), .val (.int kk), .val (.ref a1), .unset, .unset]) rfl) ?_
  show Go p e below _ T2 (mkF m 61 #[.val (.int p1), .val (.int p2), .val (.int p3), .val (.int p4), .val (.int p5), .val (.int p6), .val (.int k0), .val (.int k1), .val (.int k2), .val (.int r0), .val (.int r1), .val (.int r2), .val (.int kk), .val (.ref a1), .unset, .unset] [])
  refine Go.to (fun _ => XS.aload X2.here hx rfl (hb hby at_61) rfl rfl) ?_
  show Go p e below _ T2 (mkF m 63 #[.val (.int p1), .val (.int p2), .val (.int p3), .val (.int p4), .val (.int p5), .val (.int p6), .val (.int k0), .val (.int k1), .val (.int k2), .val (.int r0), .val (.int r1), .val (.int r2), .val (.int kk), .val (.ref a1), .unset, .unset] [(.ref a1)])
  refine Go.oget (f := ("registers", "[I")) X2 hx hZ hown (hw _ (List.mem_of_getElem? (i := 19) rfl)) rfl O2 (k := 1) rfl rfl (hb hby at_63) ?_
  intro T3 X3 e3
  show Go p e below _ T3 (mkF m 66 #[.val (.int p1), .val (.int p2), .val (.int p3), .val (.int p4), .val (.int p5), .val (.int p6), .val (.int k0), .val (.int k1), .val (.int k2), .val (.int r0), .val (.int r1), .val (.int r2), .val (.int kk), .val (.ref a1), .unset, .unset] [(.ref b1)])
  refine Go.to (fun _ => XS.iconst X3.here hx rfl (hb hby at_66)) ?_
  show Go p e below _ T3 (mkF m 67 #[.val (.int p1), .val (.int p2), .val (.int p3), .val (.int p4), .val (.int p5), .val (.int p6), .val (.int k0), .val (.int k1), .val (.int k2), .val (.int r0), .val (.int r1), .val (.int r2), .val (.int kk), .val (.ref a1), .unset, .unset] [(.int (0 : Int32)), (.ref b1)])
  refine Go.to (fun _ => XS.iload X3.here hx rfl (hb hby at_67) rfl) ?_
  show Go p e below _ T3 (mkF m 69 #[.val (.int p1), .val (.int p2), .val (.int p3), .val (.int p4), .val (.int p5), .val (.int p6), .val (.int k0), .val (.int k1), .val (.int k2), .val (.int r0), .val (.int r1), .val (.int r2), .val (.int kk), .val (.ref a1), .unset, .unset] [(.int p5), (.int (0 : Int32)), (.ref b1)])
  refine Go.ostore X3 hx hZ e3 N2 O2 (k := 1) rfl rfl rfl (hb hby at_69) ?_
  intro T4 h4 L4 X4 e4 N4 O4
  have O4 : Obj Z n0 T2.heap h4 a1 "com/example/oakwright/oakwright/regex/MatchState" nFm [(.ref b0), (.ref b1), (.int (0 : Int32))] [b0, b1] [((0 : Int32) :: (0 : Int32) :: (0 : Int32) :: (0 : Int32) :: (0 : Int32) :: (0 : Int32) :: (0 : Int32) :: (0 : Int32) :: (0 : Int32) :: (0 : Int32) :: (0 : Int32) :: (0 : Int32) :: ys), (wrL [(0 : Int32), (0 : Int32)] (0 : Int32) p5)] := O4
  have O4 : Obj Z n0 T2.heap h4 a1 "com/example/oakwright/oakwright/regex/MatchState" nFm [(.ref b0), (.ref b1), (.int (0 : Int32))] [b0, b1] [((0 : Int32) :: (0 : Int32) :: (0 : Int32) :: (0 : Int32) :: (0 : Int32) :: (0 : Int32) :: (0 : Int32) :: (0 : Int32) :: (0 : Int32) :: (0 : Int32) :: (0 : Int32) :: (0 : Int32) :: ys), [p5, (0 : Int32)]] := O4
  show Go p e below _ T4 (mkF m 70 #[.val (.int p1), .val (.int p2), .val (.int p3), .val (.int p4), .val (.int p5), .val (.int p6), .val (.int k0), .val (.int k1), .val (.int k2), .val (.int r0), .val (.int r1), .val (.int r2), .val (.int kk), .val (.ref a1), .unset, .unset] [])
  refine Go.to (fun _ => XS.aload X4.here hx rfl (hb hby at_70) rfl rfl) ?_
  show Go p e below _ T4 (mkF m 72 #[.val (.int p1), .val (.int p2), .val (.int p3), .val (.int p4), .val (.int p5), .val (.int p6), .val (.int k0), .val (.int k1), .val (.int k2), .val (.int r0), .val (.int r1), .val (.int r2), .val (.int kk), .val (.ref a1), .unset, .unset] [(.ref a1)])
  refine Go.oget (f := ("registers", "[I")) X4 hx hZ hown (hw _ (List.mem_of_getElem? (i := 19) rfl)) e4 O4 (k := 1) rfl rfl (hb hby at_72) ?_
  intro T5 X5 e5
  show Go p e below _ T5 (mkF m 75 #[.val (.int p1), .val (.int p2), .val (.int p3), .val (.int p4), .val (.int p5), .val (.int p6), .val (.int k0), .val (.int k1), .val (.int k2), .val (.int r0), .val (.int r1), .val (.int r2), .val (.int kk), .val (.ref a1), .unset, .unset] [(.ref b1)])
  refine Go.to (fun _ => XS.iconst X5.here hx rfl (hb hby at_75)) ?_
  show Go p e below _ T5 (mkF m 76 #[.val (.int p1), .val (.int p2), .val (.int p3), .val (.int p4), .val (.int p5), .val (.int p6), .val (.int k0), .val (.int k1), .val (.int k2), .val (.int r0), .val (.int r1), .val (.int r2), .val (.int kk), .val (.ref a1), .unset, .unset] [(.int (1 : Int32)), (.ref b1)])
  refine Go.to (fun _ => XS.iload X5.here hx rfl (hb hby at_76) rfl) ?_
  show Go p e below _ T5 (mkF m 78 #[.val (.int p1), .val (.int p2), .val (.int p3), .val (.int p4), .val (.int p5), .val (.int p6), .val (.int k0), .val (.int k1), .val (.int k2), .val (.int r0), .val (.int r1), .val (.int r2), .val (.int kk), .val (.ref a1), .unset, .unset] [(.int p6), (.int (1 : Int32)), (.ref b1)])
  refine Go.ostore X5 hx hZ e5 N4 O4 (k := 1) rfl rfl rfl (hb hby at_78) ?_
  intro T6 h6 L6 X6 e6 N6 O6
  have O6 : Obj Z n0 T2.heap h6 a1 "com/example/oakwright/oakwright/regex/MatchState" nFm [(.ref b0), (.ref b1), (.int (0 : Int32))] [b0, b1] [((0 : Int32) :: (0 : Int32) :: (0 : Int32) :: (0 : Int32) :: (0 : Int32) :: (0 : Int32) :: (0 : Int32) :: (0 : Int32) :: (0 : Int32) :: (0 : Int32) :: (0 : Int32) :: (0 : Int32) :: ys), (wrL [p5, (0 : Int32)] (1 : Int32) p6)] := O6
  have O6 : Obj Z n0 T2.heap h6 a1 "com/example/oakwright/oakwright/regex/MatchState" nFm [(.ref b0), (.ref b1), (.int (0 : Int32))] [b0, b1] [((0 : Int32) :: (0 : Int32) :: (0 : Int32) :: (0 : Int32) :: (0 : Int32) :: (0 : Int32) :: (0 : Int32) :: (0 : Int32) :: (0 : Int32) :: (0 : Int32) :: (0 : Int32) :: (0 : Int32) :: ys), [p5, p6]] := O6
  show Go p e below _ T6 (mkF m 79 #[.val (.int p1), .val (.int p2), .val (.int p3), .val (.int p4), .val (.int p5), .val (.int p6), .val (.int k0), .val (.int k1), .val (.int k2), .val (.int r0), .val (.int r1), .val (.int r2), .val (.int kk), .val (.ref a1), .unset, .unset] [])
  refine Go.to (fun _ => XS.aload X6.here hx rfl (hb hby at_79) rfl rfl) ?_
  show Go p e below _ T6 (mkF m 81 #[.val (.int p1), .val (.int p2), .val (.int p3), .val (.int p4), .val (.int p5), .val (.int p6), .val (.int k0), .val (.int k1), .val (.int k2), .val (.int r0), .val (.int r1), .val (.int r2), .val (.int kk), .val (.ref a1), .unset, .unset] [(.ref a1)])
  refine Go.to (fun _ => XS.iload X6.here hx rfl (hb hby at_81) rfl) ?_
  show Go p e below _ T6 (mkF m 83 #[.val (.int p1), .val (.int p2), .val (.int p3), .val (.int p4), .val (.int p5), .val (.int p6), .val (.int k0), .val (.int k1), .val (.int k2), .val (.int r0), .val (.int r1), .val (.int r2), .val (.int kk), .val (.ref a1), .unset, .unset] [(.int k0), (.ref a1)])
  refine Go.to (fun _ => XS.iload X6.here hx rfl (hb hby at_83) rfl) ?_
  show Go p e below _ T6 (mkF m 85 #[.val (.int p1), .val (.int p2), .val (.int p3), .val (.int p4), .val (.int p5), .val (.int p6), .val (.int k0), .val (.int k1), .val (.int k2), .val (.int r0), .val (.int r1), .val (.int r2), .val (.int kk), .val (.ref a1), .unset, .unset] [(.int r0), (.int k0), (.ref a1)])
  refine Go.to (fun _ => XS.iloadN X6.here hx rfl (hb hby at_85) rfl) ?_
  show Go p e below _ T6 (mkF m 86 #[.val (.int p1), .val (.int p2), .val (.int p3), .val (.int p4), .val (.int p5), .val (.int p6), .val (.int k0), .val (.int k1), .val (.int k2), .val (.int r0), .val (.int r1), .val (.int r2), .val (.int kk), .val (.ref a1), .unset, .unset] [(.int p2), (.int r0), (.int k0), (.ref a1)])
  refine Go.to (fun _ => XS.iloadN X6.here hx rfl (hb hby at_86) rfl) ?_
  show Go p e below _ T6 (mkF m 87 #[.val (.int p1), .val (.int p2), .val (.int p3), .val (.int p4), .val (.int p5), .val (.int p6), .val (.int k0), .val (.int k1), .val (.int k2), .val (.int r0), .val (.int r1), .val (.int r2), .val (.int kk), .val (.ref a1), .unset, .unset] [(.int p3), (.int p2), (.int r0), (.int k0), (.ref a1)])
  refine Go.callV (y := (⟨"com/example/oakwright/oakwright/regex/MatchState", "push", "(IIII)V"⟩ : MethodName)) X6 hx hZ hown (hw _ (List.mem_of_getElem? (i := 20) rfl)) (hw _ (List.mem_of_getElem? (i := 21) rfl)) (hw _ (List.mem_of_getElem? (i := 23) rfl)) (hw _ (List.mem_of_getElem? (i := 22) rfl)) (hw _ (List.mem_of_getElem? (i := 2) rfl)) (hw _ (List.mem_of_getElem? (i := 24) rfl)) (by decide) (rm4 l Z a0 hw [] a1 k0 r0 p2 p3 h6 n0 b0 b1 (0 : Int32) ((0 : Int32) :: (0 : Int32) :: (0 : Int32) :: (0 : Int32) :: (0 : Int32) :: (0 : Int32) :: (0 : Int32) :: (0 : Int32) :: (0 : Int32) :: (0 : Int32) :: (0 : Int32) :: (0 : Int32) :: ys) [p5, p6] O6.anew _ _ _ _ (own_len hyl (by decide)) rfl rfl rfl rfl) e6 O6.exa (by rw [hml]; rfl) (pd_2) rfl (argsL := [(.int k0), (.int r0), (.int p2), (.int p3)]) (rest := []) rfl rfl (hb hby at_87) (by decide) (Nat.le_of_ble_eq_true rfl) (by decide) (by decide) ?_
  rintro T7 _ L7 X7 ⟨rfl, N7, O7⟩
  have N7 := Fr.app N6 N7
  have O7 : Obj Z n0 T7.heap T7.heap a1 "com/example/oakwright/oakwright/regex/MatchState" nFm [.ref b0, .ref b1, .int (4 : Int32)] [b0, b1] [(k0 :: r0 :: p2 :: p3 :: (0 : Int32) :: (0 : Int32) :: (0 : Int32) :: (0 : Int32) :: (0 : Int32) :: (0 : Int32) :: (0 : Int32) :: (0 : Int32) :: ys), [p5, p6]] := by
    have O7 := O7.anew
    have q : (0 : Int32) + (4 : Int32) = (4 : Int32) := by decide
    rw [q] at O7; exact O7
  show Go p e below _ T7 (mkF m 90 #[.val (.int p1), .val (.int p2), .val (.int p3), .val (.int p4), .val (.int p5), .val (.int p6), .val (.int k0), .val (.int k1), .val (.int k2), .val (.int r0), .val (.int r1), .val (.int r2), .val (.int kk), .val (.ref a1), .unset, .unset] [])
  refine Go.to (fun _ => XS.aload X7.here hx rfl (hb hby at_90) rfl rfl) ?_
  show Go p e below _ T7 (mkF m 92 #[.val (.int p1), .val (.int p2), .val (.int p3), .val (.int p4), .val (.int p5), .val (.int p6), .val (.int k0), .val (.int k1), .val (.int k2), .val (.int r0), .val (.int r1), .val (.int r2), .val (.int kk), .val (.ref a1), .unset, .unset] [(.ref a1)])
  refine Go.to (fun _ => XS.iload X7.here hx rfl (hb hby at_92) rfl) ?_
  show Go p e below _ T7 (mkF m 94 #[.val (.int p1), .val (.int p2), .val (.int p3), .val (.int p4), .val (.int p5), .val (.int p6), .val (.int k0), .val (.int k1), .val (.int k2), .val (.int r0), .val (.int r1), .val (.int r2), .val (.int kk), .val (.ref a1), .unset, .unset] [(.int k1), (.ref a1)])
  refine Go.to (fun _ => XS.iload X7.here hx rfl (hb hby at_94) rfl) ?_
  show Go p e below _ T7 (mkF m 96 #[.val (.int p1), .val (.int p2), .val (.int p3), .val (.int p4), .val (.int p5), .val (.int p6), .val (.int k0), .val (.int k1), .val (.int k2), .val (.int r0), .val (.int r1), .val (.int r2), .val (.int kk), .val (.ref a1), .unset, .unset] [(.int r1), (.int k1), (.ref a1)])
  refine Go.to (fun _ => XS.iloadN X7.here hx rfl (hb hby at_96) rfl) ?_
  show Go p e below _ T7 (mkF m 97 #[.val (.int p1), .val (.int p2), .val (.int p3), .val (.int p4), .val (.int p5), .val (.int p6), .val (.int k0), .val (.int k1), .val (.int k2), .val (.int r0), .val (.int r1), .val (.int r2), .val (.int kk), .val (.ref a1), .unset, .unset] [(.int p3), (.int r1), (.int k1), (.ref a1)])
  refine Go.to (fun _ => XS.iloadN X7.here hx rfl (hb hby at_97) rfl) ?_
  show Go p e below _ T7 (mkF m 98 #[.val (.int p1), .val (.int p2), .val (.int p3), .val (.int p4), .val (.int p5), .val (.int p6), .val (.int k0), .val (.int k1), .val (.int k2), .val (.int r0), .val (.int r1), .val (.int r2), .val (.int kk), .val (.ref a1), .unset, .unset] [(.int p4), (.int p3), (.int r1), (.int k1), (.ref a1)])
  refine Go.callV (y := (⟨"com/example/oakwright/oakwright/regex/MatchState", "push", "(IIII)V"⟩ : MethodName)) X7 hx hZ hown (hw _ (List.mem_of_getElem? (i := 20) rfl)) (hw _ (List.mem_of_getElem? (i := 21) rfl)) (hw _ (List.mem_of_getElem? (i := 23) rfl)) (hw _ (List.mem_of_getElem? (i := 22) rfl)) (hw _ (List.mem_of_getElem? (i := 2) rfl)) (hw _ (List.mem_of_getElem? (i := 24) rfl)) (by decide) (rm4 l Z a0 hw [] a1 k1 r1 p3 p4 T7.heap n0 b0 b1 (4 : Int32) (k0 :: r0 :: p2 :: p3 :: (0 : Int32) :: (0 : Int32) :: (0 : Int32) :: (0 : Int32) :: (0 : Int32) :: (0 : Int32) :: (0 : Int32) :: (0 : Int32) :: ys) [p5, p6] O7.anew _ _ _ _ (own_len hyl (by decide)) rfl rfl rfl rfl) rfl O7.exa (by rw [hml]; rfl) (pd_2) rfl (argsL := [(.int k1), (.int r1), (.int p3), (.int p4)]) (rest := []) rfl rfl (hb hby at_98) (by decide) (Nat.le_of_ble_eq_true rfl) (by decide) (by decide) ?_
  rintro T8 _ L8 X8 ⟨rfl, N8, O8⟩
  have N8 := Fr.app N7 N8
  have O8 : Obj Z n0 T8.heap T8.heap a1 "com/example/oakwright/oakwright/regex/MatchState" nFm [.ref b0, .ref b1, .int (8 : Int32)] [b0, b1] [(k0 :: r0 :: p2 :: p3 :: k1 :: r1 :: p3 :: p4 :: (0 : Int32) :: (0 : Int32) :: (0 : Int32) :: (0 : Int32) :: ys), [p5, p6]] := by
    have O8 := O8.anew
    have q : (4 : Int32) + (4 : Int32) = (8 : Int32) := by decide
    rw [q] at O8; exact O8
  show Go p e below _ T8 (mkF m 101 #[.val (.int p1), .val (.int p2), .val (.int p3), .val (.int p4), .val (.int p5), .val (.int p6), .val (.int k0), .val (.int k1), .val (.int k2), .val (.int r0), .val (.int r1), .val (.int r2), .val (.int kk), .val (.ref a1), .unset, .unset] [])
  refine Go.to (fun _ => XS.aload X8.here hx rfl (hb hby at_101) rfl rfl) ?_
  show Go p e below _ T8 (mkF m 103 #[.val (.int p1), .val (.int p2), .val (.int p3), .val (.int p4), .val (.int p5), .val (.int p6), .val (.int k0), .val (.int k1), .val (.int k2), .val (.int r0), .val (.int r1), .val (.int r2), .val (.int kk), .val (.ref a1), .unset, .unset] [(.ref a1)])
  refine Go.to (fun _ => XS.iload X8.here hx rfl (hb hby at_103) rfl) ?_
  show Go p e below _ T8 (mkF m 105 #[.val (.int p1), .val (.int p2), .val (.int p3), .val (.int p4), .val (.int p5), .val (.int p6), .val (.int k0), .val (.int k1), .val (.int k2), .val (.int r0), .val (.int r1), .val (.int r2), .val (.int kk), .val (.ref a1), .unset, .unset] [(.int k2), (.ref a1)])
  refine Go.to (fun _ => XS.iload X8.here hx rfl (hb hby at_105) rfl) ?_
  show Go p e below _ T8 (mkF m 107 #[.val (.int p1), .val (.int p2), .val (.int p3), .val (.int p4), .val (.int p5), .val (.int p6), .val (.int k0), .val (.int k1), .val (.int k2), .val (.int r0), .val (.int r1), .val (.int r2), .val (.int kk), .val (.ref a1), .unset, .unset] [(.int r2), (.int k2), (.ref a1)])
  refine Go.to (fun _ => XS.iloadN X8.here hx rfl (hb hby at_107) rfl) ?_
  show Go p e below _ T8 (mkF m 108 #[.val (.int p1), .val (.int p2), .val (.int p3), .val (.int p4), .val (.int p5), .val (.int p6), .val (.int k0), .val (.int k1), .val (.int k2), .val (.int r0), .val (.int r1), .val (.int r2), .val (.int kk), .val (.ref a1), .unset, .unset] [(.int p4), (.int r2), (.int k2), (.ref a1)])
  refine Go.to (fun _ => XS.iloadN X8.here hx rfl (hb hby at_108) rfl) ?_
  show Go p e below _ T8 (mkF m 109 #[.val (.int p1), .val (.int p2), .val (.int p3), .val (.int p4), .val (.int p5), .val (.int p6), .val (.int k0), .val (.int k1), .val (.int k2), .val (.int r0), .val (.int r1), .val (.int r2), .val (.int kk), .val (.ref a1), .unset, .unset] [(.int p2), (.int p4), (.int r2), (.int k2), (.ref a1)])
  refine Go.callV (y := (⟨"com/example/oakwright/oakwright/regex/MatchState", "push", "(IIII)V"⟩ : MethodName)) X8 hx hZ hown (hw _ (List.mem_of_getElem? (i := 20) rfl)) (hw _ (List.mem_of_getElem? (i := 21) rfl)) (hw _ (List.mem_of_getElem? (i := 23) rfl)) (hw _ (List.mem_of_getElem? (i := 22) rfl)) (hw _ (List.mem_of_getElem? (i := 2) rfl)) (hw _ (List.mem_of_getElem? (i := 24) rfl)) (by decide) (rm4 l Z a0 hw [] a1 k2 r2 p4 p2 T8.heap n0 b0 b1 (8 : Int32) (k0 :: r0 :: p2 :: p3 :: k1 :: r1 :: p3 :: p4 :: (0 : Int32) :: (0 : Int32) :: (0 : Int32) :: (0 : Int32) :: ys) [p5, p6] O8.anew _ _ _ _ (own_len hyl (by decide)) rfl rfl rfl rfl) rfl O8.exa (by rw [hml]; rfl) (pd_2) rfl (argsL := [(.int k2), (.int r2), (.int p4), (.int p2)]) (rest := []) rfl rfl (hb hby at_109) (by decide) (Nat.le_of_ble_eq_true rfl) (by decide) (by decide) ?_
  rintro T9 _ L9 X9 ⟨rfl, N9, O9⟩
  have N9 := Fr.app N8 N9
  have O9 : Obj Z n0 T9.heap T9.heap a1 "com/example/oakwright/oakwright/regex/MatchState" nFm [.ref b0, .ref b1, .int (12 : Int32)] [b0, b1] [(k0 :: r0 :: p2 :: p3 :: k1 :: r1 :: p3 :: p4 :: k2 :: r2 :: p4 :: p2 :: ys), [p5, p6]] := by
    have O9 := O9.anew
    have q : (8 : Int32) + (4 : Int32) = (12 : Int32) := by decide
    rw [q] at O9; exact O9
  show Go p e below _ T9 (mkF m 112 #[.val (.int p1), .val (.int p2), .val (.int p3), .val (.int p4), .val (.int p5), .val (.int p6), .val (.int k0), .val (.int k1), .val (.int k2), .val (.int r0), .val (.int r1), .val (.int r2), .val (.int kk), .val (.ref a1), .unset, .unset] [])
  refine Go.to (fun _ => XS.aload X9.here hx rfl (hb hby at_112) rfl rfl) ?_
  show Go p e below _ T9 (mkF m 114 #[.val (.int p1), .val (.int p2), .val (.int p3), .val (.int p4), .val (.int p5), .val (.int p6), .val (.int k0), .val (.int k1), .val (.int k2), .val (.int r0), .val (.int r1), .val (.int r2), .val (.int kk), .val (.ref a1), .unset, .unset] [(.ref a1)])
  refine Go.to (fun _ => XS.iconst X9.here hx rfl (hb hby at_114)) ?_
  show Go p e below _ T9 (mkF m 115 #[.val (.int p1), .val (.int p2), .val (.int p3), .val (.int p4), .val (.int p5), .val (.int p6), .val (.int k0), .val (.int k1), .val (.int k2), .val (.int r0), .val (.int r1), .val (.int r2), .val (.int kk), .val (.ref a1), .unset, .unset] [(.int (4 : Int32)), (.ref a1)])
  refine Go.to (fun _ => XS.iload X9.here hx rfl (hb hby at_115) rfl) ?_
  show Go p e below _ T9 (mkF m 117 #[.val (.int p1), .val (.int p2), .val (.int p3), .val (.int p4), .val (.int p5), .val (.int p6), .val (.int k0), .val (.int k1), .val (.int k2), .val (.int r0), .val (.int r1), .val (.int r2), .val (.int kk), .val (.ref a1), .unset, .unset] [(.int kk), (.int (4 : Int32)), (.ref a1)])
  refine Go.to (fun _ => XS.imul X9.here hx rfl (hb hby at_117) rfl) ?_
  show Go p e below _ T9 (mkF m 118 #[.val (.int p1), .val (.int p2), .val (.int p3), .val (.int p4), .val (.int p5), .val (.int p6), .val (.int k0), .val (.int k1), .val (.int k2), .val (.int r0), .val (.int r1), .val (.int r2), .val (.int kk), .val (.ref a1), .unset, .unset] [(.int ((4 : Int32) * kk)), (.ref a1)])
  obtain ⟨tp', g0, g1, hu, ht, hg0, hg1⟩ := own_law p2 p3 p4 p5 p6 k0 k1 k2 r0 r1 r2 kk ys hR0 hR1 hR2 hKK
  refine Go.callV (y := (⟨"com/example/oakwright/oakwright/regex/MatchState", "unwindTo", "(I)V"⟩ : MethodName)) X9 hx hZ hown (hw _ (List.mem_of_getElem? (i := 27) rfl)) (hw _ (List.mem_of_getElem? (i := 28) rfl)) (hw _ (List.mem_of_getElem? (i := 30) rfl)) (hw _ (List.mem_of_getElem? (i := 29) rfl)) (hw _ (List.mem_of_getElem? (i := 2) rfl)) (hw _ (List.mem_of_getElem? (i := 31) rfl)) (by decide) (rm5 l Z a0 hw [] a1 ((4 : Int32) * kk) T9.heap n0 b0 b1 (12 : Int32) (k0 :: r0 :: p2 :: p3 :: k1 :: r1 :: p3 :: p4 :: k2 :: r2 :: p4 :: p2 :: ys) [p5, p6] O9.anew 5 tp' [g0, g1] hu) rfl O9.exa (by rw [hml]; rfl) (pd_1) rfl (argsL := [(.int ((4 : Int32) * kk))]) (rest := []) rfl rfl (hb hby at_118) (by decide) (Nat.le_of_ble_eq_true rfl) (by decide) (by decide) ?_
  rintro T10 _ L10 X10 ⟨rfl, N10, O10⟩
  have N10 := Fr.app N9 N10
  have O10 := O10.anew
  show Go p e below _ T10 (mkF m 121 #[.val (.int p1), .val (.int p2), .val (.int p3), .val (.int p4), .val (.int p5), .val (.int p6), .val (.int k0), .val (.int k1), .val (.int k2), .val (.int r0), .val (.int r1), .val (.int r2), .val (.int kk), .val (.ref a1), .unset, .unset] [])
  refine Go.to (fun _ => XS.iconst X10.here hx rfl (hb hby at_121)) ?_
  show Go p e below _ T10 (mkF m 122 #[.val (.int p1), .val (.int p2), .val (.int p3), .val (.int p4), .val (.int p5), .val (.int p6), .val (.int k0), .val (.int k1), .val (.int k2), .val (.int r0), .val (.int r1), .val (.int r2), .val (.int kk), .val (.ref a1), .unset, .unset] [(.int (0 : Int32))])
  refine Go.to (fun _ => XS.iload X10.here hx rfl (hb hby at_122) rfl) ?_
  show Go p e below _ T10 (mkF m 124 #[.val (.int p1), .val (.int p2), .val (.int p3), .val (.int p4), .val (.int p5), .val (.int p6), .val (.int k0), .val (.int k1), .val (.int k2), .val (.int r0), .val (.int r1), .val (.int r2), .val (.int kk), .val (.ref a1), .unset, .unset] [(.int p5), (.int (0 : Int32))])
  refine Go.to (fun _ => XS.iload X10.here hx rfl (hb hby at_124) rfl) ?_
  show Go p e below _ T10 (mkF m 126 #[.val (.int p1), .val (.int p2), .val (.int p3), .val (.int p4), .val (.int p5), .val (.int p6), .val (.int k0), .val (.int k1), .val (.int k2), .val (.int r0), .val (.int r1), .val (.int r2), .val (.int kk), .val (.ref a1), .unset, .unset] [(.int kk), (.int p5), (.int (0 : Int32))])
  refine Go.to (fun _ => XS.iload X10.here hx rfl (hb hby at_126) rfl) ?_
  show Go p e below _ T10 (mkF m 128 #[.val (.int p1), .val (.int p2), .val (.int p3), .val (.int p4), .val (.int p5), .val (.int p6), .val (.int k0), .val (.int k1), .val (.int k2), .val (.int r0), .val (.int r1), .val (.int r2), .val (.int kk), .val (.ref a1), .unset, .unset] [(.int k0), (.int kk), (.int p5), (.int (0 : Int32))])
  refine Go.to (fun _ => XS.iload X10.here hx rfl (hb hby at_128) rfl) ?_
  show Go p e below _ T10 (mkF m 130 #[.val (.int p1), .val (.int p2), .val (.int p3), .val (.int p4), .val (.int p5), .val (.int p6), .val (.int k0), .val (.int k1), .val (.int k2), .val (.int r0), .val (.int r1), .val (.int r2), .val (.int kk), .val (.ref a1), .unset, .unset] [(.int r0), (.int k0), (.int kk), (.int p5), (.int (0 : Int32))])
  refine Go.to (fun _ => XS.iloadN X10.here hx rfl (hb hby at_130) rfl) ?_
  show Go p e below _ T10 (mkF m 131 #[.val (.int p1), .val (.int p2), .val (.int p3), .val (.int p4), .val (.int p5), .val (.int p6), .val (.int k0), .val (.int k1), .val (.int k2), .val (.int r0), .val (.int r1), .val (.int r2), .val (.int kk), .val (.ref a1), .unset, .unset] [(.int p2), (.int r0), (.int k0), (.int kk), (.int p5), (.int (0 : Int32))])
  refine Go.to (fun _ => XS.iload X10.here hx rfl (hb hby at_131) rfl) ?_
  show Go p e below _ T10 (mkF m 133 #[.val (.int p1), .val (.int p2), .val (.int p3), .val (.int p4), .val (.int p5), .val (.int p6), .val (.int k0), .val (.int k1), .val (.int k2), .val (.int r0), .val (.int r1), .val (.int r2), .val (.int kk), .val (.ref a1), .unset, .unset] [(.int k1), (.int p2), (.int r0), (.int k0), (.int kk), (.int p5), (.int (0 : Int32))])
  refine Go.to (fun _ => XS.iload X10.here hx rfl (hb hby at_133) rfl) ?_
  show Go p e below _ T10 (mkF m 135 #[.val (.int p1), .val (.int p2), .val (.int p3), .val (.int p4), .val (.int p5), .val (.int p6), .val (.int k0), .val (.int k1), .val (.int k2), .val (.int r0), .val (.int r1), .val (.int r2), .val (.int kk), .val (.ref a1), .unset, .unset] [(.int r1), (.int k1), (.int p2), (.int r0), (.int k0), (.int kk), (.int p5), (.int (0 : Int32))])
  refine Go.to (fun _ => XS.iloadN X10.here hx rfl (hb hby at_135) rfl) ?_
  show Go p e below _ T10 (mkF m 136 #[.val (.int p1), .val (.int p2), .val (.int p3), .val (.int p4), .val (.int p5), .val (.int p6), .val (.int k0), .val (.int k1), .val (.int k2), .val (.int r0), .val (.int r1), .val (.int r2), .val (.int kk), .val (.ref a1), .unset, .unset] [(.int p3), (.int r1), (.int k1), (.int p2), (.int r0), (.int k0), (.int kk), (.int p5), (.int (0 : Int32))])
  refine Go.to (fun _ => XS.iload X10.here hx rfl (hb hby at_136) rfl) ?_
  show Go p e below _ T10 (mkF m 138 #[.val (.int p1), .val (.int p2), .val (.int p3), .val (.int p4), .val (.int p5), .val (.int p6), .val (.int k0), .val (.int k1), .val (.int k2), .val (.int r0), .val (.int r1), .val (.int r2), .val (.int kk), .val (.ref a1), .unset, .unset] [(.int k2), (.int p3), (.int r1), (.int k1), (.int p2), (.int r0), (.int k0), (.int kk), (.int p5), (.int (0 : Int32))])
  refine Go.to (fun _ => XS.iload X10.here hx rfl (hb hby at_138) rfl) ?_
  show Go p e below _ T10 (mkF m 140 #[.val (.int p1), .val (.int p2), .val (.int p3), .val (.int p4), .val (.int p5), .val (.int p6), .val (.int k0), .val (.int k1), .val (.int k2), .val (.int r0), .val (.int r1), .val (.int r2), .val (.int kk), .val (.ref a1), .unset, .unset] [(.int r2), (.int k2), (.int p3), (.int r1), (.int k1), (.int p2), (.int r0), (.int k0), (.int kk), (.int p5), (.int (0 : Int32))])
  refine Go.to (fun _ => XS.iloadN X10.here hx rfl (hb hby at_140) rfl) ?_
  show Go p e below _ T10 (mkF m 141 #[.val (.int p1), .val (.int p2), .val (.int p3), .val (.int p4), .val (.int p5), .val (.int p6), .val (.int k0), .val (.int k1), .val (.int k2), .val (.int r0), .val (.int r1), .val (.int r2), .val (.int kk), .val (.ref a1), .unset, .unset] [(.int p4), (.int r2), (.int k2), (.int p3), (.int r1), (.int k1), (.int p2), (.int r0), (.int k0), (.int kk), (.int p5), (.int (0 : Int32))])
  refine Go.callS (y := (⟨"com/example/oakwright/oakwright/regex/MatchStateUnwindToPinLaw", "expect", "(IIIIIIIIIIII)I"⟩ : MethodName)) X10 hx hZ hown (hw _ (List.mem_of_getElem? (i := 32) rfl)) (hw _ (List.mem_of_getElem? (i := 33) rfl)) (hw _ (List.mem_of_getElem? (i := 34) rfl)) (hw _ (List.mem_of_getElem? (i := 35) rfl)) (by decide) (rm6 l Z a0 hw [] (0 : Int32) p5 kk k0 r0 p2 k1 r1 p3 k2 r2 p4 T10.heap) rfl (by rw [hml]; rfl) (pd_3) rfl (argsL := [(.int (0 : Int32)), (.int p5), (.int kk), (.int k0), (.int r0), (.int p2), (.int k1), (.int r1), (.int p3), (.int k2), (.int r2), (.int p4)]) (rest := []) rfl rfl (hb hby at_141) (by decide) (Nat.le_of_ble_eq_true rfl) (by decide) (by decide) ?_
  rintro T11 _ L11 X11 ⟨rfl, e11, rfl⟩
  simp only [List.append_nil] at X11
  show Go p e below _ T11 (mkF m 144 #[.val (.int p1), .val (.int p2), .val (.int p3), .val (.int p4), .val (.int p5), .val (.int p6), .val (.int k0), .val (.int k1), .val (.int k2), .val (.int r0), .val (.int r1), .val (.int r2), .val (.int kk), .val (.ref a1), .unset, .unset] [(.int (fE (0 : Int32) p5 kk k0 r0 p2 k1 r1 p3 k2 r2 p4))])
  refine Go.to (fun _ => XS.istore X11.here hx rfl (hb hby at_144) rfl (l' := #[.val (.int p1), .val (.int p2), .val (.int p3), .val (.int p4), .val (.int p5), .val (.int p6), .val (.int k0), .val (.int k1), .val (.int k2), .val (.int r0), .val (.int r1), .val (.int r2), .val (.int kk), .val (.ref a1), .val (.int (fE (0 : Int32) p5 kk k0 r0 p2 k1 r1 p3 k2 r2 p4)), .unset]) rfl) ?_
  show Go p e below _ T11 (mkF m 146 #[.val (.int p1), .val (.int p2), .val (.int p3), .val (.int p4), .val (.int p5), .val (.int p6), .val (.int k0), .val (.int k1), .val (.int k2), .val (.int r0), .val (.int r1), .val (.int r2), .val (.int kk), .val (.ref a1), .val (.int (fE (0 : Int32) p5 kk k0 r0 p2 k1 r1 p3 k2 r2 p4)), .unset] [])
  refine Go.to (fun _ => XS.iconst X11.here hx rfl (hb hby at_146)) ?_
  show Go p e below _ T11 (mkF m 147 #[.val (.int p1), .val (.int p2), .val (.int p3), .val (.int p4), .val (.int p5), .val (.int p6), .val (.int k0), .val (.int k1), .val (.int k2), .val (.int r0), .val (.int r1), .val (.int r2), .val (.int kk), .val (.ref a1), .val (.int (fE (0 : Int32) p5 kk k0 r0 p2 k1 r1 p3 k2 r2 p4)), .unset] [(.int (1 : Int32))])
  refine Go.to (fun _ => XS.iload X11.here hx rfl (hb hby at_147) rfl) ?_
  show Go p e below _ T11 (mkF m 149 #[.val (.int p1), .val (.int p2), .val (.int p3), .val (.int p4), .val (.int p5), .val (.int p6), .val (.int k0), .val (.int k1), .val (.int k2), .val (.int r0), .val (.int r1), .val (.int r2), .val (.int kk), .val (.ref a1), .val (.int (fE (0 : Int32) p5 kk k0 r0 p2 k1 r1 p3 k2 r2 p4)), .unset] [(.int p6), (.int (1 : Int32))])
  refine Go.to (fun _ => XS.iload X11.here hx rfl (hb hby at_149) rfl) ?_
  show Go p e below _ T11 (mkF m 151 #[.val (.int p1), .val (.int p2), .val (.int p3), .val (.int p4), .val (.int p5), .val (.int p6), .val (.int k0), .val (.int k1), .val (.int k2), .val (.int r0), .val (.int r1), .val (.int r2), .val (.int kk), .val (.ref a1), .val (.int (fE (0 : Int32) p5 kk k0 r0 p2 k1 r1 p3 k2 r2 p4)), .unset] [(.int kk), (.int p6), (.int (1 : Int32))])
  refine Go.to (fun _ => XS.iload X11.here hx rfl (hb hby at_151) rfl) ?_
  show Go p e below _ T11 (mkF m 153 #[.val (.int p1), .val (.int p2), .val (.int p3), .val (.int p4), .val (.int p5), .val (.int p6), .val (.int k0), .val (.int k1), .val (.int k2), .val (.int r0), .val (.int r1), .val (.int r2), .val (.int kk), .val (.ref a1), .val (.int (fE (0 : Int32) p5 kk k0 r0 p2 k1 r1 p3 k2 r2 p4)), .unset] [(.int k0), (.int kk), (.int p6), (.int (1 : Int32))])
  refine Go.to (fun _ => XS.iload X11.here hx rfl (hb hby at_153) rfl) ?_
  show Go p e below _ T11 (mkF m 155 #[.val (.int p1), .val (.int p2), .val (.int p3), .val (.int p4), .val (.int p5), .val (.int p6), .val (.int k0), .val (.int k1), .val (.int k2), .val (.int r0), .val (.int r1), .val (.int r2), .val (.int kk), .val (.ref a1), .val (.int (fE (0 : Int32) p5 kk k0 r0 p2 k1 r1 p3 k2 r2 p4)), .unset] [(.int r0), (.int k0), (.int kk), (.int p6), (.int (1 : Int32))])
  refine Go.to (fun _ => XS.iloadN X11.here hx rfl (hb hby at_155) rfl) ?_
  show Go p e below _ T11 (mkF m 156 #[.val (.int p1), .val (.int p2), .val (.int p3), .val (.int p4), .val (.int p5), .val (.int p6), .val (.int k0), .val (.int k1), .val (.int k2), .val (.int r0), .val (.int r1), .val (.int r2), .val (.int kk), .val (.ref a1), .val (.int (fE (0 : Int32) p5 kk k0 r0 p2 k1 r1 p3 k2 r2 p4)), .unset] [(.int p2), (.int r0), (.int k0), (.int kk), (.int p6), (.int (1 : Int32))])
  refine Go.to (fun _ => XS.iload X11.here hx rfl (hb hby at_156) rfl) ?_
  show Go p e below _ T11 (mkF m 158 #[.val (.int p1), .val (.int p2), .val (.int p3), .val (.int p4), .val (.int p5), .val (.int p6), .val (.int k0), .val (.int k1), .val (.int k2), .val (.int r0), .val (.int r1), .val (.int r2), .val (.int kk), .val (.ref a1), .val (.int (fE (0 : Int32) p5 kk k0 r0 p2 k1 r1 p3 k2 r2 p4)), .unset] [(.int k1), (.int p2), (.int r0), (.int k0), (.int kk), (.int p6), (.int (1 : Int32))])
  refine Go.to (fun _ => XS.iload X11.here hx rfl (hb hby at_158) rfl) ?_
  show Go p e below _ T11 (mkF m 160 #[.val (.int p1), .val (.int p2), .val (.int p3), .val (.int p4), .val (.int p5), .val (.int p6), .val (.int k0), .val (.int k1), .val (.int k2), .val (.int r0), .val (.int r1), .val (.int r2), .val (.int kk), .val (.ref a1), .val (.int (fE (0 : Int32) p5 kk k0 r0 p2 k1 r1 p3 k2 r2 p4)), .unset] [(.int r1), (.int k1), (.int p2), (.int r0), (.int k0), (.int kk), (.int p6), (.int (1 : Int32))])
  refine Go.to (fun _ => XS.iloadN X11.here hx rfl (hb hby at_160) rfl) ?_
  show Go p e below _ T11 (mkF m 161 #[.val (.int p1), .val (.int p2), .val (.int p3), .val (.int p4), .val (.int p5), .val (.int p6), .val (.int k0), .val (.int k1), .val (.int k2), .val (.int r0), .val (.int r1), .val (.int r2), .val (.int kk), .val (.ref a1), .val (.int (fE (0 : Int32) p5 kk k0 r0 p2 k1 r1 p3 k2 r2 p4)), .unset] [(.int p3), (.int r1), (.int k1), (.int p2), (.int r0), (.int k0), (.int kk), (.int p6), (.int (1 : Int32))])
  refine Go.to (fun _ => XS.iload X11.here hx rfl (hb hby at_161) rfl) ?_
  show Go p e below _ T11 (mkF m 163 #[.val (.int p1), .val (.int p2), .val (.int p3), .val (.int p4), .val (.int p5), .val (.int p6), .val (.int k0), .val (.int k1), .val (.int k2), .val (.int r0), .val (.int r1), .val (.int r2), .val (.int kk), .val (.ref a1), .val (.int (fE (0 : Int32) p5 kk k0 r0 p2 k1 r1 p3 k2 r2 p4)), .unset] [(.int k2), (.int p3), (.int r1), (.int k1), (.int p2), (.int r0), (.int k0), (.int kk), (.int p6), (.int (1 : Int32))])
  refine Go.to (fun _ => XS.iload X11.here hx rfl (hb hby at_163) rfl) ?_
  show Go p e below _ T11 (mkF m 165 #[.val (.int p1), .val (.int p2), .val (.int p3), .val (.int p4), .val (.int p5), .val (.int p6), .val (.int k0), .val (.int k1), .val (.int k2), .val (.int r0), .val (.int r1), .val (.int r2), .val (.int kk), .val (.ref a1), .val (.int (fE (0 : Int32) p5 kk k0 r0 p2 k1 r1 p3 k2 r2 p4)), .unset] [(.int r2), (.int k2), (.int p3), (.int r1), (.int k1), (.int p2), (.int r0), (.int k0), (.int kk), (.int p6), (.int (1 : Int32))])
  refine Go.to (fun _ => XS.iloadN X11.here hx rfl (hb hby at_165) rfl) ?_
  show Go p e below _ T11 (mkF m 166 #[.val (.int p1), .val (.int p2), .val (.int p3), .val (.int p4), .val (.int p5), .val (.int p6), .val (.int k0), .val (.int k1), .val (.int k2), .val (.int r0), .val (.int r1), .val (.int r2), .val (.int kk), .val (.ref a1), .val (.int (fE (0 : Int32) p5 kk k0 r0 p2 k1 r1 p3 k2 r2 p4)), .unset] [(.int p4), (.int r2), (.int k2), (.int p3), (.int r1), (.int k1), (.int p2), (.int r0), (.int k0), (.int kk), (.int p6), (.int (1 : Int32))])
  refine Go.callS (y := (⟨"com/example/oakwright/oakwright/regex/MatchStateUnwindToPinLaw", "expect", "(IIIIIIIIIIII)I"⟩ : MethodName)) X11 hx hZ hown (hw _ (List.mem_of_getElem? (i := 32) rfl)) (hw _ (List.mem_of_getElem? (i := 33) rfl)) (hw _ (List.mem_of_getElem? (i := 34) rfl)) (hw _ (List.mem_of_getElem? (i := 35) rfl)) (by decide) (rm6 l Z a0 hw [] (1 : Int32) p6 kk k0 r0 p2 k1 r1 p3 k2 r2 p4 T10.heap) e11 (by rw [hml]; rfl) (pd_3) rfl (argsL := [(.int (1 : Int32)), (.int p6), (.int kk), (.int k0), (.int r0), (.int p2), (.int k1), (.int r1), (.int p3), (.int k2), (.int r2), (.int p4)]) (rest := []) rfl rfl (hb hby at_166) (by decide) (Nat.le_of_ble_eq_true rfl) (by decide) (by decide) ?_
  rintro T12 _ L12 X12 ⟨rfl, e12, rfl⟩
  simp only [List.append_nil] at X12
  show Go p e below _ T12 (mkF m 169 #[.val (.int p1), .val (.int p2), .val (.int p3), .val (.int p4), .val (.int p5), .val (.int p6), .val (.int k0), .val (.int k1), .val (.int k2), .val (.int r0), .val (.int r1), .val (.int r2), .val (.int kk), .val (.ref a1), .val (.int (fE (0 : Int32) p5 kk k0 r0 p2 k1 r1 p3 k2 r2 p4)), .unset] [(.int (fE (1 : Int32) p6 kk k0 r0 p2 k1 r1 p3 k2 r2 p4))])
  refine Go.to (fun _ => XS.istore X12.here hx rfl (hb hby at_169) rfl (l' := #[.val (.int p1), .val (.int p2), .val (.int p3), .val (.int p4), .val (.int p5), .val (.int p6), .val (.int k0), .val (.int k1), .val (.int k2), .val (.int r0), .val (.int r1), .val (.int r2), .val (.int kk), .val (.ref a1), .val (.int (fE (0 : Int32) p5 kk k0 r0 p2 k1 r1 p3 k2 r2 p4)), .val (.int (fE (1 : Int32) p6 kk k0 r0 p2 k1 r1 p3 k2 r2 p4))]) rfl) ?_
  show Go p e below _ T12 (mkF m 171 #[.val (.int p1), .val (.int p2), .val (.int p3), .val (.int p4), .val (.int p5), .val (.int p6), .val (.int k0), .val (.int k1), .val (.int k2), .val (.int r0), .val (.int r1), .val (.int r2), .val (.int kk), .val (.ref a1), .val (.int (fE (0 : Int32) p5 kk k0 r0 p2 k1 r1 p3 k2 r2 p4)), .val (.int (fE (1 : Int32) p6 kk k0 r0 p2 k1 r1 p3 k2 r2 p4))] [])
  refine Go.to (fun _ => XS.aload X12.here hx rfl (hb hby at_171) rfl rfl) ?_
  show Go p e below _ T12 (mkF m 173 #[.val (.int p1), .val (.int p2), .val (.int p3), .val (.int p4), .val (.int p5), .val (.int p6), .val (.int k0), .val (.int k1), .val (.int k2), .val (.int r0), .val (.int r1), .val (.int r2), .val (.int kk), .val (.ref a1), .val (.int (fE (0 : Int32) p5 kk k0 r0 p2 k1 r1 p3 k2 r2 p4)), .val (.int (fE (1 : Int32) p6 kk k0 r0 p2 k1 r1 p3 k2 r2 p4))] [(.ref a1)])
  refine Go.oget (f := ("top", "I")) X12 hx hZ hown (hw _ (List.mem_of_getElem? (i := 36) rfl)) e12 O10 (k := 2) rfl rfl (hb hby at_173) ?_
  intro T13 X13 e13
  show Go p e below _ T13 (mkF m 176 #[.val (.int p1), .val (.int p2), .val (.int p3), .val (.int p4), .val (.int p5), .val (.int p6), .val (.int k0), .val (.int k1), .val (.int k2), .val (.int r0), .val (.int r1), .val (.int r2), .val (.int kk), .val (.ref a1), .val (.int (fE (0 : Int32) p5 kk k0 r0 p2 k1 r1 p3 k2 r2 p4)), .val (.int (fE (1 : Int32) p6 kk k0 r0 p2 k1 r1 p3 k2 r2 p4))] [(.int tp')])
  refine Go.to (fun _ => XS.bipush X13.here hx rfl (hb hby at_176)) ?_
  show Go p e below _ T13 (mkF m 178 #[.val (.int p1), .val (.int p2), .val (.int p3), .val (.int p4), .val (.int p5), .val (.int p6), .val (.int k0), .val (.int k1), .val (.int k2), .val (.int r0), .val (.int r1), .val (.int r2), .val (.int kk), .val (.ref a1), .val (.int (fE (0 : Int32) p5 kk k0 r0 p2 k1 r1 p3 k2 r2 p4)), .val (.int (fE (1 : Int32) p6 kk k0 r0 p2 k1 r1 p3 k2 r2 p4))] [(.int (12 : Int32)), (.int tp')])
  refine Go.to (fun _ => XS.iconst X13.here hx rfl (hb hby at_178)) ?_
  show Go p e below _ T13 (mkF m 179 #[.val (.int p1), .val (.int p2), .val (.int p3), .val (.int p4), .val (.int p5), .val (.int p6), .val (.int k0), .val (.int k1), .val (.int k2), .val (.int r0), .val (.int r1), .val (.int r2), .val (.int kk), .val (.ref a1), .val (.int (fE (0 : Int32) p5 kk k0 r0 p2 k1 r1 p3 k2 r2 p4)), .val (.int (fE (1 : Int32) p6 kk k0 r0 p2 k1 r1 p3 k2 r2 p4))] [(.int (4 : Int32)), (.int (12 : Int32)), (.int tp')])
  refine Go.to (fun _ => XS.iload X13.here hx rfl (hb hby at_179) rfl) ?_
  show Go p e below _ T13 (mkF m 181 #[.val (.int p1), .val (.int p2), .val (.int p3), .val (.int p4), .val (.int p5), .val (.int p6), .val (.int k0), .val (.int k1), .val (.int k2), .val (.int r0), .val (.int r1), .val (.int r2), .val (.int kk), .val (.ref a1), .val (.int (fE (0 : Int32) p5 kk k0 r0 p2 k1 r1 p3 k2 r2 p4)), .val (.int (fE (1 : Int32) p6 kk k0 r0 p2 k1 r1 p3 k2 r2 p4))] [(.int kk), (.int (4 : Int32)), (.int (12 : Int32)), (.int tp')])
  refine Go.to (fun _ => XS.imul X13.here hx rfl (hb hby at_181) rfl) ?_
  show Go p e below _ T13 (mkF m 182 #[.val (.int p1), .val (.int p2), .val (.int p3), .val (.int p4), .val (.int p5), .val (.int p6), .val (.int k0), .val (.int k1), .val (.int k2), .val (.int r0), .val (.int r1), .val (.int r2), .val (.int kk), .val (.ref a1), .val (.int (fE (0 : Int32) p5 kk k0 r0 p2 k1 r1 p3 k2 r2 p4)), .val (.int (fE (1 : Int32) p6 kk k0 r0 p2 k1 r1 p3 k2 r2 p4))] [(.int ((4 : Int32) * kk)), (.int (12 : Int32)), (.int tp')])
  refine Go.callS (y := (⟨"java/lang/Math", "min", "(II)I"⟩ : MethodName)) X13 hx hZ hown (hw _ (List.mem_of_getElem? (i := 37) rfl)) (hw _ (List.mem_of_getElem? (i := 38) rfl)) (hw _ (List.mem_of_getElem? (i := 39) rfl)) (hw _ (List.mem_of_getElem? (i := 40) rfl)) (by decide) (rm7 l Z a0 hw [] (12 : Int32) ((4 : Int32) * kk) T10.heap) e13 (by rw [hml]; rfl) (pd_4) rfl (argsL := [(.int (12 : Int32)), (.int ((4 : Int32) * kk))]) (rest := [(.int tp')]) rfl rfl (hb hby at_182) (by decide) (Nat.le_of_ble_eq_true rfl) (by decide) (by decide) ?_
  rintro T14 _ L14 X14 ⟨rfl, e14, rfl⟩
  simp only [List.append_nil] at X14
  show Go p e below _ T14 (mkF m 185 #[.val (.int p1), .val (.int p2), .val (.int p3), .val (.int p4), .val (.int p5), .val (.int p6), .val (.int k0), .val (.int k1), .val (.int k2), .val (.int r0), .val (.int r1), .val (.int r2), .val (.int kk), .val (.ref a1), .val (.int (fE (0 : Int32) p5 kk k0 r0 p2 k1 r1 p3 k2 r2 p4)), .val (.int (fE (1 : Int32) p6 kk k0 r0 p2 k1 r1 p3 k2 r2 p4))] [(.int (fM (12 : Int32) ((4 : Int32) * kk))), (.int tp')])
  refine Go.to (fun _ => XS.icmpNo X14.here hx rfl (hb hby at_185) rfl (teq ht).2) ?_
  show Go p e below _ T14 (mkF m 188 #[.val (.int p1), .val (.int p2), .val (.int p3), .val (.int p4), .val (.int p5), .val (.int p6), .val (.int k0), .val (.int k1), .val (.int k2), .val (.int r0), .val (.int r1), .val (.int r2), .val (.int kk), .val (.ref a1), .val (.int (fE (0 : Int32) p5 kk k0 r0 p2 k1 r1 p3 k2 r2 p4)), .val (.int (fE (1 : Int32) p6 kk k0 r0 p2 k1 r1 p3 k2 r2 p4))] [])
  refine Go.to (fun _ => XS.aload X14.here hx rfl (hb hby at_188) rfl rfl) ?_
  show Go p e below _ T14 (mkF m 190 #[.val (.int p1), .val (.int p2), .val (.int p3), .val (.int p4), .val (.int p5), .val (.int p6), .val (.int k0), .val (.int k1), .val (.int k2), .val (.int r0), .val (.int r1), .val (.int r2), .val (.int kk), .val (.ref a1), .val (.int (fE (0 : Int32) p5 kk k0 r0 p2 k1 r1 p3 k2 r2 p4)), .val (.int (fE (1 : Int32) p6 kk k0 r0 p2 k1 r1 p3 k2 r2 p4))] [(.ref a1)])
  refine Go.oget (f := ("registers", "[I")) X14 hx hZ hown (hw _ (List.mem_of_getElem? (i := 19) rfl)) e14 O10 (k := 1) rfl rfl (hb hby at_190) ?_
  intro T15 X15 e15
  show Go p e below _ T15 (mkF m 193 #[.val (.int p1), .val (.int p2), .val (.int p3), .val (.int p4), .val (.int p5), .val (.int p6), .val (.int k0), .val (.int k1), .val (.int k2), .val (.int r0), .val (.int r1), .val (.int r2), .val (.int kk), .val (.ref a1), .val (.int (fE (0 : Int32) p5 kk k0 r0 p2 k1 r1 p3 k2 r2 p4)), .val (.int (fE (1 : Int32) p6 kk k0 r0 p2 k1 r1 p3 k2 r2 p4))] [(.ref b1)])
  refine Go.to (fun _ => XS.iconst X15.here hx rfl (hb hby at_193)) ?_
  show Go p e below _ T15 (mkF m 194 #[.val (.int p1), .val (.int p2), .val (.int p3), .val (.int p4), .val (.int p5), .val (.int p6), .val (.int k0), .val (.int k1), .val (.int k2), .val (.int r0), .val (.int r1), .val (.int r2), .val (.int kk), .val (.ref a1), .val (.int (fE (0 : Int32) p5 kk k0 r0 p2 k1 r1 p3 k2 r2 p4)), .val (.int (fE (1 : Int32) p6 kk k0 r0 p2 k1 r1 p3 k2 r2 p4))] [(.int (0 : Int32)), (.ref b1)])
  refine Go.oload X15 hx hZ e15 O10 (k := 1) rfl rfl rfl (hb hby at_194) ?_
  show Go p e below _ T15 (mkF m 195 #[.val (.int p1), .val (.int p2), .val (.int p3), .val (.int p4), .val (.int p5), .val (.int p6), .val (.int k0), .val (.int k1), .val (.int k2), .val (.int r0), .val (.int r1), .val (.int r2), .val (.int kk), .val (.ref a1), .val (.int (fE (0 : Int32) p5 kk k0 r0 p2 k1 r1 p3 k2 r2 p4)), .val (.int (fE (1 : Int32) p6 kk k0 r0 p2 k1 r1 p3 k2 r2 p4))] [(.int g0)])
  refine Go.to (fun _ => XS.iload X15.here hx rfl (hb hby at_195) rfl) ?_
  show Go p e below _ T15 (mkF m 197 #[.val (.int p1), .val (.int p2), .val (.int p3), .val (.int p4), .val (.int p5), .val (.int p6), .val (.int k0), .val (.int k1), .val (.int k2), .val (.int r0), .val (.int r1), .val (.int r2), .val (.int kk), .val (.ref a1), .val (.int (fE (0 : Int32) p5 kk k0 r0 p2 k1 r1 p3 k2 r2 p4)), .val (.int (fE (1 : Int32) p6 kk k0 r0 p2 k1 r1 p3 k2 r2 p4))] [(.int (fE (0 : Int32) p5 kk k0 r0 p2 k1 r1 p3 k2 r2 p4)), (.int g0)])
  refine Go.to (fun _ => XS.icmpNo X15.here hx rfl (hb hby at_197) rfl (teq hg0).2) ?_
  show Go p e below _ T15 (mkF m 200 #[.val (.int p1), .val (.int p2), .val (.int p3), .val (.int p4), .val (.int p5), .val (.int p6), .val (.int k0), .val (.int k1), .val (.int k2), .val (.int r0), .val (.int r1), .val (.int r2), .val (.int kk), .val (.ref a1), .val (.int (fE (0 : Int32) p5 kk k0 r0 p2 k1 r1 p3 k2 r2 p4)), .val (.int (fE (1 : Int32) p6 kk k0 r0 p2 k1 r1 p3 k2 r2 p4))] [])
  refine Go.to (fun _ => XS.aload X15.here hx rfl (hb hby at_200) rfl rfl) ?_
  show Go p e below _ T15 (mkF m 202 #[.val (.int p1), .val (.int p2), .val (.int p3), .val (.int p4), .val (.int p5), .val (.int p6), .val (.int k0), .val (.int k1), .val (.int k2), .val (.int r0), .val (.int r1), .val (.int r2), .val (.int kk), .val (.ref a1), .val (.int (fE (0 : Int32) p5 kk k0 r0 p2 k1 r1 p3 k2 r2 p4)), .val (.int (fE (1 : Int32) p6 kk k0 r0 p2 k1 r1 p3 k2 r2 p4))] [(.ref a1)])
  refine Go.oget (f := ("registers", "[I")) X15 hx hZ hown (hw _ (List.mem_of_getElem? (i := 19) rfl)) e15 O10 (k := 1) rfl rfl (hb hby at_202) ?_
  intro T16 X16 e16
  show Go p e below _ T16 (mkF m 205 #[.val (.int p1), .val (.int p2), .val (.int p3), .val (.int p4), .val (.int p5), .val (.int p6), .val (.int k0), .val (.int k1), .val (.int k2), .val (.int r0), .val (.int r1), .val (.int r2), .val (.int kk), .val (.ref a1), .val (.int (fE (0 : Int32) p5 kk k0 r0 p2 k1 r1 p3 k2 r2 p4)), .val (.int (fE (1 : Int32) p6 kk k0 r0 p2 k1 r1 p3 k2 r2 p4))] [(.ref b1)])
  refine Go.to (fun _ => XS.iconst X16.here hx rfl (hb hby at_205)) ?_
  show Go p e below _ T16 (mkF m 206 #[.val (.int p1), .val (.int p2), .val (.int p3), .val (.int p4), .val (.int p5), .val (.int p6), .val (.int k0), .val (.int k1), .val (.int k2), .val (.int r0), .val (.int r1), .val (.int r2), .val (.int kk), .val (.ref a1), .val (.int (fE (0 : Int32) p5 kk k0 r0 p2 k1 r1 p3 k2 r2 p4)), .val (.int (fE (1 : Int32) p6 kk k0 r0 p2 k1 r1 p3 k2 r2 p4))] [(.int (1 : Int32)), (.ref b1)])
  refine Go.oload X16 hx hZ e16 O10 (k := 1) rfl rfl rfl (hb hby at_206) ?_
  show Go p e below _ T16 (mkF m 207 #[.val (.int p1), .val (.int p2), .val (.int p3), .val (.int p4), .val (.int p5), .val (.int p6), .val (.int k0), .val (.int k1), .val (.int k2), .val (.int r0), .val (.int r1), .val (.int r2), .val (.int kk), .val (.ref a1), .val (.int (fE (0 : Int32) p5 kk k0 r0 p2 k1 r1 p3 k2 r2 p4)), .val (.int (fE (1 : Int32) p6 kk k0 r0 p2 k1 r1 p3 k2 r2 p4))] [(.int g1)])
  refine Go.to (fun _ => XS.iload X16.here hx rfl (hb hby at_207) rfl) ?_
  show Go p e below _ T16 (mkF m 209 #[.val (.int p1), .val (.int p2), .val (.int p3), .val (.int p4), .val (.int p5), .val (.int p6), .val (.int k0), .val (.int k1), .val (.int k2), .val (.int r0), .val (.int r1), .val (.int r2), .val (.int kk), .val (.ref a1), .val (.int (fE (0 : Int32) p5 kk k0 r0 p2 k1 r1 p3 k2 r2 p4)), .val (.int (fE (1 : Int32) p6 kk k0 r0 p2 k1 r1 p3 k2 r2 p4))] [(.int (fE (1 : Int32) p6 kk k0 r0 p2 k1 r1 p3 k2 r2 p4)), (.int g1)])
  refine Go.to (fun _ => XS.icmpNo X16.here hx rfl (hb hby at_209) rfl (teq hg1).2) ?_
  show Go p e below _ T16 (mkF m 212 #[.val (.int p1), .val (.int p2), .val (.int p3), .val (.int p4), .val (.int p5), .val (.int p6), .val (.int k0), .val (.int k1), .val (.int k2), .val (.int r0), .val (.int r1), .val (.int r2), .val (.int kk), .val (.ref a1), .val (.int (fE (0 : Int32) p5 kk k0 r0 p2 k1 r1 p3 k2 r2 p4)), .val (.int (fE (1 : Int32) p6 kk k0 r0 p2 k1 r1 p3 k2 r2 p4))] [])
  refine Go.to (fun _ => XS.iconst X16.here hx rfl (hb hby at_212)) ?_
  show Go p e below _ T16 (mkF m 213 #[.val (.int p1), .val (.int p2), .val (.int p3), .val (.int p4), .val (.int p5), .val (.int p6), .val (.int k0), .val (.int k1), .val (.int k2), .val (.int r0), .val (.int r1), .val (.int r2), .val (.int kk), .val (.ref a1), .val (.int (fE (0 : Int32) p5 kk k0 r0 p2 k1 r1 p3 k2 r2 p4)), .val (.int (fE (1 : Int32) p6 kk k0 r0 p2 k1 r1 p3 k2 r2 p4))] [(.int (1 : Int32))])
  refine Go.to (fun _ => XS.goto X16.here hx rfl (pc0 := 213) (pc' := 217) rfl (hb hby at_213) (by decide) (by decide)) ?_
  show Go p e below _ T16 (mkF m 217 #[.val (.int p1), .val (.int p2), .val (.int p3), .val (.int p4), .val (.int p5), .val (.int p6), .val (.int k0), .val (.int k1), .val (.int k2), .val (.int r0), .val (.int r1), .val (.int r2), .val (.int kk), .val (.ref a1), .val (.int (fE (0 : Int32) p5 kk k0 r0 p2 k1 r1 p3 k2 r2 p4)), .val (.int (fE (1 : Int32) p6 kk k0 r0 p2 k1 r1 p3 k2 r2 p4))] [(.int (1 : Int32))])
  rw [hK]
  exact Go.retZ X16 hx hlk hret (by decide) (hb hby at_217) ⟨rfl, N10⟩ (by decide) (by decide)
set_option maxHeartbeats 40000000 in
theorem comes_1 {Post : Tables → Env → Array Value → State → Outcome → State → Prop} (hpost : ∀ tb e args s v u, (limb_1_1.after args s (.returned v) u = true ∧ limb_1_2.after args s (.returned v) u = true ∧ True) → FrameEnd s (.returned v) u (Jvm.fieldLocs frame_1_writes args s ++ Jvm.arrayLocs frame_1_arrays args s ++ Jvm.staticLocs frame_1_statics s) 16 384 → Post tb e args s (.returned v) u) :
    ArmFor flags0 classFile x code maxLocals ret World_1 tables_1 room_1 Calls_1 rest_1 Pre_1 Post := by
  intro l hfl _ _ p e ha hc hk s m args below hf hA hF happ hP
  obtain ⟨hcalls, hrest, hpre⟩ := hP
  obtain ⟨-, -, -, hnamed, -, -, -, hat⟩ := (Spec.applies_iff hf).mp happ
  obtain ⟨hg, hn⟩ := and_e (Cond.before_iff.mp (show (Jvm.Cond.and given_1 narrow_1).before args s = true from hpre))
  obtain ⟨gc, gr0⟩ := and_e hg
  obtain ⟨g0, gr1⟩ := and_e gr0
  obtain ⟨g1, gr2⟩ := and_e gr1
  obtain ⟨g2, gr3⟩ := and_e gr2
  obtain ⟨g3, gr4⟩ := and_e gr3
  obtain ⟨g4, gr5⟩ := and_e gr4
  obtain ⟨w0, w1, w2, w3, w4, w5, rfl⟩ : ∃ w0 w1 w2 w3 w4 w5 : Value, args = #[w0, w1, w2, w3, w4, w5] := by
    have hs : args.size = 6 := by simpa [Cond.value, given_1] using gc
    obtain ⟨L⟩ := args
    match L, hs with
    | [w0, w1, w2, w3, w4, w5], _ => exact ⟨w0, w1, w2, w3, w4, w5, rfl⟩
  have hw := fun d (hd : d ∈ tables_1) => atoms_spec (ws := Jvm.Cond.code x code maxLocals ret :: tables_1) hat d (List.mem_cons_of_mem _ hd)
  obtain ⟨i0, ei0⟩ := is_v g0
  obtain rfl : w0 = (.int i0) := Option.some.inj ei0
  obtain ⟨i1, ei1⟩ := is_v g1
  obtain rfl : w1 = (.int i1) := Option.some.inj ei1
  obtain ⟨i2, ei2⟩ := is_v g2
  obtain rfl : w2 = (.int i2) := Option.some.inj ei2
  obtain ⟨i3, ei3⟩ := is_v g3
  obtain rfl : w3 = (.int i3) := Option.some.inj ei3
  obtain ⟨i4, ei4⟩ := is_v g4
  obtain rfl : w4 = (.int i4) := Option.some.inj ei4
  obtain ⟨i5, ei5⟩ := is_v gr5
  obtain rfl : w5 = (.int i5) := Option.some.inj ei5
  obtain ⟨n, o, h1, h2, h3, _, L, rfl, ⟨rfl, N⟩, hq⟩ := rm0 l s _ hw tables_1 i0 i1 i2 i3 i4 i5 s.heap s.heap.size (Nat.le_refl _) p e ha hc hk s m _ below hf ((Spec.applies_iff_loose hf).mp happ).1 ⟨rfl, State.Warmed39.refl s, rfl⟩ trivial
  refine ⟨n, _, h1, h2, h3, hpost _ _ _ _ _ _ ⟨Cond.after_iff.mpr rfl, Cond.after_iff.mpr (eq_i res_at (Term.int_eval (1)) rfl), trivial⟩ ⟨hq.1, hq.2.1, (hq.2.2.sift fun y hy => Or.inr (N y hy)).mono (by decide) (by decide)⟩⟩
theorem main_1_1 : Claimed_1_1 := comes_1 fun _ _ _ _ _ _ h hF => ⟨h.1, hF⟩
theorem main_1_2 : Claimed_1_2 := comes_1 fun _ _ _ _ _ _ h hF => ⟨h.2.1, hF⟩
end Jvm.Pilot.@@N@@
namespace Jvm.Pilot.@@N@@
open Jvm Jvm.ClassFile Sem Op Lib Jvm.Free Jvm.Stand Jvm.Pilot.@@N@@.Jvm.D
/-! MADE BY PROGRAM (witnessworld.py) out of the Statement's table words and the real class files: 11 classes; the members and pool entries that the words name. The judged class is class 1, her method 2. -/
namespace start1
open Jvm.ClassFile
def u (s : String) : CpInfo := .utf8 (stringToUtf16 s)
/-- a pool by its gaps: so many unusable entries, then the entry; so many at the end -/
def gap : Nat → List CpInfo → List CpInfo
  | 0, r => r
  | n + 1, r => .unusable :: gap n r
def poolList (es : List (Nat × CpInfo)) (last : Nat) : List CpInfo := es.foldr (fun e r => gap e.1 (e.2 :: r)) (gap last [])
def pool (es : List (Nat × CpInfo)) (last : Nat) : Array CpInfo := ⟨poolList es last⟩
def fileOf (pool : Array CpInfo) (this : Nat) (attrs : Array Attribute := #[]) (ms : Array MethodInfo := #[]) (fl : Nat := 33) (sup : Nat := 0) (ifs : Array Nat := #[]) (fds : Array FieldInfo := #[]) : ClassFile where
  minorVersion := 0
  majorVersion := 65
  constantPool := pool
  accessFlags := fl
  thisClass := this
  superClass := sup
  interfaces := ifs
  fields := fds
  methods := ms
  attributes := attrs
def plain (name : String) (sup : Option ClassId) : Class where
  name := name
  kind := .ordinary
  loader := none
  accessFlags := 33
  super := sup
  interfaces := #[]
  cf := none
  fields := #[]
  methods := #[]
  instanceTypes := #[]
  staticTypes := #[]
  resolved := #[]
  callSites := []
  init := .initialized
  statics := none
  mirror := none

def pool0 : Array CpInfo := pool [(5, u "<init>"), (0, u "()V"), (1, .class_ 10), (1, u "java/lang/Object")] 113

def k0c0 : Code := { maxStack := 0, maxLocals := 1, code := object_method_1_code, exceptionTable := #[], attributes := #[] }
def k0m0 : Method := { name := "<init>", desc := "()V", sig := { parameters := [], returnType := none }, accessFlags := 1, code := some k0c0 }
/-- java/lang/Object -/
def k0 : Class := { plain "java/lang/Object" none with
  accessFlags := 33
  interfaces := #[]
  cf := some (fileOf pool0 8 #[] #[{ accessFlags := 1, nameIndex := 5, descriptorIndex := 6, attributes := #[] }] 33 0 #[] #[])
  fields := #[]
  methods := #[k0m0]
  instanceTypes := #[]
  staticTypes := #[]
  resolved := Array.replicate 124 none
  statics := none }

def pool1 : Array CpInfo := pool [(2, .class_ 4), (1, u "java/lang/Object"), (0, u "<init>"), (0, u "()V"), (0, .class_ 8), (0, u "com/example/oakwright/oakwright/regex/MatchState"), (0, .methodref 7 10), (0, .nameAndType 5 11), (0, u "(I)V"), (0, .fieldref 7 13), (0, .nameAndType 14 15), (0, u "registers"), (0, u "[I"), (0, .methodref 7 17), (0, .nameAndType 18 19), (0, u "push"), (0, u "(IIII)V"), (0, .methodref 7 21), (0, .nameAndType 22 11), (0, u "unwindTo"), (0, .methodref 24 25), (0, .class_ 26), (0, .nameAndType 27 28), (0, u "com/example/oakwright/oakwright/regex/MatchStateUnwindToPinLaw"), (0, u "expect"), (0, u "(IIIIIIIIIIII)I"), (0, .fieldref 7 30), (0, .nameAndType 31 32), (0, u "top"), (0, u "I"), (0, .methodref 34 35), (0, .class_ 36), (0, .nameAndType 37 38), (0, u "java/lang/Math"), (0, u "min"), (0, u "(II)I"), (3, u "law"), (0, u "(IIIIII)Z")] 2

def k1m0 : Method := { name := "<init>", desc := "()V", sig := { parameters := [], returnType := none }, accessFlags := 1, code := none }
def k1c1 : Code := { maxStack := 2, maxLocals := 12, code := method_2_code, exceptionTable := #[], attributes := #[] }
def k1m1 : Method := { name := "expect", desc := "(IIIIIIIIIIII)I", sig := { parameters := [.int, .int, .int, .int, .int, .int, .int, .int, .int, .int, .int, .int], returnType := some .int }, accessFlags := 10, code := some k1c1 }
def k1c2 : Code := { maxStack := 12, maxLocals := 16, code := code, exceptionTable := #[], attributes := #[] }
def k1m2 : Method := { name := "law", desc := "(IIIIII)Z", sig := { parameters := [.int, .int, .int, .int, .int, .int], returnType := some .boolean }, accessFlags := 9, code := some k1c2 }
/-- com/example/oakwright/oakwright/regex/MatchStateUnwindToPinLaw -/
def k1 : Class := { plain "com/example/oakwright/oakwright/regex/MatchStateUnwindToPinLaw" (some 0) with
  accessFlags := 49
  interfaces := #[]
  cf := some (fileOf pool1 24 #[] #[{ accessFlags := 1, nameIndex := 5, descriptorIndex := 6, attributes := #[] }, { accessFlags := 10, nameIndex := 27, descriptorIndex := 28, attributes := #[] }, { accessFlags := 9, nameIndex := 42, descriptorIndex := 43, attributes := #[] }] 49 2 #[] #[])
  fields := #[]
  methods := #[k1m0, k1m1, k1m2]
  instanceTypes := #[]
  staticTypes := #[]
  resolved := Array.replicate 46 none
  statics := none }

def pool2 : Array CpInfo := pool [(1, .methodref 2 3), (0, .class_ 4), (0, .nameAndType 5 6), (0, u "java/lang/Object"), (0, u "<init>"), (0, u "()V"), (1, .class_ 10), (1, u "com/example/oakwright/oakwright/framework/HeapObject"), (0, u "reachedBy"), (0, u "I")] 13

def k2c0 : Code := { maxStack := 1, maxLocals := 1, code := prog_30_method_1_code, exceptionTable := #[], attributes := #[] }
def k2m0 : Method := { name := "<init>", desc := "()V", sig := { parameters := [], returnType := none }, accessFlags := 1, code := some k2c0 }
/-- com/example/oakwright/oakwright/framework/HeapObject -/
def k2 : Class := { plain "com/example/oakwright/oakwright/framework/HeapObject" (some 0) with
  accessFlags := 1057
  interfaces := #[]
  cf := some (fileOf pool2 8 #[] #[{ accessFlags := 1, nameIndex := 5, descriptorIndex := 6, attributes := #[] }] 1057 2 #[] #[{ accessFlags := 2, nameIndex := 11, descriptorIndex := 12, attributes := #[] }])
  fields := #[{ name := "reachedBy", type := .int, accessFlags := 2, slot := 0, constantValue := 0 }]
  methods := #[k2m0]
  instanceTypes := #[.int]
  staticTypes := #[]
  resolved := Array.replicate 26 none
  statics := none }

def pool3 : Array CpInfo := pool [(1, .methodref 2 3), (0, .class_ 4), (0, .nameAndType 5 6), (0, u "com/example/oakwright/oakwright/framework/HeapObject"), (0, u "<init>"), (0, u "()V"), (0, .class_ 8), (0, u "com/example/oakwright/oakwright/regex/MatchState"), (0, .fieldref 7 10), (0, .nameAndType 11 12), (0, u "stack"), (0, u "[I"), (0, .fieldref 7 14), (0, .nameAndType 15 12), (0, u "registers"), (6, .fieldref 7 23), (0, .nameAndType 24 25), (0, u "top"), (0, u "I"), (2, u "push"), (0, u "(IIII)V"), (26, u "BRANCH"), (2, u "RESTORE"), (1, u "GREEDY_ONE"), (1, u "LAZY_ONE"), (1, u "ENTRY"), (1, u "INITIAL_ENTRIES"), (1, u "resumePosition"), (0, u "stepsUntilReport"), (0, u "(I)V"), (7, u "unwindTo")] 8

def k3c0 : Code := { maxStack := 2, maxLocals := 2, code := prog_204_method_1_code, exceptionTable := #[], attributes := #[] }
def k3m0 : Method := { name := "<init>", desc := "(I)V", sig := { parameters := [.int], returnType := none }, accessFlags := 0, code := some k3c0 }
def k3c1 : Code := { maxStack := 5, maxLocals := 6, code := prog_204_method_4_code, exceptionTable := #[], attributes := #[] }
def k3m1 : Method := { name := "push", desc := "(IIII)V", sig := { parameters := [.int, .int, .int, .int], returnType := none }, accessFlags := 0, code := some k3c1 }
def k3c2 : Code := { maxStack := 5, maxLocals := 2, code := prog_204_method_6_code, exceptionTable := #[], attributes := #[] }
def k3m2 : Method := { name := "unwindTo", desc := "(I)V", sig := { parameters := [.int], returnType := none }, accessFlags := 0, code := some k3c2 }
/-- com/example/oakwright/oakwright/regex/MatchState -/
def k3 : Class := { plain "com/example/oakwright/oakwright/regex/MatchState" (some 2) with
  accessFlags := 48
  interfaces := #[]
  cf := some (fileOf pool3 7 #[] #[{ accessFlags := 0, nameIndex := 5, descriptorIndex := 71, attributes := #[] }, { accessFlags := 0, nameIndex := 28, descriptorIndex := 29, attributes := #[] }, { accessFlags := 0, nameIndex := 79, descriptorIndex := 71, attributes := #[] }] 48 2 #[] #[{ accessFlags := 24, nameIndex := 56, descriptorIndex := 25, attributes := #[] }, { accessFlags := 24, nameIndex := 59, descriptorIndex := 25, attributes := #[] }, { accessFlags := 24, nameIndex := 61, descriptorIndex := 25, attributes := #[] }, { accessFlags := 24, nameIndex := 63, descriptorIndex := 25, attributes := #[] }, { accessFlags := 24, nameIndex := 65, descriptorIndex := 25, attributes := #[] }, { accessFlags := 26, nameIndex := 67, descriptorIndex := 25, attributes := #[] }, { accessFlags := 16, nameIndex := 15, descriptorIndex := 12, attributes := #[] }, { accessFlags := 0, nameIndex := 11, descriptorIndex := 12, attributes := #[] }, { accessFlags := 0, nameIndex := 24, descriptorIndex := 25, attributes := #[] }, { accessFlags := 0, nameIndex := 69, descriptorIndex := 25, attributes := #[] }, { accessFlags := 0, nameIndex := 70, descriptorIndex := 25, attributes := #[] }])
  fields := #[{ name := "BRANCH", type := .int, accessFlags := 24, slot := 0, constantValue := 0 }, { name := "RESTORE", type := .int, accessFlags := 24, slot := 1, constantValue := 0 }, { name := "GREEDY_ONE", type := .int, accessFlags := 24, slot := 2, constantValue := 0 }, { name := "LAZY_ONE", type := .int, accessFlags := 24, slot := 3, constantValue := 0 }, { name := "ENTRY", type := .int, accessFlags := 24, slot := 4, constantValue := 0 }, { name := "INITIAL_ENTRIES", type := .int, accessFlags := 26, slot := 5, constantValue := 0 }, { name := "registers", type := (.array .int), accessFlags := 16, slot := 1, constantValue := 0 }, { name := "stack", type := (.array .int), accessFlags := 0, slot := 2, constantValue := 0 }, { name := "top", type := .int, accessFlags := 0, slot := 3, constantValue := 0 }, { name := "resumePosition", type := .int, accessFlags := 0, slot := 4, constantValue := 0 }, { name := "stepsUntilReport", type := .int, accessFlags := 0, slot := 5, constantValue := 0 }]
  methods := #[k3m0, k3m1, k3m2]
  instanceTypes := #[.int, (.array .int), (.array .int), .int, .int, .int]
  staticTypes := #[.int, .int, .int, .int, .int, .int]
  resolved := Array.replicate 88 none
  statics := none }

def pool4 : Array CpInfo := pool [(1, .class_ 2), (0, u "java/lang/Math"), (1, .class_ 6), (1, u "java/lang/Object"), (0, u "<init>"), (0, u "()V"), (89, .class_ 100), (1, u "java/lang/Math$RandomNumberGeneratorHolder"), (71, u "negativeZeroFloatBits"), (0, u "J"), (2, u "negativeZeroDoubleBits"), (24, u "min"), (43, u "$assertionsDisabled"), (0, u "Z"), (88, u "(II)I"), (2, u "twoToTheDoubleScaleDown"), (0, u "D"), (4, u "twoToTheDoubleScaleUp"), (9, u "E"), (3, u "PI"), (2, u "TAU"), (2, u "DEGREES_TO_RADIANS"), (0, u "RADIANS_TO_DEGREES")] 94

def k4m0 : Method := { name := "<init>", desc := "()V", sig := { parameters := [], returnType := none }, accessFlags := 2, code := none }
def k4c1 : Code := { maxStack := 2, maxLocals := 2, code := jdk_29_method_69_code, exceptionTable := #[], attributes := #[] }
def k4m1 : Method := { name := "min", desc := "(II)I", sig := { parameters := [.int, .int], returnType := some .int }, accessFlags := 9, code := some k4c1 }
/-- java/lang/Math -/
def k4 : Class := { plain "java/lang/Math" (some 0) with
  accessFlags := 49
  interfaces := #[]
  cf := some (fileOf pool4 1 #[.nestMembers #[98]] #[{ accessFlags := 2, nameIndex := 7, descriptorIndex := 8, attributes := #[] }, { accessFlags := 9, nameIndex := 201, descriptorIndex := 335, attributes := #[] }] 49 4 #[] #[{ accessFlags := 25, nameIndex := 354, descriptorIndex := 339, attributes := #[] }, { accessFlags := 25, nameIndex := 358, descriptorIndex := 339, attributes := #[] }, { accessFlags := 25, nameIndex := 361, descriptorIndex := 339, attributes := #[] }, { accessFlags := 26, nameIndex := 364, descriptorIndex := 339, attributes := #[] }, { accessFlags := 26, nameIndex := 365, descriptorIndex := 339, attributes := #[] }, { accessFlags := 26, nameIndex := 172, descriptorIndex := 173, attributes := #[] }, { accessFlags := 26, nameIndex := 176, descriptorIndex := 173, attributes := #[] }, { accessFlags := 8, nameIndex := 344, descriptorIndex := 339, attributes := #[] }, { accessFlags := 8, nameIndex := 338, descriptorIndex := 339, attributes := #[] }, { accessFlags := 4120, nameIndex := 245, descriptorIndex := 246, attributes := #[] }])
  fields := #[{ name := "E", type := .double, accessFlags := 25, slot := 0, constantValue := 0 }, { name := "PI", type := .double, accessFlags := 25, slot := 1, constantValue := 0 }, { name := "TAU", type := .double, accessFlags := 25, slot := 2, constantValue := 0 }, { name := "DEGREES_TO_RADIANS", type := .double, accessFlags := 26, slot := 3, constantValue := 0 }, { name := "RADIANS_TO_DEGREES", type := .double, accessFlags := 26, slot := 4, constantValue := 0 }, { name := "negativeZeroFloatBits", type := .long, accessFlags := 26, slot := 5, constantValue := 0 }, { name := "negativeZeroDoubleBits", type := .long, accessFlags := 26, slot := 6, constantValue := 0 }, { name := "twoToTheDoubleScaleUp", type := .double, accessFlags := 8, slot := 7, constantValue := 0 }, { name := "twoToTheDoubleScaleDown", type := .double, accessFlags := 8, slot := 8, constantValue := 0 }, { name := "$assertionsDisabled", type := .boolean, accessFlags := 4120, slot := 9, constantValue := 0 }]
  methods := #[k4m0, k4m1]
  instanceTypes := #[]
  staticTypes := #[.double, .double, .double, .double, .double, .long, .long, .double, .double, .boolean]
  resolved := Array.replicate 460 none
  statics := none }

def pool5 : Array CpInfo := pool [(1, u "java/lang/Cloneable"), (0, .class_ 1), (0, u "java/lang/Object"), (0, .class_ 3)] 3

/-- java/lang/Cloneable -/
def k5 : Class := { plain "java/lang/Cloneable" (some 0) with
  accessFlags := 1537
  interfaces := #[]
  cf := some (fileOf pool5 2 #[] #[] 1537 4 #[] #[])
  fields := #[]
  methods := #[]
  instanceTypes := #[]
  staticTypes := #[]
  resolved := Array.replicate 8 none
  statics := none }

def pool6 : Array CpInfo := pool [(1, u "java/io/Serializable"), (0, .class_ 1), (0, u "java/lang/Object"), (0, .class_ 3)] 3

/-- java/io/Serializable -/
def k6 : Class := { plain "java/io/Serializable" (some 0) with
  accessFlags := 1537
  interfaces := #[]
  cf := some (fileOf pool6 2 #[] #[] 1537 4 #[] #[])
  fields := #[]
  methods := #[]
  instanceTypes := #[]
  staticTypes := #[]
  resolved := Array.replicate 8 none
  statics := none }

/-- the primitive byte -/
def k7 : Class := { plain "byte" none with kind := .primitive 'B', accessFlags := 0x411 }
/-- [B -/
def k8 : Class := { plain "[B" (some 0) with kind := .array 7 .byte, interfaces := #[5, 6], accessFlags := 1041 }

/-- the primitive int -/
def k9 : Class := { plain "int" none with kind := .primitive 'I', accessFlags := 0x411 }
/-- [I -/
def k10 : Class := { plain "[I" (some 0) with kind := .array 9 .int, interfaces := #[5, 6], accessFlags := 1041 }

def heap : Heap := #[]
def classes : Array Class := #[k0, k1, k2, k3, k4, k5, k6, k7, k8, k9, k10]
def interned : List (Array UInt16 × Addr) := []
def slotsUsed : Nat := 0
def theMethod : MethodId := ⟨1, 2⟩
def args0 : Array Value := #[.int 5, .int 1, .int 2, .int 1, .int 3, .int 4]
def aboutOver (below : List Frame) : State where
  vm := { classes := classes, interned := interned.toArray }
  heap := heap
  slotsUsed := slotsUsed
  threads := #[{ frames := .invoking theMethod args0 :: below }]
def below0 : List Frame := [.native { method := ⟨0, 0⟩, args := #[] }]
def about1 : State := aboutOver below0
def p0 : Program := .bare "" "" ""
def e0 : Env := launch0.env 0 0 0
theorem w_frames : about1.frames = Frame.invoking theMethod args0 :: below0 := rfl
set_option maxRecDepth 65536 in
theorem w_args : argsFit about1.vm theMethod args0 = true := by decide +kernel
set_option maxRecDepth 65536 in
theorem w_heap : heapFits about1 = true := by decide +kernel
set_option maxRecDepth 65536 in
theorem w_runnable : about1.curStatus? = some .runnable := by decide +kernel
set_option maxRecDepth 65536 in
theorem w_alone : about1.alone = true := by decide +kernel
set_option maxRecDepth 65536 in
theorem w_named : about1.methodNamed? x = some theMethod := by decide +kernel
set_option maxRecDepth 65536 in
theorem w_hears : about1.hears theMethod below0 = true := by decide +kernel
set_option maxRecDepth 65536 in
theorem w_ripe : about1.ripe theMethod args0 below0 = true := by decide +kernel
theorem w_running : about1.status = .running := rfl
set_option maxRecDepth 65536 in
theorem w_room : about1.hasRoom e0.platform room_1 = true :=
  launch0.hasRoom_least _ room_1 (by decide +kernel) (by decide +kernel) (by decide +kernel) (by decide +kernel) (by decide +kernel) (by decide +kernel)
theorem allAtoms_all (ts : List Jvm.Cond) (a : Array Jvm.Value) (st : Jvm.State) : (allAtoms ts).before a st = ts.all (fun c => c.before a st) := by
  induction ts with
  | nil => rfl
  | cons c t ih =>
    show (Jvm.Cond.and c (allAtoms t)).before a st = _
    rw [Jvm.Cond.before_and, ih, List.all_cons]
def words1 : List Jvm.Cond := Jvm.Cond.code x code maxLocals ret :: tables_1
/-- a 'code' word, met by the world's own term for the bytes: nothing is compared byte by byte -/
theorem code_word {y : MethodName} {bytes : ByteArray} {mx : Nat} {rt : Option FieldType} {a : Array Value} {s : State} {m : MethodId} {meth : Method} {c : Code} (h1 : s.methodNamed? y = some m) (h2 : s.vm.method? m = some meth) (h3 : meth.code = some c) (h4 : c.code = bytes)
    (h5 : (c.maxLocals == mx && c.exceptionTable.isEmpty && decide (c.maxStack ≤ mostOperands) && decide (meth.sig.returnType = rt) && !meth.locks && decide (parseMethodDescriptor y.desc = some meth.sig)) = true) : (Jvm.Cond.code y bytes mx rt).before a s = true := by
  simp only [Bool.and_eq_true, beq_iff_eq, Bool.not_eq_true', decide_eq_true_eq] at h5
  obtain ⟨⟨⟨⟨⟨g1, g2⟩, g3⟩, g4⟩, g5⟩, g6⟩ := h5
  simp [Cond.before, Cond.holds, Cond.value, h1, h2, h3, h4, g1, g2, g3, g4, g5, g6]
def isCode : Jvm.Cond → Bool
  | .code _ _ _ _ => true
  | _ => false
theorem all_split {L : List Jvm.Cond} {P : Jvm.Cond → Bool} (h1 : L.all (fun c => isCode c || P c) = true) (h2 : ∀ c ∈ L.filter isCode, P c = true) : L.all P = true := by
  refine List.all_eq_true.mpr fun c hc => ?_
  have h := List.all_eq_true.mp h1 c hc
  rcases Bool.eq_false_or_eq_true (isCode c) with hi | hi
  · exact h2 c (List.mem_filter.mpr ⟨hc, hi⟩)
  · simpa [hi] using h
set_option maxRecDepth 65536 in
theorem w_c0 : (Jvm.Cond.code x code maxLocals ret).before args0 about1 = true := code_word (m := ⟨1, 2⟩) (meth := k1m2) (c := k1c2) (by decide +kernel) rfl rfl rfl (by decide +kernel)
set_option maxRecDepth 65536 in
theorem w_c1 : (Jvm.Cond.code ({ cls := "com/example/oakwright/oakwright/regex/MatchState", name := "<init>", desc := "(I)V" } : Jvm.MethodName) prog_204_method_1_code (2 : Nat) (Option.none : Option Jvm.ClassFile.FieldType)).before args0 about1 = true := code_word (m := ⟨3, 0⟩) (meth := k3m0) (c := k3c0) (by decide +kernel) rfl rfl rfl (by decide +kernel)
set_option maxRecDepth 65536 in
theorem w_c2 : (Jvm.Cond.code ({ cls := "com/example/oakwright/oakwright/framework/HeapObject", name := "<init>", desc := "()V" } : Jvm.MethodName) prog_30_method_1_code (1 : Nat) (Option.none : Option Jvm.ClassFile.FieldType)).before args0 about1 = true := code_word (m := ⟨2, 0⟩) (meth := k2m0) (c := k2c0) (by decide +kernel) rfl rfl rfl (by decide +kernel)
set_option maxRecDepth 65536 in
theorem w_c3 : (Jvm.Cond.code ({ cls := "java/lang/Object", name := "<init>", desc := "()V" } : Jvm.MethodName) object_method_1_code (1 : Nat) (Option.none : Option Jvm.ClassFile.FieldType)).before args0 about1 = true := code_word (m := ⟨0, 0⟩) (meth := k0m0) (c := k0c0) (by decide +kernel) rfl rfl rfl (by decide +kernel)
set_option maxRecDepth 65536 in
theorem w_c4 : (Jvm.Cond.code ({ cls := "com/example/oakwright/oakwright/regex/MatchState", name := "push", desc := "(IIII)V" } : Jvm.MethodName) prog_204_method_4_code (6 : Nat) (Option.none : Option Jvm.ClassFile.FieldType)).before args0 about1 = true := code_word (m := ⟨3, 1⟩) (meth := k3m1) (c := k3c1) (by decide +kernel) rfl rfl rfl (by decide +kernel)
set_option maxRecDepth 65536 in
theorem w_c5 : (Jvm.Cond.code ({ cls := "com/example/oakwright/oakwright/regex/MatchState", name := "unwindTo", desc := "(I)V" } : Jvm.MethodName) prog_204_method_6_code (2 : Nat) (Option.none : Option Jvm.ClassFile.FieldType)).before args0 about1 = true := code_word (m := ⟨3, 2⟩) (meth := k3m2) (c := k3c2) (by decide +kernel) rfl rfl rfl (by decide +kernel)
set_option maxRecDepth 65536 in
theorem w_c6 : (Jvm.Cond.code ({ cls := "com/example/oakwright/oakwright/regex/MatchStateUnwindToPinLaw", name := "expect", desc := "(IIIIIIIIIIII)I" } : Jvm.MethodName) method_2_code (12 : Nat) (Option.some Jvm.ClassFile.FieldType.int)).before args0 about1 = true := code_word (m := ⟨1, 1⟩) (meth := k1m1) (c := k1c1) (by decide +kernel) rfl rfl rfl (by decide +kernel)
set_option maxRecDepth 65536 in
theorem w_c7 : (Jvm.Cond.code ({ cls := "java/lang/Math", name := "min", desc := "(II)I" } : Jvm.MethodName) jdk_29_method_69_code (2 : Nat) (Option.some Jvm.ClassFile.FieldType.int)).before args0 about1 = true := code_word (m := ⟨4, 1⟩) (meth := k4m1) (c := k4c1) (by decide +kernel) rfl rfl rfl (by decide +kernel)
def codes1 : List Jvm.Cond := [Jvm.Cond.code x code maxLocals ret, Jvm.Cond.code ({ cls := "com/example/oakwright/oakwright/regex/MatchState", name := "<init>", desc := "(I)V" } : Jvm.MethodName) prog_204_method_1_code (2 : Nat) (Option.none : Option Jvm.ClassFile.FieldType), Jvm.Cond.code ({ cls := "com/example/oakwright/oakwright/framework/HeapObject", name := "<init>", desc := "()V" } : Jvm.MethodName) prog_30_method_1_code (1 : Nat) (Option.none : Option Jvm.ClassFile.FieldType), Jvm.Cond.code ({ cls := "java/lang/Object", name := "<init>", desc := "()V" } : Jvm.MethodName) object_method_1_code (1 : Nat) (Option.none : Option Jvm.ClassFile.FieldType), Jvm.Cond.code ({ cls := "com/example/oakwright/oakwright/regex/MatchState", name := "push", desc := "(IIII)V" } : Jvm.MethodName) prog_204_method_4_code (6 : Nat) (Option.none : Option Jvm.ClassFile.FieldType), Jvm.Cond.code ({ cls := "com/example/oakwright/oakwright/regex/MatchState", name := "unwindTo", desc := "(I)V" } : Jvm.MethodName) prog_204_method_6_code (2 : Nat) (Option.none : Option Jvm.ClassFile.FieldType), Jvm.Cond.code ({ cls := "com/example/oakwright/oakwright/regex/MatchStateUnwindToPinLaw", name := "expect", desc := "(IIIIIIIIIIII)I" } : Jvm.MethodName) method_2_code (12 : Nat) (Option.some Jvm.ClassFile.FieldType.int), Jvm.Cond.code ({ cls := "java/lang/Math", name := "min", desc := "(II)I" } : Jvm.MethodName) jdk_29_method_69_code (2 : Nat) (Option.some Jvm.ClassFile.FieldType.int)]
set_option maxRecDepth 65536 in
theorem codes_eq : words1.filter isCode = codes1 := rfl
theorem w_codes : ∀ c ∈ words1.filter isCode, c.before args0 about1 = true := by
  rw [codes_eq]
  intro c hc
  simp only [codes1, List.mem_cons, List.not_mem_nil, or_false] at hc
  rcases hc with rfl | rfl | rfl | rfl | rfl | rfl | rfl | rfl
  · exact w_c0
  · exact w_c1
  · exact w_c2
  · exact w_c3
  · exact w_c4
  · exact w_c5
  · exact w_c6
  · exact w_c7
set_option maxRecDepth 65536 in
theorem w_t1 : (words1.take 24).all (fun c => isCode c || c.before args0 about1) = true := by decide +kernel
set_option maxRecDepth 65536 in
theorem w_t2 : (words1.drop 24).all (fun c => isCode c || c.before args0 about1) = true := by decide +kernel
theorem w_tables : (allAtoms (Jvm.Cond.code x code maxLocals ret :: tables_1)).before args0 about1 = true := by
  rw [allAtoms_all]
  show words1.all (fun c => c.before args0 about1) = true
  refine all_split ?_ w_codes
  rw [← List.take_append_drop 24 words1, List.all_append, w_t1, w_t2]
  rfl
set_option maxRecDepth 65536 in
theorem w_case : (Jvm.Cond.and given_1 narrow_1).before args0 about1 = true := by decide +kernel
theorem w_applies : (headSpec (Jvm.Cond.code x code maxLocals ret :: tables_1) room_1).applies x e0.platform about1 = true :=
  (Spec.applies_iff w_frames).mpr ⟨w_running, w_runnable, w_alone, w_named, w_hears, w_ripe, w_room, w_tables⟩
theorem atStart : AtStart classFile x code maxLocals ret World_1 tables_1 room_1 Calls_1 rest_1 Pre_1 launch0 p0 e0 about1 theMethod args0 below0 :=
  ⟨lists_1, trivial, launch0.admits_env _ _ _, launch0.least_env, fairChoices_fair.cas, fairChoices_fair.clock, w_frames, w_args, w_heap, w_applies, trivial, trivial, w_case⟩
end start1
theorem witness_1 : WitnessClaimed_1 := ⟨start1.p0, start1.e0, start1.about1, start1.theMethod, start1.args0, start1.below0, start1.atStart⟩
end Jvm.Pilot.@@N@@
