import JvmDerived
import JvmDerived.Pilot.@@N@@Statement
import JvmDerived.Pilot.@@N@@Code
set_option linter.unusedVariables false
set_option linter.unusedSimpArgs false
namespace Jvm.Pilot.@@N@@
open Jvm Jvm.ClassFile Sem Op Lib Jvm.Free Jvm.Stand Jvm.LawKit Jvm.RoadKit Bundle Jvm.Pilot.@@N@@.Jvm.D
section OwnKit
variable {p : Program} {l : Launch} {e : Env} {R : Room} {s : State} {m : MethodId} {args : Array Value} {below : List Frame} {meth : Method} {c : Code} {T : State} {locs : List Loc} {cells slots : Nat} {Z : State} {a0 : Array Value} {h : Heap} {Φ : State → Prop}
/-- from here the run comes to an end of which Φ holds -/
def OGoes (tb : Tables) (e : Env) (below : List Frame) (Φ : State → Prop) (U : State) : Prop := ∃ t, Steps tb e below U t ∧ Φ t
theorem own_st {tb : Tables} {U V : State} (h : ∀ t, Steps tb e below V t → Steps tb e below U t) (k : OGoes tb e below Φ V) : OGoes tb e below Φ U := by
  obtain ⟨t, h1, h2⟩ := k
  exact ⟨t, h t h1, h2⟩
theorem own_tr {tb : Tables} {U V : State} (h : Steps tb e below U V) (k : OGoes tb e below Φ V) : OGoes tb e below Φ U := by
  obtain ⟨t, h1, h2⟩ := k
  exact ⟨t, h.trans h1, h2⟩
theorem own_cast {tb : Tables} {g g' : JFrame} (q : g = g') (k : OGoes tb e below Φ (T.setTop g')) : OGoes tb e below Φ (T.setTop g) := q ▸ k
def ODone (rm : Room) (s : State) (below : List Frame) (Q : Option Value → Heap → List Loc → Prop) (t : State) : Prop :=
  ∃ o, t.status = .running ∧ Ended t below o ∧ ∃ v L, o = .returned v ∧ Q v t.heap L ∧ FrameEnd s o t L rm.cells rm.slots
/-- a method's contract -/
def OMet (l : Launch) (Z : State) (y : MethodName) (bytes : ByteArray) (ml : Nat) (ret : Option FieldType) (rm : Room) (as : Array Value) (h0 : Heap) (Q : Option Value → Heap → List Loc → Prop) : Prop :=
  ∀ ws, MetFree l y (head1 (Jvm.Cond.code y bytes ml ret :: ws) rm) (fun a U => a = as ∧ Z.Warmed39 U.vm ∧ U.heap = h0) (fun _ _ _ _ _ => True)
    (fun _ U o U' => ∃ v L, o = .returned v ∧ Q v U'.heap L ∧ FrameEnd U o U' L rm.cells rm.slots)
/-- .. of one that writes and makes nothing -/
abbrev OPure (l : Launch) (Z : State) (y : MethodName) (bytes : ByteArray) (ml : Nat) (ret : Option FieldType) (fr lo : Nat) (as : Array Value) (h0 : Heap) (v : Option Value) : Prop :=
  OMet l Z y bytes ml ret ⟨fr, 0, 0, lo⟩ as h0 (fun v' h' L' => v' = v ∧ h' = h0 ∧ L' = [])
theorem own_body {y : MethodName} {bytes : ByteArray} {ml : Nat} {ret : Option FieldType} {rm : Room} {as : Array Value} {h0 : Heap} {Q : Option Value → Heap → List Loc → Prop} (hpn : plainFor y = true)
    (body : ∀ (p : Program) (e : Env) (s : State) (m : MethodId) (below : List Frame) (meth : Method) (c : Code) (T : State), Stand p l e rm s m as below meth c T [] 0 0 → p.tables.exec = Jvm.exec → c.code = bytes → c.maxLocals = ml → Z.Warmed39 s.vm → s.vm.findClass y.cls = some m.cls → meth.name = y.name → meth.sig.returnType = ret → meth.locks = false → T.heap = h0 →
      OGoes p.tables e below (ODone rm s below Q) (T.setTop (entryFrame m as ml))) : OMet l Z y bytes ml ret rm as h0 Q := by
  intro ws
  refine MetFree.of_bodySF hpn hisR ?_
  intro p e s m args below meth c s₁ Bd hml0 hP hK
  obtain ⟨rfl, hZ, hh⟩ := hP
  obtain ⟨t, h1, o, h2, h3, h4⟩ := body p e s m below meth c s₁ (Stand.of_body Bd) Bd.exec Bd.bytes hml0 hZ (findClass_of_methodNamed Bd.named) (name_of_methodNamed Bd.named Bd.method).1 Bd.returns Bd.notSynchronized (by rw [← hh, Bd.state]; rfl)
  exact ⟨t, o, h1, h2, h3, h4⟩
/-! the returns -/
theorem own_leave (X : Stand p l e R s m args below meth c T locs cells slots) (hlk : meth.locks = false) {v : Option Value} (hv : meth.sig.returnType = none → v = none) {rm : Room} {Q : Option Value → Heap → List Loc → Prop} (hc : cells ≤ rm.cells) (hs : slots ≤ rm.slots) (hQ : Q v T.heap locs) {U : State}
    (hstep : ∀ fs, (∀ (f : JFrame) (acts : List Action), f.method = m → f.locked = none → f.entered = [] → (doReturn e (T.setTop f) acts v).1 = T.setFrames fs) → Steps p.tables e below U (T.setFrames fs)) : OGoes p.tables e below (ODone rm s below Q) U := by
  obtain ⟨fs, hr, hrun, hended, hW, hsame⟩ := X.leave (v := v) hv hlk
  exact ⟨_, hstep fs hr, _, hrun, hended, v, locs, rfl, hQ, ⟨_, rfl⟩, hW, hsame.mono hc hs⟩
theorem own_retI (X : Stand p l e R s m args below meth c T locs cells slots) (hx : p.tables.exec = Jvm.exec) (hlk : meth.locks = false) (hret : meth.sig.returnType = some .int) {pc : Nat} {Ls : Array Slot} {z : Int32} {rest : List Value} (hd : decode c.code pc = .ok (.ireturn, 1))
    {rm : Room} {Q : Option Value → Heap → List Loc → Prop} (hc : cells ≤ rm.cells) (hs : slots ≤ rm.slots) (hQ : Q (some (.int z)) T.heap locs) : OGoes p.tables e below (ODone rm s below Q) (T.setTop (mkF m pc Ls (.int z :: rest))) :=
  own_leave X hlk (fun h => by rw [hret] at h; cases h) hc hs hQ fun fs hr => retOut X hx hret rfl (Or.inl ⟨rfl, Or.inl rfl, z, rfl⟩) hd hr
theorem own_retN (X : Stand p l e R s m args below meth c T locs cells slots) (hx : p.tables.exec = Jvm.exec) (hlk : meth.locks = false) {t : FieldType} (ht : t = .boolean ∨ t = .byte ∨ t = .char ∨ t = .short) (hret : meth.sig.returnType = some t) {pc : Nat} {Ls : Array Slot} {z : Int32} {rest : List Value} (hd : decode c.code pc = .ok (.ireturn, 1))
    {rm : Room} {Q : Option Value → Heap → List Loc → Prop} (hc : cells ≤ rm.cells) (hs : slots ≤ rm.slots) (hQ : Q (some (.int (nar t z))) T.heap locs) : OGoes p.tables e below (ODone rm s below Q) (T.setTop (mkF m pc Ls (.int z :: rest))) :=
  own_leave X hlk (fun h => by rw [hret] at h; cases h) hc hs hQ fun fs hr => retN X hx hret ht hd hr
theorem own_retJ (X : Stand p l e R s m args below meth c T locs cells slots) (hx : p.tables.exec = Jvm.exec) (hlk : meth.locks = false) (hret : meth.sig.returnType = some .long) {pc : Nat} {Ls : Array Slot} {z : Int64} {rest : List Value} (hd : decode c.code pc = .ok (.lreturn, 1))
    {rm : Room} {Q : Option Value → Heap → List Loc → Prop} (hc : cells ≤ rm.cells) (hs : slots ≤ rm.slots) (hQ : Q (some (.long z)) T.heap locs) : OGoes p.tables e below (ODone rm s below Q) (T.setTop (mkF m pc Ls (.long z :: rest))) :=
  own_leave X hlk (fun h => by rw [hret] at h; cases h) hc hs hQ fun fs hr => retOut X hx hret rfl (Or.inr (Or.inl ⟨rfl, rfl, z, rfl⟩)) hd hr
theorem own_retA (X : Stand p l e R s m args below meth c T locs cells slots) (hx : p.tables.exec = Jvm.exec) (hlk : meth.locks = false) {t : FieldType} (ht : t.isReference = true) (hret : meth.sig.returnType = some t) {pc : Nat} {Ls : Array Slot} {w : Value} {rest : List Value} (hw : w.isRef = true) (hd : decode c.code pc = .ok (.areturn, 1))
    {rm : Room} {Q : Option Value → Heap → List Loc → Prop} (hc : cells ≤ rm.cells) (hs : slots ≤ rm.slots) (hQ : Q (some w) T.heap locs) : OGoes p.tables e below (ODone rm s below Q) (T.setTop (mkF m pc Ls (w :: rest))) :=
  own_leave X hlk (fun h => by rw [hret] at h; cases h) hc hs hQ fun fs hr => retOut X hx hret (by cases t <;> first | (cases ht; done) | (cases w <;> first | rfl | (cases hw; done))) (Or.inr (Or.inr (Or.inr (Or.inr ⟨rfl, ht, hw⟩)))) hd hr
theorem own_retV (X : Stand p l e R s m args below meth c T locs cells slots) (hx : p.tables.exec = Jvm.exec) (hlk : meth.locks = false) (hret : meth.sig.returnType = none) {pc : Nat} {Ls : Array Slot} (hd : decode c.code pc = .ok (.return_, 1))
    {rm : Room} {Q : Option Value → Heap → List Loc → Prop} (hc : cells ≤ rm.cells) (hs : slots ≤ rm.slots) (hQ : Q none T.heap locs) : OGoes p.tables e below (ODone rm s below Q) (T.setTop (mkF m pc Ls [])) :=
  own_leave X hlk (fun _ => rfl) hc hs hQ fun fs hr => X.returnOut hx hret hd hr
/-! the calls -/
theorem own_callS (X : Stand p l e R s m args below meth c T locs cells slots) (hx : p.tables.exec = Jvm.exec) (hZ : Z.Warmed39 s.vm) {own : String} {index : Nat} {y : MethodName} {bytes : ByteArray} {ml : Nat} {ret : Option FieldType} {rm : Room} {as : Array Value} {Q : Option Value → Heap → List Loc → Prop}
    (hown : s.vm.findClass own = some m.cls) (w1 : (Jvm.Cond.methodLink own index y).before a0 Z = true) (w2 : (Jvm.Cond.static y).before a0 Z = true) (w3 : (Jvm.Cond.initialized y.cls).before a0 Z = true) (w4 : (Jvm.Cond.code y bytes ml ret).before a0 Z = true) (hy : y.cls ≠ "java/lang/invoke/MethodHandle" ∧ y.cls ≠ "java/lang/invoke/VarHandle")
    (hM : OMet l Z y bytes ml ret rm as h Q) (eT : T.heap = h) {pc : Nat} {Ls : Array Slot} {st : List Value} (hsz : Ls.size = c.maxLocals) {argsL rest : List Value} {sig : MethodDescriptor} (hp : parseMethodDescriptor y.desc = some sig) (hn : argsL.length = sig.parameters.length) (has : argsL.toArray = as) (hst : st = argsL.reverse ++ rest)
    {W : Nat} (hW : (rest.map fun v => v.category).sum ≤ W) (hd : decode c.code pc = .ok (.invokestatic index, 3)) (hf : rm.frames + 1 ≤ R.frames) (hl : W + (ml + 11) + rm.locals ≤ R.locals) (hc : cells + rm.cells ≤ R.cells) (hs : slots + rm.slots ≤ R.slots)
    (k : ∀ (v : Option Value) (T' : State) (L' : List Loc), Stand p l e R s m args below meth c T' (locs ++ L') (cells + rm.cells) (slots + rm.slots) → Q v T'.heap L' → OGoes p.tables e below Φ (T'.setTop (mkF m (pc + 3) Ls (v.toList ++ rest)))) : OGoes p.tables e below Φ (T.setTop (mkF m pc Ls st)) := by
  obtain ⟨v, vm1, ⟨T', L, kk, nn⟩, -, X', ⟨Lc, hQ, l1, l2, l3⟩, st'⟩ := Jvm.LawKit.callS X hx (y := y) hown (mvT hZ w1) (mvT hZ w2) (mvT hZ w3) (mvT hZ w4) hy (backOf (W := W) (hM []) hZ w4 w3 hf hl) (g := mkF m pc Ls st) rfl hsz (argsL := argsL) (rest := rest) (fun sg h => by cases hp.symm.trans h; exact hn) hst (by show 2 * 0 + _ ≤ _; omega) hd (fun _ _ => ⟨has, eT, hc, hs⟩)
  dsimp only [Pt.U, Pt.locs, Pt.cells, Pt.slots] at X' l1 l2 l3 st' hQ
  subst l1 l2 l3
  exact own_st st' (k v T' Lc X' hQ)
theorem own_callV (X : Stand p l e R s m args below meth c T locs cells slots) (hx : p.tables.exec = Jvm.exec) (hZ : Z.Warmed39 s.vm) {own C : String} {index : Nat} {y : MethodName} {bytes : ByteArray} {ml : Nat} {ret : Option FieldType} {rm : Room} {as : Array Value} {Q : Option Value → Heap → List Loc → Prop}
    (hown : s.vm.findClass own = some m.cls) (w1 : (Jvm.Cond.methodLink own index y).before a0 Z = true) (w2 : (Jvm.Cond.declares y).before a0 Z = true) (w3 : (Jvm.Cond.selects C y y).before a0 Z = true) (w4 : (Jvm.Cond.instanceMethod y).before a0 Z = true) (w5 : (Jvm.Cond.initialized y.cls).before a0 Z = true) (w6 : (Jvm.Cond.code y bytes ml ret).before a0 Z = true) (hy : y.cls ≠ "java/lang/invoke/MethodHandle" ∧ y.cls ≠ "java/lang/invoke/VarHandle")
    (hM : OMet l Z y bytes ml ret rm as h Q) (eT : T.heap = h) {b : Addr} (E : Exa Z h b C) {pc : Nat} {Ls : Array Slot} {st : List Value} (hsz : Ls.size = c.maxLocals) {argsL rest : List Value} {sig : MethodDescriptor} (hp : parseMethodDescriptor y.desc = some sig) (hn : argsL.length = sig.parameters.length) (has : (.ref b :: argsL).toArray = as) (hst : st = argsL.reverse ++ .ref b :: rest)
    {W : Nat} (hW : (rest.map fun v => v.category).sum ≤ W) (hd : decode c.code pc = .ok (.invokevirtual index, 3)) (hf : rm.frames + 1 ≤ R.frames) (hl : W + (ml + 11) + rm.locals ≤ R.locals) (hc : cells + rm.cells ≤ R.cells) (hs : slots + rm.slots ≤ R.slots)
    (k : ∀ (v : Option Value) (T' : State) (L' : List Loc), Stand p l e R s m args below meth c T' (locs ++ L') (cells + rm.cells) (slots + rm.slots) → Q v T'.heap L' → OGoes p.tables e below Φ (T'.setTop (mkF m (pc + 3) Ls (v.toList ++ rest)))) : OGoes p.tables e below Φ (T.setTop (mkF m pc Ls st)) := by
  obtain ⟨cq, kq, qa, qb, qc⟩ := isOf hZ eT E
  obtain ⟨v, vm1, ⟨T', L, kk, nn⟩, -, X', ⟨Lc, hQ, l1, l2, l3⟩, st'⟩ := X.virtualBack hx (y := y) (z := y) hown (mvT hZ w1) (mvT hZ w2) (notFace_of_selects (args := #[]) (mvT hZ w3)) (mvT hZ w3) (mvT hZ w4) hy (backOf (W := W) (hM []) hZ w6 w5 hf hl) qa qc (g := mkF m pc Ls st) rfl hsz (Steps.refl _) (argsL := argsL) (rest := rest) (fun sg h => by cases hp.symm.trans h; exact hn) hst (by show 2 * 0 + _ ≤ _; omega) hd (fun _ _ => ⟨has, eT, hc, hs⟩)
  dsimp only [Pt.U, Pt.locs, Pt.cells, Pt.slots] at X' l1 l2 l3 st' hQ
  subst l1 l2 l3
  exact own_tr st' (k v T' Lc X' hQ)
theorem own_callN (X : Stand p l e R s m args below meth c T locs cells slots) (hx : p.tables.exec = Jvm.exec) (hZ : Z.Warmed39 s.vm) {own : String} {index : Nat} {y : MethodName} {bytes : ByteArray} {ml : Nat} {rm : Room} {as : Array Value} {Q : Option Value → Heap → List Loc → Prop} (hy1 : y.name = "<init>")
    (hown : s.vm.findClass own = some m.cls) (w1 : (Jvm.Cond.methodLink own index y).before a0 Z = true) (w4 : (Jvm.Cond.instanceMethod y).before a0 Z = true) (w5 : (Jvm.Cond.initialized y.cls).before a0 Z = true) (w6 : (Jvm.Cond.code y bytes ml none).before a0 Z = true) (hy : y.cls ≠ "java/lang/invoke/MethodHandle" ∧ y.cls ≠ "java/lang/invoke/VarHandle")
    (hM : OMet l Z y bytes ml none rm as h Q) (eT : T.heap = h) {b : Addr} {pc : Nat} {Ls : Array Slot} {st : List Value} (hsz : Ls.size = c.maxLocals) {argsL rest : List Value} {sig : MethodDescriptor} (hp : parseMethodDescriptor y.desc = some sig) (hn : argsL.length = sig.parameters.length) (has : (.ref b :: argsL).toArray = as) (hst : st = argsL.reverse ++ .ref b :: rest)
    {W : Nat} (hW : (rest.map fun v => v.category).sum ≤ W) (hd : decode c.code pc = .ok (.invokespecial index, 3)) (hf : rm.frames + 1 ≤ R.frames) (hl : W + (ml + 11) + rm.locals ≤ R.locals) (hc : cells + rm.cells ≤ R.cells) (hs : slots + rm.slots ≤ R.slots)
    (k : ∀ (v : Option Value) (T' : State) (L' : List Loc), Stand p l e R s m args below meth c T' (locs ++ L') (cells + rm.cells) (slots + rm.slots) → Q v T'.heap L' → OGoes p.tables e below Φ (T'.setTop (mkF m (pc + 3) Ls (v.toList ++ rest)))) : OGoes p.tables e below Φ (T.setTop (mkF m pc Ls st)) := by
  obtain ⟨v, vm1, ⟨T', L, kk, nn⟩, -, X', ⟨Lc, hQ, l1, l2, l3⟩, st'⟩ := X.specialBack hx (y := y) hy1 hown (mvT hZ w1) (mvT hZ w4) (mvT hZ w6) hy (backOf (W := W) (hM []) hZ w6 w5 hf hl) (g := mkF m pc Ls st) rfl hsz (Steps.refl _) (a := b) (argsL := argsL) (rest := rest) (fun sg h => by cases hp.symm.trans h; exact hn) hst (by show 2 * 0 + _ ≤ _; omega) hd (fun _ _ => ⟨has, eT, hc, hs⟩)
  dsimp only [Pt.U, Pt.locs, Pt.cells, Pt.slots] at X' l1 l2 l3 st' hQ
  subst l1 l2 l3
  exact own_tr st' (k v T' Lc X' hQ)
theorem own_callS0 (X : Stand p l e R s m args below meth c T locs cells slots) (hx : p.tables.exec = Jvm.exec) (hZ : Z.Warmed39 s.vm) {own : String} {index : Nat} {y : MethodName} {bytes : ByteArray} {ml : Nat} {ret : Option FieldType} {fr lo : Nat} {as : Array Value} {v : Option Value}
    (hown : s.vm.findClass own = some m.cls) (w1 : (Jvm.Cond.methodLink own index y).before a0 Z = true) (w2 : (Jvm.Cond.static y).before a0 Z = true) (w3 : (Jvm.Cond.initialized y.cls).before a0 Z = true) (w4 : (Jvm.Cond.code y bytes ml ret).before a0 Z = true) (hy : y.cls ≠ "java/lang/invoke/MethodHandle" ∧ y.cls ≠ "java/lang/invoke/VarHandle")
    (hM : OPure l Z y bytes ml ret fr lo as h v) (eT : T.heap = h) {pc : Nat} {Ls : Array Slot} {st : List Value} (hsz : Ls.size = c.maxLocals) {argsL rest : List Value} {sig : MethodDescriptor} (hp : parseMethodDescriptor y.desc = some sig) (hn : argsL.length = sig.parameters.length) (has : argsL.toArray = as) (hst : st = argsL.reverse ++ rest)
    {W : Nat} (hW : (rest.map fun v => v.category).sum ≤ W) (hd : decode c.code pc = .ok (.invokestatic index, 3)) (hf : fr + 1 ≤ R.frames) (hl : W + (ml + 11) + lo ≤ R.locals) (hc : cells ≤ R.cells) (hs : slots ≤ R.slots)
    (k : ∀ (T' : State), Stand p l e R s m args below meth c T' locs cells slots → T'.heap = h → OGoes p.tables e below Φ (T'.setTop (mkF m (pc + 3) Ls (v.toList ++ rest)))) : OGoes p.tables e below Φ (T.setTop (mkF m pc Ls st)) := by
  refine own_callS X hx hZ hown w1 w2 w3 w4 hy hM eT hsz hp hn has hst hW hd hf hl hc hs ?_
  rintro v' T' L' X' ⟨rfl, e', rfl⟩
  rw [List.append_nil] at X'
  exact k T' X' e'
theorem own_callV0 (X : Stand p l e R s m args below meth c T locs cells slots) (hx : p.tables.exec = Jvm.exec) (hZ : Z.Warmed39 s.vm) {own C : String} {index : Nat} {y : MethodName} {bytes : ByteArray} {ml : Nat} {ret : Option FieldType} {fr lo : Nat} {as : Array Value} {v : Option Value}
    (hown : s.vm.findClass own = some m.cls) (w1 : (Jvm.Cond.methodLink own index y).before a0 Z = true) (w2 : (Jvm.Cond.declares y).before a0 Z = true) (w3 : (Jvm.Cond.selects C y y).before a0 Z = true) (w4 : (Jvm.Cond.instanceMethod y).before a0 Z = true) (w5 : (Jvm.Cond.initialized y.cls).before a0 Z = true) (w6 : (Jvm.Cond.code y bytes ml ret).before a0 Z = true) (hy : y.cls ≠ "java/lang/invoke/MethodHandle" ∧ y.cls ≠ "java/lang/invoke/VarHandle")
    (hM : OPure l Z y bytes ml ret fr lo as h v) (eT : T.heap = h) {b : Addr} (E : Exa Z h b C) {pc : Nat} {Ls : Array Slot} {st : List Value} (hsz : Ls.size = c.maxLocals) {argsL rest : List Value} {sig : MethodDescriptor} (hp : parseMethodDescriptor y.desc = some sig) (hn : argsL.length = sig.parameters.length) (has : (.ref b :: argsL).toArray = as) (hst : st = argsL.reverse ++ .ref b :: rest)
    {W : Nat} (hW : (rest.map fun v => v.category).sum ≤ W) (hd : decode c.code pc = .ok (.invokevirtual index, 3)) (hf : fr + 1 ≤ R.frames) (hl : W + (ml + 11) + lo ≤ R.locals) (hc : cells ≤ R.cells) (hs : slots ≤ R.slots)
    (k : ∀ (T' : State), Stand p l e R s m args below meth c T' locs cells slots → T'.heap = h → OGoes p.tables e below Φ (T'.setTop (mkF m (pc + 3) Ls (v.toList ++ rest)))) : OGoes p.tables e below Φ (T.setTop (mkF m pc Ls st)) := by
  refine own_callV X hx hZ hown w1 w2 w3 w4 w5 w6 hy hM eT E hsz hp hn has hst hW hd hf hl hc hs ?_
  rintro v' T' L' X' ⟨rfl, e', rfl⟩
  rw [List.append_nil] at X'
  exact k T' X' e'
theorem own_aa_eq_t {a b : Addr} (h : a = b) : XT.acmp .eq (.ref a) (.ref b) = true := XT.aa_eq_t (congrArg Value.ref h)
theorem own_aa_eq_f {a b : Addr} (h : ¬ a = b) : XT.acmp .eq (.ref a) (.ref b) = false := XT.aa_eq_f fun q => h (Value.ref.inj q)
theorem own_aa_ne_t {a b : Addr} (h : ¬ a = b) : XT.acmp .ne (.ref a) (.ref b) = true := XT.aa_ne_t fun q => h (Value.ref.inj q)
theorem own_aa_ne_f {a b : Addr} (h : a = b) : XT.acmp .ne (.ref a) (.ref b) = false := XT.aa_ne_f (congrArg Value.ref h)
/-! the case's words -/
theorem own_fld_int {t : Term} {C n d : String} {a : Addr} {k : Int32} (ht : t.eval args s none [] s = some (.ref a)) (h : (Jvm.Cond.eq (.field t C n d) (.int k)).value args s none s [] = some true) : Fld s s.heap a C n d (.int k) := by
  have e : (Term.field t C n d).eval args s none [] s = s.fieldOf? a C n d := fld_at ht
  cases hx : s.fieldOf? a C n d with
  | none => simp [Cond.value, e, hx] at h
  | some v =>
    have e2 : (Term.int k).eval args s none [] s = some (.int k) := rfl
    cases v <;> simp [Cond.value, e, hx, e2] at h
    subst h
    exact Fld.start hx
theorem own_static {C n d K : String} (h : (Jvm.Cond.exactly (.static C n d) K).value args s none s [] = some true) (w1 : (Jvm.Cond.initialized C).before args s = true) (w2 : (Jvm.Cond.laysStatic C n d).before args s = true) :
    ∃ a, (Term.static C n d).eval args s none [] s = some (.ref a) ∧ Sta s s.heap C n d (.ref a) ∧ Exa s s.heap a K := by
  obtain ⟨a, ha⟩ := exa_v h
  exact ⟨a, ha, Sta.start ha (Or.inr ⟨w1, w2⟩), Exa.start ha h⟩
/-! arrays of ints of some kind at the start: Tab; what the case says of their places -/
theorem own_toI {j : Int32} (h : ¬ j < 0) : j.toNatClampNeg.toInt32 = j := (back32 h).1
theorem own_elem {t i : Term} {idx : List Nat} {a : Addr} {cl : Cell} {j v : Int32} (ht : t.eval args s none idx s = some (.ref a)) (hi : i.eval args s none idx s = some (.int j)) (ha : s.arrayAt? a = some cl) (hj : ¬ j < 0) (hv : cl.slots[j.toNatClampNeg]? = some (.int (atv cl j))) :
    (Jvm.Cond.eq (.elem t i) (.int v)).value args s none s idx = some (decide (atv cl j = v)) := by
  have e1 : (Term.elem t i).eval args s none idx s = some (.int (atv cl j)) := (elem_f ht hi ha hj).trans hv
  have e2 : (Term.int v).eval args s none idx s = some (.int v) := rfl
  simp [Cond.value, e1, e2]
theorem own_one {t : Term} {a : Addr} {cl : Cell} {ty : FieldType} {n k v : Int32} (hT : Tab s s.heap a cl ty n) (ht : t.eval args s none [] s = some (.ref a)) (hk : ¬ k < 0) (hkn : k < n) (h : (Jvm.Cond.eq (.elem t (.int k)) (.int v)).value args s none s [] = some true) : atv cl k = v :=
  gotT (own_elem ht rfl (Arr.fin (Vm.Alike.refl _) hT.1) hk (hT.2.2.2 k (inb_of hT.2.1 ⟨hk, hkn⟩))) h
theorem own_idx {i : Nat} {idx : List Nat} : (Term.index 0).eval args s none (i :: idx) s = some (.int i.toInt32) := rfl
theorem own_ltI {a b : Term} {idx : List Nat} {x y : Int32} (ha : a.eval args s none idx s = some (.int x)) (hb : b.eval args s none idx s = some (.int y)) : (Jvm.Cond.lt a b).value args s none s idx = some (decide (x < y)) := by simp [Cond.value, ha, hb]
theorem own_leI {a b : Term} {idx : List Nat} {x y : Int32} (ha : a.eval args s none idx s = some (.int x)) (hb : b.eval args s none idx s = some (.int y)) : (Jvm.Cond.le a b).value args s none s idx = some (decide (x ≤ y)) := by simp [Cond.value, ha, hb]
theorem own_all {t : Term} {a : Addr} {cl : Cell} {ty : FieldType} {n : Int32} {c : Jvm.Cond} (hT : Tab s s.heap a cl ty n) (ht : t.eval args s none [] s = some (.ref a)) (h : (Jvm.Cond.all t c).value args s none s [] = some true) (j : Int32) (hj : ¬ j < 0) (hjn : j < n) :
    c.value args s none s [j.toNatClampNeg] = some true ∧ (Term.index 0).eval args s none [j.toNatClampNeg] s = some (.int j) ∧ cl.slots[j.toNatClampNeg]? = some (.int (atv cl j)) := by
  have hin := inb_of hT.2.1 ⟨hj, hjn⟩
  refine ⟨Cond.all_elim ht (Arr.fin (Vm.Alike.refl _) hT.1) h _ (by omega), ?_, hT.2.2.2 j hin⟩
  rw [own_idx, own_toI hj]
theorem own_all_lo {t : Term} {a : Addr} {cl : Cell} {ty : FieldType} {n k v : Int32} (hT : Tab s s.heap a cl ty n) (ht : ∀ idx, t.eval args s none idx s = some (.ref a)) (h : (Jvm.Cond.all t (.or (.le (.int k) (.index 0)) (.eq (.elem t (.index 0)) (.int v)))).value args s none s [] = some true) (j : Int32) (hj : ¬ j < 0) (hjn : j < n) : k ≤ j ∨ atv cl j = v := by
  obtain ⟨h1, h2, h3⟩ := own_all hT (ht []) h j hj hjn
  exact or_e2 (own_leI rfl h2) (own_elem (ht _) h2 (Arr.fin (Vm.Alike.refl _) hT.1) hj h3) h1
theorem own_all_hi {t : Term} {a : Addr} {cl : Cell} {ty : FieldType} {n k v : Int32} (hT : Tab s s.heap a cl ty n) (ht : ∀ idx, t.eval args s none idx s = some (.ref a)) (h : (Jvm.Cond.all t (.or (.lt (.index 0) (.int k)) (.eq (.elem t (.index 0)) (.int v)))).value args s none s [] = some true) (j : Int32) (hj : ¬ j < 0) (hjn : j < n) : j < k ∨ atv cl j = v := by
  obtain ⟨h1, h2, h3⟩ := own_all hT (ht []) h j hj hjn
  exact or_e2 (own_ltI h2 rfl) (own_elem (ht _) h2 (Arr.fin (Vm.Alike.refl _) hT.1) hj h3) h1
theorem own_all_mid {t : Term} {a : Addr} {cl : Cell} {ty : FieldType} {n k q v : Int32} (hT : Tab s s.heap a cl ty n) (ht : ∀ idx, t.eval args s none idx s = some (.ref a)) (h : (Jvm.Cond.all t (.or (.lt (.index 0) (.int k)) (.or (.le (.int q) (.index 0)) (.eq (.elem t (.index 0)) (.int v))))).value args s none s [] = some true) (j : Int32) (hj : ¬ j < 0) (hjn : j < n) : j < k ∨ ¬ j < q ∨ atv cl j = v := by
  obtain ⟨h1, h2, h3⟩ := own_all hT (ht []) h j hj hjn
  exact or3 h1 (own_ltI h2 rfl) (own_leI rfl h2) (own_elem (ht _) h2 (Arr.fin (Vm.Alike.refl _) hT.1) hj h3)
theorem own_arr {t : Term} {a : Addr} {ty : FieldType} {n : Int32} (hf : Fit s) (ht : t.eval args s none [] s = some (.ref a)) (h1 : (Jvm.Cond.arrayOf t ty).value args s none s [] = some true) (h2 : (Jvm.Cond.eq (.length t) (.int n)).value args s none s [] = some true) (hty : ty = .int ∨ ty = .boolean ∨ ty = .byte ∨ ty = .char ∨ ty = .short) (hn : ¬ n < 0) : ∃ cl, Tab s s.heap a cl ty n := by
  obtain ⟨cl, A⟩ := Arr.start ht h1
  have ha := Arr.fin (Vm.Alike.refl _) A
  have hl : cl.slots.size < 2 ^ 31 := by
    refine Nat.lt_of_not_le fun q => ?_
    have e : (Term.length t).eval args s none [] s = none := by simp [Term.eval, ht, ha, q]
    simp [Cond.value, e] at h2
  have e1 : (Term.length t).eval args s none [] s = some (.int cl.slots.size.toInt32) := len_f ht ha hl
  have e2 : (Term.int n).eval args s none [] s = some (.int n) := rfl
  have e3 : cl.slots.size.toInt32 = n := by simpa [Cond.value, e1, e2] using h2
  exact ⟨cl, Tab.start hf A hty hl e3 hn⟩
theorem own_aastore (X : Stand p l e R s m args below meth c T locs cells slots) (hx : p.tables.exec = Jvm.exec) (hZ : Z.Warmed39 s.vm) (eT : T.heap = h) {a : Addr} {kc : ClassId} {ty : FieldType} {n : Int32} {vs : List Value} {d : Value} (A : Arv Z h a kc ty n vs d) {j : Int32} {v : Value} {i n0 : Nat} (hj : ¬ j < 0) (hjn : j < n) (hji : j.toNatClampNeg = i) (hi : i < vs.length) (hty : ty.isReference = true) (hv : fits ty v = true) (S : Sto Z h a v) (N : Fr n0 locs) (ge : n0 ≤ a) {pc : Nat} {Ls : Array Slot} {rest : List Value} (hd : decode c.code pc = .ok (.aastore, 1))
    (kk : ∀ (T' : State) (h' : Heap) (L' : List Loc), Stand p l e R s m args below meth c T' L' cells slots → T'.heap = h' → Fr n0 L' → Wr h h' a i v → Arv Z h' a kc ty n (vs.set i v) d → OGoes p.tables e below Φ (T'.setTop (mkF m (pc + 1) Ls rest))) : OGoes p.tables e below Φ (T.setTop (mkF m pc Ls (v :: .int j :: .ref a :: rest))) := by
  subst hji
  obtain ⟨cl, Ar, q1, S1, N1, H1, G1⟩ := A
  have hin := inb_of S1 ⟨hj, hjn⟩
  obtain ⟨T', h', X', e', W', st⟩ := stR X hx hZ eT Ar (j := j) hin hty S (g := mkF m pc Ls (v :: .int j :: .ref a :: rest)) rfl rfl hd
  exact own_st st (kk T' h' _ X' e' (Fr.snoc X' N ge) W' (Arv.set Ar q1 S1 N1 H1 G1 hv W' _ rfl hi))
theorem own_lastore (X : Stand p l e R s m args below meth c T locs cells slots) (hx : p.tables.exec = Jvm.exec) (hZ : Z.Warmed39 s.vm) (eT : T.heap = h) {a : Addr} {kc : ClassId} {n : Int32} {vs : List Value} {d : Value} (A : Arv Z h a kc .long n vs d) {j : Int32} {v : Int64} {i n0 : Nat} (hj : ¬ j < 0) (hjn : j < n) (hji : j.toNatClampNeg = i) (hi : i < vs.length)  (N : Fr n0 locs) (ge : n0 ≤ a) {pc : Nat} {Ls : Array Slot} {rest : List Value} (hd : decode c.code pc = .ok (.lastore, 1))
    (kk : ∀ (T' : State) (h' : Heap) (L' : List Loc), Stand p l e R s m args below meth c T' L' cells slots → T'.heap = h' → Fr n0 L' → Wr h h' a i (.long v) → Arv Z h' a kc .long n (vs.set i (.long v)) d → OGoes p.tables e below Φ (T'.setTop (mkF m (pc + 1) Ls rest))) : OGoes p.tables e below Φ (T.setTop (mkF m pc Ls ((.long v) :: .int j :: .ref a :: rest))) := by
  subst hji
  obtain ⟨cl, Ar, q1, S1, N1, H1, G1⟩ := A
  have hin := inb_of S1 ⟨hj, hjn⟩
  obtain ⟨T', h', X', e', W', st⟩ := stJ X hx hZ eT Ar (j := j) hin  (g := mkF m pc Ls ((.long v) :: .int j :: .ref a :: rest)) rfl rfl hd
  exact own_st st (kk T' h' _ X' e' (Fr.snoc X' N ge) W' (Arv.set Ar q1 S1 N1 H1 G1 rfl W' _ rfl hi))
theorem own_iastore (X : Stand p l e R s m args below meth c T locs cells slots) (hx : p.tables.exec = Jvm.exec) (hZ : Z.Warmed39 s.vm) (eT : T.heap = h) {a : Addr} {kc : ClassId} {n : Int32} {vs : List Value} {d : Value} (A : Arv Z h a kc .int n vs d) {j : Int32} {v : Int32} {i n0 : Nat} (hj : ¬ j < 0) (hjn : j < n) (hji : j.toNatClampNeg = i) (hi : i < vs.length)  (N : Fr n0 locs) (ge : n0 ≤ a) {pc : Nat} {Ls : Array Slot} {rest : List Value} (hd : decode c.code pc = .ok (.iastore, 1))
    (kk : ∀ (T' : State) (h' : Heap) (L' : List Loc), Stand p l e R s m args below meth c T' L' cells slots → T'.heap = h' → Fr n0 L' → Wr h h' a i (.int v) → Arv Z h' a kc .int n (vs.set i (.int v)) d → OGoes p.tables e below Φ (T'.setTop (mkF m (pc + 1) Ls rest))) : OGoes p.tables e below Φ (T.setTop (mkF m pc Ls ((.int v) :: .int j :: .ref a :: rest))) := by
  subst hji
  obtain ⟨cl, Ar, q1, S1, N1, H1, G1⟩ := A
  have hin := inb_of S1 ⟨hj, hjn⟩
  obtain ⟨T', h', X', e', W', st⟩ := stI X hx hZ eT Ar (j := j) hin  (g := mkF m pc Ls ((.int v) :: .int j :: .ref a :: rest)) rfl rfl hd
  exact own_st st (kk T' h' _ X' e' (Fr.snoc X' N ge) W' (Arv.set Ar q1 S1 N1 H1 G1 rfl W' _ rfl hi))
theorem own_bastore (X : Stand p l e R s m args below meth c T locs cells slots) (hx : p.tables.exec = Jvm.exec) (hZ : Z.Warmed39 s.vm) (eT : T.heap = h) {a : Addr} {kc : ClassId} {n : Int32} {vs : List Value} {d : Value} (A : Arv Z h a kc .byte n vs d) {j : Int32} {v : Int32} {i n0 : Nat} (hj : ¬ j < 0) (hjn : j < n) (hji : j.toNatClampNeg = i) (hi : i < vs.length)  (N : Fr n0 locs) (ge : n0 ≤ a) {pc : Nat} {Ls : Array Slot} {rest : List Value} (hd : decode c.code pc = .ok (.bastore, 1))
    (kk : ∀ (T' : State) (h' : Heap) (L' : List Loc), Stand p l e R s m args below meth c T' L' cells slots → T'.heap = h' → Fr n0 L' → Wr h h' a i (.int (nar .byte v)) → Arv Z h' a kc .byte n (vs.set i (.int (nar .byte v))) d → OGoes p.tables e below Φ (T'.setTop (mkF m (pc + 1) Ls rest))) : OGoes p.tables e below Φ (T.setTop (mkF m pc Ls ((.int v) :: .int j :: .ref a :: rest))) := by
  subst hji
  obtain ⟨cl, Ar, q1, S1, N1, H1, G1⟩ := A
  have hin := inb_of S1 ⟨hj, hjn⟩
  obtain ⟨T', h', X', e', W', st⟩ := stB X hx hZ eT Ar (j := j) hin  (g := mkF m pc Ls ((.int v) :: .int j :: .ref a :: rest)) rfl rfl hd
  exact own_st st (kk T' h' _ X' e' (Fr.snoc X' N ge) W' (Arv.set Ar q1 S1 N1 H1 G1 (fits_nar_byte _) W' _ rfl hi))
theorem own_castore (X : Stand p l e R s m args below meth c T locs cells slots) (hx : p.tables.exec = Jvm.exec) (hZ : Z.Warmed39 s.vm) (eT : T.heap = h) {a : Addr} {kc : ClassId} {n : Int32} {vs : List Value} {d : Value} (A : Arv Z h a kc .char n vs d) {j : Int32} {v : Int32} {i n0 : Nat} (hj : ¬ j < 0) (hjn : j < n) (hji : j.toNatClampNeg = i) (hi : i < vs.length)  (N : Fr n0 locs) (ge : n0 ≤ a) {pc : Nat} {Ls : Array Slot} {rest : List Value} (hd : decode c.code pc = .ok (.castore, 1))
    (kk : ∀ (T' : State) (h' : Heap) (L' : List Loc), Stand p l e R s m args below meth c T' L' cells slots → T'.heap = h' → Fr n0 L' → Wr h h' a i (.int (nar .char v)) → Arv Z h' a kc .char n (vs.set i (.int (nar .char v))) d → OGoes p.tables e below Φ (T'.setTop (mkF m (pc + 1) Ls rest))) : OGoes p.tables e below Φ (T.setTop (mkF m pc Ls ((.int v) :: .int j :: .ref a :: rest))) := by
  subst hji
  obtain ⟨cl, Ar, q1, S1, N1, H1, G1⟩ := A
  have hin := inb_of S1 ⟨hj, hjn⟩
  obtain ⟨T', h', X', e', W', st⟩ := stC X hx hZ eT Ar (j := j) hin  (g := mkF m pc Ls ((.int v) :: .int j :: .ref a :: rest)) rfl rfl hd
  exact own_st st (kk T' h' _ X' e' (Fr.snoc X' N ge) W' (Arv.set Ar q1 S1 N1 H1 G1 (fits_nar_char _) W' _ rfl hi))
theorem own_aaload (X : Stand p l e R s m args below meth c T locs cells slots) (hx : p.tables.exec = Jvm.exec) (hZ : Z.Warmed39 s.vm) (eT : T.heap = h) {a : Addr} {kc : ClassId} {ty : FieldType} (hty : ty.isReference = true) {n : Int32} {vs : List Value} {d : Value} (A : Arv Z h a kc ty n vs d) {j : Int32} {v : Value} (hj : ¬ j < 0) (hjn : j < n) (hv : vs.getD j.toNatClampNeg d = v) {pc : Nat} {Ls : Array Slot} {rest : List Value} (hd : decode c.code pc = .ok (.aaload, 1))
    (kk : OGoes p.tables e below Φ (T.setTop (mkF m (pc + 1) Ls (v :: rest)))) : OGoes p.tables e below Φ (T.setTop (mkF m pc Ls (.int j :: .ref a :: rest))) := by
  obtain ⟨cl, Ar, q1, S1, N1, H1, G1⟩ := A
  have hin := inb_of S1 ⟨hj, hjn⟩
  exact own_st (fun t k => X.aaload hx (j := j) (v := v) (by rw [eT]; exact Ar.1) (State.isArrayOf_alike hZ.alike Ar.2.1) hty Ar.2.2 hin (H1.at hin hv) (g := mkF m pc Ls (.int j :: .ref a :: rest)) rfl rfl hd t k) kk
theorem own_laload (X : Stand p l e R s m args below meth c T locs cells slots) (hx : p.tables.exec = Jvm.exec) (hZ : Z.Warmed39 s.vm) (eT : T.heap = h) {a : Addr} {kc : ClassId} {n : Int32} {vs : List Value} {d : Value} (A : Arv Z h a kc .long n vs d) {j : Int32} {v : Value} (hj : ¬ j < 0) (hjn : j < n) (hv : vs.getD j.toNatClampNeg d = v) {pc : Nat} {Ls : Array Slot} {rest : List Value} (hd : decode c.code pc = .ok (.laload, 1))
    (kk : OGoes p.tables e below Φ (T.setTop (mkF m (pc + 1) Ls (v :: rest)))) : OGoes p.tables e below Φ (T.setTop (mkF m pc Ls (.int j :: .ref a :: rest))) := by
  obtain ⟨cl, Ar, q1, S1, N1, H1, G1⟩ := A
  have hin := inb_of S1 ⟨hj, hjn⟩
  exact own_st (fun t k => X.laload hx (j := j) (v := v) (by rw [eT]; exact Ar.1) (State.isArrayOf_alike hZ.alike Ar.2.1) Ar.2.2 hin (H1.at hin hv) (g := mkF m pc Ls (.int j :: .ref a :: rest)) rfl rfl hd t k) kk
theorem own_iaload (X : Stand p l e R s m args below meth c T locs cells slots) (hx : p.tables.exec = Jvm.exec) (hZ : Z.Warmed39 s.vm) (eT : T.heap = h) {a : Addr} {kc : ClassId} {n : Int32} {vs : List Value} {d : Value} (A : Arv Z h a kc .int n vs d) {j : Int32} {v : Value} (hj : ¬ j < 0) (hjn : j < n) (hv : vs.getD j.toNatClampNeg d = v) {pc : Nat} {Ls : Array Slot} {rest : List Value} (hd : decode c.code pc = .ok (.iaload, 1))
    (kk : OGoes p.tables e below Φ (T.setTop (mkF m (pc + 1) Ls (v :: rest)))) : OGoes p.tables e below Φ (T.setTop (mkF m pc Ls (.int j :: .ref a :: rest))) := by
  obtain ⟨cl, Ar, q1, S1, N1, H1, G1⟩ := A
  have hin := inb_of S1 ⟨hj, hjn⟩
  exact own_st (fun t k => X.iaload hx (j := j) (v := v) (by rw [eT]; exact Ar.1) (State.isArrayOf_alike hZ.alike Ar.2.1) Ar.2.2 hin (H1.at hin hv) (g := mkF m pc Ls (.int j :: .ref a :: rest)) rfl rfl hd t k) kk
theorem own_baload (X : Stand p l e R s m args below meth c T locs cells slots) (hx : p.tables.exec = Jvm.exec) (hZ : Z.Warmed39 s.vm) (eT : T.heap = h) {a : Addr} {kc : ClassId} {n : Int32} {vs : List Value} {d : Value} (A : Arv Z h a kc .byte n vs d) {j : Int32} {v : Value} (hj : ¬ j < 0) (hjn : j < n) (hv : vs.getD j.toNatClampNeg d = v) {pc : Nat} {Ls : Array Slot} {rest : List Value} (hd : decode c.code pc = .ok (.baload, 1))
    (kk : OGoes p.tables e below Φ (T.setTop (mkF m (pc + 1) Ls (v :: rest)))) : OGoes p.tables e below Φ (T.setTop (mkF m pc Ls (.int j :: .ref a :: rest))) := by
  obtain ⟨cl, Ar, q1, S1, N1, H1, G1⟩ := A
  have hin := inb_of S1 ⟨hj, hjn⟩
  exact own_st (fun t k => X.baloadBytes hx (j := j) (v := v) (by rw [eT]; exact Ar.1) (State.isArrayOf_alike hZ.alike Ar.2.1) Ar.2.2 hin (H1.at hin hv) (g := mkF m pc Ls (.int j :: .ref a :: rest)) rfl rfl hd t k) kk
theorem own_caload (X : Stand p l e R s m args below meth c T locs cells slots) (hx : p.tables.exec = Jvm.exec) (hZ : Z.Warmed39 s.vm) (eT : T.heap = h) {a : Addr} {kc : ClassId} {n : Int32} {vs : List Value} {d : Value} (A : Arv Z h a kc .char n vs d) {j : Int32} {v : Value} (hj : ¬ j < 0) (hjn : j < n) (hv : vs.getD j.toNatClampNeg d = v) {pc : Nat} {Ls : Array Slot} {rest : List Value} (hd : decode c.code pc = .ok (.caload, 1))
    (kk : OGoes p.tables e below Φ (T.setTop (mkF m (pc + 1) Ls (v :: rest)))) : OGoes p.tables e below Φ (T.setTop (mkF m pc Ls (.int j :: .ref a :: rest))) := by
  obtain ⟨cl, Ar, q1, S1, N1, H1, G1⟩ := A
  have hin := inb_of S1 ⟨hj, hjn⟩
  exact own_st (fun t k => X.caload hx (j := j) (v := v) (by rw [eT]; exact Ar.1) (State.isArrayOf_alike hZ.alike Ar.2.1) Ar.2.2 hin (H1.at hin hv) (g := mkF m pc Ls (.int j :: .ref a :: rest)) rfl rfl hd t k) kk
theorem own_alen (X : Stand p l e R s m args below meth c T locs cells slots) (hx : p.tables.exec = Jvm.exec) (hZ : Z.Warmed39 s.vm) (eT : T.heap = h) {a : Addr} {kc : ClassId} {ty : FieldType} {n : Int32} {vs : List Value} {d : Value} (A : Arv Z h a kc ty n vs d) {pc : Nat} {Ls : Array Slot} {rest : List Value} (hd : decode c.code pc = .ok (.arraylength, 1))
    (kk : OGoes p.tables e below Φ (T.setTop (mkF m (pc + 1) Ls (.int n :: rest)))) : OGoes p.tables e below Φ (T.setTop (mkF m pc Ls (.ref a :: rest))) := by
  obtain ⟨cl, Ar, q1, S1, N1, H1, G1⟩ := A
  exact own_st (fun t k => X.arraylength hx (by rw [eT]; exact Ar.1) (State.isArrayOf_alike hZ.alike Ar.2.1) (g := mkF m pc Ls (.ref a :: rest)) rfl rfl hd t (by rw [len_of S1 N1]; exact k)) kk
theorem own_newarray (X : Stand p l e R s m args below meth c T locs cells slots) (hx : p.tables.exec = Jvm.exec) (hZ : Z.Warmed39 s.vm) (eT : T.heap = h) {aty : ArrayType} (w : (Jvm.Cond.arrayClass (newarray.typeOf aty)).before a0 Z = true) {n : Int32} (hn : ¬ n < 0) {cap : Nat} (hcap : n.toNatClampNeg ≤ cap) (hb : cap * 8 ≤ 536870912) (hc : cells + 1 ≤ R.cells) (hl : slots + cap ≤ R.slots) {ad : String} (had : "[" ++ (newarray.typeOf aty).toString = ad) {pc : Nat} {Ls : Array Slot} {rest : List Value} (hd : decode c.code pc = .ok (.newarray aty, 2))
    (kk : ∀ (T' : State) (h' : Heap) (kc : ClassId) (b : Nat), Stand p l e R s m args below meth c T' locs (cells + 1) (slots + cap) → T'.heap = h' → Ext h h' → b = h.size → Arv Z h' b kc (newarray.typeOf aty) n [] (defaultValue (newarray.typeOf aty)) → Exa Z h' b ad → OGoes p.tables e below Φ (T'.setTop (mkF m (pc + 2) Ls (.ref b :: rest)))) : OGoes p.tables e below Φ (T.setTop (mkF m pc Ls (.int n :: rest))) := by
  obtain ⟨T', h', kc, X', e', E', A', B', st⟩ := newPE X hx hZ w eT (g := mkF m pc Ls (.int n :: rest)) rfl hd rfl hn hcap hb hc hl had
  exact own_st st (kk T' h' kc _ X' e' E' rfl (Arv.new A' hn) B')
theorem own_anewarray (X : Stand p l e R s m args below meth c T locs cells slots) (hx : p.tables.exec = Jvm.exec) (hZ : Z.Warmed39 s.vm) (eT : T.heap = h) {own C : String} {index : Nat} (hown : s.vm.findClass own = some m.cls) (w1 : (Jvm.Cond.classLink own index C).before a0 Z = true) (w2 : (Jvm.Cond.arrayOver (.object C)).before a0 Z = true) {n : Int32} (hn : ¬ n < 0) {cap : Nat} (hcap : n.toNatClampNeg ≤ cap) (hb : cap * 8 ≤ 536870912) (hc : cells + 1 ≤ R.cells) (hl : slots + cap ≤ R.slots) {pc : Nat} {Ls : Array Slot} {rest : List Value} (hd : decode c.code pc = .ok (.anewarray index, 3))
    (kk : ∀ (T' : State) (h' : Heap) (kc : ClassId) (b : Nat), Stand p l e R s m args below meth c T' locs (cells + 1) (slots + cap) → T'.heap = h' → Ext h h' → b = h.size → Arv Z h' b kc (.object C) n [] .null → Ovr Z kc C → OGoes p.tables e below Φ (T'.setTop (mkF m (pc + 3) Ls (.ref b :: rest)))) : OGoes p.tables e below Φ (T.setTop (mkF m pc Ls (.int n :: rest))) := by
  obtain ⟨T', h', kc, X', e', E', A', O', st⟩ := newR X hx hZ hown w1 w2 eT (g := mkF m pc Ls (.int n :: rest)) rfl hd rfl hn hcap hb hc hl
  exact own_st st (kk T' h' kc _ X' e' E' rfl (Arv.new A' hn) O')
theorem own_anewarrayA (X : Stand p l e R s m args below meth c T locs cells slots) (hx : p.tables.exec = Jvm.exec) (hZ : Z.Warmed39 s.vm) (eT : T.heap = h) {own C : String} {ty : FieldType} {index : Nat} (hown : s.vm.findClass own = some m.cls) (hC : (FieldType.array ty).toString = C) (w1 : (Jvm.Cond.classLink own index C).before a0 Z = true) (w2 : (Jvm.Cond.arrayOver (.array ty)).before a0 Z = true) {n : Int32} (hn : ¬ n < 0) {cap : Nat} (hcap : n.toNatClampNeg ≤ cap) (hb : cap * 8 ≤ 536870912) (hc : cells + 1 ≤ R.cells) (hl : slots + cap ≤ R.slots) {pc : Nat} {Ls : Array Slot} {rest : List Value} (hd : decode c.code pc = .ok (.anewarray index, 3))
    (kk : ∀ (T' : State) (h' : Heap) (kc : ClassId) (b : Nat), Stand p l e R s m args below meth c T' locs (cells + 1) (slots + cap) → T'.heap = h' → Ext h h' → b = h.size → Arv Z h' b kc (.array ty) n [] .null → OvrA Z kc ty C → OGoes p.tables e below Φ (T'.setTop (mkF m (pc + 3) Ls (.ref b :: rest)))) : OGoes p.tables e below Φ (T.setTop (mkF m pc Ls (.int n :: rest))) := by
  obtain ⟨T', h', kc, X', e', E', A', -, O', st⟩ := newRA X hx hZ hown hC w1 w2 eT (g := mkF m pc Ls (.int n :: rest)) rfl hd rfl hn hcap hb hc hl rfl
  exact own_st st (kk T' h' kc _ X' e' E' rfl (Arv.new A' hn) O')
theorem own_new (X : Stand p l e R s m args below meth c T locs cells slots) (hx : p.tables.exec = Jvm.exec) (hZ : Z.Warmed39 s.vm) (eT : T.heap = h) {own C : String} {index n : Nat} (hown : s.vm.findClass own = some m.cls) (w : (Jvm.Cond.classLink own index C).before a0 Z = true) (wi : (Jvm.Cond.instantiable C n).before a0 Z = true) (wz : (Jvm.Cond.initialized C).before a0 Z = true) (hc : cells + 1 ≤ R.cells) (hl : slots + n ≤ R.slots) {pc : Nat} {Ls : Array Slot} {st : List Value} (hd : decode c.code pc = .ok (.new index, 3))
    (kk : ∀ (T' : State) (h' : Heap) (b : Nat), Stand p l e R s m args below meth c T' locs (cells + 1) (slots + n) → T'.heap = h' → Ext h h' → b = h.size → Exa Z h' b C → (∀ {O nm d : String} {ty : FieldType}, Laid Z a0 C O nm d → parseFieldDescriptor d = some ty → Fld Z h' b O nm d (defaultValue ty)) → OGoes p.tables e below Φ (T'.setTop (mkF m (pc + 3) Ls (.ref b :: st)))) : OGoes p.tables e below Φ (T.setTop (mkF m pc Ls st)) := by
  obtain ⟨T', h', X', e', E', A', D', -, st'⟩ := newO X hx hZ hown w wi wz eT (g := mkF m pc Ls st) rfl hd hc hl
  exact own_st st' (kk T' h' _ X' e' E' rfl A' D')
theorem own_getfield (X : Stand p l e R s m args below meth c T locs cells slots) (hx : p.tables.exec = Jvm.exec) (hZ : Z.Warmed39 s.vm) (eT : T.heap = h) {own R0 O n d : String} {index : Nat} (hown : s.vm.findClass own = some m.cls) (w : (Jvm.Cond.fieldLink own index R0 n d).before a0 Z = true) (via : Via Z R0 O n d) {a : Addr} {v : Value} (F : Fld Z h a O n d v) {pc : Nat} {Ls : Array Slot} {rest : List Value} (hd : decode c.code pc = .ok (.getfield index, 3))
    (kk : ∀ (T' : State), Stand p l e R s m args below meth c T' locs cells slots → T'.heap = h → OGoes p.tables e below Φ (T'.setTop (mkF m (pc + 3) Ls (v :: rest)))) : OGoes p.tables e below Φ (T.setTop (mkF m pc Ls (.ref a :: rest))) := by
  obtain ⟨T', X', e', st⟩ := getF X hx hZ hown (host := "") (Or.inl w) via eT F (g := mkF m pc Ls (.ref a :: rest)) rfl rfl hd
  exact own_st st (kk T' X' e')
theorem own_getstatic (X : Stand p l e R s m args below meth c T locs cells slots) (hx : p.tables.exec = Jvm.exec) (hZ : Z.Warmed39 s.vm) (eT : T.heap = h) {own O n d : String} {index : Nat} (hown : s.vm.findClass own = some m.cls) (w : (Jvm.Cond.fieldLink own index O n d).before a0 Z = true) {v : Value} (F : Sta Z h O n d v) {pc : Nat} {Ls : Array Slot} {st : List Value} (hd : decode c.code pc = .ok (.getstatic index, 3))
    (kk : ∀ (T' : State), Stand p l e R s m args below meth c T' locs cells slots → T'.heap = h → OGoes p.tables e below Φ (T'.setTop (mkF m (pc + 3) Ls (v :: st)))) : OGoes p.tables e below Φ (T.setTop (mkF m pc Ls st)) := by
  obtain ⟨T', X', e', st'⟩ := getS X hx hZ (host := "") hown w Via.refl eT F (g := mkF m pc Ls st) rfl hd
  exact own_st st' (kk T' X' e')
theorem own_putfield (X : Stand p l e R s m args below meth c T locs cells slots) (hx : p.tables.exec = Jvm.exec) (hZ : Z.Warmed39 s.vm) (eT : T.heap = h) {own O n d C : String} {index kk0 : Nat} {ty : FieldType} (hown : s.vm.findClass own = some m.cls) (w : (Jvm.Cond.fieldLink own index O n d).before a0 Z = true) {a : Addr} {v old : Value} (F : Fld Z h a O n d old) (E : Exa Z h a C) (L : (Jvm.Cond.lays C O n d).before a0 Z = true ∨ ((Jvm.Cond.laysFinal C O n d).before a0 Z = true ∧ own = O ∧ meth.name = "<init>")) (wi : (Jvm.Cond.instantiable C kk0).before a0 Z = true) (hty : parseFieldDescriptor d = some ty) (hn : narrow ty v = v) (hf : fits ty v = true)
    {n0 : Nat} (N : Fr n0 locs) (ge : n0 ≤ a) {pc : Nat} {Ls : Array Slot} {rest : List Value} (hd : decode c.code pc = .ok (.putfield index, 3))
    (kk : ∀ (T' : State) (h' : Heap) (L' : List Loc), Stand p l e R s m args below meth c T' L' cells slots → T'.heap = h' → Fr n0 L' → Wr h h' a (Jvm.RoadKit.slotOf Z O n d) v → Fld Z h' a O n d v → OGoes p.tables e below Φ (T'.setTop (mkF m (pc + 3) Ls rest))) : OGoes p.tables e below Φ (T.setTop (mkF m pc Ls (v :: .ref a :: rest))) := by
  obtain ⟨T', h', X', e', W', st⟩ := putF X hx hZ hown (host := "") (Or.inl w) Via.refl eT F E L wi hty hn hf (g := mkF m pc Ls (v :: .ref a :: rest)) rfl rfl hd
  exact own_st st (kk T' h' _ X' e' (Fr.snoc X' N ge) W' (F.same W'))
theorem own_ne {a b : Nat} (h : a < b ∨ b < a) : @Ne Addr a b := fun (q : a = b) => by omega
theorem own_ext_trans {h1 h2 h3 : Heap} (A : Ext h1 h2) (B : Ext h2 h3) : Ext h1 h3 := ⟨Nat.le_trans A.1 B.1, fun a c q => B.2 a c (A.2 a c q)⟩
theorem own_old_wr {h' : Heap} {a : Addr} {sl : Nat} {v : Value} (O : Ext Z.heap h) (W : Wr h h' a sl v) (q : Z.heap.size ≤ a) : Ext Z.heap h' := (Old.wr (Z := Z) (n0 := Z.heap.size) ⟨rfl, O⟩ W q).2
theorem own_old_keep {h' : Heap} {ws : List Addr} (O : Ext Z.heap h) (K : Keep h h' ws) (q : ∀ x ∈ ws, Z.heap.size ≤ x) : Ext Z.heap h' := (Old.keep (Z := Z) (n0 := Z.heap.size) ⟨rfl, O⟩ K q).2
theorem own_callU0 (X : Stand p l e R s m args below meth c T locs cells slots) (hx : p.tables.exec = Jvm.exec) (hZ : Z.Warmed39 s.vm) {own C owner : String} {index : Nat} {x0 y : MethodName} {bytes : ByteArray} {ml : Nat} {ret : Option FieldType} {fr lo : Nat} {as : Array Value} {v : Option Value}
    (hown : s.vm.findClass own = some m.cls) (w1 : (Jvm.Cond.methodLink own index x0).before a0 Z = true) (w2 : (Jvm.Cond.sameMethod x0.cls owner x0.name x0.desc).before a0 Z = true) (w3 : (Jvm.Cond.declares ⟨owner, x0.name, x0.desc⟩).before a0 Z = true) (w3' : (Jvm.Cond.selects C x0 y).before a0 Z = true) (w4 : (Jvm.Cond.instanceMethod y).before a0 Z = true) (w5 : (Jvm.Cond.initialized y.cls).before a0 Z = true) (w6 : (Jvm.Cond.code y bytes ml ret).before a0 Z = true) (hy : owner ≠ "java/lang/invoke/MethodHandle" ∧ owner ≠ "java/lang/invoke/VarHandle")
    (hM : OPure l Z y bytes ml ret fr lo as h v) (eT : T.heap = h) {b : Addr} (E : Exa Z h b C) {pc : Nat} {Ls : Array Slot} {st : List Value} (hsz : Ls.size = c.maxLocals) {argsL rest : List Value} {sig : MethodDescriptor} (hp : parseMethodDescriptor x0.desc = some sig) (hn : argsL.length = sig.parameters.length) (has : (.ref b :: argsL).toArray = as) (hst : st = argsL.reverse ++ .ref b :: rest)
    {W : Nat} (hW : (rest.map fun v => v.category).sum ≤ W) (hd : decode c.code pc = .ok (.invokevirtual index, 3)) (hf : fr + 1 ≤ R.frames) (hl : W + (ml + 11) + lo ≤ R.locals) (hc : cells ≤ R.cells) (hs : slots ≤ R.slots)
    (k : ∀ (T' : State), Stand p l e R s m args below meth c T' locs cells slots → T'.heap = h → OGoes p.tables e below Φ (T'.setTop (mkF m (pc + 3) Ls (v.toList ++ rest)))) : OGoes p.tables e below Φ (T.setTop (mkF m pc Ls st)) := by
  obtain ⟨cq, kq, qa, qb, qc⟩ := isOf hZ eT E
  obtain ⟨v', vm1, ⟨T', L, kk, nn⟩, -, X', ⟨Lc, ⟨q1, q2, q3⟩, l1, l2, l3⟩, st'⟩ := X.virtualBackUp hx (x := x0) (y := y) hown (mvT hZ w1) (mvT hZ w2) (mvT hZ w3) hy (mvT hZ w3') (mvT hZ w4) (backOf (rm := ⟨fr, 0, 0, lo⟩) (Q := fun v' h' L' => v' = v ∧ h' = h ∧ L' = []) (W := W) (hM []) hZ w6 w5 hf hl) qa qc (g := mkF m pc Ls st) rfl hsz (Steps.refl _) (argsL := argsL) (rest := rest) (fun sg h => by cases hp.symm.trans h; exact hn) hst (by show 2 * 0 + _ ≤ _; omega) hd (fun _ _ => ⟨has, eT, hc, hs⟩)
  dsimp only [Pt.U, Pt.locs, Pt.cells, Pt.slots] at X' l1 l2 l3 st' q2
  subst l1 l2 l3 q1 q3
  rw [List.append_nil] at X'
  exact own_tr st' (k T' X' q2)
theorem own_stoA {a y : Addr} {kc : ClassId} {t0 ty : FieldType} {n : Int32} {vs : List Value} {d : Value} {C : String} (A : Arv Z h a kc t0 n vs d) (O : OvrA Z kc ty C) (I : Ins Z h y C true) : Sto Z h a (.ref y) := by
  obtain ⟨cl, Ar, q1, -⟩ := A
  exact Sto.ofVA Ar q1 O I
theorem own_sto {a y : Addr} {kc : ClassId} {t0 : FieldType} {n : Int32} {vs : List Value} {d : Value} {C : String} (A : Arv Z h a kc t0 n vs d) (O : Ovr Z kc C) (I : Ins Z h y C true) : Sto Z h a (.ref y) := by
  obtain ⟨cl, Ar, q1, -⟩ := A
  exact Sto.ofV Ar q1 O I
theorem own_arrR {t : Term} {a : Addr} {ty : FieldType} {n : Int32} (ht : t.eval args s none [] s = some (.ref a)) (h1 : (Jvm.Cond.arrayOf t ty).value args s none s [] = some true) (h2 : (Jvm.Cond.eq (.length t) (.int n)).value args s none s [] = some true) : ∃ cl, Arr s s.heap a cl ty ∧ cl.slots.size < 2 ^ 31 ∧ cl.slots.size.toInt32 = n := by
  obtain ⟨cl, A⟩ := Arr.start ht h1
  have ha := Arr.fin (Vm.Alike.refl _) A
  have hl : cl.slots.size < 2 ^ 31 := by
    refine Nat.lt_of_not_le fun q => ?_
    have e : (Term.length t).eval args s none [] s = none := by simp [Term.eval, ht, ha, q]
    simp [Cond.value, e] at h2
  have e1 : (Term.length t).eval args s none [] s = some (.int cl.slots.size.toInt32) := len_f ht ha hl
  have e2 : (Term.int n).eval args s none [] s = some (.int n) := rfl
  exact ⟨cl, A, hl, by simpa [Cond.value, e1, e2] using h2⟩
theorem own_elemR {t u : Term} {a w : Addr} {cl : Cell} {ty : FieldType} {k : Int32} (A : Arr s s.heap a cl ty) (ht : t.eval args s none [] s = some (.ref a)) (hu : u.eval args s none [] s = some (.ref w)) (h : (Jvm.Cond.eq (.elem t (.int k)) u).value args s none s [] = some true) : cl.slots[k.toNatClampNeg]? = some (.ref w) := by
  obtain ⟨v, y, e1, e2, -, -⟩ := cmp_v (Or.inl h)
  obtain rfl : y = .ref w := Option.some.inj (e2.symm.trans hu)
  have q := (elem_in e1 ht rfl A.1).2
  rw [q]
  cases v <;> simp [Cond.value, e1, e2] at h
  rw [h]
theorem own_elemI {t : Term} {a : Addr} {cl : Cell} {ty : FieldType} {k x : Int32} (A : Arr s s.heap a cl ty) (ht : t.eval args s none [] s = some (.ref a)) (h : (Jvm.Cond.eq (.elem t (.int k)) (.int x)).value args s none s [] = some true) : cl.slots[k.toNatClampNeg]? = some (.int x) := by
  obtain ⟨v, y, e1, e2, -, -⟩ := cmp_v (Or.inl h)
  obtain rfl : y = .int x := Option.some.inj (e2.symm.trans rfl)
  have q := (elem_in e1 ht rfl A.1).2
  rw [q]
  cases v <;> simp [Cond.value, e1, e2] at h
  rw [h]
theorem own_callP (X : Stand p l e R s m args below meth c T locs cells slots) (hx : p.tables.exec = Jvm.exec) (hZ : Z.Warmed39 s.vm) {own : String} {index nn : Nat} {y : MethodName} {bytes : ByteArray} {ml : Nat} {ret : Option FieldType} {rm : Room} {as : Array Value} {Q : Option Value → Heap → List Loc → Prop}
    (hown : s.vm.findClass own = some m.cls) (w1 : (Jvm.Cond.methodLink own index y).before a0 Z = true) (w2 : (Jvm.Cond.privateMethod y).before a0 Z = true) (w3 : (Jvm.Cond.instantiable y.cls nn).before a0 Z = true) (w4 : (Jvm.Cond.instanceMethod y).before a0 Z = true) (w5 : (Jvm.Cond.initialized y.cls).before a0 Z = true) (w6 : (Jvm.Cond.code y bytes ml ret).before a0 Z = true) (hy : y.cls ≠ "java/lang/invoke/MethodHandle" ∧ y.cls ≠ "java/lang/invoke/VarHandle")
    (hM : OMet l Z y bytes ml ret rm as h Q) (eT : T.heap = h) {b : Addr} (E : Exa Z h b y.cls) {pc : Nat} {Ls : Array Slot} {st : List Value} (hsz : Ls.size = c.maxLocals) {argsL rest : List Value} {sig : MethodDescriptor} (hp : parseMethodDescriptor y.desc = some sig) (hn : argsL.length = sig.parameters.length) (has : (.ref b :: argsL).toArray = as) (hst : st = argsL.reverse ++ .ref b :: rest)
    {W : Nat} (hW : (rest.map fun v => v.category).sum ≤ W) (hd : decode c.code pc = .ok (.invokevirtual index, 3)) (hf : rm.frames + 1 ≤ R.frames) (hl : W + (ml + 11) + rm.locals ≤ R.locals) (hc : cells + rm.cells ≤ R.cells) (hs : slots + rm.slots ≤ R.slots)
    (k : ∀ (v : Option Value) (T' : State) (L' : List Loc), Stand p l e R s m args below meth c T' (locs ++ L') (cells + rm.cells) (slots + rm.slots) → Q v T'.heap L' → OGoes p.tables e below Φ (T'.setTop (mkF m (pc + 3) Ls (v.toList ++ rest)))) : OGoes p.tables e below Φ (T.setTop (mkF m pc Ls st)) := by
  obtain ⟨cq, q, q'⟩ := E.cell
  have hp' := Cond.privateMethod_at (mvP hZ w2 (args := #[]))
  obtain ⟨c0, k0, i1, i2, -, i4, -⟩ := Cond.instantiable_spec (mvT (args := args) hZ w3)
  have hsel := selects_self_of_private i1 i2 (Bool.or_eq_false_iff.mp i4).1 hp' (mvT (args := args) hZ w4) hy
  obtain ⟨v, vm1, ⟨T', L, kk, nn⟩, -, X', ⟨Lc, hQ, l1, l2, l3⟩, st'⟩ := X.privateBack hx (y := y) hown (mvT hZ w1) (mvT hZ w4) hsel hp' (mvT hZ w6) hy (backOf (W := W) (hM []) hZ w6 w5 hf hl) (g := mkF m pc Ls st) rfl hsz (Steps.refl _) (a := b) (by rw [eT]; exact q) q' (argsL := argsL) (rest := rest) (fun sg h => by cases hp.symm.trans h; exact hn) hst (by show 2 * 0 + _ ≤ _; omega) hd (fun _ _ => ⟨has, eT, hc, hs⟩)
  dsimp only [Pt.U, Pt.locs, Pt.cells, Pt.slots] at X' l1 l2 l3 st' hQ
  subst l1 l2 l3
  exact own_tr st' (k v T' Lc X' hQ)
theorem own_callP0 (X : Stand p l e R s m args below meth c T locs cells slots) (hx : p.tables.exec = Jvm.exec) (hZ : Z.Warmed39 s.vm) {own : String} {index nn : Nat} {y : MethodName} {bytes : ByteArray} {ml : Nat} {ret : Option FieldType} {fr lo : Nat} {as : Array Value} {v : Option Value}
    (hown : s.vm.findClass own = some m.cls) (w1 : (Jvm.Cond.methodLink own index y).before a0 Z = true) (w2 : (Jvm.Cond.privateMethod y).before a0 Z = true) (w3 : (Jvm.Cond.instantiable y.cls nn).before a0 Z = true) (w4 : (Jvm.Cond.instanceMethod y).before a0 Z = true) (w5 : (Jvm.Cond.initialized y.cls).before a0 Z = true) (w6 : (Jvm.Cond.code y bytes ml ret).before a0 Z = true) (hy : y.cls ≠ "java/lang/invoke/MethodHandle" ∧ y.cls ≠ "java/lang/invoke/VarHandle")
    (hM : OPure l Z y bytes ml ret fr lo as h v) (eT : T.heap = h) {b : Addr} (E : Exa Z h b y.cls) {pc : Nat} {Ls : Array Slot} {st : List Value} (hsz : Ls.size = c.maxLocals) {argsL rest : List Value} {sig : MethodDescriptor} (hp : parseMethodDescriptor y.desc = some sig) (hn : argsL.length = sig.parameters.length) (has : (.ref b :: argsL).toArray = as) (hst : st = argsL.reverse ++ .ref b :: rest)
    {W : Nat} (hW : (rest.map fun v => v.category).sum ≤ W) (hd : decode c.code pc = .ok (.invokevirtual index, 3)) (hf : fr + 1 ≤ R.frames) (hl : W + (ml + 11) + lo ≤ R.locals) (hc : cells ≤ R.cells) (hs : slots ≤ R.slots)
    (k : ∀ (T' : State), Stand p l e R s m args below meth c T' locs cells slots → T'.heap = h → OGoes p.tables e below Φ (T'.setTop (mkF m (pc + 3) Ls (v.toList ++ rest)))) : OGoes p.tables e below Φ (T.setTop (mkF m pc Ls st)) := by
  refine own_callP X hx hZ hown w1 w2 w3 w4 w5 w6 hy hM eT E hsz hp hn has hst hW hd hf hl hc hs ?_
  rintro v' T' L' X' ⟨rfl, e', rfl⟩
  rw [List.append_nil] at X'
  exact k T' X' e'
theorem own_acopy (X : Stand p l e R s m args below meth c T locs cells slots) (hx : p.tables.exec = Jvm.exec) (hZ : Z.Warmed39 s.vm) (eT : T.heap = h) {own : String} {index : Nat} (hown : s.vm.findClass own = some m.cls) (w1 : (Jvm.Cond.methodLink own index Jvm.Stand.acN).before a0 Z = true) (w2 : (Jvm.Cond.native Jvm.Stand.acN).before a0 Z = true) (w3 : (Jvm.Cond.static Jvm.Stand.acN).before a0 Z = true) (w4 : (Jvm.Cond.initialized "java/lang/System").before a0 Z = true)
    {a b : Addr} {kc k' : ClassId} {ty : FieldType} {z z' sp dp nn : Int32} {vs vd us : List Value} {dv dd : Value} (A : Arv Z h a kc ty z vs dv) (B : Arv Z h b k' ty z' vd dd) (hty : refKind ty = false) (h1 : ¬ sp < 0) (h2 : ¬ dp < 0) (h3 : ¬ nn < 0) (h4 : sp.toNatClampNeg + nn.toNatClampNeg ≤ z.toNatClampNeg) (h5 : dp.toNatClampNeg + nn.toNatClampNeg ≤ z'.toNatClampNeg)
    (hus : us = (List.range nn.toNatClampNeg).map fun i => vs.getD (sp.toNatClampNeg + i) dv) (hl : dp.toNatClampNeg + nn.toNatClampNeg ≤ vd.length) {n0 : Nat} (N : Fr n0 locs) (ge : n0 ≤ b) {pc : Nat} {Ls : Array Slot} {rest : List Value} (hsz : Ls.size = c.maxLocals) (hd : decode c.code pc = .ok (.invokestatic index, 3)) (hf : 1 ≤ R.frames) {W : Nat} (hW : (rest.map fun v => v.category).sum ≤ W) (hlo : W + (nativeFrameWords "java/lang/System" "arraycopy" 5 + 11) ≤ R.locals)
    (kk : ∀ (T' : State) (h' : Heap) (L : List Loc), Stand p l e R s m args below meth c T' L cells slots → T'.heap = h' → Fr n0 L → Keep h h' [b] → Arv Z h' b k' ty z' (vd.take dp.toNatClampNeg ++ us ++ vd.drop (dp.toNatClampNeg + nn.toNatClampNeg)) dd → OGoes p.tables e below Φ (T'.setTop (mkF m (pc + 3) Ls rest))) : OGoes p.tables e below Φ (T.setTop (mkF m pc Ls (.int nn :: .int dp :: .ref b :: .int sp :: .ref a :: rest))) := by
  obtain ⟨T', h', L, X', e', N', K', A', st⟩ := cpA X hx hZ hown w1 w2 w3 w4 eT A B (Or.inl ⟨rfl, hty⟩) h1 h2 h3 h4 h5 hus hl N ge (g := mkF m pc Ls (.int nn :: .int dp :: .ref b :: .int sp :: .ref a :: rest)) rfl hsz rfl hd hf (W := W) (by show 2 * 0 + _ ≤ _; omega) hlo
  exact own_st st (kk T' h' L X' e' N' K' A')
end OwnKit
end Jvm.Pilot.@@N@@
namespace Jvm.Pilot.@@N@@
open Jvm Jvm.ClassFile Sem Op Lib Jvm.Free Jvm.Stand Jvm.LawKit Jvm.RoadKit Bundle Jvm.Pilot.@@N@@.Jvm.D
theorem pf_0 : plainFor x = true := by first | (refine plainFor_of_name ?_; simp [x, plainName, overriddenIn]; done) | decide +kernel
theorem pf_1 : plainFor (⟨"com/example/killifish/killifish/store/Epochs", "<init>", "()V"⟩ : MethodName) = true := by first | (refine plainFor_of_name ?_; simp [plainName, overriddenIn]; done) | decide +kernel
theorem pf_3 : plainFor (⟨"com/example/killifish/killifish/store/Epochs", "add", "(J)I"⟩ : MethodName) = true := by first | (refine plainFor_of_name ?_; simp [plainName, overriddenIn]; done) | decide +kernel
theorem pf_4 : plainFor (⟨"java/util/Arrays", "binarySearch", "([JIIJ)I"⟩ : MethodName) = true := by first | (refine plainFor_of_name ?_; simp [plainName, overriddenIn]; done) | decide +kernel
theorem pf_5 : plainFor (⟨"java/util/Arrays", "rangeCheck", "(III)V"⟩ : MethodName) = true := by first | (refine plainFor_of_name ?_; simp [plainName, overriddenIn]; done) | decide +kernel
theorem pf_6 : plainFor (⟨"java/util/Arrays", "binarySearch0", "([JIIJ)I"⟩ : MethodName) = true := by first | (refine plainFor_of_name ?_; simp [plainName, overriddenIn]; done) | decide +kernel
theorem pf_7 : plainFor (⟨"java/lang/Math", "max", "(II)I"⟩ : MethodName) = true := by first | (refine plainFor_of_name ?_; simp [plainName, overriddenIn]; done) | decide +kernel
theorem pf_8 : plainFor (⟨"com/example/killifish/killifish/store/Epochs", "resize", "(I)V"⟩ : MethodName) = true := by first | (refine plainFor_of_name ?_; simp [plainName, overriddenIn]; done) | decide +kernel
theorem pf_9 : plainFor (⟨"java/util/Arrays", "copyOf", "([JI)[J"⟩ : MethodName) = true := by first | (refine plainFor_of_name ?_; simp [plainName, overriddenIn]; done) | decide +kernel
theorem pf_10 : plainFor (⟨"java/lang/Math", "min", "(II)I"⟩ : MethodName) = true := by first | (refine plainFor_of_name ?_; simp [plainName, overriddenIn]; done) | decide +kernel
theorem pf_11 : plainFor (⟨"java/util/Arrays", "copyOf", "([II)[I"⟩ : MethodName) = true := by first | (refine plainFor_of_name ?_; simp [plainName, overriddenIn]; done) | decide +kernel
theorem pf_12 : plainFor (⟨"java/util/Arrays", "copyOf", "([BI)[B"⟩ : MethodName) = true := by first | (refine plainFor_of_name ?_; simp [plainName, overriddenIn]; done) | decide +kernel
theorem pf_13 : plainFor (⟨"com/example/killifish/killifish/store/Epochs", "shift", "(III)V"⟩ : MethodName) = true := by first | (refine plainFor_of_name ?_; simp [plainName, overriddenIn]; done) | decide +kernel
theorem pf_14 : plainFor (⟨"com/example/killifish/killifish/store/Epochs", "indexOf", "(J)I"⟩ : MethodName) = true := by first | (refine plainFor_of_name ?_; simp [plainName, overriddenIn]; done) | decide +kernel
theorem pd_0 : parseMethodDescriptor "(II)I" = some ⟨[.int, .int], some .int⟩ := by decide +kernel
theorem pd_1 : parseMethodDescriptor "(III)V" = some ⟨[.int, .int, .int], none⟩ := by decide +kernel
theorem pd_2 : parseMethodDescriptor "([JIIJ)I" = some ⟨[(.array .long), .int, .int, .long], some .int⟩ := by decide +kernel
theorem pd_3 : parseMethodDescriptor "([JI)[J" = some ⟨[(.array .long), .int], some (.array .long)⟩ := by decide +kernel
theorem pd_4 : parseMethodDescriptor "([II)[I" = some ⟨[(.array .int), .int], some (.array .int)⟩ := by decide +kernel
theorem pd_5 : parseMethodDescriptor "([BI)[B" = some ⟨[(.array .byte), .int], some (.array .byte)⟩ := by decide +kernel
theorem pd_6 : parseMethodDescriptor "(I)V" = some ⟨[.int], none⟩ := by decide +kernel
theorem pd_7 : parseMethodDescriptor "()V" = some ⟨[], none⟩ := by decide +kernel
theorem pd_8 : parseMethodDescriptor "(J)I" = some ⟨[.long], some .int⟩ := by decide +kernel
theorem d1_0 : decode prog_13_method_1_code 0 = .ok (.aload_n 0, 1) := by decide +kernel
theorem d1_1 : decode prog_13_method_1_code 1 = .ok (.invokespecial 1, 3) := by decide +kernel
theorem d1_4 : decode prog_13_method_1_code 4 = .ok (.aload_n 0, 1) := by decide +kernel
theorem d1_5 : decode prog_13_method_1_code 5 = .ok (.iconst 0, 1) := by decide +kernel
theorem d1_6 : decode prog_13_method_1_code 6 = .ok (.newarray .long, 2) := by decide +kernel
theorem d1_8 : decode prog_13_method_1_code 8 = .ok (.putfield 7, 3) := by decide +kernel
theorem d1_11 : decode prog_13_method_1_code 11 = .ok (.aload_n 0, 1) := by decide +kernel
theorem d1_12 : decode prog_13_method_1_code 12 = .ok (.iconst 0, 1) := by decide +kernel
theorem d1_13 : decode prog_13_method_1_code 13 = .ok (.newarray .int, 2) := by decide +kernel
theorem d1_15 : decode prog_13_method_1_code 15 = .ok (.putfield 13, 3) := by decide +kernel
theorem d1_18 : decode prog_13_method_1_code 18 = .ok (.aload_n 0, 1) := by decide +kernel
theorem d1_19 : decode prog_13_method_1_code 19 = .ok (.iconst 0, 1) := by decide +kernel
theorem d1_20 : decode prog_13_method_1_code 20 = .ok (.newarray .long, 2) := by decide +kernel
theorem d1_22 : decode prog_13_method_1_code 22 = .ok (.putfield 17, 3) := by decide +kernel
theorem d1_25 : decode prog_13_method_1_code 25 = .ok (.aload_n 0, 1) := by decide +kernel
theorem d1_26 : decode prog_13_method_1_code 26 = .ok (.iconst 0, 1) := by decide +kernel
theorem d1_27 : decode prog_13_method_1_code 27 = .ok (.newarray .int, 2) := by decide +kernel
theorem d1_29 : decode prog_13_method_1_code 29 = .ok (.putfield 20, 3) := by decide +kernel
theorem d1_32 : decode prog_13_method_1_code 32 = .ok (.aload_n 0, 1) := by decide +kernel
theorem d1_33 : decode prog_13_method_1_code 33 = .ok (.iconst 0, 1) := by decide +kernel
theorem d1_34 : decode prog_13_method_1_code 34 = .ok (.newarray .long, 2) := by decide +kernel
theorem d1_36 : decode prog_13_method_1_code 36 = .ok (.putfield 23, 3) := by decide +kernel
theorem d1_39 : decode prog_13_method_1_code 39 = .ok (.aload_n 0, 1) := by decide +kernel
theorem d1_40 : decode prog_13_method_1_code 40 = .ok (.iconst 0, 1) := by decide +kernel
theorem d1_41 : decode prog_13_method_1_code 41 = .ok (.newarray .byte, 2) := by decide +kernel
theorem d1_43 : decode prog_13_method_1_code 43 = .ok (.putfield 26, 3) := by decide +kernel
theorem d1_46 : decode prog_13_method_1_code 46 = .ok (.return_, 1) := by decide +kernel
theorem d3_0 : decode prog_13_method_7_code 0 = .ok (.aload_n 0, 1) := by decide +kernel
theorem d3_1 : decode prog_13_method_7_code 1 = .ok (.getfield 7, 3) := by decide +kernel
theorem d3_4 : decode prog_13_method_7_code 4 = .ok (.iconst 0, 1) := by decide +kernel
theorem d3_5 : decode prog_13_method_7_code 5 = .ok (.aload_n 0, 1) := by decide +kernel
theorem d3_6 : decode prog_13_method_7_code 6 = .ok (.getfield 63, 3) := by decide +kernel
theorem d3_9 : decode prog_13_method_7_code 9 = .ok (.lload_n 1, 1) := by decide +kernel
theorem d3_10 : decode prog_13_method_7_code 10 = .ok (.invokestatic 92, 3) := by decide +kernel
theorem d3_13 : decode prog_13_method_7_code 13 = .ok (.istore_n 3, 1) := by decide +kernel
theorem d3_14 : decode prog_13_method_7_code 14 = .ok (.iload_n 3, 1) := by decide +kernel
theorem d3_15 : decode prog_13_method_7_code 15 = .ok (.ifCond .lt 17, 3) := by decide +kernel
theorem d3_32 : decode prog_13_method_7_code 32 = .ok (.iload_n 3, 1) := by decide +kernel
theorem d3_33 : decode prog_13_method_7_code 33 = .ok (.ineg, 1) := by decide +kernel
theorem d3_34 : decode prog_13_method_7_code 34 = .ok (.iconst 1, 1) := by decide +kernel
theorem d3_35 : decode prog_13_method_7_code 35 = .ok (.isub, 1) := by decide +kernel
theorem d3_36 : decode prog_13_method_7_code 36 = .ok (.istore_n 3, 1) := by decide +kernel
theorem d3_37 : decode prog_13_method_7_code 37 = .ok (.aload_n 0, 1) := by decide +kernel
theorem d3_38 : decode prog_13_method_7_code 38 = .ok (.getfield 63, 3) := by decide +kernel
theorem d3_41 : decode prog_13_method_7_code 41 = .ok (.aload_n 0, 1) := by decide +kernel
theorem d3_42 : decode prog_13_method_7_code 42 = .ok (.getfield 7, 3) := by decide +kernel
theorem d3_45 : decode prog_13_method_7_code 45 = .ok (.arraylength, 1) := by decide +kernel
theorem d3_46 : decode prog_13_method_7_code 46 = .ok (.if_icmp .ne 22, 3) := by decide +kernel
theorem d3_49 : decode prog_13_method_7_code 49 = .ok (.aload_n 0, 1) := by decide +kernel
theorem d3_50 : decode prog_13_method_7_code 50 = .ok (.aload_n 0, 1) := by decide +kernel
theorem d3_51 : decode prog_13_method_7_code 51 = .ok (.getfield 63, 3) := by decide +kernel
theorem d3_54 : decode prog_13_method_7_code 54 = .ok (.iconst 4, 1) := by decide +kernel
theorem d3_55 : decode prog_13_method_7_code 55 = .ok (.aload_n 0, 1) := by decide +kernel
theorem d3_56 : decode prog_13_method_7_code 56 = .ok (.getfield 63, 3) := by decide +kernel
theorem d3_59 : decode prog_13_method_7_code 59 = .ok (.iconst 4, 1) := by decide +kernel
theorem d3_60 : decode prog_13_method_7_code 60 = .ok (.idiv, 1) := by decide +kernel
theorem d3_61 : decode prog_13_method_7_code 61 = .ok (.invokestatic 104, 3) := by decide +kernel
theorem d3_64 : decode prog_13_method_7_code 64 = .ok (.iadd, 1) := by decide +kernel
theorem d3_65 : decode prog_13_method_7_code 65 = .ok (.invokevirtual 51, 3) := by decide +kernel
theorem d3_68 : decode prog_13_method_7_code 68 = .ok (.aload_n 0, 1) := by decide +kernel
theorem d3_69 : decode prog_13_method_7_code 69 = .ok (.iload_n 3, 1) := by decide +kernel
theorem d3_70 : decode prog_13_method_7_code 70 = .ok (.iload_n 3, 1) := by decide +kernel
theorem d3_71 : decode prog_13_method_7_code 71 = .ok (.iconst 1, 1) := by decide +kernel
theorem d3_72 : decode prog_13_method_7_code 72 = .ok (.iadd, 1) := by decide +kernel
theorem d3_73 : decode prog_13_method_7_code 73 = .ok (.aload_n 0, 1) := by decide +kernel
theorem d3_74 : decode prog_13_method_7_code 74 = .ok (.getfield 63, 3) := by decide +kernel
theorem d3_77 : decode prog_13_method_7_code 77 = .ok (.iload_n 3, 1) := by decide +kernel
theorem d3_78 : decode prog_13_method_7_code 78 = .ok (.isub, 1) := by decide +kernel
theorem d3_79 : decode prog_13_method_7_code 79 = .ok (.invokevirtual 110, 3) := by decide +kernel
theorem d3_82 : decode prog_13_method_7_code 82 = .ok (.aload_n 0, 1) := by decide +kernel
theorem d3_83 : decode prog_13_method_7_code 83 = .ok (.getfield 7, 3) := by decide +kernel
theorem d3_86 : decode prog_13_method_7_code 86 = .ok (.iload_n 3, 1) := by decide +kernel
theorem d3_87 : decode prog_13_method_7_code 87 = .ok (.lload_n 1, 1) := by decide +kernel
theorem d3_88 : decode prog_13_method_7_code 88 = .ok (.lastore, 1) := by decide +kernel
theorem d3_89 : decode prog_13_method_7_code 89 = .ok (.aload_n 0, 1) := by decide +kernel
theorem d3_90 : decode prog_13_method_7_code 90 = .ok (.getfield 13, 3) := by decide +kernel
theorem d3_93 : decode prog_13_method_7_code 93 = .ok (.iload_n 3, 1) := by decide +kernel
theorem d3_94 : decode prog_13_method_7_code 94 = .ok (.iconst 0, 1) := by decide +kernel
theorem d3_95 : decode prog_13_method_7_code 95 = .ok (.iastore, 1) := by decide +kernel
theorem d3_96 : decode prog_13_method_7_code 96 = .ok (.aload_n 0, 1) := by decide +kernel
theorem d3_97 : decode prog_13_method_7_code 97 = .ok (.getfield 17, 3) := by decide +kernel
theorem d3_100 : decode prog_13_method_7_code 100 = .ok (.iload_n 3, 1) := by decide +kernel
theorem d3_101 : decode prog_13_method_7_code 101 = .ok (.lconst 0, 1) := by decide +kernel
theorem d3_102 : decode prog_13_method_7_code 102 = .ok (.lastore, 1) := by decide +kernel
theorem d3_103 : decode prog_13_method_7_code 103 = .ok (.aload_n 0, 1) := by decide +kernel
theorem d3_104 : decode prog_13_method_7_code 104 = .ok (.getfield 20, 3) := by decide +kernel
theorem d3_107 : decode prog_13_method_7_code 107 = .ok (.iload_n 3, 1) := by decide +kernel
theorem d3_108 : decode prog_13_method_7_code 108 = .ok (.iconst 0, 1) := by decide +kernel
theorem d3_109 : decode prog_13_method_7_code 109 = .ok (.iastore, 1) := by decide +kernel
theorem d3_110 : decode prog_13_method_7_code 110 = .ok (.aload_n 0, 1) := by decide +kernel
theorem d3_111 : decode prog_13_method_7_code 111 = .ok (.getfield 23, 3) := by decide +kernel
theorem d3_114 : decode prog_13_method_7_code 114 = .ok (.iload_n 3, 1) := by decide +kernel
theorem d3_115 : decode prog_13_method_7_code 115 = .ok (.lconst 0, 1) := by decide +kernel
theorem d3_116 : decode prog_13_method_7_code 116 = .ok (.lastore, 1) := by decide +kernel
theorem d3_117 : decode prog_13_method_7_code 117 = .ok (.aload_n 0, 1) := by decide +kernel
theorem d3_118 : decode prog_13_method_7_code 118 = .ok (.getfield 26, 3) := by decide +kernel
theorem d3_121 : decode prog_13_method_7_code 121 = .ok (.iload_n 3, 1) := by decide +kernel
theorem d3_122 : decode prog_13_method_7_code 122 = .ok (.iconst 0, 1) := by decide +kernel
theorem d3_123 : decode prog_13_method_7_code 123 = .ok (.bastore, 1) := by decide +kernel
theorem d3_124 : decode prog_13_method_7_code 124 = .ok (.aload_n 0, 1) := by decide +kernel
theorem d3_125 : decode prog_13_method_7_code 125 = .ok (.dup, 1) := by decide +kernel
theorem d3_126 : decode prog_13_method_7_code 126 = .ok (.getfield 63, 3) := by decide +kernel
theorem d3_129 : decode prog_13_method_7_code 129 = .ok (.iconst 1, 1) := by decide +kernel
theorem d3_130 : decode prog_13_method_7_code 130 = .ok (.iadd, 1) := by decide +kernel
theorem d3_131 : decode prog_13_method_7_code 131 = .ok (.putfield 63, 3) := by decide +kernel
theorem d3_134 : decode prog_13_method_7_code 134 = .ok (.iload_n 3, 1) := by decide +kernel
theorem d3_135 : decode prog_13_method_7_code 135 = .ok (.ireturn, 1) := by decide +kernel
theorem d4_0 : decode jdk_65_method_55_code 0 = .ok (.aload_n 0, 1) := by decide +kernel
theorem d4_1 : decode jdk_65_method_55_code 1 = .ok (.arraylength, 1) := by decide +kernel
theorem d4_2 : decode jdk_65_method_55_code 2 = .ok (.iload_n 1, 1) := by decide +kernel
theorem d4_3 : decode jdk_65_method_55_code 3 = .ok (.iload_n 2, 1) := by decide +kernel
theorem d4_4 : decode jdk_65_method_55_code 4 = .ok (.invokestatic 13, 3) := by decide +kernel
theorem d4_7 : decode jdk_65_method_55_code 7 = .ok (.aload_n 0, 1) := by decide +kernel
theorem d4_8 : decode jdk_65_method_55_code 8 = .ok (.iload_n 1, 1) := by decide +kernel
theorem d4_9 : decode jdk_65_method_55_code 9 = .ok (.iload_n 2, 1) := by decide +kernel
theorem d4_10 : decode jdk_65_method_55_code 10 = .ok (.lload_n 3, 1) := by decide +kernel
theorem d4_11 : decode jdk_65_method_55_code 11 = .ok (.invokestatic 205, 3) := by decide +kernel
theorem d4_14 : decode jdk_65_method_55_code 14 = .ok (.ireturn, 1) := by decide +kernel
theorem d5_0 : decode jdk_65_method_30_code 0 = .ok (.iload_n 1, 1) := by decide +kernel
theorem d5_1 : decode jdk_65_method_30_code 1 = .ok (.iload_n 2, 1) := by decide +kernel
theorem d5_2 : decode jdk_65_method_30_code 2 = .ok (.if_icmp .le 44, 3) := by decide +kernel
theorem d5_46 : decode jdk_65_method_30_code 46 = .ok (.iload_n 1, 1) := by decide +kernel
theorem d5_47 : decode jdk_65_method_30_code 47 = .ok (.ifCond .ge 12, 3) := by decide +kernel
theorem d5_59 : decode jdk_65_method_30_code 59 = .ok (.iload_n 2, 1) := by decide +kernel
theorem d5_60 : decode jdk_65_method_30_code 60 = .ok (.iload_n 0, 1) := by decide +kernel
theorem d5_61 : decode jdk_65_method_30_code 61 = .ok (.if_icmp .le 12, 3) := by decide +kernel
theorem d5_73 : decode jdk_65_method_30_code 73 = .ok (.return_, 1) := by decide +kernel
theorem d6_0 : decode jdk_65_method_56_code 0 = .ok (.iload_n 1, 1) := by decide +kernel
theorem d6_1 : decode jdk_65_method_56_code 1 = .ok (.istore 5, 2) := by decide +kernel
theorem d6_3 : decode jdk_65_method_56_code 3 = .ok (.iload_n 2, 1) := by decide +kernel
theorem d6_4 : decode jdk_65_method_56_code 4 = .ok (.iconst 1, 1) := by decide +kernel
theorem d6_5 : decode jdk_65_method_56_code 5 = .ok (.isub, 1) := by decide +kernel
theorem d6_6 : decode jdk_65_method_56_code 6 = .ok (.istore 6, 2) := by decide +kernel
theorem d6_8 : decode jdk_65_method_56_code 8 = .ok (.iload 5, 2) := by decide +kernel
theorem d6_10 : decode jdk_65_method_56_code 10 = .ok (.iload 6, 2) := by decide +kernel
theorem d6_12 : decode jdk_65_method_56_code 12 = .ok (.if_icmp .gt 56, 3) := by decide +kernel
theorem d6_15 : decode jdk_65_method_56_code 15 = .ok (.iload 5, 2) := by decide +kernel
theorem d6_17 : decode jdk_65_method_56_code 17 = .ok (.iload 6, 2) := by decide +kernel
theorem d6_19 : decode jdk_65_method_56_code 19 = .ok (.iadd, 1) := by decide +kernel
theorem d6_20 : decode jdk_65_method_56_code 20 = .ok (.iconst 1, 1) := by decide +kernel
theorem d6_21 : decode jdk_65_method_56_code 21 = .ok (.iushr, 1) := by decide +kernel
theorem d6_22 : decode jdk_65_method_56_code 22 = .ok (.istore 7, 2) := by decide +kernel
theorem d6_24 : decode jdk_65_method_56_code 24 = .ok (.aload_n 0, 1) := by decide +kernel
theorem d6_25 : decode jdk_65_method_56_code 25 = .ok (.iload 7, 2) := by decide +kernel
theorem d6_27 : decode jdk_65_method_56_code 27 = .ok (.laload, 1) := by decide +kernel
theorem d6_28 : decode jdk_65_method_56_code 28 = .ok (.lstore 8, 2) := by decide +kernel
theorem d6_30 : decode jdk_65_method_56_code 30 = .ok (.lload 8, 2) := by decide +kernel
theorem d6_32 : decode jdk_65_method_56_code 32 = .ok (.lload_n 3, 1) := by decide +kernel
theorem d6_33 : decode jdk_65_method_56_code 33 = .ok (.lcmp, 1) := by decide +kernel
theorem d6_34 : decode jdk_65_method_56_code 34 = .ok (.ifCond .ge 12, 3) := by decide +kernel
theorem d6_37 : decode jdk_65_method_56_code 37 = .ok (.iload 7, 2) := by decide +kernel
theorem d6_39 : decode jdk_65_method_56_code 39 = .ok (.iconst 1, 1) := by decide +kernel
theorem d6_40 : decode jdk_65_method_56_code 40 = .ok (.iadd, 1) := by decide +kernel
theorem d6_41 : decode jdk_65_method_56_code 41 = .ok (.istore 5, 2) := by decide +kernel
theorem d6_43 : decode jdk_65_method_56_code 43 = .ok (.goto 22, 3) := by decide +kernel
theorem d6_46 : decode jdk_65_method_56_code 46 = .ok (.lload 8, 2) := by decide +kernel
theorem d6_48 : decode jdk_65_method_56_code 48 = .ok (.lload_n 3, 1) := by decide +kernel
theorem d6_49 : decode jdk_65_method_56_code 49 = .ok (.lcmp, 1) := by decide +kernel
theorem d6_50 : decode jdk_65_method_56_code 50 = .ok (.ifCond .le 12, 3) := by decide +kernel
theorem d6_53 : decode jdk_65_method_56_code 53 = .ok (.iload 7, 2) := by decide +kernel
theorem d6_55 : decode jdk_65_method_56_code 55 = .ok (.iconst 1, 1) := by decide +kernel
theorem d6_56 : decode jdk_65_method_56_code 56 = .ok (.isub, 1) := by decide +kernel
theorem d6_57 : decode jdk_65_method_56_code 57 = .ok (.istore 6, 2) := by decide +kernel
theorem d6_59 : decode jdk_65_method_56_code 59 = .ok (.goto 6, 3) := by decide +kernel
theorem d6_62 : decode jdk_65_method_56_code 62 = .ok (.iload 7, 2) := by decide +kernel
theorem d6_64 : decode jdk_65_method_56_code 64 = .ok (.ireturn, 1) := by decide +kernel
theorem d6_65 : decode jdk_65_method_56_code 65 = .ok (.goto (-57), 3) := by decide +kernel
theorem d6_68 : decode jdk_65_method_56_code 68 = .ok (.iload 5, 2) := by decide +kernel
theorem d6_70 : decode jdk_65_method_56_code 70 = .ok (.iconst 1, 1) := by decide +kernel
theorem d6_71 : decode jdk_65_method_56_code 71 = .ok (.iadd, 1) := by decide +kernel
theorem d6_72 : decode jdk_65_method_56_code 72 = .ok (.ineg, 1) := by decide +kernel
theorem d6_73 : decode jdk_65_method_56_code 73 = .ok (.ireturn, 1) := by decide +kernel
theorem d7_0 : decode jdk_29_method_65_code 0 = .ok (.iload_n 0, 1) := by decide +kernel
theorem d7_1 : decode jdk_29_method_65_code 1 = .ok (.iload_n 1, 1) := by decide +kernel
theorem d7_2 : decode jdk_29_method_65_code 2 = .ok (.if_icmp .lt 7, 3) := by decide +kernel
theorem d7_5 : decode jdk_29_method_65_code 5 = .ok (.iload_n 0, 1) := by decide +kernel
theorem d7_6 : decode jdk_29_method_65_code 6 = .ok (.goto 4, 3) := by decide +kernel
theorem d7_9 : decode jdk_29_method_65_code 9 = .ok (.iload_n 1, 1) := by decide +kernel
theorem d7_10 : decode jdk_29_method_65_code 10 = .ok (.ireturn, 1) := by decide +kernel
theorem d8_0 : decode prog_13_method_26_code 0 = .ok (.aload_n 0, 1) := by decide +kernel
theorem d8_1 : decode prog_13_method_26_code 1 = .ok (.aload_n 0, 1) := by decide +kernel
theorem d8_2 : decode prog_13_method_26_code 2 = .ok (.getfield 7, 3) := by decide +kernel
theorem d8_5 : decode prog_13_method_26_code 5 = .ok (.iload_n 1, 1) := by decide +kernel
theorem d8_6 : decode prog_13_method_26_code 6 = .ok (.invokestatic 146, 3) := by decide +kernel
theorem d8_9 : decode prog_13_method_26_code 9 = .ok (.putfield 7, 3) := by decide +kernel
theorem d8_12 : decode prog_13_method_26_code 12 = .ok (.aload_n 0, 1) := by decide +kernel
theorem d8_13 : decode prog_13_method_26_code 13 = .ok (.aload_n 0, 1) := by decide +kernel
theorem d8_14 : decode prog_13_method_26_code 14 = .ok (.getfield 13, 3) := by decide +kernel
theorem d8_17 : decode prog_13_method_26_code 17 = .ok (.iload_n 1, 1) := by decide +kernel
theorem d8_18 : decode prog_13_method_26_code 18 = .ok (.invokestatic 149, 3) := by decide +kernel
theorem d8_21 : decode prog_13_method_26_code 21 = .ok (.putfield 13, 3) := by decide +kernel
theorem d8_24 : decode prog_13_method_26_code 24 = .ok (.aload_n 0, 1) := by decide +kernel
theorem d8_25 : decode prog_13_method_26_code 25 = .ok (.aload_n 0, 1) := by decide +kernel
theorem d8_26 : decode prog_13_method_26_code 26 = .ok (.getfield 17, 3) := by decide +kernel
theorem d8_29 : decode prog_13_method_26_code 29 = .ok (.iload_n 1, 1) := by decide +kernel
theorem d8_30 : decode prog_13_method_26_code 30 = .ok (.invokestatic 146, 3) := by decide +kernel
theorem d8_33 : decode prog_13_method_26_code 33 = .ok (.putfield 17, 3) := by decide +kernel
theorem d8_36 : decode prog_13_method_26_code 36 = .ok (.aload_n 0, 1) := by decide +kernel
theorem d8_37 : decode prog_13_method_26_code 37 = .ok (.aload_n 0, 1) := by decide +kernel
theorem d8_38 : decode prog_13_method_26_code 38 = .ok (.getfield 20, 3) := by decide +kernel
theorem d8_41 : decode prog_13_method_26_code 41 = .ok (.iload_n 1, 1) := by decide +kernel
theorem d8_42 : decode prog_13_method_26_code 42 = .ok (.invokestatic 149, 3) := by decide +kernel
theorem d8_45 : decode prog_13_method_26_code 45 = .ok (.putfield 20, 3) := by decide +kernel
theorem d8_48 : decode prog_13_method_26_code 48 = .ok (.aload_n 0, 1) := by decide +kernel
theorem d8_49 : decode prog_13_method_26_code 49 = .ok (.aload_n 0, 1) := by decide +kernel
theorem d8_50 : decode prog_13_method_26_code 50 = .ok (.getfield 23, 3) := by decide +kernel
theorem d8_53 : decode prog_13_method_26_code 53 = .ok (.iload_n 1, 1) := by decide +kernel
theorem d8_54 : decode prog_13_method_26_code 54 = .ok (.invokestatic 146, 3) := by decide +kernel
theorem d8_57 : decode prog_13_method_26_code 57 = .ok (.putfield 23, 3) := by decide +kernel
theorem d8_60 : decode prog_13_method_26_code 60 = .ok (.aload_n 0, 1) := by decide +kernel
theorem d8_61 : decode prog_13_method_26_code 61 = .ok (.aload_n 0, 1) := by decide +kernel
theorem d8_62 : decode prog_13_method_26_code 62 = .ok (.getfield 26, 3) := by decide +kernel
theorem d8_65 : decode prog_13_method_26_code 65 = .ok (.iload_n 1, 1) := by decide +kernel
theorem d8_66 : decode prog_13_method_26_code 66 = .ok (.invokestatic 152, 3) := by decide +kernel
theorem d8_69 : decode prog_13_method_26_code 69 = .ok (.putfield 26, 3) := by decide +kernel
theorem d8_72 : decode prog_13_method_26_code 72 = .ok (.return_, 1) := by decide +kernel
theorem d9_0 : decode jdk_65_method_124_code 0 = .ok (.iload_n 1, 1) := by decide +kernel
theorem d9_1 : decode jdk_65_method_124_code 1 = .ok (.aload_n 0, 1) := by decide +kernel
theorem d9_2 : decode jdk_65_method_124_code 2 = .ok (.arraylength, 1) := by decide +kernel
theorem d9_3 : decode jdk_65_method_124_code 3 = .ok (.if_icmp .ne 11, 3) := by decide +kernel
theorem d9_14 : decode jdk_65_method_124_code 14 = .ok (.iload_n 1, 1) := by decide +kernel
theorem d9_15 : decode jdk_65_method_124_code 15 = .ok (.newarray .long, 2) := by decide +kernel
theorem d9_17 : decode jdk_65_method_124_code 17 = .ok (.astore_n 2, 1) := by decide +kernel
theorem d9_18 : decode jdk_65_method_124_code 18 = .ok (.aload_n 0, 1) := by decide +kernel
theorem d9_19 : decode jdk_65_method_124_code 19 = .ok (.iconst 0, 1) := by decide +kernel
theorem d9_20 : decode jdk_65_method_124_code 20 = .ok (.aload_n 2, 1) := by decide +kernel
theorem d9_21 : decode jdk_65_method_124_code 21 = .ok (.iconst 0, 1) := by decide +kernel
theorem d9_22 : decode jdk_65_method_124_code 22 = .ok (.aload_n 0, 1) := by decide +kernel
theorem d9_23 : decode jdk_65_method_124_code 23 = .ok (.arraylength, 1) := by decide +kernel
theorem d9_24 : decode jdk_65_method_124_code 24 = .ok (.iload_n 1, 1) := by decide +kernel
theorem d9_25 : decode jdk_65_method_124_code 25 = .ok (.invokestatic 304, 3) := by decide +kernel
theorem d9_28 : decode jdk_65_method_124_code 28 = .ok (.invokestatic 150, 3) := by decide +kernel
theorem d9_31 : decode jdk_65_method_124_code 31 = .ok (.aload_n 2, 1) := by decide +kernel
theorem d9_32 : decode jdk_65_method_124_code 32 = .ok (.areturn, 1) := by decide +kernel
theorem d10_0 : decode jdk_29_method_69_code 0 = .ok (.iload_n 0, 1) := by decide +kernel
theorem d10_1 : decode jdk_29_method_69_code 1 = .ok (.iload_n 1, 1) := by decide +kernel
theorem d10_2 : decode jdk_29_method_69_code 2 = .ok (.if_icmp .gt 7, 3) := by decide +kernel
theorem d10_5 : decode jdk_29_method_69_code 5 = .ok (.iload_n 0, 1) := by decide +kernel
theorem d10_6 : decode jdk_29_method_69_code 6 = .ok (.goto 4, 3) := by decide +kernel
theorem d10_9 : decode jdk_29_method_69_code 9 = .ok (.iload_n 1, 1) := by decide +kernel
theorem d10_10 : decode jdk_29_method_69_code 10 = .ok (.ireturn, 1) := by decide +kernel
theorem d11_0 : decode jdk_65_method_123_code 0 = .ok (.iload_n 1, 1) := by decide +kernel
theorem d11_1 : decode jdk_65_method_123_code 1 = .ok (.aload_n 0, 1) := by decide +kernel
theorem d11_2 : decode jdk_65_method_123_code 2 = .ok (.arraylength, 1) := by decide +kernel
theorem d11_3 : decode jdk_65_method_123_code 3 = .ok (.if_icmp .ne 11, 3) := by decide +kernel
theorem d11_14 : decode jdk_65_method_123_code 14 = .ok (.iload_n 1, 1) := by decide +kernel
theorem d11_15 : decode jdk_65_method_123_code 15 = .ok (.newarray .int, 2) := by decide +kernel
theorem d11_17 : decode jdk_65_method_123_code 17 = .ok (.astore_n 2, 1) := by decide +kernel
theorem d11_18 : decode jdk_65_method_123_code 18 = .ok (.aload_n 0, 1) := by decide +kernel
theorem d11_19 : decode jdk_65_method_123_code 19 = .ok (.iconst 0, 1) := by decide +kernel
theorem d11_20 : decode jdk_65_method_123_code 20 = .ok (.aload_n 2, 1) := by decide +kernel
theorem d11_21 : decode jdk_65_method_123_code 21 = .ok (.iconst 0, 1) := by decide +kernel
theorem d11_22 : decode jdk_65_method_123_code 22 = .ok (.aload_n 0, 1) := by decide +kernel
theorem d11_23 : decode jdk_65_method_123_code 23 = .ok (.arraylength, 1) := by decide +kernel
theorem d11_24 : decode jdk_65_method_123_code 24 = .ok (.iload_n 1, 1) := by decide +kernel
theorem d11_25 : decode jdk_65_method_123_code 25 = .ok (.invokestatic 304, 3) := by decide +kernel
theorem d11_28 : decode jdk_65_method_123_code 28 = .ok (.invokestatic 150, 3) := by decide +kernel
theorem d11_31 : decode jdk_65_method_123_code 31 = .ok (.aload_n 2, 1) := by decide +kernel
theorem d11_32 : decode jdk_65_method_123_code 32 = .ok (.areturn, 1) := by decide +kernel
theorem d12_0 : decode jdk_65_method_121_code 0 = .ok (.iload_n 1, 1) := by decide +kernel
theorem d12_1 : decode jdk_65_method_121_code 1 = .ok (.aload_n 0, 1) := by decide +kernel
theorem d12_2 : decode jdk_65_method_121_code 2 = .ok (.arraylength, 1) := by decide +kernel
theorem d12_3 : decode jdk_65_method_121_code 3 = .ok (.if_icmp .ne 11, 3) := by decide +kernel
theorem d12_14 : decode jdk_65_method_121_code 14 = .ok (.iload_n 1, 1) := by decide +kernel
theorem d12_15 : decode jdk_65_method_121_code 15 = .ok (.newarray .byte, 2) := by decide +kernel
theorem d12_17 : decode jdk_65_method_121_code 17 = .ok (.astore_n 2, 1) := by decide +kernel
theorem d12_18 : decode jdk_65_method_121_code 18 = .ok (.aload_n 0, 1) := by decide +kernel
theorem d12_19 : decode jdk_65_method_121_code 19 = .ok (.iconst 0, 1) := by decide +kernel
theorem d12_20 : decode jdk_65_method_121_code 20 = .ok (.aload_n 2, 1) := by decide +kernel
theorem d12_21 : decode jdk_65_method_121_code 21 = .ok (.iconst 0, 1) := by decide +kernel
theorem d12_22 : decode jdk_65_method_121_code 22 = .ok (.aload_n 0, 1) := by decide +kernel
theorem d12_23 : decode jdk_65_method_121_code 23 = .ok (.arraylength, 1) := by decide +kernel
theorem d12_24 : decode jdk_65_method_121_code 24 = .ok (.iload_n 1, 1) := by decide +kernel
theorem d12_25 : decode jdk_65_method_121_code 25 = .ok (.invokestatic 304, 3) := by decide +kernel
theorem d12_28 : decode jdk_65_method_121_code 28 = .ok (.invokestatic 150, 3) := by decide +kernel
theorem d12_31 : decode jdk_65_method_121_code 31 = .ok (.aload_n 2, 1) := by decide +kernel
theorem d12_32 : decode jdk_65_method_121_code 32 = .ok (.areturn, 1) := by decide +kernel
theorem d13_0 : decode prog_13_method_25_code 0 = .ok (.aload_n 0, 1) := by decide +kernel
theorem d13_1 : decode prog_13_method_25_code 1 = .ok (.getfield 7, 3) := by decide +kernel
theorem d13_4 : decode prog_13_method_25_code 4 = .ok (.iload_n 1, 1) := by decide +kernel
theorem d13_5 : decode prog_13_method_25_code 5 = .ok (.aload_n 0, 1) := by decide +kernel
theorem d13_6 : decode prog_13_method_25_code 6 = .ok (.getfield 7, 3) := by decide +kernel
theorem d13_9 : decode prog_13_method_25_code 9 = .ok (.iload_n 2, 1) := by decide +kernel
theorem d13_10 : decode prog_13_method_25_code 10 = .ok (.iload_n 3, 1) := by decide +kernel
theorem d13_11 : decode prog_13_method_25_code 11 = .ok (.invokestatic 140, 3) := by decide +kernel
theorem d13_14 : decode prog_13_method_25_code 14 = .ok (.aload_n 0, 1) := by decide +kernel
theorem d13_15 : decode prog_13_method_25_code 15 = .ok (.getfield 13, 3) := by decide +kernel
theorem d13_18 : decode prog_13_method_25_code 18 = .ok (.iload_n 1, 1) := by decide +kernel
theorem d13_19 : decode prog_13_method_25_code 19 = .ok (.aload_n 0, 1) := by decide +kernel
theorem d13_20 : decode prog_13_method_25_code 20 = .ok (.getfield 13, 3) := by decide +kernel
theorem d13_23 : decode prog_13_method_25_code 23 = .ok (.iload_n 2, 1) := by decide +kernel
theorem d13_24 : decode prog_13_method_25_code 24 = .ok (.iload_n 3, 1) := by decide +kernel
theorem d13_25 : decode prog_13_method_25_code 25 = .ok (.invokestatic 140, 3) := by decide +kernel
theorem d13_28 : decode prog_13_method_25_code 28 = .ok (.aload_n 0, 1) := by decide +kernel
theorem d13_29 : decode prog_13_method_25_code 29 = .ok (.getfield 17, 3) := by decide +kernel
theorem d13_32 : decode prog_13_method_25_code 32 = .ok (.iload_n 1, 1) := by decide +kernel
theorem d13_33 : decode prog_13_method_25_code 33 = .ok (.aload_n 0, 1) := by decide +kernel
theorem d13_34 : decode prog_13_method_25_code 34 = .ok (.getfield 17, 3) := by decide +kernel
theorem d13_37 : decode prog_13_method_25_code 37 = .ok (.iload_n 2, 1) := by decide +kernel
theorem d13_38 : decode prog_13_method_25_code 38 = .ok (.iload_n 3, 1) := by decide +kernel
theorem d13_39 : decode prog_13_method_25_code 39 = .ok (.invokestatic 140, 3) := by decide +kernel
theorem d13_42 : decode prog_13_method_25_code 42 = .ok (.aload_n 0, 1) := by decide +kernel
theorem d13_43 : decode prog_13_method_25_code 43 = .ok (.getfield 20, 3) := by decide +kernel
theorem d13_46 : decode prog_13_method_25_code 46 = .ok (.iload_n 1, 1) := by decide +kernel
theorem d13_47 : decode prog_13_method_25_code 47 = .ok (.aload_n 0, 1) := by decide +kernel
theorem d13_48 : decode prog_13_method_25_code 48 = .ok (.getfield 20, 3) := by decide +kernel
theorem d13_51 : decode prog_13_method_25_code 51 = .ok (.iload_n 2, 1) := by decide +kernel
theorem d13_52 : decode prog_13_method_25_code 52 = .ok (.iload_n 3, 1) := by decide +kernel
theorem d13_53 : decode prog_13_method_25_code 53 = .ok (.invokestatic 140, 3) := by decide +kernel
theorem d13_56 : decode prog_13_method_25_code 56 = .ok (.aload_n 0, 1) := by decide +kernel
theorem d13_57 : decode prog_13_method_25_code 57 = .ok (.getfield 23, 3) := by decide +kernel
theorem d13_60 : decode prog_13_method_25_code 60 = .ok (.iload_n 1, 1) := by decide +kernel
theorem d13_61 : decode prog_13_method_25_code 61 = .ok (.aload_n 0, 1) := by decide +kernel
theorem d13_62 : decode prog_13_method_25_code 62 = .ok (.getfield 23, 3) := by decide +kernel
theorem d13_65 : decode prog_13_method_25_code 65 = .ok (.iload_n 2, 1) := by decide +kernel
theorem d13_66 : decode prog_13_method_25_code 66 = .ok (.iload_n 3, 1) := by decide +kernel
theorem d13_67 : decode prog_13_method_25_code 67 = .ok (.invokestatic 140, 3) := by decide +kernel
theorem d13_70 : decode prog_13_method_25_code 70 = .ok (.aload_n 0, 1) := by decide +kernel
theorem d13_71 : decode prog_13_method_25_code 71 = .ok (.getfield 26, 3) := by decide +kernel
theorem d13_74 : decode prog_13_method_25_code 74 = .ok (.iload_n 1, 1) := by decide +kernel
theorem d13_75 : decode prog_13_method_25_code 75 = .ok (.aload_n 0, 1) := by decide +kernel
theorem d13_76 : decode prog_13_method_25_code 76 = .ok (.getfield 26, 3) := by decide +kernel
theorem d13_79 : decode prog_13_method_25_code 79 = .ok (.iload_n 2, 1) := by decide +kernel
theorem d13_80 : decode prog_13_method_25_code 80 = .ok (.iload_n 3, 1) := by decide +kernel
theorem d13_81 : decode prog_13_method_25_code 81 = .ok (.invokestatic 140, 3) := by decide +kernel
theorem d13_84 : decode prog_13_method_25_code 84 = .ok (.return_, 1) := by decide +kernel
theorem d14_0 : decode prog_13_method_6_code 0 = .ok (.aload_n 0, 1) := by decide +kernel
theorem d14_1 : decode prog_13_method_6_code 1 = .ok (.getfield 7, 3) := by decide +kernel
theorem d14_4 : decode prog_13_method_6_code 4 = .ok (.iconst 0, 1) := by decide +kernel
theorem d14_5 : decode prog_13_method_6_code 5 = .ok (.aload_n 0, 1) := by decide +kernel
theorem d14_6 : decode prog_13_method_6_code 6 = .ok (.getfield 63, 3) := by decide +kernel
theorem d14_9 : decode prog_13_method_6_code 9 = .ok (.lload_n 1, 1) := by decide +kernel
theorem d14_10 : decode prog_13_method_6_code 10 = .ok (.invokestatic 92, 3) := by decide +kernel
theorem d14_13 : decode prog_13_method_6_code 13 = .ok (.istore_n 3, 1) := by decide +kernel
theorem d14_14 : decode prog_13_method_6_code 14 = .ok (.iload_n 3, 1) := by decide +kernel
theorem d14_15 : decode prog_13_method_6_code 15 = .ok (.ifCond .lt 7, 3) := by decide +kernel
theorem d14_18 : decode prog_13_method_6_code 18 = .ok (.iload_n 3, 1) := by decide +kernel
theorem d14_19 : decode prog_13_method_6_code 19 = .ok (.goto 4, 3) := by decide +kernel
theorem d14_22 : decode prog_13_method_6_code 22 = .ok (.iconst (-1), 1) := by decide +kernel
theorem d14_23 : decode prog_13_method_6_code 23 = .ok (.ireturn, 1) := by decide +kernel
def own_EP (Z : State) (h : Heap) (ep : Nat) (cap : Int32) (vN vG vW vC vD vF : List Value) (sz : Int32) : Prop := ∃ (aN aG aW aC aD aF : Nat) (kN kG kW kC kD kF : ClassId), (Z.heap.size ≤ ep ∧ ep < aN ∧ aN < aG ∧ aG < aW ∧ aW < aC ∧ aC < aD ∧ aD < aF) ∧ Exa Z h ep "com/example/killifish/killifish/store/Epochs" ∧ Fld Z h ep "com/example/killifish/killifish/store/Epochs" "numbers" "[J" (.ref aN) ∧ Fld Z h ep "com/example/killifish/killifish/store/Epochs" "generations" "[I" (.ref aG) ∧ Fld Z h ep "com/example/killifish/killifish/store/Epochs" "written" "[J" (.ref aW) ∧ Fld Z h ep "com/example/killifish/killifish/store/Epochs" "counts" "[I" (.ref aC) ∧ Fld Z h ep "com/example/killifish/killifish/store/Epochs" "deadBytes" "[J" (.ref aD) ∧ Fld Z h ep "com/example/killifish/killifish/store/Epochs" "flags" "[B" (.ref aF) ∧ Fld Z h ep "com/example/killifish/killifish/store/Epochs" "size" "I" (.int sz) ∧ Arv Z h aN kN .long cap vN (.long 0) ∧ Arv Z h aG kG .int cap vG (.int 0) ∧ Arv Z h aW kW .long cap vW (.long 0) ∧ Arv Z h aC kC .int cap vC (.int 0) ∧ Arv Z h aD kD .long cap vD (.long 0) ∧ Arv Z h aF kF .byte cap vF (.int 0)
theorem own_EP_exa {Z : State} {h : Heap} {ep : Addr} {cap sz : Int32} {vN vG vW vC vD vF : List Value} (H : own_EP Z h ep cap vN vG vW vC vD vF sz) : Exa Z h ep "com/example/killifish/killifish/store/Epochs" := by obtain ⟨_, _, _, _, _, _, _, _, _, _, _, _, _, E, _⟩ := H; exact E
theorem own_EP_sz {Z : State} {h : Heap} {ep : Addr} {cap sz : Int32} {vN vG vW vC vD vF : List Value} (H : own_EP Z h ep cap vN vG vW vC vD vF sz) : Z.heap.size ≤ h.size := by obtain ⟨_, _, _, _, _, _, _, _, _, _, _, _, ⟨o, _⟩, E, _⟩ := H; exact Nat.le_trans o (Nat.le_of_lt E.lt)
theorem ef_rmMax (m : MethodId) (x0 : Int32) (x1 : Int32) : entryFrame m #[(.int x0), (.int x1)] 2 = mkF m 0 #[.val (.int x0), .val (.int x1)] [] := by first | (simp [entryFrame, mkF, argsToLocals, Value.category]; done) | rfl
set_option maxRecDepth 65536 in
set_option maxHeartbeats 40000000 in
theorem rmMax (l : Launch) (Z : State) (a0 : Array Value) (hw : ∀ d ∈ tables_1, d.before a0 Z = true) (x1 x2 r : Int32) (hr : (if x1 < x2 then x2 else x1) = r) (h0 : Heap)  :
    OPure l Z (⟨"java/lang/Math", "max", "(II)I"⟩ : MethodName) jdk_29_method_65_code 2 (some .int) 0 0 #[(.int x1), (.int x2)] h0 (some (.int r)) := by
  refine own_body pf_7 ?_
  intro p e s m below meth c T0 X0 hx hby hml hZ hown hnm hret hlk e0
  replace hown : s.vm.findClass "java/lang/Math" = some m.cls := hown
  refine own_cast (ef_rmMax m (x1) (x2)) ?_
  show OGoes p.tables e below _ (T0.setTop (mkF m 0 #[.val (.int x1), .val (.int x2)] []))
  refine own_st (V := (T0.setTop (mkF m 1 #[.val (.int x1), .val (.int x2)] [(.int x1)]))) (fun t ks => XS.iloadN X0.here hx rfl (hb hby d7_0) rfl ks) ?_
  refine own_st (V := (T0.setTop (mkF m 2 #[.val (.int x1), .val (.int x2)] [(.int x2), (.int x1)]))) (fun t ks => XS.iloadN X0.here hx rfl (hb hby d7_1) rfl ks) ?_
  by_cases g : x1 < x2
  · refine own_st (V := (T0.setTop (mkF m 9 #[.val (.int x1), .val (.int x2)] []))) (fun t ks => XS.icmpYes X0.here hx rfl (pc0 := 2) (pc' := 9) rfl (hb hby d7_2) rfl (XT.ii_lt_t g) (by decide) (by decide) ks) ?_
    refine own_st (V := (T0.setTop (mkF m 10 #[.val (.int x1), .val (.int x2)] [(.int x2)]))) (fun t ks => XS.iloadN X0.here hx rfl (hb hby d7_9) rfl ks) ?_
    exact own_retI X0 hx hlk hret (hb hby d7_10) (by decide) (by decide) ⟨by rw [← hr, if_pos g], e0, rfl⟩
  · refine own_st (V := (T0.setTop (mkF m 5 #[.val (.int x1), .val (.int x2)] []))) (fun t ks => XS.icmpNo X0.here hx rfl (hb hby d7_2) rfl (XT.ii_lt_f g) ks) ?_
    refine own_st (V := (T0.setTop (mkF m 6 #[.val (.int x1), .val (.int x2)] [(.int x1)]))) (fun t ks => XS.iloadN X0.here hx rfl (hb hby d7_5) rfl ks) ?_
    refine own_st (V := (T0.setTop (mkF m 10 #[.val (.int x1), .val (.int x2)] [(.int x1)]))) (fun t ks => XS.goto X0.here hx rfl (pc0 := 6) (pc' := 10) rfl (hb hby d7_6) (by decide) (by decide) ks) ?_
    exact own_retI X0 hx hlk hret (hb hby d7_10) (by decide) (by decide) ⟨by rw [← hr, if_neg g], e0, rfl⟩
theorem ef_rmMin (m : MethodId) (x0 : Int32) (x1 : Int32) : entryFrame m #[(.int x0), (.int x1)] 2 = mkF m 0 #[.val (.int x0), .val (.int x1)] [] := by first | (simp [entryFrame, mkF, argsToLocals, Value.category]; done) | rfl
set_option maxRecDepth 65536 in
set_option maxHeartbeats 40000000 in
theorem rmMin (l : Launch) (Z : State) (a0 : Array Value) (hw : ∀ d ∈ tables_1, d.before a0 Z = true) (x1 x2 r : Int32) (hr : (if x2 < x1 then x2 else x1) = r) (h0 : Heap)  :
    OPure l Z (⟨"java/lang/Math", "min", "(II)I"⟩ : MethodName) jdk_29_method_69_code 2 (some .int) 0 0 #[(.int x1), (.int x2)] h0 (some (.int r)) := by
  refine own_body pf_10 ?_
  intro p e s m below meth c T0 X0 hx hby hml hZ hown hnm hret hlk e0
  replace hown : s.vm.findClass "java/lang/Math" = some m.cls := hown
  refine own_cast (ef_rmMin m (x1) (x2)) ?_
  show OGoes p.tables e below _ (T0.setTop (mkF m 0 #[.val (.int x1), .val (.int x2)] []))
  refine own_st (V := (T0.setTop (mkF m 1 #[.val (.int x1), .val (.int x2)] [(.int x1)]))) (fun t ks => XS.iloadN X0.here hx rfl (hb hby d10_0) rfl ks) ?_
  refine own_st (V := (T0.setTop (mkF m 2 #[.val (.int x1), .val (.int x2)] [(.int x2), (.int x1)]))) (fun t ks => XS.iloadN X0.here hx rfl (hb hby d10_1) rfl ks) ?_
  by_cases g : x2 < x1
  · refine own_st (V := (T0.setTop (mkF m 9 #[.val (.int x1), .val (.int x2)] []))) (fun t ks => XS.icmpYes X0.here hx rfl (pc0 := 2) (pc' := 9) rfl (hb hby d10_2) rfl (XT.ii_gt_t g) (by decide) (by decide) ks) ?_
    refine own_st (V := (T0.setTop (mkF m 10 #[.val (.int x1), .val (.int x2)] [(.int x2)]))) (fun t ks => XS.iloadN X0.here hx rfl (hb hby d10_9) rfl ks) ?_
    exact own_retI X0 hx hlk hret (hb hby d10_10) (by decide) (by decide) ⟨by rw [← hr, if_pos g], e0, rfl⟩
  · refine own_st (V := (T0.setTop (mkF m 5 #[.val (.int x1), .val (.int x2)] []))) (fun t ks => XS.icmpNo X0.here hx rfl (hb hby d10_2) rfl (XT.ii_gt_f g) ks) ?_
    refine own_st (V := (T0.setTop (mkF m 6 #[.val (.int x1), .val (.int x2)] [(.int x1)]))) (fun t ks => XS.iloadN X0.here hx rfl (hb hby d10_5) rfl ks) ?_
    refine own_st (V := (T0.setTop (mkF m 10 #[.val (.int x1), .val (.int x2)] [(.int x1)]))) (fun t ks => XS.goto X0.here hx rfl (pc0 := 6) (pc' := 10) rfl (hb hby d10_6) (by decide) (by decide) ks) ?_
    exact own_retI X0 hx hlk hret (hb hby d10_10) (by decide) (by decide) ⟨by rw [← hr, if_neg g], e0, rfl⟩
theorem ef_rmCJ (m : MethodId) (x0 : Nat) (x1 : Int32) : entryFrame m #[(.ref x0), (.int x1)] 3 = mkF m 0 #[.val (.ref x0), .val (.int x1), .unset] [] := by first | (simp [entryFrame, mkF, argsToLocals, Value.category]; done) | rfl
set_option maxRecDepth 65536 in
set_option maxHeartbeats 40000000 in
theorem rmCJ (l : Launch) (Z : State) (a0 : Array Value) (hw : ∀ d ∈ tables_1, d.before a0 Z = true) (a : Nat) (k : ClassId) (h0 : Heap) (hZ0 : Z.heap.size ≤ h0.size) (A : Arv Z h0 a k .long 0 [] (.long 0)) :
    OMet l Z (⟨"java/util/Arrays", "copyOf", "([JI)[J"⟩ : MethodName) jdk_65_method_124_code 3 (some (.array .long)) ⟨1, 1, 4, 40⟩ #[(.ref a), (.int (4 : Int32))] h0 (fun v h L => Fr Z.heap.size L ∧ Keep h0 h [] ∧ ∃ (b : Nat) (k' : ClassId), v = some (.ref b) ∧ h0.size ≤ b ∧ Arv Z h b k' .long 4 [.long 0, .long 0, .long 0, .long 0] (.long 0)) := by
  refine own_body pf_9 ?_
  intro p e s m below meth c T0 X0 hx hby hml hZ hown hnm hret hlk e0
  replace hown : s.vm.findClass "java/util/Arrays" = some m.cls := hown
  refine own_cast (ef_rmCJ m (a) ((4 : Int32))) ?_
  show OGoes p.tables e below _ (T0.setTop (mkF m 0 #[.val (.ref a), .val (.int (4 : Int32)), .unset] []))
  have K := Keep.refl h0 []
  refine own_st (V := (T0.setTop (mkF m 1 #[.val (.ref a), .val (.int (4 : Int32)), .unset] [(.int (4 : Int32))]))) (fun t ks => XS.iloadN X0.here hx rfl (hb hby d9_0) rfl ks) ?_
  refine own_st (V := (T0.setTop (mkF m 2 #[.val (.ref a), .val (.int (4 : Int32)), .unset] [(.ref a), (.int (4 : Int32))]))) (fun t ks => XS.aloadN X0.here hx rfl (hb hby d9_1) rfl rfl ks) ?_
  refine own_alen X0 hx hZ e0 A (hb hby d9_2) ?_
  show OGoes p.tables e below _ (T0.setTop (mkF m 3 #[.val (.ref a), .val (.int (4 : Int32)), .unset] [(.int (0 : Int32)), (.int (4 : Int32))]))
  refine own_st (V := (T0.setTop (mkF m 14 #[.val (.ref a), .val (.int (4 : Int32)), .unset] []))) (fun t ks => XS.icmpYes X0.here hx rfl (pc0 := 3) (pc' := 14) rfl (hb hby d9_3) rfl (XT.ii_ne_t (by decide)) (by decide) (by decide) ks) ?_
  refine own_st (V := (T0.setTop (mkF m 15 #[.val (.ref a), .val (.int (4 : Int32)), .unset] [(.int (4 : Int32))]))) (fun t ks => XS.iloadN X0.here hx rfl (hb hby d9_14) rfl ks) ?_
  have lt_a : @LT.lt Nat _ a h0.size := A.lt
  refine own_newarray X0 hx hZ e0 (hw _ (List.mem_of_getElem? (i := 9) rfl)) (by decide) (cap := 4) (by decide) (by decide) (by decide) (by decide) (ad := "[J") rfl (hb hby d9_15) ?_
  intro T1 h1 k1 b1 X1 e1 Ex1 g1 B EB
  replace K := K.ext Ex1
  replace A := A.ext Ex1
  have ltn_1 : @LT.lt Nat _ b1 h1.size := B.lt
  show OGoes p.tables e below _ (T1.setTop (mkF m 17 #[.val (.ref a), .val (.int (4 : Int32)), .unset] [(.ref b1)]))
  replace B : Arv Z h1 b1 _ .long 4 [.long 0, .long 0, .long 0, .long 0] (.long 0) := B.pad (pad_rep [] (.long 0) 4)
  refine own_st (V := (T1.setTop (mkF m 18 #[.val (.ref a), .val (.int (4 : Int32)), .val (.ref b1)] []))) (fun t ks => XS.astoreN X1.here hx rfl (hb hby d9_17) rfl rfl (l' := #[.val (.ref a), .val (.int (4 : Int32)), .val (.ref b1)]) rfl ks) ?_
  refine own_st (V := (T1.setTop (mkF m 19 #[.val (.ref a), .val (.int (4 : Int32)), .val (.ref b1)] [(.ref a)]))) (fun t ks => XS.aloadN X1.here hx rfl (hb hby d9_18) rfl rfl ks) ?_
  refine own_st (V := (T1.setTop (mkF m 20 #[.val (.ref a), .val (.int (4 : Int32)), .val (.ref b1)] [(.int (0 : Int32)), (.ref a)]))) (fun t ks => XS.iconst X1.here hx rfl (hb hby d9_19) ks) ?_
  refine own_st (V := (T1.setTop (mkF m 21 #[.val (.ref a), .val (.int (4 : Int32)), .val (.ref b1)] [(.ref b1), (.int (0 : Int32)), (.ref a)]))) (fun t ks => XS.aloadN X1.here hx rfl (hb hby d9_20) rfl rfl ks) ?_
  refine own_st (V := (T1.setTop (mkF m 22 #[.val (.ref a), .val (.int (4 : Int32)), .val (.ref b1)] [(.int (0 : Int32)), (.ref b1), (.int (0 : Int32)), (.ref a)]))) (fun t ks => XS.iconst X1.here hx rfl (hb hby d9_21) ks) ?_
  refine own_st (V := (T1.setTop (mkF m 23 #[.val (.ref a), .val (.int (4 : Int32)), .val (.ref b1)] [(.ref a), (.int (0 : Int32)), (.ref b1), (.int (0 : Int32)), (.ref a)]))) (fun t ks => XS.aloadN X1.here hx rfl (hb hby d9_22) rfl rfl ks) ?_
  refine own_alen X1 hx hZ e1 A (hb hby d9_23) ?_
  show OGoes p.tables e below _ (T1.setTop (mkF m 24 #[.val (.ref a), .val (.int (4 : Int32)), .val (.ref b1)] [(.int (0 : Int32)), (.int (0 : Int32)), (.ref b1), (.int (0 : Int32)), (.ref a)]))
  refine own_st (V := (T1.setTop (mkF m 25 #[.val (.ref a), .val (.int (4 : Int32)), .val (.ref b1)] [(.int (4 : Int32)), (.int (0 : Int32)), (.int (0 : Int32)), (.ref b1), (.int (0 : Int32)), (.ref a)]))) (fun t ks => XS.iloadN X1.here hx rfl (hb hby d9_24) rfl ks) ?_
  refine own_callS0 X1 hx hZ hown (hw _ (List.mem_of_getElem? (i := 52) rfl)) (hw _ (List.mem_of_getElem? (i := 53) rfl)) (hw _ (List.mem_of_getElem? (i := 43) rfl)) (hw _ (List.mem_of_getElem? (i := 54) rfl)) (by decide) (rmMin l Z a0 hw 0 4 0 (by decide) h1) e1 (by rw [hml]; rfl) (argsL := [(.int (0 : Int32)), (.int (4 : Int32))]) (rest := [(.int (0 : Int32)), (.ref b1), (.int (0 : Int32)), (.ref a)]) pd_0 rfl rfl rfl (W := 4) (Nat.le_of_eq rfl) (hb hby d9_25) (by decide) (by decide) (by decide) (by decide) ?_
  intro T2 X2 e2
  show OGoes p.tables e below _ (T2.setTop (mkF m 28 #[.val (.ref a), .val (.int (4 : Int32)), .val (.ref b1)] [(.int (0 : Int32)), (.int (0 : Int32)), (.ref b1), (.int (0 : Int32)), (.ref a)]))
  refine own_acopy X2 hx hZ e2 hown (hw _ (List.mem_of_getElem? (i := 55) rfl)) (hw _ (List.mem_of_getElem? (i := 58) rfl)) (hw _ (List.mem_of_getElem? (i := 56) rfl)) (hw _ (List.mem_of_getElem? (i := 57) rfl)) A B rfl (by decide) (by decide) (by decide) (by decide) (by decide) rfl (Nat.le_of_ble_eq_true rfl) (Fr.nil Z.heap.size) (by omega) (by rw [hml]; rfl) (hb hby d9_28) (by decide) (W := 0) (Nat.le_of_eq rfl) (by decide) ?_
  intro T3 h3 L3 X3 e3 N3 K3 An3
  replace K := K.trans K3 (allS (Or.inr (by omega)) all0)
  replace A := A.keep K3 (ninS (own_ne (by omega)) nin0)
  replace EB := EB.keep K3
  replace B := An3
  show OGoes p.tables e below _ (T3.setTop (mkF m 31 #[.val (.ref a), .val (.int (4 : Int32)), .val (.ref b1)] []))
  refine own_st (V := (T3.setTop (mkF m 32 #[.val (.ref a), .val (.int (4 : Int32)), .val (.ref b1)] [(.ref b1)]))) (fun t ks => XS.aloadN X3.here hx rfl (hb hby d9_31) rfl rfl ks) ?_
  exact own_retA X3 hx hlk rfl hret rfl (hb hby d9_32) (by decide) (by decide) ⟨N3, by rw [e3]; exact K, b1, _, rfl, by omega, by rw [e3]; exact B⟩
theorem ef_rmCI (m : MethodId) (x0 : Nat) (x1 : Int32) : entryFrame m #[(.ref x0), (.int x1)] 3 = mkF m 0 #[.val (.ref x0), .val (.int x1), .unset] [] := by first | (simp [entryFrame, mkF, argsToLocals, Value.category]; done) | rfl
set_option maxRecDepth 65536 in
set_option maxHeartbeats 40000000 in
theorem rmCI (l : Launch) (Z : State) (a0 : Array Value) (hw : ∀ d ∈ tables_1, d.before a0 Z = true) (a : Nat) (k : ClassId) (h0 : Heap) (hZ0 : Z.heap.size ≤ h0.size) (A : Arv Z h0 a k .int 0 [] (.int 0)) :
    OMet l Z (⟨"java/util/Arrays", "copyOf", "([II)[I"⟩ : MethodName) jdk_65_method_123_code 3 (some (.array .int)) ⟨1, 1, 4, 40⟩ #[(.ref a), (.int (4 : Int32))] h0 (fun v h L => Fr Z.heap.size L ∧ Keep h0 h [] ∧ ∃ (b : Nat) (k' : ClassId), v = some (.ref b) ∧ h0.size ≤ b ∧ Arv Z h b k' .int 4 [.int 0, .int 0, .int 0, .int 0] (.int 0)) := by
  refine own_body pf_11 ?_
  intro p e s m below meth c T0 X0 hx hby hml hZ hown hnm hret hlk e0
  replace hown : s.vm.findClass "java/util/Arrays" = some m.cls := hown
  refine own_cast (ef_rmCI m (a) ((4 : Int32))) ?_
  show OGoes p.tables e below _ (T0.setTop (mkF m 0 #[.val (.ref a), .val (.int (4 : Int32)), .unset] []))
  have K := Keep.refl h0 []
  refine own_st (V := (T0.setTop (mkF m 1 #[.val (.ref a), .val (.int (4 : Int32)), .unset] [(.int (4 : Int32))]))) (fun t ks => XS.iloadN X0.here hx rfl (hb hby d11_0) rfl ks) ?_
  refine own_st (V := (T0.setTop (mkF m 2 #[.val (.ref a), .val (.int (4 : Int32)), .unset] [(.ref a), (.int (4 : Int32))]))) (fun t ks => XS.aloadN X0.here hx rfl (hb hby d11_1) rfl rfl ks) ?_
  refine own_alen X0 hx hZ e0 A (hb hby d11_2) ?_
  show OGoes p.tables e below _ (T0.setTop (mkF m 3 #[.val (.ref a), .val (.int (4 : Int32)), .unset] [(.int (0 : Int32)), (.int (4 : Int32))]))
  refine own_st (V := (T0.setTop (mkF m 14 #[.val (.ref a), .val (.int (4 : Int32)), .unset] []))) (fun t ks => XS.icmpYes X0.here hx rfl (pc0 := 3) (pc' := 14) rfl (hb hby d11_3) rfl (XT.ii_ne_t (by decide)) (by decide) (by decide) ks) ?_
  refine own_st (V := (T0.setTop (mkF m 15 #[.val (.ref a), .val (.int (4 : Int32)), .unset] [(.int (4 : Int32))]))) (fun t ks => XS.iloadN X0.here hx rfl (hb hby d11_14) rfl ks) ?_
  have lt_a : @LT.lt Nat _ a h0.size := A.lt
  refine own_newarray X0 hx hZ e0 (hw _ (List.mem_of_getElem? (i := 12) rfl)) (by decide) (cap := 4) (by decide) (by decide) (by decide) (by decide) (ad := "[I") rfl (hb hby d11_15) ?_
  intro T4 h4 k4 b4 X4 e4 Ex4 g4 B EB
  replace K := K.ext Ex4
  replace A := A.ext Ex4
  have ltn_4 : @LT.lt Nat _ b4 h4.size := B.lt
  show OGoes p.tables e below _ (T4.setTop (mkF m 17 #[.val (.ref a), .val (.int (4 : Int32)), .unset] [(.ref b4)]))
  replace B : Arv Z h4 b4 _ .int 4 [.int 0, .int 0, .int 0, .int 0] (.int 0) := B.pad (pad_rep [] (.int 0) 4)
  refine own_st (V := (T4.setTop (mkF m 18 #[.val (.ref a), .val (.int (4 : Int32)), .val (.ref b4)] []))) (fun t ks => XS.astoreN X4.here hx rfl (hb hby d11_17) rfl rfl (l' := #[.val (.ref a), .val (.int (4 : Int32)), .val (.ref b4)]) rfl ks) ?_
  refine own_st (V := (T4.setTop (mkF m 19 #[.val (.ref a), .val (.int (4 : Int32)), .val (.ref b4)] [(.ref a)]))) (fun t ks => XS.aloadN X4.here hx rfl (hb hby d11_18) rfl rfl ks) ?_
  refine own_st (V := (T4.setTop (mkF m 20 #[.val (.ref a), .val (.int (4 : Int32)), .val (.ref b4)] [(.int (0 : Int32)), (.ref a)]))) (fun t ks => XS.iconst X4.here hx rfl (hb hby d11_19) ks) ?_
  refine own_st (V := (T4.setTop (mkF m 21 #[.val (.ref a), .val (.int (4 : Int32)), .val (.ref b4)] [(.ref b4), (.int (0 : Int32)), (.ref a)]))) (fun t ks => XS.aloadN X4.here hx rfl (hb hby d11_20) rfl rfl ks) ?_
  refine own_st (V := (T4.setTop (mkF m 22 #[.val (.ref a), .val (.int (4 : Int32)), .val (.ref b4)] [(.int (0 : Int32)), (.ref b4), (.int (0 : Int32)), (.ref a)]))) (fun t ks => XS.iconst X4.here hx rfl (hb hby d11_21) ks) ?_
  refine own_st (V := (T4.setTop (mkF m 23 #[.val (.ref a), .val (.int (4 : Int32)), .val (.ref b4)] [(.ref a), (.int (0 : Int32)), (.ref b4), (.int (0 : Int32)), (.ref a)]))) (fun t ks => XS.aloadN X4.here hx rfl (hb hby d11_22) rfl rfl ks) ?_
  refine own_alen X4 hx hZ e4 A (hb hby d11_23) ?_
  show OGoes p.tables e below _ (T4.setTop (mkF m 24 #[.val (.ref a), .val (.int (4 : Int32)), .val (.ref b4)] [(.int (0 : Int32)), (.int (0 : Int32)), (.ref b4), (.int (0 : Int32)), (.ref a)]))
  refine own_st (V := (T4.setTop (mkF m 25 #[.val (.ref a), .val (.int (4 : Int32)), .val (.ref b4)] [(.int (4 : Int32)), (.int (0 : Int32)), (.int (0 : Int32)), (.ref b4), (.int (0 : Int32)), (.ref a)]))) (fun t ks => XS.iloadN X4.here hx rfl (hb hby d11_24) rfl ks) ?_
  refine own_callS0 X4 hx hZ hown (hw _ (List.mem_of_getElem? (i := 52) rfl)) (hw _ (List.mem_of_getElem? (i := 53) rfl)) (hw _ (List.mem_of_getElem? (i := 43) rfl)) (hw _ (List.mem_of_getElem? (i := 54) rfl)) (by decide) (rmMin l Z a0 hw 0 4 0 (by decide) h4) e4 (by rw [hml]; rfl) (argsL := [(.int (0 : Int32)), (.int (4 : Int32))]) (rest := [(.int (0 : Int32)), (.ref b4), (.int (0 : Int32)), (.ref a)]) pd_0 rfl rfl rfl (W := 4) (Nat.le_of_eq rfl) (hb hby d11_25) (by decide) (by decide) (by decide) (by decide) ?_
  intro T5 X5 e5
  show OGoes p.tables e below _ (T5.setTop (mkF m 28 #[.val (.ref a), .val (.int (4 : Int32)), .val (.ref b4)] [(.int (0 : Int32)), (.int (0 : Int32)), (.ref b4), (.int (0 : Int32)), (.ref a)]))
  refine own_acopy X5 hx hZ e5 hown (hw _ (List.mem_of_getElem? (i := 55) rfl)) (hw _ (List.mem_of_getElem? (i := 58) rfl)) (hw _ (List.mem_of_getElem? (i := 56) rfl)) (hw _ (List.mem_of_getElem? (i := 57) rfl)) A B rfl (by decide) (by decide) (by decide) (by decide) (by decide) rfl (Nat.le_of_ble_eq_true rfl) (Fr.nil Z.heap.size) (by omega) (by rw [hml]; rfl) (hb hby d11_28) (by decide) (W := 0) (Nat.le_of_eq rfl) (by decide) ?_
  intro T6 h6 L6 X6 e6 N6 K6 An6
  replace K := K.trans K6 (allS (Or.inr (by omega)) all0)
  replace A := A.keep K6 (ninS (own_ne (by omega)) nin0)
  replace EB := EB.keep K6
  replace B := An6
  show OGoes p.tables e below _ (T6.setTop (mkF m 31 #[.val (.ref a), .val (.int (4 : Int32)), .val (.ref b4)] []))
  refine own_st (V := (T6.setTop (mkF m 32 #[.val (.ref a), .val (.int (4 : Int32)), .val (.ref b4)] [(.ref b4)]))) (fun t ks => XS.aloadN X6.here hx rfl (hb hby d11_31) rfl rfl ks) ?_
  exact own_retA X6 hx hlk rfl hret rfl (hb hby d11_32) (by decide) (by decide) ⟨N6, by rw [e6]; exact K, b4, _, rfl, by omega, by rw [e6]; exact B⟩
theorem ef_rmCB (m : MethodId) (x0 : Nat) (x1 : Int32) : entryFrame m #[(.ref x0), (.int x1)] 3 = mkF m 0 #[.val (.ref x0), .val (.int x1), .unset] [] := by first | (simp [entryFrame, mkF, argsToLocals, Value.category]; done) | rfl
set_option maxRecDepth 65536 in
set_option maxHeartbeats 40000000 in
theorem rmCB (l : Launch) (Z : State) (a0 : Array Value) (hw : ∀ d ∈ tables_1, d.before a0 Z = true) (a : Nat) (k : ClassId) (h0 : Heap) (hZ0 : Z.heap.size ≤ h0.size) (A : Arv Z h0 a k .byte 0 [] (.int 0)) :
    OMet l Z (⟨"java/util/Arrays", "copyOf", "([BI)[B"⟩ : MethodName) jdk_65_method_121_code 3 (some (.array .byte)) ⟨1, 1, 4, 40⟩ #[(.ref a), (.int (4 : Int32))] h0 (fun v h L => Fr Z.heap.size L ∧ Keep h0 h [] ∧ ∃ (b : Nat) (k' : ClassId), v = some (.ref b) ∧ h0.size ≤ b ∧ Arv Z h b k' .byte 4 [.int 0, .int 0, .int 0, .int 0] (.int 0)) := by
  refine own_body pf_12 ?_
  intro p e s m below meth c T0 X0 hx hby hml hZ hown hnm hret hlk e0
  replace hown : s.vm.findClass "java/util/Arrays" = some m.cls := hown
  refine own_cast (ef_rmCB m (a) ((4 : Int32))) ?_
  show OGoes p.tables e below _ (T0.setTop (mkF m 0 #[.val (.ref a), .val (.int (4 : Int32)), .unset] []))
  have K := Keep.refl h0 []
  refine own_st (V := (T0.setTop (mkF m 1 #[.val (.ref a), .val (.int (4 : Int32)), .unset] [(.int (4 : Int32))]))) (fun t ks => XS.iloadN X0.here hx rfl (hb hby d12_0) rfl ks) ?_
  refine own_st (V := (T0.setTop (mkF m 2 #[.val (.ref a), .val (.int (4 : Int32)), .unset] [(.ref a), (.int (4 : Int32))]))) (fun t ks => XS.aloadN X0.here hx rfl (hb hby d12_1) rfl rfl ks) ?_
  refine own_alen X0 hx hZ e0 A (hb hby d12_2) ?_
  show OGoes p.tables e below _ (T0.setTop (mkF m 3 #[.val (.ref a), .val (.int (4 : Int32)), .unset] [(.int (0 : Int32)), (.int (4 : Int32))]))
  refine own_st (V := (T0.setTop (mkF m 14 #[.val (.ref a), .val (.int (4 : Int32)), .unset] []))) (fun t ks => XS.icmpYes X0.here hx rfl (pc0 := 3) (pc' := 14) rfl (hb hby d12_3) rfl (XT.ii_ne_t (by decide)) (by decide) (by decide) ks) ?_
  refine own_st (V := (T0.setTop (mkF m 15 #[.val (.ref a), .val (.int (4 : Int32)), .unset] [(.int (4 : Int32))]))) (fun t ks => XS.iloadN X0.here hx rfl (hb hby d12_14) rfl ks) ?_
  have lt_a : @LT.lt Nat _ a h0.size := A.lt
  refine own_newarray X0 hx hZ e0 (hw _ (List.mem_of_getElem? (i := 21) rfl)) (by decide) (cap := 4) (by decide) (by decide) (by decide) (by decide) (ad := "[B") rfl (hb hby d12_15) ?_
  intro T7 h7 k7 b7 X7 e7 Ex7 g7 B EB
  replace K := K.ext Ex7
  replace A := A.ext Ex7
  have ltn_7 : @LT.lt Nat _ b7 h7.size := B.lt
  show OGoes p.tables e below _ (T7.setTop (mkF m 17 #[.val (.ref a), .val (.int (4 : Int32)), .unset] [(.ref b7)]))
  replace B : Arv Z h7 b7 _ .byte 4 [.int 0, .int 0, .int 0, .int 0] (.int 0) := B.pad (pad_rep [] (.int 0) 4)
  refine own_st (V := (T7.setTop (mkF m 18 #[.val (.ref a), .val (.int (4 : Int32)), .val (.ref b7)] []))) (fun t ks => XS.astoreN X7.here hx rfl (hb hby d12_17) rfl rfl (l' := #[.val (.ref a), .val (.int (4 : Int32)), .val (.ref b7)]) rfl ks) ?_
  refine own_st (V := (T7.setTop (mkF m 19 #[.val (.ref a), .val (.int (4 : Int32)), .val (.ref b7)] [(.ref a)]))) (fun t ks => XS.aloadN X7.here hx rfl (hb hby d12_18) rfl rfl ks) ?_
  refine own_st (V := (T7.setTop (mkF m 20 #[.val (.ref a), .val (.int (4 : Int32)), .val (.ref b7)] [(.int (0 : Int32)), (.ref a)]))) (fun t ks => XS.iconst X7.here hx rfl (hb hby d12_19) ks) ?_
  refine own_st (V := (T7.setTop (mkF m 21 #[.val (.ref a), .val (.int (4 : Int32)), .val (.ref b7)] [(.ref b7), (.int (0 : Int32)), (.ref a)]))) (fun t ks => XS.aloadN X7.here hx rfl (hb hby d12_20) rfl rfl ks) ?_
  refine own_st (V := (T7.setTop (mkF m 22 #[.val (.ref a), .val (.int (4 : Int32)), .val (.ref b7)] [(.int (0 : Int32)), (.ref b7), (.int (0 : Int32)), (.ref a)]))) (fun t ks => XS.iconst X7.here hx rfl (hb hby d12_21) ks) ?_
  refine own_st (V := (T7.setTop (mkF m 23 #[.val (.ref a), .val (.int (4 : Int32)), .val (.ref b7)] [(.ref a), (.int (0 : Int32)), (.ref b7), (.int (0 : Int32)), (.ref a)]))) (fun t ks => XS.aloadN X7.here hx rfl (hb hby d12_22) rfl rfl ks) ?_
  refine own_alen X7 hx hZ e7 A (hb hby d12_23) ?_
  show OGoes p.tables e below _ (T7.setTop (mkF m 24 #[.val (.ref a), .val (.int (4 : Int32)), .val (.ref b7)] [(.int (0 : Int32)), (.int (0 : Int32)), (.ref b7), (.int (0 : Int32)), (.ref a)]))
  refine own_st (V := (T7.setTop (mkF m 25 #[.val (.ref a), .val (.int (4 : Int32)), .val (.ref b7)] [(.int (4 : Int32)), (.int (0 : Int32)), (.int (0 : Int32)), (.ref b7), (.int (0 : Int32)), (.ref a)]))) (fun t ks => XS.iloadN X7.here hx rfl (hb hby d12_24) rfl ks) ?_
  refine own_callS0 X7 hx hZ hown (hw _ (List.mem_of_getElem? (i := 52) rfl)) (hw _ (List.mem_of_getElem? (i := 53) rfl)) (hw _ (List.mem_of_getElem? (i := 43) rfl)) (hw _ (List.mem_of_getElem? (i := 54) rfl)) (by decide) (rmMin l Z a0 hw 0 4 0 (by decide) h7) e7 (by rw [hml]; rfl) (argsL := [(.int (0 : Int32)), (.int (4 : Int32))]) (rest := [(.int (0 : Int32)), (.ref b7), (.int (0 : Int32)), (.ref a)]) pd_0 rfl rfl rfl (W := 4) (Nat.le_of_eq rfl) (hb hby d12_25) (by decide) (by decide) (by decide) (by decide) ?_
  intro T8 X8 e8
  show OGoes p.tables e below _ (T8.setTop (mkF m 28 #[.val (.ref a), .val (.int (4 : Int32)), .val (.ref b7)] [(.int (0 : Int32)), (.int (0 : Int32)), (.ref b7), (.int (0 : Int32)), (.ref a)]))
  refine own_acopy X8 hx hZ e8 hown (hw _ (List.mem_of_getElem? (i := 55) rfl)) (hw _ (List.mem_of_getElem? (i := 58) rfl)) (hw _ (List.mem_of_getElem? (i := 56) rfl)) (hw _ (List.mem_of_getElem? (i := 57) rfl)) A B rfl (by decide) (by decide) (by decide) (by decide) (by decide) rfl (Nat.le_of_ble_eq_true rfl) (Fr.nil Z.heap.size) (by omega) (by rw [hml]; rfl) (hb hby d12_28) (by decide) (W := 0) (Nat.le_of_eq rfl) (by decide) ?_
  intro T9 h9 L9 X9 e9 N9 K9 An9
  replace K := K.trans K9 (allS (Or.inr (by omega)) all0)
  replace A := A.keep K9 (ninS (own_ne (by omega)) nin0)
  replace EB := EB.keep K9
  replace B := An9
  show OGoes p.tables e below _ (T9.setTop (mkF m 31 #[.val (.ref a), .val (.int (4 : Int32)), .val (.ref b7)] []))
  refine own_st (V := (T9.setTop (mkF m 32 #[.val (.ref a), .val (.int (4 : Int32)), .val (.ref b7)] [(.ref b7)]))) (fun t ks => XS.aloadN X9.here hx rfl (hb hby d12_31) rfl rfl ks) ?_
  exact own_retA X9 hx hlk rfl hret rfl (hb hby d12_32) (by decide) (by decide) ⟨N9, by rw [e9]; exact K, b7, _, rfl, by omega, by rw [e9]; exact B⟩
def own_bs : List Int64 → Int64 → Int32
  | [], _ => -1
  | [x0], q => if x0 < q then -2 else if q < x0 then -1 else 0
  | [x0, x1], q => if x0 < q then (if x1 < q then -3 else if q < x1 then -2 else 1) else if q < x0 then -1 else 0
  | [x0, x1, x2], q => if x1 < q then (if x2 < q then -4 else if q < x2 then -3 else 2) else if q < x1 then (if x0 < q then -2 else if q < x0 then -1 else 0) else 1
  | _, _ => 0
def own_pad : List Int64 → List Value
  | [] => []
  | [x0] => [.long x0, .long 0, .long 0, .long 0]
  | [x0, x1] => [.long x0, .long x1, .long 0, .long 0]
  | [x0, x1, x2] => [.long x0, .long x1, .long x2, .long 0]
  | _ => []
def own_cap : List Int64 → Int32
  | [] => 0
  | _ => 4
def own_len : List Int64 → Int32
  | [] => 0
  | [_] => 1
  | [_, _] => 2
  | _ => 3
theorem ef_rmRC (m : MethodId) (x0 : Int32) (x1 : Int32) (x2 : Int32) : entryFrame m #[(.int x0), (.int x1), (.int x2)] 3 = mkF m 0 #[.val (.int x0), .val (.int x1), .val (.int x2)] [] := by first | (simp [entryFrame, mkF, argsToLocals, Value.category]; done) | rfl
set_option maxRecDepth 65536 in
set_option maxHeartbeats 40000000 in
theorem rmRC (l : Launch) (Z : State) (a0 : Array Value) (hw : ∀ d ∈ tables_1, d.before a0 Z = true) (z n : Int32) (h1 : ¬ n < 0) (h2 : ¬ z < n) (h0 : Heap)  :
    OPure l Z (⟨"java/util/Arrays", "rangeCheck", "(III)V"⟩ : MethodName) jdk_65_method_30_code 3 none 0 0 #[(.int z), (.int (0 : Int32)), (.int n)] h0 none := by
  refine own_body pf_5 ?_
  intro p e s m below meth c T0 X0 hx hby hml hZ hown hnm hret hlk e0
  replace hown : s.vm.findClass "java/util/Arrays" = some m.cls := hown
  refine own_cast (ef_rmRC m (z) ((0 : Int32)) (n)) ?_
  show OGoes p.tables e below _ (T0.setTop (mkF m 0 #[.val (.int z), .val (.int (0 : Int32)), .val (.int n)] []))
  refine own_st (V := (T0.setTop (mkF m 1 #[.val (.int z), .val (.int (0 : Int32)), .val (.int n)] [(.int (0 : Int32))]))) (fun t ks => XS.iloadN X0.here hx rfl (hb hby d5_0) rfl ks) ?_
  refine own_st (V := (T0.setTop (mkF m 2 #[.val (.int z), .val (.int (0 : Int32)), .val (.int n)] [(.int n), (.int (0 : Int32))]))) (fun t ks => XS.iloadN X0.here hx rfl (hb hby d5_1) rfl ks) ?_
  refine own_st (V := (T0.setTop (mkF m 46 #[.val (.int z), .val (.int (0 : Int32)), .val (.int n)] []))) (fun t ks => XS.icmpYes X0.here hx rfl (pc0 := 2) (pc' := 46) rfl (hb hby d5_2) rfl (XT.ii_le_t h1) (by decide) (by decide) ks) ?_
  refine own_st (V := (T0.setTop (mkF m 47 #[.val (.int z), .val (.int (0 : Int32)), .val (.int n)] [(.int (0 : Int32))]))) (fun t ks => XS.iloadN X0.here hx rfl (hb hby d5_46) rfl ks) ?_
  refine own_st (V := (T0.setTop (mkF m 59 #[.val (.int z), .val (.int (0 : Int32)), .val (.int n)] []))) (fun t ks => XS.ifYes X0.here hx rfl (pc0 := 47) (pc' := 59) rfl (hb hby d5_47) rfl (XT.i0_ge_t (by decide)) (by decide) (by decide) ks) ?_
  refine own_st (V := (T0.setTop (mkF m 60 #[.val (.int z), .val (.int (0 : Int32)), .val (.int n)] [(.int n)]))) (fun t ks => XS.iloadN X0.here hx rfl (hb hby d5_59) rfl ks) ?_
  refine own_st (V := (T0.setTop (mkF m 61 #[.val (.int z), .val (.int (0 : Int32)), .val (.int n)] [(.int z), (.int n)]))) (fun t ks => XS.iloadN X0.here hx rfl (hb hby d5_60) rfl ks) ?_
  refine own_st (V := (T0.setTop (mkF m 73 #[.val (.int z), .val (.int (0 : Int32)), .val (.int n)] []))) (fun t ks => XS.icmpYes X0.here hx rfl (pc0 := 61) (pc' := 73) rfl (hb hby d5_61) rfl (XT.ii_le_t h2) (by decide) (by decide) ks) ?_
  exact own_retV X0 hx hlk hret (hb hby d5_73) (by decide) (by decide) ⟨rfl, e0, rfl⟩
theorem ef_rmB0 (m : MethodId) (x0 : Nat) (x1 : Int32) (x2 : Int32) (x3 : Int64) : entryFrame m #[(.ref x0), (.int x1), (.int x2), (.long x3)] 10 = mkF m 0 #[.val (.ref x0), .val (.int x1), .val (.int x2), .val (.long x3), .second, .unset, .unset, .unset, .unset, .unset] [] := by first | (simp [entryFrame, mkF, argsToLocals, Value.category]; done) | rfl
set_option maxRecDepth 65536 in
set_option maxHeartbeats 40000000 in
theorem rmB0 (l : Launch) (Z : State) (a0 : Array Value) (hw : ∀ d ∈ tables_1, d.before a0 Z = true) (a : Nat) (k : ClassId) (q : Int64) (h0 : Heap) (A : Arv Z h0 a k .long (own_cap []) (own_pad []) (.long 0)) :
    OPure l Z (⟨"java/util/Arrays", "binarySearch0", "([JIIJ)I"⟩ : MethodName) jdk_65_method_56_code 10 (some .int) 0 0 #[(.ref a), (.int (0 : Int32)), (.int (0 : Int32)), (.long q)] h0 (some (.int (own_bs [] q))) := by
  refine own_body pf_6 ?_
  intro p e s m below meth c T0 X0 hx hby hml hZ hown hnm hret hlk e0
  replace hown : s.vm.findClass "java/util/Arrays" = some m.cls := hown
  refine own_cast (ef_rmB0 m (a) ((0 : Int32)) ((0 : Int32)) (q)) ?_
  show OGoes p.tables e below _ (T0.setTop (mkF m 0 #[.val (.ref a), .val (.int (0 : Int32)), .val (.int (0 : Int32)), .val (.long q), .second, .unset, .unset, .unset, .unset, .unset] []))
  refine own_st (V := (T0.setTop (mkF m 1 #[.val (.ref a), .val (.int (0 : Int32)), .val (.int (0 : Int32)), .val (.long q), .second, .unset, .unset, .unset, .unset, .unset] [(.int (0 : Int32))]))) (fun t ks => XS.iloadN X0.here hx rfl (hb hby d6_0) rfl ks) ?_
  refine own_st (V := (T0.setTop (mkF m 3 #[.val (.ref a), .val (.int (0 : Int32)), .val (.int (0 : Int32)), .val (.long q), .second, .val (.int (0 : Int32)), .unset, .unset, .unset, .unset] []))) (fun t ks => XS.istore X0.here hx rfl (hb hby d6_1) rfl (l' := #[.val (.ref a), .val (.int (0 : Int32)), .val (.int (0 : Int32)), .val (.long q), .second, .val (.int (0 : Int32)), .unset, .unset, .unset, .unset]) rfl ks) ?_
  refine own_st (V := (T0.setTop (mkF m 4 #[.val (.ref a), .val (.int (0 : Int32)), .val (.int (0 : Int32)), .val (.long q), .second, .val (.int (0 : Int32)), .unset, .unset, .unset, .unset] [(.int (0 : Int32))]))) (fun t ks => XS.iloadN X0.here hx rfl (hb hby d6_3) rfl ks) ?_
  refine own_st (V := (T0.setTop (mkF m 5 #[.val (.ref a), .val (.int (0 : Int32)), .val (.int (0 : Int32)), .val (.long q), .second, .val (.int (0 : Int32)), .unset, .unset, .unset, .unset] [(.int (1 : Int32)), (.int (0 : Int32))]))) (fun t ks => XS.iconst X0.here hx rfl (hb hby d6_4) ks) ?_
  refine own_st (V := (T0.setTop (mkF m 6 #[.val (.ref a), .val (.int (0 : Int32)), .val (.int (0 : Int32)), .val (.long q), .second, .val (.int (0 : Int32)), .unset, .unset, .unset, .unset] [(.int ((0 : Int32) - (1 : Int32)))]))) (fun t ks => XS.isub X0.here hx rfl (hb hby d6_5) rfl ks) ?_
  refine own_st (V := (T0.setTop (mkF m 8 #[.val (.ref a), .val (.int (0 : Int32)), .val (.int (0 : Int32)), .val (.long q), .second, .val (.int (0 : Int32)), .val (.int ((0 : Int32) - (1 : Int32))), .unset, .unset, .unset] []))) (fun t ks => XS.istore X0.here hx rfl (hb hby d6_6) rfl (l' := #[.val (.ref a), .val (.int (0 : Int32)), .val (.int (0 : Int32)), .val (.long q), .second, .val (.int (0 : Int32)), .val (.int ((0 : Int32) - (1 : Int32))), .unset, .unset, .unset]) rfl ks) ?_
  refine own_cast (g' := (mkF m 8 #[.val (.ref a), .val (.int (0 : Int32)), .val (.int (0 : Int32)), .val (.long q), .second, .val (.int (0 : Int32)), .val (.int (-1 : Int32)), .unset, .unset, .unset] [])) (by rw [show ((0 : Int32) - (1 : Int32)) = (-1 : Int32) from by decide]) ?_
  refine own_st (V := (T0.setTop (mkF m 10 #[.val (.ref a), .val (.int (0 : Int32)), .val (.int (0 : Int32)), .val (.long q), .second, .val (.int (0 : Int32)), .val (.int (-1 : Int32)), .unset, .unset, .unset] [(.int (0 : Int32))]))) (fun t ks => XS.iload X0.here hx rfl (hb hby d6_8) rfl ks) ?_
  refine own_st (V := (T0.setTop (mkF m 12 #[.val (.ref a), .val (.int (0 : Int32)), .val (.int (0 : Int32)), .val (.long q), .second, .val (.int (0 : Int32)), .val (.int (-1 : Int32)), .unset, .unset, .unset] [(.int (-1 : Int32)), (.int (0 : Int32))]))) (fun t ks => XS.iload X0.here hx rfl (hb hby d6_10) rfl ks) ?_
  refine own_st (V := (T0.setTop (mkF m 68 #[.val (.ref a), .val (.int (0 : Int32)), .val (.int (0 : Int32)), .val (.long q), .second, .val (.int (0 : Int32)), .val (.int (-1 : Int32)), .unset, .unset, .unset] []))) (fun t ks => XS.icmpYes X0.here hx rfl (pc0 := 12) (pc' := 68) rfl (hb hby d6_12) rfl (XT.ii_gt_t (by decide)) (by decide) (by decide) ks) ?_
  refine own_st (V := (T0.setTop (mkF m 70 #[.val (.ref a), .val (.int (0 : Int32)), .val (.int (0 : Int32)), .val (.long q), .second, .val (.int (0 : Int32)), .val (.int (-1 : Int32)), .unset, .unset, .unset] [(.int (0 : Int32))]))) (fun t ks => XS.iload X0.here hx rfl (hb hby d6_68) rfl ks) ?_
  refine own_st (V := (T0.setTop (mkF m 71 #[.val (.ref a), .val (.int (0 : Int32)), .val (.int (0 : Int32)), .val (.long q), .second, .val (.int (0 : Int32)), .val (.int (-1 : Int32)), .unset, .unset, .unset] [(.int (1 : Int32)), (.int (0 : Int32))]))) (fun t ks => XS.iconst X0.here hx rfl (hb hby d6_70) ks) ?_
  refine own_st (V := (T0.setTop (mkF m 72 #[.val (.ref a), .val (.int (0 : Int32)), .val (.int (0 : Int32)), .val (.long q), .second, .val (.int (0 : Int32)), .val (.int (-1 : Int32)), .unset, .unset, .unset] [(.int ((0 : Int32) + (1 : Int32)))]))) (fun t ks => XS.iadd X0.here hx rfl (hb hby d6_71) rfl ks) ?_
  refine own_st (V := (T0.setTop (mkF m 73 #[.val (.ref a), .val (.int (0 : Int32)), .val (.int (0 : Int32)), .val (.long q), .second, .val (.int (0 : Int32)), .val (.int (-1 : Int32)), .unset, .unset, .unset] [(.int (-((0 : Int32) + (1 : Int32))))]))) (fun t ks => XS.ineg X0.here hx rfl (hb hby d6_72) rfl ks) ?_
  exact own_retI X0 hx hlk hret (hb hby d6_73) (by decide) (by decide) ⟨by rw [show own_bs [] q = -1 from rfl]; decide, e0, rfl⟩
theorem ef_rmB1 (m : MethodId) (x0 : Nat) (x1 : Int32) (x2 : Int32) (x3 : Int64) : entryFrame m #[(.ref x0), (.int x1), (.int x2), (.long x3)] 10 = mkF m 0 #[.val (.ref x0), .val (.int x1), .val (.int x2), .val (.long x3), .second, .unset, .unset, .unset, .unset, .unset] [] := by first | (simp [entryFrame, mkF, argsToLocals, Value.category]; done) | rfl
set_option maxRecDepth 65536 in
set_option maxHeartbeats 40000000 in
theorem rmB1 (l : Launch) (Z : State) (a0 : Array Value) (hw : ∀ d ∈ tables_1, d.before a0 Z = true) (a : Nat) (k : ClassId) (q x0 : Int64) (h0 : Heap) (A : Arv Z h0 a k .long (own_cap [x0]) (own_pad [x0]) (.long 0)) :
    OPure l Z (⟨"java/util/Arrays", "binarySearch0", "([JIIJ)I"⟩ : MethodName) jdk_65_method_56_code 10 (some .int) 0 0 #[(.ref a), (.int (0 : Int32)), (.int (1 : Int32)), (.long q)] h0 (some (.int (own_bs [x0] q))) := by
  refine own_body pf_6 ?_
  intro p e s m below meth c T0 X0 hx hby hml hZ hown hnm hret hlk e0
  replace hown : s.vm.findClass "java/util/Arrays" = some m.cls := hown
  refine own_cast (ef_rmB1 m (a) ((0 : Int32)) ((1 : Int32)) (q)) ?_
  show OGoes p.tables e below _ (T0.setTop (mkF m 0 #[.val (.ref a), .val (.int (0 : Int32)), .val (.int (1 : Int32)), .val (.long q), .second, .unset, .unset, .unset, .unset, .unset] []))
  refine own_st (V := (T0.setTop (mkF m 1 #[.val (.ref a), .val (.int (0 : Int32)), .val (.int (1 : Int32)), .val (.long q), .second, .unset, .unset, .unset, .unset, .unset] [(.int (0 : Int32))]))) (fun t ks => XS.iloadN X0.here hx rfl (hb hby d6_0) rfl ks) ?_
  refine own_st (V := (T0.setTop (mkF m 3 #[.val (.ref a), .val (.int (0 : Int32)), .val (.int (1 : Int32)), .val (.long q), .second, .val (.int (0 : Int32)), .unset, .unset, .unset, .unset] []))) (fun t ks => XS.istore X0.here hx rfl (hb hby d6_1) rfl (l' := #[.val (.ref a), .val (.int (0 : Int32)), .val (.int (1 : Int32)), .val (.long q), .second, .val (.int (0 : Int32)), .unset, .unset, .unset, .unset]) rfl ks) ?_
  refine own_st (V := (T0.setTop (mkF m 4 #[.val (.ref a), .val (.int (0 : Int32)), .val (.int (1 : Int32)), .val (.long q), .second, .val (.int (0 : Int32)), .unset, .unset, .unset, .unset] [(.int (1 : Int32))]))) (fun t ks => XS.iloadN X0.here hx rfl (hb hby d6_3) rfl ks) ?_
  refine own_st (V := (T0.setTop (mkF m 5 #[.val (.ref a), .val (.int (0 : Int32)), .val (.int (1 : Int32)), .val (.long q), .second, .val (.int (0 : Int32)), .unset, .unset, .unset, .unset] [(.int (1 : Int32)), (.int (1 : Int32))]))) (fun t ks => XS.iconst X0.here hx rfl (hb hby d6_4) ks) ?_
  refine own_st (V := (T0.setTop (mkF m 6 #[.val (.ref a), .val (.int (0 : Int32)), .val (.int (1 : Int32)), .val (.long q), .second, .val (.int (0 : Int32)), .unset, .unset, .unset, .unset] [(.int ((1 : Int32) - (1 : Int32)))]))) (fun t ks => XS.isub X0.here hx rfl (hb hby d6_5) rfl ks) ?_
  refine own_st (V := (T0.setTop (mkF m 8 #[.val (.ref a), .val (.int (0 : Int32)), .val (.int (1 : Int32)), .val (.long q), .second, .val (.int (0 : Int32)), .val (.int ((1 : Int32) - (1 : Int32))), .unset, .unset, .unset] []))) (fun t ks => XS.istore X0.here hx rfl (hb hby d6_6) rfl (l' := #[.val (.ref a), .val (.int (0 : Int32)), .val (.int (1 : Int32)), .val (.long q), .second, .val (.int (0 : Int32)), .val (.int ((1 : Int32) - (1 : Int32))), .unset, .unset, .unset]) rfl ks) ?_
  refine own_cast (g' := (mkF m 8 #[.val (.ref a), .val (.int (0 : Int32)), .val (.int (1 : Int32)), .val (.long q), .second, .val (.int (0 : Int32)), .val (.int (0 : Int32)), .unset, .unset, .unset] [])) (by rw [show ((1 : Int32) - (1 : Int32)) = (0 : Int32) from by decide]) ?_
  refine own_st (V := (T0.setTop (mkF m 10 #[.val (.ref a), .val (.int (0 : Int32)), .val (.int (1 : Int32)), .val (.long q), .second, .val (.int (0 : Int32)), .val (.int (0 : Int32)), .unset, .unset, .unset] [(.int (0 : Int32))]))) (fun t ks => XS.iload X0.here hx rfl (hb hby d6_8) rfl ks) ?_
  refine own_st (V := (T0.setTop (mkF m 12 #[.val (.ref a), .val (.int (0 : Int32)), .val (.int (1 : Int32)), .val (.long q), .second, .val (.int (0 : Int32)), .val (.int (0 : Int32)), .unset, .unset, .unset] [(.int (0 : Int32)), (.int (0 : Int32))]))) (fun t ks => XS.iload X0.here hx rfl (hb hby d6_10) rfl ks) ?_
  refine own_st (V := (T0.setTop (mkF m 15 #[.val (.ref a), .val (.int (0 : Int32)), .val (.int (1 : Int32)), .val (.long q), .second, .val (.int (0 : Int32)), .val (.int (0 : Int32)), .unset, .unset, .unset] []))) (fun t ks => XS.icmpNo X0.here hx rfl (hb hby d6_12) rfl (XT.ii_gt_f (by decide)) ks) ?_
  refine own_st (V := (T0.setTop (mkF m 17 #[.val (.ref a), .val (.int (0 : Int32)), .val (.int (1 : Int32)), .val (.long q), .second, .val (.int (0 : Int32)), .val (.int (0 : Int32)), .unset, .unset, .unset] [(.int (0 : Int32))]))) (fun t ks => XS.iload X0.here hx rfl (hb hby d6_15) rfl ks) ?_
  refine own_st (V := (T0.setTop (mkF m 19 #[.val (.ref a), .val (.int (0 : Int32)), .val (.int (1 : Int32)), .val (.long q), .second, .val (.int (0 : Int32)), .val (.int (0 : Int32)), .unset, .unset, .unset] [(.int (0 : Int32)), (.int (0 : Int32))]))) (fun t ks => XS.iload X0.here hx rfl (hb hby d6_17) rfl ks) ?_
  refine own_st (V := (T0.setTop (mkF m 20 #[.val (.ref a), .val (.int (0 : Int32)), .val (.int (1 : Int32)), .val (.long q), .second, .val (.int (0 : Int32)), .val (.int (0 : Int32)), .unset, .unset, .unset] [(.int ((0 : Int32) + (0 : Int32)))]))) (fun t ks => XS.iadd X0.here hx rfl (hb hby d6_19) rfl ks) ?_
  refine own_st (V := (T0.setTop (mkF m 21 #[.val (.ref a), .val (.int (0 : Int32)), .val (.int (1 : Int32)), .val (.long q), .second, .val (.int (0 : Int32)), .val (.int (0 : Int32)), .unset, .unset, .unset] [(.int (1 : Int32)), (.int ((0 : Int32) + (0 : Int32)))]))) (fun t ks => XS.iconst X0.here hx rfl (hb hby d6_20) ks) ?_
  refine own_st (V := (T0.setTop (mkF m 22 #[.val (.ref a), .val (.int (0 : Int32)), .val (.int (1 : Int32)), .val (.long q), .second, .val (.int (0 : Int32)), .val (.int (0 : Int32)), .unset, .unset, .unset] [(.int ((((0 : Int32) + (0 : Int32)).toUInt32 >>> ((1 : Int32) &&& 31).toUInt32).toInt32))]))) (fun t ks => XS.iushr X0.here hx rfl (hb hby d6_21) rfl ks) ?_
  refine own_cast (g' := (mkF m 22 #[.val (.ref a), .val (.int (0 : Int32)), .val (.int (1 : Int32)), .val (.long q), .second, .val (.int (0 : Int32)), .val (.int (0 : Int32)), .unset, .unset, .unset] [(.int (0 : Int32))])) (by rw [show ((((0 : Int32) + (0 : Int32)).toUInt32 >>> ((1 : Int32) &&& 31).toUInt32).toInt32) = (0 : Int32) from by decide]) ?_
  refine own_st (V := (T0.setTop (mkF m 24 #[.val (.ref a), .val (.int (0 : Int32)), .val (.int (1 : Int32)), .val (.long q), .second, .val (.int (0 : Int32)), .val (.int (0 : Int32)), .val (.int (0 : Int32)), .unset, .unset] []))) (fun t ks => XS.istore X0.here hx rfl (hb hby d6_22) rfl (l' := #[.val (.ref a), .val (.int (0 : Int32)), .val (.int (1 : Int32)), .val (.long q), .second, .val (.int (0 : Int32)), .val (.int (0 : Int32)), .val (.int (0 : Int32)), .unset, .unset]) rfl ks) ?_
  refine own_st (V := (T0.setTop (mkF m 25 #[.val (.ref a), .val (.int (0 : Int32)), .val (.int (1 : Int32)), .val (.long q), .second, .val (.int (0 : Int32)), .val (.int (0 : Int32)), .val (.int (0 : Int32)), .unset, .unset] [(.ref a)]))) (fun t ks => XS.aloadN X0.here hx rfl (hb hby d6_24) rfl rfl ks) ?_
  refine own_st (V := (T0.setTop (mkF m 27 #[.val (.ref a), .val (.int (0 : Int32)), .val (.int (1 : Int32)), .val (.long q), .second, .val (.int (0 : Int32)), .val (.int (0 : Int32)), .val (.int (0 : Int32)), .unset, .unset] [(.int (0 : Int32)), (.ref a)]))) (fun t ks => XS.iload X0.here hx rfl (hb hby d6_25) rfl ks) ?_
  refine own_laload X0 hx hZ e0 A (v := (.long x0)) (by decide) (by show (0 : Int32) < 4; decide) rfl (hb hby d6_27) ?_
  show OGoes p.tables e below _ (T0.setTop (mkF m 28 #[.val (.ref a), .val (.int (0 : Int32)), .val (.int (1 : Int32)), .val (.long q), .second, .val (.int (0 : Int32)), .val (.int (0 : Int32)), .val (.int (0 : Int32)), .unset, .unset] [(.long x0)]))
  refine own_st (V := (T0.setTop (mkF m 30 #[.val (.ref a), .val (.int (0 : Int32)), .val (.int (1 : Int32)), .val (.long q), .second, .val (.int (0 : Int32)), .val (.int (0 : Int32)), .val (.int (0 : Int32)), .val (.long x0), .second] []))) (fun t ks => XS.lstore X0.here hx rfl (hb hby d6_28) rfl (l' := #[.val (.ref a), .val (.int (0 : Int32)), .val (.int (1 : Int32)), .val (.long q), .second, .val (.int (0 : Int32)), .val (.int (0 : Int32)), .val (.int (0 : Int32)), .val (.long x0), .second]) rfl ks) ?_
  refine own_st (V := (T0.setTop (mkF m 32 #[.val (.ref a), .val (.int (0 : Int32)), .val (.int (1 : Int32)), .val (.long q), .second, .val (.int (0 : Int32)), .val (.int (0 : Int32)), .val (.int (0 : Int32)), .val (.long x0), .second] [(.long x0)]))) (fun t ks => XS.lload X0.here hx rfl (hb hby d6_30) rfl ks) ?_
  refine own_st (V := (T0.setTop (mkF m 33 #[.val (.ref a), .val (.int (0 : Int32)), .val (.int (1 : Int32)), .val (.long q), .second, .val (.int (0 : Int32)), .val (.int (0 : Int32)), .val (.int (0 : Int32)), .val (.long x0), .second] [(.long q), (.long x0)]))) (fun t ks => XS.lloadN X0.here hx rfl (hb hby d6_32) rfl ks) ?_
  refine own_st (V := (T0.setTop (mkF m 34 #[.val (.ref a), .val (.int (0 : Int32)), .val (.int (1 : Int32)), .val (.long q), .second, .val (.int (0 : Int32)), .val (.int (0 : Int32)), .val (.int (0 : Int32)), .val (.long x0), .second] [(.int (lcmpW x0 q))]))) (fun t ks => XS.lcmp X0.here hx rfl (hb hby d6_33) rfl ks) ?_
  by_cases c0_0 : x0 < q
  · refine own_st (V := (T0.setTop (mkF m 37 #[.val (.ref a), .val (.int (0 : Int32)), .val (.int (1 : Int32)), .val (.long q), .second, .val (.int (0 : Int32)), .val (.int (0 : Int32)), .val (.int (0 : Int32)), .val (.long x0), .second] []))) (fun t ks => XS.ifNo X0.here hx rfl (hb hby d6_34) rfl (XT.ll_ge_f c0_0) ks) ?_
    refine own_st (V := (T0.setTop (mkF m 39 #[.val (.ref a), .val (.int (0 : Int32)), .val (.int (1 : Int32)), .val (.long q), .second, .val (.int (0 : Int32)), .val (.int (0 : Int32)), .val (.int (0 : Int32)), .val (.long x0), .second] [(.int (0 : Int32))]))) (fun t ks => XS.iload X0.here hx rfl (hb hby d6_37) rfl ks) ?_
    refine own_st (V := (T0.setTop (mkF m 40 #[.val (.ref a), .val (.int (0 : Int32)), .val (.int (1 : Int32)), .val (.long q), .second, .val (.int (0 : Int32)), .val (.int (0 : Int32)), .val (.int (0 : Int32)), .val (.long x0), .second] [(.int (1 : Int32)), (.int (0 : Int32))]))) (fun t ks => XS.iconst X0.here hx rfl (hb hby d6_39) ks) ?_
    refine own_st (V := (T0.setTop (mkF m 41 #[.val (.ref a), .val (.int (0 : Int32)), .val (.int (1 : Int32)), .val (.long q), .second, .val (.int (0 : Int32)), .val (.int (0 : Int32)), .val (.int (0 : Int32)), .val (.long x0), .second] [(.int ((0 : Int32) + (1 : Int32)))]))) (fun t ks => XS.iadd X0.here hx rfl (hb hby d6_40) rfl ks) ?_
    refine own_cast (g' := (mkF m 41 #[.val (.ref a), .val (.int (0 : Int32)), .val (.int (1 : Int32)), .val (.long q), .second, .val (.int (0 : Int32)), .val (.int (0 : Int32)), .val (.int (0 : Int32)), .val (.long x0), .second] [(.int (1 : Int32))])) (by rw [show ((0 : Int32) + (1 : Int32)) = (1 : Int32) from by decide]) ?_
    refine own_st (V := (T0.setTop (mkF m 43 #[.val (.ref a), .val (.int (0 : Int32)), .val (.int (1 : Int32)), .val (.long q), .second, .val (.int (1 : Int32)), .val (.int (0 : Int32)), .val (.int (0 : Int32)), .val (.long x0), .second] []))) (fun t ks => XS.istore X0.here hx rfl (hb hby d6_41) rfl (l' := #[.val (.ref a), .val (.int (0 : Int32)), .val (.int (1 : Int32)), .val (.long q), .second, .val (.int (1 : Int32)), .val (.int (0 : Int32)), .val (.int (0 : Int32)), .val (.long x0), .second]) rfl ks) ?_
    refine own_st (V := (T0.setTop (mkF m 65 #[.val (.ref a), .val (.int (0 : Int32)), .val (.int (1 : Int32)), .val (.long q), .second, .val (.int (1 : Int32)), .val (.int (0 : Int32)), .val (.int (0 : Int32)), .val (.long x0), .second] []))) (fun t ks => XS.goto X0.here hx rfl (pc0 := 43) (pc' := 65) rfl (hb hby d6_43) (by decide) (by decide) ks) ?_
    refine own_st (V := (T0.setTop (mkF m 8 #[.val (.ref a), .val (.int (0 : Int32)), .val (.int (1 : Int32)), .val (.long q), .second, .val (.int (1 : Int32)), .val (.int (0 : Int32)), .val (.int (0 : Int32)), .val (.long x0), .second] []))) (fun t ks => XS.goto X0.here hx rfl (pc0 := 65) (pc' := 8) rfl (hb hby d6_65) (by decide) (by decide) ks) ?_
    refine own_st (V := (T0.setTop (mkF m 10 #[.val (.ref a), .val (.int (0 : Int32)), .val (.int (1 : Int32)), .val (.long q), .second, .val (.int (1 : Int32)), .val (.int (0 : Int32)), .val (.int (0 : Int32)), .val (.long x0), .second] [(.int (1 : Int32))]))) (fun t ks => XS.iload X0.here hx rfl (hb hby d6_8) rfl ks) ?_
    refine own_st (V := (T0.setTop (mkF m 12 #[.val (.ref a), .val (.int (0 : Int32)), .val (.int (1 : Int32)), .val (.long q), .second, .val (.int (1 : Int32)), .val (.int (0 : Int32)), .val (.int (0 : Int32)), .val (.long x0), .second] [(.int (0 : Int32)), (.int (1 : Int32))]))) (fun t ks => XS.iload X0.here hx rfl (hb hby d6_10) rfl ks) ?_
    refine own_st (V := (T0.setTop (mkF m 68 #[.val (.ref a), .val (.int (0 : Int32)), .val (.int (1 : Int32)), .val (.long q), .second, .val (.int (1 : Int32)), .val (.int (0 : Int32)), .val (.int (0 : Int32)), .val (.long x0), .second] []))) (fun t ks => XS.icmpYes X0.here hx rfl (pc0 := 12) (pc' := 68) rfl (hb hby d6_12) rfl (XT.ii_gt_t (by decide)) (by decide) (by decide) ks) ?_
    refine own_st (V := (T0.setTop (mkF m 70 #[.val (.ref a), .val (.int (0 : Int32)), .val (.int (1 : Int32)), .val (.long q), .second, .val (.int (1 : Int32)), .val (.int (0 : Int32)), .val (.int (0 : Int32)), .val (.long x0), .second] [(.int (1 : Int32))]))) (fun t ks => XS.iload X0.here hx rfl (hb hby d6_68) rfl ks) ?_
    refine own_st (V := (T0.setTop (mkF m 71 #[.val (.ref a), .val (.int (0 : Int32)), .val (.int (1 : Int32)), .val (.long q), .second, .val (.int (1 : Int32)), .val (.int (0 : Int32)), .val (.int (0 : Int32)), .val (.long x0), .second] [(.int (1 : Int32)), (.int (1 : Int32))]))) (fun t ks => XS.iconst X0.here hx rfl (hb hby d6_70) ks) ?_
    refine own_st (V := (T0.setTop (mkF m 72 #[.val (.ref a), .val (.int (0 : Int32)), .val (.int (1 : Int32)), .val (.long q), .second, .val (.int (1 : Int32)), .val (.int (0 : Int32)), .val (.int (0 : Int32)), .val (.long x0), .second] [(.int ((1 : Int32) + (1 : Int32)))]))) (fun t ks => XS.iadd X0.here hx rfl (hb hby d6_71) rfl ks) ?_
    refine own_st (V := (T0.setTop (mkF m 73 #[.val (.ref a), .val (.int (0 : Int32)), .val (.int (1 : Int32)), .val (.long q), .second, .val (.int (1 : Int32)), .val (.int (0 : Int32)), .val (.int (0 : Int32)), .val (.long x0), .second] [(.int (-((1 : Int32) + (1 : Int32))))]))) (fun t ks => XS.ineg X0.here hx rfl (hb hby d6_72) rfl ks) ?_
    exact own_retI X0 hx hlk hret (hb hby d6_73) (by decide) (by decide) ⟨by simp [own_bs, c0_0] <;> decide, e0, rfl⟩
  · refine own_st (V := (T0.setTop (mkF m 46 #[.val (.ref a), .val (.int (0 : Int32)), .val (.int (1 : Int32)), .val (.long q), .second, .val (.int (0 : Int32)), .val (.int (0 : Int32)), .val (.int (0 : Int32)), .val (.long x0), .second] []))) (fun t ks => XS.ifYes X0.here hx rfl (pc0 := 34) (pc' := 46) rfl (hb hby d6_34) rfl (XT.ll_ge_t c0_0) (by decide) (by decide) ks) ?_
    refine own_st (V := (T0.setTop (mkF m 48 #[.val (.ref a), .val (.int (0 : Int32)), .val (.int (1 : Int32)), .val (.long q), .second, .val (.int (0 : Int32)), .val (.int (0 : Int32)), .val (.int (0 : Int32)), .val (.long x0), .second] [(.long x0)]))) (fun t ks => XS.lload X0.here hx rfl (hb hby d6_46) rfl ks) ?_
    refine own_st (V := (T0.setTop (mkF m 49 #[.val (.ref a), .val (.int (0 : Int32)), .val (.int (1 : Int32)), .val (.long q), .second, .val (.int (0 : Int32)), .val (.int (0 : Int32)), .val (.int (0 : Int32)), .val (.long x0), .second] [(.long q), (.long x0)]))) (fun t ks => XS.lloadN X0.here hx rfl (hb hby d6_48) rfl ks) ?_
    refine own_st (V := (T0.setTop (mkF m 50 #[.val (.ref a), .val (.int (0 : Int32)), .val (.int (1 : Int32)), .val (.long q), .second, .val (.int (0 : Int32)), .val (.int (0 : Int32)), .val (.int (0 : Int32)), .val (.long x0), .second] [(.int (lcmpW x0 q))]))) (fun t ks => XS.lcmp X0.here hx rfl (hb hby d6_49) rfl ks) ?_
    by_cases c0_0b : q < x0
    · refine own_st (V := (T0.setTop (mkF m 53 #[.val (.ref a), .val (.int (0 : Int32)), .val (.int (1 : Int32)), .val (.long q), .second, .val (.int (0 : Int32)), .val (.int (0 : Int32)), .val (.int (0 : Int32)), .val (.long x0), .second] []))) (fun t ks => XS.ifNo X0.here hx rfl (hb hby d6_50) rfl (XT.ll_le_f c0_0b) ks) ?_
      refine own_st (V := (T0.setTop (mkF m 55 #[.val (.ref a), .val (.int (0 : Int32)), .val (.int (1 : Int32)), .val (.long q), .second, .val (.int (0 : Int32)), .val (.int (0 : Int32)), .val (.int (0 : Int32)), .val (.long x0), .second] [(.int (0 : Int32))]))) (fun t ks => XS.iload X0.here hx rfl (hb hby d6_53) rfl ks) ?_
      refine own_st (V := (T0.setTop (mkF m 56 #[.val (.ref a), .val (.int (0 : Int32)), .val (.int (1 : Int32)), .val (.long q), .second, .val (.int (0 : Int32)), .val (.int (0 : Int32)), .val (.int (0 : Int32)), .val (.long x0), .second] [(.int (1 : Int32)), (.int (0 : Int32))]))) (fun t ks => XS.iconst X0.here hx rfl (hb hby d6_55) ks) ?_
      refine own_st (V := (T0.setTop (mkF m 57 #[.val (.ref a), .val (.int (0 : Int32)), .val (.int (1 : Int32)), .val (.long q), .second, .val (.int (0 : Int32)), .val (.int (0 : Int32)), .val (.int (0 : Int32)), .val (.long x0), .second] [(.int ((0 : Int32) - (1 : Int32)))]))) (fun t ks => XS.isub X0.here hx rfl (hb hby d6_56) rfl ks) ?_
      refine own_cast (g' := (mkF m 57 #[.val (.ref a), .val (.int (0 : Int32)), .val (.int (1 : Int32)), .val (.long q), .second, .val (.int (0 : Int32)), .val (.int (0 : Int32)), .val (.int (0 : Int32)), .val (.long x0), .second] [(.int (-1 : Int32))])) (by rw [show ((0 : Int32) - (1 : Int32)) = (-1 : Int32) from by decide]) ?_
      refine own_st (V := (T0.setTop (mkF m 59 #[.val (.ref a), .val (.int (0 : Int32)), .val (.int (1 : Int32)), .val (.long q), .second, .val (.int (0 : Int32)), .val (.int (-1 : Int32)), .val (.int (0 : Int32)), .val (.long x0), .second] []))) (fun t ks => XS.istore X0.here hx rfl (hb hby d6_57) rfl (l' := #[.val (.ref a), .val (.int (0 : Int32)), .val (.int (1 : Int32)), .val (.long q), .second, .val (.int (0 : Int32)), .val (.int (-1 : Int32)), .val (.int (0 : Int32)), .val (.long x0), .second]) rfl ks) ?_
      refine own_st (V := (T0.setTop (mkF m 65 #[.val (.ref a), .val (.int (0 : Int32)), .val (.int (1 : Int32)), .val (.long q), .second, .val (.int (0 : Int32)), .val (.int (-1 : Int32)), .val (.int (0 : Int32)), .val (.long x0), .second] []))) (fun t ks => XS.goto X0.here hx rfl (pc0 := 59) (pc' := 65) rfl (hb hby d6_59) (by decide) (by decide) ks) ?_
      refine own_st (V := (T0.setTop (mkF m 8 #[.val (.ref a), .val (.int (0 : Int32)), .val (.int (1 : Int32)), .val (.long q), .second, .val (.int (0 : Int32)), .val (.int (-1 : Int32)), .val (.int (0 : Int32)), .val (.long x0), .second] []))) (fun t ks => XS.goto X0.here hx rfl (pc0 := 65) (pc' := 8) rfl (hb hby d6_65) (by decide) (by decide) ks) ?_
      refine own_st (V := (T0.setTop (mkF m 10 #[.val (.ref a), .val (.int (0 : Int32)), .val (.int (1 : Int32)), .val (.long q), .second, .val (.int (0 : Int32)), .val (.int (-1 : Int32)), .val (.int (0 : Int32)), .val (.long x0), .second] [(.int (0 : Int32))]))) (fun t ks => XS.iload X0.here hx rfl (hb hby d6_8) rfl ks) ?_
      refine own_st (V := (T0.setTop (mkF m 12 #[.val (.ref a), .val (.int (0 : Int32)), .val (.int (1 : Int32)), .val (.long q), .second, .val (.int (0 : Int32)), .val (.int (-1 : Int32)), .val (.int (0 : Int32)), .val (.long x0), .second] [(.int (-1 : Int32)), (.int (0 : Int32))]))) (fun t ks => XS.iload X0.here hx rfl (hb hby d6_10) rfl ks) ?_
      refine own_st (V := (T0.setTop (mkF m 68 #[.val (.ref a), .val (.int (0 : Int32)), .val (.int (1 : Int32)), .val (.long q), .second, .val (.int (0 : Int32)), .val (.int (-1 : Int32)), .val (.int (0 : Int32)), .val (.long x0), .second] []))) (fun t ks => XS.icmpYes X0.here hx rfl (pc0 := 12) (pc' := 68) rfl (hb hby d6_12) rfl (XT.ii_gt_t (by decide)) (by decide) (by decide) ks) ?_
      refine own_st (V := (T0.setTop (mkF m 70 #[.val (.ref a), .val (.int (0 : Int32)), .val (.int (1 : Int32)), .val (.long q), .second, .val (.int (0 : Int32)), .val (.int (-1 : Int32)), .val (.int (0 : Int32)), .val (.long x0), .second] [(.int (0 : Int32))]))) (fun t ks => XS.iload X0.here hx rfl (hb hby d6_68) rfl ks) ?_
      refine own_st (V := (T0.setTop (mkF m 71 #[.val (.ref a), .val (.int (0 : Int32)), .val (.int (1 : Int32)), .val (.long q), .second, .val (.int (0 : Int32)), .val (.int (-1 : Int32)), .val (.int (0 : Int32)), .val (.long x0), .second] [(.int (1 : Int32)), (.int (0 : Int32))]))) (fun t ks => XS.iconst X0.here hx rfl (hb hby d6_70) ks) ?_
      refine own_st (V := (T0.setTop (mkF m 72 #[.val (.ref a), .val (.int (0 : Int32)), .val (.int (1 : Int32)), .val (.long q), .second, .val (.int (0 : Int32)), .val (.int (-1 : Int32)), .val (.int (0 : Int32)), .val (.long x0), .second] [(.int ((0 : Int32) + (1 : Int32)))]))) (fun t ks => XS.iadd X0.here hx rfl (hb hby d6_71) rfl ks) ?_
      refine own_st (V := (T0.setTop (mkF m 73 #[.val (.ref a), .val (.int (0 : Int32)), .val (.int (1 : Int32)), .val (.long q), .second, .val (.int (0 : Int32)), .val (.int (-1 : Int32)), .val (.int (0 : Int32)), .val (.long x0), .second] [(.int (-((0 : Int32) + (1 : Int32))))]))) (fun t ks => XS.ineg X0.here hx rfl (hb hby d6_72) rfl ks) ?_
      exact own_retI X0 hx hlk hret (hb hby d6_73) (by decide) (by decide) ⟨by simp [own_bs, c0_0, c0_0b] <;> decide, e0, rfl⟩
    · refine own_st (V := (T0.setTop (mkF m 62 #[.val (.ref a), .val (.int (0 : Int32)), .val (.int (1 : Int32)), .val (.long q), .second, .val (.int (0 : Int32)), .val (.int (0 : Int32)), .val (.int (0 : Int32)), .val (.long x0), .second] []))) (fun t ks => XS.ifYes X0.here hx rfl (pc0 := 50) (pc' := 62) rfl (hb hby d6_50) rfl (XT.ll_le_t c0_0b) (by decide) (by decide) ks) ?_
      refine own_st (V := (T0.setTop (mkF m 64 #[.val (.ref a), .val (.int (0 : Int32)), .val (.int (1 : Int32)), .val (.long q), .second, .val (.int (0 : Int32)), .val (.int (0 : Int32)), .val (.int (0 : Int32)), .val (.long x0), .second] [(.int (0 : Int32))]))) (fun t ks => XS.iload X0.here hx rfl (hb hby d6_62) rfl ks) ?_
      exact own_retI X0 hx hlk hret (hb hby d6_64) (by decide) (by decide) ⟨by simp [own_bs, c0_0, c0_0b], e0, rfl⟩
theorem ef_rmB2 (m : MethodId) (x0 : Nat) (x1 : Int32) (x2 : Int32) (x3 : Int64) : entryFrame m #[(.ref x0), (.int x1), (.int x2), (.long x3)] 10 = mkF m 0 #[.val (.ref x0), .val (.int x1), .val (.int x2), .val (.long x3), .second, .unset, .unset, .unset, .unset, .unset] [] := by first | (simp [entryFrame, mkF, argsToLocals, Value.category]; done) | rfl
set_option maxRecDepth 65536 in
set_option maxHeartbeats 40000000 in
theorem rmB2 (l : Launch) (Z : State) (a0 : Array Value) (hw : ∀ d ∈ tables_1, d.before a0 Z = true) (a : Nat) (k : ClassId) (q x0 x1 : Int64) (h0 : Heap) (A : Arv Z h0 a k .long (own_cap [x0, x1]) (own_pad [x0, x1]) (.long 0)) :
    OPure l Z (⟨"java/util/Arrays", "binarySearch0", "([JIIJ)I"⟩ : MethodName) jdk_65_method_56_code 10 (some .int) 0 0 #[(.ref a), (.int (0 : Int32)), (.int (2 : Int32)), (.long q)] h0 (some (.int (own_bs [x0, x1] q))) := by
  refine own_body pf_6 ?_
  intro p e s m below meth c T0 X0 hx hby hml hZ hown hnm hret hlk e0
  replace hown : s.vm.findClass "java/util/Arrays" = some m.cls := hown
  refine own_cast (ef_rmB2 m (a) ((0 : Int32)) ((2 : Int32)) (q)) ?_
  show OGoes p.tables e below _ (T0.setTop (mkF m 0 #[.val (.ref a), .val (.int (0 : Int32)), .val (.int (2 : Int32)), .val (.long q), .second, .unset, .unset, .unset, .unset, .unset] []))
  refine own_st (V := (T0.setTop (mkF m 1 #[.val (.ref a), .val (.int (0 : Int32)), .val (.int (2 : Int32)), .val (.long q), .second, .unset, .unset, .unset, .unset, .unset] [(.int (0 : Int32))]))) (fun t ks => XS.iloadN X0.here hx rfl (hb hby d6_0) rfl ks) ?_
  refine own_st (V := (T0.setTop (mkF m 3 #[.val (.ref a), .val (.int (0 : Int32)), .val (.int (2 : Int32)), .val (.long q), .second, .val (.int (0 : Int32)), .unset, .unset, .unset, .unset] []))) (fun t ks => XS.istore X0.here hx rfl (hb hby d6_1) rfl (l' := #[.val (.ref a), .val (.int (0 : Int32)), .val (.int (2 : Int32)), .val (.long q), .second, .val (.int (0 : Int32)), .unset, .unset, .unset, .unset]) rfl ks) ?_
  refine own_st (V := (T0.setTop (mkF m 4 #[.val (.ref a), .val (.int (0 : Int32)), .val (.int (2 : Int32)), .val (.long q), .second, .val (.int (0 : Int32)), .unset, .unset, .unset, .unset] [(.int (2 : Int32))]))) (fun t ks => XS.iloadN X0.here hx rfl (hb hby d6_3) rfl ks) ?_
  refine own_st (V := (T0.setTop (mkF m 5 #[.val (.ref a), .val (.int (0 : Int32)), .val (.int (2 : Int32)), .val (.long q), .second, .val (.int (0 : Int32)), .unset, .unset, .unset, .unset] [(.int (1 : Int32)), (.int (2 : Int32))]))) (fun t ks => XS.iconst X0.here hx rfl (hb hby d6_4) ks) ?_
  refine own_st (V := (T0.setTop (mkF m 6 #[.val (.ref a), .val (.int (0 : Int32)), .val (.int (2 : Int32)), .val (.long q), .second, .val (.int (0 : Int32)), .unset, .unset, .unset, .unset] [(.int ((2 : Int32) - (1 : Int32)))]))) (fun t ks => XS.isub X0.here hx rfl (hb hby d6_5) rfl ks) ?_
  refine own_st (V := (T0.setTop (mkF m 8 #[.val (.ref a), .val (.int (0 : Int32)), .val (.int (2 : Int32)), .val (.long q), .second, .val (.int (0 : Int32)), .val (.int ((2 : Int32) - (1 : Int32))), .unset, .unset, .unset] []))) (fun t ks => XS.istore X0.here hx rfl (hb hby d6_6) rfl (l' := #[.val (.ref a), .val (.int (0 : Int32)), .val (.int (2 : Int32)), .val (.long q), .second, .val (.int (0 : Int32)), .val (.int ((2 : Int32) - (1 : Int32))), .unset, .unset, .unset]) rfl ks) ?_
  refine own_cast (g' := (mkF m 8 #[.val (.ref a), .val (.int (0 : Int32)), .val (.int (2 : Int32)), .val (.long q), .second, .val (.int (0 : Int32)), .val (.int (1 : Int32)), .unset, .unset, .unset] [])) (by rw [show ((2 : Int32) - (1 : Int32)) = (1 : Int32) from by decide]) ?_
  refine own_st (V := (T0.setTop (mkF m 10 #[.val (.ref a), .val (.int (0 : Int32)), .val (.int (2 : Int32)), .val (.long q), .second, .val (.int (0 : Int32)), .val (.int (1 : Int32)), .unset, .unset, .unset] [(.int (0 : Int32))]))) (fun t ks => XS.iload X0.here hx rfl (hb hby d6_8) rfl ks) ?_
  refine own_st (V := (T0.setTop (mkF m 12 #[.val (.ref a), .val (.int (0 : Int32)), .val (.int (2 : Int32)), .val (.long q), .second, .val (.int (0 : Int32)), .val (.int (1 : Int32)), .unset, .unset, .unset] [(.int (1 : Int32)), (.int (0 : Int32))]))) (fun t ks => XS.iload X0.here hx rfl (hb hby d6_10) rfl ks) ?_
  refine own_st (V := (T0.setTop (mkF m 15 #[.val (.ref a), .val (.int (0 : Int32)), .val (.int (2 : Int32)), .val (.long q), .second, .val (.int (0 : Int32)), .val (.int (1 : Int32)), .unset, .unset, .unset] []))) (fun t ks => XS.icmpNo X0.here hx rfl (hb hby d6_12) rfl (XT.ii_gt_f (by decide)) ks) ?_
  refine own_st (V := (T0.setTop (mkF m 17 #[.val (.ref a), .val (.int (0 : Int32)), .val (.int (2 : Int32)), .val (.long q), .second, .val (.int (0 : Int32)), .val (.int (1 : Int32)), .unset, .unset, .unset] [(.int (0 : Int32))]))) (fun t ks => XS.iload X0.here hx rfl (hb hby d6_15) rfl ks) ?_
  refine own_st (V := (T0.setTop (mkF m 19 #[.val (.ref a), .val (.int (0 : Int32)), .val (.int (2 : Int32)), .val (.long q), .second, .val (.int (0 : Int32)), .val (.int (1 : Int32)), .unset, .unset, .unset] [(.int (1 : Int32)), (.int (0 : Int32))]))) (fun t ks => XS.iload X0.here hx rfl (hb hby d6_17) rfl ks) ?_
  refine own_st (V := (T0.setTop (mkF m 20 #[.val (.ref a), .val (.int (0 : Int32)), .val (.int (2 : Int32)), .val (.long q), .second, .val (.int (0 : Int32)), .val (.int (1 : Int32)), .unset, .unset, .unset] [(.int ((0 : Int32) + (1 : Int32)))]))) (fun t ks => XS.iadd X0.here hx rfl (hb hby d6_19) rfl ks) ?_
  refine own_st (V := (T0.setTop (mkF m 21 #[.val (.ref a), .val (.int (0 : Int32)), .val (.int (2 : Int32)), .val (.long q), .second, .val (.int (0 : Int32)), .val (.int (1 : Int32)), .unset, .unset, .unset] [(.int (1 : Int32)), (.int ((0 : Int32) + (1 : Int32)))]))) (fun t ks => XS.iconst X0.here hx rfl (hb hby d6_20) ks) ?_
  refine own_st (V := (T0.setTop (mkF m 22 #[.val (.ref a), .val (.int (0 : Int32)), .val (.int (2 : Int32)), .val (.long q), .second, .val (.int (0 : Int32)), .val (.int (1 : Int32)), .unset, .unset, .unset] [(.int ((((0 : Int32) + (1 : Int32)).toUInt32 >>> ((1 : Int32) &&& 31).toUInt32).toInt32))]))) (fun t ks => XS.iushr X0.here hx rfl (hb hby d6_21) rfl ks) ?_
  refine own_cast (g' := (mkF m 22 #[.val (.ref a), .val (.int (0 : Int32)), .val (.int (2 : Int32)), .val (.long q), .second, .val (.int (0 : Int32)), .val (.int (1 : Int32)), .unset, .unset, .unset] [(.int (0 : Int32))])) (by rw [show ((((0 : Int32) + (1 : Int32)).toUInt32 >>> ((1 : Int32) &&& 31).toUInt32).toInt32) = (0 : Int32) from by decide]) ?_
  refine own_st (V := (T0.setTop (mkF m 24 #[.val (.ref a), .val (.int (0 : Int32)), .val (.int (2 : Int32)), .val (.long q), .second, .val (.int (0 : Int32)), .val (.int (1 : Int32)), .val (.int (0 : Int32)), .unset, .unset] []))) (fun t ks => XS.istore X0.here hx rfl (hb hby d6_22) rfl (l' := #[.val (.ref a), .val (.int (0 : Int32)), .val (.int (2 : Int32)), .val (.long q), .second, .val (.int (0 : Int32)), .val (.int (1 : Int32)), .val (.int (0 : Int32)), .unset, .unset]) rfl ks) ?_
  refine own_st (V := (T0.setTop (mkF m 25 #[.val (.ref a), .val (.int (0 : Int32)), .val (.int (2 : Int32)), .val (.long q), .second, .val (.int (0 : Int32)), .val (.int (1 : Int32)), .val (.int (0 : Int32)), .unset, .unset] [(.ref a)]))) (fun t ks => XS.aloadN X0.here hx rfl (hb hby d6_24) rfl rfl ks) ?_
  refine own_st (V := (T0.setTop (mkF m 27 #[.val (.ref a), .val (.int (0 : Int32)), .val (.int (2 : Int32)), .val (.long q), .second, .val (.int (0 : Int32)), .val (.int (1 : Int32)), .val (.int (0 : Int32)), .unset, .unset] [(.int (0 : Int32)), (.ref a)]))) (fun t ks => XS.iload X0.here hx rfl (hb hby d6_25) rfl ks) ?_
  refine own_laload X0 hx hZ e0 A (v := (.long x0)) (by decide) (by show (0 : Int32) < 4; decide) rfl (hb hby d6_27) ?_
  show OGoes p.tables e below _ (T0.setTop (mkF m 28 #[.val (.ref a), .val (.int (0 : Int32)), .val (.int (2 : Int32)), .val (.long q), .second, .val (.int (0 : Int32)), .val (.int (1 : Int32)), .val (.int (0 : Int32)), .unset, .unset] [(.long x0)]))
  refine own_st (V := (T0.setTop (mkF m 30 #[.val (.ref a), .val (.int (0 : Int32)), .val (.int (2 : Int32)), .val (.long q), .second, .val (.int (0 : Int32)), .val (.int (1 : Int32)), .val (.int (0 : Int32)), .val (.long x0), .second] []))) (fun t ks => XS.lstore X0.here hx rfl (hb hby d6_28) rfl (l' := #[.val (.ref a), .val (.int (0 : Int32)), .val (.int (2 : Int32)), .val (.long q), .second, .val (.int (0 : Int32)), .val (.int (1 : Int32)), .val (.int (0 : Int32)), .val (.long x0), .second]) rfl ks) ?_
  refine own_st (V := (T0.setTop (mkF m 32 #[.val (.ref a), .val (.int (0 : Int32)), .val (.int (2 : Int32)), .val (.long q), .second, .val (.int (0 : Int32)), .val (.int (1 : Int32)), .val (.int (0 : Int32)), .val (.long x0), .second] [(.long x0)]))) (fun t ks => XS.lload X0.here hx rfl (hb hby d6_30) rfl ks) ?_
  refine own_st (V := (T0.setTop (mkF m 33 #[.val (.ref a), .val (.int (0 : Int32)), .val (.int (2 : Int32)), .val (.long q), .second, .val (.int (0 : Int32)), .val (.int (1 : Int32)), .val (.int (0 : Int32)), .val (.long x0), .second] [(.long q), (.long x0)]))) (fun t ks => XS.lloadN X0.here hx rfl (hb hby d6_32) rfl ks) ?_
  refine own_st (V := (T0.setTop (mkF m 34 #[.val (.ref a), .val (.int (0 : Int32)), .val (.int (2 : Int32)), .val (.long q), .second, .val (.int (0 : Int32)), .val (.int (1 : Int32)), .val (.int (0 : Int32)), .val (.long x0), .second] [(.int (lcmpW x0 q))]))) (fun t ks => XS.lcmp X0.here hx rfl (hb hby d6_33) rfl ks) ?_
  by_cases c0_0 : x0 < q
  · refine own_st (V := (T0.setTop (mkF m 37 #[.val (.ref a), .val (.int (0 : Int32)), .val (.int (2 : Int32)), .val (.long q), .second, .val (.int (0 : Int32)), .val (.int (1 : Int32)), .val (.int (0 : Int32)), .val (.long x0), .second] []))) (fun t ks => XS.ifNo X0.here hx rfl (hb hby d6_34) rfl (XT.ll_ge_f c0_0) ks) ?_
    refine own_st (V := (T0.setTop (mkF m 39 #[.val (.ref a), .val (.int (0 : Int32)), .val (.int (2 : Int32)), .val (.long q), .second, .val (.int (0 : Int32)), .val (.int (1 : Int32)), .val (.int (0 : Int32)), .val (.long x0), .second] [(.int (0 : Int32))]))) (fun t ks => XS.iload X0.here hx rfl (hb hby d6_37) rfl ks) ?_
    refine own_st (V := (T0.setTop (mkF m 40 #[.val (.ref a), .val (.int (0 : Int32)), .val (.int (2 : Int32)), .val (.long q), .second, .val (.int (0 : Int32)), .val (.int (1 : Int32)), .val (.int (0 : Int32)), .val (.long x0), .second] [(.int (1 : Int32)), (.int (0 : Int32))]))) (fun t ks => XS.iconst X0.here hx rfl (hb hby d6_39) ks) ?_
    refine own_st (V := (T0.setTop (mkF m 41 #[.val (.ref a), .val (.int (0 : Int32)), .val (.int (2 : Int32)), .val (.long q), .second, .val (.int (0 : Int32)), .val (.int (1 : Int32)), .val (.int (0 : Int32)), .val (.long x0), .second] [(.int ((0 : Int32) + (1 : Int32)))]))) (fun t ks => XS.iadd X0.here hx rfl (hb hby d6_40) rfl ks) ?_
    refine own_cast (g' := (mkF m 41 #[.val (.ref a), .val (.int (0 : Int32)), .val (.int (2 : Int32)), .val (.long q), .second, .val (.int (0 : Int32)), .val (.int (1 : Int32)), .val (.int (0 : Int32)), .val (.long x0), .second] [(.int (1 : Int32))])) (by rw [show ((0 : Int32) + (1 : Int32)) = (1 : Int32) from by decide]) ?_
    refine own_st (V := (T0.setTop (mkF m 43 #[.val (.ref a), .val (.int (0 : Int32)), .val (.int (2 : Int32)), .val (.long q), .second, .val (.int (1 : Int32)), .val (.int (1 : Int32)), .val (.int (0 : Int32)), .val (.long x0), .second] []))) (fun t ks => XS.istore X0.here hx rfl (hb hby d6_41) rfl (l' := #[.val (.ref a), .val (.int (0 : Int32)), .val (.int (2 : Int32)), .val (.long q), .second, .val (.int (1 : Int32)), .val (.int (1 : Int32)), .val (.int (0 : Int32)), .val (.long x0), .second]) rfl ks) ?_
    refine own_st (V := (T0.setTop (mkF m 65 #[.val (.ref a), .val (.int (0 : Int32)), .val (.int (2 : Int32)), .val (.long q), .second, .val (.int (1 : Int32)), .val (.int (1 : Int32)), .val (.int (0 : Int32)), .val (.long x0), .second] []))) (fun t ks => XS.goto X0.here hx rfl (pc0 := 43) (pc' := 65) rfl (hb hby d6_43) (by decide) (by decide) ks) ?_
    refine own_st (V := (T0.setTop (mkF m 8 #[.val (.ref a), .val (.int (0 : Int32)), .val (.int (2 : Int32)), .val (.long q), .second, .val (.int (1 : Int32)), .val (.int (1 : Int32)), .val (.int (0 : Int32)), .val (.long x0), .second] []))) (fun t ks => XS.goto X0.here hx rfl (pc0 := 65) (pc' := 8) rfl (hb hby d6_65) (by decide) (by decide) ks) ?_
    refine own_st (V := (T0.setTop (mkF m 10 #[.val (.ref a), .val (.int (0 : Int32)), .val (.int (2 : Int32)), .val (.long q), .second, .val (.int (1 : Int32)), .val (.int (1 : Int32)), .val (.int (0 : Int32)), .val (.long x0), .second] [(.int (1 : Int32))]))) (fun t ks => XS.iload X0.here hx rfl (hb hby d6_8) rfl ks) ?_
    refine own_st (V := (T0.setTop (mkF m 12 #[.val (.ref a), .val (.int (0 : Int32)), .val (.int (2 : Int32)), .val (.long q), .second, .val (.int (1 : Int32)), .val (.int (1 : Int32)), .val (.int (0 : Int32)), .val (.long x0), .second] [(.int (1 : Int32)), (.int (1 : Int32))]))) (fun t ks => XS.iload X0.here hx rfl (hb hby d6_10) rfl ks) ?_
    refine own_st (V := (T0.setTop (mkF m 15 #[.val (.ref a), .val (.int (0 : Int32)), .val (.int (2 : Int32)), .val (.long q), .second, .val (.int (1 : Int32)), .val (.int (1 : Int32)), .val (.int (0 : Int32)), .val (.long x0), .second] []))) (fun t ks => XS.icmpNo X0.here hx rfl (hb hby d6_12) rfl (XT.ii_gt_f (by decide)) ks) ?_
    refine own_st (V := (T0.setTop (mkF m 17 #[.val (.ref a), .val (.int (0 : Int32)), .val (.int (2 : Int32)), .val (.long q), .second, .val (.int (1 : Int32)), .val (.int (1 : Int32)), .val (.int (0 : Int32)), .val (.long x0), .second] [(.int (1 : Int32))]))) (fun t ks => XS.iload X0.here hx rfl (hb hby d6_15) rfl ks) ?_
    refine own_st (V := (T0.setTop (mkF m 19 #[.val (.ref a), .val (.int (0 : Int32)), .val (.int (2 : Int32)), .val (.long q), .second, .val (.int (1 : Int32)), .val (.int (1 : Int32)), .val (.int (0 : Int32)), .val (.long x0), .second] [(.int (1 : Int32)), (.int (1 : Int32))]))) (fun t ks => XS.iload X0.here hx rfl (hb hby d6_17) rfl ks) ?_
    refine own_st (V := (T0.setTop (mkF m 20 #[.val (.ref a), .val (.int (0 : Int32)), .val (.int (2 : Int32)), .val (.long q), .second, .val (.int (1 : Int32)), .val (.int (1 : Int32)), .val (.int (0 : Int32)), .val (.long x0), .second] [(.int ((1 : Int32) + (1 : Int32)))]))) (fun t ks => XS.iadd X0.here hx rfl (hb hby d6_19) rfl ks) ?_
    refine own_st (V := (T0.setTop (mkF m 21 #[.val (.ref a), .val (.int (0 : Int32)), .val (.int (2 : Int32)), .val (.long q), .second, .val (.int (1 : Int32)), .val (.int (1 : Int32)), .val (.int (0 : Int32)), .val (.long x0), .second] [(.int (1 : Int32)), (.int ((1 : Int32) + (1 : Int32)))]))) (fun t ks => XS.iconst X0.here hx rfl (hb hby d6_20) ks) ?_
    refine own_st (V := (T0.setTop (mkF m 22 #[.val (.ref a), .val (.int (0 : Int32)), .val (.int (2 : Int32)), .val (.long q), .second, .val (.int (1 : Int32)), .val (.int (1 : Int32)), .val (.int (0 : Int32)), .val (.long x0), .second] [(.int ((((1 : Int32) + (1 : Int32)).toUInt32 >>> ((1 : Int32) &&& 31).toUInt32).toInt32))]))) (fun t ks => XS.iushr X0.here hx rfl (hb hby d6_21) rfl ks) ?_
    refine own_cast (g' := (mkF m 22 #[.val (.ref a), .val (.int (0 : Int32)), .val (.int (2 : Int32)), .val (.long q), .second, .val (.int (1 : Int32)), .val (.int (1 : Int32)), .val (.int (0 : Int32)), .val (.long x0), .second] [(.int (1 : Int32))])) (by rw [show ((((1 : Int32) + (1 : Int32)).toUInt32 >>> ((1 : Int32) &&& 31).toUInt32).toInt32) = (1 : Int32) from by decide]) ?_
    refine own_st (V := (T0.setTop (mkF m 24 #[.val (.ref a), .val (.int (0 : Int32)), .val (.int (2 : Int32)), .val (.long q), .second, .val (.int (1 : Int32)), .val (.int (1 : Int32)), .val (.int (1 : Int32)), .val (.long x0), .second] []))) (fun t ks => XS.istore X0.here hx rfl (hb hby d6_22) rfl (l' := #[.val (.ref a), .val (.int (0 : Int32)), .val (.int (2 : Int32)), .val (.long q), .second, .val (.int (1 : Int32)), .val (.int (1 : Int32)), .val (.int (1 : Int32)), .val (.long x0), .second]) rfl ks) ?_
    refine own_st (V := (T0.setTop (mkF m 25 #[.val (.ref a), .val (.int (0 : Int32)), .val (.int (2 : Int32)), .val (.long q), .second, .val (.int (1 : Int32)), .val (.int (1 : Int32)), .val (.int (1 : Int32)), .val (.long x0), .second] [(.ref a)]))) (fun t ks => XS.aloadN X0.here hx rfl (hb hby d6_24) rfl rfl ks) ?_
    refine own_st (V := (T0.setTop (mkF m 27 #[.val (.ref a), .val (.int (0 : Int32)), .val (.int (2 : Int32)), .val (.long q), .second, .val (.int (1 : Int32)), .val (.int (1 : Int32)), .val (.int (1 : Int32)), .val (.long x0), .second] [(.int (1 : Int32)), (.ref a)]))) (fun t ks => XS.iload X0.here hx rfl (hb hby d6_25) rfl ks) ?_
    refine own_laload X0 hx hZ e0 A (v := (.long x1)) (by decide) (by show (1 : Int32) < 4; decide) rfl (hb hby d6_27) ?_
    show OGoes p.tables e below _ (T0.setTop (mkF m 28 #[.val (.ref a), .val (.int (0 : Int32)), .val (.int (2 : Int32)), .val (.long q), .second, .val (.int (1 : Int32)), .val (.int (1 : Int32)), .val (.int (1 : Int32)), .val (.long x0), .second] [(.long x1)]))
    refine own_st (V := (T0.setTop (mkF m 30 #[.val (.ref a), .val (.int (0 : Int32)), .val (.int (2 : Int32)), .val (.long q), .second, .val (.int (1 : Int32)), .val (.int (1 : Int32)), .val (.int (1 : Int32)), .val (.long x1), .second] []))) (fun t ks => XS.lstore X0.here hx rfl (hb hby d6_28) rfl (l' := #[.val (.ref a), .val (.int (0 : Int32)), .val (.int (2 : Int32)), .val (.long q), .second, .val (.int (1 : Int32)), .val (.int (1 : Int32)), .val (.int (1 : Int32)), .val (.long x1), .second]) rfl ks) ?_
    refine own_st (V := (T0.setTop (mkF m 32 #[.val (.ref a), .val (.int (0 : Int32)), .val (.int (2 : Int32)), .val (.long q), .second, .val (.int (1 : Int32)), .val (.int (1 : Int32)), .val (.int (1 : Int32)), .val (.long x1), .second] [(.long x1)]))) (fun t ks => XS.lload X0.here hx rfl (hb hby d6_30) rfl ks) ?_
    refine own_st (V := (T0.setTop (mkF m 33 #[.val (.ref a), .val (.int (0 : Int32)), .val (.int (2 : Int32)), .val (.long q), .second, .val (.int (1 : Int32)), .val (.int (1 : Int32)), .val (.int (1 : Int32)), .val (.long x1), .second] [(.long q), (.long x1)]))) (fun t ks => XS.lloadN X0.here hx rfl (hb hby d6_32) rfl ks) ?_
    refine own_st (V := (T0.setTop (mkF m 34 #[.val (.ref a), .val (.int (0 : Int32)), .val (.int (2 : Int32)), .val (.long q), .second, .val (.int (1 : Int32)), .val (.int (1 : Int32)), .val (.int (1 : Int32)), .val (.long x1), .second] [(.int (lcmpW x1 q))]))) (fun t ks => XS.lcmp X0.here hx rfl (hb hby d6_33) rfl ks) ?_
    by_cases c1_1 : x1 < q
    · refine own_st (V := (T0.setTop (mkF m 37 #[.val (.ref a), .val (.int (0 : Int32)), .val (.int (2 : Int32)), .val (.long q), .second, .val (.int (1 : Int32)), .val (.int (1 : Int32)), .val (.int (1 : Int32)), .val (.long x1), .second] []))) (fun t ks => XS.ifNo X0.here hx rfl (hb hby d6_34) rfl (XT.ll_ge_f c1_1) ks) ?_
      refine own_st (V := (T0.setTop (mkF m 39 #[.val (.ref a), .val (.int (0 : Int32)), .val (.int (2 : Int32)), .val (.long q), .second, .val (.int (1 : Int32)), .val (.int (1 : Int32)), .val (.int (1 : Int32)), .val (.long x1), .second] [(.int (1 : Int32))]))) (fun t ks => XS.iload X0.here hx rfl (hb hby d6_37) rfl ks) ?_
      refine own_st (V := (T0.setTop (mkF m 40 #[.val (.ref a), .val (.int (0 : Int32)), .val (.int (2 : Int32)), .val (.long q), .second, .val (.int (1 : Int32)), .val (.int (1 : Int32)), .val (.int (1 : Int32)), .val (.long x1), .second] [(.int (1 : Int32)), (.int (1 : Int32))]))) (fun t ks => XS.iconst X0.here hx rfl (hb hby d6_39) ks) ?_
      refine own_st (V := (T0.setTop (mkF m 41 #[.val (.ref a), .val (.int (0 : Int32)), .val (.int (2 : Int32)), .val (.long q), .second, .val (.int (1 : Int32)), .val (.int (1 : Int32)), .val (.int (1 : Int32)), .val (.long x1), .second] [(.int ((1 : Int32) + (1 : Int32)))]))) (fun t ks => XS.iadd X0.here hx rfl (hb hby d6_40) rfl ks) ?_
      refine own_cast (g' := (mkF m 41 #[.val (.ref a), .val (.int (0 : Int32)), .val (.int (2 : Int32)), .val (.long q), .second, .val (.int (1 : Int32)), .val (.int (1 : Int32)), .val (.int (1 : Int32)), .val (.long x1), .second] [(.int (2 : Int32))])) (by rw [show ((1 : Int32) + (1 : Int32)) = (2 : Int32) from by decide]) ?_
      refine own_st (V := (T0.setTop (mkF m 43 #[.val (.ref a), .val (.int (0 : Int32)), .val (.int (2 : Int32)), .val (.long q), .second, .val (.int (2 : Int32)), .val (.int (1 : Int32)), .val (.int (1 : Int32)), .val (.long x1), .second] []))) (fun t ks => XS.istore X0.here hx rfl (hb hby d6_41) rfl (l' := #[.val (.ref a), .val (.int (0 : Int32)), .val (.int (2 : Int32)), .val (.long q), .second, .val (.int (2 : Int32)), .val (.int (1 : Int32)), .val (.int (1 : Int32)), .val (.long x1), .second]) rfl ks) ?_
      refine own_st (V := (T0.setTop (mkF m 65 #[.val (.ref a), .val (.int (0 : Int32)), .val (.int (2 : Int32)), .val (.long q), .second, .val (.int (2 : Int32)), .val (.int (1 : Int32)), .val (.int (1 : Int32)), .val (.long x1), .second] []))) (fun t ks => XS.goto X0.here hx rfl (pc0 := 43) (pc' := 65) rfl (hb hby d6_43) (by decide) (by decide) ks) ?_
      refine own_st (V := (T0.setTop (mkF m 8 #[.val (.ref a), .val (.int (0 : Int32)), .val (.int (2 : Int32)), .val (.long q), .second, .val (.int (2 : Int32)), .val (.int (1 : Int32)), .val (.int (1 : Int32)), .val (.long x1), .second] []))) (fun t ks => XS.goto X0.here hx rfl (pc0 := 65) (pc' := 8) rfl (hb hby d6_65) (by decide) (by decide) ks) ?_
      refine own_st (V := (T0.setTop (mkF m 10 #[.val (.ref a), .val (.int (0 : Int32)), .val (.int (2 : Int32)), .val (.long q), .second, .val (.int (2 : Int32)), .val (.int (1 : Int32)), .val (.int (1 : Int32)), .val (.long x1), .second] [(.int (2 : Int32))]))) (fun t ks => XS.iload X0.here hx rfl (hb hby d6_8) rfl ks) ?_
      refine own_st (V := (T0.setTop (mkF m 12 #[.val (.ref a), .val (.int (0 : Int32)), .val (.int (2 : Int32)), .val (.long q), .second, .val (.int (2 : Int32)), .val (.int (1 : Int32)), .val (.int (1 : Int32)), .val (.long x1), .second] [(.int (1 : Int32)), (.int (2 : Int32))]))) (fun t ks => XS.iload X0.here hx rfl (hb hby d6_10) rfl ks) ?_
      refine own_st (V := (T0.setTop (mkF m 68 #[.val (.ref a), .val (.int (0 : Int32)), .val (.int (2 : Int32)), .val (.long q), .second, .val (.int (2 : Int32)), .val (.int (1 : Int32)), .val (.int (1 : Int32)), .val (.long x1), .second] []))) (fun t ks => XS.icmpYes X0.here hx rfl (pc0 := 12) (pc' := 68) rfl (hb hby d6_12) rfl (XT.ii_gt_t (by decide)) (by decide) (by decide) ks) ?_
      refine own_st (V := (T0.setTop (mkF m 70 #[.val (.ref a), .val (.int (0 : Int32)), .val (.int (2 : Int32)), .val (.long q), .second, .val (.int (2 : Int32)), .val (.int (1 : Int32)), .val (.int (1 : Int32)), .val (.long x1), .second] [(.int (2 : Int32))]))) (fun t ks => XS.iload X0.here hx rfl (hb hby d6_68) rfl ks) ?_
      refine own_st (V := (T0.setTop (mkF m 71 #[.val (.ref a), .val (.int (0 : Int32)), .val (.int (2 : Int32)), .val (.long q), .second, .val (.int (2 : Int32)), .val (.int (1 : Int32)), .val (.int (1 : Int32)), .val (.long x1), .second] [(.int (1 : Int32)), (.int (2 : Int32))]))) (fun t ks => XS.iconst X0.here hx rfl (hb hby d6_70) ks) ?_
      refine own_st (V := (T0.setTop (mkF m 72 #[.val (.ref a), .val (.int (0 : Int32)), .val (.int (2 : Int32)), .val (.long q), .second, .val (.int (2 : Int32)), .val (.int (1 : Int32)), .val (.int (1 : Int32)), .val (.long x1), .second] [(.int ((2 : Int32) + (1 : Int32)))]))) (fun t ks => XS.iadd X0.here hx rfl (hb hby d6_71) rfl ks) ?_
      refine own_st (V := (T0.setTop (mkF m 73 #[.val (.ref a), .val (.int (0 : Int32)), .val (.int (2 : Int32)), .val (.long q), .second, .val (.int (2 : Int32)), .val (.int (1 : Int32)), .val (.int (1 : Int32)), .val (.long x1), .second] [(.int (-((2 : Int32) + (1 : Int32))))]))) (fun t ks => XS.ineg X0.here hx rfl (hb hby d6_72) rfl ks) ?_
      exact own_retI X0 hx hlk hret (hb hby d6_73) (by decide) (by decide) ⟨by simp [own_bs, c0_0, c1_1] <;> decide, e0, rfl⟩
    · refine own_st (V := (T0.setTop (mkF m 46 #[.val (.ref a), .val (.int (0 : Int32)), .val (.int (2 : Int32)), .val (.long q), .second, .val (.int (1 : Int32)), .val (.int (1 : Int32)), .val (.int (1 : Int32)), .val (.long x1), .second] []))) (fun t ks => XS.ifYes X0.here hx rfl (pc0 := 34) (pc' := 46) rfl (hb hby d6_34) rfl (XT.ll_ge_t c1_1) (by decide) (by decide) ks) ?_
      refine own_st (V := (T0.setTop (mkF m 48 #[.val (.ref a), .val (.int (0 : Int32)), .val (.int (2 : Int32)), .val (.long q), .second, .val (.int (1 : Int32)), .val (.int (1 : Int32)), .val (.int (1 : Int32)), .val (.long x1), .second] [(.long x1)]))) (fun t ks => XS.lload X0.here hx rfl (hb hby d6_46) rfl ks) ?_
      refine own_st (V := (T0.setTop (mkF m 49 #[.val (.ref a), .val (.int (0 : Int32)), .val (.int (2 : Int32)), .val (.long q), .second, .val (.int (1 : Int32)), .val (.int (1 : Int32)), .val (.int (1 : Int32)), .val (.long x1), .second] [(.long q), (.long x1)]))) (fun t ks => XS.lloadN X0.here hx rfl (hb hby d6_48) rfl ks) ?_
      refine own_st (V := (T0.setTop (mkF m 50 #[.val (.ref a), .val (.int (0 : Int32)), .val (.int (2 : Int32)), .val (.long q), .second, .val (.int (1 : Int32)), .val (.int (1 : Int32)), .val (.int (1 : Int32)), .val (.long x1), .second] [(.int (lcmpW x1 q))]))) (fun t ks => XS.lcmp X0.here hx rfl (hb hby d6_49) rfl ks) ?_
      by_cases c1_1b : q < x1
      · refine own_st (V := (T0.setTop (mkF m 53 #[.val (.ref a), .val (.int (0 : Int32)), .val (.int (2 : Int32)), .val (.long q), .second, .val (.int (1 : Int32)), .val (.int (1 : Int32)), .val (.int (1 : Int32)), .val (.long x1), .second] []))) (fun t ks => XS.ifNo X0.here hx rfl (hb hby d6_50) rfl (XT.ll_le_f c1_1b) ks) ?_
        refine own_st (V := (T0.setTop (mkF m 55 #[.val (.ref a), .val (.int (0 : Int32)), .val (.int (2 : Int32)), .val (.long q), .second, .val (.int (1 : Int32)), .val (.int (1 : Int32)), .val (.int (1 : Int32)), .val (.long x1), .second] [(.int (1 : Int32))]))) (fun t ks => XS.iload X0.here hx rfl (hb hby d6_53) rfl ks) ?_
        refine own_st (V := (T0.setTop (mkF m 56 #[.val (.ref a), .val (.int (0 : Int32)), .val (.int (2 : Int32)), .val (.long q), .second, .val (.int (1 : Int32)), .val (.int (1 : Int32)), .val (.int (1 : Int32)), .val (.long x1), .second] [(.int (1 : Int32)), (.int (1 : Int32))]))) (fun t ks => XS.iconst X0.here hx rfl (hb hby d6_55) ks) ?_
        refine own_st (V := (T0.setTop (mkF m 57 #[.val (.ref a), .val (.int (0 : Int32)), .val (.int (2 : Int32)), .val (.long q), .second, .val (.int (1 : Int32)), .val (.int (1 : Int32)), .val (.int (1 : Int32)), .val (.long x1), .second] [(.int ((1 : Int32) - (1 : Int32)))]))) (fun t ks => XS.isub X0.here hx rfl (hb hby d6_56) rfl ks) ?_
        refine own_cast (g' := (mkF m 57 #[.val (.ref a), .val (.int (0 : Int32)), .val (.int (2 : Int32)), .val (.long q), .second, .val (.int (1 : Int32)), .val (.int (1 : Int32)), .val (.int (1 : Int32)), .val (.long x1), .second] [(.int (0 : Int32))])) (by rw [show ((1 : Int32) - (1 : Int32)) = (0 : Int32) from by decide]) ?_
        refine own_st (V := (T0.setTop (mkF m 59 #[.val (.ref a), .val (.int (0 : Int32)), .val (.int (2 : Int32)), .val (.long q), .second, .val (.int (1 : Int32)), .val (.int (0 : Int32)), .val (.int (1 : Int32)), .val (.long x1), .second] []))) (fun t ks => XS.istore X0.here hx rfl (hb hby d6_57) rfl (l' := #[.val (.ref a), .val (.int (0 : Int32)), .val (.int (2 : Int32)), .val (.long q), .second, .val (.int (1 : Int32)), .val (.int (0 : Int32)), .val (.int (1 : Int32)), .val (.long x1), .second]) rfl ks) ?_
        refine own_st (V := (T0.setTop (mkF m 65 #[.val (.ref a), .val (.int (0 : Int32)), .val (.int (2 : Int32)), .val (.long q), .second, .val (.int (1 : Int32)), .val (.int (0 : Int32)), .val (.int (1 : Int32)), .val (.long x1), .second] []))) (fun t ks => XS.goto X0.here hx rfl (pc0 := 59) (pc' := 65) rfl (hb hby d6_59) (by decide) (by decide) ks) ?_
        refine own_st (V := (T0.setTop (mkF m 8 #[.val (.ref a), .val (.int (0 : Int32)), .val (.int (2 : Int32)), .val (.long q), .second, .val (.int (1 : Int32)), .val (.int (0 : Int32)), .val (.int (1 : Int32)), .val (.long x1), .second] []))) (fun t ks => XS.goto X0.here hx rfl (pc0 := 65) (pc' := 8) rfl (hb hby d6_65) (by decide) (by decide) ks) ?_
        refine own_st (V := (T0.setTop (mkF m 10 #[.val (.ref a), .val (.int (0 : Int32)), .val (.int (2 : Int32)), .val (.long q), .second, .val (.int (1 : Int32)), .val (.int (0 : Int32)), .val (.int (1 : Int32)), .val (.long x1), .second] [(.int (1 : Int32))]))) (fun t ks => XS.iload X0.here hx rfl (hb hby d6_8) rfl ks) ?_
        refine own_st (V := (T0.setTop (mkF m 12 #[.val (.ref a), .val (.int (0 : Int32)), .val (.int (2 : Int32)), .val (.long q), .second, .val (.int (1 : Int32)), .val (.int (0 : Int32)), .val (.int (1 : Int32)), .val (.long x1), .second] [(.int (0 : Int32)), (.int (1 : Int32))]))) (fun t ks => XS.iload X0.here hx rfl (hb hby d6_10) rfl ks) ?_
        refine own_st (V := (T0.setTop (mkF m 68 #[.val (.ref a), .val (.int (0 : Int32)), .val (.int (2 : Int32)), .val (.long q), .second, .val (.int (1 : Int32)), .val (.int (0 : Int32)), .val (.int (1 : Int32)), .val (.long x1), .second] []))) (fun t ks => XS.icmpYes X0.here hx rfl (pc0 := 12) (pc' := 68) rfl (hb hby d6_12) rfl (XT.ii_gt_t (by decide)) (by decide) (by decide) ks) ?_
        refine own_st (V := (T0.setTop (mkF m 70 #[.val (.ref a), .val (.int (0 : Int32)), .val (.int (2 : Int32)), .val (.long q), .second, .val (.int (1 : Int32)), .val (.int (0 : Int32)), .val (.int (1 : Int32)), .val (.long x1), .second] [(.int (1 : Int32))]))) (fun t ks => XS.iload X0.here hx rfl (hb hby d6_68) rfl ks) ?_
        refine own_st (V := (T0.setTop (mkF m 71 #[.val (.ref a), .val (.int (0 : Int32)), .val (.int (2 : Int32)), .val (.long q), .second, .val (.int (1 : Int32)), .val (.int (0 : Int32)), .val (.int (1 : Int32)), .val (.long x1), .second] [(.int (1 : Int32)), (.int (1 : Int32))]))) (fun t ks => XS.iconst X0.here hx rfl (hb hby d6_70) ks) ?_
        refine own_st (V := (T0.setTop (mkF m 72 #[.val (.ref a), .val (.int (0 : Int32)), .val (.int (2 : Int32)), .val (.long q), .second, .val (.int (1 : Int32)), .val (.int (0 : Int32)), .val (.int (1 : Int32)), .val (.long x1), .second] [(.int ((1 : Int32) + (1 : Int32)))]))) (fun t ks => XS.iadd X0.here hx rfl (hb hby d6_71) rfl ks) ?_
        refine own_st (V := (T0.setTop (mkF m 73 #[.val (.ref a), .val (.int (0 : Int32)), .val (.int (2 : Int32)), .val (.long q), .second, .val (.int (1 : Int32)), .val (.int (0 : Int32)), .val (.int (1 : Int32)), .val (.long x1), .second] [(.int (-((1 : Int32) + (1 : Int32))))]))) (fun t ks => XS.ineg X0.here hx rfl (hb hby d6_72) rfl ks) ?_
        exact own_retI X0 hx hlk hret (hb hby d6_73) (by decide) (by decide) ⟨by simp [own_bs, c0_0, c1_1, c1_1b] <;> decide, e0, rfl⟩
      · refine own_st (V := (T0.setTop (mkF m 62 #[.val (.ref a), .val (.int (0 : Int32)), .val (.int (2 : Int32)), .val (.long q), .second, .val (.int (1 : Int32)), .val (.int (1 : Int32)), .val (.int (1 : Int32)), .val (.long x1), .second] []))) (fun t ks => XS.ifYes X0.here hx rfl (pc0 := 50) (pc' := 62) rfl (hb hby d6_50) rfl (XT.ll_le_t c1_1b) (by decide) (by decide) ks) ?_
        refine own_st (V := (T0.setTop (mkF m 64 #[.val (.ref a), .val (.int (0 : Int32)), .val (.int (2 : Int32)), .val (.long q), .second, .val (.int (1 : Int32)), .val (.int (1 : Int32)), .val (.int (1 : Int32)), .val (.long x1), .second] [(.int (1 : Int32))]))) (fun t ks => XS.iload X0.here hx rfl (hb hby d6_62) rfl ks) ?_
        exact own_retI X0 hx hlk hret (hb hby d6_64) (by decide) (by decide) ⟨by simp [own_bs, c0_0, c1_1, c1_1b], e0, rfl⟩
  · refine own_st (V := (T0.setTop (mkF m 46 #[.val (.ref a), .val (.int (0 : Int32)), .val (.int (2 : Int32)), .val (.long q), .second, .val (.int (0 : Int32)), .val (.int (1 : Int32)), .val (.int (0 : Int32)), .val (.long x0), .second] []))) (fun t ks => XS.ifYes X0.here hx rfl (pc0 := 34) (pc' := 46) rfl (hb hby d6_34) rfl (XT.ll_ge_t c0_0) (by decide) (by decide) ks) ?_
    refine own_st (V := (T0.setTop (mkF m 48 #[.val (.ref a), .val (.int (0 : Int32)), .val (.int (2 : Int32)), .val (.long q), .second, .val (.int (0 : Int32)), .val (.int (1 : Int32)), .val (.int (0 : Int32)), .val (.long x0), .second] [(.long x0)]))) (fun t ks => XS.lload X0.here hx rfl (hb hby d6_46) rfl ks) ?_
    refine own_st (V := (T0.setTop (mkF m 49 #[.val (.ref a), .val (.int (0 : Int32)), .val (.int (2 : Int32)), .val (.long q), .second, .val (.int (0 : Int32)), .val (.int (1 : Int32)), .val (.int (0 : Int32)), .val (.long x0), .second] [(.long q), (.long x0)]))) (fun t ks => XS.lloadN X0.here hx rfl (hb hby d6_48) rfl ks) ?_
    refine own_st (V := (T0.setTop (mkF m 50 #[.val (.ref a), .val (.int (0 : Int32)), .val (.int (2 : Int32)), .val (.long q), .second, .val (.int (0 : Int32)), .val (.int (1 : Int32)), .val (.int (0 : Int32)), .val (.long x0), .second] [(.int (lcmpW x0 q))]))) (fun t ks => XS.lcmp X0.here hx rfl (hb hby d6_49) rfl ks) ?_
    by_cases c0_0b : q < x0
    · refine own_st (V := (T0.setTop (mkF m 53 #[.val (.ref a), .val (.int (0 : Int32)), .val (.int (2 : Int32)), .val (.long q), .second, .val (.int (0 : Int32)), .val (.int (1 : Int32)), .val (.int (0 : Int32)), .val (.long x0), .second] []))) (fun t ks => XS.ifNo X0.here hx rfl (hb hby d6_50) rfl (XT.ll_le_f c0_0b) ks) ?_
      refine own_st (V := (T0.setTop (mkF m 55 #[.val (.ref a), .val (.int (0 : Int32)), .val (.int (2 : Int32)), .val (.long q), .second, .val (.int (0 : Int32)), .val (.int (1 : Int32)), .val (.int (0 : Int32)), .val (.long x0), .second] [(.int (0 : Int32))]))) (fun t ks => XS.iload X0.here hx rfl (hb hby d6_53) rfl ks) ?_
      refine own_st (V := (T0.setTop (mkF m 56 #[.val (.ref a), .val (.int (0 : Int32)), .val (.int (2 : Int32)), .val (.long q), .second, .val (.int (0 : Int32)), .val (.int (1 : Int32)), .val (.int (0 : Int32)), .val (.long x0), .second] [(.int (1 : Int32)), (.int (0 : Int32))]))) (fun t ks => XS.iconst X0.here hx rfl (hb hby d6_55) ks) ?_
      refine own_st (V := (T0.setTop (mkF m 57 #[.val (.ref a), .val (.int (0 : Int32)), .val (.int (2 : Int32)), .val (.long q), .second, .val (.int (0 : Int32)), .val (.int (1 : Int32)), .val (.int (0 : Int32)), .val (.long x0), .second] [(.int ((0 : Int32) - (1 : Int32)))]))) (fun t ks => XS.isub X0.here hx rfl (hb hby d6_56) rfl ks) ?_
      refine own_cast (g' := (mkF m 57 #[.val (.ref a), .val (.int (0 : Int32)), .val (.int (2 : Int32)), .val (.long q), .second, .val (.int (0 : Int32)), .val (.int (1 : Int32)), .val (.int (0 : Int32)), .val (.long x0), .second] [(.int (-1 : Int32))])) (by rw [show ((0 : Int32) - (1 : Int32)) = (-1 : Int32) from by decide]) ?_
      refine own_st (V := (T0.setTop (mkF m 59 #[.val (.ref a), .val (.int (0 : Int32)), .val (.int (2 : Int32)), .val (.long q), .second, .val (.int (0 : Int32)), .val (.int (-1 : Int32)), .val (.int (0 : Int32)), .val (.long x0), .second] []))) (fun t ks => XS.istore X0.here hx rfl (hb hby d6_57) rfl (l' := #[.val (.ref a), .val (.int (0 : Int32)), .val (.int (2 : Int32)), .val (.long q), .second, .val (.int (0 : Int32)), .val (.int (-1 : Int32)), .val (.int (0 : Int32)), .val (.long x0), .second]) rfl ks) ?_
      refine own_st (V := (T0.setTop (mkF m 65 #[.val (.ref a), .val (.int (0 : Int32)), .val (.int (2 : Int32)), .val (.long q), .second, .val (.int (0 : Int32)), .val (.int (-1 : Int32)), .val (.int (0 : Int32)), .val (.long x0), .second] []))) (fun t ks => XS.goto X0.here hx rfl (pc0 := 59) (pc' := 65) rfl (hb hby d6_59) (by decide) (by decide) ks) ?_
      refine own_st (V := (T0.setTop (mkF m 8 #[.val (.ref a), .val (.int (0 : Int32)), .val (.int (2 : Int32)), .val (.long q), .second, .val (.int (0 : Int32)), .val (.int (-1 : Int32)), .val (.int (0 : Int32)), .val (.long x0), .second] []))) (fun t ks => XS.goto X0.here hx rfl (pc0 := 65) (pc' := 8) rfl (hb hby d6_65) (by decide) (by decide) ks) ?_
      refine own_st (V := (T0.setTop (mkF m 10 #[.val (.ref a), .val (.int (0 : Int32)), .val (.int (2 : Int32)), .val (.long q), .second, .val (.int (0 : Int32)), .val (.int (-1 : Int32)), .val (.int (0 : Int32)), .val (.long x0), .second] [(.int (0 : Int32))]))) (fun t ks => XS.iload X0.here hx rfl (hb hby d6_8) rfl ks) ?_
      refine own_st (V := (T0.setTop (mkF m 12 #[.val (.ref a), .val (.int (0 : Int32)), .val (.int (2 : Int32)), .val (.long q), .second, .val (.int (0 : Int32)), .val (.int (-1 : Int32)), .val (.int (0 : Int32)), .val (.long x0), .second] [(.int (-1 : Int32)), (.int (0 : Int32))]))) (fun t ks => XS.iload X0.here hx rfl (hb hby d6_10) rfl ks) ?_
      refine own_st (V := (T0.setTop (mkF m 68 #[.val (.ref a), .val (.int (0 : Int32)), .val (.int (2 : Int32)), .val (.long q), .second, .val (.int (0 : Int32)), .val (.int (-1 : Int32)), .val (.int (0 : Int32)), .val (.long x0), .second] []))) (fun t ks => XS.icmpYes X0.here hx rfl (pc0 := 12) (pc' := 68) rfl (hb hby d6_12) rfl (XT.ii_gt_t (by decide)) (by decide) (by decide) ks) ?_
      refine own_st (V := (T0.setTop (mkF m 70 #[.val (.ref a), .val (.int (0 : Int32)), .val (.int (2 : Int32)), .val (.long q), .second, .val (.int (0 : Int32)), .val (.int (-1 : Int32)), .val (.int (0 : Int32)), .val (.long x0), .second] [(.int (0 : Int32))]))) (fun t ks => XS.iload X0.here hx rfl (hb hby d6_68) rfl ks) ?_
      refine own_st (V := (T0.setTop (mkF m 71 #[.val (.ref a), .val (.int (0 : Int32)), .val (.int (2 : Int32)), .val (.long q), .second, .val (.int (0 : Int32)), .val (.int (-1 : Int32)), .val (.int (0 : Int32)), .val (.long x0), .second] [(.int (1 : Int32)), (.int (0 : Int32))]))) (fun t ks => XS.iconst X0.here hx rfl (hb hby d6_70) ks) ?_
      refine own_st (V := (T0.setTop (mkF m 72 #[.val (.ref a), .val (.int (0 : Int32)), .val (.int (2 : Int32)), .val (.long q), .second, .val (.int (0 : Int32)), .val (.int (-1 : Int32)), .val (.int (0 : Int32)), .val (.long x0), .second] [(.int ((0 : Int32) + (1 : Int32)))]))) (fun t ks => XS.iadd X0.here hx rfl (hb hby d6_71) rfl ks) ?_
      refine own_st (V := (T0.setTop (mkF m 73 #[.val (.ref a), .val (.int (0 : Int32)), .val (.int (2 : Int32)), .val (.long q), .second, .val (.int (0 : Int32)), .val (.int (-1 : Int32)), .val (.int (0 : Int32)), .val (.long x0), .second] [(.int (-((0 : Int32) + (1 : Int32))))]))) (fun t ks => XS.ineg X0.here hx rfl (hb hby d6_72) rfl ks) ?_
      exact own_retI X0 hx hlk hret (hb hby d6_73) (by decide) (by decide) ⟨by simp [own_bs, c0_0, c0_0b] <;> decide, e0, rfl⟩
    · refine own_st (V := (T0.setTop (mkF m 62 #[.val (.ref a), .val (.int (0 : Int32)), .val (.int (2 : Int32)), .val (.long q), .second, .val (.int (0 : Int32)), .val (.int (1 : Int32)), .val (.int (0 : Int32)), .val (.long x0), .second] []))) (fun t ks => XS.ifYes X0.here hx rfl (pc0 := 50) (pc' := 62) rfl (hb hby d6_50) rfl (XT.ll_le_t c0_0b) (by decide) (by decide) ks) ?_
      refine own_st (V := (T0.setTop (mkF m 64 #[.val (.ref a), .val (.int (0 : Int32)), .val (.int (2 : Int32)), .val (.long q), .second, .val (.int (0 : Int32)), .val (.int (1 : Int32)), .val (.int (0 : Int32)), .val (.long x0), .second] [(.int (0 : Int32))]))) (fun t ks => XS.iload X0.here hx rfl (hb hby d6_62) rfl ks) ?_
      exact own_retI X0 hx hlk hret (hb hby d6_64) (by decide) (by decide) ⟨by simp [own_bs, c0_0, c0_0b], e0, rfl⟩
theorem ef_rmB3 (m : MethodId) (x0 : Nat) (x1 : Int32) (x2 : Int32) (x3 : Int64) : entryFrame m #[(.ref x0), (.int x1), (.int x2), (.long x3)] 10 = mkF m 0 #[.val (.ref x0), .val (.int x1), .val (.int x2), .val (.long x3), .second, .unset, .unset, .unset, .unset, .unset] [] := by first | (simp [entryFrame, mkF, argsToLocals, Value.category]; done) | rfl
set_option maxRecDepth 65536 in
set_option maxHeartbeats 40000000 in
theorem rmB3 (l : Launch) (Z : State) (a0 : Array Value) (hw : ∀ d ∈ tables_1, d.before a0 Z = true) (a : Nat) (k : ClassId) (q x0 x1 x2 : Int64) (h0 : Heap) (A : Arv Z h0 a k .long (own_cap [x0, x1, x2]) (own_pad [x0, x1, x2]) (.long 0)) :
    OPure l Z (⟨"java/util/Arrays", "binarySearch0", "([JIIJ)I"⟩ : MethodName) jdk_65_method_56_code 10 (some .int) 0 0 #[(.ref a), (.int (0 : Int32)), (.int (3 : Int32)), (.long q)] h0 (some (.int (own_bs [x0, x1, x2] q))) := by
  refine own_body pf_6 ?_
  intro p e s m below meth c T0 X0 hx hby hml hZ hown hnm hret hlk e0
  replace hown : s.vm.findClass "java/util/Arrays" = some m.cls := hown
  refine own_cast (ef_rmB3 m (a) ((0 : Int32)) ((3 : Int32)) (q)) ?_
  show OGoes p.tables e below _ (T0.setTop (mkF m 0 #[.val (.ref a), .val (.int (0 : Int32)), .val (.int (3 : Int32)), .val (.long q), .second, .unset, .unset, .unset, .unset, .unset] []))
  refine own_st (V := (T0.setTop (mkF m 1 #[.val (.ref a), .val (.int (0 : Int32)), .val (.int (3 : Int32)), .val (.long q), .second, .unset, .unset, .unset, .unset, .unset] [(.int (0 : Int32))]))) (fun t ks => XS.iloadN X0.here hx rfl (hb hby d6_0) rfl ks) ?_
  refine own_st (V := (T0.setTop (mkF m 3 #[.val (.ref a), .val (.int (0 : Int32)), .val (.int (3 : Int32)), .val (.long q), .second, .val (.int (0 : Int32)), .unset, .unset, .unset, .unset] []))) (fun t ks => XS.istore X0.here hx rfl (hb hby d6_1) rfl (l' := #[.val (.ref a), .val (.int (0 : Int32)), .val (.int (3 : Int32)), .val (.long q), .second, .val (.int (0 : Int32)), .unset, .unset, .unset, .unset]) rfl ks) ?_
  refine own_st (V := (T0.setTop (mkF m 4 #[.val (.ref a), .val (.int (0 : Int32)), .val (.int (3 : Int32)), .val (.long q), .second, .val (.int (0 : Int32)), .unset, .unset, .unset, .unset] [(.int (3 : Int32))]))) (fun t ks => XS.iloadN X0.here hx rfl (hb hby d6_3) rfl ks) ?_
  refine own_st (V := (T0.setTop (mkF m 5 #[.val (.ref a), .val (.int (0 : Int32)), .val (.int (3 : Int32)), .val (.long q), .second, .val (.int (0 : Int32)), .unset, .unset, .unset, .unset] [(.int (1 : Int32)), (.int (3 : Int32))]))) (fun t ks => XS.iconst X0.here hx rfl (hb hby d6_4) ks) ?_
  refine own_st (V := (T0.setTop (mkF m 6 #[.val (.ref a), .val (.int (0 : Int32)), .val (.int (3 : Int32)), .val (.long q), .second, .val (.int (0 : Int32)), .unset, .unset, .unset, .unset] [(.int ((3 : Int32) - (1 : Int32)))]))) (fun t ks => XS.isub X0.here hx rfl (hb hby d6_5) rfl ks) ?_
  refine own_st (V := (T0.setTop (mkF m 8 #[.val (.ref a), .val (.int (0 : Int32)), .val (.int (3 : Int32)), .val (.long q), .second, .val (.int (0 : Int32)), .val (.int ((3 : Int32) - (1 : Int32))), .unset, .unset, .unset] []))) (fun t ks => XS.istore X0.here hx rfl (hb hby d6_6) rfl (l' := #[.val (.ref a), .val (.int (0 : Int32)), .val (.int (3 : Int32)), .val (.long q), .second, .val (.int (0 : Int32)), .val (.int ((3 : Int32) - (1 : Int32))), .unset, .unset, .unset]) rfl ks) ?_
  refine own_cast (g' := (mkF m 8 #[.val (.ref a), .val (.int (0 : Int32)), .val (.int (3 : Int32)), .val (.long q), .second, .val (.int (0 : Int32)), .val (.int (2 : Int32)), .unset, .unset, .unset] [])) (by rw [show ((3 : Int32) - (1 : Int32)) = (2 : Int32) from by decide]) ?_
  refine own_st (V := (T0.setTop (mkF m 10 #[.val (.ref a), .val (.int (0 : Int32)), .val (.int (3 : Int32)), .val (.long q), .second, .val (.int (0 : Int32)), .val (.int (2 : Int32)), .unset, .unset, .unset] [(.int (0 : Int32))]))) (fun t ks => XS.iload X0.here hx rfl (hb hby d6_8) rfl ks) ?_
  refine own_st (V := (T0.setTop (mkF m 12 #[.val (.ref a), .val (.int (0 : Int32)), .val (.int (3 : Int32)), .val (.long q), .second, .val (.int (0 : Int32)), .val (.int (2 : Int32)), .unset, .unset, .unset] [(.int (2 : Int32)), (.int (0 : Int32))]))) (fun t ks => XS.iload X0.here hx rfl (hb hby d6_10) rfl ks) ?_
  refine own_st (V := (T0.setTop (mkF m 15 #[.val (.ref a), .val (.int (0 : Int32)), .val (.int (3 : Int32)), .val (.long q), .second, .val (.int (0 : Int32)), .val (.int (2 : Int32)), .unset, .unset, .unset] []))) (fun t ks => XS.icmpNo X0.here hx rfl (hb hby d6_12) rfl (XT.ii_gt_f (by decide)) ks) ?_
  refine own_st (V := (T0.setTop (mkF m 17 #[.val (.ref a), .val (.int (0 : Int32)), .val (.int (3 : Int32)), .val (.long q), .second, .val (.int (0 : Int32)), .val (.int (2 : Int32)), .unset, .unset, .unset] [(.int (0 : Int32))]))) (fun t ks => XS.iload X0.here hx rfl (hb hby d6_15) rfl ks) ?_
  refine own_st (V := (T0.setTop (mkF m 19 #[.val (.ref a), .val (.int (0 : Int32)), .val (.int (3 : Int32)), .val (.long q), .second, .val (.int (0 : Int32)), .val (.int (2 : Int32)), .unset, .unset, .unset] [(.int (2 : Int32)), (.int (0 : Int32))]))) (fun t ks => XS.iload X0.here hx rfl (hb hby d6_17) rfl ks) ?_
  refine own_st (V := (T0.setTop (mkF m 20 #[.val (.ref a), .val (.int (0 : Int32)), .val (.int (3 : Int32)), .val (.long q), .second, .val (.int (0 : Int32)), .val (.int (2 : Int32)), .unset, .unset, .unset] [(.int ((0 : Int32) + (2 : Int32)))]))) (fun t ks => XS.iadd X0.here hx rfl (hb hby d6_19) rfl ks) ?_
  refine own_st (V := (T0.setTop (mkF m 21 #[.val (.ref a), .val (.int (0 : Int32)), .val (.int (3 : Int32)), .val (.long q), .second, .val (.int (0 : Int32)), .val (.int (2 : Int32)), .unset, .unset, .unset] [(.int (1 : Int32)), (.int ((0 : Int32) + (2 : Int32)))]))) (fun t ks => XS.iconst X0.here hx rfl (hb hby d6_20) ks) ?_
  refine own_st (V := (T0.setTop (mkF m 22 #[.val (.ref a), .val (.int (0 : Int32)), .val (.int (3 : Int32)), .val (.long q), .second, .val (.int (0 : Int32)), .val (.int (2 : Int32)), .unset, .unset, .unset] [(.int ((((0 : Int32) + (2 : Int32)).toUInt32 >>> ((1 : Int32) &&& 31).toUInt32).toInt32))]))) (fun t ks => XS.iushr X0.here hx rfl (hb hby d6_21) rfl ks) ?_
  refine own_cast (g' := (mkF m 22 #[.val (.ref a), .val (.int (0 : Int32)), .val (.int (3 : Int32)), .val (.long q), .second, .val (.int (0 : Int32)), .val (.int (2 : Int32)), .unset, .unset, .unset] [(.int (1 : Int32))])) (by rw [show ((((0 : Int32) + (2 : Int32)).toUInt32 >>> ((1 : Int32) &&& 31).toUInt32).toInt32) = (1 : Int32) from by decide]) ?_
  refine own_st (V := (T0.setTop (mkF m 24 #[.val (.ref a), .val (.int (0 : Int32)), .val (.int (3 : Int32)), .val (.long q), .second, .val (.int (0 : Int32)), .val (.int (2 : Int32)), .val (.int (1 : Int32)), .unset, .unset] []))) (fun t ks => XS.istore X0.here hx rfl (hb hby d6_22) rfl (l' := #[.val (.ref a), .val (.int (0 : Int32)), .val (.int (3 : Int32)), .val (.long q), .second, .val (.int (0 : Int32)), .val (.int (2 : Int32)), .val (.int (1 : Int32)), .unset, .unset]) rfl ks) ?_
  refine own_st (V := (T0.setTop (mkF m 25 #[.val (.ref a), .val (.int (0 : Int32)), .val (.int (3 : Int32)), .val (.long q), .second, .val (.int (0 : Int32)), .val (.int (2 : Int32)), .val (.int (1 : Int32)), .unset, .unset] [(.ref a)]))) (fun t ks => XS.aloadN X0.here hx rfl (hb hby d6_24) rfl rfl ks) ?_
  refine own_st (V := (T0.setTop (mkF m 27 #[.val (.ref a), .val (.int (0 : Int32)), .val (.int (3 : Int32)), .val (.long q), .second, .val (.int (0 : Int32)), .val (.int (2 : Int32)), .val (.int (1 : Int32)), .unset, .unset] [(.int (1 : Int32)), (.ref a)]))) (fun t ks => XS.iload X0.here hx rfl (hb hby d6_25) rfl ks) ?_
  refine own_laload X0 hx hZ e0 A (v := (.long x1)) (by decide) (by show (1 : Int32) < 4; decide) rfl (hb hby d6_27) ?_
  show OGoes p.tables e below _ (T0.setTop (mkF m 28 #[.val (.ref a), .val (.int (0 : Int32)), .val (.int (3 : Int32)), .val (.long q), .second, .val (.int (0 : Int32)), .val (.int (2 : Int32)), .val (.int (1 : Int32)), .unset, .unset] [(.long x1)]))
  refine own_st (V := (T0.setTop (mkF m 30 #[.val (.ref a), .val (.int (0 : Int32)), .val (.int (3 : Int32)), .val (.long q), .second, .val (.int (0 : Int32)), .val (.int (2 : Int32)), .val (.int (1 : Int32)), .val (.long x1), .second] []))) (fun t ks => XS.lstore X0.here hx rfl (hb hby d6_28) rfl (l' := #[.val (.ref a), .val (.int (0 : Int32)), .val (.int (3 : Int32)), .val (.long q), .second, .val (.int (0 : Int32)), .val (.int (2 : Int32)), .val (.int (1 : Int32)), .val (.long x1), .second]) rfl ks) ?_
  refine own_st (V := (T0.setTop (mkF m 32 #[.val (.ref a), .val (.int (0 : Int32)), .val (.int (3 : Int32)), .val (.long q), .second, .val (.int (0 : Int32)), .val (.int (2 : Int32)), .val (.int (1 : Int32)), .val (.long x1), .second] [(.long x1)]))) (fun t ks => XS.lload X0.here hx rfl (hb hby d6_30) rfl ks) ?_
  refine own_st (V := (T0.setTop (mkF m 33 #[.val (.ref a), .val (.int (0 : Int32)), .val (.int (3 : Int32)), .val (.long q), .second, .val (.int (0 : Int32)), .val (.int (2 : Int32)), .val (.int (1 : Int32)), .val (.long x1), .second] [(.long q), (.long x1)]))) (fun t ks => XS.lloadN X0.here hx rfl (hb hby d6_32) rfl ks) ?_
  refine own_st (V := (T0.setTop (mkF m 34 #[.val (.ref a), .val (.int (0 : Int32)), .val (.int (3 : Int32)), .val (.long q), .second, .val (.int (0 : Int32)), .val (.int (2 : Int32)), .val (.int (1 : Int32)), .val (.long x1), .second] [(.int (lcmpW x1 q))]))) (fun t ks => XS.lcmp X0.here hx rfl (hb hby d6_33) rfl ks) ?_
  by_cases c1_0 : x1 < q
  · refine own_st (V := (T0.setTop (mkF m 37 #[.val (.ref a), .val (.int (0 : Int32)), .val (.int (3 : Int32)), .val (.long q), .second, .val (.int (0 : Int32)), .val (.int (2 : Int32)), .val (.int (1 : Int32)), .val (.long x1), .second] []))) (fun t ks => XS.ifNo X0.here hx rfl (hb hby d6_34) rfl (XT.ll_ge_f c1_0) ks) ?_
    refine own_st (V := (T0.setTop (mkF m 39 #[.val (.ref a), .val (.int (0 : Int32)), .val (.int (3 : Int32)), .val (.long q), .second, .val (.int (0 : Int32)), .val (.int (2 : Int32)), .val (.int (1 : Int32)), .val (.long x1), .second] [(.int (1 : Int32))]))) (fun t ks => XS.iload X0.here hx rfl (hb hby d6_37) rfl ks) ?_
    refine own_st (V := (T0.setTop (mkF m 40 #[.val (.ref a), .val (.int (0 : Int32)), .val (.int (3 : Int32)), .val (.long q), .second, .val (.int (0 : Int32)), .val (.int (2 : Int32)), .val (.int (1 : Int32)), .val (.long x1), .second] [(.int (1 : Int32)), (.int (1 : Int32))]))) (fun t ks => XS.iconst X0.here hx rfl (hb hby d6_39) ks) ?_
    refine own_st (V := (T0.setTop (mkF m 41 #[.val (.ref a), .val (.int (0 : Int32)), .val (.int (3 : Int32)), .val (.long q), .second, .val (.int (0 : Int32)), .val (.int (2 : Int32)), .val (.int (1 : Int32)), .val (.long x1), .second] [(.int ((1 : Int32) + (1 : Int32)))]))) (fun t ks => XS.iadd X0.here hx rfl (hb hby d6_40) rfl ks) ?_
    refine own_cast (g' := (mkF m 41 #[.val (.ref a), .val (.int (0 : Int32)), .val (.int (3 : Int32)), .val (.long q), .second, .val (.int (0 : Int32)), .val (.int (2 : Int32)), .val (.int (1 : Int32)), .val (.long x1), .second] [(.int (2 : Int32))])) (by rw [show ((1 : Int32) + (1 : Int32)) = (2 : Int32) from by decide]) ?_
    refine own_st (V := (T0.setTop (mkF m 43 #[.val (.ref a), .val (.int (0 : Int32)), .val (.int (3 : Int32)), .val (.long q), .second, .val (.int (2 : Int32)), .val (.int (2 : Int32)), .val (.int (1 : Int32)), .val (.long x1), .second] []))) (fun t ks => XS.istore X0.here hx rfl (hb hby d6_41) rfl (l' := #[.val (.ref a), .val (.int (0 : Int32)), .val (.int (3 : Int32)), .val (.long q), .second, .val (.int (2 : Int32)), .val (.int (2 : Int32)), .val (.int (1 : Int32)), .val (.long x1), .second]) rfl ks) ?_
    refine own_st (V := (T0.setTop (mkF m 65 #[.val (.ref a), .val (.int (0 : Int32)), .val (.int (3 : Int32)), .val (.long q), .second, .val (.int (2 : Int32)), .val (.int (2 : Int32)), .val (.int (1 : Int32)), .val (.long x1), .second] []))) (fun t ks => XS.goto X0.here hx rfl (pc0 := 43) (pc' := 65) rfl (hb hby d6_43) (by decide) (by decide) ks) ?_
    refine own_st (V := (T0.setTop (mkF m 8 #[.val (.ref a), .val (.int (0 : Int32)), .val (.int (3 : Int32)), .val (.long q), .second, .val (.int (2 : Int32)), .val (.int (2 : Int32)), .val (.int (1 : Int32)), .val (.long x1), .second] []))) (fun t ks => XS.goto X0.here hx rfl (pc0 := 65) (pc' := 8) rfl (hb hby d6_65) (by decide) (by decide) ks) ?_
    refine own_st (V := (T0.setTop (mkF m 10 #[.val (.ref a), .val (.int (0 : Int32)), .val (.int (3 : Int32)), .val (.long q), .second, .val (.int (2 : Int32)), .val (.int (2 : Int32)), .val (.int (1 : Int32)), .val (.long x1), .second] [(.int (2 : Int32))]))) (fun t ks => XS.iload X0.here hx rfl (hb hby d6_8) rfl ks) ?_
    refine own_st (V := (T0.setTop (mkF m 12 #[.val (.ref a), .val (.int (0 : Int32)), .val (.int (3 : Int32)), .val (.long q), .second, .val (.int (2 : Int32)), .val (.int (2 : Int32)), .val (.int (1 : Int32)), .val (.long x1), .second] [(.int (2 : Int32)), (.int (2 : Int32))]))) (fun t ks => XS.iload X0.here hx rfl (hb hby d6_10) rfl ks) ?_
    refine own_st (V := (T0.setTop (mkF m 15 #[.val (.ref a), .val (.int (0 : Int32)), .val (.int (3 : Int32)), .val (.long q), .second, .val (.int (2 : Int32)), .val (.int (2 : Int32)), .val (.int (1 : Int32)), .val (.long x1), .second] []))) (fun t ks => XS.icmpNo X0.here hx rfl (hb hby d6_12) rfl (XT.ii_gt_f (by decide)) ks) ?_
    refine own_st (V := (T0.setTop (mkF m 17 #[.val (.ref a), .val (.int (0 : Int32)), .val (.int (3 : Int32)), .val (.long q), .second, .val (.int (2 : Int32)), .val (.int (2 : Int32)), .val (.int (1 : Int32)), .val (.long x1), .second] [(.int (2 : Int32))]))) (fun t ks => XS.iload X0.here hx rfl (hb hby d6_15) rfl ks) ?_
    refine own_st (V := (T0.setTop (mkF m 19 #[.val (.ref a), .val (.int (0 : Int32)), .val (.int (3 : Int32)), .val (.long q), .second, .val (.int (2 : Int32)), .val (.int (2 : Int32)), .val (.int (1 : Int32)), .val (.long x1), .second] [(.int (2 : Int32)), (.int (2 : Int32))]))) (fun t ks => XS.iload X0.here hx rfl (hb hby d6_17) rfl ks) ?_
    refine own_st (V := (T0.setTop (mkF m 20 #[.val (.ref a), .val (.int (0 : Int32)), .val (.int (3 : Int32)), .val (.long q), .second, .val (.int (2 : Int32)), .val (.int (2 : Int32)), .val (.int (1 : Int32)), .val (.long x1), .second] [(.int ((2 : Int32) + (2 : Int32)))]))) (fun t ks => XS.iadd X0.here hx rfl (hb hby d6_19) rfl ks) ?_
    refine own_st (V := (T0.setTop (mkF m 21 #[.val (.ref a), .val (.int (0 : Int32)), .val (.int (3 : Int32)), .val (.long q), .second, .val (.int (2 : Int32)), .val (.int (2 : Int32)), .val (.int (1 : Int32)), .val (.long x1), .second] [(.int (1 : Int32)), (.int ((2 : Int32) + (2 : Int32)))]))) (fun t ks => XS.iconst X0.here hx rfl (hb hby d6_20) ks) ?_
    refine own_st (V := (T0.setTop (mkF m 22 #[.val (.ref a), .val (.int (0 : Int32)), .val (.int (3 : Int32)), .val (.long q), .second, .val (.int (2 : Int32)), .val (.int (2 : Int32)), .val (.int (1 : Int32)), .val (.long x1), .second] [(.int ((((2 : Int32) + (2 : Int32)).toUInt32 >>> ((1 : Int32) &&& 31).toUInt32).toInt32))]))) (fun t ks => XS.iushr X0.here hx rfl (hb hby d6_21) rfl ks) ?_
    refine own_cast (g' := (mkF m 22 #[.val (.ref a), .val (.int (0 : Int32)), .val (.int (3 : Int32)), .val (.long q), .second, .val (.int (2 : Int32)), .val (.int (2 : Int32)), .val (.int (1 : Int32)), .val (.long x1), .second] [(.int (2 : Int32))])) (by rw [show ((((2 : Int32) + (2 : Int32)).toUInt32 >>> ((1 : Int32) &&& 31).toUInt32).toInt32) = (2 : Int32) from by decide]) ?_
    refine own_st (V := (T0.setTop (mkF m 24 #[.val (.ref a), .val (.int (0 : Int32)), .val (.int (3 : Int32)), .val (.long q), .second, .val (.int (2 : Int32)), .val (.int (2 : Int32)), .val (.int (2 : Int32)), .val (.long x1), .second] []))) (fun t ks => XS.istore X0.here hx rfl (hb hby d6_22) rfl (l' := #[.val (.ref a), .val (.int (0 : Int32)), .val (.int (3 : Int32)), .val (.long q), .second, .val (.int (2 : Int32)), .val (.int (2 : Int32)), .val (.int (2 : Int32)), .val (.long x1), .second]) rfl ks) ?_
    refine own_st (V := (T0.setTop (mkF m 25 #[.val (.ref a), .val (.int (0 : Int32)), .val (.int (3 : Int32)), .val (.long q), .second, .val (.int (2 : Int32)), .val (.int (2 : Int32)), .val (.int (2 : Int32)), .val (.long x1), .second] [(.ref a)]))) (fun t ks => XS.aloadN X0.here hx rfl (hb hby d6_24) rfl rfl ks) ?_
    refine own_st (V := (T0.setTop (mkF m 27 #[.val (.ref a), .val (.int (0 : Int32)), .val (.int (3 : Int32)), .val (.long q), .second, .val (.int (2 : Int32)), .val (.int (2 : Int32)), .val (.int (2 : Int32)), .val (.long x1), .second] [(.int (2 : Int32)), (.ref a)]))) (fun t ks => XS.iload X0.here hx rfl (hb hby d6_25) rfl ks) ?_
    refine own_laload X0 hx hZ e0 A (v := (.long x2)) (by decide) (by show (2 : Int32) < 4; decide) rfl (hb hby d6_27) ?_
    show OGoes p.tables e below _ (T0.setTop (mkF m 28 #[.val (.ref a), .val (.int (0 : Int32)), .val (.int (3 : Int32)), .val (.long q), .second, .val (.int (2 : Int32)), .val (.int (2 : Int32)), .val (.int (2 : Int32)), .val (.long x1), .second] [(.long x2)]))
    refine own_st (V := (T0.setTop (mkF m 30 #[.val (.ref a), .val (.int (0 : Int32)), .val (.int (3 : Int32)), .val (.long q), .second, .val (.int (2 : Int32)), .val (.int (2 : Int32)), .val (.int (2 : Int32)), .val (.long x2), .second] []))) (fun t ks => XS.lstore X0.here hx rfl (hb hby d6_28) rfl (l' := #[.val (.ref a), .val (.int (0 : Int32)), .val (.int (3 : Int32)), .val (.long q), .second, .val (.int (2 : Int32)), .val (.int (2 : Int32)), .val (.int (2 : Int32)), .val (.long x2), .second]) rfl ks) ?_
    refine own_st (V := (T0.setTop (mkF m 32 #[.val (.ref a), .val (.int (0 : Int32)), .val (.int (3 : Int32)), .val (.long q), .second, .val (.int (2 : Int32)), .val (.int (2 : Int32)), .val (.int (2 : Int32)), .val (.long x2), .second] [(.long x2)]))) (fun t ks => XS.lload X0.here hx rfl (hb hby d6_30) rfl ks) ?_
    refine own_st (V := (T0.setTop (mkF m 33 #[.val (.ref a), .val (.int (0 : Int32)), .val (.int (3 : Int32)), .val (.long q), .second, .val (.int (2 : Int32)), .val (.int (2 : Int32)), .val (.int (2 : Int32)), .val (.long x2), .second] [(.long q), (.long x2)]))) (fun t ks => XS.lloadN X0.here hx rfl (hb hby d6_32) rfl ks) ?_
    refine own_st (V := (T0.setTop (mkF m 34 #[.val (.ref a), .val (.int (0 : Int32)), .val (.int (3 : Int32)), .val (.long q), .second, .val (.int (2 : Int32)), .val (.int (2 : Int32)), .val (.int (2 : Int32)), .val (.long x2), .second] [(.int (lcmpW x2 q))]))) (fun t ks => XS.lcmp X0.here hx rfl (hb hby d6_33) rfl ks) ?_
    by_cases c2_1 : x2 < q
    · refine own_st (V := (T0.setTop (mkF m 37 #[.val (.ref a), .val (.int (0 : Int32)), .val (.int (3 : Int32)), .val (.long q), .second, .val (.int (2 : Int32)), .val (.int (2 : Int32)), .val (.int (2 : Int32)), .val (.long x2), .second] []))) (fun t ks => XS.ifNo X0.here hx rfl (hb hby d6_34) rfl (XT.ll_ge_f c2_1) ks) ?_
      refine own_st (V := (T0.setTop (mkF m 39 #[.val (.ref a), .val (.int (0 : Int32)), .val (.int (3 : Int32)), .val (.long q), .second, .val (.int (2 : Int32)), .val (.int (2 : Int32)), .val (.int (2 : Int32)), .val (.long x2), .second] [(.int (2 : Int32))]))) (fun t ks => XS.iload X0.here hx rfl (hb hby d6_37) rfl ks) ?_
      refine own_st (V := (T0.setTop (mkF m 40 #[.val (.ref a), .val (.int (0 : Int32)), .val (.int (3 : Int32)), .val (.long q), .second, .val (.int (2 : Int32)), .val (.int (2 : Int32)), .val (.int (2 : Int32)), .val (.long x2), .second] [(.int (1 : Int32)), (.int (2 : Int32))]))) (fun t ks => XS.iconst X0.here hx rfl (hb hby d6_39) ks) ?_
      refine own_st (V := (T0.setTop (mkF m 41 #[.val (.ref a), .val (.int (0 : Int32)), .val (.int (3 : Int32)), .val (.long q), .second, .val (.int (2 : Int32)), .val (.int (2 : Int32)), .val (.int (2 : Int32)), .val (.long x2), .second] [(.int ((2 : Int32) + (1 : Int32)))]))) (fun t ks => XS.iadd X0.here hx rfl (hb hby d6_40) rfl ks) ?_
      refine own_cast (g' := (mkF m 41 #[.val (.ref a), .val (.int (0 : Int32)), .val (.int (3 : Int32)), .val (.long q), .second, .val (.int (2 : Int32)), .val (.int (2 : Int32)), .val (.int (2 : Int32)), .val (.long x2), .second] [(.int (3 : Int32))])) (by rw [show ((2 : Int32) + (1 : Int32)) = (3 : Int32) from by decide]) ?_
      refine own_st (V := (T0.setTop (mkF m 43 #[.val (.ref a), .val (.int (0 : Int32)), .val (.int (3 : Int32)), .val (.long q), .second, .val (.int (3 : Int32)), .val (.int (2 : Int32)), .val (.int (2 : Int32)), .val (.long x2), .second] []))) (fun t ks => XS.istore X0.here hx rfl (hb hby d6_41) rfl (l' := #[.val (.ref a), .val (.int (0 : Int32)), .val (.int (3 : Int32)), .val (.long q), .second, .val (.int (3 : Int32)), .val (.int (2 : Int32)), .val (.int (2 : Int32)), .val (.long x2), .second]) rfl ks) ?_
      refine own_st (V := (T0.setTop (mkF m 65 #[.val (.ref a), .val (.int (0 : Int32)), .val (.int (3 : Int32)), .val (.long q), .second, .val (.int (3 : Int32)), .val (.int (2 : Int32)), .val (.int (2 : Int32)), .val (.long x2), .second] []))) (fun t ks => XS.goto X0.here hx rfl (pc0 := 43) (pc' := 65) rfl (hb hby d6_43) (by decide) (by decide) ks) ?_
      refine own_st (V := (T0.setTop (mkF m 8 #[.val (.ref a), .val (.int (0 : Int32)), .val (.int (3 : Int32)), .val (.long q), .second, .val (.int (3 : Int32)), .val (.int (2 : Int32)), .val (.int (2 : Int32)), .val (.long x2), .second] []))) (fun t ks => XS.goto X0.here hx rfl (pc0 := 65) (pc' := 8) rfl (hb hby d6_65) (by decide) (by decide) ks) ?_
      refine own_st (V := (T0.setTop (mkF m 10 #[.val (.ref a), .val (.int (0 : Int32)), .val (.int (3 : Int32)), .val (.long q), .second, .val (.int (3 : Int32)), .val (.int (2 : Int32)), .val (.int (2 : Int32)), .val (.long x2), .second] [(.int (3 : Int32))]))) (fun t ks => XS.iload X0.here hx rfl (hb hby d6_8) rfl ks) ?_
      refine own_st (V := (T0.setTop (mkF m 12 #[.val (.ref a), .val (.int (0 : Int32)), .val (.int (3 : Int32)), .val (.long q), .second, .val (.int (3 : Int32)), .val (.int (2 : Int32)), .val (.int (2 : Int32)), .val (.long x2), .second] [(.int (2 : Int32)), (.int (3 : Int32))]))) (fun t ks => XS.iload X0.here hx rfl (hb hby d6_10) rfl ks) ?_
      refine own_st (V := (T0.setTop (mkF m 68 #[.val (.ref a), .val (.int (0 : Int32)), .val (.int (3 : Int32)), .val (.long q), .second, .val (.int (3 : Int32)), .val (.int (2 : Int32)), .val (.int (2 : Int32)), .val (.long x2), .second] []))) (fun t ks => XS.icmpYes X0.here hx rfl (pc0 := 12) (pc' := 68) rfl (hb hby d6_12) rfl (XT.ii_gt_t (by decide)) (by decide) (by decide) ks) ?_
      refine own_st (V := (T0.setTop (mkF m 70 #[.val (.ref a), .val (.int (0 : Int32)), .val (.int (3 : Int32)), .val (.long q), .second, .val (.int (3 : Int32)), .val (.int (2 : Int32)), .val (.int (2 : Int32)), .val (.long x2), .second] [(.int (3 : Int32))]))) (fun t ks => XS.iload X0.here hx rfl (hb hby d6_68) rfl ks) ?_
      refine own_st (V := (T0.setTop (mkF m 71 #[.val (.ref a), .val (.int (0 : Int32)), .val (.int (3 : Int32)), .val (.long q), .second, .val (.int (3 : Int32)), .val (.int (2 : Int32)), .val (.int (2 : Int32)), .val (.long x2), .second] [(.int (1 : Int32)), (.int (3 : Int32))]))) (fun t ks => XS.iconst X0.here hx rfl (hb hby d6_70) ks) ?_
      refine own_st (V := (T0.setTop (mkF m 72 #[.val (.ref a), .val (.int (0 : Int32)), .val (.int (3 : Int32)), .val (.long q), .second, .val (.int (3 : Int32)), .val (.int (2 : Int32)), .val (.int (2 : Int32)), .val (.long x2), .second] [(.int ((3 : Int32) + (1 : Int32)))]))) (fun t ks => XS.iadd X0.here hx rfl (hb hby d6_71) rfl ks) ?_
      refine own_st (V := (T0.setTop (mkF m 73 #[.val (.ref a), .val (.int (0 : Int32)), .val (.int (3 : Int32)), .val (.long q), .second, .val (.int (3 : Int32)), .val (.int (2 : Int32)), .val (.int (2 : Int32)), .val (.long x2), .second] [(.int (-((3 : Int32) + (1 : Int32))))]))) (fun t ks => XS.ineg X0.here hx rfl (hb hby d6_72) rfl ks) ?_
      exact own_retI X0 hx hlk hret (hb hby d6_73) (by decide) (by decide) ⟨by simp [own_bs, c1_0, c2_1] <;> decide, e0, rfl⟩
    · refine own_st (V := (T0.setTop (mkF m 46 #[.val (.ref a), .val (.int (0 : Int32)), .val (.int (3 : Int32)), .val (.long q), .second, .val (.int (2 : Int32)), .val (.int (2 : Int32)), .val (.int (2 : Int32)), .val (.long x2), .second] []))) (fun t ks => XS.ifYes X0.here hx rfl (pc0 := 34) (pc' := 46) rfl (hb hby d6_34) rfl (XT.ll_ge_t c2_1) (by decide) (by decide) ks) ?_
      refine own_st (V := (T0.setTop (mkF m 48 #[.val (.ref a), .val (.int (0 : Int32)), .val (.int (3 : Int32)), .val (.long q), .second, .val (.int (2 : Int32)), .val (.int (2 : Int32)), .val (.int (2 : Int32)), .val (.long x2), .second] [(.long x2)]))) (fun t ks => XS.lload X0.here hx rfl (hb hby d6_46) rfl ks) ?_
      refine own_st (V := (T0.setTop (mkF m 49 #[.val (.ref a), .val (.int (0 : Int32)), .val (.int (3 : Int32)), .val (.long q), .second, .val (.int (2 : Int32)), .val (.int (2 : Int32)), .val (.int (2 : Int32)), .val (.long x2), .second] [(.long q), (.long x2)]))) (fun t ks => XS.lloadN X0.here hx rfl (hb hby d6_48) rfl ks) ?_
      refine own_st (V := (T0.setTop (mkF m 50 #[.val (.ref a), .val (.int (0 : Int32)), .val (.int (3 : Int32)), .val (.long q), .second, .val (.int (2 : Int32)), .val (.int (2 : Int32)), .val (.int (2 : Int32)), .val (.long x2), .second] [(.int (lcmpW x2 q))]))) (fun t ks => XS.lcmp X0.here hx rfl (hb hby d6_49) rfl ks) ?_
      by_cases c2_1b : q < x2
      · refine own_st (V := (T0.setTop (mkF m 53 #[.val (.ref a), .val (.int (0 : Int32)), .val (.int (3 : Int32)), .val (.long q), .second, .val (.int (2 : Int32)), .val (.int (2 : Int32)), .val (.int (2 : Int32)), .val (.long x2), .second] []))) (fun t ks => XS.ifNo X0.here hx rfl (hb hby d6_50) rfl (XT.ll_le_f c2_1b) ks) ?_
        refine own_st (V := (T0.setTop (mkF m 55 #[.val (.ref a), .val (.int (0 : Int32)), .val (.int (3 : Int32)), .val (.long q), .second, .val (.int (2 : Int32)), .val (.int (2 : Int32)), .val (.int (2 : Int32)), .val (.long x2), .second] [(.int (2 : Int32))]))) (fun t ks => XS.iload X0.here hx rfl (hb hby d6_53) rfl ks) ?_
        refine own_st (V := (T0.setTop (mkF m 56 #[.val (.ref a), .val (.int (0 : Int32)), .val (.int (3 : Int32)), .val (.long q), .second, .val (.int (2 : Int32)), .val (.int (2 : Int32)), .val (.int (2 : Int32)), .val (.long x2), .second] [(.int (1 : Int32)), (.int (2 : Int32))]))) (fun t ks => XS.iconst X0.here hx rfl (hb hby d6_55) ks) ?_
        refine own_st (V := (T0.setTop (mkF m 57 #[.val (.ref a), .val (.int (0 : Int32)), .val (.int (3 : Int32)), .val (.long q), .second, .val (.int (2 : Int32)), .val (.int (2 : Int32)), .val (.int (2 : Int32)), .val (.long x2), .second] [(.int ((2 : Int32) - (1 : Int32)))]))) (fun t ks => XS.isub X0.here hx rfl (hb hby d6_56) rfl ks) ?_
        refine own_cast (g' := (mkF m 57 #[.val (.ref a), .val (.int (0 : Int32)), .val (.int (3 : Int32)), .val (.long q), .second, .val (.int (2 : Int32)), .val (.int (2 : Int32)), .val (.int (2 : Int32)), .val (.long x2), .second] [(.int (1 : Int32))])) (by rw [show ((2 : Int32) - (1 : Int32)) = (1 : Int32) from by decide]) ?_
        refine own_st (V := (T0.setTop (mkF m 59 #[.val (.ref a), .val (.int (0 : Int32)), .val (.int (3 : Int32)), .val (.long q), .second, .val (.int (2 : Int32)), .val (.int (1 : Int32)), .val (.int (2 : Int32)), .val (.long x2), .second] []))) (fun t ks => XS.istore X0.here hx rfl (hb hby d6_57) rfl (l' := #[.val (.ref a), .val (.int (0 : Int32)), .val (.int (3 : Int32)), .val (.long q), .second, .val (.int (2 : Int32)), .val (.int (1 : Int32)), .val (.int (2 : Int32)), .val (.long x2), .second]) rfl ks) ?_
        refine own_st (V := (T0.setTop (mkF m 65 #[.val (.ref a), .val (.int (0 : Int32)), .val (.int (3 : Int32)), .val (.long q), .second, .val (.int (2 : Int32)), .val (.int (1 : Int32)), .val (.int (2 : Int32)), .val (.long x2), .second] []))) (fun t ks => XS.goto X0.here hx rfl (pc0 := 59) (pc' := 65) rfl (hb hby d6_59) (by decide) (by decide) ks) ?_
        refine own_st (V := (T0.setTop (mkF m 8 #[.val (.ref a), .val (.int (0 : Int32)), .val (.int (3 : Int32)), .val (.long q), .second, .val (.int (2 : Int32)), .val (.int (1 : Int32)), .val (.int (2 : Int32)), .val (.long x2), .second] []))) (fun t ks => XS.goto X0.here hx rfl (pc0 := 65) (pc' := 8) rfl (hb hby d6_65) (by decide) (by decide) ks) ?_
        refine own_st (V := (T0.setTop (mkF m 10 #[.val (.ref a), .val (.int (0 : Int32)), .val (.int (3 : Int32)), .val (.long q), .second, .val (.int (2 : Int32)), .val (.int (1 : Int32)), .val (.int (2 : Int32)), .val (.long x2), .second] [(.int (2 : Int32))]))) (fun t ks => XS.iload X0.here hx rfl (hb hby d6_8) rfl ks) ?_
        refine own_st (V := (T0.setTop (mkF m 12 #[.val (.ref a), .val (.int (0 : Int32)), .val (.int (3 : Int32)), .val (.long q), .second, .val (.int (2 : Int32)), .val (.int (1 : Int32)), .val (.int (2 : Int32)), .val (.long x2), .second] [(.int (1 : Int32)), (.int (2 : Int32))]))) (fun t ks => XS.iload X0.here hx rfl (hb hby d6_10) rfl ks) ?_
        refine own_st (V := (T0.setTop (mkF m 68 #[.val (.ref a), .val (.int (0 : Int32)), .val (.int (3 : Int32)), .val (.long q), .second, .val (.int (2 : Int32)), .val (.int (1 : Int32)), .val (.int (2 : Int32)), .val (.long x2), .second] []))) (fun t ks => XS.icmpYes X0.here hx rfl (pc0 := 12) (pc' := 68) rfl (hb hby d6_12) rfl (XT.ii_gt_t (by decide)) (by decide) (by decide) ks) ?_
        refine own_st (V := (T0.setTop (mkF m 70 #[.val (.ref a), .val (.int (0 : Int32)), .val (.int (3 : Int32)), .val (.long q), .second, .val (.int (2 : Int32)), .val (.int (1 : Int32)), .val (.int (2 : Int32)), .val (.long x2), .second] [(.int (2 : Int32))]))) (fun t ks => XS.iload X0.here hx rfl (hb hby d6_68) rfl ks) ?_
        refine own_st (V := (T0.setTop (mkF m 71 #[.val (.ref a), .val (.int (0 : Int32)), .val (.int (3 : Int32)), .val (.long q), .second, .val (.int (2 : Int32)), .val (.int (1 : Int32)), .val (.int (2 : Int32)), .val (.long x2), .second] [(.int (1 : Int32)), (.int (2 : Int32))]))) (fun t ks => XS.iconst X0.here hx rfl (hb hby d6_70) ks) ?_
        refine own_st (V := (T0.setTop (mkF m 72 #[.val (.ref a), .val (.int (0 : Int32)), .val (.int (3 : Int32)), .val (.long q), .second, .val (.int (2 : Int32)), .val (.int (1 : Int32)), .val (.int (2 : Int32)), .val (.long x2), .second] [(.int ((2 : Int32) + (1 : Int32)))]))) (fun t ks => XS.iadd X0.here hx rfl (hb hby d6_71) rfl ks) ?_
        refine own_st (V := (T0.setTop (mkF m 73 #[.val (.ref a), .val (.int (0 : Int32)), .val (.int (3 : Int32)), .val (.long q), .second, .val (.int (2 : Int32)), .val (.int (1 : Int32)), .val (.int (2 : Int32)), .val (.long x2), .second] [(.int (-((2 : Int32) + (1 : Int32))))]))) (fun t ks => XS.ineg X0.here hx rfl (hb hby d6_72) rfl ks) ?_
        exact own_retI X0 hx hlk hret (hb hby d6_73) (by decide) (by decide) ⟨by simp [own_bs, c1_0, c2_1, c2_1b] <;> decide, e0, rfl⟩
      · refine own_st (V := (T0.setTop (mkF m 62 #[.val (.ref a), .val (.int (0 : Int32)), .val (.int (3 : Int32)), .val (.long q), .second, .val (.int (2 : Int32)), .val (.int (2 : Int32)), .val (.int (2 : Int32)), .val (.long x2), .second] []))) (fun t ks => XS.ifYes X0.here hx rfl (pc0 := 50) (pc' := 62) rfl (hb hby d6_50) rfl (XT.ll_le_t c2_1b) (by decide) (by decide) ks) ?_
        refine own_st (V := (T0.setTop (mkF m 64 #[.val (.ref a), .val (.int (0 : Int32)), .val (.int (3 : Int32)), .val (.long q), .second, .val (.int (2 : Int32)), .val (.int (2 : Int32)), .val (.int (2 : Int32)), .val (.long x2), .second] [(.int (2 : Int32))]))) (fun t ks => XS.iload X0.here hx rfl (hb hby d6_62) rfl ks) ?_
        exact own_retI X0 hx hlk hret (hb hby d6_64) (by decide) (by decide) ⟨by simp [own_bs, c1_0, c2_1, c2_1b], e0, rfl⟩
  · refine own_st (V := (T0.setTop (mkF m 46 #[.val (.ref a), .val (.int (0 : Int32)), .val (.int (3 : Int32)), .val (.long q), .second, .val (.int (0 : Int32)), .val (.int (2 : Int32)), .val (.int (1 : Int32)), .val (.long x1), .second] []))) (fun t ks => XS.ifYes X0.here hx rfl (pc0 := 34) (pc' := 46) rfl (hb hby d6_34) rfl (XT.ll_ge_t c1_0) (by decide) (by decide) ks) ?_
    refine own_st (V := (T0.setTop (mkF m 48 #[.val (.ref a), .val (.int (0 : Int32)), .val (.int (3 : Int32)), .val (.long q), .second, .val (.int (0 : Int32)), .val (.int (2 : Int32)), .val (.int (1 : Int32)), .val (.long x1), .second] [(.long x1)]))) (fun t ks => XS.lload X0.here hx rfl (hb hby d6_46) rfl ks) ?_
    refine own_st (V := (T0.setTop (mkF m 49 #[.val (.ref a), .val (.int (0 : Int32)), .val (.int (3 : Int32)), .val (.long q), .second, .val (.int (0 : Int32)), .val (.int (2 : Int32)), .val (.int (1 : Int32)), .val (.long x1), .second] [(.long q), (.long x1)]))) (fun t ks => XS.lloadN X0.here hx rfl (hb hby d6_48) rfl ks) ?_
    refine own_st (V := (T0.setTop (mkF m 50 #[.val (.ref a), .val (.int (0 : Int32)), .val (.int (3 : Int32)), .val (.long q), .second, .val (.int (0 : Int32)), .val (.int (2 : Int32)), .val (.int (1 : Int32)), .val (.long x1), .second] [(.int (lcmpW x1 q))]))) (fun t ks => XS.lcmp X0.here hx rfl (hb hby d6_49) rfl ks) ?_
    by_cases c1_0b : q < x1
    · refine own_st (V := (T0.setTop (mkF m 53 #[.val (.ref a), .val (.int (0 : Int32)), .val (.int (3 : Int32)), .val (.long q), .second, .val (.int (0 : Int32)), .val (.int (2 : Int32)), .val (.int (1 : Int32)), .val (.long x1), .second] []))) (fun t ks => XS.ifNo X0.here hx rfl (hb hby d6_50) rfl (XT.ll_le_f c1_0b) ks) ?_
      refine own_st (V := (T0.setTop (mkF m 55 #[.val (.ref a), .val (.int (0 : Int32)), .val (.int (3 : Int32)), .val (.long q), .second, .val (.int (0 : Int32)), .val (.int (2 : Int32)), .val (.int (1 : Int32)), .val (.long x1), .second] [(.int (1 : Int32))]))) (fun t ks => XS.iload X0.here hx rfl (hb hby d6_53) rfl ks) ?_
      refine own_st (V := (T0.setTop (mkF m 56 #[.val (.ref a), .val (.int (0 : Int32)), .val (.int (3 : Int32)), .val (.long q), .second, .val (.int (0 : Int32)), .val (.int (2 : Int32)), .val (.int (1 : Int32)), .val (.long x1), .second] [(.int (1 : Int32)), (.int (1 : Int32))]))) (fun t ks => XS.iconst X0.here hx rfl (hb hby d6_55) ks) ?_
      refine own_st (V := (T0.setTop (mkF m 57 #[.val (.ref a), .val (.int (0 : Int32)), .val (.int (3 : Int32)), .val (.long q), .second, .val (.int (0 : Int32)), .val (.int (2 : Int32)), .val (.int (1 : Int32)), .val (.long x1), .second] [(.int ((1 : Int32) - (1 : Int32)))]))) (fun t ks => XS.isub X0.here hx rfl (hb hby d6_56) rfl ks) ?_
      refine own_cast (g' := (mkF m 57 #[.val (.ref a), .val (.int (0 : Int32)), .val (.int (3 : Int32)), .val (.long q), .second, .val (.int (0 : Int32)), .val (.int (2 : Int32)), .val (.int (1 : Int32)), .val (.long x1), .second] [(.int (0 : Int32))])) (by rw [show ((1 : Int32) - (1 : Int32)) = (0 : Int32) from by decide]) ?_
      refine own_st (V := (T0.setTop (mkF m 59 #[.val (.ref a), .val (.int (0 : Int32)), .val (.int (3 : Int32)), .val (.long q), .second, .val (.int (0 : Int32)), .val (.int (0 : Int32)), .val (.int (1 : Int32)), .val (.long x1), .second] []))) (fun t ks => XS.istore X0.here hx rfl (hb hby d6_57) rfl (l' := #[.val (.ref a), .val (.int (0 : Int32)), .val (.int (3 : Int32)), .val (.long q), .second, .val (.int (0 : Int32)), .val (.int (0 : Int32)), .val (.int (1 : Int32)), .val (.long x1), .second]) rfl ks) ?_
      refine own_st (V := (T0.setTop (mkF m 65 #[.val (.ref a), .val (.int (0 : Int32)), .val (.int (3 : Int32)), .val (.long q), .second, .val (.int (0 : Int32)), .val (.int (0 : Int32)), .val (.int (1 : Int32)), .val (.long x1), .second] []))) (fun t ks => XS.goto X0.here hx rfl (pc0 := 59) (pc' := 65) rfl (hb hby d6_59) (by decide) (by decide) ks) ?_
      refine own_st (V := (T0.setTop (mkF m 8 #[.val (.ref a), .val (.int (0 : Int32)), .val (.int (3 : Int32)), .val (.long q), .second, .val (.int (0 : Int32)), .val (.int (0 : Int32)), .val (.int (1 : Int32)), .val (.long x1), .second] []))) (fun t ks => XS.goto X0.here hx rfl (pc0 := 65) (pc' := 8) rfl (hb hby d6_65) (by decide) (by decide) ks) ?_
      refine own_st (V := (T0.setTop (mkF m 10 #[.val (.ref a), .val (.int (0 : Int32)), .val (.int (3 : Int32)), .val (.long q), .second, .val (.int (0 : Int32)), .val (.int (0 : Int32)), .val (.int (1 : Int32)), .val (.long x1), .second] [(.int (0 : Int32))]))) (fun t ks => XS.iload X0.here hx rfl (hb hby d6_8) rfl ks) ?_
      refine own_st (V := (T0.setTop (mkF m 12 #[.val (.ref a), .val (.int (0 : Int32)), .val (.int (3 : Int32)), .val (.long q), .second, .val (.int (0 : Int32)), .val (.int (0 : Int32)), .val (.int (1 : Int32)), .val (.long x1), .second] [(.int (0 : Int32)), (.int (0 : Int32))]))) (fun t ks => XS.iload X0.here hx rfl (hb hby d6_10) rfl ks) ?_
      refine own_st (V := (T0.setTop (mkF m 15 #[.val (.ref a), .val (.int (0 : Int32)), .val (.int (3 : Int32)), .val (.long q), .second, .val (.int (0 : Int32)), .val (.int (0 : Int32)), .val (.int (1 : Int32)), .val (.long x1), .second] []))) (fun t ks => XS.icmpNo X0.here hx rfl (hb hby d6_12) rfl (XT.ii_gt_f (by decide)) ks) ?_
      refine own_st (V := (T0.setTop (mkF m 17 #[.val (.ref a), .val (.int (0 : Int32)), .val (.int (3 : Int32)), .val (.long q), .second, .val (.int (0 : Int32)), .val (.int (0 : Int32)), .val (.int (1 : Int32)), .val (.long x1), .second] [(.int (0 : Int32))]))) (fun t ks => XS.iload X0.here hx rfl (hb hby d6_15) rfl ks) ?_
      refine own_st (V := (T0.setTop (mkF m 19 #[.val (.ref a), .val (.int (0 : Int32)), .val (.int (3 : Int32)), .val (.long q), .second, .val (.int (0 : Int32)), .val (.int (0 : Int32)), .val (.int (1 : Int32)), .val (.long x1), .second] [(.int (0 : Int32)), (.int (0 : Int32))]))) (fun t ks => XS.iload X0.here hx rfl (hb hby d6_17) rfl ks) ?_
      refine own_st (V := (T0.setTop (mkF m 20 #[.val (.ref a), .val (.int (0 : Int32)), .val (.int (3 : Int32)), .val (.long q), .second, .val (.int (0 : Int32)), .val (.int (0 : Int32)), .val (.int (1 : Int32)), .val (.long x1), .second] [(.int ((0 : Int32) + (0 : Int32)))]))) (fun t ks => XS.iadd X0.here hx rfl (hb hby d6_19) rfl ks) ?_
      refine own_st (V := (T0.setTop (mkF m 21 #[.val (.ref a), .val (.int (0 : Int32)), .val (.int (3 : Int32)), .val (.long q), .second, .val (.int (0 : Int32)), .val (.int (0 : Int32)), .val (.int (1 : Int32)), .val (.long x1), .second] [(.int (1 : Int32)), (.int ((0 : Int32) + (0 : Int32)))]))) (fun t ks => XS.iconst X0.here hx rfl (hb hby d6_20) ks) ?_
      refine own_st (V := (T0.setTop (mkF m 22 #[.val (.ref a), .val (.int (0 : Int32)), .val (.int (3 : Int32)), .val (.long q), .second, .val (.int (0 : Int32)), .val (.int (0 : Int32)), .val (.int (1 : Int32)), .val (.long x1), .second] [(.int ((((0 : Int32) + (0 : Int32)).toUInt32 >>> ((1 : Int32) &&& 31).toUInt32).toInt32))]))) (fun t ks => XS.iushr X0.here hx rfl (hb hby d6_21) rfl ks) ?_
      refine own_cast (g' := (mkF m 22 #[.val (.ref a), .val (.int (0 : Int32)), .val (.int (3 : Int32)), .val (.long q), .second, .val (.int (0 : Int32)), .val (.int (0 : Int32)), .val (.int (1 : Int32)), .val (.long x1), .second] [(.int (0 : Int32))])) (by rw [show ((((0 : Int32) + (0 : Int32)).toUInt32 >>> ((1 : Int32) &&& 31).toUInt32).toInt32) = (0 : Int32) from by decide]) ?_
      refine own_st (V := (T0.setTop (mkF m 24 #[.val (.ref a), .val (.int (0 : Int32)), .val (.int (3 : Int32)), .val (.long q), .second, .val (.int (0 : Int32)), .val (.int (0 : Int32)), .val (.int (0 : Int32)), .val (.long x1), .second] []))) (fun t ks => XS.istore X0.here hx rfl (hb hby d6_22) rfl (l' := #[.val (.ref a), .val (.int (0 : Int32)), .val (.int (3 : Int32)), .val (.long q), .second, .val (.int (0 : Int32)), .val (.int (0 : Int32)), .val (.int (0 : Int32)), .val (.long x1), .second]) rfl ks) ?_
      refine own_st (V := (T0.setTop (mkF m 25 #[.val (.ref a), .val (.int (0 : Int32)), .val (.int (3 : Int32)), .val (.long q), .second, .val (.int (0 : Int32)), .val (.int (0 : Int32)), .val (.int (0 : Int32)), .val (.long x1), .second] [(.ref a)]))) (fun t ks => XS.aloadN X0.here hx rfl (hb hby d6_24) rfl rfl ks) ?_
      refine own_st (V := (T0.setTop (mkF m 27 #[.val (.ref a), .val (.int (0 : Int32)), .val (.int (3 : Int32)), .val (.long q), .second, .val (.int (0 : Int32)), .val (.int (0 : Int32)), .val (.int (0 : Int32)), .val (.long x1), .second] [(.int (0 : Int32)), (.ref a)]))) (fun t ks => XS.iload X0.here hx rfl (hb hby d6_25) rfl ks) ?_
      refine own_laload X0 hx hZ e0 A (v := (.long x0)) (by decide) (by show (0 : Int32) < 4; decide) rfl (hb hby d6_27) ?_
      show OGoes p.tables e below _ (T0.setTop (mkF m 28 #[.val (.ref a), .val (.int (0 : Int32)), .val (.int (3 : Int32)), .val (.long q), .second, .val (.int (0 : Int32)), .val (.int (0 : Int32)), .val (.int (0 : Int32)), .val (.long x1), .second] [(.long x0)]))
      refine own_st (V := (T0.setTop (mkF m 30 #[.val (.ref a), .val (.int (0 : Int32)), .val (.int (3 : Int32)), .val (.long q), .second, .val (.int (0 : Int32)), .val (.int (0 : Int32)), .val (.int (0 : Int32)), .val (.long x0), .second] []))) (fun t ks => XS.lstore X0.here hx rfl (hb hby d6_28) rfl (l' := #[.val (.ref a), .val (.int (0 : Int32)), .val (.int (3 : Int32)), .val (.long q), .second, .val (.int (0 : Int32)), .val (.int (0 : Int32)), .val (.int (0 : Int32)), .val (.long x0), .second]) rfl ks) ?_
      refine own_st (V := (T0.setTop (mkF m 32 #[.val (.ref a), .val (.int (0 : Int32)), .val (.int (3 : Int32)), .val (.long q), .second, .val (.int (0 : Int32)), .val (.int (0 : Int32)), .val (.int (0 : Int32)), .val (.long x0), .second] [(.long x0)]))) (fun t ks => XS.lload X0.here hx rfl (hb hby d6_30) rfl ks) ?_
      refine own_st (V := (T0.setTop (mkF m 33 #[.val (.ref a), .val (.int (0 : Int32)), .val (.int (3 : Int32)), .val (.long q), .second, .val (.int (0 : Int32)), .val (.int (0 : Int32)), .val (.int (0 : Int32)), .val (.long x0), .second] [(.long q), (.long x0)]))) (fun t ks => XS.lloadN X0.here hx rfl (hb hby d6_32) rfl ks) ?_
      refine own_st (V := (T0.setTop (mkF m 34 #[.val (.ref a), .val (.int (0 : Int32)), .val (.int (3 : Int32)), .val (.long q), .second, .val (.int (0 : Int32)), .val (.int (0 : Int32)), .val (.int (0 : Int32)), .val (.long x0), .second] [(.int (lcmpW x0 q))]))) (fun t ks => XS.lcmp X0.here hx rfl (hb hby d6_33) rfl ks) ?_
      by_cases c0_2 : x0 < q
      · refine own_st (V := (T0.setTop (mkF m 37 #[.val (.ref a), .val (.int (0 : Int32)), .val (.int (3 : Int32)), .val (.long q), .second, .val (.int (0 : Int32)), .val (.int (0 : Int32)), .val (.int (0 : Int32)), .val (.long x0), .second] []))) (fun t ks => XS.ifNo X0.here hx rfl (hb hby d6_34) rfl (XT.ll_ge_f c0_2) ks) ?_
        refine own_st (V := (T0.setTop (mkF m 39 #[.val (.ref a), .val (.int (0 : Int32)), .val (.int (3 : Int32)), .val (.long q), .second, .val (.int (0 : Int32)), .val (.int (0 : Int32)), .val (.int (0 : Int32)), .val (.long x0), .second] [(.int (0 : Int32))]))) (fun t ks => XS.iload X0.here hx rfl (hb hby d6_37) rfl ks) ?_
        refine own_st (V := (T0.setTop (mkF m 40 #[.val (.ref a), .val (.int (0 : Int32)), .val (.int (3 : Int32)), .val (.long q), .second, .val (.int (0 : Int32)), .val (.int (0 : Int32)), .val (.int (0 : Int32)), .val (.long x0), .second] [(.int (1 : Int32)), (.int (0 : Int32))]))) (fun t ks => XS.iconst X0.here hx rfl (hb hby d6_39) ks) ?_
        refine own_st (V := (T0.setTop (mkF m 41 #[.val (.ref a), .val (.int (0 : Int32)), .val (.int (3 : Int32)), .val (.long q), .second, .val (.int (0 : Int32)), .val (.int (0 : Int32)), .val (.int (0 : Int32)), .val (.long x0), .second] [(.int ((0 : Int32) + (1 : Int32)))]))) (fun t ks => XS.iadd X0.here hx rfl (hb hby d6_40) rfl ks) ?_
        refine own_cast (g' := (mkF m 41 #[.val (.ref a), .val (.int (0 : Int32)), .val (.int (3 : Int32)), .val (.long q), .second, .val (.int (0 : Int32)), .val (.int (0 : Int32)), .val (.int (0 : Int32)), .val (.long x0), .second] [(.int (1 : Int32))])) (by rw [show ((0 : Int32) + (1 : Int32)) = (1 : Int32) from by decide]) ?_
        refine own_st (V := (T0.setTop (mkF m 43 #[.val (.ref a), .val (.int (0 : Int32)), .val (.int (3 : Int32)), .val (.long q), .second, .val (.int (1 : Int32)), .val (.int (0 : Int32)), .val (.int (0 : Int32)), .val (.long x0), .second] []))) (fun t ks => XS.istore X0.here hx rfl (hb hby d6_41) rfl (l' := #[.val (.ref a), .val (.int (0 : Int32)), .val (.int (3 : Int32)), .val (.long q), .second, .val (.int (1 : Int32)), .val (.int (0 : Int32)), .val (.int (0 : Int32)), .val (.long x0), .second]) rfl ks) ?_
        refine own_st (V := (T0.setTop (mkF m 65 #[.val (.ref a), .val (.int (0 : Int32)), .val (.int (3 : Int32)), .val (.long q), .second, .val (.int (1 : Int32)), .val (.int (0 : Int32)), .val (.int (0 : Int32)), .val (.long x0), .second] []))) (fun t ks => XS.goto X0.here hx rfl (pc0 := 43) (pc' := 65) rfl (hb hby d6_43) (by decide) (by decide) ks) ?_
        refine own_st (V := (T0.setTop (mkF m 8 #[.val (.ref a), .val (.int (0 : Int32)), .val (.int (3 : Int32)), .val (.long q), .second, .val (.int (1 : Int32)), .val (.int (0 : Int32)), .val (.int (0 : Int32)), .val (.long x0), .second] []))) (fun t ks => XS.goto X0.here hx rfl (pc0 := 65) (pc' := 8) rfl (hb hby d6_65) (by decide) (by decide) ks) ?_
        refine own_st (V := (T0.setTop (mkF m 10 #[.val (.ref a), .val (.int (0 : Int32)), .val (.int (3 : Int32)), .val (.long q), .second, .val (.int (1 : Int32)), .val (.int (0 : Int32)), .val (.int (0 : Int32)), .val (.long x0), .second] [(.int (1 : Int32))]))) (fun t ks => XS.iload X0.here hx rfl (hb hby d6_8) rfl ks) ?_
        refine own_st (V := (T0.setTop (mkF m 12 #[.val (.ref a), .val (.int (0 : Int32)), .val (.int (3 : Int32)), .val (.long q), .second, .val (.int (1 : Int32)), .val (.int (0 : Int32)), .val (.int (0 : Int32)), .val (.long x0), .second] [(.int (0 : Int32)), (.int (1 : Int32))]))) (fun t ks => XS.iload X0.here hx rfl (hb hby d6_10) rfl ks) ?_
        refine own_st (V := (T0.setTop (mkF m 68 #[.val (.ref a), .val (.int (0 : Int32)), .val (.int (3 : Int32)), .val (.long q), .second, .val (.int (1 : Int32)), .val (.int (0 : Int32)), .val (.int (0 : Int32)), .val (.long x0), .second] []))) (fun t ks => XS.icmpYes X0.here hx rfl (pc0 := 12) (pc' := 68) rfl (hb hby d6_12) rfl (XT.ii_gt_t (by decide)) (by decide) (by decide) ks) ?_
        refine own_st (V := (T0.setTop (mkF m 70 #[.val (.ref a), .val (.int (0 : Int32)), .val (.int (3 : Int32)), .val (.long q), .second, .val (.int (1 : Int32)), .val (.int (0 : Int32)), .val (.int (0 : Int32)), .val (.long x0), .second] [(.int (1 : Int32))]))) (fun t ks => XS.iload X0.here hx rfl (hb hby d6_68) rfl ks) ?_
        refine own_st (V := (T0.setTop (mkF m 71 #[.val (.ref a), .val (.int (0 : Int32)), .val (.int (3 : Int32)), .val (.long q), .second, .val (.int (1 : Int32)), .val (.int (0 : Int32)), .val (.int (0 : Int32)), .val (.long x0), .second] [(.int (1 : Int32)), (.int (1 : Int32))]))) (fun t ks => XS.iconst X0.here hx rfl (hb hby d6_70) ks) ?_
        refine own_st (V := (T0.setTop (mkF m 72 #[.val (.ref a), .val (.int (0 : Int32)), .val (.int (3 : Int32)), .val (.long q), .second, .val (.int (1 : Int32)), .val (.int (0 : Int32)), .val (.int (0 : Int32)), .val (.long x0), .second] [(.int ((1 : Int32) + (1 : Int32)))]))) (fun t ks => XS.iadd X0.here hx rfl (hb hby d6_71) rfl ks) ?_
        refine own_st (V := (T0.setTop (mkF m 73 #[.val (.ref a), .val (.int (0 : Int32)), .val (.int (3 : Int32)), .val (.long q), .second, .val (.int (1 : Int32)), .val (.int (0 : Int32)), .val (.int (0 : Int32)), .val (.long x0), .second] [(.int (-((1 : Int32) + (1 : Int32))))]))) (fun t ks => XS.ineg X0.here hx rfl (hb hby d6_72) rfl ks) ?_
        exact own_retI X0 hx hlk hret (hb hby d6_73) (by decide) (by decide) ⟨by simp [own_bs, c1_0, c1_0b, c0_2] <;> decide, e0, rfl⟩
      · refine own_st (V := (T0.setTop (mkF m 46 #[.val (.ref a), .val (.int (0 : Int32)), .val (.int (3 : Int32)), .val (.long q), .second, .val (.int (0 : Int32)), .val (.int (0 : Int32)), .val (.int (0 : Int32)), .val (.long x0), .second] []))) (fun t ks => XS.ifYes X0.here hx rfl (pc0 := 34) (pc' := 46) rfl (hb hby d6_34) rfl (XT.ll_ge_t c0_2) (by decide) (by decide) ks) ?_
        refine own_st (V := (T0.setTop (mkF m 48 #[.val (.ref a), .val (.int (0 : Int32)), .val (.int (3 : Int32)), .val (.long q), .second, .val (.int (0 : Int32)), .val (.int (0 : Int32)), .val (.int (0 : Int32)), .val (.long x0), .second] [(.long x0)]))) (fun t ks => XS.lload X0.here hx rfl (hb hby d6_46) rfl ks) ?_
        refine own_st (V := (T0.setTop (mkF m 49 #[.val (.ref a), .val (.int (0 : Int32)), .val (.int (3 : Int32)), .val (.long q), .second, .val (.int (0 : Int32)), .val (.int (0 : Int32)), .val (.int (0 : Int32)), .val (.long x0), .second] [(.long q), (.long x0)]))) (fun t ks => XS.lloadN X0.here hx rfl (hb hby d6_48) rfl ks) ?_
        refine own_st (V := (T0.setTop (mkF m 50 #[.val (.ref a), .val (.int (0 : Int32)), .val (.int (3 : Int32)), .val (.long q), .second, .val (.int (0 : Int32)), .val (.int (0 : Int32)), .val (.int (0 : Int32)), .val (.long x0), .second] [(.int (lcmpW x0 q))]))) (fun t ks => XS.lcmp X0.here hx rfl (hb hby d6_49) rfl ks) ?_
        by_cases c0_2b : q < x0
        · refine own_st (V := (T0.setTop (mkF m 53 #[.val (.ref a), .val (.int (0 : Int32)), .val (.int (3 : Int32)), .val (.long q), .second, .val (.int (0 : Int32)), .val (.int (0 : Int32)), .val (.int (0 : Int32)), .val (.long x0), .second] []))) (fun t ks => XS.ifNo X0.here hx rfl (hb hby d6_50) rfl (XT.ll_le_f c0_2b) ks) ?_
          refine own_st (V := (T0.setTop (mkF m 55 #[.val (.ref a), .val (.int (0 : Int32)), .val (.int (3 : Int32)), .val (.long q), .second, .val (.int (0 : Int32)), .val (.int (0 : Int32)), .val (.int (0 : Int32)), .val (.long x0), .second] [(.int (0 : Int32))]))) (fun t ks => XS.iload X0.here hx rfl (hb hby d6_53) rfl ks) ?_
          refine own_st (V := (T0.setTop (mkF m 56 #[.val (.ref a), .val (.int (0 : Int32)), .val (.int (3 : Int32)), .val (.long q), .second, .val (.int (0 : Int32)), .val (.int (0 : Int32)), .val (.int (0 : Int32)), .val (.long x0), .second] [(.int (1 : Int32)), (.int (0 : Int32))]))) (fun t ks => XS.iconst X0.here hx rfl (hb hby d6_55) ks) ?_
          refine own_st (V := (T0.setTop (mkF m 57 #[.val (.ref a), .val (.int (0 : Int32)), .val (.int (3 : Int32)), .val (.long q), .second, .val (.int (0 : Int32)), .val (.int (0 : Int32)), .val (.int (0 : Int32)), .val (.long x0), .second] [(.int ((0 : Int32) - (1 : Int32)))]))) (fun t ks => XS.isub X0.here hx rfl (hb hby d6_56) rfl ks) ?_
          refine own_cast (g' := (mkF m 57 #[.val (.ref a), .val (.int (0 : Int32)), .val (.int (3 : Int32)), .val (.long q), .second, .val (.int (0 : Int32)), .val (.int (0 : Int32)), .val (.int (0 : Int32)), .val (.long x0), .second] [(.int (-1 : Int32))])) (by rw [show ((0 : Int32) - (1 : Int32)) = (-1 : Int32) from by decide]) ?_
          refine own_st (V := (T0.setTop (mkF m 59 #[.val (.ref a), .val (.int (0 : Int32)), .val (.int (3 : Int32)), .val (.long q), .second, .val (.int (0 : Int32)), .val (.int (-1 : Int32)), .val (.int (0 : Int32)), .val (.long x0), .second] []))) (fun t ks => XS.istore X0.here hx rfl (hb hby d6_57) rfl (l' := #[.val (.ref a), .val (.int (0 : Int32)), .val (.int (3 : Int32)), .val (.long q), .second, .val (.int (0 : Int32)), .val (.int (-1 : Int32)), .val (.int (0 : Int32)), .val (.long x0), .second]) rfl ks) ?_
          refine own_st (V := (T0.setTop (mkF m 65 #[.val (.ref a), .val (.int (0 : Int32)), .val (.int (3 : Int32)), .val (.long q), .second, .val (.int (0 : Int32)), .val (.int (-1 : Int32)), .val (.int (0 : Int32)), .val (.long x0), .second] []))) (fun t ks => XS.goto X0.here hx rfl (pc0 := 59) (pc' := 65) rfl (hb hby d6_59) (by decide) (by decide) ks) ?_
          refine own_st (V := (T0.setTop (mkF m 8 #[.val (.ref a), .val (.int (0 : Int32)), .val (.int (3 : Int32)), .val (.long q), .second, .val (.int (0 : Int32)), .val (.int (-1 : Int32)), .val (.int (0 : Int32)), .val (.long x0), .second] []))) (fun t ks => XS.goto X0.here hx rfl (pc0 := 65) (pc' := 8) rfl (hb hby d6_65) (by decide) (by decide) ks) ?_
          refine own_st (V := (T0.setTop (mkF m 10 #[.val (.ref a), .val (.int (0 : Int32)), .val (.int (3 : Int32)), .val (.long q), .second, .val (.int (0 : Int32)), .val (.int (-1 : Int32)), .val (.int (0 : Int32)), .val (.long x0), .second] [(.int (0 : Int32))]))) (fun t ks => XS.iload X0.here hx rfl (hb hby d6_8) rfl ks) ?_
          refine own_st (V := (T0.setTop (mkF m 12 #[.val (.ref a), .val (.int (0 : Int32)), .val (.int (3 : Int32)), .val (.long q), .second, .val (.int (0 : Int32)), .val (.int (-1 : Int32)), .val (.int (0 : Int32)), .val (.long x0), .second] [(.int (-1 : Int32)), (.int (0 : Int32))]))) (fun t ks => XS.iload X0.here hx rfl (hb hby d6_10) rfl ks) ?_
          refine own_st (V := (T0.setTop (mkF m 68 #[.val (.ref a), .val (.int (0 : Int32)), .val (.int (3 : Int32)), .val (.long q), .second, .val (.int (0 : Int32)), .val (.int (-1 : Int32)), .val (.int (0 : Int32)), .val (.long x0), .second] []))) (fun t ks => XS.icmpYes X0.here hx rfl (pc0 := 12) (pc' := 68) rfl (hb hby d6_12) rfl (XT.ii_gt_t (by decide)) (by decide) (by decide) ks) ?_
          refine own_st (V := (T0.setTop (mkF m 70 #[.val (.ref a), .val (.int (0 : Int32)), .val (.int (3 : Int32)), .val (.long q), .second, .val (.int (0 : Int32)), .val (.int (-1 : Int32)), .val (.int (0 : Int32)), .val (.long x0), .second] [(.int (0 : Int32))]))) (fun t ks => XS.iload X0.here hx rfl (hb hby d6_68) rfl ks) ?_
          refine own_st (V := (T0.setTop (mkF m 71 #[.val (.ref a), .val (.int (0 : Int32)), .val (.int (3 : Int32)), .val (.long q), .second, .val (.int (0 : Int32)), .val (.int (-1 : Int32)), .val (.int (0 : Int32)), .val (.long x0), .second] [(.int (1 : Int32)), (.int (0 : Int32))]))) (fun t ks => XS.iconst X0.here hx rfl (hb hby d6_70) ks) ?_
          refine own_st (V := (T0.setTop (mkF m 72 #[.val (.ref a), .val (.int (0 : Int32)), .val (.int (3 : Int32)), .val (.long q), .second, .val (.int (0 : Int32)), .val (.int (-1 : Int32)), .val (.int (0 : Int32)), .val (.long x0), .second] [(.int ((0 : Int32) + (1 : Int32)))]))) (fun t ks => XS.iadd X0.here hx rfl (hb hby d6_71) rfl ks) ?_
          refine own_st (V := (T0.setTop (mkF m 73 #[.val (.ref a), .val (.int (0 : Int32)), .val (.int (3 : Int32)), .val (.long q), .second, .val (.int (0 : Int32)), .val (.int (-1 : Int32)), .val (.int (0 : Int32)), .val (.long x0), .second] [(.int (-((0 : Int32) + (1 : Int32))))]))) (fun t ks => XS.ineg X0.here hx rfl (hb hby d6_72) rfl ks) ?_
          exact own_retI X0 hx hlk hret (hb hby d6_73) (by decide) (by decide) ⟨by simp [own_bs, c1_0, c1_0b, c0_2, c0_2b] <;> decide, e0, rfl⟩
        · refine own_st (V := (T0.setTop (mkF m 62 #[.val (.ref a), .val (.int (0 : Int32)), .val (.int (3 : Int32)), .val (.long q), .second, .val (.int (0 : Int32)), .val (.int (0 : Int32)), .val (.int (0 : Int32)), .val (.long x0), .second] []))) (fun t ks => XS.ifYes X0.here hx rfl (pc0 := 50) (pc' := 62) rfl (hb hby d6_50) rfl (XT.ll_le_t c0_2b) (by decide) (by decide) ks) ?_
          refine own_st (V := (T0.setTop (mkF m 64 #[.val (.ref a), .val (.int (0 : Int32)), .val (.int (3 : Int32)), .val (.long q), .second, .val (.int (0 : Int32)), .val (.int (0 : Int32)), .val (.int (0 : Int32)), .val (.long x0), .second] [(.int (0 : Int32))]))) (fun t ks => XS.iload X0.here hx rfl (hb hby d6_62) rfl ks) ?_
          exact own_retI X0 hx hlk hret (hb hby d6_64) (by decide) (by decide) ⟨by simp [own_bs, c1_0, c1_0b, c0_2, c0_2b], e0, rfl⟩
    · refine own_st (V := (T0.setTop (mkF m 62 #[.val (.ref a), .val (.int (0 : Int32)), .val (.int (3 : Int32)), .val (.long q), .second, .val (.int (0 : Int32)), .val (.int (2 : Int32)), .val (.int (1 : Int32)), .val (.long x1), .second] []))) (fun t ks => XS.ifYes X0.here hx rfl (pc0 := 50) (pc' := 62) rfl (hb hby d6_50) rfl (XT.ll_le_t c1_0b) (by decide) (by decide) ks) ?_
      refine own_st (V := (T0.setTop (mkF m 64 #[.val (.ref a), .val (.int (0 : Int32)), .val (.int (3 : Int32)), .val (.long q), .second, .val (.int (0 : Int32)), .val (.int (2 : Int32)), .val (.int (1 : Int32)), .val (.long x1), .second] [(.int (1 : Int32))]))) (fun t ks => XS.iload X0.here hx rfl (hb hby d6_62) rfl ks) ?_
      exact own_retI X0 hx hlk hret (hb hby d6_64) (by decide) (by decide) ⟨by simp [own_bs, c1_0, c1_0b], e0, rfl⟩
theorem ef_rmBS0 (m : MethodId) (x0 : Nat) (x1 : Int32) (x2 : Int32) (x3 : Int64) : entryFrame m #[(.ref x0), (.int x1), (.int x2), (.long x3)] 5 = mkF m 0 #[.val (.ref x0), .val (.int x1), .val (.int x2), .val (.long x3), .second] [] := by first | (simp [entryFrame, mkF, argsToLocals, Value.category]; done) | rfl
set_option maxRecDepth 65536 in
set_option maxHeartbeats 40000000 in
theorem rmBS0 (l : Launch) (Z : State) (a0 : Array Value) (hw : ∀ d ∈ tables_1, d.before a0 Z = true) (a : Nat) (k : ClassId) (q : Int64) (r : Int32) (hr : own_bs [] q = r) (h0 : Heap) (A : Arv Z h0 a k .long 0 (own_pad []) (.long 0)) :
    OPure l Z (⟨"java/util/Arrays", "binarySearch", "([JIIJ)I"⟩ : MethodName) jdk_65_method_55_code 5 (some .int) 1 21 #[(.ref a), (.int (0 : Int32)), (.int (0 : Int32)), (.long q)] h0 (some (.int r)) := by
  refine own_body pf_4 ?_
  intro p e s m below meth c T0 X0 hx hby hml hZ hown hnm hret hlk e0
  replace hown : s.vm.findClass "java/util/Arrays" = some m.cls := hown
  refine own_cast (ef_rmBS0 m (a) ((0 : Int32)) ((0 : Int32)) (q)) ?_
  show OGoes p.tables e below _ (T0.setTop (mkF m 0 #[.val (.ref a), .val (.int (0 : Int32)), .val (.int (0 : Int32)), .val (.long q), .second] []))
  refine own_st (V := (T0.setTop (mkF m 1 #[.val (.ref a), .val (.int (0 : Int32)), .val (.int (0 : Int32)), .val (.long q), .second] [(.ref a)]))) (fun t ks => XS.aloadN X0.here hx rfl (hb hby d4_0) rfl rfl ks) ?_
  refine own_alen X0 hx hZ e0 A (hb hby d4_1) ?_
  show OGoes p.tables e below _ (T0.setTop (mkF m 2 #[.val (.ref a), .val (.int (0 : Int32)), .val (.int (0 : Int32)), .val (.long q), .second] [(.int (0 : Int32))]))
  refine own_st (V := (T0.setTop (mkF m 3 #[.val (.ref a), .val (.int (0 : Int32)), .val (.int (0 : Int32)), .val (.long q), .second] [(.int (0 : Int32)), (.int (0 : Int32))]))) (fun t ks => XS.iloadN X0.here hx rfl (hb hby d4_2) rfl ks) ?_
  refine own_st (V := (T0.setTop (mkF m 4 #[.val (.ref a), .val (.int (0 : Int32)), .val (.int (0 : Int32)), .val (.long q), .second] [(.int (0 : Int32)), (.int (0 : Int32)), (.int (0 : Int32))]))) (fun t ks => XS.iloadN X0.here hx rfl (hb hby d4_3) rfl ks) ?_
  refine own_callS0 X0 hx hZ hown (hw _ (List.mem_of_getElem? (i := 35) rfl)) (hw _ (List.mem_of_getElem? (i := 36) rfl)) (hw _ (List.mem_of_getElem? (i := 33) rfl)) (hw _ (List.mem_of_getElem? (i := 37) rfl)) (by decide) (rmRC l Z a0 hw 0 0 (by decide) (by decide) h0) e0 (by rw [hml]; rfl) (argsL := [(.int (0 : Int32)), (.int (0 : Int32)), (.int (0 : Int32))]) (rest := []) pd_1 rfl rfl rfl (W := 0) (Nat.le_of_eq rfl) (hb hby d4_4) (by decide) (by decide) (by decide) (by decide) ?_
  intro T10 X10 e10
  show OGoes p.tables e below _ (T10.setTop (mkF m 7 #[.val (.ref a), .val (.int (0 : Int32)), .val (.int (0 : Int32)), .val (.long q), .second] []))
  refine own_st (V := (T10.setTop (mkF m 8 #[.val (.ref a), .val (.int (0 : Int32)), .val (.int (0 : Int32)), .val (.long q), .second] [(.ref a)]))) (fun t ks => XS.aloadN X10.here hx rfl (hb hby d4_7) rfl rfl ks) ?_
  refine own_st (V := (T10.setTop (mkF m 9 #[.val (.ref a), .val (.int (0 : Int32)), .val (.int (0 : Int32)), .val (.long q), .second] [(.int (0 : Int32)), (.ref a)]))) (fun t ks => XS.iloadN X10.here hx rfl (hb hby d4_8) rfl ks) ?_
  refine own_st (V := (T10.setTop (mkF m 10 #[.val (.ref a), .val (.int (0 : Int32)), .val (.int (0 : Int32)), .val (.long q), .second] [(.int (0 : Int32)), (.int (0 : Int32)), (.ref a)]))) (fun t ks => XS.iloadN X10.here hx rfl (hb hby d4_9) rfl ks) ?_
  refine own_st (V := (T10.setTop (mkF m 11 #[.val (.ref a), .val (.int (0 : Int32)), .val (.int (0 : Int32)), .val (.long q), .second] [(.long q), (.int (0 : Int32)), (.int (0 : Int32)), (.ref a)]))) (fun t ks => XS.lloadN X10.here hx rfl (hb hby d4_10) rfl ks) ?_
  refine own_callS0 X10 hx hZ hown (hw _ (List.mem_of_getElem? (i := 38) rfl)) (hw _ (List.mem_of_getElem? (i := 39) rfl)) (hw _ (List.mem_of_getElem? (i := 33) rfl)) (hw _ (List.mem_of_getElem? (i := 40) rfl)) (by decide) (rmB0 l Z a0 hw a k q  h0 A) e10 (by rw [hml]; rfl) (argsL := [(.ref a), (.int (0 : Int32)), (.int (0 : Int32)), (.long q)]) (rest := []) pd_2 rfl rfl rfl (W := 0) (Nat.le_of_eq rfl) (hb hby d4_11) (by decide) (by decide) (by decide) (by decide) ?_
  intro T11 X11 e11
  show OGoes p.tables e below _ (T11.setTop (mkF m 14 #[.val (.ref a), .val (.int (0 : Int32)), .val (.int (0 : Int32)), .val (.long q), .second] [(.int (own_bs [] q))]))
  exact own_retI X11 hx hlk hret (hb hby d4_14) (by decide) (by decide) ⟨congrArg (fun z => some (Value.int z)) hr, e11, rfl⟩
theorem ef_rmBS1 (m : MethodId) (x0 : Nat) (x1 : Int32) (x2 : Int32) (x3 : Int64) : entryFrame m #[(.ref x0), (.int x1), (.int x2), (.long x3)] 5 = mkF m 0 #[.val (.ref x0), .val (.int x1), .val (.int x2), .val (.long x3), .second] [] := by first | (simp [entryFrame, mkF, argsToLocals, Value.category]; done) | rfl
set_option maxRecDepth 65536 in
set_option maxHeartbeats 40000000 in
theorem rmBS1 (l : Launch) (Z : State) (a0 : Array Value) (hw : ∀ d ∈ tables_1, d.before a0 Z = true) (a : Nat) (k : ClassId) (q x0 : Int64) (r : Int32) (hr : own_bs [x0] q = r) (h0 : Heap) (A : Arv Z h0 a k .long 4 (own_pad [x0]) (.long 0)) :
    OPure l Z (⟨"java/util/Arrays", "binarySearch", "([JIIJ)I"⟩ : MethodName) jdk_65_method_55_code 5 (some .int) 1 21 #[(.ref a), (.int (0 : Int32)), (.int (1 : Int32)), (.long q)] h0 (some (.int r)) := by
  refine own_body pf_4 ?_
  intro p e s m below meth c T0 X0 hx hby hml hZ hown hnm hret hlk e0
  replace hown : s.vm.findClass "java/util/Arrays" = some m.cls := hown
  refine own_cast (ef_rmBS1 m (a) ((0 : Int32)) ((1 : Int32)) (q)) ?_
  show OGoes p.tables e below _ (T0.setTop (mkF m 0 #[.val (.ref a), .val (.int (0 : Int32)), .val (.int (1 : Int32)), .val (.long q), .second] []))
  refine own_st (V := (T0.setTop (mkF m 1 #[.val (.ref a), .val (.int (0 : Int32)), .val (.int (1 : Int32)), .val (.long q), .second] [(.ref a)]))) (fun t ks => XS.aloadN X0.here hx rfl (hb hby d4_0) rfl rfl ks) ?_
  refine own_alen X0 hx hZ e0 A (hb hby d4_1) ?_
  show OGoes p.tables e below _ (T0.setTop (mkF m 2 #[.val (.ref a), .val (.int (0 : Int32)), .val (.int (1 : Int32)), .val (.long q), .second] [(.int (4 : Int32))]))
  refine own_st (V := (T0.setTop (mkF m 3 #[.val (.ref a), .val (.int (0 : Int32)), .val (.int (1 : Int32)), .val (.long q), .second] [(.int (0 : Int32)), (.int (4 : Int32))]))) (fun t ks => XS.iloadN X0.here hx rfl (hb hby d4_2) rfl ks) ?_
  refine own_st (V := (T0.setTop (mkF m 4 #[.val (.ref a), .val (.int (0 : Int32)), .val (.int (1 : Int32)), .val (.long q), .second] [(.int (1 : Int32)), (.int (0 : Int32)), (.int (4 : Int32))]))) (fun t ks => XS.iloadN X0.here hx rfl (hb hby d4_3) rfl ks) ?_
  refine own_callS0 X0 hx hZ hown (hw _ (List.mem_of_getElem? (i := 35) rfl)) (hw _ (List.mem_of_getElem? (i := 36) rfl)) (hw _ (List.mem_of_getElem? (i := 33) rfl)) (hw _ (List.mem_of_getElem? (i := 37) rfl)) (by decide) (rmRC l Z a0 hw 4 1 (by decide) (by decide) h0) e0 (by rw [hml]; rfl) (argsL := [(.int (4 : Int32)), (.int (0 : Int32)), (.int (1 : Int32))]) (rest := []) pd_1 rfl rfl rfl (W := 0) (Nat.le_of_eq rfl) (hb hby d4_4) (by decide) (by decide) (by decide) (by decide) ?_
  intro T12 X12 e12
  show OGoes p.tables e below _ (T12.setTop (mkF m 7 #[.val (.ref a), .val (.int (0 : Int32)), .val (.int (1 : Int32)), .val (.long q), .second] []))
  refine own_st (V := (T12.setTop (mkF m 8 #[.val (.ref a), .val (.int (0 : Int32)), .val (.int (1 : Int32)), .val (.long q), .second] [(.ref a)]))) (fun t ks => XS.aloadN X12.here hx rfl (hb hby d4_7) rfl rfl ks) ?_
  refine own_st (V := (T12.setTop (mkF m 9 #[.val (.ref a), .val (.int (0 : Int32)), .val (.int (1 : Int32)), .val (.long q), .second] [(.int (0 : Int32)), (.ref a)]))) (fun t ks => XS.iloadN X12.here hx rfl (hb hby d4_8) rfl ks) ?_
  refine own_st (V := (T12.setTop (mkF m 10 #[.val (.ref a), .val (.int (0 : Int32)), .val (.int (1 : Int32)), .val (.long q), .second] [(.int (1 : Int32)), (.int (0 : Int32)), (.ref a)]))) (fun t ks => XS.iloadN X12.here hx rfl (hb hby d4_9) rfl ks) ?_
  refine own_st (V := (T12.setTop (mkF m 11 #[.val (.ref a), .val (.int (0 : Int32)), .val (.int (1 : Int32)), .val (.long q), .second] [(.long q), (.int (1 : Int32)), (.int (0 : Int32)), (.ref a)]))) (fun t ks => XS.lloadN X12.here hx rfl (hb hby d4_10) rfl ks) ?_
  refine own_callS0 X12 hx hZ hown (hw _ (List.mem_of_getElem? (i := 38) rfl)) (hw _ (List.mem_of_getElem? (i := 39) rfl)) (hw _ (List.mem_of_getElem? (i := 33) rfl)) (hw _ (List.mem_of_getElem? (i := 40) rfl)) (by decide) (rmB1 l Z a0 hw a k q x0 h0 A) e12 (by rw [hml]; rfl) (argsL := [(.ref a), (.int (0 : Int32)), (.int (1 : Int32)), (.long q)]) (rest := []) pd_2 rfl rfl rfl (W := 0) (Nat.le_of_eq rfl) (hb hby d4_11) (by decide) (by decide) (by decide) (by decide) ?_
  intro T13 X13 e13
  show OGoes p.tables e below _ (T13.setTop (mkF m 14 #[.val (.ref a), .val (.int (0 : Int32)), .val (.int (1 : Int32)), .val (.long q), .second] [(.int (own_bs [x0] q))]))
  exact own_retI X13 hx hlk hret (hb hby d4_14) (by decide) (by decide) ⟨congrArg (fun z => some (Value.int z)) hr, e13, rfl⟩
theorem ef_rmBS2 (m : MethodId) (x0 : Nat) (x1 : Int32) (x2 : Int32) (x3 : Int64) : entryFrame m #[(.ref x0), (.int x1), (.int x2), (.long x3)] 5 = mkF m 0 #[.val (.ref x0), .val (.int x1), .val (.int x2), .val (.long x3), .second] [] := by first | (simp [entryFrame, mkF, argsToLocals, Value.category]; done) | rfl
set_option maxRecDepth 65536 in
set_option maxHeartbeats 40000000 in
theorem rmBS2 (l : Launch) (Z : State) (a0 : Array Value) (hw : ∀ d ∈ tables_1, d.before a0 Z = true) (a : Nat) (k : ClassId) (q x0 x1 : Int64) (r : Int32) (hr : own_bs [x0, x1] q = r) (h0 : Heap) (A : Arv Z h0 a k .long 4 (own_pad [x0, x1]) (.long 0)) :
    OPure l Z (⟨"java/util/Arrays", "binarySearch", "([JIIJ)I"⟩ : MethodName) jdk_65_method_55_code 5 (some .int) 1 21 #[(.ref a), (.int (0 : Int32)), (.int (2 : Int32)), (.long q)] h0 (some (.int r)) := by
  refine own_body pf_4 ?_
  intro p e s m below meth c T0 X0 hx hby hml hZ hown hnm hret hlk e0
  replace hown : s.vm.findClass "java/util/Arrays" = some m.cls := hown
  refine own_cast (ef_rmBS2 m (a) ((0 : Int32)) ((2 : Int32)) (q)) ?_
  show OGoes p.tables e below _ (T0.setTop (mkF m 0 #[.val (.ref a), .val (.int (0 : Int32)), .val (.int (2 : Int32)), .val (.long q), .second] []))
  refine own_st (V := (T0.setTop (mkF m 1 #[.val (.ref a), .val (.int (0 : Int32)), .val (.int (2 : Int32)), .val (.long q), .second] [(.ref a)]))) (fun t ks => XS.aloadN X0.here hx rfl (hb hby d4_0) rfl rfl ks) ?_
  refine own_alen X0 hx hZ e0 A (hb hby d4_1) ?_
  show OGoes p.tables e below _ (T0.setTop (mkF m 2 #[.val (.ref a), .val (.int (0 : Int32)), .val (.int (2 : Int32)), .val (.long q), .second] [(.int (4 : Int32))]))
  refine own_st (V := (T0.setTop (mkF m 3 #[.val (.ref a), .val (.int (0 : Int32)), .val (.int (2 : Int32)), .val (.long q), .second] [(.int (0 : Int32)), (.int (4 : Int32))]))) (fun t ks => XS.iloadN X0.here hx rfl (hb hby d4_2) rfl ks) ?_
  refine own_st (V := (T0.setTop (mkF m 4 #[.val (.ref a), .val (.int (0 : Int32)), .val (.int (2 : Int32)), .val (.long q), .second] [(.int (2 : Int32)), (.int (0 : Int32)), (.int (4 : Int32))]))) (fun t ks => XS.iloadN X0.here hx rfl (hb hby d4_3) rfl ks) ?_
  refine own_callS0 X0 hx hZ hown (hw _ (List.mem_of_getElem? (i := 35) rfl)) (hw _ (List.mem_of_getElem? (i := 36) rfl)) (hw _ (List.mem_of_getElem? (i := 33) rfl)) (hw _ (List.mem_of_getElem? (i := 37) rfl)) (by decide) (rmRC l Z a0 hw 4 2 (by decide) (by decide) h0) e0 (by rw [hml]; rfl) (argsL := [(.int (4 : Int32)), (.int (0 : Int32)), (.int (2 : Int32))]) (rest := []) pd_1 rfl rfl rfl (W := 0) (Nat.le_of_eq rfl) (hb hby d4_4) (by decide) (by decide) (by decide) (by decide) ?_
  intro T14 X14 e14
  show OGoes p.tables e below _ (T14.setTop (mkF m 7 #[.val (.ref a), .val (.int (0 : Int32)), .val (.int (2 : Int32)), .val (.long q), .second] []))
  refine own_st (V := (T14.setTop (mkF m 8 #[.val (.ref a), .val (.int (0 : Int32)), .val (.int (2 : Int32)), .val (.long q), .second] [(.ref a)]))) (fun t ks => XS.aloadN X14.here hx rfl (hb hby d4_7) rfl rfl ks) ?_
  refine own_st (V := (T14.setTop (mkF m 9 #[.val (.ref a), .val (.int (0 : Int32)), .val (.int (2 : Int32)), .val (.long q), .second] [(.int (0 : Int32)), (.ref a)]))) (fun t ks => XS.iloadN X14.here hx rfl (hb hby d4_8) rfl ks) ?_
  refine own_st (V := (T14.setTop (mkF m 10 #[.val (.ref a), .val (.int (0 : Int32)), .val (.int (2 : Int32)), .val (.long q), .second] [(.int (2 : Int32)), (.int (0 : Int32)), (.ref a)]))) (fun t ks => XS.iloadN X14.here hx rfl (hb hby d4_9) rfl ks) ?_
  refine own_st (V := (T14.setTop (mkF m 11 #[.val (.ref a), .val (.int (0 : Int32)), .val (.int (2 : Int32)), .val (.long q), .second] [(.long q), (.int (2 : Int32)), (.int (0 : Int32)), (.ref a)]))) (fun t ks => XS.lloadN X14.here hx rfl (hb hby d4_10) rfl ks) ?_
  refine own_callS0 X14 hx hZ hown (hw _ (List.mem_of_getElem? (i := 38) rfl)) (hw _ (List.mem_of_getElem? (i := 39) rfl)) (hw _ (List.mem_of_getElem? (i := 33) rfl)) (hw _ (List.mem_of_getElem? (i := 40) rfl)) (by decide) (rmB2 l Z a0 hw a k q x0 x1 h0 A) e14 (by rw [hml]; rfl) (argsL := [(.ref a), (.int (0 : Int32)), (.int (2 : Int32)), (.long q)]) (rest := []) pd_2 rfl rfl rfl (W := 0) (Nat.le_of_eq rfl) (hb hby d4_11) (by decide) (by decide) (by decide) (by decide) ?_
  intro T15 X15 e15
  show OGoes p.tables e below _ (T15.setTop (mkF m 14 #[.val (.ref a), .val (.int (0 : Int32)), .val (.int (2 : Int32)), .val (.long q), .second] [(.int (own_bs [x0, x1] q))]))
  exact own_retI X15 hx hlk hret (hb hby d4_14) (by decide) (by decide) ⟨congrArg (fun z => some (Value.int z)) hr, e15, rfl⟩
theorem ef_rmBS3 (m : MethodId) (x0 : Nat) (x1 : Int32) (x2 : Int32) (x3 : Int64) : entryFrame m #[(.ref x0), (.int x1), (.int x2), (.long x3)] 5 = mkF m 0 #[.val (.ref x0), .val (.int x1), .val (.int x2), .val (.long x3), .second] [] := by first | (simp [entryFrame, mkF, argsToLocals, Value.category]; done) | rfl
set_option maxRecDepth 65536 in
set_option maxHeartbeats 40000000 in
theorem rmBS3 (l : Launch) (Z : State) (a0 : Array Value) (hw : ∀ d ∈ tables_1, d.before a0 Z = true) (a : Nat) (k : ClassId) (q x0 x1 x2 : Int64) (r : Int32) (hr : own_bs [x0, x1, x2] q = r) (h0 : Heap) (A : Arv Z h0 a k .long 4 (own_pad [x0, x1, x2]) (.long 0)) :
    OPure l Z (⟨"java/util/Arrays", "binarySearch", "([JIIJ)I"⟩ : MethodName) jdk_65_method_55_code 5 (some .int) 1 21 #[(.ref a), (.int (0 : Int32)), (.int (3 : Int32)), (.long q)] h0 (some (.int r)) := by
  refine own_body pf_4 ?_
  intro p e s m below meth c T0 X0 hx hby hml hZ hown hnm hret hlk e0
  replace hown : s.vm.findClass "java/util/Arrays" = some m.cls := hown
  refine own_cast (ef_rmBS3 m (a) ((0 : Int32)) ((3 : Int32)) (q)) ?_
  show OGoes p.tables e below _ (T0.setTop (mkF m 0 #[.val (.ref a), .val (.int (0 : Int32)), .val (.int (3 : Int32)), .val (.long q), .second] []))
  refine own_st (V := (T0.setTop (mkF m 1 #[.val (.ref a), .val (.int (0 : Int32)), .val (.int (3 : Int32)), .val (.long q), .second] [(.ref a)]))) (fun t ks => XS.aloadN X0.here hx rfl (hb hby d4_0) rfl rfl ks) ?_
  refine own_alen X0 hx hZ e0 A (hb hby d4_1) ?_
  show OGoes p.tables e below _ (T0.setTop (mkF m 2 #[.val (.ref a), .val (.int (0 : Int32)), .val (.int (3 : Int32)), .val (.long q), .second] [(.int (4 : Int32))]))
  refine own_st (V := (T0.setTop (mkF m 3 #[.val (.ref a), .val (.int (0 : Int32)), .val (.int (3 : Int32)), .val (.long q), .second] [(.int (0 : Int32)), (.int (4 : Int32))]))) (fun t ks => XS.iloadN X0.here hx rfl (hb hby d4_2) rfl ks) ?_
  refine own_st (V := (T0.setTop (mkF m 4 #[.val (.ref a), .val (.int (0 : Int32)), .val (.int (3 : Int32)), .val (.long q), .second] [(.int (3 : Int32)), (.int (0 : Int32)), (.int (4 : Int32))]))) (fun t ks => XS.iloadN X0.here hx rfl (hb hby d4_3) rfl ks) ?_
  refine own_callS0 X0 hx hZ hown (hw _ (List.mem_of_getElem? (i := 35) rfl)) (hw _ (List.mem_of_getElem? (i := 36) rfl)) (hw _ (List.mem_of_getElem? (i := 33) rfl)) (hw _ (List.mem_of_getElem? (i := 37) rfl)) (by decide) (rmRC l Z a0 hw 4 3 (by decide) (by decide) h0) e0 (by rw [hml]; rfl) (argsL := [(.int (4 : Int32)), (.int (0 : Int32)), (.int (3 : Int32))]) (rest := []) pd_1 rfl rfl rfl (W := 0) (Nat.le_of_eq rfl) (hb hby d4_4) (by decide) (by decide) (by decide) (by decide) ?_
  intro T16 X16 e16
  show OGoes p.tables e below _ (T16.setTop (mkF m 7 #[.val (.ref a), .val (.int (0 : Int32)), .val (.int (3 : Int32)), .val (.long q), .second] []))
  refine own_st (V := (T16.setTop (mkF m 8 #[.val (.ref a), .val (.int (0 : Int32)), .val (.int (3 : Int32)), .val (.long q), .second] [(.ref a)]))) (fun t ks => XS.aloadN X16.here hx rfl (hb hby d4_7) rfl rfl ks) ?_
  refine own_st (V := (T16.setTop (mkF m 9 #[.val (.ref a), .val (.int (0 : Int32)), .val (.int (3 : Int32)), .val (.long q), .second] [(.int (0 : Int32)), (.ref a)]))) (fun t ks => XS.iloadN X16.here hx rfl (hb hby d4_8) rfl ks) ?_
  refine own_st (V := (T16.setTop (mkF m 10 #[.val (.ref a), .val (.int (0 : Int32)), .val (.int (3 : Int32)), .val (.long q), .second] [(.int (3 : Int32)), (.int (0 : Int32)), (.ref a)]))) (fun t ks => XS.iloadN X16.here hx rfl (hb hby d4_9) rfl ks) ?_
  refine own_st (V := (T16.setTop (mkF m 11 #[.val (.ref a), .val (.int (0 : Int32)), .val (.int (3 : Int32)), .val (.long q), .second] [(.long q), (.int (3 : Int32)), (.int (0 : Int32)), (.ref a)]))) (fun t ks => XS.lloadN X16.here hx rfl (hb hby d4_10) rfl ks) ?_
  refine own_callS0 X16 hx hZ hown (hw _ (List.mem_of_getElem? (i := 38) rfl)) (hw _ (List.mem_of_getElem? (i := 39) rfl)) (hw _ (List.mem_of_getElem? (i := 33) rfl)) (hw _ (List.mem_of_getElem? (i := 40) rfl)) (by decide) (rmB3 l Z a0 hw a k q x0 x1 x2 h0 A) e16 (by rw [hml]; rfl) (argsL := [(.ref a), (.int (0 : Int32)), (.int (3 : Int32)), (.long q)]) (rest := []) pd_2 rfl rfl rfl (W := 0) (Nat.le_of_eq rfl) (hb hby d4_11) (by decide) (by decide) (by decide) (by decide) ?_
  intro T17 X17 e17
  show OGoes p.tables e below _ (T17.setTop (mkF m 14 #[.val (.ref a), .val (.int (0 : Int32)), .val (.int (3 : Int32)), .val (.long q), .second] [(.int (own_bs [x0, x1, x2] q))]))
  exact own_retI X17 hx hlk hret (hb hby d4_14) (by decide) (by decide) ⟨congrArg (fun z => some (Value.int z)) hr, e17, rfl⟩
theorem ef_rmIn (m : MethodId) (x0 : Nat) : entryFrame m #[(.ref x0)] 1 = mkF m 0 #[.val (.ref x0)] [] := by first | (simp [entryFrame, mkF, argsToLocals, Value.category]; done) | rfl
set_option maxRecDepth 65536 in
set_option maxHeartbeats 40000000 in
theorem rmIn (l : Launch) (Z : State) (a0 : Array Value) (hw : ∀ d ∈ tables_1, d.before a0 Z = true) (ep : Nat) (h0 : Heap) (hZ0 : Z.heap.size ≤ ep) (E : Exa Z h0 ep "com/example/killifish/killifish/store/Epochs") (FN : Fld Z h0 ep "com/example/killifish/killifish/store/Epochs" "numbers" "[J" .null) (FG : Fld Z h0 ep "com/example/killifish/killifish/store/Epochs" "generations" "[I" .null) (FW : Fld Z h0 ep "com/example/killifish/killifish/store/Epochs" "written" "[J" .null) (FC : Fld Z h0 ep "com/example/killifish/killifish/store/Epochs" "counts" "[I" .null) (FD : Fld Z h0 ep "com/example/killifish/killifish/store/Epochs" "deadBytes" "[J" .null) (FF : Fld Z h0 ep "com/example/killifish/killifish/store/Epochs" "flags" "[B" .null) (FS : Fld Z h0 ep "com/example/killifish/killifish/store/Epochs" "size" "I" (.int 0)) :
    OMet l Z (⟨"com/example/killifish/killifish/store/Epochs", "<init>", "()V"⟩ : MethodName) prog_13_method_1_code 1 none ⟨1, 6, 0, 12⟩ #[(.ref ep)] h0 (fun v h L => v = none ∧ Fr Z.heap.size L ∧ own_EP Z h ep 0 [] [] [] [] [] [] 0) := by
  refine own_body pf_1 ?_
  intro p e s m below meth c T0 X0 hx hby hml hZ hown hnm hret hlk e0
  replace hown : s.vm.findClass "com/example/killifish/killifish/store/Epochs" = some m.cls := hown
  refine own_cast (ef_rmIn m (ep)) ?_
  show OGoes p.tables e below _ (T0.setTop (mkF m 0 #[.val (.ref ep)] []))
  refine own_st (V := (T0.setTop (mkF m 1 #[.val (.ref ep)] [(.ref ep)]))) (fun t ks => XS.aloadN X0.here hx rfl (hb hby d1_0) rfl rfl ks) ?_
  obtain ⟨T18, X18, e18, st18⟩ := initO X0 hx hZ hown (hw _ (List.mem_of_getElem? (i := 6) rfl)) (hw _ (List.mem_of_getElem? (i := 7) rfl)) (hw _ (List.mem_of_getElem? (i := 8) rfl)) e0 (g := (mkF m 1 #[.val (.ref ep)] [(.ref ep)])) rfl (by rw [hml]; rfl) rfl (hb hby d1_1) (by decide) (W := 0) (by show 2 * 0 + _ ≤ _; exact Nat.le_of_eq rfl) (by decide)
  refine own_st (V := (T18.setTop (mkF m 4 #[.val (.ref ep)] []))) st18 ?_
  refine own_st (V := (T18.setTop (mkF m 5 #[.val (.ref ep)] [(.ref ep)]))) (fun t ks => XS.aloadN X18.here hx rfl (hb hby d1_4) rfl rfl ks) ?_
  refine own_st (V := (T18.setTop (mkF m 6 #[.val (.ref ep)] [(.int (0 : Int32)), (.ref ep)]))) (fun t ks => XS.iconst X18.here hx rfl (hb hby d1_5) ks) ?_
  have lt_ep : @LT.lt Nat _ ep h0.size := E.lt
  refine own_newarray X18 hx hZ e18 (hw _ (List.mem_of_getElem? (i := 9) rfl)) (by decide) (cap := 0) (by decide) (by decide) (by decide) (by decide) (ad := "[J") rfl (hb hby d1_6) ?_
  intro T19 h19 k19 b19 X19 e19 Ex19 g19 VN EVN
  replace E := E.ext Ex19
  replace FS := FS.ext Ex19
  replace FN := FN.ext Ex19
  replace FG := FG.ext Ex19
  replace FW := FW.ext Ex19
  replace FC := FC.ext Ex19
  replace FD := FD.ext Ex19
  replace FF := FF.ext Ex19
  have ltn_19 : @LT.lt Nat _ b19 h19.size := VN.lt
  show OGoes p.tables e below _ (T19.setTop (mkF m 8 #[.val (.ref ep)] [(.ref b19), (.ref ep)]))
  refine own_putfield X19 hx hZ e19 hown (hw _ (List.mem_of_getElem? (i := 10) rfl)) FN E (Or.inl (hw _ (List.mem_of_getElem? (i := 11) rfl))) (hw _ (List.mem_of_getElem? (i := 1) rfl)) (ty := (.array .long)) (by decide) rfl rfl (Fr.nil Z.heap.size) (by omega) (hb hby d1_8) ?_
  intro T20 h20 L20 X20 e20 N20 W20 Fn20
  replace E := E.wr W20
  replace FS := FS.other W20 (Or.inr (slot_ne (Or.inl (hw _ (List.mem_of_getElem? (i := 30) rfl))) (Or.inl (hw _ (List.mem_of_getElem? (i := 11) rfl))) (by decide) (t := .int) (by decide) (t' := (.array .long)) (by decide)))
  replace FG := FG.other W20 (Or.inr (slot_ne (Or.inl (hw _ (List.mem_of_getElem? (i := 14) rfl))) (Or.inl (hw _ (List.mem_of_getElem? (i := 11) rfl))) (by decide) (t := (.array .int)) (by decide) (t' := (.array .long)) (by decide)))
  replace FW := FW.other W20 (Or.inr (slot_ne (Or.inl (hw _ (List.mem_of_getElem? (i := 16) rfl))) (Or.inl (hw _ (List.mem_of_getElem? (i := 11) rfl))) (by decide) (t := (.array .long)) (by decide) (t' := (.array .long)) (by decide)))
  replace FC := FC.other W20 (Or.inr (slot_ne (Or.inl (hw _ (List.mem_of_getElem? (i := 18) rfl))) (Or.inl (hw _ (List.mem_of_getElem? (i := 11) rfl))) (by decide) (t := (.array .int)) (by decide) (t' := (.array .long)) (by decide)))
  replace FD := FD.other W20 (Or.inr (slot_ne (Or.inl (hw _ (List.mem_of_getElem? (i := 20) rfl))) (Or.inl (hw _ (List.mem_of_getElem? (i := 11) rfl))) (by decide) (t := (.array .long)) (by decide) (t' := (.array .long)) (by decide)))
  replace FF := FF.other W20 (Or.inr (slot_ne (Or.inl (hw _ (List.mem_of_getElem? (i := 23) rfl))) (Or.inl (hw _ (List.mem_of_getElem? (i := 11) rfl))) (by decide) (t := (.array .byte)) (by decide) (t' := (.array .long)) (by decide)))
  replace VN := VN.other W20 (own_ne (by omega))
  replace FN := Fn20
  show OGoes p.tables e below _ (T20.setTop (mkF m 11 #[.val (.ref ep)] []))
  have y20 := W20.size
  have lt_b19 : @LT.lt Nat _ b19 h20.size := VN.lt
  refine own_st (V := (T20.setTop (mkF m 12 #[.val (.ref ep)] [(.ref ep)]))) (fun t ks => XS.aloadN X20.here hx rfl (hb hby d1_11) rfl rfl ks) ?_
  refine own_st (V := (T20.setTop (mkF m 13 #[.val (.ref ep)] [(.int (0 : Int32)), (.ref ep)]))) (fun t ks => XS.iconst X20.here hx rfl (hb hby d1_12) ks) ?_
  have lt_ep : @LT.lt Nat _ ep h20.size := E.lt
  have lt_b19 : @LT.lt Nat _ b19 h20.size := VN.lt
  refine own_newarray X20 hx hZ e20 (hw _ (List.mem_of_getElem? (i := 12) rfl)) (by decide) (cap := 0) (by decide) (by decide) (by decide) (by decide) (ad := "[I") rfl (hb hby d1_13) ?_
  intro T21 h21 k21 b21 X21 e21 Ex21 g21 VG EVG
  replace E := E.ext Ex21
  replace FS := FS.ext Ex21
  replace FG := FG.ext Ex21
  replace FW := FW.ext Ex21
  replace FC := FC.ext Ex21
  replace FD := FD.ext Ex21
  replace FF := FF.ext Ex21
  replace VN := VN.ext Ex21
  replace FN := FN.ext Ex21
  have ltn_21 : @LT.lt Nat _ b21 h21.size := VG.lt
  show OGoes p.tables e below _ (T21.setTop (mkF m 15 #[.val (.ref ep)] [(.ref b21), (.ref ep)]))
  refine own_putfield X21 hx hZ e21 hown (hw _ (List.mem_of_getElem? (i := 13) rfl)) FG E (Or.inl (hw _ (List.mem_of_getElem? (i := 14) rfl))) (hw _ (List.mem_of_getElem? (i := 1) rfl)) (ty := (.array .int)) (by decide) rfl rfl N20 (by omega) (hb hby d1_15) ?_
  intro T22 h22 L22 X22 e22 N22 W22 Fn22
  replace E := E.wr W22
  replace FS := FS.other W22 (Or.inr (slot_ne (Or.inl (hw _ (List.mem_of_getElem? (i := 30) rfl))) (Or.inl (hw _ (List.mem_of_getElem? (i := 14) rfl))) (by decide) (t := .int) (by decide) (t' := (.array .int)) (by decide)))
  replace FW := FW.other W22 (Or.inr (slot_ne (Or.inl (hw _ (List.mem_of_getElem? (i := 16) rfl))) (Or.inl (hw _ (List.mem_of_getElem? (i := 14) rfl))) (by decide) (t := (.array .long)) (by decide) (t' := (.array .int)) (by decide)))
  replace FC := FC.other W22 (Or.inr (slot_ne (Or.inl (hw _ (List.mem_of_getElem? (i := 18) rfl))) (Or.inl (hw _ (List.mem_of_getElem? (i := 14) rfl))) (by decide) (t := (.array .int)) (by decide) (t' := (.array .int)) (by decide)))
  replace FD := FD.other W22 (Or.inr (slot_ne (Or.inl (hw _ (List.mem_of_getElem? (i := 20) rfl))) (Or.inl (hw _ (List.mem_of_getElem? (i := 14) rfl))) (by decide) (t := (.array .long)) (by decide) (t' := (.array .int)) (by decide)))
  replace FF := FF.other W22 (Or.inr (slot_ne (Or.inl (hw _ (List.mem_of_getElem? (i := 23) rfl))) (Or.inl (hw _ (List.mem_of_getElem? (i := 14) rfl))) (by decide) (t := (.array .byte)) (by decide) (t' := (.array .int)) (by decide)))
  replace VN := VN.other W22 (own_ne (by omega))
  replace FN := FN.other W22 (Or.inr (slot_ne (Or.inl (hw _ (List.mem_of_getElem? (i := 11) rfl))) (Or.inl (hw _ (List.mem_of_getElem? (i := 14) rfl))) (by decide) (t := (.array .long)) (by decide) (t' := (.array .int)) (by decide)))
  replace VG := VG.other W22 (own_ne (by omega))
  replace FG := Fn22
  show OGoes p.tables e below _ (T22.setTop (mkF m 18 #[.val (.ref ep)] []))
  have y22 := W22.size
  have lt_b21 : @LT.lt Nat _ b21 h22.size := VG.lt
  refine own_st (V := (T22.setTop (mkF m 19 #[.val (.ref ep)] [(.ref ep)]))) (fun t ks => XS.aloadN X22.here hx rfl (hb hby d1_18) rfl rfl ks) ?_
  refine own_st (V := (T22.setTop (mkF m 20 #[.val (.ref ep)] [(.int (0 : Int32)), (.ref ep)]))) (fun t ks => XS.iconst X22.here hx rfl (hb hby d1_19) ks) ?_
  have lt_ep : @LT.lt Nat _ ep h22.size := E.lt
  have lt_b19 : @LT.lt Nat _ b19 h22.size := VN.lt
  have lt_b21 : @LT.lt Nat _ b21 h22.size := VG.lt
  refine own_newarray X22 hx hZ e22 (hw _ (List.mem_of_getElem? (i := 9) rfl)) (by decide) (cap := 0) (by decide) (by decide) (by decide) (by decide) (ad := "[J") rfl (hb hby d1_20) ?_
  intro T23 h23 k23 b23 X23 e23 Ex23 g23 VW EVW
  replace E := E.ext Ex23
  replace FS := FS.ext Ex23
  replace FW := FW.ext Ex23
  replace FC := FC.ext Ex23
  replace FD := FD.ext Ex23
  replace FF := FF.ext Ex23
  replace VN := VN.ext Ex23
  replace FN := FN.ext Ex23
  replace VG := VG.ext Ex23
  replace FG := FG.ext Ex23
  have ltn_23 : @LT.lt Nat _ b23 h23.size := VW.lt
  show OGoes p.tables e below _ (T23.setTop (mkF m 22 #[.val (.ref ep)] [(.ref b23), (.ref ep)]))
  refine own_putfield X23 hx hZ e23 hown (hw _ (List.mem_of_getElem? (i := 15) rfl)) FW E (Or.inl (hw _ (List.mem_of_getElem? (i := 16) rfl))) (hw _ (List.mem_of_getElem? (i := 1) rfl)) (ty := (.array .long)) (by decide) rfl rfl N22 (by omega) (hb hby d1_22) ?_
  intro T24 h24 L24 X24 e24 N24 W24 Fn24
  replace E := E.wr W24
  replace FS := FS.other W24 (Or.inr (slot_ne (Or.inl (hw _ (List.mem_of_getElem? (i := 30) rfl))) (Or.inl (hw _ (List.mem_of_getElem? (i := 16) rfl))) (by decide) (t := .int) (by decide) (t' := (.array .long)) (by decide)))
  replace FC := FC.other W24 (Or.inr (slot_ne (Or.inl (hw _ (List.mem_of_getElem? (i := 18) rfl))) (Or.inl (hw _ (List.mem_of_getElem? (i := 16) rfl))) (by decide) (t := (.array .int)) (by decide) (t' := (.array .long)) (by decide)))
  replace FD := FD.other W24 (Or.inr (slot_ne (Or.inl (hw _ (List.mem_of_getElem? (i := 20) rfl))) (Or.inl (hw _ (List.mem_of_getElem? (i := 16) rfl))) (by decide) (t := (.array .long)) (by decide) (t' := (.array .long)) (by decide)))
  replace FF := FF.other W24 (Or.inr (slot_ne (Or.inl (hw _ (List.mem_of_getElem? (i := 23) rfl))) (Or.inl (hw _ (List.mem_of_getElem? (i := 16) rfl))) (by decide) (t := (.array .byte)) (by decide) (t' := (.array .long)) (by decide)))
  replace VN := VN.other W24 (own_ne (by omega))
  replace FN := FN.other W24 (Or.inr (slot_ne (Or.inl (hw _ (List.mem_of_getElem? (i := 11) rfl))) (Or.inl (hw _ (List.mem_of_getElem? (i := 16) rfl))) (by decide) (t := (.array .long)) (by decide) (t' := (.array .long)) (by decide)))
  replace VG := VG.other W24 (own_ne (by omega))
  replace FG := FG.other W24 (Or.inr (slot_ne (Or.inl (hw _ (List.mem_of_getElem? (i := 14) rfl))) (Or.inl (hw _ (List.mem_of_getElem? (i := 16) rfl))) (by decide) (t := (.array .int)) (by decide) (t' := (.array .long)) (by decide)))
  replace VW := VW.other W24 (own_ne (by omega))
  replace FW := Fn24
  show OGoes p.tables e below _ (T24.setTop (mkF m 25 #[.val (.ref ep)] []))
  have y24 := W24.size
  have lt_b23 : @LT.lt Nat _ b23 h24.size := VW.lt
  refine own_st (V := (T24.setTop (mkF m 26 #[.val (.ref ep)] [(.ref ep)]))) (fun t ks => XS.aloadN X24.here hx rfl (hb hby d1_25) rfl rfl ks) ?_
  refine own_st (V := (T24.setTop (mkF m 27 #[.val (.ref ep)] [(.int (0 : Int32)), (.ref ep)]))) (fun t ks => XS.iconst X24.here hx rfl (hb hby d1_26) ks) ?_
  have lt_ep : @LT.lt Nat _ ep h24.size := E.lt
  have lt_b19 : @LT.lt Nat _ b19 h24.size := VN.lt
  have lt_b21 : @LT.lt Nat _ b21 h24.size := VG.lt
  have lt_b23 : @LT.lt Nat _ b23 h24.size := VW.lt
  refine own_newarray X24 hx hZ e24 (hw _ (List.mem_of_getElem? (i := 12) rfl)) (by decide) (cap := 0) (by decide) (by decide) (by decide) (by decide) (ad := "[I") rfl (hb hby d1_27) ?_
  intro T25 h25 k25 b25 X25 e25 Ex25 g25 VC EVC
  replace E := E.ext Ex25
  replace FS := FS.ext Ex25
  replace FC := FC.ext Ex25
  replace FD := FD.ext Ex25
  replace FF := FF.ext Ex25
  replace VN := VN.ext Ex25
  replace FN := FN.ext Ex25
  replace VG := VG.ext Ex25
  replace FG := FG.ext Ex25
  replace VW := VW.ext Ex25
  replace FW := FW.ext Ex25
  have ltn_25 : @LT.lt Nat _ b25 h25.size := VC.lt
  show OGoes p.tables e below _ (T25.setTop (mkF m 29 #[.val (.ref ep)] [(.ref b25), (.ref ep)]))
  refine own_putfield X25 hx hZ e25 hown (hw _ (List.mem_of_getElem? (i := 17) rfl)) FC E (Or.inl (hw _ (List.mem_of_getElem? (i := 18) rfl))) (hw _ (List.mem_of_getElem? (i := 1) rfl)) (ty := (.array .int)) (by decide) rfl rfl N24 (by omega) (hb hby d1_29) ?_
  intro T26 h26 L26 X26 e26 N26 W26 Fn26
  replace E := E.wr W26
  replace FS := FS.other W26 (Or.inr (slot_ne (Or.inl (hw _ (List.mem_of_getElem? (i := 30) rfl))) (Or.inl (hw _ (List.mem_of_getElem? (i := 18) rfl))) (by decide) (t := .int) (by decide) (t' := (.array .int)) (by decide)))
  replace FD := FD.other W26 (Or.inr (slot_ne (Or.inl (hw _ (List.mem_of_getElem? (i := 20) rfl))) (Or.inl (hw _ (List.mem_of_getElem? (i := 18) rfl))) (by decide) (t := (.array .long)) (by decide) (t' := (.array .int)) (by decide)))
  replace FF := FF.other W26 (Or.inr (slot_ne (Or.inl (hw _ (List.mem_of_getElem? (i := 23) rfl))) (Or.inl (hw _ (List.mem_of_getElem? (i := 18) rfl))) (by decide) (t := (.array .byte)) (by decide) (t' := (.array .int)) (by decide)))
  replace VN := VN.other W26 (own_ne (by omega))
  replace FN := FN.other W26 (Or.inr (slot_ne (Or.inl (hw _ (List.mem_of_getElem? (i := 11) rfl))) (Or.inl (hw _ (List.mem_of_getElem? (i := 18) rfl))) (by decide) (t := (.array .long)) (by decide) (t' := (.array .int)) (by decide)))
  replace VG := VG.other W26 (own_ne (by omega))
  replace FG := FG.other W26 (Or.inr (slot_ne (Or.inl (hw _ (List.mem_of_getElem? (i := 14) rfl))) (Or.inl (hw _ (List.mem_of_getElem? (i := 18) rfl))) (by decide) (t := (.array .int)) (by decide) (t' := (.array .int)) (by decide)))
  replace VW := VW.other W26 (own_ne (by omega))
  replace FW := FW.other W26 (Or.inr (slot_ne (Or.inl (hw _ (List.mem_of_getElem? (i := 16) rfl))) (Or.inl (hw _ (List.mem_of_getElem? (i := 18) rfl))) (by decide) (t := (.array .long)) (by decide) (t' := (.array .int)) (by decide)))
  replace VC := VC.other W26 (own_ne (by omega))
  replace FC := Fn26
  show OGoes p.tables e below _ (T26.setTop (mkF m 32 #[.val (.ref ep)] []))
  have y26 := W26.size
  have lt_b25 : @LT.lt Nat _ b25 h26.size := VC.lt
  refine own_st (V := (T26.setTop (mkF m 33 #[.val (.ref ep)] [(.ref ep)]))) (fun t ks => XS.aloadN X26.here hx rfl (hb hby d1_32) rfl rfl ks) ?_
  refine own_st (V := (T26.setTop (mkF m 34 #[.val (.ref ep)] [(.int (0 : Int32)), (.ref ep)]))) (fun t ks => XS.iconst X26.here hx rfl (hb hby d1_33) ks) ?_
  have lt_ep : @LT.lt Nat _ ep h26.size := E.lt
  have lt_b19 : @LT.lt Nat _ b19 h26.size := VN.lt
  have lt_b21 : @LT.lt Nat _ b21 h26.size := VG.lt
  have lt_b23 : @LT.lt Nat _ b23 h26.size := VW.lt
  have lt_b25 : @LT.lt Nat _ b25 h26.size := VC.lt
  refine own_newarray X26 hx hZ e26 (hw _ (List.mem_of_getElem? (i := 9) rfl)) (by decide) (cap := 0) (by decide) (by decide) (by decide) (by decide) (ad := "[J") rfl (hb hby d1_34) ?_
  intro T27 h27 k27 b27 X27 e27 Ex27 g27 VD EVD
  replace E := E.ext Ex27
  replace FS := FS.ext Ex27
  replace FD := FD.ext Ex27
  replace FF := FF.ext Ex27
  replace VN := VN.ext Ex27
  replace FN := FN.ext Ex27
  replace VG := VG.ext Ex27
  replace FG := FG.ext Ex27
  replace VW := VW.ext Ex27
  replace FW := FW.ext Ex27
  replace VC := VC.ext Ex27
  replace FC := FC.ext Ex27
  have ltn_27 : @LT.lt Nat _ b27 h27.size := VD.lt
  show OGoes p.tables e below _ (T27.setTop (mkF m 36 #[.val (.ref ep)] [(.ref b27), (.ref ep)]))
  refine own_putfield X27 hx hZ e27 hown (hw _ (List.mem_of_getElem? (i := 19) rfl)) FD E (Or.inl (hw _ (List.mem_of_getElem? (i := 20) rfl))) (hw _ (List.mem_of_getElem? (i := 1) rfl)) (ty := (.array .long)) (by decide) rfl rfl N26 (by omega) (hb hby d1_36) ?_
  intro T28 h28 L28 X28 e28 N28 W28 Fn28
  replace E := E.wr W28
  replace FS := FS.other W28 (Or.inr (slot_ne (Or.inl (hw _ (List.mem_of_getElem? (i := 30) rfl))) (Or.inl (hw _ (List.mem_of_getElem? (i := 20) rfl))) (by decide) (t := .int) (by decide) (t' := (.array .long)) (by decide)))
  replace FF := FF.other W28 (Or.inr (slot_ne (Or.inl (hw _ (List.mem_of_getElem? (i := 23) rfl))) (Or.inl (hw _ (List.mem_of_getElem? (i := 20) rfl))) (by decide) (t := (.array .byte)) (by decide) (t' := (.array .long)) (by decide)))
  replace VN := VN.other W28 (own_ne (by omega))
  replace FN := FN.other W28 (Or.inr (slot_ne (Or.inl (hw _ (List.mem_of_getElem? (i := 11) rfl))) (Or.inl (hw _ (List.mem_of_getElem? (i := 20) rfl))) (by decide) (t := (.array .long)) (by decide) (t' := (.array .long)) (by decide)))
  replace VG := VG.other W28 (own_ne (by omega))
  replace FG := FG.other W28 (Or.inr (slot_ne (Or.inl (hw _ (List.mem_of_getElem? (i := 14) rfl))) (Or.inl (hw _ (List.mem_of_getElem? (i := 20) rfl))) (by decide) (t := (.array .int)) (by decide) (t' := (.array .long)) (by decide)))
  replace VW := VW.other W28 (own_ne (by omega))
  replace FW := FW.other W28 (Or.inr (slot_ne (Or.inl (hw _ (List.mem_of_getElem? (i := 16) rfl))) (Or.inl (hw _ (List.mem_of_getElem? (i := 20) rfl))) (by decide) (t := (.array .long)) (by decide) (t' := (.array .long)) (by decide)))
  replace VC := VC.other W28 (own_ne (by omega))
  replace FC := FC.other W28 (Or.inr (slot_ne (Or.inl (hw _ (List.mem_of_getElem? (i := 18) rfl))) (Or.inl (hw _ (List.mem_of_getElem? (i := 20) rfl))) (by decide) (t := (.array .int)) (by decide) (t' := (.array .long)) (by decide)))
  replace VD := VD.other W28 (own_ne (by omega))
  replace FD := Fn28
  show OGoes p.tables e below _ (T28.setTop (mkF m 39 #[.val (.ref ep)] []))
  have y28 := W28.size
  have lt_b27 : @LT.lt Nat _ b27 h28.size := VD.lt
  refine own_st (V := (T28.setTop (mkF m 40 #[.val (.ref ep)] [(.ref ep)]))) (fun t ks => XS.aloadN X28.here hx rfl (hb hby d1_39) rfl rfl ks) ?_
  refine own_st (V := (T28.setTop (mkF m 41 #[.val (.ref ep)] [(.int (0 : Int32)), (.ref ep)]))) (fun t ks => XS.iconst X28.here hx rfl (hb hby d1_40) ks) ?_
  have lt_ep : @LT.lt Nat _ ep h28.size := E.lt
  have lt_b19 : @LT.lt Nat _ b19 h28.size := VN.lt
  have lt_b21 : @LT.lt Nat _ b21 h28.size := VG.lt
  have lt_b23 : @LT.lt Nat _ b23 h28.size := VW.lt
  have lt_b25 : @LT.lt Nat _ b25 h28.size := VC.lt
  have lt_b27 : @LT.lt Nat _ b27 h28.size := VD.lt
  refine own_newarray X28 hx hZ e28 (hw _ (List.mem_of_getElem? (i := 21) rfl)) (by decide) (cap := 0) (by decide) (by decide) (by decide) (by decide) (ad := "[B") rfl (hb hby d1_41) ?_
  intro T29 h29 k29 b29 X29 e29 Ex29 g29 VF EVF
  replace E := E.ext Ex29
  replace FS := FS.ext Ex29
  replace FF := FF.ext Ex29
  replace VN := VN.ext Ex29
  replace FN := FN.ext Ex29
  replace VG := VG.ext Ex29
  replace FG := FG.ext Ex29
  replace VW := VW.ext Ex29
  replace FW := FW.ext Ex29
  replace VC := VC.ext Ex29
  replace FC := FC.ext Ex29
  replace VD := VD.ext Ex29
  replace FD := FD.ext Ex29
  have ltn_29 : @LT.lt Nat _ b29 h29.size := VF.lt
  show OGoes p.tables e below _ (T29.setTop (mkF m 43 #[.val (.ref ep)] [(.ref b29), (.ref ep)]))
  refine own_putfield X29 hx hZ e29 hown (hw _ (List.mem_of_getElem? (i := 22) rfl)) FF E (Or.inl (hw _ (List.mem_of_getElem? (i := 23) rfl))) (hw _ (List.mem_of_getElem? (i := 1) rfl)) (ty := (.array .byte)) (by decide) rfl rfl N28 (by omega) (hb hby d1_43) ?_
  intro T30 h30 L30 X30 e30 N30 W30 Fn30
  replace E := E.wr W30
  replace FS := FS.other W30 (Or.inr (slot_ne (Or.inl (hw _ (List.mem_of_getElem? (i := 30) rfl))) (Or.inl (hw _ (List.mem_of_getElem? (i := 23) rfl))) (by decide) (t := .int) (by decide) (t' := (.array .byte)) (by decide)))
  replace VN := VN.other W30 (own_ne (by omega))
  replace FN := FN.other W30 (Or.inr (slot_ne (Or.inl (hw _ (List.mem_of_getElem? (i := 11) rfl))) (Or.inl (hw _ (List.mem_of_getElem? (i := 23) rfl))) (by decide) (t := (.array .long)) (by decide) (t' := (.array .byte)) (by decide)))
  replace VG := VG.other W30 (own_ne (by omega))
  replace FG := FG.other W30 (Or.inr (slot_ne (Or.inl (hw _ (List.mem_of_getElem? (i := 14) rfl))) (Or.inl (hw _ (List.mem_of_getElem? (i := 23) rfl))) (by decide) (t := (.array .int)) (by decide) (t' := (.array .byte)) (by decide)))
  replace VW := VW.other W30 (own_ne (by omega))
  replace FW := FW.other W30 (Or.inr (slot_ne (Or.inl (hw _ (List.mem_of_getElem? (i := 16) rfl))) (Or.inl (hw _ (List.mem_of_getElem? (i := 23) rfl))) (by decide) (t := (.array .long)) (by decide) (t' := (.array .byte)) (by decide)))
  replace VC := VC.other W30 (own_ne (by omega))
  replace FC := FC.other W30 (Or.inr (slot_ne (Or.inl (hw _ (List.mem_of_getElem? (i := 18) rfl))) (Or.inl (hw _ (List.mem_of_getElem? (i := 23) rfl))) (by decide) (t := (.array .int)) (by decide) (t' := (.array .byte)) (by decide)))
  replace VD := VD.other W30 (own_ne (by omega))
  replace FD := FD.other W30 (Or.inr (slot_ne (Or.inl (hw _ (List.mem_of_getElem? (i := 20) rfl))) (Or.inl (hw _ (List.mem_of_getElem? (i := 23) rfl))) (by decide) (t := (.array .long)) (by decide) (t' := (.array .byte)) (by decide)))
  replace VF := VF.other W30 (own_ne (by omega))
  replace FF := Fn30
  show OGoes p.tables e below _ (T30.setTop (mkF m 46 #[.val (.ref ep)] []))
  have y30 := W30.size
  have lt_b29 : @LT.lt Nat _ b29 h30.size := VF.lt
  exact own_retV X30 hx hlk hret (hb hby d1_46) (by decide) (by decide) ⟨rfl, N30, by rw [e30]; exact ⟨b19, b21, b23, b25, b27, b29, _, _, _, _, _, _, ⟨by omega, by omega, by omega, by omega, by omega, by omega, by omega⟩, E, FN, FG, FW, FC, FD, FF, FS, VN, VG, VW, VC, VD, VF⟩⟩
theorem ef_rmRz (m : MethodId) (x0 : Nat) (x1 : Int32) : entryFrame m #[(.ref x0), (.int x1)] 2 = mkF m 0 #[.val (.ref x0), .val (.int x1)] [] := by first | (simp [entryFrame, mkF, argsToLocals, Value.category]; done) | rfl
set_option maxRecDepth 65536 in
set_option maxHeartbeats 40000000 in
theorem rmRz (l : Launch) (Z : State) (a0 : Array Value) (hw : ∀ d ∈ tables_1, d.before a0 Z = true) (ep : Nat) (h0 : Heap) (hZ0 : Z.heap.size ≤ h0.size) (H : own_EP Z h0 ep 0 [] [] [] [] [] [] 0) :
    OMet l Z (⟨"com/example/killifish/killifish/store/Epochs", "resize", "(I)V"⟩ : MethodName) prog_13_method_26_code 2 none ⟨2, 6, 24, 60⟩ #[(.ref ep), (.int (4 : Int32))] h0 (fun v h L => v = none ∧ Fr Z.heap.size L ∧ own_EP Z h ep 4 [.long 0, .long 0, .long 0, .long 0] [.int 0, .int 0, .int 0, .int 0] [.long 0, .long 0, .long 0, .long 0] [.int 0, .int 0, .int 0, .int 0] [.long 0, .long 0, .long 0, .long 0] [.int 0, .int 0, .int 0, .int 0] 0) := by
  refine own_body pf_8 ?_
  intro p e s m below meth c T0 X0 hx hby hml hZ hown hnm hret hlk e0
  replace hown : s.vm.findClass "com/example/killifish/killifish/store/Epochs" = some m.cls := hown
  refine own_cast (ef_rmRz m (ep) ((4 : Int32))) ?_
  show OGoes p.tables e below _ (T0.setTop (mkF m 0 #[.val (.ref ep), .val (.int (4 : Int32))] []))
  obtain ⟨aN, aG, aW, aC, aD, aF, kN, kG, kW, kC, kD, kF, ⟨o0, o1, o2, o3, o4, o5, o6⟩, E, FN, FG, FW, FC, FD, FF, FS, VN, VG, VW, VC, VD, VF⟩ := H
  have lt_ep : @LT.lt Nat _ ep h0.size := E.lt
  refine own_st (V := (T0.setTop (mkF m 1 #[.val (.ref ep), .val (.int (4 : Int32))] [(.ref ep)]))) (fun t ks => XS.aloadN X0.here hx rfl (hb hby d8_0) rfl rfl ks) ?_
  refine own_st (V := (T0.setTop (mkF m 2 #[.val (.ref ep), .val (.int (4 : Int32))] [(.ref ep), (.ref ep)]))) (fun t ks => XS.aloadN X0.here hx rfl (hb hby d8_1) rfl rfl ks) ?_
  refine own_getfield X0 hx hZ e0 hown (hw _ (List.mem_of_getElem? (i := 10) rfl)) Via.refl FN (hb hby d8_2) ?_
  intro T31 X31 e31
  show OGoes p.tables e below _ (T31.setTop (mkF m 5 #[.val (.ref ep), .val (.int (4 : Int32))] [(.ref aN), (.ref ep)]))
  refine own_st (V := (T31.setTop (mkF m 6 #[.val (.ref ep), .val (.int (4 : Int32))] [(.int (4 : Int32)), (.ref aN), (.ref ep)]))) (fun t ks => XS.iloadN X31.here hx rfl (hb hby d8_5) rfl ks) ?_
  refine own_callS X31 hx hZ hown (hw _ (List.mem_of_getElem? (i := 49) rfl)) (hw _ (List.mem_of_getElem? (i := 50) rfl)) (hw _ (List.mem_of_getElem? (i := 33) rfl)) (hw _ (List.mem_of_getElem? (i := 51) rfl)) (by decide) (rmCJ l Z a0 hw aN kN h0 hZ0 VN) e31 (by rw [hml]; rfl) (argsL := [(.ref aN), (.int (4 : Int32))]) (rest := [(.ref ep)]) pd_3 rfl rfl rfl (W := 1) (Nat.le_of_eq rfl) (hb hby d8_6) (by decide) (by decide) (by decide) (by decide) ?_
  rintro v32 T32 L32 X32 ⟨N32, K32, cN, kcN, rfl, gN, VN⟩
  replace N32 := Fr.app (Fr.nil Z.heap.size) N32
  show OGoes p.tables e below _ (T32.setTop (mkF m 9 #[.val (.ref ep), .val (.int (4 : Int32))] [(.ref cN), (.ref ep)]))
  replace E := E.keep K32
  replace FN := FN.keep K32 nin0
  replace FG := FG.keep K32 nin0
  replace VG := VG.keep K32 nin0
  replace FW := FW.keep K32 nin0
  replace VW := VW.keep K32 nin0
  replace FC := FC.keep K32 nin0
  replace VC := VC.keep K32 nin0
  replace FD := FD.keep K32 nin0
  replace VD := VD.keep K32 nin0
  replace FF := FF.keep K32 nin0
  replace VF := VF.keep K32 nin0
  replace FS := FS.keep K32 nin0
  have z32 := K32.1
  have lt_cN : @LT.lt Nat _ cN T32.heap.size := VN.lt
  refine own_putfield X32 hx hZ rfl hown (hw _ (List.mem_of_getElem? (i := 10) rfl)) FN E (Or.inl (hw _ (List.mem_of_getElem? (i := 11) rfl))) (hw _ (List.mem_of_getElem? (i := 1) rfl)) (ty := (.array .long)) (by decide) rfl rfl N32 (by omega) (hb hby d8_9) ?_
  intro T33 h33 L33 X33 e33 N33 W33 Fn33
  replace E := E.wr W33
  replace FG := FG.other W33 (Or.inr (slot_ne (Or.inl (hw _ (List.mem_of_getElem? (i := 14) rfl))) (Or.inl (hw _ (List.mem_of_getElem? (i := 11) rfl))) (by decide) (t := (.array .int)) (by decide) (t' := (.array .long)) (by decide)))
  replace VG := VG.other W33 (own_ne (by omega))
  replace FW := FW.other W33 (Or.inr (slot_ne (Or.inl (hw _ (List.mem_of_getElem? (i := 16) rfl))) (Or.inl (hw _ (List.mem_of_getElem? (i := 11) rfl))) (by decide) (t := (.array .long)) (by decide) (t' := (.array .long)) (by decide)))
  replace VW := VW.other W33 (own_ne (by omega))
  replace FC := FC.other W33 (Or.inr (slot_ne (Or.inl (hw _ (List.mem_of_getElem? (i := 18) rfl))) (Or.inl (hw _ (List.mem_of_getElem? (i := 11) rfl))) (by decide) (t := (.array .int)) (by decide) (t' := (.array .long)) (by decide)))
  replace VC := VC.other W33 (own_ne (by omega))
  replace FD := FD.other W33 (Or.inr (slot_ne (Or.inl (hw _ (List.mem_of_getElem? (i := 20) rfl))) (Or.inl (hw _ (List.mem_of_getElem? (i := 11) rfl))) (by decide) (t := (.array .long)) (by decide) (t' := (.array .long)) (by decide)))
  replace VD := VD.other W33 (own_ne (by omega))
  replace FF := FF.other W33 (Or.inr (slot_ne (Or.inl (hw _ (List.mem_of_getElem? (i := 23) rfl))) (Or.inl (hw _ (List.mem_of_getElem? (i := 11) rfl))) (by decide) (t := (.array .byte)) (by decide) (t' := (.array .long)) (by decide)))
  replace VF := VF.other W33 (own_ne (by omega))
  replace FS := FS.other W33 (Or.inr (slot_ne (Or.inl (hw _ (List.mem_of_getElem? (i := 30) rfl))) (Or.inl (hw _ (List.mem_of_getElem? (i := 11) rfl))) (by decide) (t := .int) (by decide) (t' := (.array .long)) (by decide)))
  replace VN := VN.other W33 (own_ne (by omega))
  replace FN := Fn33
  show OGoes p.tables e below _ (T33.setTop (mkF m 12 #[.val (.ref ep), .val (.int (4 : Int32))] []))
  have y33 := W33.size
  refine own_st (V := (T33.setTop (mkF m 13 #[.val (.ref ep), .val (.int (4 : Int32))] [(.ref ep)]))) (fun t ks => XS.aloadN X33.here hx rfl (hb hby d8_12) rfl rfl ks) ?_
  refine own_st (V := (T33.setTop (mkF m 14 #[.val (.ref ep), .val (.int (4 : Int32))] [(.ref ep), (.ref ep)]))) (fun t ks => XS.aloadN X33.here hx rfl (hb hby d8_13) rfl rfl ks) ?_
  refine own_getfield X33 hx hZ e33 hown (hw _ (List.mem_of_getElem? (i := 13) rfl)) Via.refl FG (hb hby d8_14) ?_
  intro T34 X34 e34
  show OGoes p.tables e below _ (T34.setTop (mkF m 17 #[.val (.ref ep), .val (.int (4 : Int32))] [(.ref aG), (.ref ep)]))
  refine own_st (V := (T34.setTop (mkF m 18 #[.val (.ref ep), .val (.int (4 : Int32))] [(.int (4 : Int32)), (.ref aG), (.ref ep)]))) (fun t ks => XS.iloadN X34.here hx rfl (hb hby d8_17) rfl ks) ?_
  refine own_callS X34 hx hZ hown (hw _ (List.mem_of_getElem? (i := 59) rfl)) (hw _ (List.mem_of_getElem? (i := 60) rfl)) (hw _ (List.mem_of_getElem? (i := 33) rfl)) (hw _ (List.mem_of_getElem? (i := 61) rfl)) (by decide) (rmCI l Z a0 hw aG kG h33 (by omega) VG) e34 (by rw [hml]; rfl) (argsL := [(.ref aG), (.int (4 : Int32))]) (rest := [(.ref ep)]) pd_4 rfl rfl rfl (W := 1) (Nat.le_of_eq rfl) (hb hby d8_18) (by decide) (by decide) (by decide) (by decide) ?_
  rintro v35 T35 L35 X35 ⟨N35, K35, cG, kcG, rfl, gG, VG⟩
  replace N35 := Fr.app N33 N35
  show OGoes p.tables e below _ (T35.setTop (mkF m 21 #[.val (.ref ep), .val (.int (4 : Int32))] [(.ref cG), (.ref ep)]))
  replace E := E.keep K35
  replace FG := FG.keep K35 nin0
  replace FW := FW.keep K35 nin0
  replace VW := VW.keep K35 nin0
  replace FC := FC.keep K35 nin0
  replace VC := VC.keep K35 nin0
  replace FD := FD.keep K35 nin0
  replace VD := VD.keep K35 nin0
  replace FF := FF.keep K35 nin0
  replace VF := VF.keep K35 nin0
  replace FS := FS.keep K35 nin0
  replace VN := VN.keep K35 nin0
  replace FN := FN.keep K35 nin0
  have z35 := K35.1
  have lt_cG : @LT.lt Nat _ cG T35.heap.size := VG.lt
  refine own_putfield X35 hx hZ rfl hown (hw _ (List.mem_of_getElem? (i := 13) rfl)) FG E (Or.inl (hw _ (List.mem_of_getElem? (i := 14) rfl))) (hw _ (List.mem_of_getElem? (i := 1) rfl)) (ty := (.array .int)) (by decide) rfl rfl N35 (by omega) (hb hby d8_21) ?_
  intro T36 h36 L36 X36 e36 N36 W36 Fn36
  replace E := E.wr W36
  replace FW := FW.other W36 (Or.inr (slot_ne (Or.inl (hw _ (List.mem_of_getElem? (i := 16) rfl))) (Or.inl (hw _ (List.mem_of_getElem? (i := 14) rfl))) (by decide) (t := (.array .long)) (by decide) (t' := (.array .int)) (by decide)))
  replace VW := VW.other W36 (own_ne (by omega))
  replace FC := FC.other W36 (Or.inr (slot_ne (Or.inl (hw _ (List.mem_of_getElem? (i := 18) rfl))) (Or.inl (hw _ (List.mem_of_getElem? (i := 14) rfl))) (by decide) (t := (.array .int)) (by decide) (t' := (.array .int)) (by decide)))
  replace VC := VC.other W36 (own_ne (by omega))
  replace FD := FD.other W36 (Or.inr (slot_ne (Or.inl (hw _ (List.mem_of_getElem? (i := 20) rfl))) (Or.inl (hw _ (List.mem_of_getElem? (i := 14) rfl))) (by decide) (t := (.array .long)) (by decide) (t' := (.array .int)) (by decide)))
  replace VD := VD.other W36 (own_ne (by omega))
  replace FF := FF.other W36 (Or.inr (slot_ne (Or.inl (hw _ (List.mem_of_getElem? (i := 23) rfl))) (Or.inl (hw _ (List.mem_of_getElem? (i := 14) rfl))) (by decide) (t := (.array .byte)) (by decide) (t' := (.array .int)) (by decide)))
  replace VF := VF.other W36 (own_ne (by omega))
  replace FS := FS.other W36 (Or.inr (slot_ne (Or.inl (hw _ (List.mem_of_getElem? (i := 30) rfl))) (Or.inl (hw _ (List.mem_of_getElem? (i := 14) rfl))) (by decide) (t := .int) (by decide) (t' := (.array .int)) (by decide)))
  replace VN := VN.other W36 (own_ne (by omega))
  replace FN := FN.other W36 (Or.inr (slot_ne (Or.inl (hw _ (List.mem_of_getElem? (i := 11) rfl))) (Or.inl (hw _ (List.mem_of_getElem? (i := 14) rfl))) (by decide) (t := (.array .long)) (by decide) (t' := (.array .int)) (by decide)))
  replace VG := VG.other W36 (own_ne (by omega))
  replace FG := Fn36
  show OGoes p.tables e below _ (T36.setTop (mkF m 24 #[.val (.ref ep), .val (.int (4 : Int32))] []))
  have y36 := W36.size
  refine own_st (V := (T36.setTop (mkF m 25 #[.val (.ref ep), .val (.int (4 : Int32))] [(.ref ep)]))) (fun t ks => XS.aloadN X36.here hx rfl (hb hby d8_24) rfl rfl ks) ?_
  refine own_st (V := (T36.setTop (mkF m 26 #[.val (.ref ep), .val (.int (4 : Int32))] [(.ref ep), (.ref ep)]))) (fun t ks => XS.aloadN X36.here hx rfl (hb hby d8_25) rfl rfl ks) ?_
  refine own_getfield X36 hx hZ e36 hown (hw _ (List.mem_of_getElem? (i := 15) rfl)) Via.refl FW (hb hby d8_26) ?_
  intro T37 X37 e37
  show OGoes p.tables e below _ (T37.setTop (mkF m 29 #[.val (.ref ep), .val (.int (4 : Int32))] [(.ref aW), (.ref ep)]))
  refine own_st (V := (T37.setTop (mkF m 30 #[.val (.ref ep), .val (.int (4 : Int32))] [(.int (4 : Int32)), (.ref aW), (.ref ep)]))) (fun t ks => XS.iloadN X37.here hx rfl (hb hby d8_29) rfl ks) ?_
  refine own_callS X37 hx hZ hown (hw _ (List.mem_of_getElem? (i := 49) rfl)) (hw _ (List.mem_of_getElem? (i := 50) rfl)) (hw _ (List.mem_of_getElem? (i := 33) rfl)) (hw _ (List.mem_of_getElem? (i := 51) rfl)) (by decide) (rmCJ l Z a0 hw aW kW h36 (by omega) VW) e37 (by rw [hml]; rfl) (argsL := [(.ref aW), (.int (4 : Int32))]) (rest := [(.ref ep)]) pd_3 rfl rfl rfl (W := 1) (Nat.le_of_eq rfl) (hb hby d8_30) (by decide) (by decide) (by decide) (by decide) ?_
  rintro v38 T38 L38 X38 ⟨N38, K38, cW, kcW, rfl, gW, VW⟩
  replace N38 := Fr.app N36 N38
  show OGoes p.tables e below _ (T38.setTop (mkF m 33 #[.val (.ref ep), .val (.int (4 : Int32))] [(.ref cW), (.ref ep)]))
  replace E := E.keep K38
  replace FW := FW.keep K38 nin0
  replace FC := FC.keep K38 nin0
  replace VC := VC.keep K38 nin0
  replace FD := FD.keep K38 nin0
  replace VD := VD.keep K38 nin0
  replace FF := FF.keep K38 nin0
  replace VF := VF.keep K38 nin0
  replace FS := FS.keep K38 nin0
  replace VN := VN.keep K38 nin0
  replace FN := FN.keep K38 nin0
  replace VG := VG.keep K38 nin0
  replace FG := FG.keep K38 nin0
  have z38 := K38.1
  have lt_cW : @LT.lt Nat _ cW T38.heap.size := VW.lt
  refine own_putfield X38 hx hZ rfl hown (hw _ (List.mem_of_getElem? (i := 15) rfl)) FW E (Or.inl (hw _ (List.mem_of_getElem? (i := 16) rfl))) (hw _ (List.mem_of_getElem? (i := 1) rfl)) (ty := (.array .long)) (by decide) rfl rfl N38 (by omega) (hb hby d8_33) ?_
  intro T39 h39 L39 X39 e39 N39 W39 Fn39
  replace E := E.wr W39
  replace FC := FC.other W39 (Or.inr (slot_ne (Or.inl (hw _ (List.mem_of_getElem? (i := 18) rfl))) (Or.inl (hw _ (List.mem_of_getElem? (i := 16) rfl))) (by decide) (t := (.array .int)) (by decide) (t' := (.array .long)) (by decide)))
  replace VC := VC.other W39 (own_ne (by omega))
  replace FD := FD.other W39 (Or.inr (slot_ne (Or.inl (hw _ (List.mem_of_getElem? (i := 20) rfl))) (Or.inl (hw _ (List.mem_of_getElem? (i := 16) rfl))) (by decide) (t := (.array .long)) (by decide) (t' := (.array .long)) (by decide)))
  replace VD := VD.other W39 (own_ne (by omega))
  replace FF := FF.other W39 (Or.inr (slot_ne (Or.inl (hw _ (List.mem_of_getElem? (i := 23) rfl))) (Or.inl (hw _ (List.mem_of_getElem? (i := 16) rfl))) (by decide) (t := (.array .byte)) (by decide) (t' := (.array .long)) (by decide)))
  replace VF := VF.other W39 (own_ne (by omega))
  replace FS := FS.other W39 (Or.inr (slot_ne (Or.inl (hw _ (List.mem_of_getElem? (i := 30) rfl))) (Or.inl (hw _ (List.mem_of_getElem? (i := 16) rfl))) (by decide) (t := .int) (by decide) (t' := (.array .long)) (by decide)))
  replace VN := VN.other W39 (own_ne (by omega))
  replace FN := FN.other W39 (Or.inr (slot_ne (Or.inl (hw _ (List.mem_of_getElem? (i := 11) rfl))) (Or.inl (hw _ (List.mem_of_getElem? (i := 16) rfl))) (by decide) (t := (.array .long)) (by decide) (t' := (.array .long)) (by decide)))
  replace VG := VG.other W39 (own_ne (by omega))
  replace FG := FG.other W39 (Or.inr (slot_ne (Or.inl (hw _ (List.mem_of_getElem? (i := 14) rfl))) (Or.inl (hw _ (List.mem_of_getElem? (i := 16) rfl))) (by decide) (t := (.array .int)) (by decide) (t' := (.array .long)) (by decide)))
  replace VW := VW.other W39 (own_ne (by omega))
  replace FW := Fn39
  show OGoes p.tables e below _ (T39.setTop (mkF m 36 #[.val (.ref ep), .val (.int (4 : Int32))] []))
  have y39 := W39.size
  refine own_st (V := (T39.setTop (mkF m 37 #[.val (.ref ep), .val (.int (4 : Int32))] [(.ref ep)]))) (fun t ks => XS.aloadN X39.here hx rfl (hb hby d8_36) rfl rfl ks) ?_
  refine own_st (V := (T39.setTop (mkF m 38 #[.val (.ref ep), .val (.int (4 : Int32))] [(.ref ep), (.ref ep)]))) (fun t ks => XS.aloadN X39.here hx rfl (hb hby d8_37) rfl rfl ks) ?_
  refine own_getfield X39 hx hZ e39 hown (hw _ (List.mem_of_getElem? (i := 17) rfl)) Via.refl FC (hb hby d8_38) ?_
  intro T40 X40 e40
  show OGoes p.tables e below _ (T40.setTop (mkF m 41 #[.val (.ref ep), .val (.int (4 : Int32))] [(.ref aC), (.ref ep)]))
  refine own_st (V := (T40.setTop (mkF m 42 #[.val (.ref ep), .val (.int (4 : Int32))] [(.int (4 : Int32)), (.ref aC), (.ref ep)]))) (fun t ks => XS.iloadN X40.here hx rfl (hb hby d8_41) rfl ks) ?_
  refine own_callS X40 hx hZ hown (hw _ (List.mem_of_getElem? (i := 59) rfl)) (hw _ (List.mem_of_getElem? (i := 60) rfl)) (hw _ (List.mem_of_getElem? (i := 33) rfl)) (hw _ (List.mem_of_getElem? (i := 61) rfl)) (by decide) (rmCI l Z a0 hw aC kC h39 (by omega) VC) e40 (by rw [hml]; rfl) (argsL := [(.ref aC), (.int (4 : Int32))]) (rest := [(.ref ep)]) pd_4 rfl rfl rfl (W := 1) (Nat.le_of_eq rfl) (hb hby d8_42) (by decide) (by decide) (by decide) (by decide) ?_
  rintro v41 T41 L41 X41 ⟨N41, K41, cC, kcC, rfl, gC, VC⟩
  replace N41 := Fr.app N39 N41
  show OGoes p.tables e below _ (T41.setTop (mkF m 45 #[.val (.ref ep), .val (.int (4 : Int32))] [(.ref cC), (.ref ep)]))
  replace E := E.keep K41
  replace FC := FC.keep K41 nin0
  replace FD := FD.keep K41 nin0
  replace VD := VD.keep K41 nin0
  replace FF := FF.keep K41 nin0
  replace VF := VF.keep K41 nin0
  replace FS := FS.keep K41 nin0
  replace VN := VN.keep K41 nin0
  replace FN := FN.keep K41 nin0
  replace VG := VG.keep K41 nin0
  replace FG := FG.keep K41 nin0
  replace VW := VW.keep K41 nin0
  replace FW := FW.keep K41 nin0
  have z41 := K41.1
  have lt_cC : @LT.lt Nat _ cC T41.heap.size := VC.lt
  refine own_putfield X41 hx hZ rfl hown (hw _ (List.mem_of_getElem? (i := 17) rfl)) FC E (Or.inl (hw _ (List.mem_of_getElem? (i := 18) rfl))) (hw _ (List.mem_of_getElem? (i := 1) rfl)) (ty := (.array .int)) (by decide) rfl rfl N41 (by omega) (hb hby d8_45) ?_
  intro T42 h42 L42 X42 e42 N42 W42 Fn42
  replace E := E.wr W42
  replace FD := FD.other W42 (Or.inr (slot_ne (Or.inl (hw _ (List.mem_of_getElem? (i := 20) rfl))) (Or.inl (hw _ (List.mem_of_getElem? (i := 18) rfl))) (by decide) (t := (.array .long)) (by decide) (t' := (.array .int)) (by decide)))
  replace VD := VD.other W42 (own_ne (by omega))
  replace FF := FF.other W42 (Or.inr (slot_ne (Or.inl (hw _ (List.mem_of_getElem? (i := 23) rfl))) (Or.inl (hw _ (List.mem_of_getElem? (i := 18) rfl))) (by decide) (t := (.array .byte)) (by decide) (t' := (.array .int)) (by decide)))
  replace VF := VF.other W42 (own_ne (by omega))
  replace FS := FS.other W42 (Or.inr (slot_ne (Or.inl (hw _ (List.mem_of_getElem? (i := 30) rfl))) (Or.inl (hw _ (List.mem_of_getElem? (i := 18) rfl))) (by decide) (t := .int) (by decide) (t' := (.array .int)) (by decide)))
  replace VN := VN.other W42 (own_ne (by omega))
  replace FN := FN.other W42 (Or.inr (slot_ne (Or.inl (hw _ (List.mem_of_getElem? (i := 11) rfl))) (Or.inl (hw _ (List.mem_of_getElem? (i := 18) rfl))) (by decide) (t := (.array .long)) (by decide) (t' := (.array .int)) (by decide)))
  replace VG := VG.other W42 (own_ne (by omega))
  replace FG := FG.other W42 (Or.inr (slot_ne (Or.inl (hw _ (List.mem_of_getElem? (i := 14) rfl))) (Or.inl (hw _ (List.mem_of_getElem? (i := 18) rfl))) (by decide) (t := (.array .int)) (by decide) (t' := (.array .int)) (by decide)))
  replace VW := VW.other W42 (own_ne (by omega))
  replace FW := FW.other W42 (Or.inr (slot_ne (Or.inl (hw _ (List.mem_of_getElem? (i := 16) rfl))) (Or.inl (hw _ (List.mem_of_getElem? (i := 18) rfl))) (by decide) (t := (.array .long)) (by decide) (t' := (.array .int)) (by decide)))
  replace VC := VC.other W42 (own_ne (by omega))
  replace FC := Fn42
  show OGoes p.tables e below _ (T42.setTop (mkF m 48 #[.val (.ref ep), .val (.int (4 : Int32))] []))
  have y42 := W42.size
  refine own_st (V := (T42.setTop (mkF m 49 #[.val (.ref ep), .val (.int (4 : Int32))] [(.ref ep)]))) (fun t ks => XS.aloadN X42.here hx rfl (hb hby d8_48) rfl rfl ks) ?_
  refine own_st (V := (T42.setTop (mkF m 50 #[.val (.ref ep), .val (.int (4 : Int32))] [(.ref ep), (.ref ep)]))) (fun t ks => XS.aloadN X42.here hx rfl (hb hby d8_49) rfl rfl ks) ?_
  refine own_getfield X42 hx hZ e42 hown (hw _ (List.mem_of_getElem? (i := 19) rfl)) Via.refl FD (hb hby d8_50) ?_
  intro T43 X43 e43
  show OGoes p.tables e below _ (T43.setTop (mkF m 53 #[.val (.ref ep), .val (.int (4 : Int32))] [(.ref aD), (.ref ep)]))
  refine own_st (V := (T43.setTop (mkF m 54 #[.val (.ref ep), .val (.int (4 : Int32))] [(.int (4 : Int32)), (.ref aD), (.ref ep)]))) (fun t ks => XS.iloadN X43.here hx rfl (hb hby d8_53) rfl ks) ?_
  refine own_callS X43 hx hZ hown (hw _ (List.mem_of_getElem? (i := 49) rfl)) (hw _ (List.mem_of_getElem? (i := 50) rfl)) (hw _ (List.mem_of_getElem? (i := 33) rfl)) (hw _ (List.mem_of_getElem? (i := 51) rfl)) (by decide) (rmCJ l Z a0 hw aD kD h42 (by omega) VD) e43 (by rw [hml]; rfl) (argsL := [(.ref aD), (.int (4 : Int32))]) (rest := [(.ref ep)]) pd_3 rfl rfl rfl (W := 1) (Nat.le_of_eq rfl) (hb hby d8_54) (by decide) (by decide) (by decide) (by decide) ?_
  rintro v44 T44 L44 X44 ⟨N44, K44, cD, kcD, rfl, gD, VD⟩
  replace N44 := Fr.app N42 N44
  show OGoes p.tables e below _ (T44.setTop (mkF m 57 #[.val (.ref ep), .val (.int (4 : Int32))] [(.ref cD), (.ref ep)]))
  replace E := E.keep K44
  replace FD := FD.keep K44 nin0
  replace FF := FF.keep K44 nin0
  replace VF := VF.keep K44 nin0
  replace FS := FS.keep K44 nin0
  replace VN := VN.keep K44 nin0
  replace FN := FN.keep K44 nin0
  replace VG := VG.keep K44 nin0
  replace FG := FG.keep K44 nin0
  replace VW := VW.keep K44 nin0
  replace FW := FW.keep K44 nin0
  replace VC := VC.keep K44 nin0
  replace FC := FC.keep K44 nin0
  have z44 := K44.1
  have lt_cD : @LT.lt Nat _ cD T44.heap.size := VD.lt
  refine own_putfield X44 hx hZ rfl hown (hw _ (List.mem_of_getElem? (i := 19) rfl)) FD E (Or.inl (hw _ (List.mem_of_getElem? (i := 20) rfl))) (hw _ (List.mem_of_getElem? (i := 1) rfl)) (ty := (.array .long)) (by decide) rfl rfl N44 (by omega) (hb hby d8_57) ?_
  intro T45 h45 L45 X45 e45 N45 W45 Fn45
  replace E := E.wr W45
  replace FF := FF.other W45 (Or.inr (slot_ne (Or.inl (hw _ (List.mem_of_getElem? (i := 23) rfl))) (Or.inl (hw _ (List.mem_of_getElem? (i := 20) rfl))) (by decide) (t := (.array .byte)) (by decide) (t' := (.array .long)) (by decide)))
  replace VF := VF.other W45 (own_ne (by omega))
  replace FS := FS.other W45 (Or.inr (slot_ne (Or.inl (hw _ (List.mem_of_getElem? (i := 30) rfl))) (Or.inl (hw _ (List.mem_of_getElem? (i := 20) rfl))) (by decide) (t := .int) (by decide) (t' := (.array .long)) (by decide)))
  replace VN := VN.other W45 (own_ne (by omega))
  replace FN := FN.other W45 (Or.inr (slot_ne (Or.inl (hw _ (List.mem_of_getElem? (i := 11) rfl))) (Or.inl (hw _ (List.mem_of_getElem? (i := 20) rfl))) (by decide) (t := (.array .long)) (by decide) (t' := (.array .long)) (by decide)))
  replace VG := VG.other W45 (own_ne (by omega))
  replace FG := FG.other W45 (Or.inr (slot_ne (Or.inl (hw _ (List.mem_of_getElem? (i := 14) rfl))) (Or.inl (hw _ (List.mem_of_getElem? (i := 20) rfl))) (by decide) (t := (.array .int)) (by decide) (t' := (.array .long)) (by decide)))
  replace VW := VW.other W45 (own_ne (by omega))
  replace FW := FW.other W45 (Or.inr (slot_ne (Or.inl (hw _ (List.mem_of_getElem? (i := 16) rfl))) (Or.inl (hw _ (List.mem_of_getElem? (i := 20) rfl))) (by decide) (t := (.array .long)) (by decide) (t' := (.array .long)) (by decide)))
  replace VC := VC.other W45 (own_ne (by omega))
  replace FC := FC.other W45 (Or.inr (slot_ne (Or.inl (hw _ (List.mem_of_getElem? (i := 18) rfl))) (Or.inl (hw _ (List.mem_of_getElem? (i := 20) rfl))) (by decide) (t := (.array .int)) (by decide) (t' := (.array .long)) (by decide)))
  replace VD := VD.other W45 (own_ne (by omega))
  replace FD := Fn45
  show OGoes p.tables e below _ (T45.setTop (mkF m 60 #[.val (.ref ep), .val (.int (4 : Int32))] []))
  have y45 := W45.size
  refine own_st (V := (T45.setTop (mkF m 61 #[.val (.ref ep), .val (.int (4 : Int32))] [(.ref ep)]))) (fun t ks => XS.aloadN X45.here hx rfl (hb hby d8_60) rfl rfl ks) ?_
  refine own_st (V := (T45.setTop (mkF m 62 #[.val (.ref ep), .val (.int (4 : Int32))] [(.ref ep), (.ref ep)]))) (fun t ks => XS.aloadN X45.here hx rfl (hb hby d8_61) rfl rfl ks) ?_
  refine own_getfield X45 hx hZ e45 hown (hw _ (List.mem_of_getElem? (i := 22) rfl)) Via.refl FF (hb hby d8_62) ?_
  intro T46 X46 e46
  show OGoes p.tables e below _ (T46.setTop (mkF m 65 #[.val (.ref ep), .val (.int (4 : Int32))] [(.ref aF), (.ref ep)]))
  refine own_st (V := (T46.setTop (mkF m 66 #[.val (.ref ep), .val (.int (4 : Int32))] [(.int (4 : Int32)), (.ref aF), (.ref ep)]))) (fun t ks => XS.iloadN X46.here hx rfl (hb hby d8_65) rfl ks) ?_
  refine own_callS X46 hx hZ hown (hw _ (List.mem_of_getElem? (i := 62) rfl)) (hw _ (List.mem_of_getElem? (i := 63) rfl)) (hw _ (List.mem_of_getElem? (i := 33) rfl)) (hw _ (List.mem_of_getElem? (i := 64) rfl)) (by decide) (rmCB l Z a0 hw aF kF h45 (by omega) VF) e46 (by rw [hml]; rfl) (argsL := [(.ref aF), (.int (4 : Int32))]) (rest := [(.ref ep)]) pd_5 rfl rfl rfl (W := 1) (Nat.le_of_eq rfl) (hb hby d8_66) (by decide) (by decide) (by decide) (by decide) ?_
  rintro v47 T47 L47 X47 ⟨N47, K47, cF, kcF, rfl, gF, VF⟩
  replace N47 := Fr.app N45 N47
  show OGoes p.tables e below _ (T47.setTop (mkF m 69 #[.val (.ref ep), .val (.int (4 : Int32))] [(.ref cF), (.ref ep)]))
  replace E := E.keep K47
  replace FF := FF.keep K47 nin0
  replace FS := FS.keep K47 nin0
  replace VN := VN.keep K47 nin0
  replace FN := FN.keep K47 nin0
  replace VG := VG.keep K47 nin0
  replace FG := FG.keep K47 nin0
  replace VW := VW.keep K47 nin0
  replace FW := FW.keep K47 nin0
  replace VC := VC.keep K47 nin0
  replace FC := FC.keep K47 nin0
  replace VD := VD.keep K47 nin0
  replace FD := FD.keep K47 nin0
  have z47 := K47.1
  have lt_cF : @LT.lt Nat _ cF T47.heap.size := VF.lt
  refine own_putfield X47 hx hZ rfl hown (hw _ (List.mem_of_getElem? (i := 22) rfl)) FF E (Or.inl (hw _ (List.mem_of_getElem? (i := 23) rfl))) (hw _ (List.mem_of_getElem? (i := 1) rfl)) (ty := (.array .byte)) (by decide) rfl rfl N47 (by omega) (hb hby d8_69) ?_
  intro T48 h48 L48 X48 e48 N48 W48 Fn48
  replace E := E.wr W48
  replace FS := FS.other W48 (Or.inr (slot_ne (Or.inl (hw _ (List.mem_of_getElem? (i := 30) rfl))) (Or.inl (hw _ (List.mem_of_getElem? (i := 23) rfl))) (by decide) (t := .int) (by decide) (t' := (.array .byte)) (by decide)))
  replace VN := VN.other W48 (own_ne (by omega))
  replace FN := FN.other W48 (Or.inr (slot_ne (Or.inl (hw _ (List.mem_of_getElem? (i := 11) rfl))) (Or.inl (hw _ (List.mem_of_getElem? (i := 23) rfl))) (by decide) (t := (.array .long)) (by decide) (t' := (.array .byte)) (by decide)))
  replace VG := VG.other W48 (own_ne (by omega))
  replace FG := FG.other W48 (Or.inr (slot_ne (Or.inl (hw _ (List.mem_of_getElem? (i := 14) rfl))) (Or.inl (hw _ (List.mem_of_getElem? (i := 23) rfl))) (by decide) (t := (.array .int)) (by decide) (t' := (.array .byte)) (by decide)))
  replace VW := VW.other W48 (own_ne (by omega))
  replace FW := FW.other W48 (Or.inr (slot_ne (Or.inl (hw _ (List.mem_of_getElem? (i := 16) rfl))) (Or.inl (hw _ (List.mem_of_getElem? (i := 23) rfl))) (by decide) (t := (.array .long)) (by decide) (t' := (.array .byte)) (by decide)))
  replace VC := VC.other W48 (own_ne (by omega))
  replace FC := FC.other W48 (Or.inr (slot_ne (Or.inl (hw _ (List.mem_of_getElem? (i := 18) rfl))) (Or.inl (hw _ (List.mem_of_getElem? (i := 23) rfl))) (by decide) (t := (.array .int)) (by decide) (t' := (.array .byte)) (by decide)))
  replace VD := VD.other W48 (own_ne (by omega))
  replace FD := FD.other W48 (Or.inr (slot_ne (Or.inl (hw _ (List.mem_of_getElem? (i := 20) rfl))) (Or.inl (hw _ (List.mem_of_getElem? (i := 23) rfl))) (by decide) (t := (.array .long)) (by decide) (t' := (.array .byte)) (by decide)))
  replace VF := VF.other W48 (own_ne (by omega))
  replace FF := Fn48
  show OGoes p.tables e below _ (T48.setTop (mkF m 72 #[.val (.ref ep), .val (.int (4 : Int32))] []))
  have y48 := W48.size
  exact own_retV X48 hx hlk hret (hb hby d8_72) (by decide) (by decide) ⟨rfl, N48, by rw [e48]; exact ⟨cN, cG, cW, cC, cD, cF, _, _, _, _, _, _, ⟨by omega, by omega, by omega, by omega, by omega, by omega, by omega⟩, E, FN, FG, FW, FC, FD, FF, FS, VN, VG, VW, VC, VD, VF⟩⟩
theorem ef_rmSh (m : MethodId) (x0 : Nat) (x1 : Int32) (x2 : Int32) (x3 : Int32) : entryFrame m #[(.ref x0), (.int x1), (.int x2), (.int x3)] 4 = mkF m 0 #[.val (.ref x0), .val (.int x1), .val (.int x2), .val (.int x3)] [] := by first | (simp [entryFrame, mkF, argsToLocals, Value.category]; done) | rfl
set_option maxRecDepth 65536 in
set_option maxHeartbeats 40000000 in
theorem rmSh (l : Launch) (Z : State) (a0 : Array Value) (hw : ∀ d ∈ tables_1, d.before a0 Z = true) (ep : Nat) (f t n sz : Int32) (vN uN : List Value) (hN : vN.take t.toNatClampNeg ++ ((List.range n.toNatClampNeg).map fun i => vN.getD (f.toNatClampNeg + i) (.long 0)) ++ vN.drop (t.toNatClampNeg + n.toNatClampNeg) = uN) (hl : vN.length = 4) (hzJ : ([.long 0, .long 0, .long 0, .long 0] : List Value).take t.toNatClampNeg ++ ((List.range n.toNatClampNeg).map fun i => ([.long 0, .long 0, .long 0, .long 0] : List Value).getD (f.toNatClampNeg + i) (.long 0)) ++ ([.long 0, .long 0, .long 0, .long 0] : List Value).drop (t.toNatClampNeg + n.toNatClampNeg) = [.long 0, .long 0, .long 0, .long 0]) (hzI : ([.int 0, .int 0, .int 0, .int 0] : List Value).take t.toNatClampNeg ++ ((List.range n.toNatClampNeg).map fun i => ([.int 0, .int 0, .int 0, .int 0] : List Value).getD (f.toNatClampNeg + i) (.int 0)) ++ ([.int 0, .int 0, .int 0, .int 0] : List Value).drop (t.toNatClampNeg + n.toNatClampNeg) = [.int 0, .int 0, .int 0, .int 0]) (p1 : ¬ f < 0) (p2 : ¬ t < 0) (p3 : ¬ n < 0) (p4 : f.toNatClampNeg + n.toNatClampNeg ≤ 4) (p5 : t.toNatClampNeg + n.toNatClampNeg ≤ 4) (h0 : Heap) (H : own_EP Z h0 ep 4 vN [.int 0, .int 0, .int 0, .int 0] [.long 0, .long 0, .long 0, .long 0] [.int 0, .int 0, .int 0, .int 0] [.long 0, .long 0, .long 0, .long 0] [.int 0, .int 0, .int 0, .int 0] sz) :
    OMet l Z (⟨"com/example/killifish/killifish/store/Epochs", "shift", "(III)V"⟩ : MethodName) prog_13_method_25_code 4 none ⟨1, 0, 0, 40⟩ #[(.ref ep), (.int f), (.int t), (.int n)] h0 (fun v h L => v = none ∧ Fr Z.heap.size L ∧ own_EP Z h ep 4 uN [.int 0, .int 0, .int 0, .int 0] [.long 0, .long 0, .long 0, .long 0] [.int 0, .int 0, .int 0, .int 0] [.long 0, .long 0, .long 0, .long 0] [.int 0, .int 0, .int 0, .int 0] sz) := by
  refine own_body pf_13 ?_
  intro p e s m below meth c T0 X0 hx hby hml hZ hown hnm hret hlk e0
  replace hown : s.vm.findClass "com/example/killifish/killifish/store/Epochs" = some m.cls := hown
  refine own_cast (ef_rmSh m (ep) (f) (t) (n)) ?_
  show OGoes p.tables e below _ (T0.setTop (mkF m 0 #[.val (.ref ep), .val (.int f), .val (.int t), .val (.int n)] []))
  obtain ⟨aN, aG, aW, aC, aD, aF, kN, kG, kW, kC, kD, kF, ⟨o0, o1, o2, o3, o4, o5, o6⟩, E, FN, FG, FW, FC, FD, FF, FS, VN, VG, VW, VC, VD, VF⟩ := H
  refine own_st (V := (T0.setTop (mkF m 1 #[.val (.ref ep), .val (.int f), .val (.int t), .val (.int n)] [(.ref ep)]))) (fun t ks => XS.aloadN X0.here hx rfl (hb hby d13_0) rfl rfl ks) ?_
  refine own_getfield X0 hx hZ e0 hown (hw _ (List.mem_of_getElem? (i := 10) rfl)) Via.refl FN (hb hby d13_1) ?_
  intro T49 X49 e49
  show OGoes p.tables e below _ (T49.setTop (mkF m 4 #[.val (.ref ep), .val (.int f), .val (.int t), .val (.int n)] [(.ref aN)]))
  refine own_st (V := (T49.setTop (mkF m 5 #[.val (.ref ep), .val (.int f), .val (.int t), .val (.int n)] [(.int f), (.ref aN)]))) (fun t ks => XS.iloadN X49.here hx rfl (hb hby d13_4) rfl ks) ?_
  refine own_st (V := (T49.setTop (mkF m 6 #[.val (.ref ep), .val (.int f), .val (.int t), .val (.int n)] [(.ref ep), (.int f), (.ref aN)]))) (fun t ks => XS.aloadN X49.here hx rfl (hb hby d13_5) rfl rfl ks) ?_
  refine own_getfield X49 hx hZ e49 hown (hw _ (List.mem_of_getElem? (i := 10) rfl)) Via.refl FN (hb hby d13_6) ?_
  intro T50 X50 e50
  show OGoes p.tables e below _ (T50.setTop (mkF m 9 #[.val (.ref ep), .val (.int f), .val (.int t), .val (.int n)] [(.ref aN), (.int f), (.ref aN)]))
  refine own_st (V := (T50.setTop (mkF m 10 #[.val (.ref ep), .val (.int f), .val (.int t), .val (.int n)] [(.int t), (.ref aN), (.int f), (.ref aN)]))) (fun t ks => XS.iloadN X50.here hx rfl (hb hby d13_9) rfl ks) ?_
  refine own_st (V := (T50.setTop (mkF m 11 #[.val (.ref ep), .val (.int f), .val (.int t), .val (.int n)] [(.int n), (.int t), (.ref aN), (.int f), (.ref aN)]))) (fun t ks => XS.iloadN X50.here hx rfl (hb hby d13_10) rfl ks) ?_
  refine own_acopy X50 hx hZ e50 hown (hw _ (List.mem_of_getElem? (i := 69) rfl)) (hw _ (List.mem_of_getElem? (i := 58) rfl)) (hw _ (List.mem_of_getElem? (i := 56) rfl)) (hw _ (List.mem_of_getElem? (i := 57) rfl)) VN VN rfl p1 p2 p3 p4 p5 rfl (by rw [hl]; exact p5) (Fr.nil Z.heap.size) (by omega) (by rw [hml]; rfl) (hb hby d13_11) (by decide) (W := 0) (Nat.le_of_eq rfl) (by decide) ?_
  intro T51 h51 L51 X51 e51 N51 K51 An51
  replace E := E.keep K51
  replace FN := FN.keep K51 (ninS (own_ne (by omega)) nin0)
  replace FG := FG.keep K51 (ninS (own_ne (by omega)) nin0)
  replace VG := VG.keep K51 (ninS (own_ne (by omega)) nin0)
  replace FW := FW.keep K51 (ninS (own_ne (by omega)) nin0)
  replace VW := VW.keep K51 (ninS (own_ne (by omega)) nin0)
  replace FC := FC.keep K51 (ninS (own_ne (by omega)) nin0)
  replace VC := VC.keep K51 (ninS (own_ne (by omega)) nin0)
  replace FD := FD.keep K51 (ninS (own_ne (by omega)) nin0)
  replace VD := VD.keep K51 (ninS (own_ne (by omega)) nin0)
  replace FF := FF.keep K51 (ninS (own_ne (by omega)) nin0)
  replace VF := VF.keep K51 (ninS (own_ne (by omega)) nin0)
  replace FS := FS.keep K51 (ninS (own_ne (by omega)) nin0)
  replace VN := An51
  show OGoes p.tables e below _ (T51.setTop (mkF m 14 #[.val (.ref ep), .val (.int f), .val (.int t), .val (.int n)] []))
  rw [hN] at VN
  refine own_st (V := (T51.setTop (mkF m 15 #[.val (.ref ep), .val (.int f), .val (.int t), .val (.int n)] [(.ref ep)]))) (fun t ks => XS.aloadN X51.here hx rfl (hb hby d13_14) rfl rfl ks) ?_
  refine own_getfield X51 hx hZ e51 hown (hw _ (List.mem_of_getElem? (i := 13) rfl)) Via.refl FG (hb hby d13_15) ?_
  intro T52 X52 e52
  show OGoes p.tables e below _ (T52.setTop (mkF m 18 #[.val (.ref ep), .val (.int f), .val (.int t), .val (.int n)] [(.ref aG)]))
  refine own_st (V := (T52.setTop (mkF m 19 #[.val (.ref ep), .val (.int f), .val (.int t), .val (.int n)] [(.int f), (.ref aG)]))) (fun t ks => XS.iloadN X52.here hx rfl (hb hby d13_18) rfl ks) ?_
  refine own_st (V := (T52.setTop (mkF m 20 #[.val (.ref ep), .val (.int f), .val (.int t), .val (.int n)] [(.ref ep), (.int f), (.ref aG)]))) (fun t ks => XS.aloadN X52.here hx rfl (hb hby d13_19) rfl rfl ks) ?_
  refine own_getfield X52 hx hZ e52 hown (hw _ (List.mem_of_getElem? (i := 13) rfl)) Via.refl FG (hb hby d13_20) ?_
  intro T53 X53 e53
  show OGoes p.tables e below _ (T53.setTop (mkF m 23 #[.val (.ref ep), .val (.int f), .val (.int t), .val (.int n)] [(.ref aG), (.int f), (.ref aG)]))
  refine own_st (V := (T53.setTop (mkF m 24 #[.val (.ref ep), .val (.int f), .val (.int t), .val (.int n)] [(.int t), (.ref aG), (.int f), (.ref aG)]))) (fun t ks => XS.iloadN X53.here hx rfl (hb hby d13_23) rfl ks) ?_
  refine own_st (V := (T53.setTop (mkF m 25 #[.val (.ref ep), .val (.int f), .val (.int t), .val (.int n)] [(.int n), (.int t), (.ref aG), (.int f), (.ref aG)]))) (fun t ks => XS.iloadN X53.here hx rfl (hb hby d13_24) rfl ks) ?_
  refine own_acopy X53 hx hZ e53 hown (hw _ (List.mem_of_getElem? (i := 69) rfl)) (hw _ (List.mem_of_getElem? (i := 58) rfl)) (hw _ (List.mem_of_getElem? (i := 56) rfl)) (hw _ (List.mem_of_getElem? (i := 57) rfl)) VG VG rfl p1 p2 p3 p4 p5 rfl p5 N51 (by omega) (by rw [hml]; rfl) (hb hby d13_25) (by decide) (W := 0) (Nat.le_of_eq rfl) (by decide) ?_
  intro T54 h54 L54 X54 e54 N54 K54 An54
  replace E := E.keep K54
  replace FN := FN.keep K54 (ninS (own_ne (by omega)) nin0)
  replace FG := FG.keep K54 (ninS (own_ne (by omega)) nin0)
  replace FW := FW.keep K54 (ninS (own_ne (by omega)) nin0)
  replace VW := VW.keep K54 (ninS (own_ne (by omega)) nin0)
  replace FC := FC.keep K54 (ninS (own_ne (by omega)) nin0)
  replace VC := VC.keep K54 (ninS (own_ne (by omega)) nin0)
  replace FD := FD.keep K54 (ninS (own_ne (by omega)) nin0)
  replace VD := VD.keep K54 (ninS (own_ne (by omega)) nin0)
  replace FF := FF.keep K54 (ninS (own_ne (by omega)) nin0)
  replace VF := VF.keep K54 (ninS (own_ne (by omega)) nin0)
  replace FS := FS.keep K54 (ninS (own_ne (by omega)) nin0)
  replace VN := VN.keep K54 (ninS (own_ne (by omega)) nin0)
  replace VG := An54
  show OGoes p.tables e below _ (T54.setTop (mkF m 28 #[.val (.ref ep), .val (.int f), .val (.int t), .val (.int n)] []))
  rw [hzI] at VG
  refine own_st (V := (T54.setTop (mkF m 29 #[.val (.ref ep), .val (.int f), .val (.int t), .val (.int n)] [(.ref ep)]))) (fun t ks => XS.aloadN X54.here hx rfl (hb hby d13_28) rfl rfl ks) ?_
  refine own_getfield X54 hx hZ e54 hown (hw _ (List.mem_of_getElem? (i := 15) rfl)) Via.refl FW (hb hby d13_29) ?_
  intro T55 X55 e55
  show OGoes p.tables e below _ (T55.setTop (mkF m 32 #[.val (.ref ep), .val (.int f), .val (.int t), .val (.int n)] [(.ref aW)]))
  refine own_st (V := (T55.setTop (mkF m 33 #[.val (.ref ep), .val (.int f), .val (.int t), .val (.int n)] [(.int f), (.ref aW)]))) (fun t ks => XS.iloadN X55.here hx rfl (hb hby d13_32) rfl ks) ?_
  refine own_st (V := (T55.setTop (mkF m 34 #[.val (.ref ep), .val (.int f), .val (.int t), .val (.int n)] [(.ref ep), (.int f), (.ref aW)]))) (fun t ks => XS.aloadN X55.here hx rfl (hb hby d13_33) rfl rfl ks) ?_
  refine own_getfield X55 hx hZ e55 hown (hw _ (List.mem_of_getElem? (i := 15) rfl)) Via.refl FW (hb hby d13_34) ?_
  intro T56 X56 e56
  show OGoes p.tables e below _ (T56.setTop (mkF m 37 #[.val (.ref ep), .val (.int f), .val (.int t), .val (.int n)] [(.ref aW), (.int f), (.ref aW)]))
  refine own_st (V := (T56.setTop (mkF m 38 #[.val (.ref ep), .val (.int f), .val (.int t), .val (.int n)] [(.int t), (.ref aW), (.int f), (.ref aW)]))) (fun t ks => XS.iloadN X56.here hx rfl (hb hby d13_37) rfl ks) ?_
  refine own_st (V := (T56.setTop (mkF m 39 #[.val (.ref ep), .val (.int f), .val (.int t), .val (.int n)] [(.int n), (.int t), (.ref aW), (.int f), (.ref aW)]))) (fun t ks => XS.iloadN X56.here hx rfl (hb hby d13_38) rfl ks) ?_
  refine own_acopy X56 hx hZ e56 hown (hw _ (List.mem_of_getElem? (i := 69) rfl)) (hw _ (List.mem_of_getElem? (i := 58) rfl)) (hw _ (List.mem_of_getElem? (i := 56) rfl)) (hw _ (List.mem_of_getElem? (i := 57) rfl)) VW VW rfl p1 p2 p3 p4 p5 rfl p5 N54 (by omega) (by rw [hml]; rfl) (hb hby d13_39) (by decide) (W := 0) (Nat.le_of_eq rfl) (by decide) ?_
  intro T57 h57 L57 X57 e57 N57 K57 An57
  replace E := E.keep K57
  replace FN := FN.keep K57 (ninS (own_ne (by omega)) nin0)
  replace FG := FG.keep K57 (ninS (own_ne (by omega)) nin0)
  replace FW := FW.keep K57 (ninS (own_ne (by omega)) nin0)
  replace FC := FC.keep K57 (ninS (own_ne (by omega)) nin0)
  replace VC := VC.keep K57 (ninS (own_ne (by omega)) nin0)
  replace FD := FD.keep K57 (ninS (own_ne (by omega)) nin0)
  replace VD := VD.keep K57 (ninS (own_ne (by omega)) nin0)
  replace FF := FF.keep K57 (ninS (own_ne (by omega)) nin0)
  replace VF := VF.keep K57 (ninS (own_ne (by omega)) nin0)
  replace FS := FS.keep K57 (ninS (own_ne (by omega)) nin0)
  replace VN := VN.keep K57 (ninS (own_ne (by omega)) nin0)
  replace VG := VG.keep K57 (ninS (own_ne (by omega)) nin0)
  replace VW := An57
  show OGoes p.tables e below _ (T57.setTop (mkF m 42 #[.val (.ref ep), .val (.int f), .val (.int t), .val (.int n)] []))
  rw [hzJ] at VW
  refine own_st (V := (T57.setTop (mkF m 43 #[.val (.ref ep), .val (.int f), .val (.int t), .val (.int n)] [(.ref ep)]))) (fun t ks => XS.aloadN X57.here hx rfl (hb hby d13_42) rfl rfl ks) ?_
  refine own_getfield X57 hx hZ e57 hown (hw _ (List.mem_of_getElem? (i := 17) rfl)) Via.refl FC (hb hby d13_43) ?_
  intro T58 X58 e58
  show OGoes p.tables e below _ (T58.setTop (mkF m 46 #[.val (.ref ep), .val (.int f), .val (.int t), .val (.int n)] [(.ref aC)]))
  refine own_st (V := (T58.setTop (mkF m 47 #[.val (.ref ep), .val (.int f), .val (.int t), .val (.int n)] [(.int f), (.ref aC)]))) (fun t ks => XS.iloadN X58.here hx rfl (hb hby d13_46) rfl ks) ?_
  refine own_st (V := (T58.setTop (mkF m 48 #[.val (.ref ep), .val (.int f), .val (.int t), .val (.int n)] [(.ref ep), (.int f), (.ref aC)]))) (fun t ks => XS.aloadN X58.here hx rfl (hb hby d13_47) rfl rfl ks) ?_
  refine own_getfield X58 hx hZ e58 hown (hw _ (List.mem_of_getElem? (i := 17) rfl)) Via.refl FC (hb hby d13_48) ?_
  intro T59 X59 e59
  show OGoes p.tables e below _ (T59.setTop (mkF m 51 #[.val (.ref ep), .val (.int f), .val (.int t), .val (.int n)] [(.ref aC), (.int f), (.ref aC)]))
  refine own_st (V := (T59.setTop (mkF m 52 #[.val (.ref ep), .val (.int f), .val (.int t), .val (.int n)] [(.int t), (.ref aC), (.int f), (.ref aC)]))) (fun t ks => XS.iloadN X59.here hx rfl (hb hby d13_51) rfl ks) ?_
  refine own_st (V := (T59.setTop (mkF m 53 #[.val (.ref ep), .val (.int f), .val (.int t), .val (.int n)] [(.int n), (.int t), (.ref aC), (.int f), (.ref aC)]))) (fun t ks => XS.iloadN X59.here hx rfl (hb hby d13_52) rfl ks) ?_
  refine own_acopy X59 hx hZ e59 hown (hw _ (List.mem_of_getElem? (i := 69) rfl)) (hw _ (List.mem_of_getElem? (i := 58) rfl)) (hw _ (List.mem_of_getElem? (i := 56) rfl)) (hw _ (List.mem_of_getElem? (i := 57) rfl)) VC VC rfl p1 p2 p3 p4 p5 rfl p5 N57 (by omega) (by rw [hml]; rfl) (hb hby d13_53) (by decide) (W := 0) (Nat.le_of_eq rfl) (by decide) ?_
  intro T60 h60 L60 X60 e60 N60 K60 An60
  replace E := E.keep K60
  replace FN := FN.keep K60 (ninS (own_ne (by omega)) nin0)
  replace FG := FG.keep K60 (ninS (own_ne (by omega)) nin0)
  replace FW := FW.keep K60 (ninS (own_ne (by omega)) nin0)
  replace FC := FC.keep K60 (ninS (own_ne (by omega)) nin0)
  replace FD := FD.keep K60 (ninS (own_ne (by omega)) nin0)
  replace VD := VD.keep K60 (ninS (own_ne (by omega)) nin0)
  replace FF := FF.keep K60 (ninS (own_ne (by omega)) nin0)
  replace VF := VF.keep K60 (ninS (own_ne (by omega)) nin0)
  replace FS := FS.keep K60 (ninS (own_ne (by omega)) nin0)
  replace VN := VN.keep K60 (ninS (own_ne (by omega)) nin0)
  replace VG := VG.keep K60 (ninS (own_ne (by omega)) nin0)
  replace VW := VW.keep K60 (ninS (own_ne (by omega)) nin0)
  replace VC := An60
  show OGoes p.tables e below _ (T60.setTop (mkF m 56 #[.val (.ref ep), .val (.int f), .val (.int t), .val (.int n)] []))
  rw [hzI] at VC
  refine own_st (V := (T60.setTop (mkF m 57 #[.val (.ref ep), .val (.int f), .val (.int t), .val (.int n)] [(.ref ep)]))) (fun t ks => XS.aloadN X60.here hx rfl (hb hby d13_56) rfl rfl ks) ?_
  refine own_getfield X60 hx hZ e60 hown (hw _ (List.mem_of_getElem? (i := 19) rfl)) Via.refl FD (hb hby d13_57) ?_
  intro T61 X61 e61
  show OGoes p.tables e below _ (T61.setTop (mkF m 60 #[.val (.ref ep), .val (.int f), .val (.int t), .val (.int n)] [(.ref aD)]))
  refine own_st (V := (T61.setTop (mkF m 61 #[.val (.ref ep), .val (.int f), .val (.int t), .val (.int n)] [(.int f), (.ref aD)]))) (fun t ks => XS.iloadN X61.here hx rfl (hb hby d13_60) rfl ks) ?_
  refine own_st (V := (T61.setTop (mkF m 62 #[.val (.ref ep), .val (.int f), .val (.int t), .val (.int n)] [(.ref ep), (.int f), (.ref aD)]))) (fun t ks => XS.aloadN X61.here hx rfl (hb hby d13_61) rfl rfl ks) ?_
  refine own_getfield X61 hx hZ e61 hown (hw _ (List.mem_of_getElem? (i := 19) rfl)) Via.refl FD (hb hby d13_62) ?_
  intro T62 X62 e62
  show OGoes p.tables e below _ (T62.setTop (mkF m 65 #[.val (.ref ep), .val (.int f), .val (.int t), .val (.int n)] [(.ref aD), (.int f), (.ref aD)]))
  refine own_st (V := (T62.setTop (mkF m 66 #[.val (.ref ep), .val (.int f), .val (.int t), .val (.int n)] [(.int t), (.ref aD), (.int f), (.ref aD)]))) (fun t ks => XS.iloadN X62.here hx rfl (hb hby d13_65) rfl ks) ?_
  refine own_st (V := (T62.setTop (mkF m 67 #[.val (.ref ep), .val (.int f), .val (.int t), .val (.int n)] [(.int n), (.int t), (.ref aD), (.int f), (.ref aD)]))) (fun t ks => XS.iloadN X62.here hx rfl (hb hby d13_66) rfl ks) ?_
  refine own_acopy X62 hx hZ e62 hown (hw _ (List.mem_of_getElem? (i := 69) rfl)) (hw _ (List.mem_of_getElem? (i := 58) rfl)) (hw _ (List.mem_of_getElem? (i := 56) rfl)) (hw _ (List.mem_of_getElem? (i := 57) rfl)) VD VD rfl p1 p2 p3 p4 p5 rfl p5 N60 (by omega) (by rw [hml]; rfl) (hb hby d13_67) (by decide) (W := 0) (Nat.le_of_eq rfl) (by decide) ?_
  intro T63 h63 L63 X63 e63 N63 K63 An63
  replace E := E.keep K63
  replace FN := FN.keep K63 (ninS (own_ne (by omega)) nin0)
  replace FG := FG.keep K63 (ninS (own_ne (by omega)) nin0)
  replace FW := FW.keep K63 (ninS (own_ne (by omega)) nin0)
  replace FC := FC.keep K63 (ninS (own_ne (by omega)) nin0)
  replace FD := FD.keep K63 (ninS (own_ne (by omega)) nin0)
  replace FF := FF.keep K63 (ninS (own_ne (by omega)) nin0)
  replace VF := VF.keep K63 (ninS (own_ne (by omega)) nin0)
  replace FS := FS.keep K63 (ninS (own_ne (by omega)) nin0)
  replace VN := VN.keep K63 (ninS (own_ne (by omega)) nin0)
  replace VG := VG.keep K63 (ninS (own_ne (by omega)) nin0)
  replace VW := VW.keep K63 (ninS (own_ne (by omega)) nin0)
  replace VC := VC.keep K63 (ninS (own_ne (by omega)) nin0)
  replace VD := An63
  show OGoes p.tables e below _ (T63.setTop (mkF m 70 #[.val (.ref ep), .val (.int f), .val (.int t), .val (.int n)] []))
  rw [hzJ] at VD
  refine own_st (V := (T63.setTop (mkF m 71 #[.val (.ref ep), .val (.int f), .val (.int t), .val (.int n)] [(.ref ep)]))) (fun t ks => XS.aloadN X63.here hx rfl (hb hby d13_70) rfl rfl ks) ?_
  refine own_getfield X63 hx hZ e63 hown (hw _ (List.mem_of_getElem? (i := 22) rfl)) Via.refl FF (hb hby d13_71) ?_
  intro T64 X64 e64
  show OGoes p.tables e below _ (T64.setTop (mkF m 74 #[.val (.ref ep), .val (.int f), .val (.int t), .val (.int n)] [(.ref aF)]))
  refine own_st (V := (T64.setTop (mkF m 75 #[.val (.ref ep), .val (.int f), .val (.int t), .val (.int n)] [(.int f), (.ref aF)]))) (fun t ks => XS.iloadN X64.here hx rfl (hb hby d13_74) rfl ks) ?_
  refine own_st (V := (T64.setTop (mkF m 76 #[.val (.ref ep), .val (.int f), .val (.int t), .val (.int n)] [(.ref ep), (.int f), (.ref aF)]))) (fun t ks => XS.aloadN X64.here hx rfl (hb hby d13_75) rfl rfl ks) ?_
  refine own_getfield X64 hx hZ e64 hown (hw _ (List.mem_of_getElem? (i := 22) rfl)) Via.refl FF (hb hby d13_76) ?_
  intro T65 X65 e65
  show OGoes p.tables e below _ (T65.setTop (mkF m 79 #[.val (.ref ep), .val (.int f), .val (.int t), .val (.int n)] [(.ref aF), (.int f), (.ref aF)]))
  refine own_st (V := (T65.setTop (mkF m 80 #[.val (.ref ep), .val (.int f), .val (.int t), .val (.int n)] [(.int t), (.ref aF), (.int f), (.ref aF)]))) (fun t ks => XS.iloadN X65.here hx rfl (hb hby d13_79) rfl ks) ?_
  refine own_st (V := (T65.setTop (mkF m 81 #[.val (.ref ep), .val (.int f), .val (.int t), .val (.int n)] [(.int n), (.int t), (.ref aF), (.int f), (.ref aF)]))) (fun t ks => XS.iloadN X65.here hx rfl (hb hby d13_80) rfl ks) ?_
  refine own_acopy X65 hx hZ e65 hown (hw _ (List.mem_of_getElem? (i := 69) rfl)) (hw _ (List.mem_of_getElem? (i := 58) rfl)) (hw _ (List.mem_of_getElem? (i := 56) rfl)) (hw _ (List.mem_of_getElem? (i := 57) rfl)) VF VF rfl p1 p2 p3 p4 p5 rfl p5 N63 (by omega) (by rw [hml]; rfl) (hb hby d13_81) (by decide) (W := 0) (Nat.le_of_eq rfl) (by decide) ?_
  intro T66 h66 L66 X66 e66 N66 K66 An66
  replace E := E.keep K66
  replace FN := FN.keep K66 (ninS (own_ne (by omega)) nin0)
  replace FG := FG.keep K66 (ninS (own_ne (by omega)) nin0)
  replace FW := FW.keep K66 (ninS (own_ne (by omega)) nin0)
  replace FC := FC.keep K66 (ninS (own_ne (by omega)) nin0)
  replace FD := FD.keep K66 (ninS (own_ne (by omega)) nin0)
  replace FF := FF.keep K66 (ninS (own_ne (by omega)) nin0)
  replace FS := FS.keep K66 (ninS (own_ne (by omega)) nin0)
  replace VN := VN.keep K66 (ninS (own_ne (by omega)) nin0)
  replace VG := VG.keep K66 (ninS (own_ne (by omega)) nin0)
  replace VW := VW.keep K66 (ninS (own_ne (by omega)) nin0)
  replace VC := VC.keep K66 (ninS (own_ne (by omega)) nin0)
  replace VD := VD.keep K66 (ninS (own_ne (by omega)) nin0)
  replace VF := An66
  show OGoes p.tables e below _ (T66.setTop (mkF m 84 #[.val (.ref ep), .val (.int f), .val (.int t), .val (.int n)] []))
  rw [hzI] at VF
  exact own_retV X66 hx hlk hret (hb hby d13_84) (by decide) (by decide) ⟨rfl, N66, by rw [e66]; exact ⟨aN, aG, aW, aC, aD, aF, _, _, _, _, _, _, ⟨by omega, by omega, by omega, by omega, by omega, by omega, by omega⟩, E, FN, FG, FW, FC, FD, FF, FS, VN, VG, VW, VC, VD, VF⟩⟩
theorem ef_rmAd00 (m : MethodId) (x0 : Nat) (x1 : Int64) : entryFrame m #[(.ref x0), (.long x1)] 4 = mkF m 0 #[.val (.ref x0), .val (.long x1), .second, .unset] [] := by first | (simp [entryFrame, mkF, argsToLocals, Value.category]; done) | rfl
set_option maxRecDepth 65536 in
set_option maxHeartbeats 40000000 in
theorem rmAd00 (l : Launch) (Z : State) (a0 : Array Value) (hw : ∀ d ∈ tables_1, d.before a0 Z = true) (ep : Nat) (q : Int64)  (h0 : Heap) (hZ0 : Z.heap.size ≤ h0.size) (H : own_EP Z h0 ep 0 (own_pad []) [] [] [] [] [] 0) :
    OMet l Z (⟨"com/example/killifish/killifish/store/Epochs", "add", "(J)I"⟩ : MethodName) prog_13_method_7_code 4 (some .int) ⟨3, 6, 24, 80⟩ #[(.ref ep), (.long q)] h0 (fun v h L => v = some (.int 0) ∧ Fr Z.heap.size L ∧ own_EP Z h ep 4 (own_pad [q]) [.int 0, .int 0, .int 0, .int 0] [.long 0, .long 0, .long 0, .long 0] [.int 0, .int 0, .int 0, .int 0] [.long 0, .long 0, .long 0, .long 0] [.int 0, .int 0, .int 0, .int 0] 1) := by
  refine own_body pf_3 ?_
  intro p e s m below meth c T0 X0 hx hby hml hZ hown hnm hret hlk e0
  replace hown : s.vm.findClass "com/example/killifish/killifish/store/Epochs" = some m.cls := hown
  refine own_cast (ef_rmAd00 m (ep) (q)) ?_
  show OGoes p.tables e below _ (T0.setTop (mkF m 0 #[.val (.ref ep), .val (.long q), .second, .unset] []))
  obtain ⟨aN, aG, aW, aC, aD, aF, kN, kG, kW, kC, kD, kF, ⟨o0, o1, o2, o3, o4, o5, o6⟩, E, FN, FG, FW, FC, FD, FF, FS, VN, VG, VW, VC, VD, VF⟩ := H
  refine own_st (V := (T0.setTop (mkF m 1 #[.val (.ref ep), .val (.long q), .second, .unset] [(.ref ep)]))) (fun t ks => XS.aloadN X0.here hx rfl (hb hby d3_0) rfl rfl ks) ?_
  refine own_getfield X0 hx hZ e0 hown (hw _ (List.mem_of_getElem? (i := 10) rfl)) Via.refl FN (hb hby d3_1) ?_
  intro T67 X67 e67
  show OGoes p.tables e below _ (T67.setTop (mkF m 4 #[.val (.ref ep), .val (.long q), .second, .unset] [(.ref aN)]))
  refine own_st (V := (T67.setTop (mkF m 5 #[.val (.ref ep), .val (.long q), .second, .unset] [(.int (0 : Int32)), (.ref aN)]))) (fun t ks => XS.iconst X67.here hx rfl (hb hby d3_4) ks) ?_
  refine own_st (V := (T67.setTop (mkF m 6 #[.val (.ref ep), .val (.long q), .second, .unset] [(.ref ep), (.int (0 : Int32)), (.ref aN)]))) (fun t ks => XS.aloadN X67.here hx rfl (hb hby d3_5) rfl rfl ks) ?_
  refine own_getfield X67 hx hZ e67 hown (hw _ (List.mem_of_getElem? (i := 29) rfl)) Via.refl FS (hb hby d3_6) ?_
  intro T68 X68 e68
  show OGoes p.tables e below _ (T68.setTop (mkF m 9 #[.val (.ref ep), .val (.long q), .second, .unset] [(.int (0 : Int32)), (.int (0 : Int32)), (.ref aN)]))
  refine own_st (V := (T68.setTop (mkF m 10 #[.val (.ref ep), .val (.long q), .second, .unset] [(.long q), (.int (0 : Int32)), (.int (0 : Int32)), (.ref aN)]))) (fun t ks => XS.lloadN X68.here hx rfl (hb hby d3_9) rfl ks) ?_
  refine own_callS0 X68 hx hZ hown (hw _ (List.mem_of_getElem? (i := 31) rfl)) (hw _ (List.mem_of_getElem? (i := 32) rfl)) (hw _ (List.mem_of_getElem? (i := 33) rfl)) (hw _ (List.mem_of_getElem? (i := 34) rfl)) (by decide) (rmBS0 l Z a0 hw aN kN q  (-1) rfl h0 VN) e68 (by rw [hml]; rfl) (argsL := [(.ref aN), (.int (0 : Int32)), (.int (0 : Int32)), (.long q)]) (rest := []) pd_2 rfl rfl rfl (W := 0) (Nat.le_of_eq rfl) (hb hby d3_10) (by decide) (by decide) (by decide) (by decide) ?_
  intro T69 X69 e69
  show OGoes p.tables e below _ (T69.setTop (mkF m 13 #[.val (.ref ep), .val (.long q), .second, .unset] [(.int (-1 : Int32))]))
  refine own_st (V := (T69.setTop (mkF m 14 #[.val (.ref ep), .val (.long q), .second, .val (.int (-1 : Int32))] []))) (fun t ks => XS.istoreN X69.here hx rfl (hb hby d3_13) rfl (l' := #[.val (.ref ep), .val (.long q), .second, .val (.int (-1 : Int32))]) rfl ks) ?_
  refine own_st (V := (T69.setTop (mkF m 15 #[.val (.ref ep), .val (.long q), .second, .val (.int (-1 : Int32))] [(.int (-1 : Int32))]))) (fun t ks => XS.iloadN X69.here hx rfl (hb hby d3_14) rfl ks) ?_
  refine own_st (V := (T69.setTop (mkF m 32 #[.val (.ref ep), .val (.long q), .second, .val (.int (-1 : Int32))] []))) (fun t ks => XS.ifYes X69.here hx rfl (pc0 := 15) (pc' := 32) rfl (hb hby d3_15) rfl (XT.i0_lt_t (by decide)) (by decide) (by decide) ks) ?_
  refine own_st (V := (T69.setTop (mkF m 33 #[.val (.ref ep), .val (.long q), .second, .val (.int (-1 : Int32))] [(.int (-1 : Int32))]))) (fun t ks => XS.iloadN X69.here hx rfl (hb hby d3_32) rfl ks) ?_
  refine own_st (V := (T69.setTop (mkF m 34 #[.val (.ref ep), .val (.long q), .second, .val (.int (-1 : Int32))] [(.int (-(-1 : Int32)))]))) (fun t ks => XS.ineg X69.here hx rfl (hb hby d3_33) rfl ks) ?_
  refine own_st (V := (T69.setTop (mkF m 35 #[.val (.ref ep), .val (.long q), .second, .val (.int (-1 : Int32))] [(.int (1 : Int32)), (.int (-(-1 : Int32)))]))) (fun t ks => XS.iconst X69.here hx rfl (hb hby d3_34) ks) ?_
  refine own_st (V := (T69.setTop (mkF m 36 #[.val (.ref ep), .val (.long q), .second, .val (.int (-1 : Int32))] [(.int ((-(-1 : Int32)) - (1 : Int32)))]))) (fun t ks => XS.isub X69.here hx rfl (hb hby d3_35) rfl ks) ?_
  refine own_cast (g' := (mkF m 36 #[.val (.ref ep), .val (.long q), .second, .val (.int (-1 : Int32))] [(.int (0 : Int32))])) (by rw [show ((-(-1 : Int32)) - (1 : Int32)) = (0 : Int32) from by decide]) ?_
  refine own_st (V := (T69.setTop (mkF m 37 #[.val (.ref ep), .val (.long q), .second, .val (.int (0 : Int32))] []))) (fun t ks => XS.istoreN X69.here hx rfl (hb hby d3_36) rfl (l' := #[.val (.ref ep), .val (.long q), .second, .val (.int (0 : Int32))]) rfl ks) ?_
  refine own_st (V := (T69.setTop (mkF m 38 #[.val (.ref ep), .val (.long q), .second, .val (.int (0 : Int32))] [(.ref ep)]))) (fun t ks => XS.aloadN X69.here hx rfl (hb hby d3_37) rfl rfl ks) ?_
  refine own_getfield X69 hx hZ e69 hown (hw _ (List.mem_of_getElem? (i := 29) rfl)) Via.refl FS (hb hby d3_38) ?_
  intro T70 X70 e70
  show OGoes p.tables e below _ (T70.setTop (mkF m 41 #[.val (.ref ep), .val (.long q), .second, .val (.int (0 : Int32))] [(.int (0 : Int32))]))
  refine own_st (V := (T70.setTop (mkF m 42 #[.val (.ref ep), .val (.long q), .second, .val (.int (0 : Int32))] [(.ref ep), (.int (0 : Int32))]))) (fun t ks => XS.aloadN X70.here hx rfl (hb hby d3_41) rfl rfl ks) ?_
  refine own_getfield X70 hx hZ e70 hown (hw _ (List.mem_of_getElem? (i := 10) rfl)) Via.refl FN (hb hby d3_42) ?_
  intro T71 X71 e71
  show OGoes p.tables e below _ (T71.setTop (mkF m 45 #[.val (.ref ep), .val (.long q), .second, .val (.int (0 : Int32))] [(.ref aN), (.int (0 : Int32))]))
  refine own_alen X71 hx hZ e71 VN (hb hby d3_45) ?_
  show OGoes p.tables e below _ (T71.setTop (mkF m 46 #[.val (.ref ep), .val (.long q), .second, .val (.int (0 : Int32))] [(.int (0 : Int32)), (.int (0 : Int32))]))
  refine own_st (V := (T71.setTop (mkF m 49 #[.val (.ref ep), .val (.long q), .second, .val (.int (0 : Int32))] []))) (fun t ks => XS.icmpNo X71.here hx rfl (hb hby d3_46) rfl (XT.ii_ne_f rfl) ks) ?_
  refine own_st (V := (T71.setTop (mkF m 50 #[.val (.ref ep), .val (.long q), .second, .val (.int (0 : Int32))] [(.ref ep)]))) (fun t ks => XS.aloadN X71.here hx rfl (hb hby d3_49) rfl rfl ks) ?_
  refine own_st (V := (T71.setTop (mkF m 51 #[.val (.ref ep), .val (.long q), .second, .val (.int (0 : Int32))] [(.ref ep), (.ref ep)]))) (fun t ks => XS.aloadN X71.here hx rfl (hb hby d3_50) rfl rfl ks) ?_
  refine own_getfield X71 hx hZ e71 hown (hw _ (List.mem_of_getElem? (i := 29) rfl)) Via.refl FS (hb hby d3_51) ?_
  intro T72 X72 e72
  show OGoes p.tables e below _ (T72.setTop (mkF m 54 #[.val (.ref ep), .val (.long q), .second, .val (.int (0 : Int32))] [(.int (0 : Int32)), (.ref ep)]))
  refine own_st (V := (T72.setTop (mkF m 55 #[.val (.ref ep), .val (.long q), .second, .val (.int (0 : Int32))] [(.int (4 : Int32)), (.int (0 : Int32)), (.ref ep)]))) (fun t ks => XS.iconst X72.here hx rfl (hb hby d3_54) ks) ?_
  refine own_st (V := (T72.setTop (mkF m 56 #[.val (.ref ep), .val (.long q), .second, .val (.int (0 : Int32))] [(.ref ep), (.int (4 : Int32)), (.int (0 : Int32)), (.ref ep)]))) (fun t ks => XS.aloadN X72.here hx rfl (hb hby d3_55) rfl rfl ks) ?_
  refine own_getfield X72 hx hZ e72 hown (hw _ (List.mem_of_getElem? (i := 29) rfl)) Via.refl FS (hb hby d3_56) ?_
  intro T73 X73 e73
  show OGoes p.tables e below _ (T73.setTop (mkF m 59 #[.val (.ref ep), .val (.long q), .second, .val (.int (0 : Int32))] [(.int (0 : Int32)), (.int (4 : Int32)), (.int (0 : Int32)), (.ref ep)]))
  refine own_st (V := (T73.setTop (mkF m 60 #[.val (.ref ep), .val (.long q), .second, .val (.int (0 : Int32))] [(.int (4 : Int32)), (.int (0 : Int32)), (.int (4 : Int32)), (.int (0 : Int32)), (.ref ep)]))) (fun t ks => XS.iconst X73.here hx rfl (hb hby d3_59) ks) ?_
  refine own_st (V := (T73.setTop (mkF m 61 #[.val (.ref ep), .val (.long q), .second, .val (.int (0 : Int32))] [(.int ((0 : Int32) / (4 : Int32))), (.int (4 : Int32)), (.int (0 : Int32)), (.ref ep)]))) (fun t ks => XS.idiv X73.here hx rfl (hb hby d3_60) rfl (by decide) ks) ?_
  refine own_cast (g' := (mkF m 61 #[.val (.ref ep), .val (.long q), .second, .val (.int (0 : Int32))] [(.int (0 : Int32)), (.int (4 : Int32)), (.int (0 : Int32)), (.ref ep)])) (by rw [show ((0 : Int32) / (4 : Int32)) = (0 : Int32) from by decide]) ?_
  refine own_callS0 X73 hx hZ hown (hw _ (List.mem_of_getElem? (i := 41) rfl)) (hw _ (List.mem_of_getElem? (i := 42) rfl)) (hw _ (List.mem_of_getElem? (i := 43) rfl)) (hw _ (List.mem_of_getElem? (i := 44) rfl)) (by decide) (rmMax l Z a0 hw 4 0 4 (by decide) h0) e73 (by rw [hml]; rfl) (argsL := [(.int (4 : Int32)), (.int (0 : Int32))]) (rest := [(.int (0 : Int32)), (.ref ep)]) pd_0 rfl rfl rfl (W := 2) (Nat.le_of_eq rfl) (hb hby d3_61) (by decide) (by decide) (by decide) (by decide) ?_
  intro T74 X74 e74
  show OGoes p.tables e below _ (T74.setTop (mkF m 64 #[.val (.ref ep), .val (.long q), .second, .val (.int (0 : Int32))] [(.int (4 : Int32)), (.int (0 : Int32)), (.ref ep)]))
  refine own_st (V := (T74.setTop (mkF m 65 #[.val (.ref ep), .val (.long q), .second, .val (.int (0 : Int32))] [(.int ((0 : Int32) + (4 : Int32))), (.ref ep)]))) (fun t ks => XS.iadd X74.here hx rfl (hb hby d3_64) rfl ks) ?_
  refine own_cast (g' := (mkF m 65 #[.val (.ref ep), .val (.long q), .second, .val (.int (0 : Int32))] [(.int (4 : Int32)), (.ref ep)])) (by rw [show ((0 : Int32) + (4 : Int32)) = (4 : Int32) from by decide]) ?_
  refine own_callP X74 hx hZ hown (hw _ (List.mem_of_getElem? (i := 45) rfl)) (hw _ (List.mem_of_getElem? (i := 47) rfl)) (hw _ (List.mem_of_getElem? (i := 1) rfl)) (hw _ (List.mem_of_getElem? (i := 46) rfl)) (hw _ (List.mem_of_getElem? (i := 2) rfl)) (hw _ (List.mem_of_getElem? (i := 48) rfl)) (by decide) (rmRz l Z a0 hw ep h0 hZ0 ⟨aN, aG, aW, aC, aD, aF, _, _, _, _, _, _, ⟨by omega, by omega, by omega, by omega, by omega, by omega, by omega⟩, E, FN, FG, FW, FC, FD, FF, FS, VN, VG, VW, VC, VD, VF⟩) e74 E (by rw [hml]; rfl) (argsL := [(.int (4 : Int32))]) (rest := []) pd_6 rfl rfl rfl (W := 0) (Nat.le_of_eq rfl) (hb hby d3_65) (by decide) (by decide) (by decide) (by decide) ?_
  rintro v75 T75 L75 X75 ⟨rfl, N75, H75⟩
  replace N75 := Fr.app (Fr.nil Z.heap.size) N75
  show OGoes p.tables e below _ (T75.setTop (mkF m 68 #[.val (.ref ep), .val (.long q), .second, .val (.int (0 : Int32))] []))
  obtain ⟨aN, aG, aW, aC, aD, aF, kN, kG, kW, kC, kD, kF, ⟨o0, o1, o2, o3, o4, o5, o6⟩, E, FN, FG, FW, FC, FD, FF, FS, VN, VG, VW, VC, VD, VF⟩ := H75
  refine own_st (V := (T75.setTop (mkF m 69 #[.val (.ref ep), .val (.long q), .second, .val (.int (0 : Int32))] [(.ref ep)]))) (fun t ks => XS.aloadN X75.here hx rfl (hb hby d3_68) rfl rfl ks) ?_
  refine own_st (V := (T75.setTop (mkF m 70 #[.val (.ref ep), .val (.long q), .second, .val (.int (0 : Int32))] [(.int (0 : Int32)), (.ref ep)]))) (fun t ks => XS.iloadN X75.here hx rfl (hb hby d3_69) rfl ks) ?_
  refine own_st (V := (T75.setTop (mkF m 71 #[.val (.ref ep), .val (.long q), .second, .val (.int (0 : Int32))] [(.int (0 : Int32)), (.int (0 : Int32)), (.ref ep)]))) (fun t ks => XS.iloadN X75.here hx rfl (hb hby d3_70) rfl ks) ?_
  refine own_st (V := (T75.setTop (mkF m 72 #[.val (.ref ep), .val (.long q), .second, .val (.int (0 : Int32))] [(.int (1 : Int32)), (.int (0 : Int32)), (.int (0 : Int32)), (.ref ep)]))) (fun t ks => XS.iconst X75.here hx rfl (hb hby d3_71) ks) ?_
  refine own_st (V := (T75.setTop (mkF m 73 #[.val (.ref ep), .val (.long q), .second, .val (.int (0 : Int32))] [(.int ((0 : Int32) + (1 : Int32))), (.int (0 : Int32)), (.ref ep)]))) (fun t ks => XS.iadd X75.here hx rfl (hb hby d3_72) rfl ks) ?_
  refine own_st (V := (T75.setTop (mkF m 74 #[.val (.ref ep), .val (.long q), .second, .val (.int (0 : Int32))] [(.ref ep), (.int ((0 : Int32) + (1 : Int32))), (.int (0 : Int32)), (.ref ep)]))) (fun t ks => XS.aloadN X75.here hx rfl (hb hby d3_73) rfl rfl ks) ?_
  refine own_getfield X75 hx hZ rfl hown (hw _ (List.mem_of_getElem? (i := 29) rfl)) Via.refl FS (hb hby d3_74) ?_
  intro T76 X76 e76
  show OGoes p.tables e below _ (T76.setTop (mkF m 77 #[.val (.ref ep), .val (.long q), .second, .val (.int (0 : Int32))] [(.int (0 : Int32)), (.int ((0 : Int32) + (1 : Int32))), (.int (0 : Int32)), (.ref ep)]))
  refine own_st (V := (T76.setTop (mkF m 78 #[.val (.ref ep), .val (.long q), .second, .val (.int (0 : Int32))] [(.int (0 : Int32)), (.int (0 : Int32)), (.int ((0 : Int32) + (1 : Int32))), (.int (0 : Int32)), (.ref ep)]))) (fun t ks => XS.iloadN X76.here hx rfl (hb hby d3_77) rfl ks) ?_
  refine own_st (V := (T76.setTop (mkF m 79 #[.val (.ref ep), .val (.long q), .second, .val (.int (0 : Int32))] [(.int ((0 : Int32) - (0 : Int32))), (.int ((0 : Int32) + (1 : Int32))), (.int (0 : Int32)), (.ref ep)]))) (fun t ks => XS.isub X76.here hx rfl (hb hby d3_78) rfl ks) ?_
  refine own_cast (g' := (mkF m 79 #[.val (.ref ep), .val (.long q), .second, .val (.int (0 : Int32))] [(.int ((0 : Int32) - (0 : Int32))), (.int (1 : Int32)), (.int (0 : Int32)), (.ref ep)])) (by rw [show ((0 : Int32) + (1 : Int32)) = (1 : Int32) from by decide]) ?_
  refine own_cast (g' := (mkF m 79 #[.val (.ref ep), .val (.long q), .second, .val (.int (0 : Int32))] [(.int (0 : Int32)), (.int (1 : Int32)), (.int (0 : Int32)), (.ref ep)])) (by rw [show ((0 : Int32) - (0 : Int32)) = (0 : Int32) from by decide]) ?_
  refine own_callP X76 hx hZ hown (hw _ (List.mem_of_getElem? (i := 65) rfl)) (hw _ (List.mem_of_getElem? (i := 67) rfl)) (hw _ (List.mem_of_getElem? (i := 1) rfl)) (hw _ (List.mem_of_getElem? (i := 66) rfl)) (hw _ (List.mem_of_getElem? (i := 2) rfl)) (hw _ (List.mem_of_getElem? (i := 68) rfl)) (by decide) (rmSh l Z a0 hw ep 0 1 0 0 [.long 0, .long 0, .long 0, .long 0] [.long 0, .long 0, .long 0, .long 0] rfl rfl rfl rfl (by decide) (by decide) (by decide) (by decide) (by decide) T75.heap ⟨aN, aG, aW, aC, aD, aF, _, _, _, _, _, _, ⟨by omega, by omega, by omega, by omega, by omega, by omega, by omega⟩, E, FN, FG, FW, FC, FD, FF, FS, VN, VG, VW, VC, VD, VF⟩) e76 E (by rw [hml]; rfl) (argsL := [(.int (0 : Int32)), (.int (1 : Int32)), (.int (0 : Int32))]) (rest := []) pd_1 rfl rfl rfl (W := 0) (Nat.le_of_eq rfl) (hb hby d3_79) (by decide) (by decide) (by decide) (by decide) ?_
  rintro v77 T77 L77 X77 ⟨rfl, N77, H77⟩
  replace N77 := Fr.app N75 N77
  show OGoes p.tables e below _ (T77.setTop (mkF m 82 #[.val (.ref ep), .val (.long q), .second, .val (.int (0 : Int32))] []))
  obtain ⟨aN, aG, aW, aC, aD, aF, kN, kG, kW, kC, kD, kF, ⟨o0, o1, o2, o3, o4, o5, o6⟩, E, FN, FG, FW, FC, FD, FF, FS, VN, VG, VW, VC, VD, VF⟩ := H77
  refine own_st (V := (T77.setTop (mkF m 83 #[.val (.ref ep), .val (.long q), .second, .val (.int (0 : Int32))] [(.ref ep)]))) (fun t ks => XS.aloadN X77.here hx rfl (hb hby d3_82) rfl rfl ks) ?_
  refine own_getfield X77 hx hZ rfl hown (hw _ (List.mem_of_getElem? (i := 10) rfl)) Via.refl FN (hb hby d3_83) ?_
  intro T78 X78 e78
  show OGoes p.tables e below _ (T78.setTop (mkF m 86 #[.val (.ref ep), .val (.long q), .second, .val (.int (0 : Int32))] [(.ref aN)]))
  refine own_st (V := (T78.setTop (mkF m 87 #[.val (.ref ep), .val (.long q), .second, .val (.int (0 : Int32))] [(.int (0 : Int32)), (.ref aN)]))) (fun t ks => XS.iloadN X78.here hx rfl (hb hby d3_86) rfl ks) ?_
  refine own_st (V := (T78.setTop (mkF m 88 #[.val (.ref ep), .val (.long q), .second, .val (.int (0 : Int32))] [(.long q), (.int (0 : Int32)), (.ref aN)]))) (fun t ks => XS.lloadN X78.here hx rfl (hb hby d3_87) rfl ks) ?_
  refine own_lastore X78 hx hZ e78 VN (by decide) (by decide) rfl (Nat.le_of_ble_eq_true rfl) N77 (by omega) (hb hby d3_88) ?_
  intro T79 h79 L79 X79 e79 N79 W79 An79
  replace E := E.wr W79
  replace FN := FN.other W79 (Or.inl (own_ne (by omega)))
  replace FG := FG.other W79 (Or.inl (own_ne (by omega)))
  replace VG := VG.other W79 (own_ne (by omega))
  replace FW := FW.other W79 (Or.inl (own_ne (by omega)))
  replace VW := VW.other W79 (own_ne (by omega))
  replace FC := FC.other W79 (Or.inl (own_ne (by omega)))
  replace VC := VC.other W79 (own_ne (by omega))
  replace FD := FD.other W79 (Or.inl (own_ne (by omega)))
  replace VD := VD.other W79 (own_ne (by omega))
  replace FF := FF.other W79 (Or.inl (own_ne (by omega)))
  replace VF := VF.other W79 (own_ne (by omega))
  replace FS := FS.other W79 (Or.inl (own_ne (by omega)))
  replace VN := An79
  show OGoes p.tables e below _ (T79.setTop (mkF m 89 #[.val (.ref ep), .val (.long q), .second, .val (.int (0 : Int32))] []))
  refine own_st (V := (T79.setTop (mkF m 90 #[.val (.ref ep), .val (.long q), .second, .val (.int (0 : Int32))] [(.ref ep)]))) (fun t ks => XS.aloadN X79.here hx rfl (hb hby d3_89) rfl rfl ks) ?_
  refine own_getfield X79 hx hZ e79 hown (hw _ (List.mem_of_getElem? (i := 13) rfl)) Via.refl FG (hb hby d3_90) ?_
  intro T80 X80 e80
  show OGoes p.tables e below _ (T80.setTop (mkF m 93 #[.val (.ref ep), .val (.long q), .second, .val (.int (0 : Int32))] [(.ref aG)]))
  refine own_st (V := (T80.setTop (mkF m 94 #[.val (.ref ep), .val (.long q), .second, .val (.int (0 : Int32))] [(.int (0 : Int32)), (.ref aG)]))) (fun t ks => XS.iloadN X80.here hx rfl (hb hby d3_93) rfl ks) ?_
  refine own_st (V := (T80.setTop (mkF m 95 #[.val (.ref ep), .val (.long q), .second, .val (.int (0 : Int32))] [(.int (0 : Int32)), (.int (0 : Int32)), (.ref aG)]))) (fun t ks => XS.iconst X80.here hx rfl (hb hby d3_94) ks) ?_
  refine own_iastore X80 hx hZ e80 VG (by decide) (by decide) rfl (Nat.le_of_ble_eq_true rfl) N79 (by omega) (hb hby d3_95) ?_
  intro T81 h81 L81 X81 e81 N81 W81 An81
  replace E := E.wr W81
  replace FN := FN.other W81 (Or.inl (own_ne (by omega)))
  replace VN := VN.other W81 (own_ne (by omega))
  replace FG := FG.other W81 (Or.inl (own_ne (by omega)))
  replace FW := FW.other W81 (Or.inl (own_ne (by omega)))
  replace VW := VW.other W81 (own_ne (by omega))
  replace FC := FC.other W81 (Or.inl (own_ne (by omega)))
  replace VC := VC.other W81 (own_ne (by omega))
  replace FD := FD.other W81 (Or.inl (own_ne (by omega)))
  replace VD := VD.other W81 (own_ne (by omega))
  replace FF := FF.other W81 (Or.inl (own_ne (by omega)))
  replace VF := VF.other W81 (own_ne (by omega))
  replace FS := FS.other W81 (Or.inl (own_ne (by omega)))
  replace VG := An81
  show OGoes p.tables e below _ (T81.setTop (mkF m 96 #[.val (.ref ep), .val (.long q), .second, .val (.int (0 : Int32))] []))
  refine own_st (V := (T81.setTop (mkF m 97 #[.val (.ref ep), .val (.long q), .second, .val (.int (0 : Int32))] [(.ref ep)]))) (fun t ks => XS.aloadN X81.here hx rfl (hb hby d3_96) rfl rfl ks) ?_
  refine own_getfield X81 hx hZ e81 hown (hw _ (List.mem_of_getElem? (i := 15) rfl)) Via.refl FW (hb hby d3_97) ?_
  intro T82 X82 e82
  show OGoes p.tables e below _ (T82.setTop (mkF m 100 #[.val (.ref ep), .val (.long q), .second, .val (.int (0 : Int32))] [(.ref aW)]))
  refine own_st (V := (T82.setTop (mkF m 101 #[.val (.ref ep), .val (.long q), .second, .val (.int (0 : Int32))] [(.int (0 : Int32)), (.ref aW)]))) (fun t ks => XS.iloadN X82.here hx rfl (hb hby d3_100) rfl ks) ?_
  refine own_st (V := (T82.setTop (mkF m 102 #[.val (.ref ep), .val (.long q), .second, .val (.int (0 : Int32))] [(.long (0 : Int64)), (.int (0 : Int32)), (.ref aW)]))) (fun t ks => XS.lconst X82.here hx rfl (hb hby d3_101) ks) ?_
  refine own_lastore X82 hx hZ e82 VW (by decide) (by decide) rfl (Nat.le_of_ble_eq_true rfl) N81 (by omega) (hb hby d3_102) ?_
  intro T83 h83 L83 X83 e83 N83 W83 An83
  replace E := E.wr W83
  replace FN := FN.other W83 (Or.inl (own_ne (by omega)))
  replace VN := VN.other W83 (own_ne (by omega))
  replace FG := FG.other W83 (Or.inl (own_ne (by omega)))
  replace VG := VG.other W83 (own_ne (by omega))
  replace FW := FW.other W83 (Or.inl (own_ne (by omega)))
  replace FC := FC.other W83 (Or.inl (own_ne (by omega)))
  replace VC := VC.other W83 (own_ne (by omega))
  replace FD := FD.other W83 (Or.inl (own_ne (by omega)))
  replace VD := VD.other W83 (own_ne (by omega))
  replace FF := FF.other W83 (Or.inl (own_ne (by omega)))
  replace VF := VF.other W83 (own_ne (by omega))
  replace FS := FS.other W83 (Or.inl (own_ne (by omega)))
  replace VW := An83
  show OGoes p.tables e below _ (T83.setTop (mkF m 103 #[.val (.ref ep), .val (.long q), .second, .val (.int (0 : Int32))] []))
  refine own_st (V := (T83.setTop (mkF m 104 #[.val (.ref ep), .val (.long q), .second, .val (.int (0 : Int32))] [(.ref ep)]))) (fun t ks => XS.aloadN X83.here hx rfl (hb hby d3_103) rfl rfl ks) ?_
  refine own_getfield X83 hx hZ e83 hown (hw _ (List.mem_of_getElem? (i := 17) rfl)) Via.refl FC (hb hby d3_104) ?_
  intro T84 X84 e84
  show OGoes p.tables e below _ (T84.setTop (mkF m 107 #[.val (.ref ep), .val (.long q), .second, .val (.int (0 : Int32))] [(.ref aC)]))
  refine own_st (V := (T84.setTop (mkF m 108 #[.val (.ref ep), .val (.long q), .second, .val (.int (0 : Int32))] [(.int (0 : Int32)), (.ref aC)]))) (fun t ks => XS.iloadN X84.here hx rfl (hb hby d3_107) rfl ks) ?_
  refine own_st (V := (T84.setTop (mkF m 109 #[.val (.ref ep), .val (.long q), .second, .val (.int (0 : Int32))] [(.int (0 : Int32)), (.int (0 : Int32)), (.ref aC)]))) (fun t ks => XS.iconst X84.here hx rfl (hb hby d3_108) ks) ?_
  refine own_iastore X84 hx hZ e84 VC (by decide) (by decide) rfl (Nat.le_of_ble_eq_true rfl) N83 (by omega) (hb hby d3_109) ?_
  intro T85 h85 L85 X85 e85 N85 W85 An85
  replace E := E.wr W85
  replace FN := FN.other W85 (Or.inl (own_ne (by omega)))
  replace VN := VN.other W85 (own_ne (by omega))
  replace FG := FG.other W85 (Or.inl (own_ne (by omega)))
  replace VG := VG.other W85 (own_ne (by omega))
  replace FW := FW.other W85 (Or.inl (own_ne (by omega)))
  replace VW := VW.other W85 (own_ne (by omega))
  replace FC := FC.other W85 (Or.inl (own_ne (by omega)))
  replace FD := FD.other W85 (Or.inl (own_ne (by omega)))
  replace VD := VD.other W85 (own_ne (by omega))
  replace FF := FF.other W85 (Or.inl (own_ne (by omega)))
  replace VF := VF.other W85 (own_ne (by omega))
  replace FS := FS.other W85 (Or.inl (own_ne (by omega)))
  replace VC := An85
  show OGoes p.tables e below _ (T85.setTop (mkF m 110 #[.val (.ref ep), .val (.long q), .second, .val (.int (0 : Int32))] []))
  refine own_st (V := (T85.setTop (mkF m 111 #[.val (.ref ep), .val (.long q), .second, .val (.int (0 : Int32))] [(.ref ep)]))) (fun t ks => XS.aloadN X85.here hx rfl (hb hby d3_110) rfl rfl ks) ?_
  refine own_getfield X85 hx hZ e85 hown (hw _ (List.mem_of_getElem? (i := 19) rfl)) Via.refl FD (hb hby d3_111) ?_
  intro T86 X86 e86
  show OGoes p.tables e below _ (T86.setTop (mkF m 114 #[.val (.ref ep), .val (.long q), .second, .val (.int (0 : Int32))] [(.ref aD)]))
  refine own_st (V := (T86.setTop (mkF m 115 #[.val (.ref ep), .val (.long q), .second, .val (.int (0 : Int32))] [(.int (0 : Int32)), (.ref aD)]))) (fun t ks => XS.iloadN X86.here hx rfl (hb hby d3_114) rfl ks) ?_
  refine own_st (V := (T86.setTop (mkF m 116 #[.val (.ref ep), .val (.long q), .second, .val (.int (0 : Int32))] [(.long (0 : Int64)), (.int (0 : Int32)), (.ref aD)]))) (fun t ks => XS.lconst X86.here hx rfl (hb hby d3_115) ks) ?_
  refine own_lastore X86 hx hZ e86 VD (by decide) (by decide) rfl (Nat.le_of_ble_eq_true rfl) N85 (by omega) (hb hby d3_116) ?_
  intro T87 h87 L87 X87 e87 N87 W87 An87
  replace E := E.wr W87
  replace FN := FN.other W87 (Or.inl (own_ne (by omega)))
  replace VN := VN.other W87 (own_ne (by omega))
  replace FG := FG.other W87 (Or.inl (own_ne (by omega)))
  replace VG := VG.other W87 (own_ne (by omega))
  replace FW := FW.other W87 (Or.inl (own_ne (by omega)))
  replace VW := VW.other W87 (own_ne (by omega))
  replace FC := FC.other W87 (Or.inl (own_ne (by omega)))
  replace VC := VC.other W87 (own_ne (by omega))
  replace FD := FD.other W87 (Or.inl (own_ne (by omega)))
  replace FF := FF.other W87 (Or.inl (own_ne (by omega)))
  replace VF := VF.other W87 (own_ne (by omega))
  replace FS := FS.other W87 (Or.inl (own_ne (by omega)))
  replace VD := An87
  show OGoes p.tables e below _ (T87.setTop (mkF m 117 #[.val (.ref ep), .val (.long q), .second, .val (.int (0 : Int32))] []))
  refine own_st (V := (T87.setTop (mkF m 118 #[.val (.ref ep), .val (.long q), .second, .val (.int (0 : Int32))] [(.ref ep)]))) (fun t ks => XS.aloadN X87.here hx rfl (hb hby d3_117) rfl rfl ks) ?_
  refine own_getfield X87 hx hZ e87 hown (hw _ (List.mem_of_getElem? (i := 22) rfl)) Via.refl FF (hb hby d3_118) ?_
  intro T88 X88 e88
  show OGoes p.tables e below _ (T88.setTop (mkF m 121 #[.val (.ref ep), .val (.long q), .second, .val (.int (0 : Int32))] [(.ref aF)]))
  refine own_st (V := (T88.setTop (mkF m 122 #[.val (.ref ep), .val (.long q), .second, .val (.int (0 : Int32))] [(.int (0 : Int32)), (.ref aF)]))) (fun t ks => XS.iloadN X88.here hx rfl (hb hby d3_121) rfl ks) ?_
  refine own_st (V := (T88.setTop (mkF m 123 #[.val (.ref ep), .val (.long q), .second, .val (.int (0 : Int32))] [(.int (0 : Int32)), (.int (0 : Int32)), (.ref aF)]))) (fun t ks => XS.iconst X88.here hx rfl (hb hby d3_122) ks) ?_
  refine own_bastore X88 hx hZ e88 VF (by decide) (by decide) rfl (Nat.le_of_ble_eq_true rfl) N87 (by omega) (hb hby d3_123) ?_
  intro T89 h89 L89 X89 e89 N89 W89 An89
  replace E := E.wr W89
  replace FN := FN.other W89 (Or.inl (own_ne (by omega)))
  replace VN := VN.other W89 (own_ne (by omega))
  replace FG := FG.other W89 (Or.inl (own_ne (by omega)))
  replace VG := VG.other W89 (own_ne (by omega))
  replace FW := FW.other W89 (Or.inl (own_ne (by omega)))
  replace VW := VW.other W89 (own_ne (by omega))
  replace FC := FC.other W89 (Or.inl (own_ne (by omega)))
  replace VC := VC.other W89 (own_ne (by omega))
  replace FD := FD.other W89 (Or.inl (own_ne (by omega)))
  replace VD := VD.other W89 (own_ne (by omega))
  replace FF := FF.other W89 (Or.inl (own_ne (by omega)))
  replace FS := FS.other W89 (Or.inl (own_ne (by omega)))
  replace VF := An89
  show OGoes p.tables e below _ (T89.setTop (mkF m 124 #[.val (.ref ep), .val (.long q), .second, .val (.int (0 : Int32))] []))
  refine own_st (V := (T89.setTop (mkF m 125 #[.val (.ref ep), .val (.long q), .second, .val (.int (0 : Int32))] [(.ref ep)]))) (fun t ks => XS.aloadN X89.here hx rfl (hb hby d3_124) rfl rfl ks) ?_
  refine own_st (V := (T89.setTop (mkF m 126 #[.val (.ref ep), .val (.long q), .second, .val (.int (0 : Int32))] [(.ref ep), (.ref ep)]))) (fun t ks => XS.dup X89.here hx rfl (hb hby d3_125) rfl rfl ks) ?_
  refine own_getfield X89 hx hZ e89 hown (hw _ (List.mem_of_getElem? (i := 29) rfl)) Via.refl FS (hb hby d3_126) ?_
  intro T90 X90 e90
  show OGoes p.tables e below _ (T90.setTop (mkF m 129 #[.val (.ref ep), .val (.long q), .second, .val (.int (0 : Int32))] [(.int (0 : Int32)), (.ref ep)]))
  refine own_st (V := (T90.setTop (mkF m 130 #[.val (.ref ep), .val (.long q), .second, .val (.int (0 : Int32))] [(.int (1 : Int32)), (.int (0 : Int32)), (.ref ep)]))) (fun t ks => XS.iconst X90.here hx rfl (hb hby d3_129) ks) ?_
  refine own_st (V := (T90.setTop (mkF m 131 #[.val (.ref ep), .val (.long q), .second, .val (.int (0 : Int32))] [(.int ((0 : Int32) + (1 : Int32))), (.ref ep)]))) (fun t ks => XS.iadd X90.here hx rfl (hb hby d3_130) rfl ks) ?_
  refine own_cast (g' := (mkF m 131 #[.val (.ref ep), .val (.long q), .second, .val (.int (0 : Int32))] [(.int (1 : Int32)), (.ref ep)])) (by rw [show ((0 : Int32) + (1 : Int32)) = (1 : Int32) from by decide]) ?_
  refine own_putfield X90 hx hZ e90 hown (hw _ (List.mem_of_getElem? (i := 29) rfl)) FS E (Or.inl (hw _ (List.mem_of_getElem? (i := 30) rfl))) (hw _ (List.mem_of_getElem? (i := 1) rfl)) (ty := .int) (by decide) rfl rfl N89 (by omega) (hb hby d3_131) ?_
  intro T91 h91 L91 X91 e91 N91 W91 Fn91
  replace E := E.wr W91
  replace FN := FN.other W91 (Or.inr (slot_ne (Or.inl (hw _ (List.mem_of_getElem? (i := 11) rfl))) (Or.inl (hw _ (List.mem_of_getElem? (i := 30) rfl))) (by decide) (t := (.array .long)) (by decide) (t' := .int) (by decide)))
  replace VN := VN.other W91 (own_ne (by omega))
  replace FG := FG.other W91 (Or.inr (slot_ne (Or.inl (hw _ (List.mem_of_getElem? (i := 14) rfl))) (Or.inl (hw _ (List.mem_of_getElem? (i := 30) rfl))) (by decide) (t := (.array .int)) (by decide) (t' := .int) (by decide)))
  replace VG := VG.other W91 (own_ne (by omega))
  replace FW := FW.other W91 (Or.inr (slot_ne (Or.inl (hw _ (List.mem_of_getElem? (i := 16) rfl))) (Or.inl (hw _ (List.mem_of_getElem? (i := 30) rfl))) (by decide) (t := (.array .long)) (by decide) (t' := .int) (by decide)))
  replace VW := VW.other W91 (own_ne (by omega))
  replace FC := FC.other W91 (Or.inr (slot_ne (Or.inl (hw _ (List.mem_of_getElem? (i := 18) rfl))) (Or.inl (hw _ (List.mem_of_getElem? (i := 30) rfl))) (by decide) (t := (.array .int)) (by decide) (t' := .int) (by decide)))
  replace VC := VC.other W91 (own_ne (by omega))
  replace FD := FD.other W91 (Or.inr (slot_ne (Or.inl (hw _ (List.mem_of_getElem? (i := 20) rfl))) (Or.inl (hw _ (List.mem_of_getElem? (i := 30) rfl))) (by decide) (t := (.array .long)) (by decide) (t' := .int) (by decide)))
  replace VD := VD.other W91 (own_ne (by omega))
  replace FF := FF.other W91 (Or.inr (slot_ne (Or.inl (hw _ (List.mem_of_getElem? (i := 23) rfl))) (Or.inl (hw _ (List.mem_of_getElem? (i := 30) rfl))) (by decide) (t := (.array .byte)) (by decide) (t' := .int) (by decide)))
  replace VF := VF.other W91 (own_ne (by omega))
  replace FS := Fn91
  show OGoes p.tables e below _ (T91.setTop (mkF m 134 #[.val (.ref ep), .val (.long q), .second, .val (.int (0 : Int32))] []))
  refine own_st (V := (T91.setTop (mkF m 135 #[.val (.ref ep), .val (.long q), .second, .val (.int (0 : Int32))] [(.int (0 : Int32))]))) (fun t ks => XS.iloadN X91.here hx rfl (hb hby d3_134) rfl ks) ?_
  exact own_retI X91 hx hlk hret (hb hby d3_135) (by decide) (by decide) ⟨rfl, N91, by rw [e91]; exact ⟨aN, aG, aW, aC, aD, aF, _, _, _, _, _, _, ⟨by omega, by omega, by omega, by omega, by omega, by omega, by omega⟩, E, FN, FG, FW, FC, FD, FF, FS, VN, VG, VW, VC, VD, VF⟩⟩
theorem ef_rmAd10 (m : MethodId) (x0 : Nat) (x1 : Int64) : entryFrame m #[(.ref x0), (.long x1)] 4 = mkF m 0 #[.val (.ref x0), .val (.long x1), .second, .unset] [] := by first | (simp [entryFrame, mkF, argsToLocals, Value.category]; done) | rfl
set_option maxRecDepth 65536 in
set_option maxHeartbeats 40000000 in
theorem rmAd10 (l : Launch) (Z : State) (a0 : Array Value) (hw : ∀ d ∈ tables_1, d.before a0 Z = true) (ep : Nat) (q x0 : Int64) (c0 : q < x0) (h0 : Heap) (hZ0 : Z.heap.size ≤ h0.size) (H : own_EP Z h0 ep 4 (own_pad [x0]) [.int 0, .int 0, .int 0, .int 0] [.long 0, .long 0, .long 0, .long 0] [.int 0, .int 0, .int 0, .int 0] [.long 0, .long 0, .long 0, .long 0] [.int 0, .int 0, .int 0, .int 0] 1) :
    OMet l Z (⟨"com/example/killifish/killifish/store/Epochs", "add", "(J)I"⟩ : MethodName) prog_13_method_7_code 4 (some .int) ⟨3, 0, 0, 80⟩ #[(.ref ep), (.long q)] h0 (fun v h L => v = some (.int 0) ∧ Fr Z.heap.size L ∧ own_EP Z h ep 4 (own_pad [q, x0]) [.int 0, .int 0, .int 0, .int 0] [.long 0, .long 0, .long 0, .long 0] [.int 0, .int 0, .int 0, .int 0] [.long 0, .long 0, .long 0, .long 0] [.int 0, .int 0, .int 0, .int 0] 2) := by
  refine own_body pf_3 ?_
  intro p e s m below meth c T0 X0 hx hby hml hZ hown hnm hret hlk e0
  replace hown : s.vm.findClass "com/example/killifish/killifish/store/Epochs" = some m.cls := hown
  refine own_cast (ef_rmAd10 m (ep) (q)) ?_
  show OGoes p.tables e below _ (T0.setTop (mkF m 0 #[.val (.ref ep), .val (.long q), .second, .unset] []))
  have d0 : ¬ x0 < q := fun z => by rw [Int64.lt_iff_toInt_lt] at *; omega
  obtain ⟨aN, aG, aW, aC, aD, aF, kN, kG, kW, kC, kD, kF, ⟨o0, o1, o2, o3, o4, o5, o6⟩, E, FN, FG, FW, FC, FD, FF, FS, VN, VG, VW, VC, VD, VF⟩ := H
  refine own_st (V := (T0.setTop (mkF m 1 #[.val (.ref ep), .val (.long q), .second, .unset] [(.ref ep)]))) (fun t ks => XS.aloadN X0.here hx rfl (hb hby d3_0) rfl rfl ks) ?_
  refine own_getfield X0 hx hZ e0 hown (hw _ (List.mem_of_getElem? (i := 10) rfl)) Via.refl FN (hb hby d3_1) ?_
  intro T92 X92 e92
  show OGoes p.tables e below _ (T92.setTop (mkF m 4 #[.val (.ref ep), .val (.long q), .second, .unset] [(.ref aN)]))
  refine own_st (V := (T92.setTop (mkF m 5 #[.val (.ref ep), .val (.long q), .second, .unset] [(.int (0 : Int32)), (.ref aN)]))) (fun t ks => XS.iconst X92.here hx rfl (hb hby d3_4) ks) ?_
  refine own_st (V := (T92.setTop (mkF m 6 #[.val (.ref ep), .val (.long q), .second, .unset] [(.ref ep), (.int (0 : Int32)), (.ref aN)]))) (fun t ks => XS.aloadN X92.here hx rfl (hb hby d3_5) rfl rfl ks) ?_
  refine own_getfield X92 hx hZ e92 hown (hw _ (List.mem_of_getElem? (i := 29) rfl)) Via.refl FS (hb hby d3_6) ?_
  intro T93 X93 e93
  show OGoes p.tables e below _ (T93.setTop (mkF m 9 #[.val (.ref ep), .val (.long q), .second, .unset] [(.int (1 : Int32)), (.int (0 : Int32)), (.ref aN)]))
  refine own_st (V := (T93.setTop (mkF m 10 #[.val (.ref ep), .val (.long q), .second, .unset] [(.long q), (.int (1 : Int32)), (.int (0 : Int32)), (.ref aN)]))) (fun t ks => XS.lloadN X93.here hx rfl (hb hby d3_9) rfl ks) ?_
  refine own_callS0 X93 hx hZ hown (hw _ (List.mem_of_getElem? (i := 31) rfl)) (hw _ (List.mem_of_getElem? (i := 32) rfl)) (hw _ (List.mem_of_getElem? (i := 33) rfl)) (hw _ (List.mem_of_getElem? (i := 34) rfl)) (by decide) (rmBS1 l Z a0 hw aN kN q x0 (-1) (by simp [own_bs, c0, d0]) h0 VN) e93 (by rw [hml]; rfl) (argsL := [(.ref aN), (.int (0 : Int32)), (.int (1 : Int32)), (.long q)]) (rest := []) pd_2 rfl rfl rfl (W := 0) (Nat.le_of_eq rfl) (hb hby d3_10) (by decide) (by decide) (by decide) (by decide) ?_
  intro T94 X94 e94
  show OGoes p.tables e below _ (T94.setTop (mkF m 13 #[.val (.ref ep), .val (.long q), .second, .unset] [(.int (-1 : Int32))]))
  refine own_st (V := (T94.setTop (mkF m 14 #[.val (.ref ep), .val (.long q), .second, .val (.int (-1 : Int32))] []))) (fun t ks => XS.istoreN X94.here hx rfl (hb hby d3_13) rfl (l' := #[.val (.ref ep), .val (.long q), .second, .val (.int (-1 : Int32))]) rfl ks) ?_
  refine own_st (V := (T94.setTop (mkF m 15 #[.val (.ref ep), .val (.long q), .second, .val (.int (-1 : Int32))] [(.int (-1 : Int32))]))) (fun t ks => XS.iloadN X94.here hx rfl (hb hby d3_14) rfl ks) ?_
  refine own_st (V := (T94.setTop (mkF m 32 #[.val (.ref ep), .val (.long q), .second, .val (.int (-1 : Int32))] []))) (fun t ks => XS.ifYes X94.here hx rfl (pc0 := 15) (pc' := 32) rfl (hb hby d3_15) rfl (XT.i0_lt_t (by decide)) (by decide) (by decide) ks) ?_
  refine own_st (V := (T94.setTop (mkF m 33 #[.val (.ref ep), .val (.long q), .second, .val (.int (-1 : Int32))] [(.int (-1 : Int32))]))) (fun t ks => XS.iloadN X94.here hx rfl (hb hby d3_32) rfl ks) ?_
  refine own_st (V := (T94.setTop (mkF m 34 #[.val (.ref ep), .val (.long q), .second, .val (.int (-1 : Int32))] [(.int (-(-1 : Int32)))]))) (fun t ks => XS.ineg X94.here hx rfl (hb hby d3_33) rfl ks) ?_
  refine own_st (V := (T94.setTop (mkF m 35 #[.val (.ref ep), .val (.long q), .second, .val (.int (-1 : Int32))] [(.int (1 : Int32)), (.int (-(-1 : Int32)))]))) (fun t ks => XS.iconst X94.here hx rfl (hb hby d3_34) ks) ?_
  refine own_st (V := (T94.setTop (mkF m 36 #[.val (.ref ep), .val (.long q), .second, .val (.int (-1 : Int32))] [(.int ((-(-1 : Int32)) - (1 : Int32)))]))) (fun t ks => XS.isub X94.here hx rfl (hb hby d3_35) rfl ks) ?_
  refine own_cast (g' := (mkF m 36 #[.val (.ref ep), .val (.long q), .second, .val (.int (-1 : Int32))] [(.int (0 : Int32))])) (by rw [show ((-(-1 : Int32)) - (1 : Int32)) = (0 : Int32) from by decide]) ?_
  refine own_st (V := (T94.setTop (mkF m 37 #[.val (.ref ep), .val (.long q), .second, .val (.int (0 : Int32))] []))) (fun t ks => XS.istoreN X94.here hx rfl (hb hby d3_36) rfl (l' := #[.val (.ref ep), .val (.long q), .second, .val (.int (0 : Int32))]) rfl ks) ?_
  refine own_st (V := (T94.setTop (mkF m 38 #[.val (.ref ep), .val (.long q), .second, .val (.int (0 : Int32))] [(.ref ep)]))) (fun t ks => XS.aloadN X94.here hx rfl (hb hby d3_37) rfl rfl ks) ?_
  refine own_getfield X94 hx hZ e94 hown (hw _ (List.mem_of_getElem? (i := 29) rfl)) Via.refl FS (hb hby d3_38) ?_
  intro T95 X95 e95
  show OGoes p.tables e below _ (T95.setTop (mkF m 41 #[.val (.ref ep), .val (.long q), .second, .val (.int (0 : Int32))] [(.int (1 : Int32))]))
  refine own_st (V := (T95.setTop (mkF m 42 #[.val (.ref ep), .val (.long q), .second, .val (.int (0 : Int32))] [(.ref ep), (.int (1 : Int32))]))) (fun t ks => XS.aloadN X95.here hx rfl (hb hby d3_41) rfl rfl ks) ?_
  refine own_getfield X95 hx hZ e95 hown (hw _ (List.mem_of_getElem? (i := 10) rfl)) Via.refl FN (hb hby d3_42) ?_
  intro T96 X96 e96
  show OGoes p.tables e below _ (T96.setTop (mkF m 45 #[.val (.ref ep), .val (.long q), .second, .val (.int (0 : Int32))] [(.ref aN), (.int (1 : Int32))]))
  refine own_alen X96 hx hZ e96 VN (hb hby d3_45) ?_
  show OGoes p.tables e below _ (T96.setTop (mkF m 46 #[.val (.ref ep), .val (.long q), .second, .val (.int (0 : Int32))] [(.int (4 : Int32)), (.int (1 : Int32))]))
  refine own_st (V := (T96.setTop (mkF m 68 #[.val (.ref ep), .val (.long q), .second, .val (.int (0 : Int32))] []))) (fun t ks => XS.icmpYes X96.here hx rfl (pc0 := 46) (pc' := 68) rfl (hb hby d3_46) rfl (XT.ii_ne_t (by decide)) (by decide) (by decide) ks) ?_
  refine own_st (V := (T96.setTop (mkF m 69 #[.val (.ref ep), .val (.long q), .second, .val (.int (0 : Int32))] [(.ref ep)]))) (fun t ks => XS.aloadN X96.here hx rfl (hb hby d3_68) rfl rfl ks) ?_
  refine own_st (V := (T96.setTop (mkF m 70 #[.val (.ref ep), .val (.long q), .second, .val (.int (0 : Int32))] [(.int (0 : Int32)), (.ref ep)]))) (fun t ks => XS.iloadN X96.here hx rfl (hb hby d3_69) rfl ks) ?_
  refine own_st (V := (T96.setTop (mkF m 71 #[.val (.ref ep), .val (.long q), .second, .val (.int (0 : Int32))] [(.int (0 : Int32)), (.int (0 : Int32)), (.ref ep)]))) (fun t ks => XS.iloadN X96.here hx rfl (hb hby d3_70) rfl ks) ?_
  refine own_st (V := (T96.setTop (mkF m 72 #[.val (.ref ep), .val (.long q), .second, .val (.int (0 : Int32))] [(.int (1 : Int32)), (.int (0 : Int32)), (.int (0 : Int32)), (.ref ep)]))) (fun t ks => XS.iconst X96.here hx rfl (hb hby d3_71) ks) ?_
  refine own_st (V := (T96.setTop (mkF m 73 #[.val (.ref ep), .val (.long q), .second, .val (.int (0 : Int32))] [(.int ((0 : Int32) + (1 : Int32))), (.int (0 : Int32)), (.ref ep)]))) (fun t ks => XS.iadd X96.here hx rfl (hb hby d3_72) rfl ks) ?_
  refine own_st (V := (T96.setTop (mkF m 74 #[.val (.ref ep), .val (.long q), .second, .val (.int (0 : Int32))] [(.ref ep), (.int ((0 : Int32) + (1 : Int32))), (.int (0 : Int32)), (.ref ep)]))) (fun t ks => XS.aloadN X96.here hx rfl (hb hby d3_73) rfl rfl ks) ?_
  refine own_getfield X96 hx hZ e96 hown (hw _ (List.mem_of_getElem? (i := 29) rfl)) Via.refl FS (hb hby d3_74) ?_
  intro T97 X97 e97
  show OGoes p.tables e below _ (T97.setTop (mkF m 77 #[.val (.ref ep), .val (.long q), .second, .val (.int (0 : Int32))] [(.int (1 : Int32)), (.int ((0 : Int32) + (1 : Int32))), (.int (0 : Int32)), (.ref ep)]))
  refine own_st (V := (T97.setTop (mkF m 78 #[.val (.ref ep), .val (.long q), .second, .val (.int (0 : Int32))] [(.int (0 : Int32)), (.int (1 : Int32)), (.int ((0 : Int32) + (1 : Int32))), (.int (0 : Int32)), (.ref ep)]))) (fun t ks => XS.iloadN X97.here hx rfl (hb hby d3_77) rfl ks) ?_
  refine own_st (V := (T97.setTop (mkF m 79 #[.val (.ref ep), .val (.long q), .second, .val (.int (0 : Int32))] [(.int ((1 : Int32) - (0 : Int32))), (.int ((0 : Int32) + (1 : Int32))), (.int (0 : Int32)), (.ref ep)]))) (fun t ks => XS.isub X97.here hx rfl (hb hby d3_78) rfl ks) ?_
  refine own_cast (g' := (mkF m 79 #[.val (.ref ep), .val (.long q), .second, .val (.int (0 : Int32))] [(.int ((1 : Int32) - (0 : Int32))), (.int (1 : Int32)), (.int (0 : Int32)), (.ref ep)])) (by rw [show ((0 : Int32) + (1 : Int32)) = (1 : Int32) from by decide]) ?_
  refine own_cast (g' := (mkF m 79 #[.val (.ref ep), .val (.long q), .second, .val (.int (0 : Int32))] [(.int (1 : Int32)), (.int (1 : Int32)), (.int (0 : Int32)), (.ref ep)])) (by rw [show ((1 : Int32) - (0 : Int32)) = (1 : Int32) from by decide]) ?_
  refine own_callP X97 hx hZ hown (hw _ (List.mem_of_getElem? (i := 65) rfl)) (hw _ (List.mem_of_getElem? (i := 67) rfl)) (hw _ (List.mem_of_getElem? (i := 1) rfl)) (hw _ (List.mem_of_getElem? (i := 66) rfl)) (hw _ (List.mem_of_getElem? (i := 2) rfl)) (hw _ (List.mem_of_getElem? (i := 68) rfl)) (by decide) (rmSh l Z a0 hw ep 0 1 1 1 [.long x0, .long 0, .long 0, .long 0] [.long x0, .long x0, .long 0, .long 0] rfl rfl rfl rfl (by decide) (by decide) (by decide) (by decide) (by decide) h0 ⟨aN, aG, aW, aC, aD, aF, _, _, _, _, _, _, ⟨by omega, by omega, by omega, by omega, by omega, by omega, by omega⟩, E, FN, FG, FW, FC, FD, FF, FS, VN, VG, VW, VC, VD, VF⟩) e97 E (by rw [hml]; rfl) (argsL := [(.int (0 : Int32)), (.int (1 : Int32)), (.int (1 : Int32))]) (rest := []) pd_1 rfl rfl rfl (W := 0) (Nat.le_of_eq rfl) (hb hby d3_79) (by decide) (by decide) (by decide) (by decide) ?_
  rintro v98 T98 L98 X98 ⟨rfl, N98, H98⟩
  replace N98 := Fr.app (Fr.nil Z.heap.size) N98
  show OGoes p.tables e below _ (T98.setTop (mkF m 82 #[.val (.ref ep), .val (.long q), .second, .val (.int (0 : Int32))] []))
  obtain ⟨aN, aG, aW, aC, aD, aF, kN, kG, kW, kC, kD, kF, ⟨o0, o1, o2, o3, o4, o5, o6⟩, E, FN, FG, FW, FC, FD, FF, FS, VN, VG, VW, VC, VD, VF⟩ := H98
  refine own_st (V := (T98.setTop (mkF m 83 #[.val (.ref ep), .val (.long q), .second, .val (.int (0 : Int32))] [(.ref ep)]))) (fun t ks => XS.aloadN X98.here hx rfl (hb hby d3_82) rfl rfl ks) ?_
  refine own_getfield X98 hx hZ rfl hown (hw _ (List.mem_of_getElem? (i := 10) rfl)) Via.refl FN (hb hby d3_83) ?_
  intro T99 X99 e99
  show OGoes p.tables e below _ (T99.setTop (mkF m 86 #[.val (.ref ep), .val (.long q), .second, .val (.int (0 : Int32))] [(.ref aN)]))
  refine own_st (V := (T99.setTop (mkF m 87 #[.val (.ref ep), .val (.long q), .second, .val (.int (0 : Int32))] [(.int (0 : Int32)), (.ref aN)]))) (fun t ks => XS.iloadN X99.here hx rfl (hb hby d3_86) rfl ks) ?_
  refine own_st (V := (T99.setTop (mkF m 88 #[.val (.ref ep), .val (.long q), .second, .val (.int (0 : Int32))] [(.long q), (.int (0 : Int32)), (.ref aN)]))) (fun t ks => XS.lloadN X99.here hx rfl (hb hby d3_87) rfl ks) ?_
  refine own_lastore X99 hx hZ e99 VN (by decide) (by decide) rfl (Nat.le_of_ble_eq_true rfl) N98 (by omega) (hb hby d3_88) ?_
  intro T100 h100 L100 X100 e100 N100 W100 An100
  replace E := E.wr W100
  replace FN := FN.other W100 (Or.inl (own_ne (by omega)))
  replace FG := FG.other W100 (Or.inl (own_ne (by omega)))
  replace VG := VG.other W100 (own_ne (by omega))
  replace FW := FW.other W100 (Or.inl (own_ne (by omega)))
  replace VW := VW.other W100 (own_ne (by omega))
  replace FC := FC.other W100 (Or.inl (own_ne (by omega)))
  replace VC := VC.other W100 (own_ne (by omega))
  replace FD := FD.other W100 (Or.inl (own_ne (by omega)))
  replace VD := VD.other W100 (own_ne (by omega))
  replace FF := FF.other W100 (Or.inl (own_ne (by omega)))
  replace VF := VF.other W100 (own_ne (by omega))
  replace FS := FS.other W100 (Or.inl (own_ne (by omega)))
  replace VN := An100
  show OGoes p.tables e below _ (T100.setTop (mkF m 89 #[.val (.ref ep), .val (.long q), .second, .val (.int (0 : Int32))] []))
  refine own_st (V := (T100.setTop (mkF m 90 #[.val (.ref ep), .val (.long q), .second, .val (.int (0 : Int32))] [(.ref ep)]))) (fun t ks => XS.aloadN X100.here hx rfl (hb hby d3_89) rfl rfl ks) ?_
  refine own_getfield X100 hx hZ e100 hown (hw _ (List.mem_of_getElem? (i := 13) rfl)) Via.refl FG (hb hby d3_90) ?_
  intro T101 X101 e101
  show OGoes p.tables e below _ (T101.setTop (mkF m 93 #[.val (.ref ep), .val (.long q), .second, .val (.int (0 : Int32))] [(.ref aG)]))
  refine own_st (V := (T101.setTop (mkF m 94 #[.val (.ref ep), .val (.long q), .second, .val (.int (0 : Int32))] [(.int (0 : Int32)), (.ref aG)]))) (fun t ks => XS.iloadN X101.here hx rfl (hb hby d3_93) rfl ks) ?_
  refine own_st (V := (T101.setTop (mkF m 95 #[.val (.ref ep), .val (.long q), .second, .val (.int (0 : Int32))] [(.int (0 : Int32)), (.int (0 : Int32)), (.ref aG)]))) (fun t ks => XS.iconst X101.here hx rfl (hb hby d3_94) ks) ?_
  refine own_iastore X101 hx hZ e101 VG (by decide) (by decide) rfl (Nat.le_of_ble_eq_true rfl) N100 (by omega) (hb hby d3_95) ?_
  intro T102 h102 L102 X102 e102 N102 W102 An102
  replace E := E.wr W102
  replace FN := FN.other W102 (Or.inl (own_ne (by omega)))
  replace VN := VN.other W102 (own_ne (by omega))
  replace FG := FG.other W102 (Or.inl (own_ne (by omega)))
  replace FW := FW.other W102 (Or.inl (own_ne (by omega)))
  replace VW := VW.other W102 (own_ne (by omega))
  replace FC := FC.other W102 (Or.inl (own_ne (by omega)))
  replace VC := VC.other W102 (own_ne (by omega))
  replace FD := FD.other W102 (Or.inl (own_ne (by omega)))
  replace VD := VD.other W102 (own_ne (by omega))
  replace FF := FF.other W102 (Or.inl (own_ne (by omega)))
  replace VF := VF.other W102 (own_ne (by omega))
  replace FS := FS.other W102 (Or.inl (own_ne (by omega)))
  replace VG := An102
  show OGoes p.tables e below _ (T102.setTop (mkF m 96 #[.val (.ref ep), .val (.long q), .second, .val (.int (0 : Int32))] []))
  refine own_st (V := (T102.setTop (mkF m 97 #[.val (.ref ep), .val (.long q), .second, .val (.int (0 : Int32))] [(.ref ep)]))) (fun t ks => XS.aloadN X102.here hx rfl (hb hby d3_96) rfl rfl ks) ?_
  refine own_getfield X102 hx hZ e102 hown (hw _ (List.mem_of_getElem? (i := 15) rfl)) Via.refl FW (hb hby d3_97) ?_
  intro T103 X103 e103
  show OGoes p.tables e below _ (T103.setTop (mkF m 100 #[.val (.ref ep), .val (.long q), .second, .val (.int (0 : Int32))] [(.ref aW)]))
  refine own_st (V := (T103.setTop (mkF m 101 #[.val (.ref ep), .val (.long q), .second, .val (.int (0 : Int32))] [(.int (0 : Int32)), (.ref aW)]))) (fun t ks => XS.iloadN X103.here hx rfl (hb hby d3_100) rfl ks) ?_
  refine own_st (V := (T103.setTop (mkF m 102 #[.val (.ref ep), .val (.long q), .second, .val (.int (0 : Int32))] [(.long (0 : Int64)), (.int (0 : Int32)), (.ref aW)]))) (fun t ks => XS.lconst X103.here hx rfl (hb hby d3_101) ks) ?_
  refine own_lastore X103 hx hZ e103 VW (by decide) (by decide) rfl (Nat.le_of_ble_eq_true rfl) N102 (by omega) (hb hby d3_102) ?_
  intro T104 h104 L104 X104 e104 N104 W104 An104
  replace E := E.wr W104
  replace FN := FN.other W104 (Or.inl (own_ne (by omega)))
  replace VN := VN.other W104 (own_ne (by omega))
  replace FG := FG.other W104 (Or.inl (own_ne (by omega)))
  replace VG := VG.other W104 (own_ne (by omega))
  replace FW := FW.other W104 (Or.inl (own_ne (by omega)))
  replace FC := FC.other W104 (Or.inl (own_ne (by omega)))
  replace VC := VC.other W104 (own_ne (by omega))
  replace FD := FD.other W104 (Or.inl (own_ne (by omega)))
  replace VD := VD.other W104 (own_ne (by omega))
  replace FF := FF.other W104 (Or.inl (own_ne (by omega)))
  replace VF := VF.other W104 (own_ne (by omega))
  replace FS := FS.other W104 (Or.inl (own_ne (by omega)))
  replace VW := An104
  show OGoes p.tables e below _ (T104.setTop (mkF m 103 #[.val (.ref ep), .val (.long q), .second, .val (.int (0 : Int32))] []))
  refine own_st (V := (T104.setTop (mkF m 104 #[.val (.ref ep), .val (.long q), .second, .val (.int (0 : Int32))] [(.ref ep)]))) (fun t ks => XS.aloadN X104.here hx rfl (hb hby d3_103) rfl rfl ks) ?_
  refine own_getfield X104 hx hZ e104 hown (hw _ (List.mem_of_getElem? (i := 17) rfl)) Via.refl FC (hb hby d3_104) ?_
  intro T105 X105 e105
  show OGoes p.tables e below _ (T105.setTop (mkF m 107 #[.val (.ref ep), .val (.long q), .second, .val (.int (0 : Int32))] [(.ref aC)]))
  refine own_st (V := (T105.setTop (mkF m 108 #[.val (.ref ep), .val (.long q), .second, .val (.int (0 : Int32))] [(.int (0 : Int32)), (.ref aC)]))) (fun t ks => XS.iloadN X105.here hx rfl (hb hby d3_107) rfl ks) ?_
  refine own_st (V := (T105.setTop (mkF m 109 #[.val (.ref ep), .val (.long q), .second, .val (.int (0 : Int32))] [(.int (0 : Int32)), (.int (0 : Int32)), (.ref aC)]))) (fun t ks => XS.iconst X105.here hx rfl (hb hby d3_108) ks) ?_
  refine own_iastore X105 hx hZ e105 VC (by decide) (by decide) rfl (Nat.le_of_ble_eq_true rfl) N104 (by omega) (hb hby d3_109) ?_
  intro T106 h106 L106 X106 e106 N106 W106 An106
  replace E := E.wr W106
  replace FN := FN.other W106 (Or.inl (own_ne (by omega)))
  replace VN := VN.other W106 (own_ne (by omega))
  replace FG := FG.other W106 (Or.inl (own_ne (by omega)))
  replace VG := VG.other W106 (own_ne (by omega))
  replace FW := FW.other W106 (Or.inl (own_ne (by omega)))
  replace VW := VW.other W106 (own_ne (by omega))
  replace FC := FC.other W106 (Or.inl (own_ne (by omega)))
  replace FD := FD.other W106 (Or.inl (own_ne (by omega)))
  replace VD := VD.other W106 (own_ne (by omega))
  replace FF := FF.other W106 (Or.inl (own_ne (by omega)))
  replace VF := VF.other W106 (own_ne (by omega))
  replace FS := FS.other W106 (Or.inl (own_ne (by omega)))
  replace VC := An106
  show OGoes p.tables e below _ (T106.setTop (mkF m 110 #[.val (.ref ep), .val (.long q), .second, .val (.int (0 : Int32))] []))
  refine own_st (V := (T106.setTop (mkF m 111 #[.val (.ref ep), .val (.long q), .second, .val (.int (0 : Int32))] [(.ref ep)]))) (fun t ks => XS.aloadN X106.here hx rfl (hb hby d3_110) rfl rfl ks) ?_
  refine own_getfield X106 hx hZ e106 hown (hw _ (List.mem_of_getElem? (i := 19) rfl)) Via.refl FD (hb hby d3_111) ?_
  intro T107 X107 e107
  show OGoes p.tables e below _ (T107.setTop (mkF m 114 #[.val (.ref ep), .val (.long q), .second, .val (.int (0 : Int32))] [(.ref aD)]))
  refine own_st (V := (T107.setTop (mkF m 115 #[.val (.ref ep), .val (.long q), .second, .val (.int (0 : Int32))] [(.int (0 : Int32)), (.ref aD)]))) (fun t ks => XS.iloadN X107.here hx rfl (hb hby d3_114) rfl ks) ?_
  refine own_st (V := (T107.setTop (mkF m 116 #[.val (.ref ep), .val (.long q), .second, .val (.int (0 : Int32))] [(.long (0 : Int64)), (.int (0 : Int32)), (.ref aD)]))) (fun t ks => XS.lconst X107.here hx rfl (hb hby d3_115) ks) ?_
  refine own_lastore X107 hx hZ e107 VD (by decide) (by decide) rfl (Nat.le_of_ble_eq_true rfl) N106 (by omega) (hb hby d3_116) ?_
  intro T108 h108 L108 X108 e108 N108 W108 An108
  replace E := E.wr W108
  replace FN := FN.other W108 (Or.inl (own_ne (by omega)))
  replace VN := VN.other W108 (own_ne (by omega))
  replace FG := FG.other W108 (Or.inl (own_ne (by omega)))
  replace VG := VG.other W108 (own_ne (by omega))
  replace FW := FW.other W108 (Or.inl (own_ne (by omega)))
  replace VW := VW.other W108 (own_ne (by omega))
  replace FC := FC.other W108 (Or.inl (own_ne (by omega)))
  replace VC := VC.other W108 (own_ne (by omega))
  replace FD := FD.other W108 (Or.inl (own_ne (by omega)))
  replace FF := FF.other W108 (Or.inl (own_ne (by omega)))
  replace VF := VF.other W108 (own_ne (by omega))
  replace FS := FS.other W108 (Or.inl (own_ne (by omega)))
  replace VD := An108
  show OGoes p.tables e below _ (T108.setTop (mkF m 117 #[.val (.ref ep), .val (.long q), .second, .val (.int (0 : Int32))] []))
  refine own_st (V := (T108.setTop (mkF m 118 #[.val (.ref ep), .val (.long q), .second, .val (.int (0 : Int32))] [(.ref ep)]))) (fun t ks => XS.aloadN X108.here hx rfl (hb hby d3_117) rfl rfl ks) ?_
  refine own_getfield X108 hx hZ e108 hown (hw _ (List.mem_of_getElem? (i := 22) rfl)) Via.refl FF (hb hby d3_118) ?_
  intro T109 X109 e109
  show OGoes p.tables e below _ (T109.setTop (mkF m 121 #[.val (.ref ep), .val (.long q), .second, .val (.int (0 : Int32))] [(.ref aF)]))
  refine own_st (V := (T109.setTop (mkF m 122 #[.val (.ref ep), .val (.long q), .second, .val (.int (0 : Int32))] [(.int (0 : Int32)), (.ref aF)]))) (fun t ks => XS.iloadN X109.here hx rfl (hb hby d3_121) rfl ks) ?_
  refine own_st (V := (T109.setTop (mkF m 123 #[.val (.ref ep), .val (.long q), .second, .val (.int (0 : Int32))] [(.int (0 : Int32)), (.int (0 : Int32)), (.ref aF)]))) (fun t ks => XS.iconst X109.here hx rfl (hb hby d3_122) ks) ?_
  refine own_bastore X109 hx hZ e109 VF (by decide) (by decide) rfl (Nat.le_of_ble_eq_true rfl) N108 (by omega) (hb hby d3_123) ?_
  intro T110 h110 L110 X110 e110 N110 W110 An110
  replace E := E.wr W110
  replace FN := FN.other W110 (Or.inl (own_ne (by omega)))
  replace VN := VN.other W110 (own_ne (by omega))
  replace FG := FG.other W110 (Or.inl (own_ne (by omega)))
  replace VG := VG.other W110 (own_ne (by omega))
  replace FW := FW.other W110 (Or.inl (own_ne (by omega)))
  replace VW := VW.other W110 (own_ne (by omega))
  replace FC := FC.other W110 (Or.inl (own_ne (by omega)))
  replace VC := VC.other W110 (own_ne (by omega))
  replace FD := FD.other W110 (Or.inl (own_ne (by omega)))
  replace VD := VD.other W110 (own_ne (by omega))
  replace FF := FF.other W110 (Or.inl (own_ne (by omega)))
  replace FS := FS.other W110 (Or.inl (own_ne (by omega)))
  replace VF := An110
  show OGoes p.tables e below _ (T110.setTop (mkF m 124 #[.val (.ref ep), .val (.long q), .second, .val (.int (0 : Int32))] []))
  refine own_st (V := (T110.setTop (mkF m 125 #[.val (.ref ep), .val (.long q), .second, .val (.int (0 : Int32))] [(.ref ep)]))) (fun t ks => XS.aloadN X110.here hx rfl (hb hby d3_124) rfl rfl ks) ?_
  refine own_st (V := (T110.setTop (mkF m 126 #[.val (.ref ep), .val (.long q), .second, .val (.int (0 : Int32))] [(.ref ep), (.ref ep)]))) (fun t ks => XS.dup X110.here hx rfl (hb hby d3_125) rfl rfl ks) ?_
  refine own_getfield X110 hx hZ e110 hown (hw _ (List.mem_of_getElem? (i := 29) rfl)) Via.refl FS (hb hby d3_126) ?_
  intro T111 X111 e111
  show OGoes p.tables e below _ (T111.setTop (mkF m 129 #[.val (.ref ep), .val (.long q), .second, .val (.int (0 : Int32))] [(.int (1 : Int32)), (.ref ep)]))
  refine own_st (V := (T111.setTop (mkF m 130 #[.val (.ref ep), .val (.long q), .second, .val (.int (0 : Int32))] [(.int (1 : Int32)), (.int (1 : Int32)), (.ref ep)]))) (fun t ks => XS.iconst X111.here hx rfl (hb hby d3_129) ks) ?_
  refine own_st (V := (T111.setTop (mkF m 131 #[.val (.ref ep), .val (.long q), .second, .val (.int (0 : Int32))] [(.int ((1 : Int32) + (1 : Int32))), (.ref ep)]))) (fun t ks => XS.iadd X111.here hx rfl (hb hby d3_130) rfl ks) ?_
  refine own_cast (g' := (mkF m 131 #[.val (.ref ep), .val (.long q), .second, .val (.int (0 : Int32))] [(.int (2 : Int32)), (.ref ep)])) (by rw [show ((1 : Int32) + (1 : Int32)) = (2 : Int32) from by decide]) ?_
  refine own_putfield X111 hx hZ e111 hown (hw _ (List.mem_of_getElem? (i := 29) rfl)) FS E (Or.inl (hw _ (List.mem_of_getElem? (i := 30) rfl))) (hw _ (List.mem_of_getElem? (i := 1) rfl)) (ty := .int) (by decide) rfl rfl N110 (by omega) (hb hby d3_131) ?_
  intro T112 h112 L112 X112 e112 N112 W112 Fn112
  replace E := E.wr W112
  replace FN := FN.other W112 (Or.inr (slot_ne (Or.inl (hw _ (List.mem_of_getElem? (i := 11) rfl))) (Or.inl (hw _ (List.mem_of_getElem? (i := 30) rfl))) (by decide) (t := (.array .long)) (by decide) (t' := .int) (by decide)))
  replace VN := VN.other W112 (own_ne (by omega))
  replace FG := FG.other W112 (Or.inr (slot_ne (Or.inl (hw _ (List.mem_of_getElem? (i := 14) rfl))) (Or.inl (hw _ (List.mem_of_getElem? (i := 30) rfl))) (by decide) (t := (.array .int)) (by decide) (t' := .int) (by decide)))
  replace VG := VG.other W112 (own_ne (by omega))
  replace FW := FW.other W112 (Or.inr (slot_ne (Or.inl (hw _ (List.mem_of_getElem? (i := 16) rfl))) (Or.inl (hw _ (List.mem_of_getElem? (i := 30) rfl))) (by decide) (t := (.array .long)) (by decide) (t' := .int) (by decide)))
  replace VW := VW.other W112 (own_ne (by omega))
  replace FC := FC.other W112 (Or.inr (slot_ne (Or.inl (hw _ (List.mem_of_getElem? (i := 18) rfl))) (Or.inl (hw _ (List.mem_of_getElem? (i := 30) rfl))) (by decide) (t := (.array .int)) (by decide) (t' := .int) (by decide)))
  replace VC := VC.other W112 (own_ne (by omega))
  replace FD := FD.other W112 (Or.inr (slot_ne (Or.inl (hw _ (List.mem_of_getElem? (i := 20) rfl))) (Or.inl (hw _ (List.mem_of_getElem? (i := 30) rfl))) (by decide) (t := (.array .long)) (by decide) (t' := .int) (by decide)))
  replace VD := VD.other W112 (own_ne (by omega))
  replace FF := FF.other W112 (Or.inr (slot_ne (Or.inl (hw _ (List.mem_of_getElem? (i := 23) rfl))) (Or.inl (hw _ (List.mem_of_getElem? (i := 30) rfl))) (by decide) (t := (.array .byte)) (by decide) (t' := .int) (by decide)))
  replace VF := VF.other W112 (own_ne (by omega))
  replace FS := Fn112
  show OGoes p.tables e below _ (T112.setTop (mkF m 134 #[.val (.ref ep), .val (.long q), .second, .val (.int (0 : Int32))] []))
  refine own_st (V := (T112.setTop (mkF m 135 #[.val (.ref ep), .val (.long q), .second, .val (.int (0 : Int32))] [(.int (0 : Int32))]))) (fun t ks => XS.iloadN X112.here hx rfl (hb hby d3_134) rfl ks) ?_
  exact own_retI X112 hx hlk hret (hb hby d3_135) (by decide) (by decide) ⟨rfl, N112, by rw [e112]; exact ⟨aN, aG, aW, aC, aD, aF, _, _, _, _, _, _, ⟨by omega, by omega, by omega, by omega, by omega, by omega, by omega⟩, E, FN, FG, FW, FC, FD, FF, FS, VN, VG, VW, VC, VD, VF⟩⟩
theorem ef_rmAd11 (m : MethodId) (x0 : Nat) (x1 : Int64) : entryFrame m #[(.ref x0), (.long x1)] 4 = mkF m 0 #[.val (.ref x0), .val (.long x1), .second, .unset] [] := by first | (simp [entryFrame, mkF, argsToLocals, Value.category]; done) | rfl
set_option maxRecDepth 65536 in
set_option maxHeartbeats 40000000 in
theorem rmAd11 (l : Launch) (Z : State) (a0 : Array Value) (hw : ∀ d ∈ tables_1, d.before a0 Z = true) (ep : Nat) (q x0 : Int64) (c0 : x0 < q) (h0 : Heap) (hZ0 : Z.heap.size ≤ h0.size) (H : own_EP Z h0 ep 4 (own_pad [x0]) [.int 0, .int 0, .int 0, .int 0] [.long 0, .long 0, .long 0, .long 0] [.int 0, .int 0, .int 0, .int 0] [.long 0, .long 0, .long 0, .long 0] [.int 0, .int 0, .int 0, .int 0] 1) :
    OMet l Z (⟨"com/example/killifish/killifish/store/Epochs", "add", "(J)I"⟩ : MethodName) prog_13_method_7_code 4 (some .int) ⟨3, 0, 0, 80⟩ #[(.ref ep), (.long q)] h0 (fun v h L => v = some (.int 1) ∧ Fr Z.heap.size L ∧ own_EP Z h ep 4 (own_pad [x0, q]) [.int 0, .int 0, .int 0, .int 0] [.long 0, .long 0, .long 0, .long 0] [.int 0, .int 0, .int 0, .int 0] [.long 0, .long 0, .long 0, .long 0] [.int 0, .int 0, .int 0, .int 0] 2) := by
  refine own_body pf_3 ?_
  intro p e s m below meth c T0 X0 hx hby hml hZ hown hnm hret hlk e0
  replace hown : s.vm.findClass "com/example/killifish/killifish/store/Epochs" = some m.cls := hown
  refine own_cast (ef_rmAd11 m (ep) (q)) ?_
  show OGoes p.tables e below _ (T0.setTop (mkF m 0 #[.val (.ref ep), .val (.long q), .second, .unset] []))
  have d0 : ¬ q < x0 := fun z => by rw [Int64.lt_iff_toInt_lt] at *; omega
  obtain ⟨aN, aG, aW, aC, aD, aF, kN, kG, kW, kC, kD, kF, ⟨o0, o1, o2, o3, o4, o5, o6⟩, E, FN, FG, FW, FC, FD, FF, FS, VN, VG, VW, VC, VD, VF⟩ := H
  refine own_st (V := (T0.setTop (mkF m 1 #[.val (.ref ep), .val (.long q), .second, .unset] [(.ref ep)]))) (fun t ks => XS.aloadN X0.here hx rfl (hb hby d3_0) rfl rfl ks) ?_
  refine own_getfield X0 hx hZ e0 hown (hw _ (List.mem_of_getElem? (i := 10) rfl)) Via.refl FN (hb hby d3_1) ?_
  intro T113 X113 e113
  show OGoes p.tables e below _ (T113.setTop (mkF m 4 #[.val (.ref ep), .val (.long q), .second, .unset] [(.ref aN)]))
  refine own_st (V := (T113.setTop (mkF m 5 #[.val (.ref ep), .val (.long q), .second, .unset] [(.int (0 : Int32)), (.ref aN)]))) (fun t ks => XS.iconst X113.here hx rfl (hb hby d3_4) ks) ?_
  refine own_st (V := (T113.setTop (mkF m 6 #[.val (.ref ep), .val (.long q), .second, .unset] [(.ref ep), (.int (0 : Int32)), (.ref aN)]))) (fun t ks => XS.aloadN X113.here hx rfl (hb hby d3_5) rfl rfl ks) ?_
  refine own_getfield X113 hx hZ e113 hown (hw _ (List.mem_of_getElem? (i := 29) rfl)) Via.refl FS (hb hby d3_6) ?_
  intro T114 X114 e114
  show OGoes p.tables e below _ (T114.setTop (mkF m 9 #[.val (.ref ep), .val (.long q), .second, .unset] [(.int (1 : Int32)), (.int (0 : Int32)), (.ref aN)]))
  refine own_st (V := (T114.setTop (mkF m 10 #[.val (.ref ep), .val (.long q), .second, .unset] [(.long q), (.int (1 : Int32)), (.int (0 : Int32)), (.ref aN)]))) (fun t ks => XS.lloadN X114.here hx rfl (hb hby d3_9) rfl ks) ?_
  refine own_callS0 X114 hx hZ hown (hw _ (List.mem_of_getElem? (i := 31) rfl)) (hw _ (List.mem_of_getElem? (i := 32) rfl)) (hw _ (List.mem_of_getElem? (i := 33) rfl)) (hw _ (List.mem_of_getElem? (i := 34) rfl)) (by decide) (rmBS1 l Z a0 hw aN kN q x0 (-2) (by simp [own_bs, c0, d0]) h0 VN) e114 (by rw [hml]; rfl) (argsL := [(.ref aN), (.int (0 : Int32)), (.int (1 : Int32)), (.long q)]) (rest := []) pd_2 rfl rfl rfl (W := 0) (Nat.le_of_eq rfl) (hb hby d3_10) (by decide) (by decide) (by decide) (by decide) ?_
  intro T115 X115 e115
  show OGoes p.tables e below _ (T115.setTop (mkF m 13 #[.val (.ref ep), .val (.long q), .second, .unset] [(.int (-2 : Int32))]))
  refine own_st (V := (T115.setTop (mkF m 14 #[.val (.ref ep), .val (.long q), .second, .val (.int (-2 : Int32))] []))) (fun t ks => XS.istoreN X115.here hx rfl (hb hby d3_13) rfl (l' := #[.val (.ref ep), .val (.long q), .second, .val (.int (-2 : Int32))]) rfl ks) ?_
  refine own_st (V := (T115.setTop (mkF m 15 #[.val (.ref ep), .val (.long q), .second, .val (.int (-2 : Int32))] [(.int (-2 : Int32))]))) (fun t ks => XS.iloadN X115.here hx rfl (hb hby d3_14) rfl ks) ?_
  refine own_st (V := (T115.setTop (mkF m 32 #[.val (.ref ep), .val (.long q), .second, .val (.int (-2 : Int32))] []))) (fun t ks => XS.ifYes X115.here hx rfl (pc0 := 15) (pc' := 32) rfl (hb hby d3_15) rfl (XT.i0_lt_t (by decide)) (by decide) (by decide) ks) ?_
  refine own_st (V := (T115.setTop (mkF m 33 #[.val (.ref ep), .val (.long q), .second, .val (.int (-2 : Int32))] [(.int (-2 : Int32))]))) (fun t ks => XS.iloadN X115.here hx rfl (hb hby d3_32) rfl ks) ?_
  refine own_st (V := (T115.setTop (mkF m 34 #[.val (.ref ep), .val (.long q), .second, .val (.int (-2 : Int32))] [(.int (-(-2 : Int32)))]))) (fun t ks => XS.ineg X115.here hx rfl (hb hby d3_33) rfl ks) ?_
  refine own_st (V := (T115.setTop (mkF m 35 #[.val (.ref ep), .val (.long q), .second, .val (.int (-2 : Int32))] [(.int (1 : Int32)), (.int (-(-2 : Int32)))]))) (fun t ks => XS.iconst X115.here hx rfl (hb hby d3_34) ks) ?_
  refine own_st (V := (T115.setTop (mkF m 36 #[.val (.ref ep), .val (.long q), .second, .val (.int (-2 : Int32))] [(.int ((-(-2 : Int32)) - (1 : Int32)))]))) (fun t ks => XS.isub X115.here hx rfl (hb hby d3_35) rfl ks) ?_
  refine own_cast (g' := (mkF m 36 #[.val (.ref ep), .val (.long q), .second, .val (.int (-2 : Int32))] [(.int (1 : Int32))])) (by rw [show ((-(-2 : Int32)) - (1 : Int32)) = (1 : Int32) from by decide]) ?_
  refine own_st (V := (T115.setTop (mkF m 37 #[.val (.ref ep), .val (.long q), .second, .val (.int (1 : Int32))] []))) (fun t ks => XS.istoreN X115.here hx rfl (hb hby d3_36) rfl (l' := #[.val (.ref ep), .val (.long q), .second, .val (.int (1 : Int32))]) rfl ks) ?_
  refine own_st (V := (T115.setTop (mkF m 38 #[.val (.ref ep), .val (.long q), .second, .val (.int (1 : Int32))] [(.ref ep)]))) (fun t ks => XS.aloadN X115.here hx rfl (hb hby d3_37) rfl rfl ks) ?_
  refine own_getfield X115 hx hZ e115 hown (hw _ (List.mem_of_getElem? (i := 29) rfl)) Via.refl FS (hb hby d3_38) ?_
  intro T116 X116 e116
  show OGoes p.tables e below _ (T116.setTop (mkF m 41 #[.val (.ref ep), .val (.long q), .second, .val (.int (1 : Int32))] [(.int (1 : Int32))]))
  refine own_st (V := (T116.setTop (mkF m 42 #[.val (.ref ep), .val (.long q), .second, .val (.int (1 : Int32))] [(.ref ep), (.int (1 : Int32))]))) (fun t ks => XS.aloadN X116.here hx rfl (hb hby d3_41) rfl rfl ks) ?_
  refine own_getfield X116 hx hZ e116 hown (hw _ (List.mem_of_getElem? (i := 10) rfl)) Via.refl FN (hb hby d3_42) ?_
  intro T117 X117 e117
  show OGoes p.tables e below _ (T117.setTop (mkF m 45 #[.val (.ref ep), .val (.long q), .second, .val (.int (1 : Int32))] [(.ref aN), (.int (1 : Int32))]))
  refine own_alen X117 hx hZ e117 VN (hb hby d3_45) ?_
  show OGoes p.tables e below _ (T117.setTop (mkF m 46 #[.val (.ref ep), .val (.long q), .second, .val (.int (1 : Int32))] [(.int (4 : Int32)), (.int (1 : Int32))]))
  refine own_st (V := (T117.setTop (mkF m 68 #[.val (.ref ep), .val (.long q), .second, .val (.int (1 : Int32))] []))) (fun t ks => XS.icmpYes X117.here hx rfl (pc0 := 46) (pc' := 68) rfl (hb hby d3_46) rfl (XT.ii_ne_t (by decide)) (by decide) (by decide) ks) ?_
  refine own_st (V := (T117.setTop (mkF m 69 #[.val (.ref ep), .val (.long q), .second, .val (.int (1 : Int32))] [(.ref ep)]))) (fun t ks => XS.aloadN X117.here hx rfl (hb hby d3_68) rfl rfl ks) ?_
  refine own_st (V := (T117.setTop (mkF m 70 #[.val (.ref ep), .val (.long q), .second, .val (.int (1 : Int32))] [(.int (1 : Int32)), (.ref ep)]))) (fun t ks => XS.iloadN X117.here hx rfl (hb hby d3_69) rfl ks) ?_
  refine own_st (V := (T117.setTop (mkF m 71 #[.val (.ref ep), .val (.long q), .second, .val (.int (1 : Int32))] [(.int (1 : Int32)), (.int (1 : Int32)), (.ref ep)]))) (fun t ks => XS.iloadN X117.here hx rfl (hb hby d3_70) rfl ks) ?_
  refine own_st (V := (T117.setTop (mkF m 72 #[.val (.ref ep), .val (.long q), .second, .val (.int (1 : Int32))] [(.int (1 : Int32)), (.int (1 : Int32)), (.int (1 : Int32)), (.ref ep)]))) (fun t ks => XS.iconst X117.here hx rfl (hb hby d3_71) ks) ?_
  refine own_st (V := (T117.setTop (mkF m 73 #[.val (.ref ep), .val (.long q), .second, .val (.int (1 : Int32))] [(.int ((1 : Int32) + (1 : Int32))), (.int (1 : Int32)), (.ref ep)]))) (fun t ks => XS.iadd X117.here hx rfl (hb hby d3_72) rfl ks) ?_
  refine own_st (V := (T117.setTop (mkF m 74 #[.val (.ref ep), .val (.long q), .second, .val (.int (1 : Int32))] [(.ref ep), (.int ((1 : Int32) + (1 : Int32))), (.int (1 : Int32)), (.ref ep)]))) (fun t ks => XS.aloadN X117.here hx rfl (hb hby d3_73) rfl rfl ks) ?_
  refine own_getfield X117 hx hZ e117 hown (hw _ (List.mem_of_getElem? (i := 29) rfl)) Via.refl FS (hb hby d3_74) ?_
  intro T118 X118 e118
  show OGoes p.tables e below _ (T118.setTop (mkF m 77 #[.val (.ref ep), .val (.long q), .second, .val (.int (1 : Int32))] [(.int (1 : Int32)), (.int ((1 : Int32) + (1 : Int32))), (.int (1 : Int32)), (.ref ep)]))
  refine own_st (V := (T118.setTop (mkF m 78 #[.val (.ref ep), .val (.long q), .second, .val (.int (1 : Int32))] [(.int (1 : Int32)), (.int (1 : Int32)), (.int ((1 : Int32) + (1 : Int32))), (.int (1 : Int32)), (.ref ep)]))) (fun t ks => XS.iloadN X118.here hx rfl (hb hby d3_77) rfl ks) ?_
  refine own_st (V := (T118.setTop (mkF m 79 #[.val (.ref ep), .val (.long q), .second, .val (.int (1 : Int32))] [(.int ((1 : Int32) - (1 : Int32))), (.int ((1 : Int32) + (1 : Int32))), (.int (1 : Int32)), (.ref ep)]))) (fun t ks => XS.isub X118.here hx rfl (hb hby d3_78) rfl ks) ?_
  refine own_cast (g' := (mkF m 79 #[.val (.ref ep), .val (.long q), .second, .val (.int (1 : Int32))] [(.int ((1 : Int32) - (1 : Int32))), (.int (2 : Int32)), (.int (1 : Int32)), (.ref ep)])) (by rw [show ((1 : Int32) + (1 : Int32)) = (2 : Int32) from by decide]) ?_
  refine own_cast (g' := (mkF m 79 #[.val (.ref ep), .val (.long q), .second, .val (.int (1 : Int32))] [(.int (0 : Int32)), (.int (2 : Int32)), (.int (1 : Int32)), (.ref ep)])) (by rw [show ((1 : Int32) - (1 : Int32)) = (0 : Int32) from by decide]) ?_
  refine own_callP X118 hx hZ hown (hw _ (List.mem_of_getElem? (i := 65) rfl)) (hw _ (List.mem_of_getElem? (i := 67) rfl)) (hw _ (List.mem_of_getElem? (i := 1) rfl)) (hw _ (List.mem_of_getElem? (i := 66) rfl)) (hw _ (List.mem_of_getElem? (i := 2) rfl)) (hw _ (List.mem_of_getElem? (i := 68) rfl)) (by decide) (rmSh l Z a0 hw ep 1 2 0 1 [.long x0, .long 0, .long 0, .long 0] [.long x0, .long 0, .long 0, .long 0] rfl rfl rfl rfl (by decide) (by decide) (by decide) (by decide) (by decide) h0 ⟨aN, aG, aW, aC, aD, aF, _, _, _, _, _, _, ⟨by omega, by omega, by omega, by omega, by omega, by omega, by omega⟩, E, FN, FG, FW, FC, FD, FF, FS, VN, VG, VW, VC, VD, VF⟩) e118 E (by rw [hml]; rfl) (argsL := [(.int (1 : Int32)), (.int (2 : Int32)), (.int (0 : Int32))]) (rest := []) pd_1 rfl rfl rfl (W := 0) (Nat.le_of_eq rfl) (hb hby d3_79) (by decide) (by decide) (by decide) (by decide) ?_
  rintro v119 T119 L119 X119 ⟨rfl, N119, H119⟩
  replace N119 := Fr.app (Fr.nil Z.heap.size) N119
  show OGoes p.tables e below _ (T119.setTop (mkF m 82 #[.val (.ref ep), .val (.long q), .second, .val (.int (1 : Int32))] []))
  obtain ⟨aN, aG, aW, aC, aD, aF, kN, kG, kW, kC, kD, kF, ⟨o0, o1, o2, o3, o4, o5, o6⟩, E, FN, FG, FW, FC, FD, FF, FS, VN, VG, VW, VC, VD, VF⟩ := H119
  refine own_st (V := (T119.setTop (mkF m 83 #[.val (.ref ep), .val (.long q), .second, .val (.int (1 : Int32))] [(.ref ep)]))) (fun t ks => XS.aloadN X119.here hx rfl (hb hby d3_82) rfl rfl ks) ?_
  refine own_getfield X119 hx hZ rfl hown (hw _ (List.mem_of_getElem? (i := 10) rfl)) Via.refl FN (hb hby d3_83) ?_
  intro T120 X120 e120
  show OGoes p.tables e below _ (T120.setTop (mkF m 86 #[.val (.ref ep), .val (.long q), .second, .val (.int (1 : Int32))] [(.ref aN)]))
  refine own_st (V := (T120.setTop (mkF m 87 #[.val (.ref ep), .val (.long q), .second, .val (.int (1 : Int32))] [(.int (1 : Int32)), (.ref aN)]))) (fun t ks => XS.iloadN X120.here hx rfl (hb hby d3_86) rfl ks) ?_
  refine own_st (V := (T120.setTop (mkF m 88 #[.val (.ref ep), .val (.long q), .second, .val (.int (1 : Int32))] [(.long q), (.int (1 : Int32)), (.ref aN)]))) (fun t ks => XS.lloadN X120.here hx rfl (hb hby d3_87) rfl ks) ?_
  refine own_lastore X120 hx hZ e120 VN (by decide) (by decide) rfl (Nat.le_of_ble_eq_true rfl) N119 (by omega) (hb hby d3_88) ?_
  intro T121 h121 L121 X121 e121 N121 W121 An121
  replace E := E.wr W121
  replace FN := FN.other W121 (Or.inl (own_ne (by omega)))
  replace FG := FG.other W121 (Or.inl (own_ne (by omega)))
  replace VG := VG.other W121 (own_ne (by omega))
  replace FW := FW.other W121 (Or.inl (own_ne (by omega)))
  replace VW := VW.other W121 (own_ne (by omega))
  replace FC := FC.other W121 (Or.inl (own_ne (by omega)))
  replace VC := VC.other W121 (own_ne (by omega))
  replace FD := FD.other W121 (Or.inl (own_ne (by omega)))
  replace VD := VD.other W121 (own_ne (by omega))
  replace FF := FF.other W121 (Or.inl (own_ne (by omega)))
  replace VF := VF.other W121 (own_ne (by omega))
  replace FS := FS.other W121 (Or.inl (own_ne (by omega)))
  replace VN := An121
  show OGoes p.tables e below _ (T121.setTop (mkF m 89 #[.val (.ref ep), .val (.long q), .second, .val (.int (1 : Int32))] []))
  refine own_st (V := (T121.setTop (mkF m 90 #[.val (.ref ep), .val (.long q), .second, .val (.int (1 : Int32))] [(.ref ep)]))) (fun t ks => XS.aloadN X121.here hx rfl (hb hby d3_89) rfl rfl ks) ?_
  refine own_getfield X121 hx hZ e121 hown (hw _ (List.mem_of_getElem? (i := 13) rfl)) Via.refl FG (hb hby d3_90) ?_
  intro T122 X122 e122
  show OGoes p.tables e below _ (T122.setTop (mkF m 93 #[.val (.ref ep), .val (.long q), .second, .val (.int (1 : Int32))] [(.ref aG)]))
  refine own_st (V := (T122.setTop (mkF m 94 #[.val (.ref ep), .val (.long q), .second, .val (.int (1 : Int32))] [(.int (1 : Int32)), (.ref aG)]))) (fun t ks => XS.iloadN X122.here hx rfl (hb hby d3_93) rfl ks) ?_
  refine own_st (V := (T122.setTop (mkF m 95 #[.val (.ref ep), .val (.long q), .second, .val (.int (1 : Int32))] [(.int (0 : Int32)), (.int (1 : Int32)), (.ref aG)]))) (fun t ks => XS.iconst X122.here hx rfl (hb hby d3_94) ks) ?_
  refine own_iastore X122 hx hZ e122 VG (by decide) (by decide) rfl (Nat.le_of_ble_eq_true rfl) N121 (by omega) (hb hby d3_95) ?_
  intro T123 h123 L123 X123 e123 N123 W123 An123
  replace E := E.wr W123
  replace FN := FN.other W123 (Or.inl (own_ne (by omega)))
  replace VN := VN.other W123 (own_ne (by omega))
  replace FG := FG.other W123 (Or.inl (own_ne (by omega)))
  replace FW := FW.other W123 (Or.inl (own_ne (by omega)))
  replace VW := VW.other W123 (own_ne (by omega))
  replace FC := FC.other W123 (Or.inl (own_ne (by omega)))
  replace VC := VC.other W123 (own_ne (by omega))
  replace FD := FD.other W123 (Or.inl (own_ne (by omega)))
  replace VD := VD.other W123 (own_ne (by omega))
  replace FF := FF.other W123 (Or.inl (own_ne (by omega)))
  replace VF := VF.other W123 (own_ne (by omega))
  replace FS := FS.other W123 (Or.inl (own_ne (by omega)))
  replace VG := An123
  show OGoes p.tables e below _ (T123.setTop (mkF m 96 #[.val (.ref ep), .val (.long q), .second, .val (.int (1 : Int32))] []))
  refine own_st (V := (T123.setTop (mkF m 97 #[.val (.ref ep), .val (.long q), .second, .val (.int (1 : Int32))] [(.ref ep)]))) (fun t ks => XS.aloadN X123.here hx rfl (hb hby d3_96) rfl rfl ks) ?_
  refine own_getfield X123 hx hZ e123 hown (hw _ (List.mem_of_getElem? (i := 15) rfl)) Via.refl FW (hb hby d3_97) ?_
  intro T124 X124 e124
  show OGoes p.tables e below _ (T124.setTop (mkF m 100 #[.val (.ref ep), .val (.long q), .second, .val (.int (1 : Int32))] [(.ref aW)]))
  refine own_st (V := (T124.setTop (mkF m 101 #[.val (.ref ep), .val (.long q), .second, .val (.int (1 : Int32))] [(.int (1 : Int32)), (.ref aW)]))) (fun t ks => XS.iloadN X124.here hx rfl (hb hby d3_100) rfl ks) ?_
  refine own_st (V := (T124.setTop (mkF m 102 #[.val (.ref ep), .val (.long q), .second, .val (.int (1 : Int32))] [(.long (0 : Int64)), (.int (1 : Int32)), (.ref aW)]))) (fun t ks => XS.lconst X124.here hx rfl (hb hby d3_101) ks) ?_
  refine own_lastore X124 hx hZ e124 VW (by decide) (by decide) rfl (Nat.le_of_ble_eq_true rfl) N123 (by omega) (hb hby d3_102) ?_
  intro T125 h125 L125 X125 e125 N125 W125 An125
  replace E := E.wr W125
  replace FN := FN.other W125 (Or.inl (own_ne (by omega)))
  replace VN := VN.other W125 (own_ne (by omega))
  replace FG := FG.other W125 (Or.inl (own_ne (by omega)))
  replace VG := VG.other W125 (own_ne (by omega))
  replace FW := FW.other W125 (Or.inl (own_ne (by omega)))
  replace FC := FC.other W125 (Or.inl (own_ne (by omega)))
  replace VC := VC.other W125 (own_ne (by omega))
  replace FD := FD.other W125 (Or.inl (own_ne (by omega)))
  replace VD := VD.other W125 (own_ne (by omega))
  replace FF := FF.other W125 (Or.inl (own_ne (by omega)))
  replace VF := VF.other W125 (own_ne (by omega))
  replace FS := FS.other W125 (Or.inl (own_ne (by omega)))
  replace VW := An125
  show OGoes p.tables e below _ (T125.setTop (mkF m 103 #[.val (.ref ep), .val (.long q), .second, .val (.int (1 : Int32))] []))
  refine own_st (V := (T125.setTop (mkF m 104 #[.val (.ref ep), .val (.long q), .second, .val (.int (1 : Int32))] [(.ref ep)]))) (fun t ks => XS.aloadN X125.here hx rfl (hb hby d3_103) rfl rfl ks) ?_
  refine own_getfield X125 hx hZ e125 hown (hw _ (List.mem_of_getElem? (i := 17) rfl)) Via.refl FC (hb hby d3_104) ?_
  intro T126 X126 e126
  show OGoes p.tables e below _ (T126.setTop (mkF m 107 #[.val (.ref ep), .val (.long q), .second, .val (.int (1 : Int32))] [(.ref aC)]))
  refine own_st (V := (T126.setTop (mkF m 108 #[.val (.ref ep), .val (.long q), .second, .val (.int (1 : Int32))] [(.int (1 : Int32)), (.ref aC)]))) (fun t ks => XS.iloadN X126.here hx rfl (hb hby d3_107) rfl ks) ?_
  refine own_st (V := (T126.setTop (mkF m 109 #[.val (.ref ep), .val (.long q), .second, .val (.int (1 : Int32))] [(.int (0 : Int32)), (.int (1 : Int32)), (.ref aC)]))) (fun t ks => XS.iconst X126.here hx rfl (hb hby d3_108) ks) ?_
  refine own_iastore X126 hx hZ e126 VC (by decide) (by decide) rfl (Nat.le_of_ble_eq_true rfl) N125 (by omega) (hb hby d3_109) ?_
  intro T127 h127 L127 X127 e127 N127 W127 An127
  replace E := E.wr W127
  replace FN := FN.other W127 (Or.inl (own_ne (by omega)))
  replace VN := VN.other W127 (own_ne (by omega))
  replace FG := FG.other W127 (Or.inl (own_ne (by omega)))
  replace VG := VG.other W127 (own_ne (by omega))
  replace FW := FW.other W127 (Or.inl (own_ne (by omega)))
  replace VW := VW.other W127 (own_ne (by omega))
  replace FC := FC.other W127 (Or.inl (own_ne (by omega)))
  replace FD := FD.other W127 (Or.inl (own_ne (by omega)))
  replace VD := VD.other W127 (own_ne (by omega))
  replace FF := FF.other W127 (Or.inl (own_ne (by omega)))
  replace VF := VF.other W127 (own_ne (by omega))
  replace FS := FS.other W127 (Or.inl (own_ne (by omega)))
  replace VC := An127
  show OGoes p.tables e below _ (T127.setTop (mkF m 110 #[.val (.ref ep), .val (.long q), .second, .val (.int (1 : Int32))] []))
  refine own_st (V := (T127.setTop (mkF m 111 #[.val (.ref ep), .val (.long q), .second, .val (.int (1 : Int32))] [(.ref ep)]))) (fun t ks => XS.aloadN X127.here hx rfl (hb hby d3_110) rfl rfl ks) ?_
  refine own_getfield X127 hx hZ e127 hown (hw _ (List.mem_of_getElem? (i := 19) rfl)) Via.refl FD (hb hby d3_111) ?_
  intro T128 X128 e128
  show OGoes p.tables e below _ (T128.setTop (mkF m 114 #[.val (.ref ep), .val (.long q), .second, .val (.int (1 : Int32))] [(.ref aD)]))
  refine own_st (V := (T128.setTop (mkF m 115 #[.val (.ref ep), .val (.long q), .second, .val (.int (1 : Int32))] [(.int (1 : Int32)), (.ref aD)]))) (fun t ks => XS.iloadN X128.here hx rfl (hb hby d3_114) rfl ks) ?_
  refine own_st (V := (T128.setTop (mkF m 116 #[.val (.ref ep), .val (.long q), .second, .val (.int (1 : Int32))] [(.long (0 : Int64)), (.int (1 : Int32)), (.ref aD)]))) (fun t ks => XS.lconst X128.here hx rfl (hb hby d3_115) ks) ?_
  refine own_lastore X128 hx hZ e128 VD (by decide) (by decide) rfl (Nat.le_of_ble_eq_true rfl) N127 (by omega) (hb hby d3_116) ?_
  intro T129 h129 L129 X129 e129 N129 W129 An129
  replace E := E.wr W129
  replace FN := FN.other W129 (Or.inl (own_ne (by omega)))
  replace VN := VN.other W129 (own_ne (by omega))
  replace FG := FG.other W129 (Or.inl (own_ne (by omega)))
  replace VG := VG.other W129 (own_ne (by omega))
  replace FW := FW.other W129 (Or.inl (own_ne (by omega)))
  replace VW := VW.other W129 (own_ne (by omega))
  replace FC := FC.other W129 (Or.inl (own_ne (by omega)))
  replace VC := VC.other W129 (own_ne (by omega))
  replace FD := FD.other W129 (Or.inl (own_ne (by omega)))
  replace FF := FF.other W129 (Or.inl (own_ne (by omega)))
  replace VF := VF.other W129 (own_ne (by omega))
  replace FS := FS.other W129 (Or.inl (own_ne (by omega)))
  replace VD := An129
  show OGoes p.tables e below _ (T129.setTop (mkF m 117 #[.val (.ref ep), .val (.long q), .second, .val (.int (1 : Int32))] []))
  refine own_st (V := (T129.setTop (mkF m 118 #[.val (.ref ep), .val (.long q), .second, .val (.int (1 : Int32))] [(.ref ep)]))) (fun t ks => XS.aloadN X129.here hx rfl (hb hby d3_117) rfl rfl ks) ?_
  refine own_getfield X129 hx hZ e129 hown (hw _ (List.mem_of_getElem? (i := 22) rfl)) Via.refl FF (hb hby d3_118) ?_
  intro T130 X130 e130
  show OGoes p.tables e below _ (T130.setTop (mkF m 121 #[.val (.ref ep), .val (.long q), .second, .val (.int (1 : Int32))] [(.ref aF)]))
  refine own_st (V := (T130.setTop (mkF m 122 #[.val (.ref ep), .val (.long q), .second, .val (.int (1 : Int32))] [(.int (1 : Int32)), (.ref aF)]))) (fun t ks => XS.iloadN X130.here hx rfl (hb hby d3_121) rfl ks) ?_
  refine own_st (V := (T130.setTop (mkF m 123 #[.val (.ref ep), .val (.long q), .second, .val (.int (1 : Int32))] [(.int (0 : Int32)), (.int (1 : Int32)), (.ref aF)]))) (fun t ks => XS.iconst X130.here hx rfl (hb hby d3_122) ks) ?_
  refine own_bastore X130 hx hZ e130 VF (by decide) (by decide) rfl (Nat.le_of_ble_eq_true rfl) N129 (by omega) (hb hby d3_123) ?_
  intro T131 h131 L131 X131 e131 N131 W131 An131
  replace E := E.wr W131
  replace FN := FN.other W131 (Or.inl (own_ne (by omega)))
  replace VN := VN.other W131 (own_ne (by omega))
  replace FG := FG.other W131 (Or.inl (own_ne (by omega)))
  replace VG := VG.other W131 (own_ne (by omega))
  replace FW := FW.other W131 (Or.inl (own_ne (by omega)))
  replace VW := VW.other W131 (own_ne (by omega))
  replace FC := FC.other W131 (Or.inl (own_ne (by omega)))
  replace VC := VC.other W131 (own_ne (by omega))
  replace FD := FD.other W131 (Or.inl (own_ne (by omega)))
  replace VD := VD.other W131 (own_ne (by omega))
  replace FF := FF.other W131 (Or.inl (own_ne (by omega)))
  replace FS := FS.other W131 (Or.inl (own_ne (by omega)))
  replace VF := An131
  show OGoes p.tables e below _ (T131.setTop (mkF m 124 #[.val (.ref ep), .val (.long q), .second, .val (.int (1 : Int32))] []))
  refine own_st (V := (T131.setTop (mkF m 125 #[.val (.ref ep), .val (.long q), .second, .val (.int (1 : Int32))] [(.ref ep)]))) (fun t ks => XS.aloadN X131.here hx rfl (hb hby d3_124) rfl rfl ks) ?_
  refine own_st (V := (T131.setTop (mkF m 126 #[.val (.ref ep), .val (.long q), .second, .val (.int (1 : Int32))] [(.ref ep), (.ref ep)]))) (fun t ks => XS.dup X131.here hx rfl (hb hby d3_125) rfl rfl ks) ?_
  refine own_getfield X131 hx hZ e131 hown (hw _ (List.mem_of_getElem? (i := 29) rfl)) Via.refl FS (hb hby d3_126) ?_
  intro T132 X132 e132
  show OGoes p.tables e below _ (T132.setTop (mkF m 129 #[.val (.ref ep), .val (.long q), .second, .val (.int (1 : Int32))] [(.int (1 : Int32)), (.ref ep)]))
  refine own_st (V := (T132.setTop (mkF m 130 #[.val (.ref ep), .val (.long q), .second, .val (.int (1 : Int32))] [(.int (1 : Int32)), (.int (1 : Int32)), (.ref ep)]))) (fun t ks => XS.iconst X132.here hx rfl (hb hby d3_129) ks) ?_
  refine own_st (V := (T132.setTop (mkF m 131 #[.val (.ref ep), .val (.long q), .second, .val (.int (1 : Int32))] [(.int ((1 : Int32) + (1 : Int32))), (.ref ep)]))) (fun t ks => XS.iadd X132.here hx rfl (hb hby d3_130) rfl ks) ?_
  refine own_cast (g' := (mkF m 131 #[.val (.ref ep), .val (.long q), .second, .val (.int (1 : Int32))] [(.int (2 : Int32)), (.ref ep)])) (by rw [show ((1 : Int32) + (1 : Int32)) = (2 : Int32) from by decide]) ?_
  refine own_putfield X132 hx hZ e132 hown (hw _ (List.mem_of_getElem? (i := 29) rfl)) FS E (Or.inl (hw _ (List.mem_of_getElem? (i := 30) rfl))) (hw _ (List.mem_of_getElem? (i := 1) rfl)) (ty := .int) (by decide) rfl rfl N131 (by omega) (hb hby d3_131) ?_
  intro T133 h133 L133 X133 e133 N133 W133 Fn133
  replace E := E.wr W133
  replace FN := FN.other W133 (Or.inr (slot_ne (Or.inl (hw _ (List.mem_of_getElem? (i := 11) rfl))) (Or.inl (hw _ (List.mem_of_getElem? (i := 30) rfl))) (by decide) (t := (.array .long)) (by decide) (t' := .int) (by decide)))
  replace VN := VN.other W133 (own_ne (by omega))
  replace FG := FG.other W133 (Or.inr (slot_ne (Or.inl (hw _ (List.mem_of_getElem? (i := 14) rfl))) (Or.inl (hw _ (List.mem_of_getElem? (i := 30) rfl))) (by decide) (t := (.array .int)) (by decide) (t' := .int) (by decide)))
  replace VG := VG.other W133 (own_ne (by omega))
  replace FW := FW.other W133 (Or.inr (slot_ne (Or.inl (hw _ (List.mem_of_getElem? (i := 16) rfl))) (Or.inl (hw _ (List.mem_of_getElem? (i := 30) rfl))) (by decide) (t := (.array .long)) (by decide) (t' := .int) (by decide)))
  replace VW := VW.other W133 (own_ne (by omega))
  replace FC := FC.other W133 (Or.inr (slot_ne (Or.inl (hw _ (List.mem_of_getElem? (i := 18) rfl))) (Or.inl (hw _ (List.mem_of_getElem? (i := 30) rfl))) (by decide) (t := (.array .int)) (by decide) (t' := .int) (by decide)))
  replace VC := VC.other W133 (own_ne (by omega))
  replace FD := FD.other W133 (Or.inr (slot_ne (Or.inl (hw _ (List.mem_of_getElem? (i := 20) rfl))) (Or.inl (hw _ (List.mem_of_getElem? (i := 30) rfl))) (by decide) (t := (.array .long)) (by decide) (t' := .int) (by decide)))
  replace VD := VD.other W133 (own_ne (by omega))
  replace FF := FF.other W133 (Or.inr (slot_ne (Or.inl (hw _ (List.mem_of_getElem? (i := 23) rfl))) (Or.inl (hw _ (List.mem_of_getElem? (i := 30) rfl))) (by decide) (t := (.array .byte)) (by decide) (t' := .int) (by decide)))
  replace VF := VF.other W133 (own_ne (by omega))
  replace FS := Fn133
  show OGoes p.tables e below _ (T133.setTop (mkF m 134 #[.val (.ref ep), .val (.long q), .second, .val (.int (1 : Int32))] []))
  refine own_st (V := (T133.setTop (mkF m 135 #[.val (.ref ep), .val (.long q), .second, .val (.int (1 : Int32))] [(.int (1 : Int32))]))) (fun t ks => XS.iloadN X133.here hx rfl (hb hby d3_134) rfl ks) ?_
  exact own_retI X133 hx hlk hret (hb hby d3_135) (by decide) (by decide) ⟨rfl, N133, by rw [e133]; exact ⟨aN, aG, aW, aC, aD, aF, _, _, _, _, _, _, ⟨by omega, by omega, by omega, by omega, by omega, by omega, by omega⟩, E, FN, FG, FW, FC, FD, FF, FS, VN, VG, VW, VC, VD, VF⟩⟩
theorem ef_rmAd20 (m : MethodId) (x0 : Nat) (x1 : Int64) : entryFrame m #[(.ref x0), (.long x1)] 4 = mkF m 0 #[.val (.ref x0), .val (.long x1), .second, .unset] [] := by first | (simp [entryFrame, mkF, argsToLocals, Value.category]; done) | rfl
set_option maxRecDepth 65536 in
set_option maxHeartbeats 40000000 in
theorem rmAd20 (l : Launch) (Z : State) (a0 : Array Value) (hw : ∀ d ∈ tables_1, d.before a0 Z = true) (ep : Nat) (q x0 x1 : Int64) (c0 : q < x0) (c1 : q < x1) (h0 : Heap) (hZ0 : Z.heap.size ≤ h0.size) (H : own_EP Z h0 ep 4 (own_pad [x0, x1]) [.int 0, .int 0, .int 0, .int 0] [.long 0, .long 0, .long 0, .long 0] [.int 0, .int 0, .int 0, .int 0] [.long 0, .long 0, .long 0, .long 0] [.int 0, .int 0, .int 0, .int 0] 2) :
    OMet l Z (⟨"com/example/killifish/killifish/store/Epochs", "add", "(J)I"⟩ : MethodName) prog_13_method_7_code 4 (some .int) ⟨3, 0, 0, 80⟩ #[(.ref ep), (.long q)] h0 (fun v h L => v = some (.int 0) ∧ Fr Z.heap.size L ∧ own_EP Z h ep 4 (own_pad [q, x0, x1]) [.int 0, .int 0, .int 0, .int 0] [.long 0, .long 0, .long 0, .long 0] [.int 0, .int 0, .int 0, .int 0] [.long 0, .long 0, .long 0, .long 0] [.int 0, .int 0, .int 0, .int 0] 3) := by
  refine own_body pf_3 ?_
  intro p e s m below meth c T0 X0 hx hby hml hZ hown hnm hret hlk e0
  replace hown : s.vm.findClass "com/example/killifish/killifish/store/Epochs" = some m.cls := hown
  refine own_cast (ef_rmAd20 m (ep) (q)) ?_
  show OGoes p.tables e below _ (T0.setTop (mkF m 0 #[.val (.ref ep), .val (.long q), .second, .unset] []))
  have d0 : ¬ x0 < q := fun z => by rw [Int64.lt_iff_toInt_lt] at *; omega
  have d1 : ¬ x1 < q := fun z => by rw [Int64.lt_iff_toInt_lt] at *; omega
  obtain ⟨aN, aG, aW, aC, aD, aF, kN, kG, kW, kC, kD, kF, ⟨o0, o1, o2, o3, o4, o5, o6⟩, E, FN, FG, FW, FC, FD, FF, FS, VN, VG, VW, VC, VD, VF⟩ := H
  refine own_st (V := (T0.setTop (mkF m 1 #[.val (.ref ep), .val (.long q), .second, .unset] [(.ref ep)]))) (fun t ks => XS.aloadN X0.here hx rfl (hb hby d3_0) rfl rfl ks) ?_
  refine own_getfield X0 hx hZ e0 hown (hw _ (List.mem_of_getElem? (i := 10) rfl)) Via.refl FN (hb hby d3_1) ?_
  intro T134 X134 e134
  show OGoes p.tables e below _ (T134.setTop (mkF m 4 #[.val (.ref ep), .val (.long q), .second, .unset] [(.ref aN)]))
  refine own_st (V := (T134.setTop (mkF m 5 #[.val (.ref ep), .val (.long q), .second, .unset] [(.int (0 : Int32)), (.ref aN)]))) (fun t ks => XS.iconst X134.here hx rfl (hb hby d3_4) ks) ?_
  refine own_st (V := (T134.setTop (mkF m 6 #[.val (.ref ep), .val (.long q), .second, .unset] [(.ref ep), (.int (0 : Int32)), (.ref aN)]))) (fun t ks => XS.aloadN X134.here hx rfl (hb hby d3_5) rfl rfl ks) ?_
  refine own_getfield X134 hx hZ e134 hown (hw _ (List.mem_of_getElem? (i := 29) rfl)) Via.refl FS (hb hby d3_6) ?_
  intro T135 X135 e135
  show OGoes p.tables e below _ (T135.setTop (mkF m 9 #[.val (.ref ep), .val (.long q), .second, .unset] [(.int (2 : Int32)), (.int (0 : Int32)), (.ref aN)]))
  refine own_st (V := (T135.setTop (mkF m 10 #[.val (.ref ep), .val (.long q), .second, .unset] [(.long q), (.int (2 : Int32)), (.int (0 : Int32)), (.ref aN)]))) (fun t ks => XS.lloadN X135.here hx rfl (hb hby d3_9) rfl ks) ?_
  refine own_callS0 X135 hx hZ hown (hw _ (List.mem_of_getElem? (i := 31) rfl)) (hw _ (List.mem_of_getElem? (i := 32) rfl)) (hw _ (List.mem_of_getElem? (i := 33) rfl)) (hw _ (List.mem_of_getElem? (i := 34) rfl)) (by decide) (rmBS2 l Z a0 hw aN kN q x0 x1 (-1) (by simp [own_bs, c0, d0, c1, d1]) h0 VN) e135 (by rw [hml]; rfl) (argsL := [(.ref aN), (.int (0 : Int32)), (.int (2 : Int32)), (.long q)]) (rest := []) pd_2 rfl rfl rfl (W := 0) (Nat.le_of_eq rfl) (hb hby d3_10) (by decide) (by decide) (by decide) (by decide) ?_
  intro T136 X136 e136
  show OGoes p.tables e below _ (T136.setTop (mkF m 13 #[.val (.ref ep), .val (.long q), .second, .unset] [(.int (-1 : Int32))]))
  refine own_st (V := (T136.setTop (mkF m 14 #[.val (.ref ep), .val (.long q), .second, .val (.int (-1 : Int32))] []))) (fun t ks => XS.istoreN X136.here hx rfl (hb hby d3_13) rfl (l' := #[.val (.ref ep), .val (.long q), .second, .val (.int (-1 : Int32))]) rfl ks) ?_
  refine own_st (V := (T136.setTop (mkF m 15 #[.val (.ref ep), .val (.long q), .second, .val (.int (-1 : Int32))] [(.int (-1 : Int32))]))) (fun t ks => XS.iloadN X136.here hx rfl (hb hby d3_14) rfl ks) ?_
  refine own_st (V := (T136.setTop (mkF m 32 #[.val (.ref ep), .val (.long q), .second, .val (.int (-1 : Int32))] []))) (fun t ks => XS.ifYes X136.here hx rfl (pc0 := 15) (pc' := 32) rfl (hb hby d3_15) rfl (XT.i0_lt_t (by decide)) (by decide) (by decide) ks) ?_
  refine own_st (V := (T136.setTop (mkF m 33 #[.val (.ref ep), .val (.long q), .second, .val (.int (-1 : Int32))] [(.int (-1 : Int32))]))) (fun t ks => XS.iloadN X136.here hx rfl (hb hby d3_32) rfl ks) ?_
  refine own_st (V := (T136.setTop (mkF m 34 #[.val (.ref ep), .val (.long q), .second, .val (.int (-1 : Int32))] [(.int (-(-1 : Int32)))]))) (fun t ks => XS.ineg X136.here hx rfl (hb hby d3_33) rfl ks) ?_
  refine own_st (V := (T136.setTop (mkF m 35 #[.val (.ref ep), .val (.long q), .second, .val (.int (-1 : Int32))] [(.int (1 : Int32)), (.int (-(-1 : Int32)))]))) (fun t ks => XS.iconst X136.here hx rfl (hb hby d3_34) ks) ?_
  refine own_st (V := (T136.setTop (mkF m 36 #[.val (.ref ep), .val (.long q), .second, .val (.int (-1 : Int32))] [(.int ((-(-1 : Int32)) - (1 : Int32)))]))) (fun t ks => XS.isub X136.here hx rfl (hb hby d3_35) rfl ks) ?_
  refine own_cast (g' := (mkF m 36 #[.val (.ref ep), .val (.long q), .second, .val (.int (-1 : Int32))] [(.int (0 : Int32))])) (by rw [show ((-(-1 : Int32)) - (1 : Int32)) = (0 : Int32) from by decide]) ?_
  refine own_st (V := (T136.setTop (mkF m 37 #[.val (.ref ep), .val (.long q), .second, .val (.int (0 : Int32))] []))) (fun t ks => XS.istoreN X136.here hx rfl (hb hby d3_36) rfl (l' := #[.val (.ref ep), .val (.long q), .second, .val (.int (0 : Int32))]) rfl ks) ?_
  refine own_st (V := (T136.setTop (mkF m 38 #[.val (.ref ep), .val (.long q), .second, .val (.int (0 : Int32))] [(.ref ep)]))) (fun t ks => XS.aloadN X136.here hx rfl (hb hby d3_37) rfl rfl ks) ?_
  refine own_getfield X136 hx hZ e136 hown (hw _ (List.mem_of_getElem? (i := 29) rfl)) Via.refl FS (hb hby d3_38) ?_
  intro T137 X137 e137
  show OGoes p.tables e below _ (T137.setTop (mkF m 41 #[.val (.ref ep), .val (.long q), .second, .val (.int (0 : Int32))] [(.int (2 : Int32))]))
  refine own_st (V := (T137.setTop (mkF m 42 #[.val (.ref ep), .val (.long q), .second, .val (.int (0 : Int32))] [(.ref ep), (.int (2 : Int32))]))) (fun t ks => XS.aloadN X137.here hx rfl (hb hby d3_41) rfl rfl ks) ?_
  refine own_getfield X137 hx hZ e137 hown (hw _ (List.mem_of_getElem? (i := 10) rfl)) Via.refl FN (hb hby d3_42) ?_
  intro T138 X138 e138
  show OGoes p.tables e below _ (T138.setTop (mkF m 45 #[.val (.ref ep), .val (.long q), .second, .val (.int (0 : Int32))] [(.ref aN), (.int (2 : Int32))]))
  refine own_alen X138 hx hZ e138 VN (hb hby d3_45) ?_
  show OGoes p.tables e below _ (T138.setTop (mkF m 46 #[.val (.ref ep), .val (.long q), .second, .val (.int (0 : Int32))] [(.int (4 : Int32)), (.int (2 : Int32))]))
  refine own_st (V := (T138.setTop (mkF m 68 #[.val (.ref ep), .val (.long q), .second, .val (.int (0 : Int32))] []))) (fun t ks => XS.icmpYes X138.here hx rfl (pc0 := 46) (pc' := 68) rfl (hb hby d3_46) rfl (XT.ii_ne_t (by decide)) (by decide) (by decide) ks) ?_
  refine own_st (V := (T138.setTop (mkF m 69 #[.val (.ref ep), .val (.long q), .second, .val (.int (0 : Int32))] [(.ref ep)]))) (fun t ks => XS.aloadN X138.here hx rfl (hb hby d3_68) rfl rfl ks) ?_
  refine own_st (V := (T138.setTop (mkF m 70 #[.val (.ref ep), .val (.long q), .second, .val (.int (0 : Int32))] [(.int (0 : Int32)), (.ref ep)]))) (fun t ks => XS.iloadN X138.here hx rfl (hb hby d3_69) rfl ks) ?_
  refine own_st (V := (T138.setTop (mkF m 71 #[.val (.ref ep), .val (.long q), .second, .val (.int (0 : Int32))] [(.int (0 : Int32)), (.int (0 : Int32)), (.ref ep)]))) (fun t ks => XS.iloadN X138.here hx rfl (hb hby d3_70) rfl ks) ?_
  refine own_st (V := (T138.setTop (mkF m 72 #[.val (.ref ep), .val (.long q), .second, .val (.int (0 : Int32))] [(.int (1 : Int32)), (.int (0 : Int32)), (.int (0 : Int32)), (.ref ep)]))) (fun t ks => XS.iconst X138.here hx rfl (hb hby d3_71) ks) ?_
  refine own_st (V := (T138.setTop (mkF m 73 #[.val (.ref ep), .val (.long q), .second, .val (.int (0 : Int32))] [(.int ((0 : Int32) + (1 : Int32))), (.int (0 : Int32)), (.ref ep)]))) (fun t ks => XS.iadd X138.here hx rfl (hb hby d3_72) rfl ks) ?_
  refine own_st (V := (T138.setTop (mkF m 74 #[.val (.ref ep), .val (.long q), .second, .val (.int (0 : Int32))] [(.ref ep), (.int ((0 : Int32) + (1 : Int32))), (.int (0 : Int32)), (.ref ep)]))) (fun t ks => XS.aloadN X138.here hx rfl (hb hby d3_73) rfl rfl ks) ?_
  refine own_getfield X138 hx hZ e138 hown (hw _ (List.mem_of_getElem? (i := 29) rfl)) Via.refl FS (hb hby d3_74) ?_
  intro T139 X139 e139
  show OGoes p.tables e below _ (T139.setTop (mkF m 77 #[.val (.ref ep), .val (.long q), .second, .val (.int (0 : Int32))] [(.int (2 : Int32)), (.int ((0 : Int32) + (1 : Int32))), (.int (0 : Int32)), (.ref ep)]))
  refine own_st (V := (T139.setTop (mkF m 78 #[.val (.ref ep), .val (.long q), .second, .val (.int (0 : Int32))] [(.int (0 : Int32)), (.int (2 : Int32)), (.int ((0 : Int32) + (1 : Int32))), (.int (0 : Int32)), (.ref ep)]))) (fun t ks => XS.iloadN X139.here hx rfl (hb hby d3_77) rfl ks) ?_
  refine own_st (V := (T139.setTop (mkF m 79 #[.val (.ref ep), .val (.long q), .second, .val (.int (0 : Int32))] [(.int ((2 : Int32) - (0 : Int32))), (.int ((0 : Int32) + (1 : Int32))), (.int (0 : Int32)), (.ref ep)]))) (fun t ks => XS.isub X139.here hx rfl (hb hby d3_78) rfl ks) ?_
  refine own_cast (g' := (mkF m 79 #[.val (.ref ep), .val (.long q), .second, .val (.int (0 : Int32))] [(.int ((2 : Int32) - (0 : Int32))), (.int (1 : Int32)), (.int (0 : Int32)), (.ref ep)])) (by rw [show ((0 : Int32) + (1 : Int32)) = (1 : Int32) from by decide]) ?_
  refine own_cast (g' := (mkF m 79 #[.val (.ref ep), .val (.long q), .second, .val (.int (0 : Int32))] [(.int (2 : Int32)), (.int (1 : Int32)), (.int (0 : Int32)), (.ref ep)])) (by rw [show ((2 : Int32) - (0 : Int32)) = (2 : Int32) from by decide]) ?_
  refine own_callP X139 hx hZ hown (hw _ (List.mem_of_getElem? (i := 65) rfl)) (hw _ (List.mem_of_getElem? (i := 67) rfl)) (hw _ (List.mem_of_getElem? (i := 1) rfl)) (hw _ (List.mem_of_getElem? (i := 66) rfl)) (hw _ (List.mem_of_getElem? (i := 2) rfl)) (hw _ (List.mem_of_getElem? (i := 68) rfl)) (by decide) (rmSh l Z a0 hw ep 0 1 2 2 [.long x0, .long x1, .long 0, .long 0] [.long x0, .long x0, .long x1, .long 0] rfl rfl rfl rfl (by decide) (by decide) (by decide) (by decide) (by decide) h0 ⟨aN, aG, aW, aC, aD, aF, _, _, _, _, _, _, ⟨by omega, by omega, by omega, by omega, by omega, by omega, by omega⟩, E, FN, FG, FW, FC, FD, FF, FS, VN, VG, VW, VC, VD, VF⟩) e139 E (by rw [hml]; rfl) (argsL := [(.int (0 : Int32)), (.int (1 : Int32)), (.int (2 : Int32))]) (rest := []) pd_1 rfl rfl rfl (W := 0) (Nat.le_of_eq rfl) (hb hby d3_79) (by decide) (by decide) (by decide) (by decide) ?_
  rintro v140 T140 L140 X140 ⟨rfl, N140, H140⟩
  replace N140 := Fr.app (Fr.nil Z.heap.size) N140
  show OGoes p.tables e below _ (T140.setTop (mkF m 82 #[.val (.ref ep), .val (.long q), .second, .val (.int (0 : Int32))] []))
  obtain ⟨aN, aG, aW, aC, aD, aF, kN, kG, kW, kC, kD, kF, ⟨o0, o1, o2, o3, o4, o5, o6⟩, E, FN, FG, FW, FC, FD, FF, FS, VN, VG, VW, VC, VD, VF⟩ := H140
  refine own_st (V := (T140.setTop (mkF m 83 #[.val (.ref ep), .val (.long q), .second, .val (.int (0 : Int32))] [(.ref ep)]))) (fun t ks => XS.aloadN X140.here hx rfl (hb hby d3_82) rfl rfl ks) ?_
  refine own_getfield X140 hx hZ rfl hown (hw _ (List.mem_of_getElem? (i := 10) rfl)) Via.refl FN (hb hby d3_83) ?_
  intro T141 X141 e141
  show OGoes p.tables e below _ (T141.setTop (mkF m 86 #[.val (.ref ep), .val (.long q), .second, .val (.int (0 : Int32))] [(.ref aN)]))
  refine own_st (V := (T141.setTop (mkF m 87 #[.val (.ref ep), .val (.long q), .second, .val (.int (0 : Int32))] [(.int (0 : Int32)), (.ref aN)]))) (fun t ks => XS.iloadN X141.here hx rfl (hb hby d3_86) rfl ks) ?_
  refine own_st (V := (T141.setTop (mkF m 88 #[.val (.ref ep), .val (.long q), .second, .val (.int (0 : Int32))] [(.long q), (.int (0 : Int32)), (.ref aN)]))) (fun t ks => XS.lloadN X141.here hx rfl (hb hby d3_87) rfl ks) ?_
  refine own_lastore X141 hx hZ e141 VN (by decide) (by decide) rfl (Nat.le_of_ble_eq_true rfl) N140 (by omega) (hb hby d3_88) ?_
  intro T142 h142 L142 X142 e142 N142 W142 An142
  replace E := E.wr W142
  replace FN := FN.other W142 (Or.inl (own_ne (by omega)))
  replace FG := FG.other W142 (Or.inl (own_ne (by omega)))
  replace VG := VG.other W142 (own_ne (by omega))
  replace FW := FW.other W142 (Or.inl (own_ne (by omega)))
  replace VW := VW.other W142 (own_ne (by omega))
  replace FC := FC.other W142 (Or.inl (own_ne (by omega)))
  replace VC := VC.other W142 (own_ne (by omega))
  replace FD := FD.other W142 (Or.inl (own_ne (by omega)))
  replace VD := VD.other W142 (own_ne (by omega))
  replace FF := FF.other W142 (Or.inl (own_ne (by omega)))
  replace VF := VF.other W142 (own_ne (by omega))
  replace FS := FS.other W142 (Or.inl (own_ne (by omega)))
  replace VN := An142
  show OGoes p.tables e below _ (T142.setTop (mkF m 89 #[.val (.ref ep), .val (.long q), .second, .val (.int (0 : Int32))] []))
  refine own_st (V := (T142.setTop (mkF m 90 #[.val (.ref ep), .val (.long q), .second, .val (.int (0 : Int32))] [(.ref ep)]))) (fun t ks => XS.aloadN X142.here hx rfl (hb hby d3_89) rfl rfl ks) ?_
  refine own_getfield X142 hx hZ e142 hown (hw _ (List.mem_of_getElem? (i := 13) rfl)) Via.refl FG (hb hby d3_90) ?_
  intro T143 X143 e143
  show OGoes p.tables e below _ (T143.setTop (mkF m 93 #[.val (.ref ep), .val (.long q), .second, .val (.int (0 : Int32))] [(.ref aG)]))
  refine own_st (V := (T143.setTop (mkF m 94 #[.val (.ref ep), .val (.long q), .second, .val (.int (0 : Int32))] [(.int (0 : Int32)), (.ref aG)]))) (fun t ks => XS.iloadN X143.here hx rfl (hb hby d3_93) rfl ks) ?_
  refine own_st (V := (T143.setTop (mkF m 95 #[.val (.ref ep), .val (.long q), .second, .val (.int (0 : Int32))] [(.int (0 : Int32)), (.int (0 : Int32)), (.ref aG)]))) (fun t ks => XS.iconst X143.here hx rfl (hb hby d3_94) ks) ?_
  refine own_iastore X143 hx hZ e143 VG (by decide) (by decide) rfl (Nat.le_of_ble_eq_true rfl) N142 (by omega) (hb hby d3_95) ?_
  intro T144 h144 L144 X144 e144 N144 W144 An144
  replace E := E.wr W144
  replace FN := FN.other W144 (Or.inl (own_ne (by omega)))
  replace VN := VN.other W144 (own_ne (by omega))
  replace FG := FG.other W144 (Or.inl (own_ne (by omega)))
  replace FW := FW.other W144 (Or.inl (own_ne (by omega)))
  replace VW := VW.other W144 (own_ne (by omega))
  replace FC := FC.other W144 (Or.inl (own_ne (by omega)))
  replace VC := VC.other W144 (own_ne (by omega))
  replace FD := FD.other W144 (Or.inl (own_ne (by omega)))
  replace VD := VD.other W144 (own_ne (by omega))
  replace FF := FF.other W144 (Or.inl (own_ne (by omega)))
  replace VF := VF.other W144 (own_ne (by omega))
  replace FS := FS.other W144 (Or.inl (own_ne (by omega)))
  replace VG := An144
  show OGoes p.tables e below _ (T144.setTop (mkF m 96 #[.val (.ref ep), .val (.long q), .second, .val (.int (0 : Int32))] []))
  refine own_st (V := (T144.setTop (mkF m 97 #[.val (.ref ep), .val (.long q), .second, .val (.int (0 : Int32))] [(.ref ep)]))) (fun t ks => XS.aloadN X144.here hx rfl (hb hby d3_96) rfl rfl ks) ?_
  refine own_getfield X144 hx hZ e144 hown (hw _ (List.mem_of_getElem? (i := 15) rfl)) Via.refl FW (hb hby d3_97) ?_
  intro T145 X145 e145
  show OGoes p.tables e below _ (T145.setTop (mkF m 100 #[.val (.ref ep), .val (.long q), .second, .val (.int (0 : Int32))] [(.ref aW)]))
  refine own_st (V := (T145.setTop (mkF m 101 #[.val (.ref ep), .val (.long q), .second, .val (.int (0 : Int32))] [(.int (0 : Int32)), (.ref aW)]))) (fun t ks => XS.iloadN X145.here hx rfl (hb hby d3_100) rfl ks) ?_
  refine own_st (V := (T145.setTop (mkF m 102 #[.val (.ref ep), .val (.long q), .second, .val (.int (0 : Int32))] [(.long (0 : Int64)), (.int (0 : Int32)), (.ref aW)]))) (fun t ks => XS.lconst X145.here hx rfl (hb hby d3_101) ks) ?_
  refine own_lastore X145 hx hZ e145 VW (by decide) (by decide) rfl (Nat.le_of_ble_eq_true rfl) N144 (by omega) (hb hby d3_102) ?_
  intro T146 h146 L146 X146 e146 N146 W146 An146
  replace E := E.wr W146
  replace FN := FN.other W146 (Or.inl (own_ne (by omega)))
  replace VN := VN.other W146 (own_ne (by omega))
  replace FG := FG.other W146 (Or.inl (own_ne (by omega)))
  replace VG := VG.other W146 (own_ne (by omega))
  replace FW := FW.other W146 (Or.inl (own_ne (by omega)))
  replace FC := FC.other W146 (Or.inl (own_ne (by omega)))
  replace VC := VC.other W146 (own_ne (by omega))
  replace FD := FD.other W146 (Or.inl (own_ne (by omega)))
  replace VD := VD.other W146 (own_ne (by omega))
  replace FF := FF.other W146 (Or.inl (own_ne (by omega)))
  replace VF := VF.other W146 (own_ne (by omega))
  replace FS := FS.other W146 (Or.inl (own_ne (by omega)))
  replace VW := An146
  show OGoes p.tables e below _ (T146.setTop (mkF m 103 #[.val (.ref ep), .val (.long q), .second, .val (.int (0 : Int32))] []))
  refine own_st (V := (T146.setTop (mkF m 104 #[.val (.ref ep), .val (.long q), .second, .val (.int (0 : Int32))] [(.ref ep)]))) (fun t ks => XS.aloadN X146.here hx rfl (hb hby d3_103) rfl rfl ks) ?_
  refine own_getfield X146 hx hZ e146 hown (hw _ (List.mem_of_getElem? (i := 17) rfl)) Via.refl FC (hb hby d3_104) ?_
  intro T147 X147 e147
  show OGoes p.tables e below _ (T147.setTop (mkF m 107 #[.val (.ref ep), .val (.long q), .second, .val (.int (0 : Int32))] [(.ref aC)]))
  refine own_st (V := (T147.setTop (mkF m 108 #[.val (.ref ep), .val (.long q), .second, .val (.int (0 : Int32))] [(.int (0 : Int32)), (.ref aC)]))) (fun t ks => XS.iloadN X147.here hx rfl (hb hby d3_107) rfl ks) ?_
  refine own_st (V := (T147.setTop (mkF m 109 #[.val (.ref ep), .val (.long q), .second, .val (.int (0 : Int32))] [(.int (0 : Int32)), (.int (0 : Int32)), (.ref aC)]))) (fun t ks => XS.iconst X147.here hx rfl (hb hby d3_108) ks) ?_
  refine own_iastore X147 hx hZ e147 VC (by decide) (by decide) rfl (Nat.le_of_ble_eq_true rfl) N146 (by omega) (hb hby d3_109) ?_
  intro T148 h148 L148 X148 e148 N148 W148 An148
  replace E := E.wr W148
  replace FN := FN.other W148 (Or.inl (own_ne (by omega)))
  replace VN := VN.other W148 (own_ne (by omega))
  replace FG := FG.other W148 (Or.inl (own_ne (by omega)))
  replace VG := VG.other W148 (own_ne (by omega))
  replace FW := FW.other W148 (Or.inl (own_ne (by omega)))
  replace VW := VW.other W148 (own_ne (by omega))
  replace FC := FC.other W148 (Or.inl (own_ne (by omega)))
  replace FD := FD.other W148 (Or.inl (own_ne (by omega)))
  replace VD := VD.other W148 (own_ne (by omega))
  replace FF := FF.other W148 (Or.inl (own_ne (by omega)))
  replace VF := VF.other W148 (own_ne (by omega))
  replace FS := FS.other W148 (Or.inl (own_ne (by omega)))
  replace VC := An148
  show OGoes p.tables e below _ (T148.setTop (mkF m 110 #[.val (.ref ep), .val (.long q), .second, .val (.int (0 : Int32))] []))
  refine own_st (V := (T148.setTop (mkF m 111 #[.val (.ref ep), .val (.long q), .second, .val (.int (0 : Int32))] [(.ref ep)]))) (fun t ks => XS.aloadN X148.here hx rfl (hb hby d3_110) rfl rfl ks) ?_
  refine own_getfield X148 hx hZ e148 hown (hw _ (List.mem_of_getElem? (i := 19) rfl)) Via.refl FD (hb hby d3_111) ?_
  intro T149 X149 e149
  show OGoes p.tables e below _ (T149.setTop (mkF m 114 #[.val (.ref ep), .val (.long q), .second, .val (.int (0 : Int32))] [(.ref aD)]))
  refine own_st (V := (T149.setTop (mkF m 115 #[.val (.ref ep), .val (.long q), .second, .val (.int (0 : Int32))] [(.int (0 : Int32)), (.ref aD)]))) (fun t ks => XS.iloadN X149.here hx rfl (hb hby d3_114) rfl ks) ?_
  refine own_st (V := (T149.setTop (mkF m 116 #[.val (.ref ep), .val (.long q), .second, .val (.int (0 : Int32))] [(.long (0 : Int64)), (.int (0 : Int32)), (.ref aD)]))) (fun t ks => XS.lconst X149.here hx rfl (hb hby d3_115) ks) ?_
  refine own_lastore X149 hx hZ e149 VD (by decide) (by decide) rfl (Nat.le_of_ble_eq_true rfl) N148 (by omega) (hb hby d3_116) ?_
  intro T150 h150 L150 X150 e150 N150 W150 An150
  replace E := E.wr W150
  replace FN := FN.other W150 (Or.inl (own_ne (by omega)))
  replace VN := VN.other W150 (own_ne (by omega))
  replace FG := FG.other W150 (Or.inl (own_ne (by omega)))
  replace VG := VG.other W150 (own_ne (by omega))
  replace FW := FW.other W150 (Or.inl (own_ne (by omega)))
  replace VW := VW.other W150 (own_ne (by omega))
  replace FC := FC.other W150 (Or.inl (own_ne (by omega)))
  replace VC := VC.other W150 (own_ne (by omega))
  replace FD := FD.other W150 (Or.inl (own_ne (by omega)))
  replace FF := FF.other W150 (Or.inl (own_ne (by omega)))
  replace VF := VF.other W150 (own_ne (by omega))
  replace FS := FS.other W150 (Or.inl (own_ne (by omega)))
  replace VD := An150
  show OGoes p.tables e below _ (T150.setTop (mkF m 117 #[.val (.ref ep), .val (.long q), .second, .val (.int (0 : Int32))] []))
  refine own_st (V := (T150.setTop (mkF m 118 #[.val (.ref ep), .val (.long q), .second, .val (.int (0 : Int32))] [(.ref ep)]))) (fun t ks => XS.aloadN X150.here hx rfl (hb hby d3_117) rfl rfl ks) ?_
  refine own_getfield X150 hx hZ e150 hown (hw _ (List.mem_of_getElem? (i := 22) rfl)) Via.refl FF (hb hby d3_118) ?_
  intro T151 X151 e151
  show OGoes p.tables e below _ (T151.setTop (mkF m 121 #[.val (.ref ep), .val (.long q), .second, .val (.int (0 : Int32))] [(.ref aF)]))
  refine own_st (V := (T151.setTop (mkF m 122 #[.val (.ref ep), .val (.long q), .second, .val (.int (0 : Int32))] [(.int (0 : Int32)), (.ref aF)]))) (fun t ks => XS.iloadN X151.here hx rfl (hb hby d3_121) rfl ks) ?_
  refine own_st (V := (T151.setTop (mkF m 123 #[.val (.ref ep), .val (.long q), .second, .val (.int (0 : Int32))] [(.int (0 : Int32)), (.int (0 : Int32)), (.ref aF)]))) (fun t ks => XS.iconst X151.here hx rfl (hb hby d3_122) ks) ?_
  refine own_bastore X151 hx hZ e151 VF (by decide) (by decide) rfl (Nat.le_of_ble_eq_true rfl) N150 (by omega) (hb hby d3_123) ?_
  intro T152 h152 L152 X152 e152 N152 W152 An152
  replace E := E.wr W152
  replace FN := FN.other W152 (Or.inl (own_ne (by omega)))
  replace VN := VN.other W152 (own_ne (by omega))
  replace FG := FG.other W152 (Or.inl (own_ne (by omega)))
  replace VG := VG.other W152 (own_ne (by omega))
  replace FW := FW.other W152 (Or.inl (own_ne (by omega)))
  replace VW := VW.other W152 (own_ne (by omega))
  replace FC := FC.other W152 (Or.inl (own_ne (by omega)))
  replace VC := VC.other W152 (own_ne (by omega))
  replace FD := FD.other W152 (Or.inl (own_ne (by omega)))
  replace VD := VD.other W152 (own_ne (by omega))
  replace FF := FF.other W152 (Or.inl (own_ne (by omega)))
  replace FS := FS.other W152 (Or.inl (own_ne (by omega)))
  replace VF := An152
  show OGoes p.tables e below _ (T152.setTop (mkF m 124 #[.val (.ref ep), .val (.long q), .second, .val (.int (0 : Int32))] []))
  refine own_st (V := (T152.setTop (mkF m 125 #[.val (.ref ep), .val (.long q), .second, .val (.int (0 : Int32))] [(.ref ep)]))) (fun t ks => XS.aloadN X152.here hx rfl (hb hby d3_124) rfl rfl ks) ?_
  refine own_st (V := (T152.setTop (mkF m 126 #[.val (.ref ep), .val (.long q), .second, .val (.int (0 : Int32))] [(.ref ep), (.ref ep)]))) (fun t ks => XS.dup X152.here hx rfl (hb hby d3_125) rfl rfl ks) ?_
  refine own_getfield X152 hx hZ e152 hown (hw _ (List.mem_of_getElem? (i := 29) rfl)) Via.refl FS (hb hby d3_126) ?_
  intro T153 X153 e153
  show OGoes p.tables e below _ (T153.setTop (mkF m 129 #[.val (.ref ep), .val (.long q), .second, .val (.int (0 : Int32))] [(.int (2 : Int32)), (.ref ep)]))
  refine own_st (V := (T153.setTop (mkF m 130 #[.val (.ref ep), .val (.long q), .second, .val (.int (0 : Int32))] [(.int (1 : Int32)), (.int (2 : Int32)), (.ref ep)]))) (fun t ks => XS.iconst X153.here hx rfl (hb hby d3_129) ks) ?_
  refine own_st (V := (T153.setTop (mkF m 131 #[.val (.ref ep), .val (.long q), .second, .val (.int (0 : Int32))] [(.int ((2 : Int32) + (1 : Int32))), (.ref ep)]))) (fun t ks => XS.iadd X153.here hx rfl (hb hby d3_130) rfl ks) ?_
  refine own_cast (g' := (mkF m 131 #[.val (.ref ep), .val (.long q), .second, .val (.int (0 : Int32))] [(.int (3 : Int32)), (.ref ep)])) (by rw [show ((2 : Int32) + (1 : Int32)) = (3 : Int32) from by decide]) ?_
  refine own_putfield X153 hx hZ e153 hown (hw _ (List.mem_of_getElem? (i := 29) rfl)) FS E (Or.inl (hw _ (List.mem_of_getElem? (i := 30) rfl))) (hw _ (List.mem_of_getElem? (i := 1) rfl)) (ty := .int) (by decide) rfl rfl N152 (by omega) (hb hby d3_131) ?_
  intro T154 h154 L154 X154 e154 N154 W154 Fn154
  replace E := E.wr W154
  replace FN := FN.other W154 (Or.inr (slot_ne (Or.inl (hw _ (List.mem_of_getElem? (i := 11) rfl))) (Or.inl (hw _ (List.mem_of_getElem? (i := 30) rfl))) (by decide) (t := (.array .long)) (by decide) (t' := .int) (by decide)))
  replace VN := VN.other W154 (own_ne (by omega))
  replace FG := FG.other W154 (Or.inr (slot_ne (Or.inl (hw _ (List.mem_of_getElem? (i := 14) rfl))) (Or.inl (hw _ (List.mem_of_getElem? (i := 30) rfl))) (by decide) (t := (.array .int)) (by decide) (t' := .int) (by decide)))
  replace VG := VG.other W154 (own_ne (by omega))
  replace FW := FW.other W154 (Or.inr (slot_ne (Or.inl (hw _ (List.mem_of_getElem? (i := 16) rfl))) (Or.inl (hw _ (List.mem_of_getElem? (i := 30) rfl))) (by decide) (t := (.array .long)) (by decide) (t' := .int) (by decide)))
  replace VW := VW.other W154 (own_ne (by omega))
  replace FC := FC.other W154 (Or.inr (slot_ne (Or.inl (hw _ (List.mem_of_getElem? (i := 18) rfl))) (Or.inl (hw _ (List.mem_of_getElem? (i := 30) rfl))) (by decide) (t := (.array .int)) (by decide) (t' := .int) (by decide)))
  replace VC := VC.other W154 (own_ne (by omega))
  replace FD := FD.other W154 (Or.inr (slot_ne (Or.inl (hw _ (List.mem_of_getElem? (i := 20) rfl))) (Or.inl (hw _ (List.mem_of_getElem? (i := 30) rfl))) (by decide) (t := (.array .long)) (by decide) (t' := .int) (by decide)))
  replace VD := VD.other W154 (own_ne (by omega))
  replace FF := FF.other W154 (Or.inr (slot_ne (Or.inl (hw _ (List.mem_of_getElem? (i := 23) rfl))) (Or.inl (hw _ (List.mem_of_getElem? (i := 30) rfl))) (by decide) (t := (.array .byte)) (by decide) (t' := .int) (by decide)))
  replace VF := VF.other W154 (own_ne (by omega))
  replace FS := Fn154
  show OGoes p.tables e below _ (T154.setTop (mkF m 134 #[.val (.ref ep), .val (.long q), .second, .val (.int (0 : Int32))] []))
  refine own_st (V := (T154.setTop (mkF m 135 #[.val (.ref ep), .val (.long q), .second, .val (.int (0 : Int32))] [(.int (0 : Int32))]))) (fun t ks => XS.iloadN X154.here hx rfl (hb hby d3_134) rfl ks) ?_
  exact own_retI X154 hx hlk hret (hb hby d3_135) (by decide) (by decide) ⟨rfl, N154, by rw [e154]; exact ⟨aN, aG, aW, aC, aD, aF, _, _, _, _, _, _, ⟨by omega, by omega, by omega, by omega, by omega, by omega, by omega⟩, E, FN, FG, FW, FC, FD, FF, FS, VN, VG, VW, VC, VD, VF⟩⟩
theorem ef_rmAd21 (m : MethodId) (x0 : Nat) (x1 : Int64) : entryFrame m #[(.ref x0), (.long x1)] 4 = mkF m 0 #[.val (.ref x0), .val (.long x1), .second, .unset] [] := by first | (simp [entryFrame, mkF, argsToLocals, Value.category]; done) | rfl
set_option maxRecDepth 65536 in
set_option maxHeartbeats 40000000 in
theorem rmAd21 (l : Launch) (Z : State) (a0 : Array Value) (hw : ∀ d ∈ tables_1, d.before a0 Z = true) (ep : Nat) (q x0 x1 : Int64) (c0 : x0 < q) (c1 : q < x1) (h0 : Heap) (hZ0 : Z.heap.size ≤ h0.size) (H : own_EP Z h0 ep 4 (own_pad [x0, x1]) [.int 0, .int 0, .int 0, .int 0] [.long 0, .long 0, .long 0, .long 0] [.int 0, .int 0, .int 0, .int 0] [.long 0, .long 0, .long 0, .long 0] [.int 0, .int 0, .int 0, .int 0] 2) :
    OMet l Z (⟨"com/example/killifish/killifish/store/Epochs", "add", "(J)I"⟩ : MethodName) prog_13_method_7_code 4 (some .int) ⟨3, 0, 0, 80⟩ #[(.ref ep), (.long q)] h0 (fun v h L => v = some (.int 1) ∧ Fr Z.heap.size L ∧ own_EP Z h ep 4 (own_pad [x0, q, x1]) [.int 0, .int 0, .int 0, .int 0] [.long 0, .long 0, .long 0, .long 0] [.int 0, .int 0, .int 0, .int 0] [.long 0, .long 0, .long 0, .long 0] [.int 0, .int 0, .int 0, .int 0] 3) := by
  refine own_body pf_3 ?_
  intro p e s m below meth c T0 X0 hx hby hml hZ hown hnm hret hlk e0
  replace hown : s.vm.findClass "com/example/killifish/killifish/store/Epochs" = some m.cls := hown
  refine own_cast (ef_rmAd21 m (ep) (q)) ?_
  show OGoes p.tables e below _ (T0.setTop (mkF m 0 #[.val (.ref ep), .val (.long q), .second, .unset] []))
  have d0 : ¬ q < x0 := fun z => by rw [Int64.lt_iff_toInt_lt] at *; omega
  have d1 : ¬ x1 < q := fun z => by rw [Int64.lt_iff_toInt_lt] at *; omega
  obtain ⟨aN, aG, aW, aC, aD, aF, kN, kG, kW, kC, kD, kF, ⟨o0, o1, o2, o3, o4, o5, o6⟩, E, FN, FG, FW, FC, FD, FF, FS, VN, VG, VW, VC, VD, VF⟩ := H
  refine own_st (V := (T0.setTop (mkF m 1 #[.val (.ref ep), .val (.long q), .second, .unset] [(.ref ep)]))) (fun t ks => XS.aloadN X0.here hx rfl (hb hby d3_0) rfl rfl ks) ?_
  refine own_getfield X0 hx hZ e0 hown (hw _ (List.mem_of_getElem? (i := 10) rfl)) Via.refl FN (hb hby d3_1) ?_
  intro T155 X155 e155
  show OGoes p.tables e below _ (T155.setTop (mkF m 4 #[.val (.ref ep), .val (.long q), .second, .unset] [(.ref aN)]))
  refine own_st (V := (T155.setTop (mkF m 5 #[.val (.ref ep), .val (.long q), .second, .unset] [(.int (0 : Int32)), (.ref aN)]))) (fun t ks => XS.iconst X155.here hx rfl (hb hby d3_4) ks) ?_
  refine own_st (V := (T155.setTop (mkF m 6 #[.val (.ref ep), .val (.long q), .second, .unset] [(.ref ep), (.int (0 : Int32)), (.ref aN)]))) (fun t ks => XS.aloadN X155.here hx rfl (hb hby d3_5) rfl rfl ks) ?_
  refine own_getfield X155 hx hZ e155 hown (hw _ (List.mem_of_getElem? (i := 29) rfl)) Via.refl FS (hb hby d3_6) ?_
  intro T156 X156 e156
  show OGoes p.tables e below _ (T156.setTop (mkF m 9 #[.val (.ref ep), .val (.long q), .second, .unset] [(.int (2 : Int32)), (.int (0 : Int32)), (.ref aN)]))
  refine own_st (V := (T156.setTop (mkF m 10 #[.val (.ref ep), .val (.long q), .second, .unset] [(.long q), (.int (2 : Int32)), (.int (0 : Int32)), (.ref aN)]))) (fun t ks => XS.lloadN X156.here hx rfl (hb hby d3_9) rfl ks) ?_
  refine own_callS0 X156 hx hZ hown (hw _ (List.mem_of_getElem? (i := 31) rfl)) (hw _ (List.mem_of_getElem? (i := 32) rfl)) (hw _ (List.mem_of_getElem? (i := 33) rfl)) (hw _ (List.mem_of_getElem? (i := 34) rfl)) (by decide) (rmBS2 l Z a0 hw aN kN q x0 x1 (-2) (by simp [own_bs, c0, d0, c1, d1]) h0 VN) e156 (by rw [hml]; rfl) (argsL := [(.ref aN), (.int (0 : Int32)), (.int (2 : Int32)), (.long q)]) (rest := []) pd_2 rfl rfl rfl (W := 0) (Nat.le_of_eq rfl) (hb hby d3_10) (by decide) (by decide) (by decide) (by decide) ?_
  intro T157 X157 e157
  show OGoes p.tables e below _ (T157.setTop (mkF m 13 #[.val (.ref ep), .val (.long q), .second, .unset] [(.int (-2 : Int32))]))
  refine own_st (V := (T157.setTop (mkF m 14 #[.val (.ref ep), .val (.long q), .second, .val (.int (-2 : Int32))] []))) (fun t ks => XS.istoreN X157.here hx rfl (hb hby d3_13) rfl (l' := #[.val (.ref ep), .val (.long q), .second, .val (.int (-2 : Int32))]) rfl ks) ?_
  refine own_st (V := (T157.setTop (mkF m 15 #[.val (.ref ep), .val (.long q), .second, .val (.int (-2 : Int32))] [(.int (-2 : Int32))]))) (fun t ks => XS.iloadN X157.here hx rfl (hb hby d3_14) rfl ks) ?_
  refine own_st (V := (T157.setTop (mkF m 32 #[.val (.ref ep), .val (.long q), .second, .val (.int (-2 : Int32))] []))) (fun t ks => XS.ifYes X157.here hx rfl (pc0 := 15) (pc' := 32) rfl (hb hby d3_15) rfl (XT.i0_lt_t (by decide)) (by decide) (by decide) ks) ?_
  refine own_st (V := (T157.setTop (mkF m 33 #[.val (.ref ep), .val (.long q), .second, .val (.int (-2 : Int32))] [(.int (-2 : Int32))]))) (fun t ks => XS.iloadN X157.here hx rfl (hb hby d3_32) rfl ks) ?_
  refine own_st (V := (T157.setTop (mkF m 34 #[.val (.ref ep), .val (.long q), .second, .val (.int (-2 : Int32))] [(.int (-(-2 : Int32)))]))) (fun t ks => XS.ineg X157.here hx rfl (hb hby d3_33) rfl ks) ?_
  refine own_st (V := (T157.setTop (mkF m 35 #[.val (.ref ep), .val (.long q), .second, .val (.int (-2 : Int32))] [(.int (1 : Int32)), (.int (-(-2 : Int32)))]))) (fun t ks => XS.iconst X157.here hx rfl (hb hby d3_34) ks) ?_
  refine own_st (V := (T157.setTop (mkF m 36 #[.val (.ref ep), .val (.long q), .second, .val (.int (-2 : Int32))] [(.int ((-(-2 : Int32)) - (1 : Int32)))]))) (fun t ks => XS.isub X157.here hx rfl (hb hby d3_35) rfl ks) ?_
  refine own_cast (g' := (mkF m 36 #[.val (.ref ep), .val (.long q), .second, .val (.int (-2 : Int32))] [(.int (1 : Int32))])) (by rw [show ((-(-2 : Int32)) - (1 : Int32)) = (1 : Int32) from by decide]) ?_
  refine own_st (V := (T157.setTop (mkF m 37 #[.val (.ref ep), .val (.long q), .second, .val (.int (1 : Int32))] []))) (fun t ks => XS.istoreN X157.here hx rfl (hb hby d3_36) rfl (l' := #[.val (.ref ep), .val (.long q), .second, .val (.int (1 : Int32))]) rfl ks) ?_
  refine own_st (V := (T157.setTop (mkF m 38 #[.val (.ref ep), .val (.long q), .second, .val (.int (1 : Int32))] [(.ref ep)]))) (fun t ks => XS.aloadN X157.here hx rfl (hb hby d3_37) rfl rfl ks) ?_
  refine own_getfield X157 hx hZ e157 hown (hw _ (List.mem_of_getElem? (i := 29) rfl)) Via.refl FS (hb hby d3_38) ?_
  intro T158 X158 e158
  show OGoes p.tables e below _ (T158.setTop (mkF m 41 #[.val (.ref ep), .val (.long q), .second, .val (.int (1 : Int32))] [(.int (2 : Int32))]))
  refine own_st (V := (T158.setTop (mkF m 42 #[.val (.ref ep), .val (.long q), .second, .val (.int (1 : Int32))] [(.ref ep), (.int (2 : Int32))]))) (fun t ks => XS.aloadN X158.here hx rfl (hb hby d3_41) rfl rfl ks) ?_
  refine own_getfield X158 hx hZ e158 hown (hw _ (List.mem_of_getElem? (i := 10) rfl)) Via.refl FN (hb hby d3_42) ?_
  intro T159 X159 e159
  show OGoes p.tables e below _ (T159.setTop (mkF m 45 #[.val (.ref ep), .val (.long q), .second, .val (.int (1 : Int32))] [(.ref aN), (.int (2 : Int32))]))
  refine own_alen X159 hx hZ e159 VN (hb hby d3_45) ?_
  show OGoes p.tables e below _ (T159.setTop (mkF m 46 #[.val (.ref ep), .val (.long q), .second, .val (.int (1 : Int32))] [(.int (4 : Int32)), (.int (2 : Int32))]))
  refine own_st (V := (T159.setTop (mkF m 68 #[.val (.ref ep), .val (.long q), .second, .val (.int (1 : Int32))] []))) (fun t ks => XS.icmpYes X159.here hx rfl (pc0 := 46) (pc' := 68) rfl (hb hby d3_46) rfl (XT.ii_ne_t (by decide)) (by decide) (by decide) ks) ?_
  refine own_st (V := (T159.setTop (mkF m 69 #[.val (.ref ep), .val (.long q), .second, .val (.int (1 : Int32))] [(.ref ep)]))) (fun t ks => XS.aloadN X159.here hx rfl (hb hby d3_68) rfl rfl ks) ?_
  refine own_st (V := (T159.setTop (mkF m 70 #[.val (.ref ep), .val (.long q), .second, .val (.int (1 : Int32))] [(.int (1 : Int32)), (.ref ep)]))) (fun t ks => XS.iloadN X159.here hx rfl (hb hby d3_69) rfl ks) ?_
  refine own_st (V := (T159.setTop (mkF m 71 #[.val (.ref ep), .val (.long q), .second, .val (.int (1 : Int32))] [(.int (1 : Int32)), (.int (1 : Int32)), (.ref ep)]))) (fun t ks => XS.iloadN X159.here hx rfl (hb hby d3_70) rfl ks) ?_
  refine own_st (V := (T159.setTop (mkF m 72 #[.val (.ref ep), .val (.long q), .second, .val (.int (1 : Int32))] [(.int (1 : Int32)), (.int (1 : Int32)), (.int (1 : Int32)), (.ref ep)]))) (fun t ks => XS.iconst X159.here hx rfl (hb hby d3_71) ks) ?_
  refine own_st (V := (T159.setTop (mkF m 73 #[.val (.ref ep), .val (.long q), .second, .val (.int (1 : Int32))] [(.int ((1 : Int32) + (1 : Int32))), (.int (1 : Int32)), (.ref ep)]))) (fun t ks => XS.iadd X159.here hx rfl (hb hby d3_72) rfl ks) ?_
  refine own_st (V := (T159.setTop (mkF m 74 #[.val (.ref ep), .val (.long q), .second, .val (.int (1 : Int32))] [(.ref ep), (.int ((1 : Int32) + (1 : Int32))), (.int (1 : Int32)), (.ref ep)]))) (fun t ks => XS.aloadN X159.here hx rfl (hb hby d3_73) rfl rfl ks) ?_
  refine own_getfield X159 hx hZ e159 hown (hw _ (List.mem_of_getElem? (i := 29) rfl)) Via.refl FS (hb hby d3_74) ?_
  intro T160 X160 e160
  show OGoes p.tables e below _ (T160.setTop (mkF m 77 #[.val (.ref ep), .val (.long q), .second, .val (.int (1 : Int32))] [(.int (2 : Int32)), (.int ((1 : Int32) + (1 : Int32))), (.int (1 : Int32)), (.ref ep)]))
  refine own_st (V := (T160.setTop (mkF m 78 #[.val (.ref ep), .val (.long q), .second, .val (.int (1 : Int32))] [(.int (1 : Int32)), (.int (2 : Int32)), (.int ((1 : Int32) + (1 : Int32))), (.int (1 : Int32)), (.ref ep)]))) (fun t ks => XS.iloadN X160.here hx rfl (hb hby d3_77) rfl ks) ?_
  refine own_st (V := (T160.setTop (mkF m 79 #[.val (.ref ep), .val (.long q), .second, .val (.int (1 : Int32))] [(.int ((2 : Int32) - (1 : Int32))), (.int ((1 : Int32) + (1 : Int32))), (.int (1 : Int32)), (.ref ep)]))) (fun t ks => XS.isub X160.here hx rfl (hb hby d3_78) rfl ks) ?_
  refine own_cast (g' := (mkF m 79 #[.val (.ref ep), .val (.long q), .second, .val (.int (1 : Int32))] [(.int ((2 : Int32) - (1 : Int32))), (.int (2 : Int32)), (.int (1 : Int32)), (.ref ep)])) (by rw [show ((1 : Int32) + (1 : Int32)) = (2 : Int32) from by decide]) ?_
  refine own_cast (g' := (mkF m 79 #[.val (.ref ep), .val (.long q), .second, .val (.int (1 : Int32))] [(.int (1 : Int32)), (.int (2 : Int32)), (.int (1 : Int32)), (.ref ep)])) (by rw [show ((2 : Int32) - (1 : Int32)) = (1 : Int32) from by decide]) ?_
  refine own_callP X160 hx hZ hown (hw _ (List.mem_of_getElem? (i := 65) rfl)) (hw _ (List.mem_of_getElem? (i := 67) rfl)) (hw _ (List.mem_of_getElem? (i := 1) rfl)) (hw _ (List.mem_of_getElem? (i := 66) rfl)) (hw _ (List.mem_of_getElem? (i := 2) rfl)) (hw _ (List.mem_of_getElem? (i := 68) rfl)) (by decide) (rmSh l Z a0 hw ep 1 2 1 2 [.long x0, .long x1, .long 0, .long 0] [.long x0, .long x1, .long x1, .long 0] rfl rfl rfl rfl (by decide) (by decide) (by decide) (by decide) (by decide) h0 ⟨aN, aG, aW, aC, aD, aF, _, _, _, _, _, _, ⟨by omega, by omega, by omega, by omega, by omega, by omega, by omega⟩, E, FN, FG, FW, FC, FD, FF, FS, VN, VG, VW, VC, VD, VF⟩) e160 E (by rw [hml]; rfl) (argsL := [(.int (1 : Int32)), (.int (2 : Int32)), (.int (1 : Int32))]) (rest := []) pd_1 rfl rfl rfl (W := 0) (Nat.le_of_eq rfl) (hb hby d3_79) (by decide) (by decide) (by decide) (by decide) ?_
  rintro v161 T161 L161 X161 ⟨rfl, N161, H161⟩
  replace N161 := Fr.app (Fr.nil Z.heap.size) N161
  show OGoes p.tables e below _ (T161.setTop (mkF m 82 #[.val (.ref ep), .val (.long q), .second, .val (.int (1 : Int32))] []))
  obtain ⟨aN, aG, aW, aC, aD, aF, kN, kG, kW, kC, kD, kF, ⟨o0, o1, o2, o3, o4, o5, o6⟩, E, FN, FG, FW, FC, FD, FF, FS, VN, VG, VW, VC, VD, VF⟩ := H161
  refine own_st (V := (T161.setTop (mkF m 83 #[.val (.ref ep), .val (.long q), .second, .val (.int (1 : Int32))] [(.ref ep)]))) (fun t ks => XS.aloadN X161.here hx rfl (hb hby d3_82) rfl rfl ks) ?_
  refine own_getfield X161 hx hZ rfl hown (hw _ (List.mem_of_getElem? (i := 10) rfl)) Via.refl FN (hb hby d3_83) ?_
  intro T162 X162 e162
  show OGoes p.tables e below _ (T162.setTop (mkF m 86 #[.val (.ref ep), .val (.long q), .second, .val (.int (1 : Int32))] [(.ref aN)]))
  refine own_st (V := (T162.setTop (mkF m 87 #[.val (.ref ep), .val (.long q), .second, .val (.int (1 : Int32))] [(.int (1 : Int32)), (.ref aN)]))) (fun t ks => XS.iloadN X162.here hx rfl (hb hby d3_86) rfl ks) ?_
  refine own_st (V := (T162.setTop (mkF m 88 #[.val (.ref ep), .val (.long q), .second, .val (.int (1 : Int32))] [(.long q), (.int (1 : Int32)), (.ref aN)]))) (fun t ks => XS.lloadN X162.here hx rfl (hb hby d3_87) rfl ks) ?_
  refine own_lastore X162 hx hZ e162 VN (by decide) (by decide) rfl (Nat.le_of_ble_eq_true rfl) N161 (by omega) (hb hby d3_88) ?_
  intro T163 h163 L163 X163 e163 N163 W163 An163
  replace E := E.wr W163
  replace FN := FN.other W163 (Or.inl (own_ne (by omega)))
  replace FG := FG.other W163 (Or.inl (own_ne (by omega)))
  replace VG := VG.other W163 (own_ne (by omega))
  replace FW := FW.other W163 (Or.inl (own_ne (by omega)))
  replace VW := VW.other W163 (own_ne (by omega))
  replace FC := FC.other W163 (Or.inl (own_ne (by omega)))
  replace VC := VC.other W163 (own_ne (by omega))
  replace FD := FD.other W163 (Or.inl (own_ne (by omega)))
  replace VD := VD.other W163 (own_ne (by omega))
  replace FF := FF.other W163 (Or.inl (own_ne (by omega)))
  replace VF := VF.other W163 (own_ne (by omega))
  replace FS := FS.other W163 (Or.inl (own_ne (by omega)))
  replace VN := An163
  show OGoes p.tables e below _ (T163.setTop (mkF m 89 #[.val (.ref ep), .val (.long q), .second, .val (.int (1 : Int32))] []))
  refine own_st (V := (T163.setTop (mkF m 90 #[.val (.ref ep), .val (.long q), .second, .val (.int (1 : Int32))] [(.ref ep)]))) (fun t ks => XS.aloadN X163.here hx rfl (hb hby d3_89) rfl rfl ks) ?_
  refine own_getfield X163 hx hZ e163 hown (hw _ (List.mem_of_getElem? (i := 13) rfl)) Via.refl FG (hb hby d3_90) ?_
  intro T164 X164 e164
  show OGoes p.tables e below _ (T164.setTop (mkF m 93 #[.val (.ref ep), .val (.long q), .second, .val (.int (1 : Int32))] [(.ref aG)]))
  refine own_st (V := (T164.setTop (mkF m 94 #[.val (.ref ep), .val (.long q), .second, .val (.int (1 : Int32))] [(.int (1 : Int32)), (.ref aG)]))) (fun t ks => XS.iloadN X164.here hx rfl (hb hby d3_93) rfl ks) ?_
  refine own_st (V := (T164.setTop (mkF m 95 #[.val (.ref ep), .val (.long q), .second, .val (.int (1 : Int32))] [(.int (0 : Int32)), (.int (1 : Int32)), (.ref aG)]))) (fun t ks => XS.iconst X164.here hx rfl (hb hby d3_94) ks) ?_
  refine own_iastore X164 hx hZ e164 VG (by decide) (by decide) rfl (Nat.le_of_ble_eq_true rfl) N163 (by omega) (hb hby d3_95) ?_
  intro T165 h165 L165 X165 e165 N165 W165 An165
  replace E := E.wr W165
  replace FN := FN.other W165 (Or.inl (own_ne (by omega)))
  replace VN := VN.other W165 (own_ne (by omega))
  replace FG := FG.other W165 (Or.inl (own_ne (by omega)))
  replace FW := FW.other W165 (Or.inl (own_ne (by omega)))
  replace VW := VW.other W165 (own_ne (by omega))
  replace FC := FC.other W165 (Or.inl (own_ne (by omega)))
  replace VC := VC.other W165 (own_ne (by omega))
  replace FD := FD.other W165 (Or.inl (own_ne (by omega)))
  replace VD := VD.other W165 (own_ne (by omega))
  replace FF := FF.other W165 (Or.inl (own_ne (by omega)))
  replace VF := VF.other W165 (own_ne (by omega))
  replace FS := FS.other W165 (Or.inl (own_ne (by omega)))
  replace VG := An165
  show OGoes p.tables e below _ (T165.setTop (mkF m 96 #[.val (.ref ep), .val (.long q), .second, .val (.int (1 : Int32))] []))
  refine own_st (V := (T165.setTop (mkF m 97 #[.val (.ref ep), .val (.long q), .second, .val (.int (1 : Int32))] [(.ref ep)]))) (fun t ks => XS.aloadN X165.here hx rfl (hb hby d3_96) rfl rfl ks) ?_
  refine own_getfield X165 hx hZ e165 hown (hw _ (List.mem_of_getElem? (i := 15) rfl)) Via.refl FW (hb hby d3_97) ?_
  intro T166 X166 e166
  show OGoes p.tables e below _ (T166.setTop (mkF m 100 #[.val (.ref ep), .val (.long q), .second, .val (.int (1 : Int32))] [(.ref aW)]))
  refine own_st (V := (T166.setTop (mkF m 101 #[.val (.ref ep), .val (.long q), .second, .val (.int (1 : Int32))] [(.int (1 : Int32)), (.ref aW)]))) (fun t ks => XS.iloadN X166.here hx rfl (hb hby d3_100) rfl ks) ?_
  refine own_st (V := (T166.setTop (mkF m 102 #[.val (.ref ep), .val (.long q), .second, .val (.int (1 : Int32))] [(.long (0 : Int64)), (.int (1 : Int32)), (.ref aW)]))) (fun t ks => XS.lconst X166.here hx rfl (hb hby d3_101) ks) ?_
  refine own_lastore X166 hx hZ e166 VW (by decide) (by decide) rfl (Nat.le_of_ble_eq_true rfl) N165 (by omega) (hb hby d3_102) ?_
  intro T167 h167 L167 X167 e167 N167 W167 An167
  replace E := E.wr W167
  replace FN := FN.other W167 (Or.inl (own_ne (by omega)))
  replace VN := VN.other W167 (own_ne (by omega))
  replace FG := FG.other W167 (Or.inl (own_ne (by omega)))
  replace VG := VG.other W167 (own_ne (by omega))
  replace FW := FW.other W167 (Or.inl (own_ne (by omega)))
  replace FC := FC.other W167 (Or.inl (own_ne (by omega)))
  replace VC := VC.other W167 (own_ne (by omega))
  replace FD := FD.other W167 (Or.inl (own_ne (by omega)))
  replace VD := VD.other W167 (own_ne (by omega))
  replace FF := FF.other W167 (Or.inl (own_ne (by omega)))
  replace VF := VF.other W167 (own_ne (by omega))
  replace FS := FS.other W167 (Or.inl (own_ne (by omega)))
  replace VW := An167
  show OGoes p.tables e below _ (T167.setTop (mkF m 103 #[.val (.ref ep), .val (.long q), .second, .val (.int (1 : Int32))] []))
  refine own_st (V := (T167.setTop (mkF m 104 #[.val (.ref ep), .val (.long q), .second, .val (.int (1 : Int32))] [(.ref ep)]))) (fun t ks => XS.aloadN X167.here hx rfl (hb hby d3_103) rfl rfl ks) ?_
  refine own_getfield X167 hx hZ e167 hown (hw _ (List.mem_of_getElem? (i := 17) rfl)) Via.refl FC (hb hby d3_104) ?_
  intro T168 X168 e168
  show OGoes p.tables e below _ (T168.setTop (mkF m 107 #[.val (.ref ep), .val (.long q), .second, .val (.int (1 : Int32))] [(.ref aC)]))
  refine own_st (V := (T168.setTop (mkF m 108 #[.val (.ref ep), .val (.long q), .second, .val (.int (1 : Int32))] [(.int (1 : Int32)), (.ref aC)]))) (fun t ks => XS.iloadN X168.here hx rfl (hb hby d3_107) rfl ks) ?_
  refine own_st (V := (T168.setTop (mkF m 109 #[.val (.ref ep), .val (.long q), .second, .val (.int (1 : Int32))] [(.int (0 : Int32)), (.int (1 : Int32)), (.ref aC)]))) (fun t ks => XS.iconst X168.here hx rfl (hb hby d3_108) ks) ?_
  refine own_iastore X168 hx hZ e168 VC (by decide) (by decide) rfl (Nat.le_of_ble_eq_true rfl) N167 (by omega) (hb hby d3_109) ?_
  intro T169 h169 L169 X169 e169 N169 W169 An169
  replace E := E.wr W169
  replace FN := FN.other W169 (Or.inl (own_ne (by omega)))
  replace VN := VN.other W169 (own_ne (by omega))
  replace FG := FG.other W169 (Or.inl (own_ne (by omega)))
  replace VG := VG.other W169 (own_ne (by omega))
  replace FW := FW.other W169 (Or.inl (own_ne (by omega)))
  replace VW := VW.other W169 (own_ne (by omega))
  replace FC := FC.other W169 (Or.inl (own_ne (by omega)))
  replace FD := FD.other W169 (Or.inl (own_ne (by omega)))
  replace VD := VD.other W169 (own_ne (by omega))
  replace FF := FF.other W169 (Or.inl (own_ne (by omega)))
  replace VF := VF.other W169 (own_ne (by omega))
  replace FS := FS.other W169 (Or.inl (own_ne (by omega)))
  replace VC := An169
  show OGoes p.tables e below _ (T169.setTop (mkF m 110 #[.val (.ref ep), .val (.long q), .second, .val (.int (1 : Int32))] []))
  refine own_st (V := (T169.setTop (mkF m 111 #[.val (.ref ep), .val (.long q), .second, .val (.int (1 : Int32))] [(.ref ep)]))) (fun t ks => XS.aloadN X169.here hx rfl (hb hby d3_110) rfl rfl ks) ?_
  refine own_getfield X169 hx hZ e169 hown (hw _ (List.mem_of_getElem? (i := 19) rfl)) Via.refl FD (hb hby d3_111) ?_
  intro T170 X170 e170
  show OGoes p.tables e below _ (T170.setTop (mkF m 114 #[.val (.ref ep), .val (.long q), .second, .val (.int (1 : Int32))] [(.ref aD)]))
  refine own_st (V := (T170.setTop (mkF m 115 #[.val (.ref ep), .val (.long q), .second, .val (.int (1 : Int32))] [(.int (1 : Int32)), (.ref aD)]))) (fun t ks => XS.iloadN X170.here hx rfl (hb hby d3_114) rfl ks) ?_
  refine own_st (V := (T170.setTop (mkF m 116 #[.val (.ref ep), .val (.long q), .second, .val (.int (1 : Int32))] [(.long (0 : Int64)), (.int (1 : Int32)), (.ref aD)]))) (fun t ks => XS.lconst X170.here hx rfl (hb hby d3_115) ks) ?_
  refine own_lastore X170 hx hZ e170 VD (by decide) (by decide) rfl (Nat.le_of_ble_eq_true rfl) N169 (by omega) (hb hby d3_116) ?_
  intro T171 h171 L171 X171 e171 N171 W171 An171
  replace E := E.wr W171
  replace FN := FN.other W171 (Or.inl (own_ne (by omega)))
  replace VN := VN.other W171 (own_ne (by omega))
  replace FG := FG.other W171 (Or.inl (own_ne (by omega)))
  replace VG := VG.other W171 (own_ne (by omega))
  replace FW := FW.other W171 (Or.inl (own_ne (by omega)))
  replace VW := VW.other W171 (own_ne (by omega))
  replace FC := FC.other W171 (Or.inl (own_ne (by omega)))
  replace VC := VC.other W171 (own_ne (by omega))
  replace FD := FD.other W171 (Or.inl (own_ne (by omega)))
  replace FF := FF.other W171 (Or.inl (own_ne (by omega)))
  replace VF := VF.other W171 (own_ne (by omega))
  replace FS := FS.other W171 (Or.inl (own_ne (by omega)))
  replace VD := An171
  show OGoes p.tables e below _ (T171.setTop (mkF m 117 #[.val (.ref ep), .val (.long q), .second, .val (.int (1 : Int32))] []))
  refine own_st (V := (T171.setTop (mkF m 118 #[.val (.ref ep), .val (.long q), .second, .val (.int (1 : Int32))] [(.ref ep)]))) (fun t ks => XS.aloadN X171.here hx rfl (hb hby d3_117) rfl rfl ks) ?_
  refine own_getfield X171 hx hZ e171 hown (hw _ (List.mem_of_getElem? (i := 22) rfl)) Via.refl FF (hb hby d3_118) ?_
  intro T172 X172 e172
  show OGoes p.tables e below _ (T172.setTop (mkF m 121 #[.val (.ref ep), .val (.long q), .second, .val (.int (1 : Int32))] [(.ref aF)]))
  refine own_st (V := (T172.setTop (mkF m 122 #[.val (.ref ep), .val (.long q), .second, .val (.int (1 : Int32))] [(.int (1 : Int32)), (.ref aF)]))) (fun t ks => XS.iloadN X172.here hx rfl (hb hby d3_121) rfl ks) ?_
  refine own_st (V := (T172.setTop (mkF m 123 #[.val (.ref ep), .val (.long q), .second, .val (.int (1 : Int32))] [(.int (0 : Int32)), (.int (1 : Int32)), (.ref aF)]))) (fun t ks => XS.iconst X172.here hx rfl (hb hby d3_122) ks) ?_
  refine own_bastore X172 hx hZ e172 VF (by decide) (by decide) rfl (Nat.le_of_ble_eq_true rfl) N171 (by omega) (hb hby d3_123) ?_
  intro T173 h173 L173 X173 e173 N173 W173 An173
  replace E := E.wr W173
  replace FN := FN.other W173 (Or.inl (own_ne (by omega)))
  replace VN := VN.other W173 (own_ne (by omega))
  replace FG := FG.other W173 (Or.inl (own_ne (by omega)))
  replace VG := VG.other W173 (own_ne (by omega))
  replace FW := FW.other W173 (Or.inl (own_ne (by omega)))
  replace VW := VW.other W173 (own_ne (by omega))
  replace FC := FC.other W173 (Or.inl (own_ne (by omega)))
  replace VC := VC.other W173 (own_ne (by omega))
  replace FD := FD.other W173 (Or.inl (own_ne (by omega)))
  replace VD := VD.other W173 (own_ne (by omega))
  replace FF := FF.other W173 (Or.inl (own_ne (by omega)))
  replace FS := FS.other W173 (Or.inl (own_ne (by omega)))
  replace VF := An173
  show OGoes p.tables e below _ (T173.setTop (mkF m 124 #[.val (.ref ep), .val (.long q), .second, .val (.int (1 : Int32))] []))
  refine own_st (V := (T173.setTop (mkF m 125 #[.val (.ref ep), .val (.long q), .second, .val (.int (1 : Int32))] [(.ref ep)]))) (fun t ks => XS.aloadN X173.here hx rfl (hb hby d3_124) rfl rfl ks) ?_
  refine own_st (V := (T173.setTop (mkF m 126 #[.val (.ref ep), .val (.long q), .second, .val (.int (1 : Int32))] [(.ref ep), (.ref ep)]))) (fun t ks => XS.dup X173.here hx rfl (hb hby d3_125) rfl rfl ks) ?_
  refine own_getfield X173 hx hZ e173 hown (hw _ (List.mem_of_getElem? (i := 29) rfl)) Via.refl FS (hb hby d3_126) ?_
  intro T174 X174 e174
  show OGoes p.tables e below _ (T174.setTop (mkF m 129 #[.val (.ref ep), .val (.long q), .second, .val (.int (1 : Int32))] [(.int (2 : Int32)), (.ref ep)]))
  refine own_st (V := (T174.setTop (mkF m 130 #[.val (.ref ep), .val (.long q), .second, .val (.int (1 : Int32))] [(.int (1 : Int32)), (.int (2 : Int32)), (.ref ep)]))) (fun t ks => XS.iconst X174.here hx rfl (hb hby d3_129) ks) ?_
  refine own_st (V := (T174.setTop (mkF m 131 #[.val (.ref ep), .val (.long q), .second, .val (.int (1 : Int32))] [(.int ((2 : Int32) + (1 : Int32))), (.ref ep)]))) (fun t ks => XS.iadd X174.here hx rfl (hb hby d3_130) rfl ks) ?_
  refine own_cast (g' := (mkF m 131 #[.val (.ref ep), .val (.long q), .second, .val (.int (1 : Int32))] [(.int (3 : Int32)), (.ref ep)])) (by rw [show ((2 : Int32) + (1 : Int32)) = (3 : Int32) from by decide]) ?_
  refine own_putfield X174 hx hZ e174 hown (hw _ (List.mem_of_getElem? (i := 29) rfl)) FS E (Or.inl (hw _ (List.mem_of_getElem? (i := 30) rfl))) (hw _ (List.mem_of_getElem? (i := 1) rfl)) (ty := .int) (by decide) rfl rfl N173 (by omega) (hb hby d3_131) ?_
  intro T175 h175 L175 X175 e175 N175 W175 Fn175
  replace E := E.wr W175
  replace FN := FN.other W175 (Or.inr (slot_ne (Or.inl (hw _ (List.mem_of_getElem? (i := 11) rfl))) (Or.inl (hw _ (List.mem_of_getElem? (i := 30) rfl))) (by decide) (t := (.array .long)) (by decide) (t' := .int) (by decide)))
  replace VN := VN.other W175 (own_ne (by omega))
  replace FG := FG.other W175 (Or.inr (slot_ne (Or.inl (hw _ (List.mem_of_getElem? (i := 14) rfl))) (Or.inl (hw _ (List.mem_of_getElem? (i := 30) rfl))) (by decide) (t := (.array .int)) (by decide) (t' := .int) (by decide)))
  replace VG := VG.other W175 (own_ne (by omega))
  replace FW := FW.other W175 (Or.inr (slot_ne (Or.inl (hw _ (List.mem_of_getElem? (i := 16) rfl))) (Or.inl (hw _ (List.mem_of_getElem? (i := 30) rfl))) (by decide) (t := (.array .long)) (by decide) (t' := .int) (by decide)))
  replace VW := VW.other W175 (own_ne (by omega))
  replace FC := FC.other W175 (Or.inr (slot_ne (Or.inl (hw _ (List.mem_of_getElem? (i := 18) rfl))) (Or.inl (hw _ (List.mem_of_getElem? (i := 30) rfl))) (by decide) (t := (.array .int)) (by decide) (t' := .int) (by decide)))
  replace VC := VC.other W175 (own_ne (by omega))
  replace FD := FD.other W175 (Or.inr (slot_ne (Or.inl (hw _ (List.mem_of_getElem? (i := 20) rfl))) (Or.inl (hw _ (List.mem_of_getElem? (i := 30) rfl))) (by decide) (t := (.array .long)) (by decide) (t' := .int) (by decide)))
  replace VD := VD.other W175 (own_ne (by omega))
  replace FF := FF.other W175 (Or.inr (slot_ne (Or.inl (hw _ (List.mem_of_getElem? (i := 23) rfl))) (Or.inl (hw _ (List.mem_of_getElem? (i := 30) rfl))) (by decide) (t := (.array .byte)) (by decide) (t' := .int) (by decide)))
  replace VF := VF.other W175 (own_ne (by omega))
  replace FS := Fn175
  show OGoes p.tables e below _ (T175.setTop (mkF m 134 #[.val (.ref ep), .val (.long q), .second, .val (.int (1 : Int32))] []))
  refine own_st (V := (T175.setTop (mkF m 135 #[.val (.ref ep), .val (.long q), .second, .val (.int (1 : Int32))] [(.int (1 : Int32))]))) (fun t ks => XS.iloadN X175.here hx rfl (hb hby d3_134) rfl ks) ?_
  exact own_retI X175 hx hlk hret (hb hby d3_135) (by decide) (by decide) ⟨rfl, N175, by rw [e175]; exact ⟨aN, aG, aW, aC, aD, aF, _, _, _, _, _, _, ⟨by omega, by omega, by omega, by omega, by omega, by omega, by omega⟩, E, FN, FG, FW, FC, FD, FF, FS, VN, VG, VW, VC, VD, VF⟩⟩
theorem ef_rmAd22 (m : MethodId) (x0 : Nat) (x1 : Int64) : entryFrame m #[(.ref x0), (.long x1)] 4 = mkF m 0 #[.val (.ref x0), .val (.long x1), .second, .unset] [] := by first | (simp [entryFrame, mkF, argsToLocals, Value.category]; done) | rfl
set_option maxRecDepth 65536 in
set_option maxHeartbeats 40000000 in
theorem rmAd22 (l : Launch) (Z : State) (a0 : Array Value) (hw : ∀ d ∈ tables_1, d.before a0 Z = true) (ep : Nat) (q x0 x1 : Int64) (c0 : x0 < q) (c1 : x1 < q) (h0 : Heap) (hZ0 : Z.heap.size ≤ h0.size) (H : own_EP Z h0 ep 4 (own_pad [x0, x1]) [.int 0, .int 0, .int 0, .int 0] [.long 0, .long 0, .long 0, .long 0] [.int 0, .int 0, .int 0, .int 0] [.long 0, .long 0, .long 0, .long 0] [.int 0, .int 0, .int 0, .int 0] 2) :
    OMet l Z (⟨"com/example/killifish/killifish/store/Epochs", "add", "(J)I"⟩ : MethodName) prog_13_method_7_code 4 (some .int) ⟨3, 0, 0, 80⟩ #[(.ref ep), (.long q)] h0 (fun v h L => v = some (.int 2) ∧ Fr Z.heap.size L ∧ own_EP Z h ep 4 (own_pad [x0, x1, q]) [.int 0, .int 0, .int 0, .int 0] [.long 0, .long 0, .long 0, .long 0] [.int 0, .int 0, .int 0, .int 0] [.long 0, .long 0, .long 0, .long 0] [.int 0, .int 0, .int 0, .int 0] 3) := by
  refine own_body pf_3 ?_
  intro p e s m below meth c T0 X0 hx hby hml hZ hown hnm hret hlk e0
  replace hown : s.vm.findClass "com/example/killifish/killifish/store/Epochs" = some m.cls := hown
  refine own_cast (ef_rmAd22 m (ep) (q)) ?_
  show OGoes p.tables e below _ (T0.setTop (mkF m 0 #[.val (.ref ep), .val (.long q), .second, .unset] []))
  have d0 : ¬ q < x0 := fun z => by rw [Int64.lt_iff_toInt_lt] at *; omega
  have d1 : ¬ q < x1 := fun z => by rw [Int64.lt_iff_toInt_lt] at *; omega
  obtain ⟨aN, aG, aW, aC, aD, aF, kN, kG, kW, kC, kD, kF, ⟨o0, o1, o2, o3, o4, o5, o6⟩, E, FN, FG, FW, FC, FD, FF, FS, VN, VG, VW, VC, VD, VF⟩ := H
  refine own_st (V := (T0.setTop (mkF m 1 #[.val (.ref ep), .val (.long q), .second, .unset] [(.ref ep)]))) (fun t ks => XS.aloadN X0.here hx rfl (hb hby d3_0) rfl rfl ks) ?_
  refine own_getfield X0 hx hZ e0 hown (hw _ (List.mem_of_getElem? (i := 10) rfl)) Via.refl FN (hb hby d3_1) ?_
  intro T176 X176 e176
  show OGoes p.tables e below _ (T176.setTop (mkF m 4 #[.val (.ref ep), .val (.long q), .second, .unset] [(.ref aN)]))
  refine own_st (V := (T176.setTop (mkF m 5 #[.val (.ref ep), .val (.long q), .second, .unset] [(.int (0 : Int32)), (.ref aN)]))) (fun t ks => XS.iconst X176.here hx rfl (hb hby d3_4) ks) ?_
  refine own_st (V := (T176.setTop (mkF m 6 #[.val (.ref ep), .val (.long q), .second, .unset] [(.ref ep), (.int (0 : Int32)), (.ref aN)]))) (fun t ks => XS.aloadN X176.here hx rfl (hb hby d3_5) rfl rfl ks) ?_
  refine own_getfield X176 hx hZ e176 hown (hw _ (List.mem_of_getElem? (i := 29) rfl)) Via.refl FS (hb hby d3_6) ?_
  intro T177 X177 e177
  show OGoes p.tables e below _ (T177.setTop (mkF m 9 #[.val (.ref ep), .val (.long q), .second, .unset] [(.int (2 : Int32)), (.int (0 : Int32)), (.ref aN)]))
  refine own_st (V := (T177.setTop (mkF m 10 #[.val (.ref ep), .val (.long q), .second, .unset] [(.long q), (.int (2 : Int32)), (.int (0 : Int32)), (.ref aN)]))) (fun t ks => XS.lloadN X177.here hx rfl (hb hby d3_9) rfl ks) ?_
  refine own_callS0 X177 hx hZ hown (hw _ (List.mem_of_getElem? (i := 31) rfl)) (hw _ (List.mem_of_getElem? (i := 32) rfl)) (hw _ (List.mem_of_getElem? (i := 33) rfl)) (hw _ (List.mem_of_getElem? (i := 34) rfl)) (by decide) (rmBS2 l Z a0 hw aN kN q x0 x1 (-3) (by simp [own_bs, c0, d0, c1, d1]) h0 VN) e177 (by rw [hml]; rfl) (argsL := [(.ref aN), (.int (0 : Int32)), (.int (2 : Int32)), (.long q)]) (rest := []) pd_2 rfl rfl rfl (W := 0) (Nat.le_of_eq rfl) (hb hby d3_10) (by decide) (by decide) (by decide) (by decide) ?_
  intro T178 X178 e178
  show OGoes p.tables e below _ (T178.setTop (mkF m 13 #[.val (.ref ep), .val (.long q), .second, .unset] [(.int (-3 : Int32))]))
  refine own_st (V := (T178.setTop (mkF m 14 #[.val (.ref ep), .val (.long q), .second, .val (.int (-3 : Int32))] []))) (fun t ks => XS.istoreN X178.here hx rfl (hb hby d3_13) rfl (l' := #[.val (.ref ep), .val (.long q), .second, .val (.int (-3 : Int32))]) rfl ks) ?_
  refine own_st (V := (T178.setTop (mkF m 15 #[.val (.ref ep), .val (.long q), .second, .val (.int (-3 : Int32))] [(.int (-3 : Int32))]))) (fun t ks => XS.iloadN X178.here hx rfl (hb hby d3_14) rfl ks) ?_
  refine own_st (V := (T178.setTop (mkF m 32 #[.val (.ref ep), .val (.long q), .second, .val (.int (-3 : Int32))] []))) (fun t ks => XS.ifYes X178.here hx rfl (pc0 := 15) (pc' := 32) rfl (hb hby d3_15) rfl (XT.i0_lt_t (by decide)) (by decide) (by decide) ks) ?_
  refine own_st (V := (T178.setTop (mkF m 33 #[.val (.ref ep), .val (.long q), .second, .val (.int (-3 : Int32))] [(.int (-3 : Int32))]))) (fun t ks => XS.iloadN X178.here hx rfl (hb hby d3_32) rfl ks) ?_
  refine own_st (V := (T178.setTop (mkF m 34 #[.val (.ref ep), .val (.long q), .second, .val (.int (-3 : Int32))] [(.int (-(-3 : Int32)))]))) (fun t ks => XS.ineg X178.here hx rfl (hb hby d3_33) rfl ks) ?_
  refine own_st (V := (T178.setTop (mkF m 35 #[.val (.ref ep), .val (.long q), .second, .val (.int (-3 : Int32))] [(.int (1 : Int32)), (.int (-(-3 : Int32)))]))) (fun t ks => XS.iconst X178.here hx rfl (hb hby d3_34) ks) ?_
  refine own_st (V := (T178.setTop (mkF m 36 #[.val (.ref ep), .val (.long q), .second, .val (.int (-3 : Int32))] [(.int ((-(-3 : Int32)) - (1 : Int32)))]))) (fun t ks => XS.isub X178.here hx rfl (hb hby d3_35) rfl ks) ?_
  refine own_cast (g' := (mkF m 36 #[.val (.ref ep), .val (.long q), .second, .val (.int (-3 : Int32))] [(.int (2 : Int32))])) (by rw [show ((-(-3 : Int32)) - (1 : Int32)) = (2 : Int32) from by decide]) ?_
  refine own_st (V := (T178.setTop (mkF m 37 #[.val (.ref ep), .val (.long q), .second, .val (.int (2 : Int32))] []))) (fun t ks => XS.istoreN X178.here hx rfl (hb hby d3_36) rfl (l' := #[.val (.ref ep), .val (.long q), .second, .val (.int (2 : Int32))]) rfl ks) ?_
  refine own_st (V := (T178.setTop (mkF m 38 #[.val (.ref ep), .val (.long q), .second, .val (.int (2 : Int32))] [(.ref ep)]))) (fun t ks => XS.aloadN X178.here hx rfl (hb hby d3_37) rfl rfl ks) ?_
  refine own_getfield X178 hx hZ e178 hown (hw _ (List.mem_of_getElem? (i := 29) rfl)) Via.refl FS (hb hby d3_38) ?_
  intro T179 X179 e179
  show OGoes p.tables e below _ (T179.setTop (mkF m 41 #[.val (.ref ep), .val (.long q), .second, .val (.int (2 : Int32))] [(.int (2 : Int32))]))
  refine own_st (V := (T179.setTop (mkF m 42 #[.val (.ref ep), .val (.long q), .second, .val (.int (2 : Int32))] [(.ref ep), (.int (2 : Int32))]))) (fun t ks => XS.aloadN X179.here hx rfl (hb hby d3_41) rfl rfl ks) ?_
  refine own_getfield X179 hx hZ e179 hown (hw _ (List.mem_of_getElem? (i := 10) rfl)) Via.refl FN (hb hby d3_42) ?_
  intro T180 X180 e180
  show OGoes p.tables e below _ (T180.setTop (mkF m 45 #[.val (.ref ep), .val (.long q), .second, .val (.int (2 : Int32))] [(.ref aN), (.int (2 : Int32))]))
  refine own_alen X180 hx hZ e180 VN (hb hby d3_45) ?_
  show OGoes p.tables e below _ (T180.setTop (mkF m 46 #[.val (.ref ep), .val (.long q), .second, .val (.int (2 : Int32))] [(.int (4 : Int32)), (.int (2 : Int32))]))
  refine own_st (V := (T180.setTop (mkF m 68 #[.val (.ref ep), .val (.long q), .second, .val (.int (2 : Int32))] []))) (fun t ks => XS.icmpYes X180.here hx rfl (pc0 := 46) (pc' := 68) rfl (hb hby d3_46) rfl (XT.ii_ne_t (by decide)) (by decide) (by decide) ks) ?_
  refine own_st (V := (T180.setTop (mkF m 69 #[.val (.ref ep), .val (.long q), .second, .val (.int (2 : Int32))] [(.ref ep)]))) (fun t ks => XS.aloadN X180.here hx rfl (hb hby d3_68) rfl rfl ks) ?_
  refine own_st (V := (T180.setTop (mkF m 70 #[.val (.ref ep), .val (.long q), .second, .val (.int (2 : Int32))] [(.int (2 : Int32)), (.ref ep)]))) (fun t ks => XS.iloadN X180.here hx rfl (hb hby d3_69) rfl ks) ?_
  refine own_st (V := (T180.setTop (mkF m 71 #[.val (.ref ep), .val (.long q), .second, .val (.int (2 : Int32))] [(.int (2 : Int32)), (.int (2 : Int32)), (.ref ep)]))) (fun t ks => XS.iloadN X180.here hx rfl (hb hby d3_70) rfl ks) ?_
  refine own_st (V := (T180.setTop (mkF m 72 #[.val (.ref ep), .val (.long q), .second, .val (.int (2 : Int32))] [(.int (1 : Int32)), (.int (2 : Int32)), (.int (2 : Int32)), (.ref ep)]))) (fun t ks => XS.iconst X180.here hx rfl (hb hby d3_71) ks) ?_
  refine own_st (V := (T180.setTop (mkF m 73 #[.val (.ref ep), .val (.long q), .second, .val (.int (2 : Int32))] [(.int ((2 : Int32) + (1 : Int32))), (.int (2 : Int32)), (.ref ep)]))) (fun t ks => XS.iadd X180.here hx rfl (hb hby d3_72) rfl ks) ?_
  refine own_st (V := (T180.setTop (mkF m 74 #[.val (.ref ep), .val (.long q), .second, .val (.int (2 : Int32))] [(.ref ep), (.int ((2 : Int32) + (1 : Int32))), (.int (2 : Int32)), (.ref ep)]))) (fun t ks => XS.aloadN X180.here hx rfl (hb hby d3_73) rfl rfl ks) ?_
  refine own_getfield X180 hx hZ e180 hown (hw _ (List.mem_of_getElem? (i := 29) rfl)) Via.refl FS (hb hby d3_74) ?_
  intro T181 X181 e181
  show OGoes p.tables e below _ (T181.setTop (mkF m 77 #[.val (.ref ep), .val (.long q), .second, .val (.int (2 : Int32))] [(.int (2 : Int32)), (.int ((2 : Int32) + (1 : Int32))), (.int (2 : Int32)), (.ref ep)]))
  refine own_st (V := (T181.setTop (mkF m 78 #[.val (.ref ep), .val (.long q), .second, .val (.int (2 : Int32))] [(.int (2 : Int32)), (.int (2 : Int32)), (.int ((2 : Int32) + (1 : Int32))), (.int (2 : Int32)), (.ref ep)]))) (fun t ks => XS.iloadN X181.here hx rfl (hb hby d3_77) rfl ks) ?_
  refine own_st (V := (T181.setTop (mkF m 79 #[.val (.ref ep), .val (.long q), .second, .val (.int (2 : Int32))] [(.int ((2 : Int32) - (2 : Int32))), (.int ((2 : Int32) + (1 : Int32))), (.int (2 : Int32)), (.ref ep)]))) (fun t ks => XS.isub X181.here hx rfl (hb hby d3_78) rfl ks) ?_
  refine own_cast (g' := (mkF m 79 #[.val (.ref ep), .val (.long q), .second, .val (.int (2 : Int32))] [(.int ((2 : Int32) - (2 : Int32))), (.int (3 : Int32)), (.int (2 : Int32)), (.ref ep)])) (by rw [show ((2 : Int32) + (1 : Int32)) = (3 : Int32) from by decide]) ?_
  refine own_cast (g' := (mkF m 79 #[.val (.ref ep), .val (.long q), .second, .val (.int (2 : Int32))] [(.int (0 : Int32)), (.int (3 : Int32)), (.int (2 : Int32)), (.ref ep)])) (by rw [show ((2 : Int32) - (2 : Int32)) = (0 : Int32) from by decide]) ?_
  refine own_callP X181 hx hZ hown (hw _ (List.mem_of_getElem? (i := 65) rfl)) (hw _ (List.mem_of_getElem? (i := 67) rfl)) (hw _ (List.mem_of_getElem? (i := 1) rfl)) (hw _ (List.mem_of_getElem? (i := 66) rfl)) (hw _ (List.mem_of_getElem? (i := 2) rfl)) (hw _ (List.mem_of_getElem? (i := 68) rfl)) (by decide) (rmSh l Z a0 hw ep 2 3 0 2 [.long x0, .long x1, .long 0, .long 0] [.long x0, .long x1, .long 0, .long 0] rfl rfl rfl rfl (by decide) (by decide) (by decide) (by decide) (by decide) h0 ⟨aN, aG, aW, aC, aD, aF, _, _, _, _, _, _, ⟨by omega, by omega, by omega, by omega, by omega, by omega, by omega⟩, E, FN, FG, FW, FC, FD, FF, FS, VN, VG, VW, VC, VD, VF⟩) e181 E (by rw [hml]; rfl) (argsL := [(.int (2 : Int32)), (.int (3 : Int32)), (.int (0 : Int32))]) (rest := []) pd_1 rfl rfl rfl (W := 0) (Nat.le_of_eq rfl) (hb hby d3_79) (by decide) (by decide) (by decide) (by decide) ?_
  rintro v182 T182 L182 X182 ⟨rfl, N182, H182⟩
  replace N182 := Fr.app (Fr.nil Z.heap.size) N182
  show OGoes p.tables e below _ (T182.setTop (mkF m 82 #[.val (.ref ep), .val (.long q), .second, .val (.int (2 : Int32))] []))
  obtain ⟨aN, aG, aW, aC, aD, aF, kN, kG, kW, kC, kD, kF, ⟨o0, o1, o2, o3, o4, o5, o6⟩, E, FN, FG, FW, FC, FD, FF, FS, VN, VG, VW, VC, VD, VF⟩ := H182
  refine own_st (V := (T182.setTop (mkF m 83 #[.val (.ref ep), .val (.long q), .second, .val (.int (2 : Int32))] [(.ref ep)]))) (fun t ks => XS.aloadN X182.here hx rfl (hb hby d3_82) rfl rfl ks) ?_
  refine own_getfield X182 hx hZ rfl hown (hw _ (List.mem_of_getElem? (i := 10) rfl)) Via.refl FN (hb hby d3_83) ?_
  intro T183 X183 e183
  show OGoes p.tables e below _ (T183.setTop (mkF m 86 #[.val (.ref ep), .val (.long q), .second, .val (.int (2 : Int32))] [(.ref aN)]))
  refine own_st (V := (T183.setTop (mkF m 87 #[.val (.ref ep), .val (.long q), .second, .val (.int (2 : Int32))] [(.int (2 : Int32)), (.ref aN)]))) (fun t ks => XS.iloadN X183.here hx rfl (hb hby d3_86) rfl ks) ?_
  refine own_st (V := (T183.setTop (mkF m 88 #[.val (.ref ep), .val (.long q), .second, .val (.int (2 : Int32))] [(.long q), (.int (2 : Int32)), (.ref aN)]))) (fun t ks => XS.lloadN X183.here hx rfl (hb hby d3_87) rfl ks) ?_
  refine own_lastore X183 hx hZ e183 VN (by decide) (by decide) rfl (Nat.le_of_ble_eq_true rfl) N182 (by omega) (hb hby d3_88) ?_
  intro T184 h184 L184 X184 e184 N184 W184 An184
  replace E := E.wr W184
  replace FN := FN.other W184 (Or.inl (own_ne (by omega)))
  replace FG := FG.other W184 (Or.inl (own_ne (by omega)))
  replace VG := VG.other W184 (own_ne (by omega))
  replace FW := FW.other W184 (Or.inl (own_ne (by omega)))
  replace VW := VW.other W184 (own_ne (by omega))
  replace FC := FC.other W184 (Or.inl (own_ne (by omega)))
  replace VC := VC.other W184 (own_ne (by omega))
  replace FD := FD.other W184 (Or.inl (own_ne (by omega)))
  replace VD := VD.other W184 (own_ne (by omega))
  replace FF := FF.other W184 (Or.inl (own_ne (by omega)))
  replace VF := VF.other W184 (own_ne (by omega))
  replace FS := FS.other W184 (Or.inl (own_ne (by omega)))
  replace VN := An184
  show OGoes p.tables e below _ (T184.setTop (mkF m 89 #[.val (.ref ep), .val (.long q), .second, .val (.int (2 : Int32))] []))
  refine own_st (V := (T184.setTop (mkF m 90 #[.val (.ref ep), .val (.long q), .second, .val (.int (2 : Int32))] [(.ref ep)]))) (fun t ks => XS.aloadN X184.here hx rfl (hb hby d3_89) rfl rfl ks) ?_
  refine own_getfield X184 hx hZ e184 hown (hw _ (List.mem_of_getElem? (i := 13) rfl)) Via.refl FG (hb hby d3_90) ?_
  intro T185 X185 e185
  show OGoes p.tables e below _ (T185.setTop (mkF m 93 #[.val (.ref ep), .val (.long q), .second, .val (.int (2 : Int32))] [(.ref aG)]))
  refine own_st (V := (T185.setTop (mkF m 94 #[.val (.ref ep), .val (.long q), .second, .val (.int (2 : Int32))] [(.int (2 : Int32)), (.ref aG)]))) (fun t ks => XS.iloadN X185.here hx rfl (hb hby d3_93) rfl ks) ?_
  refine own_st (V := (T185.setTop (mkF m 95 #[.val (.ref ep), .val (.long q), .second, .val (.int (2 : Int32))] [(.int (0 : Int32)), (.int (2 : Int32)), (.ref aG)]))) (fun t ks => XS.iconst X185.here hx rfl (hb hby d3_94) ks) ?_
  refine own_iastore X185 hx hZ e185 VG (by decide) (by decide) rfl (Nat.le_of_ble_eq_true rfl) N184 (by omega) (hb hby d3_95) ?_
  intro T186 h186 L186 X186 e186 N186 W186 An186
  replace E := E.wr W186
  replace FN := FN.other W186 (Or.inl (own_ne (by omega)))
  replace VN := VN.other W186 (own_ne (by omega))
  replace FG := FG.other W186 (Or.inl (own_ne (by omega)))
  replace FW := FW.other W186 (Or.inl (own_ne (by omega)))
  replace VW := VW.other W186 (own_ne (by omega))
  replace FC := FC.other W186 (Or.inl (own_ne (by omega)))
  replace VC := VC.other W186 (own_ne (by omega))
  replace FD := FD.other W186 (Or.inl (own_ne (by omega)))
  replace VD := VD.other W186 (own_ne (by omega))
  replace FF := FF.other W186 (Or.inl (own_ne (by omega)))
  replace VF := VF.other W186 (own_ne (by omega))
  replace FS := FS.other W186 (Or.inl (own_ne (by omega)))
  replace VG := An186
  show OGoes p.tables e below _ (T186.setTop (mkF m 96 #[.val (.ref ep), .val (.long q), .second, .val (.int (2 : Int32))] []))
  refine own_st (V := (T186.setTop (mkF m 97 #[.val (.ref ep), .val (.long q), .second, .val (.int (2 : Int32))] [(.ref ep)]))) (fun t ks => XS.aloadN X186.here hx rfl (hb hby d3_96) rfl rfl ks) ?_
  refine own_getfield X186 hx hZ e186 hown (hw _ (List.mem_of_getElem? (i := 15) rfl)) Via.refl FW (hb hby d3_97) ?_
  intro T187 X187 e187
  show OGoes p.tables e below _ (T187.setTop (mkF m 100 #[.val (.ref ep), .val (.long q), .second, .val (.int (2 : Int32))] [(.ref aW)]))
  refine own_st (V := (T187.setTop (mkF m 101 #[.val (.ref ep), .val (.long q), .second, .val (.int (2 : Int32))] [(.int (2 : Int32)), (.ref aW)]))) (fun t ks => XS.iloadN X187.here hx rfl (hb hby d3_100) rfl ks) ?_
  refine own_st (V := (T187.setTop (mkF m 102 #[.val (.ref ep), .val (.long q), .second, .val (.int (2 : Int32))] [(.long (0 : Int64)), (.int (2 : Int32)), (.ref aW)]))) (fun t ks => XS.lconst X187.here hx rfl (hb hby d3_101) ks) ?_
  refine own_lastore X187 hx hZ e187 VW (by decide) (by decide) rfl (Nat.le_of_ble_eq_true rfl) N186 (by omega) (hb hby d3_102) ?_
  intro T188 h188 L188 X188 e188 N188 W188 An188
  replace E := E.wr W188
  replace FN := FN.other W188 (Or.inl (own_ne (by omega)))
  replace VN := VN.other W188 (own_ne (by omega))
  replace FG := FG.other W188 (Or.inl (own_ne (by omega)))
  replace VG := VG.other W188 (own_ne (by omega))
  replace FW := FW.other W188 (Or.inl (own_ne (by omega)))
  replace FC := FC.other W188 (Or.inl (own_ne (by omega)))
  replace VC := VC.other W188 (own_ne (by omega))
  replace FD := FD.other W188 (Or.inl (own_ne (by omega)))
  replace VD := VD.other W188 (own_ne (by omega))
  replace FF := FF.other W188 (Or.inl (own_ne (by omega)))
  replace VF := VF.other W188 (own_ne (by omega))
  replace FS := FS.other W188 (Or.inl (own_ne (by omega)))
  replace VW := An188
  show OGoes p.tables e below _ (T188.setTop (mkF m 103 #[.val (.ref ep), .val (.long q), .second, .val (.int (2 : Int32))] []))
  refine own_st (V := (T188.setTop (mkF m 104 #[.val (.ref ep), .val (.long q), .second, .val (.int (2 : Int32))] [(.ref ep)]))) (fun t ks => XS.aloadN X188.here hx rfl (hb hby d3_103) rfl rfl ks) ?_
  refine own_getfield X188 hx hZ e188 hown (hw _ (List.mem_of_getElem? (i := 17) rfl)) Via.refl FC (hb hby d3_104) ?_
  intro T189 X189 e189
  show OGoes p.tables e below _ (T189.setTop (mkF m 107 #[.val (.ref ep), .val (.long q), .second, .val (.int (2 : Int32))] [(.ref aC)]))
  refine own_st (V := (T189.setTop (mkF m 108 #[.val (.ref ep), .val (.long q), .second, .val (.int (2 : Int32))] [(.int (2 : Int32)), (.ref aC)]))) (fun t ks => XS.iloadN X189.here hx rfl (hb hby d3_107) rfl ks) ?_
  refine own_st (V := (T189.setTop (mkF m 109 #[.val (.ref ep), .val (.long q), .second, .val (.int (2 : Int32))] [(.int (0 : Int32)), (.int (2 : Int32)), (.ref aC)]))) (fun t ks => XS.iconst X189.here hx rfl (hb hby d3_108) ks) ?_
  refine own_iastore X189 hx hZ e189 VC (by decide) (by decide) rfl (Nat.le_of_ble_eq_true rfl) N188 (by omega) (hb hby d3_109) ?_
  intro T190 h190 L190 X190 e190 N190 W190 An190
  replace E := E.wr W190
  replace FN := FN.other W190 (Or.inl (own_ne (by omega)))
  replace VN := VN.other W190 (own_ne (by omega))
  replace FG := FG.other W190 (Or.inl (own_ne (by omega)))
  replace VG := VG.other W190 (own_ne (by omega))
  replace FW := FW.other W190 (Or.inl (own_ne (by omega)))
  replace VW := VW.other W190 (own_ne (by omega))
  replace FC := FC.other W190 (Or.inl (own_ne (by omega)))
  replace FD := FD.other W190 (Or.inl (own_ne (by omega)))
  replace VD := VD.other W190 (own_ne (by omega))
  replace FF := FF.other W190 (Or.inl (own_ne (by omega)))
  replace VF := VF.other W190 (own_ne (by omega))
  replace FS := FS.other W190 (Or.inl (own_ne (by omega)))
  replace VC := An190
  show OGoes p.tables e below _ (T190.setTop (mkF m 110 #[.val (.ref ep), .val (.long q), .second, .val (.int (2 : Int32))] []))
  refine own_st (V := (T190.setTop (mkF m 111 #[.val (.ref ep), .val (.long q), .second, .val (.int (2 : Int32))] [(.ref ep)]))) (fun t ks => XS.aloadN X190.here hx rfl (hb hby d3_110) rfl rfl ks) ?_
  refine own_getfield X190 hx hZ e190 hown (hw _ (List.mem_of_getElem? (i := 19) rfl)) Via.refl FD (hb hby d3_111) ?_
  intro T191 X191 e191
  show OGoes p.tables e below _ (T191.setTop (mkF m 114 #[.val (.ref ep), .val (.long q), .second, .val (.int (2 : Int32))] [(.ref aD)]))
  refine own_st (V := (T191.setTop (mkF m 115 #[.val (.ref ep), .val (.long q), .second, .val (.int (2 : Int32))] [(.int (2 : Int32)), (.ref aD)]))) (fun t ks => XS.iloadN X191.here hx rfl (hb hby d3_114) rfl ks) ?_
  refine own_st (V := (T191.setTop (mkF m 116 #[.val (.ref ep), .val (.long q), .second, .val (.int (2 : Int32))] [(.long (0 : Int64)), (.int (2 : Int32)), (.ref aD)]))) (fun t ks => XS.lconst X191.here hx rfl (hb hby d3_115) ks) ?_
  refine own_lastore X191 hx hZ e191 VD (by decide) (by decide) rfl (Nat.le_of_ble_eq_true rfl) N190 (by omega) (hb hby d3_116) ?_
  intro T192 h192 L192 X192 e192 N192 W192 An192
  replace E := E.wr W192
  replace FN := FN.other W192 (Or.inl (own_ne (by omega)))
  replace VN := VN.other W192 (own_ne (by omega))
  replace FG := FG.other W192 (Or.inl (own_ne (by omega)))
  replace VG := VG.other W192 (own_ne (by omega))
  replace FW := FW.other W192 (Or.inl (own_ne (by omega)))
  replace VW := VW.other W192 (own_ne (by omega))
  replace FC := FC.other W192 (Or.inl (own_ne (by omega)))
  replace VC := VC.other W192 (own_ne (by omega))
  replace FD := FD.other W192 (Or.inl (own_ne (by omega)))
  replace FF := FF.other W192 (Or.inl (own_ne (by omega)))
  replace VF := VF.other W192 (own_ne (by omega))
  replace FS := FS.other W192 (Or.inl (own_ne (by omega)))
  replace VD := An192
  show OGoes p.tables e below _ (T192.setTop (mkF m 117 #[.val (.ref ep), .val (.long q), .second, .val (.int (2 : Int32))] []))
  refine own_st (V := (T192.setTop (mkF m 118 #[.val (.ref ep), .val (.long q), .second, .val (.int (2 : Int32))] [(.ref ep)]))) (fun t ks => XS.aloadN X192.here hx rfl (hb hby d3_117) rfl rfl ks) ?_
  refine own_getfield X192 hx hZ e192 hown (hw _ (List.mem_of_getElem? (i := 22) rfl)) Via.refl FF (hb hby d3_118) ?_
  intro T193 X193 e193
  show OGoes p.tables e below _ (T193.setTop (mkF m 121 #[.val (.ref ep), .val (.long q), .second, .val (.int (2 : Int32))] [(.ref aF)]))
  refine own_st (V := (T193.setTop (mkF m 122 #[.val (.ref ep), .val (.long q), .second, .val (.int (2 : Int32))] [(.int (2 : Int32)), (.ref aF)]))) (fun t ks => XS.iloadN X193.here hx rfl (hb hby d3_121) rfl ks) ?_
  refine own_st (V := (T193.setTop (mkF m 123 #[.val (.ref ep), .val (.long q), .second, .val (.int (2 : Int32))] [(.int (0 : Int32)), (.int (2 : Int32)), (.ref aF)]))) (fun t ks => XS.iconst X193.here hx rfl (hb hby d3_122) ks) ?_
  refine own_bastore X193 hx hZ e193 VF (by decide) (by decide) rfl (Nat.le_of_ble_eq_true rfl) N192 (by omega) (hb hby d3_123) ?_
  intro T194 h194 L194 X194 e194 N194 W194 An194
  replace E := E.wr W194
  replace FN := FN.other W194 (Or.inl (own_ne (by omega)))
  replace VN := VN.other W194 (own_ne (by omega))
  replace FG := FG.other W194 (Or.inl (own_ne (by omega)))
  replace VG := VG.other W194 (own_ne (by omega))
  replace FW := FW.other W194 (Or.inl (own_ne (by omega)))
  replace VW := VW.other W194 (own_ne (by omega))
  replace FC := FC.other W194 (Or.inl (own_ne (by omega)))
  replace VC := VC.other W194 (own_ne (by omega))
  replace FD := FD.other W194 (Or.inl (own_ne (by omega)))
  replace VD := VD.other W194 (own_ne (by omega))
  replace FF := FF.other W194 (Or.inl (own_ne (by omega)))
  replace FS := FS.other W194 (Or.inl (own_ne (by omega)))
  replace VF := An194
  show OGoes p.tables e below _ (T194.setTop (mkF m 124 #[.val (.ref ep), .val (.long q), .second, .val (.int (2 : Int32))] []))
  refine own_st (V := (T194.setTop (mkF m 125 #[.val (.ref ep), .val (.long q), .second, .val (.int (2 : Int32))] [(.ref ep)]))) (fun t ks => XS.aloadN X194.here hx rfl (hb hby d3_124) rfl rfl ks) ?_
  refine own_st (V := (T194.setTop (mkF m 126 #[.val (.ref ep), .val (.long q), .second, .val (.int (2 : Int32))] [(.ref ep), (.ref ep)]))) (fun t ks => XS.dup X194.here hx rfl (hb hby d3_125) rfl rfl ks) ?_
  refine own_getfield X194 hx hZ e194 hown (hw _ (List.mem_of_getElem? (i := 29) rfl)) Via.refl FS (hb hby d3_126) ?_
  intro T195 X195 e195
  show OGoes p.tables e below _ (T195.setTop (mkF m 129 #[.val (.ref ep), .val (.long q), .second, .val (.int (2 : Int32))] [(.int (2 : Int32)), (.ref ep)]))
  refine own_st (V := (T195.setTop (mkF m 130 #[.val (.ref ep), .val (.long q), .second, .val (.int (2 : Int32))] [(.int (1 : Int32)), (.int (2 : Int32)), (.ref ep)]))) (fun t ks => XS.iconst X195.here hx rfl (hb hby d3_129) ks) ?_
  refine own_st (V := (T195.setTop (mkF m 131 #[.val (.ref ep), .val (.long q), .second, .val (.int (2 : Int32))] [(.int ((2 : Int32) + (1 : Int32))), (.ref ep)]))) (fun t ks => XS.iadd X195.here hx rfl (hb hby d3_130) rfl ks) ?_
  refine own_cast (g' := (mkF m 131 #[.val (.ref ep), .val (.long q), .second, .val (.int (2 : Int32))] [(.int (3 : Int32)), (.ref ep)])) (by rw [show ((2 : Int32) + (1 : Int32)) = (3 : Int32) from by decide]) ?_
  refine own_putfield X195 hx hZ e195 hown (hw _ (List.mem_of_getElem? (i := 29) rfl)) FS E (Or.inl (hw _ (List.mem_of_getElem? (i := 30) rfl))) (hw _ (List.mem_of_getElem? (i := 1) rfl)) (ty := .int) (by decide) rfl rfl N194 (by omega) (hb hby d3_131) ?_
  intro T196 h196 L196 X196 e196 N196 W196 Fn196
  replace E := E.wr W196
  replace FN := FN.other W196 (Or.inr (slot_ne (Or.inl (hw _ (List.mem_of_getElem? (i := 11) rfl))) (Or.inl (hw _ (List.mem_of_getElem? (i := 30) rfl))) (by decide) (t := (.array .long)) (by decide) (t' := .int) (by decide)))
  replace VN := VN.other W196 (own_ne (by omega))
  replace FG := FG.other W196 (Or.inr (slot_ne (Or.inl (hw _ (List.mem_of_getElem? (i := 14) rfl))) (Or.inl (hw _ (List.mem_of_getElem? (i := 30) rfl))) (by decide) (t := (.array .int)) (by decide) (t' := .int) (by decide)))
  replace VG := VG.other W196 (own_ne (by omega))
  replace FW := FW.other W196 (Or.inr (slot_ne (Or.inl (hw _ (List.mem_of_getElem? (i := 16) rfl))) (Or.inl (hw _ (List.mem_of_getElem? (i := 30) rfl))) (by decide) (t := (.array .long)) (by decide) (t' := .int) (by decide)))
  replace VW := VW.other W196 (own_ne (by omega))
  replace FC := FC.other W196 (Or.inr (slot_ne (Or.inl (hw _ (List.mem_of_getElem? (i := 18) rfl))) (Or.inl (hw _ (List.mem_of_getElem? (i := 30) rfl))) (by decide) (t := (.array .int)) (by decide) (t' := .int) (by decide)))
  replace VC := VC.other W196 (own_ne (by omega))
  replace FD := FD.other W196 (Or.inr (slot_ne (Or.inl (hw _ (List.mem_of_getElem? (i := 20) rfl))) (Or.inl (hw _ (List.mem_of_getElem? (i := 30) rfl))) (by decide) (t := (.array .long)) (by decide) (t' := .int) (by decide)))
  replace VD := VD.other W196 (own_ne (by omega))
  replace FF := FF.other W196 (Or.inr (slot_ne (Or.inl (hw _ (List.mem_of_getElem? (i := 23) rfl))) (Or.inl (hw _ (List.mem_of_getElem? (i := 30) rfl))) (by decide) (t := (.array .byte)) (by decide) (t' := .int) (by decide)))
  replace VF := VF.other W196 (own_ne (by omega))
  replace FS := Fn196
  show OGoes p.tables e below _ (T196.setTop (mkF m 134 #[.val (.ref ep), .val (.long q), .second, .val (.int (2 : Int32))] []))
  refine own_st (V := (T196.setTop (mkF m 135 #[.val (.ref ep), .val (.long q), .second, .val (.int (2 : Int32))] [(.int (2 : Int32))]))) (fun t ks => XS.iloadN X196.here hx rfl (hb hby d3_134) rfl ks) ?_
  exact own_retI X196 hx hlk hret (hb hby d3_135) (by decide) (by decide) ⟨rfl, N196, by rw [e196]; exact ⟨aN, aG, aW, aC, aD, aF, _, _, _, _, _, _, ⟨by omega, by omega, by omega, by omega, by omega, by omega, by omega⟩, E, FN, FG, FW, FC, FD, FF, FS, VN, VG, VW, VC, VD, VF⟩⟩
def own_ix (xs : List Int64) (x : Int64) : Int32 := if own_bs xs x < 0 then -1 else own_bs xs x
theorem ef_rmIx0 (m : MethodId) (x0 : Nat) (x1 : Int64) : entryFrame m #[(.ref x0), (.long x1)] 4 = mkF m 0 #[.val (.ref x0), .val (.long x1), .second, .unset] [] := by first | (simp [entryFrame, mkF, argsToLocals, Value.category]; done) | rfl
set_option maxRecDepth 65536 in
set_option maxHeartbeats 40000000 in
theorem rmIx0 (l : Launch) (Z : State) (a0 : Array Value) (hw : ∀ d ∈ tables_1, d.before a0 Z = true) (ep aN : Nat) (kN : ClassId) (q : Int64) (h0 : Heap) (FN : Fld Z h0 ep "com/example/killifish/killifish/store/Epochs" "numbers" "[J" (.ref aN)) (VN : Arv Z h0 aN kN .long 0 (own_pad []) (.long 0)) (FS : Fld Z h0 ep "com/example/killifish/killifish/store/Epochs" "size" "I" (.int 0)) :
    OPure l Z (⟨"com/example/killifish/killifish/store/Epochs", "indexOf", "(J)I"⟩ : MethodName) prog_13_method_6_code 4 (some .int) 2 40 #[(.ref ep), (.long q)] h0 (some (.int (own_ix [] q))) := by
  refine own_body pf_14 ?_
  intro p e s m below meth c T0 X0 hx hby hml hZ hown hnm hret hlk e0
  replace hown : s.vm.findClass "com/example/killifish/killifish/store/Epochs" = some m.cls := hown
  refine own_cast (ef_rmIx0 m (ep) (q)) ?_
  show OGoes p.tables e below _ (T0.setTop (mkF m 0 #[.val (.ref ep), .val (.long q), .second, .unset] []))
  refine own_st (V := (T0.setTop (mkF m 1 #[.val (.ref ep), .val (.long q), .second, .unset] [(.ref ep)]))) (fun t ks => XS.aloadN X0.here hx rfl (hb hby d14_0) rfl rfl ks) ?_
  refine own_getfield X0 hx hZ e0 hown (hw _ (List.mem_of_getElem? (i := 10) rfl)) Via.refl FN (hb hby d14_1) ?_
  intro T197 X197 e197
  show OGoes p.tables e below _ (T197.setTop (mkF m 4 #[.val (.ref ep), .val (.long q), .second, .unset] [(.ref aN)]))
  refine own_st (V := (T197.setTop (mkF m 5 #[.val (.ref ep), .val (.long q), .second, .unset] [(.int (0 : Int32)), (.ref aN)]))) (fun t ks => XS.iconst X197.here hx rfl (hb hby d14_4) ks) ?_
  refine own_st (V := (T197.setTop (mkF m 6 #[.val (.ref ep), .val (.long q), .second, .unset] [(.ref ep), (.int (0 : Int32)), (.ref aN)]))) (fun t ks => XS.aloadN X197.here hx rfl (hb hby d14_5) rfl rfl ks) ?_
  refine own_getfield X197 hx hZ e197 hown (hw _ (List.mem_of_getElem? (i := 29) rfl)) Via.refl FS (hb hby d14_6) ?_
  intro T198 X198 e198
  show OGoes p.tables e below _ (T198.setTop (mkF m 9 #[.val (.ref ep), .val (.long q), .second, .unset] [(.int (0 : Int32)), (.int (0 : Int32)), (.ref aN)]))
  refine own_st (V := (T198.setTop (mkF m 10 #[.val (.ref ep), .val (.long q), .second, .unset] [(.long q), (.int (0 : Int32)), (.int (0 : Int32)), (.ref aN)]))) (fun t ks => XS.lloadN X198.here hx rfl (hb hby d14_9) rfl ks) ?_
  refine own_callS0 X198 hx hZ hown (hw _ (List.mem_of_getElem? (i := 31) rfl)) (hw _ (List.mem_of_getElem? (i := 32) rfl)) (hw _ (List.mem_of_getElem? (i := 33) rfl)) (hw _ (List.mem_of_getElem? (i := 34) rfl)) (by decide) (rmBS0 l Z a0 hw aN kN q  _ rfl h0 VN) e198 (by rw [hml]; rfl) (argsL := [(.ref aN), (.int (0 : Int32)), (.int (0 : Int32)), (.long q)]) (rest := []) pd_2 rfl rfl rfl (W := 0) (Nat.le_of_eq rfl) (hb hby d14_10) (by decide) (by decide) (by decide) (by decide) ?_
  intro T199 X199 e199
  show OGoes p.tables e below _ (T199.setTop (mkF m 13 #[.val (.ref ep), .val (.long q), .second, .unset] [(.int (own_bs [] q))]))
  refine own_st (V := (T199.setTop (mkF m 14 #[.val (.ref ep), .val (.long q), .second, .val (.int (own_bs [] q))] []))) (fun t ks => XS.istoreN X199.here hx rfl (hb hby d14_13) rfl (l' := #[.val (.ref ep), .val (.long q), .second, .val (.int (own_bs [] q))]) rfl ks) ?_
  refine own_st (V := (T199.setTop (mkF m 15 #[.val (.ref ep), .val (.long q), .second, .val (.int (own_bs [] q))] [(.int (own_bs [] q))]))) (fun t ks => XS.iloadN X199.here hx rfl (hb hby d14_14) rfl ks) ?_
  by_cases g : (own_bs [] q) < 0
  · refine own_st (V := (T199.setTop (mkF m 22 #[.val (.ref ep), .val (.long q), .second, .val (.int (own_bs [] q))] []))) (fun t ks => XS.ifYes X199.here hx rfl (pc0 := 15) (pc' := 22) rfl (hb hby d14_15) rfl (XT.i0_lt_t g) (by decide) (by decide) ks) ?_
    refine own_st (V := (T199.setTop (mkF m 23 #[.val (.ref ep), .val (.long q), .second, .val (.int (own_bs [] q))] [(.int (-1 : Int32))]))) (fun t ks => XS.iconst X199.here hx rfl (hb hby d14_22) ks) ?_
    exact own_retI X199 hx hlk hret (hb hby d14_23) (by decide) (by decide) ⟨by unfold own_ix; rw [if_pos g], e199, rfl⟩
  · refine own_st (V := (T199.setTop (mkF m 18 #[.val (.ref ep), .val (.long q), .second, .val (.int (own_bs [] q))] []))) (fun t ks => XS.ifNo X199.here hx rfl (hb hby d14_15) rfl (XT.i0_lt_f g) ks) ?_
    refine own_st (V := (T199.setTop (mkF m 19 #[.val (.ref ep), .val (.long q), .second, .val (.int (own_bs [] q))] [(.int (own_bs [] q))]))) (fun t ks => XS.iloadN X199.here hx rfl (hb hby d14_18) rfl ks) ?_
    refine own_st (V := (T199.setTop (mkF m 23 #[.val (.ref ep), .val (.long q), .second, .val (.int (own_bs [] q))] [(.int (own_bs [] q))]))) (fun t ks => XS.goto X199.here hx rfl (pc0 := 19) (pc' := 23) rfl (hb hby d14_19) (by decide) (by decide) ks) ?_
    exact own_retI X199 hx hlk hret (hb hby d14_23) (by decide) (by decide) ⟨by unfold own_ix; rw [if_neg g], e199, rfl⟩
theorem ef_rmIx1 (m : MethodId) (x0 : Nat) (x1 : Int64) : entryFrame m #[(.ref x0), (.long x1)] 4 = mkF m 0 #[.val (.ref x0), .val (.long x1), .second, .unset] [] := by first | (simp [entryFrame, mkF, argsToLocals, Value.category]; done) | rfl
set_option maxRecDepth 65536 in
set_option maxHeartbeats 40000000 in
theorem rmIx1 (l : Launch) (Z : State) (a0 : Array Value) (hw : ∀ d ∈ tables_1, d.before a0 Z = true) (ep aN : Nat) (kN : ClassId) (q x0 : Int64) (h0 : Heap) (FN : Fld Z h0 ep "com/example/killifish/killifish/store/Epochs" "numbers" "[J" (.ref aN)) (VN : Arv Z h0 aN kN .long 4 (own_pad [x0]) (.long 0)) (FS : Fld Z h0 ep "com/example/killifish/killifish/store/Epochs" "size" "I" (.int 1)) :
    OPure l Z (⟨"com/example/killifish/killifish/store/Epochs", "indexOf", "(J)I"⟩ : MethodName) prog_13_method_6_code 4 (some .int) 2 40 #[(.ref ep), (.long q)] h0 (some (.int (own_ix [x0] q))) := by
  refine own_body pf_14 ?_
  intro p e s m below meth c T0 X0 hx hby hml hZ hown hnm hret hlk e0
  replace hown : s.vm.findClass "com/example/killifish/killifish/store/Epochs" = some m.cls := hown
  refine own_cast (ef_rmIx1 m (ep) (q)) ?_
  show OGoes p.tables e below _ (T0.setTop (mkF m 0 #[.val (.ref ep), .val (.long q), .second, .unset] []))
  refine own_st (V := (T0.setTop (mkF m 1 #[.val (.ref ep), .val (.long q), .second, .unset] [(.ref ep)]))) (fun t ks => XS.aloadN X0.here hx rfl (hb hby d14_0) rfl rfl ks) ?_
  refine own_getfield X0 hx hZ e0 hown (hw _ (List.mem_of_getElem? (i := 10) rfl)) Via.refl FN (hb hby d14_1) ?_
  intro T200 X200 e200
  show OGoes p.tables e below _ (T200.setTop (mkF m 4 #[.val (.ref ep), .val (.long q), .second, .unset] [(.ref aN)]))
  refine own_st (V := (T200.setTop (mkF m 5 #[.val (.ref ep), .val (.long q), .second, .unset] [(.int (0 : Int32)), (.ref aN)]))) (fun t ks => XS.iconst X200.here hx rfl (hb hby d14_4) ks) ?_
  refine own_st (V := (T200.setTop (mkF m 6 #[.val (.ref ep), .val (.long q), .second, .unset] [(.ref ep), (.int (0 : Int32)), (.ref aN)]))) (fun t ks => XS.aloadN X200.here hx rfl (hb hby d14_5) rfl rfl ks) ?_
  refine own_getfield X200 hx hZ e200 hown (hw _ (List.mem_of_getElem? (i := 29) rfl)) Via.refl FS (hb hby d14_6) ?_
  intro T201 X201 e201
  show OGoes p.tables e below _ (T201.setTop (mkF m 9 #[.val (.ref ep), .val (.long q), .second, .unset] [(.int (1 : Int32)), (.int (0 : Int32)), (.ref aN)]))
  refine own_st (V := (T201.setTop (mkF m 10 #[.val (.ref ep), .val (.long q), .second, .unset] [(.long q), (.int (1 : Int32)), (.int (0 : Int32)), (.ref aN)]))) (fun t ks => XS.lloadN X201.here hx rfl (hb hby d14_9) rfl ks) ?_
  refine own_callS0 X201 hx hZ hown (hw _ (List.mem_of_getElem? (i := 31) rfl)) (hw _ (List.mem_of_getElem? (i := 32) rfl)) (hw _ (List.mem_of_getElem? (i := 33) rfl)) (hw _ (List.mem_of_getElem? (i := 34) rfl)) (by decide) (rmBS1 l Z a0 hw aN kN q x0 _ rfl h0 VN) e201 (by rw [hml]; rfl) (argsL := [(.ref aN), (.int (0 : Int32)), (.int (1 : Int32)), (.long q)]) (rest := []) pd_2 rfl rfl rfl (W := 0) (Nat.le_of_eq rfl) (hb hby d14_10) (by decide) (by decide) (by decide) (by decide) ?_
  intro T202 X202 e202
  show OGoes p.tables e below _ (T202.setTop (mkF m 13 #[.val (.ref ep), .val (.long q), .second, .unset] [(.int (own_bs [x0] q))]))
  refine own_st (V := (T202.setTop (mkF m 14 #[.val (.ref ep), .val (.long q), .second, .val (.int (own_bs [x0] q))] []))) (fun t ks => XS.istoreN X202.here hx rfl (hb hby d14_13) rfl (l' := #[.val (.ref ep), .val (.long q), .second, .val (.int (own_bs [x0] q))]) rfl ks) ?_
  refine own_st (V := (T202.setTop (mkF m 15 #[.val (.ref ep), .val (.long q), .second, .val (.int (own_bs [x0] q))] [(.int (own_bs [x0] q))]))) (fun t ks => XS.iloadN X202.here hx rfl (hb hby d14_14) rfl ks) ?_
  by_cases g : (own_bs [x0] q) < 0
  · refine own_st (V := (T202.setTop (mkF m 22 #[.val (.ref ep), .val (.long q), .second, .val (.int (own_bs [x0] q))] []))) (fun t ks => XS.ifYes X202.here hx rfl (pc0 := 15) (pc' := 22) rfl (hb hby d14_15) rfl (XT.i0_lt_t g) (by decide) (by decide) ks) ?_
    refine own_st (V := (T202.setTop (mkF m 23 #[.val (.ref ep), .val (.long q), .second, .val (.int (own_bs [x0] q))] [(.int (-1 : Int32))]))) (fun t ks => XS.iconst X202.here hx rfl (hb hby d14_22) ks) ?_
    exact own_retI X202 hx hlk hret (hb hby d14_23) (by decide) (by decide) ⟨by unfold own_ix; rw [if_pos g], e202, rfl⟩
  · refine own_st (V := (T202.setTop (mkF m 18 #[.val (.ref ep), .val (.long q), .second, .val (.int (own_bs [x0] q))] []))) (fun t ks => XS.ifNo X202.here hx rfl (hb hby d14_15) rfl (XT.i0_lt_f g) ks) ?_
    refine own_st (V := (T202.setTop (mkF m 19 #[.val (.ref ep), .val (.long q), .second, .val (.int (own_bs [x0] q))] [(.int (own_bs [x0] q))]))) (fun t ks => XS.iloadN X202.here hx rfl (hb hby d14_18) rfl ks) ?_
    refine own_st (V := (T202.setTop (mkF m 23 #[.val (.ref ep), .val (.long q), .second, .val (.int (own_bs [x0] q))] [(.int (own_bs [x0] q))]))) (fun t ks => XS.goto X202.here hx rfl (pc0 := 19) (pc' := 23) rfl (hb hby d14_19) (by decide) (by decide) ks) ?_
    exact own_retI X202 hx hlk hret (hb hby d14_23) (by decide) (by decide) ⟨by unfold own_ix; rw [if_neg g], e202, rfl⟩
theorem ef_rmIx2 (m : MethodId) (x0 : Nat) (x1 : Int64) : entryFrame m #[(.ref x0), (.long x1)] 4 = mkF m 0 #[.val (.ref x0), .val (.long x1), .second, .unset] [] := by first | (simp [entryFrame, mkF, argsToLocals, Value.category]; done) | rfl
set_option maxRecDepth 65536 in
set_option maxHeartbeats 40000000 in
theorem rmIx2 (l : Launch) (Z : State) (a0 : Array Value) (hw : ∀ d ∈ tables_1, d.before a0 Z = true) (ep aN : Nat) (kN : ClassId) (q x0 x1 : Int64) (h0 : Heap) (FN : Fld Z h0 ep "com/example/killifish/killifish/store/Epochs" "numbers" "[J" (.ref aN)) (VN : Arv Z h0 aN kN .long 4 (own_pad [x0, x1]) (.long 0)) (FS : Fld Z h0 ep "com/example/killifish/killifish/store/Epochs" "size" "I" (.int 2)) :
    OPure l Z (⟨"com/example/killifish/killifish/store/Epochs", "indexOf", "(J)I"⟩ : MethodName) prog_13_method_6_code 4 (some .int) 2 40 #[(.ref ep), (.long q)] h0 (some (.int (own_ix [x0, x1] q))) := by
  refine own_body pf_14 ?_
  intro p e s m below meth c T0 X0 hx hby hml hZ hown hnm hret hlk e0
  replace hown : s.vm.findClass "com/example/killifish/killifish/store/Epochs" = some m.cls := hown
  refine own_cast (ef_rmIx2 m (ep) (q)) ?_
  show OGoes p.tables e below _ (T0.setTop (mkF m 0 #[.val (.ref ep), .val (.long q), .second, .unset] []))
  refine own_st (V := (T0.setTop (mkF m 1 #[.val (.ref ep), .val (.long q), .second, .unset] [(.ref ep)]))) (fun t ks => XS.aloadN X0.here hx rfl (hb hby d14_0) rfl rfl ks) ?_
  refine own_getfield X0 hx hZ e0 hown (hw _ (List.mem_of_getElem? (i := 10) rfl)) Via.refl FN (hb hby d14_1) ?_
  intro T203 X203 e203
  show OGoes p.tables e below _ (T203.setTop (mkF m 4 #[.val (.ref ep), .val (.long q), .second, .unset] [(.ref aN)]))
  refine own_st (V := (T203.setTop (mkF m 5 #[.val (.ref ep), .val (.long q), .second, .unset] [(.int (0 : Int32)), (.ref aN)]))) (fun t ks => XS.iconst X203.here hx rfl (hb hby d14_4) ks) ?_
  refine own_st (V := (T203.setTop (mkF m 6 #[.val (.ref ep), .val (.long q), .second, .unset] [(.ref ep), (.int (0 : Int32)), (.ref aN)]))) (fun t ks => XS.aloadN X203.here hx rfl (hb hby d14_5) rfl rfl ks) ?_
  refine own_getfield X203 hx hZ e203 hown (hw _ (List.mem_of_getElem? (i := 29) rfl)) Via.refl FS (hb hby d14_6) ?_
  intro T204 X204 e204
  show OGoes p.tables e below _ (T204.setTop (mkF m 9 #[.val (.ref ep), .val (.long q), .second, .unset] [(.int (2 : Int32)), (.int (0 : Int32)), (.ref aN)]))
  refine own_st (V := (T204.setTop (mkF m 10 #[.val (.ref ep), .val (.long q), .second, .unset] [(.long q), (.int (2 : Int32)), (.int (0 : Int32)), (.ref aN)]))) (fun t ks => XS.lloadN X204.here hx rfl (hb hby d14_9) rfl ks) ?_
  refine own_callS0 X204 hx hZ hown (hw _ (List.mem_of_getElem? (i := 31) rfl)) (hw _ (List.mem_of_getElem? (i := 32) rfl)) (hw _ (List.mem_of_getElem? (i := 33) rfl)) (hw _ (List.mem_of_getElem? (i := 34) rfl)) (by decide) (rmBS2 l Z a0 hw aN kN q x0 x1 _ rfl h0 VN) e204 (by rw [hml]; rfl) (argsL := [(.ref aN), (.int (0 : Int32)), (.int (2 : Int32)), (.long q)]) (rest := []) pd_2 rfl rfl rfl (W := 0) (Nat.le_of_eq rfl) (hb hby d14_10) (by decide) (by decide) (by decide) (by decide) ?_
  intro T205 X205 e205
  show OGoes p.tables e below _ (T205.setTop (mkF m 13 #[.val (.ref ep), .val (.long q), .second, .unset] [(.int (own_bs [x0, x1] q))]))
  refine own_st (V := (T205.setTop (mkF m 14 #[.val (.ref ep), .val (.long q), .second, .val (.int (own_bs [x0, x1] q))] []))) (fun t ks => XS.istoreN X205.here hx rfl (hb hby d14_13) rfl (l' := #[.val (.ref ep), .val (.long q), .second, .val (.int (own_bs [x0, x1] q))]) rfl ks) ?_
  refine own_st (V := (T205.setTop (mkF m 15 #[.val (.ref ep), .val (.long q), .second, .val (.int (own_bs [x0, x1] q))] [(.int (own_bs [x0, x1] q))]))) (fun t ks => XS.iloadN X205.here hx rfl (hb hby d14_14) rfl ks) ?_
  by_cases g : (own_bs [x0, x1] q) < 0
  · refine own_st (V := (T205.setTop (mkF m 22 #[.val (.ref ep), .val (.long q), .second, .val (.int (own_bs [x0, x1] q))] []))) (fun t ks => XS.ifYes X205.here hx rfl (pc0 := 15) (pc' := 22) rfl (hb hby d14_15) rfl (XT.i0_lt_t g) (by decide) (by decide) ks) ?_
    refine own_st (V := (T205.setTop (mkF m 23 #[.val (.ref ep), .val (.long q), .second, .val (.int (own_bs [x0, x1] q))] [(.int (-1 : Int32))]))) (fun t ks => XS.iconst X205.here hx rfl (hb hby d14_22) ks) ?_
    exact own_retI X205 hx hlk hret (hb hby d14_23) (by decide) (by decide) ⟨by unfold own_ix; rw [if_pos g], e205, rfl⟩
  · refine own_st (V := (T205.setTop (mkF m 18 #[.val (.ref ep), .val (.long q), .second, .val (.int (own_bs [x0, x1] q))] []))) (fun t ks => XS.ifNo X205.here hx rfl (hb hby d14_15) rfl (XT.i0_lt_f g) ks) ?_
    refine own_st (V := (T205.setTop (mkF m 19 #[.val (.ref ep), .val (.long q), .second, .val (.int (own_bs [x0, x1] q))] [(.int (own_bs [x0, x1] q))]))) (fun t ks => XS.iloadN X205.here hx rfl (hb hby d14_18) rfl ks) ?_
    refine own_st (V := (T205.setTop (mkF m 23 #[.val (.ref ep), .val (.long q), .second, .val (.int (own_bs [x0, x1] q))] [(.int (own_bs [x0, x1] q))]))) (fun t ks => XS.goto X205.here hx rfl (pc0 := 19) (pc' := 23) rfl (hb hby d14_19) (by decide) (by decide) ks) ?_
    exact own_retI X205 hx hlk hret (hb hby d14_23) (by decide) (by decide) ⟨by unfold own_ix; rw [if_neg g], e205, rfl⟩
theorem ef_rmIx3 (m : MethodId) (x0 : Nat) (x1 : Int64) : entryFrame m #[(.ref x0), (.long x1)] 4 = mkF m 0 #[.val (.ref x0), .val (.long x1), .second, .unset] [] := by first | (simp [entryFrame, mkF, argsToLocals, Value.category]; done) | rfl
set_option maxRecDepth 65536 in
set_option maxHeartbeats 40000000 in
theorem rmIx3 (l : Launch) (Z : State) (a0 : Array Value) (hw : ∀ d ∈ tables_1, d.before a0 Z = true) (ep aN : Nat) (kN : ClassId) (q x0 x1 x2 : Int64) (h0 : Heap) (FN : Fld Z h0 ep "com/example/killifish/killifish/store/Epochs" "numbers" "[J" (.ref aN)) (VN : Arv Z h0 aN kN .long 4 (own_pad [x0, x1, x2]) (.long 0)) (FS : Fld Z h0 ep "com/example/killifish/killifish/store/Epochs" "size" "I" (.int 3)) :
    OPure l Z (⟨"com/example/killifish/killifish/store/Epochs", "indexOf", "(J)I"⟩ : MethodName) prog_13_method_6_code 4 (some .int) 2 40 #[(.ref ep), (.long q)] h0 (some (.int (own_ix [x0, x1, x2] q))) := by
  refine own_body pf_14 ?_
  intro p e s m below meth c T0 X0 hx hby hml hZ hown hnm hret hlk e0
  replace hown : s.vm.findClass "com/example/killifish/killifish/store/Epochs" = some m.cls := hown
  refine own_cast (ef_rmIx3 m (ep) (q)) ?_
  show OGoes p.tables e below _ (T0.setTop (mkF m 0 #[.val (.ref ep), .val (.long q), .second, .unset] []))
  refine own_st (V := (T0.setTop (mkF m 1 #[.val (.ref ep), .val (.long q), .second, .unset] [(.ref ep)]))) (fun t ks => XS.aloadN X0.here hx rfl (hb hby d14_0) rfl rfl ks) ?_
  refine own_getfield X0 hx hZ e0 hown (hw _ (List.mem_of_getElem? (i := 10) rfl)) Via.refl FN (hb hby d14_1) ?_
  intro T206 X206 e206
  show OGoes p.tables e below _ (T206.setTop (mkF m 4 #[.val (.ref ep), .val (.long q), .second, .unset] [(.ref aN)]))
  refine own_st (V := (T206.setTop (mkF m 5 #[.val (.ref ep), .val (.long q), .second, .unset] [(.int (0 : Int32)), (.ref aN)]))) (fun t ks => XS.iconst X206.here hx rfl (hb hby d14_4) ks) ?_
  refine own_st (V := (T206.setTop (mkF m 6 #[.val (.ref ep), .val (.long q), .second, .unset] [(.ref ep), (.int (0 : Int32)), (.ref aN)]))) (fun t ks => XS.aloadN X206.here hx rfl (hb hby d14_5) rfl rfl ks) ?_
  refine own_getfield X206 hx hZ e206 hown (hw _ (List.mem_of_getElem? (i := 29) rfl)) Via.refl FS (hb hby d14_6) ?_
  intro T207 X207 e207
  show OGoes p.tables e below _ (T207.setTop (mkF m 9 #[.val (.ref ep), .val (.long q), .second, .unset] [(.int (3 : Int32)), (.int (0 : Int32)), (.ref aN)]))
  refine own_st (V := (T207.setTop (mkF m 10 #[.val (.ref ep), .val (.long q), .second, .unset] [(.long q), (.int (3 : Int32)), (.int (0 : Int32)), (.ref aN)]))) (fun t ks => XS.lloadN X207.here hx rfl (hb hby d14_9) rfl ks) ?_
  refine own_callS0 X207 hx hZ hown (hw _ (List.mem_of_getElem? (i := 31) rfl)) (hw _ (List.mem_of_getElem? (i := 32) rfl)) (hw _ (List.mem_of_getElem? (i := 33) rfl)) (hw _ (List.mem_of_getElem? (i := 34) rfl)) (by decide) (rmBS3 l Z a0 hw aN kN q x0 x1 x2 _ rfl h0 VN) e207 (by rw [hml]; rfl) (argsL := [(.ref aN), (.int (0 : Int32)), (.int (3 : Int32)), (.long q)]) (rest := []) pd_2 rfl rfl rfl (W := 0) (Nat.le_of_eq rfl) (hb hby d14_10) (by decide) (by decide) (by decide) (by decide) ?_
  intro T208 X208 e208
  show OGoes p.tables e below _ (T208.setTop (mkF m 13 #[.val (.ref ep), .val (.long q), .second, .unset] [(.int (own_bs [x0, x1, x2] q))]))
  refine own_st (V := (T208.setTop (mkF m 14 #[.val (.ref ep), .val (.long q), .second, .val (.int (own_bs [x0, x1, x2] q))] []))) (fun t ks => XS.istoreN X208.here hx rfl (hb hby d14_13) rfl (l' := #[.val (.ref ep), .val (.long q), .second, .val (.int (own_bs [x0, x1, x2] q))]) rfl ks) ?_
  refine own_st (V := (T208.setTop (mkF m 15 #[.val (.ref ep), .val (.long q), .second, .val (.int (own_bs [x0, x1, x2] q))] [(.int (own_bs [x0, x1, x2] q))]))) (fun t ks => XS.iloadN X208.here hx rfl (hb hby d14_14) rfl ks) ?_
  by_cases g : (own_bs [x0, x1, x2] q) < 0
  · refine own_st (V := (T208.setTop (mkF m 22 #[.val (.ref ep), .val (.long q), .second, .val (.int (own_bs [x0, x1, x2] q))] []))) (fun t ks => XS.ifYes X208.here hx rfl (pc0 := 15) (pc' := 22) rfl (hb hby d14_15) rfl (XT.i0_lt_t g) (by decide) (by decide) ks) ?_
    refine own_st (V := (T208.setTop (mkF m 23 #[.val (.ref ep), .val (.long q), .second, .val (.int (own_bs [x0, x1, x2] q))] [(.int (-1 : Int32))]))) (fun t ks => XS.iconst X208.here hx rfl (hb hby d14_22) ks) ?_
    exact own_retI X208 hx hlk hret (hb hby d14_23) (by decide) (by decide) ⟨by unfold own_ix; rw [if_pos g], e208, rfl⟩
  · refine own_st (V := (T208.setTop (mkF m 18 #[.val (.ref ep), .val (.long q), .second, .val (.int (own_bs [x0, x1, x2] q))] []))) (fun t ks => XS.ifNo X208.here hx rfl (hb hby d14_15) rfl (XT.i0_lt_f g) ks) ?_
    refine own_st (V := (T208.setTop (mkF m 19 #[.val (.ref ep), .val (.long q), .second, .val (.int (own_bs [x0, x1, x2] q))] [(.int (own_bs [x0, x1, x2] q))]))) (fun t ks => XS.iloadN X208.here hx rfl (hb hby d14_18) rfl ks) ?_
    refine own_st (V := (T208.setTop (mkF m 23 #[.val (.ref ep), .val (.long q), .second, .val (.int (own_bs [x0, x1, x2] q))] [(.int (own_bs [x0, x1, x2] q))]))) (fun t ks => XS.goto X208.here hx rfl (pc0 := 19) (pc' := 23) rfl (hb hby d14_19) (by decide) (by decide) ks) ?_
    exact own_retI X208 hx hlk hret (hb hby d14_23) (by decide) (by decide) ⟨by unfold own_ix; rw [if_neg g], e208, rfl⟩
set_option maxRecDepth 65536 in
set_option maxHeartbeats 40000000 in
theorem rmIx (l : Launch) (Z : State) (a0 : Array Value) (hw : ∀ d ∈ tables_1, d.before a0 Z = true) (ep aN : Nat) (kN : ClassId) (q : Int64) (xs : List Int64) (hlen : xs.length ≤ 3) (h0 : Heap) (FN : Fld Z h0 ep "com/example/killifish/killifish/store/Epochs" "numbers" "[J" (.ref aN)) (VN : Arv Z h0 aN kN .long (own_cap xs) (own_pad xs) (.long 0)) (FS : Fld Z h0 ep "com/example/killifish/killifish/store/Epochs" "size" "I" (.int (own_len xs))) :
    OPure l Z (⟨"com/example/killifish/killifish/store/Epochs", "indexOf", "(J)I"⟩ : MethodName) prog_13_method_6_code 4 (some .int) 2 40 #[(.ref ep), (.long q)] h0 (some (.int (own_ix xs q))) := by
  rcases xs with _ | ⟨x0, _ | ⟨x1, _ | ⟨x2, _ | ⟨x3, xt⟩⟩⟩⟩
  · exact rmIx0 l Z a0 hw ep aN kN q h0 FN VN FS
  · exact rmIx1 l Z a0 hw ep aN kN q x0 h0 FN VN FS
  · exact rmIx2 l Z a0 hw ep aN kN q x0 x1 h0 FN VN FS
  · exact rmIx3 l Z a0 hw ep aN kN q x0 x1 x2 h0 FN VN FS
  · exact absurd hlen (by simp)
def own_exp (va vb vc x : Int64) (HA HB HC : Prop) [Decidable HA] [Decidable HB] [Decidable HC] : Int32 := if (HA ∧ x = va) ∨ (HB ∧ x = vb) ∨ (HC ∧ x = vc) then (if HA ∧ va < x then 1 else 0) + (if HB ∧ vb < x then 1 else 0) + (if HC ∧ vc < x then 1 else 0) else -1
theorem own_le {x y : Int64} (h : ¬ x < y) (n : ¬ y = x) : y < x := by rw [← Int64.toInt_inj] at n; rw [Int64.lt_iff_toInt_lt] at *; omega
theorem own_as {x y : Int64} (h : x < y) : ¬ y < x ∧ ¬ x = y ∧ ¬ y = x := by rw [← Int64.toInt_inj, ← Int64.toInt_inj]; rw [Int64.lt_iff_toInt_lt] at *; omega
theorem own_lf_0 {va vb vc : Int64} {HA HB HC : Prop} [Decidable HA] [Decidable HB] [Decidable HC] (hA : ¬ HA) (hB : ¬ HB) (hC : ¬ HC)  (x : Int64) : own_ix [] x = own_exp va vb vc x HA HB HC := by
  simp [own_ix, own_bs, own_exp, hA, hB, hC]
theorem own_lf_va {va vb vc : Int64} {HA HB HC : Prop} [Decidable HA] [Decidable HB] [Decidable HC] (hA : HA) (hB : ¬ HB) (hC : ¬ HC)  (x : Int64) : own_ix [va] x = own_exp va vb vc x HA HB HC := by
  by_cases e0 : x = va
  · subst e0
    simp [own_ix, own_bs, own_exp, hA, hB, hC, Int64.lt_irrefl]
  · skip
    by_cases c0 : va < x
    · have k0 := (own_as c0).1
      simp [own_ix, own_bs, own_exp, hA, hB, hC, Int64.lt_irrefl, e0, c0, k0]
    · have k0 := own_le c0 e0
      simp [own_ix, own_bs, own_exp, hA, hB, hC, Int64.lt_irrefl, e0, c0, k0]
theorem own_lf_vavb {va vb vc : Int64} {HA HB HC : Prop} [Decidable HA] [Decidable HB] [Decidable HC] (hA : HA) (hB : HB) (hC : ¬ HC) (h0 : va < vb) (x : Int64) : own_ix [va, vb] x = own_exp va vb vc x HA HB HC := by
  obtain ⟨h0a, h0b, h0c⟩ := own_as h0
  by_cases e0 : x = va
  · subst e0
    simp [own_ix, own_bs, own_exp, hA, hB, hC, Int64.lt_irrefl, h0, h0a, h0b, h0c]
  · skip
    by_cases e1 : x = vb
    · subst e1
      simp [own_ix, own_bs, own_exp, hA, hB, hC, Int64.lt_irrefl, h0, h0a, h0b, h0c]
    · skip
      by_cases c0 : va < x
      · have k0 := (own_as c0).1
        by_cases c1 : vb < x
        · have k1 := (own_as c1).1
          simp [own_ix, own_bs, own_exp, hA, hB, hC, Int64.lt_irrefl, h0, h0a, h0b, h0c, e0, e1, c0, k0, c1, k1]
        · have k1 := own_le c1 e1
          simp [own_ix, own_bs, own_exp, hA, hB, hC, Int64.lt_irrefl, h0, h0a, h0b, h0c, e0, e1, c0, k0, c1, k1]
      · have k0 := own_le c0 e0
        by_cases c1 : vb < x
        · have k1 := (own_as c1).1
          simp [own_ix, own_bs, own_exp, hA, hB, hC, Int64.lt_irrefl, h0, h0a, h0b, h0c, e0, e1, c0, k0, c1, k1]
        · have k1 := own_le c1 e1
          simp [own_ix, own_bs, own_exp, hA, hB, hC, Int64.lt_irrefl, h0, h0a, h0b, h0c, e0, e1, c0, k0, c1, k1]
theorem own_lf_vbva {va vb vc : Int64} {HA HB HC : Prop} [Decidable HA] [Decidable HB] [Decidable HC] (hA : HA) (hB : HB) (hC : ¬ HC) (h0 : vb < va) (x : Int64) : own_ix [vb, va] x = own_exp va vb vc x HA HB HC := by
  obtain ⟨h0a, h0b, h0c⟩ := own_as h0
  by_cases e0 : x = vb
  · subst e0
    simp [own_ix, own_bs, own_exp, hA, hB, hC, Int64.lt_irrefl, h0, h0a, h0b, h0c]
  · skip
    by_cases e1 : x = va
    · subst e1
      simp [own_ix, own_bs, own_exp, hA, hB, hC, Int64.lt_irrefl, h0, h0a, h0b, h0c]
    · skip
      by_cases c0 : vb < x
      · have k0 := (own_as c0).1
        by_cases c1 : va < x
        · have k1 := (own_as c1).1
          simp [own_ix, own_bs, own_exp, hA, hB, hC, Int64.lt_irrefl, h0, h0a, h0b, h0c, e0, e1, c0, k0, c1, k1]
        · have k1 := own_le c1 e1
          simp [own_ix, own_bs, own_exp, hA, hB, hC, Int64.lt_irrefl, h0, h0a, h0b, h0c, e0, e1, c0, k0, c1, k1]
      · have k0 := own_le c0 e0
        by_cases c1 : va < x
        · have k1 := (own_as c1).1
          simp [own_ix, own_bs, own_exp, hA, hB, hC, Int64.lt_irrefl, h0, h0a, h0b, h0c, e0, e1, c0, k0, c1, k1]
        · have k1 := own_le c1 e1
          simp [own_ix, own_bs, own_exp, hA, hB, hC, Int64.lt_irrefl, h0, h0a, h0b, h0c, e0, e1, c0, k0, c1, k1]
theorem own_lf_vavc {va vb vc : Int64} {HA HB HC : Prop} [Decidable HA] [Decidable HB] [Decidable HC] (hA : HA) (hB : ¬ HB) (hC : HC) (h0 : va < vc) (x : Int64) : own_ix [va, vc] x = own_exp va vb vc x HA HB HC := by
  obtain ⟨h0a, h0b, h0c⟩ := own_as h0
  by_cases e0 : x = va
  · subst e0
    simp [own_ix, own_bs, own_exp, hA, hB, hC, Int64.lt_irrefl, h0, h0a, h0b, h0c]
  · skip
    by_cases e1 : x = vc
    · subst e1
      simp [own_ix, own_bs, own_exp, hA, hB, hC, Int64.lt_irrefl, h0, h0a, h0b, h0c]
    · skip
      by_cases c0 : va < x
      · have k0 := (own_as c0).1
        by_cases c1 : vc < x
        · have k1 := (own_as c1).1
          simp [own_ix, own_bs, own_exp, hA, hB, hC, Int64.lt_irrefl, h0, h0a, h0b, h0c, e0, e1, c0, k0, c1, k1]
        · have k1 := own_le c1 e1
          simp [own_ix, own_bs, own_exp, hA, hB, hC, Int64.lt_irrefl, h0, h0a, h0b, h0c, e0, e1, c0, k0, c1, k1]
      · have k0 := own_le c0 e0
        by_cases c1 : vc < x
        · have k1 := (own_as c1).1
          simp [own_ix, own_bs, own_exp, hA, hB, hC, Int64.lt_irrefl, h0, h0a, h0b, h0c, e0, e1, c0, k0, c1, k1]
        · have k1 := own_le c1 e1
          simp [own_ix, own_bs, own_exp, hA, hB, hC, Int64.lt_irrefl, h0, h0a, h0b, h0c, e0, e1, c0, k0, c1, k1]
theorem own_lf_vcva {va vb vc : Int64} {HA HB HC : Prop} [Decidable HA] [Decidable HB] [Decidable HC] (hA : HA) (hB : ¬ HB) (hC : HC) (h0 : vc < va) (x : Int64) : own_ix [vc, va] x = own_exp va vb vc x HA HB HC := by
  obtain ⟨h0a, h0b, h0c⟩ := own_as h0
  by_cases e0 : x = vc
  · subst e0
    simp [own_ix, own_bs, own_exp, hA, hB, hC, Int64.lt_irrefl, h0, h0a, h0b, h0c]
  · skip
    by_cases e1 : x = va
    · subst e1
      simp [own_ix, own_bs, own_exp, hA, hB, hC, Int64.lt_irrefl, h0, h0a, h0b, h0c]
    · skip
      by_cases c0 : vc < x
      · have k0 := (own_as c0).1
        by_cases c1 : va < x
        · have k1 := (own_as c1).1
          simp [own_ix, own_bs, own_exp, hA, hB, hC, Int64.lt_irrefl, h0, h0a, h0b, h0c, e0, e1, c0, k0, c1, k1]
        · have k1 := own_le c1 e1
          simp [own_ix, own_bs, own_exp, hA, hB, hC, Int64.lt_irrefl, h0, h0a, h0b, h0c, e0, e1, c0, k0, c1, k1]
      · have k0 := own_le c0 e0
        by_cases c1 : va < x
        · have k1 := (own_as c1).1
          simp [own_ix, own_bs, own_exp, hA, hB, hC, Int64.lt_irrefl, h0, h0a, h0b, h0c, e0, e1, c0, k0, c1, k1]
        · have k1 := own_le c1 e1
          simp [own_ix, own_bs, own_exp, hA, hB, hC, Int64.lt_irrefl, h0, h0a, h0b, h0c, e0, e1, c0, k0, c1, k1]
theorem own_lf_vavbvc {va vb vc : Int64} {HA HB HC : Prop} [Decidable HA] [Decidable HB] [Decidable HC] (hA : HA) (hB : HB) (hC : HC) (h0 : va < vb) (h1 : vb < vc) (x : Int64) : own_ix [va, vb, vc] x = own_exp va vb vc x HA HB HC := by
  have h2 : va < vc := by rw [Int64.lt_iff_toInt_lt] at *; omega
  obtain ⟨h0a, h0b, h0c⟩ := own_as h0
  obtain ⟨h1a, h1b, h1c⟩ := own_as h1
  obtain ⟨h2a, h2b, h2c⟩ := own_as h2
  by_cases e0 : x = va
  · subst e0
    simp [own_ix, own_bs, own_exp, hA, hB, hC, Int64.lt_irrefl, h0, h0a, h0b, h0c, h1, h1a, h1b, h1c, h2, h2a, h2b, h2c]
  · skip
    by_cases e1 : x = vb
    · subst e1
      simp [own_ix, own_bs, own_exp, hA, hB, hC, Int64.lt_irrefl, h0, h0a, h0b, h0c, h1, h1a, h1b, h1c, h2, h2a, h2b, h2c]
    · skip
      by_cases e2 : x = vc
      · subst e2
        simp [own_ix, own_bs, own_exp, hA, hB, hC, Int64.lt_irrefl, h0, h0a, h0b, h0c, h1, h1a, h1b, h1c, h2, h2a, h2b, h2c]
      · skip
        by_cases c0 : va < x
        · have k0 := (own_as c0).1
          by_cases c1 : vb < x
          · have k1 := (own_as c1).1
            by_cases c2 : vc < x
            · have k2 := (own_as c2).1
              simp [own_ix, own_bs, own_exp, hA, hB, hC, Int64.lt_irrefl, h0, h0a, h0b, h0c, h1, h1a, h1b, h1c, h2, h2a, h2b, h2c, e0, e1, e2, c0, k0, c1, k1, c2, k2]
            · have k2 := own_le c2 e2
              simp [own_ix, own_bs, own_exp, hA, hB, hC, Int64.lt_irrefl, h0, h0a, h0b, h0c, h1, h1a, h1b, h1c, h2, h2a, h2b, h2c, e0, e1, e2, c0, k0, c1, k1, c2, k2]
          · have k1 := own_le c1 e1
            by_cases c2 : vc < x
            · have k2 := (own_as c2).1
              simp [own_ix, own_bs, own_exp, hA, hB, hC, Int64.lt_irrefl, h0, h0a, h0b, h0c, h1, h1a, h1b, h1c, h2, h2a, h2b, h2c, e0, e1, e2, c0, k0, c1, k1, c2, k2]
            · have k2 := own_le c2 e2
              simp [own_ix, own_bs, own_exp, hA, hB, hC, Int64.lt_irrefl, h0, h0a, h0b, h0c, h1, h1a, h1b, h1c, h2, h2a, h2b, h2c, e0, e1, e2, c0, k0, c1, k1, c2, k2]
        · have k0 := own_le c0 e0
          by_cases c1 : vb < x
          · have k1 := (own_as c1).1
            by_cases c2 : vc < x
            · have k2 := (own_as c2).1
              simp [own_ix, own_bs, own_exp, hA, hB, hC, Int64.lt_irrefl, h0, h0a, h0b, h0c, h1, h1a, h1b, h1c, h2, h2a, h2b, h2c, e0, e1, e2, c0, k0, c1, k1, c2, k2]
            · have k2 := own_le c2 e2
              simp [own_ix, own_bs, own_exp, hA, hB, hC, Int64.lt_irrefl, h0, h0a, h0b, h0c, h1, h1a, h1b, h1c, h2, h2a, h2b, h2c, e0, e1, e2, c0, k0, c1, k1, c2, k2]
          · have k1 := own_le c1 e1
            by_cases c2 : vc < x
            · have k2 := (own_as c2).1
              simp [own_ix, own_bs, own_exp, hA, hB, hC, Int64.lt_irrefl, h0, h0a, h0b, h0c, h1, h1a, h1b, h1c, h2, h2a, h2b, h2c, e0, e1, e2, c0, k0, c1, k1, c2, k2]
            · have k2 := own_le c2 e2
              simp [own_ix, own_bs, own_exp, hA, hB, hC, Int64.lt_irrefl, h0, h0a, h0b, h0c, h1, h1a, h1b, h1c, h2, h2a, h2b, h2c, e0, e1, e2, c0, k0, c1, k1, c2, k2]
theorem own_lf_vavcvb {va vb vc : Int64} {HA HB HC : Prop} [Decidable HA] [Decidable HB] [Decidable HC] (hA : HA) (hB : HB) (hC : HC) (h0 : va < vc) (h1 : vc < vb) (x : Int64) : own_ix [va, vc, vb] x = own_exp va vb vc x HA HB HC := by
  have h2 : va < vb := by rw [Int64.lt_iff_toInt_lt] at *; omega
  obtain ⟨h0a, h0b, h0c⟩ := own_as h0
  obtain ⟨h1a, h1b, h1c⟩ := own_as h1
  obtain ⟨h2a, h2b, h2c⟩ := own_as h2
  by_cases e0 : x = va
  · subst e0
    simp [own_ix, own_bs, own_exp, hA, hB, hC, Int64.lt_irrefl, h0, h0a, h0b, h0c, h1, h1a, h1b, h1c, h2, h2a, h2b, h2c]
  · skip
    by_cases e1 : x = vc
    · subst e1
      simp [own_ix, own_bs, own_exp, hA, hB, hC, Int64.lt_irrefl, h0, h0a, h0b, h0c, h1, h1a, h1b, h1c, h2, h2a, h2b, h2c]
    · skip
      by_cases e2 : x = vb
      · subst e2
        simp [own_ix, own_bs, own_exp, hA, hB, hC, Int64.lt_irrefl, h0, h0a, h0b, h0c, h1, h1a, h1b, h1c, h2, h2a, h2b, h2c]
      · skip
        by_cases c0 : va < x
        · have k0 := (own_as c0).1
          by_cases c1 : vc < x
          · have k1 := (own_as c1).1
            by_cases c2 : vb < x
            · have k2 := (own_as c2).1
              simp [own_ix, own_bs, own_exp, hA, hB, hC, Int64.lt_irrefl, h0, h0a, h0b, h0c, h1, h1a, h1b, h1c, h2, h2a, h2b, h2c, e0, e1, e2, c0, k0, c1, k1, c2, k2]
            · have k2 := own_le c2 e2
              simp [own_ix, own_bs, own_exp, hA, hB, hC, Int64.lt_irrefl, h0, h0a, h0b, h0c, h1, h1a, h1b, h1c, h2, h2a, h2b, h2c, e0, e1, e2, c0, k0, c1, k1, c2, k2]
          · have k1 := own_le c1 e1
            by_cases c2 : vb < x
            · have k2 := (own_as c2).1
              simp [own_ix, own_bs, own_exp, hA, hB, hC, Int64.lt_irrefl, h0, h0a, h0b, h0c, h1, h1a, h1b, h1c, h2, h2a, h2b, h2c, e0, e1, e2, c0, k0, c1, k1, c2, k2]
            · have k2 := own_le c2 e2
              simp [own_ix, own_bs, own_exp, hA, hB, hC, Int64.lt_irrefl, h0, h0a, h0b, h0c, h1, h1a, h1b, h1c, h2, h2a, h2b, h2c, e0, e1, e2, c0, k0, c1, k1, c2, k2]
        · have k0 := own_le c0 e0
          by_cases c1 : vc < x
          · have k1 := (own_as c1).1
            by_cases c2 : vb < x
            · have k2 := (own_as c2).1
              simp [own_ix, own_bs, own_exp, hA, hB, hC, Int64.lt_irrefl, h0, h0a, h0b, h0c, h1, h1a, h1b, h1c, h2, h2a, h2b, h2c, e0, e1, e2, c0, k0, c1, k1, c2, k2]
            · have k2 := own_le c2 e2
              simp [own_ix, own_bs, own_exp, hA, hB, hC, Int64.lt_irrefl, h0, h0a, h0b, h0c, h1, h1a, h1b, h1c, h2, h2a, h2b, h2c, e0, e1, e2, c0, k0, c1, k1, c2, k2]
          · have k1 := own_le c1 e1
            by_cases c2 : vb < x
            · have k2 := (own_as c2).1
              simp [own_ix, own_bs, own_exp, hA, hB, hC, Int64.lt_irrefl, h0, h0a, h0b, h0c, h1, h1a, h1b, h1c, h2, h2a, h2b, h2c, e0, e1, e2, c0, k0, c1, k1, c2, k2]
            · have k2 := own_le c2 e2
              simp [own_ix, own_bs, own_exp, hA, hB, hC, Int64.lt_irrefl, h0, h0a, h0b, h0c, h1, h1a, h1b, h1c, h2, h2a, h2b, h2c, e0, e1, e2, c0, k0, c1, k1, c2, k2]
theorem own_lf_vbvavc {va vb vc : Int64} {HA HB HC : Prop} [Decidable HA] [Decidable HB] [Decidable HC] (hA : HA) (hB : HB) (hC : HC) (h0 : vb < va) (h1 : va < vc) (x : Int64) : own_ix [vb, va, vc] x = own_exp va vb vc x HA HB HC := by
  have h2 : vb < vc := by rw [Int64.lt_iff_toInt_lt] at *; omega
  obtain ⟨h0a, h0b, h0c⟩ := own_as h0
  obtain ⟨h1a, h1b, h1c⟩ := own_as h1
  obtain ⟨h2a, h2b, h2c⟩ := own_as h2
  by_cases e0 : x = vb
  · subst e0
    simp [own_ix, own_bs, own_exp, hA, hB, hC, Int64.lt_irrefl, h0, h0a, h0b, h0c, h1, h1a, h1b, h1c, h2, h2a, h2b, h2c]
  · skip
    by_cases e1 : x = va
    · subst e1
      simp [own_ix, own_bs, own_exp, hA, hB, hC, Int64.lt_irrefl, h0, h0a, h0b, h0c, h1, h1a, h1b, h1c, h2, h2a, h2b, h2c]
    · skip
      by_cases e2 : x = vc
      · subst e2
        simp [own_ix, own_bs, own_exp, hA, hB, hC, Int64.lt_irrefl, h0, h0a, h0b, h0c, h1, h1a, h1b, h1c, h2, h2a, h2b, h2c]
      · skip
        by_cases c0 : vb < x
        · have k0 := (own_as c0).1
          by_cases c1 : va < x
          · have k1 := (own_as c1).1
            by_cases c2 : vc < x
            · have k2 := (own_as c2).1
              simp [own_ix, own_bs, own_exp, hA, hB, hC, Int64.lt_irrefl, h0, h0a, h0b, h0c, h1, h1a, h1b, h1c, h2, h2a, h2b, h2c, e0, e1, e2, c0, k0, c1, k1, c2, k2]
            · have k2 := own_le c2 e2
              simp [own_ix, own_bs, own_exp, hA, hB, hC, Int64.lt_irrefl, h0, h0a, h0b, h0c, h1, h1a, h1b, h1c, h2, h2a, h2b, h2c, e0, e1, e2, c0, k0, c1, k1, c2, k2]
          · have k1 := own_le c1 e1
            by_cases c2 : vc < x
            · have k2 := (own_as c2).1
              simp [own_ix, own_bs, own_exp, hA, hB, hC, Int64.lt_irrefl, h0, h0a, h0b, h0c, h1, h1a, h1b, h1c, h2, h2a, h2b, h2c, e0, e1, e2, c0, k0, c1, k1, c2, k2]
            · have k2 := own_le c2 e2
              simp [own_ix, own_bs, own_exp, hA, hB, hC, Int64.lt_irrefl, h0, h0a, h0b, h0c, h1, h1a, h1b, h1c, h2, h2a, h2b, h2c, e0, e1, e2, c0, k0, c1, k1, c2, k2]
        · have k0 := own_le c0 e0
          by_cases c1 : va < x
          · have k1 := (own_as c1).1
            by_cases c2 : vc < x
            · have k2 := (own_as c2).1
              simp [own_ix, own_bs, own_exp, hA, hB, hC, Int64.lt_irrefl, h0, h0a, h0b, h0c, h1, h1a, h1b, h1c, h2, h2a, h2b, h2c, e0, e1, e2, c0, k0, c1, k1, c2, k2]
            · have k2 := own_le c2 e2
              simp [own_ix, own_bs, own_exp, hA, hB, hC, Int64.lt_irrefl, h0, h0a, h0b, h0c, h1, h1a, h1b, h1c, h2, h2a, h2b, h2c, e0, e1, e2, c0, k0, c1, k1, c2, k2]
          · have k1 := own_le c1 e1
            by_cases c2 : vc < x
            · have k2 := (own_as c2).1
              simp [own_ix, own_bs, own_exp, hA, hB, hC, Int64.lt_irrefl, h0, h0a, h0b, h0c, h1, h1a, h1b, h1c, h2, h2a, h2b, h2c, e0, e1, e2, c0, k0, c1, k1, c2, k2]
            · have k2 := own_le c2 e2
              simp [own_ix, own_bs, own_exp, hA, hB, hC, Int64.lt_irrefl, h0, h0a, h0b, h0c, h1, h1a, h1b, h1c, h2, h2a, h2b, h2c, e0, e1, e2, c0, k0, c1, k1, c2, k2]
theorem own_lf_vbvcva {va vb vc : Int64} {HA HB HC : Prop} [Decidable HA] [Decidable HB] [Decidable HC] (hA : HA) (hB : HB) (hC : HC) (h0 : vb < vc) (h1 : vc < va) (x : Int64) : own_ix [vb, vc, va] x = own_exp va vb vc x HA HB HC := by
  have h2 : vb < va := by rw [Int64.lt_iff_toInt_lt] at *; omega
  obtain ⟨h0a, h0b, h0c⟩ := own_as h0
  obtain ⟨h1a, h1b, h1c⟩ := own_as h1
  obtain ⟨h2a, h2b, h2c⟩ := own_as h2
  by_cases e0 : x = vb
  · subst e0
    simp [own_ix, own_bs, own_exp, hA, hB, hC, Int64.lt_irrefl, h0, h0a, h0b, h0c, h1, h1a, h1b, h1c, h2, h2a, h2b, h2c]
  · skip
    by_cases e1 : x = vc
    · subst e1
      simp [own_ix, own_bs, own_exp, hA, hB, hC, Int64.lt_irrefl, h0, h0a, h0b, h0c, h1, h1a, h1b, h1c, h2, h2a, h2b, h2c]
    · skip
      by_cases e2 : x = va
      · subst e2
        simp [own_ix, own_bs, own_exp, hA, hB, hC, Int64.lt_irrefl, h0, h0a, h0b, h0c, h1, h1a, h1b, h1c, h2, h2a, h2b, h2c]
      · skip
        by_cases c0 : vb < x
        · have k0 := (own_as c0).1
          by_cases c1 : vc < x
          · have k1 := (own_as c1).1
            by_cases c2 : va < x
            · have k2 := (own_as c2).1
              simp [own_ix, own_bs, own_exp, hA, hB, hC, Int64.lt_irrefl, h0, h0a, h0b, h0c, h1, h1a, h1b, h1c, h2, h2a, h2b, h2c, e0, e1, e2, c0, k0, c1, k1, c2, k2]
            · have k2 := own_le c2 e2
              simp [own_ix, own_bs, own_exp, hA, hB, hC, Int64.lt_irrefl, h0, h0a, h0b, h0c, h1, h1a, h1b, h1c, h2, h2a, h2b, h2c, e0, e1, e2, c0, k0, c1, k1, c2, k2]
          · have k1 := own_le c1 e1
            by_cases c2 : va < x
            · have k2 := (own_as c2).1
              simp [own_ix, own_bs, own_exp, hA, hB, hC, Int64.lt_irrefl, h0, h0a, h0b, h0c, h1, h1a, h1b, h1c, h2, h2a, h2b, h2c, e0, e1, e2, c0, k0, c1, k1, c2, k2]
            · have k2 := own_le c2 e2
              simp [own_ix, own_bs, own_exp, hA, hB, hC, Int64.lt_irrefl, h0, h0a, h0b, h0c, h1, h1a, h1b, h1c, h2, h2a, h2b, h2c, e0, e1, e2, c0, k0, c1, k1, c2, k2]
        · have k0 := own_le c0 e0
          by_cases c1 : vc < x
          · have k1 := (own_as c1).1
            by_cases c2 : va < x
            · have k2 := (own_as c2).1
              simp [own_ix, own_bs, own_exp, hA, hB, hC, Int64.lt_irrefl, h0, h0a, h0b, h0c, h1, h1a, h1b, h1c, h2, h2a, h2b, h2c, e0, e1, e2, c0, k0, c1, k1, c2, k2]
            · have k2 := own_le c2 e2
              simp [own_ix, own_bs, own_exp, hA, hB, hC, Int64.lt_irrefl, h0, h0a, h0b, h0c, h1, h1a, h1b, h1c, h2, h2a, h2b, h2c, e0, e1, e2, c0, k0, c1, k1, c2, k2]
          · have k1 := own_le c1 e1
            by_cases c2 : va < x
            · have k2 := (own_as c2).1
              simp [own_ix, own_bs, own_exp, hA, hB, hC, Int64.lt_irrefl, h0, h0a, h0b, h0c, h1, h1a, h1b, h1c, h2, h2a, h2b, h2c, e0, e1, e2, c0, k0, c1, k1, c2, k2]
            · have k2 := own_le c2 e2
              simp [own_ix, own_bs, own_exp, hA, hB, hC, Int64.lt_irrefl, h0, h0a, h0b, h0c, h1, h1a, h1b, h1c, h2, h2a, h2b, h2c, e0, e1, e2, c0, k0, c1, k1, c2, k2]
theorem own_lf_vcvavb {va vb vc : Int64} {HA HB HC : Prop} [Decidable HA] [Decidable HB] [Decidable HC] (hA : HA) (hB : HB) (hC : HC) (h0 : vc < va) (h1 : va < vb) (x : Int64) : own_ix [vc, va, vb] x = own_exp va vb vc x HA HB HC := by
  have h2 : vc < vb := by rw [Int64.lt_iff_toInt_lt] at *; omega
  obtain ⟨h0a, h0b, h0c⟩ := own_as h0
  obtain ⟨h1a, h1b, h1c⟩ := own_as h1
  obtain ⟨h2a, h2b, h2c⟩ := own_as h2
  by_cases e0 : x = vc
  · subst e0
    simp [own_ix, own_bs, own_exp, hA, hB, hC, Int64.lt_irrefl, h0, h0a, h0b, h0c, h1, h1a, h1b, h1c, h2, h2a, h2b, h2c]
  · skip
    by_cases e1 : x = va
    · subst e1
      simp [own_ix, own_bs, own_exp, hA, hB, hC, Int64.lt_irrefl, h0, h0a, h0b, h0c, h1, h1a, h1b, h1c, h2, h2a, h2b, h2c]
    · skip
      by_cases e2 : x = vb
      · subst e2
        simp [own_ix, own_bs, own_exp, hA, hB, hC, Int64.lt_irrefl, h0, h0a, h0b, h0c, h1, h1a, h1b, h1c, h2, h2a, h2b, h2c]
      · skip
        by_cases c0 : vc < x
        · have k0 := (own_as c0).1
          by_cases c1 : va < x
          · have k1 := (own_as c1).1
            by_cases c2 : vb < x
            · have k2 := (own_as c2).1
              simp [own_ix, own_bs, own_exp, hA, hB, hC, Int64.lt_irrefl, h0, h0a, h0b, h0c, h1, h1a, h1b, h1c, h2, h2a, h2b, h2c, e0, e1, e2, c0, k0, c1, k1, c2, k2]
            · have k2 := own_le c2 e2
              simp [own_ix, own_bs, own_exp, hA, hB, hC, Int64.lt_irrefl, h0, h0a, h0b, h0c, h1, h1a, h1b, h1c, h2, h2a, h2b, h2c, e0, e1, e2, c0, k0, c1, k1, c2, k2]
          · have k1 := own_le c1 e1
            by_cases c2 : vb < x
            · have k2 := (own_as c2).1
              simp [own_ix, own_bs, own_exp, hA, hB, hC, Int64.lt_irrefl, h0, h0a, h0b, h0c, h1, h1a, h1b, h1c, h2, h2a, h2b, h2c, e0, e1, e2, c0, k0, c1, k1, c2, k2]
            · have k2 := own_le c2 e2
              simp [own_ix, own_bs, own_exp, hA, hB, hC, Int64.lt_irrefl, h0, h0a, h0b, h0c, h1, h1a, h1b, h1c, h2, h2a, h2b, h2c, e0, e1, e2, c0, k0, c1, k1, c2, k2]
        · have k0 := own_le c0 e0
          by_cases c1 : va < x
          · have k1 := (own_as c1).1
            by_cases c2 : vb < x
            · have k2 := (own_as c2).1
              simp [own_ix, own_bs, own_exp, hA, hB, hC, Int64.lt_irrefl, h0, h0a, h0b, h0c, h1, h1a, h1b, h1c, h2, h2a, h2b, h2c, e0, e1, e2, c0, k0, c1, k1, c2, k2]
            · have k2 := own_le c2 e2
              simp [own_ix, own_bs, own_exp, hA, hB, hC, Int64.lt_irrefl, h0, h0a, h0b, h0c, h1, h1a, h1b, h1c, h2, h2a, h2b, h2c, e0, e1, e2, c0, k0, c1, k1, c2, k2]
          · have k1 := own_le c1 e1
            by_cases c2 : vb < x
            · have k2 := (own_as c2).1
              simp [own_ix, own_bs, own_exp, hA, hB, hC, Int64.lt_irrefl, h0, h0a, h0b, h0c, h1, h1a, h1b, h1c, h2, h2a, h2b, h2c, e0, e1, e2, c0, k0, c1, k1, c2, k2]
            · have k2 := own_le c2 e2
              simp [own_ix, own_bs, own_exp, hA, hB, hC, Int64.lt_irrefl, h0, h0a, h0b, h0c, h1, h1a, h1b, h1c, h2, h2a, h2b, h2c, e0, e1, e2, c0, k0, c1, k1, c2, k2]
theorem own_lf_vcvbva {va vb vc : Int64} {HA HB HC : Prop} [Decidable HA] [Decidable HB] [Decidable HC] (hA : HA) (hB : HB) (hC : HC) (h0 : vc < vb) (h1 : vb < va) (x : Int64) : own_ix [vc, vb, va] x = own_exp va vb vc x HA HB HC := by
  have h2 : vc < va := by rw [Int64.lt_iff_toInt_lt] at *; omega
  obtain ⟨h0a, h0b, h0c⟩ := own_as h0
  obtain ⟨h1a, h1b, h1c⟩ := own_as h1
  obtain ⟨h2a, h2b, h2c⟩ := own_as h2
  by_cases e0 : x = vc
  · subst e0
    simp [own_ix, own_bs, own_exp, hA, hB, hC, Int64.lt_irrefl, h0, h0a, h0b, h0c, h1, h1a, h1b, h1c, h2, h2a, h2b, h2c]
  · skip
    by_cases e1 : x = vb
    · subst e1
      simp [own_ix, own_bs, own_exp, hA, hB, hC, Int64.lt_irrefl, h0, h0a, h0b, h0c, h1, h1a, h1b, h1c, h2, h2a, h2b, h2c]
    · skip
      by_cases e2 : x = va
      · subst e2
        simp [own_ix, own_bs, own_exp, hA, hB, hC, Int64.lt_irrefl, h0, h0a, h0b, h0c, h1, h1a, h1b, h1c, h2, h2a, h2b, h2c]
      · skip
        by_cases c0 : vc < x
        · have k0 := (own_as c0).1
          by_cases c1 : vb < x
          · have k1 := (own_as c1).1
            by_cases c2 : va < x
            · have k2 := (own_as c2).1
              simp [own_ix, own_bs, own_exp, hA, hB, hC, Int64.lt_irrefl, h0, h0a, h0b, h0c, h1, h1a, h1b, h1c, h2, h2a, h2b, h2c, e0, e1, e2, c0, k0, c1, k1, c2, k2]
            · have k2 := own_le c2 e2
              simp [own_ix, own_bs, own_exp, hA, hB, hC, Int64.lt_irrefl, h0, h0a, h0b, h0c, h1, h1a, h1b, h1c, h2, h2a, h2b, h2c, e0, e1, e2, c0, k0, c1, k1, c2, k2]
          · have k1 := own_le c1 e1
            by_cases c2 : va < x
            · have k2 := (own_as c2).1
              simp [own_ix, own_bs, own_exp, hA, hB, hC, Int64.lt_irrefl, h0, h0a, h0b, h0c, h1, h1a, h1b, h1c, h2, h2a, h2b, h2c, e0, e1, e2, c0, k0, c1, k1, c2, k2]
            · have k2 := own_le c2 e2
              simp [own_ix, own_bs, own_exp, hA, hB, hC, Int64.lt_irrefl, h0, h0a, h0b, h0c, h1, h1a, h1b, h1c, h2, h2a, h2b, h2c, e0, e1, e2, c0, k0, c1, k1, c2, k2]
        · have k0 := own_le c0 e0
          by_cases c1 : vb < x
          · have k1 := (own_as c1).1
            by_cases c2 : va < x
            · have k2 := (own_as c2).1
              simp [own_ix, own_bs, own_exp, hA, hB, hC, Int64.lt_irrefl, h0, h0a, h0b, h0c, h1, h1a, h1b, h1c, h2, h2a, h2b, h2c, e0, e1, e2, c0, k0, c1, k1, c2, k2]
            · have k2 := own_le c2 e2
              simp [own_ix, own_bs, own_exp, hA, hB, hC, Int64.lt_irrefl, h0, h0a, h0b, h0c, h1, h1a, h1b, h1c, h2, h2a, h2b, h2c, e0, e1, e2, c0, k0, c1, k1, c2, k2]
          · have k1 := own_le c1 e1
            by_cases c2 : va < x
            · have k2 := (own_as c2).1
              simp [own_ix, own_bs, own_exp, hA, hB, hC, Int64.lt_irrefl, h0, h0a, h0b, h0c, h1, h1a, h1b, h1c, h2, h2a, h2b, h2c, e0, e1, e2, c0, k0, c1, k1, c2, k2]
            · have k2 := own_le c2 e2
              simp [own_ix, own_bs, own_exp, hA, hB, hC, Int64.lt_irrefl, h0, h0a, h0b, h0c, h1, h1a, h1b, h1c, h2, h2a, h2b, h2c, e0, e1, e2, c0, k0, c1, k1, c2, k2]
theorem ef_rm0 (m : MethodId) (x0 : Int64) (x1 : Int64) (x2 : Int64) (x3 : Int64) (x4 : Int32) : entryFrame m #[(.long x0), (.long x1), (.long x2), (.long x3), (.int x4)] maxLocals = mkF m 0 #[.val (.long x0), .second, .val (.long x1), .second, .val (.long x2), .second, .val (.long x3), .second, .val (.int x4), .unset, .unset, .unset, .unset, .unset, .unset, .unset, .unset, .unset, .unset] [] := by first | (simp [entryFrame, mkF, argsToLocals, Value.category, maxLocals]; done) | rfl
set_option maxRecDepth 65536 in
set_option maxHeartbeats 40000000 in
theorem rm0 (l : Launch) (Z : State) (a0 : Array Value) (hw : ∀ d ∈ tables_1, d.before a0 Z = true) (va vb vc vq : Int64) (pn : Int32) (h0 : Heap) (hZ0 : Z.heap.size = h0.size) :
    OMet l Z x code maxLocals ret room_1 #[(.long va), (.long vb), (.long vc), (.long vq), (.int pn)] h0 (fun v h L => v = some (.int 1) ∧ Fr Z.heap.size L) := by
  refine own_body pf_0 ?_
  intro p e s m below meth c T0 X0 hx hby hml hZ hown hnm hret hlk e0
  replace hown : s.vm.findClass "com/example/killifish/killifish/store/EpochsIndexOfPinLaw" = some m.cls := hown
  refine own_cast (ef_rm0 m (va) (vb) (vc) (vq) (pn)) ?_
  show OGoes p.tables e below _ (T0.setTop (mkF m 0 #[.val (.long va), .second, .val (.long vb), .second, .val (.long vc), .second, .val (.long vq), .second, .val (.int pn), .unset, .unset, .unset, .unset, .unset, .unset, .unset, .unset, .unset, .unset] []))
  refine own_st (V := (T0.setTop (mkF m 2 #[.val (.long va), .second, .val (.long vb), .second, .val (.long vc), .second, .val (.long vq), .second, .val (.int pn), .unset, .unset, .unset, .unset, .unset, .unset, .unset, .unset, .unset, .unset] [(.int pn)]))) (fun t ks => XS.iload X0.here hx rfl (hb hby at_0) rfl ks) ?_
  refine own_st (V := (T0.setTop (mkF m 3 #[.val (.long va), .second, .val (.long vb), .second, .val (.long vc), .second, .val (.long vq), .second, .val (.int pn), .unset, .unset, .unset, .unset, .unset, .unset, .unset, .unset, .unset, .unset] [(.int (3 : Int32)), (.int pn)]))) (fun t ks => XS.iconst X0.here hx rfl (hb hby at_2) ks) ?_
  refine own_st (V := (T0.setTop (mkF m 4 #[.val (.long va), .second, .val (.long vb), .second, .val (.long vc), .second, .val (.long vq), .second, .val (.int pn), .unset, .unset, .unset, .unset, .unset, .unset, .unset, .unset, .unset, .unset] [(.int (pn &&& (3 : Int32)))]))) (fun t ks => XS.iand X0.here hx rfl (hb hby at_3) rfl ks) ?_
  obtain ⟨ct, hct⟩ : ∃ z, z = (pn &&& (3 : Int32)) := ⟨_, rfl⟩
  refine own_cast (g' := (mkF m 4 #[.val (.long va), .second, .val (.long vb), .second, .val (.long vc), .second, .val (.long vq), .second, .val (.int pn), .unset, .unset, .unset, .unset, .unset, .unset, .unset, .unset, .unset, .unset] [(.int ct)])) (by rw [show (pn &&& (3 : Int32)) = ct from hct.symm]) ?_
  refine own_st (V := (T0.setTop (mkF m 6 #[.val (.long va), .second, .val (.long vb), .second, .val (.long vc), .second, .val (.long vq), .second, .val (.int pn), .val (.int ct), .unset, .unset, .unset, .unset, .unset, .unset, .unset, .unset, .unset] []))) (fun t ks => XS.istore X0.here hx rfl (hb hby at_4) rfl (l' := #[.val (.long va), .second, .val (.long vb), .second, .val (.long vc), .second, .val (.long vq), .second, .val (.int pn), .val (.int ct), .unset, .unset, .unset, .unset, .unset, .unset, .unset, .unset, .unset]) rfl ks) ?_
  refine own_st (V := (T0.setTop (mkF m 8 #[.val (.long va), .second, .val (.long vb), .second, .val (.long vc), .second, .val (.long vq), .second, .val (.int pn), .val (.int ct), .unset, .unset, .unset, .unset, .unset, .unset, .unset, .unset, .unset] [(.int pn)]))) (fun t ks => XS.iload X0.here hx rfl (hb hby at_6) rfl ks) ?_
  refine own_st (V := (T0.setTop (mkF m 9 #[.val (.long va), .second, .val (.long vb), .second, .val (.long vc), .second, .val (.long vq), .second, .val (.int pn), .val (.int ct), .unset, .unset, .unset, .unset, .unset, .unset, .unset, .unset, .unset] [(.int (2 : Int32)), (.int pn)]))) (fun t ks => XS.iconst X0.here hx rfl (hb hby at_8) ks) ?_
  refine own_st (V := (T0.setTop (mkF m 10 #[.val (.long va), .second, .val (.long vb), .second, .val (.long vc), .second, .val (.long vq), .second, .val (.int pn), .val (.int ct), .unset, .unset, .unset, .unset, .unset, .unset, .unset, .unset, .unset] [(.int ((pn.toUInt32 >>> ((2 : Int32) &&& 31).toUInt32).toInt32))]))) (fun t ks => XS.iushr X0.here hx rfl (hb hby at_9) rfl ks) ?_
  refine own_st (V := (T0.setTop (mkF m 11 #[.val (.long va), .second, .val (.long vb), .second, .val (.long vc), .second, .val (.long vq), .second, .val (.int pn), .val (.int ct), .unset, .unset, .unset, .unset, .unset, .unset, .unset, .unset, .unset] [(.int (3 : Int32)), (.int ((pn.toUInt32 >>> ((2 : Int32) &&& 31).toUInt32).toInt32))]))) (fun t ks => XS.iconst X0.here hx rfl (hb hby at_10) ks) ?_
  refine own_st (V := (T0.setTop (mkF m 12 #[.val (.long va), .second, .val (.long vb), .second, .val (.long vc), .second, .val (.long vq), .second, .val (.int pn), .val (.int ct), .unset, .unset, .unset, .unset, .unset, .unset, .unset, .unset, .unset] [(.int (((pn.toUInt32 >>> ((2 : Int32) &&& 31).toUInt32).toInt32) &&& (3 : Int32)))]))) (fun t ks => XS.iand X0.here hx rfl (hb hby at_11) rfl ks) ?_
  obtain ⟨sl, hsl⟩ : ∃ z, z = (((pn.toUInt32 >>> ((2 : Int32) &&& 31).toUInt32).toInt32) &&& (3 : Int32)) := ⟨_, rfl⟩
  refine own_cast (g' := (mkF m 12 #[.val (.long va), .second, .val (.long vb), .second, .val (.long vc), .second, .val (.long vq), .second, .val (.int pn), .val (.int ct), .unset, .unset, .unset, .unset, .unset, .unset, .unset, .unset, .unset] [(.int sl)])) (by rw [show (((pn.toUInt32 >>> ((2 : Int32) &&& 31).toUInt32).toInt32) &&& (3 : Int32)) = sl from hsl.symm]) ?_
  clear hct hsl
  refine own_st (V := (T0.setTop (mkF m 14 #[.val (.long va), .second, .val (.long vb), .second, .val (.long vc), .second, .val (.long vq), .second, .val (.int pn), .val (.int ct), .val (.int sl), .unset, .unset, .unset, .unset, .unset, .unset, .unset, .unset] []))) (fun t ks => XS.istore X0.here hx rfl (hb hby at_12) rfl (l' := #[.val (.long va), .second, .val (.long vb), .second, .val (.long vc), .second, .val (.long vq), .second, .val (.int pn), .val (.int ct), .val (.int sl), .unset, .unset, .unset, .unset, .unset, .unset, .unset, .unset]) rfl ks) ?_
  refine own_st (V := (T0.setTop (mkF m 16 #[.val (.long va), .second, .val (.long vb), .second, .val (.long vc), .second, .val (.long vq), .second, .val (.int pn), .val (.int ct), .val (.int sl), .unset, .unset, .unset, .unset, .unset, .unset, .unset, .unset] [(.int ct)]))) (fun t ks => XS.iload X0.here hx rfl (hb hby at_14) rfl ks) ?_
  refine own_st (V := (T0.setTop (mkF m 17 #[.val (.long va), .second, .val (.long vb), .second, .val (.long vc), .second, .val (.long vq), .second, .val (.int pn), .val (.int ct), .val (.int sl), .unset, .unset, .unset, .unset, .unset, .unset, .unset, .unset] [(.int (1 : Int32)), (.int ct)]))) (fun t ks => XS.iconst X0.here hx rfl (hb hby at_16) ks) ?_
  have K25 : ∀ (zA : Int32) (hzA : zA = if ¬ ct < 1 then 1 else 0), OGoes p.tables e below (ODone room_1 s below (fun v h L => v = some (.int 1) ∧ Fr Z.heap.size L)) (T0.setTop (mkF m 25 #[.val (.long va), .second, .val (.long vb), .second, .val (.long vc), .second, .val (.long vq), .second, .val (.int pn), .val (.int ct), .val (.int sl), .unset, .unset, .unset, .unset, .unset, .unset, .unset, .unset] [(.int zA)])) := by
    intro zA hzA
    refine own_st (V := (T0.setTop (mkF m 27 #[.val (.long va), .second, .val (.long vb), .second, .val (.long vc), .second, .val (.long vq), .second, .val (.int pn), .val (.int ct), .val (.int sl), .val (.int zA), .unset, .unset, .unset, .unset, .unset, .unset, .unset] []))) (fun t ks => XS.istore X0.here hx rfl (hb hby at_25) rfl (l' := #[.val (.long va), .second, .val (.long vb), .second, .val (.long vc), .second, .val (.long vq), .second, .val (.int pn), .val (.int ct), .val (.int sl), .val (.int zA), .unset, .unset, .unset, .unset, .unset, .unset, .unset]) rfl ks) ?_
    refine own_st (V := (T0.setTop (mkF m 29 #[.val (.long va), .second, .val (.long vb), .second, .val (.long vc), .second, .val (.long vq), .second, .val (.int pn), .val (.int ct), .val (.int sl), .val (.int zA), .unset, .unset, .unset, .unset, .unset, .unset, .unset] [(.int ct)]))) (fun t ks => XS.iload X0.here hx rfl (hb hby at_27) rfl ks) ?_
    refine own_st (V := (T0.setTop (mkF m 30 #[.val (.long va), .second, .val (.long vb), .second, .val (.long vc), .second, .val (.long vq), .second, .val (.int pn), .val (.int ct), .val (.int sl), .val (.int zA), .unset, .unset, .unset, .unset, .unset, .unset, .unset] [(.int (2 : Int32)), (.int ct)]))) (fun t ks => XS.iconst X0.here hx rfl (hb hby at_29) ks) ?_
    have K44 : ∀ (zB : Int32) (hzB : zB = if (¬ ct < 2 ∧ ¬ vb = va) then 1 else 0), OGoes p.tables e below (ODone room_1 s below (fun v h L => v = some (.int 1) ∧ Fr Z.heap.size L)) (T0.setTop (mkF m 44 #[.val (.long va), .second, .val (.long vb), .second, .val (.long vc), .second, .val (.long vq), .second, .val (.int pn), .val (.int ct), .val (.int sl), .val (.int zA), .unset, .unset, .unset, .unset, .unset, .unset, .unset] [(.int zB)])) := by
      intro zB hzB
      refine own_st (V := (T0.setTop (mkF m 46 #[.val (.long va), .second, .val (.long vb), .second, .val (.long vc), .second, .val (.long vq), .second, .val (.int pn), .val (.int ct), .val (.int sl), .val (.int zA), .val (.int zB), .unset, .unset, .unset, .unset, .unset, .unset] []))) (fun t ks => XS.istore X0.here hx rfl (hb hby at_44) rfl (l' := #[.val (.long va), .second, .val (.long vb), .second, .val (.long vc), .second, .val (.long vq), .second, .val (.int pn), .val (.int ct), .val (.int sl), .val (.int zA), .val (.int zB), .unset, .unset, .unset, .unset, .unset, .unset]) rfl ks) ?_
      refine own_st (V := (T0.setTop (mkF m 48 #[.val (.long va), .second, .val (.long vb), .second, .val (.long vc), .second, .val (.long vq), .second, .val (.int pn), .val (.int ct), .val (.int sl), .val (.int zA), .val (.int zB), .unset, .unset, .unset, .unset, .unset, .unset] [(.int ct)]))) (fun t ks => XS.iload X0.here hx rfl (hb hby at_46) rfl ks) ?_
      refine own_st (V := (T0.setTop (mkF m 49 #[.val (.long va), .second, .val (.long vb), .second, .val (.long vc), .second, .val (.long vq), .second, .val (.int pn), .val (.int ct), .val (.int sl), .val (.int zA), .val (.int zB), .unset, .unset, .unset, .unset, .unset, .unset] [(.int (3 : Int32)), (.int ct)]))) (fun t ks => XS.iconst X0.here hx rfl (hb hby at_48) ks) ?_
      have K71 : ∀ (zC : Int32) (hzC : zC = if (¬ ct < 3 ∧ ¬ vc = va ∧ ¬ vc = vb) then 1 else 0), OGoes p.tables e below (ODone room_1 s below (fun v h L => v = some (.int 1) ∧ Fr Z.heap.size L)) (T0.setTop (mkF m 71 #[.val (.long va), .second, .val (.long vb), .second, .val (.long vc), .second, .val (.long vq), .second, .val (.int pn), .val (.int ct), .val (.int sl), .val (.int zA), .val (.int zB), .unset, .unset, .unset, .unset, .unset, .unset] [(.int zC)])) := by
        intro zC hzC
        refine own_st (V := (T0.setTop (mkF m 73 #[.val (.long va), .second, .val (.long vb), .second, .val (.long vc), .second, .val (.long vq), .second, .val (.int pn), .val (.int ct), .val (.int sl), .val (.int zA), .val (.int zB), .val (.int zC), .unset, .unset, .unset, .unset, .unset] []))) (fun t ks => XS.istore X0.here hx rfl (hb hby at_71) rfl (l' := #[.val (.long va), .second, .val (.long vb), .second, .val (.long vc), .second, .val (.long vq), .second, .val (.int pn), .val (.int ct), .val (.int sl), .val (.int zA), .val (.int zB), .val (.int zC), .unset, .unset, .unset, .unset, .unset]) rfl ks) ?_
        refine own_new X0 hx hZ e0 hown (hw _ (List.mem_of_getElem? (i := 0) rfl)) (hw _ (List.mem_of_getElem? (i := 1) rfl)) (hw _ (List.mem_of_getElem? (i := 2) rfl)) (by decide) (by decide) (hb hby at_73) ?_
        intro T209 h209 b209 X209 e209 Ex209 g209 Ee D209
        have ltn_209 : @LT.lt Nat _ b209 h209.size := Ee.lt
        have e_numbers := D209 (Or.inl (hw _ (List.mem_of_getElem? (i := 11) rfl))) (ty := (.array .long)) (by decide)
        have e_generations := D209 (Or.inl (hw _ (List.mem_of_getElem? (i := 14) rfl))) (ty := (.array .int)) (by decide)
        have e_written := D209 (Or.inl (hw _ (List.mem_of_getElem? (i := 16) rfl))) (ty := (.array .long)) (by decide)
        have e_counts := D209 (Or.inl (hw _ (List.mem_of_getElem? (i := 18) rfl))) (ty := (.array .int)) (by decide)
        have e_deadBytes := D209 (Or.inl (hw _ (List.mem_of_getElem? (i := 20) rfl))) (ty := (.array .long)) (by decide)
        have e_flags := D209 (Or.inl (hw _ (List.mem_of_getElem? (i := 23) rfl))) (ty := (.array .byte)) (by decide)
        have e_size := D209 (Or.inl (hw _ (List.mem_of_getElem? (i := 30) rfl))) (ty := .int) (by decide)
        clear D209
        show OGoes p.tables e below _ (T209.setTop (mkF m 76 #[.val (.long va), .second, .val (.long vb), .second, .val (.long vc), .second, .val (.long vq), .second, .val (.int pn), .val (.int ct), .val (.int sl), .val (.int zA), .val (.int zB), .val (.int zC), .unset, .unset, .unset, .unset, .unset] [(.ref b209)]))
        refine own_st (V := (T209.setTop (mkF m 77 #[.val (.long va), .second, .val (.long vb), .second, .val (.long vc), .second, .val (.long vq), .second, .val (.int pn), .val (.int ct), .val (.int sl), .val (.int zA), .val (.int zB), .val (.int zC), .unset, .unset, .unset, .unset, .unset] [(.ref b209), (.ref b209)]))) (fun t ks => XS.dup X209.here hx rfl (hb hby at_76) rfl rfl ks) ?_
        refine own_callN X209 hx hZ rfl hown (hw _ (List.mem_of_getElem? (i := 3) rfl)) (hw _ (List.mem_of_getElem? (i := 4) rfl)) (hw _ (List.mem_of_getElem? (i := 2) rfl)) (hw _ (List.mem_of_getElem? (i := 5) rfl)) (by decide) (rmIn l Z a0 hw b209 h209 (by omega) Ee e_numbers e_generations e_written e_counts e_deadBytes e_flags e_size) e209 (by rw [hml]; rfl) (argsL := []) (rest := [(.ref b209)]) pd_7 rfl rfl rfl (W := 1) (Nat.le_of_eq rfl) (hb hby at_77) (by decide) (by decide) (by decide) (by decide) ?_
        rintro v210 T210 L210 X210 ⟨rfl, N210, H210⟩
        replace N210 := Fr.app (Fr.nil Z.heap.size) N210
        show OGoes p.tables e below _ (T210.setTop (mkF m 80 #[.val (.long va), .second, .val (.long vb), .second, .val (.long vc), .second, .val (.long vq), .second, .val (.int pn), .val (.int ct), .val (.int sl), .val (.int zA), .val (.int zB), .val (.int zC), .unset, .unset, .unset, .unset, .unset] [(.ref b209)]))
        refine own_st (V := (T210.setTop (mkF m 82 #[.val (.long va), .second, .val (.long vb), .second, .val (.long vc), .second, .val (.long vq), .second, .val (.int pn), .val (.int ct), .val (.int sl), .val (.int zA), .val (.int zB), .val (.int zC), .val (.ref b209), .unset, .unset, .unset, .unset] []))) (fun t ks => XS.astore X210.here hx rfl (hb hby at_80) rfl rfl (l' := #[.val (.long va), .second, .val (.long vb), .second, .val (.long vc), .second, .val (.long vq), .second, .val (.int pn), .val (.int ct), .val (.int sl), .val (.int zA), .val (.int zB), .val (.int zC), .val (.ref b209), .unset, .unset, .unset, .unset]) rfl ks) ?_
        have K119 : ∀ (T : State) (h : Heap) (L : List Loc) (nc ns : Nat), Stand p l e room_1 s m #[(.long va), (.long vb), (.long vc), (.long vq), (.int pn)] below meth c T L nc ns → nc ≤ 40 → ns ≤ 128 → T.heap = h → Fr Z.heap.size L → ∀ (aN : Nat) (kN : ClassId) (xs : List Int64), xs.length ≤ 3 → Exa Z h b209 "com/example/killifish/killifish/store/Epochs" → Fld Z h b209 "com/example/killifish/killifish/store/Epochs" "numbers" "[J" (.ref aN) → Arv Z h aN kN .long (own_cap xs) (own_pad xs) (.long 0) → Fld Z h b209 "com/example/killifish/killifish/store/Epochs" "size" "I" (.int (own_len xs)) → (∀ x, own_ix xs x = own_exp va vb vc x (¬ ct < 1) (¬ ct < 2 ∧ ¬ vb = va) (¬ ct < 3 ∧ ¬ vc = va ∧ ¬ vc = vb)) → OGoes p.tables e below (ODone room_1 s below (fun v h L => v = some (.int 1) ∧ Fr Z.heap.size L)) (T.setTop (mkF m 119 #[.val (.long va), .second, .val (.long vb), .second, .val (.long vc), .second, .val (.long vq), .second, .val (.int pn), .val (.int ct), .val (.int sl), .val (.int zA), .val (.int zB), .val (.int zC), .val (.ref b209), .unset, .unset, .unset, .unset] [])) := by
          intro T h L nc ns X hcl hsl eh N aN kN xs hlen E FN VN FS hix
          refine own_st (V := (T.setTop (mkF m 121 #[.val (.long va), .second, .val (.long vb), .second, .val (.long vc), .second, .val (.long vq), .second, .val (.int pn), .val (.int ct), .val (.int sl), .val (.int zA), .val (.int zB), .val (.int zC), .val (.ref b209), .unset, .unset, .unset, .unset] [(.long vq)]))) (fun t ks => XS.lload X.here hx rfl (hb hby at_119) rfl ks) ?_
          refine own_st (V := (T.setTop (mkF m 123 #[.val (.long va), .second, .val (.long vb), .second, .val (.long vc), .second, .val (.long vq), .second, .val (.int pn), .val (.int ct), .val (.int sl), .val (.int zA), .val (.int zB), .val (.int zC), .val (.ref b209), .val (.long vq), .second, .unset, .unset] []))) (fun t ks => XS.lstore X.here hx rfl (hb hby at_121) rfl (l' := #[.val (.long va), .second, .val (.long vb), .second, .val (.long vc), .second, .val (.long vq), .second, .val (.int pn), .val (.int ct), .val (.int sl), .val (.int zA), .val (.int zB), .val (.int zC), .val (.ref b209), .val (.long vq), .second, .unset, .unset]) rfl ks) ?_
          have K157 : ∀ (x : Int64), OGoes p.tables e below (ODone room_1 s below (fun v h L => v = some (.int 1) ∧ Fr Z.heap.size L)) (T.setTop (mkF m 157 #[.val (.long va), .second, .val (.long vb), .second, .val (.long vc), .second, .val (.long vq), .second, .val (.int pn), .val (.int ct), .val (.int sl), .val (.int zA), .val (.int zB), .val (.int zC), .val (.ref b209), .val (.long x), .second, .unset, .unset] [])) := by
            intro x
            have K270 : ∀ (zp ee : Int32) (he : ee = own_exp va vb vc x (¬ ct < 1) (¬ ct < 2 ∧ ¬ vb = va) (¬ ct < 3 ∧ ¬ vc = va ∧ ¬ vc = vb)), OGoes p.tables e below (ODone room_1 s below (fun v h L => v = some (.int 1) ∧ Fr Z.heap.size L)) (T.setTop (mkF m 270 #[.val (.long va), .second, .val (.long vb), .second, .val (.long vc), .second, .val (.long vq), .second, .val (.int pn), .val (.int ct), .val (.int sl), .val (.int zA), .val (.int zB), .val (.int zC), .val (.ref b209), .val (.long x), .second, .val (.int zp), .val (.int ee)] [])) := by
              intro zp ee he
              refine own_st (V := (T.setTop (mkF m 272 #[.val (.long va), .second, .val (.long vb), .second, .val (.long vc), .second, .val (.long vq), .second, .val (.int pn), .val (.int ct), .val (.int sl), .val (.int zA), .val (.int zB), .val (.int zC), .val (.ref b209), .val (.long x), .second, .val (.int zp), .val (.int ee)] [(.ref b209)]))) (fun t ks => XS.aload X.here hx rfl (hb hby at_270) rfl rfl ks) ?_
              refine own_st (V := (T.setTop (mkF m 274 #[.val (.long va), .second, .val (.long vb), .second, .val (.long vc), .second, .val (.long vq), .second, .val (.int pn), .val (.int ct), .val (.int sl), .val (.int zA), .val (.int zB), .val (.int zC), .val (.ref b209), .val (.long x), .second, .val (.int zp), .val (.int ee)] [(.long x), (.ref b209)]))) (fun t ks => XS.lload X.here hx rfl (hb hby at_272) rfl ks) ?_
              refine own_callV0 X hx hZ hown (hw _ (List.mem_of_getElem? (i := 70) rfl)) (hw _ (List.mem_of_getElem? (i := 71) rfl)) (hw _ (List.mem_of_getElem? (i := 73) rfl)) (hw _ (List.mem_of_getElem? (i := 72) rfl)) (hw _ (List.mem_of_getElem? (i := 2) rfl)) (hw _ (List.mem_of_getElem? (i := 74) rfl)) (by decide) (rmIx l Z a0 hw b209 aN kN x xs hlen h FN VN FS) eh E (by rw [hml]; rfl) (argsL := [(.long x)]) (rest := []) pd_8 rfl rfl rfl (W := 0) (Nat.le_of_eq rfl) (hb hby at_274) (by decide) (by decide) hcl hsl ?_
              intro T211 X211 e211
              show OGoes p.tables e below _ (T211.setTop (mkF m 277 #[.val (.long va), .second, .val (.long vb), .second, .val (.long vc), .second, .val (.long vq), .second, .val (.int pn), .val (.int ct), .val (.int sl), .val (.int zA), .val (.int zB), .val (.int zC), .val (.ref b209), .val (.long x), .second, .val (.int zp), .val (.int ee)] [(.int (own_ix xs x))]))
              refine own_st (V := (T211.setTop (mkF m 279 #[.val (.long va), .second, .val (.long vb), .second, .val (.long vc), .second, .val (.long vq), .second, .val (.int pn), .val (.int ct), .val (.int sl), .val (.int zA), .val (.int zB), .val (.int zC), .val (.ref b209), .val (.long x), .second, .val (.int zp), .val (.int ee)] [(.int ee), (.int (own_ix xs x))]))) (fun t ks => XS.iload X211.here hx rfl (hb hby at_277) rfl ks) ?_
              refine own_st (V := (T211.setTop (mkF m 282 #[.val (.long va), .second, .val (.long vb), .second, .val (.long vc), .second, .val (.long vq), .second, .val (.int pn), .val (.int ct), .val (.int sl), .val (.int zA), .val (.int zB), .val (.int zC), .val (.ref b209), .val (.long x), .second, .val (.int zp), .val (.int ee)] []))) (fun t ks => XS.icmpNo X211.here hx rfl (hb hby at_279) rfl (XT.ii_ne_f ((hix x).trans he.symm)) ks) ?_
              refine own_st (V := (T211.setTop (mkF m 283 #[.val (.long va), .second, .val (.long vb), .second, .val (.long vc), .second, .val (.long vq), .second, .val (.int pn), .val (.int ct), .val (.int sl), .val (.int zA), .val (.int zB), .val (.int zC), .val (.ref b209), .val (.long x), .second, .val (.int zp), .val (.int ee)] [(.int (1 : Int32))]))) (fun t ks => XS.iconst X211.here hx rfl (hb hby at_282) ks) ?_
              refine own_st (V := (T211.setTop (mkF m 287 #[.val (.long va), .second, .val (.long vb), .second, .val (.long vc), .second, .val (.long vq), .second, .val (.int pn), .val (.int ct), .val (.int sl), .val (.int zA), .val (.int zB), .val (.int zC), .val (.ref b209), .val (.long x), .second, .val (.int zp), .val (.int ee)] [(.int (1 : Int32))]))) (fun t ks => XS.goto X211.here hx rfl (pc0 := 283) (pc' := 287) rfl (hb hby at_283) (by decide) (by decide) ks) ?_
              exact own_retN X211 hx hlk (by simp) hret (hb hby at_287) hcl hsl ⟨rfl, N⟩
            have K199 : ∀ (zp : Int32) (hp : zp = if ((¬ ct < 1 ∧ x = va) ∨ ((¬ ct < 2 ∧ ¬ vb = va) ∧ x = vb) ∨ ((¬ ct < 3 ∧ ¬ vc = va ∧ ¬ vc = vb) ∧ x = vc)) then 1 else 0), OGoes p.tables e below (ODone room_1 s below (fun v h L => v = some (.int 1) ∧ Fr Z.heap.size L)) (T.setTop (mkF m 199 #[.val (.long va), .second, .val (.long vb), .second, .val (.long vc), .second, .val (.long vq), .second, .val (.int pn), .val (.int ct), .val (.int sl), .val (.int zA), .val (.int zB), .val (.int zC), .val (.ref b209), .val (.long x), .second, .unset, .unset] [(.int zp)])) := by
              intro zp hp
              refine own_st (V := (T.setTop (mkF m 201 #[.val (.long va), .second, .val (.long vb), .second, .val (.long vc), .second, .val (.long vq), .second, .val (.int pn), .val (.int ct), .val (.int sl), .val (.int zA), .val (.int zB), .val (.int zC), .val (.ref b209), .val (.long x), .second, .val (.int zp), .unset] []))) (fun t ks => XS.istore X.here hx rfl (hb hby at_199) rfl (l' := #[.val (.long va), .second, .val (.long vb), .second, .val (.long vc), .second, .val (.long vq), .second, .val (.int pn), .val (.int ct), .val (.int sl), .val (.int zA), .val (.int zB), .val (.int zC), .val (.ref b209), .val (.long x), .second, .val (.int zp), .unset]) rfl ks) ?_
              refine own_st (V := (T.setTop (mkF m 203 #[.val (.long va), .second, .val (.long vb), .second, .val (.long vc), .second, .val (.long vq), .second, .val (.int pn), .val (.int ct), .val (.int sl), .val (.int zA), .val (.int zB), .val (.int zC), .val (.ref b209), .val (.long x), .second, .val (.int zp), .unset] [(.int zp)]))) (fun t ks => XS.iload X.here hx rfl (hb hby at_201) rfl ks) ?_
              by_cases g0 : zp = 0
              · refine own_st (V := (T.setTop (mkF m 267 #[.val (.long va), .second, .val (.long vb), .second, .val (.long vc), .second, .val (.long vq), .second, .val (.int pn), .val (.int ct), .val (.int sl), .val (.int zA), .val (.int zB), .val (.int zC), .val (.ref b209), .val (.long x), .second, .val (.int zp), .unset] []))) (fun t ks => XS.ifYes X.here hx rfl (pc0 := 203) (pc' := 267) rfl (hb hby at_203) rfl (XT.i0_eq_t g0) (by decide) (by decide) ks) ?_
                refine own_st (V := (T.setTop (mkF m 268 #[.val (.long va), .second, .val (.long vb), .second, .val (.long vc), .second, .val (.long vq), .second, .val (.int pn), .val (.int ct), .val (.int sl), .val (.int zA), .val (.int zB), .val (.int zC), .val (.ref b209), .val (.long x), .second, .val (.int zp), .unset] [(.int (-1 : Int32))]))) (fun t ks => XS.iconst X.here hx rfl (hb hby at_267) ks) ?_
                refine own_st (V := (T.setTop (mkF m 270 #[.val (.long va), .second, .val (.long vb), .second, .val (.long vc), .second, .val (.long vq), .second, .val (.int pn), .val (.int ct), .val (.int sl), .val (.int zA), .val (.int zB), .val (.int zC), .val (.ref b209), .val (.long x), .second, .val (.int zp), .val (.int (-1 : Int32))] []))) (fun t ks => XS.istore X.here hx rfl (hb hby at_268) rfl (l' := #[.val (.long va), .second, .val (.long vb), .second, .val (.long vc), .second, .val (.long vq), .second, .val (.int pn), .val (.int ct), .val (.int sl), .val (.int zA), .val (.int zB), .val (.int zC), .val (.ref b209), .val (.long x), .second, .val (.int zp), .val (.int (-1 : Int32))]) rfl ks) ?_
                exact K270 _ _ (by have q : ¬ ((¬ ct < 1 ∧ x = va) ∨ ((¬ ct < 2 ∧ ¬ vb = va) ∧ x = vb) ∨ ((¬ ct < 3 ∧ ¬ vc = va ∧ ¬ vc = vb) ∧ x = vc)) := (fun q => by rw [hp, if_pos q] at g0; exact absurd g0 (by decide)); unfold own_exp; rw [if_neg q])
              · refine own_st (V := (T.setTop (mkF m 206 #[.val (.long va), .second, .val (.long vb), .second, .val (.long vc), .second, .val (.long vq), .second, .val (.int pn), .val (.int ct), .val (.int sl), .val (.int zA), .val (.int zB), .val (.int zC), .val (.ref b209), .val (.long x), .second, .val (.int zp), .unset] []))) (fun t ks => XS.ifNo X.here hx rfl (hb hby at_203) rfl (XT.i0_eq_f g0) ks) ?_
                have q : ((¬ ct < 1 ∧ x = va) ∨ ((¬ ct < 2 ∧ ¬ vb = va) ∧ x = vb) ∨ ((¬ ct < 3 ∧ ¬ vc = va ∧ ¬ vc = vb) ∧ x = vc)) := Decidable.byContradiction fun q => by rw [hp, if_neg q] at g0; exact g0 rfl
                refine own_st (V := (T.setTop (mkF m 207 #[.val (.long va), .second, .val (.long vb), .second, .val (.long vc), .second, .val (.long vq), .second, .val (.int pn), .val (.int ct), .val (.int sl), .val (.int zA), .val (.int zB), .val (.int zC), .val (.ref b209), .val (.long x), .second, .val (.int zp), .unset] [(.int (0 : Int32))]))) (fun t ks => XS.iconst X.here hx rfl (hb hby at_206) ks) ?_
                refine own_st (V := (T.setTop (mkF m 209 #[.val (.long va), .second, .val (.long vb), .second, .val (.long vc), .second, .val (.long vq), .second, .val (.int pn), .val (.int ct), .val (.int sl), .val (.int zA), .val (.int zB), .val (.int zC), .val (.ref b209), .val (.long x), .second, .val (.int zp), .val (.int (0 : Int32))] []))) (fun t ks => XS.istore X.here hx rfl (hb hby at_207) rfl (l' := #[.val (.long va), .second, .val (.long vb), .second, .val (.long vc), .second, .val (.long vq), .second, .val (.int pn), .val (.int ct), .val (.int sl), .val (.int zA), .val (.int zB), .val (.int zC), .val (.ref b209), .val (.long x), .second, .val (.int zp), .val (.int (0 : Int32))]) rfl ks) ?_
                have K245 : ∀ (e2 : Int32) (h2 : e2 = (if ¬ ct < 1 ∧ va < x then (1 : Int32) else 0) + (if (¬ ct < 2 ∧ ¬ vb = va) ∧ vb < x then (1 : Int32) else 0)), OGoes p.tables e below (ODone room_1 s below (fun v h L => v = some (.int 1) ∧ Fr Z.heap.size L)) (T.setTop (mkF m 245 #[.val (.long va), .second, .val (.long vb), .second, .val (.long vc), .second, .val (.long vq), .second, .val (.int pn), .val (.int ct), .val (.int sl), .val (.int zA), .val (.int zB), .val (.int zC), .val (.ref b209), .val (.long x), .second, .val (.int zp), .val (.int e2)] [])) := by
                  intro e2 h2
                  refine own_st (V := (T.setTop (mkF m 247 #[.val (.long va), .second, .val (.long vb), .second, .val (.long vc), .second, .val (.long vq), .second, .val (.int pn), .val (.int ct), .val (.int sl), .val (.int zA), .val (.int zB), .val (.int zC), .val (.ref b209), .val (.long x), .second, .val (.int zp), .val (.int e2)] [(.int zC)]))) (fun t ks => XS.iload X.here hx rfl (hb hby at_245) rfl ks) ?_
                  by_cases ga : zC = 0
                  · refine own_st (V := (T.setTop (mkF m 270 #[.val (.long va), .second, .val (.long vb), .second, .val (.long vc), .second, .val (.long vq), .second, .val (.int pn), .val (.int ct), .val (.int sl), .val (.int zA), .val (.int zB), .val (.int zC), .val (.ref b209), .val (.long x), .second, .val (.int zp), .val (.int e2)] []))) (fun t ks => XS.ifYes X.here hx rfl (pc0 := 247) (pc' := 270) rfl (hb hby at_247) rfl (XT.i0_eq_t ga) (by decide) (by decide) ks) ?_
                    have na : ¬ ((¬ ct < 3 ∧ ¬ vc = va ∧ ¬ vc = vb)) := fun q => by rw [hzC, if_pos q] at ga; exact absurd ga (by decide)
                    exact K270 _ _ (by unfold own_exp; rw [if_pos q, ← h2, if_neg (fun q => na q.1)]; exact (Int32.add_zero _).symm)
                  · refine own_st (V := (T.setTop (mkF m 250 #[.val (.long va), .second, .val (.long vb), .second, .val (.long vc), .second, .val (.long vq), .second, .val (.int pn), .val (.int ct), .val (.int sl), .val (.int zA), .val (.int zB), .val (.int zC), .val (.ref b209), .val (.long x), .second, .val (.int zp), .val (.int e2)] []))) (fun t ks => XS.ifNo X.here hx rfl (hb hby at_247) rfl (XT.i0_eq_f ga) ks) ?_
                    have ya : (¬ ct < 3 ∧ ¬ vc = va ∧ ¬ vc = vb) := Decidable.byContradiction fun q => by rw [hzC, if_neg q] at ga; exact ga rfl
                    refine own_st (V := (T.setTop (mkF m 252 #[.val (.long va), .second, .val (.long vb), .second, .val (.long vc), .second, .val (.long vq), .second, .val (.int pn), .val (.int ct), .val (.int sl), .val (.int zA), .val (.int zB), .val (.int zC), .val (.ref b209), .val (.long x), .second, .val (.int zp), .val (.int e2)] [(.long vc)]))) (fun t ks => XS.lload X.here hx rfl (hb hby at_250) rfl ks) ?_
                    refine own_st (V := (T.setTop (mkF m 254 #[.val (.long va), .second, .val (.long vb), .second, .val (.long vc), .second, .val (.long vq), .second, .val (.int pn), .val (.int ct), .val (.int sl), .val (.int zA), .val (.int zB), .val (.int zC), .val (.ref b209), .val (.long x), .second, .val (.int zp), .val (.int e2)] [(.long x), (.long vc)]))) (fun t ks => XS.lload X.here hx rfl (hb hby at_252) rfl ks) ?_
                    refine own_st (V := (T.setTop (mkF m 255 #[.val (.long va), .second, .val (.long vb), .second, .val (.long vc), .second, .val (.long vq), .second, .val (.int pn), .val (.int ct), .val (.int sl), .val (.int zA), .val (.int zB), .val (.int zC), .val (.ref b209), .val (.long x), .second, .val (.int zp), .val (.int e2)] [(.int (lcmpW vc x))]))) (fun t ks => XS.lcmp X.here hx rfl (hb hby at_254) rfl ks) ?_
                    by_cases gb : vc < x
                    · refine own_st (V := (T.setTop (mkF m 258 #[.val (.long va), .second, .val (.long vb), .second, .val (.long vc), .second, .val (.long vq), .second, .val (.int pn), .val (.int ct), .val (.int sl), .val (.int zA), .val (.int zB), .val (.int zC), .val (.ref b209), .val (.long x), .second, .val (.int zp), .val (.int e2)] []))) (fun t ks => XS.ifNo X.here hx rfl (hb hby at_255) rfl (XT.ll_ge_f gb) ks) ?_
                      refine own_st (V := (T.setTop (mkF m 260 #[.val (.long va), .second, .val (.long vb), .second, .val (.long vc), .second, .val (.long vq), .second, .val (.int pn), .val (.int ct), .val (.int sl), .val (.int zA), .val (.int zB), .val (.int zC), .val (.ref b209), .val (.long x), .second, .val (.int zp), .val (.int e2)] [(.int e2)]))) (fun t ks => XS.iload X.here hx rfl (hb hby at_258) rfl ks) ?_
                      refine own_st (V := (T.setTop (mkF m 261 #[.val (.long va), .second, .val (.long vb), .second, .val (.long vc), .second, .val (.long vq), .second, .val (.int pn), .val (.int ct), .val (.int sl), .val (.int zA), .val (.int zB), .val (.int zC), .val (.ref b209), .val (.long x), .second, .val (.int zp), .val (.int e2)] [(.int (1 : Int32)), (.int e2)]))) (fun t ks => XS.iconst X.here hx rfl (hb hby at_260) ks) ?_
                      refine own_st (V := (T.setTop (mkF m 262 #[.val (.long va), .second, .val (.long vb), .second, .val (.long vc), .second, .val (.long vq), .second, .val (.int pn), .val (.int ct), .val (.int sl), .val (.int zA), .val (.int zB), .val (.int zC), .val (.ref b209), .val (.long x), .second, .val (.int zp), .val (.int e2)] [(.int (e2 + (1 : Int32)))]))) (fun t ks => XS.iadd X.here hx rfl (hb hby at_261) rfl ks) ?_
                      refine own_st (V := (T.setTop (mkF m 264 #[.val (.long va), .second, .val (.long vb), .second, .val (.long vc), .second, .val (.long vq), .second, .val (.int pn), .val (.int ct), .val (.int sl), .val (.int zA), .val (.int zB), .val (.int zC), .val (.ref b209), .val (.long x), .second, .val (.int zp), .val (.int (e2 + (1 : Int32)))] []))) (fun t ks => XS.istore X.here hx rfl (hb hby at_262) rfl (l' := #[.val (.long va), .second, .val (.long vb), .second, .val (.long vc), .second, .val (.long vq), .second, .val (.int pn), .val (.int ct), .val (.int sl), .val (.int zA), .val (.int zB), .val (.int zC), .val (.ref b209), .val (.long x), .second, .val (.int zp), .val (.int (e2 + (1 : Int32)))]) rfl ks) ?_
                      refine own_st (V := (T.setTop (mkF m 270 #[.val (.long va), .second, .val (.long vb), .second, .val (.long vc), .second, .val (.long vq), .second, .val (.int pn), .val (.int ct), .val (.int sl), .val (.int zA), .val (.int zB), .val (.int zC), .val (.ref b209), .val (.long x), .second, .val (.int zp), .val (.int (e2 + (1 : Int32)))] []))) (fun t ks => XS.goto X.here hx rfl (pc0 := 264) (pc' := 270) rfl (hb hby at_264) (by decide) (by decide) ks) ?_
                      exact K270 _ _ (by unfold own_exp; rw [if_pos q, ← h2, if_pos ⟨ya, gb⟩])
                    · refine own_st (V := (T.setTop (mkF m 270 #[.val (.long va), .second, .val (.long vb), .second, .val (.long vc), .second, .val (.long vq), .second, .val (.int pn), .val (.int ct), .val (.int sl), .val (.int zA), .val (.int zB), .val (.int zC), .val (.ref b209), .val (.long x), .second, .val (.int zp), .val (.int e2)] []))) (fun t ks => XS.ifYes X.here hx rfl (pc0 := 255) (pc' := 270) rfl (hb hby at_255) rfl (XT.ll_ge_t gb) (by decide) (by decide) ks) ?_
                      exact K270 _ _ (by unfold own_exp; rw [if_pos q, ← h2, if_neg (fun q => gb q.2)]; exact (Int32.add_zero _).symm)
                have K227 : ∀ (e1 : Int32) (h1 : e1 = (if ¬ ct < 1 ∧ va < x then (1 : Int32) else 0)), OGoes p.tables e below (ODone room_1 s below (fun v h L => v = some (.int 1) ∧ Fr Z.heap.size L)) (T.setTop (mkF m 227 #[.val (.long va), .second, .val (.long vb), .second, .val (.long vc), .second, .val (.long vq), .second, .val (.int pn), .val (.int ct), .val (.int sl), .val (.int zA), .val (.int zB), .val (.int zC), .val (.ref b209), .val (.long x), .second, .val (.int zp), .val (.int e1)] [])) := by
                  intro e1 h1
                  refine own_st (V := (T.setTop (mkF m 229 #[.val (.long va), .second, .val (.long vb), .second, .val (.long vc), .second, .val (.long vq), .second, .val (.int pn), .val (.int ct), .val (.int sl), .val (.int zA), .val (.int zB), .val (.int zC), .val (.ref b209), .val (.long x), .second, .val (.int zp), .val (.int e1)] [(.int zB)]))) (fun t ks => XS.iload X.here hx rfl (hb hby at_227) rfl ks) ?_
                  by_cases ga : zB = 0
                  · refine own_st (V := (T.setTop (mkF m 245 #[.val (.long va), .second, .val (.long vb), .second, .val (.long vc), .second, .val (.long vq), .second, .val (.int pn), .val (.int ct), .val (.int sl), .val (.int zA), .val (.int zB), .val (.int zC), .val (.ref b209), .val (.long x), .second, .val (.int zp), .val (.int e1)] []))) (fun t ks => XS.ifYes X.here hx rfl (pc0 := 229) (pc' := 245) rfl (hb hby at_229) rfl (XT.i0_eq_t ga) (by decide) (by decide) ks) ?_
                    have na : ¬ ((¬ ct < 2 ∧ ¬ vb = va)) := fun q => by rw [hzB, if_pos q] at ga; exact absurd ga (by decide)
                    exact K245 _ (by rw [← h1, if_neg (fun q => na q.1)]; exact (Int32.add_zero _).symm)
                  · refine own_st (V := (T.setTop (mkF m 232 #[.val (.long va), .second, .val (.long vb), .second, .val (.long vc), .second, .val (.long vq), .second, .val (.int pn), .val (.int ct), .val (.int sl), .val (.int zA), .val (.int zB), .val (.int zC), .val (.ref b209), .val (.long x), .second, .val (.int zp), .val (.int e1)] []))) (fun t ks => XS.ifNo X.here hx rfl (hb hby at_229) rfl (XT.i0_eq_f ga) ks) ?_
                    have ya : (¬ ct < 2 ∧ ¬ vb = va) := Decidable.byContradiction fun q => by rw [hzB, if_neg q] at ga; exact ga rfl
                    refine own_st (V := (T.setTop (mkF m 233 #[.val (.long va), .second, .val (.long vb), .second, .val (.long vc), .second, .val (.long vq), .second, .val (.int pn), .val (.int ct), .val (.int sl), .val (.int zA), .val (.int zB), .val (.int zC), .val (.ref b209), .val (.long x), .second, .val (.int zp), .val (.int e1)] [(.long vb)]))) (fun t ks => XS.lloadN X.here hx rfl (hb hby at_232) rfl ks) ?_
                    refine own_st (V := (T.setTop (mkF m 235 #[.val (.long va), .second, .val (.long vb), .second, .val (.long vc), .second, .val (.long vq), .second, .val (.int pn), .val (.int ct), .val (.int sl), .val (.int zA), .val (.int zB), .val (.int zC), .val (.ref b209), .val (.long x), .second, .val (.int zp), .val (.int e1)] [(.long x), (.long vb)]))) (fun t ks => XS.lload X.here hx rfl (hb hby at_233) rfl ks) ?_
                    refine own_st (V := (T.setTop (mkF m 236 #[.val (.long va), .second, .val (.long vb), .second, .val (.long vc), .second, .val (.long vq), .second, .val (.int pn), .val (.int ct), .val (.int sl), .val (.int zA), .val (.int zB), .val (.int zC), .val (.ref b209), .val (.long x), .second, .val (.int zp), .val (.int e1)] [(.int (lcmpW vb x))]))) (fun t ks => XS.lcmp X.here hx rfl (hb hby at_235) rfl ks) ?_
                    by_cases gb : vb < x
                    · refine own_st (V := (T.setTop (mkF m 239 #[.val (.long va), .second, .val (.long vb), .second, .val (.long vc), .second, .val (.long vq), .second, .val (.int pn), .val (.int ct), .val (.int sl), .val (.int zA), .val (.int zB), .val (.int zC), .val (.ref b209), .val (.long x), .second, .val (.int zp), .val (.int e1)] []))) (fun t ks => XS.ifNo X.here hx rfl (hb hby at_236) rfl (XT.ll_ge_f gb) ks) ?_
                      refine own_st (V := (T.setTop (mkF m 241 #[.val (.long va), .second, .val (.long vb), .second, .val (.long vc), .second, .val (.long vq), .second, .val (.int pn), .val (.int ct), .val (.int sl), .val (.int zA), .val (.int zB), .val (.int zC), .val (.ref b209), .val (.long x), .second, .val (.int zp), .val (.int e1)] [(.int e1)]))) (fun t ks => XS.iload X.here hx rfl (hb hby at_239) rfl ks) ?_
                      refine own_st (V := (T.setTop (mkF m 242 #[.val (.long va), .second, .val (.long vb), .second, .val (.long vc), .second, .val (.long vq), .second, .val (.int pn), .val (.int ct), .val (.int sl), .val (.int zA), .val (.int zB), .val (.int zC), .val (.ref b209), .val (.long x), .second, .val (.int zp), .val (.int e1)] [(.int (1 : Int32)), (.int e1)]))) (fun t ks => XS.iconst X.here hx rfl (hb hby at_241) ks) ?_
                      refine own_st (V := (T.setTop (mkF m 243 #[.val (.long va), .second, .val (.long vb), .second, .val (.long vc), .second, .val (.long vq), .second, .val (.int pn), .val (.int ct), .val (.int sl), .val (.int zA), .val (.int zB), .val (.int zC), .val (.ref b209), .val (.long x), .second, .val (.int zp), .val (.int e1)] [(.int (e1 + (1 : Int32)))]))) (fun t ks => XS.iadd X.here hx rfl (hb hby at_242) rfl ks) ?_
                      refine own_st (V := (T.setTop (mkF m 245 #[.val (.long va), .second, .val (.long vb), .second, .val (.long vc), .second, .val (.long vq), .second, .val (.int pn), .val (.int ct), .val (.int sl), .val (.int zA), .val (.int zB), .val (.int zC), .val (.ref b209), .val (.long x), .second, .val (.int zp), .val (.int (e1 + (1 : Int32)))] []))) (fun t ks => XS.istore X.here hx rfl (hb hby at_243) rfl (l' := #[.val (.long va), .second, .val (.long vb), .second, .val (.long vc), .second, .val (.long vq), .second, .val (.int pn), .val (.int ct), .val (.int sl), .val (.int zA), .val (.int zB), .val (.int zC), .val (.ref b209), .val (.long x), .second, .val (.int zp), .val (.int (e1 + (1 : Int32)))]) rfl ks) ?_
                      exact K245 _ (by rw [← h1, if_pos ⟨ya, gb⟩])
                    · refine own_st (V := (T.setTop (mkF m 245 #[.val (.long va), .second, .val (.long vb), .second, .val (.long vc), .second, .val (.long vq), .second, .val (.int pn), .val (.int ct), .val (.int sl), .val (.int zA), .val (.int zB), .val (.int zC), .val (.ref b209), .val (.long x), .second, .val (.int zp), .val (.int e1)] []))) (fun t ks => XS.ifYes X.here hx rfl (pc0 := 236) (pc' := 245) rfl (hb hby at_236) rfl (XT.ll_ge_t gb) (by decide) (by decide) ks) ?_
                      exact K245 _ (by rw [← h1, if_neg (fun q => gb q.2)]; exact (Int32.add_zero _).symm)
                refine own_st (V := (T.setTop (mkF m 211 #[.val (.long va), .second, .val (.long vb), .second, .val (.long vc), .second, .val (.long vq), .second, .val (.int pn), .val (.int ct), .val (.int sl), .val (.int zA), .val (.int zB), .val (.int zC), .val (.ref b209), .val (.long x), .second, .val (.int zp), .val (.int (0 : Int32))] [(.int zA)]))) (fun t ks => XS.iload X.here hx rfl (hb hby at_209) rfl ks) ?_
                by_cases ga : zA = 0
                · refine own_st (V := (T.setTop (mkF m 227 #[.val (.long va), .second, .val (.long vb), .second, .val (.long vc), .second, .val (.long vq), .second, .val (.int pn), .val (.int ct), .val (.int sl), .val (.int zA), .val (.int zB), .val (.int zC), .val (.ref b209), .val (.long x), .second, .val (.int zp), .val (.int (0 : Int32))] []))) (fun t ks => XS.ifYes X.here hx rfl (pc0 := 211) (pc' := 227) rfl (hb hby at_211) rfl (XT.i0_eq_t ga) (by decide) (by decide) ks) ?_
                  have na : ¬ (¬ ct < 1) := fun q => by rw [hzA, if_pos q] at ga; exact absurd ga (by decide)
                  exact K227 _ (by rw [if_neg (fun q => na q.1)])
                · refine own_st (V := (T.setTop (mkF m 214 #[.val (.long va), .second, .val (.long vb), .second, .val (.long vc), .second, .val (.long vq), .second, .val (.int pn), .val (.int ct), .val (.int sl), .val (.int zA), .val (.int zB), .val (.int zC), .val (.ref b209), .val (.long x), .second, .val (.int zp), .val (.int (0 : Int32))] []))) (fun t ks => XS.ifNo X.here hx rfl (hb hby at_211) rfl (XT.i0_eq_f ga) ks) ?_
                  have ya : ¬ ct < 1 := Decidable.byContradiction fun q => by rw [hzA, if_neg q] at ga; exact ga rfl
                  refine own_st (V := (T.setTop (mkF m 215 #[.val (.long va), .second, .val (.long vb), .second, .val (.long vc), .second, .val (.long vq), .second, .val (.int pn), .val (.int ct), .val (.int sl), .val (.int zA), .val (.int zB), .val (.int zC), .val (.ref b209), .val (.long x), .second, .val (.int zp), .val (.int (0 : Int32))] [(.long va)]))) (fun t ks => XS.lloadN X.here hx rfl (hb hby at_214) rfl ks) ?_
                  refine own_st (V := (T.setTop (mkF m 217 #[.val (.long va), .second, .val (.long vb), .second, .val (.long vc), .second, .val (.long vq), .second, .val (.int pn), .val (.int ct), .val (.int sl), .val (.int zA), .val (.int zB), .val (.int zC), .val (.ref b209), .val (.long x), .second, .val (.int zp), .val (.int (0 : Int32))] [(.long x), (.long va)]))) (fun t ks => XS.lload X.here hx rfl (hb hby at_215) rfl ks) ?_
                  refine own_st (V := (T.setTop (mkF m 218 #[.val (.long va), .second, .val (.long vb), .second, .val (.long vc), .second, .val (.long vq), .second, .val (.int pn), .val (.int ct), .val (.int sl), .val (.int zA), .val (.int zB), .val (.int zC), .val (.ref b209), .val (.long x), .second, .val (.int zp), .val (.int (0 : Int32))] [(.int (lcmpW va x))]))) (fun t ks => XS.lcmp X.here hx rfl (hb hby at_217) rfl ks) ?_
                  by_cases gb : va < x
                  · refine own_st (V := (T.setTop (mkF m 221 #[.val (.long va), .second, .val (.long vb), .second, .val (.long vc), .second, .val (.long vq), .second, .val (.int pn), .val (.int ct), .val (.int sl), .val (.int zA), .val (.int zB), .val (.int zC), .val (.ref b209), .val (.long x), .second, .val (.int zp), .val (.int (0 : Int32))] []))) (fun t ks => XS.ifNo X.here hx rfl (hb hby at_218) rfl (XT.ll_ge_f gb) ks) ?_
                    refine own_st (V := (T.setTop (mkF m 223 #[.val (.long va), .second, .val (.long vb), .second, .val (.long vc), .second, .val (.long vq), .second, .val (.int pn), .val (.int ct), .val (.int sl), .val (.int zA), .val (.int zB), .val (.int zC), .val (.ref b209), .val (.long x), .second, .val (.int zp), .val (.int (0 : Int32))] [(.int (0 : Int32))]))) (fun t ks => XS.iload X.here hx rfl (hb hby at_221) rfl ks) ?_
                    refine own_st (V := (T.setTop (mkF m 224 #[.val (.long va), .second, .val (.long vb), .second, .val (.long vc), .second, .val (.long vq), .second, .val (.int pn), .val (.int ct), .val (.int sl), .val (.int zA), .val (.int zB), .val (.int zC), .val (.ref b209), .val (.long x), .second, .val (.int zp), .val (.int (0 : Int32))] [(.int (1 : Int32)), (.int (0 : Int32))]))) (fun t ks => XS.iconst X.here hx rfl (hb hby at_223) ks) ?_
                    refine own_st (V := (T.setTop (mkF m 225 #[.val (.long va), .second, .val (.long vb), .second, .val (.long vc), .second, .val (.long vq), .second, .val (.int pn), .val (.int ct), .val (.int sl), .val (.int zA), .val (.int zB), .val (.int zC), .val (.ref b209), .val (.long x), .second, .val (.int zp), .val (.int (0 : Int32))] [(.int ((0 : Int32) + (1 : Int32)))]))) (fun t ks => XS.iadd X.here hx rfl (hb hby at_224) rfl ks) ?_
                    refine own_st (V := (T.setTop (mkF m 227 #[.val (.long va), .second, .val (.long vb), .second, .val (.long vc), .second, .val (.long vq), .second, .val (.int pn), .val (.int ct), .val (.int sl), .val (.int zA), .val (.int zB), .val (.int zC), .val (.ref b209), .val (.long x), .second, .val (.int zp), .val (.int ((0 : Int32) + (1 : Int32)))] []))) (fun t ks => XS.istore X.here hx rfl (hb hby at_225) rfl (l' := #[.val (.long va), .second, .val (.long vb), .second, .val (.long vc), .second, .val (.long vq), .second, .val (.int pn), .val (.int ct), .val (.int sl), .val (.int zA), .val (.int zB), .val (.int zC), .val (.ref b209), .val (.long x), .second, .val (.int zp), .val (.int ((0 : Int32) + (1 : Int32)))]) rfl ks) ?_
                    exact K227 _ (by rw [if_pos ⟨ya, gb⟩]; decide)
                  · refine own_st (V := (T.setTop (mkF m 227 #[.val (.long va), .second, .val (.long vb), .second, .val (.long vc), .second, .val (.long vq), .second, .val (.int pn), .val (.int ct), .val (.int sl), .val (.int zA), .val (.int zB), .val (.int zC), .val (.ref b209), .val (.long x), .second, .val (.int zp), .val (.int (0 : Int32))] []))) (fun t ks => XS.ifYes X.here hx rfl (pc0 := 218) (pc' := 227) rfl (hb hby at_218) rfl (XT.ll_ge_t gb) (by decide) (by decide) ks) ?_
                    exact K227 _ (by rw [if_neg (fun q => gb q.2)])
            have K194 : ∀ (pr : ((¬ ct < 1 ∧ x = va) ∨ ((¬ ct < 2 ∧ ¬ vb = va) ∧ x = vb) ∨ ((¬ ct < 3 ∧ ¬ vc = va ∧ ¬ vc = vb) ∧ x = vc))), OGoes p.tables e below (ODone room_1 s below (fun v h L => v = some (.int 1) ∧ Fr Z.heap.size L)) (T.setTop (mkF m 194 #[.val (.long va), .second, .val (.long vb), .second, .val (.long vc), .second, .val (.long vq), .second, .val (.int pn), .val (.int ct), .val (.int sl), .val (.int zA), .val (.int zB), .val (.int zC), .val (.ref b209), .val (.long x), .second, .unset, .unset] [])) := by
              intro pr
              refine own_st (V := (T.setTop (mkF m 195 #[.val (.long va), .second, .val (.long vb), .second, .val (.long vc), .second, .val (.long vq), .second, .val (.int pn), .val (.int ct), .val (.int sl), .val (.int zA), .val (.int zB), .val (.int zC), .val (.ref b209), .val (.long x), .second, .unset, .unset] [(.int (1 : Int32))]))) (fun t ks => XS.iconst X.here hx rfl (hb hby at_194) ks) ?_
              refine own_st (V := (T.setTop (mkF m 199 #[.val (.long va), .second, .val (.long vb), .second, .val (.long vc), .second, .val (.long vq), .second, .val (.int pn), .val (.int ct), .val (.int sl), .val (.int zA), .val (.int zB), .val (.int zC), .val (.ref b209), .val (.long x), .second, .unset, .unset] [(.int (1 : Int32))]))) (fun t ks => XS.goto X.here hx rfl (pc0 := 195) (pc' := 199) rfl (hb hby at_195) (by decide) (by decide) ks) ?_
              exact K199 _ (by rw [if_pos pr])
            have K198 : ∀ (pr : ¬ ((¬ ct < 1 ∧ x = va) ∨ ((¬ ct < 2 ∧ ¬ vb = va) ∧ x = vb) ∨ ((¬ ct < 3 ∧ ¬ vc = va ∧ ¬ vc = vb) ∧ x = vc))), OGoes p.tables e below (ODone room_1 s below (fun v h L => v = some (.int 1) ∧ Fr Z.heap.size L)) (T.setTop (mkF m 198 #[.val (.long va), .second, .val (.long vb), .second, .val (.long vc), .second, .val (.long vq), .second, .val (.int pn), .val (.int ct), .val (.int sl), .val (.int zA), .val (.int zB), .val (.int zC), .val (.ref b209), .val (.long x), .second, .unset, .unset] [])) := by
              intro pr
              refine own_st (V := (T.setTop (mkF m 199 #[.val (.long va), .second, .val (.long vb), .second, .val (.long vc), .second, .val (.long vq), .second, .val (.int pn), .val (.int ct), .val (.int sl), .val (.int zA), .val (.int zB), .val (.int zC), .val (.ref b209), .val (.long x), .second, .unset, .unset] [(.int (0 : Int32))]))) (fun t ks => XS.iconst X.here hx rfl (hb hby at_198) ks) ?_
              exact K199 _ (by rw [if_neg pr])
            have K181 : ∀ (q1 : ¬ (¬ ct < 1 ∧ x = va)) (q2 : ¬ ((¬ ct < 2 ∧ ¬ vb = va) ∧ x = vb)), OGoes p.tables e below (ODone room_1 s below (fun v h L => v = some (.int 1) ∧ Fr Z.heap.size L)) (T.setTop (mkF m 181 #[.val (.long va), .second, .val (.long vb), .second, .val (.long vc), .second, .val (.long vq), .second, .val (.int pn), .val (.int ct), .val (.int sl), .val (.int zA), .val (.int zB), .val (.int zC), .val (.ref b209), .val (.long x), .second, .unset, .unset] [])) := by
              intro q1 q2
              refine own_st (V := (T.setTop (mkF m 183 #[.val (.long va), .second, .val (.long vb), .second, .val (.long vc), .second, .val (.long vq), .second, .val (.int pn), .val (.int ct), .val (.int sl), .val (.int zA), .val (.int zB), .val (.int zC), .val (.ref b209), .val (.long x), .second, .unset, .unset] [(.int zC)]))) (fun t ks => XS.iload X.here hx rfl (hb hby at_181) rfl ks) ?_
              by_cases ga : zC = 0
              · refine own_st (V := (T.setTop (mkF m 198 #[.val (.long va), .second, .val (.long vb), .second, .val (.long vc), .second, .val (.long vq), .second, .val (.int pn), .val (.int ct), .val (.int sl), .val (.int zA), .val (.int zB), .val (.int zC), .val (.ref b209), .val (.long x), .second, .unset, .unset] []))) (fun t ks => XS.ifYes X.here hx rfl (pc0 := 183) (pc' := 198) rfl (hb hby at_183) rfl (XT.i0_eq_t ga) (by decide) (by decide) ks) ?_
                exact K198 (fun q => q.elim q1 fun q => q.elim q2 fun q => by rw [hzC, if_pos q.1] at ga; exact absurd ga (by decide))
              · refine own_st (V := (T.setTop (mkF m 186 #[.val (.long va), .second, .val (.long vb), .second, .val (.long vc), .second, .val (.long vq), .second, .val (.int pn), .val (.int ct), .val (.int sl), .val (.int zA), .val (.int zB), .val (.int zC), .val (.ref b209), .val (.long x), .second, .unset, .unset] []))) (fun t ks => XS.ifNo X.here hx rfl (hb hby at_183) rfl (XT.i0_eq_f ga) ks) ?_
                have ya : (¬ ct < 3 ∧ ¬ vc = va ∧ ¬ vc = vb) := Decidable.byContradiction fun q => by rw [hzC, if_neg q] at ga; exact ga rfl
                refine own_st (V := (T.setTop (mkF m 188 #[.val (.long va), .second, .val (.long vb), .second, .val (.long vc), .second, .val (.long vq), .second, .val (.int pn), .val (.int ct), .val (.int sl), .val (.int zA), .val (.int zB), .val (.int zC), .val (.ref b209), .val (.long x), .second, .unset, .unset] [(.long x)]))) (fun t ks => XS.lload X.here hx rfl (hb hby at_186) rfl ks) ?_
                refine own_st (V := (T.setTop (mkF m 190 #[.val (.long va), .second, .val (.long vb), .second, .val (.long vc), .second, .val (.long vq), .second, .val (.int pn), .val (.int ct), .val (.int sl), .val (.int zA), .val (.int zB), .val (.int zC), .val (.ref b209), .val (.long x), .second, .unset, .unset] [(.long vc), (.long x)]))) (fun t ks => XS.lload X.here hx rfl (hb hby at_188) rfl ks) ?_
                refine own_st (V := (T.setTop (mkF m 191 #[.val (.long va), .second, .val (.long vb), .second, .val (.long vc), .second, .val (.long vq), .second, .val (.int pn), .val (.int ct), .val (.int sl), .val (.int zA), .val (.int zB), .val (.int zC), .val (.ref b209), .val (.long x), .second, .unset, .unset] [(.int (lcmpW x vc))]))) (fun t ks => XS.lcmp X.here hx rfl (hb hby at_190) rfl ks) ?_
                by_cases gb : x = vc
                · refine own_st (V := (T.setTop (mkF m 194 #[.val (.long va), .second, .val (.long vb), .second, .val (.long vc), .second, .val (.long vq), .second, .val (.int pn), .val (.int ct), .val (.int sl), .val (.int zA), .val (.int zB), .val (.int zC), .val (.ref b209), .val (.long x), .second, .unset, .unset] []))) (fun t ks => XS.ifNo X.here hx rfl (hb hby at_191) rfl (XT.ll_ne_f gb) ks) ?_
                  exact K194 (Or.inr (Or.inr ⟨ya, gb⟩))
                · refine own_st (V := (T.setTop (mkF m 198 #[.val (.long va), .second, .val (.long vb), .second, .val (.long vc), .second, .val (.long vq), .second, .val (.int pn), .val (.int ct), .val (.int sl), .val (.int zA), .val (.int zB), .val (.int zC), .val (.ref b209), .val (.long x), .second, .unset, .unset] []))) (fun t ks => XS.ifYes X.here hx rfl (pc0 := 191) (pc' := 198) rfl (hb hby at_191) rfl (XT.ll_ne_t gb) (by decide) (by decide) ks) ?_
                  exact K198 (fun q => q.elim q1 fun q => q.elim q2 fun q => gb q.2)
            have K169 : ∀ (q1 : ¬ (¬ ct < 1 ∧ x = va)), OGoes p.tables e below (ODone room_1 s below (fun v h L => v = some (.int 1) ∧ Fr Z.heap.size L)) (T.setTop (mkF m 169 #[.val (.long va), .second, .val (.long vb), .second, .val (.long vc), .second, .val (.long vq), .second, .val (.int pn), .val (.int ct), .val (.int sl), .val (.int zA), .val (.int zB), .val (.int zC), .val (.ref b209), .val (.long x), .second, .unset, .unset] [])) := by
              intro q1
              refine own_st (V := (T.setTop (mkF m 171 #[.val (.long va), .second, .val (.long vb), .second, .val (.long vc), .second, .val (.long vq), .second, .val (.int pn), .val (.int ct), .val (.int sl), .val (.int zA), .val (.int zB), .val (.int zC), .val (.ref b209), .val (.long x), .second, .unset, .unset] [(.int zB)]))) (fun t ks => XS.iload X.here hx rfl (hb hby at_169) rfl ks) ?_
              by_cases ga : zB = 0
              · refine own_st (V := (T.setTop (mkF m 181 #[.val (.long va), .second, .val (.long vb), .second, .val (.long vc), .second, .val (.long vq), .second, .val (.int pn), .val (.int ct), .val (.int sl), .val (.int zA), .val (.int zB), .val (.int zC), .val (.ref b209), .val (.long x), .second, .unset, .unset] []))) (fun t ks => XS.ifYes X.here hx rfl (pc0 := 171) (pc' := 181) rfl (hb hby at_171) rfl (XT.i0_eq_t ga) (by decide) (by decide) ks) ?_
                exact K181 q1 (fun q => by rw [hzB, if_pos q.1] at ga; exact absurd ga (by decide))
              · refine own_st (V := (T.setTop (mkF m 174 #[.val (.long va), .second, .val (.long vb), .second, .val (.long vc), .second, .val (.long vq), .second, .val (.int pn), .val (.int ct), .val (.int sl), .val (.int zA), .val (.int zB), .val (.int zC), .val (.ref b209), .val (.long x), .second, .unset, .unset] []))) (fun t ks => XS.ifNo X.here hx rfl (hb hby at_171) rfl (XT.i0_eq_f ga) ks) ?_
                have ya : (¬ ct < 2 ∧ ¬ vb = va) := Decidable.byContradiction fun q => by rw [hzB, if_neg q] at ga; exact ga rfl
                refine own_st (V := (T.setTop (mkF m 176 #[.val (.long va), .second, .val (.long vb), .second, .val (.long vc), .second, .val (.long vq), .second, .val (.int pn), .val (.int ct), .val (.int sl), .val (.int zA), .val (.int zB), .val (.int zC), .val (.ref b209), .val (.long x), .second, .unset, .unset] [(.long x)]))) (fun t ks => XS.lload X.here hx rfl (hb hby at_174) rfl ks) ?_
                refine own_st (V := (T.setTop (mkF m 177 #[.val (.long va), .second, .val (.long vb), .second, .val (.long vc), .second, .val (.long vq), .second, .val (.int pn), .val (.int ct), .val (.int sl), .val (.int zA), .val (.int zB), .val (.int zC), .val (.ref b209), .val (.long x), .second, .unset, .unset] [(.long vb), (.long x)]))) (fun t ks => XS.lloadN X.here hx rfl (hb hby at_176) rfl ks) ?_
                refine own_st (V := (T.setTop (mkF m 178 #[.val (.long va), .second, .val (.long vb), .second, .val (.long vc), .second, .val (.long vq), .second, .val (.int pn), .val (.int ct), .val (.int sl), .val (.int zA), .val (.int zB), .val (.int zC), .val (.ref b209), .val (.long x), .second, .unset, .unset] [(.int (lcmpW x vb))]))) (fun t ks => XS.lcmp X.here hx rfl (hb hby at_177) rfl ks) ?_
                by_cases gb : x = vb
                · refine own_st (V := (T.setTop (mkF m 194 #[.val (.long va), .second, .val (.long vb), .second, .val (.long vc), .second, .val (.long vq), .second, .val (.int pn), .val (.int ct), .val (.int sl), .val (.int zA), .val (.int zB), .val (.int zC), .val (.ref b209), .val (.long x), .second, .unset, .unset] []))) (fun t ks => XS.ifYes X.here hx rfl (pc0 := 178) (pc' := 194) rfl (hb hby at_178) rfl (XT.ll_eq_t gb) (by decide) (by decide) ks) ?_
                  exact K194 (Or.inr (Or.inl ⟨ya, gb⟩))
                · refine own_st (V := (T.setTop (mkF m 181 #[.val (.long va), .second, .val (.long vb), .second, .val (.long vc), .second, .val (.long vq), .second, .val (.int pn), .val (.int ct), .val (.int sl), .val (.int zA), .val (.int zB), .val (.int zC), .val (.ref b209), .val (.long x), .second, .unset, .unset] []))) (fun t ks => XS.ifNo X.here hx rfl (hb hby at_178) rfl (XT.ll_eq_f gb) ks) ?_
                  exact K181 q1 (fun q => gb q.2)
            refine own_st (V := (T.setTop (mkF m 159 #[.val (.long va), .second, .val (.long vb), .second, .val (.long vc), .second, .val (.long vq), .second, .val (.int pn), .val (.int ct), .val (.int sl), .val (.int zA), .val (.int zB), .val (.int zC), .val (.ref b209), .val (.long x), .second, .unset, .unset] [(.int zA)]))) (fun t ks => XS.iload X.here hx rfl (hb hby at_157) rfl ks) ?_
            by_cases ga : zA = 0
            · refine own_st (V := (T.setTop (mkF m 169 #[.val (.long va), .second, .val (.long vb), .second, .val (.long vc), .second, .val (.long vq), .second, .val (.int pn), .val (.int ct), .val (.int sl), .val (.int zA), .val (.int zB), .val (.int zC), .val (.ref b209), .val (.long x), .second, .unset, .unset] []))) (fun t ks => XS.ifYes X.here hx rfl (pc0 := 159) (pc' := 169) rfl (hb hby at_159) rfl (XT.i0_eq_t ga) (by decide) (by decide) ks) ?_
              exact K169 (fun q => by rw [hzA, if_pos q.1] at ga; exact absurd ga (by decide))
            · refine own_st (V := (T.setTop (mkF m 162 #[.val (.long va), .second, .val (.long vb), .second, .val (.long vc), .second, .val (.long vq), .second, .val (.int pn), .val (.int ct), .val (.int sl), .val (.int zA), .val (.int zB), .val (.int zC), .val (.ref b209), .val (.long x), .second, .unset, .unset] []))) (fun t ks => XS.ifNo X.here hx rfl (hb hby at_159) rfl (XT.i0_eq_f ga) ks) ?_
              have ya : ¬ ct < 1 := Decidable.byContradiction fun q => by rw [hzA, if_neg q] at ga; exact ga rfl
              refine own_st (V := (T.setTop (mkF m 164 #[.val (.long va), .second, .val (.long vb), .second, .val (.long vc), .second, .val (.long vq), .second, .val (.int pn), .val (.int ct), .val (.int sl), .val (.int zA), .val (.int zB), .val (.int zC), .val (.ref b209), .val (.long x), .second, .unset, .unset] [(.long x)]))) (fun t ks => XS.lload X.here hx rfl (hb hby at_162) rfl ks) ?_
              refine own_st (V := (T.setTop (mkF m 165 #[.val (.long va), .second, .val (.long vb), .second, .val (.long vc), .second, .val (.long vq), .second, .val (.int pn), .val (.int ct), .val (.int sl), .val (.int zA), .val (.int zB), .val (.int zC), .val (.ref b209), .val (.long x), .second, .unset, .unset] [(.long va), (.long x)]))) (fun t ks => XS.lloadN X.here hx rfl (hb hby at_164) rfl ks) ?_
              refine own_st (V := (T.setTop (mkF m 166 #[.val (.long va), .second, .val (.long vb), .second, .val (.long vc), .second, .val (.long vq), .second, .val (.int pn), .val (.int ct), .val (.int sl), .val (.int zA), .val (.int zB), .val (.int zC), .val (.ref b209), .val (.long x), .second, .unset, .unset] [(.int (lcmpW x va))]))) (fun t ks => XS.lcmp X.here hx rfl (hb hby at_165) rfl ks) ?_
              by_cases gb : x = va
              · refine own_st (V := (T.setTop (mkF m 194 #[.val (.long va), .second, .val (.long vb), .second, .val (.long vc), .second, .val (.long vq), .second, .val (.int pn), .val (.int ct), .val (.int sl), .val (.int zA), .val (.int zB), .val (.int zC), .val (.ref b209), .val (.long x), .second, .unset, .unset] []))) (fun t ks => XS.ifYes X.here hx rfl (pc0 := 166) (pc' := 194) rfl (hb hby at_166) rfl (XT.ll_eq_t gb) (by decide) (by decide) ks) ?_
                exact K194 (Or.inl ⟨ya, gb⟩)
              · refine own_st (V := (T.setTop (mkF m 169 #[.val (.long va), .second, .val (.long vb), .second, .val (.long vc), .second, .val (.long vq), .second, .val (.int pn), .val (.int ct), .val (.int sl), .val (.int zA), .val (.int zB), .val (.int zC), .val (.ref b209), .val (.long x), .second, .unset, .unset] []))) (fun t ks => XS.ifNo X.here hx rfl (hb hby at_166) rfl (XT.ll_eq_f gb) ks) ?_
                exact K169 (fun q => gb q.2)
          refine own_st (V := (T.setTop (mkF m 125 #[.val (.long va), .second, .val (.long vb), .second, .val (.long vc), .second, .val (.long vq), .second, .val (.int pn), .val (.int ct), .val (.int sl), .val (.int zA), .val (.int zB), .val (.int zC), .val (.ref b209), .val (.long vq), .second, .unset, .unset] [(.int sl)]))) (fun t ks => XS.iload X.here hx rfl (hb hby at_123) rfl ks) ?_
          refine own_st (V := (T.setTop (mkF m 126 #[.val (.long va), .second, .val (.long vb), .second, .val (.long vc), .second, .val (.long vq), .second, .val (.int pn), .val (.int ct), .val (.int sl), .val (.int zA), .val (.int zB), .val (.int zC), .val (.ref b209), .val (.long vq), .second, .unset, .unset] [(.int (1 : Int32)), (.int sl)]))) (fun t ks => XS.iconst X.here hx rfl (hb hby at_125) ks) ?_
          by_cases g1 : sl = (1 : Int32)
          · refine own_st (V := (T.setTop (mkF m 129 #[.val (.long va), .second, .val (.long vb), .second, .val (.long vc), .second, .val (.long vq), .second, .val (.int pn), .val (.int ct), .val (.int sl), .val (.int zA), .val (.int zB), .val (.int zC), .val (.ref b209), .val (.long vq), .second, .unset, .unset] []))) (fun t ks => XS.icmpNo X.here hx rfl (hb hby at_126) rfl (XT.ii_ne_f g1) ks) ?_
            refine own_st (V := (T.setTop (mkF m 130 #[.val (.long va), .second, .val (.long vb), .second, .val (.long vc), .second, .val (.long vq), .second, .val (.int pn), .val (.int ct), .val (.int sl), .val (.int zA), .val (.int zB), .val (.int zC), .val (.ref b209), .val (.long vq), .second, .unset, .unset] [(.long va)]))) (fun t ks => XS.lloadN X.here hx rfl (hb hby at_129) rfl ks) ?_
            refine own_st (V := (T.setTop (mkF m 132 #[.val (.long va), .second, .val (.long vb), .second, .val (.long vc), .second, .val (.long vq), .second, .val (.int pn), .val (.int ct), .val (.int sl), .val (.int zA), .val (.int zB), .val (.int zC), .val (.ref b209), .val (.long va), .second, .unset, .unset] []))) (fun t ks => XS.lstore X.here hx rfl (hb hby at_130) rfl (l' := #[.val (.long va), .second, .val (.long vb), .second, .val (.long vc), .second, .val (.long vq), .second, .val (.int pn), .val (.int ct), .val (.int sl), .val (.int zA), .val (.int zB), .val (.int zC), .val (.ref b209), .val (.long va), .second, .unset, .unset]) rfl ks) ?_
            refine own_st (V := (T.setTop (mkF m 157 #[.val (.long va), .second, .val (.long vb), .second, .val (.long vc), .second, .val (.long vq), .second, .val (.int pn), .val (.int ct), .val (.int sl), .val (.int zA), .val (.int zB), .val (.int zC), .val (.ref b209), .val (.long va), .second, .unset, .unset] []))) (fun t ks => XS.goto X.here hx rfl (pc0 := 132) (pc' := 157) rfl (hb hby at_132) (by decide) (by decide) ks) ?_
            exact K157 _
          · refine own_st (V := (T.setTop (mkF m 135 #[.val (.long va), .second, .val (.long vb), .second, .val (.long vc), .second, .val (.long vq), .second, .val (.int pn), .val (.int ct), .val (.int sl), .val (.int zA), .val (.int zB), .val (.int zC), .val (.ref b209), .val (.long vq), .second, .unset, .unset] []))) (fun t ks => XS.icmpYes X.here hx rfl (pc0 := 126) (pc' := 135) rfl (hb hby at_126) rfl (XT.ii_ne_t g1) (by decide) (by decide) ks) ?_
            refine own_st (V := (T.setTop (mkF m 137 #[.val (.long va), .second, .val (.long vb), .second, .val (.long vc), .second, .val (.long vq), .second, .val (.int pn), .val (.int ct), .val (.int sl), .val (.int zA), .val (.int zB), .val (.int zC), .val (.ref b209), .val (.long vq), .second, .unset, .unset] [(.int sl)]))) (fun t ks => XS.iload X.here hx rfl (hb hby at_135) rfl ks) ?_
            refine own_st (V := (T.setTop (mkF m 138 #[.val (.long va), .second, .val (.long vb), .second, .val (.long vc), .second, .val (.long vq), .second, .val (.int pn), .val (.int ct), .val (.int sl), .val (.int zA), .val (.int zB), .val (.int zC), .val (.ref b209), .val (.long vq), .second, .unset, .unset] [(.int (2 : Int32)), (.int sl)]))) (fun t ks => XS.iconst X.here hx rfl (hb hby at_137) ks) ?_
            by_cases g2 : sl = (2 : Int32)
            · refine own_st (V := (T.setTop (mkF m 141 #[.val (.long va), .second, .val (.long vb), .second, .val (.long vc), .second, .val (.long vq), .second, .val (.int pn), .val (.int ct), .val (.int sl), .val (.int zA), .val (.int zB), .val (.int zC), .val (.ref b209), .val (.long vq), .second, .unset, .unset] []))) (fun t ks => XS.icmpNo X.here hx rfl (hb hby at_138) rfl (XT.ii_ne_f g2) ks) ?_
              refine own_st (V := (T.setTop (mkF m 142 #[.val (.long va), .second, .val (.long vb), .second, .val (.long vc), .second, .val (.long vq), .second, .val (.int pn), .val (.int ct), .val (.int sl), .val (.int zA), .val (.int zB), .val (.int zC), .val (.ref b209), .val (.long vq), .second, .unset, .unset] [(.long vb)]))) (fun t ks => XS.lloadN X.here hx rfl (hb hby at_141) rfl ks) ?_
              refine own_st (V := (T.setTop (mkF m 144 #[.val (.long va), .second, .val (.long vb), .second, .val (.long vc), .second, .val (.long vq), .second, .val (.int pn), .val (.int ct), .val (.int sl), .val (.int zA), .val (.int zB), .val (.int zC), .val (.ref b209), .val (.long vb), .second, .unset, .unset] []))) (fun t ks => XS.lstore X.here hx rfl (hb hby at_142) rfl (l' := #[.val (.long va), .second, .val (.long vb), .second, .val (.long vc), .second, .val (.long vq), .second, .val (.int pn), .val (.int ct), .val (.int sl), .val (.int zA), .val (.int zB), .val (.int zC), .val (.ref b209), .val (.long vb), .second, .unset, .unset]) rfl ks) ?_
              refine own_st (V := (T.setTop (mkF m 157 #[.val (.long va), .second, .val (.long vb), .second, .val (.long vc), .second, .val (.long vq), .second, .val (.int pn), .val (.int ct), .val (.int sl), .val (.int zA), .val (.int zB), .val (.int zC), .val (.ref b209), .val (.long vb), .second, .unset, .unset] []))) (fun t ks => XS.goto X.here hx rfl (pc0 := 144) (pc' := 157) rfl (hb hby at_144) (by decide) (by decide) ks) ?_
              exact K157 _
            · refine own_st (V := (T.setTop (mkF m 147 #[.val (.long va), .second, .val (.long vb), .second, .val (.long vc), .second, .val (.long vq), .second, .val (.int pn), .val (.int ct), .val (.int sl), .val (.int zA), .val (.int zB), .val (.int zC), .val (.ref b209), .val (.long vq), .second, .unset, .unset] []))) (fun t ks => XS.icmpYes X.here hx rfl (pc0 := 138) (pc' := 147) rfl (hb hby at_138) rfl (XT.ii_ne_t g2) (by decide) (by decide) ks) ?_
              refine own_st (V := (T.setTop (mkF m 149 #[.val (.long va), .second, .val (.long vb), .second, .val (.long vc), .second, .val (.long vq), .second, .val (.int pn), .val (.int ct), .val (.int sl), .val (.int zA), .val (.int zB), .val (.int zC), .val (.ref b209), .val (.long vq), .second, .unset, .unset] [(.int sl)]))) (fun t ks => XS.iload X.here hx rfl (hb hby at_147) rfl ks) ?_
              refine own_st (V := (T.setTop (mkF m 150 #[.val (.long va), .second, .val (.long vb), .second, .val (.long vc), .second, .val (.long vq), .second, .val (.int pn), .val (.int ct), .val (.int sl), .val (.int zA), .val (.int zB), .val (.int zC), .val (.ref b209), .val (.long vq), .second, .unset, .unset] [(.int (3 : Int32)), (.int sl)]))) (fun t ks => XS.iconst X.here hx rfl (hb hby at_149) ks) ?_
              by_cases g3 : sl = (3 : Int32)
              · refine own_st (V := (T.setTop (mkF m 153 #[.val (.long va), .second, .val (.long vb), .second, .val (.long vc), .second, .val (.long vq), .second, .val (.int pn), .val (.int ct), .val (.int sl), .val (.int zA), .val (.int zB), .val (.int zC), .val (.ref b209), .val (.long vq), .second, .unset, .unset] []))) (fun t ks => XS.icmpNo X.here hx rfl (hb hby at_150) rfl (XT.ii_ne_f g3) ks) ?_
                refine own_st (V := (T.setTop (mkF m 155 #[.val (.long va), .second, .val (.long vb), .second, .val (.long vc), .second, .val (.long vq), .second, .val (.int pn), .val (.int ct), .val (.int sl), .val (.int zA), .val (.int zB), .val (.int zC), .val (.ref b209), .val (.long vq), .second, .unset, .unset] [(.long vc)]))) (fun t ks => XS.lload X.here hx rfl (hb hby at_153) rfl ks) ?_
                refine own_st (V := (T.setTop (mkF m 157 #[.val (.long va), .second, .val (.long vb), .second, .val (.long vc), .second, .val (.long vq), .second, .val (.int pn), .val (.int ct), .val (.int sl), .val (.int zA), .val (.int zB), .val (.int zC), .val (.ref b209), .val (.long vc), .second, .unset, .unset] []))) (fun t ks => XS.lstore X.here hx rfl (hb hby at_155) rfl (l' := #[.val (.long va), .second, .val (.long vb), .second, .val (.long vc), .second, .val (.long vq), .second, .val (.int pn), .val (.int ct), .val (.int sl), .val (.int zA), .val (.int zB), .val (.int zC), .val (.ref b209), .val (.long vc), .second, .unset, .unset]) rfl ks) ?_
                exact K157 _
              · refine own_st (V := (T.setTop (mkF m 157 #[.val (.long va), .second, .val (.long vb), .second, .val (.long vc), .second, .val (.long vq), .second, .val (.int pn), .val (.int ct), .val (.int sl), .val (.int zA), .val (.int zB), .val (.int zC), .val (.ref b209), .val (.long vq), .second, .unset, .unset] []))) (fun t ks => XS.icmpYes X.here hx rfl (pc0 := 150) (pc' := 157) rfl (hb hby at_150) rfl (XT.ii_ne_t g3) (by decide) (by decide) ks) ?_
                exact K157 _
        refine own_st (V := (T210.setTop (mkF m 84 #[.val (.long va), .second, .val (.long vb), .second, .val (.long vc), .second, .val (.long vq), .second, .val (.int pn), .val (.int ct), .val (.int sl), .val (.int zA), .val (.int zB), .val (.int zC), .val (.ref b209), .unset, .unset, .unset, .unset] [(.int zA)]))) (fun t ks => XS.iload X210.here hx rfl (hb hby at_82) rfl ks) ?_
        by_cases gzA : zA = 0
        · refine own_st (V := (T210.setTop (mkF m 94 #[.val (.long va), .second, .val (.long vb), .second, .val (.long vc), .second, .val (.long vq), .second, .val (.int pn), .val (.int ct), .val (.int sl), .val (.int zA), .val (.int zB), .val (.int zC), .val (.ref b209), .unset, .unset, .unset, .unset] []))) (fun t ks => XS.ifYes X210.here hx rfl (pc0 := 84) (pc' := 94) rfl (hb hby at_84) rfl (XT.i0_eq_t gzA) (by decide) (by decide) ks) ?_
          have hA : ¬ (¬ ct < 1) := fun q => by rw [hzA, if_pos q] at gzA; exact absurd gzA (by decide)
          have nA : ct < 1 := Decidable.byContradiction hA
          have hB : ¬ (¬ ct < 2 ∧ ¬ vb = va) := fun q => q.1 (by rw [Int32.lt_iff_toInt_lt] at *; simp only [show (1 : Int32).toInt = 1 from rfl, show (2 : Int32).toInt = 2 from rfl, show (3 : Int32).toInt = 3 from rfl] at *; omega)
          have hC : ¬ (¬ ct < 3 ∧ ¬ vc = va ∧ ¬ vc = vb) := fun q => q.1 (by rw [Int32.lt_iff_toInt_lt] at *; simp only [show (1 : Int32).toInt = 1 from rfl, show (2 : Int32).toInt = 2 from rfl, show (3 : Int32).toInt = 3 from rfl] at *; omega)
          refine own_st (V := (T210.setTop (mkF m 96 #[.val (.long va), .second, .val (.long vb), .second, .val (.long vc), .second, .val (.long vq), .second, .val (.int pn), .val (.int ct), .val (.int sl), .val (.int zA), .val (.int zB), .val (.int zC), .val (.ref b209), .unset, .unset, .unset, .unset] [(.int zB)]))) (fun t ks => XS.iload X210.here hx rfl (hb hby at_94) rfl ks) ?_
          refine own_st (V := (T210.setTop (mkF m 106 #[.val (.long va), .second, .val (.long vb), .second, .val (.long vc), .second, .val (.long vq), .second, .val (.int pn), .val (.int ct), .val (.int sl), .val (.int zA), .val (.int zB), .val (.int zC), .val (.ref b209), .unset, .unset, .unset, .unset] []))) (fun t ks => XS.ifYes X210.here hx rfl (pc0 := 96) (pc' := 106) rfl (hb hby at_96) rfl (XT.i0_eq_t (by rw [hzB, if_neg hB])) (by decide) (by decide) ks) ?_
          refine own_st (V := (T210.setTop (mkF m 108 #[.val (.long va), .second, .val (.long vb), .second, .val (.long vc), .second, .val (.long vq), .second, .val (.int pn), .val (.int ct), .val (.int sl), .val (.int zA), .val (.int zB), .val (.int zC), .val (.ref b209), .unset, .unset, .unset, .unset] [(.int zC)]))) (fun t ks => XS.iload X210.here hx rfl (hb hby at_106) rfl ks) ?_
          refine own_st (V := (T210.setTop (mkF m 119 #[.val (.long va), .second, .val (.long vb), .second, .val (.long vc), .second, .val (.long vq), .second, .val (.int pn), .val (.int ct), .val (.int sl), .val (.int zA), .val (.int zB), .val (.int zC), .val (.ref b209), .unset, .unset, .unset, .unset] []))) (fun t ks => XS.ifYes X210.here hx rfl (pc0 := 108) (pc' := 119) rfl (hb hby at_108) rfl (XT.i0_eq_t (by rw [hzC, if_neg hC])) (by decide) (by decide) ks) ?_
          obtain ⟨aN, aG, aW, aC, aD, aF, kN, kG, kW, kC, kD, kF, -, E, FN, FG, FW, FC, FD, FF, FS, VN, -⟩ := H210
          exact K119 _ _ _ _ _ X210 (by decide) (by decide) rfl N210 aN kN [] (by simp) E FN VN FS (fun x => own_lf_0 hA hB hC  x)
        · refine own_st (V := (T210.setTop (mkF m 87 #[.val (.long va), .second, .val (.long vb), .second, .val (.long vc), .second, .val (.long vq), .second, .val (.int pn), .val (.int ct), .val (.int sl), .val (.int zA), .val (.int zB), .val (.int zC), .val (.ref b209), .unset, .unset, .unset, .unset] []))) (fun t ks => XS.ifNo X210.here hx rfl (hb hby at_84) rfl (XT.i0_eq_f gzA) ks) ?_
          have hA : ¬ ct < 1 := Decidable.byContradiction fun q => by rw [hzA, if_neg q] at gzA; exact gzA rfl
          refine own_st (V := (T210.setTop (mkF m 89 #[.val (.long va), .second, .val (.long vb), .second, .val (.long vc), .second, .val (.long vq), .second, .val (.int pn), .val (.int ct), .val (.int sl), .val (.int zA), .val (.int zB), .val (.int zC), .val (.ref b209), .unset, .unset, .unset, .unset] [(.ref b209)]))) (fun t ks => XS.aload X210.here hx rfl (hb hby at_87) rfl rfl ks) ?_
          refine own_st (V := (T210.setTop (mkF m 90 #[.val (.long va), .second, .val (.long vb), .second, .val (.long vc), .second, .val (.long vq), .second, .val (.int pn), .val (.int ct), .val (.int sl), .val (.int zA), .val (.int zB), .val (.int zC), .val (.ref b209), .unset, .unset, .unset, .unset] [(.long va), (.ref b209)]))) (fun t ks => XS.lloadN X210.here hx rfl (hb hby at_89) rfl ks) ?_
          refine own_callV X210 hx hZ hown (hw _ (List.mem_of_getElem? (i := 24) rfl)) (hw _ (List.mem_of_getElem? (i := 25) rfl)) (hw _ (List.mem_of_getElem? (i := 27) rfl)) (hw _ (List.mem_of_getElem? (i := 26) rfl)) (hw _ (List.mem_of_getElem? (i := 2) rfl)) (hw _ (List.mem_of_getElem? (i := 28) rfl)) (by decide) (rmAd00 l Z a0 hw b209 va T210.heap (own_EP_sz H210) H210) rfl (own_EP_exa H210) (by rw [hml]; rfl) (argsL := [(.long va)]) (rest := []) pd_8 rfl rfl rfl (W := 0) (Nat.le_of_eq rfl) (hb hby at_90) (by decide) (by decide) (by decide) (by decide) ?_
          rintro v212 T212 L212 X212 ⟨rfl, N212, H212⟩
          replace N212 := Fr.app N210 N212
          show OGoes p.tables e below _ (T212.setTop (mkF m 93 #[.val (.long va), .second, .val (.long vb), .second, .val (.long vc), .second, .val (.long vq), .second, .val (.int pn), .val (.int ct), .val (.int sl), .val (.int zA), .val (.int zB), .val (.int zC), .val (.ref b209), .unset, .unset, .unset, .unset] [(.int (0 : Int32))]))
          refine own_st (V := (T212.setTop (mkF m 94 #[.val (.long va), .second, .val (.long vb), .second, .val (.long vc), .second, .val (.long vq), .second, .val (.int pn), .val (.int ct), .val (.int sl), .val (.int zA), .val (.int zB), .val (.int zC), .val (.ref b209), .unset, .unset, .unset, .unset] []))) (fun t ks => XS.pop X212.here hx rfl (hb hby at_93) rfl rfl ks) ?_
          refine own_st (V := (T212.setTop (mkF m 96 #[.val (.long va), .second, .val (.long vb), .second, .val (.long vc), .second, .val (.long vq), .second, .val (.int pn), .val (.int ct), .val (.int sl), .val (.int zA), .val (.int zB), .val (.int zC), .val (.ref b209), .unset, .unset, .unset, .unset] [(.int zB)]))) (fun t ks => XS.iload X212.here hx rfl (hb hby at_94) rfl ks) ?_
          by_cases gzB : zB = 0
          · refine own_st (V := (T212.setTop (mkF m 106 #[.val (.long va), .second, .val (.long vb), .second, .val (.long vc), .second, .val (.long vq), .second, .val (.int pn), .val (.int ct), .val (.int sl), .val (.int zA), .val (.int zB), .val (.int zC), .val (.ref b209), .unset, .unset, .unset, .unset] []))) (fun t ks => XS.ifYes X212.here hx rfl (pc0 := 96) (pc' := 106) rfl (hb hby at_96) rfl (XT.i0_eq_t gzB) (by decide) (by decide) ks) ?_
            have hB : ¬ ((¬ ct < 2 ∧ ¬ vb = va)) := fun q => by rw [hzB, if_pos q] at gzB; exact absurd gzB (by decide)
            refine own_st (V := (T212.setTop (mkF m 108 #[.val (.long va), .second, .val (.long vb), .second, .val (.long vc), .second, .val (.long vq), .second, .val (.int pn), .val (.int ct), .val (.int sl), .val (.int zA), .val (.int zB), .val (.int zC), .val (.ref b209), .unset, .unset, .unset, .unset] [(.int zC)]))) (fun t ks => XS.iload X212.here hx rfl (hb hby at_106) rfl ks) ?_
            by_cases gzC : zC = 0
            · refine own_st (V := (T212.setTop (mkF m 119 #[.val (.long va), .second, .val (.long vb), .second, .val (.long vc), .second, .val (.long vq), .second, .val (.int pn), .val (.int ct), .val (.int sl), .val (.int zA), .val (.int zB), .val (.int zC), .val (.ref b209), .unset, .unset, .unset, .unset] []))) (fun t ks => XS.ifYes X212.here hx rfl (pc0 := 108) (pc' := 119) rfl (hb hby at_108) rfl (XT.i0_eq_t gzC) (by decide) (by decide) ks) ?_
              have hC : ¬ ((¬ ct < 3 ∧ ¬ vc = va ∧ ¬ vc = vb)) := fun q => by rw [hzC, if_pos q] at gzC; exact absurd gzC (by decide)
              obtain ⟨aN, aG, aW, aC, aD, aF, kN, kG, kW, kC, kD, kF, -, E, FN, FG, FW, FC, FD, FF, FS, VN, -⟩ := H212
              exact K119 _ _ _ _ _ X212 (by decide) (by decide) rfl N212 aN kN [va] (by simp) E FN VN FS (fun x => own_lf_va hA hB hC  x)
            · refine own_st (V := (T212.setTop (mkF m 111 #[.val (.long va), .second, .val (.long vb), .second, .val (.long vc), .second, .val (.long vq), .second, .val (.int pn), .val (.int ct), .val (.int sl), .val (.int zA), .val (.int zB), .val (.int zC), .val (.ref b209), .unset, .unset, .unset, .unset] []))) (fun t ks => XS.ifNo X212.here hx rfl (hb hby at_108) rfl (XT.i0_eq_f gzC) ks) ?_
              have hC : (¬ ct < 3 ∧ ¬ vc = va ∧ ¬ vc = vb) := Decidable.byContradiction fun q => by rw [hzC, if_neg q] at gzC; exact gzC rfl
              refine own_st (V := (T212.setTop (mkF m 113 #[.val (.long va), .second, .val (.long vb), .second, .val (.long vc), .second, .val (.long vq), .second, .val (.int pn), .val (.int ct), .val (.int sl), .val (.int zA), .val (.int zB), .val (.int zC), .val (.ref b209), .unset, .unset, .unset, .unset] [(.ref b209)]))) (fun t ks => XS.aload X212.here hx rfl (hb hby at_111) rfl rfl ks) ?_
              refine own_st (V := (T212.setTop (mkF m 115 #[.val (.long va), .second, .val (.long vb), .second, .val (.long vc), .second, .val (.long vq), .second, .val (.int pn), .val (.int ct), .val (.int sl), .val (.int zA), .val (.int zB), .val (.int zC), .val (.ref b209), .unset, .unset, .unset, .unset] [(.long vc), (.ref b209)]))) (fun t ks => XS.lload X212.here hx rfl (hb hby at_113) rfl ks) ?_
              by_cases o_va_vc : va < vc
              · refine own_callV X212 hx hZ hown (hw _ (List.mem_of_getElem? (i := 24) rfl)) (hw _ (List.mem_of_getElem? (i := 25) rfl)) (hw _ (List.mem_of_getElem? (i := 27) rfl)) (hw _ (List.mem_of_getElem? (i := 26) rfl)) (hw _ (List.mem_of_getElem? (i := 2) rfl)) (hw _ (List.mem_of_getElem? (i := 28) rfl)) (by decide) (rmAd11 l Z a0 hw b209 vc va o_va_vc T212.heap (own_EP_sz H212) H212) rfl (own_EP_exa H212) (by rw [hml]; rfl) (argsL := [(.long vc)]) (rest := []) pd_8 rfl rfl rfl (W := 0) (Nat.le_of_eq rfl) (hb hby at_115) (by decide) (by decide) (by decide) (by decide) ?_
                rintro v213 T213 L213 X213 ⟨rfl, N213, H213⟩
                replace N213 := Fr.app N212 N213
                show OGoes p.tables e below _ (T213.setTop (mkF m 118 #[.val (.long va), .second, .val (.long vb), .second, .val (.long vc), .second, .val (.long vq), .second, .val (.int pn), .val (.int ct), .val (.int sl), .val (.int zA), .val (.int zB), .val (.int zC), .val (.ref b209), .unset, .unset, .unset, .unset] [(.int (1 : Int32))]))
                refine own_st (V := (T213.setTop (mkF m 119 #[.val (.long va), .second, .val (.long vb), .second, .val (.long vc), .second, .val (.long vq), .second, .val (.int pn), .val (.int ct), .val (.int sl), .val (.int zA), .val (.int zB), .val (.int zC), .val (.ref b209), .unset, .unset, .unset, .unset] []))) (fun t ks => XS.pop X213.here hx rfl (hb hby at_118) rfl rfl ks) ?_
                obtain ⟨aN, aG, aW, aC, aD, aF, kN, kG, kW, kC, kD, kF, -, E, FN, FG, FW, FC, FD, FF, FS, VN, -⟩ := H213
                exact K119 _ _ _ _ _ X213 (by decide) (by decide) rfl N213 aN kN [va, vc] (by simp) E FN VN FS (fun x => own_lf_vavc hA hB hC o_va_vc x)
              · have o_vc_va : vc < va := own_le o_va_vc hC.2.1
                refine own_callV X212 hx hZ hown (hw _ (List.mem_of_getElem? (i := 24) rfl)) (hw _ (List.mem_of_getElem? (i := 25) rfl)) (hw _ (List.mem_of_getElem? (i := 27) rfl)) (hw _ (List.mem_of_getElem? (i := 26) rfl)) (hw _ (List.mem_of_getElem? (i := 2) rfl)) (hw _ (List.mem_of_getElem? (i := 28) rfl)) (by decide) (rmAd10 l Z a0 hw b209 vc va o_vc_va T212.heap (own_EP_sz H212) H212) rfl (own_EP_exa H212) (by rw [hml]; rfl) (argsL := [(.long vc)]) (rest := []) pd_8 rfl rfl rfl (W := 0) (Nat.le_of_eq rfl) (hb hby at_115) (by decide) (by decide) (by decide) (by decide) ?_
                rintro v214 T214 L214 X214 ⟨rfl, N214, H214⟩
                replace N214 := Fr.app N212 N214
                show OGoes p.tables e below _ (T214.setTop (mkF m 118 #[.val (.long va), .second, .val (.long vb), .second, .val (.long vc), .second, .val (.long vq), .second, .val (.int pn), .val (.int ct), .val (.int sl), .val (.int zA), .val (.int zB), .val (.int zC), .val (.ref b209), .unset, .unset, .unset, .unset] [(.int (0 : Int32))]))
                refine own_st (V := (T214.setTop (mkF m 119 #[.val (.long va), .second, .val (.long vb), .second, .val (.long vc), .second, .val (.long vq), .second, .val (.int pn), .val (.int ct), .val (.int sl), .val (.int zA), .val (.int zB), .val (.int zC), .val (.ref b209), .unset, .unset, .unset, .unset] []))) (fun t ks => XS.pop X214.here hx rfl (hb hby at_118) rfl rfl ks) ?_
                obtain ⟨aN, aG, aW, aC, aD, aF, kN, kG, kW, kC, kD, kF, -, E, FN, FG, FW, FC, FD, FF, FS, VN, -⟩ := H214
                exact K119 _ _ _ _ _ X214 (by decide) (by decide) rfl N214 aN kN [vc, va] (by simp) E FN VN FS (fun x => own_lf_vcva hA hB hC o_vc_va x)
          · refine own_st (V := (T212.setTop (mkF m 99 #[.val (.long va), .second, .val (.long vb), .second, .val (.long vc), .second, .val (.long vq), .second, .val (.int pn), .val (.int ct), .val (.int sl), .val (.int zA), .val (.int zB), .val (.int zC), .val (.ref b209), .unset, .unset, .unset, .unset] []))) (fun t ks => XS.ifNo X212.here hx rfl (hb hby at_96) rfl (XT.i0_eq_f gzB) ks) ?_
            have hB : (¬ ct < 2 ∧ ¬ vb = va) := Decidable.byContradiction fun q => by rw [hzB, if_neg q] at gzB; exact gzB rfl
            refine own_st (V := (T212.setTop (mkF m 101 #[.val (.long va), .second, .val (.long vb), .second, .val (.long vc), .second, .val (.long vq), .second, .val (.int pn), .val (.int ct), .val (.int sl), .val (.int zA), .val (.int zB), .val (.int zC), .val (.ref b209), .unset, .unset, .unset, .unset] [(.ref b209)]))) (fun t ks => XS.aload X212.here hx rfl (hb hby at_99) rfl rfl ks) ?_
            refine own_st (V := (T212.setTop (mkF m 102 #[.val (.long va), .second, .val (.long vb), .second, .val (.long vc), .second, .val (.long vq), .second, .val (.int pn), .val (.int ct), .val (.int sl), .val (.int zA), .val (.int zB), .val (.int zC), .val (.ref b209), .unset, .unset, .unset, .unset] [(.long vb), (.ref b209)]))) (fun t ks => XS.lloadN X212.here hx rfl (hb hby at_101) rfl ks) ?_
            by_cases o_va_vb : va < vb
            · refine own_callV X212 hx hZ hown (hw _ (List.mem_of_getElem? (i := 24) rfl)) (hw _ (List.mem_of_getElem? (i := 25) rfl)) (hw _ (List.mem_of_getElem? (i := 27) rfl)) (hw _ (List.mem_of_getElem? (i := 26) rfl)) (hw _ (List.mem_of_getElem? (i := 2) rfl)) (hw _ (List.mem_of_getElem? (i := 28) rfl)) (by decide) (rmAd11 l Z a0 hw b209 vb va o_va_vb T212.heap (own_EP_sz H212) H212) rfl (own_EP_exa H212) (by rw [hml]; rfl) (argsL := [(.long vb)]) (rest := []) pd_8 rfl rfl rfl (W := 0) (Nat.le_of_eq rfl) (hb hby at_102) (by decide) (by decide) (by decide) (by decide) ?_
              rintro v215 T215 L215 X215 ⟨rfl, N215, H215⟩
              replace N215 := Fr.app N212 N215
              show OGoes p.tables e below _ (T215.setTop (mkF m 105 #[.val (.long va), .second, .val (.long vb), .second, .val (.long vc), .second, .val (.long vq), .second, .val (.int pn), .val (.int ct), .val (.int sl), .val (.int zA), .val (.int zB), .val (.int zC), .val (.ref b209), .unset, .unset, .unset, .unset] [(.int (1 : Int32))]))
              refine own_st (V := (T215.setTop (mkF m 106 #[.val (.long va), .second, .val (.long vb), .second, .val (.long vc), .second, .val (.long vq), .second, .val (.int pn), .val (.int ct), .val (.int sl), .val (.int zA), .val (.int zB), .val (.int zC), .val (.ref b209), .unset, .unset, .unset, .unset] []))) (fun t ks => XS.pop X215.here hx rfl (hb hby at_105) rfl rfl ks) ?_
              refine own_st (V := (T215.setTop (mkF m 108 #[.val (.long va), .second, .val (.long vb), .second, .val (.long vc), .second, .val (.long vq), .second, .val (.int pn), .val (.int ct), .val (.int sl), .val (.int zA), .val (.int zB), .val (.int zC), .val (.ref b209), .unset, .unset, .unset, .unset] [(.int zC)]))) (fun t ks => XS.iload X215.here hx rfl (hb hby at_106) rfl ks) ?_
              by_cases gzC : zC = 0
              · refine own_st (V := (T215.setTop (mkF m 119 #[.val (.long va), .second, .val (.long vb), .second, .val (.long vc), .second, .val (.long vq), .second, .val (.int pn), .val (.int ct), .val (.int sl), .val (.int zA), .val (.int zB), .val (.int zC), .val (.ref b209), .unset, .unset, .unset, .unset] []))) (fun t ks => XS.ifYes X215.here hx rfl (pc0 := 108) (pc' := 119) rfl (hb hby at_108) rfl (XT.i0_eq_t gzC) (by decide) (by decide) ks) ?_
                have hC : ¬ ((¬ ct < 3 ∧ ¬ vc = va ∧ ¬ vc = vb)) := fun q => by rw [hzC, if_pos q] at gzC; exact absurd gzC (by decide)
                obtain ⟨aN, aG, aW, aC, aD, aF, kN, kG, kW, kC, kD, kF, -, E, FN, FG, FW, FC, FD, FF, FS, VN, -⟩ := H215
                exact K119 _ _ _ _ _ X215 (by decide) (by decide) rfl N215 aN kN [va, vb] (by simp) E FN VN FS (fun x => own_lf_vavb hA hB hC o_va_vb x)
              · refine own_st (V := (T215.setTop (mkF m 111 #[.val (.long va), .second, .val (.long vb), .second, .val (.long vc), .second, .val (.long vq), .second, .val (.int pn), .val (.int ct), .val (.int sl), .val (.int zA), .val (.int zB), .val (.int zC), .val (.ref b209), .unset, .unset, .unset, .unset] []))) (fun t ks => XS.ifNo X215.here hx rfl (hb hby at_108) rfl (XT.i0_eq_f gzC) ks) ?_
                have hC : (¬ ct < 3 ∧ ¬ vc = va ∧ ¬ vc = vb) := Decidable.byContradiction fun q => by rw [hzC, if_neg q] at gzC; exact gzC rfl
                refine own_st (V := (T215.setTop (mkF m 113 #[.val (.long va), .second, .val (.long vb), .second, .val (.long vc), .second, .val (.long vq), .second, .val (.int pn), .val (.int ct), .val (.int sl), .val (.int zA), .val (.int zB), .val (.int zC), .val (.ref b209), .unset, .unset, .unset, .unset] [(.ref b209)]))) (fun t ks => XS.aload X215.here hx rfl (hb hby at_111) rfl rfl ks) ?_
                refine own_st (V := (T215.setTop (mkF m 115 #[.val (.long va), .second, .val (.long vb), .second, .val (.long vc), .second, .val (.long vq), .second, .val (.int pn), .val (.int ct), .val (.int sl), .val (.int zA), .val (.int zB), .val (.int zC), .val (.ref b209), .unset, .unset, .unset, .unset] [(.long vc), (.ref b209)]))) (fun t ks => XS.lload X215.here hx rfl (hb hby at_113) rfl ks) ?_
                by_cases o_va_vc : va < vc
                · by_cases o_vb_vc : vb < vc
                  · refine own_callV X215 hx hZ hown (hw _ (List.mem_of_getElem? (i := 24) rfl)) (hw _ (List.mem_of_getElem? (i := 25) rfl)) (hw _ (List.mem_of_getElem? (i := 27) rfl)) (hw _ (List.mem_of_getElem? (i := 26) rfl)) (hw _ (List.mem_of_getElem? (i := 2) rfl)) (hw _ (List.mem_of_getElem? (i := 28) rfl)) (by decide) (rmAd22 l Z a0 hw b209 vc va vb o_va_vc o_vb_vc T215.heap (own_EP_sz H215) H215) rfl (own_EP_exa H215) (by rw [hml]; rfl) (argsL := [(.long vc)]) (rest := []) pd_8 rfl rfl rfl (W := 0) (Nat.le_of_eq rfl) (hb hby at_115) (by decide) (by decide) (by decide) (by decide) ?_
                    rintro v216 T216 L216 X216 ⟨rfl, N216, H216⟩
                    replace N216 := Fr.app N215 N216
                    show OGoes p.tables e below _ (T216.setTop (mkF m 118 #[.val (.long va), .second, .val (.long vb), .second, .val (.long vc), .second, .val (.long vq), .second, .val (.int pn), .val (.int ct), .val (.int sl), .val (.int zA), .val (.int zB), .val (.int zC), .val (.ref b209), .unset, .unset, .unset, .unset] [(.int (2 : Int32))]))
                    refine own_st (V := (T216.setTop (mkF m 119 #[.val (.long va), .second, .val (.long vb), .second, .val (.long vc), .second, .val (.long vq), .second, .val (.int pn), .val (.int ct), .val (.int sl), .val (.int zA), .val (.int zB), .val (.int zC), .val (.ref b209), .unset, .unset, .unset, .unset] []))) (fun t ks => XS.pop X216.here hx rfl (hb hby at_118) rfl rfl ks) ?_
                    obtain ⟨aN, aG, aW, aC, aD, aF, kN, kG, kW, kC, kD, kF, -, E, FN, FG, FW, FC, FD, FF, FS, VN, -⟩ := H216
                    exact K119 _ _ _ _ _ X216 (by decide) (by decide) rfl N216 aN kN [va, vb, vc] (by simp) E FN VN FS (fun x => own_lf_vavbvc hA hB hC o_va_vb o_vb_vc x)
                  · have o_vc_vb : vc < vb := own_le o_vb_vc hC.2.2
                    refine own_callV X215 hx hZ hown (hw _ (List.mem_of_getElem? (i := 24) rfl)) (hw _ (List.mem_of_getElem? (i := 25) rfl)) (hw _ (List.mem_of_getElem? (i := 27) rfl)) (hw _ (List.mem_of_getElem? (i := 26) rfl)) (hw _ (List.mem_of_getElem? (i := 2) rfl)) (hw _ (List.mem_of_getElem? (i := 28) rfl)) (by decide) (rmAd21 l Z a0 hw b209 vc va vb o_va_vc o_vc_vb T215.heap (own_EP_sz H215) H215) rfl (own_EP_exa H215) (by rw [hml]; rfl) (argsL := [(.long vc)]) (rest := []) pd_8 rfl rfl rfl (W := 0) (Nat.le_of_eq rfl) (hb hby at_115) (by decide) (by decide) (by decide) (by decide) ?_
                    rintro v217 T217 L217 X217 ⟨rfl, N217, H217⟩
                    replace N217 := Fr.app N215 N217
                    show OGoes p.tables e below _ (T217.setTop (mkF m 118 #[.val (.long va), .second, .val (.long vb), .second, .val (.long vc), .second, .val (.long vq), .second, .val (.int pn), .val (.int ct), .val (.int sl), .val (.int zA), .val (.int zB), .val (.int zC), .val (.ref b209), .unset, .unset, .unset, .unset] [(.int (1 : Int32))]))
                    refine own_st (V := (T217.setTop (mkF m 119 #[.val (.long va), .second, .val (.long vb), .second, .val (.long vc), .second, .val (.long vq), .second, .val (.int pn), .val (.int ct), .val (.int sl), .val (.int zA), .val (.int zB), .val (.int zC), .val (.ref b209), .unset, .unset, .unset, .unset] []))) (fun t ks => XS.pop X217.here hx rfl (hb hby at_118) rfl rfl ks) ?_
                    obtain ⟨aN, aG, aW, aC, aD, aF, kN, kG, kW, kC, kD, kF, -, E, FN, FG, FW, FC, FD, FF, FS, VN, -⟩ := H217
                    exact K119 _ _ _ _ _ X217 (by decide) (by decide) rfl N217 aN kN [va, vc, vb] (by simp) E FN VN FS (fun x => own_lf_vavcvb hA hB hC o_va_vc o_vc_vb x)
                · have o_vc_va : vc < va := own_le o_va_vc hC.2.1
                  have o_vc_vb : vc < vb := by have := o_va_vb; rw [Int64.lt_iff_toInt_lt] at *; omega
                  refine own_callV X215 hx hZ hown (hw _ (List.mem_of_getElem? (i := 24) rfl)) (hw _ (List.mem_of_getElem? (i := 25) rfl)) (hw _ (List.mem_of_getElem? (i := 27) rfl)) (hw _ (List.mem_of_getElem? (i := 26) rfl)) (hw _ (List.mem_of_getElem? (i := 2) rfl)) (hw _ (List.mem_of_getElem? (i := 28) rfl)) (by decide) (rmAd20 l Z a0 hw b209 vc va vb o_vc_va o_vc_vb T215.heap (own_EP_sz H215) H215) rfl (own_EP_exa H215) (by rw [hml]; rfl) (argsL := [(.long vc)]) (rest := []) pd_8 rfl rfl rfl (W := 0) (Nat.le_of_eq rfl) (hb hby at_115) (by decide) (by decide) (by decide) (by decide) ?_
                  rintro v218 T218 L218 X218 ⟨rfl, N218, H218⟩
                  replace N218 := Fr.app N215 N218
                  show OGoes p.tables e below _ (T218.setTop (mkF m 118 #[.val (.long va), .second, .val (.long vb), .second, .val (.long vc), .second, .val (.long vq), .second, .val (.int pn), .val (.int ct), .val (.int sl), .val (.int zA), .val (.int zB), .val (.int zC), .val (.ref b209), .unset, .unset, .unset, .unset] [(.int (0 : Int32))]))
                  refine own_st (V := (T218.setTop (mkF m 119 #[.val (.long va), .second, .val (.long vb), .second, .val (.long vc), .second, .val (.long vq), .second, .val (.int pn), .val (.int ct), .val (.int sl), .val (.int zA), .val (.int zB), .val (.int zC), .val (.ref b209), .unset, .unset, .unset, .unset] []))) (fun t ks => XS.pop X218.here hx rfl (hb hby at_118) rfl rfl ks) ?_
                  obtain ⟨aN, aG, aW, aC, aD, aF, kN, kG, kW, kC, kD, kF, -, E, FN, FG, FW, FC, FD, FF, FS, VN, -⟩ := H218
                  exact K119 _ _ _ _ _ X218 (by decide) (by decide) rfl N218 aN kN [vc, va, vb] (by simp) E FN VN FS (fun x => own_lf_vcvavb hA hB hC o_vc_va o_va_vb x)
            · have o_vb_va : vb < va := own_le o_va_vb hB.2
              refine own_callV X212 hx hZ hown (hw _ (List.mem_of_getElem? (i := 24) rfl)) (hw _ (List.mem_of_getElem? (i := 25) rfl)) (hw _ (List.mem_of_getElem? (i := 27) rfl)) (hw _ (List.mem_of_getElem? (i := 26) rfl)) (hw _ (List.mem_of_getElem? (i := 2) rfl)) (hw _ (List.mem_of_getElem? (i := 28) rfl)) (by decide) (rmAd10 l Z a0 hw b209 vb va o_vb_va T212.heap (own_EP_sz H212) H212) rfl (own_EP_exa H212) (by rw [hml]; rfl) (argsL := [(.long vb)]) (rest := []) pd_8 rfl rfl rfl (W := 0) (Nat.le_of_eq rfl) (hb hby at_102) (by decide) (by decide) (by decide) (by decide) ?_
              rintro v219 T219 L219 X219 ⟨rfl, N219, H219⟩
              replace N219 := Fr.app N212 N219
              show OGoes p.tables e below _ (T219.setTop (mkF m 105 #[.val (.long va), .second, .val (.long vb), .second, .val (.long vc), .second, .val (.long vq), .second, .val (.int pn), .val (.int ct), .val (.int sl), .val (.int zA), .val (.int zB), .val (.int zC), .val (.ref b209), .unset, .unset, .unset, .unset] [(.int (0 : Int32))]))
              refine own_st (V := (T219.setTop (mkF m 106 #[.val (.long va), .second, .val (.long vb), .second, .val (.long vc), .second, .val (.long vq), .second, .val (.int pn), .val (.int ct), .val (.int sl), .val (.int zA), .val (.int zB), .val (.int zC), .val (.ref b209), .unset, .unset, .unset, .unset] []))) (fun t ks => XS.pop X219.here hx rfl (hb hby at_105) rfl rfl ks) ?_
              refine own_st (V := (T219.setTop (mkF m 108 #[.val (.long va), .second, .val (.long vb), .second, .val (.long vc), .second, .val (.long vq), .second, .val (.int pn), .val (.int ct), .val (.int sl), .val (.int zA), .val (.int zB), .val (.int zC), .val (.ref b209), .unset, .unset, .unset, .unset] [(.int zC)]))) (fun t ks => XS.iload X219.here hx rfl (hb hby at_106) rfl ks) ?_
              by_cases gzC : zC = 0
              · refine own_st (V := (T219.setTop (mkF m 119 #[.val (.long va), .second, .val (.long vb), .second, .val (.long vc), .second, .val (.long vq), .second, .val (.int pn), .val (.int ct), .val (.int sl), .val (.int zA), .val (.int zB), .val (.int zC), .val (.ref b209), .unset, .unset, .unset, .unset] []))) (fun t ks => XS.ifYes X219.here hx rfl (pc0 := 108) (pc' := 119) rfl (hb hby at_108) rfl (XT.i0_eq_t gzC) (by decide) (by decide) ks) ?_
                have hC : ¬ ((¬ ct < 3 ∧ ¬ vc = va ∧ ¬ vc = vb)) := fun q => by rw [hzC, if_pos q] at gzC; exact absurd gzC (by decide)
                obtain ⟨aN, aG, aW, aC, aD, aF, kN, kG, kW, kC, kD, kF, -, E, FN, FG, FW, FC, FD, FF, FS, VN, -⟩ := H219
                exact K119 _ _ _ _ _ X219 (by decide) (by decide) rfl N219 aN kN [vb, va] (by simp) E FN VN FS (fun x => own_lf_vbva hA hB hC o_vb_va x)
              · refine own_st (V := (T219.setTop (mkF m 111 #[.val (.long va), .second, .val (.long vb), .second, .val (.long vc), .second, .val (.long vq), .second, .val (.int pn), .val (.int ct), .val (.int sl), .val (.int zA), .val (.int zB), .val (.int zC), .val (.ref b209), .unset, .unset, .unset, .unset] []))) (fun t ks => XS.ifNo X219.here hx rfl (hb hby at_108) rfl (XT.i0_eq_f gzC) ks) ?_
                have hC : (¬ ct < 3 ∧ ¬ vc = va ∧ ¬ vc = vb) := Decidable.byContradiction fun q => by rw [hzC, if_neg q] at gzC; exact gzC rfl
                refine own_st (V := (T219.setTop (mkF m 113 #[.val (.long va), .second, .val (.long vb), .second, .val (.long vc), .second, .val (.long vq), .second, .val (.int pn), .val (.int ct), .val (.int sl), .val (.int zA), .val (.int zB), .val (.int zC), .val (.ref b209), .unset, .unset, .unset, .unset] [(.ref b209)]))) (fun t ks => XS.aload X219.here hx rfl (hb hby at_111) rfl rfl ks) ?_
                refine own_st (V := (T219.setTop (mkF m 115 #[.val (.long va), .second, .val (.long vb), .second, .val (.long vc), .second, .val (.long vq), .second, .val (.int pn), .val (.int ct), .val (.int sl), .val (.int zA), .val (.int zB), .val (.int zC), .val (.ref b209), .unset, .unset, .unset, .unset] [(.long vc), (.ref b209)]))) (fun t ks => XS.lload X219.here hx rfl (hb hby at_113) rfl ks) ?_
                by_cases o_vb_vc : vb < vc
                · by_cases o_va_vc : va < vc
                  · refine own_callV X219 hx hZ hown (hw _ (List.mem_of_getElem? (i := 24) rfl)) (hw _ (List.mem_of_getElem? (i := 25) rfl)) (hw _ (List.mem_of_getElem? (i := 27) rfl)) (hw _ (List.mem_of_getElem? (i := 26) rfl)) (hw _ (List.mem_of_getElem? (i := 2) rfl)) (hw _ (List.mem_of_getElem? (i := 28) rfl)) (by decide) (rmAd22 l Z a0 hw b209 vc vb va o_vb_vc o_va_vc T219.heap (own_EP_sz H219) H219) rfl (own_EP_exa H219) (by rw [hml]; rfl) (argsL := [(.long vc)]) (rest := []) pd_8 rfl rfl rfl (W := 0) (Nat.le_of_eq rfl) (hb hby at_115) (by decide) (by decide) (by decide) (by decide) ?_
                    rintro v220 T220 L220 X220 ⟨rfl, N220, H220⟩
                    replace N220 := Fr.app N219 N220
                    show OGoes p.tables e below _ (T220.setTop (mkF m 118 #[.val (.long va), .second, .val (.long vb), .second, .val (.long vc), .second, .val (.long vq), .second, .val (.int pn), .val (.int ct), .val (.int sl), .val (.int zA), .val (.int zB), .val (.int zC), .val (.ref b209), .unset, .unset, .unset, .unset] [(.int (2 : Int32))]))
                    refine own_st (V := (T220.setTop (mkF m 119 #[.val (.long va), .second, .val (.long vb), .second, .val (.long vc), .second, .val (.long vq), .second, .val (.int pn), .val (.int ct), .val (.int sl), .val (.int zA), .val (.int zB), .val (.int zC), .val (.ref b209), .unset, .unset, .unset, .unset] []))) (fun t ks => XS.pop X220.here hx rfl (hb hby at_118) rfl rfl ks) ?_
                    obtain ⟨aN, aG, aW, aC, aD, aF, kN, kG, kW, kC, kD, kF, -, E, FN, FG, FW, FC, FD, FF, FS, VN, -⟩ := H220
                    exact K119 _ _ _ _ _ X220 (by decide) (by decide) rfl N220 aN kN [vb, va, vc] (by simp) E FN VN FS (fun x => own_lf_vbvavc hA hB hC o_vb_va o_va_vc x)
                  · have o_vc_va : vc < va := own_le o_va_vc hC.2.1
                    refine own_callV X219 hx hZ hown (hw _ (List.mem_of_getElem? (i := 24) rfl)) (hw _ (List.mem_of_getElem? (i := 25) rfl)) (hw _ (List.mem_of_getElem? (i := 27) rfl)) (hw _ (List.mem_of_getElem? (i := 26) rfl)) (hw _ (List.mem_of_getElem? (i := 2) rfl)) (hw _ (List.mem_of_getElem? (i := 28) rfl)) (by decide) (rmAd21 l Z a0 hw b209 vc vb va o_vb_vc o_vc_va T219.heap (own_EP_sz H219) H219) rfl (own_EP_exa H219) (by rw [hml]; rfl) (argsL := [(.long vc)]) (rest := []) pd_8 rfl rfl rfl (W := 0) (Nat.le_of_eq rfl) (hb hby at_115) (by decide) (by decide) (by decide) (by decide) ?_
                    rintro v221 T221 L221 X221 ⟨rfl, N221, H221⟩
                    replace N221 := Fr.app N219 N221
                    show OGoes p.tables e below _ (T221.setTop (mkF m 118 #[.val (.long va), .second, .val (.long vb), .second, .val (.long vc), .second, .val (.long vq), .second, .val (.int pn), .val (.int ct), .val (.int sl), .val (.int zA), .val (.int zB), .val (.int zC), .val (.ref b209), .unset, .unset, .unset, .unset] [(.int (1 : Int32))]))
                    refine own_st (V := (T221.setTop (mkF m 119 #[.val (.long va), .second, .val (.long vb), .second, .val (.long vc), .second, .val (.long vq), .second, .val (.int pn), .val (.int ct), .val (.int sl), .val (.int zA), .val (.int zB), .val (.int zC), .val (.ref b209), .unset, .unset, .unset, .unset] []))) (fun t ks => XS.pop X221.here hx rfl (hb hby at_118) rfl rfl ks) ?_
                    obtain ⟨aN, aG, aW, aC, aD, aF, kN, kG, kW, kC, kD, kF, -, E, FN, FG, FW, FC, FD, FF, FS, VN, -⟩ := H221
                    exact K119 _ _ _ _ _ X221 (by decide) (by decide) rfl N221 aN kN [vb, vc, va] (by simp) E FN VN FS (fun x => own_lf_vbvcva hA hB hC o_vb_vc o_vc_va x)
                · have o_vc_vb : vc < vb := own_le o_vb_vc hC.2.2
                  have o_vc_va : vc < va := by have := o_vb_va; rw [Int64.lt_iff_toInt_lt] at *; omega
                  refine own_callV X219 hx hZ hown (hw _ (List.mem_of_getElem? (i := 24) rfl)) (hw _ (List.mem_of_getElem? (i := 25) rfl)) (hw _ (List.mem_of_getElem? (i := 27) rfl)) (hw _ (List.mem_of_getElem? (i := 26) rfl)) (hw _ (List.mem_of_getElem? (i := 2) rfl)) (hw _ (List.mem_of_getElem? (i := 28) rfl)) (by decide) (rmAd20 l Z a0 hw b209 vc vb va o_vc_vb o_vc_va T219.heap (own_EP_sz H219) H219) rfl (own_EP_exa H219) (by rw [hml]; rfl) (argsL := [(.long vc)]) (rest := []) pd_8 rfl rfl rfl (W := 0) (Nat.le_of_eq rfl) (hb hby at_115) (by decide) (by decide) (by decide) (by decide) ?_
                  rintro v222 T222 L222 X222 ⟨rfl, N222, H222⟩
                  replace N222 := Fr.app N219 N222
                  show OGoes p.tables e below _ (T222.setTop (mkF m 118 #[.val (.long va), .second, .val (.long vb), .second, .val (.long vc), .second, .val (.long vq), .second, .val (.int pn), .val (.int ct), .val (.int sl), .val (.int zA), .val (.int zB), .val (.int zC), .val (.ref b209), .unset, .unset, .unset, .unset] [(.int (0 : Int32))]))
                  refine own_st (V := (T222.setTop (mkF m 119 #[.val (.long va), .second, .val (.long vb), .second, .val (.long vc), .second, .val (.long vq), .second, .val (.int pn), .val (.int ct), .val (.int sl), .val (.int zA), .val (.int zB), .val (.int zC), .val (.ref b209), .unset, .unset, .unset, .unset] []))) (fun t ks => XS.pop X222.here hx rfl (hb hby at_118) rfl rfl ks) ?_
                  obtain ⟨aN, aG, aW, aC, aD, aF, kN, kG, kW, kC, kD, kF, -, E, FN, FG, FW, FC, FD, FF, FS, VN, -⟩ := H222
                  exact K119 _ _ _ _ _ X222 (by decide) (by decide) rfl N222 aN kN [vc, vb, va] (by simp) E FN VN FS (fun x => own_lf_vcvbva hA hB hC o_vc_vb o_vb_va x)
      by_cases g1 : ct < (3 : Int32)
      · refine own_st (V := (T0.setTop (mkF m 70 #[.val (.long va), .second, .val (.long vb), .second, .val (.long vc), .second, .val (.long vq), .second, .val (.int pn), .val (.int ct), .val (.int sl), .val (.int zA), .val (.int zB), .unset, .unset, .unset, .unset, .unset, .unset] []))) (fun t ks => XS.icmpYes X0.here hx rfl (pc0 := 49) (pc' := 70) rfl (hb hby at_49) rfl (XT.ii_lt_t g1) (by decide) (by decide) ks) ?_
        refine own_st (V := (T0.setTop (mkF m 71 #[.val (.long va), .second, .val (.long vb), .second, .val (.long vc), .second, .val (.long vq), .second, .val (.int pn), .val (.int ct), .val (.int sl), .val (.int zA), .val (.int zB), .unset, .unset, .unset, .unset, .unset, .unset] [(.int (0 : Int32))]))) (fun t ks => XS.iconst X0.here hx rfl (hb hby at_70) ks) ?_
        exact K71 _ (by rw [if_neg (fun q => q.1 g1)])
      · refine own_st (V := (T0.setTop (mkF m 52 #[.val (.long va), .second, .val (.long vb), .second, .val (.long vc), .second, .val (.long vq), .second, .val (.int pn), .val (.int ct), .val (.int sl), .val (.int zA), .val (.int zB), .unset, .unset, .unset, .unset, .unset, .unset] []))) (fun t ks => XS.icmpNo X0.here hx rfl (hb hby at_49) rfl (XT.ii_lt_f g1) ks) ?_
        refine own_st (V := (T0.setTop (mkF m 54 #[.val (.long va), .second, .val (.long vb), .second, .val (.long vc), .second, .val (.long vq), .second, .val (.int pn), .val (.int ct), .val (.int sl), .val (.int zA), .val (.int zB), .unset, .unset, .unset, .unset, .unset, .unset] [(.long vc)]))) (fun t ks => XS.lload X0.here hx rfl (hb hby at_52) rfl ks) ?_
        refine own_st (V := (T0.setTop (mkF m 55 #[.val (.long va), .second, .val (.long vb), .second, .val (.long vc), .second, .val (.long vq), .second, .val (.int pn), .val (.int ct), .val (.int sl), .val (.int zA), .val (.int zB), .unset, .unset, .unset, .unset, .unset, .unset] [(.long va), (.long vc)]))) (fun t ks => XS.lloadN X0.here hx rfl (hb hby at_54) rfl ks) ?_
        refine own_st (V := (T0.setTop (mkF m 56 #[.val (.long va), .second, .val (.long vb), .second, .val (.long vc), .second, .val (.long vq), .second, .val (.int pn), .val (.int ct), .val (.int sl), .val (.int zA), .val (.int zB), .unset, .unset, .unset, .unset, .unset, .unset] [(.int (lcmpW vc va))]))) (fun t ks => XS.lcmp X0.here hx rfl (hb hby at_55) rfl ks) ?_
        by_cases g2 : vc = va
        · refine own_st (V := (T0.setTop (mkF m 70 #[.val (.long va), .second, .val (.long vb), .second, .val (.long vc), .second, .val (.long vq), .second, .val (.int pn), .val (.int ct), .val (.int sl), .val (.int zA), .val (.int zB), .unset, .unset, .unset, .unset, .unset, .unset] []))) (fun t ks => XS.ifYes X0.here hx rfl (pc0 := 56) (pc' := 70) rfl (hb hby at_56) rfl (XT.ll_eq_t g2) (by decide) (by decide) ks) ?_
          refine own_st (V := (T0.setTop (mkF m 71 #[.val (.long va), .second, .val (.long vb), .second, .val (.long vc), .second, .val (.long vq), .second, .val (.int pn), .val (.int ct), .val (.int sl), .val (.int zA), .val (.int zB), .unset, .unset, .unset, .unset, .unset, .unset] [(.int (0 : Int32))]))) (fun t ks => XS.iconst X0.here hx rfl (hb hby at_70) ks) ?_
          exact K71 _ (by rw [if_neg (fun q => q.2.1 g2)])
        · refine own_st (V := (T0.setTop (mkF m 59 #[.val (.long va), .second, .val (.long vb), .second, .val (.long vc), .second, .val (.long vq), .second, .val (.int pn), .val (.int ct), .val (.int sl), .val (.int zA), .val (.int zB), .unset, .unset, .unset, .unset, .unset, .unset] []))) (fun t ks => XS.ifNo X0.here hx rfl (hb hby at_56) rfl (XT.ll_eq_f g2) ks) ?_
          refine own_st (V := (T0.setTop (mkF m 61 #[.val (.long va), .second, .val (.long vb), .second, .val (.long vc), .second, .val (.long vq), .second, .val (.int pn), .val (.int ct), .val (.int sl), .val (.int zA), .val (.int zB), .unset, .unset, .unset, .unset, .unset, .unset] [(.long vc)]))) (fun t ks => XS.lload X0.here hx rfl (hb hby at_59) rfl ks) ?_
          refine own_st (V := (T0.setTop (mkF m 62 #[.val (.long va), .second, .val (.long vb), .second, .val (.long vc), .second, .val (.long vq), .second, .val (.int pn), .val (.int ct), .val (.int sl), .val (.int zA), .val (.int zB), .unset, .unset, .unset, .unset, .unset, .unset] [(.long vb), (.long vc)]))) (fun t ks => XS.lloadN X0.here hx rfl (hb hby at_61) rfl ks) ?_
          refine own_st (V := (T0.setTop (mkF m 63 #[.val (.long va), .second, .val (.long vb), .second, .val (.long vc), .second, .val (.long vq), .second, .val (.int pn), .val (.int ct), .val (.int sl), .val (.int zA), .val (.int zB), .unset, .unset, .unset, .unset, .unset, .unset] [(.int (lcmpW vc vb))]))) (fun t ks => XS.lcmp X0.here hx rfl (hb hby at_62) rfl ks) ?_
          by_cases g3 : vc = vb
          · refine own_st (V := (T0.setTop (mkF m 70 #[.val (.long va), .second, .val (.long vb), .second, .val (.long vc), .second, .val (.long vq), .second, .val (.int pn), .val (.int ct), .val (.int sl), .val (.int zA), .val (.int zB), .unset, .unset, .unset, .unset, .unset, .unset] []))) (fun t ks => XS.ifYes X0.here hx rfl (pc0 := 63) (pc' := 70) rfl (hb hby at_63) rfl (XT.ll_eq_t g3) (by decide) (by decide) ks) ?_
            refine own_st (V := (T0.setTop (mkF m 71 #[.val (.long va), .second, .val (.long vb), .second, .val (.long vc), .second, .val (.long vq), .second, .val (.int pn), .val (.int ct), .val (.int sl), .val (.int zA), .val (.int zB), .unset, .unset, .unset, .unset, .unset, .unset] [(.int (0 : Int32))]))) (fun t ks => XS.iconst X0.here hx rfl (hb hby at_70) ks) ?_
            exact K71 _ (by rw [if_neg (fun q => q.2.2 g3)])
          · refine own_st (V := (T0.setTop (mkF m 66 #[.val (.long va), .second, .val (.long vb), .second, .val (.long vc), .second, .val (.long vq), .second, .val (.int pn), .val (.int ct), .val (.int sl), .val (.int zA), .val (.int zB), .unset, .unset, .unset, .unset, .unset, .unset] []))) (fun t ks => XS.ifNo X0.here hx rfl (hb hby at_63) rfl (XT.ll_eq_f g3) ks) ?_
            refine own_st (V := (T0.setTop (mkF m 67 #[.val (.long va), .second, .val (.long vb), .second, .val (.long vc), .second, .val (.long vq), .second, .val (.int pn), .val (.int ct), .val (.int sl), .val (.int zA), .val (.int zB), .unset, .unset, .unset, .unset, .unset, .unset] [(.int (1 : Int32))]))) (fun t ks => XS.iconst X0.here hx rfl (hb hby at_66) ks) ?_
            refine own_st (V := (T0.setTop (mkF m 71 #[.val (.long va), .second, .val (.long vb), .second, .val (.long vc), .second, .val (.long vq), .second, .val (.int pn), .val (.int ct), .val (.int sl), .val (.int zA), .val (.int zB), .unset, .unset, .unset, .unset, .unset, .unset] [(.int (1 : Int32))]))) (fun t ks => XS.goto X0.here hx rfl (pc0 := 67) (pc' := 71) rfl (hb hby at_67) (by decide) (by decide) ks) ?_
            exact K71 _ (by rw [if_pos ⟨g1, g2, g3⟩])
    by_cases g1 : ct < (2 : Int32)
    · refine own_st (V := (T0.setTop (mkF m 43 #[.val (.long va), .second, .val (.long vb), .second, .val (.long vc), .second, .val (.long vq), .second, .val (.int pn), .val (.int ct), .val (.int sl), .val (.int zA), .unset, .unset, .unset, .unset, .unset, .unset, .unset] []))) (fun t ks => XS.icmpYes X0.here hx rfl (pc0 := 30) (pc' := 43) rfl (hb hby at_30) rfl (XT.ii_lt_t g1) (by decide) (by decide) ks) ?_
      refine own_st (V := (T0.setTop (mkF m 44 #[.val (.long va), .second, .val (.long vb), .second, .val (.long vc), .second, .val (.long vq), .second, .val (.int pn), .val (.int ct), .val (.int sl), .val (.int zA), .unset, .unset, .unset, .unset, .unset, .unset, .unset] [(.int (0 : Int32))]))) (fun t ks => XS.iconst X0.here hx rfl (hb hby at_43) ks) ?_
      exact K44 _ (by rw [if_neg (fun q => q.1 g1)])
    · refine own_st (V := (T0.setTop (mkF m 33 #[.val (.long va), .second, .val (.long vb), .second, .val (.long vc), .second, .val (.long vq), .second, .val (.int pn), .val (.int ct), .val (.int sl), .val (.int zA), .unset, .unset, .unset, .unset, .unset, .unset, .unset] []))) (fun t ks => XS.icmpNo X0.here hx rfl (hb hby at_30) rfl (XT.ii_lt_f g1) ks) ?_
      refine own_st (V := (T0.setTop (mkF m 34 #[.val (.long va), .second, .val (.long vb), .second, .val (.long vc), .second, .val (.long vq), .second, .val (.int pn), .val (.int ct), .val (.int sl), .val (.int zA), .unset, .unset, .unset, .unset, .unset, .unset, .unset] [(.long vb)]))) (fun t ks => XS.lloadN X0.here hx rfl (hb hby at_33) rfl ks) ?_
      refine own_st (V := (T0.setTop (mkF m 35 #[.val (.long va), .second, .val (.long vb), .second, .val (.long vc), .second, .val (.long vq), .second, .val (.int pn), .val (.int ct), .val (.int sl), .val (.int zA), .unset, .unset, .unset, .unset, .unset, .unset, .unset] [(.long va), (.long vb)]))) (fun t ks => XS.lloadN X0.here hx rfl (hb hby at_34) rfl ks) ?_
      refine own_st (V := (T0.setTop (mkF m 36 #[.val (.long va), .second, .val (.long vb), .second, .val (.long vc), .second, .val (.long vq), .second, .val (.int pn), .val (.int ct), .val (.int sl), .val (.int zA), .unset, .unset, .unset, .unset, .unset, .unset, .unset] [(.int (lcmpW vb va))]))) (fun t ks => XS.lcmp X0.here hx rfl (hb hby at_35) rfl ks) ?_
      by_cases g2 : vb = va
      · refine own_st (V := (T0.setTop (mkF m 43 #[.val (.long va), .second, .val (.long vb), .second, .val (.long vc), .second, .val (.long vq), .second, .val (.int pn), .val (.int ct), .val (.int sl), .val (.int zA), .unset, .unset, .unset, .unset, .unset, .unset, .unset] []))) (fun t ks => XS.ifYes X0.here hx rfl (pc0 := 36) (pc' := 43) rfl (hb hby at_36) rfl (XT.ll_eq_t g2) (by decide) (by decide) ks) ?_
        refine own_st (V := (T0.setTop (mkF m 44 #[.val (.long va), .second, .val (.long vb), .second, .val (.long vc), .second, .val (.long vq), .second, .val (.int pn), .val (.int ct), .val (.int sl), .val (.int zA), .unset, .unset, .unset, .unset, .unset, .unset, .unset] [(.int (0 : Int32))]))) (fun t ks => XS.iconst X0.here hx rfl (hb hby at_43) ks) ?_
        exact K44 _ (by rw [if_neg (fun q => q.2 g2)])
      · refine own_st (V := (T0.setTop (mkF m 39 #[.val (.long va), .second, .val (.long vb), .second, .val (.long vc), .second, .val (.long vq), .second, .val (.int pn), .val (.int ct), .val (.int sl), .val (.int zA), .unset, .unset, .unset, .unset, .unset, .unset, .unset] []))) (fun t ks => XS.ifNo X0.here hx rfl (hb hby at_36) rfl (XT.ll_eq_f g2) ks) ?_
        refine own_st (V := (T0.setTop (mkF m 40 #[.val (.long va), .second, .val (.long vb), .second, .val (.long vc), .second, .val (.long vq), .second, .val (.int pn), .val (.int ct), .val (.int sl), .val (.int zA), .unset, .unset, .unset, .unset, .unset, .unset, .unset] [(.int (1 : Int32))]))) (fun t ks => XS.iconst X0.here hx rfl (hb hby at_39) ks) ?_
        refine own_st (V := (T0.setTop (mkF m 44 #[.val (.long va), .second, .val (.long vb), .second, .val (.long vc), .second, .val (.long vq), .second, .val (.int pn), .val (.int ct), .val (.int sl), .val (.int zA), .unset, .unset, .unset, .unset, .unset, .unset, .unset] [(.int (1 : Int32))]))) (fun t ks => XS.goto X0.here hx rfl (pc0 := 40) (pc' := 44) rfl (hb hby at_40) (by decide) (by decide) ks) ?_
        exact K44 _ (by rw [if_pos ⟨g1, g2⟩])
  by_cases g1 : ct < (1 : Int32)
  · refine own_st (V := (T0.setTop (mkF m 24 #[.val (.long va), .second, .val (.long vb), .second, .val (.long vc), .second, .val (.long vq), .second, .val (.int pn), .val (.int ct), .val (.int sl), .unset, .unset, .unset, .unset, .unset, .unset, .unset, .unset] []))) (fun t ks => XS.icmpYes X0.here hx rfl (pc0 := 17) (pc' := 24) rfl (hb hby at_17) rfl (XT.ii_lt_t g1) (by decide) (by decide) ks) ?_
    refine own_st (V := (T0.setTop (mkF m 25 #[.val (.long va), .second, .val (.long vb), .second, .val (.long vc), .second, .val (.long vq), .second, .val (.int pn), .val (.int ct), .val (.int sl), .unset, .unset, .unset, .unset, .unset, .unset, .unset, .unset] [(.int (0 : Int32))]))) (fun t ks => XS.iconst X0.here hx rfl (hb hby at_24) ks) ?_
    exact K25 _ (by rw [if_neg (fun q => q g1)])
  · refine own_st (V := (T0.setTop (mkF m 20 #[.val (.long va), .second, .val (.long vb), .second, .val (.long vc), .second, .val (.long vq), .second, .val (.int pn), .val (.int ct), .val (.int sl), .unset, .unset, .unset, .unset, .unset, .unset, .unset, .unset] []))) (fun t ks => XS.icmpNo X0.here hx rfl (hb hby at_17) rfl (XT.ii_lt_f g1) ks) ?_
    refine own_st (V := (T0.setTop (mkF m 21 #[.val (.long va), .second, .val (.long vb), .second, .val (.long vc), .second, .val (.long vq), .second, .val (.int pn), .val (.int ct), .val (.int sl), .unset, .unset, .unset, .unset, .unset, .unset, .unset, .unset] [(.int (1 : Int32))]))) (fun t ks => XS.iconst X0.here hx rfl (hb hby at_20) ks) ?_
    refine own_st (V := (T0.setTop (mkF m 25 #[.val (.long va), .second, .val (.long vb), .second, .val (.long vc), .second, .val (.long vq), .second, .val (.int pn), .val (.int ct), .val (.int sl), .unset, .unset, .unset, .unset, .unset, .unset, .unset, .unset] [(.int (1 : Int32))]))) (fun t ks => XS.goto X0.here hx rfl (pc0 := 21) (pc' := 25) rfl (hb hby at_21) (by decide) (by decide) ks) ?_
    exact K25 _ (by rw [if_pos g1])
set_option maxRecDepth 65536 in
set_option maxHeartbeats 40000000 in
theorem own_law (l : Launch) (s : State) (args : Array Value) (hw : ∀ d ∈ tables_1, d.before args s = true) (hfit : Fit s) (hg : given_1.value args s none s [] = some true) (hn : narrow_1.value args s none s [] = some true) :
    OMet l s x code maxLocals ret room_1 args s.heap (fun v h L => v = some (.int 1) ∧ Fr s.heap.size L) := by
  obtain ⟨g0, g1⟩ := and_e hg
  obtain ⟨w0, w1, w2, w3, w4, rfl⟩ : ∃ w0 w1 w2 w3 w4 : Value, args = #[w0, w1, w2, w3, w4] := by
    have hs : args.size = 5 := by simpa [Cond.value, given_1] using g0
    obtain ⟨L⟩ := args
    match L, hs with
    | [w0, w1, w2, w3, w4], _ => exact ⟨w0, w1, w2, w3, w4, rfl⟩
  obtain ⟨q0, r0⟩ := and_e g1
  obtain ⟨i0, ei0⟩ := isL_v q0
  obtain rfl : w0 = (.long i0) := Option.some.inj ei0
  obtain ⟨q1, r1⟩ := and_e r0
  obtain ⟨i1, ei1⟩ := isL_v q1
  obtain rfl : w1 = (.long i1) := Option.some.inj ei1
  obtain ⟨q2, r2⟩ := and_e r1
  obtain ⟨i2, ei2⟩ := isL_v q2
  obtain rfl : w2 = (.long i2) := Option.some.inj ei2
  obtain ⟨q3, r3⟩ := and_e r2
  obtain ⟨i3, ei3⟩ := isL_v q3
  obtain rfl : w3 = (.long i3) := Option.some.inj ei3
  obtain ⟨i4, ei4⟩ := is_v r3
  obtain rfl : w4 = (.int i4) := Option.some.inj ei4
  exact rm0 l s _ hw i0 i1 i2 i3 i4 s.heap rfl
set_option maxRecDepth 65536 in
set_option maxHeartbeats 40000000 in
theorem comes_1 {Post : Tables → Env → Array Value → State → Outcome → State → Prop} (hpost : ∀ tb e args s v u, (limb_1_1.after args s (.returned v) u = true ∧ limb_1_2.after args s (.returned v) u = true ∧ True) → FrameEnd s (.returned v) u (Jvm.fieldLocs frame_1_writes args s ++ Jvm.arrayLocs frame_1_arrays args s ++ Jvm.staticLocs frame_1_statics s) 40 128 → Post tb e args s (.returned v) u) :
    ArmFor flags0 classFile x code maxLocals ret World_1 tables_1 room_1 Calls_1 rest_1 Pre_1 Post := by
  intro l hfl _ _ p e ha hc hk s m args below hf hA hF happ hP
  obtain ⟨hcalls, hrest, hpre⟩ := hP
  obtain ⟨-, -, -, hnamed, -, -, -, hat⟩ := (Spec.applies_iff hf).mp happ
  obtain ⟨hg, hn⟩ := and_e (Cond.before_iff.mp (show (Jvm.Cond.and given_1 narrow_1).before args s = true from hpre))
  have hw := fun d (hd : d ∈ tables_1) => atoms_spec (ws := Jvm.Cond.code x code maxLocals ret :: tables_1) hat d (List.mem_cons_of_mem _ hd)
  have hfit : Fit s := fun {y c} hc i hi => by
    obtain ⟨ha, rfl⟩ := Array.getElem?_eq_some_iff.mp hc
    have q := List.all_eq_true.mp ((Array.all_eq_true_iff_forall_mem.mp hF) _ (Array.getElem_mem ha)) i (List.mem_range.mpr hi)
    simpa [Array.getElem?_eq_getElem hi] using q
  obtain ⟨n, o, h1, h2, h3, _, L, rfl, ⟨rfl, N⟩, hq⟩ := own_law l s args hw hfit hg hn tables_1 p e ha hc hk s m _ below hf ((Spec.applies_iff_loose hf).mp happ).1 ⟨rfl, State.Warmed39.refl s, rfl⟩ trivial
  refine ⟨n, _, h1, h2, h3, hpost _ _ _ _ _ _ ⟨Cond.after_iff.mpr rfl, Cond.after_iff.mpr (eq_i res_at (Term.int_eval (1)) rfl), trivial⟩ ⟨hq.1, hq.2.1, (hq.2.2.sift fun y hy => Or.inr (N y hy)).mono (by decide) (by decide)⟩⟩
theorem main_1_1 : Claimed_1_1 := comes_1 fun _ _ _ _ _ _ h hF => ⟨h.1, hF⟩
theorem main_1_2 : Claimed_1_2 := comes_1 fun _ _ _ _ _ _ h hF => ⟨h.2.1, hF⟩
end Jvm.Pilot.@@N@@
namespace Jvm.Pilot.@@N@@
open Jvm Jvm.ClassFile Sem Op Lib Jvm.Free Jvm.Stand Jvm.Pilot.@@N@@.Jvm.D
/-! MADE BY PROGRAM (witnessworld.py) out of the Statement's table words and the real class files: 14 classes; the members and pool entries that the words name. The judged class is class 1, her method 1. -/
namespace start1
open Jvm.ClassFile
def u (s : String) : CpInfo := .utf8 (stringToUtf16 s)
/-- a pool by its gaps: so many unusable entries, then the entry; so many at the end -/
def gap : Nat → List CpInfo → List CpInfo
  | 0, r => r
  | n + 1, r => .unusable :: gap n r
def poolList (es : List (Nat × CpInfo)) (last : Nat) : List CpInfo := es.foldr (fun e r => gap e.1 (e.2 :: r)) (gap last [])
def pool (es : List (Nat × CpInfo)) (last : Nat) : Array CpInfo := ⟨poolList es last⟩
def fileOf (pool : Array CpInfo) (this : Nat) (attrs : Array Attribute := #[]) (ms : Array MethodInfo := #[]) (fl : Nat := 33) (sup : Nat := 0) (ifs : Array Nat := #[]) (fds : Array FieldInfo := #[]) : ClassFile where
  minorVersion := 0
  majorVersion := 65
  constantPool := pool
  accessFlags := fl
  thisClass := this
  superClass := sup
  interfaces := ifs
  fields := fds
  methods := ms
  attributes := attrs
def plain (name : String) (sup : Option ClassId) : Class where
  name := name
  kind := .ordinary
  loader := none
  accessFlags := 33
  super := sup
  interfaces := #[]
  cf := none
  fields := #[]
  methods := #[]
  instanceTypes := #[]
  staticTypes := #[]
  resolved := #[]
  callSites := []
  init := .initialized
  statics := none
  mirror := none

def pool0 : Array CpInfo := pool [(5, u "<init>"), (0, u "()V"), (1, .class_ 10), (1, u "java/lang/Object")] 113

def k0c0 : Code := { maxStack := 0, maxLocals := 1, code := object_method_1_code, exceptionTable := #[], attributes := #[] }
def k0m0 : Method := { name := "<init>", desc := "()V", sig := { parameters := [], returnType := none }, accessFlags := 1, code := some k0c0 }
/-- java/lang/Object -/
def k0 : Class := { plain "java/lang/Object" none with
  accessFlags := 33
  interfaces := #[]
  cf := some (fileOf pool0 8 #[] #[{ accessFlags := 1, nameIndex := 5, descriptorIndex := 6, attributes := #[] }] 33 0 #[] #[])
  fields := #[]
  methods := #[k0m0]
  instanceTypes := #[]
  staticTypes := #[]
  resolved := Array.replicate 124 none
  statics := none }

def pool1 : Array CpInfo := pool [(2, .class_ 4), (0, .nameAndType 5 6), (0, u "java/lang/Object"), (0, u "<init>"), (0, u "()V"), (0, .class_ 8), (0, u "com/example/killifish/killifish/store/Epochs"), (0, .methodref 7 3), (0, .methodref 7 11), (0, .nameAndType 12 13), (0, u "add"), (0, u "(J)I"), (0, .methodref 7 15), (0, .nameAndType 16 13), (0, u "indexOf"), (0, .class_ 18), (0, u "com/example/killifish/killifish/store/EpochsIndexOfPinLaw"), (2, u "law"), (0, u "(JJJJI)Z")] 3

def k1m0 : Method := { name := "<init>", desc := "()V", sig := { parameters := [], returnType := none }, accessFlags := 2, code := none }
def k1c1 : Code := { maxStack := 4, maxLocals := 19, code := code, exceptionTable := #[], attributes := #[] }
def k1m1 : Method := { name := "law", desc := "(JJJJI)Z", sig := { parameters := [.long, .long, .long, .long, .int], returnType := some .boolean }, accessFlags := 9, code := some k1c1 }
/-- com/example/killifish/killifish/store/EpochsIndexOfPinLaw -/
def k1 : Class := { plain "com/example/killifish/killifish/store/EpochsIndexOfPinLaw" (some 0) with
  accessFlags := 49
  interfaces := #[]
  cf := some (fileOf pool1 17 #[] #[{ accessFlags := 2, nameIndex := 5, descriptorIndex := 6, attributes := #[] }, { accessFlags := 9, nameIndex := 21, descriptorIndex := 22, attributes := #[] }] 49 2 #[] #[])
  fields := #[]
  methods := #[k1m0, k1m1]
  instanceTypes := #[]
  staticTypes := #[]
  resolved := Array.replicate 26 none
  statics := none }

def pool2 : Array CpInfo := pool [(1, .methodref 2 3), (0, .class_ 4), (0, .nameAndType 5 6), (0, u "java/lang/Object"), (0, u "<init>"), (0, u "()V"), (0, .fieldref 8 9), (0, .class_ 10), (0, .nameAndType 11 12), (0, u "com/example/killifish/killifish/store/Epochs"), (0, u "numbers"), (0, u "[J"), (0, .fieldref 8 14), (0, .nameAndType 15 16), (0, u "generations"), (0, u "[I"), (0, .fieldref 8 18), (0, .nameAndType 19 12), (0, u "written"), (0, .fieldref 8 21), (0, .nameAndType 22 16), (0, u "counts"), (0, .fieldref 8 24), (0, .nameAndType 25 12), (0, u "deadBytes"), (0, .fieldref 8 27), (0, .nameAndType 28 29), (0, u "flags"), (0, u "[B"), (21, .methodref 8 52), (0, .nameAndType 53 54), (0, u "resize"), (0, u "(I)V"), (8, .fieldref 8 64), (0, .nameAndType 65 66), (0, u "size"), (0, u "I"), (23, u "copyOf"), (1, .methodref 93 94), (0, .class_ 95), (0, .nameAndType 96 97), (0, u "java/util/Arrays"), (0, u "binarySearch"), (0, u "([JIIJ)I"), (6, .methodref 105 106), (0, .class_ 107), (0, .nameAndType 108 109), (0, u "java/lang/Math"), (0, u "max"), (0, u "(II)I"), (0, .methodref 8 111), (0, .nameAndType 112 113), (0, u "shift"), (0, u "(III)V"), (16, u "add"), (9, .methodref 141 142), (0, .class_ 143), (0, .nameAndType 144 145), (0, u "java/lang/System"), (0, u "arraycopy"), (0, u "(Ljava/lang/Object;ILjava/lang/Object;II)V"), (0, .methodref 93 147), (0, .nameAndType 90 148), (0, u "([JI)[J"), (0, .methodref 93 150), (0, .nameAndType 90 151), (0, u "([II)[I"), (0, .methodref 93 153), (0, .nameAndType 90 154), (0, u "([BI)[B"), (6, u "BYTES_PER_EPOCH"), (2, u "STRAYS"), (0, u "B"), (1, u "DIRTY"), (1, u "MIN_CAPACITY"), (10, u "indexOf"), (0, u "(J)I")] 44

def k2c0 : Code := { maxStack := 2, maxLocals := 1, code := prog_13_method_1_code, exceptionTable := #[], attributes := #[] }
def k2m0 : Method := { name := "<init>", desc := "()V", sig := { parameters := [], returnType := none }, accessFlags := 0, code := some k2c0 }
def k2c1 : Code := { maxStack := 5, maxLocals := 4, code := prog_13_method_6_code, exceptionTable := #[], attributes := #[] }
def k2m1 : Method := { name := "indexOf", desc := "(J)I", sig := { parameters := [.long], returnType := some .int }, accessFlags := 0, code := some k2c1 }
def k2c2 : Code := { maxStack := 5, maxLocals := 4, code := prog_13_method_7_code, exceptionTable := #[], attributes := #[] }
def k2m2 : Method := { name := "add", desc := "(J)I", sig := { parameters := [.long], returnType := some .int }, accessFlags := 0, code := some k2c2 }
def k2c3 : Code := { maxStack := 5, maxLocals := 4, code := prog_13_method_25_code, exceptionTable := #[], attributes := #[] }
def k2m3 : Method := { name := "shift", desc := "(III)V", sig := { parameters := [.int, .int, .int], returnType := none }, accessFlags := 2, code := some k2c3 }
def k2c4 : Code := { maxStack := 3, maxLocals := 2, code := prog_13_method_26_code, exceptionTable := #[], attributes := #[] }
def k2m4 : Method := { name := "resize", desc := "(I)V", sig := { parameters := [.int], returnType := none }, accessFlags := 2, code := some k2c4 }
/-- com/example/killifish/killifish/store/Epochs -/
def k2 : Class := { plain "com/example/killifish/killifish/store/Epochs" (some 0) with
  accessFlags := 48
  interfaces := #[]
  cf := some (fileOf pool2 8 #[] #[{ accessFlags := 0, nameIndex := 5, descriptorIndex := 6, attributes := #[] }, { accessFlags := 0, nameIndex := 180, descriptorIndex := 181, attributes := #[] }, { accessFlags := 0, nameIndex := 130, descriptorIndex := 181, attributes := #[] }, { accessFlags := 2, nameIndex := 112, descriptorIndex := 113, attributes := #[] }, { accessFlags := 2, nameIndex := 53, descriptorIndex := 54, attributes := #[] }] 48 2 #[] #[{ accessFlags := 24, nameIndex := 161, descriptorIndex := 66, attributes := #[] }, { accessFlags := 26, nameIndex := 164, descriptorIndex := 165, attributes := #[] }, { accessFlags := 26, nameIndex := 167, descriptorIndex := 165, attributes := #[] }, { accessFlags := 26, nameIndex := 169, descriptorIndex := 66, attributes := #[] }, { accessFlags := 2, nameIndex := 11, descriptorIndex := 12, attributes := #[] }, { accessFlags := 2, nameIndex := 15, descriptorIndex := 16, attributes := #[] }, { accessFlags := 2, nameIndex := 19, descriptorIndex := 12, attributes := #[] }, { accessFlags := 2, nameIndex := 22, descriptorIndex := 16, attributes := #[] }, { accessFlags := 2, nameIndex := 25, descriptorIndex := 12, attributes := #[] }, { accessFlags := 2, nameIndex := 28, descriptorIndex := 29, attributes := #[] }, { accessFlags := 2, nameIndex := 65, descriptorIndex := 66, attributes := #[] }])
  fields := #[{ name := "BYTES_PER_EPOCH", type := .int, accessFlags := 24, slot := 0, constantValue := 0 }, { name := "STRAYS", type := .byte, accessFlags := 26, slot := 1, constantValue := 0 }, { name := "DIRTY", type := .byte, accessFlags := 26, slot := 2, constantValue := 0 }, { name := "MIN_CAPACITY", type := .int, accessFlags := 26, slot := 3, constantValue := 0 }, { name := "numbers", type := (.array .long), accessFlags := 2, slot := 0, constantValue := 0 }, { name := "generations", type := (.array .int), accessFlags := 2, slot := 1, constantValue := 0 }, { name := "written", type := (.array .long), accessFlags := 2, slot := 2, constantValue := 0 }, { name := "counts", type := (.array .int), accessFlags := 2, slot := 3, constantValue := 0 }, { name := "deadBytes", type := (.array .long), accessFlags := 2, slot := 4, constantValue := 0 }, { name := "flags", type := (.array .byte), accessFlags := 2, slot := 5, constantValue := 0 }, { name := "size", type := .int, accessFlags := 2, slot := 6, constantValue := 0 }]
  methods := #[k2m0, k2m1, k2m2, k2m3, k2m4]
  instanceTypes := #[(.array .long), (.array .int), (.array .long), (.array .int), (.array .long), (.array .byte), .int]
  staticTypes := #[.int, .byte, .byte, .int]
  resolved := Array.replicate 226 none
  statics := none }

def pool3 : Array CpInfo := pool [(2, .class_ 4), (1, u "java/lang/Object"), (0, u "<init>"), (0, u "()V"), (6, .methodref 14 15), (0, .class_ 16), (0, .nameAndType 17 18), (0, u "java/util/Arrays"), (0, u "rangeCheck"), (0, u "(III)V"), (55, .class_ 76), (1, u "java/util/Arrays$NaturalOrder"), (36, .class_ 115), (1, u "java/util/Arrays$LegacyMergeSort"), (1, u "Z"), (32, .methodref 151 152), (0, .class_ 153), (0, .nameAndType 154 155), (0, u "java/lang/System"), (0, u "arraycopy"), (0, u "(Ljava/lang/Object;ILjava/lang/Object;II)V"), (49, .methodref 14 206), (0, .nameAndType 207 208), (0, u "binarySearch0"), (0, u "([JIIJ)I"), (93, u "copyOf"), (1, .methodref 305 306), (0, .class_ 307), (0, .nameAndType 308 309), (0, u "java/lang/Math"), (0, u "min"), (0, u "(II)I"), (65, .class_ 376), (0, u "java/util/Arrays$ArrayList"), (68, u "$assertionsDisabled"), (269, u "MIN_ARRAY_SORT_GRAN"), (0, u "I"), (2, u "INSERTIONSORT_THRESHOLD"), (74, u "binarySearch"), (74, u "([BI)[B"), (1, u "([II)[I"), (0, u "([JI)[J"), (102, .class_ 976), (0, u "java/util/Arrays$ArrayItr")] 52

def k3m0 : Method := { name := "<init>", desc := "()V", sig := { parameters := [], returnType := none }, accessFlags := 2, code := none }
def k3c1 : Code := { maxStack := 4, maxLocals := 3, code := jdk_65_method_30_code, exceptionTable := #[], attributes := #[] }
def k3m1 : Method := { name := "rangeCheck", desc := "(III)V", sig := { parameters := [.int, .int, .int], returnType := none }, accessFlags := 8, code := some k3c1 }
def k3c2 : Code := { maxStack := 5, maxLocals := 5, code := jdk_65_method_55_code, exceptionTable := #[], attributes := #[] }
def k3m2 : Method := { name := "binarySearch", desc := "([JIIJ)I", sig := { parameters := [(.array .long), .int, .int, .long], returnType := some .int }, accessFlags := 9, code := some k3c2 }
def k3c3 : Code := { maxStack := 4, maxLocals := 10, code := jdk_65_method_56_code, exceptionTable := #[], attributes := #[] }
def k3m3 : Method := { name := "binarySearch0", desc := "([JIIJ)I", sig := { parameters := [(.array .long), .int, .int, .long], returnType := some .int }, accessFlags := 10, code := some k3c3 }
def k3c4 : Code := { maxStack := 6, maxLocals := 3, code := jdk_65_method_121_code, exceptionTable := #[], attributes := #[] }
def k3m4 : Method := { name := "copyOf", desc := "([BI)[B", sig := { parameters := [(.array .byte), .int], returnType := some (.array .byte) }, accessFlags := 9, code := some k3c4 }
def k3c5 : Code := { maxStack := 6, maxLocals := 3, code := jdk_65_method_123_code, exceptionTable := #[], attributes := #[] }
def k3m5 : Method := { name := "copyOf", desc := "([II)[I", sig := { parameters := [(.array .int), .int], returnType := some (.array .int) }, accessFlags := 9, code := some k3c5 }
def k3c6 : Code := { maxStack := 6, maxLocals := 3, code := jdk_65_method_124_code, exceptionTable := #[], attributes := #[] }
def k3m6 : Method := { name := "copyOf", desc := "([JI)[J", sig := { parameters := [(.array .long), .int], returnType := some (.array .long) }, accessFlags := 9, code := some k3c6 }
/-- java/util/Arrays -/
def k3 : Class := { plain "java/util/Arrays" (some 0) with
  accessFlags := 49
  interfaces := #[]
  cf := some (fileOf pool3 14 #[.nestMembers #[975, 375, 113, 74]] #[{ accessFlags := 2, nameIndex := 5, descriptorIndex := 6, attributes := #[] }, { accessFlags := 8, nameIndex := 17, descriptorIndex := 18, attributes := #[] }, { accessFlags := 9, nameIndex := 794, descriptorIndex := 208, attributes := #[] }, { accessFlags := 10, nameIndex := 207, descriptorIndex := 208, attributes := #[] }, { accessFlags := 9, nameIndex := 302, descriptorIndex := 869, attributes := #[] }, { accessFlags := 9, nameIndex := 302, descriptorIndex := 871, attributes := #[] }, { accessFlags := 9, nameIndex := 302, descriptorIndex := 872, attributes := #[] }] 49 2 #[] #[{ accessFlags := 26, nameIndex := 715, descriptorIndex := 716, attributes := #[] }, { accessFlags := 26, nameIndex := 719, descriptorIndex := 716, attributes := #[] }, { accessFlags := 4120, nameIndex := 445, descriptorIndex := 117, attributes := #[] }])
  fields := #[{ name := "MIN_ARRAY_SORT_GRAN", type := .int, accessFlags := 26, slot := 0, constantValue := 0 }, { name := "INSERTIONSORT_THRESHOLD", type := .int, accessFlags := 26, slot := 1, constantValue := 0 }, { name := "$assertionsDisabled", type := .boolean, accessFlags := 4120, slot := 2, constantValue := 0 }]
  methods := #[k3m0, k3m1, k3m2, k3m3, k3m4, k3m5, k3m6]
  instanceTypes := #[]
  staticTypes := #[.int, .int, .boolean]
  resolved := Array.replicate 1029 none
  statics := none }

def pool4 : Array CpInfo := pool [(1, .class_ 2), (0, u "java/lang/Math"), (1, .class_ 6), (1, u "java/lang/Object"), (0, u "<init>"), (0, u "()V"), (89, .class_ 100), (1, u "java/lang/Math$RandomNumberGeneratorHolder"), (71, u "negativeZeroFloatBits"), (0, u "J"), (2, u "negativeZeroDoubleBits"), (21, u "max"), (2, u "min"), (43, u "$assertionsDisabled"), (0, u "Z"), (88, u "(II)I"), (2, u "twoToTheDoubleScaleDown"), (0, u "D"), (4, u "twoToTheDoubleScaleUp"), (9, u "E"), (3, u "PI"), (2, u "TAU"), (2, u "DEGREES_TO_RADIANS"), (0, u "RADIANS_TO_DEGREES")] 94

def k4m0 : Method := { name := "<init>", desc := "()V", sig := { parameters := [], returnType := none }, accessFlags := 2, code := none }
def k4c1 : Code := { maxStack := 2, maxLocals := 2, code := jdk_29_method_65_code, exceptionTable := #[], attributes := #[] }
def k4m1 : Method := { name := "max", desc := "(II)I", sig := { parameters := [.int, .int], returnType := some .int }, accessFlags := 9, code := some k4c1 }
def k4c2 : Code := { maxStack := 2, maxLocals := 2, code := jdk_29_method_69_code, exceptionTable := #[], attributes := #[] }
def k4m2 : Method := { name := "min", desc := "(II)I", sig := { parameters := [.int, .int], returnType := some .int }, accessFlags := 9, code := some k4c2 }
/-- java/lang/Math -/
def k4 : Class := { plain "java/lang/Math" (some 0) with
  accessFlags := 49
  interfaces := #[]
  cf := some (fileOf pool4 1 #[.nestMembers #[98]] #[{ accessFlags := 2, nameIndex := 7, descriptorIndex := 8, attributes := #[] }, { accessFlags := 9, nameIndex := 198, descriptorIndex := 335, attributes := #[] }, { accessFlags := 9, nameIndex := 201, descriptorIndex := 335, attributes := #[] }] 49 4 #[] #[{ accessFlags := 25, nameIndex := 354, descriptorIndex := 339, attributes := #[] }, { accessFlags := 25, nameIndex := 358, descriptorIndex := 339, attributes := #[] }, { accessFlags := 25, nameIndex := 361, descriptorIndex := 339, attributes := #[] }, { accessFlags := 26, nameIndex := 364, descriptorIndex := 339, attributes := #[] }, { accessFlags := 26, nameIndex := 365, descriptorIndex := 339, attributes := #[] }, { accessFlags := 26, nameIndex := 172, descriptorIndex := 173, attributes := #[] }, { accessFlags := 26, nameIndex := 176, descriptorIndex := 173, attributes := #[] }, { accessFlags := 8, nameIndex := 344, descriptorIndex := 339, attributes := #[] }, { accessFlags := 8, nameIndex := 338, descriptorIndex := 339, attributes := #[] }, { accessFlags := 4120, nameIndex := 245, descriptorIndex := 246, attributes := #[] }])
  fields := #[{ name := "E", type := .double, accessFlags := 25, slot := 0, constantValue := 0 }, { name := "PI", type := .double, accessFlags := 25, slot := 1, constantValue := 0 }, { name := "TAU", type := .double, accessFlags := 25, slot := 2, constantValue := 0 }, { name := "DEGREES_TO_RADIANS", type := .double, accessFlags := 26, slot := 3, constantValue := 0 }, { name := "RADIANS_TO_DEGREES", type := .double, accessFlags := 26, slot := 4, constantValue := 0 }, { name := "negativeZeroFloatBits", type := .long, accessFlags := 26, slot := 5, constantValue := 0 }, { name := "negativeZeroDoubleBits", type := .long, accessFlags := 26, slot := 6, constantValue := 0 }, { name := "twoToTheDoubleScaleUp", type := .double, accessFlags := 8, slot := 7, constantValue := 0 }, { name := "twoToTheDoubleScaleDown", type := .double, accessFlags := 8, slot := 8, constantValue := 0 }, { name := "$assertionsDisabled", type := .boolean, accessFlags := 4120, slot := 9, constantValue := 0 }]
  methods := #[k4m0, k4m1, k4m2]
  instanceTypes := #[]
  staticTypes := #[.double, .double, .double, .double, .double, .long, .long, .double, .double, .boolean]
  resolved := Array.replicate 460 none
  statics := none }

def pool5 : Array CpInfo := pool [(2, .class_ 4), (1, u "java/lang/Object"), (0, u "<init>"), (0, u "()V"), (1, .class_ 10), (1, u "java/lang/System"), (0, u "allowSecurityManager"), (0, u "I"), (16, u "cons"), (0, u "Ljava/io/Console;"), (77, .class_ 110), (1, u "java/lang/System$CallersHolder"), (43, u "initialErrStream"), (0, u "Ljava/io/PrintStream;"), (19, u "security"), (0, u "Ljava/lang/SecurityManager;"), (31, .class_ 209), (0, u "java/lang/System$1"), (7, u "props"), (0, u "Ljava/util/Properties;"), (2, u "lineSeparator"), (0, u "Ljava/lang/String;"), (96, .class_ 321), (1, u "java/lang/System$LoggerFinder"), (5, .class_ 328), (0, u "java/lang/System$Logger"), (67, u "err"), (2, u "out"), (91, u "notSupportedJnuEncoding"), (15, u "in"), (17, u "initialIn"), (0, u "Ljava/io/InputStream;"), (35, u "bootLayer"), (0, u "Ljava/lang/ModuleLayer;"), (99, .class_ 664), (0, u "java/lang/System$2"), (9, u "NEVER"), (2, u "MAYBE"), (49, u "arraycopy"), (0, u "(Ljava/lang/Object;ILjava/lang/Object;II)V"), (72, .class_ 802), (0, u "java/lang/System$Logger$Level")] 31

def k5m0 : Method := { name := "<init>", desc := "()V", sig := { parameters := [], returnType := none }, accessFlags := 2, code := none }
def k5m1 : Method := { name := "arraycopy", desc := "(Ljava/lang/Object;ILjava/lang/Object;II)V", sig := { parameters := [(.object "java/lang/Object"), .int, (.object "java/lang/Object"), .int, .int], returnType := none }, accessFlags := 265, code := none }
/-- java/lang/System -/
def k5 : Class := { plain "java/lang/System" (some 0) with
  accessFlags := 49
  interfaces := #[]
  cf := some (fileOf pool5 8 #[.nestMembers #[319, 327, 801, 108, 663, 208]] #[{ accessFlags := 2, nameIndex := 5, descriptorIndex := 6, attributes := #[] }, { accessFlags := 265, nameIndex := 727, descriptorIndex := 728, attributes := #[] }] 49 2 #[] #[{ accessFlags := 25, nameIndex := 507, descriptorIndex := 526, attributes := #[] }, { accessFlags := 25, nameIndex := 399, descriptorIndex := 155, attributes := #[] }, { accessFlags := 25, nameIndex := 396, descriptorIndex := 155, attributes := #[] }, { accessFlags := 10, nameIndex := 525, descriptorIndex := 526, attributes := #[] }, { accessFlags := 26, nameIndex := 674, descriptorIndex := 12, attributes := #[] }, { accessFlags := 26, nameIndex := 677, descriptorIndex := 12, attributes := #[] }, { accessFlags := 10, nameIndex := 11, descriptorIndex := 12, attributes := #[] }, { accessFlags := 74, nameIndex := 175, descriptorIndex := 176, attributes := #[] }, { accessFlags := 10, nameIndex := 491, descriptorIndex := 222, attributes := #[] }, { accessFlags := 74, nameIndex := 29, descriptorIndex := 30, attributes := #[] }, { accessFlags := 74, nameIndex := 154, descriptorIndex := 155, attributes := #[] }, { accessFlags := 10, nameIndex := 217, descriptorIndex := 218, attributes := #[] }, { accessFlags := 10, nameIndex := 221, descriptorIndex := 222, attributes := #[] }, { accessFlags := 8, nameIndex := 562, descriptorIndex := 563, attributes := #[] }])
  fields := #[{ name := "in", type := (.object "java/io/InputStream"), accessFlags := 25, slot := 0, constantValue := 0 }, { name := "out", type := (.object "java/io/PrintStream"), accessFlags := 25, slot := 1, constantValue := 0 }, { name := "err", type := (.object "java/io/PrintStream"), accessFlags := 25, slot := 2, constantValue := 0 }, { name := "initialIn", type := (.object "java/io/InputStream"), accessFlags := 10, slot := 3, constantValue := 0 }, { name := "NEVER", type := .int, accessFlags := 26, slot := 4, constantValue := 0 }, { name := "MAYBE", type := .int, accessFlags := 26, slot := 5, constantValue := 0 }, { name := "allowSecurityManager", type := .int, accessFlags := 10, slot := 6, constantValue := 0 }, { name := "security", type := (.object "java/lang/SecurityManager"), accessFlags := 74, slot := 7, constantValue := 0 }, { name := "notSupportedJnuEncoding", type := (.object "java/lang/String"), accessFlags := 10, slot := 8, constantValue := 0 }, { name := "cons", type := (.object "java/io/Console"), accessFlags := 74, slot := 9, constantValue := 0 }, { name := "initialErrStream", type := (.object "java/io/PrintStream"), accessFlags := 74, slot := 10, constantValue := 0 }, { name := "props", type := (.object "java/util/Properties"), accessFlags := 10, slot := 11, constantValue := 0 }, { name := "lineSeparator", type := (.object "java/lang/String"), accessFlags := 10, slot := 12, constantValue := 0 }, { name := "bootLayer", type := (.object "java/lang/ModuleLayer"), accessFlags := 8, slot := 13, constantValue := 0 }]
  methods := #[k5m0, k5m1]
  instanceTypes := #[]
  staticTypes := #[(.object "java/io/InputStream"), (.object "java/io/PrintStream"), (.object "java/io/PrintStream"), (.object "java/io/InputStream"), .int, .int, .int, (.object "java/lang/SecurityManager"), (.object "java/lang/String"), (.object "java/io/Console"), (.object "java/io/PrintStream"), (.object "java/util/Properties"), (.object "java/lang/String"), (.object "java/lang/ModuleLayer")]
  resolved := Array.replicate 834 none
  statics := none }

def pool6 : Array CpInfo := pool [(1, u "java/lang/Cloneable"), (0, .class_ 1), (0, u "java/lang/Object"), (0, .class_ 3)] 3

/-- java/lang/Cloneable -/
def k6 : Class := { plain "java/lang/Cloneable" (some 0) with
  accessFlags := 1537
  interfaces := #[]
  cf := some (fileOf pool6 2 #[] #[] 1537 4 #[] #[])
  fields := #[]
  methods := #[]
  instanceTypes := #[]
  staticTypes := #[]
  resolved := Array.replicate 8 none
  statics := none }

def pool7 : Array CpInfo := pool [(1, u "java/io/Serializable"), (0, .class_ 1), (0, u "java/lang/Object"), (0, .class_ 3)] 3

/-- java/io/Serializable -/
def k7 : Class := { plain "java/io/Serializable" (some 0) with
  accessFlags := 1537
  interfaces := #[]
  cf := some (fileOf pool7 2 #[] #[] 1537 4 #[] #[])
  fields := #[]
  methods := #[]
  instanceTypes := #[]
  staticTypes := #[]
  resolved := Array.replicate 8 none
  statics := none }

/-- the primitive byte -/
def k8 : Class := { plain "byte" none with kind := .primitive 'B', accessFlags := 0x411 }
/-- [B -/
def k9 : Class := { plain "[B" (some 0) with kind := .array 8 .byte, interfaces := #[6, 7], accessFlags := 1041 }

/-- the primitive int -/
def k10 : Class := { plain "int" none with kind := .primitive 'I', accessFlags := 0x411 }
/-- [I -/
def k11 : Class := { plain "[I" (some 0) with kind := .array 10 .int, interfaces := #[6, 7], accessFlags := 1041 }

/-- the primitive long -/
def k12 : Class := { plain "long" none with kind := .primitive 'J', accessFlags := 0x411 }
/-- [J -/
def k13 : Class := { plain "[J" (some 0) with kind := .array 12 .long, interfaces := #[6, 7], accessFlags := 1041 }

def heap : Heap := #[]
def classes : Array Class := #[k0, k1, k2, k3, k4, k5, k6, k7, k8, k9, k10, k11, k12, k13]
def interned : List (Array UInt16 × Addr) := []
def slotsUsed : Nat := 0
def theMethod : MethodId := ⟨1, 1⟩
def args0 : Array Value := #[.long 5, .long 9, .long 3, .long 4, .int 3]
def aboutOver (below : List Frame) : State where
  vm := { classes := classes, interned := interned.toArray }
  heap := heap
  slotsUsed := slotsUsed
  threads := #[{ frames := .invoking theMethod args0 :: below }]
def below0 : List Frame := [.native { method := ⟨0, 0⟩, args := #[] }]
def about1 : State := aboutOver below0
def p0 : Program := .bare "" "" ""
def e0 : Env := launch0.env 0 0 0
theorem w_frames : about1.frames = Frame.invoking theMethod args0 :: below0 := rfl
set_option maxRecDepth 65536 in
theorem w_args : argsFit about1.vm theMethod args0 = true := by decide +kernel
set_option maxRecDepth 65536 in
theorem w_heap : heapFits about1 = true := by decide +kernel
set_option maxRecDepth 65536 in
theorem w_runnable : about1.curStatus? = some .runnable := by decide +kernel
set_option maxRecDepth 65536 in
theorem w_alone : about1.alone = true := by decide +kernel
set_option maxRecDepth 65536 in
theorem w_named : about1.methodNamed? x = some theMethod := by decide +kernel
set_option maxRecDepth 65536 in
theorem w_hears : about1.hears theMethod below0 = true := by decide +kernel
set_option maxRecDepth 65536 in
theorem w_ripe : about1.ripe theMethod args0 below0 = true := by decide +kernel
theorem w_running : about1.status = .running := rfl
set_option maxRecDepth 65536 in
theorem w_room : about1.hasRoom e0.platform room_1 = true :=
  launch0.hasRoom_least _ room_1 (by decide +kernel) (by decide +kernel) (by decide +kernel) (by decide +kernel) (by decide +kernel) (by decide +kernel)
theorem allAtoms_all (ts : List Jvm.Cond) (a : Array Jvm.Value) (st : Jvm.State) : (allAtoms ts).before a st = ts.all (fun c => c.before a st) := by
  induction ts with
  | nil => rfl
  | cons c t ih =>
    show (Jvm.Cond.and c (allAtoms t)).before a st = _
    rw [Jvm.Cond.before_and, ih, List.all_cons]
def words1 : List Jvm.Cond := Jvm.Cond.code x code maxLocals ret :: tables_1
/-- a 'code' word, met by the world's own term for the bytes: nothing is compared byte by byte -/
theorem code_word {y : MethodName} {bytes : ByteArray} {mx : Nat} {rt : Option FieldType} {a : Array Value} {s : State} {m : MethodId} {meth : Method} {c : Code} (h1 : s.methodNamed? y = some m) (h2 : s.vm.method? m = some meth) (h3 : meth.code = some c) (h4 : c.code = bytes)
    (h5 : (c.maxLocals == mx && c.exceptionTable.isEmpty && decide (c.maxStack ≤ mostOperands) && decide (meth.sig.returnType = rt) && !meth.locks && decide (parseMethodDescriptor y.desc = some meth.sig)) = true) : (Jvm.Cond.code y bytes mx rt).before a s = true := by
  simp only [Bool.and_eq_true, beq_iff_eq, Bool.not_eq_true', decide_eq_true_eq] at h5
  obtain ⟨⟨⟨⟨⟨g1, g2⟩, g3⟩, g4⟩, g5⟩, g6⟩ := h5
  simp [Cond.before, Cond.holds, Cond.value, h1, h2, h3, h4, g1, g2, g3, g4, g5, g6]
def isCode : Jvm.Cond → Bool
  | .code _ _ _ _ => true
  | _ => false
theorem all_split {L : List Jvm.Cond} {P : Jvm.Cond → Bool} (h1 : L.all (fun c => isCode c || P c) = true) (h2 : ∀ c ∈ L.filter isCode, P c = true) : L.all P = true := by
  refine List.all_eq_true.mpr fun c hc => ?_
  have h := List.all_eq_true.mp h1 c hc
  rcases Bool.eq_false_or_eq_true (isCode c) with hi | hi
  · exact h2 c (List.mem_filter.mpr ⟨hc, hi⟩)
  · simpa [hi] using h
set_option maxRecDepth 65536 in
theorem w_c0 : (Jvm.Cond.code x code maxLocals ret).before args0 about1 = true := code_word (m := ⟨1, 1⟩) (meth := k1m1) (c := k1c1) (by decide +kernel) rfl rfl rfl (by decide +kernel)
set_option maxRecDepth 65536 in
theorem w_c1 : (Jvm.Cond.code ({ cls := "com/example/killifish/killifish/store/Epochs", name := "<init>", desc := "()V" } : Jvm.MethodName) prog_13_method_1_code (1 : Nat) (Option.none : Option Jvm.ClassFile.FieldType)).before args0 about1 = true := code_word (m := ⟨2, 0⟩) (meth := k2m0) (c := k2c0) (by decide +kernel) rfl rfl rfl (by decide +kernel)
set_option maxRecDepth 65536 in
theorem w_c2 : (Jvm.Cond.code ({ cls := "java/lang/Object", name := "<init>", desc := "()V" } : Jvm.MethodName) object_method_1_code (1 : Nat) (Option.none : Option Jvm.ClassFile.FieldType)).before args0 about1 = true := code_word (m := ⟨0, 0⟩) (meth := k0m0) (c := k0c0) (by decide +kernel) rfl rfl rfl (by decide +kernel)
set_option maxRecDepth 65536 in
theorem w_c3 : (Jvm.Cond.code ({ cls := "com/example/killifish/killifish/store/Epochs", name := "add", desc := "(J)I" } : Jvm.MethodName) prog_13_method_7_code (4 : Nat) (Option.some Jvm.ClassFile.FieldType.int)).before args0 about1 = true := code_word (m := ⟨2, 2⟩) (meth := k2m2) (c := k2c2) (by decide +kernel) rfl rfl rfl (by decide +kernel)
set_option maxRecDepth 65536 in
theorem w_c4 : (Jvm.Cond.code ({ cls := "java/util/Arrays", name := "binarySearch", desc := "([JIIJ)I" } : Jvm.MethodName) jdk_65_method_55_code (5 : Nat) (Option.some Jvm.ClassFile.FieldType.int)).before args0 about1 = true := code_word (m := ⟨3, 2⟩) (meth := k3m2) (c := k3c2) (by decide +kernel) rfl rfl rfl (by decide +kernel)
set_option maxRecDepth 65536 in
theorem w_c5 : (Jvm.Cond.code ({ cls := "java/util/Arrays", name := "rangeCheck", desc := "(III)V" } : Jvm.MethodName) jdk_65_method_30_code (3 : Nat) (Option.none : Option Jvm.ClassFile.FieldType)).before args0 about1 = true := code_word (m := ⟨3, 1⟩) (meth := k3m1) (c := k3c1) (by decide +kernel) rfl rfl rfl (by decide +kernel)
set_option maxRecDepth 65536 in
theorem w_c6 : (Jvm.Cond.code ({ cls := "java/util/Arrays", name := "binarySearch0", desc := "([JIIJ)I" } : Jvm.MethodName) jdk_65_method_56_code (10 : Nat) (Option.some Jvm.ClassFile.FieldType.int)).before args0 about1 = true := code_word (m := ⟨3, 3⟩) (meth := k3m3) (c := k3c3) (by decide +kernel) rfl rfl rfl (by decide +kernel)
set_option maxRecDepth 65536 in
theorem w_c7 : (Jvm.Cond.code ({ cls := "java/lang/Math", name := "max", desc := "(II)I" } : Jvm.MethodName) jdk_29_method_65_code (2 : Nat) (Option.some Jvm.ClassFile.FieldType.int)).before args0 about1 = true := code_word (m := ⟨4, 1⟩) (meth := k4m1) (c := k4c1) (by decide +kernel) rfl rfl rfl (by decide +kernel)
set_option maxRecDepth 65536 in
theorem w_c8 : (Jvm.Cond.code ({ cls := "com/example/killifish/killifish/store/Epochs", name := "resize", desc := "(I)V" } : Jvm.MethodName) prog_13_method_26_code (2 : Nat) (Option.none : Option Jvm.ClassFile.FieldType)).before args0 about1 = true := code_word (m := ⟨2, 4⟩) (meth := k2m4) (c := k2c4) (by decide +kernel) rfl rfl rfl (by decide +kernel)
set_option maxRecDepth 65536 in
theorem w_c9 : (Jvm.Cond.code ({ cls := "java/util/Arrays", name := "copyOf", desc := "([JI)[J" } : Jvm.MethodName) jdk_65_method_124_code (3 : Nat) (Option.some (Jvm.ClassFile.FieldType.array Jvm.ClassFile.FieldType.long))).before args0 about1 = true := code_word (m := ⟨3, 6⟩) (meth := k3m6) (c := k3c6) (by decide +kernel) rfl rfl rfl (by decide +kernel)
set_option maxRecDepth 65536 in
theorem w_c10 : (Jvm.Cond.code ({ cls := "java/lang/Math", name := "min", desc := "(II)I" } : Jvm.MethodName) jdk_29_method_69_code (2 : Nat) (Option.some Jvm.ClassFile.FieldType.int)).before args0 about1 = true := code_word (m := ⟨4, 2⟩) (meth := k4m2) (c := k4c2) (by decide +kernel) rfl rfl rfl (by decide +kernel)
set_option maxRecDepth 65536 in
theorem w_c11 : (Jvm.Cond.code ({ cls := "java/util/Arrays", name := "copyOf", desc := "([II)[I" } : Jvm.MethodName) jdk_65_method_123_code (3 : Nat) (Option.some (Jvm.ClassFile.FieldType.array Jvm.ClassFile.FieldType.int))).before args0 about1 = true := code_word (m := ⟨3, 5⟩) (meth := k3m5) (c := k3c5) (by decide +kernel) rfl rfl rfl (by decide +kernel)
set_option maxRecDepth 65536 in
theorem w_c12 : (Jvm.Cond.code ({ cls := "java/util/Arrays", name := "copyOf", desc := "([BI)[B" } : Jvm.MethodName) jdk_65_method_121_code (3 : Nat) (Option.some (Jvm.ClassFile.FieldType.array Jvm.ClassFile.FieldType.byte))).before args0 about1 = true := code_word (m := ⟨3, 4⟩) (meth := k3m4) (c := k3c4) (by decide +kernel) rfl rfl rfl (by decide +kernel)
set_option maxRecDepth 65536 in
theorem w_c13 : (Jvm.Cond.code ({ cls := "com/example/killifish/killifish/store/Epochs", name := "shift", desc := "(III)V" } : Jvm.MethodName) prog_13_method_25_code (4 : Nat) (Option.none : Option Jvm.ClassFile.FieldType)).before args0 about1 = true := code_word (m := ⟨2, 3⟩) (meth := k2m3) (c := k2c3) (by decide +kernel) rfl rfl rfl (by decide +kernel)
set_option maxRecDepth 65536 in
theorem w_c14 : (Jvm.Cond.code ({ cls := "com/example/killifish/killifish/store/Epochs", name := "indexOf", desc := "(J)I" } : Jvm.MethodName) prog_13_method_6_code (4 : Nat) (Option.some Jvm.ClassFile.FieldType.int)).before args0 about1 = true := code_word (m := ⟨2, 1⟩) (meth := k2m1) (c := k2c1) (by decide +kernel) rfl rfl rfl (by decide +kernel)
def codes1 : List Jvm.Cond := [Jvm.Cond.code x code maxLocals ret, Jvm.Cond.code ({ cls := "com/example/killifish/killifish/store/Epochs", name := "<init>", desc := "()V" } : Jvm.MethodName) prog_13_method_1_code (1 : Nat) (Option.none : Option Jvm.ClassFile.FieldType), Jvm.Cond.code ({ cls := "java/lang/Object", name := "<init>", desc := "()V" } : Jvm.MethodName) object_method_1_code (1 : Nat) (Option.none : Option Jvm.ClassFile.FieldType), Jvm.Cond.code ({ cls := "com/example/killifish/killifish/store/Epochs", name := "add", desc := "(J)I" } : Jvm.MethodName) prog_13_method_7_code (4 : Nat) (Option.some Jvm.ClassFile.FieldType.int), Jvm.Cond.code ({ cls := "java/util/Arrays", name := "binarySearch", desc := "([JIIJ)I" } : Jvm.MethodName) jdk_65_method_55_code (5 : Nat) (Option.some Jvm.ClassFile.FieldType.int), Jvm.Cond.code ({ cls := "java/util/Arrays", name := "rangeCheck", desc := "(III)V" } : Jvm.MethodName) jdk_65_method_30_code (3 : Nat) (Option.none : Option Jvm.ClassFile.FieldType), Jvm.Cond.code ({ cls := "java/util/Arrays", name := "binarySearch0", desc := "([JIIJ)I" } : Jvm.MethodName) jdk_65_method_56_code (10 : Nat) (Option.some Jvm.ClassFile.FieldType.int), Jvm.Cond.code ({ cls := "java/lang/Math", name := "max", desc := "(II)I" } : Jvm.MethodName) jdk_29_method_65_code (2 : Nat) (Option.some Jvm.ClassFile.FieldType.int), Jvm.Cond.code ({ cls := "com/example/killifish/killifish/store/Epochs", name := "resize", desc := "(I)V" } : Jvm.MethodName) prog_13_method_26_code (2 : Nat) (Option.none : Option Jvm.ClassFile.FieldType), Jvm.Cond.code ({ cls := "java/util/Arrays", name := "copyOf", desc := "([JI)[J" } : Jvm.MethodName) jdk_65_method_124_code (3 : Nat) (Option.some (Jvm.ClassFile.FieldType.array Jvm.ClassFile.FieldType.long)), Jvm.Cond.code ({ cls := "java/lang/Math", name := "min", desc := "(II)I" } : Jvm.MethodName) jdk_29_method_69_code (2 : Nat) (Option.some Jvm.ClassFile.FieldType.int), Jvm.Cond.code ({ cls := "java/util/Arrays", name := "copyOf", desc := "([II)[I" } : Jvm.MethodName) jdk_65_method_123_code (3 : Nat) (Option.some (Jvm.ClassFile.FieldType.array Jvm.ClassFile.FieldType.int)), Jvm.Cond.code ({ cls := "java/util/Arrays", name := "copyOf", desc := "([BI)[B" } : Jvm.MethodName) jdk_65_method_121_code (3 : Nat) (Option.some (Jvm.ClassFile.FieldType.array Jvm.ClassFile.FieldType.byte)), Jvm.Cond.code ({ cls := "com/example/killifish/killifish/store/Epochs", name := "shift", desc := "(III)V" } : Jvm.MethodName) prog_13_method_25_code (4 : Nat) (Option.none : Option Jvm.ClassFile.FieldType), Jvm.Cond.code ({ cls := "com/example/killifish/killifish/store/Epochs", name := "indexOf", desc := "(J)I" } : Jvm.MethodName) prog_13_method_6_code (4 : Nat) (Option.some Jvm.ClassFile.FieldType.int)]
set_option maxRecDepth 65536 in
theorem codes_eq : words1.filter isCode = codes1 := rfl
theorem w_codes : ∀ c ∈ words1.filter isCode, c.before args0 about1 = true := by
  rw [codes_eq]
  intro c hc
  simp only [codes1, List.mem_cons, List.not_mem_nil, or_false] at hc
  rcases hc with rfl | rfl | rfl | rfl | rfl | rfl | rfl | rfl | rfl | rfl | rfl | rfl | rfl | rfl | rfl
  · exact w_c0
  · exact w_c1
  · exact w_c2
  · exact w_c3
  · exact w_c4
  · exact w_c5
  · exact w_c6
  · exact w_c7
  · exact w_c8
  · exact w_c9
  · exact w_c10
  · exact w_c11
  · exact w_c12
  · exact w_c13
  · exact w_c14
set_option maxRecDepth 65536 in
theorem w_t1 : (words1.take 24).all (fun c => isCode c || c.before args0 about1) = true := by decide +kernel
set_option maxRecDepth 65536 in
theorem w_t2 : ((words1.drop 24).take 24).all (fun c => isCode c || c.before args0 about1) = true := by decide +kernel
set_option maxRecDepth 65536 in
theorem w_t3 : (((words1.drop 24).drop 24).take 24).all (fun c => isCode c || c.before args0 about1) = true := by decide +kernel
set_option maxRecDepth 65536 in
theorem w_t4 : (((words1.drop 24).drop 24).drop 24).all (fun c => isCode c || c.before args0 about1) = true := by decide +kernel
theorem w_tables : (allAtoms (Jvm.Cond.code x code maxLocals ret :: tables_1)).before args0 about1 = true := by
  rw [allAtoms_all]
  show words1.all (fun c => c.before args0 about1) = true
  refine all_split ?_ w_codes
  rw [← List.take_append_drop 24 words1, List.all_append, w_t1, ← List.take_append_drop 24 (words1.drop 24), List.all_append, w_t2, ← List.take_append_drop 24 ((words1.drop 24).drop 24), List.all_append, w_t3, w_t4]
  rfl
set_option maxRecDepth 65536 in
theorem w_case : (Jvm.Cond.and given_1 narrow_1).before args0 about1 = true := by decide +kernel
theorem w_applies : (headSpec (Jvm.Cond.code x code maxLocals ret :: tables_1) room_1).applies x e0.platform about1 = true :=
  (Spec.applies_iff w_frames).mpr ⟨w_running, w_runnable, w_alone, w_named, w_hears, w_ripe, w_room, w_tables⟩
theorem atStart : AtStart classFile x code maxLocals ret World_1 tables_1 room_1 Calls_1 rest_1 Pre_1 launch0 p0 e0 about1 theMethod args0 below0 :=
  ⟨lists_1, trivial, launch0.admits_env _ _ _, launch0.least_env, fairChoices_fair.cas, fairChoices_fair.clock, w_frames, w_args, w_heap, w_applies, trivial, trivial, w_case⟩
end start1
theorem witness_1 : WitnessClaimed_1 := ⟨start1.p0, start1.e0, start1.about1, start1.theMethod, start1.args0, start1.below0, start1.atStart⟩
end Jvm.Pilot.@@N@@
