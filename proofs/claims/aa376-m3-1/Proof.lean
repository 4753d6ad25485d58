import JvmDerived
import JvmDerived.Pilot.@@N@@Statement
import JvmDerived.Pilot.@@N@@Code
set_option linter.unusedVariables false
set_option linter.unusedSimpArgs false
namespace Jvm.Pilot.@@N@@
open Jvm Jvm.ClassFile Sem Op Lib Jvm.Free Jvm.Stand Jvm.LawKit Jvm.RoadKit Bundle Jvm.Pilot.@@N@@.Jvm.D
section OwnKit
variable {p : Program} {l : Launch} {e : Env} {R : Room} {s : State} {m : MethodId} {args : Array Value} {below : List Frame} {meth : Method} {c : Code} {T : State} {locs : List Loc} {cells slots : Nat} {Z : State} {a0 : Array Value} {h : Heap} {Φ : State → Prop}
/-- from here the run comes to an end of which Φ holds -/
def OGoes (tb : Tables) (e : Env) (below : List Frame) (Φ : State → Prop) (U : State) : Prop := ∃ t, Steps tb e below U t ∧ Φ t
theorem own_st {tb : Tables} {U V : State} (h : ∀ t, Steps tb e below V t → Steps tb e below U t) (k : OGoes tb e below Φ V) : OGoes tb e below Φ U := by
  obtain ⟨t, h1, h2⟩ := k
  exact ⟨t, h t h1, h2⟩
theorem own_tr {tb : Tables} {U V : State} (h : Steps tb e below U V) (k : OGoes tb e below Φ V) : OGoes tb e below Φ U := by
  obtain ⟨t, h1, h2⟩ := k
  exact ⟨t, h.trans h1, h2⟩
theorem own_cast {tb : Tables} {g g' : JFrame} (q : g = g') (k : OGoes tb e below Φ (T.setTop g')) : OGoes tb e below Φ (T.setTop g) := q ▸ k
def ODone (rm : Room) (s : State) (below : List Frame) (Q : Option Value → Heap → List Loc → Prop) (t : State) : Prop :=
  ∃ o, t.status = .running ∧ Ended t below o ∧ ∃ v L, o = .returned v ∧ Q v t.heap L ∧ FrameEnd s o t L rm.cells rm.slots
/-- a method's contract -/
def OMet (l : Launch) (Z : State) (y : MethodName) (bytes : ByteArray) (ml : Nat) (ret : Option FieldType) (rm : Room) (as : Array Value) (h0 : Heap) (Q : Option Value → Heap → List Loc → Prop) : Prop :=
  ∀ ws, MetFree l y (head1 (Jvm.Cond.code y bytes ml ret :: ws) rm) (fun a U => a = as ∧ Z.Warmed39 U.vm ∧ U.heap = h0) (fun _ _ _ _ _ => True)
    (fun _ U o U' => ∃ v L, o = .returned v ∧ Q v U'.heap L ∧ FrameEnd U o U' L rm.cells rm.slots)
/-- .. of one that writes and makes nothing -/
abbrev OPure (l : Launch) (Z : State) (y : MethodName) (bytes : ByteArray) (ml : Nat) (ret : Option FieldType) (fr lo : Nat) (as : Array Value) (h0 : Heap) (v : Option Value) : Prop :=
  OMet l Z y bytes ml ret ⟨fr, 0, 0, lo⟩ as h0 (fun v' h' L' => v' = v ∧ h' = h0 ∧ L' = [])
theorem own_body {y : MethodName} {bytes : ByteArray} {ml : Nat} {ret : Option FieldType} {rm : Room} {as : Array Value} {h0 : Heap} {Q : Option Value → Heap → List Loc → Prop} (hpn : plainFor y = true)
    (body : ∀ (p : Program) (e : Env) (s : State) (m : MethodId) (below : List Frame) (meth : Method) (c : Code) (T : State), Stand p l e rm s m as below meth c T [] 0 0 → p.tables.exec = Jvm.exec → c.code = bytes → c.maxLocals = ml → Z.Warmed39 s.vm → s.vm.findClass y.cls = some m.cls → meth.name = y.name → meth.sig.returnType = ret → meth.locks = false → T.heap = h0 →
      OGoes p.tables e below (ODone rm s below Q) (T.setTop (entryFrame m as ml))) : OMet l Z y bytes ml ret rm as h0 Q := by
  intro ws
  refine MetFree.of_bodySF hpn hisR ?_
  intro p e s m args below meth c s₁ Bd hml0 hP hK
  obtain ⟨rfl, hZ, hh⟩ := hP
  obtain ⟨t, h1, o, h2, h3, h4⟩ := body p e s m below meth c s₁ (Stand.of_body Bd) Bd.exec Bd.bytes hml0 hZ (findClass_of_methodNamed Bd.named) (name_of_methodNamed Bd.named Bd.method).1 Bd.returns Bd.notSynchronized (by rw [← hh, Bd.state]; rfl)
  exact ⟨t, o, h1, h2, h3, h4⟩
/-! the returns -/
theorem own_leave (X : Stand p l e R s m args below meth c T locs cells slots) (hlk : meth.locks = false) {v : Option Value} (hv : meth.sig.returnType = none → v = none) {rm : Room} {Q : Option Value → Heap → List Loc → Prop} (hc : cells ≤ rm.cells) (hs : slots ≤ rm.slots) (hQ : Q v T.heap locs) {U : State}
    (hstep : ∀ fs, (∀ (f : JFrame) (acts : List Action), f.method = m → f.locked = none → f.entered = [] → (doReturn e (T.setTop f) acts v).1 = T.setFrames fs) → Steps p.tables e below U (T.setFrames fs)) : OGoes p.tables e below (ODone rm s below Q) U := by
  obtain ⟨fs, hr, hrun, hended, hW, hsame⟩ := X.leave (v := v) hv hlk
  exact ⟨_, hstep fs hr, _, hrun, hended, v, locs, rfl, hQ, ⟨_, rfl⟩, hW, hsame.mono hc hs⟩
theorem own_retI (X : Stand p l e R s m args below meth c T locs cells slots) (hx : p.tables.exec = Jvm.exec) (hlk : meth.locks = false) (hret : meth.sig.returnType = some .int) {pc : Nat} {Ls : Array Slot} {z : Int32} {rest : List Value} (hd : decode c.code pc = .ok (.ireturn, 1))
    {rm : Room} {Q : Option Value → Heap → List Loc → Prop} (hc : cells ≤ rm.cells) (hs : slots ≤ rm.slots) (hQ : Q (some (.int z)) T.heap locs) : OGoes p.tables e below (ODone rm s below Q) (T.setTop (mkF m pc Ls (.int z :: rest))) :=
  own_leave X hlk (fun h => by rw [hret] at h; cases h) hc hs hQ fun fs hr => retOut X hx hret rfl (Or.inl ⟨rfl, Or.inl rfl, z, rfl⟩) hd hr
theorem own_retN (X : Stand p l e R s m args below meth c T locs cells slots) (hx : p.tables.exec = Jvm.exec) (hlk : meth.locks = false) {t : FieldType} (ht : t = .boolean ∨ t = .byte ∨ t = .char ∨ t = .short) (hret : meth.sig.returnType = some t) {pc : Nat} {Ls : Array Slot} {z : Int32} {rest : List Value} (hd : decode c.code pc = .ok (.ireturn, 1))
    {rm : Room} {Q : Option Value → Heap → List Loc → Prop} (hc : cells ≤ rm.cells) (hs : slots ≤ rm.slots) (hQ : Q (some (.int (nar t z))) T.heap locs) : OGoes p.tables e below (ODone rm s below Q) (T.setTop (mkF m pc Ls (.int z :: rest))) :=
  own_leave X hlk (fun h => by rw [hret] at h; cases h) hc hs hQ fun fs hr => retN X hx hret ht hd hr
theorem own_retJ (X : Stand p l e R s m args below meth c T locs cells slots) (hx : p.tables.exec = Jvm.exec) (hlk : meth.locks = false) (hret : meth.sig.returnType = some .long) {pc : Nat} {Ls : Array Slot} {z : Int64} {rest : List Value} (hd : decode c.code pc = .ok (.lreturn, 1))
    {rm : Room} {Q : Option Value → Heap → List Loc → Prop} (hc : cells ≤ rm.cells) (hs : slots ≤ rm.slots) (hQ : Q (some (.long z)) T.heap locs) : OGoes p.tables e below (ODone rm s below Q) (T.setTop (mkF m pc Ls (.long z :: rest))) :=
  own_leave X hlk (fun h => by rw [hret] at h; cases h) hc hs hQ fun fs hr => retOut X hx hret rfl (Or.inr (Or.inl ⟨rfl, rfl, z, rfl⟩)) hd hr
theorem own_retA (X : Stand p l e R s m args below meth c T locs cells slots) (hx : p.tables.exec = Jvm.exec) (hlk : meth.locks = false) {t : FieldType} (ht : t.isReference = true) (hret : meth.sig.returnType = some t) {pc : Nat} {Ls : Array Slot} {w : Value} {rest : List Value} (hw : w.isRef = true) (hd : decode c.code pc = .ok (.areturn, 1))
    {rm : Room} {Q : Option Value → Heap → List Loc → Prop} (hc : cells ≤ rm.cells) (hs : slots ≤ rm.slots) (hQ : Q (some w) T.heap locs) : OGoes p.tables e below (ODone rm s below Q) (T.setTop (mkF m pc Ls (w :: rest))) :=
  own_leave X hlk (fun h => by rw [hret] at h; cases h) hc hs hQ fun fs hr => retOut X hx hret (by cases t <;> first | (cases ht; done) | (cases w <;> first | rfl | (cases hw; done))) (Or.inr (Or.inr (Or.inr (Or.inr ⟨rfl, ht, hw⟩)))) hd hr
theorem own_retV (X : Stand p l e R s m args below meth c T locs cells slots) (hx : p.tables.exec = Jvm.exec) (hlk : meth.locks = false) (hret : meth.sig.returnType = none) {pc : Nat} {Ls : Array Slot} (hd : decode c.code pc = .ok (.return_, 1))
    {rm : Room} {Q : Option Value → Heap → List Loc → Prop} (hc : cells ≤ rm.cells) (hs : slots ≤ rm.slots) (hQ : Q none T.heap locs) : OGoes p.tables e below (ODone rm s below Q) (T.setTop (mkF m pc Ls [])) :=
  own_leave X hlk (fun _ => rfl) hc hs hQ fun fs hr => X.returnOut hx hret hd hr
/-! the calls -/
theorem own_callS (X : Stand p l e R s m args below meth c T locs cells slots) (hx : p.tables.exec = Jvm.exec) (hZ : Z.Warmed39 s.vm) {own : String} {index : Nat} {y : MethodName} {bytes : ByteArray} {ml : Nat} {ret : Option FieldType} {rm : Room} {as : Array Value} {Q : Option Value → Heap → List Loc → Prop}
    (hown : s.vm.findClass own = some m.cls) (w1 : (Jvm.Cond.methodLink own index y).before a0 Z = true) (w2 : (Jvm.Cond.static y).before a0 Z = true) (w3 : (Jvm.Cond.initialized y.cls).before a0 Z = true) (w4 : (Jvm.Cond.code y bytes ml ret).before a0 Z = true) (hy : y.cls ≠ "java/lang/invoke/MethodHandle" ∧ y.cls ≠ "java/lang/invoke/VarHandle")
    (hM : OMet l Z y bytes ml ret rm as h Q) (eT : T.heap = h) {pc : Nat} {Ls : Array Slot} {st : List Value} (hsz : Ls.size = c.maxLocals) {argsL rest : List Value} {sig : MethodDescriptor} (hp : parseMethodDescriptor y.desc = some sig) (hn : argsL.length = sig.parameters.length) (has : argsL.toArray = as) (hst : st = argsL.reverse ++ rest)
    {W : Nat} (hW : (rest.map fun v => v.category).sum ≤ W) (hd : decode c.code pc = .ok (.invokestatic index, 3)) (hf : rm.frames + 1 ≤ R.frames) (hl : W + (ml + 11) + rm.locals ≤ R.locals) (hc : cells + rm.cells ≤ R.cells) (hs : slots + rm.slots ≤ R.slots)
    (k : ∀ (v : Option Value) (T' : State) (L' : List Loc), Stand p l e R s m args below meth c T' (locs ++ L') (cells + rm.cells) (slots + rm.slots) → Q v T'.heap L' → OGoes p.tables e below Φ (T'.setTop (mkF m (pc + 3) Ls (v.toList ++ rest)))) : OGoes p.tables e below Φ (T.setTop (mkF m pc Ls st)) := by
  obtain ⟨v, vm1, ⟨T', L, kk, nn⟩, -, X', ⟨Lc, hQ, l1, l2, l3⟩, st'⟩ := Jvm.LawKit.callS X hx (y := y) hown (mvT hZ w1) (mvT hZ w2) (mvT hZ w3) (mvT hZ w4) hy (backOf (W := W) (hM []) hZ w4 w3 hf hl) (g := mkF m pc Ls st) rfl hsz (argsL := argsL) (rest := rest) (fun sg h => by cases hp.symm.trans h; exact hn) hst (by show 2 * 0 + _ ≤ _; omega) hd (fun _ _ => ⟨has, eT, hc, hs⟩)
  dsimp only [Pt.U, Pt.locs, Pt.cells, Pt.slots] at X' l1 l2 l3 st' hQ
  subst l1 l2 l3
  exact own_st st' (k v T' Lc X' hQ)
theorem own_callV (X : Stand p l e R s m args below meth c T locs cells slots) (hx : p.tables.exec = Jvm.exec) (hZ : Z.Warmed39 s.vm) {own C : String} {index : Nat} {y : MethodName} {bytes : ByteArray} {ml : Nat} {ret : Option FieldType} {rm : Room} {as : Array Value} {Q : Option Value → Heap → List Loc → Prop}
    (hown : s.vm.findClass own = some m.cls) (w1 : (Jvm.Cond.methodLink own index y).before a0 Z = true) (w2 : (Jvm.Cond.declares y).before a0 Z = true) (w3 : (Jvm.Cond.selects C y y).before a0 Z = true) (w4 : (Jvm.Cond.instanceMethod y).before a0 Z = true) (w5 : (Jvm.Cond.initialized y.cls).before a0 Z = true) (w6 : (Jvm.Cond.code y bytes ml ret).before a0 Z = true) (hy : y.cls ≠ "java/lang/invoke/MethodHandle" ∧ y.cls ≠ "java/lang/invoke/VarHandle")
    (hM : OMet l Z y bytes ml ret rm as h Q) (eT : T.heap = h) {b : Addr} (E : Exa Z h b C) {pc : Nat} {Ls : Array Slot} {st : List Value} (hsz : Ls.size = c.maxLocals) {argsL rest : List Value} {sig : MethodDescriptor} (hp : parseMethodDescriptor y.desc = some sig) (hn : argsL.length = sig.parameters.length) (has : (.ref b :: argsL).toArray = as) (hst : st = argsL.reverse ++ .ref b :: rest)
    {W : Nat} (hW : (rest.map fun v => v.category).sum ≤ W) (hd : decode c.code pc = .ok (.invokevirtual index, 3)) (hf : rm.frames + 1 ≤ R.frames) (hl : W + (ml + 11) + rm.locals ≤ R.locals) (hc : cells + rm.cells ≤ R.cells) (hs : slots + rm.slots ≤ R.slots)
    (k : ∀ (v : Option Value) (T' : State) (L' : List Loc), Stand p l e R s m args below meth c T' (locs ++ L') (cells + rm.cells) (slots + rm.slots) → Q v T'.heap L' → OGoes p.tables e below Φ (T'.setTop (mkF m (pc + 3) Ls (v.toList ++ rest)))) : OGoes p.tables e below Φ (T.setTop (mkF m pc Ls st)) := by
  obtain ⟨cq, kq, qa, qb, qc⟩ := isOf hZ eT E
  obtain ⟨v, vm1, ⟨T', L, kk, nn⟩, -, X', ⟨Lc, hQ, l1, l2, l3⟩, st'⟩ := X.virtualBack hx (y := y) (z := y) hown (mvT hZ w1) (mvT hZ w2) (notFace_of_selects (args := #[]) (mvT hZ w3)) (mvT hZ w3) (mvT hZ w4) hy (backOf (W := W) (hM []) hZ w6 w5 hf hl) qa qc (g := mkF m pc Ls st) rfl hsz (Steps.refl _) (argsL := argsL) (rest := rest) (fun sg h => by cases hp.symm.trans h; exact hn) hst (by show 2 * 0 + _ ≤ _; omega) hd (fun _ _ => ⟨has, eT, hc, hs⟩)
  dsimp only [Pt.U, Pt.locs, Pt.cells, Pt.slots] at X' l1 l2 l3 st' hQ
  subst l1 l2 l3
  exact own_tr st' (k v T' Lc X' hQ)
theorem own_callN (X : Stand p l e R s m args below meth c T locs cells slots) (hx : p.tables.exec = Jvm.exec) (hZ : Z.Warmed39 s.vm) {own : String} {index : Nat} {y : MethodName} {bytes : ByteArray} {ml : Nat} {rm : Room} {as : Array Value} {Q : Option Value → Heap → List Loc → Prop} (hy1 : y.name = "<init>")
    (hown : s.vm.findClass own = some m.cls) (w1 : (Jvm.Cond.methodLink own index y).before a0 Z = true) (w4 : (Jvm.Cond.instanceMethod y).before a0 Z = true) (w5 : (Jvm.Cond.initialized y.cls).before a0 Z = true) (w6 : (Jvm.Cond.code y bytes ml none).before a0 Z = true) (hy : y.cls ≠ "java/lang/invoke/MethodHandle" ∧ y.cls ≠ "java/lang/invoke/VarHandle")
    (hM : OMet l Z y bytes ml none rm as h Q) (eT : T.heap = h) {b : Addr} {pc : Nat} {Ls : Array Slot} {st : List Value} (hsz : Ls.size = c.maxLocals) {argsL rest : List Value} {sig : MethodDescriptor} (hp : parseMethodDescriptor y.desc = some sig) (hn : argsL.length = sig.parameters.length) (has : (.ref b :: argsL).toArray = as) (hst : st = argsL.reverse ++ .ref b :: rest)
    {W : Nat} (hW : (rest.map fun v => v.category).sum ≤ W) (hd : decode c.code pc = .ok (.invokespecial index, 3)) (hf : rm.frames + 1 ≤ R.frames) (hl : W + (ml + 11) + rm.locals ≤ R.locals) (hc : cells + rm.cells ≤ R.cells) (hs : slots + rm.slots ≤ R.slots)
    (k : ∀ (v : Option Value) (T' : State) (L' : List Loc), Stand p l e R s m args below meth c T' (locs ++ L') (cells + rm.cells) (slots + rm.slots) → Q v T'.heap L' → OGoes p.tables e below Φ (T'.setTop (mkF m (pc + 3) Ls (v.toList ++ rest)))) : OGoes p.tables e below Φ (T.setTop (mkF m pc Ls st)) := by
  obtain ⟨v, vm1, ⟨T', L, kk, nn⟩, -, X', ⟨Lc, hQ, l1, l2, l3⟩, st'⟩ := X.specialBack hx (y := y) hy1 hown (mvT hZ w1) (mvT hZ w4) (mvT hZ w6) hy (backOf (W := W) (hM []) hZ w6 w5 hf hl) (g := mkF m pc Ls st) rfl hsz (Steps.refl _) (a := b) (argsL := argsL) (rest := rest) (fun sg h => by cases hp.symm.trans h; exact hn) hst (by show 2 * 0 + _ ≤ _; omega) hd (fun _ _ => ⟨has, eT, hc, hs⟩)
  dsimp only [Pt.U, Pt.locs, Pt.cells, Pt.slots] at X' l1 l2 l3 st' hQ
  subst l1 l2 l3
  exact own_tr st' (k v T' Lc X' hQ)
theorem own_callS0 (X : Stand p l e R s m args below meth c T locs cells slots) (hx : p.tables.exec = Jvm.exec) (hZ : Z.Warmed39 s.vm) {own : String} {index : Nat} {y : MethodName} {bytes : ByteArray} {ml : Nat} {ret : Option FieldType} {fr lo : Nat} {as : Array Value} {v : Option Value}
    (hown : s.vm.findClass own = some m.cls) (w1 : (Jvm.Cond.methodLink own index y).before a0 Z = true) (w2 : (Jvm.Cond.static y).before a0 Z = true) (w3 : (Jvm.Cond.initialized y.cls).before a0 Z = true) (w4 : (Jvm.Cond.code y bytes ml ret).before a0 Z = true) (hy : y.cls ≠ "java/lang/invoke/MethodHandle" ∧ y.cls ≠ "java/lang/invoke/VarHandle")
    (hM : OPure l Z y bytes ml ret fr lo as h v) (eT : T.heap = h) {pc : Nat} {Ls : Array Slot} {st : List Value} (hsz : Ls.size = c.maxLocals) {argsL rest : List Value} {sig : MethodDescriptor} (hp : parseMethodDescriptor y.desc = some sig) (hn : argsL.length = sig.parameters.length) (has : argsL.toArray = as) (hst : st = argsL.reverse ++ rest)
    {W : Nat} (hW : (rest.map fun v => v.category).sum ≤ W) (hd : decode c.code pc = .ok (.invokestatic index, 3)) (hf : fr + 1 ≤ R.frames) (hl : W + (ml + 11) + lo ≤ R.locals) (hc : cells ≤ R.cells) (hs : slots ≤ R.slots)
    (k : ∀ (T' : State), Stand p l e R s m args below meth c T' locs cells slots → T'.heap = h → OGoes p.tables e below Φ (T'.setTop (mkF m (pc + 3) Ls (v.toList ++ rest)))) : OGoes p.tables e below Φ (T.setTop (mkF m pc Ls st)) := by
  refine own_callS X hx hZ hown w1 w2 w3 w4 hy hM eT hsz hp hn has hst hW hd hf hl hc hs ?_
  rintro v' T' L' X' ⟨rfl, e', rfl⟩
  rw [List.append_nil] at X'
  exact k T' X' e'
theorem own_callV0 (X : Stand p l e R s m args below meth c T locs cells slots) (hx : p.tables.exec = Jvm.exec) (hZ : Z.Warmed39 s.vm) {own C : String} {index : Nat} {y : MethodName} {bytes : ByteArray} {ml : Nat} {ret : Option FieldType} {fr lo : Nat} {as : Array Value} {v : Option Value}
    (hown : s.vm.findClass own = some m.cls) (w1 : (Jvm.Cond.methodLink own index y).before a0 Z = true) (w2 : (Jvm.Cond.declares y).before a0 Z = true) (w3 : (Jvm.Cond.selects C y y).before a0 Z = true) (w4 : (Jvm.Cond.instanceMethod y).before a0 Z = true) (w5 : (Jvm.Cond.initialized y.cls).before a0 Z = true) (w6 : (Jvm.Cond.code y bytes ml ret).before a0 Z = true) (hy : y.cls ≠ "java/lang/invoke/MethodHandle" ∧ y.cls ≠ "java/lang/invoke/VarHandle")
    (hM : OPure l Z y bytes ml ret fr lo as h v) (eT : T.heap = h) {b : Addr} (E : Exa Z h b C) {pc : Nat} {Ls : Array Slot} {st : List Value} (hsz : Ls.size = c.maxLocals) {argsL rest : List Value} {sig : MethodDescriptor} (hp : parseMethodDescriptor y.desc = some sig) (hn : argsL.length = sig.parameters.length) (has : (.ref b :: argsL).toArray = as) (hst : st = argsL.reverse ++ .ref b :: rest)
    {W : Nat} (hW : (rest.map fun v => v.category).sum ≤ W) (hd : decode c.code pc = .ok (.invokevirtual index, 3)) (hf : fr + 1 ≤ R.frames) (hl : W + (ml + 11) + lo ≤ R.locals) (hc : cells ≤ R.cells) (hs : slots ≤ R.slots)
    (k : ∀ (T' : State), Stand p l e R s m args below meth c T' locs cells slots → T'.heap = h → OGoes p.tables e below Φ (T'.setTop (mkF m (pc + 3) Ls (v.toList ++ rest)))) : OGoes p.tables e below Φ (T.setTop (mkF m pc Ls st)) := by
  refine own_callV X hx hZ hown w1 w2 w3 w4 w5 w6 hy hM eT E hsz hp hn has hst hW hd hf hl hc hs ?_
  rintro v' T' L' X' ⟨rfl, e', rfl⟩
  rw [List.append_nil] at X'
  exact k T' X' e'
theorem own_aa_eq_t {a b : Addr} (h : a = b) : XT.acmp .eq (.ref a) (.ref b) = true := XT.aa_eq_t (congrArg Value.ref h)
theorem own_aa_eq_f {a b : Addr} (h : ¬ a = b) : XT.acmp .eq (.ref a) (.ref b) = false := XT.aa_eq_f fun q => h (Value.ref.inj q)
theorem own_aa_ne_t {a b : Addr} (h : ¬ a = b) : XT.acmp .ne (.ref a) (.ref b) = true := XT.aa_ne_t fun q => h (Value.ref.inj q)
theorem own_aa_ne_f {a b : Addr} (h : a = b) : XT.acmp .ne (.ref a) (.ref b) = false := XT.aa_ne_f (congrArg Value.ref h)
/-! the case's words -/
theorem own_fld_int {t : Term} {C n d : String} {a : Addr} {k : Int32} (ht : t.eval args s none [] s = some (.ref a)) (h : (Jvm.Cond.eq (.field t C n d) (.int k)).value args s none s [] = some true) : Fld s s.heap a C n d (.int k) := by
  have e : (Term.field t C n d).eval args s none [] s = s.fieldOf? a C n d := fld_at ht
  cases hx : s.fieldOf? a C n d with
  | none => simp [Cond.value, e, hx] at h
  | some v =>
    have e2 : (Term.int k).eval args s none [] s = some (.int k) := rfl
    cases v <;> simp [Cond.value, e, hx, e2] at h
    subst h
    exact Fld.start hx
theorem own_static {C n d K : String} (h : (Jvm.Cond.exactly (.static C n d) K).value args s none s [] = some true) (w1 : (Jvm.Cond.initialized C).before args s = true) (w2 : (Jvm.Cond.laysStatic C n d).before args s = true) :
    ∃ a, (Term.static C n d).eval args s none [] s = some (.ref a) ∧ Sta s s.heap C n d (.ref a) ∧ Exa s s.heap a K := by
  obtain ⟨a, ha⟩ := exa_v h
  exact ⟨a, ha, Sta.start ha (Or.inr ⟨w1, w2⟩), Exa.start ha h⟩
/-! arrays of ints of some kind at the start: Tab; what the case says of their places -/
theorem own_toI {j : Int32} (h : ¬ j < 0) : j.toNatClampNeg.toInt32 = j := (back32 h).1
theorem own_elem {t i : Term} {idx : List Nat} {a : Addr} {cl : Cell} {j v : Int32} (ht : t.eval args s none idx s = some (.ref a)) (hi : i.eval args s none idx s = some (.int j)) (ha : s.arrayAt? a = some cl) (hj : ¬ j < 0) (hv : cl.slots[j.toNatClampNeg]? = some (.int (atv cl j))) :
    (Jvm.Cond.eq (.elem t i) (.int v)).value args s none s idx = some (decide (atv cl j = v)) := by
  have e1 : (Term.elem t i).eval args s none idx s = some (.int (atv cl j)) := (elem_f ht hi ha hj).trans hv
  have e2 : (Term.int v).eval args s none idx s = some (.int v) := rfl
  simp [Cond.value, e1, e2]
theorem own_one {t : Term} {a : Addr} {cl : Cell} {ty : FieldType} {n k v : Int32} (hT : Tab s s.heap a cl ty n) (ht : t.eval args s none [] s = some (.ref a)) (hk : ¬ k < 0) (hkn : k < n) (h : (Jvm.Cond.eq (.elem t (.int k)) (.int v)).value args s none s [] = some true) : atv cl k = v :=
  gotT (own_elem ht rfl (Arr.fin (Vm.Alike.refl _) hT.1) hk (hT.2.2.2 k (inb_of hT.2.1 ⟨hk, hkn⟩))) h
theorem own_idx {i : Nat} {idx : List Nat} : (Term.index 0).eval args s none (i :: idx) s = some (.int i.toInt32) := rfl
theorem own_ltI {a b : Term} {idx : List Nat} {x y : Int32} (ha : a.eval args s none idx s = some (.int x)) (hb : b.eval args s none idx s = some (.int y)) : (Jvm.Cond.lt a b).value args s none s idx = some (decide (x < y)) := by simp [Cond.value, ha, hb]
theorem own_leI {a b : Term} {idx : List Nat} {x y : Int32} (ha : a.eval args s none idx s = some (.int x)) (hb : b.eval args s none idx s = some (.int y)) : (Jvm.Cond.le a b).value args s none s idx = some (decide (x ≤ y)) := by simp [Cond.value, ha, hb]
theorem own_all {t : Term} {a : Addr} {cl : Cell} {ty : FieldType} {n : Int32} {c : Jvm.Cond} (hT : Tab s s.heap a cl ty n) (ht : t.eval args s none [] s = some (.ref a)) (h : (Jvm.Cond.all t c).value args s none s [] = some true) (j : Int32) (hj : ¬ j < 0) (hjn : j < n) :
    c.value args s none s [j.toNatClampNeg] = some true ∧ (Term.index 0).eval args s none [j.toNatClampNeg] s = some (.int j) ∧ cl.slots[j.toNatClampNeg]? = some (.int (atv cl j)) := by
  have hin := inb_of hT.2.1 ⟨hj, hjn⟩
  refine ⟨Cond.all_elim ht (Arr.fin (Vm.Alike.refl _) hT.1) h _ (by omega), ?_, hT.2.2.2 j hin⟩
  rw [own_idx, own_toI hj]
theorem own_all_lo {t : Term} {a : Addr} {cl : Cell} {ty : FieldType} {n k v : Int32} (hT : Tab s s.heap a cl ty n) (ht : ∀ idx, t.eval args s none idx s = some (.ref a)) (h : (Jvm.Cond.all t (.or (.le (.int k) (.index 0)) (.eq (.elem t (.index 0)) (.int v)))).value args s none s [] = some true) (j : Int32) (hj : ¬ j < 0) (hjn : j < n) : k ≤ j ∨ atv cl j = v := by
  obtain ⟨h1, h2, h3⟩ := own_all hT (ht []) h j hj hjn
  exact or_e2 (own_leI rfl h2) (own_elem (ht _) h2 (Arr.fin (Vm.Alike.refl _) hT.1) hj h3) h1
theorem own_all_hi {t : Term} {a : Addr} {cl : Cell} {ty : FieldType} {n k v : Int32} (hT : Tab s s.heap a cl ty n) (ht : ∀ idx, t.eval args s none idx s = some (.ref a)) (h : (Jvm.Cond.all t (.or (.lt (.index 0) (.int k)) (.eq (.elem t (.index 0)) (.int v)))).value args s none s [] = some true) (j : Int32) (hj : ¬ j < 0) (hjn : j < n) : j < k ∨ atv cl j = v := by
  obtain ⟨h1, h2, h3⟩ := own_all hT (ht []) h j hj hjn
  exact or_e2 (own_ltI h2 rfl) (own_elem (ht _) h2 (Arr.fin (Vm.Alike.refl _) hT.1) hj h3) h1
theorem own_all_mid {t : Term} {a : Addr} {cl : Cell} {ty : FieldType} {n k q v : Int32} (hT : Tab s s.heap a cl ty n) (ht : ∀ idx, t.eval args s none idx s = some (.ref a)) (h : (Jvm.Cond.all t (.or (.lt (.index 0) (.int k)) (.or (.le (.int q) (.index 0)) (.eq (.elem t (.index 0)) (.int v))))).value args s none s [] = some true) (j : Int32) (hj : ¬ j < 0) (hjn : j < n) : j < k ∨ ¬ j < q ∨ atv cl j = v := by
  obtain ⟨h1, h2, h3⟩ := own_all hT (ht []) h j hj hjn
  exact or3 h1 (own_ltI h2 rfl) (own_leI rfl h2) (own_elem (ht _) h2 (Arr.fin (Vm.Alike.refl _) hT.1) hj h3)
theorem own_arr {t : Term} {a : Addr} {ty : FieldType} {n : Int32} (hf : Fit s) (ht : t.eval args s none [] s = some (.ref a)) (h1 : (Jvm.Cond.arrayOf t ty).value args s none s [] = some true) (h2 : (Jvm.Cond.eq (.length t) (.int n)).value args s none s [] = some true) (hty : ty = .int ∨ ty = .boolean ∨ ty = .byte ∨ ty = .char ∨ ty = .short) (hn : ¬ n < 0) : ∃ cl, Tab s s.heap a cl ty n := by
  obtain ⟨cl, A⟩ := Arr.start ht h1
  have ha := Arr.fin (Vm.Alike.refl _) A
  have hl : cl.slots.size < 2 ^ 31 := by
    refine Nat.lt_of_not_le fun q => ?_
    have e : (Term.length t).eval args s none [] s = none := by simp [Term.eval, ht, ha, q]
    simp [Cond.value, e] at h2
  have e1 : (Term.length t).eval args s none [] s = some (.int cl.slots.size.toInt32) := len_f ht ha hl
  have e2 : (Term.int n).eval args s none [] s = some (.int n) := rfl
  have e3 : cl.slots.size.toInt32 = n := by simpa [Cond.value, e1, e2] using h2
  exact ⟨cl, Tab.start hf A hty hl e3 hn⟩
theorem own_aastore (X : Stand p l e R s m args below meth c T locs cells slots) (hx : p.tables.exec = Jvm.exec) (hZ : Z.Warmed39 s.vm) (eT : T.heap = h) {a : Addr} {kc : ClassId} {ty : FieldType} {n : Int32} {vs : List Value} {d : Value} (A : Arv Z h a kc ty n vs d) {j : Int32} {v : Value} {i n0 : Nat} (hj : ¬ j < 0) (hjn : j < n) (hji : j.toNatClampNeg = i) (hi : i < vs.length) (hty : ty.isReference = true) (hv : fits ty v = true) (S : Sto Z h a v) (N : Fr n0 locs) (ge : n0 ≤ a) {pc : Nat} {Ls : Array Slot} {rest : List Value} (hd : decode c.code pc = .ok (.aastore, 1))
    (kk : ∀ (T' : State) (h' : Heap) (L' : List Loc), Stand p l e R s m args below meth c T' L' cells slots → T'.heap = h' → Fr n0 L' → Wr h h' a i v → Arv Z h' a kc ty n (vs.set i v) d → OGoes p.tables e below Φ (T'.setTop (mkF m (pc + 1) Ls rest))) : OGoes p.tables e below Φ (T.setTop (mkF m pc Ls (v :: .int j :: .ref a :: rest))) := by
  subst hji
  obtain ⟨cl, Ar, q1, S1, N1, H1, G1⟩ := A
  have hin := inb_of S1 ⟨hj, hjn⟩
  obtain ⟨T', h', X', e', W', st⟩ := stR X hx hZ eT Ar (j := j) hin hty S (g := mkF m pc Ls (v :: .int j :: .ref a :: rest)) rfl rfl hd
  exact own_st st (kk T' h' _ X' e' (Fr.snoc X' N ge) W' (Arv.set Ar q1 S1 N1 H1 G1 hv W' _ rfl hi))
theorem own_lastore (X : Stand p l e R s m args below meth c T locs cells slots) (hx : p.tables.exec = Jvm.exec) (hZ : Z.Warmed39 s.vm) (eT : T.heap = h) {a : Addr} {kc : ClassId} {n : Int32} {vs : List Value} {d : Value} (A : Arv Z h a kc .long n vs d) {j : Int32} {v : Int64} {i n0 : Nat} (hj : ¬ j < 0) (hjn : j < n) (hji : j.toNatClampNeg = i) (hi : i < vs.length)  (N : Fr n0 locs) (ge : n0 ≤ a) {pc : Nat} {Ls : Array Slot} {rest : List Value} (hd : decode c.code pc = .ok (.lastore, 1))
    (kk : ∀ (T' : State) (h' : Heap) (L' : List Loc), Stand p l e R s m args below meth c T' L' cells slots → T'.heap = h' → Fr n0 L' → Wr h h' a i (.long v) → Arv Z h' a kc .long n (vs.set i (.long v)) d → OGoes p.tables e below Φ (T'.setTop (mkF m (pc + 1) Ls rest))) : OGoes p.tables e below Φ (T.setTop (mkF m pc Ls ((.long v) :: .int j :: .ref a :: rest))) := by
  subst hji
  obtain ⟨cl, Ar, q1, S1, N1, H1, G1⟩ := A
  have hin := inb_of S1 ⟨hj, hjn⟩
  obtain ⟨T', h', X', e', W', st⟩ := stJ X hx hZ eT Ar (j := j) hin  (g := mkF m pc Ls ((.long v) :: .int j :: .ref a :: rest)) rfl rfl hd
  exact own_st st (kk T' h' _ X' e' (Fr.snoc X' N ge) W' (Arv.set Ar q1 S1 N1 H1 G1 rfl W' _ rfl hi))
theorem own_iastore (X : Stand p l e R s m args below meth c T locs cells slots) (hx : p.tables.exec = Jvm.exec) (hZ : Z.Warmed39 s.vm) (eT : T.heap = h) {a : Addr} {kc : ClassId} {n : Int32} {vs : List Value} {d : Value} (A : Arv Z h a kc .int n vs d) {j : Int32} {v : Int32} {i n0 : Nat} (hj : ¬ j < 0) (hjn : j < n) (hji : j.toNatClampNeg = i) (hi : i < vs.length)  (N : Fr n0 locs) (ge : n0 ≤ a) {pc : Nat} {Ls : Array Slot} {rest : List Value} (hd : decode c.code pc = .ok (.iastore, 1))
    (kk : ∀ (T' : State) (h' : Heap) (L' : List Loc), Stand p l e R s m args below meth c T' L' cells slots → T'.heap = h' → Fr n0 L' → Wr h h' a i (.int v) → Arv Z h' a kc .int n (vs.set i (.int v)) d → OGoes p.tables e below Φ (T'.setTop (mkF m (pc + 1) Ls rest))) : OGoes p.tables e below Φ (T.setTop (mkF m pc Ls ((.int v) :: .int j :: .ref a :: rest))) := by
  subst hji
  obtain ⟨cl, Ar, q1, S1, N1, H1, G1⟩ := A
  have hin := inb_of S1 ⟨hj, hjn⟩
  obtain ⟨T', h', X', e', W', st⟩ := stI X hx hZ eT Ar (j := j) hin  (g := mkF m pc Ls ((.int v) :: .int j :: .ref a :: rest)) rfl rfl hd
  exact own_st st (kk T' h' _ X' e' (Fr.snoc X' N ge) W' (Arv.set Ar q1 S1 N1 H1 G1 rfl W' _ rfl hi))
theorem own_bastore (X : Stand p l e R s m args below meth c T locs cells slots) (hx : p.tables.exec = Jvm.exec) (hZ : Z.Warmed39 s.vm) (eT : T.heap = h) {a : Addr} {kc : ClassId} {n : Int32} {vs : List Value} {d : Value} (A : Arv Z h a kc .byte n vs d) {j : Int32} {v : Int32} {i n0 : Nat} (hj : ¬ j < 0) (hjn : j < n) (hji : j.toNatClampNeg = i) (hi : i < vs.length)  (N : Fr n0 locs) (ge : n0 ≤ a) {pc : Nat} {Ls : Array Slot} {rest : List Value} (hd : decode c.code pc = .ok (.bastore, 1))
    (kk : ∀ (T' : State) (h' : Heap) (L' : List Loc), Stand p l e R s m args below meth c T' L' cells slots → T'.heap = h' → Fr n0 L' → Wr h h' a i (.int (nar .byte v)) → Arv Z h' a kc .byte n (vs.set i (.int (nar .byte v))) d → OGoes p.tables e below Φ (T'.setTop (mkF m (pc + 1) Ls rest))) : OGoes p.tables e below Φ (T.setTop (mkF m pc Ls ((.int v) :: .int j :: .ref a :: rest))) := by
  subst hji
  obtain ⟨cl, Ar, q1, S1, N1, H1, G1⟩ := A
  have hin := inb_of S1 ⟨hj, hjn⟩
  obtain ⟨T', h', X', e', W', st⟩ := stB X hx hZ eT Ar (j := j) hin  (g := mkF m pc Ls ((.int v) :: .int j :: .ref a :: rest)) rfl rfl hd
  exact own_st st (kk T' h' _ X' e' (Fr.snoc X' N ge) W' (Arv.set Ar q1 S1 N1 H1 G1 (fits_nar_byte _) W' _ rfl hi))
theorem own_castore (X : Stand p l e R s m args below meth c T locs cells slots) (hx : p.tables.exec = Jvm.exec) (hZ : Z.Warmed39 s.vm) (eT : T.heap = h) {a : Addr} {kc : ClassId} {n : Int32} {vs : List Value} {d : Value} (A : Arv Z h a kc .char n vs d) {j : Int32} {v : Int32} {i n0 : Nat} (hj : ¬ j < 0) (hjn : j < n) (hji : j.toNatClampNeg = i) (hi : i < vs.length)  (N : Fr n0 locs) (ge : n0 ≤ a) {pc : Nat} {Ls : Array Slot} {rest : List Value} (hd : decode c.code pc = .ok (.castore, 1))
    (kk : ∀ (T' : State) (h' : Heap) (L' : List Loc), Stand p l e R s m args below meth c T' L' cells slots → T'.heap = h' → Fr n0 L' → Wr h h' a i (.int (nar .char v)) → Arv Z h' a kc .char n (vs.set i (.int (nar .char v))) d → OGoes p.tables e below Φ (T'.setTop (mkF m (pc + 1) Ls rest))) : OGoes p.tables e below Φ (T.setTop (mkF m pc Ls ((.int v) :: .int j :: .ref a :: rest))) := by
  subst hji
  obtain ⟨cl, Ar, q1, S1, N1, H1, G1⟩ := A
  have hin := inb_of S1 ⟨hj, hjn⟩
  obtain ⟨T', h', X', e', W', st⟩ := stC X hx hZ eT Ar (j := j) hin  (g := mkF m pc Ls ((.int v) :: .int j :: .ref a :: rest)) rfl rfl hd
  exact own_st st (kk T' h' _ X' e' (Fr.snoc X' N ge) W' (Arv.set Ar q1 S1 N1 H1 G1 (fits_nar_char _) W' _ rfl hi))
theorem own_aaload (X : Stand p l e R s m args below meth c T locs cells slots) (hx : p.tables.exec = Jvm.exec) (hZ : Z.Warmed39 s.vm) (eT : T.heap = h) {a : Addr} {kc : ClassId} {ty : FieldType} (hty : ty.isReference = true) {n : Int32} {vs : List Value} {d : Value} (A : Arv Z h a kc ty n vs d) {j : Int32} {v : Value} (hj : ¬ j < 0) (hjn : j < n) (hv : vs.getD j.toNatClampNeg d = v) {pc : Nat} {Ls : Array Slot} {rest : List Value} (hd : decode c.code pc = .ok (.aaload, 1))
    (kk : OGoes p.tables e below Φ (T.setTop (mkF m (pc + 1) Ls (v :: rest)))) : OGoes p.tables e below Φ (T.setTop (mkF m pc Ls (.int j :: .ref a :: rest))) := by
  obtain ⟨cl, Ar, q1, S1, N1, H1, G1⟩ := A
  have hin := inb_of S1 ⟨hj, hjn⟩
  exact own_st (fun t k => X.aaload hx (j := j) (v := v) (by rw [eT]; exact Ar.1) (State.isArrayOf_alike hZ.alike Ar.2.1) hty Ar.2.2 hin (H1.at hin hv) (g := mkF m pc Ls (.int j :: .ref a :: rest)) rfl rfl hd t k) kk
theorem own_laload (X : Stand p l e R s m args below meth c T locs cells slots) (hx : p.tables.exec = Jvm.exec) (hZ : Z.Warmed39 s.vm) (eT : T.heap = h) {a : Addr} {kc : ClassId} {n : Int32} {vs : List Value} {d : Value} (A : Arv Z h a kc .long n vs d) {j : Int32} {v : Value} (hj : ¬ j < 0) (hjn : j < n) (hv : vs.getD j.toNatClampNeg d = v) {pc : Nat} {Ls : Array Slot} {rest : List Value} (hd : decode c.code pc = .ok (.laload, 1))
    (kk : OGoes p.tables e below Φ (T.setTop (mkF m (pc + 1) Ls (v :: rest)))) : OGoes p.tables e below Φ (T.setTop (mkF m pc Ls (.int j :: .ref a :: rest))) := by
  obtain ⟨cl, Ar, q1, S1, N1, H1, G1⟩ := A
  have hin := inb_of S1 ⟨hj, hjn⟩
  exact own_st (fun t k => X.laload hx (j := j) (v := v) (by rw [eT]; exact Ar.1) (State.isArrayOf_alike hZ.alike Ar.2.1) Ar.2.2 hin (H1.at hin hv) (g := mkF m pc Ls (.int j :: .ref a :: rest)) rfl rfl hd t k) kk
theorem own_iaload (X : Stand p l e R s m args below meth c T locs cells slots) (hx : p.tables.exec = Jvm.exec) (hZ : Z.Warmed39 s.vm) (eT : T.heap = h) {a : Addr} {kc : ClassId} {n : Int32} {vs : List Value} {d : Value} (A : Arv Z h a kc .int n vs d) {j : Int32} {v : Value} (hj : ¬ j < 0) (hjn : j < n) (hv : vs.getD j.toNatClampNeg d = v) {pc : Nat} {Ls : Array Slot} {rest : List Value} (hd : decode c.code pc = .ok (.iaload, 1))
    (kk : OGoes p.tables e below Φ (T.setTop (mkF m (pc + 1) Ls (v :: rest)))) : OGoes p.tables e below Φ (T.setTop (mkF m pc Ls (.int j :: .ref a :: rest))) := by
  obtain ⟨cl, Ar, q1, S1, N1, H1, G1⟩ := A
  have hin := inb_of S1 ⟨hj, hjn⟩
  exact own_st (fun t k => X.iaload hx (j := j) (v := v) (by rw [eT]; exact Ar.1) (State.isArrayOf_alike hZ.alike Ar.2.1) Ar.2.2 hin (H1.at hin hv) (g := mkF m pc Ls (.int j :: .ref a :: rest)) rfl rfl hd t k) kk
theorem own_baload (X : Stand p l e R s m args below meth c T locs cells slots) (hx : p.tables.exec = Jvm.exec) (hZ : Z.Warmed39 s.vm) (eT : T.heap = h) {a : Addr} {kc : ClassId} {n : Int32} {vs : List Value} {d : Value} (A : Arv Z h a kc .byte n vs d) {j : Int32} {v : Value} (hj : ¬ j < 0) (hjn : j < n) (hv : vs.getD j.toNatClampNeg d = v) {pc : Nat} {Ls : Array Slot} {rest : List Value} (hd : decode c.code pc = .ok (.baload, 1))
    (kk : OGoes p.tables e below Φ (T.setTop (mkF m (pc + 1) Ls (v :: rest)))) : OGoes p.tables e below Φ (T.setTop (mkF m pc Ls (.int j :: .ref a :: rest))) := by
  obtain ⟨cl, Ar, q1, S1, N1, H1, G1⟩ := A
  have hin := inb_of S1 ⟨hj, hjn⟩
  exact own_st (fun t k => X.baloadBytes hx (j := j) (v := v) (by rw [eT]; exact Ar.1) (State.isArrayOf_alike hZ.alike Ar.2.1) Ar.2.2 hin (H1.at hin hv) (g := mkF m pc Ls (.int j :: .ref a :: rest)) rfl rfl hd t k) kk
theorem own_caload (X : Stand p l e R s m args below meth c T locs cells slots) (hx : p.tables.exec = Jvm.exec) (hZ : Z.Warmed39 s.vm) (eT : T.heap = h) {a : Addr} {kc : ClassId} {n : Int32} {vs : List Value} {d : Value} (A : Arv Z h a kc .char n vs d) {j : Int32} {v : Value} (hj : ¬ j < 0) (hjn : j < n) (hv : vs.getD j.toNatClampNeg d = v) {pc : Nat} {Ls : Array Slot} {rest : List Value} (hd : decode c.code pc = .ok (.caload, 1))
    (kk : OGoes p.tables e below Φ (T.setTop (mkF m (pc + 1) Ls (v :: rest)))) : OGoes p.tables e below Φ (T.setTop (mkF m pc Ls (.int j :: .ref a :: rest))) := by
  obtain ⟨cl, Ar, q1, S1, N1, H1, G1⟩ := A
  have hin := inb_of S1 ⟨hj, hjn⟩
  exact own_st (fun t k => X.caload hx (j := j) (v := v) (by rw [eT]; exact Ar.1) (State.isArrayOf_alike hZ.alike Ar.2.1) Ar.2.2 hin (H1.at hin hv) (g := mkF m pc Ls (.int j :: .ref a :: rest)) rfl rfl hd t k) kk
theorem own_alen (X : Stand p l e R s m args below meth c T locs cells slots) (hx : p.tables.exec = Jvm.exec) (hZ : Z.Warmed39 s.vm) (eT : T.heap = h) {a : Addr} {kc : ClassId} {ty : FieldType} {n : Int32} {vs : List Value} {d : Value} (A : Arv Z h a kc ty n vs d) {pc : Nat} {Ls : Array Slot} {rest : List Value} (hd : decode c.code pc = .ok (.arraylength, 1))
    (kk : OGoes p.tables e below Φ (T.setTop (mkF m (pc + 1) Ls (.int n :: rest)))) : OGoes p.tables e below Φ (T.setTop (mkF m pc Ls (.ref a :: rest))) := by
  obtain ⟨cl, Ar, q1, S1, N1, H1, G1⟩ := A
  exact own_st (fun t k => X.arraylength hx (by rw [eT]; exact Ar.1) (State.isArrayOf_alike hZ.alike Ar.2.1) (g := mkF m pc Ls (.ref a :: rest)) rfl rfl hd t (by rw [len_of S1 N1]; exact k)) kk
theorem own_newarray (X : Stand p l e R s m args below meth c T locs cells slots) (hx : p.tables.exec = Jvm.exec) (hZ : Z.Warmed39 s.vm) (eT : T.heap = h) {aty : ArrayType} (w : (Jvm.Cond.arrayClass (newarray.typeOf aty)).before a0 Z = true) {n : Int32} (hn : ¬ n < 0) {cap : Nat} (hcap : n.toNatClampNeg ≤ cap) (hb : cap * 8 ≤ 536870912) (hc : cells + 1 ≤ R.cells) (hl : slots + cap ≤ R.slots) {ad : String} (had : "[" ++ (newarray.typeOf aty).toString = ad) {pc : Nat} {Ls : Array Slot} {rest : List Value} (hd : decode c.code pc = .ok (.newarray aty, 2))
    (kk : ∀ (T' : State) (h' : Heap) (kc : ClassId) (b : Nat), Stand p l e R s m args below meth c T' locs (cells + 1) (slots + cap) → T'.heap = h' → Ext h h' → b = h.size → Arv Z h' b kc (newarray.typeOf aty) n [] (defaultValue (newarray.typeOf aty)) → Exa Z h' b ad → OGoes p.tables e below Φ (T'.setTop (mkF m (pc + 2) Ls (.ref b :: rest)))) : OGoes p.tables e below Φ (T.setTop (mkF m pc Ls (.int n :: rest))) := by
  obtain ⟨T', h', kc, X', e', E', A', B', st⟩ := newPE X hx hZ w eT (g := mkF m pc Ls (.int n :: rest)) rfl hd rfl hn hcap hb hc hl had
  exact own_st st (kk T' h' kc _ X' e' E' rfl (Arv.new A' hn) B')
theorem own_anewarray (X : Stand p l e R s m args below meth c T locs cells slots) (hx : p.tables.exec = Jvm.exec) (hZ : Z.Warmed39 s.vm) (eT : T.heap = h) {own C : String} {index : Nat} (hown : s.vm.findClass own = some m.cls) (w1 : (Jvm.Cond.classLink own index C).before a0 Z = true) (w2 : (Jvm.Cond.arrayOver (.object C)).before a0 Z = true) {n : Int32} (hn : ¬ n < 0) {cap : Nat} (hcap : n.toNatClampNeg ≤ cap) (hb : cap * 8 ≤ 536870912) (hc : cells + 1 ≤ R.cells) (hl : slots + cap ≤ R.slots) {pc : Nat} {Ls : Array Slot} {rest : List Value} (hd : decode c.code pc = .ok (.anewarray index, 3))
    (kk : ∀ (T' : State) (h' : Heap) (kc : ClassId) (b : Nat), Stand p l e R s m args below meth c T' locs (cells + 1) (slots + cap) → T'.heap = h' → Ext h h' → b = h.size → Arv Z h' b kc (.object C) n [] .null → Ovr Z kc C → OGoes p.tables e below Φ (T'.setTop (mkF m (pc + 3) Ls (.ref b :: rest)))) : OGoes p.tables e below Φ (T.setTop (mkF m pc Ls (.int n :: rest))) := by
  obtain ⟨T', h', kc, X', e', E', A', O', st⟩ := newR X hx hZ hown w1 w2 eT (g := mkF m pc Ls (.int n :: rest)) rfl hd rfl hn hcap hb hc hl
  exact own_st st (kk T' h' kc _ X' e' E' rfl (Arv.new A' hn) O')
theorem own_anewarrayA (X : Stand p l e R s m args below meth c T locs cells slots) (hx : p.tables.exec = Jvm.exec) (hZ : Z.Warmed39 s.vm) (eT : T.heap = h) {own C : String} {ty : FieldType} {index : Nat} (hown : s.vm.findClass own = some m.cls) (hC : (FieldType.array ty).toString = C) (w1 : (Jvm.Cond.classLink own index C).before a0 Z = true) (w2 : (Jvm.Cond.arrayOver (.array ty)).before a0 Z = true) {n : Int32} (hn : ¬ n < 0) {cap : Nat} (hcap : n.toNatClampNeg ≤ cap) (hb : cap * 8 ≤ 536870912) (hc : cells + 1 ≤ R.cells) (hl : slots + cap ≤ R.slots) {pc : Nat} {Ls : Array Slot} {rest : List Value} (hd : decode c.code pc = .ok (.anewarray index, 3))
    (kk : ∀ (T' : State) (h' : Heap) (kc : ClassId) (b : Nat), Stand p l e R s m args below meth c T' locs (cells + 1) (slots + cap) → T'.heap = h' → Ext h h' → b = h.size → Arv Z h' b kc (.array ty) n [] .null → OvrA Z kc ty C → OGoes p.tables e below Φ (T'.setTop (mkF m (pc + 3) Ls (.ref b :: rest)))) : OGoes p.tables e below Φ (T.setTop (mkF m pc Ls (.int n :: rest))) := by
  obtain ⟨T', h', kc, X', e', E', A', -, O', st⟩ := newRA X hx hZ hown hC w1 w2 eT (g := mkF m pc Ls (.int n :: rest)) rfl hd rfl hn hcap hb hc hl rfl
  exact own_st st (kk T' h' kc _ X' e' E' rfl (Arv.new A' hn) O')
theorem own_new (X : Stand p l e R s m args below meth c T locs cells slots) (hx : p.tables.exec = Jvm.exec) (hZ : Z.Warmed39 s.vm) (eT : T.heap = h) {own C : String} {index n : Nat} (hown : s.vm.findClass own = some m.cls) (w : (Jvm.Cond.classLink own index C).before a0 Z = true) (wi : (Jvm.Cond.instantiable C n).before a0 Z = true) (wz : (Jvm.Cond.initialized C).before a0 Z = true) (hc : cells + 1 ≤ R.cells) (hl : slots + n ≤ R.slots) {pc : Nat} {Ls : Array Slot} {st : List Value} (hd : decode c.code pc = .ok (.new index, 3))
    (kk : ∀ (T' : State) (h' : Heap) (b : Nat), Stand p l e R s m args below meth c T' locs (cells + 1) (slots + n) → T'.heap = h' → Ext h h' → b = h.size → Exa Z h' b C → (∀ {O nm d : String} {ty : FieldType}, Laid Z a0 C O nm d → parseFieldDescriptor d = some ty → Fld Z h' b O nm d (defaultValue ty)) → OGoes p.tables e below Φ (T'.setTop (mkF m (pc + 3) Ls (.ref b :: st)))) : OGoes p.tables e below Φ (T.setTop (mkF m pc Ls st)) := by
  obtain ⟨T', h', X', e', E', A', D', -, st'⟩ := newO X hx hZ hown w wi wz eT (g := mkF m pc Ls st) rfl hd hc hl
  exact own_st st' (kk T' h' _ X' e' E' rfl A' D')
theorem own_getfield (X : Stand p l e R s m args below meth c T locs cells slots) (hx : p.tables.exec = Jvm.exec) (hZ : Z.Warmed39 s.vm) (eT : T.heap = h) {own R0 O n d : String} {index : Nat} (hown : s.vm.findClass own = some m.cls) (w : (Jvm.Cond.fieldLink own index R0 n d).before a0 Z = true) (via : Via Z R0 O n d) {a : Addr} {v : Value} (F : Fld Z h a O n d v) {pc : Nat} {Ls : Array Slot} {rest : List Value} (hd : decode c.code pc = .ok (.getfield index, 3))
    (kk : ∀ (T' : State), Stand p l e R s m args below meth c T' locs cells slots → T'.heap = h → OGoes p.tables e below Φ (T'.setTop (mkF m (pc + 3) Ls (v :: rest)))) : OGoes p.tables e below Φ (T.setTop (mkF m pc Ls (.ref a :: rest))) := by
  obtain ⟨T', X', e', st⟩ := getF X hx hZ hown (host := "") (Or.inl w) via eT F (g := mkF m pc Ls (.ref a :: rest)) rfl rfl hd
  exact own_st st (kk T' X' e')
theorem own_getstatic (X : Stand p l e R s m args below meth c T locs cells slots) (hx : p.tables.exec = Jvm.exec) (hZ : Z.Warmed39 s.vm) (eT : T.heap = h) {own O n d : String} {index : Nat} (hown : s.vm.findClass own = some m.cls) (w : (Jvm.Cond.fieldLink own index O n d).before a0 Z = true) {v : Value} (F : Sta Z h O n d v) {pc : Nat} {Ls : Array Slot} {st : List Value} (hd : decode c.code pc = .ok (.getstatic index, 3))
    (kk : ∀ (T' : State), Stand p l e R s m args below meth c T' locs cells slots → T'.heap = h → OGoes p.tables e below Φ (T'.setTop (mkF m (pc + 3) Ls (v :: st)))) : OGoes p.tables e below Φ (T.setTop (mkF m pc Ls st)) := by
  obtain ⟨T', X', e', st'⟩ := getS X hx hZ (host := "") hown w Via.refl eT F (g := mkF m pc Ls st) rfl hd
  exact own_st st' (kk T' X' e')
theorem own_putfield (X : Stand p l e R s m args below meth c T locs cells slots) (hx : p.tables.exec = Jvm.exec) (hZ : Z.Warmed39 s.vm) (eT : T.heap = h) {own O n d C : String} {index kk0 : Nat} {ty : FieldType} (hown : s.vm.findClass own = some m.cls) (w : (Jvm.Cond.fieldLink own index O n d).before a0 Z = true) {a : Addr} {v old : Value} (F : Fld Z h a O n d old) (E : Exa Z h a C) (L : (Jvm.Cond.lays C O n d).before a0 Z = true ∨ ((Jvm.Cond.laysFinal C O n d).before a0 Z = true ∧ own = O ∧ meth.name = "<init>")) (wi : (Jvm.Cond.instantiable C kk0).before a0 Z = true) (hty : parseFieldDescriptor d = some ty) (hn : narrow ty v = v) (hf : fits ty v = true)
    {n0 : Nat} (N : Fr n0 locs) (ge : n0 ≤ a) {pc : Nat} {Ls : Array Slot} {rest : List Value} (hd : decode c.code pc = .ok (.putfield index, 3))
    (kk : ∀ (T' : State) (h' : Heap) (L' : List Loc), Stand p l e R s m args below meth c T' L' cells slots → T'.heap = h' → Fr n0 L' → Wr h h' a (Jvm.RoadKit.slotOf Z O n d) v → Fld Z h' a O n d v → OGoes p.tables e below Φ (T'.setTop (mkF m (pc + 3) Ls rest))) : OGoes p.tables e below Φ (T.setTop (mkF m pc Ls (v :: .ref a :: rest))) := by
  obtain ⟨T', h', X', e', W', st⟩ := putF X hx hZ hown (host := "") (Or.inl w) Via.refl eT F E L wi hty hn hf (g := mkF m pc Ls (v :: .ref a :: rest)) rfl rfl hd
  exact own_st st (kk T' h' _ X' e' (Fr.snoc X' N ge) W' (F.same W'))
theorem own_ne {a b : Nat} (h : a < b ∨ b < a) : @Ne Addr a b := fun (q : a = b) => by omega
theorem own_ext_trans {h1 h2 h3 : Heap} (A : Ext h1 h2) (B : Ext h2 h3) : Ext h1 h3 := ⟨Nat.le_trans A.1 B.1, fun a c q => B.2 a c (A.2 a c q)⟩
theorem own_old_wr {h' : Heap} {a : Addr} {sl : Nat} {v : Value} (O : Ext Z.heap h) (W : Wr h h' a sl v) (q : Z.heap.size ≤ a) : Ext Z.heap h' := (Old.wr (Z := Z) (n0 := Z.heap.size) ⟨rfl, O⟩ W q).2
theorem own_old_keep {h' : Heap} {ws : List Addr} (O : Ext Z.heap h) (K : Keep h h' ws) (q : ∀ x ∈ ws, Z.heap.size ≤ x) : Ext Z.heap h' := (Old.keep (Z := Z) (n0 := Z.heap.size) ⟨rfl, O⟩ K q).2
theorem own_callU0 (X : Stand p l e R s m args below meth c T locs cells slots) (hx : p.tables.exec = Jvm.exec) (hZ : Z.Warmed39 s.vm) {own C owner : String} {index : Nat} {x0 y : MethodName} {bytes : ByteArray} {ml : Nat} {ret : Option FieldType} {fr lo : Nat} {as : Array Value} {v : Option Value}
    (hown : s.vm.findClass own = some m.cls) (w1 : (Jvm.Cond.methodLink own index x0).before a0 Z = true) (w2 : (Jvm.Cond.sameMethod x0.cls owner x0.name x0.desc).before a0 Z = true) (w3 : (Jvm.Cond.declares ⟨owner, x0.name, x0.desc⟩).before a0 Z = true) (w3' : (Jvm.Cond.selects C x0 y).before a0 Z = true) (w4 : (Jvm.Cond.instanceMethod y).before a0 Z = true) (w5 : (Jvm.Cond.initialized y.cls).before a0 Z = true) (w6 : (Jvm.Cond.code y bytes ml ret).before a0 Z = true) (hy : owner ≠ "java/lang/invoke/MethodHandle" ∧ owner ≠ "java/lang/invoke/VarHandle")
    (hM : OPure l Z y bytes ml ret fr lo as h v) (eT : T.heap = h) {b : Addr} (E : Exa Z h b C) {pc : Nat} {Ls : Array Slot} {st : List Value} (hsz : Ls.size = c.maxLocals) {argsL rest : List Value} {sig : MethodDescriptor} (hp : parseMethodDescriptor x0.desc = some sig) (hn : argsL.length = sig.parameters.length) (has : (.ref b :: argsL).toArray = as) (hst : st = argsL.reverse ++ .ref b :: rest)
    {W : Nat} (hW : (rest.map fun v => v.category).sum ≤ W) (hd : decode c.code pc = .ok (.invokevirtual index, 3)) (hf : fr + 1 ≤ R.frames) (hl : W + (ml + 11) + lo ≤ R.locals) (hc : cells ≤ R.cells) (hs : slots ≤ R.slots)
    (k : ∀ (T' : State), Stand p l e R s m args below meth c T' locs cells slots → T'.heap = h → OGoes p.tables e below Φ (T'.setTop (mkF m (pc + 3) Ls (v.toList ++ rest)))) : OGoes p.tables e below Φ (T.setTop (mkF m pc Ls st)) := by
  obtain ⟨cq, kq, qa, qb, qc⟩ := isOf hZ eT E
  obtain ⟨v', vm1, ⟨T', L, kk, nn⟩, -, X', ⟨Lc, ⟨q1, q2, q3⟩, l1, l2, l3⟩, st'⟩ := X.virtualBackUp hx (x := x0) (y := y) hown (mvT hZ w1) (mvT hZ w2) (mvT hZ w3) hy (mvT hZ w3') (mvT hZ w4) (backOf (rm := ⟨fr, 0, 0, lo⟩) (Q := fun v' h' L' => v' = v ∧ h' = h ∧ L' = []) (W := W) (hM []) hZ w6 w5 hf hl) qa qc (g := mkF m pc Ls st) rfl hsz (Steps.refl _) (argsL := argsL) (rest := rest) (fun sg h => by cases hp.symm.trans h; exact hn) hst (by show 2 * 0 + _ ≤ _; omega) hd (fun _ _ => ⟨has, eT, hc, hs⟩)
  dsimp only [Pt.U, Pt.locs, Pt.cells, Pt.slots] at X' l1 l2 l3 st' q2
  subst l1 l2 l3 q1 q3
  rw [List.append_nil] at X'
  exact own_tr st' (k T' X' q2)
theorem own_stoA {a y : Addr} {kc : ClassId} {t0 ty : FieldType} {n : Int32} {vs : List Value} {d : Value} {C : String} (A : Arv Z h a kc t0 n vs d) (O : OvrA Z kc ty C) (I : Ins Z h y C true) : Sto Z h a (.ref y) := by
  obtain ⟨cl, Ar, q1, -⟩ := A
  exact Sto.ofVA Ar q1 O I
theorem own_sto {a y : Addr} {kc : ClassId} {t0 : FieldType} {n : Int32} {vs : List Value} {d : Value} {C : String} (A : Arv Z h a kc t0 n vs d) (O : Ovr Z kc C) (I : Ins Z h y C true) : Sto Z h a (.ref y) := by
  obtain ⟨cl, Ar, q1, -⟩ := A
  exact Sto.ofV Ar q1 O I
theorem own_arrR {t : Term} {a : Addr} {ty : FieldType} {n : Int32} (ht : t.eval args s none [] s = some (.ref a)) (h1 : (Jvm.Cond.arrayOf t ty).value args s none s [] = some true) (h2 : (Jvm.Cond.eq (.length t) (.int n)).value args s none s [] = some true) : ∃ cl, Arr s s.heap a cl ty ∧ cl.slots.size < 2 ^ 31 ∧ cl.slots.size.toInt32 = n := by
  obtain ⟨cl, A⟩ := Arr.start ht h1
  have ha := Arr.fin (Vm.Alike.refl _) A
  have hl : cl.slots.size < 2 ^ 31 := by
    refine Nat.lt_of_not_le fun q => ?_
    have e : (Term.length t).eval args s none [] s = none := by simp [Term.eval, ht, ha, q]
    simp [Cond.value, e] at h2
  have e1 : (Term.length t).eval args s none [] s = some (.int cl.slots.size.toInt32) := len_f ht ha hl
  have e2 : (Term.int n).eval args s none [] s = some (.int n) := rfl
  exact ⟨cl, A, hl, by simpa [Cond.value, e1, e2] using h2⟩
theorem own_elemR {t u : Term} {a w : Addr} {cl : Cell} {ty : FieldType} {k : Int32} (A : Arr s s.heap a cl ty) (ht : t.eval args s none [] s = some (.ref a)) (hu : u.eval args s none [] s = some (.ref w)) (h : (Jvm.Cond.eq (.elem t (.int k)) u).value args s none s [] = some true) : cl.slots[k.toNatClampNeg]? = some (.ref w) := by
  obtain ⟨v, y, e1, e2, -, -⟩ := cmp_v (Or.inl h)
  obtain rfl : y = .ref w := Option.some.inj (e2.symm.trans hu)
  have q := (elem_in e1 ht rfl A.1).2
  rw [q]
  cases v <;> simp [Cond.value, e1, e2] at h
  rw [h]
theorem own_elemI {t : Term} {a : Addr} {cl : Cell} {ty : FieldType} {k x : Int32} (A : Arr s s.heap a cl ty) (ht : t.eval args s none [] s = some (.ref a)) (h : (Jvm.Cond.eq (.elem t (.int k)) (.int x)).value args s none s [] = some true) : cl.slots[k.toNatClampNeg]? = some (.int x) := by
  obtain ⟨v, y, e1, e2, -, -⟩ := cmp_v (Or.inl h)
  obtain rfl : y = .int x := Option.some.inj (e2.symm.trans rfl)
  have q := (elem_in e1 ht rfl A.1).2
  rw [q]
  cases v <;> simp [Cond.value, e1, e2] at h
  rw [h]
theorem own_callP (X : Stand p l e R s m args below meth c T locs cells slots) (hx : p.tables.exec = Jvm.exec) (hZ : Z.Warmed39 s.vm) {own : String} {index nn : Nat} {y : MethodName} {bytes : ByteArray} {ml : Nat} {ret : Option FieldType} {rm : Room} {as : Array Value} {Q : Option Value → Heap → List Loc → Prop}
    (hown : s.vm.findClass own = some m.cls) (w1 : (Jvm.Cond.methodLink own index y).before a0 Z = true) (w2 : (Jvm.Cond.privateMethod y).before a0 Z = true) (w3 : (Jvm.Cond.instantiable y.cls nn).before a0 Z = true) (w4 : (Jvm.Cond.instanceMethod y).before a0 Z = true) (w5 : (Jvm.Cond.initialized y.cls).before a0 Z = true) (w6 : (Jvm.Cond.code y bytes ml ret).before a0 Z = true) (hy : y.cls ≠ "java/lang/invoke/MethodHandle" ∧ y.cls ≠ "java/lang/invoke/VarHandle")
    (hM : OMet l Z y bytes ml ret rm as h Q) (eT : T.heap = h) {b : Addr} (E : Exa Z h b y.cls) {pc : Nat} {Ls : Array Slot} {st : List Value} (hsz : Ls.size = c.maxLocals) {argsL rest : List Value} {sig : MethodDescriptor} (hp : parseMethodDescriptor y.desc = some sig) (hn : argsL.length = sig.parameters.length) (has : (.ref b :: argsL).toArray = as) (hst : st = argsL.reverse ++ .ref b :: rest)
    {W : Nat} (hW : (rest.map fun v => v.category).sum ≤ W) (hd : decode c.code pc = .ok (.invokevirtual index, 3)) (hf : rm.frames + 1 ≤ R.frames) (hl : W + (ml + 11) + rm.locals ≤ R.locals) (hc : cells + rm.cells ≤ R.cells) (hs : slots + rm.slots ≤ R.slots)
    (k : ∀ (v : Option Value) (T' : State) (L' : List Loc), Stand p l e R s m args below meth c T' (locs ++ L') (cells + rm.cells) (slots + rm.slots) → Q v T'.heap L' → OGoes p.tables e below Φ (T'.setTop (mkF m (pc + 3) Ls (v.toList ++ rest)))) : OGoes p.tables e below Φ (T.setTop (mkF m pc Ls st)) := by
  obtain ⟨cq, q, q'⟩ := E.cell
  have hp' := Cond.privateMethod_at (mvP hZ w2 (args := #[]))
  obtain ⟨c0, k0, i1, i2, -, i4, -⟩ := Cond.instantiable_spec (mvT (args := args) hZ w3)
  have hsel := selects_self_of_private i1 i2 (Bool.or_eq_false_iff.mp i4).1 hp' (mvT (args := args) hZ w4) hy
  obtain ⟨v, vm1, ⟨T', L, kk, nn⟩, -, X', ⟨Lc, hQ, l1, l2, l3⟩, st'⟩ := X.privateBack hx (y := y) hown (mvT hZ w1) (mvT hZ w4) hsel hp' (mvT hZ w6) hy (backOf (W := W) (hM []) hZ w6 w5 hf hl) (g := mkF m pc Ls st) rfl hsz (Steps.refl _) (a := b) (by rw [eT]; exact q) q' (argsL := argsL) (rest := rest) (fun sg h => by cases hp.symm.trans h; exact hn) hst (by show 2 * 0 + _ ≤ _; omega) hd (fun _ _ => ⟨has, eT, hc, hs⟩)
  dsimp only [Pt.U, Pt.locs, Pt.cells, Pt.slots] at X' l1 l2 l3 st' hQ
  subst l1 l2 l3
  exact own_tr st' (k v T' Lc X' hQ)
theorem own_callP0 (X : Stand p l e R s m args below meth c T locs cells slots) (hx : p.tables.exec = Jvm.exec) (hZ : Z.Warmed39 s.vm) {own : String} {index nn : Nat} {y : MethodName} {bytes : ByteArray} {ml : Nat} {ret : Option FieldType} {fr lo : Nat} {as : Array Value} {v : Option Value}
    (hown : s.vm.findClass own = some m.cls) (w1 : (Jvm.Cond.methodLink own index y).before a0 Z = true) (w2 : (Jvm.Cond.privateMethod y).before a0 Z = true) (w3 : (Jvm.Cond.instantiable y.cls nn).before a0 Z = true) (w4 : (Jvm.Cond.instanceMethod y).before a0 Z = true) (w5 : (Jvm.Cond.initialized y.cls).before a0 Z = true) (w6 : (Jvm.Cond.code y bytes ml ret).before a0 Z = true) (hy : y.cls ≠ "java/lang/invoke/MethodHandle" ∧ y.cls ≠ "java/lang/invoke/VarHandle")
    (hM : OPure l Z y bytes ml ret fr lo as h v) (eT : T.heap = h) {b : Addr} (E : Exa Z h b y.cls) {pc : Nat} {Ls : Array Slot} {st : List Value} (hsz : Ls.size = c.maxLocals) {argsL rest : List Value} {sig : MethodDescriptor} (hp : parseMethodDescriptor y.desc = some sig) (hn : argsL.length = sig.parameters.length) (has : (.ref b :: argsL).toArray = as) (hst : st = argsL.reverse ++ .ref b :: rest)
    {W : Nat} (hW : (rest.map fun v => v.category).sum ≤ W) (hd : decode c.code pc = .ok (.invokevirtual index, 3)) (hf : fr + 1 ≤ R.frames) (hl : W + (ml + 11) + lo ≤ R.locals) (hc : cells ≤ R.cells) (hs : slots ≤ R.slots)
    (k : ∀ (T' : State), Stand p l e R s m args below meth c T' locs cells slots → T'.heap = h → OGoes p.tables e below Φ (T'.setTop (mkF m (pc + 3) Ls (v.toList ++ rest)))) : OGoes p.tables e below Φ (T.setTop (mkF m pc Ls st)) := by
  refine own_callP X hx hZ hown w1 w2 w3 w4 w5 w6 hy hM eT E hsz hp hn has hst hW hd hf hl hc hs ?_
  rintro v' T' L' X' ⟨rfl, e', rfl⟩
  rw [List.append_nil] at X'
  exact k T' X' e'
theorem own_acopy (X : Stand p l e R s m args below meth c T locs cells slots) (hx : p.tables.exec = Jvm.exec) (hZ : Z.Warmed39 s.vm) (eT : T.heap = h) {own : String} {index : Nat} (hown : s.vm.findClass own = some m.cls) (w1 : (Jvm.Cond.methodLink own index Jvm.Stand.acN).before a0 Z = true) (w2 : (Jvm.Cond.native Jvm.Stand.acN).before a0 Z = true) (w3 : (Jvm.Cond.static Jvm.Stand.acN).before a0 Z = true) (w4 : (Jvm.Cond.initialized "java/lang/System").before a0 Z = true)
    {a b : Addr} {kc k' : ClassId} {ty : FieldType} {z z' sp dp nn : Int32} {vs vd us : List Value} {dv dd : Value} (A : Arv Z h a kc ty z vs dv) (B : Arv Z h b k' ty z' vd dd) (hty : refKind ty = false) (h1 : ¬ sp < 0) (h2 : ¬ dp < 0) (h3 : ¬ nn < 0) (h4 : sp.toNatClampNeg + nn.toNatClampNeg ≤ z.toNatClampNeg) (h5 : dp.toNatClampNeg + nn.toNatClampNeg ≤ z'.toNatClampNeg)
    (hus : us = (List.range nn.toNatClampNeg).map fun i => vs.getD (sp.toNatClampNeg + i) dv) (hl : dp.toNatClampNeg + nn.toNatClampNeg ≤ vd.length) {n0 : Nat} (N : Fr n0 locs) (ge : n0 ≤ b) {pc : Nat} {Ls : Array Slot} {rest : List Value} (hsz : Ls.size = c.maxLocals) (hd : decode c.code pc = .ok (.invokestatic index, 3)) (hf : 1 ≤ R.frames) {W : Nat} (hW : (rest.map fun v => v.category).sum ≤ W) (hlo : W + (nativeFrameWords "java/lang/System" "arraycopy" 5 + 11) ≤ R.locals)
    (kk : ∀ (T' : State) (h' : Heap) (L : List Loc), Stand p l e R s m args below meth c T' L cells slots → T'.heap = h' → Fr n0 L → Keep h h' [b] → Arv Z h' b k' ty z' (vd.take dp.toNatClampNeg ++ us ++ vd.drop (dp.toNatClampNeg + nn.toNatClampNeg)) dd → OGoes p.tables e below Φ (T'.setTop (mkF m (pc + 3) Ls rest))) : OGoes p.tables e below Φ (T.setTop (mkF m pc Ls (.int nn :: .int dp :: .ref b :: .int sp :: .ref a :: rest))) := by
  obtain ⟨T', h', L, X', e', N', K', A', st⟩ := cpA X hx hZ hown w1 w2 w3 w4 eT A B (Or.inl ⟨rfl, hty⟩) h1 h2 h3 h4 h5 hus hl N ge (g := mkF m pc Ls (.int nn :: .int dp :: .ref b :: .int sp :: .ref a :: rest)) rfl hsz rfl hd hf (W := W) (by show 2 * 0 + _ ≤ _; omega) hlo
  exact own_st st (kk T' h' L X' e' N' K' A')
end OwnKit
end Jvm.Pilot.@@N@@
namespace Jvm.Pilot.@@N@@
open Jvm Jvm.ClassFile Sem Op Lib Jvm.Free Jvm.Stand Jvm.LawKit Jvm.RoadKit Bundle Jvm.Pilot.@@N@@.Jvm.D
theorem pf_0 : plainFor x = true := by first | (refine plainFor_of_name ?_; simp [x, plainName, overriddenIn]; done) | decide +kernel
theorem pf_1 : plainFor (⟨"java/lang/Math", "min", "(II)I"⟩ : MethodName) = true := by first | (refine plainFor_of_name ?_; simp [plainName, overriddenIn]; done) | decide +kernel
theorem pf_2 : plainFor (⟨"com/example/hedgerow/hedgerow/maze/MoveStack", "<init>", "()V"⟩ : MethodName) = true := by first | (refine plainFor_of_name ?_; simp [plainName, overriddenIn]; done) | decide +kernel
theorem pf_4 : plainFor (⟨"com/example/hedgerow/hedgerow/maze/TwoBitList", "<init>", "()V"⟩ : MethodName) = true := by first | (refine plainFor_of_name ?_; simp [plainName, overriddenIn]; done) | decide +kernel
theorem pf_5 : plainFor (⟨"com/example/hedgerow/hedgerow/maze/MoveStack", "isEmpty", "()Z"⟩ : MethodName) = true := by first | (refine plainFor_of_name ?_; simp [plainName, overriddenIn]; done) | decide +kernel
theorem pf_6 : plainFor (⟨"com/example/hedgerow/hedgerow/maze/TwoBitList", "size", "()J"⟩ : MethodName) = true := by first | (refine plainFor_of_name ?_; simp [plainName, overriddenIn]; done) | decide +kernel
theorem pf_7 : plainFor (⟨"com/example/hedgerow/hedgerow/maze/MoveStack", "push", "(Lcom/example/hedgerow/hedgerow/maze/Direction;)V"⟩ : MethodName) = true := by first | (refine plainFor_of_name ?_; simp [plainName, overriddenIn]; done) | decide +kernel
theorem pf_8 : plainFor (⟨"java/lang/Enum", "ordinal", "()I"⟩ : MethodName) = true := by first | (refine plainFor_of_name ?_; simp [plainName, overriddenIn]; done) | decide +kernel
theorem pf_9 : plainFor (⟨"com/example/hedgerow/hedgerow/maze/TwoBitList", "add", "(I)V"⟩ : MethodName) = true := by first | (refine plainFor_of_name ?_; simp [plainName, overriddenIn]; done) | decide +kernel
theorem pf_10 : plainFor (⟨"com/example/hedgerow/hedgerow/maze/MoveStack", "pop", "()Lcom/example/hedgerow/hedgerow/maze/Direction;"⟩ : MethodName) = true := by first | (refine plainFor_of_name ?_; simp [plainName, overriddenIn]; done) | decide +kernel
theorem pf_11 : plainFor (⟨"com/example/hedgerow/hedgerow/maze/TwoBitList", "removeLast", "()I"⟩ : MethodName) = true := by first | (refine plainFor_of_name ?_; simp [plainName, overriddenIn]; done) | decide +kernel
theorem pd_0 : parseMethodDescriptor "()J" = some ⟨[], some .long⟩ := by decide +kernel
theorem pd_1 : parseMethodDescriptor "()V" = some ⟨[], none⟩ := by decide +kernel
theorem pd_2 : parseMethodDescriptor "()I" = some ⟨[], some .int⟩ := by decide +kernel
theorem pd_3 : parseMethodDescriptor "(I)V" = some ⟨[.int], none⟩ := by decide +kernel
theorem pd_4 : parseMethodDescriptor "()Z" = some ⟨[], some .boolean⟩ := by decide +kernel
theorem pd_5 : parseMethodDescriptor "(II)I" = some ⟨[.int, .int], some .int⟩ := by decide +kernel
theorem pd_6 : parseMethodDescriptor "(Lcom/example/hedgerow/hedgerow/maze/Direction;)V" = some ⟨[(.object "com/example/hedgerow/hedgerow/maze/Direction")], none⟩ := by decide +kernel
theorem pd_7 : parseMethodDescriptor "()Lcom/example/hedgerow/hedgerow/maze/Direction;" = some ⟨[], some (.object "com/example/hedgerow/hedgerow/maze/Direction")⟩ := by decide +kernel
theorem d1_0 : decode jdk_29_method_69_code 0 = .ok (.iload_n 0, 1) := by decide +kernel
theorem d1_1 : decode jdk_29_method_69_code 1 = .ok (.iload_n 1, 1) := by decide +kernel
theorem d1_2 : decode jdk_29_method_69_code 2 = .ok (.if_icmp .gt 7, 3) := by decide +kernel
theorem d1_5 : decode jdk_29_method_69_code 5 = .ok (.iload_n 0, 1) := by decide +kernel
theorem d1_6 : decode jdk_29_method_69_code 6 = .ok (.goto 4, 3) := by decide +kernel
theorem d1_9 : decode jdk_29_method_69_code 9 = .ok (.iload_n 1, 1) := by decide +kernel
theorem d1_10 : decode jdk_29_method_69_code 10 = .ok (.ireturn, 1) := by decide +kernel
theorem d2_0 : decode prog_24_method_1_code 0 = .ok (.aload_n 0, 1) := by decide +kernel
theorem d2_1 : decode prog_24_method_1_code 1 = .ok (.invokespecial 1, 3) := by decide +kernel
theorem d2_4 : decode prog_24_method_1_code 4 = .ok (.aload_n 0, 1) := by decide +kernel
theorem d2_5 : decode prog_24_method_1_code 5 = .ok (.new 7, 3) := by decide +kernel
theorem d2_8 : decode prog_24_method_1_code 8 = .ok (.dup, 1) := by decide +kernel
theorem d2_9 : decode prog_24_method_1_code 9 = .ok (.invokespecial 9, 3) := by decide +kernel
theorem d2_12 : decode prog_24_method_1_code 12 = .ok (.putfield 10, 3) := by decide +kernel
theorem d2_15 : decode prog_24_method_1_code 15 = .ok (.return_, 1) := by decide +kernel
theorem d4_0 : decode prog_26_method_1_code 0 = .ok (.aload_n 0, 1) := by decide +kernel
theorem d4_1 : decode prog_26_method_1_code 1 = .ok (.invokespecial 5, 3) := by decide +kernel
theorem d4_4 : decode prog_26_method_1_code 4 = .ok (.aload_n 0, 1) := by decide +kernel
theorem d4_5 : decode prog_26_method_1_code 5 = .ok (.iconst 1, 1) := by decide +kernel
theorem d4_6 : decode prog_26_method_1_code 6 = .ok (.anewarray 11, 3) := by decide +kernel
theorem d4_9 : decode prog_26_method_1_code 9 = .ok (.putfield 13, 3) := by decide +kernel
theorem d4_12 : decode prog_26_method_1_code 12 = .ok (.return_, 1) := by decide +kernel
theorem d5_0 : decode prog_24_method_4_code 0 = .ok (.aload_n 0, 1) := by decide +kernel
theorem d5_1 : decode prog_24_method_4_code 1 = .ok (.getfield 10, 3) := by decide +kernel
theorem d5_4 : decode prog_24_method_4_code 4 = .ok (.invokevirtual 44, 3) := by decide +kernel
theorem d5_7 : decode prog_24_method_4_code 7 = .ok (.lconst 0, 1) := by decide +kernel
theorem d5_8 : decode prog_24_method_4_code 8 = .ok (.lcmp, 1) := by decide +kernel
theorem d5_9 : decode prog_24_method_4_code 9 = .ok (.ifCond .ne 7, 3) := by decide +kernel
theorem d5_12 : decode prog_24_method_4_code 12 = .ok (.iconst 1, 1) := by decide +kernel
theorem d5_13 : decode prog_24_method_4_code 13 = .ok (.goto 4, 3) := by decide +kernel
theorem d5_16 : decode prog_24_method_4_code 16 = .ok (.iconst 0, 1) := by decide +kernel
theorem d5_17 : decode prog_24_method_4_code 17 = .ok (.ireturn, 1) := by decide +kernel
theorem d6_0 : decode prog_26_method_4_code 0 = .ok (.aload_n 0, 1) := by decide +kernel
theorem d6_1 : decode prog_26_method_4_code 1 = .ok (.getfield 26, 3) := by decide +kernel
theorem d6_4 : decode prog_26_method_4_code 4 = .ok (.lreturn, 1) := by decide +kernel
theorem d7_0 : decode prog_24_method_2_code 0 = .ok (.aload_n 0, 1) := by decide +kernel
theorem d7_1 : decode prog_24_method_2_code 1 = .ok (.getfield 10, 3) := by decide +kernel
theorem d7_4 : decode prog_24_method_2_code 4 = .ok (.aload_n 1, 1) := by decide +kernel
theorem d7_5 : decode prog_24_method_2_code 5 = .ok (.invokevirtual 16, 3) := by decide +kernel
theorem d7_8 : decode prog_24_method_2_code 8 = .ok (.invokevirtual 22, 3) := by decide +kernel
theorem d7_11 : decode prog_24_method_2_code 11 = .ok (.return_, 1) := by decide +kernel
theorem d8_0 : decode jdk_37_method_2_code 0 = .ok (.aload_n 0, 1) := by decide +kernel
theorem d8_1 : decode jdk_37_method_2_code 1 = .ok (.getfield 7, 3) := by decide +kernel
theorem d8_4 : decode jdk_37_method_2_code 4 = .ok (.ireturn, 1) := by decide +kernel
theorem d9_0 : decode prog_26_method_2_code 0 = .ok (.iload_n 1, 1) := by decide +kernel
theorem d9_1 : decode prog_26_method_2_code 1 = .ok (.bipush (-4), 2) := by decide +kernel
theorem d9_3 : decode prog_26_method_2_code 3 = .ok (.iand, 1) := by decide +kernel
theorem d9_4 : decode prog_26_method_2_code 4 = .ok (.ifCond .eq 17, 3) := by decide +kernel
theorem d9_21 : decode prog_26_method_2_code 21 = .ok (.aload_n 0, 1) := by decide +kernel
theorem d9_22 : decode prog_26_method_2_code 22 = .ok (.getfield 26, 3) := by decide +kernel
theorem d9_25 : decode prog_26_method_2_code 25 = .ok (.ldc2_w 30, 3) := by decide +kernel
theorem d9_28 : decode prog_26_method_2_code 28 = .ok (.ldiv, 1) := by decide +kernel
theorem d9_29 : decode prog_26_method_2_code 29 = .ok (.l2i, 1) := by decide +kernel
theorem d9_30 : decode prog_26_method_2_code 30 = .ok (.istore_n 2, 1) := by decide +kernel
theorem d9_31 : decode prog_26_method_2_code 31 = .ok (.iload_n 2, 1) := by decide +kernel
theorem d9_32 : decode prog_26_method_2_code 32 = .ok (.aload_n 0, 1) := by decide +kernel
theorem d9_33 : decode prog_26_method_2_code 33 = .ok (.getfield 32, 3) := by decide +kernel
theorem d9_36 : decode prog_26_method_2_code 36 = .ok (.if_icmp .ne 60, 3) := by decide +kernel
theorem d9_39 : decode prog_26_method_2_code 39 = .ok (.aload_n 0, 1) := by decide +kernel
theorem d9_40 : decode prog_26_method_2_code 40 = .ok (.getfield 32, 3) := by decide +kernel
theorem d9_43 : decode prog_26_method_2_code 43 = .ok (.aload_n 0, 1) := by decide +kernel
theorem d9_44 : decode prog_26_method_2_code 44 = .ok (.getfield 13, 3) := by decide +kernel
theorem d9_47 : decode prog_26_method_2_code 47 = .ok (.arraylength, 1) := by decide +kernel
theorem d9_48 : decode prog_26_method_2_code 48 = .ok (.if_icmp .ne 24, 3) := by decide +kernel
theorem d9_72 : decode prog_26_method_2_code 72 = .ok (.aload_n 0, 1) := by decide +kernel
theorem d9_73 : decode prog_26_method_2_code 73 = .ok (.getfield 13, 3) := by decide +kernel
theorem d9_76 : decode prog_26_method_2_code 76 = .ok (.aload_n 0, 1) := by decide +kernel
theorem d9_77 : decode prog_26_method_2_code 77 = .ok (.getfield 32, 3) := by decide +kernel
theorem d9_80 : decode prog_26_method_2_code 80 = .ok (.sipush 1024, 3) := by decide +kernel
theorem d9_83 : decode prog_26_method_2_code 83 = .ok (.newarray .long, 2) := by decide +kernel
theorem d9_85 : decode prog_26_method_2_code 85 = .ok (.aastore, 1) := by decide +kernel
theorem d9_86 : decode prog_26_method_2_code 86 = .ok (.aload_n 0, 1) := by decide +kernel
theorem d9_87 : decode prog_26_method_2_code 87 = .ok (.dup, 1) := by decide +kernel
theorem d9_88 : decode prog_26_method_2_code 88 = .ok (.getfield 32, 3) := by decide +kernel
theorem d9_91 : decode prog_26_method_2_code 91 = .ok (.iconst 1, 1) := by decide +kernel
theorem d9_92 : decode prog_26_method_2_code 92 = .ok (.iadd, 1) := by decide +kernel
theorem d9_93 : decode prog_26_method_2_code 93 = .ok (.putfield 32, 3) := by decide +kernel
theorem d9_96 : decode prog_26_method_2_code 96 = .ok (.aload_n 0, 1) := by decide +kernel
theorem d9_97 : decode prog_26_method_2_code 97 = .ok (.getfield 13, 3) := by decide +kernel
theorem d9_100 : decode prog_26_method_2_code 100 = .ok (.iload_n 2, 1) := by decide +kernel
theorem d9_101 : decode prog_26_method_2_code 101 = .ok (.aaload, 1) := by decide +kernel
theorem d9_102 : decode prog_26_method_2_code 102 = .ok (.astore_n 3, 1) := by decide +kernel
theorem d9_103 : decode prog_26_method_2_code 103 = .ok (.aload_n 0, 1) := by decide +kernel
theorem d9_104 : decode prog_26_method_2_code 104 = .ok (.getfield 26, 3) := by decide +kernel
theorem d9_107 : decode prog_26_method_2_code 107 = .ok (.ldc2_w 30, 3) := by decide +kernel
theorem d9_110 : decode prog_26_method_2_code 110 = .ok (.lrem, 1) := by decide +kernel
theorem d9_111 : decode prog_26_method_2_code 111 = .ok (.ldc2_w 43, 3) := by decide +kernel
theorem d9_114 : decode prog_26_method_2_code 114 = .ok (.ldiv, 1) := by decide +kernel
theorem d9_115 : decode prog_26_method_2_code 115 = .ok (.l2i, 1) := by decide +kernel
theorem d9_116 : decode prog_26_method_2_code 116 = .ok (.istore 4, 2) := by decide +kernel
theorem d9_118 : decode prog_26_method_2_code 118 = .ok (.aload_n 0, 1) := by decide +kernel
theorem d9_119 : decode prog_26_method_2_code 119 = .ok (.getfield 26, 3) := by decide +kernel
theorem d9_122 : decode prog_26_method_2_code 122 = .ok (.ldc2_w 43, 3) := by decide +kernel
theorem d9_125 : decode prog_26_method_2_code 125 = .ok (.lrem, 1) := by decide +kernel
theorem d9_126 : decode prog_26_method_2_code 126 = .ok (.l2i, 1) := by decide +kernel
theorem d9_127 : decode prog_26_method_2_code 127 = .ok (.iconst 2, 1) := by decide +kernel
theorem d9_128 : decode prog_26_method_2_code 128 = .ok (.imul, 1) := by decide +kernel
theorem d9_129 : decode prog_26_method_2_code 129 = .ok (.istore 5, 2) := by decide +kernel
theorem d9_131 : decode prog_26_method_2_code 131 = .ok (.aload_n 3, 1) := by decide +kernel
theorem d9_132 : decode prog_26_method_2_code 132 = .ok (.iload 4, 2) := by decide +kernel
theorem d9_134 : decode prog_26_method_2_code 134 = .ok (.aload_n 3, 1) := by decide +kernel
theorem d9_135 : decode prog_26_method_2_code 135 = .ok (.iload 4, 2) := by decide +kernel
theorem d9_137 : decode prog_26_method_2_code 137 = .ok (.laload, 1) := by decide +kernel
theorem d9_138 : decode prog_26_method_2_code 138 = .ok (.ldc2_w 45, 3) := by decide +kernel
theorem d9_141 : decode prog_26_method_2_code 141 = .ok (.iload 5, 2) := by decide +kernel
theorem d9_143 : decode prog_26_method_2_code 143 = .ok (.lshl, 1) := by decide +kernel
theorem d9_144 : decode prog_26_method_2_code 144 = .ok (.ldc2_w 47, 3) := by decide +kernel
theorem d9_147 : decode prog_26_method_2_code 147 = .ok (.lxor, 1) := by decide +kernel
theorem d9_148 : decode prog_26_method_2_code 148 = .ok (.land, 1) := by decide +kernel
theorem d9_149 : decode prog_26_method_2_code 149 = .ok (.iload_n 1, 1) := by decide +kernel
theorem d9_150 : decode prog_26_method_2_code 150 = .ok (.i2l, 1) := by decide +kernel
theorem d9_151 : decode prog_26_method_2_code 151 = .ok (.iload 5, 2) := by decide +kernel
theorem d9_153 : decode prog_26_method_2_code 153 = .ok (.lshl, 1) := by decide +kernel
theorem d9_154 : decode prog_26_method_2_code 154 = .ok (.lor, 1) := by decide +kernel
theorem d9_155 : decode prog_26_method_2_code 155 = .ok (.lastore, 1) := by decide +kernel
theorem d9_156 : decode prog_26_method_2_code 156 = .ok (.aload_n 0, 1) := by decide +kernel
theorem d9_157 : decode prog_26_method_2_code 157 = .ok (.dup, 1) := by decide +kernel
theorem d9_158 : decode prog_26_method_2_code 158 = .ok (.getfield 26, 3) := by decide +kernel
theorem d9_161 : decode prog_26_method_2_code 161 = .ok (.lconst 1, 1) := by decide +kernel
theorem d9_162 : decode prog_26_method_2_code 162 = .ok (.ladd, 1) := by decide +kernel
theorem d9_163 : decode prog_26_method_2_code 163 = .ok (.putfield 26, 3) := by decide +kernel
theorem d9_166 : decode prog_26_method_2_code 166 = .ok (.return_, 1) := by decide +kernel
theorem d10_0 : decode prog_24_method_3_code 0 = .ok (.aload_n 0, 1) := by decide +kernel
theorem d10_1 : decode prog_24_method_3_code 1 = .ok (.invokevirtual 26, 3) := by decide +kernel
theorem d10_4 : decode prog_24_method_3_code 4 = .ok (.ifCond .eq 13, 3) := by decide +kernel
theorem d10_17 : decode prog_24_method_3_code 17 = .ok (.getstatic 37, 3) := by decide +kernel
theorem d10_20 : decode prog_24_method_3_code 20 = .ok (.aload_n 0, 1) := by decide +kernel
theorem d10_21 : decode prog_24_method_3_code 21 = .ok (.getfield 10, 3) := by decide +kernel
theorem d10_24 : decode prog_24_method_3_code 24 = .ok (.invokevirtual 41, 3) := by decide +kernel
theorem d10_27 : decode prog_24_method_3_code 27 = .ok (.aaload, 1) := by decide +kernel
theorem d10_28 : decode prog_24_method_3_code 28 = .ok (.areturn, 1) := by decide +kernel
theorem d11_0 : decode prog_26_method_3_code 0 = .ok (.aload_n 0, 1) := by decide +kernel
theorem d11_1 : decode prog_26_method_3_code 1 = .ok (.getfield 26, 3) := by decide +kernel
theorem d11_4 : decode prog_26_method_3_code 4 = .ok (.lconst 0, 1) := by decide +kernel
theorem d11_5 : decode prog_26_method_3_code 5 = .ok (.lcmp, 1) := by decide +kernel
theorem d11_6 : decode prog_26_method_3_code 6 = .ok (.ifCond .ne 13, 3) := by decide +kernel
theorem d11_19 : decode prog_26_method_3_code 19 = .ok (.aload_n 0, 1) := by decide +kernel
theorem d11_20 : decode prog_26_method_3_code 20 = .ok (.dup, 1) := by decide +kernel
theorem d11_21 : decode prog_26_method_3_code 21 = .ok (.getfield 26, 3) := by decide +kernel
theorem d11_24 : decode prog_26_method_3_code 24 = .ok (.lconst 1, 1) := by decide +kernel
theorem d11_25 : decode prog_26_method_3_code 25 = .ok (.lsub, 1) := by decide +kernel
theorem d11_26 : decode prog_26_method_3_code 26 = .ok (.putfield 26, 3) := by decide +kernel
theorem d11_29 : decode prog_26_method_3_code 29 = .ok (.aload_n 0, 1) := by decide +kernel
theorem d11_30 : decode prog_26_method_3_code 30 = .ok (.getfield 13, 3) := by decide +kernel
theorem d11_33 : decode prog_26_method_3_code 33 = .ok (.aload_n 0, 1) := by decide +kernel
theorem d11_34 : decode prog_26_method_3_code 34 = .ok (.getfield 26, 3) := by decide +kernel
theorem d11_37 : decode prog_26_method_3_code 37 = .ok (.ldc2_w 30, 3) := by decide +kernel
theorem d11_40 : decode prog_26_method_3_code 40 = .ok (.ldiv, 1) := by decide +kernel
theorem d11_41 : decode prog_26_method_3_code 41 = .ok (.l2i, 1) := by decide +kernel
theorem d11_42 : decode prog_26_method_3_code 42 = .ok (.aaload, 1) := by decide +kernel
theorem d11_43 : decode prog_26_method_3_code 43 = .ok (.astore_n 1, 1) := by decide +kernel
theorem d11_44 : decode prog_26_method_3_code 44 = .ok (.aload_n 0, 1) := by decide +kernel
theorem d11_45 : decode prog_26_method_3_code 45 = .ok (.getfield 26, 3) := by decide +kernel
theorem d11_48 : decode prog_26_method_3_code 48 = .ok (.ldc2_w 43, 3) := by decide +kernel
theorem d11_51 : decode prog_26_method_3_code 51 = .ok (.lrem, 1) := by decide +kernel
theorem d11_52 : decode prog_26_method_3_code 52 = .ok (.l2i, 1) := by decide +kernel
theorem d11_53 : decode prog_26_method_3_code 53 = .ok (.iconst 2, 1) := by decide +kernel
theorem d11_54 : decode prog_26_method_3_code 54 = .ok (.imul, 1) := by decide +kernel
theorem d11_55 : decode prog_26_method_3_code 55 = .ok (.istore_n 2, 1) := by decide +kernel
theorem d11_56 : decode prog_26_method_3_code 56 = .ok (.aload_n 1, 1) := by decide +kernel
theorem d11_57 : decode prog_26_method_3_code 57 = .ok (.aload_n 0, 1) := by decide +kernel
theorem d11_58 : decode prog_26_method_3_code 58 = .ok (.getfield 26, 3) := by decide +kernel
theorem d11_61 : decode prog_26_method_3_code 61 = .ok (.ldc2_w 30, 3) := by decide +kernel
theorem d11_64 : decode prog_26_method_3_code 64 = .ok (.lrem, 1) := by decide +kernel
theorem d11_65 : decode prog_26_method_3_code 65 = .ok (.ldc2_w 43, 3) := by decide +kernel
theorem d11_68 : decode prog_26_method_3_code 68 = .ok (.ldiv, 1) := by decide +kernel
theorem d11_69 : decode prog_26_method_3_code 69 = .ok (.l2i, 1) := by decide +kernel
theorem d11_70 : decode prog_26_method_3_code 70 = .ok (.laload, 1) := by decide +kernel
theorem d11_71 : decode prog_26_method_3_code 71 = .ok (.iload_n 2, 1) := by decide +kernel
theorem d11_72 : decode prog_26_method_3_code 72 = .ok (.lushr, 1) := by decide +kernel
theorem d11_73 : decode prog_26_method_3_code 73 = .ok (.l2i, 1) := by decide +kernel
theorem d11_74 : decode prog_26_method_3_code 74 = .ok (.iconst 3, 1) := by decide +kernel
theorem d11_75 : decode prog_26_method_3_code 75 = .ok (.iand, 1) := by decide +kernel
theorem d11_76 : decode prog_26_method_3_code 76 = .ok (.ireturn, 1) := by decide +kernel
def own_sh (n : Int64) : Int32 := ((n - (n / (32 : Int64)) * (32 : Int64)).toInt32) * (2 : Int32)
def own_put (x n : Int64) (v : Int32) : Int64 := (x &&& (((3 : Int64) <<< (own_sh n &&& 0x3f).toInt64) ^^^ (-1 : Int64))) ||| ((v.toInt64) <<< (own_sh n &&& 0x3f).toInt64)
def own_get (x n : Int64) : Int32 := (((x.toUInt64 >>> (own_sh n &&& 0x3f).toInt64.toUInt64).toInt64).toInt32) &&& (3 : Int32)
theorem own_bits : ∀ a b c : Fin 4, own_get (own_put 0 0 (Int32.ofNat a)) 0 = Int32.ofNat a ∧ own_get (own_put (own_put 0 0 (Int32.ofNat a)) 1 (Int32.ofNat b)) 1 = Int32.ofNat b ∧ own_get (own_put (own_put 0 0 (Int32.ofNat a)) 1 (Int32.ofNat b)) 0 = Int32.ofNat a ∧ own_get (own_put (own_put (own_put 0 0 (Int32.ofNat a)) 1 (Int32.ofNat b)) 2 (Int32.ofNat c)) 2 = Int32.ofNat c ∧ own_get (own_put (own_put (own_put 0 0 (Int32.ofNat a)) 1 (Int32.ofNat b)) 2 (Int32.ofNat c)) 1 = Int32.ofNat b ∧ own_get (own_put (own_put (own_put 0 0 (Int32.ofNat a)) 1 (Int32.ofNat b)) 2 (Int32.ofNat c)) 0 = Int32.ofNat a := by decide +kernel
theorem own_four {i : Int32} (h0 : ¬ i < 0) (h : i < 4) : ∃ a : Fin 4, i = Int32.ofNat a := by
  rw [Int32.lt_iff_toInt_lt] at h0 h
  simp only [show (0 : Int32).toInt = 0 from rfl, show (4 : Int32).toInt = 4 from rfl] at h0 h
  refine ⟨⟨i.toInt.toNat, by omega⟩, ?_⟩
  rw [← Int32.toInt_inj, Int32.toInt_ofNat_of_lt (by show i.toInt.toNat < 2 ^ 31; omega)]
  show i.toInt = (i.toInt.toNat : Int)
  omega
theorem own_bits' {i0 i1 i2 : Int32} (h0 : ¬ i0 < 0 ∧ i0 < 4) (h1 : ¬ i1 < 0 ∧ i1 < 4) (h2 : ¬ i2 < 0 ∧ i2 < 4) : own_get (own_put 0 0 i0) 0 = i0 ∧ own_get (own_put (own_put 0 0 i0) 1 i1) 1 = i1 ∧ own_get (own_put (own_put 0 0 i0) 1 i1) 0 = i0 ∧ own_get (own_put (own_put (own_put 0 0 i0) 1 i1) 2 i2) 2 = i2 ∧ own_get (own_put (own_put (own_put 0 0 i0) 1 i1) 2 i2) 1 = i1 ∧ own_get (own_put (own_put (own_put 0 0 i0) 1 i1) 2 i2) 0 = i0 := by
  obtain ⟨a, rfl⟩ := own_four h0.1 h0.2
  obtain ⟨b, rfl⟩ := own_four h1.1 h1.2
  obtain ⟨c, rfl⟩ := own_four h2.1 h2.2
  exact own_bits a b c
theorem own_mask3 (x : Int32) : ¬ (x &&& 3) < 0 ∧ (x &&& 3) < 4 := by
  have h := c_and x 3 (by decide)
  rw [Int32.lt_iff_toInt_lt, Int32.lt_iff_toInt_lt]
  simp only [show (0 : Int32).toInt = 0 from rfl, show (4 : Int32).toInt = 4 from rfl, show (3 : Int32).toInt = 3 from rfl] at h ⊢
  omega
theorem own_clear {i : Int32} (h : ¬ i < 0 ∧ i < 4) : (i &&& (-4 : Int32)) = 0 := by
  obtain ⟨a, rfl⟩ := own_four h.1 h.2
  revert a
  decide +kernel
def own_dAt (wN wE wS wW : Nat) (i : Int32) : Addr := if i = 0 then wN else if i = 1 then wE else if i = 2 then wS else wW
theorem own_dAt_get {wN wE wS wW : Addr} {i : Int32} (h : ¬ i < 0 ∧ i < 4) : [Value.ref wN, .ref wE, .ref wS, .ref wW].getD i.toNatClampNeg .null = .ref (own_dAt wN wE wS wW i) := by
  obtain ⟨a, rfl⟩ := own_four h.1 h.2
  match a with
  | 0 => rfl
  | 1 => rfl
  | 2 => rfl
  | 3 => rfl
theorem own_dAt_fact {wN wE wS wW : Addr} {Pp : Addr → Int32 → Prop} (h0 : Pp wN 0) (h1 : Pp wE 1) (h2 : Pp wS 2) (h3 : Pp wW 3) {i : Int32} (h : ¬ i < 0 ∧ i < 4) : Pp (own_dAt wN wE wS wW i) i := by
  obtain ⟨a, rfl⟩ := own_four h.1 h.2
  match a with
  | 0 => exact h0
  | 1 => exact h1
  | 2 => exact h2
  | 3 => exact h3
def own_TB0 (Z : State) (h : Heap) (tb bl : Nat) (kb : ClassId) : Prop := Exa Z h tb "com/example/hedgerow/hedgerow/maze/TwoBitList" ∧ Fld Z h tb "com/example/hedgerow/hedgerow/maze/TwoBitList" "blocks" "[[J" (.ref bl) ∧ Fld Z h tb "com/example/hedgerow/hedgerow/maze/TwoBitList" "blockCount" "I" (.int 0) ∧ Fld Z h tb "com/example/hedgerow/hedgerow/maze/TwoBitList" "size" "J" (.long 0) ∧ Arv Z h bl kb (.array .long) 1 [.null] .null ∧ OvrA Z kb .long "[J"
def own_TB1 (Z : State) (h : Heap) (tb bl w : Nat) (kb kw : ClassId) (n x : Int64) : Prop := Exa Z h tb "com/example/hedgerow/hedgerow/maze/TwoBitList" ∧ Fld Z h tb "com/example/hedgerow/hedgerow/maze/TwoBitList" "blocks" "[[J" (.ref bl) ∧ Fld Z h tb "com/example/hedgerow/hedgerow/maze/TwoBitList" "blockCount" "I" (.int 1) ∧ Fld Z h tb "com/example/hedgerow/hedgerow/maze/TwoBitList" "size" "J" (.long n) ∧ Arv Z h bl kb (.array .long) 1 [.ref w] .null ∧ Arv Z h w kw .long 1024 [.long x] (.long 0)
theorem own_TB0.keep {Z : State} {h h' : Heap} {tb bl : Addr} {kb : ClassId} {ws : List Addr} (H : own_TB0 Z h tb bl kb) (K : Keep h h' ws) (q1 : tb ∉ ws) (q2 : bl ∉ ws) : own_TB0 Z h' tb bl kb :=
  ⟨H.1.keep K, H.2.1.keep K q1, H.2.2.1.keep K q1, H.2.2.2.1.keep K q1, H.2.2.2.2.1.keep K q2, H.2.2.2.2.2⟩
theorem ef_rmS (m : MethodId) (x0 : Nat) : entryFrame m #[(.ref x0)] 1 = mkF m 0 #[.val (.ref x0)] [] := by first | (simp [entryFrame, mkF, argsToLocals, Value.category]; done) | rfl
set_option maxRecDepth 65536 in
set_option maxHeartbeats 40000000 in
theorem rmS (l : Launch) (Z : State) (a0 : Array Value) (hw : ∀ d ∈ tables_1, d.before a0 Z = true) (tb : Nat) (n : Int64) (h0 : Heap) (Fs : Fld Z h0 tb "com/example/hedgerow/hedgerow/maze/TwoBitList" "size" "J" (.long n)) :
    OPure l Z (⟨"com/example/hedgerow/hedgerow/maze/TwoBitList", "size", "()J"⟩ : MethodName) prog_26_method_4_code 1 (some .long) 0 0 #[(.ref tb)] h0 (some (.long n)) := by
  refine own_body pf_6 ?_
  intro p e s m below meth c T0 X0 hx hby hml hZ hown hnm hret hlk e0
  replace hown : s.vm.findClass "com/example/hedgerow/hedgerow/maze/TwoBitList" = some m.cls := hown
  refine own_cast (ef_rmS m (tb)) ?_
  show OGoes p.tables e below _ (T0.setTop (mkF m 0 #[.val (.ref tb)] []))
  refine own_st (V := (T0.setTop (mkF m 1 #[.val (.ref tb)] [(.ref tb)]))) (fun t ks => XS.aloadN X0.here hx rfl (hb hby d6_0) rfl rfl ks) ?_
  refine own_getfield X0 hx hZ e0 hown (hw _ (List.mem_of_getElem? (i := 48) rfl)) Via.refl Fs (hb hby d6_1) ?_
  intro T1 X1 e1
  show OGoes p.tables e below _ (T1.setTop (mkF m 4 #[.val (.ref tb)] [(.long n)]))
  exact own_retJ X1 hx hlk hret (hb hby d6_4) (by decide) (by decide) ⟨rfl, e1, rfl⟩
theorem ef_rmE (m : MethodId) (x0 : Nat) : entryFrame m #[(.ref x0)] 1 = mkF m 0 #[.val (.ref x0)] [] := by first | (simp [entryFrame, mkF, argsToLocals, Value.category]; done) | rfl
set_option maxRecDepth 65536 in
set_option maxHeartbeats 40000000 in
theorem rmE (l : Launch) (Z : State) (a0 : Array Value) (hw : ∀ d ∈ tables_1, d.before a0 Z = true) (ms tb : Nat) (n : Int64) (r : Int32) (hr : (if n = 0 then (1 : Int32) else 0) = r) (h0 : Heap) (Fm : Fld Z h0 ms "com/example/hedgerow/hedgerow/maze/MoveStack" "moves" "Lcom/example/hedgerow/hedgerow/maze/TwoBitList;" (.ref tb)) (E : Exa Z h0 tb "com/example/hedgerow/hedgerow/maze/TwoBitList") (Fs : Fld Z h0 tb "com/example/hedgerow/hedgerow/maze/TwoBitList" "size" "J" (.long n)) :
    OPure l Z (⟨"com/example/hedgerow/hedgerow/maze/MoveStack", "isEmpty", "()Z"⟩ : MethodName) prog_24_method_4_code 1 (some .boolean) 1 12 #[(.ref ms)] h0 (some (.int r)) := by
  refine own_body pf_5 ?_
  intro p e s m below meth c T0 X0 hx hby hml hZ hown hnm hret hlk e0
  replace hown : s.vm.findClass "com/example/hedgerow/hedgerow/maze/MoveStack" = some m.cls := hown
  refine own_cast (ef_rmE m (ms)) ?_
  show OGoes p.tables e below _ (T0.setTop (mkF m 0 #[.val (.ref ms)] []))
  refine own_st (V := (T0.setTop (mkF m 1 #[.val (.ref ms)] [(.ref ms)]))) (fun t ks => XS.aloadN X0.here hx rfl (hb hby d5_0) rfl rfl ks) ?_
  refine own_getfield X0 hx hZ e0 hown (hw _ (List.mem_of_getElem? (i := 36) rfl)) Via.refl Fm (hb hby d5_1) ?_
  intro T2 X2 e2
  show OGoes p.tables e below _ (T2.setTop (mkF m 4 #[.val (.ref ms)] [(.ref tb)]))
  refine own_callV0 X2 hx hZ hown (hw _ (List.mem_of_getElem? (i := 43) rfl)) (hw _ (List.mem_of_getElem? (i := 44) rfl)) (hw _ (List.mem_of_getElem? (i := 46) rfl)) (hw _ (List.mem_of_getElem? (i := 45) rfl)) (hw _ (List.mem_of_getElem? (i := 27) rfl)) (hw _ (List.mem_of_getElem? (i := 47) rfl)) (by decide) (rmS l Z a0 hw tb n h0 Fs) e2 E (by rw [hml]; rfl) (argsL := []) (rest := []) pd_0 rfl rfl rfl (W := 0) (Nat.le_of_eq rfl) (hb hby d5_4) (by decide) (by decide) (by decide) (by decide) ?_
  intro T3 X3 e3
  show OGoes p.tables e below _ (T3.setTop (mkF m 7 #[.val (.ref ms)] [(.long n)]))
  refine own_st (V := (T3.setTop (mkF m 8 #[.val (.ref ms)] [(.long (0 : Int64)), (.long n)]))) (fun t ks => XS.lconst X3.here hx rfl (hb hby d5_7) ks) ?_
  refine own_st (V := (T3.setTop (mkF m 9 #[.val (.ref ms)] [(.int (lcmpW n (0 : Int64)))]))) (fun t ks => XS.lcmp X3.here hx rfl (hb hby d5_8) rfl ks) ?_
  by_cases g : n = (0 : Int64)
  · refine own_st (V := (T3.setTop (mkF m 12 #[.val (.ref ms)] []))) (fun t ks => XS.ifNo X3.here hx rfl (hb hby d5_9) rfl (XT.ll_ne_f g) ks) ?_
    refine own_st (V := (T3.setTop (mkF m 13 #[.val (.ref ms)] [(.int (1 : Int32))]))) (fun t ks => XS.iconst X3.here hx rfl (hb hby d5_12) ks) ?_
    refine own_st (V := (T3.setTop (mkF m 17 #[.val (.ref ms)] [(.int (1 : Int32))]))) (fun t ks => XS.goto X3.here hx rfl (pc0 := 13) (pc' := 17) rfl (hb hby d5_13) (by decide) (by decide) ks) ?_
    exact own_retN X3 hx hlk (by simp) hret (hb hby d5_17) (by decide) (by decide) ⟨by rw [← hr, if_pos g]; rfl, e3, rfl⟩
  · refine own_st (V := (T3.setTop (mkF m 16 #[.val (.ref ms)] []))) (fun t ks => XS.ifYes X3.here hx rfl (pc0 := 9) (pc' := 16) rfl (hb hby d5_9) rfl (XT.ll_ne_t g) (by decide) (by decide) ks) ?_
    refine own_st (V := (T3.setTop (mkF m 17 #[.val (.ref ms)] [(.int (0 : Int32))]))) (fun t ks => XS.iconst X3.here hx rfl (hb hby d5_16) ks) ?_
    exact own_retN X3 hx hlk (by simp) hret (hb hby d5_17) (by decide) (by decide) ⟨by rw [← hr, if_neg g]; rfl, e3, rfl⟩
theorem ef_rmO (m : MethodId) (x0 : Nat) : entryFrame m #[(.ref x0)] 1 = mkF m 0 #[.val (.ref x0)] [] := by first | (simp [entryFrame, mkF, argsToLocals, Value.category]; done) | rfl
set_option maxRecDepth 65536 in
set_option maxHeartbeats 40000000 in
theorem rmO (l : Launch) (Z : State) (a0 : Array Value) (hw : ∀ d ∈ tables_1, d.before a0 Z = true) (d : Nat) (o : Int32) (h0 : Heap) (Fo : Fld Z h0 d "java/lang/Enum" "ordinal" "I" (.int o)) :
    OPure l Z (⟨"java/lang/Enum", "ordinal", "()I"⟩ : MethodName) jdk_37_method_2_code 1 (some .int) 0 0 #[(.ref d)] h0 (some (.int o)) := by
  refine own_body pf_8 ?_
  intro p e s m below meth c T0 X0 hx hby hml hZ hown hnm hret hlk e0
  replace hown : s.vm.findClass "java/lang/Enum" = some m.cls := hown
  refine own_cast (ef_rmO m (d)) ?_
  show OGoes p.tables e below _ (T0.setTop (mkF m 0 #[.val (.ref d)] []))
  refine own_st (V := (T0.setTop (mkF m 1 #[.val (.ref d)] [(.ref d)]))) (fun t ks => XS.aloadN X0.here hx rfl (hb hby d8_0) rfl rfl ks) ?_
  refine own_getfield X0 hx hZ e0 hown (hw _ (List.mem_of_getElem? (i := 62) rfl)) Via.refl Fo (hb hby d8_1) ?_
  intro T4 X4 e4
  show OGoes p.tables e below _ (T4.setTop (mkF m 4 #[.val (.ref d)] [(.int o)]))
  exact own_retI X4 hx hlk hret (hb hby d8_4) (by decide) (by decide) ⟨rfl, e4, rfl⟩
theorem ef_rmI (m : MethodId) (x0 : Int32) (x1 : Int32) : entryFrame m #[(.int x0), (.int x1)] 2 = mkF m 0 #[.val (.int x0), .val (.int x1)] [] := by first | (simp [entryFrame, mkF, argsToLocals, Value.category]; done) | rfl
set_option maxRecDepth 65536 in
set_option maxHeartbeats 40000000 in
theorem rmI (l : Launch) (Z : State) (a0 : Array Value) (hw : ∀ d ∈ tables_1, d.before a0 Z = true) (x1 x2 : Int32) (h0 : Heap)  :
    OPure l Z (⟨"java/lang/Math", "min", "(II)I"⟩ : MethodName) jdk_29_method_69_code 2 (some .int) 0 0 #[(.int x1), (.int x2)] h0 (some (.int (if x2 < x1 then x2 else x1))) := by
  refine own_body pf_1 ?_
  intro p e s m below meth c T0 X0 hx hby hml hZ hown hnm hret hlk e0
  replace hown : s.vm.findClass "java/lang/Math" = some m.cls := hown
  refine own_cast (ef_rmI m (x1) (x2)) ?_
  show OGoes p.tables e below _ (T0.setTop (mkF m 0 #[.val (.int x1), .val (.int x2)] []))
  refine own_st (V := (T0.setTop (mkF m 1 #[.val (.int x1), .val (.int x2)] [(.int x1)]))) (fun t ks => XS.iloadN X0.here hx rfl (hb hby d1_0) rfl ks) ?_
  refine own_st (V := (T0.setTop (mkF m 2 #[.val (.int x1), .val (.int x2)] [(.int x2), (.int x1)]))) (fun t ks => XS.iloadN X0.here hx rfl (hb hby d1_1) rfl ks) ?_
  by_cases g : x2 < x1
  · refine own_st (V := (T0.setTop (mkF m 9 #[.val (.int x1), .val (.int x2)] []))) (fun t ks => XS.icmpYes X0.here hx rfl (pc0 := 2) (pc' := 9) rfl (hb hby d1_2) rfl (XT.ii_gt_t g) (by decide) (by decide) ks) ?_
    refine own_st (V := (T0.setTop (mkF m 10 #[.val (.int x1), .val (.int x2)] [(.int x2)]))) (fun t ks => XS.iloadN X0.here hx rfl (hb hby d1_9) rfl ks) ?_
    exact own_retI X0 hx hlk hret (hb hby d1_10) (by decide) (by decide) ⟨by rw [if_pos g], e0, rfl⟩
  · refine own_st (V := (T0.setTop (mkF m 5 #[.val (.int x1), .val (.int x2)] []))) (fun t ks => XS.icmpNo X0.here hx rfl (hb hby d1_2) rfl (XT.ii_gt_f g) ks) ?_
    refine own_st (V := (T0.setTop (mkF m 6 #[.val (.int x1), .val (.int x2)] [(.int x1)]))) (fun t ks => XS.iloadN X0.here hx rfl (hb hby d1_5) rfl ks) ?_
    refine own_st (V := (T0.setTop (mkF m 10 #[.val (.int x1), .val (.int x2)] [(.int x1)]))) (fun t ks => XS.goto X0.here hx rfl (pc0 := 6) (pc' := 10) rfl (hb hby d1_6) (by decide) (by decide) ks) ?_
    exact own_retI X0 hx hlk hret (hb hby d1_10) (by decide) (by decide) ⟨by rw [if_neg g], e0, rfl⟩
theorem ef_rmT (m : MethodId) (x0 : Nat) : entryFrame m #[(.ref x0)] 1 = mkF m 0 #[.val (.ref x0)] [] := by first | (simp [entryFrame, mkF, argsToLocals, Value.category]; done) | rfl
set_option maxRecDepth 65536 in
set_option maxHeartbeats 40000000 in
theorem rmT (l : Launch) (Z : State) (a0 : Array Value) (hw : ∀ d ∈ tables_1, d.before a0 Z = true) (tb : Nat) (h0 : Heap) (hO : Ext Z.heap h0) (E : Exa Z h0 tb "com/example/hedgerow/hedgerow/maze/TwoBitList") (Fb : Fld Z h0 tb "com/example/hedgerow/hedgerow/maze/TwoBitList" "blocks" "[[J" .null) (Fc : Fld Z h0 tb "com/example/hedgerow/hedgerow/maze/TwoBitList" "blockCount" "I" (.int 0)) (Fs : Fld Z h0 tb "com/example/hedgerow/hedgerow/maze/TwoBitList" "size" "J" (.long 0)) (ge : Z.heap.size ≤ tb) :
    OMet l Z (⟨"com/example/hedgerow/hedgerow/maze/TwoBitList", "<init>", "()V"⟩ : MethodName) prog_26_method_1_code 1 none ⟨1, 1, 1, 12⟩ #[(.ref tb)] h0 (fun v h L => v = none ∧ Fr Z.heap.size L ∧ Keep h0 h [tb] ∧ ∃ (bl : Nat) (kb : ClassId), h0.size ≤ bl ∧ own_TB0 Z h tb bl kb) := by
  refine own_body pf_4 ?_
  intro p e s m below meth c T0 X0 hx hby hml hZ hown hnm hret hlk e0
  replace hown : s.vm.findClass "com/example/hedgerow/hedgerow/maze/TwoBitList" = some m.cls := hown
  refine own_cast (ef_rmT m (tb)) ?_
  show OGoes p.tables e below _ (T0.setTop (mkF m 0 #[.val (.ref tb)] []))
  have K := Keep.refl h0 [tb]
  refine own_st (V := (T0.setTop (mkF m 1 #[.val (.ref tb)] [(.ref tb)]))) (fun t ks => XS.aloadN X0.here hx rfl (hb hby d4_0) rfl rfl ks) ?_
  obtain ⟨T5, X5, e5, st5⟩ := initO X0 hx hZ hown (hw _ (List.mem_of_getElem? (i := 31) rfl)) (hw _ (List.mem_of_getElem? (i := 23) rfl)) (hw _ (List.mem_of_getElem? (i := 24) rfl)) e0 (g := (mkF m 1 #[.val (.ref tb)] [(.ref tb)])) rfl (by rw [hml]; rfl) rfl (hb hby d4_1) (by decide) (W := 0) (by show 2 * 0 + _ ≤ _; exact Nat.le_of_eq rfl) (by decide)
  refine own_st (V := (T5.setTop (mkF m 4 #[.val (.ref tb)] []))) st5 ?_
  refine own_st (V := (T5.setTop (mkF m 5 #[.val (.ref tb)] [(.ref tb)]))) (fun t ks => XS.aloadN X5.here hx rfl (hb hby d4_4) rfl rfl ks) ?_
  refine own_st (V := (T5.setTop (mkF m 6 #[.val (.ref tb)] [(.int (1 : Int32)), (.ref tb)]))) (fun t ks => XS.iconst X5.here hx rfl (hb hby d4_5) ks) ?_
  have lt_Z := hO.1
  have lt_tb : @LT.lt Nat _ tb h0.size := E.lt
  refine own_anewarrayA X5 hx hZ e5 hown (ty := .long) rfl (hw _ (List.mem_of_getElem? (i := 32) rfl)) (hw _ (List.mem_of_getElem? (i := 33) rfl)) (by decide) (cap := 1) (by decide) (by decide) (by decide) (by decide) (hb hby d4_6) ?_
  intro T6 h6 k6 b6 X6 e6 Ex6 g6 A OA
  replace K := K.ext Ex6
  replace hO := own_ext_trans hO Ex6
  replace E := E.ext Ex6
  replace Fb := Fb.ext Ex6
  replace Fc := Fc.ext Ex6
  replace Fs := Fs.ext Ex6
  have ltn_6 : @LT.lt Nat _ b6 h6.size := A.lt
  show OGoes p.tables e below _ (T6.setTop (mkF m 9 #[.val (.ref tb)] [(.ref b6), (.ref tb)]))
  refine own_putfield X6 hx hZ e6 hown (hw _ (List.mem_of_getElem? (i := 34) rfl)) Fb E (Or.inl (hw _ (List.mem_of_getElem? (i := 35) rfl))) (hw _ (List.mem_of_getElem? (i := 26) rfl)) (ty := (.array (.array .long))) (by decide) rfl rfl (Fr.nil Z.heap.size) (by omega) (hb hby d4_9) ?_
  intro T7 h7 L7 X7 e7 N7 W7 Fn7
  replace K := K.wr W7 (Or.inl (by simp))
  replace hO := own_old_wr hO W7 (by omega)
  replace E := E.wr W7
  replace Fc := Fc.other W7 (Or.inr (slot_ne (Or.inl (hw _ (List.mem_of_getElem? (i := 71) rfl))) (Or.inl (hw _ (List.mem_of_getElem? (i := 35) rfl))) (by decide) (t := .int) (by decide) (t' := (.array (.array .long))) (by decide)))
  replace Fs := Fs.other W7 (Or.inr (slot_ne (Or.inl (hw _ (List.mem_of_getElem? (i := 49) rfl))) (Or.inl (hw _ (List.mem_of_getElem? (i := 35) rfl))) (by decide) (t := .long) (by decide) (t' := (.array (.array .long))) (by decide)))
  replace A := A.other W7 (own_ne (by omega))
  replace Fb := Fn7
  show OGoes p.tables e below _ (T7.setTop (mkF m 12 #[.val (.ref tb)] []))
  exact own_retV X7 hx hlk hret (hb hby d4_12) (by decide) (by decide) ⟨rfl, N7, by rw [e7]; exact K, b6, _, by omega, by rw [e7]; exact ⟨E, Fb, Fc, Fs, A.pad (pad_rep [] .null 1), OA⟩⟩
theorem ef_rmM (m : MethodId) (x0 : Nat) : entryFrame m #[(.ref x0)] 1 = mkF m 0 #[.val (.ref x0)] [] := by first | (simp [entryFrame, mkF, argsToLocals, Value.category]; done) | rfl
set_option maxRecDepth 65536 in
set_option maxHeartbeats 40000000 in
theorem rmM (l : Launch) (Z : State) (a0 : Array Value) (hw : ∀ d ∈ tables_1, d.before a0 Z = true) (ms : Nat) (h0 : Heap) (hO : Ext Z.heap h0) (E : Exa Z h0 ms "com/example/hedgerow/hedgerow/maze/MoveStack") (Fm : Fld Z h0 ms "com/example/hedgerow/hedgerow/maze/MoveStack" "moves" "Lcom/example/hedgerow/hedgerow/maze/TwoBitList;" .null) (ge : Z.heap.size ≤ ms) :
    OMet l Z (⟨"com/example/hedgerow/hedgerow/maze/MoveStack", "<init>", "()V"⟩ : MethodName) prog_24_method_1_code 1 none ⟨2, 2, 4, 26⟩ #[(.ref ms)] h0 (fun v h L => v = none ∧ Fr Z.heap.size L ∧ Keep h0 h [ms] ∧ ∃ (tb bl : Nat) (kb : ClassId), h0.size ≤ tb ∧ tb < bl ∧ Exa Z h ms "com/example/hedgerow/hedgerow/maze/MoveStack" ∧ Fld Z h ms "com/example/hedgerow/hedgerow/maze/MoveStack" "moves" "Lcom/example/hedgerow/hedgerow/maze/TwoBitList;" (.ref tb) ∧ own_TB0 Z h tb bl kb) := by
  refine own_body pf_2 ?_
  intro p e s m below meth c T0 X0 hx hby hml hZ hown hnm hret hlk e0
  replace hown : s.vm.findClass "com/example/hedgerow/hedgerow/maze/MoveStack" = some m.cls := hown
  refine own_cast (ef_rmM m (ms)) ?_
  show OGoes p.tables e below _ (T0.setTop (mkF m 0 #[.val (.ref ms)] []))
  have K := Keep.refl h0 [ms]
  refine own_st (V := (T0.setTop (mkF m 1 #[.val (.ref ms)] [(.ref ms)]))) (fun t ks => XS.aloadN X0.here hx rfl (hb hby d2_0) rfl rfl ks) ?_
  obtain ⟨T8, X8, e8, st8⟩ := initO X0 hx hZ hown (hw _ (List.mem_of_getElem? (i := 22) rfl)) (hw _ (List.mem_of_getElem? (i := 23) rfl)) (hw _ (List.mem_of_getElem? (i := 24) rfl)) e0 (g := (mkF m 1 #[.val (.ref ms)] [(.ref ms)])) rfl (by rw [hml]; rfl) rfl (hb hby d2_1) (by decide) (W := 0) (by show 2 * 0 + _ ≤ _; exact Nat.le_of_eq rfl) (by decide)
  refine own_st (V := (T8.setTop (mkF m 4 #[.val (.ref ms)] []))) st8 ?_
  refine own_st (V := (T8.setTop (mkF m 5 #[.val (.ref ms)] [(.ref ms)]))) (fun t ks => XS.aloadN X8.here hx rfl (hb hby d2_4) rfl rfl ks) ?_
  have lt_Z := hO.1
  have lt_ms : @LT.lt Nat _ ms h0.size := E.lt
  refine own_new X8 hx hZ e8 hown (hw _ (List.mem_of_getElem? (i := 25) rfl)) (hw _ (List.mem_of_getElem? (i := 26) rfl)) (hw _ (List.mem_of_getElem? (i := 27) rfl)) (by decide) (by decide) (hb hby d2_5) ?_
  intro T9 h9 b9 X9 e9 Ex9 g9 Et D9
  replace K := K.ext Ex9
  replace hO := own_ext_trans hO Ex9
  replace E := E.ext Ex9
  replace Fm := Fm.ext Ex9
  have ltn_9 : @LT.lt Nat _ b9 h9.size := Et.lt
  have t_blocks := D9 (Or.inl (hw _ (List.mem_of_getElem? (i := 35) rfl))) (ty := (.array (.array .long))) (by decide)
  have t_size := D9 (Or.inl (hw _ (List.mem_of_getElem? (i := 49) rfl))) (ty := .long) (by decide)
  have t_blockCount := D9 (Or.inl (hw _ (List.mem_of_getElem? (i := 71) rfl))) (ty := .int) (by decide)
  clear D9
  show OGoes p.tables e below _ (T9.setTop (mkF m 8 #[.val (.ref ms)] [(.ref b9), (.ref ms)]))
  refine own_st (V := (T9.setTop (mkF m 9 #[.val (.ref ms)] [(.ref b9), (.ref b9), (.ref ms)]))) (fun t ks => XS.dup X9.here hx rfl (hb hby d2_8) rfl rfl ks) ?_
  refine own_callN X9 hx hZ rfl hown (hw _ (List.mem_of_getElem? (i := 28) rfl)) (hw _ (List.mem_of_getElem? (i := 29) rfl)) (hw _ (List.mem_of_getElem? (i := 27) rfl)) (hw _ (List.mem_of_getElem? (i := 30) rfl)) (by decide) (rmT l Z a0 hw b9 h9 hO Et t_blocks t_blockCount t_size (by omega)) e9 (by rw [hml]; rfl) (argsL := []) (rest := [(.ref b9), (.ref ms)]) pd_1 rfl rfl rfl (W := 2) (Nat.le_of_eq rfl) (hb hby d2_9) (by decide) (by decide) (by decide) (by decide) ?_
  rintro v10 T10 L10 X10 ⟨rfl, N10, K10, bl, kb, hbl, Ht⟩
  replace N10 := Fr.app (Fr.nil Z.heap.size) N10
  show OGoes p.tables e below _ (T10.setTop (mkF m 12 #[.val (.ref ms)] [(.ref b9), (.ref ms)]))
  replace K := K.trans K10 (allS (Or.inr (by omega)) all0)
  replace hO := own_old_keep hO K10 (allS (by omega) all0)
  replace E := E.keep K10
  replace Fm := Fm.keep K10 (ninS (own_ne (by omega)) nin0)
  have lt_bl : @LT.lt Nat _ bl T10.heap.size := Ht.2.2.2.2.1.lt
  have lt_h := Ex9.1
  refine own_putfield X10 hx hZ rfl hown (hw _ (List.mem_of_getElem? (i := 36) rfl)) Fm E (Or.inr ⟨(hw _ (List.mem_of_getElem? (i := 37) rfl)), rfl, hnm⟩) (hw _ (List.mem_of_getElem? (i := 17) rfl)) (ty := (.object "com/example/hedgerow/hedgerow/maze/TwoBitList")) (by decide) rfl rfl N10 (by omega) (hb hby d2_12) ?_
  intro T11 h11 L11 X11 e11 N11 W11 Fn11
  replace K := K.wr W11 (Or.inl (by simp))
  replace hO := own_old_wr hO W11 (by omega)
  replace E := E.wr W11
  replace Fm := Fn11
  show OGoes p.tables e below _ (T11.setTop (mkF m 15 #[.val (.ref ms)] []))
  replace Ht := Ht.keep (Keep.of_wr W11) (ninS (own_ne (by omega)) nin0) (ninS (own_ne (by omega)) nin0)
  exact own_retV X11 hx hlk hret (hb hby d2_15) (by decide) (by decide) ⟨rfl, N11, by rw [e11]; exact K, b9, bl, kb, by omega, by omega, by rw [e11]; exact ⟨E, Fm, Ht⟩⟩
theorem ef_rmA0 (m : MethodId) (x0 : Nat) (x1 : Int32) : entryFrame m #[(.ref x0), (.int x1)] 6 = mkF m 0 #[.val (.ref x0), .val (.int x1), .unset, .unset, .unset, .unset] [] := by first | (simp [entryFrame, mkF, argsToLocals, Value.category]; done) | rfl
set_option maxRecDepth 65536 in
set_option maxHeartbeats 40000000 in
theorem rmA0 (l : Launch) (Z : State) (a0 : Array Value) (hw : ∀ d ∈ tables_1, d.before a0 Z = true) (tb bl : Nat) (kb : ClassId) (v1 : Int32) (hv : (v1 &&& (-4 : Int32)) = 0) (h0 : Heap) (hO : Ext Z.heap h0) (H : own_TB0 Z h0 tb bl kb) (ge : Z.heap.size ≤ tb) (hlt : tb < bl) :
    OMet l Z (⟨"com/example/hedgerow/hedgerow/maze/TwoBitList", "add", "(I)V"⟩ : MethodName) prog_26_method_2_code 6 none ⟨0, 1, 1024, 0⟩ #[(.ref tb), (.int v1)] h0 (fun v h L => v = none ∧ Fr Z.heap.size L ∧ Keep h0 h [tb, bl] ∧ ∃ (w : Nat) (kw : ClassId), h0.size ≤ w ∧ own_TB1 Z h tb bl w kb kw 1 (own_put 0 0 v1)) := by
  refine own_body pf_9 ?_
  intro p e s m below meth c T0 X0 hx hby hml hZ hown hnm hret hlk e0
  replace hown : s.vm.findClass "com/example/hedgerow/hedgerow/maze/TwoBitList" = some m.cls := hown
  refine own_cast (ef_rmA0 m (tb) (v1)) ?_
  show OGoes p.tables e below _ (T0.setTop (mkF m 0 #[.val (.ref tb), .val (.int v1), .unset, .unset, .unset, .unset] []))
  obtain ⟨E, Fb, Fc, Fs, A, OA⟩ := H
  have K := Keep.refl h0 [tb, bl]
  have hn1 : (0 : Int64) + 1 = 1 := by decide
  have hA1 : (((0 : Int64) / (32768 : Int64)).toInt32) = 0 := by decide
  have hA2 : ((((0 : Int64) - ((0 : Int64) / (32768 : Int64)) * (32768 : Int64)) / (32 : Int64)).toInt32) = 0 := by decide
  refine own_st (V := (T0.setTop (mkF m 1 #[.val (.ref tb), .val (.int v1), .unset, .unset, .unset, .unset] [(.int v1)]))) (fun t ks => XS.iloadN X0.here hx rfl (hb hby d9_0) rfl ks) ?_
  refine own_st (V := (T0.setTop (mkF m 3 #[.val (.ref tb), .val (.int v1), .unset, .unset, .unset, .unset] [(.int (-4 : Int32)), (.int v1)]))) (fun t ks => XS.bipush X0.here hx rfl (hb hby d9_1) ks) ?_
  refine own_st (V := (T0.setTop (mkF m 4 #[.val (.ref tb), .val (.int v1), .unset, .unset, .unset, .unset] [(.int (v1 &&& (-4 : Int32)))]))) (fun t ks => XS.iand X0.here hx rfl (hb hby d9_3) rfl ks) ?_
  refine own_st (V := (T0.setTop (mkF m 21 #[.val (.ref tb), .val (.int v1), .unset, .unset, .unset, .unset] []))) (fun t ks => XS.ifYes X0.here hx rfl (pc0 := 4) (pc' := 21) rfl (hb hby d9_4) rfl (XT.i0_eq_t hv) (by decide) (by decide) ks) ?_
  refine own_st (V := (T0.setTop (mkF m 22 #[.val (.ref tb), .val (.int v1), .unset, .unset, .unset, .unset] [(.ref tb)]))) (fun t ks => XS.aloadN X0.here hx rfl (hb hby d9_21) rfl rfl ks) ?_
  refine own_getfield X0 hx hZ e0 hown (hw _ (List.mem_of_getElem? (i := 48) rfl)) Via.refl Fs (hb hby d9_22) ?_
  intro T12 X12 e12
  show OGoes p.tables e below _ (T12.setTop (mkF m 25 #[.val (.ref tb), .val (.int v1), .unset, .unset, .unset, .unset] [(.long (0 : Int64))]))
  refine own_st (V := (T12.setTop (mkF m 28 #[.val (.ref tb), .val (.int v1), .unset, .unset, .unset, .unset] [(.long (32768 : Int64)), (.long (0 : Int64))]))) (fun t ks => X12.ldc2Long hx hown (mvT hZ (hw _ (List.mem_of_getElem? (i := 69) rfl))) (g := (mkF m 25 #[.val (.ref tb), .val (.int v1), .unset, .unset, .unset, .unset] [(.long (0 : Int64))])) rfl (hb hby d9_25) t ks) ?_
  refine own_st (V := (T12.setTop (mkF m 29 #[.val (.ref tb), .val (.int v1), .unset, .unset, .unset, .unset] [(.long ((0 : Int64) / (32768 : Int64)))]))) (fun t ks => XS.ldiv X12.here hx rfl (hb hby d9_28) rfl (by decide) ks) ?_
  refine own_st (V := (T12.setTop (mkF m 30 #[.val (.ref tb), .val (.int v1), .unset, .unset, .unset, .unset] [(.int (((0 : Int64) / (32768 : Int64)).toInt32))]))) (fun t ks => XS.l2i X12.here hx rfl (hb hby d9_29) rfl ks) ?_
  refine own_cast (g' := (mkF m 30 #[.val (.ref tb), .val (.int v1), .unset, .unset, .unset, .unset] [(.int (0 : Int32))])) (by rw [show (((0 : Int64) / (32768 : Int64)).toInt32) = (0 : Int32) from hA1]) ?_
  refine own_st (V := (T12.setTop (mkF m 31 #[.val (.ref tb), .val (.int v1), .val (.int (0 : Int32)), .unset, .unset, .unset] []))) (fun t ks => XS.istoreN X12.here hx rfl (hb hby d9_30) rfl (l' := #[.val (.ref tb), .val (.int v1), .val (.int (0 : Int32)), .unset, .unset, .unset]) rfl ks) ?_
  refine own_st (V := (T12.setTop (mkF m 32 #[.val (.ref tb), .val (.int v1), .val (.int (0 : Int32)), .unset, .unset, .unset] [(.int (0 : Int32))]))) (fun t ks => XS.iloadN X12.here hx rfl (hb hby d9_31) rfl ks) ?_
  refine own_st (V := (T12.setTop (mkF m 33 #[.val (.ref tb), .val (.int v1), .val (.int (0 : Int32)), .unset, .unset, .unset] [(.ref tb), (.int (0 : Int32))]))) (fun t ks => XS.aloadN X12.here hx rfl (hb hby d9_32) rfl rfl ks) ?_
  refine own_getfield X12 hx hZ e12 hown (hw _ (List.mem_of_getElem? (i := 70) rfl)) Via.refl Fc (hb hby d9_33) ?_
  intro T13 X13 e13
  show OGoes p.tables e below _ (T13.setTop (mkF m 36 #[.val (.ref tb), .val (.int v1), .val (.int (0 : Int32)), .unset, .unset, .unset] [(.int (0 : Int32)), (.int (0 : Int32))]))
  refine own_st (V := (T13.setTop (mkF m 39 #[.val (.ref tb), .val (.int v1), .val (.int (0 : Int32)), .unset, .unset, .unset] []))) (fun t ks => XS.icmpNo X13.here hx rfl (hb hby d9_36) rfl (XT.ii_ne_f rfl) ks) ?_
  refine own_st (V := (T13.setTop (mkF m 40 #[.val (.ref tb), .val (.int v1), .val (.int (0 : Int32)), .unset, .unset, .unset] [(.ref tb)]))) (fun t ks => XS.aloadN X13.here hx rfl (hb hby d9_39) rfl rfl ks) ?_
  refine own_getfield X13 hx hZ e13 hown (hw _ (List.mem_of_getElem? (i := 70) rfl)) Via.refl Fc (hb hby d9_40) ?_
  intro T14 X14 e14
  show OGoes p.tables e below _ (T14.setTop (mkF m 43 #[.val (.ref tb), .val (.int v1), .val (.int (0 : Int32)), .unset, .unset, .unset] [(.int (0 : Int32))]))
  refine own_st (V := (T14.setTop (mkF m 44 #[.val (.ref tb), .val (.int v1), .val (.int (0 : Int32)), .unset, .unset, .unset] [(.ref tb), (.int (0 : Int32))]))) (fun t ks => XS.aloadN X14.here hx rfl (hb hby d9_43) rfl rfl ks) ?_
  refine own_getfield X14 hx hZ e14 hown (hw _ (List.mem_of_getElem? (i := 34) rfl)) Via.refl Fb (hb hby d9_44) ?_
  intro T15 X15 e15
  show OGoes p.tables e below _ (T15.setTop (mkF m 47 #[.val (.ref tb), .val (.int v1), .val (.int (0 : Int32)), .unset, .unset, .unset] [(.ref bl), (.int (0 : Int32))]))
  refine own_alen X15 hx hZ e15 A (hb hby d9_47) ?_
  show OGoes p.tables e below _ (T15.setTop (mkF m 48 #[.val (.ref tb), .val (.int v1), .val (.int (0 : Int32)), .unset, .unset, .unset] [(.int (1 : Int32)), (.int (0 : Int32))]))
  refine own_st (V := (T15.setTop (mkF m 72 #[.val (.ref tb), .val (.int v1), .val (.int (0 : Int32)), .unset, .unset, .unset] []))) (fun t ks => XS.icmpYes X15.here hx rfl (pc0 := 48) (pc' := 72) rfl (hb hby d9_48) rfl (XT.ii_ne_t (by decide)) (by decide) (by decide) ks) ?_
  refine own_st (V := (T15.setTop (mkF m 73 #[.val (.ref tb), .val (.int v1), .val (.int (0 : Int32)), .unset, .unset, .unset] [(.ref tb)]))) (fun t ks => XS.aloadN X15.here hx rfl (hb hby d9_72) rfl rfl ks) ?_
  refine own_getfield X15 hx hZ e15 hown (hw _ (List.mem_of_getElem? (i := 34) rfl)) Via.refl Fb (hb hby d9_73) ?_
  intro T16 X16 e16
  show OGoes p.tables e below _ (T16.setTop (mkF m 76 #[.val (.ref tb), .val (.int v1), .val (.int (0 : Int32)), .unset, .unset, .unset] [(.ref bl)]))
  refine own_st (V := (T16.setTop (mkF m 77 #[.val (.ref tb), .val (.int v1), .val (.int (0 : Int32)), .unset, .unset, .unset] [(.ref tb), (.ref bl)]))) (fun t ks => XS.aloadN X16.here hx rfl (hb hby d9_76) rfl rfl ks) ?_
  refine own_getfield X16 hx hZ e16 hown (hw _ (List.mem_of_getElem? (i := 70) rfl)) Via.refl Fc (hb hby d9_77) ?_
  intro T17 X17 e17
  show OGoes p.tables e below _ (T17.setTop (mkF m 80 #[.val (.ref tb), .val (.int v1), .val (.int (0 : Int32)), .unset, .unset, .unset] [(.int (0 : Int32)), (.ref bl)]))
  refine own_st (V := (T17.setTop (mkF m 83 #[.val (.ref tb), .val (.int v1), .val (.int (0 : Int32)), .unset, .unset, .unset] [(.int (1024 : Int32)), (.int (0 : Int32)), (.ref bl)]))) (fun t ks => XS.sipush X17.here hx rfl (hb hby d9_80) ks) ?_
  have lt_Z := hO.1
  have lt_tb : @LT.lt Nat _ tb h0.size := E.lt
  have lt_bl : @LT.lt Nat _ bl h0.size := A.lt
  refine own_newarray X17 hx hZ e17 (hw _ (List.mem_of_getElem? (i := 72) rfl)) (by decide) (cap := 1024) (by decide) (by decide) (by decide) (by decide) (ad := "[J") rfl (hb hby d9_83) ?_
  intro T18 h18 k18 b18 X18 e18 Ex18 g18 Aw EAw
  replace K := K.ext Ex18
  replace hO := own_ext_trans hO Ex18
  replace E := E.ext Ex18
  replace Fb := Fb.ext Ex18
  replace Fc := Fc.ext Ex18
  replace Fs := Fs.ext Ex18
  replace A := A.ext Ex18
  have ltn_18 : @LT.lt Nat _ b18 h18.size := Aw.lt
  show OGoes p.tables e below _ (T18.setTop (mkF m 85 #[.val (.ref tb), .val (.int v1), .val (.int (0 : Int32)), .unset, .unset, .unset] [(.ref b18), (.int (0 : Int32)), (.ref bl)]))
  replace Aw : Arv Z h18 b18 _ .long 1024 [.long 0] (.long 0) := Aw.pad (pad_rep [] (.long 0) 1)
  refine own_aastore X18 hx hZ e18 A (by decide) (by decide) rfl (Nat.le_of_ble_eq_true rfl) rfl rfl (own_stoA A OA (Ins.self EAw)) (Fr.nil Z.heap.size) (by omega) (hb hby d9_85) ?_
  intro T19 h19 L19 X19 e19 N19 W19 An19
  replace K := K.wr W19 (Or.inl (by simp))
  replace hO := own_old_wr hO W19 (by omega)
  replace E := E.wr W19
  replace Fb := Fb.other W19 (Or.inl (own_ne (by omega)))
  replace Fc := Fc.other W19 (Or.inl (own_ne (by omega)))
  replace Fs := Fs.other W19 (Or.inl (own_ne (by omega)))
  replace Aw := Aw.other W19 (own_ne (by omega))
  replace EAw := EAw.wr W19
  replace A := An19
  show OGoes p.tables e below _ (T19.setTop (mkF m 86 #[.val (.ref tb), .val (.int v1), .val (.int (0 : Int32)), .unset, .unset, .unset] []))
  refine own_st (V := (T19.setTop (mkF m 87 #[.val (.ref tb), .val (.int v1), .val (.int (0 : Int32)), .unset, .unset, .unset] [(.ref tb)]))) (fun t ks => XS.aloadN X19.here hx rfl (hb hby d9_86) rfl rfl ks) ?_
  refine own_st (V := (T19.setTop (mkF m 88 #[.val (.ref tb), .val (.int v1), .val (.int (0 : Int32)), .unset, .unset, .unset] [(.ref tb), (.ref tb)]))) (fun t ks => XS.dup X19.here hx rfl (hb hby d9_87) rfl rfl ks) ?_
  refine own_getfield X19 hx hZ e19 hown (hw _ (List.mem_of_getElem? (i := 70) rfl)) Via.refl Fc (hb hby d9_88) ?_
  intro T20 X20 e20
  show OGoes p.tables e below _ (T20.setTop (mkF m 91 #[.val (.ref tb), .val (.int v1), .val (.int (0 : Int32)), .unset, .unset, .unset] [(.int (0 : Int32)), (.ref tb)]))
  refine own_st (V := (T20.setTop (mkF m 92 #[.val (.ref tb), .val (.int v1), .val (.int (0 : Int32)), .unset, .unset, .unset] [(.int (1 : Int32)), (.int (0 : Int32)), (.ref tb)]))) (fun t ks => XS.iconst X20.here hx rfl (hb hby d9_91) ks) ?_
  refine own_st (V := (T20.setTop (mkF m 93 #[.val (.ref tb), .val (.int v1), .val (.int (0 : Int32)), .unset, .unset, .unset] [(.int ((0 : Int32) + (1 : Int32))), (.ref tb)]))) (fun t ks => XS.iadd X20.here hx rfl (hb hby d9_92) rfl ks) ?_
  refine own_cast (g' := (mkF m 93 #[.val (.ref tb), .val (.int v1), .val (.int (0 : Int32)), .unset, .unset, .unset] [(.int (1 : Int32)), (.ref tb)])) (by rw [show ((0 : Int32) + (1 : Int32)) = (1 : Int32) from by decide]) ?_
  refine own_putfield X20 hx hZ e20 hown (hw _ (List.mem_of_getElem? (i := 70) rfl)) Fc E (Or.inl (hw _ (List.mem_of_getElem? (i := 71) rfl))) (hw _ (List.mem_of_getElem? (i := 26) rfl)) (ty := .int) (by decide) rfl rfl N19 (by omega) (hb hby d9_93) ?_
  intro T21 h21 L21 X21 e21 N21 W21 Fn21
  replace K := K.wr W21 (Or.inl (by simp))
  replace hO := own_old_wr hO W21 (by omega)
  replace E := E.wr W21
  replace Fb := Fb.other W21 (Or.inr (slot_ne (Or.inl (hw _ (List.mem_of_getElem? (i := 35) rfl))) (Or.inl (hw _ (List.mem_of_getElem? (i := 71) rfl))) (by decide) (t := (.array (.array .long))) (by decide) (t' := .int) (by decide)))
  replace Fs := Fs.other W21 (Or.inr (slot_ne (Or.inl (hw _ (List.mem_of_getElem? (i := 49) rfl))) (Or.inl (hw _ (List.mem_of_getElem? (i := 71) rfl))) (by decide) (t := .long) (by decide) (t' := .int) (by decide)))
  replace A := A.other W21 (own_ne (by omega))
  replace Aw := Aw.other W21 (own_ne (by omega))
  replace EAw := EAw.wr W21
  replace Fc := Fn21
  show OGoes p.tables e below _ (T21.setTop (mkF m 96 #[.val (.ref tb), .val (.int v1), .val (.int (0 : Int32)), .unset, .unset, .unset] []))
  refine own_st (V := (T21.setTop (mkF m 97 #[.val (.ref tb), .val (.int v1), .val (.int (0 : Int32)), .unset, .unset, .unset] [(.ref tb)]))) (fun t ks => XS.aloadN X21.here hx rfl (hb hby d9_96) rfl rfl ks) ?_
  refine own_getfield X21 hx hZ e21 hown (hw _ (List.mem_of_getElem? (i := 34) rfl)) Via.refl Fb (hb hby d9_97) ?_
  intro T22 X22 e22
  show OGoes p.tables e below _ (T22.setTop (mkF m 100 #[.val (.ref tb), .val (.int v1), .val (.int (0 : Int32)), .unset, .unset, .unset] [(.ref bl)]))
  refine own_st (V := (T22.setTop (mkF m 101 #[.val (.ref tb), .val (.int v1), .val (.int (0 : Int32)), .unset, .unset, .unset] [(.int (0 : Int32)), (.ref bl)]))) (fun t ks => XS.iloadN X22.here hx rfl (hb hby d9_100) rfl ks) ?_
  refine own_aaload X22 hx hZ e22 rfl A (v := (.ref b18)) (by decide) (by decide) rfl (hb hby d9_101) ?_
  show OGoes p.tables e below _ (T22.setTop (mkF m 102 #[.val (.ref tb), .val (.int v1), .val (.int (0 : Int32)), .unset, .unset, .unset] [(.ref b18)]))
  refine own_st (V := (T22.setTop (mkF m 103 #[.val (.ref tb), .val (.int v1), .val (.int (0 : Int32)), .val (.ref b18), .unset, .unset] []))) (fun t ks => XS.astoreN X22.here hx rfl (hb hby d9_102) rfl rfl (l' := #[.val (.ref tb), .val (.int v1), .val (.int (0 : Int32)), .val (.ref b18), .unset, .unset]) rfl ks) ?_
  refine own_st (V := (T22.setTop (mkF m 104 #[.val (.ref tb), .val (.int v1), .val (.int (0 : Int32)), .val (.ref b18), .unset, .unset] [(.ref tb)]))) (fun t ks => XS.aloadN X22.here hx rfl (hb hby d9_103) rfl rfl ks) ?_
  refine own_getfield X22 hx hZ e22 hown (hw _ (List.mem_of_getElem? (i := 48) rfl)) Via.refl Fs (hb hby d9_104) ?_
  intro T23 X23 e23
  show OGoes p.tables e below _ (T23.setTop (mkF m 107 #[.val (.ref tb), .val (.int v1), .val (.int (0 : Int32)), .val (.ref b18), .unset, .unset] [(.long (0 : Int64))]))
  refine own_st (V := (T23.setTop (mkF m 110 #[.val (.ref tb), .val (.int v1), .val (.int (0 : Int32)), .val (.ref b18), .unset, .unset] [(.long (32768 : Int64)), (.long (0 : Int64))]))) (fun t ks => X23.ldc2Long hx hown (mvT hZ (hw _ (List.mem_of_getElem? (i := 69) rfl))) (g := (mkF m 107 #[.val (.ref tb), .val (.int v1), .val (.int (0 : Int32)), .val (.ref b18), .unset, .unset] [(.long (0 : Int64))])) rfl (hb hby d9_107) t ks) ?_
  refine own_st (V := (T23.setTop (mkF m 111 #[.val (.ref tb), .val (.int v1), .val (.int (0 : Int32)), .val (.ref b18), .unset, .unset] [(.long ((0 : Int64) - ((0 : Int64) / (32768 : Int64)) * (32768 : Int64)))]))) (fun t ks => XS.lrem X23.here hx rfl (hb hby d9_110) rfl (by decide) ks) ?_
  refine own_st (V := (T23.setTop (mkF m 114 #[.val (.ref tb), .val (.int v1), .val (.int (0 : Int32)), .val (.ref b18), .unset, .unset] [(.long (32 : Int64)), (.long ((0 : Int64) - ((0 : Int64) / (32768 : Int64)) * (32768 : Int64)))]))) (fun t ks => X23.ldc2Long hx hown (mvT hZ (hw _ (List.mem_of_getElem? (i := 74) rfl))) (g := (mkF m 111 #[.val (.ref tb), .val (.int v1), .val (.int (0 : Int32)), .val (.ref b18), .unset, .unset] [(.long ((0 : Int64) - ((0 : Int64) / (32768 : Int64)) * (32768 : Int64)))])) rfl (hb hby d9_111) t ks) ?_
  refine own_st (V := (T23.setTop (mkF m 115 #[.val (.ref tb), .val (.int v1), .val (.int (0 : Int32)), .val (.ref b18), .unset, .unset] [(.long (((0 : Int64) - ((0 : Int64) / (32768 : Int64)) * (32768 : Int64)) / (32 : Int64)))]))) (fun t ks => XS.ldiv X23.here hx rfl (hb hby d9_114) rfl (by decide) ks) ?_
  refine own_st (V := (T23.setTop (mkF m 116 #[.val (.ref tb), .val (.int v1), .val (.int (0 : Int32)), .val (.ref b18), .unset, .unset] [(.int ((((0 : Int64) - ((0 : Int64) / (32768 : Int64)) * (32768 : Int64)) / (32 : Int64)).toInt32))]))) (fun t ks => XS.l2i X23.here hx rfl (hb hby d9_115) rfl ks) ?_
  refine own_cast (g' := (mkF m 116 #[.val (.ref tb), .val (.int v1), .val (.int (0 : Int32)), .val (.ref b18), .unset, .unset] [(.int (0 : Int32))])) (by rw [show ((((0 : Int64) - ((0 : Int64) / (32768 : Int64)) * (32768 : Int64)) / (32 : Int64)).toInt32) = (0 : Int32) from hA2]) ?_
  refine own_st (V := (T23.setTop (mkF m 118 #[.val (.ref tb), .val (.int v1), .val (.int (0 : Int32)), .val (.ref b18), .val (.int (0 : Int32)), .unset] []))) (fun t ks => XS.istore X23.here hx rfl (hb hby d9_116) rfl (l' := #[.val (.ref tb), .val (.int v1), .val (.int (0 : Int32)), .val (.ref b18), .val (.int (0 : Int32)), .unset]) rfl ks) ?_
  refine own_st (V := (T23.setTop (mkF m 119 #[.val (.ref tb), .val (.int v1), .val (.int (0 : Int32)), .val (.ref b18), .val (.int (0 : Int32)), .unset] [(.ref tb)]))) (fun t ks => XS.aloadN X23.here hx rfl (hb hby d9_118) rfl rfl ks) ?_
  refine own_getfield X23 hx hZ e23 hown (hw _ (List.mem_of_getElem? (i := 48) rfl)) Via.refl Fs (hb hby d9_119) ?_
  intro T24 X24 e24
  show OGoes p.tables e below _ (T24.setTop (mkF m 122 #[.val (.ref tb), .val (.int v1), .val (.int (0 : Int32)), .val (.ref b18), .val (.int (0 : Int32)), .unset] [(.long (0 : Int64))]))
  refine own_st (V := (T24.setTop (mkF m 125 #[.val (.ref tb), .val (.int v1), .val (.int (0 : Int32)), .val (.ref b18), .val (.int (0 : Int32)), .unset] [(.long (32 : Int64)), (.long (0 : Int64))]))) (fun t ks => X24.ldc2Long hx hown (mvT hZ (hw _ (List.mem_of_getElem? (i := 74) rfl))) (g := (mkF m 122 #[.val (.ref tb), .val (.int v1), .val (.int (0 : Int32)), .val (.ref b18), .val (.int (0 : Int32)), .unset] [(.long (0 : Int64))])) rfl (hb hby d9_122) t ks) ?_
  refine own_st (V := (T24.setTop (mkF m 126 #[.val (.ref tb), .val (.int v1), .val (.int (0 : Int32)), .val (.ref b18), .val (.int (0 : Int32)), .unset] [(.long ((0 : Int64) - ((0 : Int64) / (32 : Int64)) * (32 : Int64)))]))) (fun t ks => XS.lrem X24.here hx rfl (hb hby d9_125) rfl (by decide) ks) ?_
  refine own_st (V := (T24.setTop (mkF m 127 #[.val (.ref tb), .val (.int v1), .val (.int (0 : Int32)), .val (.ref b18), .val (.int (0 : Int32)), .unset] [(.int (((0 : Int64) - ((0 : Int64) / (32 : Int64)) * (32 : Int64)).toInt32))]))) (fun t ks => XS.l2i X24.here hx rfl (hb hby d9_126) rfl ks) ?_
  refine own_st (V := (T24.setTop (mkF m 128 #[.val (.ref tb), .val (.int v1), .val (.int (0 : Int32)), .val (.ref b18), .val (.int (0 : Int32)), .unset] [(.int (2 : Int32)), (.int (((0 : Int64) - ((0 : Int64) / (32 : Int64)) * (32 : Int64)).toInt32))]))) (fun t ks => XS.iconst X24.here hx rfl (hb hby d9_127) ks) ?_
  refine own_st (V := (T24.setTop (mkF m 129 #[.val (.ref tb), .val (.int v1), .val (.int (0 : Int32)), .val (.ref b18), .val (.int (0 : Int32)), .unset] [(.int ((((0 : Int64) - ((0 : Int64) / (32 : Int64)) * (32 : Int64)).toInt32) * (2 : Int32)))]))) (fun t ks => XS.imul X24.here hx rfl (hb hby d9_128) rfl ks) ?_
  refine own_st (V := (T24.setTop (mkF m 131 #[.val (.ref tb), .val (.int v1), .val (.int (0 : Int32)), .val (.ref b18), .val (.int (0 : Int32)), .val (.int ((((0 : Int64) - ((0 : Int64) / (32 : Int64)) * (32 : Int64)).toInt32) * (2 : Int32)))] []))) (fun t ks => XS.istore X24.here hx rfl (hb hby d9_129) rfl (l' := #[.val (.ref tb), .val (.int v1), .val (.int (0 : Int32)), .val (.ref b18), .val (.int (0 : Int32)), .val (.int ((((0 : Int64) - ((0 : Int64) / (32 : Int64)) * (32 : Int64)).toInt32) * (2 : Int32)))]) rfl ks) ?_
  refine own_cast (g' := (mkF m 131 #[.val (.ref tb), .val (.int v1), .val (.int (0 : Int32)), .val (.ref b18), .val (.int (0 : Int32)), .val (.int (own_sh (0 : Int64)))] [])) (by rw [show ((((0 : Int64) - ((0 : Int64) / (32 : Int64)) * (32 : Int64)).toInt32) * (2 : Int32)) = (own_sh (0 : Int64)) from rfl]) ?_
  refine own_st (V := (T24.setTop (mkF m 132 #[.val (.ref tb), .val (.int v1), .val (.int (0 : Int32)), .val (.ref b18), .val (.int (0 : Int32)), .val (.int (own_sh (0 : Int64)))] [(.ref b18)]))) (fun t ks => XS.aloadN X24.here hx rfl (hb hby d9_131) rfl rfl ks) ?_
  refine own_st (V := (T24.setTop (mkF m 134 #[.val (.ref tb), .val (.int v1), .val (.int (0 : Int32)), .val (.ref b18), .val (.int (0 : Int32)), .val (.int (own_sh (0 : Int64)))] [(.int (0 : Int32)), (.ref b18)]))) (fun t ks => XS.iload X24.here hx rfl (hb hby d9_132) rfl ks) ?_
  refine own_st (V := (T24.setTop (mkF m 135 #[.val (.ref tb), .val (.int v1), .val (.int (0 : Int32)), .val (.ref b18), .val (.int (0 : Int32)), .val (.int (own_sh (0 : Int64)))] [(.ref b18), (.int (0 : Int32)), (.ref b18)]))) (fun t ks => XS.aloadN X24.here hx rfl (hb hby d9_134) rfl rfl ks) ?_
  refine own_st (V := (T24.setTop (mkF m 137 #[.val (.ref tb), .val (.int v1), .val (.int (0 : Int32)), .val (.ref b18), .val (.int (0 : Int32)), .val (.int (own_sh (0 : Int64)))] [(.int (0 : Int32)), (.ref b18), (.int (0 : Int32)), (.ref b18)]))) (fun t ks => XS.iload X24.here hx rfl (hb hby d9_135) rfl ks) ?_
  refine own_laload X24 hx hZ e24 Aw (v := (.long (0 : Int64))) (by decide) (by decide) rfl (hb hby d9_137) ?_
  show OGoes p.tables e below _ (T24.setTop (mkF m 138 #[.val (.ref tb), .val (.int v1), .val (.int (0 : Int32)), .val (.ref b18), .val (.int (0 : Int32)), .val (.int (own_sh (0 : Int64)))] [(.long (0 : Int64)), (.int (0 : Int32)), (.ref b18)]))
  refine own_st (V := (T24.setTop (mkF m 141 #[.val (.ref tb), .val (.int v1), .val (.int (0 : Int32)), .val (.ref b18), .val (.int (0 : Int32)), .val (.int (own_sh (0 : Int64)))] [(.long (3 : Int64)), (.long (0 : Int64)), (.int (0 : Int32)), (.ref b18)]))) (fun t ks => X24.ldc2Long hx hown (mvT hZ (hw _ (List.mem_of_getElem? (i := 75) rfl))) (g := (mkF m 138 #[.val (.ref tb), .val (.int v1), .val (.int (0 : Int32)), .val (.ref b18), .val (.int (0 : Int32)), .val (.int (own_sh (0 : Int64)))] [(.long (0 : Int64)), (.int (0 : Int32)), (.ref b18)])) rfl (hb hby d9_138) t ks) ?_
  refine own_st (V := (T24.setTop (mkF m 143 #[.val (.ref tb), .val (.int v1), .val (.int (0 : Int32)), .val (.ref b18), .val (.int (0 : Int32)), .val (.int (own_sh (0 : Int64)))] [(.int (own_sh (0 : Int64))), (.long (3 : Int64)), (.long (0 : Int64)), (.int (0 : Int32)), (.ref b18)]))) (fun t ks => XS.iload X24.here hx rfl (hb hby d9_141) rfl ks) ?_
  refine own_st (V := (T24.setTop (mkF m 144 #[.val (.ref tb), .val (.int v1), .val (.int (0 : Int32)), .val (.ref b18), .val (.int (0 : Int32)), .val (.int (own_sh (0 : Int64)))] [(.long ((3 : Int64) <<< ((own_sh (0 : Int64)) &&& 0x3f).toInt64)), (.long (0 : Int64)), (.int (0 : Int32)), (.ref b18)]))) (fun t ks => XS.lshl X24.here hx rfl (hb hby d9_143) rfl ks) ?_
  refine own_st (V := (T24.setTop (mkF m 147 #[.val (.ref tb), .val (.int v1), .val (.int (0 : Int32)), .val (.ref b18), .val (.int (0 : Int32)), .val (.int (own_sh (0 : Int64)))] [(.long (-1 : Int64)), (.long ((3 : Int64) <<< ((own_sh (0 : Int64)) &&& 0x3f).toInt64)), (.long (0 : Int64)), (.int (0 : Int32)), (.ref b18)]))) (fun t ks => X24.ldc2Long hx hown (mvT hZ (hw _ (List.mem_of_getElem? (i := 76) rfl))) (g := (mkF m 144 #[.val (.ref tb), .val (.int v1), .val (.int (0 : Int32)), .val (.ref b18), .val (.int (0 : Int32)), .val (.int (own_sh (0 : Int64)))] [(.long ((3 : Int64) <<< ((own_sh (0 : Int64)) &&& 0x3f).toInt64)), (.long (0 : Int64)), (.int (0 : Int32)), (.ref b18)])) rfl (hb hby d9_144) t ks) ?_
  refine own_st (V := (T24.setTop (mkF m 148 #[.val (.ref tb), .val (.int v1), .val (.int (0 : Int32)), .val (.ref b18), .val (.int (0 : Int32)), .val (.int (own_sh (0 : Int64)))] [(.long (((3 : Int64) <<< ((own_sh (0 : Int64)) &&& 0x3f).toInt64) ^^^ (-1 : Int64))), (.long (0 : Int64)), (.int (0 : Int32)), (.ref b18)]))) (fun t ks => XS.lxor X24.here hx rfl (hb hby d9_147) rfl ks) ?_
  refine own_st (V := (T24.setTop (mkF m 149 #[.val (.ref tb), .val (.int v1), .val (.int (0 : Int32)), .val (.ref b18), .val (.int (0 : Int32)), .val (.int (own_sh (0 : Int64)))] [(.long ((0 : Int64) &&& (((3 : Int64) <<< ((own_sh (0 : Int64)) &&& 0x3f).toInt64) ^^^ (-1 : Int64)))), (.int (0 : Int32)), (.ref b18)]))) (fun t ks => XS.land X24.here hx rfl (hb hby d9_148) rfl ks) ?_
  refine own_st (V := (T24.setTop (mkF m 150 #[.val (.ref tb), .val (.int v1), .val (.int (0 : Int32)), .val (.ref b18), .val (.int (0 : Int32)), .val (.int (own_sh (0 : Int64)))] [(.int v1), (.long ((0 : Int64) &&& (((3 : Int64) <<< ((own_sh (0 : Int64)) &&& 0x3f).toInt64) ^^^ (-1 : Int64)))), (.int (0 : Int32)), (.ref b18)]))) (fun t ks => XS.iloadN X24.here hx rfl (hb hby d9_149) rfl ks) ?_
  refine own_st (V := (T24.setTop (mkF m 151 #[.val (.ref tb), .val (.int v1), .val (.int (0 : Int32)), .val (.ref b18), .val (.int (0 : Int32)), .val (.int (own_sh (0 : Int64)))] [(.long (v1.toInt64)), (.long ((0 : Int64) &&& (((3 : Int64) <<< ((own_sh (0 : Int64)) &&& 0x3f).toInt64) ^^^ (-1 : Int64)))), (.int (0 : Int32)), (.ref b18)]))) (fun t ks => XS.i2l X24.here hx rfl (hb hby d9_150) rfl ks) ?_
  refine own_st (V := (T24.setTop (mkF m 153 #[.val (.ref tb), .val (.int v1), .val (.int (0 : Int32)), .val (.ref b18), .val (.int (0 : Int32)), .val (.int (own_sh (0 : Int64)))] [(.int (own_sh (0 : Int64))), (.long (v1.toInt64)), (.long ((0 : Int64) &&& (((3 : Int64) <<< ((own_sh (0 : Int64)) &&& 0x3f).toInt64) ^^^ (-1 : Int64)))), (.int (0 : Int32)), (.ref b18)]))) (fun t ks => XS.iload X24.here hx rfl (hb hby d9_151) rfl ks) ?_
  refine own_st (V := (T24.setTop (mkF m 154 #[.val (.ref tb), .val (.int v1), .val (.int (0 : Int32)), .val (.ref b18), .val (.int (0 : Int32)), .val (.int (own_sh (0 : Int64)))] [(.long ((v1.toInt64) <<< ((own_sh (0 : Int64)) &&& 0x3f).toInt64)), (.long ((0 : Int64) &&& (((3 : Int64) <<< ((own_sh (0 : Int64)) &&& 0x3f).toInt64) ^^^ (-1 : Int64)))), (.int (0 : Int32)), (.ref b18)]))) (fun t ks => XS.lshl X24.here hx rfl (hb hby d9_153) rfl ks) ?_
  refine own_st (V := (T24.setTop (mkF m 155 #[.val (.ref tb), .val (.int v1), .val (.int (0 : Int32)), .val (.ref b18), .val (.int (0 : Int32)), .val (.int (own_sh (0 : Int64)))] [(.long (((0 : Int64) &&& (((3 : Int64) <<< ((own_sh (0 : Int64)) &&& 0x3f).toInt64) ^^^ (-1 : Int64))) ||| ((v1.toInt64) <<< ((own_sh (0 : Int64)) &&& 0x3f).toInt64))), (.int (0 : Int32)), (.ref b18)]))) (fun t ks => XS.lor X24.here hx rfl (hb hby d9_154) rfl ks) ?_
  refine own_lastore X24 hx hZ e24 Aw (by decide) (by decide) rfl (Nat.le_of_ble_eq_true rfl) N21 (by omega) (hb hby d9_155) ?_
  intro T25 h25 L25 X25 e25 N25 W25 An25
  replace K := K.wr W25 (Or.inr (by omega))
  replace hO := own_old_wr hO W25 (by omega)
  replace E := E.wr W25
  replace Fb := Fb.other W25 (Or.inl (own_ne (by omega)))
  replace Fs := Fs.other W25 (Or.inl (own_ne (by omega)))
  replace A := A.other W25 (own_ne (by omega))
  replace EAw := EAw.wr W25
  replace Fc := Fc.other W25 (Or.inl (own_ne (by omega)))
  replace Aw := An25
  show OGoes p.tables e below _ (T25.setTop (mkF m 156 #[.val (.ref tb), .val (.int v1), .val (.int (0 : Int32)), .val (.ref b18), .val (.int (0 : Int32)), .val (.int (own_sh (0 : Int64)))] []))
  refine own_st (V := (T25.setTop (mkF m 157 #[.val (.ref tb), .val (.int v1), .val (.int (0 : Int32)), .val (.ref b18), .val (.int (0 : Int32)), .val (.int (own_sh (0 : Int64)))] [(.ref tb)]))) (fun t ks => XS.aloadN X25.here hx rfl (hb hby d9_156) rfl rfl ks) ?_
  refine own_st (V := (T25.setTop (mkF m 158 #[.val (.ref tb), .val (.int v1), .val (.int (0 : Int32)), .val (.ref b18), .val (.int (0 : Int32)), .val (.int (own_sh (0 : Int64)))] [(.ref tb), (.ref tb)]))) (fun t ks => XS.dup X25.here hx rfl (hb hby d9_157) rfl rfl ks) ?_
  refine own_getfield X25 hx hZ e25 hown (hw _ (List.mem_of_getElem? (i := 48) rfl)) Via.refl Fs (hb hby d9_158) ?_
  intro T26 X26 e26
  show OGoes p.tables e below _ (T26.setTop (mkF m 161 #[.val (.ref tb), .val (.int v1), .val (.int (0 : Int32)), .val (.ref b18), .val (.int (0 : Int32)), .val (.int (own_sh (0 : Int64)))] [(.long (0 : Int64)), (.ref tb)]))
  refine own_st (V := (T26.setTop (mkF m 162 #[.val (.ref tb), .val (.int v1), .val (.int (0 : Int32)), .val (.ref b18), .val (.int (0 : Int32)), .val (.int (own_sh (0 : Int64)))] [(.long (1 : Int64)), (.long (0 : Int64)), (.ref tb)]))) (fun t ks => XS.lconst X26.here hx rfl (hb hby d9_161) ks) ?_
  refine own_st (V := (T26.setTop (mkF m 163 #[.val (.ref tb), .val (.int v1), .val (.int (0 : Int32)), .val (.ref b18), .val (.int (0 : Int32)), .val (.int (own_sh (0 : Int64)))] [(.long ((0 : Int64) + (1 : Int64))), (.ref tb)]))) (fun t ks => XS.ladd X26.here hx rfl (hb hby d9_162) rfl ks) ?_
  refine own_cast (g' := (mkF m 163 #[.val (.ref tb), .val (.int v1), .val (.int (0 : Int32)), .val (.ref b18), .val (.int (0 : Int32)), .val (.int (own_sh (0 : Int64)))] [(.long (1 : Int64)), (.ref tb)])) (by rw [show ((0 : Int64) + (1 : Int64)) = (1 : Int64) from hn1]) ?_
  refine own_putfield X26 hx hZ e26 hown (hw _ (List.mem_of_getElem? (i := 48) rfl)) Fs E (Or.inl (hw _ (List.mem_of_getElem? (i := 49) rfl))) (hw _ (List.mem_of_getElem? (i := 26) rfl)) (ty := .long) (by decide) rfl rfl N25 (by omega) (hb hby d9_163) ?_
  intro T27 h27 L27 X27 e27 N27 W27 Fn27
  replace K := K.wr W27 (Or.inl (by simp))
  replace hO := own_old_wr hO W27 (by omega)
  replace E := E.wr W27
  replace Fb := Fb.other W27 (Or.inr (slot_ne (Or.inl (hw _ (List.mem_of_getElem? (i := 35) rfl))) (Or.inl (hw _ (List.mem_of_getElem? (i := 49) rfl))) (by decide) (t := (.array (.array .long))) (by decide) (t' := .long) (by decide)))
  replace A := A.other W27 (own_ne (by omega))
  replace Aw := Aw.other W27 (own_ne (by omega))
  replace EAw := EAw.wr W27
  replace Fc := Fc.other W27 (Or.inr (slot_ne (Or.inl (hw _ (List.mem_of_getElem? (i := 71) rfl))) (Or.inl (hw _ (List.mem_of_getElem? (i := 49) rfl))) (by decide) (t := .int) (by decide) (t' := .long) (by decide)))
  replace Fs := Fn27
  show OGoes p.tables e below _ (T27.setTop (mkF m 166 #[.val (.ref tb), .val (.int v1), .val (.int (0 : Int32)), .val (.ref b18), .val (.int (0 : Int32)), .val (.int (own_sh (0 : Int64)))] []))
  exact own_retV X27 hx hlk hret (hb hby d9_166) (by decide) (by decide) ⟨rfl, N27, by rw [e27]; exact K, b18, _, by omega, by rw [e27]; exact ⟨E, Fb, Fc, Fs, A, Aw⟩⟩
theorem ef_rmA1 (m : MethodId) (x0 : Nat) (x1 : Int32) : entryFrame m #[(.ref x0), (.int x1)] 6 = mkF m 0 #[.val (.ref x0), .val (.int x1), .unset, .unset, .unset, .unset] [] := by first | (simp [entryFrame, mkF, argsToLocals, Value.category]; done) | rfl
set_option maxRecDepth 65536 in
set_option maxHeartbeats 40000000 in
theorem rmA1 (l : Launch) (Z : State) (a0 : Array Value) (hw : ∀ d ∈ tables_1, d.before a0 Z = true) (tb bl w : Nat) (kb kw : ClassId) (n n1 x : Int64) (v1 : Int32) (hv : (v1 &&& (-4 : Int32)) = 0) (hn1 : n + 1 = n1) (hA1 : ((n / (32768 : Int64)).toInt32) = 0) (hA2 : (((n - (n / (32768 : Int64)) * (32768 : Int64)) / (32 : Int64)).toInt32) = 0) (h0 : Heap) (hO : Ext Z.heap h0) (H : own_TB1 Z h0 tb bl w kb kw n x) (ge : Z.heap.size ≤ tb) (hlt : tb < bl) (hlw : bl < w) :
    OMet l Z (⟨"com/example/hedgerow/hedgerow/maze/TwoBitList", "add", "(I)V"⟩ : MethodName) prog_26_method_2_code 6 none ⟨0, 0, 0, 0⟩ #[(.ref tb), (.int v1)] h0 (fun v h L => v = none ∧ Fr Z.heap.size L ∧ Keep h0 h [tb, w] ∧ own_TB1 Z h tb bl w kb kw n1 (own_put x n v1)) := by
  refine own_body pf_9 ?_
  intro p e s m below meth c T0 X0 hx hby hml hZ hown hnm hret hlk e0
  replace hown : s.vm.findClass "com/example/hedgerow/hedgerow/maze/TwoBitList" = some m.cls := hown
  refine own_cast (ef_rmA1 m (tb) (v1)) ?_
  show OGoes p.tables e below _ (T0.setTop (mkF m 0 #[.val (.ref tb), .val (.int v1), .unset, .unset, .unset, .unset] []))
  obtain ⟨E, Fb, Fc, Fs, A, Aw⟩ := H
  have K := Keep.refl h0 [tb, w]
  refine own_st (V := (T0.setTop (mkF m 1 #[.val (.ref tb), .val (.int v1), .unset, .unset, .unset, .unset] [(.int v1)]))) (fun t ks => XS.iloadN X0.here hx rfl (hb hby d9_0) rfl ks) ?_
  refine own_st (V := (T0.setTop (mkF m 3 #[.val (.ref tb), .val (.int v1), .unset, .unset, .unset, .unset] [(.int (-4 : Int32)), (.int v1)]))) (fun t ks => XS.bipush X0.here hx rfl (hb hby d9_1) ks) ?_
  refine own_st (V := (T0.setTop (mkF m 4 #[.val (.ref tb), .val (.int v1), .unset, .unset, .unset, .unset] [(.int (v1 &&& (-4 : Int32)))]))) (fun t ks => XS.iand X0.here hx rfl (hb hby d9_3) rfl ks) ?_
  refine own_st (V := (T0.setTop (mkF m 21 #[.val (.ref tb), .val (.int v1), .unset, .unset, .unset, .unset] []))) (fun t ks => XS.ifYes X0.here hx rfl (pc0 := 4) (pc' := 21) rfl (hb hby d9_4) rfl (XT.i0_eq_t hv) (by decide) (by decide) ks) ?_
  refine own_st (V := (T0.setTop (mkF m 22 #[.val (.ref tb), .val (.int v1), .unset, .unset, .unset, .unset] [(.ref tb)]))) (fun t ks => XS.aloadN X0.here hx rfl (hb hby d9_21) rfl rfl ks) ?_
  refine own_getfield X0 hx hZ e0 hown (hw _ (List.mem_of_getElem? (i := 48) rfl)) Via.refl Fs (hb hby d9_22) ?_
  intro T28 X28 e28
  show OGoes p.tables e below _ (T28.setTop (mkF m 25 #[.val (.ref tb), .val (.int v1), .unset, .unset, .unset, .unset] [(.long n)]))
  refine own_st (V := (T28.setTop (mkF m 28 #[.val (.ref tb), .val (.int v1), .unset, .unset, .unset, .unset] [(.long (32768 : Int64)), (.long n)]))) (fun t ks => X28.ldc2Long hx hown (mvT hZ (hw _ (List.mem_of_getElem? (i := 69) rfl))) (g := (mkF m 25 #[.val (.ref tb), .val (.int v1), .unset, .unset, .unset, .unset] [(.long n)])) rfl (hb hby d9_25) t ks) ?_
  refine own_st (V := (T28.setTop (mkF m 29 #[.val (.ref tb), .val (.int v1), .unset, .unset, .unset, .unset] [(.long (n / (32768 : Int64)))]))) (fun t ks => XS.ldiv X28.here hx rfl (hb hby d9_28) rfl (by decide) ks) ?_
  refine own_st (V := (T28.setTop (mkF m 30 #[.val (.ref tb), .val (.int v1), .unset, .unset, .unset, .unset] [(.int ((n / (32768 : Int64)).toInt32))]))) (fun t ks => XS.l2i X28.here hx rfl (hb hby d9_29) rfl ks) ?_
  refine own_cast (g' := (mkF m 30 #[.val (.ref tb), .val (.int v1), .unset, .unset, .unset, .unset] [(.int (0 : Int32))])) (by rw [show ((n / (32768 : Int64)).toInt32) = (0 : Int32) from hA1]) ?_
  refine own_st (V := (T28.setTop (mkF m 31 #[.val (.ref tb), .val (.int v1), .val (.int (0 : Int32)), .unset, .unset, .unset] []))) (fun t ks => XS.istoreN X28.here hx rfl (hb hby d9_30) rfl (l' := #[.val (.ref tb), .val (.int v1), .val (.int (0 : Int32)), .unset, .unset, .unset]) rfl ks) ?_
  refine own_st (V := (T28.setTop (mkF m 32 #[.val (.ref tb), .val (.int v1), .val (.int (0 : Int32)), .unset, .unset, .unset] [(.int (0 : Int32))]))) (fun t ks => XS.iloadN X28.here hx rfl (hb hby d9_31) rfl ks) ?_
  refine own_st (V := (T28.setTop (mkF m 33 #[.val (.ref tb), .val (.int v1), .val (.int (0 : Int32)), .unset, .unset, .unset] [(.ref tb), (.int (0 : Int32))]))) (fun t ks => XS.aloadN X28.here hx rfl (hb hby d9_32) rfl rfl ks) ?_
  refine own_getfield X28 hx hZ e28 hown (hw _ (List.mem_of_getElem? (i := 70) rfl)) Via.refl Fc (hb hby d9_33) ?_
  intro T29 X29 e29
  show OGoes p.tables e below _ (T29.setTop (mkF m 36 #[.val (.ref tb), .val (.int v1), .val (.int (0 : Int32)), .unset, .unset, .unset] [(.int (1 : Int32)), (.int (0 : Int32))]))
  refine own_st (V := (T29.setTop (mkF m 96 #[.val (.ref tb), .val (.int v1), .val (.int (0 : Int32)), .unset, .unset, .unset] []))) (fun t ks => XS.icmpYes X29.here hx rfl (pc0 := 36) (pc' := 96) rfl (hb hby d9_36) rfl (XT.ii_ne_t (by decide)) (by decide) (by decide) ks) ?_
  refine own_st (V := (T29.setTop (mkF m 97 #[.val (.ref tb), .val (.int v1), .val (.int (0 : Int32)), .unset, .unset, .unset] [(.ref tb)]))) (fun t ks => XS.aloadN X29.here hx rfl (hb hby d9_96) rfl rfl ks) ?_
  refine own_getfield X29 hx hZ e29 hown (hw _ (List.mem_of_getElem? (i := 34) rfl)) Via.refl Fb (hb hby d9_97) ?_
  intro T30 X30 e30
  show OGoes p.tables e below _ (T30.setTop (mkF m 100 #[.val (.ref tb), .val (.int v1), .val (.int (0 : Int32)), .unset, .unset, .unset] [(.ref bl)]))
  refine own_st (V := (T30.setTop (mkF m 101 #[.val (.ref tb), .val (.int v1), .val (.int (0 : Int32)), .unset, .unset, .unset] [(.int (0 : Int32)), (.ref bl)]))) (fun t ks => XS.iloadN X30.here hx rfl (hb hby d9_100) rfl ks) ?_
  refine own_aaload X30 hx hZ e30 rfl A (v := (.ref w)) (by decide) (by decide) rfl (hb hby d9_101) ?_
  show OGoes p.tables e below _ (T30.setTop (mkF m 102 #[.val (.ref tb), .val (.int v1), .val (.int (0 : Int32)), .unset, .unset, .unset] [(.ref w)]))
  refine own_st (V := (T30.setTop (mkF m 103 #[.val (.ref tb), .val (.int v1), .val (.int (0 : Int32)), .val (.ref w), .unset, .unset] []))) (fun t ks => XS.astoreN X30.here hx rfl (hb hby d9_102) rfl rfl (l' := #[.val (.ref tb), .val (.int v1), .val (.int (0 : Int32)), .val (.ref w), .unset, .unset]) rfl ks) ?_
  refine own_st (V := (T30.setTop (mkF m 104 #[.val (.ref tb), .val (.int v1), .val (.int (0 : Int32)), .val (.ref w), .unset, .unset] [(.ref tb)]))) (fun t ks => XS.aloadN X30.here hx rfl (hb hby d9_103) rfl rfl ks) ?_
  refine own_getfield X30 hx hZ e30 hown (hw _ (List.mem_of_getElem? (i := 48) rfl)) Via.refl Fs (hb hby d9_104) ?_
  intro T31 X31 e31
  show OGoes p.tables e below _ (T31.setTop (mkF m 107 #[.val (.ref tb), .val (.int v1), .val (.int (0 : Int32)), .val (.ref w), .unset, .unset] [(.long n)]))
  refine own_st (V := (T31.setTop (mkF m 110 #[.val (.ref tb), .val (.int v1), .val (.int (0 : Int32)), .val (.ref w), .unset, .unset] [(.long (32768 : Int64)), (.long n)]))) (fun t ks => X31.ldc2Long hx hown (mvT hZ (hw _ (List.mem_of_getElem? (i := 69) rfl))) (g := (mkF m 107 #[.val (.ref tb), .val (.int v1), .val (.int (0 : Int32)), .val (.ref w), .unset, .unset] [(.long n)])) rfl (hb hby d9_107) t ks) ?_
  refine own_st (V := (T31.setTop (mkF m 111 #[.val (.ref tb), .val (.int v1), .val (.int (0 : Int32)), .val (.ref w), .unset, .unset] [(.long (n - (n / (32768 : Int64)) * (32768 : Int64)))]))) (fun t ks => XS.lrem X31.here hx rfl (hb hby d9_110) rfl (by decide) ks) ?_
  refine own_st (V := (T31.setTop (mkF m 114 #[.val (.ref tb), .val (.int v1), .val (.int (0 : Int32)), .val (.ref w), .unset, .unset] [(.long (32 : Int64)), (.long (n - (n / (32768 : Int64)) * (32768 : Int64)))]))) (fun t ks => X31.ldc2Long hx hown (mvT hZ (hw _ (List.mem_of_getElem? (i := 74) rfl))) (g := (mkF m 111 #[.val (.ref tb), .val (.int v1), .val (.int (0 : Int32)), .val (.ref w), .unset, .unset] [(.long (n - (n / (32768 : Int64)) * (32768 : Int64)))])) rfl (hb hby d9_111) t ks) ?_
  refine own_st (V := (T31.setTop (mkF m 115 #[.val (.ref tb), .val (.int v1), .val (.int (0 : Int32)), .val (.ref w), .unset, .unset] [(.long ((n - (n / (32768 : Int64)) * (32768 : Int64)) / (32 : Int64)))]))) (fun t ks => XS.ldiv X31.here hx rfl (hb hby d9_114) rfl (by decide) ks) ?_
  refine own_st (V := (T31.setTop (mkF m 116 #[.val (.ref tb), .val (.int v1), .val (.int (0 : Int32)), .val (.ref w), .unset, .unset] [(.int (((n - (n / (32768 : Int64)) * (32768 : Int64)) / (32 : Int64)).toInt32))]))) (fun t ks => XS.l2i X31.here hx rfl (hb hby d9_115) rfl ks) ?_
  refine own_cast (g' := (mkF m 116 #[.val (.ref tb), .val (.int v1), .val (.int (0 : Int32)), .val (.ref w), .unset, .unset] [(.int (0 : Int32))])) (by rw [show (((n - (n / (32768 : Int64)) * (32768 : Int64)) / (32 : Int64)).toInt32) = (0 : Int32) from hA2]) ?_
  refine own_st (V := (T31.setTop (mkF m 118 #[.val (.ref tb), .val (.int v1), .val (.int (0 : Int32)), .val (.ref w), .val (.int (0 : Int32)), .unset] []))) (fun t ks => XS.istore X31.here hx rfl (hb hby d9_116) rfl (l' := #[.val (.ref tb), .val (.int v1), .val (.int (0 : Int32)), .val (.ref w), .val (.int (0 : Int32)), .unset]) rfl ks) ?_
  refine own_st (V := (T31.setTop (mkF m 119 #[.val (.ref tb), .val (.int v1), .val (.int (0 : Int32)), .val (.ref w), .val (.int (0 : Int32)), .unset] [(.ref tb)]))) (fun t ks => XS.aloadN X31.here hx rfl (hb hby d9_118) rfl rfl ks) ?_
  refine own_getfield X31 hx hZ e31 hown (hw _ (List.mem_of_getElem? (i := 48) rfl)) Via.refl Fs (hb hby d9_119) ?_
  intro T32 X32 e32
  show OGoes p.tables e below _ (T32.setTop (mkF m 122 #[.val (.ref tb), .val (.int v1), .val (.int (0 : Int32)), .val (.ref w), .val (.int (0 : Int32)), .unset] [(.long n)]))
  refine own_st (V := (T32.setTop (mkF m 125 #[.val (.ref tb), .val (.int v1), .val (.int (0 : Int32)), .val (.ref w), .val (.int (0 : Int32)), .unset] [(.long (32 : Int64)), (.long n)]))) (fun t ks => X32.ldc2Long hx hown (mvT hZ (hw _ (List.mem_of_getElem? (i := 74) rfl))) (g := (mkF m 122 #[.val (.ref tb), .val (.int v1), .val (.int (0 : Int32)), .val (.ref w), .val (.int (0 : Int32)), .unset] [(.long n)])) rfl (hb hby d9_122) t ks) ?_
  refine own_st (V := (T32.setTop (mkF m 126 #[.val (.ref tb), .val (.int v1), .val (.int (0 : Int32)), .val (.ref w), .val (.int (0 : Int32)), .unset] [(.long (n - (n / (32 : Int64)) * (32 : Int64)))]))) (fun t ks => XS.lrem X32.here hx rfl (hb hby d9_125) rfl (by decide) ks) ?_
  refine own_st (V := (T32.setTop (mkF m 127 #[.val (.ref tb), .val (.int v1), .val (.int (0 : Int32)), .val (.ref w), .val (.int (0 : Int32)), .unset] [(.int ((n - (n / (32 : Int64)) * (32 : Int64)).toInt32))]))) (fun t ks => XS.l2i X32.here hx rfl (hb hby d9_126) rfl ks) ?_
  refine own_st (V := (T32.setTop (mkF m 128 #[.val (.ref tb), .val (.int v1), .val (.int (0 : Int32)), .val (.ref w), .val (.int (0 : Int32)), .unset] [(.int (2 : Int32)), (.int ((n - (n / (32 : Int64)) * (32 : Int64)).toInt32))]))) (fun t ks => XS.iconst X32.here hx rfl (hb hby d9_127) ks) ?_
  refine own_st (V := (T32.setTop (mkF m 129 #[.val (.ref tb), .val (.int v1), .val (.int (0 : Int32)), .val (.ref w), .val (.int (0 : Int32)), .unset] [(.int (((n - (n / (32 : Int64)) * (32 : Int64)).toInt32) * (2 : Int32)))]))) (fun t ks => XS.imul X32.here hx rfl (hb hby d9_128) rfl ks) ?_
  refine own_st (V := (T32.setTop (mkF m 131 #[.val (.ref tb), .val (.int v1), .val (.int (0 : Int32)), .val (.ref w), .val (.int (0 : Int32)), .val (.int (((n - (n / (32 : Int64)) * (32 : Int64)).toInt32) * (2 : Int32)))] []))) (fun t ks => XS.istore X32.here hx rfl (hb hby d9_129) rfl (l' := #[.val (.ref tb), .val (.int v1), .val (.int (0 : Int32)), .val (.ref w), .val (.int (0 : Int32)), .val (.int (((n - (n / (32 : Int64)) * (32 : Int64)).toInt32) * (2 : Int32)))]) rfl ks) ?_
  refine own_cast (g' := (mkF m 131 #[.val (.ref tb), .val (.int v1), .val (.int (0 : Int32)), .val (.ref w), .val (.int (0 : Int32)), .val (.int (own_sh n))] [])) (by rw [show (((n - (n / (32 : Int64)) * (32 : Int64)).toInt32) * (2 : Int32)) = (own_sh n) from rfl]) ?_
  refine own_st (V := (T32.setTop (mkF m 132 #[.val (.ref tb), .val (.int v1), .val (.int (0 : Int32)), .val (.ref w), .val (.int (0 : Int32)), .val (.int (own_sh n))] [(.ref w)]))) (fun t ks => XS.aloadN X32.here hx rfl (hb hby d9_131) rfl rfl ks) ?_
  refine own_st (V := (T32.setTop (mkF m 134 #[.val (.ref tb), .val (.int v1), .val (.int (0 : Int32)), .val (.ref w), .val (.int (0 : Int32)), .val (.int (own_sh n))] [(.int (0 : Int32)), (.ref w)]))) (fun t ks => XS.iload X32.here hx rfl (hb hby d9_132) rfl ks) ?_
  refine own_st (V := (T32.setTop (mkF m 135 #[.val (.ref tb), .val (.int v1), .val (.int (0 : Int32)), .val (.ref w), .val (.int (0 : Int32)), .val (.int (own_sh n))] [(.ref w), (.int (0 : Int32)), (.ref w)]))) (fun t ks => XS.aloadN X32.here hx rfl (hb hby d9_134) rfl rfl ks) ?_
  refine own_st (V := (T32.setTop (mkF m 137 #[.val (.ref tb), .val (.int v1), .val (.int (0 : Int32)), .val (.ref w), .val (.int (0 : Int32)), .val (.int (own_sh n))] [(.int (0 : Int32)), (.ref w), (.int (0 : Int32)), (.ref w)]))) (fun t ks => XS.iload X32.here hx rfl (hb hby d9_135) rfl ks) ?_
  refine own_laload X32 hx hZ e32 Aw (v := (.long x)) (by decide) (by decide) rfl (hb hby d9_137) ?_
  show OGoes p.tables e below _ (T32.setTop (mkF m 138 #[.val (.ref tb), .val (.int v1), .val (.int (0 : Int32)), .val (.ref w), .val (.int (0 : Int32)), .val (.int (own_sh n))] [(.long x), (.int (0 : Int32)), (.ref w)]))
  refine own_st (V := (T32.setTop (mkF m 141 #[.val (.ref tb), .val (.int v1), .val (.int (0 : Int32)), .val (.ref w), .val (.int (0 : Int32)), .val (.int (own_sh n))] [(.long (3 : Int64)), (.long x), (.int (0 : Int32)), (.ref w)]))) (fun t ks => X32.ldc2Long hx hown (mvT hZ (hw _ (List.mem_of_getElem? (i := 75) rfl))) (g := (mkF m 138 #[.val (.ref tb), .val (.int v1), .val (.int (0 : Int32)), .val (.ref w), .val (.int (0 : Int32)), .val (.int (own_sh n))] [(.long x), (.int (0 : Int32)), (.ref w)])) rfl (hb hby d9_138) t ks) ?_
  refine own_st (V := (T32.setTop (mkF m 143 #[.val (.ref tb), .val (.int v1), .val (.int (0 : Int32)), .val (.ref w), .val (.int (0 : Int32)), .val (.int (own_sh n))] [(.int (own_sh n)), (.long (3 : Int64)), (.long x), (.int (0 : Int32)), (.ref w)]))) (fun t ks => XS.iload X32.here hx rfl (hb hby d9_141) rfl ks) ?_
  refine own_st (V := (T32.setTop (mkF m 144 #[.val (.ref tb), .val (.int v1), .val (.int (0 : Int32)), .val (.ref w), .val (.int (0 : Int32)), .val (.int (own_sh n))] [(.long ((3 : Int64) <<< ((own_sh n) &&& 0x3f).toInt64)), (.long x), (.int (0 : Int32)), (.ref w)]))) (fun t ks => XS.lshl X32.here hx rfl (hb hby d9_143) rfl ks) ?_
  refine own_st (V := (T32.setTop (mkF m 147 #[.val (.ref tb), .val (.int v1), .val (.int (0 : Int32)), .val (.ref w), .val (.int (0 : Int32)), .val (.int (own_sh n))] [(.long (-1 : Int64)), (.long ((3 : Int64) <<< ((own_sh n) &&& 0x3f).toInt64)), (.long x), (.int (0 : Int32)), (.ref w)]))) (fun t ks => X32.ldc2Long hx hown (mvT hZ (hw _ (List.mem_of_getElem? (i := 76) rfl))) (g := (mkF m 144 #[.val (.ref tb), .val (.int v1), .val (.int (0 : Int32)), .val (.ref w), .val (.int (0 : Int32)), .val (.int (own_sh n))] [(.long ((3 : Int64) <<< ((own_sh n) &&& 0x3f).toInt64)), (.long x), (.int (0 : Int32)), (.ref w)])) rfl (hb hby d9_144) t ks) ?_
  refine own_st (V := (T32.setTop (mkF m 148 #[.val (.ref tb), .val (.int v1), .val (.int (0 : Int32)), .val (.ref w), .val (.int (0 : Int32)), .val (.int (own_sh n))] [(.long (((3 : Int64) <<< ((own_sh n) &&& 0x3f).toInt64) ^^^ (-1 : Int64))), (.long x), (.int (0 : Int32)), (.ref w)]))) (fun t ks => XS.lxor X32.here hx rfl (hb hby d9_147) rfl ks) ?_
  refine own_st (V := (T32.setTop (mkF m 149 #[.val (.ref tb), .val (.int v1), .val (.int (0 : Int32)), .val (.ref w), .val (.int (0 : Int32)), .val (.int (own_sh n))] [(.long (x &&& (((3 : Int64) <<< ((own_sh n) &&& 0x3f).toInt64) ^^^ (-1 : Int64)))), (.int (0 : Int32)), (.ref w)]))) (fun t ks => XS.land X32.here hx rfl (hb hby d9_148) rfl ks) ?_
  refine own_st (V := (T32.setTop (mkF m 150 #[.val (.ref tb), .val (.int v1), .val (.int (0 : Int32)), .val (.ref w), .val (.int (0 : Int32)), .val (.int (own_sh n))] [(.int v1), (.long (x &&& (((3 : Int64) <<< ((own_sh n) &&& 0x3f).toInt64) ^^^ (-1 : Int64)))), (.int (0 : Int32)), (.ref w)]))) (fun t ks => XS.iloadN X32.here hx rfl (hb hby d9_149) rfl ks) ?_
  refine own_st (V := (T32.setTop (mkF m 151 #[.val (.ref tb), .val (.int v1), .val (.int (0 : Int32)), .val (.ref w), .val (.int (0 : Int32)), .val (.int (own_sh n))] [(.long (v1.toInt64)), (.long (x &&& (((3 : Int64) <<< ((own_sh n) &&& 0x3f).toInt64) ^^^ (-1 : Int64)))), (.int (0 : Int32)), (.ref w)]))) (fun t ks => XS.i2l X32.here hx rfl (hb hby d9_150) rfl ks) ?_
  refine own_st (V := (T32.setTop (mkF m 153 #[.val (.ref tb), .val (.int v1), .val (.int (0 : Int32)), .val (.ref w), .val (.int (0 : Int32)), .val (.int (own_sh n))] [(.int (own_sh n)), (.long (v1.toInt64)), (.long (x &&& (((3 : Int64) <<< ((own_sh n) &&& 0x3f).toInt64) ^^^ (-1 : Int64)))), (.int (0 : Int32)), (.ref w)]))) (fun t ks => XS.iload X32.here hx rfl (hb hby d9_151) rfl ks) ?_
  refine own_st (V := (T32.setTop (mkF m 154 #[.val (.ref tb), .val (.int v1), .val (.int (0 : Int32)), .val (.ref w), .val (.int (0 : Int32)), .val (.int (own_sh n))] [(.long ((v1.toInt64) <<< ((own_sh n) &&& 0x3f).toInt64)), (.long (x &&& (((3 : Int64) <<< ((own_sh n) &&& 0x3f).toInt64) ^^^ (-1 : Int64)))), (.int (0 : Int32)), (.ref w)]))) (fun t ks => XS.lshl X32.here hx rfl (hb hby d9_153) rfl ks) ?_
  refine own_st (V := (T32.setTop (mkF m 155 #[.val (.ref tb), .val (.int v1), .val (.int (0 : Int32)), .val (.ref w), .val (.int (0 : Int32)), .val (.int (own_sh n))] [(.long ((x &&& (((3 : Int64) <<< ((own_sh n) &&& 0x3f).toInt64) ^^^ (-1 : Int64))) ||| ((v1.toInt64) <<< ((own_sh n) &&& 0x3f).toInt64))), (.int (0 : Int32)), (.ref w)]))) (fun t ks => XS.lor X32.here hx rfl (hb hby d9_154) rfl ks) ?_
  refine own_lastore X32 hx hZ e32 Aw (by decide) (by decide) rfl (Nat.le_of_ble_eq_true rfl) (Fr.nil Z.heap.size) (by omega) (hb hby d9_155) ?_
  intro T33 h33 L33 X33 e33 N33 W33 An33
  replace K := K.wr W33 (Or.inl (by simp))
  replace hO := own_old_wr hO W33 (by omega)
  replace E := E.wr W33
  replace Fb := Fb.other W33 (Or.inl (own_ne (by omega)))
  replace Fc := Fc.other W33 (Or.inl (own_ne (by omega)))
  replace Fs := Fs.other W33 (Or.inl (own_ne (by omega)))
  replace A := A.other W33 (own_ne (by omega))
  replace Aw := An33
  show OGoes p.tables e below _ (T33.setTop (mkF m 156 #[.val (.ref tb), .val (.int v1), .val (.int (0 : Int32)), .val (.ref w), .val (.int (0 : Int32)), .val (.int (own_sh n))] []))
  refine own_st (V := (T33.setTop (mkF m 157 #[.val (.ref tb), .val (.int v1), .val (.int (0 : Int32)), .val (.ref w), .val (.int (0 : Int32)), .val (.int (own_sh n))] [(.ref tb)]))) (fun t ks => XS.aloadN X33.here hx rfl (hb hby d9_156) rfl rfl ks) ?_
  refine own_st (V := (T33.setTop (mkF m 158 #[.val (.ref tb), .val (.int v1), .val (.int (0 : Int32)), .val (.ref w), .val (.int (0 : Int32)), .val (.int (own_sh n))] [(.ref tb), (.ref tb)]))) (fun t ks => XS.dup X33.here hx rfl (hb hby d9_157) rfl rfl ks) ?_
  refine own_getfield X33 hx hZ e33 hown (hw _ (List.mem_of_getElem? (i := 48) rfl)) Via.refl Fs (hb hby d9_158) ?_
  intro T34 X34 e34
  show OGoes p.tables e below _ (T34.setTop (mkF m 161 #[.val (.ref tb), .val (.int v1), .val (.int (0 : Int32)), .val (.ref w), .val (.int (0 : Int32)), .val (.int (own_sh n))] [(.long n), (.ref tb)]))
  refine own_st (V := (T34.setTop (mkF m 162 #[.val (.ref tb), .val (.int v1), .val (.int (0 : Int32)), .val (.ref w), .val (.int (0 : Int32)), .val (.int (own_sh n))] [(.long (1 : Int64)), (.long n), (.ref tb)]))) (fun t ks => XS.lconst X34.here hx rfl (hb hby d9_161) ks) ?_
  refine own_st (V := (T34.setTop (mkF m 163 #[.val (.ref tb), .val (.int v1), .val (.int (0 : Int32)), .val (.ref w), .val (.int (0 : Int32)), .val (.int (own_sh n))] [(.long (n + (1 : Int64))), (.ref tb)]))) (fun t ks => XS.ladd X34.here hx rfl (hb hby d9_162) rfl ks) ?_
  refine own_cast (g' := (mkF m 163 #[.val (.ref tb), .val (.int v1), .val (.int (0 : Int32)), .val (.ref w), .val (.int (0 : Int32)), .val (.int (own_sh n))] [(.long n1), (.ref tb)])) (by rw [show (n + (1 : Int64)) = n1 from hn1]) ?_
  refine own_putfield X34 hx hZ e34 hown (hw _ (List.mem_of_getElem? (i := 48) rfl)) Fs E (Or.inl (hw _ (List.mem_of_getElem? (i := 49) rfl))) (hw _ (List.mem_of_getElem? (i := 26) rfl)) (ty := .long) (by decide) rfl rfl N33 (by omega) (hb hby d9_163) ?_
  intro T35 h35 L35 X35 e35 N35 W35 Fn35
  replace K := K.wr W35 (Or.inl (by simp))
  replace hO := own_old_wr hO W35 (by omega)
  replace E := E.wr W35
  replace Fb := Fb.other W35 (Or.inr (slot_ne (Or.inl (hw _ (List.mem_of_getElem? (i := 35) rfl))) (Or.inl (hw _ (List.mem_of_getElem? (i := 49) rfl))) (by decide) (t := (.array (.array .long))) (by decide) (t' := .long) (by decide)))
  replace Fc := Fc.other W35 (Or.inr (slot_ne (Or.inl (hw _ (List.mem_of_getElem? (i := 71) rfl))) (Or.inl (hw _ (List.mem_of_getElem? (i := 49) rfl))) (by decide) (t := .int) (by decide) (t' := .long) (by decide)))
  replace A := A.other W35 (own_ne (by omega))
  replace Aw := Aw.other W35 (own_ne (by omega))
  replace Fs := Fn35
  show OGoes p.tables e below _ (T35.setTop (mkF m 166 #[.val (.ref tb), .val (.int v1), .val (.int (0 : Int32)), .val (.ref w), .val (.int (0 : Int32)), .val (.int (own_sh n))] []))
  exact own_retV X35 hx hlk hret (hb hby d9_166) (by decide) (by decide) ⟨rfl, N35, by rw [e35]; exact K, by rw [e35]; exact ⟨E, Fb, Fc, Fs, A, Aw⟩⟩
theorem ef_rmR (m : MethodId) (x0 : Nat) : entryFrame m #[(.ref x0)] 3 = mkF m 0 #[.val (.ref x0), .unset, .unset] [] := by first | (simp [entryFrame, mkF, argsToLocals, Value.category]; done) | rfl
set_option maxRecDepth 65536 in
set_option maxHeartbeats 40000000 in
theorem rmR (l : Launch) (Z : State) (a0 : Array Value) (hw : ∀ d ∈ tables_1, d.before a0 Z = true) (tb bl w : Nat) (kb kw : ClassId) (n1 n x : Int64) (h1 : ¬ n1 = 0) (hn1 : n1 - 1 = n) (hA1 : ((n / (32768 : Int64)).toInt32) = 0) (hA2 : (((n - (n / (32768 : Int64)) * (32768 : Int64)) / (32 : Int64)).toInt32) = 0) (h0 : Heap) (hO : Ext Z.heap h0) (H : own_TB1 Z h0 tb bl w kb kw n1 x) (ge : Z.heap.size ≤ tb) (hlt : tb < bl) (hlw : bl < w) :
    OMet l Z (⟨"com/example/hedgerow/hedgerow/maze/TwoBitList", "removeLast", "()I"⟩ : MethodName) prog_26_method_3_code 3 (some .int) ⟨0, 0, 0, 0⟩ #[(.ref tb)] h0 (fun v h L => v = some (.int (own_get x n)) ∧ Fr Z.heap.size L ∧ Keep h0 h [tb] ∧ own_TB1 Z h tb bl w kb kw n x) := by
  refine own_body pf_11 ?_
  intro p e s m below meth c T0 X0 hx hby hml hZ hown hnm hret hlk e0
  replace hown : s.vm.findClass "com/example/hedgerow/hedgerow/maze/TwoBitList" = some m.cls := hown
  refine own_cast (ef_rmR m (tb)) ?_
  show OGoes p.tables e below _ (T0.setTop (mkF m 0 #[.val (.ref tb), .unset, .unset] []))
  obtain ⟨E, Fb, Fc, Fs, A, Aw⟩ := H
  have K := Keep.refl h0 [tb]
  refine own_st (V := (T0.setTop (mkF m 1 #[.val (.ref tb), .unset, .unset] [(.ref tb)]))) (fun t ks => XS.aloadN X0.here hx rfl (hb hby d11_0) rfl rfl ks) ?_
  refine own_getfield X0 hx hZ e0 hown (hw _ (List.mem_of_getElem? (i := 48) rfl)) Via.refl Fs (hb hby d11_1) ?_
  intro T36 X36 e36
  show OGoes p.tables e below _ (T36.setTop (mkF m 4 #[.val (.ref tb), .unset, .unset] [(.long n1)]))
  refine own_st (V := (T36.setTop (mkF m 5 #[.val (.ref tb), .unset, .unset] [(.long (0 : Int64)), (.long n1)]))) (fun t ks => XS.lconst X36.here hx rfl (hb hby d11_4) ks) ?_
  refine own_st (V := (T36.setTop (mkF m 6 #[.val (.ref tb), .unset, .unset] [(.int (lcmpW n1 (0 : Int64)))]))) (fun t ks => XS.lcmp X36.here hx rfl (hb hby d11_5) rfl ks) ?_
  refine own_st (V := (T36.setTop (mkF m 19 #[.val (.ref tb), .unset, .unset] []))) (fun t ks => XS.ifYes X36.here hx rfl (pc0 := 6) (pc' := 19) rfl (hb hby d11_6) rfl (XT.ll_ne_t h1) (by decide) (by decide) ks) ?_
  refine own_st (V := (T36.setTop (mkF m 20 #[.val (.ref tb), .unset, .unset] [(.ref tb)]))) (fun t ks => XS.aloadN X36.here hx rfl (hb hby d11_19) rfl rfl ks) ?_
  refine own_st (V := (T36.setTop (mkF m 21 #[.val (.ref tb), .unset, .unset] [(.ref tb), (.ref tb)]))) (fun t ks => XS.dup X36.here hx rfl (hb hby d11_20) rfl rfl ks) ?_
  refine own_getfield X36 hx hZ e36 hown (hw _ (List.mem_of_getElem? (i := 48) rfl)) Via.refl Fs (hb hby d11_21) ?_
  intro T37 X37 e37
  show OGoes p.tables e below _ (T37.setTop (mkF m 24 #[.val (.ref tb), .unset, .unset] [(.long n1), (.ref tb)]))
  refine own_st (V := (T37.setTop (mkF m 25 #[.val (.ref tb), .unset, .unset] [(.long (1 : Int64)), (.long n1), (.ref tb)]))) (fun t ks => XS.lconst X37.here hx rfl (hb hby d11_24) ks) ?_
  refine own_st (V := (T37.setTop (mkF m 26 #[.val (.ref tb), .unset, .unset] [(.long (n1 - (1 : Int64))), (.ref tb)]))) (fun t ks => XS.lsub X37.here hx rfl (hb hby d11_25) rfl ks) ?_
  refine own_cast (g' := (mkF m 26 #[.val (.ref tb), .unset, .unset] [(.long n), (.ref tb)])) (by rw [show (n1 - (1 : Int64)) = n from hn1]) ?_
  refine own_putfield X37 hx hZ e37 hown (hw _ (List.mem_of_getElem? (i := 48) rfl)) Fs E (Or.inl (hw _ (List.mem_of_getElem? (i := 49) rfl))) (hw _ (List.mem_of_getElem? (i := 26) rfl)) (ty := .long) (by decide) rfl rfl (Fr.nil Z.heap.size) (by omega) (hb hby d11_26) ?_
  intro T38 h38 L38 X38 e38 N38 W38 Fn38
  replace K := K.wr W38 (Or.inl (by simp))
  replace hO := own_old_wr hO W38 (by omega)
  replace E := E.wr W38
  replace Fb := Fb.other W38 (Or.inr (slot_ne (Or.inl (hw _ (List.mem_of_getElem? (i := 35) rfl))) (Or.inl (hw _ (List.mem_of_getElem? (i := 49) rfl))) (by decide) (t := (.array (.array .long))) (by decide) (t' := .long) (by decide)))
  replace Fc := Fc.other W38 (Or.inr (slot_ne (Or.inl (hw _ (List.mem_of_getElem? (i := 71) rfl))) (Or.inl (hw _ (List.mem_of_getElem? (i := 49) rfl))) (by decide) (t := .int) (by decide) (t' := .long) (by decide)))
  replace A := A.other W38 (own_ne (by omega))
  replace Aw := Aw.other W38 (own_ne (by omega))
  replace Fs := Fn38
  show OGoes p.tables e below _ (T38.setTop (mkF m 29 #[.val (.ref tb), .unset, .unset] []))
  refine own_st (V := (T38.setTop (mkF m 30 #[.val (.ref tb), .unset, .unset] [(.ref tb)]))) (fun t ks => XS.aloadN X38.here hx rfl (hb hby d11_29) rfl rfl ks) ?_
  refine own_getfield X38 hx hZ e38 hown (hw _ (List.mem_of_getElem? (i := 34) rfl)) Via.refl Fb (hb hby d11_30) ?_
  intro T39 X39 e39
  show OGoes p.tables e below _ (T39.setTop (mkF m 33 #[.val (.ref tb), .unset, .unset] [(.ref bl)]))
  refine own_st (V := (T39.setTop (mkF m 34 #[.val (.ref tb), .unset, .unset] [(.ref tb), (.ref bl)]))) (fun t ks => XS.aloadN X39.here hx rfl (hb hby d11_33) rfl rfl ks) ?_
  refine own_getfield X39 hx hZ e39 hown (hw _ (List.mem_of_getElem? (i := 48) rfl)) Via.refl Fs (hb hby d11_34) ?_
  intro T40 X40 e40
  show OGoes p.tables e below _ (T40.setTop (mkF m 37 #[.val (.ref tb), .unset, .unset] [(.long n), (.ref bl)]))
  refine own_st (V := (T40.setTop (mkF m 40 #[.val (.ref tb), .unset, .unset] [(.long (32768 : Int64)), (.long n), (.ref bl)]))) (fun t ks => X40.ldc2Long hx hown (mvT hZ (hw _ (List.mem_of_getElem? (i := 69) rfl))) (g := (mkF m 37 #[.val (.ref tb), .unset, .unset] [(.long n), (.ref bl)])) rfl (hb hby d11_37) t ks) ?_
  refine own_st (V := (T40.setTop (mkF m 41 #[.val (.ref tb), .unset, .unset] [(.long (n / (32768 : Int64))), (.ref bl)]))) (fun t ks => XS.ldiv X40.here hx rfl (hb hby d11_40) rfl (by decide) ks) ?_
  refine own_st (V := (T40.setTop (mkF m 42 #[.val (.ref tb), .unset, .unset] [(.int ((n / (32768 : Int64)).toInt32)), (.ref bl)]))) (fun t ks => XS.l2i X40.here hx rfl (hb hby d11_41) rfl ks) ?_
  refine own_cast (g' := (mkF m 42 #[.val (.ref tb), .unset, .unset] [(.int (0 : Int32)), (.ref bl)])) (by rw [show ((n / (32768 : Int64)).toInt32) = (0 : Int32) from hA1]) ?_
  refine own_aaload X40 hx hZ e40 rfl A (v := (.ref w)) (by decide) (by decide) rfl (hb hby d11_42) ?_
  show OGoes p.tables e below _ (T40.setTop (mkF m 43 #[.val (.ref tb), .unset, .unset] [(.ref w)]))
  refine own_st (V := (T40.setTop (mkF m 44 #[.val (.ref tb), .val (.ref w), .unset] []))) (fun t ks => XS.astoreN X40.here hx rfl (hb hby d11_43) rfl rfl (l' := #[.val (.ref tb), .val (.ref w), .unset]) rfl ks) ?_
  refine own_st (V := (T40.setTop (mkF m 45 #[.val (.ref tb), .val (.ref w), .unset] [(.ref tb)]))) (fun t ks => XS.aloadN X40.here hx rfl (hb hby d11_44) rfl rfl ks) ?_
  refine own_getfield X40 hx hZ e40 hown (hw _ (List.mem_of_getElem? (i := 48) rfl)) Via.refl Fs (hb hby d11_45) ?_
  intro T41 X41 e41
  show OGoes p.tables e below _ (T41.setTop (mkF m 48 #[.val (.ref tb), .val (.ref w), .unset] [(.long n)]))
  refine own_st (V := (T41.setTop (mkF m 51 #[.val (.ref tb), .val (.ref w), .unset] [(.long (32 : Int64)), (.long n)]))) (fun t ks => X41.ldc2Long hx hown (mvT hZ (hw _ (List.mem_of_getElem? (i := 74) rfl))) (g := (mkF m 48 #[.val (.ref tb), .val (.ref w), .unset] [(.long n)])) rfl (hb hby d11_48) t ks) ?_
  refine own_st (V := (T41.setTop (mkF m 52 #[.val (.ref tb), .val (.ref w), .unset] [(.long (n - (n / (32 : Int64)) * (32 : Int64)))]))) (fun t ks => XS.lrem X41.here hx rfl (hb hby d11_51) rfl (by decide) ks) ?_
  refine own_st (V := (T41.setTop (mkF m 53 #[.val (.ref tb), .val (.ref w), .unset] [(.int ((n - (n / (32 : Int64)) * (32 : Int64)).toInt32))]))) (fun t ks => XS.l2i X41.here hx rfl (hb hby d11_52) rfl ks) ?_
  refine own_st (V := (T41.setTop (mkF m 54 #[.val (.ref tb), .val (.ref w), .unset] [(.int (2 : Int32)), (.int ((n - (n / (32 : Int64)) * (32 : Int64)).toInt32))]))) (fun t ks => XS.iconst X41.here hx rfl (hb hby d11_53) ks) ?_
  refine own_st (V := (T41.setTop (mkF m 55 #[.val (.ref tb), .val (.ref w), .unset] [(.int (((n - (n / (32 : Int64)) * (32 : Int64)).toInt32) * (2 : Int32)))]))) (fun t ks => XS.imul X41.here hx rfl (hb hby d11_54) rfl ks) ?_
  refine own_st (V := (T41.setTop (mkF m 56 #[.val (.ref tb), .val (.ref w), .val (.int (((n - (n / (32 : Int64)) * (32 : Int64)).toInt32) * (2 : Int32)))] []))) (fun t ks => XS.istoreN X41.here hx rfl (hb hby d11_55) rfl (l' := #[.val (.ref tb), .val (.ref w), .val (.int (((n - (n / (32 : Int64)) * (32 : Int64)).toInt32) * (2 : Int32)))]) rfl ks) ?_
  refine own_cast (g' := (mkF m 56 #[.val (.ref tb), .val (.ref w), .val (.int (own_sh n))] [])) (by rw [show (((n - (n / (32 : Int64)) * (32 : Int64)).toInt32) * (2 : Int32)) = (own_sh n) from rfl]) ?_
  refine own_st (V := (T41.setTop (mkF m 57 #[.val (.ref tb), .val (.ref w), .val (.int (own_sh n))] [(.ref w)]))) (fun t ks => XS.aloadN X41.here hx rfl (hb hby d11_56) rfl rfl ks) ?_
  refine own_st (V := (T41.setTop (mkF m 58 #[.val (.ref tb), .val (.ref w), .val (.int (own_sh n))] [(.ref tb), (.ref w)]))) (fun t ks => XS.aloadN X41.here hx rfl (hb hby d11_57) rfl rfl ks) ?_
  refine own_getfield X41 hx hZ e41 hown (hw _ (List.mem_of_getElem? (i := 48) rfl)) Via.refl Fs (hb hby d11_58) ?_
  intro T42 X42 e42
  show OGoes p.tables e below _ (T42.setTop (mkF m 61 #[.val (.ref tb), .val (.ref w), .val (.int (own_sh n))] [(.long n), (.ref w)]))
  refine own_st (V := (T42.setTop (mkF m 64 #[.val (.ref tb), .val (.ref w), .val (.int (own_sh n))] [(.long (32768 : Int64)), (.long n), (.ref w)]))) (fun t ks => X42.ldc2Long hx hown (mvT hZ (hw _ (List.mem_of_getElem? (i := 69) rfl))) (g := (mkF m 61 #[.val (.ref tb), .val (.ref w), .val (.int (own_sh n))] [(.long n), (.ref w)])) rfl (hb hby d11_61) t ks) ?_
  refine own_st (V := (T42.setTop (mkF m 65 #[.val (.ref tb), .val (.ref w), .val (.int (own_sh n))] [(.long (n - (n / (32768 : Int64)) * (32768 : Int64))), (.ref w)]))) (fun t ks => XS.lrem X42.here hx rfl (hb hby d11_64) rfl (by decide) ks) ?_
  refine own_st (V := (T42.setTop (mkF m 68 #[.val (.ref tb), .val (.ref w), .val (.int (own_sh n))] [(.long (32 : Int64)), (.long (n - (n / (32768 : Int64)) * (32768 : Int64))), (.ref w)]))) (fun t ks => X42.ldc2Long hx hown (mvT hZ (hw _ (List.mem_of_getElem? (i := 74) rfl))) (g := (mkF m 65 #[.val (.ref tb), .val (.ref w), .val (.int (own_sh n))] [(.long (n - (n / (32768 : Int64)) * (32768 : Int64))), (.ref w)])) rfl (hb hby d11_65) t ks) ?_
  refine own_st (V := (T42.setTop (mkF m 69 #[.val (.ref tb), .val (.ref w), .val (.int (own_sh n))] [(.long ((n - (n / (32768 : Int64)) * (32768 : Int64)) / (32 : Int64))), (.ref w)]))) (fun t ks => XS.ldiv X42.here hx rfl (hb hby d11_68) rfl (by decide) ks) ?_
  refine own_st (V := (T42.setTop (mkF m 70 #[.val (.ref tb), .val (.ref w), .val (.int (own_sh n))] [(.int (((n - (n / (32768 : Int64)) * (32768 : Int64)) / (32 : Int64)).toInt32)), (.ref w)]))) (fun t ks => XS.l2i X42.here hx rfl (hb hby d11_69) rfl ks) ?_
  refine own_cast (g' := (mkF m 70 #[.val (.ref tb), .val (.ref w), .val (.int (own_sh n))] [(.int (0 : Int32)), (.ref w)])) (by rw [show (((n - (n / (32768 : Int64)) * (32768 : Int64)) / (32 : Int64)).toInt32) = (0 : Int32) from hA2]) ?_
  refine own_laload X42 hx hZ e42 Aw (v := (.long x)) (by decide) (by decide) rfl (hb hby d11_70) ?_
  show OGoes p.tables e below _ (T42.setTop (mkF m 71 #[.val (.ref tb), .val (.ref w), .val (.int (own_sh n))] [(.long x)]))
  refine own_st (V := (T42.setTop (mkF m 72 #[.val (.ref tb), .val (.ref w), .val (.int (own_sh n))] [(.int (own_sh n)), (.long x)]))) (fun t ks => XS.iloadN X42.here hx rfl (hb hby d11_71) rfl ks) ?_
  refine own_st (V := (T42.setTop (mkF m 73 #[.val (.ref tb), .val (.ref w), .val (.int (own_sh n))] [(.long ((x.toUInt64 >>> ((own_sh n) &&& 0x3f).toInt64.toUInt64).toInt64))]))) (fun t ks => XS.lushr X42.here hx rfl (hb hby d11_72) rfl ks) ?_
  refine own_st (V := (T42.setTop (mkF m 74 #[.val (.ref tb), .val (.ref w), .val (.int (own_sh n))] [(.int (((x.toUInt64 >>> ((own_sh n) &&& 0x3f).toInt64.toUInt64).toInt64).toInt32))]))) (fun t ks => XS.l2i X42.here hx rfl (hb hby d11_73) rfl ks) ?_
  refine own_st (V := (T42.setTop (mkF m 75 #[.val (.ref tb), .val (.ref w), .val (.int (own_sh n))] [(.int (3 : Int32)), (.int (((x.toUInt64 >>> ((own_sh n) &&& 0x3f).toInt64.toUInt64).toInt64).toInt32))]))) (fun t ks => XS.iconst X42.here hx rfl (hb hby d11_74) ks) ?_
  refine own_st (V := (T42.setTop (mkF m 76 #[.val (.ref tb), .val (.ref w), .val (.int (own_sh n))] [(.int ((((x.toUInt64 >>> ((own_sh n) &&& 0x3f).toInt64.toUInt64).toInt64).toInt32) &&& (3 : Int32)))]))) (fun t ks => XS.iand X42.here hx rfl (hb hby d11_75) rfl ks) ?_
  exact own_retI X42 hx hlk hret (hb hby d11_76) (by decide) (by decide) ⟨rfl, N38, by rw [e42]; exact K, by rw [e42]; exact ⟨E, Fb, Fc, Fs, A, Aw⟩⟩
theorem ef_rmP0 (m : MethodId) (x0 : Nat) (x1 : Nat) : entryFrame m #[(.ref x0), (.ref x1)] 2 = mkF m 0 #[.val (.ref x0), .val (.ref x1)] [] := by first | (simp [entryFrame, mkF, argsToLocals, Value.category]; done) | rfl
set_option maxRecDepth 65536 in
set_option maxHeartbeats 40000000 in
theorem rmP0 (l : Launch) (Z : State) (a0 : Array Value) (hw : ∀ d ∈ tables_1, d.before a0 Z = true) (ms d tb bl : Nat) (kb : ClassId) (v1 : Int32) (hv : (v1 &&& (-4 : Int32)) = 0) (h0 : Heap) (hO : Ext Z.heap h0) (Fm : Fld Z h0 ms "com/example/hedgerow/hedgerow/maze/MoveStack" "moves" "Lcom/example/hedgerow/hedgerow/maze/TwoBitList;" (.ref tb)) (Ed : Exa Z h0 d "com/example/hedgerow/hedgerow/maze/Direction") (Fo : Fld Z h0 d "java/lang/Enum" "ordinal" "I" (.int v1)) (H : own_TB0 Z h0 tb bl kb) (ge : Z.heap.size ≤ tb) (hlt : tb < bl) :
    OMet l Z (⟨"com/example/hedgerow/hedgerow/maze/MoveStack", "push", "(Lcom/example/hedgerow/hedgerow/maze/Direction;)V"⟩ : MethodName) prog_24_method_2_code 2 none ⟨1, 1, 1024, 17⟩ #[(.ref ms), (.ref d)] h0 (fun v h L => v = none ∧ Fr Z.heap.size L ∧ Keep h0 h [tb, bl] ∧ ∃ (w : Nat) (kw : ClassId), h0.size ≤ w ∧ own_TB1 Z h tb bl w kb kw 1 (own_put 0 0 v1)) := by
  refine own_body pf_7 ?_
  intro p e s m below meth c T0 X0 hx hby hml hZ hown hnm hret hlk e0
  replace hown : s.vm.findClass "com/example/hedgerow/hedgerow/maze/MoveStack" = some m.cls := hown
  refine own_cast (ef_rmP0 m (ms) (d)) ?_
  show OGoes p.tables e below _ (T0.setTop (mkF m 0 #[.val (.ref ms), .val (.ref d)] []))
  refine own_st (V := (T0.setTop (mkF m 1 #[.val (.ref ms), .val (.ref d)] [(.ref ms)]))) (fun t ks => XS.aloadN X0.here hx rfl (hb hby d7_0) rfl rfl ks) ?_
  refine own_getfield X0 hx hZ e0 hown (hw _ (List.mem_of_getElem? (i := 36) rfl)) Via.refl Fm (hb hby d7_1) ?_
  intro T43 X43 e43
  show OGoes p.tables e below _ (T43.setTop (mkF m 4 #[.val (.ref ms), .val (.ref d)] [(.ref tb)]))
  refine own_st (V := (T43.setTop (mkF m 5 #[.val (.ref ms), .val (.ref d)] [(.ref d), (.ref tb)]))) (fun t ks => XS.aloadN X43.here hx rfl (hb hby d7_4) rfl rfl ks) ?_
  refine own_callU0 X43 hx hZ hown (hw _ (List.mem_of_getElem? (i := 55) rfl)) (hw _ (List.mem_of_getElem? (i := 56) rfl)) (hw _ (List.mem_of_getElem? (i := 57) rfl)) (hw _ (List.mem_of_getElem? (i := 59) rfl)) (hw _ (List.mem_of_getElem? (i := 58) rfl)) (hw _ (List.mem_of_getElem? (i := 60) rfl)) (hw _ (List.mem_of_getElem? (i := 61) rfl)) (by decide) (rmO l Z a0 hw d v1 h0 Fo) e43 Ed (by rw [hml]; rfl) (argsL := []) (rest := [(.ref tb)]) pd_2 rfl rfl rfl (W := 1) (Nat.le_of_eq rfl) (hb hby d7_5) (by decide) (by decide) (by decide) (by decide) ?_
  intro T44 X44 e44
  show OGoes p.tables e below _ (T44.setTop (mkF m 8 #[.val (.ref ms), .val (.ref d)] [(.int v1), (.ref tb)]))
  refine own_callV X44 hx hZ hown (hw _ (List.mem_of_getElem? (i := 64) rfl)) (hw _ (List.mem_of_getElem? (i := 65) rfl)) (hw _ (List.mem_of_getElem? (i := 67) rfl)) (hw _ (List.mem_of_getElem? (i := 66) rfl)) (hw _ (List.mem_of_getElem? (i := 27) rfl)) (hw _ (List.mem_of_getElem? (i := 68) rfl)) (by decide) (rmA0 l Z a0 hw tb bl kb v1 hv h0 hO H ge hlt) e44 H.1 (by rw [hml]; rfl) (argsL := [(.int v1)]) (rest := []) pd_3 rfl rfl rfl (W := 0) (Nat.le_of_eq rfl) (hb hby d7_8) (by decide) (by decide) (by decide) (by decide) ?_
  rintro v45 T45 L45 X45 ⟨rfl, N45, K45, w, kw, hw1, H1⟩
  replace N45 := Fr.app (Fr.nil Z.heap.size) N45
  show OGoes p.tables e below _ (T45.setTop (mkF m 11 #[.val (.ref ms), .val (.ref d)] []))
  exact own_retV X45 hx hlk hret (hb hby d7_11) (by decide) (by decide) ⟨rfl, N45, K45, w, kw, hw1, H1⟩
theorem ef_rmP1 (m : MethodId) (x0 : Nat) (x1 : Nat) : entryFrame m #[(.ref x0), (.ref x1)] 2 = mkF m 0 #[.val (.ref x0), .val (.ref x1)] [] := by first | (simp [entryFrame, mkF, argsToLocals, Value.category]; done) | rfl
set_option maxRecDepth 65536 in
set_option maxHeartbeats 40000000 in
theorem rmP1 (l : Launch) (Z : State) (a0 : Array Value) (hw : ∀ d ∈ tables_1, d.before a0 Z = true) (ms d tb bl w : Nat) (kb kw : ClassId) (n n1 x : Int64) (v1 : Int32) (hv : (v1 &&& (-4 : Int32)) = 0) (hn1 : n + 1 = n1) (hA1 : ((n / (32768 : Int64)).toInt32) = 0) (hA2 : (((n - (n / (32768 : Int64)) * (32768 : Int64)) / (32 : Int64)).toInt32) = 0) (h0 : Heap) (hO : Ext Z.heap h0) (Fm : Fld Z h0 ms "com/example/hedgerow/hedgerow/maze/MoveStack" "moves" "Lcom/example/hedgerow/hedgerow/maze/TwoBitList;" (.ref tb)) (Ed : Exa Z h0 d "com/example/hedgerow/hedgerow/maze/Direction") (Fo : Fld Z h0 d "java/lang/Enum" "ordinal" "I" (.int v1)) (H : own_TB1 Z h0 tb bl w kb kw n x) (ge : Z.heap.size ≤ tb) (hlt : tb < bl) (hlw : bl < w) :
    OMet l Z (⟨"com/example/hedgerow/hedgerow/maze/MoveStack", "push", "(Lcom/example/hedgerow/hedgerow/maze/Direction;)V"⟩ : MethodName) prog_24_method_2_code 2 none ⟨1, 0, 0, 17⟩ #[(.ref ms), (.ref d)] h0 (fun v h L => v = none ∧ Fr Z.heap.size L ∧ Keep h0 h [tb, w] ∧ own_TB1 Z h tb bl w kb kw n1 (own_put x n v1)) := by
  refine own_body pf_7 ?_
  intro p e s m below meth c T0 X0 hx hby hml hZ hown hnm hret hlk e0
  replace hown : s.vm.findClass "com/example/hedgerow/hedgerow/maze/MoveStack" = some m.cls := hown
  refine own_cast (ef_rmP1 m (ms) (d)) ?_
  show OGoes p.tables e below _ (T0.setTop (mkF m 0 #[.val (.ref ms), .val (.ref d)] []))
  refine own_st (V := (T0.setTop (mkF m 1 #[.val (.ref ms), .val (.ref d)] [(.ref ms)]))) (fun t ks => XS.aloadN X0.here hx rfl (hb hby d7_0) rfl rfl ks) ?_
  refine own_getfield X0 hx hZ e0 hown (hw _ (List.mem_of_getElem? (i := 36) rfl)) Via.refl Fm (hb hby d7_1) ?_
  intro T46 X46 e46
  show OGoes p.tables e below _ (T46.setTop (mkF m 4 #[.val (.ref ms), .val (.ref d)] [(.ref tb)]))
  refine own_st (V := (T46.setTop (mkF m 5 #[.val (.ref ms), .val (.ref d)] [(.ref d), (.ref tb)]))) (fun t ks => XS.aloadN X46.here hx rfl (hb hby d7_4) rfl rfl ks) ?_
  refine own_callU0 X46 hx hZ hown (hw _ (List.mem_of_getElem? (i := 55) rfl)) (hw _ (List.mem_of_getElem? (i := 56) rfl)) (hw _ (List.mem_of_getElem? (i := 57) rfl)) (hw _ (List.mem_of_getElem? (i := 59) rfl)) (hw _ (List.mem_of_getElem? (i := 58) rfl)) (hw _ (List.mem_of_getElem? (i := 60) rfl)) (hw _ (List.mem_of_getElem? (i := 61) rfl)) (by decide) (rmO l Z a0 hw d v1 h0 Fo) e46 Ed (by rw [hml]; rfl) (argsL := []) (rest := [(.ref tb)]) pd_2 rfl rfl rfl (W := 1) (Nat.le_of_eq rfl) (hb hby d7_5) (by decide) (by decide) (by decide) (by decide) ?_
  intro T47 X47 e47
  show OGoes p.tables e below _ (T47.setTop (mkF m 8 #[.val (.ref ms), .val (.ref d)] [(.int v1), (.ref tb)]))
  refine own_callV X47 hx hZ hown (hw _ (List.mem_of_getElem? (i := 64) rfl)) (hw _ (List.mem_of_getElem? (i := 65) rfl)) (hw _ (List.mem_of_getElem? (i := 67) rfl)) (hw _ (List.mem_of_getElem? (i := 66) rfl)) (hw _ (List.mem_of_getElem? (i := 27) rfl)) (hw _ (List.mem_of_getElem? (i := 68) rfl)) (by decide) (rmA1 l Z a0 hw tb bl w kb kw n n1 x v1 hv hn1 hA1 hA2 h0 hO H ge hlt hlw) e47 H.1 (by rw [hml]; rfl) (argsL := [(.int v1)]) (rest := []) pd_3 rfl rfl rfl (W := 0) (Nat.le_of_eq rfl) (hb hby d7_8) (by decide) (by decide) (by decide) (by decide) ?_
  rintro v48 T48 L48 X48 ⟨rfl, N48, K48, H1⟩
  replace N48 := Fr.app (Fr.nil Z.heap.size) N48
  show OGoes p.tables e below _ (T48.setTop (mkF m 11 #[.val (.ref ms), .val (.ref d)] []))
  exact own_retV X48 hx hlk hret (hb hby d7_11) (by decide) (by decide) ⟨rfl, N48, K48, H1⟩
theorem ef_rmQ (m : MethodId) (x0 : Nat) : entryFrame m #[(.ref x0)] 1 = mkF m 0 #[.val (.ref x0)] [] := by first | (simp [entryFrame, mkF, argsToLocals, Value.category]; done) | rfl
set_option maxRecDepth 65536 in
set_option maxHeartbeats 40000000 in
theorem rmQ (l : Launch) (Z : State) (a0 : Array Value) (hw : ∀ d ∈ tables_1, d.before a0 Z = true) (ms tb bl w aD wN wE wS wW d : Nat) (kb kw kD : ClassId) (n1 n x : Int64) (h1 : ¬ n1 = 0) (hn1 : n1 - 1 = n) (v1 : Int32) (hv1 : own_get x n = v1) (hv4 : ¬ v1 < 0 ∧ v1 < 4) (hd : own_dAt wN wE wS wW v1 = d) (hA1 : ((n / (32768 : Int64)).toInt32) = 0) (hA2 : (((n - (n / (32768 : Int64)) * (32768 : Int64)) / (32 : Int64)).toInt32) = 0) (h0 : Heap) (hO : Ext Z.heap h0) (Em : Exa Z h0 ms "com/example/hedgerow/hedgerow/maze/MoveStack") (Fm : Fld Z h0 ms "com/example/hedgerow/hedgerow/maze/MoveStack" "moves" "Lcom/example/hedgerow/hedgerow/maze/TwoBitList;" (.ref tb)) (SD : Sta Z Z.heap "com/example/hedgerow/hedgerow/maze/MoveStack" "DIRECTIONS" "[Lcom/example/hedgerow/hedgerow/maze/Direction;" (.ref aD)) (AD : Arv Z Z.heap aD kD (.object "com/example/hedgerow/hedgerow/maze/Direction") 4 [.ref wN, .ref wE, .ref wS, .ref wW] .null) (H : own_TB1 Z h0 tb bl w kb kw n1 x) (ge : Z.heap.size ≤ tb) (hlt : tb < bl) (hlw : bl < w) :
    OMet l Z (⟨"com/example/hedgerow/hedgerow/maze/MoveStack", "pop", "()Lcom/example/hedgerow/hedgerow/maze/Direction;"⟩ : MethodName) prog_24_method_3_code 1 (some (.object "com/example/hedgerow/hedgerow/maze/Direction")) ⟨2, 0, 0, 24⟩ #[(.ref ms)] h0 (fun v h L => v = some (.ref d) ∧ Fr Z.heap.size L ∧ Keep h0 h [tb] ∧ own_TB1 Z h tb bl w kb kw n x) := by
  refine own_body pf_10 ?_
  intro p e s m below meth c T0 X0 hx hby hml hZ hown hnm hret hlk e0
  replace hown : s.vm.findClass "com/example/hedgerow/hedgerow/maze/MoveStack" = some m.cls := hown
  refine own_cast (ef_rmQ m (ms)) ?_
  show OGoes p.tables e below _ (T0.setTop (mkF m 0 #[.val (.ref ms)] []))
  refine own_st (V := (T0.setTop (mkF m 1 #[.val (.ref ms)] [(.ref ms)]))) (fun t ks => XS.aloadN X0.here hx rfl (hb hby d10_0) rfl rfl ks) ?_
  refine own_callV0 X0 hx hZ hown (hw _ (List.mem_of_getElem? (i := 82) rfl)) (hw _ (List.mem_of_getElem? (i := 39) rfl)) (hw _ (List.mem_of_getElem? (i := 41) rfl)) (hw _ (List.mem_of_getElem? (i := 40) rfl)) (hw _ (List.mem_of_getElem? (i := 18) rfl)) (hw _ (List.mem_of_getElem? (i := 42) rfl)) (by decide) (rmE l Z a0 hw ms tb n1 0 (if_neg h1) h0 Fm H.1 H.2.2.2.1) e0 Em (by rw [hml]; rfl) (argsL := []) (rest := []) pd_4 rfl rfl rfl (W := 0) (Nat.le_of_eq rfl) (hb hby d10_1) (by decide) (by decide) (by decide) (by decide) ?_
  intro T49 X49 e49
  show OGoes p.tables e below _ (T49.setTop (mkF m 4 #[.val (.ref ms)] [(.int (0 : Int32))]))
  refine own_st (V := (T49.setTop (mkF m 17 #[.val (.ref ms)] []))) (fun t ks => XS.ifYes X49.here hx rfl (pc0 := 4) (pc' := 17) rfl (hb hby d10_4) rfl (XT.i0_eq_t (by decide)) (by decide) (by decide) ks) ?_
  refine own_getstatic X49 hx hZ e49 hown (hw _ (List.mem_of_getElem? (i := 83) rfl)) (SD.ext hO) (hb hby d10_17) ?_
  intro T50 X50 e50
  show OGoes p.tables e below _ (T50.setTop (mkF m 20 #[.val (.ref ms)] [(.ref aD)]))
  refine own_st (V := (T50.setTop (mkF m 21 #[.val (.ref ms)] [(.ref ms), (.ref aD)]))) (fun t ks => XS.aloadN X50.here hx rfl (hb hby d10_20) rfl rfl ks) ?_
  refine own_getfield X50 hx hZ e50 hown (hw _ (List.mem_of_getElem? (i := 36) rfl)) Via.refl Fm (hb hby d10_21) ?_
  intro T51 X51 e51
  show OGoes p.tables e below _ (T51.setTop (mkF m 24 #[.val (.ref ms)] [(.ref tb), (.ref aD)]))
  refine own_callV X51 hx hZ hown (hw _ (List.mem_of_getElem? (i := 85) rfl)) (hw _ (List.mem_of_getElem? (i := 86) rfl)) (hw _ (List.mem_of_getElem? (i := 88) rfl)) (hw _ (List.mem_of_getElem? (i := 87) rfl)) (hw _ (List.mem_of_getElem? (i := 27) rfl)) (hw _ (List.mem_of_getElem? (i := 89) rfl)) (by decide) (rmR l Z a0 hw tb bl w kb kw n1 n x h1 hn1 hA1 hA2 h0 hO H ge hlt hlw) e51 H.1 (by rw [hml]; rfl) (argsL := []) (rest := [(.ref aD)]) pd_2 rfl rfl rfl (W := 1) (Nat.le_of_eq rfl) (hb hby d10_24) (by decide) (by decide) (by decide) (by decide) ?_
  rintro v52 T52 L52 X52 ⟨rfl, N52, K52, H1⟩
  replace N52 := Fr.app (Fr.nil Z.heap.size) N52
  show OGoes p.tables e below _ (T52.setTop (mkF m 27 #[.val (.ref ms)] [(.int (own_get x n)), (.ref aD)]))
  refine own_cast (g' := (mkF m 27 #[.val (.ref ms)] [(.int v1), (.ref aD)])) (by rw [show (own_get x n) = v1 from hv1]) ?_
  replace hO := own_old_keep hO K52 (allS ge all0)
  refine own_aaload X52 hx hZ rfl rfl (AD.ext hO) (v := (.ref d)) hv4.1 hv4.2 ((own_dAt_get hv4).trans (congrArg Value.ref hd)) (hb hby d10_27) ?_
  show OGoes p.tables e below _ (T52.setTop (mkF m 28 #[.val (.ref ms)] [(.ref d)]))
  exact own_retA X52 hx hlk rfl hret rfl (hb hby d10_28) (by decide) (by decide) ⟨rfl, N52, K52, H1⟩
theorem ef_rm0 (m : MethodId) (x0 : Int32) (x1 : Int32) (x2 : Int32) : entryFrame m #[(.int x0), (.int x1), (.int x2)] maxLocals = mkF m 0 #[.val (.int x0), .val (.int x1), .val (.int x2), .unset, .unset, .unset, .unset, .unset, .unset, .unset, .unset, .unset] [] := by first | (simp [entryFrame, mkF, argsToLocals, Value.category, maxLocals]; done) | rfl
set_option maxRecDepth 65536 in
set_option maxHeartbeats 40000000 in
theorem rm0 (l : Launch) (Z : State) (a0 : Array Value) (hw : ∀ d ∈ tables_1, d.before a0 Z = true) (p1 p2 p3 : Int32) (wN wE wS wW aD : Nat) (kD : ClassId) (h0 : Heap) (hO : Ext Z.heap h0) (S_wN : Sta Z Z.heap "com/example/hedgerow/hedgerow/maze/Direction" "NORTH" "Lcom/example/hedgerow/hedgerow/maze/Direction;" (.ref wN)) (E_wN : Exa Z Z.heap wN "com/example/hedgerow/hedgerow/maze/Direction") (O_wN : Fld Z Z.heap wN "java/lang/Enum" "ordinal" "I" (.int 0)) (S_wE : Sta Z Z.heap "com/example/hedgerow/hedgerow/maze/Direction" "EAST" "Lcom/example/hedgerow/hedgerow/maze/Direction;" (.ref wE)) (E_wE : Exa Z Z.heap wE "com/example/hedgerow/hedgerow/maze/Direction") (O_wE : Fld Z Z.heap wE "java/lang/Enum" "ordinal" "I" (.int 1)) (S_wS : Sta Z Z.heap "com/example/hedgerow/hedgerow/maze/Direction" "SOUTH" "Lcom/example/hedgerow/hedgerow/maze/Direction;" (.ref wS)) (E_wS : Exa Z Z.heap wS "com/example/hedgerow/hedgerow/maze/Direction") (O_wS : Fld Z Z.heap wS "java/lang/Enum" "ordinal" "I" (.int 2)) (S_wW : Sta Z Z.heap "com/example/hedgerow/hedgerow/maze/Direction" "WEST" "Lcom/example/hedgerow/hedgerow/maze/Direction;" (.ref wW)) (E_wW : Exa Z Z.heap wW "com/example/hedgerow/hedgerow/maze/Direction") (O_wW : Fld Z Z.heap wW "java/lang/Enum" "ordinal" "I" (.int 3)) (SD : Sta Z Z.heap "com/example/hedgerow/hedgerow/maze/MoveStack" "DIRECTIONS" "[Lcom/example/hedgerow/hedgerow/maze/Direction;" (.ref aD)) (AD : Arv Z Z.heap aD kD (.object "com/example/hedgerow/hedgerow/maze/Direction") 4 [.ref wN, .ref wE, .ref wS, .ref wW] .null) :
    OMet l Z x code maxLocals ret room_1 #[(.int p1), (.int p2), (.int p3)] h0 (fun v h L => v = some (.int 1) ∧ Fr Z.heap.size L) := by
  refine own_body pf_0 ?_
  intro p e s m below meth c T0 X0 hx hby hml hZ hown hnm hret hlk e0
  replace hown : s.vm.findClass "com/example/hedgerow/hedgerow/maze/MoveStackIsEmptyPinLaw" = some m.cls := hown
  refine own_cast (ef_rm0 m (p1) (p2) (p3)) ?_
  show OGoes p.tables e below _ (T0.setTop (mkF m 0 #[.val (.int p1), .val (.int p2), .val (.int p3), .unset, .unset, .unset, .unset, .unset, .unset, .unset, .unset, .unset] []))
  refine own_st (V := (T0.setTop (mkF m 1 #[.val (.int p1), .val (.int p2), .val (.int p3), .unset, .unset, .unset, .unset, .unset, .unset, .unset, .unset, .unset] [(.int (4 : Int32))]))) (fun t ks => XS.iconst X0.here hx rfl (hb hby at_0) ks) ?_
  have lt_Z := hO.1
  refine own_anewarray X0 hx hZ e0 hown (hw _ (List.mem_of_getElem? (i := 0) rfl)) (hw _ (List.mem_of_getElem? (i := 1) rfl)) (by decide) (cap := 4) (by decide) (by decide) (by decide) (by decide) (hb hby at_1) ?_
  intro T53 h53 k53 b53 X53 e53 Ex53 g53 Ds ODs
  replace hO := own_ext_trans hO Ex53
  have ltn_53 : @LT.lt Nat _ b53 h53.size := Ds.lt
  show OGoes p.tables e below _ (T53.setTop (mkF m 4 #[.val (.int p1), .val (.int p2), .val (.int p3), .unset, .unset, .unset, .unset, .unset, .unset, .unset, .unset, .unset] [(.ref b53)]))
  replace Ds : Arv Z h53 b53 _ (.object "com/example/hedgerow/hedgerow/maze/Direction") 4 [.null, .null, .null, .null] .null := Ds.pad (pad_rep [] .null 4)
  refine own_st (V := (T53.setTop (mkF m 5 #[.val (.int p1), .val (.int p2), .val (.int p3), .unset, .unset, .unset, .unset, .unset, .unset, .unset, .unset, .unset] [(.ref b53), (.ref b53)]))) (fun t ks => XS.dup X53.here hx rfl (hb hby at_4) rfl rfl ks) ?_
  refine own_st (V := (T53.setTop (mkF m 6 #[.val (.int p1), .val (.int p2), .val (.int p3), .unset, .unset, .unset, .unset, .unset, .unset, .unset, .unset, .unset] [(.int (0 : Int32)), (.ref b53), (.ref b53)]))) (fun t ks => XS.iconst X53.here hx rfl (hb hby at_5) ks) ?_
  refine own_getstatic X53 hx hZ e53 hown (hw _ (List.mem_of_getElem? (i := 2) rfl)) (S_wN.ext hO) (hb hby at_6) ?_
  intro T54 X54 e54
  show OGoes p.tables e below _ (T54.setTop (mkF m 9 #[.val (.int p1), .val (.int p2), .val (.int p3), .unset, .unset, .unset, .unset, .unset, .unset, .unset, .unset, .unset] [(.ref wN), (.int (0 : Int32)), (.ref b53), (.ref b53)]))
  refine own_aastore X54 hx hZ e54 Ds (by decide) (by decide) rfl (Nat.le_of_ble_eq_true rfl) rfl rfl (own_sto Ds ODs (Ins.self (E_wN.ext hO))) (Fr.nil Z.heap.size) (by omega) (hb hby at_9) ?_
  intro T55 h55 L55 X55 e55 N55 W55 An55
  replace hO := own_old_wr hO W55 (by omega)
  replace Ds := An55
  show OGoes p.tables e below _ (T55.setTop (mkF m 10 #[.val (.int p1), .val (.int p2), .val (.int p3), .unset, .unset, .unset, .unset, .unset, .unset, .unset, .unset, .unset] [(.ref b53)]))
  refine own_st (V := (T55.setTop (mkF m 11 #[.val (.int p1), .val (.int p2), .val (.int p3), .unset, .unset, .unset, .unset, .unset, .unset, .unset, .unset, .unset] [(.ref b53), (.ref b53)]))) (fun t ks => XS.dup X55.here hx rfl (hb hby at_10) rfl rfl ks) ?_
  refine own_st (V := (T55.setTop (mkF m 12 #[.val (.int p1), .val (.int p2), .val (.int p3), .unset, .unset, .unset, .unset, .unset, .unset, .unset, .unset, .unset] [(.int (1 : Int32)), (.ref b53), (.ref b53)]))) (fun t ks => XS.iconst X55.here hx rfl (hb hby at_11) ks) ?_
  refine own_getstatic X55 hx hZ e55 hown (hw _ (List.mem_of_getElem? (i := 6) rfl)) (S_wE.ext hO) (hb hby at_12) ?_
  intro T56 X56 e56
  show OGoes p.tables e below _ (T56.setTop (mkF m 15 #[.val (.int p1), .val (.int p2), .val (.int p3), .unset, .unset, .unset, .unset, .unset, .unset, .unset, .unset, .unset] [(.ref wE), (.int (1 : Int32)), (.ref b53), (.ref b53)]))
  refine own_aastore X56 hx hZ e56 Ds (by decide) (by decide) rfl (Nat.le_of_ble_eq_true rfl) rfl rfl (own_sto Ds ODs (Ins.self (E_wE.ext hO))) N55 (by omega) (hb hby at_15) ?_
  intro T57 h57 L57 X57 e57 N57 W57 An57
  replace hO := own_old_wr hO W57 (by omega)
  replace Ds := An57
  show OGoes p.tables e below _ (T57.setTop (mkF m 16 #[.val (.int p1), .val (.int p2), .val (.int p3), .unset, .unset, .unset, .unset, .unset, .unset, .unset, .unset, .unset] [(.ref b53)]))
  refine own_st (V := (T57.setTop (mkF m 17 #[.val (.int p1), .val (.int p2), .val (.int p3), .unset, .unset, .unset, .unset, .unset, .unset, .unset, .unset, .unset] [(.ref b53), (.ref b53)]))) (fun t ks => XS.dup X57.here hx rfl (hb hby at_16) rfl rfl ks) ?_
  refine own_st (V := (T57.setTop (mkF m 18 #[.val (.int p1), .val (.int p2), .val (.int p3), .unset, .unset, .unset, .unset, .unset, .unset, .unset, .unset, .unset] [(.int (2 : Int32)), (.ref b53), (.ref b53)]))) (fun t ks => XS.iconst X57.here hx rfl (hb hby at_17) ks) ?_
  refine own_getstatic X57 hx hZ e57 hown (hw _ (List.mem_of_getElem? (i := 8) rfl)) (S_wS.ext hO) (hb hby at_18) ?_
  intro T58 X58 e58
  show OGoes p.tables e below _ (T58.setTop (mkF m 21 #[.val (.int p1), .val (.int p2), .val (.int p3), .unset, .unset, .unset, .unset, .unset, .unset, .unset, .unset, .unset] [(.ref wS), (.int (2 : Int32)), (.ref b53), (.ref b53)]))
  refine own_aastore X58 hx hZ e58 Ds (by decide) (by decide) rfl (Nat.le_of_ble_eq_true rfl) rfl rfl (own_sto Ds ODs (Ins.self (E_wS.ext hO))) N57 (by omega) (hb hby at_21) ?_
  intro T59 h59 L59 X59 e59 N59 W59 An59
  replace hO := own_old_wr hO W59 (by omega)
  replace Ds := An59
  show OGoes p.tables e below _ (T59.setTop (mkF m 22 #[.val (.int p1), .val (.int p2), .val (.int p3), .unset, .unset, .unset, .unset, .unset, .unset, .unset, .unset, .unset] [(.ref b53)]))
  refine own_st (V := (T59.setTop (mkF m 23 #[.val (.int p1), .val (.int p2), .val (.int p3), .unset, .unset, .unset, .unset, .unset, .unset, .unset, .unset, .unset] [(.ref b53), (.ref b53)]))) (fun t ks => XS.dup X59.here hx rfl (hb hby at_22) rfl rfl ks) ?_
  refine own_st (V := (T59.setTop (mkF m 24 #[.val (.int p1), .val (.int p2), .val (.int p3), .unset, .unset, .unset, .unset, .unset, .unset, .unset, .unset, .unset] [(.int (3 : Int32)), (.ref b53), (.ref b53)]))) (fun t ks => XS.iconst X59.here hx rfl (hb hby at_23) ks) ?_
  refine own_getstatic X59 hx hZ e59 hown (hw _ (List.mem_of_getElem? (i := 10) rfl)) (S_wW.ext hO) (hb hby at_24) ?_
  intro T60 X60 e60
  show OGoes p.tables e below _ (T60.setTop (mkF m 27 #[.val (.int p1), .val (.int p2), .val (.int p3), .unset, .unset, .unset, .unset, .unset, .unset, .unset, .unset, .unset] [(.ref wW), (.int (3 : Int32)), (.ref b53), (.ref b53)]))
  refine own_aastore X60 hx hZ e60 Ds (by decide) (by decide) rfl (Nat.le_of_ble_eq_true rfl) rfl rfl (own_sto Ds ODs (Ins.self (E_wW.ext hO))) N59 (by omega) (hb hby at_27) ?_
  intro T61 h61 L61 X61 e61 N61 W61 An61
  replace hO := own_old_wr hO W61 (by omega)
  replace Ds := An61
  show OGoes p.tables e below _ (T61.setTop (mkF m 28 #[.val (.int p1), .val (.int p2), .val (.int p3), .unset, .unset, .unset, .unset, .unset, .unset, .unset, .unset, .unset] [(.ref b53)]))
  replace Ds : Arv Z h61 b53 _ (.object "com/example/hedgerow/hedgerow/maze/Direction") 4 [.ref wN, .ref wE, .ref wS, .ref wW] .null := Ds
  refine own_st (V := (T61.setTop (mkF m 29 #[.val (.int p1), .val (.int p2), .val (.int p3), .val (.ref b53), .unset, .unset, .unset, .unset, .unset, .unset, .unset, .unset] []))) (fun t ks => XS.astoreN X61.here hx rfl (hb hby at_28) rfl rfl (l' := #[.val (.int p1), .val (.int p2), .val (.int p3), .val (.ref b53), .unset, .unset, .unset, .unset, .unset, .unset, .unset, .unset]) rfl ks) ?_
  refine own_st (V := (T61.setTop (mkF m 30 #[.val (.int p1), .val (.int p2), .val (.int p3), .val (.ref b53), .unset, .unset, .unset, .unset, .unset, .unset, .unset, .unset] [(.int p1)]))) (fun t ks => XS.iloadN X61.here hx rfl (hb hby at_29) rfl ks) ?_
  refine own_st (V := (T61.setTop (mkF m 31 #[.val (.int p1), .val (.int p2), .val (.int p3), .val (.ref b53), .unset, .unset, .unset, .unset, .unset, .unset, .unset, .unset] [(.int (3 : Int32)), (.int p1)]))) (fun t ks => XS.iconst X61.here hx rfl (hb hby at_30) ks) ?_
  refine own_st (V := (T61.setTop (mkF m 32 #[.val (.int p1), .val (.int p2), .val (.int p3), .val (.ref b53), .unset, .unset, .unset, .unset, .unset, .unset, .unset, .unset] [(.int (p1 &&& (3 : Int32)))]))) (fun t ks => XS.iand X61.here hx rfl (hb hby at_31) rfl ks) ?_
  refine own_st (V := (T61.setTop (mkF m 34 #[.val (.int p1), .val (.int p2), .val (.int p3), .val (.ref b53), .val (.int (p1 &&& (3 : Int32))), .unset, .unset, .unset, .unset, .unset, .unset, .unset] []))) (fun t ks => XS.istore X61.here hx rfl (hb hby at_32) rfl (l' := #[.val (.int p1), .val (.int p2), .val (.int p3), .val (.ref b53), .val (.int (p1 &&& (3 : Int32))), .unset, .unset, .unset, .unset, .unset, .unset, .unset]) rfl ks) ?_
  refine own_st (V := (T61.setTop (mkF m 35 #[.val (.int p1), .val (.int p2), .val (.int p3), .val (.ref b53), .val (.int (p1 &&& (3 : Int32))), .unset, .unset, .unset, .unset, .unset, .unset, .unset] [(.int p2)]))) (fun t ks => XS.iloadN X61.here hx rfl (hb hby at_34) rfl ks) ?_
  refine own_st (V := (T61.setTop (mkF m 36 #[.val (.int p1), .val (.int p2), .val (.int p3), .val (.ref b53), .val (.int (p1 &&& (3 : Int32))), .unset, .unset, .unset, .unset, .unset, .unset, .unset] [(.int (3 : Int32)), (.int p2)]))) (fun t ks => XS.iconst X61.here hx rfl (hb hby at_35) ks) ?_
  refine own_st (V := (T61.setTop (mkF m 37 #[.val (.int p1), .val (.int p2), .val (.int p3), .val (.ref b53), .val (.int (p1 &&& (3 : Int32))), .unset, .unset, .unset, .unset, .unset, .unset, .unset] [(.int (p2 &&& (3 : Int32)))]))) (fun t ks => XS.iand X61.here hx rfl (hb hby at_36) rfl ks) ?_
  refine own_st (V := (T61.setTop (mkF m 39 #[.val (.int p1), .val (.int p2), .val (.int p3), .val (.ref b53), .val (.int (p1 &&& (3 : Int32))), .unset, .unset, .unset, .unset, .unset, .unset, .unset] [(.int (p1 &&& (3 : Int32))), (.int (p2 &&& (3 : Int32)))]))) (fun t ks => XS.iload X61.here hx rfl (hb hby at_37) rfl ks) ?_
  refine own_callS0 X61 hx hZ hown (hw _ (List.mem_of_getElem? (i := 12) rfl)) (hw _ (List.mem_of_getElem? (i := 13) rfl)) (hw _ (List.mem_of_getElem? (i := 14) rfl)) (hw _ (List.mem_of_getElem? (i := 15) rfl)) (by decide) (rmI l Z a0 hw (p2 &&& (3 : Int32)) (p1 &&& (3 : Int32)) h61) e61 (by rw [hml]; rfl) (argsL := [(.int (p2 &&& (3 : Int32))), (.int (p1 &&& (3 : Int32)))]) (rest := []) pd_5 rfl rfl rfl (W := 0) (Nat.le_of_eq rfl) (hb hby at_39) (by decide) (by decide) (by decide) (by decide) ?_
  intro T62 X62 e62
  show OGoes p.tables e below _ (T62.setTop (mkF m 42 #[.val (.int p1), .val (.int p2), .val (.int p3), .val (.ref b53), .val (.int (p1 &&& (3 : Int32))), .unset, .unset, .unset, .unset, .unset, .unset, .unset] [(.int (if (p1 &&& (3 : Int32)) < (p2 &&& (3 : Int32)) then (p1 &&& (3 : Int32)) else (p2 &&& (3 : Int32))))]))
  obtain ⟨pp, hpp⟩ : ∃ z, z = (if (p1 &&& (3 : Int32)) < (p2 &&& (3 : Int32)) then (p1 &&& (3 : Int32)) else (p2 &&& (3 : Int32))) := ⟨_, rfl⟩
  refine own_cast (g' := (mkF m 42 #[.val (.int p1), .val (.int p2), .val (.int p3), .val (.ref b53), .val (.int (p1 &&& (3 : Int32))), .unset, .unset, .unset, .unset, .unset, .unset, .unset] [(.int pp)])) (by rw [show (if (p1 &&& (3 : Int32)) < (p2 &&& (3 : Int32)) then (p1 &&& (3 : Int32)) else (p2 &&& (3 : Int32))) = pp from hpp.symm]) ?_
  obtain ⟨k, hk⟩ : ∃ z, z = (p1 &&& (3 : Int32)) := ⟨_, rfl⟩
  refine own_cast (g' := (mkF m 42 #[.val (.int p1), .val (.int p2), .val (.int p3), .val (.ref b53), .val (.int k), .unset, .unset, .unset, .unset, .unset, .unset, .unset] [(.int pp)])) (by rw [show (p1 &&& (3 : Int32)) = k from hk.symm]) ?_
  have hk4 : ¬ k < 0 ∧ k < 4 := by rw [hk]; exact own_mask3 p1
  have hp0 : ¬ pp < 0 ∧ ¬ k < pp := by
    rw [hpp, ← hk]
    have := own_mask3 p2
    split
    · exact ⟨hk4.1, Int32.lt_irrefl⟩
    · exact ⟨this.1, by assumption⟩
  clear hpp
  refine own_st (V := (T62.setTop (mkF m 44 #[.val (.int p1), .val (.int p2), .val (.int p3), .val (.ref b53), .val (.int k), .val (.int pp), .unset, .unset, .unset, .unset, .unset, .unset] []))) (fun t ks => XS.istore X62.here hx rfl (hb hby at_42) rfl (l' := #[.val (.int p1), .val (.int p2), .val (.int p3), .val (.ref b53), .val (.int k), .val (.int pp), .unset, .unset, .unset, .unset, .unset, .unset]) rfl ks) ?_
  refine own_st (V := (T62.setTop (mkF m 45 #[.val (.int p1), .val (.int p2), .val (.int p3), .val (.ref b53), .val (.int k), .val (.int pp), .unset, .unset, .unset, .unset, .unset, .unset] [(.ref b53)]))) (fun t ks => XS.aloadN X62.here hx rfl (hb hby at_44) rfl rfl ks) ?_
  refine own_st (V := (T62.setTop (mkF m 46 #[.val (.int p1), .val (.int p2), .val (.int p3), .val (.ref b53), .val (.int k), .val (.int pp), .unset, .unset, .unset, .unset, .unset, .unset] [(.int p3), (.ref b53)]))) (fun t ks => XS.iloadN X62.here hx rfl (hb hby at_45) rfl ks) ?_
  refine own_st (V := (T62.setTop (mkF m 47 #[.val (.int p1), .val (.int p2), .val (.int p3), .val (.ref b53), .val (.int k), .val (.int pp), .unset, .unset, .unset, .unset, .unset, .unset] [(.int (3 : Int32)), (.int p3), (.ref b53)]))) (fun t ks => XS.iconst X62.here hx rfl (hb hby at_46) ks) ?_
  refine own_st (V := (T62.setTop (mkF m 48 #[.val (.int p1), .val (.int p2), .val (.int p3), .val (.ref b53), .val (.int k), .val (.int pp), .unset, .unset, .unset, .unset, .unset, .unset] [(.int (p3 &&& (3 : Int32))), (.ref b53)]))) (fun t ks => XS.iand X62.here hx rfl (hb hby at_47) rfl ks) ?_
  obtain ⟨i0, hi0⟩ : ∃ z, z = (p3 &&& (3 : Int32)) := ⟨_, rfl⟩
  refine own_cast (g' := (mkF m 48 #[.val (.int p1), .val (.int p2), .val (.int p3), .val (.ref b53), .val (.int k), .val (.int pp), .unset, .unset, .unset, .unset, .unset, .unset] [(.int i0), (.ref b53)])) (by rw [show (p3 &&& (3 : Int32)) = i0 from hi0.symm]) ?_
  replace hi0 : ¬ i0 < 0 ∧ i0 < 4 := by rw [hi0]; exact own_mask3 _
  obtain ⟨d0, hd0⟩ : ∃ z, own_dAt wN wE wS wW i0 = z := ⟨_, rfl⟩
  have Ed0 : Exa Z Z.heap d0 "com/example/hedgerow/hedgerow/maze/Direction" := hd0 ▸ own_dAt_fact (Pp := fun a _ => Exa Z Z.heap a "com/example/hedgerow/hedgerow/maze/Direction") E_wN E_wE E_wS E_wW hi0
  have Od0 : Fld Z Z.heap d0 "java/lang/Enum" "ordinal" "I" (.int i0) := hd0 ▸ own_dAt_fact (Pp := fun a i => Fld Z Z.heap a "java/lang/Enum" "ordinal" "I" (.int i)) O_wN O_wE O_wS O_wW hi0
  refine own_aaload X62 hx hZ e62 rfl Ds (v := (.ref d0)) hi0.1 hi0.2 ((own_dAt_get hi0).trans (congrArg Value.ref hd0)) (hb hby at_48) ?_
  show OGoes p.tables e below _ (T62.setTop (mkF m 49 #[.val (.int p1), .val (.int p2), .val (.int p3), .val (.ref b53), .val (.int k), .val (.int pp), .unset, .unset, .unset, .unset, .unset, .unset] [(.ref d0)]))
  refine own_st (V := (T62.setTop (mkF m 51 #[.val (.int p1), .val (.int p2), .val (.int p3), .val (.ref b53), .val (.int k), .val (.int pp), .val (.ref d0), .unset, .unset, .unset, .unset, .unset] []))) (fun t ks => XS.astore X62.here hx rfl (hb hby at_49) rfl rfl (l' := #[.val (.int p1), .val (.int p2), .val (.int p3), .val (.ref b53), .val (.int k), .val (.int pp), .val (.ref d0), .unset, .unset, .unset, .unset, .unset]) rfl ks) ?_
  refine own_st (V := (T62.setTop (mkF m 52 #[.val (.int p1), .val (.int p2), .val (.int p3), .val (.ref b53), .val (.int k), .val (.int pp), .val (.ref d0), .unset, .unset, .unset, .unset, .unset] [(.ref b53)]))) (fun t ks => XS.aloadN X62.here hx rfl (hb hby at_51) rfl rfl ks) ?_
  refine own_st (V := (T62.setTop (mkF m 53 #[.val (.int p1), .val (.int p2), .val (.int p3), .val (.ref b53), .val (.int k), .val (.int pp), .val (.ref d0), .unset, .unset, .unset, .unset, .unset] [(.int p3), (.ref b53)]))) (fun t ks => XS.iloadN X62.here hx rfl (hb hby at_52) rfl ks) ?_
  refine own_st (V := (T62.setTop (mkF m 54 #[.val (.int p1), .val (.int p2), .val (.int p3), .val (.ref b53), .val (.int k), .val (.int pp), .val (.ref d0), .unset, .unset, .unset, .unset, .unset] [(.int (2 : Int32)), (.int p3), (.ref b53)]))) (fun t ks => XS.iconst X62.here hx rfl (hb hby at_53) ks) ?_
  refine own_st (V := (T62.setTop (mkF m 55 #[.val (.int p1), .val (.int p2), .val (.int p3), .val (.ref b53), .val (.int k), .val (.int pp), .val (.ref d0), .unset, .unset, .unset, .unset, .unset] [(.int ((p3.toUInt32 >>> ((2 : Int32) &&& 31).toUInt32).toInt32)), (.ref b53)]))) (fun t ks => XS.iushr X62.here hx rfl (hb hby at_54) rfl ks) ?_
  refine own_st (V := (T62.setTop (mkF m 56 #[.val (.int p1), .val (.int p2), .val (.int p3), .val (.ref b53), .val (.int k), .val (.int pp), .val (.ref d0), .unset, .unset, .unset, .unset, .unset] [(.int (3 : Int32)), (.int ((p3.toUInt32 >>> ((2 : Int32) &&& 31).toUInt32).toInt32)), (.ref b53)]))) (fun t ks => XS.iconst X62.here hx rfl (hb hby at_55) ks) ?_
  refine own_st (V := (T62.setTop (mkF m 57 #[.val (.int p1), .val (.int p2), .val (.int p3), .val (.ref b53), .val (.int k), .val (.int pp), .val (.ref d0), .unset, .unset, .unset, .unset, .unset] [(.int (((p3.toUInt32 >>> ((2 : Int32) &&& 31).toUInt32).toInt32) &&& (3 : Int32))), (.ref b53)]))) (fun t ks => XS.iand X62.here hx rfl (hb hby at_56) rfl ks) ?_
  obtain ⟨i1, hi1⟩ : ∃ z, z = (((p3.toUInt32 >>> ((2 : Int32) &&& 31).toUInt32).toInt32) &&& (3 : Int32)) := ⟨_, rfl⟩
  refine own_cast (g' := (mkF m 57 #[.val (.int p1), .val (.int p2), .val (.int p3), .val (.ref b53), .val (.int k), .val (.int pp), .val (.ref d0), .unset, .unset, .unset, .unset, .unset] [(.int i1), (.ref b53)])) (by rw [show (((p3.toUInt32 >>> ((2 : Int32) &&& 31).toUInt32).toInt32) &&& (3 : Int32)) = i1 from hi1.symm]) ?_
  replace hi1 : ¬ i1 < 0 ∧ i1 < 4 := by rw [hi1]; exact own_mask3 _
  obtain ⟨d1, hd1⟩ : ∃ z, own_dAt wN wE wS wW i1 = z := ⟨_, rfl⟩
  have Ed1 : Exa Z Z.heap d1 "com/example/hedgerow/hedgerow/maze/Direction" := hd1 ▸ own_dAt_fact (Pp := fun a _ => Exa Z Z.heap a "com/example/hedgerow/hedgerow/maze/Direction") E_wN E_wE E_wS E_wW hi1
  have Od1 : Fld Z Z.heap d1 "java/lang/Enum" "ordinal" "I" (.int i1) := hd1 ▸ own_dAt_fact (Pp := fun a i => Fld Z Z.heap a "java/lang/Enum" "ordinal" "I" (.int i)) O_wN O_wE O_wS O_wW hi1
  refine own_aaload X62 hx hZ e62 rfl Ds (v := (.ref d1)) hi1.1 hi1.2 ((own_dAt_get hi1).trans (congrArg Value.ref hd1)) (hb hby at_57) ?_
  show OGoes p.tables e below _ (T62.setTop (mkF m 58 #[.val (.int p1), .val (.int p2), .val (.int p3), .val (.ref b53), .val (.int k), .val (.int pp), .val (.ref d0), .unset, .unset, .unset, .unset, .unset] [(.ref d1)]))
  refine own_st (V := (T62.setTop (mkF m 60 #[.val (.int p1), .val (.int p2), .val (.int p3), .val (.ref b53), .val (.int k), .val (.int pp), .val (.ref d0), .val (.ref d1), .unset, .unset, .unset, .unset] []))) (fun t ks => XS.astore X62.here hx rfl (hb hby at_58) rfl rfl (l' := #[.val (.int p1), .val (.int p2), .val (.int p3), .val (.ref b53), .val (.int k), .val (.int pp), .val (.ref d0), .val (.ref d1), .unset, .unset, .unset, .unset]) rfl ks) ?_
  refine own_st (V := (T62.setTop (mkF m 61 #[.val (.int p1), .val (.int p2), .val (.int p3), .val (.ref b53), .val (.int k), .val (.int pp), .val (.ref d0), .val (.ref d1), .unset, .unset, .unset, .unset] [(.ref b53)]))) (fun t ks => XS.aloadN X62.here hx rfl (hb hby at_60) rfl rfl ks) ?_
  refine own_st (V := (T62.setTop (mkF m 62 #[.val (.int p1), .val (.int p2), .val (.int p3), .val (.ref b53), .val (.int k), .val (.int pp), .val (.ref d0), .val (.ref d1), .unset, .unset, .unset, .unset] [(.int p3), (.ref b53)]))) (fun t ks => XS.iloadN X62.here hx rfl (hb hby at_61) rfl ks) ?_
  refine own_st (V := (T62.setTop (mkF m 63 #[.val (.int p1), .val (.int p2), .val (.int p3), .val (.ref b53), .val (.int k), .val (.int pp), .val (.ref d0), .val (.ref d1), .unset, .unset, .unset, .unset] [(.int (4 : Int32)), (.int p3), (.ref b53)]))) (fun t ks => XS.iconst X62.here hx rfl (hb hby at_62) ks) ?_
  refine own_st (V := (T62.setTop (mkF m 64 #[.val (.int p1), .val (.int p2), .val (.int p3), .val (.ref b53), .val (.int k), .val (.int pp), .val (.ref d0), .val (.ref d1), .unset, .unset, .unset, .unset] [(.int ((p3.toUInt32 >>> ((4 : Int32) &&& 31).toUInt32).toInt32)), (.ref b53)]))) (fun t ks => XS.iushr X62.here hx rfl (hb hby at_63) rfl ks) ?_
  refine own_st (V := (T62.setTop (mkF m 65 #[.val (.int p1), .val (.int p2), .val (.int p3), .val (.ref b53), .val (.int k), .val (.int pp), .val (.ref d0), .val (.ref d1), .unset, .unset, .unset, .unset] [(.int (3 : Int32)), (.int ((p3.toUInt32 >>> ((4 : Int32) &&& 31).toUInt32).toInt32)), (.ref b53)]))) (fun t ks => XS.iconst X62.here hx rfl (hb hby at_64) ks) ?_
  refine own_st (V := (T62.setTop (mkF m 66 #[.val (.int p1), .val (.int p2), .val (.int p3), .val (.ref b53), .val (.int k), .val (.int pp), .val (.ref d0), .val (.ref d1), .unset, .unset, .unset, .unset] [(.int (((p3.toUInt32 >>> ((4 : Int32) &&& 31).toUInt32).toInt32) &&& (3 : Int32))), (.ref b53)]))) (fun t ks => XS.iand X62.here hx rfl (hb hby at_65) rfl ks) ?_
  obtain ⟨i2, hi2⟩ : ∃ z, z = (((p3.toUInt32 >>> ((4 : Int32) &&& 31).toUInt32).toInt32) &&& (3 : Int32)) := ⟨_, rfl⟩
  refine own_cast (g' := (mkF m 66 #[.val (.int p1), .val (.int p2), .val (.int p3), .val (.ref b53), .val (.int k), .val (.int pp), .val (.ref d0), .val (.ref d1), .unset, .unset, .unset, .unset] [(.int i2), (.ref b53)])) (by rw [show (((p3.toUInt32 >>> ((4 : Int32) &&& 31).toUInt32).toInt32) &&& (3 : Int32)) = i2 from hi2.symm]) ?_
  replace hi2 : ¬ i2 < 0 ∧ i2 < 4 := by rw [hi2]; exact own_mask3 _
  obtain ⟨d2, hd2⟩ : ∃ z, own_dAt wN wE wS wW i2 = z := ⟨_, rfl⟩
  have Ed2 : Exa Z Z.heap d2 "com/example/hedgerow/hedgerow/maze/Direction" := hd2 ▸ own_dAt_fact (Pp := fun a _ => Exa Z Z.heap a "com/example/hedgerow/hedgerow/maze/Direction") E_wN E_wE E_wS E_wW hi2
  have Od2 : Fld Z Z.heap d2 "java/lang/Enum" "ordinal" "I" (.int i2) := hd2 ▸ own_dAt_fact (Pp := fun a i => Fld Z Z.heap a "java/lang/Enum" "ordinal" "I" (.int i)) O_wN O_wE O_wS O_wW hi2
  refine own_aaload X62 hx hZ e62 rfl Ds (v := (.ref d2)) hi2.1 hi2.2 ((own_dAt_get hi2).trans (congrArg Value.ref hd2)) (hb hby at_66) ?_
  show OGoes p.tables e below _ (T62.setTop (mkF m 67 #[.val (.int p1), .val (.int p2), .val (.int p3), .val (.ref b53), .val (.int k), .val (.int pp), .val (.ref d0), .val (.ref d1), .unset, .unset, .unset, .unset] [(.ref d2)]))
  obtain ⟨b0, b1, b2, b3, b4, b5⟩ := own_bits' hi0 hi1 hi2
  have lt_ds : @LT.lt Nat _ b53 h61.size := Ds.lt
  refine own_st (V := (T62.setTop (mkF m 69 #[.val (.int p1), .val (.int p2), .val (.int p3), .val (.ref b53), .val (.int k), .val (.int pp), .val (.ref d0), .val (.ref d1), .val (.ref d2), .unset, .unset, .unset] []))) (fun t ks => XS.astore X62.here hx rfl (hb hby at_67) rfl rfl (l' := #[.val (.int p1), .val (.int p2), .val (.int p3), .val (.ref b53), .val (.int k), .val (.int pp), .val (.ref d0), .val (.ref d1), .val (.ref d2), .unset, .unset, .unset]) rfl ks) ?_
  refine own_st (V := (T62.setTop (mkF m 70 #[.val (.int p1), .val (.int p2), .val (.int p3), .val (.ref b53), .val (.int k), .val (.int pp), .val (.ref d0), .val (.ref d1), .val (.ref d2), .unset, .unset, .unset] [(.int (3 : Int32))]))) (fun t ks => XS.iconst X62.here hx rfl (hb hby at_69) ks) ?_
  have lt_Z := hO.1
  refine own_anewarray X62 hx hZ e62 hown (hw _ (List.mem_of_getElem? (i := 0) rfl)) (hw _ (List.mem_of_getElem? (i := 1) rfl)) (by decide) (cap := 3) (by decide) (by decide) (by decide) (by decide) (hb hby at_70) ?_
  intro T63 h63 k63 b63 X63 e63 Ex63 g63 Pu OPu
  replace hO := own_ext_trans hO Ex63
  have ltn_63 : @LT.lt Nat _ b63 h63.size := Pu.lt
  show OGoes p.tables e below _ (T63.setTop (mkF m 73 #[.val (.int p1), .val (.int p2), .val (.int p3), .val (.ref b53), .val (.int k), .val (.int pp), .val (.ref d0), .val (.ref d1), .val (.ref d2), .unset, .unset, .unset] [(.ref b63)]))
  replace Pu : Arv Z h63 b63 _ (.object "com/example/hedgerow/hedgerow/maze/Direction") 3 [.null, .null, .null] .null := Pu.pad (pad_rep [] .null 3)
  refine own_st (V := (T63.setTop (mkF m 74 #[.val (.int p1), .val (.int p2), .val (.int p3), .val (.ref b53), .val (.int k), .val (.int pp), .val (.ref d0), .val (.ref d1), .val (.ref d2), .unset, .unset, .unset] [(.ref b63), (.ref b63)]))) (fun t ks => XS.dup X63.here hx rfl (hb hby at_73) rfl rfl ks) ?_
  refine own_st (V := (T63.setTop (mkF m 75 #[.val (.int p1), .val (.int p2), .val (.int p3), .val (.ref b53), .val (.int k), .val (.int pp), .val (.ref d0), .val (.ref d1), .val (.ref d2), .unset, .unset, .unset] [(.int (0 : Int32)), (.ref b63), (.ref b63)]))) (fun t ks => XS.iconst X63.here hx rfl (hb hby at_74) ks) ?_
  refine own_st (V := (T63.setTop (mkF m 77 #[.val (.int p1), .val (.int p2), .val (.int p3), .val (.ref b53), .val (.int k), .val (.int pp), .val (.ref d0), .val (.ref d1), .val (.ref d2), .unset, .unset, .unset] [(.ref d0), (.int (0 : Int32)), (.ref b63), (.ref b63)]))) (fun t ks => XS.aload X63.here hx rfl (hb hby at_75) rfl rfl ks) ?_
  refine own_aastore X63 hx hZ e63 Pu (by decide) (by decide) rfl (Nat.le_of_ble_eq_true rfl) rfl rfl (own_sto Pu OPu (Ins.self (Ed0.ext hO))) N61 (by omega) (hb hby at_77) ?_
  intro T64 h64 L64 X64 e64 N64 W64 An64
  replace hO := own_old_wr hO W64 (by omega)
  replace Pu := An64
  show OGoes p.tables e below _ (T64.setTop (mkF m 78 #[.val (.int p1), .val (.int p2), .val (.int p3), .val (.ref b53), .val (.int k), .val (.int pp), .val (.ref d0), .val (.ref d1), .val (.ref d2), .unset, .unset, .unset] [(.ref b63)]))
  refine own_st (V := (T64.setTop (mkF m 79 #[.val (.int p1), .val (.int p2), .val (.int p3), .val (.ref b53), .val (.int k), .val (.int pp), .val (.ref d0), .val (.ref d1), .val (.ref d2), .unset, .unset, .unset] [(.ref b63), (.ref b63)]))) (fun t ks => XS.dup X64.here hx rfl (hb hby at_78) rfl rfl ks) ?_
  refine own_st (V := (T64.setTop (mkF m 80 #[.val (.int p1), .val (.int p2), .val (.int p3), .val (.ref b53), .val (.int k), .val (.int pp), .val (.ref d0), .val (.ref d1), .val (.ref d2), .unset, .unset, .unset] [(.int (1 : Int32)), (.ref b63), (.ref b63)]))) (fun t ks => XS.iconst X64.here hx rfl (hb hby at_79) ks) ?_
  refine own_st (V := (T64.setTop (mkF m 82 #[.val (.int p1), .val (.int p2), .val (.int p3), .val (.ref b53), .val (.int k), .val (.int pp), .val (.ref d0), .val (.ref d1), .val (.ref d2), .unset, .unset, .unset] [(.ref d1), (.int (1 : Int32)), (.ref b63), (.ref b63)]))) (fun t ks => XS.aload X64.here hx rfl (hb hby at_80) rfl rfl ks) ?_
  refine own_aastore X64 hx hZ e64 Pu (by decide) (by decide) rfl (Nat.le_of_ble_eq_true rfl) rfl rfl (own_sto Pu OPu (Ins.self (Ed1.ext hO))) N64 (by omega) (hb hby at_82) ?_
  intro T65 h65 L65 X65 e65 N65 W65 An65
  replace hO := own_old_wr hO W65 (by omega)
  replace Pu := An65
  show OGoes p.tables e below _ (T65.setTop (mkF m 83 #[.val (.int p1), .val (.int p2), .val (.int p3), .val (.ref b53), .val (.int k), .val (.int pp), .val (.ref d0), .val (.ref d1), .val (.ref d2), .unset, .unset, .unset] [(.ref b63)]))
  refine own_st (V := (T65.setTop (mkF m 84 #[.val (.int p1), .val (.int p2), .val (.int p3), .val (.ref b53), .val (.int k), .val (.int pp), .val (.ref d0), .val (.ref d1), .val (.ref d2), .unset, .unset, .unset] [(.ref b63), (.ref b63)]))) (fun t ks => XS.dup X65.here hx rfl (hb hby at_83) rfl rfl ks) ?_
  refine own_st (V := (T65.setTop (mkF m 85 #[.val (.int p1), .val (.int p2), .val (.int p3), .val (.ref b53), .val (.int k), .val (.int pp), .val (.ref d0), .val (.ref d1), .val (.ref d2), .unset, .unset, .unset] [(.int (2 : Int32)), (.ref b63), (.ref b63)]))) (fun t ks => XS.iconst X65.here hx rfl (hb hby at_84) ks) ?_
  refine own_st (V := (T65.setTop (mkF m 87 #[.val (.int p1), .val (.int p2), .val (.int p3), .val (.ref b53), .val (.int k), .val (.int pp), .val (.ref d0), .val (.ref d1), .val (.ref d2), .unset, .unset, .unset] [(.ref d2), (.int (2 : Int32)), (.ref b63), (.ref b63)]))) (fun t ks => XS.aload X65.here hx rfl (hb hby at_85) rfl rfl ks) ?_
  refine own_aastore X65 hx hZ e65 Pu (by decide) (by decide) rfl (Nat.le_of_ble_eq_true rfl) rfl rfl (own_sto Pu OPu (Ins.self (Ed2.ext hO))) N65 (by omega) (hb hby at_87) ?_
  intro T66 h66 L66 X66 e66 N66 W66 An66
  replace hO := own_old_wr hO W66 (by omega)
  replace Pu := An66
  show OGoes p.tables e below _ (T66.setTop (mkF m 88 #[.val (.int p1), .val (.int p2), .val (.int p3), .val (.ref b53), .val (.int k), .val (.int pp), .val (.ref d0), .val (.ref d1), .val (.ref d2), .unset, .unset, .unset] [(.ref b63)]))
  replace Pu : Arv Z h66 b63 _ (.object "com/example/hedgerow/hedgerow/maze/Direction") 3 [.ref d0, .ref d1, .ref d2] .null := Pu
  refine own_st (V := (T66.setTop (mkF m 90 #[.val (.int p1), .val (.int p2), .val (.int p3), .val (.ref b53), .val (.int k), .val (.int pp), .val (.ref d0), .val (.ref d1), .val (.ref d2), .val (.ref b63), .unset, .unset] []))) (fun t ks => XS.astore X66.here hx rfl (hb hby at_88) rfl rfl (l' := #[.val (.int p1), .val (.int p2), .val (.int p3), .val (.ref b53), .val (.int k), .val (.int pp), .val (.ref d0), .val (.ref d1), .val (.ref d2), .val (.ref b63), .unset, .unset]) rfl ks) ?_
  have lt_Z := hO.1
  have lt_b63 : @LT.lt Nat _ b63 h66.size := Pu.lt
  refine own_new X66 hx hZ e66 hown (hw _ (List.mem_of_getElem? (i := 16) rfl)) (hw _ (List.mem_of_getElem? (i := 17) rfl)) (hw _ (List.mem_of_getElem? (i := 18) rfl)) (by decide) (by decide) (hb hby at_90) ?_
  intro T67 h67 b67 X67 e67 Ex67 g67 Ems D67
  replace hO := own_ext_trans hO Ex67
  replace Pu := Pu.ext Ex67
  have ltn_67 : @LT.lt Nat _ b67 h67.size := Ems.lt
  have ms_moves := D67 (Or.inr (hw _ (List.mem_of_getElem? (i := 37) rfl))) (ty := (.object "com/example/hedgerow/hedgerow/maze/TwoBitList")) (by decide)
  clear D67
  show OGoes p.tables e below _ (T67.setTop (mkF m 93 #[.val (.int p1), .val (.int p2), .val (.int p3), .val (.ref b53), .val (.int k), .val (.int pp), .val (.ref d0), .val (.ref d1), .val (.ref d2), .val (.ref b63), .unset, .unset] [(.ref b67)]))
  refine own_st (V := (T67.setTop (mkF m 94 #[.val (.int p1), .val (.int p2), .val (.int p3), .val (.ref b53), .val (.int k), .val (.int pp), .val (.ref d0), .val (.ref d1), .val (.ref d2), .val (.ref b63), .unset, .unset] [(.ref b67), (.ref b67)]))) (fun t ks => XS.dup X67.here hx rfl (hb hby at_93) rfl rfl ks) ?_
  refine own_callN X67 hx hZ rfl hown (hw _ (List.mem_of_getElem? (i := 19) rfl)) (hw _ (List.mem_of_getElem? (i := 20) rfl)) (hw _ (List.mem_of_getElem? (i := 18) rfl)) (hw _ (List.mem_of_getElem? (i := 21) rfl)) (by decide) (rmM l Z a0 hw b67 h67 hO Ems ms_moves (by omega)) e67 (by rw [hml]; rfl) (argsL := []) (rest := [(.ref b67)]) pd_1 rfl rfl rfl (W := 1) (Nat.le_of_eq rfl) (hb hby at_94) (by decide) (by decide) (by decide) (by decide) ?_
  rintro v68 T68 L68 X68 ⟨rfl, N68, K68, tb, bl, kb, htb, hbl, Ems, Fm, Ht⟩
  replace N68 := Fr.app N66 N68
  show OGoes p.tables e below _ (T68.setTop (mkF m 97 #[.val (.int p1), .val (.int p2), .val (.int p3), .val (.ref b53), .val (.int k), .val (.int pp), .val (.ref d0), .val (.ref d1), .val (.ref d2), .val (.ref b63), .unset, .unset] [(.ref b67)]))
  have lt_ex := Ex67.1
  replace hO := own_old_keep hO K68 (allS (by omega) all0)
  replace Pu := Pu.keep K68 (ninS (own_ne (by omega)) nin0)
  refine own_st (V := (T68.setTop (mkF m 99 #[.val (.int p1), .val (.int p2), .val (.int p3), .val (.ref b53), .val (.int k), .val (.int pp), .val (.ref d0), .val (.ref d1), .val (.ref d2), .val (.ref b63), .val (.ref b67), .unset] []))) (fun t ks => XS.astore X68.here hx rfl (hb hby at_97) rfl rfl (l' := #[.val (.int p1), .val (.int p2), .val (.int p3), .val (.ref b53), .val (.int k), .val (.int pp), .val (.ref d0), .val (.ref d1), .val (.ref d2), .val (.ref b63), .val (.ref b67), .unset]) rfl ks) ?_
  refine own_st (V := (T68.setTop (mkF m 101 #[.val (.int p1), .val (.int p2), .val (.int p3), .val (.ref b53), .val (.int k), .val (.int pp), .val (.ref d0), .val (.ref d1), .val (.ref d2), .val (.ref b63), .val (.ref b67), .unset] [(.ref b67)]))) (fun t ks => XS.aload X68.here hx rfl (hb hby at_99) rfl rfl ks) ?_
  refine own_callV0 X68 hx hZ hown (hw _ (List.mem_of_getElem? (i := 38) rfl)) (hw _ (List.mem_of_getElem? (i := 39) rfl)) (hw _ (List.mem_of_getElem? (i := 41) rfl)) (hw _ (List.mem_of_getElem? (i := 40) rfl)) (hw _ (List.mem_of_getElem? (i := 18) rfl)) (hw _ (List.mem_of_getElem? (i := 42) rfl)) (by decide) (rmE l Z a0 hw b67 tb 0 1 (by decide) T68.heap Fm Ht.1 Ht.2.2.2.1) rfl Ems (by rw [hml]; rfl) (argsL := []) (rest := []) pd_4 rfl rfl rfl (W := 0) (Nat.le_of_eq rfl) (hb hby at_101) (by decide) (by decide) (by decide) (by decide) ?_
  intro T69 X69 e69
  show OGoes p.tables e below _ (T69.setTop (mkF m 104 #[.val (.int p1), .val (.int p2), .val (.int p3), .val (.ref b53), .val (.int k), .val (.int pp), .val (.ref d0), .val (.ref d1), .val (.ref d2), .val (.ref b63), .val (.ref b67), .unset] [(.int (1 : Int32))]))
  refine own_st (V := (T69.setTop (mkF m 106 #[.val (.int p1), .val (.int p2), .val (.int p3), .val (.ref b53), .val (.int k), .val (.int pp), .val (.ref d0), .val (.ref d1), .val (.ref d2), .val (.ref b63), .val (.ref b67), .val (.int (1 : Int32))] []))) (fun t ks => XS.istore X69.here hx rfl (hb hby at_104) rfl (l' := #[.val (.int p1), .val (.int p2), .val (.int p3), .val (.ref b53), .val (.int k), .val (.int pp), .val (.ref d0), .val (.ref d1), .val (.ref d2), .val (.ref b63), .val (.ref b67), .val (.int (1 : Int32))]) rfl ks) ?_
  refine own_st (V := (T69.setTop (mkF m 108 #[.val (.int p1), .val (.int p2), .val (.int p3), .val (.ref b53), .val (.int k), .val (.int pp), .val (.ref d0), .val (.ref d1), .val (.ref d2), .val (.ref b63), .val (.ref b67), .val (.int (1 : Int32))] [(.int k)]))) (fun t ks => XS.iload X69.here hx rfl (hb hby at_106) rfl ks) ?_
  refine own_st (V := (T69.setTop (mkF m 109 #[.val (.int p1), .val (.int p2), .val (.int p3), .val (.ref b53), .val (.int k), .val (.int pp), .val (.ref d0), .val (.ref d1), .val (.ref d2), .val (.ref b63), .val (.ref b67), .val (.int (1 : Int32))] [(.int (1 : Int32)), (.int k)]))) (fun t ks => XS.iconst X69.here hx rfl (hb hby at_108) ks) ?_
  by_cases hk0 : k = 0
  · obtain rfl := hk0
    show OGoes p.tables e below _ (T69.setTop (mkF m 109 #[.val (.int p1), .val (.int p2), .val (.int p3), .val (.ref b53), .val (.int (0 : Int32)), .val (.int pp), .val (.ref d0), .val (.ref d1), .val (.ref d2), .val (.ref b63), .val (.ref b67), .val (.int (1 : Int32))] [(.int (1 : Int32)), (.int (0 : Int32))]))
    refine own_st (V := (T69.setTop (mkF m 119 #[.val (.int p1), .val (.int p2), .val (.int p3), .val (.ref b53), .val (.int (0 : Int32)), .val (.int pp), .val (.ref d0), .val (.ref d1), .val (.ref d2), .val (.ref b63), .val (.ref b67), .val (.int (1 : Int32))] []))) (fun t ks => XS.icmpYes X69.here hx rfl (pc0 := 109) (pc' := 119) rfl (hb hby at_109) rfl (XT.ii_lt_t (by decide)) (by decide) (by decide) ks) ?_
    refine own_st (V := (T69.setTop (mkF m 121 #[.val (.int p1), .val (.int p2), .val (.int p3), .val (.ref b53), .val (.int (0 : Int32)), .val (.int pp), .val (.ref d0), .val (.ref d1), .val (.ref d2), .val (.ref b63), .val (.ref b67), .val (.int (1 : Int32))] [(.int (0 : Int32))]))) (fun t ks => XS.iload X69.here hx rfl (hb hby at_119) rfl ks) ?_
    refine own_st (V := (T69.setTop (mkF m 122 #[.val (.int p1), .val (.int p2), .val (.int p3), .val (.ref b53), .val (.int (0 : Int32)), .val (.int pp), .val (.ref d0), .val (.ref d1), .val (.ref d2), .val (.ref b63), .val (.ref b67), .val (.int (1 : Int32))] [(.int (2 : Int32)), (.int (0 : Int32))]))) (fun t ks => XS.iconst X69.here hx rfl (hb hby at_121) ks) ?_
    refine own_st (V := (T69.setTop (mkF m 132 #[.val (.int p1), .val (.int p2), .val (.int p3), .val (.ref b53), .val (.int (0 : Int32)), .val (.int pp), .val (.ref d0), .val (.ref d1), .val (.ref d2), .val (.ref b63), .val (.ref b67), .val (.int (1 : Int32))] []))) (fun t ks => XS.icmpYes X69.here hx rfl (pc0 := 122) (pc' := 132) rfl (hb hby at_122) rfl (XT.ii_lt_t (by decide)) (by decide) (by decide) ks) ?_
    refine own_st (V := (T69.setTop (mkF m 134 #[.val (.int p1), .val (.int p2), .val (.int p3), .val (.ref b53), .val (.int (0 : Int32)), .val (.int pp), .val (.ref d0), .val (.ref d1), .val (.ref d2), .val (.ref b63), .val (.ref b67), .val (.int (1 : Int32))] [(.int (0 : Int32))]))) (fun t ks => XS.iload X69.here hx rfl (hb hby at_132) rfl ks) ?_
    refine own_st (V := (T69.setTop (mkF m 135 #[.val (.int p1), .val (.int p2), .val (.int p3), .val (.ref b53), .val (.int (0 : Int32)), .val (.int pp), .val (.ref d0), .val (.ref d1), .val (.ref d2), .val (.ref b63), .val (.ref b67), .val (.int (1 : Int32))] [(.int (3 : Int32)), (.int (0 : Int32))]))) (fun t ks => XS.iconst X69.here hx rfl (hb hby at_134) ks) ?_
    refine own_st (V := (T69.setTop (mkF m 145 #[.val (.int p1), .val (.int p2), .val (.int p3), .val (.ref b53), .val (.int (0 : Int32)), .val (.int pp), .val (.ref d0), .val (.ref d1), .val (.ref d2), .val (.ref b63), .val (.ref b67), .val (.int (1 : Int32))] []))) (fun t ks => XS.icmpYes X69.here hx rfl (pc0 := 135) (pc' := 145) rfl (hb hby at_135) rfl (XT.ii_lt_t (by decide)) (by decide) (by decide) ks) ?_
    refine own_st (V := (T69.setTop (mkF m 147 #[.val (.int p1), .val (.int p2), .val (.int p3), .val (.ref b53), .val (.int (0 : Int32)), .val (.int pp), .val (.ref d0), .val (.ref d1), .val (.ref d2), .val (.ref b63), .val (.ref b67), .val (.int (1 : Int32))] [(.int (1 : Int32))]))) (fun t ks => XS.iload X69.here hx rfl (hb hby at_145) rfl ks) ?_
    refine own_st (V := (T69.setTop (mkF m 149 #[.val (.int p1), .val (.int p2), .val (.int p3), .val (.ref b53), .val (.int (0 : Int32)), .val (.int pp), .val (.ref d0), .val (.ref d1), .val (.ref d2), .val (.ref b63), .val (.ref b67), .val (.int (1 : Int32))] [(.ref b67), (.int (1 : Int32))]))) (fun t ks => XS.aload X69.here hx rfl (hb hby at_147) rfl rfl ks) ?_
    refine own_callV0 X69 hx hZ hown (hw _ (List.mem_of_getElem? (i := 38) rfl)) (hw _ (List.mem_of_getElem? (i := 39) rfl)) (hw _ (List.mem_of_getElem? (i := 41) rfl)) (hw _ (List.mem_of_getElem? (i := 40) rfl)) (hw _ (List.mem_of_getElem? (i := 18) rfl)) (hw _ (List.mem_of_getElem? (i := 42) rfl)) (by decide) (rmE l Z a0 hw b67 tb 0 1 (by decide) T68.heap Fm Ht.1 Ht.2.2.2.1) e69 Ems (by rw [hml]; rfl) (argsL := []) (rest := [(.int (1 : Int32))]) pd_4 rfl rfl rfl (W := 1) (Nat.le_of_eq rfl) (hb hby at_149) (by decide) (by decide) (by decide) (by decide) ?_
    intro T70 X70 e70
    show OGoes p.tables e below _ (T70.setTop (mkF m 152 #[.val (.int p1), .val (.int p2), .val (.int p3), .val (.ref b53), .val (.int (0 : Int32)), .val (.int pp), .val (.ref d0), .val (.ref d1), .val (.ref d2), .val (.ref b63), .val (.ref b67), .val (.int (1 : Int32))] [(.int (1 : Int32)), (.int (1 : Int32))]))
    refine own_st (V := (T70.setTop (mkF m 154 #[.val (.int p1), .val (.int p2), .val (.int p3), .val (.ref b53), .val (.int (0 : Int32)), .val (.int pp), .val (.ref d0), .val (.ref d1), .val (.ref d2), .val (.ref b63), .val (.ref b67), .val (.int (1 : Int32))] [(.int (0 : Int32)), (.int (1 : Int32)), (.int (1 : Int32))]))) (fun t ks => XS.iload X70.here hx rfl (hb hby at_152) rfl ks) ?_
    refine own_st (V := (T70.setTop (mkF m 157 #[.val (.int p1), .val (.int p2), .val (.int p3), .val (.ref b53), .val (.int (0 : Int32)), .val (.int pp), .val (.ref d0), .val (.ref d1), .val (.ref d2), .val (.ref b63), .val (.ref b67), .val (.int (1 : Int32))] [(.int (1 : Int32)), (.int (1 : Int32))]))) (fun t ks => XS.ifNo X70.here hx rfl (hb hby at_154) rfl (XT.i0_ne_f (by decide)) ks) ?_
    refine own_st (V := (T70.setTop (mkF m 158 #[.val (.int p1), .val (.int p2), .val (.int p3), .val (.ref b53), .val (.int (0 : Int32)), .val (.int pp), .val (.ref d0), .val (.ref d1), .val (.ref d2), .val (.ref b63), .val (.ref b67), .val (.int (1 : Int32))] [(.int (1 : Int32)), (.int (1 : Int32)), (.int (1 : Int32))]))) (fun t ks => XS.iconst X70.here hx rfl (hb hby at_157) ks) ?_
    refine own_st (V := (T70.setTop (mkF m 162 #[.val (.int p1), .val (.int p2), .val (.int p3), .val (.ref b53), .val (.int (0 : Int32)), .val (.int pp), .val (.ref d0), .val (.ref d1), .val (.ref d2), .val (.ref b63), .val (.ref b67), .val (.int (1 : Int32))] [(.int (1 : Int32)), (.int (1 : Int32)), (.int (1 : Int32))]))) (fun t ks => XS.goto X70.here hx rfl (pc0 := 158) (pc' := 162) rfl (hb hby at_158) (by decide) (by decide) ks) ?_
    refine own_st (V := (T70.setTop (mkF m 165 #[.val (.int p1), .val (.int p2), .val (.int p3), .val (.ref b53), .val (.int (0 : Int32)), .val (.int pp), .val (.ref d0), .val (.ref d1), .val (.ref d2), .val (.ref b63), .val (.ref b67), .val (.int (1 : Int32))] [(.int (1 : Int32))]))) (fun t ks => XS.icmpNo X70.here hx rfl (hb hby at_162) rfl (XT.ii_ne_f rfl) ks) ?_
    refine own_st (V := (T70.setTop (mkF m 166 #[.val (.int p1), .val (.int p2), .val (.int p3), .val (.ref b53), .val (.int (0 : Int32)), .val (.int pp), .val (.ref d0), .val (.ref d1), .val (.ref d2), .val (.ref b63), .val (.ref b67), .val (.int (1 : Int32))] [(.int (1 : Int32)), (.int (1 : Int32))]))) (fun t ks => XS.iconst X70.here hx rfl (hb hby at_165) ks) ?_
    refine own_st (V := (T70.setTop (mkF m 170 #[.val (.int p1), .val (.int p2), .val (.int p3), .val (.ref b53), .val (.int (0 : Int32)), .val (.int pp), .val (.ref d0), .val (.ref d1), .val (.ref d2), .val (.ref b63), .val (.ref b67), .val (.int (1 : Int32))] [(.int (1 : Int32)), (.int (1 : Int32))]))) (fun t ks => XS.goto X70.here hx rfl (pc0 := 166) (pc' := 170) rfl (hb hby at_166) (by decide) (by decide) ks) ?_
    refine own_st (V := (T70.setTop (mkF m 171 #[.val (.int p1), .val (.int p2), .val (.int p3), .val (.ref b53), .val (.int (0 : Int32)), .val (.int pp), .val (.ref d0), .val (.ref d1), .val (.ref d2), .val (.ref b63), .val (.ref b67), .val (.int (1 : Int32))] [(.int ((1 : Int32) &&& (1 : Int32)))]))) (fun t ks => XS.iand X70.here hx rfl (hb hby at_170) rfl ks) ?_
    refine own_cast (g' := (mkF m 171 #[.val (.int p1), .val (.int p2), .val (.int p3), .val (.ref b53), .val (.int (0 : Int32)), .val (.int pp), .val (.ref d0), .val (.ref d1), .val (.ref d2), .val (.ref b63), .val (.ref b67), .val (.int (1 : Int32))] [(.int (1 : Int32))])) (by rw [show ((1 : Int32) &&& (1 : Int32)) = (1 : Int32) from by decide]) ?_
    refine own_st (V := (T70.setTop (mkF m 173 #[.val (.int p1), .val (.int p2), .val (.int p3), .val (.ref b53), .val (.int (0 : Int32)), .val (.int pp), .val (.ref d0), .val (.ref d1), .val (.ref d2), .val (.ref b63), .val (.ref b67), .val (.int (1 : Int32))] []))) (fun t ks => XS.istore X70.here hx rfl (hb hby at_171) rfl (l' := #[.val (.int p1), .val (.int p2), .val (.int p3), .val (.ref b53), .val (.int (0 : Int32)), .val (.int pp), .val (.ref d0), .val (.ref d1), .val (.ref d2), .val (.ref b63), .val (.ref b67), .val (.int (1 : Int32))]) rfl ks) ?_
    refine own_st (V := (T70.setTop (mkF m 175 #[.val (.int p1), .val (.int p2), .val (.int p3), .val (.ref b53), .val (.int (0 : Int32)), .val (.int pp), .val (.ref d0), .val (.ref d1), .val (.ref d2), .val (.ref b63), .val (.ref b67), .val (.int (1 : Int32))] [(.int pp)]))) (fun t ks => XS.iload X70.here hx rfl (hb hby at_173) rfl ks) ?_
    refine own_st (V := (T70.setTop (mkF m 176 #[.val (.int p1), .val (.int p2), .val (.int p3), .val (.ref b53), .val (.int (0 : Int32)), .val (.int pp), .val (.ref d0), .val (.ref d1), .val (.ref d2), .val (.ref b63), .val (.ref b67), .val (.int (1 : Int32))] [(.int (1 : Int32)), (.int pp)]))) (fun t ks => XS.iconst X70.here hx rfl (hb hby at_175) ks) ?_
    refine own_st (V := (T70.setTop (mkF m 204 #[.val (.int p1), .val (.int p2), .val (.int p3), .val (.ref b53), .val (.int (0 : Int32)), .val (.int pp), .val (.ref d0), .val (.ref d1), .val (.ref d2), .val (.ref b63), .val (.ref b67), .val (.int (1 : Int32))] []))) (fun t ks => XS.icmpYes X70.here hx rfl (pc0 := 176) (pc' := 204) rfl (hb hby at_176) rfl (XT.ii_lt_t (by have := hp0.2; rw [Int32.lt_iff_toInt_lt] at this ⊢; simp only [show (0 : Int32).toInt = 0 from rfl, show (1 : Int32).toInt = 1 from rfl] at *; omega)) (by decide) (by decide) ks) ?_
    refine own_st (V := (T70.setTop (mkF m 206 #[.val (.int p1), .val (.int p2), .val (.int p3), .val (.ref b53), .val (.int (0 : Int32)), .val (.int pp), .val (.ref d0), .val (.ref d1), .val (.ref d2), .val (.ref b63), .val (.ref b67), .val (.int (1 : Int32))] [(.int pp)]))) (fun t ks => XS.iload X70.here hx rfl (hb hby at_204) rfl ks) ?_
    refine own_st (V := (T70.setTop (mkF m 207 #[.val (.int p1), .val (.int p2), .val (.int p3), .val (.ref b53), .val (.int (0 : Int32)), .val (.int pp), .val (.ref d0), .val (.ref d1), .val (.ref d2), .val (.ref b63), .val (.ref b67), .val (.int (1 : Int32))] [(.int (2 : Int32)), (.int pp)]))) (fun t ks => XS.iconst X70.here hx rfl (hb hby at_206) ks) ?_
    refine own_st (V := (T70.setTop (mkF m 235 #[.val (.int p1), .val (.int p2), .val (.int p3), .val (.ref b53), .val (.int (0 : Int32)), .val (.int pp), .val (.ref d0), .val (.ref d1), .val (.ref d2), .val (.ref b63), .val (.ref b67), .val (.int (1 : Int32))] []))) (fun t ks => XS.icmpYes X70.here hx rfl (pc0 := 207) (pc' := 235) rfl (hb hby at_207) rfl (XT.ii_lt_t (by have := hp0.2; rw [Int32.lt_iff_toInt_lt] at this ⊢; simp only [show (0 : Int32).toInt = 0 from rfl, show (2 : Int32).toInt = 2 from rfl] at *; omega)) (by decide) (by decide) ks) ?_
    refine own_st (V := (T70.setTop (mkF m 237 #[.val (.int p1), .val (.int p2), .val (.int p3), .val (.ref b53), .val (.int (0 : Int32)), .val (.int pp), .val (.ref d0), .val (.ref d1), .val (.ref d2), .val (.ref b63), .val (.ref b67), .val (.int (1 : Int32))] [(.int pp)]))) (fun t ks => XS.iload X70.here hx rfl (hb hby at_235) rfl ks) ?_
    refine own_st (V := (T70.setTop (mkF m 238 #[.val (.int p1), .val (.int p2), .val (.int p3), .val (.ref b53), .val (.int (0 : Int32)), .val (.int pp), .val (.ref d0), .val (.ref d1), .val (.ref d2), .val (.ref b63), .val (.ref b67), .val (.int (1 : Int32))] [(.int (3 : Int32)), (.int pp)]))) (fun t ks => XS.iconst X70.here hx rfl (hb hby at_237) ks) ?_
    refine own_st (V := (T70.setTop (mkF m 266 #[.val (.int p1), .val (.int p2), .val (.int p3), .val (.ref b53), .val (.int (0 : Int32)), .val (.int pp), .val (.ref d0), .val (.ref d1), .val (.ref d2), .val (.ref b63), .val (.ref b67), .val (.int (1 : Int32))] []))) (fun t ks => XS.icmpYes X70.here hx rfl (pc0 := 238) (pc' := 266) rfl (hb hby at_238) rfl (XT.ii_lt_t (by have := hp0.2; rw [Int32.lt_iff_toInt_lt] at this ⊢; simp only [show (0 : Int32).toInt = 0 from rfl, show (3 : Int32).toInt = 3 from rfl] at *; omega)) (by decide) (by decide) ks) ?_
    refine own_st (V := (T70.setTop (mkF m 268 #[.val (.int p1), .val (.int p2), .val (.int p3), .val (.ref b53), .val (.int (0 : Int32)), .val (.int pp), .val (.ref d0), .val (.ref d1), .val (.ref d2), .val (.ref b63), .val (.ref b67), .val (.int (1 : Int32))] [(.int (1 : Int32))]))) (fun t ks => XS.iload X70.here hx rfl (hb hby at_266) rfl ks) ?_
    refine own_st (V := (T70.setTop (mkF m 270 #[.val (.int p1), .val (.int p2), .val (.int p3), .val (.ref b53), .val (.int (0 : Int32)), .val (.int pp), .val (.ref d0), .val (.ref d1), .val (.ref d2), .val (.ref b63), .val (.ref b67), .val (.int (1 : Int32))] [(.ref b67), (.int (1 : Int32))]))) (fun t ks => XS.aload X70.here hx rfl (hb hby at_268) rfl rfl ks) ?_
    refine own_callV0 X70 hx hZ hown (hw _ (List.mem_of_getElem? (i := 38) rfl)) (hw _ (List.mem_of_getElem? (i := 39) rfl)) (hw _ (List.mem_of_getElem? (i := 41) rfl)) (hw _ (List.mem_of_getElem? (i := 40) rfl)) (hw _ (List.mem_of_getElem? (i := 18) rfl)) (hw _ (List.mem_of_getElem? (i := 42) rfl)) (by decide) (rmE l Z a0 hw b67 tb 0 1 (by decide) T68.heap Fm Ht.1 Ht.2.2.2.1) e70 Ems (by rw [hml]; rfl) (argsL := []) (rest := [(.int (1 : Int32))]) pd_4 rfl rfl rfl (W := 1) (Nat.le_of_eq rfl) (hb hby at_270) (by decide) (by decide) (by decide) (by decide) ?_
    intro T71 X71 e71
    show OGoes p.tables e below _ (T71.setTop (mkF m 273 #[.val (.int p1), .val (.int p2), .val (.int p3), .val (.ref b53), .val (.int (0 : Int32)), .val (.int pp), .val (.ref d0), .val (.ref d1), .val (.ref d2), .val (.ref b63), .val (.ref b67), .val (.int (1 : Int32))] [(.int (1 : Int32)), (.int (1 : Int32))]))
    refine own_st (V := (T71.setTop (mkF m 275 #[.val (.int p1), .val (.int p2), .val (.int p3), .val (.ref b53), .val (.int (0 : Int32)), .val (.int pp), .val (.ref d0), .val (.ref d1), .val (.ref d2), .val (.ref b63), .val (.ref b67), .val (.int (1 : Int32))] [(.int pp), (.int (1 : Int32)), (.int (1 : Int32))]))) (fun t ks => XS.iload X71.here hx rfl (hb hby at_273) rfl ks) ?_
    refine own_st (V := (T71.setTop (mkF m 277 #[.val (.int p1), .val (.int p2), .val (.int p3), .val (.ref b53), .val (.int (0 : Int32)), .val (.int pp), .val (.ref d0), .val (.ref d1), .val (.ref d2), .val (.ref b63), .val (.ref b67), .val (.int (1 : Int32))] [(.int (0 : Int32)), (.int pp), (.int (1 : Int32)), (.int (1 : Int32))]))) (fun t ks => XS.iload X71.here hx rfl (hb hby at_275) rfl ks) ?_
    refine own_st (V := (T71.setTop (mkF m 280 #[.val (.int p1), .val (.int p2), .val (.int p3), .val (.ref b53), .val (.int (0 : Int32)), .val (.int pp), .val (.ref d0), .val (.ref d1), .val (.ref d2), .val (.ref b63), .val (.ref b67), .val (.int (1 : Int32))] [(.int (1 : Int32)), (.int (1 : Int32))]))) (fun t ks => XS.icmpNo X71.here hx rfl (hb hby at_277) rfl (XT.ii_ne_f (by have h1 := hp0.1; have h2 := hp0.2; rw [← Int32.toInt_inj]; simp only [Int32.lt_iff_toInt_lt, show (0 : Int32).toInt = 0 from rfl, show (0 : Int32).toInt = 0 from rfl] at *; omega)) ks) ?_
    refine own_st (V := (T71.setTop (mkF m 281 #[.val (.int p1), .val (.int p2), .val (.int p3), .val (.ref b53), .val (.int (0 : Int32)), .val (.int pp), .val (.ref d0), .val (.ref d1), .val (.ref d2), .val (.ref b63), .val (.ref b67), .val (.int (1 : Int32))] [(.int (1 : Int32)), (.int (1 : Int32)), (.int (1 : Int32))]))) (fun t ks => XS.iconst X71.here hx rfl (hb hby at_280) ks) ?_
    refine own_st (V := (T71.setTop (mkF m 285 #[.val (.int p1), .val (.int p2), .val (.int p3), .val (.ref b53), .val (.int (0 : Int32)), .val (.int pp), .val (.ref d0), .val (.ref d1), .val (.ref d2), .val (.ref b63), .val (.ref b67), .val (.int (1 : Int32))] [(.int (1 : Int32)), (.int (1 : Int32)), (.int (1 : Int32))]))) (fun t ks => XS.goto X71.here hx rfl (pc0 := 281) (pc' := 285) rfl (hb hby at_281) (by decide) (by decide) ks) ?_
    refine own_st (V := (T71.setTop (mkF m 288 #[.val (.int p1), .val (.int p2), .val (.int p3), .val (.ref b53), .val (.int (0 : Int32)), .val (.int pp), .val (.ref d0), .val (.ref d1), .val (.ref d2), .val (.ref b63), .val (.ref b67), .val (.int (1 : Int32))] [(.int (1 : Int32))]))) (fun t ks => XS.icmpNo X71.here hx rfl (hb hby at_285) rfl (XT.ii_ne_f rfl) ks) ?_
    refine own_st (V := (T71.setTop (mkF m 289 #[.val (.int p1), .val (.int p2), .val (.int p3), .val (.ref b53), .val (.int (0 : Int32)), .val (.int pp), .val (.ref d0), .val (.ref d1), .val (.ref d2), .val (.ref b63), .val (.ref b67), .val (.int (1 : Int32))] [(.int (1 : Int32)), (.int (1 : Int32))]))) (fun t ks => XS.iconst X71.here hx rfl (hb hby at_288) ks) ?_
    refine own_st (V := (T71.setTop (mkF m 293 #[.val (.int p1), .val (.int p2), .val (.int p3), .val (.ref b53), .val (.int (0 : Int32)), .val (.int pp), .val (.ref d0), .val (.ref d1), .val (.ref d2), .val (.ref b63), .val (.ref b67), .val (.int (1 : Int32))] [(.int (1 : Int32)), (.int (1 : Int32))]))) (fun t ks => XS.goto X71.here hx rfl (pc0 := 289) (pc' := 293) rfl (hb hby at_289) (by decide) (by decide) ks) ?_
    refine own_st (V := (T71.setTop (mkF m 294 #[.val (.int p1), .val (.int p2), .val (.int p3), .val (.ref b53), .val (.int (0 : Int32)), .val (.int pp), .val (.ref d0), .val (.ref d1), .val (.ref d2), .val (.ref b63), .val (.ref b67), .val (.int (1 : Int32))] [(.int ((1 : Int32) &&& (1 : Int32)))]))) (fun t ks => XS.iand X71.here hx rfl (hb hby at_293) rfl ks) ?_
    refine own_cast (g' := (mkF m 294 #[.val (.int p1), .val (.int p2), .val (.int p3), .val (.ref b53), .val (.int (0 : Int32)), .val (.int pp), .val (.ref d0), .val (.ref d1), .val (.ref d2), .val (.ref b63), .val (.ref b67), .val (.int (1 : Int32))] [(.int (1 : Int32))])) (by rw [show ((1 : Int32) &&& (1 : Int32)) = (1 : Int32) from by decide]) ?_
    refine own_st (V := (T71.setTop (mkF m 296 #[.val (.int p1), .val (.int p2), .val (.int p3), .val (.ref b53), .val (.int (0 : Int32)), .val (.int pp), .val (.ref d0), .val (.ref d1), .val (.ref d2), .val (.ref b63), .val (.ref b67), .val (.int (1 : Int32))] []))) (fun t ks => XS.istore X71.here hx rfl (hb hby at_294) rfl (l' := #[.val (.int p1), .val (.int p2), .val (.int p3), .val (.ref b53), .val (.int (0 : Int32)), .val (.int pp), .val (.ref d0), .val (.ref d1), .val (.ref d2), .val (.ref b63), .val (.ref b67), .val (.int (1 : Int32))]) rfl ks) ?_
    refine own_st (V := (T71.setTop (mkF m 298 #[.val (.int p1), .val (.int p2), .val (.int p3), .val (.ref b53), .val (.int (0 : Int32)), .val (.int pp), .val (.ref d0), .val (.ref d1), .val (.ref d2), .val (.ref b63), .val (.ref b67), .val (.int (1 : Int32))] [(.int (1 : Int32))]))) (fun t ks => XS.iload X71.here hx rfl (hb hby at_296) rfl ks) ?_
    exact own_retN X71 hx hlk (by simp) hret (hb hby at_298) (by decide) (by decide) ⟨rfl, N68⟩
  · by_cases hk1 : k = 1
    · obtain rfl := hk1
      show OGoes p.tables e below _ (T69.setTop (mkF m 109 #[.val (.int p1), .val (.int p2), .val (.int p3), .val (.ref b53), .val (.int (1 : Int32)), .val (.int pp), .val (.ref d0), .val (.ref d1), .val (.ref d2), .val (.ref b63), .val (.ref b67), .val (.int (1 : Int32))] [(.int (1 : Int32)), (.int (1 : Int32))]))
      refine own_st (V := (T69.setTop (mkF m 112 #[.val (.int p1), .val (.int p2), .val (.int p3), .val (.ref b53), .val (.int (1 : Int32)), .val (.int pp), .val (.ref d0), .val (.ref d1), .val (.ref d2), .val (.ref b63), .val (.ref b67), .val (.int (1 : Int32))] []))) (fun t ks => XS.icmpNo X69.here hx rfl (hb hby at_109) rfl (XT.ii_lt_f (by decide)) ks) ?_
      refine own_st (V := (T69.setTop (mkF m 114 #[.val (.int p1), .val (.int p2), .val (.int p3), .val (.ref b53), .val (.int (1 : Int32)), .val (.int pp), .val (.ref d0), .val (.ref d1), .val (.ref d2), .val (.ref b63), .val (.ref b67), .val (.int (1 : Int32))] [(.ref b67)]))) (fun t ks => XS.aload X69.here hx rfl (hb hby at_112) rfl rfl ks) ?_
      refine own_st (V := (T69.setTop (mkF m 116 #[.val (.int p1), .val (.int p2), .val (.int p3), .val (.ref b53), .val (.int (1 : Int32)), .val (.int pp), .val (.ref d0), .val (.ref d1), .val (.ref d2), .val (.ref b63), .val (.ref b67), .val (.int (1 : Int32))] [(.ref d0), (.ref b67)]))) (fun t ks => XS.aload X69.here hx rfl (hb hby at_114) rfl rfl ks) ?_
      have hblT : @LT.lt Nat _ bl T68.heap.size := Ht.2.2.2.2.1.lt
      refine own_callV X69 hx hZ hown (hw _ (List.mem_of_getElem? (i := 50) rfl)) (hw _ (List.mem_of_getElem? (i := 51) rfl)) (hw _ (List.mem_of_getElem? (i := 53) rfl)) (hw _ (List.mem_of_getElem? (i := 52) rfl)) (hw _ (List.mem_of_getElem? (i := 18) rfl)) (hw _ (List.mem_of_getElem? (i := 54) rfl)) (by decide) (rmP0 l Z a0 hw b67 d0 tb bl kb i0 (own_clear hi0) T68.heap hO Fm (Ed0.ext hO) (Od0.ext hO) Ht (by omega) hbl) e69 Ems (by rw [hml]; rfl) (argsL := [(.ref d0)]) (rest := []) pd_6 rfl rfl rfl (W := 0) (Nat.le_of_eq rfl) (hb hby at_116) (by decide) (by decide) (by decide) (by decide) ?_
      rintro v72 T72 L72 X72 ⟨rfl, N72, K72, w, kw, hww, Ht⟩
      replace N72 := Fr.app N68 N72
      show OGoes p.tables e below _ (T72.setTop (mkF m 119 #[.val (.int p1), .val (.int p2), .val (.int p3), .val (.ref b53), .val (.int (1 : Int32)), .val (.int pp), .val (.ref d0), .val (.ref d1), .val (.ref d2), .val (.ref b63), .val (.ref b67), .val (.int (1 : Int32))] []))
      have hlw : bl < w := Nat.lt_of_lt_of_le hblT hww
      replace hO := own_old_keep hO K72 (allS (by omega) (allS (by omega) all0))
      replace Pu := Pu.keep K72 (ninS (own_ne (by omega)) (ninS (own_ne (by omega)) nin0))
      replace Ems := Ems.keep K72
      replace Fm := Fm.keep K72 (ninS (own_ne (by omega)) (ninS (own_ne (by omega)) nin0))
      refine own_st (V := (T72.setTop (mkF m 121 #[.val (.int p1), .val (.int p2), .val (.int p3), .val (.ref b53), .val (.int (1 : Int32)), .val (.int pp), .val (.ref d0), .val (.ref d1), .val (.ref d2), .val (.ref b63), .val (.ref b67), .val (.int (1 : Int32))] [(.int (1 : Int32))]))) (fun t ks => XS.iload X72.here hx rfl (hb hby at_119) rfl ks) ?_
      refine own_st (V := (T72.setTop (mkF m 122 #[.val (.int p1), .val (.int p2), .val (.int p3), .val (.ref b53), .val (.int (1 : Int32)), .val (.int pp), .val (.ref d0), .val (.ref d1), .val (.ref d2), .val (.ref b63), .val (.ref b67), .val (.int (1 : Int32))] [(.int (2 : Int32)), (.int (1 : Int32))]))) (fun t ks => XS.iconst X72.here hx rfl (hb hby at_121) ks) ?_
      refine own_st (V := (T72.setTop (mkF m 132 #[.val (.int p1), .val (.int p2), .val (.int p3), .val (.ref b53), .val (.int (1 : Int32)), .val (.int pp), .val (.ref d0), .val (.ref d1), .val (.ref d2), .val (.ref b63), .val (.ref b67), .val (.int (1 : Int32))] []))) (fun t ks => XS.icmpYes X72.here hx rfl (pc0 := 122) (pc' := 132) rfl (hb hby at_122) rfl (XT.ii_lt_t (by decide)) (by decide) (by decide) ks) ?_
      refine own_st (V := (T72.setTop (mkF m 134 #[.val (.int p1), .val (.int p2), .val (.int p3), .val (.ref b53), .val (.int (1 : Int32)), .val (.int pp), .val (.ref d0), .val (.ref d1), .val (.ref d2), .val (.ref b63), .val (.ref b67), .val (.int (1 : Int32))] [(.int (1 : Int32))]))) (fun t ks => XS.iload X72.here hx rfl (hb hby at_132) rfl ks) ?_
      refine own_st (V := (T72.setTop (mkF m 135 #[.val (.int p1), .val (.int p2), .val (.int p3), .val (.ref b53), .val (.int (1 : Int32)), .val (.int pp), .val (.ref d0), .val (.ref d1), .val (.ref d2), .val (.ref b63), .val (.ref b67), .val (.int (1 : Int32))] [(.int (3 : Int32)), (.int (1 : Int32))]))) (fun t ks => XS.iconst X72.here hx rfl (hb hby at_134) ks) ?_
      refine own_st (V := (T72.setTop (mkF m 145 #[.val (.int p1), .val (.int p2), .val (.int p3), .val (.ref b53), .val (.int (1 : Int32)), .val (.int pp), .val (.ref d0), .val (.ref d1), .val (.ref d2), .val (.ref b63), .val (.ref b67), .val (.int (1 : Int32))] []))) (fun t ks => XS.icmpYes X72.here hx rfl (pc0 := 135) (pc' := 145) rfl (hb hby at_135) rfl (XT.ii_lt_t (by decide)) (by decide) (by decide) ks) ?_
      refine own_st (V := (T72.setTop (mkF m 147 #[.val (.int p1), .val (.int p2), .val (.int p3), .val (.ref b53), .val (.int (1 : Int32)), .val (.int pp), .val (.ref d0), .val (.ref d1), .val (.ref d2), .val (.ref b63), .val (.ref b67), .val (.int (1 : Int32))] [(.int (1 : Int32))]))) (fun t ks => XS.iload X72.here hx rfl (hb hby at_145) rfl ks) ?_
      refine own_st (V := (T72.setTop (mkF m 149 #[.val (.int p1), .val (.int p2), .val (.int p3), .val (.ref b53), .val (.int (1 : Int32)), .val (.int pp), .val (.ref d0), .val (.ref d1), .val (.ref d2), .val (.ref b63), .val (.ref b67), .val (.int (1 : Int32))] [(.ref b67), (.int (1 : Int32))]))) (fun t ks => XS.aload X72.here hx rfl (hb hby at_147) rfl rfl ks) ?_
      refine own_callV0 X72 hx hZ hown (hw _ (List.mem_of_getElem? (i := 38) rfl)) (hw _ (List.mem_of_getElem? (i := 39) rfl)) (hw _ (List.mem_of_getElem? (i := 41) rfl)) (hw _ (List.mem_of_getElem? (i := 40) rfl)) (hw _ (List.mem_of_getElem? (i := 18) rfl)) (hw _ (List.mem_of_getElem? (i := 42) rfl)) (by decide) (rmE l Z a0 hw b67 tb 1 0 (by decide) T72.heap Fm Ht.1 Ht.2.2.2.1) rfl Ems (by rw [hml]; rfl) (argsL := []) (rest := [(.int (1 : Int32))]) pd_4 rfl rfl rfl (W := 1) (Nat.le_of_eq rfl) (hb hby at_149) (by decide) (by decide) (by decide) (by decide) ?_
      intro T73 X73 e73
      show OGoes p.tables e below _ (T73.setTop (mkF m 152 #[.val (.int p1), .val (.int p2), .val (.int p3), .val (.ref b53), .val (.int (1 : Int32)), .val (.int pp), .val (.ref d0), .val (.ref d1), .val (.ref d2), .val (.ref b63), .val (.ref b67), .val (.int (1 : Int32))] [(.int (0 : Int32)), (.int (1 : Int32))]))
      refine own_st (V := (T73.setTop (mkF m 154 #[.val (.int p1), .val (.int p2), .val (.int p3), .val (.ref b53), .val (.int (1 : Int32)), .val (.int pp), .val (.ref d0), .val (.ref d1), .val (.ref d2), .val (.ref b63), .val (.ref b67), .val (.int (1 : Int32))] [(.int (1 : Int32)), (.int (0 : Int32)), (.int (1 : Int32))]))) (fun t ks => XS.iload X73.here hx rfl (hb hby at_152) rfl ks) ?_
      refine own_st (V := (T73.setTop (mkF m 161 #[.val (.int p1), .val (.int p2), .val (.int p3), .val (.ref b53), .val (.int (1 : Int32)), .val (.int pp), .val (.ref d0), .val (.ref d1), .val (.ref d2), .val (.ref b63), .val (.ref b67), .val (.int (1 : Int32))] [(.int (0 : Int32)), (.int (1 : Int32))]))) (fun t ks => XS.ifYes X73.here hx rfl (pc0 := 154) (pc' := 161) rfl (hb hby at_154) rfl (XT.i0_ne_t (by decide)) (by decide) (by decide) ks) ?_
      refine own_st (V := (T73.setTop (mkF m 162 #[.val (.int p1), .val (.int p2), .val (.int p3), .val (.ref b53), .val (.int (1 : Int32)), .val (.int pp), .val (.ref d0), .val (.ref d1), .val (.ref d2), .val (.ref b63), .val (.ref b67), .val (.int (1 : Int32))] [(.int (0 : Int32)), (.int (0 : Int32)), (.int (1 : Int32))]))) (fun t ks => XS.iconst X73.here hx rfl (hb hby at_161) ks) ?_
      refine own_st (V := (T73.setTop (mkF m 165 #[.val (.int p1), .val (.int p2), .val (.int p3), .val (.ref b53), .val (.int (1 : Int32)), .val (.int pp), .val (.ref d0), .val (.ref d1), .val (.ref d2), .val (.ref b63), .val (.ref b67), .val (.int (1 : Int32))] [(.int (1 : Int32))]))) (fun t ks => XS.icmpNo X73.here hx rfl (hb hby at_162) rfl (XT.ii_ne_f rfl) ks) ?_
      refine own_st (V := (T73.setTop (mkF m 166 #[.val (.int p1), .val (.int p2), .val (.int p3), .val (.ref b53), .val (.int (1 : Int32)), .val (.int pp), .val (.ref d0), .val (.ref d1), .val (.ref d2), .val (.ref b63), .val (.ref b67), .val (.int (1 : Int32))] [(.int (1 : Int32)), (.int (1 : Int32))]))) (fun t ks => XS.iconst X73.here hx rfl (hb hby at_165) ks) ?_
      refine own_st (V := (T73.setTop (mkF m 170 #[.val (.int p1), .val (.int p2), .val (.int p3), .val (.ref b53), .val (.int (1 : Int32)), .val (.int pp), .val (.ref d0), .val (.ref d1), .val (.ref d2), .val (.ref b63), .val (.ref b67), .val (.int (1 : Int32))] [(.int (1 : Int32)), (.int (1 : Int32))]))) (fun t ks => XS.goto X73.here hx rfl (pc0 := 166) (pc' := 170) rfl (hb hby at_166) (by decide) (by decide) ks) ?_
      refine own_st (V := (T73.setTop (mkF m 171 #[.val (.int p1), .val (.int p2), .val (.int p3), .val (.ref b53), .val (.int (1 : Int32)), .val (.int pp), .val (.ref d0), .val (.ref d1), .val (.ref d2), .val (.ref b63), .val (.ref b67), .val (.int (1 : Int32))] [(.int ((1 : Int32) &&& (1 : Int32)))]))) (fun t ks => XS.iand X73.here hx rfl (hb hby at_170) rfl ks) ?_
      refine own_cast (g' := (mkF m 171 #[.val (.int p1), .val (.int p2), .val (.int p3), .val (.ref b53), .val (.int (1 : Int32)), .val (.int pp), .val (.ref d0), .val (.ref d1), .val (.ref d2), .val (.ref b63), .val (.ref b67), .val (.int (1 : Int32))] [(.int (1 : Int32))])) (by rw [show ((1 : Int32) &&& (1 : Int32)) = (1 : Int32) from by decide]) ?_
      refine own_st (V := (T73.setTop (mkF m 173 #[.val (.int p1), .val (.int p2), .val (.int p3), .val (.ref b53), .val (.int (1 : Int32)), .val (.int pp), .val (.ref d0), .val (.ref d1), .val (.ref d2), .val (.ref b63), .val (.ref b67), .val (.int (1 : Int32))] []))) (fun t ks => XS.istore X73.here hx rfl (hb hby at_171) rfl (l' := #[.val (.int p1), .val (.int p2), .val (.int p3), .val (.ref b53), .val (.int (1 : Int32)), .val (.int pp), .val (.ref d0), .val (.ref d1), .val (.ref d2), .val (.ref b63), .val (.ref b67), .val (.int (1 : Int32))]) rfl ks) ?_
      refine own_st (V := (T73.setTop (mkF m 175 #[.val (.int p1), .val (.int p2), .val (.int p3), .val (.ref b53), .val (.int (1 : Int32)), .val (.int pp), .val (.ref d0), .val (.ref d1), .val (.ref d2), .val (.ref b63), .val (.ref b67), .val (.int (1 : Int32))] [(.int pp)]))) (fun t ks => XS.iload X73.here hx rfl (hb hby at_173) rfl ks) ?_
      refine own_st (V := (T73.setTop (mkF m 176 #[.val (.int p1), .val (.int p2), .val (.int p3), .val (.ref b53), .val (.int (1 : Int32)), .val (.int pp), .val (.ref d0), .val (.ref d1), .val (.ref d2), .val (.ref b63), .val (.ref b67), .val (.int (1 : Int32))] [(.int (1 : Int32)), (.int pp)]))) (fun t ks => XS.iconst X73.here hx rfl (hb hby at_175) ks) ?_
      by_cases hj1 : pp < (1 : Int32)
      · refine own_st (V := (T73.setTop (mkF m 204 #[.val (.int p1), .val (.int p2), .val (.int p3), .val (.ref b53), .val (.int (1 : Int32)), .val (.int pp), .val (.ref d0), .val (.ref d1), .val (.ref d2), .val (.ref b63), .val (.ref b67), .val (.int (1 : Int32))] []))) (fun t ks => XS.icmpYes X73.here hx rfl (pc0 := 176) (pc' := 204) rfl (hb hby at_176) rfl (XT.ii_lt_t hj1) (by decide) (by decide) ks) ?_
        refine own_st (V := (T73.setTop (mkF m 206 #[.val (.int p1), .val (.int p2), .val (.int p3), .val (.ref b53), .val (.int (1 : Int32)), .val (.int pp), .val (.ref d0), .val (.ref d1), .val (.ref d2), .val (.ref b63), .val (.ref b67), .val (.int (1 : Int32))] [(.int pp)]))) (fun t ks => XS.iload X73.here hx rfl (hb hby at_204) rfl ks) ?_
        refine own_st (V := (T73.setTop (mkF m 207 #[.val (.int p1), .val (.int p2), .val (.int p3), .val (.ref b53), .val (.int (1 : Int32)), .val (.int pp), .val (.ref d0), .val (.ref d1), .val (.ref d2), .val (.ref b63), .val (.ref b67), .val (.int (1 : Int32))] [(.int (2 : Int32)), (.int pp)]))) (fun t ks => XS.iconst X73.here hx rfl (hb hby at_206) ks) ?_
        refine own_st (V := (T73.setTop (mkF m 235 #[.val (.int p1), .val (.int p2), .val (.int p3), .val (.ref b53), .val (.int (1 : Int32)), .val (.int pp), .val (.ref d0), .val (.ref d1), .val (.ref d2), .val (.ref b63), .val (.ref b67), .val (.int (1 : Int32))] []))) (fun t ks => XS.icmpYes X73.here hx rfl (pc0 := 207) (pc' := 235) rfl (hb hby at_207) rfl (XT.ii_lt_t (by rw [Int32.lt_iff_toInt_lt] at hj1 ⊢; simp only [show (1 : Int32).toInt = 1 from rfl, show (2 : Int32).toInt = 2 from rfl] at *; omega)) (by decide) (by decide) ks) ?_
        refine own_st (V := (T73.setTop (mkF m 237 #[.val (.int p1), .val (.int p2), .val (.int p3), .val (.ref b53), .val (.int (1 : Int32)), .val (.int pp), .val (.ref d0), .val (.ref d1), .val (.ref d2), .val (.ref b63), .val (.ref b67), .val (.int (1 : Int32))] [(.int pp)]))) (fun t ks => XS.iload X73.here hx rfl (hb hby at_235) rfl ks) ?_
        refine own_st (V := (T73.setTop (mkF m 238 #[.val (.int p1), .val (.int p2), .val (.int p3), .val (.ref b53), .val (.int (1 : Int32)), .val (.int pp), .val (.ref d0), .val (.ref d1), .val (.ref d2), .val (.ref b63), .val (.ref b67), .val (.int (1 : Int32))] [(.int (3 : Int32)), (.int pp)]))) (fun t ks => XS.iconst X73.here hx rfl (hb hby at_237) ks) ?_
        refine own_st (V := (T73.setTop (mkF m 266 #[.val (.int p1), .val (.int p2), .val (.int p3), .val (.ref b53), .val (.int (1 : Int32)), .val (.int pp), .val (.ref d0), .val (.ref d1), .val (.ref d2), .val (.ref b63), .val (.ref b67), .val (.int (1 : Int32))] []))) (fun t ks => XS.icmpYes X73.here hx rfl (pc0 := 238) (pc' := 266) rfl (hb hby at_238) rfl (XT.ii_lt_t (by rw [Int32.lt_iff_toInt_lt] at hj1 ⊢; simp only [show (1 : Int32).toInt = 1 from rfl, show (3 : Int32).toInt = 3 from rfl] at *; omega)) (by decide) (by decide) ks) ?_
        refine own_st (V := (T73.setTop (mkF m 268 #[.val (.int p1), .val (.int p2), .val (.int p3), .val (.ref b53), .val (.int (1 : Int32)), .val (.int pp), .val (.ref d0), .val (.ref d1), .val (.ref d2), .val (.ref b63), .val (.ref b67), .val (.int (1 : Int32))] [(.int (1 : Int32))]))) (fun t ks => XS.iload X73.here hx rfl (hb hby at_266) rfl ks) ?_
        refine own_st (V := (T73.setTop (mkF m 270 #[.val (.int p1), .val (.int p2), .val (.int p3), .val (.ref b53), .val (.int (1 : Int32)), .val (.int pp), .val (.ref d0), .val (.ref d1), .val (.ref d2), .val (.ref b63), .val (.ref b67), .val (.int (1 : Int32))] [(.ref b67), (.int (1 : Int32))]))) (fun t ks => XS.aload X73.here hx rfl (hb hby at_268) rfl rfl ks) ?_
        refine own_callV0 X73 hx hZ hown (hw _ (List.mem_of_getElem? (i := 38) rfl)) (hw _ (List.mem_of_getElem? (i := 39) rfl)) (hw _ (List.mem_of_getElem? (i := 41) rfl)) (hw _ (List.mem_of_getElem? (i := 40) rfl)) (hw _ (List.mem_of_getElem? (i := 18) rfl)) (hw _ (List.mem_of_getElem? (i := 42) rfl)) (by decide) (rmE l Z a0 hw b67 tb 1 0 (by decide) T72.heap Fm Ht.1 Ht.2.2.2.1) e73 Ems (by rw [hml]; rfl) (argsL := []) (rest := [(.int (1 : Int32))]) pd_4 rfl rfl rfl (W := 1) (Nat.le_of_eq rfl) (hb hby at_270) (by decide) (by decide) (by decide) (by decide) ?_
        intro T74 X74 e74
        show OGoes p.tables e below _ (T74.setTop (mkF m 273 #[.val (.int p1), .val (.int p2), .val (.int p3), .val (.ref b53), .val (.int (1 : Int32)), .val (.int pp), .val (.ref d0), .val (.ref d1), .val (.ref d2), .val (.ref b63), .val (.ref b67), .val (.int (1 : Int32))] [(.int (0 : Int32)), (.int (1 : Int32))]))
        refine own_st (V := (T74.setTop (mkF m 275 #[.val (.int p1), .val (.int p2), .val (.int p3), .val (.ref b53), .val (.int (1 : Int32)), .val (.int pp), .val (.ref d0), .val (.ref d1), .val (.ref d2), .val (.ref b63), .val (.ref b67), .val (.int (1 : Int32))] [(.int pp), (.int (0 : Int32)), (.int (1 : Int32))]))) (fun t ks => XS.iload X74.here hx rfl (hb hby at_273) rfl ks) ?_
        refine own_st (V := (T74.setTop (mkF m 277 #[.val (.int p1), .val (.int p2), .val (.int p3), .val (.ref b53), .val (.int (1 : Int32)), .val (.int pp), .val (.ref d0), .val (.ref d1), .val (.ref d2), .val (.ref b63), .val (.ref b67), .val (.int (1 : Int32))] [(.int (1 : Int32)), (.int pp), (.int (0 : Int32)), (.int (1 : Int32))]))) (fun t ks => XS.iload X74.here hx rfl (hb hby at_275) rfl ks) ?_
        refine own_st (V := (T74.setTop (mkF m 284 #[.val (.int p1), .val (.int p2), .val (.int p3), .val (.ref b53), .val (.int (1 : Int32)), .val (.int pp), .val (.ref d0), .val (.ref d1), .val (.ref d2), .val (.ref b63), .val (.ref b67), .val (.int (1 : Int32))] [(.int (0 : Int32)), (.int (1 : Int32))]))) (fun t ks => XS.icmpYes X74.here hx rfl (pc0 := 277) (pc' := 284) rfl (hb hby at_277) rfl (XT.ii_ne_t (fun q => by rw [q] at hj1; revert hj1; decide)) (by decide) (by decide) ks) ?_
        refine own_st (V := (T74.setTop (mkF m 285 #[.val (.int p1), .val (.int p2), .val (.int p3), .val (.ref b53), .val (.int (1 : Int32)), .val (.int pp), .val (.ref d0), .val (.ref d1), .val (.ref d2), .val (.ref b63), .val (.ref b67), .val (.int (1 : Int32))] [(.int (0 : Int32)), (.int (0 : Int32)), (.int (1 : Int32))]))) (fun t ks => XS.iconst X74.here hx rfl (hb hby at_284) ks) ?_
        refine own_st (V := (T74.setTop (mkF m 288 #[.val (.int p1), .val (.int p2), .val (.int p3), .val (.ref b53), .val (.int (1 : Int32)), .val (.int pp), .val (.ref d0), .val (.ref d1), .val (.ref d2), .val (.ref b63), .val (.ref b67), .val (.int (1 : Int32))] [(.int (1 : Int32))]))) (fun t ks => XS.icmpNo X74.here hx rfl (hb hby at_285) rfl (XT.ii_ne_f rfl) ks) ?_
        refine own_st (V := (T74.setTop (mkF m 289 #[.val (.int p1), .val (.int p2), .val (.int p3), .val (.ref b53), .val (.int (1 : Int32)), .val (.int pp), .val (.ref d0), .val (.ref d1), .val (.ref d2), .val (.ref b63), .val (.ref b67), .val (.int (1 : Int32))] [(.int (1 : Int32)), (.int (1 : Int32))]))) (fun t ks => XS.iconst X74.here hx rfl (hb hby at_288) ks) ?_
        refine own_st (V := (T74.setTop (mkF m 293 #[.val (.int p1), .val (.int p2), .val (.int p3), .val (.ref b53), .val (.int (1 : Int32)), .val (.int pp), .val (.ref d0), .val (.ref d1), .val (.ref d2), .val (.ref b63), .val (.ref b67), .val (.int (1 : Int32))] [(.int (1 : Int32)), (.int (1 : Int32))]))) (fun t ks => XS.goto X74.here hx rfl (pc0 := 289) (pc' := 293) rfl (hb hby at_289) (by decide) (by decide) ks) ?_
        refine own_st (V := (T74.setTop (mkF m 294 #[.val (.int p1), .val (.int p2), .val (.int p3), .val (.ref b53), .val (.int (1 : Int32)), .val (.int pp), .val (.ref d0), .val (.ref d1), .val (.ref d2), .val (.ref b63), .val (.ref b67), .val (.int (1 : Int32))] [(.int ((1 : Int32) &&& (1 : Int32)))]))) (fun t ks => XS.iand X74.here hx rfl (hb hby at_293) rfl ks) ?_
        refine own_cast (g' := (mkF m 294 #[.val (.int p1), .val (.int p2), .val (.int p3), .val (.ref b53), .val (.int (1 : Int32)), .val (.int pp), .val (.ref d0), .val (.ref d1), .val (.ref d2), .val (.ref b63), .val (.ref b67), .val (.int (1 : Int32))] [(.int (1 : Int32))])) (by rw [show ((1 : Int32) &&& (1 : Int32)) = (1 : Int32) from by decide]) ?_
        refine own_st (V := (T74.setTop (mkF m 296 #[.val (.int p1), .val (.int p2), .val (.int p3), .val (.ref b53), .val (.int (1 : Int32)), .val (.int pp), .val (.ref d0), .val (.ref d1), .val (.ref d2), .val (.ref b63), .val (.ref b67), .val (.int (1 : Int32))] []))) (fun t ks => XS.istore X74.here hx rfl (hb hby at_294) rfl (l' := #[.val (.int p1), .val (.int p2), .val (.int p3), .val (.ref b53), .val (.int (1 : Int32)), .val (.int pp), .val (.ref d0), .val (.ref d1), .val (.ref d2), .val (.ref b63), .val (.ref b67), .val (.int (1 : Int32))]) rfl ks) ?_
        refine own_st (V := (T74.setTop (mkF m 298 #[.val (.int p1), .val (.int p2), .val (.int p3), .val (.ref b53), .val (.int (1 : Int32)), .val (.int pp), .val (.ref d0), .val (.ref d1), .val (.ref d2), .val (.ref b63), .val (.ref b67), .val (.int (1 : Int32))] [(.int (1 : Int32))]))) (fun t ks => XS.iload X74.here hx rfl (hb hby at_296) rfl ks) ?_
        exact own_retN X74 hx hlk (by simp) hret (hb hby at_298) (by decide) (by decide) ⟨rfl, N72⟩
      · refine own_st (V := (T73.setTop (mkF m 179 #[.val (.int p1), .val (.int p2), .val (.int p3), .val (.ref b53), .val (.int (1 : Int32)), .val (.int pp), .val (.ref d0), .val (.ref d1), .val (.ref d2), .val (.ref b63), .val (.ref b67), .val (.int (1 : Int32))] []))) (fun t ks => XS.icmpNo X73.here hx rfl (hb hby at_176) rfl (XT.ii_lt_f hj1) ks) ?_
        refine own_st (V := (T73.setTop (mkF m 181 #[.val (.int p1), .val (.int p2), .val (.int p3), .val (.ref b53), .val (.int (1 : Int32)), .val (.int pp), .val (.ref d0), .val (.ref d1), .val (.ref d2), .val (.ref b63), .val (.ref b67), .val (.int (1 : Int32))] [(.int (1 : Int32))]))) (fun t ks => XS.iload X73.here hx rfl (hb hby at_179) rfl ks) ?_
        refine own_st (V := (T73.setTop (mkF m 183 #[.val (.int p1), .val (.int p2), .val (.int p3), .val (.ref b53), .val (.int (1 : Int32)), .val (.int pp), .val (.ref d0), .val (.ref d1), .val (.ref d2), .val (.ref b63), .val (.ref b67), .val (.int (1 : Int32))] [(.ref b67), (.int (1 : Int32))]))) (fun t ks => XS.aload X73.here hx rfl (hb hby at_181) rfl rfl ks) ?_
        refine own_callV X73 hx hZ hown (hw _ (List.mem_of_getElem? (i := 77) rfl)) (hw _ (List.mem_of_getElem? (i := 78) rfl)) (hw _ (List.mem_of_getElem? (i := 80) rfl)) (hw _ (List.mem_of_getElem? (i := 79) rfl)) (hw _ (List.mem_of_getElem? (i := 18) rfl)) (hw _ (List.mem_of_getElem? (i := 81) rfl)) (by decide) (rmQ l Z a0 hw b67 tb bl w aD wN wE wS wW d0 kb kw kD 1 0 (own_put 0 0 i0) (by decide) (by decide) i0 b0 hi0 hd0 (by decide) (by decide) T72.heap hO Ems Fm SD AD Ht (by omega) hbl hlw) e73 Ems (by rw [hml]; rfl) (argsL := []) (rest := [(.int (1 : Int32))]) pd_7 rfl rfl rfl (W := 1) (Nat.le_of_eq rfl) (hb hby at_183) (by decide) (by decide) (by decide) (by decide) ?_
        rintro v75 T75 L75 X75 ⟨rfl, N75, K75, Ht⟩
        replace N75 := Fr.app N72 N75
        show OGoes p.tables e below _ (T75.setTop (mkF m 186 #[.val (.int p1), .val (.int p2), .val (.int p3), .val (.ref b53), .val (.int (1 : Int32)), .val (.int pp), .val (.ref d0), .val (.ref d1), .val (.ref d2), .val (.ref b63), .val (.ref b67), .val (.int (1 : Int32))] [(.ref d0), (.int (1 : Int32))]))
        replace hO := own_old_keep hO K75 (allS (by omega) all0)
        replace Pu := Pu.keep K75 (ninS (own_ne (by omega)) nin0)
        replace Ems := Ems.keep K75
        replace Fm := Fm.keep K75 (ninS (own_ne (by omega)) nin0)
        refine own_st (V := (T75.setTop (mkF m 188 #[.val (.int p1), .val (.int p2), .val (.int p3), .val (.ref b53), .val (.int (1 : Int32)), .val (.int pp), .val (.ref d0), .val (.ref d1), .val (.ref d2), .val (.ref b63), .val (.ref b67), .val (.int (1 : Int32))] [(.ref b63), (.ref d0), (.int (1 : Int32))]))) (fun t ks => XS.aload X75.here hx rfl (hb hby at_186) rfl rfl ks) ?_
        refine own_st (V := (T75.setTop (mkF m 190 #[.val (.int p1), .val (.int p2), .val (.int p3), .val (.ref b53), .val (.int (1 : Int32)), .val (.int pp), .val (.ref d0), .val (.ref d1), .val (.ref d2), .val (.ref b63), .val (.ref b67), .val (.int (1 : Int32))] [(.int (1 : Int32)), (.ref b63), (.ref d0), (.int (1 : Int32))]))) (fun t ks => XS.iload X75.here hx rfl (hb hby at_188) rfl ks) ?_
        refine own_st (V := (T75.setTop (mkF m 191 #[.val (.int p1), .val (.int p2), .val (.int p3), .val (.ref b53), .val (.int (1 : Int32)), .val (.int pp), .val (.ref d0), .val (.ref d1), .val (.ref d2), .val (.ref b63), .val (.ref b67), .val (.int (1 : Int32))] [(.int (1 : Int32)), (.int (1 : Int32)), (.ref b63), (.ref d0), (.int (1 : Int32))]))) (fun t ks => XS.iconst X75.here hx rfl (hb hby at_190) ks) ?_
        refine own_st (V := (T75.setTop (mkF m 192 #[.val (.int p1), .val (.int p2), .val (.int p3), .val (.ref b53), .val (.int (1 : Int32)), .val (.int pp), .val (.ref d0), .val (.ref d1), .val (.ref d2), .val (.ref b63), .val (.ref b67), .val (.int (1 : Int32))] [(.int ((1 : Int32) - (1 : Int32))), (.ref b63), (.ref d0), (.int (1 : Int32))]))) (fun t ks => XS.isub X75.here hx rfl (hb hby at_191) rfl ks) ?_
        refine own_cast (g' := (mkF m 192 #[.val (.int p1), .val (.int p2), .val (.int p3), .val (.ref b53), .val (.int (1 : Int32)), .val (.int pp), .val (.ref d0), .val (.ref d1), .val (.ref d2), .val (.ref b63), .val (.ref b67), .val (.int (1 : Int32))] [(.int (0 : Int32)), (.ref b63), (.ref d0), (.int (1 : Int32))])) (by rw [show ((1 : Int32) - (1 : Int32)) = (0 : Int32) from by decide]) ?_
        refine own_aaload X75 hx hZ rfl rfl Pu (v := (.ref d0)) (by decide) (by decide) rfl (hb hby at_192) ?_
        show OGoes p.tables e below _ (T75.setTop (mkF m 193 #[.val (.int p1), .val (.int p2), .val (.int p3), .val (.ref b53), .val (.int (1 : Int32)), .val (.int pp), .val (.ref d0), .val (.ref d1), .val (.ref d2), .val (.ref b63), .val (.ref b67), .val (.int (1 : Int32))] [(.ref d0), (.ref d0), (.int (1 : Int32))]))
        refine own_st (V := (T75.setTop (mkF m 196 #[.val (.int p1), .val (.int p2), .val (.int p3), .val (.ref b53), .val (.int (1 : Int32)), .val (.int pp), .val (.ref d0), .val (.ref d1), .val (.ref d2), .val (.ref b63), .val (.ref b67), .val (.int (1 : Int32))] [(.int (1 : Int32))]))) (fun t ks => XT.acmpNo X75.here hx rfl (hb hby at_193) rfl rfl rfl (own_aa_ne_f rfl) ks) ?_
        refine own_st (V := (T75.setTop (mkF m 197 #[.val (.int p1), .val (.int p2), .val (.int p3), .val (.ref b53), .val (.int (1 : Int32)), .val (.int pp), .val (.ref d0), .val (.ref d1), .val (.ref d2), .val (.ref b63), .val (.ref b67), .val (.int (1 : Int32))] [(.int (1 : Int32)), (.int (1 : Int32))]))) (fun t ks => XS.iconst X75.here hx rfl (hb hby at_196) ks) ?_
        refine own_st (V := (T75.setTop (mkF m 201 #[.val (.int p1), .val (.int p2), .val (.int p3), .val (.ref b53), .val (.int (1 : Int32)), .val (.int pp), .val (.ref d0), .val (.ref d1), .val (.ref d2), .val (.ref b63), .val (.ref b67), .val (.int (1 : Int32))] [(.int (1 : Int32)), (.int (1 : Int32))]))) (fun t ks => XS.goto X75.here hx rfl (pc0 := 197) (pc' := 201) rfl (hb hby at_197) (by decide) (by decide) ks) ?_
        refine own_st (V := (T75.setTop (mkF m 202 #[.val (.int p1), .val (.int p2), .val (.int p3), .val (.ref b53), .val (.int (1 : Int32)), .val (.int pp), .val (.ref d0), .val (.ref d1), .val (.ref d2), .val (.ref b63), .val (.ref b67), .val (.int (1 : Int32))] [(.int ((1 : Int32) &&& (1 : Int32)))]))) (fun t ks => XS.iand X75.here hx rfl (hb hby at_201) rfl ks) ?_
        refine own_cast (g' := (mkF m 202 #[.val (.int p1), .val (.int p2), .val (.int p3), .val (.ref b53), .val (.int (1 : Int32)), .val (.int pp), .val (.ref d0), .val (.ref d1), .val (.ref d2), .val (.ref b63), .val (.ref b67), .val (.int (1 : Int32))] [(.int (1 : Int32))])) (by rw [show ((1 : Int32) &&& (1 : Int32)) = (1 : Int32) from by decide]) ?_
        refine own_st (V := (T75.setTop (mkF m 204 #[.val (.int p1), .val (.int p2), .val (.int p3), .val (.ref b53), .val (.int (1 : Int32)), .val (.int pp), .val (.ref d0), .val (.ref d1), .val (.ref d2), .val (.ref b63), .val (.ref b67), .val (.int (1 : Int32))] []))) (fun t ks => XS.istore X75.here hx rfl (hb hby at_202) rfl (l' := #[.val (.int p1), .val (.int p2), .val (.int p3), .val (.ref b53), .val (.int (1 : Int32)), .val (.int pp), .val (.ref d0), .val (.ref d1), .val (.ref d2), .val (.ref b63), .val (.ref b67), .val (.int (1 : Int32))]) rfl ks) ?_
        refine own_st (V := (T75.setTop (mkF m 206 #[.val (.int p1), .val (.int p2), .val (.int p3), .val (.ref b53), .val (.int (1 : Int32)), .val (.int pp), .val (.ref d0), .val (.ref d1), .val (.ref d2), .val (.ref b63), .val (.ref b67), .val (.int (1 : Int32))] [(.int pp)]))) (fun t ks => XS.iload X75.here hx rfl (hb hby at_204) rfl ks) ?_
        refine own_st (V := (T75.setTop (mkF m 207 #[.val (.int p1), .val (.int p2), .val (.int p3), .val (.ref b53), .val (.int (1 : Int32)), .val (.int pp), .val (.ref d0), .val (.ref d1), .val (.ref d2), .val (.ref b63), .val (.ref b67), .val (.int (1 : Int32))] [(.int (2 : Int32)), (.int pp)]))) (fun t ks => XS.iconst X75.here hx rfl (hb hby at_206) ks) ?_
        refine own_st (V := (T75.setTop (mkF m 235 #[.val (.int p1), .val (.int p2), .val (.int p3), .val (.ref b53), .val (.int (1 : Int32)), .val (.int pp), .val (.ref d0), .val (.ref d1), .val (.ref d2), .val (.ref b63), .val (.ref b67), .val (.int (1 : Int32))] []))) (fun t ks => XS.icmpYes X75.here hx rfl (pc0 := 207) (pc' := 235) rfl (hb hby at_207) rfl (XT.ii_lt_t (by have := hp0.2; rw [Int32.lt_iff_toInt_lt] at this ⊢; simp only [show (1 : Int32).toInt = 1 from rfl, show (2 : Int32).toInt = 2 from rfl] at *; omega)) (by decide) (by decide) ks) ?_
        refine own_st (V := (T75.setTop (mkF m 237 #[.val (.int p1), .val (.int p2), .val (.int p3), .val (.ref b53), .val (.int (1 : Int32)), .val (.int pp), .val (.ref d0), .val (.ref d1), .val (.ref d2), .val (.ref b63), .val (.ref b67), .val (.int (1 : Int32))] [(.int pp)]))) (fun t ks => XS.iload X75.here hx rfl (hb hby at_235) rfl ks) ?_
        refine own_st (V := (T75.setTop (mkF m 238 #[.val (.int p1), .val (.int p2), .val (.int p3), .val (.ref b53), .val (.int (1 : Int32)), .val (.int pp), .val (.ref d0), .val (.ref d1), .val (.ref d2), .val (.ref b63), .val (.ref b67), .val (.int (1 : Int32))] [(.int (3 : Int32)), (.int pp)]))) (fun t ks => XS.iconst X75.here hx rfl (hb hby at_237) ks) ?_
        refine own_st (V := (T75.setTop (mkF m 266 #[.val (.int p1), .val (.int p2), .val (.int p3), .val (.ref b53), .val (.int (1 : Int32)), .val (.int pp), .val (.ref d0), .val (.ref d1), .val (.ref d2), .val (.ref b63), .val (.ref b67), .val (.int (1 : Int32))] []))) (fun t ks => XS.icmpYes X75.here hx rfl (pc0 := 238) (pc' := 266) rfl (hb hby at_238) rfl (XT.ii_lt_t (by have := hp0.2; rw [Int32.lt_iff_toInt_lt] at this ⊢; simp only [show (1 : Int32).toInt = 1 from rfl, show (3 : Int32).toInt = 3 from rfl] at *; omega)) (by decide) (by decide) ks) ?_
        refine own_st (V := (T75.setTop (mkF m 268 #[.val (.int p1), .val (.int p2), .val (.int p3), .val (.ref b53), .val (.int (1 : Int32)), .val (.int pp), .val (.ref d0), .val (.ref d1), .val (.ref d2), .val (.ref b63), .val (.ref b67), .val (.int (1 : Int32))] [(.int (1 : Int32))]))) (fun t ks => XS.iload X75.here hx rfl (hb hby at_266) rfl ks) ?_
        refine own_st (V := (T75.setTop (mkF m 270 #[.val (.int p1), .val (.int p2), .val (.int p3), .val (.ref b53), .val (.int (1 : Int32)), .val (.int pp), .val (.ref d0), .val (.ref d1), .val (.ref d2), .val (.ref b63), .val (.ref b67), .val (.int (1 : Int32))] [(.ref b67), (.int (1 : Int32))]))) (fun t ks => XS.aload X75.here hx rfl (hb hby at_268) rfl rfl ks) ?_
        refine own_callV0 X75 hx hZ hown (hw _ (List.mem_of_getElem? (i := 38) rfl)) (hw _ (List.mem_of_getElem? (i := 39) rfl)) (hw _ (List.mem_of_getElem? (i := 41) rfl)) (hw _ (List.mem_of_getElem? (i := 40) rfl)) (hw _ (List.mem_of_getElem? (i := 18) rfl)) (hw _ (List.mem_of_getElem? (i := 42) rfl)) (by decide) (rmE l Z a0 hw b67 tb 0 1 (by decide) T75.heap Fm Ht.1 Ht.2.2.2.1) rfl Ems (by rw [hml]; rfl) (argsL := []) (rest := [(.int (1 : Int32))]) pd_4 rfl rfl rfl (W := 1) (Nat.le_of_eq rfl) (hb hby at_270) (by decide) (by decide) (by decide) (by decide) ?_
        intro T76 X76 e76
        show OGoes p.tables e below _ (T76.setTop (mkF m 273 #[.val (.int p1), .val (.int p2), .val (.int p3), .val (.ref b53), .val (.int (1 : Int32)), .val (.int pp), .val (.ref d0), .val (.ref d1), .val (.ref d2), .val (.ref b63), .val (.ref b67), .val (.int (1 : Int32))] [(.int (1 : Int32)), (.int (1 : Int32))]))
        refine own_st (V := (T76.setTop (mkF m 275 #[.val (.int p1), .val (.int p2), .val (.int p3), .val (.ref b53), .val (.int (1 : Int32)), .val (.int pp), .val (.ref d0), .val (.ref d1), .val (.ref d2), .val (.ref b63), .val (.ref b67), .val (.int (1 : Int32))] [(.int pp), (.int (1 : Int32)), (.int (1 : Int32))]))) (fun t ks => XS.iload X76.here hx rfl (hb hby at_273) rfl ks) ?_
        refine own_st (V := (T76.setTop (mkF m 277 #[.val (.int p1), .val (.int p2), .val (.int p3), .val (.ref b53), .val (.int (1 : Int32)), .val (.int pp), .val (.ref d0), .val (.ref d1), .val (.ref d2), .val (.ref b63), .val (.ref b67), .val (.int (1 : Int32))] [(.int (1 : Int32)), (.int pp), (.int (1 : Int32)), (.int (1 : Int32))]))) (fun t ks => XS.iload X76.here hx rfl (hb hby at_275) rfl ks) ?_
        refine own_st (V := (T76.setTop (mkF m 280 #[.val (.int p1), .val (.int p2), .val (.int p3), .val (.ref b53), .val (.int (1 : Int32)), .val (.int pp), .val (.ref d0), .val (.ref d1), .val (.ref d2), .val (.ref b63), .val (.ref b67), .val (.int (1 : Int32))] [(.int (1 : Int32)), (.int (1 : Int32))]))) (fun t ks => XS.icmpNo X76.here hx rfl (hb hby at_277) rfl (XT.ii_ne_f (by have h1 := hp0.1; have h2 := hp0.2; rw [← Int32.toInt_inj]; simp only [Int32.lt_iff_toInt_lt, show (0 : Int32).toInt = 0 from rfl, show (1 : Int32).toInt = 1 from rfl] at *; omega)) ks) ?_
        refine own_st (V := (T76.setTop (mkF m 281 #[.val (.int p1), .val (.int p2), .val (.int p3), .val (.ref b53), .val (.int (1 : Int32)), .val (.int pp), .val (.ref d0), .val (.ref d1), .val (.ref d2), .val (.ref b63), .val (.ref b67), .val (.int (1 : Int32))] [(.int (1 : Int32)), (.int (1 : Int32)), (.int (1 : Int32))]))) (fun t ks => XS.iconst X76.here hx rfl (hb hby at_280) ks) ?_
        refine own_st (V := (T76.setTop (mkF m 285 #[.val (.int p1), .val (.int p2), .val (.int p3), .val (.ref b53), .val (.int (1 : Int32)), .val (.int pp), .val (.ref d0), .val (.ref d1), .val (.ref d2), .val (.ref b63), .val (.ref b67), .val (.int (1 : Int32))] [(.int (1 : Int32)), (.int (1 : Int32)), (.int (1 : Int32))]))) (fun t ks => XS.goto X76.here hx rfl (pc0 := 281) (pc' := 285) rfl (hb hby at_281) (by decide) (by decide) ks) ?_
        refine own_st (V := (T76.setTop (mkF m 288 #[.val (.int p1), .val (.int p2), .val (.int p3), .val (.ref b53), .val (.int (1 : Int32)), .val (.int pp), .val (.ref d0), .val (.ref d1), .val (.ref d2), .val (.ref b63), .val (.ref b67), .val (.int (1 : Int32))] [(.int (1 : Int32))]))) (fun t ks => XS.icmpNo X76.here hx rfl (hb hby at_285) rfl (XT.ii_ne_f rfl) ks) ?_
        refine own_st (V := (T76.setTop (mkF m 289 #[.val (.int p1), .val (.int p2), .val (.int p3), .val (.ref b53), .val (.int (1 : Int32)), .val (.int pp), .val (.ref d0), .val (.ref d1), .val (.ref d2), .val (.ref b63), .val (.ref b67), .val (.int (1 : Int32))] [(.int (1 : Int32)), (.int (1 : Int32))]))) (fun t ks => XS.iconst X76.here hx rfl (hb hby at_288) ks) ?_
        refine own_st (V := (T76.setTop (mkF m 293 #[.val (.int p1), .val (.int p2), .val (.int p3), .val (.ref b53), .val (.int (1 : Int32)), .val (.int pp), .val (.ref d0), .val (.ref d1), .val (.ref d2), .val (.ref b63), .val (.ref b67), .val (.int (1 : Int32))] [(.int (1 : Int32)), (.int (1 : Int32))]))) (fun t ks => XS.goto X76.here hx rfl (pc0 := 289) (pc' := 293) rfl (hb hby at_289) (by decide) (by decide) ks) ?_
        refine own_st (V := (T76.setTop (mkF m 294 #[.val (.int p1), .val (.int p2), .val (.int p3), .val (.ref b53), .val (.int (1 : Int32)), .val (.int pp), .val (.ref d0), .val (.ref d1), .val (.ref d2), .val (.ref b63), .val (.ref b67), .val (.int (1 : Int32))] [(.int ((1 : Int32) &&& (1 : Int32)))]))) (fun t ks => XS.iand X76.here hx rfl (hb hby at_293) rfl ks) ?_
        refine own_cast (g' := (mkF m 294 #[.val (.int p1), .val (.int p2), .val (.int p3), .val (.ref b53), .val (.int (1 : Int32)), .val (.int pp), .val (.ref d0), .val (.ref d1), .val (.ref d2), .val (.ref b63), .val (.ref b67), .val (.int (1 : Int32))] [(.int (1 : Int32))])) (by rw [show ((1 : Int32) &&& (1 : Int32)) = (1 : Int32) from by decide]) ?_
        refine own_st (V := (T76.setTop (mkF m 296 #[.val (.int p1), .val (.int p2), .val (.int p3), .val (.ref b53), .val (.int (1 : Int32)), .val (.int pp), .val (.ref d0), .val (.ref d1), .val (.ref d2), .val (.ref b63), .val (.ref b67), .val (.int (1 : Int32))] []))) (fun t ks => XS.istore X76.here hx rfl (hb hby at_294) rfl (l' := #[.val (.int p1), .val (.int p2), .val (.int p3), .val (.ref b53), .val (.int (1 : Int32)), .val (.int pp), .val (.ref d0), .val (.ref d1), .val (.ref d2), .val (.ref b63), .val (.ref b67), .val (.int (1 : Int32))]) rfl ks) ?_
        refine own_st (V := (T76.setTop (mkF m 298 #[.val (.int p1), .val (.int p2), .val (.int p3), .val (.ref b53), .val (.int (1 : Int32)), .val (.int pp), .val (.ref d0), .val (.ref d1), .val (.ref d2), .val (.ref b63), .val (.ref b67), .val (.int (1 : Int32))] [(.int (1 : Int32))]))) (fun t ks => XS.iload X76.here hx rfl (hb hby at_296) rfl ks) ?_
        exact own_retN X76 hx hlk (by simp) hret (hb hby at_298) (by decide) (by decide) ⟨rfl, N75⟩
    · by_cases hk2 : k = 2
      · obtain rfl := hk2
        show OGoes p.tables e below _ (T69.setTop (mkF m 109 #[.val (.int p1), .val (.int p2), .val (.int p3), .val (.ref b53), .val (.int (2 : Int32)), .val (.int pp), .val (.ref d0), .val (.ref d1), .val (.ref d2), .val (.ref b63), .val (.ref b67), .val (.int (1 : Int32))] [(.int (1 : Int32)), (.int (2 : Int32))]))
        refine own_st (V := (T69.setTop (mkF m 112 #[.val (.int p1), .val (.int p2), .val (.int p3), .val (.ref b53), .val (.int (2 : Int32)), .val (.int pp), .val (.ref d0), .val (.ref d1), .val (.ref d2), .val (.ref b63), .val (.ref b67), .val (.int (1 : Int32))] []))) (fun t ks => XS.icmpNo X69.here hx rfl (hb hby at_109) rfl (XT.ii_lt_f (by decide)) ks) ?_
        refine own_st (V := (T69.setTop (mkF m 114 #[.val (.int p1), .val (.int p2), .val (.int p3), .val (.ref b53), .val (.int (2 : Int32)), .val (.int pp), .val (.ref d0), .val (.ref d1), .val (.ref d2), .val (.ref b63), .val (.ref b67), .val (.int (1 : Int32))] [(.ref b67)]))) (fun t ks => XS.aload X69.here hx rfl (hb hby at_112) rfl rfl ks) ?_
        refine own_st (V := (T69.setTop (mkF m 116 #[.val (.int p1), .val (.int p2), .val (.int p3), .val (.ref b53), .val (.int (2 : Int32)), .val (.int pp), .val (.ref d0), .val (.ref d1), .val (.ref d2), .val (.ref b63), .val (.ref b67), .val (.int (1 : Int32))] [(.ref d0), (.ref b67)]))) (fun t ks => XS.aload X69.here hx rfl (hb hby at_114) rfl rfl ks) ?_
        have hblT : @LT.lt Nat _ bl T68.heap.size := Ht.2.2.2.2.1.lt
        refine own_callV X69 hx hZ hown (hw _ (List.mem_of_getElem? (i := 50) rfl)) (hw _ (List.mem_of_getElem? (i := 51) rfl)) (hw _ (List.mem_of_getElem? (i := 53) rfl)) (hw _ (List.mem_of_getElem? (i := 52) rfl)) (hw _ (List.mem_of_getElem? (i := 18) rfl)) (hw _ (List.mem_of_getElem? (i := 54) rfl)) (by decide) (rmP0 l Z a0 hw b67 d0 tb bl kb i0 (own_clear hi0) T68.heap hO Fm (Ed0.ext hO) (Od0.ext hO) Ht (by omega) hbl) e69 Ems (by rw [hml]; rfl) (argsL := [(.ref d0)]) (rest := []) pd_6 rfl rfl rfl (W := 0) (Nat.le_of_eq rfl) (hb hby at_116) (by decide) (by decide) (by decide) (by decide) ?_
        rintro v77 T77 L77 X77 ⟨rfl, N77, K77, w, kw, hww, Ht⟩
        replace N77 := Fr.app N68 N77
        show OGoes p.tables e below _ (T77.setTop (mkF m 119 #[.val (.int p1), .val (.int p2), .val (.int p3), .val (.ref b53), .val (.int (2 : Int32)), .val (.int pp), .val (.ref d0), .val (.ref d1), .val (.ref d2), .val (.ref b63), .val (.ref b67), .val (.int (1 : Int32))] []))
        have hlw : bl < w := Nat.lt_of_lt_of_le hblT hww
        replace hO := own_old_keep hO K77 (allS (by omega) (allS (by omega) all0))
        replace Pu := Pu.keep K77 (ninS (own_ne (by omega)) (ninS (own_ne (by omega)) nin0))
        replace Ems := Ems.keep K77
        replace Fm := Fm.keep K77 (ninS (own_ne (by omega)) (ninS (own_ne (by omega)) nin0))
        refine own_st (V := (T77.setTop (mkF m 121 #[.val (.int p1), .val (.int p2), .val (.int p3), .val (.ref b53), .val (.int (2 : Int32)), .val (.int pp), .val (.ref d0), .val (.ref d1), .val (.ref d2), .val (.ref b63), .val (.ref b67), .val (.int (1 : Int32))] [(.int (2 : Int32))]))) (fun t ks => XS.iload X77.here hx rfl (hb hby at_119) rfl ks) ?_
        refine own_st (V := (T77.setTop (mkF m 122 #[.val (.int p1), .val (.int p2), .val (.int p3), .val (.ref b53), .val (.int (2 : Int32)), .val (.int pp), .val (.ref d0), .val (.ref d1), .val (.ref d2), .val (.ref b63), .val (.ref b67), .val (.int (1 : Int32))] [(.int (2 : Int32)), (.int (2 : Int32))]))) (fun t ks => XS.iconst X77.here hx rfl (hb hby at_121) ks) ?_
        refine own_st (V := (T77.setTop (mkF m 125 #[.val (.int p1), .val (.int p2), .val (.int p3), .val (.ref b53), .val (.int (2 : Int32)), .val (.int pp), .val (.ref d0), .val (.ref d1), .val (.ref d2), .val (.ref b63), .val (.ref b67), .val (.int (1 : Int32))] []))) (fun t ks => XS.icmpNo X77.here hx rfl (hb hby at_122) rfl (XT.ii_lt_f (by decide)) ks) ?_
        refine own_st (V := (T77.setTop (mkF m 127 #[.val (.int p1), .val (.int p2), .val (.int p3), .val (.ref b53), .val (.int (2 : Int32)), .val (.int pp), .val (.ref d0), .val (.ref d1), .val (.ref d2), .val (.ref b63), .val (.ref b67), .val (.int (1 : Int32))] [(.ref b67)]))) (fun t ks => XS.aload X77.here hx rfl (hb hby at_125) rfl rfl ks) ?_
        refine own_st (V := (T77.setTop (mkF m 129 #[.val (.int p1), .val (.int p2), .val (.int p3), .val (.ref b53), .val (.int (2 : Int32)), .val (.int pp), .val (.ref d0), .val (.ref d1), .val (.ref d2), .val (.ref b63), .val (.ref b67), .val (.int (1 : Int32))] [(.ref d1), (.ref b67)]))) (fun t ks => XS.aload X77.here hx rfl (hb hby at_127) rfl rfl ks) ?_
        refine own_callV X77 hx hZ hown (hw _ (List.mem_of_getElem? (i := 50) rfl)) (hw _ (List.mem_of_getElem? (i := 51) rfl)) (hw _ (List.mem_of_getElem? (i := 53) rfl)) (hw _ (List.mem_of_getElem? (i := 52) rfl)) (hw _ (List.mem_of_getElem? (i := 18) rfl)) (hw _ (List.mem_of_getElem? (i := 54) rfl)) (by decide) (rmP1 l Z a0 hw b67 d1 tb bl w kb kw 1 2 (own_put 0 0 i0) i1 (own_clear hi1) (by decide) (by decide) (by decide) T77.heap hO Fm (Ed1.ext hO) (Od1.ext hO) Ht (by omega) hbl hlw) rfl Ems (by rw [hml]; rfl) (argsL := [(.ref d1)]) (rest := []) pd_6 rfl rfl rfl (W := 0) (Nat.le_of_eq rfl) (hb hby at_129) (by decide) (by decide) (by decide) (by decide) ?_
        rintro v78 T78 L78 X78 ⟨rfl, N78, K78, Ht⟩
        replace N78 := Fr.app N77 N78
        show OGoes p.tables e below _ (T78.setTop (mkF m 132 #[.val (.int p1), .val (.int p2), .val (.int p3), .val (.ref b53), .val (.int (2 : Int32)), .val (.int pp), .val (.ref d0), .val (.ref d1), .val (.ref d2), .val (.ref b63), .val (.ref b67), .val (.int (1 : Int32))] []))
        replace hO := own_old_keep hO K78 (allS (by omega) (allS (by omega) all0))
        replace Pu := Pu.keep K78 (ninS (own_ne (by omega)) (ninS (own_ne (by omega)) nin0))
        replace Ems := Ems.keep K78
        replace Fm := Fm.keep K78 (ninS (own_ne (by omega)) (ninS (own_ne (by omega)) nin0))
        refine own_st (V := (T78.setTop (mkF m 134 #[.val (.int p1), .val (.int p2), .val (.int p3), .val (.ref b53), .val (.int (2 : Int32)), .val (.int pp), .val (.ref d0), .val (.ref d1), .val (.ref d2), .val (.ref b63), .val (.ref b67), .val (.int (1 : Int32))] [(.int (2 : Int32))]))) (fun t ks => XS.iload X78.here hx rfl (hb hby at_132) rfl ks) ?_
        refine own_st (V := (T78.setTop (mkF m 135 #[.val (.int p1), .val (.int p2), .val (.int p3), .val (.ref b53), .val (.int (2 : Int32)), .val (.int pp), .val (.ref d0), .val (.ref d1), .val (.ref d2), .val (.ref b63), .val (.ref b67), .val (.int (1 : Int32))] [(.int (3 : Int32)), (.int (2 : Int32))]))) (fun t ks => XS.iconst X78.here hx rfl (hb hby at_134) ks) ?_
        refine own_st (V := (T78.setTop (mkF m 145 #[.val (.int p1), .val (.int p2), .val (.int p3), .val (.ref b53), .val (.int (2 : Int32)), .val (.int pp), .val (.ref d0), .val (.ref d1), .val (.ref d2), .val (.ref b63), .val (.ref b67), .val (.int (1 : Int32))] []))) (fun t ks => XS.icmpYes X78.here hx rfl (pc0 := 135) (pc' := 145) rfl (hb hby at_135) rfl (XT.ii_lt_t (by decide)) (by decide) (by decide) ks) ?_
        refine own_st (V := (T78.setTop (mkF m 147 #[.val (.int p1), .val (.int p2), .val (.int p3), .val (.ref b53), .val (.int (2 : Int32)), .val (.int pp), .val (.ref d0), .val (.ref d1), .val (.ref d2), .val (.ref b63), .val (.ref b67), .val (.int (1 : Int32))] [(.int (1 : Int32))]))) (fun t ks => XS.iload X78.here hx rfl (hb hby at_145) rfl ks) ?_
        refine own_st (V := (T78.setTop (mkF m 149 #[.val (.int p1), .val (.int p2), .val (.int p3), .val (.ref b53), .val (.int (2 : Int32)), .val (.int pp), .val (.ref d0), .val (.ref d1), .val (.ref d2), .val (.ref b63), .val (.ref b67), .val (.int (1 : Int32))] [(.ref b67), (.int (1 : Int32))]))) (fun t ks => XS.aload X78.here hx rfl (hb hby at_147) rfl rfl ks) ?_
        refine own_callV0 X78 hx hZ hown (hw _ (List.mem_of_getElem? (i := 38) rfl)) (hw _ (List.mem_of_getElem? (i := 39) rfl)) (hw _ (List.mem_of_getElem? (i := 41) rfl)) (hw _ (List.mem_of_getElem? (i := 40) rfl)) (hw _ (List.mem_of_getElem? (i := 18) rfl)) (hw _ (List.mem_of_getElem? (i := 42) rfl)) (by decide) (rmE l Z a0 hw b67 tb 2 0 (by decide) T78.heap Fm Ht.1 Ht.2.2.2.1) rfl Ems (by rw [hml]; rfl) (argsL := []) (rest := [(.int (1 : Int32))]) pd_4 rfl rfl rfl (W := 1) (Nat.le_of_eq rfl) (hb hby at_149) (by decide) (by decide) (by decide) (by decide) ?_
        intro T79 X79 e79
        show OGoes p.tables e below _ (T79.setTop (mkF m 152 #[.val (.int p1), .val (.int p2), .val (.int p3), .val (.ref b53), .val (.int (2 : Int32)), .val (.int pp), .val (.ref d0), .val (.ref d1), .val (.ref d2), .val (.ref b63), .val (.ref b67), .val (.int (1 : Int32))] [(.int (0 : Int32)), (.int (1 : Int32))]))
        refine own_st (V := (T79.setTop (mkF m 154 #[.val (.int p1), .val (.int p2), .val (.int p3), .val (.ref b53), .val (.int (2 : Int32)), .val (.int pp), .val (.ref d0), .val (.ref d1), .val (.ref d2), .val (.ref b63), .val (.ref b67), .val (.int (1 : Int32))] [(.int (2 : Int32)), (.int (0 : Int32)), (.int (1 : Int32))]))) (fun t ks => XS.iload X79.here hx rfl (hb hby at_152) rfl ks) ?_
        refine own_st (V := (T79.setTop (mkF m 161 #[.val (.int p1), .val (.int p2), .val (.int p3), .val (.ref b53), .val (.int (2 : Int32)), .val (.int pp), .val (.ref d0), .val (.ref d1), .val (.ref d2), .val (.ref b63), .val (.ref b67), .val (.int (1 : Int32))] [(.int (0 : Int32)), (.int (1 : Int32))]))) (fun t ks => XS.ifYes X79.here hx rfl (pc0 := 154) (pc' := 161) rfl (hb hby at_154) rfl (XT.i0_ne_t (by decide)) (by decide) (by decide) ks) ?_
        refine own_st (V := (T79.setTop (mkF m 162 #[.val (.int p1), .val (.int p2), .val (.int p3), .val (.ref b53), .val (.int (2 : Int32)), .val (.int pp), .val (.ref d0), .val (.ref d1), .val (.ref d2), .val (.ref b63), .val (.ref b67), .val (.int (1 : Int32))] [(.int (0 : Int32)), (.int (0 : Int32)), (.int (1 : Int32))]))) (fun t ks => XS.iconst X79.here hx rfl (hb hby at_161) ks) ?_
        refine own_st (V := (T79.setTop (mkF m 165 #[.val (.int p1), .val (.int p2), .val (.int p3), .val (.ref b53), .val (.int (2 : Int32)), .val (.int pp), .val (.ref d0), .val (.ref d1), .val (.ref d2), .val (.ref b63), .val (.ref b67), .val (.int (1 : Int32))] [(.int (1 : Int32))]))) (fun t ks => XS.icmpNo X79.here hx rfl (hb hby at_162) rfl (XT.ii_ne_f rfl) ks) ?_
        refine own_st (V := (T79.setTop (mkF m 166 #[.val (.int p1), .val (.int p2), .val (.int p3), .val (.ref b53), .val (.int (2 : Int32)), .val (.int pp), .val (.ref d0), .val (.ref d1), .val (.ref d2), .val (.ref b63), .val (.ref b67), .val (.int (1 : Int32))] [(.int (1 : Int32)), (.int (1 : Int32))]))) (fun t ks => XS.iconst X79.here hx rfl (hb hby at_165) ks) ?_
        refine own_st (V := (T79.setTop (mkF m 170 #[.val (.int p1), .val (.int p2), .val (.int p3), .val (.ref b53), .val (.int (2 : Int32)), .val (.int pp), .val (.ref d0), .val (.ref d1), .val (.ref d2), .val (.ref b63), .val (.ref b67), .val (.int (1 : Int32))] [(.int (1 : Int32)), (.int (1 : Int32))]))) (fun t ks => XS.goto X79.here hx rfl (pc0 := 166) (pc' := 170) rfl (hb hby at_166) (by decide) (by decide) ks) ?_
        refine own_st (V := (T79.setTop (mkF m 171 #[.val (.int p1), .val (.int p2), .val (.int p3), .val (.ref b53), .val (.int (2 : Int32)), .val (.int pp), .val (.ref d0), .val (.ref d1), .val (.ref d2), .val (.ref b63), .val (.ref b67), .val (.int (1 : Int32))] [(.int ((1 : Int32) &&& (1 : Int32)))]))) (fun t ks => XS.iand X79.here hx rfl (hb hby at_170) rfl ks) ?_
        refine own_cast (g' := (mkF m 171 #[.val (.int p1), .val (.int p2), .val (.int p3), .val (.ref b53), .val (.int (2 : Int32)), .val (.int pp), .val (.ref d0), .val (.ref d1), .val (.ref d2), .val (.ref b63), .val (.ref b67), .val (.int (1 : Int32))] [(.int (1 : Int32))])) (by rw [show ((1 : Int32) &&& (1 : Int32)) = (1 : Int32) from by decide]) ?_
        refine own_st (V := (T79.setTop (mkF m 173 #[.val (.int p1), .val (.int p2), .val (.int p3), .val (.ref b53), .val (.int (2 : Int32)), .val (.int pp), .val (.ref d0), .val (.ref d1), .val (.ref d2), .val (.ref b63), .val (.ref b67), .val (.int (1 : Int32))] []))) (fun t ks => XS.istore X79.here hx rfl (hb hby at_171) rfl (l' := #[.val (.int p1), .val (.int p2), .val (.int p3), .val (.ref b53), .val (.int (2 : Int32)), .val (.int pp), .val (.ref d0), .val (.ref d1), .val (.ref d2), .val (.ref b63), .val (.ref b67), .val (.int (1 : Int32))]) rfl ks) ?_
        refine own_st (V := (T79.setTop (mkF m 175 #[.val (.int p1), .val (.int p2), .val (.int p3), .val (.ref b53), .val (.int (2 : Int32)), .val (.int pp), .val (.ref d0), .val (.ref d1), .val (.ref d2), .val (.ref b63), .val (.ref b67), .val (.int (1 : Int32))] [(.int pp)]))) (fun t ks => XS.iload X79.here hx rfl (hb hby at_173) rfl ks) ?_
        refine own_st (V := (T79.setTop (mkF m 176 #[.val (.int p1), .val (.int p2), .val (.int p3), .val (.ref b53), .val (.int (2 : Int32)), .val (.int pp), .val (.ref d0), .val (.ref d1), .val (.ref d2), .val (.ref b63), .val (.ref b67), .val (.int (1 : Int32))] [(.int (1 : Int32)), (.int pp)]))) (fun t ks => XS.iconst X79.here hx rfl (hb hby at_175) ks) ?_
        by_cases hj1 : pp < (1 : Int32)
        · refine own_st (V := (T79.setTop (mkF m 204 #[.val (.int p1), .val (.int p2), .val (.int p3), .val (.ref b53), .val (.int (2 : Int32)), .val (.int pp), .val (.ref d0), .val (.ref d1), .val (.ref d2), .val (.ref b63), .val (.ref b67), .val (.int (1 : Int32))] []))) (fun t ks => XS.icmpYes X79.here hx rfl (pc0 := 176) (pc' := 204) rfl (hb hby at_176) rfl (XT.ii_lt_t hj1) (by decide) (by decide) ks) ?_
          refine own_st (V := (T79.setTop (mkF m 206 #[.val (.int p1), .val (.int p2), .val (.int p3), .val (.ref b53), .val (.int (2 : Int32)), .val (.int pp), .val (.ref d0), .val (.ref d1), .val (.ref d2), .val (.ref b63), .val (.ref b67), .val (.int (1 : Int32))] [(.int pp)]))) (fun t ks => XS.iload X79.here hx rfl (hb hby at_204) rfl ks) ?_
          refine own_st (V := (T79.setTop (mkF m 207 #[.val (.int p1), .val (.int p2), .val (.int p3), .val (.ref b53), .val (.int (2 : Int32)), .val (.int pp), .val (.ref d0), .val (.ref d1), .val (.ref d2), .val (.ref b63), .val (.ref b67), .val (.int (1 : Int32))] [(.int (2 : Int32)), (.int pp)]))) (fun t ks => XS.iconst X79.here hx rfl (hb hby at_206) ks) ?_
          refine own_st (V := (T79.setTop (mkF m 235 #[.val (.int p1), .val (.int p2), .val (.int p3), .val (.ref b53), .val (.int (2 : Int32)), .val (.int pp), .val (.ref d0), .val (.ref d1), .val (.ref d2), .val (.ref b63), .val (.ref b67), .val (.int (1 : Int32))] []))) (fun t ks => XS.icmpYes X79.here hx rfl (pc0 := 207) (pc' := 235) rfl (hb hby at_207) rfl (XT.ii_lt_t (by rw [Int32.lt_iff_toInt_lt] at hj1 ⊢; simp only [show (1 : Int32).toInt = 1 from rfl, show (2 : Int32).toInt = 2 from rfl] at *; omega)) (by decide) (by decide) ks) ?_
          refine own_st (V := (T79.setTop (mkF m 237 #[.val (.int p1), .val (.int p2), .val (.int p3), .val (.ref b53), .val (.int (2 : Int32)), .val (.int pp), .val (.ref d0), .val (.ref d1), .val (.ref d2), .val (.ref b63), .val (.ref b67), .val (.int (1 : Int32))] [(.int pp)]))) (fun t ks => XS.iload X79.here hx rfl (hb hby at_235) rfl ks) ?_
          refine own_st (V := (T79.setTop (mkF m 238 #[.val (.int p1), .val (.int p2), .val (.int p3), .val (.ref b53), .val (.int (2 : Int32)), .val (.int pp), .val (.ref d0), .val (.ref d1), .val (.ref d2), .val (.ref b63), .val (.ref b67), .val (.int (1 : Int32))] [(.int (3 : Int32)), (.int pp)]))) (fun t ks => XS.iconst X79.here hx rfl (hb hby at_237) ks) ?_
          refine own_st (V := (T79.setTop (mkF m 266 #[.val (.int p1), .val (.int p2), .val (.int p3), .val (.ref b53), .val (.int (2 : Int32)), .val (.int pp), .val (.ref d0), .val (.ref d1), .val (.ref d2), .val (.ref b63), .val (.ref b67), .val (.int (1 : Int32))] []))) (fun t ks => XS.icmpYes X79.here hx rfl (pc0 := 238) (pc' := 266) rfl (hb hby at_238) rfl (XT.ii_lt_t (by rw [Int32.lt_iff_toInt_lt] at hj1 ⊢; simp only [show (1 : Int32).toInt = 1 from rfl, show (3 : Int32).toInt = 3 from rfl] at *; omega)) (by decide) (by decide) ks) ?_
          refine own_st (V := (T79.setTop (mkF m 268 #[.val (.int p1), .val (.int p2), .val (.int p3), .val (.ref b53), .val (.int (2 : Int32)), .val (.int pp), .val (.ref d0), .val (.ref d1), .val (.ref d2), .val (.ref b63), .val (.ref b67), .val (.int (1 : Int32))] [(.int (1 : Int32))]))) (fun t ks => XS.iload X79.here hx rfl (hb hby at_266) rfl ks) ?_
          refine own_st (V := (T79.setTop (mkF m 270 #[.val (.int p1), .val (.int p2), .val (.int p3), .val (.ref b53), .val (.int (2 : Int32)), .val (.int pp), .val (.ref d0), .val (.ref d1), .val (.ref d2), .val (.ref b63), .val (.ref b67), .val (.int (1 : Int32))] [(.ref b67), (.int (1 : Int32))]))) (fun t ks => XS.aload X79.here hx rfl (hb hby at_268) rfl rfl ks) ?_
          refine own_callV0 X79 hx hZ hown (hw _ (List.mem_of_getElem? (i := 38) rfl)) (hw _ (List.mem_of_getElem? (i := 39) rfl)) (hw _ (List.mem_of_getElem? (i := 41) rfl)) (hw _ (List.mem_of_getElem? (i := 40) rfl)) (hw _ (List.mem_of_getElem? (i := 18) rfl)) (hw _ (List.mem_of_getElem? (i := 42) rfl)) (by decide) (rmE l Z a0 hw b67 tb 2 0 (by decide) T78.heap Fm Ht.1 Ht.2.2.2.1) e79 Ems (by rw [hml]; rfl) (argsL := []) (rest := [(.int (1 : Int32))]) pd_4 rfl rfl rfl (W := 1) (Nat.le_of_eq rfl) (hb hby at_270) (by decide) (by decide) (by decide) (by decide) ?_
          intro T80 X80 e80
          show OGoes p.tables e below _ (T80.setTop (mkF m 273 #[.val (.int p1), .val (.int p2), .val (.int p3), .val (.ref b53), .val (.int (2 : Int32)), .val (.int pp), .val (.ref d0), .val (.ref d1), .val (.ref d2), .val (.ref b63), .val (.ref b67), .val (.int (1 : Int32))] [(.int (0 : Int32)), (.int (1 : Int32))]))
          refine own_st (V := (T80.setTop (mkF m 275 #[.val (.int p1), .val (.int p2), .val (.int p3), .val (.ref b53), .val (.int (2 : Int32)), .val (.int pp), .val (.ref d0), .val (.ref d1), .val (.ref d2), .val (.ref b63), .val (.ref b67), .val (.int (1 : Int32))] [(.int pp), (.int (0 : Int32)), (.int (1 : Int32))]))) (fun t ks => XS.iload X80.here hx rfl (hb hby at_273) rfl ks) ?_
          refine own_st (V := (T80.setTop (mkF m 277 #[.val (.int p1), .val (.int p2), .val (.int p3), .val (.ref b53), .val (.int (2 : Int32)), .val (.int pp), .val (.ref d0), .val (.ref d1), .val (.ref d2), .val (.ref b63), .val (.ref b67), .val (.int (1 : Int32))] [(.int (2 : Int32)), (.int pp), (.int (0 : Int32)), (.int (1 : Int32))]))) (fun t ks => XS.iload X80.here hx rfl (hb hby at_275) rfl ks) ?_
          refine own_st (V := (T80.setTop (mkF m 284 #[.val (.int p1), .val (.int p2), .val (.int p3), .val (.ref b53), .val (.int (2 : Int32)), .val (.int pp), .val (.ref d0), .val (.ref d1), .val (.ref d2), .val (.ref b63), .val (.ref b67), .val (.int (1 : Int32))] [(.int (0 : Int32)), (.int (1 : Int32))]))) (fun t ks => XS.icmpYes X80.here hx rfl (pc0 := 277) (pc' := 284) rfl (hb hby at_277) rfl (XT.ii_ne_t (fun q => by rw [q] at hj1; revert hj1; decide)) (by decide) (by decide) ks) ?_
          refine own_st (V := (T80.setTop (mkF m 285 #[.val (.int p1), .val (.int p2), .val (.int p3), .val (.ref b53), .val (.int (2 : Int32)), .val (.int pp), .val (.ref d0), .val (.ref d1), .val (.ref d2), .val (.ref b63), .val (.ref b67), .val (.int (1 : Int32))] [(.int (0 : Int32)), (.int (0 : Int32)), (.int (1 : Int32))]))) (fun t ks => XS.iconst X80.here hx rfl (hb hby at_284) ks) ?_
          refine own_st (V := (T80.setTop (mkF m 288 #[.val (.int p1), .val (.int p2), .val (.int p3), .val (.ref b53), .val (.int (2 : Int32)), .val (.int pp), .val (.ref d0), .val (.ref d1), .val (.ref d2), .val (.ref b63), .val (.ref b67), .val (.int (1 : Int32))] [(.int (1 : Int32))]))) (fun t ks => XS.icmpNo X80.here hx rfl (hb hby at_285) rfl (XT.ii_ne_f rfl) ks) ?_
          refine own_st (V := (T80.setTop (mkF m 289 #[.val (.int p1), .val (.int p2), .val (.int p3), .val (.ref b53), .val (.int (2 : Int32)), .val (.int pp), .val (.ref d0), .val (.ref d1), .val (.ref d2), .val (.ref b63), .val (.ref b67), .val (.int (1 : Int32))] [(.int (1 : Int32)), (.int (1 : Int32))]))) (fun t ks => XS.iconst X80.here hx rfl (hb hby at_288) ks) ?_
          refine own_st (V := (T80.setTop (mkF m 293 #[.val (.int p1), .val (.int p2), .val (.int p3), .val (.ref b53), .val (.int (2 : Int32)), .val (.int pp), .val (.ref d0), .val (.ref d1), .val (.ref d2), .val (.ref b63), .val (.ref b67), .val (.int (1 : Int32))] [(.int (1 : Int32)), (.int (1 : Int32))]))) (fun t ks => XS.goto X80.here hx rfl (pc0 := 289) (pc' := 293) rfl (hb hby at_289) (by decide) (by decide) ks) ?_
          refine own_st (V := (T80.setTop (mkF m 294 #[.val (.int p1), .val (.int p2), .val (.int p3), .val (.ref b53), .val (.int (2 : Int32)), .val (.int pp), .val (.ref d0), .val (.ref d1), .val (.ref d2), .val (.ref b63), .val (.ref b67), .val (.int (1 : Int32))] [(.int ((1 : Int32) &&& (1 : Int32)))]))) (fun t ks => XS.iand X80.here hx rfl (hb hby at_293) rfl ks) ?_
          refine own_cast (g' := (mkF m 294 #[.val (.int p1), .val (.int p2), .val (.int p3), .val (.ref b53), .val (.int (2 : Int32)), .val (.int pp), .val (.ref d0), .val (.ref d1), .val (.ref d2), .val (.ref b63), .val (.ref b67), .val (.int (1 : Int32))] [(.int (1 : Int32))])) (by rw [show ((1 : Int32) &&& (1 : Int32)) = (1 : Int32) from by decide]) ?_
          refine own_st (V := (T80.setTop (mkF m 296 #[.val (.int p1), .val (.int p2), .val (.int p3), .val (.ref b53), .val (.int (2 : Int32)), .val (.int pp), .val (.ref d0), .val (.ref d1), .val (.ref d2), .val (.ref b63), .val (.ref b67), .val (.int (1 : Int32))] []))) (fun t ks => XS.istore X80.here hx rfl (hb hby at_294) rfl (l' := #[.val (.int p1), .val (.int p2), .val (.int p3), .val (.ref b53), .val (.int (2 : Int32)), .val (.int pp), .val (.ref d0), .val (.ref d1), .val (.ref d2), .val (.ref b63), .val (.ref b67), .val (.int (1 : Int32))]) rfl ks) ?_
          refine own_st (V := (T80.setTop (mkF m 298 #[.val (.int p1), .val (.int p2), .val (.int p3), .val (.ref b53), .val (.int (2 : Int32)), .val (.int pp), .val (.ref d0), .val (.ref d1), .val (.ref d2), .val (.ref b63), .val (.ref b67), .val (.int (1 : Int32))] [(.int (1 : Int32))]))) (fun t ks => XS.iload X80.here hx rfl (hb hby at_296) rfl ks) ?_
          exact own_retN X80 hx hlk (by simp) hret (hb hby at_298) (by decide) (by decide) ⟨rfl, N78⟩
        · refine own_st (V := (T79.setTop (mkF m 179 #[.val (.int p1), .val (.int p2), .val (.int p3), .val (.ref b53), .val (.int (2 : Int32)), .val (.int pp), .val (.ref d0), .val (.ref d1), .val (.ref d2), .val (.ref b63), .val (.ref b67), .val (.int (1 : Int32))] []))) (fun t ks => XS.icmpNo X79.here hx rfl (hb hby at_176) rfl (XT.ii_lt_f hj1) ks) ?_
          refine own_st (V := (T79.setTop (mkF m 181 #[.val (.int p1), .val (.int p2), .val (.int p3), .val (.ref b53), .val (.int (2 : Int32)), .val (.int pp), .val (.ref d0), .val (.ref d1), .val (.ref d2), .val (.ref b63), .val (.ref b67), .val (.int (1 : Int32))] [(.int (1 : Int32))]))) (fun t ks => XS.iload X79.here hx rfl (hb hby at_179) rfl ks) ?_
          refine own_st (V := (T79.setTop (mkF m 183 #[.val (.int p1), .val (.int p2), .val (.int p3), .val (.ref b53), .val (.int (2 : Int32)), .val (.int pp), .val (.ref d0), .val (.ref d1), .val (.ref d2), .val (.ref b63), .val (.ref b67), .val (.int (1 : Int32))] [(.ref b67), (.int (1 : Int32))]))) (fun t ks => XS.aload X79.here hx rfl (hb hby at_181) rfl rfl ks) ?_
          refine own_callV X79 hx hZ hown (hw _ (List.mem_of_getElem? (i := 77) rfl)) (hw _ (List.mem_of_getElem? (i := 78) rfl)) (hw _ (List.mem_of_getElem? (i := 80) rfl)) (hw _ (List.mem_of_getElem? (i := 79) rfl)) (hw _ (List.mem_of_getElem? (i := 18) rfl)) (hw _ (List.mem_of_getElem? (i := 81) rfl)) (by decide) (rmQ l Z a0 hw b67 tb bl w aD wN wE wS wW d1 kb kw kD 2 1 (own_put (own_put 0 0 i0) 1 i1) (by decide) (by decide) i1 b1 hi1 hd1 (by decide) (by decide) T78.heap hO Ems Fm SD AD Ht (by omega) hbl hlw) e79 Ems (by rw [hml]; rfl) (argsL := []) (rest := [(.int (1 : Int32))]) pd_7 rfl rfl rfl (W := 1) (Nat.le_of_eq rfl) (hb hby at_183) (by decide) (by decide) (by decide) (by decide) ?_
          rintro v81 T81 L81 X81 ⟨rfl, N81, K81, Ht⟩
          replace N81 := Fr.app N78 N81
          show OGoes p.tables e below _ (T81.setTop (mkF m 186 #[.val (.int p1), .val (.int p2), .val (.int p3), .val (.ref b53), .val (.int (2 : Int32)), .val (.int pp), .val (.ref d0), .val (.ref d1), .val (.ref d2), .val (.ref b63), .val (.ref b67), .val (.int (1 : Int32))] [(.ref d1), (.int (1 : Int32))]))
          replace hO := own_old_keep hO K81 (allS (by omega) all0)
          replace Pu := Pu.keep K81 (ninS (own_ne (by omega)) nin0)
          replace Ems := Ems.keep K81
          replace Fm := Fm.keep K81 (ninS (own_ne (by omega)) nin0)
          refine own_st (V := (T81.setTop (mkF m 188 #[.val (.int p1), .val (.int p2), .val (.int p3), .val (.ref b53), .val (.int (2 : Int32)), .val (.int pp), .val (.ref d0), .val (.ref d1), .val (.ref d2), .val (.ref b63), .val (.ref b67), .val (.int (1 : Int32))] [(.ref b63), (.ref d1), (.int (1 : Int32))]))) (fun t ks => XS.aload X81.here hx rfl (hb hby at_186) rfl rfl ks) ?_
          refine own_st (V := (T81.setTop (mkF m 190 #[.val (.int p1), .val (.int p2), .val (.int p3), .val (.ref b53), .val (.int (2 : Int32)), .val (.int pp), .val (.ref d0), .val (.ref d1), .val (.ref d2), .val (.ref b63), .val (.ref b67), .val (.int (1 : Int32))] [(.int (2 : Int32)), (.ref b63), (.ref d1), (.int (1 : Int32))]))) (fun t ks => XS.iload X81.here hx rfl (hb hby at_188) rfl ks) ?_
          refine own_st (V := (T81.setTop (mkF m 191 #[.val (.int p1), .val (.int p2), .val (.int p3), .val (.ref b53), .val (.int (2 : Int32)), .val (.int pp), .val (.ref d0), .val (.ref d1), .val (.ref d2), .val (.ref b63), .val (.ref b67), .val (.int (1 : Int32))] [(.int (1 : Int32)), (.int (2 : Int32)), (.ref b63), (.ref d1), (.int (1 : Int32))]))) (fun t ks => XS.iconst X81.here hx rfl (hb hby at_190) ks) ?_
          refine own_st (V := (T81.setTop (mkF m 192 #[.val (.int p1), .val (.int p2), .val (.int p3), .val (.ref b53), .val (.int (2 : Int32)), .val (.int pp), .val (.ref d0), .val (.ref d1), .val (.ref d2), .val (.ref b63), .val (.ref b67), .val (.int (1 : Int32))] [(.int ((2 : Int32) - (1 : Int32))), (.ref b63), (.ref d1), (.int (1 : Int32))]))) (fun t ks => XS.isub X81.here hx rfl (hb hby at_191) rfl ks) ?_
          refine own_cast (g' := (mkF m 192 #[.val (.int p1), .val (.int p2), .val (.int p3), .val (.ref b53), .val (.int (2 : Int32)), .val (.int pp), .val (.ref d0), .val (.ref d1), .val (.ref d2), .val (.ref b63), .val (.ref b67), .val (.int (1 : Int32))] [(.int (1 : Int32)), (.ref b63), (.ref d1), (.int (1 : Int32))])) (by rw [show ((2 : Int32) - (1 : Int32)) = (1 : Int32) from by decide]) ?_
          refine own_aaload X81 hx hZ rfl rfl Pu (v := (.ref d1)) (by decide) (by decide) rfl (hb hby at_192) ?_
          show OGoes p.tables e below _ (T81.setTop (mkF m 193 #[.val (.int p1), .val (.int p2), .val (.int p3), .val (.ref b53), .val (.int (2 : Int32)), .val (.int pp), .val (.ref d0), .val (.ref d1), .val (.ref d2), .val (.ref b63), .val (.ref b67), .val (.int (1 : Int32))] [(.ref d1), (.ref d1), (.int (1 : Int32))]))
          refine own_st (V := (T81.setTop (mkF m 196 #[.val (.int p1), .val (.int p2), .val (.int p3), .val (.ref b53), .val (.int (2 : Int32)), .val (.int pp), .val (.ref d0), .val (.ref d1), .val (.ref d2), .val (.ref b63), .val (.ref b67), .val (.int (1 : Int32))] [(.int (1 : Int32))]))) (fun t ks => XT.acmpNo X81.here hx rfl (hb hby at_193) rfl rfl rfl (own_aa_ne_f rfl) ks) ?_
          refine own_st (V := (T81.setTop (mkF m 197 #[.val (.int p1), .val (.int p2), .val (.int p3), .val (.ref b53), .val (.int (2 : Int32)), .val (.int pp), .val (.ref d0), .val (.ref d1), .val (.ref d2), .val (.ref b63), .val (.ref b67), .val (.int (1 : Int32))] [(.int (1 : Int32)), (.int (1 : Int32))]))) (fun t ks => XS.iconst X81.here hx rfl (hb hby at_196) ks) ?_
          refine own_st (V := (T81.setTop (mkF m 201 #[.val (.int p1), .val (.int p2), .val (.int p3), .val (.ref b53), .val (.int (2 : Int32)), .val (.int pp), .val (.ref d0), .val (.ref d1), .val (.ref d2), .val (.ref b63), .val (.ref b67), .val (.int (1 : Int32))] [(.int (1 : Int32)), (.int (1 : Int32))]))) (fun t ks => XS.goto X81.here hx rfl (pc0 := 197) (pc' := 201) rfl (hb hby at_197) (by decide) (by decide) ks) ?_
          refine own_st (V := (T81.setTop (mkF m 202 #[.val (.int p1), .val (.int p2), .val (.int p3), .val (.ref b53), .val (.int (2 : Int32)), .val (.int pp), .val (.ref d0), .val (.ref d1), .val (.ref d2), .val (.ref b63), .val (.ref b67), .val (.int (1 : Int32))] [(.int ((1 : Int32) &&& (1 : Int32)))]))) (fun t ks => XS.iand X81.here hx rfl (hb hby at_201) rfl ks) ?_
          refine own_cast (g' := (mkF m 202 #[.val (.int p1), .val (.int p2), .val (.int p3), .val (.ref b53), .val (.int (2 : Int32)), .val (.int pp), .val (.ref d0), .val (.ref d1), .val (.ref d2), .val (.ref b63), .val (.ref b67), .val (.int (1 : Int32))] [(.int (1 : Int32))])) (by rw [show ((1 : Int32) &&& (1 : Int32)) = (1 : Int32) from by decide]) ?_
          refine own_st (V := (T81.setTop (mkF m 204 #[.val (.int p1), .val (.int p2), .val (.int p3), .val (.ref b53), .val (.int (2 : Int32)), .val (.int pp), .val (.ref d0), .val (.ref d1), .val (.ref d2), .val (.ref b63), .val (.ref b67), .val (.int (1 : Int32))] []))) (fun t ks => XS.istore X81.here hx rfl (hb hby at_202) rfl (l' := #[.val (.int p1), .val (.int p2), .val (.int p3), .val (.ref b53), .val (.int (2 : Int32)), .val (.int pp), .val (.ref d0), .val (.ref d1), .val (.ref d2), .val (.ref b63), .val (.ref b67), .val (.int (1 : Int32))]) rfl ks) ?_
          refine own_st (V := (T81.setTop (mkF m 206 #[.val (.int p1), .val (.int p2), .val (.int p3), .val (.ref b53), .val (.int (2 : Int32)), .val (.int pp), .val (.ref d0), .val (.ref d1), .val (.ref d2), .val (.ref b63), .val (.ref b67), .val (.int (1 : Int32))] [(.int pp)]))) (fun t ks => XS.iload X81.here hx rfl (hb hby at_204) rfl ks) ?_
          refine own_st (V := (T81.setTop (mkF m 207 #[.val (.int p1), .val (.int p2), .val (.int p3), .val (.ref b53), .val (.int (2 : Int32)), .val (.int pp), .val (.ref d0), .val (.ref d1), .val (.ref d2), .val (.ref b63), .val (.ref b67), .val (.int (1 : Int32))] [(.int (2 : Int32)), (.int pp)]))) (fun t ks => XS.iconst X81.here hx rfl (hb hby at_206) ks) ?_
          by_cases hj2 : pp < (2 : Int32)
          · refine own_st (V := (T81.setTop (mkF m 235 #[.val (.int p1), .val (.int p2), .val (.int p3), .val (.ref b53), .val (.int (2 : Int32)), .val (.int pp), .val (.ref d0), .val (.ref d1), .val (.ref d2), .val (.ref b63), .val (.ref b67), .val (.int (1 : Int32))] []))) (fun t ks => XS.icmpYes X81.here hx rfl (pc0 := 207) (pc' := 235) rfl (hb hby at_207) rfl (XT.ii_lt_t hj2) (by decide) (by decide) ks) ?_
            refine own_st (V := (T81.setTop (mkF m 237 #[.val (.int p1), .val (.int p2), .val (.int p3), .val (.ref b53), .val (.int (2 : Int32)), .val (.int pp), .val (.ref d0), .val (.ref d1), .val (.ref d2), .val (.ref b63), .val (.ref b67), .val (.int (1 : Int32))] [(.int pp)]))) (fun t ks => XS.iload X81.here hx rfl (hb hby at_235) rfl ks) ?_
            refine own_st (V := (T81.setTop (mkF m 238 #[.val (.int p1), .val (.int p2), .val (.int p3), .val (.ref b53), .val (.int (2 : Int32)), .val (.int pp), .val (.ref d0), .val (.ref d1), .val (.ref d2), .val (.ref b63), .val (.ref b67), .val (.int (1 : Int32))] [(.int (3 : Int32)), (.int pp)]))) (fun t ks => XS.iconst X81.here hx rfl (hb hby at_237) ks) ?_
            refine own_st (V := (T81.setTop (mkF m 266 #[.val (.int p1), .val (.int p2), .val (.int p3), .val (.ref b53), .val (.int (2 : Int32)), .val (.int pp), .val (.ref d0), .val (.ref d1), .val (.ref d2), .val (.ref b63), .val (.ref b67), .val (.int (1 : Int32))] []))) (fun t ks => XS.icmpYes X81.here hx rfl (pc0 := 238) (pc' := 266) rfl (hb hby at_238) rfl (XT.ii_lt_t (by rw [Int32.lt_iff_toInt_lt] at hj2 ⊢; simp only [show (2 : Int32).toInt = 2 from rfl, show (3 : Int32).toInt = 3 from rfl] at *; omega)) (by decide) (by decide) ks) ?_
            refine own_st (V := (T81.setTop (mkF m 268 #[.val (.int p1), .val (.int p2), .val (.int p3), .val (.ref b53), .val (.int (2 : Int32)), .val (.int pp), .val (.ref d0), .val (.ref d1), .val (.ref d2), .val (.ref b63), .val (.ref b67), .val (.int (1 : Int32))] [(.int (1 : Int32))]))) (fun t ks => XS.iload X81.here hx rfl (hb hby at_266) rfl ks) ?_
            refine own_st (V := (T81.setTop (mkF m 270 #[.val (.int p1), .val (.int p2), .val (.int p3), .val (.ref b53), .val (.int (2 : Int32)), .val (.int pp), .val (.ref d0), .val (.ref d1), .val (.ref d2), .val (.ref b63), .val (.ref b67), .val (.int (1 : Int32))] [(.ref b67), (.int (1 : Int32))]))) (fun t ks => XS.aload X81.here hx rfl (hb hby at_268) rfl rfl ks) ?_
            refine own_callV0 X81 hx hZ hown (hw _ (List.mem_of_getElem? (i := 38) rfl)) (hw _ (List.mem_of_getElem? (i := 39) rfl)) (hw _ (List.mem_of_getElem? (i := 41) rfl)) (hw _ (List.mem_of_getElem? (i := 40) rfl)) (hw _ (List.mem_of_getElem? (i := 18) rfl)) (hw _ (List.mem_of_getElem? (i := 42) rfl)) (by decide) (rmE l Z a0 hw b67 tb 1 0 (by decide) T81.heap Fm Ht.1 Ht.2.2.2.1) rfl Ems (by rw [hml]; rfl) (argsL := []) (rest := [(.int (1 : Int32))]) pd_4 rfl rfl rfl (W := 1) (Nat.le_of_eq rfl) (hb hby at_270) (by decide) (by decide) (by decide) (by decide) ?_
            intro T82 X82 e82
            show OGoes p.tables e below _ (T82.setTop (mkF m 273 #[.val (.int p1), .val (.int p2), .val (.int p3), .val (.ref b53), .val (.int (2 : Int32)), .val (.int pp), .val (.ref d0), .val (.ref d1), .val (.ref d2), .val (.ref b63), .val (.ref b67), .val (.int (1 : Int32))] [(.int (0 : Int32)), (.int (1 : Int32))]))
            refine own_st (V := (T82.setTop (mkF m 275 #[.val (.int p1), .val (.int p2), .val (.int p3), .val (.ref b53), .val (.int (2 : Int32)), .val (.int pp), .val (.ref d0), .val (.ref d1), .val (.ref d2), .val (.ref b63), .val (.ref b67), .val (.int (1 : Int32))] [(.int pp), (.int (0 : Int32)), (.int (1 : Int32))]))) (fun t ks => XS.iload X82.here hx rfl (hb hby at_273) rfl ks) ?_
            refine own_st (V := (T82.setTop (mkF m 277 #[.val (.int p1), .val (.int p2), .val (.int p3), .val (.ref b53), .val (.int (2 : Int32)), .val (.int pp), .val (.ref d0), .val (.ref d1), .val (.ref d2), .val (.ref b63), .val (.ref b67), .val (.int (1 : Int32))] [(.int (2 : Int32)), (.int pp), (.int (0 : Int32)), (.int (1 : Int32))]))) (fun t ks => XS.iload X82.here hx rfl (hb hby at_275) rfl ks) ?_
            refine own_st (V := (T82.setTop (mkF m 284 #[.val (.int p1), .val (.int p2), .val (.int p3), .val (.ref b53), .val (.int (2 : Int32)), .val (.int pp), .val (.ref d0), .val (.ref d1), .val (.ref d2), .val (.ref b63), .val (.ref b67), .val (.int (1 : Int32))] [(.int (0 : Int32)), (.int (1 : Int32))]))) (fun t ks => XS.icmpYes X82.here hx rfl (pc0 := 277) (pc' := 284) rfl (hb hby at_277) rfl (XT.ii_ne_t (fun q => by rw [q] at hj2; revert hj2; decide)) (by decide) (by decide) ks) ?_
            refine own_st (V := (T82.setTop (mkF m 285 #[.val (.int p1), .val (.int p2), .val (.int p3), .val (.ref b53), .val (.int (2 : Int32)), .val (.int pp), .val (.ref d0), .val (.ref d1), .val (.ref d2), .val (.ref b63), .val (.ref b67), .val (.int (1 : Int32))] [(.int (0 : Int32)), (.int (0 : Int32)), (.int (1 : Int32))]))) (fun t ks => XS.iconst X82.here hx rfl (hb hby at_284) ks) ?_
            refine own_st (V := (T82.setTop (mkF m 288 #[.val (.int p1), .val (.int p2), .val (.int p3), .val (.ref b53), .val (.int (2 : Int32)), .val (.int pp), .val (.ref d0), .val (.ref d1), .val (.ref d2), .val (.ref b63), .val (.ref b67), .val (.int (1 : Int32))] [(.int (1 : Int32))]))) (fun t ks => XS.icmpNo X82.here hx rfl (hb hby at_285) rfl (XT.ii_ne_f rfl) ks) ?_
            refine own_st (V := (T82.setTop (mkF m 289 #[.val (.int p1), .val (.int p2), .val (.int p3), .val (.ref b53), .val (.int (2 : Int32)), .val (.int pp), .val (.ref d0), .val (.ref d1), .val (.ref d2), .val (.ref b63), .val (.ref b67), .val (.int (1 : Int32))] [(.int (1 : Int32)), (.int (1 : Int32))]))) (fun t ks => XS.iconst X82.here hx rfl (hb hby at_288) ks) ?_
            refine own_st (V := (T82.setTop (mkF m 293 #[.val (.int p1), .val (.int p2), .val (.int p3), .val (.ref b53), .val (.int (2 : Int32)), .val (.int pp), .val (.ref d0), .val (.ref d1), .val (.ref d2), .val (.ref b63), .val (.ref b67), .val (.int (1 : Int32))] [(.int (1 : Int32)), (.int (1 : Int32))]))) (fun t ks => XS.goto X82.here hx rfl (pc0 := 289) (pc' := 293) rfl (hb hby at_289) (by decide) (by decide) ks) ?_
            refine own_st (V := (T82.setTop (mkF m 294 #[.val (.int p1), .val (.int p2), .val (.int p3), .val (.ref b53), .val (.int (2 : Int32)), .val (.int pp), .val (.ref d0), .val (.ref d1), .val (.ref d2), .val (.ref b63), .val (.ref b67), .val (.int (1 : Int32))] [(.int ((1 : Int32) &&& (1 : Int32)))]))) (fun t ks => XS.iand X82.here hx rfl (hb hby at_293) rfl ks) ?_
            refine own_cast (g' := (mkF m 294 #[.val (.int p1), .val (.int p2), .val (.int p3), .val (.ref b53), .val (.int (2 : Int32)), .val (.int pp), .val (.ref d0), .val (.ref d1), .val (.ref d2), .val (.ref b63), .val (.ref b67), .val (.int (1 : Int32))] [(.int (1 : Int32))])) (by rw [show ((1 : Int32) &&& (1 : Int32)) = (1 : Int32) from by decide]) ?_
            refine own_st (V := (T82.setTop (mkF m 296 #[.val (.int p1), .val (.int p2), .val (.int p3), .val (.ref b53), .val (.int (2 : Int32)), .val (.int pp), .val (.ref d0), .val (.ref d1), .val (.ref d2), .val (.ref b63), .val (.ref b67), .val (.int (1 : Int32))] []))) (fun t ks => XS.istore X82.here hx rfl (hb hby at_294) rfl (l' := #[.val (.int p1), .val (.int p2), .val (.int p3), .val (.ref b53), .val (.int (2 : Int32)), .val (.int pp), .val (.ref d0), .val (.ref d1), .val (.ref d2), .val (.ref b63), .val (.ref b67), .val (.int (1 : Int32))]) rfl ks) ?_
            refine own_st (V := (T82.setTop (mkF m 298 #[.val (.int p1), .val (.int p2), .val (.int p3), .val (.ref b53), .val (.int (2 : Int32)), .val (.int pp), .val (.ref d0), .val (.ref d1), .val (.ref d2), .val (.ref b63), .val (.ref b67), .val (.int (1 : Int32))] [(.int (1 : Int32))]))) (fun t ks => XS.iload X82.here hx rfl (hb hby at_296) rfl ks) ?_
            exact own_retN X82 hx hlk (by simp) hret (hb hby at_298) (by decide) (by decide) ⟨rfl, N81⟩
          · refine own_st (V := (T81.setTop (mkF m 210 #[.val (.int p1), .val (.int p2), .val (.int p3), .val (.ref b53), .val (.int (2 : Int32)), .val (.int pp), .val (.ref d0), .val (.ref d1), .val (.ref d2), .val (.ref b63), .val (.ref b67), .val (.int (1 : Int32))] []))) (fun t ks => XS.icmpNo X81.here hx rfl (hb hby at_207) rfl (XT.ii_lt_f hj2) ks) ?_
            refine own_st (V := (T81.setTop (mkF m 212 #[.val (.int p1), .val (.int p2), .val (.int p3), .val (.ref b53), .val (.int (2 : Int32)), .val (.int pp), .val (.ref d0), .val (.ref d1), .val (.ref d2), .val (.ref b63), .val (.ref b67), .val (.int (1 : Int32))] [(.int (1 : Int32))]))) (fun t ks => XS.iload X81.here hx rfl (hb hby at_210) rfl ks) ?_
            refine own_st (V := (T81.setTop (mkF m 214 #[.val (.int p1), .val (.int p2), .val (.int p3), .val (.ref b53), .val (.int (2 : Int32)), .val (.int pp), .val (.ref d0), .val (.ref d1), .val (.ref d2), .val (.ref b63), .val (.ref b67), .val (.int (1 : Int32))] [(.ref b67), (.int (1 : Int32))]))) (fun t ks => XS.aload X81.here hx rfl (hb hby at_212) rfl rfl ks) ?_
            refine own_callV X81 hx hZ hown (hw _ (List.mem_of_getElem? (i := 77) rfl)) (hw _ (List.mem_of_getElem? (i := 78) rfl)) (hw _ (List.mem_of_getElem? (i := 80) rfl)) (hw _ (List.mem_of_getElem? (i := 79) rfl)) (hw _ (List.mem_of_getElem? (i := 18) rfl)) (hw _ (List.mem_of_getElem? (i := 81) rfl)) (by decide) (rmQ l Z a0 hw b67 tb bl w aD wN wE wS wW d0 kb kw kD 1 0 (own_put (own_put 0 0 i0) 1 i1) (by decide) (by decide) i0 b2 hi0 hd0 (by decide) (by decide) T81.heap hO Ems Fm SD AD Ht (by omega) hbl hlw) rfl Ems (by rw [hml]; rfl) (argsL := []) (rest := [(.int (1 : Int32))]) pd_7 rfl rfl rfl (W := 1) (Nat.le_of_eq rfl) (hb hby at_214) (by decide) (by decide) (by decide) (by decide) ?_
            rintro v83 T83 L83 X83 ⟨rfl, N83, K83, Ht⟩
            replace N83 := Fr.app N81 N83
            show OGoes p.tables e below _ (T83.setTop (mkF m 217 #[.val (.int p1), .val (.int p2), .val (.int p3), .val (.ref b53), .val (.int (2 : Int32)), .val (.int pp), .val (.ref d0), .val (.ref d1), .val (.ref d2), .val (.ref b63), .val (.ref b67), .val (.int (1 : Int32))] [(.ref d0), (.int (1 : Int32))]))
            replace hO := own_old_keep hO K83 (allS (by omega) all0)
            replace Pu := Pu.keep K83 (ninS (own_ne (by omega)) nin0)
            replace Ems := Ems.keep K83
            replace Fm := Fm.keep K83 (ninS (own_ne (by omega)) nin0)
            refine own_st (V := (T83.setTop (mkF m 219 #[.val (.int p1), .val (.int p2), .val (.int p3), .val (.ref b53), .val (.int (2 : Int32)), .val (.int pp), .val (.ref d0), .val (.ref d1), .val (.ref d2), .val (.ref b63), .val (.ref b67), .val (.int (1 : Int32))] [(.ref b63), (.ref d0), (.int (1 : Int32))]))) (fun t ks => XS.aload X83.here hx rfl (hb hby at_217) rfl rfl ks) ?_
            refine own_st (V := (T83.setTop (mkF m 221 #[.val (.int p1), .val (.int p2), .val (.int p3), .val (.ref b53), .val (.int (2 : Int32)), .val (.int pp), .val (.ref d0), .val (.ref d1), .val (.ref d2), .val (.ref b63), .val (.ref b67), .val (.int (1 : Int32))] [(.int (2 : Int32)), (.ref b63), (.ref d0), (.int (1 : Int32))]))) (fun t ks => XS.iload X83.here hx rfl (hb hby at_219) rfl ks) ?_
            refine own_st (V := (T83.setTop (mkF m 222 #[.val (.int p1), .val (.int p2), .val (.int p3), .val (.ref b53), .val (.int (2 : Int32)), .val (.int pp), .val (.ref d0), .val (.ref d1), .val (.ref d2), .val (.ref b63), .val (.ref b67), .val (.int (1 : Int32))] [(.int (2 : Int32)), (.int (2 : Int32)), (.ref b63), (.ref d0), (.int (1 : Int32))]))) (fun t ks => XS.iconst X83.here hx rfl (hb hby at_221) ks) ?_
            refine own_st (V := (T83.setTop (mkF m 223 #[.val (.int p1), .val (.int p2), .val (.int p3), .val (.ref b53), .val (.int (2 : Int32)), .val (.int pp), .val (.ref d0), .val (.ref d1), .val (.ref d2), .val (.ref b63), .val (.ref b67), .val (.int (1 : Int32))] [(.int ((2 : Int32) - (2 : Int32))), (.ref b63), (.ref d0), (.int (1 : Int32))]))) (fun t ks => XS.isub X83.here hx rfl (hb hby at_222) rfl ks) ?_
            refine own_cast (g' := (mkF m 223 #[.val (.int p1), .val (.int p2), .val (.int p3), .val (.ref b53), .val (.int (2 : Int32)), .val (.int pp), .val (.ref d0), .val (.ref d1), .val (.ref d2), .val (.ref b63), .val (.ref b67), .val (.int (1 : Int32))] [(.int (0 : Int32)), (.ref b63), (.ref d0), (.int (1 : Int32))])) (by rw [show ((2 : Int32) - (2 : Int32)) = (0 : Int32) from by decide]) ?_
            refine own_aaload X83 hx hZ rfl rfl Pu (v := (.ref d0)) (by decide) (by decide) rfl (hb hby at_223) ?_
            show OGoes p.tables e below _ (T83.setTop (mkF m 224 #[.val (.int p1), .val (.int p2), .val (.int p3), .val (.ref b53), .val (.int (2 : Int32)), .val (.int pp), .val (.ref d0), .val (.ref d1), .val (.ref d2), .val (.ref b63), .val (.ref b67), .val (.int (1 : Int32))] [(.ref d0), (.ref d0), (.int (1 : Int32))]))
            refine own_st (V := (T83.setTop (mkF m 227 #[.val (.int p1), .val (.int p2), .val (.int p3), .val (.ref b53), .val (.int (2 : Int32)), .val (.int pp), .val (.ref d0), .val (.ref d1), .val (.ref d2), .val (.ref b63), .val (.ref b67), .val (.int (1 : Int32))] [(.int (1 : Int32))]))) (fun t ks => XT.acmpNo X83.here hx rfl (hb hby at_224) rfl rfl rfl (own_aa_ne_f rfl) ks) ?_
            refine own_st (V := (T83.setTop (mkF m 228 #[.val (.int p1), .val (.int p2), .val (.int p3), .val (.ref b53), .val (.int (2 : Int32)), .val (.int pp), .val (.ref d0), .val (.ref d1), .val (.ref d2), .val (.ref b63), .val (.ref b67), .val (.int (1 : Int32))] [(.int (1 : Int32)), (.int (1 : Int32))]))) (fun t ks => XS.iconst X83.here hx rfl (hb hby at_227) ks) ?_
            refine own_st (V := (T83.setTop (mkF m 232 #[.val (.int p1), .val (.int p2), .val (.int p3), .val (.ref b53), .val (.int (2 : Int32)), .val (.int pp), .val (.ref d0), .val (.ref d1), .val (.ref d2), .val (.ref b63), .val (.ref b67), .val (.int (1 : Int32))] [(.int (1 : Int32)), (.int (1 : Int32))]))) (fun t ks => XS.goto X83.here hx rfl (pc0 := 228) (pc' := 232) rfl (hb hby at_228) (by decide) (by decide) ks) ?_
            refine own_st (V := (T83.setTop (mkF m 233 #[.val (.int p1), .val (.int p2), .val (.int p3), .val (.ref b53), .val (.int (2 : Int32)), .val (.int pp), .val (.ref d0), .val (.ref d1), .val (.ref d2), .val (.ref b63), .val (.ref b67), .val (.int (1 : Int32))] [(.int ((1 : Int32) &&& (1 : Int32)))]))) (fun t ks => XS.iand X83.here hx rfl (hb hby at_232) rfl ks) ?_
            refine own_cast (g' := (mkF m 233 #[.val (.int p1), .val (.int p2), .val (.int p3), .val (.ref b53), .val (.int (2 : Int32)), .val (.int pp), .val (.ref d0), .val (.ref d1), .val (.ref d2), .val (.ref b63), .val (.ref b67), .val (.int (1 : Int32))] [(.int (1 : Int32))])) (by rw [show ((1 : Int32) &&& (1 : Int32)) = (1 : Int32) from by decide]) ?_
            refine own_st (V := (T83.setTop (mkF m 235 #[.val (.int p1), .val (.int p2), .val (.int p3), .val (.ref b53), .val (.int (2 : Int32)), .val (.int pp), .val (.ref d0), .val (.ref d1), .val (.ref d2), .val (.ref b63), .val (.ref b67), .val (.int (1 : Int32))] []))) (fun t ks => XS.istore X83.here hx rfl (hb hby at_233) rfl (l' := #[.val (.int p1), .val (.int p2), .val (.int p3), .val (.ref b53), .val (.int (2 : Int32)), .val (.int pp), .val (.ref d0), .val (.ref d1), .val (.ref d2), .val (.ref b63), .val (.ref b67), .val (.int (1 : Int32))]) rfl ks) ?_
            refine own_st (V := (T83.setTop (mkF m 237 #[.val (.int p1), .val (.int p2), .val (.int p3), .val (.ref b53), .val (.int (2 : Int32)), .val (.int pp), .val (.ref d0), .val (.ref d1), .val (.ref d2), .val (.ref b63), .val (.ref b67), .val (.int (1 : Int32))] [(.int pp)]))) (fun t ks => XS.iload X83.here hx rfl (hb hby at_235) rfl ks) ?_
            refine own_st (V := (T83.setTop (mkF m 238 #[.val (.int p1), .val (.int p2), .val (.int p3), .val (.ref b53), .val (.int (2 : Int32)), .val (.int pp), .val (.ref d0), .val (.ref d1), .val (.ref d2), .val (.ref b63), .val (.ref b67), .val (.int (1 : Int32))] [(.int (3 : Int32)), (.int pp)]))) (fun t ks => XS.iconst X83.here hx rfl (hb hby at_237) ks) ?_
            refine own_st (V := (T83.setTop (mkF m 266 #[.val (.int p1), .val (.int p2), .val (.int p3), .val (.ref b53), .val (.int (2 : Int32)), .val (.int pp), .val (.ref d0), .val (.ref d1), .val (.ref d2), .val (.ref b63), .val (.ref b67), .val (.int (1 : Int32))] []))) (fun t ks => XS.icmpYes X83.here hx rfl (pc0 := 238) (pc' := 266) rfl (hb hby at_238) rfl (XT.ii_lt_t (by have := hp0.2; rw [Int32.lt_iff_toInt_lt] at this ⊢; simp only [show (2 : Int32).toInt = 2 from rfl, show (3 : Int32).toInt = 3 from rfl] at *; omega)) (by decide) (by decide) ks) ?_
            refine own_st (V := (T83.setTop (mkF m 268 #[.val (.int p1), .val (.int p2), .val (.int p3), .val (.ref b53), .val (.int (2 : Int32)), .val (.int pp), .val (.ref d0), .val (.ref d1), .val (.ref d2), .val (.ref b63), .val (.ref b67), .val (.int (1 : Int32))] [(.int (1 : Int32))]))) (fun t ks => XS.iload X83.here hx rfl (hb hby at_266) rfl ks) ?_
            refine own_st (V := (T83.setTop (mkF m 270 #[.val (.int p1), .val (.int p2), .val (.int p3), .val (.ref b53), .val (.int (2 : Int32)), .val (.int pp), .val (.ref d0), .val (.ref d1), .val (.ref d2), .val (.ref b63), .val (.ref b67), .val (.int (1 : Int32))] [(.ref b67), (.int (1 : Int32))]))) (fun t ks => XS.aload X83.here hx rfl (hb hby at_268) rfl rfl ks) ?_
            refine own_callV0 X83 hx hZ hown (hw _ (List.mem_of_getElem? (i := 38) rfl)) (hw _ (List.mem_of_getElem? (i := 39) rfl)) (hw _ (List.mem_of_getElem? (i := 41) rfl)) (hw _ (List.mem_of_getElem? (i := 40) rfl)) (hw _ (List.mem_of_getElem? (i := 18) rfl)) (hw _ (List.mem_of_getElem? (i := 42) rfl)) (by decide) (rmE l Z a0 hw b67 tb 0 1 (by decide) T83.heap Fm Ht.1 Ht.2.2.2.1) rfl Ems (by rw [hml]; rfl) (argsL := []) (rest := [(.int (1 : Int32))]) pd_4 rfl rfl rfl (W := 1) (Nat.le_of_eq rfl) (hb hby at_270) (by decide) (by decide) (by decide) (by decide) ?_
            intro T84 X84 e84
            show OGoes p.tables e below _ (T84.setTop (mkF m 273 #[.val (.int p1), .val (.int p2), .val (.int p3), .val (.ref b53), .val (.int (2 : Int32)), .val (.int pp), .val (.ref d0), .val (.ref d1), .val (.ref d2), .val (.ref b63), .val (.ref b67), .val (.int (1 : Int32))] [(.int (1 : Int32)), (.int (1 : Int32))]))
            refine own_st (V := (T84.setTop (mkF m 275 #[.val (.int p1), .val (.int p2), .val (.int p3), .val (.ref b53), .val (.int (2 : Int32)), .val (.int pp), .val (.ref d0), .val (.ref d1), .val (.ref d2), .val (.ref b63), .val (.ref b67), .val (.int (1 : Int32))] [(.int pp), (.int (1 : Int32)), (.int (1 : Int32))]))) (fun t ks => XS.iload X84.here hx rfl (hb hby at_273) rfl ks) ?_
            refine own_st (V := (T84.setTop (mkF m 277 #[.val (.int p1), .val (.int p2), .val (.int p3), .val (.ref b53), .val (.int (2 : Int32)), .val (.int pp), .val (.ref d0), .val (.ref d1), .val (.ref d2), .val (.ref b63), .val (.ref b67), .val (.int (1 : Int32))] [(.int (2 : Int32)), (.int pp), (.int (1 : Int32)), (.int (1 : Int32))]))) (fun t ks => XS.iload X84.here hx rfl (hb hby at_275) rfl ks) ?_
            refine own_st (V := (T84.setTop (mkF m 280 #[.val (.int p1), .val (.int p2), .val (.int p3), .val (.ref b53), .val (.int (2 : Int32)), .val (.int pp), .val (.ref d0), .val (.ref d1), .val (.ref d2), .val (.ref b63), .val (.ref b67), .val (.int (1 : Int32))] [(.int (1 : Int32)), (.int (1 : Int32))]))) (fun t ks => XS.icmpNo X84.here hx rfl (hb hby at_277) rfl (XT.ii_ne_f (by have h1 := hp0.1; have h2 := hp0.2; rw [← Int32.toInt_inj]; simp only [Int32.lt_iff_toInt_lt, show (0 : Int32).toInt = 0 from rfl, show (2 : Int32).toInt = 2 from rfl] at *; omega)) ks) ?_
            refine own_st (V := (T84.setTop (mkF m 281 #[.val (.int p1), .val (.int p2), .val (.int p3), .val (.ref b53), .val (.int (2 : Int32)), .val (.int pp), .val (.ref d0), .val (.ref d1), .val (.ref d2), .val (.ref b63), .val (.ref b67), .val (.int (1 : Int32))] [(.int (1 : Int32)), (.int (1 : Int32)), (.int (1 : Int32))]))) (fun t ks => XS.iconst X84.here hx rfl (hb hby at_280) ks) ?_
            refine own_st (V := (T84.setTop (mkF m 285 #[.val (.int p1), .val (.int p2), .val (.int p3), .val (.ref b53), .val (.int (2 : Int32)), .val (.int pp), .val (.ref d0), .val (.ref d1), .val (.ref d2), .val (.ref b63), .val (.ref b67), .val (.int (1 : Int32))] [(.int (1 : Int32)), (.int (1 : Int32)), (.int (1 : Int32))]))) (fun t ks => XS.goto X84.here hx rfl (pc0 := 281) (pc' := 285) rfl (hb hby at_281) (by decide) (by decide) ks) ?_
            refine own_st (V := (T84.setTop (mkF m 288 #[.val (.int p1), .val (.int p2), .val (.int p3), .val (.ref b53), .val (.int (2 : Int32)), .val (.int pp), .val (.ref d0), .val (.ref d1), .val (.ref d2), .val (.ref b63), .val (.ref b67), .val (.int (1 : Int32))] [(.int (1 : Int32))]))) (fun t ks => XS.icmpNo X84.here hx rfl (hb hby at_285) rfl (XT.ii_ne_f rfl) ks) ?_
            refine own_st (V := (T84.setTop (mkF m 289 #[.val (.int p1), .val (.int p2), .val (.int p3), .val (.ref b53), .val (.int (2 : Int32)), .val (.int pp), .val (.ref d0), .val (.ref d1), .val (.ref d2), .val (.ref b63), .val (.ref b67), .val (.int (1 : Int32))] [(.int (1 : Int32)), (.int (1 : Int32))]))) (fun t ks => XS.iconst X84.here hx rfl (hb hby at_288) ks) ?_
            refine own_st (V := (T84.setTop (mkF m 293 #[.val (.int p1), .val (.int p2), .val (.int p3), .val (.ref b53), .val (.int (2 : Int32)), .val (.int pp), .val (.ref d0), .val (.ref d1), .val (.ref d2), .val (.ref b63), .val (.ref b67), .val (.int (1 : Int32))] [(.int (1 : Int32)), (.int (1 : Int32))]))) (fun t ks => XS.goto X84.here hx rfl (pc0 := 289) (pc' := 293) rfl (hb hby at_289) (by decide) (by decide) ks) ?_
            refine own_st (V := (T84.setTop (mkF m 294 #[.val (.int p1), .val (.int p2), .val (.int p3), .val (.ref b53), .val (.int (2 : Int32)), .val (.int pp), .val (.ref d0), .val (.ref d1), .val (.ref d2), .val (.ref b63), .val (.ref b67), .val (.int (1 : Int32))] [(.int ((1 : Int32) &&& (1 : Int32)))]))) (fun t ks => XS.iand X84.here hx rfl (hb hby at_293) rfl ks) ?_
            refine own_cast (g' := (mkF m 294 #[.val (.int p1), .val (.int p2), .val (.int p3), .val (.ref b53), .val (.int (2 : Int32)), .val (.int pp), .val (.ref d0), .val (.ref d1), .val (.ref d2), .val (.ref b63), .val (.ref b67), .val (.int (1 : Int32))] [(.int (1 : Int32))])) (by rw [show ((1 : Int32) &&& (1 : Int32)) = (1 : Int32) from by decide]) ?_
            refine own_st (V := (T84.setTop (mkF m 296 #[.val (.int p1), .val (.int p2), .val (.int p3), .val (.ref b53), .val (.int (2 : Int32)), .val (.int pp), .val (.ref d0), .val (.ref d1), .val (.ref d2), .val (.ref b63), .val (.ref b67), .val (.int (1 : Int32))] []))) (fun t ks => XS.istore X84.here hx rfl (hb hby at_294) rfl (l' := #[.val (.int p1), .val (.int p2), .val (.int p3), .val (.ref b53), .val (.int (2 : Int32)), .val (.int pp), .val (.ref d0), .val (.ref d1), .val (.ref d2), .val (.ref b63), .val (.ref b67), .val (.int (1 : Int32))]) rfl ks) ?_
            refine own_st (V := (T84.setTop (mkF m 298 #[.val (.int p1), .val (.int p2), .val (.int p3), .val (.ref b53), .val (.int (2 : Int32)), .val (.int pp), .val (.ref d0), .val (.ref d1), .val (.ref d2), .val (.ref b63), .val (.ref b67), .val (.int (1 : Int32))] [(.int (1 : Int32))]))) (fun t ks => XS.iload X84.here hx rfl (hb hby at_296) rfl ks) ?_
            exact own_retN X84 hx hlk (by simp) hret (hb hby at_298) (by decide) (by decide) ⟨rfl, N83⟩
      · obtain rfl : k = 3 := by
          rw [← Int32.toInt_inj] at hk0 hk1 hk2 ⊢
          simp only [Int32.lt_iff_toInt_lt] at hk4
          simp only [show (0 : Int32).toInt = 0 from rfl, show (1 : Int32).toInt = 1 from rfl, show (2 : Int32).toInt = 2 from rfl, show (3 : Int32).toInt = 3 from rfl, show (4 : Int32).toInt = 4 from rfl] at *
          omega
        show OGoes p.tables e below _ (T69.setTop (mkF m 109 #[.val (.int p1), .val (.int p2), .val (.int p3), .val (.ref b53), .val (.int (3 : Int32)), .val (.int pp), .val (.ref d0), .val (.ref d1), .val (.ref d2), .val (.ref b63), .val (.ref b67), .val (.int (1 : Int32))] [(.int (1 : Int32)), (.int (3 : Int32))]))
        refine own_st (V := (T69.setTop (mkF m 112 #[.val (.int p1), .val (.int p2), .val (.int p3), .val (.ref b53), .val (.int (3 : Int32)), .val (.int pp), .val (.ref d0), .val (.ref d1), .val (.ref d2), .val (.ref b63), .val (.ref b67), .val (.int (1 : Int32))] []))) (fun t ks => XS.icmpNo X69.here hx rfl (hb hby at_109) rfl (XT.ii_lt_f (by decide)) ks) ?_
        refine own_st (V := (T69.setTop (mkF m 114 #[.val (.int p1), .val (.int p2), .val (.int p3), .val (.ref b53), .val (.int (3 : Int32)), .val (.int pp), .val (.ref d0), .val (.ref d1), .val (.ref d2), .val (.ref b63), .val (.ref b67), .val (.int (1 : Int32))] [(.ref b67)]))) (fun t ks => XS.aload X69.here hx rfl (hb hby at_112) rfl rfl ks) ?_
        refine own_st (V := (T69.setTop (mkF m 116 #[.val (.int p1), .val (.int p2), .val (.int p3), .val (.ref b53), .val (.int (3 : Int32)), .val (.int pp), .val (.ref d0), .val (.ref d1), .val (.ref d2), .val (.ref b63), .val (.ref b67), .val (.int (1 : Int32))] [(.ref d0), (.ref b67)]))) (fun t ks => XS.aload X69.here hx rfl (hb hby at_114) rfl rfl ks) ?_
        have hblT : @LT.lt Nat _ bl T68.heap.size := Ht.2.2.2.2.1.lt
        refine own_callV X69 hx hZ hown (hw _ (List.mem_of_getElem? (i := 50) rfl)) (hw _ (List.mem_of_getElem? (i := 51) rfl)) (hw _ (List.mem_of_getElem? (i := 53) rfl)) (hw _ (List.mem_of_getElem? (i := 52) rfl)) (hw _ (List.mem_of_getElem? (i := 18) rfl)) (hw _ (List.mem_of_getElem? (i := 54) rfl)) (by decide) (rmP0 l Z a0 hw b67 d0 tb bl kb i0 (own_clear hi0) T68.heap hO Fm (Ed0.ext hO) (Od0.ext hO) Ht (by omega) hbl) e69 Ems (by rw [hml]; rfl) (argsL := [(.ref d0)]) (rest := []) pd_6 rfl rfl rfl (W := 0) (Nat.le_of_eq rfl) (hb hby at_116) (by decide) (by decide) (by decide) (by decide) ?_
        rintro v85 T85 L85 X85 ⟨rfl, N85, K85, w, kw, hww, Ht⟩
        replace N85 := Fr.app N68 N85
        show OGoes p.tables e below _ (T85.setTop (mkF m 119 #[.val (.int p1), .val (.int p2), .val (.int p3), .val (.ref b53), .val (.int (3 : Int32)), .val (.int pp), .val (.ref d0), .val (.ref d1), .val (.ref d2), .val (.ref b63), .val (.ref b67), .val (.int (1 : Int32))] []))
        have hlw : bl < w := Nat.lt_of_lt_of_le hblT hww
        replace hO := own_old_keep hO K85 (allS (by omega) (allS (by omega) all0))
        replace Pu := Pu.keep K85 (ninS (own_ne (by omega)) (ninS (own_ne (by omega)) nin0))
        replace Ems := Ems.keep K85
        replace Fm := Fm.keep K85 (ninS (own_ne (by omega)) (ninS (own_ne (by omega)) nin0))
        refine own_st (V := (T85.setTop (mkF m 121 #[.val (.int p1), .val (.int p2), .val (.int p3), .val (.ref b53), .val (.int (3 : Int32)), .val (.int pp), .val (.ref d0), .val (.ref d1), .val (.ref d2), .val (.ref b63), .val (.ref b67), .val (.int (1 : Int32))] [(.int (3 : Int32))]))) (fun t ks => XS.iload X85.here hx rfl (hb hby at_119) rfl ks) ?_
        refine own_st (V := (T85.setTop (mkF m 122 #[.val (.int p1), .val (.int p2), .val (.int p3), .val (.ref b53), .val (.int (3 : Int32)), .val (.int pp), .val (.ref d0), .val (.ref d1), .val (.ref d2), .val (.ref b63), .val (.ref b67), .val (.int (1 : Int32))] [(.int (2 : Int32)), (.int (3 : Int32))]))) (fun t ks => XS.iconst X85.here hx rfl (hb hby at_121) ks) ?_
        refine own_st (V := (T85.setTop (mkF m 125 #[.val (.int p1), .val (.int p2), .val (.int p3), .val (.ref b53), .val (.int (3 : Int32)), .val (.int pp), .val (.ref d0), .val (.ref d1), .val (.ref d2), .val (.ref b63), .val (.ref b67), .val (.int (1 : Int32))] []))) (fun t ks => XS.icmpNo X85.here hx rfl (hb hby at_122) rfl (XT.ii_lt_f (by decide)) ks) ?_
        refine own_st (V := (T85.setTop (mkF m 127 #[.val (.int p1), .val (.int p2), .val (.int p3), .val (.ref b53), .val (.int (3 : Int32)), .val (.int pp), .val (.ref d0), .val (.ref d1), .val (.ref d2), .val (.ref b63), .val (.ref b67), .val (.int (1 : Int32))] [(.ref b67)]))) (fun t ks => XS.aload X85.here hx rfl (hb hby at_125) rfl rfl ks) ?_
        refine own_st (V := (T85.setTop (mkF m 129 #[.val (.int p1), .val (.int p2), .val (.int p3), .val (.ref b53), .val (.int (3 : Int32)), .val (.int pp), .val (.ref d0), .val (.ref d1), .val (.ref d2), .val (.ref b63), .val (.ref b67), .val (.int (1 : Int32))] [(.ref d1), (.ref b67)]))) (fun t ks => XS.aload X85.here hx rfl (hb hby at_127) rfl rfl ks) ?_
        refine own_callV X85 hx hZ hown (hw _ (List.mem_of_getElem? (i := 50) rfl)) (hw _ (List.mem_of_getElem? (i := 51) rfl)) (hw _ (List.mem_of_getElem? (i := 53) rfl)) (hw _ (List.mem_of_getElem? (i := 52) rfl)) (hw _ (List.mem_of_getElem? (i := 18) rfl)) (hw _ (List.mem_of_getElem? (i := 54) rfl)) (by decide) (rmP1 l Z a0 hw b67 d1 tb bl w kb kw 1 2 (own_put 0 0 i0) i1 (own_clear hi1) (by decide) (by decide) (by decide) T85.heap hO Fm (Ed1.ext hO) (Od1.ext hO) Ht (by omega) hbl hlw) rfl Ems (by rw [hml]; rfl) (argsL := [(.ref d1)]) (rest := []) pd_6 rfl rfl rfl (W := 0) (Nat.le_of_eq rfl) (hb hby at_129) (by decide) (by decide) (by decide) (by decide) ?_
        rintro v86 T86 L86 X86 ⟨rfl, N86, K86, Ht⟩
        replace N86 := Fr.app N85 N86
        show OGoes p.tables e below _ (T86.setTop (mkF m 132 #[.val (.int p1), .val (.int p2), .val (.int p3), .val (.ref b53), .val (.int (3 : Int32)), .val (.int pp), .val (.ref d0), .val (.ref d1), .val (.ref d2), .val (.ref b63), .val (.ref b67), .val (.int (1 : Int32))] []))
        replace hO := own_old_keep hO K86 (allS (by omega) (allS (by omega) all0))
        replace Pu := Pu.keep K86 (ninS (own_ne (by omega)) (ninS (own_ne (by omega)) nin0))
        replace Ems := Ems.keep K86
        replace Fm := Fm.keep K86 (ninS (own_ne (by omega)) (ninS (own_ne (by omega)) nin0))
        refine own_st (V := (T86.setTop (mkF m 134 #[.val (.int p1), .val (.int p2), .val (.int p3), .val (.ref b53), .val (.int (3 : Int32)), .val (.int pp), .val (.ref d0), .val (.ref d1), .val (.ref d2), .val (.ref b63), .val (.ref b67), .val (.int (1 : Int32))] [(.int (3 : Int32))]))) (fun t ks => XS.iload X86.here hx rfl (hb hby at_132) rfl ks) ?_
        refine own_st (V := (T86.setTop (mkF m 135 #[.val (.int p1), .val (.int p2), .val (.int p3), .val (.ref b53), .val (.int (3 : Int32)), .val (.int pp), .val (.ref d0), .val (.ref d1), .val (.ref d2), .val (.ref b63), .val (.ref b67), .val (.int (1 : Int32))] [(.int (3 : Int32)), (.int (3 : Int32))]))) (fun t ks => XS.iconst X86.here hx rfl (hb hby at_134) ks) ?_
        refine own_st (V := (T86.setTop (mkF m 138 #[.val (.int p1), .val (.int p2), .val (.int p3), .val (.ref b53), .val (.int (3 : Int32)), .val (.int pp), .val (.ref d0), .val (.ref d1), .val (.ref d2), .val (.ref b63), .val (.ref b67), .val (.int (1 : Int32))] []))) (fun t ks => XS.icmpNo X86.here hx rfl (hb hby at_135) rfl (XT.ii_lt_f (by decide)) ks) ?_
        refine own_st (V := (T86.setTop (mkF m 140 #[.val (.int p1), .val (.int p2), .val (.int p3), .val (.ref b53), .val (.int (3 : Int32)), .val (.int pp), .val (.ref d0), .val (.ref d1), .val (.ref d2), .val (.ref b63), .val (.ref b67), .val (.int (1 : Int32))] [(.ref b67)]))) (fun t ks => XS.aload X86.here hx rfl (hb hby at_138) rfl rfl ks) ?_
        refine own_st (V := (T86.setTop (mkF m 142 #[.val (.int p1), .val (.int p2), .val (.int p3), .val (.ref b53), .val (.int (3 : Int32)), .val (.int pp), .val (.ref d0), .val (.ref d1), .val (.ref d2), .val (.ref b63), .val (.ref b67), .val (.int (1 : Int32))] [(.ref d2), (.ref b67)]))) (fun t ks => XS.aload X86.here hx rfl (hb hby at_140) rfl rfl ks) ?_
        refine own_callV X86 hx hZ hown (hw _ (List.mem_of_getElem? (i := 50) rfl)) (hw _ (List.mem_of_getElem? (i := 51) rfl)) (hw _ (List.mem_of_getElem? (i := 53) rfl)) (hw _ (List.mem_of_getElem? (i := 52) rfl)) (hw _ (List.mem_of_getElem? (i := 18) rfl)) (hw _ (List.mem_of_getElem? (i := 54) rfl)) (by decide) (rmP1 l Z a0 hw b67 d2 tb bl w kb kw 2 3 (own_put (own_put 0 0 i0) 1 i1) i2 (own_clear hi2) (by decide) (by decide) (by decide) T86.heap hO Fm (Ed2.ext hO) (Od2.ext hO) Ht (by omega) hbl hlw) rfl Ems (by rw [hml]; rfl) (argsL := [(.ref d2)]) (rest := []) pd_6 rfl rfl rfl (W := 0) (Nat.le_of_eq rfl) (hb hby at_142) (by decide) (by decide) (by decide) (by decide) ?_
        rintro v87 T87 L87 X87 ⟨rfl, N87, K87, Ht⟩
        replace N87 := Fr.app N86 N87
        show OGoes p.tables e below _ (T87.setTop (mkF m 145 #[.val (.int p1), .val (.int p2), .val (.int p3), .val (.ref b53), .val (.int (3 : Int32)), .val (.int pp), .val (.ref d0), .val (.ref d1), .val (.ref d2), .val (.ref b63), .val (.ref b67), .val (.int (1 : Int32))] []))
        replace hO := own_old_keep hO K87 (allS (by omega) (allS (by omega) all0))
        replace Pu := Pu.keep K87 (ninS (own_ne (by omega)) (ninS (own_ne (by omega)) nin0))
        replace Ems := Ems.keep K87
        replace Fm := Fm.keep K87 (ninS (own_ne (by omega)) (ninS (own_ne (by omega)) nin0))
        refine own_st (V := (T87.setTop (mkF m 147 #[.val (.int p1), .val (.int p2), .val (.int p3), .val (.ref b53), .val (.int (3 : Int32)), .val (.int pp), .val (.ref d0), .val (.ref d1), .val (.ref d2), .val (.ref b63), .val (.ref b67), .val (.int (1 : Int32))] [(.int (1 : Int32))]))) (fun t ks => XS.iload X87.here hx rfl (hb hby at_145) rfl ks) ?_
        refine own_st (V := (T87.setTop (mkF m 149 #[.val (.int p1), .val (.int p2), .val (.int p3), .val (.ref b53), .val (.int (3 : Int32)), .val (.int pp), .val (.ref d0), .val (.ref d1), .val (.ref d2), .val (.ref b63), .val (.ref b67), .val (.int (1 : Int32))] [(.ref b67), (.int (1 : Int32))]))) (fun t ks => XS.aload X87.here hx rfl (hb hby at_147) rfl rfl ks) ?_
        refine own_callV0 X87 hx hZ hown (hw _ (List.mem_of_getElem? (i := 38) rfl)) (hw _ (List.mem_of_getElem? (i := 39) rfl)) (hw _ (List.mem_of_getElem? (i := 41) rfl)) (hw _ (List.mem_of_getElem? (i := 40) rfl)) (hw _ (List.mem_of_getElem? (i := 18) rfl)) (hw _ (List.mem_of_getElem? (i := 42) rfl)) (by decide) (rmE l Z a0 hw b67 tb 3 0 (by decide) T87.heap Fm Ht.1 Ht.2.2.2.1) rfl Ems (by rw [hml]; rfl) (argsL := []) (rest := [(.int (1 : Int32))]) pd_4 rfl rfl rfl (W := 1) (Nat.le_of_eq rfl) (hb hby at_149) (by decide) (by decide) (by decide) (by decide) ?_
        intro T88 X88 e88
        show OGoes p.tables e below _ (T88.setTop (mkF m 152 #[.val (.int p1), .val (.int p2), .val (.int p3), .val (.ref b53), .val (.int (3 : Int32)), .val (.int pp), .val (.ref d0), .val (.ref d1), .val (.ref d2), .val (.ref b63), .val (.ref b67), .val (.int (1 : Int32))] [(.int (0 : Int32)), (.int (1 : Int32))]))
        refine own_st (V := (T88.setTop (mkF m 154 #[.val (.int p1), .val (.int p2), .val (.int p3), .val (.ref b53), .val (.int (3 : Int32)), .val (.int pp), .val (.ref d0), .val (.ref d1), .val (.ref d2), .val (.ref b63), .val (.ref b67), .val (.int (1 : Int32))] [(.int (3 : Int32)), (.int (0 : Int32)), (.int (1 : Int32))]))) (fun t ks => XS.iload X88.here hx rfl (hb hby at_152) rfl ks) ?_
        refine own_st (V := (T88.setTop (mkF m 161 #[.val (.int p1), .val (.int p2), .val (.int p3), .val (.ref b53), .val (.int (3 : Int32)), .val (.int pp), .val (.ref d0), .val (.ref d1), .val (.ref d2), .val (.ref b63), .val (.ref b67), .val (.int (1 : Int32))] [(.int (0 : Int32)), (.int (1 : Int32))]))) (fun t ks => XS.ifYes X88.here hx rfl (pc0 := 154) (pc' := 161) rfl (hb hby at_154) rfl (XT.i0_ne_t (by decide)) (by decide) (by decide) ks) ?_
        refine own_st (V := (T88.setTop (mkF m 162 #[.val (.int p1), .val (.int p2), .val (.int p3), .val (.ref b53), .val (.int (3 : Int32)), .val (.int pp), .val (.ref d0), .val (.ref d1), .val (.ref d2), .val (.ref b63), .val (.ref b67), .val (.int (1 : Int32))] [(.int (0 : Int32)), (.int (0 : Int32)), (.int (1 : Int32))]))) (fun t ks => XS.iconst X88.here hx rfl (hb hby at_161) ks) ?_
        refine own_st (V := (T88.setTop (mkF m 165 #[.val (.int p1), .val (.int p2), .val (.int p3), .val (.ref b53), .val (.int (3 : Int32)), .val (.int pp), .val (.ref d0), .val (.ref d1), .val (.ref d2), .val (.ref b63), .val (.ref b67), .val (.int (1 : Int32))] [(.int (1 : Int32))]))) (fun t ks => XS.icmpNo X88.here hx rfl (hb hby at_162) rfl (XT.ii_ne_f rfl) ks) ?_
        refine own_st (V := (T88.setTop (mkF m 166 #[.val (.int p1), .val (.int p2), .val (.int p3), .val (.ref b53), .val (.int (3 : Int32)), .val (.int pp), .val (.ref d0), .val (.ref d1), .val (.ref d2), .val (.ref b63), .val (.ref b67), .val (.int (1 : Int32))] [(.int (1 : Int32)), (.int (1 : Int32))]))) (fun t ks => XS.iconst X88.here hx rfl (hb hby at_165) ks) ?_
        refine own_st (V := (T88.setTop (mkF m 170 #[.val (.int p1), .val (.int p2), .val (.int p3), .val (.ref b53), .val (.int (3 : Int32)), .val (.int pp), .val (.ref d0), .val (.ref d1), .val (.ref d2), .val (.ref b63), .val (.ref b67), .val (.int (1 : Int32))] [(.int (1 : Int32)), (.int (1 : Int32))]))) (fun t ks => XS.goto X88.here hx rfl (pc0 := 166) (pc' := 170) rfl (hb hby at_166) (by decide) (by decide) ks) ?_
        refine own_st (V := (T88.setTop (mkF m 171 #[.val (.int p1), .val (.int p2), .val (.int p3), .val (.ref b53), .val (.int (3 : Int32)), .val (.int pp), .val (.ref d0), .val (.ref d1), .val (.ref d2), .val (.ref b63), .val (.ref b67), .val (.int (1 : Int32))] [(.int ((1 : Int32) &&& (1 : Int32)))]))) (fun t ks => XS.iand X88.here hx rfl (hb hby at_170) rfl ks) ?_
        refine own_cast (g' := (mkF m 171 #[.val (.int p1), .val (.int p2), .val (.int p3), .val (.ref b53), .val (.int (3 : Int32)), .val (.int pp), .val (.ref d0), .val (.ref d1), .val (.ref d2), .val (.ref b63), .val (.ref b67), .val (.int (1 : Int32))] [(.int (1 : Int32))])) (by rw [show ((1 : Int32) &&& (1 : Int32)) = (1 : Int32) from by decide]) ?_
        refine own_st (V := (T88.setTop (mkF m 173 #[.val (.int p1), .val (.int p2), .val (.int p3), .val (.ref b53), .val (.int (3 : Int32)), .val (.int pp), .val (.ref d0), .val (.ref d1), .val (.ref d2), .val (.ref b63), .val (.ref b67), .val (.int (1 : Int32))] []))) (fun t ks => XS.istore X88.here hx rfl (hb hby at_171) rfl (l' := #[.val (.int p1), .val (.int p2), .val (.int p3), .val (.ref b53), .val (.int (3 : Int32)), .val (.int pp), .val (.ref d0), .val (.ref d1), .val (.ref d2), .val (.ref b63), .val (.ref b67), .val (.int (1 : Int32))]) rfl ks) ?_
        refine own_st (V := (T88.setTop (mkF m 175 #[.val (.int p1), .val (.int p2), .val (.int p3), .val (.ref b53), .val (.int (3 : Int32)), .val (.int pp), .val (.ref d0), .val (.ref d1), .val (.ref d2), .val (.ref b63), .val (.ref b67), .val (.int (1 : Int32))] [(.int pp)]))) (fun t ks => XS.iload X88.here hx rfl (hb hby at_173) rfl ks) ?_
        refine own_st (V := (T88.setTop (mkF m 176 #[.val (.int p1), .val (.int p2), .val (.int p3), .val (.ref b53), .val (.int (3 : Int32)), .val (.int pp), .val (.ref d0), .val (.ref d1), .val (.ref d2), .val (.ref b63), .val (.ref b67), .val (.int (1 : Int32))] [(.int (1 : Int32)), (.int pp)]))) (fun t ks => XS.iconst X88.here hx rfl (hb hby at_175) ks) ?_
        by_cases hj1 : pp < (1 : Int32)
        · refine own_st (V := (T88.setTop (mkF m 204 #[.val (.int p1), .val (.int p2), .val (.int p3), .val (.ref b53), .val (.int (3 : Int32)), .val (.int pp), .val (.ref d0), .val (.ref d1), .val (.ref d2), .val (.ref b63), .val (.ref b67), .val (.int (1 : Int32))] []))) (fun t ks => XS.icmpYes X88.here hx rfl (pc0 := 176) (pc' := 204) rfl (hb hby at_176) rfl (XT.ii_lt_t hj1) (by decide) (by decide) ks) ?_
          refine own_st (V := (T88.setTop (mkF m 206 #[.val (.int p1), .val (.int p2), .val (.int p3), .val (.ref b53), .val (.int (3 : Int32)), .val (.int pp), .val (.ref d0), .val (.ref d1), .val (.ref d2), .val (.ref b63), .val (.ref b67), .val (.int (1 : Int32))] [(.int pp)]))) (fun t ks => XS.iload X88.here hx rfl (hb hby at_204) rfl ks) ?_
          refine own_st (V := (T88.setTop (mkF m 207 #[.val (.int p1), .val (.int p2), .val (.int p3), .val (.ref b53), .val (.int (3 : Int32)), .val (.int pp), .val (.ref d0), .val (.ref d1), .val (.ref d2), .val (.ref b63), .val (.ref b67), .val (.int (1 : Int32))] [(.int (2 : Int32)), (.int pp)]))) (fun t ks => XS.iconst X88.here hx rfl (hb hby at_206) ks) ?_
          refine own_st (V := (T88.setTop (mkF m 235 #[.val (.int p1), .val (.int p2), .val (.int p3), .val (.ref b53), .val (.int (3 : Int32)), .val (.int pp), .val (.ref d0), .val (.ref d1), .val (.ref d2), .val (.ref b63), .val (.ref b67), .val (.int (1 : Int32))] []))) (fun t ks => XS.icmpYes X88.here hx rfl (pc0 := 207) (pc' := 235) rfl (hb hby at_207) rfl (XT.ii_lt_t (by rw [Int32.lt_iff_toInt_lt] at hj1 ⊢; simp only [show (1 : Int32).toInt = 1 from rfl, show (2 : Int32).toInt = 2 from rfl] at *; omega)) (by decide) (by decide) ks) ?_
          refine own_st (V := (T88.setTop (mkF m 237 #[.val (.int p1), .val (.int p2), .val (.int p3), .val (.ref b53), .val (.int (3 : Int32)), .val (.int pp), .val (.ref d0), .val (.ref d1), .val (.ref d2), .val (.ref b63), .val (.ref b67), .val (.int (1 : Int32))] [(.int pp)]))) (fun t ks => XS.iload X88.here hx rfl (hb hby at_235) rfl ks) ?_
          refine own_st (V := (T88.setTop (mkF m 238 #[.val (.int p1), .val (.int p2), .val (.int p3), .val (.ref b53), .val (.int (3 : Int32)), .val (.int pp), .val (.ref d0), .val (.ref d1), .val (.ref d2), .val (.ref b63), .val (.ref b67), .val (.int (1 : Int32))] [(.int (3 : Int32)), (.int pp)]))) (fun t ks => XS.iconst X88.here hx rfl (hb hby at_237) ks) ?_
          refine own_st (V := (T88.setTop (mkF m 266 #[.val (.int p1), .val (.int p2), .val (.int p3), .val (.ref b53), .val (.int (3 : Int32)), .val (.int pp), .val (.ref d0), .val (.ref d1), .val (.ref d2), .val (.ref b63), .val (.ref b67), .val (.int (1 : Int32))] []))) (fun t ks => XS.icmpYes X88.here hx rfl (pc0 := 238) (pc' := 266) rfl (hb hby at_238) rfl (XT.ii_lt_t (by rw [Int32.lt_iff_toInt_lt] at hj1 ⊢; simp only [show (1 : Int32).toInt = 1 from rfl, show (3 : Int32).toInt = 3 from rfl] at *; omega)) (by decide) (by decide) ks) ?_
          refine own_st (V := (T88.setTop (mkF m 268 #[.val (.int p1), .val (.int p2), .val (.int p3), .val (.ref b53), .val (.int (3 : Int32)), .val (.int pp), .val (.ref d0), .val (.ref d1), .val (.ref d2), .val (.ref b63), .val (.ref b67), .val (.int (1 : Int32))] [(.int (1 : Int32))]))) (fun t ks => XS.iload X88.here hx rfl (hb hby at_266) rfl ks) ?_
          refine own_st (V := (T88.setTop (mkF m 270 #[.val (.int p1), .val (.int p2), .val (.int p3), .val (.ref b53), .val (.int (3 : Int32)), .val (.int pp), .val (.ref d0), .val (.ref d1), .val (.ref d2), .val (.ref b63), .val (.ref b67), .val (.int (1 : Int32))] [(.ref b67), (.int (1 : Int32))]))) (fun t ks => XS.aload X88.here hx rfl (hb hby at_268) rfl rfl ks) ?_
          refine own_callV0 X88 hx hZ hown (hw _ (List.mem_of_getElem? (i := 38) rfl)) (hw _ (List.mem_of_getElem? (i := 39) rfl)) (hw _ (List.mem_of_getElem? (i := 41) rfl)) (hw _ (List.mem_of_getElem? (i := 40) rfl)) (hw _ (List.mem_of_getElem? (i := 18) rfl)) (hw _ (List.mem_of_getElem? (i := 42) rfl)) (by decide) (rmE l Z a0 hw b67 tb 3 0 (by decide) T87.heap Fm Ht.1 Ht.2.2.2.1) e88 Ems (by rw [hml]; rfl) (argsL := []) (rest := [(.int (1 : Int32))]) pd_4 rfl rfl rfl (W := 1) (Nat.le_of_eq rfl) (hb hby at_270) (by decide) (by decide) (by decide) (by decide) ?_
          intro T89 X89 e89
          show OGoes p.tables e below _ (T89.setTop (mkF m 273 #[.val (.int p1), .val (.int p2), .val (.int p3), .val (.ref b53), .val (.int (3 : Int32)), .val (.int pp), .val (.ref d0), .val (.ref d1), .val (.ref d2), .val (.ref b63), .val (.ref b67), .val (.int (1 : Int32))] [(.int (0 : Int32)), (.int (1 : Int32))]))
          refine own_st (V := (T89.setTop (mkF m 275 #[.val (.int p1), .val (.int p2), .val (.int p3), .val (.ref b53), .val (.int (3 : Int32)), .val (.int pp), .val (.ref d0), .val (.ref d1), .val (.ref d2), .val (.ref b63), .val (.ref b67), .val (.int (1 : Int32))] [(.int pp), (.int (0 : Int32)), (.int (1 : Int32))]))) (fun t ks => XS.iload X89.here hx rfl (hb hby at_273) rfl ks) ?_
          refine own_st (V := (T89.setTop (mkF m 277 #[.val (.int p1), .val (.int p2), .val (.int p3), .val (.ref b53), .val (.int (3 : Int32)), .val (.int pp), .val (.ref d0), .val (.ref d1), .val (.ref d2), .val (.ref b63), .val (.ref b67), .val (.int (1 : Int32))] [(.int (3 : Int32)), (.int pp), (.int (0 : Int32)), (.int (1 : Int32))]))) (fun t ks => XS.iload X89.here hx rfl (hb hby at_275) rfl ks) ?_
          refine own_st (V := (T89.setTop (mkF m 284 #[.val (.int p1), .val (.int p2), .val (.int p3), .val (.ref b53), .val (.int (3 : Int32)), .val (.int pp), .val (.ref d0), .val (.ref d1), .val (.ref d2), .val (.ref b63), .val (.ref b67), .val (.int (1 : Int32))] [(.int (0 : Int32)), (.int (1 : Int32))]))) (fun t ks => XS.icmpYes X89.here hx rfl (pc0 := 277) (pc' := 284) rfl (hb hby at_277) rfl (XT.ii_ne_t (fun q => by rw [q] at hj1; revert hj1; decide)) (by decide) (by decide) ks) ?_
          refine own_st (V := (T89.setTop (mkF m 285 #[.val (.int p1), .val (.int p2), .val (.int p3), .val (.ref b53), .val (.int (3 : Int32)), .val (.int pp), .val (.ref d0), .val (.ref d1), .val (.ref d2), .val (.ref b63), .val (.ref b67), .val (.int (1 : Int32))] [(.int (0 : Int32)), (.int (0 : Int32)), (.int (1 : Int32))]))) (fun t ks => XS.iconst X89.here hx rfl (hb hby at_284) ks) ?_
          refine own_st (V := (T89.setTop (mkF m 288 #[.val (.int p1), .val (.int p2), .val (.int p3), .val (.ref b53), .val (.int (3 : Int32)), .val (.int pp), .val (.ref d0), .val (.ref d1), .val (.ref d2), .val (.ref b63), .val (.ref b67), .val (.int (1 : Int32))] [(.int (1 : Int32))]))) (fun t ks => XS.icmpNo X89.here hx rfl (hb hby at_285) rfl (XT.ii_ne_f rfl) ks) ?_
          refine own_st (V := (T89.setTop (mkF m 289 #[.val (.int p1), .val (.int p2), .val (.int p3), .val (.ref b53), .val (.int (3 : Int32)), .val (.int pp), .val (.ref d0), .val (.ref d1), .val (.ref d2), .val (.ref b63), .val (.ref b67), .val (.int (1 : Int32))] [(.int (1 : Int32)), (.int (1 : Int32))]))) (fun t ks => XS.iconst X89.here hx rfl (hb hby at_288) ks) ?_
          refine own_st (V := (T89.setTop (mkF m 293 #[.val (.int p1), .val (.int p2), .val (.int p3), .val (.ref b53), .val (.int (3 : Int32)), .val (.int pp), .val (.ref d0), .val (.ref d1), .val (.ref d2), .val (.ref b63), .val (.ref b67), .val (.int (1 : Int32))] [(.int (1 : Int32)), (.int (1 : Int32))]))) (fun t ks => XS.goto X89.here hx rfl (pc0 := 289) (pc' := 293) rfl (hb hby at_289) (by decide) (by decide) ks) ?_
          refine own_st (V := (T89.setTop (mkF m 294 #[.val (.int p1), .val (.int p2), .val (.int p3), .val (.ref b53), .val (.int (3 : Int32)), .val (.int pp), .val (.ref d0), .val (.ref d1), .val (.ref d2), .val (.ref b63), .val (.ref b67), .val (.int (1 : Int32))] [(.int ((1 : Int32) &&& (1 : Int32)))]))) (fun t ks => XS.iand X89.here hx rfl (hb hby at_293) rfl ks) ?_
          refine own_cast (g' := (mkF m 294 #[.val (.int p1), .val (.int p2), .val (.int p3), .val (.ref b53), .val (.int (3 : Int32)), .val (.int pp), .val (.ref d0), .val (.ref d1), .val (.ref d2), .val (.ref b63), .val (.ref b67), .val (.int (1 : Int32))] [(.int (1 : Int32))])) (by rw [show ((1 : Int32) &&& (1 : Int32)) = (1 : Int32) from by decide]) ?_
          refine own_st (V := (T89.setTop (mkF m 296 #[.val (.int p1), .val (.int p2), .val (.int p3), .val (.ref b53), .val (.int (3 : Int32)), .val (.int pp), .val (.ref d0), .val (.ref d1), .val (.ref d2), .val (.ref b63), .val (.ref b67), .val (.int (1 : Int32))] []))) (fun t ks => XS.istore X89.here hx rfl (hb hby at_294) rfl (l' := #[.val (.int p1), .val (.int p2), .val (.int p3), .val (.ref b53), .val (.int (3 : Int32)), .val (.int pp), .val (.ref d0), .val (.ref d1), .val (.ref d2), .val (.ref b63), .val (.ref b67), .val (.int (1 : Int32))]) rfl ks) ?_
          refine own_st (V := (T89.setTop (mkF m 298 #[.val (.int p1), .val (.int p2), .val (.int p3), .val (.ref b53), .val (.int (3 : Int32)), .val (.int pp), .val (.ref d0), .val (.ref d1), .val (.ref d2), .val (.ref b63), .val (.ref b67), .val (.int (1 : Int32))] [(.int (1 : Int32))]))) (fun t ks => XS.iload X89.here hx rfl (hb hby at_296) rfl ks) ?_
          exact own_retN X89 hx hlk (by simp) hret (hb hby at_298) (by decide) (by decide) ⟨rfl, N87⟩
        · refine own_st (V := (T88.setTop (mkF m 179 #[.val (.int p1), .val (.int p2), .val (.int p3), .val (.ref b53), .val (.int (3 : Int32)), .val (.int pp), .val (.ref d0), .val (.ref d1), .val (.ref d2), .val (.ref b63), .val (.ref b67), .val (.int (1 : Int32))] []))) (fun t ks => XS.icmpNo X88.here hx rfl (hb hby at_176) rfl (XT.ii_lt_f hj1) ks) ?_
          refine own_st (V := (T88.setTop (mkF m 181 #[.val (.int p1), .val (.int p2), .val (.int p3), .val (.ref b53), .val (.int (3 : Int32)), .val (.int pp), .val (.ref d0), .val (.ref d1), .val (.ref d2), .val (.ref b63), .val (.ref b67), .val (.int (1 : Int32))] [(.int (1 : Int32))]))) (fun t ks => XS.iload X88.here hx rfl (hb hby at_179) rfl ks) ?_
          refine own_st (V := (T88.setTop (mkF m 183 #[.val (.int p1), .val (.int p2), .val (.int p3), .val (.ref b53), .val (.int (3 : Int32)), .val (.int pp), .val (.ref d0), .val (.ref d1), .val (.ref d2), .val (.ref b63), .val (.ref b67), .val (.int (1 : Int32))] [(.ref b67), (.int (1 : Int32))]))) (fun t ks => XS.aload X88.here hx rfl (hb hby at_181) rfl rfl ks) ?_
          refine own_callV X88 hx hZ hown (hw _ (List.mem_of_getElem? (i := 77) rfl)) (hw _ (List.mem_of_getElem? (i := 78) rfl)) (hw _ (List.mem_of_getElem? (i := 80) rfl)) (hw _ (List.mem_of_getElem? (i := 79) rfl)) (hw _ (List.mem_of_getElem? (i := 18) rfl)) (hw _ (List.mem_of_getElem? (i := 81) rfl)) (by decide) (rmQ l Z a0 hw b67 tb bl w aD wN wE wS wW d2 kb kw kD 3 2 (own_put (own_put (own_put 0 0 i0) 1 i1) 2 i2) (by decide) (by decide) i2 b3 hi2 hd2 (by decide) (by decide) T87.heap hO Ems Fm SD AD Ht (by omega) hbl hlw) e88 Ems (by rw [hml]; rfl) (argsL := []) (rest := [(.int (1 : Int32))]) pd_7 rfl rfl rfl (W := 1) (Nat.le_of_eq rfl) (hb hby at_183) (by decide) (by decide) (by decide) (by decide) ?_
          rintro v90 T90 L90 X90 ⟨rfl, N90, K90, Ht⟩
          replace N90 := Fr.app N87 N90
          show OGoes p.tables e below _ (T90.setTop (mkF m 186 #[.val (.int p1), .val (.int p2), .val (.int p3), .val (.ref b53), .val (.int (3 : Int32)), .val (.int pp), .val (.ref d0), .val (.ref d1), .val (.ref d2), .val (.ref b63), .val (.ref b67), .val (.int (1 : Int32))] [(.ref d2), (.int (1 : Int32))]))
          replace hO := own_old_keep hO K90 (allS (by omega) all0)
          replace Pu := Pu.keep K90 (ninS (own_ne (by omega)) nin0)
          replace Ems := Ems.keep K90
          replace Fm := Fm.keep K90 (ninS (own_ne (by omega)) nin0)
          refine own_st (V := (T90.setTop (mkF m 188 #[.val (.int p1), .val (.int p2), .val (.int p3), .val (.ref b53), .val (.int (3 : Int32)), .val (.int pp), .val (.ref d0), .val (.ref d1), .val (.ref d2), .val (.ref b63), .val (.ref b67), .val (.int (1 : Int32))] [(.ref b63), (.ref d2), (.int (1 : Int32))]))) (fun t ks => XS.aload X90.here hx rfl (hb hby at_186) rfl rfl ks) ?_
          refine own_st (V := (T90.setTop (mkF m 190 #[.val (.int p1), .val (.int p2), .val (.int p3), .val (.ref b53), .val (.int (3 : Int32)), .val (.int pp), .val (.ref d0), .val (.ref d1), .val (.ref d2), .val (.ref b63), .val (.ref b67), .val (.int (1 : Int32))] [(.int (3 : Int32)), (.ref b63), (.ref d2), (.int (1 : Int32))]))) (fun t ks => XS.iload X90.here hx rfl (hb hby at_188) rfl ks) ?_
          refine own_st (V := (T90.setTop (mkF m 191 #[.val (.int p1), .val (.int p2), .val (.int p3), .val (.ref b53), .val (.int (3 : Int32)), .val (.int pp), .val (.ref d0), .val (.ref d1), .val (.ref d2), .val (.ref b63), .val (.ref b67), .val (.int (1 : Int32))] [(.int (1 : Int32)), (.int (3 : Int32)), (.ref b63), (.ref d2), (.int (1 : Int32))]))) (fun t ks => XS.iconst X90.here hx rfl (hb hby at_190) ks) ?_
          refine own_st (V := (T90.setTop (mkF m 192 #[.val (.int p1), .val (.int p2), .val (.int p3), .val (.ref b53), .val (.int (3 : Int32)), .val (.int pp), .val (.ref d0), .val (.ref d1), .val (.ref d2), .val (.ref b63), .val (.ref b67), .val (.int (1 : Int32))] [(.int ((3 : Int32) - (1 : Int32))), (.ref b63), (.ref d2), (.int (1 : Int32))]))) (fun t ks => XS.isub X90.here hx rfl (hb hby at_191) rfl ks) ?_
          refine own_cast (g' := (mkF m 192 #[.val (.int p1), .val (.int p2), .val (.int p3), .val (.ref b53), .val (.int (3 : Int32)), .val (.int pp), .val (.ref d0), .val (.ref d1), .val (.ref d2), .val (.ref b63), .val (.ref b67), .val (.int (1 : Int32))] [(.int (2 : Int32)), (.ref b63), (.ref d2), (.int (1 : Int32))])) (by rw [show ((3 : Int32) - (1 : Int32)) = (2 : Int32) from by decide]) ?_
          refine own_aaload X90 hx hZ rfl rfl Pu (v := (.ref d2)) (by decide) (by decide) rfl (hb hby at_192) ?_
          show OGoes p.tables e below _ (T90.setTop (mkF m 193 #[.val (.int p1), .val (.int p2), .val (.int p3), .val (.ref b53), .val (.int (3 : Int32)), .val (.int pp), .val (.ref d0), .val (.ref d1), .val (.ref d2), .val (.ref b63), .val (.ref b67), .val (.int (1 : Int32))] [(.ref d2), (.ref d2), (.int (1 : Int32))]))
          refine own_st (V := (T90.setTop (mkF m 196 #[.val (.int p1), .val (.int p2), .val (.int p3), .val (.ref b53), .val (.int (3 : Int32)), .val (.int pp), .val (.ref d0), .val (.ref d1), .val (.ref d2), .val (.ref b63), .val (.ref b67), .val (.int (1 : Int32))] [(.int (1 : Int32))]))) (fun t ks => XT.acmpNo X90.here hx rfl (hb hby at_193) rfl rfl rfl (own_aa_ne_f rfl) ks) ?_
          refine own_st (V := (T90.setTop (mkF m 197 #[.val (.int p1), .val (.int p2), .val (.int p3), .val (.ref b53), .val (.int (3 : Int32)), .val (.int pp), .val (.ref d0), .val (.ref d1), .val (.ref d2), .val (.ref b63), .val (.ref b67), .val (.int (1 : Int32))] [(.int (1 : Int32)), (.int (1 : Int32))]))) (fun t ks => XS.iconst X90.here hx rfl (hb hby at_196) ks) ?_
          refine own_st (V := (T90.setTop (mkF m 201 #[.val (.int p1), .val (.int p2), .val (.int p3), .val (.ref b53), .val (.int (3 : Int32)), .val (.int pp), .val (.ref d0), .val (.ref d1), .val (.ref d2), .val (.ref b63), .val (.ref b67), .val (.int (1 : Int32))] [(.int (1 : Int32)), (.int (1 : Int32))]))) (fun t ks => XS.goto X90.here hx rfl (pc0 := 197) (pc' := 201) rfl (hb hby at_197) (by decide) (by decide) ks) ?_
          refine own_st (V := (T90.setTop (mkF m 202 #[.val (.int p1), .val (.int p2), .val (.int p3), .val (.ref b53), .val (.int (3 : Int32)), .val (.int pp), .val (.ref d0), .val (.ref d1), .val (.ref d2), .val (.ref b63), .val (.ref b67), .val (.int (1 : Int32))] [(.int ((1 : Int32) &&& (1 : Int32)))]))) (fun t ks => XS.iand X90.here hx rfl (hb hby at_201) rfl ks) ?_
          refine own_cast (g' := (mkF m 202 #[.val (.int p1), .val (.int p2), .val (.int p3), .val (.ref b53), .val (.int (3 : Int32)), .val (.int pp), .val (.ref d0), .val (.ref d1), .val (.ref d2), .val (.ref b63), .val (.ref b67), .val (.int (1 : Int32))] [(.int (1 : Int32))])) (by rw [show ((1 : Int32) &&& (1 : Int32)) = (1 : Int32) from by decide]) ?_
          refine own_st (V := (T90.setTop (mkF m 204 #[.val (.int p1), .val (.int p2), .val (.int p3), .val (.ref b53), .val (.int (3 : Int32)), .val (.int pp), .val (.ref d0), .val (.ref d1), .val (.ref d2), .val (.ref b63), .val (.ref b67), .val (.int (1 : Int32))] []))) (fun t ks => XS.istore X90.here hx rfl (hb hby at_202) rfl (l' := #[.val (.int p1), .val (.int p2), .val (.int p3), .val (.ref b53), .val (.int (3 : Int32)), .val (.int pp), .val (.ref d0), .val (.ref d1), .val (.ref d2), .val (.ref b63), .val (.ref b67), .val (.int (1 : Int32))]) rfl ks) ?_
          refine own_st (V := (T90.setTop (mkF m 206 #[.val (.int p1), .val (.int p2), .val (.int p3), .val (.ref b53), .val (.int (3 : Int32)), .val (.int pp), .val (.ref d0), .val (.ref d1), .val (.ref d2), .val (.ref b63), .val (.ref b67), .val (.int (1 : Int32))] [(.int pp)]))) (fun t ks => XS.iload X90.here hx rfl (hb hby at_204) rfl ks) ?_
          refine own_st (V := (T90.setTop (mkF m 207 #[.val (.int p1), .val (.int p2), .val (.int p3), .val (.ref b53), .val (.int (3 : Int32)), .val (.int pp), .val (.ref d0), .val (.ref d1), .val (.ref d2), .val (.ref b63), .val (.ref b67), .val (.int (1 : Int32))] [(.int (2 : Int32)), (.int pp)]))) (fun t ks => XS.iconst X90.here hx rfl (hb hby at_206) ks) ?_
          by_cases hj2 : pp < (2 : Int32)
          · refine own_st (V := (T90.setTop (mkF m 235 #[.val (.int p1), .val (.int p2), .val (.int p3), .val (.ref b53), .val (.int (3 : Int32)), .val (.int pp), .val (.ref d0), .val (.ref d1), .val (.ref d2), .val (.ref b63), .val (.ref b67), .val (.int (1 : Int32))] []))) (fun t ks => XS.icmpYes X90.here hx rfl (pc0 := 207) (pc' := 235) rfl (hb hby at_207) rfl (XT.ii_lt_t hj2) (by decide) (by decide) ks) ?_
            refine own_st (V := (T90.setTop (mkF m 237 #[.val (.int p1), .val (.int p2), .val (.int p3), .val (.ref b53), .val (.int (3 : Int32)), .val (.int pp), .val (.ref d0), .val (.ref d1), .val (.ref d2), .val (.ref b63), .val (.ref b67), .val (.int (1 : Int32))] [(.int pp)]))) (fun t ks => XS.iload X90.here hx rfl (hb hby at_235) rfl ks) ?_
            refine own_st (V := (T90.setTop (mkF m 238 #[.val (.int p1), .val (.int p2), .val (.int p3), .val (.ref b53), .val (.int (3 : Int32)), .val (.int pp), .val (.ref d0), .val (.ref d1), .val (.ref d2), .val (.ref b63), .val (.ref b67), .val (.int (1 : Int32))] [(.int (3 : Int32)), (.int pp)]))) (fun t ks => XS.iconst X90.here hx rfl (hb hby at_237) ks) ?_
            refine own_st (V := (T90.setTop (mkF m 266 #[.val (.int p1), .val (.int p2), .val (.int p3), .val (.ref b53), .val (.int (3 : Int32)), .val (.int pp), .val (.ref d0), .val (.ref d1), .val (.ref d2), .val (.ref b63), .val (.ref b67), .val (.int (1 : Int32))] []))) (fun t ks => XS.icmpYes X90.here hx rfl (pc0 := 238) (pc' := 266) rfl (hb hby at_238) rfl (XT.ii_lt_t (by rw [Int32.lt_iff_toInt_lt] at hj2 ⊢; simp only [show (2 : Int32).toInt = 2 from rfl, show (3 : Int32).toInt = 3 from rfl] at *; omega)) (by decide) (by decide) ks) ?_
            refine own_st (V := (T90.setTop (mkF m 268 #[.val (.int p1), .val (.int p2), .val (.int p3), .val (.ref b53), .val (.int (3 : Int32)), .val (.int pp), .val (.ref d0), .val (.ref d1), .val (.ref d2), .val (.ref b63), .val (.ref b67), .val (.int (1 : Int32))] [(.int (1 : Int32))]))) (fun t ks => XS.iload X90.here hx rfl (hb hby at_266) rfl ks) ?_
            refine own_st (V := (T90.setTop (mkF m 270 #[.val (.int p1), .val (.int p2), .val (.int p3), .val (.ref b53), .val (.int (3 : Int32)), .val (.int pp), .val (.ref d0), .val (.ref d1), .val (.ref d2), .val (.ref b63), .val (.ref b67), .val (.int (1 : Int32))] [(.ref b67), (.int (1 : Int32))]))) (fun t ks => XS.aload X90.here hx rfl (hb hby at_268) rfl rfl ks) ?_
            refine own_callV0 X90 hx hZ hown (hw _ (List.mem_of_getElem? (i := 38) rfl)) (hw _ (List.mem_of_getElem? (i := 39) rfl)) (hw _ (List.mem_of_getElem? (i := 41) rfl)) (hw _ (List.mem_of_getElem? (i := 40) rfl)) (hw _ (List.mem_of_getElem? (i := 18) rfl)) (hw _ (List.mem_of_getElem? (i := 42) rfl)) (by decide) (rmE l Z a0 hw b67 tb 2 0 (by decide) T90.heap Fm Ht.1 Ht.2.2.2.1) rfl Ems (by rw [hml]; rfl) (argsL := []) (rest := [(.int (1 : Int32))]) pd_4 rfl rfl rfl (W := 1) (Nat.le_of_eq rfl) (hb hby at_270) (by decide) (by decide) (by decide) (by decide) ?_
            intro T91 X91 e91
            show OGoes p.tables e below _ (T91.setTop (mkF m 273 #[.val (.int p1), .val (.int p2), .val (.int p3), .val (.ref b53), .val (.int (3 : Int32)), .val (.int pp), .val (.ref d0), .val (.ref d1), .val (.ref d2), .val (.ref b63), .val (.ref b67), .val (.int (1 : Int32))] [(.int (0 : Int32)), (.int (1 : Int32))]))
            refine own_st (V := (T91.setTop (mkF m 275 #[.val (.int p1), .val (.int p2), .val (.int p3), .val (.ref b53), .val (.int (3 : Int32)), .val (.int pp), .val (.ref d0), .val (.ref d1), .val (.ref d2), .val (.ref b63), .val (.ref b67), .val (.int (1 : Int32))] [(.int pp), (.int (0 : Int32)), (.int (1 : Int32))]))) (fun t ks => XS.iload X91.here hx rfl (hb hby at_273) rfl ks) ?_
            refine own_st (V := (T91.setTop (mkF m 277 #[.val (.int p1), .val (.int p2), .val (.int p3), .val (.ref b53), .val (.int (3 : Int32)), .val (.int pp), .val (.ref d0), .val (.ref d1), .val (.ref d2), .val (.ref b63), .val (.ref b67), .val (.int (1 : Int32))] [(.int (3 : Int32)), (.int pp), (.int (0 : Int32)), (.int (1 : Int32))]))) (fun t ks => XS.iload X91.here hx rfl (hb hby at_275) rfl ks) ?_
            refine own_st (V := (T91.setTop (mkF m 284 #[.val (.int p1), .val (.int p2), .val (.int p3), .val (.ref b53), .val (.int (3 : Int32)), .val (.int pp), .val (.ref d0), .val (.ref d1), .val (.ref d2), .val (.ref b63), .val (.ref b67), .val (.int (1 : Int32))] [(.int (0 : Int32)), (.int (1 : Int32))]))) (fun t ks => XS.icmpYes X91.here hx rfl (pc0 := 277) (pc' := 284) rfl (hb hby at_277) rfl (XT.ii_ne_t (fun q => by rw [q] at hj2; revert hj2; decide)) (by decide) (by decide) ks) ?_
            refine own_st (V := (T91.setTop (mkF m 285 #[.val (.int p1), .val (.int p2), .val (.int p3), .val (.ref b53), .val (.int (3 : Int32)), .val (.int pp), .val (.ref d0), .val (.ref d1), .val (.ref d2), .val (.ref b63), .val (.ref b67), .val (.int (1 : Int32))] [(.int (0 : Int32)), (.int (0 : Int32)), (.int (1 : Int32))]))) (fun t ks => XS.iconst X91.here hx rfl (hb hby at_284) ks) ?_
            refine own_st (V := (T91.setTop (mkF m 288 #[.val (.int p1), .val (.int p2), .val (.int p3), .val (.ref b53), .val (.int (3 : Int32)), .val (.int pp), .val (.ref d0), .val (.ref d1), .val (.ref d2), .val (.ref b63), .val (.ref b67), .val (.int (1 : Int32))] [(.int (1 : Int32))]))) (fun t ks => XS.icmpNo X91.here hx rfl (hb hby at_285) rfl (XT.ii_ne_f rfl) ks) ?_
            refine own_st (V := (T91.setTop (mkF m 289 #[.val (.int p1), .val (.int p2), .val (.int p3), .val (.ref b53), .val (.int (3 : Int32)), .val (.int pp), .val (.ref d0), .val (.ref d1), .val (.ref d2), .val (.ref b63), .val (.ref b67), .val (.int (1 : Int32))] [(.int (1 : Int32)), (.int (1 : Int32))]))) (fun t ks => XS.iconst X91.here hx rfl (hb hby at_288) ks) ?_
            refine own_st (V := (T91.setTop (mkF m 293 #[.val (.int p1), .val (.int p2), .val (.int p3), .val (.ref b53), .val (.int (3 : Int32)), .val (.int pp), .val (.ref d0), .val (.ref d1), .val (.ref d2), .val (.ref b63), .val (.ref b67), .val (.int (1 : Int32))] [(.int (1 : Int32)), (.int (1 : Int32))]))) (fun t ks => XS.goto X91.here hx rfl (pc0 := 289) (pc' := 293) rfl (hb hby at_289) (by decide) (by decide) ks) ?_
            refine own_st (V := (T91.setTop (mkF m 294 #[.val (.int p1), .val (.int p2), .val (.int p3), .val (.ref b53), .val (.int (3 : Int32)), .val (.int pp), .val (.ref d0), .val (.ref d1), .val (.ref d2), .val (.ref b63), .val (.ref b67), .val (.int (1 : Int32))] [(.int ((1 : Int32) &&& (1 : Int32)))]))) (fun t ks => XS.iand X91.here hx rfl (hb hby at_293) rfl ks) ?_
            refine own_cast (g' := (mkF m 294 #[.val (.int p1), .val (.int p2), .val (.int p3), .val (.ref b53), .val (.int (3 : Int32)), .val (.int pp), .val (.ref d0), .val (.ref d1), .val (.ref d2), .val (.ref b63), .val (.ref b67), .val (.int (1 : Int32))] [(.int (1 : Int32))])) (by rw [show ((1 : Int32) &&& (1 : Int32)) = (1 : Int32) from by decide]) ?_
            refine own_st (V := (T91.setTop (mkF m 296 #[.val (.int p1), .val (.int p2), .val (.int p3), .val (.ref b53), .val (.int (3 : Int32)), .val (.int pp), .val (.ref d0), .val (.ref d1), .val (.ref d2), .val (.ref b63), .val (.ref b67), .val (.int (1 : Int32))] []))) (fun t ks => XS.istore X91.here hx rfl (hb hby at_294) rfl (l' := #[.val (.int p1), .val (.int p2), .val (.int p3), .val (.ref b53), .val (.int (3 : Int32)), .val (.int pp), .val (.ref d0), .val (.ref d1), .val (.ref d2), .val (.ref b63), .val (.ref b67), .val (.int (1 : Int32))]) rfl ks) ?_
            refine own_st (V := (T91.setTop (mkF m 298 #[.val (.int p1), .val (.int p2), .val (.int p3), .val (.ref b53), .val (.int (3 : Int32)), .val (.int pp), .val (.ref d0), .val (.ref d1), .val (.ref d2), .val (.ref b63), .val (.ref b67), .val (.int (1 : Int32))] [(.int (1 : Int32))]))) (fun t ks => XS.iload X91.here hx rfl (hb hby at_296) rfl ks) ?_
            exact own_retN X91 hx hlk (by simp) hret (hb hby at_298) (by decide) (by decide) ⟨rfl, N90⟩
          · refine own_st (V := (T90.setTop (mkF m 210 #[.val (.int p1), .val (.int p2), .val (.int p3), .val (.ref b53), .val (.int (3 : Int32)), .val (.int pp), .val (.ref d0), .val (.ref d1), .val (.ref d2), .val (.ref b63), .val (.ref b67), .val (.int (1 : Int32))] []))) (fun t ks => XS.icmpNo X90.here hx rfl (hb hby at_207) rfl (XT.ii_lt_f hj2) ks) ?_
            refine own_st (V := (T90.setTop (mkF m 212 #[.val (.int p1), .val (.int p2), .val (.int p3), .val (.ref b53), .val (.int (3 : Int32)), .val (.int pp), .val (.ref d0), .val (.ref d1), .val (.ref d2), .val (.ref b63), .val (.ref b67), .val (.int (1 : Int32))] [(.int (1 : Int32))]))) (fun t ks => XS.iload X90.here hx rfl (hb hby at_210) rfl ks) ?_
            refine own_st (V := (T90.setTop (mkF m 214 #[.val (.int p1), .val (.int p2), .val (.int p3), .val (.ref b53), .val (.int (3 : Int32)), .val (.int pp), .val (.ref d0), .val (.ref d1), .val (.ref d2), .val (.ref b63), .val (.ref b67), .val (.int (1 : Int32))] [(.ref b67), (.int (1 : Int32))]))) (fun t ks => XS.aload X90.here hx rfl (hb hby at_212) rfl rfl ks) ?_
            refine own_callV X90 hx hZ hown (hw _ (List.mem_of_getElem? (i := 77) rfl)) (hw _ (List.mem_of_getElem? (i := 78) rfl)) (hw _ (List.mem_of_getElem? (i := 80) rfl)) (hw _ (List.mem_of_getElem? (i := 79) rfl)) (hw _ (List.mem_of_getElem? (i := 18) rfl)) (hw _ (List.mem_of_getElem? (i := 81) rfl)) (by decide) (rmQ l Z a0 hw b67 tb bl w aD wN wE wS wW d1 kb kw kD 2 1 (own_put (own_put (own_put 0 0 i0) 1 i1) 2 i2) (by decide) (by decide) i1 b4 hi1 hd1 (by decide) (by decide) T90.heap hO Ems Fm SD AD Ht (by omega) hbl hlw) rfl Ems (by rw [hml]; rfl) (argsL := []) (rest := [(.int (1 : Int32))]) pd_7 rfl rfl rfl (W := 1) (Nat.le_of_eq rfl) (hb hby at_214) (by decide) (by decide) (by decide) (by decide) ?_
            rintro v92 T92 L92 X92 ⟨rfl, N92, K92, Ht⟩
            replace N92 := Fr.app N90 N92
            show OGoes p.tables e below _ (T92.setTop (mkF m 217 #[.val (.int p1), .val (.int p2), .val (.int p3), .val (.ref b53), .val (.int (3 : Int32)), .val (.int pp), .val (.ref d0), .val (.ref d1), .val (.ref d2), .val (.ref b63), .val (.ref b67), .val (.int (1 : Int32))] [(.ref d1), (.int (1 : Int32))]))
            replace hO := own_old_keep hO K92 (allS (by omega) all0)
            replace Pu := Pu.keep K92 (ninS (own_ne (by omega)) nin0)
            replace Ems := Ems.keep K92
            replace Fm := Fm.keep K92 (ninS (own_ne (by omega)) nin0)
            refine own_st (V := (T92.setTop (mkF m 219 #[.val (.int p1), .val (.int p2), .val (.int p3), .val (.ref b53), .val (.int (3 : Int32)), .val (.int pp), .val (.ref d0), .val (.ref d1), .val (.ref d2), .val (.ref b63), .val (.ref b67), .val (.int (1 : Int32))] [(.ref b63), (.ref d1), (.int (1 : Int32))]))) (fun t ks => XS.aload X92.here hx rfl (hb hby at_217) rfl rfl ks) ?_
            refine own_st (V := (T92.setTop (mkF m 221 #[.val (.int p1), .val (.int p2), .val (.int p3), .val (.ref b53), .val (.int (3 : Int32)), .val (.int pp), .val (.ref d0), .val (.ref d1), .val (.ref d2), .val (.ref b63), .val (.ref b67), .val (.int (1 : Int32))] [(.int (3 : Int32)), (.ref b63), (.ref d1), (.int (1 : Int32))]))) (fun t ks => XS.iload X92.here hx rfl (hb hby at_219) rfl ks) ?_
            refine own_st (V := (T92.setTop (mkF m 222 #[.val (.int p1), .val (.int p2), .val (.int p3), .val (.ref b53), .val (.int (3 : Int32)), .val (.int pp), .val (.ref d0), .val (.ref d1), .val (.ref d2), .val (.ref b63), .val (.ref b67), .val (.int (1 : Int32))] [(.int (2 : Int32)), (.int (3 : Int32)), (.ref b63), (.ref d1), (.int (1 : Int32))]))) (fun t ks => XS.iconst X92.here hx rfl (hb hby at_221) ks) ?_
            refine own_st (V := (T92.setTop (mkF m 223 #[.val (.int p1), .val (.int p2), .val (.int p3), .val (.ref b53), .val (.int (3 : Int32)), .val (.int pp), .val (.ref d0), .val (.ref d1), .val (.ref d2), .val (.ref b63), .val (.ref b67), .val (.int (1 : Int32))] [(.int ((3 : Int32) - (2 : Int32))), (.ref b63), (.ref d1), (.int (1 : Int32))]))) (fun t ks => XS.isub X92.here hx rfl (hb hby at_222) rfl ks) ?_
            refine own_cast (g' := (mkF m 223 #[.val (.int p1), .val (.int p2), .val (.int p3), .val (.ref b53), .val (.int (3 : Int32)), .val (.int pp), .val (.ref d0), .val (.ref d1), .val (.ref d2), .val (.ref b63), .val (.ref b67), .val (.int (1 : Int32))] [(.int (1 : Int32)), (.ref b63), (.ref d1), (.int (1 : Int32))])) (by rw [show ((3 : Int32) - (2 : Int32)) = (1 : Int32) from by decide]) ?_
            refine own_aaload X92 hx hZ rfl rfl Pu (v := (.ref d1)) (by decide) (by decide) rfl (hb hby at_223) ?_
            show OGoes p.tables e below _ (T92.setTop (mkF m 224 #[.val (.int p1), .val (.int p2), .val (.int p3), .val (.ref b53), .val (.int (3 : Int32)), .val (.int pp), .val (.ref d0), .val (.ref d1), .val (.ref d2), .val (.ref b63), .val (.ref b67), .val (.int (1 : Int32))] [(.ref d1), (.ref d1), (.int (1 : Int32))]))
            refine own_st (V := (T92.setTop (mkF m 227 #[.val (.int p1), .val (.int p2), .val (.int p3), .val (.ref b53), .val (.int (3 : Int32)), .val (.int pp), .val (.ref d0), .val (.ref d1), .val (.ref d2), .val (.ref b63), .val (.ref b67), .val (.int (1 : Int32))] [(.int (1 : Int32))]))) (fun t ks => XT.acmpNo X92.here hx rfl (hb hby at_224) rfl rfl rfl (own_aa_ne_f rfl) ks) ?_
            refine own_st (V := (T92.setTop (mkF m 228 #[.val (.int p1), .val (.int p2), .val (.int p3), .val (.ref b53), .val (.int (3 : Int32)), .val (.int pp), .val (.ref d0), .val (.ref d1), .val (.ref d2), .val (.ref b63), .val (.ref b67), .val (.int (1 : Int32))] [(.int (1 : Int32)), (.int (1 : Int32))]))) (fun t ks => XS.iconst X92.here hx rfl (hb hby at_227) ks) ?_
            refine own_st (V := (T92.setTop (mkF m 232 #[.val (.int p1), .val (.int p2), .val (.int p3), .val (.ref b53), .val (.int (3 : Int32)), .val (.int pp), .val (.ref d0), .val (.ref d1), .val (.ref d2), .val (.ref b63), .val (.ref b67), .val (.int (1 : Int32))] [(.int (1 : Int32)), (.int (1 : Int32))]))) (fun t ks => XS.goto X92.here hx rfl (pc0 := 228) (pc' := 232) rfl (hb hby at_228) (by decide) (by decide) ks) ?_
            refine own_st (V := (T92.setTop (mkF m 233 #[.val (.int p1), .val (.int p2), .val (.int p3), .val (.ref b53), .val (.int (3 : Int32)), .val (.int pp), .val (.ref d0), .val (.ref d1), .val (.ref d2), .val (.ref b63), .val (.ref b67), .val (.int (1 : Int32))] [(.int ((1 : Int32) &&& (1 : Int32)))]))) (fun t ks => XS.iand X92.here hx rfl (hb hby at_232) rfl ks) ?_
            refine own_cast (g' := (mkF m 233 #[.val (.int p1), .val (.int p2), .val (.int p3), .val (.ref b53), .val (.int (3 : Int32)), .val (.int pp), .val (.ref d0), .val (.ref d1), .val (.ref d2), .val (.ref b63), .val (.ref b67), .val (.int (1 : Int32))] [(.int (1 : Int32))])) (by rw [show ((1 : Int32) &&& (1 : Int32)) = (1 : Int32) from by decide]) ?_
            refine own_st (V := (T92.setTop (mkF m 235 #[.val (.int p1), .val (.int p2), .val (.int p3), .val (.ref b53), .val (.int (3 : Int32)), .val (.int pp), .val (.ref d0), .val (.ref d1), .val (.ref d2), .val (.ref b63), .val (.ref b67), .val (.int (1 : Int32))] []))) (fun t ks => XS.istore X92.here hx rfl (hb hby at_233) rfl (l' := #[.val (.int p1), .val (.int p2), .val (.int p3), .val (.ref b53), .val (.int (3 : Int32)), .val (.int pp), .val (.ref d0), .val (.ref d1), .val (.ref d2), .val (.ref b63), .val (.ref b67), .val (.int (1 : Int32))]) rfl ks) ?_
            refine own_st (V := (T92.setTop (mkF m 237 #[.val (.int p1), .val (.int p2), .val (.int p3), .val (.ref b53), .val (.int (3 : Int32)), .val (.int pp), .val (.ref d0), .val (.ref d1), .val (.ref d2), .val (.ref b63), .val (.ref b67), .val (.int (1 : Int32))] [(.int pp)]))) (fun t ks => XS.iload X92.here hx rfl (hb hby at_235) rfl ks) ?_
            refine own_st (V := (T92.setTop (mkF m 238 #[.val (.int p1), .val (.int p2), .val (.int p3), .val (.ref b53), .val (.int (3 : Int32)), .val (.int pp), .val (.ref d0), .val (.ref d1), .val (.ref d2), .val (.ref b63), .val (.ref b67), .val (.int (1 : Int32))] [(.int (3 : Int32)), (.int pp)]))) (fun t ks => XS.iconst X92.here hx rfl (hb hby at_237) ks) ?_
            by_cases hj3 : pp < (3 : Int32)
            · refine own_st (V := (T92.setTop (mkF m 266 #[.val (.int p1), .val (.int p2), .val (.int p3), .val (.ref b53), .val (.int (3 : Int32)), .val (.int pp), .val (.ref d0), .val (.ref d1), .val (.ref d2), .val (.ref b63), .val (.ref b67), .val (.int (1 : Int32))] []))) (fun t ks => XS.icmpYes X92.here hx rfl (pc0 := 238) (pc' := 266) rfl (hb hby at_238) rfl (XT.ii_lt_t hj3) (by decide) (by decide) ks) ?_
              refine own_st (V := (T92.setTop (mkF m 268 #[.val (.int p1), .val (.int p2), .val (.int p3), .val (.ref b53), .val (.int (3 : Int32)), .val (.int pp), .val (.ref d0), .val (.ref d1), .val (.ref d2), .val (.ref b63), .val (.ref b67), .val (.int (1 : Int32))] [(.int (1 : Int32))]))) (fun t ks => XS.iload X92.here hx rfl (hb hby at_266) rfl ks) ?_
              refine own_st (V := (T92.setTop (mkF m 270 #[.val (.int p1), .val (.int p2), .val (.int p3), .val (.ref b53), .val (.int (3 : Int32)), .val (.int pp), .val (.ref d0), .val (.ref d1), .val (.ref d2), .val (.ref b63), .val (.ref b67), .val (.int (1 : Int32))] [(.ref b67), (.int (1 : Int32))]))) (fun t ks => XS.aload X92.here hx rfl (hb hby at_268) rfl rfl ks) ?_
              refine own_callV0 X92 hx hZ hown (hw _ (List.mem_of_getElem? (i := 38) rfl)) (hw _ (List.mem_of_getElem? (i := 39) rfl)) (hw _ (List.mem_of_getElem? (i := 41) rfl)) (hw _ (List.mem_of_getElem? (i := 40) rfl)) (hw _ (List.mem_of_getElem? (i := 18) rfl)) (hw _ (List.mem_of_getElem? (i := 42) rfl)) (by decide) (rmE l Z a0 hw b67 tb 1 0 (by decide) T92.heap Fm Ht.1 Ht.2.2.2.1) rfl Ems (by rw [hml]; rfl) (argsL := []) (rest := [(.int (1 : Int32))]) pd_4 rfl rfl rfl (W := 1) (Nat.le_of_eq rfl) (hb hby at_270) (by decide) (by decide) (by decide) (by decide) ?_
              intro T93 X93 e93
              show OGoes p.tables e below _ (T93.setTop (mkF m 273 #[.val (.int p1), .val (.int p2), .val (.int p3), .val (.ref b53), .val (.int (3 : Int32)), .val (.int pp), .val (.ref d0), .val (.ref d1), .val (.ref d2), .val (.ref b63), .val (.ref b67), .val (.int (1 : Int32))] [(.int (0 : Int32)), (.int (1 : Int32))]))
              refine own_st (V := (T93.setTop (mkF m 275 #[.val (.int p1), .val (.int p2), .val (.int p3), .val (.ref b53), .val (.int (3 : Int32)), .val (.int pp), .val (.ref d0), .val (.ref d1), .val (.ref d2), .val (.ref b63), .val (.ref b67), .val (.int (1 : Int32))] [(.int pp), (.int (0 : Int32)), (.int (1 : Int32))]))) (fun t ks => XS.iload X93.here hx rfl (hb hby at_273) rfl ks) ?_
              refine own_st (V := (T93.setTop (mkF m 277 #[.val (.int p1), .val (.int p2), .val (.int p3), .val (.ref b53), .val (.int (3 : Int32)), .val (.int pp), .val (.ref d0), .val (.ref d1), .val (.ref d2), .val (.ref b63), .val (.ref b67), .val (.int (1 : Int32))] [(.int (3 : Int32)), (.int pp), (.int (0 : Int32)), (.int (1 : Int32))]))) (fun t ks => XS.iload X93.here hx rfl (hb hby at_275) rfl ks) ?_
              refine own_st (V := (T93.setTop (mkF m 284 #[.val (.int p1), .val (.int p2), .val (.int p3), .val (.ref b53), .val (.int (3 : Int32)), .val (.int pp), .val (.ref d0), .val (.ref d1), .val (.ref d2), .val (.ref b63), .val (.ref b67), .val (.int (1 : Int32))] [(.int (0 : Int32)), (.int (1 : Int32))]))) (fun t ks => XS.icmpYes X93.here hx rfl (pc0 := 277) (pc' := 284) rfl (hb hby at_277) rfl (XT.ii_ne_t (fun q => by rw [q] at hj3; revert hj3; decide)) (by decide) (by decide) ks) ?_
              refine own_st (V := (T93.setTop (mkF m 285 #[.val (.int p1), .val (.int p2), .val (.int p3), .val (.ref b53), .val (.int (3 : Int32)), .val (.int pp), .val (.ref d0), .val (.ref d1), .val (.ref d2), .val (.ref b63), .val (.ref b67), .val (.int (1 : Int32))] [(.int (0 : Int32)), (.int (0 : Int32)), (.int (1 : Int32))]))) (fun t ks => XS.iconst X93.here hx rfl (hb hby at_284) ks) ?_
              refine own_st (V := (T93.setTop (mkF m 288 #[.val (.int p1), .val (.int p2), .val (.int p3), .val (.ref b53), .val (.int (3 : Int32)), .val (.int pp), .val (.ref d0), .val (.ref d1), .val (.ref d2), .val (.ref b63), .val (.ref b67), .val (.int (1 : Int32))] [(.int (1 : Int32))]))) (fun t ks => XS.icmpNo X93.here hx rfl (hb hby at_285) rfl (XT.ii_ne_f rfl) ks) ?_
              refine own_st (V := (T93.setTop (mkF m 289 #[.val (.int p1), .val (.int p2), .val (.int p3), .val (.ref b53), .val (.int (3 : Int32)), .val (.int pp), .val (.ref d0), .val (.ref d1), .val (.ref d2), .val (.ref b63), .val (.ref b67), .val (.int (1 : Int32))] [(.int (1 : Int32)), (.int (1 : Int32))]))) (fun t ks => XS.iconst X93.here hx rfl (hb hby at_288) ks) ?_
              refine own_st (V := (T93.setTop (mkF m 293 #[.val (.int p1), .val (.int p2), .val (.int p3), .val (.ref b53), .val (.int (3 : Int32)), .val (.int pp), .val (.ref d0), .val (.ref d1), .val (.ref d2), .val (.ref b63), .val (.ref b67), .val (.int (1 : Int32))] [(.int (1 : Int32)), (.int (1 : Int32))]))) (fun t ks => XS.goto X93.here hx rfl (pc0 := 289) (pc' := 293) rfl (hb hby at_289) (by decide) (by decide) ks) ?_
              refine own_st (V := (T93.setTop (mkF m 294 #[.val (.int p1), .val (.int p2), .val (.int p3), .val (.ref b53), .val (.int (3 : Int32)), .val (.int pp), .val (.ref d0), .val (.ref d1), .val (.ref d2), .val (.ref b63), .val (.ref b67), .val (.int (1 : Int32))] [(.int ((1 : Int32) &&& (1 : Int32)))]))) (fun t ks => XS.iand X93.here hx rfl (hb hby at_293) rfl ks) ?_
              refine own_cast (g' := (mkF m 294 #[.val (.int p1), .val (.int p2), .val (.int p3), .val (.ref b53), .val (.int (3 : Int32)), .val (.int pp), .val (.ref d0), .val (.ref d1), .val (.ref d2), .val (.ref b63), .val (.ref b67), .val (.int (1 : Int32))] [(.int (1 : Int32))])) (by rw [show ((1 : Int32) &&& (1 : Int32)) = (1 : Int32) from by decide]) ?_
              refine own_st (V := (T93.setTop (mkF m 296 #[.val (.int p1), .val (.int p2), .val (.int p3), .val (.ref b53), .val (.int (3 : Int32)), .val (.int pp), .val (.ref d0), .val (.ref d1), .val (.ref d2), .val (.ref b63), .val (.ref b67), .val (.int (1 : Int32))] []))) (fun t ks => XS.istore X93.here hx rfl (hb hby at_294) rfl (l' := #[.val (.int p1), .val (.int p2), .val (.int p3), .val (.ref b53), .val (.int (3 : Int32)), .val (.int pp), .val (.ref d0), .val (.ref d1), .val (.ref d2), .val (.ref b63), .val (.ref b67), .val (.int (1 : Int32))]) rfl ks) ?_
              refine own_st (V := (T93.setTop (mkF m 298 #[.val (.int p1), .val (.int p2), .val (.int p3), .val (.ref b53), .val (.int (3 : Int32)), .val (.int pp), .val (.ref d0), .val (.ref d1), .val (.ref d2), .val (.ref b63), .val (.ref b67), .val (.int (1 : Int32))] [(.int (1 : Int32))]))) (fun t ks => XS.iload X93.here hx rfl (hb hby at_296) rfl ks) ?_
              exact own_retN X93 hx hlk (by simp) hret (hb hby at_298) (by decide) (by decide) ⟨rfl, N92⟩
            · refine own_st (V := (T92.setTop (mkF m 241 #[.val (.int p1), .val (.int p2), .val (.int p3), .val (.ref b53), .val (.int (3 : Int32)), .val (.int pp), .val (.ref d0), .val (.ref d1), .val (.ref d2), .val (.ref b63), .val (.ref b67), .val (.int (1 : Int32))] []))) (fun t ks => XS.icmpNo X92.here hx rfl (hb hby at_238) rfl (XT.ii_lt_f hj3) ks) ?_
              refine own_st (V := (T92.setTop (mkF m 243 #[.val (.int p1), .val (.int p2), .val (.int p3), .val (.ref b53), .val (.int (3 : Int32)), .val (.int pp), .val (.ref d0), .val (.ref d1), .val (.ref d2), .val (.ref b63), .val (.ref b67), .val (.int (1 : Int32))] [(.int (1 : Int32))]))) (fun t ks => XS.iload X92.here hx rfl (hb hby at_241) rfl ks) ?_
              refine own_st (V := (T92.setTop (mkF m 245 #[.val (.int p1), .val (.int p2), .val (.int p3), .val (.ref b53), .val (.int (3 : Int32)), .val (.int pp), .val (.ref d0), .val (.ref d1), .val (.ref d2), .val (.ref b63), .val (.ref b67), .val (.int (1 : Int32))] [(.ref b67), (.int (1 : Int32))]))) (fun t ks => XS.aload X92.here hx rfl (hb hby at_243) rfl rfl ks) ?_
              refine own_callV X92 hx hZ hown (hw _ (List.mem_of_getElem? (i := 77) rfl)) (hw _ (List.mem_of_getElem? (i := 78) rfl)) (hw _ (List.mem_of_getElem? (i := 80) rfl)) (hw _ (List.mem_of_getElem? (i := 79) rfl)) (hw _ (List.mem_of_getElem? (i := 18) rfl)) (hw _ (List.mem_of_getElem? (i := 81) rfl)) (by decide) (rmQ l Z a0 hw b67 tb bl w aD wN wE wS wW d0 kb kw kD 1 0 (own_put (own_put (own_put 0 0 i0) 1 i1) 2 i2) (by decide) (by decide) i0 b5 hi0 hd0 (by decide) (by decide) T92.heap hO Ems Fm SD AD Ht (by omega) hbl hlw) rfl Ems (by rw [hml]; rfl) (argsL := []) (rest := [(.int (1 : Int32))]) pd_7 rfl rfl rfl (W := 1) (Nat.le_of_eq rfl) (hb hby at_245) (by decide) (by decide) (by decide) (by decide) ?_
              rintro v94 T94 L94 X94 ⟨rfl, N94, K94, Ht⟩
              replace N94 := Fr.app N92 N94
              show OGoes p.tables e below _ (T94.setTop (mkF m 248 #[.val (.int p1), .val (.int p2), .val (.int p3), .val (.ref b53), .val (.int (3 : Int32)), .val (.int pp), .val (.ref d0), .val (.ref d1), .val (.ref d2), .val (.ref b63), .val (.ref b67), .val (.int (1 : Int32))] [(.ref d0), (.int (1 : Int32))]))
              replace hO := own_old_keep hO K94 (allS (by omega) all0)
              replace Pu := Pu.keep K94 (ninS (own_ne (by omega)) nin0)
              replace Ems := Ems.keep K94
              replace Fm := Fm.keep K94 (ninS (own_ne (by omega)) nin0)
              refine own_st (V := (T94.setTop (mkF m 250 #[.val (.int p1), .val (.int p2), .val (.int p3), .val (.ref b53), .val (.int (3 : Int32)), .val (.int pp), .val (.ref d0), .val (.ref d1), .val (.ref d2), .val (.ref b63), .val (.ref b67), .val (.int (1 : Int32))] [(.ref b63), (.ref d0), (.int (1 : Int32))]))) (fun t ks => XS.aload X94.here hx rfl (hb hby at_248) rfl rfl ks) ?_
              refine own_st (V := (T94.setTop (mkF m 252 #[.val (.int p1), .val (.int p2), .val (.int p3), .val (.ref b53), .val (.int (3 : Int32)), .val (.int pp), .val (.ref d0), .val (.ref d1), .val (.ref d2), .val (.ref b63), .val (.ref b67), .val (.int (1 : Int32))] [(.int (3 : Int32)), (.ref b63), (.ref d0), (.int (1 : Int32))]))) (fun t ks => XS.iload X94.here hx rfl (hb hby at_250) rfl ks) ?_
              refine own_st (V := (T94.setTop (mkF m 253 #[.val (.int p1), .val (.int p2), .val (.int p3), .val (.ref b53), .val (.int (3 : Int32)), .val (.int pp), .val (.ref d0), .val (.ref d1), .val (.ref d2), .val (.ref b63), .val (.ref b67), .val (.int (1 : Int32))] [(.int (3 : Int32)), (.int (3 : Int32)), (.ref b63), (.ref d0), (.int (1 : Int32))]))) (fun t ks => XS.iconst X94.here hx rfl (hb hby at_252) ks) ?_
              refine own_st (V := (T94.setTop (mkF m 254 #[.val (.int p1), .val (.int p2), .val (.int p3), .val (.ref b53), .val (.int (3 : Int32)), .val (.int pp), .val (.ref d0), .val (.ref d1), .val (.ref d2), .val (.ref b63), .val (.ref b67), .val (.int (1 : Int32))] [(.int ((3 : Int32) - (3 : Int32))), (.ref b63), (.ref d0), (.int (1 : Int32))]))) (fun t ks => XS.isub X94.here hx rfl (hb hby at_253) rfl ks) ?_
              refine own_cast (g' := (mkF m 254 #[.val (.int p1), .val (.int p2), .val (.int p3), .val (.ref b53), .val (.int (3 : Int32)), .val (.int pp), .val (.ref d0), .val (.ref d1), .val (.ref d2), .val (.ref b63), .val (.ref b67), .val (.int (1 : Int32))] [(.int (0 : Int32)), (.ref b63), (.ref d0), (.int (1 : Int32))])) (by rw [show ((3 : Int32) - (3 : Int32)) = (0 : Int32) from by decide]) ?_
              refine own_aaload X94 hx hZ rfl rfl Pu (v := (.ref d0)) (by decide) (by decide) rfl (hb hby at_254) ?_
              show OGoes p.tables e below _ (T94.setTop (mkF m 255 #[.val (.int p1), .val (.int p2), .val (.int p3), .val (.ref b53), .val (.int (3 : Int32)), .val (.int pp), .val (.ref d0), .val (.ref d1), .val (.ref d2), .val (.ref b63), .val (.ref b67), .val (.int (1 : Int32))] [(.ref d0), (.ref d0), (.int (1 : Int32))]))
              refine own_st (V := (T94.setTop (mkF m 258 #[.val (.int p1), .val (.int p2), .val (.int p3), .val (.ref b53), .val (.int (3 : Int32)), .val (.int pp), .val (.ref d0), .val (.ref d1), .val (.ref d2), .val (.ref b63), .val (.ref b67), .val (.int (1 : Int32))] [(.int (1 : Int32))]))) (fun t ks => XT.acmpNo X94.here hx rfl (hb hby at_255) rfl rfl rfl (own_aa_ne_f rfl) ks) ?_
              refine own_st (V := (T94.setTop (mkF m 259 #[.val (.int p1), .val (.int p2), .val (.int p3), .val (.ref b53), .val (.int (3 : Int32)), .val (.int pp), .val (.ref d0), .val (.ref d1), .val (.ref d2), .val (.ref b63), .val (.ref b67), .val (.int (1 : Int32))] [(.int (1 : Int32)), (.int (1 : Int32))]))) (fun t ks => XS.iconst X94.here hx rfl (hb hby at_258) ks) ?_
              refine own_st (V := (T94.setTop (mkF m 263 #[.val (.int p1), .val (.int p2), .val (.int p3), .val (.ref b53), .val (.int (3 : Int32)), .val (.int pp), .val (.ref d0), .val (.ref d1), .val (.ref d2), .val (.ref b63), .val (.ref b67), .val (.int (1 : Int32))] [(.int (1 : Int32)), (.int (1 : Int32))]))) (fun t ks => XS.goto X94.here hx rfl (pc0 := 259) (pc' := 263) rfl (hb hby at_259) (by decide) (by decide) ks) ?_
              refine own_st (V := (T94.setTop (mkF m 264 #[.val (.int p1), .val (.int p2), .val (.int p3), .val (.ref b53), .val (.int (3 : Int32)), .val (.int pp), .val (.ref d0), .val (.ref d1), .val (.ref d2), .val (.ref b63), .val (.ref b67), .val (.int (1 : Int32))] [(.int ((1 : Int32) &&& (1 : Int32)))]))) (fun t ks => XS.iand X94.here hx rfl (hb hby at_263) rfl ks) ?_
              refine own_cast (g' := (mkF m 264 #[.val (.int p1), .val (.int p2), .val (.int p3), .val (.ref b53), .val (.int (3 : Int32)), .val (.int pp), .val (.ref d0), .val (.ref d1), .val (.ref d2), .val (.ref b63), .val (.ref b67), .val (.int (1 : Int32))] [(.int (1 : Int32))])) (by rw [show ((1 : Int32) &&& (1 : Int32)) = (1 : Int32) from by decide]) ?_
              refine own_st (V := (T94.setTop (mkF m 266 #[.val (.int p1), .val (.int p2), .val (.int p3), .val (.ref b53), .val (.int (3 : Int32)), .val (.int pp), .val (.ref d0), .val (.ref d1), .val (.ref d2), .val (.ref b63), .val (.ref b67), .val (.int (1 : Int32))] []))) (fun t ks => XS.istore X94.here hx rfl (hb hby at_264) rfl (l' := #[.val (.int p1), .val (.int p2), .val (.int p3), .val (.ref b53), .val (.int (3 : Int32)), .val (.int pp), .val (.ref d0), .val (.ref d1), .val (.ref d2), .val (.ref b63), .val (.ref b67), .val (.int (1 : Int32))]) rfl ks) ?_
              refine own_st (V := (T94.setTop (mkF m 268 #[.val (.int p1), .val (.int p2), .val (.int p3), .val (.ref b53), .val (.int (3 : Int32)), .val (.int pp), .val (.ref d0), .val (.ref d1), .val (.ref d2), .val (.ref b63), .val (.ref b67), .val (.int (1 : Int32))] [(.int (1 : Int32))]))) (fun t ks => XS.iload X94.here hx rfl (hb hby at_266) rfl ks) ?_
              refine own_st (V := (T94.setTop (mkF m 270 #[.val (.int p1), .val (.int p2), .val (.int p3), .val (.ref b53), .val (.int (3 : Int32)), .val (.int pp), .val (.ref d0), .val (.ref d1), .val (.ref d2), .val (.ref b63), .val (.ref b67), .val (.int (1 : Int32))] [(.ref b67), (.int (1 : Int32))]))) (fun t ks => XS.aload X94.here hx rfl (hb hby at_268) rfl rfl ks) ?_
              refine own_callV0 X94 hx hZ hown (hw _ (List.mem_of_getElem? (i := 38) rfl)) (hw _ (List.mem_of_getElem? (i := 39) rfl)) (hw _ (List.mem_of_getElem? (i := 41) rfl)) (hw _ (List.mem_of_getElem? (i := 40) rfl)) (hw _ (List.mem_of_getElem? (i := 18) rfl)) (hw _ (List.mem_of_getElem? (i := 42) rfl)) (by decide) (rmE l Z a0 hw b67 tb 0 1 (by decide) T94.heap Fm Ht.1 Ht.2.2.2.1) rfl Ems (by rw [hml]; rfl) (argsL := []) (rest := [(.int (1 : Int32))]) pd_4 rfl rfl rfl (W := 1) (Nat.le_of_eq rfl) (hb hby at_270) (by decide) (by decide) (by decide) (by decide) ?_
              intro T95 X95 e95
              show OGoes p.tables e below _ (T95.setTop (mkF m 273 #[.val (.int p1), .val (.int p2), .val (.int p3), .val (.ref b53), .val (.int (3 : Int32)), .val (.int pp), .val (.ref d0), .val (.ref d1), .val (.ref d2), .val (.ref b63), .val (.ref b67), .val (.int (1 : Int32))] [(.int (1 : Int32)), (.int (1 : Int32))]))
              refine own_st (V := (T95.setTop (mkF m 275 #[.val (.int p1), .val (.int p2), .val (.int p3), .val (.ref b53), .val (.int (3 : Int32)), .val (.int pp), .val (.ref d0), .val (.ref d1), .val (.ref d2), .val (.ref b63), .val (.ref b67), .val (.int (1 : Int32))] [(.int pp), (.int (1 : Int32)), (.int (1 : Int32))]))) (fun t ks => XS.iload X95.here hx rfl (hb hby at_273) rfl ks) ?_
              refine own_st (V := (T95.setTop (mkF m 277 #[.val (.int p1), .val (.int p2), .val (.int p3), .val (.ref b53), .val (.int (3 : Int32)), .val (.int pp), .val (.ref d0), .val (.ref d1), .val (.ref d2), .val (.ref b63), .val (.ref b67), .val (.int (1 : Int32))] [(.int (3 : Int32)), (.int pp), (.int (1 : Int32)), (.int (1 : Int32))]))) (fun t ks => XS.iload X95.here hx rfl (hb hby at_275) rfl ks) ?_
              refine own_st (V := (T95.setTop (mkF m 280 #[.val (.int p1), .val (.int p2), .val (.int p3), .val (.ref b53), .val (.int (3 : Int32)), .val (.int pp), .val (.ref d0), .val (.ref d1), .val (.ref d2), .val (.ref b63), .val (.ref b67), .val (.int (1 : Int32))] [(.int (1 : Int32)), (.int (1 : Int32))]))) (fun t ks => XS.icmpNo X95.here hx rfl (hb hby at_277) rfl (XT.ii_ne_f (by have h1 := hp0.1; have h2 := hp0.2; rw [← Int32.toInt_inj]; simp only [Int32.lt_iff_toInt_lt, show (0 : Int32).toInt = 0 from rfl, show (3 : Int32).toInt = 3 from rfl] at *; omega)) ks) ?_
              refine own_st (V := (T95.setTop (mkF m 281 #[.val (.int p1), .val (.int p2), .val (.int p3), .val (.ref b53), .val (.int (3 : Int32)), .val (.int pp), .val (.ref d0), .val (.ref d1), .val (.ref d2), .val (.ref b63), .val (.ref b67), .val (.int (1 : Int32))] [(.int (1 : Int32)), (.int (1 : Int32)), (.int (1 : Int32))]))) (fun t ks => XS.iconst X95.here hx rfl (hb hby at_280) ks) ?_
              refine own_st (V := (T95.setTop (mkF m 285 #[.val (.int p1), .val (.int p2), .val (.int p3), .val (.ref b53), .val (.int (3 : Int32)), .val (.int pp), .val (.ref d0), .val (.ref d1), .val (.ref d2), .val (.ref b63), .val (.ref b67), .val (.int (1 : Int32))] [(.int (1 : Int32)), (.int (1 : Int32)), (.int (1 : Int32))]))) (fun t ks => XS.goto X95.here hx rfl (pc0 := 281) (pc' := 285) rfl (hb hby at_281) (by decide) (by decide) ks) ?_
              refine own_st (V := (T95.setTop (mkF m 288 #[.val (.int p1), .val (.int p2), .val (.int p3), .val (.ref b53), .val (.int (3 : Int32)), .val (.int pp), .val (.ref d0), .val (.ref d1), .val (.ref d2), .val (.ref b63), .val (.ref b67), .val (.int (1 : Int32))] [(.int (1 : Int32))]))) (fun t ks => XS.icmpNo X95.here hx rfl (hb hby at_285) rfl (XT.ii_ne_f rfl) ks) ?_
              refine own_st (V := (T95.setTop (mkF m 289 #[.val (.int p1), .val (.int p2), .val (.int p3), .val (.ref b53), .val (.int (3 : Int32)), .val (.int pp), .val (.ref d0), .val (.ref d1), .val (.ref d2), .val (.ref b63), .val (.ref b67), .val (.int (1 : Int32))] [(.int (1 : Int32)), (.int (1 : Int32))]))) (fun t ks => XS.iconst X95.here hx rfl (hb hby at_288) ks) ?_
              refine own_st (V := (T95.setTop (mkF m 293 #[.val (.int p1), .val (.int p2), .val (.int p3), .val (.ref b53), .val (.int (3 : Int32)), .val (.int pp), .val (.ref d0), .val (.ref d1), .val (.ref d2), .val (.ref b63), .val (.ref b67), .val (.int (1 : Int32))] [(.int (1 : Int32)), (.int (1 : Int32))]))) (fun t ks => XS.goto X95.here hx rfl (pc0 := 289) (pc' := 293) rfl (hb hby at_289) (by decide) (by decide) ks) ?_
              refine own_st (V := (T95.setTop (mkF m 294 #[.val (.int p1), .val (.int p2), .val (.int p3), .val (.ref b53), .val (.int (3 : Int32)), .val (.int pp), .val (.ref d0), .val (.ref d1), .val (.ref d2), .val (.ref b63), .val (.ref b67), .val (.int (1 : Int32))] [(.int ((1 : Int32) &&& (1 : Int32)))]))) (fun t ks => XS.iand X95.here hx rfl (hb hby at_293) rfl ks) ?_
              refine own_cast (g' := (mkF m 294 #[.val (.int p1), .val (.int p2), .val (.int p3), .val (.ref b53), .val (.int (3 : Int32)), .val (.int pp), .val (.ref d0), .val (.ref d1), .val (.ref d2), .val (.ref b63), .val (.ref b67), .val (.int (1 : Int32))] [(.int (1 : Int32))])) (by rw [show ((1 : Int32) &&& (1 : Int32)) = (1 : Int32) from by decide]) ?_
              refine own_st (V := (T95.setTop (mkF m 296 #[.val (.int p1), .val (.int p2), .val (.int p3), .val (.ref b53), .val (.int (3 : Int32)), .val (.int pp), .val (.ref d0), .val (.ref d1), .val (.ref d2), .val (.ref b63), .val (.ref b67), .val (.int (1 : Int32))] []))) (fun t ks => XS.istore X95.here hx rfl (hb hby at_294) rfl (l' := #[.val (.int p1), .val (.int p2), .val (.int p3), .val (.ref b53), .val (.int (3 : Int32)), .val (.int pp), .val (.ref d0), .val (.ref d1), .val (.ref d2), .val (.ref b63), .val (.ref b67), .val (.int (1 : Int32))]) rfl ks) ?_
              refine own_st (V := (T95.setTop (mkF m 298 #[.val (.int p1), .val (.int p2), .val (.int p3), .val (.ref b53), .val (.int (3 : Int32)), .val (.int pp), .val (.ref d0), .val (.ref d1), .val (.ref d2), .val (.ref b63), .val (.ref b67), .val (.int (1 : Int32))] [(.int (1 : Int32))]))) (fun t ks => XS.iload X95.here hx rfl (hb hby at_296) rfl ks) ?_
              exact own_retN X95 hx hlk (by simp) hret (hb hby at_298) (by decide) (by decide) ⟨rfl, N94⟩
set_option maxRecDepth 65536 in
set_option maxHeartbeats 40000000 in
theorem own_law (l : Launch) (s : State) (args : Array Value) (hw : ∀ d ∈ tables_1, d.before args s = true) (hfit : Fit s) (hg : given_1.value args s none s [] = some true) (hn : narrow_1.value args s none s [] = some true) :
    OMet l s x code maxLocals ret room_1 args s.heap (fun v h L => v = some (.int 1) ∧ Fr s.heap.size L) := by
  obtain ⟨g0, g1⟩ := and_e hg
  obtain ⟨w0, w1, w2, rfl⟩ : ∃ w0 w1 w2 : Value, args = #[w0, w1, w2] := by
    have hs : args.size = 3 := by simpa [Cond.value, given_1] using g0
    obtain ⟨L⟩ := args
    match L, hs with
    | [w0, w1, w2], _ => exact ⟨w0, w1, w2, rfl⟩
  obtain ⟨q0, r0⟩ := and_e g1
  obtain ⟨i0, ei0⟩ := is_v q0
  obtain rfl : w0 = (.int i0) := Option.some.inj ei0
  obtain ⟨q1, r1⟩ := and_e r0
  obtain ⟨i1, ei1⟩ := is_v q1
  obtain rfl : w1 = (.int i1) := Option.some.inj ei1
  obtain ⟨i2, ei2⟩ := is_v r1
  obtain rfl : w2 = (.int i2) := Option.some.inj ei2
  obtain ⟨c1, hn⟩ := and_e hn
  obtain ⟨c2, hn⟩ := and_e hn
  obtain ⟨c3, hn⟩ := and_e hn
  obtain ⟨c4, hn⟩ := and_e hn
  obtain ⟨c5, hn⟩ := and_e hn
  obtain ⟨c6, hn⟩ := and_e hn
  obtain ⟨c7, hn⟩ := and_e hn
  obtain ⟨c8, hn⟩ := and_e hn
  obtain ⟨c9, hn⟩ := and_e hn
  obtain ⟨c10, hn⟩ := and_e hn
  obtain ⟨c11, hn⟩ := and_e hn
  obtain ⟨c12, hn⟩ := and_e hn
  obtain ⟨c13, c14⟩ := and_e hn
  obtain ⟨wN, v_wN, S_wN, E_wN⟩ := own_static c1 ((hw _ (List.mem_of_getElem? (i := 3) rfl))) ((hw _ (List.mem_of_getElem? (i := 4) rfl)))
  obtain ⟨wE, v_wE, S_wE, E_wE⟩ := own_static c2 ((hw _ (List.mem_of_getElem? (i := 3) rfl))) ((hw _ (List.mem_of_getElem? (i := 7) rfl)))
  obtain ⟨wS, v_wS, S_wS, E_wS⟩ := own_static c3 ((hw _ (List.mem_of_getElem? (i := 3) rfl))) ((hw _ (List.mem_of_getElem? (i := 9) rfl)))
  obtain ⟨wW, v_wW, S_wW, E_wW⟩ := own_static c4 ((hw _ (List.mem_of_getElem? (i := 3) rfl))) ((hw _ (List.mem_of_getElem? (i := 11) rfl)))
  have o_wW := own_fld_int v_wW c5
  have o_wE := own_fld_int v_wE c6
  have o_wN := own_fld_int v_wN c7
  have o_wS := own_fld_int v_wS c12
  obtain ⟨aD, vD⟩ := arr_v c8
  obtain ⟨cD, A, hl, hz⟩ := own_arrR vD c8 c9
  have SD := Sta.start vD (Or.inr ⟨(hw _ (List.mem_of_getElem? (i := 18) rfl)), (hw _ (List.mem_of_getElem? (i := 84) rfl))⟩)
  have AD : Arv s s.heap aD cD.cls _ 4 [.ref wN, .ref wE, .ref wS, .ref wW] .null := Arv.start hfit A hl hz (by decide) rfl ⟨own_elemR A vD v_wN c14, own_elemR A vD v_wE c11, own_elemR A vD v_wS c13, own_elemR A vD v_wW c10, trivial⟩
  exact rm0 l s _ hw i0 i1 i2 wN wE wS wW aD cD.cls s.heap ⟨Nat.le_refl _, fun _ _ q => q⟩ S_wN E_wN o_wN S_wE E_wE o_wE S_wS E_wS o_wS S_wW E_wW o_wW SD AD
set_option maxRecDepth 65536 in
set_option maxHeartbeats 40000000 in
theorem comes_1 {Post : Tables → Env → Array Value → State → Outcome → State → Prop} (hpost : ∀ tb e args s v u, (limb_1_1.after args s (.returned v) u = true ∧ limb_1_2.after args s (.returned v) u = true ∧ True) → FrameEnd s (.returned v) u (Jvm.fieldLocs frame_1_writes args s ++ Jvm.arrayLocs frame_1_arrays args s ++ Jvm.staticLocs frame_1_statics s) 24 2176 → Post tb e args s (.returned v) u) :
    ArmFor flags0 classFile x code maxLocals ret World_1 tables_1 room_1 Calls_1 rest_1 Pre_1 Post := by
  intro l hfl _ _ p e ha hc hk s m args below hf hA hF happ hP
  obtain ⟨hcalls, hrest, hpre⟩ := hP
  obtain ⟨-, -, -, hnamed, -, -, -, hat⟩ := (Spec.applies_iff hf).mp happ
  obtain ⟨hg, hn⟩ := and_e (Cond.before_iff.mp (show (Jvm.Cond.and given_1 narrow_1).before args s = true from hpre))
  have hw := fun d (hd : d ∈ tables_1) => atoms_spec (ws := Jvm.Cond.code x code maxLocals ret :: tables_1) hat d (List.mem_cons_of_mem _ hd)
  have hfit : Fit s := fun {y c} hc i hi => by
    obtain ⟨ha, rfl⟩ := Array.getElem?_eq_some_iff.mp hc
    have q := List.all_eq_true.mp ((Array.all_eq_true_iff_forall_mem.mp hF) _ (Array.getElem_mem ha)) i (List.mem_range.mpr hi)
    simpa [Array.getElem?_eq_getElem hi] using q
  obtain ⟨n, o, h1, h2, h3, _, L, rfl, ⟨rfl, N⟩, hq⟩ := own_law l s args hw hfit hg hn tables_1 p e ha hc hk s m _ below hf ((Spec.applies_iff_loose hf).mp happ).1 ⟨rfl, State.Warmed39.refl s, rfl⟩ trivial
  refine ⟨n, _, h1, h2, h3, hpost _ _ _ _ _ _ ⟨Cond.after_iff.mpr rfl, Cond.after_iff.mpr (eq_i res_at (Term.int_eval (1)) rfl), trivial⟩ ⟨hq.1, hq.2.1, (hq.2.2.sift fun y hy => Or.inr (N y hy)).mono (by decide) (by decide)⟩⟩
theorem main_1_1 : Claimed_1_1 := comes_1 fun _ _ _ _ _ _ h hF => ⟨h.1, hF⟩
theorem main_1_2 : Claimed_1_2 := comes_1 fun _ _ _ _ _ _ h hF => ⟨h.2.1, hF⟩
end Jvm.Pilot.@@N@@
namespace Jvm.Pilot.@@N@@
open Jvm Jvm.ClassFile Sem Op Lib Jvm.Free Jvm.Stand Jvm.Pilot.@@N@@.Jvm.D
/-! MADE BY PROGRAM (witnessworld.py) out of the Statement's table words and the real class files: 18 classes; the members and pool entries that the words name. The judged class is class 1, her method 1. -/
namespace start1
open Jvm.ClassFile
def u (s : String) : CpInfo := .utf8 (stringToUtf16 s)
/-- a pool by its gaps: so many unusable entries, then the entry; so many at the end -/
def gap : Nat → List CpInfo → List CpInfo
  | 0, r => r
  | n + 1, r => .unusable :: gap n r
def poolList (es : List (Nat × CpInfo)) (last : Nat) : List CpInfo := es.foldr (fun e r => gap e.1 (e.2 :: r)) (gap last [])
def pool (es : List (Nat × CpInfo)) (last : Nat) : Array CpInfo := ⟨poolList es last⟩
def fileOf (pool : Array CpInfo) (this : Nat) (attrs : Array Attribute := #[]) (ms : Array MethodInfo := #[]) (fl : Nat := 33) (sup : Nat := 0) (ifs : Array Nat := #[]) (fds : Array FieldInfo := #[]) : ClassFile where
  minorVersion := 0
  majorVersion := 65
  constantPool := pool
  accessFlags := fl
  thisClass := this
  superClass := sup
  interfaces := ifs
  fields := fds
  methods := ms
  attributes := attrs
def plain (name : String) (sup : Option ClassId) : Class where
  name := name
  kind := .ordinary
  loader := none
  accessFlags := 33
  super := sup
  interfaces := #[]
  cf := none
  fields := #[]
  methods := #[]
  instanceTypes := #[]
  staticTypes := #[]
  resolved := #[]
  callSites := []
  init := .initialized
  statics := none
  mirror := none

def pool0 : Array CpInfo := pool [(5, u "<init>"), (0, u "()V"), (1, .class_ 10), (1, u "java/lang/Object")] 113

def k0c0 : Code := { maxStack := 0, maxLocals := 1, code := object_method_1_code, exceptionTable := #[], attributes := #[] }
def k0m0 : Method := { name := "<init>", desc := "()V", sig := { parameters := [], returnType := none }, accessFlags := 1, code := some k0c0 }
/-- java/lang/Object -/
def k0 : Class := { plain "java/lang/Object" none with
  accessFlags := 33
  interfaces := #[]
  cf := some (fileOf pool0 8 #[] #[{ accessFlags := 1, nameIndex := 5, descriptorIndex := 6, attributes := #[] }] 33 0 #[] #[])
  fields := #[]
  methods := #[k0m0]
  instanceTypes := #[]
  staticTypes := #[]
  resolved := Array.replicate 124 none
  statics := none }

def pool1 : Array CpInfo := pool [(2, .class_ 4), (0, .nameAndType 5 6), (0, u "java/lang/Object"), (0, u "<init>"), (0, u "()V"), (0, .class_ 8), (0, u "com/example/hedgerow/hedgerow/maze/Direction"), (0, .fieldref 7 10), (0, .nameAndType 11 12), (0, u "NORTH"), (0, u "Lcom/example/hedgerow/hedgerow/maze/Direction;"), (0, .fieldref 7 14), (0, .nameAndType 15 12), (0, u "EAST"), (0, .fieldref 7 17), (0, .nameAndType 18 12), (0, u "SOUTH"), (0, .fieldref 7 20), (0, .nameAndType 21 12), (0, u "WEST"), (0, .methodref 23 24), (0, .class_ 25), (0, .nameAndType 26 27), (0, u "java/lang/Math"), (0, u "min"), (0, u "(II)I"), (0, .class_ 29), (0, u "com/example/hedgerow/hedgerow/maze/MoveStack"), (0, .methodref 28 3), (0, .methodref 28 32), (0, .nameAndType 33 34), (0, u "isEmpty"), (0, u "()Z"), (0, .methodref 28 36), (0, .nameAndType 37 38), (0, u "push"), (0, u "(Lcom/example/hedgerow/hedgerow/maze/Direction;)V"), (0, .methodref 28 40), (0, .nameAndType 41 42), (0, u "pop"), (0, u "()Lcom/example/hedgerow/hedgerow/maze/Direction;"), (0, .class_ 44), (0, u "com/example/hedgerow/hedgerow/maze/MoveStackIsEmptyPinLaw"), (2, u "law"), (0, u "(III)Z")] 5

def k1m0 : Method := { name := "<init>", desc := "()V", sig := { parameters := [], returnType := none }, accessFlags := 1, code := none }
def k1c1 : Code := { maxStack := 5, maxLocals := 12, code := code, exceptionTable := #[], attributes := #[] }
def k1m1 : Method := { name := "law", desc := "(III)Z", sig := { parameters := [.int, .int, .int], returnType := some .boolean }, accessFlags := 9, code := some k1c1 }
/-- com/example/hedgerow/hedgerow/maze/MoveStackIsEmptyPinLaw -/
def k1 : Class := { plain "com/example/hedgerow/hedgerow/maze/MoveStackIsEmptyPinLaw" (some 0) with
  accessFlags := 49
  interfaces := #[]
  cf := some (fileOf pool1 43 #[] #[{ accessFlags := 1, nameIndex := 5, descriptorIndex := 6, attributes := #[] }, { accessFlags := 9, nameIndex := 47, descriptorIndex := 48, attributes := #[] }] 49 2 #[] #[])
  fields := #[]
  methods := #[k1m0, k1m1]
  instanceTypes := #[]
  staticTypes := #[]
  resolved := Array.replicate 54 none
  statics := none }

def pool2 : Array CpInfo := pool [(1, .class_ 2), (0, u "java/lang/constant/Constable"), (0, .class_ 4), (0, u "java/lang/Object")] 6

/-- java/lang/constant/Constable -/
def k2 : Class := { plain "java/lang/constant/Constable" (some 0) with
  accessFlags := 1537
  interfaces := #[]
  cf := some (fileOf pool2 1 #[] #[] 1537 3 #[] #[])
  fields := #[]
  methods := #[]
  instanceTypes := #[]
  staticTypes := #[]
  resolved := Array.replicate 11 none
  statics := none }

def pool3 : Array CpInfo := pool [(1, .class_ 2), (0, u "java/lang/Comparable"), (0, .class_ 4), (0, u "java/lang/Object")] 7

/-- java/lang/Comparable -/
def k3 : Class := { plain "java/lang/Comparable" (some 0) with
  accessFlags := 1537
  interfaces := #[]
  cf := some (fileOf pool3 1 #[] #[] 1537 3 #[] #[])
  fields := #[]
  methods := #[]
  instanceTypes := #[]
  staticTypes := #[]
  resolved := Array.replicate 12 none
  statics := none }

def pool4 : Array CpInfo := pool [(1, .class_ 2), (0, u "java/io/Serializable"), (0, .class_ 4), (0, u "java/lang/Object")] 2

/-- java/io/Serializable -/
def k4 : Class := { plain "java/io/Serializable" (some 0) with
  accessFlags := 1537
  interfaces := #[]
  cf := some (fileOf pool4 1 #[] #[] 1537 3 #[] #[])
  fields := #[]
  methods := #[]
  instanceTypes := #[]
  staticTypes := #[]
  resolved := Array.replicate 7 none
  statics := none }

def pool5 : Array CpInfo := pool [(2, .class_ 4), (1, u "java/lang/Enum"), (0, u "name"), (0, u "Ljava/lang/String;"), (0, .fieldref 2 8), (0, .nameAndType 9 10), (0, u "ordinal"), (0, u "I"), (1, .class_ 14), (1, u "java/lang/Object"), (4, u "hash"), (86, .class_ 108), (1, u "java/lang/Enum$EnumDesc"), (2, .class_ 112), (0, u "java/lang/constant/Constable"), (0, .class_ 114), (0, u "java/lang/Comparable"), (0, .class_ 116), (0, u "java/io/Serializable"), (9, u "()I")] 77

def k5c0 : Code := { maxStack := 1, maxLocals := 1, code := jdk_37_method_2_code, exceptionTable := #[], attributes := #[] }
def k5m0 : Method := { name := "ordinal", desc := "()I", sig := { parameters := [], returnType := some .int }, accessFlags := 17, code := some k5c0 }
/-- java/lang/Enum -/
def k5 : Class := { plain "java/lang/Enum" (some 0) with
  accessFlags := 1057
  interfaces := #[2, 3, 4]
  cf := some (fileOf pool5 2 #[.nestMembers #[106]] #[{ accessFlags := 17, nameIndex := 9, descriptorIndex := 126, attributes := #[] }] 1057 12 #[111, 113, 115] #[{ accessFlags := 18, nameIndex := 5, descriptorIndex := 6, attributes := #[] }, { accessFlags := 18, nameIndex := 9, descriptorIndex := 10, attributes := #[] }, { accessFlags := 2, nameIndex := 19, descriptorIndex := 10, attributes := #[] }])
  fields := #[{ name := "name", type := (.object "java/lang/String"), accessFlags := 18, slot := 0, constantValue := 0 }, { name := "ordinal", type := .int, accessFlags := 18, slot := 1, constantValue := 0 }, { name := "hash", type := .int, accessFlags := 2, slot := 2, constantValue := 0 }]
  methods := #[k5m0]
  instanceTypes := #[(.object "java/lang/String"), .int, .int]
  staticTypes := #[]
  resolved := Array.replicate 204 none
  statics := none }

def pool6 : Array CpInfo := pool [(1, .class_ 2), (0, u "com/example/hedgerow/hedgerow/maze/Direction"), (2, u "NORTH"), (0, u "Lcom/example/hedgerow/hedgerow/maze/Direction;"), (2, u "EAST"), (2, u "SOUTH"), (2, u "WEST"), (2, u "$VALUES"), (0, u "[Lcom/example/hedgerow/hedgerow/maze/Direction;"), (6, .class_ 28), (1, u "java/lang/Enum"), (8, u "dx"), (0, u "I"), (2, u "dy"), (2, u "ALL")] 31

/-- com/example/hedgerow/hedgerow/maze/Direction -/
def k6 : Class := { plain "com/example/hedgerow/hedgerow/maze/Direction" (some 5) with
  accessFlags := 16433
  interfaces := #[]
  cf := some (fileOf pool6 1 #[] #[] 16433 26 #[] #[{ accessFlags := 16409, nameIndex := 5, descriptorIndex := 6, attributes := #[] }, { accessFlags := 16409, nameIndex := 9, descriptorIndex := 6, attributes := #[] }, { accessFlags := 16409, nameIndex := 12, descriptorIndex := 6, attributes := #[] }, { accessFlags := 16409, nameIndex := 15, descriptorIndex := 6, attributes := #[] }, { accessFlags := 26, nameIndex := 44, descriptorIndex := 19, attributes := #[] }, { accessFlags := 18, nameIndex := 37, descriptorIndex := 38, attributes := #[] }, { accessFlags := 18, nameIndex := 41, descriptorIndex := 38, attributes := #[] }, { accessFlags := 4122, nameIndex := 18, descriptorIndex := 19, attributes := #[] }])
  fields := #[{ name := "NORTH", type := (.object "com/example/hedgerow/hedgerow/maze/Direction"), accessFlags := 16409, slot := 0, constantValue := 0 }, { name := "EAST", type := (.object "com/example/hedgerow/hedgerow/maze/Direction"), accessFlags := 16409, slot := 1, constantValue := 0 }, { name := "SOUTH", type := (.object "com/example/hedgerow/hedgerow/maze/Direction"), accessFlags := 16409, slot := 2, constantValue := 0 }, { name := "WEST", type := (.object "com/example/hedgerow/hedgerow/maze/Direction"), accessFlags := 16409, slot := 3, constantValue := 0 }, { name := "ALL", type := (.array (.object "com/example/hedgerow/hedgerow/maze/Direction")), accessFlags := 26, slot := 4, constantValue := 0 }, { name := "dx", type := .int, accessFlags := 18, slot := 3, constantValue := 0 }, { name := "dy", type := .int, accessFlags := 18, slot := 4, constantValue := 0 }, { name := "$VALUES", type := (.array (.object "com/example/hedgerow/hedgerow/maze/Direction")), accessFlags := 4122, slot := 5, constantValue := 0 }]
  methods := #[]
  instanceTypes := #[(.object "java/lang/String"), .int, .int, .int, .int]
  staticTypes := #[(.object "com/example/hedgerow/hedgerow/maze/Direction"), (.object "com/example/hedgerow/hedgerow/maze/Direction"), (.object "com/example/hedgerow/hedgerow/maze/Direction"), (.object "com/example/hedgerow/hedgerow/maze/Direction"), (.array (.object "com/example/hedgerow/hedgerow/maze/Direction")), (.array (.object "com/example/hedgerow/hedgerow/maze/Direction"))]
  resolved := Array.replicate 76 none
  statics := some 0 }

def pool7 : Array CpInfo := pool [(1, .class_ 2), (0, u "java/lang/Math"), (1, .class_ 6), (1, u "java/lang/Object"), (0, u "<init>"), (0, u "()V"), (89, .class_ 100), (1, u "java/lang/Math$RandomNumberGeneratorHolder"), (71, u "negativeZeroFloatBits"), (0, u "J"), (2, u "negativeZeroDoubleBits"), (24, u "min"), (43, u "$assertionsDisabled"), (0, u "Z"), (88, u "(II)I"), (2, u "twoToTheDoubleScaleDown"), (0, u "D"), (4, u "twoToTheDoubleScaleUp"), (9, u "E"), (3, u "PI"), (2, u "TAU"), (2, u "DEGREES_TO_RADIANS"), (0, u "RADIANS_TO_DEGREES")] 94

def k7m0 : Method := { name := "<init>", desc := "()V", sig := { parameters := [], returnType := none }, accessFlags := 2, code := none }
def k7c1 : Code := { maxStack := 2, maxLocals := 2, code := jdk_29_method_69_code, exceptionTable := #[], attributes := #[] }
def k7m1 : Method := { name := "min", desc := "(II)I", sig := { parameters := [.int, .int], returnType := some .int }, accessFlags := 9, code := some k7c1 }
/-- java/lang/Math -/
def k7 : Class := { plain "java/lang/Math" (some 0) with
  accessFlags := 49
  interfaces := #[]
  cf := some (fileOf pool7 1 #[.nestMembers #[98]] #[{ accessFlags := 2, nameIndex := 7, descriptorIndex := 8, attributes := #[] }, { accessFlags := 9, nameIndex := 201, descriptorIndex := 335, attributes := #[] }] 49 4 #[] #[{ accessFlags := 25, nameIndex := 354, descriptorIndex := 339, attributes := #[] }, { accessFlags := 25, nameIndex := 358, descriptorIndex := 339, attributes := #[] }, { accessFlags := 25, nameIndex := 361, descriptorIndex := 339, attributes := #[] }, { accessFlags := 26, nameIndex := 364, descriptorIndex := 339, attributes := #[] }, { accessFlags := 26, nameIndex := 365, descriptorIndex := 339, attributes := #[] }, { accessFlags := 26, nameIndex := 172, descriptorIndex := 173, attributes := #[] }, { accessFlags := 26, nameIndex := 176, descriptorIndex := 173, attributes := #[] }, { accessFlags := 8, nameIndex := 344, descriptorIndex := 339, attributes := #[] }, { accessFlags := 8, nameIndex := 338, descriptorIndex := 339, attributes := #[] }, { accessFlags := 4120, nameIndex := 245, descriptorIndex := 246, attributes := #[] }])
  fields := #[{ name := "E", type := .double, accessFlags := 25, slot := 0, constantValue := 0 }, { name := "PI", type := .double, accessFlags := 25, slot := 1, constantValue := 0 }, { name := "TAU", type := .double, accessFlags := 25, slot := 2, constantValue := 0 }, { name := "DEGREES_TO_RADIANS", type := .double, accessFlags := 26, slot := 3, constantValue := 0 }, { name := "RADIANS_TO_DEGREES", type := .double, accessFlags := 26, slot := 4, constantValue := 0 }, { name := "negativeZeroFloatBits", type := .long, accessFlags := 26, slot := 5, constantValue := 0 }, { name := "negativeZeroDoubleBits", type := .long, accessFlags := 26, slot := 6, constantValue := 0 }, { name := "twoToTheDoubleScaleUp", type := .double, accessFlags := 8, slot := 7, constantValue := 0 }, { name := "twoToTheDoubleScaleDown", type := .double, accessFlags := 8, slot := 8, constantValue := 0 }, { name := "$assertionsDisabled", type := .boolean, accessFlags := 4120, slot := 9, constantValue := 0 }]
  methods := #[k7m0, k7m1]
  instanceTypes := #[]
  staticTypes := #[.double, .double, .double, .double, .double, .long, .long, .double, .double, .boolean]
  resolved := Array.replicate 460 none
  statics := none }

def pool8 : Array CpInfo := pool [(1, .methodref 2 3), (0, .class_ 4), (0, .nameAndType 5 6), (0, u "java/lang/Object"), (0, u "<init>"), (0, u "()V"), (0, .class_ 8), (0, u "com/example/hedgerow/hedgerow/maze/TwoBitList"), (0, .methodref 7 3), (0, .fieldref 11 12), (0, .class_ 13), (0, .nameAndType 14 15), (0, u "com/example/hedgerow/hedgerow/maze/MoveStack"), (0, u "moves"), (0, u "Lcom/example/hedgerow/hedgerow/maze/TwoBitList;"), (0, .methodref 17 18), (0, .class_ 19), (0, .nameAndType 20 21), (0, u "com/example/hedgerow/hedgerow/maze/Direction"), (0, u "ordinal"), (0, u "()I"), (0, .methodref 7 23), (0, .nameAndType 24 25), (0, u "add"), (0, u "(I)V"), (0, .methodref 11 27), (0, .nameAndType 28 29), (0, u "isEmpty"), (0, u "()Z"), (7, .fieldref 11 38), (0, .nameAndType 39 40), (0, u "DIRECTIONS"), (0, u "[Lcom/example/hedgerow/hedgerow/maze/Direction;"), (0, .methodref 7 42), (0, .nameAndType 43 21), (0, u "removeLast"), (0, .methodref 7 45), (0, .nameAndType 46 47), (0, u "size"), (0, u "()J"), (6, u "push"), (0, u "(Lcom/example/hedgerow/hedgerow/maze/Direction;)V"), (0, u "pop"), (0, u "()Lcom/example/hedgerow/hedgerow/maze/Direction;")] 4

def k8c0 : Code := { maxStack := 3, maxLocals := 1, code := prog_24_method_1_code, exceptionTable := #[], attributes := #[] }
def k8m0 : Method := { name := "<init>", desc := "()V", sig := { parameters := [], returnType := none }, accessFlags := 1, code := some k8c0 }
def k8c1 : Code := { maxStack := 2, maxLocals := 2, code := prog_24_method_2_code, exceptionTable := #[], attributes := #[] }
def k8m1 : Method := { name := "push", desc := "(Lcom/example/hedgerow/hedgerow/maze/Direction;)V", sig := { parameters := [(.object "com/example/hedgerow/hedgerow/maze/Direction")], returnType := none }, accessFlags := 1, code := some k8c1 }
def k8c2 : Code := { maxStack := 3, maxLocals := 1, code := prog_24_method_3_code, exceptionTable := #[], attributes := #[] }
def k8m2 : Method := { name := "pop", desc := "()Lcom/example/hedgerow/hedgerow/maze/Direction;", sig := { parameters := [], returnType := some (.object "com/example/hedgerow/hedgerow/maze/Direction") }, accessFlags := 1, code := some k8c2 }
def k8c3 : Code := { maxStack := 4, maxLocals := 1, code := prog_24_method_4_code, exceptionTable := #[], attributes := #[] }
def k8m3 : Method := { name := "isEmpty", desc := "()Z", sig := { parameters := [], returnType := some .boolean }, accessFlags := 1, code := some k8c3 }
/-- com/example/hedgerow/hedgerow/maze/MoveStack -/
def k8 : Class := { plain "com/example/hedgerow/hedgerow/maze/MoveStack" (some 0) with
  accessFlags := 49
  interfaces := #[]
  cf := some (fileOf pool8 11 #[] #[{ accessFlags := 1, nameIndex := 5, descriptorIndex := 6, attributes := #[] }, { accessFlags := 1, nameIndex := 54, descriptorIndex := 55, attributes := #[] }, { accessFlags := 1, nameIndex := 56, descriptorIndex := 57, attributes := #[] }, { accessFlags := 1, nameIndex := 28, descriptorIndex := 29, attributes := #[] }] 49 2 #[] #[{ accessFlags := 26, nameIndex := 39, descriptorIndex := 40, attributes := #[] }, { accessFlags := 18, nameIndex := 14, descriptorIndex := 15, attributes := #[] }])
  fields := #[{ name := "DIRECTIONS", type := (.array (.object "com/example/hedgerow/hedgerow/maze/Direction")), accessFlags := 26, slot := 0, constantValue := 0 }, { name := "moves", type := (.object "com/example/hedgerow/hedgerow/maze/TwoBitList"), accessFlags := 18, slot := 0, constantValue := 0 }]
  methods := #[k8m0, k8m1, k8m2, k8m3]
  instanceTypes := #[(.object "com/example/hedgerow/hedgerow/maze/TwoBitList")]
  staticTypes := #[(.array (.object "com/example/hedgerow/hedgerow/maze/Direction"))]
  resolved := Array.replicate 62 none
  statics := some 1 }

def pool9 : Array CpInfo := pool [(3, .class_ 4), (0, u "com/example/hedgerow/hedgerow/maze/TwoBitList"), (0, .methodref 6 7), (0, .class_ 8), (0, .nameAndType 9 10), (0, u "java/lang/Object"), (0, u "<init>"), (0, u "()V"), (0, .class_ 12), (0, u "[J"), (0, .fieldref 3 14), (0, .nameAndType 15 16), (0, u "blocks"), (0, u "[[J"), (9, .fieldref 3 27), (0, .nameAndType 28 29), (0, u "size"), (0, u "J"), (0, .long 32768), (1, .fieldref 3 33), (0, .nameAndType 34 35), (0, u "blockCount"), (0, u "I"), (7, .long 32), (1, .long 3), (1, .long 18446744073709551615), (20, u "PER_WORD"), (2, u "BLOCK_WORDS"), (1, u "PER_BLOCK"), (3, u "add"), (0, u "(I)V"), (1, u "removeLast"), (0, u "()I"), (0, u "()J")] 19

def k9c0 : Code := { maxStack := 2, maxLocals := 1, code := prog_26_method_1_code, exceptionTable := #[], attributes := #[] }
def k9m0 : Method := { name := "<init>", desc := "()V", sig := { parameters := [], returnType := none }, accessFlags := 1, code := some k9c0 }
def k9c1 : Code := { maxStack := 8, maxLocals := 6, code := prog_26_method_2_code, exceptionTable := #[], attributes := #[] }
def k9m1 : Method := { name := "add", desc := "(I)V", sig := { parameters := [.int], returnType := none }, accessFlags := 1, code := some k9c1 }
def k9c2 : Code := { maxStack := 5, maxLocals := 3, code := prog_26_method_3_code, exceptionTable := #[], attributes := #[] }
def k9m2 : Method := { name := "removeLast", desc := "()I", sig := { parameters := [], returnType := some .int }, accessFlags := 1, code := some k9c2 }
def k9c3 : Code := { maxStack := 2, maxLocals := 1, code := prog_26_method_4_code, exceptionTable := #[], attributes := #[] }
def k9m3 : Method := { name := "size", desc := "()J", sig := { parameters := [], returnType := some .long }, accessFlags := 1, code := some k9c3 }
/-- com/example/hedgerow/hedgerow/maze/TwoBitList -/
def k9 : Class := { plain "com/example/hedgerow/hedgerow/maze/TwoBitList" (some 0) with
  accessFlags := 49
  interfaces := #[]
  cf := some (fileOf pool9 3 #[] #[{ accessFlags := 1, nameIndex := 9, descriptorIndex := 10, attributes := #[] }, { accessFlags := 1, nameIndex := 77, descriptorIndex := 78, attributes := #[] }, { accessFlags := 1, nameIndex := 80, descriptorIndex := 81, attributes := #[] }, { accessFlags := 1, nameIndex := 28, descriptorIndex := 82, attributes := #[] }] 49 6 #[] #[{ accessFlags := 26, nameIndex := 68, descriptorIndex := 35, attributes := #[] }, { accessFlags := 26, nameIndex := 71, descriptorIndex := 35, attributes := #[] }, { accessFlags := 26, nameIndex := 73, descriptorIndex := 35, attributes := #[] }, { accessFlags := 2, nameIndex := 15, descriptorIndex := 16, attributes := #[] }, { accessFlags := 2, nameIndex := 34, descriptorIndex := 35, attributes := #[] }, { accessFlags := 2, nameIndex := 28, descriptorIndex := 29, attributes := #[] }])
  fields := #[{ name := "PER_WORD", type := .int, accessFlags := 26, slot := 0, constantValue := 0 }, { name := "BLOCK_WORDS", type := .int, accessFlags := 26, slot := 1, constantValue := 0 }, { name := "PER_BLOCK", type := .int, accessFlags := 26, slot := 2, constantValue := 0 }, { name := "blocks", type := (.array (.array .long)), accessFlags := 2, slot := 0, constantValue := 0 }, { name := "blockCount", type := .int, accessFlags := 2, slot := 1, constantValue := 0 }, { name := "size", type := .long, accessFlags := 2, slot := 2, constantValue := 0 }]
  methods := #[k9m0, k9m1, k9m2, k9m3]
  instanceTypes := #[(.array (.array .long)), .int, .long]
  staticTypes := #[.int, .int, .int]
  resolved := Array.replicate 102 none
  statics := none }

def pool10 : Array CpInfo := pool [(1, u "java/lang/Cloneable"), (0, .class_ 1), (0, u "java/lang/Object"), (0, .class_ 3)] 3

/-- java/lang/Cloneable -/
def k10 : Class := { plain "java/lang/Cloneable" (some 0) with
  accessFlags := 1537
  interfaces := #[]
  cf := some (fileOf pool10 2 #[] #[] 1537 4 #[] #[])
  fields := #[]
  methods := #[]
  instanceTypes := #[]
  staticTypes := #[]
  resolved := Array.replicate 8 none
  statics := none }

/-- the primitive byte -/
def k11 : Class := { plain "byte" none with kind := .primitive 'B', accessFlags := 0x411 }
/-- [B -/
def k12 : Class := { plain "[B" (some 0) with kind := .array 11 .byte, interfaces := #[10, 4], accessFlags := 1041 }

/-- the primitive int -/
def k13 : Class := { plain "int" none with kind := .primitive 'I', accessFlags := 0x411 }
/-- [I -/
def k14 : Class := { plain "[I" (some 0) with kind := .array 13 .int, interfaces := #[10, 4], accessFlags := 1041 }

/-- the primitive long -/
def k15 : Class := { plain "long" none with kind := .primitive 'J', accessFlags := 0x411 }
/-- [J -/
def k16 : Class := { plain "[J" (some 0) with kind := .array 15 .long, interfaces := #[10, 4], accessFlags := 1041 }

/-- [Lcom/example/hedgerow/hedgerow/maze/Direction; -/
def k17 : Class := { plain "[Lcom/example/hedgerow/hedgerow/maze/Direction;" (some 0) with kind := .array 6 (.object "com/example/hedgerow/hedgerow/maze/Direction"), interfaces := #[10, 4], accessFlags := 1041 }

def k18 : Class := { plain "[[J" (some 0) with kind := .array 16 (.array .long), interfaces := #[10, 4], accessFlags := 1041 }
def heap : Heap := #[{ cls := 6, slots := #[.ref 3, .ref 4, .ref 5, .ref 6, .null, .null], vm := .statics 6 },
  { cls := 8, slots := #[.ref 2], vm := .statics 8 },
  { cls := 17, slots := #[.ref 3, .ref 4, .ref 5, .ref 6], vm := .none },
  { cls := 6, slots := #[.null, .int 0, .int 0, .int 0, .int 0], vm := .none },
  { cls := 6, slots := #[.null, .int 1, .int 0, .int 0, .int 0], vm := .none },
  { cls := 6, slots := #[.null, .int 2, .int 0, .int 0, .int 0], vm := .none },
  { cls := 6, slots := #[.null, .int 3, .int 0, .int 0, .int 0], vm := .none }]
def classes : Array Class := #[k0, k1, k2, k3, k4, k5, k6, k7, k8, k9, k10, k11, k12, k13, k14, k15, k16, k17, k18]
def interned : List (Array UInt16 × Addr) := []
def slotsUsed : Nat := 31
def theMethod : MethodId := ⟨1, 1⟩
def args0 : Array Value := #[.int 3, .int 3, .int 1]
def aboutOver (below : List Frame) : State where
  vm := { classes := classes, interned := interned.toArray }
  heap := heap
  slotsUsed := slotsUsed
  threads := #[{ frames := .invoking theMethod args0 :: below }]
def below0 : List Frame := [.native { method := ⟨0, 0⟩, args := #[] }]
def about1 : State := aboutOver below0
def p0 : Program := .bare "" "" ""
def e0 : Env := launch0.env 0 0 0
theorem w_frames : about1.frames = Frame.invoking theMethod args0 :: below0 := rfl
set_option maxRecDepth 65536 in
theorem w_args : argsFit about1.vm theMethod args0 = true := by decide +kernel
set_option maxRecDepth 65536 in
theorem w_heap : heapFits about1 = true := by decide +kernel
set_option maxRecDepth 65536 in
theorem w_runnable : about1.curStatus? = some .runnable := by decide +kernel
set_option maxRecDepth 65536 in
theorem w_alone : about1.alone = true := by decide +kernel
set_option maxRecDepth 65536 in
theorem w_named : about1.methodNamed? x = some theMethod := by decide +kernel
set_option maxRecDepth 65536 in
theorem w_hears : about1.hears theMethod below0 = true := by decide +kernel
set_option maxRecDepth 65536 in
theorem w_ripe : about1.ripe theMethod args0 below0 = true := by decide +kernel
theorem w_running : about1.status = .running := rfl
set_option maxRecDepth 65536 in
theorem w_room : about1.hasRoom e0.platform room_1 = true :=
  launch0.hasRoom_least _ room_1 (by decide +kernel) (by decide +kernel) (by decide +kernel) (by decide +kernel) (by decide +kernel) (by decide +kernel)
theorem allAtoms_all (ts : List Jvm.Cond) (a : Array Jvm.Value) (st : Jvm.State) : (allAtoms ts).before a st = ts.all (fun c => c.before a st) := by
  induction ts with
  | nil => rfl
  | cons c t ih =>
    show (Jvm.Cond.and c (allAtoms t)).before a st = _
    rw [Jvm.Cond.before_and, ih, List.all_cons]
def words1 : List Jvm.Cond := Jvm.Cond.code x code maxLocals ret :: tables_1
/-- a 'code' word, met by the world's own term for the bytes: nothing is compared byte by byte -/
theorem code_word {y : MethodName} {bytes : ByteArray} {mx : Nat} {rt : Option FieldType} {a : Array Value} {s : State} {m : MethodId} {meth : Method} {c : Code} (h1 : s.methodNamed? y = some m) (h2 : s.vm.method? m = some meth) (h3 : meth.code = some c) (h4 : c.code = bytes)
    (h5 : (c.maxLocals == mx && c.exceptionTable.isEmpty && decide (c.maxStack ≤ mostOperands) && decide (meth.sig.returnType = rt) && !meth.locks && decide (parseMethodDescriptor y.desc = some meth.sig)) = true) : (Jvm.Cond.code y bytes mx rt).before a s = true := by
  simp only [Bool.and_eq_true, beq_iff_eq, Bool.not_eq_true', decide_eq_true_eq] at h5
  obtain ⟨⟨⟨⟨⟨g1, g2⟩, g3⟩, g4⟩, g5⟩, g6⟩ := h5
  simp [Cond.before, Cond.holds, Cond.value, h1, h2, h3, h4, g1, g2, g3, g4, g5, g6]
def isCode : Jvm.Cond → Bool
  | .code _ _ _ _ => true
  | _ => false
theorem all_split {L : List Jvm.Cond} {P : Jvm.Cond → Bool} (h1 : L.all (fun c => isCode c || P c) = true) (h2 : ∀ c ∈ L.filter isCode, P c = true) : L.all P = true := by
  refine List.all_eq_true.mpr fun c hc => ?_
  have h := List.all_eq_true.mp h1 c hc
  rcases Bool.eq_false_or_eq_true (isCode c) with hi | hi
  · exact h2 c (List.mem_filter.mpr ⟨hc, hi⟩)
  · simpa [hi] using h
set_option maxRecDepth 65536 in
theorem w_c0 : (Jvm.Cond.code x code maxLocals ret).before args0 about1 = true := code_word (m := ⟨1, 1⟩) (meth := k1m1) (c := k1c1) (by decide +kernel) rfl rfl rfl (by decide +kernel)
set_option maxRecDepth 65536 in
theorem w_c1 : (Jvm.Cond.code ({ cls := "java/lang/Math", name := "min", desc := "(II)I" } : Jvm.MethodName) jdk_29_method_69_code (2 : Nat) (Option.some Jvm.ClassFile.FieldType.int)).before args0 about1 = true := code_word (m := ⟨7, 1⟩) (meth := k7m1) (c := k7c1) (by decide +kernel) rfl rfl rfl (by decide +kernel)
set_option maxRecDepth 65536 in
theorem w_c2 : (Jvm.Cond.code ({ cls := "com/example/hedgerow/hedgerow/maze/MoveStack", name := "<init>", desc := "()V" } : Jvm.MethodName) prog_24_method_1_code (1 : Nat) (Option.none : Option Jvm.ClassFile.FieldType)).before args0 about1 = true := code_word (m := ⟨8, 0⟩) (meth := k8m0) (c := k8c0) (by decide +kernel) rfl rfl rfl (by decide +kernel)
set_option maxRecDepth 65536 in
theorem w_c3 : (Jvm.Cond.code ({ cls := "java/lang/Object", name := "<init>", desc := "()V" } : Jvm.MethodName) object_method_1_code (1 : Nat) (Option.none : Option Jvm.ClassFile.FieldType)).before args0 about1 = true := code_word (m := ⟨0, 0⟩) (meth := k0m0) (c := k0c0) (by decide +kernel) rfl rfl rfl (by decide +kernel)
set_option maxRecDepth 65536 in
theorem w_c4 : (Jvm.Cond.code ({ cls := "com/example/hedgerow/hedgerow/maze/TwoBitList", name := "<init>", desc := "()V" } : Jvm.MethodName) prog_26_method_1_code (1 : Nat) (Option.none : Option Jvm.ClassFile.FieldType)).before args0 about1 = true := code_word (m := ⟨9, 0⟩) (meth := k9m0) (c := k9c0) (by decide +kernel) rfl rfl rfl (by decide +kernel)
set_option maxRecDepth 65536 in
theorem w_c5 : (Jvm.Cond.code ({ cls := "com/example/hedgerow/hedgerow/maze/MoveStack", name := "isEmpty", desc := "()Z" } : Jvm.MethodName) prog_24_method_4_code (1 : Nat) (Option.some Jvm.ClassFile.FieldType.boolean)).before args0 about1 = true := code_word (m := ⟨8, 3⟩) (meth := k8m3) (c := k8c3) (by decide +kernel) rfl rfl rfl (by decide +kernel)
set_option maxRecDepth 65536 in
theorem w_c6 : (Jvm.Cond.code ({ cls := "com/example/hedgerow/hedgerow/maze/TwoBitList", name := "size", desc := "()J" } : Jvm.MethodName) prog_26_method_4_code (1 : Nat) (Option.some Jvm.ClassFile.FieldType.long)).before args0 about1 = true := code_word (m := ⟨9, 3⟩) (meth := k9m3) (c := k9c3) (by decide +kernel) rfl rfl rfl (by decide +kernel)
set_option maxRecDepth 65536 in
theorem w_c7 : (Jvm.Cond.code ({ cls := "com/example/hedgerow/hedgerow/maze/MoveStack", name := "push", desc := "(Lcom/example/hedgerow/hedgerow/maze/Direction;)V" } : Jvm.MethodName) prog_24_method_2_code (2 : Nat) (Option.none : Option Jvm.ClassFile.FieldType)).before args0 about1 = true := code_word (m := ⟨8, 1⟩) (meth := k8m1) (c := k8c1) (by decide +kernel) rfl rfl rfl (by decide +kernel)
set_option maxRecDepth 65536 in
theorem w_c8 : (Jvm.Cond.code ({ cls := "java/lang/Enum", name := "ordinal", desc := "()I" } : Jvm.MethodName) jdk_37_method_2_code (1 : Nat) (Option.some Jvm.ClassFile.FieldType.int)).before args0 about1 = true := code_word (m := ⟨5, 0⟩) (meth := k5m0) (c := k5c0) (by decide +kernel) rfl rfl rfl (by decide +kernel)
set_option maxRecDepth 65536 in
theorem w_c9 : (Jvm.Cond.code ({ cls := "com/example/hedgerow/hedgerow/maze/TwoBitList", name := "add", desc := "(I)V" } : Jvm.MethodName) prog_26_method_2_code (6 : Nat) (Option.none : Option Jvm.ClassFile.FieldType)).before args0 about1 = true := code_word (m := ⟨9, 1⟩) (meth := k9m1) (c := k9c1) (by decide +kernel) rfl rfl rfl (by decide +kernel)
set_option maxRecDepth 65536 in
theorem w_c10 : (Jvm.Cond.code ({ cls := "com/example/hedgerow/hedgerow/maze/MoveStack", name := "pop", desc := "()Lcom/example/hedgerow/hedgerow/maze/Direction;" } : Jvm.MethodName) prog_24_method_3_code (1 : Nat) (Option.some (Jvm.ClassFile.FieldType.object "com/example/hedgerow/hedgerow/maze/Direction"))).before args0 about1 = true := code_word (m := ⟨8, 2⟩) (meth := k8m2) (c := k8c2) (by decide +kernel) rfl rfl rfl (by decide +kernel)
set_option maxRecDepth 65536 in
theorem w_c11 : (Jvm.Cond.code ({ cls := "com/example/hedgerow/hedgerow/maze/TwoBitList", name := "removeLast", desc := "()I" } : Jvm.MethodName) prog_26_method_3_code (3 : Nat) (Option.some Jvm.ClassFile.FieldType.int)).before args0 about1 = true := code_word (m := ⟨9, 2⟩) (meth := k9m2) (c := k9c2) (by decide +kernel) rfl rfl rfl (by decide +kernel)
def codes1 : List Jvm.Cond := [Jvm.Cond.code x code maxLocals ret, Jvm.Cond.code ({ cls := "java/lang/Math", name := "min", desc := "(II)I" } : Jvm.MethodName) jdk_29_method_69_code (2 : Nat) (Option.some Jvm.ClassFile.FieldType.int), Jvm.Cond.code ({ cls := "com/example/hedgerow/hedgerow/maze/MoveStack", name := "<init>", desc := "()V" } : Jvm.MethodName) prog_24_method_1_code (1 : Nat) (Option.none : Option Jvm.ClassFile.FieldType), Jvm.Cond.code ({ cls := "java/lang/Object", name := "<init>", desc := "()V" } : Jvm.MethodName) object_method_1_code (1 : Nat) (Option.none : Option Jvm.ClassFile.FieldType), Jvm.Cond.code ({ cls := "com/example/hedgerow/hedgerow/maze/TwoBitList", name := "<init>", desc := "()V" } : Jvm.MethodName) prog_26_method_1_code (1 : Nat) (Option.none : Option Jvm.ClassFile.FieldType), Jvm.Cond.code ({ cls := "com/example/hedgerow/hedgerow/maze/MoveStack", name := "isEmpty", desc := "()Z" } : Jvm.MethodName) prog_24_method_4_code (1 : Nat) (Option.some Jvm.ClassFile.FieldType.boolean), Jvm.Cond.code ({ cls := "com/example/hedgerow/hedgerow/maze/TwoBitList", name := "size", desc := "()J" } : Jvm.MethodName) prog_26_method_4_code (1 : Nat) (Option.some Jvm.ClassFile.FieldType.long), Jvm.Cond.code ({ cls := "com/example/hedgerow/hedgerow/maze/MoveStack", name := "push", desc := "(Lcom/example/hedgerow/hedgerow/maze/Direction;)V" } : Jvm.MethodName) prog_24_method_2_code (2 : Nat) (Option.none : Option Jvm.ClassFile.FieldType), Jvm.Cond.code ({ cls := "java/lang/Enum", name := "ordinal", desc := "()I" } : Jvm.MethodName) jdk_37_method_2_code (1 : Nat) (Option.some Jvm.ClassFile.FieldType.int), Jvm.Cond.code ({ cls := "com/example/hedgerow/hedgerow/maze/TwoBitList", name := "add", desc := "(I)V" } : Jvm.MethodName) prog_26_method_2_code (6 : Nat) (Option.none : Option Jvm.ClassFile.FieldType), Jvm.Cond.code ({ cls := "com/example/hedgerow/hedgerow/maze/MoveStack", name := "pop", desc := "()Lcom/example/hedgerow/hedgerow/maze/Direction;" } : Jvm.MethodName) prog_24_method_3_code (1 : Nat) (Option.some (Jvm.ClassFile.FieldType.object "com/example/hedgerow/hedgerow/maze/Direction")), Jvm.Cond.code ({ cls := "com/example/hedgerow/hedgerow/maze/TwoBitList", name := "removeLast", desc := "()I" } : Jvm.MethodName) prog_26_method_3_code (3 : Nat) (Option.some Jvm.ClassFile.FieldType.int)]
set_option maxRecDepth 65536 in
theorem codes_eq : words1.filter isCode = codes1 := rfl
theorem w_codes : ∀ c ∈ words1.filter isCode, c.before args0 about1 = true := by
  rw [codes_eq]
  intro c hc
  simp only [codes1, List.mem_cons, List.not_mem_nil, or_false] at hc
  rcases hc with rfl | rfl | rfl | rfl | rfl | rfl | rfl | rfl | rfl | rfl | rfl | rfl
  · exact w_c0
  · exact w_c1
  · exact w_c2
  · exact w_c3
  · exact w_c4
  · exact w_c5
  · exact w_c6
  · exact w_c7
  · exact w_c8
  · exact w_c9
  · exact w_c10
  · exact w_c11
set_option maxRecDepth 65536 in
theorem w_t1 : (words1.take 24).all (fun c => isCode c || c.before args0 about1) = true := by decide +kernel
set_option maxRecDepth 65536 in
theorem w_t2 : ((words1.drop 24).take 24).all (fun c => isCode c || c.before args0 about1) = true := by decide +kernel
set_option maxRecDepth 65536 in
theorem w_t3 : (((words1.drop 24).drop 24).take 24).all (fun c => isCode c || c.before args0 about1) = true := by decide +kernel
set_option maxRecDepth 65536 in
theorem w_t4 : (((words1.drop 24).drop 24).drop 24).all (fun c => isCode c || c.before args0 about1) = true := by decide +kernel
theorem w_tables : (allAtoms (Jvm.Cond.code x code maxLocals ret :: tables_1)).before args0 about1 = true := by
  rw [allAtoms_all]
  show words1.all (fun c => c.before args0 about1) = true
  refine all_split ?_ w_codes
  rw [← List.take_append_drop 24 words1, List.all_append, w_t1, ← List.take_append_drop 24 (words1.drop 24), List.all_append, w_t2, ← List.take_append_drop 24 ((words1.drop 24).drop 24), List.all_append, w_t3, w_t4]
  rfl
set_option maxRecDepth 65536 in
theorem w_case : (Jvm.Cond.and given_1 narrow_1).before args0 about1 = true := by decide +kernel
theorem w_applies : (headSpec (Jvm.Cond.code x code maxLocals ret :: tables_1) room_1).applies x e0.platform about1 = true :=
  (Spec.applies_iff w_frames).mpr ⟨w_running, w_runnable, w_alone, w_named, w_hears, w_ripe, w_room, w_tables⟩
theorem atStart : AtStart classFile x code maxLocals ret World_1 tables_1 room_1 Calls_1 rest_1 Pre_1 launch0 p0 e0 about1 theMethod args0 below0 :=
  ⟨lists_1, trivial, launch0.admits_env _ _ _, launch0.least_env, fairChoices_fair.cas, fairChoices_fair.clock, w_frames, w_args, w_heap, w_applies, trivial, trivial, w_case⟩
end start1
theorem witness_1 : WitnessClaimed_1 := ⟨start1.p0, start1.e0, start1.about1, start1.theMethod, start1.args0, start1.below0, start1.atStart⟩
end Jvm.Pilot.@@N@@
