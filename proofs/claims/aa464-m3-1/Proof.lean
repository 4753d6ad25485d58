import JvmDerived
import JvmDerived.Pilot.@@N@@Statement
import JvmDerived.Pilot.@@N@@Code
set_option linter.unusedVariables false
set_option linter.unusedSimpArgs false
namespace Jvm.Pilot.@@N@@
open Jvm Jvm.ClassFile Sem Op Lib Jvm.Free Jvm.Stand Jvm.LawKit Jvm.RoadKit Bundle Jvm.Pilot.@@N@@.Jvm.D
section OwnKit
variable {p : Program} {l : Launch} {e : Env} {R : Room} {s : State} {m : MethodId} {args : Array Value} {below : List Frame} {meth : Method} {c : Code} {T : State} {locs : List Loc} {cells slots : Nat} {Z : State} {a0 : Array Value} {h : Heap} {Φ : State → Prop}
/-- from here the run comes to an end of which Φ holds -/
def OGoes (tb : Tables) (e : Env) (below : List Frame) (Φ : State → Prop) (U : State) : Prop := ∃ t, Steps tb e below U t ∧ Φ t
theorem own_st {tb : Tables} {U V : State} (h : ∀ t, Steps tb e below V t → Steps tb e below U t) (k : OGoes tb e below Φ V) : OGoes tb e below Φ U := by
  obtain ⟨t, h1, h2⟩ := k
  exact ⟨t, h t h1, h2⟩
theorem own_tr {tb : Tables} {U V : State} (h : Steps tb e below U V) (k : OGoes tb e below Φ V) : OGoes tb e below Φ U := by
  obtain ⟨t, h1, h2⟩ := k
  exact ⟨t, h.trans h1, h2⟩
theorem own_cast {tb : Tables} {g g' : JFrame} (q : g = g') (k : OGoes tb e below Φ (T.setTop g')) : OGoes tb e below Φ (T.setTop g) := q ▸ k
def ODone (rm : Room) (s : State) (below : List Frame) (Q : Option Value → Heap → List Loc → Prop) (t : State) : Prop :=
  ∃ o, t.status = .running ∧ Ended t below o ∧ ∃ v L, o = .returned v ∧ Q v t.heap L ∧ FrameEnd s o t L rm.cells rm.slots
/-- a method's contract -/
def OMet (l : Launch) (Z : State) (y : MethodName) (bytes : ByteArray) (ml : Nat) (ret : Option FieldType) (rm : Room) (as : Array Value) (h0 : Heap) (Q : Option Value → Heap → List Loc → Prop) : Prop :=
  ∀ ws, MetFree l y (head1 (Jvm.Cond.code y bytes ml ret :: ws) rm) (fun a U => a = as ∧ Z.Warmed39 U.vm ∧ U.heap = h0) (fun _ _ _ _ _ => True)
    (fun _ U o U' => ∃ v L, o = .returned v ∧ Q v U'.heap L ∧ FrameEnd U o U' L rm.cells rm.slots)
/-- .. of one that writes and makes nothing -/
abbrev OPure (l : Launch) (Z : State) (y : MethodName) (bytes : ByteArray) (ml : Nat) (ret : Option FieldType) (fr lo : Nat) (as : Array Value) (h0 : Heap) (v : Option Value) : Prop :=
  OMet l Z y bytes ml ret ⟨fr, 0, 0, lo⟩ as h0 (fun v' h' L' => v' = v ∧ h' = h0 ∧ L' = [])
theorem own_body {y : MethodName} {bytes : ByteArray} {ml : Nat} {ret : Option FieldType} {rm : Room} {as : Array Value} {h0 : Heap} {Q : Option Value → Heap → List Loc → Prop} (hpn : plainFor y = true)
    (body : ∀ (p : Program) (e : Env) (s : State) (m : MethodId) (below : List Frame) (meth : Method) (c : Code) (T : State), Stand p l e rm s m as below meth c T [] 0 0 → p.tables.exec = Jvm.exec → c.code = bytes → c.maxLocals = ml → Z.Warmed39 s.vm → s.vm.findClass y.cls = some m.cls → meth.name = y.name → meth.sig.returnType = ret → meth.locks = false → T.heap = h0 →
      OGoes p.tables e below (ODone rm s below Q) (T.setTop (entryFrame m as ml))) : OMet l Z y bytes ml ret rm as h0 Q := by
  intro ws
  refine MetFree.of_bodySF hpn hisR ?_
  intro p e s m args below meth c s₁ Bd hml0 hP hK
  obtain ⟨rfl, hZ, hh⟩ := hP
  obtain ⟨t, h1, o, h2, h3, h4⟩ := body p e s m below meth c s₁ (Stand.of_body Bd) Bd.exec Bd.bytes hml0 hZ (findClass_of_methodNamed Bd.named) (name_of_methodNamed Bd.named Bd.method).1 Bd.returns Bd.notSynchronized (by rw [← hh, Bd.state]; rfl)
  exact ⟨t, o, h1, h2, h3, h4⟩
/-! the returns -/
theorem own_leave (X : Stand p l e R s m args below meth c T locs cells slots) (hlk : meth.locks = false) {v : Option Value} (hv : meth.sig.returnType = none → v = none) {rm : Room} {Q : Option Value → Heap → List Loc → Prop} (hc : cells ≤ rm.cells) (hs : slots ≤ rm.slots) (hQ : Q v T.heap locs) {U : State}
    (hstep : ∀ fs, (∀ (f : JFrame) (acts : List Action), f.method = m → f.locked = none → f.entered = [] → (doReturn e (T.setTop f) acts v).1 = T.setFrames fs) → Steps p.tables e below U (T.setFrames fs)) : OGoes p.tables e below (ODone rm s below Q) U := by
  obtain ⟨fs, hr, hrun, hended, hW, hsame⟩ := X.leave (v := v) hv hlk
  exact ⟨_, hstep fs hr, _, hrun, hended, v, locs, rfl, hQ, ⟨_, rfl⟩, hW, hsame.mono hc hs⟩
theorem own_retI (X : Stand p l e R s m args below meth c T locs cells slots) (hx : p.tables.exec = Jvm.exec) (hlk : meth.locks = false) (hret : meth.sig.returnType = some .int) {pc : Nat} {Ls : Array Slot} {z : Int32} {rest : List Value} (hd : decode c.code pc = .ok (.ireturn, 1))
    {rm : Room} {Q : Option Value → Heap → List Loc → Prop} (hc : cells ≤ rm.cells) (hs : slots ≤ rm.slots) (hQ : Q (some (.int z)) T.heap locs) : OGoes p.tables e below (ODone rm s below Q) (T.setTop (mkF m pc Ls (.int z :: rest))) :=
  own_leave X hlk (fun h => by rw [hret] at h; cases h) hc hs hQ fun fs hr => retOut X hx hret rfl (Or.inl ⟨rfl, Or.inl rfl, z, rfl⟩) hd hr
theorem own_retN (X : Stand p l e R s m args below meth c T locs cells slots) (hx : p.tables.exec = Jvm.exec) (hlk : meth.locks = false) {t : FieldType} (ht : t = .boolean ∨ t = .byte ∨ t = .char ∨ t = .short) (hret : meth.sig.returnType = some t) {pc : Nat} {Ls : Array Slot} {z : Int32} {rest : List Value} (hd : decode c.code pc = .ok (.ireturn, 1))
    {rm : Room} {Q : Option Value → Heap → List Loc → Prop} (hc : cells ≤ rm.cells) (hs : slots ≤ rm.slots) (hQ : Q (some (.int (nar t z))) T.heap locs) : OGoes p.tables e below (ODone rm s below Q) (T.setTop (mkF m pc Ls (.int z :: rest))) :=
  own_leave X hlk (fun h => by rw [hret] at h; cases h) hc hs hQ fun fs hr => retN X hx hret ht hd hr
theorem own_retJ (X : Stand p l e R s m args below meth c T locs cells slots) (hx : p.tables.exec = Jvm.exec) (hlk : meth.locks = false) (hret : meth.sig.returnType = some .long) {pc : Nat} {Ls : Array Slot} {z : Int64} {rest : List Value} (hd : decode c.code pc = .ok (.lreturn, 1))
    {rm : Room} {Q : Option Value → Heap → List Loc → Prop} (hc : cells ≤ rm.cells) (hs : slots ≤ rm.slots) (hQ : Q (some (.long z)) T.heap locs) : OGoes p.tables e below (ODone rm s below Q) (T.setTop (mkF m pc Ls (.long z :: rest))) :=
  own_leave X hlk (fun h => by rw [hret] at h; cases h) hc hs hQ fun fs hr => retOut X hx hret rfl (Or.inr (Or.inl ⟨rfl, rfl, z, rfl⟩)) hd hr
theorem own_retA (X : Stand p l e R s m args below meth c T locs cells slots) (hx : p.tables.exec = Jvm.exec) (hlk : meth.locks = false) {t : FieldType} (ht : t.isReference = true) (hret : meth.sig.returnType = some t) {pc : Nat} {Ls : Array Slot} {w : Value} {rest : List Value} (hw : w.isRef = true) (hd : decode c.code pc = .ok (.areturn, 1))
    {rm : Room} {Q : Option Value → Heap → List Loc → Prop} (hc : cells ≤ rm.cells) (hs : slots ≤ rm.slots) (hQ : Q (some w) T.heap locs) : OGoes p.tables e below (ODone rm s below Q) (T.setTop (mkF m pc Ls (w :: rest))) :=
  own_leave X hlk (fun h => by rw [hret] at h; cases h) hc hs hQ fun fs hr => retOut X hx hret (by cases t <;> first | (cases ht; done) | (cases w <;> first | rfl | (cases hw; done))) (Or.inr (Or.inr (Or.inr (Or.inr ⟨rfl, ht, hw⟩)))) hd hr
theorem own_retV (X : Stand p l e R s m args below meth c T locs cells slots) (hx : p.tables.exec = Jvm.exec) (hlk : meth.locks = false) (hret : meth.sig.returnType = none) {pc : Nat} {Ls : Array Slot} (hd : decode c.code pc = .ok (.return_, 1))
    {rm : Room} {Q : Option Value → Heap → List Loc → Prop} (hc : cells ≤ rm.cells) (hs : slots ≤ rm.slots) (hQ : Q none T.heap locs) : OGoes p.tables e below (ODone rm s below Q) (T.setTop (mkF m pc Ls [])) :=
  own_leave X hlk (fun _ => rfl) hc hs hQ fun fs hr => X.returnOut hx hret hd hr
/-! the calls -/
theorem own_callS (X : Stand p l e R s m args below meth c T locs cells slots) (hx : p.tables.exec = Jvm.exec) (hZ : Z.Warmed39 s.vm) {own : String} {index : Nat} {y : MethodName} {bytes : ByteArray} {ml : Nat} {ret : Option FieldType} {rm : Room} {as : Array Value} {Q : Option Value → Heap → List Loc → Prop}
    (hown : s.vm.findClass own = some m.cls) (w1 : (Jvm.Cond.methodLink own index y).before a0 Z = true) (w2 : (Jvm.Cond.static y).before a0 Z = true) (w3 : (Jvm.Cond.initialized y.cls).before a0 Z = true) (w4 : (Jvm.Cond.code y bytes ml ret).before a0 Z = true) (hy : y.cls ≠ "java/lang/invoke/MethodHandle" ∧ y.cls ≠ "java/lang/invoke/VarHandle")
    (hM : OMet l Z y bytes ml ret rm as h Q) (eT : T.heap = h) {pc : Nat} {Ls : Array Slot} {st : List Value} (hsz : Ls.size = c.maxLocals) {argsL rest : List Value} {sig : MethodDescriptor} (hp : parseMethodDescriptor y.desc = some sig) (hn : argsL.length = sig.parameters.length) (has : argsL.toArray = as) (hst : st = argsL.reverse ++ rest)
    {W : Nat} (hW : (rest.map fun v => v.category).sum ≤ W) (hd : decode c.code pc = .ok (.invokestatic index, 3)) (hf : rm.frames + 1 ≤ R.frames) (hl : W + (ml + 11) + rm.locals ≤ R.locals) (hc : cells + rm.cells ≤ R.cells) (hs : slots + rm.slots ≤ R.slots)
    (k : ∀ (v : Option Value) (T' : State) (L' : List Loc), Stand p l e R s m args below meth c T' (locs ++ L') (cells + rm.cells) (slots + rm.slots) → Q v T'.heap L' → OGoes p.tables e below Φ (T'.setTop (mkF m (pc + 3) Ls (v.toList ++ rest)))) : OGoes p.tables e below Φ (T.setTop (mkF m pc Ls st)) := by
  obtain ⟨v, vm1, ⟨T', L, kk, nn⟩, -, X', ⟨Lc, hQ, l1, l2, l3⟩, st'⟩ := Jvm.LawKit.callS X hx (y := y) hown (mvT hZ w1) (mvT hZ w2) (mvT hZ w3) (mvT hZ w4) hy (backOf (W := W) (hM []) hZ w4 w3 hf hl) (g := mkF m pc Ls st) rfl hsz (argsL := argsL) (rest := rest) (fun sg h => by cases hp.symm.trans h; exact hn) hst (by show 2 * 0 + _ ≤ _; omega) hd (fun _ _ => ⟨has, eT, hc, hs⟩)
  dsimp only [Pt.U, Pt.locs, Pt.cells, Pt.slots] at X' l1 l2 l3 st' hQ
  subst l1 l2 l3
  exact own_st st' (k v T' Lc X' hQ)
theorem own_callV (X : Stand p l e R s m args below meth c T locs cells slots) (hx : p.tables.exec = Jvm.exec) (hZ : Z.Warmed39 s.vm) {own C : String} {index : Nat} {y : MethodName} {bytes : ByteArray} {ml : Nat} {ret : Option FieldType} {rm : Room} {as : Array Value} {Q : Option Value → Heap → List Loc → Prop}
    (hown : s.vm.findClass own = some m.cls) (w1 : (Jvm.Cond.methodLink own index y).before a0 Z = true) (w2 : (Jvm.Cond.declares y).before a0 Z = true) (w3 : (Jvm.Cond.selects C y y).before a0 Z = true) (w4 : (Jvm.Cond.instanceMethod y).before a0 Z = true) (w5 : (Jvm.Cond.initialized y.cls).before a0 Z = true) (w6 : (Jvm.Cond.code y bytes ml ret).before a0 Z = true) (hy : y.cls ≠ "java/lang/invoke/MethodHandle" ∧ y.cls ≠ "java/lang/invoke/VarHandle")
    (hM : OMet l Z y bytes ml ret rm as h Q) (eT : T.heap = h) {b : Addr} (E : Exa Z h b C) {pc : Nat} {Ls : Array Slot} {st : List Value} (hsz : Ls.size = c.maxLocals) {argsL rest : List Value} {sig : MethodDescriptor} (hp : parseMethodDescriptor y.desc = some sig) (hn : argsL.length = sig.parameters.length) (has : (.ref b :: argsL).toArray = as) (hst : st = argsL.reverse ++ .ref b :: rest)
    {W : Nat} (hW : (rest.map fun v => v.category).sum ≤ W) (hd : decode c.code pc = .ok (.invokevirtual index, 3)) (hf : rm.frames + 1 ≤ R.frames) (hl : W + (ml + 11) + rm.locals ≤ R.locals) (hc : cells + rm.cells ≤ R.cells) (hs : slots + rm.slots ≤ R.slots)
    (k : ∀ (v : Option Value) (T' : State) (L' : List Loc), Stand p l e R s m args below meth c T' (locs ++ L') (cells + rm.cells) (slots + rm.slots) → Q v T'.heap L' → OGoes p.tables e below Φ (T'.setTop (mkF m (pc + 3) Ls (v.toList ++ rest)))) : OGoes p.tables e below Φ (T.setTop (mkF m pc Ls st)) := by
  obtain ⟨cq, kq, qa, qb, qc⟩ := isOf hZ eT E
  obtain ⟨v, vm1, ⟨T', L, kk, nn⟩, -, X', ⟨Lc, hQ, l1, l2, l3⟩, st'⟩ := X.virtualBack hx (y := y) (z := y) hown (mvT hZ w1) (mvT hZ w2) (notFace_of_selects (args := #[]) (mvT hZ w3)) (mvT hZ w3) (mvT hZ w4) hy (backOf (W := W) (hM []) hZ w6 w5 hf hl) qa qc (g := mkF m pc Ls st) rfl hsz (Steps.refl _) (argsL := argsL) (rest := rest) (fun sg h => by cases hp.symm.trans h; exact hn) hst (by show 2 * 0 + _ ≤ _; omega) hd (fun _ _ => ⟨has, eT, hc, hs⟩)
  dsimp only [Pt.U, Pt.locs, Pt.cells, Pt.slots] at X' l1 l2 l3 st' hQ
  subst l1 l2 l3
  exact own_tr st' (k v T' Lc X' hQ)
theorem own_callN (X : Stand p l e R s m args below meth c T locs cells slots) (hx : p.tables.exec = Jvm.exec) (hZ : Z.Warmed39 s.vm) {own : String} {index : Nat} {y : MethodName} {bytes : ByteArray} {ml : Nat} {rm : Room} {as : Array Value} {Q : Option Value → Heap → List Loc → Prop} (hy1 : y.name = "<init>")
    (hown : s.vm.findClass own = some m.cls) (w1 : (Jvm.Cond.methodLink own index y).before a0 Z = true) (w4 : (Jvm.Cond.instanceMethod y).before a0 Z = true) (w5 : (Jvm.Cond.initialized y.cls).before a0 Z = true) (w6 : (Jvm.Cond.code y bytes ml none).before a0 Z = true) (hy : y.cls ≠ "java/lang/invoke/MethodHandle" ∧ y.cls ≠ "java/lang/invoke/VarHandle")
    (hM : OMet l Z y bytes ml none rm as h Q) (eT : T.heap = h) {b : Addr} {pc : Nat} {Ls : Array Slot} {st : List Value} (hsz : Ls.size = c.maxLocals) {argsL rest : List Value} {sig : MethodDescriptor} (hp : parseMethodDescriptor y.desc = some sig) (hn : argsL.length = sig.parameters.length) (has : (.ref b :: argsL).toArray = as) (hst : st = argsL.reverse ++ .ref b :: rest)
    {W : Nat} (hW : (rest.map fun v => v.category).sum ≤ W) (hd : decode c.code pc = .ok (.invokespecial index, 3)) (hf : rm.frames + 1 ≤ R.frames) (hl : W + (ml + 11) + rm.locals ≤ R.locals) (hc : cells + rm.cells ≤ R.cells) (hs : slots + rm.slots ≤ R.slots)
    (k : ∀ (v : Option Value) (T' : State) (L' : List Loc), Stand p l e R s m args below meth c T' (locs ++ L') (cells + rm.cells) (slots + rm.slots) → Q v T'.heap L' → OGoes p.tables e below Φ (T'.setTop (mkF m (pc + 3) Ls (v.toList ++ rest)))) : OGoes p.tables e below Φ (T.setTop (mkF m pc Ls st)) := by
  obtain ⟨v, vm1, ⟨T', L, kk, nn⟩, -, X', ⟨Lc, hQ, l1, l2, l3⟩, st'⟩ := X.specialBack hx (y := y) hy1 hown (mvT hZ w1) (mvT hZ w4) (mvT hZ w6) hy (backOf (W := W) (hM []) hZ w6 w5 hf hl) (g := mkF m pc Ls st) rfl hsz (Steps.refl _) (a := b) (argsL := argsL) (rest := rest) (fun sg h => by cases hp.symm.trans h; exact hn) hst (by show 2 * 0 + _ ≤ _; omega) hd (fun _ _ => ⟨has, eT, hc, hs⟩)
  dsimp only [Pt.U, Pt.locs, Pt.cells, Pt.slots] at X' l1 l2 l3 st' hQ
  subst l1 l2 l3
  exact own_tr st' (k v T' Lc X' hQ)
theorem own_callS0 (X : Stand p l e R s m args below meth c T locs cells slots) (hx : p.tables.exec = Jvm.exec) (hZ : Z.Warmed39 s.vm) {own : String} {index : Nat} {y : MethodName} {bytes : ByteArray} {ml : Nat} {ret : Option FieldType} {fr lo : Nat} {as : Array Value} {v : Option Value}
    (hown : s.vm.findClass own = some m.cls) (w1 : (Jvm.Cond.methodLink own index y).before a0 Z = true) (w2 : (Jvm.Cond.static y).before a0 Z = true) (w3 : (Jvm.Cond.initialized y.cls).before a0 Z = true) (w4 : (Jvm.Cond.code y bytes ml ret).before a0 Z = true) (hy : y.cls ≠ "java/lang/invoke/MethodHandle" ∧ y.cls ≠ "java/lang/invoke/VarHandle")
    (hM : OPure l Z y bytes ml ret fr lo as h v) (eT : T.heap = h) {pc : Nat} {Ls : Array Slot} {st : List Value} (hsz : Ls.size = c.maxLocals) {argsL rest : List Value} {sig : MethodDescriptor} (hp : parseMethodDescriptor y.desc = some sig) (hn : argsL.length = sig.parameters.length) (has : argsL.toArray = as) (hst : st = argsL.reverse ++ rest)
    {W : Nat} (hW : (rest.map fun v => v.category).sum ≤ W) (hd : decode c.code pc = .ok (.invokestatic index, 3)) (hf : fr + 1 ≤ R.frames) (hl : W + (ml + 11) + lo ≤ R.locals) (hc : cells ≤ R.cells) (hs : slots ≤ R.slots)
    (k : ∀ (T' : State), Stand p l e R s m args below meth c T' locs cells slots → T'.heap = h → OGoes p.tables e below Φ (T'.setTop (mkF m (pc + 3) Ls (v.toList ++ rest)))) : OGoes p.tables e below Φ (T.setTop (mkF m pc Ls st)) := by
  refine own_callS X hx hZ hown w1 w2 w3 w4 hy hM eT hsz hp hn has hst hW hd hf hl hc hs ?_
  rintro v' T' L' X' ⟨rfl, e', rfl⟩
  rw [List.append_nil] at X'
  exact k T' X' e'
theorem own_callV0 (X : Stand p l e R s m args below meth c T locs cells slots) (hx : p.tables.exec = Jvm.exec) (hZ : Z.Warmed39 s.vm) {own C : String} {index : Nat} {y : MethodName} {bytes : ByteArray} {ml : Nat} {ret : Option FieldType} {fr lo : Nat} {as : Array Value} {v : Option Value}
    (hown : s.vm.findClass own = some m.cls) (w1 : (Jvm.Cond.methodLink own index y).before a0 Z = true) (w2 : (Jvm.Cond.declares y).before a0 Z = true) (w3 : (Jvm.Cond.selects C y y).before a0 Z = true) (w4 : (Jvm.Cond.instanceMethod y).before a0 Z = true) (w5 : (Jvm.Cond.initialized y.cls).before a0 Z = true) (w6 : (Jvm.Cond.code y bytes ml ret).before a0 Z = true) (hy : y.cls ≠ "java/lang/invoke/MethodHandle" ∧ y.cls ≠ "java/lang/invoke/VarHandle")
    (hM : OPure l Z y bytes ml ret fr lo as h v) (eT : T.heap = h) {b : Addr} (E : Exa Z h b C) {pc : Nat} {Ls : Array Slot} {st : List Value} (hsz : Ls.size = c.maxLocals) {argsL rest : List Value} {sig : MethodDescriptor} (hp : parseMethodDescriptor y.desc = some sig) (hn : argsL.length = sig.parameters.length) (has : (.ref b :: argsL).toArray = as) (hst : st = argsL.reverse ++ .ref b :: rest)
    {W : Nat} (hW : (rest.map fun v => v.category).sum ≤ W) (hd : decode c.code pc = .ok (.invokevirtual index, 3)) (hf : fr + 1 ≤ R.frames) (hl : W + (ml + 11) + lo ≤ R.locals) (hc : cells ≤ R.cells) (hs : slots ≤ R.slots)
    (k : ∀ (T' : State), Stand p l e R s m args below meth c T' locs cells slots → T'.heap = h → OGoes p.tables e below Φ (T'.setTop (mkF m (pc + 3) Ls (v.toList ++ rest)))) : OGoes p.tables e below Φ (T.setTop (mkF m pc Ls st)) := by
  refine own_callV X hx hZ hown w1 w2 w3 w4 w5 w6 hy hM eT E hsz hp hn has hst hW hd hf hl hc hs ?_
  rintro v' T' L' X' ⟨rfl, e', rfl⟩
  rw [List.append_nil] at X'
  exact k T' X' e'
theorem own_aa_eq_t {a b : Addr} (h : a = b) : XT.acmp .eq (.ref a) (.ref b) = true := XT.aa_eq_t (congrArg Value.ref h)
theorem own_aa_eq_f {a b : Addr} (h : ¬ a = b) : XT.acmp .eq (.ref a) (.ref b) = false := XT.aa_eq_f fun q => h (Value.ref.inj q)
theorem own_aa_ne_t {a b : Addr} (h : ¬ a = b) : XT.acmp .ne (.ref a) (.ref b) = true := XT.aa_ne_t fun q => h (Value.ref.inj q)
theorem own_aa_ne_f {a b : Addr} (h : a = b) : XT.acmp .ne (.ref a) (.ref b) = false := XT.aa_ne_f (congrArg Value.ref h)
/-! the case's words -/
theorem own_fld_int {t : Term} {C n d : String} {a : Addr} {k : Int32} (ht : t.eval args s none [] s = some (.ref a)) (h : (Jvm.Cond.eq (.field t C n d) (.int k)).value args s none s [] = some true) : Fld s s.heap a C n d (.int k) := by
  have e : (Term.field t C n d).eval args s none [] s = s.fieldOf? a C n d := fld_at ht
  cases hx : s.fieldOf? a C n d with
  | none => simp [Cond.value, e, hx] at h
  | some v =>
    have e2 : (Term.int k).eval args s none [] s = some (.int k) := rfl
    cases v <;> simp [Cond.value, e, hx, e2] at h
    subst h
    exact Fld.start hx
theorem own_static {C n d K : String} (h : (Jvm.Cond.exactly (.static C n d) K).value args s none s [] = some true) (w1 : (Jvm.Cond.initialized C).before args s = true) (w2 : (Jvm.Cond.laysStatic C n d).before args s = true) :
    ∃ a, (Term.static C n d).eval args s none [] s = some (.ref a) ∧ Sta s s.heap C n d (.ref a) ∧ Exa s s.heap a K := by
  obtain ⟨a, ha⟩ := exa_v h
  exact ⟨a, ha, Sta.start ha (Or.inr ⟨w1, w2⟩), Exa.start ha h⟩
/-! arrays of ints of some kind at the start: Tab; what the case says of their places -/
theorem own_toI {j : Int32} (h : ¬ j < 0) : j.toNatClampNeg.toInt32 = j := (back32 h).1
theorem own_elem {t i : Term} {idx : List Nat} {a : Addr} {cl : Cell} {j v : Int32} (ht : t.eval args s none idx s = some (.ref a)) (hi : i.eval args s none idx s = some (.int j)) (ha : s.arrayAt? a = some cl) (hj : ¬ j < 0) (hv : cl.slots[j.toNatClampNeg]? = some (.int (atv cl j))) :
    (Jvm.Cond.eq (.elem t i) (.int v)).value args s none s idx = some (decide (atv cl j = v)) := by
  have e1 : (Term.elem t i).eval args s none idx s = some (.int (atv cl j)) := (elem_f ht hi ha hj).trans hv
  have e2 : (Term.int v).eval args s none idx s = some (.int v) := rfl
  simp [Cond.value, e1, e2]
theorem own_one {t : Term} {a : Addr} {cl : Cell} {ty : FieldType} {n k v : Int32} (hT : Tab s s.heap a cl ty n) (ht : t.eval args s none [] s = some (.ref a)) (hk : ¬ k < 0) (hkn : k < n) (h : (Jvm.Cond.eq (.elem t (.int k)) (.int v)).value args s none s [] = some true) : atv cl k = v :=
  gotT (own_elem ht rfl (Arr.fin (Vm.Alike.refl _) hT.1) hk (hT.2.2.2 k (inb_of hT.2.1 ⟨hk, hkn⟩))) h
theorem own_idx {i : Nat} {idx : List Nat} : (Term.index 0).eval args s none (i :: idx) s = some (.int i.toInt32) := rfl
theorem own_ltI {a b : Term} {idx : List Nat} {x y : Int32} (ha : a.eval args s none idx s = some (.int x)) (hb : b.eval args s none idx s = some (.int y)) : (Jvm.Cond.lt a b).value args s none s idx = some (decide (x < y)) := by simp [Cond.value, ha, hb]
theorem own_leI {a b : Term} {idx : List Nat} {x y : Int32} (ha : a.eval args s none idx s = some (.int x)) (hb : b.eval args s none idx s = some (.int y)) : (Jvm.Cond.le a b).value args s none s idx = some (decide (x ≤ y)) := by simp [Cond.value, ha, hb]
theorem own_all {t : Term} {a : Addr} {cl : Cell} {ty : FieldType} {n : Int32} {c : Jvm.Cond} (hT : Tab s s.heap a cl ty n) (ht : t.eval args s none [] s = some (.ref a)) (h : (Jvm.Cond.all t c).value args s none s [] = some true) (j : Int32) (hj : ¬ j < 0) (hjn : j < n) :
    c.value args s none s [j.toNatClampNeg] = some true ∧ (Term.index 0).eval args s none [j.toNatClampNeg] s = some (.int j) ∧ cl.slots[j.toNatClampNeg]? = some (.int (atv cl j)) := by
  have hin := inb_of hT.2.1 ⟨hj, hjn⟩
  refine ⟨Cond.all_elim ht (Arr.fin (Vm.Alike.refl _) hT.1) h _ (by omega), ?_, hT.2.2.2 j hin⟩
  rw [own_idx, own_toI hj]
theorem own_all_lo {t : Term} {a : Addr} {cl : Cell} {ty : FieldType} {n k v : Int32} (hT : Tab s s.heap a cl ty n) (ht : ∀ idx, t.eval args s none idx s = some (.ref a)) (h : (Jvm.Cond.all t (.or (.le (.int k) (.index 0)) (.eq (.elem t (.index 0)) (.int v)))).value args s none s [] = some true) (j : Int32) (hj : ¬ j < 0) (hjn : j < n) : k ≤ j ∨ atv cl j = v := by
  obtain ⟨h1, h2, h3⟩ := own_all hT (ht []) h j hj hjn
  exact or_e2 (own_leI rfl h2) (own_elem (ht _) h2 (Arr.fin (Vm.Alike.refl _) hT.1) hj h3) h1
theorem own_all_hi {t : Term} {a : Addr} {cl : Cell} {ty : FieldType} {n k v : Int32} (hT : Tab s s.heap a cl ty n) (ht : ∀ idx, t.eval args s none idx s = some (.ref a)) (h : (Jvm.Cond.all t (.or (.lt (.index 0) (.int k)) (.eq (.elem t (.index 0)) (.int v)))).value args s none s [] = some true) (j : Int32) (hj : ¬ j < 0) (hjn : j < n) : j < k ∨ atv cl j = v := by
  obtain ⟨h1, h2, h3⟩ := own_all hT (ht []) h j hj hjn
  exact or_e2 (own_ltI h2 rfl) (own_elem (ht _) h2 (Arr.fin (Vm.Alike.refl _) hT.1) hj h3) h1
theorem own_all_mid {t : Term} {a : Addr} {cl : Cell} {ty : FieldType} {n k q v : Int32} (hT : Tab s s.heap a cl ty n) (ht : ∀ idx, t.eval args s none idx s = some (.ref a)) (h : (Jvm.Cond.all t (.or (.lt (.index 0) (.int k)) (.or (.le (.int q) (.index 0)) (.eq (.elem t (.index 0)) (.int v))))).value args s none s [] = some true) (j : Int32) (hj : ¬ j < 0) (hjn : j < n) : j < k ∨ ¬ j < q ∨ atv cl j = v := by
  obtain ⟨h1, h2, h3⟩ := own_all hT (ht []) h j hj hjn
  exact or3 h1 (own_ltI h2 rfl) (own_leI rfl h2) (own_elem (ht _) h2 (Arr.fin (Vm.Alike.refl _) hT.1) hj h3)
theorem own_arr {t : Term} {a : Addr} {ty : FieldType} {n : Int32} (hf : Fit s) (ht : t.eval args s none [] s = some (.ref a)) (h1 : (Jvm.Cond.arrayOf t ty).value args s none s [] = some true) (h2 : (Jvm.Cond.eq (.length t) (.int n)).value args s none s [] = some true) (hty : ty = .int ∨ ty = .boolean ∨ ty = .byte ∨ ty = .char ∨ ty = .short) (hn : ¬ n < 0) : ∃ cl, Tab s s.heap a cl ty n := by
  obtain ⟨cl, A⟩ := Arr.start ht h1
  have ha := Arr.fin (Vm.Alike.refl _) A
  have hl : cl.slots.size < 2 ^ 31 := by
    refine Nat.lt_of_not_le fun q => ?_
    have e : (Term.length t).eval args s none [] s = none := by simp [Term.eval, ht, ha, q]
    simp [Cond.value, e] at h2
  have e1 : (Term.length t).eval args s none [] s = some (.int cl.slots.size.toInt32) := len_f ht ha hl
  have e2 : (Term.int n).eval args s none [] s = some (.int n) := rfl
  have e3 : cl.slots.size.toInt32 = n := by simpa [Cond.value, e1, e2] using h2
  exact ⟨cl, Tab.start hf A hty hl e3 hn⟩
theorem own_aastore (X : Stand p l e R s m args below meth c T locs cells slots) (hx : p.tables.exec = Jvm.exec) (hZ : Z.Warmed39 s.vm) (eT : T.heap = h) {a : Addr} {kc : ClassId} {ty : FieldType} {n : Int32} {vs : List Value} {d : Value} (A : Arv Z h a kc ty n vs d) {j : Int32} {v : Value} {i n0 : Nat} (hj : ¬ j < 0) (hjn : j < n) (hji : j.toNatClampNeg = i) (hi : i < vs.length) (hty : ty.isReference = true) (hv : fits ty v = true) (S : Sto Z h a v) (N : Fr n0 locs) (ge : n0 ≤ a) {pc : Nat} {Ls : Array Slot} {rest : List Value} (hd : decode c.code pc = .ok (.aastore, 1))
    (kk : ∀ (T' : State) (h' : Heap) (L' : List Loc), Stand p l e R s m args below meth c T' L' cells slots → T'.heap = h' → Fr n0 L' → Wr h h' a i v → Arv Z h' a kc ty n (vs.set i v) d → OGoes p.tables e below Φ (T'.setTop (mkF m (pc + 1) Ls rest))) : OGoes p.tables e below Φ (T.setTop (mkF m pc Ls (v :: .int j :: .ref a :: rest))) := by
  subst hji
  obtain ⟨cl, Ar, q1, S1, N1, H1, G1⟩ := A
  have hin := inb_of S1 ⟨hj, hjn⟩
  obtain ⟨T', h', X', e', W', st⟩ := stR X hx hZ eT Ar (j := j) hin hty S (g := mkF m pc Ls (v :: .int j :: .ref a :: rest)) rfl rfl hd
  exact own_st st (kk T' h' _ X' e' (Fr.snoc X' N ge) W' (Arv.set Ar q1 S1 N1 H1 G1 hv W' _ rfl hi))
theorem own_lastore (X : Stand p l e R s m args below meth c T locs cells slots) (hx : p.tables.exec = Jvm.exec) (hZ : Z.Warmed39 s.vm) (eT : T.heap = h) {a : Addr} {kc : ClassId} {n : Int32} {vs : List Value} {d : Value} (A : Arv Z h a kc .long n vs d) {j : Int32} {v : Int64} {i n0 : Nat} (hj : ¬ j < 0) (hjn : j < n) (hji : j.toNatClampNeg = i) (hi : i < vs.length)  (N : Fr n0 locs) (ge : n0 ≤ a) {pc : Nat} {Ls : Array Slot} {rest : List Value} (hd : decode c.code pc = .ok (.lastore, 1))
    (kk : ∀ (T' : State) (h' : Heap) (L' : List Loc), Stand p l e R s m args below meth c T' L' cells slots → T'.heap = h' → Fr n0 L' → Wr h h' a i (.long v) → Arv Z h' a kc .long n (vs.set i (.long v)) d → OGoes p.tables e below Φ (T'.setTop (mkF m (pc + 1) Ls rest))) : OGoes p.tables e below Φ (T.setTop (mkF m pc Ls ((.long v) :: .int j :: .ref a :: rest))) := by
  subst hji
  obtain ⟨cl, Ar, q1, S1, N1, H1, G1⟩ := A
  have hin := inb_of S1 ⟨hj, hjn⟩
  obtain ⟨T', h', X', e', W', st⟩ := stJ X hx hZ eT Ar (j := j) hin  (g := mkF m pc Ls ((.long v) :: .int j :: .ref a :: rest)) rfl rfl hd
  exact own_st st (kk T' h' _ X' e' (Fr.snoc X' N ge) W' (Arv.set Ar q1 S1 N1 H1 G1 rfl W' _ rfl hi))
theorem own_iastore (X : Stand p l e R s m args below meth c T locs cells slots) (hx : p.tables.exec = Jvm.exec) (hZ : Z.Warmed39 s.vm) (eT : T.heap = h) {a : Addr} {kc : ClassId} {n : Int32} {vs : List Value} {d : Value} (A : Arv Z h a kc .int n vs d) {j : Int32} {v : Int32} {i n0 : Nat} (hj : ¬ j < 0) (hjn : j < n) (hji : j.toNatClampNeg = i) (hi : i < vs.length)  (N : Fr n0 locs) (ge : n0 ≤ a) {pc : Nat} {Ls : Array Slot} {rest : List Value} (hd : decode c.code pc = .ok (.iastore, 1))
    (kk : ∀ (T' : State) (h' : Heap) (L' : List Loc), Stand p l e R s m args below meth c T' L' cells slots → T'.heap = h' → Fr n0 L' → Wr h h' a i (.int v) → Arv Z h' a kc .int n (vs.set i (.int v)) d → OGoes p.tables e below Φ (T'.setTop (mkF m (pc + 1) Ls rest))) : OGoes p.tables e below Φ (T.setTop (mkF m pc Ls ((.int v) :: .int j :: .ref a :: rest))) := by
  subst hji
  obtain ⟨cl, Ar, q1, S1, N1, H1, G1⟩ := A
  have hin := inb_of S1 ⟨hj, hjn⟩
  obtain ⟨T', h', X', e', W', st⟩ := stI X hx hZ eT Ar (j := j) hin  (g := mkF m pc Ls ((.int v) :: .int j :: .ref a :: rest)) rfl rfl hd
  exact own_st st (kk T' h' _ X' e' (Fr.snoc X' N ge) W' (Arv.set Ar q1 S1 N1 H1 G1 rfl W' _ rfl hi))
theorem own_bastore (X : Stand p l e R s m args below meth c T locs cells slots) (hx : p.tables.exec = Jvm.exec) (hZ : Z.Warmed39 s.vm) (eT : T.heap = h) {a : Addr} {kc : ClassId} {n : Int32} {vs : List Value} {d : Value} (A : Arv Z h a kc .byte n vs d) {j : Int32} {v : Int32} {i n0 : Nat} (hj : ¬ j < 0) (hjn : j < n) (hji : j.toNatClampNeg = i) (hi : i < vs.length)  (N : Fr n0 locs) (ge : n0 ≤ a) {pc : Nat} {Ls : Array Slot} {rest : List Value} (hd : decode c.code pc = .ok (.bastore, 1))
    (kk : ∀ (T' : State) (h' : Heap) (L' : List Loc), Stand p l e R s m args below meth c T' L' cells slots → T'.heap = h' → Fr n0 L' → Wr h h' a i (.int (nar .byte v)) → Arv Z h' a kc .byte n (vs.set i (.int (nar .byte v))) d → OGoes p.tables e below Φ (T'.setTop (mkF m (pc + 1) Ls rest))) : OGoes p.tables e below Φ (T.setTop (mkF m pc Ls ((.int v) :: .int j :: .ref a :: rest))) := by
  subst hji
  obtain ⟨cl, Ar, q1, S1, N1, H1, G1⟩ := A
  have hin := inb_of S1 ⟨hj, hjn⟩
  obtain ⟨T', h', X', e', W', st⟩ := stB X hx hZ eT Ar (j := j) hin  (g := mkF m pc Ls ((.int v) :: .int j :: .ref a :: rest)) rfl rfl hd
  exact own_st st (kk T' h' _ X' e' (Fr.snoc X' N ge) W' (Arv.set Ar q1 S1 N1 H1 G1 (fits_nar_byte _) W' _ rfl hi))
theorem own_castore (X : Stand p l e R s m args below meth c T locs cells slots) (hx : p.tables.exec = Jvm.exec) (hZ : Z.Warmed39 s.vm) (eT : T.heap = h) {a : Addr} {kc : ClassId} {n : Int32} {vs : List Value} {d : Value} (A : Arv Z h a kc .char n vs d) {j : Int32} {v : Int32} {i n0 : Nat} (hj : ¬ j < 0) (hjn : j < n) (hji : j.toNatClampNeg = i) (hi : i < vs.length)  (N : Fr n0 locs) (ge : n0 ≤ a) {pc : Nat} {Ls : Array Slot} {rest : List Value} (hd : decode c.code pc = .ok (.castore, 1))
    (kk : ∀ (T' : State) (h' : Heap) (L' : List Loc), Stand p l e R s m args below meth c T' L' cells slots → T'.heap = h' → Fr n0 L' → Wr h h' a i (.int (nar .char v)) → Arv Z h' a kc .char n (vs.set i (.int (nar .char v))) d → OGoes p.tables e below Φ (T'.setTop (mkF m (pc + 1) Ls rest))) : OGoes p.tables e below Φ (T.setTop (mkF m pc Ls ((.int v) :: .int j :: .ref a :: rest))) := by
  subst hji
  obtain ⟨cl, Ar, q1, S1, N1, H1, G1⟩ := A
  have hin := inb_of S1 ⟨hj, hjn⟩
  obtain ⟨T', h', X', e', W', st⟩ := stC X hx hZ eT Ar (j := j) hin  (g := mkF m pc Ls ((.int v) :: .int j :: .ref a :: rest)) rfl rfl hd
  exact own_st st (kk T' h' _ X' e' (Fr.snoc X' N ge) W' (Arv.set Ar q1 S1 N1 H1 G1 (fits_nar_char _) W' _ rfl hi))
theorem own_aaload (X : Stand p l e R s m args below meth c T locs cells slots) (hx : p.tables.exec = Jvm.exec) (hZ : Z.Warmed39 s.vm) (eT : T.heap = h) {a : Addr} {kc : ClassId} {ty : FieldType} (hty : ty.isReference = true) {n : Int32} {vs : List Value} {d : Value} (A : Arv Z h a kc ty n vs d) {j : Int32} {v : Value} (hj : ¬ j < 0) (hjn : j < n) (hv : vs.getD j.toNatClampNeg d = v) {pc : Nat} {Ls : Array Slot} {rest : List Value} (hd : decode c.code pc = .ok (.aaload, 1))
    (kk : OGoes p.tables e below Φ (T.setTop (mkF m (pc + 1) Ls (v :: rest)))) : OGoes p.tables e below Φ (T.setTop (mkF m pc Ls (.int j :: .ref a :: rest))) := by
  obtain ⟨cl, Ar, q1, S1, N1, H1, G1⟩ := A
  have hin := inb_of S1 ⟨hj, hjn⟩
  exact own_st (fun t k => X.aaload hx (j := j) (v := v) (by rw [eT]; exact Ar.1) (State.isArrayOf_alike hZ.alike Ar.2.1) hty Ar.2.2 hin (H1.at hin hv) (g := mkF m pc Ls (.int j :: .ref a :: rest)) rfl rfl hd t k) kk
theorem own_laload (X : Stand p l e R s m args below meth c T locs cells slots) (hx : p.tables.exec = Jvm.exec) (hZ : Z.Warmed39 s.vm) (eT : T.heap = h) {a : Addr} {kc : ClassId} {n : Int32} {vs : List Value} {d : Value} (A : Arv Z h a kc .long n vs d) {j : Int32} {v : Value} (hj : ¬ j < 0) (hjn : j < n) (hv : vs.getD j.toNatClampNeg d = v) {pc : Nat} {Ls : Array Slot} {rest : List Value} (hd : decode c.code pc = .ok (.laload, 1))
    (kk : OGoes p.tables e below Φ (T.setTop (mkF m (pc + 1) Ls (v :: rest)))) : OGoes p.tables e below Φ (T.setTop (mkF m pc Ls (.int j :: .ref a :: rest))) := by
  obtain ⟨cl, Ar, q1, S1, N1, H1, G1⟩ := A
  have hin := inb_of S1 ⟨hj, hjn⟩
  exact own_st (fun t k => X.laload hx (j := j) (v := v) (by rw [eT]; exact Ar.1) (State.isArrayOf_alike hZ.alike Ar.2.1) Ar.2.2 hin (H1.at hin hv) (g := mkF m pc Ls (.int j :: .ref a :: rest)) rfl rfl hd t k) kk
theorem own_iaload (X : Stand p l e R s m args below meth c T locs cells slots) (hx : p.tables.exec = Jvm.exec) (hZ : Z.Warmed39 s.vm) (eT : T.heap = h) {a : Addr} {kc : ClassId} {n : Int32} {vs : List Value} {d : Value} (A : Arv Z h a kc .int n vs d) {j : Int32} {v : Value} (hj : ¬ j < 0) (hjn : j < n) (hv : vs.getD j.toNatClampNeg d = v) {pc : Nat} {Ls : Array Slot} {rest : List Value} (hd : decode c.code pc = .ok (.iaload, 1))
    (kk : OGoes p.tables e below Φ (T.setTop (mkF m (pc + 1) Ls (v :: rest)))) : OGoes p.tables e below Φ (T.setTop (mkF m pc Ls (.int j :: .ref a :: rest))) := by
  obtain ⟨cl, Ar, q1, S1, N1, H1, G1⟩ := A
  have hin := inb_of S1 ⟨hj, hjn⟩
  exact own_st (fun t k => X.iaload hx (j := j) (v := v) (by rw [eT]; exact Ar.1) (State.isArrayOf_alike hZ.alike Ar.2.1) Ar.2.2 hin (H1.at hin hv) (g := mkF m pc Ls (.int j :: .ref a :: rest)) rfl rfl hd t k) kk
theorem own_baload (X : Stand p l e R s m args below meth c T locs cells slots) (hx : p.tables.exec = Jvm.exec) (hZ : Z.Warmed39 s.vm) (eT : T.heap = h) {a : Addr} {kc : ClassId} {n : Int32} {vs : List Value} {d : Value} (A : Arv Z h a kc .byte n vs d) {j : Int32} {v : Value} (hj : ¬ j < 0) (hjn : j < n) (hv : vs.getD j.toNatClampNeg d = v) {pc : Nat} {Ls : Array Slot} {rest : List Value} (hd : decode c.code pc = .ok (.baload, 1))
    (kk : OGoes p.tables e below Φ (T.setTop (mkF m (pc + 1) Ls (v :: rest)))) : OGoes p.tables e below Φ (T.setTop (mkF m pc Ls (.int j :: .ref a :: rest))) := by
  obtain ⟨cl, Ar, q1, S1, N1, H1, G1⟩ := A
  have hin := inb_of S1 ⟨hj, hjn⟩
  exact own_st (fun t k => X.baloadBytes hx (j := j) (v := v) (by rw [eT]; exact Ar.1) (State.isArrayOf_alike hZ.alike Ar.2.1) Ar.2.2 hin (H1.at hin hv) (g := mkF m pc Ls (.int j :: .ref a :: rest)) rfl rfl hd t k) kk
theorem own_caload (X : Stand p l e R s m args below meth c T locs cells slots) (hx : p.tables.exec = Jvm.exec) (hZ : Z.Warmed39 s.vm) (eT : T.heap = h) {a : Addr} {kc : ClassId} {n : Int32} {vs : List Value} {d : Value} (A : Arv Z h a kc .char n vs d) {j : Int32} {v : Value} (hj : ¬ j < 0) (hjn : j < n) (hv : vs.getD j.toNatClampNeg d = v) {pc : Nat} {Ls : Array Slot} {rest : List Value} (hd : decode c.code pc = .ok (.caload, 1))
    (kk : OGoes p.tables e below Φ (T.setTop (mkF m (pc + 1) Ls (v :: rest)))) : OGoes p.tables e below Φ (T.setTop (mkF m pc Ls (.int j :: .ref a :: rest))) := by
  obtain ⟨cl, Ar, q1, S1, N1, H1, G1⟩ := A
  have hin := inb_of S1 ⟨hj, hjn⟩
  exact own_st (fun t k => X.caload hx (j := j) (v := v) (by rw [eT]; exact Ar.1) (State.isArrayOf_alike hZ.alike Ar.2.1) Ar.2.2 hin (H1.at hin hv) (g := mkF m pc Ls (.int j :: .ref a :: rest)) rfl rfl hd t k) kk
theorem own_alen (X : Stand p l e R s m args below meth c T locs cells slots) (hx : p.tables.exec = Jvm.exec) (hZ : Z.Warmed39 s.vm) (eT : T.heap = h) {a : Addr} {kc : ClassId} {ty : FieldType} {n : Int32} {vs : List Value} {d : Value} (A : Arv Z h a kc ty n vs d) {pc : Nat} {Ls : Array Slot} {rest : List Value} (hd : decode c.code pc = .ok (.arraylength, 1))
    (kk : OGoes p.tables e below Φ (T.setTop (mkF m (pc + 1) Ls (.int n :: rest)))) : OGoes p.tables e below Φ (T.setTop (mkF m pc Ls (.ref a :: rest))) := by
  obtain ⟨cl, Ar, q1, S1, N1, H1, G1⟩ := A
  exact own_st (fun t k => X.arraylength hx (by rw [eT]; exact Ar.1) (State.isArrayOf_alike hZ.alike Ar.2.1) (g := mkF m pc Ls (.ref a :: rest)) rfl rfl hd t (by rw [len_of S1 N1]; exact k)) kk
theorem own_newarray (X : Stand p l e R s m args below meth c T locs cells slots) (hx : p.tables.exec = Jvm.exec) (hZ : Z.Warmed39 s.vm) (eT : T.heap = h) {aty : ArrayType} (w : (Jvm.Cond.arrayClass (newarray.typeOf aty)).before a0 Z = true) {n : Int32} (hn : ¬ n < 0) {cap : Nat} (hcap : n.toNatClampNeg ≤ cap) (hb : cap * 8 ≤ 536870912) (hc : cells + 1 ≤ R.cells) (hl : slots + cap ≤ R.slots) {ad : String} (had : "[" ++ (newarray.typeOf aty).toString = ad) {pc : Nat} {Ls : Array Slot} {rest : List Value} (hd : decode c.code pc = .ok (.newarray aty, 2))
    (kk : ∀ (T' : State) (h' : Heap) (kc : ClassId) (b : Nat), Stand p l e R s m args below meth c T' locs (cells + 1) (slots + cap) → T'.heap = h' → Ext h h' → b = h.size → Arv Z h' b kc (newarray.typeOf aty) n [] (defaultValue (newarray.typeOf aty)) → Exa Z h' b ad → OGoes p.tables e below Φ (T'.setTop (mkF m (pc + 2) Ls (.ref b :: rest)))) : OGoes p.tables e below Φ (T.setTop (mkF m pc Ls (.int n :: rest))) := by
  obtain ⟨T', h', kc, X', e', E', A', B', st⟩ := newPE X hx hZ w eT (g := mkF m pc Ls (.int n :: rest)) rfl hd rfl hn hcap hb hc hl had
  exact own_st st (kk T' h' kc _ X' e' E' rfl (Arv.new A' hn) B')
theorem own_anewarray (X : Stand p l e R s m args below meth c T locs cells slots) (hx : p.tables.exec = Jvm.exec) (hZ : Z.Warmed39 s.vm) (eT : T.heap = h) {own C : String} {index : Nat} (hown : s.vm.findClass own = some m.cls) (w1 : (Jvm.Cond.classLink own index C).before a0 Z = true) (w2 : (Jvm.Cond.arrayOver (.object C)).before a0 Z = true) {n : Int32} (hn : ¬ n < 0) {cap : Nat} (hcap : n.toNatClampNeg ≤ cap) (hb : cap * 8 ≤ 536870912) (hc : cells + 1 ≤ R.cells) (hl : slots + cap ≤ R.slots) {pc : Nat} {Ls : Array Slot} {rest : List Value} (hd : decode c.code pc = .ok (.anewarray index, 3))
    (kk : ∀ (T' : State) (h' : Heap) (kc : ClassId) (b : Nat), Stand p l e R s m args below meth c T' locs (cells + 1) (slots + cap) → T'.heap = h' → Ext h h' → b = h.size → Arv Z h' b kc (.object C) n [] .null → Ovr Z kc C → OGoes p.tables e below Φ (T'.setTop (mkF m (pc + 3) Ls (.ref b :: rest)))) : OGoes p.tables e below Φ (T.setTop (mkF m pc Ls (.int n :: rest))) := by
  obtain ⟨T', h', kc, X', e', E', A', O', st⟩ := newR X hx hZ hown w1 w2 eT (g := mkF m pc Ls (.int n :: rest)) rfl hd rfl hn hcap hb hc hl
  exact own_st st (kk T' h' kc _ X' e' E' rfl (Arv.new A' hn) O')
theorem own_anewarrayA (X : Stand p l e R s m args below meth c T locs cells slots) (hx : p.tables.exec = Jvm.exec) (hZ : Z.Warmed39 s.vm) (eT : T.heap = h) {own C : String} {ty : FieldType} {index : Nat} (hown : s.vm.findClass own = some m.cls) (hC : (FieldType.array ty).toString = C) (w1 : (Jvm.Cond.classLink own index C).before a0 Z = true) (w2 : (Jvm.Cond.arrayOver (.array ty)).before a0 Z = true) {n : Int32} (hn : ¬ n < 0) {cap : Nat} (hcap : n.toNatClampNeg ≤ cap) (hb : cap * 8 ≤ 536870912) (hc : cells + 1 ≤ R.cells) (hl : slots + cap ≤ R.slots) {pc : Nat} {Ls : Array Slot} {rest : List Value} (hd : decode c.code pc = .ok (.anewarray index, 3))
    (kk : ∀ (T' : State) (h' : Heap) (kc : ClassId) (b : Nat), Stand p l e R s m args below meth c T' locs (cells + 1) (slots + cap) → T'.heap = h' → Ext h h' → b = h.size → Arv Z h' b kc (.array ty) n [] .null → OvrA Z kc ty C → OGoes p.tables e below Φ (T'.setTop (mkF m (pc + 3) Ls (.ref b :: rest)))) : OGoes p.tables e below Φ (T.setTop (mkF m pc Ls (.int n :: rest))) := by
  obtain ⟨T', h', kc, X', e', E', A', -, O', st⟩ := newRA X hx hZ hown hC w1 w2 eT (g := mkF m pc Ls (.int n :: rest)) rfl hd rfl hn hcap hb hc hl rfl
  exact own_st st (kk T' h' kc _ X' e' E' rfl (Arv.new A' hn) O')
theorem own_new (X : Stand p l e R s m args below meth c T locs cells slots) (hx : p.tables.exec = Jvm.exec) (hZ : Z.Warmed39 s.vm) (eT : T.heap = h) {own C : String} {index n : Nat} (hown : s.vm.findClass own = some m.cls) (w : (Jvm.Cond.classLink own index C).before a0 Z = true) (wi : (Jvm.Cond.instantiable C n).before a0 Z = true) (wz : (Jvm.Cond.initialized C).before a0 Z = true) (hc : cells + 1 ≤ R.cells) (hl : slots + n ≤ R.slots) {pc : Nat} {Ls : Array Slot} {st : List Value} (hd : decode c.code pc = .ok (.new index, 3))
    (kk : ∀ (T' : State) (h' : Heap) (b : Nat), Stand p l e R s m args below meth c T' locs (cells + 1) (slots + n) → T'.heap = h' → Ext h h' → b = h.size → Exa Z h' b C → (∀ {O nm d : String} {ty : FieldType}, Laid Z a0 C O nm d → parseFieldDescriptor d = some ty → Fld Z h' b O nm d (defaultValue ty)) → OGoes p.tables e below Φ (T'.setTop (mkF m (pc + 3) Ls (.ref b :: st)))) : OGoes p.tables e below Φ (T.setTop (mkF m pc Ls st)) := by
  obtain ⟨T', h', X', e', E', A', D', -, st'⟩ := newO X hx hZ hown w wi wz eT (g := mkF m pc Ls st) rfl hd hc hl
  exact own_st st' (kk T' h' _ X' e' E' rfl A' D')
theorem own_getfield (X : Stand p l e R s m args below meth c T locs cells slots) (hx : p.tables.exec = Jvm.exec) (hZ : Z.Warmed39 s.vm) (eT : T.heap = h) {own R0 O n d : String} {index : Nat} (hown : s.vm.findClass own = some m.cls) (w : (Jvm.Cond.fieldLink own index R0 n d).before a0 Z = true) (via : Via Z R0 O n d) {a : Addr} {v : Value} (F : Fld Z h a O n d v) {pc : Nat} {Ls : Array Slot} {rest : List Value} (hd : decode c.code pc = .ok (.getfield index, 3))
    (kk : ∀ (T' : State), Stand p l e R s m args below meth c T' locs cells slots → T'.heap = h → OGoes p.tables e below Φ (T'.setTop (mkF m (pc + 3) Ls (v :: rest)))) : OGoes p.tables e below Φ (T.setTop (mkF m pc Ls (.ref a :: rest))) := by
  obtain ⟨T', X', e', st⟩ := getF X hx hZ hown (host := "") (Or.inl w) via eT F (g := mkF m pc Ls (.ref a :: rest)) rfl rfl hd
  exact own_st st (kk T' X' e')
theorem own_getstatic (X : Stand p l e R s m args below meth c T locs cells slots) (hx : p.tables.exec = Jvm.exec) (hZ : Z.Warmed39 s.vm) (eT : T.heap = h) {own O n d : String} {index : Nat} (hown : s.vm.findClass own = some m.cls) (w : (Jvm.Cond.fieldLink own index O n d).before a0 Z = true) {v : Value} (F : Sta Z h O n d v) {pc : Nat} {Ls : Array Slot} {st : List Value} (hd : decode c.code pc = .ok (.getstatic index, 3))
    (kk : ∀ (T' : State), Stand p l e R s m args below meth c T' locs cells slots → T'.heap = h → OGoes p.tables e below Φ (T'.setTop (mkF m (pc + 3) Ls (v :: st)))) : OGoes p.tables e below Φ (T.setTop (mkF m pc Ls st)) := by
  obtain ⟨T', X', e', st'⟩ := getS X hx hZ (host := "") hown w Via.refl eT F (g := mkF m pc Ls st) rfl hd
  exact own_st st' (kk T' X' e')
theorem own_putfield (X : Stand p l e R s m args below meth c T locs cells slots) (hx : p.tables.exec = Jvm.exec) (hZ : Z.Warmed39 s.vm) (eT : T.heap = h) {own O n d C : String} {index kk0 : Nat} {ty : FieldType} (hown : s.vm.findClass own = some m.cls) (w : (Jvm.Cond.fieldLink own index O n d).before a0 Z = true) {a : Addr} {v old : Value} (F : Fld Z h a O n d old) (E : Exa Z h a C) (L : (Jvm.Cond.lays C O n d).before a0 Z = true ∨ ((Jvm.Cond.laysFinal C O n d).before a0 Z = true ∧ own = O ∧ meth.name = "<init>")) (wi : (Jvm.Cond.instantiable C kk0).before a0 Z = true) (hty : parseFieldDescriptor d = some ty) (hn : narrow ty v = v) (hf : fits ty v = true)
    {n0 : Nat} (N : Fr n0 locs) (ge : n0 ≤ a) {pc : Nat} {Ls : Array Slot} {rest : List Value} (hd : decode c.code pc = .ok (.putfield index, 3))
    (kk : ∀ (T' : State) (h' : Heap) (L' : List Loc), Stand p l e R s m args below meth c T' L' cells slots → T'.heap = h' → Fr n0 L' → Wr h h' a (Jvm.RoadKit.slotOf Z O n d) v → Fld Z h' a O n d v → OGoes p.tables e below Φ (T'.setTop (mkF m (pc + 3) Ls rest))) : OGoes p.tables e below Φ (T.setTop (mkF m pc Ls (v :: .ref a :: rest))) := by
  obtain ⟨T', h', X', e', W', st⟩ := putF X hx hZ hown (host := "") (Or.inl w) Via.refl eT F E L wi hty hn hf (g := mkF m pc Ls (v :: .ref a :: rest)) rfl rfl hd
  exact own_st st (kk T' h' _ X' e' (Fr.snoc X' N ge) W' (F.same W'))
theorem own_ne {a b : Nat} (h : a < b ∨ b < a) : @Ne Addr a b := fun (q : a = b) => by omega
theorem own_ext_trans {h1 h2 h3 : Heap} (A : Ext h1 h2) (B : Ext h2 h3) : Ext h1 h3 := ⟨Nat.le_trans A.1 B.1, fun a c q => B.2 a c (A.2 a c q)⟩
theorem own_old_wr {h' : Heap} {a : Addr} {sl : Nat} {v : Value} (O : Ext Z.heap h) (W : Wr h h' a sl v) (q : Z.heap.size ≤ a) : Ext Z.heap h' := (Old.wr (Z := Z) (n0 := Z.heap.size) ⟨rfl, O⟩ W q).2
theorem own_old_keep {h' : Heap} {ws : List Addr} (O : Ext Z.heap h) (K : Keep h h' ws) (q : ∀ x ∈ ws, Z.heap.size ≤ x) : Ext Z.heap h' := (Old.keep (Z := Z) (n0 := Z.heap.size) ⟨rfl, O⟩ K q).2
theorem own_callU0 (X : Stand p l e R s m args below meth c T locs cells slots) (hx : p.tables.exec = Jvm.exec) (hZ : Z.Warmed39 s.vm) {own C owner : String} {index : Nat} {x0 y : MethodName} {bytes : ByteArray} {ml : Nat} {ret : Option FieldType} {fr lo : Nat} {as : Array Value} {v : Option Value}
    (hown : s.vm.findClass own = some m.cls) (w1 : (Jvm.Cond.methodLink own index x0).before a0 Z = true) (w2 : (Jvm.Cond.sameMethod x0.cls owner x0.name x0.desc).before a0 Z = true) (w3 : (Jvm.Cond.declares ⟨owner, x0.name, x0.desc⟩).before a0 Z = true) (w3' : (Jvm.Cond.selects C x0 y).before a0 Z = true) (w4 : (Jvm.Cond.instanceMethod y).before a0 Z = true) (w5 : (Jvm.Cond.initialized y.cls).before a0 Z = true) (w6 : (Jvm.Cond.code y bytes ml ret).before a0 Z = true) (hy : owner ≠ "java/lang/invoke/MethodHandle" ∧ owner ≠ "java/lang/invoke/VarHandle")
    (hM : OPure l Z y bytes ml ret fr lo as h v) (eT : T.heap = h) {b : Addr} (E : Exa Z h b C) {pc : Nat} {Ls : Array Slot} {st : List Value} (hsz : Ls.size = c.maxLocals) {argsL rest : List Value} {sig : MethodDescriptor} (hp : parseMethodDescriptor x0.desc = some sig) (hn : argsL.length = sig.parameters.length) (has : (.ref b :: argsL).toArray = as) (hst : st = argsL.reverse ++ .ref b :: rest)
    {W : Nat} (hW : (rest.map fun v => v.category).sum ≤ W) (hd : decode c.code pc = .ok (.invokevirtual index, 3)) (hf : fr + 1 ≤ R.frames) (hl : W + (ml + 11) + lo ≤ R.locals) (hc : cells ≤ R.cells) (hs : slots ≤ R.slots)
    (k : ∀ (T' : State), Stand p l e R s m args below meth c T' locs cells slots → T'.heap = h → OGoes p.tables e below Φ (T'.setTop (mkF m (pc + 3) Ls (v.toList ++ rest)))) : OGoes p.tables e below Φ (T.setTop (mkF m pc Ls st)) := by
  obtain ⟨cq, kq, qa, qb, qc⟩ := isOf hZ eT E
  obtain ⟨v', vm1, ⟨T', L, kk, nn⟩, -, X', ⟨Lc, ⟨q1, q2, q3⟩, l1, l2, l3⟩, st'⟩ := X.virtualBackUp hx (x := x0) (y := y) hown (mvT hZ w1) (mvT hZ w2) (mvT hZ w3) hy (mvT hZ w3') (mvT hZ w4) (backOf (rm := ⟨fr, 0, 0, lo⟩) (Q := fun v' h' L' => v' = v ∧ h' = h ∧ L' = []) (W := W) (hM []) hZ w6 w5 hf hl) qa qc (g := mkF m pc Ls st) rfl hsz (Steps.refl _) (argsL := argsL) (rest := rest) (fun sg h => by cases hp.symm.trans h; exact hn) hst (by show 2 * 0 + _ ≤ _; omega) hd (fun _ _ => ⟨has, eT, hc, hs⟩)
  dsimp only [Pt.U, Pt.locs, Pt.cells, Pt.slots] at X' l1 l2 l3 st' q2
  subst l1 l2 l3 q1 q3
  rw [List.append_nil] at X'
  exact own_tr st' (k T' X' q2)
theorem own_stoA {a y : Addr} {kc : ClassId} {t0 ty : FieldType} {n : Int32} {vs : List Value} {d : Value} {C : String} (A : Arv Z h a kc t0 n vs d) (O : OvrA Z kc ty C) (I : Ins Z h y C true) : Sto Z h a (.ref y) := by
  obtain ⟨cl, Ar, q1, -⟩ := A
  exact Sto.ofVA Ar q1 O I
theorem own_sto {a y : Addr} {kc : ClassId} {t0 : FieldType} {n : Int32} {vs : List Value} {d : Value} {C : String} (A : Arv Z h a kc t0 n vs d) (O : Ovr Z kc C) (I : Ins Z h y C true) : Sto Z h a (.ref y) := by
  obtain ⟨cl, Ar, q1, -⟩ := A
  exact Sto.ofV Ar q1 O I
theorem own_arrR {t : Term} {a : Addr} {ty : FieldType} {n : Int32} (ht : t.eval args s none [] s = some (.ref a)) (h1 : (Jvm.Cond.arrayOf t ty).value args s none s [] = some true) (h2 : (Jvm.Cond.eq (.length t) (.int n)).value args s none s [] = some true) : ∃ cl, Arr s s.heap a cl ty ∧ cl.slots.size < 2 ^ 31 ∧ cl.slots.size.toInt32 = n := by
  obtain ⟨cl, A⟩ := Arr.start ht h1
  have ha := Arr.fin (Vm.Alike.refl _) A
  have hl : cl.slots.size < 2 ^ 31 := by
    refine Nat.lt_of_not_le fun q => ?_
    have e : (Term.length t).eval args s none [] s = none := by simp [Term.eval, ht, ha, q]
    simp [Cond.value, e] at h2
  have e1 : (Term.length t).eval args s none [] s = some (.int cl.slots.size.toInt32) := len_f ht ha hl
  have e2 : (Term.int n).eval args s none [] s = some (.int n) := rfl
  exact ⟨cl, A, hl, by simpa [Cond.value, e1, e2] using h2⟩
theorem own_elemR {t u : Term} {a w : Addr} {cl : Cell} {ty : FieldType} {k : Int32} (A : Arr s s.heap a cl ty) (ht : t.eval args s none [] s = some (.ref a)) (hu : u.eval args s none [] s = some (.ref w)) (h : (Jvm.Cond.eq (.elem t (.int k)) u).value args s none s [] = some true) : cl.slots[k.toNatClampNeg]? = some (.ref w) := by
  obtain ⟨v, y, e1, e2, -, -⟩ := cmp_v (Or.inl h)
  obtain rfl : y = .ref w := Option.some.inj (e2.symm.trans hu)
  have q := (elem_in e1 ht rfl A.1).2
  rw [q]
  cases v <;> simp [Cond.value, e1, e2] at h
  rw [h]
theorem own_elemI {t : Term} {a : Addr} {cl : Cell} {ty : FieldType} {k x : Int32} (A : Arr s s.heap a cl ty) (ht : t.eval args s none [] s = some (.ref a)) (h : (Jvm.Cond.eq (.elem t (.int k)) (.int x)).value args s none s [] = some true) : cl.slots[k.toNatClampNeg]? = some (.int x) := by
  obtain ⟨v, y, e1, e2, -, -⟩ := cmp_v (Or.inl h)
  obtain rfl : y = .int x := Option.some.inj (e2.symm.trans rfl)
  have q := (elem_in e1 ht rfl A.1).2
  rw [q]
  cases v <;> simp [Cond.value, e1, e2] at h
  rw [h]
theorem own_callP (X : Stand p l e R s m args below meth c T locs cells slots) (hx : p.tables.exec = Jvm.exec) (hZ : Z.Warmed39 s.vm) {own : String} {index nn : Nat} {y : MethodName} {bytes : ByteArray} {ml : Nat} {ret : Option FieldType} {rm : Room} {as : Array Value} {Q : Option Value → Heap → List Loc → Prop}
    (hown : s.vm.findClass own = some m.cls) (w1 : (Jvm.Cond.methodLink own index y).before a0 Z = true) (w2 : (Jvm.Cond.privateMethod y).before a0 Z = true) (w3 : (Jvm.Cond.instantiable y.cls nn).before a0 Z = true) (w4 : (Jvm.Cond.instanceMethod y).before a0 Z = true) (w5 : (Jvm.Cond.initialized y.cls).before a0 Z = true) (w6 : (Jvm.Cond.code y bytes ml ret).before a0 Z = true) (hy : y.cls ≠ "java/lang/invoke/MethodHandle" ∧ y.cls ≠ "java/lang/invoke/VarHandle")
    (hM : OMet l Z y bytes ml ret rm as h Q) (eT : T.heap = h) {b : Addr} (E : Exa Z h b y.cls) {pc : Nat} {Ls : Array Slot} {st : List Value} (hsz : Ls.size = c.maxLocals) {argsL rest : List Value} {sig : MethodDescriptor} (hp : parseMethodDescriptor y.desc = some sig) (hn : argsL.length = sig.parameters.length) (has : (.ref b :: argsL).toArray = as) (hst : st = argsL.reverse ++ .ref b :: rest)
    {W : Nat} (hW : (rest.map fun v => v.category).sum ≤ W) (hd : decode c.code pc = .ok (.invokevirtual index, 3)) (hf : rm.frames + 1 ≤ R.frames) (hl : W + (ml + 11) + rm.locals ≤ R.locals) (hc : cells + rm.cells ≤ R.cells) (hs : slots + rm.slots ≤ R.slots)
    (k : ∀ (v : Option Value) (T' : State) (L' : List Loc), Stand p l e R s m args below meth c T' (locs ++ L') (cells + rm.cells) (slots + rm.slots) → Q v T'.heap L' → OGoes p.tables e below Φ (T'.setTop (mkF m (pc + 3) Ls (v.toList ++ rest)))) : OGoes p.tables e below Φ (T.setTop (mkF m pc Ls st)) := by
  obtain ⟨cq, q, q'⟩ := E.cell
  have hp' := Cond.privateMethod_at (mvP hZ w2 (args := #[]))
  obtain ⟨c0, k0, i1, i2, -, i4, -⟩ := Cond.instantiable_spec (mvT (args := args) hZ w3)
  have hsel := selects_self_of_private i1 i2 (Bool.or_eq_false_iff.mp i4).1 hp' (mvT (args := args) hZ w4) hy
  obtain ⟨v, vm1, ⟨T', L, kk, nn⟩, -, X', ⟨Lc, hQ, l1, l2, l3⟩, st'⟩ := X.privateBack hx (y := y) hown (mvT hZ w1) (mvT hZ w4) hsel hp' (mvT hZ w6) hy (backOf (W := W) (hM []) hZ w6 w5 hf hl) (g := mkF m pc Ls st) rfl hsz (Steps.refl _) (a := b) (by rw [eT]; exact q) q' (argsL := argsL) (rest := rest) (fun sg h => by cases hp.symm.trans h; exact hn) hst (by show 2 * 0 + _ ≤ _; omega) hd (fun _ _ => ⟨has, eT, hc, hs⟩)
  dsimp only [Pt.U, Pt.locs, Pt.cells, Pt.slots] at X' l1 l2 l3 st' hQ
  subst l1 l2 l3
  exact own_tr st' (k v T' Lc X' hQ)
theorem own_callP0 (X : Stand p l e R s m args below meth c T locs cells slots) (hx : p.tables.exec = Jvm.exec) (hZ : Z.Warmed39 s.vm) {own : String} {index nn : Nat} {y : MethodName} {bytes : ByteArray} {ml : Nat} {ret : Option FieldType} {fr lo : Nat} {as : Array Value} {v : Option Value}
    (hown : s.vm.findClass own = some m.cls) (w1 : (Jvm.Cond.methodLink own index y).before a0 Z = true) (w2 : (Jvm.Cond.privateMethod y).before a0 Z = true) (w3 : (Jvm.Cond.instantiable y.cls nn).before a0 Z = true) (w4 : (Jvm.Cond.instanceMethod y).before a0 Z = true) (w5 : (Jvm.Cond.initialized y.cls).before a0 Z = true) (w6 : (Jvm.Cond.code y bytes ml ret).before a0 Z = true) (hy : y.cls ≠ "java/lang/invoke/MethodHandle" ∧ y.cls ≠ "java/lang/invoke/VarHandle")
    (hM : OPure l Z y bytes ml ret fr lo as h v) (eT : T.heap = h) {b : Addr} (E : Exa Z h b y.cls) {pc : Nat} {Ls : Array Slot} {st : List Value} (hsz : Ls.size = c.maxLocals) {argsL rest : List Value} {sig : MethodDescriptor} (hp : parseMethodDescriptor y.desc = some sig) (hn : argsL.length = sig.parameters.length) (has : (.ref b :: argsL).toArray = as) (hst : st = argsL.reverse ++ .ref b :: rest)
    {W : Nat} (hW : (rest.map fun v => v.category).sum ≤ W) (hd : decode c.code pc = .ok (.invokevirtual index, 3)) (hf : fr + 1 ≤ R.frames) (hl : W + (ml + 11) + lo ≤ R.locals) (hc : cells ≤ R.cells) (hs : slots ≤ R.slots)
    (k : ∀ (T' : State), Stand p l e R s m args below meth c T' locs cells slots → T'.heap = h → OGoes p.tables e below Φ (T'.setTop (mkF m (pc + 3) Ls (v.toList ++ rest)))) : OGoes p.tables e below Φ (T.setTop (mkF m pc Ls st)) := by
  refine own_callP X hx hZ hown w1 w2 w3 w4 w5 w6 hy hM eT E hsz hp hn has hst hW hd hf hl hc hs ?_
  rintro v' T' L' X' ⟨rfl, e', rfl⟩
  rw [List.append_nil] at X'
  exact k T' X' e'
theorem own_acopy (X : Stand p l e R s m args below meth c T locs cells slots) (hx : p.tables.exec = Jvm.exec) (hZ : Z.Warmed39 s.vm) (eT : T.heap = h) {own : String} {index : Nat} (hown : s.vm.findClass own = some m.cls) (w1 : (Jvm.Cond.methodLink own index Jvm.Stand.acN).before a0 Z = true) (w2 : (Jvm.Cond.native Jvm.Stand.acN).before a0 Z = true) (w3 : (Jvm.Cond.static Jvm.Stand.acN).before a0 Z = true) (w4 : (Jvm.Cond.initialized "java/lang/System").before a0 Z = true)
    {a b : Addr} {kc k' : ClassId} {ty : FieldType} {z z' sp dp nn : Int32} {vs vd us : List Value} {dv dd : Value} (A : Arv Z h a kc ty z vs dv) (B : Arv Z h b k' ty z' vd dd) (hty : refKind ty = false) (h1 : ¬ sp < 0) (h2 : ¬ dp < 0) (h3 : ¬ nn < 0) (h4 : sp.toNatClampNeg + nn.toNatClampNeg ≤ z.toNatClampNeg) (h5 : dp.toNatClampNeg + nn.toNatClampNeg ≤ z'.toNatClampNeg)
    (hus : us = (List.range nn.toNatClampNeg).map fun i => vs.getD (sp.toNatClampNeg + i) dv) (hl : dp.toNatClampNeg + nn.toNatClampNeg ≤ vd.length) {n0 : Nat} (N : Fr n0 locs) (ge : n0 ≤ b) {pc : Nat} {Ls : Array Slot} {rest : List Value} (hsz : Ls.size = c.maxLocals) (hd : decode c.code pc = .ok (.invokestatic index, 3)) (hf : 1 ≤ R.frames) {W : Nat} (hW : (rest.map fun v => v.category).sum ≤ W) (hlo : W + (nativeFrameWords "java/lang/System" "arraycopy" 5 + 11) ≤ R.locals)
    (kk : ∀ (T' : State) (h' : Heap) (L : List Loc), Stand p l e R s m args below meth c T' L cells slots → T'.heap = h' → Fr n0 L → Keep h h' [b] → Arv Z h' b k' ty z' (vd.take dp.toNatClampNeg ++ us ++ vd.drop (dp.toNatClampNeg + nn.toNatClampNeg)) dd → OGoes p.tables e below Φ (T'.setTop (mkF m (pc + 3) Ls rest))) : OGoes p.tables e below Φ (T.setTop (mkF m pc Ls (.int nn :: .int dp :: .ref b :: .int sp :: .ref a :: rest))) := by
  obtain ⟨T', h', L, X', e', N', K', A', st⟩ := cpA X hx hZ hown w1 w2 w3 w4 eT A B (Or.inl ⟨rfl, hty⟩) h1 h2 h3 h4 h5 hus hl N ge (g := mkF m pc Ls (.int nn :: .int dp :: .ref b :: .int sp :: .ref a :: rest)) rfl hsz rfl hd hf (W := W) (by show 2 * 0 + _ ≤ _; omega) hlo
  exact own_st st (kk T' h' L X' e' N' K' A')
theorem own_instY (X : Stand p l e R s m args below meth c T locs cells slots) (hx : p.tables.exec = Jvm.exec) (hZ : Z.Warmed39 s.vm) (eT : T.heap = h) {own K : String} {index : Nat} (hown : s.vm.findClass own = some m.cls) (w : (Jvm.Cond.classLink own index K).before a0 Z = true) {a : Addr} (F : Ins Z h a K true) {pc : Nat} {Ls : Array Slot} {rest : List Value} (hd : decode c.code pc = .ok (.instanceof index, 3))
    (kk : ∀ (T' : State), Stand p l e R s m args below meth c T' locs cells slots → T'.heap = h → OGoes p.tables e below Φ (T'.setTop (mkF m (pc + 3) Ls (.int 1 :: rest)))) : OGoes p.tables e below Φ (T.setTop (mkF m pc Ls (.ref a :: rest))) := by
  obtain ⟨T', X', e', st⟩ := instY X hx hZ hown w eT F (g := mkF m pc Ls (.ref a :: rest)) rfl rfl hd
  exact own_st st (kk T' X' e')
theorem own_castY (X : Stand p l e R s m args below meth c T locs cells slots) (hx : p.tables.exec = Jvm.exec) (hZ : Z.Warmed39 s.vm) (eT : T.heap = h) {own K : String} {index : Nat} (hown : s.vm.findClass own = some m.cls) (w : (Jvm.Cond.classLink own index K).before a0 Z = true) {a : Addr} (F : Ins Z h a K true) {pc : Nat} {Ls : Array Slot} {rest : List Value} (hd : decode c.code pc = .ok (.checkcast index, 3))
    (kk : ∀ (T' : State), Stand p l e R s m args below meth c T' locs cells slots → T'.heap = h → OGoes p.tables e below Φ (T'.setTop (mkF m (pc + 3) Ls (.ref a :: rest)))) : OGoes p.tables e below Φ (T.setTop (mkF m pc Ls (.ref a :: rest))) := by
  obtain ⟨T', X', e', st⟩ := castY X hx hZ hown w eT F (g := mkF m pc Ls (.ref a :: rest)) rfl rfl hd
  exact own_st st (kk T' X' e')
end OwnKit
end Jvm.Pilot.@@N@@
namespace Jvm.Pilot.@@N@@
open Jvm Jvm.ClassFile Sem Op Lib Jvm.Free Jvm.Stand Jvm.LawKit Jvm.RoadKit Bundle Jvm.Pilot.@@N@@.Jvm.D
section OwnKitW
variable {p : Program} {l : Launch} {e : Env} {R : Room} {s : State} {vm0 : Vm} {m : MethodId} {args : Array Value} {below : List Frame} {meth : Method} {c : Code} {T : State} {locs : List Loc} {cells slots : Nat} {Z : State} {a0 : Array Value} {h : Heap} {Φ : State → Prop}
/-! walks that may load a String constant for the first time: the Stand is over the start with the tables at hand -/
def ODoneW (rm : Room) (s : State) (below : List Frame) (Q : Option Value → Heap → List Loc → Prop) (t : State) : Prop :=
  ∃ o, t.status = .running ∧ Ended t below o ∧ ∃ v L, o = .returned v ∧ Q v t.heap L ∧ ReturnedEndW s o t L rm.cells rm.slots
def OMetW (l : Launch) (Z : State) (y : MethodName) (bytes : ByteArray) (ml : Nat) (ret : Option FieldType) (rm : Room) (as : Array Value) (h0 : Heap) (Q : Option Value → Heap → List Loc → Prop) : Prop :=
  ∀ ws, MetFree l y (head1 (Jvm.Cond.code y bytes ml ret :: ws) rm) (fun a U => a = as ∧ Z.Warmed39 U.vm ∧ U.heap = h0) (fun _ _ _ _ _ => True)
    (fun _ U o U' => ∃ v L, o = .returned v ∧ Q v U'.heap L ∧ ReturnedEndW U o U' L rm.cells rm.slots)
theorem own_bodyW {y : MethodName} {bytes : ByteArray} {ml : Nat} {ret : Option FieldType} {rm : Room} {as : Array Value} {h0 : Heap} {Q : Option Value → Heap → List Loc → Prop} (hpn : plainFor y = true)
    (body : ∀ (p : Program) (e : Env) (s : State) (vm0 : Vm) (k0 : Nat) (m : MethodId) (below : List Frame) (meth : Method) (c : Code) (T : State), Stand p l e rm (s.setVm vm0) m as below meth c T [] 0 0 → s.Since vm0 k0 → k0 ≤ h0.size → p.tables.exec = Jvm.exec → c.code = bytes → c.maxLocals = ml → Z.Warmed39 (s.setVm vm0).vm → (s.setVm vm0).vm.findClass y.cls = some m.cls → meth.name = y.name → meth.sig.returnType = ret → meth.locks = false → T.heap = h0 → s.heap = h0 →
      OGoes p.tables e below (ODoneW rm s below Q) (T.setTop (entryFrame m as ml))) : OMetW l Z y bytes ml ret rm as h0 Q := by
  intro ws
  refine MetFree.of_bodySF hpn hisR ?_
  intro p e s m args below meth c s₁ Bd hml0 hP hK
  obtain ⟨rfl, hZ, hh⟩ := hP
  obtain ⟨t, h1, o, h2, h3, h4⟩ := body p e s s.vm 0 m below meth c s₁ (Stand.of_body Bd) ((State.WarmedH.refl s).since 0) (Nat.zero_le _) Bd.exec Bd.bytes hml0 hZ (findClass_of_methodNamed Bd.named) (name_of_methodNamed Bd.named Bd.method).1 Bd.returns Bd.notSynchronized (by rw [← hh, Bd.state]; rfl) hh
  exact ⟨t, o, h1, h2, h3, h4⟩
theorem own_leaveW (X : Stand p l e R (s.setVm vm0) m args below meth c T locs cells slots) {k0 : Nat} (hS : s.Since vm0 k0) (hk : k0 ≤ T.heap.size) (hlk : meth.locks = false) {v : Option Value} (hv : meth.sig.returnType = none → v = none) {rm : Room} {Q : Option Value → Heap → List Loc → Prop} (hc : cells ≤ rm.cells) (hs : slots ≤ rm.slots) (hQ : Q v T.heap locs) {U : State}
    (hstep : ∀ fs, (∀ (f : JFrame) (acts : List Action), f.method = m → f.locked = none → f.entered = [] → (doReturn e (T.setTop f) acts v).1 = T.setFrames fs) → Steps p.tables e below U (T.setFrames fs)) : OGoes p.tables e below (ODoneW rm s below Q) U := by
  obtain ⟨fs, hr, hrun, hended, hW⟩ := X.leaveW hS hk (v := v) hv hlk
  exact ⟨_, hstep fs hr, _, hrun, hended, v, locs, rfl, hQ, hW.1, hW.2.1, hW.2.2.1, hW.2.2.2.mono hc hs⟩
theorem own_retIW (X : Stand p l e R (s.setVm vm0) m args below meth c T locs cells slots) {k0 : Nat} (hS : s.Since vm0 k0) (hk : k0 ≤ T.heap.size) (hx : p.tables.exec = Jvm.exec) (hlk : meth.locks = false) (hret : meth.sig.returnType = some .int) {pc : Nat} {Ls : Array Slot} {z : Int32} {rest : List Value} (hd : decode c.code pc = .ok (.ireturn, 1))
    {rm : Room} {Q : Option Value → Heap → List Loc → Prop} (hc : cells ≤ rm.cells) (hs : slots ≤ rm.slots) (hQ : Q (some (.int z)) T.heap locs) : OGoes p.tables e below (ODoneW rm s below Q) (T.setTop (mkF m pc Ls (.int z :: rest))) :=
  own_leaveW X hS hk hlk (fun h => by rw [hret] at h; cases h) hc hs hQ fun fs hr => retOut X hx hret rfl (Or.inl ⟨rfl, Or.inl rfl, z, rfl⟩) hd hr
theorem own_retNW (X : Stand p l e R (s.setVm vm0) m args below meth c T locs cells slots) {k0 : Nat} (hS : s.Since vm0 k0) (hk : k0 ≤ T.heap.size) (hx : p.tables.exec = Jvm.exec) (hlk : meth.locks = false) {t : FieldType} (ht : t = .boolean ∨ t = .byte ∨ t = .char ∨ t = .short) (hret : meth.sig.returnType = some t) {pc : Nat} {Ls : Array Slot} {z : Int32} {rest : List Value} (hd : decode c.code pc = .ok (.ireturn, 1))
    {rm : Room} {Q : Option Value → Heap → List Loc → Prop} (hc : cells ≤ rm.cells) (hs : slots ≤ rm.slots) (hQ : Q (some (.int (nar t z))) T.heap locs) : OGoes p.tables e below (ODoneW rm s below Q) (T.setTop (mkF m pc Ls (.int z :: rest))) :=
  own_leaveW X hS hk hlk (fun h => by rw [hret] at h; cases h) hc hs hQ fun fs hr => retN X hx hret ht hd hr
theorem own_retAW (X : Stand p l e R (s.setVm vm0) m args below meth c T locs cells slots) {k0 : Nat} (hS : s.Since vm0 k0) (hk : k0 ≤ T.heap.size) (hx : p.tables.exec = Jvm.exec) (hlk : meth.locks = false) {t : FieldType} (ht : t.isReference = true) (hret : meth.sig.returnType = some t) {pc : Nat} {Ls : Array Slot} {w : Value} {rest : List Value} (hw : w.isRef = true) (hd : decode c.code pc = .ok (.areturn, 1))
    {rm : Room} {Q : Option Value → Heap → List Loc → Prop} (hc : cells ≤ rm.cells) (hs : slots ≤ rm.slots) (hQ : Q (some w) T.heap locs) : OGoes p.tables e below (ODoneW rm s below Q) (T.setTop (mkF m pc Ls (w :: rest))) :=
  own_leaveW X hS hk hlk (fun h => by rw [hret] at h; cases h) hc hs hQ fun fs hr => retOut X hx hret (by cases t <;> first | (cases ht; done) | (cases w <;> first | rfl | (cases hw; done))) (Or.inr (Or.inr (Or.inr (Or.inr ⟨rfl, ht, hw⟩)))) hd hr
theorem own_retVW (X : Stand p l e R (s.setVm vm0) m args below meth c T locs cells slots) {k0 : Nat} (hS : s.Since vm0 k0) (hk : k0 ≤ T.heap.size) (hx : p.tables.exec = Jvm.exec) (hlk : meth.locks = false) (hret : meth.sig.returnType = none) {pc : Nat} {Ls : Array Slot} (hd : decode c.code pc = .ok (.return_, 1))
    {rm : Room} {Q : Option Value → Heap → List Loc → Prop} (hc : cells ≤ rm.cells) (hs : slots ≤ rm.slots) (hQ : Q none T.heap locs) : OGoes p.tables e below (ODoneW rm s below Q) (T.setTop (mkF m pc Ls [])) :=
  own_leaveW X hS hk hlk (fun _ => rfl) hc hs hQ fun fs hr => X.returnOut hx hret hd hr
theorem own_ldc (X : Stand p l e R (s.setVm vm0) m args below meth c T locs cells slots) (hx : p.tables.exec = Jvm.exec) (hZ : Z.Warmed39 (s.setVm vm0).vm) (eT : T.heap = h) {own text : String} {index : Nat} (hown : (s.setVm vm0).vm.findClass own = some m.cls) (w : (Jvm.Cond.stringLink own index text).before a0 Z = true) (wS : ∀ a ∈ Bundle.stringAtoms, a.before a0 Z = true) {k0 : Nat} (hS : s.Since vm0 k0) (hk : k0 ≤ h.size)
    {n : Nat} (hn : 4 * text.toList.length ≤ n) (hbig : n ≤ 536870912) (hc : cells + 2 ≤ R.cells) (hl : slots + (n + 4) ≤ R.slots) {pc : Nat} {Ls : Array Slot} {st : List Value} (hd : decode c.code pc = .ok (.ldc index, 2))
    (kk : ∀ (a : Nat) (T' : State) (h' : Heap) (k1 : Nat), Stand p l e R (s.setVm T'.vm) m args below meth c T' locs (cells + 2) (slots + (n + 4)) → T'.heap = h' → Ext h h' → s.Since T'.vm k1 → k1 ≤ h'.size → Z.Warmed39 (s.setVm T'.vm).vm → (s.setVm T'.vm).vm.findClass own = some m.cls → OGoes p.tables e below Φ (T'.setTop (mkF m (pc + 2) Ls (.ref a :: st)))) : OGoes p.tables e below Φ (T.setTop (mkF m pc Ls st)) := by
  obtain ⟨a, T', h', k1, X', e', E', hS', hk', hZ', hown', st'⟩ := ldcS X hx hZ hown w wS eT hS hk (g := mkF m pc Ls st) rfl hd hn hbig hc hl
  exact own_st st' (kk a T' h' k1 X' e' E' hS' hk' hZ' hown')
theorem own_callSW (X : Stand p l e R (s.setVm vm0) m args below meth c T locs cells slots) (hx : p.tables.exec = Jvm.exec) (hZ : Z.Warmed39 (s.setVm vm0).vm) {k0 : Nat} (hS : s.Since vm0 k0) (hk : k0 ≤ h.size) {own : String} {index : Nat} {y : MethodName} {bytes : ByteArray} {ml : Nat} {ret : Option FieldType} {rm : Room} {as : Array Value} {Q : Option Value → Heap → List Loc → Prop}
    (hown : (s.setVm vm0).vm.findClass own = some m.cls) (w1 : (Jvm.Cond.methodLink own index y).before a0 Z = true) (w2 : (Jvm.Cond.static y).before a0 Z = true) (w3 : (Jvm.Cond.initialized y.cls).before a0 Z = true) (w4 : (Jvm.Cond.code y bytes ml ret).before a0 Z = true) (hy : y.cls ≠ "java/lang/invoke/MethodHandle" ∧ y.cls ≠ "java/lang/invoke/VarHandle")
    (hM : OMetW l Z y bytes ml ret rm as h Q) (eT : T.heap = h) {pc : Nat} {Ls : Array Slot} {st : List Value} (hsz : Ls.size = c.maxLocals) {argsL rest : List Value} {sig : MethodDescriptor} (hp : parseMethodDescriptor y.desc = some sig) (hn : argsL.length = sig.parameters.length) (has : argsL.toArray = as) (hst : st = argsL.reverse ++ rest)
    {W : Nat} (hW : (rest.map fun v => v.category).sum ≤ W) (hd : decode c.code pc = .ok (.invokestatic index, 3)) (hf : rm.frames + 1 ≤ R.frames) (hl : W + (ml + 11) + rm.locals ≤ R.locals) (hc : cells + rm.cells ≤ R.cells) (hs : slots + rm.slots ≤ R.slots)
    (k : ∀ (v : Option Value) (T' : State) (L' : List Loc), Stand p l e R (s.setVm T'.vm) m args below meth c T' (locs ++ L') (cells + rm.cells) (slots + rm.slots) → s.Since T'.vm T'.heap.size → Z.Warmed39 (s.setVm T'.vm).vm → (s.setVm T'.vm).vm.findClass own = some m.cls → Q v T'.heap L' → OGoes p.tables e below Φ (T'.setTop (mkF m (pc + 3) Ls (v.toList ++ rest)))) : OGoes p.tables e below Φ (T.setTop (mkF m pc Ls st)) := by
  obtain ⟨v, vm1, ⟨T', L, kk, nn⟩, -, X', hS', hg, ⟨Lc, hQ, l1, l2, l3⟩, st'⟩ := callSS X hx (y := y) hown (mvT hZ w1) (mvT hZ w2) (mvT hZ w3) (mvT hZ w4) hy (backOfS (W := W) (hM []) hZ w4 w3 hf hl) (g := mkF m pc Ls st) rfl hsz (argsL := argsL) (rest := rest) (fun sg h => by cases hp.symm.trans h; exact hn) hst (by show 2 * 0 + _ ≤ _; omega) hd (fun _ _ => ⟨has, eT, hc, hs⟩)
  dsimp only [Pt.U, Pt.locs, Pt.cells, Pt.slots] at X' l1 l2 l3 st' hQ hS' hg
  subst l1 l2 l3
  refine own_tr st' (k v T' Lc X' (hS.trans hS' (Nat.le_trans (by rw [eT]; exact hk) hg)) (State.Warmed39.trans (t := s.setVm vm0) hZ hS'.1) ?_ hQ)
  rw [show (s.setVm T'.vm).vm = T'.vm from rfl, hS'.1.alike.findClass]; exact hown
theorem own_callNW (X : Stand p l e R (s.setVm vm0) m args below meth c T locs cells slots) (hx : p.tables.exec = Jvm.exec) (hZ : Z.Warmed39 (s.setVm vm0).vm) {k0 : Nat} (hS : s.Since vm0 k0) (hk : k0 ≤ h.size) {own : String} {index : Nat} {y : MethodName} {bytes : ByteArray} {ml : Nat} {rm : Room} {as : Array Value} {Q : Option Value → Heap → List Loc → Prop} (hy1 : y.name = "<init>")
    (hown : (s.setVm vm0).vm.findClass own = some m.cls) (w1 : (Jvm.Cond.methodLink own index y).before a0 Z = true) (w4' : (Jvm.Cond.instanceMethod y).before a0 Z = true) (w3 : (Jvm.Cond.initialized y.cls).before a0 Z = true) (w4 : (Jvm.Cond.code y bytes ml none).before a0 Z = true) (hy : y.cls ≠ "java/lang/invoke/MethodHandle" ∧ y.cls ≠ "java/lang/invoke/VarHandle")
    (hM : OMetW l Z y bytes ml none rm as h Q) (eT : T.heap = h) {b : Addr} {pc : Nat} {Ls : Array Slot} {st : List Value} (hsz : Ls.size = c.maxLocals) {argsL rest : List Value} {sig : MethodDescriptor} (hp : parseMethodDescriptor y.desc = some sig) (hn : argsL.length = sig.parameters.length) (has : (.ref b :: argsL).toArray = as) (hst : st = argsL.reverse ++ .ref b :: rest)
    {W : Nat} (hW : (rest.map fun v => v.category).sum ≤ W) (hd : decode c.code pc = .ok (.invokespecial index, 3)) (hf : rm.frames + 1 ≤ R.frames) (hl : W + (ml + 11) + rm.locals ≤ R.locals) (hc : cells + rm.cells ≤ R.cells) (hs : slots + rm.slots ≤ R.slots)
    (k : ∀ (v : Option Value) (T' : State) (L' : List Loc), Stand p l e R (s.setVm T'.vm) m args below meth c T' (locs ++ L') (cells + rm.cells) (slots + rm.slots) → s.Since T'.vm T'.heap.size → Z.Warmed39 (s.setVm T'.vm).vm → (s.setVm T'.vm).vm.findClass own = some m.cls → Q v T'.heap L' → OGoes p.tables e below Φ (T'.setTop (mkF m (pc + 3) Ls (v.toList ++ rest)))) : OGoes p.tables e below Φ (T.setTop (mkF m pc Ls st)) := by
  obtain ⟨v, vm1, ⟨T', L, kk, nn⟩, -, X', hS', hg, ⟨Lc, hQ, l1, l2, l3⟩, st'⟩ := X.specialBackS hx (y := y) hy1 hown (mvT hZ w1) (mvT hZ w4') (mvT hZ w4) hy (backOfS (W := W) (hM []) hZ w4 w3 hf hl) (g := mkF m pc Ls st) rfl hsz (Steps.refl _) (a := b) (argsL := argsL) (rest := rest) (fun sg h => by cases hp.symm.trans h; exact hn) hst (by show 2 * 0 + _ ≤ _; omega) hd (fun _ _ => ⟨has, eT, hc, hs⟩)
  dsimp only [Pt.U, Pt.locs, Pt.cells, Pt.slots] at X' l1 l2 l3 st' hQ hS' hg
  subst l1 l2 l3
  refine own_tr st' (k v T' Lc X' (hS.trans hS' (Nat.le_trans (by rw [eT]; exact hk) hg)) (State.Warmed39.trans (t := s.setVm vm0) hZ hS'.1) ?_ hQ)
  rw [show (s.setVm T'.vm).vm = T'.vm from rfl, hS'.1.alike.findClass]; exact hown
end OwnKitW
end Jvm.Pilot.@@N@@
namespace Jvm.Pilot.@@N@@
open Jvm Jvm.ClassFile Sem Op Lib Jvm.Free Jvm.Stand Jvm.LawKit Jvm.RoadKit Bundle Jvm.Pilot.@@N@@.Jvm.D
theorem pf_0 : plainFor x = true := by first | (refine plainFor_of_name ?_; simp [x, plainName, overriddenIn]; done) | decide +kernel
theorem pf_1 : plainFor (⟨"com/example/tallydb/tallydb/SubscriptionStart", "after", "(J)Lcom/example/tallydb/tallydb/SubscriptionStart;"⟩ : MethodName) = true := by first | (refine plainFor_of_name ?_; simp [plainName, overriddenIn]; done) | decide +kernel
theorem pf_2 : plainFor (⟨"com/example/tallydb/tallydb/Bounds", "requireAtLeast", "(Ljava/lang/String;Ljava/lang/String;JJ)V"⟩ : MethodName) = true := by first | (refine plainFor_of_name ?_; simp [plainName, overriddenIn]; done) | decide +kernel
theorem pf_3 : plainFor (⟨"com/example/tallydb/tallydb/SubscriptionStart", "<init>", "(JZ)V"⟩ : MethodName) = true := by first | (refine plainFor_of_name ?_; simp [plainName, overriddenIn]; done) | decide +kernel
theorem pf_5 : plainFor (⟨"com/example/tallydb/tallydb/SubscriptionStart", "position", "()J"⟩ : MethodName) = true := by first | (refine plainFor_of_name ?_; simp [plainName, overriddenIn]; done) | decide +kernel
theorem pf_6 : plainFor (⟨"com/example/tallydb/tallydb/SubscriptionStart", "isFromNow", "()Z"⟩ : MethodName) = true := by first | (refine plainFor_of_name ?_; simp [plainName, overriddenIn]; done) | decide +kernel
theorem pf_7 : plainFor (⟨"com/example/tallydb/tallydb/SubscriptionStart", "equals", "(Ljava/lang/Object;)Z"⟩ : MethodName) = true := by first | (refine plainFor_of_name ?_; simp [plainName, overriddenIn]; done) | decide +kernel
theorem pd_0 : parseMethodDescriptor "(Ljava/lang/String;Ljava/lang/String;JJ)V" = some ⟨[(.object "java/lang/String"), (.object "java/lang/String"), .long, .long], none⟩ := by decide +kernel
theorem pd_1 : parseMethodDescriptor "(JZ)V" = some ⟨[.long, .boolean], none⟩ := by decide +kernel
theorem pd_2 : parseMethodDescriptor "(J)Lcom/example/tallydb/tallydb/SubscriptionStart;" = some ⟨[.long], some (.object "com/example/tallydb/tallydb/SubscriptionStart")⟩ := by decide +kernel
theorem pd_3 : parseMethodDescriptor "()J" = some ⟨[], some .long⟩ := by decide +kernel
theorem pd_4 : parseMethodDescriptor "()Z" = some ⟨[], some .boolean⟩ := by decide +kernel
theorem pd_5 : parseMethodDescriptor "(Ljava/lang/Object;)Z" = some ⟨[(.object "java/lang/Object")], some .boolean⟩ := by decide +kernel
theorem d1_0 : decode prog_31_method_2_code 0 = .ok (.ldc 17, 2) := by decide +kernel
theorem d1_2 : decode prog_31_method_2_code 2 = .ok (.ldc 18, 2) := by decide +kernel
theorem d1_4 : decode prog_31_method_2_code 4 = .ok (.lconst 0, 1) := by decide +kernel
theorem d1_5 : decode prog_31_method_2_code 5 = .ok (.lload_n 0, 1) := by decide +kernel
theorem d1_6 : decode prog_31_method_2_code 6 = .ok (.invokestatic 20, 3) := by decide +kernel
theorem d1_9 : decode prog_31_method_2_code 9 = .ok (.new 8, 3) := by decide +kernel
theorem d1_12 : decode prog_31_method_2_code 12 = .ok (.dup, 1) := by decide +kernel
theorem d1_13 : decode prog_31_method_2_code 13 = .ok (.lload_n 0, 1) := by decide +kernel
theorem d1_14 : decode prog_31_method_2_code 14 = .ok (.iconst 0, 1) := by decide +kernel
theorem d1_15 : decode prog_31_method_2_code 15 = .ok (.invokespecial 26, 3) := by decide +kernel
theorem d1_18 : decode prog_31_method_2_code 18 = .ok (.areturn, 1) := by decide +kernel
theorem d2_0 : decode prog_3_method_2_code 0 = .ok (.lload 4, 2) := by decide +kernel
theorem d2_2 : decode prog_3_method_2_code 2 = .ok (.lload_n 2, 1) := by decide +kernel
theorem d2_3 : decode prog_3_method_2_code 3 = .ok (.lcmp, 1) := by decide +kernel
theorem d2_4 : decode prog_3_method_2_code 4 = .ok (.ifCond .ge 16, 3) := by decide +kernel
theorem d2_20 : decode prog_3_method_2_code 20 = .ok (.return_, 1) := by decide +kernel
theorem d3_0 : decode prog_31_method_1_code 0 = .ok (.aload_n 0, 1) := by decide +kernel
theorem d3_1 : decode prog_31_method_1_code 1 = .ok (.invokespecial 1, 3) := by decide +kernel
theorem d3_4 : decode prog_31_method_1_code 4 = .ok (.aload_n 0, 1) := by decide +kernel
theorem d3_5 : decode prog_31_method_1_code 5 = .ok (.lload_n 1, 1) := by decide +kernel
theorem d3_6 : decode prog_31_method_1_code 6 = .ok (.putfield 7, 3) := by decide +kernel
theorem d3_9 : decode prog_31_method_1_code 9 = .ok (.aload_n 0, 1) := by decide +kernel
theorem d3_10 : decode prog_31_method_1_code 10 = .ok (.iload_n 3, 1) := by decide +kernel
theorem d3_11 : decode prog_31_method_1_code 11 = .ok (.putfield 13, 3) := by decide +kernel
theorem d3_14 : decode prog_31_method_1_code 14 = .ok (.return_, 1) := by decide +kernel
theorem d5_0 : decode prog_31_method_3_code 0 = .ok (.aload_n 0, 1) := by decide +kernel
theorem d5_1 : decode prog_31_method_3_code 1 = .ok (.getfield 7, 3) := by decide +kernel
theorem d5_4 : decode prog_31_method_3_code 4 = .ok (.lreturn, 1) := by decide +kernel
theorem d6_0 : decode prog_31_method_4_code 0 = .ok (.aload_n 0, 1) := by decide +kernel
theorem d6_1 : decode prog_31_method_4_code 1 = .ok (.getfield 13, 3) := by decide +kernel
theorem d6_4 : decode prog_31_method_4_code 4 = .ok (.ireturn, 1) := by decide +kernel
theorem d7_0 : decode prog_31_method_6_code 0 = .ok (.aload_n 1, 1) := by decide +kernel
theorem d7_1 : decode prog_31_method_6_code 1 = .ok (.instanceof 8, 3) := by decide +kernel
theorem d7_4 : decode prog_31_method_6_code 4 = .ok (.ifCond .eq 35, 3) := by decide +kernel
theorem d7_7 : decode prog_31_method_6_code 7 = .ok (.aload_n 1, 1) := by decide +kernel
theorem d7_8 : decode prog_31_method_6_code 8 = .ok (.checkcast 8, 3) := by decide +kernel
theorem d7_11 : decode prog_31_method_6_code 11 = .ok (.astore_n 2, 1) := by decide +kernel
theorem d7_12 : decode prog_31_method_6_code 12 = .ok (.aload_n 0, 1) := by decide +kernel
theorem d7_13 : decode prog_31_method_6_code 13 = .ok (.getfield 7, 3) := by decide +kernel
theorem d7_16 : decode prog_31_method_6_code 16 = .ok (.aload_n 2, 1) := by decide +kernel
theorem d7_17 : decode prog_31_method_6_code 17 = .ok (.getfield 7, 3) := by decide +kernel
theorem d7_20 : decode prog_31_method_6_code 20 = .ok (.lcmp, 1) := by decide +kernel
theorem d7_21 : decode prog_31_method_6_code 21 = .ok (.ifCond .ne 18, 3) := by decide +kernel
theorem d7_24 : decode prog_31_method_6_code 24 = .ok (.aload_n 0, 1) := by decide +kernel
theorem d7_25 : decode prog_31_method_6_code 25 = .ok (.getfield 13, 3) := by decide +kernel
theorem d7_28 : decode prog_31_method_6_code 28 = .ok (.aload_n 2, 1) := by decide +kernel
theorem d7_29 : decode prog_31_method_6_code 29 = .ok (.getfield 13, 3) := by decide +kernel
theorem d7_32 : decode prog_31_method_6_code 32 = .ok (.if_icmp .ne 7, 3) := by decide +kernel
theorem d7_35 : decode prog_31_method_6_code 35 = .ok (.iconst 1, 1) := by decide +kernel
theorem d7_36 : decode prog_31_method_6_code 36 = .ok (.goto 4, 3) := by decide +kernel
theorem d7_39 : decode prog_31_method_6_code 39 = .ok (.iconst 0, 1) := by decide +kernel
theorem d7_40 : decode prog_31_method_6_code 40 = .ok (.ireturn, 1) := by decide +kernel
theorem own_pos (x : Int64) : ¬ (x &&& (9223372036854775807 : Int64)) < 0 := by
  have h := c_maskL x 9223372036854775807 63 (by decide) (by decide)
  rw [Int64.lt_iff_toInt_lt, h]
  simp only [show (0 : Int64).toInt = 0 from rfl]
  omega
theorem own_fld_long {args : Array Value} {s : State} {t : Term} {C n d : String} {a : Addr} {k : Int64} (ht : t.eval args s none [] s = some (.ref a)) (h : (Jvm.Cond.eq (.field t C n d) (.long k)).value args s none s [] = some true) : Fld s s.heap a C n d (.long k) := by
  have e : (Term.field t C n d).eval args s none [] s = s.fieldOf? a C n d := fld_at ht
  cases hx : s.fieldOf? a C n d with
  | none => simp [Cond.value, e, hx] at h
  | some v =>
    have e2 : (Term.long k).eval args s none [] s = some (.long k) := rfl
    cases v <;> simp [Cond.value, e, hx, e2] at h
    subst h
    exact Fld.start hx
theorem own_wS {Z : State} {a0 : Array Value} (hw : ∀ d ∈ tables_1, d.before a0 Z = true) : ∀ a ∈ Bundle.stringAtoms, a.before a0 Z = true := by
  intro a ha
  simp only [Bundle.stringAtoms, List.mem_cons, List.not_mem_nil, or_false] at ha
  rcases ha with rfl | rfl | rfl | rfl | rfl | rfl | rfl
  · exact (hw _ (List.mem_of_getElem? (i := 6) rfl))
  · exact (hw _ (List.mem_of_getElem? (i := 7) rfl))
  · exact (hw _ (List.mem_of_getElem? (i := 8) rfl))
  · exact (hw _ (List.mem_of_getElem? (i := 9) rfl))
  · exact (hw _ (List.mem_of_getElem? (i := 10) rfl))
  · exact (hw _ (List.mem_of_getElem? (i := 11) rfl))
  · exact (hw _ (List.mem_of_getElem? (i := 12) rfl))
theorem ef_rmB (m : MethodId) (x0 : Nat) (x1 : Nat) (x2 : Int64) (x3 : Int64) : entryFrame m #[(.ref x0), (.ref x1), (.long x2), (.long x3)] 6 = mkF m 0 #[.val (.ref x0), .val (.ref x1), .val (.long x2), .second, .val (.long x3), .second] [] := by first | (simp [entryFrame, mkF, argsToLocals, Value.category]; done) | rfl
set_option maxRecDepth 65536 in
set_option maxHeartbeats 40000000 in
theorem rmB (l : Launch) (Z : State) (a0 : Array Value) (hw : ∀ d ∈ tables_1, d.before a0 Z = true) (s1 s2 : Nat) (q : Int64) (hq : ¬ q < 0) (h0 : Heap)  :
    OPure l Z (⟨"com/example/tallydb/tallydb/Bounds", "requireAtLeast", "(Ljava/lang/String;Ljava/lang/String;JJ)V"⟩ : MethodName) prog_3_method_2_code 6 none 0 0 #[(.ref s1), (.ref s2), (.long (0 : Int64)), (.long q)] h0 none := by
  refine own_body pf_2 ?_
  intro p e s m below meth c T0 X0 hx hby hml hZ hown hnm hret hlk e0
  replace hown : s.vm.findClass "com/example/tallydb/tallydb/Bounds" = some m.cls := hown
  refine own_cast (ef_rmB m (s1) (s2) ((0 : Int64)) (q)) ?_
  show OGoes p.tables e below _ (T0.setTop (mkF m 0 #[.val (.ref s1), .val (.ref s2), .val (.long (0 : Int64)), .second, .val (.long q), .second] []))
  refine own_st (V := (T0.setTop (mkF m 2 #[.val (.ref s1), .val (.ref s2), .val (.long (0 : Int64)), .second, .val (.long q), .second] [(.long q)]))) (fun t ks => XS.lload X0.here hx rfl (hb hby d2_0) rfl ks) ?_
  refine own_st (V := (T0.setTop (mkF m 3 #[.val (.ref s1), .val (.ref s2), .val (.long (0 : Int64)), .second, .val (.long q), .second] [(.long (0 : Int64)), (.long q)]))) (fun t ks => XS.lloadN X0.here hx rfl (hb hby d2_2) rfl ks) ?_
  refine own_st (V := (T0.setTop (mkF m 4 #[.val (.ref s1), .val (.ref s2), .val (.long (0 : Int64)), .second, .val (.long q), .second] [(.int (lcmpW q (0 : Int64)))]))) (fun t ks => XS.lcmp X0.here hx rfl (hb hby d2_3) rfl ks) ?_
  refine own_st (V := (T0.setTop (mkF m 20 #[.val (.ref s1), .val (.ref s2), .val (.long (0 : Int64)), .second, .val (.long q), .second] []))) (fun t ks => XS.ifYes X0.here hx rfl (pc0 := 4) (pc' := 20) rfl (hb hby d2_4) rfl (XT.ll_ge_t hq) (by decide) (by decide) ks) ?_
  exact own_retV X0 hx hlk hret (hb hby d2_20) (by decide) (by decide) ⟨rfl, e0, rfl⟩
theorem ef_rmI (m : MethodId) (x0 : Nat) (x1 : Int64) (x2 : Int32) : entryFrame m #[(.ref x0), (.long x1), (.int x2)] 4 = mkF m 0 #[.val (.ref x0), .val (.long x1), .second, .val (.int x2)] [] := by first | (simp [entryFrame, mkF, argsToLocals, Value.category]; done) | rfl
set_option maxRecDepth 65536 in
set_option maxHeartbeats 40000000 in
theorem rmI (l : Launch) (Z : State) (a0 : Array Value) (hw : ∀ d ∈ tables_1, d.before a0 Z = true) (a : Nat) (q : Int64) (h0 : Heap) (E : Exa Z h0 a "com/example/tallydb/tallydb/SubscriptionStart") (Fp : Fld Z h0 a "com/example/tallydb/tallydb/SubscriptionStart" "position" "J" (.long 0)) (Ff : Fld Z h0 a "com/example/tallydb/tallydb/SubscriptionStart" "fromNow" "Z" (.int 0)) (ge : Z.heap.size ≤ a) :
    OMet l Z (⟨"com/example/tallydb/tallydb/SubscriptionStart", "<init>", "(JZ)V"⟩ : MethodName) prog_31_method_1_code 4 none ⟨1, 0, 0, 12⟩ #[(.ref a), (.long q), (.int (0 : Int32))] h0 (fun v h L => v = none ∧ Fr Z.heap.size L ∧ Keep h0 h [a] ∧ Exa Z h a "com/example/tallydb/tallydb/SubscriptionStart" ∧ Fld Z h a "com/example/tallydb/tallydb/SubscriptionStart" "position" "J" (.long q) ∧ Fld Z h a "com/example/tallydb/tallydb/SubscriptionStart" "fromNow" "Z" (.int 0)) := by
  refine own_body pf_3 ?_
  intro p e s m below meth c T0 X0 hx hby hml hZ hown hnm hret hlk e0
  replace hown : s.vm.findClass "com/example/tallydb/tallydb/SubscriptionStart" = some m.cls := hown
  refine own_cast (ef_rmI m (a) (q) ((0 : Int32))) ?_
  show OGoes p.tables e below _ (T0.setTop (mkF m 0 #[.val (.ref a), .val (.long q), .second, .val (.int (0 : Int32))] []))
  have K := Keep.refl h0 [a]
  refine own_st (V := (T0.setTop (mkF m 1 #[.val (.ref a), .val (.long q), .second, .val (.int (0 : Int32))] [(.ref a)]))) (fun t ks => XS.aloadN X0.here hx rfl (hb hby d3_0) rfl rfl ks) ?_
  obtain ⟨T1, X1, e1, st1⟩ := initO X0 hx hZ hown (hw _ (List.mem_of_getElem? (i := 23) rfl)) (hw _ (List.mem_of_getElem? (i := 24) rfl)) (hw _ (List.mem_of_getElem? (i := 25) rfl)) e0 (g := (mkF m 1 #[.val (.ref a), .val (.long q), .second, .val (.int (0 : Int32))] [(.ref a)])) rfl (by rw [hml]; rfl) rfl (hb hby d3_1) (by decide) (W := 0) (by show 2 * 0 + _ ≤ _; exact Nat.le_of_eq rfl) (by decide)
  refine own_st (V := (T1.setTop (mkF m 4 #[.val (.ref a), .val (.long q), .second, .val (.int (0 : Int32))] []))) st1 ?_
  refine own_st (V := (T1.setTop (mkF m 5 #[.val (.ref a), .val (.long q), .second, .val (.int (0 : Int32))] [(.ref a)]))) (fun t ks => XS.aloadN X1.here hx rfl (hb hby d3_4) rfl rfl ks) ?_
  refine own_st (V := (T1.setTop (mkF m 6 #[.val (.ref a), .val (.long q), .second, .val (.int (0 : Int32))] [(.long q), (.ref a)]))) (fun t ks => XS.lloadN X1.here hx rfl (hb hby d3_5) rfl ks) ?_
  refine own_putfield X1 hx hZ e1 hown (hw _ (List.mem_of_getElem? (i := 26) rfl)) Fp E (Or.inr ⟨(hw _ (List.mem_of_getElem? (i := 27) rfl)), rfl, hnm⟩) (hw _ (List.mem_of_getElem? (i := 19) rfl)) (ty := .long) (by decide) rfl rfl (Fr.nil Z.heap.size) (by omega) (hb hby d3_6) ?_
  intro T2 h2 L2 X2 e2 N2 W2 Fn2
  replace K := K.wr W2 (Or.inl (by simp))
  replace E := E.wr W2
  replace Ff := Ff.other W2 (Or.inr (slot_ne (Or.inr (hw _ (List.mem_of_getElem? (i := 29) rfl))) (Or.inr (hw _ (List.mem_of_getElem? (i := 27) rfl))) (by decide) (t := .boolean) (by decide) (t' := .long) (by decide)))
  replace Fp := Fn2
  show OGoes p.tables e below _ (T2.setTop (mkF m 9 #[.val (.ref a), .val (.long q), .second, .val (.int (0 : Int32))] []))
  refine own_st (V := (T2.setTop (mkF m 10 #[.val (.ref a), .val (.long q), .second, .val (.int (0 : Int32))] [(.ref a)]))) (fun t ks => XS.aloadN X2.here hx rfl (hb hby d3_9) rfl rfl ks) ?_
  refine own_st (V := (T2.setTop (mkF m 11 #[.val (.ref a), .val (.long q), .second, .val (.int (0 : Int32))] [(.int (0 : Int32)), (.ref a)]))) (fun t ks => XS.iloadN X2.here hx rfl (hb hby d3_10) rfl ks) ?_
  refine own_putfield X2 hx hZ e2 hown (hw _ (List.mem_of_getElem? (i := 28) rfl)) Ff E (Or.inr ⟨(hw _ (List.mem_of_getElem? (i := 29) rfl)), rfl, hnm⟩) (hw _ (List.mem_of_getElem? (i := 19) rfl)) (ty := .boolean) (by decide) rfl rfl N2 (by omega) (hb hby d3_11) ?_
  intro T3 h3 L3 X3 e3 N3 W3 Fn3
  replace K := K.wr W3 (Or.inl (by simp))
  replace E := E.wr W3
  replace Fp := Fp.other W3 (Or.inr (slot_ne (Or.inr (hw _ (List.mem_of_getElem? (i := 27) rfl))) (Or.inr (hw _ (List.mem_of_getElem? (i := 29) rfl))) (by decide) (t := .long) (by decide) (t' := .boolean) (by decide)))
  replace Ff := Fn3
  show OGoes p.tables e below _ (T3.setTop (mkF m 14 #[.val (.ref a), .val (.long q), .second, .val (.int (0 : Int32))] []))
  exact own_retV X3 hx hlk hret (hb hby d3_14) (by decide) (by decide) ⟨rfl, N3, by rw [e3]; exact ⟨K, E, Fp, Ff⟩⟩
theorem ef_rmA (m : MethodId) (x0 : Int64) : entryFrame m #[(.long x0)] 2 = mkF m 0 #[.val (.long x0), .second] [] := by first | (simp [entryFrame, mkF, argsToLocals, Value.category]; done) | rfl
set_option maxRecDepth 65536 in
set_option maxHeartbeats 40000000 in
theorem rmA (l : Launch) (Z : State) (a0 : Array Value) (hw : ∀ d ∈ tables_1, d.before a0 Z = true) (q : Int64) (hq : ¬ q < 0) (h0 : Heap) (hZ0 : Z.heap.size ≤ h0.size) :
    OMetW l Z (⟨"com/example/tallydb/tallydb/SubscriptionStart", "after", "(J)Lcom/example/tallydb/tallydb/SubscriptionStart;"⟩ : MethodName) prog_31_method_2_code 2 (some (.object "com/example/tallydb/tallydb/SubscriptionStart")) ⟨2, 5, 158, 40⟩ #[(.long q)] h0 (fun v h L => Fr Z.heap.size L ∧ Keep h0 h [] ∧ ∃ a : Nat, v = some (.ref a) ∧ h0.size ≤ a ∧ Exa Z h a "com/example/tallydb/tallydb/SubscriptionStart" ∧ Fld Z h a "com/example/tallydb/tallydb/SubscriptionStart" "position" "J" (.long q) ∧ Fld Z h a "com/example/tallydb/tallydb/SubscriptionStart" "fromNow" "Z" (.int 0)) := by
  refine own_bodyW pf_1 ?_
  intro p e s vm0 k0 m below meth c T0 X0 hS hk hx hby hml hZ hown hnm hret hlk e0 hs0
  replace hown : (s.setVm vm0).vm.findClass "com/example/tallydb/tallydb/SubscriptionStart" = some m.cls := hown
  refine own_cast (ef_rmA m (q)) ?_
  show OGoes p.tables e below _ (T0.setTop (mkF m 0 #[.val (.long q), .second] []))
  have K := Keep.refl h0 []
  refine own_ldc X0 hx hZ e0 hown (hw _ (List.mem_of_getElem? (i := 5) rfl)) (own_wS hw) hS hk (n := 32) (by decide +kernel) (by decide) (by decide) (by decide) (hb hby d1_0) ?_
  intro a4 T4 h4 k4 X4 e4 Ex4 hS hk hZ hown
  replace K := K.ext Ex4
  show OGoes p.tables e below _ (T4.setTop (mkF m 2 #[.val (.long q), .second] [(.ref a4)]))
  refine own_ldc X4 hx hZ e4 hown (hw _ (List.mem_of_getElem? (i := 13) rfl)) (own_wS hw) hS hk (n := 116) (by decide +kernel) (by decide) (by decide) (by decide) (hb hby d1_2) ?_
  intro a5 T5 h5 k5 X5 e5 Ex5 hS hk hZ hown
  replace K := K.ext Ex5
  show OGoes p.tables e below _ (T5.setTop (mkF m 4 #[.val (.long q), .second] [(.ref a5), (.ref a4)]))
  refine own_st (V := (T5.setTop (mkF m 5 #[.val (.long q), .second] [(.long (0 : Int64)), (.ref a5), (.ref a4)]))) (fun t ks => XS.lconst X5.here hx rfl (hb hby d1_4) ks) ?_
  refine own_st (V := (T5.setTop (mkF m 6 #[.val (.long q), .second] [(.long q), (.long (0 : Int64)), (.ref a5), (.ref a4)]))) (fun t ks => XS.lloadN X5.here hx rfl (hb hby d1_5) rfl ks) ?_
  refine own_callS0 X5 hx hZ hown (hw _ (List.mem_of_getElem? (i := 14) rfl)) (hw _ (List.mem_of_getElem? (i := 15) rfl)) (hw _ (List.mem_of_getElem? (i := 16) rfl)) (hw _ (List.mem_of_getElem? (i := 17) rfl)) (by decide) (rmB l Z a0 hw a4 a5 q hq h5) e5 (by rw [hml]; rfl) (argsL := [(.ref a4), (.ref a5), (.long (0 : Int64)), (.long q)]) (rest := []) pd_0 rfl rfl rfl (W := 0) (Nat.le_of_eq rfl) (hb hby d1_6) (by decide) (by decide) (by decide) (by decide) ?_
  intro T6 X6 e6
  show OGoes p.tables e below _ (T6.setTop (mkF m 9 #[.val (.long q), .second] []))
  have szh := K.1
  refine own_new X6 hx hZ e6 hown (hw _ (List.mem_of_getElem? (i := 18) rfl)) (hw _ (List.mem_of_getElem? (i := 19) rfl)) (hw _ (List.mem_of_getElem? (i := 3) rfl)) (by decide) (by decide) (hb hby d1_9) ?_
  intro T7 h7 b7 X7 e7 Ex7 g7 Eo D7
  replace K := K.ext Ex7
  replace hk := Nat.le_trans hk Ex7.1
  have ltn_7 : @LT.lt Nat _ b7 h7.size := Eo.lt
  have o_position := D7 (Or.inr (hw _ (List.mem_of_getElem? (i := 27) rfl))) (ty := .long) (by decide)
  have o_fromNow := D7 (Or.inr (hw _ (List.mem_of_getElem? (i := 29) rfl))) (ty := .boolean) (by decide)
  clear D7
  show OGoes p.tables e below _ (T7.setTop (mkF m 12 #[.val (.long q), .second] [(.ref b7)]))
  refine own_st (V := (T7.setTop (mkF m 13 #[.val (.long q), .second] [(.ref b7), (.ref b7)]))) (fun t ks => XS.dup X7.here hx rfl (hb hby d1_12) rfl rfl ks) ?_
  refine own_st (V := (T7.setTop (mkF m 14 #[.val (.long q), .second] [(.long q), (.ref b7), (.ref b7)]))) (fun t ks => XS.lloadN X7.here hx rfl (hb hby d1_13) rfl ks) ?_
  refine own_st (V := (T7.setTop (mkF m 15 #[.val (.long q), .second] [(.int (0 : Int32)), (.long q), (.ref b7), (.ref b7)]))) (fun t ks => XS.iconst X7.here hx rfl (hb hby d1_14) ks) ?_
  refine own_callN X7 hx hZ rfl hown (hw _ (List.mem_of_getElem? (i := 20) rfl)) (hw _ (List.mem_of_getElem? (i := 21) rfl)) (hw _ (List.mem_of_getElem? (i := 3) rfl)) (hw _ (List.mem_of_getElem? (i := 22) rfl)) (by decide) (rmI l Z a0 hw b7 q h7 Eo o_position o_fromNow (by omega)) e7 (by rw [hml]; rfl) (argsL := [(.long q), (.int (0 : Int32))]) (rest := [(.ref b7)]) pd_1 rfl rfl rfl (W := 1) (Nat.le_of_eq rfl) (hb hby d1_15) (by decide) (by decide) (by decide) (by decide) ?_
  rintro v8 T8 L8 X8 ⟨rfl, N8, K8, Eo, Fp, Ff⟩
  replace N8 := Fr.app (Fr.nil Z.heap.size) N8
  show OGoes p.tables e below _ (T8.setTop (mkF m 18 #[.val (.long q), .second] [(.ref b7)]))
  replace K := K.trans K8 (allS (Or.inr (by omega)) all0)
  replace hk := Nat.le_trans hk K8.1
  exact own_retAW X8 hS hk hx hlk rfl hret rfl (hb hby d1_18) (by decide) (by decide) ⟨N8, K, b7, rfl, by omega, Eo, Fp, Ff⟩
theorem ef_rmP (m : MethodId) (x0 : Nat) : entryFrame m #[(.ref x0)] 1 = mkF m 0 #[.val (.ref x0)] [] := by first | (simp [entryFrame, mkF, argsToLocals, Value.category]; done) | rfl
set_option maxRecDepth 65536 in
set_option maxHeartbeats 40000000 in
theorem rmP (l : Launch) (Z : State) (a0 : Array Value) (hw : ∀ d ∈ tables_1, d.before a0 Z = true) (a : Nat) (q : Int64) (h0 : Heap) (Fp : Fld Z h0 a "com/example/tallydb/tallydb/SubscriptionStart" "position" "J" (.long q)) :
    OPure l Z (⟨"com/example/tallydb/tallydb/SubscriptionStart", "position", "()J"⟩ : MethodName) prog_31_method_3_code 1 (some .long) 0 0 #[(.ref a)] h0 (some (.long q)) := by
  refine own_body pf_5 ?_
  intro p e s m below meth c T0 X0 hx hby hml hZ hown hnm hret hlk e0
  replace hown : s.vm.findClass "com/example/tallydb/tallydb/SubscriptionStart" = some m.cls := hown
  refine own_cast (ef_rmP m (a)) ?_
  show OGoes p.tables e below _ (T0.setTop (mkF m 0 #[.val (.ref a)] []))
  refine own_st (V := (T0.setTop (mkF m 1 #[.val (.ref a)] [(.ref a)]))) (fun t ks => XS.aloadN X0.here hx rfl (hb hby d5_0) rfl rfl ks) ?_
  refine own_getfield X0 hx hZ e0 hown (hw _ (List.mem_of_getElem? (i := 26) rfl)) Via.refl Fp (hb hby d5_1) ?_
  intro T9 X9 e9
  show OGoes p.tables e below _ (T9.setTop (mkF m 4 #[.val (.ref a)] [(.long q)]))
  exact own_retJ X9 hx hlk hret (hb hby d5_4) (by decide) (by decide) ⟨rfl, e9, rfl⟩
theorem ef_rmF (m : MethodId) (x0 : Nat) : entryFrame m #[(.ref x0)] 1 = mkF m 0 #[.val (.ref x0)] [] := by first | (simp [entryFrame, mkF, argsToLocals, Value.category]; done) | rfl
set_option maxRecDepth 65536 in
set_option maxHeartbeats 40000000 in
theorem rmF (l : Launch) (Z : State) (a0 : Array Value) (hw : ∀ d ∈ tables_1, d.before a0 Z = true) (a : Nat) (h0 : Heap) (Ff : Fld Z h0 a "com/example/tallydb/tallydb/SubscriptionStart" "fromNow" "Z" (.int 0)) :
    OPure l Z (⟨"com/example/tallydb/tallydb/SubscriptionStart", "isFromNow", "()Z"⟩ : MethodName) prog_31_method_4_code 1 (some .boolean) 0 0 #[(.ref a)] h0 (some (.int 0)) := by
  refine own_body pf_6 ?_
  intro p e s m below meth c T0 X0 hx hby hml hZ hown hnm hret hlk e0
  replace hown : s.vm.findClass "com/example/tallydb/tallydb/SubscriptionStart" = some m.cls := hown
  refine own_cast (ef_rmF m (a)) ?_
  show OGoes p.tables e below _ (T0.setTop (mkF m 0 #[.val (.ref a)] []))
  refine own_st (V := (T0.setTop (mkF m 1 #[.val (.ref a)] [(.ref a)]))) (fun t ks => XS.aloadN X0.here hx rfl (hb hby d6_0) rfl rfl ks) ?_
  refine own_getfield X0 hx hZ e0 hown (hw _ (List.mem_of_getElem? (i := 28) rfl)) Via.refl Ff (hb hby d6_1) ?_
  intro T10 X10 e10
  show OGoes p.tables e below _ (T10.setTop (mkF m 4 #[.val (.ref a)] [(.int (0 : Int32))]))
  exact own_retN X10 hx hlk (by simp) hret (hb hby d6_4) (by decide) (by decide) ⟨rfl, e10, rfl⟩
theorem ef_rmQ (m : MethodId) (x0 : Nat) (x1 : Nat) : entryFrame m #[(.ref x0), (.ref x1)] 3 = mkF m 0 #[.val (.ref x0), .val (.ref x1), .unset] [] := by first | (simp [entryFrame, mkF, argsToLocals, Value.category]; done) | rfl
set_option maxRecDepth 65536 in
set_option maxHeartbeats 40000000 in
theorem rmQ (l : Launch) (Z : State) (a0 : Array Value) (hw : ∀ d ∈ tables_1, d.before a0 Z = true) (a b : Nat) (qa qb : Int64) (fa fb r : Int32) (hr : (if qa = qb ∧ fa = fb then (1 : Int32) else 0) = r) (h0 : Heap) (Eb : Exa Z h0 b "com/example/tallydb/tallydb/SubscriptionStart") (Fp : Fld Z h0 a "com/example/tallydb/tallydb/SubscriptionStart" "position" "J" (.long qa)) (Ff : Fld Z h0 a "com/example/tallydb/tallydb/SubscriptionStart" "fromNow" "Z" (.int fa)) (Gp : Fld Z h0 b "com/example/tallydb/tallydb/SubscriptionStart" "position" "J" (.long qb)) (Gf : Fld Z h0 b "com/example/tallydb/tallydb/SubscriptionStart" "fromNow" "Z" (.int fb)) :
    OPure l Z (⟨"com/example/tallydb/tallydb/SubscriptionStart", "equals", "(Ljava/lang/Object;)Z"⟩ : MethodName) prog_31_method_6_code 3 (some .boolean) 0 0 #[(.ref a), (.ref b)] h0 (some (.int r)) := by
  refine own_body pf_7 ?_
  intro p e s m below meth c T0 X0 hx hby hml hZ hown hnm hret hlk e0
  replace hown : s.vm.findClass "com/example/tallydb/tallydb/SubscriptionStart" = some m.cls := hown
  refine own_cast (ef_rmQ m (a) (b)) ?_
  show OGoes p.tables e below _ (T0.setTop (mkF m 0 #[.val (.ref a), .val (.ref b), .unset] []))
  refine own_st (V := (T0.setTop (mkF m 1 #[.val (.ref a), .val (.ref b), .unset] [(.ref b)]))) (fun t ks => XS.aloadN X0.here hx rfl (hb hby d7_0) rfl rfl ks) ?_
  refine own_instY X0 hx hZ e0 hown (hw _ (List.mem_of_getElem? (i := 18) rfl)) (Ins.self Eb) (hb hby d7_1) ?_
  intro T11 X11 e11
  show OGoes p.tables e below _ (T11.setTop (mkF m 4 #[.val (.ref a), .val (.ref b), .unset] [(.int (1 : Int32))]))
  refine own_st (V := (T11.setTop (mkF m 7 #[.val (.ref a), .val (.ref b), .unset] []))) (fun t ks => XS.ifNo X11.here hx rfl (hb hby d7_4) rfl (XT.i0_eq_f (by decide)) ks) ?_
  refine own_st (V := (T11.setTop (mkF m 8 #[.val (.ref a), .val (.ref b), .unset] [(.ref b)]))) (fun t ks => XS.aloadN X11.here hx rfl (hb hby d7_7) rfl rfl ks) ?_
  refine own_castY X11 hx hZ e11 hown (hw _ (List.mem_of_getElem? (i := 18) rfl)) (Ins.self Eb) (hb hby d7_8) ?_
  intro T12 X12 e12
  show OGoes p.tables e below _ (T12.setTop (mkF m 11 #[.val (.ref a), .val (.ref b), .unset] [(.ref b)]))
  refine own_st (V := (T12.setTop (mkF m 12 #[.val (.ref a), .val (.ref b), .val (.ref b)] []))) (fun t ks => XS.astoreN X12.here hx rfl (hb hby d7_11) rfl rfl (l' := #[.val (.ref a), .val (.ref b), .val (.ref b)]) rfl ks) ?_
  refine own_st (V := (T12.setTop (mkF m 13 #[.val (.ref a), .val (.ref b), .val (.ref b)] [(.ref a)]))) (fun t ks => XS.aloadN X12.here hx rfl (hb hby d7_12) rfl rfl ks) ?_
  refine own_getfield X12 hx hZ e12 hown (hw _ (List.mem_of_getElem? (i := 26) rfl)) Via.refl Fp (hb hby d7_13) ?_
  intro T13 X13 e13
  show OGoes p.tables e below _ (T13.setTop (mkF m 16 #[.val (.ref a), .val (.ref b), .val (.ref b)] [(.long qa)]))
  refine own_st (V := (T13.setTop (mkF m 17 #[.val (.ref a), .val (.ref b), .val (.ref b)] [(.ref b), (.long qa)]))) (fun t ks => XS.aloadN X13.here hx rfl (hb hby d7_16) rfl rfl ks) ?_
  refine own_getfield X13 hx hZ e13 hown (hw _ (List.mem_of_getElem? (i := 26) rfl)) Via.refl Gp (hb hby d7_17) ?_
  intro T14 X14 e14
  show OGoes p.tables e below _ (T14.setTop (mkF m 20 #[.val (.ref a), .val (.ref b), .val (.ref b)] [(.long qb), (.long qa)]))
  refine own_st (V := (T14.setTop (mkF m 21 #[.val (.ref a), .val (.ref b), .val (.ref b)] [(.int (lcmpW qa qb))]))) (fun t ks => XS.lcmp X14.here hx rfl (hb hby d7_20) rfl ks) ?_
  by_cases g1 : qa = qb
  · refine own_st (V := (T14.setTop (mkF m 24 #[.val (.ref a), .val (.ref b), .val (.ref b)] []))) (fun t ks => XS.ifNo X14.here hx rfl (hb hby d7_21) rfl (XT.ll_ne_f g1) ks) ?_
    refine own_st (V := (T14.setTop (mkF m 25 #[.val (.ref a), .val (.ref b), .val (.ref b)] [(.ref a)]))) (fun t ks => XS.aloadN X14.here hx rfl (hb hby d7_24) rfl rfl ks) ?_
    refine own_getfield X14 hx hZ e14 hown (hw _ (List.mem_of_getElem? (i := 28) rfl)) Via.refl Ff (hb hby d7_25) ?_
    intro T15 X15 e15
    show OGoes p.tables e below _ (T15.setTop (mkF m 28 #[.val (.ref a), .val (.ref b), .val (.ref b)] [(.int fa)]))
    refine own_st (V := (T15.setTop (mkF m 29 #[.val (.ref a), .val (.ref b), .val (.ref b)] [(.ref b), (.int fa)]))) (fun t ks => XS.aloadN X15.here hx rfl (hb hby d7_28) rfl rfl ks) ?_
    refine own_getfield X15 hx hZ e15 hown (hw _ (List.mem_of_getElem? (i := 28) rfl)) Via.refl Gf (hb hby d7_29) ?_
    intro T16 X16 e16
    show OGoes p.tables e below _ (T16.setTop (mkF m 32 #[.val (.ref a), .val (.ref b), .val (.ref b)] [(.int fb), (.int fa)]))
    by_cases g2 : fa = fb
    · refine own_st (V := (T16.setTop (mkF m 35 #[.val (.ref a), .val (.ref b), .val (.ref b)] []))) (fun t ks => XS.icmpNo X16.here hx rfl (hb hby d7_32) rfl (XT.ii_ne_f g2) ks) ?_
      refine own_st (V := (T16.setTop (mkF m 36 #[.val (.ref a), .val (.ref b), .val (.ref b)] [(.int (1 : Int32))]))) (fun t ks => XS.iconst X16.here hx rfl (hb hby d7_35) ks) ?_
      refine own_st (V := (T16.setTop (mkF m 40 #[.val (.ref a), .val (.ref b), .val (.ref b)] [(.int (1 : Int32))]))) (fun t ks => XS.goto X16.here hx rfl (pc0 := 36) (pc' := 40) rfl (hb hby d7_36) (by decide) (by decide) ks) ?_
      exact own_retN X16 hx hlk (by simp) hret (hb hby d7_40) (by decide) (by decide) ⟨by rw [← hr, if_pos ⟨g1, g2⟩]; rfl, e16, rfl⟩
    · refine own_st (V := (T16.setTop (mkF m 39 #[.val (.ref a), .val (.ref b), .val (.ref b)] []))) (fun t ks => XS.icmpYes X16.here hx rfl (pc0 := 32) (pc' := 39) rfl (hb hby d7_32) rfl (XT.ii_ne_t g2) (by decide) (by decide) ks) ?_
      refine own_st (V := (T16.setTop (mkF m 40 #[.val (.ref a), .val (.ref b), .val (.ref b)] [(.int (0 : Int32))]))) (fun t ks => XS.iconst X16.here hx rfl (hb hby d7_39) ks) ?_
      exact own_retN X16 hx hlk (by simp) hret (hb hby d7_40) (by decide) (by decide) ⟨by rw [← hr, if_neg (fun q => g2 q.2)]; rfl, e16, rfl⟩
  · refine own_st (V := (T14.setTop (mkF m 39 #[.val (.ref a), .val (.ref b), .val (.ref b)] []))) (fun t ks => XS.ifYes X14.here hx rfl (pc0 := 21) (pc' := 39) rfl (hb hby d7_21) rfl (XT.ll_ne_t g1) (by decide) (by decide) ks) ?_
    refine own_st (V := (T14.setTop (mkF m 40 #[.val (.ref a), .val (.ref b), .val (.ref b)] [(.int (0 : Int32))]))) (fun t ks => XS.iconst X14.here hx rfl (hb hby d7_39) ks) ?_
    exact own_retN X14 hx hlk (by simp) hret (hb hby d7_40) (by decide) (by decide) ⟨by rw [← hr, if_neg (fun q => g1 q.1)]; rfl, e14, rfl⟩
theorem ef_rm0 (m : MethodId) (x0 : Int64) (x1 : Int64) (x2 : Int32) : entryFrame m #[(.long x0), (.long x1), (.int x2)] maxLocals = mkF m 0 #[.val (.long x0), .second, .val (.long x1), .second, .val (.int x2), .unset, .unset, .unset, .unset, .unset, .unset, .unset] [] := by first | (simp [entryFrame, mkF, argsToLocals, Value.category, maxLocals]; done) | rfl
set_option maxRecDepth 65536 in
set_option maxHeartbeats 40000000 in
theorem rm0 (l : Launch) (Z : State) (a0 : Array Value) (hw : ∀ d ∈ tables_1, d.before a0 Z = true) (va vb : Int64) (fl : Int32) (wS wN : Nat) (h0 : Heap) (hO : Ext Z.heap h0) (S_wS : Sta Z Z.heap "com/example/tallydb/tallydb/SubscriptionStart" "FROM_START" "Lcom/example/tallydb/tallydb/SubscriptionStart;" (.ref wS)) (E_wS : Exa Z Z.heap wS "com/example/tallydb/tallydb/SubscriptionStart") (P_wS : Fld Z Z.heap wS "com/example/tallydb/tallydb/SubscriptionStart" "position" "J" (.long 0)) (N_wS : Fld Z Z.heap wS "com/example/tallydb/tallydb/SubscriptionStart" "fromNow" "Z" (.int 0)) (S_wN : Sta Z Z.heap "com/example/tallydb/tallydb/SubscriptionStart" "FROM_NOW" "Lcom/example/tallydb/tallydb/SubscriptionStart;" (.ref wN)) (E_wN : Exa Z Z.heap wN "com/example/tallydb/tallydb/SubscriptionStart") (P_wN : Fld Z Z.heap wN "com/example/tallydb/tallydb/SubscriptionStart" "position" "J" (.long 0)) (N_wN : Fld Z Z.heap wN "com/example/tallydb/tallydb/SubscriptionStart" "fromNow" "Z" (.int 1)) :
    OMetW l Z x code maxLocals ret room_1 #[(.long va), (.long vb), (.int fl)] h0 (fun v h L => v = some (.int 1) ∧ Fr Z.heap.size L) := by
  refine own_bodyW pf_0 ?_
  intro p e s vm0 k0 m below meth c T0 X0 hS hk hx hby hml hZ hown hnm hret hlk e0 hs0
  replace hown : (s.setVm vm0).vm.findClass "com/example/tallydb/tallydb/SubscriptionStartAfterPinLaw" = some m.cls := hown
  refine own_cast (ef_rm0 m (va) (vb) (fl)) ?_
  show OGoes p.tables e below _ (T0.setTop (mkF m 0 #[.val (.long va), .second, .val (.long vb), .second, .val (.int fl), .unset, .unset, .unset, .unset, .unset, .unset, .unset] []))
  refine own_st (V := (T0.setTop (mkF m 1 #[.val (.long va), .second, .val (.long vb), .second, .val (.int fl), .unset, .unset, .unset, .unset, .unset, .unset, .unset] [(.long va)]))) (fun t ks => XS.lloadN X0.here hx rfl (hb hby at_0) rfl ks) ?_
  refine own_st (V := (T0.setTop (mkF m 4 #[.val (.long va), .second, .val (.long vb), .second, .val (.int fl), .unset, .unset, .unset, .unset, .unset, .unset, .unset] [(.long (9223372036854775807 : Int64)), (.long va)]))) (fun t ks => X0.ldc2Long hx hown (mvT hZ (hw _ (List.mem_of_getElem? (i := 0) rfl))) (g := (mkF m 1 #[.val (.long va), .second, .val (.long vb), .second, .val (.int fl), .unset, .unset, .unset, .unset, .unset, .unset, .unset] [(.long va)])) rfl (hb hby at_1) t ks) ?_
  refine own_st (V := (T0.setTop (mkF m 5 #[.val (.long va), .second, .val (.long vb), .second, .val (.int fl), .unset, .unset, .unset, .unset, .unset, .unset, .unset] [(.long (va &&& (9223372036854775807 : Int64)))]))) (fun t ks => XS.land X0.here hx rfl (hb hby at_4) rfl ks) ?_
  refine own_st (V := (T0.setTop (mkF m 7 #[.val (.long va), .second, .val (.long vb), .second, .val (.int fl), .val (.long (va &&& (9223372036854775807 : Int64))), .second, .unset, .unset, .unset, .unset, .unset] []))) (fun t ks => XS.lstore X0.here hx rfl (hb hby at_5) rfl (l' := #[.val (.long va), .second, .val (.long vb), .second, .val (.int fl), .val (.long (va &&& (9223372036854775807 : Int64))), .second, .unset, .unset, .unset, .unset, .unset]) rfl ks) ?_
  have K17 : ∀ (vp : Int64) (hp : ¬ vp < 0), OGoes p.tables e below (ODoneW room_1 s below (fun v h L => v = some (.int 1) ∧ Fr Z.heap.size L)) (T0.setTop (mkF m 17 #[.val (.long va), .second, .val (.long vb), .second, .val (.int fl), .val (.long vp), .second, .unset, .unset, .unset, .unset, .unset] [])) := by
    intro vp hp
    refine own_st (V := (T0.setTop (mkF m 19 #[.val (.long va), .second, .val (.long vb), .second, .val (.int fl), .val (.long vp), .second, .unset, .unset, .unset, .unset, .unset] [(.int fl)]))) (fun t ks => XS.iload X0.here hx rfl (hb hby at_17) rfl ks) ?_
    refine own_st (V := (T0.setTop (mkF m 20 #[.val (.long va), .second, .val (.long vb), .second, .val (.int fl), .val (.long vp), .second, .unset, .unset, .unset, .unset, .unset] [(.int (1 : Int32)), (.int fl)]))) (fun t ks => XS.iconst X0.here hx rfl (hb hby at_19) ks) ?_
    refine own_st (V := (T0.setTop (mkF m 21 #[.val (.long va), .second, .val (.long vb), .second, .val (.int fl), .val (.long vp), .second, .unset, .unset, .unset, .unset, .unset] [(.int (fl &&& (1 : Int32)))]))) (fun t ks => XS.iand X0.here hx rfl (hb hby at_20) rfl ks) ?_
    have K46 : ∀ (vq : Int64) (hq : ¬ vq < 0), OGoes p.tables e below (ODoneW room_1 s below (fun v h L => v = some (.int 1) ∧ Fr Z.heap.size L)) (T0.setTop (mkF m 46 #[.val (.long va), .second, .val (.long vb), .second, .val (.int fl), .val (.long vp), .second, .val (.long vq), .second, .unset, .unset, .unset] [])) := by
      intro vq hq
      refine own_st (V := (T0.setTop (mkF m 48 #[.val (.long va), .second, .val (.long vb), .second, .val (.int fl), .val (.long vp), .second, .val (.long vq), .second, .unset, .unset, .unset] [(.long vp)]))) (fun t ks => XS.lload X0.here hx rfl (hb hby at_46) rfl ks) ?_
      have szO := hO.1
      refine own_callSW X0 hx hZ hS hk hown (hw _ (List.mem_of_getElem? (i := 1) rfl)) (hw _ (List.mem_of_getElem? (i := 2) rfl)) (hw _ (List.mem_of_getElem? (i := 3) rfl)) (hw _ (List.mem_of_getElem? (i := 4) rfl)) (by decide) (rmA l Z a0 hw vp hp h0 szO) e0 (by rw [hml]; rfl) (argsL := [(.long vp)]) (rest := []) pd_2 rfl rfl rfl (W := 0) (Nat.le_of_eq rfl) (hb hby at_48) (by decide) (by decide) (by decide) (by decide) ?_
      rintro v17 T17 L17 X17 hS hZ hown ⟨N17, K17, sa, rfl, gs, Es, Ps, Fs⟩
      have hk := Nat.le_refl T17.heap.size
      replace N17 := Fr.app (Fr.nil Z.heap.size) N17
      show OGoes p.tables e below _ (T17.setTop (mkF m 51 #[.val (.long va), .second, .val (.long vb), .second, .val (.int fl), .val (.long vp), .second, .val (.long vq), .second, .unset, .unset, .unset] [(.ref sa)]))
      replace hO := own_old_keep hO K17 all0
      replace szO := hO.1
      refine own_st (V := (T17.setTop (mkF m 53 #[.val (.long va), .second, .val (.long vb), .second, .val (.int fl), .val (.long vp), .second, .val (.long vq), .second, .val (.ref sa), .unset, .unset] []))) (fun t ks => XS.astore X17.here hx rfl (hb hby at_51) rfl rfl (l' := #[.val (.long va), .second, .val (.long vb), .second, .val (.int fl), .val (.long vp), .second, .val (.long vq), .second, .val (.ref sa), .unset, .unset]) rfl ks) ?_
      refine own_st (V := (T17.setTop (mkF m 55 #[.val (.long va), .second, .val (.long vb), .second, .val (.int fl), .val (.long vp), .second, .val (.long vq), .second, .val (.ref sa), .unset, .unset] [(.long vq)]))) (fun t ks => XS.lload X17.here hx rfl (hb hby at_53) rfl ks) ?_
      refine own_callSW X17 hx hZ hS hk hown (hw _ (List.mem_of_getElem? (i := 1) rfl)) (hw _ (List.mem_of_getElem? (i := 2) rfl)) (hw _ (List.mem_of_getElem? (i := 3) rfl)) (hw _ (List.mem_of_getElem? (i := 4) rfl)) (by decide) (rmA l Z a0 hw vq hq T17.heap szO) rfl (by rw [hml]; rfl) (argsL := [(.long vq)]) (rest := []) pd_2 rfl rfl rfl (W := 0) (Nat.le_of_eq rfl) (hb hby at_55) (by decide) (by decide) (by decide) (by decide) ?_
      rintro v18 T18 L18 X18 hS hZ hown ⟨N18, K18, ta, rfl, gt, Et, Pt, Ft⟩
      have hk := Nat.le_refl T18.heap.size
      replace N18 := Fr.app N17 N18
      show OGoes p.tables e below _ (T18.setTop (mkF m 58 #[.val (.long va), .second, .val (.long vb), .second, .val (.int fl), .val (.long vp), .second, .val (.long vq), .second, .val (.ref sa), .unset, .unset] [(.ref ta)]))
      replace hO := own_old_keep hO K18 all0
      replace Es := Es.keep K18
      replace Ps := Ps.keep K18 nin0
      replace Fs := Fs.keep K18 nin0
      refine own_st (V := (T18.setTop (mkF m 60 #[.val (.long va), .second, .val (.long vb), .second, .val (.int fl), .val (.long vp), .second, .val (.long vq), .second, .val (.ref sa), .val (.ref ta), .unset] []))) (fun t ks => XS.astore X18.here hx rfl (hb hby at_58) rfl rfl (l' := #[.val (.long va), .second, .val (.long vb), .second, .val (.int fl), .val (.long vp), .second, .val (.long vq), .second, .val (.ref sa), .val (.ref ta), .unset]) rfl ks) ?_
      refine own_st (V := (T18.setTop (mkF m 62 #[.val (.long va), .second, .val (.long vb), .second, .val (.int fl), .val (.long vp), .second, .val (.long vq), .second, .val (.ref sa), .val (.ref ta), .unset] [(.ref sa)]))) (fun t ks => XS.aload X18.here hx rfl (hb hby at_60) rfl rfl ks) ?_
      refine own_callV0 X18 hx hZ hown (hw _ (List.mem_of_getElem? (i := 30) rfl)) (hw _ (List.mem_of_getElem? (i := 31) rfl)) (hw _ (List.mem_of_getElem? (i := 33) rfl)) (hw _ (List.mem_of_getElem? (i := 32) rfl)) (hw _ (List.mem_of_getElem? (i := 3) rfl)) (hw _ (List.mem_of_getElem? (i := 34) rfl)) (by decide) (rmP l Z a0 hw sa vp T18.heap Ps) rfl Es (by rw [hml]; rfl) (argsL := []) (rest := []) pd_3 rfl rfl rfl (W := 0) (Nat.le_of_eq rfl) (hb hby at_62) (by decide) (by decide) (by decide) (by decide) ?_
      intro T19 X19 e19
      show OGoes p.tables e below _ (T19.setTop (mkF m 65 #[.val (.long va), .second, .val (.long vb), .second, .val (.int fl), .val (.long vp), .second, .val (.long vq), .second, .val (.ref sa), .val (.ref ta), .unset] [(.long vp)]))
      refine own_st (V := (T19.setTop (mkF m 67 #[.val (.long va), .second, .val (.long vb), .second, .val (.int fl), .val (.long vp), .second, .val (.long vq), .second, .val (.ref sa), .val (.ref ta), .unset] [(.long vp), (.long vp)]))) (fun t ks => XS.lload X19.here hx rfl (hb hby at_65) rfl ks) ?_
      refine own_st (V := (T19.setTop (mkF m 68 #[.val (.long va), .second, .val (.long vb), .second, .val (.int fl), .val (.long vp), .second, .val (.long vq), .second, .val (.ref sa), .val (.ref ta), .unset] [(.int (lcmpW vp vp))]))) (fun t ks => XS.lcmp X19.here hx rfl (hb hby at_67) rfl ks) ?_
      refine own_st (V := (T19.setTop (mkF m 71 #[.val (.long va), .second, .val (.long vb), .second, .val (.int fl), .val (.long vp), .second, .val (.long vq), .second, .val (.ref sa), .val (.ref ta), .unset] []))) (fun t ks => XS.ifNo X19.here hx rfl (hb hby at_68) rfl (XT.ll_ne_f rfl) ks) ?_
      refine own_st (V := (T19.setTop (mkF m 73 #[.val (.long va), .second, .val (.long vb), .second, .val (.int fl), .val (.long vp), .second, .val (.long vq), .second, .val (.ref sa), .val (.ref ta), .unset] [(.ref sa)]))) (fun t ks => XS.aload X19.here hx rfl (hb hby at_71) rfl rfl ks) ?_
      refine own_callV0 X19 hx hZ hown (hw _ (List.mem_of_getElem? (i := 35) rfl)) (hw _ (List.mem_of_getElem? (i := 36) rfl)) (hw _ (List.mem_of_getElem? (i := 38) rfl)) (hw _ (List.mem_of_getElem? (i := 37) rfl)) (hw _ (List.mem_of_getElem? (i := 3) rfl)) (hw _ (List.mem_of_getElem? (i := 39) rfl)) (by decide) (rmF l Z a0 hw sa T18.heap Fs) e19 Es (by rw [hml]; rfl) (argsL := []) (rest := []) pd_4 rfl rfl rfl (W := 0) (Nat.le_of_eq rfl) (hb hby at_73) (by decide) (by decide) (by decide) (by decide) ?_
      intro T20 X20 e20
      show OGoes p.tables e below _ (T20.setTop (mkF m 76 #[.val (.long va), .second, .val (.long vb), .second, .val (.int fl), .val (.long vp), .second, .val (.long vq), .second, .val (.ref sa), .val (.ref ta), .unset] [(.int (0 : Int32))]))
      refine own_st (V := (T20.setTop (mkF m 79 #[.val (.long va), .second, .val (.long vb), .second, .val (.int fl), .val (.long vp), .second, .val (.long vq), .second, .val (.ref sa), .val (.ref ta), .unset] []))) (fun t ks => XS.ifNo X20.here hx rfl (hb hby at_76) rfl (XT.i0_ne_f (by decide)) ks) ?_
      refine own_st (V := (T20.setTop (mkF m 80 #[.val (.long va), .second, .val (.long vb), .second, .val (.int fl), .val (.long vp), .second, .val (.long vq), .second, .val (.ref sa), .val (.ref ta), .unset] [(.int (1 : Int32))]))) (fun t ks => XS.iconst X20.here hx rfl (hb hby at_79) ks) ?_
      refine own_st (V := (T20.setTop (mkF m 84 #[.val (.long va), .second, .val (.long vb), .second, .val (.int fl), .val (.long vp), .second, .val (.long vq), .second, .val (.ref sa), .val (.ref ta), .unset] [(.int (1 : Int32))]))) (fun t ks => XS.goto X20.here hx rfl (pc0 := 80) (pc' := 84) rfl (hb hby at_80) (by decide) (by decide) ks) ?_
      refine own_st (V := (T20.setTop (mkF m 86 #[.val (.long va), .second, .val (.long vb), .second, .val (.int fl), .val (.long vp), .second, .val (.long vq), .second, .val (.ref sa), .val (.ref ta), .val (.int (1 : Int32))] []))) (fun t ks => XS.istore X20.here hx rfl (hb hby at_84) rfl (l' := #[.val (.long va), .second, .val (.long vb), .second, .val (.int fl), .val (.long vp), .second, .val (.long vq), .second, .val (.ref sa), .val (.ref ta), .val (.int (1 : Int32))]) rfl ks) ?_
      refine own_st (V := (T20.setTop (mkF m 88 #[.val (.long va), .second, .val (.long vb), .second, .val (.int fl), .val (.long vp), .second, .val (.long vq), .second, .val (.ref sa), .val (.ref ta), .val (.int (1 : Int32))] [(.int (1 : Int32))]))) (fun t ks => XS.iload X20.here hx rfl (hb hby at_86) rfl ks) ?_
      refine own_st (V := (T20.setTop (mkF m 91 #[.val (.long va), .second, .val (.long vb), .second, .val (.int fl), .val (.long vp), .second, .val (.long vq), .second, .val (.ref sa), .val (.ref ta), .val (.int (1 : Int32))] []))) (fun t ks => XS.ifNo X20.here hx rfl (hb hby at_88) rfl (XT.i0_eq_f (by decide)) ks) ?_
      refine own_st (V := (T20.setTop (mkF m 93 #[.val (.long va), .second, .val (.long vb), .second, .val (.int fl), .val (.long vp), .second, .val (.long vq), .second, .val (.ref sa), .val (.ref ta), .val (.int (1 : Int32))] [(.ref ta)]))) (fun t ks => XS.aload X20.here hx rfl (hb hby at_91) rfl rfl ks) ?_
      refine own_callV0 X20 hx hZ hown (hw _ (List.mem_of_getElem? (i := 30) rfl)) (hw _ (List.mem_of_getElem? (i := 31) rfl)) (hw _ (List.mem_of_getElem? (i := 33) rfl)) (hw _ (List.mem_of_getElem? (i := 32) rfl)) (hw _ (List.mem_of_getElem? (i := 3) rfl)) (hw _ (List.mem_of_getElem? (i := 34) rfl)) (by decide) (rmP l Z a0 hw ta vq T18.heap Pt) e20 Et (by rw [hml]; rfl) (argsL := []) (rest := []) pd_3 rfl rfl rfl (W := 0) (Nat.le_of_eq rfl) (hb hby at_93) (by decide) (by decide) (by decide) (by decide) ?_
      intro T21 X21 e21
      show OGoes p.tables e below _ (T21.setTop (mkF m 96 #[.val (.long va), .second, .val (.long vb), .second, .val (.int fl), .val (.long vp), .second, .val (.long vq), .second, .val (.ref sa), .val (.ref ta), .val (.int (1 : Int32))] [(.long vq)]))
      refine own_st (V := (T21.setTop (mkF m 98 #[.val (.long va), .second, .val (.long vb), .second, .val (.int fl), .val (.long vp), .second, .val (.long vq), .second, .val (.ref sa), .val (.ref ta), .val (.int (1 : Int32))] [(.long vq), (.long vq)]))) (fun t ks => XS.lload X21.here hx rfl (hb hby at_96) rfl ks) ?_
      refine own_st (V := (T21.setTop (mkF m 99 #[.val (.long va), .second, .val (.long vb), .second, .val (.int fl), .val (.long vp), .second, .val (.long vq), .second, .val (.ref sa), .val (.ref ta), .val (.int (1 : Int32))] [(.int (lcmpW vq vq))]))) (fun t ks => XS.lcmp X21.here hx rfl (hb hby at_98) rfl ks) ?_
      refine own_st (V := (T21.setTop (mkF m 102 #[.val (.long va), .second, .val (.long vb), .second, .val (.int fl), .val (.long vp), .second, .val (.long vq), .second, .val (.ref sa), .val (.ref ta), .val (.int (1 : Int32))] []))) (fun t ks => XS.ifNo X21.here hx rfl (hb hby at_99) rfl (XT.ll_ne_f rfl) ks) ?_
      refine own_st (V := (T21.setTop (mkF m 104 #[.val (.long va), .second, .val (.long vb), .second, .val (.int fl), .val (.long vp), .second, .val (.long vq), .second, .val (.ref sa), .val (.ref ta), .val (.int (1 : Int32))] [(.ref ta)]))) (fun t ks => XS.aload X21.here hx rfl (hb hby at_102) rfl rfl ks) ?_
      refine own_callV0 X21 hx hZ hown (hw _ (List.mem_of_getElem? (i := 35) rfl)) (hw _ (List.mem_of_getElem? (i := 36) rfl)) (hw _ (List.mem_of_getElem? (i := 38) rfl)) (hw _ (List.mem_of_getElem? (i := 37) rfl)) (hw _ (List.mem_of_getElem? (i := 3) rfl)) (hw _ (List.mem_of_getElem? (i := 39) rfl)) (by decide) (rmF l Z a0 hw ta T18.heap Ft) e21 Et (by rw [hml]; rfl) (argsL := []) (rest := []) pd_4 rfl rfl rfl (W := 0) (Nat.le_of_eq rfl) (hb hby at_104) (by decide) (by decide) (by decide) (by decide) ?_
      intro T22 X22 e22
      show OGoes p.tables e below _ (T22.setTop (mkF m 107 #[.val (.long va), .second, .val (.long vb), .second, .val (.int fl), .val (.long vp), .second, .val (.long vq), .second, .val (.ref sa), .val (.ref ta), .val (.int (1 : Int32))] [(.int (0 : Int32))]))
      refine own_st (V := (T22.setTop (mkF m 110 #[.val (.long va), .second, .val (.long vb), .second, .val (.int fl), .val (.long vp), .second, .val (.long vq), .second, .val (.ref sa), .val (.ref ta), .val (.int (1 : Int32))] []))) (fun t ks => XS.ifNo X22.here hx rfl (hb hby at_107) rfl (XT.i0_ne_f (by decide)) ks) ?_
      refine own_st (V := (T22.setTop (mkF m 111 #[.val (.long va), .second, .val (.long vb), .second, .val (.int fl), .val (.long vp), .second, .val (.long vq), .second, .val (.ref sa), .val (.ref ta), .val (.int (1 : Int32))] [(.int (1 : Int32))]))) (fun t ks => XS.iconst X22.here hx rfl (hb hby at_110) ks) ?_
      refine own_st (V := (T22.setTop (mkF m 115 #[.val (.long va), .second, .val (.long vb), .second, .val (.int fl), .val (.long vp), .second, .val (.long vq), .second, .val (.ref sa), .val (.ref ta), .val (.int (1 : Int32))] [(.int (1 : Int32))]))) (fun t ks => XS.goto X22.here hx rfl (pc0 := 111) (pc' := 115) rfl (hb hby at_111) (by decide) (by decide) ks) ?_
      refine own_st (V := (T22.setTop (mkF m 117 #[.val (.long va), .second, .val (.long vb), .second, .val (.int fl), .val (.long vp), .second, .val (.long vq), .second, .val (.ref sa), .val (.ref ta), .val (.int (1 : Int32))] []))) (fun t ks => XS.istore X22.here hx rfl (hb hby at_115) rfl (l' := #[.val (.long va), .second, .val (.long vb), .second, .val (.int fl), .val (.long vp), .second, .val (.long vq), .second, .val (.ref sa), .val (.ref ta), .val (.int (1 : Int32))]) rfl ks) ?_
      refine own_st (V := (T22.setTop (mkF m 119 #[.val (.long va), .second, .val (.long vb), .second, .val (.int fl), .val (.long vp), .second, .val (.long vq), .second, .val (.ref sa), .val (.ref ta), .val (.int (1 : Int32))] [(.int (1 : Int32))]))) (fun t ks => XS.iload X22.here hx rfl (hb hby at_117) rfl ks) ?_
      refine own_st (V := (T22.setTop (mkF m 122 #[.val (.long va), .second, .val (.long vb), .second, .val (.int fl), .val (.long vp), .second, .val (.long vq), .second, .val (.ref sa), .val (.ref ta), .val (.int (1 : Int32))] []))) (fun t ks => XS.ifNo X22.here hx rfl (hb hby at_119) rfl (XT.i0_eq_f (by decide)) ks) ?_
      refine own_st (V := (T22.setTop (mkF m 124 #[.val (.long va), .second, .val (.long vb), .second, .val (.int fl), .val (.long vp), .second, .val (.long vq), .second, .val (.ref sa), .val (.ref ta), .val (.int (1 : Int32))] [(.ref sa)]))) (fun t ks => XS.aload X22.here hx rfl (hb hby at_122) rfl rfl ks) ?_
      refine own_getstatic X22 hx hZ e22 hown (hw _ (List.mem_of_getElem? (i := 40) rfl)) (S_wS.ext hO) (hb hby at_124) ?_
      intro T23 X23 e23
      show OGoes p.tables e below _ (T23.setTop (mkF m 127 #[.val (.long va), .second, .val (.long vb), .second, .val (.int fl), .val (.long vp), .second, .val (.long vq), .second, .val (.ref sa), .val (.ref ta), .val (.int (1 : Int32))] [(.ref wS), (.ref sa)]))
      refine own_callV0 X23 hx hZ hown (hw _ (List.mem_of_getElem? (i := 42) rfl)) (hw _ (List.mem_of_getElem? (i := 43) rfl)) (hw _ (List.mem_of_getElem? (i := 45) rfl)) (hw _ (List.mem_of_getElem? (i := 44) rfl)) (hw _ (List.mem_of_getElem? (i := 3) rfl)) (hw _ (List.mem_of_getElem? (i := 46) rfl)) (by decide) (rmQ l Z a0 hw sa wS vp 0 0 0 _ rfl T18.heap (E_wS.ext hO) Ps Fs (P_wS.ext hO) (N_wS.ext hO)) e23 Es (by rw [hml]; rfl) (argsL := [(.ref wS)]) (rest := []) pd_5 rfl rfl rfl (W := 0) (Nat.le_of_eq rfl) (hb hby at_127) (by decide) (by decide) (by decide) (by decide) ?_
      intro T24 X24 e24
      show OGoes p.tables e below _ (T24.setTop (mkF m 130 #[.val (.long va), .second, .val (.long vb), .second, .val (.int fl), .val (.long vp), .second, .val (.long vq), .second, .val (.ref sa), .val (.ref ta), .val (.int (1 : Int32))] [(.int (if vp = 0 ∧ (0 : Int32) = 0 then (1 : Int32) else 0))]))
      refine own_st (V := (T24.setTop (mkF m 132 #[.val (.long va), .second, .val (.long vb), .second, .val (.int fl), .val (.long vp), .second, .val (.long vq), .second, .val (.ref sa), .val (.ref ta), .val (.int (1 : Int32))] [(.long vp), (.int (if vp = 0 ∧ (0 : Int32) = 0 then (1 : Int32) else 0))]))) (fun t ks => XS.lload X24.here hx rfl (hb hby at_130) rfl ks) ?_
      refine own_st (V := (T24.setTop (mkF m 133 #[.val (.long va), .second, .val (.long vb), .second, .val (.int fl), .val (.long vp), .second, .val (.long vq), .second, .val (.ref sa), .val (.ref ta), .val (.int (1 : Int32))] [(.long (0 : Int64)), (.long vp), (.int (if vp = 0 ∧ (0 : Int32) = 0 then (1 : Int32) else 0))]))) (fun t ks => XS.lconst X24.here hx rfl (hb hby at_132) ks) ?_
      refine own_st (V := (T24.setTop (mkF m 134 #[.val (.long va), .second, .val (.long vb), .second, .val (.int fl), .val (.long vp), .second, .val (.long vq), .second, .val (.ref sa), .val (.ref ta), .val (.int (1 : Int32))] [(.int (lcmpW vp (0 : Int64))), (.int (if vp = 0 ∧ (0 : Int32) = 0 then (1 : Int32) else 0))]))) (fun t ks => XS.lcmp X24.here hx rfl (hb hby at_133) rfl ks) ?_
      have K150 : OGoes p.tables e below (ODoneW room_1 s below (fun v h L => v = some (.int 1) ∧ Fr Z.heap.size L)) (T24.setTop (mkF m 150 #[.val (.long va), .second, .val (.long vb), .second, .val (.int fl), .val (.long vp), .second, .val (.long vq), .second, .val (.ref sa), .val (.ref ta), .val (.int (1 : Int32))] [(.int (1 : Int32))])) := by
        refine own_st (V := (T24.setTop (mkF m 152 #[.val (.long va), .second, .val (.long vb), .second, .val (.int fl), .val (.long vp), .second, .val (.long vq), .second, .val (.ref sa), .val (.ref ta), .val (.int (1 : Int32))] []))) (fun t ks => XS.istore X24.here hx rfl (hb hby at_150) rfl (l' := #[.val (.long va), .second, .val (.long vb), .second, .val (.int fl), .val (.long vp), .second, .val (.long vq), .second, .val (.ref sa), .val (.ref ta), .val (.int (1 : Int32))]) rfl ks) ?_
        refine own_st (V := (T24.setTop (mkF m 154 #[.val (.long va), .second, .val (.long vb), .second, .val (.int fl), .val (.long vp), .second, .val (.long vq), .second, .val (.ref sa), .val (.ref ta), .val (.int (1 : Int32))] [(.int (1 : Int32))]))) (fun t ks => XS.iload X24.here hx rfl (hb hby at_152) rfl ks) ?_
        refine own_st (V := (T24.setTop (mkF m 157 #[.val (.long va), .second, .val (.long vb), .second, .val (.int fl), .val (.long vp), .second, .val (.long vq), .second, .val (.ref sa), .val (.ref ta), .val (.int (1 : Int32))] []))) (fun t ks => XS.ifNo X24.here hx rfl (hb hby at_154) rfl (XT.i0_eq_f (by decide)) ks) ?_
        refine own_st (V := (T24.setTop (mkF m 159 #[.val (.long va), .second, .val (.long vb), .second, .val (.int fl), .val (.long vp), .second, .val (.long vq), .second, .val (.ref sa), .val (.ref ta), .val (.int (1 : Int32))] [(.ref sa)]))) (fun t ks => XS.aload X24.here hx rfl (hb hby at_157) rfl rfl ks) ?_
        refine own_getstatic X24 hx hZ e24 hown (hw _ (List.mem_of_getElem? (i := 48) rfl)) (S_wN.ext hO) (hb hby at_159) ?_
        intro T25 X25 e25
        show OGoes p.tables e below _ (T25.setTop (mkF m 162 #[.val (.long va), .second, .val (.long vb), .second, .val (.int fl), .val (.long vp), .second, .val (.long vq), .second, .val (.ref sa), .val (.ref ta), .val (.int (1 : Int32))] [(.ref wN), (.ref sa)]))
        refine own_callV0 X25 hx hZ hown (hw _ (List.mem_of_getElem? (i := 42) rfl)) (hw _ (List.mem_of_getElem? (i := 43) rfl)) (hw _ (List.mem_of_getElem? (i := 45) rfl)) (hw _ (List.mem_of_getElem? (i := 44) rfl)) (hw _ (List.mem_of_getElem? (i := 3) rfl)) (hw _ (List.mem_of_getElem? (i := 46) rfl)) (by decide) (rmQ l Z a0 hw sa wN vp 0 0 1 0 (by simp) T18.heap (E_wN.ext hO) Ps Fs (P_wN.ext hO) (N_wN.ext hO)) e25 Es (by rw [hml]; rfl) (argsL := [(.ref wN)]) (rest := []) pd_5 rfl rfl rfl (W := 0) (Nat.le_of_eq rfl) (hb hby at_162) (by decide) (by decide) (by decide) (by decide) ?_
        intro T26 X26 e26
        show OGoes p.tables e below _ (T26.setTop (mkF m 165 #[.val (.long va), .second, .val (.long vb), .second, .val (.int fl), .val (.long vp), .second, .val (.long vq), .second, .val (.ref sa), .val (.ref ta), .val (.int (1 : Int32))] [(.int (0 : Int32))]))
        refine own_st (V := (T26.setTop (mkF m 168 #[.val (.long va), .second, .val (.long vb), .second, .val (.int fl), .val (.long vp), .second, .val (.long vq), .second, .val (.ref sa), .val (.ref ta), .val (.int (1 : Int32))] []))) (fun t ks => XS.ifNo X26.here hx rfl (hb hby at_165) rfl (XT.i0_ne_f (by decide)) ks) ?_
        refine own_st (V := (T26.setTop (mkF m 169 #[.val (.long va), .second, .val (.long vb), .second, .val (.int fl), .val (.long vp), .second, .val (.long vq), .second, .val (.ref sa), .val (.ref ta), .val (.int (1 : Int32))] [(.int (1 : Int32))]))) (fun t ks => XS.iconst X26.here hx rfl (hb hby at_168) ks) ?_
        refine own_st (V := (T26.setTop (mkF m 173 #[.val (.long va), .second, .val (.long vb), .second, .val (.int fl), .val (.long vp), .second, .val (.long vq), .second, .val (.ref sa), .val (.ref ta), .val (.int (1 : Int32))] [(.int (1 : Int32))]))) (fun t ks => XS.goto X26.here hx rfl (pc0 := 169) (pc' := 173) rfl (hb hby at_169) (by decide) (by decide) ks) ?_
        refine own_st (V := (T26.setTop (mkF m 175 #[.val (.long va), .second, .val (.long vb), .second, .val (.int fl), .val (.long vp), .second, .val (.long vq), .second, .val (.ref sa), .val (.ref ta), .val (.int (1 : Int32))] []))) (fun t ks => XS.istore X26.here hx rfl (hb hby at_173) rfl (l' := #[.val (.long va), .second, .val (.long vb), .second, .val (.int fl), .val (.long vp), .second, .val (.long vq), .second, .val (.ref sa), .val (.ref ta), .val (.int (1 : Int32))]) rfl ks) ?_
        refine own_st (V := (T26.setTop (mkF m 177 #[.val (.long va), .second, .val (.long vb), .second, .val (.int fl), .val (.long vp), .second, .val (.long vq), .second, .val (.ref sa), .val (.ref ta), .val (.int (1 : Int32))] [(.int (1 : Int32))]))) (fun t ks => XS.iload X26.here hx rfl (hb hby at_175) rfl ks) ?_
        refine own_st (V := (T26.setTop (mkF m 180 #[.val (.long va), .second, .val (.long vb), .second, .val (.int fl), .val (.long vp), .second, .val (.long vq), .second, .val (.ref sa), .val (.ref ta), .val (.int (1 : Int32))] []))) (fun t ks => XS.ifNo X26.here hx rfl (hb hby at_177) rfl (XT.i0_eq_f (by decide)) ks) ?_
        refine own_st (V := (T26.setTop (mkF m 182 #[.val (.long va), .second, .val (.long vb), .second, .val (.int fl), .val (.long vp), .second, .val (.long vq), .second, .val (.ref sa), .val (.ref ta), .val (.int (1 : Int32))] [(.ref sa)]))) (fun t ks => XS.aload X26.here hx rfl (hb hby at_180) rfl rfl ks) ?_
        refine own_st (V := (T26.setTop (mkF m 184 #[.val (.long va), .second, .val (.long vb), .second, .val (.int fl), .val (.long vp), .second, .val (.long vq), .second, .val (.ref sa), .val (.ref ta), .val (.int (1 : Int32))] [(.ref ta), (.ref sa)]))) (fun t ks => XS.aload X26.here hx rfl (hb hby at_182) rfl rfl ks) ?_
        refine own_callV0 X26 hx hZ hown (hw _ (List.mem_of_getElem? (i := 42) rfl)) (hw _ (List.mem_of_getElem? (i := 43) rfl)) (hw _ (List.mem_of_getElem? (i := 45) rfl)) (hw _ (List.mem_of_getElem? (i := 44) rfl)) (hw _ (List.mem_of_getElem? (i := 3) rfl)) (hw _ (List.mem_of_getElem? (i := 46) rfl)) (by decide) (rmQ l Z a0 hw sa ta vp vq 0 0 _ rfl T18.heap Et Ps Fs Pt Ft) e26 Es (by rw [hml]; rfl) (argsL := [(.ref ta)]) (rest := []) pd_5 rfl rfl rfl (W := 0) (Nat.le_of_eq rfl) (hb hby at_184) (by decide) (by decide) (by decide) (by decide) ?_
        intro T27 X27 e27
        show OGoes p.tables e below _ (T27.setTop (mkF m 187 #[.val (.long va), .second, .val (.long vb), .second, .val (.int fl), .val (.long vp), .second, .val (.long vq), .second, .val (.ref sa), .val (.ref ta), .val (.int (1 : Int32))] [(.int (if vp = vq ∧ (0 : Int32) = 0 then (1 : Int32) else 0))]))
        refine own_st (V := (T27.setTop (mkF m 189 #[.val (.long va), .second, .val (.long vb), .second, .val (.int fl), .val (.long vp), .second, .val (.long vq), .second, .val (.ref sa), .val (.ref ta), .val (.int (1 : Int32))] [(.long vp), (.int (if vp = vq ∧ (0 : Int32) = 0 then (1 : Int32) else 0))]))) (fun t ks => XS.lload X27.here hx rfl (hb hby at_187) rfl ks) ?_
        refine own_st (V := (T27.setTop (mkF m 191 #[.val (.long va), .second, .val (.long vb), .second, .val (.int fl), .val (.long vp), .second, .val (.long vq), .second, .val (.ref sa), .val (.ref ta), .val (.int (1 : Int32))] [(.long vq), (.long vp), (.int (if vp = vq ∧ (0 : Int32) = 0 then (1 : Int32) else 0))]))) (fun t ks => XS.lload X27.here hx rfl (hb hby at_189) rfl ks) ?_
        refine own_st (V := (T27.setTop (mkF m 192 #[.val (.long va), .second, .val (.long vb), .second, .val (.int fl), .val (.long vp), .second, .val (.long vq), .second, .val (.ref sa), .val (.ref ta), .val (.int (1 : Int32))] [(.int (lcmpW vp vq)), (.int (if vp = vq ∧ (0 : Int32) = 0 then (1 : Int32) else 0))]))) (fun t ks => XS.lcmp X27.here hx rfl (hb hby at_191) rfl ks) ?_
        by_cases g : vp = vq
        · refine own_st (V := (T27.setTop (mkF m 195 #[.val (.long va), .second, .val (.long vb), .second, .val (.int fl), .val (.long vp), .second, .val (.long vq), .second, .val (.ref sa), .val (.ref ta), .val (.int (1 : Int32))] [(.int (if vp = vq ∧ (0 : Int32) = 0 then (1 : Int32) else 0))]))) (fun t ks => XS.ifNo X27.here hx rfl (hb hby at_192) rfl (XT.ll_ne_f g) ks) ?_
          refine own_st (V := (T27.setTop (mkF m 196 #[.val (.long va), .second, .val (.long vb), .second, .val (.int fl), .val (.long vp), .second, .val (.long vq), .second, .val (.ref sa), .val (.ref ta), .val (.int (1 : Int32))] [(.int (1 : Int32)), (.int (if vp = vq ∧ (0 : Int32) = 0 then (1 : Int32) else 0))]))) (fun t ks => XS.iconst X27.here hx rfl (hb hby at_195) ks) ?_
          refine own_st (V := (T27.setTop (mkF m 200 #[.val (.long va), .second, .val (.long vb), .second, .val (.int fl), .val (.long vp), .second, .val (.long vq), .second, .val (.ref sa), .val (.ref ta), .val (.int (1 : Int32))] [(.int (1 : Int32)), (.int (if vp = vq ∧ (0 : Int32) = 0 then (1 : Int32) else 0))]))) (fun t ks => XS.goto X27.here hx rfl (pc0 := 196) (pc' := 200) rfl (hb hby at_196) (by decide) (by decide) ks) ?_
          refine own_st (V := (T27.setTop (mkF m 203 #[.val (.long va), .second, .val (.long vb), .second, .val (.int fl), .val (.long vp), .second, .val (.long vq), .second, .val (.ref sa), .val (.ref ta), .val (.int (1 : Int32))] []))) (fun t ks => XS.icmpNo X27.here hx rfl (hb hby at_200) rfl (XT.ii_ne_f (by simp [g])) ks) ?_
          refine own_st (V := (T27.setTop (mkF m 204 #[.val (.long va), .second, .val (.long vb), .second, .val (.int fl), .val (.long vp), .second, .val (.long vq), .second, .val (.ref sa), .val (.ref ta), .val (.int (1 : Int32))] [(.int (1 : Int32))]))) (fun t ks => XS.iconst X27.here hx rfl (hb hby at_203) ks) ?_
          refine own_st (V := (T27.setTop (mkF m 208 #[.val (.long va), .second, .val (.long vb), .second, .val (.int fl), .val (.long vp), .second, .val (.long vq), .second, .val (.ref sa), .val (.ref ta), .val (.int (1 : Int32))] [(.int (1 : Int32))]))) (fun t ks => XS.goto X27.here hx rfl (pc0 := 204) (pc' := 208) rfl (hb hby at_204) (by decide) (by decide) ks) ?_
          refine own_st (V := (T27.setTop (mkF m 210 #[.val (.long va), .second, .val (.long vb), .second, .val (.int fl), .val (.long vp), .second, .val (.long vq), .second, .val (.ref sa), .val (.ref ta), .val (.int (1 : Int32))] []))) (fun t ks => XS.istore X27.here hx rfl (hb hby at_208) rfl (l' := #[.val (.long va), .second, .val (.long vb), .second, .val (.int fl), .val (.long vp), .second, .val (.long vq), .second, .val (.ref sa), .val (.ref ta), .val (.int (1 : Int32))]) rfl ks) ?_
          refine own_st (V := (T27.setTop (mkF m 212 #[.val (.long va), .second, .val (.long vb), .second, .val (.int fl), .val (.long vp), .second, .val (.long vq), .second, .val (.ref sa), .val (.ref ta), .val (.int (1 : Int32))] [(.int (1 : Int32))]))) (fun t ks => XS.iload X27.here hx rfl (hb hby at_210) rfl ks) ?_
          exact own_retNW X27 hS (by rw [e27]; exact hk) hx hlk (by simp) hret (hb hby at_212) (by decide) (by decide) ⟨rfl, N18⟩
        · refine own_st (V := (T27.setTop (mkF m 199 #[.val (.long va), .second, .val (.long vb), .second, .val (.int fl), .val (.long vp), .second, .val (.long vq), .second, .val (.ref sa), .val (.ref ta), .val (.int (1 : Int32))] [(.int (if vp = vq ∧ (0 : Int32) = 0 then (1 : Int32) else 0))]))) (fun t ks => XS.ifYes X27.here hx rfl (pc0 := 192) (pc' := 199) rfl (hb hby at_192) rfl (XT.ll_ne_t g) (by decide) (by decide) ks) ?_
          refine own_st (V := (T27.setTop (mkF m 200 #[.val (.long va), .second, .val (.long vb), .second, .val (.int fl), .val (.long vp), .second, .val (.long vq), .second, .val (.ref sa), .val (.ref ta), .val (.int (1 : Int32))] [(.int (0 : Int32)), (.int (if vp = vq ∧ (0 : Int32) = 0 then (1 : Int32) else 0))]))) (fun t ks => XS.iconst X27.here hx rfl (hb hby at_199) ks) ?_
          refine own_st (V := (T27.setTop (mkF m 203 #[.val (.long va), .second, .val (.long vb), .second, .val (.int fl), .val (.long vp), .second, .val (.long vq), .second, .val (.ref sa), .val (.ref ta), .val (.int (1 : Int32))] []))) (fun t ks => XS.icmpNo X27.here hx rfl (hb hby at_200) rfl (XT.ii_ne_f (by simp [g])) ks) ?_
          refine own_st (V := (T27.setTop (mkF m 204 #[.val (.long va), .second, .val (.long vb), .second, .val (.int fl), .val (.long vp), .second, .val (.long vq), .second, .val (.ref sa), .val (.ref ta), .val (.int (1 : Int32))] [(.int (1 : Int32))]))) (fun t ks => XS.iconst X27.here hx rfl (hb hby at_203) ks) ?_
          refine own_st (V := (T27.setTop (mkF m 208 #[.val (.long va), .second, .val (.long vb), .second, .val (.int fl), .val (.long vp), .second, .val (.long vq), .second, .val (.ref sa), .val (.ref ta), .val (.int (1 : Int32))] [(.int (1 : Int32))]))) (fun t ks => XS.goto X27.here hx rfl (pc0 := 204) (pc' := 208) rfl (hb hby at_204) (by decide) (by decide) ks) ?_
          refine own_st (V := (T27.setTop (mkF m 210 #[.val (.long va), .second, .val (.long vb), .second, .val (.int fl), .val (.long vp), .second, .val (.long vq), .second, .val (.ref sa), .val (.ref ta), .val (.int (1 : Int32))] []))) (fun t ks => XS.istore X27.here hx rfl (hb hby at_208) rfl (l' := #[.val (.long va), .second, .val (.long vb), .second, .val (.int fl), .val (.long vp), .second, .val (.long vq), .second, .val (.ref sa), .val (.ref ta), .val (.int (1 : Int32))]) rfl ks) ?_
          refine own_st (V := (T27.setTop (mkF m 212 #[.val (.long va), .second, .val (.long vb), .second, .val (.int fl), .val (.long vp), .second, .val (.long vq), .second, .val (.ref sa), .val (.ref ta), .val (.int (1 : Int32))] [(.int (1 : Int32))]))) (fun t ks => XS.iload X27.here hx rfl (hb hby at_210) rfl ks) ?_
          exact own_retNW X27 hS (by rw [e27]; exact hk) hx hlk (by simp) hret (hb hby at_212) (by decide) (by decide) ⟨rfl, N18⟩
      by_cases g : vp = (0 : Int64)
      · refine own_st (V := (T24.setTop (mkF m 137 #[.val (.long va), .second, .val (.long vb), .second, .val (.int fl), .val (.long vp), .second, .val (.long vq), .second, .val (.ref sa), .val (.ref ta), .val (.int (1 : Int32))] [(.int (if vp = 0 ∧ (0 : Int32) = 0 then (1 : Int32) else 0))]))) (fun t ks => XS.ifNo X24.here hx rfl (hb hby at_134) rfl (XT.ll_ne_f g) ks) ?_
        refine own_st (V := (T24.setTop (mkF m 138 #[.val (.long va), .second, .val (.long vb), .second, .val (.int fl), .val (.long vp), .second, .val (.long vq), .second, .val (.ref sa), .val (.ref ta), .val (.int (1 : Int32))] [(.int (1 : Int32)), (.int (if vp = 0 ∧ (0 : Int32) = 0 then (1 : Int32) else 0))]))) (fun t ks => XS.iconst X24.here hx rfl (hb hby at_137) ks) ?_
        refine own_st (V := (T24.setTop (mkF m 142 #[.val (.long va), .second, .val (.long vb), .second, .val (.int fl), .val (.long vp), .second, .val (.long vq), .second, .val (.ref sa), .val (.ref ta), .val (.int (1 : Int32))] [(.int (1 : Int32)), (.int (if vp = 0 ∧ (0 : Int32) = 0 then (1 : Int32) else 0))]))) (fun t ks => XS.goto X24.here hx rfl (pc0 := 138) (pc' := 142) rfl (hb hby at_138) (by decide) (by decide) ks) ?_
        refine own_st (V := (T24.setTop (mkF m 145 #[.val (.long va), .second, .val (.long vb), .second, .val (.int fl), .val (.long vp), .second, .val (.long vq), .second, .val (.ref sa), .val (.ref ta), .val (.int (1 : Int32))] []))) (fun t ks => XS.icmpNo X24.here hx rfl (hb hby at_142) rfl (XT.ii_ne_f (by simp [g])) ks) ?_
        refine own_st (V := (T24.setTop (mkF m 146 #[.val (.long va), .second, .val (.long vb), .second, .val (.int fl), .val (.long vp), .second, .val (.long vq), .second, .val (.ref sa), .val (.ref ta), .val (.int (1 : Int32))] [(.int (1 : Int32))]))) (fun t ks => XS.iconst X24.here hx rfl (hb hby at_145) ks) ?_
        refine own_st (V := (T24.setTop (mkF m 150 #[.val (.long va), .second, .val (.long vb), .second, .val (.int fl), .val (.long vp), .second, .val (.long vq), .second, .val (.ref sa), .val (.ref ta), .val (.int (1 : Int32))] [(.int (1 : Int32))]))) (fun t ks => XS.goto X24.here hx rfl (pc0 := 146) (pc' := 150) rfl (hb hby at_146) (by decide) (by decide) ks) ?_
        exact K150
      · refine own_st (V := (T24.setTop (mkF m 141 #[.val (.long va), .second, .val (.long vb), .second, .val (.int fl), .val (.long vp), .second, .val (.long vq), .second, .val (.ref sa), .val (.ref ta), .val (.int (1 : Int32))] [(.int (if vp = 0 ∧ (0 : Int32) = 0 then (1 : Int32) else 0))]))) (fun t ks => XS.ifYes X24.here hx rfl (pc0 := 134) (pc' := 141) rfl (hb hby at_134) rfl (XT.ll_ne_t g) (by decide) (by decide) ks) ?_
        refine own_st (V := (T24.setTop (mkF m 142 #[.val (.long va), .second, .val (.long vb), .second, .val (.int fl), .val (.long vp), .second, .val (.long vq), .second, .val (.ref sa), .val (.ref ta), .val (.int (1 : Int32))] [(.int (0 : Int32)), (.int (if vp = 0 ∧ (0 : Int32) = 0 then (1 : Int32) else 0))]))) (fun t ks => XS.iconst X24.here hx rfl (hb hby at_141) ks) ?_
        refine own_st (V := (T24.setTop (mkF m 145 #[.val (.long va), .second, .val (.long vb), .second, .val (.int fl), .val (.long vp), .second, .val (.long vq), .second, .val (.ref sa), .val (.ref ta), .val (.int (1 : Int32))] []))) (fun t ks => XS.icmpNo X24.here hx rfl (hb hby at_142) rfl (XT.ii_ne_f (by simp [g])) ks) ?_
        refine own_st (V := (T24.setTop (mkF m 146 #[.val (.long va), .second, .val (.long vb), .second, .val (.int fl), .val (.long vp), .second, .val (.long vq), .second, .val (.ref sa), .val (.ref ta), .val (.int (1 : Int32))] [(.int (1 : Int32))]))) (fun t ks => XS.iconst X24.here hx rfl (hb hby at_145) ks) ?_
        refine own_st (V := (T24.setTop (mkF m 150 #[.val (.long va), .second, .val (.long vb), .second, .val (.int fl), .val (.long vp), .second, .val (.long vq), .second, .val (.ref sa), .val (.ref ta), .val (.int (1 : Int32))] [(.int (1 : Int32))]))) (fun t ks => XS.goto X24.here hx rfl (pc0 := 146) (pc' := 150) rfl (hb hby at_146) (by decide) (by decide) ks) ?_
        exact K150
    have K34 : ∀ (vq : Int64) (hq : ¬ vq < 0), OGoes p.tables e below (ODoneW room_1 s below (fun v h L => v = some (.int 1) ∧ Fr Z.heap.size L)) (T0.setTop (mkF m 34 #[.val (.long va), .second, .val (.long vb), .second, .val (.int fl), .val (.long vp), .second, .unset, .unset, .unset, .unset, .unset] [(.long vq)])) := by
      intro vq hq
      refine own_st (V := (T0.setTop (mkF m 36 #[.val (.long va), .second, .val (.long vb), .second, .val (.int fl), .val (.long vp), .second, .val (.long vq), .second, .unset, .unset, .unset] []))) (fun t ks => XS.lstore X0.here hx rfl (hb hby at_34) rfl (l' := #[.val (.long va), .second, .val (.long vb), .second, .val (.int fl), .val (.long vp), .second, .val (.long vq), .second, .unset, .unset, .unset]) rfl ks) ?_
      refine own_st (V := (T0.setTop (mkF m 38 #[.val (.long va), .second, .val (.long vb), .second, .val (.int fl), .val (.long vp), .second, .val (.long vq), .second, .unset, .unset, .unset] [(.int fl)]))) (fun t ks => XS.iload X0.here hx rfl (hb hby at_36) rfl ks) ?_
      refine own_st (V := (T0.setTop (mkF m 39 #[.val (.long va), .second, .val (.long vb), .second, .val (.int fl), .val (.long vp), .second, .val (.long vq), .second, .unset, .unset, .unset] [(.int (4 : Int32)), (.int fl)]))) (fun t ks => XS.iconst X0.here hx rfl (hb hby at_38) ks) ?_
      refine own_st (V := (T0.setTop (mkF m 40 #[.val (.long va), .second, .val (.long vb), .second, .val (.int fl), .val (.long vp), .second, .val (.long vq), .second, .unset, .unset, .unset] [(.int (fl &&& (4 : Int32)))]))) (fun t ks => XS.iand X0.here hx rfl (hb hby at_39) rfl ks) ?_
      by_cases g1 : (fl &&& (4 : Int32)) = 0
      · refine own_st (V := (T0.setTop (mkF m 46 #[.val (.long va), .second, .val (.long vb), .second, .val (.int fl), .val (.long vp), .second, .val (.long vq), .second, .unset, .unset, .unset] []))) (fun t ks => XS.ifYes X0.here hx rfl (pc0 := 40) (pc' := 46) rfl (hb hby at_40) rfl (XT.i0_eq_t g1) (by decide) (by decide) ks) ?_
        exact K46 _ hq
      · refine own_st (V := (T0.setTop (mkF m 43 #[.val (.long va), .second, .val (.long vb), .second, .val (.int fl), .val (.long vp), .second, .val (.long vq), .second, .unset, .unset, .unset] []))) (fun t ks => XS.ifNo X0.here hx rfl (hb hby at_40) rfl (XT.i0_eq_f g1) ks) ?_
        refine own_st (V := (T0.setTop (mkF m 44 #[.val (.long va), .second, .val (.long vb), .second, .val (.int fl), .val (.long vp), .second, .val (.long vq), .second, .unset, .unset, .unset] [(.long (0 : Int64))]))) (fun t ks => XS.lconst X0.here hx rfl (hb hby at_43) ks) ?_
        refine own_st (V := (T0.setTop (mkF m 46 #[.val (.long va), .second, .val (.long vb), .second, .val (.int fl), .val (.long vp), .second, .val (.long (0 : Int64)), .second, .unset, .unset, .unset] []))) (fun t ks => XS.lstore X0.here hx rfl (hb hby at_44) rfl (l' := #[.val (.long va), .second, .val (.long vb), .second, .val (.int fl), .val (.long vp), .second, .val (.long (0 : Int64)), .second, .unset, .unset, .unset]) rfl ks) ?_
        exact K46 _ (by decide)
    by_cases g0 : (fl &&& (1 : Int32)) = 0
    · refine own_st (V := (T0.setTop (mkF m 29 #[.val (.long va), .second, .val (.long vb), .second, .val (.int fl), .val (.long vp), .second, .unset, .unset, .unset, .unset, .unset] []))) (fun t ks => XS.ifYes X0.here hx rfl (pc0 := 21) (pc' := 29) rfl (hb hby at_21) rfl (XT.i0_eq_t g0) (by decide) (by decide) ks) ?_
      refine own_st (V := (T0.setTop (mkF m 30 #[.val (.long va), .second, .val (.long vb), .second, .val (.int fl), .val (.long vp), .second, .unset, .unset, .unset, .unset, .unset] [(.long vb)]))) (fun t ks => XS.lloadN X0.here hx rfl (hb hby at_29) rfl ks) ?_
      refine own_st (V := (T0.setTop (mkF m 33 #[.val (.long va), .second, .val (.long vb), .second, .val (.int fl), .val (.long vp), .second, .unset, .unset, .unset, .unset, .unset] [(.long (9223372036854775807 : Int64)), (.long vb)]))) (fun t ks => X0.ldc2Long hx hown (mvT hZ (hw _ (List.mem_of_getElem? (i := 0) rfl))) (g := (mkF m 30 #[.val (.long va), .second, .val (.long vb), .second, .val (.int fl), .val (.long vp), .second, .unset, .unset, .unset, .unset, .unset] [(.long vb)])) rfl (hb hby at_30) t ks) ?_
      refine own_st (V := (T0.setTop (mkF m 34 #[.val (.long va), .second, .val (.long vb), .second, .val (.int fl), .val (.long vp), .second, .unset, .unset, .unset, .unset, .unset] [(.long (vb &&& (9223372036854775807 : Int64)))]))) (fun t ks => XS.land X0.here hx rfl (hb hby at_33) rfl ks) ?_
      exact K34 _ (own_pos vb)
    · refine own_st (V := (T0.setTop (mkF m 24 #[.val (.long va), .second, .val (.long vb), .second, .val (.int fl), .val (.long vp), .second, .unset, .unset, .unset, .unset, .unset] []))) (fun t ks => XS.ifNo X0.here hx rfl (hb hby at_21) rfl (XT.i0_eq_f g0) ks) ?_
      refine own_st (V := (T0.setTop (mkF m 26 #[.val (.long va), .second, .val (.long vb), .second, .val (.int fl), .val (.long vp), .second, .unset, .unset, .unset, .unset, .unset] [(.long vp)]))) (fun t ks => XS.lload X0.here hx rfl (hb hby at_24) rfl ks) ?_
      refine own_st (V := (T0.setTop (mkF m 34 #[.val (.long va), .second, .val (.long vb), .second, .val (.int fl), .val (.long vp), .second, .unset, .unset, .unset, .unset, .unset] [(.long vp)]))) (fun t ks => XS.goto X0.here hx rfl (pc0 := 26) (pc' := 34) rfl (hb hby at_26) (by decide) (by decide) ks) ?_
      exact K34 _ hp
  refine own_st (V := (T0.setTop (mkF m 9 #[.val (.long va), .second, .val (.long vb), .second, .val (.int fl), .val (.long (va &&& (9223372036854775807 : Int64))), .second, .unset, .unset, .unset, .unset, .unset] [(.int fl)]))) (fun t ks => XS.iload X0.here hx rfl (hb hby at_7) rfl ks) ?_
  refine own_st (V := (T0.setTop (mkF m 10 #[.val (.long va), .second, .val (.long vb), .second, .val (.int fl), .val (.long (va &&& (9223372036854775807 : Int64))), .second, .unset, .unset, .unset, .unset, .unset] [(.int (2 : Int32)), (.int fl)]))) (fun t ks => XS.iconst X0.here hx rfl (hb hby at_9) ks) ?_
  refine own_st (V := (T0.setTop (mkF m 11 #[.val (.long va), .second, .val (.long vb), .second, .val (.int fl), .val (.long (va &&& (9223372036854775807 : Int64))), .second, .unset, .unset, .unset, .unset, .unset] [(.int (fl &&& (2 : Int32)))]))) (fun t ks => XS.iand X0.here hx rfl (hb hby at_10) rfl ks) ?_
  by_cases g0 : (fl &&& (2 : Int32)) = 0
  · refine own_st (V := (T0.setTop (mkF m 17 #[.val (.long va), .second, .val (.long vb), .second, .val (.int fl), .val (.long (va &&& (9223372036854775807 : Int64))), .second, .unset, .unset, .unset, .unset, .unset] []))) (fun t ks => XS.ifYes X0.here hx rfl (pc0 := 11) (pc' := 17) rfl (hb hby at_11) rfl (XT.i0_eq_t g0) (by decide) (by decide) ks) ?_
    exact K17 _ (own_pos va)
  · refine own_st (V := (T0.setTop (mkF m 14 #[.val (.long va), .second, .val (.long vb), .second, .val (.int fl), .val (.long (va &&& (9223372036854775807 : Int64))), .second, .unset, .unset, .unset, .unset, .unset] []))) (fun t ks => XS.ifNo X0.here hx rfl (hb hby at_11) rfl (XT.i0_eq_f g0) ks) ?_
    refine own_st (V := (T0.setTop (mkF m 15 #[.val (.long va), .second, .val (.long vb), .second, .val (.int fl), .val (.long (va &&& (9223372036854775807 : Int64))), .second, .unset, .unset, .unset, .unset, .unset] [(.long (0 : Int64))]))) (fun t ks => XS.lconst X0.here hx rfl (hb hby at_14) ks) ?_
    refine own_st (V := (T0.setTop (mkF m 17 #[.val (.long va), .second, .val (.long vb), .second, .val (.int fl), .val (.long (0 : Int64)), .second, .unset, .unset, .unset, .unset, .unset] []))) (fun t ks => XS.lstore X0.here hx rfl (hb hby at_15) rfl (l' := #[.val (.long va), .second, .val (.long vb), .second, .val (.int fl), .val (.long (0 : Int64)), .second, .unset, .unset, .unset, .unset, .unset]) rfl ks) ?_
    exact K17 _ (by decide)
set_option maxRecDepth 65536 in
set_option maxHeartbeats 40000000 in
theorem own_law (l : Launch) (s : State) (args : Array Value) (hw : ∀ d ∈ tables_1, d.before args s = true) (hfit : Fit s) (hg : given_1.value args s none s [] = some true) (hn : narrow_1.value args s none s [] = some true) :
    OMetW l s x code maxLocals ret room_1 args s.heap (fun v h L => v = some (.int 1) ∧ Fr s.heap.size L) := by
  obtain ⟨g0, g1⟩ := and_e hg
  obtain ⟨w0, w1, w2, rfl⟩ : ∃ w0 w1 w2 : Value, args = #[w0, w1, w2] := by
    have hs : args.size = 3 := by simpa [Cond.value, given_1] using g0
    obtain ⟨L⟩ := args
    match L, hs with
    | [w0, w1, w2], _ => exact ⟨w0, w1, w2, rfl⟩
  obtain ⟨q0, r0⟩ := and_e g1
  obtain ⟨i0, ei0⟩ := isL_v q0
  obtain rfl : w0 = (.long i0) := Option.some.inj ei0
  obtain ⟨q1, r1⟩ := and_e r0
  obtain ⟨i1, ei1⟩ := isL_v q1
  obtain rfl : w1 = (.long i1) := Option.some.inj ei1
  obtain ⟨i2, ei2⟩ := is_v r1
  obtain rfl : w2 = (.int i2) := Option.some.inj ei2
  obtain ⟨c1, hn⟩ := and_e hn
  obtain ⟨c2, hn⟩ := and_e hn
  obtain ⟨c3, hn⟩ := and_e hn
  obtain ⟨c4, hn⟩ := and_e hn
  obtain ⟨c5, c6⟩ := and_e hn
  obtain ⟨wS, v1, S1, E1⟩ := own_static c1 ((hw _ (List.mem_of_getElem? (i := 3) rfl))) ((hw _ (List.mem_of_getElem? (i := 41) rfl)))
  obtain ⟨wN, v2, S2, E2⟩ := own_static c3 ((hw _ (List.mem_of_getElem? (i := 3) rfl))) ((hw _ (List.mem_of_getElem? (i := 49) rfl)))
  exact rm0 l s _ hw i0 i1 i2 wS wN s.heap ⟨Nat.le_refl _, fun _ _ q => q⟩ S1 E1 (own_fld_long v1 c2) (own_fld_int v1 c5) S2 E2 (own_fld_long v2 c4) (own_fld_int v2 c6)
set_option maxRecDepth 65536 in
set_option maxHeartbeats 40000000 in
theorem comes_1 {Post : Tables → Env → Array Value → State → Outcome → State → Prop} (hpost : ∀ tb e args s v u, (limb_1_1.after args s (.returned v) u = true ∧ limb_1_2.after args s (.returned v) u = true ∧ True) → ReturnedEndW s (.returned v) u (Jvm.fieldLocs frame_1_writes args s ++ Jvm.arrayLocs frame_1_arrays args s ++ Jvm.staticLocs frame_1_statics s) 16 2176 → Post tb e args s (.returned v) u) :
    ArmFor flags0 classFile x code maxLocals ret World_1 tables_1 room_1 Calls_1 rest_1 Pre_1 Post := by
  intro l hfl _ _ p e ha hc hk s m args below hf hA hF happ hP
  obtain ⟨hcalls, hrest, hpre⟩ := hP
  obtain ⟨-, -, -, hnamed, -, -, -, hat⟩ := (Spec.applies_iff hf).mp happ
  obtain ⟨hg, hn⟩ := and_e (Cond.before_iff.mp (show (Jvm.Cond.and given_1 narrow_1).before args s = true from hpre))
  have hw := fun d (hd : d ∈ tables_1) => atoms_spec (ws := Jvm.Cond.code x code maxLocals ret :: tables_1) hat d (List.mem_cons_of_mem _ hd)
  have hfit : Fit s := fun {y c} hc i hi => by
    obtain ⟨ha, rfl⟩ := Array.getElem?_eq_some_iff.mp hc
    have q := List.all_eq_true.mp ((Array.all_eq_true_iff_forall_mem.mp hF) _ (Array.getElem_mem ha)) i (List.mem_range.mpr hi)
    simpa [Array.getElem?_eq_getElem hi] using q
  obtain ⟨n, o, h1, h2, h3, _, L, rfl, ⟨rfl, N⟩, hq⟩ := own_law l s args hw hfit hg hn tables_1 p e ha hc hk s m _ below hf ((Spec.applies_iff_loose hf).mp happ).1 ⟨rfl, State.Warmed39.refl s, rfl⟩ trivial
  refine ⟨n, _, h1, h2, h3, hpost _ _ _ _ _ _ ⟨Cond.after_iff.mpr rfl, Cond.after_iff.mpr (eq_i res_at (Term.int_eval (1)) rfl), trivial⟩ ⟨hq.1, hq.2.1, hq.2.2.1, (hq.2.2.2.sift fun y hy => Or.inr (N y hy)).mono (by decide) (by decide)⟩⟩
theorem main_1_1 : Claimed_1_1 := comes_1 fun _ _ _ _ _ _ h hF => ⟨h.1, hF⟩
theorem main_1_2 : Claimed_1_2 := comes_1 fun _ _ _ _ _ _ h hF => ⟨h.2.1, hF⟩
end Jvm.Pilot.@@N@@
namespace Jvm.Pilot.@@N@@
open Jvm Jvm.ClassFile Sem Op Lib Jvm.Free Jvm.Stand Jvm.Pilot.@@N@@.Jvm.D
/-! MADE BY PROGRAM (witnessworld.py) out of the Statement's table words and the real class files: 15 classes; the members and pool entries that the words name. The judged class is class 1, her method 1. -/
namespace start1
open Jvm.ClassFile
def u (s : String) : CpInfo := .utf8 (stringToUtf16 s)
/-- a pool by its gaps: so many unusable entries, then the entry; so many at the end -/
def gap : Nat → List CpInfo → List CpInfo
  | 0, r => r
  | n + 1, r => .unusable :: gap n r
def poolList (es : List (Nat × CpInfo)) (last : Nat) : List CpInfo := es.foldr (fun e r => gap e.1 (e.2 :: r)) (gap last [])
def pool (es : List (Nat × CpInfo)) (last : Nat) : Array CpInfo := ⟨poolList es last⟩
def fileOf (pool : Array CpInfo) (this : Nat) (attrs : Array Attribute := #[]) (ms : Array MethodInfo := #[]) (fl : Nat := 33) (sup : Nat := 0) (ifs : Array Nat := #[]) (fds : Array FieldInfo := #[]) : ClassFile where
  minorVersion := 0
  majorVersion := 65
  constantPool := pool
  accessFlags := fl
  thisClass := this
  superClass := sup
  interfaces := ifs
  fields := fds
  methods := ms
  attributes := attrs
def plain (name : String) (sup : Option ClassId) : Class where
  name := name
  kind := .ordinary
  loader := none
  accessFlags := 33
  super := sup
  interfaces := #[]
  cf := none
  fields := #[]
  methods := #[]
  instanceTypes := #[]
  staticTypes := #[]
  resolved := #[]
  callSites := []
  init := .initialized
  statics := none
  mirror := none

def pool0 : Array CpInfo := pool [(5, u "<init>"), (0, u "()V"), (1, .class_ 10), (1, u "java/lang/Object")] 113

def k0c0 : Code := { maxStack := 0, maxLocals := 1, code := object_method_1_code, exceptionTable := #[], attributes := #[] }
def k0m0 : Method := { name := "<init>", desc := "()V", sig := { parameters := [], returnType := none }, accessFlags := 1, code := some k0c0 }
/-- java/lang/Object -/
def k0 : Class := { plain "java/lang/Object" none with
  accessFlags := 33
  interfaces := #[]
  cf := some (fileOf pool0 8 #[] #[{ accessFlags := 1, nameIndex := 5, descriptorIndex := 6, attributes := #[] }] 33 0 #[] #[])
  fields := #[]
  methods := #[k0m0]
  instanceTypes := #[]
  staticTypes := #[]
  resolved := Array.replicate 124 none
  statics := none }

def pool1 : Array CpInfo := pool [(2, .class_ 4), (1, u "java/lang/Object"), (0, u "<init>"), (0, u "()V"), (2, .long 9223372036854775807), (1, .methodref 12 13), (0, .class_ 14), (0, .nameAndType 15 16), (0, u "com/example/tallydb/tallydb/SubscriptionStart"), (0, u "after"), (0, u "(J)Lcom/example/tallydb/tallydb/SubscriptionStart;"), (0, .methodref 12 18), (0, .nameAndType 19 20), (0, u "position"), (0, u "()J"), (0, .methodref 12 22), (0, .nameAndType 23 24), (0, u "isFromNow"), (0, u "()Z"), (0, .fieldref 12 26), (0, .nameAndType 27 28), (0, u "FROM_START"), (0, u "Lcom/example/tallydb/tallydb/SubscriptionStart;"), (0, .methodref 12 30), (0, .nameAndType 31 32), (0, u "equals"), (0, u "(Ljava/lang/Object;)Z"), (0, .fieldref 12 34), (0, .nameAndType 35 28), (0, u "FROM_NOW"), (0, .class_ 37), (0, u "com/example/tallydb/tallydb/SubscriptionStartAfterPinLaw"), (2, u "law"), (0, u "(JJI)Z")] 3

def k1m0 : Method := { name := "<init>", desc := "()V", sig := { parameters := [], returnType := none }, accessFlags := 1, code := none }
def k1c1 : Code := { maxStack := 5, maxLocals := 12, code := code, exceptionTable := #[], attributes := #[] }
def k1m1 : Method := { name := "law", desc := "(JJI)Z", sig := { parameters := [.long, .long, .int], returnType := some .boolean }, accessFlags := 9, code := some k1c1 }
/-- com/example/tallydb/tallydb/SubscriptionStartAfterPinLaw -/
def k1 : Class := { plain "com/example/tallydb/tallydb/SubscriptionStartAfterPinLaw" (some 0) with
  accessFlags := 49
  interfaces := #[]
  cf := some (fileOf pool1 36 #[] #[{ accessFlags := 1, nameIndex := 5, descriptorIndex := 6, attributes := #[] }, { accessFlags := 9, nameIndex := 40, descriptorIndex := 41, attributes := #[] }] 49 2 #[] #[])
  fields := #[]
  methods := #[k1m0, k1m1]
  instanceTypes := #[]
  staticTypes := #[]
  resolved := Array.replicate 45 none
  statics := none }

def pool2 : Array CpInfo := pool [(1, .methodref 2 3), (0, .class_ 4), (0, .nameAndType 5 6), (0, u "java/lang/Object"), (0, u "<init>"), (0, u "()V"), (0, .fieldref 8 9), (0, .class_ 10), (0, .nameAndType 11 12), (0, u "com/example/tallydb/tallydb/SubscriptionStart"), (0, u "position"), (0, u "J"), (0, .fieldref 8 14), (0, .nameAndType 15 16), (0, u "fromNow"), (0, u "Z"), (0, .string 11), (0, .string 19), (0, u "a position to subscribe after"), (0, .methodref 21 22), (0, .class_ 23), (0, .nameAndType 24 25), (0, u "com/example/tallydb/tallydb/Bounds"), (0, u "requireAtLeast"), (0, u "(Ljava/lang/String;Ljava/lang/String;JJ)V"), (0, .methodref 8 27), (0, .nameAndType 5 28), (0, u "(JZ)V"), (19, u "FROM_START"), (0, u "Lcom/example/tallydb/tallydb/SubscriptionStart;"), (2, u "FROM_NOW"), (2, u "after"), (0, u "(J)Lcom/example/tallydb/tallydb/SubscriptionStart;"), (0, u "()J"), (0, u "isFromNow"), (0, u "()Z"), (5, u "equals"), (0, u "(Ljava/lang/Object;)Z")] 19

def k2c0 : Code := { maxStack := 3, maxLocals := 4, code := prog_31_method_1_code, exceptionTable := #[], attributes := #[] }
def k2m0 : Method := { name := "<init>", desc := "(JZ)V", sig := { parameters := [.long, .boolean], returnType := none }, accessFlags := 2, code := some k2c0 }
def k2c1 : Code := { maxStack := 6, maxLocals := 2, code := prog_31_method_2_code, exceptionTable := #[], attributes := #[] }
def k2m1 : Method := { name := "after", desc := "(J)Lcom/example/tallydb/tallydb/SubscriptionStart;", sig := { parameters := [.long], returnType := some (.object "com/example/tallydb/tallydb/SubscriptionStart") }, accessFlags := 9, code := some k2c1 }
def k2c2 : Code := { maxStack := 2, maxLocals := 1, code := prog_31_method_3_code, exceptionTable := #[], attributes := #[] }
def k2m2 : Method := { name := "position", desc := "()J", sig := { parameters := [], returnType := some .long }, accessFlags := 0, code := some k2c2 }
def k2c3 : Code := { maxStack := 1, maxLocals := 1, code := prog_31_method_4_code, exceptionTable := #[], attributes := #[] }
def k2m3 : Method := { name := "isFromNow", desc := "()Z", sig := { parameters := [], returnType := some .boolean }, accessFlags := 0, code := some k2c3 }
def k2c4 : Code := { maxStack := 4, maxLocals := 3, code := prog_31_method_6_code, exceptionTable := #[], attributes := #[] }
def k2m4 : Method := { name := "equals", desc := "(Ljava/lang/Object;)Z", sig := { parameters := [(.object "java/lang/Object")], returnType := some .boolean }, accessFlags := 1, code := some k2c4 }
/-- com/example/tallydb/tallydb/SubscriptionStart -/
def k2 : Class := { plain "com/example/tallydb/tallydb/SubscriptionStart" (some 0) with
  accessFlags := 49
  interfaces := #[]
  cf := some (fileOf pool2 8 #[] #[{ accessFlags := 2, nameIndex := 5, descriptorIndex := 28, attributes := #[] }, { accessFlags := 9, nameIndex := 55, descriptorIndex := 56, attributes := #[] }, { accessFlags := 0, nameIndex := 11, descriptorIndex := 57, attributes := #[] }, { accessFlags := 0, nameIndex := 58, descriptorIndex := 59, attributes := #[] }, { accessFlags := 1, nameIndex := 65, descriptorIndex := 66, attributes := #[] }] 49 2 #[] #[{ accessFlags := 25, nameIndex := 48, descriptorIndex := 49, attributes := #[] }, { accessFlags := 25, nameIndex := 52, descriptorIndex := 49, attributes := #[] }, { accessFlags := 18, nameIndex := 11, descriptorIndex := 12, attributes := #[] }, { accessFlags := 18, nameIndex := 15, descriptorIndex := 16, attributes := #[] }])
  fields := #[{ name := "FROM_START", type := (.object "com/example/tallydb/tallydb/SubscriptionStart"), accessFlags := 25, slot := 0, constantValue := 0 }, { name := "FROM_NOW", type := (.object "com/example/tallydb/tallydb/SubscriptionStart"), accessFlags := 25, slot := 1, constantValue := 0 }, { name := "position", type := .long, accessFlags := 18, slot := 0, constantValue := 0 }, { name := "fromNow", type := .boolean, accessFlags := 18, slot := 1, constantValue := 0 }]
  methods := #[k2m0, k2m1, k2m2, k2m3, k2m4]
  instanceTypes := #[.long, .boolean]
  staticTypes := #[(.object "com/example/tallydb/tallydb/SubscriptionStart"), (.object "com/example/tallydb/tallydb/SubscriptionStart")]
  resolved := Array.replicate 86 none
  statics := some 0 }

def pool3 : Array CpInfo := pool [(1, .class_ 2), (0, u "java/io/Serializable"), (0, .class_ 4), (0, u "java/lang/Object")] 2

/-- java/io/Serializable -/
def k3 : Class := { plain "java/io/Serializable" (some 0) with
  accessFlags := 1537
  interfaces := #[]
  cf := some (fileOf pool3 1 #[] #[] 1537 3 #[] #[])
  fields := #[]
  methods := #[]
  instanceTypes := #[]
  staticTypes := #[]
  resolved := Array.replicate 7 none
  statics := none }

def pool4 : Array CpInfo := pool [(1, .class_ 2), (0, u "java/lang/Comparable"), (0, .class_ 4), (0, u "java/lang/Object")] 7

/-- java/lang/Comparable -/
def k4 : Class := { plain "java/lang/Comparable" (some 0) with
  accessFlags := 1537
  interfaces := #[]
  cf := some (fileOf pool4 1 #[] #[] 1537 3 #[] #[])
  fields := #[]
  methods := #[]
  instanceTypes := #[]
  staticTypes := #[]
  resolved := Array.replicate 12 none
  statics := none }

def pool5 : Array CpInfo := pool [(2, .class_ 4), (1, u "java/lang/CharSequence"), (42, .class_ 48), (0, u "java/lang/CharSequence$1CodePointIterator"), (10, .class_ 60), (0, u "java/lang/CharSequence$1CharIterator"), (5, .class_ 67), (0, u "java/lang/Object")] 63

/-- java/lang/CharSequence -/
def k5 : Class := { plain "java/lang/CharSequence" (some 0) with
  accessFlags := 1537
  interfaces := #[]
  cf := some (fileOf pool5 2 #[.nestMembers #[47, 59]] #[] 1537 66 #[] #[])
  fields := #[]
  methods := #[]
  instanceTypes := #[]
  staticTypes := #[]
  resolved := Array.replicate 131 none
  statics := none }

def pool6 : Array CpInfo := pool [(1, .class_ 2), (0, u "java/lang/constant/Constable"), (0, .class_ 4), (0, u "java/lang/Object")] 6

/-- java/lang/constant/Constable -/
def k6 : Class := { plain "java/lang/constant/Constable" (some 0) with
  accessFlags := 1537
  interfaces := #[]
  cf := some (fileOf pool6 1 #[] #[] 1537 3 #[] #[])
  fields := #[]
  methods := #[]
  instanceTypes := #[]
  staticTypes := #[]
  resolved := Array.replicate 11 none
  statics := none }

def pool7 : Array CpInfo := pool [(1, .class_ 2), (0, u "java/lang/constant/ConstantDesc"), (0, .class_ 4), (0, u "java/lang/Object")] 32

/-- java/lang/constant/ConstantDesc -/
def k7 : Class := { plain "java/lang/constant/ConstantDesc" (some 0) with
  accessFlags := 1537
  interfaces := #[]
  cf := some (fileOf pool7 1 #[] #[] 1537 3 #[] #[])
  fields := #[]
  methods := #[]
  instanceTypes := #[]
  staticTypes := #[]
  resolved := Array.replicate 37 none
  statics := none }

def pool8 : Array CpInfo := pool [(2, .class_ 4), (1, u "java/lang/Object"), (0, u "<init>"), (0, u "()V"), (3, .class_ 12), (1, u "java/lang/String"), (0, u "value"), (0, u "[B"), (2, u "coder"), (0, u "B"), (2, u "hash"), (0, u "I"), (2, u "hashIsZero"), (0, u "Z"), (13, u "COMPACT_STRINGS"), (534, .class_ 576), (0, u "java/lang/CharSequence"), (22, u "CASE_INSENSITIVE_ORDER"), (0, u "Ljava/util/Comparator;"), (500, u "serialPersistentFields"), (0, u "[Ljava/io/ObjectStreamField;"), (0, .class_ 1104), (0, u "java/lang/String$CaseInsensitiveComparator"), (1, .class_ 1107), (0, u "java/io/Serializable"), (0, .class_ 1109), (0, u "java/lang/Comparable"), (0, .class_ 1111), (0, u "java/lang/constant/Constable"), (0, .class_ 1113), (0, u "java/lang/constant/ConstantDesc"), (2, u "serialVersionUID"), (0, u "J"), (3, u "REPL"), (0, u "C"), (2, u "LATIN1"), (1, u "UTF16")] 323

def k8m0 : Method := { name := "<init>", desc := "()V", sig := { parameters := [], returnType := none }, accessFlags := 1, code := none }
/-- java/lang/String -/
def k8 : Class := { plain "java/lang/String" (some 0) with
  accessFlags := 49
  interfaces := #[3, 4, 5, 6, 7]
  cf := some (fileOf pool8 10 #[.nestMembers #[1103]] #[{ accessFlags := 1, nameIndex := 5, descriptorIndex := 6, attributes := #[] }] 49 2 #[1106, 1108, 575, 1110, 1112] #[{ accessFlags := 18, nameIndex := 13, descriptorIndex := 14, attributes := #[] }, { accessFlags := 18, nameIndex := 17, descriptorIndex := 18, attributes := #[] }, { accessFlags := 2, nameIndex := 21, descriptorIndex := 22, attributes := #[] }, { accessFlags := 2, nameIndex := 25, descriptorIndex := 26, attributes := #[] }, { accessFlags := 26, nameIndex := 1116, descriptorIndex := 1117, attributes := #[] }, { accessFlags := 24, nameIndex := 40, descriptorIndex := 26, attributes := #[] }, { accessFlags := 26, nameIndex := 1101, descriptorIndex := 1102, attributes := #[] }, { accessFlags := 26, nameIndex := 1121, descriptorIndex := 1122, attributes := #[] }, { accessFlags := 25, nameIndex := 599, descriptorIndex := 600, attributes := #[] }, { accessFlags := 24, nameIndex := 1125, descriptorIndex := 18, attributes := #[] }, { accessFlags := 24, nameIndex := 1127, descriptorIndex := 18, attributes := #[] }])
  fields := #[{ name := "value", type := (.array .byte), accessFlags := 18, slot := 0, constantValue := 0 }, { name := "coder", type := .byte, accessFlags := 18, slot := 1, constantValue := 0 }, { name := "hash", type := .int, accessFlags := 2, slot := 2, constantValue := 0 }, { name := "hashIsZero", type := .boolean, accessFlags := 2, slot := 3, constantValue := 0 }, { name := "serialVersionUID", type := .long, accessFlags := 26, slot := 0, constantValue := 0 }, { name := "COMPACT_STRINGS", type := .boolean, accessFlags := 24, slot := 1, constantValue := 0 }, { name := "serialPersistentFields", type := (.array (.object "java/io/ObjectStreamField")), accessFlags := 26, slot := 2, constantValue := 0 }, { name := "REPL", type := .char, accessFlags := 26, slot := 3, constantValue := 0 }, { name := "CASE_INSENSITIVE_ORDER", type := (.object "java/util/Comparator"), accessFlags := 25, slot := 4, constantValue := 0 }, { name := "LATIN1", type := .byte, accessFlags := 24, slot := 5, constantValue := 0 }, { name := "UTF16", type := .byte, accessFlags := 24, slot := 6, constantValue := 0 }]
  methods := #[k8m0]
  instanceTypes := #[(.array .byte), .byte, .int, .boolean]
  staticTypes := #[.long, .boolean, (.array (.object "java/io/ObjectStreamField")), .char, (.object "java/util/Comparator"), .byte, .byte]
  resolved := Array.replicate 1451 none
  statics := none }

def pool9 : Array CpInfo := pool [(2, .class_ 4), (1, u "java/lang/Object"), (0, u "<init>"), (0, u "()V"), (4, u "(Ljava/lang/String;Ljava/lang/String;JJ)V"), (0, .class_ 13), (0, u "com/example/tallydb/tallydb/Bounds"), (2, u "requireAtLeast")] 3

def k9m0 : Method := { name := "<init>", desc := "()V", sig := { parameters := [], returnType := none }, accessFlags := 2, code := none }
def k9c1 : Code := { maxStack := 8, maxLocals := 6, code := prog_3_method_2_code, exceptionTable := #[], attributes := #[] }
def k9m1 : Method := { name := "requireAtLeast", desc := "(Ljava/lang/String;Ljava/lang/String;JJ)V", sig := { parameters := [(.object "java/lang/String"), (.object "java/lang/String"), .long, .long], returnType := none }, accessFlags := 8, code := some k9c1 }
/-- com/example/tallydb/tallydb/Bounds -/
def k9 : Class := { plain "com/example/tallydb/tallydb/Bounds" (some 0) with
  accessFlags := 48
  interfaces := #[]
  cf := some (fileOf pool9 12 #[] #[{ accessFlags := 2, nameIndex := 5, descriptorIndex := 6, attributes := #[] }, { accessFlags := 8, nameIndex := 16, descriptorIndex := 11, attributes := #[] }] 48 2 #[] #[])
  fields := #[]
  methods := #[k9m0, k9m1]
  instanceTypes := #[]
  staticTypes := #[]
  resolved := Array.replicate 20 none
  statics := none }

def pool10 : Array CpInfo := pool [(1, u "java/lang/Cloneable"), (0, .class_ 1), (0, u "java/lang/Object"), (0, .class_ 3)] 3

/-- java/lang/Cloneable -/
def k10 : Class := { plain "java/lang/Cloneable" (some 0) with
  accessFlags := 1537
  interfaces := #[]
  cf := some (fileOf pool10 2 #[] #[] 1537 4 #[] #[])
  fields := #[]
  methods := #[]
  instanceTypes := #[]
  staticTypes := #[]
  resolved := Array.replicate 8 none
  statics := none }

/-- the primitive byte -/
def k11 : Class := { plain "byte" none with kind := .primitive 'B', accessFlags := 0x411 }
/-- [B -/
def k12 : Class := { plain "[B" (some 0) with kind := .array 11 .byte, interfaces := #[10, 3], accessFlags := 1041 }

/-- the primitive int -/
def k13 : Class := { plain "int" none with kind := .primitive 'I', accessFlags := 0x411 }
/-- [I -/
def k14 : Class := { plain "[I" (some 0) with kind := .array 13 .int, interfaces := #[10, 3], accessFlags := 1041 }

def heap : Heap := #[{ cls := 2, slots := #[.ref 1, .ref 2], vm := .statics 2 },
  { cls := 2, slots := #[.long 0, .int 0], vm := .none },
  { cls := 2, slots := #[.long 0, .int 1], vm := .none }]
def classes : Array Class := #[k0, k1, k2, k3, k4, k5, k6, k7, k8, k9, k10, k11, k12, k13, k14]
def interned : List (Array UInt16 × Addr) := []
def slotsUsed : Nat := 6
def theMethod : MethodId := ⟨1, 1⟩
def args0 : Array Value := #[.long 5, .long 9, .int 0]
def aboutOver (below : List Frame) : State where
  vm := { classes := classes, interned := interned.toArray }
  heap := heap
  slotsUsed := slotsUsed
  threads := #[{ frames := .invoking theMethod args0 :: below }]
def below0 : List Frame := [.native { method := ⟨0, 0⟩, args := #[] }]
def about1 : State := aboutOver below0
def p0 : Program := .bare "" "" ""
def e0 : Env := launch0.env 0 0 0
theorem w_frames : about1.frames = Frame.invoking theMethod args0 :: below0 := rfl
set_option maxRecDepth 65536 in
theorem w_args : argsFit about1.vm theMethod args0 = true := by decide +kernel
set_option maxRecDepth 65536 in
theorem w_heap : heapFits about1 = true := by decide +kernel
set_option maxRecDepth 65536 in
theorem w_runnable : about1.curStatus? = some .runnable := by decide +kernel
set_option maxRecDepth 65536 in
theorem w_alone : about1.alone = true := by decide +kernel
set_option maxRecDepth 65536 in
theorem w_named : about1.methodNamed? x = some theMethod := by decide +kernel
set_option maxRecDepth 65536 in
theorem w_hears : about1.hears theMethod below0 = true := by decide +kernel
set_option maxRecDepth 65536 in
theorem w_ripe : about1.ripe theMethod args0 below0 = true := by decide +kernel
theorem w_running : about1.status = .running := rfl
set_option maxRecDepth 65536 in
theorem w_room : about1.hasRoom e0.platform room_1 = true :=
  launch0.hasRoom_least _ room_1 (by decide +kernel) (by decide +kernel) (by decide +kernel) (by decide +kernel) (by decide +kernel) (by decide +kernel)
theorem allAtoms_all (ts : List Jvm.Cond) (a : Array Jvm.Value) (st : Jvm.State) : (allAtoms ts).before a st = ts.all (fun c => c.before a st) := by
  induction ts with
  | nil => rfl
  | cons c t ih =>
    show (Jvm.Cond.and c (allAtoms t)).before a st = _
    rw [Jvm.Cond.before_and, ih, List.all_cons]
def words1 : List Jvm.Cond := Jvm.Cond.code x code maxLocals ret :: tables_1
/-- a 'code' word, met by the world's own term for the bytes: nothing is compared byte by byte -/
theorem code_word {y : MethodName} {bytes : ByteArray} {mx : Nat} {rt : Option FieldType} {a : Array Value} {s : State} {m : MethodId} {meth : Method} {c : Code} (h1 : s.methodNamed? y = some m) (h2 : s.vm.method? m = some meth) (h3 : meth.code = some c) (h4 : c.code = bytes)
    (h5 : (c.maxLocals == mx && c.exceptionTable.isEmpty && decide (c.maxStack ≤ mostOperands) && decide (meth.sig.returnType = rt) && !meth.locks && decide (parseMethodDescriptor y.desc = some meth.sig)) = true) : (Jvm.Cond.code y bytes mx rt).before a s = true := by
  simp only [Bool.and_eq_true, beq_iff_eq, Bool.not_eq_true', decide_eq_true_eq] at h5
  obtain ⟨⟨⟨⟨⟨g1, g2⟩, g3⟩, g4⟩, g5⟩, g6⟩ := h5
  simp [Cond.before, Cond.holds, Cond.value, h1, h2, h3, h4, g1, g2, g3, g4, g5, g6]
def isCode : Jvm.Cond → Bool
  | .code _ _ _ _ => true
  | _ => false
theorem all_split {L : List Jvm.Cond} {P : Jvm.Cond → Bool} (h1 : L.all (fun c => isCode c || P c) = true) (h2 : ∀ c ∈ L.filter isCode, P c = true) : L.all P = true := by
  refine List.all_eq_true.mpr fun c hc => ?_
  have h := List.all_eq_true.mp h1 c hc
  rcases Bool.eq_false_or_eq_true (isCode c) with hi | hi
  · exact h2 c (List.mem_filter.mpr ⟨hc, hi⟩)
  · simpa [hi] using h
set_option maxRecDepth 65536 in
theorem w_c0 : (Jvm.Cond.code x code maxLocals ret).before args0 about1 = true := code_word (m := ⟨1, 1⟩) (meth := k1m1) (c := k1c1) (by decide +kernel) rfl rfl rfl (by decide +kernel)
set_option maxRecDepth 65536 in
theorem w_c1 : (Jvm.Cond.code ({ cls := "com/example/tallydb/tallydb/SubscriptionStart", name := "after", desc := "(J)Lcom/example/tallydb/tallydb/SubscriptionStart;" } : Jvm.MethodName) prog_31_method_2_code (2 : Nat) (Option.some (Jvm.ClassFile.FieldType.object "com/example/tallydb/tallydb/SubscriptionStart"))).before args0 about1 = true := code_word (m := ⟨2, 1⟩) (meth := k2m1) (c := k2c1) (by decide +kernel) rfl rfl rfl (by decide +kernel)
set_option maxRecDepth 65536 in
theorem w_c2 : (Jvm.Cond.code ({ cls := "com/example/tallydb/tallydb/Bounds", name := "requireAtLeast", desc := "(Ljava/lang/String;Ljava/lang/String;JJ)V" } : Jvm.MethodName) prog_3_method_2_code (6 : Nat) (Option.none : Option Jvm.ClassFile.FieldType)).before args0 about1 = true := code_word (m := ⟨9, 1⟩) (meth := k9m1) (c := k9c1) (by decide +kernel) rfl rfl rfl (by decide +kernel)
set_option maxRecDepth 65536 in
theorem w_c3 : (Jvm.Cond.code ({ cls := "com/example/tallydb/tallydb/SubscriptionStart", name := "<init>", desc := "(JZ)V" } : Jvm.MethodName) prog_31_method_1_code (4 : Nat) (Option.none : Option Jvm.ClassFile.FieldType)).before args0 about1 = true := code_word (m := ⟨2, 0⟩) (meth := k2m0) (c := k2c0) (by decide +kernel) rfl rfl rfl (by decide +kernel)
set_option maxRecDepth 65536 in
theorem w_c4 : (Jvm.Cond.code ({ cls := "java/lang/Object", name := "<init>", desc := "()V" } : Jvm.MethodName) object_method_1_code (1 : Nat) (Option.none : Option Jvm.ClassFile.FieldType)).before args0 about1 = true := code_word (m := ⟨0, 0⟩) (meth := k0m0) (c := k0c0) (by decide +kernel) rfl rfl rfl (by decide +kernel)
set_option maxRecDepth 65536 in
theorem w_c5 : (Jvm.Cond.code ({ cls := "com/example/tallydb/tallydb/SubscriptionStart", name := "position", desc := "()J" } : Jvm.MethodName) prog_31_method_3_code (1 : Nat) (Option.some Jvm.ClassFile.FieldType.long)).before args0 about1 = true := code_word (m := ⟨2, 2⟩) (meth := k2m2) (c := k2c2) (by decide +kernel) rfl rfl rfl (by decide +kernel)
set_option maxRecDepth 65536 in
theorem w_c6 : (Jvm.Cond.code ({ cls := "com/example/tallydb/tallydb/SubscriptionStart", name := "isFromNow", desc := "()Z" } : Jvm.MethodName) prog_31_method_4_code (1 : Nat) (Option.some Jvm.ClassFile.FieldType.boolean)).before args0 about1 = true := code_word (m := ⟨2, 3⟩) (meth := k2m3) (c := k2c3) (by decide +kernel) rfl rfl rfl (by decide +kernel)
set_option maxRecDepth 65536 in
theorem w_c7 : (Jvm.Cond.code ({ cls := "com/example/tallydb/tallydb/SubscriptionStart", name := "equals", desc := "(Ljava/lang/Object;)Z" } : Jvm.MethodName) prog_31_method_6_code (3 : Nat) (Option.some Jvm.ClassFile.FieldType.boolean)).before args0 about1 = true := code_word (m := ⟨2, 4⟩) (meth := k2m4) (c := k2c4) (by decide +kernel) rfl rfl rfl (by decide +kernel)
def codes1 : List Jvm.Cond := [Jvm.Cond.code x code maxLocals ret, Jvm.Cond.code ({ cls := "com/example/tallydb/tallydb/SubscriptionStart", name := "after", desc := "(J)Lcom/example/tallydb/tallydb/SubscriptionStart;" } : Jvm.MethodName) prog_31_method_2_code (2 : Nat) (Option.some (Jvm.ClassFile.FieldType.object "com/example/tallydb/tallydb/SubscriptionStart")), Jvm.Cond.code ({ cls := "com/example/tallydb/tallydb/Bounds", name := "requireAtLeast", desc := "(Ljava/lang/String;Ljava/lang/String;JJ)V" } : Jvm.MethodName) prog_3_method_2_code (6 : Nat) (Option.none : Option Jvm.ClassFile.FieldType), Jvm.Cond.code ({ cls := "com/example/tallydb/tallydb/SubscriptionStart", name := "<init>", desc := "(JZ)V" } : Jvm.MethodName) prog_31_method_1_code (4 : Nat) (Option.none : Option Jvm.ClassFile.FieldType), Jvm.Cond.code ({ cls := "java/lang/Object", name := "<init>", desc := "()V" } : Jvm.MethodName) object_method_1_code (1 : Nat) (Option.none : Option Jvm.ClassFile.FieldType), Jvm.Cond.code ({ cls := "com/example/tallydb/tallydb/SubscriptionStart", name := "position", desc := "()J" } : Jvm.MethodName) prog_31_method_3_code (1 : Nat) (Option.some Jvm.ClassFile.FieldType.long), Jvm.Cond.code ({ cls := "com/example/tallydb/tallydb/SubscriptionStart", name := "isFromNow", desc := "()Z" } : Jvm.MethodName) prog_31_method_4_code (1 : Nat) (Option.some Jvm.ClassFile.FieldType.boolean), Jvm.Cond.code ({ cls := "com/example/tallydb/tallydb/SubscriptionStart", name := "equals", desc := "(Ljava/lang/Object;)Z" } : Jvm.MethodName) prog_31_method_6_code (3 : Nat) (Option.some Jvm.ClassFile.FieldType.boolean)]
set_option maxRecDepth 65536 in
theorem codes_eq : words1.filter isCode = codes1 := rfl
theorem w_codes : ∀ c ∈ words1.filter isCode, c.before args0 about1 = true := by
  rw [codes_eq]
  intro c hc
  simp only [codes1, List.mem_cons, List.not_mem_nil, or_false] at hc
  rcases hc with rfl | rfl | rfl | rfl | rfl | rfl | rfl | rfl
  · exact w_c0
  · exact w_c1
  · exact w_c2
  · exact w_c3
  · exact w_c4
  · exact w_c5
  · exact w_c6
  · exact w_c7
set_option maxRecDepth 65536 in
theorem w_t1 : (words1.take 24).all (fun c => isCode c || c.before args0 about1) = true := by decide +kernel
set_option maxRecDepth 65536 in
theorem w_t2 : ((words1.drop 24).take 24).all (fun c => isCode c || c.before args0 about1) = true := by decide +kernel
set_option maxRecDepth 65536 in
theorem w_t3 : ((words1.drop 24).drop 24).all (fun c => isCode c || c.before args0 about1) = true := by decide +kernel
theorem w_tables : (allAtoms (Jvm.Cond.code x code maxLocals ret :: tables_1)).before args0 about1 = true := by
  rw [allAtoms_all]
  show words1.all (fun c => c.before args0 about1) = true
  refine all_split ?_ w_codes
  rw [← List.take_append_drop 24 words1, List.all_append, w_t1, ← List.take_append_drop 24 (words1.drop 24), List.all_append, w_t2, w_t3]
  rfl
set_option maxRecDepth 65536 in
theorem w_case : (Jvm.Cond.and given_1 narrow_1).before args0 about1 = true := by decide +kernel
theorem w_applies : (headSpec (Jvm.Cond.code x code maxLocals ret :: tables_1) room_1).applies x e0.platform about1 = true :=
  (Spec.applies_iff w_frames).mpr ⟨w_running, w_runnable, w_alone, w_named, w_hears, w_ripe, w_room, w_tables⟩
theorem atStart : AtStart classFile x code maxLocals ret World_1 tables_1 room_1 Calls_1 rest_1 Pre_1 launch0 p0 e0 about1 theMethod args0 below0 :=
  ⟨lists_1, trivial, launch0.admits_env _ _ _, launch0.least_env, fairChoices_fair.cas, fairChoices_fair.clock, w_frames, w_args, w_heap, w_applies, trivial, trivial, w_case⟩
end start1
theorem witness_1 : WitnessClaimed_1 := ⟨start1.p0, start1.e0, start1.about1, start1.theMethod, start1.args0, start1.below0, start1.atStart⟩
end Jvm.Pilot.@@N@@
