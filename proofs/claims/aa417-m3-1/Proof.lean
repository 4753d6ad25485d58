import JvmDerived
import JvmDerived.Pilot.@@N@@Statement
import JvmDerived.Pilot.@@N@@Code
set_option linter.unusedVariables false
set_option linter.unusedSimpArgs false
namespace Jvm.Pilot.@@N@@
open Jvm Jvm.ClassFile Sem Op Lib Jvm.Free Jvm.Stand Jvm.LawKit Jvm.RoadKit Bundle Jvm.Pilot.@@N@@.Jvm.D
section OwnKit
variable {p : Program} {l : Launch} {e : Env} {R : Room} {s : State} {m : MethodId} {args : Array Value} {below : List Frame} {meth : Method} {c : Code} {T : State} {locs : List Loc} {cells slots : Nat} {Z : State} {a0 : Array Value} {h : Heap} {Φ : State → Prop}
/-- from here the run comes to an end of which Φ holds -/
def OGoes (tb : Tables) (e : Env) (below : List Frame) (Φ : State → Prop) (U : State) : Prop := ∃ t, Steps tb e below U t ∧ Φ t
theorem own_st {tb : Tables} {U V : State} (h : ∀ t, Steps tb e below V t → Steps tb e below U t) (k : OGoes tb e below Φ V) : OGoes tb e below Φ U := by
  obtain ⟨t, h1, h2⟩ := k
  exact ⟨t, h t h1, h2⟩
theorem own_tr {tb : Tables} {U V : State} (h : Steps tb e below U V) (k : OGoes tb e below Φ V) : OGoes tb e below Φ U := by
  obtain ⟨t, h1, h2⟩ := k
  exact ⟨t, h.trans h1, h2⟩
theorem own_cast {tb : Tables} {g g' : JFrame} (q : g = g') (k : OGoes tb e below Φ (T.setTop g')) : OGoes tb e below Φ (T.setTop g) := q ▸ k
def ODone (rm : Room) (s : State) (below : List Frame) (Q : Option Value → Heap → List Loc → Prop) (t : State) : Prop :=
  ∃ o, t.status = .running ∧ Ended t below o ∧ ∃ v L, o = .returned v ∧ Q v t.heap L ∧ FrameEnd s o t L rm.cells rm.slots
/-- a method's contract -/
def OMet (l : Launch) (Z : State) (y : MethodName) (bytes : ByteArray) (ml : Nat) (ret : Option FieldType) (rm : Room) (as : Array Value) (h0 : Heap) (Q : Option Value → Heap → List Loc → Prop) : Prop :=
  ∀ ws, MetFree l y (head1 (Jvm.Cond.code y bytes ml ret :: ws) rm) (fun a U => a = as ∧ Z.Warmed39 U.vm ∧ U.heap = h0) (fun _ _ _ _ _ => True)
    (fun _ U o U' => ∃ v L, o = .returned v ∧ Q v U'.heap L ∧ FrameEnd U o U' L rm.cells rm.slots)
/-- .. of one that writes and makes nothing -/
abbrev OPure (l : Launch) (Z : State) (y : MethodName) (bytes : ByteArray) (ml : Nat) (ret : Option FieldType) (fr lo : Nat) (as : Array Value) (h0 : Heap) (v : Option Value) : Prop :=
  OMet l Z y bytes ml ret ⟨fr, 0, 0, lo⟩ as h0 (fun v' h' L' => v' = v ∧ h' = h0 ∧ L' = [])
theorem own_body {y : MethodName} {bytes : ByteArray} {ml : Nat} {ret : Option FieldType} {rm : Room} {as : Array Value} {h0 : Heap} {Q : Option Value → Heap → List Loc → Prop} (hpn : plainName y.cls = true)
    (body : ∀ (p : Program) (e : Env) (s : State) (m : MethodId) (below : List Frame) (meth : Method) (c : Code) (T : State), Stand p l e rm s m as below meth c T [] 0 0 → p.tables.exec = Jvm.exec → c.code = bytes → c.maxLocals = ml → Z.Warmed39 s.vm → s.vm.findClass y.cls = some m.cls → meth.name = y.name → meth.sig.returnType = ret → meth.locks = false → T.heap = h0 →
      OGoes p.tables e below (ODone rm s below Q) (T.setTop (entryFrame m as ml))) : OMet l Z y bytes ml ret rm as h0 Q := by
  intro ws
  refine MetFree.of_bodySF (plainFor_of_name hpn) hisR ?_
  intro p e s m args below meth c s₁ Bd hml0 hP hK
  obtain ⟨rfl, hZ, hh⟩ := hP
  obtain ⟨t, h1, o, h2, h3, h4⟩ := body p e s m below meth c s₁ (Stand.of_body Bd) Bd.exec Bd.bytes hml0 hZ (findClass_of_methodNamed Bd.named) (name_of_methodNamed Bd.named Bd.method).1 Bd.returns Bd.notSynchronized (by rw [← hh, Bd.state]; rfl)
  exact ⟨t, o, h1, h2, h3, h4⟩
/-! the returns -/
theorem own_leave (X : Stand p l e R s m args below meth c T locs cells slots) (hlk : meth.locks = false) {v : Option Value} (hv : meth.sig.returnType = none → v = none) {rm : Room} {Q : Option Value → Heap → List Loc → Prop} (hc : cells ≤ rm.cells) (hs : slots ≤ rm.slots) (hQ : Q v T.heap locs) {U : State}
    (hstep : ∀ fs, (∀ (f : JFrame) (acts : List Action), f.method = m → f.locked = none → f.entered = [] → (doReturn e (T.setTop f) acts v).1 = T.setFrames fs) → Steps p.tables e below U (T.setFrames fs)) : OGoes p.tables e below (ODone rm s below Q) U := by
  obtain ⟨fs, hr, hrun, hended, hW, hsame⟩ := X.leave (v := v) hv hlk
  exact ⟨_, hstep fs hr, _, hrun, hended, v, locs, rfl, hQ, ⟨_, rfl⟩, hW, hsame.mono hc hs⟩
theorem own_retI (X : Stand p l e R s m args below meth c T locs cells slots) (hx : p.tables.exec = Jvm.exec) (hlk : meth.locks = false) (hret : meth.sig.returnType = some .int) {pc : Nat} {Ls : Array Slot} {z : Int32} {rest : List Value} (hd : decode c.code pc = .ok (.ireturn, 1))
    {rm : Room} {Q : Option Value → Heap → List Loc → Prop} (hc : cells ≤ rm.cells) (hs : slots ≤ rm.slots) (hQ : Q (some (.int z)) T.heap locs) : OGoes p.tables e below (ODone rm s below Q) (T.setTop (mkF m pc Ls (.int z :: rest))) :=
  own_leave X hlk (fun h => by rw [hret] at h; cases h) hc hs hQ fun fs hr => retOut X hx hret rfl (Or.inl ⟨rfl, Or.inl rfl, z, rfl⟩) hd hr
theorem own_retN (X : Stand p l e R s m args below meth c T locs cells slots) (hx : p.tables.exec = Jvm.exec) (hlk : meth.locks = false) {t : FieldType} (ht : t = .boolean ∨ t = .byte ∨ t = .char ∨ t = .short) (hret : meth.sig.returnType = some t) {pc : Nat} {Ls : Array Slot} {z : Int32} {rest : List Value} (hd : decode c.code pc = .ok (.ireturn, 1))
    {rm : Room} {Q : Option Value → Heap → List Loc → Prop} (hc : cells ≤ rm.cells) (hs : slots ≤ rm.slots) (hQ : Q (some (.int (nar t z))) T.heap locs) : OGoes p.tables e below (ODone rm s below Q) (T.setTop (mkF m pc Ls (.int z :: rest))) :=
  own_leave X hlk (fun h => by rw [hret] at h; cases h) hc hs hQ fun fs hr => retN X hx hret ht hd hr
theorem own_retJ (X : Stand p l e R s m args below meth c T locs cells slots) (hx : p.tables.exec = Jvm.exec) (hlk : meth.locks = false) (hret : meth.sig.returnType = some .long) {pc : Nat} {Ls : Array Slot} {z : Int64} {rest : List Value} (hd : decode c.code pc = .ok (.lreturn, 1))
    {rm : Room} {Q : Option Value → Heap → List Loc → Prop} (hc : cells ≤ rm.cells) (hs : slots ≤ rm.slots) (hQ : Q (some (.long z)) T.heap locs) : OGoes p.tables e below (ODone rm s below Q) (T.setTop (mkF m pc Ls (.long z :: rest))) :=
  own_leave X hlk (fun h => by rw [hret] at h; cases h) hc hs hQ fun fs hr => retOut X hx hret rfl (Or.inr (Or.inl ⟨rfl, rfl, z, rfl⟩)) hd hr
theorem own_retA (X : Stand p l e R s m args below meth c T locs cells slots) (hx : p.tables.exec = Jvm.exec) (hlk : meth.locks = false) {t : FieldType} (ht : t.isReference = true) (hret : meth.sig.returnType = some t) {pc : Nat} {Ls : Array Slot} {w : Value} {rest : List Value} (hw : w.isRef = true) (hd : decode c.code pc = .ok (.areturn, 1))
    {rm : Room} {Q : Option Value → Heap → List Loc → Prop} (hc : cells ≤ rm.cells) (hs : slots ≤ rm.slots) (hQ : Q (some w) T.heap locs) : OGoes p.tables e below (ODone rm s below Q) (T.setTop (mkF m pc Ls (w :: rest))) :=
  own_leave X hlk (fun h => by rw [hret] at h; cases h) hc hs hQ fun fs hr => retOut X hx hret (by cases t <;> first | (cases ht; done) | (cases w <;> first | rfl | (cases hw; done))) (Or.inr (Or.inr (Or.inr (Or.inr ⟨rfl, ht, hw⟩)))) hd hr
theorem own_retV (X : Stand p l e R s m args below meth c T locs cells slots) (hx : p.tables.exec = Jvm.exec) (hlk : meth.locks = false) (hret : meth.sig.returnType = none) {pc : Nat} {Ls : Array Slot} (hd : decode c.code pc = .ok (.return_, 1))
    {rm : Room} {Q : Option Value → Heap → List Loc → Prop} (hc : cells ≤ rm.cells) (hs : slots ≤ rm.slots) (hQ : Q none T.heap locs) : OGoes p.tables e below (ODone rm s below Q) (T.setTop (mkF m pc Ls [])) :=
  own_leave X hlk (fun _ => rfl) hc hs hQ fun fs hr => X.returnOut hx hret hd hr
/-! the calls -/
theorem own_callS (X : Stand p l e R s m args below meth c T locs cells slots) (hx : p.tables.exec = Jvm.exec) (hZ : Z.Warmed39 s.vm) {own : String} {index : Nat} {y : MethodName} {bytes : ByteArray} {ml : Nat} {ret : Option FieldType} {rm : Room} {as : Array Value} {Q : Option Value → Heap → List Loc → Prop}
    (hown : s.vm.findClass own = some m.cls) (w1 : (Jvm.Cond.methodLink own index y).before a0 Z = true) (w2 : (Jvm.Cond.static y).before a0 Z = true) (w3 : (Jvm.Cond.initialized y.cls).before a0 Z = true) (w4 : (Jvm.Cond.code y bytes ml ret).before a0 Z = true) (hy : y.cls ≠ "java/lang/invoke/MethodHandle" ∧ y.cls ≠ "java/lang/invoke/VarHandle")
    (hM : OMet l Z y bytes ml ret rm as h Q) (eT : T.heap = h) {pc : Nat} {Ls : Array Slot} {st : List Value} (hsz : Ls.size = c.maxLocals) {argsL rest : List Value} {sig : MethodDescriptor} (hp : parseMethodDescriptor y.desc = some sig) (hn : argsL.length = sig.parameters.length) (has : argsL.toArray = as) (hst : st = argsL.reverse ++ rest)
    {W : Nat} (hW : (rest.map fun v => v.category).sum ≤ W) (hd : decode c.code pc = .ok (.invokestatic index, 3)) (hf : rm.frames + 1 ≤ R.frames) (hl : W + (ml + 11) + rm.locals ≤ R.locals) (hc : cells + rm.cells ≤ R.cells) (hs : slots + rm.slots ≤ R.slots)
    (k : ∀ (v : Option Value) (T' : State) (L' : List Loc), Stand p l e R s m args below meth c T' (locs ++ L') (cells + rm.cells) (slots + rm.slots) → Q v T'.heap L' → OGoes p.tables e below Φ (T'.setTop (mkF m (pc + 3) Ls (v.toList ++ rest)))) : OGoes p.tables e below Φ (T.setTop (mkF m pc Ls st)) := by
  obtain ⟨v, vm1, ⟨T', L, kk, nn⟩, -, X', ⟨Lc, hQ, l1, l2, l3⟩, st'⟩ := Jvm.LawKit.callS X hx (y := y) hown (mvT hZ w1) (mvT hZ w2) (mvT hZ w3) (mvT hZ w4) hy (backOf (W := W) (hM []) hZ w4 w3 hf hl) (g := mkF m pc Ls st) rfl hsz (argsL := argsL) (rest := rest) (fun sg h => by cases hp.symm.trans h; exact hn) hst (by show 2 * 0 + _ ≤ _; omega) hd (fun _ _ => ⟨has, eT, hc, hs⟩)
  dsimp only [Pt.U, Pt.locs, Pt.cells, Pt.slots] at X' l1 l2 l3 st' hQ
  subst l1 l2 l3
  exact own_st st' (k v T' Lc X' hQ)
theorem own_callV (X : Stand p l e R s m args below meth c T locs cells slots) (hx : p.tables.exec = Jvm.exec) (hZ : Z.Warmed39 s.vm) {own C : String} {index : Nat} {y : MethodName} {bytes : ByteArray} {ml : Nat} {ret : Option FieldType} {rm : Room} {as : Array Value} {Q : Option Value → Heap → List Loc → Prop}
    (hown : s.vm.findClass own = some m.cls) (w1 : (Jvm.Cond.methodLink own index y).before a0 Z = true) (w2 : (Jvm.Cond.declares y).before a0 Z = true) (w3 : (Jvm.Cond.selects C y y).before a0 Z = true) (w4 : (Jvm.Cond.instanceMethod y).before a0 Z = true) (w5 : (Jvm.Cond.initialized y.cls).before a0 Z = true) (w6 : (Jvm.Cond.code y bytes ml ret).before a0 Z = true) (hy : y.cls ≠ "java/lang/invoke/MethodHandle" ∧ y.cls ≠ "java/lang/invoke/VarHandle")
    (hM : OMet l Z y bytes ml ret rm as h Q) (eT : T.heap = h) {b : Addr} (E : Exa Z h b C) {pc : Nat} {Ls : Array Slot} {st : List Value} (hsz : Ls.size = c.maxLocals) {argsL rest : List Value} {sig : MethodDescriptor} (hp : parseMethodDescriptor y.desc = some sig) (hn : argsL.length = sig.parameters.length) (has : (.ref b :: argsL).toArray = as) (hst : st = argsL.reverse ++ .ref b :: rest)
    {W : Nat} (hW : (rest.map fun v => v.category).sum ≤ W) (hd : decode c.code pc = .ok (.invokevirtual index, 3)) (hf : rm.frames + 1 ≤ R.frames) (hl : W + (ml + 11) + rm.locals ≤ R.locals) (hc : cells + rm.cells ≤ R.cells) (hs : slots + rm.slots ≤ R.slots)
    (k : ∀ (v : Option Value) (T' : State) (L' : List Loc), Stand p l e R s m args below meth c T' (locs ++ L') (cells + rm.cells) (slots + rm.slots) → Q v T'.heap L' → OGoes p.tables e below Φ (T'.setTop (mkF m (pc + 3) Ls (v.toList ++ rest)))) : OGoes p.tables e below Φ (T.setTop (mkF m pc Ls st)) := by
  obtain ⟨cq, kq, qa, qb, qc⟩ := isOf hZ eT E
  obtain ⟨v, vm1, ⟨T', L, kk, nn⟩, -, X', ⟨Lc, hQ, l1, l2, l3⟩, st'⟩ := X.virtualBack hx (y := y) (z := y) hown (mvT hZ w1) (mvT hZ w2) (notFace_of_selects (args := #[]) (mvT hZ w3)) (mvT hZ w3) (mvT hZ w4) hy (backOf (W := W) (hM []) hZ w6 w5 hf hl) qa qc (g := mkF m pc Ls st) rfl hsz (Steps.refl _) (argsL := argsL) (rest := rest) (fun sg h => by cases hp.symm.trans h; exact hn) hst (by show 2 * 0 + _ ≤ _; omega) hd (fun _ _ => ⟨has, eT, hc, hs⟩)
  dsimp only [Pt.U, Pt.locs, Pt.cells, Pt.slots] at X' l1 l2 l3 st' hQ
  subst l1 l2 l3
  exact own_tr st' (k v T' Lc X' hQ)
theorem own_callN (X : Stand p l e R s m args below meth c T locs cells slots) (hx : p.tables.exec = Jvm.exec) (hZ : Z.Warmed39 s.vm) {own : String} {index : Nat} {y : MethodName} {bytes : ByteArray} {ml : Nat} {rm : Room} {as : Array Value} {Q : Option Value → Heap → List Loc → Prop} (hy1 : y.name = "<init>")
    (hown : s.vm.findClass own = some m.cls) (w1 : (Jvm.Cond.methodLink own index y).before a0 Z = true) (w4 : (Jvm.Cond.instanceMethod y).before a0 Z = true) (w5 : (Jvm.Cond.initialized y.cls).before a0 Z = true) (w6 : (Jvm.Cond.code y bytes ml none).before a0 Z = true) (hy : y.cls ≠ "java/lang/invoke/MethodHandle" ∧ y.cls ≠ "java/lang/invoke/VarHandle")
    (hM : OMet l Z y bytes ml none rm as h Q) (eT : T.heap = h) {b : Addr} {pc : Nat} {Ls : Array Slot} {st : List Value} (hsz : Ls.size = c.maxLocals) {argsL rest : List Value} {sig : MethodDescriptor} (hp : parseMethodDescriptor y.desc = some sig) (hn : argsL.length = sig.parameters.length) (has : (.ref b :: argsL).toArray = as) (hst : st = argsL.reverse ++ .ref b :: rest)
    {W : Nat} (hW : (rest.map fun v => v.category).sum ≤ W) (hd : decode c.code pc = .ok (.invokespecial index, 3)) (hf : rm.frames + 1 ≤ R.frames) (hl : W + (ml + 11) + rm.locals ≤ R.locals) (hc : cells + rm.cells ≤ R.cells) (hs : slots + rm.slots ≤ R.slots)
    (k : ∀ (v : Option Value) (T' : State) (L' : List Loc), Stand p l e R s m args below meth c T' (locs ++ L') (cells + rm.cells) (slots + rm.slots) → Q v T'.heap L' → OGoes p.tables e below Φ (T'.setTop (mkF m (pc + 3) Ls (v.toList ++ rest)))) : OGoes p.tables e below Φ (T.setTop (mkF m pc Ls st)) := by
  obtain ⟨v, vm1, ⟨T', L, kk, nn⟩, -, X', ⟨Lc, hQ, l1, l2, l3⟩, st'⟩ := X.specialBack hx (y := y) hy1 hown (mvT hZ w1) (mvT hZ w4) (mvT hZ w6) hy (backOf (W := W) (hM []) hZ w6 w5 hf hl) (g := mkF m pc Ls st) rfl hsz (Steps.refl _) (a := b) (argsL := argsL) (rest := rest) (fun sg h => by cases hp.symm.trans h; exact hn) hst (by show 2 * 0 + _ ≤ _; omega) hd (fun _ _ => ⟨has, eT, hc, hs⟩)
  dsimp only [Pt.U, Pt.locs, Pt.cells, Pt.slots] at X' l1 l2 l3 st' hQ
  subst l1 l2 l3
  exact own_tr st' (k v T' Lc X' hQ)
theorem own_callS0 (X : Stand p l e R s m args below meth c T locs cells slots) (hx : p.tables.exec = Jvm.exec) (hZ : Z.Warmed39 s.vm) {own : String} {index : Nat} {y : MethodName} {bytes : ByteArray} {ml : Nat} {ret : Option FieldType} {fr lo : Nat} {as : Array Value} {v : Option Value}
    (hown : s.vm.findClass own = some m.cls) (w1 : (Jvm.Cond.methodLink own index y).before a0 Z = true) (w2 : (Jvm.Cond.static y).before a0 Z = true) (w3 : (Jvm.Cond.initialized y.cls).before a0 Z = true) (w4 : (Jvm.Cond.code y bytes ml ret).before a0 Z = true) (hy : y.cls ≠ "java/lang/invoke/MethodHandle" ∧ y.cls ≠ "java/lang/invoke/VarHandle")
    (hM : OPure l Z y bytes ml ret fr lo as h v) (eT : T.heap = h) {pc : Nat} {Ls : Array Slot} {st : List Value} (hsz : Ls.size = c.maxLocals) {argsL rest : List Value} {sig : MethodDescriptor} (hp : parseMethodDescriptor y.desc = some sig) (hn : argsL.length = sig.parameters.length) (has : argsL.toArray = as) (hst : st = argsL.reverse ++ rest)
    {W : Nat} (hW : (rest.map fun v => v.category).sum ≤ W) (hd : decode c.code pc = .ok (.invokestatic index, 3)) (hf : fr + 1 ≤ R.frames) (hl : W + (ml + 11) + lo ≤ R.locals) (hc : cells ≤ R.cells) (hs : slots ≤ R.slots)
    (k : ∀ (T' : State), Stand p l e R s m args below meth c T' locs cells slots → T'.heap = h → OGoes p.tables e below Φ (T'.setTop (mkF m (pc + 3) Ls (v.toList ++ rest)))) : OGoes p.tables e below Φ (T.setTop (mkF m pc Ls st)) := by
  refine own_callS X hx hZ hown w1 w2 w3 w4 hy hM eT hsz hp hn has hst hW hd hf hl hc hs ?_
  rintro v' T' L' X' ⟨rfl, e', rfl⟩
  rw [List.append_nil] at X'
  exact k T' X' e'
theorem own_callV0 (X : Stand p l e R s m args below meth c T locs cells slots) (hx : p.tables.exec = Jvm.exec) (hZ : Z.Warmed39 s.vm) {own C : String} {index : Nat} {y : MethodName} {bytes : ByteArray} {ml : Nat} {ret : Option FieldType} {fr lo : Nat} {as : Array Value} {v : Option Value}
    (hown : s.vm.findClass own = some m.cls) (w1 : (Jvm.Cond.methodLink own index y).before a0 Z = true) (w2 : (Jvm.Cond.declares y).before a0 Z = true) (w3 : (Jvm.Cond.selects C y y).before a0 Z = true) (w4 : (Jvm.Cond.instanceMethod y).before a0 Z = true) (w5 : (Jvm.Cond.initialized y.cls).before a0 Z = true) (w6 : (Jvm.Cond.code y bytes ml ret).before a0 Z = true) (hy : y.cls ≠ "java/lang/invoke/MethodHandle" ∧ y.cls ≠ "java/lang/invoke/VarHandle")
    (hM : OPure l Z y bytes ml ret fr lo as h v) (eT : T.heap = h) {b : Addr} (E : Exa Z h b C) {pc : Nat} {Ls : Array Slot} {st : List Value} (hsz : Ls.size = c.maxLocals) {argsL rest : List Value} {sig : MethodDescriptor} (hp : parseMethodDescriptor y.desc = some sig) (hn : argsL.length = sig.parameters.length) (has : (.ref b :: argsL).toArray = as) (hst : st = argsL.reverse ++ .ref b :: rest)
    {W : Nat} (hW : (rest.map fun v => v.category).sum ≤ W) (hd : decode c.code pc = .ok (.invokevirtual index, 3)) (hf : fr + 1 ≤ R.frames) (hl : W + (ml + 11) + lo ≤ R.locals) (hc : cells ≤ R.cells) (hs : slots ≤ R.slots)
    (k : ∀ (T' : State), Stand p l e R s m args below meth c T' locs cells slots → T'.heap = h → OGoes p.tables e below Φ (T'.setTop (mkF m (pc + 3) Ls (v.toList ++ rest)))) : OGoes p.tables e below Φ (T.setTop (mkF m pc Ls st)) := by
  refine own_callV X hx hZ hown w1 w2 w3 w4 w5 w6 hy hM eT E hsz hp hn has hst hW hd hf hl hc hs ?_
  rintro v' T' L' X' ⟨rfl, e', rfl⟩
  rw [List.append_nil] at X'
  exact k T' X' e'
theorem own_aa_eq_t {a b : Addr} (h : a = b) : XT.acmp .eq (.ref a) (.ref b) = true := XT.aa_eq_t (congrArg Value.ref h)
theorem own_aa_eq_f {a b : Addr} (h : ¬ a = b) : XT.acmp .eq (.ref a) (.ref b) = false := XT.aa_eq_f fun q => h (Value.ref.inj q)
theorem own_aa_ne_t {a b : Addr} (h : ¬ a = b) : XT.acmp .ne (.ref a) (.ref b) = true := XT.aa_ne_t fun q => h (Value.ref.inj q)
theorem own_aa_ne_f {a b : Addr} (h : a = b) : XT.acmp .ne (.ref a) (.ref b) = false := XT.aa_ne_f (congrArg Value.ref h)
/-! the case's words -/
theorem own_fld_int {t : Term} {C n d : String} {a : Addr} {k : Int32} (ht : t.eval args s none [] s = some (.ref a)) (h : (Jvm.Cond.eq (.field t C n d) (.int k)).value args s none s [] = some true) : Fld s s.heap a C n d (.int k) := by
  have e : (Term.field t C n d).eval args s none [] s = s.fieldOf? a C n d := fld_at ht
  cases hx : s.fieldOf? a C n d with
  | none => simp [Cond.value, e, hx] at h
  | some v =>
    have e2 : (Term.int k).eval args s none [] s = some (.int k) := rfl
    cases v <;> simp [Cond.value, e, hx, e2] at h
    subst h
    exact Fld.start hx
theorem own_static {C n d K : String} (h : (Jvm.Cond.exactly (.static C n d) K).value args s none s [] = some true) (w1 : (Jvm.Cond.initialized C).before args s = true) (w2 : (Jvm.Cond.laysStatic C n d).before args s = true) :
    ∃ a, (Term.static C n d).eval args s none [] s = some (.ref a) ∧ Sta s s.heap C n d (.ref a) ∧ Exa s s.heap a K := by
  obtain ⟨a, ha⟩ := exa_v h
  exact ⟨a, ha, Sta.start ha (Or.inr ⟨w1, w2⟩), Exa.start ha h⟩
/-! arrays of ints of some kind at the start: Tab; what the case says of their places -/
theorem own_toI {j : Int32} (h : ¬ j < 0) : j.toNatClampNeg.toInt32 = j := (back32 h).1
theorem own_elem {t i : Term} {idx : List Nat} {a : Addr} {cl : Cell} {j v : Int32} (ht : t.eval args s none idx s = some (.ref a)) (hi : i.eval args s none idx s = some (.int j)) (ha : s.arrayAt? a = some cl) (hj : ¬ j < 0) (hv : cl.slots[j.toNatClampNeg]? = some (.int (atv cl j))) :
    (Jvm.Cond.eq (.elem t i) (.int v)).value args s none s idx = some (decide (atv cl j = v)) := by
  have e1 : (Term.elem t i).eval args s none idx s = some (.int (atv cl j)) := (elem_f ht hi ha hj).trans hv
  have e2 : (Term.int v).eval args s none idx s = some (.int v) := rfl
  simp [Cond.value, e1, e2]
theorem own_one {t : Term} {a : Addr} {cl : Cell} {ty : FieldType} {n k v : Int32} (hT : Tab s s.heap a cl ty n) (ht : t.eval args s none [] s = some (.ref a)) (hk : ¬ k < 0) (hkn : k < n) (h : (Jvm.Cond.eq (.elem t (.int k)) (.int v)).value args s none s [] = some true) : atv cl k = v :=
  gotT (own_elem ht rfl (Arr.fin (Vm.Alike.refl _) hT.1) hk (hT.2.2.2 k (inb_of hT.2.1 ⟨hk, hkn⟩))) h
theorem own_idx {i : Nat} {idx : List Nat} : (Term.index 0).eval args s none (i :: idx) s = some (.int i.toInt32) := rfl
theorem own_ltI {a b : Term} {idx : List Nat} {x y : Int32} (ha : a.eval args s none idx s = some (.int x)) (hb : b.eval args s none idx s = some (.int y)) : (Jvm.Cond.lt a b).value args s none s idx = some (decide (x < y)) := by simp [Cond.value, ha, hb]
theorem own_leI {a b : Term} {idx : List Nat} {x y : Int32} (ha : a.eval args s none idx s = some (.int x)) (hb : b.eval args s none idx s = some (.int y)) : (Jvm.Cond.le a b).value args s none s idx = some (decide (x ≤ y)) := by simp [Cond.value, ha, hb]
theorem own_all {t : Term} {a : Addr} {cl : Cell} {ty : FieldType} {n : Int32} {c : Jvm.Cond} (hT : Tab s s.heap a cl ty n) (ht : t.eval args s none [] s = some (.ref a)) (h : (Jvm.Cond.all t c).value args s none s [] = some true) (j : Int32) (hj : ¬ j < 0) (hjn : j < n) :
    c.value args s none s [j.toNatClampNeg] = some true ∧ (Term.index 0).eval args s none [j.toNatClampNeg] s = some (.int j) ∧ cl.slots[j.toNatClampNeg]? = some (.int (atv cl j)) := by
  have hin := inb_of hT.2.1 ⟨hj, hjn⟩
  refine ⟨Cond.all_elim ht (Arr.fin (Vm.Alike.refl _) hT.1) h _ (by omega), ?_, hT.2.2.2 j hin⟩
  rw [own_idx, own_toI hj]
theorem own_all_lo {t : Term} {a : Addr} {cl : Cell} {ty : FieldType} {n k v : Int32} (hT : Tab s s.heap a cl ty n) (ht : ∀ idx, t.eval args s none idx s = some (.ref a)) (h : (Jvm.Cond.all t (.or (.le (.int k) (.index 0)) (.eq (.elem t (.index 0)) (.int v)))).value args s none s [] = some true) (j : Int32) (hj : ¬ j < 0) (hjn : j < n) : k ≤ j ∨ atv cl j = v := by
  obtain ⟨h1, h2, h3⟩ := own_all hT (ht []) h j hj hjn
  exact or_e2 (own_leI rfl h2) (own_elem (ht _) h2 (Arr.fin (Vm.Alike.refl _) hT.1) hj h3) h1
theorem own_all_hi {t : Term} {a : Addr} {cl : Cell} {ty : FieldType} {n k v : Int32} (hT : Tab s s.heap a cl ty n) (ht : ∀ idx, t.eval args s none idx s = some (.ref a)) (h : (Jvm.Cond.all t (.or (.lt (.index 0) (.int k)) (.eq (.elem t (.index 0)) (.int v)))).value args s none s [] = some true) (j : Int32) (hj : ¬ j < 0) (hjn : j < n) : j < k ∨ atv cl j = v := by
  obtain ⟨h1, h2, h3⟩ := own_all hT (ht []) h j hj hjn
  exact or_e2 (own_ltI h2 rfl) (own_elem (ht _) h2 (Arr.fin (Vm.Alike.refl _) hT.1) hj h3) h1
theorem own_all_mid {t : Term} {a : Addr} {cl : Cell} {ty : FieldType} {n k q v : Int32} (hT : Tab s s.heap a cl ty n) (ht : ∀ idx, t.eval args s none idx s = some (.ref a)) (h : (Jvm.Cond.all t (.or (.lt (.index 0) (.int k)) (.or (.le (.int q) (.index 0)) (.eq (.elem t (.index 0)) (.int v))))).value args s none s [] = some true) (j : Int32) (hj : ¬ j < 0) (hjn : j < n) : j < k ∨ ¬ j < q ∨ atv cl j = v := by
  obtain ⟨h1, h2, h3⟩ := own_all hT (ht []) h j hj hjn
  exact or3 h1 (own_ltI h2 rfl) (own_leI rfl h2) (own_elem (ht _) h2 (Arr.fin (Vm.Alike.refl _) hT.1) hj h3)
theorem own_arr {t : Term} {a : Addr} {ty : FieldType} {n : Int32} (hf : Fit s) (ht : t.eval args s none [] s = some (.ref a)) (h1 : (Jvm.Cond.arrayOf t ty).value args s none s [] = some true) (h2 : (Jvm.Cond.eq (.length t) (.int n)).value args s none s [] = some true) (hty : ty = .int ∨ ty = .boolean ∨ ty = .byte ∨ ty = .char ∨ ty = .short) (hn : ¬ n < 0) : ∃ cl, Tab s s.heap a cl ty n := by
  obtain ⟨cl, A⟩ := Arr.start ht h1
  have ha := Arr.fin (Vm.Alike.refl _) A
  have hl : cl.slots.size < 2 ^ 31 := by
    refine Nat.lt_of_not_le fun q => ?_
    have e : (Term.length t).eval args s none [] s = none := by simp [Term.eval, ht, ha, q]
    simp [Cond.value, e] at h2
  have e1 : (Term.length t).eval args s none [] s = some (.int cl.slots.size.toInt32) := len_f ht ha hl
  have e2 : (Term.int n).eval args s none [] s = some (.int n) := rfl
  have e3 : cl.slots.size.toInt32 = n := by simpa [Cond.value, e1, e2] using h2
  exact ⟨cl, Tab.start hf A hty hl e3 hn⟩
theorem own_aastore (X : Stand p l e R s m args below meth c T locs cells slots) (hx : p.tables.exec = Jvm.exec) (hZ : Z.Warmed39 s.vm) (eT : T.heap = h) {a : Addr} {kc : ClassId} {ty : FieldType} {n : Int32} {vs : List Value} {d : Value} (A : Arv Z h a kc ty n vs d) {j : Int32} {v : Value} {i n0 : Nat} (hj : ¬ j < 0) (hjn : j < n) (hji : j.toNatClampNeg = i) (hi : i < vs.length) (hty : ty.isReference = true) (hv : fits ty v = true) (S : Sto Z h a v) (N : Fr n0 locs) (ge : n0 ≤ a) {pc : Nat} {Ls : Array Slot} {rest : List Value} (hd : decode c.code pc = .ok (.aastore, 1))
    (kk : ∀ (T' : State) (h' : Heap) (L' : List Loc), Stand p l e R s m args below meth c T' L' cells slots → T'.heap = h' → Fr n0 L' → Wr h h' a i v → Arv Z h' a kc ty n (vs.set i v) d → OGoes p.tables e below Φ (T'.setTop (mkF m (pc + 1) Ls rest))) : OGoes p.tables e below Φ (T.setTop (mkF m pc Ls (v :: .int j :: .ref a :: rest))) := by
  subst hji
  obtain ⟨cl, Ar, q1, S1, N1, H1, G1⟩ := A
  have hin := inb_of S1 ⟨hj, hjn⟩
  obtain ⟨T', h', X', e', W', st⟩ := stR X hx hZ eT Ar (j := j) hin hty S (g := mkF m pc Ls (v :: .int j :: .ref a :: rest)) rfl rfl hd
  exact own_st st (kk T' h' _ X' e' (Fr.snoc X' N ge) W' (Arv.set Ar q1 S1 N1 H1 G1 hv W' _ rfl hi))
theorem own_lastore (X : Stand p l e R s m args below meth c T locs cells slots) (hx : p.tables.exec = Jvm.exec) (hZ : Z.Warmed39 s.vm) (eT : T.heap = h) {a : Addr} {kc : ClassId} {n : Int32} {vs : List Value} {d : Value} (A : Arv Z h a kc .long n vs d) {j : Int32} {v : Int64} {i n0 : Nat} (hj : ¬ j < 0) (hjn : j < n) (hji : j.toNatClampNeg = i) (hi : i < vs.length)  (N : Fr n0 locs) (ge : n0 ≤ a) {pc : Nat} {Ls : Array Slot} {rest : List Value} (hd : decode c.code pc = .ok (.lastore, 1))
    (kk : ∀ (T' : State) (h' : Heap) (L' : List Loc), Stand p l e R s m args below meth c T' L' cells slots → T'.heap = h' → Fr n0 L' → Wr h h' a i (.long v) → Arv Z h' a kc .long n (vs.set i (.long v)) d → OGoes p.tables e below Φ (T'.setTop (mkF m (pc + 1) Ls rest))) : OGoes p.tables e below Φ (T.setTop (mkF m pc Ls ((.long v) :: .int j :: .ref a :: rest))) := by
  subst hji
  obtain ⟨cl, Ar, q1, S1, N1, H1, G1⟩ := A
  have hin := inb_of S1 ⟨hj, hjn⟩
  obtain ⟨T', h', X', e', W', st⟩ := stJ X hx hZ eT Ar (j := j) hin  (g := mkF m pc Ls ((.long v) :: .int j :: .ref a :: rest)) rfl rfl hd
  exact own_st st (kk T' h' _ X' e' (Fr.snoc X' N ge) W' (Arv.set Ar q1 S1 N1 H1 G1 rfl W' _ rfl hi))
theorem own_iastore (X : Stand p l e R s m args below meth c T locs cells slots) (hx : p.tables.exec = Jvm.exec) (hZ : Z.Warmed39 s.vm) (eT : T.heap = h) {a : Addr} {kc : ClassId} {n : Int32} {vs : List Value} {d : Value} (A : Arv Z h a kc .int n vs d) {j : Int32} {v : Int32} {i n0 : Nat} (hj : ¬ j < 0) (hjn : j < n) (hji : j.toNatClampNeg = i) (hi : i < vs.length)  (N : Fr n0 locs) (ge : n0 ≤ a) {pc : Nat} {Ls : Array Slot} {rest : List Value} (hd : decode c.code pc = .ok (.iastore, 1))
    (kk : ∀ (T' : State) (h' : Heap) (L' : List Loc), Stand p l e R s m args below meth c T' L' cells slots → T'.heap = h' → Fr n0 L' → Wr h h' a i (.int v) → Arv Z h' a kc .int n (vs.set i (.int v)) d → OGoes p.tables e below Φ (T'.setTop (mkF m (pc + 1) Ls rest))) : OGoes p.tables e below Φ (T.setTop (mkF m pc Ls ((.int v) :: .int j :: .ref a :: rest))) := by
  subst hji
  obtain ⟨cl, Ar, q1, S1, N1, H1, G1⟩ := A
  have hin := inb_of S1 ⟨hj, hjn⟩
  obtain ⟨T', h', X', e', W', st⟩ := stI X hx hZ eT Ar (j := j) hin  (g := mkF m pc Ls ((.int v) :: .int j :: .ref a :: rest)) rfl rfl hd
  exact own_st st (kk T' h' _ X' e' (Fr.snoc X' N ge) W' (Arv.set Ar q1 S1 N1 H1 G1 rfl W' _ rfl hi))
theorem own_bastore (X : Stand p l e R s m args below meth c T locs cells slots) (hx : p.tables.exec = Jvm.exec) (hZ : Z.Warmed39 s.vm) (eT : T.heap = h) {a : Addr} {kc : ClassId} {n : Int32} {vs : List Value} {d : Value} (A : Arv Z h a kc .byte n vs d) {j : Int32} {v : Int32} {i n0 : Nat} (hj : ¬ j < 0) (hjn : j < n) (hji : j.toNatClampNeg = i) (hi : i < vs.length)  (N : Fr n0 locs) (ge : n0 ≤ a) {pc : Nat} {Ls : Array Slot} {rest : List Value} (hd : decode c.code pc = .ok (.bastore, 1))
    (kk : ∀ (T' : State) (h' : Heap) (L' : List Loc), Stand p l e R s m args below meth c T' L' cells slots → T'.heap = h' → Fr n0 L' → Wr h h' a i (.int (nar .byte v)) → Arv Z h' a kc .byte n (vs.set i (.int (nar .byte v))) d → OGoes p.tables e below Φ (T'.setTop (mkF m (pc + 1) Ls rest))) : OGoes p.tables e below Φ (T.setTop (mkF m pc Ls ((.int v) :: .int j :: .ref a :: rest))) := by
  subst hji
  obtain ⟨cl, Ar, q1, S1, N1, H1, G1⟩ := A
  have hin := inb_of S1 ⟨hj, hjn⟩
  obtain ⟨T', h', X', e', W', st⟩ := stB X hx hZ eT Ar (j := j) hin  (g := mkF m pc Ls ((.int v) :: .int j :: .ref a :: rest)) rfl rfl hd
  exact own_st st (kk T' h' _ X' e' (Fr.snoc X' N ge) W' (Arv.set Ar q1 S1 N1 H1 G1 (fits_nar_byte _) W' _ rfl hi))
theorem own_castore (X : Stand p l e R s m args below meth c T locs cells slots) (hx : p.tables.exec = Jvm.exec) (hZ : Z.Warmed39 s.vm) (eT : T.heap = h) {a : Addr} {kc : ClassId} {n : Int32} {vs : List Value} {d : Value} (A : Arv Z h a kc .char n vs d) {j : Int32} {v : Int32} {i n0 : Nat} (hj : ¬ j < 0) (hjn : j < n) (hji : j.toNatClampNeg = i) (hi : i < vs.length)  (N : Fr n0 locs) (ge : n0 ≤ a) {pc : Nat} {Ls : Array Slot} {rest : List Value} (hd : decode c.code pc = .ok (.castore, 1))
    (kk : ∀ (T' : State) (h' : Heap) (L' : List Loc), Stand p l e R s m args below meth c T' L' cells slots → T'.heap = h' → Fr n0 L' → Wr h h' a i (.int (nar .char v)) → Arv Z h' a kc .char n (vs.set i (.int (nar .char v))) d → OGoes p.tables e below Φ (T'.setTop (mkF m (pc + 1) Ls rest))) : OGoes p.tables e below Φ (T.setTop (mkF m pc Ls ((.int v) :: .int j :: .ref a :: rest))) := by
  subst hji
  obtain ⟨cl, Ar, q1, S1, N1, H1, G1⟩ := A
  have hin := inb_of S1 ⟨hj, hjn⟩
  obtain ⟨T', h', X', e', W', st⟩ := stC X hx hZ eT Ar (j := j) hin  (g := mkF m pc Ls ((.int v) :: .int j :: .ref a :: rest)) rfl rfl hd
  exact own_st st (kk T' h' _ X' e' (Fr.snoc X' N ge) W' (Arv.set Ar q1 S1 N1 H1 G1 (fits_nar_char _) W' _ rfl hi))
theorem own_aaload (X : Stand p l e R s m args below meth c T locs cells slots) (hx : p.tables.exec = Jvm.exec) (hZ : Z.Warmed39 s.vm) (eT : T.heap = h) {a : Addr} {kc : ClassId} {ty : FieldType} (hty : ty.isReference = true) {n : Int32} {vs : List Value} {d : Value} (A : Arv Z h a kc ty n vs d) {j : Int32} {v : Value} (hj : ¬ j < 0) (hjn : j < n) (hv : vs.getD j.toNatClampNeg d = v) {pc : Nat} {Ls : Array Slot} {rest : List Value} (hd : decode c.code pc = .ok (.aaload, 1))
    (kk : OGoes p.tables e below Φ (T.setTop (mkF m (pc + 1) Ls (v :: rest)))) : OGoes p.tables e below Φ (T.setTop (mkF m pc Ls (.int j :: .ref a :: rest))) := by
  obtain ⟨cl, Ar, q1, S1, N1, H1, G1⟩ := A
  have hin := inb_of S1 ⟨hj, hjn⟩
  exact own_st (fun t k => X.aaload hx (j := j) (v := v) (by rw [eT]; exact Ar.1) (State.isArrayOf_alike hZ.alike Ar.2.1) hty Ar.2.2 hin (H1.at hin hv) (g := mkF m pc Ls (.int j :: .ref a :: rest)) rfl rfl hd t k) kk
theorem own_laload (X : Stand p l e R s m args below meth c T locs cells slots) (hx : p.tables.exec = Jvm.exec) (hZ : Z.Warmed39 s.vm) (eT : T.heap = h) {a : Addr} {kc : ClassId} {n : Int32} {vs : List Value} {d : Value} (A : Arv Z h a kc .long n vs d) {j : Int32} {v : Value} (hj : ¬ j < 0) (hjn : j < n) (hv : vs.getD j.toNatClampNeg d = v) {pc : Nat} {Ls : Array Slot} {rest : List Value} (hd : decode c.code pc = .ok (.laload, 1))
    (kk : OGoes p.tables e below Φ (T.setTop (mkF m (pc + 1) Ls (v :: rest)))) : OGoes p.tables e below Φ (T.setTop (mkF m pc Ls (.int j :: .ref a :: rest))) := by
  obtain ⟨cl, Ar, q1, S1, N1, H1, G1⟩ := A
  have hin := inb_of S1 ⟨hj, hjn⟩
  exact own_st (fun t k => X.laload hx (j := j) (v := v) (by rw [eT]; exact Ar.1) (State.isArrayOf_alike hZ.alike Ar.2.1) Ar.2.2 hin (H1.at hin hv) (g := mkF m pc Ls (.int j :: .ref a :: rest)) rfl rfl hd t k) kk
theorem own_iaload (X : Stand p l e R s m args below meth c T locs cells slots) (hx : p.tables.exec = Jvm.exec) (hZ : Z.Warmed39 s.vm) (eT : T.heap = h) {a : Addr} {kc : ClassId} {n : Int32} {vs : List Value} {d : Value} (A : Arv Z h a kc .int n vs d) {j : Int32} {v : Value} (hj : ¬ j < 0) (hjn : j < n) (hv : vs.getD j.toNatClampNeg d = v) {pc : Nat} {Ls : Array Slot} {rest : List Value} (hd : decode c.code pc = .ok (.iaload, 1))
    (kk : OGoes p.tables e below Φ (T.setTop (mkF m (pc + 1) Ls (v :: rest)))) : OGoes p.tables e below Φ (T.setTop (mkF m pc Ls (.int j :: .ref a :: rest))) := by
  obtain ⟨cl, Ar, q1, S1, N1, H1, G1⟩ := A
  have hin := inb_of S1 ⟨hj, hjn⟩
  exact own_st (fun t k => X.iaload hx (j := j) (v := v) (by rw [eT]; exact Ar.1) (State.isArrayOf_alike hZ.alike Ar.2.1) Ar.2.2 hin (H1.at hin hv) (g := mkF m pc Ls (.int j :: .ref a :: rest)) rfl rfl hd t k) kk
theorem own_baload (X : Stand p l e R s m args below meth c T locs cells slots) (hx : p.tables.exec = Jvm.exec) (hZ : Z.Warmed39 s.vm) (eT : T.heap = h) {a : Addr} {kc : ClassId} {n : Int32} {vs : List Value} {d : Value} (A : Arv Z h a kc .byte n vs d) {j : Int32} {v : Value} (hj : ¬ j < 0) (hjn : j < n) (hv : vs.getD j.toNatClampNeg d = v) {pc : Nat} {Ls : Array Slot} {rest : List Value} (hd : decode c.code pc = .ok (.baload, 1))
    (kk : OGoes p.tables e below Φ (T.setTop (mkF m (pc + 1) Ls (v :: rest)))) : OGoes p.tables e below Φ (T.setTop (mkF m pc Ls (.int j :: .ref a :: rest))) := by
  obtain ⟨cl, Ar, q1, S1, N1, H1, G1⟩ := A
  have hin := inb_of S1 ⟨hj, hjn⟩
  exact own_st (fun t k => X.baloadBytes hx (j := j) (v := v) (by rw [eT]; exact Ar.1) (State.isArrayOf_alike hZ.alike Ar.2.1) Ar.2.2 hin (H1.at hin hv) (g := mkF m pc Ls (.int j :: .ref a :: rest)) rfl rfl hd t k) kk
theorem own_caload (X : Stand p l e R s m args below meth c T locs cells slots) (hx : p.tables.exec = Jvm.exec) (hZ : Z.Warmed39 s.vm) (eT : T.heap = h) {a : Addr} {kc : ClassId} {n : Int32} {vs : List Value} {d : Value} (A : Arv Z h a kc .char n vs d) {j : Int32} {v : Value} (hj : ¬ j < 0) (hjn : j < n) (hv : vs.getD j.toNatClampNeg d = v) {pc : Nat} {Ls : Array Slot} {rest : List Value} (hd : decode c.code pc = .ok (.caload, 1))
    (kk : OGoes p.tables e below Φ (T.setTop (mkF m (pc + 1) Ls (v :: rest)))) : OGoes p.tables e below Φ (T.setTop (mkF m pc Ls (.int j :: .ref a :: rest))) := by
  obtain ⟨cl, Ar, q1, S1, N1, H1, G1⟩ := A
  have hin := inb_of S1 ⟨hj, hjn⟩
  exact own_st (fun t k => X.caload hx (j := j) (v := v) (by rw [eT]; exact Ar.1) (State.isArrayOf_alike hZ.alike Ar.2.1) Ar.2.2 hin (H1.at hin hv) (g := mkF m pc Ls (.int j :: .ref a :: rest)) rfl rfl hd t k) kk
theorem own_alen (X : Stand p l e R s m args below meth c T locs cells slots) (hx : p.tables.exec = Jvm.exec) (hZ : Z.Warmed39 s.vm) (eT : T.heap = h) {a : Addr} {kc : ClassId} {ty : FieldType} {n : Int32} {vs : List Value} {d : Value} (A : Arv Z h a kc ty n vs d) {pc : Nat} {Ls : Array Slot} {rest : List Value} (hd : decode c.code pc = .ok (.arraylength, 1))
    (kk : OGoes p.tables e below Φ (T.setTop (mkF m (pc + 1) Ls (.int n :: rest)))) : OGoes p.tables e below Φ (T.setTop (mkF m pc Ls (.ref a :: rest))) := by
  obtain ⟨cl, Ar, q1, S1, N1, H1, G1⟩ := A
  exact own_st (fun t k => X.arraylength hx (by rw [eT]; exact Ar.1) (State.isArrayOf_alike hZ.alike Ar.2.1) (g := mkF m pc Ls (.ref a :: rest)) rfl rfl hd t (by rw [len_of S1 N1]; exact k)) kk
theorem own_newarray (X : Stand p l e R s m args below meth c T locs cells slots) (hx : p.tables.exec = Jvm.exec) (hZ : Z.Warmed39 s.vm) (eT : T.heap = h) {aty : ArrayType} (w : (Jvm.Cond.arrayClass (newarray.typeOf aty)).before a0 Z = true) {n : Int32} (hn : ¬ n < 0) {cap : Nat} (hcap : n.toNatClampNeg ≤ cap) (hb : cap * 8 ≤ 536870912) (hc : cells + 1 ≤ R.cells) (hl : slots + cap ≤ R.slots) {ad : String} (had : "[" ++ (newarray.typeOf aty).toString = ad) {pc : Nat} {Ls : Array Slot} {rest : List Value} (hd : decode c.code pc = .ok (.newarray aty, 2))
    (kk : ∀ (T' : State) (h' : Heap) (kc : ClassId) (b : Addr), Stand p l e R s m args below meth c T' locs (cells + 1) (slots + cap) → T'.heap = h' → Ext h h' → b = h.size → Arv Z h' b kc (newarray.typeOf aty) n [] (defaultValue (newarray.typeOf aty)) → Exa Z h' b ad → OGoes p.tables e below Φ (T'.setTop (mkF m (pc + 2) Ls (.ref b :: rest)))) : OGoes p.tables e below Φ (T.setTop (mkF m pc Ls (.int n :: rest))) := by
  obtain ⟨T', h', kc, X', e', E', A', B', st⟩ := newPE X hx hZ w eT (g := mkF m pc Ls (.int n :: rest)) rfl hd rfl hn hcap hb hc hl had
  exact own_st st (kk T' h' kc _ X' e' E' rfl (Arv.new A' hn) B')
theorem own_anewarray (X : Stand p l e R s m args below meth c T locs cells slots) (hx : p.tables.exec = Jvm.exec) (hZ : Z.Warmed39 s.vm) (eT : T.heap = h) {own C : String} {index : Nat} (hown : s.vm.findClass own = some m.cls) (w1 : (Jvm.Cond.classLink own index C).before a0 Z = true) (w2 : (Jvm.Cond.arrayOver (.object C)).before a0 Z = true) {n : Int32} (hn : ¬ n < 0) {cap : Nat} (hcap : n.toNatClampNeg ≤ cap) (hb : cap * 8 ≤ 536870912) (hc : cells + 1 ≤ R.cells) (hl : slots + cap ≤ R.slots) {pc : Nat} {Ls : Array Slot} {rest : List Value} (hd : decode c.code pc = .ok (.anewarray index, 3))
    (kk : ∀ (T' : State) (h' : Heap) (kc : ClassId) (b : Addr), Stand p l e R s m args below meth c T' locs (cells + 1) (slots + cap) → T'.heap = h' → Ext h h' → b = h.size → Arv Z h' b kc (.object C) n [] .null → Ovr Z kc C → OGoes p.tables e below Φ (T'.setTop (mkF m (pc + 3) Ls (.ref b :: rest)))) : OGoes p.tables e below Φ (T.setTop (mkF m pc Ls (.int n :: rest))) := by
  obtain ⟨T', h', kc, X', e', E', A', O', st⟩ := newR X hx hZ hown w1 w2 eT (g := mkF m pc Ls (.int n :: rest)) rfl hd rfl hn hcap hb hc hl
  exact own_st st (kk T' h' kc _ X' e' E' rfl (Arv.new A' hn) O')
theorem own_anewarrayA (X : Stand p l e R s m args below meth c T locs cells slots) (hx : p.tables.exec = Jvm.exec) (hZ : Z.Warmed39 s.vm) (eT : T.heap = h) {own C : String} {ty : FieldType} {index : Nat} (hown : s.vm.findClass own = some m.cls) (hC : (FieldType.array ty).toString = C) (w1 : (Jvm.Cond.classLink own index C).before a0 Z = true) (w2 : (Jvm.Cond.arrayOver (.array ty)).before a0 Z = true) {n : Int32} (hn : ¬ n < 0) {cap : Nat} (hcap : n.toNatClampNeg ≤ cap) (hb : cap * 8 ≤ 536870912) (hc : cells + 1 ≤ R.cells) (hl : slots + cap ≤ R.slots) {pc : Nat} {Ls : Array Slot} {rest : List Value} (hd : decode c.code pc = .ok (.anewarray index, 3))
    (kk : ∀ (T' : State) (h' : Heap) (kc : ClassId) (b : Addr), Stand p l e R s m args below meth c T' locs (cells + 1) (slots + cap) → T'.heap = h' → Ext h h' → b = h.size → Arv Z h' b kc (.array ty) n [] .null → OvrA Z kc ty C → OGoes p.tables e below Φ (T'.setTop (mkF m (pc + 3) Ls (.ref b :: rest)))) : OGoes p.tables e below Φ (T.setTop (mkF m pc Ls (.int n :: rest))) := by
  obtain ⟨T', h', kc, X', e', E', A', -, O', st⟩ := newRA X hx hZ hown hC w1 w2 eT (g := mkF m pc Ls (.int n :: rest)) rfl hd rfl hn hcap hb hc hl rfl
  exact own_st st (kk T' h' kc _ X' e' E' rfl (Arv.new A' hn) O')
theorem own_new (X : Stand p l e R s m args below meth c T locs cells slots) (hx : p.tables.exec = Jvm.exec) (hZ : Z.Warmed39 s.vm) (eT : T.heap = h) {own C : String} {index n : Nat} (hown : s.vm.findClass own = some m.cls) (w : (Jvm.Cond.classLink own index C).before a0 Z = true) (wi : (Jvm.Cond.instantiable C n).before a0 Z = true) (wz : (Jvm.Cond.initialized C).before a0 Z = true) (hc : cells + 1 ≤ R.cells) (hl : slots + n ≤ R.slots) {pc : Nat} {Ls : Array Slot} {st : List Value} (hd : decode c.code pc = .ok (.new index, 3))
    (kk : ∀ (T' : State) (h' : Heap) (b : Addr), Stand p l e R s m args below meth c T' locs (cells + 1) (slots + n) → T'.heap = h' → Ext h h' → b = h.size → Exa Z h' b C → (∀ {O nm d : String} {ty : FieldType}, Laid Z a0 C O nm d → parseFieldDescriptor d = some ty → Fld Z h' b O nm d (defaultValue ty)) → OGoes p.tables e below Φ (T'.setTop (mkF m (pc + 3) Ls (.ref b :: st)))) : OGoes p.tables e below Φ (T.setTop (mkF m pc Ls st)) := by
  obtain ⟨T', h', X', e', E', A', D', -, st'⟩ := newO X hx hZ hown w wi wz eT (g := mkF m pc Ls st) rfl hd hc hl
  exact own_st st' (kk T' h' _ X' e' E' rfl A' D')
theorem own_getfield (X : Stand p l e R s m args below meth c T locs cells slots) (hx : p.tables.exec = Jvm.exec) (hZ : Z.Warmed39 s.vm) (eT : T.heap = h) {own R0 O n d : String} {index : Nat} (hown : s.vm.findClass own = some m.cls) (w : (Jvm.Cond.fieldLink own index R0 n d).before a0 Z = true) (via : Via Z R0 O n d) {a : Addr} {v : Value} (F : Fld Z h a O n d v) {pc : Nat} {Ls : Array Slot} {rest : List Value} (hd : decode c.code pc = .ok (.getfield index, 3))
    (kk : ∀ (T' : State), Stand p l e R s m args below meth c T' locs cells slots → T'.heap = h → OGoes p.tables e below Φ (T'.setTop (mkF m (pc + 3) Ls (v :: rest)))) : OGoes p.tables e below Φ (T.setTop (mkF m pc Ls (.ref a :: rest))) := by
  obtain ⟨T', X', e', st⟩ := getF X hx hZ hown (host := "") (Or.inl w) via eT F (g := mkF m pc Ls (.ref a :: rest)) rfl rfl hd
  exact own_st st (kk T' X' e')
theorem own_getstatic (X : Stand p l e R s m args below meth c T locs cells slots) (hx : p.tables.exec = Jvm.exec) (hZ : Z.Warmed39 s.vm) (eT : T.heap = h) {own O n d : String} {index : Nat} (hown : s.vm.findClass own = some m.cls) (w : (Jvm.Cond.fieldLink own index O n d).before a0 Z = true) {v : Value} (F : Sta Z h O n d v) {pc : Nat} {Ls : Array Slot} {st : List Value} (hd : decode c.code pc = .ok (.getstatic index, 3))
    (kk : ∀ (T' : State), Stand p l e R s m args below meth c T' locs cells slots → T'.heap = h → OGoes p.tables e below Φ (T'.setTop (mkF m (pc + 3) Ls (v :: st)))) : OGoes p.tables e below Φ (T.setTop (mkF m pc Ls st)) := by
  obtain ⟨T', X', e', st'⟩ := getS X hx hZ (host := "") hown w Via.refl eT F (g := mkF m pc Ls st) rfl hd
  exact own_st st' (kk T' X' e')
theorem own_putfield (X : Stand p l e R s m args below meth c T locs cells slots) (hx : p.tables.exec = Jvm.exec) (hZ : Z.Warmed39 s.vm) (eT : T.heap = h) {own O n d C : String} {index kk0 : Nat} {ty : FieldType} (hown : s.vm.findClass own = some m.cls) (w : (Jvm.Cond.fieldLink own index O n d).before a0 Z = true) {a : Addr} {v old : Value} (F : Fld Z h a O n d old) (E : Exa Z h a C) (L : (Jvm.Cond.lays C O n d).before a0 Z = true ∨ ((Jvm.Cond.laysFinal C O n d).before a0 Z = true ∧ own = O ∧ meth.name = "<init>")) (wi : (Jvm.Cond.instantiable C kk0).before a0 Z = true) (hty : parseFieldDescriptor d = some ty) (hn : narrow ty v = v) (hf : fits ty v = true)
    {n0 : Nat} (N : Fr n0 locs) (ge : n0 ≤ a) {pc : Nat} {Ls : Array Slot} {rest : List Value} (hd : decode c.code pc = .ok (.putfield index, 3))
    (kk : ∀ (T' : State) (h' : Heap) (L' : List Loc), Stand p l e R s m args below meth c T' L' cells slots → T'.heap = h' → Fr n0 L' → Wr h h' a (Jvm.RoadKit.slotOf Z O n d) v → Fld Z h' a O n d v → OGoes p.tables e below Φ (T'.setTop (mkF m (pc + 3) Ls rest))) : OGoes p.tables e below Φ (T.setTop (mkF m pc Ls (v :: .ref a :: rest))) := by
  obtain ⟨T', h', X', e', W', st⟩ := putF X hx hZ hown (host := "") (Or.inl w) Via.refl eT F E L wi hty hn hf (g := mkF m pc Ls (v :: .ref a :: rest)) rfl rfl hd
  exact own_st st (kk T' h' _ X' e' (Fr.snoc X' N ge) W' (F.same W'))
theorem own_ext_trans {h1 h2 h3 : Heap} (A : Ext h1 h2) (B : Ext h2 h3) : Ext h1 h3 := ⟨Nat.le_trans A.1 B.1, fun a c q => B.2 a c (A.2 a c q)⟩
theorem own_old_wr {h' : Heap} {a : Addr} {sl : Nat} {v : Value} (O : Ext Z.heap h) (W : Wr h h' a sl v) (q : Z.heap.size ≤ a) : Ext Z.heap h' := (Old.wr (Z := Z) (n0 := Z.heap.size) ⟨rfl, O⟩ W q).2
theorem own_old_keep {h' : Heap} {ws : List Addr} (O : Ext Z.heap h) (K : Keep h h' ws) (q : ∀ x ∈ ws, Z.heap.size ≤ x) : Ext Z.heap h' := (Old.keep (Z := Z) (n0 := Z.heap.size) ⟨rfl, O⟩ K q).2
theorem own_callU0 (X : Stand p l e R s m args below meth c T locs cells slots) (hx : p.tables.exec = Jvm.exec) (hZ : Z.Warmed39 s.vm) {own C owner : String} {index : Nat} {x0 y : MethodName} {bytes : ByteArray} {ml : Nat} {ret : Option FieldType} {fr lo : Nat} {as : Array Value} {v : Option Value}
    (hown : s.vm.findClass own = some m.cls) (w1 : (Jvm.Cond.methodLink own index x0).before a0 Z = true) (w2 : (Jvm.Cond.sameMethod x0.cls owner x0.name x0.desc).before a0 Z = true) (w3 : (Jvm.Cond.declares ⟨owner, x0.name, x0.desc⟩).before a0 Z = true) (w3' : (Jvm.Cond.selects C x0 y).before a0 Z = true) (w4 : (Jvm.Cond.instanceMethod y).before a0 Z = true) (w5 : (Jvm.Cond.initialized y.cls).before a0 Z = true) (w6 : (Jvm.Cond.code y bytes ml ret).before a0 Z = true) (hy : owner ≠ "java/lang/invoke/MethodHandle" ∧ owner ≠ "java/lang/invoke/VarHandle")
    (hM : OPure l Z y bytes ml ret fr lo as h v) (eT : T.heap = h) {b : Addr} (E : Exa Z h b C) {pc : Nat} {Ls : Array Slot} {st : List Value} (hsz : Ls.size = c.maxLocals) {argsL rest : List Value} {sig : MethodDescriptor} (hp : parseMethodDescriptor x0.desc = some sig) (hn : argsL.length = sig.parameters.length) (has : (.ref b :: argsL).toArray = as) (hst : st = argsL.reverse ++ .ref b :: rest)
    {W : Nat} (hW : (rest.map fun v => v.category).sum ≤ W) (hd : decode c.code pc = .ok (.invokevirtual index, 3)) (hf : fr + 1 ≤ R.frames) (hl : W + (ml + 11) + lo ≤ R.locals) (hc : cells ≤ R.cells) (hs : slots ≤ R.slots)
    (k : ∀ (T' : State), Stand p l e R s m args below meth c T' locs cells slots → T'.heap = h → OGoes p.tables e below Φ (T'.setTop (mkF m (pc + 3) Ls (v.toList ++ rest)))) : OGoes p.tables e below Φ (T.setTop (mkF m pc Ls st)) := by
  obtain ⟨cq, kq, qa, qb, qc⟩ := isOf hZ eT E
  obtain ⟨v', vm1, ⟨T', L, kk, nn⟩, -, X', ⟨Lc, ⟨q1, q2, q3⟩, l1, l2, l3⟩, st'⟩ := X.virtualBackUp hx (x := x0) (y := y) hown (mvT hZ w1) (mvT hZ w2) (mvT hZ w3) hy (mvT hZ w3') (mvT hZ w4) (backOf (rm := ⟨fr, 0, 0, lo⟩) (Q := fun v' h' L' => v' = v ∧ h' = h ∧ L' = []) (W := W) (hM []) hZ w6 w5 hf hl) qa qc (g := mkF m pc Ls st) rfl hsz (Steps.refl _) (argsL := argsL) (rest := rest) (fun sg h => by cases hp.symm.trans h; exact hn) hst (by show 2 * 0 + _ ≤ _; omega) hd (fun _ _ => ⟨has, eT, hc, hs⟩)
  dsimp only [Pt.U, Pt.locs, Pt.cells, Pt.slots] at X' l1 l2 l3 st' q2
  subst l1 l2 l3 q1 q3
  rw [List.append_nil] at X'
  exact own_tr st' (k T' X' q2)
theorem own_stoA {a y : Addr} {kc : ClassId} {t0 ty : FieldType} {n : Int32} {vs : List Value} {d : Value} {C : String} (A : Arv Z h a kc t0 n vs d) (O : OvrA Z kc ty C) (I : Ins Z h y C true) : Sto Z h a (.ref y) := by
  obtain ⟨cl, Ar, q1, -⟩ := A
  exact Sto.ofVA Ar q1 O I
theorem own_sto {a y : Addr} {kc : ClassId} {t0 : FieldType} {n : Int32} {vs : List Value} {d : Value} {C : String} (A : Arv Z h a kc t0 n vs d) (O : Ovr Z kc C) (I : Ins Z h y C true) : Sto Z h a (.ref y) := by
  obtain ⟨cl, Ar, q1, -⟩ := A
  exact Sto.ofV Ar q1 O I
theorem own_arrR {t : Term} {a : Addr} {ty : FieldType} {n : Int32} (ht : t.eval args s none [] s = some (.ref a)) (h1 : (Jvm.Cond.arrayOf t ty).value args s none s [] = some true) (h2 : (Jvm.Cond.eq (.length t) (.int n)).value args s none s [] = some true) : ∃ cl, Arr s s.heap a cl ty ∧ cl.slots.size < 2 ^ 31 ∧ cl.slots.size.toInt32 = n := by
  obtain ⟨cl, A⟩ := Arr.start ht h1
  have ha := Arr.fin (Vm.Alike.refl _) A
  have hl : cl.slots.size < 2 ^ 31 := by
    refine Nat.lt_of_not_le fun q => ?_
    have e : (Term.length t).eval args s none [] s = none := by simp [Term.eval, ht, ha, q]
    simp [Cond.value, e] at h2
  have e1 : (Term.length t).eval args s none [] s = some (.int cl.slots.size.toInt32) := len_f ht ha hl
  have e2 : (Term.int n).eval args s none [] s = some (.int n) := rfl
  exact ⟨cl, A, hl, by simpa [Cond.value, e1, e2] using h2⟩
theorem own_elemR {t u : Term} {a w : Addr} {cl : Cell} {ty : FieldType} {k : Int32} (A : Arr s s.heap a cl ty) (ht : t.eval args s none [] s = some (.ref a)) (hu : u.eval args s none [] s = some (.ref w)) (h : (Jvm.Cond.eq (.elem t (.int k)) u).value args s none s [] = some true) : cl.slots[k.toNatClampNeg]? = some (.ref w) := by
  obtain ⟨v, y, e1, e2, -, -⟩ := cmp_v (Or.inl h)
  obtain rfl : y = .ref w := Option.some.inj (e2.symm.trans hu)
  have q := (elem_in e1 ht rfl A.1).2
  rw [q]
  cases v <;> simp [Cond.value, e1, e2] at h
  rw [h]
theorem own_elemI {t : Term} {a : Addr} {cl : Cell} {ty : FieldType} {k x : Int32} (A : Arr s s.heap a cl ty) (ht : t.eval args s none [] s = some (.ref a)) (h : (Jvm.Cond.eq (.elem t (.int k)) (.int x)).value args s none s [] = some true) : cl.slots[k.toNatClampNeg]? = some (.int x) := by
  obtain ⟨v, y, e1, e2, -, -⟩ := cmp_v (Or.inl h)
  obtain rfl : y = .int x := Option.some.inj (e2.symm.trans rfl)
  have q := (elem_in e1 ht rfl A.1).2
  rw [q]
  cases v <;> simp [Cond.value, e1, e2] at h
  rw [h]
theorem own_callP (X : Stand p l e R s m args below meth c T locs cells slots) (hx : p.tables.exec = Jvm.exec) (hZ : Z.Warmed39 s.vm) {own : String} {index nn : Nat} {y : MethodName} {bytes : ByteArray} {ml : Nat} {ret : Option FieldType} {rm : Room} {as : Array Value} {Q : Option Value → Heap → List Loc → Prop}
    (hown : s.vm.findClass own = some m.cls) (w1 : (Jvm.Cond.methodLink own index y).before a0 Z = true) (w2 : (Jvm.Cond.privateMethod y).before a0 Z = true) (w3 : (Jvm.Cond.instantiable y.cls nn).before a0 Z = true) (w4 : (Jvm.Cond.instanceMethod y).before a0 Z = true) (w5 : (Jvm.Cond.initialized y.cls).before a0 Z = true) (w6 : (Jvm.Cond.code y bytes ml ret).before a0 Z = true) (hy : y.cls ≠ "java/lang/invoke/MethodHandle" ∧ y.cls ≠ "java/lang/invoke/VarHandle")
    (hM : OMet l Z y bytes ml ret rm as h Q) (eT : T.heap = h) {b : Addr} (E : Exa Z h b y.cls) {pc : Nat} {Ls : Array Slot} {st : List Value} (hsz : Ls.size = c.maxLocals) {argsL rest : List Value} {sig : MethodDescriptor} (hp : parseMethodDescriptor y.desc = some sig) (hn : argsL.length = sig.parameters.length) (has : (.ref b :: argsL).toArray = as) (hst : st = argsL.reverse ++ .ref b :: rest)
    {W : Nat} (hW : (rest.map fun v => v.category).sum ≤ W) (hd : decode c.code pc = .ok (.invokevirtual index, 3)) (hf : rm.frames + 1 ≤ R.frames) (hl : W + (ml + 11) + rm.locals ≤ R.locals) (hc : cells + rm.cells ≤ R.cells) (hs : slots + rm.slots ≤ R.slots)
    (k : ∀ (v : Option Value) (T' : State) (L' : List Loc), Stand p l e R s m args below meth c T' (locs ++ L') (cells + rm.cells) (slots + rm.slots) → Q v T'.heap L' → OGoes p.tables e below Φ (T'.setTop (mkF m (pc + 3) Ls (v.toList ++ rest)))) : OGoes p.tables e below Φ (T.setTop (mkF m pc Ls st)) := by
  obtain ⟨cq, q, q'⟩ := E.cell
  have hp' := Cond.privateMethod_at (mvP hZ w2 (args := #[]))
  obtain ⟨c0, k0, i1, i2, -, i4, -⟩ := Cond.instantiable_spec (mvT (args := args) hZ w3)
  have hsel := selects_self_of_private i1 i2 (Bool.or_eq_false_iff.mp i4).1 hp' (mvT (args := args) hZ w4) hy
  obtain ⟨v, vm1, ⟨T', L, kk, nn⟩, -, X', ⟨Lc, hQ, l1, l2, l3⟩, st'⟩ := X.privateBack hx (y := y) hown (mvT hZ w1) (mvT hZ w4) hsel hp' (mvT hZ w6) hy (backOf (W := W) (hM []) hZ w6 w5 hf hl) (g := mkF m pc Ls st) rfl hsz (Steps.refl _) (a := b) (by rw [eT]; exact q) q' (argsL := argsL) (rest := rest) (fun sg h => by cases hp.symm.trans h; exact hn) hst (by show 2 * 0 + _ ≤ _; omega) hd (fun _ _ => ⟨has, eT, hc, hs⟩)
  dsimp only [Pt.U, Pt.locs, Pt.cells, Pt.slots] at X' l1 l2 l3 st' hQ
  subst l1 l2 l3
  exact own_tr st' (k v T' Lc X' hQ)
theorem own_callP0 (X : Stand p l e R s m args below meth c T locs cells slots) (hx : p.tables.exec = Jvm.exec) (hZ : Z.Warmed39 s.vm) {own : String} {index nn : Nat} {y : MethodName} {bytes : ByteArray} {ml : Nat} {ret : Option FieldType} {fr lo : Nat} {as : Array Value} {v : Option Value}
    (hown : s.vm.findClass own = some m.cls) (w1 : (Jvm.Cond.methodLink own index y).before a0 Z = true) (w2 : (Jvm.Cond.privateMethod y).before a0 Z = true) (w3 : (Jvm.Cond.instantiable y.cls nn).before a0 Z = true) (w4 : (Jvm.Cond.instanceMethod y).before a0 Z = true) (w5 : (Jvm.Cond.initialized y.cls).before a0 Z = true) (w6 : (Jvm.Cond.code y bytes ml ret).before a0 Z = true) (hy : y.cls ≠ "java/lang/invoke/MethodHandle" ∧ y.cls ≠ "java/lang/invoke/VarHandle")
    (hM : OPure l Z y bytes ml ret fr lo as h v) (eT : T.heap = h) {b : Addr} (E : Exa Z h b y.cls) {pc : Nat} {Ls : Array Slot} {st : List Value} (hsz : Ls.size = c.maxLocals) {argsL rest : List Value} {sig : MethodDescriptor} (hp : parseMethodDescriptor y.desc = some sig) (hn : argsL.length = sig.parameters.length) (has : (.ref b :: argsL).toArray = as) (hst : st = argsL.reverse ++ .ref b :: rest)
    {W : Nat} (hW : (rest.map fun v => v.category).sum ≤ W) (hd : decode c.code pc = .ok (.invokevirtual index, 3)) (hf : fr + 1 ≤ R.frames) (hl : W + (ml + 11) + lo ≤ R.locals) (hc : cells ≤ R.cells) (hs : slots ≤ R.slots)
    (k : ∀ (T' : State), Stand p l e R s m args below meth c T' locs cells slots → T'.heap = h → OGoes p.tables e below Φ (T'.setTop (mkF m (pc + 3) Ls (v.toList ++ rest)))) : OGoes p.tables e below Φ (T.setTop (mkF m pc Ls st)) := by
  refine own_callP X hx hZ hown w1 w2 w3 w4 w5 w6 hy hM eT E hsz hp hn has hst hW hd hf hl hc hs ?_
  rintro v' T' L' X' ⟨rfl, e', rfl⟩
  rw [List.append_nil] at X'
  exact k T' X' e'
theorem own_acopy (X : Stand p l e R s m args below meth c T locs cells slots) (hx : p.tables.exec = Jvm.exec) (hZ : Z.Warmed39 s.vm) (eT : T.heap = h) {own : String} {index : Nat} (hown : s.vm.findClass own = some m.cls) (w1 : (Jvm.Cond.methodLink own index Jvm.Stand.acN).before a0 Z = true) (w2 : (Jvm.Cond.native Jvm.Stand.acN).before a0 Z = true) (w3 : (Jvm.Cond.static Jvm.Stand.acN).before a0 Z = true) (w4 : (Jvm.Cond.initialized "java/lang/System").before a0 Z = true)
    {a b : Addr} {kc k' : ClassId} {ty : FieldType} {z z' sp dp nn : Int32} {vs vd us : List Value} {dv dd : Value} (A : Arv Z h a kc ty z vs dv) (B : Arv Z h b k' ty z' vd dd) (hty : refKind ty = false) (h1 : ¬ sp < 0) (h2 : ¬ dp < 0) (h3 : ¬ nn < 0) (h4 : sp.toNatClampNeg + nn.toNatClampNeg ≤ z.toNatClampNeg) (h5 : dp.toNatClampNeg + nn.toNatClampNeg ≤ z'.toNatClampNeg)
    (hus : us = (List.range nn.toNatClampNeg).map fun i => vs.getD (sp.toNatClampNeg + i) dv) (hl : dp.toNatClampNeg + nn.toNatClampNeg ≤ vd.length) {n0 : Nat} (N : Fr n0 locs) (ge : n0 ≤ b) {pc : Nat} {Ls : Array Slot} {rest : List Value} (hsz : Ls.size = c.maxLocals) (hd : decode c.code pc = .ok (.invokestatic index, 3)) (hf : 1 ≤ R.frames) {W : Nat} (hW : (rest.map fun v => v.category).sum ≤ W) (hlo : W + (nativeFrameWords "java/lang/System" "arraycopy" 5 + 11) ≤ R.locals)
    (kk : ∀ (T' : State) (h' : Heap) (L : List Loc), Stand p l e R s m args below meth c T' L cells slots → T'.heap = h' → Fr n0 L → Keep h h' [b] → Arv Z h' b k' ty z' (vd.take dp.toNatClampNeg ++ us ++ vd.drop (dp.toNatClampNeg + nn.toNatClampNeg)) dd → OGoes p.tables e below Φ (T'.setTop (mkF m (pc + 3) Ls rest))) : OGoes p.tables e below Φ (T.setTop (mkF m pc Ls (.int nn :: .int dp :: .ref b :: .int sp :: .ref a :: rest))) := by
  obtain ⟨T', h', L, X', e', N', K', A', st⟩ := cpA X hx hZ hown w1 w2 w3 w4 eT A B (Or.inl ⟨rfl, hty⟩) h1 h2 h3 h4 h5 hus hl N ge (g := mkF m pc Ls (.int nn :: .int dp :: .ref b :: .int sp :: .ref a :: rest)) rfl hsz rfl hd hf (W := W) (by show 2 * 0 + _ ≤ _; omega) hlo
  exact own_st st (kk T' h' L X' e' N' K' A')
end OwnKit
end Jvm.Pilot.@@N@@
namespace Jvm.Pilot.@@N@@
open Jvm Jvm.ClassFile Sem Op Lib Jvm.Free Jvm.Stand Jvm.LawKit Jvm.RoadKit Bundle Jvm.Pilot.@@N@@.Jvm.D
theorem pn_0 : plainName "com/example/weaver_ant/weaverant/executor/PoolState" = true := by first | (simp [plainName, overriddenIn]; done) | decide +kernel
theorem pn_1 : plainName "com/example/weaver_ant/weaverant/executor/PoolStateRunsQueuedTasksPinLaw" = true := by first | (simp [plainName, overriddenIn]; done) | decide +kernel
theorem pd_0 : parseMethodDescriptor "(I)Lcom/example/weaver_ant/weaverant/executor/PoolState;" = some ⟨[.int], some (.object "com/example/weaver_ant/weaverant/executor/PoolState")⟩ := by decide +kernel
theorem pd_1 : parseMethodDescriptor "()Z" = some ⟨[], some .boolean⟩ := by decide +kernel
theorem d1_0 : decode method_2_code 0 = .ok (.iload_n 0, 1) := by decide +kernel
theorem d1_1 : decode method_2_code 1 = .ok (.ifCond .ne 7, 3) := by decide +kernel
theorem d1_4 : decode method_2_code 4 = .ok (.getstatic 7, 3) := by decide +kernel
theorem d1_7 : decode method_2_code 7 = .ok (.areturn, 1) := by decide +kernel
theorem d1_8 : decode method_2_code 8 = .ok (.iload_n 0, 1) := by decide +kernel
theorem d1_9 : decode method_2_code 9 = .ok (.iconst 1, 1) := by decide +kernel
theorem d1_10 : decode method_2_code 10 = .ok (.if_icmp .ne 7, 3) := by decide +kernel
theorem d1_13 : decode method_2_code 13 = .ok (.getstatic 13, 3) := by decide +kernel
theorem d1_16 : decode method_2_code 16 = .ok (.areturn, 1) := by decide +kernel
theorem d1_17 : decode method_2_code 17 = .ok (.iload_n 0, 1) := by decide +kernel
theorem d1_18 : decode method_2_code 18 = .ok (.iconst 2, 1) := by decide +kernel
theorem d1_19 : decode method_2_code 19 = .ok (.if_icmp .ne 7, 3) := by decide +kernel
theorem d1_22 : decode method_2_code 22 = .ok (.getstatic 16, 3) := by decide +kernel
theorem d1_25 : decode method_2_code 25 = .ok (.areturn, 1) := by decide +kernel
theorem d1_26 : decode method_2_code 26 = .ok (.iload_n 0, 1) := by decide +kernel
theorem d1_27 : decode method_2_code 27 = .ok (.iconst 3, 1) := by decide +kernel
theorem d1_28 : decode method_2_code 28 = .ok (.if_icmp .ne 7, 3) := by decide +kernel
theorem d1_31 : decode method_2_code 31 = .ok (.getstatic 19, 3) := by decide +kernel
theorem d1_34 : decode method_2_code 34 = .ok (.areturn, 1) := by decide +kernel
theorem d1_35 : decode method_2_code 35 = .ok (.getstatic 22, 3) := by decide +kernel
theorem d1_38 : decode method_2_code 38 = .ok (.areturn, 1) := by decide +kernel
theorem d2_0 : decode prog_11_method_5_code 0 = .ok (.aload_n 0, 1) := by decide +kernel
theorem d2_1 : decode prog_11_method_5_code 1 = .ok (.getstatic 3, 3) := by decide +kernel
theorem d2_4 : decode prog_11_method_5_code 4 = .ok (.if_acmp .eq 10, 3) := by decide +kernel
theorem d2_7 : decode prog_11_method_5_code 7 = .ok (.aload_n 0, 1) := by decide +kernel
theorem d2_8 : decode prog_11_method_5_code 8 = .ok (.getstatic 7, 3) := by decide +kernel
theorem d2_11 : decode prog_11_method_5_code 11 = .ok (.if_acmp .ne 7, 3) := by decide +kernel
theorem d2_14 : decode prog_11_method_5_code 14 = .ok (.iconst 1, 1) := by decide +kernel
theorem d2_15 : decode prog_11_method_5_code 15 = .ok (.goto 4, 3) := by decide +kernel
theorem d2_18 : decode prog_11_method_5_code 18 = .ok (.iconst 0, 1) := by decide +kernel
theorem d2_19 : decode prog_11_method_5_code 19 = .ok (.ireturn, 1) := by decide +kernel
theorem ef_rmN (m : MethodId) (x0 : Addr) : entryFrame m #[(.ref x0)] 1 = mkF m 0 #[.val (.ref x0)] [] := by first | (simp [entryFrame, mkF, argsToLocals, Value.category]; done) | rfl
set_option maxRecDepth 65536 in
set_option maxHeartbeats 40000000 in
theorem rmN (l : Launch) (Z : State) (a0 : Array Value) (hw : ∀ d ∈ tables_1, d.before a0 Z = true) (a wR wS : Addr) (h0 : Heap) (S_RUNNING : Sta Z h0 "com/example/weaver_ant/weaverant/executor/PoolState" "RUNNING" "Lcom/example/weaver_ant/weaverant/executor/PoolState;" (.ref wR)) (S_SHUTDOWN : Sta Z h0 "com/example/weaver_ant/weaverant/executor/PoolState" "SHUTDOWN" "Lcom/example/weaver_ant/weaverant/executor/PoolState;" (.ref wS)) :
    OPure l Z (⟨"com/example/weaver_ant/weaverant/executor/PoolState", "runsQueuedTasks", "()Z"⟩ : MethodName) prog_11_method_5_code 1 (some .boolean) 0 0 #[(.ref a)] h0 (some (.int (if a = wR ∨ a = wS then (1 : Int32) else 0))) := by
  refine own_body pn_0 ?_
  intro p e s m below meth c T0 X0 hx hby hml hZ hown hnm hret hlk e0
  replace hown : s.vm.findClass "com/example/weaver_ant/weaverant/executor/PoolState" = some m.cls := hown
  refine own_cast (ef_rmN m (a)) ?_
  show OGoes p.tables e below _ (T0.setTop (mkF m 0 #[.val (.ref a)] []))
  refine own_st (V := (T0.setTop (mkF m 1 #[.val (.ref a)] [(.ref a)]))) (fun t k => XS.aloadN X0.here hx rfl (hb hby d2_0) rfl rfl k) ?_
  refine own_getstatic X0 hx hZ e0 hown (hw _ (List.mem_of_getElem? (i := 13) rfl)) S_RUNNING (hb hby d2_1) ?_
  intro T1 X1 e1
  show OGoes p.tables e below _ (T1.setTop (mkF m 4 #[.val (.ref a)] [(.ref wR), (.ref a)]))
  by_cases h1 : a = wR
  · refine own_st (V := (T1.setTop (mkF m 14 #[.val (.ref a)] []))) (fun t k => XT.acmpYes X1.here hx rfl (pc0 := 4) (pc' := 14) rfl (hb hby d2_4) rfl rfl rfl (own_aa_eq_t h1) (by decide) (by decide) k) ?_
    refine own_st (V := (T1.setTop (mkF m 15 #[.val (.ref a)] [(.int (1 : Int32))]))) (fun t k => XS.iconst X1.here hx rfl (hb hby d2_14) k) ?_
    refine own_st (V := (T1.setTop (mkF m 19 #[.val (.ref a)] [(.int (1 : Int32))]))) (fun t k => XS.goto X1.here hx rfl (pc0 := 15) (pc' := 19) rfl (hb hby d2_15) (by decide) (by decide) k) ?_
    exact own_retN X1 hx hlk (by simp) hret (hb hby d2_19) (by decide) (by decide) ⟨by rw [if_pos (Or.inl h1)]; rfl, e1, rfl⟩
  · refine own_st (V := (T1.setTop (mkF m 7 #[.val (.ref a)] []))) (fun t k => XT.acmpNo X1.here hx rfl (hb hby d2_4) rfl rfl rfl (own_aa_eq_f h1) k) ?_
    refine own_st (V := (T1.setTop (mkF m 8 #[.val (.ref a)] [(.ref a)]))) (fun t k => XS.aloadN X1.here hx rfl (hb hby d2_7) rfl rfl k) ?_
    refine own_getstatic X1 hx hZ e1 hown (hw _ (List.mem_of_getElem? (i := 16) rfl)) S_SHUTDOWN (hb hby d2_8) ?_
    intro T2 X2 e2
    show OGoes p.tables e below _ (T2.setTop (mkF m 11 #[.val (.ref a)] [(.ref wS), (.ref a)]))
    by_cases h2 : a = wS
    · refine own_st (V := (T2.setTop (mkF m 14 #[.val (.ref a)] []))) (fun t k => XT.acmpNo X2.here hx rfl (hb hby d2_11) rfl rfl rfl (own_aa_ne_f h2) k) ?_
      refine own_st (V := (T2.setTop (mkF m 15 #[.val (.ref a)] [(.int (1 : Int32))]))) (fun t k => XS.iconst X2.here hx rfl (hb hby d2_14) k) ?_
      refine own_st (V := (T2.setTop (mkF m 19 #[.val (.ref a)] [(.int (1 : Int32))]))) (fun t k => XS.goto X2.here hx rfl (pc0 := 15) (pc' := 19) rfl (hb hby d2_15) (by decide) (by decide) k) ?_
      exact own_retN X2 hx hlk (by simp) hret (hb hby d2_19) (by decide) (by decide) ⟨by rw [if_pos (Or.inr h2)]; rfl, e2, rfl⟩
    · refine own_st (V := (T2.setTop (mkF m 18 #[.val (.ref a)] []))) (fun t k => XT.acmpYes X2.here hx rfl (pc0 := 11) (pc' := 18) rfl (hb hby d2_11) rfl rfl rfl (own_aa_ne_t h2) (by decide) (by decide) k) ?_
      refine own_st (V := (T2.setTop (mkF m 19 #[.val (.ref a)] [(.int (0 : Int32))]))) (fun t k => XS.iconst X2.here hx rfl (hb hby d2_18) k) ?_
      exact own_retN X2 hx hlk (by simp) hret (hb hby d2_19) (by decide) (by decide) ⟨by rw [if_neg (fun q => q.elim h1 h2)]; rfl, e2, rfl⟩
def own_pick (k : Int32) (wR wS wP wT wE : Addr) : Addr := if k = 0 then wR else if k = 1 then wS else if k = 2 then wP else if k = 3 then wT else wE
theorem ef_rmP (m : MethodId) (x0 : Int32) : entryFrame m #[(.int x0)] 1 = mkF m 0 #[.val (.int x0)] [] := by first | (simp [entryFrame, mkF, argsToLocals, Value.category]; done) | rfl
set_option maxRecDepth 65536 in
set_option maxHeartbeats 40000000 in
theorem rmP (l : Launch) (Z : State) (a0 : Array Value) (hw : ∀ d ∈ tables_1, d.before a0 Z = true) (k : Int32) (wR wS wP wT wE r : Addr) (hr : own_pick k wR wS wP wT wE = r) (h0 : Heap) (S_RUNNING : Sta Z h0 "com/example/weaver_ant/weaverant/executor/PoolState" "RUNNING" "Lcom/example/weaver_ant/weaverant/executor/PoolState;" (.ref wR)) (S_SHUTDOWN : Sta Z h0 "com/example/weaver_ant/weaverant/executor/PoolState" "SHUTDOWN" "Lcom/example/weaver_ant/weaverant/executor/PoolState;" (.ref wS)) (S_STOP : Sta Z h0 "com/example/weaver_ant/weaverant/executor/PoolState" "STOP" "Lcom/example/weaver_ant/weaverant/executor/PoolState;" (.ref wP)) (S_TIDYING : Sta Z h0 "com/example/weaver_ant/weaverant/executor/PoolState" "TIDYING" "Lcom/example/weaver_ant/weaverant/executor/PoolState;" (.ref wT)) (S_TERMINATED : Sta Z h0 "com/example/weaver_ant/weaverant/executor/PoolState" "TERMINATED" "Lcom/example/weaver_ant/weaverant/executor/PoolState;" (.ref wE)) :
    OPure l Z (⟨"com/example/weaver_ant/weaverant/executor/PoolStateRunsQueuedTasksPinLaw", "pick", "(I)Lcom/example/weaver_ant/weaverant/executor/PoolState;"⟩ : MethodName) method_2_code 1 (some (.object "com/example/weaver_ant/weaverant/executor/PoolState")) 0 0 #[(.int k)] h0 (some (.ref r)) := by
  refine own_body pn_1 ?_
  intro p e s m below meth c T0 X0 hx hby hml hZ hown hnm hret hlk e0
  replace hown : s.vm.findClass "com/example/weaver_ant/weaverant/executor/PoolStateRunsQueuedTasksPinLaw" = some m.cls := hown
  refine own_cast (ef_rmP m (k)) ?_
  show OGoes p.tables e below _ (T0.setTop (mkF m 0 #[.val (.int k)] []))
  unfold own_pick at hr
  refine own_st (V := (T0.setTop (mkF m 1 #[.val (.int k)] [(.int k)]))) (fun t k => XS.iloadN X0.here hx rfl (hb hby d1_0) rfl k) ?_
  by_cases h0 : k = 0
  · refine own_st (V := (T0.setTop (mkF m 4 #[.val (.int k)] []))) (fun t k => XS.ifNo X0.here hx rfl (hb hby d1_1) rfl (XT.i0_ne_f h0) k) ?_
    refine own_getstatic X0 hx hZ e0 hown (hw _ (List.mem_of_getElem? (i := 5) rfl)) S_RUNNING (hb hby d1_4) ?_
    intro T3 X3 e3
    show OGoes p.tables e below _ (T3.setTop (mkF m 7 #[.val (.int k)] [(.ref wR)]))
    exact own_retA X3 hx hlk rfl hret rfl (hb hby d1_7) (by decide) (by decide) ⟨by rw [← hr]; simp [h0], e3, rfl⟩
  · refine own_st (V := (T0.setTop (mkF m 8 #[.val (.int k)] []))) (fun t k => XS.ifYes X0.here hx rfl (pc0 := 1) (pc' := 8) rfl (hb hby d1_1) rfl (XT.i0_ne_t h0) (by decide) (by decide) k) ?_
    refine own_st (V := (T0.setTop (mkF m 9 #[.val (.int k)] [(.int k)]))) (fun t k => XS.iloadN X0.here hx rfl (hb hby d1_8) rfl k) ?_
    refine own_st (V := (T0.setTop (mkF m 10 #[.val (.int k)] [(.int (1 : Int32)), (.int k)]))) (fun t k => XS.iconst X0.here hx rfl (hb hby d1_9) k) ?_
    by_cases h1 : k = (1 : Int32)
    · refine own_st (V := (T0.setTop (mkF m 13 #[.val (.int k)] []))) (fun t k => XS.icmpNo X0.here hx rfl (hb hby d1_10) rfl (XT.ii_ne_f h1) k) ?_
      refine own_getstatic X0 hx hZ e0 hown (hw _ (List.mem_of_getElem? (i := 18) rfl)) S_SHUTDOWN (hb hby d1_13) ?_
      intro T4 X4 e4
      show OGoes p.tables e below _ (T4.setTop (mkF m 16 #[.val (.int k)] [(.ref wS)]))
      exact own_retA X4 hx hlk rfl hret rfl (hb hby d1_16) (by decide) (by decide) ⟨by rw [← hr]; simp [h0, h1], e4, rfl⟩
    · refine own_st (V := (T0.setTop (mkF m 17 #[.val (.int k)] []))) (fun t k => XS.icmpYes X0.here hx rfl (pc0 := 10) (pc' := 17) rfl (hb hby d1_10) rfl (XT.ii_ne_t h1) (by decide) (by decide) k) ?_
      refine own_st (V := (T0.setTop (mkF m 18 #[.val (.int k)] [(.int k)]))) (fun t k => XS.iloadN X0.here hx rfl (hb hby d1_17) rfl k) ?_
      refine own_st (V := (T0.setTop (mkF m 19 #[.val (.int k)] [(.int (2 : Int32)), (.int k)]))) (fun t k => XS.iconst X0.here hx rfl (hb hby d1_18) k) ?_
      by_cases h2 : k = (2 : Int32)
      · refine own_st (V := (T0.setTop (mkF m 22 #[.val (.int k)] []))) (fun t k => XS.icmpNo X0.here hx rfl (hb hby d1_19) rfl (XT.ii_ne_f h2) k) ?_
        refine own_getstatic X0 hx hZ e0 hown (hw _ (List.mem_of_getElem? (i := 21) rfl)) S_STOP (hb hby d1_22) ?_
        intro T5 X5 e5
        show OGoes p.tables e below _ (T5.setTop (mkF m 25 #[.val (.int k)] [(.ref wP)]))
        exact own_retA X5 hx hlk rfl hret rfl (hb hby d1_25) (by decide) (by decide) ⟨by rw [← hr]; simp [h0, h1, h2], e5, rfl⟩
      · refine own_st (V := (T0.setTop (mkF m 26 #[.val (.int k)] []))) (fun t k => XS.icmpYes X0.here hx rfl (pc0 := 19) (pc' := 26) rfl (hb hby d1_19) rfl (XT.ii_ne_t h2) (by decide) (by decide) k) ?_
        refine own_st (V := (T0.setTop (mkF m 27 #[.val (.int k)] [(.int k)]))) (fun t k => XS.iloadN X0.here hx rfl (hb hby d1_26) rfl k) ?_
        refine own_st (V := (T0.setTop (mkF m 28 #[.val (.int k)] [(.int (3 : Int32)), (.int k)]))) (fun t k => XS.iconst X0.here hx rfl (hb hby d1_27) k) ?_
        by_cases h3 : k = (3 : Int32)
        · refine own_st (V := (T0.setTop (mkF m 31 #[.val (.int k)] []))) (fun t k => XS.icmpNo X0.here hx rfl (hb hby d1_28) rfl (XT.ii_ne_f h3) k) ?_
          refine own_getstatic X0 hx hZ e0 hown (hw _ (List.mem_of_getElem? (i := 14) rfl)) S_TIDYING (hb hby d1_31) ?_
          intro T6 X6 e6
          show OGoes p.tables e below _ (T6.setTop (mkF m 34 #[.val (.int k)] [(.ref wT)]))
          exact own_retA X6 hx hlk rfl hret rfl (hb hby d1_34) (by decide) (by decide) ⟨by rw [← hr]; simp [h0, h1, h2, h3], e6, rfl⟩
        · refine own_st (V := (T0.setTop (mkF m 35 #[.val (.int k)] []))) (fun t k => XS.icmpYes X0.here hx rfl (pc0 := 28) (pc' := 35) rfl (hb hby d1_28) rfl (XT.ii_ne_t h3) (by decide) (by decide) k) ?_
          refine own_getstatic X0 hx hZ e0 hown (hw _ (List.mem_of_getElem? (i := 19) rfl)) S_TERMINATED (hb hby d1_35) ?_
          intro T7 X7 e7
          show OGoes p.tables e below _ (T7.setTop (mkF m 38 #[.val (.int k)] [(.ref wE)]))
          exact own_retA X7 hx hlk rfl hret rfl (hb hby d1_38) (by decide) (by decide) ⟨by rw [← hr]; simp [h0, h1, h2, h3], e7, rfl⟩
theorem ef_rm0 (m : MethodId) (x0 : Int32) : entryFrame m #[(.int x0)] maxLocals = mkF m 0 #[.val (.int x0), .unset, .unset, .unset] [] := by first | (simp [entryFrame, mkF, argsToLocals, Value.category, maxLocals]; done) | rfl
set_option maxRecDepth 65536 in
set_option maxHeartbeats 40000000 in
theorem rm0 (l : Launch) (Z : State) (a0 : Array Value) (hw : ∀ d ∈ tables_1, d.before a0 Z = true) (p1 : Int32) (wR wS wP wT wE : Addr) (h0 : Heap) (S_RUNNING : Sta Z h0 "com/example/weaver_ant/weaverant/executor/PoolState" "RUNNING" "Lcom/example/weaver_ant/weaverant/executor/PoolState;" (.ref wR)) (S_SHUTDOWN : Sta Z h0 "com/example/weaver_ant/weaverant/executor/PoolState" "SHUTDOWN" "Lcom/example/weaver_ant/weaverant/executor/PoolState;" (.ref wS)) (S_STOP : Sta Z h0 "com/example/weaver_ant/weaverant/executor/PoolState" "STOP" "Lcom/example/weaver_ant/weaverant/executor/PoolState;" (.ref wP)) (S_TIDYING : Sta Z h0 "com/example/weaver_ant/weaverant/executor/PoolState" "TIDYING" "Lcom/example/weaver_ant/weaverant/executor/PoolState;" (.ref wT)) (S_TERMINATED : Sta Z h0 "com/example/weaver_ant/weaverant/executor/PoolState" "TERMINATED" "Lcom/example/weaver_ant/weaverant/executor/PoolState;" (.ref wE)) (E_wR : Exa Z h0 wR "com/example/weaver_ant/weaverant/executor/PoolState") (E_wS : Exa Z h0 wS "com/example/weaver_ant/weaverant/executor/PoolState") (E_wP : Exa Z h0 wP "com/example/weaver_ant/weaverant/executor/PoolState") (E_wT : Exa Z h0 wT "com/example/weaver_ant/weaverant/executor/PoolState") (E_wE : Exa Z h0 wE "com/example/weaver_ant/weaverant/executor/PoolState") (n_wP_wR : ¬ wP = wR) (n_wP_wS : ¬ wP = wS) (n_wT_wR : ¬ wT = wR) (n_wT_wS : ¬ wT = wS) (n_wE_wR : ¬ wE = wR) (n_wE_wS : ¬ wE = wS) :
    OMet l Z x code maxLocals ret room_1 #[(.int p1)] h0 (fun v h L => v = some (.int 1) ∧ Fr Z.heap.size L) := by
  refine own_body pn_1 ?_
  intro p e s m below meth c T0 X0 hx hby hml hZ hown hnm hret hlk e0
  replace hown : s.vm.findClass "com/example/weaver_ant/weaverant/executor/PoolStateRunsQueuedTasksPinLaw" = some m.cls := hown
  refine own_cast (ef_rm0 m (p1)) ?_
  show OGoes p.tables e below _ (T0.setTop (mkF m 0 #[.val (.int p1), .unset, .unset, .unset] []))
  refine own_st (V := (T0.setTop (mkF m 1 #[.val (.int p1), .unset, .unset, .unset] [(.int p1)]))) (fun t k => XS.iloadN X0.here hx rfl (hb hby at_0) rfl k) ?_
  refine own_st (V := (T0.setTop (mkF m 3 #[.val (.int p1), .unset, .unset, .unset] [(.int (2147483647 : Int32)), (.int p1)]))) (fun t k => X0.ldcInt hx hown (mvT hZ (hw _ (List.mem_of_getElem? (i := 0) rfl))) (g := (mkF m 1 #[.val (.int p1), .unset, .unset, .unset] [(.int p1)])) rfl (hb hby at_1) t k) ?_
  refine own_st (V := (T0.setTop (mkF m 4 #[.val (.int p1), .unset, .unset, .unset] [(.int (p1 &&& (2147483647 : Int32)))]))) (fun t k => XS.iand X0.here hx rfl (hb hby at_3) rfl k) ?_
  refine own_st (V := (T0.setTop (mkF m 5 #[.val (.int p1), .unset, .unset, .unset] [(.int (5 : Int32)), (.int (p1 &&& (2147483647 : Int32)))]))) (fun t k => XS.iconst X0.here hx rfl (hb hby at_4) k) ?_
  refine own_st (V := (T0.setTop (mkF m 6 #[.val (.int p1), .unset, .unset, .unset] [(.int ((p1 &&& (2147483647 : Int32)) % (5 : Int32)))]))) (fun t k => iremM X0 hx rfl (hb hby at_5) rfl (by decide) k) ?_
  refine own_st (V := (T0.setTop (mkF m 7 #[.val (.int p1), .val (.int ((p1 &&& (2147483647 : Int32)) % (5 : Int32))), .unset, .unset] []))) (fun t k => XS.istoreN X0.here hx rfl (hb hby at_6) rfl (l' := #[.val (.int p1), .val (.int ((p1 &&& (2147483647 : Int32)) % (5 : Int32))), .unset, .unset]) rfl k) ?_
  refine own_st (V := (T0.setTop (mkF m 8 #[.val (.int p1), .val (.int ((p1 &&& (2147483647 : Int32)) % (5 : Int32))), .unset, .unset] [(.int ((p1 &&& (2147483647 : Int32)) % (5 : Int32)))]))) (fun t k => XS.iloadN X0.here hx rfl (hb hby at_7) rfl k) ?_
  by_cases c0 : ((p1 &&& (2147483647 : Int32)) % (5 : Int32)) = 0
  · refine own_callS0 X0 hx hZ hown (hw _ (List.mem_of_getElem? (i := 1) rfl)) (hw _ (List.mem_of_getElem? (i := 2) rfl)) (hw _ (List.mem_of_getElem? (i := 3) rfl)) (hw _ (List.mem_of_getElem? (i := 4) rfl)) (by decide) (rmP l Z a0 hw ((p1 &&& (2147483647 : Int32)) % (5 : Int32)) wR wS wP wT wE wR (by simp [own_pick, c0]) h0 S_RUNNING S_SHUTDOWN S_STOP S_TIDYING S_TERMINATED) e0 (by rw [hml]; rfl) (argsL := [(.int ((p1 &&& (2147483647 : Int32)) % (5 : Int32)))]) (rest := []) pd_0 rfl rfl rfl (W := 0) (Nat.le_of_eq rfl) (hb hby at_8) (by decide) (by decide) (by decide) (by decide) ?_
    intro T8 X8 e8
    show OGoes p.tables e below _ (T8.setTop (mkF m 11 #[.val (.int p1), .val (.int ((p1 &&& (2147483647 : Int32)) % (5 : Int32))), .unset, .unset] [(.ref wR)]))
    refine own_st (V := (T8.setTop (mkF m 12 #[.val (.int p1), .val (.int ((p1 &&& (2147483647 : Int32)) % (5 : Int32))), .val (.ref wR), .unset] []))) (fun t k => XS.astoreN X8.here hx rfl (hb hby at_11) rfl rfl (l' := #[.val (.int p1), .val (.int ((p1 &&& (2147483647 : Int32)) % (5 : Int32))), .val (.ref wR), .unset]) rfl k) ?_
    refine own_st (V := (T8.setTop (mkF m 13 #[.val (.int p1), .val (.int ((p1 &&& (2147483647 : Int32)) % (5 : Int32))), .val (.ref wR), .unset] [(.int ((p1 &&& (2147483647 : Int32)) % (5 : Int32)))]))) (fun t k => XS.iloadN X8.here hx rfl (hb hby at_12) rfl k) ?_
    refine own_st (V := (T8.setTop (mkF m 21 #[.val (.int p1), .val (.int ((p1 &&& (2147483647 : Int32)) % (5 : Int32))), .val (.ref wR), .unset] []))) (fun t k => XS.ifYes X8.here hx rfl (pc0 := 13) (pc' := 21) rfl (hb hby at_13) rfl (XT.i0_eq_t c0) (by decide) (by decide) k) ?_
    refine own_st (V := (T8.setTop (mkF m 22 #[.val (.int p1), .val (.int ((p1 &&& (2147483647 : Int32)) % (5 : Int32))), .val (.ref wR), .unset] [(.int (1 : Int32))]))) (fun t k => XS.iconst X8.here hx rfl (hb hby at_21) k) ?_
    refine own_st (V := (T8.setTop (mkF m 26 #[.val (.int p1), .val (.int ((p1 &&& (2147483647 : Int32)) % (5 : Int32))), .val (.ref wR), .unset] [(.int (1 : Int32))]))) (fun t k => XS.goto X8.here hx rfl (pc0 := 22) (pc' := 26) rfl (hb hby at_22) (by decide) (by decide) k) ?_
    refine own_st (V := (T8.setTop (mkF m 27 #[.val (.int p1), .val (.int ((p1 &&& (2147483647 : Int32)) % (5 : Int32))), .val (.ref wR), .val (.int (1 : Int32))] []))) (fun t k => XS.istoreN X8.here hx rfl (hb hby at_26) rfl (l' := #[.val (.int p1), .val (.int ((p1 &&& (2147483647 : Int32)) % (5 : Int32))), .val (.ref wR), .val (.int (1 : Int32))]) rfl k) ?_
    refine own_st (V := (T8.setTop (mkF m 28 #[.val (.int p1), .val (.int ((p1 &&& (2147483647 : Int32)) % (5 : Int32))), .val (.ref wR), .val (.int (1 : Int32))] [(.ref wR)]))) (fun t k => XS.aloadN X8.here hx rfl (hb hby at_27) rfl rfl k) ?_
    refine own_callV0 X8 hx hZ hown (hw _ (List.mem_of_getElem? (i := 8) rfl)) (hw _ (List.mem_of_getElem? (i := 9) rfl)) (hw _ (List.mem_of_getElem? (i := 11) rfl)) (hw _ (List.mem_of_getElem? (i := 10) rfl)) (hw _ (List.mem_of_getElem? (i := 6) rfl)) (hw _ (List.mem_of_getElem? (i := 12) rfl)) (by decide) (rmN l Z a0 hw wR wR wS h0 S_RUNNING S_SHUTDOWN) e8 E_wR (by rw [hml]; rfl) (argsL := []) (rest := []) pd_1 rfl rfl rfl (W := 0) (Nat.le_of_eq rfl) (hb hby at_28) (by decide) (by decide) (by decide) (by decide) ?_
    intro T9 X9 e9
    show OGoes p.tables e below _ (T9.setTop (mkF m 31 #[.val (.int p1), .val (.int ((p1 &&& (2147483647 : Int32)) % (5 : Int32))), .val (.ref wR), .val (.int (1 : Int32))] [(.int (if wR = wR ∨ wR = wS then (1 : Int32) else 0))]))
    refine own_st (V := (T9.setTop (mkF m 32 #[.val (.int p1), .val (.int ((p1 &&& (2147483647 : Int32)) % (5 : Int32))), .val (.ref wR), .val (.int (1 : Int32))] [(.int (1 : Int32)), (.int (if wR = wR ∨ wR = wS then (1 : Int32) else 0))]))) (fun t k => XS.iloadN X9.here hx rfl (hb hby at_31) rfl k) ?_
    refine own_st (V := (T9.setTop (mkF m 35 #[.val (.int p1), .val (.int ((p1 &&& (2147483647 : Int32)) % (5 : Int32))), .val (.ref wR), .val (.int (1 : Int32))] []))) (fun t k => XS.icmpNo X9.here hx rfl (hb hby at_32) rfl (XT.ii_ne_f (by simp)) k) ?_
    refine own_st (V := (T9.setTop (mkF m 36 #[.val (.int p1), .val (.int ((p1 &&& (2147483647 : Int32)) % (5 : Int32))), .val (.ref wR), .val (.int (1 : Int32))] [(.int (1 : Int32))]))) (fun t k => XS.iconst X9.here hx rfl (hb hby at_35) k) ?_
    refine own_st (V := (T9.setTop (mkF m 40 #[.val (.int p1), .val (.int ((p1 &&& (2147483647 : Int32)) % (5 : Int32))), .val (.ref wR), .val (.int (1 : Int32))] [(.int (1 : Int32))]))) (fun t k => XS.goto X9.here hx rfl (pc0 := 36) (pc' := 40) rfl (hb hby at_36) (by decide) (by decide) k) ?_
    exact own_retN X9 hx hlk (by simp) hret (hb hby at_40) (by decide) (by decide) ⟨rfl, Fr.nil _⟩
  · by_cases c1 : ((p1 &&& (2147483647 : Int32)) % (5 : Int32)) = 1
    · refine own_callS0 X0 hx hZ hown (hw _ (List.mem_of_getElem? (i := 1) rfl)) (hw _ (List.mem_of_getElem? (i := 2) rfl)) (hw _ (List.mem_of_getElem? (i := 3) rfl)) (hw _ (List.mem_of_getElem? (i := 4) rfl)) (by decide) (rmP l Z a0 hw ((p1 &&& (2147483647 : Int32)) % (5 : Int32)) wR wS wP wT wE wS (by simp [own_pick, c0, c1]) h0 S_RUNNING S_SHUTDOWN S_STOP S_TIDYING S_TERMINATED) e0 (by rw [hml]; rfl) (argsL := [(.int ((p1 &&& (2147483647 : Int32)) % (5 : Int32)))]) (rest := []) pd_0 rfl rfl rfl (W := 0) (Nat.le_of_eq rfl) (hb hby at_8) (by decide) (by decide) (by decide) (by decide) ?_
      intro T10 X10 e10
      show OGoes p.tables e below _ (T10.setTop (mkF m 11 #[.val (.int p1), .val (.int ((p1 &&& (2147483647 : Int32)) % (5 : Int32))), .unset, .unset] [(.ref wS)]))
      refine own_st (V := (T10.setTop (mkF m 12 #[.val (.int p1), .val (.int ((p1 &&& (2147483647 : Int32)) % (5 : Int32))), .val (.ref wS), .unset] []))) (fun t k => XS.astoreN X10.here hx rfl (hb hby at_11) rfl rfl (l' := #[.val (.int p1), .val (.int ((p1 &&& (2147483647 : Int32)) % (5 : Int32))), .val (.ref wS), .unset]) rfl k) ?_
      refine own_st (V := (T10.setTop (mkF m 13 #[.val (.int p1), .val (.int ((p1 &&& (2147483647 : Int32)) % (5 : Int32))), .val (.ref wS), .unset] [(.int ((p1 &&& (2147483647 : Int32)) % (5 : Int32)))]))) (fun t k => XS.iloadN X10.here hx rfl (hb hby at_12) rfl k) ?_
      refine own_st (V := (T10.setTop (mkF m 16 #[.val (.int p1), .val (.int ((p1 &&& (2147483647 : Int32)) % (5 : Int32))), .val (.ref wS), .unset] []))) (fun t k => XS.ifNo X10.here hx rfl (hb hby at_13) rfl (XT.i0_eq_f c0) k) ?_
      refine own_st (V := (T10.setTop (mkF m 17 #[.val (.int p1), .val (.int ((p1 &&& (2147483647 : Int32)) % (5 : Int32))), .val (.ref wS), .unset] [(.int ((p1 &&& (2147483647 : Int32)) % (5 : Int32)))]))) (fun t k => XS.iloadN X10.here hx rfl (hb hby at_16) rfl k) ?_
      refine own_st (V := (T10.setTop (mkF m 18 #[.val (.int p1), .val (.int ((p1 &&& (2147483647 : Int32)) % (5 : Int32))), .val (.ref wS), .unset] [(.int (1 : Int32)), (.int ((p1 &&& (2147483647 : Int32)) % (5 : Int32)))]))) (fun t k => XS.iconst X10.here hx rfl (hb hby at_17) k) ?_
      refine own_st (V := (T10.setTop (mkF m 21 #[.val (.int p1), .val (.int ((p1 &&& (2147483647 : Int32)) % (5 : Int32))), .val (.ref wS), .unset] []))) (fun t k => XS.icmpNo X10.here hx rfl (hb hby at_18) rfl (XT.ii_ne_f c1) k) ?_
      refine own_st (V := (T10.setTop (mkF m 22 #[.val (.int p1), .val (.int ((p1 &&& (2147483647 : Int32)) % (5 : Int32))), .val (.ref wS), .unset] [(.int (1 : Int32))]))) (fun t k => XS.iconst X10.here hx rfl (hb hby at_21) k) ?_
      refine own_st (V := (T10.setTop (mkF m 26 #[.val (.int p1), .val (.int ((p1 &&& (2147483647 : Int32)) % (5 : Int32))), .val (.ref wS), .unset] [(.int (1 : Int32))]))) (fun t k => XS.goto X10.here hx rfl (pc0 := 22) (pc' := 26) rfl (hb hby at_22) (by decide) (by decide) k) ?_
      refine own_st (V := (T10.setTop (mkF m 27 #[.val (.int p1), .val (.int ((p1 &&& (2147483647 : Int32)) % (5 : Int32))), .val (.ref wS), .val (.int (1 : Int32))] []))) (fun t k => XS.istoreN X10.here hx rfl (hb hby at_26) rfl (l' := #[.val (.int p1), .val (.int ((p1 &&& (2147483647 : Int32)) % (5 : Int32))), .val (.ref wS), .val (.int (1 : Int32))]) rfl k) ?_
      refine own_st (V := (T10.setTop (mkF m 28 #[.val (.int p1), .val (.int ((p1 &&& (2147483647 : Int32)) % (5 : Int32))), .val (.ref wS), .val (.int (1 : Int32))] [(.ref wS)]))) (fun t k => XS.aloadN X10.here hx rfl (hb hby at_27) rfl rfl k) ?_
      refine own_callV0 X10 hx hZ hown (hw _ (List.mem_of_getElem? (i := 8) rfl)) (hw _ (List.mem_of_getElem? (i := 9) rfl)) (hw _ (List.mem_of_getElem? (i := 11) rfl)) (hw _ (List.mem_of_getElem? (i := 10) rfl)) (hw _ (List.mem_of_getElem? (i := 6) rfl)) (hw _ (List.mem_of_getElem? (i := 12) rfl)) (by decide) (rmN l Z a0 hw wS wR wS h0 S_RUNNING S_SHUTDOWN) e10 E_wS (by rw [hml]; rfl) (argsL := []) (rest := []) pd_1 rfl rfl rfl (W := 0) (Nat.le_of_eq rfl) (hb hby at_28) (by decide) (by decide) (by decide) (by decide) ?_
      intro T11 X11 e11
      show OGoes p.tables e below _ (T11.setTop (mkF m 31 #[.val (.int p1), .val (.int ((p1 &&& (2147483647 : Int32)) % (5 : Int32))), .val (.ref wS), .val (.int (1 : Int32))] [(.int (if wS = wR ∨ wS = wS then (1 : Int32) else 0))]))
      refine own_st (V := (T11.setTop (mkF m 32 #[.val (.int p1), .val (.int ((p1 &&& (2147483647 : Int32)) % (5 : Int32))), .val (.ref wS), .val (.int (1 : Int32))] [(.int (1 : Int32)), (.int (if wS = wR ∨ wS = wS then (1 : Int32) else 0))]))) (fun t k => XS.iloadN X11.here hx rfl (hb hby at_31) rfl k) ?_
      refine own_st (V := (T11.setTop (mkF m 35 #[.val (.int p1), .val (.int ((p1 &&& (2147483647 : Int32)) % (5 : Int32))), .val (.ref wS), .val (.int (1 : Int32))] []))) (fun t k => XS.icmpNo X11.here hx rfl (hb hby at_32) rfl (XT.ii_ne_f (by simp)) k) ?_
      refine own_st (V := (T11.setTop (mkF m 36 #[.val (.int p1), .val (.int ((p1 &&& (2147483647 : Int32)) % (5 : Int32))), .val (.ref wS), .val (.int (1 : Int32))] [(.int (1 : Int32))]))) (fun t k => XS.iconst X11.here hx rfl (hb hby at_35) k) ?_
      refine own_st (V := (T11.setTop (mkF m 40 #[.val (.int p1), .val (.int ((p1 &&& (2147483647 : Int32)) % (5 : Int32))), .val (.ref wS), .val (.int (1 : Int32))] [(.int (1 : Int32))]))) (fun t k => XS.goto X11.here hx rfl (pc0 := 36) (pc' := 40) rfl (hb hby at_36) (by decide) (by decide) k) ?_
      exact own_retN X11 hx hlk (by simp) hret (hb hby at_40) (by decide) (by decide) ⟨rfl, Fr.nil _⟩
    · by_cases c2 : ((p1 &&& (2147483647 : Int32)) % (5 : Int32)) = 2
      · refine own_callS0 X0 hx hZ hown (hw _ (List.mem_of_getElem? (i := 1) rfl)) (hw _ (List.mem_of_getElem? (i := 2) rfl)) (hw _ (List.mem_of_getElem? (i := 3) rfl)) (hw _ (List.mem_of_getElem? (i := 4) rfl)) (by decide) (rmP l Z a0 hw ((p1 &&& (2147483647 : Int32)) % (5 : Int32)) wR wS wP wT wE wP (by simp [own_pick, c0, c1, c2]) h0 S_RUNNING S_SHUTDOWN S_STOP S_TIDYING S_TERMINATED) e0 (by rw [hml]; rfl) (argsL := [(.int ((p1 &&& (2147483647 : Int32)) % (5 : Int32)))]) (rest := []) pd_0 rfl rfl rfl (W := 0) (Nat.le_of_eq rfl) (hb hby at_8) (by decide) (by decide) (by decide) (by decide) ?_
        intro T12 X12 e12
        show OGoes p.tables e below _ (T12.setTop (mkF m 11 #[.val (.int p1), .val (.int ((p1 &&& (2147483647 : Int32)) % (5 : Int32))), .unset, .unset] [(.ref wP)]))
        refine own_st (V := (T12.setTop (mkF m 12 #[.val (.int p1), .val (.int ((p1 &&& (2147483647 : Int32)) % (5 : Int32))), .val (.ref wP), .unset] []))) (fun t k => XS.astoreN X12.here hx rfl (hb hby at_11) rfl rfl (l' := #[.val (.int p1), .val (.int ((p1 &&& (2147483647 : Int32)) % (5 : Int32))), .val (.ref wP), .unset]) rfl k) ?_
        refine own_st (V := (T12.setTop (mkF m 13 #[.val (.int p1), .val (.int ((p1 &&& (2147483647 : Int32)) % (5 : Int32))), .val (.ref wP), .unset] [(.int ((p1 &&& (2147483647 : Int32)) % (5 : Int32)))]))) (fun t k => XS.iloadN X12.here hx rfl (hb hby at_12) rfl k) ?_
        refine own_st (V := (T12.setTop (mkF m 16 #[.val (.int p1), .val (.int ((p1 &&& (2147483647 : Int32)) % (5 : Int32))), .val (.ref wP), .unset] []))) (fun t k => XS.ifNo X12.here hx rfl (hb hby at_13) rfl (XT.i0_eq_f c0) k) ?_
        refine own_st (V := (T12.setTop (mkF m 17 #[.val (.int p1), .val (.int ((p1 &&& (2147483647 : Int32)) % (5 : Int32))), .val (.ref wP), .unset] [(.int ((p1 &&& (2147483647 : Int32)) % (5 : Int32)))]))) (fun t k => XS.iloadN X12.here hx rfl (hb hby at_16) rfl k) ?_
        refine own_st (V := (T12.setTop (mkF m 18 #[.val (.int p1), .val (.int ((p1 &&& (2147483647 : Int32)) % (5 : Int32))), .val (.ref wP), .unset] [(.int (1 : Int32)), (.int ((p1 &&& (2147483647 : Int32)) % (5 : Int32)))]))) (fun t k => XS.iconst X12.here hx rfl (hb hby at_17) k) ?_
        refine own_st (V := (T12.setTop (mkF m 25 #[.val (.int p1), .val (.int ((p1 &&& (2147483647 : Int32)) % (5 : Int32))), .val (.ref wP), .unset] []))) (fun t k => XS.icmpYes X12.here hx rfl (pc0 := 18) (pc' := 25) rfl (hb hby at_18) rfl (XT.ii_ne_t c1) (by decide) (by decide) k) ?_
        refine own_st (V := (T12.setTop (mkF m 26 #[.val (.int p1), .val (.int ((p1 &&& (2147483647 : Int32)) % (5 : Int32))), .val (.ref wP), .unset] [(.int (0 : Int32))]))) (fun t k => XS.iconst X12.here hx rfl (hb hby at_25) k) ?_
        refine own_st (V := (T12.setTop (mkF m 27 #[.val (.int p1), .val (.int ((p1 &&& (2147483647 : Int32)) % (5 : Int32))), .val (.ref wP), .val (.int (0 : Int32))] []))) (fun t k => XS.istoreN X12.here hx rfl (hb hby at_26) rfl (l' := #[.val (.int p1), .val (.int ((p1 &&& (2147483647 : Int32)) % (5 : Int32))), .val (.ref wP), .val (.int (0 : Int32))]) rfl k) ?_
        refine own_st (V := (T12.setTop (mkF m 28 #[.val (.int p1), .val (.int ((p1 &&& (2147483647 : Int32)) % (5 : Int32))), .val (.ref wP), .val (.int (0 : Int32))] [(.ref wP)]))) (fun t k => XS.aloadN X12.here hx rfl (hb hby at_27) rfl rfl k) ?_
        refine own_callV0 X12 hx hZ hown (hw _ (List.mem_of_getElem? (i := 8) rfl)) (hw _ (List.mem_of_getElem? (i := 9) rfl)) (hw _ (List.mem_of_getElem? (i := 11) rfl)) (hw _ (List.mem_of_getElem? (i := 10) rfl)) (hw _ (List.mem_of_getElem? (i := 6) rfl)) (hw _ (List.mem_of_getElem? (i := 12) rfl)) (by decide) (rmN l Z a0 hw wP wR wS h0 S_RUNNING S_SHUTDOWN) e12 E_wP (by rw [hml]; rfl) (argsL := []) (rest := []) pd_1 rfl rfl rfl (W := 0) (Nat.le_of_eq rfl) (hb hby at_28) (by decide) (by decide) (by decide) (by decide) ?_
        intro T13 X13 e13
        show OGoes p.tables e below _ (T13.setTop (mkF m 31 #[.val (.int p1), .val (.int ((p1 &&& (2147483647 : Int32)) % (5 : Int32))), .val (.ref wP), .val (.int (0 : Int32))] [(.int (if wP = wR ∨ wP = wS then (1 : Int32) else 0))]))
        refine own_st (V := (T13.setTop (mkF m 32 #[.val (.int p1), .val (.int ((p1 &&& (2147483647 : Int32)) % (5 : Int32))), .val (.ref wP), .val (.int (0 : Int32))] [(.int (0 : Int32)), (.int (if wP = wR ∨ wP = wS then (1 : Int32) else 0))]))) (fun t k => XS.iloadN X13.here hx rfl (hb hby at_31) rfl k) ?_
        refine own_st (V := (T13.setTop (mkF m 35 #[.val (.int p1), .val (.int ((p1 &&& (2147483647 : Int32)) % (5 : Int32))), .val (.ref wP), .val (.int (0 : Int32))] []))) (fun t k => XS.icmpNo X13.here hx rfl (hb hby at_32) rfl (XT.ii_ne_f (by simp [n_wP_wR, n_wP_wS])) k) ?_
        refine own_st (V := (T13.setTop (mkF m 36 #[.val (.int p1), .val (.int ((p1 &&& (2147483647 : Int32)) % (5 : Int32))), .val (.ref wP), .val (.int (0 : Int32))] [(.int (1 : Int32))]))) (fun t k => XS.iconst X13.here hx rfl (hb hby at_35) k) ?_
        refine own_st (V := (T13.setTop (mkF m 40 #[.val (.int p1), .val (.int ((p1 &&& (2147483647 : Int32)) % (5 : Int32))), .val (.ref wP), .val (.int (0 : Int32))] [(.int (1 : Int32))]))) (fun t k => XS.goto X13.here hx rfl (pc0 := 36) (pc' := 40) rfl (hb hby at_36) (by decide) (by decide) k) ?_
        exact own_retN X13 hx hlk (by simp) hret (hb hby at_40) (by decide) (by decide) ⟨rfl, Fr.nil _⟩
      · by_cases c3 : ((p1 &&& (2147483647 : Int32)) % (5 : Int32)) = 3
        · refine own_callS0 X0 hx hZ hown (hw _ (List.mem_of_getElem? (i := 1) rfl)) (hw _ (List.mem_of_getElem? (i := 2) rfl)) (hw _ (List.mem_of_getElem? (i := 3) rfl)) (hw _ (List.mem_of_getElem? (i := 4) rfl)) (by decide) (rmP l Z a0 hw ((p1 &&& (2147483647 : Int32)) % (5 : Int32)) wR wS wP wT wE wT (by simp [own_pick, c0, c1, c2, c3]) h0 S_RUNNING S_SHUTDOWN S_STOP S_TIDYING S_TERMINATED) e0 (by rw [hml]; rfl) (argsL := [(.int ((p1 &&& (2147483647 : Int32)) % (5 : Int32)))]) (rest := []) pd_0 rfl rfl rfl (W := 0) (Nat.le_of_eq rfl) (hb hby at_8) (by decide) (by decide) (by decide) (by decide) ?_
          intro T14 X14 e14
          show OGoes p.tables e below _ (T14.setTop (mkF m 11 #[.val (.int p1), .val (.int ((p1 &&& (2147483647 : Int32)) % (5 : Int32))), .unset, .unset] [(.ref wT)]))
          refine own_st (V := (T14.setTop (mkF m 12 #[.val (.int p1), .val (.int ((p1 &&& (2147483647 : Int32)) % (5 : Int32))), .val (.ref wT), .unset] []))) (fun t k => XS.astoreN X14.here hx rfl (hb hby at_11) rfl rfl (l' := #[.val (.int p1), .val (.int ((p1 &&& (2147483647 : Int32)) % (5 : Int32))), .val (.ref wT), .unset]) rfl k) ?_
          refine own_st (V := (T14.setTop (mkF m 13 #[.val (.int p1), .val (.int ((p1 &&& (2147483647 : Int32)) % (5 : Int32))), .val (.ref wT), .unset] [(.int ((p1 &&& (2147483647 : Int32)) % (5 : Int32)))]))) (fun t k => XS.iloadN X14.here hx rfl (hb hby at_12) rfl k) ?_
          refine own_st (V := (T14.setTop (mkF m 16 #[.val (.int p1), .val (.int ((p1 &&& (2147483647 : Int32)) % (5 : Int32))), .val (.ref wT), .unset] []))) (fun t k => XS.ifNo X14.here hx rfl (hb hby at_13) rfl (XT.i0_eq_f c0) k) ?_
          refine own_st (V := (T14.setTop (mkF m 17 #[.val (.int p1), .val (.int ((p1 &&& (2147483647 : Int32)) % (5 : Int32))), .val (.ref wT), .unset] [(.int ((p1 &&& (2147483647 : Int32)) % (5 : Int32)))]))) (fun t k => XS.iloadN X14.here hx rfl (hb hby at_16) rfl k) ?_
          refine own_st (V := (T14.setTop (mkF m 18 #[.val (.int p1), .val (.int ((p1 &&& (2147483647 : Int32)) % (5 : Int32))), .val (.ref wT), .unset] [(.int (1 : Int32)), (.int ((p1 &&& (2147483647 : Int32)) % (5 : Int32)))]))) (fun t k => XS.iconst X14.here hx rfl (hb hby at_17) k) ?_
          refine own_st (V := (T14.setTop (mkF m 25 #[.val (.int p1), .val (.int ((p1 &&& (2147483647 : Int32)) % (5 : Int32))), .val (.ref wT), .unset] []))) (fun t k => XS.icmpYes X14.here hx rfl (pc0 := 18) (pc' := 25) rfl (hb hby at_18) rfl (XT.ii_ne_t c1) (by decide) (by decide) k) ?_
          refine own_st (V := (T14.setTop (mkF m 26 #[.val (.int p1), .val (.int ((p1 &&& (2147483647 : Int32)) % (5 : Int32))), .val (.ref wT), .unset] [(.int (0 : Int32))]))) (fun t k => XS.iconst X14.here hx rfl (hb hby at_25) k) ?_
          refine own_st (V := (T14.setTop (mkF m 27 #[.val (.int p1), .val (.int ((p1 &&& (2147483647 : Int32)) % (5 : Int32))), .val (.ref wT), .val (.int (0 : Int32))] []))) (fun t k => XS.istoreN X14.here hx rfl (hb hby at_26) rfl (l' := #[.val (.int p1), .val (.int ((p1 &&& (2147483647 : Int32)) % (5 : Int32))), .val (.ref wT), .val (.int (0 : Int32))]) rfl k) ?_
          refine own_st (V := (T14.setTop (mkF m 28 #[.val (.int p1), .val (.int ((p1 &&& (2147483647 : Int32)) % (5 : Int32))), .val (.ref wT), .val (.int (0 : Int32))] [(.ref wT)]))) (fun t k => XS.aloadN X14.here hx rfl (hb hby at_27) rfl rfl k) ?_
          refine own_callV0 X14 hx hZ hown (hw _ (List.mem_of_getElem? (i := 8) rfl)) (hw _ (List.mem_of_getElem? (i := 9) rfl)) (hw _ (List.mem_of_getElem? (i := 11) rfl)) (hw _ (List.mem_of_getElem? (i := 10) rfl)) (hw _ (List.mem_of_getElem? (i := 6) rfl)) (hw _ (List.mem_of_getElem? (i := 12) rfl)) (by decide) (rmN l Z a0 hw wT wR wS h0 S_RUNNING S_SHUTDOWN) e14 E_wT (by rw [hml]; rfl) (argsL := []) (rest := []) pd_1 rfl rfl rfl (W := 0) (Nat.le_of_eq rfl) (hb hby at_28) (by decide) (by decide) (by decide) (by decide) ?_
          intro T15 X15 e15
          show OGoes p.tables e below _ (T15.setTop (mkF m 31 #[.val (.int p1), .val (.int ((p1 &&& (2147483647 : Int32)) % (5 : Int32))), .val (.ref wT), .val (.int (0 : Int32))] [(.int (if wT = wR ∨ wT = wS then (1 : Int32) else 0))]))
          refine own_st (V := (T15.setTop (mkF m 32 #[.val (.int p1), .val (.int ((p1 &&& (2147483647 : Int32)) % (5 : Int32))), .val (.ref wT), .val (.int (0 : Int32))] [(.int (0 : Int32)), (.int (if wT = wR ∨ wT = wS then (1 : Int32) else 0))]))) (fun t k => XS.iloadN X15.here hx rfl (hb hby at_31) rfl k) ?_
          refine own_st (V := (T15.setTop (mkF m 35 #[.val (.int p1), .val (.int ((p1 &&& (2147483647 : Int32)) % (5 : Int32))), .val (.ref wT), .val (.int (0 : Int32))] []))) (fun t k => XS.icmpNo X15.here hx rfl (hb hby at_32) rfl (XT.ii_ne_f (by simp [n_wT_wR, n_wT_wS])) k) ?_
          refine own_st (V := (T15.setTop (mkF m 36 #[.val (.int p1), .val (.int ((p1 &&& (2147483647 : Int32)) % (5 : Int32))), .val (.ref wT), .val (.int (0 : Int32))] [(.int (1 : Int32))]))) (fun t k => XS.iconst X15.here hx rfl (hb hby at_35) k) ?_
          refine own_st (V := (T15.setTop (mkF m 40 #[.val (.int p1), .val (.int ((p1 &&& (2147483647 : Int32)) % (5 : Int32))), .val (.ref wT), .val (.int (0 : Int32))] [(.int (1 : Int32))]))) (fun t k => XS.goto X15.here hx rfl (pc0 := 36) (pc' := 40) rfl (hb hby at_36) (by decide) (by decide) k) ?_
          exact own_retN X15 hx hlk (by simp) hret (hb hby at_40) (by decide) (by decide) ⟨rfl, Fr.nil _⟩
        · refine own_callS0 X0 hx hZ hown (hw _ (List.mem_of_getElem? (i := 1) rfl)) (hw _ (List.mem_of_getElem? (i := 2) rfl)) (hw _ (List.mem_of_getElem? (i := 3) rfl)) (hw _ (List.mem_of_getElem? (i := 4) rfl)) (by decide) (rmP l Z a0 hw ((p1 &&& (2147483647 : Int32)) % (5 : Int32)) wR wS wP wT wE wE (by simp [own_pick, c0, c1, c2, c3]) h0 S_RUNNING S_SHUTDOWN S_STOP S_TIDYING S_TERMINATED) e0 (by rw [hml]; rfl) (argsL := [(.int ((p1 &&& (2147483647 : Int32)) % (5 : Int32)))]) (rest := []) pd_0 rfl rfl rfl (W := 0) (Nat.le_of_eq rfl) (hb hby at_8) (by decide) (by decide) (by decide) (by decide) ?_
          intro T16 X16 e16
          show OGoes p.tables e below _ (T16.setTop (mkF m 11 #[.val (.int p1), .val (.int ((p1 &&& (2147483647 : Int32)) % (5 : Int32))), .unset, .unset] [(.ref wE)]))
          refine own_st (V := (T16.setTop (mkF m 12 #[.val (.int p1), .val (.int ((p1 &&& (2147483647 : Int32)) % (5 : Int32))), .val (.ref wE), .unset] []))) (fun t k => XS.astoreN X16.here hx rfl (hb hby at_11) rfl rfl (l' := #[.val (.int p1), .val (.int ((p1 &&& (2147483647 : Int32)) % (5 : Int32))), .val (.ref wE), .unset]) rfl k) ?_
          refine own_st (V := (T16.setTop (mkF m 13 #[.val (.int p1), .val (.int ((p1 &&& (2147483647 : Int32)) % (5 : Int32))), .val (.ref wE), .unset] [(.int ((p1 &&& (2147483647 : Int32)) % (5 : Int32)))]))) (fun t k => XS.iloadN X16.here hx rfl (hb hby at_12) rfl k) ?_
          refine own_st (V := (T16.setTop (mkF m 16 #[.val (.int p1), .val (.int ((p1 &&& (2147483647 : Int32)) % (5 : Int32))), .val (.ref wE), .unset] []))) (fun t k => XS.ifNo X16.here hx rfl (hb hby at_13) rfl (XT.i0_eq_f c0) k) ?_
          refine own_st (V := (T16.setTop (mkF m 17 #[.val (.int p1), .val (.int ((p1 &&& (2147483647 : Int32)) % (5 : Int32))), .val (.ref wE), .unset] [(.int ((p1 &&& (2147483647 : Int32)) % (5 : Int32)))]))) (fun t k => XS.iloadN X16.here hx rfl (hb hby at_16) rfl k) ?_
          refine own_st (V := (T16.setTop (mkF m 18 #[.val (.int p1), .val (.int ((p1 &&& (2147483647 : Int32)) % (5 : Int32))), .val (.ref wE), .unset] [(.int (1 : Int32)), (.int ((p1 &&& (2147483647 : Int32)) % (5 : Int32)))]))) (fun t k => XS.iconst X16.here hx rfl (hb hby at_17) k) ?_
          refine own_st (V := (T16.setTop (mkF m 25 #[.val (.int p1), .val (.int ((p1 &&& (2147483647 : Int32)) % (5 : Int32))), .val (.ref wE), .unset] []))) (fun t k => XS.icmpYes X16.here hx rfl (pc0 := 18) (pc' := 25) rfl (hb hby at_18) rfl (XT.ii_ne_t c1) (by decide) (by decide) k) ?_
          refine own_st (V := (T16.setTop (mkF m 26 #[.val (.int p1), .val (.int ((p1 &&& (2147483647 : Int32)) % (5 : Int32))), .val (.ref wE), .unset] [(.int (0 : Int32))]))) (fun t k => XS.iconst X16.here hx rfl (hb hby at_25) k) ?_
          refine own_st (V := (T16.setTop (mkF m 27 #[.val (.int p1), .val (.int ((p1 &&& (2147483647 : Int32)) % (5 : Int32))), .val (.ref wE), .val (.int (0 : Int32))] []))) (fun t k => XS.istoreN X16.here hx rfl (hb hby at_26) rfl (l' := #[.val (.int p1), .val (.int ((p1 &&& (2147483647 : Int32)) % (5 : Int32))), .val (.ref wE), .val (.int (0 : Int32))]) rfl k) ?_
          refine own_st (V := (T16.setTop (mkF m 28 #[.val (.int p1), .val (.int ((p1 &&& (2147483647 : Int32)) % (5 : Int32))), .val (.ref wE), .val (.int (0 : Int32))] [(.ref wE)]))) (fun t k => XS.aloadN X16.here hx rfl (hb hby at_27) rfl rfl k) ?_
          refine own_callV0 X16 hx hZ hown (hw _ (List.mem_of_getElem? (i := 8) rfl)) (hw _ (List.mem_of_getElem? (i := 9) rfl)) (hw _ (List.mem_of_getElem? (i := 11) rfl)) (hw _ (List.mem_of_getElem? (i := 10) rfl)) (hw _ (List.mem_of_getElem? (i := 6) rfl)) (hw _ (List.mem_of_getElem? (i := 12) rfl)) (by decide) (rmN l Z a0 hw wE wR wS h0 S_RUNNING S_SHUTDOWN) e16 E_wE (by rw [hml]; rfl) (argsL := []) (rest := []) pd_1 rfl rfl rfl (W := 0) (Nat.le_of_eq rfl) (hb hby at_28) (by decide) (by decide) (by decide) (by decide) ?_
          intro T17 X17 e17
          show OGoes p.tables e below _ (T17.setTop (mkF m 31 #[.val (.int p1), .val (.int ((p1 &&& (2147483647 : Int32)) % (5 : Int32))), .val (.ref wE), .val (.int (0 : Int32))] [(.int (if wE = wR ∨ wE = wS then (1 : Int32) else 0))]))
          refine own_st (V := (T17.setTop (mkF m 32 #[.val (.int p1), .val (.int ((p1 &&& (2147483647 : Int32)) % (5 : Int32))), .val (.ref wE), .val (.int (0 : Int32))] [(.int (0 : Int32)), (.int (if wE = wR ∨ wE = wS then (1 : Int32) else 0))]))) (fun t k => XS.iloadN X17.here hx rfl (hb hby at_31) rfl k) ?_
          refine own_st (V := (T17.setTop (mkF m 35 #[.val (.int p1), .val (.int ((p1 &&& (2147483647 : Int32)) % (5 : Int32))), .val (.ref wE), .val (.int (0 : Int32))] []))) (fun t k => XS.icmpNo X17.here hx rfl (hb hby at_32) rfl (XT.ii_ne_f (by simp [n_wE_wR, n_wE_wS])) k) ?_
          refine own_st (V := (T17.setTop (mkF m 36 #[.val (.int p1), .val (.int ((p1 &&& (2147483647 : Int32)) % (5 : Int32))), .val (.ref wE), .val (.int (0 : Int32))] [(.int (1 : Int32))]))) (fun t k => XS.iconst X17.here hx rfl (hb hby at_35) k) ?_
          refine own_st (V := (T17.setTop (mkF m 40 #[.val (.int p1), .val (.int ((p1 &&& (2147483647 : Int32)) % (5 : Int32))), .val (.ref wE), .val (.int (0 : Int32))] [(.int (1 : Int32))]))) (fun t k => XS.goto X17.here hx rfl (pc0 := 36) (pc' := 40) rfl (hb hby at_36) (by decide) (by decide) k) ?_
          exact own_retN X17 hx hlk (by simp) hret (hb hby at_40) (by decide) (by decide) ⟨rfl, Fr.nil _⟩
set_option maxRecDepth 65536 in
set_option maxHeartbeats 40000000 in
theorem own_law (l : Launch) (s : State) (args : Array Value) (hw : ∀ d ∈ tables_1, d.before args s = true) (hfit : Fit s) (hg : given_1.value args s none s [] = some true) (hn : narrow_1.value args s none s [] = some true) :
    OMet l s x code maxLocals ret room_1 args s.heap (fun v h L => v = some (.int 1) ∧ Fr s.heap.size L) := by
  obtain ⟨g0, g1⟩ := and_e hg
  obtain ⟨w0, rfl⟩ : ∃ w0 : Value, args = #[w0] := by
    have hs : args.size = 1 := by simpa [Cond.value, given_1] using g0
    obtain ⟨L⟩ := args
    match L, hs with
    | [w0], _ => exact ⟨w0, rfl⟩
  obtain ⟨i0, ei0⟩ := is_v g1
  obtain rfl : w0 = (.int i0) := Option.some.inj ei0
  obtain ⟨c1, hn⟩ := and_e hn
  obtain ⟨c2, hn⟩ := and_e hn
  obtain ⟨c3, hn⟩ := and_e hn
  obtain ⟨c4, hn⟩ := and_e hn
  obtain ⟨c5, hn⟩ := and_e hn
  obtain ⟨c6, hn⟩ := and_e hn
  obtain ⟨c7, hn⟩ := and_e hn
  obtain ⟨c8, hn⟩ := and_e hn
  obtain ⟨c9, c10⟩ := and_e hn
  obtain ⟨wR, v1, S1, E1⟩ := own_static c1 ((hw _ (List.mem_of_getElem? (i := 6) rfl))) ((hw _ (List.mem_of_getElem? (i := 7) rfl)))
  obtain ⟨wT, v2, S2, E2⟩ := own_static c2 ((hw _ (List.mem_of_getElem? (i := 6) rfl))) ((hw _ (List.mem_of_getElem? (i := 15) rfl)))
  obtain ⟨wS, v3, S3, E3⟩ := own_static c5 ((hw _ (List.mem_of_getElem? (i := 6) rfl))) ((hw _ (List.mem_of_getElem? (i := 17) rfl)))
  obtain ⟨wE, v4, S4, E4⟩ := own_static c7 ((hw _ (List.mem_of_getElem? (i := 6) rfl))) ((hw _ (List.mem_of_getElem? (i := 20) rfl)))
  obtain ⟨wP, v5, S5, E5⟩ := own_static c9 ((hw _ (List.mem_of_getElem? (i := 6) rfl))) ((hw _ (List.mem_of_getElem? (i := 22) rfl)))
  have oR := own_fld_int v1 c4
  have oT := own_fld_int v2 c3
  have oS := own_fld_int v3 c6
  have oE := own_fld_int v4 c8
  have oP := own_fld_int v5 c10
  exact rm0 l s _ hw i0 wR wS wP wT wE s.heap S1 S3 S5 S2 S4 E1 E3 E5 E2 E4 (oP.ne oR (by decide)) (oP.ne oS (by decide)) (oT.ne oR (by decide)) (oT.ne oS (by decide)) (oE.ne oR (by decide)) (oE.ne oS (by decide))
set_option maxRecDepth 65536 in
set_option maxHeartbeats 40000000 in
theorem comes_1 {Post : Tables → Env → Array Value → State → Outcome → State → Prop} (hpost : ∀ tb e args s v u, (limb_1_1.after args s (.returned v) u = true ∧ limb_1_2.after args s (.returned v) u = true ∧ True) → FrameEnd s (.returned v) u (Jvm.fieldLocs frame_1_writes args s ++ Jvm.arrayLocs frame_1_arrays args s ++ Jvm.staticLocs frame_1_statics s) 0 0 → Post tb e args s (.returned v) u) :
    ArmFor flags0 classFile x code maxLocals ret World_1 tables_1 room_1 Calls_1 rest_1 Pre_1 Post := by
  intro l hfl _ _ p e ha hc hk s m args below hf hA hF happ hP
  obtain ⟨hcalls, hrest, hpre⟩ := hP
  obtain ⟨-, -, -, hnamed, -, -, -, hat⟩ := (Spec.applies_iff hf).mp happ
  obtain ⟨hg, hn⟩ := and_e (Cond.before_iff.mp (show (Jvm.Cond.and given_1 narrow_1).before args s = true from hpre))
  have hw := fun d (hd : d ∈ tables_1) => atoms_spec (ws := Jvm.Cond.code x code maxLocals ret :: tables_1) hat d (List.mem_cons_of_mem _ hd)
  have hfit : Fit s := fun {y c} hc i hi => by
    obtain ⟨ha, rfl⟩ := Array.getElem?_eq_some_iff.mp hc
    have q := List.all_eq_true.mp ((Array.all_eq_true_iff_forall_mem.mp hF) _ (Array.getElem_mem ha)) i (List.mem_range.mpr hi)
    simpa [Array.getElem?_eq_getElem hi] using q
  obtain ⟨n, o, h1, h2, h3, _, L, rfl, ⟨rfl, N⟩, hq⟩ := own_law l s args hw hfit hg hn tables_1 p e ha hc hk s m _ below hf ((Spec.applies_iff_loose hf).mp happ).1 ⟨rfl, State.Warmed39.refl s, rfl⟩ trivial
  refine ⟨n, _, h1, h2, h3, hpost _ _ _ _ _ _ ⟨Cond.after_iff.mpr rfl, Cond.after_iff.mpr (eq_i res_at (Term.int_eval (1)) rfl), trivial⟩ ⟨hq.1, hq.2.1, (hq.2.2.sift fun y hy => Or.inr (N y hy)).mono (by decide) (by decide)⟩⟩
theorem main_1_1 : Claimed_1_1 := comes_1 fun _ _ _ _ _ _ h hF => ⟨h.1, hF⟩
theorem main_1_2 : Claimed_1_2 := comes_1 fun _ _ _ _ _ _ h hF => ⟨h.2.1, hF⟩
end Jvm.Pilot.@@N@@
namespace Jvm.Pilot.@@N@@
open Jvm Jvm.ClassFile Sem Op Lib Jvm.Free Jvm.Stand Jvm.Pilot.@@N@@.Jvm.D
/-! MADE BY PROGRAM (witnessworld.py) out of the Statement's table words and the real class files: 12 classes; the members and pool entries that the words name. The judged class is class 1, her method 2. -/
namespace start1
open Jvm.ClassFile
def u (s : String) : CpInfo := .utf8 (stringToUtf16 s)
/-- a pool by its gaps: so many unusable entries, then the entry; so many at the end -/
def gap : Nat → List CpInfo → List CpInfo
  | 0, r => r
  | n + 1, r => .unusable :: gap n r
def poolList (es : List (Nat × CpInfo)) (last : Nat) : List CpInfo := es.foldr (fun e r => gap e.1 (e.2 :: r)) (gap last [])
def pool (es : List (Nat × CpInfo)) (last : Nat) : Array CpInfo := ⟨poolList es last⟩
def fileOf (pool : Array CpInfo) (this : Nat) (attrs : Array Attribute := #[]) (ms : Array MethodInfo := #[]) (fl : Nat := 33) (sup : Nat := 0) (ifs : Array Nat := #[]) (fds : Array FieldInfo := #[]) : ClassFile where
  minorVersion := 0
  majorVersion := 65
  constantPool := pool
  accessFlags := fl
  thisClass := this
  superClass := sup
  interfaces := ifs
  fields := fds
  methods := ms
  attributes := attrs
def plain (name : String) (sup : Option ClassId) : Class where
  name := name
  kind := .ordinary
  loader := none
  accessFlags := 33
  super := sup
  interfaces := #[]
  cf := none
  fields := #[]
  methods := #[]
  instanceTypes := #[]
  staticTypes := #[]
  resolved := #[]
  callSites := []
  init := .initialized
  statics := none
  mirror := none

def pool0 : Array CpInfo := pool [(5, u "<init>"), (0, u "()V"), (1, .class_ 10), (1, u "java/lang/Object")] 113

def k0m0 : Method := { name := "<init>", desc := "()V", sig := { parameters := [], returnType := none }, accessFlags := 1, code := none }
/-- java/lang/Object -/
def k0 : Class := { plain "java/lang/Object" none with
  accessFlags := 33
  interfaces := #[]
  cf := some (fileOf pool0 8 #[] #[{ accessFlags := 1, nameIndex := 5, descriptorIndex := 6, attributes := #[] }] 33 0 #[] #[])
  fields := #[]
  methods := #[k0m0]
  instanceTypes := #[]
  staticTypes := #[]
  resolved := Array.replicate 124 none
  statics := none }

def pool1 : Array CpInfo := pool [(2, .class_ 4), (1, u "java/lang/Object"), (0, u "<init>"), (0, u "()V"), (0, .fieldref 8 9), (0, .class_ 10), (0, .nameAndType 11 12), (0, u "com/example/weaver_ant/weaverant/executor/PoolState"), (0, u "RUNNING"), (0, u "Lcom/example/weaver_ant/weaverant/executor/PoolState;"), (0, .fieldref 8 14), (0, .nameAndType 15 12), (0, u "SHUTDOWN"), (0, .fieldref 8 17), (0, .nameAndType 18 12), (0, u "STOP"), (0, .fieldref 8 20), (0, .nameAndType 21 12), (0, u "TIDYING"), (0, .fieldref 8 23), (0, .nameAndType 24 12), (0, u "TERMINATED"), (0, .integer 2147483647), (0, .methodref 27 28), (0, .class_ 29), (0, .nameAndType 30 31), (0, u "com/example/weaver_ant/weaverant/executor/PoolStateRunsQueuedTasksPinLaw"), (0, u "pick"), (0, u "(I)Lcom/example/weaver_ant/weaverant/executor/PoolState;"), (0, .methodref 8 33), (0, .nameAndType 34 35), (0, u "runsQueuedTasks"), (0, u "()Z"), (3, u "law"), (0, u "(I)Z")] 2

def k1m0 : Method := { name := "<init>", desc := "()V", sig := { parameters := [], returnType := none }, accessFlags := 1, code := none }
def k1c1 : Code := { maxStack := 2, maxLocals := 1, code := method_2_code, exceptionTable := #[], attributes := #[] }
def k1m1 : Method := { name := "pick", desc := "(I)Lcom/example/weaver_ant/weaverant/executor/PoolState;", sig := { parameters := [.int], returnType := some (.object "com/example/weaver_ant/weaverant/executor/PoolState") }, accessFlags := 10, code := some k1c1 }
def k1c2 : Code := { maxStack := 2, maxLocals := 4, code := code, exceptionTable := #[], attributes := #[] }
def k1m2 : Method := { name := "law", desc := "(I)Z", sig := { parameters := [.int], returnType := some .boolean }, accessFlags := 9, code := some k1c2 }
/-- com/example/weaver_ant/weaverant/executor/PoolStateRunsQueuedTasksPinLaw -/
def k1 : Class := { plain "com/example/weaver_ant/weaverant/executor/PoolStateRunsQueuedTasksPinLaw" (some 0) with
  accessFlags := 49
  interfaces := #[]
  cf := some (fileOf pool1 27 #[] #[{ accessFlags := 1, nameIndex := 5, descriptorIndex := 6, attributes := #[] }, { accessFlags := 10, nameIndex := 30, descriptorIndex := 31, attributes := #[] }, { accessFlags := 9, nameIndex := 39, descriptorIndex := 40, attributes := #[] }] 49 2 #[] #[])
  fields := #[]
  methods := #[k1m0, k1m1, k1m2]
  instanceTypes := #[]
  staticTypes := #[]
  resolved := Array.replicate 43 none
  statics := none }

def pool2 : Array CpInfo := pool [(1, .class_ 2), (0, u "java/lang/constant/Constable"), (0, .class_ 4), (0, u "java/lang/Object")] 6

/-- java/lang/constant/Constable -/
def k2 : Class := { plain "java/lang/constant/Constable" (some 0) with
  accessFlags := 1537
  interfaces := #[]
  cf := some (fileOf pool2 1 #[] #[] 1537 3 #[] #[])
  fields := #[]
  methods := #[]
  instanceTypes := #[]
  staticTypes := #[]
  resolved := Array.replicate 11 none
  statics := none }

def pool3 : Array CpInfo := pool [(1, .class_ 2), (0, u "java/lang/Comparable"), (0, .class_ 4), (0, u "java/lang/Object")] 7

/-- java/lang/Comparable -/
def k3 : Class := { plain "java/lang/Comparable" (some 0) with
  accessFlags := 1537
  interfaces := #[]
  cf := some (fileOf pool3 1 #[] #[] 1537 3 #[] #[])
  fields := #[]
  methods := #[]
  instanceTypes := #[]
  staticTypes := #[]
  resolved := Array.replicate 12 none
  statics := none }

def pool4 : Array CpInfo := pool [(1, .class_ 2), (0, u "java/io/Serializable"), (0, .class_ 4), (0, u "java/lang/Object")] 2

/-- java/io/Serializable -/
def k4 : Class := { plain "java/io/Serializable" (some 0) with
  accessFlags := 1537
  interfaces := #[]
  cf := some (fileOf pool4 1 #[] #[] 1537 3 #[] #[])
  fields := #[]
  methods := #[]
  instanceTypes := #[]
  staticTypes := #[]
  resolved := Array.replicate 7 none
  statics := none }

def pool5 : Array CpInfo := pool [(2, .class_ 4), (1, u "java/lang/Enum"), (0, u "name"), (0, u "Ljava/lang/String;"), (2, u "ordinal"), (0, u "I"), (1, .class_ 14), (1, u "java/lang/Object"), (4, u "hash"), (86, .class_ 108), (1, u "java/lang/Enum$EnumDesc"), (2, .class_ 112), (0, u "java/lang/constant/Constable"), (0, .class_ 114), (0, u "java/lang/Comparable"), (0, .class_ 116), (0, u "java/io/Serializable")] 87

/-- java/lang/Enum -/
def k5 : Class := { plain "java/lang/Enum" (some 0) with
  accessFlags := 1057
  interfaces := #[2, 3, 4]
  cf := some (fileOf pool5 2 #[.nestMembers #[106]] #[] 1057 12 #[111, 113, 115] #[{ accessFlags := 18, nameIndex := 5, descriptorIndex := 6, attributes := #[] }, { accessFlags := 18, nameIndex := 9, descriptorIndex := 10, attributes := #[] }, { accessFlags := 2, nameIndex := 19, descriptorIndex := 10, attributes := #[] }])
  fields := #[{ name := "name", type := (.object "java/lang/String"), accessFlags := 18, slot := 0, constantValue := 0 }, { name := "ordinal", type := .int, accessFlags := 18, slot := 1, constantValue := 0 }, { name := "hash", type := .int, accessFlags := 2, slot := 2, constantValue := 0 }]
  methods := #[]
  instanceTypes := #[(.object "java/lang/String"), .int, .int]
  staticTypes := #[]
  resolved := Array.replicate 204 none
  statics := none }

def pool6 : Array CpInfo := pool [(1, .class_ 2), (0, u "com/example/weaver_ant/weaverant/executor/PoolState"), (0, .fieldref 1 4), (0, .nameAndType 5 6), (0, u "RUNNING"), (0, u "Lcom/example/weaver_ant/weaverant/executor/PoolState;"), (0, .fieldref 1 8), (0, .nameAndType 9 6), (0, u "SHUTDOWN"), (2, u "STOP"), (2, u "TIDYING"), (2, u "TERMINATED"), (2, u "$VALUES"), (0, u "[Lcom/example/weaver_ant/weaverant/executor/PoolState;"), (6, .class_ 31), (1, u "java/lang/Enum"), (28, u "()Z"), (1, u "runsQueuedTasks")] 6

def k6c0 : Code := { maxStack := 2, maxLocals := 1, code := prog_11_method_5_code, exceptionTable := #[], attributes := #[] }
def k6m0 : Method := { name := "runsQueuedTasks", desc := "()Z", sig := { parameters := [], returnType := some .boolean }, accessFlags := 1, code := some k6c0 }
/-- com/example/weaver_ant/weaverant/executor/PoolState -/
def k6 : Class := { plain "com/example/weaver_ant/weaverant/executor/PoolState" (some 5) with
  accessFlags := 16433
  interfaces := #[]
  cf := some (fileOf pool6 1 #[] #[{ accessFlags := 1, nameIndex := 62, descriptorIndex := 60, attributes := #[] }] 16433 29 #[] #[{ accessFlags := 16409, nameIndex := 5, descriptorIndex := 6, attributes := #[] }, { accessFlags := 16409, nameIndex := 9, descriptorIndex := 6, attributes := #[] }, { accessFlags := 16409, nameIndex := 12, descriptorIndex := 6, attributes := #[] }, { accessFlags := 16409, nameIndex := 15, descriptorIndex := 6, attributes := #[] }, { accessFlags := 16409, nameIndex := 18, descriptorIndex := 6, attributes := #[] }, { accessFlags := 4122, nameIndex := 21, descriptorIndex := 22, attributes := #[] }])
  fields := #[{ name := "RUNNING", type := (.object "com/example/weaver_ant/weaverant/executor/PoolState"), accessFlags := 16409, slot := 0, constantValue := 0 }, { name := "SHUTDOWN", type := (.object "com/example/weaver_ant/weaverant/executor/PoolState"), accessFlags := 16409, slot := 1, constantValue := 0 }, { name := "STOP", type := (.object "com/example/weaver_ant/weaverant/executor/PoolState"), accessFlags := 16409, slot := 2, constantValue := 0 }, { name := "TIDYING", type := (.object "com/example/weaver_ant/weaverant/executor/PoolState"), accessFlags := 16409, slot := 3, constantValue := 0 }, { name := "TERMINATED", type := (.object "com/example/weaver_ant/weaverant/executor/PoolState"), accessFlags := 16409, slot := 4, constantValue := 0 }, { name := "$VALUES", type := (.array (.object "com/example/weaver_ant/weaverant/executor/PoolState")), accessFlags := 4122, slot := 5, constantValue := 0 }]
  methods := #[k6m0]
  instanceTypes := #[(.object "java/lang/String"), .int, .int]
  staticTypes := #[(.object "com/example/weaver_ant/weaverant/executor/PoolState"), (.object "com/example/weaver_ant/weaverant/executor/PoolState"), (.object "com/example/weaver_ant/weaverant/executor/PoolState"), (.object "com/example/weaver_ant/weaverant/executor/PoolState"), (.object "com/example/weaver_ant/weaverant/executor/PoolState"), (.array (.object "com/example/weaver_ant/weaverant/executor/PoolState"))]
  resolved := Array.replicate 69 none
  statics := some 0 }

def pool7 : Array CpInfo := pool [(1, u "java/lang/Cloneable"), (0, .class_ 1), (0, u "java/lang/Object"), (0, .class_ 3)] 3

/-- java/lang/Cloneable -/
def k7 : Class := { plain "java/lang/Cloneable" (some 0) with
  accessFlags := 1537
  interfaces := #[]
  cf := some (fileOf pool7 2 #[] #[] 1537 4 #[] #[])
  fields := #[]
  methods := #[]
  instanceTypes := #[]
  staticTypes := #[]
  resolved := Array.replicate 8 none
  statics := none }

/-- the primitive byte -/
def k8 : Class := { plain "byte" none with kind := .primitive 'B', accessFlags := 0x411 }
/-- [B -/
def k9 : Class := { plain "[B" (some 0) with kind := .array 8 .byte, interfaces := #[7, 4], accessFlags := 1041 }

/-- the primitive int -/
def k10 : Class := { plain "int" none with kind := .primitive 'I', accessFlags := 0x411 }
/-- [I -/
def k11 : Class := { plain "[I" (some 0) with kind := .array 10 .int, interfaces := #[7, 4], accessFlags := 1041 }

def heap : Heap := #[{ cls := 6, slots := #[.ref 1, .ref 2, .ref 3, .ref 4, .ref 5, .null], vm := .statics 6 },
  { cls := 6, slots := #[.null, .int 0, .int 0], vm := .none },
  { cls := 6, slots := #[.null, .int 1, .int 0], vm := .none },
  { cls := 6, slots := #[.null, .int 2, .int 0], vm := .none },
  { cls := 6, slots := #[.null, .int 3, .int 0], vm := .none },
  { cls := 6, slots := #[.null, .int 4, .int 0], vm := .none }]
def classes : Array Class := #[k0, k1, k2, k3, k4, k5, k6, k7, k8, k9, k10, k11]
def interned : List (Array UInt16 × Addr) := []
def slotsUsed : Nat := 21
def theMethod : MethodId := ⟨1, 2⟩
def args0 : Array Value := #[.int 5]
def aboutOver (below : List Frame) : State where
  vm := { classes := classes, interned := interned.toArray }
  heap := heap
  slotsUsed := slotsUsed
  threads := #[{ frames := .invoking theMethod args0 :: below }]
def below0 : List Frame := [.native { method := ⟨0, 0⟩, args := #[] }]
def about1 : State := aboutOver below0
def p0 : Program := .bare "" "" ""
def e0 : Env := launch0.env 0 0 0
theorem w_frames : about1.frames = Frame.invoking theMethod args0 :: below0 := rfl
set_option maxRecDepth 65536 in
theorem w_args : argsFit about1.vm theMethod args0 = true := by decide +kernel
set_option maxRecDepth 65536 in
theorem w_heap : heapFits about1 = true := by decide +kernel
set_option maxRecDepth 65536 in
theorem w_runnable : about1.curStatus? = some .runnable := by decide +kernel
set_option maxRecDepth 65536 in
theorem w_alone : about1.alone = true := by decide +kernel
set_option maxRecDepth 65536 in
theorem w_named : about1.methodNamed? x = some theMethod := by decide +kernel
set_option maxRecDepth 65536 in
theorem w_hears : about1.hears theMethod below0 = true := by decide +kernel
set_option maxRecDepth 65536 in
theorem w_ripe : about1.ripe theMethod args0 below0 = true := by decide +kernel
theorem w_running : about1.status = .running := rfl
set_option maxRecDepth 65536 in
theorem w_room : about1.hasRoom e0.platform room_1 = true :=
  launch0.hasRoom_least _ room_1 (by decide +kernel) (by decide +kernel) (by decide +kernel) (by decide +kernel) (by decide +kernel) (by decide +kernel)
theorem allAtoms_all (ts : List Jvm.Cond) (a : Array Jvm.Value) (st : Jvm.State) : (allAtoms ts).before a st = ts.all (fun c => c.before a st) := by
  induction ts with
  | nil => rfl
  | cons c t ih =>
    show (Jvm.Cond.and c (allAtoms t)).before a st = _
    rw [Jvm.Cond.before_and, ih, List.all_cons]
def words1 : List Jvm.Cond := Jvm.Cond.code x code maxLocals ret :: tables_1
/-- a 'code' word, met by the world's own term for the bytes: nothing is compared byte by byte -/
theorem code_word {y : MethodName} {bytes : ByteArray} {mx : Nat} {rt : Option FieldType} {a : Array Value} {s : State} {m : MethodId} {meth : Method} {c : Code} (h1 : s.methodNamed? y = some m) (h2 : s.vm.method? m = some meth) (h3 : meth.code = some c) (h4 : c.code = bytes)
    (h5 : (c.maxLocals == mx && c.exceptionTable.isEmpty && decide (c.maxStack ≤ mostOperands) && decide (meth.sig.returnType = rt) && !meth.locks && decide (parseMethodDescriptor y.desc = some meth.sig)) = true) : (Jvm.Cond.code y bytes mx rt).before a s = true := by
  simp only [Bool.and_eq_true, beq_iff_eq, Bool.not_eq_true', decide_eq_true_eq] at h5
  obtain ⟨⟨⟨⟨⟨g1, g2⟩, g3⟩, g4⟩, g5⟩, g6⟩ := h5
  simp [Cond.before, Cond.holds, Cond.value, h1, h2, h3, h4, g1, g2, g3, g4, g5, g6]
def isCode : Jvm.Cond → Bool
  | .code _ _ _ _ => true
  | _ => false
theorem all_split {L : List Jvm.Cond} {P : Jvm.Cond → Bool} (h1 : L.all (fun c => isCode c || P c) = true) (h2 : ∀ c ∈ L.filter isCode, P c = true) : L.all P = true := by
  refine List.all_eq_true.mpr fun c hc => ?_
  have h := List.all_eq_true.mp h1 c hc
  rcases Bool.eq_false_or_eq_true (isCode c) with hi | hi
  · exact h2 c (List.mem_filter.mpr ⟨hc, hi⟩)
  · simpa [hi] using h
set_option maxRecDepth 65536 in
theorem w_c0 : (Jvm.Cond.code x code maxLocals ret).before args0 about1 = true := code_word (m := ⟨1, 2⟩) (meth := k1m2) (c := k1c2) (by decide +kernel) rfl rfl rfl (by decide +kernel)
set_option maxRecDepth 65536 in
theorem w_c1 : (Jvm.Cond.code ({ cls := "com/example/weaver_ant/weaverant/executor/PoolStateRunsQueuedTasksPinLaw", name := "pick", desc := "(I)Lcom/example/weaver_ant/weaverant/executor/PoolState;" } : Jvm.MethodName) method_2_code (1 : Nat) (Option.some (Jvm.ClassFile.FieldType.object "com/example/weaver_ant/weaverant/executor/PoolState"))).before args0 about1 = true := code_word (m := ⟨1, 1⟩) (meth := k1m1) (c := k1c1) (by decide +kernel) rfl rfl rfl (by decide +kernel)
set_option maxRecDepth 65536 in
theorem w_c2 : (Jvm.Cond.code ({ cls := "com/example/weaver_ant/weaverant/executor/PoolState", name := "runsQueuedTasks", desc := "()Z" } : Jvm.MethodName) prog_11_method_5_code (1 : Nat) (Option.some Jvm.ClassFile.FieldType.boolean)).before args0 about1 = true := code_word (m := ⟨6, 0⟩) (meth := k6m0) (c := k6c0) (by decide +kernel) rfl rfl rfl (by decide +kernel)
def codes1 : List Jvm.Cond := [Jvm.Cond.code x code maxLocals ret, Jvm.Cond.code ({ cls := "com/example/weaver_ant/weaverant/executor/PoolStateRunsQueuedTasksPinLaw", name := "pick", desc := "(I)Lcom/example/weaver_ant/weaverant/executor/PoolState;" } : Jvm.MethodName) method_2_code (1 : Nat) (Option.some (Jvm.ClassFile.FieldType.object "com/example/weaver_ant/weaverant/executor/PoolState")), Jvm.Cond.code ({ cls := "com/example/weaver_ant/weaverant/executor/PoolState", name := "runsQueuedTasks", desc := "()Z" } : Jvm.MethodName) prog_11_method_5_code (1 : Nat) (Option.some Jvm.ClassFile.FieldType.boolean)]
set_option maxRecDepth 65536 in
theorem codes_eq : words1.filter isCode = codes1 := rfl
theorem w_codes : ∀ c ∈ words1.filter isCode, c.before args0 about1 = true := by
  rw [codes_eq]
  intro c hc
  simp only [codes1, List.mem_cons, List.not_mem_nil, or_false] at hc
  rcases hc with rfl | rfl | rfl
  · exact w_c0
  · exact w_c1
  · exact w_c2
set_option maxRecDepth 65536 in
theorem w_t1 : words1.all (fun c => isCode c || c.before args0 about1) = true := by decide +kernel
theorem w_tables : (allAtoms (Jvm.Cond.code x code maxLocals ret :: tables_1)).before args0 about1 = true := by
  rw [allAtoms_all]
  show words1.all (fun c => c.before args0 about1) = true
  refine all_split ?_ w_codes
  rw [w_t1]
set_option maxRecDepth 65536 in
theorem w_case : (Jvm.Cond.and given_1 narrow_1).before args0 about1 = true := by decide +kernel
theorem w_applies : (headSpec (Jvm.Cond.code x code maxLocals ret :: tables_1) room_1).applies x e0.platform about1 = true :=
  (Spec.applies_iff w_frames).mpr ⟨w_running, w_runnable, w_alone, w_named, w_hears, w_ripe, w_room, w_tables⟩
theorem atStart : AtStart classFile x code maxLocals ret World_1 tables_1 room_1 Calls_1 rest_1 Pre_1 launch0 p0 e0 about1 theMethod args0 below0 :=
  ⟨lists_1, trivial, launch0.admits_env _ _ _, launch0.least_env, fairChoices_fair.cas, fairChoices_fair.clock, w_frames, w_args, w_heap, w_applies, trivial, trivial, w_case⟩
end start1
theorem witness_1 : WitnessClaimed_1 := ⟨start1.p0, start1.e0, start1.about1, start1.theMethod, start1.args0, start1.below0, start1.atStart⟩
end Jvm.Pilot.@@N@@
