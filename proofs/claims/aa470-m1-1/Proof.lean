import JvmDerived
import JvmDerived.Pilot.@@N@@Statement
import JvmDerived.Pilot.@@N@@Code
set_option linter.unusedVariables false
set_option linter.unusedSimpArgs false
namespace Jvm.Pilot.@@N@@
open Jvm Jvm.ClassFile Sem Op Lib Jvm.Free Jvm.Stand Jvm.LawKit Jvm.RoadKit Bundle Jvm.Pilot.@@N@@.Jvm.D
section OwnKit
variable {p : Program} {l : Launch} {e : Env} {R : Room} {s : State} {m : MethodId} {args : Array Value} {below : List Frame} {meth : Method} {c : Code} {T : State} {locs : List Loc} {cells slots : Nat} {Z : State} {a0 : Array Value} {h : Heap} {Φ : State → Prop}
/-- from here the run comes to an end of which Φ holds -/
def OGoes (tb : Tables) (e : Env) (below : List Frame) (Φ : State → Prop) (U : State) : Prop := ∃ t, Steps tb e below U t ∧ Φ t
theorem own_st {tb : Tables} {U V : State} (h : ∀ t, Steps tb e below V t → Steps tb e below U t) (k : OGoes tb e below Φ V) : OGoes tb e below Φ U := by
  obtain ⟨t, h1, h2⟩ := k
  exact ⟨t, h t h1, h2⟩
theorem own_tr {tb : Tables} {U V : State} (h : Steps tb e below U V) (k : OGoes tb e below Φ V) : OGoes tb e below Φ U := by
  obtain ⟨t, h1, h2⟩ := k
  exact ⟨t, h.trans h1, h2⟩
theorem own_cast {tb : Tables} {g g' : JFrame} (q : g = g') (k : OGoes tb e below Φ (T.setTop g')) : OGoes tb e below Φ (T.setTop g) := q ▸ k
def ODone (rm : Room) (s : State) (below : List Frame) (Q : Option Value → Heap → List Loc → Prop) (t : State) : Prop :=
  ∃ o, t.status = .running ∧ Ended t below o ∧ ∃ v L, o = .returned v ∧ Q v t.heap L ∧ FrameEnd s o t L rm.cells rm.slots
/-- a method's contract -/
def OMet (l : Launch) (Z : State) (y : MethodName) (bytes : ByteArray) (ml : Nat) (ret : Option FieldType) (rm : Room) (as : Array Value) (h0 : Heap) (Q : Option Value → Heap → List Loc → Prop) : Prop :=
  ∀ ws, MetFree l y (head1 (Jvm.Cond.code y bytes ml ret :: ws) rm) (fun a U => a = as ∧ Z.Warmed39 U.vm ∧ U.heap = h0) (fun _ _ _ _ _ => True)
    (fun _ U o U' => ∃ v L, o = .returned v ∧ Q v U'.heap L ∧ FrameEnd U o U' L rm.cells rm.slots)
/-- .. of one that writes and makes nothing -/
abbrev OPure (l : Launch) (Z : State) (y : MethodName) (bytes : ByteArray) (ml : Nat) (ret : Option FieldType) (fr lo : Nat) (as : Array Value) (h0 : Heap) (v : Option Value) : Prop :=
  OMet l Z y bytes ml ret ⟨fr, 0, 0, lo⟩ as h0 (fun v' h' L' => v' = v ∧ h' = h0 ∧ L' = [])
theorem own_body {y : MethodName} {bytes : ByteArray} {ml : Nat} {ret : Option FieldType} {rm : Room} {as : Array Value} {h0 : Heap} {Q : Option Value → Heap → List Loc → Prop} (hpn : plainName y.cls = true)
    (body : ∀ (p : Program) (e : Env) (s : State) (m : MethodId) (below : List Frame) (meth : Method) (c : Code) (T : State), Stand p l e rm s m as below meth c T [] 0 0 → p.tables.exec = Jvm.exec → c.code = bytes → c.maxLocals = ml → Z.Warmed39 s.vm → s.vm.findClass y.cls = some m.cls → meth.name = y.name → meth.sig.returnType = ret → meth.locks = false → T.heap = h0 →
      OGoes p.tables e below (ODone rm s below Q) (T.setTop (entryFrame m as ml))) : OMet l Z y bytes ml ret rm as h0 Q := by
  intro ws
  refine MetFree.of_bodySF (plainFor_of_name hpn) hisR ?_
  intro p e s m args below meth c s₁ Bd hml0 hP hK
  obtain ⟨rfl, hZ, hh⟩ := hP
  obtain ⟨t, h1, o, h2, h3, h4⟩ := body p e s m below meth c s₁ (Stand.of_body Bd) Bd.exec Bd.bytes hml0 hZ (findClass_of_methodNamed Bd.named) (name_of_methodNamed Bd.named Bd.method).1 Bd.returns Bd.notSynchronized (by rw [← hh, Bd.state]; rfl)
  exact ⟨t, o, h1, h2, h3, h4⟩
/-! the returns -/
theorem own_leave (X : Stand p l e R s m args below meth c T locs cells slots) (hlk : meth.locks = false) {v : Option Value} (hv : meth.sig.returnType = none → v = none) {rm : Room} {Q : Option Value → Heap → List Loc → Prop} (hc : cells ≤ rm.cells) (hs : slots ≤ rm.slots) (hQ : Q v T.heap locs) {U : State}
    (hstep : ∀ fs, (∀ (f : JFrame) (acts : List Action), f.method = m → f.locked = none → f.entered = [] → (doReturn e (T.setTop f) acts v).1 = T.setFrames fs) → Steps p.tables e below U (T.setFrames fs)) : OGoes p.tables e below (ODone rm s below Q) U := by
  obtain ⟨fs, hr, hrun, hended, hW, hsame⟩ := X.leave (v := v) hv hlk
  exact ⟨_, hstep fs hr, _, hrun, hended, v, locs, rfl, hQ, ⟨_, rfl⟩, hW, hsame.mono hc hs⟩
theorem own_retI (X : Stand p l e R s m args below meth c T locs cells slots) (hx : p.tables.exec = Jvm.exec) (hlk : meth.locks = false) (hret : meth.sig.returnType = some .int) {pc : Nat} {Ls : Array Slot} {z : Int32} {rest : List Value} (hd : decode c.code pc = .ok (.ireturn, 1))
    {rm : Room} {Q : Option Value → Heap → List Loc → Prop} (hc : cells ≤ rm.cells) (hs : slots ≤ rm.slots) (hQ : Q (some (.int z)) T.heap locs) : OGoes p.tables e below (ODone rm s below Q) (T.setTop (mkF m pc Ls (.int z :: rest))) :=
  own_leave X hlk (fun h => by rw [hret] at h; cases h) hc hs hQ fun fs hr => retOut X hx hret rfl (Or.inl ⟨rfl, Or.inl rfl, z, rfl⟩) hd hr
theorem own_retN (X : Stand p l e R s m args below meth c T locs cells slots) (hx : p.tables.exec = Jvm.exec) (hlk : meth.locks = false) {t : FieldType} (ht : t = .boolean ∨ t = .byte ∨ t = .char ∨ t = .short) (hret : meth.sig.returnType = some t) {pc : Nat} {Ls : Array Slot} {z : Int32} {rest : List Value} (hd : decode c.code pc = .ok (.ireturn, 1))
    {rm : Room} {Q : Option Value → Heap → List Loc → Prop} (hc : cells ≤ rm.cells) (hs : slots ≤ rm.slots) (hQ : Q (some (.int (nar t z))) T.heap locs) : OGoes p.tables e below (ODone rm s below Q) (T.setTop (mkF m pc Ls (.int z :: rest))) :=
  own_leave X hlk (fun h => by rw [hret] at h; cases h) hc hs hQ fun fs hr => retN X hx hret ht hd hr
theorem own_retJ (X : Stand p l e R s m args below meth c T locs cells slots) (hx : p.tables.exec = Jvm.exec) (hlk : meth.locks = false) (hret : meth.sig.returnType = some .long) {pc : Nat} {Ls : Array Slot} {z : Int64} {rest : List Value} (hd : decode c.code pc = .ok (.lreturn, 1))
    {rm : Room} {Q : Option Value → Heap → List Loc → Prop} (hc : cells ≤ rm.cells) (hs : slots ≤ rm.slots) (hQ : Q (some (.long z)) T.heap locs) : OGoes p.tables e below (ODone rm s below Q) (T.setTop (mkF m pc Ls (.long z :: rest))) :=
  own_leave X hlk (fun h => by rw [hret] at h; cases h) hc hs hQ fun fs hr => retOut X hx hret rfl (Or.inr (Or.inl ⟨rfl, rfl, z, rfl⟩)) hd hr
theorem own_retA (X : Stand p l e R s m args below meth c T locs cells slots) (hx : p.tables.exec = Jvm.exec) (hlk : meth.locks = false) {t : FieldType} (ht : t.isReference = true) (hret : meth.sig.returnType = some t) {pc : Nat} {Ls : Array Slot} {w : Value} {rest : List Value} (hw : w.isRef = true) (hd : decode c.code pc = .ok (.areturn, 1))
    {rm : Room} {Q : Option Value → Heap → List Loc → Prop} (hc : cells ≤ rm.cells) (hs : slots ≤ rm.slots) (hQ : Q (some w) T.heap locs) : OGoes p.tables e below (ODone rm s below Q) (T.setTop (mkF m pc Ls (w :: rest))) :=
  own_leave X hlk (fun h => by rw [hret] at h; cases h) hc hs hQ fun fs hr => retOut X hx hret (by cases t <;> first | (cases ht; done) | (cases w <;> first | rfl | (cases hw; done))) (Or.inr (Or.inr (Or.inr (Or.inr ⟨rfl, ht, hw⟩)))) hd hr
theorem own_retV (X : Stand p l e R s m args below meth c T locs cells slots) (hx : p.tables.exec = Jvm.exec) (hlk : meth.locks = false) (hret : meth.sig.returnType = none) {pc : Nat} {Ls : Array Slot} (hd : decode c.code pc = .ok (.return_, 1))
    {rm : Room} {Q : Option Value → Heap → List Loc → Prop} (hc : cells ≤ rm.cells) (hs : slots ≤ rm.slots) (hQ : Q none T.heap locs) : OGoes p.tables e below (ODone rm s below Q) (T.setTop (mkF m pc Ls [])) :=
  own_leave X hlk (fun _ => rfl) hc hs hQ fun fs hr => X.returnOut hx hret hd hr
/-! the calls -/
theorem own_callS (X : Stand p l e R s m args below meth c T locs cells slots) (hx : p.tables.exec = Jvm.exec) (hZ : Z.Warmed39 s.vm) {own : String} {index : Nat} {y : MethodName} {bytes : ByteArray} {ml : Nat} {ret : Option FieldType} {rm : Room} {as : Array Value} {Q : Option Value → Heap → List Loc → Prop}
    (hown : s.vm.findClass own = some m.cls) (w1 : (Jvm.Cond.methodLink own index y).before a0 Z = true) (w2 : (Jvm.Cond.static y).before a0 Z = true) (w3 : (Jvm.Cond.initialized y.cls).before a0 Z = true) (w4 : (Jvm.Cond.code y bytes ml ret).before a0 Z = true) (hy : y.cls ≠ "java/lang/invoke/MethodHandle" ∧ y.cls ≠ "java/lang/invoke/VarHandle")
    (hM : OMet l Z y bytes ml ret rm as h Q) (eT : T.heap = h) {pc : Nat} {Ls : Array Slot} {st : List Value} (hsz : Ls.size = c.maxLocals) {argsL rest : List Value} {sig : MethodDescriptor} (hp : parseMethodDescriptor y.desc = some sig) (hn : argsL.length = sig.parameters.length) (has : argsL.toArray = as) (hst : st = argsL.reverse ++ rest)
    {W : Nat} (hW : (rest.map fun v => v.category).sum ≤ W) (hd : decode c.code pc = .ok (.invokestatic index, 3)) (hf : rm.frames + 1 ≤ R.frames) (hl : W + (ml + 11) + rm.locals ≤ R.locals) (hc : cells + rm.cells ≤ R.cells) (hs : slots + rm.slots ≤ R.slots)
    (k : ∀ (v : Option Value) (T' : State) (L' : List Loc), Stand p l e R s m args below meth c T' (locs ++ L') (cells + rm.cells) (slots + rm.slots) → Q v T'.heap L' → OGoes p.tables e below Φ (T'.setTop (mkF m (pc + 3) Ls (v.toList ++ rest)))) : OGoes p.tables e below Φ (T.setTop (mkF m pc Ls st)) := by
  obtain ⟨v, vm1, ⟨T', L, kk, nn⟩, -, X', ⟨Lc, hQ, l1, l2, l3⟩, st'⟩ := Jvm.LawKit.callS X hx (y := y) hown (mvT hZ w1) (mvT hZ w2) (mvT hZ w3) (mvT hZ w4) hy (backOf (W := W) (hM []) hZ w4 w3 hf hl) (g := mkF m pc Ls st) rfl hsz (argsL := argsL) (rest := rest) (fun sg h => by cases hp.symm.trans h; exact hn) hst (by show 2 * 0 + _ ≤ _; omega) hd (fun _ _ => ⟨has, eT, hc, hs⟩)
  dsimp only [Pt.U, Pt.locs, Pt.cells, Pt.slots] at X' l1 l2 l3 st' hQ
  subst l1 l2 l3
  exact own_st st' (k v T' Lc X' hQ)
theorem own_callV (X : Stand p l e R s m args below meth c T locs cells slots) (hx : p.tables.exec = Jvm.exec) (hZ : Z.Warmed39 s.vm) {own C : String} {index : Nat} {y : MethodName} {bytes : ByteArray} {ml : Nat} {ret : Option FieldType} {rm : Room} {as : Array Value} {Q : Option Value → Heap → List Loc → Prop}
    (hown : s.vm.findClass own = some m.cls) (w1 : (Jvm.Cond.methodLink own index y).before a0 Z = true) (w2 : (Jvm.Cond.declares y).before a0 Z = true) (w3 : (Jvm.Cond.selects C y y).before a0 Z = true) (w4 : (Jvm.Cond.instanceMethod y).before a0 Z = true) (w5 : (Jvm.Cond.initialized y.cls).before a0 Z = true) (w6 : (Jvm.Cond.code y bytes ml ret).before a0 Z = true) (hy : y.cls ≠ "java/lang/invoke/MethodHandle" ∧ y.cls ≠ "java/lang/invoke/VarHandle")
    (hM : OMet l Z y bytes ml ret rm as h Q) (eT : T.heap = h) {b : Addr} (E : Exa Z h b C) {pc : Nat} {Ls : Array Slot} {st : List Value} (hsz : Ls.size = c.maxLocals) {argsL rest : List Value} {sig : MethodDescriptor} (hp : parseMethodDescriptor y.desc = some sig) (hn : argsL.length = sig.parameters.length) (has : (.ref b :: argsL).toArray = as) (hst : st = argsL.reverse ++ .ref b :: rest)
    {W : Nat} (hW : (rest.map fun v => v.category).sum ≤ W) (hd : decode c.code pc = .ok (.invokevirtual index, 3)) (hf : rm.frames + 1 ≤ R.frames) (hl : W + (ml + 11) + rm.locals ≤ R.locals) (hc : cells + rm.cells ≤ R.cells) (hs : slots + rm.slots ≤ R.slots)
    (k : ∀ (v : Option Value) (T' : State) (L' : List Loc), Stand p l e R s m args below meth c T' (locs ++ L') (cells + rm.cells) (slots + rm.slots) → Q v T'.heap L' → OGoes p.tables e below Φ (T'.setTop (mkF m (pc + 3) Ls (v.toList ++ rest)))) : OGoes p.tables e below Φ (T.setTop (mkF m pc Ls st)) := by
  obtain ⟨cq, kq, qa, qb, qc⟩ := isOf hZ eT E
  obtain ⟨v, vm1, ⟨T', L, kk, nn⟩, -, X', ⟨Lc, hQ, l1, l2, l3⟩, st'⟩ := X.virtualBack hx (y := y) (z := y) hown (mvT hZ w1) (mvT hZ w2) (notFace_of_selects (args := #[]) (mvT hZ w3)) (mvT hZ w3) (mvT hZ w4) hy (backOf (W := W) (hM []) hZ w6 w5 hf hl) qa qc (g := mkF m pc Ls st) rfl hsz (Steps.refl _) (argsL := argsL) (rest := rest) (fun sg h => by cases hp.symm.trans h; exact hn) hst (by show 2 * 0 + _ ≤ _; omega) hd (fun _ _ => ⟨has, eT, hc, hs⟩)
  dsimp only [Pt.U, Pt.locs, Pt.cells, Pt.slots] at X' l1 l2 l3 st' hQ
  subst l1 l2 l3
  exact own_tr st' (k v T' Lc X' hQ)
theorem own_callN (X : Stand p l e R s m args below meth c T locs cells slots) (hx : p.tables.exec = Jvm.exec) (hZ : Z.Warmed39 s.vm) {own : String} {index : Nat} {y : MethodName} {bytes : ByteArray} {ml : Nat} {rm : Room} {as : Array Value} {Q : Option Value → Heap → List Loc → Prop} (hy1 : y.name = "<init>")
    (hown : s.vm.findClass own = some m.cls) (w1 : (Jvm.Cond.methodLink own index y).before a0 Z = true) (w4 : (Jvm.Cond.instanceMethod y).before a0 Z = true) (w5 : (Jvm.Cond.initialized y.cls).before a0 Z = true) (w6 : (Jvm.Cond.code y bytes ml none).before a0 Z = true) (hy : y.cls ≠ "java/lang/invoke/MethodHandle" ∧ y.cls ≠ "java/lang/invoke/VarHandle")
    (hM : OMet l Z y bytes ml none rm as h Q) (eT : T.heap = h) {b : Addr} {pc : Nat} {Ls : Array Slot} {st : List Value} (hsz : Ls.size = c.maxLocals) {argsL rest : List Value} {sig : MethodDescriptor} (hp : parseMethodDescriptor y.desc = some sig) (hn : argsL.length = sig.parameters.length) (has : (.ref b :: argsL).toArray = as) (hst : st = argsL.reverse ++ .ref b :: rest)
    {W : Nat} (hW : (rest.map fun v => v.category).sum ≤ W) (hd : decode c.code pc = .ok (.invokespecial index, 3)) (hf : rm.frames + 1 ≤ R.frames) (hl : W + (ml + 11) + rm.locals ≤ R.locals) (hc : cells + rm.cells ≤ R.cells) (hs : slots + rm.slots ≤ R.slots)
    (k : ∀ (v : Option Value) (T' : State) (L' : List Loc), Stand p l e R s m args below meth c T' (locs ++ L') (cells + rm.cells) (slots + rm.slots) → Q v T'.heap L' → OGoes p.tables e below Φ (T'.setTop (mkF m (pc + 3) Ls (v.toList ++ rest)))) : OGoes p.tables e below Φ (T.setTop (mkF m pc Ls st)) := by
  obtain ⟨v, vm1, ⟨T', L, kk, nn⟩, -, X', ⟨Lc, hQ, l1, l2, l3⟩, st'⟩ := X.specialBack hx (y := y) hy1 hown (mvT hZ w1) (mvT hZ w4) (mvT hZ w6) hy (backOf (W := W) (hM []) hZ w6 w5 hf hl) (g := mkF m pc Ls st) rfl hsz (Steps.refl _) (a := b) (argsL := argsL) (rest := rest) (fun sg h => by cases hp.symm.trans h; exact hn) hst (by show 2 * 0 + _ ≤ _; omega) hd (fun _ _ => ⟨has, eT, hc, hs⟩)
  dsimp only [Pt.U, Pt.locs, Pt.cells, Pt.slots] at X' l1 l2 l3 st' hQ
  subst l1 l2 l3
  exact own_tr st' (k v T' Lc X' hQ)
theorem own_callS0 (X : Stand p l e R s m args below meth c T locs cells slots) (hx : p.tables.exec = Jvm.exec) (hZ : Z.Warmed39 s.vm) {own : String} {index : Nat} {y : MethodName} {bytes : ByteArray} {ml : Nat} {ret : Option FieldType} {fr lo : Nat} {as : Array Value} {v : Option Value}
    (hown : s.vm.findClass own = some m.cls) (w1 : (Jvm.Cond.methodLink own index y).before a0 Z = true) (w2 : (Jvm.Cond.static y).before a0 Z = true) (w3 : (Jvm.Cond.initialized y.cls).before a0 Z = true) (w4 : (Jvm.Cond.code y bytes ml ret).before a0 Z = true) (hy : y.cls ≠ "java/lang/invoke/MethodHandle" ∧ y.cls ≠ "java/lang/invoke/VarHandle")
    (hM : OPure l Z y bytes ml ret fr lo as h v) (eT : T.heap = h) {pc : Nat} {Ls : Array Slot} {st : List Value} (hsz : Ls.size = c.maxLocals) {argsL rest : List Value} {sig : MethodDescriptor} (hp : parseMethodDescriptor y.desc = some sig) (hn : argsL.length = sig.parameters.length) (has : argsL.toArray = as) (hst : st = argsL.reverse ++ rest)
    {W : Nat} (hW : (rest.map fun v => v.category).sum ≤ W) (hd : decode c.code pc = .ok (.invokestatic index, 3)) (hf : fr + 1 ≤ R.frames) (hl : W + (ml + 11) + lo ≤ R.locals) (hc : cells ≤ R.cells) (hs : slots ≤ R.slots)
    (k : ∀ (T' : State), Stand p l e R s m args below meth c T' locs cells slots → T'.heap = h → OGoes p.tables e below Φ (T'.setTop (mkF m (pc + 3) Ls (v.toList ++ rest)))) : OGoes p.tables e below Φ (T.setTop (mkF m pc Ls st)) := by
  refine own_callS X hx hZ hown w1 w2 w3 w4 hy hM eT hsz hp hn has hst hW hd hf hl hc hs ?_
  rintro v' T' L' X' ⟨rfl, e', rfl⟩
  rw [List.append_nil] at X'
  exact k T' X' e'
theorem own_callV0 (X : Stand p l e R s m args below meth c T locs cells slots) (hx : p.tables.exec = Jvm.exec) (hZ : Z.Warmed39 s.vm) {own C : String} {index : Nat} {y : MethodName} {bytes : ByteArray} {ml : Nat} {ret : Option FieldType} {fr lo : Nat} {as : Array Value} {v : Option Value}
    (hown : s.vm.findClass own = some m.cls) (w1 : (Jvm.Cond.methodLink own index y).before a0 Z = true) (w2 : (Jvm.Cond.declares y).before a0 Z = true) (w3 : (Jvm.Cond.selects C y y).before a0 Z = true) (w4 : (Jvm.Cond.instanceMethod y).before a0 Z = true) (w5 : (Jvm.Cond.initialized y.cls).before a0 Z = true) (w6 : (Jvm.Cond.code y bytes ml ret).before a0 Z = true) (hy : y.cls ≠ "java/lang/invoke/MethodHandle" ∧ y.cls ≠ "java/lang/invoke/VarHandle")
    (hM : OPure l Z y bytes ml ret fr lo as h v) (eT : T.heap = h) {b : Addr} (E : Exa Z h b C) {pc : Nat} {Ls : Array Slot} {st : List Value} (hsz : Ls.size = c.maxLocals) {argsL rest : List Value} {sig : MethodDescriptor} (hp : parseMethodDescriptor y.desc = some sig) (hn : argsL.length = sig.parameters.length) (has : (.ref b :: argsL).toArray = as) (hst : st = argsL.reverse ++ .ref b :: rest)
    {W : Nat} (hW : (rest.map fun v => v.category).sum ≤ W) (hd : decode c.code pc = .ok (.invokevirtual index, 3)) (hf : fr + 1 ≤ R.frames) (hl : W + (ml + 11) + lo ≤ R.locals) (hc : cells ≤ R.cells) (hs : slots ≤ R.slots)
    (k : ∀ (T' : State), Stand p l e R s m args below meth c T' locs cells slots → T'.heap = h → OGoes p.tables e below Φ (T'.setTop (mkF m (pc + 3) Ls (v.toList ++ rest)))) : OGoes p.tables e below Φ (T.setTop (mkF m pc Ls st)) := by
  refine own_callV X hx hZ hown w1 w2 w3 w4 w5 w6 hy hM eT E hsz hp hn has hst hW hd hf hl hc hs ?_
  rintro v' T' L' X' ⟨rfl, e', rfl⟩
  rw [List.append_nil] at X'
  exact k T' X' e'
theorem own_aa_eq_t {a b : Addr} (h : a = b) : XT.acmp .eq (.ref a) (.ref b) = true := XT.aa_eq_t (congrArg Value.ref h)
theorem own_aa_eq_f {a b : Addr} (h : ¬ a = b) : XT.acmp .eq (.ref a) (.ref b) = false := XT.aa_eq_f fun q => h (Value.ref.inj q)
theorem own_aa_ne_t {a b : Addr} (h : ¬ a = b) : XT.acmp .ne (.ref a) (.ref b) = true := XT.aa_ne_t fun q => h (Value.ref.inj q)
theorem own_aa_ne_f {a b : Addr} (h : a = b) : XT.acmp .ne (.ref a) (.ref b) = false := XT.aa_ne_f (congrArg Value.ref h)
/-! the case's words -/
theorem own_fld_int {t : Term} {C n d : String} {a : Addr} {k : Int32} (ht : t.eval args s none [] s = some (.ref a)) (h : (Jvm.Cond.eq (.field t C n d) (.int k)).value args s none s [] = some true) : Fld s s.heap a C n d (.int k) := by
  have e : (Term.field t C n d).eval args s none [] s = s.fieldOf? a C n d := fld_at ht
  cases hx : s.fieldOf? a C n d with
  | none => simp [Cond.value, e, hx] at h
  | some v =>
    have e2 : (Term.int k).eval args s none [] s = some (.int k) := rfl
    cases v <;> simp [Cond.value, e, hx, e2] at h
    subst h
    exact Fld.start hx
theorem own_static {C n d K : String} (h : (Jvm.Cond.exactly (.static C n d) K).value args s none s [] = some true) (w1 : (Jvm.Cond.initialized C).before args s = true) (w2 : (Jvm.Cond.laysStatic C n d).before args s = true) :
    ∃ a, (Term.static C n d).eval args s none [] s = some (.ref a) ∧ Sta s s.heap C n d (.ref a) ∧ Exa s s.heap a K := by
  obtain ⟨a, ha⟩ := exa_v h
  exact ⟨a, ha, Sta.start ha (Or.inr ⟨w1, w2⟩), Exa.start ha h⟩
/-! arrays of ints of some kind at the start: Tab; what the case says of their places -/
theorem own_toI {j : Int32} (h : ¬ j < 0) : j.toNatClampNeg.toInt32 = j := (back32 h).1
theorem own_elem {t i : Term} {idx : List Nat} {a : Addr} {cl : Cell} {j v : Int32} (ht : t.eval args s none idx s = some (.ref a)) (hi : i.eval args s none idx s = some (.int j)) (ha : s.arrayAt? a = some cl) (hj : ¬ j < 0) (hv : cl.slots[j.toNatClampNeg]? = some (.int (atv cl j))) :
    (Jvm.Cond.eq (.elem t i) (.int v)).value args s none s idx = some (decide (atv cl j = v)) := by
  have e1 : (Term.elem t i).eval args s none idx s = some (.int (atv cl j)) := (elem_f ht hi ha hj).trans hv
  have e2 : (Term.int v).eval args s none idx s = some (.int v) := rfl
  simp [Cond.value, e1, e2]
theorem own_one {t : Term} {a : Addr} {cl : Cell} {ty : FieldType} {n k v : Int32} (hT : Tab s s.heap a cl ty n) (ht : t.eval args s none [] s = some (.ref a)) (hk : ¬ k < 0) (hkn : k < n) (h : (Jvm.Cond.eq (.elem t (.int k)) (.int v)).value args s none s [] = some true) : atv cl k = v :=
  gotT (own_elem ht rfl (Arr.fin (Vm.Alike.refl _) hT.1) hk (hT.2.2.2 k (inb_of hT.2.1 ⟨hk, hkn⟩))) h
theorem own_idx {i : Nat} {idx : List Nat} : (Term.index 0).eval args s none (i :: idx) s = some (.int i.toInt32) := rfl
theorem own_ltI {a b : Term} {idx : List Nat} {x y : Int32} (ha : a.eval args s none idx s = some (.int x)) (hb : b.eval args s none idx s = some (.int y)) : (Jvm.Cond.lt a b).value args s none s idx = some (decide (x < y)) := by simp [Cond.value, ha, hb]
theorem own_leI {a b : Term} {idx : List Nat} {x y : Int32} (ha : a.eval args s none idx s = some (.int x)) (hb : b.eval args s none idx s = some (.int y)) : (Jvm.Cond.le a b).value args s none s idx = some (decide (x ≤ y)) := by simp [Cond.value, ha, hb]
theorem own_all {t : Term} {a : Addr} {cl : Cell} {ty : FieldType} {n : Int32} {c : Jvm.Cond} (hT : Tab s s.heap a cl ty n) (ht : t.eval args s none [] s = some (.ref a)) (h : (Jvm.Cond.all t c).value args s none s [] = some true) (j : Int32) (hj : ¬ j < 0) (hjn : j < n) :
    c.value args s none s [j.toNatClampNeg] = some true ∧ (Term.index 0).eval args s none [j.toNatClampNeg] s = some (.int j) ∧ cl.slots[j.toNatClampNeg]? = some (.int (atv cl j)) := by
  have hin := inb_of hT.2.1 ⟨hj, hjn⟩
  refine ⟨Cond.all_elim ht (Arr.fin (Vm.Alike.refl _) hT.1) h _ (by omega), ?_, hT.2.2.2 j hin⟩
  rw [own_idx, own_toI hj]
theorem own_all_lo {t : Term} {a : Addr} {cl : Cell} {ty : FieldType} {n k v : Int32} (hT : Tab s s.heap a cl ty n) (ht : ∀ idx, t.eval args s none idx s = some (.ref a)) (h : (Jvm.Cond.all t (.or (.le (.int k) (.index 0)) (.eq (.elem t (.index 0)) (.int v)))).value args s none s [] = some true) (j : Int32) (hj : ¬ j < 0) (hjn : j < n) : k ≤ j ∨ atv cl j = v := by
  obtain ⟨h1, h2, h3⟩ := own_all hT (ht []) h j hj hjn
  exact or_e2 (own_leI rfl h2) (own_elem (ht _) h2 (Arr.fin (Vm.Alike.refl _) hT.1) hj h3) h1
theorem own_all_hi {t : Term} {a : Addr} {cl : Cell} {ty : FieldType} {n k v : Int32} (hT : Tab s s.heap a cl ty n) (ht : ∀ idx, t.eval args s none idx s = some (.ref a)) (h : (Jvm.Cond.all t (.or (.lt (.index 0) (.int k)) (.eq (.elem t (.index 0)) (.int v)))).value args s none s [] = some true) (j : Int32) (hj : ¬ j < 0) (hjn : j < n) : j < k ∨ atv cl j = v := by
  obtain ⟨h1, h2, h3⟩ := own_all hT (ht []) h j hj hjn
  exact or_e2 (own_ltI h2 rfl) (own_elem (ht _) h2 (Arr.fin (Vm.Alike.refl _) hT.1) hj h3) h1
theorem own_all_mid {t : Term} {a : Addr} {cl : Cell} {ty : FieldType} {n k q v : Int32} (hT : Tab s s.heap a cl ty n) (ht : ∀ idx, t.eval args s none idx s = some (.ref a)) (h : (Jvm.Cond.all t (.or (.lt (.index 0) (.int k)) (.or (.le (.int q) (.index 0)) (.eq (.elem t (.index 0)) (.int v))))).value args s none s [] = some true) (j : Int32) (hj : ¬ j < 0) (hjn : j < n) : j < k ∨ ¬ j < q ∨ atv cl j = v := by
  obtain ⟨h1, h2, h3⟩ := own_all hT (ht []) h j hj hjn
  exact or3 h1 (own_ltI h2 rfl) (own_leI rfl h2) (own_elem (ht _) h2 (Arr.fin (Vm.Alike.refl _) hT.1) hj h3)
theorem own_arr {t : Term} {a : Addr} {ty : FieldType} {n : Int32} (hf : Fit s) (ht : t.eval args s none [] s = some (.ref a)) (h1 : (Jvm.Cond.arrayOf t ty).value args s none s [] = some true) (h2 : (Jvm.Cond.eq (.length t) (.int n)).value args s none s [] = some true) (hty : ty = .int ∨ ty = .boolean ∨ ty = .byte ∨ ty = .char ∨ ty = .short) (hn : ¬ n < 0) : ∃ cl, Tab s s.heap a cl ty n := by
  obtain ⟨cl, A⟩ := Arr.start ht h1
  have ha := Arr.fin (Vm.Alike.refl _) A
  have hl : cl.slots.size < 2 ^ 31 := by
    refine Nat.lt_of_not_le fun q => ?_
    have e : (Term.length t).eval args s none [] s = none := by simp [Term.eval, ht, ha, q]
    simp [Cond.value, e] at h2
  have e1 : (Term.length t).eval args s none [] s = some (.int cl.slots.size.toInt32) := len_f ht ha hl
  have e2 : (Term.int n).eval args s none [] s = some (.int n) := rfl
  have e3 : cl.slots.size.toInt32 = n := by simpa [Cond.value, e1, e2] using h2
  exact ⟨cl, Tab.start hf A hty hl e3 hn⟩
theorem own_aastore (X : Stand p l e R s m args below meth c T locs cells slots) (hx : p.tables.exec = Jvm.exec) (hZ : Z.Warmed39 s.vm) (eT : T.heap = h) {a : Addr} {kc : ClassId} {ty : FieldType} {n : Int32} {vs : List Value} {d : Value} (A : Arv Z h a kc ty n vs d) {j : Int32} {v : Value} {i n0 : Nat} (hj : ¬ j < 0) (hjn : j < n) (hji : j.toNatClampNeg = i) (hi : i < vs.length) (hty : ty.isReference = true) (hv : fits ty v = true) (S : Sto Z h a v) (N : Fr n0 locs) (ge : n0 ≤ a) {pc : Nat} {Ls : Array Slot} {rest : List Value} (hd : decode c.code pc = .ok (.aastore, 1))
    (kk : ∀ (T' : State) (h' : Heap) (L' : List Loc), Stand p l e R s m args below meth c T' L' cells slots → T'.heap = h' → Fr n0 L' → Wr h h' a i v → Arv Z h' a kc ty n (vs.set i v) d → OGoes p.tables e below Φ (T'.setTop (mkF m (pc + 1) Ls rest))) : OGoes p.tables e below Φ (T.setTop (mkF m pc Ls (v :: .int j :: .ref a :: rest))) := by
  subst hji
  obtain ⟨cl, Ar, q1, S1, N1, H1, G1⟩ := A
  have hin := inb_of S1 ⟨hj, hjn⟩
  obtain ⟨T', h', X', e', W', st⟩ := stR X hx hZ eT Ar (j := j) hin hty S (g := mkF m pc Ls (v :: .int j :: .ref a :: rest)) rfl rfl hd
  exact own_st st (kk T' h' _ X' e' (Fr.snoc X' N ge) W' (Arv.set Ar q1 S1 N1 H1 G1 hv W' _ rfl hi))
theorem own_lastore (X : Stand p l e R s m args below meth c T locs cells slots) (hx : p.tables.exec = Jvm.exec) (hZ : Z.Warmed39 s.vm) (eT : T.heap = h) {a : Addr} {kc : ClassId} {n : Int32} {vs : List Value} {d : Value} (A : Arv Z h a kc .long n vs d) {j : Int32} {v : Int64} {i n0 : Nat} (hj : ¬ j < 0) (hjn : j < n) (hji : j.toNatClampNeg = i) (hi : i < vs.length)  (N : Fr n0 locs) (ge : n0 ≤ a) {pc : Nat} {Ls : Array Slot} {rest : List Value} (hd : decode c.code pc = .ok (.lastore, 1))
    (kk : ∀ (T' : State) (h' : Heap) (L' : List Loc), Stand p l e R s m args below meth c T' L' cells slots → T'.heap = h' → Fr n0 L' → Wr h h' a i (.long v) → Arv Z h' a kc .long n (vs.set i (.long v)) d → OGoes p.tables e below Φ (T'.setTop (mkF m (pc + 1) Ls rest))) : OGoes p.tables e below Φ (T.setTop (mkF m pc Ls ((.long v) :: .int j :: .ref a :: rest))) := by
  subst hji
  obtain ⟨cl, Ar, q1, S1, N1, H1, G1⟩ := A
  have hin := inb_of S1 ⟨hj, hjn⟩
  obtain ⟨T', h', X', e', W', st⟩ := stJ X hx hZ eT Ar (j := j) hin  (g := mkF m pc Ls ((.long v) :: .int j :: .ref a :: rest)) rfl rfl hd
  exact own_st st (kk T' h' _ X' e' (Fr.snoc X' N ge) W' (Arv.set Ar q1 S1 N1 H1 G1 rfl W' _ rfl hi))
theorem own_iastore (X : Stand p l e R s m args below meth c T locs cells slots) (hx : p.tables.exec = Jvm.exec) (hZ : Z.Warmed39 s.vm) (eT : T.heap = h) {a : Addr} {kc : ClassId} {n : Int32} {vs : List Value} {d : Value} (A : Arv Z h a kc .int n vs d) {j : Int32} {v : Int32} {i n0 : Nat} (hj : ¬ j < 0) (hjn : j < n) (hji : j.toNatClampNeg = i) (hi : i < vs.length)  (N : Fr n0 locs) (ge : n0 ≤ a) {pc : Nat} {Ls : Array Slot} {rest : List Value} (hd : decode c.code pc = .ok (.iastore, 1))
    (kk : ∀ (T' : State) (h' : Heap) (L' : List Loc), Stand p l e R s m args below meth c T' L' cells slots → T'.heap = h' → Fr n0 L' → Wr h h' a i (.int v) → Arv Z h' a kc .int n (vs.set i (.int v)) d → OGoes p.tables e below Φ (T'.setTop (mkF m (pc + 1) Ls rest))) : OGoes p.tables e below Φ (T.setTop (mkF m pc Ls ((.int v) :: .int j :: .ref a :: rest))) := by
  subst hji
  obtain ⟨cl, Ar, q1, S1, N1, H1, G1⟩ := A
  have hin := inb_of S1 ⟨hj, hjn⟩
  obtain ⟨T', h', X', e', W', st⟩ := stI X hx hZ eT Ar (j := j) hin  (g := mkF m pc Ls ((.int v) :: .int j :: .ref a :: rest)) rfl rfl hd
  exact own_st st (kk T' h' _ X' e' (Fr.snoc X' N ge) W' (Arv.set Ar q1 S1 N1 H1 G1 rfl W' _ rfl hi))
theorem own_bastore (X : Stand p l e R s m args below meth c T locs cells slots) (hx : p.tables.exec = Jvm.exec) (hZ : Z.Warmed39 s.vm) (eT : T.heap = h) {a : Addr} {kc : ClassId} {n : Int32} {vs : List Value} {d : Value} (A : Arv Z h a kc .byte n vs d) {j : Int32} {v : Int32} {i n0 : Nat} (hj : ¬ j < 0) (hjn : j < n) (hji : j.toNatClampNeg = i) (hi : i < vs.length)  (N : Fr n0 locs) (ge : n0 ≤ a) {pc : Nat} {Ls : Array Slot} {rest : List Value} (hd : decode c.code pc = .ok (.bastore, 1))
    (kk : ∀ (T' : State) (h' : Heap) (L' : List Loc), Stand p l e R s m args below meth c T' L' cells slots → T'.heap = h' → Fr n0 L' → Wr h h' a i (.int (nar .byte v)) → Arv Z h' a kc .byte n (vs.set i (.int (nar .byte v))) d → OGoes p.tables e below Φ (T'.setTop (mkF m (pc + 1) Ls rest))) : OGoes p.tables e below Φ (T.setTop (mkF m pc Ls ((.int v) :: .int j :: .ref a :: rest))) := by
  subst hji
  obtain ⟨cl, Ar, q1, S1, N1, H1, G1⟩ := A
  have hin := inb_of S1 ⟨hj, hjn⟩
  obtain ⟨T', h', X', e', W', st⟩ := stB X hx hZ eT Ar (j := j) hin  (g := mkF m pc Ls ((.int v) :: .int j :: .ref a :: rest)) rfl rfl hd
  exact own_st st (kk T' h' _ X' e' (Fr.snoc X' N ge) W' (Arv.set Ar q1 S1 N1 H1 G1 (fits_nar_byte _) W' _ rfl hi))
theorem own_castore (X : Stand p l e R s m args below meth c T locs cells slots) (hx : p.tables.exec = Jvm.exec) (hZ : Z.Warmed39 s.vm) (eT : T.heap = h) {a : Addr} {kc : ClassId} {n : Int32} {vs : List Value} {d : Value} (A : Arv Z h a kc .char n vs d) {j : Int32} {v : Int32} {i n0 : Nat} (hj : ¬ j < 0) (hjn : j < n) (hji : j.toNatClampNeg = i) (hi : i < vs.length)  (N : Fr n0 locs) (ge : n0 ≤ a) {pc : Nat} {Ls : Array Slot} {rest : List Value} (hd : decode c.code pc = .ok (.castore, 1))
    (kk : ∀ (T' : State) (h' : Heap) (L' : List Loc), Stand p l e R s m args below meth c T' L' cells slots → T'.heap = h' → Fr n0 L' → Wr h h' a i (.int (nar .char v)) → Arv Z h' a kc .char n (vs.set i (.int (nar .char v))) d → OGoes p.tables e below Φ (T'.setTop (mkF m (pc + 1) Ls rest))) : OGoes p.tables e below Φ (T.setTop (mkF m pc Ls ((.int v) :: .int j :: .ref a :: rest))) := by
  subst hji
  obtain ⟨cl, Ar, q1, S1, N1, H1, G1⟩ := A
  have hin := inb_of S1 ⟨hj, hjn⟩
  obtain ⟨T', h', X', e', W', st⟩ := stC X hx hZ eT Ar (j := j) hin  (g := mkF m pc Ls ((.int v) :: .int j :: .ref a :: rest)) rfl rfl hd
  exact own_st st (kk T' h' _ X' e' (Fr.snoc X' N ge) W' (Arv.set Ar q1 S1 N1 H1 G1 (fits_nar_char _) W' _ rfl hi))
theorem own_aaload (X : Stand p l e R s m args below meth c T locs cells slots) (hx : p.tables.exec = Jvm.exec) (hZ : Z.Warmed39 s.vm) (eT : T.heap = h) {a : Addr} {kc : ClassId} {ty : FieldType} (hty : ty.isReference = true) {n : Int32} {vs : List Value} {d : Value} (A : Arv Z h a kc ty n vs d) {j : Int32} {v : Value} (hj : ¬ j < 0) (hjn : j < n) (hv : vs.getD j.toNatClampNeg d = v) {pc : Nat} {Ls : Array Slot} {rest : List Value} (hd : decode c.code pc = .ok (.aaload, 1))
    (kk : OGoes p.tables e below Φ (T.setTop (mkF m (pc + 1) Ls (v :: rest)))) : OGoes p.tables e below Φ (T.setTop (mkF m pc Ls (.int j :: .ref a :: rest))) := by
  obtain ⟨cl, Ar, q1, S1, N1, H1, G1⟩ := A
  have hin := inb_of S1 ⟨hj, hjn⟩
  exact own_st (fun t k => X.aaload hx (j := j) (v := v) (by rw [eT]; exact Ar.1) (State.isArrayOf_alike hZ.alike Ar.2.1) hty Ar.2.2 hin (H1.at hin hv) (g := mkF m pc Ls (.int j :: .ref a :: rest)) rfl rfl hd t k) kk
theorem own_laload (X : Stand p l e R s m args below meth c T locs cells slots) (hx : p.tables.exec = Jvm.exec) (hZ : Z.Warmed39 s.vm) (eT : T.heap = h) {a : Addr} {kc : ClassId} {n : Int32} {vs : List Value} {d : Value} (A : Arv Z h a kc .long n vs d) {j : Int32} {v : Value} (hj : ¬ j < 0) (hjn : j < n) (hv : vs.getD j.toNatClampNeg d = v) {pc : Nat} {Ls : Array Slot} {rest : List Value} (hd : decode c.code pc = .ok (.laload, 1))
    (kk : OGoes p.tables e below Φ (T.setTop (mkF m (pc + 1) Ls (v :: rest)))) : OGoes p.tables e below Φ (T.setTop (mkF m pc Ls (.int j :: .ref a :: rest))) := by
  obtain ⟨cl, Ar, q1, S1, N1, H1, G1⟩ := A
  have hin := inb_of S1 ⟨hj, hjn⟩
  exact own_st (fun t k => X.laload hx (j := j) (v := v) (by rw [eT]; exact Ar.1) (State.isArrayOf_alike hZ.alike Ar.2.1) Ar.2.2 hin (H1.at hin hv) (g := mkF m pc Ls (.int j :: .ref a :: rest)) rfl rfl hd t k) kk
theorem own_iaload (X : Stand p l e R s m args below meth c T locs cells slots) (hx : p.tables.exec = Jvm.exec) (hZ : Z.Warmed39 s.vm) (eT : T.heap = h) {a : Addr} {kc : ClassId} {n : Int32} {vs : List Value} {d : Value} (A : Arv Z h a kc .int n vs d) {j : Int32} {v : Value} (hj : ¬ j < 0) (hjn : j < n) (hv : vs.getD j.toNatClampNeg d = v) {pc : Nat} {Ls : Array Slot} {rest : List Value} (hd : decode c.code pc = .ok (.iaload, 1))
    (kk : OGoes p.tables e below Φ (T.setTop (mkF m (pc + 1) Ls (v :: rest)))) : OGoes p.tables e below Φ (T.setTop (mkF m pc Ls (.int j :: .ref a :: rest))) := by
  obtain ⟨cl, Ar, q1, S1, N1, H1, G1⟩ := A
  have hin := inb_of S1 ⟨hj, hjn⟩
  exact own_st (fun t k => X.iaload hx (j := j) (v := v) (by rw [eT]; exact Ar.1) (State.isArrayOf_alike hZ.alike Ar.2.1) Ar.2.2 hin (H1.at hin hv) (g := mkF m pc Ls (.int j :: .ref a :: rest)) rfl rfl hd t k) kk
theorem own_baload (X : Stand p l e R s m args below meth c T locs cells slots) (hx : p.tables.exec = Jvm.exec) (hZ : Z.Warmed39 s.vm) (eT : T.heap = h) {a : Addr} {kc : ClassId} {n : Int32} {vs : List Value} {d : Value} (A : Arv Z h a kc .byte n vs d) {j : Int32} {v : Value} (hj : ¬ j < 0) (hjn : j < n) (hv : vs.getD j.toNatClampNeg d = v) {pc : Nat} {Ls : Array Slot} {rest : List Value} (hd : decode c.code pc = .ok (.baload, 1))
    (kk : OGoes p.tables e below Φ (T.setTop (mkF m (pc + 1) Ls (v :: rest)))) : OGoes p.tables e below Φ (T.setTop (mkF m pc Ls (.int j :: .ref a :: rest))) := by
  obtain ⟨cl, Ar, q1, S1, N1, H1, G1⟩ := A
  have hin := inb_of S1 ⟨hj, hjn⟩
  exact own_st (fun t k => X.baloadBytes hx (j := j) (v := v) (by rw [eT]; exact Ar.1) (State.isArrayOf_alike hZ.alike Ar.2.1) Ar.2.2 hin (H1.at hin hv) (g := mkF m pc Ls (.int j :: .ref a :: rest)) rfl rfl hd t k) kk
theorem own_caload (X : Stand p l e R s m args below meth c T locs cells slots) (hx : p.tables.exec = Jvm.exec) (hZ : Z.Warmed39 s.vm) (eT : T.heap = h) {a : Addr} {kc : ClassId} {n : Int32} {vs : List Value} {d : Value} (A : Arv Z h a kc .char n vs d) {j : Int32} {v : Value} (hj : ¬ j < 0) (hjn : j < n) (hv : vs.getD j.toNatClampNeg d = v) {pc : Nat} {Ls : Array Slot} {rest : List Value} (hd : decode c.code pc = .ok (.caload, 1))
    (kk : OGoes p.tables e below Φ (T.setTop (mkF m (pc + 1) Ls (v :: rest)))) : OGoes p.tables e below Φ (T.setTop (mkF m pc Ls (.int j :: .ref a :: rest))) := by
  obtain ⟨cl, Ar, q1, S1, N1, H1, G1⟩ := A
  have hin := inb_of S1 ⟨hj, hjn⟩
  exact own_st (fun t k => X.caload hx (j := j) (v := v) (by rw [eT]; exact Ar.1) (State.isArrayOf_alike hZ.alike Ar.2.1) Ar.2.2 hin (H1.at hin hv) (g := mkF m pc Ls (.int j :: .ref a :: rest)) rfl rfl hd t k) kk
theorem own_alen (X : Stand p l e R s m args below meth c T locs cells slots) (hx : p.tables.exec = Jvm.exec) (hZ : Z.Warmed39 s.vm) (eT : T.heap = h) {a : Addr} {kc : ClassId} {ty : FieldType} {n : Int32} {vs : List Value} {d : Value} (A : Arv Z h a kc ty n vs d) {pc : Nat} {Ls : Array Slot} {rest : List Value} (hd : decode c.code pc = .ok (.arraylength, 1))
    (kk : OGoes p.tables e below Φ (T.setTop (mkF m (pc + 1) Ls (.int n :: rest)))) : OGoes p.tables e below Φ (T.setTop (mkF m pc Ls (.ref a :: rest))) := by
  obtain ⟨cl, Ar, q1, S1, N1, H1, G1⟩ := A
  exact own_st (fun t k => X.arraylength hx (by rw [eT]; exact Ar.1) (State.isArrayOf_alike hZ.alike Ar.2.1) (g := mkF m pc Ls (.ref a :: rest)) rfl rfl hd t (by rw [len_of S1 N1]; exact k)) kk
theorem own_newarray (X : Stand p l e R s m args below meth c T locs cells slots) (hx : p.tables.exec = Jvm.exec) (hZ : Z.Warmed39 s.vm) (eT : T.heap = h) {aty : ArrayType} (w : (Jvm.Cond.arrayClass (newarray.typeOf aty)).before a0 Z = true) {n : Int32} (hn : ¬ n < 0) {cap : Nat} (hcap : n.toNatClampNeg ≤ cap) (hb : cap * 8 ≤ 536870912) (hc : cells + 1 ≤ R.cells) (hl : slots + cap ≤ R.slots) {ad : String} (had : "[" ++ (newarray.typeOf aty).toString = ad) {pc : Nat} {Ls : Array Slot} {rest : List Value} (hd : decode c.code pc = .ok (.newarray aty, 2))
    (kk : ∀ (T' : State) (h' : Heap) (kc : ClassId) (b : Addr), Stand p l e R s m args below meth c T' locs (cells + 1) (slots + cap) → T'.heap = h' → Ext h h' → b = h.size → Arv Z h' b kc (newarray.typeOf aty) n [] (defaultValue (newarray.typeOf aty)) → Exa Z h' b ad → OGoes p.tables e below Φ (T'.setTop (mkF m (pc + 2) Ls (.ref b :: rest)))) : OGoes p.tables e below Φ (T.setTop (mkF m pc Ls (.int n :: rest))) := by
  obtain ⟨T', h', kc, X', e', E', A', B', st⟩ := newPE X hx hZ w eT (g := mkF m pc Ls (.int n :: rest)) rfl hd rfl hn hcap hb hc hl had
  exact own_st st (kk T' h' kc _ X' e' E' rfl (Arv.new A' hn) B')
theorem own_anewarray (X : Stand p l e R s m args below meth c T locs cells slots) (hx : p.tables.exec = Jvm.exec) (hZ : Z.Warmed39 s.vm) (eT : T.heap = h) {own C : String} {index : Nat} (hown : s.vm.findClass own = some m.cls) (w1 : (Jvm.Cond.classLink own index C).before a0 Z = true) (w2 : (Jvm.Cond.arrayOver (.object C)).before a0 Z = true) {n : Int32} (hn : ¬ n < 0) {cap : Nat} (hcap : n.toNatClampNeg ≤ cap) (hb : cap * 8 ≤ 536870912) (hc : cells + 1 ≤ R.cells) (hl : slots + cap ≤ R.slots) {pc : Nat} {Ls : Array Slot} {rest : List Value} (hd : decode c.code pc = .ok (.anewarray index, 3))
    (kk : ∀ (T' : State) (h' : Heap) (kc : ClassId) (b : Addr), Stand p l e R s m args below meth c T' locs (cells + 1) (slots + cap) → T'.heap = h' → Ext h h' → b = h.size → Arv Z h' b kc (.object C) n [] .null → Ovr Z kc C → OGoes p.tables e below Φ (T'.setTop (mkF m (pc + 3) Ls (.ref b :: rest)))) : OGoes p.tables e below Φ (T.setTop (mkF m pc Ls (.int n :: rest))) := by
  obtain ⟨T', h', kc, X', e', E', A', O', st⟩ := newR X hx hZ hown w1 w2 eT (g := mkF m pc Ls (.int n :: rest)) rfl hd rfl hn hcap hb hc hl
  exact own_st st (kk T' h' kc _ X' e' E' rfl (Arv.new A' hn) O')
theorem own_anewarrayA (X : Stand p l e R s m args below meth c T locs cells slots) (hx : p.tables.exec = Jvm.exec) (hZ : Z.Warmed39 s.vm) (eT : T.heap = h) {own C : String} {ty : FieldType} {index : Nat} (hown : s.vm.findClass own = some m.cls) (hC : (FieldType.array ty).toString = C) (w1 : (Jvm.Cond.classLink own index C).before a0 Z = true) (w2 : (Jvm.Cond.arrayOver (.array ty)).before a0 Z = true) {n : Int32} (hn : ¬ n < 0) {cap : Nat} (hcap : n.toNatClampNeg ≤ cap) (hb : cap * 8 ≤ 536870912) (hc : cells + 1 ≤ R.cells) (hl : slots + cap ≤ R.slots) {pc : Nat} {Ls : Array Slot} {rest : List Value} (hd : decode c.code pc = .ok (.anewarray index, 3))
    (kk : ∀ (T' : State) (h' : Heap) (kc : ClassId) (b : Addr), Stand p l e R s m args below meth c T' locs (cells + 1) (slots + cap) → T'.heap = h' → Ext h h' → b = h.size → Arv Z h' b kc (.array ty) n [] .null → OvrA Z kc ty C → OGoes p.tables e below Φ (T'.setTop (mkF m (pc + 3) Ls (.ref b :: rest)))) : OGoes p.tables e below Φ (T.setTop (mkF m pc Ls (.int n :: rest))) := by
  obtain ⟨T', h', kc, X', e', E', A', -, O', st⟩ := newRA X hx hZ hown hC w1 w2 eT (g := mkF m pc Ls (.int n :: rest)) rfl hd rfl hn hcap hb hc hl rfl
  exact own_st st (kk T' h' kc _ X' e' E' rfl (Arv.new A' hn) O')
theorem own_new (X : Stand p l e R s m args below meth c T locs cells slots) (hx : p.tables.exec = Jvm.exec) (hZ : Z.Warmed39 s.vm) (eT : T.heap = h) {own C : String} {index n : Nat} (hown : s.vm.findClass own = some m.cls) (w : (Jvm.Cond.classLink own index C).before a0 Z = true) (wi : (Jvm.Cond.instantiable C n).before a0 Z = true) (wz : (Jvm.Cond.initialized C).before a0 Z = true) (hc : cells + 1 ≤ R.cells) (hl : slots + n ≤ R.slots) {pc : Nat} {Ls : Array Slot} {st : List Value} (hd : decode c.code pc = .ok (.new index, 3))
    (kk : ∀ (T' : State) (h' : Heap) (b : Addr), Stand p l e R s m args below meth c T' locs (cells + 1) (slots + n) → T'.heap = h' → Ext h h' → b = h.size → Exa Z h' b C → (∀ {O nm d : String} {ty : FieldType}, Laid Z a0 C O nm d → parseFieldDescriptor d = some ty → Fld Z h' b O nm d (defaultValue ty)) → OGoes p.tables e below Φ (T'.setTop (mkF m (pc + 3) Ls (.ref b :: st)))) : OGoes p.tables e below Φ (T.setTop (mkF m pc Ls st)) := by
  obtain ⟨T', h', X', e', E', A', D', -, st'⟩ := newO X hx hZ hown w wi wz eT (g := mkF m pc Ls st) rfl hd hc hl
  exact own_st st' (kk T' h' _ X' e' E' rfl A' D')
theorem own_getfield (X : Stand p l e R s m args below meth c T locs cells slots) (hx : p.tables.exec = Jvm.exec) (hZ : Z.Warmed39 s.vm) (eT : T.heap = h) {own R0 O n d : String} {index : Nat} (hown : s.vm.findClass own = some m.cls) (w : (Jvm.Cond.fieldLink own index R0 n d).before a0 Z = true) (via : Via Z R0 O n d) {a : Addr} {v : Value} (F : Fld Z h a O n d v) {pc : Nat} {Ls : Array Slot} {rest : List Value} (hd : decode c.code pc = .ok (.getfield index, 3))
    (kk : ∀ (T' : State), Stand p l e R s m args below meth c T' locs cells slots → T'.heap = h → OGoes p.tables e below Φ (T'.setTop (mkF m (pc + 3) Ls (v :: rest)))) : OGoes p.tables e below Φ (T.setTop (mkF m pc Ls (.ref a :: rest))) := by
  obtain ⟨T', X', e', st⟩ := getF X hx hZ hown (host := "") (Or.inl w) via eT F (g := mkF m pc Ls (.ref a :: rest)) rfl rfl hd
  exact own_st st (kk T' X' e')
theorem own_getstatic (X : Stand p l e R s m args below meth c T locs cells slots) (hx : p.tables.exec = Jvm.exec) (hZ : Z.Warmed39 s.vm) (eT : T.heap = h) {own O n d : String} {index : Nat} (hown : s.vm.findClass own = some m.cls) (w : (Jvm.Cond.fieldLink own index O n d).before a0 Z = true) {v : Value} (F : Sta Z h O n d v) {pc : Nat} {Ls : Array Slot} {st : List Value} (hd : decode c.code pc = .ok (.getstatic index, 3))
    (kk : ∀ (T' : State), Stand p l e R s m args below meth c T' locs cells slots → T'.heap = h → OGoes p.tables e below Φ (T'.setTop (mkF m (pc + 3) Ls (v :: st)))) : OGoes p.tables e below Φ (T.setTop (mkF m pc Ls st)) := by
  obtain ⟨T', X', e', st'⟩ := getS X hx hZ (host := "") hown w Via.refl eT F (g := mkF m pc Ls st) rfl hd
  exact own_st st' (kk T' X' e')
theorem own_putfield (X : Stand p l e R s m args below meth c T locs cells slots) (hx : p.tables.exec = Jvm.exec) (hZ : Z.Warmed39 s.vm) (eT : T.heap = h) {own O n d C : String} {index kk0 : Nat} {ty : FieldType} (hown : s.vm.findClass own = some m.cls) (w : (Jvm.Cond.fieldLink own index O n d).before a0 Z = true) {a : Addr} {v old : Value} (F : Fld Z h a O n d old) (E : Exa Z h a C) (L : (Jvm.Cond.lays C O n d).before a0 Z = true ∨ ((Jvm.Cond.laysFinal C O n d).before a0 Z = true ∧ own = O ∧ meth.name = "<init>")) (wi : (Jvm.Cond.instantiable C kk0).before a0 Z = true) (hty : parseFieldDescriptor d = some ty) (hn : narrow ty v = v) (hf : fits ty v = true)
    {n0 : Nat} (N : Fr n0 locs) (ge : n0 ≤ a) {pc : Nat} {Ls : Array Slot} {rest : List Value} (hd : decode c.code pc = .ok (.putfield index, 3))
    (kk : ∀ (T' : State) (h' : Heap) (L' : List Loc), Stand p l e R s m args below meth c T' L' cells slots → T'.heap = h' → Fr n0 L' → Wr h h' a (Jvm.RoadKit.slotOf Z O n d) v → Fld Z h' a O n d v → OGoes p.tables e below Φ (T'.setTop (mkF m (pc + 3) Ls rest))) : OGoes p.tables e below Φ (T.setTop (mkF m pc Ls (v :: .ref a :: rest))) := by
  obtain ⟨T', h', X', e', W', st⟩ := putF X hx hZ hown (host := "") (Or.inl w) Via.refl eT F E L wi hty hn hf (g := mkF m pc Ls (v :: .ref a :: rest)) rfl rfl hd
  exact own_st st (kk T' h' _ X' e' (Fr.snoc X' N ge) W' (F.same W'))
theorem own_ext_trans {h1 h2 h3 : Heap} (A : Ext h1 h2) (B : Ext h2 h3) : Ext h1 h3 := ⟨Nat.le_trans A.1 B.1, fun a c q => B.2 a c (A.2 a c q)⟩
theorem own_old_wr {h' : Heap} {a : Addr} {sl : Nat} {v : Value} (O : Ext Z.heap h) (W : Wr h h' a sl v) (q : Z.heap.size ≤ a) : Ext Z.heap h' := (Old.wr (Z := Z) (n0 := Z.heap.size) ⟨rfl, O⟩ W q).2
theorem own_old_keep {h' : Heap} {ws : List Addr} (O : Ext Z.heap h) (K : Keep h h' ws) (q : ∀ x ∈ ws, Z.heap.size ≤ x) : Ext Z.heap h' := (Old.keep (Z := Z) (n0 := Z.heap.size) ⟨rfl, O⟩ K q).2
theorem own_callU0 (X : Stand p l e R s m args below meth c T locs cells slots) (hx : p.tables.exec = Jvm.exec) (hZ : Z.Warmed39 s.vm) {own C owner : String} {index : Nat} {x0 y : MethodName} {bytes : ByteArray} {ml : Nat} {ret : Option FieldType} {fr lo : Nat} {as : Array Value} {v : Option Value}
    (hown : s.vm.findClass own = some m.cls) (w1 : (Jvm.Cond.methodLink own index x0).before a0 Z = true) (w2 : (Jvm.Cond.sameMethod x0.cls owner x0.name x0.desc).before a0 Z = true) (w3 : (Jvm.Cond.declares ⟨owner, x0.name, x0.desc⟩).before a0 Z = true) (w3' : (Jvm.Cond.selects C x0 y).before a0 Z = true) (w4 : (Jvm.Cond.instanceMethod y).before a0 Z = true) (w5 : (Jvm.Cond.initialized y.cls).before a0 Z = true) (w6 : (Jvm.Cond.code y bytes ml ret).before a0 Z = true) (hy : owner ≠ "java/lang/invoke/MethodHandle" ∧ owner ≠ "java/lang/invoke/VarHandle")
    (hM : OPure l Z y bytes ml ret fr lo as h v) (eT : T.heap = h) {b : Addr} (E : Exa Z h b C) {pc : Nat} {Ls : Array Slot} {st : List Value} (hsz : Ls.size = c.maxLocals) {argsL rest : List Value} {sig : MethodDescriptor} (hp : parseMethodDescriptor x0.desc = some sig) (hn : argsL.length = sig.parameters.length) (has : (.ref b :: argsL).toArray = as) (hst : st = argsL.reverse ++ .ref b :: rest)
    {W : Nat} (hW : (rest.map fun v => v.category).sum ≤ W) (hd : decode c.code pc = .ok (.invokevirtual index, 3)) (hf : fr + 1 ≤ R.frames) (hl : W + (ml + 11) + lo ≤ R.locals) (hc : cells ≤ R.cells) (hs : slots ≤ R.slots)
    (k : ∀ (T' : State), Stand p l e R s m args below meth c T' locs cells slots → T'.heap = h → OGoes p.tables e below Φ (T'.setTop (mkF m (pc + 3) Ls (v.toList ++ rest)))) : OGoes p.tables e below Φ (T.setTop (mkF m pc Ls st)) := by
  obtain ⟨cq, kq, qa, qb, qc⟩ := isOf hZ eT E
  obtain ⟨v', vm1, ⟨T', L, kk, nn⟩, -, X', ⟨Lc, ⟨q1, q2, q3⟩, l1, l2, l3⟩, st'⟩ := X.virtualBackUp hx (x := x0) (y := y) hown (mvT hZ w1) (mvT hZ w2) (mvT hZ w3) hy (mvT hZ w3') (mvT hZ w4) (backOf (rm := ⟨fr, 0, 0, lo⟩) (Q := fun v' h' L' => v' = v ∧ h' = h ∧ L' = []) (W := W) (hM []) hZ w6 w5 hf hl) qa qc (g := mkF m pc Ls st) rfl hsz (Steps.refl _) (argsL := argsL) (rest := rest) (fun sg h => by cases hp.symm.trans h; exact hn) hst (by show 2 * 0 + _ ≤ _; omega) hd (fun _ _ => ⟨has, eT, hc, hs⟩)
  dsimp only [Pt.U, Pt.locs, Pt.cells, Pt.slots] at X' l1 l2 l3 st' q2
  subst l1 l2 l3 q1 q3
  rw [List.append_nil] at X'
  exact own_tr st' (k T' X' q2)
theorem own_stoA {a y : Addr} {kc : ClassId} {t0 ty : FieldType} {n : Int32} {vs : List Value} {d : Value} {C : String} (A : Arv Z h a kc t0 n vs d) (O : OvrA Z kc ty C) (I : Ins Z h y C true) : Sto Z h a (.ref y) := by
  obtain ⟨cl, Ar, q1, -⟩ := A
  exact Sto.ofVA Ar q1 O I
theorem own_sto {a y : Addr} {kc : ClassId} {t0 : FieldType} {n : Int32} {vs : List Value} {d : Value} {C : String} (A : Arv Z h a kc t0 n vs d) (O : Ovr Z kc C) (I : Ins Z h y C true) : Sto Z h a (.ref y) := by
  obtain ⟨cl, Ar, q1, -⟩ := A
  exact Sto.ofV Ar q1 O I
theorem own_arrR {t : Term} {a : Addr} {ty : FieldType} {n : Int32} (ht : t.eval args s none [] s = some (.ref a)) (h1 : (Jvm.Cond.arrayOf t ty).value args s none s [] = some true) (h2 : (Jvm.Cond.eq (.length t) (.int n)).value args s none s [] = some true) : ∃ cl, Arr s s.heap a cl ty ∧ cl.slots.size < 2 ^ 31 ∧ cl.slots.size.toInt32 = n := by
  obtain ⟨cl, A⟩ := Arr.start ht h1
  have ha := Arr.fin (Vm.Alike.refl _) A
  have hl : cl.slots.size < 2 ^ 31 := by
    refine Nat.lt_of_not_le fun q => ?_
    have e : (Term.length t).eval args s none [] s = none := by simp [Term.eval, ht, ha, q]
    simp [Cond.value, e] at h2
  have e1 : (Term.length t).eval args s none [] s = some (.int cl.slots.size.toInt32) := len_f ht ha hl
  have e2 : (Term.int n).eval args s none [] s = some (.int n) := rfl
  exact ⟨cl, A, hl, by simpa [Cond.value, e1, e2] using h2⟩
theorem own_elemR {t u : Term} {a w : Addr} {cl : Cell} {ty : FieldType} {k : Int32} (A : Arr s s.heap a cl ty) (ht : t.eval args s none [] s = some (.ref a)) (hu : u.eval args s none [] s = some (.ref w)) (h : (Jvm.Cond.eq (.elem t (.int k)) u).value args s none s [] = some true) : cl.slots[k.toNatClampNeg]? = some (.ref w) := by
  obtain ⟨v, y, e1, e2, -, -⟩ := cmp_v (Or.inl h)
  obtain rfl : y = .ref w := Option.some.inj (e2.symm.trans hu)
  have q := (elem_in e1 ht rfl A.1).2
  rw [q]
  cases v <;> simp [Cond.value, e1, e2] at h
  rw [h]
theorem own_elemI {t : Term} {a : Addr} {cl : Cell} {ty : FieldType} {k x : Int32} (A : Arr s s.heap a cl ty) (ht : t.eval args s none [] s = some (.ref a)) (h : (Jvm.Cond.eq (.elem t (.int k)) (.int x)).value args s none s [] = some true) : cl.slots[k.toNatClampNeg]? = some (.int x) := by
  obtain ⟨v, y, e1, e2, -, -⟩ := cmp_v (Or.inl h)
  obtain rfl : y = .int x := Option.some.inj (e2.symm.trans rfl)
  have q := (elem_in e1 ht rfl A.1).2
  rw [q]
  cases v <;> simp [Cond.value, e1, e2] at h
  rw [h]
theorem own_callP (X : Stand p l e R s m args below meth c T locs cells slots) (hx : p.tables.exec = Jvm.exec) (hZ : Z.Warmed39 s.vm) {own : String} {index nn : Nat} {y : MethodName} {bytes : ByteArray} {ml : Nat} {ret : Option FieldType} {rm : Room} {as : Array Value} {Q : Option Value → Heap → List Loc → Prop}
    (hown : s.vm.findClass own = some m.cls) (w1 : (Jvm.Cond.methodLink own index y).before a0 Z = true) (w2 : (Jvm.Cond.privateMethod y).before a0 Z = true) (w3 : (Jvm.Cond.instantiable y.cls nn).before a0 Z = true) (w4 : (Jvm.Cond.instanceMethod y).before a0 Z = true) (w5 : (Jvm.Cond.initialized y.cls).before a0 Z = true) (w6 : (Jvm.Cond.code y bytes ml ret).before a0 Z = true) (hy : y.cls ≠ "java/lang/invoke/MethodHandle" ∧ y.cls ≠ "java/lang/invoke/VarHandle")
    (hM : OMet l Z y bytes ml ret rm as h Q) (eT : T.heap = h) {b : Addr} (E : Exa Z h b y.cls) {pc : Nat} {Ls : Array Slot} {st : List Value} (hsz : Ls.size = c.maxLocals) {argsL rest : List Value} {sig : MethodDescriptor} (hp : parseMethodDescriptor y.desc = some sig) (hn : argsL.length = sig.parameters.length) (has : (.ref b :: argsL).toArray = as) (hst : st = argsL.reverse ++ .ref b :: rest)
    {W : Nat} (hW : (rest.map fun v => v.category).sum ≤ W) (hd : decode c.code pc = .ok (.invokevirtual index, 3)) (hf : rm.frames + 1 ≤ R.frames) (hl : W + (ml + 11) + rm.locals ≤ R.locals) (hc : cells + rm.cells ≤ R.cells) (hs : slots + rm.slots ≤ R.slots)
    (k : ∀ (v : Option Value) (T' : State) (L' : List Loc), Stand p l e R s m args below meth c T' (locs ++ L') (cells + rm.cells) (slots + rm.slots) → Q v T'.heap L' → OGoes p.tables e below Φ (T'.setTop (mkF m (pc + 3) Ls (v.toList ++ rest)))) : OGoes p.tables e below Φ (T.setTop (mkF m pc Ls st)) := by
  obtain ⟨cq, q, q'⟩ := E.cell
  have hp' := Cond.privateMethod_at (mvP hZ w2 (args := #[]))
  obtain ⟨c0, k0, i1, i2, -, i4, -⟩ := Cond.instantiable_spec (mvT (args := args) hZ w3)
  have hsel := selects_self_of_private i1 i2 (Bool.or_eq_false_iff.mp i4).1 hp' (mvT (args := args) hZ w4) hy
  obtain ⟨v, vm1, ⟨T', L, kk, nn⟩, -, X', ⟨Lc, hQ, l1, l2, l3⟩, st'⟩ := X.privateBack hx (y := y) hown (mvT hZ w1) (mvT hZ w4) hsel hp' (mvT hZ w6) hy (backOf (W := W) (hM []) hZ w6 w5 hf hl) (g := mkF m pc Ls st) rfl hsz (Steps.refl _) (a := b) (by rw [eT]; exact q) q' (argsL := argsL) (rest := rest) (fun sg h => by cases hp.symm.trans h; exact hn) hst (by show 2 * 0 + _ ≤ _; omega) hd (fun _ _ => ⟨has, eT, hc, hs⟩)
  dsimp only [Pt.U, Pt.locs, Pt.cells, Pt.slots] at X' l1 l2 l3 st' hQ
  subst l1 l2 l3
  exact own_tr st' (k v T' Lc X' hQ)
theorem own_callP0 (X : Stand p l e R s m args below meth c T locs cells slots) (hx : p.tables.exec = Jvm.exec) (hZ : Z.Warmed39 s.vm) {own : String} {index nn : Nat} {y : MethodName} {bytes : ByteArray} {ml : Nat} {ret : Option FieldType} {fr lo : Nat} {as : Array Value} {v : Option Value}
    (hown : s.vm.findClass own = some m.cls) (w1 : (Jvm.Cond.methodLink own index y).before a0 Z = true) (w2 : (Jvm.Cond.privateMethod y).before a0 Z = true) (w3 : (Jvm.Cond.instantiable y.cls nn).before a0 Z = true) (w4 : (Jvm.Cond.instanceMethod y).before a0 Z = true) (w5 : (Jvm.Cond.initialized y.cls).before a0 Z = true) (w6 : (Jvm.Cond.code y bytes ml ret).before a0 Z = true) (hy : y.cls ≠ "java/lang/invoke/MethodHandle" ∧ y.cls ≠ "java/lang/invoke/VarHandle")
    (hM : OPure l Z y bytes ml ret fr lo as h v) (eT : T.heap = h) {b : Addr} (E : Exa Z h b y.cls) {pc : Nat} {Ls : Array Slot} {st : List Value} (hsz : Ls.size = c.maxLocals) {argsL rest : List Value} {sig : MethodDescriptor} (hp : parseMethodDescriptor y.desc = some sig) (hn : argsL.length = sig.parameters.length) (has : (.ref b :: argsL).toArray = as) (hst : st = argsL.reverse ++ .ref b :: rest)
    {W : Nat} (hW : (rest.map fun v => v.category).sum ≤ W) (hd : decode c.code pc = .ok (.invokevirtual index, 3)) (hf : fr + 1 ≤ R.frames) (hl : W + (ml + 11) + lo ≤ R.locals) (hc : cells ≤ R.cells) (hs : slots ≤ R.slots)
    (k : ∀ (T' : State), Stand p l e R s m args below meth c T' locs cells slots → T'.heap = h → OGoes p.tables e below Φ (T'.setTop (mkF m (pc + 3) Ls (v.toList ++ rest)))) : OGoes p.tables e below Φ (T.setTop (mkF m pc Ls st)) := by
  refine own_callP X hx hZ hown w1 w2 w3 w4 w5 w6 hy hM eT E hsz hp hn has hst hW hd hf hl hc hs ?_
  rintro v' T' L' X' ⟨rfl, e', rfl⟩
  rw [List.append_nil] at X'
  exact k T' X' e'
theorem own_acopy (X : Stand p l e R s m args below meth c T locs cells slots) (hx : p.tables.exec = Jvm.exec) (hZ : Z.Warmed39 s.vm) (eT : T.heap = h) {own : String} {index : Nat} (hown : s.vm.findClass own = some m.cls) (w1 : (Jvm.Cond.methodLink own index Jvm.Stand.acN).before a0 Z = true) (w2 : (Jvm.Cond.native Jvm.Stand.acN).before a0 Z = true) (w3 : (Jvm.Cond.static Jvm.Stand.acN).before a0 Z = true) (w4 : (Jvm.Cond.initialized "java/lang/System").before a0 Z = true)
    {a b : Addr} {kc k' : ClassId} {ty : FieldType} {z z' sp dp nn : Int32} {vs vd us : List Value} {dv dd : Value} (A : Arv Z h a kc ty z vs dv) (B : Arv Z h b k' ty z' vd dd) (hty : refKind ty = false) (h1 : ¬ sp < 0) (h2 : ¬ dp < 0) (h3 : ¬ nn < 0) (h4 : sp.toNatClampNeg + nn.toNatClampNeg ≤ z.toNatClampNeg) (h5 : dp.toNatClampNeg + nn.toNatClampNeg ≤ z'.toNatClampNeg)
    (hus : us = (List.range nn.toNatClampNeg).map fun i => vs.getD (sp.toNatClampNeg + i) dv) (hl : dp.toNatClampNeg + nn.toNatClampNeg ≤ vd.length) {n0 : Nat} (N : Fr n0 locs) (ge : n0 ≤ b) {pc : Nat} {Ls : Array Slot} {rest : List Value} (hsz : Ls.size = c.maxLocals) (hd : decode c.code pc = .ok (.invokestatic index, 3)) (hf : 1 ≤ R.frames) {W : Nat} (hW : (rest.map fun v => v.category).sum ≤ W) (hlo : W + (nativeFrameWords "java/lang/System" "arraycopy" 5 + 11) ≤ R.locals)
    (kk : ∀ (T' : State) (h' : Heap) (L : List Loc), Stand p l e R s m args below meth c T' L cells slots → T'.heap = h' → Fr n0 L → Keep h h' [b] → Arv Z h' b k' ty z' (vd.take dp.toNatClampNeg ++ us ++ vd.drop (dp.toNatClampNeg + nn.toNatClampNeg)) dd → OGoes p.tables e below Φ (T'.setTop (mkF m (pc + 3) Ls rest))) : OGoes p.tables e below Φ (T.setTop (mkF m pc Ls (.int nn :: .int dp :: .ref b :: .int sp :: .ref a :: rest))) := by
  obtain ⟨T', h', L, X', e', N', K', A', st⟩ := cpA X hx hZ hown w1 w2 w3 w4 eT A B (Or.inl ⟨rfl, hty⟩) h1 h2 h3 h4 h5 hus hl N ge (g := mkF m pc Ls (.int nn :: .int dp :: .ref b :: .int sp :: .ref a :: rest)) rfl hsz rfl hd hf (W := W) (by show 2 * 0 + _ ≤ _; omega) hlo
  exact own_st st (kk T' h' L X' e' N' K' A')
end OwnKit
end Jvm.Pilot.@@N@@
namespace Jvm.Pilot.@@N@@
open Jvm Jvm.ClassFile Sem Op Lib Jvm.Free Jvm.Stand Jvm.LawKit Jvm.RoadKit Bundle Jvm.Pilot.@@N@@.Jvm.D
theorem pn_0 : plainName "com/example/mint4/mint4/PercentEncoding" = true := by first | (simp [plainName, overriddenIn]; done) | decide +kernel
theorem pn_1 : plainName "com/example/mint4/mint4/PercentEncodingKeepsPinLaw" = true := by first | (simp [plainName, overriddenIn]; done) | decide +kernel
theorem pd_0 : parseMethodDescriptor "(C)Z" = some ⟨[.char], some .boolean⟩ := by decide +kernel
theorem d1_0 : decode prog_29_method_12_code 0 = .ok (.iload_n 1, 1) := by decide +kernel
theorem d1_1 : decode prog_29_method_12_code 1 = .ok (.aload_n 0, 1) := by decide +kernel
theorem d1_2 : decode prog_29_method_12_code 2 = .ok (.getfield 31, 3) := by decide +kernel
theorem d1_5 : decode prog_29_method_12_code 5 = .ok (.arraylength, 1) := by decide +kernel
theorem d1_6 : decode prog_29_method_12_code 6 = .ok (.if_icmp .ge 16, 3) := by decide +kernel
theorem d1_9 : decode prog_29_method_12_code 9 = .ok (.aload_n 0, 1) := by decide +kernel
theorem d1_10 : decode prog_29_method_12_code 10 = .ok (.getfield 31, 3) := by decide +kernel
theorem d1_13 : decode prog_29_method_12_code 13 = .ok (.iload_n 1, 1) := by decide +kernel
theorem d1_14 : decode prog_29_method_12_code 14 = .ok (.baload, 1) := by decide +kernel
theorem d1_15 : decode prog_29_method_12_code 15 = .ok (.ifCond .eq 7, 3) := by decide +kernel
theorem d1_18 : decode prog_29_method_12_code 18 = .ok (.iconst 1, 1) := by decide +kernel
theorem d1_19 : decode prog_29_method_12_code 19 = .ok (.goto 4, 3) := by decide +kernel
theorem d1_22 : decode prog_29_method_12_code 22 = .ok (.iconst 0, 1) := by decide +kernel
theorem d1_23 : decode prog_29_method_12_code 23 = .ok (.ireturn, 1) := by decide +kernel
theorem ef_rmK (m : MethodId) (x0 : Addr) (x1 : Int32) : entryFrame m #[(.ref x0), (.int x1)] 2 = mkF m 0 #[.val (.ref x0), .val (.int x1)] [] := by first | (simp [entryFrame, mkF, argsToLocals, Value.category]; done) | rfl
set_option maxRecDepth 65536 in
set_option maxHeartbeats 40000000 in
theorem rmK (l : Launch) (Z : State) (a0 : Array Value) (hw : ∀ d ∈ tables_1, d.before a0 Z = true) (a ar : Addr) (cl : Cell) (c1 : Int32) (hc0 : ¬ c1 < 0) (h0 : Heap) (F : Fld Z h0 a "com/example/mint4/mint4/PercentEncoding" "kept" "[Z" (.ref ar)) (Tb : Tab Z h0 ar cl .boolean 128) :
    OPure l Z (⟨"com/example/mint4/mint4/PercentEncoding", "keeps", "(C)Z"⟩ : MethodName) prog_29_method_12_code 2 (some .boolean) 0 0 #[(.ref a), (.int c1)] h0 (some (.int (if c1 < 128 ∧ ¬ atv cl c1 = 0 then (1 : Int32) else 0))) := by
  refine own_body pn_0 ?_
  intro p e s m below meth c T0 X0 hx hby hml hZ hown hnm hret hlk e0
  replace hown : s.vm.findClass "com/example/mint4/mint4/PercentEncoding" = some m.cls := hown
  refine own_cast (ef_rmK m (a) (c1)) ?_
  show OGoes p.tables e below _ (T0.setTop (mkF m 0 #[.val (.ref a), .val (.int c1)] []))
  refine own_st (V := (T0.setTop (mkF m 1 #[.val (.ref a), .val (.int c1)] [(.int c1)]))) (fun t k => XS.iloadN X0.here hx rfl (hb hby d1_0) rfl k) ?_
  refine own_st (V := (T0.setTop (mkF m 2 #[.val (.ref a), .val (.int c1)] [(.ref a), (.int c1)]))) (fun t k => XS.aloadN X0.here hx rfl (hb hby d1_1) rfl rfl k) ?_
  refine own_getfield X0 hx hZ e0 hown (hw _ (List.mem_of_getElem? (i := 9) rfl)) Via.refl F (hb hby d1_2) ?_
  intro T1 X1 e1
  show OGoes p.tables e below _ (T1.setTop (mkF m 5 #[.val (.ref a), .val (.int c1)] [(.ref ar), (.int c1)]))
  refine own_st (V := (T1.setTop (mkF m 6 #[.val (.ref a), .val (.int c1)] [(.int (128 : Int32)), (.int c1)]))) (fun t k => X1.arraylength hx (by rw [e1]; exact (Tb.1).1) (State.isArrayOf_alike hZ.alike (Tb.1).2.1) (g := (mkF m 5 #[.val (.ref a), .val (.int c1)] [(.ref ar), (.int c1)])) rfl rfl (hb hby d1_5) t (by rw [len_of Tb.2.1 Tb.2.2.1]; exact k)) ?_
  by_cases h1 : c1 < (128 : Int32)
  · refine own_st (V := (T1.setTop (mkF m 9 #[.val (.ref a), .val (.int c1)] []))) (fun t k => XS.icmpNo X1.here hx rfl (hb hby d1_6) rfl (XT.ii_ge_f h1) k) ?_
    refine own_st (V := (T1.setTop (mkF m 10 #[.val (.ref a), .val (.int c1)] [(.ref a)]))) (fun t k => XS.aloadN X1.here hx rfl (hb hby d1_9) rfl rfl k) ?_
    refine own_getfield X1 hx hZ e1 hown (hw _ (List.mem_of_getElem? (i := 9) rfl)) Via.refl F (hb hby d1_10) ?_
    intro T2 X2 e2
    show OGoes p.tables e below _ (T2.setTop (mkF m 13 #[.val (.ref a), .val (.int c1)] [(.ref ar)]))
    refine own_st (V := (T2.setTop (mkF m 14 #[.val (.ref a), .val (.int c1)] [(.int c1), (.ref ar)]))) (fun t k => XS.iloadN X2.here hx rfl (hb hby d1_13) rfl k) ?_
    refine own_st (V := (T2.setTop (mkF m 15 #[.val (.ref a), .val (.int c1)] [(.int (atv cl c1))]))) (fun t k => X2.baloadBooleans hx (j := c1) (v := (.int (atv cl c1))) (by rw [e2]; exact (Tb.1).1) (State.isArrayOf_alike hZ.alike (Tb.1).2.1) (Tb.1).2.2 (inb_of Tb.2.1 ⟨hc0, h1⟩) (Tb.2.2.2 c1 (inb_of Tb.2.1 ⟨hc0, h1⟩)) (g := (mkF m 14 #[.val (.ref a), .val (.int c1)] [(.int c1), (.ref ar)])) rfl rfl (hb hby d1_14) t k) ?_
    by_cases h2 : (atv cl c1) = 0
    · refine own_st (V := (T2.setTop (mkF m 22 #[.val (.ref a), .val (.int c1)] []))) (fun t k => XS.ifYes X2.here hx rfl (pc0 := 15) (pc' := 22) rfl (hb hby d1_15) rfl (XT.i0_eq_t h2) (by decide) (by decide) k) ?_
      refine own_st (V := (T2.setTop (mkF m 23 #[.val (.ref a), .val (.int c1)] [(.int (0 : Int32))]))) (fun t k => XS.iconst X2.here hx rfl (hb hby d1_22) k) ?_
      exact own_retN X2 hx hlk (by simp) hret (hb hby d1_23) (by decide) (by decide) ⟨by rw [if_neg (fun q => q.2 h2)]; rfl, e2, rfl⟩
    · refine own_st (V := (T2.setTop (mkF m 18 #[.val (.ref a), .val (.int c1)] []))) (fun t k => XS.ifNo X2.here hx rfl (hb hby d1_15) rfl (XT.i0_eq_f h2) k) ?_
      refine own_st (V := (T2.setTop (mkF m 19 #[.val (.ref a), .val (.int c1)] [(.int (1 : Int32))]))) (fun t k => XS.iconst X2.here hx rfl (hb hby d1_18) k) ?_
      refine own_st (V := (T2.setTop (mkF m 23 #[.val (.ref a), .val (.int c1)] [(.int (1 : Int32))]))) (fun t k => XS.goto X2.here hx rfl (pc0 := 19) (pc' := 23) rfl (hb hby d1_19) (by decide) (by decide) k) ?_
      exact own_retN X2 hx hlk (by simp) hret (hb hby d1_23) (by decide) (by decide) ⟨by rw [if_pos ⟨h1, h2⟩]; rfl, e2, rfl⟩
  · refine own_st (V := (T1.setTop (mkF m 22 #[.val (.ref a), .val (.int c1)] []))) (fun t k => XS.icmpYes X1.here hx rfl (pc0 := 6) (pc' := 22) rfl (hb hby d1_6) rfl (XT.ii_ge_t h1) (by decide) (by decide) k) ?_
    refine own_st (V := (T1.setTop (mkF m 23 #[.val (.ref a), .val (.int c1)] [(.int (0 : Int32))]))) (fun t k => XS.iconst X1.here hx rfl (hb hby d1_22) k) ?_
    exact own_retN X1 hx hlk (by simp) hret (hb hby d1_23) (by decide) (by decide) ⟨by rw [if_neg (fun q => h1 q.1)]; rfl, e1, rfl⟩
theorem own_ifc {P Q : Prop} [Decidable P] [Decidable Q] (h : P ↔ Q) : (if P then (1 : Int32) else 0) = if Q then 1 else 0 := by
  by_cases q : Q
  · rw [if_pos q, if_pos (h.mpr q)]
  · rw [if_neg q, if_neg (fun p => q (h.mp p))]
theorem own_far {cc : Int32} {sp : Int32} (h : ¬ cc < 128) (hs : sp < 128) : ¬ (((¬ cc < 65 ∧ ¬ 90 < cc) ∨ (¬ cc < 97 ∧ ¬ 122 < cc) ∨ (¬ cc < 48 ∧ ¬ 57 < cc)) ∨ (cc = 45 ∨ cc = 46 ∨ cc = 95) ∨ cc = sp) := by
  simp only [Int32.lt_iff_toInt_lt, ← Int32.toInt_inj] at h hs ⊢
  simp only [show (128 : Int32).toInt = 128 from rfl, show (65 : Int32).toInt = 65 from rfl, show (90 : Int32).toInt = 90 from rfl, show (97 : Int32).toInt = 97 from rfl, show (122 : Int32).toInt = 122 from rfl, show (48 : Int32).toInt = 48 from rfl, show (57 : Int32).toInt = 57 from rfl, show (45 : Int32).toInt = 45 from rfl, show (46 : Int32).toInt = 46 from rfl, show (95 : Int32).toInt = 95 from rfl] at h hs ⊢
  omega
theorem own_keeps {x : Cell} {sp cc : Int32} (hk : ∀ cc : Int32, ¬ cc < 0 → cc < 128 → (¬ atv x cc = 0 ↔ (((¬ cc < 65 ∧ ¬ 90 < cc) ∨ (¬ cc < 97 ∧ ¬ 122 < cc) ∨ (¬ cc < 48 ∧ ¬ 57 < cc)) ∨ (cc = 45 ∨ cc = 46 ∨ cc = 95) ∨ cc = sp))) (hs : sp < 128) (hc0 : ¬ cc < 0) : (cc < 128 ∧ ¬ atv x cc = 0) ↔ (((¬ cc < 65 ∧ ¬ 90 < cc) ∨ (¬ cc < 97 ∧ ¬ 122 < cc) ∨ (¬ cc < 48 ∧ ¬ 57 < cc)) ∨ (cc = 45 ∨ cc = 46 ∨ cc = 95) ∨ cc = sp) := by
  by_cases h : cc < 128
  · rw [← hk cc hc0 h]; exact ⟨fun q => q.2, fun q => ⟨h, q⟩⟩
  · exact ⟨fun q => absurd q.1 h, fun q => absurd q (own_far h hs)⟩
theorem ef_rm0 (m : MethodId) (x0 : Int32) (x1 : Int32) : entryFrame m #[(.int x0), (.int x1)] maxLocals = mkF m 0 #[.val (.int x0), .val (.int x1), .unset, .unset, .unset, .unset, .unset, .unset] [] := by first | (simp [entryFrame, mkF, argsToLocals, Value.category, maxLocals]; done) | rfl
set_option maxRecDepth 65536 in
set_option maxHeartbeats 40000000 in
theorem rm0 (l : Launch) (Z : State) (a0 : Array Value) (hw : ∀ d ∈ tables_1, d.before a0 Z = true) (p1 p2 : Int32) (wF wR ar_wF ar_wR : Addr) (cl_wF cl_wR : Cell) (h0 : Heap) (S_FORM : Sta Z h0 "com/example/mint4/mint4/PercentEncoding" "FORM" "Lcom/example/mint4/mint4/PercentEncoding;" (.ref wF)) (S_RFC_3986 : Sta Z h0 "com/example/mint4/mint4/PercentEncoding" "RFC_3986" "Lcom/example/mint4/mint4/PercentEncoding;" (.ref wR)) (E_wF : Exa Z h0 wF "com/example/mint4/mint4/PercentEncoding") (F_wF : Fld Z h0 wF "com/example/mint4/mint4/PercentEncoding" "kept" "[Z" (.ref ar_wF)) (T_wF : Tab Z h0 ar_wF cl_wF .boolean 128) (E_wR : Exa Z h0 wR "com/example/mint4/mint4/PercentEncoding") (F_wR : Fld Z h0 wR "com/example/mint4/mint4/PercentEncoding" "kept" "[Z" (.ref ar_wR)) (T_wR : Tab Z h0 ar_wR cl_wR .boolean 128) (k_wF : ∀ cc : Int32, ¬ cc < 0 → cc < 128 → (¬ atv cl_wF cc = 0 ↔ (((¬ cc < 65 ∧ ¬ 90 < cc) ∨ (¬ cc < 97 ∧ ¬ 122 < cc) ∨ (¬ cc < 48 ∧ ¬ 57 < cc)) ∨ (cc = 45 ∨ cc = 46 ∨ cc = 95) ∨ cc = 42))) (k_wR : ∀ cc : Int32, ¬ cc < 0 → cc < 128 → (¬ atv cl_wR cc = 0 ↔ (((¬ cc < 65 ∧ ¬ 90 < cc) ∨ (¬ cc < 97 ∧ ¬ 122 < cc) ∨ (¬ cc < 48 ∧ ¬ 57 < cc)) ∨ (cc = 45 ∨ cc = 46 ∨ cc = 95) ∨ cc = 126))) :
    OMet l Z x code maxLocals ret room_1 #[(.int p1), (.int p2)] h0 (fun v h L => v = some (.int 1) ∧ Fr Z.heap.size L) := by
  refine own_body pn_1 ?_
  intro p e s m below meth c T0 X0 hx hby hml hZ hown hnm hret hlk e0
  replace hown : s.vm.findClass "com/example/mint4/mint4/PercentEncodingKeepsPinLaw" = some m.cls := hown
  refine own_cast (ef_rm0 m (p1) (p2)) ?_
  show OGoes p.tables e below _ (T0.setTop (mkF m 0 #[.val (.int p1), .val (.int p2), .unset, .unset, .unset, .unset, .unset, .unset] []))
  refine own_st (V := (T0.setTop (mkF m 1 #[.val (.int p1), .val (.int p2), .unset, .unset, .unset, .unset, .unset, .unset] [(.int p1)]))) (fun t k => XS.iloadN X0.here hx rfl (hb hby at_0) rfl k) ?_
  refine own_st (V := (T0.setTop (mkF m 3 #[.val (.int p1), .val (.int p2), .unset, .unset, .unset, .unset, .unset, .unset] [(.int (65535 : Int32)), (.int p1)]))) (fun t k => X0.ldcInt hx hown (mvT hZ (hw _ (List.mem_of_getElem? (i := 0) rfl))) (g := (mkF m 1 #[.val (.int p1), .val (.int p2), .unset, .unset, .unset, .unset, .unset, .unset] [(.int p1)])) rfl (hb hby at_1) t k) ?_
  refine own_st (V := (T0.setTop (mkF m 4 #[.val (.int p1), .val (.int p2), .unset, .unset, .unset, .unset, .unset, .unset] [(.int (p1 &&& (65535 : Int32)))]))) (fun t k => XS.iand X0.here hx rfl (hb hby at_3) rfl k) ?_
  refine own_st (V := (T0.setTop (mkF m 5 #[.val (.int p1), .val (.int p2), .unset, .unset, .unset, .unset, .unset, .unset] [(.int ((p1 &&& (65535 : Int32)).toUInt32.toUInt16.toUInt32.toInt32))]))) (fun t k => XS.i2c X0.here hx rfl (hb hby at_4) rfl k) ?_
  have K5 : ∀ (cc : Int32) (hc0 : ¬ cc < 0), OGoes p.tables e below (ODone room_1 s below (fun v h L => v = some (.int 1) ∧ Fr Z.heap.size L)) (T0.setTop (mkF m 5 #[.val (.int p1), .val (.int p2), .unset, .unset, .unset, .unset, .unset, .unset] [(.int cc)])) := by
    intro cc hc0
    refine own_st (V := (T0.setTop (mkF m 6 #[.val (.int p1), .val (.int p2), .val (.int cc), .unset, .unset, .unset, .unset, .unset] []))) (fun t k => XS.istoreN X0.here hx rfl (hb hby at_5) rfl (l' := #[.val (.int p1), .val (.int p2), .val (.int cc), .unset, .unset, .unset, .unset, .unset]) rfl k) ?_
    refine own_st (V := (T0.setTop (mkF m 7 #[.val (.int p1), .val (.int p2), .val (.int cc), .unset, .unset, .unset, .unset, .unset] [(.int p2)]))) (fun t k => XS.iloadN X0.here hx rfl (hb hby at_6) rfl k) ?_
    refine own_st (V := (T0.setTop (mkF m 8 #[.val (.int p1), .val (.int p2), .val (.int cc), .unset, .unset, .unset, .unset, .unset] [(.int (1 : Int32)), (.int p2)]))) (fun t k => XS.iconst X0.here hx rfl (hb hby at_7) k) ?_
    refine own_st (V := (T0.setTop (mkF m 9 #[.val (.int p1), .val (.int p2), .val (.int cc), .unset, .unset, .unset, .unset, .unset] [(.int (p2 &&& (1 : Int32)))]))) (fun t k => XS.iand X0.here hx rfl (hb hby at_8) rfl k) ?_
    by_cases hf : (p2 &&& (1 : Int32)) = 0
    · refine own_st (V := (T0.setTop (mkF m 16 #[.val (.int p1), .val (.int p2), .val (.int cc), .unset, .unset, .unset, .unset, .unset] []))) (fun t k => XS.ifYes X0.here hx rfl (pc0 := 9) (pc' := 16) rfl (hb hby at_9) rfl (XT.i0_eq_t hf) (by decide) (by decide) k) ?_
      refine own_st (V := (T0.setTop (mkF m 17 #[.val (.int p1), .val (.int p2), .val (.int cc), .unset, .unset, .unset, .unset, .unset] [(.int (0 : Int32))]))) (fun t k => XS.iconst X0.here hx rfl (hb hby at_16) k) ?_
      refine own_st (V := (T0.setTop (mkF m 18 #[.val (.int p1), .val (.int p2), .val (.int cc), .val (.int (0 : Int32)), .unset, .unset, .unset, .unset] []))) (fun t k => XS.istoreN X0.here hx rfl (hb hby at_17) rfl (l' := #[.val (.int p1), .val (.int p2), .val (.int cc), .val (.int (0 : Int32)), .unset, .unset, .unset, .unset]) rfl k) ?_
      refine own_st (V := (T0.setTop (mkF m 19 #[.val (.int p1), .val (.int p2), .val (.int cc), .val (.int (0 : Int32)), .unset, .unset, .unset, .unset] [(.int (0 : Int32))]))) (fun t k => XS.iloadN X0.here hx rfl (hb hby at_18) rfl k) ?_
      refine own_st (V := (T0.setTop (mkF m 28 #[.val (.int p1), .val (.int p2), .val (.int cc), .val (.int (0 : Int32)), .unset, .unset, .unset, .unset] []))) (fun t k => XS.ifYes X0.here hx rfl (pc0 := 19) (pc' := 28) rfl (hb hby at_19) rfl (XT.i0_eq_t (by decide)) (by decide) (by decide) k) ?_
      refine own_getstatic X0 hx hZ e0 hown (hw _ (List.mem_of_getElem? (i := 11) rfl)) S_RFC_3986 (hb hby at_28) ?_
      intro T3 X3 e3
      show OGoes p.tables e below _ (T3.setTop (mkF m 31 #[.val (.int p1), .val (.int p2), .val (.int cc), .val (.int (0 : Int32)), .unset, .unset, .unset, .unset] [(.ref wR)]))
      refine own_st (V := (T3.setTop (mkF m 33 #[.val (.int p1), .val (.int p2), .val (.int cc), .val (.int (0 : Int32)), .val (.ref wR), .unset, .unset, .unset] []))) (fun t k => XS.astore X3.here hx rfl (hb hby at_31) rfl rfl (l' := #[.val (.int p1), .val (.int p2), .val (.int cc), .val (.int (0 : Int32)), .val (.ref wR), .unset, .unset, .unset]) rfl k) ?_
      have K74 : ∀ (za : Int32) (ha : za = if ((¬ cc < 65 ∧ ¬ 90 < cc) ∨ (¬ cc < 97 ∧ ¬ 122 < cc) ∨ (¬ cc < 48 ∧ ¬ 57 < cc)) then 1 else 0), OGoes p.tables e below (ODone room_1 s below (fun v h L => v = some (.int 1) ∧ Fr Z.heap.size L)) (T3.setTop (mkF m 74 #[.val (.int p1), .val (.int p2), .val (.int cc), .val (.int (0 : Int32)), .val (.ref wR), .unset, .unset, .unset] [(.int za)])) := by
        intro za ha
        refine own_st (V := (T3.setTop (mkF m 76 #[.val (.int p1), .val (.int p2), .val (.int cc), .val (.int (0 : Int32)), .val (.ref wR), .val (.int za), .unset, .unset] []))) (fun t k => XS.istore X3.here hx rfl (hb hby at_74) rfl (l' := #[.val (.int p1), .val (.int p2), .val (.int cc), .val (.int (0 : Int32)), .val (.ref wR), .val (.int za), .unset, .unset]) rfl k) ?_
        refine own_st (V := (T3.setTop (mkF m 77 #[.val (.int p1), .val (.int p2), .val (.int cc), .val (.int (0 : Int32)), .val (.ref wR), .val (.int za), .unset, .unset] [(.int cc)]))) (fun t k => XS.iloadN X3.here hx rfl (hb hby at_76) rfl k) ?_
        refine own_st (V := (T3.setTop (mkF m 79 #[.val (.int p1), .val (.int p2), .val (.int cc), .val (.int (0 : Int32)), .val (.ref wR), .val (.int za), .unset, .unset] [(.int (45 : Int32)), (.int cc)]))) (fun t k => XS.bipush X3.here hx rfl (hb hby at_77) k) ?_
        have K99 : ∀ (zc : Int32) (hc : zc = if (cc = 45 ∨ cc = 46 ∨ cc = 95) then 1 else 0), OGoes p.tables e below (ODone room_1 s below (fun v h L => v = some (.int 1) ∧ Fr Z.heap.size L)) (T3.setTop (mkF m 99 #[.val (.int p1), .val (.int p2), .val (.int cc), .val (.int (0 : Int32)), .val (.ref wR), .val (.int za), .unset, .unset] [(.int zc)])) := by
          intro zc hc
          refine own_st (V := (T3.setTop (mkF m 101 #[.val (.int p1), .val (.int p2), .val (.int cc), .val (.int (0 : Int32)), .val (.ref wR), .val (.int za), .val (.int zc), .unset] []))) (fun t k => XS.istore X3.here hx rfl (hb hby at_99) rfl (l' := #[.val (.int p1), .val (.int p2), .val (.int cc), .val (.int (0 : Int32)), .val (.ref wR), .val (.int za), .val (.int zc), .unset]) rfl k) ?_
          refine own_st (V := (T3.setTop (mkF m 102 #[.val (.int p1), .val (.int p2), .val (.int cc), .val (.int (0 : Int32)), .val (.ref wR), .val (.int za), .val (.int zc), .unset] [(.int (0 : Int32))]))) (fun t k => XS.iloadN X3.here hx rfl (hb hby at_101) rfl k) ?_
          have K130 : ∀ (zs : Int32) (hs : zs = if cc = 126 then 1 else 0), OGoes p.tables e below (ODone room_1 s below (fun v h L => v = some (.int 1) ∧ Fr Z.heap.size L)) (T3.setTop (mkF m 130 #[.val (.int p1), .val (.int p2), .val (.int cc), .val (.int (0 : Int32)), .val (.ref wR), .val (.int za), .val (.int zc), .unset] [(.int zs)])) := by
            intro zs hs
            refine own_st (V := (T3.setTop (mkF m 132 #[.val (.int p1), .val (.int p2), .val (.int cc), .val (.int (0 : Int32)), .val (.ref wR), .val (.int za), .val (.int zc), .val (.int zs)] []))) (fun t k => XS.istore X3.here hx rfl (hb hby at_130) rfl (l' := #[.val (.int p1), .val (.int p2), .val (.int cc), .val (.int (0 : Int32)), .val (.ref wR), .val (.int za), .val (.int zc), .val (.int zs)]) rfl k) ?_
            refine own_st (V := (T3.setTop (mkF m 134 #[.val (.int p1), .val (.int p2), .val (.int cc), .val (.int (0 : Int32)), .val (.ref wR), .val (.int za), .val (.int zc), .val (.int zs)] [(.ref wR)]))) (fun t k => XS.aload X3.here hx rfl (hb hby at_132) rfl rfl k) ?_
            refine own_st (V := (T3.setTop (mkF m 135 #[.val (.int p1), .val (.int p2), .val (.int cc), .val (.int (0 : Int32)), .val (.ref wR), .val (.int za), .val (.int zc), .val (.int zs)] [(.int cc), (.ref wR)]))) (fun t k => XS.iloadN X3.here hx rfl (hb hby at_134) rfl k) ?_
            refine own_callV0 X3 hx hZ hown (hw _ (List.mem_of_getElem? (i := 4) rfl)) (hw _ (List.mem_of_getElem? (i := 5) rfl)) (hw _ (List.mem_of_getElem? (i := 7) rfl)) (hw _ (List.mem_of_getElem? (i := 6) rfl)) (hw _ (List.mem_of_getElem? (i := 2) rfl)) (hw _ (List.mem_of_getElem? (i := 8) rfl)) (by decide) (rmK l Z a0 hw wR ar_wR cl_wR cc hc0 h0 F_wR T_wR) e3 E_wR (by rw [hml]; rfl) (argsL := [(.int cc)]) (rest := []) pd_0 rfl rfl rfl (W := 0) (Nat.le_of_eq rfl) (hb hby at_135) (by decide) (by decide) (by decide) (by decide) ?_
            intro T4 X4 e4
            show OGoes p.tables e below _ (T4.setTop (mkF m 138 #[.val (.int p1), .val (.int p2), .val (.int cc), .val (.int (0 : Int32)), .val (.ref wR), .val (.int za), .val (.int zc), .val (.int zs)] [(.int (if cc < 128 ∧ ¬ atv cl_wR cc = 0 then (1 : Int32) else 0))]))
            refine own_st (V := (T4.setTop (mkF m 140 #[.val (.int p1), .val (.int p2), .val (.int cc), .val (.int (0 : Int32)), .val (.ref wR), .val (.int za), .val (.int zc), .val (.int zs)] [(.int za), (.int (if cc < 128 ∧ ¬ atv cl_wR cc = 0 then (1 : Int32) else 0))]))) (fun t k => XS.iload X4.here hx rfl (hb hby at_138) rfl k) ?_
            have K158 : ∀ (r : Int32) (hr : r = if ((¬ cc < 65 ∧ ¬ 90 < cc) ∨ (¬ cc < 97 ∧ ¬ 122 < cc) ∨ (¬ cc < 48 ∧ ¬ 57 < cc)) ∨ (cc = 45 ∨ cc = 46 ∨ cc = 95) ∨ cc = 126 then 1 else 0), OGoes p.tables e below (ODone room_1 s below (fun v h L => v = some (.int 1) ∧ Fr Z.heap.size L)) (T4.setTop (mkF m 158 #[.val (.int p1), .val (.int p2), .val (.int cc), .val (.int (0 : Int32)), .val (.ref wR), .val (.int za), .val (.int zc), .val (.int zs)] [(.int r), (.int (if cc < 128 ∧ ¬ atv cl_wR cc = 0 then (1 : Int32) else 0))])) := by
              intro r hr
              refine own_st (V := (T4.setTop (mkF m 161 #[.val (.int p1), .val (.int p2), .val (.int cc), .val (.int (0 : Int32)), .val (.ref wR), .val (.int za), .val (.int zc), .val (.int zs)] []))) (fun t k => XS.icmpNo X4.here hx rfl (hb hby at_158) rfl (XT.ii_ne_f (by rw [hr]; exact own_ifc (own_keeps k_wR (by decide) hc0))) k) ?_
              refine own_st (V := (T4.setTop (mkF m 162 #[.val (.int p1), .val (.int p2), .val (.int cc), .val (.int (0 : Int32)), .val (.ref wR), .val (.int za), .val (.int zc), .val (.int zs)] [(.int (1 : Int32))]))) (fun t k => XS.iconst X4.here hx rfl (hb hby at_161) k) ?_
              refine own_st (V := (T4.setTop (mkF m 166 #[.val (.int p1), .val (.int p2), .val (.int cc), .val (.int (0 : Int32)), .val (.ref wR), .val (.int za), .val (.int zc), .val (.int zs)] [(.int (1 : Int32))]))) (fun t k => XS.goto X4.here hx rfl (pc0 := 162) (pc' := 166) rfl (hb hby at_162) (by decide) (by decide) k) ?_
              exact own_retN X4 hx hlk (by simp) hret (hb hby at_166) (by decide) (by decide) ⟨rfl, Fr.nil _⟩
            by_cases ga : za = 0
            · refine own_st (V := (T4.setTop (mkF m 143 #[.val (.int p1), .val (.int p2), .val (.int cc), .val (.int (0 : Int32)), .val (.ref wR), .val (.int za), .val (.int zc), .val (.int zs)] [(.int (if cc < 128 ∧ ¬ atv cl_wR cc = 0 then (1 : Int32) else 0))]))) (fun t k => XS.ifNo X4.here hx rfl (hb hby at_140) rfl (XT.i0_ne_f ga) k) ?_
              refine own_st (V := (T4.setTop (mkF m 145 #[.val (.int p1), .val (.int p2), .val (.int cc), .val (.int (0 : Int32)), .val (.ref wR), .val (.int za), .val (.int zc), .val (.int zs)] [(.int zc), (.int (if cc < 128 ∧ ¬ atv cl_wR cc = 0 then (1 : Int32) else 0))]))) (fun t k => XS.iload X4.here hx rfl (hb hby at_143) rfl k) ?_
              by_cases gc : zc = 0
              · refine own_st (V := (T4.setTop (mkF m 148 #[.val (.int p1), .val (.int p2), .val (.int cc), .val (.int (0 : Int32)), .val (.ref wR), .val (.int za), .val (.int zc), .val (.int zs)] [(.int (if cc < 128 ∧ ¬ atv cl_wR cc = 0 then (1 : Int32) else 0))]))) (fun t k => XS.ifNo X4.here hx rfl (hb hby at_145) rfl (XT.i0_ne_f gc) k) ?_
                refine own_st (V := (T4.setTop (mkF m 150 #[.val (.int p1), .val (.int p2), .val (.int cc), .val (.int (0 : Int32)), .val (.ref wR), .val (.int za), .val (.int zc), .val (.int zs)] [(.int zs), (.int (if cc < 128 ∧ ¬ atv cl_wR cc = 0 then (1 : Int32) else 0))]))) (fun t k => XS.iload X4.here hx rfl (hb hby at_148) rfl k) ?_
                by_cases gs : zs = 0
                · refine own_st (V := (T4.setTop (mkF m 157 #[.val (.int p1), .val (.int p2), .val (.int cc), .val (.int (0 : Int32)), .val (.ref wR), .val (.int za), .val (.int zc), .val (.int zs)] [(.int (if cc < 128 ∧ ¬ atv cl_wR cc = 0 then (1 : Int32) else 0))]))) (fun t k => XS.ifYes X4.here hx rfl (pc0 := 150) (pc' := 157) rfl (hb hby at_150) rfl (XT.i0_eq_t gs) (by decide) (by decide) k) ?_
                  refine own_st (V := (T4.setTop (mkF m 158 #[.val (.int p1), .val (.int p2), .val (.int cc), .val (.int (0 : Int32)), .val (.ref wR), .val (.int za), .val (.int zc), .val (.int zs)] [(.int (0 : Int32)), (.int (if cc < 128 ∧ ¬ atv cl_wR cc = 0 then (1 : Int32) else 0))]))) (fun t k => XS.iconst X4.here hx rfl (hb hby at_157) k) ?_
                  exact K158 _ (by rw [ha] at ga; rw [hc] at gc; rw [hs] at gs; split at ga <;> split at gc <;> split at gs <;> simp_all)
                · refine own_st (V := (T4.setTop (mkF m 153 #[.val (.int p1), .val (.int p2), .val (.int cc), .val (.int (0 : Int32)), .val (.ref wR), .val (.int za), .val (.int zc), .val (.int zs)] [(.int (if cc < 128 ∧ ¬ atv cl_wR cc = 0 then (1 : Int32) else 0))]))) (fun t k => XS.ifNo X4.here hx rfl (hb hby at_150) rfl (XT.i0_eq_f gs) k) ?_
                  refine own_st (V := (T4.setTop (mkF m 154 #[.val (.int p1), .val (.int p2), .val (.int cc), .val (.int (0 : Int32)), .val (.ref wR), .val (.int za), .val (.int zc), .val (.int zs)] [(.int (1 : Int32)), (.int (if cc < 128 ∧ ¬ atv cl_wR cc = 0 then (1 : Int32) else 0))]))) (fun t k => XS.iconst X4.here hx rfl (hb hby at_153) k) ?_
                  refine own_st (V := (T4.setTop (mkF m 158 #[.val (.int p1), .val (.int p2), .val (.int cc), .val (.int (0 : Int32)), .val (.ref wR), .val (.int za), .val (.int zc), .val (.int zs)] [(.int (1 : Int32)), (.int (if cc < 128 ∧ ¬ atv cl_wR cc = 0 then (1 : Int32) else 0))]))) (fun t k => XS.goto X4.here hx rfl (pc0 := 154) (pc' := 158) rfl (hb hby at_154) (by decide) (by decide) k) ?_
                  exact K158 _ (by rw [hs] at gs; split at gs <;> simp_all)
              · refine own_st (V := (T4.setTop (mkF m 153 #[.val (.int p1), .val (.int p2), .val (.int cc), .val (.int (0 : Int32)), .val (.ref wR), .val (.int za), .val (.int zc), .val (.int zs)] [(.int (if cc < 128 ∧ ¬ atv cl_wR cc = 0 then (1 : Int32) else 0))]))) (fun t k => XS.ifYes X4.here hx rfl (pc0 := 145) (pc' := 153) rfl (hb hby at_145) rfl (XT.i0_ne_t gc) (by decide) (by decide) k) ?_
                refine own_st (V := (T4.setTop (mkF m 154 #[.val (.int p1), .val (.int p2), .val (.int cc), .val (.int (0 : Int32)), .val (.ref wR), .val (.int za), .val (.int zc), .val (.int zs)] [(.int (1 : Int32)), (.int (if cc < 128 ∧ ¬ atv cl_wR cc = 0 then (1 : Int32) else 0))]))) (fun t k => XS.iconst X4.here hx rfl (hb hby at_153) k) ?_
                refine own_st (V := (T4.setTop (mkF m 158 #[.val (.int p1), .val (.int p2), .val (.int cc), .val (.int (0 : Int32)), .val (.ref wR), .val (.int za), .val (.int zc), .val (.int zs)] [(.int (1 : Int32)), (.int (if cc < 128 ∧ ¬ atv cl_wR cc = 0 then (1 : Int32) else 0))]))) (fun t k => XS.goto X4.here hx rfl (pc0 := 154) (pc' := 158) rfl (hb hby at_154) (by decide) (by decide) k) ?_
                exact K158 _ (by rw [hc] at gc; split at gc <;> simp_all)
            · refine own_st (V := (T4.setTop (mkF m 153 #[.val (.int p1), .val (.int p2), .val (.int cc), .val (.int (0 : Int32)), .val (.ref wR), .val (.int za), .val (.int zc), .val (.int zs)] [(.int (if cc < 128 ∧ ¬ atv cl_wR cc = 0 then (1 : Int32) else 0))]))) (fun t k => XS.ifYes X4.here hx rfl (pc0 := 140) (pc' := 153) rfl (hb hby at_140) rfl (XT.i0_ne_t ga) (by decide) (by decide) k) ?_
              refine own_st (V := (T4.setTop (mkF m 154 #[.val (.int p1), .val (.int p2), .val (.int cc), .val (.int (0 : Int32)), .val (.ref wR), .val (.int za), .val (.int zc), .val (.int zs)] [(.int (1 : Int32)), (.int (if cc < 128 ∧ ¬ atv cl_wR cc = 0 then (1 : Int32) else 0))]))) (fun t k => XS.iconst X4.here hx rfl (hb hby at_153) k) ?_
              refine own_st (V := (T4.setTop (mkF m 158 #[.val (.int p1), .val (.int p2), .val (.int cc), .val (.int (0 : Int32)), .val (.ref wR), .val (.int za), .val (.int zc), .val (.int zs)] [(.int (1 : Int32)), (.int (if cc < 128 ∧ ¬ atv cl_wR cc = 0 then (1 : Int32) else 0))]))) (fun t k => XS.goto X4.here hx rfl (pc0 := 154) (pc' := 158) rfl (hb hby at_154) (by decide) (by decide) k) ?_
              exact K158 _ (by rw [ha] at ga; split at ga <;> simp_all)
          refine own_st (V := (T3.setTop (mkF m 119 #[.val (.int p1), .val (.int p2), .val (.int cc), .val (.int (0 : Int32)), .val (.ref wR), .val (.int za), .val (.int zc), .unset] []))) (fun t k => XS.ifYes X3.here hx rfl (pc0 := 102) (pc' := 119) rfl (hb hby at_102) rfl (XT.i0_eq_t (by decide)) (by decide) (by decide) k) ?_
          refine own_st (V := (T3.setTop (mkF m 120 #[.val (.int p1), .val (.int p2), .val (.int cc), .val (.int (0 : Int32)), .val (.ref wR), .val (.int za), .val (.int zc), .unset] [(.int cc)]))) (fun t k => XS.iloadN X3.here hx rfl (hb hby at_119) rfl k) ?_
          refine own_st (V := (T3.setTop (mkF m 122 #[.val (.int p1), .val (.int p2), .val (.int cc), .val (.int (0 : Int32)), .val (.ref wR), .val (.int za), .val (.int zc), .unset] [(.int (126 : Int32)), (.int cc)]))) (fun t k => XS.bipush X3.here hx rfl (hb hby at_120) k) ?_
          by_cases gs : cc = (126 : Int32)
          · refine own_st (V := (T3.setTop (mkF m 125 #[.val (.int p1), .val (.int p2), .val (.int cc), .val (.int (0 : Int32)), .val (.ref wR), .val (.int za), .val (.int zc), .unset] []))) (fun t k => XS.icmpNo X3.here hx rfl (hb hby at_122) rfl (XT.ii_ne_f gs) k) ?_
            refine own_st (V := (T3.setTop (mkF m 126 #[.val (.int p1), .val (.int p2), .val (.int cc), .val (.int (0 : Int32)), .val (.ref wR), .val (.int za), .val (.int zc), .unset] [(.int (1 : Int32))]))) (fun t k => XS.iconst X3.here hx rfl (hb hby at_125) k) ?_
            refine own_st (V := (T3.setTop (mkF m 130 #[.val (.int p1), .val (.int p2), .val (.int cc), .val (.int (0 : Int32)), .val (.ref wR), .val (.int za), .val (.int zc), .unset] [(.int (1 : Int32))]))) (fun t k => XS.goto X3.here hx rfl (pc0 := 126) (pc' := 130) rfl (hb hby at_126) (by decide) (by decide) k) ?_
            exact K130 _ (by simp [gs])
          · refine own_st (V := (T3.setTop (mkF m 129 #[.val (.int p1), .val (.int p2), .val (.int cc), .val (.int (0 : Int32)), .val (.ref wR), .val (.int za), .val (.int zc), .unset] []))) (fun t k => XS.icmpYes X3.here hx rfl (pc0 := 122) (pc' := 129) rfl (hb hby at_122) rfl (XT.ii_ne_t gs) (by decide) (by decide) k) ?_
            refine own_st (V := (T3.setTop (mkF m 130 #[.val (.int p1), .val (.int p2), .val (.int cc), .val (.int (0 : Int32)), .val (.ref wR), .val (.int za), .val (.int zc), .unset] [(.int (0 : Int32))]))) (fun t k => XS.iconst X3.here hx rfl (hb hby at_129) k) ?_
            exact K130 _ (by simp [gs])
        by_cases g1 : cc = (45 : Int32)
        · refine own_st (V := (T3.setTop (mkF m 94 #[.val (.int p1), .val (.int p2), .val (.int cc), .val (.int (0 : Int32)), .val (.ref wR), .val (.int za), .unset, .unset] []))) (fun t k => XS.icmpYes X3.here hx rfl (pc0 := 79) (pc' := 94) rfl (hb hby at_79) rfl (XT.ii_eq_t g1) (by decide) (by decide) k) ?_
          refine own_st (V := (T3.setTop (mkF m 95 #[.val (.int p1), .val (.int p2), .val (.int cc), .val (.int (0 : Int32)), .val (.ref wR), .val (.int za), .unset, .unset] [(.int (1 : Int32))]))) (fun t k => XS.iconst X3.here hx rfl (hb hby at_94) k) ?_
          refine own_st (V := (T3.setTop (mkF m 99 #[.val (.int p1), .val (.int p2), .val (.int cc), .val (.int (0 : Int32)), .val (.ref wR), .val (.int za), .unset, .unset] [(.int (1 : Int32))]))) (fun t k => XS.goto X3.here hx rfl (pc0 := 95) (pc' := 99) rfl (hb hby at_95) (by decide) (by decide) k) ?_
          exact K99 _ (by simp [g1])
        · refine own_st (V := (T3.setTop (mkF m 82 #[.val (.int p1), .val (.int p2), .val (.int cc), .val (.int (0 : Int32)), .val (.ref wR), .val (.int za), .unset, .unset] []))) (fun t k => XS.icmpNo X3.here hx rfl (hb hby at_79) rfl (XT.ii_eq_f g1) k) ?_
          refine own_st (V := (T3.setTop (mkF m 83 #[.val (.int p1), .val (.int p2), .val (.int cc), .val (.int (0 : Int32)), .val (.ref wR), .val (.int za), .unset, .unset] [(.int cc)]))) (fun t k => XS.iloadN X3.here hx rfl (hb hby at_82) rfl k) ?_
          refine own_st (V := (T3.setTop (mkF m 85 #[.val (.int p1), .val (.int p2), .val (.int cc), .val (.int (0 : Int32)), .val (.ref wR), .val (.int za), .unset, .unset] [(.int (46 : Int32)), (.int cc)]))) (fun t k => XS.bipush X3.here hx rfl (hb hby at_83) k) ?_
          by_cases g2 : cc = (46 : Int32)
          · refine own_st (V := (T3.setTop (mkF m 94 #[.val (.int p1), .val (.int p2), .val (.int cc), .val (.int (0 : Int32)), .val (.ref wR), .val (.int za), .unset, .unset] []))) (fun t k => XS.icmpYes X3.here hx rfl (pc0 := 85) (pc' := 94) rfl (hb hby at_85) rfl (XT.ii_eq_t g2) (by decide) (by decide) k) ?_
            refine own_st (V := (T3.setTop (mkF m 95 #[.val (.int p1), .val (.int p2), .val (.int cc), .val (.int (0 : Int32)), .val (.ref wR), .val (.int za), .unset, .unset] [(.int (1 : Int32))]))) (fun t k => XS.iconst X3.here hx rfl (hb hby at_94) k) ?_
            refine own_st (V := (T3.setTop (mkF m 99 #[.val (.int p1), .val (.int p2), .val (.int cc), .val (.int (0 : Int32)), .val (.ref wR), .val (.int za), .unset, .unset] [(.int (1 : Int32))]))) (fun t k => XS.goto X3.here hx rfl (pc0 := 95) (pc' := 99) rfl (hb hby at_95) (by decide) (by decide) k) ?_
            exact K99 _ (by simp [g2])
          · refine own_st (V := (T3.setTop (mkF m 88 #[.val (.int p1), .val (.int p2), .val (.int cc), .val (.int (0 : Int32)), .val (.ref wR), .val (.int za), .unset, .unset] []))) (fun t k => XS.icmpNo X3.here hx rfl (hb hby at_85) rfl (XT.ii_eq_f g2) k) ?_
            refine own_st (V := (T3.setTop (mkF m 89 #[.val (.int p1), .val (.int p2), .val (.int cc), .val (.int (0 : Int32)), .val (.ref wR), .val (.int za), .unset, .unset] [(.int cc)]))) (fun t k => XS.iloadN X3.here hx rfl (hb hby at_88) rfl k) ?_
            refine own_st (V := (T3.setTop (mkF m 91 #[.val (.int p1), .val (.int p2), .val (.int cc), .val (.int (0 : Int32)), .val (.ref wR), .val (.int za), .unset, .unset] [(.int (95 : Int32)), (.int cc)]))) (fun t k => XS.bipush X3.here hx rfl (hb hby at_89) k) ?_
            by_cases g3 : cc = (95 : Int32)
            · refine own_st (V := (T3.setTop (mkF m 94 #[.val (.int p1), .val (.int p2), .val (.int cc), .val (.int (0 : Int32)), .val (.ref wR), .val (.int za), .unset, .unset] []))) (fun t k => XS.icmpNo X3.here hx rfl (hb hby at_91) rfl (XT.ii_ne_f g3) k) ?_
              refine own_st (V := (T3.setTop (mkF m 95 #[.val (.int p1), .val (.int p2), .val (.int cc), .val (.int (0 : Int32)), .val (.ref wR), .val (.int za), .unset, .unset] [(.int (1 : Int32))]))) (fun t k => XS.iconst X3.here hx rfl (hb hby at_94) k) ?_
              refine own_st (V := (T3.setTop (mkF m 99 #[.val (.int p1), .val (.int p2), .val (.int cc), .val (.int (0 : Int32)), .val (.ref wR), .val (.int za), .unset, .unset] [(.int (1 : Int32))]))) (fun t k => XS.goto X3.here hx rfl (pc0 := 95) (pc' := 99) rfl (hb hby at_95) (by decide) (by decide) k) ?_
              exact K99 _ (by simp [g3])
            · refine own_st (V := (T3.setTop (mkF m 98 #[.val (.int p1), .val (.int p2), .val (.int cc), .val (.int (0 : Int32)), .val (.ref wR), .val (.int za), .unset, .unset] []))) (fun t k => XS.icmpYes X3.here hx rfl (pc0 := 91) (pc' := 98) rfl (hb hby at_91) rfl (XT.ii_ne_t g3) (by decide) (by decide) k) ?_
              refine own_st (V := (T3.setTop (mkF m 99 #[.val (.int p1), .val (.int p2), .val (.int cc), .val (.int (0 : Int32)), .val (.ref wR), .val (.int za), .unset, .unset] [(.int (0 : Int32))]))) (fun t k => XS.iconst X3.here hx rfl (hb hby at_98) k) ?_
              exact K99 _ (by simp [g1, g2, g3])
      have K69 : ∀ (ha : ((¬ cc < 65 ∧ ¬ 90 < cc) ∨ (¬ cc < 97 ∧ ¬ 122 < cc) ∨ (¬ cc < 48 ∧ ¬ 57 < cc))), OGoes p.tables e below (ODone room_1 s below (fun v h L => v = some (.int 1) ∧ Fr Z.heap.size L)) (T3.setTop (mkF m 69 #[.val (.int p1), .val (.int p2), .val (.int cc), .val (.int (0 : Int32)), .val (.ref wR), .unset, .unset, .unset] [])) := by
        intro ha
        refine own_st (V := (T3.setTop (mkF m 70 #[.val (.int p1), .val (.int p2), .val (.int cc), .val (.int (0 : Int32)), .val (.ref wR), .unset, .unset, .unset] [(.int (1 : Int32))]))) (fun t k => XS.iconst X3.here hx rfl (hb hby at_69) k) ?_
        refine own_st (V := (T3.setTop (mkF m 74 #[.val (.int p1), .val (.int p2), .val (.int cc), .val (.int (0 : Int32)), .val (.ref wR), .unset, .unset, .unset] [(.int (1 : Int32))]))) (fun t k => XS.goto X3.here hx rfl (pc0 := 70) (pc' := 74) rfl (hb hby at_70) (by decide) (by decide) k) ?_
        exact K74 _ (by rw [if_pos ha])
      have K73 : ∀ (ha : ¬ ((¬ cc < 65 ∧ ¬ 90 < cc) ∨ (¬ cc < 97 ∧ ¬ 122 < cc) ∨ (¬ cc < 48 ∧ ¬ 57 < cc))), OGoes p.tables e below (ODone room_1 s below (fun v h L => v = some (.int 1) ∧ Fr Z.heap.size L)) (T3.setTop (mkF m 73 #[.val (.int p1), .val (.int p2), .val (.int cc), .val (.int (0 : Int32)), .val (.ref wR), .unset, .unset, .unset] [])) := by
        intro ha
        refine own_st (V := (T3.setTop (mkF m 74 #[.val (.int p1), .val (.int p2), .val (.int cc), .val (.int (0 : Int32)), .val (.ref wR), .unset, .unset, .unset] [(.int (0 : Int32))]))) (fun t k => XS.iconst X3.here hx rfl (hb hby at_73) k) ?_
        exact K74 _ (by rw [if_neg ha])
      have K57 : ∀ (q1 : ¬ (¬ cc < 65 ∧ ¬ 90 < cc)) (q2 : ¬ (¬ cc < 97 ∧ ¬ 122 < cc)), OGoes p.tables e below (ODone room_1 s below (fun v h L => v = some (.int 1) ∧ Fr Z.heap.size L)) (T3.setTop (mkF m 57 #[.val (.int p1), .val (.int p2), .val (.int cc), .val (.int (0 : Int32)), .val (.ref wR), .unset, .unset, .unset] [])) := by
        intro q1 q2
        refine own_st (V := (T3.setTop (mkF m 58 #[.val (.int p1), .val (.int p2), .val (.int cc), .val (.int (0 : Int32)), .val (.ref wR), .unset, .unset, .unset] [(.int cc)]))) (fun t k => XS.iloadN X3.here hx rfl (hb hby at_57) rfl k) ?_
        refine own_st (V := (T3.setTop (mkF m 60 #[.val (.int p1), .val (.int p2), .val (.int cc), .val (.int (0 : Int32)), .val (.ref wR), .unset, .unset, .unset] [(.int (48 : Int32)), (.int cc)]))) (fun t k => XS.bipush X3.here hx rfl (hb hby at_58) k) ?_
        by_cases g1 : cc < (48 : Int32)
        · refine own_st (V := (T3.setTop (mkF m 73 #[.val (.int p1), .val (.int p2), .val (.int cc), .val (.int (0 : Int32)), .val (.ref wR), .unset, .unset, .unset] []))) (fun t k => XS.icmpYes X3.here hx rfl (pc0 := 60) (pc' := 73) rfl (hb hby at_60) rfl (XT.ii_lt_t g1) (by decide) (by decide) k) ?_
          exact K73 (fun q => q.elim q1 fun q => q.elim q2 fun q => q.1 g1)
        · refine own_st (V := (T3.setTop (mkF m 63 #[.val (.int p1), .val (.int p2), .val (.int cc), .val (.int (0 : Int32)), .val (.ref wR), .unset, .unset, .unset] []))) (fun t k => XS.icmpNo X3.here hx rfl (hb hby at_60) rfl (XT.ii_lt_f g1) k) ?_
          refine own_st (V := (T3.setTop (mkF m 64 #[.val (.int p1), .val (.int p2), .val (.int cc), .val (.int (0 : Int32)), .val (.ref wR), .unset, .unset, .unset] [(.int cc)]))) (fun t k => XS.iloadN X3.here hx rfl (hb hby at_63) rfl k) ?_
          refine own_st (V := (T3.setTop (mkF m 66 #[.val (.int p1), .val (.int p2), .val (.int cc), .val (.int (0 : Int32)), .val (.ref wR), .unset, .unset, .unset] [(.int (57 : Int32)), (.int cc)]))) (fun t k => XS.bipush X3.here hx rfl (hb hby at_64) k) ?_
          by_cases g2 : (57 : Int32) < cc
          · refine own_st (V := (T3.setTop (mkF m 73 #[.val (.int p1), .val (.int p2), .val (.int cc), .val (.int (0 : Int32)), .val (.ref wR), .unset, .unset, .unset] []))) (fun t k => XS.icmpYes X3.here hx rfl (pc0 := 66) (pc' := 73) rfl (hb hby at_66) rfl (XT.ii_gt_t g2) (by decide) (by decide) k) ?_
            exact K73 (fun q => q.elim q1 fun q => q.elim q2 fun q => q.2 g2)
          · refine own_st (V := (T3.setTop (mkF m 69 #[.val (.int p1), .val (.int p2), .val (.int cc), .val (.int (0 : Int32)), .val (.ref wR), .unset, .unset, .unset] []))) (fun t k => XS.icmpNo X3.here hx rfl (hb hby at_66) rfl (XT.ii_gt_f g2) k) ?_
            exact K69 (Or.inr (Or.inr ⟨g1, g2⟩))
      have K45 : ∀ (q1 : ¬ (¬ cc < 65 ∧ ¬ 90 < cc)), OGoes p.tables e below (ODone room_1 s below (fun v h L => v = some (.int 1) ∧ Fr Z.heap.size L)) (T3.setTop (mkF m 45 #[.val (.int p1), .val (.int p2), .val (.int cc), .val (.int (0 : Int32)), .val (.ref wR), .unset, .unset, .unset] [])) := by
        intro q1
        refine own_st (V := (T3.setTop (mkF m 46 #[.val (.int p1), .val (.int p2), .val (.int cc), .val (.int (0 : Int32)), .val (.ref wR), .unset, .unset, .unset] [(.int cc)]))) (fun t k => XS.iloadN X3.here hx rfl (hb hby at_45) rfl k) ?_
        refine own_st (V := (T3.setTop (mkF m 48 #[.val (.int p1), .val (.int p2), .val (.int cc), .val (.int (0 : Int32)), .val (.ref wR), .unset, .unset, .unset] [(.int (97 : Int32)), (.int cc)]))) (fun t k => XS.bipush X3.here hx rfl (hb hby at_46) k) ?_
        by_cases g1 : cc < (97 : Int32)
        · refine own_st (V := (T3.setTop (mkF m 57 #[.val (.int p1), .val (.int p2), .val (.int cc), .val (.int (0 : Int32)), .val (.ref wR), .unset, .unset, .unset] []))) (fun t k => XS.icmpYes X3.here hx rfl (pc0 := 48) (pc' := 57) rfl (hb hby at_48) rfl (XT.ii_lt_t g1) (by decide) (by decide) k) ?_
          exact K57 q1 (fun q => q.1 g1)
        · refine own_st (V := (T3.setTop (mkF m 51 #[.val (.int p1), .val (.int p2), .val (.int cc), .val (.int (0 : Int32)), .val (.ref wR), .unset, .unset, .unset] []))) (fun t k => XS.icmpNo X3.here hx rfl (hb hby at_48) rfl (XT.ii_lt_f g1) k) ?_
          refine own_st (V := (T3.setTop (mkF m 52 #[.val (.int p1), .val (.int p2), .val (.int cc), .val (.int (0 : Int32)), .val (.ref wR), .unset, .unset, .unset] [(.int cc)]))) (fun t k => XS.iloadN X3.here hx rfl (hb hby at_51) rfl k) ?_
          refine own_st (V := (T3.setTop (mkF m 54 #[.val (.int p1), .val (.int p2), .val (.int cc), .val (.int (0 : Int32)), .val (.ref wR), .unset, .unset, .unset] [(.int (122 : Int32)), (.int cc)]))) (fun t k => XS.bipush X3.here hx rfl (hb hby at_52) k) ?_
          by_cases g2 : (122 : Int32) < cc
          · refine own_st (V := (T3.setTop (mkF m 57 #[.val (.int p1), .val (.int p2), .val (.int cc), .val (.int (0 : Int32)), .val (.ref wR), .unset, .unset, .unset] []))) (fun t k => XS.icmpNo X3.here hx rfl (hb hby at_54) rfl (XT.ii_le_f g2) k) ?_
            exact K57 q1 (fun q => q.2 g2)
          · refine own_st (V := (T3.setTop (mkF m 69 #[.val (.int p1), .val (.int p2), .val (.int cc), .val (.int (0 : Int32)), .val (.ref wR), .unset, .unset, .unset] []))) (fun t k => XS.icmpYes X3.here hx rfl (pc0 := 54) (pc' := 69) rfl (hb hby at_54) rfl (XT.ii_le_t g2) (by decide) (by decide) k) ?_
            exact K69 (Or.inr (Or.inl ⟨g1, g2⟩))
      refine own_st (V := (T3.setTop (mkF m 34 #[.val (.int p1), .val (.int p2), .val (.int cc), .val (.int (0 : Int32)), .val (.ref wR), .unset, .unset, .unset] [(.int cc)]))) (fun t k => XS.iloadN X3.here hx rfl (hb hby at_33) rfl k) ?_
      refine own_st (V := (T3.setTop (mkF m 36 #[.val (.int p1), .val (.int p2), .val (.int cc), .val (.int (0 : Int32)), .val (.ref wR), .unset, .unset, .unset] [(.int (65 : Int32)), (.int cc)]))) (fun t k => XS.bipush X3.here hx rfl (hb hby at_34) k) ?_
      by_cases g1 : cc < (65 : Int32)
      · refine own_st (V := (T3.setTop (mkF m 45 #[.val (.int p1), .val (.int p2), .val (.int cc), .val (.int (0 : Int32)), .val (.ref wR), .unset, .unset, .unset] []))) (fun t k => XS.icmpYes X3.here hx rfl (pc0 := 36) (pc' := 45) rfl (hb hby at_36) rfl (XT.ii_lt_t g1) (by decide) (by decide) k) ?_
        exact K45 (fun q => q.1 g1)
      · refine own_st (V := (T3.setTop (mkF m 39 #[.val (.int p1), .val (.int p2), .val (.int cc), .val (.int (0 : Int32)), .val (.ref wR), .unset, .unset, .unset] []))) (fun t k => XS.icmpNo X3.here hx rfl (hb hby at_36) rfl (XT.ii_lt_f g1) k) ?_
        refine own_st (V := (T3.setTop (mkF m 40 #[.val (.int p1), .val (.int p2), .val (.int cc), .val (.int (0 : Int32)), .val (.ref wR), .unset, .unset, .unset] [(.int cc)]))) (fun t k => XS.iloadN X3.here hx rfl (hb hby at_39) rfl k) ?_
        refine own_st (V := (T3.setTop (mkF m 42 #[.val (.int p1), .val (.int p2), .val (.int cc), .val (.int (0 : Int32)), .val (.ref wR), .unset, .unset, .unset] [(.int (90 : Int32)), (.int cc)]))) (fun t k => XS.bipush X3.here hx rfl (hb hby at_40) k) ?_
        by_cases g2 : (90 : Int32) < cc
        · refine own_st (V := (T3.setTop (mkF m 45 #[.val (.int p1), .val (.int p2), .val (.int cc), .val (.int (0 : Int32)), .val (.ref wR), .unset, .unset, .unset] []))) (fun t k => XS.icmpNo X3.here hx rfl (hb hby at_42) rfl (XT.ii_le_f g2) k) ?_
          exact K45 (fun q => q.2 g2)
        · refine own_st (V := (T3.setTop (mkF m 69 #[.val (.int p1), .val (.int p2), .val (.int cc), .val (.int (0 : Int32)), .val (.ref wR), .unset, .unset, .unset] []))) (fun t k => XS.icmpYes X3.here hx rfl (pc0 := 42) (pc' := 69) rfl (hb hby at_42) rfl (XT.ii_le_t g2) (by decide) (by decide) k) ?_
          exact K69 (Or.inl ⟨g1, g2⟩)
    · refine own_st (V := (T0.setTop (mkF m 12 #[.val (.int p1), .val (.int p2), .val (.int cc), .unset, .unset, .unset, .unset, .unset] []))) (fun t k => XS.ifNo X0.here hx rfl (hb hby at_9) rfl (XT.i0_eq_f hf) k) ?_
      refine own_st (V := (T0.setTop (mkF m 13 #[.val (.int p1), .val (.int p2), .val (.int cc), .unset, .unset, .unset, .unset, .unset] [(.int (1 : Int32))]))) (fun t k => XS.iconst X0.here hx rfl (hb hby at_12) k) ?_
      refine own_st (V := (T0.setTop (mkF m 17 #[.val (.int p1), .val (.int p2), .val (.int cc), .unset, .unset, .unset, .unset, .unset] [(.int (1 : Int32))]))) (fun t k => XS.goto X0.here hx rfl (pc0 := 13) (pc' := 17) rfl (hb hby at_13) (by decide) (by decide) k) ?_
      refine own_st (V := (T0.setTop (mkF m 18 #[.val (.int p1), .val (.int p2), .val (.int cc), .val (.int (1 : Int32)), .unset, .unset, .unset, .unset] []))) (fun t k => XS.istoreN X0.here hx rfl (hb hby at_17) rfl (l' := #[.val (.int p1), .val (.int p2), .val (.int cc), .val (.int (1 : Int32)), .unset, .unset, .unset, .unset]) rfl k) ?_
      refine own_st (V := (T0.setTop (mkF m 19 #[.val (.int p1), .val (.int p2), .val (.int cc), .val (.int (1 : Int32)), .unset, .unset, .unset, .unset] [(.int (1 : Int32))]))) (fun t k => XS.iloadN X0.here hx rfl (hb hby at_18) rfl k) ?_
      refine own_st (V := (T0.setTop (mkF m 22 #[.val (.int p1), .val (.int p2), .val (.int cc), .val (.int (1 : Int32)), .unset, .unset, .unset, .unset] []))) (fun t k => XS.ifNo X0.here hx rfl (hb hby at_19) rfl (XT.i0_eq_f (by decide)) k) ?_
      refine own_getstatic X0 hx hZ e0 hown (hw _ (List.mem_of_getElem? (i := 1) rfl)) S_FORM (hb hby at_22) ?_
      intro T5 X5 e5
      show OGoes p.tables e below _ (T5.setTop (mkF m 25 #[.val (.int p1), .val (.int p2), .val (.int cc), .val (.int (1 : Int32)), .unset, .unset, .unset, .unset] [(.ref wF)]))
      refine own_st (V := (T5.setTop (mkF m 31 #[.val (.int p1), .val (.int p2), .val (.int cc), .val (.int (1 : Int32)), .unset, .unset, .unset, .unset] [(.ref wF)]))) (fun t k => XS.goto X5.here hx rfl (pc0 := 25) (pc' := 31) rfl (hb hby at_25) (by decide) (by decide) k) ?_
      refine own_st (V := (T5.setTop (mkF m 33 #[.val (.int p1), .val (.int p2), .val (.int cc), .val (.int (1 : Int32)), .val (.ref wF), .unset, .unset, .unset] []))) (fun t k => XS.astore X5.here hx rfl (hb hby at_31) rfl rfl (l' := #[.val (.int p1), .val (.int p2), .val (.int cc), .val (.int (1 : Int32)), .val (.ref wF), .unset, .unset, .unset]) rfl k) ?_
      have K74 : ∀ (za : Int32) (ha : za = if ((¬ cc < 65 ∧ ¬ 90 < cc) ∨ (¬ cc < 97 ∧ ¬ 122 < cc) ∨ (¬ cc < 48 ∧ ¬ 57 < cc)) then 1 else 0), OGoes p.tables e below (ODone room_1 s below (fun v h L => v = some (.int 1) ∧ Fr Z.heap.size L)) (T5.setTop (mkF m 74 #[.val (.int p1), .val (.int p2), .val (.int cc), .val (.int (1 : Int32)), .val (.ref wF), .unset, .unset, .unset] [(.int za)])) := by
        intro za ha
        refine own_st (V := (T5.setTop (mkF m 76 #[.val (.int p1), .val (.int p2), .val (.int cc), .val (.int (1 : Int32)), .val (.ref wF), .val (.int za), .unset, .unset] []))) (fun t k => XS.istore X5.here hx rfl (hb hby at_74) rfl (l' := #[.val (.int p1), .val (.int p2), .val (.int cc), .val (.int (1 : Int32)), .val (.ref wF), .val (.int za), .unset, .unset]) rfl k) ?_
        refine own_st (V := (T5.setTop (mkF m 77 #[.val (.int p1), .val (.int p2), .val (.int cc), .val (.int (1 : Int32)), .val (.ref wF), .val (.int za), .unset, .unset] [(.int cc)]))) (fun t k => XS.iloadN X5.here hx rfl (hb hby at_76) rfl k) ?_
        refine own_st (V := (T5.setTop (mkF m 79 #[.val (.int p1), .val (.int p2), .val (.int cc), .val (.int (1 : Int32)), .val (.ref wF), .val (.int za), .unset, .unset] [(.int (45 : Int32)), (.int cc)]))) (fun t k => XS.bipush X5.here hx rfl (hb hby at_77) k) ?_
        have K99 : ∀ (zc : Int32) (hc : zc = if (cc = 45 ∨ cc = 46 ∨ cc = 95) then 1 else 0), OGoes p.tables e below (ODone room_1 s below (fun v h L => v = some (.int 1) ∧ Fr Z.heap.size L)) (T5.setTop (mkF m 99 #[.val (.int p1), .val (.int p2), .val (.int cc), .val (.int (1 : Int32)), .val (.ref wF), .val (.int za), .unset, .unset] [(.int zc)])) := by
          intro zc hc
          refine own_st (V := (T5.setTop (mkF m 101 #[.val (.int p1), .val (.int p2), .val (.int cc), .val (.int (1 : Int32)), .val (.ref wF), .val (.int za), .val (.int zc), .unset] []))) (fun t k => XS.istore X5.here hx rfl (hb hby at_99) rfl (l' := #[.val (.int p1), .val (.int p2), .val (.int cc), .val (.int (1 : Int32)), .val (.ref wF), .val (.int za), .val (.int zc), .unset]) rfl k) ?_
          refine own_st (V := (T5.setTop (mkF m 102 #[.val (.int p1), .val (.int p2), .val (.int cc), .val (.int (1 : Int32)), .val (.ref wF), .val (.int za), .val (.int zc), .unset] [(.int (1 : Int32))]))) (fun t k => XS.iloadN X5.here hx rfl (hb hby at_101) rfl k) ?_
          have K130 : ∀ (zs : Int32) (hs : zs = if cc = 42 then 1 else 0), OGoes p.tables e below (ODone room_1 s below (fun v h L => v = some (.int 1) ∧ Fr Z.heap.size L)) (T5.setTop (mkF m 130 #[.val (.int p1), .val (.int p2), .val (.int cc), .val (.int (1 : Int32)), .val (.ref wF), .val (.int za), .val (.int zc), .unset] [(.int zs)])) := by
            intro zs hs
            refine own_st (V := (T5.setTop (mkF m 132 #[.val (.int p1), .val (.int p2), .val (.int cc), .val (.int (1 : Int32)), .val (.ref wF), .val (.int za), .val (.int zc), .val (.int zs)] []))) (fun t k => XS.istore X5.here hx rfl (hb hby at_130) rfl (l' := #[.val (.int p1), .val (.int p2), .val (.int cc), .val (.int (1 : Int32)), .val (.ref wF), .val (.int za), .val (.int zc), .val (.int zs)]) rfl k) ?_
            refine own_st (V := (T5.setTop (mkF m 134 #[.val (.int p1), .val (.int p2), .val (.int cc), .val (.int (1 : Int32)), .val (.ref wF), .val (.int za), .val (.int zc), .val (.int zs)] [(.ref wF)]))) (fun t k => XS.aload X5.here hx rfl (hb hby at_132) rfl rfl k) ?_
            refine own_st (V := (T5.setTop (mkF m 135 #[.val (.int p1), .val (.int p2), .val (.int cc), .val (.int (1 : Int32)), .val (.ref wF), .val (.int za), .val (.int zc), .val (.int zs)] [(.int cc), (.ref wF)]))) (fun t k => XS.iloadN X5.here hx rfl (hb hby at_134) rfl k) ?_
            refine own_callV0 X5 hx hZ hown (hw _ (List.mem_of_getElem? (i := 4) rfl)) (hw _ (List.mem_of_getElem? (i := 5) rfl)) (hw _ (List.mem_of_getElem? (i := 7) rfl)) (hw _ (List.mem_of_getElem? (i := 6) rfl)) (hw _ (List.mem_of_getElem? (i := 2) rfl)) (hw _ (List.mem_of_getElem? (i := 8) rfl)) (by decide) (rmK l Z a0 hw wF ar_wF cl_wF cc hc0 h0 F_wF T_wF) e5 E_wF (by rw [hml]; rfl) (argsL := [(.int cc)]) (rest := []) pd_0 rfl rfl rfl (W := 0) (Nat.le_of_eq rfl) (hb hby at_135) (by decide) (by decide) (by decide) (by decide) ?_
            intro T6 X6 e6
            show OGoes p.tables e below _ (T6.setTop (mkF m 138 #[.val (.int p1), .val (.int p2), .val (.int cc), .val (.int (1 : Int32)), .val (.ref wF), .val (.int za), .val (.int zc), .val (.int zs)] [(.int (if cc < 128 ∧ ¬ atv cl_wF cc = 0 then (1 : Int32) else 0))]))
            refine own_st (V := (T6.setTop (mkF m 140 #[.val (.int p1), .val (.int p2), .val (.int cc), .val (.int (1 : Int32)), .val (.ref wF), .val (.int za), .val (.int zc), .val (.int zs)] [(.int za), (.int (if cc < 128 ∧ ¬ atv cl_wF cc = 0 then (1 : Int32) else 0))]))) (fun t k => XS.iload X6.here hx rfl (hb hby at_138) rfl k) ?_
            have K158 : ∀ (r : Int32) (hr : r = if ((¬ cc < 65 ∧ ¬ 90 < cc) ∨ (¬ cc < 97 ∧ ¬ 122 < cc) ∨ (¬ cc < 48 ∧ ¬ 57 < cc)) ∨ (cc = 45 ∨ cc = 46 ∨ cc = 95) ∨ cc = 42 then 1 else 0), OGoes p.tables e below (ODone room_1 s below (fun v h L => v = some (.int 1) ∧ Fr Z.heap.size L)) (T6.setTop (mkF m 158 #[.val (.int p1), .val (.int p2), .val (.int cc), .val (.int (1 : Int32)), .val (.ref wF), .val (.int za), .val (.int zc), .val (.int zs)] [(.int r), (.int (if cc < 128 ∧ ¬ atv cl_wF cc = 0 then (1 : Int32) else 0))])) := by
              intro r hr
              refine own_st (V := (T6.setTop (mkF m 161 #[.val (.int p1), .val (.int p2), .val (.int cc), .val (.int (1 : Int32)), .val (.ref wF), .val (.int za), .val (.int zc), .val (.int zs)] []))) (fun t k => XS.icmpNo X6.here hx rfl (hb hby at_158) rfl (XT.ii_ne_f (by rw [hr]; exact own_ifc (own_keeps k_wF (by decide) hc0))) k) ?_
              refine own_st (V := (T6.setTop (mkF m 162 #[.val (.int p1), .val (.int p2), .val (.int cc), .val (.int (1 : Int32)), .val (.ref wF), .val (.int za), .val (.int zc), .val (.int zs)] [(.int (1 : Int32))]))) (fun t k => XS.iconst X6.here hx rfl (hb hby at_161) k) ?_
              refine own_st (V := (T6.setTop (mkF m 166 #[.val (.int p1), .val (.int p2), .val (.int cc), .val (.int (1 : Int32)), .val (.ref wF), .val (.int za), .val (.int zc), .val (.int zs)] [(.int (1 : Int32))]))) (fun t k => XS.goto X6.here hx rfl (pc0 := 162) (pc' := 166) rfl (hb hby at_162) (by decide) (by decide) k) ?_
              exact own_retN X6 hx hlk (by simp) hret (hb hby at_166) (by decide) (by decide) ⟨rfl, Fr.nil _⟩
            by_cases ga : za = 0
            · refine own_st (V := (T6.setTop (mkF m 143 #[.val (.int p1), .val (.int p2), .val (.int cc), .val (.int (1 : Int32)), .val (.ref wF), .val (.int za), .val (.int zc), .val (.int zs)] [(.int (if cc < 128 ∧ ¬ atv cl_wF cc = 0 then (1 : Int32) else 0))]))) (fun t k => XS.ifNo X6.here hx rfl (hb hby at_140) rfl (XT.i0_ne_f ga) k) ?_
              refine own_st (V := (T6.setTop (mkF m 145 #[.val (.int p1), .val (.int p2), .val (.int cc), .val (.int (1 : Int32)), .val (.ref wF), .val (.int za), .val (.int zc), .val (.int zs)] [(.int zc), (.int (if cc < 128 ∧ ¬ atv cl_wF cc = 0 then (1 : Int32) else 0))]))) (fun t k => XS.iload X6.here hx rfl (hb hby at_143) rfl k) ?_
              by_cases gc : zc = 0
              · refine own_st (V := (T6.setTop (mkF m 148 #[.val (.int p1), .val (.int p2), .val (.int cc), .val (.int (1 : Int32)), .val (.ref wF), .val (.int za), .val (.int zc), .val (.int zs)] [(.int (if cc < 128 ∧ ¬ atv cl_wF cc = 0 then (1 : Int32) else 0))]))) (fun t k => XS.ifNo X6.here hx rfl (hb hby at_145) rfl (XT.i0_ne_f gc) k) ?_
                refine own_st (V := (T6.setTop (mkF m 150 #[.val (.int p1), .val (.int p2), .val (.int cc), .val (.int (1 : Int32)), .val (.ref wF), .val (.int za), .val (.int zc), .val (.int zs)] [(.int zs), (.int (if cc < 128 ∧ ¬ atv cl_wF cc = 0 then (1 : Int32) else 0))]))) (fun t k => XS.iload X6.here hx rfl (hb hby at_148) rfl k) ?_
                by_cases gs : zs = 0
                · refine own_st (V := (T6.setTop (mkF m 157 #[.val (.int p1), .val (.int p2), .val (.int cc), .val (.int (1 : Int32)), .val (.ref wF), .val (.int za), .val (.int zc), .val (.int zs)] [(.int (if cc < 128 ∧ ¬ atv cl_wF cc = 0 then (1 : Int32) else 0))]))) (fun t k => XS.ifYes X6.here hx rfl (pc0 := 150) (pc' := 157) rfl (hb hby at_150) rfl (XT.i0_eq_t gs) (by decide) (by decide) k) ?_
                  refine own_st (V := (T6.setTop (mkF m 158 #[.val (.int p1), .val (.int p2), .val (.int cc), .val (.int (1 : Int32)), .val (.ref wF), .val (.int za), .val (.int zc), .val (.int zs)] [(.int (0 : Int32)), (.int (if cc < 128 ∧ ¬ atv cl_wF cc = 0 then (1 : Int32) else 0))]))) (fun t k => XS.iconst X6.here hx rfl (hb hby at_157) k) ?_
                  exact K158 _ (by rw [ha] at ga; rw [hc] at gc; rw [hs] at gs; split at ga <;> split at gc <;> split at gs <;> simp_all)
                · refine own_st (V := (T6.setTop (mkF m 153 #[.val (.int p1), .val (.int p2), .val (.int cc), .val (.int (1 : Int32)), .val (.ref wF), .val (.int za), .val (.int zc), .val (.int zs)] [(.int (if cc < 128 ∧ ¬ atv cl_wF cc = 0 then (1 : Int32) else 0))]))) (fun t k => XS.ifNo X6.here hx rfl (hb hby at_150) rfl (XT.i0_eq_f gs) k) ?_
                  refine own_st (V := (T6.setTop (mkF m 154 #[.val (.int p1), .val (.int p2), .val (.int cc), .val (.int (1 : Int32)), .val (.ref wF), .val (.int za), .val (.int zc), .val (.int zs)] [(.int (1 : Int32)), (.int (if cc < 128 ∧ ¬ atv cl_wF cc = 0 then (1 : Int32) else 0))]))) (fun t k => XS.iconst X6.here hx rfl (hb hby at_153) k) ?_
                  refine own_st (V := (T6.setTop (mkF m 158 #[.val (.int p1), .val (.int p2), .val (.int cc), .val (.int (1 : Int32)), .val (.ref wF), .val (.int za), .val (.int zc), .val (.int zs)] [(.int (1 : Int32)), (.int (if cc < 128 ∧ ¬ atv cl_wF cc = 0 then (1 : Int32) else 0))]))) (fun t k => XS.goto X6.here hx rfl (pc0 := 154) (pc' := 158) rfl (hb hby at_154) (by decide) (by decide) k) ?_
                  exact K158 _ (by rw [hs] at gs; split at gs <;> simp_all)
              · refine own_st (V := (T6.setTop (mkF m 153 #[.val (.int p1), .val (.int p2), .val (.int cc), .val (.int (1 : Int32)), .val (.ref wF), .val (.int za), .val (.int zc), .val (.int zs)] [(.int (if cc < 128 ∧ ¬ atv cl_wF cc = 0 then (1 : Int32) else 0))]))) (fun t k => XS.ifYes X6.here hx rfl (pc0 := 145) (pc' := 153) rfl (hb hby at_145) rfl (XT.i0_ne_t gc) (by decide) (by decide) k) ?_
                refine own_st (V := (T6.setTop (mkF m 154 #[.val (.int p1), .val (.int p2), .val (.int cc), .val (.int (1 : Int32)), .val (.ref wF), .val (.int za), .val (.int zc), .val (.int zs)] [(.int (1 : Int32)), (.int (if cc < 128 ∧ ¬ atv cl_wF cc = 0 then (1 : Int32) else 0))]))) (fun t k => XS.iconst X6.here hx rfl (hb hby at_153) k) ?_
                refine own_st (V := (T6.setTop (mkF m 158 #[.val (.int p1), .val (.int p2), .val (.int cc), .val (.int (1 : Int32)), .val (.ref wF), .val (.int za), .val (.int zc), .val (.int zs)] [(.int (1 : Int32)), (.int (if cc < 128 ∧ ¬ atv cl_wF cc = 0 then (1 : Int32) else 0))]))) (fun t k => XS.goto X6.here hx rfl (pc0 := 154) (pc' := 158) rfl (hb hby at_154) (by decide) (by decide) k) ?_
                exact K158 _ (by rw [hc] at gc; split at gc <;> simp_all)
            · refine own_st (V := (T6.setTop (mkF m 153 #[.val (.int p1), .val (.int p2), .val (.int cc), .val (.int (1 : Int32)), .val (.ref wF), .val (.int za), .val (.int zc), .val (.int zs)] [(.int (if cc < 128 ∧ ¬ atv cl_wF cc = 0 then (1 : Int32) else 0))]))) (fun t k => XS.ifYes X6.here hx rfl (pc0 := 140) (pc' := 153) rfl (hb hby at_140) rfl (XT.i0_ne_t ga) (by decide) (by decide) k) ?_
              refine own_st (V := (T6.setTop (mkF m 154 #[.val (.int p1), .val (.int p2), .val (.int cc), .val (.int (1 : Int32)), .val (.ref wF), .val (.int za), .val (.int zc), .val (.int zs)] [(.int (1 : Int32)), (.int (if cc < 128 ∧ ¬ atv cl_wF cc = 0 then (1 : Int32) else 0))]))) (fun t k => XS.iconst X6.here hx rfl (hb hby at_153) k) ?_
              refine own_st (V := (T6.setTop (mkF m 158 #[.val (.int p1), .val (.int p2), .val (.int cc), .val (.int (1 : Int32)), .val (.ref wF), .val (.int za), .val (.int zc), .val (.int zs)] [(.int (1 : Int32)), (.int (if cc < 128 ∧ ¬ atv cl_wF cc = 0 then (1 : Int32) else 0))]))) (fun t k => XS.goto X6.here hx rfl (pc0 := 154) (pc' := 158) rfl (hb hby at_154) (by decide) (by decide) k) ?_
              exact K158 _ (by rw [ha] at ga; split at ga <;> simp_all)
          refine own_st (V := (T5.setTop (mkF m 105 #[.val (.int p1), .val (.int p2), .val (.int cc), .val (.int (1 : Int32)), .val (.ref wF), .val (.int za), .val (.int zc), .unset] []))) (fun t k => XS.ifNo X5.here hx rfl (hb hby at_102) rfl (XT.i0_eq_f (by decide)) k) ?_
          refine own_st (V := (T5.setTop (mkF m 106 #[.val (.int p1), .val (.int p2), .val (.int cc), .val (.int (1 : Int32)), .val (.ref wF), .val (.int za), .val (.int zc), .unset] [(.int cc)]))) (fun t k => XS.iloadN X5.here hx rfl (hb hby at_105) rfl k) ?_
          refine own_st (V := (T5.setTop (mkF m 108 #[.val (.int p1), .val (.int p2), .val (.int cc), .val (.int (1 : Int32)), .val (.ref wF), .val (.int za), .val (.int zc), .unset] [(.int (42 : Int32)), (.int cc)]))) (fun t k => XS.bipush X5.here hx rfl (hb hby at_106) k) ?_
          by_cases gs : cc = (42 : Int32)
          · refine own_st (V := (T5.setTop (mkF m 111 #[.val (.int p1), .val (.int p2), .val (.int cc), .val (.int (1 : Int32)), .val (.ref wF), .val (.int za), .val (.int zc), .unset] []))) (fun t k => XS.icmpNo X5.here hx rfl (hb hby at_108) rfl (XT.ii_ne_f gs) k) ?_
            refine own_st (V := (T5.setTop (mkF m 112 #[.val (.int p1), .val (.int p2), .val (.int cc), .val (.int (1 : Int32)), .val (.ref wF), .val (.int za), .val (.int zc), .unset] [(.int (1 : Int32))]))) (fun t k => XS.iconst X5.here hx rfl (hb hby at_111) k) ?_
            refine own_st (V := (T5.setTop (mkF m 130 #[.val (.int p1), .val (.int p2), .val (.int cc), .val (.int (1 : Int32)), .val (.ref wF), .val (.int za), .val (.int zc), .unset] [(.int (1 : Int32))]))) (fun t k => XS.goto X5.here hx rfl (pc0 := 112) (pc' := 130) rfl (hb hby at_112) (by decide) (by decide) k) ?_
            exact K130 _ (by simp [gs])
          · refine own_st (V := (T5.setTop (mkF m 115 #[.val (.int p1), .val (.int p2), .val (.int cc), .val (.int (1 : Int32)), .val (.ref wF), .val (.int za), .val (.int zc), .unset] []))) (fun t k => XS.icmpYes X5.here hx rfl (pc0 := 108) (pc' := 115) rfl (hb hby at_108) rfl (XT.ii_ne_t gs) (by decide) (by decide) k) ?_
            refine own_st (V := (T5.setTop (mkF m 116 #[.val (.int p1), .val (.int p2), .val (.int cc), .val (.int (1 : Int32)), .val (.ref wF), .val (.int za), .val (.int zc), .unset] [(.int (0 : Int32))]))) (fun t k => XS.iconst X5.here hx rfl (hb hby at_115) k) ?_
            refine own_st (V := (T5.setTop (mkF m 130 #[.val (.int p1), .val (.int p2), .val (.int cc), .val (.int (1 : Int32)), .val (.ref wF), .val (.int za), .val (.int zc), .unset] [(.int (0 : Int32))]))) (fun t k => XS.goto X5.here hx rfl (pc0 := 116) (pc' := 130) rfl (hb hby at_116) (by decide) (by decide) k) ?_
            exact K130 _ (by simp [gs])
        by_cases g1 : cc = (45 : Int32)
        · refine own_st (V := (T5.setTop (mkF m 94 #[.val (.int p1), .val (.int p2), .val (.int cc), .val (.int (1 : Int32)), .val (.ref wF), .val (.int za), .unset, .unset] []))) (fun t k => XS.icmpYes X5.here hx rfl (pc0 := 79) (pc' := 94) rfl (hb hby at_79) rfl (XT.ii_eq_t g1) (by decide) (by decide) k) ?_
          refine own_st (V := (T5.setTop (mkF m 95 #[.val (.int p1), .val (.int p2), .val (.int cc), .val (.int (1 : Int32)), .val (.ref wF), .val (.int za), .unset, .unset] [(.int (1 : Int32))]))) (fun t k => XS.iconst X5.here hx rfl (hb hby at_94) k) ?_
          refine own_st (V := (T5.setTop (mkF m 99 #[.val (.int p1), .val (.int p2), .val (.int cc), .val (.int (1 : Int32)), .val (.ref wF), .val (.int za), .unset, .unset] [(.int (1 : Int32))]))) (fun t k => XS.goto X5.here hx rfl (pc0 := 95) (pc' := 99) rfl (hb hby at_95) (by decide) (by decide) k) ?_
          exact K99 _ (by simp [g1])
        · refine own_st (V := (T5.setTop (mkF m 82 #[.val (.int p1), .val (.int p2), .val (.int cc), .val (.int (1 : Int32)), .val (.ref wF), .val (.int za), .unset, .unset] []))) (fun t k => XS.icmpNo X5.here hx rfl (hb hby at_79) rfl (XT.ii_eq_f g1) k) ?_
          refine own_st (V := (T5.setTop (mkF m 83 #[.val (.int p1), .val (.int p2), .val (.int cc), .val (.int (1 : Int32)), .val (.ref wF), .val (.int za), .unset, .unset] [(.int cc)]))) (fun t k => XS.iloadN X5.here hx rfl (hb hby at_82) rfl k) ?_
          refine own_st (V := (T5.setTop (mkF m 85 #[.val (.int p1), .val (.int p2), .val (.int cc), .val (.int (1 : Int32)), .val (.ref wF), .val (.int za), .unset, .unset] [(.int (46 : Int32)), (.int cc)]))) (fun t k => XS.bipush X5.here hx rfl (hb hby at_83) k) ?_
          by_cases g2 : cc = (46 : Int32)
          · refine own_st (V := (T5.setTop (mkF m 94 #[.val (.int p1), .val (.int p2), .val (.int cc), .val (.int (1 : Int32)), .val (.ref wF), .val (.int za), .unset, .unset] []))) (fun t k => XS.icmpYes X5.here hx rfl (pc0 := 85) (pc' := 94) rfl (hb hby at_85) rfl (XT.ii_eq_t g2) (by decide) (by decide) k) ?_
            refine own_st (V := (T5.setTop (mkF m 95 #[.val (.int p1), .val (.int p2), .val (.int cc), .val (.int (1 : Int32)), .val (.ref wF), .val (.int za), .unset, .unset] [(.int (1 : Int32))]))) (fun t k => XS.iconst X5.here hx rfl (hb hby at_94) k) ?_
            refine own_st (V := (T5.setTop (mkF m 99 #[.val (.int p1), .val (.int p2), .val (.int cc), .val (.int (1 : Int32)), .val (.ref wF), .val (.int za), .unset, .unset] [(.int (1 : Int32))]))) (fun t k => XS.goto X5.here hx rfl (pc0 := 95) (pc' := 99) rfl (hb hby at_95) (by decide) (by decide) k) ?_
            exact K99 _ (by simp [g2])
          · refine own_st (V := (T5.setTop (mkF m 88 #[.val (.int p1), .val (.int p2), .val (.int cc), .val (.int (1 : Int32)), .val (.ref wF), .val (.int za), .unset, .unset] []))) (fun t k => XS.icmpNo X5.here hx rfl (hb hby at_85) rfl (XT.ii_eq_f g2) k) ?_
            refine own_st (V := (T5.setTop (mkF m 89 #[.val (.int p1), .val (.int p2), .val (.int cc), .val (.int (1 : Int32)), .val (.ref wF), .val (.int za), .unset, .unset] [(.int cc)]))) (fun t k => XS.iloadN X5.here hx rfl (hb hby at_88) rfl k) ?_
            refine own_st (V := (T5.setTop (mkF m 91 #[.val (.int p1), .val (.int p2), .val (.int cc), .val (.int (1 : Int32)), .val (.ref wF), .val (.int za), .unset, .unset] [(.int (95 : Int32)), (.int cc)]))) (fun t k => XS.bipush X5.here hx rfl (hb hby at_89) k) ?_
            by_cases g3 : cc = (95 : Int32)
            · refine own_st (V := (T5.setTop (mkF m 94 #[.val (.int p1), .val (.int p2), .val (.int cc), .val (.int (1 : Int32)), .val (.ref wF), .val (.int za), .unset, .unset] []))) (fun t k => XS.icmpNo X5.here hx rfl (hb hby at_91) rfl (XT.ii_ne_f g3) k) ?_
              refine own_st (V := (T5.setTop (mkF m 95 #[.val (.int p1), .val (.int p2), .val (.int cc), .val (.int (1 : Int32)), .val (.ref wF), .val (.int za), .unset, .unset] [(.int (1 : Int32))]))) (fun t k => XS.iconst X5.here hx rfl (hb hby at_94) k) ?_
              refine own_st (V := (T5.setTop (mkF m 99 #[.val (.int p1), .val (.int p2), .val (.int cc), .val (.int (1 : Int32)), .val (.ref wF), .val (.int za), .unset, .unset] [(.int (1 : Int32))]))) (fun t k => XS.goto X5.here hx rfl (pc0 := 95) (pc' := 99) rfl (hb hby at_95) (by decide) (by decide) k) ?_
              exact K99 _ (by simp [g3])
            · refine own_st (V := (T5.setTop (mkF m 98 #[.val (.int p1), .val (.int p2), .val (.int cc), .val (.int (1 : Int32)), .val (.ref wF), .val (.int za), .unset, .unset] []))) (fun t k => XS.icmpYes X5.here hx rfl (pc0 := 91) (pc' := 98) rfl (hb hby at_91) rfl (XT.ii_ne_t g3) (by decide) (by decide) k) ?_
              refine own_st (V := (T5.setTop (mkF m 99 #[.val (.int p1), .val (.int p2), .val (.int cc), .val (.int (1 : Int32)), .val (.ref wF), .val (.int za), .unset, .unset] [(.int (0 : Int32))]))) (fun t k => XS.iconst X5.here hx rfl (hb hby at_98) k) ?_
              exact K99 _ (by simp [g1, g2, g3])
      have K69 : ∀ (ha : ((¬ cc < 65 ∧ ¬ 90 < cc) ∨ (¬ cc < 97 ∧ ¬ 122 < cc) ∨ (¬ cc < 48 ∧ ¬ 57 < cc))), OGoes p.tables e below (ODone room_1 s below (fun v h L => v = some (.int 1) ∧ Fr Z.heap.size L)) (T5.setTop (mkF m 69 #[.val (.int p1), .val (.int p2), .val (.int cc), .val (.int (1 : Int32)), .val (.ref wF), .unset, .unset, .unset] [])) := by
        intro ha
        refine own_st (V := (T5.setTop (mkF m 70 #[.val (.int p1), .val (.int p2), .val (.int cc), .val (.int (1 : Int32)), .val (.ref wF), .unset, .unset, .unset] [(.int (1 : Int32))]))) (fun t k => XS.iconst X5.here hx rfl (hb hby at_69) k) ?_
        refine own_st (V := (T5.setTop (mkF m 74 #[.val (.int p1), .val (.int p2), .val (.int cc), .val (.int (1 : Int32)), .val (.ref wF), .unset, .unset, .unset] [(.int (1 : Int32))]))) (fun t k => XS.goto X5.here hx rfl (pc0 := 70) (pc' := 74) rfl (hb hby at_70) (by decide) (by decide) k) ?_
        exact K74 _ (by rw [if_pos ha])
      have K73 : ∀ (ha : ¬ ((¬ cc < 65 ∧ ¬ 90 < cc) ∨ (¬ cc < 97 ∧ ¬ 122 < cc) ∨ (¬ cc < 48 ∧ ¬ 57 < cc))), OGoes p.tables e below (ODone room_1 s below (fun v h L => v = some (.int 1) ∧ Fr Z.heap.size L)) (T5.setTop (mkF m 73 #[.val (.int p1), .val (.int p2), .val (.int cc), .val (.int (1 : Int32)), .val (.ref wF), .unset, .unset, .unset] [])) := by
        intro ha
        refine own_st (V := (T5.setTop (mkF m 74 #[.val (.int p1), .val (.int p2), .val (.int cc), .val (.int (1 : Int32)), .val (.ref wF), .unset, .unset, .unset] [(.int (0 : Int32))]))) (fun t k => XS.iconst X5.here hx rfl (hb hby at_73) k) ?_
        exact K74 _ (by rw [if_neg ha])
      have K57 : ∀ (q1 : ¬ (¬ cc < 65 ∧ ¬ 90 < cc)) (q2 : ¬ (¬ cc < 97 ∧ ¬ 122 < cc)), OGoes p.tables e below (ODone room_1 s below (fun v h L => v = some (.int 1) ∧ Fr Z.heap.size L)) (T5.setTop (mkF m 57 #[.val (.int p1), .val (.int p2), .val (.int cc), .val (.int (1 : Int32)), .val (.ref wF), .unset, .unset, .unset] [])) := by
        intro q1 q2
        refine own_st (V := (T5.setTop (mkF m 58 #[.val (.int p1), .val (.int p2), .val (.int cc), .val (.int (1 : Int32)), .val (.ref wF), .unset, .unset, .unset] [(.int cc)]))) (fun t k => XS.iloadN X5.here hx rfl (hb hby at_57) rfl k) ?_
        refine own_st (V := (T5.setTop (mkF m 60 #[.val (.int p1), .val (.int p2), .val (.int cc), .val (.int (1 : Int32)), .val (.ref wF), .unset, .unset, .unset] [(.int (48 : Int32)), (.int cc)]))) (fun t k => XS.bipush X5.here hx rfl (hb hby at_58) k) ?_
        by_cases g1 : cc < (48 : Int32)
        · refine own_st (V := (T5.setTop (mkF m 73 #[.val (.int p1), .val (.int p2), .val (.int cc), .val (.int (1 : Int32)), .val (.ref wF), .unset, .unset, .unset] []))) (fun t k => XS.icmpYes X5.here hx rfl (pc0 := 60) (pc' := 73) rfl (hb hby at_60) rfl (XT.ii_lt_t g1) (by decide) (by decide) k) ?_
          exact K73 (fun q => q.elim q1 fun q => q.elim q2 fun q => q.1 g1)
        · refine own_st (V := (T5.setTop (mkF m 63 #[.val (.int p1), .val (.int p2), .val (.int cc), .val (.int (1 : Int32)), .val (.ref wF), .unset, .unset, .unset] []))) (fun t k => XS.icmpNo X5.here hx rfl (hb hby at_60) rfl (XT.ii_lt_f g1) k) ?_
          refine own_st (V := (T5.setTop (mkF m 64 #[.val (.int p1), .val (.int p2), .val (.int cc), .val (.int (1 : Int32)), .val (.ref wF), .unset, .unset, .unset] [(.int cc)]))) (fun t k => XS.iloadN X5.here hx rfl (hb hby at_63) rfl k) ?_
          refine own_st (V := (T5.setTop (mkF m 66 #[.val (.int p1), .val (.int p2), .val (.int cc), .val (.int (1 : Int32)), .val (.ref wF), .unset, .unset, .unset] [(.int (57 : Int32)), (.int cc)]))) (fun t k => XS.bipush X5.here hx rfl (hb hby at_64) k) ?_
          by_cases g2 : (57 : Int32) < cc
          · refine own_st (V := (T5.setTop (mkF m 73 #[.val (.int p1), .val (.int p2), .val (.int cc), .val (.int (1 : Int32)), .val (.ref wF), .unset, .unset, .unset] []))) (fun t k => XS.icmpYes X5.here hx rfl (pc0 := 66) (pc' := 73) rfl (hb hby at_66) rfl (XT.ii_gt_t g2) (by decide) (by decide) k) ?_
            exact K73 (fun q => q.elim q1 fun q => q.elim q2 fun q => q.2 g2)
          · refine own_st (V := (T5.setTop (mkF m 69 #[.val (.int p1), .val (.int p2), .val (.int cc), .val (.int (1 : Int32)), .val (.ref wF), .unset, .unset, .unset] []))) (fun t k => XS.icmpNo X5.here hx rfl (hb hby at_66) rfl (XT.ii_gt_f g2) k) ?_
            exact K69 (Or.inr (Or.inr ⟨g1, g2⟩))
      have K45 : ∀ (q1 : ¬ (¬ cc < 65 ∧ ¬ 90 < cc)), OGoes p.tables e below (ODone room_1 s below (fun v h L => v = some (.int 1) ∧ Fr Z.heap.size L)) (T5.setTop (mkF m 45 #[.val (.int p1), .val (.int p2), .val (.int cc), .val (.int (1 : Int32)), .val (.ref wF), .unset, .unset, .unset] [])) := by
        intro q1
        refine own_st (V := (T5.setTop (mkF m 46 #[.val (.int p1), .val (.int p2), .val (.int cc), .val (.int (1 : Int32)), .val (.ref wF), .unset, .unset, .unset] [(.int cc)]))) (fun t k => XS.iloadN X5.here hx rfl (hb hby at_45) rfl k) ?_
        refine own_st (V := (T5.setTop (mkF m 48 #[.val (.int p1), .val (.int p2), .val (.int cc), .val (.int (1 : Int32)), .val (.ref wF), .unset, .unset, .unset] [(.int (97 : Int32)), (.int cc)]))) (fun t k => XS.bipush X5.here hx rfl (hb hby at_46) k) ?_
        by_cases g1 : cc < (97 : Int32)
        · refine own_st (V := (T5.setTop (mkF m 57 #[.val (.int p1), .val (.int p2), .val (.int cc), .val (.int (1 : Int32)), .val (.ref wF), .unset, .unset, .unset] []))) (fun t k => XS.icmpYes X5.here hx rfl (pc0 := 48) (pc' := 57) rfl (hb hby at_48) rfl (XT.ii_lt_t g1) (by decide) (by decide) k) ?_
          exact K57 q1 (fun q => q.1 g1)
        · refine own_st (V := (T5.setTop (mkF m 51 #[.val (.int p1), .val (.int p2), .val (.int cc), .val (.int (1 : Int32)), .val (.ref wF), .unset, .unset, .unset] []))) (fun t k => XS.icmpNo X5.here hx rfl (hb hby at_48) rfl (XT.ii_lt_f g1) k) ?_
          refine own_st (V := (T5.setTop (mkF m 52 #[.val (.int p1), .val (.int p2), .val (.int cc), .val (.int (1 : Int32)), .val (.ref wF), .unset, .unset, .unset] [(.int cc)]))) (fun t k => XS.iloadN X5.here hx rfl (hb hby at_51) rfl k) ?_
          refine own_st (V := (T5.setTop (mkF m 54 #[.val (.int p1), .val (.int p2), .val (.int cc), .val (.int (1 : Int32)), .val (.ref wF), .unset, .unset, .unset] [(.int (122 : Int32)), (.int cc)]))) (fun t k => XS.bipush X5.here hx rfl (hb hby at_52) k) ?_
          by_cases g2 : (122 : Int32) < cc
          · refine own_st (V := (T5.setTop (mkF m 57 #[.val (.int p1), .val (.int p2), .val (.int cc), .val (.int (1 : Int32)), .val (.ref wF), .unset, .unset, .unset] []))) (fun t k => XS.icmpNo X5.here hx rfl (hb hby at_54) rfl (XT.ii_le_f g2) k) ?_
            exact K57 q1 (fun q => q.2 g2)
          · refine own_st (V := (T5.setTop (mkF m 69 #[.val (.int p1), .val (.int p2), .val (.int cc), .val (.int (1 : Int32)), .val (.ref wF), .unset, .unset, .unset] []))) (fun t k => XS.icmpYes X5.here hx rfl (pc0 := 54) (pc' := 69) rfl (hb hby at_54) rfl (XT.ii_le_t g2) (by decide) (by decide) k) ?_
            exact K69 (Or.inr (Or.inl ⟨g1, g2⟩))
      refine own_st (V := (T5.setTop (mkF m 34 #[.val (.int p1), .val (.int p2), .val (.int cc), .val (.int (1 : Int32)), .val (.ref wF), .unset, .unset, .unset] [(.int cc)]))) (fun t k => XS.iloadN X5.here hx rfl (hb hby at_33) rfl k) ?_
      refine own_st (V := (T5.setTop (mkF m 36 #[.val (.int p1), .val (.int p2), .val (.int cc), .val (.int (1 : Int32)), .val (.ref wF), .unset, .unset, .unset] [(.int (65 : Int32)), (.int cc)]))) (fun t k => XS.bipush X5.here hx rfl (hb hby at_34) k) ?_
      by_cases g1 : cc < (65 : Int32)
      · refine own_st (V := (T5.setTop (mkF m 45 #[.val (.int p1), .val (.int p2), .val (.int cc), .val (.int (1 : Int32)), .val (.ref wF), .unset, .unset, .unset] []))) (fun t k => XS.icmpYes X5.here hx rfl (pc0 := 36) (pc' := 45) rfl (hb hby at_36) rfl (XT.ii_lt_t g1) (by decide) (by decide) k) ?_
        exact K45 (fun q => q.1 g1)
      · refine own_st (V := (T5.setTop (mkF m 39 #[.val (.int p1), .val (.int p2), .val (.int cc), .val (.int (1 : Int32)), .val (.ref wF), .unset, .unset, .unset] []))) (fun t k => XS.icmpNo X5.here hx rfl (hb hby at_36) rfl (XT.ii_lt_f g1) k) ?_
        refine own_st (V := (T5.setTop (mkF m 40 #[.val (.int p1), .val (.int p2), .val (.int cc), .val (.int (1 : Int32)), .val (.ref wF), .unset, .unset, .unset] [(.int cc)]))) (fun t k => XS.iloadN X5.here hx rfl (hb hby at_39) rfl k) ?_
        refine own_st (V := (T5.setTop (mkF m 42 #[.val (.int p1), .val (.int p2), .val (.int cc), .val (.int (1 : Int32)), .val (.ref wF), .unset, .unset, .unset] [(.int (90 : Int32)), (.int cc)]))) (fun t k => XS.bipush X5.here hx rfl (hb hby at_40) k) ?_
        by_cases g2 : (90 : Int32) < cc
        · refine own_st (V := (T5.setTop (mkF m 45 #[.val (.int p1), .val (.int p2), .val (.int cc), .val (.int (1 : Int32)), .val (.ref wF), .unset, .unset, .unset] []))) (fun t k => XS.icmpNo X5.here hx rfl (hb hby at_42) rfl (XT.ii_le_f g2) k) ?_
          exact K45 (fun q => q.2 g2)
        · refine own_st (V := (T5.setTop (mkF m 69 #[.val (.int p1), .val (.int p2), .val (.int cc), .val (.int (1 : Int32)), .val (.ref wF), .unset, .unset, .unset] []))) (fun t k => XS.icmpYes X5.here hx rfl (pc0 := 42) (pc' := 69) rfl (hb hby at_42) rfl (XT.ii_le_t g2) (by decide) (by decide) k) ?_
          exact K69 (Or.inl ⟨g1, g2⟩)
  exact K5 _ (by have := c_i2c (p1 &&& 65535); rw [Int32.lt_iff_toInt_lt]; show ¬ _ < 0; omega)
set_option maxRecDepth 65536 in
set_option maxHeartbeats 40000000 in
theorem own_law (l : Launch) (s : State) (args : Array Value) (hw : ∀ d ∈ tables_1, d.before args s = true) (hfit : Fit s) (hg : given_1.value args s none s [] = some true) (hn : narrow_1.value args s none s [] = some true) :
    OMet l s x code maxLocals ret room_1 args s.heap (fun v h L => v = some (.int 1) ∧ Fr s.heap.size L) := by
  obtain ⟨g0, g1⟩ := and_e hg
  obtain ⟨w0, w1, rfl⟩ : ∃ w0 w1 : Value, args = #[w0, w1] := by
    have hs : args.size = 2 := by simpa [Cond.value, given_1] using g0
    obtain ⟨L⟩ := args
    match L, hs with
    | [w0, w1], _ => exact ⟨w0, w1, rfl⟩
  obtain ⟨q0, r0⟩ := and_e g1
  obtain ⟨i0, ei0⟩ := is_v q0
  obtain rfl : w0 = (.int i0) := Option.some.inj ei0
  obtain ⟨i1, ei1⟩ := is_v r0
  obtain rfl : w1 = (.int i1) := Option.some.inj ei1
  obtain ⟨c1, hn⟩ := and_e hn
  obtain ⟨c2, hn⟩ := and_e hn
  obtain ⟨c3, hn⟩ := and_e hn
  obtain ⟨c4, hn⟩ := and_e hn
  obtain ⟨c5, hn⟩ := and_e hn
  obtain ⟨c6, hn⟩ := and_e hn
  obtain ⟨c7, hn⟩ := and_e hn
  obtain ⟨c8, hn⟩ := and_e hn
  obtain ⟨c9, hn⟩ := and_e hn
  obtain ⟨c10, hn⟩ := and_e hn
  obtain ⟨c11, hn⟩ := and_e hn
  obtain ⟨c12, hn⟩ := and_e hn
  obtain ⟨c13, hn⟩ := and_e hn
  obtain ⟨c14, hn⟩ := and_e hn
  obtain ⟨c15, hn⟩ := and_e hn
  obtain ⟨c16, hn⟩ := and_e hn
  obtain ⟨c17, hn⟩ := and_e hn
  obtain ⟨c18, hn⟩ := and_e hn
  obtain ⟨c19, hn⟩ := and_e hn
  obtain ⟨c20, hn⟩ := and_e hn
  obtain ⟨c21, hn⟩ := and_e hn
  obtain ⟨c22, hn⟩ := and_e hn
  obtain ⟨c23, hn⟩ := and_e hn
  obtain ⟨c24, hn⟩ := and_e hn
  obtain ⟨c25, hn⟩ := and_e hn
  obtain ⟨c26, hn⟩ := and_e hn
  obtain ⟨c27, hn⟩ := and_e hn
  obtain ⟨c28, hn⟩ := and_e hn
  obtain ⟨c29, hn⟩ := and_e hn
  obtain ⟨c30, hn⟩ := and_e hn
  obtain ⟨c31, hn⟩ := and_e hn
  obtain ⟨c32, hn⟩ := and_e hn
  obtain ⟨c33, hn⟩ := and_e hn
  obtain ⟨c34, hn⟩ := and_e hn
  obtain ⟨c35, hn⟩ := and_e hn
  obtain ⟨c36, c37⟩ := and_e hn
  obtain ⟨wF, v_wF, S_wF, E_wF⟩ := own_static c1 ((hw _ (List.mem_of_getElem? (i := 2) rfl))) ((hw _ (List.mem_of_getElem? (i := 3) rfl)))
  obtain ⟨ar_wF, f_wF⟩ := arr_v c2
  obtain ⟨cl_wF, T_wF⟩ := own_arr hfit f_wF c2 c3 (Or.inr (Or.inl rfl)) (by decide)
  have F_wF := Fld.start ((fld_at v_wF).symm.trans f_wF)
  have k_wF : ∀ cc : Int32, ¬ cc < 0 → cc < 128 → (¬ atv cl_wF cc = 0 ↔ (((¬ cc < 65 ∧ ¬ 90 < cc) ∨ (¬ cc < 97 ∧ ¬ 122 < cc) ∨ (¬ cc < 48 ∧ ¬ 57 < cc)) ∨ (cc = 45 ∨ cc = 46 ∨ cc = 95) ∨ cc = 42)) := by
    intro cc hc0 hc1
    have f7 := own_all_lo T_wF (fun _ => f_wF) c7 cc hc0 hc1
    have f8 := own_one T_wF f_wF (by decide) (by decide) c8
    have f8' : ¬ cc = 42 ∨ atv cl_wF cc = 1 := one_at f8 cc
    have f9 := own_one T_wF f_wF (by decide) (by decide) c9
    have f9' : ¬ cc = 43 ∨ atv cl_wF cc = 0 := one_at f9 cc
    have f10 := own_one T_wF f_wF (by decide) (by decide) c10
    have f10' : ¬ cc = 44 ∨ atv cl_wF cc = 0 := one_at f10 cc
    have f11 := own_one T_wF f_wF (by decide) (by decide) c11
    have f11' : ¬ cc = 45 ∨ atv cl_wF cc = 1 := one_at f11 cc
    have f12 := own_one T_wF f_wF (by decide) (by decide) c12
    have f12' : ¬ cc = 46 ∨ atv cl_wF cc = 1 := one_at f12 cc
    have f13 := own_one T_wF f_wF (by decide) (by decide) c13
    have f13' : ¬ cc = 47 ∨ atv cl_wF cc = 0 := one_at f13 cc
    have f14 := own_all_mid T_wF (fun _ => f_wF) c14 cc hc0 hc1
    have f15 := own_all_mid T_wF (fun _ => f_wF) c15 cc hc0 hc1
    have f16 := own_all_mid T_wF (fun _ => f_wF) c16 cc hc0 hc1
    have f17 := own_all_mid T_wF (fun _ => f_wF) c17 cc hc0 hc1
    have f18 := own_one T_wF f_wF (by decide) (by decide) c18
    have f18' : ¬ cc = 95 ∨ atv cl_wF cc = 1 := one_at f18 cc
    have f19 := own_one T_wF f_wF (by decide) (by decide) c19
    have f19' : ¬ cc = 96 ∨ atv cl_wF cc = 0 := one_at f19 cc
    have f20 := own_all_mid T_wF (fun _ => f_wF) c20 cc hc0 hc1
    have f21 := own_all_hi T_wF (fun _ => f_wF) c21 cc hc0 hc1
    generalize atv cl_wF cc = z at *
    simp only [Int32.lt_iff_toInt_lt, Int32.le_iff_toInt_le, ← Int32.toInt_inj] at hc0 hc1 f7 f8' f9' f10' f11' f12' f13' f14 f15 f16 f17 f18' f19' f20 f21 ⊢
    simp only [show (0 : Int32).toInt = 0 from rfl, show (1 : Int32).toInt = 1 from rfl, show (42 : Int32).toInt = 42 from rfl, show (43 : Int32).toInt = 43 from rfl, show (44 : Int32).toInt = 44 from rfl, show (45 : Int32).toInt = 45 from rfl, show (46 : Int32).toInt = 46 from rfl, show (47 : Int32).toInt = 47 from rfl, show (48 : Int32).toInt = 48 from rfl, show (57 : Int32).toInt = 57 from rfl, show (58 : Int32).toInt = 58 from rfl, show (65 : Int32).toInt = 65 from rfl, show (90 : Int32).toInt = 90 from rfl, show (91 : Int32).toInt = 91 from rfl, show (95 : Int32).toInt = 95 from rfl, show (96 : Int32).toInt = 96 from rfl, show (97 : Int32).toInt = 97 from rfl, show (122 : Int32).toInt = 122 from rfl, show (123 : Int32).toInt = 123 from rfl, show (126 : Int32).toInt = 126 from rfl, show (128 : Int32).toInt = 128 from rfl] at hc0 hc1 f7 f8' f9' f10' f11' f12' f13' f14 f15 f16 f17 f18' f19' f20 f21 ⊢
    omega
  obtain ⟨wR, v_wR, S_wR, E_wR⟩ := own_static c4 ((hw _ (List.mem_of_getElem? (i := 2) rfl))) ((hw _ (List.mem_of_getElem? (i := 12) rfl)))
  obtain ⟨ar_wR, f_wR⟩ := arr_v c5
  obtain ⟨cl_wR, T_wR⟩ := own_arr hfit f_wR c5 c6 (Or.inr (Or.inl rfl)) (by decide)
  have F_wR := Fld.start ((fld_at v_wR).symm.trans f_wR)
  have k_wR : ∀ cc : Int32, ¬ cc < 0 → cc < 128 → (¬ atv cl_wR cc = 0 ↔ (((¬ cc < 65 ∧ ¬ 90 < cc) ∨ (¬ cc < 97 ∧ ¬ 122 < cc) ∨ (¬ cc < 48 ∧ ¬ 57 < cc)) ∨ (cc = 45 ∨ cc = 46 ∨ cc = 95) ∨ cc = 126)) := by
    intro cc hc0 hc1
    have f22 := own_all_lo T_wR (fun _ => f_wR) c22 cc hc0 hc1
    have f23 := own_one T_wR f_wR (by decide) (by decide) c23
    have f23' : ¬ cc = 45 ∨ atv cl_wR cc = 1 := one_at f23 cc
    have f24 := own_one T_wR f_wR (by decide) (by decide) c24
    have f24' : ¬ cc = 46 ∨ atv cl_wR cc = 1 := one_at f24 cc
    have f25 := own_one T_wR f_wR (by decide) (by decide) c25
    have f25' : ¬ cc = 47 ∨ atv cl_wR cc = 0 := one_at f25 cc
    have f26 := own_all_mid T_wR (fun _ => f_wR) c26 cc hc0 hc1
    have f27 := own_all_mid T_wR (fun _ => f_wR) c27 cc hc0 hc1
    have f28 := own_all_mid T_wR (fun _ => f_wR) c28 cc hc0 hc1
    have f29 := own_all_mid T_wR (fun _ => f_wR) c29 cc hc0 hc1
    have f30 := own_one T_wR f_wR (by decide) (by decide) c30
    have f30' : ¬ cc = 95 ∨ atv cl_wR cc = 1 := one_at f30 cc
    have f31 := own_one T_wR f_wR (by decide) (by decide) c31
    have f31' : ¬ cc = 96 ∨ atv cl_wR cc = 0 := one_at f31 cc
    have f32 := own_all_mid T_wR (fun _ => f_wR) c32 cc hc0 hc1
    have f33 := own_one T_wR f_wR (by decide) (by decide) c33
    have f33' : ¬ cc = 123 ∨ atv cl_wR cc = 0 := one_at f33 cc
    have f34 := own_one T_wR f_wR (by decide) (by decide) c34
    have f34' : ¬ cc = 124 ∨ atv cl_wR cc = 0 := one_at f34 cc
    have f35 := own_one T_wR f_wR (by decide) (by decide) c35
    have f35' : ¬ cc = 125 ∨ atv cl_wR cc = 0 := one_at f35 cc
    have f36 := own_one T_wR f_wR (by decide) (by decide) c36
    have f36' : ¬ cc = 126 ∨ atv cl_wR cc = 1 := one_at f36 cc
    have f37 := own_one T_wR f_wR (by decide) (by decide) c37
    have f37' : ¬ cc = 127 ∨ atv cl_wR cc = 0 := one_at f37 cc
    generalize atv cl_wR cc = z at *
    simp only [Int32.lt_iff_toInt_lt, Int32.le_iff_toInt_le, ← Int32.toInt_inj] at hc0 hc1 f22 f23' f24' f25' f26 f27 f28 f29 f30' f31' f32 f33' f34' f35' f36' f37' ⊢
    simp only [show (0 : Int32).toInt = 0 from rfl, show (1 : Int32).toInt = 1 from rfl, show (42 : Int32).toInt = 42 from rfl, show (45 : Int32).toInt = 45 from rfl, show (46 : Int32).toInt = 46 from rfl, show (47 : Int32).toInt = 47 from rfl, show (48 : Int32).toInt = 48 from rfl, show (57 : Int32).toInt = 57 from rfl, show (58 : Int32).toInt = 58 from rfl, show (65 : Int32).toInt = 65 from rfl, show (90 : Int32).toInt = 90 from rfl, show (91 : Int32).toInt = 91 from rfl, show (95 : Int32).toInt = 95 from rfl, show (96 : Int32).toInt = 96 from rfl, show (97 : Int32).toInt = 97 from rfl, show (122 : Int32).toInt = 122 from rfl, show (123 : Int32).toInt = 123 from rfl, show (124 : Int32).toInt = 124 from rfl, show (125 : Int32).toInt = 125 from rfl, show (126 : Int32).toInt = 126 from rfl, show (127 : Int32).toInt = 127 from rfl, show (128 : Int32).toInt = 128 from rfl] at hc0 hc1 f22 f23' f24' f25' f26 f27 f28 f29 f30' f31' f32 f33' f34' f35' f36' f37' ⊢
    omega
  exact rm0 l s _ hw i0 i1 wF wR ar_wF ar_wR cl_wF cl_wR s.heap S_wF S_wR E_wF F_wF T_wF E_wR F_wR T_wR k_wF k_wR
set_option maxRecDepth 65536 in
set_option maxHeartbeats 40000000 in
theorem comes_1 {Post : Tables → Env → Array Value → State → Outcome → State → Prop} (hpost : ∀ tb e args s v u, (limb_1_1.after args s (.returned v) u = true ∧ limb_1_2.after args s (.returned v) u = true ∧ True) → FrameEnd s (.returned v) u (Jvm.fieldLocs frame_1_writes args s ++ Jvm.arrayLocs frame_1_arrays args s ++ Jvm.staticLocs frame_1_statics s) 0 0 → Post tb e args s (.returned v) u) :
    ArmFor flags0 classFile x code maxLocals ret World_1 tables_1 room_1 Calls_1 rest_1 Pre_1 Post := by
  intro l hfl _ _ p e ha hc hk s m args below hf hA hF happ hP
  obtain ⟨hcalls, hrest, hpre⟩ := hP
  obtain ⟨-, -, -, hnamed, -, -, -, hat⟩ := (Spec.applies_iff hf).mp happ
  obtain ⟨hg, hn⟩ := and_e (Cond.before_iff.mp (show (Jvm.Cond.and given_1 narrow_1).before args s = true from hpre))
  have hw := fun d (hd : d ∈ tables_1) => atoms_spec (ws := Jvm.Cond.code x code maxLocals ret :: tables_1) hat d (List.mem_cons_of_mem _ hd)
  have hfit : Fit s := fun {y c} hc i hi => by
    obtain ⟨ha, rfl⟩ := Array.getElem?_eq_some_iff.mp hc
    have q := List.all_eq_true.mp ((Array.all_eq_true_iff_forall_mem.mp hF) _ (Array.getElem_mem ha)) i (List.mem_range.mpr hi)
    simpa [Array.getElem?_eq_getElem hi] using q
  obtain ⟨n, o, h1, h2, h3, _, L, rfl, ⟨rfl, N⟩, hq⟩ := own_law l s args hw hfit hg hn tables_1 p e ha hc hk s m _ below hf ((Spec.applies_iff_loose hf).mp happ).1 ⟨rfl, State.Warmed39.refl s, rfl⟩ trivial
  refine ⟨n, _, h1, h2, h3, hpost _ _ _ _ _ _ ⟨Cond.after_iff.mpr rfl, Cond.after_iff.mpr (eq_i res_at (Term.int_eval (1)) rfl), trivial⟩ ⟨hq.1, hq.2.1, (hq.2.2.sift fun y hy => Or.inr (N y hy)).mono (by decide) (by decide)⟩⟩
theorem main_1_1 : Claimed_1_1 := comes_1 fun _ _ _ _ _ _ h hF => ⟨h.1, hF⟩
theorem main_1_2 : Claimed_1_2 := comes_1 fun _ _ _ _ _ _ h hF => ⟨h.2.1, hF⟩
end Jvm.Pilot.@@N@@
namespace Jvm.Pilot.@@N@@
open Jvm Jvm.ClassFile Sem Op Lib Jvm.Free Jvm.Stand Jvm.Pilot.@@N@@.Jvm.D
/-! MADE BY PROGRAM (witnessworld.py) out of the Statement's table words and the real class files: 14 classes; the members and pool entries that the words name. The judged class is class 1, her method 1. -/
namespace start1
open Jvm.ClassFile
def u (s : String) : CpInfo := .utf8 (stringToUtf16 s)
/-- a pool by its gaps: so many unusable entries, then the entry; so many at the end -/
def gap : Nat → List CpInfo → List CpInfo
  | 0, r => r
  | n + 1, r => .unusable :: gap n r
def poolList (es : List (Nat × CpInfo)) (last : Nat) : List CpInfo := es.foldr (fun e r => gap e.1 (e.2 :: r)) (gap last [])
def pool (es : List (Nat × CpInfo)) (last : Nat) : Array CpInfo := ⟨poolList es last⟩
def fileOf (pool : Array CpInfo) (this : Nat) (attrs : Array Attribute := #[]) (ms : Array MethodInfo := #[]) (fl : Nat := 33) (sup : Nat := 0) (ifs : Array Nat := #[]) (fds : Array FieldInfo := #[]) : ClassFile where
  minorVersion := 0
  majorVersion := 65
  constantPool := pool
  accessFlags := fl
  thisClass := this
  superClass := sup
  interfaces := ifs
  fields := fds
  methods := ms
  attributes := attrs
def plain (name : String) (sup : Option ClassId) : Class where
  name := name
  kind := .ordinary
  loader := none
  accessFlags := 33
  super := sup
  interfaces := #[]
  cf := none
  fields := #[]
  methods := #[]
  instanceTypes := #[]
  staticTypes := #[]
  resolved := #[]
  callSites := []
  init := .initialized
  statics := none
  mirror := none

def pool0 : Array CpInfo := pool [(5, u "<init>"), (0, u "()V"), (1, .class_ 10), (1, u "java/lang/Object")] 113

def k0m0 : Method := { name := "<init>", desc := "()V", sig := { parameters := [], returnType := none }, accessFlags := 1, code := none }
/-- java/lang/Object -/
def k0 : Class := { plain "java/lang/Object" none with
  accessFlags := 33
  interfaces := #[]
  cf := some (fileOf pool0 8 #[] #[{ accessFlags := 1, nameIndex := 5, descriptorIndex := 6, attributes := #[] }] 33 0 #[] #[])
  fields := #[]
  methods := #[k0m0]
  instanceTypes := #[]
  staticTypes := #[]
  resolved := Array.replicate 124 none
  statics := none }

def pool1 : Array CpInfo := pool [(2, .class_ 4), (1, u "java/lang/Object"), (0, u "<init>"), (0, u "()V"), (0, .integer 65535), (0, .fieldref 9 10), (0, .class_ 11), (0, .nameAndType 12 13), (0, u "com/example/mint4/mint4/PercentEncoding"), (0, u "FORM"), (0, u "Lcom/example/mint4/mint4/PercentEncoding;"), (0, .fieldref 9 15), (0, .nameAndType 16 13), (0, u "RFC_3986"), (0, .methodref 9 18), (0, .nameAndType 19 20), (0, u "keeps"), (0, u "(C)Z"), (0, .class_ 22), (0, u "com/example/mint4/mint4/PercentEncodingKeepsPinLaw"), (2, u "law"), (0, u "(II)Z")] 3

def k1m0 : Method := { name := "<init>", desc := "()V", sig := { parameters := [], returnType := none }, accessFlags := 1, code := none }
def k1c1 : Code := { maxStack := 2, maxLocals := 8, code := code, exceptionTable := #[], attributes := #[] }
def k1m1 : Method := { name := "law", desc := "(II)Z", sig := { parameters := [.int, .int], returnType := some .boolean }, accessFlags := 9, code := some k1c1 }
/-- com/example/mint4/mint4/PercentEncodingKeepsPinLaw -/
def k1 : Class := { plain "com/example/mint4/mint4/PercentEncodingKeepsPinLaw" (some 0) with
  accessFlags := 49
  interfaces := #[]
  cf := some (fileOf pool1 21 #[] #[{ accessFlags := 1, nameIndex := 5, descriptorIndex := 6, attributes := #[] }, { accessFlags := 9, nameIndex := 25, descriptorIndex := 26, attributes := #[] }] 49 2 #[] #[])
  fields := #[]
  methods := #[k1m0, k1m1]
  instanceTypes := #[]
  staticTypes := #[]
  resolved := Array.replicate 30 none
  statics := none }

def pool2 : Array CpInfo := pool [(1, .class_ 2), (0, u "java/lang/constant/Constable"), (0, .class_ 4), (0, u "java/lang/Object")] 6

/-- java/lang/constant/Constable -/
def k2 : Class := { plain "java/lang/constant/Constable" (some 0) with
  accessFlags := 1537
  interfaces := #[]
  cf := some (fileOf pool2 1 #[] #[] 1537 3 #[] #[])
  fields := #[]
  methods := #[]
  instanceTypes := #[]
  staticTypes := #[]
  resolved := Array.replicate 11 none
  statics := none }

def pool3 : Array CpInfo := pool [(1, .class_ 2), (0, u "java/lang/Comparable"), (0, .class_ 4), (0, u "java/lang/Object")] 7

/-- java/lang/Comparable -/
def k3 : Class := { plain "java/lang/Comparable" (some 0) with
  accessFlags := 1537
  interfaces := #[]
  cf := some (fileOf pool3 1 #[] #[] 1537 3 #[] #[])
  fields := #[]
  methods := #[]
  instanceTypes := #[]
  staticTypes := #[]
  resolved := Array.replicate 12 none
  statics := none }

def pool4 : Array CpInfo := pool [(1, .class_ 2), (0, u "java/io/Serializable"), (0, .class_ 4), (0, u "java/lang/Object")] 2

/-- java/io/Serializable -/
def k4 : Class := { plain "java/io/Serializable" (some 0) with
  accessFlags := 1537
  interfaces := #[]
  cf := some (fileOf pool4 1 #[] #[] 1537 3 #[] #[])
  fields := #[]
  methods := #[]
  instanceTypes := #[]
  staticTypes := #[]
  resolved := Array.replicate 7 none
  statics := none }

def pool5 : Array CpInfo := pool [(2, .class_ 4), (1, u "java/lang/Enum"), (0, u "name"), (0, u "Ljava/lang/String;"), (2, u "ordinal"), (0, u "I"), (1, .class_ 14), (1, u "java/lang/Object"), (4, u "hash"), (86, .class_ 108), (1, u "java/lang/Enum$EnumDesc"), (2, .class_ 112), (0, u "java/lang/constant/Constable"), (0, .class_ 114), (0, u "java/lang/Comparable"), (0, .class_ 116), (0, u "java/io/Serializable")] 87

/-- java/lang/Enum -/
def k5 : Class := { plain "java/lang/Enum" (some 0) with
  accessFlags := 1057
  interfaces := #[2, 3, 4]
  cf := some (fileOf pool5 2 #[.nestMembers #[106]] #[] 1057 12 #[111, 113, 115] #[{ accessFlags := 18, nameIndex := 5, descriptorIndex := 6, attributes := #[] }, { accessFlags := 18, nameIndex := 9, descriptorIndex := 10, attributes := #[] }, { accessFlags := 2, nameIndex := 19, descriptorIndex := 10, attributes := #[] }])
  fields := #[{ name := "name", type := (.object "java/lang/String"), accessFlags := 18, slot := 0, constantValue := 0 }, { name := "ordinal", type := .int, accessFlags := 18, slot := 1, constantValue := 0 }, { name := "hash", type := .int, accessFlags := 2, slot := 2, constantValue := 0 }]
  methods := #[]
  instanceTypes := #[(.object "java/lang/String"), .int, .int]
  staticTypes := #[]
  resolved := Array.replicate 204 none
  statics := none }

def pool6 : Array CpInfo := pool [(3, .class_ 4), (0, u "com/example/mint4/mint4/PercentEncoding"), (2, u "FORM"), (0, u "Lcom/example/mint4/mint4/PercentEncoding;"), (2, u "RFC_3986"), (2, u "$VALUES"), (0, u "[Lcom/example/mint4/mint4/PercentEncoding;"), (6, .class_ 24), (1, u "java/lang/Enum"), (6, .fieldref 3 32), (0, .nameAndType 33 34), (0, u "kept"), (0, u "[Z"), (2, u "spaceAsPlus"), (0, u "Z"), (104, u "HEX_DIGITS"), (0, u "[C"), (2, u "keeps"), (0, u "(C)Z"), (19, u "MOST"), (0, u "I")] 20

def k6c0 : Code := { maxStack := 2, maxLocals := 2, code := prog_29_method_12_code, exceptionTable := #[], attributes := #[] }
def k6m0 : Method := { name := "keeps", desc := "(C)Z", sig := { parameters := [.char], returnType := some .boolean }, accessFlags := 0, code := some k6c0 }
/-- com/example/mint4/mint4/PercentEncoding -/
def k6 : Class := { plain "com/example/mint4/mint4/PercentEncoding" (some 5) with
  accessFlags := 16432
  interfaces := #[]
  cf := some (fileOf pool6 3 #[] #[{ accessFlags := 0, nameIndex := 147, descriptorIndex := 148, attributes := #[] }] 16432 22 #[] #[{ accessFlags := 16409, nameIndex := 7, descriptorIndex := 8, attributes := #[] }, { accessFlags := 16409, nameIndex := 11, descriptorIndex := 8, attributes := #[] }, { accessFlags := 26, nameIndex := 143, descriptorIndex := 144, attributes := #[] }, { accessFlags := 26, nameIndex := 168, descriptorIndex := 169, attributes := #[] }, { accessFlags := 18, nameIndex := 33, descriptorIndex := 34, attributes := #[] }, { accessFlags := 18, nameIndex := 37, descriptorIndex := 38, attributes := #[] }, { accessFlags := 4122, nameIndex := 14, descriptorIndex := 15, attributes := #[] }])
  fields := #[{ name := "FORM", type := (.object "com/example/mint4/mint4/PercentEncoding"), accessFlags := 16409, slot := 0, constantValue := 0 }, { name := "RFC_3986", type := (.object "com/example/mint4/mint4/PercentEncoding"), accessFlags := 16409, slot := 1, constantValue := 0 }, { name := "HEX_DIGITS", type := (.array .char), accessFlags := 26, slot := 2, constantValue := 0 }, { name := "MOST", type := .int, accessFlags := 26, slot := 3, constantValue := 0 }, { name := "kept", type := (.array .boolean), accessFlags := 18, slot := 3, constantValue := 0 }, { name := "spaceAsPlus", type := .boolean, accessFlags := 18, slot := 4, constantValue := 0 }, { name := "$VALUES", type := (.array (.object "com/example/mint4/mint4/PercentEncoding")), accessFlags := 4122, slot := 4, constantValue := 0 }]
  methods := #[k6m0]
  instanceTypes := #[(.object "java/lang/String"), .int, .int, (.array .boolean), .boolean]
  staticTypes := #[(.object "com/example/mint4/mint4/PercentEncoding"), (.object "com/example/mint4/mint4/PercentEncoding"), (.array .char), .int, (.array (.object "com/example/mint4/mint4/PercentEncoding"))]
  resolved := Array.replicate 190 none
  statics := some 0 }

def pool7 : Array CpInfo := pool [(1, u "java/lang/Cloneable"), (0, .class_ 1), (0, u "java/lang/Object"), (0, .class_ 3)] 3

/-- java/lang/Cloneable -/
def k7 : Class := { plain "java/lang/Cloneable" (some 0) with
  accessFlags := 1537
  interfaces := #[]
  cf := some (fileOf pool7 2 #[] #[] 1537 4 #[] #[])
  fields := #[]
  methods := #[]
  instanceTypes := #[]
  staticTypes := #[]
  resolved := Array.replicate 8 none
  statics := none }

/-- the primitive boolean -/
def k8 : Class := { plain "boolean" none with kind := .primitive 'Z', accessFlags := 0x411 }
/-- [Z -/
def k9 : Class := { plain "[Z" (some 0) with kind := .array 8 .boolean, interfaces := #[7, 4], accessFlags := 1041 }

/-- the primitive byte -/
def k10 : Class := { plain "byte" none with kind := .primitive 'B', accessFlags := 0x411 }
/-- [B -/
def k11 : Class := { plain "[B" (some 0) with kind := .array 10 .byte, interfaces := #[7, 4], accessFlags := 1041 }

/-- the primitive int -/
def k12 : Class := { plain "int" none with kind := .primitive 'I', accessFlags := 0x411 }
/-- [I -/
def k13 : Class := { plain "[I" (some 0) with kind := .array 12 .int, interfaces := #[7, 4], accessFlags := 1041 }

def heap : Heap := #[{ cls := 6, slots := #[.ref 1, .ref 2, .null, .int 0, .null], vm := .statics 6 },
  { cls := 6, slots := #[.null, .int 0, .int 0, .ref 3, .int 0], vm := .none },
  { cls := 6, slots := #[.null, .int 1, .int 0, .ref 4, .int 0], vm := .none },
  { cls := 9, slots := #[.int 0, .int 0, .int 0, .int 0, .int 0, .int 0, .int 0, .int 0, .int 0, .int 0, .int 0, .int 0, .int 0, .int 0, .int 0, .int 0, .int 0, .int 0, .int 0, .int 0, .int 0, .int 0, .int 0, .int 0, .int 0, .int 0, .int 0, .int 0, .int 0, .int 0, .int 0, .int 0, .int 0, .int 0, .int 0, .int 0, .int 0, .int 0, .int 0, .int 0, .int 0, .int 0, .int 1, .int 0, .int 0, .int 1, .int 1, .int 0, .int 1, .int 1, .int 1, .int 1, .int 1, .int 1, .int 1, .int 1, .int 1, .int 1, .int 0, .int 0, .int 0, .int 0, .int 0, .int 0, .int 0, .int 1, .int 1, .int 1, .int 1, .int 1, .int 1, .int 1, .int 1, .int 1, .int 1, .int 1, .int 1, .int 1, .int 1, .int 1, .int 1, .int 1, .int 1, .int 1, .int 1, .int 1, .int 1, .int 1, .int 1, .int 1, .int 1, .int 0, .int 0, .int 0, .int 0, .int 1, .int 0, .int 1, .int 1, .int 1, .int 1, .int 1, .int 1, .int 1, .int 1, .int 1, .int 1, .int 1, .int 1, .int 1, .int 1, .int 1, .int 1, .int 1, .int 1, .int 1, .int 1, .int 1, .int 1, .int 1, .int 1, .int 1, .int 1, .int 0, .int 0, .int 0, .int 0, .int 0], vm := .none },
  { cls := 9, slots := #[.int 0, .int 0, .int 0, .int 0, .int 0, .int 0, .int 0, .int 0, .int 0, .int 0, .int 0, .int 0, .int 0, .int 0, .int 0, .int 0, .int 0, .int 0, .int 0, .int 0, .int 0, .int 0, .int 0, .int 0, .int 0, .int 0, .int 0, .int 0, .int 0, .int 0, .int 0, .int 0, .int 0, .int 0, .int 0, .int 0, .int 0, .int 0, .int 0, .int 0, .int 0, .int 0, .int 0, .int 0, .int 0, .int 1, .int 1, .int 0, .int 1, .int 1, .int 1, .int 1, .int 1, .int 1, .int 1, .int 1, .int 1, .int 1, .int 0, .int 0, .int 0, .int 0, .int 0, .int 0, .int 0, .int 1, .int 1, .int 1, .int 1, .int 1, .int 1, .int 1, .int 1, .int 1, .int 1, .int 1, .int 1, .int 1, .int 1, .int 1, .int 1, .int 1, .int 1, .int 1, .int 1, .int 1, .int 1, .int 1, .int 1, .int 1, .int 1, .int 0, .int 0, .int 0, .int 0, .int 1, .int 0, .int 1, .int 1, .int 1, .int 1, .int 1, .int 1, .int 1, .int 1, .int 1, .int 1, .int 1, .int 1, .int 1, .int 1, .int 1, .int 1, .int 1, .int 1, .int 1, .int 1, .int 1, .int 1, .int 1, .int 1, .int 1, .int 1, .int 0, .int 0, .int 0, .int 1, .int 0], vm := .none }]
def classes : Array Class := #[k0, k1, k2, k3, k4, k5, k6, k7, k8, k9, k10, k11, k12, k13]
def interned : List (Array UInt16 × Addr) := []
def slotsUsed : Nat := 271
def theMethod : MethodId := ⟨1, 1⟩
def args0 : Array Value := #[.int 65, .int 1]
def aboutOver (below : List Frame) : State where
  vm := { classes := classes, interned := interned.toArray }
  heap := heap
  slotsUsed := slotsUsed
  threads := #[{ frames := .invoking theMethod args0 :: below }]
def below0 : List Frame := [.native { method := ⟨0, 0⟩, args := #[] }]
def about1 : State := aboutOver below0
def p0 : Program := .bare "" "" ""
def e0 : Env := launch0.env 0 0 0
theorem w_frames : about1.frames = Frame.invoking theMethod args0 :: below0 := rfl
set_option maxRecDepth 65536 in
theorem w_args : argsFit about1.vm theMethod args0 = true := by decide +kernel
set_option maxRecDepth 65536 in
theorem w_heap : heapFits about1 = true := by decide +kernel
set_option maxRecDepth 65536 in
theorem w_runnable : about1.curStatus? = some .runnable := by decide +kernel
set_option maxRecDepth 65536 in
theorem w_alone : about1.alone = true := by decide +kernel
set_option maxRecDepth 65536 in
theorem w_named : about1.methodNamed? x = some theMethod := by decide +kernel
set_option maxRecDepth 65536 in
theorem w_hears : about1.hears theMethod below0 = true := by decide +kernel
set_option maxRecDepth 65536 in
theorem w_ripe : about1.ripe theMethod args0 below0 = true := by decide +kernel
theorem w_running : about1.status = .running := rfl
set_option maxRecDepth 65536 in
theorem w_room : about1.hasRoom e0.platform room_1 = true :=
  launch0.hasRoom_least _ room_1 (by decide +kernel) (by decide +kernel) (by decide +kernel) (by decide +kernel) (by decide +kernel) (by decide +kernel)
theorem allAtoms_all (ts : List Jvm.Cond) (a : Array Jvm.Value) (st : Jvm.State) : (allAtoms ts).before a st = ts.all (fun c => c.before a st) := by
  induction ts with
  | nil => rfl
  | cons c t ih =>
    show (Jvm.Cond.and c (allAtoms t)).before a st = _
    rw [Jvm.Cond.before_and, ih, List.all_cons]
def words1 : List Jvm.Cond := Jvm.Cond.code x code maxLocals ret :: tables_1
/-- a 'code' word, met by the world's own term for the bytes: nothing is compared byte by byte -/
theorem code_word {y : MethodName} {bytes : ByteArray} {mx : Nat} {rt : Option FieldType} {a : Array Value} {s : State} {m : MethodId} {meth : Method} {c : Code} (h1 : s.methodNamed? y = some m) (h2 : s.vm.method? m = some meth) (h3 : meth.code = some c) (h4 : c.code = bytes)
    (h5 : (c.maxLocals == mx && c.exceptionTable.isEmpty && decide (c.maxStack ≤ mostOperands) && decide (meth.sig.returnType = rt) && !meth.locks && decide (parseMethodDescriptor y.desc = some meth.sig)) = true) : (Jvm.Cond.code y bytes mx rt).before a s = true := by
  simp only [Bool.and_eq_true, beq_iff_eq, Bool.not_eq_true', decide_eq_true_eq] at h5
  obtain ⟨⟨⟨⟨⟨g1, g2⟩, g3⟩, g4⟩, g5⟩, g6⟩ := h5
  simp [Cond.before, Cond.holds, Cond.value, h1, h2, h3, h4, g1, g2, g3, g4, g5, g6]
def isCode : Jvm.Cond → Bool
  | .code _ _ _ _ => true
  | _ => false
theorem all_split {L : List Jvm.Cond} {P : Jvm.Cond → Bool} (h1 : L.all (fun c => isCode c || P c) = true) (h2 : ∀ c ∈ L.filter isCode, P c = true) : L.all P = true := by
  refine List.all_eq_true.mpr fun c hc => ?_
  have h := List.all_eq_true.mp h1 c hc
  rcases Bool.eq_false_or_eq_true (isCode c) with hi | hi
  · exact h2 c (List.mem_filter.mpr ⟨hc, hi⟩)
  · simpa [hi] using h
set_option maxRecDepth 65536 in
theorem w_c0 : (Jvm.Cond.code x code maxLocals ret).before args0 about1 = true := code_word (m := ⟨1, 1⟩) (meth := k1m1) (c := k1c1) (by decide +kernel) rfl rfl rfl (by decide +kernel)
set_option maxRecDepth 65536 in
theorem w_c1 : (Jvm.Cond.code ({ cls := "com/example/mint4/mint4/PercentEncoding", name := "keeps", desc := "(C)Z" } : Jvm.MethodName) prog_29_method_12_code (2 : Nat) (Option.some Jvm.ClassFile.FieldType.boolean)).before args0 about1 = true := code_word (m := ⟨6, 0⟩) (meth := k6m0) (c := k6c0) (by decide +kernel) rfl rfl rfl (by decide +kernel)
def codes1 : List Jvm.Cond := [Jvm.Cond.code x code maxLocals ret, Jvm.Cond.code ({ cls := "com/example/mint4/mint4/PercentEncoding", name := "keeps", desc := "(C)Z" } : Jvm.MethodName) prog_29_method_12_code (2 : Nat) (Option.some Jvm.ClassFile.FieldType.boolean)]
set_option maxRecDepth 65536 in
theorem codes_eq : words1.filter isCode = codes1 := rfl
theorem w_codes : ∀ c ∈ words1.filter isCode, c.before args0 about1 = true := by
  rw [codes_eq]
  intro c hc
  simp only [codes1, List.mem_cons, List.not_mem_nil, or_false] at hc
  rcases hc with rfl | rfl
  · exact w_c0
  · exact w_c1
set_option maxRecDepth 65536 in
theorem w_t1 : words1.all (fun c => isCode c || c.before args0 about1) = true := by decide +kernel
theorem w_tables : (allAtoms (Jvm.Cond.code x code maxLocals ret :: tables_1)).before args0 about1 = true := by
  rw [allAtoms_all]
  show words1.all (fun c => c.before args0 about1) = true
  refine all_split ?_ w_codes
  rw [w_t1]
set_option maxRecDepth 65536 in
theorem w_case : (Jvm.Cond.and given_1 narrow_1).before args0 about1 = true := by decide +kernel
theorem w_applies : (headSpec (Jvm.Cond.code x code maxLocals ret :: tables_1) room_1).applies x e0.platform about1 = true :=
  (Spec.applies_iff w_frames).mpr ⟨w_running, w_runnable, w_alone, w_named, w_hears, w_ripe, w_room, w_tables⟩
theorem atStart : AtStart classFile x code maxLocals ret World_1 tables_1 room_1 Calls_1 rest_1 Pre_1 launch0 p0 e0 about1 theMethod args0 below0 :=
  ⟨lists_1, trivial, launch0.admits_env _ _ _, launch0.least_env, fairChoices_fair.cas, fairChoices_fair.clock, w_frames, w_args, w_heap, w_applies, trivial, trivial, w_case⟩
end start1
theorem witness_1 : WitnessClaimed_1 := ⟨start1.p0, start1.e0, start1.about1, start1.theMethod, start1.args0, start1.below0, start1.atStart⟩
end Jvm.Pilot.@@N@@
