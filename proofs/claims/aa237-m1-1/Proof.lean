import JvmDerived
import JvmDerived.Pilot.@@N@@Statement
import JvmDerived.Pilot.@@N@@Code
set_option linter.unusedVariables false
set_option linter.unusedSimpArgs false
namespace Jvm.Pilot.@@N@@
open Jvm Jvm.ClassFile Sem Op Lib Jvm.Free Jvm.Stand Jvm.LawKit Jvm.RoadKit Bundle Jvm.Pilot.@@N@@.Jvm.D
section OwnKit
variable {p : Program} {l : Launch} {e : Env} {R : Room} {s : State} {m : MethodId} {args : Array Value} {below : List Frame} {meth : Method} {c : Code} {T : State} {locs : List Loc} {cells slots : Nat} {Z : State} {a0 : Array Value} {h : Heap} {Φ : State → Prop}
/-- from here the run comes to an end of which Φ holds -/
def OGoes (tb : Tables) (e : Env) (below : List Frame) (Φ : State → Prop) (U : State) : Prop := ∃ t, Steps tb e below U t ∧ Φ t
theorem own_st {tb : Tables} {U V : State} (h : ∀ t, Steps tb e below V t → Steps tb e below U t) (k : OGoes tb e below Φ V) : OGoes tb e below Φ U := by
  obtain ⟨t, h1, h2⟩ := k
  exact ⟨t, h t h1, h2⟩
theorem own_tr {tb : Tables} {U V : State} (h : Steps tb e below U V) (k : OGoes tb e below Φ V) : OGoes tb e below Φ U := by
  obtain ⟨t, h1, h2⟩ := k
  exact ⟨t, h.trans h1, h2⟩
theorem own_cast {tb : Tables} {g g' : JFrame} (q : g = g') (k : OGoes tb e below Φ (T.setTop g')) : OGoes tb e below Φ (T.setTop g) := q ▸ k
def ODone (rm : Room) (s : State) (below : List Frame) (Q : Option Value → Heap → List Loc → Prop) (t : State) : Prop :=
  ∃ o, t.status = .running ∧ Ended t below o ∧ ∃ v L, o = .returned v ∧ Q v t.heap L ∧ FrameEnd s o t L rm.cells rm.slots
/-- a method's contract -/
def OMet (l : Launch) (Z : State) (y : MethodName) (bytes : ByteArray) (ml : Nat) (ret : Option FieldType) (rm : Room) (as : Array Value) (h0 : Heap) (Q : Option Value → Heap → List Loc → Prop) : Prop :=
  ∀ ws, MetFree l y (head1 (Jvm.Cond.code y bytes ml ret :: ws) rm) (fun a U => a = as ∧ Z.Warmed39 U.vm ∧ U.heap = h0) (fun _ _ _ _ _ => True)
    (fun _ U o U' => ∃ v L, o = .returned v ∧ Q v U'.heap L ∧ FrameEnd U o U' L rm.cells rm.slots)
/-- .. of one that writes and makes nothing -/
abbrev OPure (l : Launch) (Z : State) (y : MethodName) (bytes : ByteArray) (ml : Nat) (ret : Option FieldType) (fr lo : Nat) (as : Array Value) (h0 : Heap) (v : Option Value) : Prop :=
  OMet l Z y bytes ml ret ⟨fr, 0, 0, lo⟩ as h0 (fun v' h' L' => v' = v ∧ h' = h0 ∧ L' = [])
theorem own_body {y : MethodName} {bytes : ByteArray} {ml : Nat} {ret : Option FieldType} {rm : Room} {as : Array Value} {h0 : Heap} {Q : Option Value → Heap → List Loc → Prop} (hpn : plainFor y = true)
    (body : ∀ (p : Program) (e : Env) (s : State) (m : MethodId) (below : List Frame) (meth : Method) (c : Code) (T : State), Stand p l e rm s m as below meth c T [] 0 0 → p.tables.exec = Jvm.exec → c.code = bytes → c.maxLocals = ml → Z.Warmed39 s.vm → s.vm.findClass y.cls = some m.cls → meth.name = y.name → meth.sig.returnType = ret → meth.locks = false → T.heap = h0 →
      OGoes p.tables e below (ODone rm s below Q) (T.setTop (entryFrame m as ml))) : OMet l Z y bytes ml ret rm as h0 Q := by
  intro ws
  refine MetFree.of_bodySF hpn hisR ?_
  intro p e s m args below meth c s₁ Bd hml0 hP hK
  obtain ⟨rfl, hZ, hh⟩ := hP
  obtain ⟨t, h1, o, h2, h3, h4⟩ := body p e s m below meth c s₁ (Stand.of_body Bd) Bd.exec Bd.bytes hml0 hZ (findClass_of_methodNamed Bd.named) (name_of_methodNamed Bd.named Bd.method).1 Bd.returns Bd.notSynchronized (by rw [← hh, Bd.state]; rfl)
  exact ⟨t, o, h1, h2, h3, h4⟩
/-! the returns -/
theorem own_leave (X : Stand p l e R s m args below meth c T locs cells slots) (hlk : meth.locks = false) {v : Option Value} (hv : meth.sig.returnType = none → v = none) {rm : Room} {Q : Option Value → Heap → List Loc → Prop} (hc : cells ≤ rm.cells) (hs : slots ≤ rm.slots) (hQ : Q v T.heap locs) {U : State}
    (hstep : ∀ fs, (∀ (f : JFrame) (acts : List Action), f.method = m → f.locked = none → f.entered = [] → (doReturn e (T.setTop f) acts v).1 = T.setFrames fs) → Steps p.tables e below U (T.setFrames fs)) : OGoes p.tables e below (ODone rm s below Q) U := by
  obtain ⟨fs, hr, hrun, hended, hW, hsame⟩ := X.leave (v := v) hv hlk
  exact ⟨_, hstep fs hr, _, hrun, hended, v, locs, rfl, hQ, ⟨_, rfl⟩, hW, hsame.mono hc hs⟩
theorem own_retI (X : Stand p l e R s m args below meth c T locs cells slots) (hx : p.tables.exec = Jvm.exec) (hlk : meth.locks = false) (hret : meth.sig.returnType = some .int) {pc : Nat} {Ls : Array Slot} {z : Int32} {rest : List Value} (hd : decode c.code pc = .ok (.ireturn, 1))
    {rm : Room} {Q : Option Value → Heap → List Loc → Prop} (hc : cells ≤ rm.cells) (hs : slots ≤ rm.slots) (hQ : Q (some (.int z)) T.heap locs) : OGoes p.tables e below (ODone rm s below Q) (T.setTop (mkF m pc Ls (.int z :: rest))) :=
  own_leave X hlk (fun h => by rw [hret] at h; cases h) hc hs hQ fun fs hr => retOut X hx hret rfl (Or.inl ⟨rfl, Or.inl rfl, z, rfl⟩) hd hr
theorem own_retN (X : Stand p l e R s m args below meth c T locs cells slots) (hx : p.tables.exec = Jvm.exec) (hlk : meth.locks = false) {t : FieldType} (ht : t = .boolean ∨ t = .byte ∨ t = .char ∨ t = .short) (hret : meth.sig.returnType = some t) {pc : Nat} {Ls : Array Slot} {z : Int32} {rest : List Value} (hd : decode c.code pc = .ok (.ireturn, 1))
    {rm : Room} {Q : Option Value → Heap → List Loc → Prop} (hc : cells ≤ rm.cells) (hs : slots ≤ rm.slots) (hQ : Q (some (.int (nar t z))) T.heap locs) : OGoes p.tables e below (ODone rm s below Q) (T.setTop (mkF m pc Ls (.int z :: rest))) :=
  own_leave X hlk (fun h => by rw [hret] at h; cases h) hc hs hQ fun fs hr => retN X hx hret ht hd hr
theorem own_retJ (X : Stand p l e R s m args below meth c T locs cells slots) (hx : p.tables.exec = Jvm.exec) (hlk : meth.locks = false) (hret : meth.sig.returnType = some .long) {pc : Nat} {Ls : Array Slot} {z : Int64} {rest : List Value} (hd : decode c.code pc = .ok (.lreturn, 1))
    {rm : Room} {Q : Option Value → Heap → List Loc → Prop} (hc : cells ≤ rm.cells) (hs : slots ≤ rm.slots) (hQ : Q (some (.long z)) T.heap locs) : OGoes p.tables e below (ODone rm s below Q) (T.setTop (mkF m pc Ls (.long z :: rest))) :=
  own_leave X hlk (fun h => by rw [hret] at h; cases h) hc hs hQ fun fs hr => retOut X hx hret rfl (Or.inr (Or.inl ⟨rfl, rfl, z, rfl⟩)) hd hr
theorem own_retA (X : Stand p l e R s m args below meth c T locs cells slots) (hx : p.tables.exec = Jvm.exec) (hlk : meth.locks = false) {t : FieldType} (ht : t.isReference = true) (hret : meth.sig.returnType = some t) {pc : Nat} {Ls : Array Slot} {w : Value} {rest : List Value} (hw : w.isRef = true) (hd : decode c.code pc = .ok (.areturn, 1))
    {rm : Room} {Q : Option Value → Heap → List Loc → Prop} (hc : cells ≤ rm.cells) (hs : slots ≤ rm.slots) (hQ : Q (some w) T.heap locs) : OGoes p.tables e below (ODone rm s below Q) (T.setTop (mkF m pc Ls (w :: rest))) :=
  own_leave X hlk (fun h => by rw [hret] at h; cases h) hc hs hQ fun fs hr => retOut X hx hret (by cases t <;> first | (cases ht; done) | (cases w <;> first | rfl | (cases hw; done))) (Or.inr (Or.inr (Or.inr (Or.inr ⟨rfl, ht, hw⟩)))) hd hr
theorem own_retV (X : Stand p l e R s m args below meth c T locs cells slots) (hx : p.tables.exec = Jvm.exec) (hlk : meth.locks = false) (hret : meth.sig.returnType = none) {pc : Nat} {Ls : Array Slot} (hd : decode c.code pc = .ok (.return_, 1))
    {rm : Room} {Q : Option Value → Heap → List Loc → Prop} (hc : cells ≤ rm.cells) (hs : slots ≤ rm.slots) (hQ : Q none T.heap locs) : OGoes p.tables e below (ODone rm s below Q) (T.setTop (mkF m pc Ls [])) :=
  own_leave X hlk (fun _ => rfl) hc hs hQ fun fs hr => X.returnOut hx hret hd hr
/-! the calls -/
theorem own_callS (X : Stand p l e R s m args below meth c T locs cells slots) (hx : p.tables.exec = Jvm.exec) (hZ : Z.Warmed39 s.vm) {own : String} {index : Nat} {y : MethodName} {bytes : ByteArray} {ml : Nat} {ret : Option FieldType} {rm : Room} {as : Array Value} {Q : Option Value → Heap → List Loc → Prop}
    (hown : s.vm.findClass own = some m.cls) (w1 : (Jvm.Cond.methodLink own index y).before a0 Z = true) (w2 : (Jvm.Cond.static y).before a0 Z = true) (w3 : (Jvm.Cond.initialized y.cls).before a0 Z = true) (w4 : (Jvm.Cond.code y bytes ml ret).before a0 Z = true) (hy : y.cls ≠ "java/lang/invoke/MethodHandle" ∧ y.cls ≠ "java/lang/invoke/VarHandle")
    (hM : OMet l Z y bytes ml ret rm as h Q) (eT : T.heap = h) {pc : Nat} {Ls : Array Slot} {st : List Value} (hsz : Ls.size = c.maxLocals) {argsL rest : List Value} {sig : MethodDescriptor} (hp : parseMethodDescriptor y.desc = some sig) (hn : argsL.length = sig.parameters.length) (has : argsL.toArray = as) (hst : st = argsL.reverse ++ rest)
    {W : Nat} (hW : (rest.map fun v => v.category).sum ≤ W) (hd : decode c.code pc = .ok (.invokestatic index, 3)) (hf : rm.frames + 1 ≤ R.frames) (hl : W + (ml + 11) + rm.locals ≤ R.locals) (hc : cells + rm.cells ≤ R.cells) (hs : slots + rm.slots ≤ R.slots)
    (k : ∀ (v : Option Value) (T' : State) (L' : List Loc), Stand p l e R s m args below meth c T' (locs ++ L') (cells + rm.cells) (slots + rm.slots) → Q v T'.heap L' → OGoes p.tables e below Φ (T'.setTop (mkF m (pc + 3) Ls (v.toList ++ rest)))) : OGoes p.tables e below Φ (T.setTop (mkF m pc Ls st)) := by
  obtain ⟨v, vm1, ⟨T', L, kk, nn⟩, -, X', ⟨Lc, hQ, l1, l2, l3⟩, st'⟩ := Jvm.LawKit.callS X hx (y := y) hown (mvT hZ w1) (mvT hZ w2) (mvT hZ w3) (mvT hZ w4) hy (backOf (W := W) (hM []) hZ w4 w3 hf hl) (g := mkF m pc Ls st) rfl hsz (argsL := argsL) (rest := rest) (fun sg h => by cases hp.symm.trans h; exact hn) hst (by show 2 * 0 + _ ≤ _; omega) hd (fun _ _ => ⟨has, eT, hc, hs⟩)
  dsimp only [Pt.U, Pt.locs, Pt.cells, Pt.slots] at X' l1 l2 l3 st' hQ
  subst l1 l2 l3
  exact own_st st' (k v T' Lc X' hQ)
theorem own_callV (X : Stand p l e R s m args below meth c T locs cells slots) (hx : p.tables.exec = Jvm.exec) (hZ : Z.Warmed39 s.vm) {own C : String} {index : Nat} {y : MethodName} {bytes : ByteArray} {ml : Nat} {ret : Option FieldType} {rm : Room} {as : Array Value} {Q : Option Value → Heap → List Loc → Prop}
    (hown : s.vm.findClass own = some m.cls) (w1 : (Jvm.Cond.methodLink own index y).before a0 Z = true) (w2 : (Jvm.Cond.declares y).before a0 Z = true) (w3 : (Jvm.Cond.selects C y y).before a0 Z = true) (w4 : (Jvm.Cond.instanceMethod y).before a0 Z = true) (w5 : (Jvm.Cond.initialized y.cls).before a0 Z = true) (w6 : (Jvm.Cond.code y bytes ml ret).before a0 Z = true) (hy : y.cls ≠ "java/lang/invoke/MethodHandle" ∧ y.cls ≠ "java/lang/invoke/VarHandle")
    (hM : OMet l Z y bytes ml ret rm as h Q) (eT : T.heap = h) {b : Addr} (E : Exa Z h b C) {pc : Nat} {Ls : Array Slot} {st : List Value} (hsz : Ls.size = c.maxLocals) {argsL rest : List Value} {sig : MethodDescriptor} (hp : parseMethodDescriptor y.desc = some sig) (hn : argsL.length = sig.parameters.length) (has : (.ref b :: argsL).toArray = as) (hst : st = argsL.reverse ++ .ref b :: rest)
    {W : Nat} (hW : (rest.map fun v => v.category).sum ≤ W) (hd : decode c.code pc = .ok (.invokevirtual index, 3)) (hf : rm.frames + 1 ≤ R.frames) (hl : W + (ml + 11) + rm.locals ≤ R.locals) (hc : cells + rm.cells ≤ R.cells) (hs : slots + rm.slots ≤ R.slots)
    (k : ∀ (v : Option Value) (T' : State) (L' : List Loc), Stand p l e R s m args below meth c T' (locs ++ L') (cells + rm.cells) (slots + rm.slots) → Q v T'.heap L' → OGoes p.tables e below Φ (T'.setTop (mkF m (pc + 3) Ls (v.toList ++ rest)))) : OGoes p.tables e below Φ (T.setTop (mkF m pc Ls st)) := by
  obtain ⟨cq, kq, qa, qb, qc⟩ := isOf hZ eT E
  obtain ⟨v, vm1, ⟨T', L, kk, nn⟩, -, X', ⟨Lc, hQ, l1, l2, l3⟩, st'⟩ := X.virtualBack hx (y := y) (z := y) hown (mvT hZ w1) (mvT hZ w2) (notFace_of_selects (args := #[]) (mvT hZ w3)) (mvT hZ w3) (mvT hZ w4) hy (backOf (W := W) (hM []) hZ w6 w5 hf hl) qa qc (g := mkF m pc Ls st) rfl hsz (Steps.refl _) (argsL := argsL) (rest := rest) (fun sg h => by cases hp.symm.trans h; exact hn) hst (by show 2 * 0 + _ ≤ _; omega) hd (fun _ _ => ⟨has, eT, hc, hs⟩)
  dsimp only [Pt.U, Pt.locs, Pt.cells, Pt.slots] at X' l1 l2 l3 st' hQ
  subst l1 l2 l3
  exact own_tr st' (k v T' Lc X' hQ)
theorem own_callN (X : Stand p l e R s m args below meth c T locs cells slots) (hx : p.tables.exec = Jvm.exec) (hZ : Z.Warmed39 s.vm) {own : String} {index : Nat} {y : MethodName} {bytes : ByteArray} {ml : Nat} {rm : Room} {as : Array Value} {Q : Option Value → Heap → List Loc → Prop} (hy1 : y.name = "<init>")
    (hown : s.vm.findClass own = some m.cls) (w1 : (Jvm.Cond.methodLink own index y).before a0 Z = true) (w4 : (Jvm.Cond.instanceMethod y).before a0 Z = true) (w5 : (Jvm.Cond.initialized y.cls).before a0 Z = true) (w6 : (Jvm.Cond.code y bytes ml none).before a0 Z = true) (hy : y.cls ≠ "java/lang/invoke/MethodHandle" ∧ y.cls ≠ "java/lang/invoke/VarHandle")
    (hM : OMet l Z y bytes ml none rm as h Q) (eT : T.heap = h) {b : Addr} {pc : Nat} {Ls : Array Slot} {st : List Value} (hsz : Ls.size = c.maxLocals) {argsL rest : List Value} {sig : MethodDescriptor} (hp : parseMethodDescriptor y.desc = some sig) (hn : argsL.length = sig.parameters.length) (has : (.ref b :: argsL).toArray = as) (hst : st = argsL.reverse ++ .ref b :: rest)
    {W : Nat} (hW : (rest.map fun v => v.category).sum ≤ W) (hd : decode c.code pc = .ok (.invokespecial index, 3)) (hf : rm.frames + 1 ≤ R.frames) (hl : W + (ml + 11) + rm.locals ≤ R.locals) (hc : cells + rm.cells ≤ R.cells) (hs : slots + rm.slots ≤ R.slots)
    (k : ∀ (v : Option Value) (T' : State) (L' : List Loc), Stand p l e R s m args below meth c T' (locs ++ L') (cells + rm.cells) (slots + rm.slots) → Q v T'.heap L' → OGoes p.tables e below Φ (T'.setTop (mkF m (pc + 3) Ls (v.toList ++ rest)))) : OGoes p.tables e below Φ (T.setTop (mkF m pc Ls st)) := by
  obtain ⟨v, vm1, ⟨T', L, kk, nn⟩, -, X', ⟨Lc, hQ, l1, l2, l3⟩, st'⟩ := X.specialBack hx (y := y) hy1 hown (mvT hZ w1) (mvT hZ w4) (mvT hZ w6) hy (backOf (W := W) (hM []) hZ w6 w5 hf hl) (g := mkF m pc Ls st) rfl hsz (Steps.refl _) (a := b) (argsL := argsL) (rest := rest) (fun sg h => by cases hp.symm.trans h; exact hn) hst (by show 2 * 0 + _ ≤ _; omega) hd (fun _ _ => ⟨has, eT, hc, hs⟩)
  dsimp only [Pt.U, Pt.locs, Pt.cells, Pt.slots] at X' l1 l2 l3 st' hQ
  subst l1 l2 l3
  exact own_tr st' (k v T' Lc X' hQ)
theorem own_callN0 (X : Stand p l e R s m args below meth c T locs cells slots) (hx : p.tables.exec = Jvm.exec) (hZ : Z.Warmed39 s.vm) {own : String} {index : Nat} {y : MethodName} {bytes : ByteArray} {ml : Nat} {fr lo : Nat} {as : Array Value} {v : Option Value} (hy1 : y.name = "<init>")
    (hown : s.vm.findClass own = some m.cls) (w1 : (Jvm.Cond.methodLink own index y).before a0 Z = true) (w4 : (Jvm.Cond.instanceMethod y).before a0 Z = true) (w5 : (Jvm.Cond.initialized y.cls).before a0 Z = true) (w6 : (Jvm.Cond.code y bytes ml none).before a0 Z = true) (hy : y.cls ≠ "java/lang/invoke/MethodHandle" ∧ y.cls ≠ "java/lang/invoke/VarHandle")
    (hM : OPure l Z y bytes ml none fr lo as h v) (eT : T.heap = h) {b : Addr} {pc : Nat} {Ls : Array Slot} {st : List Value} (hsz : Ls.size = c.maxLocals) {argsL rest : List Value} {sig : MethodDescriptor} (hp : parseMethodDescriptor y.desc = some sig) (hn : argsL.length = sig.parameters.length) (has : (.ref b :: argsL).toArray = as) (hst : st = argsL.reverse ++ .ref b :: rest)
    {W : Nat} (hW : (rest.map fun v => v.category).sum ≤ W) (hd : decode c.code pc = .ok (.invokespecial index, 3)) (hf : fr + 1 ≤ R.frames) (hl : W + (ml + 11) + lo ≤ R.locals) (hc : cells ≤ R.cells) (hs : slots ≤ R.slots)
    (k : ∀ (T' : State), Stand p l e R s m args below meth c T' locs cells slots → T'.heap = h → OGoes p.tables e below Φ (T'.setTop (mkF m (pc + 3) Ls (v.toList ++ rest)))) : OGoes p.tables e below Φ (T.setTop (mkF m pc Ls st)) := by
  refine own_callN X hx hZ hy1 hown w1 w4 w5 w6 hy hM eT hsz hp hn has hst hW hd hf hl hc hs ?_
  rintro v' T' L' X' ⟨rfl, e', rfl⟩
  rw [List.append_nil] at X'
  exact k T' X' e'
theorem own_callS0 (X : Stand p l e R s m args below meth c T locs cells slots) (hx : p.tables.exec = Jvm.exec) (hZ : Z.Warmed39 s.vm) {own : String} {index : Nat} {y : MethodName} {bytes : ByteArray} {ml : Nat} {ret : Option FieldType} {fr lo : Nat} {as : Array Value} {v : Option Value}
    (hown : s.vm.findClass own = some m.cls) (w1 : (Jvm.Cond.methodLink own index y).before a0 Z = true) (w2 : (Jvm.Cond.static y).before a0 Z = true) (w3 : (Jvm.Cond.initialized y.cls).before a0 Z = true) (w4 : (Jvm.Cond.code y bytes ml ret).before a0 Z = true) (hy : y.cls ≠ "java/lang/invoke/MethodHandle" ∧ y.cls ≠ "java/lang/invoke/VarHandle")
    (hM : OPure l Z y bytes ml ret fr lo as h v) (eT : T.heap = h) {pc : Nat} {Ls : Array Slot} {st : List Value} (hsz : Ls.size = c.maxLocals) {argsL rest : List Value} {sig : MethodDescriptor} (hp : parseMethodDescriptor y.desc = some sig) (hn : argsL.length = sig.parameters.length) (has : argsL.toArray = as) (hst : st = argsL.reverse ++ rest)
    {W : Nat} (hW : (rest.map fun v => v.category).sum ≤ W) (hd : decode c.code pc = .ok (.invokestatic index, 3)) (hf : fr + 1 ≤ R.frames) (hl : W + (ml + 11) + lo ≤ R.locals) (hc : cells ≤ R.cells) (hs : slots ≤ R.slots)
    (k : ∀ (T' : State), Stand p l e R s m args below meth c T' locs cells slots → T'.heap = h → OGoes p.tables e below Φ (T'.setTop (mkF m (pc + 3) Ls (v.toList ++ rest)))) : OGoes p.tables e below Φ (T.setTop (mkF m pc Ls st)) := by
  refine own_callS X hx hZ hown w1 w2 w3 w4 hy hM eT hsz hp hn has hst hW hd hf hl hc hs ?_
  rintro v' T' L' X' ⟨rfl, e', rfl⟩
  rw [List.append_nil] at X'
  exact k T' X' e'
theorem own_callV0 (X : Stand p l e R s m args below meth c T locs cells slots) (hx : p.tables.exec = Jvm.exec) (hZ : Z.Warmed39 s.vm) {own C : String} {index : Nat} {y : MethodName} {bytes : ByteArray} {ml : Nat} {ret : Option FieldType} {fr lo : Nat} {as : Array Value} {v : Option Value}
    (hown : s.vm.findClass own = some m.cls) (w1 : (Jvm.Cond.methodLink own index y).before a0 Z = true) (w2 : (Jvm.Cond.declares y).before a0 Z = true) (w3 : (Jvm.Cond.selects C y y).before a0 Z = true) (w4 : (Jvm.Cond.instanceMethod y).before a0 Z = true) (w5 : (Jvm.Cond.initialized y.cls).before a0 Z = true) (w6 : (Jvm.Cond.code y bytes ml ret).before a0 Z = true) (hy : y.cls ≠ "java/lang/invoke/MethodHandle" ∧ y.cls ≠ "java/lang/invoke/VarHandle")
    (hM : OPure l Z y bytes ml ret fr lo as h v) (eT : T.heap = h) {b : Addr} (E : Exa Z h b C) {pc : Nat} {Ls : Array Slot} {st : List Value} (hsz : Ls.size = c.maxLocals) {argsL rest : List Value} {sig : MethodDescriptor} (hp : parseMethodDescriptor y.desc = some sig) (hn : argsL.length = sig.parameters.length) (has : (.ref b :: argsL).toArray = as) (hst : st = argsL.reverse ++ .ref b :: rest)
    {W : Nat} (hW : (rest.map fun v => v.category).sum ≤ W) (hd : decode c.code pc = .ok (.invokevirtual index, 3)) (hf : fr + 1 ≤ R.frames) (hl : W + (ml + 11) + lo ≤ R.locals) (hc : cells ≤ R.cells) (hs : slots ≤ R.slots)
    (k : ∀ (T' : State), Stand p l e R s m args below meth c T' locs cells slots → T'.heap = h → OGoes p.tables e below Φ (T'.setTop (mkF m (pc + 3) Ls (v.toList ++ rest)))) : OGoes p.tables e below Φ (T.setTop (mkF m pc Ls st)) := by
  refine own_callV X hx hZ hown w1 w2 w3 w4 w5 w6 hy hM eT E hsz hp hn has hst hW hd hf hl hc hs ?_
  rintro v' T' L' X' ⟨rfl, e', rfl⟩
  rw [List.append_nil] at X'
  exact k T' X' e'
theorem own_aa_eq_t {a b : Addr} (h : a = b) : XT.acmp .eq (.ref a) (.ref b) = true := XT.aa_eq_t (congrArg Value.ref h)
theorem own_aa_eq_f {a b : Addr} (h : ¬ a = b) : XT.acmp .eq (.ref a) (.ref b) = false := XT.aa_eq_f fun q => h (Value.ref.inj q)
theorem own_aa_ne_t {a b : Addr} (h : ¬ a = b) : XT.acmp .ne (.ref a) (.ref b) = true := XT.aa_ne_t fun q => h (Value.ref.inj q)
theorem own_aa_ne_f {a b : Addr} (h : a = b) : XT.acmp .ne (.ref a) (.ref b) = false := XT.aa_ne_f (congrArg Value.ref h)
/-! the case's words -/
theorem own_fld_int {t : Term} {C n d : String} {a : Addr} {k : Int32} (ht : t.eval args s none [] s = some (.ref a)) (h : (Jvm.Cond.eq (.field t C n d) (.int k)).value args s none s [] = some true) : Fld s s.heap a C n d (.int k) := by
  have e : (Term.field t C n d).eval args s none [] s = s.fieldOf? a C n d := fld_at ht
  cases hx : s.fieldOf? a C n d with
  | none => simp [Cond.value, e, hx] at h
  | some v =>
    have e2 : (Term.int k).eval args s none [] s = some (.int k) := rfl
    cases v <;> simp [Cond.value, e, hx, e2] at h
    subst h
    exact Fld.start hx
theorem own_static {C n d K : String} (h : (Jvm.Cond.exactly (.static C n d) K).value args s none s [] = some true) (w1 : (Jvm.Cond.initialized C).before args s = true) (w2 : (Jvm.Cond.laysStatic C n d).before args s = true) :
    ∃ a, (Term.static C n d).eval args s none [] s = some (.ref a) ∧ Sta s s.heap C n d (.ref a) ∧ Exa s s.heap a K := by
  obtain ⟨a, ha⟩ := exa_v h
  exact ⟨a, ha, Sta.start ha (Or.inr ⟨w1, w2⟩), Exa.start ha h⟩
/-! arrays of ints of some kind at the start: Tab; what the case says of their places -/
theorem own_toI {j : Int32} (h : ¬ j < 0) : j.toNatClampNeg.toInt32 = j := (back32 h).1
theorem own_elem {t i : Term} {idx : List Nat} {a : Addr} {cl : Cell} {j v : Int32} (ht : t.eval args s none idx s = some (.ref a)) (hi : i.eval args s none idx s = some (.int j)) (ha : s.arrayAt? a = some cl) (hj : ¬ j < 0) (hv : cl.slots[j.toNatClampNeg]? = some (.int (atv cl j))) :
    (Jvm.Cond.eq (.elem t i) (.int v)).value args s none s idx = some (decide (atv cl j = v)) := by
  have e1 : (Term.elem t i).eval args s none idx s = some (.int (atv cl j)) := (elem_f ht hi ha hj).trans hv
  have e2 : (Term.int v).eval args s none idx s = some (.int v) := rfl
  simp [Cond.value, e1, e2]
theorem own_one {t : Term} {a : Addr} {cl : Cell} {ty : FieldType} {n k v : Int32} (hT : Tab s s.heap a cl ty n) (ht : t.eval args s none [] s = some (.ref a)) (hk : ¬ k < 0) (hkn : k < n) (h : (Jvm.Cond.eq (.elem t (.int k)) (.int v)).value args s none s [] = some true) : atv cl k = v :=
  gotT (own_elem ht rfl (Arr.fin (Vm.Alike.refl _) hT.1) hk (hT.2.2.2 k (inb_of hT.2.1 ⟨hk, hkn⟩))) h
theorem own_idx {i : Nat} {idx : List Nat} : (Term.index 0).eval args s none (i :: idx) s = some (.int i.toInt32) := rfl
theorem own_ltI {a b : Term} {idx : List Nat} {x y : Int32} (ha : a.eval args s none idx s = some (.int x)) (hb : b.eval args s none idx s = some (.int y)) : (Jvm.Cond.lt a b).value args s none s idx = some (decide (x < y)) := by simp [Cond.value, ha, hb]
theorem own_leI {a b : Term} {idx : List Nat} {x y : Int32} (ha : a.eval args s none idx s = some (.int x)) (hb : b.eval args s none idx s = some (.int y)) : (Jvm.Cond.le a b).value args s none s idx = some (decide (x ≤ y)) := by simp [Cond.value, ha, hb]
theorem own_all {t : Term} {a : Addr} {cl : Cell} {ty : FieldType} {n : Int32} {c : Jvm.Cond} (hT : Tab s s.heap a cl ty n) (ht : t.eval args s none [] s = some (.ref a)) (h : (Jvm.Cond.all t c).value args s none s [] = some true) (j : Int32) (hj : ¬ j < 0) (hjn : j < n) :
    c.value args s none s [j.toNatClampNeg] = some true ∧ (Term.index 0).eval args s none [j.toNatClampNeg] s = some (.int j) ∧ cl.slots[j.toNatClampNeg]? = some (.int (atv cl j)) := by
  have hin := inb_of hT.2.1 ⟨hj, hjn⟩
  refine ⟨Cond.all_elim ht (Arr.fin (Vm.Alike.refl _) hT.1) h _ (by omega), ?_, hT.2.2.2 j hin⟩
  rw [own_idx, own_toI hj]
theorem own_all_lo {t : Term} {a : Addr} {cl : Cell} {ty : FieldType} {n k v : Int32} (hT : Tab s s.heap a cl ty n) (ht : ∀ idx, t.eval args s none idx s = some (.ref a)) (h : (Jvm.Cond.all t (.or (.le (.int k) (.index 0)) (.eq (.elem t (.index 0)) (.int v)))).value args s none s [] = some true) (j : Int32) (hj : ¬ j < 0) (hjn : j < n) : k ≤ j ∨ atv cl j = v := by
  obtain ⟨h1, h2, h3⟩ := own_all hT (ht []) h j hj hjn
  exact or_e2 (own_leI rfl h2) (own_elem (ht _) h2 (Arr.fin (Vm.Alike.refl _) hT.1) hj h3) h1
theorem own_all_hi {t : Term} {a : Addr} {cl : Cell} {ty : FieldType} {n k v : Int32} (hT : Tab s s.heap a cl ty n) (ht : ∀ idx, t.eval args s none idx s = some (.ref a)) (h : (Jvm.Cond.all t (.or (.lt (.index 0) (.int k)) (.eq (.elem t (.index 0)) (.int v)))).value args s none s [] = some true) (j : Int32) (hj : ¬ j < 0) (hjn : j < n) : j < k ∨ atv cl j = v := by
  obtain ⟨h1, h2, h3⟩ := own_all hT (ht []) h j hj hjn
  exact or_e2 (own_ltI h2 rfl) (own_elem (ht _) h2 (Arr.fin (Vm.Alike.refl _) hT.1) hj h3) h1
theorem own_all_mid {t : Term} {a : Addr} {cl : Cell} {ty : FieldType} {n k q v : Int32} (hT : Tab s s.heap a cl ty n) (ht : ∀ idx, t.eval args s none idx s = some (.ref a)) (h : (Jvm.Cond.all t (.or (.lt (.index 0) (.int k)) (.or (.le (.int q) (.index 0)) (.eq (.elem t (.index 0)) (.int v))))).value args s none s [] = some true) (j : Int32) (hj : ¬ j < 0) (hjn : j < n) : j < k ∨ ¬ j < q ∨ atv cl j = v := by
  obtain ⟨h1, h2, h3⟩ := own_all hT (ht []) h j hj hjn
  exact or3 h1 (own_ltI h2 rfl) (own_leI rfl h2) (own_elem (ht _) h2 (Arr.fin (Vm.Alike.refl _) hT.1) hj h3)
theorem own_arr {t : Term} {a : Addr} {ty : FieldType} {n : Int32} (hf : Fit s) (ht : t.eval args s none [] s = some (.ref a)) (h1 : (Jvm.Cond.arrayOf t ty).value args s none s [] = some true) (h2 : (Jvm.Cond.eq (.length t) (.int n)).value args s none s [] = some true) (hty : ty = .int ∨ ty = .boolean ∨ ty = .byte ∨ ty = .char ∨ ty = .short) (hn : ¬ n < 0) : ∃ cl, Tab s s.heap a cl ty n := by
  obtain ⟨cl, A⟩ := Arr.start ht h1
  have ha := Arr.fin (Vm.Alike.refl _) A
  have hl : cl.slots.size < 2 ^ 31 := by
    refine Nat.lt_of_not_le fun q => ?_
    have e : (Term.length t).eval args s none [] s = none := by simp [Term.eval, ht, ha, q]
    simp [Cond.value, e] at h2
  have e1 : (Term.length t).eval args s none [] s = some (.int cl.slots.size.toInt32) := len_f ht ha hl
  have e2 : (Term.int n).eval args s none [] s = some (.int n) := rfl
  have e3 : cl.slots.size.toInt32 = n := by simpa [Cond.value, e1, e2] using h2
  exact ⟨cl, Tab.start hf A hty hl e3 hn⟩
theorem own_aastore (X : Stand p l e R s m args below meth c T locs cells slots) (hx : p.tables.exec = Jvm.exec) (hZ : Z.Warmed39 s.vm) (eT : T.heap = h) {a : Addr} {kc : ClassId} {ty : FieldType} {n : Int32} {vs : List Value} {d : Value} (A : Arv Z h a kc ty n vs d) {j : Int32} {v : Value} {i n0 : Nat} (hj : ¬ j < 0) (hjn : j < n) (hji : j.toNatClampNeg = i) (hi : i < vs.length) (hty : ty.isReference = true) (hv : fits ty v = true) (S : Sto Z h a v) (N : Fr n0 locs) (ge : n0 ≤ a) {pc : Nat} {Ls : Array Slot} {rest : List Value} (hd : decode c.code pc = .ok (.aastore, 1))
    (kk : ∀ (T' : State) (h' : Heap) (L' : List Loc), Stand p l e R s m args below meth c T' L' cells slots → T'.heap = h' → Fr n0 L' → Wr h h' a i v → Arv Z h' a kc ty n (vs.set i v) d → OGoes p.tables e below Φ (T'.setTop (mkF m (pc + 1) Ls rest))) : OGoes p.tables e below Φ (T.setTop (mkF m pc Ls (v :: .int j :: .ref a :: rest))) := by
  subst hji
  obtain ⟨cl, Ar, q1, S1, N1, H1, G1⟩ := A
  have hin := inb_of S1 ⟨hj, hjn⟩
  obtain ⟨T', h', X', e', W', st⟩ := stR X hx hZ eT Ar (j := j) hin hty S (g := mkF m pc Ls (v :: .int j :: .ref a :: rest)) rfl rfl hd
  exact own_st st (kk T' h' _ X' e' (Fr.snoc X' N ge) W' (Arv.set Ar q1 S1 N1 H1 G1 hv W' _ rfl hi))
theorem own_lastore (X : Stand p l e R s m args below meth c T locs cells slots) (hx : p.tables.exec = Jvm.exec) (hZ : Z.Warmed39 s.vm) (eT : T.heap = h) {a : Addr} {kc : ClassId} {n : Int32} {vs : List Value} {d : Value} (A : Arv Z h a kc .long n vs d) {j : Int32} {v : Int64} {i n0 : Nat} (hj : ¬ j < 0) (hjn : j < n) (hji : j.toNatClampNeg = i) (hi : i < vs.length)  (N : Fr n0 locs) (ge : n0 ≤ a) {pc : Nat} {Ls : Array Slot} {rest : List Value} (hd : decode c.code pc = .ok (.lastore, 1))
    (kk : ∀ (T' : State) (h' : Heap) (L' : List Loc), Stand p l e R s m args below meth c T' L' cells slots → T'.heap = h' → Fr n0 L' → Wr h h' a i (.long v) → Arv Z h' a kc .long n (vs.set i (.long v)) d → OGoes p.tables e below Φ (T'.setTop (mkF m (pc + 1) Ls rest))) : OGoes p.tables e below Φ (T.setTop (mkF m pc Ls ((.long v) :: .int j :: .ref a :: rest))) := by
  subst hji
  obtain ⟨cl, Ar, q1, S1, N1, H1, G1⟩ := A
  have hin := inb_of S1 ⟨hj, hjn⟩
  obtain ⟨T', h', X', e', W', st⟩ := stJ X hx hZ eT Ar (j := j) hin  (g := mkF m pc Ls ((.long v) :: .int j :: .ref a :: rest)) rfl rfl hd
  exact own_st st (kk T' h' _ X' e' (Fr.snoc X' N ge) W' (Arv.set Ar q1 S1 N1 H1 G1 rfl W' _ rfl hi))
theorem own_iastore (X : Stand p l e R s m args below meth c T locs cells slots) (hx : p.tables.exec = Jvm.exec) (hZ : Z.Warmed39 s.vm) (eT : T.heap = h) {a : Addr} {kc : ClassId} {n : Int32} {vs : List Value} {d : Value} (A : Arv Z h a kc .int n vs d) {j : Int32} {v : Int32} {i n0 : Nat} (hj : ¬ j < 0) (hjn : j < n) (hji : j.toNatClampNeg = i) (hi : i < vs.length)  (N : Fr n0 locs) (ge : n0 ≤ a) {pc : Nat} {Ls : Array Slot} {rest : List Value} (hd : decode c.code pc = .ok (.iastore, 1))
    (kk : ∀ (T' : State) (h' : Heap) (L' : List Loc), Stand p l e R s m args below meth c T' L' cells slots → T'.heap = h' → Fr n0 L' → Wr h h' a i (.int v) → Arv Z h' a kc .int n (vs.set i (.int v)) d → OGoes p.tables e below Φ (T'.setTop (mkF m (pc + 1) Ls rest))) : OGoes p.tables e below Φ (T.setTop (mkF m pc Ls ((.int v) :: .int j :: .ref a :: rest))) := by
  subst hji
  obtain ⟨cl, Ar, q1, S1, N1, H1, G1⟩ := A
  have hin := inb_of S1 ⟨hj, hjn⟩
  obtain ⟨T', h', X', e', W', st⟩ := stI X hx hZ eT Ar (j := j) hin  (g := mkF m pc Ls ((.int v) :: .int j :: .ref a :: rest)) rfl rfl hd
  exact own_st st (kk T' h' _ X' e' (Fr.snoc X' N ge) W' (Arv.set Ar q1 S1 N1 H1 G1 rfl W' _ rfl hi))
theorem own_bastore (X : Stand p l e R s m args below meth c T locs cells slots) (hx : p.tables.exec = Jvm.exec) (hZ : Z.Warmed39 s.vm) (eT : T.heap = h) {a : Addr} {kc : ClassId} {n : Int32} {vs : List Value} {d : Value} (A : Arv Z h a kc .byte n vs d) {j : Int32} {v : Int32} {i n0 : Nat} (hj : ¬ j < 0) (hjn : j < n) (hji : j.toNatClampNeg = i) (hi : i < vs.length)  (N : Fr n0 locs) (ge : n0 ≤ a) {pc : Nat} {Ls : Array Slot} {rest : List Value} (hd : decode c.code pc = .ok (.bastore, 1))
    (kk : ∀ (T' : State) (h' : Heap) (L' : List Loc), Stand p l e R s m args below meth c T' L' cells slots → T'.heap = h' → Fr n0 L' → Wr h h' a i (.int (nar .byte v)) → Arv Z h' a kc .byte n (vs.set i (.int (nar .byte v))) d → OGoes p.tables e below Φ (T'.setTop (mkF m (pc + 1) Ls rest))) : OGoes p.tables e below Φ (T.setTop (mkF m pc Ls ((.int v) :: .int j :: .ref a :: rest))) := by
  subst hji
  obtain ⟨cl, Ar, q1, S1, N1, H1, G1⟩ := A
  have hin := inb_of S1 ⟨hj, hjn⟩
  obtain ⟨T', h', X', e', W', st⟩ := stB X hx hZ eT Ar (j := j) hin  (g := mkF m pc Ls ((.int v) :: .int j :: .ref a :: rest)) rfl rfl hd
  exact own_st st (kk T' h' _ X' e' (Fr.snoc X' N ge) W' (Arv.set Ar q1 S1 N1 H1 G1 (fits_nar_byte _) W' _ rfl hi))
theorem own_castore (X : Stand p l e R s m args below meth c T locs cells slots) (hx : p.tables.exec = Jvm.exec) (hZ : Z.Warmed39 s.vm) (eT : T.heap = h) {a : Addr} {kc : ClassId} {n : Int32} {vs : List Value} {d : Value} (A : Arv Z h a kc .char n vs d) {j : Int32} {v : Int32} {i n0 : Nat} (hj : ¬ j < 0) (hjn : j < n) (hji : j.toNatClampNeg = i) (hi : i < vs.length)  (N : Fr n0 locs) (ge : n0 ≤ a) {pc : Nat} {Ls : Array Slot} {rest : List Value} (hd : decode c.code pc = .ok (.castore, 1))
    (kk : ∀ (T' : State) (h' : Heap) (L' : List Loc), Stand p l e R s m args below meth c T' L' cells slots → T'.heap = h' → Fr n0 L' → Wr h h' a i (.int (nar .char v)) → Arv Z h' a kc .char n (vs.set i (.int (nar .char v))) d → OGoes p.tables e below Φ (T'.setTop (mkF m (pc + 1) Ls rest))) : OGoes p.tables e below Φ (T.setTop (mkF m pc Ls ((.int v) :: .int j :: .ref a :: rest))) := by
  subst hji
  obtain ⟨cl, Ar, q1, S1, N1, H1, G1⟩ := A
  have hin := inb_of S1 ⟨hj, hjn⟩
  obtain ⟨T', h', X', e', W', st⟩ := stC X hx hZ eT Ar (j := j) hin  (g := mkF m pc Ls ((.int v) :: .int j :: .ref a :: rest)) rfl rfl hd
  exact own_st st (kk T' h' _ X' e' (Fr.snoc X' N ge) W' (Arv.set Ar q1 S1 N1 H1 G1 (fits_nar_char _) W' _ rfl hi))
theorem own_aaload (X : Stand p l e R s m args below meth c T locs cells slots) (hx : p.tables.exec = Jvm.exec) (hZ : Z.Warmed39 s.vm) (eT : T.heap = h) {a : Addr} {kc : ClassId} {ty : FieldType} (hty : ty.isReference = true) {n : Int32} {vs : List Value} {d : Value} (A : Arv Z h a kc ty n vs d) {j : Int32} {v : Value} (hj : ¬ j < 0) (hjn : j < n) (hv : vs.getD j.toNatClampNeg d = v) {pc : Nat} {Ls : Array Slot} {rest : List Value} (hd : decode c.code pc = .ok (.aaload, 1))
    (kk : OGoes p.tables e below Φ (T.setTop (mkF m (pc + 1) Ls (v :: rest)))) : OGoes p.tables e below Φ (T.setTop (mkF m pc Ls (.int j :: .ref a :: rest))) := by
  obtain ⟨cl, Ar, q1, S1, N1, H1, G1⟩ := A
  have hin := inb_of S1 ⟨hj, hjn⟩
  exact own_st (fun t k => X.aaload hx (j := j) (v := v) (by rw [eT]; exact Ar.1) (State.isArrayOf_alike hZ.alike Ar.2.1) hty Ar.2.2 hin (H1.at hin hv) (g := mkF m pc Ls (.int j :: .ref a :: rest)) rfl rfl hd t k) kk
theorem own_laload (X : Stand p l e R s m args below meth c T locs cells slots) (hx : p.tables.exec = Jvm.exec) (hZ : Z.Warmed39 s.vm) (eT : T.heap = h) {a : Addr} {kc : ClassId} {n : Int32} {vs : List Value} {d : Value} (A : Arv Z h a kc .long n vs d) {j : Int32} {v : Value} (hj : ¬ j < 0) (hjn : j < n) (hv : vs.getD j.toNatClampNeg d = v) {pc : Nat} {Ls : Array Slot} {rest : List Value} (hd : decode c.code pc = .ok (.laload, 1))
    (kk : OGoes p.tables e below Φ (T.setTop (mkF m (pc + 1) Ls (v :: rest)))) : OGoes p.tables e below Φ (T.setTop (mkF m pc Ls (.int j :: .ref a :: rest))) := by
  obtain ⟨cl, Ar, q1, S1, N1, H1, G1⟩ := A
  have hin := inb_of S1 ⟨hj, hjn⟩
  exact own_st (fun t k => X.laload hx (j := j) (v := v) (by rw [eT]; exact Ar.1) (State.isArrayOf_alike hZ.alike Ar.2.1) Ar.2.2 hin (H1.at hin hv) (g := mkF m pc Ls (.int j :: .ref a :: rest)) rfl rfl hd t k) kk
theorem own_iaload (X : Stand p l e R s m args below meth c T locs cells slots) (hx : p.tables.exec = Jvm.exec) (hZ : Z.Warmed39 s.vm) (eT : T.heap = h) {a : Addr} {kc : ClassId} {n : Int32} {vs : List Value} {d : Value} (A : Arv Z h a kc .int n vs d) {j : Int32} {v : Value} (hj : ¬ j < 0) (hjn : j < n) (hv : vs.getD j.toNatClampNeg d = v) {pc : Nat} {Ls : Array Slot} {rest : List Value} (hd : decode c.code pc = .ok (.iaload, 1))
    (kk : OGoes p.tables e below Φ (T.setTop (mkF m (pc + 1) Ls (v :: rest)))) : OGoes p.tables e below Φ (T.setTop (mkF m pc Ls (.int j :: .ref a :: rest))) := by
  obtain ⟨cl, Ar, q1, S1, N1, H1, G1⟩ := A
  have hin := inb_of S1 ⟨hj, hjn⟩
  exact own_st (fun t k => X.iaload hx (j := j) (v := v) (by rw [eT]; exact Ar.1) (State.isArrayOf_alike hZ.alike Ar.2.1) Ar.2.2 hin (H1.at hin hv) (g := mkF m pc Ls (.int j :: .ref a :: rest)) rfl rfl hd t k) kk
theorem own_baload (X : Stand p l e R s m args below meth c T locs cells slots) (hx : p.tables.exec = Jvm.exec) (hZ : Z.Warmed39 s.vm) (eT : T.heap = h) {a : Addr} {kc : ClassId} {n : Int32} {vs : List Value} {d : Value} (A : Arv Z h a kc .byte n vs d) {j : Int32} {v : Value} (hj : ¬ j < 0) (hjn : j < n) (hv : vs.getD j.toNatClampNeg d = v) {pc : Nat} {Ls : Array Slot} {rest : List Value} (hd : decode c.code pc = .ok (.baload, 1))
    (kk : OGoes p.tables e below Φ (T.setTop (mkF m (pc + 1) Ls (v :: rest)))) : OGoes p.tables e below Φ (T.setTop (mkF m pc Ls (.int j :: .ref a :: rest))) := by
  obtain ⟨cl, Ar, q1, S1, N1, H1, G1⟩ := A
  have hin := inb_of S1 ⟨hj, hjn⟩
  exact own_st (fun t k => X.baloadBytes hx (j := j) (v := v) (by rw [eT]; exact Ar.1) (State.isArrayOf_alike hZ.alike Ar.2.1) Ar.2.2 hin (H1.at hin hv) (g := mkF m pc Ls (.int j :: .ref a :: rest)) rfl rfl hd t k) kk
theorem own_caload (X : Stand p l e R s m args below meth c T locs cells slots) (hx : p.tables.exec = Jvm.exec) (hZ : Z.Warmed39 s.vm) (eT : T.heap = h) {a : Addr} {kc : ClassId} {n : Int32} {vs : List Value} {d : Value} (A : Arv Z h a kc .char n vs d) {j : Int32} {v : Value} (hj : ¬ j < 0) (hjn : j < n) (hv : vs.getD j.toNatClampNeg d = v) {pc : Nat} {Ls : Array Slot} {rest : List Value} (hd : decode c.code pc = .ok (.caload, 1))
    (kk : OGoes p.tables e below Φ (T.setTop (mkF m (pc + 1) Ls (v :: rest)))) : OGoes p.tables e below Φ (T.setTop (mkF m pc Ls (.int j :: .ref a :: rest))) := by
  obtain ⟨cl, Ar, q1, S1, N1, H1, G1⟩ := A
  have hin := inb_of S1 ⟨hj, hjn⟩
  exact own_st (fun t k => X.caload hx (j := j) (v := v) (by rw [eT]; exact Ar.1) (State.isArrayOf_alike hZ.alike Ar.2.1) Ar.2.2 hin (H1.at hin hv) (g := mkF m pc Ls (.int j :: .ref a :: rest)) rfl rfl hd t k) kk
theorem own_alen (X : Stand p l e R s m args below meth c T locs cells slots) (hx : p.tables.exec = Jvm.exec) (hZ : Z.Warmed39 s.vm) (eT : T.heap = h) {a : Addr} {kc : ClassId} {ty : FieldType} {n : Int32} {vs : List Value} {d : Value} (A : Arv Z h a kc ty n vs d) {pc : Nat} {Ls : Array Slot} {rest : List Value} (hd : decode c.code pc = .ok (.arraylength, 1))
    (kk : OGoes p.tables e below Φ (T.setTop (mkF m (pc + 1) Ls (.int n :: rest)))) : OGoes p.tables e below Φ (T.setTop (mkF m pc Ls (.ref a :: rest))) := by
  obtain ⟨cl, Ar, q1, S1, N1, H1, G1⟩ := A
  exact own_st (fun t k => X.arraylength hx (by rw [eT]; exact Ar.1) (State.isArrayOf_alike hZ.alike Ar.2.1) (g := mkF m pc Ls (.ref a :: rest)) rfl rfl hd t (by rw [len_of S1 N1]; exact k)) kk
theorem own_newarray (X : Stand p l e R s m args below meth c T locs cells slots) (hx : p.tables.exec = Jvm.exec) (hZ : Z.Warmed39 s.vm) (eT : T.heap = h) {aty : ArrayType} (w : (Jvm.Cond.arrayClass (newarray.typeOf aty)).before a0 Z = true) {n : Int32} (hn : ¬ n < 0) {cap : Nat} (hcap : n.toNatClampNeg ≤ cap) (hb : cap * 8 ≤ 536870912) (hc : cells + 1 ≤ R.cells) (hl : slots + cap ≤ R.slots) {ad : String} (had : "[" ++ (newarray.typeOf aty).toString = ad) {pc : Nat} {Ls : Array Slot} {rest : List Value} (hd : decode c.code pc = .ok (.newarray aty, 2))
    (kk : ∀ (T' : State) (h' : Heap) (kc : ClassId) (b : Nat), Stand p l e R s m args below meth c T' locs (cells + 1) (slots + cap) → T'.heap = h' → Ext h h' → b = h.size → Arv Z h' b kc (newarray.typeOf aty) n [] (defaultValue (newarray.typeOf aty)) → Exa Z h' b ad → OGoes p.tables e below Φ (T'.setTop (mkF m (pc + 2) Ls (.ref b :: rest)))) : OGoes p.tables e below Φ (T.setTop (mkF m pc Ls (.int n :: rest))) := by
  obtain ⟨T', h', kc, X', e', E', A', B', st⟩ := newPE X hx hZ w eT (g := mkF m pc Ls (.int n :: rest)) rfl hd rfl hn hcap hb hc hl had
  exact own_st st (kk T' h' kc _ X' e' E' rfl (Arv.new A' hn) B')
theorem own_anewarray (X : Stand p l e R s m args below meth c T locs cells slots) (hx : p.tables.exec = Jvm.exec) (hZ : Z.Warmed39 s.vm) (eT : T.heap = h) {own C : String} {index : Nat} (hown : s.vm.findClass own = some m.cls) (w1 : (Jvm.Cond.classLink own index C).before a0 Z = true) (w2 : (Jvm.Cond.arrayOver (.object C)).before a0 Z = true) {n : Int32} (hn : ¬ n < 0) {cap : Nat} (hcap : n.toNatClampNeg ≤ cap) (hb : cap * 8 ≤ 536870912) (hc : cells + 1 ≤ R.cells) (hl : slots + cap ≤ R.slots) {pc : Nat} {Ls : Array Slot} {rest : List Value} (hd : decode c.code pc = .ok (.anewarray index, 3))
    (kk : ∀ (T' : State) (h' : Heap) (kc : ClassId) (b : Nat), Stand p l e R s m args below meth c T' locs (cells + 1) (slots + cap) → T'.heap = h' → Ext h h' → b = h.size → Arv Z h' b kc (.object C) n [] .null → Ovr Z kc C → OGoes p.tables e below Φ (T'.setTop (mkF m (pc + 3) Ls (.ref b :: rest)))) : OGoes p.tables e below Φ (T.setTop (mkF m pc Ls (.int n :: rest))) := by
  obtain ⟨T', h', kc, X', e', E', A', O', st⟩ := newR X hx hZ hown w1 w2 eT (g := mkF m pc Ls (.int n :: rest)) rfl hd rfl hn hcap hb hc hl
  exact own_st st (kk T' h' kc _ X' e' E' rfl (Arv.new A' hn) O')
theorem own_anewarrayA (X : Stand p l e R s m args below meth c T locs cells slots) (hx : p.tables.exec = Jvm.exec) (hZ : Z.Warmed39 s.vm) (eT : T.heap = h) {own C : String} {ty : FieldType} {index : Nat} (hown : s.vm.findClass own = some m.cls) (hC : (FieldType.array ty).toString = C) (w1 : (Jvm.Cond.classLink own index C).before a0 Z = true) (w2 : (Jvm.Cond.arrayOver (.array ty)).before a0 Z = true) {n : Int32} (hn : ¬ n < 0) {cap : Nat} (hcap : n.toNatClampNeg ≤ cap) (hb : cap * 8 ≤ 536870912) (hc : cells + 1 ≤ R.cells) (hl : slots + cap ≤ R.slots) {pc : Nat} {Ls : Array Slot} {rest : List Value} (hd : decode c.code pc = .ok (.anewarray index, 3))
    (kk : ∀ (T' : State) (h' : Heap) (kc : ClassId) (b : Nat), Stand p l e R s m args below meth c T' locs (cells + 1) (slots + cap) → T'.heap = h' → Ext h h' → b = h.size → Arv Z h' b kc (.array ty) n [] .null → OvrA Z kc ty C → OGoes p.tables e below Φ (T'.setTop (mkF m (pc + 3) Ls (.ref b :: rest)))) : OGoes p.tables e below Φ (T.setTop (mkF m pc Ls (.int n :: rest))) := by
  obtain ⟨T', h', kc, X', e', E', A', -, O', st⟩ := newRA X hx hZ hown hC w1 w2 eT (g := mkF m pc Ls (.int n :: rest)) rfl hd rfl hn hcap hb hc hl rfl
  exact own_st st (kk T' h' kc _ X' e' E' rfl (Arv.new A' hn) O')
theorem own_new (X : Stand p l e R s m args below meth c T locs cells slots) (hx : p.tables.exec = Jvm.exec) (hZ : Z.Warmed39 s.vm) (eT : T.heap = h) {own C : String} {index n : Nat} (hown : s.vm.findClass own = some m.cls) (w : (Jvm.Cond.classLink own index C).before a0 Z = true) (wi : (Jvm.Cond.instantiable C n).before a0 Z = true) (wz : (Jvm.Cond.initialized C).before a0 Z = true) (hc : cells + 1 ≤ R.cells) (hl : slots + n ≤ R.slots) {pc : Nat} {Ls : Array Slot} {st : List Value} (hd : decode c.code pc = .ok (.new index, 3))
    (kk : ∀ (T' : State) (h' : Heap) (b : Nat), Stand p l e R s m args below meth c T' locs (cells + 1) (slots + n) → T'.heap = h' → Ext h h' → b = h.size → Exa Z h' b C → (∀ {O nm d : String} {ty : FieldType}, Laid Z a0 C O nm d → parseFieldDescriptor d = some ty → Fld Z h' b O nm d (defaultValue ty)) → OGoes p.tables e below Φ (T'.setTop (mkF m (pc + 3) Ls (.ref b :: st)))) : OGoes p.tables e below Φ (T.setTop (mkF m pc Ls st)) := by
  obtain ⟨T', h', X', e', E', A', D', -, st'⟩ := newO X hx hZ hown w wi wz eT (g := mkF m pc Ls st) rfl hd hc hl
  exact own_st st' (kk T' h' _ X' e' E' rfl A' D')
theorem own_getfield (X : Stand p l e R s m args below meth c T locs cells slots) (hx : p.tables.exec = Jvm.exec) (hZ : Z.Warmed39 s.vm) (eT : T.heap = h) {own R0 O n d : String} {index : Nat} (hown : s.vm.findClass own = some m.cls) (w : (Jvm.Cond.fieldLink own index R0 n d).before a0 Z = true) (via : Via Z R0 O n d) {a : Addr} {v : Value} (F : Fld Z h a O n d v) {pc : Nat} {Ls : Array Slot} {rest : List Value} (hd : decode c.code pc = .ok (.getfield index, 3))
    (kk : ∀ (T' : State), Stand p l e R s m args below meth c T' locs cells slots → T'.heap = h → OGoes p.tables e below Φ (T'.setTop (mkF m (pc + 3) Ls (v :: rest)))) : OGoes p.tables e below Φ (T.setTop (mkF m pc Ls (.ref a :: rest))) := by
  obtain ⟨T', X', e', st⟩ := getF X hx hZ hown (host := "") (Or.inl w) via eT F (g := mkF m pc Ls (.ref a :: rest)) rfl rfl hd
  exact own_st st (kk T' X' e')
theorem own_getstatic (X : Stand p l e R s m args below meth c T locs cells slots) (hx : p.tables.exec = Jvm.exec) (hZ : Z.Warmed39 s.vm) (eT : T.heap = h) {own O n d : String} {index : Nat} (hown : s.vm.findClass own = some m.cls) (w : (Jvm.Cond.fieldLink own index O n d).before a0 Z = true) {v : Value} (F : Sta Z h O n d v) {pc : Nat} {Ls : Array Slot} {st : List Value} (hd : decode c.code pc = .ok (.getstatic index, 3))
    (kk : ∀ (T' : State), Stand p l e R s m args below meth c T' locs cells slots → T'.heap = h → OGoes p.tables e below Φ (T'.setTop (mkF m (pc + 3) Ls (v :: st)))) : OGoes p.tables e below Φ (T.setTop (mkF m pc Ls st)) := by
  obtain ⟨T', X', e', st'⟩ := getS X hx hZ (host := "") hown w Via.refl eT F (g := mkF m pc Ls st) rfl hd
  exact own_st st' (kk T' X' e')
theorem own_putfield (X : Stand p l e R s m args below meth c T locs cells slots) (hx : p.tables.exec = Jvm.exec) (hZ : Z.Warmed39 s.vm) (eT : T.heap = h) {own O n d C : String} {index kk0 : Nat} {ty : FieldType} (hown : s.vm.findClass own = some m.cls) (w : (Jvm.Cond.fieldLink own index O n d).before a0 Z = true) {a : Addr} {v old : Value} (F : Fld Z h a O n d old) (E : Exa Z h a C) (L : (Jvm.Cond.lays C O n d).before a0 Z = true ∨ ((Jvm.Cond.laysFinal C O n d).before a0 Z = true ∧ own = O ∧ meth.name = "<init>")) (wi : (Jvm.Cond.instantiable C kk0).before a0 Z = true) (hty : parseFieldDescriptor d = some ty) (hn : narrow ty v = v) (hf : fits ty v = true)
    {n0 : Nat} (N : Fr n0 locs) (ge : n0 ≤ a) {pc : Nat} {Ls : Array Slot} {rest : List Value} (hd : decode c.code pc = .ok (.putfield index, 3))
    (kk : ∀ (T' : State) (h' : Heap) (L' : List Loc), Stand p l e R s m args below meth c T' L' cells slots → T'.heap = h' → Fr n0 L' → Wr h h' a (Jvm.RoadKit.slotOf Z O n d) v → Fld Z h' a O n d v → OGoes p.tables e below Φ (T'.setTop (mkF m (pc + 3) Ls rest))) : OGoes p.tables e below Φ (T.setTop (mkF m pc Ls (v :: .ref a :: rest))) := by
  obtain ⟨T', h', X', e', W', st⟩ := putF X hx hZ hown (host := "") (Or.inl w) Via.refl eT F E L wi hty hn hf (g := mkF m pc Ls (v :: .ref a :: rest)) rfl rfl hd
  exact own_st st (kk T' h' _ X' e' (Fr.snoc X' N ge) W' (F.same W'))
theorem own_ne {a b : Nat} (h : a < b ∨ b < a) : @Ne Addr a b := fun (q : a = b) => by omega
theorem own_ext_trans {h1 h2 h3 : Heap} (A : Ext h1 h2) (B : Ext h2 h3) : Ext h1 h3 := ⟨Nat.le_trans A.1 B.1, fun a c q => B.2 a c (A.2 a c q)⟩
theorem own_old_wr {h' : Heap} {a : Addr} {sl : Nat} {v : Value} (O : Ext Z.heap h) (W : Wr h h' a sl v) (q : Z.heap.size ≤ a) : Ext Z.heap h' := (Old.wr (Z := Z) (n0 := Z.heap.size) ⟨rfl, O⟩ W q).2
theorem own_old_keep {h' : Heap} {ws : List Addr} (O : Ext Z.heap h) (K : Keep h h' ws) (q : ∀ x ∈ ws, Z.heap.size ≤ x) : Ext Z.heap h' := (Old.keep (Z := Z) (n0 := Z.heap.size) ⟨rfl, O⟩ K q).2
theorem own_callU0 (X : Stand p l e R s m args below meth c T locs cells slots) (hx : p.tables.exec = Jvm.exec) (hZ : Z.Warmed39 s.vm) {own C owner : String} {index : Nat} {x0 y : MethodName} {bytes : ByteArray} {ml : Nat} {ret : Option FieldType} {fr lo : Nat} {as : Array Value} {v : Option Value}
    (hown : s.vm.findClass own = some m.cls) (w1 : (Jvm.Cond.methodLink own index x0).before a0 Z = true) (w2 : (Jvm.Cond.sameMethod x0.cls owner x0.name x0.desc).before a0 Z = true) (w3 : (Jvm.Cond.declares ⟨owner, x0.name, x0.desc⟩).before a0 Z = true) (w3' : (Jvm.Cond.selects C x0 y).before a0 Z = true) (w4 : (Jvm.Cond.instanceMethod y).before a0 Z = true) (w5 : (Jvm.Cond.initialized y.cls).before a0 Z = true) (w6 : (Jvm.Cond.code y bytes ml ret).before a0 Z = true) (hy : owner ≠ "java/lang/invoke/MethodHandle" ∧ owner ≠ "java/lang/invoke/VarHandle")
    (hM : OPure l Z y bytes ml ret fr lo as h v) (eT : T.heap = h) {b : Addr} (E : Exa Z h b C) {pc : Nat} {Ls : Array Slot} {st : List Value} (hsz : Ls.size = c.maxLocals) {argsL rest : List Value} {sig : MethodDescriptor} (hp : parseMethodDescriptor x0.desc = some sig) (hn : argsL.length = sig.parameters.length) (has : (.ref b :: argsL).toArray = as) (hst : st = argsL.reverse ++ .ref b :: rest)
    {W : Nat} (hW : (rest.map fun v => v.category).sum ≤ W) (hd : decode c.code pc = .ok (.invokevirtual index, 3)) (hf : fr + 1 ≤ R.frames) (hl : W + (ml + 11) + lo ≤ R.locals) (hc : cells ≤ R.cells) (hs : slots ≤ R.slots)
    (k : ∀ (T' : State), Stand p l e R s m args below meth c T' locs cells slots → T'.heap = h → OGoes p.tables e below Φ (T'.setTop (mkF m (pc + 3) Ls (v.toList ++ rest)))) : OGoes p.tables e below Φ (T.setTop (mkF m pc Ls st)) := by
  obtain ⟨cq, kq, qa, qb, qc⟩ := isOf hZ eT E
  obtain ⟨v', vm1, ⟨T', L, kk, nn⟩, -, X', ⟨Lc, ⟨q1, q2, q3⟩, l1, l2, l3⟩, st'⟩ := X.virtualBackUp hx (x := x0) (y := y) hown (mvT hZ w1) (mvT hZ w2) (mvT hZ w3) hy (mvT hZ w3') (mvT hZ w4) (backOf (rm := ⟨fr, 0, 0, lo⟩) (Q := fun v' h' L' => v' = v ∧ h' = h ∧ L' = []) (W := W) (hM []) hZ w6 w5 hf hl) qa qc (g := mkF m pc Ls st) rfl hsz (Steps.refl _) (argsL := argsL) (rest := rest) (fun sg h => by cases hp.symm.trans h; exact hn) hst (by show 2 * 0 + _ ≤ _; omega) hd (fun _ _ => ⟨has, eT, hc, hs⟩)
  dsimp only [Pt.U, Pt.locs, Pt.cells, Pt.slots] at X' l1 l2 l3 st' q2
  subst l1 l2 l3 q1 q3
  rw [List.append_nil] at X'
  exact own_tr st' (k T' X' q2)
theorem own_stoA {a y : Addr} {kc : ClassId} {t0 ty : FieldType} {n : Int32} {vs : List Value} {d : Value} {C : String} (A : Arv Z h a kc t0 n vs d) (O : OvrA Z kc ty C) (I : Ins Z h y C true) : Sto Z h a (.ref y) := by
  obtain ⟨cl, Ar, q1, -⟩ := A
  exact Sto.ofVA Ar q1 O I
theorem own_sto {a y : Addr} {kc : ClassId} {t0 : FieldType} {n : Int32} {vs : List Value} {d : Value} {C : String} (A : Arv Z h a kc t0 n vs d) (O : Ovr Z kc C) (I : Ins Z h y C true) : Sto Z h a (.ref y) := by
  obtain ⟨cl, Ar, q1, -⟩ := A
  exact Sto.ofV Ar q1 O I
theorem own_arrR {t : Term} {a : Addr} {ty : FieldType} {n : Int32} (ht : t.eval args s none [] s = some (.ref a)) (h1 : (Jvm.Cond.arrayOf t ty).value args s none s [] = some true) (h2 : (Jvm.Cond.eq (.length t) (.int n)).value args s none s [] = some true) : ∃ cl, Arr s s.heap a cl ty ∧ cl.slots.size < 2 ^ 31 ∧ cl.slots.size.toInt32 = n := by
  obtain ⟨cl, A⟩ := Arr.start ht h1
  have ha := Arr.fin (Vm.Alike.refl _) A
  have hl : cl.slots.size < 2 ^ 31 := by
    refine Nat.lt_of_not_le fun q => ?_
    have e : (Term.length t).eval args s none [] s = none := by simp [Term.eval, ht, ha, q]
    simp [Cond.value, e] at h2
  have e1 : (Term.length t).eval args s none [] s = some (.int cl.slots.size.toInt32) := len_f ht ha hl
  have e2 : (Term.int n).eval args s none [] s = some (.int n) := rfl
  exact ⟨cl, A, hl, by simpa [Cond.value, e1, e2] using h2⟩
theorem own_elemR {t u : Term} {a w : Addr} {cl : Cell} {ty : FieldType} {k : Int32} (A : Arr s s.heap a cl ty) (ht : t.eval args s none [] s = some (.ref a)) (hu : u.eval args s none [] s = some (.ref w)) (h : (Jvm.Cond.eq (.elem t (.int k)) u).value args s none s [] = some true) : cl.slots[k.toNatClampNeg]? = some (.ref w) := by
  obtain ⟨v, y, e1, e2, -, -⟩ := cmp_v (Or.inl h)
  obtain rfl : y = .ref w := Option.some.inj (e2.symm.trans hu)
  have q := (elem_in e1 ht rfl A.1).2
  rw [q]
  cases v <;> simp [Cond.value, e1, e2] at h
  rw [h]
theorem own_elemI {t : Term} {a : Addr} {cl : Cell} {ty : FieldType} {k x : Int32} (A : Arr s s.heap a cl ty) (ht : t.eval args s none [] s = some (.ref a)) (h : (Jvm.Cond.eq (.elem t (.int k)) (.int x)).value args s none s [] = some true) : cl.slots[k.toNatClampNeg]? = some (.int x) := by
  obtain ⟨v, y, e1, e2, -, -⟩ := cmp_v (Or.inl h)
  obtain rfl : y = .int x := Option.some.inj (e2.symm.trans rfl)
  have q := (elem_in e1 ht rfl A.1).2
  rw [q]
  cases v <;> simp [Cond.value, e1, e2] at h
  rw [h]
theorem own_callP (X : Stand p l e R s m args below meth c T locs cells slots) (hx : p.tables.exec = Jvm.exec) (hZ : Z.Warmed39 s.vm) {own : String} {index nn : Nat} {y : MethodName} {bytes : ByteArray} {ml : Nat} {ret : Option FieldType} {rm : Room} {as : Array Value} {Q : Option Value → Heap → List Loc → Prop}
    (hown : s.vm.findClass own = some m.cls) (w1 : (Jvm.Cond.methodLink own index y).before a0 Z = true) (w2 : (Jvm.Cond.privateMethod y).before a0 Z = true) (w3 : (Jvm.Cond.instantiable y.cls nn).before a0 Z = true) (w4 : (Jvm.Cond.instanceMethod y).before a0 Z = true) (w5 : (Jvm.Cond.initialized y.cls).before a0 Z = true) (w6 : (Jvm.Cond.code y bytes ml ret).before a0 Z = true) (hy : y.cls ≠ "java/lang/invoke/MethodHandle" ∧ y.cls ≠ "java/lang/invoke/VarHandle")
    (hM : OMet l Z y bytes ml ret rm as h Q) (eT : T.heap = h) {b : Addr} (E : Exa Z h b y.cls) {pc : Nat} {Ls : Array Slot} {st : List Value} (hsz : Ls.size = c.maxLocals) {argsL rest : List Value} {sig : MethodDescriptor} (hp : parseMethodDescriptor y.desc = some sig) (hn : argsL.length = sig.parameters.length) (has : (.ref b :: argsL).toArray = as) (hst : st = argsL.reverse ++ .ref b :: rest)
    {W : Nat} (hW : (rest.map fun v => v.category).sum ≤ W) (hd : decode c.code pc = .ok (.invokevirtual index, 3)) (hf : rm.frames + 1 ≤ R.frames) (hl : W + (ml + 11) + rm.locals ≤ R.locals) (hc : cells + rm.cells ≤ R.cells) (hs : slots + rm.slots ≤ R.slots)
    (k : ∀ (v : Option Value) (T' : State) (L' : List Loc), Stand p l e R s m args below meth c T' (locs ++ L') (cells + rm.cells) (slots + rm.slots) → Q v T'.heap L' → OGoes p.tables e below Φ (T'.setTop (mkF m (pc + 3) Ls (v.toList ++ rest)))) : OGoes p.tables e below Φ (T.setTop (mkF m pc Ls st)) := by
  obtain ⟨cq, q, q'⟩ := E.cell
  have hp' := Cond.privateMethod_at (mvP hZ w2 (args := #[]))
  obtain ⟨c0, k0, i1, i2, -, i4, -⟩ := Cond.instantiable_spec (mvT (args := args) hZ w3)
  have hsel := selects_self_of_private i1 i2 (Bool.or_eq_false_iff.mp i4).1 hp' (mvT (args := args) hZ w4) hy
  obtain ⟨v, vm1, ⟨T', L, kk, nn⟩, -, X', ⟨Lc, hQ, l1, l2, l3⟩, st'⟩ := X.privateBack hx (y := y) hown (mvT hZ w1) (mvT hZ w4) hsel hp' (mvT hZ w6) hy (backOf (W := W) (hM []) hZ w6 w5 hf hl) (g := mkF m pc Ls st) rfl hsz (Steps.refl _) (a := b) (by rw [eT]; exact q) q' (argsL := argsL) (rest := rest) (fun sg h => by cases hp.symm.trans h; exact hn) hst (by show 2 * 0 + _ ≤ _; omega) hd (fun _ _ => ⟨has, eT, hc, hs⟩)
  dsimp only [Pt.U, Pt.locs, Pt.cells, Pt.slots] at X' l1 l2 l3 st' hQ
  subst l1 l2 l3
  exact own_tr st' (k v T' Lc X' hQ)
theorem own_callP0 (X : Stand p l e R s m args below meth c T locs cells slots) (hx : p.tables.exec = Jvm.exec) (hZ : Z.Warmed39 s.vm) {own : String} {index nn : Nat} {y : MethodName} {bytes : ByteArray} {ml : Nat} {ret : Option FieldType} {fr lo : Nat} {as : Array Value} {v : Option Value}
    (hown : s.vm.findClass own = some m.cls) (w1 : (Jvm.Cond.methodLink own index y).before a0 Z = true) (w2 : (Jvm.Cond.privateMethod y).before a0 Z = true) (w3 : (Jvm.Cond.instantiable y.cls nn).before a0 Z = true) (w4 : (Jvm.Cond.instanceMethod y).before a0 Z = true) (w5 : (Jvm.Cond.initialized y.cls).before a0 Z = true) (w6 : (Jvm.Cond.code y bytes ml ret).before a0 Z = true) (hy : y.cls ≠ "java/lang/invoke/MethodHandle" ∧ y.cls ≠ "java/lang/invoke/VarHandle")
    (hM : OPure l Z y bytes ml ret fr lo as h v) (eT : T.heap = h) {b : Addr} (E : Exa Z h b y.cls) {pc : Nat} {Ls : Array Slot} {st : List Value} (hsz : Ls.size = c.maxLocals) {argsL rest : List Value} {sig : MethodDescriptor} (hp : parseMethodDescriptor y.desc = some sig) (hn : argsL.length = sig.parameters.length) (has : (.ref b :: argsL).toArray = as) (hst : st = argsL.reverse ++ .ref b :: rest)
    {W : Nat} (hW : (rest.map fun v => v.category).sum ≤ W) (hd : decode c.code pc = .ok (.invokevirtual index, 3)) (hf : fr + 1 ≤ R.frames) (hl : W + (ml + 11) + lo ≤ R.locals) (hc : cells ≤ R.cells) (hs : slots ≤ R.slots)
    (k : ∀ (T' : State), Stand p l e R s m args below meth c T' locs cells slots → T'.heap = h → OGoes p.tables e below Φ (T'.setTop (mkF m (pc + 3) Ls (v.toList ++ rest)))) : OGoes p.tables e below Φ (T.setTop (mkF m pc Ls st)) := by
  refine own_callP X hx hZ hown w1 w2 w3 w4 w5 w6 hy hM eT E hsz hp hn has hst hW hd hf hl hc hs ?_
  rintro v' T' L' X' ⟨rfl, e', rfl⟩
  rw [List.append_nil] at X'
  exact k T' X' e'
theorem own_acopy (X : Stand p l e R s m args below meth c T locs cells slots) (hx : p.tables.exec = Jvm.exec) (hZ : Z.Warmed39 s.vm) (eT : T.heap = h) {own : String} {index : Nat} (hown : s.vm.findClass own = some m.cls) (w1 : (Jvm.Cond.methodLink own index Jvm.Stand.acN).before a0 Z = true) (w2 : (Jvm.Cond.native Jvm.Stand.acN).before a0 Z = true) (w3 : (Jvm.Cond.static Jvm.Stand.acN).before a0 Z = true) (w4 : (Jvm.Cond.initialized "java/lang/System").before a0 Z = true)
    {a b : Addr} {kc k' : ClassId} {ty : FieldType} {z z' sp dp nn : Int32} {vs vd us : List Value} {dv dd : Value} (A : Arv Z h a kc ty z vs dv) (B : Arv Z h b k' ty z' vd dd) (hty : refKind ty = false) (h1 : ¬ sp < 0) (h2 : ¬ dp < 0) (h3 : ¬ nn < 0) (h4 : sp.toNatClampNeg + nn.toNatClampNeg ≤ z.toNatClampNeg) (h5 : dp.toNatClampNeg + nn.toNatClampNeg ≤ z'.toNatClampNeg)
    (hus : us = (List.range nn.toNatClampNeg).map fun i => vs.getD (sp.toNatClampNeg + i) dv) (hl : dp.toNatClampNeg + nn.toNatClampNeg ≤ vd.length) {n0 : Nat} (N : Fr n0 locs) (ge : n0 ≤ b) {pc : Nat} {Ls : Array Slot} {rest : List Value} (hsz : Ls.size = c.maxLocals) (hd : decode c.code pc = .ok (.invokestatic index, 3)) (hf : 1 ≤ R.frames) {W : Nat} (hW : (rest.map fun v => v.category).sum ≤ W) (hlo : W + (nativeFrameWords "java/lang/System" "arraycopy" 5 + 11) ≤ R.locals)
    (kk : ∀ (T' : State) (h' : Heap) (L : List Loc), Stand p l e R s m args below meth c T' L cells slots → T'.heap = h' → Fr n0 L → Keep h h' [b] → Arv Z h' b k' ty z' (vd.take dp.toNatClampNeg ++ us ++ vd.drop (dp.toNatClampNeg + nn.toNatClampNeg)) dd → OGoes p.tables e below Φ (T'.setTop (mkF m (pc + 3) Ls rest))) : OGoes p.tables e below Φ (T.setTop (mkF m pc Ls (.int nn :: .int dp :: .ref b :: .int sp :: .ref a :: rest))) := by
  obtain ⟨T', h', L, X', e', N', K', A', st⟩ := cpA X hx hZ hown w1 w2 w3 w4 eT A B (Or.inl ⟨rfl, hty⟩) h1 h2 h3 h4 h5 hus hl N ge (g := mkF m pc Ls (.int nn :: .int dp :: .ref b :: .int sp :: .ref a :: rest)) rfl hsz rfl hd hf (W := W) (by show 2 * 0 + _ ≤ _; omega) hlo
  exact own_st st (kk T' h' L X' e' N' K' A')
theorem own_instY (X : Stand p l e R s m args below meth c T locs cells slots) (hx : p.tables.exec = Jvm.exec) (hZ : Z.Warmed39 s.vm) (eT : T.heap = h) {own K : String} {index : Nat} (hown : s.vm.findClass own = some m.cls) (w : (Jvm.Cond.classLink own index K).before a0 Z = true) {a : Addr} (F : Ins Z h a K true) {pc : Nat} {Ls : Array Slot} {rest : List Value} (hd : decode c.code pc = .ok (.instanceof index, 3))
    (kk : ∀ (T' : State), Stand p l e R s m args below meth c T' locs cells slots → T'.heap = h → OGoes p.tables e below Φ (T'.setTop (mkF m (pc + 3) Ls (.int 1 :: rest)))) : OGoes p.tables e below Φ (T.setTop (mkF m pc Ls (.ref a :: rest))) := by
  obtain ⟨T', X', e', st⟩ := instY X hx hZ hown w eT F (g := mkF m pc Ls (.ref a :: rest)) rfl rfl hd
  exact own_st st (kk T' X' e')
theorem own_castY (X : Stand p l e R s m args below meth c T locs cells slots) (hx : p.tables.exec = Jvm.exec) (hZ : Z.Warmed39 s.vm) (eT : T.heap = h) {own K : String} {index : Nat} (hown : s.vm.findClass own = some m.cls) (w : (Jvm.Cond.classLink own index K).before a0 Z = true) {a : Addr} (F : Ins Z h a K true) {pc : Nat} {Ls : Array Slot} {rest : List Value} (hd : decode c.code pc = .ok (.checkcast index, 3))
    (kk : ∀ (T' : State), Stand p l e R s m args below meth c T' locs cells slots → T'.heap = h → OGoes p.tables e below Φ (T'.setTop (mkF m (pc + 3) Ls (.ref a :: rest)))) : OGoes p.tables e below Φ (T.setTop (mkF m pc Ls (.ref a :: rest))) := by
  obtain ⟨T', X', e', st⟩ := castY X hx hZ hown w eT F (g := mkF m pc Ls (.ref a :: rest)) rfl rfl hd
  exact own_st st (kk T' X' e')
end OwnKit
end Jvm.Pilot.@@N@@
namespace Jvm.Pilot.@@N@@
open Jvm Jvm.ClassFile Sem Op Lib Jvm.Free Jvm.Stand Jvm.LawKit Jvm.RoadKit Bundle Jvm.Pilot.@@N@@.Jvm.D
section OwnKitW
variable {p : Program} {l : Launch} {e : Env} {R : Room} {s : State} {vm0 : Vm} {m : MethodId} {args : Array Value} {below : List Frame} {meth : Method} {c : Code} {T : State} {locs : List Loc} {cells slots : Nat} {Z : State} {a0 : Array Value} {h : Heap} {Φ : State → Prop}
/-! walks that may load a String constant for the first time: the Stand is over the start with the tables at hand -/
def ODoneW (rm : Room) (s : State) (below : List Frame) (Q : Option Value → Heap → List Loc → Prop) (t : State) : Prop :=
  ∃ o, t.status = .running ∧ Ended t below o ∧ ∃ v L, o = .returned v ∧ Q v t.heap L ∧ ReturnedEndW s o t L rm.cells rm.slots
def OMetW (l : Launch) (Z : State) (y : MethodName) (bytes : ByteArray) (ml : Nat) (ret : Option FieldType) (rm : Room) (as : Array Value) (h0 : Heap) (Q : Option Value → Heap → List Loc → Prop) : Prop :=
  ∀ ws, MetFree l y (head1 (Jvm.Cond.code y bytes ml ret :: ws) rm) (fun a U => a = as ∧ Z.Warmed39 U.vm ∧ U.heap = h0) (fun _ _ _ _ _ => True)
    (fun _ U o U' => ∃ v L, o = .returned v ∧ Q v U'.heap L ∧ ReturnedEndW U o U' L rm.cells rm.slots)
theorem own_bodyW {y : MethodName} {bytes : ByteArray} {ml : Nat} {ret : Option FieldType} {rm : Room} {as : Array Value} {h0 : Heap} {Q : Option Value → Heap → List Loc → Prop} (hpn : plainFor y = true)
    (body : ∀ (p : Program) (e : Env) (s : State) (vm0 : Vm) (k0 : Nat) (m : MethodId) (below : List Frame) (meth : Method) (c : Code) (T : State), Stand p l e rm (s.setVm vm0) m as below meth c T [] 0 0 → s.Since vm0 k0 → k0 ≤ h0.size → p.tables.exec = Jvm.exec → c.code = bytes → c.maxLocals = ml → Z.Warmed39 (s.setVm vm0).vm → (s.setVm vm0).vm.findClass y.cls = some m.cls → meth.name = y.name → meth.sig.returnType = ret → meth.locks = false → T.heap = h0 → s.heap = h0 →
      OGoes p.tables e below (ODoneW rm s below Q) (T.setTop (entryFrame m as ml))) : OMetW l Z y bytes ml ret rm as h0 Q := by
  intro ws
  refine MetFree.of_bodySF hpn hisR ?_
  intro p e s m args below meth c s₁ Bd hml0 hP hK
  obtain ⟨rfl, hZ, hh⟩ := hP
  obtain ⟨t, h1, o, h2, h3, h4⟩ := body p e s s.vm 0 m below meth c s₁ (Stand.of_body Bd) ((State.WarmedH.refl s).since 0) (Nat.zero_le _) Bd.exec Bd.bytes hml0 hZ (findClass_of_methodNamed Bd.named) (name_of_methodNamed Bd.named Bd.method).1 Bd.returns Bd.notSynchronized (by rw [← hh, Bd.state]; rfl) hh
  exact ⟨t, o, h1, h2, h3, h4⟩
theorem own_leaveW (X : Stand p l e R (s.setVm vm0) m args below meth c T locs cells slots) {k0 : Nat} (hS : s.Since vm0 k0) (hk : k0 ≤ T.heap.size) (hlk : meth.locks = false) {v : Option Value} (hv : meth.sig.returnType = none → v = none) {rm : Room} {Q : Option Value → Heap → List Loc → Prop} (hc : cells ≤ rm.cells) (hs : slots ≤ rm.slots) (hQ : Q v T.heap locs) {U : State}
    (hstep : ∀ fs, (∀ (f : JFrame) (acts : List Action), f.method = m → f.locked = none → f.entered = [] → (doReturn e (T.setTop f) acts v).1 = T.setFrames fs) → Steps p.tables e below U (T.setFrames fs)) : OGoes p.tables e below (ODoneW rm s below Q) U := by
  obtain ⟨fs, hr, hrun, hended, hW⟩ := X.leaveW hS hk (v := v) hv hlk
  exact ⟨_, hstep fs hr, _, hrun, hended, v, locs, rfl, hQ, hW.1, hW.2.1, hW.2.2.1, hW.2.2.2.mono hc hs⟩
theorem own_retIW (X : Stand p l e R (s.setVm vm0) m args below meth c T locs cells slots) {k0 : Nat} (hS : s.Since vm0 k0) (hk : k0 ≤ T.heap.size) (hx : p.tables.exec = Jvm.exec) (hlk : meth.locks = false) (hret : meth.sig.returnType = some .int) {pc : Nat} {Ls : Array Slot} {z : Int32} {rest : List Value} (hd : decode c.code pc = .ok (.ireturn, 1))
    {rm : Room} {Q : Option Value → Heap → List Loc → Prop} (hc : cells ≤ rm.cells) (hs : slots ≤ rm.slots) (hQ : Q (some (.int z)) T.heap locs) : OGoes p.tables e below (ODoneW rm s below Q) (T.setTop (mkF m pc Ls (.int z :: rest))) :=
  own_leaveW X hS hk hlk (fun h => by rw [hret] at h; cases h) hc hs hQ fun fs hr => retOut X hx hret rfl (Or.inl ⟨rfl, Or.inl rfl, z, rfl⟩) hd hr
theorem own_retNW (X : Stand p l e R (s.setVm vm0) m args below meth c T locs cells slots) {k0 : Nat} (hS : s.Since vm0 k0) (hk : k0 ≤ T.heap.size) (hx : p.tables.exec = Jvm.exec) (hlk : meth.locks = false) {t : FieldType} (ht : t = .boolean ∨ t = .byte ∨ t = .char ∨ t = .short) (hret : meth.sig.returnType = some t) {pc : Nat} {Ls : Array Slot} {z : Int32} {rest : List Value} (hd : decode c.code pc = .ok (.ireturn, 1))
    {rm : Room} {Q : Option Value → Heap → List Loc → Prop} (hc : cells ≤ rm.cells) (hs : slots ≤ rm.slots) (hQ : Q (some (.int (nar t z))) T.heap locs) : OGoes p.tables e below (ODoneW rm s below Q) (T.setTop (mkF m pc Ls (.int z :: rest))) :=
  own_leaveW X hS hk hlk (fun h => by rw [hret] at h; cases h) hc hs hQ fun fs hr => retN X hx hret ht hd hr
theorem own_retAW (X : Stand p l e R (s.setVm vm0) m args below meth c T locs cells slots) {k0 : Nat} (hS : s.Since vm0 k0) (hk : k0 ≤ T.heap.size) (hx : p.tables.exec = Jvm.exec) (hlk : meth.locks = false) {t : FieldType} (ht : t.isReference = true) (hret : meth.sig.returnType = some t) {pc : Nat} {Ls : Array Slot} {w : Value} {rest : List Value} (hw : w.isRef = true) (hd : decode c.code pc = .ok (.areturn, 1))
    {rm : Room} {Q : Option Value → Heap → List Loc → Prop} (hc : cells ≤ rm.cells) (hs : slots ≤ rm.slots) (hQ : Q (some w) T.heap locs) : OGoes p.tables e below (ODoneW rm s below Q) (T.setTop (mkF m pc Ls (w :: rest))) :=
  own_leaveW X hS hk hlk (fun h => by rw [hret] at h; cases h) hc hs hQ fun fs hr => retOut X hx hret (by cases t <;> first | (cases ht; done) | (cases w <;> first | rfl | (cases hw; done))) (Or.inr (Or.inr (Or.inr (Or.inr ⟨rfl, ht, hw⟩)))) hd hr
theorem own_retVW (X : Stand p l e R (s.setVm vm0) m args below meth c T locs cells slots) {k0 : Nat} (hS : s.Since vm0 k0) (hk : k0 ≤ T.heap.size) (hx : p.tables.exec = Jvm.exec) (hlk : meth.locks = false) (hret : meth.sig.returnType = none) {pc : Nat} {Ls : Array Slot} (hd : decode c.code pc = .ok (.return_, 1))
    {rm : Room} {Q : Option Value → Heap → List Loc → Prop} (hc : cells ≤ rm.cells) (hs : slots ≤ rm.slots) (hQ : Q none T.heap locs) : OGoes p.tables e below (ODoneW rm s below Q) (T.setTop (mkF m pc Ls [])) :=
  own_leaveW X hS hk hlk (fun _ => rfl) hc hs hQ fun fs hr => X.returnOut hx hret hd hr
theorem own_ldc (X : Stand p l e R (s.setVm vm0) m args below meth c T locs cells slots) (hx : p.tables.exec = Jvm.exec) (hZ : Z.Warmed39 (s.setVm vm0).vm) (eT : T.heap = h) {own text : String} {index : Nat} (hown : (s.setVm vm0).vm.findClass own = some m.cls) (w : (Jvm.Cond.stringLink own index text).before a0 Z = true) (wS : ∀ a ∈ Bundle.stringAtoms, a.before a0 Z = true) {k0 : Nat} (hS : s.Since vm0 k0) (hk : k0 ≤ h.size)
    {n : Nat} (hn : 4 * text.toList.length ≤ n) (hbig : n ≤ 536870912) (hc : cells + 2 ≤ R.cells) (hl : slots + (n + 4) ≤ R.slots) {pc : Nat} {Ls : Array Slot} {st : List Value} (hd : decode c.code pc = .ok (.ldc index, 2))
    (kk : ∀ (a : Nat) (T' : State) (h' : Heap) (k1 : Nat), Stand p l e R (s.setVm T'.vm) m args below meth c T' locs (cells + 2) (slots + (n + 4)) → T'.heap = h' → Ext h h' → s.Since T'.vm k1 → k1 ≤ h'.size → Z.Warmed39 (s.setVm T'.vm).vm → (s.setVm T'.vm).vm.findClass own = some m.cls → OGoes p.tables e below Φ (T'.setTop (mkF m (pc + 2) Ls (.ref a :: st)))) : OGoes p.tables e below Φ (T.setTop (mkF m pc Ls st)) := by
  obtain ⟨a, T', h', k1, X', e', E', hS', hk', hZ', hown', st'⟩ := ldcS X hx hZ hown w wS eT hS hk (g := mkF m pc Ls st) rfl hd hn hbig hc hl
  exact own_st st' (kk a T' h' k1 X' e' E' hS' hk' hZ' hown')
theorem own_callSW (X : Stand p l e R (s.setVm vm0) m args below meth c T locs cells slots) (hx : p.tables.exec = Jvm.exec) (hZ : Z.Warmed39 (s.setVm vm0).vm) {k0 : Nat} (hS : s.Since vm0 k0) (hk : k0 ≤ h.size) {own : String} {index : Nat} {y : MethodName} {bytes : ByteArray} {ml : Nat} {ret : Option FieldType} {rm : Room} {as : Array Value} {Q : Option Value → Heap → List Loc → Prop}
    (hown : (s.setVm vm0).vm.findClass own = some m.cls) (w1 : (Jvm.Cond.methodLink own index y).before a0 Z = true) (w2 : (Jvm.Cond.static y).before a0 Z = true) (w3 : (Jvm.Cond.initialized y.cls).before a0 Z = true) (w4 : (Jvm.Cond.code y bytes ml ret).before a0 Z = true) (hy : y.cls ≠ "java/lang/invoke/MethodHandle" ∧ y.cls ≠ "java/lang/invoke/VarHandle")
    (hM : OMetW l Z y bytes ml ret rm as h Q) (eT : T.heap = h) {pc : Nat} {Ls : Array Slot} {st : List Value} (hsz : Ls.size = c.maxLocals) {argsL rest : List Value} {sig : MethodDescriptor} (hp : parseMethodDescriptor y.desc = some sig) (hn : argsL.length = sig.parameters.length) (has : argsL.toArray = as) (hst : st = argsL.reverse ++ rest)
    {W : Nat} (hW : (rest.map fun v => v.category).sum ≤ W) (hd : decode c.code pc = .ok (.invokestatic index, 3)) (hf : rm.frames + 1 ≤ R.frames) (hl : W + (ml + 11) + rm.locals ≤ R.locals) (hc : cells + rm.cells ≤ R.cells) (hs : slots + rm.slots ≤ R.slots)
    (k : ∀ (v : Option Value) (T' : State) (L' : List Loc), Stand p l e R (s.setVm T'.vm) m args below meth c T' (locs ++ L') (cells + rm.cells) (slots + rm.slots) → s.Since T'.vm T'.heap.size → Z.Warmed39 (s.setVm T'.vm).vm → (s.setVm T'.vm).vm.findClass own = some m.cls → Q v T'.heap L' → OGoes p.tables e below Φ (T'.setTop (mkF m (pc + 3) Ls (v.toList ++ rest)))) : OGoes p.tables e below Φ (T.setTop (mkF m pc Ls st)) := by
  obtain ⟨v, vm1, ⟨T', L, kk, nn⟩, -, X', hS', hg, ⟨Lc, hQ, l1, l2, l3⟩, st'⟩ := callSS X hx (y := y) hown (mvT hZ w1) (mvT hZ w2) (mvT hZ w3) (mvT hZ w4) hy (backOfS (W := W) (hM []) hZ w4 w3 hf hl) (g := mkF m pc Ls st) rfl hsz (argsL := argsL) (rest := rest) (fun sg h => by cases hp.symm.trans h; exact hn) hst (by show 2 * 0 + _ ≤ _; omega) hd (fun _ _ => ⟨has, eT, hc, hs⟩)
  dsimp only [Pt.U, Pt.locs, Pt.cells, Pt.slots] at X' l1 l2 l3 st' hQ hS' hg
  subst l1 l2 l3
  refine own_tr st' (k v T' Lc X' (hS.trans hS' (Nat.le_trans (by rw [eT]; exact hk) hg)) (State.Warmed39.trans (t := s.setVm vm0) hZ hS'.1) ?_ hQ)
  rw [show (s.setVm T'.vm).vm = T'.vm from rfl, hS'.1.alike.findClass]; exact hown
theorem own_callNW (X : Stand p l e R (s.setVm vm0) m args below meth c T locs cells slots) (hx : p.tables.exec = Jvm.exec) (hZ : Z.Warmed39 (s.setVm vm0).vm) {k0 : Nat} (hS : s.Since vm0 k0) (hk : k0 ≤ h.size) {own : String} {index : Nat} {y : MethodName} {bytes : ByteArray} {ml : Nat} {rm : Room} {as : Array Value} {Q : Option Value → Heap → List Loc → Prop} (hy1 : y.name = "<init>")
    (hown : (s.setVm vm0).vm.findClass own = some m.cls) (w1 : (Jvm.Cond.methodLink own index y).before a0 Z = true) (w4' : (Jvm.Cond.instanceMethod y).before a0 Z = true) (w3 : (Jvm.Cond.initialized y.cls).before a0 Z = true) (w4 : (Jvm.Cond.code y bytes ml none).before a0 Z = true) (hy : y.cls ≠ "java/lang/invoke/MethodHandle" ∧ y.cls ≠ "java/lang/invoke/VarHandle")
    (hM : OMetW l Z y bytes ml none rm as h Q) (eT : T.heap = h) {b : Addr} {pc : Nat} {Ls : Array Slot} {st : List Value} (hsz : Ls.size = c.maxLocals) {argsL rest : List Value} {sig : MethodDescriptor} (hp : parseMethodDescriptor y.desc = some sig) (hn : argsL.length = sig.parameters.length) (has : (.ref b :: argsL).toArray = as) (hst : st = argsL.reverse ++ .ref b :: rest)
    {W : Nat} (hW : (rest.map fun v => v.category).sum ≤ W) (hd : decode c.code pc = .ok (.invokespecial index, 3)) (hf : rm.frames + 1 ≤ R.frames) (hl : W + (ml + 11) + rm.locals ≤ R.locals) (hc : cells + rm.cells ≤ R.cells) (hs : slots + rm.slots ≤ R.slots)
    (k : ∀ (v : Option Value) (T' : State) (L' : List Loc), Stand p l e R (s.setVm T'.vm) m args below meth c T' (locs ++ L') (cells + rm.cells) (slots + rm.slots) → s.Since T'.vm T'.heap.size → Z.Warmed39 (s.setVm T'.vm).vm → (s.setVm T'.vm).vm.findClass own = some m.cls → Q v T'.heap L' → OGoes p.tables e below Φ (T'.setTop (mkF m (pc + 3) Ls (v.toList ++ rest)))) : OGoes p.tables e below Φ (T.setTop (mkF m pc Ls st)) := by
  obtain ⟨v, vm1, ⟨T', L, kk, nn⟩, -, X', hS', hg, ⟨Lc, hQ, l1, l2, l3⟩, st'⟩ := X.specialBackS hx (y := y) hy1 hown (mvT hZ w1) (mvT hZ w4') (mvT hZ w4) hy (backOfS (W := W) (hM []) hZ w4 w3 hf hl) (g := mkF m pc Ls st) rfl hsz (Steps.refl _) (a := b) (argsL := argsL) (rest := rest) (fun sg h => by cases hp.symm.trans h; exact hn) hst (by show 2 * 0 + _ ≤ _; omega) hd (fun _ _ => ⟨has, eT, hc, hs⟩)
  dsimp only [Pt.U, Pt.locs, Pt.cells, Pt.slots] at X' l1 l2 l3 st' hQ hS' hg
  subst l1 l2 l3
  refine own_tr st' (k v T' Lc X' (hS.trans hS' (Nat.le_trans (by rw [eT]; exact hk) hg)) (State.Warmed39.trans (t := s.setVm vm0) hZ hS'.1) ?_ hQ)
  rw [show (s.setVm T'.vm).vm = T'.vm from rfl, hS'.1.alike.findClass]; exact hown
end OwnKitW
end Jvm.Pilot.@@N@@
namespace Jvm.Pilot.@@N@@
open Jvm Jvm.ClassFile Sem Op Lib Jvm.Free Jvm.Stand Jvm.LawKit Jvm.RoadKit Bundle Jvm.Pilot.@@N@@.Jvm.D
theorem pf_0 : plainFor x = true := by first | (refine plainFor_of_name ?_; simp [x, plainName, overriddenIn]; done) | decide +kernel
theorem pf_1 : plainFor (⟨"com/example/venuewright/venuewright/model/TradingCapacitiesIncludesPinLaw", "opt", "(I)Ljava/util/Optional;"⟩ : MethodName) = true := by first | (refine plainFor_of_name ?_; simp [plainName, overriddenIn]; done) | decide +kernel
theorem pf_2 : plainFor (⟨"java/util/Optional", "empty", "()Ljava/util/Optional;"⟩ : MethodName) = true := by first | (refine plainFor_of_name ?_; simp [plainName, overriddenIn]; done) | decide +kernel
theorem pf_3 : plainFor (⟨"com/example/venuewright/venuewright/model/TradingCapacitiesIncludesPinLaw", "cap", "(I)Lcom/example/venuewright/venuewright/model/TradingCapacity;"⟩ : MethodName) = true := by first | (refine plainFor_of_name ?_; simp [plainName, overriddenIn]; done) | decide +kernel
theorem pf_4 : plainFor (⟨"java/util/Optional", "of", "(Ljava/lang/Object;)Ljava/util/Optional;"⟩ : MethodName) = true := by first | (refine plainFor_of_name ?_; simp [plainName, overriddenIn]; done) | decide +kernel
theorem pf_5 : plainFor (⟨"java/util/Objects", "requireNonNull", "(Ljava/lang/Object;)Ljava/lang/Object;"⟩ : MethodName) = true := by first | (refine plainFor_of_name ?_; simp [plainName, overriddenIn]; done) | decide +kernel
theorem pf_6 : plainFor (⟨"java/util/Optional", "<init>", "(Ljava/lang/Object;)V"⟩ : MethodName) = true := by first | (refine plainFor_of_name ?_; simp [plainName, overriddenIn]; done) | decide +kernel
theorem pf_8 : plainFor (⟨"com/example/venuewright/venuewright/model/TradingCapacities", "<init>", "(Ljava/util/Optional;Ljava/util/Optional;)V"⟩ : MethodName) = true := by first | (refine plainFor_of_name ?_; simp [plainName, overriddenIn]; done) | decide +kernel
theorem pf_9 : plainFor (⟨"java/lang/Record", "<init>", "()V"⟩ : MethodName) = true := by first | (refine plainFor_of_name ?_; simp [plainName, overriddenIn]; done) | decide +kernel
theorem pf_10 : plainFor (⟨"java/util/Objects", "requireNonNull", "(Ljava/lang/Object;Ljava/lang/String;)Ljava/lang/Object;"⟩ : MethodName) = true := by first | (refine plainFor_of_name ?_; simp [plainName, overriddenIn]; done) | decide +kernel
theorem pf_11 : plainFor (⟨"com/example/venuewright/venuewright/model/TradingCapacities", "includes", "(Lcom/example/venuewright/venuewright/model/TradingCapacity;)Z"⟩ : MethodName) = true := by first | (refine plainFor_of_name ?_; simp [plainName, overriddenIn]; done) | decide +kernel
theorem pf_12 : plainFor (⟨"java/util/Optional", "orElse", "(Ljava/lang/Object;)Ljava/lang/Object;"⟩ : MethodName) = true := by first | (refine plainFor_of_name ?_; simp [plainName, overriddenIn]; done) | decide +kernel
theorem pd_0 : parseMethodDescriptor "(Ljava/lang/Object;)Ljava/lang/Object;" = some ⟨[(.object "java/lang/Object")], some (.object "java/lang/Object")⟩ := by decide +kernel
theorem pd_1 : parseMethodDescriptor "(Ljava/lang/Object;)V" = some ⟨[(.object "java/lang/Object")], none⟩ := by decide +kernel
theorem pd_2 : parseMethodDescriptor "()Ljava/util/Optional;" = some ⟨[], some (.object "java/util/Optional")⟩ := by decide +kernel
theorem pd_3 : parseMethodDescriptor "(I)Lcom/example/venuewright/venuewright/model/TradingCapacity;" = some ⟨[.int], some (.object "com/example/venuewright/venuewright/model/TradingCapacity")⟩ := by decide +kernel
theorem pd_4 : parseMethodDescriptor "(Ljava/lang/Object;)Ljava/util/Optional;" = some ⟨[(.object "java/lang/Object")], some (.object "java/util/Optional")⟩ := by decide +kernel
theorem pd_5 : parseMethodDescriptor "()V" = some ⟨[], none⟩ := by decide +kernel
theorem pd_6 : parseMethodDescriptor "(Ljava/lang/Object;Ljava/lang/String;)Ljava/lang/Object;" = some ⟨[(.object "java/lang/Object"), (.object "java/lang/String")], some (.object "java/lang/Object")⟩ := by decide +kernel
theorem pd_7 : parseMethodDescriptor "(I)Ljava/util/Optional;" = some ⟨[.int], some (.object "java/util/Optional")⟩ := by decide +kernel
theorem pd_8 : parseMethodDescriptor "(Ljava/util/Optional;Ljava/util/Optional;)V" = some ⟨[(.object "java/util/Optional"), (.object "java/util/Optional")], none⟩ := by decide +kernel
theorem pd_9 : parseMethodDescriptor "(Lcom/example/venuewright/venuewright/model/TradingCapacity;)Z" = some ⟨[(.object "com/example/venuewright/venuewright/model/TradingCapacity")], some .boolean⟩ := by decide +kernel
theorem d1_0 : decode method_3_code 0 = .ok (.iload_n 0, 1) := by decide +kernel
theorem d1_1 : decode method_3_code 1 = .ok (.ifCond .ne 7, 3) := by decide +kernel
theorem d1_4 : decode method_3_code 4 = .ok (.invokestatic 19, 3) := by decide +kernel
theorem d1_7 : decode method_3_code 7 = .ok (.areturn, 1) := by decide +kernel
theorem d1_8 : decode method_3_code 8 = .ok (.iload_n 0, 1) := by decide +kernel
theorem d1_9 : decode method_3_code 9 = .ok (.iconst 1, 1) := by decide +kernel
theorem d1_10 : decode method_3_code 10 = .ok (.isub, 1) := by decide +kernel
theorem d1_11 : decode method_3_code 11 = .ok (.invokestatic 25, 3) := by decide +kernel
theorem d1_14 : decode method_3_code 14 = .ok (.invokestatic 31, 3) := by decide +kernel
theorem d1_17 : decode method_3_code 17 = .ok (.areturn, 1) := by decide +kernel
theorem d2_0 : decode jdk_32_method_1_code 0 = .ok (.getstatic 1, 3) := by decide +kernel
theorem d2_3 : decode jdk_32_method_1_code 3 = .ok (.astore_n 0, 1) := by decide +kernel
theorem d2_4 : decode jdk_32_method_1_code 4 = .ok (.aload_n 0, 1) := by decide +kernel
theorem d2_5 : decode jdk_32_method_1_code 5 = .ok (.areturn, 1) := by decide +kernel
theorem d3_0 : decode method_2_code 0 = .ok (.iload_n 0, 1) := by decide +kernel
theorem d3_1 : decode method_2_code 1 = .ok (.ifCond .ne 7, 3) := by decide +kernel
theorem d3_4 : decode method_2_code 4 = .ok (.getstatic 7, 3) := by decide +kernel
theorem d3_7 : decode method_2_code 7 = .ok (.areturn, 1) := by decide +kernel
theorem d3_8 : decode method_2_code 8 = .ok (.iload_n 0, 1) := by decide +kernel
theorem d3_9 : decode method_2_code 9 = .ok (.iconst 1, 1) := by decide +kernel
theorem d3_10 : decode method_2_code 10 = .ok (.if_icmp .ne 7, 3) := by decide +kernel
theorem d3_13 : decode method_2_code 13 = .ok (.getstatic 13, 3) := by decide +kernel
theorem d3_16 : decode method_2_code 16 = .ok (.areturn, 1) := by decide +kernel
theorem d3_17 : decode method_2_code 17 = .ok (.getstatic 16, 3) := by decide +kernel
theorem d3_20 : decode method_2_code 20 = .ok (.areturn, 1) := by decide +kernel
theorem d4_0 : decode jdk_32_method_3_code 0 = .ok (.new 2, 3) := by decide +kernel
theorem d4_3 : decode jdk_32_method_3_code 3 = .ok (.dup, 1) := by decide +kernel
theorem d4_4 : decode jdk_32_method_3_code 4 = .ok (.aload_n 0, 1) := by decide +kernel
theorem d4_5 : decode jdk_32_method_3_code 5 = .ok (.invokestatic 17, 3) := by decide +kernel
theorem d4_8 : decode jdk_32_method_3_code 8 = .ok (.invokespecial 23, 3) := by decide +kernel
theorem d4_11 : decode jdk_32_method_3_code 11 = .ok (.areturn, 1) := by decide +kernel
theorem d5_0 : decode jdk_31_method_10_code 0 = .ok (.aload_n 0, 1) := by decide +kernel
theorem d5_1 : decode jdk_31_method_10_code 1 = .ok (.ifnonnull 11, 3) := by decide +kernel
theorem d5_12 : decode jdk_31_method_10_code 12 = .ok (.aload_n 0, 1) := by decide +kernel
theorem d5_13 : decode jdk_31_method_10_code 13 = .ok (.areturn, 1) := by decide +kernel
theorem d6_0 : decode jdk_32_method_2_code 0 = .ok (.aload_n 0, 1) := by decide +kernel
theorem d6_1 : decode jdk_32_method_2_code 1 = .ok (.invokespecial 7, 3) := by decide +kernel
theorem d6_4 : decode jdk_32_method_2_code 4 = .ok (.aload_n 0, 1) := by decide +kernel
theorem d6_5 : decode jdk_32_method_2_code 5 = .ok (.aload_n 1, 1) := by decide +kernel
theorem d6_6 : decode jdk_32_method_2_code 6 = .ok (.putfield 13, 3) := by decide +kernel
theorem d6_9 : decode jdk_32_method_2_code 9 = .ok (.return_, 1) := by decide +kernel
theorem d8_0 : decode prog_78_method_1_code 0 = .ok (.aload_n 0, 1) := by decide +kernel
theorem d8_1 : decode prog_78_method_1_code 1 = .ok (.invokespecial 1, 3) := by decide +kernel
theorem d8_4 : decode prog_78_method_1_code 4 = .ok (.aload_n 1, 1) := by decide +kernel
theorem d8_5 : decode prog_78_method_1_code 5 = .ok (.ldc 7, 2) := by decide +kernel
theorem d8_7 : decode prog_78_method_1_code 7 = .ok (.invokestatic 9, 3) := by decide +kernel
theorem d8_10 : decode prog_78_method_1_code 10 = .ok (.pop, 1) := by decide +kernel
theorem d8_11 : decode prog_78_method_1_code 11 = .ok (.aload_n 2, 1) := by decide +kernel
theorem d8_12 : decode prog_78_method_1_code 12 = .ok (.ldc 15, 2) := by decide +kernel
theorem d8_14 : decode prog_78_method_1_code 14 = .ok (.invokestatic 9, 3) := by decide +kernel
theorem d8_17 : decode prog_78_method_1_code 17 = .ok (.pop, 1) := by decide +kernel
theorem d8_18 : decode prog_78_method_1_code 18 = .ok (.aload_n 0, 1) := by decide +kernel
theorem d8_19 : decode prog_78_method_1_code 19 = .ok (.aload_n 1, 1) := by decide +kernel
theorem d8_20 : decode prog_78_method_1_code 20 = .ok (.putfield 17, 3) := by decide +kernel
theorem d8_23 : decode prog_78_method_1_code 23 = .ok (.aload_n 0, 1) := by decide +kernel
theorem d8_24 : decode prog_78_method_1_code 24 = .ok (.aload_n 2, 1) := by decide +kernel
theorem d8_25 : decode prog_78_method_1_code 25 = .ok (.putfield 22, 3) := by decide +kernel
theorem d8_28 : decode prog_78_method_1_code 28 = .ok (.return_, 1) := by decide +kernel
theorem d9_0 : decode jdk_30_method_1_code 0 = .ok (.aload_n 0, 1) := by decide +kernel
theorem d9_1 : decode jdk_30_method_1_code 1 = .ok (.invokespecial 1, 3) := by decide +kernel
theorem d9_4 : decode jdk_30_method_1_code 4 = .ok (.return_, 1) := by decide +kernel
theorem d10_0 : decode jdk_31_method_11_code 0 = .ok (.aload_n 0, 1) := by decide +kernel
theorem d10_1 : decode jdk_31_method_11_code 1 = .ok (.ifnonnull 12, 3) := by decide +kernel
theorem d10_13 : decode jdk_31_method_11_code 13 = .ok (.aload_n 0, 1) := by decide +kernel
theorem d10_14 : decode jdk_31_method_11_code 14 = .ok (.areturn, 1) := by decide +kernel
theorem d11_0 : decode prog_78_method_2_code 0 = .ok (.aload_n 0, 1) := by decide +kernel
theorem d11_1 : decode prog_78_method_2_code 1 = .ok (.getfield 17, 3) := by decide +kernel
theorem d11_4 : decode prog_78_method_2_code 4 = .ok (.aconst_null, 1) := by decide +kernel
theorem d11_5 : decode prog_78_method_2_code 5 = .ok (.invokevirtual 24, 3) := by decide +kernel
theorem d11_8 : decode prog_78_method_2_code 8 = .ok (.aload_n 1, 1) := by decide +kernel
theorem d11_9 : decode prog_78_method_2_code 9 = .ok (.if_acmp .eq 15, 3) := by decide +kernel
theorem d11_12 : decode prog_78_method_2_code 12 = .ok (.aload_n 0, 1) := by decide +kernel
theorem d11_13 : decode prog_78_method_2_code 13 = .ok (.getfield 22, 3) := by decide +kernel
theorem d11_16 : decode prog_78_method_2_code 16 = .ok (.aconst_null, 1) := by decide +kernel
theorem d11_17 : decode prog_78_method_2_code 17 = .ok (.invokevirtual 24, 3) := by decide +kernel
theorem d11_20 : decode prog_78_method_2_code 20 = .ok (.aload_n 1, 1) := by decide +kernel
theorem d11_21 : decode prog_78_method_2_code 21 = .ok (.if_acmp .ne 7, 3) := by decide +kernel
theorem d11_24 : decode prog_78_method_2_code 24 = .ok (.iconst 1, 1) := by decide +kernel
theorem d11_25 : decode prog_78_method_2_code 25 = .ok (.goto 4, 3) := by decide +kernel
theorem d11_28 : decode prog_78_method_2_code 28 = .ok (.iconst 0, 1) := by decide +kernel
theorem d11_29 : decode prog_78_method_2_code 29 = .ok (.ireturn, 1) := by decide +kernel
theorem d12_0 : decode jdk_32_method_15_code 0 = .ok (.aload_n 0, 1) := by decide +kernel
theorem d12_1 : decode jdk_32_method_15_code 1 = .ok (.getfield 13, 3) := by decide +kernel
theorem d12_4 : decode jdk_32_method_15_code 4 = .ok (.ifnull 10, 3) := by decide +kernel
theorem d12_7 : decode jdk_32_method_15_code 7 = .ok (.aload_n 0, 1) := by decide +kernel
theorem d12_8 : decode jdk_32_method_15_code 8 = .ok (.getfield 13, 3) := by decide +kernel
theorem d12_11 : decode jdk_32_method_15_code 11 = .ok (.goto 4, 3) := by decide +kernel
theorem d12_14 : decode jdk_32_method_15_code 14 = .ok (.aload_n 1, 1) := by decide +kernel
theorem d12_15 : decode jdk_32_method_15_code 15 = .ok (.areturn, 1) := by decide +kernel
theorem own_wS {Z : State} {a0 : Array Value} (hw : ∀ d ∈ tables_1, d.before a0 Z = true) : ∀ a ∈ Bundle.stringAtoms, a.before a0 Z = true := by
  intro a ha
  simp only [Bundle.stringAtoms, List.mem_cons, List.not_mem_nil, or_false] at ha
  rcases ha with rfl | rfl | rfl | rfl | rfl | rfl | rfl
  · exact (hw _ (List.mem_of_getElem? (i := 47) rfl))
  · exact (hw _ (List.mem_of_getElem? (i := 48) rfl))
  · exact (hw _ (List.mem_of_getElem? (i := 49) rfl))
  · exact (hw _ (List.mem_of_getElem? (i := 50) rfl))
  · exact (hw _ (List.mem_of_getElem? (i := 51) rfl))
  · exact (hw _ (List.mem_of_getElem? (i := 52) rfl))
  · exact (hw _ (List.mem_of_getElem? (i := 53) rfl))
def own_cap (i : Int32) (wD wM wA : Nat) : Nat := if i = 0 then wD else if i = 1 then wM else wA
theorem own_three {i : Int32} (h0 : ¬ i < 0) (h : i < 3) : i = 0 ∨ i = 1 ∨ i = 2 := by
  rw [← Int32.toInt_inj, ← Int32.toInt_inj, ← Int32.toInt_inj]
  rw [Int32.lt_iff_toInt_lt] at h0 h
  simp only [show (0 : Int32).toInt = 0 from rfl, show (1 : Int32).toInt = 1 from rfl, show (2 : Int32).toInt = 2 from rfl, show (3 : Int32).toInt = 3 from rfl] at *
  omega
theorem own_inj {i j : Int32} {wD wM wA : Nat} (n1 : ¬ wD = wM) (n2 : ¬ wD = wA) (n3 : ¬ wM = wA) (hi : i = 0 ∨ i = 1 ∨ i = 2) (hj : j = 0 ∨ j = 1 ∨ j = 2) : own_cap i wD wM wA = own_cap j wD wM wA ↔ i = j := by
  have m1 : ¬ wM = wD := fun q => n1 q.symm
  have m2 : ¬ wA = wD := fun q => n2 q.symm
  have m3 : ¬ wA = wM := fun q => n3 q.symm
  rcases hi with rfl | rfl | rfl <;> rcases hj with rfl | rfl | rfl <;> simp [own_cap, n1, n2, n3, m1, m2, m3]
theorem own_ifc {P Q : Prop} [Decidable P] [Decidable Q] (h : P ↔ Q) : (if P then (1 : Int32) else 0) = if Q then 1 else 0 := by
  by_cases q : Q
  · rw [if_pos q, if_pos (h.mpr q)]
  · rw [if_neg q, if_neg (fun p => q (h.mp p))]
theorem own_ifo {P Q P' Q' : Prop} [Decidable (P ∨ Q)] [Decidable (P' ∨ Q')] (h : P ↔ P') (k : Q ↔ Q') : (if P ∨ Q then (1 : Int32) else 0) = if P' ∨ Q' then 1 else 0 := own_ifc ⟨fun q => q.imp h.mp k.mp, fun q => q.imp h.mpr k.mpr⟩
theorem own_pred {x : Int32} (h : ¬ (x &&& 3) = 0) : ((x &&& 3) - 1) = 0 ∨ ((x &&& 3) - 1) = 1 ∨ ((x &&& 3) - 1) = 2 := by
  have h1 := c_and x 3 (by decide)
  have h2 := c_isub (x &&& 3) 1
  have h3 := rng32 ((x &&& 3) - 1)
  rw [← Int32.toInt_inj] at h
  rw [← Int32.toInt_inj, ← Int32.toInt_inj, ← Int32.toInt_inj]
  simp only [show (0 : Int32).toInt = 0 from rfl, show (1 : Int32).toInt = 1 from rfl, show (2 : Int32).toInt = 2 from rfl, show (3 : Int32).toInt = 3 from rfl] at *
  omega
theorem own_rem (x : Int32) : ((x &&& (2147483647 : Int32)) % (3 : Int32)) = 0 ∨ ((x &&& (2147483647 : Int32)) % (3 : Int32)) = 1 ∨ ((x &&& (2147483647 : Int32)) % (3 : Int32)) = 2 := by
  have h1 := c_and x 2147483647 (by decide)
  have h2 := (c_irem (x &&& 2147483647) 3 3 rfl).1 h1.1
  rw [← Int32.toInt_inj, ← Int32.toInt_inj, ← Int32.toInt_inj, h2]
  simp only [show (0 : Int32).toInt = 0 from rfl, show (1 : Int32).toInt = 1 from rfl, show (2 : Int32).toInt = 2 from rfl] at *
  omega
theorem ef_rmC (m : MethodId) (x0 : Int32) : entryFrame m #[(.int x0)] 1 = mkF m 0 #[.val (.int x0)] [] := by first | (simp [entryFrame, mkF, argsToLocals, Value.category]; done) | rfl
set_option maxRecDepth 65536 in
set_option maxHeartbeats 40000000 in
theorem rmC (l : Launch) (Z : State) (a0 : Array Value) (hw : ∀ d ∈ tables_1, d.before a0 Z = true) (i : Int32) (wD wM wA : Nat) (h0 : Heap) (hO : Ext Z.heap h0) (S_wD : Sta Z Z.heap "com/example/venuewright/venuewright/model/TradingCapacity" "DEAL" "Lcom/example/venuewright/venuewright/model/TradingCapacity;" (.ref wD)) (S_wM : Sta Z Z.heap "com/example/venuewright/venuewright/model/TradingCapacity" "MTCH" "Lcom/example/venuewright/venuewright/model/TradingCapacity;" (.ref wM)) (S_wA : Sta Z Z.heap "com/example/venuewright/venuewright/model/TradingCapacity" "AOTC" "Lcom/example/venuewright/venuewright/model/TradingCapacity;" (.ref wA)) :
    OPure l Z (⟨"com/example/venuewright/venuewright/model/TradingCapacitiesIncludesPinLaw", "cap", "(I)Lcom/example/venuewright/venuewright/model/TradingCapacity;"⟩ : MethodName) method_2_code 1 (some (.object "com/example/venuewright/venuewright/model/TradingCapacity")) 0 0 #[(.int i)] h0 (some (.ref (own_cap i wD wM wA))) := by
  refine own_body pf_3 ?_
  intro p e s m below meth c T0 X0 hx hby hml hZ hown hnm hret hlk e0
  replace hown : s.vm.findClass "com/example/venuewright/venuewright/model/TradingCapacitiesIncludesPinLaw" = some m.cls := hown
  refine own_cast (ef_rmC m (i)) ?_
  show OGoes p.tables e below _ (T0.setTop (mkF m 0 #[.val (.int i)] []))
  refine own_st (V := (T0.setTop (mkF m 1 #[.val (.int i)] [(.int i)]))) (fun t ks => XS.iloadN X0.here hx rfl (hb hby d3_0) rfl ks) ?_
  by_cases h0 : i = 0
  · refine own_st (V := (T0.setTop (mkF m 4 #[.val (.int i)] []))) (fun t ks => XS.ifNo X0.here hx rfl (hb hby d3_1) rfl (XT.i0_ne_f h0) ks) ?_
    refine own_getstatic X0 hx hZ e0 hown (hw _ (List.mem_of_getElem? (i := 72) rfl)) (S_wD.ext hO) (hb hby d3_4) ?_
    intro T1 X1 e1
    show OGoes p.tables e below _ (T1.setTop (mkF m 7 #[.val (.int i)] [(.ref wD)]))
    exact own_retA X1 hx hlk rfl hret rfl (hb hby d3_7) (by decide) (by decide) ⟨by simp [own_cap, h0], e1, rfl⟩
  · refine own_st (V := (T0.setTop (mkF m 8 #[.val (.int i)] []))) (fun t ks => XS.ifYes X0.here hx rfl (pc0 := 1) (pc' := 8) rfl (hb hby d3_1) rfl (XT.i0_ne_t h0) (by decide) (by decide) ks) ?_
    refine own_st (V := (T0.setTop (mkF m 9 #[.val (.int i)] [(.int i)]))) (fun t ks => XS.iloadN X0.here hx rfl (hb hby d3_8) rfl ks) ?_
    refine own_st (V := (T0.setTop (mkF m 10 #[.val (.int i)] [(.int (1 : Int32)), (.int i)]))) (fun t ks => XS.iconst X0.here hx rfl (hb hby d3_9) ks) ?_
    by_cases h1 : i = (1 : Int32)
    · refine own_st (V := (T0.setTop (mkF m 13 #[.val (.int i)] []))) (fun t ks => XS.icmpNo X0.here hx rfl (hb hby d3_10) rfl (XT.ii_ne_f h1) ks) ?_
      refine own_getstatic X0 hx hZ e0 hown (hw _ (List.mem_of_getElem? (i := 74) rfl)) (S_wM.ext hO) (hb hby d3_13) ?_
      intro T2 X2 e2
      show OGoes p.tables e below _ (T2.setTop (mkF m 16 #[.val (.int i)] [(.ref wM)]))
      exact own_retA X2 hx hlk rfl hret rfl (hb hby d3_16) (by decide) (by decide) ⟨by simp [own_cap, h0, h1], e2, rfl⟩
    · refine own_st (V := (T0.setTop (mkF m 17 #[.val (.int i)] []))) (fun t ks => XS.icmpYes X0.here hx rfl (pc0 := 10) (pc' := 17) rfl (hb hby d3_10) rfl (XT.ii_ne_t h1) (by decide) (by decide) ks) ?_
      refine own_getstatic X0 hx hZ e0 hown (hw _ (List.mem_of_getElem? (i := 16) rfl)) (S_wA.ext hO) (hb hby d3_17) ?_
      intro T3 X3 e3
      show OGoes p.tables e below _ (T3.setTop (mkF m 20 #[.val (.int i)] [(.ref wA)]))
      exact own_retA X3 hx hlk rfl hret rfl (hb hby d3_20) (by decide) (by decide) ⟨by simp [own_cap, h0, h1], e3, rfl⟩
theorem ef_rmE (m : MethodId)  : entryFrame m #[] 1 = mkF m 0 #[.unset] [] := by first | (simp [entryFrame, mkF, argsToLocals, Value.category]; done) | rfl
set_option maxRecDepth 65536 in
set_option maxHeartbeats 40000000 in
theorem rmE (l : Launch) (Z : State) (a0 : Array Value) (hw : ∀ d ∈ tables_1, d.before a0 Z = true) (wE : Nat) (h0 : Heap) (hO : Ext Z.heap h0) (SE : Sta Z Z.heap "java/util/Optional" "EMPTY" "Ljava/util/Optional;" (.ref wE)) :
    OPure l Z (⟨"java/util/Optional", "empty", "()Ljava/util/Optional;"⟩ : MethodName) jdk_32_method_1_code 1 (some (.object "java/util/Optional")) 0 0 #[] h0 (some (.ref wE)) := by
  refine own_body pf_2 ?_
  intro p e s m below meth c T0 X0 hx hby hml hZ hown hnm hret hlk e0
  replace hown : s.vm.findClass "java/util/Optional" = some m.cls := hown
  refine own_cast (ef_rmE m ) ?_
  show OGoes p.tables e below _ (T0.setTop (mkF m 0 #[.unset] []))
  refine own_getstatic X0 hx hZ e0 hown (hw _ (List.mem_of_getElem? (i := 12) rfl)) (SE.ext hO) (hb hby d2_0) ?_
  intro T4 X4 e4
  show OGoes p.tables e below _ (T4.setTop (mkF m 3 #[.unset] [(.ref wE)]))
  refine own_st (V := (T4.setTop (mkF m 4 #[.val (.ref wE)] []))) (fun t ks => XS.astoreN X4.here hx rfl (hb hby d2_3) rfl rfl (l' := #[.val (.ref wE)]) rfl ks) ?_
  refine own_st (V := (T4.setTop (mkF m 5 #[.val (.ref wE)] [(.ref wE)]))) (fun t ks => XS.aloadN X4.here hx rfl (hb hby d2_4) rfl rfl ks) ?_
  exact own_retA X4 hx hlk rfl hret rfl (hb hby d2_5) (by decide) (by decide) ⟨rfl, e4, rfl⟩
theorem ef_rmN1 (m : MethodId) (x0 : Nat) : entryFrame m #[(.ref x0)] 1 = mkF m 0 #[.val (.ref x0)] [] := by first | (simp [entryFrame, mkF, argsToLocals, Value.category]; done) | rfl
set_option maxRecDepth 65536 in
set_option maxHeartbeats 40000000 in
theorem rmN1 (l : Launch) (Z : State) (a0 : Array Value) (hw : ∀ d ∈ tables_1, d.before a0 Z = true) (a : Nat) (h0 : Heap)  :
    OPure l Z (⟨"java/util/Objects", "requireNonNull", "(Ljava/lang/Object;)Ljava/lang/Object;"⟩ : MethodName) jdk_31_method_10_code 1 (some (.object "java/lang/Object")) 0 0 #[(.ref a)] h0 (some (.ref a)) := by
  refine own_body pf_5 ?_
  intro p e s m below meth c T0 X0 hx hby hml hZ hown hnm hret hlk e0
  replace hown : s.vm.findClass "java/util/Objects" = some m.cls := hown
  refine own_cast (ef_rmN1 m (a)) ?_
  show OGoes p.tables e below _ (T0.setTop (mkF m 0 #[.val (.ref a)] []))
  refine own_st (V := (T0.setTop (mkF m 1 #[.val (.ref a)] [(.ref a)]))) (fun t ks => XS.aloadN X0.here hx rfl (hb hby d5_0) rfl rfl ks) ?_
  refine own_st (V := (T0.setTop (mkF m 12 #[.val (.ref a)] []))) (fun t ks => XS.ifnonnullYes X0.here hx rfl (pc0 := 1) (pc' := 12) rfl (hb hby d5_1) rfl (by decide) (by decide) ks) ?_
  refine own_st (V := (T0.setTop (mkF m 13 #[.val (.ref a)] [(.ref a)]))) (fun t ks => XS.aloadN X0.here hx rfl (hb hby d5_12) rfl rfl ks) ?_
  exact own_retA X0 hx hlk rfl hret rfl (hb hby d5_13) (by decide) (by decide) ⟨rfl, e0, rfl⟩
theorem ef_rmN2 (m : MethodId) (x0 : Nat) (x1 : Nat) : entryFrame m #[(.ref x0), (.ref x1)] 2 = mkF m 0 #[.val (.ref x0), .val (.ref x1)] [] := by first | (simp [entryFrame, mkF, argsToLocals, Value.category]; done) | rfl
set_option maxRecDepth 65536 in
set_option maxHeartbeats 40000000 in
theorem rmN2 (l : Launch) (Z : State) (a0 : Array Value) (hw : ∀ d ∈ tables_1, d.before a0 Z = true) (a t : Nat) (h0 : Heap)  :
    OPure l Z (⟨"java/util/Objects", "requireNonNull", "(Ljava/lang/Object;Ljava/lang/String;)Ljava/lang/Object;"⟩ : MethodName) jdk_31_method_11_code 2 (some (.object "java/lang/Object")) 0 0 #[(.ref a), (.ref t)] h0 (some (.ref a)) := by
  refine own_body pf_10 ?_
  intro p e s m below meth c T0 X0 hx hby hml hZ hown hnm hret hlk e0
  replace hown : s.vm.findClass "java/util/Objects" = some m.cls := hown
  refine own_cast (ef_rmN2 m (a) (t)) ?_
  show OGoes p.tables e below _ (T0.setTop (mkF m 0 #[.val (.ref a), .val (.ref t)] []))
  refine own_st (V := (T0.setTop (mkF m 1 #[.val (.ref a), .val (.ref t)] [(.ref a)]))) (fun t ks => XS.aloadN X0.here hx rfl (hb hby d10_0) rfl rfl ks) ?_
  refine own_st (V := (T0.setTop (mkF m 13 #[.val (.ref a), .val (.ref t)] []))) (fun t ks => XS.ifnonnullYes X0.here hx rfl (pc0 := 1) (pc' := 13) rfl (hb hby d10_1) rfl (by decide) (by decide) ks) ?_
  refine own_st (V := (T0.setTop (mkF m 14 #[.val (.ref a), .val (.ref t)] [(.ref a)]))) (fun t ks => XS.aloadN X0.here hx rfl (hb hby d10_13) rfl rfl ks) ?_
  exact own_retA X0 hx hlk rfl hret rfl (hb hby d10_14) (by decide) (by decide) ⟨rfl, e0, rfl⟩
theorem ef_rmOI (m : MethodId) (x0 : Nat) (x1 : Nat) : entryFrame m #[(.ref x0), (.ref x1)] 2 = mkF m 0 #[.val (.ref x0), .val (.ref x1)] [] := by first | (simp [entryFrame, mkF, argsToLocals, Value.category]; done) | rfl
set_option maxRecDepth 65536 in
set_option maxHeartbeats 40000000 in
theorem rmOI (l : Launch) (Z : State) (a0 : Array Value) (hw : ∀ d ∈ tables_1, d.before a0 Z = true) (o a : Nat) (h0 : Heap) (E : Exa Z h0 o "java/util/Optional") (Fv : Fld Z h0 o "java/util/Optional" "value" "Ljava/lang/Object;" .null) (ge : Z.heap.size ≤ o) :
    OMet l Z (⟨"java/util/Optional", "<init>", "(Ljava/lang/Object;)V"⟩ : MethodName) jdk_32_method_2_code 2 none ⟨1, 0, 0, 12⟩ #[(.ref o), (.ref a)] h0 (fun v h L => v = none ∧ Fr Z.heap.size L ∧ Keep h0 h [o] ∧ Exa Z h o "java/util/Optional" ∧ Fld Z h o "java/util/Optional" "value" "Ljava/lang/Object;" (.ref a)) := by
  refine own_body pf_6 ?_
  intro p e s m below meth c T0 X0 hx hby hml hZ hown hnm hret hlk e0
  replace hown : s.vm.findClass "java/util/Optional" = some m.cls := hown
  refine own_cast (ef_rmOI m (o) (a)) ?_
  show OGoes p.tables e below _ (T0.setTop (mkF m 0 #[.val (.ref o), .val (.ref a)] []))
  have K := Keep.refl h0 [o]
  refine own_st (V := (T0.setTop (mkF m 1 #[.val (.ref o), .val (.ref a)] [(.ref o)]))) (fun t ks => XS.aloadN X0.here hx rfl (hb hby d6_0) rfl rfl ks) ?_
  obtain ⟨T5, X5, e5, st5⟩ := initO X0 hx hZ hown (hw _ (List.mem_of_getElem? (i := 32) rfl)) (hw _ (List.mem_of_getElem? (i := 33) rfl)) (hw _ (List.mem_of_getElem? (i := 34) rfl)) e0 (g := (mkF m 1 #[.val (.ref o), .val (.ref a)] [(.ref o)])) rfl (by rw [hml]; rfl) rfl (hb hby d6_1) (by decide) (W := 0) (by show 2 * 0 + _ ≤ _; exact Nat.le_of_eq rfl) (by decide)
  refine own_st (V := (T5.setTop (mkF m 4 #[.val (.ref o), .val (.ref a)] []))) st5 ?_
  refine own_st (V := (T5.setTop (mkF m 5 #[.val (.ref o), .val (.ref a)] [(.ref o)]))) (fun t ks => XS.aloadN X5.here hx rfl (hb hby d6_4) rfl rfl ks) ?_
  refine own_st (V := (T5.setTop (mkF m 6 #[.val (.ref o), .val (.ref a)] [(.ref a), (.ref o)]))) (fun t ks => XS.aloadN X5.here hx rfl (hb hby d6_5) rfl rfl ks) ?_
  refine own_putfield X5 hx hZ e5 hown (hw _ (List.mem_of_getElem? (i := 35) rfl)) Fv E (Or.inr ⟨(hw _ (List.mem_of_getElem? (i := 36) rfl)), rfl, hnm⟩) (hw _ (List.mem_of_getElem? (i := 23) rfl)) (ty := (.object "java/lang/Object")) (by decide) rfl rfl (Fr.nil Z.heap.size) (by omega) (hb hby d6_6) ?_
  intro T6 h6 L6 X6 e6 N6 W6 Fn6
  replace K := K.wr W6 (Or.inl (by simp))
  replace E := E.wr W6
  replace Fv := Fn6
  show OGoes p.tables e below _ (T6.setTop (mkF m 9 #[.val (.ref o), .val (.ref a)] []))
  exact own_retV X6 hx hlk hret (hb hby d6_9) (by decide) (by decide) ⟨rfl, N6, by rw [e6]; exact ⟨K, E, Fv⟩⟩
theorem ef_rmOf (m : MethodId) (x0 : Nat) : entryFrame m #[(.ref x0)] 1 = mkF m 0 #[.val (.ref x0)] [] := by first | (simp [entryFrame, mkF, argsToLocals, Value.category]; done) | rfl
set_option maxRecDepth 65536 in
set_option maxHeartbeats 40000000 in
theorem rmOf (l : Launch) (Z : State) (a0 : Array Value) (hw : ∀ d ∈ tables_1, d.before a0 Z = true) (a : Nat) (h0 : Heap) (hZ0 : Z.heap.size ≤ h0.size) :
    OMet l Z (⟨"java/util/Optional", "of", "(Ljava/lang/Object;)Ljava/util/Optional;"⟩ : MethodName) jdk_32_method_3_code 1 (some (.object "java/util/Optional")) ⟨2, 1, 1, 40⟩ #[(.ref a)] h0 (fun v h L => Fr Z.heap.size L ∧ Keep h0 h [] ∧ ∃ o : Nat, v = some (.ref o) ∧ Exa Z h o "java/util/Optional" ∧ Fld Z h o "java/util/Optional" "value" "Ljava/lang/Object;" (.ref a)) := by
  refine own_body pf_4 ?_
  intro p e s m below meth c T0 X0 hx hby hml hZ hown hnm hret hlk e0
  replace hown : s.vm.findClass "java/util/Optional" = some m.cls := hown
  refine own_cast (ef_rmOf m (a)) ?_
  show OGoes p.tables e below _ (T0.setTop (mkF m 0 #[.val (.ref a)] []))
  have K := Keep.refl h0 []
  refine own_new X0 hx hZ e0 hown (hw _ (List.mem_of_getElem? (i := 22) rfl)) (hw _ (List.mem_of_getElem? (i := 23) rfl)) (hw _ (List.mem_of_getElem? (i := 10) rfl)) (by decide) (by decide) (hb hby d4_0) ?_
  intro T7 h7 b7 X7 e7 Ex7 g7 Eo D7
  replace K := K.ext Ex7
  have ltn_7 : @LT.lt Nat _ b7 h7.size := Eo.lt
  have o_value := D7 (Or.inr (hw _ (List.mem_of_getElem? (i := 36) rfl))) (ty := (.object "java/lang/Object")) (by decide)
  clear D7
  show OGoes p.tables e below _ (T7.setTop (mkF m 3 #[.val (.ref a)] [(.ref b7)]))
  refine own_st (V := (T7.setTop (mkF m 4 #[.val (.ref a)] [(.ref b7), (.ref b7)]))) (fun t ks => XS.dup X7.here hx rfl (hb hby d4_3) rfl rfl ks) ?_
  refine own_st (V := (T7.setTop (mkF m 5 #[.val (.ref a)] [(.ref a), (.ref b7), (.ref b7)]))) (fun t ks => XS.aloadN X7.here hx rfl (hb hby d4_4) rfl rfl ks) ?_
  refine own_callS0 X7 hx hZ hown (hw _ (List.mem_of_getElem? (i := 24) rfl)) (hw _ (List.mem_of_getElem? (i := 25) rfl)) (hw _ (List.mem_of_getElem? (i := 26) rfl)) (hw _ (List.mem_of_getElem? (i := 27) rfl)) (by decide) (rmN1 l Z a0 hw a h7) e7 (by rw [hml]; rfl) (argsL := [(.ref a)]) (rest := [(.ref b7), (.ref b7)]) pd_0 rfl rfl rfl (W := 2) (Nat.le_of_eq rfl) (hb hby d4_5) (by decide) (by decide) (by decide) (by decide) ?_
  intro T8 X8 e8
  show OGoes p.tables e below _ (T8.setTop (mkF m 8 #[.val (.ref a)] [(.ref a), (.ref b7), (.ref b7)]))
  refine own_callN X8 hx hZ rfl hown (hw _ (List.mem_of_getElem? (i := 28) rfl)) (hw _ (List.mem_of_getElem? (i := 29) rfl)) (hw _ (List.mem_of_getElem? (i := 10) rfl)) (hw _ (List.mem_of_getElem? (i := 31) rfl)) (by decide) (rmOI l Z a0 hw b7 a h7 Eo o_value (by omega)) e8 (by rw [hml]; rfl) (argsL := [(.ref a)]) (rest := [(.ref b7)]) pd_1 rfl rfl rfl (W := 1) (Nat.le_of_eq rfl) (hb hby d4_8) (by decide) (by decide) (by decide) (by decide) ?_
  rintro v9 T9 L9 X9 ⟨rfl, N9, K9, Eo, Fv⟩
  replace N9 := Fr.app (Fr.nil Z.heap.size) N9
  show OGoes p.tables e below _ (T9.setTop (mkF m 11 #[.val (.ref a)] [(.ref b7)]))
  replace K := K.trans K9 (allS (Or.inr (by omega)) all0)
  exact own_retA X9 hx hlk rfl hret rfl (hb hby d4_11) (by decide) (by decide) ⟨N9, K, b7, rfl, Eo, Fv⟩
theorem ef_rmL0 (m : MethodId) (x0 : Nat) : entryFrame m #[(.ref x0), .null] 2 = mkF m 0 #[.val (.ref x0), .val .null] [] := by first | (simp [entryFrame, mkF, argsToLocals, Value.category]; done) | rfl
set_option maxRecDepth 65536 in
set_option maxHeartbeats 40000000 in
theorem rmL0 (l : Launch) (Z : State) (a0 : Array Value) (hw : ∀ d ∈ tables_1, d.before a0 Z = true) (o : Nat) (h0 : Heap) (Fv : Fld Z h0 o "java/util/Optional" "value" "Ljava/lang/Object;" .null) :
    OPure l Z (⟨"java/util/Optional", "orElse", "(Ljava/lang/Object;)Ljava/lang/Object;"⟩ : MethodName) jdk_32_method_15_code 2 (some (.object "java/lang/Object")) 0 0 #[(.ref o), .null] h0 (some .null) := by
  refine own_body pf_12 ?_
  intro p e s m below meth c T0 X0 hx hby hml hZ hown hnm hret hlk e0
  replace hown : s.vm.findClass "java/util/Optional" = some m.cls := hown
  refine own_cast (ef_rmL0 m (o)) ?_
  show OGoes p.tables e below _ (T0.setTop (mkF m 0 #[.val (.ref o), .val .null] []))
  refine own_st (V := (T0.setTop (mkF m 1 #[.val (.ref o), .val .null] [(.ref o)]))) (fun t ks => XS.aloadN X0.here hx rfl (hb hby d12_0) rfl rfl ks) ?_
  refine own_getfield X0 hx hZ e0 hown (hw _ (List.mem_of_getElem? (i := 35) rfl)) Via.refl Fv (hb hby d12_1) ?_
  intro T10 X10 e10
  show OGoes p.tables e below _ (T10.setTop (mkF m 4 #[.val (.ref o), .val .null] [.null]))
  refine own_st (V := (T10.setTop (mkF m 14 #[.val (.ref o), .val .null] []))) (fun t ks => XS.ifnullYes X10.here hx rfl (pc0 := 4) (pc' := 14) rfl (hb hby d12_4) rfl (by decide) (by decide) ks) ?_
  refine own_st (V := (T10.setTop (mkF m 15 #[.val (.ref o), .val .null] [.null]))) (fun t ks => XS.aloadN X10.here hx rfl (hb hby d12_14) rfl rfl ks) ?_
  exact own_retA X10 hx hlk rfl hret rfl (hb hby d12_15) (by decide) (by decide) ⟨rfl, e10, rfl⟩
theorem ef_rmL1 (m : MethodId) (x0 : Nat) : entryFrame m #[(.ref x0), .null] 2 = mkF m 0 #[.val (.ref x0), .val .null] [] := by first | (simp [entryFrame, mkF, argsToLocals, Value.category]; done) | rfl
set_option maxRecDepth 65536 in
set_option maxHeartbeats 40000000 in
theorem rmL1 (l : Launch) (Z : State) (a0 : Array Value) (hw : ∀ d ∈ tables_1, d.before a0 Z = true) (o a : Nat) (h0 : Heap) (Fv : Fld Z h0 o "java/util/Optional" "value" "Ljava/lang/Object;" (.ref a)) :
    OPure l Z (⟨"java/util/Optional", "orElse", "(Ljava/lang/Object;)Ljava/lang/Object;"⟩ : MethodName) jdk_32_method_15_code 2 (some (.object "java/lang/Object")) 0 0 #[(.ref o), .null] h0 (some (.ref a)) := by
  refine own_body pf_12 ?_
  intro p e s m below meth c T0 X0 hx hby hml hZ hown hnm hret hlk e0
  replace hown : s.vm.findClass "java/util/Optional" = some m.cls := hown
  refine own_cast (ef_rmL1 m (o)) ?_
  show OGoes p.tables e below _ (T0.setTop (mkF m 0 #[.val (.ref o), .val .null] []))
  refine own_st (V := (T0.setTop (mkF m 1 #[.val (.ref o), .val .null] [(.ref o)]))) (fun t ks => XS.aloadN X0.here hx rfl (hb hby d12_0) rfl rfl ks) ?_
  refine own_getfield X0 hx hZ e0 hown (hw _ (List.mem_of_getElem? (i := 35) rfl)) Via.refl Fv (hb hby d12_1) ?_
  intro T11 X11 e11
  show OGoes p.tables e below _ (T11.setTop (mkF m 4 #[.val (.ref o), .val .null] [(.ref a)]))
  refine own_st (V := (T11.setTop (mkF m 7 #[.val (.ref o), .val .null] []))) (fun t ks => XS.ifnullNo X11.here hx rfl (hb hby d12_4) rfl ks) ?_
  refine own_st (V := (T11.setTop (mkF m 8 #[.val (.ref o), .val .null] [(.ref o)]))) (fun t ks => XS.aloadN X11.here hx rfl (hb hby d12_7) rfl rfl ks) ?_
  refine own_getfield X11 hx hZ e11 hown (hw _ (List.mem_of_getElem? (i := 35) rfl)) Via.refl Fv (hb hby d12_8) ?_
  intro T12 X12 e12
  show OGoes p.tables e below _ (T12.setTop (mkF m 11 #[.val (.ref o), .val .null] [(.ref a)]))
  refine own_st (V := (T12.setTop (mkF m 15 #[.val (.ref o), .val .null] [(.ref a)]))) (fun t ks => XS.goto X12.here hx rfl (pc0 := 11) (pc' := 15) rfl (hb hby d12_11) (by decide) (by decide) ks) ?_
  exact own_retA X12 hx hlk rfl hret rfl (hb hby d12_15) (by decide) (by decide) ⟨rfl, e12, rfl⟩
theorem ef_rmR (m : MethodId) (x0 : Nat) : entryFrame m #[(.ref x0)] 1 = mkF m 0 #[.val (.ref x0)] [] := by first | (simp [entryFrame, mkF, argsToLocals, Value.category]; done) | rfl
set_option maxRecDepth 65536 in
set_option maxHeartbeats 40000000 in
theorem rmR (l : Launch) (Z : State) (a0 : Array Value) (hw : ∀ d ∈ tables_1, d.before a0 Z = true) (a : Nat) (h0 : Heap)  :
    OPure l Z (⟨"java/lang/Record", "<init>", "()V"⟩ : MethodName) jdk_30_method_1_code 1 none 1 12 #[(.ref a)] h0 none := by
  refine own_body pf_9 ?_
  intro p e s m below meth c T0 X0 hx hby hml hZ hown hnm hret hlk e0
  replace hown : s.vm.findClass "java/lang/Record" = some m.cls := hown
  refine own_cast (ef_rmR m (a)) ?_
  show OGoes p.tables e below _ (T0.setTop (mkF m 0 #[.val (.ref a)] []))
  refine own_st (V := (T0.setTop (mkF m 1 #[.val (.ref a)] [(.ref a)]))) (fun t ks => XS.aloadN X0.here hx rfl (hb hby d9_0) rfl rfl ks) ?_
  obtain ⟨T13, X13, e13, st13⟩ := initO X0 hx hZ hown (hw _ (List.mem_of_getElem? (i := 45) rfl)) (hw _ (List.mem_of_getElem? (i := 33) rfl)) (hw _ (List.mem_of_getElem? (i := 34) rfl)) e0 (g := (mkF m 1 #[.val (.ref a)] [(.ref a)])) rfl (by rw [hml]; rfl) rfl (hb hby d9_1) (by decide) (W := 0) (by show 2 * 0 + _ ≤ _; exact Nat.le_of_eq rfl) (by decide)
  refine own_st (V := (T13.setTop (mkF m 4 #[.val (.ref a)] []))) st13 ?_
  exact own_retV X13 hx hlk hret (hb hby d9_4) (by decide) (by decide) ⟨rfl, e13, rfl⟩
theorem ef_rmO0 (m : MethodId) (x0 : Int32) : entryFrame m #[(.int x0)] 1 = mkF m 0 #[.val (.int x0)] [] := by first | (simp [entryFrame, mkF, argsToLocals, Value.category]; done) | rfl
set_option maxRecDepth 65536 in
set_option maxHeartbeats 40000000 in
theorem rmO0 (l : Launch) (Z : State) (a0 : Array Value) (hw : ∀ d ∈ tables_1, d.before a0 Z = true) (k : Int32) (wE : Nat) (hk0 : k = 0) (h0 : Heap) (hO : Ext Z.heap h0) (SE : Sta Z Z.heap "java/util/Optional" "EMPTY" "Ljava/util/Optional;" (.ref wE)) (EE : Exa Z Z.heap wE "java/util/Optional") (VE : Fld Z Z.heap wE "java/util/Optional" "value" "Ljava/lang/Object;" .null) :
    OMet l Z (⟨"com/example/venuewright/venuewright/model/TradingCapacitiesIncludesPinLaw", "opt", "(I)Ljava/util/Optional;"⟩ : MethodName) method_3_code 1 (some (.object "java/util/Optional")) ⟨3, 1, 1, 60⟩ #[(.int k)] h0 (fun v h L => Fr Z.heap.size L ∧ Keep h0 h [] ∧ ∃ o : Nat, v = some (.ref o) ∧ Exa Z h o "java/util/Optional" ∧ Fld Z h o "java/util/Optional" "value" "Ljava/lang/Object;" .null) := by
  refine own_body pf_1 ?_
  intro p e s m below meth c T0 X0 hx hby hml hZ hown hnm hret hlk e0
  replace hown : s.vm.findClass "com/example/venuewright/venuewright/model/TradingCapacitiesIncludesPinLaw" = some m.cls := hown
  refine own_cast (ef_rmO0 m (k)) ?_
  show OGoes p.tables e below _ (T0.setTop (mkF m 0 #[.val (.int k)] []))
  refine own_st (V := (T0.setTop (mkF m 1 #[.val (.int k)] [(.int k)]))) (fun t ks => XS.iloadN X0.here hx rfl (hb hby d1_0) rfl ks) ?_
  refine own_st (V := (T0.setTop (mkF m 4 #[.val (.int k)] []))) (fun t ks => XS.ifNo X0.here hx rfl (hb hby d1_1) rfl (XT.i0_ne_f hk0) ks) ?_
  refine own_callS0 X0 hx hZ hown (hw _ (List.mem_of_getElem? (i := 8) rfl)) (hw _ (List.mem_of_getElem? (i := 9) rfl)) (hw _ (List.mem_of_getElem? (i := 10) rfl)) (hw _ (List.mem_of_getElem? (i := 11) rfl)) (by decide) (rmE l Z a0 hw wE h0 hO SE) e0 (by rw [hml]; rfl) (argsL := []) (rest := []) pd_2 rfl rfl rfl (W := 0) (Nat.le_of_eq rfl) (hb hby d1_4) (by decide) (by decide) (by decide) (by decide) ?_
  intro T14 X14 e14
  show OGoes p.tables e below _ (T14.setTop (mkF m 7 #[.val (.int k)] [(.ref wE)]))
  exact own_retA X14 hx hlk rfl hret rfl (hb hby d1_7) (by decide) (by decide) ⟨Fr.nil _, by rw [e14]; exact ⟨Keep.refl _ _, wE, rfl, EE.ext hO, VE.ext hO⟩⟩
theorem ef_rmO1 (m : MethodId) (x0 : Int32) : entryFrame m #[(.int x0)] 1 = mkF m 0 #[.val (.int x0)] [] := by first | (simp [entryFrame, mkF, argsToLocals, Value.category]; done) | rfl
set_option maxRecDepth 65536 in
set_option maxHeartbeats 40000000 in
theorem rmO1 (l : Launch) (Z : State) (a0 : Array Value) (hw : ∀ d ∈ tables_1, d.before a0 Z = true) (k : Int32) (wD wM wA : Nat) (hk0 : ¬ k = 0) (h0 : Heap) (hO : Ext Z.heap h0) (S_wD : Sta Z Z.heap "com/example/venuewright/venuewright/model/TradingCapacity" "DEAL" "Lcom/example/venuewright/venuewright/model/TradingCapacity;" (.ref wD)) (S_wM : Sta Z Z.heap "com/example/venuewright/venuewright/model/TradingCapacity" "MTCH" "Lcom/example/venuewright/venuewright/model/TradingCapacity;" (.ref wM)) (S_wA : Sta Z Z.heap "com/example/venuewright/venuewright/model/TradingCapacity" "AOTC" "Lcom/example/venuewright/venuewright/model/TradingCapacity;" (.ref wA)) :
    OMet l Z (⟨"com/example/venuewright/venuewright/model/TradingCapacitiesIncludesPinLaw", "opt", "(I)Ljava/util/Optional;"⟩ : MethodName) method_3_code 1 (some (.object "java/util/Optional")) ⟨3, 1, 1, 60⟩ #[(.int k)] h0 (fun v h L => Fr Z.heap.size L ∧ Keep h0 h [] ∧ ∃ o : Nat, v = some (.ref o) ∧ Exa Z h o "java/util/Optional" ∧ Fld Z h o "java/util/Optional" "value" "Ljava/lang/Object;" (.ref (own_cap (k - 1) wD wM wA))) := by
  refine own_body pf_1 ?_
  intro p e s m below meth c T0 X0 hx hby hml hZ hown hnm hret hlk e0
  replace hown : s.vm.findClass "com/example/venuewright/venuewright/model/TradingCapacitiesIncludesPinLaw" = some m.cls := hown
  refine own_cast (ef_rmO1 m (k)) ?_
  show OGoes p.tables e below _ (T0.setTop (mkF m 0 #[.val (.int k)] []))
  refine own_st (V := (T0.setTop (mkF m 1 #[.val (.int k)] [(.int k)]))) (fun t ks => XS.iloadN X0.here hx rfl (hb hby d1_0) rfl ks) ?_
  refine own_st (V := (T0.setTop (mkF m 8 #[.val (.int k)] []))) (fun t ks => XS.ifYes X0.here hx rfl (pc0 := 1) (pc' := 8) rfl (hb hby d1_1) rfl (XT.i0_ne_t hk0) (by decide) (by decide) ks) ?_
  refine own_st (V := (T0.setTop (mkF m 9 #[.val (.int k)] [(.int k)]))) (fun t ks => XS.iloadN X0.here hx rfl (hb hby d1_8) rfl ks) ?_
  refine own_st (V := (T0.setTop (mkF m 10 #[.val (.int k)] [(.int (1 : Int32)), (.int k)]))) (fun t ks => XS.iconst X0.here hx rfl (hb hby d1_9) ks) ?_
  refine own_st (V := (T0.setTop (mkF m 11 #[.val (.int k)] [(.int (k - (1 : Int32)))]))) (fun t ks => XS.isub X0.here hx rfl (hb hby d1_10) rfl ks) ?_
  refine own_callS0 X0 hx hZ hown (hw _ (List.mem_of_getElem? (i := 13) rfl)) (hw _ (List.mem_of_getElem? (i := 14) rfl)) (hw _ (List.mem_of_getElem? (i := 6) rfl)) (hw _ (List.mem_of_getElem? (i := 15) rfl)) (by decide) (rmC l Z a0 hw (k - (1 : Int32)) wD wM wA h0 hO S_wD S_wM S_wA) e0 (by rw [hml]; rfl) (argsL := [(.int (k - (1 : Int32)))]) (rest := []) pd_3 rfl rfl rfl (W := 0) (Nat.le_of_eq rfl) (hb hby d1_11) (by decide) (by decide) (by decide) (by decide) ?_
  intro T15 X15 e15
  show OGoes p.tables e below _ (T15.setTop (mkF m 14 #[.val (.int k)] [(.ref (own_cap (k - (1 : Int32)) wD wM wA))]))
  refine own_callS X15 hx hZ hown (hw _ (List.mem_of_getElem? (i := 19) rfl)) (hw _ (List.mem_of_getElem? (i := 20) rfl)) (hw _ (List.mem_of_getElem? (i := 10) rfl)) (hw _ (List.mem_of_getElem? (i := 21) rfl)) (by decide) (rmOf l Z a0 hw (own_cap (k - (1 : Int32)) wD wM wA) h0 hO.1) e15 (by rw [hml]; rfl) (argsL := [(.ref (own_cap (k - (1 : Int32)) wD wM wA))]) (rest := []) pd_4 rfl rfl rfl (W := 0) (Nat.le_of_eq rfl) (hb hby d1_14) (by decide) (by decide) (by decide) (by decide) ?_
  rintro v16 T16 L16 X16 ⟨N16, K16, o, rfl, Eo, Fv⟩
  replace N16 := Fr.app (Fr.nil Z.heap.size) N16
  show OGoes p.tables e below _ (T16.setTop (mkF m 17 #[.val (.int k)] [(.ref o)]))
  exact own_retA X16 hx hlk rfl hret rfl (hb hby d1_17) (by decide) (by decide) ⟨N16, K16, o, rfl, Eo, Fv⟩
theorem ef_rmTI (m : MethodId) (x0 : Nat) (x1 : Nat) (x2 : Nat) : entryFrame m #[(.ref x0), (.ref x1), (.ref x2)] 3 = mkF m 0 #[.val (.ref x0), .val (.ref x1), .val (.ref x2)] [] := by first | (simp [entryFrame, mkF, argsToLocals, Value.category]; done) | rfl
set_option maxRecDepth 65536 in
set_option maxHeartbeats 40000000 in
theorem rmTI (l : Launch) (Z : State) (a0 : Array Value) (hw : ∀ d ∈ tables_1, d.before a0 Z = true) (t ob os : Nat) (h0 : Heap) (E : Exa Z h0 t "com/example/venuewright/venuewright/model/TradingCapacities") (Fb : Fld Z h0 t "com/example/venuewright/venuewright/model/TradingCapacities" "buyer" "Ljava/util/Optional;" .null) (Fs : Fld Z h0 t "com/example/venuewright/venuewright/model/TradingCapacities" "seller" "Ljava/util/Optional;" .null) (ge : Z.heap.size ≤ t) :
    OMetW l Z (⟨"com/example/venuewright/venuewright/model/TradingCapacities", "<init>", "(Ljava/util/Optional;Ljava/util/Optional;)V"⟩ : MethodName) prog_78_method_1_code 3 none ⟨2, 4, 52, 30⟩ #[(.ref t), (.ref ob), (.ref os)] h0 (fun v h L => v = none ∧ Fr Z.heap.size L ∧ Keep h0 h [t] ∧ Exa Z h t "com/example/venuewright/venuewright/model/TradingCapacities" ∧ Fld Z h t "com/example/venuewright/venuewright/model/TradingCapacities" "buyer" "Ljava/util/Optional;" (.ref ob) ∧ Fld Z h t "com/example/venuewright/venuewright/model/TradingCapacities" "seller" "Ljava/util/Optional;" (.ref os)) := by
  refine own_bodyW pf_8 ?_
  intro p e s vm0 k0 m below meth c T0 X0 hS hk hx hby hml hZ hown hnm hret hlk e0 hs0
  replace hown : (s.setVm vm0).vm.findClass "com/example/venuewright/venuewright/model/TradingCapacities" = some m.cls := hown
  refine own_cast (ef_rmTI m (t) (ob) (os)) ?_
  show OGoes p.tables e below _ (T0.setTop (mkF m 0 #[.val (.ref t), .val (.ref ob), .val (.ref os)] []))
  have K := Keep.refl h0 [t]
  refine own_st (V := (T0.setTop (mkF m 1 #[.val (.ref t), .val (.ref ob), .val (.ref os)] [(.ref t)]))) (fun t ks => XS.aloadN X0.here hx rfl (hb hby d8_0) rfl rfl ks) ?_
  refine own_callN0 X0 hx hZ rfl hown (hw _ (List.mem_of_getElem? (i := 40) rfl)) (hw _ (List.mem_of_getElem? (i := 41) rfl)) (hw _ (List.mem_of_getElem? (i := 43) rfl)) (hw _ (List.mem_of_getElem? (i := 44) rfl)) (by decide) (rmR l Z a0 hw t h0) e0 (by rw [hml]; rfl) (argsL := []) (rest := []) pd_5 rfl rfl rfl (W := 0) (Nat.le_of_eq rfl) (hb hby d8_1) (by decide) (by decide) (by decide) (by decide) ?_
  intro T17 X17 e17
  show OGoes p.tables e below _ (T17.setTop (mkF m 4 #[.val (.ref t), .val (.ref ob), .val (.ref os)] []))
  refine own_st (V := (T17.setTop (mkF m 5 #[.val (.ref t), .val (.ref ob), .val (.ref os)] [(.ref ob)]))) (fun t ks => XS.aloadN X17.here hx rfl (hb hby d8_4) rfl rfl ks) ?_
  have lt_t : @LT.lt Nat _ t h0.size := E.lt
  refine own_ldc X17 hx hZ e17 hown (hw _ (List.mem_of_getElem? (i := 46) rfl)) (own_wS hw) hS hk (n := 20) (by decide +kernel) (by decide) (by decide) (by decide) (hb hby d8_5) ?_
  intro a18 T18 h18 k18 X18 e18 Ex18 hS hk hZ hown
  replace K := K.ext Ex18
  replace E := E.ext Ex18
  replace Fb := Fb.ext Ex18
  replace Fs := Fs.ext Ex18
  show OGoes p.tables e below _ (T18.setTop (mkF m 7 #[.val (.ref t), .val (.ref ob), .val (.ref os)] [(.ref a18), (.ref ob)]))
  refine own_callS0 X18 hx hZ hown (hw _ (List.mem_of_getElem? (i := 54) rfl)) (hw _ (List.mem_of_getElem? (i := 55) rfl)) (hw _ (List.mem_of_getElem? (i := 26) rfl)) (hw _ (List.mem_of_getElem? (i := 56) rfl)) (by decide) (rmN2 l Z a0 hw ob a18 h18) e18 (by rw [hml]; rfl) (argsL := [(.ref ob), (.ref a18)]) (rest := []) pd_6 rfl rfl rfl (W := 0) (Nat.le_of_eq rfl) (hb hby d8_7) (by decide) (by decide) (by decide) (by decide) ?_
  intro T19 X19 e19
  show OGoes p.tables e below _ (T19.setTop (mkF m 10 #[.val (.ref t), .val (.ref ob), .val (.ref os)] [(.ref ob)]))
  refine own_st (V := (T19.setTop (mkF m 11 #[.val (.ref t), .val (.ref ob), .val (.ref os)] []))) (fun t ks => XS.pop X19.here hx rfl (hb hby d8_10) rfl rfl ks) ?_
  refine own_st (V := (T19.setTop (mkF m 12 #[.val (.ref t), .val (.ref ob), .val (.ref os)] [(.ref os)]))) (fun t ks => XS.aloadN X19.here hx rfl (hb hby d8_11) rfl rfl ks) ?_
  have lt_t : @LT.lt Nat _ t h18.size := E.lt
  refine own_ldc X19 hx hZ e19 hown (hw _ (List.mem_of_getElem? (i := 57) rfl)) (own_wS hw) hS hk (n := 24) (by decide +kernel) (by decide) (by decide) (by decide) (hb hby d8_12) ?_
  intro a20 T20 h20 k20 X20 e20 Ex20 hS hk hZ hown
  replace K := K.ext Ex20
  replace E := E.ext Ex20
  replace Fb := Fb.ext Ex20
  replace Fs := Fs.ext Ex20
  show OGoes p.tables e below _ (T20.setTop (mkF m 14 #[.val (.ref t), .val (.ref ob), .val (.ref os)] [(.ref a20), (.ref os)]))
  refine own_callS0 X20 hx hZ hown (hw _ (List.mem_of_getElem? (i := 54) rfl)) (hw _ (List.mem_of_getElem? (i := 55) rfl)) (hw _ (List.mem_of_getElem? (i := 26) rfl)) (hw _ (List.mem_of_getElem? (i := 56) rfl)) (by decide) (rmN2 l Z a0 hw os a20 h20) e20 (by rw [hml]; rfl) (argsL := [(.ref os), (.ref a20)]) (rest := []) pd_6 rfl rfl rfl (W := 0) (Nat.le_of_eq rfl) (hb hby d8_14) (by decide) (by decide) (by decide) (by decide) ?_
  intro T21 X21 e21
  show OGoes p.tables e below _ (T21.setTop (mkF m 17 #[.val (.ref t), .val (.ref ob), .val (.ref os)] [(.ref os)]))
  refine own_st (V := (T21.setTop (mkF m 18 #[.val (.ref t), .val (.ref ob), .val (.ref os)] []))) (fun t ks => XS.pop X21.here hx rfl (hb hby d8_17) rfl rfl ks) ?_
  refine own_st (V := (T21.setTop (mkF m 19 #[.val (.ref t), .val (.ref ob), .val (.ref os)] [(.ref t)]))) (fun t ks => XS.aloadN X21.here hx rfl (hb hby d8_18) rfl rfl ks) ?_
  refine own_st (V := (T21.setTop (mkF m 20 #[.val (.ref t), .val (.ref ob), .val (.ref os)] [(.ref ob), (.ref t)]))) (fun t ks => XS.aloadN X21.here hx rfl (hb hby d8_19) rfl rfl ks) ?_
  refine own_putfield X21 hx hZ e21 hown (hw _ (List.mem_of_getElem? (i := 58) rfl)) Fb E (Or.inr ⟨(hw _ (List.mem_of_getElem? (i := 59) rfl)), rfl, hnm⟩) (hw _ (List.mem_of_getElem? (i := 2) rfl)) (ty := (.object "java/util/Optional")) (by decide) rfl rfl (Fr.nil Z.heap.size) (by omega) (hb hby d8_20) ?_
  intro T22 h22 L22 X22 e22 N22 W22 Fn22
  replace K := K.wr W22 (Or.inl (by simp))
  replace E := E.wr W22
  replace Fs := Fs.other W22 (Or.inr (slot_ne (Or.inr (hw _ (List.mem_of_getElem? (i := 61) rfl))) (Or.inr (hw _ (List.mem_of_getElem? (i := 59) rfl))) (by decide) (t := (.object "java/util/Optional")) (by decide) (t' := (.object "java/util/Optional")) (by decide)))
  replace hk := Nat.le_trans hk (Nat.le_of_eq W22.size.symm)
  replace Fb := Fn22
  show OGoes p.tables e below _ (T22.setTop (mkF m 23 #[.val (.ref t), .val (.ref ob), .val (.ref os)] []))
  refine own_st (V := (T22.setTop (mkF m 24 #[.val (.ref t), .val (.ref ob), .val (.ref os)] [(.ref t)]))) (fun t ks => XS.aloadN X22.here hx rfl (hb hby d8_23) rfl rfl ks) ?_
  refine own_st (V := (T22.setTop (mkF m 25 #[.val (.ref t), .val (.ref ob), .val (.ref os)] [(.ref os), (.ref t)]))) (fun t ks => XS.aloadN X22.here hx rfl (hb hby d8_24) rfl rfl ks) ?_
  refine own_putfield X22 hx hZ e22 hown (hw _ (List.mem_of_getElem? (i := 60) rfl)) Fs E (Or.inr ⟨(hw _ (List.mem_of_getElem? (i := 61) rfl)), rfl, hnm⟩) (hw _ (List.mem_of_getElem? (i := 2) rfl)) (ty := (.object "java/util/Optional")) (by decide) rfl rfl N22 (by omega) (hb hby d8_25) ?_
  intro T23 h23 L23 X23 e23 N23 W23 Fn23
  replace K := K.wr W23 (Or.inl (by simp))
  replace E := E.wr W23
  replace hk := Nat.le_trans hk (Nat.le_of_eq W23.size.symm)
  replace Fb := Fb.other W23 (Or.inr (slot_ne (Or.inr (hw _ (List.mem_of_getElem? (i := 59) rfl))) (Or.inr (hw _ (List.mem_of_getElem? (i := 61) rfl))) (by decide) (t := (.object "java/util/Optional")) (by decide) (t' := (.object "java/util/Optional")) (by decide)))
  replace Fs := Fn23
  show OGoes p.tables e below _ (T23.setTop (mkF m 28 #[.val (.ref t), .val (.ref ob), .val (.ref os)] []))
  exact own_retVW X23 hS (by rw [e23]; exact hk) hx hlk hret (hb hby d8_28) (by decide) (by decide) ⟨rfl, N23, by rw [e23]; exact ⟨K, E, Fb, Fs⟩⟩
theorem ef_rmIn00 (m : MethodId) (x0 : Nat) (x1 : Nat) : entryFrame m #[(.ref x0), (.ref x1)] 2 = mkF m 0 #[.val (.ref x0), .val (.ref x1)] [] := by first | (simp [entryFrame, mkF, argsToLocals, Value.category]; done) | rfl
set_option maxRecDepth 65536 in
set_option maxHeartbeats 40000000 in
theorem rmIn00 (l : Launch) (Z : State) (a0 : Array Value) (hw : ∀ d ∈ tables_1, d.before a0 Z = true) (t c1 ob os : Nat) (h0 : Heap) (Fb : Fld Z h0 t "com/example/venuewright/venuewright/model/TradingCapacities" "buyer" "Ljava/util/Optional;" (.ref ob)) (Fs : Fld Z h0 t "com/example/venuewright/venuewright/model/TradingCapacities" "seller" "Ljava/util/Optional;" (.ref os)) (Eb : Exa Z h0 ob "java/util/Optional") (Es : Exa Z h0 os "java/util/Optional") (Vb : Fld Z h0 ob "java/util/Optional" "value" "Ljava/lang/Object;" .null) (Vs : Fld Z h0 os "java/util/Optional" "value" "Ljava/lang/Object;" .null) :
    OPure l Z (⟨"com/example/venuewright/venuewright/model/TradingCapacities", "includes", "(Lcom/example/venuewright/venuewright/model/TradingCapacity;)Z"⟩ : MethodName) prog_78_method_2_code 2 (some .boolean) 1 30 #[(.ref t), (.ref c1)] h0 (some (.int 0)) := by
  refine own_body pf_11 ?_
  intro p e s m below meth c T0 X0 hx hby hml hZ hown hnm hret hlk e0
  replace hown : s.vm.findClass "com/example/venuewright/venuewright/model/TradingCapacities" = some m.cls := hown
  refine own_cast (ef_rmIn00 m (t) (c1)) ?_
  show OGoes p.tables e below _ (T0.setTop (mkF m 0 #[.val (.ref t), .val (.ref c1)] []))
  refine own_st (V := (T0.setTop (mkF m 1 #[.val (.ref t), .val (.ref c1)] [(.ref t)]))) (fun t ks => XS.aloadN X0.here hx rfl (hb hby d11_0) rfl rfl ks) ?_
  refine own_getfield X0 hx hZ e0 hown (hw _ (List.mem_of_getElem? (i := 58) rfl)) Via.refl Fb (hb hby d11_1) ?_
  intro T24 X24 e24
  show OGoes p.tables e below _ (T24.setTop (mkF m 4 #[.val (.ref t), .val (.ref c1)] [(.ref ob)]))
  refine own_st (V := (T24.setTop (mkF m 5 #[.val (.ref t), .val (.ref c1)] [.null, (.ref ob)]))) (fun t ks => XS.aconstNull X24.here hx rfl (hb hby d11_4) ks) ?_
  refine own_callV0 X24 hx hZ hown (hw _ (List.mem_of_getElem? (i := 67) rfl)) (hw _ (List.mem_of_getElem? (i := 68) rfl)) (hw _ (List.mem_of_getElem? (i := 70) rfl)) (hw _ (List.mem_of_getElem? (i := 69) rfl)) (hw _ (List.mem_of_getElem? (i := 10) rfl)) (hw _ (List.mem_of_getElem? (i := 71) rfl)) (by decide) (rmL0 l Z a0 hw ob  h0 Vb) e24 Eb (by rw [hml]; rfl) (argsL := [.null]) (rest := []) pd_0 rfl rfl rfl (W := 0) (Nat.le_of_eq rfl) (hb hby d11_5) (by decide) (by decide) (by decide) (by decide) ?_
  intro T25 X25 e25
  show OGoes p.tables e below _ (T25.setTop (mkF m 8 #[.val (.ref t), .val (.ref c1)] [.null]))
  refine own_st (V := (T25.setTop (mkF m 9 #[.val (.ref t), .val (.ref c1)] [(.ref c1), .null]))) (fun t ks => XS.aloadN X25.here hx rfl (hb hby d11_8) rfl rfl ks) ?_
  refine own_st (V := (T25.setTop (mkF m 12 #[.val (.ref t), .val (.ref c1)] []))) (fun t ks => XT.acmpNo X25.here hx rfl (hb hby d11_9) rfl rfl rfl (XT.aa_eq_f nofun) ks) ?_
  refine own_st (V := (T25.setTop (mkF m 13 #[.val (.ref t), .val (.ref c1)] [(.ref t)]))) (fun t ks => XS.aloadN X25.here hx rfl (hb hby d11_12) rfl rfl ks) ?_
  refine own_getfield X25 hx hZ e25 hown (hw _ (List.mem_of_getElem? (i := 60) rfl)) Via.refl Fs (hb hby d11_13) ?_
  intro T26 X26 e26
  show OGoes p.tables e below _ (T26.setTop (mkF m 16 #[.val (.ref t), .val (.ref c1)] [(.ref os)]))
  refine own_st (V := (T26.setTop (mkF m 17 #[.val (.ref t), .val (.ref c1)] [.null, (.ref os)]))) (fun t ks => XS.aconstNull X26.here hx rfl (hb hby d11_16) ks) ?_
  refine own_callV0 X26 hx hZ hown (hw _ (List.mem_of_getElem? (i := 67) rfl)) (hw _ (List.mem_of_getElem? (i := 68) rfl)) (hw _ (List.mem_of_getElem? (i := 70) rfl)) (hw _ (List.mem_of_getElem? (i := 69) rfl)) (hw _ (List.mem_of_getElem? (i := 10) rfl)) (hw _ (List.mem_of_getElem? (i := 71) rfl)) (by decide) (rmL0 l Z a0 hw os  h0 Vs) e26 Es (by rw [hml]; rfl) (argsL := [.null]) (rest := []) pd_0 rfl rfl rfl (W := 0) (Nat.le_of_eq rfl) (hb hby d11_17) (by decide) (by decide) (by decide) (by decide) ?_
  intro T27 X27 e27
  show OGoes p.tables e below _ (T27.setTop (mkF m 20 #[.val (.ref t), .val (.ref c1)] [.null]))
  refine own_st (V := (T27.setTop (mkF m 21 #[.val (.ref t), .val (.ref c1)] [(.ref c1), .null]))) (fun t ks => XS.aloadN X27.here hx rfl (hb hby d11_20) rfl rfl ks) ?_
  refine own_st (V := (T27.setTop (mkF m 28 #[.val (.ref t), .val (.ref c1)] []))) (fun t ks => XT.acmpYes X27.here hx rfl (pc0 := 21) (pc' := 28) rfl (hb hby d11_21) rfl rfl rfl (XT.aa_ne_t nofun) (by decide) (by decide) ks) ?_
  refine own_st (V := (T27.setTop (mkF m 29 #[.val (.ref t), .val (.ref c1)] [(.int (0 : Int32))]))) (fun t ks => XS.iconst X27.here hx rfl (hb hby d11_28) ks) ?_
  exact own_retN X27 hx hlk (by simp) hret (hb hby d11_29) (by decide) (by decide) ⟨rfl, e27, rfl⟩
theorem ef_rmIn01 (m : MethodId) (x0 : Nat) (x1 : Nat) : entryFrame m #[(.ref x0), (.ref x1)] 2 = mkF m 0 #[.val (.ref x0), .val (.ref x1)] [] := by first | (simp [entryFrame, mkF, argsToLocals, Value.category]; done) | rfl
set_option maxRecDepth 65536 in
set_option maxHeartbeats 40000000 in
theorem rmIn01 (l : Launch) (Z : State) (a0 : Array Value) (hw : ∀ d ∈ tables_1, d.before a0 Z = true) (t c1 ob os x2 : Nat) (h0 : Heap) (Fb : Fld Z h0 t "com/example/venuewright/venuewright/model/TradingCapacities" "buyer" "Ljava/util/Optional;" (.ref ob)) (Fs : Fld Z h0 t "com/example/venuewright/venuewright/model/TradingCapacities" "seller" "Ljava/util/Optional;" (.ref os)) (Eb : Exa Z h0 ob "java/util/Optional") (Es : Exa Z h0 os "java/util/Optional") (Vb : Fld Z h0 ob "java/util/Optional" "value" "Ljava/lang/Object;" .null) (Vs : Fld Z h0 os "java/util/Optional" "value" "Ljava/lang/Object;" (.ref x2)) :
    OPure l Z (⟨"com/example/venuewright/venuewright/model/TradingCapacities", "includes", "(Lcom/example/venuewright/venuewright/model/TradingCapacity;)Z"⟩ : MethodName) prog_78_method_2_code 2 (some .boolean) 1 30 #[(.ref t), (.ref c1)] h0 (some (.int (if x2 = c1 then (1 : Int32) else 0))) := by
  refine own_body pf_11 ?_
  intro p e s m below meth c T0 X0 hx hby hml hZ hown hnm hret hlk e0
  replace hown : s.vm.findClass "com/example/venuewright/venuewright/model/TradingCapacities" = some m.cls := hown
  refine own_cast (ef_rmIn01 m (t) (c1)) ?_
  show OGoes p.tables e below _ (T0.setTop (mkF m 0 #[.val (.ref t), .val (.ref c1)] []))
  refine own_st (V := (T0.setTop (mkF m 1 #[.val (.ref t), .val (.ref c1)] [(.ref t)]))) (fun t ks => XS.aloadN X0.here hx rfl (hb hby d11_0) rfl rfl ks) ?_
  refine own_getfield X0 hx hZ e0 hown (hw _ (List.mem_of_getElem? (i := 58) rfl)) Via.refl Fb (hb hby d11_1) ?_
  intro T28 X28 e28
  show OGoes p.tables e below _ (T28.setTop (mkF m 4 #[.val (.ref t), .val (.ref c1)] [(.ref ob)]))
  refine own_st (V := (T28.setTop (mkF m 5 #[.val (.ref t), .val (.ref c1)] [.null, (.ref ob)]))) (fun t ks => XS.aconstNull X28.here hx rfl (hb hby d11_4) ks) ?_
  refine own_callV0 X28 hx hZ hown (hw _ (List.mem_of_getElem? (i := 67) rfl)) (hw _ (List.mem_of_getElem? (i := 68) rfl)) (hw _ (List.mem_of_getElem? (i := 70) rfl)) (hw _ (List.mem_of_getElem? (i := 69) rfl)) (hw _ (List.mem_of_getElem? (i := 10) rfl)) (hw _ (List.mem_of_getElem? (i := 71) rfl)) (by decide) (rmL0 l Z a0 hw ob  h0 Vb) e28 Eb (by rw [hml]; rfl) (argsL := [.null]) (rest := []) pd_0 rfl rfl rfl (W := 0) (Nat.le_of_eq rfl) (hb hby d11_5) (by decide) (by decide) (by decide) (by decide) ?_
  intro T29 X29 e29
  show OGoes p.tables e below _ (T29.setTop (mkF m 8 #[.val (.ref t), .val (.ref c1)] [.null]))
  refine own_st (V := (T29.setTop (mkF m 9 #[.val (.ref t), .val (.ref c1)] [(.ref c1), .null]))) (fun t ks => XS.aloadN X29.here hx rfl (hb hby d11_8) rfl rfl ks) ?_
  refine own_st (V := (T29.setTop (mkF m 12 #[.val (.ref t), .val (.ref c1)] []))) (fun t ks => XT.acmpNo X29.here hx rfl (hb hby d11_9) rfl rfl rfl (XT.aa_eq_f nofun) ks) ?_
  refine own_st (V := (T29.setTop (mkF m 13 #[.val (.ref t), .val (.ref c1)] [(.ref t)]))) (fun t ks => XS.aloadN X29.here hx rfl (hb hby d11_12) rfl rfl ks) ?_
  refine own_getfield X29 hx hZ e29 hown (hw _ (List.mem_of_getElem? (i := 60) rfl)) Via.refl Fs (hb hby d11_13) ?_
  intro T30 X30 e30
  show OGoes p.tables e below _ (T30.setTop (mkF m 16 #[.val (.ref t), .val (.ref c1)] [(.ref os)]))
  refine own_st (V := (T30.setTop (mkF m 17 #[.val (.ref t), .val (.ref c1)] [.null, (.ref os)]))) (fun t ks => XS.aconstNull X30.here hx rfl (hb hby d11_16) ks) ?_
  refine own_callV0 X30 hx hZ hown (hw _ (List.mem_of_getElem? (i := 67) rfl)) (hw _ (List.mem_of_getElem? (i := 68) rfl)) (hw _ (List.mem_of_getElem? (i := 70) rfl)) (hw _ (List.mem_of_getElem? (i := 69) rfl)) (hw _ (List.mem_of_getElem? (i := 10) rfl)) (hw _ (List.mem_of_getElem? (i := 71) rfl)) (by decide) (rmL1 l Z a0 hw os x2 h0 Vs) e30 Es (by rw [hml]; rfl) (argsL := [.null]) (rest := []) pd_0 rfl rfl rfl (W := 0) (Nat.le_of_eq rfl) (hb hby d11_17) (by decide) (by decide) (by decide) (by decide) ?_
  intro T31 X31 e31
  show OGoes p.tables e below _ (T31.setTop (mkF m 20 #[.val (.ref t), .val (.ref c1)] [(.ref x2)]))
  refine own_st (V := (T31.setTop (mkF m 21 #[.val (.ref t), .val (.ref c1)] [(.ref c1), (.ref x2)]))) (fun t ks => XS.aloadN X31.here hx rfl (hb hby d11_20) rfl rfl ks) ?_
  by_cases g2 : x2 = c1
  · refine own_st (V := (T31.setTop (mkF m 24 #[.val (.ref t), .val (.ref c1)] []))) (fun t ks => XT.acmpNo X31.here hx rfl (hb hby d11_21) rfl rfl rfl (own_aa_ne_f g2) ks) ?_
    refine own_st (V := (T31.setTop (mkF m 25 #[.val (.ref t), .val (.ref c1)] [(.int (1 : Int32))]))) (fun t ks => XS.iconst X31.here hx rfl (hb hby d11_24) ks) ?_
    refine own_st (V := (T31.setTop (mkF m 29 #[.val (.ref t), .val (.ref c1)] [(.int (1 : Int32))]))) (fun t ks => XS.goto X31.here hx rfl (pc0 := 25) (pc' := 29) rfl (hb hby d11_25) (by decide) (by decide) ks) ?_
    exact own_retN X31 hx hlk (by simp) hret (hb hby d11_29) (by decide) (by decide) ⟨by rw [if_pos g2]; rfl, e31, rfl⟩
  · refine own_st (V := (T31.setTop (mkF m 28 #[.val (.ref t), .val (.ref c1)] []))) (fun t ks => XT.acmpYes X31.here hx rfl (pc0 := 21) (pc' := 28) rfl (hb hby d11_21) rfl rfl rfl (own_aa_ne_t g2) (by decide) (by decide) ks) ?_
    refine own_st (V := (T31.setTop (mkF m 29 #[.val (.ref t), .val (.ref c1)] [(.int (0 : Int32))]))) (fun t ks => XS.iconst X31.here hx rfl (hb hby d11_28) ks) ?_
    exact own_retN X31 hx hlk (by simp) hret (hb hby d11_29) (by decide) (by decide) ⟨by rw [if_neg g2]; rfl, e31, rfl⟩
theorem ef_rmIn10 (m : MethodId) (x0 : Nat) (x1 : Nat) : entryFrame m #[(.ref x0), (.ref x1)] 2 = mkF m 0 #[.val (.ref x0), .val (.ref x1)] [] := by first | (simp [entryFrame, mkF, argsToLocals, Value.category]; done) | rfl
set_option maxRecDepth 65536 in
set_option maxHeartbeats 40000000 in
theorem rmIn10 (l : Launch) (Z : State) (a0 : Array Value) (hw : ∀ d ∈ tables_1, d.before a0 Z = true) (t c1 ob os x1 : Nat) (h0 : Heap) (Fb : Fld Z h0 t "com/example/venuewright/venuewright/model/TradingCapacities" "buyer" "Ljava/util/Optional;" (.ref ob)) (Fs : Fld Z h0 t "com/example/venuewright/venuewright/model/TradingCapacities" "seller" "Ljava/util/Optional;" (.ref os)) (Eb : Exa Z h0 ob "java/util/Optional") (Es : Exa Z h0 os "java/util/Optional") (Vb : Fld Z h0 ob "java/util/Optional" "value" "Ljava/lang/Object;" (.ref x1)) (Vs : Fld Z h0 os "java/util/Optional" "value" "Ljava/lang/Object;" .null) :
    OPure l Z (⟨"com/example/venuewright/venuewright/model/TradingCapacities", "includes", "(Lcom/example/venuewright/venuewright/model/TradingCapacity;)Z"⟩ : MethodName) prog_78_method_2_code 2 (some .boolean) 1 30 #[(.ref t), (.ref c1)] h0 (some (.int (if x1 = c1 then (1 : Int32) else 0))) := by
  refine own_body pf_11 ?_
  intro p e s m below meth c T0 X0 hx hby hml hZ hown hnm hret hlk e0
  replace hown : s.vm.findClass "com/example/venuewright/venuewright/model/TradingCapacities" = some m.cls := hown
  refine own_cast (ef_rmIn10 m (t) (c1)) ?_
  show OGoes p.tables e below _ (T0.setTop (mkF m 0 #[.val (.ref t), .val (.ref c1)] []))
  refine own_st (V := (T0.setTop (mkF m 1 #[.val (.ref t), .val (.ref c1)] [(.ref t)]))) (fun t ks => XS.aloadN X0.here hx rfl (hb hby d11_0) rfl rfl ks) ?_
  refine own_getfield X0 hx hZ e0 hown (hw _ (List.mem_of_getElem? (i := 58) rfl)) Via.refl Fb (hb hby d11_1) ?_
  intro T32 X32 e32
  show OGoes p.tables e below _ (T32.setTop (mkF m 4 #[.val (.ref t), .val (.ref c1)] [(.ref ob)]))
  refine own_st (V := (T32.setTop (mkF m 5 #[.val (.ref t), .val (.ref c1)] [.null, (.ref ob)]))) (fun t ks => XS.aconstNull X32.here hx rfl (hb hby d11_4) ks) ?_
  refine own_callV0 X32 hx hZ hown (hw _ (List.mem_of_getElem? (i := 67) rfl)) (hw _ (List.mem_of_getElem? (i := 68) rfl)) (hw _ (List.mem_of_getElem? (i := 70) rfl)) (hw _ (List.mem_of_getElem? (i := 69) rfl)) (hw _ (List.mem_of_getElem? (i := 10) rfl)) (hw _ (List.mem_of_getElem? (i := 71) rfl)) (by decide) (rmL1 l Z a0 hw ob x1 h0 Vb) e32 Eb (by rw [hml]; rfl) (argsL := [.null]) (rest := []) pd_0 rfl rfl rfl (W := 0) (Nat.le_of_eq rfl) (hb hby d11_5) (by decide) (by decide) (by decide) (by decide) ?_
  intro T33 X33 e33
  show OGoes p.tables e below _ (T33.setTop (mkF m 8 #[.val (.ref t), .val (.ref c1)] [(.ref x1)]))
  refine own_st (V := (T33.setTop (mkF m 9 #[.val (.ref t), .val (.ref c1)] [(.ref c1), (.ref x1)]))) (fun t ks => XS.aloadN X33.here hx rfl (hb hby d11_8) rfl rfl ks) ?_
  by_cases g1 : x1 = c1
  · refine own_st (V := (T33.setTop (mkF m 24 #[.val (.ref t), .val (.ref c1)] []))) (fun t ks => XT.acmpYes X33.here hx rfl (pc0 := 9) (pc' := 24) rfl (hb hby d11_9) rfl rfl rfl (own_aa_eq_t g1) (by decide) (by decide) ks) ?_
    refine own_st (V := (T33.setTop (mkF m 25 #[.val (.ref t), .val (.ref c1)] [(.int (1 : Int32))]))) (fun t ks => XS.iconst X33.here hx rfl (hb hby d11_24) ks) ?_
    refine own_st (V := (T33.setTop (mkF m 29 #[.val (.ref t), .val (.ref c1)] [(.int (1 : Int32))]))) (fun t ks => XS.goto X33.here hx rfl (pc0 := 25) (pc' := 29) rfl (hb hby d11_25) (by decide) (by decide) ks) ?_
    exact own_retN X33 hx hlk (by simp) hret (hb hby d11_29) (by decide) (by decide) ⟨by rw [if_pos g1]; rfl, e33, rfl⟩
  · refine own_st (V := (T33.setTop (mkF m 12 #[.val (.ref t), .val (.ref c1)] []))) (fun t ks => XT.acmpNo X33.here hx rfl (hb hby d11_9) rfl rfl rfl (own_aa_eq_f g1) ks) ?_
    refine own_st (V := (T33.setTop (mkF m 13 #[.val (.ref t), .val (.ref c1)] [(.ref t)]))) (fun t ks => XS.aloadN X33.here hx rfl (hb hby d11_12) rfl rfl ks) ?_
    refine own_getfield X33 hx hZ e33 hown (hw _ (List.mem_of_getElem? (i := 60) rfl)) Via.refl Fs (hb hby d11_13) ?_
    intro T34 X34 e34
    show OGoes p.tables e below _ (T34.setTop (mkF m 16 #[.val (.ref t), .val (.ref c1)] [(.ref os)]))
    refine own_st (V := (T34.setTop (mkF m 17 #[.val (.ref t), .val (.ref c1)] [.null, (.ref os)]))) (fun t ks => XS.aconstNull X34.here hx rfl (hb hby d11_16) ks) ?_
    refine own_callV0 X34 hx hZ hown (hw _ (List.mem_of_getElem? (i := 67) rfl)) (hw _ (List.mem_of_getElem? (i := 68) rfl)) (hw _ (List.mem_of_getElem? (i := 70) rfl)) (hw _ (List.mem_of_getElem? (i := 69) rfl)) (hw _ (List.mem_of_getElem? (i := 10) rfl)) (hw _ (List.mem_of_getElem? (i := 71) rfl)) (by decide) (rmL0 l Z a0 hw os  h0 Vs) e34 Es (by rw [hml]; rfl) (argsL := [.null]) (rest := []) pd_0 rfl rfl rfl (W := 0) (Nat.le_of_eq rfl) (hb hby d11_17) (by decide) (by decide) (by decide) (by decide) ?_
    intro T35 X35 e35
    show OGoes p.tables e below _ (T35.setTop (mkF m 20 #[.val (.ref t), .val (.ref c1)] [.null]))
    refine own_st (V := (T35.setTop (mkF m 21 #[.val (.ref t), .val (.ref c1)] [(.ref c1), .null]))) (fun t ks => XS.aloadN X35.here hx rfl (hb hby d11_20) rfl rfl ks) ?_
    refine own_st (V := (T35.setTop (mkF m 28 #[.val (.ref t), .val (.ref c1)] []))) (fun t ks => XT.acmpYes X35.here hx rfl (pc0 := 21) (pc' := 28) rfl (hb hby d11_21) rfl rfl rfl (XT.aa_ne_t nofun) (by decide) (by decide) ks) ?_
    refine own_st (V := (T35.setTop (mkF m 29 #[.val (.ref t), .val (.ref c1)] [(.int (0 : Int32))]))) (fun t ks => XS.iconst X35.here hx rfl (hb hby d11_28) ks) ?_
    exact own_retN X35 hx hlk (by simp) hret (hb hby d11_29) (by decide) (by decide) ⟨by rw [if_neg g1]; rfl, e35, rfl⟩
theorem ef_rmIn11 (m : MethodId) (x0 : Nat) (x1 : Nat) : entryFrame m #[(.ref x0), (.ref x1)] 2 = mkF m 0 #[.val (.ref x0), .val (.ref x1)] [] := by first | (simp [entryFrame, mkF, argsToLocals, Value.category]; done) | rfl
set_option maxRecDepth 65536 in
set_option maxHeartbeats 40000000 in
theorem rmIn11 (l : Launch) (Z : State) (a0 : Array Value) (hw : ∀ d ∈ tables_1, d.before a0 Z = true) (t c1 ob os x1 x2 : Nat) (h0 : Heap) (Fb : Fld Z h0 t "com/example/venuewright/venuewright/model/TradingCapacities" "buyer" "Ljava/util/Optional;" (.ref ob)) (Fs : Fld Z h0 t "com/example/venuewright/venuewright/model/TradingCapacities" "seller" "Ljava/util/Optional;" (.ref os)) (Eb : Exa Z h0 ob "java/util/Optional") (Es : Exa Z h0 os "java/util/Optional") (Vb : Fld Z h0 ob "java/util/Optional" "value" "Ljava/lang/Object;" (.ref x1)) (Vs : Fld Z h0 os "java/util/Optional" "value" "Ljava/lang/Object;" (.ref x2)) :
    OPure l Z (⟨"com/example/venuewright/venuewright/model/TradingCapacities", "includes", "(Lcom/example/venuewright/venuewright/model/TradingCapacity;)Z"⟩ : MethodName) prog_78_method_2_code 2 (some .boolean) 1 30 #[(.ref t), (.ref c1)] h0 (some (.int (if x1 = c1 ∨ x2 = c1 then (1 : Int32) else 0))) := by
  refine own_body pf_11 ?_
  intro p e s m below meth c T0 X0 hx hby hml hZ hown hnm hret hlk e0
  replace hown : s.vm.findClass "com/example/venuewright/venuewright/model/TradingCapacities" = some m.cls := hown
  refine own_cast (ef_rmIn11 m (t) (c1)) ?_
  show OGoes p.tables e below _ (T0.setTop (mkF m 0 #[.val (.ref t), .val (.ref c1)] []))
  refine own_st (V := (T0.setTop (mkF m 1 #[.val (.ref t), .val (.ref c1)] [(.ref t)]))) (fun t ks => XS.aloadN X0.here hx rfl (hb hby d11_0) rfl rfl ks) ?_
  refine own_getfield X0 hx hZ e0 hown (hw _ (List.mem_of_getElem? (i := 58) rfl)) Via.refl Fb (hb hby d11_1) ?_
  intro T36 X36 e36
  show OGoes p.tables e below _ (T36.setTop (mkF m 4 #[.val (.ref t), .val (.ref c1)] [(.ref ob)]))
  refine own_st (V := (T36.setTop (mkF m 5 #[.val (.ref t), .val (.ref c1)] [.null, (.ref ob)]))) (fun t ks => XS.aconstNull X36.here hx rfl (hb hby d11_4) ks) ?_
  refine own_callV0 X36 hx hZ hown (hw _ (List.mem_of_getElem? (i := 67) rfl)) (hw _ (List.mem_of_getElem? (i := 68) rfl)) (hw _ (List.mem_of_getElem? (i := 70) rfl)) (hw _ (List.mem_of_getElem? (i := 69) rfl)) (hw _ (List.mem_of_getElem? (i := 10) rfl)) (hw _ (List.mem_of_getElem? (i := 71) rfl)) (by decide) (rmL1 l Z a0 hw ob x1 h0 Vb) e36 Eb (by rw [hml]; rfl) (argsL := [.null]) (rest := []) pd_0 rfl rfl rfl (W := 0) (Nat.le_of_eq rfl) (hb hby d11_5) (by decide) (by decide) (by decide) (by decide) ?_
  intro T37 X37 e37
  show OGoes p.tables e below _ (T37.setTop (mkF m 8 #[.val (.ref t), .val (.ref c1)] [(.ref x1)]))
  refine own_st (V := (T37.setTop (mkF m 9 #[.val (.ref t), .val (.ref c1)] [(.ref c1), (.ref x1)]))) (fun t ks => XS.aloadN X37.here hx rfl (hb hby d11_8) rfl rfl ks) ?_
  by_cases g1 : x1 = c1
  · refine own_st (V := (T37.setTop (mkF m 24 #[.val (.ref t), .val (.ref c1)] []))) (fun t ks => XT.acmpYes X37.here hx rfl (pc0 := 9) (pc' := 24) rfl (hb hby d11_9) rfl rfl rfl (own_aa_eq_t g1) (by decide) (by decide) ks) ?_
    refine own_st (V := (T37.setTop (mkF m 25 #[.val (.ref t), .val (.ref c1)] [(.int (1 : Int32))]))) (fun t ks => XS.iconst X37.here hx rfl (hb hby d11_24) ks) ?_
    refine own_st (V := (T37.setTop (mkF m 29 #[.val (.ref t), .val (.ref c1)] [(.int (1 : Int32))]))) (fun t ks => XS.goto X37.here hx rfl (pc0 := 25) (pc' := 29) rfl (hb hby d11_25) (by decide) (by decide) ks) ?_
    exact own_retN X37 hx hlk (by simp) hret (hb hby d11_29) (by decide) (by decide) ⟨by rw [if_pos (Or.inl g1)]; rfl, e37, rfl⟩
  · refine own_st (V := (T37.setTop (mkF m 12 #[.val (.ref t), .val (.ref c1)] []))) (fun t ks => XT.acmpNo X37.here hx rfl (hb hby d11_9) rfl rfl rfl (own_aa_eq_f g1) ks) ?_
    refine own_st (V := (T37.setTop (mkF m 13 #[.val (.ref t), .val (.ref c1)] [(.ref t)]))) (fun t ks => XS.aloadN X37.here hx rfl (hb hby d11_12) rfl rfl ks) ?_
    refine own_getfield X37 hx hZ e37 hown (hw _ (List.mem_of_getElem? (i := 60) rfl)) Via.refl Fs (hb hby d11_13) ?_
    intro T38 X38 e38
    show OGoes p.tables e below _ (T38.setTop (mkF m 16 #[.val (.ref t), .val (.ref c1)] [(.ref os)]))
    refine own_st (V := (T38.setTop (mkF m 17 #[.val (.ref t), .val (.ref c1)] [.null, (.ref os)]))) (fun t ks => XS.aconstNull X38.here hx rfl (hb hby d11_16) ks) ?_
    refine own_callV0 X38 hx hZ hown (hw _ (List.mem_of_getElem? (i := 67) rfl)) (hw _ (List.mem_of_getElem? (i := 68) rfl)) (hw _ (List.mem_of_getElem? (i := 70) rfl)) (hw _ (List.mem_of_getElem? (i := 69) rfl)) (hw _ (List.mem_of_getElem? (i := 10) rfl)) (hw _ (List.mem_of_getElem? (i := 71) rfl)) (by decide) (rmL1 l Z a0 hw os x2 h0 Vs) e38 Es (by rw [hml]; rfl) (argsL := [.null]) (rest := []) pd_0 rfl rfl rfl (W := 0) (Nat.le_of_eq rfl) (hb hby d11_17) (by decide) (by decide) (by decide) (by decide) ?_
    intro T39 X39 e39
    show OGoes p.tables e below _ (T39.setTop (mkF m 20 #[.val (.ref t), .val (.ref c1)] [(.ref x2)]))
    refine own_st (V := (T39.setTop (mkF m 21 #[.val (.ref t), .val (.ref c1)] [(.ref c1), (.ref x2)]))) (fun t ks => XS.aloadN X39.here hx rfl (hb hby d11_20) rfl rfl ks) ?_
    by_cases g2 : x2 = c1
    · refine own_st (V := (T39.setTop (mkF m 24 #[.val (.ref t), .val (.ref c1)] []))) (fun t ks => XT.acmpNo X39.here hx rfl (hb hby d11_21) rfl rfl rfl (own_aa_ne_f g2) ks) ?_
      refine own_st (V := (T39.setTop (mkF m 25 #[.val (.ref t), .val (.ref c1)] [(.int (1 : Int32))]))) (fun t ks => XS.iconst X39.here hx rfl (hb hby d11_24) ks) ?_
      refine own_st (V := (T39.setTop (mkF m 29 #[.val (.ref t), .val (.ref c1)] [(.int (1 : Int32))]))) (fun t ks => XS.goto X39.here hx rfl (pc0 := 25) (pc' := 29) rfl (hb hby d11_25) (by decide) (by decide) ks) ?_
      exact own_retN X39 hx hlk (by simp) hret (hb hby d11_29) (by decide) (by decide) ⟨by rw [if_pos (Or.inr g2)]; rfl, e39, rfl⟩
    · refine own_st (V := (T39.setTop (mkF m 28 #[.val (.ref t), .val (.ref c1)] []))) (fun t ks => XT.acmpYes X39.here hx rfl (pc0 := 21) (pc' := 28) rfl (hb hby d11_21) rfl rfl rfl (own_aa_ne_t g2) (by decide) (by decide) ks) ?_
      refine own_st (V := (T39.setTop (mkF m 29 #[.val (.ref t), .val (.ref c1)] [(.int (0 : Int32))]))) (fun t ks => XS.iconst X39.here hx rfl (hb hby d11_28) ks) ?_
      exact own_retN X39 hx hlk (by simp) hret (hb hby d11_29) (by decide) (by decide) ⟨by rw [if_neg (fun q => q.elim g1 g2)]; rfl, e39, rfl⟩
theorem ef_rm0 (m : MethodId) (x0 : Int32) (x1 : Int32) (x2 : Int32) : entryFrame m #[(.int x0), (.int x1), (.int x2)] maxLocals = mkF m 0 #[.val (.int x0), .val (.int x1), .val (.int x2), .unset, .unset, .unset, .unset, .unset, .unset] [] := by first | (simp [entryFrame, mkF, argsToLocals, Value.category, maxLocals]; done) | rfl
set_option maxRecDepth 65536 in
set_option maxHeartbeats 40000000 in
theorem rm0 (l : Launch) (Z : State) (a0 : Array Value) (hw : ∀ d ∈ tables_1, d.before a0 Z = true) (p1 p2 p3 : Int32) (wD wM wA wE : Nat) (n1 : ¬ wD = wM) (n2 : ¬ wD = wA) (n3 : ¬ wM = wA) (h0 : Heap) (hO : Ext Z.heap h0) (S_wD : Sta Z Z.heap "com/example/venuewright/venuewright/model/TradingCapacity" "DEAL" "Lcom/example/venuewright/venuewright/model/TradingCapacity;" (.ref wD)) (S_wM : Sta Z Z.heap "com/example/venuewright/venuewright/model/TradingCapacity" "MTCH" "Lcom/example/venuewright/venuewright/model/TradingCapacity;" (.ref wM)) (S_wA : Sta Z Z.heap "com/example/venuewright/venuewright/model/TradingCapacity" "AOTC" "Lcom/example/venuewright/venuewright/model/TradingCapacity;" (.ref wA)) (SE : Sta Z Z.heap "java/util/Optional" "EMPTY" "Ljava/util/Optional;" (.ref wE)) (EE : Exa Z Z.heap wE "java/util/Optional") (VE : Fld Z Z.heap wE "java/util/Optional" "value" "Ljava/lang/Object;" .null) :
    OMetW l Z x code maxLocals ret room_1 #[(.int p1), (.int p2), (.int p3)] h0 (fun v h L => v = some (.int 1) ∧ Fr Z.heap.size L) := by
  refine own_bodyW pf_0 ?_
  intro p e s vm0 k0 m below meth c T0 X0 hS hk hx hby hml hZ hown hnm hret hlk e0 hs0
  replace hown : (s.setVm vm0).vm.findClass "com/example/venuewright/venuewright/model/TradingCapacitiesIncludesPinLaw" = some m.cls := hown
  refine own_cast (ef_rm0 m (p1) (p2) (p3)) ?_
  show OGoes p.tables e below _ (T0.setTop (mkF m 0 #[.val (.int p1), .val (.int p2), .val (.int p3), .unset, .unset, .unset, .unset, .unset, .unset] []))
  refine own_st (V := (T0.setTop (mkF m 1 #[.val (.int p1), .val (.int p2), .val (.int p3), .unset, .unset, .unset, .unset, .unset, .unset] [(.int p1)]))) (fun t ks => XS.iloadN X0.here hx rfl (hb hby at_0) rfl ks) ?_
  refine own_st (V := (T0.setTop (mkF m 2 #[.val (.int p1), .val (.int p2), .val (.int p3), .unset, .unset, .unset, .unset, .unset, .unset] [(.int (3 : Int32)), (.int p1)]))) (fun t ks => XS.iconst X0.here hx rfl (hb hby at_1) ks) ?_
  refine own_st (V := (T0.setTop (mkF m 3 #[.val (.int p1), .val (.int p2), .val (.int p3), .unset, .unset, .unset, .unset, .unset, .unset] [(.int (p1 &&& (3 : Int32)))]))) (fun t ks => XS.iand X0.here hx rfl (hb hby at_2) rfl ks) ?_
  refine own_st (V := (T0.setTop (mkF m 4 #[.val (.int p1), .val (.int p2), .val (.int p3), .val (.int (p1 &&& (3 : Int32))), .unset, .unset, .unset, .unset, .unset] []))) (fun t ks => XS.istoreN X0.here hx rfl (hb hby at_3) rfl (l' := #[.val (.int p1), .val (.int p2), .val (.int p3), .val (.int (p1 &&& (3 : Int32))), .unset, .unset, .unset, .unset, .unset]) rfl ks) ?_
  refine own_st (V := (T0.setTop (mkF m 5 #[.val (.int p1), .val (.int p2), .val (.int p3), .val (.int (p1 &&& (3 : Int32))), .unset, .unset, .unset, .unset, .unset] [(.int p2)]))) (fun t ks => XS.iloadN X0.here hx rfl (hb hby at_4) rfl ks) ?_
  refine own_st (V := (T0.setTop (mkF m 6 #[.val (.int p1), .val (.int p2), .val (.int p3), .val (.int (p1 &&& (3 : Int32))), .unset, .unset, .unset, .unset, .unset] [(.int (3 : Int32)), (.int p2)]))) (fun t ks => XS.iconst X0.here hx rfl (hb hby at_5) ks) ?_
  refine own_st (V := (T0.setTop (mkF m 7 #[.val (.int p1), .val (.int p2), .val (.int p3), .val (.int (p1 &&& (3 : Int32))), .unset, .unset, .unset, .unset, .unset] [(.int (p2 &&& (3 : Int32)))]))) (fun t ks => XS.iand X0.here hx rfl (hb hby at_6) rfl ks) ?_
  refine own_st (V := (T0.setTop (mkF m 9 #[.val (.int p1), .val (.int p2), .val (.int p3), .val (.int (p1 &&& (3 : Int32))), .val (.int (p2 &&& (3 : Int32))), .unset, .unset, .unset, .unset] []))) (fun t ks => XS.istore X0.here hx rfl (hb hby at_7) rfl (l' := #[.val (.int p1), .val (.int p2), .val (.int p3), .val (.int (p1 &&& (3 : Int32))), .val (.int (p2 &&& (3 : Int32))), .unset, .unset, .unset, .unset]) rfl ks) ?_
  refine own_st (V := (T0.setTop (mkF m 10 #[.val (.int p1), .val (.int p2), .val (.int p3), .val (.int (p1 &&& (3 : Int32))), .val (.int (p2 &&& (3 : Int32))), .unset, .unset, .unset, .unset] [(.int p3)]))) (fun t ks => XS.iloadN X0.here hx rfl (hb hby at_9) rfl ks) ?_
  refine own_st (V := (T0.setTop (mkF m 12 #[.val (.int p1), .val (.int p2), .val (.int p3), .val (.int (p1 &&& (3 : Int32))), .val (.int (p2 &&& (3 : Int32))), .unset, .unset, .unset, .unset] [(.int (2147483647 : Int32)), (.int p3)]))) (fun t ks => X0.ldcInt hx hown (mvT hZ (hw _ (List.mem_of_getElem? (i := 0) rfl))) (g := (mkF m 10 #[.val (.int p1), .val (.int p2), .val (.int p3), .val (.int (p1 &&& (3 : Int32))), .val (.int (p2 &&& (3 : Int32))), .unset, .unset, .unset, .unset] [(.int p3)])) rfl (hb hby at_10) t ks) ?_
  refine own_st (V := (T0.setTop (mkF m 13 #[.val (.int p1), .val (.int p2), .val (.int p3), .val (.int (p1 &&& (3 : Int32))), .val (.int (p2 &&& (3 : Int32))), .unset, .unset, .unset, .unset] [(.int (p3 &&& (2147483647 : Int32)))]))) (fun t ks => XS.iand X0.here hx rfl (hb hby at_12) rfl ks) ?_
  refine own_st (V := (T0.setTop (mkF m 14 #[.val (.int p1), .val (.int p2), .val (.int p3), .val (.int (p1 &&& (3 : Int32))), .val (.int (p2 &&& (3 : Int32))), .unset, .unset, .unset, .unset] [(.int (3 : Int32)), (.int (p3 &&& (2147483647 : Int32)))]))) (fun t ks => XS.iconst X0.here hx rfl (hb hby at_13) ks) ?_
  refine own_st (V := (T0.setTop (mkF m 15 #[.val (.int p1), .val (.int p2), .val (.int p3), .val (.int (p1 &&& (3 : Int32))), .val (.int (p2 &&& (3 : Int32))), .unset, .unset, .unset, .unset] [(.int ((p3 &&& (2147483647 : Int32)) % (3 : Int32)))]))) (fun t ks => iremM X0 hx rfl (hb hby at_14) rfl (by decide) ks) ?_
  refine own_st (V := (T0.setTop (mkF m 17 #[.val (.int p1), .val (.int p2), .val (.int p3), .val (.int (p1 &&& (3 : Int32))), .val (.int (p2 &&& (3 : Int32))), .val (.int ((p3 &&& (2147483647 : Int32)) % (3 : Int32))), .unset, .unset, .unset] []))) (fun t ks => XS.istore X0.here hx rfl (hb hby at_15) rfl (l' := #[.val (.int p1), .val (.int p2), .val (.int p3), .val (.int (p1 &&& (3 : Int32))), .val (.int (p2 &&& (3 : Int32))), .val (.int ((p3 &&& (2147483647 : Int32)) % (3 : Int32))), .unset, .unset, .unset]) rfl ks) ?_
  have lt_Z := hO.1
  refine own_new X0 hx hZ e0 hown (hw _ (List.mem_of_getElem? (i := 1) rfl)) (hw _ (List.mem_of_getElem? (i := 2) rfl)) (hw _ (List.mem_of_getElem? (i := 3) rfl)) (by decide) (by decide) (hb hby at_17) ?_
  intro T40 h40 b40 X40 e40 Ex40 g40 Et D40
  replace hk := Nat.le_trans hk Ex40.1
  replace hO := own_ext_trans hO Ex40
  have ltn_40 : @LT.lt Nat _ b40 h40.size := Et.lt
  have t_buyer := D40 (Or.inr (hw _ (List.mem_of_getElem? (i := 59) rfl))) (ty := (.object "java/util/Optional")) (by decide)
  have t_seller := D40 (Or.inr (hw _ (List.mem_of_getElem? (i := 61) rfl))) (ty := (.object "java/util/Optional")) (by decide)
  clear D40
  show OGoes p.tables e below _ (T40.setTop (mkF m 20 #[.val (.int p1), .val (.int p2), .val (.int p3), .val (.int (p1 &&& (3 : Int32))), .val (.int (p2 &&& (3 : Int32))), .val (.int ((p3 &&& (2147483647 : Int32)) % (3 : Int32))), .unset, .unset, .unset] [(.ref b40)]))
  refine own_st (V := (T40.setTop (mkF m 21 #[.val (.int p1), .val (.int p2), .val (.int p3), .val (.int (p1 &&& (3 : Int32))), .val (.int (p2 &&& (3 : Int32))), .val (.int ((p3 &&& (2147483647 : Int32)) % (3 : Int32))), .unset, .unset, .unset] [(.ref b40), (.ref b40)]))) (fun t ks => XS.dup X40.here hx rfl (hb hby at_20) rfl rfl ks) ?_
  refine own_st (V := (T40.setTop (mkF m 22 #[.val (.int p1), .val (.int p2), .val (.int p3), .val (.int (p1 &&& (3 : Int32))), .val (.int (p2 &&& (3 : Int32))), .val (.int ((p3 &&& (2147483647 : Int32)) % (3 : Int32))), .unset, .unset, .unset] [(.int (p1 &&& (3 : Int32))), (.ref b40), (.ref b40)]))) (fun t ks => XS.iloadN X40.here hx rfl (hb hby at_21) rfl ks) ?_
  by_cases gb : (p1 &&& (3 : Int32)) = 0
  · refine own_callS X40 hx hZ hown (hw _ (List.mem_of_getElem? (i := 4) rfl)) (hw _ (List.mem_of_getElem? (i := 5) rfl)) (hw _ (List.mem_of_getElem? (i := 6) rfl)) (hw _ (List.mem_of_getElem? (i := 7) rfl)) (by decide) (rmO0 l Z a0 hw (p1 &&& (3 : Int32)) wE gb h40 hO SE EE VE) e40 (by rw [hml]; rfl) (argsL := [(.int (p1 &&& (3 : Int32)))]) (rest := [(.ref b40), (.ref b40)]) pd_7 rfl rfl rfl (W := 2) (Nat.le_of_eq rfl) (hb hby at_22) (by decide) (by decide) (by decide) (by decide) ?_
    rintro v41 T41 L41 X41 ⟨N41, K41, ob, rfl, Eb, Vb⟩
    replace N41 := Fr.app (Fr.nil Z.heap.size) N41
    show OGoes p.tables e below _ (T41.setTop (mkF m 25 #[.val (.int p1), .val (.int p2), .val (.int p3), .val (.int (p1 &&& (3 : Int32))), .val (.int (p2 &&& (3 : Int32))), .val (.int ((p3 &&& (2147483647 : Int32)) % (3 : Int32))), .unset, .unset, .unset] [(.ref ob), (.ref b40), (.ref b40)]))
    replace hk := Nat.le_trans hk K41.1
    replace hO := own_old_keep hO K41 all0
    replace Et := Et.keep K41
    replace t_buyer := t_buyer.keep K41 nin0
    replace t_seller := t_seller.keep K41 nin0
    refine own_st (V := (T41.setTop (mkF m 27 #[.val (.int p1), .val (.int p2), .val (.int p3), .val (.int (p1 &&& (3 : Int32))), .val (.int (p2 &&& (3 : Int32))), .val (.int ((p3 &&& (2147483647 : Int32)) % (3 : Int32))), .unset, .unset, .unset] [(.int (p2 &&& (3 : Int32))), (.ref ob), (.ref b40), (.ref b40)]))) (fun t ks => XS.iload X41.here hx rfl (hb hby at_25) rfl ks) ?_
    by_cases gs : (p2 &&& (3 : Int32)) = 0
    · refine own_callS X41 hx hZ hown (hw _ (List.mem_of_getElem? (i := 4) rfl)) (hw _ (List.mem_of_getElem? (i := 5) rfl)) (hw _ (List.mem_of_getElem? (i := 6) rfl)) (hw _ (List.mem_of_getElem? (i := 7) rfl)) (by decide) (rmO0 l Z a0 hw (p2 &&& (3 : Int32)) wE gs T41.heap hO SE EE VE) rfl (by rw [hml]; rfl) (argsL := [(.int (p2 &&& (3 : Int32)))]) (rest := [(.ref ob), (.ref b40), (.ref b40)]) pd_7 rfl rfl rfl (W := 3) (Nat.le_of_eq rfl) (hb hby at_27) (by decide) (by decide) (by decide) (by decide) ?_
      rintro v42 T42 L42 X42 ⟨N42, K42, os, rfl, Es, Vs⟩
      replace N42 := Fr.app N41 N42
      show OGoes p.tables e below _ (T42.setTop (mkF m 30 #[.val (.int p1), .val (.int p2), .val (.int p3), .val (.int (p1 &&& (3 : Int32))), .val (.int (p2 &&& (3 : Int32))), .val (.int ((p3 &&& (2147483647 : Int32)) % (3 : Int32))), .unset, .unset, .unset] [(.ref os), (.ref ob), (.ref b40), (.ref b40)]))
      replace hk := Nat.le_trans hk K42.1
      replace hO := own_old_keep hO K42 all0
      replace Et := Et.keep K42
      replace t_buyer := t_buyer.keep K42 nin0
      replace t_seller := t_seller.keep K42 nin0
      replace Eb := Eb.keep K42
      replace Vb := Vb.keep K42 nin0
      have szO := hO.1
      have neb : @Ne Addr ob b40 := ne_exa Eb Et (by decide)
      have nes : @Ne Addr os b40 := ne_exa Es Et (by decide)
      refine own_callNW X42 hx hZ hS hk rfl hown (hw _ (List.mem_of_getElem? (i := 37) rfl)) (hw _ (List.mem_of_getElem? (i := 38) rfl)) (hw _ (List.mem_of_getElem? (i := 3) rfl)) (hw _ (List.mem_of_getElem? (i := 39) rfl)) (by decide) (rmTI l Z a0 hw b40 ob os T42.heap Et t_buyer t_seller (by omega)) rfl (by rw [hml]; rfl) (argsL := [(.ref ob), (.ref os)]) (rest := [(.ref b40)]) pd_8 rfl rfl rfl (W := 1) (Nat.le_of_eq rfl) (hb hby at_30) (by decide) (by decide) (by decide) (by decide) ?_
      rintro v43 T43 L43 X43 hS hZ hown ⟨rfl, N43, K43, Et, Fb, Fs⟩
      have hk := Nat.le_refl T43.heap.size
      replace N43 := Fr.app N42 N43
      show OGoes p.tables e below _ (T43.setTop (mkF m 33 #[.val (.int p1), .val (.int p2), .val (.int p3), .val (.int (p1 &&& (3 : Int32))), .val (.int (p2 &&& (3 : Int32))), .val (.int ((p3 &&& (2147483647 : Int32)) % (3 : Int32))), .unset, .unset, .unset] [(.ref b40)]))
      replace hO := own_old_keep hO K43 (allS (by omega) all0)
      replace Eb := Eb.keep K43
      replace Es := Es.keep K43
      replace Vb := Vb.keep K43 (ninS neb nin0)
      replace Vs := Vs.keep K43 (ninS nes nin0)
      refine own_st (V := (T43.setTop (mkF m 35 #[.val (.int p1), .val (.int p2), .val (.int p3), .val (.int (p1 &&& (3 : Int32))), .val (.int (p2 &&& (3 : Int32))), .val (.int ((p3 &&& (2147483647 : Int32)) % (3 : Int32))), .val (.ref b40), .unset, .unset] []))) (fun t ks => XS.astore X43.here hx rfl (hb hby at_33) rfl rfl (l' := #[.val (.int p1), .val (.int p2), .val (.int p3), .val (.int (p1 &&& (3 : Int32))), .val (.int (p2 &&& (3 : Int32))), .val (.int ((p3 &&& (2147483647 : Int32)) % (3 : Int32))), .val (.ref b40), .unset, .unset]) rfl ks) ?_
      refine own_st (V := (T43.setTop (mkF m 37 #[.val (.int p1), .val (.int p2), .val (.int p3), .val (.int (p1 &&& (3 : Int32))), .val (.int (p2 &&& (3 : Int32))), .val (.int ((p3 &&& (2147483647 : Int32)) % (3 : Int32))), .val (.ref b40), .unset, .unset] [(.ref b40)]))) (fun t ks => XS.aload X43.here hx rfl (hb hby at_35) rfl rfl ks) ?_
      refine own_st (V := (T43.setTop (mkF m 39 #[.val (.int p1), .val (.int p2), .val (.int p3), .val (.int (p1 &&& (3 : Int32))), .val (.int (p2 &&& (3 : Int32))), .val (.int ((p3 &&& (2147483647 : Int32)) % (3 : Int32))), .val (.ref b40), .unset, .unset] [(.int ((p3 &&& (2147483647 : Int32)) % (3 : Int32))), (.ref b40)]))) (fun t ks => XS.iload X43.here hx rfl (hb hby at_37) rfl ks) ?_
      refine own_callS0 X43 hx hZ hown (hw _ (List.mem_of_getElem? (i := 13) rfl)) (hw _ (List.mem_of_getElem? (i := 14) rfl)) (hw _ (List.mem_of_getElem? (i := 6) rfl)) (hw _ (List.mem_of_getElem? (i := 15) rfl)) (by decide) (rmC l Z a0 hw ((p3 &&& (2147483647 : Int32)) % (3 : Int32)) wD wM wA T43.heap hO S_wD S_wM S_wA) rfl (by rw [hml]; rfl) (argsL := [(.int ((p3 &&& (2147483647 : Int32)) % (3 : Int32)))]) (rest := [(.ref b40)]) pd_3 rfl rfl rfl (W := 1) (Nat.le_of_eq rfl) (hb hby at_39) (by decide) (by decide) (by decide) (by decide) ?_
      intro T44 X44 e44
      show OGoes p.tables e below _ (T44.setTop (mkF m 42 #[.val (.int p1), .val (.int p2), .val (.int p3), .val (.int (p1 &&& (3 : Int32))), .val (.int (p2 &&& (3 : Int32))), .val (.int ((p3 &&& (2147483647 : Int32)) % (3 : Int32))), .val (.ref b40), .unset, .unset] [(.ref (own_cap ((p3 &&& (2147483647 : Int32)) % (3 : Int32)) wD wM wA)), (.ref b40)]))
      refine own_callV0 X44 hx hZ hown (hw _ (List.mem_of_getElem? (i := 62) rfl)) (hw _ (List.mem_of_getElem? (i := 63) rfl)) (hw _ (List.mem_of_getElem? (i := 65) rfl)) (hw _ (List.mem_of_getElem? (i := 64) rfl)) (hw _ (List.mem_of_getElem? (i := 3) rfl)) (hw _ (List.mem_of_getElem? (i := 66) rfl)) (by decide) (rmIn00 l Z a0 hw b40 (own_cap ((p3 &&& (2147483647 : Int32)) % (3 : Int32)) wD wM wA) ob os  T43.heap Fb Fs Eb Es Vb Vs) e44 Et (by rw [hml]; rfl) (argsL := [(.ref (own_cap ((p3 &&& (2147483647 : Int32)) % (3 : Int32)) wD wM wA))]) (rest := []) pd_9 rfl rfl rfl (W := 0) (Nat.le_of_eq rfl) (hb hby at_42) (by decide) (by decide) (by decide) (by decide) ?_
      intro T45 X45 e45
      show OGoes p.tables e below _ (T45.setTop (mkF m 45 #[.val (.int p1), .val (.int p2), .val (.int p3), .val (.int (p1 &&& (3 : Int32))), .val (.int (p2 &&& (3 : Int32))), .val (.int ((p3 &&& (2147483647 : Int32)) % (3 : Int32))), .val (.ref b40), .unset, .unset] [(.int (0 : Int32))]))
      refine own_st (V := (T45.setTop (mkF m 47 #[.val (.int p1), .val (.int p2), .val (.int p3), .val (.int (p1 &&& (3 : Int32))), .val (.int (p2 &&& (3 : Int32))), .val (.int ((p3 &&& (2147483647 : Int32)) % (3 : Int32))), .val (.ref b40), .val (.int (0 : Int32)), .unset] []))) (fun t ks => XS.istore X45.here hx rfl (hb hby at_45) rfl (l' := #[.val (.int p1), .val (.int p2), .val (.int p3), .val (.int (p1 &&& (3 : Int32))), .val (.int (p2 &&& (3 : Int32))), .val (.int ((p3 &&& (2147483647 : Int32)) % (3 : Int32))), .val (.ref b40), .val (.int (0 : Int32)), .unset]) rfl ks) ?_
      refine own_st (V := (T45.setTop (mkF m 48 #[.val (.int p1), .val (.int p2), .val (.int p3), .val (.int (p1 &&& (3 : Int32))), .val (.int (p2 &&& (3 : Int32))), .val (.int ((p3 &&& (2147483647 : Int32)) % (3 : Int32))), .val (.ref b40), .val (.int (0 : Int32)), .unset] [(.int (p1 &&& (3 : Int32)))]))) (fun t ks => XS.iloadN X45.here hx rfl (hb hby at_47) rfl ks) ?_
      refine own_st (V := (T45.setTop (mkF m 59 #[.val (.int p1), .val (.int p2), .val (.int p3), .val (.int (p1 &&& (3 : Int32))), .val (.int (p2 &&& (3 : Int32))), .val (.int ((p3 &&& (2147483647 : Int32)) % (3 : Int32))), .val (.ref b40), .val (.int (0 : Int32)), .unset] []))) (fun t ks => XS.ifYes X45.here hx rfl (pc0 := 48) (pc' := 59) rfl (hb hby at_48) rfl (XT.i0_eq_t gb) (by decide) (by decide) ks) ?_
      refine own_st (V := (T45.setTop (mkF m 61 #[.val (.int p1), .val (.int p2), .val (.int p3), .val (.int (p1 &&& (3 : Int32))), .val (.int (p2 &&& (3 : Int32))), .val (.int ((p3 &&& (2147483647 : Int32)) % (3 : Int32))), .val (.ref b40), .val (.int (0 : Int32)), .unset] [(.int (p2 &&& (3 : Int32)))]))) (fun t ks => XS.iload X45.here hx rfl (hb hby at_59) rfl ks) ?_
      refine own_st (V := (T45.setTop (mkF m 77 #[.val (.int p1), .val (.int p2), .val (.int p3), .val (.int (p1 &&& (3 : Int32))), .val (.int (p2 &&& (3 : Int32))), .val (.int ((p3 &&& (2147483647 : Int32)) % (3 : Int32))), .val (.ref b40), .val (.int (0 : Int32)), .unset] []))) (fun t ks => XS.ifYes X45.here hx rfl (pc0 := 61) (pc' := 77) rfl (hb hby at_61) rfl (XT.i0_eq_t gs) (by decide) (by decide) ks) ?_
      refine own_st (V := (T45.setTop (mkF m 78 #[.val (.int p1), .val (.int p2), .val (.int p3), .val (.int (p1 &&& (3 : Int32))), .val (.int (p2 &&& (3 : Int32))), .val (.int ((p3 &&& (2147483647 : Int32)) % (3 : Int32))), .val (.ref b40), .val (.int (0 : Int32)), .unset] [(.int (0 : Int32))]))) (fun t ks => XS.iconst X45.here hx rfl (hb hby at_77) ks) ?_
      refine own_st (V := (T45.setTop (mkF m 80 #[.val (.int p1), .val (.int p2), .val (.int p3), .val (.int (p1 &&& (3 : Int32))), .val (.int (p2 &&& (3 : Int32))), .val (.int ((p3 &&& (2147483647 : Int32)) % (3 : Int32))), .val (.ref b40), .val (.int (0 : Int32)), .val (.int (0 : Int32))] []))) (fun t ks => XS.istore X45.here hx rfl (hb hby at_78) rfl (l' := #[.val (.int p1), .val (.int p2), .val (.int p3), .val (.int (p1 &&& (3 : Int32))), .val (.int (p2 &&& (3 : Int32))), .val (.int ((p3 &&& (2147483647 : Int32)) % (3 : Int32))), .val (.ref b40), .val (.int (0 : Int32)), .val (.int (0 : Int32))]) rfl ks) ?_
      refine own_st (V := (T45.setTop (mkF m 82 #[.val (.int p1), .val (.int p2), .val (.int p3), .val (.int (p1 &&& (3 : Int32))), .val (.int (p2 &&& (3 : Int32))), .val (.int ((p3 &&& (2147483647 : Int32)) % (3 : Int32))), .val (.ref b40), .val (.int (0 : Int32)), .val (.int (0 : Int32))] [(.int (0 : Int32))]))) (fun t ks => XS.iload X45.here hx rfl (hb hby at_80) rfl ks) ?_
      refine own_st (V := (T45.setTop (mkF m 84 #[.val (.int p1), .val (.int p2), .val (.int p3), .val (.int (p1 &&& (3 : Int32))), .val (.int (p2 &&& (3 : Int32))), .val (.int ((p3 &&& (2147483647 : Int32)) % (3 : Int32))), .val (.ref b40), .val (.int (0 : Int32)), .val (.int (0 : Int32))] [(.int (0 : Int32)), (.int (0 : Int32))]))) (fun t ks => XS.iload X45.here hx rfl (hb hby at_82) rfl ks) ?_
      refine own_st (V := (T45.setTop (mkF m 87 #[.val (.int p1), .val (.int p2), .val (.int p3), .val (.int (p1 &&& (3 : Int32))), .val (.int (p2 &&& (3 : Int32))), .val (.int ((p3 &&& (2147483647 : Int32)) % (3 : Int32))), .val (.ref b40), .val (.int (0 : Int32)), .val (.int (0 : Int32))] []))) (fun t ks => XS.icmpNo X45.here hx rfl (hb hby at_84) rfl (XT.ii_ne_f rfl) ks) ?_
      refine own_st (V := (T45.setTop (mkF m 88 #[.val (.int p1), .val (.int p2), .val (.int p3), .val (.int (p1 &&& (3 : Int32))), .val (.int (p2 &&& (3 : Int32))), .val (.int ((p3 &&& (2147483647 : Int32)) % (3 : Int32))), .val (.ref b40), .val (.int (0 : Int32)), .val (.int (0 : Int32))] [(.int (1 : Int32))]))) (fun t ks => XS.iconst X45.here hx rfl (hb hby at_87) ks) ?_
      refine own_st (V := (T45.setTop (mkF m 92 #[.val (.int p1), .val (.int p2), .val (.int p3), .val (.int (p1 &&& (3 : Int32))), .val (.int (p2 &&& (3 : Int32))), .val (.int ((p3 &&& (2147483647 : Int32)) % (3 : Int32))), .val (.ref b40), .val (.int (0 : Int32)), .val (.int (0 : Int32))] [(.int (1 : Int32))]))) (fun t ks => XS.goto X45.here hx rfl (pc0 := 88) (pc' := 92) rfl (hb hby at_88) (by decide) (by decide) ks) ?_
      exact own_retNW X45 hS (by rw [e45]; exact hk) hx hlk (by simp) hret (hb hby at_92) (by decide) (by decide) ⟨rfl, N43⟩
    · refine own_callS X41 hx hZ hown (hw _ (List.mem_of_getElem? (i := 4) rfl)) (hw _ (List.mem_of_getElem? (i := 5) rfl)) (hw _ (List.mem_of_getElem? (i := 6) rfl)) (hw _ (List.mem_of_getElem? (i := 7) rfl)) (by decide) (rmO1 l Z a0 hw (p2 &&& (3 : Int32)) wD wM wA gs T41.heap hO S_wD S_wM S_wA) rfl (by rw [hml]; rfl) (argsL := [(.int (p2 &&& (3 : Int32)))]) (rest := [(.ref ob), (.ref b40), (.ref b40)]) pd_7 rfl rfl rfl (W := 3) (Nat.le_of_eq rfl) (hb hby at_27) (by decide) (by decide) (by decide) (by decide) ?_
      rintro v46 T46 L46 X46 ⟨N46, K46, os, rfl, Es, Vs⟩
      replace N46 := Fr.app N41 N46
      show OGoes p.tables e below _ (T46.setTop (mkF m 30 #[.val (.int p1), .val (.int p2), .val (.int p3), .val (.int (p1 &&& (3 : Int32))), .val (.int (p2 &&& (3 : Int32))), .val (.int ((p3 &&& (2147483647 : Int32)) % (3 : Int32))), .unset, .unset, .unset] [(.ref os), (.ref ob), (.ref b40), (.ref b40)]))
      replace hk := Nat.le_trans hk K46.1
      replace hO := own_old_keep hO K46 all0
      replace Et := Et.keep K46
      replace t_buyer := t_buyer.keep K46 nin0
      replace t_seller := t_seller.keep K46 nin0
      replace Eb := Eb.keep K46
      replace Vb := Vb.keep K46 nin0
      have szO := hO.1
      have neb : @Ne Addr ob b40 := ne_exa Eb Et (by decide)
      have nes : @Ne Addr os b40 := ne_exa Es Et (by decide)
      refine own_callNW X46 hx hZ hS hk rfl hown (hw _ (List.mem_of_getElem? (i := 37) rfl)) (hw _ (List.mem_of_getElem? (i := 38) rfl)) (hw _ (List.mem_of_getElem? (i := 3) rfl)) (hw _ (List.mem_of_getElem? (i := 39) rfl)) (by decide) (rmTI l Z a0 hw b40 ob os T46.heap Et t_buyer t_seller (by omega)) rfl (by rw [hml]; rfl) (argsL := [(.ref ob), (.ref os)]) (rest := [(.ref b40)]) pd_8 rfl rfl rfl (W := 1) (Nat.le_of_eq rfl) (hb hby at_30) (by decide) (by decide) (by decide) (by decide) ?_
      rintro v47 T47 L47 X47 hS hZ hown ⟨rfl, N47, K47, Et, Fb, Fs⟩
      have hk := Nat.le_refl T47.heap.size
      replace N47 := Fr.app N46 N47
      show OGoes p.tables e below _ (T47.setTop (mkF m 33 #[.val (.int p1), .val (.int p2), .val (.int p3), .val (.int (p1 &&& (3 : Int32))), .val (.int (p2 &&& (3 : Int32))), .val (.int ((p3 &&& (2147483647 : Int32)) % (3 : Int32))), .unset, .unset, .unset] [(.ref b40)]))
      replace hO := own_old_keep hO K47 (allS (by omega) all0)
      replace Eb := Eb.keep K47
      replace Es := Es.keep K47
      replace Vb := Vb.keep K47 (ninS neb nin0)
      replace Vs := Vs.keep K47 (ninS nes nin0)
      refine own_st (V := (T47.setTop (mkF m 35 #[.val (.int p1), .val (.int p2), .val (.int p3), .val (.int (p1 &&& (3 : Int32))), .val (.int (p2 &&& (3 : Int32))), .val (.int ((p3 &&& (2147483647 : Int32)) % (3 : Int32))), .val (.ref b40), .unset, .unset] []))) (fun t ks => XS.astore X47.here hx rfl (hb hby at_33) rfl rfl (l' := #[.val (.int p1), .val (.int p2), .val (.int p3), .val (.int (p1 &&& (3 : Int32))), .val (.int (p2 &&& (3 : Int32))), .val (.int ((p3 &&& (2147483647 : Int32)) % (3 : Int32))), .val (.ref b40), .unset, .unset]) rfl ks) ?_
      refine own_st (V := (T47.setTop (mkF m 37 #[.val (.int p1), .val (.int p2), .val (.int p3), .val (.int (p1 &&& (3 : Int32))), .val (.int (p2 &&& (3 : Int32))), .val (.int ((p3 &&& (2147483647 : Int32)) % (3 : Int32))), .val (.ref b40), .unset, .unset] [(.ref b40)]))) (fun t ks => XS.aload X47.here hx rfl (hb hby at_35) rfl rfl ks) ?_
      refine own_st (V := (T47.setTop (mkF m 39 #[.val (.int p1), .val (.int p2), .val (.int p3), .val (.int (p1 &&& (3 : Int32))), .val (.int (p2 &&& (3 : Int32))), .val (.int ((p3 &&& (2147483647 : Int32)) % (3 : Int32))), .val (.ref b40), .unset, .unset] [(.int ((p3 &&& (2147483647 : Int32)) % (3 : Int32))), (.ref b40)]))) (fun t ks => XS.iload X47.here hx rfl (hb hby at_37) rfl ks) ?_
      refine own_callS0 X47 hx hZ hown (hw _ (List.mem_of_getElem? (i := 13) rfl)) (hw _ (List.mem_of_getElem? (i := 14) rfl)) (hw _ (List.mem_of_getElem? (i := 6) rfl)) (hw _ (List.mem_of_getElem? (i := 15) rfl)) (by decide) (rmC l Z a0 hw ((p3 &&& (2147483647 : Int32)) % (3 : Int32)) wD wM wA T47.heap hO S_wD S_wM S_wA) rfl (by rw [hml]; rfl) (argsL := [(.int ((p3 &&& (2147483647 : Int32)) % (3 : Int32)))]) (rest := [(.ref b40)]) pd_3 rfl rfl rfl (W := 1) (Nat.le_of_eq rfl) (hb hby at_39) (by decide) (by decide) (by decide) (by decide) ?_
      intro T48 X48 e48
      show OGoes p.tables e below _ (T48.setTop (mkF m 42 #[.val (.int p1), .val (.int p2), .val (.int p3), .val (.int (p1 &&& (3 : Int32))), .val (.int (p2 &&& (3 : Int32))), .val (.int ((p3 &&& (2147483647 : Int32)) % (3 : Int32))), .val (.ref b40), .unset, .unset] [(.ref (own_cap ((p3 &&& (2147483647 : Int32)) % (3 : Int32)) wD wM wA)), (.ref b40)]))
      refine own_callV0 X48 hx hZ hown (hw _ (List.mem_of_getElem? (i := 62) rfl)) (hw _ (List.mem_of_getElem? (i := 63) rfl)) (hw _ (List.mem_of_getElem? (i := 65) rfl)) (hw _ (List.mem_of_getElem? (i := 64) rfl)) (hw _ (List.mem_of_getElem? (i := 3) rfl)) (hw _ (List.mem_of_getElem? (i := 66) rfl)) (by decide) (rmIn01 l Z a0 hw b40 (own_cap ((p3 &&& (2147483647 : Int32)) % (3 : Int32)) wD wM wA) ob os (own_cap ((p2 &&& (3 : Int32)) - (1 : Int32)) wD wM wA) T47.heap Fb Fs Eb Es Vb Vs) e48 Et (by rw [hml]; rfl) (argsL := [(.ref (own_cap ((p3 &&& (2147483647 : Int32)) % (3 : Int32)) wD wM wA))]) (rest := []) pd_9 rfl rfl rfl (W := 0) (Nat.le_of_eq rfl) (hb hby at_42) (by decide) (by decide) (by decide) (by decide) ?_
      intro T49 X49 e49
      show OGoes p.tables e below _ (T49.setTop (mkF m 45 #[.val (.int p1), .val (.int p2), .val (.int p3), .val (.int (p1 &&& (3 : Int32))), .val (.int (p2 &&& (3 : Int32))), .val (.int ((p3 &&& (2147483647 : Int32)) % (3 : Int32))), .val (.ref b40), .unset, .unset] [(.int (if (own_cap ((p2 &&& (3 : Int32)) - (1 : Int32)) wD wM wA) = (own_cap ((p3 &&& (2147483647 : Int32)) % (3 : Int32)) wD wM wA) then (1 : Int32) else 0))]))
      refine own_cast (g' := (mkF m 45 #[.val (.int p1), .val (.int p2), .val (.int p3), .val (.int (p1 &&& (3 : Int32))), .val (.int (p2 &&& (3 : Int32))), .val (.int ((p3 &&& (2147483647 : Int32)) % (3 : Int32))), .val (.ref b40), .unset, .unset] [(.int (if ((p2 &&& (3 : Int32)) - (1 : Int32)) = ((p3 &&& (2147483647 : Int32)) % (3 : Int32)) then (1 : Int32) else 0))])) (by rw [show (if (own_cap ((p2 &&& (3 : Int32)) - (1 : Int32)) wD wM wA) = (own_cap ((p3 &&& (2147483647 : Int32)) % (3 : Int32)) wD wM wA) then (1 : Int32) else 0) = (if ((p2 &&& (3 : Int32)) - (1 : Int32)) = ((p3 &&& (2147483647 : Int32)) % (3 : Int32)) then (1 : Int32) else 0) from (own_ifc (own_inj n1 n2 n3 (own_pred gs) (own_rem p3)))]) ?_
      refine own_st (V := (T49.setTop (mkF m 47 #[.val (.int p1), .val (.int p2), .val (.int p3), .val (.int (p1 &&& (3 : Int32))), .val (.int (p2 &&& (3 : Int32))), .val (.int ((p3 &&& (2147483647 : Int32)) % (3 : Int32))), .val (.ref b40), .val (.int (if ((p2 &&& (3 : Int32)) - (1 : Int32)) = ((p3 &&& (2147483647 : Int32)) % (3 : Int32)) then (1 : Int32) else 0)), .unset] []))) (fun t ks => XS.istore X49.here hx rfl (hb hby at_45) rfl (l' := #[.val (.int p1), .val (.int p2), .val (.int p3), .val (.int (p1 &&& (3 : Int32))), .val (.int (p2 &&& (3 : Int32))), .val (.int ((p3 &&& (2147483647 : Int32)) % (3 : Int32))), .val (.ref b40), .val (.int (if ((p2 &&& (3 : Int32)) - (1 : Int32)) = ((p3 &&& (2147483647 : Int32)) % (3 : Int32)) then (1 : Int32) else 0)), .unset]) rfl ks) ?_
      refine own_st (V := (T49.setTop (mkF m 48 #[.val (.int p1), .val (.int p2), .val (.int p3), .val (.int (p1 &&& (3 : Int32))), .val (.int (p2 &&& (3 : Int32))), .val (.int ((p3 &&& (2147483647 : Int32)) % (3 : Int32))), .val (.ref b40), .val (.int (if ((p2 &&& (3 : Int32)) - (1 : Int32)) = ((p3 &&& (2147483647 : Int32)) % (3 : Int32)) then (1 : Int32) else 0)), .unset] [(.int (p1 &&& (3 : Int32)))]))) (fun t ks => XS.iloadN X49.here hx rfl (hb hby at_47) rfl ks) ?_
      refine own_st (V := (T49.setTop (mkF m 59 #[.val (.int p1), .val (.int p2), .val (.int p3), .val (.int (p1 &&& (3 : Int32))), .val (.int (p2 &&& (3 : Int32))), .val (.int ((p3 &&& (2147483647 : Int32)) % (3 : Int32))), .val (.ref b40), .val (.int (if ((p2 &&& (3 : Int32)) - (1 : Int32)) = ((p3 &&& (2147483647 : Int32)) % (3 : Int32)) then (1 : Int32) else 0)), .unset] []))) (fun t ks => XS.ifYes X49.here hx rfl (pc0 := 48) (pc' := 59) rfl (hb hby at_48) rfl (XT.i0_eq_t gb) (by decide) (by decide) ks) ?_
      refine own_st (V := (T49.setTop (mkF m 61 #[.val (.int p1), .val (.int p2), .val (.int p3), .val (.int (p1 &&& (3 : Int32))), .val (.int (p2 &&& (3 : Int32))), .val (.int ((p3 &&& (2147483647 : Int32)) % (3 : Int32))), .val (.ref b40), .val (.int (if ((p2 &&& (3 : Int32)) - (1 : Int32)) = ((p3 &&& (2147483647 : Int32)) % (3 : Int32)) then (1 : Int32) else 0)), .unset] [(.int (p2 &&& (3 : Int32)))]))) (fun t ks => XS.iload X49.here hx rfl (hb hby at_59) rfl ks) ?_
      refine own_st (V := (T49.setTop (mkF m 64 #[.val (.int p1), .val (.int p2), .val (.int p3), .val (.int (p1 &&& (3 : Int32))), .val (.int (p2 &&& (3 : Int32))), .val (.int ((p3 &&& (2147483647 : Int32)) % (3 : Int32))), .val (.ref b40), .val (.int (if ((p2 &&& (3 : Int32)) - (1 : Int32)) = ((p3 &&& (2147483647 : Int32)) % (3 : Int32)) then (1 : Int32) else 0)), .unset] []))) (fun t ks => XS.ifNo X49.here hx rfl (hb hby at_61) rfl (XT.i0_eq_f gs) ks) ?_
      refine own_st (V := (T49.setTop (mkF m 66 #[.val (.int p1), .val (.int p2), .val (.int p3), .val (.int (p1 &&& (3 : Int32))), .val (.int (p2 &&& (3 : Int32))), .val (.int ((p3 &&& (2147483647 : Int32)) % (3 : Int32))), .val (.ref b40), .val (.int (if ((p2 &&& (3 : Int32)) - (1 : Int32)) = ((p3 &&& (2147483647 : Int32)) % (3 : Int32)) then (1 : Int32) else 0)), .unset] [(.int (p2 &&& (3 : Int32)))]))) (fun t ks => XS.iload X49.here hx rfl (hb hby at_64) rfl ks) ?_
      refine own_st (V := (T49.setTop (mkF m 67 #[.val (.int p1), .val (.int p2), .val (.int p3), .val (.int (p1 &&& (3 : Int32))), .val (.int (p2 &&& (3 : Int32))), .val (.int ((p3 &&& (2147483647 : Int32)) % (3 : Int32))), .val (.ref b40), .val (.int (if ((p2 &&& (3 : Int32)) - (1 : Int32)) = ((p3 &&& (2147483647 : Int32)) % (3 : Int32)) then (1 : Int32) else 0)), .unset] [(.int (1 : Int32)), (.int (p2 &&& (3 : Int32)))]))) (fun t ks => XS.iconst X49.here hx rfl (hb hby at_66) ks) ?_
      refine own_st (V := (T49.setTop (mkF m 68 #[.val (.int p1), .val (.int p2), .val (.int p3), .val (.int (p1 &&& (3 : Int32))), .val (.int (p2 &&& (3 : Int32))), .val (.int ((p3 &&& (2147483647 : Int32)) % (3 : Int32))), .val (.ref b40), .val (.int (if ((p2 &&& (3 : Int32)) - (1 : Int32)) = ((p3 &&& (2147483647 : Int32)) % (3 : Int32)) then (1 : Int32) else 0)), .unset] [(.int ((p2 &&& (3 : Int32)) - (1 : Int32)))]))) (fun t ks => XS.isub X49.here hx rfl (hb hby at_67) rfl ks) ?_
      refine own_st (V := (T49.setTop (mkF m 70 #[.val (.int p1), .val (.int p2), .val (.int p3), .val (.int (p1 &&& (3 : Int32))), .val (.int (p2 &&& (3 : Int32))), .val (.int ((p3 &&& (2147483647 : Int32)) % (3 : Int32))), .val (.ref b40), .val (.int (if ((p2 &&& (3 : Int32)) - (1 : Int32)) = ((p3 &&& (2147483647 : Int32)) % (3 : Int32)) then (1 : Int32) else 0)), .unset] [(.int ((p3 &&& (2147483647 : Int32)) % (3 : Int32))), (.int ((p2 &&& (3 : Int32)) - (1 : Int32)))]))) (fun t ks => XS.iload X49.here hx rfl (hb hby at_68) rfl ks) ?_
      by_cases q2 : ((p2 &&& (3 : Int32)) - (1 : Int32)) = ((p3 &&& (2147483647 : Int32)) % (3 : Int32))
      · refine own_st (V := (T49.setTop (mkF m 73 #[.val (.int p1), .val (.int p2), .val (.int p3), .val (.int (p1 &&& (3 : Int32))), .val (.int (p2 &&& (3 : Int32))), .val (.int ((p3 &&& (2147483647 : Int32)) % (3 : Int32))), .val (.ref b40), .val (.int (if ((p2 &&& (3 : Int32)) - (1 : Int32)) = ((p3 &&& (2147483647 : Int32)) % (3 : Int32)) then (1 : Int32) else 0)), .unset] []))) (fun t ks => XS.icmpNo X49.here hx rfl (hb hby at_70) rfl (XT.ii_ne_f q2) ks) ?_
        refine own_st (V := (T49.setTop (mkF m 74 #[.val (.int p1), .val (.int p2), .val (.int p3), .val (.int (p1 &&& (3 : Int32))), .val (.int (p2 &&& (3 : Int32))), .val (.int ((p3 &&& (2147483647 : Int32)) % (3 : Int32))), .val (.ref b40), .val (.int (if ((p2 &&& (3 : Int32)) - (1 : Int32)) = ((p3 &&& (2147483647 : Int32)) % (3 : Int32)) then (1 : Int32) else 0)), .unset] [(.int (1 : Int32))]))) (fun t ks => XS.iconst X49.here hx rfl (hb hby at_73) ks) ?_
        refine own_st (V := (T49.setTop (mkF m 78 #[.val (.int p1), .val (.int p2), .val (.int p3), .val (.int (p1 &&& (3 : Int32))), .val (.int (p2 &&& (3 : Int32))), .val (.int ((p3 &&& (2147483647 : Int32)) % (3 : Int32))), .val (.ref b40), .val (.int (if ((p2 &&& (3 : Int32)) - (1 : Int32)) = ((p3 &&& (2147483647 : Int32)) % (3 : Int32)) then (1 : Int32) else 0)), .unset] [(.int (1 : Int32))]))) (fun t ks => XS.goto X49.here hx rfl (pc0 := 74) (pc' := 78) rfl (hb hby at_74) (by decide) (by decide) ks) ?_
        refine own_st (V := (T49.setTop (mkF m 80 #[.val (.int p1), .val (.int p2), .val (.int p3), .val (.int (p1 &&& (3 : Int32))), .val (.int (p2 &&& (3 : Int32))), .val (.int ((p3 &&& (2147483647 : Int32)) % (3 : Int32))), .val (.ref b40), .val (.int (if ((p2 &&& (3 : Int32)) - (1 : Int32)) = ((p3 &&& (2147483647 : Int32)) % (3 : Int32)) then (1 : Int32) else 0)), .val (.int (1 : Int32))] []))) (fun t ks => XS.istore X49.here hx rfl (hb hby at_78) rfl (l' := #[.val (.int p1), .val (.int p2), .val (.int p3), .val (.int (p1 &&& (3 : Int32))), .val (.int (p2 &&& (3 : Int32))), .val (.int ((p3 &&& (2147483647 : Int32)) % (3 : Int32))), .val (.ref b40), .val (.int (if ((p2 &&& (3 : Int32)) - (1 : Int32)) = ((p3 &&& (2147483647 : Int32)) % (3 : Int32)) then (1 : Int32) else 0)), .val (.int (1 : Int32))]) rfl ks) ?_
        refine own_st (V := (T49.setTop (mkF m 82 #[.val (.int p1), .val (.int p2), .val (.int p3), .val (.int (p1 &&& (3 : Int32))), .val (.int (p2 &&& (3 : Int32))), .val (.int ((p3 &&& (2147483647 : Int32)) % (3 : Int32))), .val (.ref b40), .val (.int (if ((p2 &&& (3 : Int32)) - (1 : Int32)) = ((p3 &&& (2147483647 : Int32)) % (3 : Int32)) then (1 : Int32) else 0)), .val (.int (1 : Int32))] [(.int (if ((p2 &&& (3 : Int32)) - (1 : Int32)) = ((p3 &&& (2147483647 : Int32)) % (3 : Int32)) then (1 : Int32) else 0))]))) (fun t ks => XS.iload X49.here hx rfl (hb hby at_80) rfl ks) ?_
        refine own_st (V := (T49.setTop (mkF m 84 #[.val (.int p1), .val (.int p2), .val (.int p3), .val (.int (p1 &&& (3 : Int32))), .val (.int (p2 &&& (3 : Int32))), .val (.int ((p3 &&& (2147483647 : Int32)) % (3 : Int32))), .val (.ref b40), .val (.int (if ((p2 &&& (3 : Int32)) - (1 : Int32)) = ((p3 &&& (2147483647 : Int32)) % (3 : Int32)) then (1 : Int32) else 0)), .val (.int (1 : Int32))] [(.int (1 : Int32)), (.int (if ((p2 &&& (3 : Int32)) - (1 : Int32)) = ((p3 &&& (2147483647 : Int32)) % (3 : Int32)) then (1 : Int32) else 0))]))) (fun t ks => XS.iload X49.here hx rfl (hb hby at_82) rfl ks) ?_
        refine own_st (V := (T49.setTop (mkF m 87 #[.val (.int p1), .val (.int p2), .val (.int p3), .val (.int (p1 &&& (3 : Int32))), .val (.int (p2 &&& (3 : Int32))), .val (.int ((p3 &&& (2147483647 : Int32)) % (3 : Int32))), .val (.ref b40), .val (.int (if ((p2 &&& (3 : Int32)) - (1 : Int32)) = ((p3 &&& (2147483647 : Int32)) % (3 : Int32)) then (1 : Int32) else 0)), .val (.int (1 : Int32))] []))) (fun t ks => XS.icmpNo X49.here hx rfl (hb hby at_84) rfl (XT.ii_ne_f (by simp [q2])) ks) ?_
        refine own_st (V := (T49.setTop (mkF m 88 #[.val (.int p1), .val (.int p2), .val (.int p3), .val (.int (p1 &&& (3 : Int32))), .val (.int (p2 &&& (3 : Int32))), .val (.int ((p3 &&& (2147483647 : Int32)) % (3 : Int32))), .val (.ref b40), .val (.int (if ((p2 &&& (3 : Int32)) - (1 : Int32)) = ((p3 &&& (2147483647 : Int32)) % (3 : Int32)) then (1 : Int32) else 0)), .val (.int (1 : Int32))] [(.int (1 : Int32))]))) (fun t ks => XS.iconst X49.here hx rfl (hb hby at_87) ks) ?_
        refine own_st (V := (T49.setTop (mkF m 92 #[.val (.int p1), .val (.int p2), .val (.int p3), .val (.int (p1 &&& (3 : Int32))), .val (.int (p2 &&& (3 : Int32))), .val (.int ((p3 &&& (2147483647 : Int32)) % (3 : Int32))), .val (.ref b40), .val (.int (if ((p2 &&& (3 : Int32)) - (1 : Int32)) = ((p3 &&& (2147483647 : Int32)) % (3 : Int32)) then (1 : Int32) else 0)), .val (.int (1 : Int32))] [(.int (1 : Int32))]))) (fun t ks => XS.goto X49.here hx rfl (pc0 := 88) (pc' := 92) rfl (hb hby at_88) (by decide) (by decide) ks) ?_
        exact own_retNW X49 hS (by rw [e49]; exact hk) hx hlk (by simp) hret (hb hby at_92) (by decide) (by decide) ⟨rfl, N47⟩
      · refine own_st (V := (T49.setTop (mkF m 77 #[.val (.int p1), .val (.int p2), .val (.int p3), .val (.int (p1 &&& (3 : Int32))), .val (.int (p2 &&& (3 : Int32))), .val (.int ((p3 &&& (2147483647 : Int32)) % (3 : Int32))), .val (.ref b40), .val (.int (if ((p2 &&& (3 : Int32)) - (1 : Int32)) = ((p3 &&& (2147483647 : Int32)) % (3 : Int32)) then (1 : Int32) else 0)), .unset] []))) (fun t ks => XS.icmpYes X49.here hx rfl (pc0 := 70) (pc' := 77) rfl (hb hby at_70) rfl (XT.ii_ne_t q2) (by decide) (by decide) ks) ?_
        refine own_st (V := (T49.setTop (mkF m 78 #[.val (.int p1), .val (.int p2), .val (.int p3), .val (.int (p1 &&& (3 : Int32))), .val (.int (p2 &&& (3 : Int32))), .val (.int ((p3 &&& (2147483647 : Int32)) % (3 : Int32))), .val (.ref b40), .val (.int (if ((p2 &&& (3 : Int32)) - (1 : Int32)) = ((p3 &&& (2147483647 : Int32)) % (3 : Int32)) then (1 : Int32) else 0)), .unset] [(.int (0 : Int32))]))) (fun t ks => XS.iconst X49.here hx rfl (hb hby at_77) ks) ?_
        refine own_st (V := (T49.setTop (mkF m 80 #[.val (.int p1), .val (.int p2), .val (.int p3), .val (.int (p1 &&& (3 : Int32))), .val (.int (p2 &&& (3 : Int32))), .val (.int ((p3 &&& (2147483647 : Int32)) % (3 : Int32))), .val (.ref b40), .val (.int (if ((p2 &&& (3 : Int32)) - (1 : Int32)) = ((p3 &&& (2147483647 : Int32)) % (3 : Int32)) then (1 : Int32) else 0)), .val (.int (0 : Int32))] []))) (fun t ks => XS.istore X49.here hx rfl (hb hby at_78) rfl (l' := #[.val (.int p1), .val (.int p2), .val (.int p3), .val (.int (p1 &&& (3 : Int32))), .val (.int (p2 &&& (3 : Int32))), .val (.int ((p3 &&& (2147483647 : Int32)) % (3 : Int32))), .val (.ref b40), .val (.int (if ((p2 &&& (3 : Int32)) - (1 : Int32)) = ((p3 &&& (2147483647 : Int32)) % (3 : Int32)) then (1 : Int32) else 0)), .val (.int (0 : Int32))]) rfl ks) ?_
        refine own_st (V := (T49.setTop (mkF m 82 #[.val (.int p1), .val (.int p2), .val (.int p3), .val (.int (p1 &&& (3 : Int32))), .val (.int (p2 &&& (3 : Int32))), .val (.int ((p3 &&& (2147483647 : Int32)) % (3 : Int32))), .val (.ref b40), .val (.int (if ((p2 &&& (3 : Int32)) - (1 : Int32)) = ((p3 &&& (2147483647 : Int32)) % (3 : Int32)) then (1 : Int32) else 0)), .val (.int (0 : Int32))] [(.int (if ((p2 &&& (3 : Int32)) - (1 : Int32)) = ((p3 &&& (2147483647 : Int32)) % (3 : Int32)) then (1 : Int32) else 0))]))) (fun t ks => XS.iload X49.here hx rfl (hb hby at_80) rfl ks) ?_
        refine own_st (V := (T49.setTop (mkF m 84 #[.val (.int p1), .val (.int p2), .val (.int p3), .val (.int (p1 &&& (3 : Int32))), .val (.int (p2 &&& (3 : Int32))), .val (.int ((p3 &&& (2147483647 : Int32)) % (3 : Int32))), .val (.ref b40), .val (.int (if ((p2 &&& (3 : Int32)) - (1 : Int32)) = ((p3 &&& (2147483647 : Int32)) % (3 : Int32)) then (1 : Int32) else 0)), .val (.int (0 : Int32))] [(.int (0 : Int32)), (.int (if ((p2 &&& (3 : Int32)) - (1 : Int32)) = ((p3 &&& (2147483647 : Int32)) % (3 : Int32)) then (1 : Int32) else 0))]))) (fun t ks => XS.iload X49.here hx rfl (hb hby at_82) rfl ks) ?_
        refine own_st (V := (T49.setTop (mkF m 87 #[.val (.int p1), .val (.int p2), .val (.int p3), .val (.int (p1 &&& (3 : Int32))), .val (.int (p2 &&& (3 : Int32))), .val (.int ((p3 &&& (2147483647 : Int32)) % (3 : Int32))), .val (.ref b40), .val (.int (if ((p2 &&& (3 : Int32)) - (1 : Int32)) = ((p3 &&& (2147483647 : Int32)) % (3 : Int32)) then (1 : Int32) else 0)), .val (.int (0 : Int32))] []))) (fun t ks => XS.icmpNo X49.here hx rfl (hb hby at_84) rfl (XT.ii_ne_f (by simp [q2])) ks) ?_
        refine own_st (V := (T49.setTop (mkF m 88 #[.val (.int p1), .val (.int p2), .val (.int p3), .val (.int (p1 &&& (3 : Int32))), .val (.int (p2 &&& (3 : Int32))), .val (.int ((p3 &&& (2147483647 : Int32)) % (3 : Int32))), .val (.ref b40), .val (.int (if ((p2 &&& (3 : Int32)) - (1 : Int32)) = ((p3 &&& (2147483647 : Int32)) % (3 : Int32)) then (1 : Int32) else 0)), .val (.int (0 : Int32))] [(.int (1 : Int32))]))) (fun t ks => XS.iconst X49.here hx rfl (hb hby at_87) ks) ?_
        refine own_st (V := (T49.setTop (mkF m 92 #[.val (.int p1), .val (.int p2), .val (.int p3), .val (.int (p1 &&& (3 : Int32))), .val (.int (p2 &&& (3 : Int32))), .val (.int ((p3 &&& (2147483647 : Int32)) % (3 : Int32))), .val (.ref b40), .val (.int (if ((p2 &&& (3 : Int32)) - (1 : Int32)) = ((p3 &&& (2147483647 : Int32)) % (3 : Int32)) then (1 : Int32) else 0)), .val (.int (0 : Int32))] [(.int (1 : Int32))]))) (fun t ks => XS.goto X49.here hx rfl (pc0 := 88) (pc' := 92) rfl (hb hby at_88) (by decide) (by decide) ks) ?_
        exact own_retNW X49 hS (by rw [e49]; exact hk) hx hlk (by simp) hret (hb hby at_92) (by decide) (by decide) ⟨rfl, N47⟩
  · refine own_callS X40 hx hZ hown (hw _ (List.mem_of_getElem? (i := 4) rfl)) (hw _ (List.mem_of_getElem? (i := 5) rfl)) (hw _ (List.mem_of_getElem? (i := 6) rfl)) (hw _ (List.mem_of_getElem? (i := 7) rfl)) (by decide) (rmO1 l Z a0 hw (p1 &&& (3 : Int32)) wD wM wA gb h40 hO S_wD S_wM S_wA) e40 (by rw [hml]; rfl) (argsL := [(.int (p1 &&& (3 : Int32)))]) (rest := [(.ref b40), (.ref b40)]) pd_7 rfl rfl rfl (W := 2) (Nat.le_of_eq rfl) (hb hby at_22) (by decide) (by decide) (by decide) (by decide) ?_
    rintro v50 T50 L50 X50 ⟨N50, K50, ob, rfl, Eb, Vb⟩
    replace N50 := Fr.app (Fr.nil Z.heap.size) N50
    show OGoes p.tables e below _ (T50.setTop (mkF m 25 #[.val (.int p1), .val (.int p2), .val (.int p3), .val (.int (p1 &&& (3 : Int32))), .val (.int (p2 &&& (3 : Int32))), .val (.int ((p3 &&& (2147483647 : Int32)) % (3 : Int32))), .unset, .unset, .unset] [(.ref ob), (.ref b40), (.ref b40)]))
    replace hk := Nat.le_trans hk K50.1
    replace hO := own_old_keep hO K50 all0
    replace Et := Et.keep K50
    replace t_buyer := t_buyer.keep K50 nin0
    replace t_seller := t_seller.keep K50 nin0
    refine own_st (V := (T50.setTop (mkF m 27 #[.val (.int p1), .val (.int p2), .val (.int p3), .val (.int (p1 &&& (3 : Int32))), .val (.int (p2 &&& (3 : Int32))), .val (.int ((p3 &&& (2147483647 : Int32)) % (3 : Int32))), .unset, .unset, .unset] [(.int (p2 &&& (3 : Int32))), (.ref ob), (.ref b40), (.ref b40)]))) (fun t ks => XS.iload X50.here hx rfl (hb hby at_25) rfl ks) ?_
    by_cases gs : (p2 &&& (3 : Int32)) = 0
    · refine own_callS X50 hx hZ hown (hw _ (List.mem_of_getElem? (i := 4) rfl)) (hw _ (List.mem_of_getElem? (i := 5) rfl)) (hw _ (List.mem_of_getElem? (i := 6) rfl)) (hw _ (List.mem_of_getElem? (i := 7) rfl)) (by decide) (rmO0 l Z a0 hw (p2 &&& (3 : Int32)) wE gs T50.heap hO SE EE VE) rfl (by rw [hml]; rfl) (argsL := [(.int (p2 &&& (3 : Int32)))]) (rest := [(.ref ob), (.ref b40), (.ref b40)]) pd_7 rfl rfl rfl (W := 3) (Nat.le_of_eq rfl) (hb hby at_27) (by decide) (by decide) (by decide) (by decide) ?_
      rintro v51 T51 L51 X51 ⟨N51, K51, os, rfl, Es, Vs⟩
      replace N51 := Fr.app N50 N51
      show OGoes p.tables e below _ (T51.setTop (mkF m 30 #[.val (.int p1), .val (.int p2), .val (.int p3), .val (.int (p1 &&& (3 : Int32))), .val (.int (p2 &&& (3 : Int32))), .val (.int ((p3 &&& (2147483647 : Int32)) % (3 : Int32))), .unset, .unset, .unset] [(.ref os), (.ref ob), (.ref b40), (.ref b40)]))
      replace hk := Nat.le_trans hk K51.1
      replace hO := own_old_keep hO K51 all0
      replace Et := Et.keep K51
      replace t_buyer := t_buyer.keep K51 nin0
      replace t_seller := t_seller.keep K51 nin0
      replace Eb := Eb.keep K51
      replace Vb := Vb.keep K51 nin0
      have szO := hO.1
      have neb : @Ne Addr ob b40 := ne_exa Eb Et (by decide)
      have nes : @Ne Addr os b40 := ne_exa Es Et (by decide)
      refine own_callNW X51 hx hZ hS hk rfl hown (hw _ (List.mem_of_getElem? (i := 37) rfl)) (hw _ (List.mem_of_getElem? (i := 38) rfl)) (hw _ (List.mem_of_getElem? (i := 3) rfl)) (hw _ (List.mem_of_getElem? (i := 39) rfl)) (by decide) (rmTI l Z a0 hw b40 ob os T51.heap Et t_buyer t_seller (by omega)) rfl (by rw [hml]; rfl) (argsL := [(.ref ob), (.ref os)]) (rest := [(.ref b40)]) pd_8 rfl rfl rfl (W := 1) (Nat.le_of_eq rfl) (hb hby at_30) (by decide) (by decide) (by decide) (by decide) ?_
      rintro v52 T52 L52 X52 hS hZ hown ⟨rfl, N52, K52, Et, Fb, Fs⟩
      have hk := Nat.le_refl T52.heap.size
      replace N52 := Fr.app N51 N52
      show OGoes p.tables e below _ (T52.setTop (mkF m 33 #[.val (.int p1), .val (.int p2), .val (.int p3), .val (.int (p1 &&& (3 : Int32))), .val (.int (p2 &&& (3 : Int32))), .val (.int ((p3 &&& (2147483647 : Int32)) % (3 : Int32))), .unset, .unset, .unset] [(.ref b40)]))
      replace hO := own_old_keep hO K52 (allS (by omega) all0)
      replace Eb := Eb.keep K52
      replace Es := Es.keep K52
      replace Vb := Vb.keep K52 (ninS neb nin0)
      replace Vs := Vs.keep K52 (ninS nes nin0)
      refine own_st (V := (T52.setTop (mkF m 35 #[.val (.int p1), .val (.int p2), .val (.int p3), .val (.int (p1 &&& (3 : Int32))), .val (.int (p2 &&& (3 : Int32))), .val (.int ((p3 &&& (2147483647 : Int32)) % (3 : Int32))), .val (.ref b40), .unset, .unset] []))) (fun t ks => XS.astore X52.here hx rfl (hb hby at_33) rfl rfl (l' := #[.val (.int p1), .val (.int p2), .val (.int p3), .val (.int (p1 &&& (3 : Int32))), .val (.int (p2 &&& (3 : Int32))), .val (.int ((p3 &&& (2147483647 : Int32)) % (3 : Int32))), .val (.ref b40), .unset, .unset]) rfl ks) ?_
      refine own_st (V := (T52.setTop (mkF m 37 #[.val (.int p1), .val (.int p2), .val (.int p3), .val (.int (p1 &&& (3 : Int32))), .val (.int (p2 &&& (3 : Int32))), .val (.int ((p3 &&& (2147483647 : Int32)) % (3 : Int32))), .val (.ref b40), .unset, .unset] [(.ref b40)]))) (fun t ks => XS.aload X52.here hx rfl (hb hby at_35) rfl rfl ks) ?_
      refine own_st (V := (T52.setTop (mkF m 39 #[.val (.int p1), .val (.int p2), .val (.int p3), .val (.int (p1 &&& (3 : Int32))), .val (.int (p2 &&& (3 : Int32))), .val (.int ((p3 &&& (2147483647 : Int32)) % (3 : Int32))), .val (.ref b40), .unset, .unset] [(.int ((p3 &&& (2147483647 : Int32)) % (3 : Int32))), (.ref b40)]))) (fun t ks => XS.iload X52.here hx rfl (hb hby at_37) rfl ks) ?_
      refine own_callS0 X52 hx hZ hown (hw _ (List.mem_of_getElem? (i := 13) rfl)) (hw _ (List.mem_of_getElem? (i := 14) rfl)) (hw _ (List.mem_of_getElem? (i := 6) rfl)) (hw _ (List.mem_of_getElem? (i := 15) rfl)) (by decide) (rmC l Z a0 hw ((p3 &&& (2147483647 : Int32)) % (3 : Int32)) wD wM wA T52.heap hO S_wD S_wM S_wA) rfl (by rw [hml]; rfl) (argsL := [(.int ((p3 &&& (2147483647 : Int32)) % (3 : Int32)))]) (rest := [(.ref b40)]) pd_3 rfl rfl rfl (W := 1) (Nat.le_of_eq rfl) (hb hby at_39) (by decide) (by decide) (by decide) (by decide) ?_
      intro T53 X53 e53
      show OGoes p.tables e below _ (T53.setTop (mkF m 42 #[.val (.int p1), .val (.int p2), .val (.int p3), .val (.int (p1 &&& (3 : Int32))), .val (.int (p2 &&& (3 : Int32))), .val (.int ((p3 &&& (2147483647 : Int32)) % (3 : Int32))), .val (.ref b40), .unset, .unset] [(.ref (own_cap ((p3 &&& (2147483647 : Int32)) % (3 : Int32)) wD wM wA)), (.ref b40)]))
      refine own_callV0 X53 hx hZ hown (hw _ (List.mem_of_getElem? (i := 62) rfl)) (hw _ (List.mem_of_getElem? (i := 63) rfl)) (hw _ (List.mem_of_getElem? (i := 65) rfl)) (hw _ (List.mem_of_getElem? (i := 64) rfl)) (hw _ (List.mem_of_getElem? (i := 3) rfl)) (hw _ (List.mem_of_getElem? (i := 66) rfl)) (by decide) (rmIn10 l Z a0 hw b40 (own_cap ((p3 &&& (2147483647 : Int32)) % (3 : Int32)) wD wM wA) ob os (own_cap ((p1 &&& (3 : Int32)) - (1 : Int32)) wD wM wA) T52.heap Fb Fs Eb Es Vb Vs) e53 Et (by rw [hml]; rfl) (argsL := [(.ref (own_cap ((p3 &&& (2147483647 : Int32)) % (3 : Int32)) wD wM wA))]) (rest := []) pd_9 rfl rfl rfl (W := 0) (Nat.le_of_eq rfl) (hb hby at_42) (by decide) (by decide) (by decide) (by decide) ?_
      intro T54 X54 e54
      show OGoes p.tables e below _ (T54.setTop (mkF m 45 #[.val (.int p1), .val (.int p2), .val (.int p3), .val (.int (p1 &&& (3 : Int32))), .val (.int (p2 &&& (3 : Int32))), .val (.int ((p3 &&& (2147483647 : Int32)) % (3 : Int32))), .val (.ref b40), .unset, .unset] [(.int (if (own_cap ((p1 &&& (3 : Int32)) - (1 : Int32)) wD wM wA) = (own_cap ((p3 &&& (2147483647 : Int32)) % (3 : Int32)) wD wM wA) then (1 : Int32) else 0))]))
      refine own_cast (g' := (mkF m 45 #[.val (.int p1), .val (.int p2), .val (.int p3), .val (.int (p1 &&& (3 : Int32))), .val (.int (p2 &&& (3 : Int32))), .val (.int ((p3 &&& (2147483647 : Int32)) % (3 : Int32))), .val (.ref b40), .unset, .unset] [(.int (if ((p1 &&& (3 : Int32)) - (1 : Int32)) = ((p3 &&& (2147483647 : Int32)) % (3 : Int32)) then (1 : Int32) else 0))])) (by rw [show (if (own_cap ((p1 &&& (3 : Int32)) - (1 : Int32)) wD wM wA) = (own_cap ((p3 &&& (2147483647 : Int32)) % (3 : Int32)) wD wM wA) then (1 : Int32) else 0) = (if ((p1 &&& (3 : Int32)) - (1 : Int32)) = ((p3 &&& (2147483647 : Int32)) % (3 : Int32)) then (1 : Int32) else 0) from (own_ifc (own_inj n1 n2 n3 (own_pred gb) (own_rem p3)))]) ?_
      refine own_st (V := (T54.setTop (mkF m 47 #[.val (.int p1), .val (.int p2), .val (.int p3), .val (.int (p1 &&& (3 : Int32))), .val (.int (p2 &&& (3 : Int32))), .val (.int ((p3 &&& (2147483647 : Int32)) % (3 : Int32))), .val (.ref b40), .val (.int (if ((p1 &&& (3 : Int32)) - (1 : Int32)) = ((p3 &&& (2147483647 : Int32)) % (3 : Int32)) then (1 : Int32) else 0)), .unset] []))) (fun t ks => XS.istore X54.here hx rfl (hb hby at_45) rfl (l' := #[.val (.int p1), .val (.int p2), .val (.int p3), .val (.int (p1 &&& (3 : Int32))), .val (.int (p2 &&& (3 : Int32))), .val (.int ((p3 &&& (2147483647 : Int32)) % (3 : Int32))), .val (.ref b40), .val (.int (if ((p1 &&& (3 : Int32)) - (1 : Int32)) = ((p3 &&& (2147483647 : Int32)) % (3 : Int32)) then (1 : Int32) else 0)), .unset]) rfl ks) ?_
      refine own_st (V := (T54.setTop (mkF m 48 #[.val (.int p1), .val (.int p2), .val (.int p3), .val (.int (p1 &&& (3 : Int32))), .val (.int (p2 &&& (3 : Int32))), .val (.int ((p3 &&& (2147483647 : Int32)) % (3 : Int32))), .val (.ref b40), .val (.int (if ((p1 &&& (3 : Int32)) - (1 : Int32)) = ((p3 &&& (2147483647 : Int32)) % (3 : Int32)) then (1 : Int32) else 0)), .unset] [(.int (p1 &&& (3 : Int32)))]))) (fun t ks => XS.iloadN X54.here hx rfl (hb hby at_47) rfl ks) ?_
      refine own_st (V := (T54.setTop (mkF m 51 #[.val (.int p1), .val (.int p2), .val (.int p3), .val (.int (p1 &&& (3 : Int32))), .val (.int (p2 &&& (3 : Int32))), .val (.int ((p3 &&& (2147483647 : Int32)) % (3 : Int32))), .val (.ref b40), .val (.int (if ((p1 &&& (3 : Int32)) - (1 : Int32)) = ((p3 &&& (2147483647 : Int32)) % (3 : Int32)) then (1 : Int32) else 0)), .unset] []))) (fun t ks => XS.ifNo X54.here hx rfl (hb hby at_48) rfl (XT.i0_eq_f gb) ks) ?_
      refine own_st (V := (T54.setTop (mkF m 52 #[.val (.int p1), .val (.int p2), .val (.int p3), .val (.int (p1 &&& (3 : Int32))), .val (.int (p2 &&& (3 : Int32))), .val (.int ((p3 &&& (2147483647 : Int32)) % (3 : Int32))), .val (.ref b40), .val (.int (if ((p1 &&& (3 : Int32)) - (1 : Int32)) = ((p3 &&& (2147483647 : Int32)) % (3 : Int32)) then (1 : Int32) else 0)), .unset] [(.int (p1 &&& (3 : Int32)))]))) (fun t ks => XS.iloadN X54.here hx rfl (hb hby at_51) rfl ks) ?_
      refine own_st (V := (T54.setTop (mkF m 53 #[.val (.int p1), .val (.int p2), .val (.int p3), .val (.int (p1 &&& (3 : Int32))), .val (.int (p2 &&& (3 : Int32))), .val (.int ((p3 &&& (2147483647 : Int32)) % (3 : Int32))), .val (.ref b40), .val (.int (if ((p1 &&& (3 : Int32)) - (1 : Int32)) = ((p3 &&& (2147483647 : Int32)) % (3 : Int32)) then (1 : Int32) else 0)), .unset] [(.int (1 : Int32)), (.int (p1 &&& (3 : Int32)))]))) (fun t ks => XS.iconst X54.here hx rfl (hb hby at_52) ks) ?_
      refine own_st (V := (T54.setTop (mkF m 54 #[.val (.int p1), .val (.int p2), .val (.int p3), .val (.int (p1 &&& (3 : Int32))), .val (.int (p2 &&& (3 : Int32))), .val (.int ((p3 &&& (2147483647 : Int32)) % (3 : Int32))), .val (.ref b40), .val (.int (if ((p1 &&& (3 : Int32)) - (1 : Int32)) = ((p3 &&& (2147483647 : Int32)) % (3 : Int32)) then (1 : Int32) else 0)), .unset] [(.int ((p1 &&& (3 : Int32)) - (1 : Int32)))]))) (fun t ks => XS.isub X54.here hx rfl (hb hby at_53) rfl ks) ?_
      refine own_st (V := (T54.setTop (mkF m 56 #[.val (.int p1), .val (.int p2), .val (.int p3), .val (.int (p1 &&& (3 : Int32))), .val (.int (p2 &&& (3 : Int32))), .val (.int ((p3 &&& (2147483647 : Int32)) % (3 : Int32))), .val (.ref b40), .val (.int (if ((p1 &&& (3 : Int32)) - (1 : Int32)) = ((p3 &&& (2147483647 : Int32)) % (3 : Int32)) then (1 : Int32) else 0)), .unset] [(.int ((p3 &&& (2147483647 : Int32)) % (3 : Int32))), (.int ((p1 &&& (3 : Int32)) - (1 : Int32)))]))) (fun t ks => XS.iload X54.here hx rfl (hb hby at_54) rfl ks) ?_
      by_cases q1 : ((p1 &&& (3 : Int32)) - (1 : Int32)) = ((p3 &&& (2147483647 : Int32)) % (3 : Int32))
      · refine own_st (V := (T54.setTop (mkF m 73 #[.val (.int p1), .val (.int p2), .val (.int p3), .val (.int (p1 &&& (3 : Int32))), .val (.int (p2 &&& (3 : Int32))), .val (.int ((p3 &&& (2147483647 : Int32)) % (3 : Int32))), .val (.ref b40), .val (.int (if ((p1 &&& (3 : Int32)) - (1 : Int32)) = ((p3 &&& (2147483647 : Int32)) % (3 : Int32)) then (1 : Int32) else 0)), .unset] []))) (fun t ks => XS.icmpYes X54.here hx rfl (pc0 := 56) (pc' := 73) rfl (hb hby at_56) rfl (XT.ii_eq_t q1) (by decide) (by decide) ks) ?_
        refine own_st (V := (T54.setTop (mkF m 74 #[.val (.int p1), .val (.int p2), .val (.int p3), .val (.int (p1 &&& (3 : Int32))), .val (.int (p2 &&& (3 : Int32))), .val (.int ((p3 &&& (2147483647 : Int32)) % (3 : Int32))), .val (.ref b40), .val (.int (if ((p1 &&& (3 : Int32)) - (1 : Int32)) = ((p3 &&& (2147483647 : Int32)) % (3 : Int32)) then (1 : Int32) else 0)), .unset] [(.int (1 : Int32))]))) (fun t ks => XS.iconst X54.here hx rfl (hb hby at_73) ks) ?_
        refine own_st (V := (T54.setTop (mkF m 78 #[.val (.int p1), .val (.int p2), .val (.int p3), .val (.int (p1 &&& (3 : Int32))), .val (.int (p2 &&& (3 : Int32))), .val (.int ((p3 &&& (2147483647 : Int32)) % (3 : Int32))), .val (.ref b40), .val (.int (if ((p1 &&& (3 : Int32)) - (1 : Int32)) = ((p3 &&& (2147483647 : Int32)) % (3 : Int32)) then (1 : Int32) else 0)), .unset] [(.int (1 : Int32))]))) (fun t ks => XS.goto X54.here hx rfl (pc0 := 74) (pc' := 78) rfl (hb hby at_74) (by decide) (by decide) ks) ?_
        refine own_st (V := (T54.setTop (mkF m 80 #[.val (.int p1), .val (.int p2), .val (.int p3), .val (.int (p1 &&& (3 : Int32))), .val (.int (p2 &&& (3 : Int32))), .val (.int ((p3 &&& (2147483647 : Int32)) % (3 : Int32))), .val (.ref b40), .val (.int (if ((p1 &&& (3 : Int32)) - (1 : Int32)) = ((p3 &&& (2147483647 : Int32)) % (3 : Int32)) then (1 : Int32) else 0)), .val (.int (1 : Int32))] []))) (fun t ks => XS.istore X54.here hx rfl (hb hby at_78) rfl (l' := #[.val (.int p1), .val (.int p2), .val (.int p3), .val (.int (p1 &&& (3 : Int32))), .val (.int (p2 &&& (3 : Int32))), .val (.int ((p3 &&& (2147483647 : Int32)) % (3 : Int32))), .val (.ref b40), .val (.int (if ((p1 &&& (3 : Int32)) - (1 : Int32)) = ((p3 &&& (2147483647 : Int32)) % (3 : Int32)) then (1 : Int32) else 0)), .val (.int (1 : Int32))]) rfl ks) ?_
        refine own_st (V := (T54.setTop (mkF m 82 #[.val (.int p1), .val (.int p2), .val (.int p3), .val (.int (p1 &&& (3 : Int32))), .val (.int (p2 &&& (3 : Int32))), .val (.int ((p3 &&& (2147483647 : Int32)) % (3 : Int32))), .val (.ref b40), .val (.int (if ((p1 &&& (3 : Int32)) - (1 : Int32)) = ((p3 &&& (2147483647 : Int32)) % (3 : Int32)) then (1 : Int32) else 0)), .val (.int (1 : Int32))] [(.int (if ((p1 &&& (3 : Int32)) - (1 : Int32)) = ((p3 &&& (2147483647 : Int32)) % (3 : Int32)) then (1 : Int32) else 0))]))) (fun t ks => XS.iload X54.here hx rfl (hb hby at_80) rfl ks) ?_
        refine own_st (V := (T54.setTop (mkF m 84 #[.val (.int p1), .val (.int p2), .val (.int p3), .val (.int (p1 &&& (3 : Int32))), .val (.int (p2 &&& (3 : Int32))), .val (.int ((p3 &&& (2147483647 : Int32)) % (3 : Int32))), .val (.ref b40), .val (.int (if ((p1 &&& (3 : Int32)) - (1 : Int32)) = ((p3 &&& (2147483647 : Int32)) % (3 : Int32)) then (1 : Int32) else 0)), .val (.int (1 : Int32))] [(.int (1 : Int32)), (.int (if ((p1 &&& (3 : Int32)) - (1 : Int32)) = ((p3 &&& (2147483647 : Int32)) % (3 : Int32)) then (1 : Int32) else 0))]))) (fun t ks => XS.iload X54.here hx rfl (hb hby at_82) rfl ks) ?_
        refine own_st (V := (T54.setTop (mkF m 87 #[.val (.int p1), .val (.int p2), .val (.int p3), .val (.int (p1 &&& (3 : Int32))), .val (.int (p2 &&& (3 : Int32))), .val (.int ((p3 &&& (2147483647 : Int32)) % (3 : Int32))), .val (.ref b40), .val (.int (if ((p1 &&& (3 : Int32)) - (1 : Int32)) = ((p3 &&& (2147483647 : Int32)) % (3 : Int32)) then (1 : Int32) else 0)), .val (.int (1 : Int32))] []))) (fun t ks => XS.icmpNo X54.here hx rfl (hb hby at_84) rfl (XT.ii_ne_f (by simp [q1])) ks) ?_
        refine own_st (V := (T54.setTop (mkF m 88 #[.val (.int p1), .val (.int p2), .val (.int p3), .val (.int (p1 &&& (3 : Int32))), .val (.int (p2 &&& (3 : Int32))), .val (.int ((p3 &&& (2147483647 : Int32)) % (3 : Int32))), .val (.ref b40), .val (.int (if ((p1 &&& (3 : Int32)) - (1 : Int32)) = ((p3 &&& (2147483647 : Int32)) % (3 : Int32)) then (1 : Int32) else 0)), .val (.int (1 : Int32))] [(.int (1 : Int32))]))) (fun t ks => XS.iconst X54.here hx rfl (hb hby at_87) ks) ?_
        refine own_st (V := (T54.setTop (mkF m 92 #[.val (.int p1), .val (.int p2), .val (.int p3), .val (.int (p1 &&& (3 : Int32))), .val (.int (p2 &&& (3 : Int32))), .val (.int ((p3 &&& (2147483647 : Int32)) % (3 : Int32))), .val (.ref b40), .val (.int (if ((p1 &&& (3 : Int32)) - (1 : Int32)) = ((p3 &&& (2147483647 : Int32)) % (3 : Int32)) then (1 : Int32) else 0)), .val (.int (1 : Int32))] [(.int (1 : Int32))]))) (fun t ks => XS.goto X54.here hx rfl (pc0 := 88) (pc' := 92) rfl (hb hby at_88) (by decide) (by decide) ks) ?_
        exact own_retNW X54 hS (by rw [e54]; exact hk) hx hlk (by simp) hret (hb hby at_92) (by decide) (by decide) ⟨rfl, N52⟩
      · refine own_st (V := (T54.setTop (mkF m 59 #[.val (.int p1), .val (.int p2), .val (.int p3), .val (.int (p1 &&& (3 : Int32))), .val (.int (p2 &&& (3 : Int32))), .val (.int ((p3 &&& (2147483647 : Int32)) % (3 : Int32))), .val (.ref b40), .val (.int (if ((p1 &&& (3 : Int32)) - (1 : Int32)) = ((p3 &&& (2147483647 : Int32)) % (3 : Int32)) then (1 : Int32) else 0)), .unset] []))) (fun t ks => XS.icmpNo X54.here hx rfl (hb hby at_56) rfl (XT.ii_eq_f q1) ks) ?_
        refine own_st (V := (T54.setTop (mkF m 61 #[.val (.int p1), .val (.int p2), .val (.int p3), .val (.int (p1 &&& (3 : Int32))), .val (.int (p2 &&& (3 : Int32))), .val (.int ((p3 &&& (2147483647 : Int32)) % (3 : Int32))), .val (.ref b40), .val (.int (if ((p1 &&& (3 : Int32)) - (1 : Int32)) = ((p3 &&& (2147483647 : Int32)) % (3 : Int32)) then (1 : Int32) else 0)), .unset] [(.int (p2 &&& (3 : Int32)))]))) (fun t ks => XS.iload X54.here hx rfl (hb hby at_59) rfl ks) ?_
        refine own_st (V := (T54.setTop (mkF m 77 #[.val (.int p1), .val (.int p2), .val (.int p3), .val (.int (p1 &&& (3 : Int32))), .val (.int (p2 &&& (3 : Int32))), .val (.int ((p3 &&& (2147483647 : Int32)) % (3 : Int32))), .val (.ref b40), .val (.int (if ((p1 &&& (3 : Int32)) - (1 : Int32)) = ((p3 &&& (2147483647 : Int32)) % (3 : Int32)) then (1 : Int32) else 0)), .unset] []))) (fun t ks => XS.ifYes X54.here hx rfl (pc0 := 61) (pc' := 77) rfl (hb hby at_61) rfl (XT.i0_eq_t gs) (by decide) (by decide) ks) ?_
        refine own_st (V := (T54.setTop (mkF m 78 #[.val (.int p1), .val (.int p2), .val (.int p3), .val (.int (p1 &&& (3 : Int32))), .val (.int (p2 &&& (3 : Int32))), .val (.int ((p3 &&& (2147483647 : Int32)) % (3 : Int32))), .val (.ref b40), .val (.int (if ((p1 &&& (3 : Int32)) - (1 : Int32)) = ((p3 &&& (2147483647 : Int32)) % (3 : Int32)) then (1 : Int32) else 0)), .unset] [(.int (0 : Int32))]))) (fun t ks => XS.iconst X54.here hx rfl (hb hby at_77) ks) ?_
        refine own_st (V := (T54.setTop (mkF m 80 #[.val (.int p1), .val (.int p2), .val (.int p3), .val (.int (p1 &&& (3 : Int32))), .val (.int (p2 &&& (3 : Int32))), .val (.int ((p3 &&& (2147483647 : Int32)) % (3 : Int32))), .val (.ref b40), .val (.int (if ((p1 &&& (3 : Int32)) - (1 : Int32)) = ((p3 &&& (2147483647 : Int32)) % (3 : Int32)) then (1 : Int32) else 0)), .val (.int (0 : Int32))] []))) (fun t ks => XS.istore X54.here hx rfl (hb hby at_78) rfl (l' := #[.val (.int p1), .val (.int p2), .val (.int p3), .val (.int (p1 &&& (3 : Int32))), .val (.int (p2 &&& (3 : Int32))), .val (.int ((p3 &&& (2147483647 : Int32)) % (3 : Int32))), .val (.ref b40), .val (.int (if ((p1 &&& (3 : Int32)) - (1 : Int32)) = ((p3 &&& (2147483647 : Int32)) % (3 : Int32)) then (1 : Int32) else 0)), .val (.int (0 : Int32))]) rfl ks) ?_
        refine own_st (V := (T54.setTop (mkF m 82 #[.val (.int p1), .val (.int p2), .val (.int p3), .val (.int (p1 &&& (3 : Int32))), .val (.int (p2 &&& (3 : Int32))), .val (.int ((p3 &&& (2147483647 : Int32)) % (3 : Int32))), .val (.ref b40), .val (.int (if ((p1 &&& (3 : Int32)) - (1 : Int32)) = ((p3 &&& (2147483647 : Int32)) % (3 : Int32)) then (1 : Int32) else 0)), .val (.int (0 : Int32))] [(.int (if ((p1 &&& (3 : Int32)) - (1 : Int32)) = ((p3 &&& (2147483647 : Int32)) % (3 : Int32)) then (1 : Int32) else 0))]))) (fun t ks => XS.iload X54.here hx rfl (hb hby at_80) rfl ks) ?_
        refine own_st (V := (T54.setTop (mkF m 84 #[.val (.int p1), .val (.int p2), .val (.int p3), .val (.int (p1 &&& (3 : Int32))), .val (.int (p2 &&& (3 : Int32))), .val (.int ((p3 &&& (2147483647 : Int32)) % (3 : Int32))), .val (.ref b40), .val (.int (if ((p1 &&& (3 : Int32)) - (1 : Int32)) = ((p3 &&& (2147483647 : Int32)) % (3 : Int32)) then (1 : Int32) else 0)), .val (.int (0 : Int32))] [(.int (0 : Int32)), (.int (if ((p1 &&& (3 : Int32)) - (1 : Int32)) = ((p3 &&& (2147483647 : Int32)) % (3 : Int32)) then (1 : Int32) else 0))]))) (fun t ks => XS.iload X54.here hx rfl (hb hby at_82) rfl ks) ?_
        refine own_st (V := (T54.setTop (mkF m 87 #[.val (.int p1), .val (.int p2), .val (.int p3), .val (.int (p1 &&& (3 : Int32))), .val (.int (p2 &&& (3 : Int32))), .val (.int ((p3 &&& (2147483647 : Int32)) % (3 : Int32))), .val (.ref b40), .val (.int (if ((p1 &&& (3 : Int32)) - (1 : Int32)) = ((p3 &&& (2147483647 : Int32)) % (3 : Int32)) then (1 : Int32) else 0)), .val (.int (0 : Int32))] []))) (fun t ks => XS.icmpNo X54.here hx rfl (hb hby at_84) rfl (XT.ii_ne_f (by simp [q1])) ks) ?_
        refine own_st (V := (T54.setTop (mkF m 88 #[.val (.int p1), .val (.int p2), .val (.int p3), .val (.int (p1 &&& (3 : Int32))), .val (.int (p2 &&& (3 : Int32))), .val (.int ((p3 &&& (2147483647 : Int32)) % (3 : Int32))), .val (.ref b40), .val (.int (if ((p1 &&& (3 : Int32)) - (1 : Int32)) = ((p3 &&& (2147483647 : Int32)) % (3 : Int32)) then (1 : Int32) else 0)), .val (.int (0 : Int32))] [(.int (1 : Int32))]))) (fun t ks => XS.iconst X54.here hx rfl (hb hby at_87) ks) ?_
        refine own_st (V := (T54.setTop (mkF m 92 #[.val (.int p1), .val (.int p2), .val (.int p3), .val (.int (p1 &&& (3 : Int32))), .val (.int (p2 &&& (3 : Int32))), .val (.int ((p3 &&& (2147483647 : Int32)) % (3 : Int32))), .val (.ref b40), .val (.int (if ((p1 &&& (3 : Int32)) - (1 : Int32)) = ((p3 &&& (2147483647 : Int32)) % (3 : Int32)) then (1 : Int32) else 0)), .val (.int (0 : Int32))] [(.int (1 : Int32))]))) (fun t ks => XS.goto X54.here hx rfl (pc0 := 88) (pc' := 92) rfl (hb hby at_88) (by decide) (by decide) ks) ?_
        exact own_retNW X54 hS (by rw [e54]; exact hk) hx hlk (by simp) hret (hb hby at_92) (by decide) (by decide) ⟨rfl, N52⟩
    · refine own_callS X50 hx hZ hown (hw _ (List.mem_of_getElem? (i := 4) rfl)) (hw _ (List.mem_of_getElem? (i := 5) rfl)) (hw _ (List.mem_of_getElem? (i := 6) rfl)) (hw _ (List.mem_of_getElem? (i := 7) rfl)) (by decide) (rmO1 l Z a0 hw (p2 &&& (3 : Int32)) wD wM wA gs T50.heap hO S_wD S_wM S_wA) rfl (by rw [hml]; rfl) (argsL := [(.int (p2 &&& (3 : Int32)))]) (rest := [(.ref ob), (.ref b40), (.ref b40)]) pd_7 rfl rfl rfl (W := 3) (Nat.le_of_eq rfl) (hb hby at_27) (by decide) (by decide) (by decide) (by decide) ?_
      rintro v55 T55 L55 X55 ⟨N55, K55, os, rfl, Es, Vs⟩
      replace N55 := Fr.app N50 N55
      show OGoes p.tables e below _ (T55.setTop (mkF m 30 #[.val (.int p1), .val (.int p2), .val (.int p3), .val (.int (p1 &&& (3 : Int32))), .val (.int (p2 &&& (3 : Int32))), .val (.int ((p3 &&& (2147483647 : Int32)) % (3 : Int32))), .unset, .unset, .unset] [(.ref os), (.ref ob), (.ref b40), (.ref b40)]))
      replace hk := Nat.le_trans hk K55.1
      replace hO := own_old_keep hO K55 all0
      replace Et := Et.keep K55
      replace t_buyer := t_buyer.keep K55 nin0
      replace t_seller := t_seller.keep K55 nin0
      replace Eb := Eb.keep K55
      replace Vb := Vb.keep K55 nin0
      have szO := hO.1
      have neb : @Ne Addr ob b40 := ne_exa Eb Et (by decide)
      have nes : @Ne Addr os b40 := ne_exa Es Et (by decide)
      refine own_callNW X55 hx hZ hS hk rfl hown (hw _ (List.mem_of_getElem? (i := 37) rfl)) (hw _ (List.mem_of_getElem? (i := 38) rfl)) (hw _ (List.mem_of_getElem? (i := 3) rfl)) (hw _ (List.mem_of_getElem? (i := 39) rfl)) (by decide) (rmTI l Z a0 hw b40 ob os T55.heap Et t_buyer t_seller (by omega)) rfl (by rw [hml]; rfl) (argsL := [(.ref ob), (.ref os)]) (rest := [(.ref b40)]) pd_8 rfl rfl rfl (W := 1) (Nat.le_of_eq rfl) (hb hby at_30) (by decide) (by decide) (by decide) (by decide) ?_
      rintro v56 T56 L56 X56 hS hZ hown ⟨rfl, N56, K56, Et, Fb, Fs⟩
      have hk := Nat.le_refl T56.heap.size
      replace N56 := Fr.app N55 N56
      show OGoes p.tables e below _ (T56.setTop (mkF m 33 #[.val (.int p1), .val (.int p2), .val (.int p3), .val (.int (p1 &&& (3 : Int32))), .val (.int (p2 &&& (3 : Int32))), .val (.int ((p3 &&& (2147483647 : Int32)) % (3 : Int32))), .unset, .unset, .unset] [(.ref b40)]))
      replace hO := own_old_keep hO K56 (allS (by omega) all0)
      replace Eb := Eb.keep K56
      replace Es := Es.keep K56
      replace Vb := Vb.keep K56 (ninS neb nin0)
      replace Vs := Vs.keep K56 (ninS nes nin0)
      refine own_st (V := (T56.setTop (mkF m 35 #[.val (.int p1), .val (.int p2), .val (.int p3), .val (.int (p1 &&& (3 : Int32))), .val (.int (p2 &&& (3 : Int32))), .val (.int ((p3 &&& (2147483647 : Int32)) % (3 : Int32))), .val (.ref b40), .unset, .unset] []))) (fun t ks => XS.astore X56.here hx rfl (hb hby at_33) rfl rfl (l' := #[.val (.int p1), .val (.int p2), .val (.int p3), .val (.int (p1 &&& (3 : Int32))), .val (.int (p2 &&& (3 : Int32))), .val (.int ((p3 &&& (2147483647 : Int32)) % (3 : Int32))), .val (.ref b40), .unset, .unset]) rfl ks) ?_
      refine own_st (V := (T56.setTop (mkF m 37 #[.val (.int p1), .val (.int p2), .val (.int p3), .val (.int (p1 &&& (3 : Int32))), .val (.int (p2 &&& (3 : Int32))), .val (.int ((p3 &&& (2147483647 : Int32)) % (3 : Int32))), .val (.ref b40), .unset, .unset] [(.ref b40)]))) (fun t ks => XS.aload X56.here hx rfl (hb hby at_35) rfl rfl ks) ?_
      refine own_st (V := (T56.setTop (mkF m 39 #[.val (.int p1), .val (.int p2), .val (.int p3), .val (.int (p1 &&& (3 : Int32))), .val (.int (p2 &&& (3 : Int32))), .val (.int ((p3 &&& (2147483647 : Int32)) % (3 : Int32))), .val (.ref b40), .unset, .unset] [(.int ((p3 &&& (2147483647 : Int32)) % (3 : Int32))), (.ref b40)]))) (fun t ks => XS.iload X56.here hx rfl (hb hby at_37) rfl ks) ?_
      refine own_callS0 X56 hx hZ hown (hw _ (List.mem_of_getElem? (i := 13) rfl)) (hw _ (List.mem_of_getElem? (i := 14) rfl)) (hw _ (List.mem_of_getElem? (i := 6) rfl)) (hw _ (List.mem_of_getElem? (i := 15) rfl)) (by decide) (rmC l Z a0 hw ((p3 &&& (2147483647 : Int32)) % (3 : Int32)) wD wM wA T56.heap hO S_wD S_wM S_wA) rfl (by rw [hml]; rfl) (argsL := [(.int ((p3 &&& (2147483647 : Int32)) % (3 : Int32)))]) (rest := [(.ref b40)]) pd_3 rfl rfl rfl (W := 1) (Nat.le_of_eq rfl) (hb hby at_39) (by decide) (by decide) (by decide) (by decide) ?_
      intro T57 X57 e57
      show OGoes p.tables e below _ (T57.setTop (mkF m 42 #[.val (.int p1), .val (.int p2), .val (.int p3), .val (.int (p1 &&& (3 : Int32))), .val (.int (p2 &&& (3 : Int32))), .val (.int ((p3 &&& (2147483647 : Int32)) % (3 : Int32))), .val (.ref b40), .unset, .unset] [(.ref (own_cap ((p3 &&& (2147483647 : Int32)) % (3 : Int32)) wD wM wA)), (.ref b40)]))
      refine own_callV0 X57 hx hZ hown (hw _ (List.mem_of_getElem? (i := 62) rfl)) (hw _ (List.mem_of_getElem? (i := 63) rfl)) (hw _ (List.mem_of_getElem? (i := 65) rfl)) (hw _ (List.mem_of_getElem? (i := 64) rfl)) (hw _ (List.mem_of_getElem? (i := 3) rfl)) (hw _ (List.mem_of_getElem? (i := 66) rfl)) (by decide) (rmIn11 l Z a0 hw b40 (own_cap ((p3 &&& (2147483647 : Int32)) % (3 : Int32)) wD wM wA) ob os (own_cap ((p1 &&& (3 : Int32)) - (1 : Int32)) wD wM wA) (own_cap ((p2 &&& (3 : Int32)) - (1 : Int32)) wD wM wA) T56.heap Fb Fs Eb Es Vb Vs) e57 Et (by rw [hml]; rfl) (argsL := [(.ref (own_cap ((p3 &&& (2147483647 : Int32)) % (3 : Int32)) wD wM wA))]) (rest := []) pd_9 rfl rfl rfl (W := 0) (Nat.le_of_eq rfl) (hb hby at_42) (by decide) (by decide) (by decide) (by decide) ?_
      intro T58 X58 e58
      show OGoes p.tables e below _ (T58.setTop (mkF m 45 #[.val (.int p1), .val (.int p2), .val (.int p3), .val (.int (p1 &&& (3 : Int32))), .val (.int (p2 &&& (3 : Int32))), .val (.int ((p3 &&& (2147483647 : Int32)) % (3 : Int32))), .val (.ref b40), .unset, .unset] [(.int (if (own_cap ((p1 &&& (3 : Int32)) - (1 : Int32)) wD wM wA) = (own_cap ((p3 &&& (2147483647 : Int32)) % (3 : Int32)) wD wM wA) ∨ (own_cap ((p2 &&& (3 : Int32)) - (1 : Int32)) wD wM wA) = (own_cap ((p3 &&& (2147483647 : Int32)) % (3 : Int32)) wD wM wA) then (1 : Int32) else 0))]))
      refine own_cast (g' := (mkF m 45 #[.val (.int p1), .val (.int p2), .val (.int p3), .val (.int (p1 &&& (3 : Int32))), .val (.int (p2 &&& (3 : Int32))), .val (.int ((p3 &&& (2147483647 : Int32)) % (3 : Int32))), .val (.ref b40), .unset, .unset] [(.int (if ((p1 &&& (3 : Int32)) - (1 : Int32)) = ((p3 &&& (2147483647 : Int32)) % (3 : Int32)) ∨ ((p2 &&& (3 : Int32)) - (1 : Int32)) = ((p3 &&& (2147483647 : Int32)) % (3 : Int32)) then (1 : Int32) else 0))])) (by rw [show (if (own_cap ((p1 &&& (3 : Int32)) - (1 : Int32)) wD wM wA) = (own_cap ((p3 &&& (2147483647 : Int32)) % (3 : Int32)) wD wM wA) ∨ (own_cap ((p2 &&& (3 : Int32)) - (1 : Int32)) wD wM wA) = (own_cap ((p3 &&& (2147483647 : Int32)) % (3 : Int32)) wD wM wA) then (1 : Int32) else 0) = (if ((p1 &&& (3 : Int32)) - (1 : Int32)) = ((p3 &&& (2147483647 : Int32)) % (3 : Int32)) ∨ ((p2 &&& (3 : Int32)) - (1 : Int32)) = ((p3 &&& (2147483647 : Int32)) % (3 : Int32)) then (1 : Int32) else 0) from (own_ifo (own_inj n1 n2 n3 (own_pred gb) (own_rem p3)) (own_inj n1 n2 n3 (own_pred gs) (own_rem p3)))]) ?_
      refine own_st (V := (T58.setTop (mkF m 47 #[.val (.int p1), .val (.int p2), .val (.int p3), .val (.int (p1 &&& (3 : Int32))), .val (.int (p2 &&& (3 : Int32))), .val (.int ((p3 &&& (2147483647 : Int32)) % (3 : Int32))), .val (.ref b40), .val (.int (if ((p1 &&& (3 : Int32)) - (1 : Int32)) = ((p3 &&& (2147483647 : Int32)) % (3 : Int32)) ∨ ((p2 &&& (3 : Int32)) - (1 : Int32)) = ((p3 &&& (2147483647 : Int32)) % (3 : Int32)) then (1 : Int32) else 0)), .unset] []))) (fun t ks => XS.istore X58.here hx rfl (hb hby at_45) rfl (l' := #[.val (.int p1), .val (.int p2), .val (.int p3), .val (.int (p1 &&& (3 : Int32))), .val (.int (p2 &&& (3 : Int32))), .val (.int ((p3 &&& (2147483647 : Int32)) % (3 : Int32))), .val (.ref b40), .val (.int (if ((p1 &&& (3 : Int32)) - (1 : Int32)) = ((p3 &&& (2147483647 : Int32)) % (3 : Int32)) ∨ ((p2 &&& (3 : Int32)) - (1 : Int32)) = ((p3 &&& (2147483647 : Int32)) % (3 : Int32)) then (1 : Int32) else 0)), .unset]) rfl ks) ?_
      refine own_st (V := (T58.setTop (mkF m 48 #[.val (.int p1), .val (.int p2), .val (.int p3), .val (.int (p1 &&& (3 : Int32))), .val (.int (p2 &&& (3 : Int32))), .val (.int ((p3 &&& (2147483647 : Int32)) % (3 : Int32))), .val (.ref b40), .val (.int (if ((p1 &&& (3 : Int32)) - (1 : Int32)) = ((p3 &&& (2147483647 : Int32)) % (3 : Int32)) ∨ ((p2 &&& (3 : Int32)) - (1 : Int32)) = ((p3 &&& (2147483647 : Int32)) % (3 : Int32)) then (1 : Int32) else 0)), .unset] [(.int (p1 &&& (3 : Int32)))]))) (fun t ks => XS.iloadN X58.here hx rfl (hb hby at_47) rfl ks) ?_
      refine own_st (V := (T58.setTop (mkF m 51 #[.val (.int p1), .val (.int p2), .val (.int p3), .val (.int (p1 &&& (3 : Int32))), .val (.int (p2 &&& (3 : Int32))), .val (.int ((p3 &&& (2147483647 : Int32)) % (3 : Int32))), .val (.ref b40), .val (.int (if ((p1 &&& (3 : Int32)) - (1 : Int32)) = ((p3 &&& (2147483647 : Int32)) % (3 : Int32)) ∨ ((p2 &&& (3 : Int32)) - (1 : Int32)) = ((p3 &&& (2147483647 : Int32)) % (3 : Int32)) then (1 : Int32) else 0)), .unset] []))) (fun t ks => XS.ifNo X58.here hx rfl (hb hby at_48) rfl (XT.i0_eq_f gb) ks) ?_
      refine own_st (V := (T58.setTop (mkF m 52 #[.val (.int p1), .val (.int p2), .val (.int p3), .val (.int (p1 &&& (3 : Int32))), .val (.int (p2 &&& (3 : Int32))), .val (.int ((p3 &&& (2147483647 : Int32)) % (3 : Int32))), .val (.ref b40), .val (.int (if ((p1 &&& (3 : Int32)) - (1 : Int32)) = ((p3 &&& (2147483647 : Int32)) % (3 : Int32)) ∨ ((p2 &&& (3 : Int32)) - (1 : Int32)) = ((p3 &&& (2147483647 : Int32)) % (3 : Int32)) then (1 : Int32) else 0)), .unset] [(.int (p1 &&& (3 : Int32)))]))) (fun t ks => XS.iloadN X58.here hx rfl (hb hby at_51) rfl ks) ?_
      refine own_st (V := (T58.setTop (mkF m 53 #[.val (.int p1), .val (.int p2), .val (.int p3), .val (.int (p1 &&& (3 : Int32))), .val (.int (p2 &&& (3 : Int32))), .val (.int ((p3 &&& (2147483647 : Int32)) % (3 : Int32))), .val (.ref b40), .val (.int (if ((p1 &&& (3 : Int32)) - (1 : Int32)) = ((p3 &&& (2147483647 : Int32)) % (3 : Int32)) ∨ ((p2 &&& (3 : Int32)) - (1 : Int32)) = ((p3 &&& (2147483647 : Int32)) % (3 : Int32)) then (1 : Int32) else 0)), .unset] [(.int (1 : Int32)), (.int (p1 &&& (3 : Int32)))]))) (fun t ks => XS.iconst X58.here hx rfl (hb hby at_52) ks) ?_
      refine own_st (V := (T58.setTop (mkF m 54 #[.val (.int p1), .val (.int p2), .val (.int p3), .val (.int (p1 &&& (3 : Int32))), .val (.int (p2 &&& (3 : Int32))), .val (.int ((p3 &&& (2147483647 : Int32)) % (3 : Int32))), .val (.ref b40), .val (.int (if ((p1 &&& (3 : Int32)) - (1 : Int32)) = ((p3 &&& (2147483647 : Int32)) % (3 : Int32)) ∨ ((p2 &&& (3 : Int32)) - (1 : Int32)) = ((p3 &&& (2147483647 : Int32)) % (3 : Int32)) then (1 : Int32) else 0)), .unset] [(.int ((p1 &&& (3 : Int32)) - (1 : Int32)))]))) (fun t ks => XS.isub X58.here hx rfl (hb hby at_53) rfl ks) ?_
      refine own_st (V := (T58.setTop (mkF m 56 #[.val (.int p1), .val (.int p2), .val (.int p3), .val (.int (p1 &&& (3 : Int32))), .val (.int (p2 &&& (3 : Int32))), .val (.int ((p3 &&& (2147483647 : Int32)) % (3 : Int32))), .val (.ref b40), .val (.int (if ((p1 &&& (3 : Int32)) - (1 : Int32)) = ((p3 &&& (2147483647 : Int32)) % (3 : Int32)) ∨ ((p2 &&& (3 : Int32)) - (1 : Int32)) = ((p3 &&& (2147483647 : Int32)) % (3 : Int32)) then (1 : Int32) else 0)), .unset] [(.int ((p3 &&& (2147483647 : Int32)) % (3 : Int32))), (.int ((p1 &&& (3 : Int32)) - (1 : Int32)))]))) (fun t ks => XS.iload X58.here hx rfl (hb hby at_54) rfl ks) ?_
      by_cases q1 : ((p1 &&& (3 : Int32)) - (1 : Int32)) = ((p3 &&& (2147483647 : Int32)) % (3 : Int32))
      · refine own_st (V := (T58.setTop (mkF m 73 #[.val (.int p1), .val (.int p2), .val (.int p3), .val (.int (p1 &&& (3 : Int32))), .val (.int (p2 &&& (3 : Int32))), .val (.int ((p3 &&& (2147483647 : Int32)) % (3 : Int32))), .val (.ref b40), .val (.int (if ((p1 &&& (3 : Int32)) - (1 : Int32)) = ((p3 &&& (2147483647 : Int32)) % (3 : Int32)) ∨ ((p2 &&& (3 : Int32)) - (1 : Int32)) = ((p3 &&& (2147483647 : Int32)) % (3 : Int32)) then (1 : Int32) else 0)), .unset] []))) (fun t ks => XS.icmpYes X58.here hx rfl (pc0 := 56) (pc' := 73) rfl (hb hby at_56) rfl (XT.ii_eq_t q1) (by decide) (by decide) ks) ?_
        refine own_st (V := (T58.setTop (mkF m 74 #[.val (.int p1), .val (.int p2), .val (.int p3), .val (.int (p1 &&& (3 : Int32))), .val (.int (p2 &&& (3 : Int32))), .val (.int ((p3 &&& (2147483647 : Int32)) % (3 : Int32))), .val (.ref b40), .val (.int (if ((p1 &&& (3 : Int32)) - (1 : Int32)) = ((p3 &&& (2147483647 : Int32)) % (3 : Int32)) ∨ ((p2 &&& (3 : Int32)) - (1 : Int32)) = ((p3 &&& (2147483647 : Int32)) % (3 : Int32)) then (1 : Int32) else 0)), .unset] [(.int (1 : Int32))]))) (fun t ks => XS.iconst X58.here hx rfl (hb hby at_73) ks) ?_
        refine own_st (V := (T58.setTop (mkF m 78 #[.val (.int p1), .val (.int p2), .val (.int p3), .val (.int (p1 &&& (3 : Int32))), .val (.int (p2 &&& (3 : Int32))), .val (.int ((p3 &&& (2147483647 : Int32)) % (3 : Int32))), .val (.ref b40), .val (.int (if ((p1 &&& (3 : Int32)) - (1 : Int32)) = ((p3 &&& (2147483647 : Int32)) % (3 : Int32)) ∨ ((p2 &&& (3 : Int32)) - (1 : Int32)) = ((p3 &&& (2147483647 : Int32)) % (3 : Int32)) then (1 : Int32) else 0)), .unset] [(.int (1 : Int32))]))) (fun t ks => XS.goto X58.here hx rfl (pc0 := 74) (pc' := 78) rfl (hb hby at_74) (by decide) (by decide) ks) ?_
        refine own_st (V := (T58.setTop (mkF m 80 #[.val (.int p1), .val (.int p2), .val (.int p3), .val (.int (p1 &&& (3 : Int32))), .val (.int (p2 &&& (3 : Int32))), .val (.int ((p3 &&& (2147483647 : Int32)) % (3 : Int32))), .val (.ref b40), .val (.int (if ((p1 &&& (3 : Int32)) - (1 : Int32)) = ((p3 &&& (2147483647 : Int32)) % (3 : Int32)) ∨ ((p2 &&& (3 : Int32)) - (1 : Int32)) = ((p3 &&& (2147483647 : Int32)) % (3 : Int32)) then (1 : Int32) else 0)), .val (.int (1 : Int32))] []))) (fun t ks => XS.istore X58.here hx rfl (hb hby at_78) rfl (l' := #[.val (.int p1), .val (.int p2), .val (.int p3), .val (.int (p1 &&& (3 : Int32))), .val (.int (p2 &&& (3 : Int32))), .val (.int ((p3 &&& (2147483647 : Int32)) % (3 : Int32))), .val (.ref b40), .val (.int (if ((p1 &&& (3 : Int32)) - (1 : Int32)) = ((p3 &&& (2147483647 : Int32)) % (3 : Int32)) ∨ ((p2 &&& (3 : Int32)) - (1 : Int32)) = ((p3 &&& (2147483647 : Int32)) % (3 : Int32)) then (1 : Int32) else 0)), .val (.int (1 : Int32))]) rfl ks) ?_
        refine own_st (V := (T58.setTop (mkF m 82 #[.val (.int p1), .val (.int p2), .val (.int p3), .val (.int (p1 &&& (3 : Int32))), .val (.int (p2 &&& (3 : Int32))), .val (.int ((p3 &&& (2147483647 : Int32)) % (3 : Int32))), .val (.ref b40), .val (.int (if ((p1 &&& (3 : Int32)) - (1 : Int32)) = ((p3 &&& (2147483647 : Int32)) % (3 : Int32)) ∨ ((p2 &&& (3 : Int32)) - (1 : Int32)) = ((p3 &&& (2147483647 : Int32)) % (3 : Int32)) then (1 : Int32) else 0)), .val (.int (1 : Int32))] [(.int (if ((p1 &&& (3 : Int32)) - (1 : Int32)) = ((p3 &&& (2147483647 : Int32)) % (3 : Int32)) ∨ ((p2 &&& (3 : Int32)) - (1 : Int32)) = ((p3 &&& (2147483647 : Int32)) % (3 : Int32)) then (1 : Int32) else 0))]))) (fun t ks => XS.iload X58.here hx rfl (hb hby at_80) rfl ks) ?_
        refine own_st (V := (T58.setTop (mkF m 84 #[.val (.int p1), .val (.int p2), .val (.int p3), .val (.int (p1 &&& (3 : Int32))), .val (.int (p2 &&& (3 : Int32))), .val (.int ((p3 &&& (2147483647 : Int32)) % (3 : Int32))), .val (.ref b40), .val (.int (if ((p1 &&& (3 : Int32)) - (1 : Int32)) = ((p3 &&& (2147483647 : Int32)) % (3 : Int32)) ∨ ((p2 &&& (3 : Int32)) - (1 : Int32)) = ((p3 &&& (2147483647 : Int32)) % (3 : Int32)) then (1 : Int32) else 0)), .val (.int (1 : Int32))] [(.int (1 : Int32)), (.int (if ((p1 &&& (3 : Int32)) - (1 : Int32)) = ((p3 &&& (2147483647 : Int32)) % (3 : Int32)) ∨ ((p2 &&& (3 : Int32)) - (1 : Int32)) = ((p3 &&& (2147483647 : Int32)) % (3 : Int32)) then (1 : Int32) else 0))]))) (fun t ks => XS.iload X58.here hx rfl (hb hby at_82) rfl ks) ?_
        refine own_st (V := (T58.setTop (mkF m 87 #[.val (.int p1), .val (.int p2), .val (.int p3), .val (.int (p1 &&& (3 : Int32))), .val (.int (p2 &&& (3 : Int32))), .val (.int ((p3 &&& (2147483647 : Int32)) % (3 : Int32))), .val (.ref b40), .val (.int (if ((p1 &&& (3 : Int32)) - (1 : Int32)) = ((p3 &&& (2147483647 : Int32)) % (3 : Int32)) ∨ ((p2 &&& (3 : Int32)) - (1 : Int32)) = ((p3 &&& (2147483647 : Int32)) % (3 : Int32)) then (1 : Int32) else 0)), .val (.int (1 : Int32))] []))) (fun t ks => XS.icmpNo X58.here hx rfl (hb hby at_84) rfl (XT.ii_ne_f (by simp [q1])) ks) ?_
        refine own_st (V := (T58.setTop (mkF m 88 #[.val (.int p1), .val (.int p2), .val (.int p3), .val (.int (p1 &&& (3 : Int32))), .val (.int (p2 &&& (3 : Int32))), .val (.int ((p3 &&& (2147483647 : Int32)) % (3 : Int32))), .val (.ref b40), .val (.int (if ((p1 &&& (3 : Int32)) - (1 : Int32)) = ((p3 &&& (2147483647 : Int32)) % (3 : Int32)) ∨ ((p2 &&& (3 : Int32)) - (1 : Int32)) = ((p3 &&& (2147483647 : Int32)) % (3 : Int32)) then (1 : Int32) else 0)), .val (.int (1 : Int32))] [(.int (1 : Int32))]))) (fun t ks => XS.iconst X58.here hx rfl (hb hby at_87) ks) ?_
        refine own_st (V := (T58.setTop (mkF m 92 #[.val (.int p1), .val (.int p2), .val (.int p3), .val (.int (p1 &&& (3 : Int32))), .val (.int (p2 &&& (3 : Int32))), .val (.int ((p3 &&& (2147483647 : Int32)) % (3 : Int32))), .val (.ref b40), .val (.int (if ((p1 &&& (3 : Int32)) - (1 : Int32)) = ((p3 &&& (2147483647 : Int32)) % (3 : Int32)) ∨ ((p2 &&& (3 : Int32)) - (1 : Int32)) = ((p3 &&& (2147483647 : Int32)) % (3 : Int32)) then (1 : Int32) else 0)), .val (.int (1 : Int32))] [(.int (1 : Int32))]))) (fun t ks => XS.goto X58.here hx rfl (pc0 := 88) (pc' := 92) rfl (hb hby at_88) (by decide) (by decide) ks) ?_
        exact own_retNW X58 hS (by rw [e58]; exact hk) hx hlk (by simp) hret (hb hby at_92) (by decide) (by decide) ⟨rfl, N56⟩
      · refine own_st (V := (T58.setTop (mkF m 59 #[.val (.int p1), .val (.int p2), .val (.int p3), .val (.int (p1 &&& (3 : Int32))), .val (.int (p2 &&& (3 : Int32))), .val (.int ((p3 &&& (2147483647 : Int32)) % (3 : Int32))), .val (.ref b40), .val (.int (if ((p1 &&& (3 : Int32)) - (1 : Int32)) = ((p3 &&& (2147483647 : Int32)) % (3 : Int32)) ∨ ((p2 &&& (3 : Int32)) - (1 : Int32)) = ((p3 &&& (2147483647 : Int32)) % (3 : Int32)) then (1 : Int32) else 0)), .unset] []))) (fun t ks => XS.icmpNo X58.here hx rfl (hb hby at_56) rfl (XT.ii_eq_f q1) ks) ?_
        refine own_st (V := (T58.setTop (mkF m 61 #[.val (.int p1), .val (.int p2), .val (.int p3), .val (.int (p1 &&& (3 : Int32))), .val (.int (p2 &&& (3 : Int32))), .val (.int ((p3 &&& (2147483647 : Int32)) % (3 : Int32))), .val (.ref b40), .val (.int (if ((p1 &&& (3 : Int32)) - (1 : Int32)) = ((p3 &&& (2147483647 : Int32)) % (3 : Int32)) ∨ ((p2 &&& (3 : Int32)) - (1 : Int32)) = ((p3 &&& (2147483647 : Int32)) % (3 : Int32)) then (1 : Int32) else 0)), .unset] [(.int (p2 &&& (3 : Int32)))]))) (fun t ks => XS.iload X58.here hx rfl (hb hby at_59) rfl ks) ?_
        refine own_st (V := (T58.setTop (mkF m 64 #[.val (.int p1), .val (.int p2), .val (.int p3), .val (.int (p1 &&& (3 : Int32))), .val (.int (p2 &&& (3 : Int32))), .val (.int ((p3 &&& (2147483647 : Int32)) % (3 : Int32))), .val (.ref b40), .val (.int (if ((p1 &&& (3 : Int32)) - (1 : Int32)) = ((p3 &&& (2147483647 : Int32)) % (3 : Int32)) ∨ ((p2 &&& (3 : Int32)) - (1 : Int32)) = ((p3 &&& (2147483647 : Int32)) % (3 : Int32)) then (1 : Int32) else 0)), .unset] []))) (fun t ks => XS.ifNo X58.here hx rfl (hb hby at_61) rfl (XT.i0_eq_f gs) ks) ?_
        refine own_st (V := (T58.setTop (mkF m 66 #[.val (.int p1), .val (.int p2), .val (.int p3), .val (.int (p1 &&& (3 : Int32))), .val (.int (p2 &&& (3 : Int32))), .val (.int ((p3 &&& (2147483647 : Int32)) % (3 : Int32))), .val (.ref b40), .val (.int (if ((p1 &&& (3 : Int32)) - (1 : Int32)) = ((p3 &&& (2147483647 : Int32)) % (3 : Int32)) ∨ ((p2 &&& (3 : Int32)) - (1 : Int32)) = ((p3 &&& (2147483647 : Int32)) % (3 : Int32)) then (1 : Int32) else 0)), .unset] [(.int (p2 &&& (3 : Int32)))]))) (fun t ks => XS.iload X58.here hx rfl (hb hby at_64) rfl ks) ?_
        refine own_st (V := (T58.setTop (mkF m 67 #[.val (.int p1), .val (.int p2), .val (.int p3), .val (.int (p1 &&& (3 : Int32))), .val (.int (p2 &&& (3 : Int32))), .val (.int ((p3 &&& (2147483647 : Int32)) % (3 : Int32))), .val (.ref b40), .val (.int (if ((p1 &&& (3 : Int32)) - (1 : Int32)) = ((p3 &&& (2147483647 : Int32)) % (3 : Int32)) ∨ ((p2 &&& (3 : Int32)) - (1 : Int32)) = ((p3 &&& (2147483647 : Int32)) % (3 : Int32)) then (1 : Int32) else 0)), .unset] [(.int (1 : Int32)), (.int (p2 &&& (3 : Int32)))]))) (fun t ks => XS.iconst X58.here hx rfl (hb hby at_66) ks) ?_
        refine own_st (V := (T58.setTop (mkF m 68 #[.val (.int p1), .val (.int p2), .val (.int p3), .val (.int (p1 &&& (3 : Int32))), .val (.int (p2 &&& (3 : Int32))), .val (.int ((p3 &&& (2147483647 : Int32)) % (3 : Int32))), .val (.ref b40), .val (.int (if ((p1 &&& (3 : Int32)) - (1 : Int32)) = ((p3 &&& (2147483647 : Int32)) % (3 : Int32)) ∨ ((p2 &&& (3 : Int32)) - (1 : Int32)) = ((p3 &&& (2147483647 : Int32)) % (3 : Int32)) then (1 : Int32) else 0)), .unset] [(.int ((p2 &&& (3 : Int32)) - (1 : Int32)))]))) (fun t ks => XS.isub X58.here hx rfl (hb hby at_67) rfl ks) ?_
        refine own_st (V := (T58.setTop (mkF m 70 #[.val (.int p1), .val (.int p2), .val (.int p3), .val (.int (p1 &&& (3 : Int32))), .val (.int (p2 &&& (3 : Int32))), .val (.int ((p3 &&& (2147483647 : Int32)) % (3 : Int32))), .val (.ref b40), .val (.int (if ((p1 &&& (3 : Int32)) - (1 : Int32)) = ((p3 &&& (2147483647 : Int32)) % (3 : Int32)) ∨ ((p2 &&& (3 : Int32)) - (1 : Int32)) = ((p3 &&& (2147483647 : Int32)) % (3 : Int32)) then (1 : Int32) else 0)), .unset] [(.int ((p3 &&& (2147483647 : Int32)) % (3 : Int32))), (.int ((p2 &&& (3 : Int32)) - (1 : Int32)))]))) (fun t ks => XS.iload X58.here hx rfl (hb hby at_68) rfl ks) ?_
        by_cases q2 : ((p2 &&& (3 : Int32)) - (1 : Int32)) = ((p3 &&& (2147483647 : Int32)) % (3 : Int32))
        · refine own_st (V := (T58.setTop (mkF m 73 #[.val (.int p1), .val (.int p2), .val (.int p3), .val (.int (p1 &&& (3 : Int32))), .val (.int (p2 &&& (3 : Int32))), .val (.int ((p3 &&& (2147483647 : Int32)) % (3 : Int32))), .val (.ref b40), .val (.int (if ((p1 &&& (3 : Int32)) - (1 : Int32)) = ((p3 &&& (2147483647 : Int32)) % (3 : Int32)) ∨ ((p2 &&& (3 : Int32)) - (1 : Int32)) = ((p3 &&& (2147483647 : Int32)) % (3 : Int32)) then (1 : Int32) else 0)), .unset] []))) (fun t ks => XS.icmpNo X58.here hx rfl (hb hby at_70) rfl (XT.ii_ne_f q2) ks) ?_
          refine own_st (V := (T58.setTop (mkF m 74 #[.val (.int p1), .val (.int p2), .val (.int p3), .val (.int (p1 &&& (3 : Int32))), .val (.int (p2 &&& (3 : Int32))), .val (.int ((p3 &&& (2147483647 : Int32)) % (3 : Int32))), .val (.ref b40), .val (.int (if ((p1 &&& (3 : Int32)) - (1 : Int32)) = ((p3 &&& (2147483647 : Int32)) % (3 : Int32)) ∨ ((p2 &&& (3 : Int32)) - (1 : Int32)) = ((p3 &&& (2147483647 : Int32)) % (3 : Int32)) then (1 : Int32) else 0)), .unset] [(.int (1 : Int32))]))) (fun t ks => XS.iconst X58.here hx rfl (hb hby at_73) ks) ?_
          refine own_st (V := (T58.setTop (mkF m 78 #[.val (.int p1), .val (.int p2), .val (.int p3), .val (.int (p1 &&& (3 : Int32))), .val (.int (p2 &&& (3 : Int32))), .val (.int ((p3 &&& (2147483647 : Int32)) % (3 : Int32))), .val (.ref b40), .val (.int (if ((p1 &&& (3 : Int32)) - (1 : Int32)) = ((p3 &&& (2147483647 : Int32)) % (3 : Int32)) ∨ ((p2 &&& (3 : Int32)) - (1 : Int32)) = ((p3 &&& (2147483647 : Int32)) % (3 : Int32)) then (1 : Int32) else 0)), .unset] [(.int (1 : Int32))]))) (fun t ks => XS.goto X58.here hx rfl (pc0 := 74) (pc' := 78) rfl (hb hby at_74) (by decide) (by decide) ks) ?_
          refine own_st (V := (T58.setTop (mkF m 80 #[.val (.int p1), .val (.int p2), .val (.int p3), .val (.int (p1 &&& (3 : Int32))), .val (.int (p2 &&& (3 : Int32))), .val (.int ((p3 &&& (2147483647 : Int32)) % (3 : Int32))), .val (.ref b40), .val (.int (if ((p1 &&& (3 : Int32)) - (1 : Int32)) = ((p3 &&& (2147483647 : Int32)) % (3 : Int32)) ∨ ((p2 &&& (3 : Int32)) - (1 : Int32)) = ((p3 &&& (2147483647 : Int32)) % (3 : Int32)) then (1 : Int32) else 0)), .val (.int (1 : Int32))] []))) (fun t ks => XS.istore X58.here hx rfl (hb hby at_78) rfl (l' := #[.val (.int p1), .val (.int p2), .val (.int p3), .val (.int (p1 &&& (3 : Int32))), .val (.int (p2 &&& (3 : Int32))), .val (.int ((p3 &&& (2147483647 : Int32)) % (3 : Int32))), .val (.ref b40), .val (.int (if ((p1 &&& (3 : Int32)) - (1 : Int32)) = ((p3 &&& (2147483647 : Int32)) % (3 : Int32)) ∨ ((p2 &&& (3 : Int32)) - (1 : Int32)) = ((p3 &&& (2147483647 : Int32)) % (3 : Int32)) then (1 : Int32) else 0)), .val (.int (1 : Int32))]) rfl ks) ?_
          refine own_st (V := (T58.setTop (mkF m 82 #[.val (.int p1), .val (.int p2), .val (.int p3), .val (.int (p1 &&& (3 : Int32))), .val (.int (p2 &&& (3 : Int32))), .val (.int ((p3 &&& (2147483647 : Int32)) % (3 : Int32))), .val (.ref b40), .val (.int (if ((p1 &&& (3 : Int32)) - (1 : Int32)) = ((p3 &&& (2147483647 : Int32)) % (3 : Int32)) ∨ ((p2 &&& (3 : Int32)) - (1 : Int32)) = ((p3 &&& (2147483647 : Int32)) % (3 : Int32)) then (1 : Int32) else 0)), .val (.int (1 : Int32))] [(.int (if ((p1 &&& (3 : Int32)) - (1 : Int32)) = ((p3 &&& (2147483647 : Int32)) % (3 : Int32)) ∨ ((p2 &&& (3 : Int32)) - (1 : Int32)) = ((p3 &&& (2147483647 : Int32)) % (3 : Int32)) then (1 : Int32) else 0))]))) (fun t ks => XS.iload X58.here hx rfl (hb hby at_80) rfl ks) ?_
          refine own_st (V := (T58.setTop (mkF m 84 #[.val (.int p1), .val (.int p2), .val (.int p3), .val (.int (p1 &&& (3 : Int32))), .val (.int (p2 &&& (3 : Int32))), .val (.int ((p3 &&& (2147483647 : Int32)) % (3 : Int32))), .val (.ref b40), .val (.int (if ((p1 &&& (3 : Int32)) - (1 : Int32)) = ((p3 &&& (2147483647 : Int32)) % (3 : Int32)) ∨ ((p2 &&& (3 : Int32)) - (1 : Int32)) = ((p3 &&& (2147483647 : Int32)) % (3 : Int32)) then (1 : Int32) else 0)), .val (.int (1 : Int32))] [(.int (1 : Int32)), (.int (if ((p1 &&& (3 : Int32)) - (1 : Int32)) = ((p3 &&& (2147483647 : Int32)) % (3 : Int32)) ∨ ((p2 &&& (3 : Int32)) - (1 : Int32)) = ((p3 &&& (2147483647 : Int32)) % (3 : Int32)) then (1 : Int32) else 0))]))) (fun t ks => XS.iload X58.here hx rfl (hb hby at_82) rfl ks) ?_
          refine own_st (V := (T58.setTop (mkF m 87 #[.val (.int p1), .val (.int p2), .val (.int p3), .val (.int (p1 &&& (3 : Int32))), .val (.int (p2 &&& (3 : Int32))), .val (.int ((p3 &&& (2147483647 : Int32)) % (3 : Int32))), .val (.ref b40), .val (.int (if ((p1 &&& (3 : Int32)) - (1 : Int32)) = ((p3 &&& (2147483647 : Int32)) % (3 : Int32)) ∨ ((p2 &&& (3 : Int32)) - (1 : Int32)) = ((p3 &&& (2147483647 : Int32)) % (3 : Int32)) then (1 : Int32) else 0)), .val (.int (1 : Int32))] []))) (fun t ks => XS.icmpNo X58.here hx rfl (hb hby at_84) rfl (XT.ii_ne_f (by simp [q1, q2])) ks) ?_
          refine own_st (V := (T58.setTop (mkF m 88 #[.val (.int p1), .val (.int p2), .val (.int p3), .val (.int (p1 &&& (3 : Int32))), .val (.int (p2 &&& (3 : Int32))), .val (.int ((p3 &&& (2147483647 : Int32)) % (3 : Int32))), .val (.ref b40), .val (.int (if ((p1 &&& (3 : Int32)) - (1 : Int32)) = ((p3 &&& (2147483647 : Int32)) % (3 : Int32)) ∨ ((p2 &&& (3 : Int32)) - (1 : Int32)) = ((p3 &&& (2147483647 : Int32)) % (3 : Int32)) then (1 : Int32) else 0)), .val (.int (1 : Int32))] [(.int (1 : Int32))]))) (fun t ks => XS.iconst X58.here hx rfl (hb hby at_87) ks) ?_
          refine own_st (V := (T58.setTop (mkF m 92 #[.val (.int p1), .val (.int p2), .val (.int p3), .val (.int (p1 &&& (3 : Int32))), .val (.int (p2 &&& (3 : Int32))), .val (.int ((p3 &&& (2147483647 : Int32)) % (3 : Int32))), .val (.ref b40), .val (.int (if ((p1 &&& (3 : Int32)) - (1 : Int32)) = ((p3 &&& (2147483647 : Int32)) % (3 : Int32)) ∨ ((p2 &&& (3 : Int32)) - (1 : Int32)) = ((p3 &&& (2147483647 : Int32)) % (3 : Int32)) then (1 : Int32) else 0)), .val (.int (1 : Int32))] [(.int (1 : Int32))]))) (fun t ks => XS.goto X58.here hx rfl (pc0 := 88) (pc' := 92) rfl (hb hby at_88) (by decide) (by decide) ks) ?_
          exact own_retNW X58 hS (by rw [e58]; exact hk) hx hlk (by simp) hret (hb hby at_92) (by decide) (by decide) ⟨rfl, N56⟩
        · refine own_st (V := (T58.setTop (mkF m 77 #[.val (.int p1), .val (.int p2), .val (.int p3), .val (.int (p1 &&& (3 : Int32))), .val (.int (p2 &&& (3 : Int32))), .val (.int ((p3 &&& (2147483647 : Int32)) % (3 : Int32))), .val (.ref b40), .val (.int (if ((p1 &&& (3 : Int32)) - (1 : Int32)) = ((p3 &&& (2147483647 : Int32)) % (3 : Int32)) ∨ ((p2 &&& (3 : Int32)) - (1 : Int32)) = ((p3 &&& (2147483647 : Int32)) % (3 : Int32)) then (1 : Int32) else 0)), .unset] []))) (fun t ks => XS.icmpYes X58.here hx rfl (pc0 := 70) (pc' := 77) rfl (hb hby at_70) rfl (XT.ii_ne_t q2) (by decide) (by decide) ks) ?_
          refine own_st (V := (T58.setTop (mkF m 78 #[.val (.int p1), .val (.int p2), .val (.int p3), .val (.int (p1 &&& (3 : Int32))), .val (.int (p2 &&& (3 : Int32))), .val (.int ((p3 &&& (2147483647 : Int32)) % (3 : Int32))), .val (.ref b40), .val (.int (if ((p1 &&& (3 : Int32)) - (1 : Int32)) = ((p3 &&& (2147483647 : Int32)) % (3 : Int32)) ∨ ((p2 &&& (3 : Int32)) - (1 : Int32)) = ((p3 &&& (2147483647 : Int32)) % (3 : Int32)) then (1 : Int32) else 0)), .unset] [(.int (0 : Int32))]))) (fun t ks => XS.iconst X58.here hx rfl (hb hby at_77) ks) ?_
          refine own_st (V := (T58.setTop (mkF m 80 #[.val (.int p1), .val (.int p2), .val (.int p3), .val (.int (p1 &&& (3 : Int32))), .val (.int (p2 &&& (3 : Int32))), .val (.int ((p3 &&& (2147483647 : Int32)) % (3 : Int32))), .val (.ref b40), .val (.int (if ((p1 &&& (3 : Int32)) - (1 : Int32)) = ((p3 &&& (2147483647 : Int32)) % (3 : Int32)) ∨ ((p2 &&& (3 : Int32)) - (1 : Int32)) = ((p3 &&& (2147483647 : Int32)) % (3 : Int32)) then (1 : Int32) else 0)), .val (.int (0 : Int32))] []))) (fun t ks => XS.istore X58.here hx rfl (hb hby at_78) rfl (l' := #[.val (.int p1), .val (.int p2), .val (.int p3), .val (.int (p1 &&& (3 : Int32))), .val (.int (p2 &&& (3 : Int32))), .val (.int ((p3 &&& (2147483647 : Int32)) % (3 : Int32))), .val (.ref b40), .val (.int (if ((p1 &&& (3 : Int32)) - (1 : Int32)) = ((p3 &&& (2147483647 : Int32)) % (3 : Int32)) ∨ ((p2 &&& (3 : Int32)) - (1 : Int32)) = ((p3 &&& (2147483647 : Int32)) % (3 : Int32)) then (1 : Int32) else 0)), .val (.int (0 : Int32))]) rfl ks) ?_
          refine own_st (V := (T58.setTop (mkF m 82 #[.val (.int p1), .val (.int p2), .val (.int p3), .val (.int (p1 &&& (3 : Int32))), .val (.int (p2 &&& (3 : Int32))), .val (.int ((p3 &&& (2147483647 : Int32)) % (3 : Int32))), .val (.ref b40), .val (.int (if ((p1 &&& (3 : Int32)) - (1 : Int32)) = ((p3 &&& (2147483647 : Int32)) % (3 : Int32)) ∨ ((p2 &&& (3 : Int32)) - (1 : Int32)) = ((p3 &&& (2147483647 : Int32)) % (3 : Int32)) then (1 : Int32) else 0)), .val (.int (0 : Int32))] [(.int (if ((p1 &&& (3 : Int32)) - (1 : Int32)) = ((p3 &&& (2147483647 : Int32)) % (3 : Int32)) ∨ ((p2 &&& (3 : Int32)) - (1 : Int32)) = ((p3 &&& (2147483647 : Int32)) % (3 : Int32)) then (1 : Int32) else 0))]))) (fun t ks => XS.iload X58.here hx rfl (hb hby at_80) rfl ks) ?_
          refine own_st (V := (T58.setTop (mkF m 84 #[.val (.int p1), .val (.int p2), .val (.int p3), .val (.int (p1 &&& (3 : Int32))), .val (.int (p2 &&& (3 : Int32))), .val (.int ((p3 &&& (2147483647 : Int32)) % (3 : Int32))), .val (.ref b40), .val (.int (if ((p1 &&& (3 : Int32)) - (1 : Int32)) = ((p3 &&& (2147483647 : Int32)) % (3 : Int32)) ∨ ((p2 &&& (3 : Int32)) - (1 : Int32)) = ((p3 &&& (2147483647 : Int32)) % (3 : Int32)) then (1 : Int32) else 0)), .val (.int (0 : Int32))] [(.int (0 : Int32)), (.int (if ((p1 &&& (3 : Int32)) - (1 : Int32)) = ((p3 &&& (2147483647 : Int32)) % (3 : Int32)) ∨ ((p2 &&& (3 : Int32)) - (1 : Int32)) = ((p3 &&& (2147483647 : Int32)) % (3 : Int32)) then (1 : Int32) else 0))]))) (fun t ks => XS.iload X58.here hx rfl (hb hby at_82) rfl ks) ?_
          refine own_st (V := (T58.setTop (mkF m 87 #[.val (.int p1), .val (.int p2), .val (.int p3), .val (.int (p1 &&& (3 : Int32))), .val (.int (p2 &&& (3 : Int32))), .val (.int ((p3 &&& (2147483647 : Int32)) % (3 : Int32))), .val (.ref b40), .val (.int (if ((p1 &&& (3 : Int32)) - (1 : Int32)) = ((p3 &&& (2147483647 : Int32)) % (3 : Int32)) ∨ ((p2 &&& (3 : Int32)) - (1 : Int32)) = ((p3 &&& (2147483647 : Int32)) % (3 : Int32)) then (1 : Int32) else 0)), .val (.int (0 : Int32))] []))) (fun t ks => XS.icmpNo X58.here hx rfl (hb hby at_84) rfl (XT.ii_ne_f (by simp [q1, q2])) ks) ?_
          refine own_st (V := (T58.setTop (mkF m 88 #[.val (.int p1), .val (.int p2), .val (.int p3), .val (.int (p1 &&& (3 : Int32))), .val (.int (p2 &&& (3 : Int32))), .val (.int ((p3 &&& (2147483647 : Int32)) % (3 : Int32))), .val (.ref b40), .val (.int (if ((p1 &&& (3 : Int32)) - (1 : Int32)) = ((p3 &&& (2147483647 : Int32)) % (3 : Int32)) ∨ ((p2 &&& (3 : Int32)) - (1 : Int32)) = ((p3 &&& (2147483647 : Int32)) % (3 : Int32)) then (1 : Int32) else 0)), .val (.int (0 : Int32))] [(.int (1 : Int32))]))) (fun t ks => XS.iconst X58.here hx rfl (hb hby at_87) ks) ?_
          refine own_st (V := (T58.setTop (mkF m 92 #[.val (.int p1), .val (.int p2), .val (.int p3), .val (.int (p1 &&& (3 : Int32))), .val (.int (p2 &&& (3 : Int32))), .val (.int ((p3 &&& (2147483647 : Int32)) % (3 : Int32))), .val (.ref b40), .val (.int (if ((p1 &&& (3 : Int32)) - (1 : Int32)) = ((p3 &&& (2147483647 : Int32)) % (3 : Int32)) ∨ ((p2 &&& (3 : Int32)) - (1 : Int32)) = ((p3 &&& (2147483647 : Int32)) % (3 : Int32)) then (1 : Int32) else 0)), .val (.int (0 : Int32))] [(.int (1 : Int32))]))) (fun t ks => XS.goto X58.here hx rfl (pc0 := 88) (pc' := 92) rfl (hb hby at_88) (by decide) (by decide) ks) ?_
          exact own_retNW X58 hS (by rw [e58]; exact hk) hx hlk (by simp) hret (hb hby at_92) (by decide) (by decide) ⟨rfl, N56⟩
set_option maxRecDepth 65536 in
set_option maxHeartbeats 40000000 in
theorem own_law (l : Launch) (s : State) (args : Array Value) (hw : ∀ d ∈ tables_1, d.before args s = true) (hfit : Fit s) (hg : given_1.value args s none s [] = some true) (hn : narrow_1.value args s none s [] = some true) (hrest : rest_1_c.before args s = true) :
    OMetW l s x code maxLocals ret room_1 args s.heap (fun v h L => v = some (.int 1) ∧ Fr s.heap.size L) := by
  obtain ⟨g0, g1⟩ := and_e hg
  obtain ⟨w0, w1, w2, rfl⟩ : ∃ w0 w1 w2 : Value, args = #[w0, w1, w2] := by
    have hs : args.size = 3 := by simpa [Cond.value, given_1] using g0
    obtain ⟨L⟩ := args
    match L, hs with
    | [w0, w1, w2], _ => exact ⟨w0, w1, w2, rfl⟩
  obtain ⟨q0, r0⟩ := and_e g1
  obtain ⟨i0, ei0⟩ := is_v q0
  obtain rfl : w0 = (.int i0) := Option.some.inj ei0
  obtain ⟨q1, r1⟩ := and_e r0
  obtain ⟨i1, ei1⟩ := is_v q1
  obtain rfl : w1 = (.int i1) := Option.some.inj ei1
  obtain ⟨i2, ei2⟩ := is_v r1
  obtain rfl : w2 = (.int i2) := Option.some.inj ei2
  obtain ⟨c1, hn⟩ := and_e hn
  obtain ⟨c2, hn⟩ := and_e hn
  obtain ⟨c3, hn⟩ := and_e hn
  obtain ⟨c4, hn⟩ := and_e hn
  obtain ⟨c5, c6⟩ := and_e hn
  obtain ⟨wA, v1, S1, E1⟩ := own_static c1 ((hw _ (List.mem_of_getElem? (i := 17) rfl))) ((hw _ (List.mem_of_getElem? (i := 18) rfl)))
  obtain ⟨wD, v2, S2, E2⟩ := own_static c2 ((hw _ (List.mem_of_getElem? (i := 17) rfl))) ((hw _ (List.mem_of_getElem? (i := 73) rfl)))
  obtain ⟨wM, v3, S3, E3⟩ := own_static c3 ((hw _ (List.mem_of_getElem? (i := 17) rfl))) ((hw _ (List.mem_of_getElem? (i := 75) rfl)))
  have oA := own_fld_int v1 c4
  have oM := own_fld_int v3 c5
  have oD := own_fld_int v2 c6
  obtain ⟨r1, hr⟩ := and_e (Cond.before_iff.mp hrest)
  obtain ⟨r2, hr⟩ := and_e hr
  obtain ⟨r3, hr⟩ := and_e hr
  obtain ⟨r4, -⟩ := and_e hr
  obtain ⟨wE, vE⟩ := exa_v r3
  have SE := Sta.start vE (Or.inl (Cond.before_iff.mpr r2))
  have EE := Exa.start vE r3
  have VE := Fld.start ((fld_at vE).symm.trans (null_v r4))
  exact rm0 l s _ hw i0 i1 i2 wD wM wA wE (oD.ne oM (by decide)) (oD.ne oA (by decide)) (oM.ne oA (by decide)) s.heap ⟨Nat.le_refl _, fun _ _ q => q⟩ S2 S3 S1 SE EE VE
set_option maxRecDepth 65536 in
set_option maxHeartbeats 40000000 in
theorem comes_1 {Post : Tables → Env → Array Value → State → Outcome → State → Prop} (hpost : ∀ tb e args s v u, (limb_1_1.after args s (.returned v) u = true ∧ limb_1_2.after args s (.returned v) u = true ∧ True) → ReturnedEndW s (.returned v) u (Jvm.fieldLocs frame_1_writes args s ++ Jvm.arrayLocs frame_1_arrays args s ++ Jvm.staticLocs frame_1_statics s) 24 2176 → Post tb e args s (.returned v) u) :
    ArmFor flags0 classFile x code maxLocals ret World_1 tables_1 room_1 Calls_1 rest_1 Pre_1 Post := by
  intro l hfl _ _ p e ha hc hk s m args below hf hA hF happ hP
  obtain ⟨hcalls, hrest, hpre⟩ := hP
  obtain ⟨-, -, -, hnamed, -, -, -, hat⟩ := (Spec.applies_iff hf).mp happ
  obtain ⟨hg, hn⟩ := and_e (Cond.before_iff.mp (show (Jvm.Cond.and given_1 narrow_1).before args s = true from hpre))
  have hw := fun d (hd : d ∈ tables_1) => atoms_spec (ws := Jvm.Cond.code x code maxLocals ret :: tables_1) hat d (List.mem_cons_of_mem _ hd)
  have hfit : Fit s := fun {y c} hc i hi => by
    obtain ⟨ha, rfl⟩ := Array.getElem?_eq_some_iff.mp hc
    have q := List.all_eq_true.mp ((Array.all_eq_true_iff_forall_mem.mp hF) _ (Array.getElem_mem ha)) i (List.mem_range.mpr hi)
    simpa [Array.getElem?_eq_getElem hi] using q
  obtain ⟨n, o, h1, h2, h3, _, L, rfl, ⟨rfl, N⟩, hq⟩ := own_law l s args hw hfit hg hn hrest tables_1 p e ha hc hk s m _ below hf ((Spec.applies_iff_loose hf).mp happ).1 ⟨rfl, State.Warmed39.refl s, rfl⟩ trivial
  refine ⟨n, _, h1, h2, h3, hpost _ _ _ _ _ _ ⟨Cond.after_iff.mpr rfl, Cond.after_iff.mpr (eq_i res_at (Term.int_eval (1)) rfl), trivial⟩ ⟨hq.1, hq.2.1, hq.2.2.1, (hq.2.2.2.sift fun y hy => Or.inr (N y hy)).mono (by decide) (by decide)⟩⟩
theorem main_1_1 : Claimed_1_1 := comes_1 fun _ _ _ _ _ _ h hF => ⟨h.1, hF⟩
theorem main_1_2 : Claimed_1_2 := comes_1 fun _ _ _ _ _ _ h hF => ⟨h.2.1, hF⟩
end Jvm.Pilot.@@N@@
namespace Jvm.Pilot.@@N@@
open Jvm Jvm.ClassFile Sem Op Lib Jvm.Free Jvm.Stand Jvm.Pilot.@@N@@.Jvm.D
/-! MADE BY PROGRAM (witnessworld.py) out of the Statement's table words and the real class files: 19 classes; the members and pool entries that the words name. The judged class is class 1, her method 3. -/
namespace start1
open Jvm.ClassFile
def u (s : String) : CpInfo := .utf8 (stringToUtf16 s)
/-- a pool by its gaps: so many unusable entries, then the entry; so many at the end -/
def gap : Nat → List CpInfo → List CpInfo
  | 0, r => r
  | n + 1, r => .unusable :: gap n r
def poolList (es : List (Nat × CpInfo)) (last : Nat) : List CpInfo := es.foldr (fun e r => gap e.1 (e.2 :: r)) (gap last [])
def pool (es : List (Nat × CpInfo)) (last : Nat) : Array CpInfo := ⟨poolList es last⟩
def fileOf (pool : Array CpInfo) (this : Nat) (attrs : Array Attribute := #[]) (ms : Array MethodInfo := #[]) (fl : Nat := 33) (sup : Nat := 0) (ifs : Array Nat := #[]) (fds : Array FieldInfo := #[]) : ClassFile where
  minorVersion := 0
  majorVersion := 65
  constantPool := pool
  accessFlags := fl
  thisClass := this
  superClass := sup
  interfaces := ifs
  fields := fds
  methods := ms
  attributes := attrs
def plain (name : String) (sup : Option ClassId) : Class where
  name := name
  kind := .ordinary
  loader := none
  accessFlags := 33
  super := sup
  interfaces := #[]
  cf := none
  fields := #[]
  methods := #[]
  instanceTypes := #[]
  staticTypes := #[]
  resolved := #[]
  callSites := []
  init := .initialized
  statics := none
  mirror := none

def pool0 : Array CpInfo := pool [(5, u "<init>"), (0, u "()V"), (1, .class_ 10), (1, u "java/lang/Object")] 113

def k0c0 : Code := { maxStack := 0, maxLocals := 1, code := object_method_1_code, exceptionTable := #[], attributes := #[] }
def k0m0 : Method := { name := "<init>", desc := "()V", sig := { parameters := [], returnType := none }, accessFlags := 1, code := some k0c0 }
/-- java/lang/Object -/
def k0 : Class := { plain "java/lang/Object" none with
  accessFlags := 33
  interfaces := #[]
  cf := some (fileOf pool0 8 #[] #[{ accessFlags := 1, nameIndex := 5, descriptorIndex := 6, attributes := #[] }] 33 0 #[] #[])
  fields := #[]
  methods := #[k0m0]
  instanceTypes := #[]
  staticTypes := #[]
  resolved := Array.replicate 124 none
  statics := none }

def pool1 : Array CpInfo := pool [(2, .class_ 4), (1, u "java/lang/Object"), (0, u "<init>"), (0, u "()V"), (0, .fieldref 8 9), (0, .class_ 10), (0, .nameAndType 11 12), (0, u "com/example/venuewright/venuewright/model/TradingCapacity"), (0, u "DEAL"), (0, u "Lcom/example/venuewright/venuewright/model/TradingCapacity;"), (0, .fieldref 8 14), (0, .nameAndType 15 12), (0, u "MTCH"), (0, .fieldref 8 17), (0, .nameAndType 18 12), (0, u "AOTC"), (0, .methodref 20 21), (0, .class_ 22), (0, .nameAndType 23 24), (0, u "java/util/Optional"), (0, u "empty"), (0, u "()Ljava/util/Optional;"), (0, .methodref 26 27), (0, .class_ 28), (0, .nameAndType 29 30), (0, u "com/example/venuewright/venuewright/model/TradingCapacitiesIncludesPinLaw"), (0, u "cap"), (0, u "(I)Lcom/example/venuewright/venuewright/model/TradingCapacity;"), (0, .methodref 20 32), (0, .nameAndType 33 34), (0, u "of"), (0, u "(Ljava/lang/Object;)Ljava/util/Optional;"), (0, .integer 2147483647), (0, .class_ 37), (0, u "com/example/venuewright/venuewright/model/TradingCapacities"), (0, .methodref 26 39), (0, .nameAndType 40 41), (0, u "opt"), (0, u "(I)Ljava/util/Optional;"), (0, .methodref 36 43), (0, .nameAndType 5 44), (0, u "(Ljava/util/Optional;Ljava/util/Optional;)V"), (0, .methodref 36 46), (0, .nameAndType 47 48), (0, u "includes"), (0, u "(Lcom/example/venuewright/venuewright/model/TradingCapacity;)Z"), (5, u "law"), (0, u "(III)Z")] 2

def k1m0 : Method := { name := "<init>", desc := "()V", sig := { parameters := [], returnType := none }, accessFlags := 1, code := none }
def k1c1 : Code := { maxStack := 2, maxLocals := 1, code := method_2_code, exceptionTable := #[], attributes := #[] }
def k1m1 : Method := { name := "cap", desc := "(I)Lcom/example/venuewright/venuewright/model/TradingCapacity;", sig := { parameters := [.int], returnType := some (.object "com/example/venuewright/venuewright/model/TradingCapacity") }, accessFlags := 10, code := some k1c1 }
def k1c2 : Code := { maxStack := 2, maxLocals := 1, code := method_3_code, exceptionTable := #[], attributes := #[] }
def k1m2 : Method := { name := "opt", desc := "(I)Ljava/util/Optional;", sig := { parameters := [.int], returnType := some (.object "java/util/Optional") }, accessFlags := 10, code := some k1c2 }
def k1c3 : Code := { maxStack := 4, maxLocals := 9, code := code, exceptionTable := #[], attributes := #[] }
def k1m3 : Method := { name := "law", desc := "(III)Z", sig := { parameters := [.int, .int, .int], returnType := some .boolean }, accessFlags := 9, code := some k1c3 }
/-- com/example/venuewright/venuewright/model/TradingCapacitiesIncludesPinLaw -/
def k1 : Class := { plain "com/example/venuewright/venuewright/model/TradingCapacitiesIncludesPinLaw" (some 0) with
  accessFlags := 49
  interfaces := #[]
  cf := some (fileOf pool1 26 #[] #[{ accessFlags := 1, nameIndex := 5, descriptorIndex := 6, attributes := #[] }, { accessFlags := 10, nameIndex := 29, descriptorIndex := 30, attributes := #[] }, { accessFlags := 10, nameIndex := 40, descriptorIndex := 41, attributes := #[] }, { accessFlags := 9, nameIndex := 54, descriptorIndex := 55, attributes := #[] }] 49 2 #[] #[])
  fields := #[]
  methods := #[k1m0, k1m1, k1m2, k1m3]
  instanceTypes := #[]
  staticTypes := #[]
  resolved := Array.replicate 58 none
  statics := none }

def pool2 : Array CpInfo := pool [(1, .methodref 2 3), (0, .class_ 4), (0, .nameAndType 5 6), (0, u "java/lang/Object"), (0, u "<init>"), (0, u "()V"), (0, .class_ 8), (0, u "java/lang/Record")] 13

def k2c0 : Code := { maxStack := 1, maxLocals := 1, code := jdk_30_method_1_code, exceptionTable := #[], attributes := #[] }
def k2m0 : Method := { name := "<init>", desc := "()V", sig := { parameters := [], returnType := none }, accessFlags := 4, code := some k2c0 }
/-- java/lang/Record -/
def k2 : Class := { plain "java/lang/Record" (some 0) with
  accessFlags := 1057
  interfaces := #[]
  cf := some (fileOf pool2 7 #[] #[{ accessFlags := 4, nameIndex := 5, descriptorIndex := 6, attributes := #[] }] 1057 2 #[] #[])
  fields := #[]
  methods := #[k2m0]
  instanceTypes := #[]
  staticTypes := #[]
  resolved := Array.replicate 22 none
  statics := none }

def pool3 : Array CpInfo := pool [(1, .methodref 2 3), (0, .class_ 4), (0, .nameAndType 5 6), (0, u "java/lang/Record"), (0, u "<init>"), (0, u "()V"), (0, .string 8), (0, u "buyer"), (0, .methodref 10 11), (0, .class_ 12), (0, .nameAndType 13 14), (0, u "java/util/Objects"), (0, u "requireNonNull"), (0, u "(Ljava/lang/Object;Ljava/lang/String;)Ljava/lang/Object;"), (0, .string 16), (0, u "seller"), (0, .fieldref 18 19), (0, .class_ 20), (0, .nameAndType 8 21), (0, u "com/example/venuewright/venuewright/model/TradingCapacities"), (0, u "Ljava/util/Optional;"), (0, .fieldref 18 23), (0, .nameAndType 16 21), (0, .methodref 25 26), (0, .class_ 27), (0, .nameAndType 28 29), (0, u "java/util/Optional"), (0, u "orElse"), (0, u "(Ljava/lang/Object;)Ljava/lang/Object;"), (14, u "(Ljava/util/Optional;Ljava/util/Optional;)V"), (4, u "includes"), (0, u "(Lcom/example/venuewright/venuewright/model/TradingCapacity;)Z")] 27

def k3c0 : Code := { maxStack := 2, maxLocals := 3, code := prog_78_method_1_code, exceptionTable := #[], attributes := #[] }
def k3m0 : Method := { name := "<init>", desc := "(Ljava/util/Optional;Ljava/util/Optional;)V", sig := { parameters := [(.object "java/util/Optional"), (.object "java/util/Optional")], returnType := none }, accessFlags := 1, code := some k3c0 }
def k3c1 : Code := { maxStack := 2, maxLocals := 2, code := prog_78_method_2_code, exceptionTable := #[], attributes := #[] }
def k3m1 : Method := { name := "includes", desc := "(Lcom/example/venuewright/venuewright/model/TradingCapacity;)Z", sig := { parameters := [(.object "com/example/venuewright/venuewright/model/TradingCapacity")], returnType := some .boolean }, accessFlags := 1, code := some k3c1 }
/-- com/example/venuewright/venuewright/model/TradingCapacities -/
def k3 : Class := { plain "com/example/venuewright/venuewright/model/TradingCapacities" (some 2) with
  accessFlags := 49
  interfaces := #[]
  cf := some (fileOf pool3 18 #[] #[{ accessFlags := 1, nameIndex := 5, descriptorIndex := 44, attributes := #[] }, { accessFlags := 1, nameIndex := 49, descriptorIndex := 50, attributes := #[] }] 49 2 #[] #[{ accessFlags := 18, nameIndex := 8, descriptorIndex := 21, attributes := #[] }, { accessFlags := 18, nameIndex := 16, descriptorIndex := 21, attributes := #[] }])
  fields := #[{ name := "buyer", type := (.object "java/util/Optional"), accessFlags := 18, slot := 0, constantValue := 0 }, { name := "seller", type := (.object "java/util/Optional"), accessFlags := 18, slot := 1, constantValue := 0 }]
  methods := #[k3m0, k3m1]
  instanceTypes := #[(.object "java/util/Optional"), (.object "java/util/Optional")]
  staticTypes := #[]
  resolved := Array.replicate 78 none
  statics := none }

def pool4 : Array CpInfo := pool [(1, .fieldref 2 3), (0, .class_ 4), (0, .nameAndType 5 6), (0, u "java/util/Optional"), (0, u "EMPTY"), (0, u "Ljava/util/Optional;"), (0, .methodref 8 9), (0, .class_ 10), (0, .nameAndType 11 12), (0, u "java/lang/Object"), (0, u "<init>"), (0, u "()V"), (0, .fieldref 2 14), (0, .nameAndType 15 16), (0, u "value"), (0, u "Ljava/lang/Object;"), (0, .methodref 18 19), (0, .class_ 20), (0, .nameAndType 21 22), (0, u "java/util/Objects"), (0, u "requireNonNull"), (0, u "(Ljava/lang/Object;)Ljava/lang/Object;"), (0, .methodref 2 24), (0, .nameAndType 11 25), (0, u "(Ljava/lang/Object;)V"), (29, u "empty"), (0, u "()Ljava/util/Optional;"), (8, u "(Ljava/lang/Object;)Ljava/util/Optional;"), (16, u "of"), (82, u "orElse")] 21

def k4c0 : Code := { maxStack := 1, maxLocals := 1, code := jdk_32_method_1_code, exceptionTable := #[], attributes := #[] }
def k4m0 : Method := { name := "empty", desc := "()Ljava/util/Optional;", sig := { parameters := [], returnType := some (.object "java/util/Optional") }, accessFlags := 9, code := some k4c0 }
def k4c1 : Code := { maxStack := 2, maxLocals := 2, code := jdk_32_method_2_code, exceptionTable := #[], attributes := #[] }
def k4m1 : Method := { name := "<init>", desc := "(Ljava/lang/Object;)V", sig := { parameters := [(.object "java/lang/Object")], returnType := none }, accessFlags := 2, code := some k4c1 }
def k4c2 : Code := { maxStack := 3, maxLocals := 1, code := jdk_32_method_3_code, exceptionTable := #[], attributes := #[] }
def k4m2 : Method := { name := "of", desc := "(Ljava/lang/Object;)Ljava/util/Optional;", sig := { parameters := [(.object "java/lang/Object")], returnType := some (.object "java/util/Optional") }, accessFlags := 9, code := some k4c2 }
def k4c3 : Code := { maxStack := 1, maxLocals := 2, code := jdk_32_method_15_code, exceptionTable := #[], attributes := #[] }
def k4m3 : Method := { name := "orElse", desc := "(Ljava/lang/Object;)Ljava/lang/Object;", sig := { parameters := [(.object "java/lang/Object")], returnType := some (.object "java/lang/Object") }, accessFlags := 1, code := some k4c3 }
/-- java/util/Optional -/
def k4 : Class := { plain "java/util/Optional" (some 0) with
  accessFlags := 49
  interfaces := #[]
  cf := some (fileOf pool4 2 #[] #[{ accessFlags := 9, nameIndex := 55, descriptorIndex := 56, attributes := #[] }, { accessFlags := 2, nameIndex := 11, descriptorIndex := 25, attributes := #[] }, { accessFlags := 9, nameIndex := 82, descriptorIndex := 65, attributes := #[] }, { accessFlags := 1, nameIndex := 165, descriptorIndex := 22, attributes := #[] }] 49 8 #[] #[{ accessFlags := 26, nameIndex := 5, descriptorIndex := 6, attributes := #[] }, { accessFlags := 18, nameIndex := 15, descriptorIndex := 16, attributes := #[] }])
  fields := #[{ name := "EMPTY", type := (.object "java/util/Optional"), accessFlags := 26, slot := 0, constantValue := 0 }, { name := "value", type := (.object "java/lang/Object"), accessFlags := 18, slot := 0, constantValue := 0 }]
  methods := #[k4m0, k4m1, k4m2, k4m3]
  instanceTypes := #[(.object "java/lang/Object")]
  staticTypes := #[(.object "java/util/Optional")]
  resolved := Array.replicate 187 none
  statics := some 0 }

def pool5 : Array CpInfo := pool [(1, .class_ 2), (0, u "java/lang/constant/Constable"), (0, .class_ 4), (0, u "java/lang/Object")] 6

/-- java/lang/constant/Constable -/
def k5 : Class := { plain "java/lang/constant/Constable" (some 0) with
  accessFlags := 1537
  interfaces := #[]
  cf := some (fileOf pool5 1 #[] #[] 1537 3 #[] #[])
  fields := #[]
  methods := #[]
  instanceTypes := #[]
  staticTypes := #[]
  resolved := Array.replicate 11 none
  statics := none }

def pool6 : Array CpInfo := pool [(1, .class_ 2), (0, u "java/lang/Comparable"), (0, .class_ 4), (0, u "java/lang/Object")] 7

/-- java/lang/Comparable -/
def k6 : Class := { plain "java/lang/Comparable" (some 0) with
  accessFlags := 1537
  interfaces := #[]
  cf := some (fileOf pool6 1 #[] #[] 1537 3 #[] #[])
  fields := #[]
  methods := #[]
  instanceTypes := #[]
  staticTypes := #[]
  resolved := Array.replicate 12 none
  statics := none }

def pool7 : Array CpInfo := pool [(1, .class_ 2), (0, u "java/io/Serializable"), (0, .class_ 4), (0, u "java/lang/Object")] 2

/-- java/io/Serializable -/
def k7 : Class := { plain "java/io/Serializable" (some 0) with
  accessFlags := 1537
  interfaces := #[]
  cf := some (fileOf pool7 1 #[] #[] 1537 3 #[] #[])
  fields := #[]
  methods := #[]
  instanceTypes := #[]
  staticTypes := #[]
  resolved := Array.replicate 7 none
  statics := none }

def pool8 : Array CpInfo := pool [(2, .class_ 4), (1, u "java/lang/Enum"), (0, u "name"), (0, u "Ljava/lang/String;"), (2, u "ordinal"), (0, u "I"), (1, .class_ 14), (1, u "java/lang/Object"), (4, u "hash"), (86, .class_ 108), (1, u "java/lang/Enum$EnumDesc"), (2, .class_ 112), (0, u "java/lang/constant/Constable"), (0, .class_ 114), (0, u "java/lang/Comparable"), (0, .class_ 116), (0, u "java/io/Serializable")] 87

/-- java/lang/Enum -/
def k8 : Class := { plain "java/lang/Enum" (some 0) with
  accessFlags := 1057
  interfaces := #[5, 6, 7]
  cf := some (fileOf pool8 2 #[.nestMembers #[106]] #[] 1057 12 #[111, 113, 115] #[{ accessFlags := 18, nameIndex := 5, descriptorIndex := 6, attributes := #[] }, { accessFlags := 18, nameIndex := 9, descriptorIndex := 10, attributes := #[] }, { accessFlags := 2, nameIndex := 19, descriptorIndex := 10, attributes := #[] }])
  fields := #[{ name := "name", type := (.object "java/lang/String"), accessFlags := 18, slot := 0, constantValue := 0 }, { name := "ordinal", type := .int, accessFlags := 18, slot := 1, constantValue := 0 }, { name := "hash", type := .int, accessFlags := 2, slot := 2, constantValue := 0 }]
  methods := #[]
  instanceTypes := #[(.object "java/lang/String"), .int, .int]
  staticTypes := #[]
  resolved := Array.replicate 204 none
  statics := none }

def pool9 : Array CpInfo := pool [(1, .class_ 2), (0, u "com/example/venuewright/venuewright/model/TradingCapacity"), (2, u "DEAL"), (0, u "Lcom/example/venuewright/venuewright/model/TradingCapacity;"), (2, u "MTCH"), (2, u "AOTC"), (2, u "$VALUES"), (0, u "[Lcom/example/venuewright/venuewright/model/TradingCapacity;"), (6, .class_ 25), (1, u "java/lang/Enum")] 25

/-- com/example/venuewright/venuewright/model/TradingCapacity -/
def k9 : Class := { plain "com/example/venuewright/venuewright/model/TradingCapacity" (some 8) with
  accessFlags := 16433
  interfaces := #[]
  cf := some (fileOf pool9 1 #[] #[] 16433 23 #[] #[{ accessFlags := 16409, nameIndex := 5, descriptorIndex := 6, attributes := #[] }, { accessFlags := 16409, nameIndex := 9, descriptorIndex := 6, attributes := #[] }, { accessFlags := 16409, nameIndex := 12, descriptorIndex := 6, attributes := #[] }, { accessFlags := 4122, nameIndex := 15, descriptorIndex := 16, attributes := #[] }])
  fields := #[{ name := "DEAL", type := (.object "com/example/venuewright/venuewright/model/TradingCapacity"), accessFlags := 16409, slot := 0, constantValue := 0 }, { name := "MTCH", type := (.object "com/example/venuewright/venuewright/model/TradingCapacity"), accessFlags := 16409, slot := 1, constantValue := 0 }, { name := "AOTC", type := (.object "com/example/venuewright/venuewright/model/TradingCapacity"), accessFlags := 16409, slot := 2, constantValue := 0 }, { name := "$VALUES", type := (.array (.object "com/example/venuewright/venuewright/model/TradingCapacity")), accessFlags := 4122, slot := 3, constantValue := 0 }]
  methods := #[]
  instanceTypes := #[(.object "java/lang/String"), .int, .int]
  staticTypes := #[(.object "com/example/venuewright/venuewright/model/TradingCapacity"), (.object "com/example/venuewright/venuewright/model/TradingCapacity"), (.object "com/example/venuewright/venuewright/model/TradingCapacity"), (.array (.object "com/example/venuewright/venuewright/model/TradingCapacity"))]
  resolved := Array.replicate 51 none
  statics := some 1 }

def pool10 : Array CpInfo := pool [(2, .class_ 4), (1, u "java/lang/Object"), (0, u "<init>"), (0, u "()V"), (35, .class_ 44), (1, u "java/util/Objects"), (0, u "requireNonNull"), (0, u "(Ljava/lang/Object;)Ljava/lang/Object;"), (47, u "(Ljava/lang/Object;Ljava/lang/String;)Ljava/lang/Object;")] 89

def k10m0 : Method := { name := "<init>", desc := "()V", sig := { parameters := [], returnType := none }, accessFlags := 2, code := none }
def k10c1 : Code := { maxStack := 2, maxLocals := 1, code := jdk_31_method_10_code, exceptionTable := #[], attributes := #[] }
def k10m1 : Method := { name := "requireNonNull", desc := "(Ljava/lang/Object;)Ljava/lang/Object;", sig := { parameters := [(.object "java/lang/Object")], returnType := some (.object "java/lang/Object") }, accessFlags := 9, code := some k10c1 }
def k10c2 : Code := { maxStack := 3, maxLocals := 2, code := jdk_31_method_11_code, exceptionTable := #[], attributes := #[] }
def k10m2 : Method := { name := "requireNonNull", desc := "(Ljava/lang/Object;Ljava/lang/String;)Ljava/lang/Object;", sig := { parameters := [(.object "java/lang/Object"), (.object "java/lang/String")], returnType := some (.object "java/lang/Object") }, accessFlags := 9, code := some k10c2 }
/-- java/util/Objects -/
def k10 : Class := { plain "java/util/Objects" (some 0) with
  accessFlags := 49
  interfaces := #[]
  cf := some (fileOf pool10 42 #[] #[{ accessFlags := 2, nameIndex := 5, descriptorIndex := 6, attributes := #[] }, { accessFlags := 9, nameIndex := 45, descriptorIndex := 46, attributes := #[] }, { accessFlags := 9, nameIndex := 45, descriptorIndex := 94, attributes := #[] }] 49 2 #[] #[])
  fields := #[]
  methods := #[k10m0, k10m1, k10m2]
  instanceTypes := #[]
  staticTypes := #[]
  resolved := Array.replicate 184 none
  statics := none }

def pool11 : Array CpInfo := pool [(2, .class_ 4), (1, u "java/lang/CharSequence"), (42, .class_ 48), (0, u "java/lang/CharSequence$1CodePointIterator"), (10, .class_ 60), (0, u "java/lang/CharSequence$1CharIterator"), (5, .class_ 67), (0, u "java/lang/Object")] 63

/-- java/lang/CharSequence -/
def k11 : Class := { plain "java/lang/CharSequence" (some 0) with
  accessFlags := 1537
  interfaces := #[]
  cf := some (fileOf pool11 2 #[.nestMembers #[47, 59]] #[] 1537 66 #[] #[])
  fields := #[]
  methods := #[]
  instanceTypes := #[]
  staticTypes := #[]
  resolved := Array.replicate 131 none
  statics := none }

def pool12 : Array CpInfo := pool [(1, .class_ 2), (0, u "java/lang/constant/ConstantDesc"), (0, .class_ 4), (0, u "java/lang/Object")] 32

/-- java/lang/constant/ConstantDesc -/
def k12 : Class := { plain "java/lang/constant/ConstantDesc" (some 0) with
  accessFlags := 1537
  interfaces := #[]
  cf := some (fileOf pool12 1 #[] #[] 1537 3 #[] #[])
  fields := #[]
  methods := #[]
  instanceTypes := #[]
  staticTypes := #[]
  resolved := Array.replicate 37 none
  statics := none }

def pool13 : Array CpInfo := pool [(2, .class_ 4), (1, u "java/lang/Object"), (0, u "<init>"), (0, u "()V"), (3, .class_ 12), (1, u "java/lang/String"), (0, u "value"), (0, u "[B"), (2, u "coder"), (0, u "B"), (2, u "hash"), (0, u "I"), (2, u "hashIsZero"), (0, u "Z"), (13, u "COMPACT_STRINGS"), (534, .class_ 576), (0, u "java/lang/CharSequence"), (22, u "CASE_INSENSITIVE_ORDER"), (0, u "Ljava/util/Comparator;"), (500, u "serialPersistentFields"), (0, u "[Ljava/io/ObjectStreamField;"), (0, .class_ 1104), (0, u "java/lang/String$CaseInsensitiveComparator"), (1, .class_ 1107), (0, u "java/io/Serializable"), (0, .class_ 1109), (0, u "java/lang/Comparable"), (0, .class_ 1111), (0, u "java/lang/constant/Constable"), (0, .class_ 1113), (0, u "java/lang/constant/ConstantDesc"), (2, u "serialVersionUID"), (0, u "J"), (3, u "REPL"), (0, u "C"), (2, u "LATIN1"), (1, u "UTF16")] 323

def k13m0 : Method := { name := "<init>", desc := "()V", sig := { parameters := [], returnType := none }, accessFlags := 1, code := none }
/-- java/lang/String -/
def k13 : Class := { plain "java/lang/String" (some 0) with
  accessFlags := 49
  interfaces := #[7, 6, 11, 5, 12]
  cf := some (fileOf pool13 10 #[.nestMembers #[1103]] #[{ accessFlags := 1, nameIndex := 5, descriptorIndex := 6, attributes := #[] }] 49 2 #[1106, 1108, 575, 1110, 1112] #[{ accessFlags := 18, nameIndex := 13, descriptorIndex := 14, attributes := #[] }, { accessFlags := 18, nameIndex := 17, descriptorIndex := 18, attributes := #[] }, { accessFlags := 2, nameIndex := 21, descriptorIndex := 22, attributes := #[] }, { accessFlags := 2, nameIndex := 25, descriptorIndex := 26, attributes := #[] }, { accessFlags := 26, nameIndex := 1116, descriptorIndex := 1117, attributes := #[] }, { accessFlags := 24, nameIndex := 40, descriptorIndex := 26, attributes := #[] }, { accessFlags := 26, nameIndex := 1101, descriptorIndex := 1102, attributes := #[] }, { accessFlags := 26, nameIndex := 1121, descriptorIndex := 1122, attributes := #[] }, { accessFlags := 25, nameIndex := 599, descriptorIndex := 600, attributes := #[] }, { accessFlags := 24, nameIndex := 1125, descriptorIndex := 18, attributes := #[] }, { accessFlags := 24, nameIndex := 1127, descriptorIndex := 18, attributes := #[] }])
  fields := #[{ name := "value", type := (.array .byte), accessFlags := 18, slot := 0, constantValue := 0 }, { name := "coder", type := .byte, accessFlags := 18, slot := 1, constantValue := 0 }, { name := "hash", type := .int, accessFlags := 2, slot := 2, constantValue := 0 }, { name := "hashIsZero", type := .boolean, accessFlags := 2, slot := 3, constantValue := 0 }, { name := "serialVersionUID", type := .long, accessFlags := 26, slot := 0, constantValue := 0 }, { name := "COMPACT_STRINGS", type := .boolean, accessFlags := 24, slot := 1, constantValue := 0 }, { name := "serialPersistentFields", type := (.array (.object "java/io/ObjectStreamField")), accessFlags := 26, slot := 2, constantValue := 0 }, { name := "REPL", type := .char, accessFlags := 26, slot := 3, constantValue := 0 }, { name := "CASE_INSENSITIVE_ORDER", type := (.object "java/util/Comparator"), accessFlags := 25, slot := 4, constantValue := 0 }, { name := "LATIN1", type := .byte, accessFlags := 24, slot := 5, constantValue := 0 }, { name := "UTF16", type := .byte, accessFlags := 24, slot := 6, constantValue := 0 }]
  methods := #[k13m0]
  instanceTypes := #[(.array .byte), .byte, .int, .boolean]
  staticTypes := #[.long, .boolean, (.array (.object "java/io/ObjectStreamField")), .char, (.object "java/util/Comparator"), .byte, .byte]
  resolved := Array.replicate 1451 none
  statics := none }

def pool14 : Array CpInfo := pool [(1, u "java/lang/Cloneable"), (0, .class_ 1), (0, u "java/lang/Object"), (0, .class_ 3)] 3

/-- java/lang/Cloneable -/
def k14 : Class := { plain "java/lang/Cloneable" (some 0) with
  accessFlags := 1537
  interfaces := #[]
  cf := some (fileOf pool14 2 #[] #[] 1537 4 #[] #[])
  fields := #[]
  methods := #[]
  instanceTypes := #[]
  staticTypes := #[]
  resolved := Array.replicate 8 none
  statics := none }

/-- the primitive byte -/
def k15 : Class := { plain "byte" none with kind := .primitive 'B', accessFlags := 0x411 }
/-- [B -/
def k16 : Class := { plain "[B" (some 0) with kind := .array 15 .byte, interfaces := #[14, 7], accessFlags := 1041 }

/-- the primitive int -/
def k17 : Class := { plain "int" none with kind := .primitive 'I', accessFlags := 0x411 }
/-- [I -/
def k18 : Class := { plain "[I" (some 0) with kind := .array 17 .int, interfaces := #[14, 7], accessFlags := 1041 }

def heap : Heap := #[{ cls := 4, slots := #[.ref 5], vm := .statics 4 },
  { cls := 9, slots := #[.ref 2, .ref 3, .ref 4, .null], vm := .statics 9 },
  { cls := 9, slots := #[.null, .int 0, .int 0], vm := .none },
  { cls := 9, slots := #[.null, .int 1, .int 0], vm := .none },
  { cls := 9, slots := #[.null, .int 2, .int 0], vm := .none },
  { cls := 4, slots := #[.null], vm := .none }]
def classes : Array Class := #[k0, k1, k2, k3, k4, k5, k6, k7, k8, k9, k10, k11, k12, k13, k14, k15, k16, k17, k18]
def interned : List (Array UInt16 × Addr) := []
def slotsUsed : Nat := 15
def theMethod : MethodId := ⟨1, 3⟩
def args0 : Array Value := #[.int 1, .int 2, .int 0]
def aboutOver (below : List Frame) : State where
  vm := { classes := classes, interned := interned.toArray }
  heap := heap
  slotsUsed := slotsUsed
  threads := #[{ frames := .invoking theMethod args0 :: below }]
def below0 : List Frame := [.native { method := ⟨0, 0⟩, args := #[] }]
def about1 : State := aboutOver below0
def p0 : Program := .bare "" "" ""
def e0 : Env := launch0.env 0 0 0
theorem w_frames : about1.frames = Frame.invoking theMethod args0 :: below0 := rfl
set_option maxRecDepth 65536 in
theorem w_args : argsFit about1.vm theMethod args0 = true := by decide +kernel
set_option maxRecDepth 65536 in
theorem w_heap : heapFits about1 = true := by decide +kernel
set_option maxRecDepth 65536 in
theorem w_runnable : about1.curStatus? = some .runnable := by decide +kernel
set_option maxRecDepth 65536 in
theorem w_alone : about1.alone = true := by decide +kernel
set_option maxRecDepth 65536 in
theorem w_named : about1.methodNamed? x = some theMethod := by decide +kernel
set_option maxRecDepth 65536 in
theorem w_hears : about1.hears theMethod below0 = true := by decide +kernel
set_option maxRecDepth 65536 in
theorem w_ripe : about1.ripe theMethod args0 below0 = true := by decide +kernel
theorem w_running : about1.status = .running := rfl
set_option maxRecDepth 65536 in
theorem w_room : about1.hasRoom e0.platform room_1 = true :=
  launch0.hasRoom_least _ room_1 (by decide +kernel) (by decide +kernel) (by decide +kernel) (by decide +kernel) (by decide +kernel) (by decide +kernel)
theorem allAtoms_all (ts : List Jvm.Cond) (a : Array Jvm.Value) (st : Jvm.State) : (allAtoms ts).before a st = ts.all (fun c => c.before a st) := by
  induction ts with
  | nil => rfl
  | cons c t ih =>
    show (Jvm.Cond.and c (allAtoms t)).before a st = _
    rw [Jvm.Cond.before_and, ih, List.all_cons]
def words1 : List Jvm.Cond := Jvm.Cond.code x code maxLocals ret :: tables_1
/-- a 'code' word, met by the world's own term for the bytes: nothing is compared byte by byte -/
theorem code_word {y : MethodName} {bytes : ByteArray} {mx : Nat} {rt : Option FieldType} {a : Array Value} {s : State} {m : MethodId} {meth : Method} {c : Code} (h1 : s.methodNamed? y = some m) (h2 : s.vm.method? m = some meth) (h3 : meth.code = some c) (h4 : c.code = bytes)
    (h5 : (c.maxLocals == mx && c.exceptionTable.isEmpty && decide (c.maxStack ≤ mostOperands) && decide (meth.sig.returnType = rt) && !meth.locks && decide (parseMethodDescriptor y.desc = some meth.sig)) = true) : (Jvm.Cond.code y bytes mx rt).before a s = true := by
  simp only [Bool.and_eq_true, beq_iff_eq, Bool.not_eq_true', decide_eq_true_eq] at h5
  obtain ⟨⟨⟨⟨⟨g1, g2⟩, g3⟩, g4⟩, g5⟩, g6⟩ := h5
  simp [Cond.before, Cond.holds, Cond.value, h1, h2, h3, h4, g1, g2, g3, g4, g5, g6]
def isCode : Jvm.Cond → Bool
  | .code _ _ _ _ => true
  | _ => false
theorem all_split {L : List Jvm.Cond} {P : Jvm.Cond → Bool} (h1 : L.all (fun c => isCode c || P c) = true) (h2 : ∀ c ∈ L.filter isCode, P c = true) : L.all P = true := by
  refine List.all_eq_true.mpr fun c hc => ?_
  have h := List.all_eq_true.mp h1 c hc
  rcases Bool.eq_false_or_eq_true (isCode c) with hi | hi
  · exact h2 c (List.mem_filter.mpr ⟨hc, hi⟩)
  · simpa [hi] using h
set_option maxRecDepth 65536 in
theorem w_c0 : (Jvm.Cond.code x code maxLocals ret).before args0 about1 = true := code_word (m := ⟨1, 3⟩) (meth := k1m3) (c := k1c3) (by decide +kernel) rfl rfl rfl (by decide +kernel)
set_option maxRecDepth 65536 in
theorem w_c1 : (Jvm.Cond.code ({ cls := "com/example/venuewright/venuewright/model/TradingCapacitiesIncludesPinLaw", name := "opt", desc := "(I)Ljava/util/Optional;" } : Jvm.MethodName) method_3_code (1 : Nat) (Option.some (Jvm.ClassFile.FieldType.object "java/util/Optional"))).before args0 about1 = true := code_word (m := ⟨1, 2⟩) (meth := k1m2) (c := k1c2) (by decide +kernel) rfl rfl rfl (by decide +kernel)
set_option maxRecDepth 65536 in
theorem w_c2 : (Jvm.Cond.code ({ cls := "java/util/Optional", name := "empty", desc := "()Ljava/util/Optional;" } : Jvm.MethodName) jdk_32_method_1_code (1 : Nat) (Option.some (Jvm.ClassFile.FieldType.object "java/util/Optional"))).before args0 about1 = true := code_word (m := ⟨4, 0⟩) (meth := k4m0) (c := k4c0) (by decide +kernel) rfl rfl rfl (by decide +kernel)
set_option maxRecDepth 65536 in
theorem w_c3 : (Jvm.Cond.code ({ cls := "com/example/venuewright/venuewright/model/TradingCapacitiesIncludesPinLaw", name := "cap", desc := "(I)Lcom/example/venuewright/venuewright/model/TradingCapacity;" } : Jvm.MethodName) method_2_code (1 : Nat) (Option.some (Jvm.ClassFile.FieldType.object "com/example/venuewright/venuewright/model/TradingCapacity"))).before args0 about1 = true := code_word (m := ⟨1, 1⟩) (meth := k1m1) (c := k1c1) (by decide +kernel) rfl rfl rfl (by decide +kernel)
set_option maxRecDepth 65536 in
theorem w_c4 : (Jvm.Cond.code ({ cls := "java/util/Optional", name := "of", desc := "(Ljava/lang/Object;)Ljava/util/Optional;" } : Jvm.MethodName) jdk_32_method_3_code (1 : Nat) (Option.some (Jvm.ClassFile.FieldType.object "java/util/Optional"))).before args0 about1 = true := code_word (m := ⟨4, 2⟩) (meth := k4m2) (c := k4c2) (by decide +kernel) rfl rfl rfl (by decide +kernel)
set_option maxRecDepth 65536 in
theorem w_c5 : (Jvm.Cond.code ({ cls := "java/util/Objects", name := "requireNonNull", desc := "(Ljava/lang/Object;)Ljava/lang/Object;" } : Jvm.MethodName) jdk_31_method_10_code (1 : Nat) (Option.some (Jvm.ClassFile.FieldType.object "java/lang/Object"))).before args0 about1 = true := code_word (m := ⟨10, 1⟩) (meth := k10m1) (c := k10c1) (by decide +kernel) rfl rfl rfl (by decide +kernel)
set_option maxRecDepth 65536 in
theorem w_c6 : (Jvm.Cond.code ({ cls := "java/util/Optional", name := "<init>", desc := "(Ljava/lang/Object;)V" } : Jvm.MethodName) jdk_32_method_2_code (2 : Nat) (Option.none : Option Jvm.ClassFile.FieldType)).before args0 about1 = true := code_word (m := ⟨4, 1⟩) (meth := k4m1) (c := k4c1) (by decide +kernel) rfl rfl rfl (by decide +kernel)
set_option maxRecDepth 65536 in
theorem w_c7 : (Jvm.Cond.code ({ cls := "java/lang/Object", name := "<init>", desc := "()V" } : Jvm.MethodName) object_method_1_code (1 : Nat) (Option.none : Option Jvm.ClassFile.FieldType)).before args0 about1 = true := code_word (m := ⟨0, 0⟩) (meth := k0m0) (c := k0c0) (by decide +kernel) rfl rfl rfl (by decide +kernel)
set_option maxRecDepth 65536 in
theorem w_c8 : (Jvm.Cond.code ({ cls := "com/example/venuewright/venuewright/model/TradingCapacities", name := "<init>", desc := "(Ljava/util/Optional;Ljava/util/Optional;)V" } : Jvm.MethodName) prog_78_method_1_code (3 : Nat) (Option.none : Option Jvm.ClassFile.FieldType)).before args0 about1 = true := code_word (m := ⟨3, 0⟩) (meth := k3m0) (c := k3c0) (by decide +kernel) rfl rfl rfl (by decide +kernel)
set_option maxRecDepth 65536 in
theorem w_c9 : (Jvm.Cond.code ({ cls := "java/lang/Record", name := "<init>", desc := "()V" } : Jvm.MethodName) jdk_30_method_1_code (1 : Nat) (Option.none : Option Jvm.ClassFile.FieldType)).before args0 about1 = true := code_word (m := ⟨2, 0⟩) (meth := k2m0) (c := k2c0) (by decide +kernel) rfl rfl rfl (by decide +kernel)
set_option maxRecDepth 65536 in
theorem w_c10 : (Jvm.Cond.code ({ cls := "java/util/Objects", name := "requireNonNull", desc := "(Ljava/lang/Object;Ljava/lang/String;)Ljava/lang/Object;" } : Jvm.MethodName) jdk_31_method_11_code (2 : Nat) (Option.some (Jvm.ClassFile.FieldType.object "java/lang/Object"))).before args0 about1 = true := code_word (m := ⟨10, 2⟩) (meth := k10m2) (c := k10c2) (by decide +kernel) rfl rfl rfl (by decide +kernel)
set_option maxRecDepth 65536 in
theorem w_c11 : (Jvm.Cond.code ({ cls := "com/example/venuewright/venuewright/model/TradingCapacities", name := "includes", desc := "(Lcom/example/venuewright/venuewright/model/TradingCapacity;)Z" } : Jvm.MethodName) prog_78_method_2_code (2 : Nat) (Option.some Jvm.ClassFile.FieldType.boolean)).before args0 about1 = true := code_word (m := ⟨3, 1⟩) (meth := k3m1) (c := k3c1) (by decide +kernel) rfl rfl rfl (by decide +kernel)
set_option maxRecDepth 65536 in
theorem w_c12 : (Jvm.Cond.code ({ cls := "java/util/Optional", name := "orElse", desc := "(Ljava/lang/Object;)Ljava/lang/Object;" } : Jvm.MethodName) jdk_32_method_15_code (2 : Nat) (Option.some (Jvm.ClassFile.FieldType.object "java/lang/Object"))).before args0 about1 = true := code_word (m := ⟨4, 3⟩) (meth := k4m3) (c := k4c3) (by decide +kernel) rfl rfl rfl (by decide +kernel)
def codes1 : List Jvm.Cond := [Jvm.Cond.code x code maxLocals ret, Jvm.Cond.code ({ cls := "com/example/venuewright/venuewright/model/TradingCapacitiesIncludesPinLaw", name := "opt", desc := "(I)Ljava/util/Optional;" } : Jvm.MethodName) method_3_code (1 : Nat) (Option.some (Jvm.ClassFile.FieldType.object "java/util/Optional")), Jvm.Cond.code ({ cls := "java/util/Optional", name := "empty", desc := "()Ljava/util/Optional;" } : Jvm.MethodName) jdk_32_method_1_code (1 : Nat) (Option.some (Jvm.ClassFile.FieldType.object "java/util/Optional")), Jvm.Cond.code ({ cls := "com/example/venuewright/venuewright/model/TradingCapacitiesIncludesPinLaw", name := "cap", desc := "(I)Lcom/example/venuewright/venuewright/model/TradingCapacity;" } : Jvm.MethodName) method_2_code (1 : Nat) (Option.some (Jvm.ClassFile.FieldType.object "com/example/venuewright/venuewright/model/TradingCapacity")), Jvm.Cond.code ({ cls := "java/util/Optional", name := "of", desc := "(Ljava/lang/Object;)Ljava/util/Optional;" } : Jvm.MethodName) jdk_32_method_3_code (1 : Nat) (Option.some (Jvm.ClassFile.FieldType.object "java/util/Optional")), Jvm.Cond.code ({ cls := "java/util/Objects", name := "requireNonNull", desc := "(Ljava/lang/Object;)Ljava/lang/Object;" } : Jvm.MethodName) jdk_31_method_10_code (1 : Nat) (Option.some (Jvm.ClassFile.FieldType.object "java/lang/Object")), Jvm.Cond.code ({ cls := "java/util/Optional", name := "<init>", desc := "(Ljava/lang/Object;)V" } : Jvm.MethodName) jdk_32_method_2_code (2 : Nat) (Option.none : Option Jvm.ClassFile.FieldType), Jvm.Cond.code ({ cls := "java/lang/Object", name := "<init>", desc := "()V" } : Jvm.MethodName) object_method_1_code (1 : Nat) (Option.none : Option Jvm.ClassFile.FieldType), Jvm.Cond.code ({ cls := "com/example/venuewright/venuewright/model/TradingCapacities", name := "<init>", desc := "(Ljava/util/Optional;Ljava/util/Optional;)V" } : Jvm.MethodName) prog_78_method_1_code (3 : Nat) (Option.none : Option Jvm.ClassFile.FieldType), Jvm.Cond.code ({ cls := "java/lang/Record", name := "<init>", desc := "()V" } : Jvm.MethodName) jdk_30_method_1_code (1 : Nat) (Option.none : Option Jvm.ClassFile.FieldType), Jvm.Cond.code ({ cls := "java/util/Objects", name := "requireNonNull", desc := "(Ljava/lang/Object;Ljava/lang/String;)Ljava/lang/Object;" } : Jvm.MethodName) jdk_31_method_11_code (2 : Nat) (Option.some (Jvm.ClassFile.FieldType.object "java/lang/Object")), Jvm.Cond.code ({ cls := "com/example/venuewright/venuewright/model/TradingCapacities", name := "includes", desc := "(Lcom/example/venuewright/venuewright/model/TradingCapacity;)Z" } : Jvm.MethodName) prog_78_method_2_code (2 : Nat) (Option.some Jvm.ClassFile.FieldType.boolean), Jvm.Cond.code ({ cls := "java/util/Optional", name := "orElse", desc := "(Ljava/lang/Object;)Ljava/lang/Object;" } : Jvm.MethodName) jdk_32_method_15_code (2 : Nat) (Option.some (Jvm.ClassFile.FieldType.object "java/lang/Object"))]
set_option maxRecDepth 65536 in
theorem codes_eq : words1.filter isCode = codes1 := rfl
theorem w_codes : ∀ c ∈ words1.filter isCode, c.before args0 about1 = true := by
  rw [codes_eq]
  intro c hc
  simp only [codes1, List.mem_cons, List.not_mem_nil, or_false] at hc
  rcases hc with rfl | rfl | rfl | rfl | rfl | rfl | rfl | rfl | rfl | rfl | rfl | rfl | rfl
  · exact w_c0
  · exact w_c1
  · exact w_c2
  · exact w_c3
  · exact w_c4
  · exact w_c5
  · exact w_c6
  · exact w_c7
  · exact w_c8
  · exact w_c9
  · exact w_c10
  · exact w_c11
  · exact w_c12
set_option maxRecDepth 65536 in
theorem w_t1 : (words1.take 24).all (fun c => isCode c || c.before args0 about1) = true := by decide +kernel
set_option maxRecDepth 65536 in
theorem w_t2 : ((words1.drop 24).take 24).all (fun c => isCode c || c.before args0 about1) = true := by decide +kernel
set_option maxRecDepth 65536 in
theorem w_t3 : (((words1.drop 24).drop 24).take 24).all (fun c => isCode c || c.before args0 about1) = true := by decide +kernel
set_option maxRecDepth 65536 in
theorem w_t4 : (((words1.drop 24).drop 24).drop 24).all (fun c => isCode c || c.before args0 about1) = true := by decide +kernel
theorem w_tables : (allAtoms (Jvm.Cond.code x code maxLocals ret :: tables_1)).before args0 about1 = true := by
  rw [allAtoms_all]
  show words1.all (fun c => c.before args0 about1) = true
  refine all_split ?_ w_codes
  rw [← List.take_append_drop 24 words1, List.all_append, w_t1, ← List.take_append_drop 24 (words1.drop 24), List.all_append, w_t2, ← List.take_append_drop 24 ((words1.drop 24).drop 24), List.all_append, w_t3, w_t4]
  rfl
set_option maxRecDepth 65536 in
theorem w_rest : rest_1_c.before args0 about1 = true := by decide +kernel
set_option maxRecDepth 65536 in
theorem w_case : (Jvm.Cond.and given_1 narrow_1).before args0 about1 = true := by decide +kernel
theorem w_applies : (headSpec (Jvm.Cond.code x code maxLocals ret :: tables_1) room_1).applies x e0.platform about1 = true :=
  (Spec.applies_iff w_frames).mpr ⟨w_running, w_runnable, w_alone, w_named, w_hears, w_ripe, w_room, w_tables⟩
theorem atStart : AtStart classFile x code maxLocals ret World_1 tables_1 room_1 Calls_1 rest_1 Pre_1 launch0 p0 e0 about1 theMethod args0 below0 :=
  ⟨lists_1, trivial, launch0.admits_env _ _ _, launch0.least_env, fairChoices_fair.cas, fairChoices_fair.clock, w_frames, w_args, w_heap, w_applies, trivial, w_rest, w_case⟩
end start1
theorem witness_1 : WitnessClaimed_1 := ⟨start1.p0, start1.e0, start1.about1, start1.theMethod, start1.args0, start1.below0, start1.atStart⟩
end Jvm.Pilot.@@N@@
