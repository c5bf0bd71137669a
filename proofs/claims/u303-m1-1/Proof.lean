import JvmDerived
import JvmDerived.Pilot.@@N@@Statement
import JvmDerived.Pilot.@@N@@Code
set_option linter.unusedVariables false
set_option linter.unusedSimpArgs false
namespace Jvm.OwnKit
open Jvm Sem ClassFile Op Lib Jvm.Stand Jvm.Free Jvm.LawKit Jvm.RoadKit
section Own
variable {p : Program} {l : Launch} {e : Env} {R : Room} {s : State} {m : MethodId} {args : Array Value} {below : List Frame} {meth : Method} {c : Code} {T : State} {locs : List Loc} {cells slots : Nat} {Z : State} {a0 : Array Value} {h h' : Heap}
/-- the walk from A on comes to an end that says Q -/
def Goes (tb : Tables) (e : Env) (below : List Frame) (Q : State → Outcome → Prop) (A : State) : Prop := ∃ t o, Steps tb e below A t ∧ t.status = .running ∧ Ended t below o ∧ Q t o
theorem Goes.via {tb : Tables} {Q : State → Outcome → Prop} {A B : State} (st : ∀ t, Steps tb e below B t → Steps tb e below A t) (k : Goes tb e below Q B) : Goes tb e below Q A := by
  obtain ⟨t, o, h, r⟩ := k; exact ⟨t, o, st t h, r⟩
/-- what a contract says at one start: the arguments as', the heap h -/
abbrev Ctr (l : Launch) (Z : State) (y : MethodName) (bytes : ByteArray) (maxL : Nat) (ret : Option FieldType) (rm : Room) (as' : Array Value) (h : Heap) (Q : Option Value → Heap → List Loc → Prop) (ws : List Cond) : Prop :=
  MetFree l y (head1 (Cond.code y bytes maxL ret :: ws) rm) (fun a U => a = as' ∧ Z.Warmed39 U.vm ∧ U.heap = h) (fun _ _ _ _ _ => True) (fun _ U o U' => ∃ v L, o = .returned v ∧ Q v U'.heap L ∧ FrameEnd U o U' L rm.cells rm.slots)
/-- what a contract says of a body that may make String constants -/
abbrev CtrW (l : Launch) (Z : State) (y : MethodName) (bytes : ByteArray) (maxL : Nat) (ret : Option FieldType) (rm : Room) (as' : Array Value) (h : Heap) (Q : Option Value → Heap → List Loc → Prop) (ws : List Cond) : Prop :=
  MetFree l y (head1 (Cond.code y bytes maxL ret :: ws) rm) (fun a U => a = as' ∧ Z.Warmed39 U.vm ∧ U.heap = h) (fun _ _ _ _ _ => True) (fun _ U o U' => ∃ v L, o = .returned v ∧ Q v U'.heap L ∧ ReturnedEndW U o U' L rm.cells rm.slots)
/-- the leave of a walk, in either frame F -/
def Lv (F : State → Outcome → State → List Loc → Nat → Nat → Prop) (e : Env) (s : State) (m : MethodId) (below : List Frame) (meth : Method) (T : State) (locs : List Loc) (C S : Nat) : Prop :=
  ∀ v : Option Value, (meth.sig.returnType = none → v = none) → ∃ fs, (∀ (f : JFrame) (acts : List Action), f.method = m → f.locked = none → f.entered = [] → (doReturn e (T.setTop f) acts v).1 = T.setFrames fs) ∧ (T.setFrames fs).status = .running ∧ Ended (T.setFrames fs) below (.returned v) ∧ F s (.returned v) (T.setFrames fs) locs C S
theorem lvN (X : Stand p l e R s m args below meth c T locs cells slots) (hlocks : meth.locks = false) {C S : Nat} (hc : cells ≤ C) (hs : slots ≤ S) : Lv FrameEnd e s m below meth T locs C S := fun v hv => by
  obtain ⟨fs, hr, hrun, hended, hW, hsame⟩ := X.leave hv hlocks
  exact ⟨fs, hr, hrun, hended, ⟨_, rfl⟩, hW, hsame.mono hc hs⟩
theorem lvW {vm0 : Vm} {k0 : Nat} (X : Stand p l e R (s.setVm vm0) m args below meth c T locs cells slots) (hlocks : meth.locks = false) (hS : s.Since vm0 k0) (eT : T.heap = h) (hk : k0 ≤ h.size) {C S : Nat} (hc : cells ≤ C) (hs : slots ≤ S) : Lv ReturnedEndW e s m below meth T locs C S := fun v hv => by
  obtain ⟨fs, hr, hrun, hended, h1, h2, h3, h4⟩ := X.leaveW hS (eT ▸ hk) hv hlocks
  exact ⟨fs, hr, hrun, hended, h1, h2, h3, h4.mono hc hs⟩
theorem fin {F : State → Outcome → State → List Loc → Nat → Nat → Prop} {v : Option Value} (hv : meth.sig.returnType = none → v = none) {A : State}
    (hk : ∀ fs, (∀ (f : JFrame) (acts : List Action), f.method = m → f.locked = none → f.entered = [] → (doReturn e (T.setTop f) acts v).1 = T.setFrames fs) → Steps p.tables e below A (T.setFrames fs))
    {Q : Option Value → Heap → List Loc → Prop} {C S : Nat} (eT : T.heap = h) (hQ : Q v h locs) (lv : Lv F e s m below meth T locs C S) :
    Goes p.tables e below (fun t o => ∃ v L, o = .returned v ∧ Q v t.heap L ∧ F s o t L C S) A := by
  obtain ⟨fs, hr, hrun, hended, hF⟩ := lv v hv
  subst eT
  exact ⟨_, _, hk fs hr, hrun, hended, v, locs, rfl, hQ, hF⟩
variable {sb : State} {F : State → Outcome → State → List Loc → Nat → Nat → Prop}
/-- return of nothing -/
theorem fin0 (X : Stand p l e R sb m args below meth c T locs cells slots) (hx : p.tables.exec = Jvm.exec) (hret : meth.sig.returnType = none) {pc : Nat} {Ls : Array Slot} (hd : decode c.code pc = .ok (.return_, 1))
    {Q : Option Value → Heap → List Loc → Prop} {C S : Nat} (eT : T.heap = h) (hQ : Q none h locs) (lv : Lv F e s m below meth T locs C S) :
    Goes p.tables e below (fun t o => ∃ v L, o = .returned v ∧ Q v t.heap L ∧ F s o t L C S) (T.setTop (mkF m pc Ls [])) :=
  fin (fun _ => rfl) (fun _ hl => X.returnOut hx hret hd hl) eT hQ lv
theorem finI (X : Stand p l e R sb m args below meth c T locs cells slots) (hx : p.tables.exec = Jvm.exec) (hret : meth.sig.returnType = some .int) {pc : Nat} {Ls : Array Slot} {st : List Value} {z : Int32} (hd : decode c.code pc = .ok (.ireturn, 1))
    {Q : Option Value → Heap → List Loc → Prop} {C S : Nat} (eT : T.heap = h) (hQ : Q (some (.int z)) h locs) (lv : Lv F e s m below meth T locs C S) :
    Goes p.tables e below (fun t o => ∃ v L, o = .returned v ∧ Q v t.heap L ∧ F s o t L C S) (T.setTop (mkF m pc Ls (.int z :: st))) :=
  fin (fun q => by rw [hret] at q; cases q) (fun _ hl => retOut X hx hret rfl (Or.inl ⟨rfl, Or.inl rfl, _, rfl⟩) hd hl) eT hQ lv
theorem finN (X : Stand p l e R sb m args below meth c T locs cells slots) (hx : p.tables.exec = Jvm.exec) {t : FieldType} (hret : meth.sig.returnType = some t) (ht : t = .boolean ∨ t = .byte ∨ t = .char ∨ t = .short) {pc : Nat} {Ls : Array Slot} {st : List Value} {z z' : Int32} (hz : nar t z = z') (hd : decode c.code pc = .ok (.ireturn, 1))
    {Q : Option Value → Heap → List Loc → Prop} {C S : Nat} (eT : T.heap = h) (hQ : Q (some (.int z')) h locs) (lv : Lv F e s m below meth T locs C S) :
    Goes p.tables e below (fun t o => ∃ v L, o = .returned v ∧ Q v t.heap L ∧ F s o t L C S) (T.setTop (mkF m pc Ls (.int z :: st))) :=
  fin (fun q => by rw [hret] at q; cases q) (fun _ hl => by subst hz; exact retN X hx hret ht hd hl) eT hQ lv
theorem finJ (X : Stand p l e R sb m args below meth c T locs cells slots) (hx : p.tables.exec = Jvm.exec) (hret : meth.sig.returnType = some .long) {pc : Nat} {Ls : Array Slot} {st : List Value} {z : Int64} (hd : decode c.code pc = .ok (.lreturn, 1))
    {Q : Option Value → Heap → List Loc → Prop} {C S : Nat} (eT : T.heap = h) (hQ : Q (some (.long z)) h locs) (lv : Lv F e s m below meth T locs C S) :
    Goes p.tables e below (fun t o => ∃ v L, o = .returned v ∧ Q v t.heap L ∧ F s o t L C S) (T.setTop (mkF m pc Ls (.long z :: st))) :=
  fin (fun q => by rw [hret] at q; cases q) (fun _ hl => retOut X hx hret rfl (Or.inr (Or.inl ⟨rfl, rfl, _, rfl⟩)) hd hl) eT hQ lv
theorem finA (X : Stand p l e R sb m args below meth c T locs cells slots) (hx : p.tables.exec = Jvm.exec) {t : FieldType} (hret : meth.sig.returnType = some t) (ht : t.isReference = true) {pc : Nat} {Ls : Array Slot} {st : List Value} {w : Value} (hw : w.isRef = true) (hn : narrow t w = w) (hd : decode c.code pc = .ok (.areturn, 1))
    {Q : Option Value → Heap → List Loc → Prop} {C S : Nat} (eT : T.heap = h) (hQ : Q (some w) h locs) (lv : Lv F e s m below meth T locs C S) :
    Goes p.tables e below (fun t o => ∃ v L, o = .returned v ∧ Q v t.heap L ∧ F s o t L C S) (T.setTop (mkF m pc Ls (w :: st))) :=
  fin (fun q => by rw [hret] at q; cases q) (fun _ hl => retOut X hx hret hn (Or.inr (Or.inr (Or.inr (Or.inr ⟨rfl, ht, hw⟩)))) hd hl) eT hQ lv
theorem nar_ref {t : FieldType} {w : Value} (ht : t.isReference = true) (hw : w.isRef = true) : narrow t w = w := by cases t <;> first | (cases ht; done) | (cases w <;> first | rfl | (cases hw; done))
theorem fit_ref {t : FieldType} {w : Value} (ht : t.isReference = true) (hw : w.isRef = true) : fits t w = true := by cases t <;> first | (cases ht; done) | (cases w <;> first | rfl | (cases hw; done))
theorem old_le {n0 : Nat} (O : Old Z n0 h) : n0 ≤ h.size := O.1 ▸ O.2.1
/-- a callee's law, in the one shape -/
abbrev BackQ (l : Launch) (R : Room) (p : Program) (e : Env) (below : List Frame) (s : State) (args : Array Value) (y : MethodName) (W : Nat) (as' : Array Value) (h : Heap) (kc ks : Nat) (Q : Option Value → Heap → List Loc → Prop) : Prop :=
  Back l R p e below s args y 3 W (fun A a => a = as' ∧ A.U.heap = h ∧ A.cells + kc ≤ R.cells ∧ A.slots + ks ≤ R.slots) (fun A _ v B => ∃ L, Q v B.U.heap L ∧ B.locs = A.locs ++ L ∧ B.cells = A.cells + kc ∧ B.slots = A.slots + ks)
theorem callStaticB (X : Stand p l e R s m args below meth c T locs cells slots) (hx : p.tables.exec = Jvm.exec) (hZ : Z.Warmed39 s.vm) {own : String} {index : Nat} {y : MethodName} {bytes : ByteArray} {maxL : Nat} {ret : Option FieldType} {kc ks : Nat} {Q : Option Value → Heap → List Loc → Prop}
    (hown : s.vm.findClass own = some m.cls) (w1 : (Cond.methodLink own index y).before a0 Z = true) (w2 : (Cond.static y).before a0 Z = true) (w3 : (Cond.initialized y.cls).before a0 Z = true) (w4 : (Cond.code y bytes maxL ret).before a0 Z = true)
    (hy : y.cls ≠ "java/lang/invoke/MethodHandle" ∧ y.cls ≠ "java/lang/invoke/VarHandle") {argsL rest : List Value} {W : Nat} (hK : BackQ l R p e below s args y W argsL.toArray h kc ks Q) (eT : T.heap = h)
    (hlen : ∀ sig, parseMethodDescriptor y.desc = some sig → argsL.length = sig.parameters.length) {pc : Nat} {Ls : Array Slot} {st : List Value} (hst : st = argsL.reverse ++ rest) (hsz : Ls.size = c.maxLocals) (hd : decode c.code pc = .ok (.invokestatic index, 3))
    (hW : (rest.map fun v => v.category).sum ≤ W) (hce : cells + kc ≤ R.cells) (hsl : slots + ks ≤ R.slots) :
    ∃ v T' L, Stand p l e R s m args below meth c T' (locs ++ L) (cells + kc) (slots + ks) ∧ Q v T'.heap L ∧ ∀ t, Steps p.tables e below (T'.setTop (mkF m (pc + 3) Ls (v.toList ++ rest))) t → Steps p.tables e below (T.setTop (mkF m pc Ls st)) t := by
  obtain ⟨v, _, ⟨T', L', k', n'⟩, -, X', ⟨L, hQ, l1, l2, l3⟩, st'⟩ := Jvm.LawKit.callS X hx hown (mvT hZ w1) (mvT hZ w2) (mvT hZ w3) (mvT hZ w4) hy hK (g := mkF m pc Ls st) rfl hsz (argsL := argsL) (rest := rest) hlen hst (by show 2 * 0 + _ ≤ _; omega) hd (fun _ _ => ⟨rfl, eT, hce, hsl⟩)
  dsimp only [Pt.U, Pt.locs, Pt.cells, Pt.slots] at X' l1 l2 l3 st' hQ
  subst l1 l2 l3
  exact ⟨v, T', L, X', hQ, st'⟩
theorem callStatic (X : Stand p l e R s m args below meth c T locs cells slots) (hx : p.tables.exec = Jvm.exec) (hZ : Z.Warmed39 s.vm) {own : String} {index : Nat} {y : MethodName} {bytes : ByteArray} {maxL : Nat} {ret : Option FieldType} {rm : Room} {Q : Option Value → Heap → List Loc → Prop}
    (hown : s.vm.findClass own = some m.cls) (w1 : (Cond.methodLink own index y).before a0 Z = true) (w2 : (Cond.static y).before a0 Z = true) (w3 : (Cond.initialized y.cls).before a0 Z = true) (w4 : (Cond.code y bytes maxL ret).before a0 Z = true)
    (hy : y.cls ≠ "java/lang/invoke/MethodHandle" ∧ y.cls ≠ "java/lang/invoke/VarHandle") {argsL rest : List Value} (hM : Ctr l Z y bytes maxL ret rm argsL.toArray h Q []) (eT : T.heap = h)
    (hlen : ∀ sig, parseMethodDescriptor y.desc = some sig → argsL.length = sig.parameters.length) {pc W : Nat} {Ls : Array Slot} {st : List Value} (hst : st = argsL.reverse ++ rest) (hsz : Ls.size = c.maxLocals) (hd : decode c.code pc = .ok (.invokestatic index, 3))
    (hW : (rest.map fun v => v.category).sum ≤ W) (hfr : rm.frames + 1 ≤ R.frames) (hlo : W + (maxL + 11) + rm.locals ≤ R.locals) (hce : cells + rm.cells ≤ R.cells) (hsl : slots + rm.slots ≤ R.slots) :
    ∃ v T' L, Stand p l e R s m args below meth c T' (locs ++ L) (cells + rm.cells) (slots + rm.slots) ∧ Q v T'.heap L ∧ ∀ t, Steps p.tables e below (T'.setTop (mkF m (pc + 3) Ls (v.toList ++ rest))) t → Steps p.tables e below (T.setTop (mkF m pc Ls st)) t :=
  callStaticB X hx hZ hown w1 w2 w3 w4 hy (backOf (W := W) hM hZ w4 w3 hfr hlo) eT hlen hst hsz hd hW hce hsl
theorem callInitB (X : Stand p l e R s m args below meth c T locs cells slots) (hx : p.tables.exec = Jvm.exec) (hZ : Z.Warmed39 s.vm) {own : String} {index : Nat} {y : MethodName} {bytes : ByteArray} {maxL : Nat} {kc ks : Nat} {Q : Option Value → Heap → List Loc → Prop} (hy1 : y.name = "<init>")
    (hown : s.vm.findClass own = some m.cls) (w1 : (Cond.methodLink own index y).before a0 Z = true) (w2 : (Cond.instanceMethod y).before a0 Z = true) (w4 : (Cond.code y bytes maxL none).before a0 Z = true)
    (hy : y.cls ≠ "java/lang/invoke/MethodHandle" ∧ y.cls ≠ "java/lang/invoke/VarHandle") {a : Addr} {argsL rest : List Value} {W : Nat} (hK : BackQ l R p e below s args y W (.ref a :: argsL).toArray h kc ks Q) (eT : T.heap = h)
    (hlen : ∀ sig, parseMethodDescriptor y.desc = some sig → argsL.length = sig.parameters.length) {pc : Nat} {Ls : Array Slot} {st : List Value} (hst : st = argsL.reverse ++ .ref a :: rest) (hsz : Ls.size = c.maxLocals) (hd : decode c.code pc = .ok (.invokespecial index, 3))
    (hW : (rest.map fun v => v.category).sum ≤ W) (hce : cells + kc ≤ R.cells) (hsl : slots + ks ≤ R.slots) :
    ∃ v T' L, Stand p l e R s m args below meth c T' (locs ++ L) (cells + kc) (slots + ks) ∧ Q v T'.heap L ∧ ∀ t, Steps p.tables e below (T'.setTop (mkF m (pc + 3) Ls (v.toList ++ rest))) t → Steps p.tables e below (T.setTop (mkF m pc Ls st)) t := by
  obtain ⟨v, _, ⟨T', L', k', n'⟩, -, X', ⟨L, hQ, l1, l2, l3⟩, st'⟩ := X.specialBack hx hy1 hown (mvT hZ w1) (mvT hZ w2) (mvT hZ w4) hy hK (g := mkF m pc Ls st) rfl hsz (Steps.refl _) (a := a) (argsL := argsL) (rest := rest) hlen hst (by show 2 * 0 + _ ≤ _; omega) hd (fun _ _ => ⟨rfl, eT, hce, hsl⟩)
  dsimp only [Pt.U, Pt.locs, Pt.cells, Pt.slots] at X' l1 l2 l3 st' hQ
  subst l1 l2 l3
  exact ⟨v, T', L, X', hQ, fun t k => st'.trans k⟩
theorem callInit (X : Stand p l e R s m args below meth c T locs cells slots) (hx : p.tables.exec = Jvm.exec) (hZ : Z.Warmed39 s.vm) {own : String} {index : Nat} {y : MethodName} {bytes : ByteArray} {maxL : Nat} {rm : Room} {Q : Option Value → Heap → List Loc → Prop} (hy1 : y.name = "<init>")
    (hown : s.vm.findClass own = some m.cls) (w1 : (Cond.methodLink own index y).before a0 Z = true) (w2 : (Cond.instanceMethod y).before a0 Z = true) (w3 : (Cond.initialized y.cls).before a0 Z = true) (w4 : (Cond.code y bytes maxL none).before a0 Z = true)
    (hy : y.cls ≠ "java/lang/invoke/MethodHandle" ∧ y.cls ≠ "java/lang/invoke/VarHandle") {a : Addr} {argsL rest : List Value} (hM : Ctr l Z y bytes maxL none rm (.ref a :: argsL).toArray h Q []) (eT : T.heap = h)
    (hlen : ∀ sig, parseMethodDescriptor y.desc = some sig → argsL.length = sig.parameters.length) {pc W : Nat} {Ls : Array Slot} {st : List Value} (hst : st = argsL.reverse ++ .ref a :: rest) (hsz : Ls.size = c.maxLocals) (hd : decode c.code pc = .ok (.invokespecial index, 3))
    (hW : (rest.map fun v => v.category).sum ≤ W) (hfr : rm.frames + 1 ≤ R.frames) (hlo : W + (maxL + 11) + rm.locals ≤ R.locals) (hce : cells + rm.cells ≤ R.cells) (hsl : slots + rm.slots ≤ R.slots) :
    ∃ v T' L, Stand p l e R s m args below meth c T' (locs ++ L) (cells + rm.cells) (slots + rm.slots) ∧ Q v T'.heap L ∧ ∀ t, Steps p.tables e below (T'.setTop (mkF m (pc + 3) Ls (v.toList ++ rest))) t → Steps p.tables e below (T.setTop (mkF m pc Ls st)) t :=
  callInitB X hx hZ hy1 hown w1 w2 w4 hy (backOf (W := W) hM hZ w4 w3 hfr hlo) eT hlen hst hsz hd hW hce hsl
theorem callVirtB (X : Stand p l e R s m args below meth c T locs cells slots) (hx : p.tables.exec = Jvm.exec) (hZ : Z.Warmed39 s.vm) {own C : String} {index : Nat} {y z : MethodName} {kc ks : Nat} {Q : Option Value → Heap → List Loc → Prop}
    (hown : s.vm.findClass own = some m.cls) (w1 : (Cond.methodLink own index y).before a0 Z = true) (w2 : (Cond.declares y).before a0 Z = true) (w5 : (Cond.selects C y z).before a0 Z = true) (hnf : NotFace s y) (w6 : (Cond.instanceMethod z).before a0 Z = true)
    (hy : y.cls ≠ "java/lang/invoke/MethodHandle" ∧ y.cls ≠ "java/lang/invoke/VarHandle") {a : Addr} {argsL rest : List Value} {W : Nat} (hK : BackQ l R p e below s args z W (.ref a :: argsL).toArray h kc ks Q) (eT : T.heap = h) (E : Exa Z h a C)
    (hlen : ∀ sig, parseMethodDescriptor y.desc = some sig → argsL.length = sig.parameters.length) {pc : Nat} {Ls : Array Slot} {st : List Value} (hst : st = argsL.reverse ++ .ref a :: rest) (hsz : Ls.size = c.maxLocals) (hd : decode c.code pc = .ok (.invokevirtual index, 3))
    (hW : (rest.map fun v => v.category).sum ≤ W) (hce : cells + kc ≤ R.cells) (hsl : slots + ks ≤ R.slots) :
    ∃ v T' L, Stand p l e R s m args below meth c T' (locs ++ L) (cells + kc) (slots + ks) ∧ Q v T'.heap L ∧ ∀ t, Steps p.tables e below (T'.setTop (mkF m (pc + 3) Ls (v.toList ++ rest))) t → Steps p.tables e below (T.setTop (mkF m pc Ls st)) t := by
  obtain ⟨cB, kB, q1, -, q3⟩ := isOf hZ eT E
  obtain ⟨v, _, ⟨T', L', k', n'⟩, -, X', ⟨L, hQ, l1, l2, l3⟩, st'⟩ := X.virtualBack hx hown (mvT hZ w1) (mvT hZ w2) hnf (mvT hZ w5) (mvT hZ w6) hy hK q1 q3 (g := mkF m pc Ls st) rfl hsz (Steps.refl _) (argsL := argsL) (rest := rest) hlen hst (by show 2 * 0 + _ ≤ _; omega) hd (fun _ _ => ⟨rfl, eT, hce, hsl⟩)
  dsimp only [Pt.U, Pt.locs, Pt.cells, Pt.slots] at X' l1 l2 l3 st' hQ
  subst l1 l2 l3
  exact ⟨v, T', L, X', hQ, fun t k => st'.trans k⟩
theorem callVirt (X : Stand p l e R s m args below meth c T locs cells slots) (hx : p.tables.exec = Jvm.exec) (hZ : Z.Warmed39 s.vm) {own C : String} {index : Nat} {y z : MethodName} {bytes : ByteArray} {maxL : Nat} {ret : Option FieldType} {rm : Room} {Q : Option Value → Heap → List Loc → Prop}
    (hown : s.vm.findClass own = some m.cls) (w1 : (Cond.methodLink own index y).before a0 Z = true) (w2 : (Cond.declares y).before a0 Z = true) (w5 : (Cond.selects C y z).before a0 Z = true) (hnf : NotFace s y) (w6 : (Cond.instanceMethod z).before a0 Z = true) (w3 : (Cond.initialized z.cls).before a0 Z = true) (w4 : (Cond.code z bytes maxL ret).before a0 Z = true)
    (hy : y.cls ≠ "java/lang/invoke/MethodHandle" ∧ y.cls ≠ "java/lang/invoke/VarHandle") {a : Addr} {argsL rest : List Value} (hM : Ctr l Z z bytes maxL ret rm (.ref a :: argsL).toArray h Q []) (eT : T.heap = h) (E : Exa Z h a C)
    (hlen : ∀ sig, parseMethodDescriptor y.desc = some sig → argsL.length = sig.parameters.length) {pc W : Nat} {Ls : Array Slot} {st : List Value} (hst : st = argsL.reverse ++ .ref a :: rest) (hsz : Ls.size = c.maxLocals) (hd : decode c.code pc = .ok (.invokevirtual index, 3))
    (hW : (rest.map fun v => v.category).sum ≤ W) (hfr : rm.frames + 1 ≤ R.frames) (hlo : W + (maxL + 11) + rm.locals ≤ R.locals) (hce : cells + rm.cells ≤ R.cells) (hsl : slots + rm.slots ≤ R.slots) :
    ∃ v T' L, Stand p l e R s m args below meth c T' (locs ++ L) (cells + rm.cells) (slots + rm.slots) ∧ Q v T'.heap L ∧ ∀ t, Steps p.tables e below (T'.setTop (mkF m (pc + 3) Ls (v.toList ++ rest))) t → Steps p.tables e below (T.setTop (mkF m pc Ls st)) t :=
  callVirtB X hx hZ hown w1 w2 w5 hnf w6 hy (backOf (W := W) hM hZ w4 w3 hfr hlo) eT E hlen hst hsz hd hW hce hsl
theorem callVirtUpB (X : Stand p l e R s m args below meth c T locs cells slots) (hx : p.tables.exec = Jvm.exec) (hZ : Z.Warmed39 s.vm) {own C owner : String} {index : Nat} {y z : MethodName} {kc ks : Nat} {Q : Option Value → Heap → List Loc → Prop}
    (hown : s.vm.findClass own = some m.cls) (w1 : (Cond.methodLink own index y).before a0 Z = true) (w7 : (Cond.sameMethod y.cls owner y.name y.desc).before a0 Z = true) (w2 : (Cond.declares ⟨owner, y.name, y.desc⟩).before a0 Z = true) (w5 : (Cond.selects C y z).before a0 Z = true) (w6 : (Cond.instanceMethod z).before a0 Z = true)
    (hy : owner ≠ "java/lang/invoke/MethodHandle" ∧ owner ≠ "java/lang/invoke/VarHandle") {a : Addr} {argsL rest : List Value} {W : Nat} (hK : BackQ l R p e below s args z W (.ref a :: argsL).toArray h kc ks Q) (eT : T.heap = h) (E : Exa Z h a C)
    (hlen : ∀ sig, parseMethodDescriptor y.desc = some sig → argsL.length = sig.parameters.length) {pc : Nat} {Ls : Array Slot} {st : List Value} (hst : st = argsL.reverse ++ .ref a :: rest) (hsz : Ls.size = c.maxLocals) (hd : decode c.code pc = .ok (.invokevirtual index, 3))
    (hW : (rest.map fun v => v.category).sum ≤ W) (hce : cells + kc ≤ R.cells) (hsl : slots + ks ≤ R.slots) :
    ∃ v T' L, Stand p l e R s m args below meth c T' (locs ++ L) (cells + kc) (slots + ks) ∧ Q v T'.heap L ∧ ∀ t, Steps p.tables e below (T'.setTop (mkF m (pc + 3) Ls (v.toList ++ rest))) t → Steps p.tables e below (T.setTop (mkF m pc Ls st)) t := by
  obtain ⟨cB, kB, q1, -, q3⟩ := isOf hZ eT E
  obtain ⟨v, _, ⟨T', L', k', n'⟩, -, X', ⟨L, hQ, l1, l2, l3⟩, st'⟩ := X.virtualBackUp hx hown (mvT hZ w1) (mvT hZ w7) (mvT hZ w2) hy (mvT hZ w5) (mvT hZ w6) hK q1 q3 (g := mkF m pc Ls st) rfl hsz (Steps.refl _) (argsL := argsL) (rest := rest) hlen hst (by show 2 * 0 + _ ≤ _; omega) hd (fun _ _ => ⟨rfl, eT, hce, hsl⟩)
  dsimp only [Pt.U, Pt.locs, Pt.cells, Pt.slots] at X' l1 l2 l3 st' hQ
  subst l1 l2 l3
  exact ⟨v, T', L, X', hQ, fun t k => st'.trans k⟩
theorem callVirtUp (X : Stand p l e R s m args below meth c T locs cells slots) (hx : p.tables.exec = Jvm.exec) (hZ : Z.Warmed39 s.vm) {own C owner : String} {index : Nat} {y z : MethodName} {bytes : ByteArray} {maxL : Nat} {ret : Option FieldType} {rm : Room} {Q : Option Value → Heap → List Loc → Prop}
    (hown : s.vm.findClass own = some m.cls) (w1 : (Cond.methodLink own index y).before a0 Z = true) (w7 : (Cond.sameMethod y.cls owner y.name y.desc).before a0 Z = true) (w2 : (Cond.declares ⟨owner, y.name, y.desc⟩).before a0 Z = true) (w5 : (Cond.selects C y z).before a0 Z = true) (w6 : (Cond.instanceMethod z).before a0 Z = true) (w3 : (Cond.initialized z.cls).before a0 Z = true) (w4 : (Cond.code z bytes maxL ret).before a0 Z = true)
    (hy : owner ≠ "java/lang/invoke/MethodHandle" ∧ owner ≠ "java/lang/invoke/VarHandle") {a : Addr} {argsL rest : List Value} (hM : Ctr l Z z bytes maxL ret rm (.ref a :: argsL).toArray h Q []) (eT : T.heap = h) (E : Exa Z h a C)
    (hlen : ∀ sig, parseMethodDescriptor y.desc = some sig → argsL.length = sig.parameters.length) {pc W : Nat} {Ls : Array Slot} {st : List Value} (hst : st = argsL.reverse ++ .ref a :: rest) (hsz : Ls.size = c.maxLocals) (hd : decode c.code pc = .ok (.invokevirtual index, 3))
    (hW : (rest.map fun v => v.category).sum ≤ W) (hfr : rm.frames + 1 ≤ R.frames) (hlo : W + (maxL + 11) + rm.locals ≤ R.locals) (hce : cells + rm.cells ≤ R.cells) (hsl : slots + rm.slots ≤ R.slots) :
    ∃ v T' L, Stand p l e R s m args below meth c T' (locs ++ L) (cells + rm.cells) (slots + rm.slots) ∧ Q v T'.heap L ∧ ∀ t, Steps p.tables e below (T'.setTop (mkF m (pc + 3) Ls (v.toList ++ rest))) t → Steps p.tables e below (T.setTop (mkF m pc Ls st)) t :=
  callVirtUpB X hx hZ hown w1 w7 w2 w5 w6 hy (backOf (W := W) hM hZ w4 w3 hfr hlo) eT E hlen hst hsz hd hW hce hsl
/-- invokevirtual of a private method -/
theorem callPrivB (X : Stand p l e R s m args below meth c T locs cells slots) (hx : p.tables.exec = Jvm.exec) (hZ : Z.Warmed39 s.vm) {own C : String} {index : Nat} {y : MethodName} {bytes : ByteArray} {maxL : Nat} {ret : Option FieldType} {kc ks : Nat} {Q : Option Value → Heap → List Loc → Prop}
    (hown : s.vm.findClass own = some m.cls) (w1 : (Cond.methodLink own index y).before a0 Z = true) (w2 : (Cond.instanceMethod y).before a0 Z = true) (w3 : (Cond.selects y.cls y y).before a0 Z = true) (w5 : (Cond.privateMethod y).before a0 Z = true) (w4 : (Cond.code y bytes maxL ret).before a0 Z = true)
    (hy : y.cls ≠ "java/lang/invoke/MethodHandle" ∧ y.cls ≠ "java/lang/invoke/VarHandle") {a : Addr} {argsL rest : List Value} {W : Nat} (hK : BackQ l R p e below s args y W (.ref a :: argsL).toArray h kc ks Q) (eT : T.heap = h) (E : Exa Z h a C)
    (hlen : ∀ sig, parseMethodDescriptor y.desc = some sig → argsL.length = sig.parameters.length) {pc : Nat} {Ls : Array Slot} {st : List Value} (hst : st = argsL.reverse ++ .ref a :: rest) (hsz : Ls.size = c.maxLocals) (hd : decode c.code pc = .ok (.invokevirtual index, 3))
    (hW : (rest.map fun v => v.category).sum ≤ W) (hce : cells + kc ≤ R.cells) (hsl : slots + ks ≤ R.slots) :
    ∃ v T' L, Stand p l e R s m args below meth c T' (locs ++ L) (cells + kc) (slots + ks) ∧ Q v T'.heap L ∧ ∀ t, Steps p.tables e below (T'.setTop (mkF m (pc + 3) Ls (v.toList ++ rest))) t → Steps p.tables e below (T.setTop (mkF m pc Ls st)) t := by
  obtain ⟨cell, q1, q2⟩ := Exa.cell E
  obtain ⟨v, _, ⟨T', L', k', n'⟩, -, X', ⟨L, hQ, l1, l2, l3⟩, st'⟩ := X.privateBack hx hown (mvT hZ w1) (mvT hZ w2) (mvT hZ w3) (Cond.privateMethod_at (args := args) (mvP hZ w5)) (mvT hZ w4) hy hK (g := mkF m pc Ls st) rfl hsz (Steps.refl _) (a := a) (by rw [eT]; exact q1) q2 (argsL := argsL) (rest := rest) hlen hst (by show 2 * 0 + _ ≤ _; omega) hd (fun _ _ => ⟨rfl, eT, hce, hsl⟩)
  dsimp only [Pt.U, Pt.locs, Pt.cells, Pt.slots] at X' l1 l2 l3 st' hQ
  subst l1 l2 l3
  exact ⟨v, T', L, X', hQ, fun t k => st'.trans k⟩
theorem callPriv (X : Stand p l e R s m args below meth c T locs cells slots) (hx : p.tables.exec = Jvm.exec) (hZ : Z.Warmed39 s.vm) {own C : String} {index : Nat} {y : MethodName} {bytes : ByteArray} {maxL : Nat} {ret : Option FieldType} {rm : Room} {Q : Option Value → Heap → List Loc → Prop}
    (hown : s.vm.findClass own = some m.cls) (w1 : (Cond.methodLink own index y).before a0 Z = true) (w2 : (Cond.instanceMethod y).before a0 Z = true) (w5 : (Cond.selects y.cls y y).before a0 Z = true) (w6 : (Cond.privateMethod y).before a0 Z = true) (w3 : (Cond.initialized y.cls).before a0 Z = true) (w4 : (Cond.code y bytes maxL ret).before a0 Z = true)
    (hy : y.cls ≠ "java/lang/invoke/MethodHandle" ∧ y.cls ≠ "java/lang/invoke/VarHandle") {a : Addr} {argsL rest : List Value} (hM : Ctr l Z y bytes maxL ret rm (.ref a :: argsL).toArray h Q []) (eT : T.heap = h) (E : Exa Z h a C)
    (hlen : ∀ sig, parseMethodDescriptor y.desc = some sig → argsL.length = sig.parameters.length) {pc W : Nat} {Ls : Array Slot} {st : List Value} (hst : st = argsL.reverse ++ .ref a :: rest) (hsz : Ls.size = c.maxLocals) (hd : decode c.code pc = .ok (.invokevirtual index, 3))
    (hW : (rest.map fun v => v.category).sum ≤ W) (hfr : rm.frames + 1 ≤ R.frames) (hlo : W + (maxL + 11) + rm.locals ≤ R.locals) (hce : cells + rm.cells ≤ R.cells) (hsl : slots + rm.slots ≤ R.slots) :
    ∃ v T' L, Stand p l e R s m args below meth c T' (locs ++ L) (cells + rm.cells) (slots + rm.slots) ∧ Q v T'.heap L ∧ ∀ t, Steps p.tables e below (T'.setTop (mkF m (pc + 3) Ls (v.toList ++ rest))) t → Steps p.tables e below (T.setTop (mkF m pc Ls st)) t :=
  callPrivB X hx hZ hown w1 w2 w5 w6 w4 hy (backOf (W := W) hM hZ w4 w3 hfr hlo) eT E hlen hst hsz hd hW hce hsl
abbrev BackQ5 (l : Launch) (R : Room) (p : Program) (e : Env) (below : List Frame) (s : State) (args : Array Value) (y : MethodName) (W : Nat) (as' : Array Value) (h : Heap) (kc ks : Nat) (Q : Option Value → Heap → List Loc → Prop) : Prop :=
  Back l R p e below s args y 5 W (fun A a => a = as' ∧ A.U.heap = h ∧ A.cells + kc ≤ R.cells ∧ A.slots + ks ≤ R.slots) (fun A _ v B => ∃ L, Q v B.U.heap L ∧ B.locs = A.locs ++ L ∧ B.cells = A.cells + kc ∧ B.slots = A.slots + ks)
theorem callFaceB (X : Stand p l e R s m args below meth c T locs cells slots) (hx : p.tables.exec = Jvm.exec) (hZ : Z.Warmed39 s.vm) {own C : String} {index count : Nat} {y z : MethodName} {kc ks : Nat} {Q : Option Value → Heap → List Loc → Prop}
    (hown : s.vm.findClass own = some m.cls) (w1 : (Cond.methodLink own index y).before a0 Z = true) (w2 : (Cond.declares y).before a0 Z = true) (w3 : (Cond.interfaceMethod y.cls y.cls y.name y.desc).before args s = true) (w5 : (Cond.selects C y z).before a0 Z = true) (w6 : (Cond.instanceMethod z).before a0 Z = true)
    (w7 : (Cond.publicMethod z).before a0 Z = true) (w8 : (Cond.unhidden C y.name y.desc).before a0 Z = true) (w9 : (Cond.castable C y.cls).before a0 Z = true)
    (hy : y.cls ≠ "java/lang/invoke/MethodHandle" ∧ y.cls ≠ "java/lang/invoke/VarHandle") {a : Addr} {argsL rest : List Value} {W : Nat} (hK : BackQ5 l R p e below s args z W (.ref a :: argsL).toArray h kc ks Q) (eT : T.heap = h) (E : Exa Z h a C)
    (hlen : ∀ sig, parseMethodDescriptor y.desc = some sig → argsL.length = sig.parameters.length) {pc : Nat} {Ls : Array Slot} {st : List Value} (hst : st = argsL.reverse ++ .ref a :: rest) (hsz : Ls.size = c.maxLocals) (hd : decode c.code pc = .ok (.invokeinterface index count, 5))
    (hW : (rest.map fun v => v.category).sum ≤ W) (hce : cells + kc ≤ R.cells) (hsl : slots + ks ≤ R.slots) :
    ∃ v T' L, Stand p l e R s m args below meth c T' (locs ++ L) (cells + kc) (slots + ks) ∧ Q v T'.heap L ∧ ∀ t, Steps p.tables e below (T'.setTop (mkF m (pc + 5) Ls (v.toList ++ rest))) t → Steps p.tables e below (T.setTop (mkF m pc Ls st)) t := by
  obtain ⟨cB, kB, q1, q2, q3⟩ := isOf hZ eT E
  obtain ⟨v, _, ⟨T', L', k', n'⟩, -, X', ⟨L, hQ, l1, l2, l3⟩, st'⟩ := X.interfaceBack hx hown (mvT hZ w1) (mvT hZ w2) w3 (mvT hZ w5) (mvT hZ w6) (mvT hZ w7) (mvT hZ w8) (mvT hZ w9) hy hK q1 q2 q3 (g := mkF m pc Ls st) rfl hsz (Steps.refl _) (argsL := argsL) (rest := rest) hlen hst (by show 2 * 0 + _ ≤ _; omega) hd (fun _ _ => ⟨rfl, eT, hce, hsl⟩)
  dsimp only [Pt.U, Pt.locs, Pt.cells, Pt.slots] at X' l1 l2 l3 st' hQ
  subst l1 l2 l3
  exact ⟨v, T', L, X', hQ, fun t k => st'.trans k⟩
theorem callFace (X : Stand p l e R s m args below meth c T locs cells slots) (hx : p.tables.exec = Jvm.exec) (hZ : Z.Warmed39 s.vm) {own C : String} {index count : Nat} {y z : MethodName} {bytes : ByteArray} {maxL : Nat} {ret : Option FieldType} {rm : Room} {Q : Option Value → Heap → List Loc → Prop}
    (hown : s.vm.findClass own = some m.cls) (w1 : (Cond.methodLink own index y).before a0 Z = true) (w2 : (Cond.declares y).before a0 Z = true) (wi : (Cond.interfaceMethod y.cls y.cls y.name y.desc).before args s = true) (w5 : (Cond.selects C y z).before a0 Z = true) (w6 : (Cond.instanceMethod z).before a0 Z = true)
    (w7 : (Cond.publicMethod z).before a0 Z = true) (w8 : (Cond.unhidden C y.name y.desc).before a0 Z = true) (w9 : (Cond.castable C y.cls).before a0 Z = true) (w3 : (Cond.initialized z.cls).before a0 Z = true) (w4 : (Cond.code z bytes maxL ret).before a0 Z = true)
    (hy : y.cls ≠ "java/lang/invoke/MethodHandle" ∧ y.cls ≠ "java/lang/invoke/VarHandle") {a : Addr} {argsL rest : List Value} (hM : Ctr l Z z bytes maxL ret rm (.ref a :: argsL).toArray h Q []) (eT : T.heap = h) (E : Exa Z h a C)
    (hlen : ∀ sig, parseMethodDescriptor y.desc = some sig → argsL.length = sig.parameters.length) {pc W : Nat} {Ls : Array Slot} {st : List Value} (hst : st = argsL.reverse ++ .ref a :: rest) (hsz : Ls.size = c.maxLocals) (hd : decode c.code pc = .ok (.invokeinterface index count, 5))
    (hW : (rest.map fun v => v.category).sum ≤ W) (hfr : rm.frames + 1 ≤ R.frames) (hlo : W + (maxL + 11) + rm.locals ≤ R.locals) (hce : cells + rm.cells ≤ R.cells) (hsl : slots + rm.slots ≤ R.slots) :
    ∃ v T' L, Stand p l e R s m args below meth c T' (locs ++ L) (cells + rm.cells) (slots + rm.slots) ∧ Q v T'.heap L ∧ ∀ t, Steps p.tables e below (T'.setTop (mkF m (pc + 5) Ls (v.toList ++ rest))) t → Steps p.tables e below (T.setTop (mkF m pc Ls st)) t :=
  callFaceB X hx hZ hown w1 w2 wi w5 w6 w7 w8 w9 hy (backOf (W := W) hM hZ w4 w3 hfr hlo) eT E hlen hst hsz hd hW hce hsl
theorem callStaticW {vm0 : Vm} {k0 : Nat} (X : Stand p l e R (s.setVm vm0) m args below meth c T locs cells slots) (hx : p.tables.exec = Jvm.exec) (hZ : Z.Warmed39 vm0) (hS : s.Since vm0 k0) (hk : k0 ≤ h.size) {own : String} {index : Nat} {y : MethodName} {bytes : ByteArray} {maxL : Nat} {ret : Option FieldType} {rm : Room} {Q : Option Value → Heap → List Loc → Prop}
    (hown : vm0.findClass own = some m.cls) (w1 : (Cond.methodLink own index y).before a0 Z = true) (w2 : (Cond.static y).before a0 Z = true) (w3 : (Cond.initialized y.cls).before a0 Z = true) (w4 : (Cond.code y bytes maxL ret).before a0 Z = true)
    (hy : y.cls ≠ "java/lang/invoke/MethodHandle" ∧ y.cls ≠ "java/lang/invoke/VarHandle") {argsL rest : List Value} (hM : CtrW l Z y bytes maxL ret rm argsL.toArray h Q []) (eT : T.heap = h)
    (hlen : ∀ sig, parseMethodDescriptor y.desc = some sig → argsL.length = sig.parameters.length) {pc W : Nat} {Ls : Array Slot} {st : List Value} (hst : st = argsL.reverse ++ rest) (hsz : Ls.size = c.maxLocals) (hd : decode c.code pc = .ok (.invokestatic index, 3))
    (hW : (rest.map fun v => v.category).sum ≤ W) (hfr : rm.frames + 1 ≤ R.frames) (hlo : W + (maxL + 11) + rm.locals ≤ R.locals) (hce : cells + rm.cells ≤ R.cells) (hsl : slots + rm.slots ≤ R.slots) :
    ∃ v T' L, Stand p l e R (s.setVm T'.vm) m args below meth c T' (locs ++ L) (cells + rm.cells) (slots + rm.slots) ∧ s.Since T'.vm T'.heap.size ∧ Z.Warmed39 T'.vm ∧ T'.vm.findClass own = some m.cls ∧ Q v T'.heap L ∧ ∀ t, Steps p.tables e below (T'.setTop (mkF m (pc + 3) Ls (v.toList ++ rest))) t → Steps p.tables e below (T.setTop (mkF m pc Ls st)) t := by
  obtain ⟨v, _, ⟨T', L', k', n'⟩, -, X', hS', hg', ⟨L, hQ, l1, l2, l3⟩, st'⟩ := callSS X hx hown (mvT (s := s.setVm vm0) hZ w1) (mvT (s := s.setVm vm0) hZ w2) (mvT (s := s.setVm vm0) hZ w3) (mvT (s := s.setVm vm0) hZ w4) hy (backOfS (W := W) hM (s := s.setVm vm0) hZ w4 w3 hfr hlo) (g := mkF m pc Ls st) rfl hsz (argsL := argsL) (rest := rest) hlen hst (by show 2 * 0 + _ ≤ _; omega) hd (fun _ _ => ⟨rfl, eT, hce, hsl⟩)
  dsimp only [Pt.U, Pt.locs, Pt.cells, Pt.slots] at X' hS' hg' l1 l2 l3 st' hQ
  subst l1 l2 l3
  exact ⟨v, T', L, X', hS.trans hS' (Nat.le_trans hk (eT ▸ hg')), State.Warmed39.trans (t := s.setVm vm0) hZ hS'.1, by rw [hS'.1.alike.findClass]; exact hown, hQ, fun t k => st'.trans k⟩
theorem callInitW {vm0 : Vm} {k0 : Nat} (X : Stand p l e R (s.setVm vm0) m args below meth c T locs cells slots) (hx : p.tables.exec = Jvm.exec) (hZ : Z.Warmed39 vm0) (hS : s.Since vm0 k0) (hk : k0 ≤ h.size) {own : String} {index : Nat} {y : MethodName} {bytes : ByteArray} {maxL : Nat} {rm : Room} {Q : Option Value → Heap → List Loc → Prop} (hy1 : y.name = "<init>")
    (hown : vm0.findClass own = some m.cls) (w1 : (Cond.methodLink own index y).before a0 Z = true) (w2 : (Cond.instanceMethod y).before a0 Z = true) (w3 : (Cond.initialized y.cls).before a0 Z = true) (w4 : (Cond.code y bytes maxL none).before a0 Z = true)
    (hy : y.cls ≠ "java/lang/invoke/MethodHandle" ∧ y.cls ≠ "java/lang/invoke/VarHandle") {a : Addr} {argsL rest : List Value} (hM : CtrW l Z y bytes maxL none rm (.ref a :: argsL).toArray h Q []) (eT : T.heap = h)
    (hlen : ∀ sig, parseMethodDescriptor y.desc = some sig → argsL.length = sig.parameters.length) {pc W : Nat} {Ls : Array Slot} {st : List Value} (hst : st = argsL.reverse ++ .ref a :: rest) (hsz : Ls.size = c.maxLocals) (hd : decode c.code pc = .ok (.invokespecial index, 3))
    (hW : (rest.map fun v => v.category).sum ≤ W) (hfr : rm.frames + 1 ≤ R.frames) (hlo : W + (maxL + 11) + rm.locals ≤ R.locals) (hce : cells + rm.cells ≤ R.cells) (hsl : slots + rm.slots ≤ R.slots) :
    ∃ v T' L, Stand p l e R (s.setVm T'.vm) m args below meth c T' (locs ++ L) (cells + rm.cells) (slots + rm.slots) ∧ s.Since T'.vm T'.heap.size ∧ Z.Warmed39 T'.vm ∧ T'.vm.findClass own = some m.cls ∧ Q v T'.heap L ∧ ∀ t, Steps p.tables e below (T'.setTop (mkF m (pc + 3) Ls (v.toList ++ rest))) t → Steps p.tables e below (T.setTop (mkF m pc Ls st)) t := by
  obtain ⟨v, _, ⟨T', L', k', n'⟩, -, X', hS', hg', ⟨L, hQ, l1, l2, l3⟩, st'⟩ := X.specialBackS hx hy1 hown (mvT (s := s.setVm vm0) hZ w1) (mvT (s := s.setVm vm0) hZ w2) (mvT (s := s.setVm vm0) hZ w4) hy (backOfS (W := W) hM (s := s.setVm vm0) hZ w4 w3 hfr hlo) (g := mkF m pc Ls st) rfl hsz (Steps.refl _) (a := a) (argsL := argsL) (rest := rest) hlen hst (by show 2 * 0 + _ ≤ _; omega) hd (fun _ _ => ⟨rfl, eT, hce, hsl⟩)
  dsimp only [Pt.U, Pt.locs, Pt.cells, Pt.slots] at X' hS' hg' l1 l2 l3 st' hQ
  subst l1 l2 l3
  exact ⟨v, T', L, X', hS.trans hS' (Nat.le_trans hk (eT ▸ hg')), State.Warmed39.trans (t := s.setVm vm0) hZ hS'.1, by rw [hS'.1.alike.findClass]; exact hown, hQ, fun t k => st'.trans k⟩
theorem callVirtW {vm0 : Vm} {k0 : Nat} (X : Stand p l e R (s.setVm vm0) m args below meth c T locs cells slots) (hx : p.tables.exec = Jvm.exec) (hZ : Z.Warmed39 vm0) (hS : s.Since vm0 k0) (hk : k0 ≤ h.size) {own C : String} {index : Nat} {y z : MethodName} {bytes : ByteArray} {maxL : Nat} {ret : Option FieldType} {rm : Room} {Q : Option Value → Heap → List Loc → Prop}
    (hown : vm0.findClass own = some m.cls) (w1 : (Cond.methodLink own index y).before a0 Z = true) (w2 : (Cond.declares y).before a0 Z = true) (w5 : (Cond.selects C y z).before a0 Z = true) (hnf : NotFace (s.setVm vm0) y) (w6 : (Cond.instanceMethod z).before a0 Z = true) (w3 : (Cond.initialized z.cls).before a0 Z = true) (w4 : (Cond.code z bytes maxL ret).before a0 Z = true)
    (hy : y.cls ≠ "java/lang/invoke/MethodHandle" ∧ y.cls ≠ "java/lang/invoke/VarHandle") {a : Addr} {argsL rest : List Value} (hM : CtrW l Z z bytes maxL ret rm (.ref a :: argsL).toArray h Q []) (eT : T.heap = h) (E : Exa Z h a C)
    (hlen : ∀ sig, parseMethodDescriptor y.desc = some sig → argsL.length = sig.parameters.length) {pc W : Nat} {Ls : Array Slot} {st : List Value} (hst : st = argsL.reverse ++ .ref a :: rest) (hsz : Ls.size = c.maxLocals) (hd : decode c.code pc = .ok (.invokevirtual index, 3))
    (hW : (rest.map fun v => v.category).sum ≤ W) (hfr : rm.frames + 1 ≤ R.frames) (hlo : W + (maxL + 11) + rm.locals ≤ R.locals) (hce : cells + rm.cells ≤ R.cells) (hsl : slots + rm.slots ≤ R.slots) :
    ∃ v T' L, Stand p l e R (s.setVm T'.vm) m args below meth c T' (locs ++ L) (cells + rm.cells) (slots + rm.slots) ∧ s.Since T'.vm T'.heap.size ∧ Z.Warmed39 T'.vm ∧ T'.vm.findClass own = some m.cls ∧ Q v T'.heap L ∧ ∀ t, Steps p.tables e below (T'.setTop (mkF m (pc + 3) Ls (v.toList ++ rest))) t → Steps p.tables e below (T.setTop (mkF m pc Ls st)) t := by
  obtain ⟨cB, kB, q1, -, q3⟩ := isOf (s := s.setVm vm0) hZ eT E
  obtain ⟨v, _, ⟨T', L', k', n'⟩, -, X', hS', hg', ⟨L, hQ, l1, l2, l3⟩, st'⟩ := X.virtualBackS hx hown (mvT (s := s.setVm vm0) hZ w1) (mvT (s := s.setVm vm0) hZ w2) hnf (mvT (s := s.setVm vm0) hZ w5) (mvT (s := s.setVm vm0) hZ w6) hy (backOfS (W := W) hM (s := s.setVm vm0) hZ w4 w3 hfr hlo) q1 q3 (g := mkF m pc Ls st) rfl hsz (Steps.refl _) (argsL := argsL) (rest := rest) hlen hst (by show 2 * 0 + _ ≤ _; omega) hd (fun _ _ => ⟨rfl, eT, hce, hsl⟩)
  dsimp only [Pt.U, Pt.locs, Pt.cells, Pt.slots] at X' hS' hg' l1 l2 l3 st' hQ
  subst l1 l2 l3
  exact ⟨v, T', L, X', hS.trans hS' (Nat.le_trans hk (eT ▸ hg')), State.Warmed39.trans (t := s.setVm vm0) hZ hS'.1, by rw [hS'.1.alike.findClass]; exact hown, hQ, fun t k => st'.trans k⟩
/-- what a contract says of a body that may read the String constants of EL; sf: cells that are no constant's -/
abbrev CtrH (l : Launch) (Z : State) (EL : List (String × Nat)) (sf : List Addr) (y : MethodName) (bytes : ByteArray) (maxL : Nat) (ret : Option FieldType) (rm : Room) (as' : Array Value) (h : Heap) (Q : Option Value → Heap → List Loc → Prop) (ws : List Cond) : Prop :=
  MetFree l y (head1 (Cond.code y bytes maxL ret :: ws) rm) (fun a U => a = as' ∧ Z.Warmed39 U.vm ∧ U.heap = h ∧ CHv Z EL U.vm h ∧ ∀ x ∈ sf, Safe Z EL U.vm h x) (fun _ _ _ _ _ => True) (fun _ U o U' => ∃ v L, o = .returned v ∧ Q v U'.heap L ∧ CHr Z EL U.vm U.heap U'.vm U'.heap ∧ ReturnedEndW U o U' L rm.cells rm.slots)
/-- the frame of such a body -/
def EndH (Z : State) (EL : List (String × Nat)) (s : State) (o : Outcome) (t : State) (L : List Loc) (k n : Nat) : Prop := CHr Z EL s.vm s.heap t.vm t.heap ∧ ReturnedEndW s o t L k n
theorem lvH {EL : List (String × Nat)} {vm0 : Vm} {k0 : Nat} (X : Stand p l e R (s.setVm vm0) m args below meth c T locs cells slots) (hlocks : meth.locks = false) (hS : s.Since vm0 k0) (eT : T.heap = h) (hk : k0 ≤ h.size) (hZ : Z.Warmed39 vm0) (hEL : EW Z a0 EL) (hR : CHr Z EL s.vm s.heap vm0 h) {C S : Nat} (hc : cells ≤ C) (hs : slots ≤ S) : Lv (EndH Z EL) e s m below meth T locs C S := fun v hv => by
  obtain ⟨fs, hr, hrun, hended, h1, h2, h3, h4⟩ := X.leaveW hS (eT ▸ hk) hv hlocks
  refine ⟨fs, hr, hrun, hended, ?_, h1, h2, h3, h4.mono hc hs⟩
  have q := hR.trans (CHv.at X hZ hEL hR.1)
  subst eT
  exact q
theorem backH {EL : List (String × Nat)} {sf : List Addr} {vm0 : Vm} {y : MethodName} {bytes : ByteArray} {maxL : Nat} {ret : Option FieldType} {rm : Room} {len W : Nat} {as' : Array Value} {Q : Option Value → Heap → List Loc → Prop}
    (hM : CtrH l Z EL sf y bytes maxL ret rm as' h Q [])
    (hZ : Z.Warmed39 vm0) (wc : (Cond.code y bytes maxL ret).before a0 Z = true) (wz : (Cond.initialized y.cls).before a0 Z = true) (hf : rm.frames + 1 ≤ R.frames) (hl : W + (maxL + 11) + rm.locals ≤ R.locals) (hEL : EW Z a0 EL) (H : CHv Z EL vm0 h) (hsf : ∀ x ∈ sf, x < h.size ∧ Safe Z EL vm0 h x) :
    BackS l R p e below (s.setVm vm0) args y len W (fun A a => a = as' ∧ A.U.heap = h ∧ A.cells + rm.cells ≤ R.cells ∧ A.slots + rm.slots ≤ R.slots)
      (fun A _ v B => ∃ L, Q v B.U.heap L ∧ B.locs = A.locs ++ L ∧ B.cells = A.cells + rm.cells ∧ B.slots = A.slots + rm.slots ∧ CHr Z EL vm0 h B.U.vm B.U.heap) :=
  BackS.of_freeW (bytes := bytes) (maxL := maxL) (ret := ret) (E := fun _ first o t L k n => k = rm.cells ∧ n = rm.slots ∧ (∃ v, o = .returned v ∧ Q v t.heap L) ∧ CHr Z EL first.vm first.heap t.vm t.heap) hM hf hl
    (fun m meth c A a Y hp => have hU : Z.Warmed39 A.U.vm := wtrans (s := s.setVm vm0) hZ Y.warmed
      ⟨by show (Cond.and _ .tt).before a A.U = true; rw [Cond.before_and, mv hU wc]; rfl, mv hU wc, mv hU wz, hp.2.2.1, hp.2.2.2⟩)
    (fun m meth c A a g mk Y hp => ⟨hp.1, wtrans (s := s.setVm vm0) hZ Y.warmed, hp.2.1, (CHv.at Y hZ hEL H).1, fun x hx => (CHv.at Y hZ hEL H).safe (hsf x hx).1 (hsf x hx).2⟩) (fun _ _ _ _ _ _ _ _ _ => trivial)
    (fun _ _ _ _ ⟨v, L, h1, h2, h3, h4⟩ => ⟨L, _, _, h4, rfl, rfl, ⟨v, h1, h2⟩, h3⟩)
    (fun m meth c A a g mk v t L k n Y hp _ _ ⟨e1, e2, ⟨v', e3, e4⟩, e5⟩ => by
      cases e3; subst e1 e2
      refine ⟨L, e4, rfl, rfl, rfl, (CHv.at Y hZ hEL H).trans ?_⟩
      rw [← hp.2.1]; exact e5)
theorem callStaticH {EL : List (String × Nat)} {sf : List Addr} {vm0 : Vm} {k0 : Nat} (X : Stand p l e R (s.setVm vm0) m args below meth c T locs cells slots) (hx : p.tables.exec = Jvm.exec) (hZ : Z.Warmed39 vm0) (hS : s.Since vm0 k0) (hk : k0 ≤ h.size) (hEL : EW Z a0 EL) (H : CHv Z EL vm0 h) (hsf : ∀ x ∈ sf, x < h.size ∧ Safe Z EL vm0 h x) {own : String} {index : Nat} {y : MethodName} {bytes : ByteArray} {maxL : Nat} {ret : Option FieldType} {rm : Room} {Q : Option Value → Heap → List Loc → Prop}
    (hown : vm0.findClass own = some m.cls) (w1 : (Cond.methodLink own index y).before a0 Z = true) (w2 : (Cond.static y).before a0 Z = true) (w3 : (Cond.initialized y.cls).before a0 Z = true) (w4 : (Cond.code y bytes maxL ret).before a0 Z = true)
    (hy : y.cls ≠ "java/lang/invoke/MethodHandle" ∧ y.cls ≠ "java/lang/invoke/VarHandle") {argsL rest : List Value} (hM : CtrH l Z EL sf y bytes maxL ret rm argsL.toArray h Q []) (eT : T.heap = h)
    (hlen : ∀ sig, parseMethodDescriptor y.desc = some sig → argsL.length = sig.parameters.length) {pc W : Nat} {Ls : Array Slot} {st : List Value} (hst : st = argsL.reverse ++ rest) (hsz : Ls.size = c.maxLocals) (hd : decode c.code pc = .ok (.invokestatic index, 3))
    (hW : (rest.map fun v => v.category).sum ≤ W) (hfr : rm.frames + 1 ≤ R.frames) (hlo : W + (maxL + 11) + rm.locals ≤ R.locals) (hce : cells + rm.cells ≤ R.cells) (hsl : slots + rm.slots ≤ R.slots) :
    ∃ v T' L, Stand p l e R (s.setVm T'.vm) m args below meth c T' (locs ++ L) (cells + rm.cells) (slots + rm.slots) ∧ s.Since T'.vm T'.heap.size ∧ Z.Warmed39 T'.vm ∧ T'.vm.findClass own = some m.cls ∧ CHr Z EL vm0 h T'.vm T'.heap ∧ Q v T'.heap L ∧ ∀ t, Steps p.tables e below (T'.setTop (mkF m (pc + 3) Ls (v.toList ++ rest))) t → Steps p.tables e below (T.setTop (mkF m pc Ls st)) t := by
  obtain ⟨v, _, ⟨T', L', k', n'⟩, -, X', hS', hg', ⟨L, hQ, l1, l2, l3, hC⟩, st'⟩ := callSS X hx hown (mvT (s := s.setVm vm0) hZ w1) (mvT (s := s.setVm vm0) hZ w2) (mvT (s := s.setVm vm0) hZ w3) (mvT (s := s.setVm vm0) hZ w4) hy (backH (W := W) hM hZ w4 w3 hfr hlo hEL H hsf) (g := mkF m pc Ls st) rfl hsz (argsL := argsL) (rest := rest) hlen hst (by show 2 * 0 + _ ≤ _; omega) hd (fun _ _ => ⟨rfl, eT, hce, hsl⟩)
  dsimp only [Pt.U, Pt.locs, Pt.cells, Pt.slots] at X' hS' hg' l1 l2 l3 st' hQ hC
  subst l1 l2 l3
  exact ⟨v, T', L, X', hS.trans hS' (Nat.le_trans hk (eT ▸ hg')), State.Warmed39.trans (t := s.setVm vm0) hZ hS'.1, by rw [hS'.1.alike.findClass]; exact hown, hC, hQ, fun t k => st'.trans k⟩
theorem callInitH {EL : List (String × Nat)} {sf : List Addr} {vm0 : Vm} {k0 : Nat} (X : Stand p l e R (s.setVm vm0) m args below meth c T locs cells slots) (hx : p.tables.exec = Jvm.exec) (hZ : Z.Warmed39 vm0) (hS : s.Since vm0 k0) (hk : k0 ≤ h.size) (hEL : EW Z a0 EL) (H : CHv Z EL vm0 h) (hsf : ∀ x ∈ sf, x < h.size ∧ Safe Z EL vm0 h x) {own : String} {index : Nat} {y : MethodName} {bytes : ByteArray} {maxL : Nat} {rm : Room} {Q : Option Value → Heap → List Loc → Prop} (hy1 : y.name = "<init>")
    (hown : vm0.findClass own = some m.cls) (w1 : (Cond.methodLink own index y).before a0 Z = true) (w2 : (Cond.instanceMethod y).before a0 Z = true) (w3 : (Cond.initialized y.cls).before a0 Z = true) (w4 : (Cond.code y bytes maxL none).before a0 Z = true)
    (hy : y.cls ≠ "java/lang/invoke/MethodHandle" ∧ y.cls ≠ "java/lang/invoke/VarHandle") {a : Addr} {argsL rest : List Value} (hM : CtrH l Z EL sf y bytes maxL none rm (.ref a :: argsL).toArray h Q []) (eT : T.heap = h)
    (hlen : ∀ sig, parseMethodDescriptor y.desc = some sig → argsL.length = sig.parameters.length) {pc W : Nat} {Ls : Array Slot} {st : List Value} (hst : st = argsL.reverse ++ .ref a :: rest) (hsz : Ls.size = c.maxLocals) (hd : decode c.code pc = .ok (.invokespecial index, 3))
    (hW : (rest.map fun v => v.category).sum ≤ W) (hfr : rm.frames + 1 ≤ R.frames) (hlo : W + (maxL + 11) + rm.locals ≤ R.locals) (hce : cells + rm.cells ≤ R.cells) (hsl : slots + rm.slots ≤ R.slots) :
    ∃ v T' L, Stand p l e R (s.setVm T'.vm) m args below meth c T' (locs ++ L) (cells + rm.cells) (slots + rm.slots) ∧ s.Since T'.vm T'.heap.size ∧ Z.Warmed39 T'.vm ∧ T'.vm.findClass own = some m.cls ∧ CHr Z EL vm0 h T'.vm T'.heap ∧ Q v T'.heap L ∧ ∀ t, Steps p.tables e below (T'.setTop (mkF m (pc + 3) Ls (v.toList ++ rest))) t → Steps p.tables e below (T.setTop (mkF m pc Ls st)) t := by
  obtain ⟨v, _, ⟨T', L', k', n'⟩, -, X', hS', hg', ⟨L, hQ, l1, l2, l3, hC⟩, st'⟩ := X.specialBackS hx hy1 hown (mvT (s := s.setVm vm0) hZ w1) (mvT (s := s.setVm vm0) hZ w2) (mvT (s := s.setVm vm0) hZ w4) hy (backH (W := W) hM hZ w4 w3 hfr hlo hEL H hsf) (g := mkF m pc Ls st) rfl hsz (Steps.refl _) (a := a) (argsL := argsL) (rest := rest) hlen hst (by show 2 * 0 + _ ≤ _; omega) hd (fun _ _ => ⟨rfl, eT, hce, hsl⟩)
  dsimp only [Pt.U, Pt.locs, Pt.cells, Pt.slots] at X' hS' hg' l1 l2 l3 st' hQ hC
  subst l1 l2 l3
  exact ⟨v, T', L, X', hS.trans hS' (Nat.le_trans hk (eT ▸ hg')), State.Warmed39.trans (t := s.setVm vm0) hZ hS'.1, by rw [hS'.1.alike.findClass]; exact hown, hC, hQ, fun t k => st'.trans k⟩
theorem callVirtH {EL : List (String × Nat)} {sf : List Addr} {vm0 : Vm} {k0 : Nat} (X : Stand p l e R (s.setVm vm0) m args below meth c T locs cells slots) (hx : p.tables.exec = Jvm.exec) (hZ : Z.Warmed39 vm0) (hS : s.Since vm0 k0) (hk : k0 ≤ h.size) (hEL : EW Z a0 EL) (H : CHv Z EL vm0 h) (hsf : ∀ x ∈ sf, x < h.size ∧ Safe Z EL vm0 h x) {own C : String} {index : Nat} {y z : MethodName} {bytes : ByteArray} {maxL : Nat} {ret : Option FieldType} {rm : Room} {Q : Option Value → Heap → List Loc → Prop}
    (hown : vm0.findClass own = some m.cls) (w1 : (Cond.methodLink own index y).before a0 Z = true) (w2 : (Cond.declares y).before a0 Z = true) (w5 : (Cond.selects C y z).before a0 Z = true) (hnf : NotFace (s.setVm vm0) y) (w6 : (Cond.instanceMethod z).before a0 Z = true) (w3 : (Cond.initialized z.cls).before a0 Z = true) (w4 : (Cond.code z bytes maxL ret).before a0 Z = true)
    (hy : y.cls ≠ "java/lang/invoke/MethodHandle" ∧ y.cls ≠ "java/lang/invoke/VarHandle") {a : Addr} {argsL rest : List Value} (hM : CtrH l Z EL sf z bytes maxL ret rm (.ref a :: argsL).toArray h Q []) (eT : T.heap = h) (E : Exa Z h a C)
    (hlen : ∀ sig, parseMethodDescriptor y.desc = some sig → argsL.length = sig.parameters.length) {pc W : Nat} {Ls : Array Slot} {st : List Value} (hst : st = argsL.reverse ++ .ref a :: rest) (hsz : Ls.size = c.maxLocals) (hd : decode c.code pc = .ok (.invokevirtual index, 3))
    (hW : (rest.map fun v => v.category).sum ≤ W) (hfr : rm.frames + 1 ≤ R.frames) (hlo : W + (maxL + 11) + rm.locals ≤ R.locals) (hce : cells + rm.cells ≤ R.cells) (hsl : slots + rm.slots ≤ R.slots) :
    ∃ v T' L, Stand p l e R (s.setVm T'.vm) m args below meth c T' (locs ++ L) (cells + rm.cells) (slots + rm.slots) ∧ s.Since T'.vm T'.heap.size ∧ Z.Warmed39 T'.vm ∧ T'.vm.findClass own = some m.cls ∧ CHr Z EL vm0 h T'.vm T'.heap ∧ Q v T'.heap L ∧ ∀ t, Steps p.tables e below (T'.setTop (mkF m (pc + 3) Ls (v.toList ++ rest))) t → Steps p.tables e below (T.setTop (mkF m pc Ls st)) t := by
  obtain ⟨cB, kB, q1, -, q3⟩ := isOf (s := s.setVm vm0) hZ eT E
  obtain ⟨v, _, ⟨T', L', k', n'⟩, -, X', hS', hg', ⟨L, hQ, l1, l2, l3, hC⟩, st'⟩ := X.virtualBackS hx hown (mvT (s := s.setVm vm0) hZ w1) (mvT (s := s.setVm vm0) hZ w2) hnf (mvT (s := s.setVm vm0) hZ w5) (mvT (s := s.setVm vm0) hZ w6) hy (backH (W := W) hM hZ w4 w3 hfr hlo hEL H hsf) q1 q3 (g := mkF m pc Ls st) rfl hsz (Steps.refl _) (argsL := argsL) (rest := rest) hlen hst (by show 2 * 0 + _ ≤ _; omega) hd (fun _ _ => ⟨rfl, eT, hce, hsl⟩)
  dsimp only [Pt.U, Pt.locs, Pt.cells, Pt.slots] at X' hS' hg' l1 l2 l3 st' hQ hC
  subst l1 l2 l3
  exact ⟨v, T', L, X', hS.trans hS' (Nat.le_trans hk (eT ▸ hg')), State.Warmed39.trans (t := s.setVm vm0) hZ hS'.1, by rw [hS'.1.alike.findClass]; exact hown, hC, hQ, fun t k => st'.trans k⟩
theorem rebase {vm0 : Vm} {k0 : Nat} {own : String} (X : Stand p l e R (s.setVm vm0) m args below meth c T locs cells slots) (hS : s.Since vm0 k0) (eT : T.heap = h) (hk : k0 ≤ h.size) (hZ : Z.Warmed39 vm0) (hown : vm0.findClass own = some m.cls) :
    Stand p l e R (s.setVm T.vm) m args below meth c T locs cells slots ∧ s.Since T.vm h.size ∧ Z.Warmed39 T.vm ∧ T.vm.findClass own = some m.cls :=
  ⟨X.retabled X.warmed.wide, hS.trans (X.warmed.since h.size) hk, wtrans (s := s.setVm vm0) hZ X.warmed, by rw [X.warmed.wide.alike.findClass]; exact hown⟩
theorem fld_int {args : Array Value} {t : Term} {x : Addr} {C n d : String} {k : Int32} (ht : t.eval args s none [] s = some (.ref x)) (hq : (Cond.eq (Term.field t C n d) (Term.int k)).value args s none s [] = some true) : Fld s s.heap x C n d (.int k) :=
  Fld.start ((fld_at (C := C) (n := n) (dd := d) ht).symm.trans (eqv_i (Term.int_eval k) hq))
/-- the class C has its Class object, at mr -/
def Mirr (Z : State) (C : String) (mr : Addr) : Prop := ∃ (c : ClassId) (k : Class), Z.vm.findClass C = some c ∧ Z.vm.classes[c]? = some k ∧ k.mirror = some mr
theorem gclsS (X : Stand p l e R s m args below meth c T locs cells slots) (hx : p.tables.exec = Jvm.exec) (hZ : Z.Warmed39 s.vm) {own C : String} {index : Nat} (hown : s.vm.findClass own = some m.cls)
    (w1 : (Cond.methodLink own index ⟨"java/lang/Object", "getClass", "()Ljava/lang/Class;"⟩).before a0 Z = true) (w2 : (Cond.declares ⟨"java/lang/Object", "getClass", "()Ljava/lang/Class;"⟩).before a0 Z = true) (w4 : (Cond.selects C ⟨"java/lang/Object", "getClass", "()Ljava/lang/Class;"⟩ ⟨"java/lang/Object", "getClass", "()Ljava/lang/Class;"⟩).before a0 Z = true)
    (w5 : (Cond.instanceMethod ⟨"java/lang/Object", "getClass", "()Ljava/lang/Class;"⟩).before a0 Z = true) (w6 : (Cond.native ⟨"java/lang/Object", "getClass", "()Ljava/lang/Class;"⟩).before a0 Z = true) (eT : T.heap = h) {a : Addr} (E : Exa Z h a C) {mr : Addr} (M : Mirr Z C mr)
    {g : JFrame} (hg : g.method = m) (hsize : g.locals.size = c.maxLocals) {rest : List Value} (hs : g.stack = .ref a :: rest) (hd : decode c.code g.pc = .ok (.invokevirtual index, 3)) (hf : 1 ≤ R.frames) {W : Nat} (hW : 2 * g.monitorRoom + (rest.map fun v => v.category).sum ≤ W) (hl : W + (nativeFrameWords "java/lang/Object" "getClass" 1 + 11) ≤ R.locals) :
    ∃ T', Stand p l e R s m args below meth c T' locs cells slots ∧ T'.heap = h ∧ ∀ target, Steps p.tables e below (T'.setTop { g with pc := g.pc + 3, stack := .ref mr :: rest }) target → Steps p.tables e below (T.setTop g) target := by
  obtain ⟨cB, kB, i1, i2, i3⟩ := isOf hZ eT E
  obtain ⟨cc, kc, m1, m2, m3⟩ := M
  rw [hZ.alike.findClass] at i1
  cases i1.symm.trans m1
  obtain ⟨k', q, ek⟩ := hZ.alike.2.2 _ _ m2
  obtain ⟨vm', X', st⟩ := X.getClassOf hx hown (mvT hZ w1) (mvT hZ w2) (notFace_of_selects (args := #[]) (mvT hZ w4)) (mvT hZ w4) (mvT hZ w5) (mvT hZ w6) (by rw [hZ.alike.findClass]; exact m1) i3 q (by rw [ek]; exact m3) hg hsize hs hd hf (by omega)
  exact ⟨_, X', eT, st⟩
theorem len_is {args : Array Value} {t : Term} {a : Addr} {cl : Cell} {ty : FieldType} {k : Int32} (ht : t.eval args s none [] s = some (.ref a)) (A : Arr s s.heap a cl ty) (hq : (Cond.eq (Term.length t) (Term.int k)).value args s none s [] = some true) : cl.slots.size < 2 ^ 31 ∧ cl.slots.size.toInt32 = k := by
  have ha := A.fin (Vm.Alike.refl s.vm)
  by_cases hl : cl.slots.size < 2 ^ 31
  · exact ⟨hl, gotT (Cond.eq_ints (len_f ht ha hl) (Term.int_eval k)) hq⟩
  · obtain ⟨v, y, e1, -, -, -⟩ := cmp_v (Or.inl hq)
    simp [Term.eval, ht, ha] at e1
    omega
theorem sub_at {args : Array Value} {a b : Term} {idx : List Nat} {x y : Int32} (ha : a.eval args s none idx s = some (.int x)) (hb : b.eval args s none idx s = some (.int y)) : (Term.sub a b).eval args s none idx s = some (.int (x - y)) := by simp [Term.eval, ha, hb]
theorem own_nc (x : Int32) : nar .char (x &&& 255).toUInt32.toUInt16.toUInt32.toInt32 = x &&& 255 := by
  rw [i2c_mask]; exact i2c_mask x
theorem own_cr (x : Int32) : ¬ (x &&& 255) < 0 ∧ ¬ (255 : Int32) < (x &&& 255) := by
  have q := c_and x 255 (by decide)
  have e0 : (0 : Int32).toInt = 0 := rfl
  have e1 : (255 : Int32).toInt = 255 := rfl
  rw [Int32.lt_iff_toInt_lt, Int32.lt_iff_toInt_lt]; omega
theorem ns_root {O K : String} {n : Nat} (w : (Cond.noSuperclass O).before a0 Z = true) (wk : (Cond.instantiable K n).before a0 Z = true) (hn : O ≠ K) : NS Z O K := by
  obtain ⟨c, k, h1, h2, h3, -, -⟩ := Cond.noSuperclass_spec w
  obtain ⟨t, -, g1, -⟩ := Cond.instantiable_spec wk
  have ne := ids_ne h1 g1 hn
  refine ⟨c, t, h1, g1, fun fuel => ?_⟩
  cases fuel with
  | zero => rfl
  | succ f => simp [Vm.isSubclassAux, ne, h2, h3]
theorem ns_no {C S K : String} {n : Nat} (w : (Cond.superclass C S).before a0 Z = true) (wk : (Cond.instantiable K n).before a0 Z = true) (ns : NS Z C K) (hn : C ≠ K) : ∃ c t, Z.vm.findClass C = some c ∧ Z.vm.findClass K = some t ∧ Z.vm.assignable c t = false := by
  obtain ⟨c, t, h0, g0, n3⟩ := ns
  obtain ⟨p, k, kp, h1, h2, h3, h4, h5, -, h7⟩ := Cond.superclass_spec h0 w
  obtain ⟨t', k', g1, g2, g5, g6, -⟩ := Cond.instantiable_spec wk
  cases g0.symm.trans g1
  have g7 := (Bool.or_eq_false_iff.mp g6).1
  have ne := ids_ne h0 g0 hn
  refine ⟨c, t, h0, g0, ?_⟩
  show Z.vm.assignableAux (255 + 1) c t = false
  simp [Vm.assignableAux, ne, h2, g2, h5, g5, g7, Vm.isSubclass, n3]
end Own
end Jvm.OwnKit
namespace Jvm.Pilot.@@N@@
open Jvm Jvm.ClassFile Sem Op Lib Jvm.Free Jvm.Stand Jvm.LawKit Jvm.RoadKit Jvm.OwnKit Bundle Jvm.Pilot.@@N@@.Jvm.D
theorem own_nn (x : Int64) : ¬ (x &&& 9223372036854775807) < 0 := by
  have q := c_maskL x 9223372036854775807 63 (by decide) rfl
  have e0 : (0 : Int64).toInt = 0 := rfl
  rw [Int64.lt_iff_toInt_lt, q, e0]
  omega
theorem own_pos (x : Int64) (h : ¬ (x &&& 9223372036854775807) = 0) : ¬ (x &&& 9223372036854775807) < 1 := by
  have q := c_maskL x 9223372036854775807 63 (by decide) rfl
  have e0 : (0 : Int64).toInt = 0 := rfl
  have e1 : (1 : Int64).toInt = 1 := rfl
  rw [← Int64.toInt_inj, e0] at h
  rw [Int64.lt_iff_toInt_lt, e1]
  omega
theorem own_pn0 : plainName "com/example/baskit/baskit/engine/Discount" = true := by first | (simp [plainName, overriddenIn]; done) | decide +kernel
theorem own_d_prog_5_method_1_code_0 : decode prog_5_method_1_code 0 = .ok (.aload_n 0, 1) := by decide +kernel
theorem own_d_prog_5_method_1_code_1 : decode prog_5_method_1_code 1 = .ok (.invokespecial 1, 3) := by decide +kernel
theorem own_d_prog_5_method_1_code_4 : decode prog_5_method_1_code 4 = .ok (.aload_n 0, 1) := by decide +kernel
theorem own_d_prog_5_method_1_code_5 : decode prog_5_method_1_code 5 = .ok (.aload_n 1, 1) := by decide +kernel
theorem own_d_prog_5_method_1_code_6 : decode prog_5_method_1_code 6 = .ok (.putfield 7, 3) := by decide +kernel
theorem own_d_prog_5_method_1_code_9 : decode prog_5_method_1_code 9 = .ok (.aload_n 0, 1) := by decide +kernel
theorem own_d_prog_5_method_1_code_10 : decode prog_5_method_1_code 10 = .ok (.aload_n 2, 1) := by decide +kernel
theorem own_d_prog_5_method_1_code_11 : decode prog_5_method_1_code 11 = .ok (.putfield 13, 3) := by decide +kernel
theorem own_d_prog_5_method_1_code_14 : decode prog_5_method_1_code 14 = .ok (.aload_n 0, 1) := by decide +kernel
theorem own_d_prog_5_method_1_code_15 : decode prog_5_method_1_code 15 = .ok (.lload_n 3, 1) := by decide +kernel
theorem own_d_prog_5_method_1_code_16 : decode prog_5_method_1_code 16 = .ok (.putfield 17, 3) := by decide +kernel
theorem own_d_prog_5_method_1_code_19 : decode prog_5_method_1_code 19 = .ok (.return_, 1) := by decide +kernel
theorem own_ef1 (m : MethodId) (x0 : Addr) (x1 : Addr) (x3 : Int64)  : entryFrame m #[(.ref x0), (.ref x1), .null, (.long x3)] 5 = mkF m 0 #[.val (.ref x0), .val (.ref x1), .val .null, .val (.long x3), .second] [] := by first | (simp [entryFrame, mkF, argsToLocals, Value.category]; done) | rfl
abbrev own_Q1 (Z : State) (a1 : Addr) (a2 : Addr) (x3 : Int64) (h0 : Heap) (n0 : Nat) (v : Option Value) (h : Heap) (L : List Loc) : Prop := v = none ∧ Fr n0 L ∧ Keep h0 h [a1] ∧ Exa Z h a1 "com/example/baskit/baskit/engine/Discount" ∧ Fld Z h a1 "com/example/baskit/baskit/engine/Discount" "type" "Lcom/example/baskit/baskit/engine/Discount$Type;" (.ref a2) ∧ Fld Z h a1 "com/example/baskit/baskit/engine/Discount" "percentOff" "Lcom/example/baskit/baskit/engine/PercentOff;" .null ∧ Fld Z h a1 "com/example/baskit/baskit/engine/Discount" "amountOff" "J" (.long x3)
set_option maxRecDepth 65536 in
set_option maxHeartbeats 40000000 in
theorem own_m1 (l : Launch) (Z : State) (a0 : Array Value) (hw : ∀ d ∈ tables_1, d.before a0 Z = true) (ws : List Jvm.Cond) (a1 : Addr) (a2 : Addr) (x3 : Int64) (h0 : Heap) (n0 : Nat) (O0 : Old Z n0 h0) (gn_a1 : n0 ≤ a1) (F_1 : Exa Z h0 a1 "com/example/baskit/baskit/engine/Discount") (F_2 : Fld Z h0 a1 "com/example/baskit/baskit/engine/Discount" "type" "Lcom/example/baskit/baskit/engine/Discount$Type;" .null) (F_3 : Fld Z h0 a1 "com/example/baskit/baskit/engine/Discount" "percentOff" "Lcom/example/baskit/baskit/engine/PercentOff;" .null) (F_4 : Fld Z h0 a1 "com/example/baskit/baskit/engine/Discount" "amountOff" "J" (.long (0 : Int64))) :
    Ctr l Z (⟨"com/example/baskit/baskit/engine/Discount", "<init>", "(Lcom/example/baskit/baskit/engine/Discount$Type;Lcom/example/baskit/baskit/engine/PercentOff;J)V"⟩ : MethodName) prog_5_method_1_code 5 none ({ frames := 1, cells := 0, slots := 0, locals := 12 } : Room) #[(.ref a1), (.ref a2), .null, (.long x3)] h0 (own_Q1 Z a1 a2 x3 h0 n0) ws := by
  refine MetFree.of_bodySF (plainFor_of_name own_pn0) hisR ?_
  intro p e s m args below meth c s₁ Bd hml0 hP hK
  obtain ⟨rfl, hZ, hh⟩ := hP
  have hx := Bd.exec
  have hby := Bd.bytes
  have hlk : meth.locks = false := Bd.notSynchronized
  have hml : c.maxLocals = 5 := hml0
  have hown : s.vm.findClass "com/example/baskit/baskit/engine/Discount" = some m.cls := findClass_of_methodNamed Bd.named
  have hnm := (name_of_methodNamed Bd.named Bd.method).1
  have X0 : Stand p l e ({ frames := 1, cells := 0, slots := 0, locals := 12 } : Room) s m #[(.ref a1), (.ref a2), .null, (.long x3)] below meth c s₁ [] 0 0 := Stand.of_body Bd
  have e0 : s₁.heap = h0 := by rw [← hh, Bd.state]; rfl
  have N0 := Fr.nil n0
  show Goes p.tables e below (fun t o => ∃ v L, o = .returned v ∧ (own_Q1 Z a1 a2 x3 h0 n0) v t.heap L ∧ FrameEnd s o t L (({ frames := 1, cells := 0, slots := 0, locals := 12 } : Room)).cells (({ frames := 1, cells := 0, slots := 0, locals := 12 } : Room)).slots) _
  refine Goes.via (B := s₁.setTop (mkF m 0 #[.val (.ref a1), .val (.ref a2), .val .null, .val (.long x3), .second] [])) (fun t k => castTop (own_ef1 m a1 a2 x3) k) ?_
  refine Goes.via (B := s₁.setTop (mkF m 1 #[.val (.ref a1), .val (.ref a2), .val .null, .val (.long x3), .second] [(.ref a1)])) (fun t k => XS.aloadN X0.here hx rfl (hb hby own_d_prog_5_method_1_code_0) rfl rfl k) ?_
  obtain ⟨T1, X1, e1, st1⟩ := initO X0 hx hZ hown (hw _ (List.mem_of_getElem? (i := 13) rfl)) (hw _ (List.mem_of_getElem? (i := 14) rfl)) (hw _ (List.mem_of_getElem? (i := 15) rfl)) e0 (g := (mkF m 1 #[.val (.ref a1), .val (.ref a2), .val .null, .val (.long x3), .second] [(.ref a1)])) rfl (by rw [hml]; rfl) rfl (hb hby own_d_prog_5_method_1_code_1) (by decide) (W := 0) (by show 2 * 0 + _ ≤ _; exact Nat.le_of_eq rfl) (by decide)
  refine Goes.via (B := T1.setTop (mkF m 4 #[.val (.ref a1), .val (.ref a2), .val .null, .val (.long x3), .second] [])) (fun t k => st1 _ k) ?_
  refine Goes.via (B := T1.setTop (mkF m 5 #[.val (.ref a1), .val (.ref a2), .val .null, .val (.long x3), .second] [(.ref a1)])) (fun t k => XS.aloadN X1.here hx rfl (hb hby own_d_prog_5_method_1_code_4) rfl rfl k) ?_
  refine Goes.via (B := T1.setTop (mkF m 6 #[.val (.ref a1), .val (.ref a2), .val .null, .val (.long x3), .second] [(.ref a2), (.ref a1)])) (fun t k => XS.aloadN X1.here hx rfl (hb hby own_d_prog_5_method_1_code_5) rfl rfl k) ?_
  obtain ⟨T2, h2, X2, e2, W2, st2⟩ := putF X1 hx hZ hown (host := "") (Or.inl (hw _ (List.mem_of_getElem? (i := 16) rfl))) Via.refl e1 F_2 F_1 (Or.inr ⟨(hw _ (List.mem_of_getElem? (i := 17) rfl)), rfl, hnm⟩) (hw _ (List.mem_of_getElem? (i := 6) rfl)) (ty := (.object "com/example/baskit/baskit/engine/Discount$Type")) (by decide) rfl rfl (g := (mkF m 6 #[.val (.ref a1), .val (.ref a2), .val .null, .val (.long x3), .second] [(.ref a2), (.ref a1)])) rfl rfl (hb hby own_d_prog_5_method_1_code_6)
  have N2 := Fr.snoc X2 N0 gn_a1
  refine Goes.via (B := T2.setTop (mkF m 9 #[.val (.ref a1), .val (.ref a2), .val .null, .val (.long x3), .second] [])) (fun t k => st2 _ k) ?_
  refine Goes.via (B := T2.setTop (mkF m 10 #[.val (.ref a1), .val (.ref a2), .val .null, .val (.long x3), .second] [(.ref a1)])) (fun t k => XS.aloadN X2.here hx rfl (hb hby own_d_prog_5_method_1_code_9) rfl rfl k) ?_
  refine Goes.via (B := T2.setTop (mkF m 11 #[.val (.ref a1), .val (.ref a2), .val .null, .val (.long x3), .second] [.null, (.ref a1)])) (fun t k => XS.aloadN X2.here hx rfl (hb hby own_d_prog_5_method_1_code_10) rfl rfl k) ?_
  have c3 : Fld Z h2 a1 "com/example/baskit/baskit/engine/Discount" "percentOff" "Lcom/example/baskit/baskit/engine/PercentOff;" .null := (Fld.other W2 F_3 (Or.inr (slot_ne (Or.inr (hw _ (List.mem_of_getElem? (i := 19) rfl))) (Or.inr (hw _ (List.mem_of_getElem? (i := 17) rfl))) (by decide) (t := (.object "com/example/baskit/baskit/engine/PercentOff")) (t' := (.object "com/example/baskit/baskit/engine/Discount$Type")) (by decide) (by decide))))
  obtain ⟨T4, h4, X4, e4, W4, st4⟩ := putF X2 hx hZ hown (host := "") (Or.inl (hw _ (List.mem_of_getElem? (i := 18) rfl))) Via.refl e2 c3 (Exa.wr W2 F_1) (Or.inr ⟨(hw _ (List.mem_of_getElem? (i := 19) rfl)), rfl, hnm⟩) (hw _ (List.mem_of_getElem? (i := 6) rfl)) (ty := (.object "com/example/baskit/baskit/engine/PercentOff")) (by decide) rfl rfl (g := (mkF m 11 #[.val (.ref a1), .val (.ref a2), .val .null, .val (.long x3), .second] [.null, (.ref a1)])) rfl rfl (hb hby own_d_prog_5_method_1_code_11)
  have N4 := Fr.snoc X4 N2 gn_a1
  refine Goes.via (B := T4.setTop (mkF m 14 #[.val (.ref a1), .val (.ref a2), .val .null, .val (.long x3), .second] [])) (fun t k => st4 _ k) ?_
  refine Goes.via (B := T4.setTop (mkF m 15 #[.val (.ref a1), .val (.ref a2), .val .null, .val (.long x3), .second] [(.ref a1)])) (fun t k => XS.aloadN X4.here hx rfl (hb hby own_d_prog_5_method_1_code_14) rfl rfl k) ?_
  refine Goes.via (B := T4.setTop (mkF m 16 #[.val (.ref a1), .val (.ref a2), .val .null, .val (.long x3), .second] [(.long x3), (.ref a1)])) (fun t k => XS.lloadN X4.here hx rfl (hb hby own_d_prog_5_method_1_code_15) rfl k) ?_
  have c5 : Fld Z h4 a1 "com/example/baskit/baskit/engine/Discount" "amountOff" "J" (.long (0 : Int64)) := (Fld.other W4 (Fld.other W2 F_4 (Or.inr (slot_ne (Or.inr (hw _ (List.mem_of_getElem? (i := 21) rfl))) (Or.inr (hw _ (List.mem_of_getElem? (i := 17) rfl))) (by decide) (t := .long) (t' := (.object "com/example/baskit/baskit/engine/Discount$Type")) (by decide) (by decide)))) (Or.inr (slot_ne (Or.inr (hw _ (List.mem_of_getElem? (i := 21) rfl))) (Or.inr (hw _ (List.mem_of_getElem? (i := 19) rfl))) (by decide) (t := .long) (t' := (.object "com/example/baskit/baskit/engine/PercentOff")) (by decide) (by decide))))
  obtain ⟨T6, h6, X6, e6, W6, st6⟩ := putF X4 hx hZ hown (host := "") (Or.inl (hw _ (List.mem_of_getElem? (i := 20) rfl))) Via.refl e4 c5 (Exa.wr W4 (Exa.wr W2 F_1)) (Or.inr ⟨(hw _ (List.mem_of_getElem? (i := 21) rfl)), rfl, hnm⟩) (hw _ (List.mem_of_getElem? (i := 6) rfl)) (ty := .long) (by decide) rfl rfl (g := (mkF m 16 #[.val (.ref a1), .val (.ref a2), .val .null, .val (.long x3), .second] [(.long x3), (.ref a1)])) rfl rfl (hb hby own_d_prog_5_method_1_code_16)
  have N6 := Fr.snoc X6 N4 gn_a1
  refine Goes.via (B := T6.setTop (mkF m 19 #[.val (.ref a1), .val (.ref a2), .val .null, .val (.long x3), .second] [])) (fun t k => st6 _ k) ?_
  have c7 : Fld Z h6 a1 "com/example/baskit/baskit/engine/Discount" "type" "Lcom/example/baskit/baskit/engine/Discount$Type;" (.ref a2) := (Fld.other W6 (Fld.other W4 (Fld.same W2 F_2) (Or.inr (slot_ne (Or.inr (hw _ (List.mem_of_getElem? (i := 17) rfl))) (Or.inr (hw _ (List.mem_of_getElem? (i := 19) rfl))) (by decide) (t := (.object "com/example/baskit/baskit/engine/Discount$Type")) (t' := (.object "com/example/baskit/baskit/engine/PercentOff")) (by decide) (by decide)))) (Or.inr (slot_ne (Or.inr (hw _ (List.mem_of_getElem? (i := 17) rfl))) (Or.inr (hw _ (List.mem_of_getElem? (i := 21) rfl))) (by decide) (t := (.object "com/example/baskit/baskit/engine/Discount$Type")) (t' := .long) (by decide) (by decide))))
  have c8 : Fld Z h6 a1 "com/example/baskit/baskit/engine/Discount" "percentOff" "Lcom/example/baskit/baskit/engine/PercentOff;" .null := (Fld.other W6 (Fld.same W4 c3) (Or.inr (slot_ne (Or.inr (hw _ (List.mem_of_getElem? (i := 19) rfl))) (Or.inr (hw _ (List.mem_of_getElem? (i := 21) rfl))) (by decide) (t := (.object "com/example/baskit/baskit/engine/PercentOff")) (t' := .long) (by decide) (by decide))))
  exact fin0 (Q := (own_Q1 Z a1 a2 x3 h0 n0)) (F := FrameEnd) (C := (({ frames := 1, cells := 0, slots := 0, locals := 12 } : Room)).cells) (S := (({ frames := 1, cells := 0, slots := 0, locals := 12 } : Room)).slots) X6 hx Bd.returns (hb hby own_d_prog_5_method_1_code_19) e6 ⟨rfl, N6, ((((Keep.refl h0 [a1]).wr W2 (Or.inl (List.mem_of_getElem? (i := 0) rfl))).wr W4 (Or.inl (List.mem_of_getElem? (i := 0) rfl))).wr W6 (Or.inl (List.mem_of_getElem? (i := 0) rfl))), (Exa.wr W6 (Exa.wr W4 (Exa.wr W2 F_1))), c7, c8, (Fld.same W6 c5)⟩ (lvN X6 hlk (by decide) (by decide))
theorem own_d_prog_5_method_3_code_0 : decode prog_5_method_3_code 0 = .ok (.lload_n 0, 1) := by decide +kernel
theorem own_d_prog_5_method_3_code_1 : decode prog_5_method_3_code 1 = .ok (.lconst 1, 1) := by decide +kernel
theorem own_d_prog_5_method_3_code_2 : decode prog_5_method_3_code 2 = .ok (.lcmp, 1) := by decide +kernel
theorem own_d_prog_5_method_3_code_3 : decode prog_5_method_3_code 3 = .ok (.ifCond .ge 17, 3) := by decide +kernel
theorem own_d_prog_5_method_3_code_20 : decode prog_5_method_3_code 20 = .ok (.new 8, 3) := by decide +kernel
theorem own_d_prog_5_method_3_code_23 : decode prog_5_method_3_code 23 = .ok (.dup, 1) := by decide +kernel
theorem own_d_prog_5_method_3_code_24 : decode prog_5_method_3_code 24 = .ok (.getstatic 38, 3) := by decide +kernel
theorem own_d_prog_5_method_3_code_27 : decode prog_5_method_3_code 27 = .ok (.aconst_null, 1) := by decide +kernel
theorem own_d_prog_5_method_3_code_28 : decode prog_5_method_3_code 28 = .ok (.lload_n 0, 1) := by decide +kernel
theorem own_d_prog_5_method_3_code_29 : decode prog_5_method_3_code 29 = .ok (.invokespecial 26, 3) := by decide +kernel
theorem own_pd0 : parseMethodDescriptor "(Lcom/example/baskit/baskit/engine/Discount$Type;Lcom/example/baskit/baskit/engine/PercentOff;J)V" = some ⟨[(.object "com/example/baskit/baskit/engine/Discount$Type"), (.object "com/example/baskit/baskit/engine/PercentOff"), .long], none⟩ := by decide +kernel
theorem own_d_prog_5_method_3_code_32 : decode prog_5_method_3_code 32 = .ok (.areturn, 1) := by decide +kernel
theorem own_ef2 (m : MethodId) (x0 : Int64)  : entryFrame m #[(.long x0)] 2 = mkF m 0 #[.val (.long x0), .second] [] := by first | (simp [entryFrame, mkF, argsToLocals, Value.category]; done) | rfl
abbrev own_Q2 (Z : State) (x1 : Int64) (aT : Addr) (h0 : Heap) (n0 : Nat) (v : Option Value) (h : Heap) (L : List Loc) : Prop := ∃ b : Addr, v = some (.ref b) ∧ Fr n0 L ∧ Keep h0 h [] ∧ h0.size ≤ b ∧ Exa Z h b "com/example/baskit/baskit/engine/Discount" ∧ Fld Z h b "com/example/baskit/baskit/engine/Discount" "type" "Lcom/example/baskit/baskit/engine/Discount$Type;" (.ref aT) ∧ Fld Z h b "com/example/baskit/baskit/engine/Discount" "percentOff" "Lcom/example/baskit/baskit/engine/PercentOff;" .null ∧ Fld Z h b "com/example/baskit/baskit/engine/Discount" "amountOff" "J" (.long x1)
set_option maxRecDepth 65536 in
set_option maxHeartbeats 40000000 in
theorem own_m2 (l : Launch) (Z : State) (a0 : Array Value) (hw : ∀ d ∈ tables_1, d.before a0 Z = true) (ws : List Jvm.Cond) (x1 : Int64) (aT : Addr) (h0 : Heap) (n0 : Nat) (O0 : Old Z n0 h0) (hc1 : ¬ x1 < (1 : Int64)) (O_1 : Sta Z Z.heap "com/example/baskit/baskit/engine/Discount$Type" "AMOUNT" "Lcom/example/baskit/baskit/engine/Discount$Type;" (.ref aT)) :
    Ctr l Z (⟨"com/example/baskit/baskit/engine/Discount", "amount", "(J)Lcom/example/baskit/baskit/engine/Discount;"⟩ : MethodName) prog_5_method_3_code 2 (some (.object "com/example/baskit/baskit/engine/Discount")) ({ frames := 2, cells := 1, slots := 3, locals := 29 } : Room) #[(.long x1)] h0 (own_Q2 Z x1 aT h0 n0) ws := by
  refine MetFree.of_bodySF (plainFor_of_name own_pn0) hisR ?_
  intro p e s m args below meth c s₁ Bd hml0 hP hK
  obtain ⟨rfl, hZ, hh⟩ := hP
  have hx := Bd.exec
  have hby := Bd.bytes
  have hlk : meth.locks = false := Bd.notSynchronized
  have hml : c.maxLocals = 2 := hml0
  have hown : s.vm.findClass "com/example/baskit/baskit/engine/Discount" = some m.cls := findClass_of_methodNamed Bd.named
  have hnm := (name_of_methodNamed Bd.named Bd.method).1
  have X0 : Stand p l e ({ frames := 2, cells := 1, slots := 3, locals := 29 } : Room) s m #[(.long x1)] below meth c s₁ [] 0 0 := Stand.of_body Bd
  have e0 : s₁.heap = h0 := by rw [← hh, Bd.state]; rfl
  have N0 := Fr.nil n0
  show Goes p.tables e below (fun t o => ∃ v L, o = .returned v ∧ (own_Q2 Z x1 aT h0 n0) v t.heap L ∧ FrameEnd s o t L (({ frames := 2, cells := 1, slots := 3, locals := 29 } : Room)).cells (({ frames := 2, cells := 1, slots := 3, locals := 29 } : Room)).slots) _
  refine Goes.via (B := s₁.setTop (mkF m 0 #[.val (.long x1), .second] [])) (fun t k => castTop (own_ef2 m x1) k) ?_
  refine Goes.via (B := s₁.setTop (mkF m 1 #[.val (.long x1), .second] [(.long x1)])) (fun t k => XS.lloadN X0.here hx rfl (hb hby own_d_prog_5_method_3_code_0) rfl k) ?_
  refine Goes.via (B := s₁.setTop (mkF m 2 #[.val (.long x1), .second] [(.long (1 : Int64)), (.long x1)])) (fun t k => XS.lconst X0.here hx rfl (hb hby own_d_prog_5_method_3_code_1) k) ?_
  refine Goes.via (B := s₁.setTop (mkF m 3 #[.val (.long x1), .second] [(.int (XT.cmpL x1 (1 : Int64)))])) (fun t k => XT.lcmp X0.here hx rfl (hb hby own_d_prog_5_method_3_code_2) rfl k) ?_
  refine Goes.via (B := s₁.setTop (mkF m 20 #[.val (.long x1), .second] [])) (fun t k => XS.ifYes X0.here hx rfl (pc0 := 3) (pc' := 20) rfl (hb hby own_d_prog_5_method_3_code_3) rfl (XT.ll_ge_t hc1) (by decide) (by decide) k) ?_
  obtain ⟨T1, h1, X1, e1, E1, A1, D1, U1, st1⟩ := newO X0 hx hZ hown (hw _ (List.mem_of_getElem? (i := 5) rfl)) (hw _ (List.mem_of_getElem? (i := 6) rfl)) (hw _ (List.mem_of_getElem? (i := 3) rfl)) e0 (g := (mkF m 20 #[.val (.long x1), .second] [])) rfl (hb hby own_d_prog_5_method_3_code_20) (by decide) (by decide)
  obtain ⟨b1, g1⟩ : ∃ z, z = h0.size := ⟨_, rfl⟩
  rw [← g1] at A1 D1 U1 st1
  have gn1 : n0 ≤ b1 := Nat.le_trans (old_le O0) (Nat.le_of_eq g1.symm)
  have gs1 : h0.size ≤ b1 := Nat.le_trans (Keep.refl h0 []).1 (Nat.le_of_eq g1.symm)
  have F1_type : Fld Z h1 b1 "com/example/baskit/baskit/engine/Discount" "type" "Lcom/example/baskit/baskit/engine/Discount$Type;" .null := D1 (Or.inr (hw _ (List.mem_of_getElem? (i := 17) rfl))) (ty := (.object "com/example/baskit/baskit/engine/Discount$Type")) (by decide)
  have F1_percentOff : Fld Z h1 b1 "com/example/baskit/baskit/engine/Discount" "percentOff" "Lcom/example/baskit/baskit/engine/PercentOff;" .null := D1 (Or.inr (hw _ (List.mem_of_getElem? (i := 19) rfl))) (ty := (.object "com/example/baskit/baskit/engine/PercentOff")) (by decide)
  have F1_amountOff : Fld Z h1 b1 "com/example/baskit/baskit/engine/Discount" "amountOff" "J" (.long (0 : Int64)) := D1 (Or.inr (hw _ (List.mem_of_getElem? (i := 21) rfl))) (ty := .long) (by decide)
  refine Goes.via (B := T1.setTop (mkF m 23 #[.val (.long x1), .second] [(.ref b1)])) (fun t k => st1 _ k) ?_
  refine Goes.via (B := T1.setTop (mkF m 24 #[.val (.long x1), .second] [(.ref b1), (.ref b1)])) (fun t k => XS.dup X1.here hx rfl (hb hby own_d_prog_5_method_3_code_23) rfl rfl k) ?_
  obtain ⟨T2, X2, e2, st2⟩ := getS2 X1 hx hZ hown (host := "") (Or.inl (hw _ (List.mem_of_getElem? (i := 7) rfl))) Via.refl e1 (Sta.ext (O0.ext E1).2 O_1) (g := (mkF m 24 #[.val (.long x1), .second] [(.ref b1), (.ref b1)])) rfl (hb hby own_d_prog_5_method_3_code_24)
  refine Goes.via (B := T2.setTop (mkF m 27 #[.val (.long x1), .second] [(.ref aT), (.ref b1), (.ref b1)])) (fun t k => st2 _ k) ?_
  refine Goes.via (B := T2.setTop (mkF m 28 #[.val (.long x1), .second] [.null, (.ref aT), (.ref b1), (.ref b1)])) (fun t k => XS.aconstNull X2.here hx rfl (hb hby own_d_prog_5_method_3_code_27) k) ?_
  refine Goes.via (B := T2.setTop (mkF m 29 #[.val (.long x1), .second] [(.long x1), .null, (.ref aT), (.ref b1), (.ref b1)])) (fun t k => XS.lloadN X2.here hx rfl (hb hby own_d_prog_5_method_3_code_28) rfl k) ?_
  obtain ⟨_, T3, L3, X3, ⟨rfl, M3, K3, f3_0, f3_1, f3_2, f3_3⟩, st3⟩ := callInit X2 hx hZ rfl hown (hw _ (List.mem_of_getElem? (i := 10) rfl)) (hw _ (List.mem_of_getElem? (i := 11) rfl)) (hw _ (List.mem_of_getElem? (i := 3) rfl)) (hw _ (List.mem_of_getElem? (i := 12) rfl)) (by decide) (argsL := [(.ref aT), .null, (.long x1)]) (rest := [(.ref b1)]) (own_m1 l Z a0 hw [] b1 aT x1 h1 n0 (O0.ext E1) gn1 A1 F1_type F1_percentOff F1_amountOff) e2 (lenOf own_pd0 rfl) (pc := 29) (Ls := #[.val (.long x1), .second]) (st := [(.long x1), .null, (.ref aT), (.ref b1), (.ref b1)]) rfl (by rw [hml]; rfl) (hb hby own_d_prog_5_method_3_code_29) (W := 1) (Nat.le_of_eq rfl) (by decide) (by decide) (by decide) (by decide)
  have N3 := Fr.app N0 M3
  refine Goes.via (B := T3.setTop (mkF m 32 #[.val (.long x1), .second] [(.ref b1)])) (fun t k => st3 _ k) ?_
  exact finA (Q := (own_Q2 Z x1 aT h0 n0)) (F := FrameEnd) (C := (({ frames := 2, cells := 1, slots := 3, locals := 29 } : Room)).cells) (S := (({ frames := 2, cells := 1, slots := 3, locals := 29 } : Room)).slots) X3 hx Bd.returns rfl rfl rfl (hb hby own_d_prog_5_method_3_code_32) rfl ⟨b1, rfl, N3, (((Keep.refl h0 []).ext E1).trans K3 (allS (Or.inr gs1) all0)), gs1, f3_0, f3_1, f3_2, f3_3⟩ (lvN X3 hlk (by decide) (by decide))
theorem own_d_prog_5_method_4_code_0 : decode prog_5_method_4_code 0 = .ok (.aload_n 0, 1) := by decide +kernel
theorem own_d_prog_5_method_4_code_1 : decode prog_5_method_4_code 1 = .ok (.getfield 7, 3) := by decide +kernel
theorem own_d_prog_5_method_4_code_4 : decode prog_5_method_4_code 4 = .ok (.areturn, 1) := by decide +kernel
theorem own_ef3 (m : MethodId) (x0 : Addr)  : entryFrame m #[(.ref x0)] 1 = mkF m 0 #[.val (.ref x0)] [] := by first | (simp [entryFrame, mkF, argsToLocals, Value.category]; done) | rfl
abbrev own_Q3 (Z : State) (a1 : Addr) (x1 : Addr) (h0 : Heap) (n0 : Nat) (v : Option Value) (h : Heap) (L : List Loc) : Prop := v = some (.ref x1) ∧ Fr n0 L ∧ h = h0
set_option maxRecDepth 65536 in
set_option maxHeartbeats 40000000 in
theorem own_m3 (l : Launch) (Z : State) (a0 : Array Value) (hw : ∀ d ∈ tables_1, d.before a0 Z = true) (ws : List Jvm.Cond) (a1 : Addr) (x1 : Addr) (h0 : Heap) (n0 : Nat) (O0 : Old Z n0 h0) (F_1 : Fld Z h0 a1 "com/example/baskit/baskit/engine/Discount" "type" "Lcom/example/baskit/baskit/engine/Discount$Type;" (.ref x1)) :
    Ctr l Z (⟨"com/example/baskit/baskit/engine/Discount", "type", "()Lcom/example/baskit/baskit/engine/Discount$Type;"⟩ : MethodName) prog_5_method_4_code 1 (some (.object "com/example/baskit/baskit/engine/Discount$Type")) ({ frames := 0, cells := 0, slots := 0, locals := 0 } : Room) #[(.ref a1)] h0 (own_Q3 Z a1 x1 h0 n0) ws := by
  refine MetFree.of_bodySF (plainFor_of_name own_pn0) hisR ?_
  intro p e s m args below meth c s₁ Bd hml0 hP hK
  obtain ⟨rfl, hZ, hh⟩ := hP
  have hx := Bd.exec
  have hby := Bd.bytes
  have hlk : meth.locks = false := Bd.notSynchronized
  have hml : c.maxLocals = 1 := hml0
  have hown : s.vm.findClass "com/example/baskit/baskit/engine/Discount" = some m.cls := findClass_of_methodNamed Bd.named
  have hnm := (name_of_methodNamed Bd.named Bd.method).1
  have X0 : Stand p l e ({ frames := 0, cells := 0, slots := 0, locals := 0 } : Room) s m #[(.ref a1)] below meth c s₁ [] 0 0 := Stand.of_body Bd
  have e0 : s₁.heap = h0 := by rw [← hh, Bd.state]; rfl
  have N0 := Fr.nil n0
  show Goes p.tables e below (fun t o => ∃ v L, o = .returned v ∧ (own_Q3 Z a1 x1 h0 n0) v t.heap L ∧ FrameEnd s o t L (({ frames := 0, cells := 0, slots := 0, locals := 0 } : Room)).cells (({ frames := 0, cells := 0, slots := 0, locals := 0 } : Room)).slots) _
  refine Goes.via (B := s₁.setTop (mkF m 0 #[.val (.ref a1)] [])) (fun t k => castTop (own_ef3 m a1) k) ?_
  refine Goes.via (B := s₁.setTop (mkF m 1 #[.val (.ref a1)] [(.ref a1)])) (fun t k => XS.aloadN X0.here hx rfl (hb hby own_d_prog_5_method_4_code_0) rfl rfl k) ?_
  obtain ⟨T1, X1, e1, st1⟩ := getF X0 hx hZ hown (host := "") (Or.inl (hw _ (List.mem_of_getElem? (i := 16) rfl))) Via.refl e0 F_1 (g := (mkF m 1 #[.val (.ref a1)] [(.ref a1)])) rfl rfl (hb hby own_d_prog_5_method_4_code_1)
  refine Goes.via (B := T1.setTop (mkF m 4 #[.val (.ref a1)] [(.ref x1)])) (fun t k => st1 _ k) ?_
  exact finA (Q := (own_Q3 Z a1 x1 h0 n0)) (F := FrameEnd) (C := (({ frames := 0, cells := 0, slots := 0, locals := 0 } : Room)).cells) (S := (({ frames := 0, cells := 0, slots := 0, locals := 0 } : Room)).slots) X1 hx Bd.returns rfl rfl rfl (hb hby own_d_prog_5_method_4_code_4) e1 ⟨rfl, N0, rfl⟩ (lvN X1 hlk (by decide) (by decide))
theorem own_d_prog_5_method_5_code_0 : decode prog_5_method_5_code 0 = .ok (.aload_n 0, 1) := by decide +kernel
theorem own_d_prog_5_method_5_code_1 : decode prog_5_method_5_code 1 = .ok (.getfield 13, 3) := by decide +kernel
theorem own_d_prog_5_method_5_code_4 : decode prog_5_method_5_code 4 = .ok (.areturn, 1) := by decide +kernel
theorem own_ef4 (m : MethodId) (x0 : Addr)  : entryFrame m #[(.ref x0)] 1 = mkF m 0 #[.val (.ref x0)] [] := by first | (simp [entryFrame, mkF, argsToLocals, Value.category]; done) | rfl
abbrev own_Q4 (Z : State) (a1 : Addr) (h0 : Heap) (n0 : Nat) (v : Option Value) (h : Heap) (L : List Loc) : Prop := v = some .null ∧ Fr n0 L ∧ h = h0
set_option maxRecDepth 65536 in
set_option maxHeartbeats 40000000 in
theorem own_m4 (l : Launch) (Z : State) (a0 : Array Value) (hw : ∀ d ∈ tables_1, d.before a0 Z = true) (ws : List Jvm.Cond) (a1 : Addr) (h0 : Heap) (n0 : Nat) (O0 : Old Z n0 h0) (F_1 : Fld Z h0 a1 "com/example/baskit/baskit/engine/Discount" "percentOff" "Lcom/example/baskit/baskit/engine/PercentOff;" .null) :
    Ctr l Z (⟨"com/example/baskit/baskit/engine/Discount", "percentOff", "()Lcom/example/baskit/baskit/engine/PercentOff;"⟩ : MethodName) prog_5_method_5_code 1 (some (.object "com/example/baskit/baskit/engine/PercentOff")) ({ frames := 0, cells := 0, slots := 0, locals := 0 } : Room) #[(.ref a1)] h0 (own_Q4 Z a1 h0 n0) ws := by
  refine MetFree.of_bodySF (plainFor_of_name own_pn0) hisR ?_
  intro p e s m args below meth c s₁ Bd hml0 hP hK
  obtain ⟨rfl, hZ, hh⟩ := hP
  have hx := Bd.exec
  have hby := Bd.bytes
  have hlk : meth.locks = false := Bd.notSynchronized
  have hml : c.maxLocals = 1 := hml0
  have hown : s.vm.findClass "com/example/baskit/baskit/engine/Discount" = some m.cls := findClass_of_methodNamed Bd.named
  have hnm := (name_of_methodNamed Bd.named Bd.method).1
  have X0 : Stand p l e ({ frames := 0, cells := 0, slots := 0, locals := 0 } : Room) s m #[(.ref a1)] below meth c s₁ [] 0 0 := Stand.of_body Bd
  have e0 : s₁.heap = h0 := by rw [← hh, Bd.state]; rfl
  have N0 := Fr.nil n0
  show Goes p.tables e below (fun t o => ∃ v L, o = .returned v ∧ (own_Q4 Z a1 h0 n0) v t.heap L ∧ FrameEnd s o t L (({ frames := 0, cells := 0, slots := 0, locals := 0 } : Room)).cells (({ frames := 0, cells := 0, slots := 0, locals := 0 } : Room)).slots) _
  refine Goes.via (B := s₁.setTop (mkF m 0 #[.val (.ref a1)] [])) (fun t k => castTop (own_ef4 m a1) k) ?_
  refine Goes.via (B := s₁.setTop (mkF m 1 #[.val (.ref a1)] [(.ref a1)])) (fun t k => XS.aloadN X0.here hx rfl (hb hby own_d_prog_5_method_5_code_0) rfl rfl k) ?_
  obtain ⟨T1, X1, e1, st1⟩ := getF X0 hx hZ hown (host := "") (Or.inl (hw _ (List.mem_of_getElem? (i := 18) rfl))) Via.refl e0 F_1 (g := (mkF m 1 #[.val (.ref a1)] [(.ref a1)])) rfl rfl (hb hby own_d_prog_5_method_5_code_1)
  refine Goes.via (B := T1.setTop (mkF m 4 #[.val (.ref a1)] [.null])) (fun t k => st1 _ k) ?_
  exact finA (Q := (own_Q4 Z a1 h0 n0)) (F := FrameEnd) (C := (({ frames := 0, cells := 0, slots := 0, locals := 0 } : Room)).cells) (S := (({ frames := 0, cells := 0, slots := 0, locals := 0 } : Room)).slots) X1 hx Bd.returns rfl rfl rfl (hb hby own_d_prog_5_method_5_code_4) e1 ⟨rfl, N0, rfl⟩ (lvN X1 hlk (by decide) (by decide))
theorem own_d_prog_5_method_6_code_0 : decode prog_5_method_6_code 0 = .ok (.aload_n 0, 1) := by decide +kernel
theorem own_d_prog_5_method_6_code_1 : decode prog_5_method_6_code 1 = .ok (.getfield 17, 3) := by decide +kernel
theorem own_d_prog_5_method_6_code_4 : decode prog_5_method_6_code 4 = .ok (.lreturn, 1) := by decide +kernel
theorem own_ef5 (m : MethodId) (x0 : Addr)  : entryFrame m #[(.ref x0)] 1 = mkF m 0 #[.val (.ref x0)] [] := by first | (simp [entryFrame, mkF, argsToLocals, Value.category]; done) | rfl
abbrev own_Q5 (Z : State) (a1 : Addr) (x1 : Int64) (h0 : Heap) (n0 : Nat) (v : Option Value) (h : Heap) (L : List Loc) : Prop := v = some (.long x1) ∧ Fr n0 L ∧ h = h0
set_option maxRecDepth 65536 in
set_option maxHeartbeats 40000000 in
theorem own_m5 (l : Launch) (Z : State) (a0 : Array Value) (hw : ∀ d ∈ tables_1, d.before a0 Z = true) (ws : List Jvm.Cond) (a1 : Addr) (x1 : Int64) (h0 : Heap) (n0 : Nat) (O0 : Old Z n0 h0) (F_1 : Fld Z h0 a1 "com/example/baskit/baskit/engine/Discount" "amountOff" "J" (.long x1)) :
    Ctr l Z (⟨"com/example/baskit/baskit/engine/Discount", "amountOff", "()J"⟩ : MethodName) prog_5_method_6_code 1 (some .long) ({ frames := 0, cells := 0, slots := 0, locals := 0 } : Room) #[(.ref a1)] h0 (own_Q5 Z a1 x1 h0 n0) ws := by
  refine MetFree.of_bodySF (plainFor_of_name own_pn0) hisR ?_
  intro p e s m args below meth c s₁ Bd hml0 hP hK
  obtain ⟨rfl, hZ, hh⟩ := hP
  have hx := Bd.exec
  have hby := Bd.bytes
  have hlk : meth.locks = false := Bd.notSynchronized
  have hml : c.maxLocals = 1 := hml0
  have hown : s.vm.findClass "com/example/baskit/baskit/engine/Discount" = some m.cls := findClass_of_methodNamed Bd.named
  have hnm := (name_of_methodNamed Bd.named Bd.method).1
  have X0 : Stand p l e ({ frames := 0, cells := 0, slots := 0, locals := 0 } : Room) s m #[(.ref a1)] below meth c s₁ [] 0 0 := Stand.of_body Bd
  have e0 : s₁.heap = h0 := by rw [← hh, Bd.state]; rfl
  have N0 := Fr.nil n0
  show Goes p.tables e below (fun t o => ∃ v L, o = .returned v ∧ (own_Q5 Z a1 x1 h0 n0) v t.heap L ∧ FrameEnd s o t L (({ frames := 0, cells := 0, slots := 0, locals := 0 } : Room)).cells (({ frames := 0, cells := 0, slots := 0, locals := 0 } : Room)).slots) _
  refine Goes.via (B := s₁.setTop (mkF m 0 #[.val (.ref a1)] [])) (fun t k => castTop (own_ef5 m a1) k) ?_
  refine Goes.via (B := s₁.setTop (mkF m 1 #[.val (.ref a1)] [(.ref a1)])) (fun t k => XS.aloadN X0.here hx rfl (hb hby own_d_prog_5_method_6_code_0) rfl rfl k) ?_
  obtain ⟨T1, X1, e1, st1⟩ := getF X0 hx hZ hown (host := "") (Or.inl (hw _ (List.mem_of_getElem? (i := 20) rfl))) Via.refl e0 F_1 (g := (mkF m 1 #[.val (.ref a1)] [(.ref a1)])) rfl rfl (hb hby own_d_prog_5_method_6_code_1)
  refine Goes.via (B := T1.setTop (mkF m 4 #[.val (.ref a1)] [(.long x1)])) (fun t k => st1 _ k) ?_
  exact finJ (Q := (own_Q5 Z a1 x1 h0 n0)) (F := FrameEnd) (C := (({ frames := 0, cells := 0, slots := 0, locals := 0 } : Room)).cells) (S := (({ frames := 0, cells := 0, slots := 0, locals := 0 } : Room)).slots) X1 hx Bd.returns (hb hby own_d_prog_5_method_6_code_4) e1 ⟨rfl, N0, rfl⟩ (lvN X1 hlk (by decide) (by decide))
theorem own_pn1 : plainName "java/lang/Enum" = true := by first | (simp [plainName, overriddenIn]; done) | decide +kernel
theorem own_d_jdk_37_method_2_code_0 : decode jdk_37_method_2_code 0 = .ok (.aload_n 0, 1) := by decide +kernel
theorem own_d_jdk_37_method_2_code_1 : decode jdk_37_method_2_code 1 = .ok (.getfield 7, 3) := by decide +kernel
theorem own_d_jdk_37_method_2_code_4 : decode jdk_37_method_2_code 4 = .ok (.ireturn, 1) := by decide +kernel
theorem own_ef6 (m : MethodId) (x0 : Addr)  : entryFrame m #[(.ref x0)] 1 = mkF m 0 #[.val (.ref x0)] [] := by first | (simp [entryFrame, mkF, argsToLocals, Value.category]; done) | rfl
abbrev own_Q6 (Z : State) (a1 : Addr) (x1 : Int32) (h0 : Heap) (n0 : Nat) (v : Option Value) (h : Heap) (L : List Loc) : Prop := v = some (.int x1) ∧ Fr n0 L ∧ h = h0
set_option maxRecDepth 65536 in
set_option maxHeartbeats 40000000 in
theorem own_m6 (l : Launch) (Z : State) (a0 : Array Value) (hw : ∀ d ∈ tables_1, d.before a0 Z = true) (ws : List Jvm.Cond) (a1 : Addr) (x1 : Int32) (h0 : Heap) (n0 : Nat) (O0 : Old Z n0 h0) (O_1 : Fld Z Z.heap a1 "java/lang/Enum" "ordinal" "I" (.int x1)) :
    Ctr l Z (⟨"java/lang/Enum", "ordinal", "()I"⟩ : MethodName) jdk_37_method_2_code 1 (some .int) ({ frames := 0, cells := 0, slots := 0, locals := 0 } : Room) #[(.ref a1)] h0 (own_Q6 Z a1 x1 h0 n0) ws := by
  refine MetFree.of_bodySF (plainFor_of_name own_pn1) hisR ?_
  intro p e s m args below meth c s₁ Bd hml0 hP hK
  obtain ⟨rfl, hZ, hh⟩ := hP
  have hx := Bd.exec
  have hby := Bd.bytes
  have hlk : meth.locks = false := Bd.notSynchronized
  have hml : c.maxLocals = 1 := hml0
  have hown : s.vm.findClass "java/lang/Enum" = some m.cls := findClass_of_methodNamed Bd.named
  have hnm := (name_of_methodNamed Bd.named Bd.method).1
  have X0 : Stand p l e ({ frames := 0, cells := 0, slots := 0, locals := 0 } : Room) s m #[(.ref a1)] below meth c s₁ [] 0 0 := Stand.of_body Bd
  have e0 : s₁.heap = h0 := by rw [← hh, Bd.state]; rfl
  have N0 := Fr.nil n0
  show Goes p.tables e below (fun t o => ∃ v L, o = .returned v ∧ (own_Q6 Z a1 x1 h0 n0) v t.heap L ∧ FrameEnd s o t L (({ frames := 0, cells := 0, slots := 0, locals := 0 } : Room)).cells (({ frames := 0, cells := 0, slots := 0, locals := 0 } : Room)).slots) _
  refine Goes.via (B := s₁.setTop (mkF m 0 #[.val (.ref a1)] [])) (fun t k => castTop (own_ef6 m a1) k) ?_
  refine Goes.via (B := s₁.setTop (mkF m 1 #[.val (.ref a1)] [(.ref a1)])) (fun t k => XS.aloadN X0.here hx rfl (hb hby own_d_jdk_37_method_2_code_0) rfl rfl k) ?_
  obtain ⟨T1, X1, e1, st1⟩ := getF X0 hx hZ hown (host := "") (Or.inl (hw _ (List.mem_of_getElem? (i := 50) rfl))) Via.refl e0 (O_1.ext O0.2) (g := (mkF m 1 #[.val (.ref a1)] [(.ref a1)])) rfl rfl (hb hby own_d_jdk_37_method_2_code_1)
  refine Goes.via (B := T1.setTop (mkF m 4 #[.val (.ref a1)] [(.int x1)])) (fun t k => st1 _ k) ?_
  exact finI (Q := (own_Q6 Z a1 x1 h0 n0)) (F := FrameEnd) (C := (({ frames := 0, cells := 0, slots := 0, locals := 0 } : Room)).cells) (S := (({ frames := 0, cells := 0, slots := 0, locals := 0 } : Room)).slots) X1 hx Bd.returns (hb hby own_d_jdk_37_method_2_code_4) e1 ⟨rfl, N0, rfl⟩ (lvN X1 hlk (by decide) (by decide))
theorem own_d_jdk_29_method_70_code_0 : decode jdk_29_method_70_code 0 = .ok (.lload_n 0, 1) := by decide +kernel
theorem own_d_jdk_29_method_70_code_1 : decode jdk_29_method_70_code 1 = .ok (.lload_n 2, 1) := by decide +kernel
theorem own_d_jdk_29_method_70_code_2 : decode jdk_29_method_70_code 2 = .ok (.lcmp, 1) := by decide +kernel
theorem own_d_jdk_29_method_70_code_3 : decode jdk_29_method_70_code 3 = .ok (.ifCond .gt 7, 3) := by decide +kernel
theorem own_d_jdk_29_method_70_code_10 : decode jdk_29_method_70_code 10 = .ok (.lload_n 2, 1) := by decide +kernel
theorem own_d_jdk_29_method_70_code_11 : decode jdk_29_method_70_code 11 = .ok (.lreturn, 1) := by decide +kernel
theorem own_d_jdk_29_method_70_code_6 : decode jdk_29_method_70_code 6 = .ok (.lload_n 0, 1) := by decide +kernel
theorem own_d_jdk_29_method_70_code_7 : decode jdk_29_method_70_code 7 = .ok (.goto 4, 3) := by decide +kernel
theorem own_ef7 (m : MethodId) (x0 : Int64) (x1 : Int64)  : entryFrame m #[(.long x0), (.long x1)] 4 = mkF m 0 #[.val (.long x0), .second, .val (.long x1), .second] [] := by first | (simp [entryFrame, mkF, argsToLocals, Value.category]; done) | rfl
abbrev own_Q7 (Z : State) (x1 : Int64) (x2 : Int64) (h0 : Heap) (n0 : Nat) (v : Option Value) (h : Heap) (L : List Loc) : Prop := ∃ r : Int64, v = some (.long r) ∧ Fr n0 L ∧ h = h0 ∧ r = if x2 < x1 then x2 else x1
set_option maxRecDepth 65536 in
set_option maxHeartbeats 40000000 in
theorem own_m7 (l : Launch) (Z : State) (a0 : Array Value) (hw : ∀ d ∈ tables_1, d.before a0 Z = true) (ws : List Jvm.Cond) (x1 : Int64) (x2 : Int64) (h0 : Heap) (n0 : Nat) (O0 : Old Z n0 h0) :
    Ctr l Z (⟨"java/lang/Math", "min", "(JJ)J"⟩ : MethodName) jdk_29_method_70_code 4 (some .long) ({ frames := 0, cells := 0, slots := 0, locals := 0 } : Room) #[(.long x1), (.long x2)] h0 (own_Q7 Z x1 x2 h0 n0) ws := by
  refine MetFree.of_bodySF (show plainFor (⟨"java/lang/Math", "min", "(JJ)J"⟩ : MethodName) = true by decide +kernel) hisR ?_
  intro p e s m args below meth c s₁ Bd hml0 hP hK
  obtain ⟨rfl, hZ, hh⟩ := hP
  have hx := Bd.exec
  have hby := Bd.bytes
  have hlk : meth.locks = false := Bd.notSynchronized
  have hml : c.maxLocals = 4 := hml0
  have hown : s.vm.findClass "java/lang/Math" = some m.cls := findClass_of_methodNamed Bd.named
  have hnm := (name_of_methodNamed Bd.named Bd.method).1
  have X0 : Stand p l e ({ frames := 0, cells := 0, slots := 0, locals := 0 } : Room) s m #[(.long x1), (.long x2)] below meth c s₁ [] 0 0 := Stand.of_body Bd
  have e0 : s₁.heap = h0 := by rw [← hh, Bd.state]; rfl
  have N0 := Fr.nil n0
  show Goes p.tables e below (fun t o => ∃ v L, o = .returned v ∧ (own_Q7 Z x1 x2 h0 n0) v t.heap L ∧ FrameEnd s o t L (({ frames := 0, cells := 0, slots := 0, locals := 0 } : Room)).cells (({ frames := 0, cells := 0, slots := 0, locals := 0 } : Room)).slots) _
  refine Goes.via (B := s₁.setTop (mkF m 0 #[.val (.long x1), .second, .val (.long x2), .second] [])) (fun t k => castTop (own_ef7 m x1 x2) k) ?_
  refine Goes.via (B := s₁.setTop (mkF m 1 #[.val (.long x1), .second, .val (.long x2), .second] [(.long x1)])) (fun t k => XS.lloadN X0.here hx rfl (hb hby own_d_jdk_29_method_70_code_0) rfl k) ?_
  refine Goes.via (B := s₁.setTop (mkF m 2 #[.val (.long x1), .second, .val (.long x2), .second] [(.long x2), (.long x1)])) (fun t k => XS.lloadN X0.here hx rfl (hb hby own_d_jdk_29_method_70_code_1) rfl k) ?_
  refine Goes.via (B := s₁.setTop (mkF m 3 #[.val (.long x1), .second, .val (.long x2), .second] [(.int (XT.cmpL x1 x2))])) (fun t k => XT.lcmp X0.here hx rfl (hb hby own_d_jdk_29_method_70_code_2) rfl k) ?_
  by_cases b1 : x2 < x1
  · refine Goes.via (B := s₁.setTop (mkF m 10 #[.val (.long x1), .second, .val (.long x2), .second] [])) (fun t k => XS.ifYes X0.here hx rfl (pc0 := 3) (pc' := 10) rfl (hb hby own_d_jdk_29_method_70_code_3) rfl (XT.ll_gt_t b1) (by decide) (by decide) k) ?_
    refine Goes.via (B := s₁.setTop (mkF m 11 #[.val (.long x1), .second, .val (.long x2), .second] [(.long x2)])) (fun t k => XS.lloadN X0.here hx rfl (hb hby own_d_jdk_29_method_70_code_10) rfl k) ?_
    exact finJ (Q := (own_Q7 Z x1 x2 h0 n0)) (F := FrameEnd) (C := (({ frames := 0, cells := 0, slots := 0, locals := 0 } : Room)).cells) (S := (({ frames := 0, cells := 0, slots := 0, locals := 0 } : Room)).slots) X0 hx Bd.returns (hb hby own_d_jdk_29_method_70_code_11) e0 ⟨x2, rfl, N0, rfl, (if_pos b1).symm⟩ (lvN X0 hlk (by decide) (by decide))
  · refine Goes.via (B := s₁.setTop (mkF m 6 #[.val (.long x1), .second, .val (.long x2), .second] [])) (fun t k => XS.ifNo X0.here hx rfl (hb hby own_d_jdk_29_method_70_code_3) rfl (XT.ll_gt_f b1) k) ?_
    refine Goes.via (B := s₁.setTop (mkF m 7 #[.val (.long x1), .second, .val (.long x2), .second] [(.long x1)])) (fun t k => XS.lloadN X0.here hx rfl (hb hby own_d_jdk_29_method_70_code_6) rfl k) ?_
    refine Goes.via (B := s₁.setTop (mkF m 11 #[.val (.long x1), .second, .val (.long x2), .second] [(.long x1)])) (fun t k => XS.goto X0.here hx rfl (pc0 := 7) (pc' := 11) rfl (hb hby own_d_jdk_29_method_70_code_7) (by decide) (by decide) k) ?_
    exact finJ (Q := (own_Q7 Z x1 x2 h0 n0)) (F := FrameEnd) (C := (({ frames := 0, cells := 0, slots := 0, locals := 0 } : Room)).cells) (S := (({ frames := 0, cells := 0, slots := 0, locals := 0 } : Room)).slots) X0 hx Bd.returns (hb hby own_d_jdk_29_method_70_code_11) e0 ⟨x1, rfl, N0, rfl, (if_neg b1).symm⟩ (lvN X0 hlk (by decide) (by decide))
theorem own_d_prog_5_method_7_code_0 : decode prog_5_method_7_code 0 = .ok (.lload_n 1, 1) := by decide +kernel
theorem own_d_prog_5_method_7_code_1 : decode prog_5_method_7_code 1 = .ok (.lconst 0, 1) := by decide +kernel
theorem own_d_prog_5_method_7_code_2 : decode prog_5_method_7_code 2 = .ok (.lcmp, 1) := by decide +kernel
theorem own_d_prog_5_method_7_code_3 : decode prog_5_method_7_code 3 = .ok (.ifCond .lt 9, 3) := by decide +kernel
theorem own_d_prog_5_method_7_code_6 : decode prog_5_method_7_code 6 = .ok (.lload_n 3, 1) := by decide +kernel
theorem own_d_prog_5_method_7_code_7 : decode prog_5_method_7_code 7 = .ok (.lconst 0, 1) := by decide +kernel
theorem own_d_prog_5_method_7_code_8 : decode prog_5_method_7_code 8 = .ok (.lcmp, 1) := by decide +kernel
theorem own_d_prog_5_method_7_code_9 : decode prog_5_method_7_code 9 = .ok (.ifCond .ge 18, 3) := by decide +kernel
theorem own_d_prog_5_method_7_code_27 : decode prog_5_method_7_code 27 = .ok (.aload_n 0, 1) := by decide +kernel
theorem own_d_prog_5_method_7_code_28 : decode prog_5_method_7_code 28 = .ok (.getfield 7, 3) := by decide +kernel
theorem own_d_prog_5_method_7_code_31 : decode prog_5_method_7_code 31 = .ok (.invokevirtual 44, 3) := by decide +kernel
theorem own_pd1 : parseMethodDescriptor "()I" = some ⟨[], some .int⟩ := by decide +kernel
theorem own_d_prog_5_method_7_code_34 : decode prog_5_method_7_code 34 = .ok (.lookupswitch 26 #[(0, 36), (1, 47)], 26) := by decide +kernel
theorem own_d_prog_5_method_7_code_81 : decode prog_5_method_7_code 81 = .ok (.aload_n 0, 1) := by decide +kernel
theorem own_d_prog_5_method_7_code_82 : decode prog_5_method_7_code 82 = .ok (.getfield 17, 3) := by decide +kernel
theorem own_d_prog_5_method_7_code_85 : decode prog_5_method_7_code 85 = .ok (.lstore 5, 2) := by decide +kernel
theorem own_d_prog_5_method_7_code_87 : decode prog_5_method_7_code 87 = .ok (.lload 5, 2) := by decide +kernel
theorem own_d_prog_5_method_7_code_89 : decode prog_5_method_7_code 89 = .ok (.lload_n 3, 1) := by decide +kernel
theorem own_d_prog_5_method_7_code_90 : decode prog_5_method_7_code 90 = .ok (.invokestatic 59, 3) := by decide +kernel
theorem own_pd2 : parseMethodDescriptor "(JJ)J" = some ⟨[.long, .long], some .long⟩ := by decide +kernel
theorem own_d_prog_5_method_7_code_93 : decode prog_5_method_7_code 93 = .ok (.lreturn, 1) := by decide +kernel
theorem own_ef8 (m : MethodId) (x0 : Addr) (x1 : Int64) (x2 : Int64)  : entryFrame m #[(.ref x0), (.long x1), (.long x2)] 7 = mkF m 0 #[.val (.ref x0), .val (.long x1), .second, .val (.long x2), .second, .unset, .unset] [] := by first | (simp [entryFrame, mkF, argsToLocals, Value.category]; done) | rfl
abbrev own_Q8 (Z : State) (a1 : Addr) (x1 : Int64) (x2 : Int64) (x3 : Int64) (aT : Addr) (h0 : Heap) (n0 : Nat) (v : Option Value) (h : Heap) (L : List Loc) : Prop := ∃ r : Int64, v = some (.long r) ∧ Fr n0 L ∧ h = h0 ∧ r = if x2 < x3 then x2 else x3
set_option maxRecDepth 65536 in
set_option maxHeartbeats 40000000 in
theorem own_m8 (l : Launch) (Z : State) (a0 : Array Value) (hw : ∀ d ∈ tables_1, d.before a0 Z = true) (ws : List Jvm.Cond) (a1 : Addr) (x1 : Int64) (x2 : Int64) (x3 : Int64) (aT : Addr) (h0 : Heap) (n0 : Nat) (O0 : Old Z n0 h0) (hc1 : ¬ x1 < (0 : Int64)) (hc2 : ¬ x2 < (0 : Int64)) (O_1 : Exa Z Z.heap aT "com/example/baskit/baskit/engine/Discount$Type") (O_2 : Fld Z Z.heap aT "java/lang/Enum" "ordinal" "I" (.int (1 : Int32))) (F_1 : Fld Z h0 a1 "com/example/baskit/baskit/engine/Discount" "type" "Lcom/example/baskit/baskit/engine/Discount$Type;" (.ref aT)) (F_2 : Fld Z h0 a1 "com/example/baskit/baskit/engine/Discount" "amountOff" "J" (.long x3)) :
    Ctr l Z (⟨"com/example/baskit/baskit/engine/Discount", "discountOn", "(JJ)J"⟩ : MethodName) prog_5_method_7_code 7 (some .long) ({ frames := 1, cells := 0, slots := 0, locals := 15 } : Room) #[(.ref a1), (.long x1), (.long x2)] h0 (own_Q8 Z a1 x1 x2 x3 aT h0 n0) ws := by
  refine MetFree.of_bodySF (plainFor_of_name own_pn0) hisR ?_
  intro p e s m args below meth c s₁ Bd hml0 hP hK
  obtain ⟨rfl, hZ, hh⟩ := hP
  have hx := Bd.exec
  have hby := Bd.bytes
  have hlk : meth.locks = false := Bd.notSynchronized
  have hml : c.maxLocals = 7 := hml0
  have hown : s.vm.findClass "com/example/baskit/baskit/engine/Discount" = some m.cls := findClass_of_methodNamed Bd.named
  have hnm := (name_of_methodNamed Bd.named Bd.method).1
  have X0 : Stand p l e ({ frames := 1, cells := 0, slots := 0, locals := 15 } : Room) s m #[(.ref a1), (.long x1), (.long x2)] below meth c s₁ [] 0 0 := Stand.of_body Bd
  have e0 : s₁.heap = h0 := by rw [← hh, Bd.state]; rfl
  have N0 := Fr.nil n0
  show Goes p.tables e below (fun t o => ∃ v L, o = .returned v ∧ (own_Q8 Z a1 x1 x2 x3 aT h0 n0) v t.heap L ∧ FrameEnd s o t L (({ frames := 1, cells := 0, slots := 0, locals := 15 } : Room)).cells (({ frames := 1, cells := 0, slots := 0, locals := 15 } : Room)).slots) _
  refine Goes.via (B := s₁.setTop (mkF m 0 #[.val (.ref a1), .val (.long x1), .second, .val (.long x2), .second, .unset, .unset] [])) (fun t k => castTop (own_ef8 m a1 x1 x2) k) ?_
  refine Goes.via (B := s₁.setTop (mkF m 1 #[.val (.ref a1), .val (.long x1), .second, .val (.long x2), .second, .unset, .unset] [(.long x1)])) (fun t k => XS.lloadN X0.here hx rfl (hb hby own_d_prog_5_method_7_code_0) rfl k) ?_
  refine Goes.via (B := s₁.setTop (mkF m 2 #[.val (.ref a1), .val (.long x1), .second, .val (.long x2), .second, .unset, .unset] [(.long (0 : Int64)), (.long x1)])) (fun t k => XS.lconst X0.here hx rfl (hb hby own_d_prog_5_method_7_code_1) k) ?_
  refine Goes.via (B := s₁.setTop (mkF m 3 #[.val (.ref a1), .val (.long x1), .second, .val (.long x2), .second, .unset, .unset] [(.int (XT.cmpL x1 (0 : Int64)))])) (fun t k => XT.lcmp X0.here hx rfl (hb hby own_d_prog_5_method_7_code_2) rfl k) ?_
  refine Goes.via (B := s₁.setTop (mkF m 6 #[.val (.ref a1), .val (.long x1), .second, .val (.long x2), .second, .unset, .unset] [])) (fun t k => XS.ifNo X0.here hx rfl (hb hby own_d_prog_5_method_7_code_3) rfl (XT.ll_lt_f hc1) k) ?_
  refine Goes.via (B := s₁.setTop (mkF m 7 #[.val (.ref a1), .val (.long x1), .second, .val (.long x2), .second, .unset, .unset] [(.long x2)])) (fun t k => XS.lloadN X0.here hx rfl (hb hby own_d_prog_5_method_7_code_6) rfl k) ?_
  refine Goes.via (B := s₁.setTop (mkF m 8 #[.val (.ref a1), .val (.long x1), .second, .val (.long x2), .second, .unset, .unset] [(.long (0 : Int64)), (.long x2)])) (fun t k => XS.lconst X0.here hx rfl (hb hby own_d_prog_5_method_7_code_7) k) ?_
  refine Goes.via (B := s₁.setTop (mkF m 9 #[.val (.ref a1), .val (.long x1), .second, .val (.long x2), .second, .unset, .unset] [(.int (XT.cmpL x2 (0 : Int64)))])) (fun t k => XT.lcmp X0.here hx rfl (hb hby own_d_prog_5_method_7_code_8) rfl k) ?_
  refine Goes.via (B := s₁.setTop (mkF m 27 #[.val (.ref a1), .val (.long x1), .second, .val (.long x2), .second, .unset, .unset] [])) (fun t k => XS.ifYes X0.here hx rfl (pc0 := 9) (pc' := 27) rfl (hb hby own_d_prog_5_method_7_code_9) rfl (XT.ll_ge_t hc2) (by decide) (by decide) k) ?_
  refine Goes.via (B := s₁.setTop (mkF m 28 #[.val (.ref a1), .val (.long x1), .second, .val (.long x2), .second, .unset, .unset] [(.ref a1)])) (fun t k => XS.aloadN X0.here hx rfl (hb hby own_d_prog_5_method_7_code_27) rfl rfl k) ?_
  obtain ⟨T1, X1, e1, st1⟩ := getF X0 hx hZ hown (host := "") (Or.inl (hw _ (List.mem_of_getElem? (i := 16) rfl))) Via.refl e0 F_1 (g := (mkF m 28 #[.val (.ref a1), .val (.long x1), .second, .val (.long x2), .second, .unset, .unset] [(.ref a1)])) rfl rfl (hb hby own_d_prog_5_method_7_code_28)
  refine Goes.via (B := T1.setTop (mkF m 31 #[.val (.ref a1), .val (.long x1), .second, .val (.long x2), .second, .unset, .unset] [(.ref aT)])) (fun t k => st1 _ k) ?_
  obtain ⟨_, T2, L2, X2, ⟨rfl, M2, K2⟩, st2⟩ := callVirtUp X1 hx hZ hown (hw _ (List.mem_of_getElem? (i := 43) rfl)) (hw _ (List.mem_of_getElem? (i := 44) rfl)) (hw _ (List.mem_of_getElem? (i := 45) rfl)) (hw _ (List.mem_of_getElem? (i := 47) rfl)) (hw _ (List.mem_of_getElem? (i := 46) rfl)) (hw _ (List.mem_of_getElem? (i := 48) rfl)) (hw _ (List.mem_of_getElem? (i := 49) rfl)) (by decide) (argsL := []) (rest := []) (own_m6 l Z a0 hw [] aT (1 : Int32) h0 n0 O0 O_2) e1 (O_1.ext O0.2) (lenOf own_pd1 rfl) (pc := 31) (Ls := #[.val (.ref a1), .val (.long x1), .second, .val (.long x2), .second, .unset, .unset]) (st := [(.ref aT)]) rfl (by rw [hml]; rfl) (hb hby own_d_prog_5_method_7_code_31) (W := 0) (Nat.le_of_eq rfl) (by decide) (by decide) (by decide) (by decide)
  have N2 := Fr.app N0 M2
  refine Goes.via (B := T2.setTop (mkF m 34 #[.val (.ref a1), .val (.long x1), .second, .val (.long x2), .second, .unset, .unset] [(.int (1 : Int32))])) (fun t k => st2 _ k) ?_
  refine Goes.via (B := T2.setTop (mkF m 81 #[.val (.ref a1), .val (.long x1), .second, .val (.long x2), .second, .unset, .unset] [])) (fun t k => X2.lookupswitchHit hx (g := (mkF m 34 #[.val (.ref a1), .val (.long x1), .second, .val (.long x2), .second, .unset, .unset] [(.int (1 : Int32))])) rfl rfl (hb hby own_d_prog_5_method_7_code_34) (by decide) (a := 1) (off := 47) (by decide) (by show (0 : Int) ≤ ((34 : Nat) : Int) + 47; decide) t k) ?_
  refine Goes.via (B := T2.setTop (mkF m 82 #[.val (.ref a1), .val (.long x1), .second, .val (.long x2), .second, .unset, .unset] [(.ref a1)])) (fun t k => XS.aloadN X2.here hx rfl (hb hby own_d_prog_5_method_7_code_81) rfl rfl k) ?_
  obtain ⟨T3, X3, e3, st3⟩ := getF X2 hx hZ hown (host := "") (Or.inl (hw _ (List.mem_of_getElem? (i := 20) rfl))) Via.refl K2 F_2 (g := (mkF m 82 #[.val (.ref a1), .val (.long x1), .second, .val (.long x2), .second, .unset, .unset] [(.ref a1)])) rfl rfl (hb hby own_d_prog_5_method_7_code_82)
  refine Goes.via (B := T3.setTop (mkF m 85 #[.val (.ref a1), .val (.long x1), .second, .val (.long x2), .second, .unset, .unset] [(.long x3)])) (fun t k => st3 _ k) ?_
  refine Goes.via (B := T3.setTop (mkF m 87 #[.val (.ref a1), .val (.long x1), .second, .val (.long x2), .second, .val (.long x3), .second] [])) (fun t k => XS.lstore X3.here hx rfl (hb hby own_d_prog_5_method_7_code_85) rfl (l' := #[.val (.ref a1), .val (.long x1), .second, .val (.long x2), .second, .val (.long x3), .second]) rfl k) ?_
  refine Goes.via (B := T3.setTop (mkF m 89 #[.val (.ref a1), .val (.long x1), .second, .val (.long x2), .second, .val (.long x3), .second] [(.long x3)])) (fun t k => XS.lload X3.here hx rfl (hb hby own_d_prog_5_method_7_code_87) rfl k) ?_
  refine Goes.via (B := T3.setTop (mkF m 90 #[.val (.ref a1), .val (.long x1), .second, .val (.long x2), .second, .val (.long x3), .second] [(.long x2), (.long x3)])) (fun t k => XS.lloadN X3.here hx rfl (hb hby own_d_prog_5_method_7_code_89) rfl k) ?_
  obtain ⟨_, T4, L4, X4, ⟨r4, rfl, M4, K4, p4_0⟩, st4⟩ := callStatic X3 hx hZ hown (hw _ (List.mem_of_getElem? (i := 52) rfl)) (hw _ (List.mem_of_getElem? (i := 53) rfl)) (hw _ (List.mem_of_getElem? (i := 54) rfl)) (hw _ (List.mem_of_getElem? (i := 55) rfl)) (by decide) (argsL := [(.long x3), (.long x2)]) (rest := []) (own_m7 l Z a0 hw [] x3 x2 h0 n0 O0 ) e3 (lenOf own_pd2 rfl) (pc := 90) (Ls := #[.val (.ref a1), .val (.long x1), .second, .val (.long x2), .second, .val (.long x3), .second]) (st := [(.long x2), (.long x3)]) rfl (by rw [hml]; rfl) (hb hby own_d_prog_5_method_7_code_90) (W := 0) (Nat.le_of_eq rfl) (by decide) (by decide) (by decide) (by decide)
  have N4 := Fr.app N2 M4
  refine Goes.via (B := T4.setTop (mkF m 93 #[.val (.ref a1), .val (.long x1), .second, .val (.long x2), .second, .val (.long x3), .second] [(.long r4)])) (fun t k => st4 _ k) ?_
  exact finJ (Q := (own_Q8 Z a1 x1 x2 x3 aT h0 n0)) (F := FrameEnd) (C := (({ frames := 1, cells := 0, slots := 0, locals := 15 } : Room)).cells) (S := (({ frames := 1, cells := 0, slots := 0, locals := 15 } : Room)).slots) X4 hx Bd.returns (hb hby own_d_prog_5_method_7_code_93) K4 ⟨r4, rfl, N4, rfl, p4_0⟩ (lvN X4 hlk (by decide) (by decide))
theorem own_pn2 : plainName "com/example/baskit/baskit/engine/DiscountAmountPinLaw" = true := by first | (simp [plainName, overriddenIn]; done) | decide +kernel
theorem own_pd3 : parseMethodDescriptor "(J)Lcom/example/baskit/baskit/engine/Discount;" = some ⟨[.long], some (.object "com/example/baskit/baskit/engine/Discount")⟩ := by decide +kernel
theorem own_pd4 : parseMethodDescriptor "()Lcom/example/baskit/baskit/engine/Discount$Type;" = some ⟨[], some (.object "com/example/baskit/baskit/engine/Discount$Type")⟩ := by decide +kernel
theorem own_pd5 : parseMethodDescriptor "()Lcom/example/baskit/baskit/engine/PercentOff;" = some ⟨[], some (.object "com/example/baskit/baskit/engine/PercentOff")⟩ := by decide +kernel
theorem own_pd6 : parseMethodDescriptor "()J" = some ⟨[], some .long⟩ := by decide +kernel
theorem own_ef9 (m : MethodId) (x0 : Int64) (x1 : Int64) (x2 : Int64)  : entryFrame m #[(.long x0), (.long x1), (.long x2)] maxLocals = mkF m 0 #[.val (.long x0), .second, .val (.long x1), .second, .val (.long x2), .second, .unset, .unset, .unset, .unset, .unset, .unset, .unset, .unset, .unset] [] := by first | (simp [entryFrame, mkF, argsToLocals, Value.category, maxLocals]; done) | rfl
abbrev own_Q9 (Z : State) (x1 : Int64) (x2 : Int64) (x3 : Int64) (aT : Addr) (h0 : Heap) (n0 : Nat) (v : Option Value) (h : Heap) (L : List Loc) : Prop := v = some (.int (1 : Int32)) ∧ Fr n0 L ∧ True
set_option maxRecDepth 65536 in
set_option maxHeartbeats 40000000 in
theorem own_m9 (l : Launch) (Z : State) (a0 : Array Value) (hw : ∀ d ∈ tables_1, d.before a0 Z = true) (ws : List Jvm.Cond) (x1 : Int64) (x2 : Int64) (x3 : Int64) (aT : Addr) (h0 : Heap) (n0 : Nat) (O0 : Old Z n0 h0) (O_1 : Sta Z Z.heap "com/example/baskit/baskit/engine/Discount$Type" "AMOUNT" "Lcom/example/baskit/baskit/engine/Discount$Type;" (.ref aT)) (O_2 : Exa Z Z.heap aT "com/example/baskit/baskit/engine/Discount$Type") (O_3 : Fld Z Z.heap aT "java/lang/Enum" "ordinal" "I" (.int (1 : Int32))) :
    Ctr l Z x code maxLocals ret room_1 #[(.long x1), (.long x2), (.long x3)] h0 (own_Q9 Z x1 x2 x3 aT h0 n0) ws := by
  refine MetFree.of_bodySF (plainFor_of_name own_pn2) hisR ?_
  intro p e s m args below meth c s₁ Bd hml0 hP hK
  obtain ⟨rfl, hZ, hh⟩ := hP
  have hx := Bd.exec
  have hby := Bd.bytes
  have hlk : meth.locks = false := Bd.notSynchronized
  have hml : c.maxLocals = 15 := hml0
  have hown : s.vm.findClass "com/example/baskit/baskit/engine/DiscountAmountPinLaw" = some m.cls := findClass_of_methodNamed Bd.named
  have hnm := (name_of_methodNamed Bd.named Bd.method).1
  have X0 : Stand p l e room_1 s m #[(.long x1), (.long x2), (.long x3)] below meth c s₁ [] 0 0 := Stand.of_body Bd
  have e0 : s₁.heap = h0 := by rw [← hh, Bd.state]; rfl
  have N0 := Fr.nil n0
  show Goes p.tables e below (fun t o => ∃ v L, o = .returned v ∧ (own_Q9 Z x1 x2 x3 aT h0 n0) v t.heap L ∧ FrameEnd s o t L (room_1).cells (room_1).slots) _
  refine Goes.via (B := s₁.setTop (mkF m 0 #[.val (.long x1), .second, .val (.long x2), .second, .val (.long x3), .second, .unset, .unset, .unset, .unset, .unset, .unset, .unset, .unset, .unset] [])) (fun t k => castTop (own_ef9 m x1 x2 x3) k) ?_
  refine Goes.via (B := s₁.setTop (mkF m 1 #[.val (.long x1), .second, .val (.long x2), .second, .val (.long x3), .second, .unset, .unset, .unset, .unset, .unset, .unset, .unset, .unset, .unset] [(.long x1)])) (fun t k => XS.lloadN X0.here hx rfl (hb hby at_0) rfl k) ?_
  refine Goes.via (B := s₁.setTop (mkF m 4 #[.val (.long x1), .second, .val (.long x2), .second, .val (.long x3), .second, .unset, .unset, .unset, .unset, .unset, .unset, .unset, .unset, .unset] [(.long (9223372036854775807 : Int64)), (.long x1)])) (fun t k => X0.ldc2J hx hown (mvT hZ (hw _ (List.mem_of_getElem? (i := 0) rfl))) rfl (hb hby at_1) k) ?_
  refine Goes.via (B := s₁.setTop (mkF m 5 #[.val (.long x1), .second, .val (.long x2), .second, .val (.long x3), .second, .unset, .unset, .unset, .unset, .unset, .unset, .unset, .unset, .unset] [(.long (x1 &&& (9223372036854775807 : Int64)))])) (fun t k => XS.land X0.here hx rfl (hb hby at_4) rfl k) ?_
  refine Goes.via (B := s₁.setTop (mkF m 7 #[.val (.long x1), .second, .val (.long x2), .second, .val (.long x3), .second, .val (.long (x1 &&& (9223372036854775807 : Int64))), .second, .unset, .unset, .unset, .unset, .unset, .unset, .unset] [])) (fun t k => XS.lstore X0.here hx rfl (hb hby at_5) rfl (l' := #[.val (.long x1), .second, .val (.long x2), .second, .val (.long x3), .second, .val (.long (x1 &&& (9223372036854775807 : Int64))), .second, .unset, .unset, .unset, .unset, .unset, .unset, .unset]) rfl k) ?_
  refine Goes.via (B := s₁.setTop (mkF m 9 #[.val (.long x1), .second, .val (.long x2), .second, .val (.long x3), .second, .val (.long (x1 &&& (9223372036854775807 : Int64))), .second, .unset, .unset, .unset, .unset, .unset, .unset, .unset] [(.long (x1 &&& (9223372036854775807 : Int64)))])) (fun t k => XS.lload X0.here hx rfl (hb hby at_7) rfl k) ?_
  refine Goes.via (B := s₁.setTop (mkF m 10 #[.val (.long x1), .second, .val (.long x2), .second, .val (.long x3), .second, .val (.long (x1 &&& (9223372036854775807 : Int64))), .second, .unset, .unset, .unset, .unset, .unset, .unset, .unset] [(.long (0 : Int64)), (.long (x1 &&& (9223372036854775807 : Int64)))])) (fun t k => XS.lconst X0.here hx rfl (hb hby at_9) k) ?_
  refine Goes.via (B := s₁.setTop (mkF m 11 #[.val (.long x1), .second, .val (.long x2), .second, .val (.long x3), .second, .val (.long (x1 &&& (9223372036854775807 : Int64))), .second, .unset, .unset, .unset, .unset, .unset, .unset, .unset] [(.int (XT.cmpL (x1 &&& (9223372036854775807 : Int64)) (0 : Int64)))])) (fun t k => XT.lcmp X0.here hx rfl (hb hby at_10) rfl k) ?_
  have j1 : ∀ (y1 : Int64) (hy1 : ¬ y1 < (1 : Int64)) , Goes p.tables e below (fun t o => ∃ v L, o = .returned v ∧ (own_Q9 Z x1 x2 x3 aT h0 n0) v t.heap L ∧ FrameEnd s o t L (room_1).cells (room_1).slots) (s₁.setTop (mkF m 17 #[.val (.long x1), .second, .val (.long x2), .second, .val (.long x3), .second, .val (.long y1), .second, .unset, .unset, .unset, .unset, .unset, .unset, .unset] [])) := by
    intro y1 hy1
    refine Goes.via (B := s₁.setTop (mkF m 18 #[.val (.long x1), .second, .val (.long x2), .second, .val (.long x3), .second, .val (.long y1), .second, .unset, .unset, .unset, .unset, .unset, .unset, .unset] [(.long x2)])) (fun t k => XS.lloadN X0.here hx rfl (hb hby at_17) rfl k) ?_
    refine Goes.via (B := s₁.setTop (mkF m 21 #[.val (.long x1), .second, .val (.long x2), .second, .val (.long x3), .second, .val (.long y1), .second, .unset, .unset, .unset, .unset, .unset, .unset, .unset] [(.long (9223372036854775807 : Int64)), (.long x2)])) (fun t k => X0.ldc2J hx hown (mvT hZ (hw _ (List.mem_of_getElem? (i := 0) rfl))) rfl (hb hby at_18) k) ?_
    refine Goes.via (B := s₁.setTop (mkF m 22 #[.val (.long x1), .second, .val (.long x2), .second, .val (.long x3), .second, .val (.long y1), .second, .unset, .unset, .unset, .unset, .unset, .unset, .unset] [(.long (x2 &&& (9223372036854775807 : Int64)))])) (fun t k => XS.land X0.here hx rfl (hb hby at_21) rfl k) ?_
    refine Goes.via (B := s₁.setTop (mkF m 24 #[.val (.long x1), .second, .val (.long x2), .second, .val (.long x3), .second, .val (.long y1), .second, .val (.long (x2 &&& (9223372036854775807 : Int64))), .second, .unset, .unset, .unset, .unset, .unset] [])) (fun t k => XS.lstore X0.here hx rfl (hb hby at_22) rfl (l' := #[.val (.long x1), .second, .val (.long x2), .second, .val (.long x3), .second, .val (.long y1), .second, .val (.long (x2 &&& (9223372036854775807 : Int64))), .second, .unset, .unset, .unset, .unset, .unset]) rfl k) ?_
    refine Goes.via (B := s₁.setTop (mkF m 26 #[.val (.long x1), .second, .val (.long x2), .second, .val (.long x3), .second, .val (.long y1), .second, .val (.long (x2 &&& (9223372036854775807 : Int64))), .second, .unset, .unset, .unset, .unset, .unset] [(.long x3)])) (fun t k => XS.lload X0.here hx rfl (hb hby at_24) rfl k) ?_
    refine Goes.via (B := s₁.setTop (mkF m 29 #[.val (.long x1), .second, .val (.long x2), .second, .val (.long x3), .second, .val (.long y1), .second, .val (.long (x2 &&& (9223372036854775807 : Int64))), .second, .unset, .unset, .unset, .unset, .unset] [(.long (9223372036854775807 : Int64)), (.long x3)])) (fun t k => X0.ldc2J hx hown (mvT hZ (hw _ (List.mem_of_getElem? (i := 0) rfl))) rfl (hb hby at_26) k) ?_
    refine Goes.via (B := s₁.setTop (mkF m 30 #[.val (.long x1), .second, .val (.long x2), .second, .val (.long x3), .second, .val (.long y1), .second, .val (.long (x2 &&& (9223372036854775807 : Int64))), .second, .unset, .unset, .unset, .unset, .unset] [(.long (x3 &&& (9223372036854775807 : Int64)))])) (fun t k => XS.land X0.here hx rfl (hb hby at_29) rfl k) ?_
    refine Goes.via (B := s₁.setTop (mkF m 32 #[.val (.long x1), .second, .val (.long x2), .second, .val (.long x3), .second, .val (.long y1), .second, .val (.long (x2 &&& (9223372036854775807 : Int64))), .second, .val (.long (x3 &&& (9223372036854775807 : Int64))), .second, .unset, .unset, .unset] [])) (fun t k => XS.lstore X0.here hx rfl (hb hby at_30) rfl (l' := #[.val (.long x1), .second, .val (.long x2), .second, .val (.long x3), .second, .val (.long y1), .second, .val (.long (x2 &&& (9223372036854775807 : Int64))), .second, .val (.long (x3 &&& (9223372036854775807 : Int64))), .second, .unset, .unset, .unset]) rfl k) ?_
    suffices J3 : ∀ (y2 : Int64) (y3 : Int64) (hy2 : ¬ y2 < 0) (hy3 : ¬ y3 < 0), Goes p.tables e below (fun t o => ∃ v L, o = .returned v ∧ (own_Q9 Z x1 x2 x3 aT h0 n0) v t.heap L ∧ FrameEnd s o t L (room_1).cells (room_1).slots) (s₁.setTop (mkF m 32 #[.val (.long x1), .second, .val (.long x2), .second, .val (.long x3), .second, .val (.long y1), .second, .val (.long y2), .second, .val (.long y3), .second, .unset, .unset, .unset] [])) by exact J3 (x2 &&& (9223372036854775807 : Int64)) (x3 &&& (9223372036854775807 : Int64)) (own_nn x2) (own_nn x3)
    intro y2 y3 hy2 hy3
    refine Goes.via (B := s₁.setTop (mkF m 34 #[.val (.long x1), .second, .val (.long x2), .second, .val (.long x3), .second, .val (.long y1), .second, .val (.long y2), .second, .val (.long y3), .second, .unset, .unset, .unset] [(.long y1)])) (fun t k => XS.lload X0.here hx rfl (hb hby at_32) rfl k) ?_
    obtain ⟨_, T4, L4, X4, ⟨b4, rfl, M4, K4, z4_0, f4_0, f4_1, f4_2, f4_3⟩, st4⟩ := callStatic X0 hx hZ hown (hw _ (List.mem_of_getElem? (i := 1) rfl)) (hw _ (List.mem_of_getElem? (i := 2) rfl)) (hw _ (List.mem_of_getElem? (i := 3) rfl)) (hw _ (List.mem_of_getElem? (i := 4) rfl)) (by decide) (argsL := [(.long y1)]) (rest := []) (own_m2 l Z a0 hw [] y1 aT h0 n0 O0 hy1 O_1) e0 (lenOf own_pd3 rfl) (pc := 34) (Ls := #[.val (.long x1), .second, .val (.long x2), .second, .val (.long x3), .second, .val (.long y1), .second, .val (.long y2), .second, .val (.long y3), .second, .unset, .unset, .unset]) (st := [(.long y1)]) rfl (by rw [hml]; rfl) (hb hby at_34) (W := 0) (Nat.le_of_eq rfl) (by decide) (by decide) (by decide) (by decide)
    have N4 := Fr.app N0 M4
    have gn4_0 : n0 ≤ b4 := Nat.le_trans (old_le O0) z4_0
    refine Goes.via (B := T4.setTop (mkF m 37 #[.val (.long x1), .second, .val (.long x2), .second, .val (.long x3), .second, .val (.long y1), .second, .val (.long y2), .second, .val (.long y3), .second, .unset, .unset, .unset] [(.ref b4)])) (fun t k => st4 _ k) ?_
    refine Goes.via (B := T4.setTop (mkF m 39 #[.val (.long x1), .second, .val (.long x2), .second, .val (.long x3), .second, .val (.long y1), .second, .val (.long y2), .second, .val (.long y3), .second, .val (.ref b4), .unset, .unset] [])) (fun t k => XS.astore X4.here hx rfl (hb hby at_37) rfl rfl (l' := #[.val (.long x1), .second, .val (.long x2), .second, .val (.long x3), .second, .val (.long y1), .second, .val (.long y2), .second, .val (.long y3), .second, .val (.ref b4), .unset, .unset]) rfl k) ?_
    refine Goes.via (B := T4.setTop (mkF m 41 #[.val (.long x1), .second, .val (.long x2), .second, .val (.long x3), .second, .val (.long y1), .second, .val (.long y2), .second, .val (.long y3), .second, .val (.ref b4), .unset, .unset] [(.long y1)])) (fun t k => XS.lload X4.here hx rfl (hb hby at_39) rfl k) ?_
    refine Goes.via (B := T4.setTop (mkF m 43 #[.val (.long x1), .second, .val (.long x2), .second, .val (.long x3), .second, .val (.long y1), .second, .val (.long y2), .second, .val (.long y3), .second, .val (.ref b4), .unset, .unset] [(.long y3), (.long y1)])) (fun t k => XS.lload X4.here hx rfl (hb hby at_41) rfl k) ?_
    refine Goes.via (B := T4.setTop (mkF m 44 #[.val (.long x1), .second, .val (.long x2), .second, .val (.long x3), .second, .val (.long y1), .second, .val (.long y2), .second, .val (.long y3), .second, .val (.ref b4), .unset, .unset] [(.int (XT.cmpL y1 y3))])) (fun t k => XT.lcmp X4.here hx rfl (hb hby at_43) rfl k) ?_
    have j5 : ∀ (y4 : Int64) (he : y4 = if y3 < y1 then y3 else y1) , Goes p.tables e below (fun t o => ∃ v L, o = .returned v ∧ (own_Q9 Z x1 x2 x3 aT h0 n0) v t.heap L ∧ FrameEnd s o t L (room_1).cells (room_1).slots) (T4.setTop (mkF m 58 #[.val (.long x1), .second, .val (.long x2), .second, .val (.long x3), .second, .val (.long y1), .second, .val (.long y2), .second, .val (.long y3), .second, .val (.ref b4), .val (.long y4), .second] [])) := by
      intro y4 he
      refine Goes.via (B := T4.setTop (mkF m 60 #[.val (.long x1), .second, .val (.long x2), .second, .val (.long x3), .second, .val (.long y1), .second, .val (.long y2), .second, .val (.long y3), .second, .val (.ref b4), .val (.long y4), .second] [(.ref b4)])) (fun t k => XS.aload X4.here hx rfl (hb hby at_58) rfl rfl k) ?_
      obtain ⟨_, T7, L7, X7, ⟨rfl, M7, K7⟩, st7⟩ := callVirt X4 hx hZ hown (hw _ (List.mem_of_getElem? (i := 22) rfl)) (hw _ (List.mem_of_getElem? (i := 23) rfl)) (hw _ (List.mem_of_getElem? (i := 25) rfl)) (notFace_of_selects (args := #[]) (mvT hZ (hw _ (List.mem_of_getElem? (i := 25) rfl)))) (hw _ (List.mem_of_getElem? (i := 24) rfl)) (hw _ (List.mem_of_getElem? (i := 3) rfl)) (hw _ (List.mem_of_getElem? (i := 26) rfl)) (by decide) (argsL := []) (rest := []) (own_m3 l Z a0 hw [] b4 aT T4.heap n0 (O0.keep K4 all0) f4_1) rfl f4_0 (lenOf own_pd4 rfl) (pc := 60) (Ls := #[.val (.long x1), .second, .val (.long x2), .second, .val (.long x3), .second, .val (.long y1), .second, .val (.long y2), .second, .val (.long y3), .second, .val (.ref b4), .val (.long y4), .second]) (st := [(.ref b4)]) rfl (by rw [hml]; rfl) (hb hby at_60) (W := 0) (Nat.le_of_eq rfl) (by decide) (by decide) (by decide) (by decide)
      have N7 := Fr.app N4 M7
      refine Goes.via (B := T7.setTop (mkF m 63 #[.val (.long x1), .second, .val (.long x2), .second, .val (.long x3), .second, .val (.long y1), .second, .val (.long y2), .second, .val (.long y3), .second, .val (.ref b4), .val (.long y4), .second] [(.ref aT)])) (fun t k => st7 _ k) ?_
      obtain ⟨T8, X8, e8, st8⟩ := getS2 X7 hx hZ hown (host := "") (Or.inl (hw _ (List.mem_of_getElem? (i := 27) rfl))) Via.refl K7 (Sta.ext (O0.keep K4 all0).2 O_1) (g := (mkF m 63 #[.val (.long x1), .second, .val (.long x2), .second, .val (.long x3), .second, .val (.long y1), .second, .val (.long y2), .second, .val (.long y3), .second, .val (.ref b4), .val (.long y4), .second] [(.ref aT)])) rfl (hb hby at_63)
      refine Goes.via (B := T8.setTop (mkF m 66 #[.val (.long x1), .second, .val (.long x2), .second, .val (.long x3), .second, .val (.long y1), .second, .val (.long y2), .second, .val (.long y3), .second, .val (.ref b4), .val (.long y4), .second] [(.ref aT), (.ref aT)])) (fun t k => st8 _ k) ?_
      refine Goes.via (B := T8.setTop (mkF m 69 #[.val (.long x1), .second, .val (.long x2), .second, .val (.long x3), .second, .val (.long y1), .second, .val (.long y2), .second, .val (.long y3), .second, .val (.ref b4), .val (.long y4), .second] [])) (fun t k => XT.acmpNo X8.here hx rfl (hb hby at_66) rfl rfl rfl (XT.aa_ne_f rfl) k) ?_
      refine Goes.via (B := T8.setTop (mkF m 71 #[.val (.long x1), .second, .val (.long x2), .second, .val (.long x3), .second, .val (.long y1), .second, .val (.long y2), .second, .val (.long y3), .second, .val (.ref b4), .val (.long y4), .second] [(.ref b4)])) (fun t k => XS.aload X8.here hx rfl (hb hby at_69) rfl rfl k) ?_
      obtain ⟨_, T9, L9, X9, ⟨rfl, M9, K9⟩, st9⟩ := callVirt X8 hx hZ hown (hw _ (List.mem_of_getElem? (i := 28) rfl)) (hw _ (List.mem_of_getElem? (i := 29) rfl)) (hw _ (List.mem_of_getElem? (i := 31) rfl)) (notFace_of_selects (args := #[]) (mvT hZ (hw _ (List.mem_of_getElem? (i := 31) rfl)))) (hw _ (List.mem_of_getElem? (i := 30) rfl)) (hw _ (List.mem_of_getElem? (i := 3) rfl)) (hw _ (List.mem_of_getElem? (i := 32) rfl)) (by decide) (argsL := []) (rest := []) (own_m4 l Z a0 hw [] b4 T4.heap n0 (O0.keep K4 all0) f4_2) e8 f4_0 (lenOf own_pd5 rfl) (pc := 71) (Ls := #[.val (.long x1), .second, .val (.long x2), .second, .val (.long x3), .second, .val (.long y1), .second, .val (.long y2), .second, .val (.long y3), .second, .val (.ref b4), .val (.long y4), .second]) (st := [(.ref b4)]) rfl (by rw [hml]; rfl) (hb hby at_71) (W := 0) (Nat.le_of_eq rfl) (by decide) (by decide) (by decide) (by decide)
      have N9 := Fr.app N7 M9
      refine Goes.via (B := T9.setTop (mkF m 74 #[.val (.long x1), .second, .val (.long x2), .second, .val (.long x3), .second, .val (.long y1), .second, .val (.long y2), .second, .val (.long y3), .second, .val (.ref b4), .val (.long y4), .second] [.null])) (fun t k => st9 _ k) ?_
      refine Goes.via (B := T9.setTop (mkF m 77 #[.val (.long x1), .second, .val (.long x2), .second, .val (.long x3), .second, .val (.long y1), .second, .val (.long y2), .second, .val (.long y3), .second, .val (.ref b4), .val (.long y4), .second] [])) (fun t k => XS.ifnonnullNo X9.here hx rfl (hb hby at_74) rfl k) ?_
      refine Goes.via (B := T9.setTop (mkF m 79 #[.val (.long x1), .second, .val (.long x2), .second, .val (.long x3), .second, .val (.long y1), .second, .val (.long y2), .second, .val (.long y3), .second, .val (.ref b4), .val (.long y4), .second] [(.ref b4)])) (fun t k => XS.aload X9.here hx rfl (hb hby at_77) rfl rfl k) ?_
      obtain ⟨_, T10, L10, X10, ⟨rfl, M10, K10⟩, st10⟩ := callVirt X9 hx hZ hown (hw _ (List.mem_of_getElem? (i := 33) rfl)) (hw _ (List.mem_of_getElem? (i := 34) rfl)) (hw _ (List.mem_of_getElem? (i := 36) rfl)) (notFace_of_selects (args := #[]) (mvT hZ (hw _ (List.mem_of_getElem? (i := 36) rfl)))) (hw _ (List.mem_of_getElem? (i := 35) rfl)) (hw _ (List.mem_of_getElem? (i := 3) rfl)) (hw _ (List.mem_of_getElem? (i := 37) rfl)) (by decide) (argsL := []) (rest := []) (own_m5 l Z a0 hw [] b4 y1 T4.heap n0 (O0.keep K4 all0) f4_3) K9 f4_0 (lenOf own_pd6 rfl) (pc := 79) (Ls := #[.val (.long x1), .second, .val (.long x2), .second, .val (.long x3), .second, .val (.long y1), .second, .val (.long y2), .second, .val (.long y3), .second, .val (.ref b4), .val (.long y4), .second]) (st := [(.ref b4)]) rfl (by rw [hml]; rfl) (hb hby at_79) (W := 0) (Nat.le_of_eq rfl) (by decide) (by decide) (by decide) (by decide)
      have N10 := Fr.app N9 M10
      refine Goes.via (B := T10.setTop (mkF m 82 #[.val (.long x1), .second, .val (.long x2), .second, .val (.long x3), .second, .val (.long y1), .second, .val (.long y2), .second, .val (.long y3), .second, .val (.ref b4), .val (.long y4), .second] [(.long y1)])) (fun t k => st10 _ k) ?_
      refine Goes.via (B := T10.setTop (mkF m 84 #[.val (.long x1), .second, .val (.long x2), .second, .val (.long x3), .second, .val (.long y1), .second, .val (.long y2), .second, .val (.long y3), .second, .val (.ref b4), .val (.long y4), .second] [(.long y1), (.long y1)])) (fun t k => XS.lload X10.here hx rfl (hb hby at_82) rfl k) ?_
      refine Goes.via (B := T10.setTop (mkF m 85 #[.val (.long x1), .second, .val (.long x2), .second, .val (.long x3), .second, .val (.long y1), .second, .val (.long y2), .second, .val (.long y3), .second, .val (.ref b4), .val (.long y4), .second] [(.int (XT.cmpL y1 y1))])) (fun t k => XT.lcmp X10.here hx rfl (hb hby at_84) rfl k) ?_
      refine Goes.via (B := T10.setTop (mkF m 88 #[.val (.long x1), .second, .val (.long x2), .second, .val (.long x3), .second, .val (.long y1), .second, .val (.long y2), .second, .val (.long y3), .second, .val (.ref b4), .val (.long y4), .second] [])) (fun t k => XS.ifNo X10.here hx rfl (hb hby at_85) rfl (XT.ll_ne_f rfl) k) ?_
      refine Goes.via (B := T10.setTop (mkF m 90 #[.val (.long x1), .second, .val (.long x2), .second, .val (.long x3), .second, .val (.long y1), .second, .val (.long y2), .second, .val (.long y3), .second, .val (.ref b4), .val (.long y4), .second] [(.ref b4)])) (fun t k => XS.aload X10.here hx rfl (hb hby at_88) rfl rfl k) ?_
      refine Goes.via (B := T10.setTop (mkF m 92 #[.val (.long x1), .second, .val (.long x2), .second, .val (.long x3), .second, .val (.long y1), .second, .val (.long y2), .second, .val (.long y3), .second, .val (.ref b4), .val (.long y4), .second] [(.long y2), (.ref b4)])) (fun t k => XS.lload X10.here hx rfl (hb hby at_90) rfl k) ?_
      refine Goes.via (B := T10.setTop (mkF m 94 #[.val (.long x1), .second, .val (.long x2), .second, .val (.long x3), .second, .val (.long y1), .second, .val (.long y2), .second, .val (.long y3), .second, .val (.ref b4), .val (.long y4), .second] [(.long y3), (.long y2), (.ref b4)])) (fun t k => XS.lload X10.here hx rfl (hb hby at_92) rfl k) ?_
      obtain ⟨_, T11, L11, X11, ⟨r11, rfl, M11, K11, p11_0⟩, st11⟩ := callVirt X10 hx hZ hown (hw _ (List.mem_of_getElem? (i := 38) rfl)) (hw _ (List.mem_of_getElem? (i := 39) rfl)) (hw _ (List.mem_of_getElem? (i := 41) rfl)) (notFace_of_selects (args := #[]) (mvT hZ (hw _ (List.mem_of_getElem? (i := 41) rfl)))) (hw _ (List.mem_of_getElem? (i := 40) rfl)) (hw _ (List.mem_of_getElem? (i := 3) rfl)) (hw _ (List.mem_of_getElem? (i := 42) rfl)) (by decide) (argsL := [(.long y2), (.long y3)]) (rest := []) (own_m8 l Z a0 hw [] b4 y2 y3 y1 aT T4.heap n0 (O0.keep K4 all0) hy2 hy3 O_2 O_3 f4_1 f4_3) K10 f4_0 (lenOf own_pd2 rfl) (pc := 94) (Ls := #[.val (.long x1), .second, .val (.long x2), .second, .val (.long x3), .second, .val (.long y1), .second, .val (.long y2), .second, .val (.long y3), .second, .val (.ref b4), .val (.long y4), .second]) (st := [(.long y3), (.long y2), (.ref b4)]) rfl (by rw [hml]; rfl) (hb hby at_94) (W := 0) (Nat.le_of_eq rfl) (by decide) (by decide) (by decide) (by decide)
      have N11 := Fr.app N10 M11
      refine Goes.via (B := T11.setTop (mkF m 97 #[.val (.long x1), .second, .val (.long x2), .second, .val (.long x3), .second, .val (.long y1), .second, .val (.long y2), .second, .val (.long y3), .second, .val (.ref b4), .val (.long y4), .second] [(.long r11)])) (fun t k => st11 _ k) ?_
      refine Goes.via (B := T11.setTop (mkF m 99 #[.val (.long x1), .second, .val (.long x2), .second, .val (.long x3), .second, .val (.long y1), .second, .val (.long y2), .second, .val (.long y3), .second, .val (.ref b4), .val (.long y4), .second] [(.long y4), (.long r11)])) (fun t k => XS.lload X11.here hx rfl (hb hby at_97) rfl k) ?_
      refine Goes.via (B := T11.setTop (mkF m 100 #[.val (.long x1), .second, .val (.long x2), .second, .val (.long x3), .second, .val (.long y1), .second, .val (.long y2), .second, .val (.long y3), .second, .val (.ref b4), .val (.long y4), .second] [(.int (XT.cmpL r11 y4))])) (fun t k => XT.lcmp X11.here hx rfl (hb hby at_99) rfl k) ?_
      refine Goes.via (B := T11.setTop (mkF m 103 #[.val (.long x1), .second, .val (.long x2), .second, .val (.long x3), .second, .val (.long y1), .second, .val (.long y2), .second, .val (.long y3), .second, .val (.ref b4), .val (.long y4), .second] [])) (fun t k => XS.ifNo X11.here hx rfl (hb hby at_100) rfl (XT.ll_ne_f (p11_0.trans he.symm)) k) ?_
      refine Goes.via (B := T11.setTop (mkF m 104 #[.val (.long x1), .second, .val (.long x2), .second, .val (.long x3), .second, .val (.long y1), .second, .val (.long y2), .second, .val (.long y3), .second, .val (.ref b4), .val (.long y4), .second] [(.int (1 : Int32))])) (fun t k => XS.iconst X11.here hx rfl (hb hby at_103) k) ?_
      refine Goes.via (B := T11.setTop (mkF m 108 #[.val (.long x1), .second, .val (.long x2), .second, .val (.long x3), .second, .val (.long y1), .second, .val (.long y2), .second, .val (.long y3), .second, .val (.ref b4), .val (.long y4), .second] [(.int (1 : Int32))])) (fun t k => XS.goto X11.here hx rfl (pc0 := 104) (pc' := 108) rfl (hb hby at_104) (by decide) (by decide) k) ?_
      exact finN (Q := (own_Q9 Z x1 x2 x3 aT h0 n0)) (F := FrameEnd) (C := (room_1).cells) (S := (room_1).slots) X11 hx (t := .boolean) Bd.returns (by simp) (z' := (1 : Int32)) rfl (hb hby at_108) K11 ⟨rfl, N11, trivial⟩ (lvN X11 hlk (by decide) (by decide))
    by_cases b12 : y3 < y1
    · refine Goes.via (B := T4.setTop (mkF m 54 #[.val (.long x1), .second, .val (.long x2), .second, .val (.long x3), .second, .val (.long y1), .second, .val (.long y2), .second, .val (.long y3), .second, .val (.ref b4), .unset, .unset] [])) (fun t k => XS.ifYes X4.here hx rfl (pc0 := 44) (pc' := 54) rfl (hb hby at_44) rfl (XT.ll_gt_t b12) (by decide) (by decide) k) ?_
      refine Goes.via (B := T4.setTop (mkF m 56 #[.val (.long x1), .second, .val (.long x2), .second, .val (.long x3), .second, .val (.long y1), .second, .val (.long y2), .second, .val (.long y3), .second, .val (.ref b4), .unset, .unset] [(.long y3)])) (fun t k => XS.lload X4.here hx rfl (hb hby at_54) rfl k) ?_
      refine Goes.via (B := T4.setTop (mkF m 58 #[.val (.long x1), .second, .val (.long x2), .second, .val (.long x3), .second, .val (.long y1), .second, .val (.long y2), .second, .val (.long y3), .second, .val (.ref b4), .val (.long y3), .second] [])) (fun t k => XS.lstore X4.here hx rfl (hb hby at_56) rfl (l' := #[.val (.long x1), .second, .val (.long x2), .second, .val (.long x3), .second, .val (.long y1), .second, .val (.long y2), .second, .val (.long y3), .second, .val (.ref b4), .val (.long y3), .second]) rfl k) ?_
      exact j5 y3 (if_pos b12).symm
    · refine Goes.via (B := T4.setTop (mkF m 47 #[.val (.long x1), .second, .val (.long x2), .second, .val (.long x3), .second, .val (.long y1), .second, .val (.long y2), .second, .val (.long y3), .second, .val (.ref b4), .unset, .unset] [])) (fun t k => XS.ifNo X4.here hx rfl (hb hby at_44) rfl (XT.ll_gt_f b12) k) ?_
      refine Goes.via (B := T4.setTop (mkF m 49 #[.val (.long x1), .second, .val (.long x2), .second, .val (.long x3), .second, .val (.long y1), .second, .val (.long y2), .second, .val (.long y3), .second, .val (.ref b4), .unset, .unset] [(.long y1)])) (fun t k => XS.lload X4.here hx rfl (hb hby at_47) rfl k) ?_
      refine Goes.via (B := T4.setTop (mkF m 51 #[.val (.long x1), .second, .val (.long x2), .second, .val (.long x3), .second, .val (.long y1), .second, .val (.long y2), .second, .val (.long y3), .second, .val (.ref b4), .val (.long y1), .second] [])) (fun t k => XS.lstore X4.here hx rfl (hb hby at_49) rfl (l' := #[.val (.long x1), .second, .val (.long x2), .second, .val (.long x3), .second, .val (.long y1), .second, .val (.long y2), .second, .val (.long y3), .second, .val (.ref b4), .val (.long y1), .second]) rfl k) ?_
      refine Goes.via (B := T4.setTop (mkF m 58 #[.val (.long x1), .second, .val (.long x2), .second, .val (.long x3), .second, .val (.long y1), .second, .val (.long y2), .second, .val (.long y3), .second, .val (.ref b4), .val (.long y1), .second] [])) (fun t k => XS.goto X4.here hx rfl (pc0 := 51) (pc' := 58) rfl (hb hby at_51) (by decide) (by decide) k) ?_
      exact j5 y1 (if_neg b12).symm
  by_cases b13 : (x1 &&& (9223372036854775807 : Int64)) = (0 : Int64)
  · refine Goes.via (B := s₁.setTop (mkF m 14 #[.val (.long x1), .second, .val (.long x2), .second, .val (.long x3), .second, .val (.long (x1 &&& (9223372036854775807 : Int64))), .second, .unset, .unset, .unset, .unset, .unset, .unset, .unset] [])) (fun t k => XS.ifNo X0.here hx rfl (hb hby at_11) rfl (XT.ll_ne_f b13) k) ?_
    refine Goes.via (B := s₁.setTop (mkF m 15 #[.val (.long x1), .second, .val (.long x2), .second, .val (.long x3), .second, .val (.long (x1 &&& (9223372036854775807 : Int64))), .second, .unset, .unset, .unset, .unset, .unset, .unset, .unset] [(.long (1 : Int64))])) (fun t k => XS.lconst X0.here hx rfl (hb hby at_14) k) ?_
    refine Goes.via (B := s₁.setTop (mkF m 17 #[.val (.long x1), .second, .val (.long x2), .second, .val (.long x3), .second, .val (.long (1 : Int64)), .second, .unset, .unset, .unset, .unset, .unset, .unset, .unset] [])) (fun t k => XS.lstore X0.here hx rfl (hb hby at_15) rfl (l' := #[.val (.long x1), .second, .val (.long x2), .second, .val (.long x3), .second, .val (.long (1 : Int64)), .second, .unset, .unset, .unset, .unset, .unset, .unset, .unset]) rfl k) ?_
    exact j1 (1 : Int64) (by decide)
  · refine Goes.via (B := s₁.setTop (mkF m 17 #[.val (.long x1), .second, .val (.long x2), .second, .val (.long x3), .second, .val (.long (x1 &&& (9223372036854775807 : Int64))), .second, .unset, .unset, .unset, .unset, .unset, .unset, .unset] [])) (fun t k => XS.ifYes X0.here hx rfl (pc0 := 11) (pc' := 17) rfl (hb hby at_11) rfl (XT.ll_ne_t b13) (by decide) (by decide) k) ?_
    exact j1 (x1 &&& (9223372036854775807 : Int64)) (own_pos _ b13)
set_option maxRecDepth 65536 in
set_option maxHeartbeats 40000000 in
theorem comes_1 {Post : Tables → Env → Array Value → State → Outcome → State → Prop} (hpost : ∀ tb e args s v u, (limb_1_1.after args s (.returned v) u = true ∧ limb_1_2.after args s (.returned v) u = true ∧ True) → FrameEnd s (.returned v) u (Jvm.fieldLocs frame_1_writes args s ++ Jvm.arrayLocs frame_1_arrays args s ++ Jvm.staticLocs frame_1_statics s) 16 128 → Post tb e args s (.returned v) u) :
    ArmFor flags0 classFile x code maxLocals ret World_1 tables_1 room_1 Calls_1 rest_1 Pre_1 Post := by
  intro l hfl _ _ p e ha hc hk s m args below hf hA hF happ hP
  obtain ⟨hcalls, hrest, hpre⟩ := hP
  obtain ⟨-, -, -, hnamed, -, -, -, hat⟩ := (Spec.applies_iff hf).mp happ
  obtain ⟨hg, hn⟩ := and_e (Cond.before_iff.mp (show (Jvm.Cond.and given_1 narrow_1).before args s = true from hpre))
  obtain ⟨g_0, r_0⟩ := and_e hg
  obtain ⟨g_1, r_1⟩ := and_e r_0
  obtain ⟨g_2, r_2⟩ := and_e r_1
  obtain ⟨w0, w1, w2, rfl⟩ : ∃ w0 w1 w2 : Value, args = #[w0, w1, w2] := by
    have hs : args.size = 3 := by simpa [Cond.value, given_1] using g_0
    obtain ⟨L⟩ := args
    match L, hs with
    | [w0, w1, w2], _ => exact ⟨w0, w1, w2, rfl⟩
  have hw := fun d (hd : d ∈ tables_1) => atoms_spec (ws := Jvm.Cond.code x code maxLocals ret :: tables_1) hat d (List.mem_cons_of_mem _ hd)
  have hfit : Fit s := fun {y c} hc i hi => by
    obtain ⟨ha, rfl⟩ := Array.getElem?_eq_some_iff.mp hc
    have q := List.all_eq_true.mp ((Array.all_eq_true_iff_forall_mem.mp hF) _ (Array.getElem_mem ha)) i (List.mem_range.mpr hi)
    simpa [Array.getElem?_eq_getElem hi] using q
  obtain ⟨i0, ei0⟩ := isL_v g_1
  obtain rfl : w0 = (.long i0) := Option.some.inj ei0
  obtain ⟨i1, ei1⟩ := isL_v g_2
  obtain rfl : w1 = (.long i1) := Option.some.inj ei1
  obtain ⟨i2, ei2⟩ := isL_v r_2
  obtain rfl : w2 = (.long i2) := Option.some.inj ei2
  obtain ⟨n_0, q_0⟩ := and_e hn
  have n_1 := q_0
  obtain ⟨st_AMOUNT, es_AMOUNT⟩ := exa_v n_0
  have S_AMOUNT : Sta s s.heap "com/example/baskit/baskit/engine/Discount$Type" "AMOUNT" "Lcom/example/baskit/baskit/engine/Discount$Type;" (.ref st_AMOUNT) := Sta.start es_AMOUNT (Or.inr ⟨(hw _ (List.mem_of_getElem? (i := 8) rfl)), (hw _ (List.mem_of_getElem? (i := 9) rfl))⟩)
  have E_AMOUNT : Exa s s.heap st_AMOUNT "com/example/baskit/baskit/engine/Discount$Type" := Exa.start es_AMOUNT n_0
  have Q_AMOUNT_ordinal : Fld s s.heap st_AMOUNT "java/lang/Enum" "ordinal" "I" (.int (1 : Int32)) := fld_int es_AMOUNT n_1
  obtain ⟨n, o, h1, h2, h3, _, L, rfl, ⟨rfl, N, -⟩, hq⟩ := own_m9 l s _ hw tables_1 i0 i1 i2 st_AMOUNT s.heap s.heap.size (Old.start s) S_AMOUNT E_AMOUNT Q_AMOUNT_ordinal p e ha hc hk s m _ below hf ((Spec.applies_iff_loose hf).mp happ).1 ⟨rfl, State.Warmed39.refl s, rfl⟩ trivial
  refine ⟨n, _, h1, h2, h3, hpost _ _ _ _ _ _ ⟨Cond.after_iff.mpr rfl, Cond.after_iff.mpr (eq_i res_at (Term.int_eval (1)) rfl), trivial⟩ ⟨hq.1, hq.2.1, (hq.2.2.sift fun y hy => Or.inr (N y hy)).mono (by decide) (by decide)⟩⟩
theorem main_1_1 : Claimed_1_1 := comes_1 fun _ _ _ _ _ _ h hF => ⟨h.1, hF⟩
theorem main_1_2 : Claimed_1_2 := comes_1 fun _ _ _ _ _ _ h hF => ⟨h.2.1, hF⟩
end Jvm.Pilot.@@N@@
namespace Jvm.Pilot.@@N@@
open Jvm Jvm.ClassFile Sem Op Lib Jvm.Free Jvm.Stand Jvm.Pilot.@@N@@.Jvm.D
/-! MADE BY PROGRAM (witnessworld.py) out of the Statement's table words and the real class files: 14 classes; the members and pool entries that the words name. The judged class is class 1, her method 1. -/
namespace start1
open Jvm.ClassFile
def u (s : String) : CpInfo := .utf8 (stringToUtf16 s)
/-- a pool by its gaps: so many unusable entries, then the entry; so many at the end -/
def gap : Nat → List CpInfo → List CpInfo
  | 0, r => r
  | n + 1, r => .unusable :: gap n r
def poolList (es : List (Nat × CpInfo)) (last : Nat) : List CpInfo := es.foldr (fun e r => gap e.1 (e.2 :: r)) (gap last [])
def pool (es : List (Nat × CpInfo)) (last : Nat) : Array CpInfo := ⟨poolList es last⟩
def fileOf (pool : Array CpInfo) (this : Nat) (attrs : Array Attribute := #[]) (ms : Array MethodInfo := #[]) (fl : Nat := 33) (sup : Nat := 0) (ifs : Array Nat := #[]) (fds : Array FieldInfo := #[]) : ClassFile where
  minorVersion := 0
  majorVersion := 65
  constantPool := pool
  accessFlags := fl
  thisClass := this
  superClass := sup
  interfaces := ifs
  fields := fds
  methods := ms
  attributes := attrs
def plain (name : String) (sup : Option ClassId) : Class where
  name := name
  kind := .ordinary
  loader := none
  accessFlags := 33
  super := sup
  interfaces := #[]
  cf := none
  fields := #[]
  methods := #[]
  instanceTypes := #[]
  staticTypes := #[]
  resolved := #[]
  callSites := []
  init := .initialized
  statics := none
  mirror := none

def pool0 : Array CpInfo := pool [(5, u "<init>"), (0, u "()V"), (1, .class_ 10), (1, u "java/lang/Object")] 113

def k0c0 : Code := { maxStack := 0, maxLocals := 1, code := object_method_1_code, exceptionTable := #[], attributes := #[] }
def k0m0 : Method := { name := "<init>", desc := "()V", sig := { parameters := [], returnType := none }, accessFlags := 1, code := some k0c0 }
/-- java/lang/Object -/
def k0 : Class := { plain "java/lang/Object" none with
  accessFlags := 33
  interfaces := #[]
  cf := some (fileOf pool0 8 #[] #[{ accessFlags := 1, nameIndex := 5, descriptorIndex := 6, attributes := #[] }] 33 0 #[] #[])
  fields := #[]
  methods := #[k0m0]
  instanceTypes := #[]
  staticTypes := #[]
  resolved := Array.replicate 124 none
  statics := none }

def pool1 : Array CpInfo := pool [(2, .class_ 4), (1, u "java/lang/Object"), (0, u "<init>"), (0, u "()V"), (2, .long 9223372036854775807), (1, .methodref 12 13), (0, .class_ 14), (0, .nameAndType 15 16), (0, u "com/example/baskit/baskit/engine/Discount"), (0, u "amount"), (0, u "(J)Lcom/example/baskit/baskit/engine/Discount;"), (0, .methodref 12 18), (0, .nameAndType 19 20), (0, u "type"), (0, u "()Lcom/example/baskit/baskit/engine/Discount$Type;"), (0, .fieldref 22 23), (0, .class_ 24), (0, .nameAndType 25 26), (0, u "com/example/baskit/baskit/engine/Discount$Type"), (0, u "AMOUNT"), (0, u "Lcom/example/baskit/baskit/engine/Discount$Type;"), (0, .methodref 12 28), (0, .nameAndType 29 30), (0, u "percentOff"), (0, u "()Lcom/example/baskit/baskit/engine/PercentOff;"), (0, .methodref 12 32), (0, .nameAndType 33 34), (0, u "amountOff"), (0, u "()J"), (0, .methodref 12 36), (0, .nameAndType 37 38), (0, u "discountOn"), (0, u "(JJ)J"), (0, .class_ 40), (0, u "com/example/baskit/baskit/engine/DiscountAmountPinLaw"), (2, u "law"), (0, u "(JJJ)Z")] 5

def k1m0 : Method := { name := "<init>", desc := "()V", sig := { parameters := [], returnType := none }, accessFlags := 1, code := none }
def k1c1 : Code := { maxStack := 5, maxLocals := 15, code := code, exceptionTable := #[], attributes := #[] }
def k1m1 : Method := { name := "law", desc := "(JJJ)Z", sig := { parameters := [.long, .long, .long], returnType := some .boolean }, accessFlags := 9, code := some k1c1 }
/-- com/example/baskit/baskit/engine/DiscountAmountPinLaw -/
def k1 : Class := { plain "com/example/baskit/baskit/engine/DiscountAmountPinLaw" (some 0) with
  accessFlags := 49
  interfaces := #[]
  cf := some (fileOf pool1 39 #[] #[{ accessFlags := 1, nameIndex := 5, descriptorIndex := 6, attributes := #[] }, { accessFlags := 9, nameIndex := 43, descriptorIndex := 44, attributes := #[] }] 49 2 #[] #[])
  fields := #[]
  methods := #[k1m0, k1m1]
  instanceTypes := #[]
  staticTypes := #[]
  resolved := Array.replicate 50 none
  statics := none }

def pool2 : Array CpInfo := pool [(1, .methodref 2 3), (0, .class_ 4), (0, .nameAndType 5 6), (0, u "java/lang/Object"), (0, u "<init>"), (0, u "()V"), (0, .fieldref 8 9), (0, .class_ 10), (0, .nameAndType 11 12), (0, u "com/example/baskit/baskit/engine/Discount"), (0, u "type"), (0, u "Lcom/example/baskit/baskit/engine/Discount$Type;"), (0, .fieldref 8 14), (0, .nameAndType 15 16), (0, u "percentOff"), (0, u "Lcom/example/baskit/baskit/engine/PercentOff;"), (0, .fieldref 8 18), (0, .nameAndType 19 20), (0, u "amountOff"), (0, u "J"), (1, .class_ 24), (1, u "com/example/baskit/baskit/engine/Discount$Type"), (1, .methodref 8 27), (0, .nameAndType 5 28), (0, u "(Lcom/example/baskit/baskit/engine/Discount$Type;Lcom/example/baskit/baskit/engine/PercentOff;J)V"), (9, .fieldref 22 39), (0, .nameAndType 40 12), (0, u "AMOUNT"), (3, .methodref 22 45), (0, .nameAndType 46 47), (0, u "ordinal"), (0, u "()I"), (9, u "discountOn"), (1, .methodref 60 61), (0, .class_ 62), (0, .nameAndType 63 64), (0, u "java/lang/Math"), (0, u "min"), (0, u "(JJ)J"), (4, u "amount"), (0, u "(J)Lcom/example/baskit/baskit/engine/Discount;"), (1, u "()Lcom/example/baskit/baskit/engine/Discount$Type;"), (0, u "()Lcom/example/baskit/baskit/engine/PercentOff;"), (0, u "()J")] 21

def k2c0 : Code := { maxStack := 3, maxLocals := 5, code := prog_5_method_1_code, exceptionTable := #[], attributes := #[] }
def k2m0 : Method := { name := "<init>", desc := "(Lcom/example/baskit/baskit/engine/Discount$Type;Lcom/example/baskit/baskit/engine/PercentOff;J)V", sig := { parameters := [(.object "com/example/baskit/baskit/engine/Discount$Type"), (.object "com/example/baskit/baskit/engine/PercentOff"), .long], returnType := none }, accessFlags := 2, code := some k2c0 }
def k2c1 : Code := { maxStack := 6, maxLocals := 2, code := prog_5_method_3_code, exceptionTable := #[], attributes := #[] }
def k2m1 : Method := { name := "amount", desc := "(J)Lcom/example/baskit/baskit/engine/Discount;", sig := { parameters := [.long], returnType := some (.object "com/example/baskit/baskit/engine/Discount") }, accessFlags := 9, code := some k2c1 }
def k2c2 : Code := { maxStack := 1, maxLocals := 1, code := prog_5_method_4_code, exceptionTable := #[], attributes := #[] }
def k2m2 : Method := { name := "type", desc := "()Lcom/example/baskit/baskit/engine/Discount$Type;", sig := { parameters := [], returnType := some (.object "com/example/baskit/baskit/engine/Discount$Type") }, accessFlags := 1, code := some k2c2 }
def k2c3 : Code := { maxStack := 1, maxLocals := 1, code := prog_5_method_5_code, exceptionTable := #[], attributes := #[] }
def k2m3 : Method := { name := "percentOff", desc := "()Lcom/example/baskit/baskit/engine/PercentOff;", sig := { parameters := [], returnType := some (.object "com/example/baskit/baskit/engine/PercentOff") }, accessFlags := 1, code := some k2c3 }
def k2c4 : Code := { maxStack := 2, maxLocals := 1, code := prog_5_method_6_code, exceptionTable := #[], attributes := #[] }
def k2m4 : Method := { name := "amountOff", desc := "()J", sig := { parameters := [], returnType := some .long }, accessFlags := 1, code := some k2c4 }
def k2c5 : Code := { maxStack := 6, maxLocals := 7, code := prog_5_method_7_code, exceptionTable := #[], attributes := #[] }
def k2m5 : Method := { name := "discountOn", desc := "(JJ)J", sig := { parameters := [.long, .long], returnType := some .long }, accessFlags := 0, code := some k2c5 }
/-- com/example/baskit/baskit/engine/Discount -/
def k2 : Class := { plain "com/example/baskit/baskit/engine/Discount" (some 0) with
  accessFlags := 49
  interfaces := #[]
  cf := some (fileOf pool2 8 #[.nestMembers #[22]] #[{ accessFlags := 2, nameIndex := 5, descriptorIndex := 28, attributes := #[] }, { accessFlags := 9, nameIndex := 69, descriptorIndex := 70, attributes := #[] }, { accessFlags := 1, nameIndex := 11, descriptorIndex := 72, attributes := #[] }, { accessFlags := 1, nameIndex := 15, descriptorIndex := 73, attributes := #[] }, { accessFlags := 1, nameIndex := 19, descriptorIndex := 74, attributes := #[] }, { accessFlags := 0, nameIndex := 57, descriptorIndex := 64, attributes := #[] }] 49 2 #[] #[{ accessFlags := 18, nameIndex := 11, descriptorIndex := 12, attributes := #[] }, { accessFlags := 18, nameIndex := 15, descriptorIndex := 16, attributes := #[] }, { accessFlags := 18, nameIndex := 19, descriptorIndex := 20, attributes := #[] }])
  fields := #[{ name := "type", type := (.object "com/example/baskit/baskit/engine/Discount$Type"), accessFlags := 18, slot := 0, constantValue := 0 }, { name := "percentOff", type := (.object "com/example/baskit/baskit/engine/PercentOff"), accessFlags := 18, slot := 1, constantValue := 0 }, { name := "amountOff", type := .long, accessFlags := 18, slot := 2, constantValue := 0 }]
  methods := #[k2m0, k2m1, k2m2, k2m3, k2m4, k2m5]
  instanceTypes := #[(.object "com/example/baskit/baskit/engine/Discount$Type"), (.object "com/example/baskit/baskit/engine/PercentOff"), .long]
  staticTypes := #[]
  resolved := Array.replicate 96 none
  statics := none }

def pool3 : Array CpInfo := pool [(1, .class_ 2), (0, u "java/lang/constant/Constable"), (0, .class_ 4), (0, u "java/lang/Object")] 6

/-- java/lang/constant/Constable -/
def k3 : Class := { plain "java/lang/constant/Constable" (some 0) with
  accessFlags := 1537
  interfaces := #[]
  cf := some (fileOf pool3 1 #[] #[] 1537 3 #[] #[])
  fields := #[]
  methods := #[]
  instanceTypes := #[]
  staticTypes := #[]
  resolved := Array.replicate 11 none
  statics := none }

def pool4 : Array CpInfo := pool [(1, .class_ 2), (0, u "java/lang/Comparable"), (0, .class_ 4), (0, u "java/lang/Object")] 7

/-- java/lang/Comparable -/
def k4 : Class := { plain "java/lang/Comparable" (some 0) with
  accessFlags := 1537
  interfaces := #[]
  cf := some (fileOf pool4 1 #[] #[] 1537 3 #[] #[])
  fields := #[]
  methods := #[]
  instanceTypes := #[]
  staticTypes := #[]
  resolved := Array.replicate 12 none
  statics := none }

def pool5 : Array CpInfo := pool [(1, .class_ 2), (0, u "java/io/Serializable"), (0, .class_ 4), (0, u "java/lang/Object")] 2

/-- java/io/Serializable -/
def k5 : Class := { plain "java/io/Serializable" (some 0) with
  accessFlags := 1537
  interfaces := #[]
  cf := some (fileOf pool5 1 #[] #[] 1537 3 #[] #[])
  fields := #[]
  methods := #[]
  instanceTypes := #[]
  staticTypes := #[]
  resolved := Array.replicate 7 none
  statics := none }

def pool6 : Array CpInfo := pool [(2, .class_ 4), (1, u "java/lang/Enum"), (0, u "name"), (0, u "Ljava/lang/String;"), (0, .fieldref 2 8), (0, .nameAndType 9 10), (0, u "ordinal"), (0, u "I"), (1, .class_ 14), (1, u "java/lang/Object"), (4, u "hash"), (86, .class_ 108), (1, u "java/lang/Enum$EnumDesc"), (2, .class_ 112), (0, u "java/lang/constant/Constable"), (0, .class_ 114), (0, u "java/lang/Comparable"), (0, .class_ 116), (0, u "java/io/Serializable"), (9, u "()I")] 77

def k6c0 : Code := { maxStack := 1, maxLocals := 1, code := jdk_37_method_2_code, exceptionTable := #[], attributes := #[] }
def k6m0 : Method := { name := "ordinal", desc := "()I", sig := { parameters := [], returnType := some .int }, accessFlags := 17, code := some k6c0 }
/-- java/lang/Enum -/
def k6 : Class := { plain "java/lang/Enum" (some 0) with
  accessFlags := 1057
  interfaces := #[3, 4, 5]
  cf := some (fileOf pool6 2 #[.nestMembers #[106]] #[{ accessFlags := 17, nameIndex := 9, descriptorIndex := 126, attributes := #[] }] 1057 12 #[111, 113, 115] #[{ accessFlags := 18, nameIndex := 5, descriptorIndex := 6, attributes := #[] }, { accessFlags := 18, nameIndex := 9, descriptorIndex := 10, attributes := #[] }, { accessFlags := 2, nameIndex := 19, descriptorIndex := 10, attributes := #[] }])
  fields := #[{ name := "name", type := (.object "java/lang/String"), accessFlags := 18, slot := 0, constantValue := 0 }, { name := "ordinal", type := .int, accessFlags := 18, slot := 1, constantValue := 0 }, { name := "hash", type := .int, accessFlags := 2, slot := 2, constantValue := 0 }]
  methods := #[k6m0]
  instanceTypes := #[(.object "java/lang/String"), .int, .int]
  staticTypes := #[]
  resolved := Array.replicate 204 none
  statics := none }

def pool7 : Array CpInfo := pool [(1, .class_ 2), (0, u "com/example/baskit/baskit/engine/Discount$Type"), (2, u "PERCENT"), (0, u "Lcom/example/baskit/baskit/engine/Discount$Type;"), (2, u "AMOUNT"), (2, u "$VALUES"), (0, u "[Lcom/example/baskit/baskit/engine/Discount$Type;"), (6, .class_ 22), (1, u "java/lang/Enum"), (25, .class_ 49), (0, u "com/example/baskit/baskit/engine/Discount")] 2

/-- com/example/baskit/baskit/engine/Discount$Type -/
def k7 : Class := { plain "com/example/baskit/baskit/engine/Discount$Type" (some 6) with
  accessFlags := 16433
  interfaces := #[]
  cf := some (fileOf pool7 1 #[.nestHost 48] #[] 16433 20 #[] #[{ accessFlags := 16409, nameIndex := 5, descriptorIndex := 6, attributes := #[] }, { accessFlags := 16409, nameIndex := 9, descriptorIndex := 6, attributes := #[] }, { accessFlags := 4122, nameIndex := 12, descriptorIndex := 13, attributes := #[] }])
  fields := #[{ name := "PERCENT", type := (.object "com/example/baskit/baskit/engine/Discount$Type"), accessFlags := 16409, slot := 0, constantValue := 0 }, { name := "AMOUNT", type := (.object "com/example/baskit/baskit/engine/Discount$Type"), accessFlags := 16409, slot := 1, constantValue := 0 }, { name := "$VALUES", type := (.array (.object "com/example/baskit/baskit/engine/Discount$Type")), accessFlags := 4122, slot := 2, constantValue := 0 }]
  methods := #[]
  instanceTypes := #[(.object "java/lang/String"), .int, .int]
  staticTypes := #[(.object "com/example/baskit/baskit/engine/Discount$Type"), (.object "com/example/baskit/baskit/engine/Discount$Type"), (.array (.object "com/example/baskit/baskit/engine/Discount$Type"))]
  resolved := Array.replicate 52 none
  statics := some 0 }

def pool8 : Array CpInfo := pool [(1, .class_ 2), (0, u "java/lang/Math"), (1, .class_ 6), (1, u "java/lang/Object"), (0, u "<init>"), (0, u "()V"), (89, .class_ 100), (1, u "java/lang/Math$RandomNumberGeneratorHolder"), (20, u "(JJ)J"), (50, u "negativeZeroFloatBits"), (0, u "J"), (2, u "negativeZeroDoubleBits"), (24, u "min"), (43, u "$assertionsDisabled"), (0, u "Z"), (91, u "twoToTheDoubleScaleDown"), (0, u "D"), (4, u "twoToTheDoubleScaleUp"), (9, u "E"), (3, u "PI"), (2, u "TAU"), (2, u "DEGREES_TO_RADIANS"), (0, u "RADIANS_TO_DEGREES")] 94

def k8m0 : Method := { name := "<init>", desc := "()V", sig := { parameters := [], returnType := none }, accessFlags := 2, code := none }
def k8c1 : Code := { maxStack := 4, maxLocals := 4, code := jdk_29_method_70_code, exceptionTable := #[], attributes := #[] }
def k8m1 : Method := { name := "min", desc := "(JJ)J", sig := { parameters := [.long, .long], returnType := some .long }, accessFlags := 9, code := some k8c1 }
/-- java/lang/Math -/
def k8 : Class := { plain "java/lang/Math" (some 0) with
  accessFlags := 49
  interfaces := #[]
  cf := some (fileOf pool8 1 #[.nestMembers #[98]] #[{ accessFlags := 2, nameIndex := 7, descriptorIndex := 8, attributes := #[] }, { accessFlags := 9, nameIndex := 201, descriptorIndex := 121, attributes := #[] }] 49 4 #[] #[{ accessFlags := 25, nameIndex := 354, descriptorIndex := 339, attributes := #[] }, { accessFlags := 25, nameIndex := 358, descriptorIndex := 339, attributes := #[] }, { accessFlags := 25, nameIndex := 361, descriptorIndex := 339, attributes := #[] }, { accessFlags := 26, nameIndex := 364, descriptorIndex := 339, attributes := #[] }, { accessFlags := 26, nameIndex := 365, descriptorIndex := 339, attributes := #[] }, { accessFlags := 26, nameIndex := 172, descriptorIndex := 173, attributes := #[] }, { accessFlags := 26, nameIndex := 176, descriptorIndex := 173, attributes := #[] }, { accessFlags := 8, nameIndex := 344, descriptorIndex := 339, attributes := #[] }, { accessFlags := 8, nameIndex := 338, descriptorIndex := 339, attributes := #[] }, { accessFlags := 4120, nameIndex := 245, descriptorIndex := 246, attributes := #[] }])
  fields := #[{ name := "E", type := .double, accessFlags := 25, slot := 0, constantValue := 0 }, { name := "PI", type := .double, accessFlags := 25, slot := 1, constantValue := 0 }, { name := "TAU", type := .double, accessFlags := 25, slot := 2, constantValue := 0 }, { name := "DEGREES_TO_RADIANS", type := .double, accessFlags := 26, slot := 3, constantValue := 0 }, { name := "RADIANS_TO_DEGREES", type := .double, accessFlags := 26, slot := 4, constantValue := 0 }, { name := "negativeZeroFloatBits", type := .long, accessFlags := 26, slot := 5, constantValue := 0 }, { name := "negativeZeroDoubleBits", type := .long, accessFlags := 26, slot := 6, constantValue := 0 }, { name := "twoToTheDoubleScaleUp", type := .double, accessFlags := 8, slot := 7, constantValue := 0 }, { name := "twoToTheDoubleScaleDown", type := .double, accessFlags := 8, slot := 8, constantValue := 0 }, { name := "$assertionsDisabled", type := .boolean, accessFlags := 4120, slot := 9, constantValue := 0 }]
  methods := #[k8m0, k8m1]
  instanceTypes := #[]
  staticTypes := #[.double, .double, .double, .double, .double, .long, .long, .double, .double, .boolean]
  resolved := Array.replicate 460 none
  statics := none }

def pool9 : Array CpInfo := pool [(1, u "java/lang/Cloneable"), (0, .class_ 1), (0, u "java/lang/Object"), (0, .class_ 3)] 3

/-- java/lang/Cloneable -/
def k9 : Class := { plain "java/lang/Cloneable" (some 0) with
  accessFlags := 1537
  interfaces := #[]
  cf := some (fileOf pool9 2 #[] #[] 1537 4 #[] #[])
  fields := #[]
  methods := #[]
  instanceTypes := #[]
  staticTypes := #[]
  resolved := Array.replicate 8 none
  statics := none }

/-- the primitive byte -/
def k10 : Class := { plain "byte" none with kind := .primitive 'B', accessFlags := 0x411 }
/-- [B -/
def k11 : Class := { plain "[B" (some 0) with kind := .array 10 .byte, interfaces := #[9, 5], accessFlags := 1041 }

/-- the primitive int -/
def k12 : Class := { plain "int" none with kind := .primitive 'I', accessFlags := 0x411 }
/-- [I -/
def k13 : Class := { plain "[I" (some 0) with kind := .array 12 .int, interfaces := #[9, 5], accessFlags := 1041 }

def heap : Heap := #[{ cls := 7, slots := #[.null, .ref 1, .null], vm := .statics 7 },
  { cls := 7, slots := #[.null, .int 1, .int 0], vm := .none }]
def classes : Array Class := #[k0, k1, k2, k3, k4, k5, k6, k7, k8, k9, k10, k11, k12, k13]
def interned : List (Array UInt16 × Addr) := []
def slotsUsed : Nat := 6
def theMethod : MethodId := ⟨1, 1⟩
def args0 : Array Value := #[.long 5, .long 7, .long 9]
def aboutOver (below : List Frame) : State where
  vm := { classes := classes, interned := interned.toArray }
  heap := heap
  slotsUsed := slotsUsed
  threads := #[{ frames := .invoking theMethod args0 :: below }]
def below0 : List Frame := [.native { method := ⟨0, 0⟩, args := #[] }]
def about1 : State := aboutOver below0
def p0 : Program := .bare "" "" ""
def e0 : Env := launch0.env 0 0 0
theorem w_frames : about1.frames = Frame.invoking theMethod args0 :: below0 := rfl
set_option maxRecDepth 65536 in
theorem w_args : argsFit about1.vm theMethod args0 = true := by decide +kernel
set_option maxRecDepth 65536 in
theorem w_heap : heapFits about1 = true := by decide +kernel
set_option maxRecDepth 65536 in
theorem w_runnable : about1.curStatus? = some .runnable := by decide +kernel
set_option maxRecDepth 65536 in
theorem w_alone : about1.alone = true := by decide +kernel
set_option maxRecDepth 65536 in
theorem w_named : about1.methodNamed? x = some theMethod := by decide +kernel
set_option maxRecDepth 65536 in
theorem w_hears : about1.hears theMethod below0 = true := by decide +kernel
set_option maxRecDepth 65536 in
theorem w_ripe : about1.ripe theMethod args0 below0 = true := by decide +kernel
theorem w_running : about1.status = .running := rfl
set_option maxRecDepth 65536 in
theorem w_room : about1.hasRoom e0.platform room_1 = true :=
  launch0.hasRoom_least _ room_1 (by decide +kernel) (by decide +kernel) (by decide +kernel) (by decide +kernel) (by decide +kernel) (by decide +kernel)
theorem allAtoms_all (ts : List Jvm.Cond) (a : Array Jvm.Value) (st : Jvm.State) : (allAtoms ts).before a st = ts.all (fun c => c.before a st) := by
  induction ts with
  | nil => rfl
  | cons c t ih =>
    show (Jvm.Cond.and c (allAtoms t)).before a st = _
    rw [Jvm.Cond.before_and, ih, List.all_cons]
def words1 : List Jvm.Cond := Jvm.Cond.code x code maxLocals ret :: tables_1
/-- a 'code' word, met by the world's own term for the bytes: nothing is compared byte by byte -/
theorem code_word {y : MethodName} {bytes : ByteArray} {mx : Nat} {rt : Option FieldType} {a : Array Value} {s : State} {m : MethodId} {meth : Method} {c : Code} (h1 : s.methodNamed? y = some m) (h2 : s.vm.method? m = some meth) (h3 : meth.code = some c) (h4 : c.code = bytes)
    (h5 : (c.maxLocals == mx && c.exceptionTable.isEmpty && decide (c.maxStack ≤ mostOperands) && decide (meth.sig.returnType = rt) && !meth.locks && decide (parseMethodDescriptor y.desc = some meth.sig)) = true) : (Jvm.Cond.code y bytes mx rt).before a s = true := by
  simp only [Bool.and_eq_true, beq_iff_eq, Bool.not_eq_true', decide_eq_true_eq] at h5
  obtain ⟨⟨⟨⟨⟨g1, g2⟩, g3⟩, g4⟩, g5⟩, g6⟩ := h5
  simp [Cond.before, Cond.holds, Cond.value, h1, h2, h3, h4, g1, g2, g3, g4, g5, g6]
def isCode : Jvm.Cond → Bool
  | .code _ _ _ _ => true
  | _ => false
theorem all_split {L : List Jvm.Cond} {P : Jvm.Cond → Bool} (h1 : L.all (fun c => isCode c || P c) = true) (h2 : ∀ c ∈ L.filter isCode, P c = true) : L.all P = true := by
  refine List.all_eq_true.mpr fun c hc => ?_
  have h := List.all_eq_true.mp h1 c hc
  rcases Bool.eq_false_or_eq_true (isCode c) with hi | hi
  · exact h2 c (List.mem_filter.mpr ⟨hc, hi⟩)
  · simpa [hi] using h
set_option maxRecDepth 65536 in
theorem w_c0 : (Jvm.Cond.code x code maxLocals ret).before args0 about1 = true := code_word (m := ⟨1, 1⟩) (meth := k1m1) (c := k1c1) (by decide +kernel) rfl rfl rfl (by decide +kernel)
set_option maxRecDepth 65536 in
theorem w_c1 : (Jvm.Cond.code ({ cls := "com/example/baskit/baskit/engine/Discount", name := "amount", desc := "(J)Lcom/example/baskit/baskit/engine/Discount;" } : Jvm.MethodName) prog_5_method_3_code (2 : Nat) (Option.some (Jvm.ClassFile.FieldType.object "com/example/baskit/baskit/engine/Discount"))).before args0 about1 = true := code_word (m := ⟨2, 1⟩) (meth := k2m1) (c := k2c1) (by decide +kernel) rfl rfl rfl (by decide +kernel)
set_option maxRecDepth 65536 in
theorem w_c2 : (Jvm.Cond.code ({ cls := "com/example/baskit/baskit/engine/Discount", name := "<init>", desc := "(Lcom/example/baskit/baskit/engine/Discount$Type;Lcom/example/baskit/baskit/engine/PercentOff;J)V" } : Jvm.MethodName) prog_5_method_1_code (5 : Nat) (Option.none : Option Jvm.ClassFile.FieldType)).before args0 about1 = true := code_word (m := ⟨2, 0⟩) (meth := k2m0) (c := k2c0) (by decide +kernel) rfl rfl rfl (by decide +kernel)
set_option maxRecDepth 65536 in
theorem w_c3 : (Jvm.Cond.code ({ cls := "java/lang/Object", name := "<init>", desc := "()V" } : Jvm.MethodName) object_method_1_code (1 : Nat) (Option.none : Option Jvm.ClassFile.FieldType)).before args0 about1 = true := code_word (m := ⟨0, 0⟩) (meth := k0m0) (c := k0c0) (by decide +kernel) rfl rfl rfl (by decide +kernel)
set_option maxRecDepth 65536 in
theorem w_c4 : (Jvm.Cond.code ({ cls := "com/example/baskit/baskit/engine/Discount", name := "type", desc := "()Lcom/example/baskit/baskit/engine/Discount$Type;" } : Jvm.MethodName) prog_5_method_4_code (1 : Nat) (Option.some (Jvm.ClassFile.FieldType.object "com/example/baskit/baskit/engine/Discount$Type"))).before args0 about1 = true := code_word (m := ⟨2, 2⟩) (meth := k2m2) (c := k2c2) (by decide +kernel) rfl rfl rfl (by decide +kernel)
set_option maxRecDepth 65536 in
theorem w_c5 : (Jvm.Cond.code ({ cls := "com/example/baskit/baskit/engine/Discount", name := "percentOff", desc := "()Lcom/example/baskit/baskit/engine/PercentOff;" } : Jvm.MethodName) prog_5_method_5_code (1 : Nat) (Option.some (Jvm.ClassFile.FieldType.object "com/example/baskit/baskit/engine/PercentOff"))).before args0 about1 = true := code_word (m := ⟨2, 3⟩) (meth := k2m3) (c := k2c3) (by decide +kernel) rfl rfl rfl (by decide +kernel)
set_option maxRecDepth 65536 in
theorem w_c6 : (Jvm.Cond.code ({ cls := "com/example/baskit/baskit/engine/Discount", name := "amountOff", desc := "()J" } : Jvm.MethodName) prog_5_method_6_code (1 : Nat) (Option.some Jvm.ClassFile.FieldType.long)).before args0 about1 = true := code_word (m := ⟨2, 4⟩) (meth := k2m4) (c := k2c4) (by decide +kernel) rfl rfl rfl (by decide +kernel)
set_option maxRecDepth 65536 in
theorem w_c7 : (Jvm.Cond.code ({ cls := "com/example/baskit/baskit/engine/Discount", name := "discountOn", desc := "(JJ)J" } : Jvm.MethodName) prog_5_method_7_code (7 : Nat) (Option.some Jvm.ClassFile.FieldType.long)).before args0 about1 = true := code_word (m := ⟨2, 5⟩) (meth := k2m5) (c := k2c5) (by decide +kernel) rfl rfl rfl (by decide +kernel)
set_option maxRecDepth 65536 in
theorem w_c8 : (Jvm.Cond.code ({ cls := "java/lang/Enum", name := "ordinal", desc := "()I" } : Jvm.MethodName) jdk_37_method_2_code (1 : Nat) (Option.some Jvm.ClassFile.FieldType.int)).before args0 about1 = true := code_word (m := ⟨6, 0⟩) (meth := k6m0) (c := k6c0) (by decide +kernel) rfl rfl rfl (by decide +kernel)
set_option maxRecDepth 65536 in
theorem w_c9 : (Jvm.Cond.code ({ cls := "java/lang/Math", name := "min", desc := "(JJ)J" } : Jvm.MethodName) jdk_29_method_70_code (4 : Nat) (Option.some Jvm.ClassFile.FieldType.long)).before args0 about1 = true := code_word (m := ⟨8, 1⟩) (meth := k8m1) (c := k8c1) (by decide +kernel) rfl rfl rfl (by decide +kernel)
def codes1 : List Jvm.Cond := [Jvm.Cond.code x code maxLocals ret, Jvm.Cond.code ({ cls := "com/example/baskit/baskit/engine/Discount", name := "amount", desc := "(J)Lcom/example/baskit/baskit/engine/Discount;" } : Jvm.MethodName) prog_5_method_3_code (2 : Nat) (Option.some (Jvm.ClassFile.FieldType.object "com/example/baskit/baskit/engine/Discount")), Jvm.Cond.code ({ cls := "com/example/baskit/baskit/engine/Discount", name := "<init>", desc := "(Lcom/example/baskit/baskit/engine/Discount$Type;Lcom/example/baskit/baskit/engine/PercentOff;J)V" } : Jvm.MethodName) prog_5_method_1_code (5 : Nat) (Option.none : Option Jvm.ClassFile.FieldType), Jvm.Cond.code ({ cls := "java/lang/Object", name := "<init>", desc := "()V" } : Jvm.MethodName) object_method_1_code (1 : Nat) (Option.none : Option Jvm.ClassFile.FieldType), Jvm.Cond.code ({ cls := "com/example/baskit/baskit/engine/Discount", name := "type", desc := "()Lcom/example/baskit/baskit/engine/Discount$Type;" } : Jvm.MethodName) prog_5_method_4_code (1 : Nat) (Option.some (Jvm.ClassFile.FieldType.object "com/example/baskit/baskit/engine/Discount$Type")), Jvm.Cond.code ({ cls := "com/example/baskit/baskit/engine/Discount", name := "percentOff", desc := "()Lcom/example/baskit/baskit/engine/PercentOff;" } : Jvm.MethodName) prog_5_method_5_code (1 : Nat) (Option.some (Jvm.ClassFile.FieldType.object "com/example/baskit/baskit/engine/PercentOff")), Jvm.Cond.code ({ cls := "com/example/baskit/baskit/engine/Discount", name := "amountOff", desc := "()J" } : Jvm.MethodName) prog_5_method_6_code (1 : Nat) (Option.some Jvm.ClassFile.FieldType.long), Jvm.Cond.code ({ cls := "com/example/baskit/baskit/engine/Discount", name := "discountOn", desc := "(JJ)J" } : Jvm.MethodName) prog_5_method_7_code (7 : Nat) (Option.some Jvm.ClassFile.FieldType.long), Jvm.Cond.code ({ cls := "java/lang/Enum", name := "ordinal", desc := "()I" } : Jvm.MethodName) jdk_37_method_2_code (1 : Nat) (Option.some Jvm.ClassFile.FieldType.int), Jvm.Cond.code ({ cls := "java/lang/Math", name := "min", desc := "(JJ)J" } : Jvm.MethodName) jdk_29_method_70_code (4 : Nat) (Option.some Jvm.ClassFile.FieldType.long)]
set_option maxRecDepth 65536 in
theorem codes_eq : words1.filter isCode = codes1 := rfl
theorem w_codes : ∀ c ∈ words1.filter isCode, c.before args0 about1 = true := by
  rw [codes_eq]
  intro c hc
  simp only [codes1, List.mem_cons, List.not_mem_nil, or_false] at hc
  rcases hc with rfl | rfl | rfl | rfl | rfl | rfl | rfl | rfl | rfl | rfl
  · exact w_c0
  · exact w_c1
  · exact w_c2
  · exact w_c3
  · exact w_c4
  · exact w_c5
  · exact w_c6
  · exact w_c7
  · exact w_c8
  · exact w_c9
set_option maxRecDepth 65536 in
theorem w_t1 : (words1.take 24).all (fun c => isCode c || c.before args0 about1) = true := by decide +kernel
set_option maxRecDepth 65536 in
theorem w_t2 : ((words1.drop 24).take 24).all (fun c => isCode c || c.before args0 about1) = true := by decide +kernel
set_option maxRecDepth 65536 in
theorem w_t3 : ((words1.drop 24).drop 24).all (fun c => isCode c || c.before args0 about1) = true := by decide +kernel
theorem w_tables : (allAtoms (Jvm.Cond.code x code maxLocals ret :: tables_1)).before args0 about1 = true := by
  rw [allAtoms_all]
  show words1.all (fun c => c.before args0 about1) = true
  refine all_split ?_ w_codes
  rw [← List.take_append_drop 24 words1, List.all_append, w_t1, ← List.take_append_drop 24 (words1.drop 24), List.all_append, w_t2, w_t3]
  rfl
set_option maxRecDepth 65536 in
theorem w_case : (Jvm.Cond.and given_1 narrow_1).before args0 about1 = true := by decide +kernel
theorem w_applies : (headSpec (Jvm.Cond.code x code maxLocals ret :: tables_1) room_1).applies x e0.platform about1 = true :=
  (Spec.applies_iff w_frames).mpr ⟨w_running, w_runnable, w_alone, w_named, w_hears, w_ripe, w_room, w_tables⟩
theorem atStart : AtStart classFile x code maxLocals ret World_1 tables_1 room_1 Calls_1 rest_1 Pre_1 launch0 p0 e0 about1 theMethod args0 below0 :=
  ⟨lists_1, trivial, launch0.admits_env _ _ _, launch0.least_env, fairChoices_fair.cas, fairChoices_fair.clock, w_frames, w_args, w_heap, w_applies, trivial, trivial, w_case⟩
end start1
theorem witness_1 : WitnessClaimed_1 := ⟨start1.p0, start1.e0, start1.about1, start1.theMethod, start1.args0, start1.below0, start1.atStart⟩
end Jvm.Pilot.@@N@@
