import JvmDerived
import JvmDerived.Pilot.@@N@@Statement
import JvmDerived.Pilot.@@N@@Code
set_option linter.unusedVariables false
set_option linter.unusedSimpArgs false

namespace Jvm.OwnKit
open Jvm Sem ClassFile Op Lib Jvm.Stand Jvm.Free Jvm.LawKit Jvm.RoadKit
section Own
variable {p : Program} {l : Launch} {e : Env} {R : Room} {s : State} {m : MethodId} {args : Array Value} {below : List Frame} {meth : Method} {c : Code} {T : State} {locs : List Loc} {cells slots : Nat} {Z : State} {a0 : Array Value} {h h' : Heap}
/-- the walk from A on comes to an end that says Q -/
def Goes (tb : Tables) (e : Env) (below : List Frame) (Q : State → Outcome → Prop) (A : State) : Prop := ∃ t o, Steps tb e below A t ∧ t.status = .running ∧ Ended t below o ∧ Q t o
theorem Goes.via {tb : Tables} {Q : State → Outcome → Prop} {A B : State} (st : ∀ t, Steps tb e below B t → Steps tb e below A t) (k : Goes tb e below Q B) : Goes tb e below Q A := by
  obtain ⟨t, o, h, r⟩ := k; exact ⟨t, o, st t h, r⟩
/-- what a contract says at one start: the arguments as', the heap h -/
abbrev Ctr (l : Launch) (Z : State) (y : MethodName) (bytes : ByteArray) (maxL : Nat) (ret : Option FieldType) (rm : Room) (as' : Array Value) (h : Heap) (Q : Option Value → Heap → List Loc → Prop) (ws : List Cond) : Prop :=
  MetFree l y (head1 (Cond.code y bytes maxL ret :: ws) rm) (fun a U => a = as' ∧ Z.Warmed39 U.vm ∧ U.heap = h) (fun _ _ _ _ _ => True) (fun _ U o U' => ∃ v L, o = .returned v ∧ Q v U'.heap L ∧ FrameEnd U o U' L rm.cells rm.slots)
/-- what a contract says of a body that may make String constants -/
abbrev CtrW (l : Launch) (Z : State) (y : MethodName) (bytes : ByteArray) (maxL : Nat) (ret : Option FieldType) (rm : Room) (as' : Array Value) (h : Heap) (Q : Option Value → Heap → List Loc → Prop) (ws : List Cond) : Prop :=
  MetFree l y (head1 (Cond.code y bytes maxL ret :: ws) rm) (fun a U => a = as' ∧ Z.Warmed39 U.vm ∧ U.heap = h) (fun _ _ _ _ _ => True) (fun _ U o U' => ∃ v L, o = .returned v ∧ Q v U'.heap L ∧ ReturnedEndW U o U' L rm.cells rm.slots)
/-- the leave of a walk, in either frame F -/
def Lv (F : State → Outcome → State → List Loc → Nat → Nat → Prop) (e : Env) (s : State) (m : MethodId) (below : List Frame) (meth : Method) (T : State) (locs : List Loc) (C S : Nat) : Prop :=
  ∀ v : Option Value, (meth.sig.returnType = none → v = none) → ∃ fs, (∀ (f : JFrame) (acts : List Action), f.method = m → f.locked = none → f.entered = [] → (doReturn e (T.setTop f) acts v).1 = T.setFrames fs) ∧ (T.setFrames fs).status = .running ∧ Ended (T.setFrames fs) below (.returned v) ∧ F s (.returned v) (T.setFrames fs) locs C S
theorem lvN (X : Stand p l e R s m args below meth c T locs cells slots) (hlocks : meth.locks = false) {C S : Nat} (hc : cells ≤ C) (hs : slots ≤ S) : Lv FrameEnd e s m below meth T locs C S := fun v hv => by
  obtain ⟨fs, hr, hrun, hended, hW, hsame⟩ := X.leave hv hlocks
  exact ⟨fs, hr, hrun, hended, ⟨_, rfl⟩, hW, hsame.mono hc hs⟩
theorem lvW {vm0 : Vm} {k0 : Nat} (X : Stand p l e R (s.setVm vm0) m args below meth c T locs cells slots) (hlocks : meth.locks = false) (hS : s.Since vm0 k0) (eT : T.heap = h) (hk : k0 ≤ h.size) {C S : Nat} (hc : cells ≤ C) (hs : slots ≤ S) : Lv ReturnedEndW e s m below meth T locs C S := fun v hv => by
  obtain ⟨fs, hr, hrun, hended, h1, h2, h3, h4⟩ := X.leaveW hS (eT ▸ hk) hv hlocks
  exact ⟨fs, hr, hrun, hended, h1, h2, h3, h4.mono hc hs⟩
theorem fin {F : State → Outcome → State → List Loc → Nat → Nat → Prop} {v : Option Value} (hv : meth.sig.returnType = none → v = none) {A : State}
    (hk : ∀ fs, (∀ (f : JFrame) (acts : List Action), f.method = m → f.locked = none → f.entered = [] → (doReturn e (T.setTop f) acts v).1 = T.setFrames fs) → Steps p.tables e below A (T.setFrames fs))
    {Q : Option Value → Heap → List Loc → Prop} {C S : Nat} (eT : T.heap = h) (hQ : Q v h locs) (lv : Lv F e s m below meth T locs C S) :
    Goes p.tables e below (fun t o => ∃ v L, o = .returned v ∧ Q v t.heap L ∧ F s o t L C S) A := by
  obtain ⟨fs, hr, hrun, hended, hF⟩ := lv v hv
  subst eT
  exact ⟨_, _, hk fs hr, hrun, hended, v, locs, rfl, hQ, hF⟩
variable {sb : State} {F : State → Outcome → State → List Loc → Nat → Nat → Prop}
/-- return of nothing -/
theorem fin0 (X : Stand p l e R sb m args below meth c T locs cells slots) (hx : p.tables.exec = Jvm.exec) (hret : meth.sig.returnType = none) {pc : Nat} {Ls : Array Slot} (hd : decode c.code pc = .ok (.return_, 1))
    {Q : Option Value → Heap → List Loc → Prop} {C S : Nat} (eT : T.heap = h) (hQ : Q none h locs) (lv : Lv F e s m below meth T locs C S) :
    Goes p.tables e below (fun t o => ∃ v L, o = .returned v ∧ Q v t.heap L ∧ F s o t L C S) (T.setTop (mkF m pc Ls [])) :=
  fin (fun _ => rfl) (fun _ hl => X.returnOut hx hret hd hl) eT hQ lv
theorem finI (X : Stand p l e R sb m args below meth c T locs cells slots) (hx : p.tables.exec = Jvm.exec) (hret : meth.sig.returnType = some .int) {pc : Nat} {Ls : Array Slot} {st : List Value} {z : Int32} (hd : decode c.code pc = .ok (.ireturn, 1))
    {Q : Option Value → Heap → List Loc → Prop} {C S : Nat} (eT : T.heap = h) (hQ : Q (some (.int z)) h locs) (lv : Lv F e s m below meth T locs C S) :
    Goes p.tables e below (fun t o => ∃ v L, o = .returned v ∧ Q v t.heap L ∧ F s o t L C S) (T.setTop (mkF m pc Ls (.int z :: st))) :=
  fin (fun q => by rw [hret] at q; cases q) (fun _ hl => retOut X hx hret rfl (Or.inl ⟨rfl, Or.inl rfl, _, rfl⟩) hd hl) eT hQ lv
theorem finN (X : Stand p l e R sb m args below meth c T locs cells slots) (hx : p.tables.exec = Jvm.exec) {t : FieldType} (hret : meth.sig.returnType = some t) (ht : t = .boolean ∨ t = .byte ∨ t = .char ∨ t = .short) {pc : Nat} {Ls : Array Slot} {st : List Value} {z z' : Int32} (hz : nar t z = z') (hd : decode c.code pc = .ok (.ireturn, 1))
    {Q : Option Value → Heap → List Loc → Prop} {C S : Nat} (eT : T.heap = h) (hQ : Q (some (.int z')) h locs) (lv : Lv F e s m below meth T locs C S) :
    Goes p.tables e below (fun t o => ∃ v L, o = .returned v ∧ Q v t.heap L ∧ F s o t L C S) (T.setTop (mkF m pc Ls (.int z :: st))) :=
  fin (fun q => by rw [hret] at q; cases q) (fun _ hl => by subst hz; exact retN X hx hret ht hd hl) eT hQ lv
theorem finD (X : Stand p l e R sb m args below meth c T locs cells slots) (hx : p.tables.exec = Jvm.exec) (hret : meth.sig.returnType = some .double) {pc : Nat} {Ls : Array Slot} {st : List Value} {z : UInt64} (hd : decode c.code pc = .ok (.dreturn, 1))
    {Q : Option Value → Heap → List Loc → Prop} {C S : Nat} (eT : T.heap = h) (hQ : Q (some (.double z)) h locs) (lv : Lv F e s m below meth T locs C S) :
    Goes p.tables e below (fun t o => ∃ v L, o = .returned v ∧ Q v t.heap L ∧ F s o t L C S) (T.setTop (mkF m pc Ls (.double z :: st))) :=
  fin (fun q => by rw [hret] at q; cases q) (fun _ hl => retOut X hx hret rfl (Or.inr (Or.inr (Or.inl ⟨rfl, rfl, _, rfl⟩))) hd hl) eT hQ lv
theorem finA (X : Stand p l e R sb m args below meth c T locs cells slots) (hx : p.tables.exec = Jvm.exec) {t : FieldType} (hret : meth.sig.returnType = some t) (ht : t.isReference = true) {pc : Nat} {Ls : Array Slot} {st : List Value} {w : Value} (hw : w.isRef = true) (hn : narrow t w = w) (hd : decode c.code pc = .ok (.areturn, 1))
    {Q : Option Value → Heap → List Loc → Prop} {C S : Nat} (eT : T.heap = h) (hQ : Q (some w) h locs) (lv : Lv F e s m below meth T locs C S) :
    Goes p.tables e below (fun t o => ∃ v L, o = .returned v ∧ Q v t.heap L ∧ F s o t L C S) (T.setTop (mkF m pc Ls (w :: st))) :=
  fin (fun q => by rw [hret] at q; cases q) (fun _ hl => retOut X hx hret hn (Or.inr (Or.inr (Or.inr (Or.inr ⟨rfl, ht, hw⟩)))) hd hl) eT hQ lv
theorem old_le {n0 : Nat} (O : Old Z n0 h) : n0 ≤ h.size := O.1 ▸ O.2.1
/-- a callee's law, in the one shape -/
abbrev BackQ (l : Launch) (R : Room) (p : Program) (e : Env) (below : List Frame) (s : State) (args : Array Value) (y : MethodName) (W : Nat) (as' : Array Value) (h : Heap) (kc ks : Nat) (Q : Option Value → Heap → List Loc → Prop) : Prop :=
  Back l R p e below s args y 3 W (fun A a => a = as' ∧ A.U.heap = h ∧ A.cells + kc ≤ R.cells ∧ A.slots + ks ≤ R.slots) (fun A _ v B => ∃ L, Q v B.U.heap L ∧ B.locs = A.locs ++ L ∧ B.cells = A.cells + kc ∧ B.slots = A.slots + ks)
theorem callStaticB (X : Stand p l e R s m args below meth c T locs cells slots) (hx : p.tables.exec = Jvm.exec) (hZ : Z.Warmed39 s.vm) {own : String} {index : Nat} {y : MethodName} {bytes : ByteArray} {maxL : Nat} {ret : Option FieldType} {kc ks : Nat} {Q : Option Value → Heap → List Loc → Prop}
    (hown : s.vm.findClass own = some m.cls) (w1 : (Cond.methodLink own index y).before a0 Z = true) (w2 : (Cond.static y).before a0 Z = true) (w3 : (Cond.initialized y.cls).before a0 Z = true) (w4 : (Cond.code y bytes maxL ret).before a0 Z = true)
    (hy : y.cls ≠ "java/lang/invoke/MethodHandle" ∧ y.cls ≠ "java/lang/invoke/VarHandle") {argsL rest : List Value} {W : Nat} (hK : BackQ l R p e below s args y W argsL.toArray h kc ks Q) (eT : T.heap = h)
    (hlen : ∀ sig, parseMethodDescriptor y.desc = some sig → argsL.length = sig.parameters.length) {pc : Nat} {Ls : Array Slot} {st : List Value} (hst : st = argsL.reverse ++ rest) (hsz : Ls.size = c.maxLocals) (hd : decode c.code pc = .ok (.invokestatic index, 3))
    (hW : (rest.map fun v => v.category).sum ≤ W) (hce : cells + kc ≤ R.cells) (hsl : slots + ks ≤ R.slots) :
    ∃ v T' L, Stand p l e R s m args below meth c T' (locs ++ L) (cells + kc) (slots + ks) ∧ Q v T'.heap L ∧ ∀ t, Steps p.tables e below (T'.setTop (mkF m (pc + 3) Ls (v.toList ++ rest))) t → Steps p.tables e below (T.setTop (mkF m pc Ls st)) t := by
  obtain ⟨v, _, ⟨T', L', k', n'⟩, -, X', ⟨L, hQ, l1, l2, l3⟩, st'⟩ := Jvm.LawKit.callS X hx hown (mvT hZ w1) (mvT hZ w2) (mvT hZ w3) (mvT hZ w4) hy hK (g := mkF m pc Ls st) rfl hsz (argsL := argsL) (rest := rest) hlen hst (by show 2 * 0 + _ ≤ _; omega) hd (fun _ _ => ⟨rfl, eT, hce, hsl⟩)
  dsimp only [Pt.U, Pt.locs, Pt.cells, Pt.slots] at X' l1 l2 l3 st' hQ
  subst l1 l2 l3
  exact ⟨v, T', L, X', hQ, st'⟩
theorem callStatic (X : Stand p l e R s m args below meth c T locs cells slots) (hx : p.tables.exec = Jvm.exec) (hZ : Z.Warmed39 s.vm) {own : String} {index : Nat} {y : MethodName} {bytes : ByteArray} {maxL : Nat} {ret : Option FieldType} {rm : Room} {Q : Option Value → Heap → List Loc → Prop}
    (hown : s.vm.findClass own = some m.cls) (w1 : (Cond.methodLink own index y).before a0 Z = true) (w2 : (Cond.static y).before a0 Z = true) (w3 : (Cond.initialized y.cls).before a0 Z = true) (w4 : (Cond.code y bytes maxL ret).before a0 Z = true)
    (hy : y.cls ≠ "java/lang/invoke/MethodHandle" ∧ y.cls ≠ "java/lang/invoke/VarHandle") {argsL rest : List Value} (hM : Ctr l Z y bytes maxL ret rm argsL.toArray h Q []) (eT : T.heap = h)
    (hlen : ∀ sig, parseMethodDescriptor y.desc = some sig → argsL.length = sig.parameters.length) {pc W : Nat} {Ls : Array Slot} {st : List Value} (hst : st = argsL.reverse ++ rest) (hsz : Ls.size = c.maxLocals) (hd : decode c.code pc = .ok (.invokestatic index, 3))
    (hW : (rest.map fun v => v.category).sum ≤ W) (hfr : rm.frames + 1 ≤ R.frames) (hlo : W + (maxL + 11) + rm.locals ≤ R.locals) (hce : cells + rm.cells ≤ R.cells) (hsl : slots + rm.slots ≤ R.slots) :
    ∃ v T' L, Stand p l e R s m args below meth c T' (locs ++ L) (cells + rm.cells) (slots + rm.slots) ∧ Q v T'.heap L ∧ ∀ t, Steps p.tables e below (T'.setTop (mkF m (pc + 3) Ls (v.toList ++ rest))) t → Steps p.tables e below (T.setTop (mkF m pc Ls st)) t :=
  callStaticB X hx hZ hown w1 w2 w3 w4 hy (backOf (W := W) hM hZ w4 w3 hfr hlo) eT hlen hst hsz hd hW hce hsl
/-- a contract of a method with an exception table, whose walk throws nothing -/
abbrev CtrX (l : Launch) (Z : State) (hs : List (Nat × Nat × Nat × Nat)) (y : MethodName) (bytes : ByteArray) (maxL : Nat) (ret : Option FieldType) (rm : Room) (as' : Array Value) (h : Heap) (Q : Option Value → Heap → List Loc → Prop) (ws : List Cond) : Prop :=
  MetFree l y (head1 (Cond.codeWith y bytes maxL ret hs :: ws) rm) (fun a U => a = as' ∧ Z.Warmed39 U.vm ∧ U.heap = h) (fun _ _ _ _ _ => True) (fun _ U o U' => ∃ v L, o = .returned v ∧ Q v U'.heap L ∧ FrameEnd U o U' L rm.cells rm.slots)
theorem callInitB (X : Stand p l e R s m args below meth c T locs cells slots) (hx : p.tables.exec = Jvm.exec) (hZ : Z.Warmed39 s.vm) {own : String} {index : Nat} {y : MethodName} {bytes : ByteArray} {maxL : Nat} {kc ks : Nat} {Q : Option Value → Heap → List Loc → Prop} (hy1 : y.name = "<init>")
    (hown : s.vm.findClass own = some m.cls) (w1 : (Cond.methodLink own index y).before a0 Z = true) (w2 : (Cond.instanceMethod y).before a0 Z = true) (w4 : (Cond.code y bytes maxL none).before a0 Z = true)
    (hy : y.cls ≠ "java/lang/invoke/MethodHandle" ∧ y.cls ≠ "java/lang/invoke/VarHandle") {a : Addr} {argsL rest : List Value} {W : Nat} (hK : BackQ l R p e below s args y W (.ref a :: argsL).toArray h kc ks Q) (eT : T.heap = h)
    (hlen : ∀ sig, parseMethodDescriptor y.desc = some sig → argsL.length = sig.parameters.length) {pc : Nat} {Ls : Array Slot} {st : List Value} (hst : st = argsL.reverse ++ .ref a :: rest) (hsz : Ls.size = c.maxLocals) (hd : decode c.code pc = .ok (.invokespecial index, 3))
    (hW : (rest.map fun v => v.category).sum ≤ W) (hce : cells + kc ≤ R.cells) (hsl : slots + ks ≤ R.slots) :
    ∃ v T' L, Stand p l e R s m args below meth c T' (locs ++ L) (cells + kc) (slots + ks) ∧ Q v T'.heap L ∧ ∀ t, Steps p.tables e below (T'.setTop (mkF m (pc + 3) Ls (v.toList ++ rest))) t → Steps p.tables e below (T.setTop (mkF m pc Ls st)) t := by
  obtain ⟨v, _, ⟨T', L', k', n'⟩, -, X', ⟨L, hQ, l1, l2, l3⟩, st'⟩ := X.specialBack hx hy1 hown (mvT hZ w1) (mvT hZ w2) (mvT hZ w4) hy hK (g := mkF m pc Ls st) rfl hsz (Steps.refl _) (a := a) (argsL := argsL) (rest := rest) hlen hst (by show 2 * 0 + _ ≤ _; omega) hd (fun _ _ => ⟨rfl, eT, hce, hsl⟩)
  dsimp only [Pt.U, Pt.locs, Pt.cells, Pt.slots] at X' l1 l2 l3 st' hQ
  subst l1 l2 l3
  exact ⟨v, T', L, X', hQ, fun t k => st'.trans k⟩
theorem callInit (X : Stand p l e R s m args below meth c T locs cells slots) (hx : p.tables.exec = Jvm.exec) (hZ : Z.Warmed39 s.vm) {own : String} {index : Nat} {y : MethodName} {bytes : ByteArray} {maxL : Nat} {rm : Room} {Q : Option Value → Heap → List Loc → Prop} (hy1 : y.name = "<init>")
    (hown : s.vm.findClass own = some m.cls) (w1 : (Cond.methodLink own index y).before a0 Z = true) (w2 : (Cond.instanceMethod y).before a0 Z = true) (w3 : (Cond.initialized y.cls).before a0 Z = true) (w4 : (Cond.code y bytes maxL none).before a0 Z = true)
    (hy : y.cls ≠ "java/lang/invoke/MethodHandle" ∧ y.cls ≠ "java/lang/invoke/VarHandle") {a : Addr} {argsL rest : List Value} (hM : Ctr l Z y bytes maxL none rm (.ref a :: argsL).toArray h Q []) (eT : T.heap = h)
    (hlen : ∀ sig, parseMethodDescriptor y.desc = some sig → argsL.length = sig.parameters.length) {pc W : Nat} {Ls : Array Slot} {st : List Value} (hst : st = argsL.reverse ++ .ref a :: rest) (hsz : Ls.size = c.maxLocals) (hd : decode c.code pc = .ok (.invokespecial index, 3))
    (hW : (rest.map fun v => v.category).sum ≤ W) (hfr : rm.frames + 1 ≤ R.frames) (hlo : W + (maxL + 11) + rm.locals ≤ R.locals) (hce : cells + rm.cells ≤ R.cells) (hsl : slots + rm.slots ≤ R.slots) :
    ∃ v T' L, Stand p l e R s m args below meth c T' (locs ++ L) (cells + rm.cells) (slots + rm.slots) ∧ Q v T'.heap L ∧ ∀ t, Steps p.tables e below (T'.setTop (mkF m (pc + 3) Ls (v.toList ++ rest))) t → Steps p.tables e below (T.setTop (mkF m pc Ls st)) t :=
  callInitB X hx hZ hy1 hown w1 w2 w4 hy (backOf (W := W) hM hZ w4 w3 hfr hlo) eT hlen hst hsz hd hW hce hsl
theorem callInitN (X : Stand p l e R s m args below meth c T locs cells slots) (hx : p.tables.exec = Jvm.exec) (hZ : Z.Warmed39 s.vm) {own host : String} {index : Nat} {y : MethodName} {bytes : ByteArray} {maxL : Nat} {rm : Room} {Q : Option Value → Heap → List Loc → Prop} (hy1 : y.name = "<init>")
    (hown : s.vm.findClass own = some m.cls) (w1 : (Cond.methodLinkNest own index y host).before a0 Z = true) (w2 : (Cond.instanceMethod y).before a0 Z = true) (w3 : (Cond.initialized y.cls).before a0 Z = true) (w4 : (Cond.code y bytes maxL none).before a0 Z = true)
    (hy : y.cls ≠ "java/lang/invoke/MethodHandle" ∧ y.cls ≠ "java/lang/invoke/VarHandle") {a : Addr} {argsL rest : List Value} (hM : Ctr l Z y bytes maxL none rm (.ref a :: argsL).toArray h Q []) (eT : T.heap = h)
    (hlen : ∀ sig, parseMethodDescriptor y.desc = some sig → argsL.length = sig.parameters.length) {pc W : Nat} {Ls : Array Slot} {st : List Value} (hst : st = argsL.reverse ++ .ref a :: rest) (hsz : Ls.size = c.maxLocals) (hd : decode c.code pc = .ok (.invokespecial index, 3))
    (hW : (rest.map fun v => v.category).sum ≤ W) (hfr : rm.frames + 1 ≤ R.frames) (hlo : W + (maxL + 11) + rm.locals ≤ R.locals) (hce : cells + rm.cells ≤ R.cells) (hsl : slots + rm.slots ≤ R.slots) :
    ∃ v T' L, Stand p l e R s m args below meth c T' (locs ++ L) (cells + rm.cells) (slots + rm.slots) ∧ Q v T'.heap L ∧ ∀ t, Steps p.tables e below (T'.setTop (mkF m (pc + 3) Ls (v.toList ++ rest))) t → Steps p.tables e below (T.setTop (mkF m pc Ls st)) t := by
  obtain ⟨v, _, ⟨T', L', k', n'⟩, -, X', ⟨L, hQ, l1, l2, l3⟩, st'⟩ := X.specialBackNest hx hy1 hown (Cond.methodLinkNest_wide hZ w1 :) (mvT hZ w2) (mvT hZ w4) hy (backOf (W := W) hM hZ w4 w3 hfr hlo) (g := mkF m pc Ls st) rfl hsz (Steps.refl _) (a := a) (argsL := argsL) (rest := rest) hlen hst (by show 2 * 0 + _ ≤ _; omega) hd (fun _ _ => ⟨rfl, eT, hce, hsl⟩)
  dsimp only [Pt.U, Pt.locs, Pt.cells, Pt.slots] at X' l1 l2 l3 st' hQ
  subst l1 l2 l3
  exact ⟨v, T', L, X', hQ, fun t k => st'.trans k⟩
theorem callVirtB (X : Stand p l e R s m args below meth c T locs cells slots) (hx : p.tables.exec = Jvm.exec) (hZ : Z.Warmed39 s.vm) {own C : String} {index : Nat} {y z : MethodName} {kc ks : Nat} {Q : Option Value → Heap → List Loc → Prop}
    (hown : s.vm.findClass own = some m.cls) (w1 : (Cond.methodLink own index y).before a0 Z = true) (w2 : (Cond.declares y).before a0 Z = true) (w5 : (Cond.selects C y z).before a0 Z = true) (hnf : NotFace s y) (w6 : (Cond.instanceMethod z).before a0 Z = true)
    (hy : y.cls ≠ "java/lang/invoke/MethodHandle" ∧ y.cls ≠ "java/lang/invoke/VarHandle") {a : Addr} {argsL rest : List Value} {W : Nat} (hK : BackQ l R p e below s args z W (.ref a :: argsL).toArray h kc ks Q) (eT : T.heap = h) (E : Exa Z h a C)
    (hlen : ∀ sig, parseMethodDescriptor y.desc = some sig → argsL.length = sig.parameters.length) {pc : Nat} {Ls : Array Slot} {st : List Value} (hst : st = argsL.reverse ++ .ref a :: rest) (hsz : Ls.size = c.maxLocals) (hd : decode c.code pc = .ok (.invokevirtual index, 3))
    (hW : (rest.map fun v => v.category).sum ≤ W) (hce : cells + kc ≤ R.cells) (hsl : slots + ks ≤ R.slots) :
    ∃ v T' L, Stand p l e R s m args below meth c T' (locs ++ L) (cells + kc) (slots + ks) ∧ Q v T'.heap L ∧ ∀ t, Steps p.tables e below (T'.setTop (mkF m (pc + 3) Ls (v.toList ++ rest))) t → Steps p.tables e below (T.setTop (mkF m pc Ls st)) t := by
  obtain ⟨cB, kB, q1, -, q3⟩ := isOf hZ eT E
  obtain ⟨v, _, ⟨T', L', k', n'⟩, -, X', ⟨L, hQ, l1, l2, l3⟩, st'⟩ := X.virtualBack hx hown (mvT hZ w1) (mvT hZ w2) hnf (mvT hZ w5) (mvT hZ w6) hy hK q1 q3 (g := mkF m pc Ls st) rfl hsz (Steps.refl _) (argsL := argsL) (rest := rest) hlen hst (by show 2 * 0 + _ ≤ _; omega) hd (fun _ _ => ⟨rfl, eT, hce, hsl⟩)
  dsimp only [Pt.U, Pt.locs, Pt.cells, Pt.slots] at X' l1 l2 l3 st' hQ
  subst l1 l2 l3
  exact ⟨v, T', L, X', hQ, fun t k => st'.trans k⟩
theorem callVirt (X : Stand p l e R s m args below meth c T locs cells slots) (hx : p.tables.exec = Jvm.exec) (hZ : Z.Warmed39 s.vm) {own C : String} {index : Nat} {y z : MethodName} {bytes : ByteArray} {maxL : Nat} {ret : Option FieldType} {rm : Room} {Q : Option Value → Heap → List Loc → Prop}
    (hown : s.vm.findClass own = some m.cls) (w1 : (Cond.methodLink own index y).before a0 Z = true) (w2 : (Cond.declares y).before a0 Z = true) (w5 : (Cond.selects C y z).before a0 Z = true) (hnf : NotFace s y) (w6 : (Cond.instanceMethod z).before a0 Z = true) (w3 : (Cond.initialized z.cls).before a0 Z = true) (w4 : (Cond.code z bytes maxL ret).before a0 Z = true)
    (hy : y.cls ≠ "java/lang/invoke/MethodHandle" ∧ y.cls ≠ "java/lang/invoke/VarHandle") {a : Addr} {argsL rest : List Value} (hM : Ctr l Z z bytes maxL ret rm (.ref a :: argsL).toArray h Q []) (eT : T.heap = h) (E : Exa Z h a C)
    (hlen : ∀ sig, parseMethodDescriptor y.desc = some sig → argsL.length = sig.parameters.length) {pc W : Nat} {Ls : Array Slot} {st : List Value} (hst : st = argsL.reverse ++ .ref a :: rest) (hsz : Ls.size = c.maxLocals) (hd : decode c.code pc = .ok (.invokevirtual index, 3))
    (hW : (rest.map fun v => v.category).sum ≤ W) (hfr : rm.frames + 1 ≤ R.frames) (hlo : W + (maxL + 11) + rm.locals ≤ R.locals) (hce : cells + rm.cells ≤ R.cells) (hsl : slots + rm.slots ≤ R.slots) :
    ∃ v T' L, Stand p l e R s m args below meth c T' (locs ++ L) (cells + rm.cells) (slots + rm.slots) ∧ Q v T'.heap L ∧ ∀ t, Steps p.tables e below (T'.setTop (mkF m (pc + 3) Ls (v.toList ++ rest))) t → Steps p.tables e below (T.setTop (mkF m pc Ls st)) t :=
  callVirtB X hx hZ hown w1 w2 w5 hnf w6 hy (backOf (W := W) hM hZ w4 w3 hfr hlo) eT E hlen hst hsz hd hW hce hsl
theorem callVirtUpB (X : Stand p l e R s m args below meth c T locs cells slots) (hx : p.tables.exec = Jvm.exec) (hZ : Z.Warmed39 s.vm) {own C owner : String} {index : Nat} {y z : MethodName} {kc ks : Nat} {Q : Option Value → Heap → List Loc → Prop}
    (hown : s.vm.findClass own = some m.cls) (w1 : (Cond.methodLink own index y).before a0 Z = true) (w7 : (Cond.sameMethod y.cls owner y.name y.desc).before a0 Z = true) (w2 : (Cond.declares ⟨owner, y.name, y.desc⟩).before a0 Z = true) (w5 : (Cond.selects C y z).before a0 Z = true) (w6 : (Cond.instanceMethod z).before a0 Z = true)
    (hy : owner ≠ "java/lang/invoke/MethodHandle" ∧ owner ≠ "java/lang/invoke/VarHandle") {a : Addr} {argsL rest : List Value} {W : Nat} (hK : BackQ l R p e below s args z W (.ref a :: argsL).toArray h kc ks Q) (eT : T.heap = h) (E : Exa Z h a C)
    (hlen : ∀ sig, parseMethodDescriptor y.desc = some sig → argsL.length = sig.parameters.length) {pc : Nat} {Ls : Array Slot} {st : List Value} (hst : st = argsL.reverse ++ .ref a :: rest) (hsz : Ls.size = c.maxLocals) (hd : decode c.code pc = .ok (.invokevirtual index, 3))
    (hW : (rest.map fun v => v.category).sum ≤ W) (hce : cells + kc ≤ R.cells) (hsl : slots + ks ≤ R.slots) :
    ∃ v T' L, Stand p l e R s m args below meth c T' (locs ++ L) (cells + kc) (slots + ks) ∧ Q v T'.heap L ∧ ∀ t, Steps p.tables e below (T'.setTop (mkF m (pc + 3) Ls (v.toList ++ rest))) t → Steps p.tables e below (T.setTop (mkF m pc Ls st)) t := by
  obtain ⟨cB, kB, q1, -, q3⟩ := isOf hZ eT E
  obtain ⟨v, _, ⟨T', L', k', n'⟩, -, X', ⟨L, hQ, l1, l2, l3⟩, st'⟩ := X.virtualBackUp hx hown (mvT hZ w1) (mvT hZ w7) (mvT hZ w2) hy (mvT hZ w5) (mvT hZ w6) hK q1 q3 (g := mkF m pc Ls st) rfl hsz (Steps.refl _) (argsL := argsL) (rest := rest) hlen hst (by show 2 * 0 + _ ≤ _; omega) hd (fun _ _ => ⟨rfl, eT, hce, hsl⟩)
  dsimp only [Pt.U, Pt.locs, Pt.cells, Pt.slots] at X' l1 l2 l3 st' hQ
  subst l1 l2 l3
  exact ⟨v, T', L, X', hQ, fun t k => st'.trans k⟩
theorem callVirtUp (X : Stand p l e R s m args below meth c T locs cells slots) (hx : p.tables.exec = Jvm.exec) (hZ : Z.Warmed39 s.vm) {own C owner : String} {index : Nat} {y z : MethodName} {bytes : ByteArray} {maxL : Nat} {ret : Option FieldType} {rm : Room} {Q : Option Value → Heap → List Loc → Prop}
    (hown : s.vm.findClass own = some m.cls) (w1 : (Cond.methodLink own index y).before a0 Z = true) (w7 : (Cond.sameMethod y.cls owner y.name y.desc).before a0 Z = true) (w2 : (Cond.declares ⟨owner, y.name, y.desc⟩).before a0 Z = true) (w5 : (Cond.selects C y z).before a0 Z = true) (w6 : (Cond.instanceMethod z).before a0 Z = true) (w3 : (Cond.initialized z.cls).before a0 Z = true) (w4 : (Cond.code z bytes maxL ret).before a0 Z = true)
    (hy : owner ≠ "java/lang/invoke/MethodHandle" ∧ owner ≠ "java/lang/invoke/VarHandle") {a : Addr} {argsL rest : List Value} (hM : Ctr l Z z bytes maxL ret rm (.ref a :: argsL).toArray h Q []) (eT : T.heap = h) (E : Exa Z h a C)
    (hlen : ∀ sig, parseMethodDescriptor y.desc = some sig → argsL.length = sig.parameters.length) {pc W : Nat} {Ls : Array Slot} {st : List Value} (hst : st = argsL.reverse ++ .ref a :: rest) (hsz : Ls.size = c.maxLocals) (hd : decode c.code pc = .ok (.invokevirtual index, 3))
    (hW : (rest.map fun v => v.category).sum ≤ W) (hfr : rm.frames + 1 ≤ R.frames) (hlo : W + (maxL + 11) + rm.locals ≤ R.locals) (hce : cells + rm.cells ≤ R.cells) (hsl : slots + rm.slots ≤ R.slots) :
    ∃ v T' L, Stand p l e R s m args below meth c T' (locs ++ L) (cells + rm.cells) (slots + rm.slots) ∧ Q v T'.heap L ∧ ∀ t, Steps p.tables e below (T'.setTop (mkF m (pc + 3) Ls (v.toList ++ rest))) t → Steps p.tables e below (T.setTop (mkF m pc Ls st)) t :=
  callVirtUpB X hx hZ hown w1 w7 w2 w5 w6 hy (backOf (W := W) hM hZ w4 w3 hfr hlo) eT E hlen hst hsz hd hW hce hsl
/-- invokevirtual of a private method -/
theorem callPrivB (X : Stand p l e R s m args below meth c T locs cells slots) (hx : p.tables.exec = Jvm.exec) (hZ : Z.Warmed39 s.vm) {own C : String} {index : Nat} {y : MethodName} {bytes : ByteArray} {maxL : Nat} {ret : Option FieldType} {kc ks : Nat} {Q : Option Value → Heap → List Loc → Prop}
    (hown : s.vm.findClass own = some m.cls) (w1 : (Cond.methodLink own index y).before a0 Z = true) (w2 : (Cond.instanceMethod y).before a0 Z = true) (w3 : (Cond.selects y.cls y y).before a0 Z = true) (w5 : (Cond.privateMethod y).before a0 Z = true) (w4 : (Cond.code y bytes maxL ret).before a0 Z = true)
    (hy : y.cls ≠ "java/lang/invoke/MethodHandle" ∧ y.cls ≠ "java/lang/invoke/VarHandle") {a : Addr} {argsL rest : List Value} {W : Nat} (hK : BackQ l R p e below s args y W (.ref a :: argsL).toArray h kc ks Q) (eT : T.heap = h) (E : Exa Z h a C)
    (hlen : ∀ sig, parseMethodDescriptor y.desc = some sig → argsL.length = sig.parameters.length) {pc : Nat} {Ls : Array Slot} {st : List Value} (hst : st = argsL.reverse ++ .ref a :: rest) (hsz : Ls.size = c.maxLocals) (hd : decode c.code pc = .ok (.invokevirtual index, 3))
    (hW : (rest.map fun v => v.category).sum ≤ W) (hce : cells + kc ≤ R.cells) (hsl : slots + ks ≤ R.slots) :
    ∃ v T' L, Stand p l e R s m args below meth c T' (locs ++ L) (cells + kc) (slots + ks) ∧ Q v T'.heap L ∧ ∀ t, Steps p.tables e below (T'.setTop (mkF m (pc + 3) Ls (v.toList ++ rest))) t → Steps p.tables e below (T.setTop (mkF m pc Ls st)) t := by
  obtain ⟨cell, q1, q2⟩ := Exa.cell E
  obtain ⟨v, _, ⟨T', L', k', n'⟩, -, X', ⟨L, hQ, l1, l2, l3⟩, st'⟩ := X.privateBack hx hown (mvT hZ w1) (mvT hZ w2) (mvT hZ w3) (Cond.privateMethod_at (args := args) (mvP hZ w5)) (mvT hZ w4) hy hK (g := mkF m pc Ls st) rfl hsz (Steps.refl _) (a := a) (by rw [eT]; exact q1) q2 (argsL := argsL) (rest := rest) hlen hst (by show 2 * 0 + _ ≤ _; omega) hd (fun _ _ => ⟨rfl, eT, hce, hsl⟩)
  dsimp only [Pt.U, Pt.locs, Pt.cells, Pt.slots] at X' l1 l2 l3 st' hQ
  subst l1 l2 l3
  exact ⟨v, T', L, X', hQ, fun t k => st'.trans k⟩
theorem callPriv (X : Stand p l e R s m args below meth c T locs cells slots) (hx : p.tables.exec = Jvm.exec) (hZ : Z.Warmed39 s.vm) {own C : String} {index : Nat} {y : MethodName} {bytes : ByteArray} {maxL : Nat} {ret : Option FieldType} {rm : Room} {Q : Option Value → Heap → List Loc → Prop}
    (hown : s.vm.findClass own = some m.cls) (w1 : (Cond.methodLink own index y).before a0 Z = true) (w2 : (Cond.instanceMethod y).before a0 Z = true) (w5 : (Cond.selects y.cls y y).before a0 Z = true) (w6 : (Cond.privateMethod y).before a0 Z = true) (w3 : (Cond.initialized y.cls).before a0 Z = true) (w4 : (Cond.code y bytes maxL ret).before a0 Z = true)
    (hy : y.cls ≠ "java/lang/invoke/MethodHandle" ∧ y.cls ≠ "java/lang/invoke/VarHandle") {a : Addr} {argsL rest : List Value} (hM : Ctr l Z y bytes maxL ret rm (.ref a :: argsL).toArray h Q []) (eT : T.heap = h) (E : Exa Z h a C)
    (hlen : ∀ sig, parseMethodDescriptor y.desc = some sig → argsL.length = sig.parameters.length) {pc W : Nat} {Ls : Array Slot} {st : List Value} (hst : st = argsL.reverse ++ .ref a :: rest) (hsz : Ls.size = c.maxLocals) (hd : decode c.code pc = .ok (.invokevirtual index, 3))
    (hW : (rest.map fun v => v.category).sum ≤ W) (hfr : rm.frames + 1 ≤ R.frames) (hlo : W + (maxL + 11) + rm.locals ≤ R.locals) (hce : cells + rm.cells ≤ R.cells) (hsl : slots + rm.slots ≤ R.slots) :
    ∃ v T' L, Stand p l e R s m args below meth c T' (locs ++ L) (cells + rm.cells) (slots + rm.slots) ∧ Q v T'.heap L ∧ ∀ t, Steps p.tables e below (T'.setTop (mkF m (pc + 3) Ls (v.toList ++ rest))) t → Steps p.tables e below (T.setTop (mkF m pc Ls st)) t :=
  callPrivB X hx hZ hown w1 w2 w5 w6 w4 hy (backOf (W := W) hM hZ w4 w3 hfr hlo) eT E hlen hst hsz hd hW hce hsl
abbrev BackQ5 (l : Launch) (R : Room) (p : Program) (e : Env) (below : List Frame) (s : State) (args : Array Value) (y : MethodName) (W : Nat) (as' : Array Value) (h : Heap) (kc ks : Nat) (Q : Option Value → Heap → List Loc → Prop) : Prop :=
  Back l R p e below s args y 5 W (fun A a => a = as' ∧ A.U.heap = h ∧ A.cells + kc ≤ R.cells ∧ A.slots + ks ≤ R.slots) (fun A _ v B => ∃ L, Q v B.U.heap L ∧ B.locs = A.locs ++ L ∧ B.cells = A.cells + kc ∧ B.slots = A.slots + ks)
theorem callFaceB (X : Stand p l e R s m args below meth c T locs cells slots) (hx : p.tables.exec = Jvm.exec) (hZ : Z.Warmed39 s.vm) {own C : String} {index count : Nat} {y z : MethodName} {kc ks : Nat} {Q : Option Value → Heap → List Loc → Prop}
    (hown : s.vm.findClass own = some m.cls) (w1 : (Cond.methodLink own index y).before a0 Z = true) (w2 : (Cond.declares y).before a0 Z = true) (w3 : (Cond.interfaceMethod y.cls y.cls y.name y.desc).before args s = true) (w5 : (Cond.selects C y z).before a0 Z = true) (w6 : (Cond.instanceMethod z).before a0 Z = true)
    (w7 : (Cond.publicMethod z).before a0 Z = true) (w8 : (Cond.unhidden C y.name y.desc).before a0 Z = true) (w9 : (Cond.castable C y.cls).before a0 Z = true)
    (hy : y.cls ≠ "java/lang/invoke/MethodHandle" ∧ y.cls ≠ "java/lang/invoke/VarHandle") {a : Addr} {argsL rest : List Value} {W : Nat} (hK : BackQ5 l R p e below s args z W (.ref a :: argsL).toArray h kc ks Q) (eT : T.heap = h) (E : Exa Z h a C)
    (hlen : ∀ sig, parseMethodDescriptor y.desc = some sig → argsL.length = sig.parameters.length) {pc : Nat} {Ls : Array Slot} {st : List Value} (hst : st = argsL.reverse ++ .ref a :: rest) (hsz : Ls.size = c.maxLocals) (hd : decode c.code pc = .ok (.invokeinterface index count, 5))
    (hW : (rest.map fun v => v.category).sum ≤ W) (hce : cells + kc ≤ R.cells) (hsl : slots + ks ≤ R.slots) :
    ∃ v T' L, Stand p l e R s m args below meth c T' (locs ++ L) (cells + kc) (slots + ks) ∧ Q v T'.heap L ∧ ∀ t, Steps p.tables e below (T'.setTop (mkF m (pc + 5) Ls (v.toList ++ rest))) t → Steps p.tables e below (T.setTop (mkF m pc Ls st)) t := by
  obtain ⟨cB, kB, q1, q2, q3⟩ := isOf hZ eT E
  obtain ⟨v, _, ⟨T', L', k', n'⟩, -, X', ⟨L, hQ, l1, l2, l3⟩, st'⟩ := X.interfaceBack hx hown (mvT hZ w1) (mvT hZ w2) w3 (mvT hZ w5) (mvT hZ w6) (mvT hZ w7) (mvT hZ w8) (mvT hZ w9) hy hK q1 q2 q3 (g := mkF m pc Ls st) rfl hsz (Steps.refl _) (argsL := argsL) (rest := rest) hlen hst (by show 2 * 0 + _ ≤ _; omega) hd (fun _ _ => ⟨rfl, eT, hce, hsl⟩)
  dsimp only [Pt.U, Pt.locs, Pt.cells, Pt.slots] at X' l1 l2 l3 st' hQ
  subst l1 l2 l3
  exact ⟨v, T', L, X', hQ, fun t k => st'.trans k⟩
theorem callFace (X : Stand p l e R s m args below meth c T locs cells slots) (hx : p.tables.exec = Jvm.exec) (hZ : Z.Warmed39 s.vm) {own C : String} {index count : Nat} {y z : MethodName} {bytes : ByteArray} {maxL : Nat} {ret : Option FieldType} {rm : Room} {Q : Option Value → Heap → List Loc → Prop}
    (hown : s.vm.findClass own = some m.cls) (w1 : (Cond.methodLink own index y).before a0 Z = true) (w2 : (Cond.declares y).before a0 Z = true) (wi : (Cond.interfaceMethod y.cls y.cls y.name y.desc).before args s = true) (w5 : (Cond.selects C y z).before a0 Z = true) (w6 : (Cond.instanceMethod z).before a0 Z = true)
    (w7 : (Cond.publicMethod z).before a0 Z = true) (w8 : (Cond.unhidden C y.name y.desc).before a0 Z = true) (w9 : (Cond.castable C y.cls).before a0 Z = true) (w3 : (Cond.initialized z.cls).before a0 Z = true) (w4 : (Cond.code z bytes maxL ret).before a0 Z = true)
    (hy : y.cls ≠ "java/lang/invoke/MethodHandle" ∧ y.cls ≠ "java/lang/invoke/VarHandle") {a : Addr} {argsL rest : List Value} (hM : Ctr l Z z bytes maxL ret rm (.ref a :: argsL).toArray h Q []) (eT : T.heap = h) (E : Exa Z h a C)
    (hlen : ∀ sig, parseMethodDescriptor y.desc = some sig → argsL.length = sig.parameters.length) {pc W : Nat} {Ls : Array Slot} {st : List Value} (hst : st = argsL.reverse ++ .ref a :: rest) (hsz : Ls.size = c.maxLocals) (hd : decode c.code pc = .ok (.invokeinterface index count, 5))
    (hW : (rest.map fun v => v.category).sum ≤ W) (hfr : rm.frames + 1 ≤ R.frames) (hlo : W + (maxL + 11) + rm.locals ≤ R.locals) (hce : cells + rm.cells ≤ R.cells) (hsl : slots + rm.slots ≤ R.slots) :
    ∃ v T' L, Stand p l e R s m args below meth c T' (locs ++ L) (cells + rm.cells) (slots + rm.slots) ∧ Q v T'.heap L ∧ ∀ t, Steps p.tables e below (T'.setTop (mkF m (pc + 5) Ls (v.toList ++ rest))) t → Steps p.tables e below (T.setTop (mkF m pc Ls st)) t :=
  callFaceB X hx hZ hown w1 w2 wi w5 w6 w7 w8 w9 hy (backOf (W := W) hM hZ w4 w3 hfr hlo) eT E hlen hst hsz hd hW hce hsl
theorem callFaceX (X : Stand p l e R s m args below meth c T locs cells slots) (hx : p.tables.exec = Jvm.exec) (hZ : Z.Warmed39 s.vm) {own C : String} {index count : Nat} {y z : MethodName} {bytes : ByteArray} {maxL : Nat} {ret : Option FieldType} {hs : List (Nat × Nat × Nat × Nat)} {rm : Room} {Q : Option Value → Heap → List Loc → Prop}
    (hown : s.vm.findClass own = some m.cls) (w1 : (Cond.methodLink own index y).before a0 Z = true) (w2 : (Cond.declares y).before a0 Z = true) (wi : (Cond.interfaceMethod y.cls y.cls y.name y.desc).before args s = true) (w5 : (Cond.selects C y z).before a0 Z = true) (w6 : (Cond.instanceMethod z).before a0 Z = true)
    (w7 : (Cond.publicMethod z).before a0 Z = true) (w8 : (Cond.unhidden C y.name y.desc).before a0 Z = true) (w9 : (Cond.castable C y.cls).before a0 Z = true) (w3 : (Cond.initialized z.cls).before a0 Z = true) (w4 : (Cond.codeWith z bytes maxL ret hs).before a0 Z = true)
    (hy : y.cls ≠ "java/lang/invoke/MethodHandle" ∧ y.cls ≠ "java/lang/invoke/VarHandle") {a : Addr} {argsL rest : List Value} (hM : CtrX l Z hs z bytes maxL ret rm (.ref a :: argsL).toArray h Q []) (eT : T.heap = h) (E : Exa Z h a C)
    (hlen : ∀ sig, parseMethodDescriptor y.desc = some sig → argsL.length = sig.parameters.length) {pc W : Nat} {Ls : Array Slot} {st : List Value} (hst : st = argsL.reverse ++ .ref a :: rest) (hsz : Ls.size = c.maxLocals) (hd : decode c.code pc = .ok (.invokeinterface index count, 5))
    (hW : (rest.map fun v => v.category).sum ≤ W) (hfr : rm.frames + 1 ≤ R.frames) (hlo : W + (maxL + 11) + rm.locals ≤ R.locals) (hce : cells + rm.cells ≤ R.cells) (hsl : slots + rm.slots ≤ R.slots) :
    ∃ v T' L, Stand p l e R s m args below meth c T' (locs ++ L) (cells + rm.cells) (slots + rm.slots) ∧ Q v T'.heap L ∧ ∀ t, Steps p.tables e below (T'.setTop (mkF m (pc + 5) Ls (v.toList ++ rest))) t → Steps p.tables e below (T.setTop (mkF m pc Ls st)) t :=
  callFaceB X hx hZ hown w1 w2 wi w5 w6 w7 w8 w9 hy (backOfWith (W := W) hM hZ w4 w3 hfr hlo) eT E hlen hst hsz hd hW hce hsl
/-- the class C has its Class object, at mr -/
def Mirr (Z : State) (C : String) (mr : Addr) : Prop := ∃ (c : ClassId) (k : Class), Z.vm.findClass C = some c ∧ Z.vm.classes[c]? = some k ∧ k.mirror = some mr
theorem mvD {own : String} {i : Nat} {b : UInt64} (hZ : Z.Warmed39 s.vm) (w : (Cond.constantDouble own i b).before a0 Z = true) : (Cond.constantDouble own i b).before args s = true :=
  Jvm.Lib.constantDouble_same (s := Z.setVm s.vm) (s' := s) (args := a0) (args' := args) rfl (by rw [Cond.constantDouble_setVm hZ.alike]; exact w)
theorem ldcM (X : Stand p l e R s m args below meth c T locs cells slots) (hx : p.tables.exec = Jvm.exec) (hZ : Z.Warmed39 s.vm) {own C : String} {index : Nat} (hown : s.vm.findClass own = some m.cls) (w1 : (Cond.classLink own index C).before a0 Z = true) (eT : T.heap = h) {mr : Addr} (M : Mirr Z C mr)
    {g : JFrame} (hg : g.method = m) (hd : decode c.code g.pc = .ok (.ldc index, 2)) :
    ∃ T', Stand p l e R s m args below meth c T' locs cells slots ∧ T'.heap = h ∧ ∀ target, Steps p.tables e below (T'.setTop { g with pc := g.pc + 2, stack := .ref mr :: g.stack }) target → Steps p.tables e below (T.setTop g) target := by
  obtain ⟨cc, kc, m1, m2, m3⟩ := M
  obtain ⟨k', q, ek⟩ := hZ.alike.2.2 _ _ m2
  obtain ⟨vm', X', st⟩ := X.ldcMirror hx hown (mvT hZ w1) (a := mr) (by
    have h1 : s.vm.findClass C = some cc := by rw [hZ.alike.findClass]; exact m1
    have h3 : k'.mirror = some mr := by rw [ek]; exact m3
    simp only [Term.eval, Option.bind_eq_bind, Option.bind_eq_some_iff, Option.pure_def, Option.some.injEq]
    exact ⟨cc, h1, k', q, mr, h3, rfl⟩) hg hd
  exact ⟨_, X', eT, st⟩
theorem gclsS (X : Stand p l e R s m args below meth c T locs cells slots) (hx : p.tables.exec = Jvm.exec) (hZ : Z.Warmed39 s.vm) {own C : String} {index : Nat} (hown : s.vm.findClass own = some m.cls)
    (w1 : (Cond.methodLink own index ⟨"java/lang/Object", "getClass", "()Ljava/lang/Class;"⟩).before a0 Z = true) (w2 : (Cond.declares ⟨"java/lang/Object", "getClass", "()Ljava/lang/Class;"⟩).before a0 Z = true) (w4 : (Cond.selects C ⟨"java/lang/Object", "getClass", "()Ljava/lang/Class;"⟩ ⟨"java/lang/Object", "getClass", "()Ljava/lang/Class;"⟩).before a0 Z = true)
    (w5 : (Cond.instanceMethod ⟨"java/lang/Object", "getClass", "()Ljava/lang/Class;"⟩).before a0 Z = true) (w6 : (Cond.native ⟨"java/lang/Object", "getClass", "()Ljava/lang/Class;"⟩).before a0 Z = true) (eT : T.heap = h) {a : Addr} (E : Exa Z h a C) {mr : Addr} (M : Mirr Z C mr)
    {g : JFrame} (hg : g.method = m) (hsize : g.locals.size = c.maxLocals) {rest : List Value} (hs : g.stack = .ref a :: rest) (hd : decode c.code g.pc = .ok (.invokevirtual index, 3)) (hf : 1 ≤ R.frames) {W : Nat} (hW : 2 * g.monitorRoom + (rest.map fun v => v.category).sum ≤ W) (hl : W + (nativeFrameWords "java/lang/Object" "getClass" 1 + 11) ≤ R.locals) :
    ∃ T', Stand p l e R s m args below meth c T' locs cells slots ∧ T'.heap = h ∧ ∀ target, Steps p.tables e below (T'.setTop { g with pc := g.pc + 3, stack := .ref mr :: rest }) target → Steps p.tables e below (T.setTop g) target := by
  obtain ⟨cB, kB, i1, i2, i3⟩ := isOf hZ eT E
  obtain ⟨cc, kc, m1, m2, m3⟩ := M
  rw [hZ.alike.findClass] at i1
  cases i1.symm.trans m1
  obtain ⟨k', q, ek⟩ := hZ.alike.2.2 _ _ m2
  obtain ⟨vm', X', st⟩ := X.getClassOf hx hown (mvT hZ w1) (mvT hZ w2) (notFace_of_selects (args := #[]) (mvT hZ w4)) (mvT hZ w4) (mvT hZ w5) (mvT hZ w6) (by rw [hZ.alike.findClass]; exact m1) i3 q (by rw [ek]; exact m3) hg hsize hs hd hf (by omega)
  exact ⟨_, X', eT, st⟩
theorem len_is {args : Array Value} {t : Term} {a : Addr} {cl : Cell} {ty : FieldType} {k : Int32} (ht : t.eval args s none [] s = some (.ref a)) (A : Arr s s.heap a cl ty) (hq : (Cond.eq (Term.length t) (Term.int k)).value args s none s [] = some true) : cl.slots.size < 2 ^ 31 ∧ cl.slots.size.toInt32 = k := by
  have ha := A.fin (Vm.Alike.refl s.vm)
  by_cases hl : cl.slots.size < 2 ^ 31
  · exact ⟨hl, gotT (Cond.eq_ints (len_f ht ha hl) (Term.int_eval k)) hq⟩
  · obtain ⟨v, y, e1, -, -, -⟩ := cmp_v (Or.inl hq)
    simp [Term.eval, ht, ha] at e1
    omega
theorem ns_root {O K : String} {n : Nat} (w : (Cond.noSuperclass O).before a0 Z = true) (wk : (Cond.instantiable K n).before a0 Z = true) (hn : O ≠ K) : NS Z O K := by
  obtain ⟨c, k, h1, h2, h3, -, -⟩ := Cond.noSuperclass_spec w
  obtain ⟨t, -, g1, -⟩ := Cond.instantiable_spec wk
  have ne := ids_ne h1 g1 hn
  refine ⟨c, t, h1, g1, fun fuel => ?_⟩
  cases fuel with
  | zero => rfl
  | succ f => simp [Vm.isSubclassAux, ne, h2, h3]
theorem ns_no {C S K : String} {n : Nat} (w : (Cond.superclass C S).before a0 Z = true) (wk : (Cond.instantiable K n).before a0 Z = true) (ns : NS Z C K) (hn : C ≠ K) : ∃ c t, Z.vm.findClass C = some c ∧ Z.vm.findClass K = some t ∧ Z.vm.assignable c t = false := by
  obtain ⟨c, t, h0, g0, n3⟩ := ns
  obtain ⟨p, k, kp, h1, h2, h3, h4, h5, -, h7⟩ := Cond.superclass_spec h0 w
  obtain ⟨t', k', g1, g2, g5, g6, -⟩ := Cond.instantiable_spec wk
  cases g0.symm.trans g1
  have g7 := (Bool.or_eq_false_iff.mp g6).1
  have ne := ids_ne h0 g0 hn
  refine ⟨c, t, h0, g0, ?_⟩
  show Z.vm.assignableAux (255 + 1) c t = false
  simp [Vm.assignableAux, ne, h2, g2, h5, g5, g7, Vm.isSubclass, n3]
end Own
end Jvm.OwnKit
namespace Jvm.Pilot.@@N@@
open Jvm Jvm.ClassFile Sem Op Lib Jvm.Free Jvm.Stand Jvm.LawKit Jvm.RoadKit Jvm.OwnKit Bundle Jvm.Pilot.@@N@@.Jvm.D
theorem Gv {tb : Tables} {e : Env} {below : List Frame} {Q : State → Outcome → Prop} {A : State} {m : MethodId} {ls : Array Slot} (T : State) (pc : Nat) (S : List Value) (f : ∀ t, Steps tb e below (T.setTop (mkF m pc ls S)) t → Steps tb e below A t) (k : Goes tb e below Q (T.setTop (mkF m pc ls S))) : Goes tb e below Q A := Goes.via f k
abbrev lv_ (x : Int64) : Slot := .val (.long x)
abbrev s_ : Slot := .second
abbrev u_ : Slot := .unset
abbrev Rm (f c s l : Nat) : Room := { frames := f, cells := c, slots := s, locals := l }
theorem W_ {a0 : Array Value} {Z : State} (hw : ∀ d ∈ tables_1, d.before a0 Z = true) (i : Nat) {d : Jvm.Cond} (h : tables_1[i]? = some d) : d.before a0 Z = true := hw _ (List.mem_of_getElem? h)
def own_fig (x1 : Int64) (kk : Int32) : Int32 := (((((x1.toUInt64 >>> (((8 : Int32) * kk) &&& 0x3f).toInt64.toUInt64).toInt64) &&& (255 : Int64)).toInt32) % (17 : Int32))
theorem own_figr (x1 : Int64) (kk : Int32) : 0 ≤ (own_fig x1 kk).toInt ∧ (own_fig x1 kk).toInt ≤ 16 := by
  unfold own_fig
  generalize ((x1.toUInt64 >>> (((8 : Int32) * kk) &&& 0x3f).toInt64.toUInt64).toInt64) = y
  have a := c_maskL y 255 8 (by decide) rfl
  have b := c_l2i (y &&& 255)
  have g := rng32 (y &&& 255).toInt32
  have q := (c_irem (y &&& 255).toInt32 17 17 rfl).1 (by omega)
  rw [q]; omega
def own_d (k : Int32) : UInt64 := FP.ddiv (FP.i2d k) (4625196817309499392 : UInt64)
def own_q (n k : Int32) : UInt64 := FP.ddiv (own_d k) (FP.i2d n)
abbrev NN (r : UInt64) : Prop := r &&& 0x7fffffffffffffff ≤ 0x7ff0000000000000
set_option maxRecDepth 100000 in
theorem own_t1 : (List.range 49).all (fun s => decide (NN (own_d (Int32.ofNat s)))) = true := by decide +kernel
set_option maxRecDepth 100000 in
theorem own_t2 : (List.range 33).all (fun s => (List.range 17).all fun t => decide (FP.dadd (own_d (Int32.ofNat s)) (own_d (Int32.ofNat t)) = own_d (Int32.ofNat s + Int32.ofNat t))) = true := by decide +kernel
set_option maxRecDepth 100000 in
theorem own_t3 : (List.range 17).all (fun t => decide (FP.dadd FP.dconst0 (own_d (Int32.ofNat t)) = own_d (Int32.ofNat t))) = true := by decide +kernel
set_option maxRecDepth 100000 in
theorem own_t4 : (List.range 49).all (fun s => (List.range 3).all fun n => decide (NN (own_q (Int32.ofNat (n + 1)) (Int32.ofNat s))) && decide (cmpValue (FP.dcmp (own_q (Int32.ofNat (n + 1)) (Int32.ofNat s)) (own_q (Int32.ofNat (n + 1)) (Int32.ofNat s))) .l = 0)) = true := by decide +kernel
theorem own_nat {k : Int32} {b : Nat} (h : 0 ≤ k.toInt ∧ k.toInt ≤ b) (hb : b < 1000) : ∃ n, n < b + 1 ∧ k = Int32.ofNat n := by
  refine ⟨k.toInt.toNat, by omega, ?_⟩
  apply Int32.toInt_inj.mp
  rw [Int32.toInt_ofNat_of_lt (by omega)]
  omega
theorem own_nn {k : Int32} (h : 0 ≤ k.toInt ∧ k.toInt ≤ 48) : NN (own_d k) := by
  obtain ⟨n, hn, rfl⟩ := own_nat (b := 48) h (by decide)
  exact of_decide_eq_true (List.all_eq_true.mp own_t1 n (List.mem_range.mpr hn))
theorem own_add {s t : Int32} (h : 0 ≤ s.toInt ∧ s.toInt ≤ 32) (h' : 0 ≤ t.toInt ∧ t.toInt ≤ 16) : FP.dadd (own_d s) (own_d t) = own_d (s + t) := by
  obtain ⟨n, hn, rfl⟩ := own_nat (b := 32) h (by decide)
  obtain ⟨m, hm, rfl⟩ := own_nat (b := 16) h' (by decide)
  exact of_decide_eq_true (List.all_eq_true.mp (List.all_eq_true.mp own_t2 n (List.mem_range.mpr hn)) m (List.mem_range.mpr hm))
theorem own_zero {t : Int32} (h' : 0 ≤ t.toInt ∧ t.toInt ≤ 16) : FP.dadd FP.dconst0 (own_d t) = own_d t := by
  obtain ⟨m, hm, rfl⟩ := own_nat (b := 16) h' (by decide)
  exact of_decide_eq_true (List.all_eq_true.mp own_t3 m (List.mem_range.mpr hm))
theorem own_sum {s t : Int32} {a b : Nat} (h : 0 ≤ s.toInt ∧ s.toInt ≤ a) (h' : 0 ≤ t.toInt ∧ t.toInt ≤ b) (hb : a + b < 1000) : 0 ≤ (s + t).toInt ∧ (s + t).toInt ≤ ((a + b : Nat) : Int) := by
  have q := c_iadd s t
  have g := rng32 (s + t)
  omega
theorem own_nna {s t : Int32} (h : 0 ≤ s.toInt ∧ s.toInt ≤ 32) (h' : 0 ≤ t.toInt ∧ t.toInt ≤ 16) : NN (FP.dadd (own_d s) (own_d t)) := by
  rw [own_add h h']; exact own_nn (own_sum (a := 32) (b := 16) h h' (by decide))
theorem own_nn0 {t : Int32} (h' : 0 ≤ t.toInt ∧ t.toInt ≤ 16) : NN (FP.dadd FP.dconst0 (own_d t)) := by
  rw [own_zero h']; exact own_nn ⟨h'.1, by omega⟩
theorem own_qs {k n : Int32} (h : 0 ≤ k.toInt ∧ k.toInt ≤ 48) (hn : n = 1 ∨ n = 2 ∨ n = 3) : NN (own_q n k) ∧ cmpValue (FP.dcmp (own_q n k) (own_q n k)) .l = 0 := by
  obtain ⟨s, hs, rfl⟩ := own_nat (b := 48) h (by decide)
  have z := List.all_eq_true.mp own_t4 s (List.mem_range.mpr hs)
  have f : ∀ j : Nat, j < 3 → NN (own_q (Int32.ofNat (j + 1)) (Int32.ofNat s)) ∧ cmpValue (FP.dcmp (own_q (Int32.ofNat (j + 1)) (Int32.ofNat s)) (own_q (Int32.ofNat (j + 1)) (Int32.ofNat s))) .l = 0 := fun j hj => by
    have y := List.all_eq_true.mp z j (List.mem_range.mpr hj)
    rw [Bool.and_eq_true] at y
    exact ⟨of_decide_eq_true y.1, of_decide_eq_true y.2⟩
  rcases hn with rfl | rfl | rfl
  · exact f 0 (by decide)
  · exact f 1 (by decide)
  · exact f 2 (by decide)
theorem own_up {s : Int32} {a b : Int} (h : 0 ≤ s.toInt ∧ s.toInt ≤ a) (hb : a ≤ b) : 0 ≤ s.toInt ∧ s.toInt ≤ b := ⟨h.1, Int.le_trans h.2 hb⟩
theorem own_dE (k : Int32) : FP.ddiv (FP.i2d k) (4625196817309499392 : UInt64) = own_d k := by unfold own_d; rfl
theorem own_nnD {k : Int32} (h : 0 ≤ k.toInt ∧ k.toInt ≤ 48) : Jvm.Free.Fl.NoNaN64 (FP.ddiv (FP.i2d k) (4625196817309499392 : UInt64)) := by rw [own_dE]; exact own_nn h
theorem own_rem3 (x : Int32) : (x &&& 2147483647) % 3 + 1 = 1 ∨ (x &&& 2147483647) % 3 + 1 = 2 ∨ (x &&& 2147483647) % 3 + 1 = 3 := by
  have q := c_and x 2147483647 (by decide)
  have r := (c_irem (x &&& 2147483647) 3 3 rfl).1 q.1
  have s := c_iadd ((x &&& 2147483647) % 3) 1
  have g := rng32 ((x &&& 2147483647) % 3 + 1)
  have e1 : (1 : Int32).toInt = 1 := rfl
  have e2 : (2 : Int32).toInt = 2 := rfl
  have e3 : (3 : Int32).toInt = 3 := rfl
  simp only [← Int32.toInt_inj, e1, e2, e3]
  rw [e1] at s
  omega
theorem own_pn0 : plainName "com/example/wakenitz/wakenitz/measure/ScoreSheetMeanPinLaw" = true := by first | (simp [plainName, overriddenIn]; done) | decide +kernel
theorem d_2_0 : decode method_2_code 0 = .ok (.lload_n 0, 1) := by decide +kernel
theorem d_2_1 : decode method_2_code 1 = .ok (.bipush 8, 2) := by decide +kernel
theorem d_2_3 : decode method_2_code 3 = .ok (.iload_n 2, 1) := by decide +kernel
theorem d_2_4 : decode method_2_code 4 = .ok (.imul, 1) := by decide +kernel
theorem d_2_5 : decode method_2_code 5 = .ok (.lushr, 1) := by decide +kernel
theorem d_2_6 : decode method_2_code 6 = .ok (.ldc2_w 7, 3) := by decide +kernel
theorem d_2_9 : decode method_2_code 9 = .ok (.land, 1) := by decide +kernel
theorem d_2_10 : decode method_2_code 10 = .ok (.l2i, 1) := by decide +kernel
theorem d_2_11 : decode method_2_code 11 = .ok (.bipush 17, 2) := by decide +kernel
theorem d_2_13 : decode method_2_code 13 = .ok (.irem, 1) := by decide +kernel
theorem d_2_14 : decode method_2_code 14 = .ok (.ireturn, 1) := by decide +kernel
theorem own_ef1 (m : MethodId) (x0 : Int64) (x1 : Int32)  : entryFrame m #[(.long x0), (.int x1)] 3 = mkF m 0 #[lv_ x0, s_, iv x1] [] := by first | (simp [entryFrame, mkF, argsToLocals, Value.category]; done) | rfl
abbrev own_Q1 (Z : State) (x1 : Int64) (kk : Int32) (h0 : Heap) (n0 : Nat) (v : Option Value) (h : Heap) (L : List Loc) : Prop := v = some (.int (own_fig x1 kk)) ∧ Fr n0 L ∧ h = h0
set_option maxRecDepth 65536 in
set_option maxHeartbeats 40000000 in
theorem own_m1 (l : Launch) (Z : State) (a0 : Array Value) (hw : ∀ d ∈ tables_1, d.before a0 Z = true) (ws : List Jvm.Cond) (x1 : Int64) (kk : Int32) (h0 : Heap) (n0 : Nat) (O0 : Old Z n0 h0) :
    Ctr l Z (⟨"com/example/wakenitz/wakenitz/measure/ScoreSheetMeanPinLaw", "fig", "(JI)I"⟩ : MethodName) method_2_code 3 (some .int) (Rm 0 0 0 0) #[(.long x1), (.int kk)] h0 (own_Q1 Z x1 kk h0 n0) ws := by
  refine MetFree.of_bodySF (plainFor_of_name own_pn0) hisR ?_
  intro p e s m args below meth c s₁ Bd hml0 hP hK
  obtain ⟨rfl, hZ, hh⟩ := hP
  have hx := Bd.exec
  have hby := Bd.bytes
  have hlk : meth.locks = false := Bd.notSynchronized
  have hml : c.maxLocals = 3 := hml0
  have hown : s.vm.findClass "com/example/wakenitz/wakenitz/measure/ScoreSheetMeanPinLaw" = some m.cls := findClass_of_methodNamed Bd.named
  have hnm := (name_of_methodNamed Bd.named Bd.method).1
  have X0 : Stand p l e (Rm 0 0 0 0) s m #[(.long x1), (.int kk)] below meth c s₁ [] 0 0 := Stand.of_body Bd
  have e0 : s₁.heap = h0 := by rw [← hh, Bd.state]; rfl
  have N0 := Fr.nil n0
  show Goes p.tables e below (fun t o => ∃ v L, o = .returned v ∧ (own_Q1 Z x1 kk h0 n0) v t.heap L ∧ FrameEnd s o t L ((Rm 0 0 0 0)).cells ((Rm 0 0 0 0)).slots) _
  refine Goes.via (B := s₁.setTop (mkF m 0 #[lv_ x1, s_, iv kk] [])) (fun t k => castTop (own_ef1 m x1 kk) k) ?_
  refine Gv s₁ 1 [(.long x1)] (fun t k => XS.lloadN X0.here hx rfl (hb hby d_2_0) rfl k) ?_
  refine Gv s₁ 3 [(.int (8 : Int32)), (.long x1)] (fun t k => XS.bipush X0.here hx rfl (hb hby d_2_1) k) ?_
  refine Gv s₁ 4 [(.int kk), (.int (8 : Int32)), (.long x1)] (fun t k => XS.iloadN X0.here hx rfl (hb hby d_2_3) rfl k) ?_
  refine Gv s₁ 5 [(.int ((8 : Int32) * kk)), (.long x1)] (fun t k => XS.imul X0.here hx rfl (hb hby d_2_4) rfl k) ?_
  refine Gv s₁ 6 [(.long ((x1.toUInt64 >>> (((8 : Int32) * kk) &&& 0x3f).toInt64.toUInt64).toInt64))] (fun t k => XS.lushr X0.here hx rfl (hb hby d_2_5) rfl k) ?_
  refine Goes.via (B := s₁.setTop (mkF m 9 #[lv_ x1, s_, iv kk] [(.long (255 : Int64)), (.long ((x1.toUInt64 >>> (((8 : Int32) * kk) &&& 0x3f).toInt64.toUInt64).toInt64))])) (fun t k => X0.ldc2J hx hown (mvT hZ (W_ hw 48 rfl)) rfl (hb hby d_2_6) k) ?_
  refine Gv s₁ 10 [(.long (((x1.toUInt64 >>> (((8 : Int32) * kk) &&& 0x3f).toInt64.toUInt64).toInt64) &&& (255 : Int64)))] (fun t k => XS.land X0.here hx rfl (hb hby d_2_9) rfl k) ?_
  refine Gv s₁ 11 [(.int ((((x1.toUInt64 >>> (((8 : Int32) * kk) &&& 0x3f).toInt64.toUInt64).toInt64) &&& (255 : Int64)).toInt32))] (fun t k => XS.l2i X0.here hx rfl (hb hby d_2_10) rfl k) ?_
  refine Gv s₁ 13 [(.int (17 : Int32)), (.int ((((x1.toUInt64 >>> (((8 : Int32) * kk) &&& 0x3f).toInt64.toUInt64).toInt64) &&& (255 : Int64)).toInt32))] (fun t k => XS.bipush X0.here hx rfl (hb hby d_2_11) k) ?_
  refine Goes.via (B := s₁.setTop (mkF m 14 #[lv_ x1, s_, iv kk] [(.int (((((x1.toUInt64 >>> (((8 : Int32) * kk) &&& 0x3f).toInt64.toUInt64).toInt64) &&& (255 : Int64)).toInt32) % (17 : Int32)))])) (fun t k => iremM X0 hx rfl (hb hby d_2_13) rfl (by decide) k) ?_
  exact finI (Q := (own_Q1 Z x1 kk h0 n0)) (F := FrameEnd) (C := ((Rm 0 0 0 0)).cells) (S := ((Rm 0 0 0 0)).slots) X0 hx Bd.returns (hb hby d_2_14) e0 ⟨rfl, N0, rfl⟩ (lvN X0 hlk (by decide) (by decide))
theorem own_pn1 : plainName "java/lang/Record" = true := by first | (simp [plainName, overriddenIn]; done) | decide +kernel
theorem d_jdk_30_1_0 : decode jdk_30_method_1_code 0 = .ok (.aload_n 0, 1) := by decide +kernel
theorem d_jdk_30_1_1 : decode jdk_30_method_1_code 1 = .ok (.invokespecial 1, 3) := by decide +kernel
theorem d_jdk_30_1_4 : decode jdk_30_method_1_code 4 = .ok (.return_, 1) := by decide +kernel
theorem own_ef2 (m : MethodId) (x0 : Addr)  : entryFrame m #[(.ref x0)] 1 = mkF m 0 #[rv x0] [] := by first | (simp [entryFrame, mkF, argsToLocals, Value.category]; done) | rfl
abbrev own_Q2 (Z : State) (a1 : Addr) (h0 : Heap) (n0 : Nat) (v : Option Value) (h : Heap) (L : List Loc) : Prop := v = none ∧ Fr n0 L ∧ h = h0
set_option maxRecDepth 65536 in
set_option maxHeartbeats 40000000 in
theorem own_m2 (l : Launch) (Z : State) (a0 : Array Value) (hw : ∀ d ∈ tables_1, d.before a0 Z = true) (ws : List Jvm.Cond) (a1 : Addr) (h0 : Heap) (n0 : Nat) (O0 : Old Z n0 h0) :
    Ctr l Z (⟨"java/lang/Record", "<init>", "()V"⟩ : MethodName) jdk_30_method_1_code 1 none (Rm 1 0 0 12) #[(.ref a1)] h0 (own_Q2 Z a1 h0 n0) ws := by
  refine MetFree.of_bodySF (plainFor_of_name own_pn1) hisR ?_
  intro p e s m args below meth c s₁ Bd hml0 hP hK
  obtain ⟨rfl, hZ, hh⟩ := hP
  have hx := Bd.exec
  have hby := Bd.bytes
  have hlk : meth.locks = false := Bd.notSynchronized
  have hml : c.maxLocals = 1 := hml0
  have hown : s.vm.findClass "java/lang/Record" = some m.cls := findClass_of_methodNamed Bd.named
  have hnm := (name_of_methodNamed Bd.named Bd.method).1
  have X0 : Stand p l e (Rm 1 0 0 12) s m #[(.ref a1)] below meth c s₁ [] 0 0 := Stand.of_body Bd
  have e0 : s₁.heap = h0 := by rw [← hh, Bd.state]; rfl
  have N0 := Fr.nil n0
  show Goes p.tables e below (fun t o => ∃ v L, o = .returned v ∧ (own_Q2 Z a1 h0 n0) v t.heap L ∧ FrameEnd s o t L ((Rm 1 0 0 12)).cells ((Rm 1 0 0 12)).slots) _
  refine Goes.via (B := s₁.setTop (mkF m 0 #[rv a1] [])) (fun t k => castTop (own_ef2 m a1) k) ?_
  refine Gv s₁ 1 [(.ref a1)] (fun t k => XS.aloadN X0.here hx rfl (hb hby d_jdk_30_1_0) rfl rfl k) ?_
  obtain ⟨T1, X1, e1, st1⟩ := initO X0 hx hZ hown (W_ hw 58 rfl) (W_ hw 20 rfl) (W_ hw 21 rfl) e0 (g := (mkF m 1 #[rv a1] [(.ref a1)])) rfl (by rw [hml]; rfl) rfl (hb hby d_jdk_30_1_1) (by decide) (W := 0) (by show 2 * 0 + _ ≤ _; exact Nat.le_of_eq rfl) (by decide)
  refine Goes.via (B := T1.setTop (mkF m 4 #[rv a1] [])) (fun t k => st1 _ k) ?_
  exact fin0 (Q := (own_Q2 Z a1 h0 n0)) (F := FrameEnd) (C := ((Rm 1 0 0 12)).cells) (S := ((Rm 1 0 0 12)).slots) X1 hx Bd.returns (hb hby d_jdk_30_1_4) e1 ⟨rfl, N0, rfl⟩ (lvN X1 hlk (by decide) (by decide))
theorem own_pn2 : plainName "java/util/AbstractCollection" = true := by first | (simp [plainName, overriddenIn]; done) | decide +kernel
theorem d_jdk_22_1_0 : decode jdk_22_method_1_code 0 = .ok (.aload_n 0, 1) := by decide +kernel
theorem d_jdk_22_1_1 : decode jdk_22_method_1_code 1 = .ok (.invokespecial 1, 3) := by decide +kernel
theorem d_jdk_22_1_4 : decode jdk_22_method_1_code 4 = .ok (.return_, 1) := by decide +kernel
theorem own_ef3 (m : MethodId) (x0 : Addr)  : entryFrame m #[(.ref x0)] 1 = mkF m 0 #[rv x0] [] := by first | (simp [entryFrame, mkF, argsToLocals, Value.category]; done) | rfl
abbrev own_Q3 (Z : State) (a1 : Addr) (h0 : Heap) (n0 : Nat) (v : Option Value) (h : Heap) (L : List Loc) : Prop := v = none ∧ Fr n0 L ∧ h = h0
set_option maxRecDepth 65536 in
set_option maxHeartbeats 40000000 in
theorem own_m3 (l : Launch) (Z : State) (a0 : Array Value) (hw : ∀ d ∈ tables_1, d.before a0 Z = true) (ws : List Jvm.Cond) (a1 : Addr) (h0 : Heap) (n0 : Nat) (O0 : Old Z n0 h0) :
    Ctr l Z (⟨"java/util/AbstractCollection", "<init>", "()V"⟩ : MethodName) jdk_22_method_1_code 1 none (Rm 1 0 0 12) #[(.ref a1)] h0 (own_Q3 Z a1 h0 n0) ws := by
  refine MetFree.of_bodySF (plainFor_of_name own_pn2) hisR ?_
  intro p e s m args below meth c s₁ Bd hml0 hP hK
  obtain ⟨rfl, hZ, hh⟩ := hP
  have hx := Bd.exec
  have hby := Bd.bytes
  have hlk : meth.locks = false := Bd.notSynchronized
  have hml : c.maxLocals = 1 := hml0
  have hown : s.vm.findClass "java/util/AbstractCollection" = some m.cls := findClass_of_methodNamed Bd.named
  have hnm := (name_of_methodNamed Bd.named Bd.method).1
  have X0 : Stand p l e (Rm 1 0 0 12) s m #[(.ref a1)] below meth c s₁ [] 0 0 := Stand.of_body Bd
  have e0 : s₁.heap = h0 := by rw [← hh, Bd.state]; rfl
  have N0 := Fr.nil n0
  show Goes p.tables e below (fun t o => ∃ v L, o = .returned v ∧ (own_Q3 Z a1 h0 n0) v t.heap L ∧ FrameEnd s o t L ((Rm 1 0 0 12)).cells ((Rm 1 0 0 12)).slots) _
  refine Goes.via (B := s₁.setTop (mkF m 0 #[rv a1] [])) (fun t k => castTop (own_ef3 m a1) k) ?_
  refine Gv s₁ 1 [(.ref a1)] (fun t k => XS.aloadN X0.here hx rfl (hb hby d_jdk_22_1_0) rfl rfl k) ?_
  obtain ⟨T1, X1, e1, st1⟩ := initO X0 hx hZ hown (W_ hw 19 rfl) (W_ hw 20 rfl) (W_ hw 21 rfl) e0 (g := (mkF m 1 #[rv a1] [(.ref a1)])) rfl (by rw [hml]; rfl) rfl (hb hby d_jdk_22_1_1) (by decide) (W := 0) (by show 2 * 0 + _ ≤ _; exact Nat.le_of_eq rfl) (by decide)
  refine Goes.via (B := T1.setTop (mkF m 4 #[rv a1] [])) (fun t k => st1 _ k) ?_
  exact fin0 (Q := (own_Q3 Z a1 h0 n0)) (F := FrameEnd) (C := ((Rm 1 0 0 12)).cells) (S := ((Rm 1 0 0 12)).slots) X1 hx Bd.returns (hb hby d_jdk_22_1_4) e1 ⟨rfl, N0, rfl⟩ (lvN X1 hlk (by decide) (by decide))
theorem own_pn3 : plainName "com/example/wakenitz/wakenitz/measure/Score" = true := by first | (simp [plainName, overriddenIn]; done) | decide +kernel
theorem d_prog_18_1_0 : decode prog_18_method_1_code 0 = .ok (.aload_n 0, 1) := by decide +kernel
theorem d_prog_18_1_1 : decode prog_18_method_1_code 1 = .ok (.invokespecial 1, 3) := by decide +kernel
theorem own_pd0 : parseMethodDescriptor "()V" = some ⟨[], none⟩ := by decide +kernel
theorem d_prog_18_1_4 : decode prog_18_method_1_code 4 = .ok (.aload_n 0, 1) := by decide +kernel
theorem d_prog_18_1_5 : decode prog_18_method_1_code 5 = .ok (.dload_n 1, 1) := by decide +kernel
theorem d_prog_18_1_6 : decode prog_18_method_1_code 6 = .ok (.putfield 7, 3) := by decide +kernel
theorem d_prog_18_1_9 : decode prog_18_method_1_code 9 = .ok (.aload_n 0, 1) := by decide +kernel
theorem d_prog_18_1_10 : decode prog_18_method_1_code 10 = .ok (.dload_n 3, 1) := by decide +kernel
theorem d_prog_18_1_11 : decode prog_18_method_1_code 11 = .ok (.putfield 13, 3) := by decide +kernel
theorem d_prog_18_1_14 : decode prog_18_method_1_code 14 = .ok (.aload_n 0, 1) := by decide +kernel
theorem d_prog_18_1_15 : decode prog_18_method_1_code 15 = .ok (.dload 5, 2) := by decide +kernel
theorem d_prog_18_1_17 : decode prog_18_method_1_code 17 = .ok (.putfield 16, 3) := by decide +kernel
theorem d_prog_18_1_20 : decode prog_18_method_1_code 20 = .ok (.aload_n 0, 1) := by decide +kernel
theorem d_prog_18_1_21 : decode prog_18_method_1_code 21 = .ok (.dload 7, 2) := by decide +kernel
theorem d_prog_18_1_23 : decode prog_18_method_1_code 23 = .ok (.putfield 19, 3) := by decide +kernel
theorem d_prog_18_1_26 : decode prog_18_method_1_code 26 = .ok (.return_, 1) := by decide +kernel
theorem own_ef4 (m : MethodId) (x0 : Addr) (x1 : UInt64) (x2 : UInt64) (x3 : UInt64) (x4 : UInt64)  : entryFrame m #[(.ref x0), (.double x1), (.double x2), (.double x3), (.double x4)] 9 = mkF m 0 #[rv x0, .val (.double x1), s_, .val (.double x2), s_, .val (.double x3), s_, .val (.double x4), s_] [] := by first | (simp [entryFrame, mkF, argsToLocals, Value.category]; done) | rfl
abbrev own_Q4 (Z : State) (a1 : Addr) (dva : UInt64) (dvb : UInt64) (dvc : UInt64) (dvd : UInt64) (h0 : Heap) (n0 : Nat) (v : Option Value) (h : Heap) (L : List Loc) : Prop := v = none ∧ Fr n0 L ∧ Keep h0 h [a1] ∧ Exa Z h a1 "com/example/wakenitz/wakenitz/measure/Score" ∧ Fld Z h a1 "com/example/wakenitz/wakenitz/measure/Score" "precision" "D" (.double dva) ∧ Fld Z h a1 "com/example/wakenitz/wakenitz/measure/Score" "recall" "D" (.double dvb) ∧ Fld Z h a1 "com/example/wakenitz/wakenitz/measure/Score" "f1" "D" (.double dvc) ∧ Fld Z h a1 "com/example/wakenitz/wakenitz/measure/Score" "similarity" "D" (.double dvd)
set_option maxRecDepth 65536 in
set_option maxHeartbeats 40000000 in
theorem own_m4 (l : Launch) (Z : State) (a0 : Array Value) (hw : ∀ d ∈ tables_1, d.before a0 Z = true) (ws : List Jvm.Cond) (a1 : Addr) (dva : UInt64) (dvb : UInt64) (dvc : UInt64) (dvd : UInt64) (h0 : Heap) (n0 : Nat) (O0 : Old Z n0 h0) (gn_a1 : n0 ≤ a1) (F_1 : Exa Z h0 a1 "com/example/wakenitz/wakenitz/measure/Score") (F_2 : Fld Z h0 a1 "com/example/wakenitz/wakenitz/measure/Score" "precision" "D" (.double (0 : UInt64))) (F_3 : Fld Z h0 a1 "com/example/wakenitz/wakenitz/measure/Score" "recall" "D" (.double (0 : UInt64))) (F_4 : Fld Z h0 a1 "com/example/wakenitz/wakenitz/measure/Score" "f1" "D" (.double (0 : UInt64))) (F_5 : Fld Z h0 a1 "com/example/wakenitz/wakenitz/measure/Score" "similarity" "D" (.double (0 : UInt64))) :
    Ctr l Z (⟨"com/example/wakenitz/wakenitz/measure/Score", "<init>", "(DDDD)V"⟩ : MethodName) prog_18_method_1_code 9 none (Rm 2 0 0 24) #[(.ref a1), (.double dva), (.double dvb), (.double dvc), (.double dvd)] h0 (own_Q4 Z a1 dva dvb dvc dvd h0 n0) ws := by
  refine MetFree.of_bodySF (plainFor_of_name own_pn3) hisR ?_
  intro p e s m args below meth c s₁ Bd hml0 hP hK
  obtain ⟨rfl, hZ, hh⟩ := hP
  have hx := Bd.exec
  have hby := Bd.bytes
  have hlk : meth.locks = false := Bd.notSynchronized
  have hml : c.maxLocals = 9 := hml0
  have hown : s.vm.findClass "com/example/wakenitz/wakenitz/measure/Score" = some m.cls := findClass_of_methodNamed Bd.named
  have hnm := (name_of_methodNamed Bd.named Bd.method).1
  have X0 : Stand p l e (Rm 2 0 0 24) s m #[(.ref a1), (.double dva), (.double dvb), (.double dvc), (.double dvd)] below meth c s₁ [] 0 0 := Stand.of_body Bd
  have e0 : s₁.heap = h0 := by rw [← hh, Bd.state]; rfl
  have N0 := Fr.nil n0
  show Goes p.tables e below (fun t o => ∃ v L, o = .returned v ∧ (own_Q4 Z a1 dva dvb dvc dvd h0 n0) v t.heap L ∧ FrameEnd s o t L ((Rm 2 0 0 24)).cells ((Rm 2 0 0 24)).slots) _
  refine Goes.via (B := s₁.setTop (mkF m 0 #[rv a1, .val (.double dva), s_, .val (.double dvb), s_, .val (.double dvc), s_, .val (.double dvd), s_] [])) (fun t k => castTop (own_ef4 m a1 dva dvb dvc dvd) k) ?_
  refine Gv s₁ 1 [(.ref a1)] (fun t k => XS.aloadN X0.here hx rfl (hb hby d_prog_18_1_0) rfl rfl k) ?_
  obtain ⟨_, T1, L1, X1, ⟨rfl, M1, K1⟩, st1⟩ := callInit X0 hx hZ rfl hown (W_ hw 53 rfl) (W_ hw 54 rfl) (W_ hw 56 rfl) (W_ hw 57 rfl) (by decide) (argsL := []) (rest := []) (own_m2 l Z a0 hw [] a1 h0 n0 O0 ) e0 (lenOf own_pd0 rfl) (pc := 1) (Ls := #[rv a1, .val (.double dva), s_, .val (.double dvb), s_, .val (.double dvc), s_, .val (.double dvd), s_]) (st := [(.ref a1)]) rfl (by rw [hml]; rfl) (hb hby d_prog_18_1_1) (W := 0) (Nat.le_of_eq rfl) (by decide) (by decide) (by decide) (by decide)
  have N1 := Fr.app N0 M1
  refine Goes.via (B := T1.setTop (mkF m 4 #[rv a1, .val (.double dva), s_, .val (.double dvb), s_, .val (.double dvc), s_, .val (.double dvd), s_] [])) (fun t k => st1 _ k) ?_
  refine Gv T1 5 [(.ref a1)] (fun t k => XS.aloadN X1.here hx rfl (hb hby d_prog_18_1_4) rfl rfl k) ?_
  refine Gv T1 6 [(.double dva), (.ref a1)] (fun t k => XS.dloadN X1.here hx rfl (hb hby d_prog_18_1_5) rfl k) ?_
  obtain ⟨T2, h2, X2, e2, W2, st2⟩ := putF X1 hx hZ hown (host := "") (Or.inl (W_ hw 59 rfl)) Via.refl K1 F_2 F_1 (Or.inr ⟨(W_ hw 60 rfl), rfl, hnm⟩) (W_ hw 43 rfl) (ty := .double) (by decide) rfl rfl (g := (mkF m 6 #[rv a1, .val (.double dva), s_, .val (.double dvb), s_, .val (.double dvc), s_, .val (.double dvd), s_] [(.double dva), (.ref a1)])) rfl rfl (hb hby d_prog_18_1_6)
  have N2 := Fr.snoc X2 N1 gn_a1
  refine Goes.via (B := T2.setTop (mkF m 9 #[rv a1, .val (.double dva), s_, .val (.double dvb), s_, .val (.double dvc), s_, .val (.double dvd), s_] [])) (fun t k => st2 _ k) ?_
  refine Gv T2 10 [(.ref a1)] (fun t k => XS.aloadN X2.here hx rfl (hb hby d_prog_18_1_9) rfl rfl k) ?_
  refine Gv T2 11 [(.double dvb), (.ref a1)] (fun t k => XS.dloadN X2.here hx rfl (hb hby d_prog_18_1_10) rfl k) ?_
  have c3 : Fld Z h2 a1 "com/example/wakenitz/wakenitz/measure/Score" "recall" "D" (.double (0 : UInt64)) := (Fld.other W2 F_3 (Or.inr (slot_ne (Or.inr (W_ hw 62 rfl)) (Or.inr (W_ hw 60 rfl)) (by decide) (t := .double) (t' := .double) (by decide) (by decide))))
  obtain ⟨T4, h4, X4, e4, W4, st4⟩ := putF X2 hx hZ hown (host := "") (Or.inl (W_ hw 61 rfl)) Via.refl e2 c3 (Exa.wr W2 F_1) (Or.inr ⟨(W_ hw 62 rfl), rfl, hnm⟩) (W_ hw 43 rfl) (ty := .double) (by decide) rfl rfl (g := (mkF m 11 #[rv a1, .val (.double dva), s_, .val (.double dvb), s_, .val (.double dvc), s_, .val (.double dvd), s_] [(.double dvb), (.ref a1)])) rfl rfl (hb hby d_prog_18_1_11)
  have N4 := Fr.snoc X4 N2 gn_a1
  refine Goes.via (B := T4.setTop (mkF m 14 #[rv a1, .val (.double dva), s_, .val (.double dvb), s_, .val (.double dvc), s_, .val (.double dvd), s_] [])) (fun t k => st4 _ k) ?_
  refine Gv T4 15 [(.ref a1)] (fun t k => XS.aloadN X4.here hx rfl (hb hby d_prog_18_1_14) rfl rfl k) ?_
  refine Gv T4 17 [(.double dvc), (.ref a1)] (fun t k => XS.dload X4.here hx rfl (hb hby d_prog_18_1_15) rfl k) ?_
  have c5 : Fld Z h4 a1 "com/example/wakenitz/wakenitz/measure/Score" "f1" "D" (.double (0 : UInt64)) := (Fld.other W4 (Fld.other W2 F_4 (Or.inr (slot_ne (Or.inr (W_ hw 64 rfl)) (Or.inr (W_ hw 60 rfl)) (by decide) (t := .double) (t' := .double) (by decide) (by decide)))) (Or.inr (slot_ne (Or.inr (W_ hw 64 rfl)) (Or.inr (W_ hw 62 rfl)) (by decide) (t := .double) (t' := .double) (by decide) (by decide))))
  obtain ⟨T6, h6, X6, e6, W6, st6⟩ := putF X4 hx hZ hown (host := "") (Or.inl (W_ hw 63 rfl)) Via.refl e4 c5 (Exa.wr W4 (Exa.wr W2 F_1)) (Or.inr ⟨(W_ hw 64 rfl), rfl, hnm⟩) (W_ hw 43 rfl) (ty := .double) (by decide) rfl rfl (g := (mkF m 17 #[rv a1, .val (.double dva), s_, .val (.double dvb), s_, .val (.double dvc), s_, .val (.double dvd), s_] [(.double dvc), (.ref a1)])) rfl rfl (hb hby d_prog_18_1_17)
  have N6 := Fr.snoc X6 N4 gn_a1
  refine Goes.via (B := T6.setTop (mkF m 20 #[rv a1, .val (.double dva), s_, .val (.double dvb), s_, .val (.double dvc), s_, .val (.double dvd), s_] [])) (fun t k => st6 _ k) ?_
  refine Gv T6 21 [(.ref a1)] (fun t k => XS.aloadN X6.here hx rfl (hb hby d_prog_18_1_20) rfl rfl k) ?_
  refine Gv T6 23 [(.double dvd), (.ref a1)] (fun t k => XS.dload X6.here hx rfl (hb hby d_prog_18_1_21) rfl k) ?_
  have c7 : Fld Z h6 a1 "com/example/wakenitz/wakenitz/measure/Score" "similarity" "D" (.double (0 : UInt64)) := (Fld.other W6 (Fld.other W4 (Fld.other W2 F_5 (Or.inr (slot_ne (Or.inr (W_ hw 66 rfl)) (Or.inr (W_ hw 60 rfl)) (by decide) (t := .double) (t' := .double) (by decide) (by decide)))) (Or.inr (slot_ne (Or.inr (W_ hw 66 rfl)) (Or.inr (W_ hw 62 rfl)) (by decide) (t := .double) (t' := .double) (by decide) (by decide)))) (Or.inr (slot_ne (Or.inr (W_ hw 66 rfl)) (Or.inr (W_ hw 64 rfl)) (by decide) (t := .double) (t' := .double) (by decide) (by decide))))
  obtain ⟨T8, h8, X8, e8, W8, st8⟩ := putF X6 hx hZ hown (host := "") (Or.inl (W_ hw 65 rfl)) Via.refl e6 c7 (Exa.wr W6 (Exa.wr W4 (Exa.wr W2 F_1))) (Or.inr ⟨(W_ hw 66 rfl), rfl, hnm⟩) (W_ hw 43 rfl) (ty := .double) (by decide) rfl rfl (g := (mkF m 23 #[rv a1, .val (.double dva), s_, .val (.double dvb), s_, .val (.double dvc), s_, .val (.double dvd), s_] [(.double dvd), (.ref a1)])) rfl rfl (hb hby d_prog_18_1_23)
  have N8 := Fr.snoc X8 N6 gn_a1
  refine Goes.via (B := T8.setTop (mkF m 26 #[rv a1, .val (.double dva), s_, .val (.double dvb), s_, .val (.double dvc), s_, .val (.double dvd), s_] [])) (fun t k => st8 _ k) ?_
  have c9 : Fld Z h8 a1 "com/example/wakenitz/wakenitz/measure/Score" "precision" "D" (.double dva) := (Fld.other W8 (Fld.other W6 (Fld.other W4 (Fld.same W2 F_2) (Or.inr (slot_ne (Or.inr (W_ hw 60 rfl)) (Or.inr (W_ hw 62 rfl)) (by decide) (t := .double) (t' := .double) (by decide) (by decide)))) (Or.inr (slot_ne (Or.inr (W_ hw 60 rfl)) (Or.inr (W_ hw 64 rfl)) (by decide) (t := .double) (t' := .double) (by decide) (by decide)))) (Or.inr (slot_ne (Or.inr (W_ hw 60 rfl)) (Or.inr (W_ hw 66 rfl)) (by decide) (t := .double) (t' := .double) (by decide) (by decide))))
  have c10 : Fld Z h8 a1 "com/example/wakenitz/wakenitz/measure/Score" "recall" "D" (.double dvb) := (Fld.other W8 (Fld.other W6 (Fld.same W4 c3) (Or.inr (slot_ne (Or.inr (W_ hw 62 rfl)) (Or.inr (W_ hw 64 rfl)) (by decide) (t := .double) (t' := .double) (by decide) (by decide)))) (Or.inr (slot_ne (Or.inr (W_ hw 62 rfl)) (Or.inr (W_ hw 66 rfl)) (by decide) (t := .double) (t' := .double) (by decide) (by decide))))
  have c11 : Fld Z h8 a1 "com/example/wakenitz/wakenitz/measure/Score" "f1" "D" (.double dvc) := (Fld.other W8 (Fld.same W6 c5) (Or.inr (slot_ne (Or.inr (W_ hw 64 rfl)) (Or.inr (W_ hw 66 rfl)) (by decide) (t := .double) (t' := .double) (by decide) (by decide))))
  exact fin0 (Q := (own_Q4 Z a1 dva dvb dvc dvd h0 n0)) (F := FrameEnd) (C := ((Rm 2 0 0 24)).cells) (S := ((Rm 2 0 0 24)).slots) X8 hx Bd.returns (hb hby d_prog_18_1_26) e8 ⟨rfl, N8, (((((Keep.refl h0 [a1]).wr W2 (Or.inl (List.mem_of_getElem? (i := 0) rfl))).wr W4 (Or.inl (List.mem_of_getElem? (i := 0) rfl))).wr W6 (Or.inl (List.mem_of_getElem? (i := 0) rfl))).wr W8 (Or.inl (List.mem_of_getElem? (i := 0) rfl))), (Exa.wr W8 (Exa.wr W6 (Exa.wr W4 (Exa.wr W2 F_1)))), c9, c10, c11, (Fld.same W8 c7)⟩ (lvN X8 hlk (by decide) (by decide))
theorem d_4_0 : decode method_4_code 0 = .ok (.new 15, 3) := by decide +kernel
theorem d_4_3 : decode method_4_code 3 = .ok (.dup, 1) := by decide +kernel
theorem d_4_4 : decode method_4_code 4 = .ok (.lload_n 0, 1) := by decide +kernel
theorem d_4_5 : decode method_4_code 5 = .ok (.iconst 0, 1) := by decide +kernel
theorem d_4_6 : decode method_4_code 6 = .ok (.invokestatic 9, 3) := by decide +kernel
theorem own_pd1 : parseMethodDescriptor "(JI)I" = some ⟨[.long, .int], some .int⟩ := by decide +kernel
theorem d_4_9 : decode method_4_code 9 = .ok (.i2d, 1) := by decide +kernel
theorem d_4_10 : decode method_4_code 10 = .ok (.ldc2_w 17, 3) := by decide +kernel
theorem d_4_13 : decode method_4_code 13 = .ok (.ddiv, 1) := by decide +kernel
theorem d_4_14 : decode method_4_code 14 = .ok (.lload_n 0, 1) := by decide +kernel
theorem d_4_15 : decode method_4_code 15 = .ok (.iconst 1, 1) := by decide +kernel
theorem d_4_16 : decode method_4_code 16 = .ok (.invokestatic 9, 3) := by decide +kernel
theorem d_4_19 : decode method_4_code 19 = .ok (.i2d, 1) := by decide +kernel
theorem d_4_20 : decode method_4_code 20 = .ok (.ldc2_w 17, 3) := by decide +kernel
theorem d_4_23 : decode method_4_code 23 = .ok (.ddiv, 1) := by decide +kernel
theorem d_4_24 : decode method_4_code 24 = .ok (.lload_n 0, 1) := by decide +kernel
theorem d_4_25 : decode method_4_code 25 = .ok (.iconst 2, 1) := by decide +kernel
theorem d_4_26 : decode method_4_code 26 = .ok (.invokestatic 9, 3) := by decide +kernel
theorem d_4_29 : decode method_4_code 29 = .ok (.i2d, 1) := by decide +kernel
theorem d_4_30 : decode method_4_code 30 = .ok (.ldc2_w 17, 3) := by decide +kernel
theorem d_4_33 : decode method_4_code 33 = .ok (.ddiv, 1) := by decide +kernel
theorem d_4_34 : decode method_4_code 34 = .ok (.lload_n 0, 1) := by decide +kernel
theorem d_4_35 : decode method_4_code 35 = .ok (.iconst 3, 1) := by decide +kernel
theorem d_4_36 : decode method_4_code 36 = .ok (.invokestatic 9, 3) := by decide +kernel
theorem d_4_39 : decode method_4_code 39 = .ok (.i2d, 1) := by decide +kernel
theorem d_4_40 : decode method_4_code 40 = .ok (.ldc2_w 17, 3) := by decide +kernel
theorem d_4_43 : decode method_4_code 43 = .ok (.ddiv, 1) := by decide +kernel
theorem d_4_44 : decode method_4_code 44 = .ok (.invokespecial 19, 3) := by decide +kernel
theorem own_pd2 : parseMethodDescriptor "(DDDD)V" = some ⟨[.double, .double, .double, .double], none⟩ := by decide +kernel
theorem d_4_47 : decode method_4_code 47 = .ok (.areturn, 1) := by decide +kernel
theorem own_ef5 (m : MethodId) (x0 : Int64)  : entryFrame m #[(.long x0)] 2 = mkF m 0 #[lv_ x0, s_] [] := by first | (simp [entryFrame, mkF, argsToLocals, Value.category]; done) | rfl
abbrev own_Q5 (Z : State) (x1 : Int64) (h0 : Heap) (n0 : Nat) (v : Option Value) (h : Heap) (L : List Loc) : Prop := ∃ r : Addr, v = some (.ref r) ∧ Fr n0 L ∧ Keep h0 h [] ∧ h0.size ≤ r ∧ Exa Z h r "com/example/wakenitz/wakenitz/measure/Score" ∧ Fld Z h r "com/example/wakenitz/wakenitz/measure/Score" "precision" "D" (.double (own_d (own_fig x1 (0 : Int32)))) ∧ Fld Z h r "com/example/wakenitz/wakenitz/measure/Score" "recall" "D" (.double (own_d (own_fig x1 (1 : Int32)))) ∧ Fld Z h r "com/example/wakenitz/wakenitz/measure/Score" "f1" "D" (.double (own_d (own_fig x1 (2 : Int32)))) ∧ Fld Z h r "com/example/wakenitz/wakenitz/measure/Score" "similarity" "D" (.double (own_d (own_fig x1 (3 : Int32))))
set_option maxRecDepth 65536 in
set_option maxHeartbeats 40000000 in
theorem own_m5 (l : Launch) (Z : State) (a0 : Array Value) (hw : ∀ d ∈ tables_1, d.before a0 Z = true) (ws : List Jvm.Cond) (x1 : Int64) (h0 : Heap) (n0 : Nat) (O0 : Old Z n0 h0) :
    Ctr l Z (⟨"com/example/wakenitz/wakenitz/measure/ScoreSheetMeanPinLaw", "score", "(J)Lcom/example/wakenitz/wakenitz/measure/Score;"⟩ : MethodName) method_4_code 2 (some (.object "com/example/wakenitz/wakenitz/measure/Score")) (Rm 3 1 4 45) #[(.long x1)] h0 (own_Q5 Z x1 h0 n0) ws := by
  refine MetFree.of_bodySF (plainFor_of_name own_pn0) hisR ?_
  intro p e s m args below meth c s₁ Bd hml0 hP hK
  obtain ⟨rfl, hZ, hh⟩ := hP
  have hx := Bd.exec
  have hby := Bd.bytes
  have hlk : meth.locks = false := Bd.notSynchronized
  have hml : c.maxLocals = 2 := hml0
  have hown : s.vm.findClass "com/example/wakenitz/wakenitz/measure/ScoreSheetMeanPinLaw" = some m.cls := findClass_of_methodNamed Bd.named
  have hnm := (name_of_methodNamed Bd.named Bd.method).1
  have X0 : Stand p l e (Rm 3 1 4 45) s m #[(.long x1)] below meth c s₁ [] 0 0 := Stand.of_body Bd
  have e0 : s₁.heap = h0 := by rw [← hh, Bd.state]; rfl
  have N0 := Fr.nil n0
  show Goes p.tables e below (fun t o => ∃ v L, o = .returned v ∧ (own_Q5 Z x1 h0 n0) v t.heap L ∧ FrameEnd s o t L ((Rm 3 1 4 45)).cells ((Rm 3 1 4 45)).slots) _
  refine Goes.via (B := s₁.setTop (mkF m 0 #[lv_ x1, s_] [])) (fun t k => castTop (own_ef5 m x1) k) ?_
  obtain ⟨T1, h1, X1, e1, E1, A1, D1, U1, st1⟩ := newO X0 hx hZ hown (W_ hw 42 rfl) (W_ hw 43 rfl) (W_ hw 44 rfl) e0 (g := (mkF m 0 #[lv_ x1, s_] [])) rfl (hb hby d_4_0) (by decide) (by decide)
  obtain ⟨b1, g1⟩ : ∃ z, z = h0.size := ⟨_, rfl⟩
  rw [← g1] at A1 D1 U1 st1
  have gn1 : n0 ≤ b1 := Nat.le_trans (old_le O0) (Nat.le_of_eq g1.symm)
  have gs1 : h0.size ≤ b1 := Nat.le_trans (Keep.refl h0 []).1 (Nat.le_of_eq g1.symm)
  have F1_precision : Fld Z h1 b1 "com/example/wakenitz/wakenitz/measure/Score" "precision" "D" (.double (0 : UInt64)) := D1 (Or.inr (W_ hw 60 rfl)) (ty := .double) (by decide)
  have F1_recall : Fld Z h1 b1 "com/example/wakenitz/wakenitz/measure/Score" "recall" "D" (.double (0 : UInt64)) := D1 (Or.inr (W_ hw 62 rfl)) (ty := .double) (by decide)
  have F1_f1 : Fld Z h1 b1 "com/example/wakenitz/wakenitz/measure/Score" "f1" "D" (.double (0 : UInt64)) := D1 (Or.inr (W_ hw 64 rfl)) (ty := .double) (by decide)
  have F1_similarity : Fld Z h1 b1 "com/example/wakenitz/wakenitz/measure/Score" "similarity" "D" (.double (0 : UInt64)) := D1 (Or.inr (W_ hw 66 rfl)) (ty := .double) (by decide)
  refine Goes.via (B := T1.setTop (mkF m 3 #[lv_ x1, s_] [(.ref b1)])) (fun t k => st1 _ k) ?_
  refine Gv T1 4 [(.ref b1), (.ref b1)] (fun t k => XS.dup X1.here hx rfl (hb hby d_4_3) rfl rfl k) ?_
  refine Gv T1 5 [(.long x1), (.ref b1), (.ref b1)] (fun t k => XS.lloadN X1.here hx rfl (hb hby d_4_4) rfl k) ?_
  refine Gv T1 6 [(.int (0 : Int32)), (.long x1), (.ref b1), (.ref b1)] (fun t k => XS.iconst X1.here hx rfl (hb hby d_4_5) k) ?_
  obtain ⟨_, T2, L2, X2, ⟨rfl, M2, K2⟩, st2⟩ := callStatic X1 hx hZ hown (W_ hw 45 rfl) (W_ hw 46 rfl) (W_ hw 40 rfl) (W_ hw 47 rfl) (by decide) (argsL := [(.long x1), (.int (0 : Int32))]) (rest := [(.ref b1), (.ref b1)]) (own_m1 l Z a0 hw [] x1 (0 : Int32) h1 n0 (O0.ext E1) ) e1 (lenOf own_pd1 rfl) (pc := 6) (Ls := #[lv_ x1, s_]) (st := [(.int (0 : Int32)), (.long x1), (.ref b1), (.ref b1)]) rfl (by rw [hml]; rfl) (hb hby d_4_6) (W := 2) (Nat.le_of_eq rfl) (by decide) (by decide) (by decide) (by decide)
  have N2 := Fr.app N0 M2
  refine Goes.via (B := T2.setTop (mkF m 9 #[lv_ x1, s_] [(.int (own_fig x1 (0 : Int32))), (.ref b1), (.ref b1)])) (fun t k => st2 _ k) ?_
  refine Gv T2 10 [(.double (FP.i2d (own_fig x1 (0 : Int32)))), (.ref b1), (.ref b1)] (fun t k => XS.i2dS X2.here hx rfl (hb hby d_4_9) rfl rfl k) ?_
  have wd3 := mvD (args := #[(.long x1)]) hZ (W_ hw 49 rfl)
  refine Goes.via (B := T2.setTop (mkF m 13 #[lv_ x1, s_] [(.double (4625196817309499392 : UInt64)), (.double (FP.i2d (own_fig x1 (0 : Int32)))), (.ref b1), (.ref b1)])) (fun t k => X2.ldc2DoubleC hx hown wd3 (g := (mkF m 10 #[lv_ x1, s_] [(.double (FP.i2d (own_fig x1 (0 : Int32)))), (.ref b1), (.ref b1)])) rfl (hb hby d_4_10) t k) ?_
  refine Gv T2 14 [(.double (own_d (own_fig x1 (0 : Int32)))), (.ref b1), (.ref b1)] (fun t k => XS.ddivS X2.here hx rfl (hb hby d_4_13) rfl (own_nnD (own_up (own_figr _ _) (by decide))) (own_dE _) k) ?_
  refine Gv T2 15 [(.long x1), (.double (own_d (own_fig x1 (0 : Int32)))), (.ref b1), (.ref b1)] (fun t k => XS.lloadN X2.here hx rfl (hb hby d_4_14) rfl k) ?_
  refine Gv T2 16 [(.int (1 : Int32)), (.long x1), (.double (own_d (own_fig x1 (0 : Int32)))), (.ref b1), (.ref b1)] (fun t k => XS.iconst X2.here hx rfl (hb hby d_4_15) k) ?_
  obtain ⟨_, T4, L4, X4, ⟨rfl, M4, K4⟩, st4⟩ := callStatic X2 hx hZ hown (W_ hw 45 rfl) (W_ hw 46 rfl) (W_ hw 40 rfl) (W_ hw 47 rfl) (by decide) (argsL := [(.long x1), (.int (1 : Int32))]) (rest := [(.double (own_d (own_fig x1 (0 : Int32)))), (.ref b1), (.ref b1)]) (own_m1 l Z a0 hw [] x1 (1 : Int32) h1 n0 (O0.ext E1) ) K2 (lenOf own_pd1 rfl) (pc := 16) (Ls := #[lv_ x1, s_]) (st := [(.int (1 : Int32)), (.long x1), (.double (own_d (own_fig x1 (0 : Int32)))), (.ref b1), (.ref b1)]) rfl (by rw [hml]; rfl) (hb hby d_4_16) (W := 4) (Nat.le_of_eq rfl) (by decide) (by decide) (by decide) (by decide)
  have N4 := Fr.app N2 M4
  refine Goes.via (B := T4.setTop (mkF m 19 #[lv_ x1, s_] [(.int (own_fig x1 (1 : Int32))), (.double (own_d (own_fig x1 (0 : Int32)))), (.ref b1), (.ref b1)])) (fun t k => st4 _ k) ?_
  refine Gv T4 20 [(.double (FP.i2d (own_fig x1 (1 : Int32)))), (.double (own_d (own_fig x1 (0 : Int32)))), (.ref b1), (.ref b1)] (fun t k => XS.i2dS X4.here hx rfl (hb hby d_4_19) rfl rfl k) ?_
  have wd5 := mvD (args := #[(.long x1)]) hZ (W_ hw 49 rfl)
  refine Goes.via (B := T4.setTop (mkF m 23 #[lv_ x1, s_] [(.double (4625196817309499392 : UInt64)), (.double (FP.i2d (own_fig x1 (1 : Int32)))), (.double (own_d (own_fig x1 (0 : Int32)))), (.ref b1), (.ref b1)])) (fun t k => X4.ldc2DoubleC hx hown wd5 (g := (mkF m 20 #[lv_ x1, s_] [(.double (FP.i2d (own_fig x1 (1 : Int32)))), (.double (own_d (own_fig x1 (0 : Int32)))), (.ref b1), (.ref b1)])) rfl (hb hby d_4_20) t k) ?_
  refine Gv T4 24 [(.double (own_d (own_fig x1 (1 : Int32)))), (.double (own_d (own_fig x1 (0 : Int32)))), (.ref b1), (.ref b1)] (fun t k => XS.ddivS X4.here hx rfl (hb hby d_4_23) rfl (own_nnD (own_up (own_figr _ _) (by decide))) (own_dE _) k) ?_
  refine Gv T4 25 [(.long x1), (.double (own_d (own_fig x1 (1 : Int32)))), (.double (own_d (own_fig x1 (0 : Int32)))), (.ref b1), (.ref b1)] (fun t k => XS.lloadN X4.here hx rfl (hb hby d_4_24) rfl k) ?_
  refine Gv T4 26 [(.int (2 : Int32)), (.long x1), (.double (own_d (own_fig x1 (1 : Int32)))), (.double (own_d (own_fig x1 (0 : Int32)))), (.ref b1), (.ref b1)] (fun t k => XS.iconst X4.here hx rfl (hb hby d_4_25) k) ?_
  obtain ⟨_, T6, L6, X6, ⟨rfl, M6, K6⟩, st6⟩ := callStatic X4 hx hZ hown (W_ hw 45 rfl) (W_ hw 46 rfl) (W_ hw 40 rfl) (W_ hw 47 rfl) (by decide) (argsL := [(.long x1), (.int (2 : Int32))]) (rest := [(.double (own_d (own_fig x1 (1 : Int32)))), (.double (own_d (own_fig x1 (0 : Int32)))), (.ref b1), (.ref b1)]) (own_m1 l Z a0 hw [] x1 (2 : Int32) h1 n0 (O0.ext E1) ) K4 (lenOf own_pd1 rfl) (pc := 26) (Ls := #[lv_ x1, s_]) (st := [(.int (2 : Int32)), (.long x1), (.double (own_d (own_fig x1 (1 : Int32)))), (.double (own_d (own_fig x1 (0 : Int32)))), (.ref b1), (.ref b1)]) rfl (by rw [hml]; rfl) (hb hby d_4_26) (W := 6) (Nat.le_of_eq rfl) (by decide) (by decide) (by decide) (by decide)
  have N6 := Fr.app N4 M6
  refine Goes.via (B := T6.setTop (mkF m 29 #[lv_ x1, s_] [(.int (own_fig x1 (2 : Int32))), (.double (own_d (own_fig x1 (1 : Int32)))), (.double (own_d (own_fig x1 (0 : Int32)))), (.ref b1), (.ref b1)])) (fun t k => st6 _ k) ?_
  refine Gv T6 30 [(.double (FP.i2d (own_fig x1 (2 : Int32)))), (.double (own_d (own_fig x1 (1 : Int32)))), (.double (own_d (own_fig x1 (0 : Int32)))), (.ref b1), (.ref b1)] (fun t k => XS.i2dS X6.here hx rfl (hb hby d_4_29) rfl rfl k) ?_
  have wd7 := mvD (args := #[(.long x1)]) hZ (W_ hw 49 rfl)
  refine Goes.via (B := T6.setTop (mkF m 33 #[lv_ x1, s_] [(.double (4625196817309499392 : UInt64)), (.double (FP.i2d (own_fig x1 (2 : Int32)))), (.double (own_d (own_fig x1 (1 : Int32)))), (.double (own_d (own_fig x1 (0 : Int32)))), (.ref b1), (.ref b1)])) (fun t k => X6.ldc2DoubleC hx hown wd7 (g := (mkF m 30 #[lv_ x1, s_] [(.double (FP.i2d (own_fig x1 (2 : Int32)))), (.double (own_d (own_fig x1 (1 : Int32)))), (.double (own_d (own_fig x1 (0 : Int32)))), (.ref b1), (.ref b1)])) rfl (hb hby d_4_30) t k) ?_
  refine Gv T6 34 [(.double (own_d (own_fig x1 (2 : Int32)))), (.double (own_d (own_fig x1 (1 : Int32)))), (.double (own_d (own_fig x1 (0 : Int32)))), (.ref b1), (.ref b1)] (fun t k => XS.ddivS X6.here hx rfl (hb hby d_4_33) rfl (own_nnD (own_up (own_figr _ _) (by decide))) (own_dE _) k) ?_
  refine Gv T6 35 [(.long x1), (.double (own_d (own_fig x1 (2 : Int32)))), (.double (own_d (own_fig x1 (1 : Int32)))), (.double (own_d (own_fig x1 (0 : Int32)))), (.ref b1), (.ref b1)] (fun t k => XS.lloadN X6.here hx rfl (hb hby d_4_34) rfl k) ?_
  refine Gv T6 36 [(.int (3 : Int32)), (.long x1), (.double (own_d (own_fig x1 (2 : Int32)))), (.double (own_d (own_fig x1 (1 : Int32)))), (.double (own_d (own_fig x1 (0 : Int32)))), (.ref b1), (.ref b1)] (fun t k => XS.iconst X6.here hx rfl (hb hby d_4_35) k) ?_
  obtain ⟨_, T8, L8, X8, ⟨rfl, M8, K8⟩, st8⟩ := callStatic X6 hx hZ hown (W_ hw 45 rfl) (W_ hw 46 rfl) (W_ hw 40 rfl) (W_ hw 47 rfl) (by decide) (argsL := [(.long x1), (.int (3 : Int32))]) (rest := [(.double (own_d (own_fig x1 (2 : Int32)))), (.double (own_d (own_fig x1 (1 : Int32)))), (.double (own_d (own_fig x1 (0 : Int32)))), (.ref b1), (.ref b1)]) (own_m1 l Z a0 hw [] x1 (3 : Int32) h1 n0 (O0.ext E1) ) K6 (lenOf own_pd1 rfl) (pc := 36) (Ls := #[lv_ x1, s_]) (st := [(.int (3 : Int32)), (.long x1), (.double (own_d (own_fig x1 (2 : Int32)))), (.double (own_d (own_fig x1 (1 : Int32)))), (.double (own_d (own_fig x1 (0 : Int32)))), (.ref b1), (.ref b1)]) rfl (by rw [hml]; rfl) (hb hby d_4_36) (W := 8) (Nat.le_of_eq rfl) (by decide) (by decide) (by decide) (by decide)
  have N8 := Fr.app N6 M8
  refine Goes.via (B := T8.setTop (mkF m 39 #[lv_ x1, s_] [(.int (own_fig x1 (3 : Int32))), (.double (own_d (own_fig x1 (2 : Int32)))), (.double (own_d (own_fig x1 (1 : Int32)))), (.double (own_d (own_fig x1 (0 : Int32)))), (.ref b1), (.ref b1)])) (fun t k => st8 _ k) ?_
  refine Gv T8 40 [(.double (FP.i2d (own_fig x1 (3 : Int32)))), (.double (own_d (own_fig x1 (2 : Int32)))), (.double (own_d (own_fig x1 (1 : Int32)))), (.double (own_d (own_fig x1 (0 : Int32)))), (.ref b1), (.ref b1)] (fun t k => XS.i2dS X8.here hx rfl (hb hby d_4_39) rfl rfl k) ?_
  have wd9 := mvD (args := #[(.long x1)]) hZ (W_ hw 49 rfl)
  refine Goes.via (B := T8.setTop (mkF m 43 #[lv_ x1, s_] [(.double (4625196817309499392 : UInt64)), (.double (FP.i2d (own_fig x1 (3 : Int32)))), (.double (own_d (own_fig x1 (2 : Int32)))), (.double (own_d (own_fig x1 (1 : Int32)))), (.double (own_d (own_fig x1 (0 : Int32)))), (.ref b1), (.ref b1)])) (fun t k => X8.ldc2DoubleC hx hown wd9 (g := (mkF m 40 #[lv_ x1, s_] [(.double (FP.i2d (own_fig x1 (3 : Int32)))), (.double (own_d (own_fig x1 (2 : Int32)))), (.double (own_d (own_fig x1 (1 : Int32)))), (.double (own_d (own_fig x1 (0 : Int32)))), (.ref b1), (.ref b1)])) rfl (hb hby d_4_40) t k) ?_
  refine Gv T8 44 [(.double (own_d (own_fig x1 (3 : Int32)))), (.double (own_d (own_fig x1 (2 : Int32)))), (.double (own_d (own_fig x1 (1 : Int32)))), (.double (own_d (own_fig x1 (0 : Int32)))), (.ref b1), (.ref b1)] (fun t k => XS.ddivS X8.here hx rfl (hb hby d_4_43) rfl (own_nnD (own_up (own_figr _ _) (by decide))) (own_dE _) k) ?_
  obtain ⟨_, T10, L10, X10, ⟨rfl, M10, K10, f10_0, f10_1, f10_2, f10_3, f10_4⟩, st10⟩ := callInit X8 hx hZ rfl hown (W_ hw 50 rfl) (W_ hw 51 rfl) (W_ hw 44 rfl) (W_ hw 52 rfl) (by decide) (argsL := [(.double (own_d (own_fig x1 (0 : Int32)))), (.double (own_d (own_fig x1 (1 : Int32)))), (.double (own_d (own_fig x1 (2 : Int32)))), (.double (own_d (own_fig x1 (3 : Int32))))]) (rest := [(.ref b1)]) (own_m4 l Z a0 hw [] b1 (own_d (own_fig x1 (0 : Int32))) (own_d (own_fig x1 (1 : Int32))) (own_d (own_fig x1 (2 : Int32))) (own_d (own_fig x1 (3 : Int32))) h1 n0 (O0.ext E1) gn1 A1 F1_precision F1_recall F1_f1 F1_similarity) K8 (lenOf own_pd2 rfl) (pc := 44) (Ls := #[lv_ x1, s_]) (st := [(.double (own_d (own_fig x1 (3 : Int32)))), (.double (own_d (own_fig x1 (2 : Int32)))), (.double (own_d (own_fig x1 (1 : Int32)))), (.double (own_d (own_fig x1 (0 : Int32)))), (.ref b1), (.ref b1)]) rfl (by rw [hml]; rfl) (hb hby d_4_44) (W := 1) (Nat.le_of_eq rfl) (by decide) (by decide) (by decide) (by decide)
  have N10 := Fr.app N8 M10
  refine Goes.via (B := T10.setTop (mkF m 47 #[lv_ x1, s_] [(.ref b1)])) (fun t k => st10 _ k) ?_
  exact finA (Q := (own_Q5 Z x1 h0 n0)) (F := FrameEnd) (C := ((Rm 3 1 4 45)).cells) (S := ((Rm 3 1 4 45)).slots) X10 hx Bd.returns rfl rfl rfl (hb hby d_4_47) rfl ⟨b1, rfl, N10, (((Keep.refl h0 []).ext E1).trans K10 (allS (Or.inr gs1) all0)), gs1, f10_0, f10_1, f10_2, f10_3, f10_4⟩ (lvN X10 hlk (by decide) (by decide))
theorem own_pn4 : plainName "com/example/wakenitz/wakenitz/measure/ScoreSheet$PageScore" = true := by first | (simp [plainName, overriddenIn]; done) | decide +kernel
theorem d_prog_20_1_0 : decode prog_20_method_1_code 0 = .ok (.aload_n 0, 1) := by decide +kernel
theorem d_prog_20_1_1 : decode prog_20_method_1_code 1 = .ok (.invokespecial 1, 3) := by decide +kernel
theorem d_prog_20_1_4 : decode prog_20_method_1_code 4 = .ok (.aload_n 0, 1) := by decide +kernel
theorem d_prog_20_1_5 : decode prog_20_method_1_code 5 = .ok (.aload_n 1, 1) := by decide +kernel
theorem d_prog_20_1_6 : decode prog_20_method_1_code 6 = .ok (.putfield 7, 3) := by decide +kernel
theorem d_prog_20_1_9 : decode prog_20_method_1_code 9 = .ok (.aload_n 0, 1) := by decide +kernel
theorem d_prog_20_1_10 : decode prog_20_method_1_code 10 = .ok (.aload_n 2, 1) := by decide +kernel
theorem d_prog_20_1_11 : decode prog_20_method_1_code 11 = .ok (.putfield 13, 3) := by decide +kernel
theorem d_prog_20_1_14 : decode prog_20_method_1_code 14 = .ok (.return_, 1) := by decide +kernel
theorem own_ef6 (m : MethodId) (x0 : Addr) (x1 : Addr) (x2 : Addr)  : entryFrame m #[(.ref x0), (.ref x1), (.ref x2)] 3 = mkF m 0 #[rv x0, rv x1, rv x2] [] := by first | (simp [entryFrame, mkF, argsToLocals, Value.category]; done) | rfl
abbrev own_Q6 (Z : State) (a1 : Addr) (a2 : Addr) (a3 : Addr) (h0 : Heap) (n0 : Nat) (v : Option Value) (h : Heap) (L : List Loc) : Prop := v = none ∧ Fr n0 L ∧ Keep h0 h [a1] ∧ Exa Z h a1 "com/example/wakenitz/wakenitz/measure/ScoreSheet$PageScore" ∧ Fld Z h a1 "com/example/wakenitz/wakenitz/measure/ScoreSheet$PageScore" "score" "Lcom/example/wakenitz/wakenitz/measure/Score;" (.ref a3)
set_option maxRecDepth 65536 in
set_option maxHeartbeats 40000000 in
theorem own_m6 (l : Launch) (Z : State) (a0 : Array Value) (hw : ∀ d ∈ tables_1, d.before a0 Z = true) (ws : List Jvm.Cond) (a1 : Addr) (a2 : Addr) (a3 : Addr) (h0 : Heap) (n0 : Nat) (O0 : Old Z n0 h0) (gn_a1 : n0 ≤ a1) (F_1 : Exa Z h0 a1 "com/example/wakenitz/wakenitz/measure/ScoreSheet$PageScore") (F_2 : Fld Z h0 a1 "com/example/wakenitz/wakenitz/measure/ScoreSheet$PageScore" "name" "Ljava/lang/String;" .null) (F_3 : Fld Z h0 a1 "com/example/wakenitz/wakenitz/measure/ScoreSheet$PageScore" "score" "Lcom/example/wakenitz/wakenitz/measure/Score;" .null) :
    Ctr l Z (⟨"com/example/wakenitz/wakenitz/measure/ScoreSheet$PageScore", "<init>", "(Ljava/lang/String;Lcom/example/wakenitz/wakenitz/measure/Score;)V"⟩ : MethodName) prog_20_method_1_code 3 none (Rm 2 0 0 24) #[(.ref a1), (.ref a2), (.ref a3)] h0 (own_Q6 Z a1 a2 a3 h0 n0) ws := by
  refine MetFree.of_bodySF (plainFor_of_name own_pn4) hisR ?_
  intro p e s m args below meth c s₁ Bd hml0 hP hK
  obtain ⟨rfl, hZ, hh⟩ := hP
  have hx := Bd.exec
  have hby := Bd.bytes
  have hlk : meth.locks = false := Bd.notSynchronized
  have hml : c.maxLocals = 3 := hml0
  have hown : s.vm.findClass "com/example/wakenitz/wakenitz/measure/ScoreSheet$PageScore" = some m.cls := findClass_of_methodNamed Bd.named
  have hnm := (name_of_methodNamed Bd.named Bd.method).1
  have X0 : Stand p l e (Rm 2 0 0 24) s m #[(.ref a1), (.ref a2), (.ref a3)] below meth c s₁ [] 0 0 := Stand.of_body Bd
  have e0 : s₁.heap = h0 := by rw [← hh, Bd.state]; rfl
  have N0 := Fr.nil n0
  show Goes p.tables e below (fun t o => ∃ v L, o = .returned v ∧ (own_Q6 Z a1 a2 a3 h0 n0) v t.heap L ∧ FrameEnd s o t L ((Rm 2 0 0 24)).cells ((Rm 2 0 0 24)).slots) _
  refine Goes.via (B := s₁.setTop (mkF m 0 #[rv a1, rv a2, rv a3] [])) (fun t k => castTop (own_ef6 m a1 a2 a3) k) ?_
  refine Gv s₁ 1 [(.ref a1)] (fun t k => XS.aloadN X0.here hx rfl (hb hby d_prog_20_1_0) rfl rfl k) ?_
  obtain ⟨_, T1, L1, X1, ⟨rfl, M1, K1⟩, st1⟩ := callInit X0 hx hZ rfl hown (W_ hw 70 rfl) (W_ hw 54 rfl) (W_ hw 56 rfl) (W_ hw 57 rfl) (by decide) (argsL := []) (rest := []) (own_m2 l Z a0 hw [] a1 h0 n0 O0 ) e0 (lenOf own_pd0 rfl) (pc := 1) (Ls := #[rv a1, rv a2, rv a3]) (st := [(.ref a1)]) rfl (by rw [hml]; rfl) (hb hby d_prog_20_1_1) (W := 0) (Nat.le_of_eq rfl) (by decide) (by decide) (by decide) (by decide)
  have N1 := Fr.app N0 M1
  refine Goes.via (B := T1.setTop (mkF m 4 #[rv a1, rv a2, rv a3] [])) (fun t k => st1 _ k) ?_
  refine Gv T1 5 [(.ref a1)] (fun t k => XS.aloadN X1.here hx rfl (hb hby d_prog_20_1_4) rfl rfl k) ?_
  refine Gv T1 6 [(.ref a2), (.ref a1)] (fun t k => XS.aloadN X1.here hx rfl (hb hby d_prog_20_1_5) rfl rfl k) ?_
  obtain ⟨T2, h2, X2, e2, W2, st2⟩ := putF X1 hx hZ hown (host := "") (Or.inl (W_ hw 71 rfl)) Via.refl K1 F_2 F_1 (Or.inr ⟨(W_ hw 72 rfl), rfl, hnm⟩) (W_ hw 28 rfl) (ty := (.object "java/lang/String")) (by decide) rfl rfl (g := (mkF m 6 #[rv a1, rv a2, rv a3] [(.ref a2), (.ref a1)])) rfl rfl (hb hby d_prog_20_1_6)
  have N2 := Fr.snoc X2 N1 gn_a1
  refine Goes.via (B := T2.setTop (mkF m 9 #[rv a1, rv a2, rv a3] [])) (fun t k => st2 _ k) ?_
  refine Gv T2 10 [(.ref a1)] (fun t k => XS.aloadN X2.here hx rfl (hb hby d_prog_20_1_9) rfl rfl k) ?_
  refine Gv T2 11 [(.ref a3), (.ref a1)] (fun t k => XS.aloadN X2.here hx rfl (hb hby d_prog_20_1_10) rfl rfl k) ?_
  have c3 : Fld Z h2 a1 "com/example/wakenitz/wakenitz/measure/ScoreSheet$PageScore" "score" "Lcom/example/wakenitz/wakenitz/measure/Score;" .null := (Fld.other W2 F_3 (Or.inr (slot_ne (Or.inr (W_ hw 74 rfl)) (Or.inr (W_ hw 72 rfl)) (by decide) (t := (.object "com/example/wakenitz/wakenitz/measure/Score")) (t' := (.object "java/lang/String")) (by decide) (by decide))))
  obtain ⟨T4, h4, X4, e4, W4, st4⟩ := putF X2 hx hZ hown (host := "") (Or.inl (W_ hw 73 rfl)) Via.refl e2 c3 (Exa.wr W2 F_1) (Or.inr ⟨(W_ hw 74 rfl), rfl, hnm⟩) (W_ hw 28 rfl) (ty := (.object "com/example/wakenitz/wakenitz/measure/Score")) (by decide) rfl rfl (g := (mkF m 11 #[rv a1, rv a2, rv a3] [(.ref a3), (.ref a1)])) rfl rfl (hb hby d_prog_20_1_11)
  have N4 := Fr.snoc X4 N2 gn_a1
  refine Goes.via (B := T4.setTop (mkF m 14 #[rv a1, rv a2, rv a3] [])) (fun t k => st4 _ k) ?_
  exact fin0 (Q := (own_Q6 Z a1 a2 a3 h0 n0)) (F := FrameEnd) (C := ((Rm 2 0 0 24)).cells) (S := ((Rm 2 0 0 24)).slots) X4 hx Bd.returns (hb hby d_prog_20_1_14) e4 ⟨rfl, N4, (((Keep.refl h0 [a1]).wr W2 (Or.inl (List.mem_of_getElem? (i := 0) rfl))).wr W4 (Or.inl (List.mem_of_getElem? (i := 0) rfl))), (Exa.wr W4 (Exa.wr W2 F_1)), (Fld.same W4 c3)⟩ (lvN X4 hlk (by decide) (by decide))
theorem own_pn5 : plainName "java/util/AbstractList" = true := by first | (simp [plainName, overriddenIn]; done) | decide +kernel
theorem d_jdk_39_1_0 : decode jdk_39_method_1_code 0 = .ok (.aload_n 0, 1) := by decide +kernel
theorem d_jdk_39_1_1 : decode jdk_39_method_1_code 1 = .ok (.invokespecial 1, 3) := by decide +kernel
theorem d_jdk_39_1_4 : decode jdk_39_method_1_code 4 = .ok (.aload_n 0, 1) := by decide +kernel
theorem d_jdk_39_1_5 : decode jdk_39_method_1_code 5 = .ok (.iconst 0, 1) := by decide +kernel
theorem d_jdk_39_1_6 : decode jdk_39_method_1_code 6 = .ok (.putfield 7, 3) := by decide +kernel
theorem d_jdk_39_1_9 : decode jdk_39_method_1_code 9 = .ok (.return_, 1) := by decide +kernel
theorem own_ef7 (m : MethodId) (x0 : Addr)  : entryFrame m #[(.ref x0)] 1 = mkF m 0 #[rv x0] [] := by first | (simp [entryFrame, mkF, argsToLocals, Value.category]; done) | rfl
abbrev own_Q7 (Z : State) (a1 : Addr) (h0 : Heap) (n0 : Nat) (v : Option Value) (h : Heap) (L : List Loc) : Prop := v = none ∧ Fr n0 L ∧ Keep h0 h [a1] ∧ Exa Z h a1 "java/util/ArrayList" ∧ Fld Z h a1 "java/util/ArrayList" "elementData" "[Ljava/lang/Object;" .null ∧ Fld Z h a1 "java/util/ArrayList" "size" "I" (.int (0 : Int32)) ∧ Fld Z h a1 "java/util/AbstractList" "modCount" "I" (.int (0 : Int32))
set_option maxRecDepth 65536 in
set_option maxHeartbeats 40000000 in
theorem own_m7 (l : Launch) (Z : State) (a0 : Array Value) (hw : ∀ d ∈ tables_1, d.before a0 Z = true) (ws : List Jvm.Cond) (a1 : Addr) (h0 : Heap) (n0 : Nat) (O0 : Old Z n0 h0) (gn_a1 : n0 ≤ a1) (F_1 : Exa Z h0 a1 "java/util/ArrayList") (F_2 : Fld Z h0 a1 "java/util/AbstractList" "modCount" "I" (.int (0 : Int32))) (F_3 : Fld Z h0 a1 "java/util/ArrayList" "size" "I" (.int (0 : Int32))) (F_4 : Fld Z h0 a1 "java/util/ArrayList" "elementData" "[Ljava/lang/Object;" .null) :
    Ctr l Z (⟨"java/util/AbstractList", "<init>", "()V"⟩ : MethodName) jdk_39_method_1_code 1 none (Rm 2 0 0 24) #[(.ref a1)] h0 (own_Q7 Z a1 h0 n0) ws := by
  refine MetFree.of_bodySF (plainFor_of_name own_pn5) hisR ?_
  intro p e s m args below meth c s₁ Bd hml0 hP hK
  obtain ⟨rfl, hZ, hh⟩ := hP
  have hx := Bd.exec
  have hby := Bd.bytes
  have hlk : meth.locks = false := Bd.notSynchronized
  have hml : c.maxLocals = 1 := hml0
  have hown : s.vm.findClass "java/util/AbstractList" = some m.cls := findClass_of_methodNamed Bd.named
  have hnm := (name_of_methodNamed Bd.named Bd.method).1
  have X0 : Stand p l e (Rm 2 0 0 24) s m #[(.ref a1)] below meth c s₁ [] 0 0 := Stand.of_body Bd
  have e0 : s₁.heap = h0 := by rw [← hh, Bd.state]; rfl
  have N0 := Fr.nil n0
  show Goes p.tables e below (fun t o => ∃ v L, o = .returned v ∧ (own_Q7 Z a1 h0 n0) v t.heap L ∧ FrameEnd s o t L ((Rm 2 0 0 24)).cells ((Rm 2 0 0 24)).slots) _
  refine Goes.via (B := s₁.setTop (mkF m 0 #[rv a1] [])) (fun t k => castTop (own_ef7 m a1) k) ?_
  refine Gv s₁ 1 [(.ref a1)] (fun t k => XS.aloadN X0.here hx rfl (hb hby d_jdk_39_1_0) rfl rfl k) ?_
  obtain ⟨_, T1, L1, X1, ⟨rfl, M1, K1⟩, st1⟩ := callInit X0 hx hZ rfl hown (W_ hw 13 rfl) (W_ hw 14 rfl) (W_ hw 17 rfl) (W_ hw 18 rfl) (by decide) (argsL := []) (rest := []) (own_m3 l Z a0 hw [] a1 h0 n0 O0 ) e0 (lenOf own_pd0 rfl) (pc := 1) (Ls := #[rv a1]) (st := [(.ref a1)]) rfl (by rw [hml]; rfl) (hb hby d_jdk_39_1_1) (W := 0) (Nat.le_of_eq rfl) (by decide) (by decide) (by decide) (by decide)
  have N1 := Fr.app N0 M1
  refine Goes.via (B := T1.setTop (mkF m 4 #[rv a1] [])) (fun t k => st1 _ k) ?_
  refine Gv T1 5 [(.ref a1)] (fun t k => XS.aloadN X1.here hx rfl (hb hby d_jdk_39_1_4) rfl rfl k) ?_
  refine Gv T1 6 [(.int (0 : Int32)), (.ref a1)] (fun t k => XS.iconst X1.here hx rfl (hb hby d_jdk_39_1_5) k) ?_
  obtain ⟨T2, h2, X2, e2, W2, st2⟩ := putF X1 hx hZ hown (host := "") (Or.inl (W_ hw 22 rfl)) Via.refl K1 F_2 F_1 (Or.inl (W_ hw 23 rfl)) (W_ hw 2 rfl) (ty := .int) (by decide) rfl rfl (g := (mkF m 6 #[rv a1] [(.int (0 : Int32)), (.ref a1)])) rfl rfl (hb hby d_jdk_39_1_6)
  have N2 := Fr.snoc X2 N1 gn_a1
  refine Goes.via (B := T2.setTop (mkF m 9 #[rv a1] [])) (fun t k => st2 _ k) ?_
  have c3 : Fld Z h2 a1 "java/util/ArrayList" "elementData" "[Ljava/lang/Object;" .null := (Fld.other W2 F_4 (Or.inr (slot_ne (Or.inl (W_ hw 26 rfl)) (Or.inl (W_ hw 23 rfl)) (by decide) (t := (.array (.object "java/lang/Object"))) (t' := .int) (by decide) (by decide))))
  have c4 : Fld Z h2 a1 "java/util/ArrayList" "size" "I" (.int (0 : Int32)) := (Fld.other W2 F_3 (Or.inr (slot_ne (Or.inl (W_ hw 87 rfl)) (Or.inl (W_ hw 23 rfl)) (by decide) (t := .int) (t' := .int) (by decide) (by decide))))
  exact fin0 (Q := (own_Q7 Z a1 h0 n0)) (F := FrameEnd) (C := ((Rm 2 0 0 24)).cells) (S := ((Rm 2 0 0 24)).slots) X2 hx Bd.returns (hb hby d_jdk_39_1_9) e2 ⟨rfl, N2, ((Keep.refl h0 [a1]).wr W2 (Or.inl (List.mem_of_getElem? (i := 0) rfl))), (Exa.wr W2 F_1), c3, c4, (Fld.same W2 F_2)⟩ (lvN X2 hlk (by decide) (by decide))
theorem own_pn6 : plainName "java/util/ArrayList" = true := by first | (simp [plainName, overriddenIn]; done) | decide +kernel
theorem d_jdk_38_2_0 : decode jdk_38_method_2_code 0 = .ok (.aload_n 0, 1) := by decide +kernel
theorem d_jdk_38_2_1 : decode jdk_38_method_2_code 1 = .ok (.invokespecial 1, 3) := by decide +kernel
theorem d_jdk_38_2_4 : decode jdk_38_method_2_code 4 = .ok (.aload_n 0, 1) := by decide +kernel
theorem d_jdk_38_2_5 : decode jdk_38_method_2_code 5 = .ok (.getstatic 39, 3) := by decide +kernel
theorem d_jdk_38_2_8 : decode jdk_38_method_2_code 8 = .ok (.putfield 9, 3) := by decide +kernel
theorem d_jdk_38_2_11 : decode jdk_38_method_2_code 11 = .ok (.return_, 1) := by decide +kernel
theorem own_ef8 (m : MethodId) (x0 : Addr)  : entryFrame m #[(.ref x0)] 1 = mkF m 0 #[rv x0] [] := by first | (simp [entryFrame, mkF, argsToLocals, Value.category]; done) | rfl
abbrev own_Q8 (Z : State) (a1 : Addr) (aD : Addr) (h0 : Heap) (n0 : Nat) (v : Option Value) (h : Heap) (L : List Loc) : Prop := v = none ∧ Fr n0 L ∧ Keep h0 h [a1] ∧ Exa Z h a1 "java/util/ArrayList" ∧ Fld Z h a1 "java/util/ArrayList" "elementData" "[Ljava/lang/Object;" (.ref aD) ∧ Fld Z h a1 "java/util/ArrayList" "size" "I" (.int (0 : Int32)) ∧ Fld Z h a1 "java/util/AbstractList" "modCount" "I" (.int (0 : Int32))
set_option maxRecDepth 65536 in
set_option maxHeartbeats 40000000 in
theorem own_m8 (l : Launch) (Z : State) (a0 : Array Value) (hw : ∀ d ∈ tables_1, d.before a0 Z = true) (ws : List Jvm.Cond) (a1 : Addr) (aD : Addr) (h0 : Heap) (n0 : Nat) (O0 : Old Z n0 h0) (gn_a1 : n0 ≤ a1) (O_1 : Sta Z Z.heap "java/util/ArrayList" "DEFAULTCAPACITY_EMPTY_ELEMENTDATA" "[Ljava/lang/Object;" (.ref aD)) (F_1 : Exa Z h0 a1 "java/util/ArrayList") (F_2 : Fld Z h0 a1 "java/util/ArrayList" "elementData" "[Ljava/lang/Object;" .null) (F_3 : Fld Z h0 a1 "java/util/ArrayList" "size" "I" (.int (0 : Int32))) (F_4 : Fld Z h0 a1 "java/util/AbstractList" "modCount" "I" (.int (0 : Int32))) :
    Ctr l Z (⟨"java/util/ArrayList", "<init>", "()V"⟩ : MethodName) jdk_38_method_2_code 1 none (Rm 3 0 0 36) #[(.ref a1)] h0 (own_Q8 Z a1 aD h0 n0) ws := by
  refine MetFree.of_bodySF (plainFor_of_name own_pn6) hisR ?_
  intro p e s m args below meth c s₁ Bd hml0 hP hK
  obtain ⟨rfl, hZ, hh⟩ := hP
  have hx := Bd.exec
  have hby := Bd.bytes
  have hlk : meth.locks = false := Bd.notSynchronized
  have hml : c.maxLocals = 1 := hml0
  have hown : s.vm.findClass "java/util/ArrayList" = some m.cls := findClass_of_methodNamed Bd.named
  have hnm := (name_of_methodNamed Bd.named Bd.method).1
  have X0 : Stand p l e (Rm 3 0 0 36) s m #[(.ref a1)] below meth c s₁ [] 0 0 := Stand.of_body Bd
  have e0 : s₁.heap = h0 := by rw [← hh, Bd.state]; rfl
  have N0 := Fr.nil n0
  show Goes p.tables e below (fun t o => ∃ v L, o = .returned v ∧ (own_Q8 Z a1 aD h0 n0) v t.heap L ∧ FrameEnd s o t L ((Rm 3 0 0 36)).cells ((Rm 3 0 0 36)).slots) _
  refine Goes.via (B := s₁.setTop (mkF m 0 #[rv a1] [])) (fun t k => castTop (own_ef8 m a1) k) ?_
  refine Gv s₁ 1 [(.ref a1)] (fun t k => XS.aloadN X0.here hx rfl (hb hby d_jdk_38_2_0) rfl rfl k) ?_
  obtain ⟨_, T1, L1, X1, ⟨rfl, M1, K1, f1_0, f1_1, f1_2, f1_3⟩, st1⟩ := callInit X0 hx hZ rfl hown (W_ hw 7 rfl) (W_ hw 8 rfl) (W_ hw 11 rfl) (W_ hw 12 rfl) (by decide) (argsL := []) (rest := []) (own_m7 l Z a0 hw [] a1 h0 n0 O0 gn_a1 F_1 F_4 F_3 F_2) e0 (lenOf own_pd0 rfl) (pc := 1) (Ls := #[rv a1]) (st := [(.ref a1)]) rfl (by rw [hml]; rfl) (hb hby d_jdk_38_2_1) (W := 0) (Nat.le_of_eq rfl) (by decide) (by decide) (by decide) (by decide)
  have N1 := Fr.app N0 M1
  refine Goes.via (B := T1.setTop (mkF m 4 #[rv a1] [])) (fun t k => st1 _ k) ?_
  refine Gv T1 5 [(.ref a1)] (fun t k => XS.aloadN X1.here hx rfl (hb hby d_jdk_38_2_4) rfl rfl k) ?_
  obtain ⟨T2, X2, e2, st2⟩ := getS2 X1 hx hZ hown (host := "") (Or.inl (W_ hw 24 rfl)) Via.refl rfl (Sta.ext (O0.keep K1 (allS gn_a1 all0)).2 O_1) (g := (mkF m 5 #[rv a1] [(.ref a1)])) rfl (hb hby d_jdk_38_2_5)
  refine Goes.via (B := T2.setTop (mkF m 8 #[rv a1] [(.ref aD), (.ref a1)])) (fun t k => st2 _ k) ?_
  obtain ⟨T3, h3, X3, e3, W3, st3⟩ := putF X2 hx hZ hown (host := "") (Or.inl (W_ hw 25 rfl)) Via.refl e2 f1_1 f1_0 (Or.inl (W_ hw 26 rfl)) (W_ hw 2 rfl) (ty := (.array (.object "java/lang/Object"))) (by decide) rfl rfl (g := (mkF m 8 #[rv a1] [(.ref aD), (.ref a1)])) rfl rfl (hb hby d_jdk_38_2_8)
  have N3 := Fr.snoc X3 N1 gn_a1
  refine Goes.via (B := T3.setTop (mkF m 11 #[rv a1] [])) (fun t k => st3 _ k) ?_
  have c4 : Fld Z h3 a1 "java/util/ArrayList" "size" "I" (.int (0 : Int32)) := (Fld.other W3 f1_2 (Or.inr (slot_ne (Or.inl (W_ hw 87 rfl)) (Or.inl (W_ hw 26 rfl)) (by decide) (t := .int) (t' := (.array (.object "java/lang/Object"))) (by decide) (by decide))))
  have c5 : Fld Z h3 a1 "java/util/AbstractList" "modCount" "I" (.int (0 : Int32)) := (Fld.other W3 f1_3 (Or.inr (slot_ne (Or.inl (W_ hw 23 rfl)) (Or.inl (W_ hw 26 rfl)) (by decide) (t := .int) (t' := (.array (.object "java/lang/Object"))) (by decide) (by decide))))
  exact fin0 (Q := (own_Q8 Z a1 aD h0 n0)) (F := FrameEnd) (C := ((Rm 3 0 0 36)).cells) (S := ((Rm 3 0 0 36)).slots) X3 hx Bd.returns (hb hby d_jdk_38_2_11) e3 ⟨rfl, N3, (((Keep.refl h0 [a1]).trans K1 (allS (Or.inl (List.mem_of_getElem? (i := 0) rfl)) all0)).wr W3 (Or.inl (List.mem_of_getElem? (i := 0) rfl))), (Exa.wr W3 f1_0), (Fld.same W3 f1_1), c4, c5⟩ (lvN X3 hlk (by decide) (by decide))
theorem d_jdk_29_65_0 : decode jdk_29_method_65_code 0 = .ok (.iload_n 0, 1) := by decide +kernel
theorem d_jdk_29_65_1 : decode jdk_29_method_65_code 1 = .ok (.iload_n 1, 1) := by decide +kernel
theorem d_jdk_29_65_2 : decode jdk_29_method_65_code 2 = .ok (.if_icmp .lt 7, 3) := by decide +kernel
theorem d_jdk_29_65_9 : decode jdk_29_method_65_code 9 = .ok (.iload_n 1, 1) := by decide +kernel
theorem d_jdk_29_65_10 : decode jdk_29_method_65_code 10 = .ok (.ireturn, 1) := by decide +kernel
theorem d_jdk_29_65_5 : decode jdk_29_method_65_code 5 = .ok (.iload_n 0, 1) := by decide +kernel
theorem d_jdk_29_65_6 : decode jdk_29_method_65_code 6 = .ok (.goto 4, 3) := by decide +kernel
theorem own_ef9 (m : MethodId) (x0 : Int32) (x1 : Int32)  : entryFrame m #[(.int x0), (.int x1)] 2 = mkF m 0 #[iv x0, iv x1] [] := by first | (simp [entryFrame, mkF, argsToLocals, Value.category]; done) | rfl
abbrev own_Q9 (Z : State) (x1 : Int32) (x2 : Int32) (h0 : Heap) (n0 : Nat) (v : Option Value) (h : Heap) (L : List Loc) : Prop := ∃ r : Int32, v = some (.int r) ∧ Fr n0 L ∧ h = h0 ∧ r = if x1 < x2 then x2 else x1
set_option maxRecDepth 65536 in
set_option maxHeartbeats 40000000 in
theorem own_m9 (l : Launch) (Z : State) (a0 : Array Value) (hw : ∀ d ∈ tables_1, d.before a0 Z = true) (ws : List Jvm.Cond) (x1 : Int32) (x2 : Int32) (h0 : Heap) (n0 : Nat) (O0 : Old Z n0 h0) :
    Ctr l Z (⟨"java/lang/Math", "max", "(II)I"⟩ : MethodName) jdk_29_method_65_code 2 (some .int) (Rm 0 0 0 0) #[(.int x1), (.int x2)] h0 (own_Q9 Z x1 x2 h0 n0) ws := by
  refine MetFree.of_bodySF (show plainFor (⟨"java/lang/Math", "max", "(II)I"⟩ : MethodName) = true by decide +kernel) hisR ?_
  intro p e s m args below meth c s₁ Bd hml0 hP hK
  obtain ⟨rfl, hZ, hh⟩ := hP
  have hx := Bd.exec
  have hby := Bd.bytes
  have hlk : meth.locks = false := Bd.notSynchronized
  have hml : c.maxLocals = 2 := hml0
  have hown : s.vm.findClass "java/lang/Math" = some m.cls := findClass_of_methodNamed Bd.named
  have hnm := (name_of_methodNamed Bd.named Bd.method).1
  have X0 : Stand p l e (Rm 0 0 0 0) s m #[(.int x1), (.int x2)] below meth c s₁ [] 0 0 := Stand.of_body Bd
  have e0 : s₁.heap = h0 := by rw [← hh, Bd.state]; rfl
  have N0 := Fr.nil n0
  show Goes p.tables e below (fun t o => ∃ v L, o = .returned v ∧ (own_Q9 Z x1 x2 h0 n0) v t.heap L ∧ FrameEnd s o t L ((Rm 0 0 0 0)).cells ((Rm 0 0 0 0)).slots) _
  refine Goes.via (B := s₁.setTop (mkF m 0 #[iv x1, iv x2] [])) (fun t k => castTop (own_ef9 m x1 x2) k) ?_
  refine Gv s₁ 1 [(.int x1)] (fun t k => XS.iloadN X0.here hx rfl (hb hby d_jdk_29_65_0) rfl k) ?_
  refine Gv s₁ 2 [(.int x2), (.int x1)] (fun t k => XS.iloadN X0.here hx rfl (hb hby d_jdk_29_65_1) rfl k) ?_
  by_cases b1 : x1 < x2
  · refine Gv s₁ 9 [] (fun t k => XS.icmpYes X0.here hx rfl (pc0 := 2) (pc' := 9) rfl (hb hby d_jdk_29_65_2) rfl (XT.ii_lt_t b1) (by decide) (by decide) k) ?_
    refine Gv s₁ 10 [(.int x2)] (fun t k => XS.iloadN X0.here hx rfl (hb hby d_jdk_29_65_9) rfl k) ?_
    exact finI (Q := (own_Q9 Z x1 x2 h0 n0)) (F := FrameEnd) (C := ((Rm 0 0 0 0)).cells) (S := ((Rm 0 0 0 0)).slots) X0 hx Bd.returns (hb hby d_jdk_29_65_10) e0 ⟨x2, rfl, N0, rfl, (if_pos b1).symm⟩ (lvN X0 hlk (by decide) (by decide))
  · refine Gv s₁ 5 [] (fun t k => XS.icmpNo X0.here hx rfl (hb hby d_jdk_29_65_2) rfl (XT.ii_lt_f b1) k) ?_
    refine Gv s₁ 6 [(.int x1)] (fun t k => XS.iloadN X0.here hx rfl (hb hby d_jdk_29_65_5) rfl k) ?_
    refine Gv s₁ 10 [(.int x1)] (fun t k => XS.goto X0.here hx rfl (pc0 := 6) (pc' := 10) rfl (hb hby d_jdk_29_65_6) (by decide) (by decide) k) ?_
    exact finI (Q := (own_Q9 Z x1 x2 h0 n0)) (F := FrameEnd) (C := ((Rm 0 0 0 0)).cells) (S := ((Rm 0 0 0 0)).slots) X0 hx Bd.returns (hb hby d_jdk_29_65_10) e0 ⟨x1, rfl, N0, rfl, (if_neg b1).symm⟩ (lvN X0 hlk (by decide) (by decide))
theorem d_jdk_29_69_0 : decode jdk_29_method_69_code 0 = .ok (.iload_n 0, 1) := by decide +kernel
theorem d_jdk_29_69_1 : decode jdk_29_method_69_code 1 = .ok (.iload_n 1, 1) := by decide +kernel
theorem d_jdk_29_69_2 : decode jdk_29_method_69_code 2 = .ok (.if_icmp .gt 7, 3) := by decide +kernel
theorem d_jdk_29_69_9 : decode jdk_29_method_69_code 9 = .ok (.iload_n 1, 1) := by decide +kernel
theorem d_jdk_29_69_10 : decode jdk_29_method_69_code 10 = .ok (.ireturn, 1) := by decide +kernel
theorem d_jdk_29_69_5 : decode jdk_29_method_69_code 5 = .ok (.iload_n 0, 1) := by decide +kernel
theorem d_jdk_29_69_6 : decode jdk_29_method_69_code 6 = .ok (.goto 4, 3) := by decide +kernel
theorem own_ef10 (m : MethodId) (x0 : Int32) (x1 : Int32)  : entryFrame m #[(.int x0), (.int x1)] 2 = mkF m 0 #[iv x0, iv x1] [] := by first | (simp [entryFrame, mkF, argsToLocals, Value.category]; done) | rfl
abbrev own_Q10 (Z : State) (x1 : Int32) (x2 : Int32) (h0 : Heap) (n0 : Nat) (v : Option Value) (h : Heap) (L : List Loc) : Prop := ∃ r : Int32, v = some (.int r) ∧ Fr n0 L ∧ h = h0 ∧ r = if x2 < x1 then x2 else x1
set_option maxRecDepth 65536 in
set_option maxHeartbeats 40000000 in
theorem own_m10 (l : Launch) (Z : State) (a0 : Array Value) (hw : ∀ d ∈ tables_1, d.before a0 Z = true) (ws : List Jvm.Cond) (x1 : Int32) (x2 : Int32) (h0 : Heap) (n0 : Nat) (O0 : Old Z n0 h0) :
    Ctr l Z (⟨"java/lang/Math", "min", "(II)I"⟩ : MethodName) jdk_29_method_69_code 2 (some .int) (Rm 0 0 0 0) #[(.int x1), (.int x2)] h0 (own_Q10 Z x1 x2 h0 n0) ws := by
  refine MetFree.of_bodySF (show plainFor (⟨"java/lang/Math", "min", "(II)I"⟩ : MethodName) = true by decide +kernel) hisR ?_
  intro p e s m args below meth c s₁ Bd hml0 hP hK
  obtain ⟨rfl, hZ, hh⟩ := hP
  have hx := Bd.exec
  have hby := Bd.bytes
  have hlk : meth.locks = false := Bd.notSynchronized
  have hml : c.maxLocals = 2 := hml0
  have hown : s.vm.findClass "java/lang/Math" = some m.cls := findClass_of_methodNamed Bd.named
  have hnm := (name_of_methodNamed Bd.named Bd.method).1
  have X0 : Stand p l e (Rm 0 0 0 0) s m #[(.int x1), (.int x2)] below meth c s₁ [] 0 0 := Stand.of_body Bd
  have e0 : s₁.heap = h0 := by rw [← hh, Bd.state]; rfl
  have N0 := Fr.nil n0
  show Goes p.tables e below (fun t o => ∃ v L, o = .returned v ∧ (own_Q10 Z x1 x2 h0 n0) v t.heap L ∧ FrameEnd s o t L ((Rm 0 0 0 0)).cells ((Rm 0 0 0 0)).slots) _
  refine Goes.via (B := s₁.setTop (mkF m 0 #[iv x1, iv x2] [])) (fun t k => castTop (own_ef10 m x1 x2) k) ?_
  refine Gv s₁ 1 [(.int x1)] (fun t k => XS.iloadN X0.here hx rfl (hb hby d_jdk_29_69_0) rfl k) ?_
  refine Gv s₁ 2 [(.int x2), (.int x1)] (fun t k => XS.iloadN X0.here hx rfl (hb hby d_jdk_29_69_1) rfl k) ?_
  by_cases b1 : x2 < x1
  · refine Gv s₁ 9 [] (fun t k => XS.icmpYes X0.here hx rfl (pc0 := 2) (pc' := 9) rfl (hb hby d_jdk_29_69_2) rfl (XT.ii_gt_t b1) (by decide) (by decide) k) ?_
    refine Gv s₁ 10 [(.int x2)] (fun t k => XS.iloadN X0.here hx rfl (hb hby d_jdk_29_69_9) rfl k) ?_
    exact finI (Q := (own_Q10 Z x1 x2 h0 n0)) (F := FrameEnd) (C := ((Rm 0 0 0 0)).cells) (S := ((Rm 0 0 0 0)).slots) X0 hx Bd.returns (hb hby d_jdk_29_69_10) e0 ⟨x2, rfl, N0, rfl, (if_pos b1).symm⟩ (lvN X0 hlk (by decide) (by decide))
  · refine Gv s₁ 5 [] (fun t k => XS.icmpNo X0.here hx rfl (hb hby d_jdk_29_69_2) rfl (XT.ii_gt_f b1) k) ?_
    refine Gv s₁ 6 [(.int x1)] (fun t k => XS.iloadN X0.here hx rfl (hb hby d_jdk_29_69_5) rfl k) ?_
    refine Gv s₁ 10 [(.int x1)] (fun t k => XS.goto X0.here hx rfl (pc0 := 6) (pc' := 10) rfl (hb hby d_jdk_29_69_6) (by decide) (by decide) k) ?_
    exact finI (Q := (own_Q10 Z x1 x2 h0 n0)) (F := FrameEnd) (C := ((Rm 0 0 0 0)).cells) (S := ((Rm 0 0 0 0)).slots) X0 hx Bd.returns (hb hby d_jdk_29_69_10) e0 ⟨x1, rfl, N0, rfl, (if_neg b1).symm⟩ (lvN X0 hlk (by decide) (by decide))
theorem d_jdk_38_6_0 : decode jdk_38_method_6_code 0 = .ok (.aload_n 0, 1) := by decide +kernel
theorem d_jdk_38_6_1 : decode jdk_38_method_6_code 1 = .ok (.getfield 9, 3) := by decide +kernel
theorem d_jdk_38_6_4 : decode jdk_38_method_6_code 4 = .ok (.arraylength, 1) := by decide +kernel
theorem d_jdk_38_6_5 : decode jdk_38_method_6_code 5 = .ok (.istore_n 2, 1) := by decide +kernel
theorem d_jdk_38_6_6 : decode jdk_38_method_6_code 6 = .ok (.iload_n 2, 1) := by decide +kernel
theorem d_jdk_38_6_7 : decode jdk_38_method_6_code 7 = .ok (.ifCond .gt 13, 3) := by decide +kernel
theorem d_jdk_38_6_10 : decode jdk_38_method_6_code 10 = .ok (.aload_n 0, 1) := by decide +kernel
theorem d_jdk_38_6_11 : decode jdk_38_method_6_code 11 = .ok (.getfield 9, 3) := by decide +kernel
theorem d_jdk_38_6_14 : decode jdk_38_method_6_code 14 = .ok (.getstatic 39, 3) := by decide +kernel
theorem d_jdk_38_6_17 : decode jdk_38_method_6_code 17 = .ok (.if_acmp .eq 28, 3) := by decide +kernel
theorem d_jdk_38_6_45 : decode jdk_38_method_6_code 45 = .ok (.aload_n 0, 1) := by decide +kernel
theorem d_jdk_38_6_46 : decode jdk_38_method_6_code 46 = .ok (.bipush 10, 2) := by decide +kernel
theorem d_jdk_38_6_48 : decode jdk_38_method_6_code 48 = .ok (.iload_n 1, 1) := by decide +kernel
theorem d_jdk_38_6_49 : decode jdk_38_method_6_code 49 = .ok (.invokestatic 79, 3) := by decide +kernel
theorem own_pd3 : parseMethodDescriptor "(II)I" = some ⟨[.int, .int], some .int⟩ := by decide +kernel
theorem d_jdk_38_6_52 : decode jdk_38_method_6_code 52 = .ok (.anewarray 7, 3) := by decide +kernel
theorem d_jdk_38_6_55 : decode jdk_38_method_6_code 55 = .ok (.dup_x1, 1) := by decide +kernel
theorem d_jdk_38_6_56 : decode jdk_38_method_6_code 56 = .ok (.putfield 9, 3) := by decide +kernel
theorem d_jdk_38_6_59 : decode jdk_38_method_6_code 59 = .ok (.areturn, 1) := by decide +kernel
theorem own_ef11 (m : MethodId) (x0 : Addr) (x1 : Int32)  : entryFrame m #[(.ref x0), (.int x1)] 4 = mkF m 0 #[rv x0, iv x1, u_, u_] [] := by first | (simp [entryFrame, mkF, argsToLocals, Value.category]; done) | rfl
abbrev own_Q11 (Z : State) (a1 : Addr) (x2 : Int32) (aD : Addr) (kD : ClassId) (h0 : Heap) (n0 : Nat) (v : Option Value) (h : Heap) (L : List Loc) : Prop := ∃ b : Addr, ∃ kb : ClassId, v = some (.ref b) ∧ Fr n0 L ∧ Keep h0 h [a1] ∧ h0.size ≤ b ∧ Ovr Z kb "java/lang/Object" ∧ Exa Z h a1 "java/util/ArrayList" ∧ Fld Z h a1 "java/util/ArrayList" "elementData" "[Ljava/lang/Object;" (.ref b) ∧ Fld Z h a1 "java/util/ArrayList" "size" "I" (.int (0 : Int32)) ∧ Fld Z h a1 "java/util/AbstractList" "modCount" "I" (.int x2) ∧ Arv Z h b kb (.object "java/lang/Object") (10 : Int32) [.null, .null, .null, .null, .null, .null, .null, .null, .null, .null] .null ∧ Exa Z h b "[Ljava/lang/Object;"
set_option maxRecDepth 65536 in
set_option maxHeartbeats 40000000 in
theorem own_m11 (l : Launch) (Z : State) (a0 : Array Value) (hw : ∀ d ∈ tables_1, d.before a0 Z = true) (ws : List Jvm.Cond) (a1 : Addr) (x2 : Int32) (aD : Addr) (kD : ClassId) (h0 : Heap) (n0 : Nat) (O0 : Old Z n0 h0) (gn_a1 : n0 ≤ a1) (O_1 : Sta Z Z.heap "java/util/ArrayList" "DEFAULTCAPACITY_EMPTY_ELEMENTDATA" "[Ljava/lang/Object;" (.ref aD)) (O_2 : Arv Z Z.heap aD kD (.object "java/lang/Object") (0 : Int32) [] .null) (F_1 : Exa Z h0 a1 "java/util/ArrayList") (F_2 : Fld Z h0 a1 "java/util/ArrayList" "elementData" "[Ljava/lang/Object;" (.ref aD)) (F_3 : Fld Z h0 a1 "java/util/ArrayList" "size" "I" (.int (0 : Int32))) (F_4 : Fld Z h0 a1 "java/util/AbstractList" "modCount" "I" (.int x2)) :
    Ctr l Z (⟨"java/util/ArrayList", "grow", "(I)[Ljava/lang/Object;"⟩ : MethodName) jdk_38_method_6_code 4 (some (.array (.object "java/lang/Object"))) (Rm 1 1 10 14) #[(.ref a1), (.int (1 : Int32))] h0 (own_Q11 Z a1 x2 aD kD h0 n0) ws := by
  refine MetFree.of_bodySF (plainFor_of_name own_pn6) hisR ?_
  intro p e s m args below meth c s₁ Bd hml0 hP hK
  obtain ⟨rfl, hZ, hh⟩ := hP
  have hx := Bd.exec
  have hby := Bd.bytes
  have hlk : meth.locks = false := Bd.notSynchronized
  have hml : c.maxLocals = 4 := hml0
  have hown : s.vm.findClass "java/util/ArrayList" = some m.cls := findClass_of_methodNamed Bd.named
  have hnm := (name_of_methodNamed Bd.named Bd.method).1
  have X0 : Stand p l e (Rm 1 1 10 14) s m #[(.ref a1), (.int (1 : Int32))] below meth c s₁ [] 0 0 := Stand.of_body Bd
  have e0 : s₁.heap = h0 := by rw [← hh, Bd.state]; rfl
  have N0 := Fr.nil n0
  show Goes p.tables e below (fun t o => ∃ v L, o = .returned v ∧ (own_Q11 Z a1 x2 aD kD h0 n0) v t.heap L ∧ FrameEnd s o t L ((Rm 1 1 10 14)).cells ((Rm 1 1 10 14)).slots) _
  refine Goes.via (B := s₁.setTop (mkF m 0 #[rv a1, iv (1 : Int32), u_, u_] [])) (fun t k => castTop (own_ef11 m a1 (1 : Int32)) k) ?_
  refine Gv s₁ 1 [(.ref a1)] (fun t k => XS.aloadN X0.here hx rfl (hb hby d_jdk_38_6_0) rfl rfl k) ?_
  obtain ⟨T1, X1, e1, st1⟩ := getF X0 hx hZ hown (host := "") (Or.inl (W_ hw 25 rfl)) Via.refl e0 F_2 (g := (mkF m 1 #[rv a1, iv (1 : Int32), u_, u_] [(.ref a1)])) rfl rfl (hb hby d_jdk_38_6_1)
  refine Goes.via (B := T1.setTop (mkF m 4 #[rv a1, iv (1 : Int32), u_, u_] [(.ref aD)])) (fun t k => st1 _ k) ?_
  obtain ⟨cl2, Ar2, q2, S2, N2, H2, G2⟩ := id (O_2.ext O0.2)
  refine Goes.via (B := T1.setTop (mkF m 5 #[rv a1, iv (1 : Int32), u_, u_] [(.int (0 : Int32))])) (fun t k => X1.arraylength hx (by rw [e1]; exact Ar2.1) (State.isArrayOf_alike hZ.alike Ar2.2.1) (g := (mkF m 4 #[rv a1, iv (1 : Int32), u_, u_] [(.ref aD)])) rfl rfl (hb hby d_jdk_38_6_4) t (by rw [(len_of S2 N2)]; exact k)) ?_
  refine Gv T1 6 [] (fun t k => XS.istoreN X1.here hx rfl (hb hby d_jdk_38_6_5) rfl (l' := #[rv a1, iv (1 : Int32), iv (0 : Int32), u_]) rfl k) ?_
  refine Gv T1 7 [(.int (0 : Int32))] (fun t k => XS.iloadN X1.here hx rfl (hb hby d_jdk_38_6_6) rfl k) ?_
  refine Gv T1 10 [] (fun t k => XS.ifNo X1.here hx rfl (hb hby d_jdk_38_6_7) rfl (XT.i0_gt_f (by decide)) k) ?_
  refine Gv T1 11 [(.ref a1)] (fun t k => XS.aloadN X1.here hx rfl (hb hby d_jdk_38_6_10) rfl rfl k) ?_
  obtain ⟨T3, X3, e3, st3⟩ := getF X1 hx hZ hown (host := "") (Or.inl (W_ hw 25 rfl)) Via.refl e1 F_2 (g := (mkF m 11 #[rv a1, iv (1 : Int32), iv (0 : Int32), u_] [(.ref a1)])) rfl rfl (hb hby d_jdk_38_6_11)
  refine Goes.via (B := T3.setTop (mkF m 14 #[rv a1, iv (1 : Int32), iv (0 : Int32), u_] [(.ref aD)])) (fun t k => st3 _ k) ?_
  obtain ⟨T4, X4, e4, st4⟩ := getS2 X3 hx hZ hown (host := "") (Or.inl (W_ hw 24 rfl)) Via.refl e3 (Sta.ext O0.2 O_1) (g := (mkF m 14 #[rv a1, iv (1 : Int32), iv (0 : Int32), u_] [(.ref aD)])) rfl (hb hby d_jdk_38_6_14)
  refine Goes.via (B := T4.setTop (mkF m 17 #[rv a1, iv (1 : Int32), iv (0 : Int32), u_] [(.ref aD), (.ref aD)])) (fun t k => st4 _ k) ?_
  refine Gv T4 45 [] (fun t k => XT.acmpYes X4.here hx rfl (pc0 := 17) (pc' := 45) rfl (hb hby d_jdk_38_6_17) rfl rfl rfl (XT.aa_eq_t rfl) (by decide) (by decide) k) ?_
  refine Gv T4 46 [(.ref a1)] (fun t k => XS.aloadN X4.here hx rfl (hb hby d_jdk_38_6_45) rfl rfl k) ?_
  refine Gv T4 48 [(.int (10 : Int32)), (.ref a1)] (fun t k => XS.bipush X4.here hx rfl (hb hby d_jdk_38_6_46) k) ?_
  refine Gv T4 49 [(.int (1 : Int32)), (.int (10 : Int32)), (.ref a1)] (fun t k => XS.iloadN X4.here hx rfl (hb hby d_jdk_38_6_48) rfl k) ?_
  obtain ⟨_, T5, L5, X5, ⟨r5, rfl, M5, K5, p5_0⟩, st5⟩ := callStatic X4 hx hZ hown (W_ hw 103 rfl) (W_ hw 104 rfl) (W_ hw 105 rfl) (W_ hw 106 rfl) (by decide) (argsL := [(.int (10 : Int32)), (.int (1 : Int32))]) (rest := [(.ref a1)]) (own_m9 l Z a0 hw [] (10 : Int32) (1 : Int32) h0 n0 O0 ) e4 (lenOf own_pd3 rfl) (pc := 49) (Ls := #[rv a1, iv (1 : Int32), iv (0 : Int32), u_]) (st := [(.int (1 : Int32)), (.int (10 : Int32)), (.ref a1)]) rfl (by rw [hml]; rfl) (hb hby d_jdk_38_6_49) (W := 1) (Nat.le_of_eq rfl) (by decide) (by decide) (by decide) (by decide)
  have N5 := Fr.app N0 M5
  refine Goes.via (B := T5.setTop (mkF m 52 #[rv a1, iv (1 : Int32), iv (0 : Int32), u_] [(.int r5), (.ref a1)])) (fun t k => st5 _ k) ?_
  obtain rfl : r5 = (10 : Int32) := p5_0.trans (by decide)
  obtain ⟨T6, h6, k6, X6, e6, E6, A6, Ex6, Ov6, st6⟩ := newRE X5 hx hZ hown (W_ hw 107 rfl) (W_ hw 108 rfl) K5 (g := (mkF m 52 #[rv a1, iv (1 : Int32), iv (0 : Int32), u_] [(.int (10 : Int32)), (.ref a1)])) rfl (hb hby d_jdk_38_6_52) rfl (by decide) (cap := 10) (by decide) (by decide) (by decide) (by decide) (ad := "[Ljava/lang/Object;") rfl
  obtain ⟨b6, g6⟩ : ∃ z, z = h0.size := ⟨_, rfl⟩
  rw [← g6] at A6 Ex6 st6
  have gn6 : n0 ≤ b6 := Nat.le_trans (old_le O0) (Nat.le_of_eq g6.symm)
  have gs6 : h0.size ≤ b6 := Nat.le_trans (Keep.refl h0 [a1]).1 (Nat.le_of_eq g6.symm)
  have V6 : Arv Z h6 b6 k6 (.object "java/lang/Object") (10 : Int32) [.null, .null, .null, .null, .null, .null, .null, .null, .null, .null] .null := (Arv.new A6 (by decide)).pad (pad_rep [] .null 10)
  refine Goes.via (B := T6.setTop (mkF m 55 #[rv a1, iv (1 : Int32), iv (0 : Int32), u_] [(.ref b6), (.ref a1)])) (fun t k => st6 _ k) ?_
  refine Gv T6 56 [(.ref b6), (.ref a1), (.ref b6)] (fun t k => XS.dupX1 X6.here hx rfl (hb hby d_jdk_38_6_55) rfl rfl rfl k) ?_
  obtain ⟨T7, h7, X7, e7, W7, st7⟩ := putF X6 hx hZ hown (host := "") (Or.inl (W_ hw 25 rfl)) Via.refl e6 (F_2.ext E6) (F_1.ext E6) (Or.inl (W_ hw 26 rfl)) (W_ hw 2 rfl) (ty := (.array (.object "java/lang/Object"))) (by decide) rfl rfl (g := (mkF m 56 #[rv a1, iv (1 : Int32), iv (0 : Int32), u_] [(.ref b6), (.ref a1), (.ref b6)])) rfl rfl (hb hby d_jdk_38_6_56)
  have N7 := Fr.snoc X7 N5 gn_a1
  refine Goes.via (B := T7.setTop (mkF m 59 #[rv a1, iv (1 : Int32), iv (0 : Int32), u_] [(.ref b6)])) (fun t k => st7 _ k) ?_
  have c8 : Fld Z h7 a1 "java/util/ArrayList" "size" "I" (.int (0 : Int32)) := (Fld.other W7 (F_3.ext E6) (Or.inr (slot_ne (Or.inl (W_ hw 87 rfl)) (Or.inl (W_ hw 26 rfl)) (by decide) (t := .int) (t' := (.array (.object "java/lang/Object"))) (by decide) (by decide))))
  have c9 : Fld Z h7 a1 "java/util/AbstractList" "modCount" "I" (.int x2) := (Fld.other W7 (F_4.ext E6) (Or.inr (slot_ne (Or.inl (W_ hw 23 rfl)) (Or.inl (W_ hw 26 rfl)) (by decide) (t := .int) (t' := (.array (.object "java/lang/Object"))) (by decide) (by decide))))
  have c10 : Arv Z h7 b6 k6 (.object "java/lang/Object") (10 : Int32) [.null, .null, .null, .null, .null, .null, .null, .null, .null, .null] .null := (Arv.other V6 W7 (Ne.symm (Nat.ne_of_lt (Nat.lt_of_lt_of_le F_1.lt (Nat.le_of_eq g6.symm)))))
  exact finA (Q := (own_Q11 Z a1 x2 aD kD h0 n0)) (F := FrameEnd) (C := ((Rm 1 1 10 14)).cells) (S := ((Rm 1 1 10 14)).slots) X7 hx Bd.returns rfl rfl rfl (hb hby d_jdk_38_6_59) e7 ⟨b6, k6, rfl, N7, (((Keep.refl h0 [a1]).ext E6).wr W7 (Or.inl (List.mem_of_getElem? (i := 0) rfl))), gs6, Ov6, (Exa.wr W7 (F_1.ext E6)), (Fld.same W7 (F_2.ext E6)), c8, c9, c10, (Exa.wr W7 Ex6)⟩ (lvN X7 hlk (by decide) (by decide))
theorem d_jdk_38_7_0 : decode jdk_38_method_7_code 0 = .ok (.aload_n 0, 1) := by decide +kernel
theorem d_jdk_38_7_1 : decode jdk_38_method_7_code 1 = .ok (.aload_n 0, 1) := by decide +kernel
theorem d_jdk_38_7_2 : decode jdk_38_method_7_code 2 = .ok (.getfield 48, 3) := by decide +kernel
theorem d_jdk_38_7_5 : decode jdk_38_method_7_code 5 = .ok (.iconst 1, 1) := by decide +kernel
theorem d_jdk_38_7_6 : decode jdk_38_method_7_code 6 = .ok (.iadd, 1) := by decide +kernel
theorem d_jdk_38_7_7 : decode jdk_38_method_7_code 7 = .ok (.invokevirtual 69, 3) := by decide +kernel
theorem own_pd4 : parseMethodDescriptor "(I)[Ljava/lang/Object;" = some ⟨[.int], some (.array (.object "java/lang/Object"))⟩ := by decide +kernel
theorem d_jdk_38_7_10 : decode jdk_38_method_7_code 10 = .ok (.areturn, 1) := by decide +kernel
theorem own_ef12 (m : MethodId) (x0 : Addr)  : entryFrame m #[(.ref x0)] 1 = mkF m 0 #[rv x0] [] := by first | (simp [entryFrame, mkF, argsToLocals, Value.category]; done) | rfl
abbrev own_Q12 (Z : State) (a1 : Addr) (x2 : Int32) (aD : Addr) (kD : ClassId) (h0 : Heap) (n0 : Nat) (v : Option Value) (h : Heap) (L : List Loc) : Prop := ∃ b : Addr, ∃ kb : ClassId, v = some (.ref b) ∧ Fr n0 L ∧ Keep h0 h [a1] ∧ h0.size ≤ b ∧ Ovr Z kb "java/lang/Object" ∧ Exa Z h a1 "java/util/ArrayList" ∧ Fld Z h a1 "java/util/ArrayList" "elementData" "[Ljava/lang/Object;" (.ref b) ∧ Fld Z h a1 "java/util/ArrayList" "size" "I" (.int (0 : Int32)) ∧ Fld Z h a1 "java/util/AbstractList" "modCount" "I" (.int x2) ∧ Arv Z h b kb (.object "java/lang/Object") (10 : Int32) [.null, .null, .null, .null, .null, .null, .null, .null, .null, .null] .null ∧ Exa Z h b "[Ljava/lang/Object;"
set_option maxRecDepth 65536 in
set_option maxHeartbeats 40000000 in
theorem own_m12 (l : Launch) (Z : State) (a0 : Array Value) (hw : ∀ d ∈ tables_1, d.before a0 Z = true) (ws : List Jvm.Cond) (a1 : Addr) (x2 : Int32) (aD : Addr) (kD : ClassId) (h0 : Heap) (n0 : Nat) (O0 : Old Z n0 h0) (gn_a1 : n0 ≤ a1) (O_1 : Sta Z Z.heap "java/util/ArrayList" "DEFAULTCAPACITY_EMPTY_ELEMENTDATA" "[Ljava/lang/Object;" (.ref aD)) (O_2 : Arv Z Z.heap aD kD (.object "java/lang/Object") (0 : Int32) [] .null) (F_1 : Exa Z h0 a1 "java/util/ArrayList") (F_2 : Fld Z h0 a1 "java/util/ArrayList" "elementData" "[Ljava/lang/Object;" (.ref aD)) (F_3 : Fld Z h0 a1 "java/util/ArrayList" "size" "I" (.int (0 : Int32))) (F_4 : Fld Z h0 a1 "java/util/AbstractList" "modCount" "I" (.int x2)) :
    Ctr l Z (⟨"java/util/ArrayList", "grow", "()[Ljava/lang/Object;"⟩ : MethodName) jdk_38_method_7_code 1 (some (.array (.object "java/lang/Object"))) (Rm 2 1 10 29) #[(.ref a1)] h0 (own_Q12 Z a1 x2 aD kD h0 n0) ws := by
  refine MetFree.of_bodySF (plainFor_of_name own_pn6) hisR ?_
  intro p e s m args below meth c s₁ Bd hml0 hP hK
  obtain ⟨rfl, hZ, hh⟩ := hP
  have hx := Bd.exec
  have hby := Bd.bytes
  have hlk : meth.locks = false := Bd.notSynchronized
  have hml : c.maxLocals = 1 := hml0
  have hown : s.vm.findClass "java/util/ArrayList" = some m.cls := findClass_of_methodNamed Bd.named
  have hnm := (name_of_methodNamed Bd.named Bd.method).1
  have X0 : Stand p l e (Rm 2 1 10 29) s m #[(.ref a1)] below meth c s₁ [] 0 0 := Stand.of_body Bd
  have e0 : s₁.heap = h0 := by rw [← hh, Bd.state]; rfl
  have N0 := Fr.nil n0
  show Goes p.tables e below (fun t o => ∃ v L, o = .returned v ∧ (own_Q12 Z a1 x2 aD kD h0 n0) v t.heap L ∧ FrameEnd s o t L ((Rm 2 1 10 29)).cells ((Rm 2 1 10 29)).slots) _
  refine Goes.via (B := s₁.setTop (mkF m 0 #[rv a1] [])) (fun t k => castTop (own_ef12 m a1) k) ?_
  refine Gv s₁ 1 [(.ref a1)] (fun t k => XS.aloadN X0.here hx rfl (hb hby d_jdk_38_7_0) rfl rfl k) ?_
  refine Gv s₁ 2 [(.ref a1), (.ref a1)] (fun t k => XS.aloadN X0.here hx rfl (hb hby d_jdk_38_7_1) rfl rfl k) ?_
  obtain ⟨T1, X1, e1, st1⟩ := getF X0 hx hZ hown (host := "") (Or.inl (W_ hw 86 rfl)) Via.refl e0 F_3 (g := (mkF m 2 #[rv a1] [(.ref a1), (.ref a1)])) rfl rfl (hb hby d_jdk_38_7_2)
  refine Goes.via (B := T1.setTop (mkF m 5 #[rv a1] [(.int (0 : Int32)), (.ref a1)])) (fun t k => st1 _ k) ?_
  refine Gv T1 6 [(.int (1 : Int32)), (.int (0 : Int32)), (.ref a1)] (fun t k => XS.iconst X1.here hx rfl (hb hby d_jdk_38_7_5) k) ?_
  refine Gv T1 7 [(.int ((0 : Int32) + (1 : Int32))), (.ref a1)] (fun t k => XS.iadd X1.here hx rfl (hb hby d_jdk_38_7_6) rfl k) ?_
  have q2 : ((0 : Int32) + (1 : Int32)) = (1 : Int32) := rfl
  rw [q2]
  obtain ⟨_, T3, L3, X3, ⟨b3, kb3, rfl, M3, K3, z3_0, p3_0, f3_0, f3_1, f3_2, f3_3, f3_4, f3_5⟩, st3⟩ := callPriv X1 hx hZ hown (W_ hw 98 rfl) (W_ hw 99 rfl) (W_ hw 101 rfl) (W_ hw 100 rfl) (W_ hw 3 rfl) (W_ hw 102 rfl) (by decide) (argsL := [(.int (1 : Int32))]) (rest := []) (own_m11 l Z a0 hw [] a1 x2 aD kD h0 n0 O0 gn_a1 O_1 O_2 F_1 F_2 F_3 F_4) e1 F_1 (lenOf own_pd4 rfl) (pc := 7) (Ls := #[rv a1]) (st := [(.int (1 : Int32)), (.ref a1)]) rfl (by rw [hml]; rfl) (hb hby d_jdk_38_7_7) (W := 0) (Nat.le_of_eq rfl) (by decide) (by decide) (by decide) (by decide)
  have N3 := Fr.app N0 M3
  have gn3_0 : n0 ≤ b3 := Nat.le_trans (old_le O0) z3_0
  have gs3_0 : h0.size ≤ b3 := Nat.le_trans (Keep.refl h0 [a1]).1 z3_0
  refine Goes.via (B := T3.setTop (mkF m 10 #[rv a1] [(.ref b3)])) (fun t k => st3 _ k) ?_
  exact finA (Q := (own_Q12 Z a1 x2 aD kD h0 n0)) (F := FrameEnd) (C := ((Rm 2 1 10 29)).cells) (S := ((Rm 2 1 10 29)).slots) X3 hx Bd.returns rfl rfl rfl (hb hby d_jdk_38_7_10) rfl ⟨b3, kb3, rfl, N3, ((Keep.refl h0 [a1]).trans K3 (allS (Or.inl (List.mem_of_getElem? (i := 0) rfl)) all0)), gs3_0, p3_0, f3_0, f3_1, f3_2, f3_3, f3_4, f3_5⟩ (lvN X3 hlk (by decide) (by decide))
theorem d_jdk_38_24_0 : decode jdk_38_method_24_code 0 = .ok (.iload_n 3, 1) := by decide +kernel
theorem d_jdk_38_24_1 : decode jdk_38_method_24_code 1 = .ok (.aload_n 2, 1) := by decide +kernel
theorem d_jdk_38_24_2 : decode jdk_38_method_24_code 2 = .ok (.arraylength, 1) := by decide +kernel
theorem d_jdk_38_24_3 : decode jdk_38_method_24_code 3 = .ok (.if_icmp .ne 8, 3) := by decide +kernel
theorem d_jdk_38_24_6 : decode jdk_38_method_24_code 6 = .ok (.aload_n 0, 1) := by decide +kernel
theorem d_jdk_38_24_7 : decode jdk_38_method_24_code 7 = .ok (.invokevirtual 129, 3) := by decide +kernel
theorem own_pd5 : parseMethodDescriptor "()[Ljava/lang/Object;" = some ⟨[], some (.array (.object "java/lang/Object"))⟩ := by decide +kernel
theorem d_jdk_38_24_10 : decode jdk_38_method_24_code 10 = .ok (.astore_n 2, 1) := by decide +kernel
theorem d_jdk_38_24_11 : decode jdk_38_method_24_code 11 = .ok (.aload_n 2, 1) := by decide +kernel
theorem d_jdk_38_24_12 : decode jdk_38_method_24_code 12 = .ok (.iload_n 3, 1) := by decide +kernel
theorem d_jdk_38_24_13 : decode jdk_38_method_24_code 13 = .ok (.aload_n 1, 1) := by decide +kernel
theorem d_jdk_38_24_14 : decode jdk_38_method_24_code 14 = .ok (.aastore, 1) := by decide +kernel
theorem d_jdk_38_24_15 : decode jdk_38_method_24_code 15 = .ok (.aload_n 0, 1) := by decide +kernel
theorem d_jdk_38_24_16 : decode jdk_38_method_24_code 16 = .ok (.iload_n 3, 1) := by decide +kernel
theorem d_jdk_38_24_17 : decode jdk_38_method_24_code 17 = .ok (.iconst 1, 1) := by decide +kernel
theorem d_jdk_38_24_18 : decode jdk_38_method_24_code 18 = .ok (.iadd, 1) := by decide +kernel
theorem d_jdk_38_24_19 : decode jdk_38_method_24_code 19 = .ok (.putfield 48, 3) := by decide +kernel
theorem d_jdk_38_24_22 : decode jdk_38_method_24_code 22 = .ok (.return_, 1) := by decide +kernel
theorem own_ef13 (m : MethodId) (x0 : Addr) (x1 : Addr) (x2 : Addr) (x3 : Int32)  : entryFrame m #[(.ref x0), (.ref x1), (.ref x2), (.int x3)] 4 = mkF m 0 #[rv x0, rv x1, rv x2, iv x3] [] := by first | (simp [entryFrame, mkF, argsToLocals, Value.category]; done) | rfl
abbrev own_Q13 (Z : State) (a1 : Addr) (a2 : Addr) (x2 : Int32) (aD : Addr) (kD : ClassId) (h0 : Heap) (n0 : Nat) (v : Option Value) (h : Heap) (L : List Loc) : Prop := ∃ b : Addr, ∃ kb : ClassId, v = none ∧ Fr n0 L ∧ Keep h0 h [a1] ∧ h0.size ≤ b ∧ Ovr Z kb "java/lang/Object" ∧ Exa Z h a1 "java/util/ArrayList" ∧ Fld Z h a1 "java/util/ArrayList" "elementData" "[Ljava/lang/Object;" (.ref b) ∧ Fld Z h a1 "java/util/ArrayList" "size" "I" (.int (1 : Int32)) ∧ Fld Z h a1 "java/util/AbstractList" "modCount" "I" (.int x2) ∧ Exa Z h a2 "com/example/wakenitz/wakenitz/measure/ScoreSheet$PageScore" ∧ Arv Z h b kb (.object "java/lang/Object") (10 : Int32) [(.ref a2), .null, .null, .null, .null, .null, .null, .null, .null, .null] .null ∧ Exa Z h b "[Ljava/lang/Object;"
set_option maxRecDepth 65536 in
set_option maxHeartbeats 40000000 in
theorem own_m13 (l : Launch) (Z : State) (a0 : Array Value) (hw : ∀ d ∈ tables_1, d.before a0 Z = true) (ws : List Jvm.Cond) (a1 : Addr) (a2 : Addr) (x2 : Int32) (aD : Addr) (kD : ClassId) (h0 : Heap) (n0 : Nat) (O0 : Old Z n0 h0) (gn_a1 : n0 ≤ a1) (O_1 : Sta Z Z.heap "java/util/ArrayList" "DEFAULTCAPACITY_EMPTY_ELEMENTDATA" "[Ljava/lang/Object;" (.ref aD)) (O_2 : Arv Z Z.heap aD kD (.object "java/lang/Object") (0 : Int32) [] .null) (F_1 : Exa Z h0 a1 "java/util/ArrayList") (F_2 : Fld Z h0 a1 "java/util/ArrayList" "elementData" "[Ljava/lang/Object;" (.ref aD)) (F_3 : Fld Z h0 a1 "java/util/ArrayList" "size" "I" (.int (0 : Int32))) (F_4 : Fld Z h0 a1 "java/util/AbstractList" "modCount" "I" (.int x2)) (F_5 : Exa Z h0 a2 "com/example/wakenitz/wakenitz/measure/ScoreSheet$PageScore") :
    Ctr l Z (⟨"java/util/ArrayList", "add", "(Ljava/lang/Object;[Ljava/lang/Object;I)V"⟩ : MethodName) jdk_38_method_24_code 4 none (Rm 3 1 10 41) #[(.ref a1), (.ref a2), (.ref aD), (.int (0 : Int32))] h0 (own_Q13 Z a1 a2 x2 aD kD h0 n0) ws := by
  refine MetFree.of_bodySF (plainFor_of_name own_pn6) hisR ?_
  intro p e s m args below meth c s₁ Bd hml0 hP hK
  obtain ⟨rfl, hZ, hh⟩ := hP
  have hx := Bd.exec
  have hby := Bd.bytes
  have hlk : meth.locks = false := Bd.notSynchronized
  have hml : c.maxLocals = 4 := hml0
  have hown : s.vm.findClass "java/util/ArrayList" = some m.cls := findClass_of_methodNamed Bd.named
  have hnm := (name_of_methodNamed Bd.named Bd.method).1
  have X0 : Stand p l e (Rm 3 1 10 41) s m #[(.ref a1), (.ref a2), (.ref aD), (.int (0 : Int32))] below meth c s₁ [] 0 0 := Stand.of_body Bd
  have e0 : s₁.heap = h0 := by rw [← hh, Bd.state]; rfl
  have N0 := Fr.nil n0
  show Goes p.tables e below (fun t o => ∃ v L, o = .returned v ∧ (own_Q13 Z a1 a2 x2 aD kD h0 n0) v t.heap L ∧ FrameEnd s o t L ((Rm 3 1 10 41)).cells ((Rm 3 1 10 41)).slots) _
  refine Goes.via (B := s₁.setTop (mkF m 0 #[rv a1, rv a2, rv aD, iv (0 : Int32)] [])) (fun t k => castTop (own_ef13 m a1 a2 aD (0 : Int32)) k) ?_
  refine Gv s₁ 1 [(.int (0 : Int32))] (fun t k => XS.iloadN X0.here hx rfl (hb hby d_jdk_38_24_0) rfl k) ?_
  refine Gv s₁ 2 [(.ref aD), (.int (0 : Int32))] (fun t k => XS.aloadN X0.here hx rfl (hb hby d_jdk_38_24_1) rfl rfl k) ?_
  obtain ⟨cl1, Ar1, q1, S1, N1, H1, G1⟩ := id (O_2.ext O0.2)
  refine Goes.via (B := s₁.setTop (mkF m 3 #[rv a1, rv a2, rv aD, iv (0 : Int32)] [(.int (0 : Int32)), (.int (0 : Int32))])) (fun t k => X0.arraylength hx (by rw [e0]; exact Ar1.1) (State.isArrayOf_alike hZ.alike Ar1.2.1) (g := (mkF m 2 #[rv a1, rv a2, rv aD, iv (0 : Int32)] [(.ref aD), (.int (0 : Int32))])) rfl rfl (hb hby d_jdk_38_24_2) t (by rw [(len_of S1 N1)]; exact k)) ?_
  refine Gv s₁ 6 [] (fun t k => XS.icmpNo X0.here hx rfl (hb hby d_jdk_38_24_3) rfl (XT.ii_ne_f rfl) k) ?_
  refine Gv s₁ 7 [(.ref a1)] (fun t k => XS.aloadN X0.here hx rfl (hb hby d_jdk_38_24_6) rfl rfl k) ?_
  obtain ⟨_, T2, L2, X2, ⟨b2, kb2, rfl, M2, K2, z2_0, p2_0, f2_0, f2_1, f2_2, f2_3, f2_4, f2_5⟩, st2⟩ := callPriv X0 hx hZ hown (W_ hw 93 rfl) (W_ hw 94 rfl) (W_ hw 96 rfl) (W_ hw 95 rfl) (W_ hw 3 rfl) (W_ hw 97 rfl) (by decide) (argsL := []) (rest := []) (own_m12 l Z a0 hw [] a1 x2 aD kD h0 n0 O0 gn_a1 O_1 O_2 F_1 F_2 F_3 F_4) e0 F_1 (lenOf own_pd5 rfl) (pc := 7) (Ls := #[rv a1, rv a2, rv aD, iv (0 : Int32)]) (st := [(.ref a1)]) rfl (by rw [hml]; rfl) (hb hby d_jdk_38_24_7) (W := 0) (Nat.le_of_eq rfl) (by decide) (by decide) (by decide) (by decide)
  have N2 := Fr.app N0 M2
  have gn2_0 : n0 ≤ b2 := Nat.le_trans (old_le O0) z2_0
  have gs2_0 : h0.size ≤ b2 := Nat.le_trans (Keep.refl h0 [a1]).1 z2_0
  refine Goes.via (B := T2.setTop (mkF m 10 #[rv a1, rv a2, rv aD, iv (0 : Int32)] [(.ref b2)])) (fun t k => st2 _ k) ?_
  refine Gv T2 11 [] (fun t k => XS.astoreN X2.here hx rfl (hb hby d_jdk_38_24_10) rfl rfl (l' := #[rv a1, rv a2, rv b2, iv (0 : Int32)]) rfl k) ?_
  refine Gv T2 12 [(.ref b2)] (fun t k => XS.aloadN X2.here hx rfl (hb hby d_jdk_38_24_11) rfl rfl k) ?_
  refine Gv T2 13 [(.int (0 : Int32)), (.ref b2)] (fun t k => XS.iloadN X2.here hx rfl (hb hby d_jdk_38_24_12) rfl k) ?_
  refine Gv T2 14 [(.ref a2), (.int (0 : Int32)), (.ref b2)] (fun t k => XS.aloadN X2.here hx rfl (hb hby d_jdk_38_24_13) rfl rfl k) ?_
  obtain ⟨cl3, Ar3, q3, S3, N3, H3, G3⟩ := id f2_4
  obtain ⟨T3, h3, X3, e3, W3, st3⟩ := stR X2 hx hZ rfl Ar3 (j := (0 : Int32)) (inb_of S3 ⟨by decide, by decide⟩) rfl (Sto.ofV Ar3 q3 p2_0 (Ins.of_exa (F_5.keep K2) (W_ hw 109 rfl))) (g := (mkF m 14 #[rv a1, rv a2, rv b2, iv (0 : Int32)] [(.ref a2), (.int (0 : Int32)), (.ref b2)])) rfl rfl (hb hby d_jdk_38_24_14)
  have Nf3 := Fr.snoc X3 N2 gn2_0
  have V3 : Arv Z h3 b2 kb2 (.object "java/lang/Object") (10 : Int32) [(.ref a2), .null, .null, .null, .null, .null, .null, .null, .null, .null] .null := Arv.set Ar3 q3 S3 N3 H3 G3 rfl W3 0 rfl (Nat.le_of_ble_eq_true rfl)
  refine Goes.via (B := T3.setTop (mkF m 15 #[rv a1, rv a2, rv b2, iv (0 : Int32)] [])) (fun t k => st3 _ k) ?_
  refine Gv T3 16 [(.ref a1)] (fun t k => XS.aloadN X3.here hx rfl (hb hby d_jdk_38_24_15) rfl rfl k) ?_
  refine Gv T3 17 [(.int (0 : Int32)), (.ref a1)] (fun t k => XS.iloadN X3.here hx rfl (hb hby d_jdk_38_24_16) rfl k) ?_
  refine Gv T3 18 [(.int (1 : Int32)), (.int (0 : Int32)), (.ref a1)] (fun t k => XS.iconst X3.here hx rfl (hb hby d_jdk_38_24_17) k) ?_
  refine Gv T3 19 [(.int ((0 : Int32) + (1 : Int32))), (.ref a1)] (fun t k => XS.iadd X3.here hx rfl (hb hby d_jdk_38_24_18) rfl k) ?_
  have q4 : ((0 : Int32) + (1 : Int32)) = (1 : Int32) := rfl
  rw [q4]
  have c5 : Fld Z h3 a1 "java/util/ArrayList" "size" "I" (.int (0 : Int32)) := (Fld.other W3 f2_2 (Or.inl (Nat.ne_of_lt (Nat.lt_of_lt_of_le F_1.lt z2_0))))
  obtain ⟨T6, h6, X6, e6, W6, st6⟩ := putF X3 hx hZ hown (host := "") (Or.inl (W_ hw 86 rfl)) Via.refl e3 c5 (Exa.wr W3 f2_0) (Or.inl (W_ hw 87 rfl)) (W_ hw 2 rfl) (ty := .int) (by decide) rfl rfl (g := (mkF m 19 #[rv a1, rv a2, rv b2, iv (0 : Int32)] [(.int (1 : Int32)), (.ref a1)])) rfl rfl (hb hby d_jdk_38_24_19)
  have N6 := Fr.snoc X6 Nf3 gn_a1
  refine Goes.via (B := T6.setTop (mkF m 22 #[rv a1, rv a2, rv b2, iv (0 : Int32)] [])) (fun t k => st6 _ k) ?_
  have c7 : Fld Z h6 a1 "java/util/ArrayList" "elementData" "[Ljava/lang/Object;" (.ref b2) := (Fld.other W6 (Fld.other W3 f2_1 (Or.inl (Nat.ne_of_lt (Nat.lt_of_lt_of_le F_1.lt z2_0)))) (Or.inr (slot_ne (Or.inl (W_ hw 26 rfl)) (Or.inl (W_ hw 87 rfl)) (by decide) (t := (.array (.object "java/lang/Object"))) (t' := .int) (by decide) (by decide))))
  have c8 : Fld Z h6 a1 "java/util/AbstractList" "modCount" "I" (.int x2) := (Fld.other W6 (Fld.other W3 f2_3 (Or.inl (Nat.ne_of_lt (Nat.lt_of_lt_of_le F_1.lt z2_0)))) (Or.inr (slot_ne (Or.inl (W_ hw 23 rfl)) (Or.inl (W_ hw 87 rfl)) (by decide) (t := .int) (t' := .int) (by decide) (by decide))))
  have c9 : Arv Z h6 b2 kb2 (.object "java/lang/Object") (10 : Int32) [(.ref a2), .null, .null, .null, .null, .null, .null, .null, .null, .null] .null := (Arv.other V3 W6 (Ne.symm (Nat.ne_of_lt (Nat.lt_of_lt_of_le F_1.lt z2_0))))
  exact fin0 (Q := (own_Q13 Z a1 a2 x2 aD kD h0 n0)) (F := FrameEnd) (C := ((Rm 3 1 10 41)).cells) (S := ((Rm 3 1 10 41)).slots) X6 hx Bd.returns (hb hby d_jdk_38_24_22) e6 ⟨b2, kb2, rfl, N6, ((((Keep.refl h0 [a1]).trans K2 (allS (Or.inl (List.mem_of_getElem? (i := 0) rfl)) all0)).wr W3 (Or.inr gs2_0)).wr W6 (Or.inl (List.mem_of_getElem? (i := 0) rfl))), gs2_0, p2_0, (Exa.wr W6 (Exa.wr W3 f2_0)), c7, (Fld.same W6 c5), c8, (Exa.wr W6 (Exa.wr W3 (F_5.keep K2))), c9, (Exa.wr W6 (Exa.wr W3 f2_5))⟩ (lvN X6 hlk (by decide) (by decide))
theorem d_jdk_38_25_0 : decode jdk_38_method_25_code 0 = .ok (.aload_n 0, 1) := by decide +kernel
theorem d_jdk_38_25_1 : decode jdk_38_method_25_code 1 = .ok (.dup, 1) := by decide +kernel
theorem d_jdk_38_25_2 : decode jdk_38_method_25_code 2 = .ok (.getfield 63, 3) := by decide +kernel
theorem d_jdk_38_25_5 : decode jdk_38_method_25_code 5 = .ok (.iconst 1, 1) := by decide +kernel
theorem d_jdk_38_25_6 : decode jdk_38_method_25_code 6 = .ok (.iadd, 1) := by decide +kernel
theorem d_jdk_38_25_7 : decode jdk_38_method_25_code 7 = .ok (.putfield 63, 3) := by decide +kernel
theorem d_jdk_38_25_10 : decode jdk_38_method_25_code 10 = .ok (.aload_n 0, 1) := by decide +kernel
theorem d_jdk_38_25_11 : decode jdk_38_method_25_code 11 = .ok (.aload_n 1, 1) := by decide +kernel
theorem d_jdk_38_25_12 : decode jdk_38_method_25_code 12 = .ok (.aload_n 0, 1) := by decide +kernel
theorem d_jdk_38_25_13 : decode jdk_38_method_25_code 13 = .ok (.getfield 9, 3) := by decide +kernel
theorem d_jdk_38_25_16 : decode jdk_38_method_25_code 16 = .ok (.aload_n 0, 1) := by decide +kernel
theorem d_jdk_38_25_17 : decode jdk_38_method_25_code 17 = .ok (.getfield 48, 3) := by decide +kernel
theorem d_jdk_38_25_20 : decode jdk_38_method_25_code 20 = .ok (.invokevirtual 131, 3) := by decide +kernel
theorem own_pd6 : parseMethodDescriptor "(Ljava/lang/Object;[Ljava/lang/Object;I)V" = some ⟨[(.object "java/lang/Object"), (.array (.object "java/lang/Object")), .int], none⟩ := by decide +kernel
theorem d_jdk_38_25_23 : decode jdk_38_method_25_code 23 = .ok (.iconst 1, 1) := by decide +kernel
theorem d_jdk_38_25_24 : decode jdk_38_method_25_code 24 = .ok (.ireturn, 1) := by decide +kernel
theorem own_ef14 (m : MethodId) (x0 : Addr) (x1 : Addr)  : entryFrame m #[(.ref x0), (.ref x1)] 2 = mkF m 0 #[rv x0, rv x1] [] := by first | (simp [entryFrame, mkF, argsToLocals, Value.category]; done) | rfl
abbrev own_Q14 (Z : State) (a1 : Addr) (a2 : Addr) (x2 : Int32) (aD : Addr) (kD : ClassId) (h0 : Heap) (n0 : Nat) (v : Option Value) (h : Heap) (L : List Loc) : Prop := ∃ b : Addr, ∃ kb : ClassId, v = some (.int (1 : Int32)) ∧ Fr n0 L ∧ Keep h0 h [a1] ∧ h0.size ≤ b ∧ Ovr Z kb "java/lang/Object" ∧ Exa Z h a1 "java/util/ArrayList" ∧ Fld Z h a1 "java/util/ArrayList" "elementData" "[Ljava/lang/Object;" (.ref b) ∧ Fld Z h a1 "java/util/ArrayList" "size" "I" (.int (1 : Int32)) ∧ Fld Z h a1 "java/util/AbstractList" "modCount" "I" (.int (x2 + (1 : Int32))) ∧ Exa Z h a2 "com/example/wakenitz/wakenitz/measure/ScoreSheet$PageScore" ∧ Arv Z h b kb (.object "java/lang/Object") (10 : Int32) [(.ref a2), .null, .null, .null, .null, .null, .null, .null, .null, .null] .null ∧ Exa Z h b "[Ljava/lang/Object;"
set_option maxRecDepth 65536 in
set_option maxHeartbeats 40000000 in
theorem own_m14 (l : Launch) (Z : State) (a0 : Array Value) (hw : ∀ d ∈ tables_1, d.before a0 Z = true) (ws : List Jvm.Cond) (a1 : Addr) (a2 : Addr) (x2 : Int32) (aD : Addr) (kD : ClassId) (h0 : Heap) (n0 : Nat) (O0 : Old Z n0 h0) (gn_a1 : n0 ≤ a1) (O_1 : Sta Z Z.heap "java/util/ArrayList" "DEFAULTCAPACITY_EMPTY_ELEMENTDATA" "[Ljava/lang/Object;" (.ref aD)) (O_2 : Arv Z Z.heap aD kD (.object "java/lang/Object") (0 : Int32) [] .null) (F_1 : Exa Z h0 a1 "java/util/ArrayList") (F_2 : Fld Z h0 a1 "java/util/ArrayList" "elementData" "[Ljava/lang/Object;" (.ref aD)) (F_3 : Fld Z h0 a1 "java/util/ArrayList" "size" "I" (.int (0 : Int32))) (F_4 : Fld Z h0 a1 "java/util/AbstractList" "modCount" "I" (.int x2)) (F_5 : Exa Z h0 a2 "com/example/wakenitz/wakenitz/measure/ScoreSheet$PageScore") :
    Ctr l Z (⟨"java/util/ArrayList", "add", "(Ljava/lang/Object;)Z"⟩ : MethodName) jdk_38_method_25_code 2 (some .boolean) (Rm 4 1 10 56) #[(.ref a1), (.ref a2)] h0 (own_Q14 Z a1 a2 x2 aD kD h0 n0) ws := by
  refine MetFree.of_bodySF (plainFor_of_name own_pn6) hisR ?_
  intro p e s m args below meth c s₁ Bd hml0 hP hK
  obtain ⟨rfl, hZ, hh⟩ := hP
  have hx := Bd.exec
  have hby := Bd.bytes
  have hlk : meth.locks = false := Bd.notSynchronized
  have hml : c.maxLocals = 2 := hml0
  have hown : s.vm.findClass "java/util/ArrayList" = some m.cls := findClass_of_methodNamed Bd.named
  have hnm := (name_of_methodNamed Bd.named Bd.method).1
  have X0 : Stand p l e (Rm 4 1 10 56) s m #[(.ref a1), (.ref a2)] below meth c s₁ [] 0 0 := Stand.of_body Bd
  have e0 : s₁.heap = h0 := by rw [← hh, Bd.state]; rfl
  have N0 := Fr.nil n0
  show Goes p.tables e below (fun t o => ∃ v L, o = .returned v ∧ (own_Q14 Z a1 a2 x2 aD kD h0 n0) v t.heap L ∧ FrameEnd s o t L ((Rm 4 1 10 56)).cells ((Rm 4 1 10 56)).slots) _
  refine Goes.via (B := s₁.setTop (mkF m 0 #[rv a1, rv a2] [])) (fun t k => castTop (own_ef14 m a1 a2) k) ?_
  refine Gv s₁ 1 [(.ref a1)] (fun t k => XS.aloadN X0.here hx rfl (hb hby d_jdk_38_25_0) rfl rfl k) ?_
  refine Gv s₁ 2 [(.ref a1), (.ref a1)] (fun t k => XS.dup X0.here hx rfl (hb hby d_jdk_38_25_1) rfl rfl k) ?_
  obtain ⟨T1, X1, e1, st1⟩ := getF X0 hx hZ hown (host := "") (Or.inl (W_ hw 84 rfl)) (Via.of (W_ hw 85 rfl)) e0 F_4 (g := (mkF m 2 #[rv a1, rv a2] [(.ref a1), (.ref a1)])) rfl rfl (hb hby d_jdk_38_25_2)
  refine Goes.via (B := T1.setTop (mkF m 5 #[rv a1, rv a2] [(.int x2), (.ref a1)])) (fun t k => st1 _ k) ?_
  refine Gv T1 6 [(.int (1 : Int32)), (.int x2), (.ref a1)] (fun t k => XS.iconst X1.here hx rfl (hb hby d_jdk_38_25_5) k) ?_
  refine Gv T1 7 [(.int (x2 + (1 : Int32))), (.ref a1)] (fun t k => XS.iadd X1.here hx rfl (hb hby d_jdk_38_25_6) rfl k) ?_
  obtain ⟨T2, h2, X2, e2, W2, st2⟩ := putF X1 hx hZ hown (host := "") (Or.inl (W_ hw 84 rfl)) (Via.of (W_ hw 85 rfl)) e1 F_4 F_1 (Or.inl (W_ hw 23 rfl)) (W_ hw 2 rfl) (ty := .int) (by decide) rfl rfl (g := (mkF m 7 #[rv a1, rv a2] [(.int (x2 + (1 : Int32))), (.ref a1)])) rfl rfl (hb hby d_jdk_38_25_7)
  have N2 := Fr.snoc X2 N0 gn_a1
  refine Goes.via (B := T2.setTop (mkF m 10 #[rv a1, rv a2] [])) (fun t k => st2 _ k) ?_
  refine Gv T2 11 [(.ref a1)] (fun t k => XS.aloadN X2.here hx rfl (hb hby d_jdk_38_25_10) rfl rfl k) ?_
  refine Gv T2 12 [(.ref a2), (.ref a1)] (fun t k => XS.aloadN X2.here hx rfl (hb hby d_jdk_38_25_11) rfl rfl k) ?_
  refine Gv T2 13 [(.ref a1), (.ref a2), (.ref a1)] (fun t k => XS.aloadN X2.here hx rfl (hb hby d_jdk_38_25_12) rfl rfl k) ?_
  have c3 : Fld Z h2 a1 "java/util/ArrayList" "elementData" "[Ljava/lang/Object;" (.ref aD) := (Fld.other W2 F_2 (Or.inr (slot_ne (Or.inl (W_ hw 26 rfl)) (Or.inl (W_ hw 23 rfl)) (by decide) (t := (.array (.object "java/lang/Object"))) (t' := .int) (by decide) (by decide))))
  obtain ⟨T4, X4, e4, st4⟩ := getF X2 hx hZ hown (host := "") (Or.inl (W_ hw 25 rfl)) Via.refl e2 c3 (g := (mkF m 13 #[rv a1, rv a2] [(.ref a1), (.ref a2), (.ref a1)])) rfl rfl (hb hby d_jdk_38_25_13)
  refine Goes.via (B := T4.setTop (mkF m 16 #[rv a1, rv a2] [(.ref aD), (.ref a2), (.ref a1)])) (fun t k => st4 _ k) ?_
  refine Gv T4 17 [(.ref a1), (.ref aD), (.ref a2), (.ref a1)] (fun t k => XS.aloadN X4.here hx rfl (hb hby d_jdk_38_25_16) rfl rfl k) ?_
  have c5 : Fld Z h2 a1 "java/util/ArrayList" "size" "I" (.int (0 : Int32)) := (Fld.other W2 F_3 (Or.inr (slot_ne (Or.inl (W_ hw 87 rfl)) (Or.inl (W_ hw 23 rfl)) (by decide) (t := .int) (t' := .int) (by decide) (by decide))))
  obtain ⟨T6, X6, e6, st6⟩ := getF X4 hx hZ hown (host := "") (Or.inl (W_ hw 86 rfl)) Via.refl e4 c5 (g := (mkF m 17 #[rv a1, rv a2] [(.ref a1), (.ref aD), (.ref a2), (.ref a1)])) rfl rfl (hb hby d_jdk_38_25_17)
  refine Goes.via (B := T6.setTop (mkF m 20 #[rv a1, rv a2] [(.int (0 : Int32)), (.ref aD), (.ref a2), (.ref a1)])) (fun t k => st6 _ k) ?_
  obtain ⟨_, T7, L7, X7, ⟨b7, kb7, rfl, M7, K7, z7_0, p7_0, f7_0, f7_1, f7_2, f7_3, f7_4, f7_5, f7_6⟩, st7⟩ := callPriv X6 hx hZ hown (W_ hw 88 rfl) (W_ hw 89 rfl) (W_ hw 91 rfl) (W_ hw 90 rfl) (W_ hw 3 rfl) (W_ hw 92 rfl) (by decide) (argsL := [(.ref a2), (.ref aD), (.int (0 : Int32))]) (rest := []) (own_m13 l Z a0 hw [] a1 a2 (x2 + (1 : Int32)) aD kD h2 n0 (O0.wr W2 gn_a1) gn_a1 O_1 O_2 (Exa.wr W2 F_1) c3 c5 (Fld.same W2 F_4) (Exa.wr W2 F_5)) e6 (Exa.wr W2 F_1) (lenOf own_pd6 rfl) (pc := 20) (Ls := #[rv a1, rv a2]) (st := [(.int (0 : Int32)), (.ref aD), (.ref a2), (.ref a1)]) rfl (by rw [hml]; rfl) (hb hby d_jdk_38_25_20) (W := 0) (Nat.le_of_eq rfl) (by decide) (by decide) (by decide) (by decide)
  have N7 := Fr.app N2 M7
  have gn7_0 : n0 ≤ b7 := Nat.le_trans (old_le (O0.wr W2 gn_a1)) z7_0
  have gs7_0 : h0.size ≤ b7 := Nat.le_trans ((Keep.refl h0 [a1]).wr W2 (Or.inl (List.mem_of_getElem? (i := 0) rfl))).1 z7_0
  refine Goes.via (B := T7.setTop (mkF m 23 #[rv a1, rv a2] [])) (fun t k => st7 _ k) ?_
  refine Gv T7 24 [(.int (1 : Int32))] (fun t k => XS.iconst X7.here hx rfl (hb hby d_jdk_38_25_23) k) ?_
  exact finN (Q := (own_Q14 Z a1 a2 x2 aD kD h0 n0)) (F := FrameEnd) (C := ((Rm 4 1 10 56)).cells) (S := ((Rm 4 1 10 56)).slots) X7 hx (t := .boolean) Bd.returns (by simp) (z' := (1 : Int32)) rfl (hb hby d_jdk_38_25_24) rfl ⟨b7, kb7, rfl, N7, (((Keep.refl h0 [a1]).wr W2 (Or.inl (List.mem_of_getElem? (i := 0) rfl))).trans K7 (allS (Or.inl (List.mem_of_getElem? (i := 0) rfl)) all0)), gs7_0, p7_0, f7_0, f7_1, f7_2, f7_3, f7_4, f7_5, f7_6⟩ (lvN X7 hlk (by decide) (by decide))
theorem own_ef15 (m : MethodId) (x0 : Addr) (x1 : Addr) (x2 : Addr) (x3 : Int32)  : entryFrame m #[(.ref x0), (.ref x1), (.ref x2), (.int x3)] 4 = mkF m 0 #[rv x0, rv x1, rv x2, iv x3] [] := by first | (simp [entryFrame, mkF, argsToLocals, Value.category]; done) | rfl
abbrev own_Q15 (Z : State) (a1 : Addr) (a2 : Addr) (x2 : Int32) (aD : Addr) (kD : ClassId) (bz : Addr) (kb : ClassId) (y0 : Addr) (h0 : Heap) (n0 : Nat) (v : Option Value) (h : Heap) (L : List Loc) : Prop := v = none ∧ Fr n0 L ∧ Keep h0 h [a1, bz] ∧ Exa Z h a1 "java/util/ArrayList" ∧ Fld Z h a1 "java/util/ArrayList" "elementData" "[Ljava/lang/Object;" (.ref bz) ∧ Fld Z h a1 "java/util/ArrayList" "size" "I" (.int (2 : Int32)) ∧ Fld Z h a1 "java/util/AbstractList" "modCount" "I" (.int x2) ∧ Exa Z h a2 "com/example/wakenitz/wakenitz/measure/ScoreSheet$PageScore" ∧ Arv Z h bz kb (.object "java/lang/Object") (10 : Int32) [(.ref y0), (.ref a2), .null, .null, .null, .null, .null, .null, .null, .null] .null ∧ Exa Z h bz "[Ljava/lang/Object;"
set_option maxRecDepth 65536 in
set_option maxHeartbeats 40000000 in
theorem own_m15 (l : Launch) (Z : State) (a0 : Array Value) (hw : ∀ d ∈ tables_1, d.before a0 Z = true) (ws : List Jvm.Cond) (a1 : Addr) (a2 : Addr) (x2 : Int32) (aD : Addr) (kD : ClassId) (bz : Addr) (kb : ClassId) (y0 : Addr) (h0 : Heap) (n0 : Nat) (O0 : Old Z n0 h0) (Ov : Ovr Z kb "java/lang/Object") (nab : a1 ≠ bz) (n2b : a2 ≠ bz) (gn_a1 : n0 ≤ a1) (gn_bz : n0 ≤ bz) (F_1 : Exa Z h0 a1 "java/util/ArrayList") (F_2 : Fld Z h0 a1 "java/util/ArrayList" "elementData" "[Ljava/lang/Object;" (.ref bz)) (F_3 : Fld Z h0 a1 "java/util/ArrayList" "size" "I" (.int (1 : Int32))) (F_4 : Fld Z h0 a1 "java/util/AbstractList" "modCount" "I" (.int x2)) (F_5 : Exa Z h0 a2 "com/example/wakenitz/wakenitz/measure/ScoreSheet$PageScore") (F_6 : Arv Z h0 bz kb (.object "java/lang/Object") (10 : Int32) [(.ref y0), .null, .null, .null, .null, .null, .null, .null, .null, .null] .null) (F_7 : Exa Z h0 bz "[Ljava/lang/Object;") :
    Ctr l Z (⟨"java/util/ArrayList", "add", "(Ljava/lang/Object;[Ljava/lang/Object;I)V"⟩ : MethodName) jdk_38_method_24_code 4 none (Rm 0 0 0 0) #[(.ref a1), (.ref a2), (.ref bz), (.int (1 : Int32))] h0 (own_Q15 Z a1 a2 x2 aD kD bz kb y0 h0 n0) ws := by
  refine MetFree.of_bodySF (plainFor_of_name own_pn6) hisR ?_
  intro p e s m args below meth c s₁ Bd hml0 hP hK
  obtain ⟨rfl, hZ, hh⟩ := hP
  have hx := Bd.exec
  have hby := Bd.bytes
  have hlk : meth.locks = false := Bd.notSynchronized
  have hml : c.maxLocals = 4 := hml0
  have hown : s.vm.findClass "java/util/ArrayList" = some m.cls := findClass_of_methodNamed Bd.named
  have hnm := (name_of_methodNamed Bd.named Bd.method).1
  have X0 : Stand p l e (Rm 0 0 0 0) s m #[(.ref a1), (.ref a2), (.ref bz), (.int (1 : Int32))] below meth c s₁ [] 0 0 := Stand.of_body Bd
  have e0 : s₁.heap = h0 := by rw [← hh, Bd.state]; rfl
  have N0 := Fr.nil n0
  show Goes p.tables e below (fun t o => ∃ v L, o = .returned v ∧ (own_Q15 Z a1 a2 x2 aD kD bz kb y0 h0 n0) v t.heap L ∧ FrameEnd s o t L ((Rm 0 0 0 0)).cells ((Rm 0 0 0 0)).slots) _
  refine Goes.via (B := s₁.setTop (mkF m 0 #[rv a1, rv a2, rv bz, iv (1 : Int32)] [])) (fun t k => castTop (own_ef15 m a1 a2 bz (1 : Int32)) k) ?_
  refine Gv s₁ 1 [(.int (1 : Int32))] (fun t k => XS.iloadN X0.here hx rfl (hb hby d_jdk_38_24_0) rfl k) ?_
  refine Gv s₁ 2 [(.ref bz), (.int (1 : Int32))] (fun t k => XS.aloadN X0.here hx rfl (hb hby d_jdk_38_24_1) rfl rfl k) ?_
  obtain ⟨cl1, Ar1, q1, S1, N1, H1, G1⟩ := id F_6
  refine Goes.via (B := s₁.setTop (mkF m 3 #[rv a1, rv a2, rv bz, iv (1 : Int32)] [(.int (10 : Int32)), (.int (1 : Int32))])) (fun t k => X0.arraylength hx (by rw [e0]; exact Ar1.1) (State.isArrayOf_alike hZ.alike Ar1.2.1) (g := (mkF m 2 #[rv a1, rv a2, rv bz, iv (1 : Int32)] [(.ref bz), (.int (1 : Int32))])) rfl rfl (hb hby d_jdk_38_24_2) t (by rw [(len_of S1 N1)]; exact k)) ?_
  refine Gv s₁ 11 [] (fun t k => XS.icmpYes X0.here hx rfl (pc0 := 3) (pc' := 11) rfl (hb hby d_jdk_38_24_3) rfl (XT.ii_ne_t (by decide)) (by decide) (by decide) k) ?_
  refine Gv s₁ 12 [(.ref bz)] (fun t k => XS.aloadN X0.here hx rfl (hb hby d_jdk_38_24_11) rfl rfl k) ?_
  refine Gv s₁ 13 [(.int (1 : Int32)), (.ref bz)] (fun t k => XS.iloadN X0.here hx rfl (hb hby d_jdk_38_24_12) rfl k) ?_
  refine Gv s₁ 14 [(.ref a2), (.int (1 : Int32)), (.ref bz)] (fun t k => XS.aloadN X0.here hx rfl (hb hby d_jdk_38_24_13) rfl rfl k) ?_
  obtain ⟨cl2, Ar2, q2, S2, N2, H2, G2⟩ := id F_6
  obtain ⟨T2, h2, X2, e2, W2, st2⟩ := stR X0 hx hZ e0 Ar2 (j := (1 : Int32)) (inb_of S2 ⟨by decide, by decide⟩) rfl (Sto.ofV Ar2 q2 Ov (Ins.of_exa F_5 (W_ hw 109 rfl))) (g := (mkF m 14 #[rv a1, rv a2, rv bz, iv (1 : Int32)] [(.ref a2), (.int (1 : Int32)), (.ref bz)])) rfl rfl (hb hby d_jdk_38_24_14)
  have Nf2 := Fr.snoc X2 N0 gn_bz
  have V2 : Arv Z h2 bz kb (.object "java/lang/Object") (10 : Int32) [(.ref y0), (.ref a2), .null, .null, .null, .null, .null, .null, .null, .null] .null := Arv.set Ar2 q2 S2 N2 H2 G2 rfl W2 1 rfl (Nat.le_of_ble_eq_true rfl)
  refine Goes.via (B := T2.setTop (mkF m 15 #[rv a1, rv a2, rv bz, iv (1 : Int32)] [])) (fun t k => st2 _ k) ?_
  refine Gv T2 16 [(.ref a1)] (fun t k => XS.aloadN X2.here hx rfl (hb hby d_jdk_38_24_15) rfl rfl k) ?_
  refine Gv T2 17 [(.int (1 : Int32)), (.ref a1)] (fun t k => XS.iloadN X2.here hx rfl (hb hby d_jdk_38_24_16) rfl k) ?_
  refine Gv T2 18 [(.int (1 : Int32)), (.int (1 : Int32)), (.ref a1)] (fun t k => XS.iconst X2.here hx rfl (hb hby d_jdk_38_24_17) k) ?_
  refine Gv T2 19 [(.int ((1 : Int32) + (1 : Int32))), (.ref a1)] (fun t k => XS.iadd X2.here hx rfl (hb hby d_jdk_38_24_18) rfl k) ?_
  have q3 : ((1 : Int32) + (1 : Int32)) = (2 : Int32) := rfl
  rw [q3]
  obtain ⟨T4, h4, X4, e4, W4, st4⟩ := putF X2 hx hZ hown (host := "") (Or.inl (W_ hw 86 rfl)) Via.refl e2 (Fld.other W2 F_3 (Or.inl nab)) (Exa.wr W2 F_1) (Or.inl (W_ hw 87 rfl)) (W_ hw 2 rfl) (ty := .int) (by decide) rfl rfl (g := (mkF m 19 #[rv a1, rv a2, rv bz, iv (1 : Int32)] [(.int (2 : Int32)), (.ref a1)])) rfl rfl (hb hby d_jdk_38_24_19)
  have N4 := Fr.snoc X4 Nf2 gn_a1
  refine Goes.via (B := T4.setTop (mkF m 22 #[rv a1, rv a2, rv bz, iv (1 : Int32)] [])) (fun t k => st4 _ k) ?_
  have c5 : Fld Z h4 a1 "java/util/ArrayList" "elementData" "[Ljava/lang/Object;" (.ref bz) := (Fld.other W4 (Fld.other W2 F_2 (Or.inl nab)) (Or.inr (slot_ne (Or.inl (W_ hw 26 rfl)) (Or.inl (W_ hw 87 rfl)) (by decide) (t := (.array (.object "java/lang/Object"))) (t' := .int) (by decide) (by decide))))
  have c6 : Fld Z h4 a1 "java/util/AbstractList" "modCount" "I" (.int x2) := (Fld.other W4 (Fld.other W2 F_4 (Or.inl nab)) (Or.inr (slot_ne (Or.inl (W_ hw 23 rfl)) (Or.inl (W_ hw 87 rfl)) (by decide) (t := .int) (t' := .int) (by decide) (by decide))))
  exact fin0 (Q := (own_Q15 Z a1 a2 x2 aD kD bz kb y0 h0 n0)) (F := FrameEnd) (C := ((Rm 0 0 0 0)).cells) (S := ((Rm 0 0 0 0)).slots) X4 hx Bd.returns (hb hby d_jdk_38_24_22) e4 ⟨rfl, N4, (((Keep.refl h0 [a1, bz]).wr W2 (Or.inl (List.mem_of_getElem? (i := 1) rfl))).wr W4 (Or.inl (List.mem_of_getElem? (i := 0) rfl))), (Exa.wr W4 (Exa.wr W2 F_1)), c5, (Fld.same W4 (Fld.other W2 F_3 (Or.inl nab))), c6, (Exa.wr W4 (Exa.wr W2 F_5)), (Arv.other V2 W4 (Ne.symm nab)), (Exa.wr W4 (Exa.wr W2 F_7))⟩ (lvN X4 hlk (by decide) (by decide))
theorem own_ef16 (m : MethodId) (x0 : Addr) (x1 : Addr)  : entryFrame m #[(.ref x0), (.ref x1)] 2 = mkF m 0 #[rv x0, rv x1] [] := by first | (simp [entryFrame, mkF, argsToLocals, Value.category]; done) | rfl
abbrev own_Q16 (Z : State) (a1 : Addr) (a2 : Addr) (x2 : Int32) (aD : Addr) (kD : ClassId) (bz : Addr) (kb : ClassId) (y0 : Addr) (h0 : Heap) (n0 : Nat) (v : Option Value) (h : Heap) (L : List Loc) : Prop := v = some (.int (1 : Int32)) ∧ Fr n0 L ∧ Keep h0 h [a1, bz] ∧ Exa Z h a1 "java/util/ArrayList" ∧ Fld Z h a1 "java/util/ArrayList" "elementData" "[Ljava/lang/Object;" (.ref bz) ∧ Fld Z h a1 "java/util/ArrayList" "size" "I" (.int (2 : Int32)) ∧ Fld Z h a1 "java/util/AbstractList" "modCount" "I" (.int (x2 + (1 : Int32))) ∧ Exa Z h a2 "com/example/wakenitz/wakenitz/measure/ScoreSheet$PageScore" ∧ Arv Z h bz kb (.object "java/lang/Object") (10 : Int32) [(.ref y0), (.ref a2), .null, .null, .null, .null, .null, .null, .null, .null] .null ∧ Exa Z h bz "[Ljava/lang/Object;"
set_option maxRecDepth 65536 in
set_option maxHeartbeats 40000000 in
theorem own_m16 (l : Launch) (Z : State) (a0 : Array Value) (hw : ∀ d ∈ tables_1, d.before a0 Z = true) (ws : List Jvm.Cond) (a1 : Addr) (a2 : Addr) (x2 : Int32) (aD : Addr) (kD : ClassId) (bz : Addr) (kb : ClassId) (y0 : Addr) (h0 : Heap) (n0 : Nat) (O0 : Old Z n0 h0) (Ov : Ovr Z kb "java/lang/Object") (nab : a1 ≠ bz) (n2b : a2 ≠ bz) (gn_a1 : n0 ≤ a1) (gn_bz : n0 ≤ bz) (F_1 : Exa Z h0 a1 "java/util/ArrayList") (F_2 : Fld Z h0 a1 "java/util/ArrayList" "elementData" "[Ljava/lang/Object;" (.ref bz)) (F_3 : Fld Z h0 a1 "java/util/ArrayList" "size" "I" (.int (1 : Int32))) (F_4 : Fld Z h0 a1 "java/util/AbstractList" "modCount" "I" (.int x2)) (F_5 : Exa Z h0 a2 "com/example/wakenitz/wakenitz/measure/ScoreSheet$PageScore") (F_6 : Arv Z h0 bz kb (.object "java/lang/Object") (10 : Int32) [(.ref y0), .null, .null, .null, .null, .null, .null, .null, .null, .null] .null) (F_7 : Exa Z h0 bz "[Ljava/lang/Object;") :
    Ctr l Z (⟨"java/util/ArrayList", "add", "(Ljava/lang/Object;)Z"⟩ : MethodName) jdk_38_method_25_code 2 (some .boolean) (Rm 1 0 0 15) #[(.ref a1), (.ref a2)] h0 (own_Q16 Z a1 a2 x2 aD kD bz kb y0 h0 n0) ws := by
  refine MetFree.of_bodySF (plainFor_of_name own_pn6) hisR ?_
  intro p e s m args below meth c s₁ Bd hml0 hP hK
  obtain ⟨rfl, hZ, hh⟩ := hP
  have hx := Bd.exec
  have hby := Bd.bytes
  have hlk : meth.locks = false := Bd.notSynchronized
  have hml : c.maxLocals = 2 := hml0
  have hown : s.vm.findClass "java/util/ArrayList" = some m.cls := findClass_of_methodNamed Bd.named
  have hnm := (name_of_methodNamed Bd.named Bd.method).1
  have X0 : Stand p l e (Rm 1 0 0 15) s m #[(.ref a1), (.ref a2)] below meth c s₁ [] 0 0 := Stand.of_body Bd
  have e0 : s₁.heap = h0 := by rw [← hh, Bd.state]; rfl
  have N0 := Fr.nil n0
  show Goes p.tables e below (fun t o => ∃ v L, o = .returned v ∧ (own_Q16 Z a1 a2 x2 aD kD bz kb y0 h0 n0) v t.heap L ∧ FrameEnd s o t L ((Rm 1 0 0 15)).cells ((Rm 1 0 0 15)).slots) _
  refine Goes.via (B := s₁.setTop (mkF m 0 #[rv a1, rv a2] [])) (fun t k => castTop (own_ef16 m a1 a2) k) ?_
  refine Gv s₁ 1 [(.ref a1)] (fun t k => XS.aloadN X0.here hx rfl (hb hby d_jdk_38_25_0) rfl rfl k) ?_
  refine Gv s₁ 2 [(.ref a1), (.ref a1)] (fun t k => XS.dup X0.here hx rfl (hb hby d_jdk_38_25_1) rfl rfl k) ?_
  obtain ⟨T1, X1, e1, st1⟩ := getF X0 hx hZ hown (host := "") (Or.inl (W_ hw 84 rfl)) (Via.of (W_ hw 85 rfl)) e0 F_4 (g := (mkF m 2 #[rv a1, rv a2] [(.ref a1), (.ref a1)])) rfl rfl (hb hby d_jdk_38_25_2)
  refine Goes.via (B := T1.setTop (mkF m 5 #[rv a1, rv a2] [(.int x2), (.ref a1)])) (fun t k => st1 _ k) ?_
  refine Gv T1 6 [(.int (1 : Int32)), (.int x2), (.ref a1)] (fun t k => XS.iconst X1.here hx rfl (hb hby d_jdk_38_25_5) k) ?_
  refine Gv T1 7 [(.int (x2 + (1 : Int32))), (.ref a1)] (fun t k => XS.iadd X1.here hx rfl (hb hby d_jdk_38_25_6) rfl k) ?_
  obtain ⟨T2, h2, X2, e2, W2, st2⟩ := putF X1 hx hZ hown (host := "") (Or.inl (W_ hw 84 rfl)) (Via.of (W_ hw 85 rfl)) e1 F_4 F_1 (Or.inl (W_ hw 23 rfl)) (W_ hw 2 rfl) (ty := .int) (by decide) rfl rfl (g := (mkF m 7 #[rv a1, rv a2] [(.int (x2 + (1 : Int32))), (.ref a1)])) rfl rfl (hb hby d_jdk_38_25_7)
  have N2 := Fr.snoc X2 N0 gn_a1
  refine Goes.via (B := T2.setTop (mkF m 10 #[rv a1, rv a2] [])) (fun t k => st2 _ k) ?_
  refine Gv T2 11 [(.ref a1)] (fun t k => XS.aloadN X2.here hx rfl (hb hby d_jdk_38_25_10) rfl rfl k) ?_
  refine Gv T2 12 [(.ref a2), (.ref a1)] (fun t k => XS.aloadN X2.here hx rfl (hb hby d_jdk_38_25_11) rfl rfl k) ?_
  refine Gv T2 13 [(.ref a1), (.ref a2), (.ref a1)] (fun t k => XS.aloadN X2.here hx rfl (hb hby d_jdk_38_25_12) rfl rfl k) ?_
  have c3 : Fld Z h2 a1 "java/util/ArrayList" "elementData" "[Ljava/lang/Object;" (.ref bz) := (Fld.other W2 F_2 (Or.inr (slot_ne (Or.inl (W_ hw 26 rfl)) (Or.inl (W_ hw 23 rfl)) (by decide) (t := (.array (.object "java/lang/Object"))) (t' := .int) (by decide) (by decide))))
  obtain ⟨T4, X4, e4, st4⟩ := getF X2 hx hZ hown (host := "") (Or.inl (W_ hw 25 rfl)) Via.refl e2 c3 (g := (mkF m 13 #[rv a1, rv a2] [(.ref a1), (.ref a2), (.ref a1)])) rfl rfl (hb hby d_jdk_38_25_13)
  refine Goes.via (B := T4.setTop (mkF m 16 #[rv a1, rv a2] [(.ref bz), (.ref a2), (.ref a1)])) (fun t k => st4 _ k) ?_
  refine Gv T4 17 [(.ref a1), (.ref bz), (.ref a2), (.ref a1)] (fun t k => XS.aloadN X4.here hx rfl (hb hby d_jdk_38_25_16) rfl rfl k) ?_
  have c5 : Fld Z h2 a1 "java/util/ArrayList" "size" "I" (.int (1 : Int32)) := (Fld.other W2 F_3 (Or.inr (slot_ne (Or.inl (W_ hw 87 rfl)) (Or.inl (W_ hw 23 rfl)) (by decide) (t := .int) (t' := .int) (by decide) (by decide))))
  obtain ⟨T6, X6, e6, st6⟩ := getF X4 hx hZ hown (host := "") (Or.inl (W_ hw 86 rfl)) Via.refl e4 c5 (g := (mkF m 17 #[rv a1, rv a2] [(.ref a1), (.ref bz), (.ref a2), (.ref a1)])) rfl rfl (hb hby d_jdk_38_25_17)
  refine Goes.via (B := T6.setTop (mkF m 20 #[rv a1, rv a2] [(.int (1 : Int32)), (.ref bz), (.ref a2), (.ref a1)])) (fun t k => st6 _ k) ?_
  obtain ⟨_, T7, L7, X7, ⟨rfl, M7, K7, f7_0, f7_1, f7_2, f7_3, f7_4, f7_5, f7_6⟩, st7⟩ := callPriv X6 hx hZ hown (W_ hw 88 rfl) (W_ hw 89 rfl) (W_ hw 91 rfl) (W_ hw 90 rfl) (W_ hw 3 rfl) (W_ hw 92 rfl) (by decide) (argsL := [(.ref a2), (.ref bz), (.int (1 : Int32))]) (rest := []) (own_m15 l Z a0 hw [] a1 a2 (x2 + (1 : Int32)) aD kD bz kb y0 h2 n0 (O0.wr W2 gn_a1) Ov nab n2b gn_a1 gn_bz (Exa.wr W2 F_1) c3 c5 (Fld.same W2 F_4) (Exa.wr W2 F_5) (Arv.other F_6 W2 (Ne.symm nab)) (Exa.wr W2 F_7)) e6 (Exa.wr W2 F_1) (lenOf own_pd6 rfl) (pc := 20) (Ls := #[rv a1, rv a2]) (st := [(.int (1 : Int32)), (.ref bz), (.ref a2), (.ref a1)]) rfl (by rw [hml]; rfl) (hb hby d_jdk_38_25_20) (W := 0) (Nat.le_of_eq rfl) (by decide) (by decide) (by decide) (by decide)
  have N7 := Fr.app N2 M7
  refine Goes.via (B := T7.setTop (mkF m 23 #[rv a1, rv a2] [])) (fun t k => st7 _ k) ?_
  refine Gv T7 24 [(.int (1 : Int32))] (fun t k => XS.iconst X7.here hx rfl (hb hby d_jdk_38_25_23) k) ?_
  exact finN (Q := (own_Q16 Z a1 a2 x2 aD kD bz kb y0 h0 n0)) (F := FrameEnd) (C := ((Rm 1 0 0 15)).cells) (S := ((Rm 1 0 0 15)).slots) X7 hx (t := .boolean) Bd.returns (by simp) (z' := (1 : Int32)) rfl (hb hby d_jdk_38_25_24) rfl ⟨rfl, N7, (((Keep.refl h0 [a1, bz]).wr W2 (Or.inl (List.mem_of_getElem? (i := 0) rfl))).trans K7 (allS (Or.inl (List.mem_of_getElem? (i := 0) rfl)) (allS (Or.inl (List.mem_of_getElem? (i := 1) rfl)) all0))), f7_0, f7_1, f7_2, f7_3, f7_4, f7_5, f7_6⟩ (lvN X7 hlk (by decide) (by decide))
theorem own_ef17 (m : MethodId) (x0 : Addr) (x1 : Addr) (x2 : Addr) (x3 : Int32)  : entryFrame m #[(.ref x0), (.ref x1), (.ref x2), (.int x3)] 4 = mkF m 0 #[rv x0, rv x1, rv x2, iv x3] [] := by first | (simp [entryFrame, mkF, argsToLocals, Value.category]; done) | rfl
abbrev own_Q17 (Z : State) (a1 : Addr) (a2 : Addr) (x2 : Int32) (aD : Addr) (kD : ClassId) (bz : Addr) (kb : ClassId) (y0 : Addr) (y1 : Addr) (h0 : Heap) (n0 : Nat) (v : Option Value) (h : Heap) (L : List Loc) : Prop := v = none ∧ Fr n0 L ∧ Keep h0 h [a1, bz] ∧ Exa Z h a1 "java/util/ArrayList" ∧ Fld Z h a1 "java/util/ArrayList" "elementData" "[Ljava/lang/Object;" (.ref bz) ∧ Fld Z h a1 "java/util/ArrayList" "size" "I" (.int (3 : Int32)) ∧ Fld Z h a1 "java/util/AbstractList" "modCount" "I" (.int x2) ∧ Exa Z h a2 "com/example/wakenitz/wakenitz/measure/ScoreSheet$PageScore" ∧ Arv Z h bz kb (.object "java/lang/Object") (10 : Int32) [(.ref y0), (.ref y1), (.ref a2), .null, .null, .null, .null, .null, .null, .null] .null ∧ Exa Z h bz "[Ljava/lang/Object;"
set_option maxRecDepth 65536 in
set_option maxHeartbeats 40000000 in
theorem own_m17 (l : Launch) (Z : State) (a0 : Array Value) (hw : ∀ d ∈ tables_1, d.before a0 Z = true) (ws : List Jvm.Cond) (a1 : Addr) (a2 : Addr) (x2 : Int32) (aD : Addr) (kD : ClassId) (bz : Addr) (kb : ClassId) (y0 : Addr) (y1 : Addr) (h0 : Heap) (n0 : Nat) (O0 : Old Z n0 h0) (Ov : Ovr Z kb "java/lang/Object") (nab : a1 ≠ bz) (n2b : a2 ≠ bz) (gn_a1 : n0 ≤ a1) (gn_bz : n0 ≤ bz) (F_1 : Exa Z h0 a1 "java/util/ArrayList") (F_2 : Fld Z h0 a1 "java/util/ArrayList" "elementData" "[Ljava/lang/Object;" (.ref bz)) (F_3 : Fld Z h0 a1 "java/util/ArrayList" "size" "I" (.int (2 : Int32))) (F_4 : Fld Z h0 a1 "java/util/AbstractList" "modCount" "I" (.int x2)) (F_5 : Exa Z h0 a2 "com/example/wakenitz/wakenitz/measure/ScoreSheet$PageScore") (F_6 : Arv Z h0 bz kb (.object "java/lang/Object") (10 : Int32) [(.ref y0), (.ref y1), .null, .null, .null, .null, .null, .null, .null, .null] .null) (F_7 : Exa Z h0 bz "[Ljava/lang/Object;") :
    Ctr l Z (⟨"java/util/ArrayList", "add", "(Ljava/lang/Object;[Ljava/lang/Object;I)V"⟩ : MethodName) jdk_38_method_24_code 4 none (Rm 0 0 0 0) #[(.ref a1), (.ref a2), (.ref bz), (.int (2 : Int32))] h0 (own_Q17 Z a1 a2 x2 aD kD bz kb y0 y1 h0 n0) ws := by
  refine MetFree.of_bodySF (plainFor_of_name own_pn6) hisR ?_
  intro p e s m args below meth c s₁ Bd hml0 hP hK
  obtain ⟨rfl, hZ, hh⟩ := hP
  have hx := Bd.exec
  have hby := Bd.bytes
  have hlk : meth.locks = false := Bd.notSynchronized
  have hml : c.maxLocals = 4 := hml0
  have hown : s.vm.findClass "java/util/ArrayList" = some m.cls := findClass_of_methodNamed Bd.named
  have hnm := (name_of_methodNamed Bd.named Bd.method).1
  have X0 : Stand p l e (Rm 0 0 0 0) s m #[(.ref a1), (.ref a2), (.ref bz), (.int (2 : Int32))] below meth c s₁ [] 0 0 := Stand.of_body Bd
  have e0 : s₁.heap = h0 := by rw [← hh, Bd.state]; rfl
  have N0 := Fr.nil n0
  show Goes p.tables e below (fun t o => ∃ v L, o = .returned v ∧ (own_Q17 Z a1 a2 x2 aD kD bz kb y0 y1 h0 n0) v t.heap L ∧ FrameEnd s o t L ((Rm 0 0 0 0)).cells ((Rm 0 0 0 0)).slots) _
  refine Goes.via (B := s₁.setTop (mkF m 0 #[rv a1, rv a2, rv bz, iv (2 : Int32)] [])) (fun t k => castTop (own_ef17 m a1 a2 bz (2 : Int32)) k) ?_
  refine Gv s₁ 1 [(.int (2 : Int32))] (fun t k => XS.iloadN X0.here hx rfl (hb hby d_jdk_38_24_0) rfl k) ?_
  refine Gv s₁ 2 [(.ref bz), (.int (2 : Int32))] (fun t k => XS.aloadN X0.here hx rfl (hb hby d_jdk_38_24_1) rfl rfl k) ?_
  obtain ⟨cl1, Ar1, q1, S1, N1, H1, G1⟩ := id F_6
  refine Goes.via (B := s₁.setTop (mkF m 3 #[rv a1, rv a2, rv bz, iv (2 : Int32)] [(.int (10 : Int32)), (.int (2 : Int32))])) (fun t k => X0.arraylength hx (by rw [e0]; exact Ar1.1) (State.isArrayOf_alike hZ.alike Ar1.2.1) (g := (mkF m 2 #[rv a1, rv a2, rv bz, iv (2 : Int32)] [(.ref bz), (.int (2 : Int32))])) rfl rfl (hb hby d_jdk_38_24_2) t (by rw [(len_of S1 N1)]; exact k)) ?_
  refine Gv s₁ 11 [] (fun t k => XS.icmpYes X0.here hx rfl (pc0 := 3) (pc' := 11) rfl (hb hby d_jdk_38_24_3) rfl (XT.ii_ne_t (by decide)) (by decide) (by decide) k) ?_
  refine Gv s₁ 12 [(.ref bz)] (fun t k => XS.aloadN X0.here hx rfl (hb hby d_jdk_38_24_11) rfl rfl k) ?_
  refine Gv s₁ 13 [(.int (2 : Int32)), (.ref bz)] (fun t k => XS.iloadN X0.here hx rfl (hb hby d_jdk_38_24_12) rfl k) ?_
  refine Gv s₁ 14 [(.ref a2), (.int (2 : Int32)), (.ref bz)] (fun t k => XS.aloadN X0.here hx rfl (hb hby d_jdk_38_24_13) rfl rfl k) ?_
  obtain ⟨cl2, Ar2, q2, S2, N2, H2, G2⟩ := id F_6
  obtain ⟨T2, h2, X2, e2, W2, st2⟩ := stR X0 hx hZ e0 Ar2 (j := (2 : Int32)) (inb_of S2 ⟨by decide, by decide⟩) rfl (Sto.ofV Ar2 q2 Ov (Ins.of_exa F_5 (W_ hw 109 rfl))) (g := (mkF m 14 #[rv a1, rv a2, rv bz, iv (2 : Int32)] [(.ref a2), (.int (2 : Int32)), (.ref bz)])) rfl rfl (hb hby d_jdk_38_24_14)
  have Nf2 := Fr.snoc X2 N0 gn_bz
  have V2 : Arv Z h2 bz kb (.object "java/lang/Object") (10 : Int32) [(.ref y0), (.ref y1), (.ref a2), .null, .null, .null, .null, .null, .null, .null] .null := Arv.set Ar2 q2 S2 N2 H2 G2 rfl W2 2 rfl (Nat.le_of_ble_eq_true rfl)
  refine Goes.via (B := T2.setTop (mkF m 15 #[rv a1, rv a2, rv bz, iv (2 : Int32)] [])) (fun t k => st2 _ k) ?_
  refine Gv T2 16 [(.ref a1)] (fun t k => XS.aloadN X2.here hx rfl (hb hby d_jdk_38_24_15) rfl rfl k) ?_
  refine Gv T2 17 [(.int (2 : Int32)), (.ref a1)] (fun t k => XS.iloadN X2.here hx rfl (hb hby d_jdk_38_24_16) rfl k) ?_
  refine Gv T2 18 [(.int (1 : Int32)), (.int (2 : Int32)), (.ref a1)] (fun t k => XS.iconst X2.here hx rfl (hb hby d_jdk_38_24_17) k) ?_
  refine Gv T2 19 [(.int ((2 : Int32) + (1 : Int32))), (.ref a1)] (fun t k => XS.iadd X2.here hx rfl (hb hby d_jdk_38_24_18) rfl k) ?_
  have q3 : ((2 : Int32) + (1 : Int32)) = (3 : Int32) := rfl
  rw [q3]
  obtain ⟨T4, h4, X4, e4, W4, st4⟩ := putF X2 hx hZ hown (host := "") (Or.inl (W_ hw 86 rfl)) Via.refl e2 (Fld.other W2 F_3 (Or.inl nab)) (Exa.wr W2 F_1) (Or.inl (W_ hw 87 rfl)) (W_ hw 2 rfl) (ty := .int) (by decide) rfl rfl (g := (mkF m 19 #[rv a1, rv a2, rv bz, iv (2 : Int32)] [(.int (3 : Int32)), (.ref a1)])) rfl rfl (hb hby d_jdk_38_24_19)
  have N4 := Fr.snoc X4 Nf2 gn_a1
  refine Goes.via (B := T4.setTop (mkF m 22 #[rv a1, rv a2, rv bz, iv (2 : Int32)] [])) (fun t k => st4 _ k) ?_
  have c5 : Fld Z h4 a1 "java/util/ArrayList" "elementData" "[Ljava/lang/Object;" (.ref bz) := (Fld.other W4 (Fld.other W2 F_2 (Or.inl nab)) (Or.inr (slot_ne (Or.inl (W_ hw 26 rfl)) (Or.inl (W_ hw 87 rfl)) (by decide) (t := (.array (.object "java/lang/Object"))) (t' := .int) (by decide) (by decide))))
  have c6 : Fld Z h4 a1 "java/util/AbstractList" "modCount" "I" (.int x2) := (Fld.other W4 (Fld.other W2 F_4 (Or.inl nab)) (Or.inr (slot_ne (Or.inl (W_ hw 23 rfl)) (Or.inl (W_ hw 87 rfl)) (by decide) (t := .int) (t' := .int) (by decide) (by decide))))
  exact fin0 (Q := (own_Q17 Z a1 a2 x2 aD kD bz kb y0 y1 h0 n0)) (F := FrameEnd) (C := ((Rm 0 0 0 0)).cells) (S := ((Rm 0 0 0 0)).slots) X4 hx Bd.returns (hb hby d_jdk_38_24_22) e4 ⟨rfl, N4, (((Keep.refl h0 [a1, bz]).wr W2 (Or.inl (List.mem_of_getElem? (i := 1) rfl))).wr W4 (Or.inl (List.mem_of_getElem? (i := 0) rfl))), (Exa.wr W4 (Exa.wr W2 F_1)), c5, (Fld.same W4 (Fld.other W2 F_3 (Or.inl nab))), c6, (Exa.wr W4 (Exa.wr W2 F_5)), (Arv.other V2 W4 (Ne.symm nab)), (Exa.wr W4 (Exa.wr W2 F_7))⟩ (lvN X4 hlk (by decide) (by decide))
theorem own_ef18 (m : MethodId) (x0 : Addr) (x1 : Addr)  : entryFrame m #[(.ref x0), (.ref x1)] 2 = mkF m 0 #[rv x0, rv x1] [] := by first | (simp [entryFrame, mkF, argsToLocals, Value.category]; done) | rfl
abbrev own_Q18 (Z : State) (a1 : Addr) (a2 : Addr) (x2 : Int32) (aD : Addr) (kD : ClassId) (bz : Addr) (kb : ClassId) (y0 : Addr) (y1 : Addr) (h0 : Heap) (n0 : Nat) (v : Option Value) (h : Heap) (L : List Loc) : Prop := v = some (.int (1 : Int32)) ∧ Fr n0 L ∧ Keep h0 h [a1, bz] ∧ Exa Z h a1 "java/util/ArrayList" ∧ Fld Z h a1 "java/util/ArrayList" "elementData" "[Ljava/lang/Object;" (.ref bz) ∧ Fld Z h a1 "java/util/ArrayList" "size" "I" (.int (3 : Int32)) ∧ Fld Z h a1 "java/util/AbstractList" "modCount" "I" (.int (x2 + (1 : Int32))) ∧ Exa Z h a2 "com/example/wakenitz/wakenitz/measure/ScoreSheet$PageScore" ∧ Arv Z h bz kb (.object "java/lang/Object") (10 : Int32) [(.ref y0), (.ref y1), (.ref a2), .null, .null, .null, .null, .null, .null, .null] .null ∧ Exa Z h bz "[Ljava/lang/Object;"
set_option maxRecDepth 65536 in
set_option maxHeartbeats 40000000 in
theorem own_m18 (l : Launch) (Z : State) (a0 : Array Value) (hw : ∀ d ∈ tables_1, d.before a0 Z = true) (ws : List Jvm.Cond) (a1 : Addr) (a2 : Addr) (x2 : Int32) (aD : Addr) (kD : ClassId) (bz : Addr) (kb : ClassId) (y0 : Addr) (y1 : Addr) (h0 : Heap) (n0 : Nat) (O0 : Old Z n0 h0) (Ov : Ovr Z kb "java/lang/Object") (nab : a1 ≠ bz) (n2b : a2 ≠ bz) (gn_a1 : n0 ≤ a1) (gn_bz : n0 ≤ bz) (F_1 : Exa Z h0 a1 "java/util/ArrayList") (F_2 : Fld Z h0 a1 "java/util/ArrayList" "elementData" "[Ljava/lang/Object;" (.ref bz)) (F_3 : Fld Z h0 a1 "java/util/ArrayList" "size" "I" (.int (2 : Int32))) (F_4 : Fld Z h0 a1 "java/util/AbstractList" "modCount" "I" (.int x2)) (F_5 : Exa Z h0 a2 "com/example/wakenitz/wakenitz/measure/ScoreSheet$PageScore") (F_6 : Arv Z h0 bz kb (.object "java/lang/Object") (10 : Int32) [(.ref y0), (.ref y1), .null, .null, .null, .null, .null, .null, .null, .null] .null) (F_7 : Exa Z h0 bz "[Ljava/lang/Object;") :
    Ctr l Z (⟨"java/util/ArrayList", "add", "(Ljava/lang/Object;)Z"⟩ : MethodName) jdk_38_method_25_code 2 (some .boolean) (Rm 1 0 0 15) #[(.ref a1), (.ref a2)] h0 (own_Q18 Z a1 a2 x2 aD kD bz kb y0 y1 h0 n0) ws := by
  refine MetFree.of_bodySF (plainFor_of_name own_pn6) hisR ?_
  intro p e s m args below meth c s₁ Bd hml0 hP hK
  obtain ⟨rfl, hZ, hh⟩ := hP
  have hx := Bd.exec
  have hby := Bd.bytes
  have hlk : meth.locks = false := Bd.notSynchronized
  have hml : c.maxLocals = 2 := hml0
  have hown : s.vm.findClass "java/util/ArrayList" = some m.cls := findClass_of_methodNamed Bd.named
  have hnm := (name_of_methodNamed Bd.named Bd.method).1
  have X0 : Stand p l e (Rm 1 0 0 15) s m #[(.ref a1), (.ref a2)] below meth c s₁ [] 0 0 := Stand.of_body Bd
  have e0 : s₁.heap = h0 := by rw [← hh, Bd.state]; rfl
  have N0 := Fr.nil n0
  show Goes p.tables e below (fun t o => ∃ v L, o = .returned v ∧ (own_Q18 Z a1 a2 x2 aD kD bz kb y0 y1 h0 n0) v t.heap L ∧ FrameEnd s o t L ((Rm 1 0 0 15)).cells ((Rm 1 0 0 15)).slots) _
  refine Goes.via (B := s₁.setTop (mkF m 0 #[rv a1, rv a2] [])) (fun t k => castTop (own_ef18 m a1 a2) k) ?_
  refine Gv s₁ 1 [(.ref a1)] (fun t k => XS.aloadN X0.here hx rfl (hb hby d_jdk_38_25_0) rfl rfl k) ?_
  refine Gv s₁ 2 [(.ref a1), (.ref a1)] (fun t k => XS.dup X0.here hx rfl (hb hby d_jdk_38_25_1) rfl rfl k) ?_
  obtain ⟨T1, X1, e1, st1⟩ := getF X0 hx hZ hown (host := "") (Or.inl (W_ hw 84 rfl)) (Via.of (W_ hw 85 rfl)) e0 F_4 (g := (mkF m 2 #[rv a1, rv a2] [(.ref a1), (.ref a1)])) rfl rfl (hb hby d_jdk_38_25_2)
  refine Goes.via (B := T1.setTop (mkF m 5 #[rv a1, rv a2] [(.int x2), (.ref a1)])) (fun t k => st1 _ k) ?_
  refine Gv T1 6 [(.int (1 : Int32)), (.int x2), (.ref a1)] (fun t k => XS.iconst X1.here hx rfl (hb hby d_jdk_38_25_5) k) ?_
  refine Gv T1 7 [(.int (x2 + (1 : Int32))), (.ref a1)] (fun t k => XS.iadd X1.here hx rfl (hb hby d_jdk_38_25_6) rfl k) ?_
  obtain ⟨T2, h2, X2, e2, W2, st2⟩ := putF X1 hx hZ hown (host := "") (Or.inl (W_ hw 84 rfl)) (Via.of (W_ hw 85 rfl)) e1 F_4 F_1 (Or.inl (W_ hw 23 rfl)) (W_ hw 2 rfl) (ty := .int) (by decide) rfl rfl (g := (mkF m 7 #[rv a1, rv a2] [(.int (x2 + (1 : Int32))), (.ref a1)])) rfl rfl (hb hby d_jdk_38_25_7)
  have N2 := Fr.snoc X2 N0 gn_a1
  refine Goes.via (B := T2.setTop (mkF m 10 #[rv a1, rv a2] [])) (fun t k => st2 _ k) ?_
  refine Gv T2 11 [(.ref a1)] (fun t k => XS.aloadN X2.here hx rfl (hb hby d_jdk_38_25_10) rfl rfl k) ?_
  refine Gv T2 12 [(.ref a2), (.ref a1)] (fun t k => XS.aloadN X2.here hx rfl (hb hby d_jdk_38_25_11) rfl rfl k) ?_
  refine Gv T2 13 [(.ref a1), (.ref a2), (.ref a1)] (fun t k => XS.aloadN X2.here hx rfl (hb hby d_jdk_38_25_12) rfl rfl k) ?_
  have c3 : Fld Z h2 a1 "java/util/ArrayList" "elementData" "[Ljava/lang/Object;" (.ref bz) := (Fld.other W2 F_2 (Or.inr (slot_ne (Or.inl (W_ hw 26 rfl)) (Or.inl (W_ hw 23 rfl)) (by decide) (t := (.array (.object "java/lang/Object"))) (t' := .int) (by decide) (by decide))))
  obtain ⟨T4, X4, e4, st4⟩ := getF X2 hx hZ hown (host := "") (Or.inl (W_ hw 25 rfl)) Via.refl e2 c3 (g := (mkF m 13 #[rv a1, rv a2] [(.ref a1), (.ref a2), (.ref a1)])) rfl rfl (hb hby d_jdk_38_25_13)
  refine Goes.via (B := T4.setTop (mkF m 16 #[rv a1, rv a2] [(.ref bz), (.ref a2), (.ref a1)])) (fun t k => st4 _ k) ?_
  refine Gv T4 17 [(.ref a1), (.ref bz), (.ref a2), (.ref a1)] (fun t k => XS.aloadN X4.here hx rfl (hb hby d_jdk_38_25_16) rfl rfl k) ?_
  have c5 : Fld Z h2 a1 "java/util/ArrayList" "size" "I" (.int (2 : Int32)) := (Fld.other W2 F_3 (Or.inr (slot_ne (Or.inl (W_ hw 87 rfl)) (Or.inl (W_ hw 23 rfl)) (by decide) (t := .int) (t' := .int) (by decide) (by decide))))
  obtain ⟨T6, X6, e6, st6⟩ := getF X4 hx hZ hown (host := "") (Or.inl (W_ hw 86 rfl)) Via.refl e4 c5 (g := (mkF m 17 #[rv a1, rv a2] [(.ref a1), (.ref bz), (.ref a2), (.ref a1)])) rfl rfl (hb hby d_jdk_38_25_17)
  refine Goes.via (B := T6.setTop (mkF m 20 #[rv a1, rv a2] [(.int (2 : Int32)), (.ref bz), (.ref a2), (.ref a1)])) (fun t k => st6 _ k) ?_
  obtain ⟨_, T7, L7, X7, ⟨rfl, M7, K7, f7_0, f7_1, f7_2, f7_3, f7_4, f7_5, f7_6⟩, st7⟩ := callPriv X6 hx hZ hown (W_ hw 88 rfl) (W_ hw 89 rfl) (W_ hw 91 rfl) (W_ hw 90 rfl) (W_ hw 3 rfl) (W_ hw 92 rfl) (by decide) (argsL := [(.ref a2), (.ref bz), (.int (2 : Int32))]) (rest := []) (own_m17 l Z a0 hw [] a1 a2 (x2 + (1 : Int32)) aD kD bz kb y0 y1 h2 n0 (O0.wr W2 gn_a1) Ov nab n2b gn_a1 gn_bz (Exa.wr W2 F_1) c3 c5 (Fld.same W2 F_4) (Exa.wr W2 F_5) (Arv.other F_6 W2 (Ne.symm nab)) (Exa.wr W2 F_7)) e6 (Exa.wr W2 F_1) (lenOf own_pd6 rfl) (pc := 20) (Ls := #[rv a1, rv a2]) (st := [(.int (2 : Int32)), (.ref bz), (.ref a2), (.ref a1)]) rfl (by rw [hml]; rfl) (hb hby d_jdk_38_25_20) (W := 0) (Nat.le_of_eq rfl) (by decide) (by decide) (by decide) (by decide)
  have N7 := Fr.app N2 M7
  refine Goes.via (B := T7.setTop (mkF m 23 #[rv a1, rv a2] [])) (fun t k => st7 _ k) ?_
  refine Gv T7 24 [(.int (1 : Int32))] (fun t k => XS.iconst X7.here hx rfl (hb hby d_jdk_38_25_23) k) ?_
  exact finN (Q := (own_Q18 Z a1 a2 x2 aD kD bz kb y0 y1 h0 n0)) (F := FrameEnd) (C := ((Rm 1 0 0 15)).cells) (S := ((Rm 1 0 0 15)).slots) X7 hx (t := .boolean) Bd.returns (by simp) (z' := (1 : Int32)) rfl (hb hby d_jdk_38_25_24) rfl ⟨rfl, N7, (((Keep.refl h0 [a1, bz]).wr W2 (Or.inl (List.mem_of_getElem? (i := 0) rfl))).trans K7 (allS (Or.inl (List.mem_of_getElem? (i := 0) rfl)) (allS (Or.inl (List.mem_of_getElem? (i := 1) rfl)) all0))), f7_0, f7_1, f7_2, f7_3, f7_4, f7_5, f7_6⟩ (lvN X7 hlk (by decide) (by decide))
theorem d_jdk_38_9_0 : decode jdk_38_method_9_code 0 = .ok (.aload_n 0, 1) := by decide +kernel
theorem d_jdk_38_9_1 : decode jdk_38_method_9_code 1 = .ok (.getfield 48, 3) := by decide +kernel
theorem d_jdk_38_9_4 : decode jdk_38_method_9_code 4 = .ok (.ifCond .ne 7, 3) := by decide +kernel
theorem d_jdk_38_9_11 : decode jdk_38_method_9_code 11 = .ok (.iconst 0, 1) := by decide +kernel
theorem d_jdk_38_9_12 : decode jdk_38_method_9_code 12 = .ok (.ireturn, 1) := by decide +kernel
theorem own_ef19 (m : MethodId) (x0 : Addr)  : entryFrame m #[(.ref x0)] 1 = mkF m 0 #[rv x0] [] := by first | (simp [entryFrame, mkF, argsToLocals, Value.category]; done) | rfl
abbrev own_Q19 (Z : State) (a1 : Addr) (h0 : Heap) (n0 : Nat) (v : Option Value) (h : Heap) (L : List Loc) : Prop := v = some (.int (0 : Int32)) ∧ Fr n0 L ∧ h = h0
set_option maxRecDepth 65536 in
set_option maxHeartbeats 40000000 in
theorem own_m19 (l : Launch) (Z : State) (a0 : Array Value) (hw : ∀ d ∈ tables_1, d.before a0 Z = true) (ws : List Jvm.Cond) (a1 : Addr) (h0 : Heap) (n0 : Nat) (O0 : Old Z n0 h0) (F_1 : Fld Z h0 a1 "java/util/ArrayList" "size" "I" (.int (1 : Int32))) :
    Ctr l Z (⟨"java/util/ArrayList", "isEmpty", "()Z"⟩ : MethodName) jdk_38_method_9_code 1 (some .boolean) (Rm 0 0 0 0) #[(.ref a1)] h0 (own_Q19 Z a1 h0 n0) ws := by
  refine MetFree.of_bodySF (plainFor_of_name own_pn6) hisR ?_
  intro p e s m args below meth c s₁ Bd hml0 hP hK
  obtain ⟨rfl, hZ, hh⟩ := hP
  have hx := Bd.exec
  have hby := Bd.bytes
  have hlk : meth.locks = false := Bd.notSynchronized
  have hml : c.maxLocals = 1 := hml0
  have hown : s.vm.findClass "java/util/ArrayList" = some m.cls := findClass_of_methodNamed Bd.named
  have hnm := (name_of_methodNamed Bd.named Bd.method).1
  have X0 : Stand p l e (Rm 0 0 0 0) s m #[(.ref a1)] below meth c s₁ [] 0 0 := Stand.of_body Bd
  have e0 : s₁.heap = h0 := by rw [← hh, Bd.state]; rfl
  have N0 := Fr.nil n0
  show Goes p.tables e below (fun t o => ∃ v L, o = .returned v ∧ (own_Q19 Z a1 h0 n0) v t.heap L ∧ FrameEnd s o t L ((Rm 0 0 0 0)).cells ((Rm 0 0 0 0)).slots) _
  refine Goes.via (B := s₁.setTop (mkF m 0 #[rv a1] [])) (fun t k => castTop (own_ef19 m a1) k) ?_
  refine Gv s₁ 1 [(.ref a1)] (fun t k => XS.aloadN X0.here hx rfl (hb hby d_jdk_38_9_0) rfl rfl k) ?_
  obtain ⟨T1, X1, e1, st1⟩ := getF X0 hx hZ hown (host := "") (Or.inl (W_ hw 86 rfl)) Via.refl e0 F_1 (g := (mkF m 1 #[rv a1] [(.ref a1)])) rfl rfl (hb hby d_jdk_38_9_1)
  refine Goes.via (B := T1.setTop (mkF m 4 #[rv a1] [(.int (1 : Int32))])) (fun t k => st1 _ k) ?_
  refine Gv T1 11 [] (fun t k => XS.ifYes X1.here hx rfl (pc0 := 4) (pc' := 11) rfl (hb hby d_jdk_38_9_4) rfl (XT.i0_ne_t (by decide)) (by decide) (by decide) k) ?_
  refine Gv T1 12 [(.int (0 : Int32))] (fun t k => XS.iconst X1.here hx rfl (hb hby d_jdk_38_9_11) k) ?_
  exact finN (Q := (own_Q19 Z a1 h0 n0)) (F := FrameEnd) (C := ((Rm 0 0 0 0)).cells) (S := ((Rm 0 0 0 0)).slots) X1 hx (t := .boolean) Bd.returns (by simp) (z' := (0 : Int32)) rfl (hb hby d_jdk_38_9_12) e1 ⟨rfl, N0, rfl⟩ (lvN X1 hlk (by decide) (by decide))
theorem own_ef20 (m : MethodId) (x0 : Addr)  : entryFrame m #[(.ref x0)] 1 = mkF m 0 #[rv x0] [] := by first | (simp [entryFrame, mkF, argsToLocals, Value.category]; done) | rfl
abbrev own_Q20 (Z : State) (a1 : Addr) (h0 : Heap) (n0 : Nat) (v : Option Value) (h : Heap) (L : List Loc) : Prop := v = some (.int (0 : Int32)) ∧ Fr n0 L ∧ h = h0
set_option maxRecDepth 65536 in
set_option maxHeartbeats 40000000 in
theorem own_m20 (l : Launch) (Z : State) (a0 : Array Value) (hw : ∀ d ∈ tables_1, d.before a0 Z = true) (ws : List Jvm.Cond) (a1 : Addr) (h0 : Heap) (n0 : Nat) (O0 : Old Z n0 h0) (F_1 : Fld Z h0 a1 "java/util/ArrayList" "size" "I" (.int (2 : Int32))) :
    Ctr l Z (⟨"java/util/ArrayList", "isEmpty", "()Z"⟩ : MethodName) jdk_38_method_9_code 1 (some .boolean) (Rm 0 0 0 0) #[(.ref a1)] h0 (own_Q20 Z a1 h0 n0) ws := by
  refine MetFree.of_bodySF (plainFor_of_name own_pn6) hisR ?_
  intro p e s m args below meth c s₁ Bd hml0 hP hK
  obtain ⟨rfl, hZ, hh⟩ := hP
  have hx := Bd.exec
  have hby := Bd.bytes
  have hlk : meth.locks = false := Bd.notSynchronized
  have hml : c.maxLocals = 1 := hml0
  have hown : s.vm.findClass "java/util/ArrayList" = some m.cls := findClass_of_methodNamed Bd.named
  have hnm := (name_of_methodNamed Bd.named Bd.method).1
  have X0 : Stand p l e (Rm 0 0 0 0) s m #[(.ref a1)] below meth c s₁ [] 0 0 := Stand.of_body Bd
  have e0 : s₁.heap = h0 := by rw [← hh, Bd.state]; rfl
  have N0 := Fr.nil n0
  show Goes p.tables e below (fun t o => ∃ v L, o = .returned v ∧ (own_Q20 Z a1 h0 n0) v t.heap L ∧ FrameEnd s o t L ((Rm 0 0 0 0)).cells ((Rm 0 0 0 0)).slots) _
  refine Goes.via (B := s₁.setTop (mkF m 0 #[rv a1] [])) (fun t k => castTop (own_ef20 m a1) k) ?_
  refine Gv s₁ 1 [(.ref a1)] (fun t k => XS.aloadN X0.here hx rfl (hb hby d_jdk_38_9_0) rfl rfl k) ?_
  obtain ⟨T1, X1, e1, st1⟩ := getF X0 hx hZ hown (host := "") (Or.inl (W_ hw 86 rfl)) Via.refl e0 F_1 (g := (mkF m 1 #[rv a1] [(.ref a1)])) rfl rfl (hb hby d_jdk_38_9_1)
  refine Goes.via (B := T1.setTop (mkF m 4 #[rv a1] [(.int (2 : Int32))])) (fun t k => st1 _ k) ?_
  refine Gv T1 11 [] (fun t k => XS.ifYes X1.here hx rfl (pc0 := 4) (pc' := 11) rfl (hb hby d_jdk_38_9_4) rfl (XT.i0_ne_t (by decide)) (by decide) (by decide) k) ?_
  refine Gv T1 12 [(.int (0 : Int32))] (fun t k => XS.iconst X1.here hx rfl (hb hby d_jdk_38_9_11) k) ?_
  exact finN (Q := (own_Q20 Z a1 h0 n0)) (F := FrameEnd) (C := ((Rm 0 0 0 0)).cells) (S := ((Rm 0 0 0 0)).slots) X1 hx (t := .boolean) Bd.returns (by simp) (z' := (0 : Int32)) rfl (hb hby d_jdk_38_9_12) e1 ⟨rfl, N0, rfl⟩ (lvN X1 hlk (by decide) (by decide))
theorem own_ef21 (m : MethodId) (x0 : Addr)  : entryFrame m #[(.ref x0)] 1 = mkF m 0 #[rv x0] [] := by first | (simp [entryFrame, mkF, argsToLocals, Value.category]; done) | rfl
abbrev own_Q21 (Z : State) (a1 : Addr) (h0 : Heap) (n0 : Nat) (v : Option Value) (h : Heap) (L : List Loc) : Prop := v = some (.int (0 : Int32)) ∧ Fr n0 L ∧ h = h0
set_option maxRecDepth 65536 in
set_option maxHeartbeats 40000000 in
theorem own_m21 (l : Launch) (Z : State) (a0 : Array Value) (hw : ∀ d ∈ tables_1, d.before a0 Z = true) (ws : List Jvm.Cond) (a1 : Addr) (h0 : Heap) (n0 : Nat) (O0 : Old Z n0 h0) (F_1 : Fld Z h0 a1 "java/util/ArrayList" "size" "I" (.int (3 : Int32))) :
    Ctr l Z (⟨"java/util/ArrayList", "isEmpty", "()Z"⟩ : MethodName) jdk_38_method_9_code 1 (some .boolean) (Rm 0 0 0 0) #[(.ref a1)] h0 (own_Q21 Z a1 h0 n0) ws := by
  refine MetFree.of_bodySF (plainFor_of_name own_pn6) hisR ?_
  intro p e s m args below meth c s₁ Bd hml0 hP hK
  obtain ⟨rfl, hZ, hh⟩ := hP
  have hx := Bd.exec
  have hby := Bd.bytes
  have hlk : meth.locks = false := Bd.notSynchronized
  have hml : c.maxLocals = 1 := hml0
  have hown : s.vm.findClass "java/util/ArrayList" = some m.cls := findClass_of_methodNamed Bd.named
  have hnm := (name_of_methodNamed Bd.named Bd.method).1
  have X0 : Stand p l e (Rm 0 0 0 0) s m #[(.ref a1)] below meth c s₁ [] 0 0 := Stand.of_body Bd
  have e0 : s₁.heap = h0 := by rw [← hh, Bd.state]; rfl
  have N0 := Fr.nil n0
  show Goes p.tables e below (fun t o => ∃ v L, o = .returned v ∧ (own_Q21 Z a1 h0 n0) v t.heap L ∧ FrameEnd s o t L ((Rm 0 0 0 0)).cells ((Rm 0 0 0 0)).slots) _
  refine Goes.via (B := s₁.setTop (mkF m 0 #[rv a1] [])) (fun t k => castTop (own_ef21 m a1) k) ?_
  refine Gv s₁ 1 [(.ref a1)] (fun t k => XS.aloadN X0.here hx rfl (hb hby d_jdk_38_9_0) rfl rfl k) ?_
  obtain ⟨T1, X1, e1, st1⟩ := getF X0 hx hZ hown (host := "") (Or.inl (W_ hw 86 rfl)) Via.refl e0 F_1 (g := (mkF m 1 #[rv a1] [(.ref a1)])) rfl rfl (hb hby d_jdk_38_9_1)
  refine Goes.via (B := T1.setTop (mkF m 4 #[rv a1] [(.int (3 : Int32))])) (fun t k => st1 _ k) ?_
  refine Gv T1 11 [] (fun t k => XS.ifYes X1.here hx rfl (pc0 := 4) (pc' := 11) rfl (hb hby d_jdk_38_9_4) rfl (XT.i0_ne_t (by decide)) (by decide) (by decide) k) ?_
  refine Gv T1 12 [(.int (0 : Int32))] (fun t k => XS.iconst X1.here hx rfl (hb hby d_jdk_38_9_11) k) ?_
  exact finN (Q := (own_Q21 Z a1 h0 n0)) (F := FrameEnd) (C := ((Rm 0 0 0 0)).cells) (S := ((Rm 0 0 0 0)).slots) X1 hx (t := .boolean) Bd.returns (by simp) (z' := (0 : Int32)) rfl (hb hby d_jdk_38_9_12) e1 ⟨rfl, N0, rfl⟩ (lvN X1 hlk (by decide) (by decide))
theorem own_pn7 : plainName "java/util/Arrays" = true := by first | (simp [plainName, overriddenIn]; done) | decide +kernel
theorem d_jdk_65_120_0 : decode jdk_65_method_120_code 0 = .ok (.aload_n 2, 1) := by decide +kernel
theorem d_jdk_65_120_1 : decode jdk_65_method_120_code 1 = .ok (.ldc 110, 2) := by decide +kernel
theorem d_jdk_65_120_3 : decode jdk_65_method_120_code 3 = .ok (.if_acmp .ne 10, 3) := by decide +kernel
theorem d_jdk_65_120_6 : decode jdk_65_method_120_code 6 = .ok (.iload_n 1, 1) := by decide +kernel
theorem d_jdk_65_120_7 : decode jdk_65_method_120_code 7 = .ok (.anewarray 2, 3) := by decide +kernel
theorem d_jdk_65_120_10 : decode jdk_65_method_120_code 10 = .ok (.goto 14, 3) := by decide +kernel
theorem d_jdk_65_120_24 : decode jdk_65_method_120_code 24 = .ok (.astore_n 3, 1) := by decide +kernel
theorem d_jdk_65_120_25 : decode jdk_65_method_120_code 25 = .ok (.aload_n 0, 1) := by decide +kernel
theorem d_jdk_65_120_26 : decode jdk_65_method_120_code 26 = .ok (.iconst 0, 1) := by decide +kernel
theorem d_jdk_65_120_27 : decode jdk_65_method_120_code 27 = .ok (.aload_n 3, 1) := by decide +kernel
theorem d_jdk_65_120_28 : decode jdk_65_method_120_code 28 = .ok (.iconst 0, 1) := by decide +kernel
theorem d_jdk_65_120_29 : decode jdk_65_method_120_code 29 = .ok (.aload_n 0, 1) := by decide +kernel
theorem d_jdk_65_120_30 : decode jdk_65_method_120_code 30 = .ok (.arraylength, 1) := by decide +kernel
theorem d_jdk_65_120_31 : decode jdk_65_method_120_code 31 = .ok (.iload_n 1, 1) := by decide +kernel
theorem d_jdk_65_120_32 : decode jdk_65_method_120_code 32 = .ok (.invokestatic 304, 3) := by decide +kernel
theorem d_jdk_65_120_35 : decode jdk_65_method_120_code 35 = .ok (.invokestatic 150, 3) := by decide +kernel
theorem d_jdk_65_120_38 : decode jdk_65_method_120_code 38 = .ok (.aload_n 3, 1) := by decide +kernel
theorem d_jdk_65_120_39 : decode jdk_65_method_120_code 39 = .ok (.areturn, 1) := by decide +kernel
theorem own_ef22 (m : MethodId) (x0 : Addr) (x1 : Int32) (x2 : Addr)  : entryFrame m #[(.ref x0), (.int x1), (.ref x2)] 4 = mkF m 0 #[rv x0, iv x1, rv x2, u_] [] := by first | (simp [entryFrame, mkF, argsToLocals, Value.category]; done) | rfl
abbrev own_Q22 (Z : State) (bz : Addr) (kz : ClassId) (pga : Addr) (mr : Addr) (h0 : Heap) (n0 : Nat) (v : Option Value) (h : Heap) (L : List Loc) : Prop := ∃ r : Addr, ∃ kr : ClassId, v = some (.ref r) ∧ Fr n0 L ∧ Keep h0 h [] ∧ h0.size ≤ r ∧ Arv Z h r kr (.object "java/lang/Object") (1 : Int32) [(.ref pga)] .null
set_option maxRecDepth 65536 in
set_option maxHeartbeats 40000000 in
theorem own_m22 (l : Launch) (Z : State) (a0 : Array Value) (hw : ∀ d ∈ tables_1, d.before a0 Z = true) (ws : List Jvm.Cond) (bz : Addr) (kz : ClassId) (pga : Addr) (mr : Addr) (h0 : Heap) (n0 : Nat) (O0 : Old Z n0 h0) (Mi : Mirr Z "[Ljava/lang/Object;" mr) (F_1 : Arv Z h0 bz kz (.object "java/lang/Object") (10 : Int32) [(.ref pga), .null, .null, .null, .null, .null, .null, .null, .null, .null] .null) (F_2 : Exa Z h0 bz "[Ljava/lang/Object;") (F_3 : Exa Z h0 pga "com/example/wakenitz/wakenitz/measure/ScoreSheet$PageScore") :
    Ctr l Z (⟨"java/util/Arrays", "copyOf", "([Ljava/lang/Object;ILjava/lang/Class;)[Ljava/lang/Object;"⟩ : MethodName) jdk_65_method_120_code 4 (some (.array (.object "java/lang/Object"))) (Rm 1 1 1 24) #[(.ref bz), (.int (1 : Int32)), (.ref mr)] h0 (own_Q22 Z bz kz pga mr h0 n0) ws := by
  refine MetFree.of_bodySF (plainFor_of_name own_pn7) hisR ?_
  intro p e s m args below meth c s₁ Bd hml0 hP hK
  obtain ⟨rfl, hZ, hh⟩ := hP
  have hx := Bd.exec
  have hby := Bd.bytes
  have hlk : meth.locks = false := Bd.notSynchronized
  have hml : c.maxLocals = 4 := hml0
  have hown : s.vm.findClass "java/util/Arrays" = some m.cls := findClass_of_methodNamed Bd.named
  have hnm := (name_of_methodNamed Bd.named Bd.method).1
  have X0 : Stand p l e (Rm 1 1 1 24) s m #[(.ref bz), (.int (1 : Int32)), (.ref mr)] below meth c s₁ [] 0 0 := Stand.of_body Bd
  have e0 : s₁.heap = h0 := by rw [← hh, Bd.state]; rfl
  have N0 := Fr.nil n0
  show Goes p.tables e below (fun t o => ∃ v L, o = .returned v ∧ (own_Q22 Z bz kz pga mr h0 n0) v t.heap L ∧ FrameEnd s o t L ((Rm 1 1 1 24)).cells ((Rm 1 1 1 24)).slots) _
  refine Goes.via (B := s₁.setTop (mkF m 0 #[rv bz, iv (1 : Int32), rv mr, u_] [])) (fun t k => castTop (own_ef22 m bz (1 : Int32) mr) k) ?_
  refine Gv s₁ 1 [(.ref mr)] (fun t k => XS.aloadN X0.here hx rfl (hb hby d_jdk_65_120_0) rfl rfl k) ?_
  obtain ⟨T1, X1, e1, st1⟩ := ldcM X0 hx hZ hown (W_ hw 167 rfl) e0 Mi (g := (mkF m 1 #[rv bz, iv (1 : Int32), rv mr, u_] [(.ref mr)])) rfl (hb hby d_jdk_65_120_1)
  refine Goes.via (B := T1.setTop (mkF m 3 #[rv bz, iv (1 : Int32), rv mr, u_] [(.ref mr), (.ref mr)])) (fun t k => st1 _ k) ?_
  refine Gv T1 6 [] (fun t k => XT.acmpNo X1.here hx rfl (hb hby d_jdk_65_120_3) rfl rfl rfl (XT.aa_ne_f rfl) k) ?_
  refine Gv T1 7 [(.int (1 : Int32))] (fun t k => XS.iloadN X1.here hx rfl (hb hby d_jdk_65_120_6) rfl k) ?_
  obtain ⟨T2, h2, k2, X2, e2, E2, A2, Ov2, st2⟩ := newR X1 hx hZ hown (W_ hw 168 rfl) (W_ hw 108 rfl) e1 (g := (mkF m 7 #[rv bz, iv (1 : Int32), rv mr, u_] [(.int (1 : Int32))])) rfl (hb hby d_jdk_65_120_7) rfl (by decide) (cap := 1) (by decide) (by decide) (by decide) (by decide)
  obtain ⟨b2, g2⟩ : ∃ z, z = h0.size := ⟨_, rfl⟩
  rw [← g2] at A2 st2
  have gn2 : n0 ≤ b2 := Nat.le_trans (old_le O0) (Nat.le_of_eq g2.symm)
  have gs2 : h0.size ≤ b2 := Nat.le_trans (Keep.refl h0 []).1 (Nat.le_of_eq g2.symm)
  have V2 : Arv Z h2 b2 k2 (.object "java/lang/Object") (1 : Int32) [.null] .null := (Arv.new A2 (by decide)).pad (pad_rep [] .null 1)
  refine Goes.via (B := T2.setTop (mkF m 10 #[rv bz, iv (1 : Int32), rv mr, u_] [(.ref b2)])) (fun t k => st2 _ k) ?_
  refine Gv T2 24 [(.ref b2)] (fun t k => XS.goto X2.here hx rfl (pc0 := 10) (pc' := 24) rfl (hb hby d_jdk_65_120_10) (by decide) (by decide) k) ?_
  refine Gv T2 25 [] (fun t k => XS.astoreN X2.here hx rfl (hb hby d_jdk_65_120_24) rfl rfl (l' := #[rv bz, iv (1 : Int32), rv mr, rv b2]) rfl k) ?_
  refine Gv T2 26 [(.ref bz)] (fun t k => XS.aloadN X2.here hx rfl (hb hby d_jdk_65_120_25) rfl rfl k) ?_
  refine Gv T2 27 [(.int (0 : Int32)), (.ref bz)] (fun t k => XS.iconst X2.here hx rfl (hb hby d_jdk_65_120_26) k) ?_
  refine Gv T2 28 [(.ref b2), (.int (0 : Int32)), (.ref bz)] (fun t k => XS.aloadN X2.here hx rfl (hb hby d_jdk_65_120_27) rfl rfl k) ?_
  refine Gv T2 29 [(.int (0 : Int32)), (.ref b2), (.int (0 : Int32)), (.ref bz)] (fun t k => XS.iconst X2.here hx rfl (hb hby d_jdk_65_120_28) k) ?_
  refine Gv T2 30 [(.ref bz), (.int (0 : Int32)), (.ref b2), (.int (0 : Int32)), (.ref bz)] (fun t k => XS.aloadN X2.here hx rfl (hb hby d_jdk_65_120_29) rfl rfl k) ?_
  obtain ⟨cl3, Ar3, q3, S3, N3, H3, G3⟩ := id (F_1.ext E2)
  refine Goes.via (B := T2.setTop (mkF m 31 #[rv bz, iv (1 : Int32), rv mr, rv b2] [(.int (10 : Int32)), (.int (0 : Int32)), (.ref b2), (.int (0 : Int32)), (.ref bz)])) (fun t k => X2.arraylength hx (by rw [e2]; exact Ar3.1) (State.isArrayOf_alike hZ.alike Ar3.2.1) (g := (mkF m 30 #[rv bz, iv (1 : Int32), rv mr, rv b2] [(.ref bz), (.int (0 : Int32)), (.ref b2), (.int (0 : Int32)), (.ref bz)])) rfl rfl (hb hby d_jdk_65_120_30) t (by rw [(len_of S3 N3)]; exact k)) ?_
  refine Gv T2 32 [(.int (1 : Int32)), (.int (10 : Int32)), (.int (0 : Int32)), (.ref b2), (.int (0 : Int32)), (.ref bz)] (fun t k => XS.iloadN X2.here hx rfl (hb hby d_jdk_65_120_31) rfl k) ?_
  obtain ⟨_, T4, L4, X4, ⟨r4, rfl, M4, K4, p4_0⟩, st4⟩ := callStatic X2 hx hZ hown (W_ hw 169 rfl) (W_ hw 170 rfl) (W_ hw 105 rfl) (W_ hw 171 rfl) (by decide) (argsL := [(.int (10 : Int32)), (.int (1 : Int32))]) (rest := [(.int (0 : Int32)), (.ref b2), (.int (0 : Int32)), (.ref bz)]) (own_m10 l Z a0 hw [] (10 : Int32) (1 : Int32) h2 n0 (O0.ext E2) ) e2 (lenOf own_pd3 rfl) (pc := 32) (Ls := #[rv bz, iv (1 : Int32), rv mr, rv b2]) (st := [(.int (1 : Int32)), (.int (10 : Int32)), (.int (0 : Int32)), (.ref b2), (.int (0 : Int32)), (.ref bz)]) rfl (by rw [hml]; rfl) (hb hby d_jdk_65_120_32) (W := 4) (Nat.le_of_eq rfl) (by decide) (by decide) (by decide) (by decide)
  have N4 := Fr.app N0 M4
  refine Goes.via (B := T4.setTop (mkF m 35 #[rv bz, iv (1 : Int32), rv mr, rv b2] [(.int r4), (.int (0 : Int32)), (.ref b2), (.int (0 : Int32)), (.ref bz)])) (fun t k => st4 _ k) ?_
  obtain rfl : r4 = (1 : Int32) := p4_0.trans (by decide)
  obtain ⟨cz5, Az5, qz5, -⟩ := id V2
  obtain ⟨T5, h5, L5, X5, e5, N5, K5, V5, st5⟩ := cpA X4 hx hZ hown (W_ hw 172 rfl) (W_ hw 175 rfl) (W_ hw 173 rfl) (W_ hw 174 rfl) K4 (us := [(.ref pga)]) (F_1.ext E2) V2 (Or.inr ⟨rfl, rfl, ⟨Sto.ofV Az5 qz5 Ov2 (Ins.of_exa (F_3.ext E2) (W_ hw 109 rfl)), trivial⟩⟩) (by decide) (by decide) (by decide) (by decide) (by decide) rfl (by decide) N4 gn2 (g := (mkF m 35 #[rv bz, iv (1 : Int32), rv mr, rv b2] [(.int (1 : Int32)), (.int (0 : Int32)), (.ref b2), (.int (0 : Int32)), (.ref bz)])) rfl (by rw [hml]; rfl) (rest := []) rfl (hb hby d_jdk_65_120_35) (by decide) (W := 0) (by show 2 * 0 + _ ≤ _; exact Nat.le_of_eq rfl) (by decide)
  have w5 : Arv Z h5 b2 k2 (.object "java/lang/Object") (1 : Int32) [(.ref pga)] .null := V5
  refine Goes.via (B := T5.setTop (mkF m 38 #[rv bz, iv (1 : Int32), rv mr, rv b2] [])) (fun t k => st5 _ k) ?_
  refine Gv T5 39 [(.ref b2)] (fun t k => XS.aloadN X5.here hx rfl (hb hby d_jdk_65_120_38) rfl rfl k) ?_
  exact finA (Q := (own_Q22 Z bz kz pga mr h0 n0)) (F := FrameEnd) (C := ((Rm 1 1 1 24)).cells) (S := ((Rm 1 1 1 24)).slots) X5 hx Bd.returns rfl rfl rfl (hb hby d_jdk_65_120_39) e5 ⟨b2, k2, rfl, N5, (((Keep.refl h0 []).ext E2).trans K5 (allS (Or.inr gs2) all0)), gs2, w5⟩ (lvN X5 hlk (by decide) (by decide))
theorem d_jdk_65_119_0 : decode jdk_65_method_119_code 0 = .ok (.aload_n 0, 1) := by decide +kernel
theorem d_jdk_65_119_1 : decode jdk_65_method_119_code 1 = .ok (.iload_n 1, 1) := by decide +kernel
theorem d_jdk_65_119_2 : decode jdk_65_method_119_code 2 = .ok (.aload_n 0, 1) := by decide +kernel
theorem d_jdk_65_119_3 : decode jdk_65_method_119_code 3 = .ok (.invokevirtual 86, 3) := by decide +kernel
theorem d_jdk_65_119_6 : decode jdk_65_method_119_code 6 = .ok (.invokestatic 300, 3) := by decide +kernel
theorem own_pd7 : parseMethodDescriptor "([Ljava/lang/Object;ILjava/lang/Class;)[Ljava/lang/Object;" = some ⟨[(.array (.object "java/lang/Object")), .int, (.object "java/lang/Class")], some (.array (.object "java/lang/Object"))⟩ := by decide +kernel
theorem d_jdk_65_119_9 : decode jdk_65_method_119_code 9 = .ok (.areturn, 1) := by decide +kernel
theorem own_ef23 (m : MethodId) (x0 : Addr) (x1 : Int32)  : entryFrame m #[(.ref x0), (.int x1)] 2 = mkF m 0 #[rv x0, iv x1] [] := by first | (simp [entryFrame, mkF, argsToLocals, Value.category]; done) | rfl
abbrev own_Q23 (Z : State) (bz : Addr) (kz : ClassId) (pga : Addr) (mr : Addr) (h0 : Heap) (n0 : Nat) (v : Option Value) (h : Heap) (L : List Loc) : Prop := ∃ r : Addr, ∃ kr : ClassId, v = some (.ref r) ∧ Fr n0 L ∧ Keep h0 h [] ∧ h0.size ≤ r ∧ Arv Z h r kr (.object "java/lang/Object") (1 : Int32) [(.ref pga)] .null
set_option maxRecDepth 65536 in
set_option maxHeartbeats 40000000 in
theorem own_m23 (l : Launch) (Z : State) (a0 : Array Value) (hw : ∀ d ∈ tables_1, d.before a0 Z = true) (ws : List Jvm.Cond) (bz : Addr) (kz : ClassId) (pga : Addr) (mr : Addr) (h0 : Heap) (n0 : Nat) (O0 : Old Z n0 h0) (Mi : Mirr Z "[Ljava/lang/Object;" mr) (F_1 : Arv Z h0 bz kz (.object "java/lang/Object") (10 : Int32) [(.ref pga), .null, .null, .null, .null, .null, .null, .null, .null, .null] .null) (F_2 : Exa Z h0 bz "[Ljava/lang/Object;") (F_3 : Exa Z h0 pga "com/example/wakenitz/wakenitz/measure/ScoreSheet$PageScore") :
    Ctr l Z (⟨"java/util/Arrays", "copyOf", "([Ljava/lang/Object;I)[Ljava/lang/Object;"⟩ : MethodName) jdk_65_method_119_code 2 (some (.array (.object "java/lang/Object"))) (Rm 2 1 1 39) #[(.ref bz), (.int (1 : Int32))] h0 (own_Q23 Z bz kz pga mr h0 n0) ws := by
  refine MetFree.of_bodySF (plainFor_of_name own_pn7) hisR ?_
  intro p e s m args below meth c s₁ Bd hml0 hP hK
  obtain ⟨rfl, hZ, hh⟩ := hP
  have hx := Bd.exec
  have hby := Bd.bytes
  have hlk : meth.locks = false := Bd.notSynchronized
  have hml : c.maxLocals = 2 := hml0
  have hown : s.vm.findClass "java/util/Arrays" = some m.cls := findClass_of_methodNamed Bd.named
  have hnm := (name_of_methodNamed Bd.named Bd.method).1
  have X0 : Stand p l e (Rm 2 1 1 39) s m #[(.ref bz), (.int (1 : Int32))] below meth c s₁ [] 0 0 := Stand.of_body Bd
  have e0 : s₁.heap = h0 := by rw [← hh, Bd.state]; rfl
  have N0 := Fr.nil n0
  show Goes p.tables e below (fun t o => ∃ v L, o = .returned v ∧ (own_Q23 Z bz kz pga mr h0 n0) v t.heap L ∧ FrameEnd s o t L ((Rm 2 1 1 39)).cells ((Rm 2 1 1 39)).slots) _
  refine Goes.via (B := s₁.setTop (mkF m 0 #[rv bz, iv (1 : Int32)] [])) (fun t k => castTop (own_ef23 m bz (1 : Int32)) k) ?_
  refine Gv s₁ 1 [(.ref bz)] (fun t k => XS.aloadN X0.here hx rfl (hb hby d_jdk_65_119_0) rfl rfl k) ?_
  refine Gv s₁ 2 [(.int (1 : Int32)), (.ref bz)] (fun t k => XS.iloadN X0.here hx rfl (hb hby d_jdk_65_119_1) rfl k) ?_
  refine Gv s₁ 3 [(.ref bz), (.int (1 : Int32)), (.ref bz)] (fun t k => XS.aloadN X0.here hx rfl (hb hby d_jdk_65_119_2) rfl rfl k) ?_
  obtain ⟨T1, X1, e1, st1⟩ := gclsS X0 hx hZ hown (W_ hw 158 rfl) (W_ hw 159 rfl) (W_ hw 161 rfl) (W_ hw 160 rfl) (W_ hw 162 rfl) e0 F_2 Mi (g := (mkF m 3 #[rv bz, iv (1 : Int32)] [(.ref bz), (.int (1 : Int32)), (.ref bz)])) rfl (by rw [hml]; rfl) rfl (hb hby d_jdk_65_119_3) (by decide) (W := 2) (by show 2 * 0 + _ ≤ _; exact Nat.le_of_eq rfl) (by decide)
  refine Goes.via (B := T1.setTop (mkF m 6 #[rv bz, iv (1 : Int32)] [(.ref mr), (.int (1 : Int32)), (.ref bz)])) (fun t k => st1 _ k) ?_
  obtain ⟨_, T2, L2, X2, ⟨r2, kr2, rfl, M2, K2, z2_0, f2_0⟩, st2⟩ := callStatic X1 hx hZ hown (W_ hw 164 rfl) (W_ hw 165 rfl) (W_ hw 156 rfl) (W_ hw 166 rfl) (by decide) (argsL := [(.ref bz), (.int (1 : Int32)), (.ref mr)]) (rest := []) (own_m22 l Z a0 hw [] bz kz pga mr h0 n0 O0 Mi F_1 F_2 F_3) e1 (lenOf own_pd7 rfl) (pc := 6) (Ls := #[rv bz, iv (1 : Int32)]) (st := [(.ref mr), (.int (1 : Int32)), (.ref bz)]) rfl (by rw [hml]; rfl) (hb hby d_jdk_65_119_6) (W := 0) (Nat.le_of_eq rfl) (by decide) (by decide) (by decide) (by decide)
  have N2 := Fr.app N0 M2
  have gn2_0 : n0 ≤ r2 := Nat.le_trans (old_le O0) z2_0
  have gs2_0 : h0.size ≤ r2 := Nat.le_trans (Keep.refl h0 []).1 z2_0
  refine Goes.via (B := T2.setTop (mkF m 9 #[rv bz, iv (1 : Int32)] [(.ref r2)])) (fun t k => st2 _ k) ?_
  exact finA (Q := (own_Q23 Z bz kz pga mr h0 n0)) (F := FrameEnd) (C := ((Rm 2 1 1 39)).cells) (S := ((Rm 2 1 1 39)).slots) X2 hx Bd.returns rfl rfl rfl (hb hby d_jdk_65_119_9) rfl ⟨r2, kr2, rfl, N2, ((Keep.refl h0 []).trans K2 all0), gs2_0, f2_0⟩ (lvN X2 hlk (by decide) (by decide))
theorem d_jdk_38_16_0 : decode jdk_38_method_16_code 0 = .ok (.aload_n 0, 1) := by decide +kernel
theorem d_jdk_38_16_1 : decode jdk_38_method_16_code 1 = .ok (.getfield 9, 3) := by decide +kernel
theorem d_jdk_38_16_4 : decode jdk_38_method_16_code 4 = .ok (.aload_n 0, 1) := by decide +kernel
theorem d_jdk_38_16_5 : decode jdk_38_method_16_code 5 = .ok (.getfield 48, 3) := by decide +kernel
theorem d_jdk_38_16_8 : decode jdk_38_method_16_code 8 = .ok (.invokestatic 66, 3) := by decide +kernel
theorem own_pd8 : parseMethodDescriptor "([Ljava/lang/Object;I)[Ljava/lang/Object;" = some ⟨[(.array (.object "java/lang/Object")), .int], some (.array (.object "java/lang/Object"))⟩ := by decide +kernel
theorem d_jdk_38_16_11 : decode jdk_38_method_16_code 11 = .ok (.areturn, 1) := by decide +kernel
theorem own_ef24 (m : MethodId) (x0 : Addr)  : entryFrame m #[(.ref x0)] 1 = mkF m 0 #[rv x0] [] := by first | (simp [entryFrame, mkF, argsToLocals, Value.category]; done) | rfl
abbrev own_Q24 (Z : State) (a1 : Addr) (bz : Addr) (kz : ClassId) (pga : Addr) (mr : Addr) (h0 : Heap) (n0 : Nat) (v : Option Value) (h : Heap) (L : List Loc) : Prop := ∃ r : Addr, ∃ kr : ClassId, v = some (.ref r) ∧ Fr n0 L ∧ Keep h0 h [] ∧ h0.size ≤ r ∧ Arv Z h r kr (.object "java/lang/Object") (1 : Int32) [(.ref pga)] .null
set_option maxRecDepth 65536 in
set_option maxHeartbeats 40000000 in
theorem own_m24 (l : Launch) (Z : State) (a0 : Array Value) (hw : ∀ d ∈ tables_1, d.before a0 Z = true) (ws : List Jvm.Cond) (a1 : Addr) (bz : Addr) (kz : ClassId) (pga : Addr) (mr : Addr) (h0 : Heap) (n0 : Nat) (O0 : Old Z n0 h0) (Mi : Mirr Z "[Ljava/lang/Object;" mr) (F_1 : Exa Z h0 a1 "java/util/ArrayList") (F_2 : Fld Z h0 a1 "java/util/ArrayList" "elementData" "[Ljava/lang/Object;" (.ref bz)) (F_3 : Fld Z h0 a1 "java/util/ArrayList" "size" "I" (.int (1 : Int32))) (F_4 : Arv Z h0 bz kz (.object "java/lang/Object") (10 : Int32) [(.ref pga), .null, .null, .null, .null, .null, .null, .null, .null, .null] .null) (F_5 : Exa Z h0 bz "[Ljava/lang/Object;") (F_6 : Exa Z h0 pga "com/example/wakenitz/wakenitz/measure/ScoreSheet$PageScore") :
    Ctr l Z (⟨"java/util/ArrayList", "toArray", "()[Ljava/lang/Object;"⟩ : MethodName) jdk_38_method_16_code 1 (some (.array (.object "java/lang/Object"))) (Rm 3 1 1 52) #[(.ref a1)] h0 (own_Q24 Z a1 bz kz pga mr h0 n0) ws := by
  refine MetFree.of_bodySF (plainFor_of_name own_pn6) hisR ?_
  intro p e s m args below meth c s₁ Bd hml0 hP hK
  obtain ⟨rfl, hZ, hh⟩ := hP
  have hx := Bd.exec
  have hby := Bd.bytes
  have hlk : meth.locks = false := Bd.notSynchronized
  have hml : c.maxLocals = 1 := hml0
  have hown : s.vm.findClass "java/util/ArrayList" = some m.cls := findClass_of_methodNamed Bd.named
  have hnm := (name_of_methodNamed Bd.named Bd.method).1
  have X0 : Stand p l e (Rm 3 1 1 52) s m #[(.ref a1)] below meth c s₁ [] 0 0 := Stand.of_body Bd
  have e0 : s₁.heap = h0 := by rw [← hh, Bd.state]; rfl
  have N0 := Fr.nil n0
  show Goes p.tables e below (fun t o => ∃ v L, o = .returned v ∧ (own_Q24 Z a1 bz kz pga mr h0 n0) v t.heap L ∧ FrameEnd s o t L ((Rm 3 1 1 52)).cells ((Rm 3 1 1 52)).slots) _
  refine Goes.via (B := s₁.setTop (mkF m 0 #[rv a1] [])) (fun t k => castTop (own_ef24 m a1) k) ?_
  refine Gv s₁ 1 [(.ref a1)] (fun t k => XS.aloadN X0.here hx rfl (hb hby d_jdk_38_16_0) rfl rfl k) ?_
  obtain ⟨T1, X1, e1, st1⟩ := getF X0 hx hZ hown (host := "") (Or.inl (W_ hw 25 rfl)) Via.refl e0 F_2 (g := (mkF m 1 #[rv a1] [(.ref a1)])) rfl rfl (hb hby d_jdk_38_16_1)
  refine Goes.via (B := T1.setTop (mkF m 4 #[rv a1] [(.ref bz)])) (fun t k => st1 _ k) ?_
  refine Gv T1 5 [(.ref a1), (.ref bz)] (fun t k => XS.aloadN X1.here hx rfl (hb hby d_jdk_38_16_4) rfl rfl k) ?_
  obtain ⟨T2, X2, e2, st2⟩ := getF X1 hx hZ hown (host := "") (Or.inl (W_ hw 86 rfl)) Via.refl e1 F_3 (g := (mkF m 5 #[rv a1] [(.ref a1), (.ref bz)])) rfl rfl (hb hby d_jdk_38_16_5)
  refine Goes.via (B := T2.setTop (mkF m 8 #[rv a1] [(.int (1 : Int32)), (.ref bz)])) (fun t k => st2 _ k) ?_
  obtain ⟨_, T3, L3, X3, ⟨r3, kr3, rfl, M3, K3, z3_0, f3_0⟩, st3⟩ := callStatic X2 hx hZ hown (W_ hw 154 rfl) (W_ hw 155 rfl) (W_ hw 156 rfl) (W_ hw 157 rfl) (by decide) (argsL := [(.ref bz), (.int (1 : Int32))]) (rest := []) (own_m23 l Z a0 hw [] bz kz pga mr h0 n0 O0 Mi F_4 F_5 F_6) e2 (lenOf own_pd8 rfl) (pc := 8) (Ls := #[rv a1]) (st := [(.int (1 : Int32)), (.ref bz)]) rfl (by rw [hml]; rfl) (hb hby d_jdk_38_16_8) (W := 0) (Nat.le_of_eq rfl) (by decide) (by decide) (by decide) (by decide)
  have N3 := Fr.app N0 M3
  have gn3_0 : n0 ≤ r3 := Nat.le_trans (old_le O0) z3_0
  have gs3_0 : h0.size ≤ r3 := Nat.le_trans (Keep.refl h0 []).1 z3_0
  refine Goes.via (B := T3.setTop (mkF m 11 #[rv a1] [(.ref r3)])) (fun t k => st3 _ k) ?_
  exact finA (Q := (own_Q24 Z a1 bz kz pga mr h0 n0)) (F := FrameEnd) (C := ((Rm 3 1 1 52)).cells) (S := ((Rm 3 1 1 52)).slots) X3 hx Bd.returns rfl rfl rfl (hb hby d_jdk_38_16_11) rfl ⟨r3, kr3, rfl, N3, ((Keep.refl h0 []).trans K3 all0), gs3_0, f3_0⟩ (lvN X3 hlk (by decide) (by decide))
theorem own_ef25 (m : MethodId) (x0 : Addr) (x1 : Int32) (x2 : Addr)  : entryFrame m #[(.ref x0), (.int x1), (.ref x2)] 4 = mkF m 0 #[rv x0, iv x1, rv x2, u_] [] := by first | (simp [entryFrame, mkF, argsToLocals, Value.category]; done) | rfl
abbrev own_Q25 (Z : State) (bz : Addr) (kz : ClassId) (pga : Addr) (pgb : Addr) (mr : Addr) (h0 : Heap) (n0 : Nat) (v : Option Value) (h : Heap) (L : List Loc) : Prop := ∃ r : Addr, ∃ kr : ClassId, v = some (.ref r) ∧ Fr n0 L ∧ Keep h0 h [] ∧ h0.size ≤ r ∧ Arv Z h r kr (.object "java/lang/Object") (2 : Int32) [(.ref pga), (.ref pgb)] .null
set_option maxRecDepth 65536 in
set_option maxHeartbeats 40000000 in
theorem own_m25 (l : Launch) (Z : State) (a0 : Array Value) (hw : ∀ d ∈ tables_1, d.before a0 Z = true) (ws : List Jvm.Cond) (bz : Addr) (kz : ClassId) (pga : Addr) (pgb : Addr) (mr : Addr) (h0 : Heap) (n0 : Nat) (O0 : Old Z n0 h0) (Mi : Mirr Z "[Ljava/lang/Object;" mr) (F_1 : Arv Z h0 bz kz (.object "java/lang/Object") (10 : Int32) [(.ref pga), (.ref pgb), .null, .null, .null, .null, .null, .null, .null, .null] .null) (F_2 : Exa Z h0 bz "[Ljava/lang/Object;") (F_3 : Exa Z h0 pga "com/example/wakenitz/wakenitz/measure/ScoreSheet$PageScore") (F_4 : Exa Z h0 pgb "com/example/wakenitz/wakenitz/measure/ScoreSheet$PageScore") :
    Ctr l Z (⟨"java/util/Arrays", "copyOf", "([Ljava/lang/Object;ILjava/lang/Class;)[Ljava/lang/Object;"⟩ : MethodName) jdk_65_method_120_code 4 (some (.array (.object "java/lang/Object"))) (Rm 1 1 2 24) #[(.ref bz), (.int (2 : Int32)), (.ref mr)] h0 (own_Q25 Z bz kz pga pgb mr h0 n0) ws := by
  refine MetFree.of_bodySF (plainFor_of_name own_pn7) hisR ?_
  intro p e s m args below meth c s₁ Bd hml0 hP hK
  obtain ⟨rfl, hZ, hh⟩ := hP
  have hx := Bd.exec
  have hby := Bd.bytes
  have hlk : meth.locks = false := Bd.notSynchronized
  have hml : c.maxLocals = 4 := hml0
  have hown : s.vm.findClass "java/util/Arrays" = some m.cls := findClass_of_methodNamed Bd.named
  have hnm := (name_of_methodNamed Bd.named Bd.method).1
  have X0 : Stand p l e (Rm 1 1 2 24) s m #[(.ref bz), (.int (2 : Int32)), (.ref mr)] below meth c s₁ [] 0 0 := Stand.of_body Bd
  have e0 : s₁.heap = h0 := by rw [← hh, Bd.state]; rfl
  have N0 := Fr.nil n0
  show Goes p.tables e below (fun t o => ∃ v L, o = .returned v ∧ (own_Q25 Z bz kz pga pgb mr h0 n0) v t.heap L ∧ FrameEnd s o t L ((Rm 1 1 2 24)).cells ((Rm 1 1 2 24)).slots) _
  refine Goes.via (B := s₁.setTop (mkF m 0 #[rv bz, iv (2 : Int32), rv mr, u_] [])) (fun t k => castTop (own_ef25 m bz (2 : Int32) mr) k) ?_
  refine Gv s₁ 1 [(.ref mr)] (fun t k => XS.aloadN X0.here hx rfl (hb hby d_jdk_65_120_0) rfl rfl k) ?_
  obtain ⟨T1, X1, e1, st1⟩ := ldcM X0 hx hZ hown (W_ hw 167 rfl) e0 Mi (g := (mkF m 1 #[rv bz, iv (2 : Int32), rv mr, u_] [(.ref mr)])) rfl (hb hby d_jdk_65_120_1)
  refine Goes.via (B := T1.setTop (mkF m 3 #[rv bz, iv (2 : Int32), rv mr, u_] [(.ref mr), (.ref mr)])) (fun t k => st1 _ k) ?_
  refine Gv T1 6 [] (fun t k => XT.acmpNo X1.here hx rfl (hb hby d_jdk_65_120_3) rfl rfl rfl (XT.aa_ne_f rfl) k) ?_
  refine Gv T1 7 [(.int (2 : Int32))] (fun t k => XS.iloadN X1.here hx rfl (hb hby d_jdk_65_120_6) rfl k) ?_
  obtain ⟨T2, h2, k2, X2, e2, E2, A2, Ov2, st2⟩ := newR X1 hx hZ hown (W_ hw 168 rfl) (W_ hw 108 rfl) e1 (g := (mkF m 7 #[rv bz, iv (2 : Int32), rv mr, u_] [(.int (2 : Int32))])) rfl (hb hby d_jdk_65_120_7) rfl (by decide) (cap := 2) (by decide) (by decide) (by decide) (by decide)
  obtain ⟨b2, g2⟩ : ∃ z, z = h0.size := ⟨_, rfl⟩
  rw [← g2] at A2 st2
  have gn2 : n0 ≤ b2 := Nat.le_trans (old_le O0) (Nat.le_of_eq g2.symm)
  have gs2 : h0.size ≤ b2 := Nat.le_trans (Keep.refl h0 []).1 (Nat.le_of_eq g2.symm)
  have V2 : Arv Z h2 b2 k2 (.object "java/lang/Object") (2 : Int32) [.null, .null] .null := (Arv.new A2 (by decide)).pad (pad_rep [] .null 2)
  refine Goes.via (B := T2.setTop (mkF m 10 #[rv bz, iv (2 : Int32), rv mr, u_] [(.ref b2)])) (fun t k => st2 _ k) ?_
  refine Gv T2 24 [(.ref b2)] (fun t k => XS.goto X2.here hx rfl (pc0 := 10) (pc' := 24) rfl (hb hby d_jdk_65_120_10) (by decide) (by decide) k) ?_
  refine Gv T2 25 [] (fun t k => XS.astoreN X2.here hx rfl (hb hby d_jdk_65_120_24) rfl rfl (l' := #[rv bz, iv (2 : Int32), rv mr, rv b2]) rfl k) ?_
  refine Gv T2 26 [(.ref bz)] (fun t k => XS.aloadN X2.here hx rfl (hb hby d_jdk_65_120_25) rfl rfl k) ?_
  refine Gv T2 27 [(.int (0 : Int32)), (.ref bz)] (fun t k => XS.iconst X2.here hx rfl (hb hby d_jdk_65_120_26) k) ?_
  refine Gv T2 28 [(.ref b2), (.int (0 : Int32)), (.ref bz)] (fun t k => XS.aloadN X2.here hx rfl (hb hby d_jdk_65_120_27) rfl rfl k) ?_
  refine Gv T2 29 [(.int (0 : Int32)), (.ref b2), (.int (0 : Int32)), (.ref bz)] (fun t k => XS.iconst X2.here hx rfl (hb hby d_jdk_65_120_28) k) ?_
  refine Gv T2 30 [(.ref bz), (.int (0 : Int32)), (.ref b2), (.int (0 : Int32)), (.ref bz)] (fun t k => XS.aloadN X2.here hx rfl (hb hby d_jdk_65_120_29) rfl rfl k) ?_
  obtain ⟨cl3, Ar3, q3, S3, N3, H3, G3⟩ := id (F_1.ext E2)
  refine Goes.via (B := T2.setTop (mkF m 31 #[rv bz, iv (2 : Int32), rv mr, rv b2] [(.int (10 : Int32)), (.int (0 : Int32)), (.ref b2), (.int (0 : Int32)), (.ref bz)])) (fun t k => X2.arraylength hx (by rw [e2]; exact Ar3.1) (State.isArrayOf_alike hZ.alike Ar3.2.1) (g := (mkF m 30 #[rv bz, iv (2 : Int32), rv mr, rv b2] [(.ref bz), (.int (0 : Int32)), (.ref b2), (.int (0 : Int32)), (.ref bz)])) rfl rfl (hb hby d_jdk_65_120_30) t (by rw [(len_of S3 N3)]; exact k)) ?_
  refine Gv T2 32 [(.int (2 : Int32)), (.int (10 : Int32)), (.int (0 : Int32)), (.ref b2), (.int (0 : Int32)), (.ref bz)] (fun t k => XS.iloadN X2.here hx rfl (hb hby d_jdk_65_120_31) rfl k) ?_
  obtain ⟨_, T4, L4, X4, ⟨r4, rfl, M4, K4, p4_0⟩, st4⟩ := callStatic X2 hx hZ hown (W_ hw 169 rfl) (W_ hw 170 rfl) (W_ hw 105 rfl) (W_ hw 171 rfl) (by decide) (argsL := [(.int (10 : Int32)), (.int (2 : Int32))]) (rest := [(.int (0 : Int32)), (.ref b2), (.int (0 : Int32)), (.ref bz)]) (own_m10 l Z a0 hw [] (10 : Int32) (2 : Int32) h2 n0 (O0.ext E2) ) e2 (lenOf own_pd3 rfl) (pc := 32) (Ls := #[rv bz, iv (2 : Int32), rv mr, rv b2]) (st := [(.int (2 : Int32)), (.int (10 : Int32)), (.int (0 : Int32)), (.ref b2), (.int (0 : Int32)), (.ref bz)]) rfl (by rw [hml]; rfl) (hb hby d_jdk_65_120_32) (W := 4) (Nat.le_of_eq rfl) (by decide) (by decide) (by decide) (by decide)
  have N4 := Fr.app N0 M4
  refine Goes.via (B := T4.setTop (mkF m 35 #[rv bz, iv (2 : Int32), rv mr, rv b2] [(.int r4), (.int (0 : Int32)), (.ref b2), (.int (0 : Int32)), (.ref bz)])) (fun t k => st4 _ k) ?_
  obtain rfl : r4 = (2 : Int32) := p4_0.trans (by decide)
  obtain ⟨cz5, Az5, qz5, -⟩ := id V2
  obtain ⟨T5, h5, L5, X5, e5, N5, K5, V5, st5⟩ := cpA X4 hx hZ hown (W_ hw 172 rfl) (W_ hw 175 rfl) (W_ hw 173 rfl) (W_ hw 174 rfl) K4 (us := [(.ref pga), (.ref pgb)]) (F_1.ext E2) V2 (Or.inr ⟨rfl, rfl, ⟨Sto.ofV Az5 qz5 Ov2 (Ins.of_exa (F_3.ext E2) (W_ hw 109 rfl)), ⟨Sto.ofV Az5 qz5 Ov2 (Ins.of_exa (F_4.ext E2) (W_ hw 109 rfl)), trivial⟩⟩⟩) (by decide) (by decide) (by decide) (by decide) (by decide) rfl (by decide) N4 gn2 (g := (mkF m 35 #[rv bz, iv (2 : Int32), rv mr, rv b2] [(.int (2 : Int32)), (.int (0 : Int32)), (.ref b2), (.int (0 : Int32)), (.ref bz)])) rfl (by rw [hml]; rfl) (rest := []) rfl (hb hby d_jdk_65_120_35) (by decide) (W := 0) (by show 2 * 0 + _ ≤ _; exact Nat.le_of_eq rfl) (by decide)
  have w5 : Arv Z h5 b2 k2 (.object "java/lang/Object") (2 : Int32) [(.ref pga), (.ref pgb)] .null := V5
  refine Goes.via (B := T5.setTop (mkF m 38 #[rv bz, iv (2 : Int32), rv mr, rv b2] [])) (fun t k => st5 _ k) ?_
  refine Gv T5 39 [(.ref b2)] (fun t k => XS.aloadN X5.here hx rfl (hb hby d_jdk_65_120_38) rfl rfl k) ?_
  exact finA (Q := (own_Q25 Z bz kz pga pgb mr h0 n0)) (F := FrameEnd) (C := ((Rm 1 1 2 24)).cells) (S := ((Rm 1 1 2 24)).slots) X5 hx Bd.returns rfl rfl rfl (hb hby d_jdk_65_120_39) e5 ⟨b2, k2, rfl, N5, (((Keep.refl h0 []).ext E2).trans K5 (allS (Or.inr gs2) all0)), gs2, w5⟩ (lvN X5 hlk (by decide) (by decide))
theorem own_ef26 (m : MethodId) (x0 : Addr) (x1 : Int32)  : entryFrame m #[(.ref x0), (.int x1)] 2 = mkF m 0 #[rv x0, iv x1] [] := by first | (simp [entryFrame, mkF, argsToLocals, Value.category]; done) | rfl
abbrev own_Q26 (Z : State) (bz : Addr) (kz : ClassId) (pga : Addr) (pgb : Addr) (mr : Addr) (h0 : Heap) (n0 : Nat) (v : Option Value) (h : Heap) (L : List Loc) : Prop := ∃ r : Addr, ∃ kr : ClassId, v = some (.ref r) ∧ Fr n0 L ∧ Keep h0 h [] ∧ h0.size ≤ r ∧ Arv Z h r kr (.object "java/lang/Object") (2 : Int32) [(.ref pga), (.ref pgb)] .null
set_option maxRecDepth 65536 in
set_option maxHeartbeats 40000000 in
theorem own_m26 (l : Launch) (Z : State) (a0 : Array Value) (hw : ∀ d ∈ tables_1, d.before a0 Z = true) (ws : List Jvm.Cond) (bz : Addr) (kz : ClassId) (pga : Addr) (pgb : Addr) (mr : Addr) (h0 : Heap) (n0 : Nat) (O0 : Old Z n0 h0) (Mi : Mirr Z "[Ljava/lang/Object;" mr) (F_1 : Arv Z h0 bz kz (.object "java/lang/Object") (10 : Int32) [(.ref pga), (.ref pgb), .null, .null, .null, .null, .null, .null, .null, .null] .null) (F_2 : Exa Z h0 bz "[Ljava/lang/Object;") (F_3 : Exa Z h0 pga "com/example/wakenitz/wakenitz/measure/ScoreSheet$PageScore") (F_4 : Exa Z h0 pgb "com/example/wakenitz/wakenitz/measure/ScoreSheet$PageScore") :
    Ctr l Z (⟨"java/util/Arrays", "copyOf", "([Ljava/lang/Object;I)[Ljava/lang/Object;"⟩ : MethodName) jdk_65_method_119_code 2 (some (.array (.object "java/lang/Object"))) (Rm 2 1 2 39) #[(.ref bz), (.int (2 : Int32))] h0 (own_Q26 Z bz kz pga pgb mr h0 n0) ws := by
  refine MetFree.of_bodySF (plainFor_of_name own_pn7) hisR ?_
  intro p e s m args below meth c s₁ Bd hml0 hP hK
  obtain ⟨rfl, hZ, hh⟩ := hP
  have hx := Bd.exec
  have hby := Bd.bytes
  have hlk : meth.locks = false := Bd.notSynchronized
  have hml : c.maxLocals = 2 := hml0
  have hown : s.vm.findClass "java/util/Arrays" = some m.cls := findClass_of_methodNamed Bd.named
  have hnm := (name_of_methodNamed Bd.named Bd.method).1
  have X0 : Stand p l e (Rm 2 1 2 39) s m #[(.ref bz), (.int (2 : Int32))] below meth c s₁ [] 0 0 := Stand.of_body Bd
  have e0 : s₁.heap = h0 := by rw [← hh, Bd.state]; rfl
  have N0 := Fr.nil n0
  show Goes p.tables e below (fun t o => ∃ v L, o = .returned v ∧ (own_Q26 Z bz kz pga pgb mr h0 n0) v t.heap L ∧ FrameEnd s o t L ((Rm 2 1 2 39)).cells ((Rm 2 1 2 39)).slots) _
  refine Goes.via (B := s₁.setTop (mkF m 0 #[rv bz, iv (2 : Int32)] [])) (fun t k => castTop (own_ef26 m bz (2 : Int32)) k) ?_
  refine Gv s₁ 1 [(.ref bz)] (fun t k => XS.aloadN X0.here hx rfl (hb hby d_jdk_65_119_0) rfl rfl k) ?_
  refine Gv s₁ 2 [(.int (2 : Int32)), (.ref bz)] (fun t k => XS.iloadN X0.here hx rfl (hb hby d_jdk_65_119_1) rfl k) ?_
  refine Gv s₁ 3 [(.ref bz), (.int (2 : Int32)), (.ref bz)] (fun t k => XS.aloadN X0.here hx rfl (hb hby d_jdk_65_119_2) rfl rfl k) ?_
  obtain ⟨T1, X1, e1, st1⟩ := gclsS X0 hx hZ hown (W_ hw 158 rfl) (W_ hw 159 rfl) (W_ hw 161 rfl) (W_ hw 160 rfl) (W_ hw 162 rfl) e0 F_2 Mi (g := (mkF m 3 #[rv bz, iv (2 : Int32)] [(.ref bz), (.int (2 : Int32)), (.ref bz)])) rfl (by rw [hml]; rfl) rfl (hb hby d_jdk_65_119_3) (by decide) (W := 2) (by show 2 * 0 + _ ≤ _; exact Nat.le_of_eq rfl) (by decide)
  refine Goes.via (B := T1.setTop (mkF m 6 #[rv bz, iv (2 : Int32)] [(.ref mr), (.int (2 : Int32)), (.ref bz)])) (fun t k => st1 _ k) ?_
  obtain ⟨_, T2, L2, X2, ⟨r2, kr2, rfl, M2, K2, z2_0, f2_0⟩, st2⟩ := callStatic X1 hx hZ hown (W_ hw 164 rfl) (W_ hw 165 rfl) (W_ hw 156 rfl) (W_ hw 166 rfl) (by decide) (argsL := [(.ref bz), (.int (2 : Int32)), (.ref mr)]) (rest := []) (own_m25 l Z a0 hw [] bz kz pga pgb mr h0 n0 O0 Mi F_1 F_2 F_3 F_4) e1 (lenOf own_pd7 rfl) (pc := 6) (Ls := #[rv bz, iv (2 : Int32)]) (st := [(.ref mr), (.int (2 : Int32)), (.ref bz)]) rfl (by rw [hml]; rfl) (hb hby d_jdk_65_119_6) (W := 0) (Nat.le_of_eq rfl) (by decide) (by decide) (by decide) (by decide)
  have N2 := Fr.app N0 M2
  have gn2_0 : n0 ≤ r2 := Nat.le_trans (old_le O0) z2_0
  have gs2_0 : h0.size ≤ r2 := Nat.le_trans (Keep.refl h0 []).1 z2_0
  refine Goes.via (B := T2.setTop (mkF m 9 #[rv bz, iv (2 : Int32)] [(.ref r2)])) (fun t k => st2 _ k) ?_
  exact finA (Q := (own_Q26 Z bz kz pga pgb mr h0 n0)) (F := FrameEnd) (C := ((Rm 2 1 2 39)).cells) (S := ((Rm 2 1 2 39)).slots) X2 hx Bd.returns rfl rfl rfl (hb hby d_jdk_65_119_9) rfl ⟨r2, kr2, rfl, N2, ((Keep.refl h0 []).trans K2 all0), gs2_0, f2_0⟩ (lvN X2 hlk (by decide) (by decide))
theorem own_ef27 (m : MethodId) (x0 : Addr)  : entryFrame m #[(.ref x0)] 1 = mkF m 0 #[rv x0] [] := by first | (simp [entryFrame, mkF, argsToLocals, Value.category]; done) | rfl
abbrev own_Q27 (Z : State) (a1 : Addr) (bz : Addr) (kz : ClassId) (pga : Addr) (pgb : Addr) (mr : Addr) (h0 : Heap) (n0 : Nat) (v : Option Value) (h : Heap) (L : List Loc) : Prop := ∃ r : Addr, ∃ kr : ClassId, v = some (.ref r) ∧ Fr n0 L ∧ Keep h0 h [] ∧ h0.size ≤ r ∧ Arv Z h r kr (.object "java/lang/Object") (2 : Int32) [(.ref pga), (.ref pgb)] .null
set_option maxRecDepth 65536 in
set_option maxHeartbeats 40000000 in
theorem own_m27 (l : Launch) (Z : State) (a0 : Array Value) (hw : ∀ d ∈ tables_1, d.before a0 Z = true) (ws : List Jvm.Cond) (a1 : Addr) (bz : Addr) (kz : ClassId) (pga : Addr) (pgb : Addr) (mr : Addr) (h0 : Heap) (n0 : Nat) (O0 : Old Z n0 h0) (Mi : Mirr Z "[Ljava/lang/Object;" mr) (F_1 : Exa Z h0 a1 "java/util/ArrayList") (F_2 : Fld Z h0 a1 "java/util/ArrayList" "elementData" "[Ljava/lang/Object;" (.ref bz)) (F_3 : Fld Z h0 a1 "java/util/ArrayList" "size" "I" (.int (2 : Int32))) (F_4 : Arv Z h0 bz kz (.object "java/lang/Object") (10 : Int32) [(.ref pga), (.ref pgb), .null, .null, .null, .null, .null, .null, .null, .null] .null) (F_5 : Exa Z h0 bz "[Ljava/lang/Object;") (F_6 : Exa Z h0 pga "com/example/wakenitz/wakenitz/measure/ScoreSheet$PageScore") (F_7 : Exa Z h0 pgb "com/example/wakenitz/wakenitz/measure/ScoreSheet$PageScore") :
    Ctr l Z (⟨"java/util/ArrayList", "toArray", "()[Ljava/lang/Object;"⟩ : MethodName) jdk_38_method_16_code 1 (some (.array (.object "java/lang/Object"))) (Rm 3 1 2 52) #[(.ref a1)] h0 (own_Q27 Z a1 bz kz pga pgb mr h0 n0) ws := by
  refine MetFree.of_bodySF (plainFor_of_name own_pn6) hisR ?_
  intro p e s m args below meth c s₁ Bd hml0 hP hK
  obtain ⟨rfl, hZ, hh⟩ := hP
  have hx := Bd.exec
  have hby := Bd.bytes
  have hlk : meth.locks = false := Bd.notSynchronized
  have hml : c.maxLocals = 1 := hml0
  have hown : s.vm.findClass "java/util/ArrayList" = some m.cls := findClass_of_methodNamed Bd.named
  have hnm := (name_of_methodNamed Bd.named Bd.method).1
  have X0 : Stand p l e (Rm 3 1 2 52) s m #[(.ref a1)] below meth c s₁ [] 0 0 := Stand.of_body Bd
  have e0 : s₁.heap = h0 := by rw [← hh, Bd.state]; rfl
  have N0 := Fr.nil n0
  show Goes p.tables e below (fun t o => ∃ v L, o = .returned v ∧ (own_Q27 Z a1 bz kz pga pgb mr h0 n0) v t.heap L ∧ FrameEnd s o t L ((Rm 3 1 2 52)).cells ((Rm 3 1 2 52)).slots) _
  refine Goes.via (B := s₁.setTop (mkF m 0 #[rv a1] [])) (fun t k => castTop (own_ef27 m a1) k) ?_
  refine Gv s₁ 1 [(.ref a1)] (fun t k => XS.aloadN X0.here hx rfl (hb hby d_jdk_38_16_0) rfl rfl k) ?_
  obtain ⟨T1, X1, e1, st1⟩ := getF X0 hx hZ hown (host := "") (Or.inl (W_ hw 25 rfl)) Via.refl e0 F_2 (g := (mkF m 1 #[rv a1] [(.ref a1)])) rfl rfl (hb hby d_jdk_38_16_1)
  refine Goes.via (B := T1.setTop (mkF m 4 #[rv a1] [(.ref bz)])) (fun t k => st1 _ k) ?_
  refine Gv T1 5 [(.ref a1), (.ref bz)] (fun t k => XS.aloadN X1.here hx rfl (hb hby d_jdk_38_16_4) rfl rfl k) ?_
  obtain ⟨T2, X2, e2, st2⟩ := getF X1 hx hZ hown (host := "") (Or.inl (W_ hw 86 rfl)) Via.refl e1 F_3 (g := (mkF m 5 #[rv a1] [(.ref a1), (.ref bz)])) rfl rfl (hb hby d_jdk_38_16_5)
  refine Goes.via (B := T2.setTop (mkF m 8 #[rv a1] [(.int (2 : Int32)), (.ref bz)])) (fun t k => st2 _ k) ?_
  obtain ⟨_, T3, L3, X3, ⟨r3, kr3, rfl, M3, K3, z3_0, f3_0⟩, st3⟩ := callStatic X2 hx hZ hown (W_ hw 154 rfl) (W_ hw 155 rfl) (W_ hw 156 rfl) (W_ hw 157 rfl) (by decide) (argsL := [(.ref bz), (.int (2 : Int32))]) (rest := []) (own_m26 l Z a0 hw [] bz kz pga pgb mr h0 n0 O0 Mi F_4 F_5 F_6 F_7) e2 (lenOf own_pd8 rfl) (pc := 8) (Ls := #[rv a1]) (st := [(.int (2 : Int32)), (.ref bz)]) rfl (by rw [hml]; rfl) (hb hby d_jdk_38_16_8) (W := 0) (Nat.le_of_eq rfl) (by decide) (by decide) (by decide) (by decide)
  have N3 := Fr.app N0 M3
  have gn3_0 : n0 ≤ r3 := Nat.le_trans (old_le O0) z3_0
  have gs3_0 : h0.size ≤ r3 := Nat.le_trans (Keep.refl h0 []).1 z3_0
  refine Goes.via (B := T3.setTop (mkF m 11 #[rv a1] [(.ref r3)])) (fun t k => st3 _ k) ?_
  exact finA (Q := (own_Q27 Z a1 bz kz pga pgb mr h0 n0)) (F := FrameEnd) (C := ((Rm 3 1 2 52)).cells) (S := ((Rm 3 1 2 52)).slots) X3 hx Bd.returns rfl rfl rfl (hb hby d_jdk_38_16_11) rfl ⟨r3, kr3, rfl, N3, ((Keep.refl h0 []).trans K3 all0), gs3_0, f3_0⟩ (lvN X3 hlk (by decide) (by decide))
theorem own_ef28 (m : MethodId) (x0 : Addr) (x1 : Int32) (x2 : Addr)  : entryFrame m #[(.ref x0), (.int x1), (.ref x2)] 4 = mkF m 0 #[rv x0, iv x1, rv x2, u_] [] := by first | (simp [entryFrame, mkF, argsToLocals, Value.category]; done) | rfl
abbrev own_Q28 (Z : State) (bz : Addr) (kz : ClassId) (pga : Addr) (pgb : Addr) (pgc : Addr) (mr : Addr) (h0 : Heap) (n0 : Nat) (v : Option Value) (h : Heap) (L : List Loc) : Prop := ∃ r : Addr, ∃ kr : ClassId, v = some (.ref r) ∧ Fr n0 L ∧ Keep h0 h [] ∧ h0.size ≤ r ∧ Arv Z h r kr (.object "java/lang/Object") (3 : Int32) [(.ref pga), (.ref pgb), (.ref pgc)] .null
set_option maxRecDepth 65536 in
set_option maxHeartbeats 40000000 in
theorem own_m28 (l : Launch) (Z : State) (a0 : Array Value) (hw : ∀ d ∈ tables_1, d.before a0 Z = true) (ws : List Jvm.Cond) (bz : Addr) (kz : ClassId) (pga : Addr) (pgb : Addr) (pgc : Addr) (mr : Addr) (h0 : Heap) (n0 : Nat) (O0 : Old Z n0 h0) (Mi : Mirr Z "[Ljava/lang/Object;" mr) (F_1 : Arv Z h0 bz kz (.object "java/lang/Object") (10 : Int32) [(.ref pga), (.ref pgb), (.ref pgc), .null, .null, .null, .null, .null, .null, .null] .null) (F_2 : Exa Z h0 bz "[Ljava/lang/Object;") (F_3 : Exa Z h0 pga "com/example/wakenitz/wakenitz/measure/ScoreSheet$PageScore") (F_4 : Exa Z h0 pgb "com/example/wakenitz/wakenitz/measure/ScoreSheet$PageScore") (F_5 : Exa Z h0 pgc "com/example/wakenitz/wakenitz/measure/ScoreSheet$PageScore") :
    Ctr l Z (⟨"java/util/Arrays", "copyOf", "([Ljava/lang/Object;ILjava/lang/Class;)[Ljava/lang/Object;"⟩ : MethodName) jdk_65_method_120_code 4 (some (.array (.object "java/lang/Object"))) (Rm 1 1 3 24) #[(.ref bz), (.int (3 : Int32)), (.ref mr)] h0 (own_Q28 Z bz kz pga pgb pgc mr h0 n0) ws := by
  refine MetFree.of_bodySF (plainFor_of_name own_pn7) hisR ?_
  intro p e s m args below meth c s₁ Bd hml0 hP hK
  obtain ⟨rfl, hZ, hh⟩ := hP
  have hx := Bd.exec
  have hby := Bd.bytes
  have hlk : meth.locks = false := Bd.notSynchronized
  have hml : c.maxLocals = 4 := hml0
  have hown : s.vm.findClass "java/util/Arrays" = some m.cls := findClass_of_methodNamed Bd.named
  have hnm := (name_of_methodNamed Bd.named Bd.method).1
  have X0 : Stand p l e (Rm 1 1 3 24) s m #[(.ref bz), (.int (3 : Int32)), (.ref mr)] below meth c s₁ [] 0 0 := Stand.of_body Bd
  have e0 : s₁.heap = h0 := by rw [← hh, Bd.state]; rfl
  have N0 := Fr.nil n0
  show Goes p.tables e below (fun t o => ∃ v L, o = .returned v ∧ (own_Q28 Z bz kz pga pgb pgc mr h0 n0) v t.heap L ∧ FrameEnd s o t L ((Rm 1 1 3 24)).cells ((Rm 1 1 3 24)).slots) _
  refine Goes.via (B := s₁.setTop (mkF m 0 #[rv bz, iv (3 : Int32), rv mr, u_] [])) (fun t k => castTop (own_ef28 m bz (3 : Int32) mr) k) ?_
  refine Gv s₁ 1 [(.ref mr)] (fun t k => XS.aloadN X0.here hx rfl (hb hby d_jdk_65_120_0) rfl rfl k) ?_
  obtain ⟨T1, X1, e1, st1⟩ := ldcM X0 hx hZ hown (W_ hw 167 rfl) e0 Mi (g := (mkF m 1 #[rv bz, iv (3 : Int32), rv mr, u_] [(.ref mr)])) rfl (hb hby d_jdk_65_120_1)
  refine Goes.via (B := T1.setTop (mkF m 3 #[rv bz, iv (3 : Int32), rv mr, u_] [(.ref mr), (.ref mr)])) (fun t k => st1 _ k) ?_
  refine Gv T1 6 [] (fun t k => XT.acmpNo X1.here hx rfl (hb hby d_jdk_65_120_3) rfl rfl rfl (XT.aa_ne_f rfl) k) ?_
  refine Gv T1 7 [(.int (3 : Int32))] (fun t k => XS.iloadN X1.here hx rfl (hb hby d_jdk_65_120_6) rfl k) ?_
  obtain ⟨T2, h2, k2, X2, e2, E2, A2, Ov2, st2⟩ := newR X1 hx hZ hown (W_ hw 168 rfl) (W_ hw 108 rfl) e1 (g := (mkF m 7 #[rv bz, iv (3 : Int32), rv mr, u_] [(.int (3 : Int32))])) rfl (hb hby d_jdk_65_120_7) rfl (by decide) (cap := 3) (by decide) (by decide) (by decide) (by decide)
  obtain ⟨b2, g2⟩ : ∃ z, z = h0.size := ⟨_, rfl⟩
  rw [← g2] at A2 st2
  have gn2 : n0 ≤ b2 := Nat.le_trans (old_le O0) (Nat.le_of_eq g2.symm)
  have gs2 : h0.size ≤ b2 := Nat.le_trans (Keep.refl h0 []).1 (Nat.le_of_eq g2.symm)
  have V2 : Arv Z h2 b2 k2 (.object "java/lang/Object") (3 : Int32) [.null, .null, .null] .null := (Arv.new A2 (by decide)).pad (pad_rep [] .null 3)
  refine Goes.via (B := T2.setTop (mkF m 10 #[rv bz, iv (3 : Int32), rv mr, u_] [(.ref b2)])) (fun t k => st2 _ k) ?_
  refine Gv T2 24 [(.ref b2)] (fun t k => XS.goto X2.here hx rfl (pc0 := 10) (pc' := 24) rfl (hb hby d_jdk_65_120_10) (by decide) (by decide) k) ?_
  refine Gv T2 25 [] (fun t k => XS.astoreN X2.here hx rfl (hb hby d_jdk_65_120_24) rfl rfl (l' := #[rv bz, iv (3 : Int32), rv mr, rv b2]) rfl k) ?_
  refine Gv T2 26 [(.ref bz)] (fun t k => XS.aloadN X2.here hx rfl (hb hby d_jdk_65_120_25) rfl rfl k) ?_
  refine Gv T2 27 [(.int (0 : Int32)), (.ref bz)] (fun t k => XS.iconst X2.here hx rfl (hb hby d_jdk_65_120_26) k) ?_
  refine Gv T2 28 [(.ref b2), (.int (0 : Int32)), (.ref bz)] (fun t k => XS.aloadN X2.here hx rfl (hb hby d_jdk_65_120_27) rfl rfl k) ?_
  refine Gv T2 29 [(.int (0 : Int32)), (.ref b2), (.int (0 : Int32)), (.ref bz)] (fun t k => XS.iconst X2.here hx rfl (hb hby d_jdk_65_120_28) k) ?_
  refine Gv T2 30 [(.ref bz), (.int (0 : Int32)), (.ref b2), (.int (0 : Int32)), (.ref bz)] (fun t k => XS.aloadN X2.here hx rfl (hb hby d_jdk_65_120_29) rfl rfl k) ?_
  obtain ⟨cl3, Ar3, q3, S3, N3, H3, G3⟩ := id (F_1.ext E2)
  refine Goes.via (B := T2.setTop (mkF m 31 #[rv bz, iv (3 : Int32), rv mr, rv b2] [(.int (10 : Int32)), (.int (0 : Int32)), (.ref b2), (.int (0 : Int32)), (.ref bz)])) (fun t k => X2.arraylength hx (by rw [e2]; exact Ar3.1) (State.isArrayOf_alike hZ.alike Ar3.2.1) (g := (mkF m 30 #[rv bz, iv (3 : Int32), rv mr, rv b2] [(.ref bz), (.int (0 : Int32)), (.ref b2), (.int (0 : Int32)), (.ref bz)])) rfl rfl (hb hby d_jdk_65_120_30) t (by rw [(len_of S3 N3)]; exact k)) ?_
  refine Gv T2 32 [(.int (3 : Int32)), (.int (10 : Int32)), (.int (0 : Int32)), (.ref b2), (.int (0 : Int32)), (.ref bz)] (fun t k => XS.iloadN X2.here hx rfl (hb hby d_jdk_65_120_31) rfl k) ?_
  obtain ⟨_, T4, L4, X4, ⟨r4, rfl, M4, K4, p4_0⟩, st4⟩ := callStatic X2 hx hZ hown (W_ hw 169 rfl) (W_ hw 170 rfl) (W_ hw 105 rfl) (W_ hw 171 rfl) (by decide) (argsL := [(.int (10 : Int32)), (.int (3 : Int32))]) (rest := [(.int (0 : Int32)), (.ref b2), (.int (0 : Int32)), (.ref bz)]) (own_m10 l Z a0 hw [] (10 : Int32) (3 : Int32) h2 n0 (O0.ext E2) ) e2 (lenOf own_pd3 rfl) (pc := 32) (Ls := #[rv bz, iv (3 : Int32), rv mr, rv b2]) (st := [(.int (3 : Int32)), (.int (10 : Int32)), (.int (0 : Int32)), (.ref b2), (.int (0 : Int32)), (.ref bz)]) rfl (by rw [hml]; rfl) (hb hby d_jdk_65_120_32) (W := 4) (Nat.le_of_eq rfl) (by decide) (by decide) (by decide) (by decide)
  have N4 := Fr.app N0 M4
  refine Goes.via (B := T4.setTop (mkF m 35 #[rv bz, iv (3 : Int32), rv mr, rv b2] [(.int r4), (.int (0 : Int32)), (.ref b2), (.int (0 : Int32)), (.ref bz)])) (fun t k => st4 _ k) ?_
  obtain rfl : r4 = (3 : Int32) := p4_0.trans (by decide)
  obtain ⟨cz5, Az5, qz5, -⟩ := id V2
  obtain ⟨T5, h5, L5, X5, e5, N5, K5, V5, st5⟩ := cpA X4 hx hZ hown (W_ hw 172 rfl) (W_ hw 175 rfl) (W_ hw 173 rfl) (W_ hw 174 rfl) K4 (us := [(.ref pga), (.ref pgb), (.ref pgc)]) (F_1.ext E2) V2 (Or.inr ⟨rfl, rfl, ⟨Sto.ofV Az5 qz5 Ov2 (Ins.of_exa (F_3.ext E2) (W_ hw 109 rfl)), ⟨Sto.ofV Az5 qz5 Ov2 (Ins.of_exa (F_4.ext E2) (W_ hw 109 rfl)), ⟨Sto.ofV Az5 qz5 Ov2 (Ins.of_exa (F_5.ext E2) (W_ hw 109 rfl)), trivial⟩⟩⟩⟩) (by decide) (by decide) (by decide) (by decide) (by decide) rfl (by decide) N4 gn2 (g := (mkF m 35 #[rv bz, iv (3 : Int32), rv mr, rv b2] [(.int (3 : Int32)), (.int (0 : Int32)), (.ref b2), (.int (0 : Int32)), (.ref bz)])) rfl (by rw [hml]; rfl) (rest := []) rfl (hb hby d_jdk_65_120_35) (by decide) (W := 0) (by show 2 * 0 + _ ≤ _; exact Nat.le_of_eq rfl) (by decide)
  have w5 : Arv Z h5 b2 k2 (.object "java/lang/Object") (3 : Int32) [(.ref pga), (.ref pgb), (.ref pgc)] .null := V5
  refine Goes.via (B := T5.setTop (mkF m 38 #[rv bz, iv (3 : Int32), rv mr, rv b2] [])) (fun t k => st5 _ k) ?_
  refine Gv T5 39 [(.ref b2)] (fun t k => XS.aloadN X5.here hx rfl (hb hby d_jdk_65_120_38) rfl rfl k) ?_
  exact finA (Q := (own_Q28 Z bz kz pga pgb pgc mr h0 n0)) (F := FrameEnd) (C := ((Rm 1 1 3 24)).cells) (S := ((Rm 1 1 3 24)).slots) X5 hx Bd.returns rfl rfl rfl (hb hby d_jdk_65_120_39) e5 ⟨b2, k2, rfl, N5, (((Keep.refl h0 []).ext E2).trans K5 (allS (Or.inr gs2) all0)), gs2, w5⟩ (lvN X5 hlk (by decide) (by decide))
theorem own_ef29 (m : MethodId) (x0 : Addr) (x1 : Int32)  : entryFrame m #[(.ref x0), (.int x1)] 2 = mkF m 0 #[rv x0, iv x1] [] := by first | (simp [entryFrame, mkF, argsToLocals, Value.category]; done) | rfl
abbrev own_Q29 (Z : State) (bz : Addr) (kz : ClassId) (pga : Addr) (pgb : Addr) (pgc : Addr) (mr : Addr) (h0 : Heap) (n0 : Nat) (v : Option Value) (h : Heap) (L : List Loc) : Prop := ∃ r : Addr, ∃ kr : ClassId, v = some (.ref r) ∧ Fr n0 L ∧ Keep h0 h [] ∧ h0.size ≤ r ∧ Arv Z h r kr (.object "java/lang/Object") (3 : Int32) [(.ref pga), (.ref pgb), (.ref pgc)] .null
set_option maxRecDepth 65536 in
set_option maxHeartbeats 40000000 in
theorem own_m29 (l : Launch) (Z : State) (a0 : Array Value) (hw : ∀ d ∈ tables_1, d.before a0 Z = true) (ws : List Jvm.Cond) (bz : Addr) (kz : ClassId) (pga : Addr) (pgb : Addr) (pgc : Addr) (mr : Addr) (h0 : Heap) (n0 : Nat) (O0 : Old Z n0 h0) (Mi : Mirr Z "[Ljava/lang/Object;" mr) (F_1 : Arv Z h0 bz kz (.object "java/lang/Object") (10 : Int32) [(.ref pga), (.ref pgb), (.ref pgc), .null, .null, .null, .null, .null, .null, .null] .null) (F_2 : Exa Z h0 bz "[Ljava/lang/Object;") (F_3 : Exa Z h0 pga "com/example/wakenitz/wakenitz/measure/ScoreSheet$PageScore") (F_4 : Exa Z h0 pgb "com/example/wakenitz/wakenitz/measure/ScoreSheet$PageScore") (F_5 : Exa Z h0 pgc "com/example/wakenitz/wakenitz/measure/ScoreSheet$PageScore") :
    Ctr l Z (⟨"java/util/Arrays", "copyOf", "([Ljava/lang/Object;I)[Ljava/lang/Object;"⟩ : MethodName) jdk_65_method_119_code 2 (some (.array (.object "java/lang/Object"))) (Rm 2 1 3 39) #[(.ref bz), (.int (3 : Int32))] h0 (own_Q29 Z bz kz pga pgb pgc mr h0 n0) ws := by
  refine MetFree.of_bodySF (plainFor_of_name own_pn7) hisR ?_
  intro p e s m args below meth c s₁ Bd hml0 hP hK
  obtain ⟨rfl, hZ, hh⟩ := hP
  have hx := Bd.exec
  have hby := Bd.bytes
  have hlk : meth.locks = false := Bd.notSynchronized
  have hml : c.maxLocals = 2 := hml0
  have hown : s.vm.findClass "java/util/Arrays" = some m.cls := findClass_of_methodNamed Bd.named
  have hnm := (name_of_methodNamed Bd.named Bd.method).1
  have X0 : Stand p l e (Rm 2 1 3 39) s m #[(.ref bz), (.int (3 : Int32))] below meth c s₁ [] 0 0 := Stand.of_body Bd
  have e0 : s₁.heap = h0 := by rw [← hh, Bd.state]; rfl
  have N0 := Fr.nil n0
  show Goes p.tables e below (fun t o => ∃ v L, o = .returned v ∧ (own_Q29 Z bz kz pga pgb pgc mr h0 n0) v t.heap L ∧ FrameEnd s o t L ((Rm 2 1 3 39)).cells ((Rm 2 1 3 39)).slots) _
  refine Goes.via (B := s₁.setTop (mkF m 0 #[rv bz, iv (3 : Int32)] [])) (fun t k => castTop (own_ef29 m bz (3 : Int32)) k) ?_
  refine Gv s₁ 1 [(.ref bz)] (fun t k => XS.aloadN X0.here hx rfl (hb hby d_jdk_65_119_0) rfl rfl k) ?_
  refine Gv s₁ 2 [(.int (3 : Int32)), (.ref bz)] (fun t k => XS.iloadN X0.here hx rfl (hb hby d_jdk_65_119_1) rfl k) ?_
  refine Gv s₁ 3 [(.ref bz), (.int (3 : Int32)), (.ref bz)] (fun t k => XS.aloadN X0.here hx rfl (hb hby d_jdk_65_119_2) rfl rfl k) ?_
  obtain ⟨T1, X1, e1, st1⟩ := gclsS X0 hx hZ hown (W_ hw 158 rfl) (W_ hw 159 rfl) (W_ hw 161 rfl) (W_ hw 160 rfl) (W_ hw 162 rfl) e0 F_2 Mi (g := (mkF m 3 #[rv bz, iv (3 : Int32)] [(.ref bz), (.int (3 : Int32)), (.ref bz)])) rfl (by rw [hml]; rfl) rfl (hb hby d_jdk_65_119_3) (by decide) (W := 2) (by show 2 * 0 + _ ≤ _; exact Nat.le_of_eq rfl) (by decide)
  refine Goes.via (B := T1.setTop (mkF m 6 #[rv bz, iv (3 : Int32)] [(.ref mr), (.int (3 : Int32)), (.ref bz)])) (fun t k => st1 _ k) ?_
  obtain ⟨_, T2, L2, X2, ⟨r2, kr2, rfl, M2, K2, z2_0, f2_0⟩, st2⟩ := callStatic X1 hx hZ hown (W_ hw 164 rfl) (W_ hw 165 rfl) (W_ hw 156 rfl) (W_ hw 166 rfl) (by decide) (argsL := [(.ref bz), (.int (3 : Int32)), (.ref mr)]) (rest := []) (own_m28 l Z a0 hw [] bz kz pga pgb pgc mr h0 n0 O0 Mi F_1 F_2 F_3 F_4 F_5) e1 (lenOf own_pd7 rfl) (pc := 6) (Ls := #[rv bz, iv (3 : Int32)]) (st := [(.ref mr), (.int (3 : Int32)), (.ref bz)]) rfl (by rw [hml]; rfl) (hb hby d_jdk_65_119_6) (W := 0) (Nat.le_of_eq rfl) (by decide) (by decide) (by decide) (by decide)
  have N2 := Fr.app N0 M2
  have gn2_0 : n0 ≤ r2 := Nat.le_trans (old_le O0) z2_0
  have gs2_0 : h0.size ≤ r2 := Nat.le_trans (Keep.refl h0 []).1 z2_0
  refine Goes.via (B := T2.setTop (mkF m 9 #[rv bz, iv (3 : Int32)] [(.ref r2)])) (fun t k => st2 _ k) ?_
  exact finA (Q := (own_Q29 Z bz kz pga pgb pgc mr h0 n0)) (F := FrameEnd) (C := ((Rm 2 1 3 39)).cells) (S := ((Rm 2 1 3 39)).slots) X2 hx Bd.returns rfl rfl rfl (hb hby d_jdk_65_119_9) rfl ⟨r2, kr2, rfl, N2, ((Keep.refl h0 []).trans K2 all0), gs2_0, f2_0⟩ (lvN X2 hlk (by decide) (by decide))
theorem own_ef30 (m : MethodId) (x0 : Addr)  : entryFrame m #[(.ref x0)] 1 = mkF m 0 #[rv x0] [] := by first | (simp [entryFrame, mkF, argsToLocals, Value.category]; done) | rfl
abbrev own_Q30 (Z : State) (a1 : Addr) (bz : Addr) (kz : ClassId) (pga : Addr) (pgb : Addr) (pgc : Addr) (mr : Addr) (h0 : Heap) (n0 : Nat) (v : Option Value) (h : Heap) (L : List Loc) : Prop := ∃ r : Addr, ∃ kr : ClassId, v = some (.ref r) ∧ Fr n0 L ∧ Keep h0 h [] ∧ h0.size ≤ r ∧ Arv Z h r kr (.object "java/lang/Object") (3 : Int32) [(.ref pga), (.ref pgb), (.ref pgc)] .null
set_option maxRecDepth 65536 in
set_option maxHeartbeats 40000000 in
theorem own_m30 (l : Launch) (Z : State) (a0 : Array Value) (hw : ∀ d ∈ tables_1, d.before a0 Z = true) (ws : List Jvm.Cond) (a1 : Addr) (bz : Addr) (kz : ClassId) (pga : Addr) (pgb : Addr) (pgc : Addr) (mr : Addr) (h0 : Heap) (n0 : Nat) (O0 : Old Z n0 h0) (Mi : Mirr Z "[Ljava/lang/Object;" mr) (F_1 : Exa Z h0 a1 "java/util/ArrayList") (F_2 : Fld Z h0 a1 "java/util/ArrayList" "elementData" "[Ljava/lang/Object;" (.ref bz)) (F_3 : Fld Z h0 a1 "java/util/ArrayList" "size" "I" (.int (3 : Int32))) (F_4 : Arv Z h0 bz kz (.object "java/lang/Object") (10 : Int32) [(.ref pga), (.ref pgb), (.ref pgc), .null, .null, .null, .null, .null, .null, .null] .null) (F_5 : Exa Z h0 bz "[Ljava/lang/Object;") (F_6 : Exa Z h0 pga "com/example/wakenitz/wakenitz/measure/ScoreSheet$PageScore") (F_7 : Exa Z h0 pgb "com/example/wakenitz/wakenitz/measure/ScoreSheet$PageScore") (F_8 : Exa Z h0 pgc "com/example/wakenitz/wakenitz/measure/ScoreSheet$PageScore") :
    Ctr l Z (⟨"java/util/ArrayList", "toArray", "()[Ljava/lang/Object;"⟩ : MethodName) jdk_38_method_16_code 1 (some (.array (.object "java/lang/Object"))) (Rm 3 1 3 52) #[(.ref a1)] h0 (own_Q30 Z a1 bz kz pga pgb pgc mr h0 n0) ws := by
  refine MetFree.of_bodySF (plainFor_of_name own_pn6) hisR ?_
  intro p e s m args below meth c s₁ Bd hml0 hP hK
  obtain ⟨rfl, hZ, hh⟩ := hP
  have hx := Bd.exec
  have hby := Bd.bytes
  have hlk : meth.locks = false := Bd.notSynchronized
  have hml : c.maxLocals = 1 := hml0
  have hown : s.vm.findClass "java/util/ArrayList" = some m.cls := findClass_of_methodNamed Bd.named
  have hnm := (name_of_methodNamed Bd.named Bd.method).1
  have X0 : Stand p l e (Rm 3 1 3 52) s m #[(.ref a1)] below meth c s₁ [] 0 0 := Stand.of_body Bd
  have e0 : s₁.heap = h0 := by rw [← hh, Bd.state]; rfl
  have N0 := Fr.nil n0
  show Goes p.tables e below (fun t o => ∃ v L, o = .returned v ∧ (own_Q30 Z a1 bz kz pga pgb pgc mr h0 n0) v t.heap L ∧ FrameEnd s o t L ((Rm 3 1 3 52)).cells ((Rm 3 1 3 52)).slots) _
  refine Goes.via (B := s₁.setTop (mkF m 0 #[rv a1] [])) (fun t k => castTop (own_ef30 m a1) k) ?_
  refine Gv s₁ 1 [(.ref a1)] (fun t k => XS.aloadN X0.here hx rfl (hb hby d_jdk_38_16_0) rfl rfl k) ?_
  obtain ⟨T1, X1, e1, st1⟩ := getF X0 hx hZ hown (host := "") (Or.inl (W_ hw 25 rfl)) Via.refl e0 F_2 (g := (mkF m 1 #[rv a1] [(.ref a1)])) rfl rfl (hb hby d_jdk_38_16_1)
  refine Goes.via (B := T1.setTop (mkF m 4 #[rv a1] [(.ref bz)])) (fun t k => st1 _ k) ?_
  refine Gv T1 5 [(.ref a1), (.ref bz)] (fun t k => XS.aloadN X1.here hx rfl (hb hby d_jdk_38_16_4) rfl rfl k) ?_
  obtain ⟨T2, X2, e2, st2⟩ := getF X1 hx hZ hown (host := "") (Or.inl (W_ hw 86 rfl)) Via.refl e1 F_3 (g := (mkF m 5 #[rv a1] [(.ref a1), (.ref bz)])) rfl rfl (hb hby d_jdk_38_16_5)
  refine Goes.via (B := T2.setTop (mkF m 8 #[rv a1] [(.int (3 : Int32)), (.ref bz)])) (fun t k => st2 _ k) ?_
  obtain ⟨_, T3, L3, X3, ⟨r3, kr3, rfl, M3, K3, z3_0, f3_0⟩, st3⟩ := callStatic X2 hx hZ hown (W_ hw 154 rfl) (W_ hw 155 rfl) (W_ hw 156 rfl) (W_ hw 157 rfl) (by decide) (argsL := [(.ref bz), (.int (3 : Int32))]) (rest := []) (own_m29 l Z a0 hw [] bz kz pga pgb pgc mr h0 n0 O0 Mi F_4 F_5 F_6 F_7 F_8) e2 (lenOf own_pd8 rfl) (pc := 8) (Ls := #[rv a1]) (st := [(.int (3 : Int32)), (.ref bz)]) rfl (by rw [hml]; rfl) (hb hby d_jdk_38_16_8) (W := 0) (Nat.le_of_eq rfl) (by decide) (by decide) (by decide) (by decide)
  have N3 := Fr.app N0 M3
  have gn3_0 : n0 ≤ r3 := Nat.le_trans (old_le O0) z3_0
  have gs3_0 : h0.size ≤ r3 := Nat.le_trans (Keep.refl h0 []).1 z3_0
  refine Goes.via (B := T3.setTop (mkF m 11 #[rv a1] [(.ref r3)])) (fun t k => st3 _ k) ?_
  exact finA (Q := (own_Q30 Z a1 bz kz pga pgb pgc mr h0 n0)) (F := FrameEnd) (C := ((Rm 3 1 3 52)).cells) (S := ((Rm 3 1 3 52)).slots) X3 hx Bd.returns rfl rfl rfl (hb hby d_jdk_38_16_11) rfl ⟨r3, kr3, rfl, N3, ((Keep.refl h0 []).trans K3 all0), gs3_0, f3_0⟩ (lvN X3 hlk (by decide) (by decide))
theorem own_pn8 : plainName "java/util/Objects" = true := by first | (simp [plainName, overriddenIn]; done) | decide +kernel
theorem d_jdk_31_10_0 : decode jdk_31_method_10_code 0 = .ok (.aload_n 0, 1) := by decide +kernel
theorem d_jdk_31_10_1 : decode jdk_31_method_10_code 1 = .ok (.ifnonnull 11, 3) := by decide +kernel
theorem d_jdk_31_10_12 : decode jdk_31_method_10_code 12 = .ok (.aload_n 0, 1) := by decide +kernel
theorem d_jdk_31_10_13 : decode jdk_31_method_10_code 13 = .ok (.areturn, 1) := by decide +kernel
theorem own_ef31 (m : MethodId) (x0 : Addr)  : entryFrame m #[(.ref x0)] 1 = mkF m 0 #[rv x0] [] := by first | (simp [entryFrame, mkF, argsToLocals, Value.category]; done) | rfl
abbrev own_Q31 (Z : State) (a1 : Addr) (h0 : Heap) (n0 : Nat) (v : Option Value) (h : Heap) (L : List Loc) : Prop := v = some (.ref a1) ∧ Fr n0 L ∧ h = h0
set_option maxRecDepth 65536 in
set_option maxHeartbeats 40000000 in
theorem own_m31 (l : Launch) (Z : State) (a0 : Array Value) (hw : ∀ d ∈ tables_1, d.before a0 Z = true) (ws : List Jvm.Cond) (a1 : Addr) (h0 : Heap) (n0 : Nat) (O0 : Old Z n0 h0) :
    Ctr l Z (⟨"java/util/Objects", "requireNonNull", "(Ljava/lang/Object;)Ljava/lang/Object;"⟩ : MethodName) jdk_31_method_10_code 1 (some (.object "java/lang/Object")) (Rm 0 0 0 0) #[(.ref a1)] h0 (own_Q31 Z a1 h0 n0) ws := by
  refine MetFree.of_bodySF (plainFor_of_name own_pn8) hisR ?_
  intro p e s m args below meth c s₁ Bd hml0 hP hK
  obtain ⟨rfl, hZ, hh⟩ := hP
  have hx := Bd.exec
  have hby := Bd.bytes
  have hlk : meth.locks = false := Bd.notSynchronized
  have hml : c.maxLocals = 1 := hml0
  have hown : s.vm.findClass "java/util/Objects" = some m.cls := findClass_of_methodNamed Bd.named
  have hnm := (name_of_methodNamed Bd.named Bd.method).1
  have X0 : Stand p l e (Rm 0 0 0 0) s m #[(.ref a1)] below meth c s₁ [] 0 0 := Stand.of_body Bd
  have e0 : s₁.heap = h0 := by rw [← hh, Bd.state]; rfl
  have N0 := Fr.nil n0
  show Goes p.tables e below (fun t o => ∃ v L, o = .returned v ∧ (own_Q31 Z a1 h0 n0) v t.heap L ∧ FrameEnd s o t L ((Rm 0 0 0 0)).cells ((Rm 0 0 0 0)).slots) _
  refine Goes.via (B := s₁.setTop (mkF m 0 #[rv a1] [])) (fun t k => castTop (own_ef31 m a1) k) ?_
  refine Gv s₁ 1 [(.ref a1)] (fun t k => XS.aloadN X0.here hx rfl (hb hby d_jdk_31_10_0) rfl rfl k) ?_
  refine Gv s₁ 12 [] (fun t k => XS.ifnonnullYes X0.here hx rfl (pc0 := 1) (pc' := 12) rfl (hb hby d_jdk_31_10_1) rfl (by decide) (by decide) k) ?_
  refine Gv s₁ 13 [(.ref a1)] (fun t k => XS.aloadN X0.here hx rfl (hb hby d_jdk_31_10_12) rfl rfl k) ?_
  exact finA (Q := (own_Q31 Z a1 h0 n0)) (F := FrameEnd) (C := ((Rm 0 0 0 0)).cells) (S := ((Rm 0 0 0 0)).slots) X0 hx Bd.returns rfl rfl rfl (hb hby d_jdk_31_10_13) e0 ⟨rfl, N0, rfl⟩ (lvN X0 hlk (by decide) (by decide))
theorem own_pn9 : plainName "java/util/ImmutableCollections$AbstractImmutableCollection" = true := by first | (simp [plainName, overriddenIn]; done) | decide +kernel
theorem d_jdk_47_1_0 : decode jdk_47_method_1_code 0 = .ok (.aload_n 0, 1) := by decide +kernel
theorem d_jdk_47_1_1 : decode jdk_47_method_1_code 1 = .ok (.invokespecial 1, 3) := by decide +kernel
theorem d_jdk_47_1_4 : decode jdk_47_method_1_code 4 = .ok (.return_, 1) := by decide +kernel
theorem own_ef32 (m : MethodId) (x0 : Addr)  : entryFrame m #[(.ref x0)] 1 = mkF m 0 #[rv x0] [] := by first | (simp [entryFrame, mkF, argsToLocals, Value.category]; done) | rfl
abbrev own_Q32 (Z : State) (a1 : Addr) (h0 : Heap) (n0 : Nat) (v : Option Value) (h : Heap) (L : List Loc) : Prop := v = none ∧ Fr n0 L ∧ h = h0
set_option maxRecDepth 65536 in
set_option maxHeartbeats 40000000 in
theorem own_m32 (l : Launch) (Z : State) (a0 : Array Value) (hw : ∀ d ∈ tables_1, d.before a0 Z = true) (ws : List Jvm.Cond) (a1 : Addr) (h0 : Heap) (n0 : Nat) (O0 : Old Z n0 h0) :
    Ctr l Z (⟨"java/util/ImmutableCollections$AbstractImmutableCollection", "<init>", "()V"⟩ : MethodName) jdk_47_method_1_code 1 none (Rm 2 0 0 24) #[(.ref a1)] h0 (own_Q32 Z a1 h0 n0) ws := by
  refine MetFree.of_bodySF (plainFor_of_name own_pn9) hisR ?_
  intro p e s m args below meth c s₁ Bd hml0 hP hK
  obtain ⟨rfl, hZ, hh⟩ := hP
  have hx := Bd.exec
  have hby := Bd.bytes
  have hlk : meth.locks = false := Bd.notSynchronized
  have hml : c.maxLocals = 1 := hml0
  have hown : s.vm.findClass "java/util/ImmutableCollections$AbstractImmutableCollection" = some m.cls := findClass_of_methodNamed Bd.named
  have hnm := (name_of_methodNamed Bd.named Bd.method).1
  have X0 : Stand p l e (Rm 2 0 0 24) s m #[(.ref a1)] below meth c s₁ [] 0 0 := Stand.of_body Bd
  have e0 : s₁.heap = h0 := by rw [← hh, Bd.state]; rfl
  have N0 := Fr.nil n0
  show Goes p.tables e below (fun t o => ∃ v L, o = .returned v ∧ (own_Q32 Z a1 h0 n0) v t.heap L ∧ FrameEnd s o t L ((Rm 2 0 0 24)).cells ((Rm 2 0 0 24)).slots) _
  refine Goes.via (B := s₁.setTop (mkF m 0 #[rv a1] [])) (fun t k => castTop (own_ef32 m a1) k) ?_
  refine Gv s₁ 1 [(.ref a1)] (fun t k => XS.aloadN X0.here hx rfl (hb hby d_jdk_47_1_0) rfl rfl k) ?_
  obtain ⟨_, T1, L1, X1, ⟨rfl, M1, K1⟩, st1⟩ := callInit X0 hx hZ rfl hown (W_ hw 205 rfl) (W_ hw 14 rfl) (W_ hw 17 rfl) (W_ hw 18 rfl) (by decide) (argsL := []) (rest := []) (own_m3 l Z a0 hw [] a1 h0 n0 O0 ) e0 (lenOf own_pd0 rfl) (pc := 1) (Ls := #[rv a1]) (st := [(.ref a1)]) rfl (by rw [hml]; rfl) (hb hby d_jdk_47_1_1) (W := 0) (Nat.le_of_eq rfl) (by decide) (by decide) (by decide) (by decide)
  have N1 := Fr.app N0 M1
  refine Goes.via (B := T1.setTop (mkF m 4 #[rv a1] [])) (fun t k => st1 _ k) ?_
  exact fin0 (Q := (own_Q32 Z a1 h0 n0)) (F := FrameEnd) (C := ((Rm 2 0 0 24)).cells) (S := ((Rm 2 0 0 24)).slots) X1 hx Bd.returns (hb hby d_jdk_47_1_4) K1 ⟨rfl, N1, rfl⟩ (lvN X1 hlk (by decide) (by decide))
theorem own_pn10 : plainName "java/util/ImmutableCollections$AbstractImmutableList" = true := by first | (simp [plainName, overriddenIn]; done) | decide +kernel
theorem d_jdk_46_1_0 : decode jdk_46_method_1_code 0 = .ok (.aload_n 0, 1) := by decide +kernel
theorem d_jdk_46_1_1 : decode jdk_46_method_1_code 1 = .ok (.invokespecial 1, 3) := by decide +kernel
theorem d_jdk_46_1_4 : decode jdk_46_method_1_code 4 = .ok (.return_, 1) := by decide +kernel
theorem own_ef33 (m : MethodId) (x0 : Addr)  : entryFrame m #[(.ref x0)] 1 = mkF m 0 #[rv x0] [] := by first | (simp [entryFrame, mkF, argsToLocals, Value.category]; done) | rfl
abbrev own_Q33 (Z : State) (a1 : Addr) (h0 : Heap) (n0 : Nat) (v : Option Value) (h : Heap) (L : List Loc) : Prop := v = none ∧ Fr n0 L ∧ h = h0
set_option maxRecDepth 65536 in
set_option maxHeartbeats 40000000 in
theorem own_m33 (l : Launch) (Z : State) (a0 : Array Value) (hw : ∀ d ∈ tables_1, d.before a0 Z = true) (ws : List Jvm.Cond) (a1 : Addr) (h0 : Heap) (n0 : Nat) (O0 : Old Z n0 h0) :
    Ctr l Z (⟨"java/util/ImmutableCollections$AbstractImmutableList", "<init>", "()V"⟩ : MethodName) jdk_46_method_1_code 1 none (Rm 3 0 0 36) #[(.ref a1)] h0 (own_Q33 Z a1 h0 n0) ws := by
  refine MetFree.of_bodySF (plainFor_of_name own_pn10) hisR ?_
  intro p e s m args below meth c s₁ Bd hml0 hP hK
  obtain ⟨rfl, hZ, hh⟩ := hP
  have hx := Bd.exec
  have hby := Bd.bytes
  have hlk : meth.locks = false := Bd.notSynchronized
  have hml : c.maxLocals = 1 := hml0
  have hown : s.vm.findClass "java/util/ImmutableCollections$AbstractImmutableList" = some m.cls := findClass_of_methodNamed Bd.named
  have hnm := (name_of_methodNamed Bd.named Bd.method).1
  have X0 : Stand p l e (Rm 3 0 0 36) s m #[(.ref a1)] below meth c s₁ [] 0 0 := Stand.of_body Bd
  have e0 : s₁.heap = h0 := by rw [← hh, Bd.state]; rfl
  have N0 := Fr.nil n0
  show Goes p.tables e below (fun t o => ∃ v L, o = .returned v ∧ (own_Q33 Z a1 h0 n0) v t.heap L ∧ FrameEnd s o t L ((Rm 3 0 0 36)).cells ((Rm 3 0 0 36)).slots) _
  refine Goes.via (B := s₁.setTop (mkF m 0 #[rv a1] [])) (fun t k => castTop (own_ef33 m a1) k) ?_
  refine Gv s₁ 1 [(.ref a1)] (fun t k => XS.aloadN X0.here hx rfl (hb hby d_jdk_46_1_0) rfl rfl k) ?_
  obtain ⟨_, T1, L1, X1, ⟨rfl, M1, K1⟩, st1⟩ := callInit X0 hx hZ rfl hown (W_ hw 199 rfl) (W_ hw 200 rfl) (W_ hw 203 rfl) (W_ hw 204 rfl) (by decide) (argsL := []) (rest := []) (own_m32 l Z a0 hw [] a1 h0 n0 O0 ) e0 (lenOf own_pd0 rfl) (pc := 1) (Ls := #[rv a1]) (st := [(.ref a1)]) rfl (by rw [hml]; rfl) (hb hby d_jdk_46_1_1) (W := 0) (Nat.le_of_eq rfl) (by decide) (by decide) (by decide) (by decide)
  have N1 := Fr.app N0 M1
  refine Goes.via (B := T1.setTop (mkF m 4 #[rv a1] [])) (fun t k => st1 _ k) ?_
  exact fin0 (Q := (own_Q33 Z a1 h0 n0)) (F := FrameEnd) (C := ((Rm 3 0 0 36)).cells) (S := ((Rm 3 0 0 36)).slots) X1 hx Bd.returns (hb hby d_jdk_46_1_4) K1 ⟨rfl, N1, rfl⟩ (lvN X1 hlk (by decide) (by decide))
theorem own_pn11 : plainName "java/util/ImmutableCollections$List12" = true := by first | (simp [plainName, overriddenIn]; done) | decide +kernel
theorem d_jdk_44_1_0 : decode jdk_44_method_1_code 0 = .ok (.aload_n 0, 1) := by decide +kernel
theorem d_jdk_44_1_1 : decode jdk_44_method_1_code 1 = .ok (.invokespecial 1, 3) := by decide +kernel
theorem d_jdk_44_1_4 : decode jdk_44_method_1_code 4 = .ok (.aload_n 0, 1) := by decide +kernel
theorem d_jdk_44_1_5 : decode jdk_44_method_1_code 5 = .ok (.aload_n 1, 1) := by decide +kernel
theorem d_jdk_44_1_6 : decode jdk_44_method_1_code 6 = .ok (.invokestatic 7, 3) := by decide +kernel
theorem own_pd9 : parseMethodDescriptor "(Ljava/lang/Object;)Ljava/lang/Object;" = some ⟨[(.object "java/lang/Object")], some (.object "java/lang/Object")⟩ := by decide +kernel
theorem d_jdk_44_1_9 : decode jdk_44_method_1_code 9 = .ok (.putfield 13, 3) := by decide +kernel
theorem d_jdk_44_1_12 : decode jdk_44_method_1_code 12 = .ok (.aload_n 0, 1) := by decide +kernel
theorem d_jdk_44_1_13 : decode jdk_44_method_1_code 13 = .ok (.getstatic 19, 3) := by decide +kernel
theorem d_jdk_44_1_16 : decode jdk_44_method_1_code 16 = .ok (.putfield 24, 3) := by decide +kernel
theorem d_jdk_44_1_19 : decode jdk_44_method_1_code 19 = .ok (.return_, 1) := by decide +kernel
theorem own_ef34 (m : MethodId) (x0 : Addr) (x1 : Addr)  : entryFrame m #[(.ref x0), (.ref x1)] 2 = mkF m 0 #[rv x0, rv x1] [] := by first | (simp [entryFrame, mkF, argsToLocals, Value.category]; done) | rfl
abbrev own_Q34 (Z : State) (a1 : Addr) (pga : Addr) (em : Addr) (h0 : Heap) (n0 : Nat) (v : Option Value) (h : Heap) (L : List Loc) : Prop := v = none ∧ Fr n0 L ∧ Keep h0 h [a1] ∧ Exa Z h a1 "java/util/ImmutableCollections$List12" ∧ Fld Z h a1 "java/util/ImmutableCollections$List12" "e0" "Ljava/lang/Object;" (.ref pga) ∧ Fld Z h a1 "java/util/ImmutableCollections$List12" "e1" "Ljava/lang/Object;" (.ref em)
set_option maxRecDepth 65536 in
set_option maxHeartbeats 40000000 in
theorem own_m34 (l : Launch) (Z : State) (a0 : Array Value) (hw : ∀ d ∈ tables_1, d.before a0 Z = true) (ws : List Jvm.Cond) (a1 : Addr) (pga : Addr) (em : Addr) (h0 : Heap) (n0 : Nat) (O0 : Old Z n0 h0) (gn_a1 : n0 ≤ a1) (O_1 : Sta Z Z.heap "java/util/ImmutableCollections" "EMPTY" "Ljava/lang/Object;" (.ref em)) (F_1 : Exa Z h0 a1 "java/util/ImmutableCollections$List12") (F_2 : Fld Z h0 a1 "java/util/ImmutableCollections$List12" "e0" "Ljava/lang/Object;" .null) (F_3 : Fld Z h0 a1 "java/util/ImmutableCollections$List12" "e1" "Ljava/lang/Object;" .null) :
    Ctr l Z (⟨"java/util/ImmutableCollections$List12", "<init>", "(Ljava/lang/Object;)V"⟩ : MethodName) jdk_44_method_1_code 2 none (Rm 4 0 0 48) #[(.ref a1), (.ref pga)] h0 (own_Q34 Z a1 pga em h0 n0) ws := by
  refine MetFree.of_bodySF (plainFor_of_name own_pn11) hisR ?_
  intro p e s m args below meth c s₁ Bd hml0 hP hK
  obtain ⟨rfl, hZ, hh⟩ := hP
  have hx := Bd.exec
  have hby := Bd.bytes
  have hlk : meth.locks = false := Bd.notSynchronized
  have hml : c.maxLocals = 2 := hml0
  have hown : s.vm.findClass "java/util/ImmutableCollections$List12" = some m.cls := findClass_of_methodNamed Bd.named
  have hnm := (name_of_methodNamed Bd.named Bd.method).1
  have X0 : Stand p l e (Rm 4 0 0 48) s m #[(.ref a1), (.ref pga)] below meth c s₁ [] 0 0 := Stand.of_body Bd
  have e0 : s₁.heap = h0 := by rw [← hh, Bd.state]; rfl
  have N0 := Fr.nil n0
  show Goes p.tables e below (fun t o => ∃ v L, o = .returned v ∧ (own_Q34 Z a1 pga em h0 n0) v t.heap L ∧ FrameEnd s o t L ((Rm 4 0 0 48)).cells ((Rm 4 0 0 48)).slots) _
  refine Goes.via (B := s₁.setTop (mkF m 0 #[rv a1, rv pga] [])) (fun t k => castTop (own_ef34 m a1 pga) k) ?_
  refine Gv s₁ 1 [(.ref a1)] (fun t k => XS.aloadN X0.here hx rfl (hb hby d_jdk_44_1_0) rfl rfl k) ?_
  obtain ⟨_, T1, L1, X1, ⟨rfl, M1, K1⟩, st1⟩ := callInit X0 hx hZ rfl hown (W_ hw 326 rfl) (W_ hw 194 rfl) (W_ hw 197 rfl) (W_ hw 198 rfl) (by decide) (argsL := []) (rest := []) (own_m33 l Z a0 hw [] a1 h0 n0 O0 ) e0 (lenOf own_pd0 rfl) (pc := 1) (Ls := #[rv a1, rv pga]) (st := [(.ref a1)]) rfl (by rw [hml]; rfl) (hb hby d_jdk_44_1_1) (W := 0) (Nat.le_of_eq rfl) (by decide) (by decide) (by decide) (by decide)
  have N1 := Fr.app N0 M1
  refine Goes.via (B := T1.setTop (mkF m 4 #[rv a1, rv pga] [])) (fun t k => st1 _ k) ?_
  refine Gv T1 5 [(.ref a1)] (fun t k => XS.aloadN X1.here hx rfl (hb hby d_jdk_44_1_4) rfl rfl k) ?_
  refine Gv T1 6 [(.ref pga), (.ref a1)] (fun t k => XS.aloadN X1.here hx rfl (hb hby d_jdk_44_1_5) rfl rfl k) ?_
  obtain ⟨_, T2, L2, X2, ⟨rfl, M2, K2⟩, st2⟩ := callStatic X1 hx hZ hown (W_ hw 330 rfl) (W_ hw 184 rfl) (W_ hw 185 rfl) (W_ hw 186 rfl) (by decide) (argsL := [(.ref pga)]) (rest := [(.ref a1)]) (own_m31 l Z a0 hw [] pga h0 n0 O0 ) K1 (lenOf own_pd9 rfl) (pc := 6) (Ls := #[rv a1, rv pga]) (st := [(.ref pga), (.ref a1)]) rfl (by rw [hml]; rfl) (hb hby d_jdk_44_1_6) (W := 1) (Nat.le_of_eq rfl) (by decide) (by decide) (by decide) (by decide)
  have N2 := Fr.app N1 M2
  refine Goes.via (B := T2.setTop (mkF m 9 #[rv a1, rv pga] [(.ref pga), (.ref a1)])) (fun t k => st2 _ k) ?_
  obtain ⟨T3, h3, X3, e3, W3, st3⟩ := putF X2 hx hZ hown (host := "") (Or.inl (W_ hw 331 rfl)) Via.refl K2 F_2 F_1 (Or.inr ⟨(W_ hw 332 rfl), rfl, hnm⟩) (W_ hw 320 rfl) (ty := (.object "java/lang/Object")) (by decide) rfl rfl (g := (mkF m 9 #[rv a1, rv pga] [(.ref pga), (.ref a1)])) rfl rfl (hb hby d_jdk_44_1_9)
  have N3 := Fr.snoc X3 N2 gn_a1
  refine Goes.via (B := T3.setTop (mkF m 12 #[rv a1, rv pga] [])) (fun t k => st3 _ k) ?_
  refine Gv T3 13 [(.ref a1)] (fun t k => XS.aloadN X3.here hx rfl (hb hby d_jdk_44_1_12) rfl rfl k) ?_
  obtain ⟨T4, X4, e4, st4⟩ := getS2 X3 hx hZ hown (Or.inr (W_ hw 333 rfl)) Via.refl e3 (Sta.ext (O0.wr W3 gn_a1).2 O_1) (g := (mkF m 13 #[rv a1, rv pga] [(.ref a1)])) rfl (hb hby d_jdk_44_1_13)
  refine Goes.via (B := T4.setTop (mkF m 16 #[rv a1, rv pga] [(.ref em), (.ref a1)])) (fun t k => st4 _ k) ?_
  have c5 : Fld Z h3 a1 "java/util/ImmutableCollections$List12" "e1" "Ljava/lang/Object;" .null := (Fld.other W3 F_3 (Or.inr (slot_ne (Or.inr (W_ hw 335 rfl)) (Or.inr (W_ hw 332 rfl)) (by decide) (t := (.object "java/lang/Object")) (t' := (.object "java/lang/Object")) (by decide) (by decide))))
  obtain ⟨T6, h6, X6, e6, W6, st6⟩ := putF X4 hx hZ hown (host := "") (Or.inl (W_ hw 334 rfl)) Via.refl e4 c5 (Exa.wr W3 F_1) (Or.inr ⟨(W_ hw 335 rfl), rfl, hnm⟩) (W_ hw 320 rfl) (ty := (.object "java/lang/Object")) (by decide) rfl rfl (g := (mkF m 16 #[rv a1, rv pga] [(.ref em), (.ref a1)])) rfl rfl (hb hby d_jdk_44_1_16)
  have N6 := Fr.snoc X6 N3 gn_a1
  refine Goes.via (B := T6.setTop (mkF m 19 #[rv a1, rv pga] [])) (fun t k => st6 _ k) ?_
  have c7 : Fld Z h6 a1 "java/util/ImmutableCollections$List12" "e0" "Ljava/lang/Object;" (.ref pga) := (Fld.other W6 (Fld.same W3 F_2) (Or.inr (slot_ne (Or.inr (W_ hw 332 rfl)) (Or.inr (W_ hw 335 rfl)) (by decide) (t := (.object "java/lang/Object")) (t' := (.object "java/lang/Object")) (by decide) (by decide))))
  exact fin0 (Q := (own_Q34 Z a1 pga em h0 n0)) (F := FrameEnd) (C := ((Rm 4 0 0 48)).cells) (S := ((Rm 4 0 0 48)).slots) X6 hx Bd.returns (hb hby d_jdk_44_1_19) e6 ⟨rfl, N6, (((Keep.refl h0 [a1]).wr W3 (Or.inl (List.mem_of_getElem? (i := 0) rfl))).wr W6 (Or.inl (List.mem_of_getElem? (i := 0) rfl))), (Exa.wr W6 (Exa.wr W3 F_1)), c7, (Fld.same W6 c5)⟩ (lvN X6 hlk (by decide) (by decide))
theorem d_jdk_44_2_0 : decode jdk_44_method_2_code 0 = .ok (.aload_n 0, 1) := by decide +kernel
theorem d_jdk_44_2_1 : decode jdk_44_method_2_code 1 = .ok (.invokespecial 1, 3) := by decide +kernel
theorem d_jdk_44_2_4 : decode jdk_44_method_2_code 4 = .ok (.aload_n 0, 1) := by decide +kernel
theorem d_jdk_44_2_5 : decode jdk_44_method_2_code 5 = .ok (.aload_n 1, 1) := by decide +kernel
theorem d_jdk_44_2_6 : decode jdk_44_method_2_code 6 = .ok (.invokestatic 7, 3) := by decide +kernel
theorem d_jdk_44_2_9 : decode jdk_44_method_2_code 9 = .ok (.putfield 13, 3) := by decide +kernel
theorem d_jdk_44_2_12 : decode jdk_44_method_2_code 12 = .ok (.aload_n 0, 1) := by decide +kernel
theorem d_jdk_44_2_13 : decode jdk_44_method_2_code 13 = .ok (.aload_n 2, 1) := by decide +kernel
theorem d_jdk_44_2_14 : decode jdk_44_method_2_code 14 = .ok (.invokestatic 7, 3) := by decide +kernel
theorem d_jdk_44_2_17 : decode jdk_44_method_2_code 17 = .ok (.putfield 24, 3) := by decide +kernel
theorem d_jdk_44_2_20 : decode jdk_44_method_2_code 20 = .ok (.return_, 1) := by decide +kernel
theorem own_ef35 (m : MethodId) (x0 : Addr) (x1 : Addr) (x2 : Addr)  : entryFrame m #[(.ref x0), (.ref x1), (.ref x2)] 3 = mkF m 0 #[rv x0, rv x1, rv x2] [] := by first | (simp [entryFrame, mkF, argsToLocals, Value.category]; done) | rfl
abbrev own_Q35 (Z : State) (a1 : Addr) (pga : Addr) (pgb : Addr) (h0 : Heap) (n0 : Nat) (v : Option Value) (h : Heap) (L : List Loc) : Prop := v = none ∧ Fr n0 L ∧ Keep h0 h [a1] ∧ Exa Z h a1 "java/util/ImmutableCollections$List12" ∧ Fld Z h a1 "java/util/ImmutableCollections$List12" "e0" "Ljava/lang/Object;" (.ref pga) ∧ Fld Z h a1 "java/util/ImmutableCollections$List12" "e1" "Ljava/lang/Object;" (.ref pgb)
set_option maxRecDepth 65536 in
set_option maxHeartbeats 40000000 in
theorem own_m35 (l : Launch) (Z : State) (a0 : Array Value) (hw : ∀ d ∈ tables_1, d.before a0 Z = true) (ws : List Jvm.Cond) (a1 : Addr) (pga : Addr) (pgb : Addr) (h0 : Heap) (n0 : Nat) (O0 : Old Z n0 h0) (gn_a1 : n0 ≤ a1) (F_1 : Exa Z h0 a1 "java/util/ImmutableCollections$List12") (F_2 : Fld Z h0 a1 "java/util/ImmutableCollections$List12" "e0" "Ljava/lang/Object;" .null) (F_3 : Fld Z h0 a1 "java/util/ImmutableCollections$List12" "e1" "Ljava/lang/Object;" .null) :
    Ctr l Z (⟨"java/util/ImmutableCollections$List12", "<init>", "(Ljava/lang/Object;Ljava/lang/Object;)V"⟩ : MethodName) jdk_44_method_2_code 3 none (Rm 4 0 0 48) #[(.ref a1), (.ref pga), (.ref pgb)] h0 (own_Q35 Z a1 pga pgb h0 n0) ws := by
  refine MetFree.of_bodySF (plainFor_of_name own_pn11) hisR ?_
  intro p e s m args below meth c s₁ Bd hml0 hP hK
  obtain ⟨rfl, hZ, hh⟩ := hP
  have hx := Bd.exec
  have hby := Bd.bytes
  have hlk : meth.locks = false := Bd.notSynchronized
  have hml : c.maxLocals = 3 := hml0
  have hown : s.vm.findClass "java/util/ImmutableCollections$List12" = some m.cls := findClass_of_methodNamed Bd.named
  have hnm := (name_of_methodNamed Bd.named Bd.method).1
  have X0 : Stand p l e (Rm 4 0 0 48) s m #[(.ref a1), (.ref pga), (.ref pgb)] below meth c s₁ [] 0 0 := Stand.of_body Bd
  have e0 : s₁.heap = h0 := by rw [← hh, Bd.state]; rfl
  have N0 := Fr.nil n0
  show Goes p.tables e below (fun t o => ∃ v L, o = .returned v ∧ (own_Q35 Z a1 pga pgb h0 n0) v t.heap L ∧ FrameEnd s o t L ((Rm 4 0 0 48)).cells ((Rm 4 0 0 48)).slots) _
  refine Goes.via (B := s₁.setTop (mkF m 0 #[rv a1, rv pga, rv pgb] [])) (fun t k => castTop (own_ef35 m a1 pga pgb) k) ?_
  refine Gv s₁ 1 [(.ref a1)] (fun t k => XS.aloadN X0.here hx rfl (hb hby d_jdk_44_2_0) rfl rfl k) ?_
  obtain ⟨_, T1, L1, X1, ⟨rfl, M1, K1⟩, st1⟩ := callInit X0 hx hZ rfl hown (W_ hw 326 rfl) (W_ hw 194 rfl) (W_ hw 197 rfl) (W_ hw 198 rfl) (by decide) (argsL := []) (rest := []) (own_m33 l Z a0 hw [] a1 h0 n0 O0 ) e0 (lenOf own_pd0 rfl) (pc := 1) (Ls := #[rv a1, rv pga, rv pgb]) (st := [(.ref a1)]) rfl (by rw [hml]; rfl) (hb hby d_jdk_44_2_1) (W := 0) (Nat.le_of_eq rfl) (by decide) (by decide) (by decide) (by decide)
  have N1 := Fr.app N0 M1
  refine Goes.via (B := T1.setTop (mkF m 4 #[rv a1, rv pga, rv pgb] [])) (fun t k => st1 _ k) ?_
  refine Gv T1 5 [(.ref a1)] (fun t k => XS.aloadN X1.here hx rfl (hb hby d_jdk_44_2_4) rfl rfl k) ?_
  refine Gv T1 6 [(.ref pga), (.ref a1)] (fun t k => XS.aloadN X1.here hx rfl (hb hby d_jdk_44_2_5) rfl rfl k) ?_
  obtain ⟨_, T2, L2, X2, ⟨rfl, M2, K2⟩, st2⟩ := callStatic X1 hx hZ hown (W_ hw 330 rfl) (W_ hw 184 rfl) (W_ hw 185 rfl) (W_ hw 186 rfl) (by decide) (argsL := [(.ref pga)]) (rest := [(.ref a1)]) (own_m31 l Z a0 hw [] pga h0 n0 O0 ) K1 (lenOf own_pd9 rfl) (pc := 6) (Ls := #[rv a1, rv pga, rv pgb]) (st := [(.ref pga), (.ref a1)]) rfl (by rw [hml]; rfl) (hb hby d_jdk_44_2_6) (W := 1) (Nat.le_of_eq rfl) (by decide) (by decide) (by decide) (by decide)
  have N2 := Fr.app N1 M2
  refine Goes.via (B := T2.setTop (mkF m 9 #[rv a1, rv pga, rv pgb] [(.ref pga), (.ref a1)])) (fun t k => st2 _ k) ?_
  obtain ⟨T3, h3, X3, e3, W3, st3⟩ := putF X2 hx hZ hown (host := "") (Or.inl (W_ hw 331 rfl)) Via.refl K2 F_2 F_1 (Or.inr ⟨(W_ hw 332 rfl), rfl, hnm⟩) (W_ hw 320 rfl) (ty := (.object "java/lang/Object")) (by decide) rfl rfl (g := (mkF m 9 #[rv a1, rv pga, rv pgb] [(.ref pga), (.ref a1)])) rfl rfl (hb hby d_jdk_44_2_9)
  have N3 := Fr.snoc X3 N2 gn_a1
  refine Goes.via (B := T3.setTop (mkF m 12 #[rv a1, rv pga, rv pgb] [])) (fun t k => st3 _ k) ?_
  refine Gv T3 13 [(.ref a1)] (fun t k => XS.aloadN X3.here hx rfl (hb hby d_jdk_44_2_12) rfl rfl k) ?_
  refine Gv T3 14 [(.ref pgb), (.ref a1)] (fun t k => XS.aloadN X3.here hx rfl (hb hby d_jdk_44_2_13) rfl rfl k) ?_
  obtain ⟨_, T4, L4, X4, ⟨rfl, M4, K4⟩, st4⟩ := callStatic X3 hx hZ hown (W_ hw 330 rfl) (W_ hw 184 rfl) (W_ hw 185 rfl) (W_ hw 186 rfl) (by decide) (argsL := [(.ref pgb)]) (rest := [(.ref a1)]) (own_m31 l Z a0 hw [] pgb h3 n0 (O0.wr W3 gn_a1) ) e3 (lenOf own_pd9 rfl) (pc := 14) (Ls := #[rv a1, rv pga, rv pgb]) (st := [(.ref pgb), (.ref a1)]) rfl (by rw [hml]; rfl) (hb hby d_jdk_44_2_14) (W := 1) (Nat.le_of_eq rfl) (by decide) (by decide) (by decide) (by decide)
  have N4 := Fr.app N3 M4
  refine Goes.via (B := T4.setTop (mkF m 17 #[rv a1, rv pga, rv pgb] [(.ref pgb), (.ref a1)])) (fun t k => st4 _ k) ?_
  have c5 : Fld Z h3 a1 "java/util/ImmutableCollections$List12" "e1" "Ljava/lang/Object;" .null := (Fld.other W3 F_3 (Or.inr (slot_ne (Or.inr (W_ hw 335 rfl)) (Or.inr (W_ hw 332 rfl)) (by decide) (t := (.object "java/lang/Object")) (t' := (.object "java/lang/Object")) (by decide) (by decide))))
  obtain ⟨T6, h6, X6, e6, W6, st6⟩ := putF X4 hx hZ hown (host := "") (Or.inl (W_ hw 334 rfl)) Via.refl K4 c5 (Exa.wr W3 F_1) (Or.inr ⟨(W_ hw 335 rfl), rfl, hnm⟩) (W_ hw 320 rfl) (ty := (.object "java/lang/Object")) (by decide) rfl rfl (g := (mkF m 17 #[rv a1, rv pga, rv pgb] [(.ref pgb), (.ref a1)])) rfl rfl (hb hby d_jdk_44_2_17)
  have N6 := Fr.snoc X6 N4 gn_a1
  refine Goes.via (B := T6.setTop (mkF m 20 #[rv a1, rv pga, rv pgb] [])) (fun t k => st6 _ k) ?_
  have c7 : Fld Z h6 a1 "java/util/ImmutableCollections$List12" "e0" "Ljava/lang/Object;" (.ref pga) := (Fld.other W6 (Fld.same W3 F_2) (Or.inr (slot_ne (Or.inr (W_ hw 332 rfl)) (Or.inr (W_ hw 335 rfl)) (by decide) (t := (.object "java/lang/Object")) (t' := (.object "java/lang/Object")) (by decide) (by decide))))
  exact fin0 (Q := (own_Q35 Z a1 pga pgb h0 n0)) (F := FrameEnd) (C := ((Rm 4 0 0 48)).cells) (S := ((Rm 4 0 0 48)).slots) X6 hx Bd.returns (hb hby d_jdk_44_2_20) e6 ⟨rfl, N6, (((Keep.refl h0 [a1]).wr W3 (Or.inl (List.mem_of_getElem? (i := 0) rfl))).wr W6 (Or.inl (List.mem_of_getElem? (i := 0) rfl))), (Exa.wr W6 (Exa.wr W3 F_1)), c7, (Fld.same W6 c5)⟩ (lvN X6 hlk (by decide) (by decide))
theorem own_pn12 : plainName "java/util/ImmutableCollections$ListN" = true := by first | (simp [plainName, overriddenIn]; done) | decide +kernel
theorem d_jdk_45_1_0 : decode jdk_45_method_1_code 0 = .ok (.aload_n 0, 1) := by decide +kernel
theorem d_jdk_45_1_1 : decode jdk_45_method_1_code 1 = .ok (.invokespecial 1, 3) := by decide +kernel
theorem d_jdk_45_1_4 : decode jdk_45_method_1_code 4 = .ok (.aload_n 0, 1) := by decide +kernel
theorem d_jdk_45_1_5 : decode jdk_45_method_1_code 5 = .ok (.aload_n 1, 1) := by decide +kernel
theorem d_jdk_45_1_6 : decode jdk_45_method_1_code 6 = .ok (.putfield 7, 3) := by decide +kernel
theorem d_jdk_45_1_9 : decode jdk_45_method_1_code 9 = .ok (.aload_n 0, 1) := by decide +kernel
theorem d_jdk_45_1_10 : decode jdk_45_method_1_code 10 = .ok (.iload_n 2, 1) := by decide +kernel
theorem d_jdk_45_1_11 : decode jdk_45_method_1_code 11 = .ok (.putfield 13, 3) := by decide +kernel
theorem d_jdk_45_1_14 : decode jdk_45_method_1_code 14 = .ok (.return_, 1) := by decide +kernel
theorem own_ef36 (m : MethodId) (x0 : Addr) (x1 : Addr) (x2 : Int32)  : entryFrame m #[(.ref x0), (.ref x1), (.int x2)] 3 = mkF m 0 #[rv x0, rv x1, iv x2] [] := by first | (simp [entryFrame, mkF, argsToLocals, Value.category]; done) | rfl
abbrev own_Q36 (Z : State) (a1 : Addr) (a2 : Addr) (h0 : Heap) (n0 : Nat) (v : Option Value) (h : Heap) (L : List Loc) : Prop := v = none ∧ Fr n0 L ∧ Keep h0 h [a1] ∧ Exa Z h a1 "java/util/ImmutableCollections$ListN" ∧ Fld Z h a1 "java/util/ImmutableCollections$ListN" "elements" "[Ljava/lang/Object;" (.ref a2)
set_option maxRecDepth 65536 in
set_option maxHeartbeats 40000000 in
theorem own_m36 (l : Launch) (Z : State) (a0 : Array Value) (hw : ∀ d ∈ tables_1, d.before a0 Z = true) (ws : List Jvm.Cond) (a1 : Addr) (a2 : Addr) (h0 : Heap) (n0 : Nat) (O0 : Old Z n0 h0) (gn_a1 : n0 ≤ a1) (F_1 : Exa Z h0 a1 "java/util/ImmutableCollections$ListN") (F_2 : Fld Z h0 a1 "java/util/ImmutableCollections$ListN" "elements" "[Ljava/lang/Object;" .null) (F_3 : Fld Z h0 a1 "java/util/ImmutableCollections$ListN" "allowNulls" "Z" (.int (0 : Int32))) :
    Ctr l Z (⟨"java/util/ImmutableCollections$ListN", "<init>", "([Ljava/lang/Object;Z)V"⟩ : MethodName) jdk_45_method_1_code 3 none (Rm 4 0 0 48) #[(.ref a1), (.ref a2), (.int (0 : Int32))] h0 (own_Q36 Z a1 a2 h0 n0) ws := by
  refine MetFree.of_bodySF (plainFor_of_name own_pn12) hisR ?_
  intro p e s m args below meth c s₁ Bd hml0 hP hK
  obtain ⟨rfl, hZ, hh⟩ := hP
  have hx := Bd.exec
  have hby := Bd.bytes
  have hlk : meth.locks = false := Bd.notSynchronized
  have hml : c.maxLocals = 3 := hml0
  have hown : s.vm.findClass "java/util/ImmutableCollections$ListN" = some m.cls := findClass_of_methodNamed Bd.named
  have hnm := (name_of_methodNamed Bd.named Bd.method).1
  have X0 : Stand p l e (Rm 4 0 0 48) s m #[(.ref a1), (.ref a2), (.int (0 : Int32))] below meth c s₁ [] 0 0 := Stand.of_body Bd
  have e0 : s₁.heap = h0 := by rw [← hh, Bd.state]; rfl
  have N0 := Fr.nil n0
  show Goes p.tables e below (fun t o => ∃ v L, o = .returned v ∧ (own_Q36 Z a1 a2 h0 n0) v t.heap L ∧ FrameEnd s o t L ((Rm 4 0 0 48)).cells ((Rm 4 0 0 48)).slots) _
  refine Goes.via (B := s₁.setTop (mkF m 0 #[rv a1, rv a2, iv (0 : Int32)] [])) (fun t k => castTop (own_ef36 m a1 a2 (0 : Int32)) k) ?_
  refine Gv s₁ 1 [(.ref a1)] (fun t k => XS.aloadN X0.here hx rfl (hb hby d_jdk_45_1_0) rfl rfl k) ?_
  obtain ⟨_, T1, L1, X1, ⟨rfl, M1, K1⟩, st1⟩ := callInit X0 hx hZ rfl hown (W_ hw 193 rfl) (W_ hw 194 rfl) (W_ hw 197 rfl) (W_ hw 198 rfl) (by decide) (argsL := []) (rest := []) (own_m33 l Z a0 hw [] a1 h0 n0 O0 ) e0 (lenOf own_pd0 rfl) (pc := 1) (Ls := #[rv a1, rv a2, iv (0 : Int32)]) (st := [(.ref a1)]) rfl (by rw [hml]; rfl) (hb hby d_jdk_45_1_1) (W := 0) (Nat.le_of_eq rfl) (by decide) (by decide) (by decide) (by decide)
  have N1 := Fr.app N0 M1
  refine Goes.via (B := T1.setTop (mkF m 4 #[rv a1, rv a2, iv (0 : Int32)] [])) (fun t k => st1 _ k) ?_
  refine Gv T1 5 [(.ref a1)] (fun t k => XS.aloadN X1.here hx rfl (hb hby d_jdk_45_1_4) rfl rfl k) ?_
  refine Gv T1 6 [(.ref a2), (.ref a1)] (fun t k => XS.aloadN X1.here hx rfl (hb hby d_jdk_45_1_5) rfl rfl k) ?_
  obtain ⟨T2, h2, X2, e2, W2, st2⟩ := putF X1 hx hZ hown (host := "") (Or.inl (W_ hw 207 rfl)) Via.refl K1 F_2 F_1 (Or.inr ⟨(W_ hw 208 rfl), rfl, hnm⟩) (W_ hw 187 rfl) (ty := (.array (.object "java/lang/Object"))) (by decide) rfl rfl (g := (mkF m 6 #[rv a1, rv a2, iv (0 : Int32)] [(.ref a2), (.ref a1)])) rfl rfl (hb hby d_jdk_45_1_6)
  have N2 := Fr.snoc X2 N1 gn_a1
  refine Goes.via (B := T2.setTop (mkF m 9 #[rv a1, rv a2, iv (0 : Int32)] [])) (fun t k => st2 _ k) ?_
  refine Gv T2 10 [(.ref a1)] (fun t k => XS.aloadN X2.here hx rfl (hb hby d_jdk_45_1_9) rfl rfl k) ?_
  refine Gv T2 11 [(.int (0 : Int32)), (.ref a1)] (fun t k => XS.iloadN X2.here hx rfl (hb hby d_jdk_45_1_10) rfl k) ?_
  have c3 : Fld Z h2 a1 "java/util/ImmutableCollections$ListN" "allowNulls" "Z" (.int (0 : Int32)) := (Fld.other W2 F_3 (Or.inr (slot_ne (Or.inr (W_ hw 210 rfl)) (Or.inr (W_ hw 208 rfl)) (by decide) (t := .boolean) (t' := (.array (.object "java/lang/Object"))) (by decide) (by decide))))
  obtain ⟨T4, h4, X4, e4, W4, st4⟩ := putFN X2 hx hZ hown (W_ hw 209 rfl) Via.refl e2 c3 (Exa.wr W2 F_1) (Or.inr ⟨(W_ hw 210 rfl), rfl, hnm⟩) (W_ hw 187 rfl) (ty := .boolean) (v' := (.int (0 : Int32))) (by decide) rfl rfl (g := (mkF m 11 #[rv a1, rv a2, iv (0 : Int32)] [(.int (0 : Int32)), (.ref a1)])) rfl rfl (hb hby d_jdk_45_1_11)
  have N4 := Fr.snoc X4 N2 gn_a1
  refine Goes.via (B := T4.setTop (mkF m 14 #[rv a1, rv a2, iv (0 : Int32)] [])) (fun t k => st4 _ k) ?_
  have c5 : Fld Z h4 a1 "java/util/ImmutableCollections$ListN" "elements" "[Ljava/lang/Object;" (.ref a2) := (Fld.other W4 (Fld.same W2 F_2) (Or.inr (slot_ne (Or.inr (W_ hw 208 rfl)) (Or.inr (W_ hw 210 rfl)) (by decide) (t := (.array (.object "java/lang/Object"))) (t' := .boolean) (by decide) (by decide))))
  exact fin0 (Q := (own_Q36 Z a1 a2 h0 n0)) (F := FrameEnd) (C := ((Rm 4 0 0 48)).cells) (S := ((Rm 4 0 0 48)).slots) X4 hx Bd.returns (hb hby d_jdk_45_1_14) e4 ⟨rfl, N4, (((Keep.refl h0 [a1]).wr W2 (Or.inl (List.mem_of_getElem? (i := 0) rfl))).wr W4 (Or.inl (List.mem_of_getElem? (i := 0) rfl))), (Exa.wr W4 (Exa.wr W2 F_1)), c5⟩ (lvN X4 hlk (by decide) (by decide))
theorem own_pn13 : plainName "java/util/ImmutableCollections" = true := by first | (simp [plainName, overriddenIn]; done) | decide +kernel
theorem d_jdk_56_4_0 : decode jdk_56_method_4_code 0 = .ok (.aload_n 0, 1) := by decide +kernel
theorem d_jdk_56_4_1 : decode jdk_56_method_4_code 1 = .ok (.arraylength, 1) := by decide +kernel
theorem d_jdk_56_4_2 : decode jdk_56_method_4_code 2 = .ok (.anewarray 2, 3) := by decide +kernel
theorem d_jdk_56_4_5 : decode jdk_56_method_4_code 5 = .ok (.astore_n 1, 1) := by decide +kernel
theorem d_jdk_56_4_6 : decode jdk_56_method_4_code 6 = .ok (.iconst 0, 1) := by decide +kernel
theorem d_jdk_56_4_7 : decode jdk_56_method_4_code 7 = .ok (.istore_n 2, 1) := by decide +kernel
theorem d_jdk_56_4_8 : decode jdk_56_method_4_code 8 = .ok (.iload_n 2, 1) := by decide +kernel
theorem d_jdk_56_4_9 : decode jdk_56_method_4_code 9 = .ok (.aload_n 0, 1) := by decide +kernel
theorem d_jdk_56_4_10 : decode jdk_56_method_4_code 10 = .ok (.arraylength, 1) := by decide +kernel
theorem d_jdk_56_4_11 : decode jdk_56_method_4_code 11 = .ok (.if_icmp .ge 18, 3) := by decide +kernel
theorem d_jdk_56_4_14 : decode jdk_56_method_4_code 14 = .ok (.aload_n 1, 1) := by decide +kernel
theorem d_jdk_56_4_15 : decode jdk_56_method_4_code 15 = .ok (.iload_n 2, 1) := by decide +kernel
theorem d_jdk_56_4_16 : decode jdk_56_method_4_code 16 = .ok (.aload_n 0, 1) := by decide +kernel
theorem d_jdk_56_4_17 : decode jdk_56_method_4_code 17 = .ok (.iload_n 2, 1) := by decide +kernel
theorem d_jdk_56_4_18 : decode jdk_56_method_4_code 18 = .ok (.aaload, 1) := by decide +kernel
theorem d_jdk_56_4_19 : decode jdk_56_method_4_code 19 = .ok (.invokestatic 37, 3) := by decide +kernel
theorem d_jdk_56_4_22 : decode jdk_56_method_4_code 22 = .ok (.aastore, 1) := by decide +kernel
theorem d_jdk_56_4_23 : decode jdk_56_method_4_code 23 = .ok (.iinc 2 1, 3) := by decide +kernel
theorem d_jdk_56_4_26 : decode jdk_56_method_4_code 26 = .ok (.goto (-18), 3) := by decide +kernel
theorem d_jdk_56_4_29 : decode jdk_56_method_4_code 29 = .ok (.new 12, 3) := by decide +kernel
theorem d_jdk_56_4_32 : decode jdk_56_method_4_code 32 = .ok (.dup, 1) := by decide +kernel
theorem d_jdk_56_4_33 : decode jdk_56_method_4_code 33 = .ok (.aload_n 1, 1) := by decide +kernel
theorem d_jdk_56_4_34 : decode jdk_56_method_4_code 34 = .ok (.iconst 0, 1) := by decide +kernel
theorem d_jdk_56_4_35 : decode jdk_56_method_4_code 35 = .ok (.invokespecial 43, 3) := by decide +kernel
theorem own_pd10 : parseMethodDescriptor "([Ljava/lang/Object;Z)V" = some ⟨[(.array (.object "java/lang/Object")), .boolean], none⟩ := by decide +kernel
theorem d_jdk_56_4_38 : decode jdk_56_method_4_code 38 = .ok (.areturn, 1) := by decide +kernel
theorem own_ef37 (m : MethodId) (x0 : Addr)  : entryFrame m #[(.ref x0)] 3 = mkF m 0 #[rv x0, u_, u_] [] := by first | (simp [entryFrame, mkF, argsToLocals, Value.category]; done) | rfl
abbrev own_Q37 (Z : State) (bz : Addr) (kz : ClassId) (pga : Addr) (pgb : Addr) (pgc : Addr) (h0 : Heap) (n0 : Nat) (v : Option Value) (h : Heap) (L : List Loc) : Prop := ∃ r : Addr, ∃ ar : Addr, ∃ ka : ClassId, v = some (.ref r) ∧ Fr n0 L ∧ Keep h0 h [] ∧ h0.size ≤ r ∧ h0.size ≤ ar ∧ Exa Z h r "java/util/ImmutableCollections$ListN" ∧ Fld Z h r "java/util/ImmutableCollections$ListN" "elements" "[Ljava/lang/Object;" (.ref ar) ∧ Arv Z h ar ka (.object "java/lang/Object") (3 : Int32) [(.ref pga), (.ref pgb), (.ref pgc)] .null
set_option maxRecDepth 65536 in
set_option maxHeartbeats 40000000 in
theorem own_m37 (l : Launch) (Z : State) (a0 : Array Value) (hw : ∀ d ∈ tables_1, d.before a0 Z = true) (ws : List Jvm.Cond) (bz : Addr) (kz : ClassId) (pga : Addr) (pgb : Addr) (pgc : Addr) (h0 : Heap) (n0 : Nat) (O0 : Old Z n0 h0) (F_1 : Arv Z h0 bz kz (.object "java/lang/Object") (3 : Int32) [(.ref pga), (.ref pgb), (.ref pgc)] .null) (F_2 : Exa Z h0 pga "com/example/wakenitz/wakenitz/measure/ScoreSheet$PageScore") (F_3 : Exa Z h0 pgb "com/example/wakenitz/wakenitz/measure/ScoreSheet$PageScore") (F_4 : Exa Z h0 pgc "com/example/wakenitz/wakenitz/measure/ScoreSheet$PageScore") :
    Ctr l Z (⟨"java/util/ImmutableCollections", "listFromArray", "([Ljava/lang/Object;)Ljava/util/List;"⟩ : MethodName) jdk_56_method_4_code 3 (some (.object "java/util/List")) (Rm 5 2 5 63) #[(.ref bz)] h0 (own_Q37 Z bz kz pga pgb pgc h0 n0) ws := by
  refine MetFree.of_bodySF (plainFor_of_name own_pn13) hisR ?_
  intro p e s m args below meth c s₁ Bd hml0 hP hK
  obtain ⟨rfl, hZ, hh⟩ := hP
  have hx := Bd.exec
  have hby := Bd.bytes
  have hlk : meth.locks = false := Bd.notSynchronized
  have hml : c.maxLocals = 3 := hml0
  have hown : s.vm.findClass "java/util/ImmutableCollections" = some m.cls := findClass_of_methodNamed Bd.named
  have hnm := (name_of_methodNamed Bd.named Bd.method).1
  have X0 : Stand p l e (Rm 5 2 5 63) s m #[(.ref bz)] below meth c s₁ [] 0 0 := Stand.of_body Bd
  have e0 : s₁.heap = h0 := by rw [← hh, Bd.state]; rfl
  have N0 := Fr.nil n0
  show Goes p.tables e below (fun t o => ∃ v L, o = .returned v ∧ (own_Q37 Z bz kz pga pgb pgc h0 n0) v t.heap L ∧ FrameEnd s o t L ((Rm 5 2 5 63)).cells ((Rm 5 2 5 63)).slots) _
  refine Goes.via (B := s₁.setTop (mkF m 0 #[rv bz, u_, u_] [])) (fun t k => castTop (own_ef37 m bz) k) ?_
  refine Gv s₁ 1 [(.ref bz)] (fun t k => XS.aloadN X0.here hx rfl (hb hby d_jdk_56_4_0) rfl rfl k) ?_
  obtain ⟨cl1, Ar1, q1, S1, N1, H1, G1⟩ := id F_1
  refine Goes.via (B := s₁.setTop (mkF m 2 #[rv bz, u_, u_] [(.int (3 : Int32))])) (fun t k => X0.arraylength hx (by rw [e0]; exact Ar1.1) (State.isArrayOf_alike hZ.alike Ar1.2.1) (g := (mkF m 1 #[rv bz, u_, u_] [(.ref bz)])) rfl rfl (hb hby d_jdk_56_4_1) t (by rw [(len_of S1 N1)]; exact k)) ?_
  obtain ⟨T2, h2, k2, X2, e2, E2, A2, Ov2, st2⟩ := newR X0 hx hZ hown (W_ hw 182 rfl) (W_ hw 108 rfl) e0 (g := (mkF m 2 #[rv bz, u_, u_] [(.int (3 : Int32))])) rfl (hb hby d_jdk_56_4_2) rfl (by decide) (cap := 3) (by decide) (by decide) (by decide) (by decide)
  obtain ⟨b2, g2⟩ : ∃ z, z = h0.size := ⟨_, rfl⟩
  rw [← g2] at A2 st2
  have gn2 : n0 ≤ b2 := Nat.le_trans (old_le O0) (Nat.le_of_eq g2.symm)
  have gs2 : h0.size ≤ b2 := Nat.le_trans (Keep.refl h0 []).1 (Nat.le_of_eq g2.symm)
  have V2 : Arv Z h2 b2 k2 (.object "java/lang/Object") (3 : Int32) [.null, .null, .null] .null := (Arv.new A2 (by decide)).pad (pad_rep [] .null 3)
  refine Goes.via (B := T2.setTop (mkF m 5 #[rv bz, u_, u_] [(.ref b2)])) (fun t k => st2 _ k) ?_
  refine Gv T2 6 [] (fun t k => XS.astoreN X2.here hx rfl (hb hby d_jdk_56_4_5) rfl rfl (l' := #[rv bz, rv b2, u_]) rfl k) ?_
  refine Gv T2 7 [(.int (0 : Int32))] (fun t k => XS.iconst X2.here hx rfl (hb hby d_jdk_56_4_6) k) ?_
  refine Gv T2 8 [] (fun t k => XS.istoreN X2.here hx rfl (hb hby d_jdk_56_4_7) rfl (l' := #[rv bz, rv b2, iv (0 : Int32)]) rfl k) ?_
  refine Gv T2 9 [(.int (0 : Int32))] (fun t k => XS.iloadN X2.here hx rfl (hb hby d_jdk_56_4_8) rfl k) ?_
  refine Gv T2 10 [(.ref bz), (.int (0 : Int32))] (fun t k => XS.aloadN X2.here hx rfl (hb hby d_jdk_56_4_9) rfl rfl k) ?_
  obtain ⟨cl3, Ar3, q3, S3, N3, H3, G3⟩ := id (F_1.ext E2)
  refine Goes.via (B := T2.setTop (mkF m 11 #[rv bz, rv b2, iv (0 : Int32)] [(.int (3 : Int32)), (.int (0 : Int32))])) (fun t k => X2.arraylength hx (by rw [e2]; exact Ar3.1) (State.isArrayOf_alike hZ.alike Ar3.2.1) (g := (mkF m 10 #[rv bz, rv b2, iv (0 : Int32)] [(.ref bz), (.int (0 : Int32))])) rfl rfl (hb hby d_jdk_56_4_10) t (by rw [(len_of S3 N3)]; exact k)) ?_
  refine Gv T2 14 [] (fun t k => XS.icmpNo X2.here hx rfl (hb hby d_jdk_56_4_11) rfl (XT.ii_ge_f (by decide)) k) ?_
  refine Gv T2 15 [(.ref b2)] (fun t k => XS.aloadN X2.here hx rfl (hb hby d_jdk_56_4_14) rfl rfl k) ?_
  refine Gv T2 16 [(.int (0 : Int32)), (.ref b2)] (fun t k => XS.iloadN X2.here hx rfl (hb hby d_jdk_56_4_15) rfl k) ?_
  refine Gv T2 17 [(.ref bz), (.int (0 : Int32)), (.ref b2)] (fun t k => XS.aloadN X2.here hx rfl (hb hby d_jdk_56_4_16) rfl rfl k) ?_
  refine Gv T2 18 [(.int (0 : Int32)), (.ref bz), (.int (0 : Int32)), (.ref b2)] (fun t k => XS.iloadN X2.here hx rfl (hb hby d_jdk_56_4_17) rfl k) ?_
  obtain ⟨cl4, Ar4, q4, S4, N4, H4, G4⟩ := id (F_1.ext E2)
  have hin4 := inb_of (j := (0 : Int32)) S4 ⟨by decide, by decide⟩
  refine Goes.via (B := T2.setTop (mkF m 19 #[rv bz, rv b2, iv (0 : Int32)] [(.ref pga), (.int (0 : Int32)), (.ref b2)])) (fun t k => X2.aaload hx (j := (0 : Int32)) (v := (.ref pga)) (by rw [e2]; exact Ar4.1) (State.isArrayOf_alike hZ.alike Ar4.2.1) rfl Ar4.2.2 hin4 (H4.at hin4 rfl) (g := (mkF m 18 #[rv bz, rv b2, iv (0 : Int32)] [(.int (0 : Int32)), (.ref bz), (.int (0 : Int32)), (.ref b2)])) rfl rfl (hb hby d_jdk_56_4_18) t k) ?_
  obtain ⟨_, T5, L5, X5, ⟨rfl, M5, K5⟩, st5⟩ := callStatic X2 hx hZ hown (W_ hw 183 rfl) (W_ hw 184 rfl) (W_ hw 185 rfl) (W_ hw 186 rfl) (by decide) (argsL := [(.ref pga)]) (rest := [(.int (0 : Int32)), (.ref b2)]) (own_m31 l Z a0 hw [] pga h2 n0 (O0.ext E2) ) e2 (lenOf own_pd9 rfl) (pc := 19) (Ls := #[rv bz, rv b2, iv (0 : Int32)]) (st := [(.ref pga), (.int (0 : Int32)), (.ref b2)]) rfl (by rw [hml]; rfl) (hb hby d_jdk_56_4_19) (W := 2) (Nat.le_of_eq rfl) (by decide) (by decide) (by decide) (by decide)
  have N5 := Fr.app N0 M5
  refine Goes.via (B := T5.setTop (mkF m 22 #[rv bz, rv b2, iv (0 : Int32)] [(.ref pga), (.int (0 : Int32)), (.ref b2)])) (fun t k => st5 _ k) ?_
  obtain ⟨cl6, Ar6, q6, S6, N6, H6, G6⟩ := id V2
  obtain ⟨T6, h6, X6, e6, W6, st6⟩ := stR X5 hx hZ K5 Ar6 (j := (0 : Int32)) (inb_of S6 ⟨by decide, by decide⟩) rfl (Sto.ofV Ar6 q6 Ov2 (Ins.of_exa (F_2.ext E2) (W_ hw 109 rfl))) (g := (mkF m 22 #[rv bz, rv b2, iv (0 : Int32)] [(.ref pga), (.int (0 : Int32)), (.ref b2)])) rfl rfl (hb hby d_jdk_56_4_22)
  have Nf6 := Fr.snoc X6 N5 gn2
  have V6 : Arv Z h6 b2 k2 (.object "java/lang/Object") (3 : Int32) [(.ref pga), .null, .null] .null := Arv.set Ar6 q6 S6 N6 H6 G6 rfl W6 0 rfl (Nat.le_of_ble_eq_true rfl)
  refine Goes.via (B := T6.setTop (mkF m 23 #[rv bz, rv b2, iv (0 : Int32)] [])) (fun t k => st6 _ k) ?_
  refine Gv T6 26 [] (fun t k => XS.iinc X6.here hx rfl (hb hby d_jdk_56_4_23) rfl (l' := #[rv bz, rv b2, iv ((0 : Int32) + (1 : Int32))]) rfl k) ?_
  refine Gv T6 8 [] (fun t k => XS.goto X6.here hx rfl (pc0 := 26) (pc' := 8) rfl (hb hby d_jdk_56_4_26) (by decide) (by decide) k) ?_
  have q7 : ((0 : Int32) + (1 : Int32)) = (1 : Int32) := rfl
  rw [q7]
  refine Gv T6 9 [(.int (1 : Int32))] (fun t k => XS.iloadN X6.here hx rfl (hb hby d_jdk_56_4_8) rfl k) ?_
  refine Gv T6 10 [(.ref bz), (.int (1 : Int32))] (fun t k => XS.aloadN X6.here hx rfl (hb hby d_jdk_56_4_9) rfl rfl k) ?_
  have c8 : Arv Z h6 bz kz (.object "java/lang/Object") (3 : Int32) [(.ref pga), (.ref pgb), (.ref pgc)] .null := (Arv.other (F_1.ext E2) W6 (Nat.ne_of_lt (Nat.lt_of_lt_of_le F_1.lt (Nat.le_of_eq g2.symm))))
  obtain ⟨cl9, Ar9, q9, S9, N9, H9, G9⟩ := id c8
  refine Goes.via (B := T6.setTop (mkF m 11 #[rv bz, rv b2, iv (1 : Int32)] [(.int (3 : Int32)), (.int (1 : Int32))])) (fun t k => X6.arraylength hx (by rw [e6]; exact Ar9.1) (State.isArrayOf_alike hZ.alike Ar9.2.1) (g := (mkF m 10 #[rv bz, rv b2, iv (1 : Int32)] [(.ref bz), (.int (1 : Int32))])) rfl rfl (hb hby d_jdk_56_4_10) t (by rw [(len_of S9 N9)]; exact k)) ?_
  refine Gv T6 14 [] (fun t k => XS.icmpNo X6.here hx rfl (hb hby d_jdk_56_4_11) rfl (XT.ii_ge_f (by decide)) k) ?_
  refine Gv T6 15 [(.ref b2)] (fun t k => XS.aloadN X6.here hx rfl (hb hby d_jdk_56_4_14) rfl rfl k) ?_
  refine Gv T6 16 [(.int (1 : Int32)), (.ref b2)] (fun t k => XS.iloadN X6.here hx rfl (hb hby d_jdk_56_4_15) rfl k) ?_
  refine Gv T6 17 [(.ref bz), (.int (1 : Int32)), (.ref b2)] (fun t k => XS.aloadN X6.here hx rfl (hb hby d_jdk_56_4_16) rfl rfl k) ?_
  refine Gv T6 18 [(.int (1 : Int32)), (.ref bz), (.int (1 : Int32)), (.ref b2)] (fun t k => XS.iloadN X6.here hx rfl (hb hby d_jdk_56_4_17) rfl k) ?_
  obtain ⟨cl10, Ar10, q10, S10, N10, H10, G10⟩ := id c8
  have hin10 := inb_of (j := (1 : Int32)) S10 ⟨by decide, by decide⟩
  refine Goes.via (B := T6.setTop (mkF m 19 #[rv bz, rv b2, iv (1 : Int32)] [(.ref pgb), (.int (1 : Int32)), (.ref b2)])) (fun t k => X6.aaload hx (j := (1 : Int32)) (v := (.ref pgb)) (by rw [e6]; exact Ar10.1) (State.isArrayOf_alike hZ.alike Ar10.2.1) rfl Ar10.2.2 hin10 (H10.at hin10 rfl) (g := (mkF m 18 #[rv bz, rv b2, iv (1 : Int32)] [(.int (1 : Int32)), (.ref bz), (.int (1 : Int32)), (.ref b2)])) rfl rfl (hb hby d_jdk_56_4_18) t k) ?_
  obtain ⟨_, T11, L11, X11, ⟨rfl, M11, K11⟩, st11⟩ := callStatic X6 hx hZ hown (W_ hw 183 rfl) (W_ hw 184 rfl) (W_ hw 185 rfl) (W_ hw 186 rfl) (by decide) (argsL := [(.ref pgb)]) (rest := [(.int (1 : Int32)), (.ref b2)]) (own_m31 l Z a0 hw [] pgb h6 n0 ((O0.ext E2).wr W6 gn2) ) e6 (lenOf own_pd9 rfl) (pc := 19) (Ls := #[rv bz, rv b2, iv (1 : Int32)]) (st := [(.ref pgb), (.int (1 : Int32)), (.ref b2)]) rfl (by rw [hml]; rfl) (hb hby d_jdk_56_4_19) (W := 2) (Nat.le_of_eq rfl) (by decide) (by decide) (by decide) (by decide)
  have N11 := Fr.app Nf6 M11
  refine Goes.via (B := T11.setTop (mkF m 22 #[rv bz, rv b2, iv (1 : Int32)] [(.ref pgb), (.int (1 : Int32)), (.ref b2)])) (fun t k => st11 _ k) ?_
  obtain ⟨cl12, Ar12, q12, S12, N12, H12, G12⟩ := id V6
  obtain ⟨T12, h12, X12, e12, W12, st12⟩ := stR X11 hx hZ K11 Ar12 (j := (1 : Int32)) (inb_of S12 ⟨by decide, by decide⟩) rfl (Sto.ofV Ar12 q12 Ov2 (Ins.of_exa (Exa.wr W6 (F_3.ext E2)) (W_ hw 109 rfl))) (g := (mkF m 22 #[rv bz, rv b2, iv (1 : Int32)] [(.ref pgb), (.int (1 : Int32)), (.ref b2)])) rfl rfl (hb hby d_jdk_56_4_22)
  have Nf12 := Fr.snoc X12 N11 gn2
  have V12 : Arv Z h12 b2 k2 (.object "java/lang/Object") (3 : Int32) [(.ref pga), (.ref pgb), .null] .null := Arv.set Ar12 q12 S12 N12 H12 G12 rfl W12 1 rfl (Nat.le_of_ble_eq_true rfl)
  refine Goes.via (B := T12.setTop (mkF m 23 #[rv bz, rv b2, iv (1 : Int32)] [])) (fun t k => st12 _ k) ?_
  refine Gv T12 26 [] (fun t k => XS.iinc X12.here hx rfl (hb hby d_jdk_56_4_23) rfl (l' := #[rv bz, rv b2, iv ((1 : Int32) + (1 : Int32))]) rfl k) ?_
  refine Gv T12 8 [] (fun t k => XS.goto X12.here hx rfl (pc0 := 26) (pc' := 8) rfl (hb hby d_jdk_56_4_26) (by decide) (by decide) k) ?_
  have q13 : ((1 : Int32) + (1 : Int32)) = (2 : Int32) := rfl
  rw [q13]
  refine Gv T12 9 [(.int (2 : Int32))] (fun t k => XS.iloadN X12.here hx rfl (hb hby d_jdk_56_4_8) rfl k) ?_
  refine Gv T12 10 [(.ref bz), (.int (2 : Int32))] (fun t k => XS.aloadN X12.here hx rfl (hb hby d_jdk_56_4_9) rfl rfl k) ?_
  have c14 : Arv Z h12 bz kz (.object "java/lang/Object") (3 : Int32) [(.ref pga), (.ref pgb), (.ref pgc)] .null := (Arv.other c8 W12 (Nat.ne_of_lt (Nat.lt_of_lt_of_le F_1.lt (Nat.le_of_eq g2.symm))))
  obtain ⟨cl15, Ar15, q15, S15, N15, H15, G15⟩ := id c14
  refine Goes.via (B := T12.setTop (mkF m 11 #[rv bz, rv b2, iv (2 : Int32)] [(.int (3 : Int32)), (.int (2 : Int32))])) (fun t k => X12.arraylength hx (by rw [e12]; exact Ar15.1) (State.isArrayOf_alike hZ.alike Ar15.2.1) (g := (mkF m 10 #[rv bz, rv b2, iv (2 : Int32)] [(.ref bz), (.int (2 : Int32))])) rfl rfl (hb hby d_jdk_56_4_10) t (by rw [(len_of S15 N15)]; exact k)) ?_
  refine Gv T12 14 [] (fun t k => XS.icmpNo X12.here hx rfl (hb hby d_jdk_56_4_11) rfl (XT.ii_ge_f (by decide)) k) ?_
  refine Gv T12 15 [(.ref b2)] (fun t k => XS.aloadN X12.here hx rfl (hb hby d_jdk_56_4_14) rfl rfl k) ?_
  refine Gv T12 16 [(.int (2 : Int32)), (.ref b2)] (fun t k => XS.iloadN X12.here hx rfl (hb hby d_jdk_56_4_15) rfl k) ?_
  refine Gv T12 17 [(.ref bz), (.int (2 : Int32)), (.ref b2)] (fun t k => XS.aloadN X12.here hx rfl (hb hby d_jdk_56_4_16) rfl rfl k) ?_
  refine Gv T12 18 [(.int (2 : Int32)), (.ref bz), (.int (2 : Int32)), (.ref b2)] (fun t k => XS.iloadN X12.here hx rfl (hb hby d_jdk_56_4_17) rfl k) ?_
  obtain ⟨cl16, Ar16, q16, S16, N16, H16, G16⟩ := id c14
  have hin16 := inb_of (j := (2 : Int32)) S16 ⟨by decide, by decide⟩
  refine Goes.via (B := T12.setTop (mkF m 19 #[rv bz, rv b2, iv (2 : Int32)] [(.ref pgc), (.int (2 : Int32)), (.ref b2)])) (fun t k => X12.aaload hx (j := (2 : Int32)) (v := (.ref pgc)) (by rw [e12]; exact Ar16.1) (State.isArrayOf_alike hZ.alike Ar16.2.1) rfl Ar16.2.2 hin16 (H16.at hin16 rfl) (g := (mkF m 18 #[rv bz, rv b2, iv (2 : Int32)] [(.int (2 : Int32)), (.ref bz), (.int (2 : Int32)), (.ref b2)])) rfl rfl (hb hby d_jdk_56_4_18) t k) ?_
  obtain ⟨_, T17, L17, X17, ⟨rfl, M17, K17⟩, st17⟩ := callStatic X12 hx hZ hown (W_ hw 183 rfl) (W_ hw 184 rfl) (W_ hw 185 rfl) (W_ hw 186 rfl) (by decide) (argsL := [(.ref pgc)]) (rest := [(.int (2 : Int32)), (.ref b2)]) (own_m31 l Z a0 hw [] pgc h12 n0 (((O0.ext E2).wr W6 gn2).wr W12 gn2) ) e12 (lenOf own_pd9 rfl) (pc := 19) (Ls := #[rv bz, rv b2, iv (2 : Int32)]) (st := [(.ref pgc), (.int (2 : Int32)), (.ref b2)]) rfl (by rw [hml]; rfl) (hb hby d_jdk_56_4_19) (W := 2) (Nat.le_of_eq rfl) (by decide) (by decide) (by decide) (by decide)
  have N17 := Fr.app Nf12 M17
  refine Goes.via (B := T17.setTop (mkF m 22 #[rv bz, rv b2, iv (2 : Int32)] [(.ref pgc), (.int (2 : Int32)), (.ref b2)])) (fun t k => st17 _ k) ?_
  obtain ⟨cl18, Ar18, q18, S18, N18, H18, G18⟩ := id V12
  obtain ⟨T18, h18, X18, e18, W18, st18⟩ := stR X17 hx hZ K17 Ar18 (j := (2 : Int32)) (inb_of S18 ⟨by decide, by decide⟩) rfl (Sto.ofV Ar18 q18 Ov2 (Ins.of_exa (Exa.wr W12 (Exa.wr W6 (F_4.ext E2))) (W_ hw 109 rfl))) (g := (mkF m 22 #[rv bz, rv b2, iv (2 : Int32)] [(.ref pgc), (.int (2 : Int32)), (.ref b2)])) rfl rfl (hb hby d_jdk_56_4_22)
  have Nf18 := Fr.snoc X18 N17 gn2
  have V18 : Arv Z h18 b2 k2 (.object "java/lang/Object") (3 : Int32) [(.ref pga), (.ref pgb), (.ref pgc)] .null := Arv.set Ar18 q18 S18 N18 H18 G18 rfl W18 2 rfl (Nat.le_of_ble_eq_true rfl)
  refine Goes.via (B := T18.setTop (mkF m 23 #[rv bz, rv b2, iv (2 : Int32)] [])) (fun t k => st18 _ k) ?_
  refine Gv T18 26 [] (fun t k => XS.iinc X18.here hx rfl (hb hby d_jdk_56_4_23) rfl (l' := #[rv bz, rv b2, iv ((2 : Int32) + (1 : Int32))]) rfl k) ?_
  refine Gv T18 8 [] (fun t k => XS.goto X18.here hx rfl (pc0 := 26) (pc' := 8) rfl (hb hby d_jdk_56_4_26) (by decide) (by decide) k) ?_
  have q19 : ((2 : Int32) + (1 : Int32)) = (3 : Int32) := rfl
  rw [q19]
  refine Gv T18 9 [(.int (3 : Int32))] (fun t k => XS.iloadN X18.here hx rfl (hb hby d_jdk_56_4_8) rfl k) ?_
  refine Gv T18 10 [(.ref bz), (.int (3 : Int32))] (fun t k => XS.aloadN X18.here hx rfl (hb hby d_jdk_56_4_9) rfl rfl k) ?_
  have c20 : Arv Z h18 bz kz (.object "java/lang/Object") (3 : Int32) [(.ref pga), (.ref pgb), (.ref pgc)] .null := (Arv.other c14 W18 (Nat.ne_of_lt (Nat.lt_of_lt_of_le F_1.lt (Nat.le_of_eq g2.symm))))
  obtain ⟨cl21, Ar21, q21, S21, N21, H21, G21⟩ := id c20
  refine Goes.via (B := T18.setTop (mkF m 11 #[rv bz, rv b2, iv (3 : Int32)] [(.int (3 : Int32)), (.int (3 : Int32))])) (fun t k => X18.arraylength hx (by rw [e18]; exact Ar21.1) (State.isArrayOf_alike hZ.alike Ar21.2.1) (g := (mkF m 10 #[rv bz, rv b2, iv (3 : Int32)] [(.ref bz), (.int (3 : Int32))])) rfl rfl (hb hby d_jdk_56_4_10) t (by rw [(len_of S21 N21)]; exact k)) ?_
  refine Gv T18 29 [] (fun t k => XS.icmpYes X18.here hx rfl (pc0 := 11) (pc' := 29) rfl (hb hby d_jdk_56_4_11) rfl (XT.ii_ge_t (by decide)) (by decide) (by decide) k) ?_
  obtain ⟨T22, h22, X22, e22, E22, A22, D22, U22, st22⟩ := newO X18 hx hZ hown (W_ hw 140 rfl) (W_ hw 187 rfl) (W_ hw 188 rfl) e18 (g := (mkF m 29 #[rv bz, rv b2, iv (3 : Int32)] [])) rfl (hb hby d_jdk_56_4_29) (by decide) (by decide)
  obtain ⟨b22, g22⟩ : ∃ z, z = h18.size := ⟨_, rfl⟩
  rw [← g22] at A22 D22 U22 st22
  have gn22 : n0 ≤ b22 := Nat.le_trans (old_le ((((O0.ext E2).wr W6 gn2).wr W12 gn2).wr W18 gn2)) (Nat.le_of_eq g22.symm)
  have gs22 : h0.size ≤ b22 := Nat.le_trans (((((Keep.refl h0 []).ext E2).wr W6 (Or.inr gs2)).wr W12 (Or.inr gs2)).wr W18 (Or.inr gs2)).1 (Nat.le_of_eq g22.symm)
  have F22_elements : Fld Z h22 b22 "java/util/ImmutableCollections$ListN" "elements" "[Ljava/lang/Object;" .null := D22 (Or.inr (W_ hw 208 rfl)) (ty := (.array (.object "java/lang/Object"))) (by decide)
  have F22_allowNulls : Fld Z h22 b22 "java/util/ImmutableCollections$ListN" "allowNulls" "Z" (.int (0 : Int32)) := D22 (Or.inr (W_ hw 210 rfl)) (ty := .boolean) (by decide)
  refine Goes.via (B := T22.setTop (mkF m 32 #[rv bz, rv b2, iv (3 : Int32)] [(.ref b22)])) (fun t k => st22 _ k) ?_
  refine Gv T22 33 [(.ref b22), (.ref b22)] (fun t k => XS.dup X22.here hx rfl (hb hby d_jdk_56_4_32) rfl rfl k) ?_
  refine Gv T22 34 [(.ref b2), (.ref b22), (.ref b22)] (fun t k => XS.aloadN X22.here hx rfl (hb hby d_jdk_56_4_33) rfl rfl k) ?_
  refine Gv T22 35 [(.int (0 : Int32)), (.ref b2), (.ref b22), (.ref b22)] (fun t k => XS.iconst X22.here hx rfl (hb hby d_jdk_56_4_34) k) ?_
  obtain ⟨_, T23, L23, X23, ⟨rfl, M23, K23, f23_0, f23_1⟩, st23⟩ := callInitN X22 hx hZ rfl hown (W_ hw 189 rfl) (W_ hw 190 rfl) (W_ hw 188 rfl) (W_ hw 192 rfl) (by decide) (argsL := [(.ref b2), (.int (0 : Int32))]) (rest := [(.ref b22)]) (own_m36 l Z a0 hw [] b22 b2 h22 n0 (((((O0.ext E2).wr W6 gn2).wr W12 gn2).wr W18 gn2).ext E22) gn22 A22 F22_elements F22_allowNulls) e22 (lenOf own_pd10 rfl) (pc := 35) (Ls := #[rv bz, rv b2, iv (3 : Int32)]) (st := [(.int (0 : Int32)), (.ref b2), (.ref b22), (.ref b22)]) rfl (by rw [hml]; rfl) (hb hby d_jdk_56_4_35) (W := 1) (Nat.le_of_eq rfl) (by decide) (by decide) (by decide) (by decide)
  have N23 := Fr.app Nf18 M23
  refine Goes.via (B := T23.setTop (mkF m 38 #[rv bz, rv b2, iv (3 : Int32)] [(.ref b22)])) (fun t k => st23 _ k) ?_
  have c24 : Arv Z T23.heap b2 k2 (.object "java/lang/Object") (3 : Int32) [(.ref pga), (.ref pgb), (.ref pgc)] .null := ((V18.ext E22).keep K23 (ninS (Nat.ne_of_lt (Nat.lt_of_lt_of_le (Nat.le_trans (Nat.le_trans (Nat.le_trans V2.lt (Nat.le_of_eq (Wr.size W6).symm)) (Nat.le_of_eq (Wr.size W12).symm)) (Nat.le_of_eq (Wr.size W18).symm)) (Nat.le_of_eq g22.symm))) nin0))
  exact finA (Q := (own_Q37 Z bz kz pga pgb pgc h0 n0)) (F := FrameEnd) (C := ((Rm 5 2 5 63)).cells) (S := ((Rm 5 2 5 63)).slots) X23 hx Bd.returns rfl rfl rfl (hb hby d_jdk_56_4_38) rfl ⟨b22, b2, k2, rfl, N23, (((((((Keep.refl h0 []).ext E2).wr W6 (Or.inr gs2)).wr W12 (Or.inr gs2)).wr W18 (Or.inr gs2)).ext E22).trans K23 (allS (Or.inr gs22) all0)), gs22, gs2, f23_0, f23_1, c24⟩ (lvN X23 hlk (by decide) (by decide))
theorem own_pn14 : plainName "java/util/List" = true := by first | (simp [plainName, overriddenIn]; done) | decide +kernel
theorem d_jdk_40_47_0 : decode jdk_40_method_47_code 0 = .ok (.aload_n 0, 1) := by decide +kernel
theorem d_jdk_40_47_1 : decode jdk_40_method_47_code 1 = .ok (.arraylength, 1) := by decide +kernel
theorem d_jdk_40_47_2 : decode jdk_40_method_47_code 2 = .ok (.tableswitch 57 0 2 #[26, 32, 43], 26) := by decide +kernel
theorem d_jdk_40_47_34 : decode jdk_40_method_47_code 34 = .ok (.new 96, 3) := by decide +kernel
theorem d_jdk_40_47_37 : decode jdk_40_method_47_code 37 = .ok (.dup, 1) := by decide +kernel
theorem d_jdk_40_47_38 : decode jdk_40_method_47_code 38 = .ok (.aload_n 0, 1) := by decide +kernel
theorem d_jdk_40_47_39 : decode jdk_40_method_47_code 39 = .ok (.iconst 0, 1) := by decide +kernel
theorem d_jdk_40_47_40 : decode jdk_40_method_47_code 40 = .ok (.aaload, 1) := by decide +kernel
theorem d_jdk_40_47_41 : decode jdk_40_method_47_code 41 = .ok (.invokespecial 98, 3) := by decide +kernel
theorem own_pd11 : parseMethodDescriptor "(Ljava/lang/Object;)V" = some ⟨[(.object "java/lang/Object")], none⟩ := by decide +kernel
theorem d_jdk_40_47_44 : decode jdk_40_method_47_code 44 = .ok (.areturn, 1) := by decide +kernel
theorem own_ef38 (m : MethodId) (x0 : Addr)  : entryFrame m #[(.ref x0)] 2 = mkF m 0 #[rv x0, u_] [] := by first | (simp [entryFrame, mkF, argsToLocals, Value.category]; done) | rfl
abbrev own_Q38 (Z : State) (bz : Addr) (kz : ClassId) (pga : Addr) (em : Addr) (h0 : Heap) (n0 : Nat) (v : Option Value) (h : Heap) (L : List Loc) : Prop := ∃ r : Addr, v = some (.ref r) ∧ Fr n0 L ∧ Keep h0 h [] ∧ h0.size ≤ r ∧ Exa Z h r "java/util/ImmutableCollections$List12" ∧ Fld Z h r "java/util/ImmutableCollections$List12" "e0" "Ljava/lang/Object;" (.ref pga) ∧ Fld Z h r "java/util/ImmutableCollections$List12" "e1" "Ljava/lang/Object;" (.ref em)
set_option maxRecDepth 65536 in
set_option maxHeartbeats 40000000 in
theorem own_m38 (l : Launch) (Z : State) (a0 : Array Value) (hw : ∀ d ∈ tables_1, d.before a0 Z = true) (ws : List Jvm.Cond) (bz : Addr) (kz : ClassId) (pga : Addr) (em : Addr) (h0 : Heap) (n0 : Nat) (O0 : Old Z n0 h0) (O_1 : Sta Z Z.heap "java/util/ImmutableCollections" "EMPTY" "Ljava/lang/Object;" (.ref em)) (F_1 : Arv Z h0 bz kz (.object "java/lang/Object") (1 : Int32) [(.ref pga)] .null) (F_2 : Exa Z h0 pga "com/example/wakenitz/wakenitz/measure/ScoreSheet$PageScore") :
    Ctr l Z (⟨"java/util/List", "of", "([Ljava/lang/Object;)Ljava/util/List;"⟩ : MethodName) jdk_40_method_47_code 2 (some (.object "java/util/List")) (Rm 5 1 2 62) #[(.ref bz)] h0 (own_Q38 Z bz kz pga em h0 n0) ws := by
  refine MetFree.of_bodySF (plainFor_of_name own_pn14) hisR ?_
  intro p e s m args below meth c s₁ Bd hml0 hP hK
  obtain ⟨rfl, hZ, hh⟩ := hP
  have hx := Bd.exec
  have hby := Bd.bytes
  have hlk : meth.locks = false := Bd.notSynchronized
  have hml : c.maxLocals = 2 := hml0
  have hown : s.vm.findClass "java/util/List" = some m.cls := findClass_of_methodNamed Bd.named
  have hnm := (name_of_methodNamed Bd.named Bd.method).1
  have X0 : Stand p l e (Rm 5 1 2 62) s m #[(.ref bz)] below meth c s₁ [] 0 0 := Stand.of_body Bd
  have e0 : s₁.heap = h0 := by rw [← hh, Bd.state]; rfl
  have N0 := Fr.nil n0
  show Goes p.tables e below (fun t o => ∃ v L, o = .returned v ∧ (own_Q38 Z bz kz pga em h0 n0) v t.heap L ∧ FrameEnd s o t L ((Rm 5 1 2 62)).cells ((Rm 5 1 2 62)).slots) _
  refine Goes.via (B := s₁.setTop (mkF m 0 #[rv bz, u_] [])) (fun t k => castTop (own_ef38 m bz) k) ?_
  refine Gv s₁ 1 [(.ref bz)] (fun t k => XS.aloadN X0.here hx rfl (hb hby d_jdk_40_47_0) rfl rfl k) ?_
  obtain ⟨cl1, Ar1, q1, S1, N1, H1, G1⟩ := id F_1
  refine Goes.via (B := s₁.setTop (mkF m 2 #[rv bz, u_] [(.int (1 : Int32))])) (fun t k => X0.arraylength hx (by rw [e0]; exact Ar1.1) (State.isArrayOf_alike hZ.alike Ar1.2.1) (g := (mkF m 1 #[rv bz, u_] [(.ref bz)])) rfl rfl (hb hby d_jdk_40_47_1) t (by rw [(len_of S1 N1)]; exact k)) ?_
  refine Gv s₁ 34 [] (fun t k => XS.tswIn X0.here hx rfl (pc0 := 2) (pc' := 34) rfl (hb hby d_jdk_40_47_2) rfl (by decide) rfl (by decide) (by decide) k) ?_
  obtain ⟨T2, h2, X2, e2, E2, A2, D2, U2, st2⟩ := newO X0 hx hZ hown (W_ hw 319 rfl) (W_ hw 320 rfl) (W_ hw 321 rfl) e0 (g := (mkF m 34 #[rv bz, u_] [])) rfl (hb hby d_jdk_40_47_34) (by decide) (by decide)
  obtain ⟨b2, g2⟩ : ∃ z, z = h0.size := ⟨_, rfl⟩
  rw [← g2] at A2 D2 U2 st2
  have gn2 : n0 ≤ b2 := Nat.le_trans (old_le O0) (Nat.le_of_eq g2.symm)
  have gs2 : h0.size ≤ b2 := Nat.le_trans (Keep.refl h0 []).1 (Nat.le_of_eq g2.symm)
  have F2_e0 : Fld Z h2 b2 "java/util/ImmutableCollections$List12" "e0" "Ljava/lang/Object;" .null := D2 (Or.inr (W_ hw 332 rfl)) (ty := (.object "java/lang/Object")) (by decide)
  have F2_e1 : Fld Z h2 b2 "java/util/ImmutableCollections$List12" "e1" "Ljava/lang/Object;" .null := D2 (Or.inr (W_ hw 335 rfl)) (ty := (.object "java/lang/Object")) (by decide)
  refine Goes.via (B := T2.setTop (mkF m 37 #[rv bz, u_] [(.ref b2)])) (fun t k => st2 _ k) ?_
  refine Gv T2 38 [(.ref b2), (.ref b2)] (fun t k => XS.dup X2.here hx rfl (hb hby d_jdk_40_47_37) rfl rfl k) ?_
  refine Gv T2 39 [(.ref bz), (.ref b2), (.ref b2)] (fun t k => XS.aloadN X2.here hx rfl (hb hby d_jdk_40_47_38) rfl rfl k) ?_
  refine Gv T2 40 [(.int (0 : Int32)), (.ref bz), (.ref b2), (.ref b2)] (fun t k => XS.iconst X2.here hx rfl (hb hby d_jdk_40_47_39) k) ?_
  obtain ⟨cl3, Ar3, q3, S3, N3, H3, G3⟩ := id (F_1.ext E2)
  have hin3 := inb_of (j := (0 : Int32)) S3 ⟨by decide, by decide⟩
  refine Goes.via (B := T2.setTop (mkF m 41 #[rv bz, u_] [(.ref pga), (.ref b2), (.ref b2)])) (fun t k => X2.aaload hx (j := (0 : Int32)) (v := (.ref pga)) (by rw [e2]; exact Ar3.1) (State.isArrayOf_alike hZ.alike Ar3.2.1) rfl Ar3.2.2 hin3 (H3.at hin3 rfl) (g := (mkF m 40 #[rv bz, u_] [(.int (0 : Int32)), (.ref bz), (.ref b2), (.ref b2)])) rfl rfl (hb hby d_jdk_40_47_40) t k) ?_
  obtain ⟨_, T4, L4, X4, ⟨rfl, M4, K4, f4_0, f4_1, f4_2⟩, st4⟩ := callInit X2 hx hZ rfl hown (W_ hw 322 rfl) (W_ hw 323 rfl) (W_ hw 321 rfl) (W_ hw 325 rfl) (by decide) (argsL := [(.ref pga)]) (rest := [(.ref b2)]) (own_m34 l Z a0 hw [] b2 pga em h2 n0 (O0.ext E2) gn2 O_1 A2 F2_e0 F2_e1) e2 (lenOf own_pd11 rfl) (pc := 41) (Ls := #[rv bz, u_]) (st := [(.ref pga), (.ref b2), (.ref b2)]) rfl (by rw [hml]; rfl) (hb hby d_jdk_40_47_41) (W := 1) (Nat.le_of_eq rfl) (by decide) (by decide) (by decide) (by decide)
  have N4 := Fr.app N0 M4
  refine Goes.via (B := T4.setTop (mkF m 44 #[rv bz, u_] [(.ref b2)])) (fun t k => st4 _ k) ?_
  exact finA (Q := (own_Q38 Z bz kz pga em h0 n0)) (F := FrameEnd) (C := ((Rm 5 1 2 62)).cells) (S := ((Rm 5 1 2 62)).slots) X4 hx Bd.returns rfl rfl rfl (hb hby d_jdk_40_47_44) rfl ⟨b2, rfl, N4, (((Keep.refl h0 []).ext E2).trans K4 (allS (Or.inr gs2) all0)), gs2, f4_0, f4_1, f4_2⟩ (lvN X4 hlk (by decide) (by decide))
theorem d_jdk_56_3_0 : decode jdk_56_method_3_code 0 = .ok (.aload_n 0, 1) := by decide +kernel
theorem d_jdk_56_3_1 : decode jdk_56_method_3_code 1 = .ok (.instanceof 10, 3) := by decide +kernel
theorem d_jdk_56_3_4 : decode jdk_56_method_3_code 4 = .ok (.ifCond .ne 22, 3) := by decide +kernel
theorem d_jdk_56_3_7 : decode jdk_56_method_3_code 7 = .ok (.aload_n 0, 1) := by decide +kernel
theorem d_jdk_56_3_8 : decode jdk_56_method_3_code 8 = .ok (.instanceof 12, 3) := by decide +kernel
theorem d_jdk_56_3_11 : decode jdk_56_method_3_code 11 = .ok (.ifCond .eq 20, 3) := by decide +kernel
theorem d_jdk_56_3_31 : decode jdk_56_method_3_code 31 = .ok (.aload_n 0, 1) := by decide +kernel
theorem d_jdk_56_3_32 : decode jdk_56_method_3_code 32 = .ok (.invokeinterface 20 1, 5) := by decide +kernel
theorem own_pd12 : parseMethodDescriptor "()Z" = some ⟨[], some .boolean⟩ := by decide +kernel
theorem d_jdk_56_3_37 : decode jdk_56_method_3_code 37 = .ok (.ifCond .eq 7, 3) := by decide +kernel
theorem d_jdk_56_3_44 : decode jdk_56_method_3_code 44 = .ok (.aload_n 0, 1) := by decide +kernel
theorem d_jdk_56_3_45 : decode jdk_56_method_3_code 45 = .ok (.invokeinterface 30 1, 5) := by decide +kernel
theorem d_jdk_56_3_50 : decode jdk_56_method_3_code 50 = .ok (.invokestatic 34, 3) := by decide +kernel
theorem own_pd13 : parseMethodDescriptor "([Ljava/lang/Object;)Ljava/util/List;" = some ⟨[(.array (.object "java/lang/Object"))], some (.object "java/util/List")⟩ := by decide +kernel
theorem d_jdk_56_3_53 : decode jdk_56_method_3_code 53 = .ok (.areturn, 1) := by decide +kernel
theorem own_ef39 (m : MethodId) (x0 : Addr)  : entryFrame m #[(.ref x0)] 2 = mkF m 0 #[rv x0, u_] [] := by first | (simp [entryFrame, mkF, argsToLocals, Value.category]; done) | rfl
abbrev own_Q39 (Z : State) (a1 : Addr) (bz : Addr) (kz : ClassId) (x2 : Int32) (pga : Addr) (mr : Addr) (em : Addr) (h0 : Heap) (n0 : Nat) (v : Option Value) (h : Heap) (L : List Loc) : Prop := ∃ r : Addr, v = some (.ref r) ∧ Fr n0 L ∧ Keep h0 h [] ∧ h0.size ≤ r ∧ Exa Z h r "java/util/ImmutableCollections$List12" ∧ Fld Z h r "java/util/ImmutableCollections$List12" "e0" "Ljava/lang/Object;" (.ref pga) ∧ Fld Z h r "java/util/ImmutableCollections$List12" "e1" "Ljava/lang/Object;" (.ref em)
set_option maxRecDepth 65536 in
set_option maxHeartbeats 40000000 in
theorem own_m39 (l : Launch) (Z : State) (a0 : Array Value) (hw : ∀ d ∈ tables_1, d.before a0 Z = true) (ws : List Jvm.Cond) (a1 : Addr) (bz : Addr) (kz : ClassId) (x2 : Int32) (pga : Addr) (mr : Addr) (em : Addr) (h0 : Heap) (n0 : Nat) (O0 : Old Z n0 h0) (Mi : Mirr Z "[Ljava/lang/Object;" mr) (O_1 : Sta Z Z.heap "java/util/ImmutableCollections" "EMPTY" "Ljava/lang/Object;" (.ref em)) (F_1 : Exa Z h0 a1 "java/util/ArrayList") (F_2 : Fld Z h0 a1 "java/util/ArrayList" "elementData" "[Ljava/lang/Object;" (.ref bz)) (F_3 : Fld Z h0 a1 "java/util/ArrayList" "size" "I" (.int (1 : Int32))) (F_4 : Fld Z h0 a1 "java/util/AbstractList" "modCount" "I" (.int x2)) (F_5 : Arv Z h0 bz kz (.object "java/lang/Object") (10 : Int32) [(.ref pga), .null, .null, .null, .null, .null, .null, .null, .null, .null] .null) (F_6 : Exa Z h0 bz "[Ljava/lang/Object;") (F_7 : Exa Z h0 pga "com/example/wakenitz/wakenitz/measure/ScoreSheet$PageScore") :
    Ctr l Z (⟨"java/util/ImmutableCollections", "listCopy", "(Ljava/util/Collection;)Ljava/util/List;"⟩ : MethodName) jdk_56_method_3_code 2 (some (.object "java/util/List")) (Rm 6 2 3 75) #[(.ref a1)] h0 (own_Q39 Z a1 bz kz x2 pga mr em h0 n0) ws := by
  refine MetFree.of_bodySF (plainFor_of_name own_pn13) hisR ?_
  intro p e s m args below meth c s₁ Bd hml0 hP hK
  obtain ⟨rfl, hZ, hh⟩ := hP
  have hx := Bd.exec
  have hby := Bd.bytes
  have hlk : meth.locks = false := Bd.notSynchronized
  have hml : c.maxLocals = 2 := hml0
  have hown : s.vm.findClass "java/util/ImmutableCollections" = some m.cls := findClass_of_methodNamed Bd.named
  have hnm := (name_of_methodNamed Bd.named Bd.method).1
  have X0 : Stand p l e (Rm 6 2 3 75) s m #[(.ref a1)] below meth c s₁ [] 0 0 := Stand.of_body Bd
  have e0 : s₁.heap = h0 := by rw [← hh, Bd.state]; rfl
  have N0 := Fr.nil n0
  show Goes p.tables e below (fun t o => ∃ v L, o = .returned v ∧ (own_Q39 Z a1 bz kz x2 pga mr em h0 n0) v t.heap L ∧ FrameEnd s o t L ((Rm 6 2 3 75)).cells ((Rm 6 2 3 75)).slots) _
  refine Goes.via (B := s₁.setTop (mkF m 0 #[rv a1, u_] [])) (fun t k => castTop (own_ef39 m a1) k) ?_
  have hno1 := ns_no (W_ hw 136 rfl) (W_ hw 320 rfl) (NS.step (W_ hw 136 rfl) (NS.step (W_ hw 137 rfl) (NS.step (W_ hw 138 rfl) (ns_root (W_ hw 139 rfl) (W_ hw 320 rfl) (by decide)) (by decide)) (by decide)) (by decide)) (by decide)
  have hno2 := ns_no (W_ hw 136 rfl) (W_ hw 187 rfl) (NS.step (W_ hw 136 rfl) (NS.step (W_ hw 137 rfl) (NS.step (W_ hw 138 rfl) (ns_root (W_ hw 139 rfl) (W_ hw 187 rfl) (by decide)) (by decide)) (by decide)) (by decide)) (by decide)
  refine Gv s₁ 1 [(.ref a1)] (fun t k => XS.aloadN X0.here hx rfl (hb hby d_jdk_56_3_0) rfl rfl k) ?_
  obtain ⟨T1, X1, e1, st1⟩ := instNo X0 hx hZ hown (W_ hw 135 rfl) e0 F_1 hno1 (g := (mkF m 1 #[rv a1, u_] [(.ref a1)])) rfl rfl (hb hby d_jdk_56_3_1)
  refine Goes.via (B := T1.setTop (mkF m 4 #[rv a1, u_] [(.int (0 : Int32))])) (fun t k => st1 _ k) ?_
  refine Gv T1 7 [] (fun t k => XS.ifNo X1.here hx rfl (hb hby d_jdk_56_3_4) rfl (XT.i0_ne_f rfl) k) ?_
  refine Gv T1 8 [(.ref a1)] (fun t k => XS.aloadN X1.here hx rfl (hb hby d_jdk_56_3_7) rfl rfl k) ?_
  obtain ⟨T2, X2, e2, st2⟩ := instNo X1 hx hZ hown (W_ hw 140 rfl) e1 F_1 hno2 (g := (mkF m 8 #[rv a1, u_] [(.ref a1)])) rfl rfl (hb hby d_jdk_56_3_8)
  refine Goes.via (B := T2.setTop (mkF m 11 #[rv a1, u_] [(.int (0 : Int32))])) (fun t k => st2 _ k) ?_
  refine Gv T2 31 [] (fun t k => XS.ifYes X2.here hx rfl (pc0 := 11) (pc' := 31) rfl (hb hby d_jdk_56_3_11) rfl (XT.i0_eq_t rfl) (by decide) (by decide) k) ?_
  refine Gv T2 32 [(.ref a1)] (fun t k => XS.aloadN X2.here hx rfl (hb hby d_jdk_56_3_31) rfl rfl k) ?_
  obtain ⟨_, T3, L3, X3, ⟨rfl, M3, K3⟩, st3⟩ := callFace X2 hx hZ hown (W_ hw 141 rfl) (W_ hw 142 rfl) (mvT hZ (W_ hw 143 rfl)) (W_ hw 144 rfl) (W_ hw 123 rfl) (W_ hw 124 rfl) (W_ hw 125 rfl) (W_ hw 145 rfl) (W_ hw 3 rfl) (W_ hw 126 rfl) (by decide) (argsL := []) (rest := []) (own_m19 l Z a0 hw [] a1 h0 n0 O0 F_3) e2 F_1 (lenOf own_pd12 rfl) (pc := 32) (Ls := #[rv a1, u_]) (st := [(.ref a1)]) rfl (by rw [hml]; rfl) (hb hby d_jdk_56_3_32) (W := 0) (Nat.le_of_eq rfl) (by decide) (by decide) (by decide) (by decide)
  have N3 := Fr.app N0 M3
  refine Goes.via (B := T3.setTop (mkF m 37 #[rv a1, u_] [(.int (0 : Int32))])) (fun t k => st3 _ k) ?_
  refine Gv T3 44 [] (fun t k => XS.ifYes X3.here hx rfl (pc0 := 37) (pc' := 44) rfl (hb hby d_jdk_56_3_37) rfl (XT.i0_eq_t rfl) (by decide) (by decide) k) ?_
  refine Gv T3 45 [(.ref a1)] (fun t k => XS.aloadN X3.here hx rfl (hb hby d_jdk_56_3_44) rfl rfl k) ?_
  obtain ⟨_, T4, L4, X4, ⟨r4, kr4, rfl, M4, K4, z4_0, f4_0⟩, st4⟩ := callFace X3 hx hZ hown (W_ hw 146 rfl) (W_ hw 147 rfl) (mvT hZ (W_ hw 148 rfl)) (W_ hw 149 rfl) (W_ hw 150 rfl) (W_ hw 151 rfl) (W_ hw 152 rfl) (W_ hw 145 rfl) (W_ hw 3 rfl) (W_ hw 153 rfl) (by decide) (argsL := []) (rest := []) (own_m24 l Z a0 hw [] a1 bz kz pga mr h0 n0 O0 Mi F_1 F_2 F_3 F_5 F_6 F_7) K3 F_1 (lenOf own_pd5 rfl) (pc := 45) (Ls := #[rv a1, u_]) (st := [(.ref a1)]) rfl (by rw [hml]; rfl) (hb hby d_jdk_56_3_45) (W := 0) (Nat.le_of_eq rfl) (by decide) (by decide) (by decide) (by decide)
  have N4 := Fr.app N3 M4
  have gn4_0 : n0 ≤ r4 := Nat.le_trans (old_le O0) z4_0
  have gs4_0 : h0.size ≤ r4 := Nat.le_trans (Keep.refl h0 []).1 z4_0
  refine Goes.via (B := T4.setTop (mkF m 50 #[rv a1, u_] [(.ref r4)])) (fun t k => st4 _ k) ?_
  obtain ⟨_, T5, L5, X5, ⟨r5, rfl, M5, K5, z5_0, f5_0, f5_1, f5_2⟩, st5⟩ := callStatic X4 hx hZ hown (W_ hw 176 rfl) (W_ hw 177 rfl) (W_ hw 129 rfl) (W_ hw 178 rfl) (by decide) (argsL := [(.ref r4)]) (rest := []) (own_m38 l Z a0 hw [] r4 kr4 pga em T4.heap n0 (O0.keep K4 all0) O_1 f4_0 (F_7.keep K4)) rfl (lenOf own_pd13 rfl) (pc := 50) (Ls := #[rv a1, u_]) (st := [(.ref r4)]) rfl (by rw [hml]; rfl) (hb hby d_jdk_56_3_50) (W := 0) (Nat.le_of_eq rfl) (by decide) (by decide) (by decide) (by decide)
  have N5 := Fr.app N4 M5
  have gn5_0 : n0 ≤ r5 := Nat.le_trans (old_le (O0.keep K4 all0)) z5_0
  have gs5_0 : h0.size ≤ r5 := Nat.le_trans ((Keep.refl h0 []).trans K4 all0).1 z5_0
  refine Goes.via (B := T5.setTop (mkF m 53 #[rv a1, u_] [(.ref r5)])) (fun t k => st5 _ k) ?_
  exact finA (Q := (own_Q39 Z a1 bz kz x2 pga mr em h0 n0)) (F := FrameEnd) (C := ((Rm 6 2 3 75)).cells) (S := ((Rm 6 2 3 75)).slots) X5 hx Bd.returns rfl rfl rfl (hb hby d_jdk_56_3_53) rfl ⟨r5, rfl, N5, (((Keep.refl h0 []).trans K4 all0).trans K5 all0), gs5_0, f5_0, f5_1, f5_2⟩ (lvN X5 hlk (by decide) (by decide))
theorem d_jdk_40_48_0 : decode jdk_40_method_48_code 0 = .ok (.aload_n 0, 1) := by decide +kernel
theorem d_jdk_40_48_1 : decode jdk_40_method_48_code 1 = .ok (.invokestatic 112, 3) := by decide +kernel
theorem own_pd14 : parseMethodDescriptor "(Ljava/util/Collection;)Ljava/util/List;" = some ⟨[(.object "java/util/Collection")], some (.object "java/util/List")⟩ := by decide +kernel
theorem d_jdk_40_48_4 : decode jdk_40_method_48_code 4 = .ok (.areturn, 1) := by decide +kernel
theorem own_ef40 (m : MethodId) (x0 : Addr)  : entryFrame m #[(.ref x0)] 1 = mkF m 0 #[rv x0] [] := by first | (simp [entryFrame, mkF, argsToLocals, Value.category]; done) | rfl
abbrev own_Q40 (Z : State) (a1 : Addr) (bz : Addr) (kz : ClassId) (x2 : Int32) (pga : Addr) (mr : Addr) (em : Addr) (h0 : Heap) (n0 : Nat) (v : Option Value) (h : Heap) (L : List Loc) : Prop := ∃ r : Addr, v = some (.ref r) ∧ Fr n0 L ∧ Keep h0 h [] ∧ h0.size ≤ r ∧ Exa Z h r "java/util/ImmutableCollections$List12" ∧ Fld Z h r "java/util/ImmutableCollections$List12" "e0" "Ljava/lang/Object;" (.ref pga) ∧ Fld Z h r "java/util/ImmutableCollections$List12" "e1" "Ljava/lang/Object;" (.ref em)
set_option maxRecDepth 65536 in
set_option maxHeartbeats 40000000 in
theorem own_m40 (l : Launch) (Z : State) (a0 : Array Value) (hw : ∀ d ∈ tables_1, d.before a0 Z = true) (ws : List Jvm.Cond) (a1 : Addr) (bz : Addr) (kz : ClassId) (x2 : Int32) (pga : Addr) (mr : Addr) (em : Addr) (h0 : Heap) (n0 : Nat) (O0 : Old Z n0 h0) (Mi : Mirr Z "[Ljava/lang/Object;" mr) (O_1 : Sta Z Z.heap "java/util/ImmutableCollections" "EMPTY" "Ljava/lang/Object;" (.ref em)) (F_1 : Exa Z h0 a1 "java/util/ArrayList") (F_2 : Fld Z h0 a1 "java/util/ArrayList" "elementData" "[Ljava/lang/Object;" (.ref bz)) (F_3 : Fld Z h0 a1 "java/util/ArrayList" "size" "I" (.int (1 : Int32))) (F_4 : Fld Z h0 a1 "java/util/AbstractList" "modCount" "I" (.int x2)) (F_5 : Arv Z h0 bz kz (.object "java/lang/Object") (10 : Int32) [(.ref pga), .null, .null, .null, .null, .null, .null, .null, .null, .null] .null) (F_6 : Exa Z h0 bz "[Ljava/lang/Object;") (F_7 : Exa Z h0 pga "com/example/wakenitz/wakenitz/measure/ScoreSheet$PageScore") :
    Ctr l Z (⟨"java/util/List", "copyOf", "(Ljava/util/Collection;)Ljava/util/List;"⟩ : MethodName) jdk_40_method_48_code 1 (some (.object "java/util/List")) (Rm 7 2 3 88) #[(.ref a1)] h0 (own_Q40 Z a1 bz kz x2 pga mr em h0 n0) ws := by
  refine MetFree.of_bodySF (plainFor_of_name own_pn14) hisR ?_
  intro p e s m args below meth c s₁ Bd hml0 hP hK
  obtain ⟨rfl, hZ, hh⟩ := hP
  have hx := Bd.exec
  have hby := Bd.bytes
  have hlk : meth.locks = false := Bd.notSynchronized
  have hml : c.maxLocals = 1 := hml0
  have hown : s.vm.findClass "java/util/List" = some m.cls := findClass_of_methodNamed Bd.named
  have hnm := (name_of_methodNamed Bd.named Bd.method).1
  have X0 : Stand p l e (Rm 7 2 3 88) s m #[(.ref a1)] below meth c s₁ [] 0 0 := Stand.of_body Bd
  have e0 : s₁.heap = h0 := by rw [← hh, Bd.state]; rfl
  have N0 := Fr.nil n0
  show Goes p.tables e below (fun t o => ∃ v L, o = .returned v ∧ (own_Q40 Z a1 bz kz x2 pga mr em h0 n0) v t.heap L ∧ FrameEnd s o t L ((Rm 7 2 3 88)).cells ((Rm 7 2 3 88)).slots) _
  refine Goes.via (B := s₁.setTop (mkF m 0 #[rv a1] [])) (fun t k => castTop (own_ef40 m a1) k) ?_
  refine Gv s₁ 1 [(.ref a1)] (fun t k => XS.aloadN X0.here hx rfl (hb hby d_jdk_40_48_0) rfl rfl k) ?_
  obtain ⟨_, T1, L1, X1, ⟨r1, rfl, M1, K1, z1_0, f1_0, f1_1, f1_2⟩, st1⟩ := callStatic X0 hx hZ hown (W_ hw 131 rfl) (W_ hw 132 rfl) (W_ hw 133 rfl) (W_ hw 134 rfl) (by decide) (argsL := [(.ref a1)]) (rest := []) (own_m39 l Z a0 hw [] a1 bz kz x2 pga mr em h0 n0 O0 Mi O_1 F_1 F_2 F_3 F_4 F_5 F_6 F_7) e0 (lenOf own_pd14 rfl) (pc := 1) (Ls := #[rv a1]) (st := [(.ref a1)]) rfl (by rw [hml]; rfl) (hb hby d_jdk_40_48_1) (W := 0) (Nat.le_of_eq rfl) (by decide) (by decide) (by decide) (by decide)
  have N1 := Fr.app N0 M1
  have gn1_0 : n0 ≤ r1 := Nat.le_trans (old_le O0) z1_0
  have gs1_0 : h0.size ≤ r1 := Nat.le_trans (Keep.refl h0 []).1 z1_0
  refine Goes.via (B := T1.setTop (mkF m 4 #[rv a1] [(.ref r1)])) (fun t k => st1 _ k) ?_
  exact finA (Q := (own_Q40 Z a1 bz kz x2 pga mr em h0 n0)) (F := FrameEnd) (C := ((Rm 7 2 3 88)).cells) (S := ((Rm 7 2 3 88)).slots) X1 hx Bd.returns rfl rfl rfl (hb hby d_jdk_40_48_4) rfl ⟨r1, rfl, N1, ((Keep.refl h0 []).trans K1 all0), gs1_0, f1_0, f1_1, f1_2⟩ (lvN X1 hlk (by decide) (by decide))
theorem d_jdk_40_47_45 : decode jdk_40_method_47_code 45 = .ok (.new 96, 3) := by decide +kernel
theorem d_jdk_40_47_48 : decode jdk_40_method_47_code 48 = .ok (.dup, 1) := by decide +kernel
theorem d_jdk_40_47_49 : decode jdk_40_method_47_code 49 = .ok (.aload_n 0, 1) := by decide +kernel
theorem d_jdk_40_47_50 : decode jdk_40_method_47_code 50 = .ok (.iconst 0, 1) := by decide +kernel
theorem d_jdk_40_47_51 : decode jdk_40_method_47_code 51 = .ok (.aaload, 1) := by decide +kernel
theorem d_jdk_40_47_52 : decode jdk_40_method_47_code 52 = .ok (.aload_n 0, 1) := by decide +kernel
theorem d_jdk_40_47_53 : decode jdk_40_method_47_code 53 = .ok (.iconst 1, 1) := by decide +kernel
theorem d_jdk_40_47_54 : decode jdk_40_method_47_code 54 = .ok (.aaload, 1) := by decide +kernel
theorem d_jdk_40_47_55 : decode jdk_40_method_47_code 55 = .ok (.invokespecial 100, 3) := by decide +kernel
theorem own_pd15 : parseMethodDescriptor "(Ljava/lang/Object;Ljava/lang/Object;)V" = some ⟨[(.object "java/lang/Object"), (.object "java/lang/Object")], none⟩ := by decide +kernel
theorem d_jdk_40_47_58 : decode jdk_40_method_47_code 58 = .ok (.areturn, 1) := by decide +kernel
theorem own_ef41 (m : MethodId) (x0 : Addr)  : entryFrame m #[(.ref x0)] 2 = mkF m 0 #[rv x0, u_] [] := by first | (simp [entryFrame, mkF, argsToLocals, Value.category]; done) | rfl
abbrev own_Q41 (Z : State) (bz : Addr) (kz : ClassId) (pga : Addr) (pgb : Addr) (h0 : Heap) (n0 : Nat) (v : Option Value) (h : Heap) (L : List Loc) : Prop := ∃ r : Addr, v = some (.ref r) ∧ Fr n0 L ∧ Keep h0 h [] ∧ h0.size ≤ r ∧ Exa Z h r "java/util/ImmutableCollections$List12" ∧ Fld Z h r "java/util/ImmutableCollections$List12" "e0" "Ljava/lang/Object;" (.ref pga) ∧ Fld Z h r "java/util/ImmutableCollections$List12" "e1" "Ljava/lang/Object;" (.ref pgb)
set_option maxRecDepth 65536 in
set_option maxHeartbeats 40000000 in
theorem own_m41 (l : Launch) (Z : State) (a0 : Array Value) (hw : ∀ d ∈ tables_1, d.before a0 Z = true) (ws : List Jvm.Cond) (bz : Addr) (kz : ClassId) (pga : Addr) (pgb : Addr) (h0 : Heap) (n0 : Nat) (O0 : Old Z n0 h0) (F_1 : Arv Z h0 bz kz (.object "java/lang/Object") (2 : Int32) [(.ref pga), (.ref pgb)] .null) (F_2 : Exa Z h0 pga "com/example/wakenitz/wakenitz/measure/ScoreSheet$PageScore") (F_3 : Exa Z h0 pgb "com/example/wakenitz/wakenitz/measure/ScoreSheet$PageScore") :
    Ctr l Z (⟨"java/util/List", "of", "([Ljava/lang/Object;)Ljava/util/List;"⟩ : MethodName) jdk_40_method_47_code 2 (some (.object "java/util/List")) (Rm 5 1 2 63) #[(.ref bz)] h0 (own_Q41 Z bz kz pga pgb h0 n0) ws := by
  refine MetFree.of_bodySF (plainFor_of_name own_pn14) hisR ?_
  intro p e s m args below meth c s₁ Bd hml0 hP hK
  obtain ⟨rfl, hZ, hh⟩ := hP
  have hx := Bd.exec
  have hby := Bd.bytes
  have hlk : meth.locks = false := Bd.notSynchronized
  have hml : c.maxLocals = 2 := hml0
  have hown : s.vm.findClass "java/util/List" = some m.cls := findClass_of_methodNamed Bd.named
  have hnm := (name_of_methodNamed Bd.named Bd.method).1
  have X0 : Stand p l e (Rm 5 1 2 63) s m #[(.ref bz)] below meth c s₁ [] 0 0 := Stand.of_body Bd
  have e0 : s₁.heap = h0 := by rw [← hh, Bd.state]; rfl
  have N0 := Fr.nil n0
  show Goes p.tables e below (fun t o => ∃ v L, o = .returned v ∧ (own_Q41 Z bz kz pga pgb h0 n0) v t.heap L ∧ FrameEnd s o t L ((Rm 5 1 2 63)).cells ((Rm 5 1 2 63)).slots) _
  refine Goes.via (B := s₁.setTop (mkF m 0 #[rv bz, u_] [])) (fun t k => castTop (own_ef41 m bz) k) ?_
  refine Gv s₁ 1 [(.ref bz)] (fun t k => XS.aloadN X0.here hx rfl (hb hby d_jdk_40_47_0) rfl rfl k) ?_
  obtain ⟨cl1, Ar1, q1, S1, N1, H1, G1⟩ := id F_1
  refine Goes.via (B := s₁.setTop (mkF m 2 #[rv bz, u_] [(.int (2 : Int32))])) (fun t k => X0.arraylength hx (by rw [e0]; exact Ar1.1) (State.isArrayOf_alike hZ.alike Ar1.2.1) (g := (mkF m 1 #[rv bz, u_] [(.ref bz)])) rfl rfl (hb hby d_jdk_40_47_1) t (by rw [(len_of S1 N1)]; exact k)) ?_
  refine Gv s₁ 45 [] (fun t k => XS.tswIn X0.here hx rfl (pc0 := 2) (pc' := 45) rfl (hb hby d_jdk_40_47_2) rfl (by decide) rfl (by decide) (by decide) k) ?_
  obtain ⟨T2, h2, X2, e2, E2, A2, D2, U2, st2⟩ := newO X0 hx hZ hown (W_ hw 319 rfl) (W_ hw 320 rfl) (W_ hw 321 rfl) e0 (g := (mkF m 45 #[rv bz, u_] [])) rfl (hb hby d_jdk_40_47_45) (by decide) (by decide)
  obtain ⟨b2, g2⟩ : ∃ z, z = h0.size := ⟨_, rfl⟩
  rw [← g2] at A2 D2 U2 st2
  have gn2 : n0 ≤ b2 := Nat.le_trans (old_le O0) (Nat.le_of_eq g2.symm)
  have gs2 : h0.size ≤ b2 := Nat.le_trans (Keep.refl h0 []).1 (Nat.le_of_eq g2.symm)
  have F2_e0 : Fld Z h2 b2 "java/util/ImmutableCollections$List12" "e0" "Ljava/lang/Object;" .null := D2 (Or.inr (W_ hw 332 rfl)) (ty := (.object "java/lang/Object")) (by decide)
  have F2_e1 : Fld Z h2 b2 "java/util/ImmutableCollections$List12" "e1" "Ljava/lang/Object;" .null := D2 (Or.inr (W_ hw 335 rfl)) (ty := (.object "java/lang/Object")) (by decide)
  refine Goes.via (B := T2.setTop (mkF m 48 #[rv bz, u_] [(.ref b2)])) (fun t k => st2 _ k) ?_
  refine Gv T2 49 [(.ref b2), (.ref b2)] (fun t k => XS.dup X2.here hx rfl (hb hby d_jdk_40_47_48) rfl rfl k) ?_
  refine Gv T2 50 [(.ref bz), (.ref b2), (.ref b2)] (fun t k => XS.aloadN X2.here hx rfl (hb hby d_jdk_40_47_49) rfl rfl k) ?_
  refine Gv T2 51 [(.int (0 : Int32)), (.ref bz), (.ref b2), (.ref b2)] (fun t k => XS.iconst X2.here hx rfl (hb hby d_jdk_40_47_50) k) ?_
  obtain ⟨cl3, Ar3, q3, S3, N3, H3, G3⟩ := id (F_1.ext E2)
  have hin3 := inb_of (j := (0 : Int32)) S3 ⟨by decide, by decide⟩
  refine Goes.via (B := T2.setTop (mkF m 52 #[rv bz, u_] [(.ref pga), (.ref b2), (.ref b2)])) (fun t k => X2.aaload hx (j := (0 : Int32)) (v := (.ref pga)) (by rw [e2]; exact Ar3.1) (State.isArrayOf_alike hZ.alike Ar3.2.1) rfl Ar3.2.2 hin3 (H3.at hin3 rfl) (g := (mkF m 51 #[rv bz, u_] [(.int (0 : Int32)), (.ref bz), (.ref b2), (.ref b2)])) rfl rfl (hb hby d_jdk_40_47_51) t k) ?_
  refine Gv T2 53 [(.ref bz), (.ref pga), (.ref b2), (.ref b2)] (fun t k => XS.aloadN X2.here hx rfl (hb hby d_jdk_40_47_52) rfl rfl k) ?_
  refine Gv T2 54 [(.int (1 : Int32)), (.ref bz), (.ref pga), (.ref b2), (.ref b2)] (fun t k => XS.iconst X2.here hx rfl (hb hby d_jdk_40_47_53) k) ?_
  obtain ⟨cl4, Ar4, q4, S4, N4, H4, G4⟩ := id (F_1.ext E2)
  have hin4 := inb_of (j := (1 : Int32)) S4 ⟨by decide, by decide⟩
  refine Goes.via (B := T2.setTop (mkF m 55 #[rv bz, u_] [(.ref pgb), (.ref pga), (.ref b2), (.ref b2)])) (fun t k => X2.aaload hx (j := (1 : Int32)) (v := (.ref pgb)) (by rw [e2]; exact Ar4.1) (State.isArrayOf_alike hZ.alike Ar4.2.1) rfl Ar4.2.2 hin4 (H4.at hin4 rfl) (g := (mkF m 54 #[rv bz, u_] [(.int (1 : Int32)), (.ref bz), (.ref pga), (.ref b2), (.ref b2)])) rfl rfl (hb hby d_jdk_40_47_54) t k) ?_
  obtain ⟨_, T5, L5, X5, ⟨rfl, M5, K5, f5_0, f5_1, f5_2⟩, st5⟩ := callInit X2 hx hZ rfl hown (W_ hw 350 rfl) (W_ hw 351 rfl) (W_ hw 321 rfl) (W_ hw 352 rfl) (by decide) (argsL := [(.ref pga), (.ref pgb)]) (rest := [(.ref b2)]) (own_m35 l Z a0 hw [] b2 pga pgb h2 n0 (O0.ext E2) gn2 A2 F2_e0 F2_e1) e2 (lenOf own_pd15 rfl) (pc := 55) (Ls := #[rv bz, u_]) (st := [(.ref pgb), (.ref pga), (.ref b2), (.ref b2)]) rfl (by rw [hml]; rfl) (hb hby d_jdk_40_47_55) (W := 1) (Nat.le_of_eq rfl) (by decide) (by decide) (by decide) (by decide)
  have N5 := Fr.app N0 M5
  refine Goes.via (B := T5.setTop (mkF m 58 #[rv bz, u_] [(.ref b2)])) (fun t k => st5 _ k) ?_
  exact finA (Q := (own_Q41 Z bz kz pga pgb h0 n0)) (F := FrameEnd) (C := ((Rm 5 1 2 63)).cells) (S := ((Rm 5 1 2 63)).slots) X5 hx Bd.returns rfl rfl rfl (hb hby d_jdk_40_47_58) rfl ⟨b2, rfl, N5, (((Keep.refl h0 []).ext E2).trans K5 (allS (Or.inr gs2) all0)), gs2, f5_0, f5_1, f5_2⟩ (lvN X5 hlk (by decide) (by decide))
theorem own_ef42 (m : MethodId) (x0 : Addr)  : entryFrame m #[(.ref x0)] 2 = mkF m 0 #[rv x0, u_] [] := by first | (simp [entryFrame, mkF, argsToLocals, Value.category]; done) | rfl
abbrev own_Q42 (Z : State) (a1 : Addr) (bz : Addr) (kz : ClassId) (x2 : Int32) (pga : Addr) (pgb : Addr) (mr : Addr) (h0 : Heap) (n0 : Nat) (v : Option Value) (h : Heap) (L : List Loc) : Prop := ∃ r : Addr, v = some (.ref r) ∧ Fr n0 L ∧ Keep h0 h [] ∧ h0.size ≤ r ∧ Exa Z h r "java/util/ImmutableCollections$List12" ∧ Fld Z h r "java/util/ImmutableCollections$List12" "e0" "Ljava/lang/Object;" (.ref pga) ∧ Fld Z h r "java/util/ImmutableCollections$List12" "e1" "Ljava/lang/Object;" (.ref pgb)
set_option maxRecDepth 65536 in
set_option maxHeartbeats 40000000 in
theorem own_m42 (l : Launch) (Z : State) (a0 : Array Value) (hw : ∀ d ∈ tables_1, d.before a0 Z = true) (ws : List Jvm.Cond) (a1 : Addr) (bz : Addr) (kz : ClassId) (x2 : Int32) (pga : Addr) (pgb : Addr) (mr : Addr) (h0 : Heap) (n0 : Nat) (O0 : Old Z n0 h0) (Mi : Mirr Z "[Ljava/lang/Object;" mr) (F_1 : Exa Z h0 a1 "java/util/ArrayList") (F_2 : Fld Z h0 a1 "java/util/ArrayList" "elementData" "[Ljava/lang/Object;" (.ref bz)) (F_3 : Fld Z h0 a1 "java/util/ArrayList" "size" "I" (.int (2 : Int32))) (F_4 : Fld Z h0 a1 "java/util/AbstractList" "modCount" "I" (.int x2)) (F_5 : Arv Z h0 bz kz (.object "java/lang/Object") (10 : Int32) [(.ref pga), (.ref pgb), .null, .null, .null, .null, .null, .null, .null, .null] .null) (F_6 : Exa Z h0 bz "[Ljava/lang/Object;") (F_7 : Exa Z h0 pga "com/example/wakenitz/wakenitz/measure/ScoreSheet$PageScore") (F_8 : Exa Z h0 pgb "com/example/wakenitz/wakenitz/measure/ScoreSheet$PageScore") :
    Ctr l Z (⟨"java/util/ImmutableCollections", "listCopy", "(Ljava/util/Collection;)Ljava/util/List;"⟩ : MethodName) jdk_56_method_3_code 2 (some (.object "java/util/List")) (Rm 6 2 4 76) #[(.ref a1)] h0 (own_Q42 Z a1 bz kz x2 pga pgb mr h0 n0) ws := by
  refine MetFree.of_bodySF (plainFor_of_name own_pn13) hisR ?_
  intro p e s m args below meth c s₁ Bd hml0 hP hK
  obtain ⟨rfl, hZ, hh⟩ := hP
  have hx := Bd.exec
  have hby := Bd.bytes
  have hlk : meth.locks = false := Bd.notSynchronized
  have hml : c.maxLocals = 2 := hml0
  have hown : s.vm.findClass "java/util/ImmutableCollections" = some m.cls := findClass_of_methodNamed Bd.named
  have hnm := (name_of_methodNamed Bd.named Bd.method).1
  have X0 : Stand p l e (Rm 6 2 4 76) s m #[(.ref a1)] below meth c s₁ [] 0 0 := Stand.of_body Bd
  have e0 : s₁.heap = h0 := by rw [← hh, Bd.state]; rfl
  have N0 := Fr.nil n0
  show Goes p.tables e below (fun t o => ∃ v L, o = .returned v ∧ (own_Q42 Z a1 bz kz x2 pga pgb mr h0 n0) v t.heap L ∧ FrameEnd s o t L ((Rm 6 2 4 76)).cells ((Rm 6 2 4 76)).slots) _
  refine Goes.via (B := s₁.setTop (mkF m 0 #[rv a1, u_] [])) (fun t k => castTop (own_ef42 m a1) k) ?_
  have hno1 := ns_no (W_ hw 136 rfl) (W_ hw 320 rfl) (NS.step (W_ hw 136 rfl) (NS.step (W_ hw 137 rfl) (NS.step (W_ hw 138 rfl) (ns_root (W_ hw 139 rfl) (W_ hw 320 rfl) (by decide)) (by decide)) (by decide)) (by decide)) (by decide)
  have hno2 := ns_no (W_ hw 136 rfl) (W_ hw 187 rfl) (NS.step (W_ hw 136 rfl) (NS.step (W_ hw 137 rfl) (NS.step (W_ hw 138 rfl) (ns_root (W_ hw 139 rfl) (W_ hw 187 rfl) (by decide)) (by decide)) (by decide)) (by decide)) (by decide)
  refine Gv s₁ 1 [(.ref a1)] (fun t k => XS.aloadN X0.here hx rfl (hb hby d_jdk_56_3_0) rfl rfl k) ?_
  obtain ⟨T1, X1, e1, st1⟩ := instNo X0 hx hZ hown (W_ hw 135 rfl) e0 F_1 hno1 (g := (mkF m 1 #[rv a1, u_] [(.ref a1)])) rfl rfl (hb hby d_jdk_56_3_1)
  refine Goes.via (B := T1.setTop (mkF m 4 #[rv a1, u_] [(.int (0 : Int32))])) (fun t k => st1 _ k) ?_
  refine Gv T1 7 [] (fun t k => XS.ifNo X1.here hx rfl (hb hby d_jdk_56_3_4) rfl (XT.i0_ne_f rfl) k) ?_
  refine Gv T1 8 [(.ref a1)] (fun t k => XS.aloadN X1.here hx rfl (hb hby d_jdk_56_3_7) rfl rfl k) ?_
  obtain ⟨T2, X2, e2, st2⟩ := instNo X1 hx hZ hown (W_ hw 140 rfl) e1 F_1 hno2 (g := (mkF m 8 #[rv a1, u_] [(.ref a1)])) rfl rfl (hb hby d_jdk_56_3_8)
  refine Goes.via (B := T2.setTop (mkF m 11 #[rv a1, u_] [(.int (0 : Int32))])) (fun t k => st2 _ k) ?_
  refine Gv T2 31 [] (fun t k => XS.ifYes X2.here hx rfl (pc0 := 11) (pc' := 31) rfl (hb hby d_jdk_56_3_11) rfl (XT.i0_eq_t rfl) (by decide) (by decide) k) ?_
  refine Gv T2 32 [(.ref a1)] (fun t k => XS.aloadN X2.here hx rfl (hb hby d_jdk_56_3_31) rfl rfl k) ?_
  obtain ⟨_, T3, L3, X3, ⟨rfl, M3, K3⟩, st3⟩ := callFace X2 hx hZ hown (W_ hw 141 rfl) (W_ hw 142 rfl) (mvT hZ (W_ hw 143 rfl)) (W_ hw 144 rfl) (W_ hw 123 rfl) (W_ hw 124 rfl) (W_ hw 125 rfl) (W_ hw 145 rfl) (W_ hw 3 rfl) (W_ hw 126 rfl) (by decide) (argsL := []) (rest := []) (own_m20 l Z a0 hw [] a1 h0 n0 O0 F_3) e2 F_1 (lenOf own_pd12 rfl) (pc := 32) (Ls := #[rv a1, u_]) (st := [(.ref a1)]) rfl (by rw [hml]; rfl) (hb hby d_jdk_56_3_32) (W := 0) (Nat.le_of_eq rfl) (by decide) (by decide) (by decide) (by decide)
  have N3 := Fr.app N0 M3
  refine Goes.via (B := T3.setTop (mkF m 37 #[rv a1, u_] [(.int (0 : Int32))])) (fun t k => st3 _ k) ?_
  refine Gv T3 44 [] (fun t k => XS.ifYes X3.here hx rfl (pc0 := 37) (pc' := 44) rfl (hb hby d_jdk_56_3_37) rfl (XT.i0_eq_t rfl) (by decide) (by decide) k) ?_
  refine Gv T3 45 [(.ref a1)] (fun t k => XS.aloadN X3.here hx rfl (hb hby d_jdk_56_3_44) rfl rfl k) ?_
  obtain ⟨_, T4, L4, X4, ⟨r4, kr4, rfl, M4, K4, z4_0, f4_0⟩, st4⟩ := callFace X3 hx hZ hown (W_ hw 146 rfl) (W_ hw 147 rfl) (mvT hZ (W_ hw 148 rfl)) (W_ hw 149 rfl) (W_ hw 150 rfl) (W_ hw 151 rfl) (W_ hw 152 rfl) (W_ hw 145 rfl) (W_ hw 3 rfl) (W_ hw 153 rfl) (by decide) (argsL := []) (rest := []) (own_m27 l Z a0 hw [] a1 bz kz pga pgb mr h0 n0 O0 Mi F_1 F_2 F_3 F_5 F_6 F_7 F_8) K3 F_1 (lenOf own_pd5 rfl) (pc := 45) (Ls := #[rv a1, u_]) (st := [(.ref a1)]) rfl (by rw [hml]; rfl) (hb hby d_jdk_56_3_45) (W := 0) (Nat.le_of_eq rfl) (by decide) (by decide) (by decide) (by decide)
  have N4 := Fr.app N3 M4
  have gn4_0 : n0 ≤ r4 := Nat.le_trans (old_le O0) z4_0
  have gs4_0 : h0.size ≤ r4 := Nat.le_trans (Keep.refl h0 []).1 z4_0
  refine Goes.via (B := T4.setTop (mkF m 50 #[rv a1, u_] [(.ref r4)])) (fun t k => st4 _ k) ?_
  obtain ⟨_, T5, L5, X5, ⟨r5, rfl, M5, K5, z5_0, f5_0, f5_1, f5_2⟩, st5⟩ := callStatic X4 hx hZ hown (W_ hw 176 rfl) (W_ hw 177 rfl) (W_ hw 129 rfl) (W_ hw 178 rfl) (by decide) (argsL := [(.ref r4)]) (rest := []) (own_m41 l Z a0 hw [] r4 kr4 pga pgb T4.heap n0 (O0.keep K4 all0) f4_0 (F_7.keep K4) (F_8.keep K4)) rfl (lenOf own_pd13 rfl) (pc := 50) (Ls := #[rv a1, u_]) (st := [(.ref r4)]) rfl (by rw [hml]; rfl) (hb hby d_jdk_56_3_50) (W := 0) (Nat.le_of_eq rfl) (by decide) (by decide) (by decide) (by decide)
  have N5 := Fr.app N4 M5
  have gn5_0 : n0 ≤ r5 := Nat.le_trans (old_le (O0.keep K4 all0)) z5_0
  have gs5_0 : h0.size ≤ r5 := Nat.le_trans ((Keep.refl h0 []).trans K4 all0).1 z5_0
  refine Goes.via (B := T5.setTop (mkF m 53 #[rv a1, u_] [(.ref r5)])) (fun t k => st5 _ k) ?_
  exact finA (Q := (own_Q42 Z a1 bz kz x2 pga pgb mr h0 n0)) (F := FrameEnd) (C := ((Rm 6 2 4 76)).cells) (S := ((Rm 6 2 4 76)).slots) X5 hx Bd.returns rfl rfl rfl (hb hby d_jdk_56_3_53) rfl ⟨r5, rfl, N5, (((Keep.refl h0 []).trans K4 all0).trans K5 all0), gs5_0, f5_0, f5_1, f5_2⟩ (lvN X5 hlk (by decide) (by decide))
theorem own_ef43 (m : MethodId) (x0 : Addr)  : entryFrame m #[(.ref x0)] 1 = mkF m 0 #[rv x0] [] := by first | (simp [entryFrame, mkF, argsToLocals, Value.category]; done) | rfl
abbrev own_Q43 (Z : State) (a1 : Addr) (bz : Addr) (kz : ClassId) (x2 : Int32) (pga : Addr) (pgb : Addr) (mr : Addr) (h0 : Heap) (n0 : Nat) (v : Option Value) (h : Heap) (L : List Loc) : Prop := ∃ r : Addr, v = some (.ref r) ∧ Fr n0 L ∧ Keep h0 h [] ∧ h0.size ≤ r ∧ Exa Z h r "java/util/ImmutableCollections$List12" ∧ Fld Z h r "java/util/ImmutableCollections$List12" "e0" "Ljava/lang/Object;" (.ref pga) ∧ Fld Z h r "java/util/ImmutableCollections$List12" "e1" "Ljava/lang/Object;" (.ref pgb)
set_option maxRecDepth 65536 in
set_option maxHeartbeats 40000000 in
theorem own_m43 (l : Launch) (Z : State) (a0 : Array Value) (hw : ∀ d ∈ tables_1, d.before a0 Z = true) (ws : List Jvm.Cond) (a1 : Addr) (bz : Addr) (kz : ClassId) (x2 : Int32) (pga : Addr) (pgb : Addr) (mr : Addr) (h0 : Heap) (n0 : Nat) (O0 : Old Z n0 h0) (Mi : Mirr Z "[Ljava/lang/Object;" mr) (F_1 : Exa Z h0 a1 "java/util/ArrayList") (F_2 : Fld Z h0 a1 "java/util/ArrayList" "elementData" "[Ljava/lang/Object;" (.ref bz)) (F_3 : Fld Z h0 a1 "java/util/ArrayList" "size" "I" (.int (2 : Int32))) (F_4 : Fld Z h0 a1 "java/util/AbstractList" "modCount" "I" (.int x2)) (F_5 : Arv Z h0 bz kz (.object "java/lang/Object") (10 : Int32) [(.ref pga), (.ref pgb), .null, .null, .null, .null, .null, .null, .null, .null] .null) (F_6 : Exa Z h0 bz "[Ljava/lang/Object;") (F_7 : Exa Z h0 pga "com/example/wakenitz/wakenitz/measure/ScoreSheet$PageScore") (F_8 : Exa Z h0 pgb "com/example/wakenitz/wakenitz/measure/ScoreSheet$PageScore") :
    Ctr l Z (⟨"java/util/List", "copyOf", "(Ljava/util/Collection;)Ljava/util/List;"⟩ : MethodName) jdk_40_method_48_code 1 (some (.object "java/util/List")) (Rm 7 2 4 89) #[(.ref a1)] h0 (own_Q43 Z a1 bz kz x2 pga pgb mr h0 n0) ws := by
  refine MetFree.of_bodySF (plainFor_of_name own_pn14) hisR ?_
  intro p e s m args below meth c s₁ Bd hml0 hP hK
  obtain ⟨rfl, hZ, hh⟩ := hP
  have hx := Bd.exec
  have hby := Bd.bytes
  have hlk : meth.locks = false := Bd.notSynchronized
  have hml : c.maxLocals = 1 := hml0
  have hown : s.vm.findClass "java/util/List" = some m.cls := findClass_of_methodNamed Bd.named
  have hnm := (name_of_methodNamed Bd.named Bd.method).1
  have X0 : Stand p l e (Rm 7 2 4 89) s m #[(.ref a1)] below meth c s₁ [] 0 0 := Stand.of_body Bd
  have e0 : s₁.heap = h0 := by rw [← hh, Bd.state]; rfl
  have N0 := Fr.nil n0
  show Goes p.tables e below (fun t o => ∃ v L, o = .returned v ∧ (own_Q43 Z a1 bz kz x2 pga pgb mr h0 n0) v t.heap L ∧ FrameEnd s o t L ((Rm 7 2 4 89)).cells ((Rm 7 2 4 89)).slots) _
  refine Goes.via (B := s₁.setTop (mkF m 0 #[rv a1] [])) (fun t k => castTop (own_ef43 m a1) k) ?_
  refine Gv s₁ 1 [(.ref a1)] (fun t k => XS.aloadN X0.here hx rfl (hb hby d_jdk_40_48_0) rfl rfl k) ?_
  obtain ⟨_, T1, L1, X1, ⟨r1, rfl, M1, K1, z1_0, f1_0, f1_1, f1_2⟩, st1⟩ := callStatic X0 hx hZ hown (W_ hw 131 rfl) (W_ hw 132 rfl) (W_ hw 133 rfl) (W_ hw 134 rfl) (by decide) (argsL := [(.ref a1)]) (rest := []) (own_m42 l Z a0 hw [] a1 bz kz x2 pga pgb mr h0 n0 O0 Mi F_1 F_2 F_3 F_4 F_5 F_6 F_7 F_8) e0 (lenOf own_pd14 rfl) (pc := 1) (Ls := #[rv a1]) (st := [(.ref a1)]) rfl (by rw [hml]; rfl) (hb hby d_jdk_40_48_1) (W := 0) (Nat.le_of_eq rfl) (by decide) (by decide) (by decide) (by decide)
  have N1 := Fr.app N0 M1
  have gn1_0 : n0 ≤ r1 := Nat.le_trans (old_le O0) z1_0
  have gs1_0 : h0.size ≤ r1 := Nat.le_trans (Keep.refl h0 []).1 z1_0
  refine Goes.via (B := T1.setTop (mkF m 4 #[rv a1] [(.ref r1)])) (fun t k => st1 _ k) ?_
  exact finA (Q := (own_Q43 Z a1 bz kz x2 pga pgb mr h0 n0)) (F := FrameEnd) (C := ((Rm 7 2 4 89)).cells) (S := ((Rm 7 2 4 89)).slots) X1 hx Bd.returns rfl rfl rfl (hb hby d_jdk_40_48_4) rfl ⟨r1, rfl, N1, ((Keep.refl h0 []).trans K1 all0), gs1_0, f1_0, f1_1, f1_2⟩ (lvN X1 hlk (by decide) (by decide))
theorem d_jdk_40_47_59 : decode jdk_40_method_47_code 59 = .ok (.aload_n 0, 1) := by decide +kernel
theorem d_jdk_40_47_60 : decode jdk_40_method_47_code 60 = .ok (.invokestatic 109, 3) := by decide +kernel
theorem d_jdk_40_47_63 : decode jdk_40_method_47_code 63 = .ok (.areturn, 1) := by decide +kernel
theorem own_ef44 (m : MethodId) (x0 : Addr)  : entryFrame m #[(.ref x0)] 2 = mkF m 0 #[rv x0, u_] [] := by first | (simp [entryFrame, mkF, argsToLocals, Value.category]; done) | rfl
abbrev own_Q44 (Z : State) (bz : Addr) (kz : ClassId) (pga : Addr) (pgb : Addr) (pgc : Addr) (h0 : Heap) (n0 : Nat) (v : Option Value) (h : Heap) (L : List Loc) : Prop := ∃ r : Addr, ∃ ar : Addr, ∃ ka : ClassId, v = some (.ref r) ∧ Fr n0 L ∧ Keep h0 h [] ∧ h0.size ≤ r ∧ h0.size ≤ ar ∧ Exa Z h r "java/util/ImmutableCollections$ListN" ∧ Fld Z h r "java/util/ImmutableCollections$ListN" "elements" "[Ljava/lang/Object;" (.ref ar) ∧ Arv Z h ar ka (.object "java/lang/Object") (3 : Int32) [(.ref pga), (.ref pgb), (.ref pgc)] .null
set_option maxRecDepth 65536 in
set_option maxHeartbeats 40000000 in
theorem own_m44 (l : Launch) (Z : State) (a0 : Array Value) (hw : ∀ d ∈ tables_1, d.before a0 Z = true) (ws : List Jvm.Cond) (bz : Addr) (kz : ClassId) (pga : Addr) (pgb : Addr) (pgc : Addr) (h0 : Heap) (n0 : Nat) (O0 : Old Z n0 h0) (F_1 : Arv Z h0 bz kz (.object "java/lang/Object") (3 : Int32) [(.ref pga), (.ref pgb), (.ref pgc)] .null) (F_2 : Exa Z h0 pga "com/example/wakenitz/wakenitz/measure/ScoreSheet$PageScore") (F_3 : Exa Z h0 pgb "com/example/wakenitz/wakenitz/measure/ScoreSheet$PageScore") (F_4 : Exa Z h0 pgc "com/example/wakenitz/wakenitz/measure/ScoreSheet$PageScore") :
    Ctr l Z (⟨"java/util/List", "of", "([Ljava/lang/Object;)Ljava/util/List;"⟩ : MethodName) jdk_40_method_47_code 2 (some (.object "java/util/List")) (Rm 6 2 5 77) #[(.ref bz)] h0 (own_Q44 Z bz kz pga pgb pgc h0 n0) ws := by
  refine MetFree.of_bodySF (plainFor_of_name own_pn14) hisR ?_
  intro p e s m args below meth c s₁ Bd hml0 hP hK
  obtain ⟨rfl, hZ, hh⟩ := hP
  have hx := Bd.exec
  have hby := Bd.bytes
  have hlk : meth.locks = false := Bd.notSynchronized
  have hml : c.maxLocals = 2 := hml0
  have hown : s.vm.findClass "java/util/List" = some m.cls := findClass_of_methodNamed Bd.named
  have hnm := (name_of_methodNamed Bd.named Bd.method).1
  have X0 : Stand p l e (Rm 6 2 5 77) s m #[(.ref bz)] below meth c s₁ [] 0 0 := Stand.of_body Bd
  have e0 : s₁.heap = h0 := by rw [← hh, Bd.state]; rfl
  have N0 := Fr.nil n0
  show Goes p.tables e below (fun t o => ∃ v L, o = .returned v ∧ (own_Q44 Z bz kz pga pgb pgc h0 n0) v t.heap L ∧ FrameEnd s o t L ((Rm 6 2 5 77)).cells ((Rm 6 2 5 77)).slots) _
  refine Goes.via (B := s₁.setTop (mkF m 0 #[rv bz, u_] [])) (fun t k => castTop (own_ef44 m bz) k) ?_
  refine Gv s₁ 1 [(.ref bz)] (fun t k => XS.aloadN X0.here hx rfl (hb hby d_jdk_40_47_0) rfl rfl k) ?_
  obtain ⟨cl1, Ar1, q1, S1, N1, H1, G1⟩ := id F_1
  refine Goes.via (B := s₁.setTop (mkF m 2 #[rv bz, u_] [(.int (3 : Int32))])) (fun t k => X0.arraylength hx (by rw [e0]; exact Ar1.1) (State.isArrayOf_alike hZ.alike Ar1.2.1) (g := (mkF m 1 #[rv bz, u_] [(.ref bz)])) rfl rfl (hb hby d_jdk_40_47_1) t (by rw [(len_of S1 N1)]; exact k)) ?_
  refine Gv s₁ 59 [] (fun t k => XS.tswOut X0.here hx rfl (pc0 := 2) (pc' := 59) rfl (hb hby d_jdk_40_47_2) rfl (by decide) (by decide) (by decide) k) ?_
  refine Gv s₁ 60 [(.ref bz)] (fun t k => XS.aloadN X0.here hx rfl (hb hby d_jdk_40_47_59) rfl rfl k) ?_
  obtain ⟨_, T2, L2, X2, ⟨r2, ar2, ka2, rfl, M2, K2, z2_0, z2_1, f2_0, f2_1, f2_2⟩, st2⟩ := callStatic X0 hx hZ hown (W_ hw 179 rfl) (W_ hw 180 rfl) (W_ hw 133 rfl) (W_ hw 181 rfl) (by decide) (argsL := [(.ref bz)]) (rest := []) (own_m37 l Z a0 hw [] bz kz pga pgb pgc h0 n0 O0 F_1 F_2 F_3 F_4) e0 (lenOf own_pd13 rfl) (pc := 60) (Ls := #[rv bz, u_]) (st := [(.ref bz)]) rfl (by rw [hml]; rfl) (hb hby d_jdk_40_47_60) (W := 0) (Nat.le_of_eq rfl) (by decide) (by decide) (by decide) (by decide)
  have N2 := Fr.app N0 M2
  have gn2_0 : n0 ≤ r2 := Nat.le_trans (old_le O0) z2_0
  have gs2_0 : h0.size ≤ r2 := Nat.le_trans (Keep.refl h0 []).1 z2_0
  have gn2_1 : n0 ≤ ar2 := Nat.le_trans (old_le O0) z2_1
  have gs2_1 : h0.size ≤ ar2 := Nat.le_trans (Keep.refl h0 []).1 z2_1
  refine Goes.via (B := T2.setTop (mkF m 63 #[rv bz, u_] [(.ref r2)])) (fun t k => st2 _ k) ?_
  exact finA (Q := (own_Q44 Z bz kz pga pgb pgc h0 n0)) (F := FrameEnd) (C := ((Rm 6 2 5 77)).cells) (S := ((Rm 6 2 5 77)).slots) X2 hx Bd.returns rfl rfl rfl (hb hby d_jdk_40_47_63) rfl ⟨r2, ar2, ka2, rfl, N2, ((Keep.refl h0 []).trans K2 all0), gs2_0, gs2_1, f2_0, f2_1, f2_2⟩ (lvN X2 hlk (by decide) (by decide))
theorem own_ef45 (m : MethodId) (x0 : Addr)  : entryFrame m #[(.ref x0)] 2 = mkF m 0 #[rv x0, u_] [] := by first | (simp [entryFrame, mkF, argsToLocals, Value.category]; done) | rfl
abbrev own_Q45 (Z : State) (a1 : Addr) (bz : Addr) (kz : ClassId) (x2 : Int32) (pga : Addr) (pgb : Addr) (pgc : Addr) (mr : Addr) (h0 : Heap) (n0 : Nat) (v : Option Value) (h : Heap) (L : List Loc) : Prop := ∃ r : Addr, ∃ ar : Addr, ∃ ka : ClassId, v = some (.ref r) ∧ Fr n0 L ∧ Keep h0 h [] ∧ h0.size ≤ r ∧ h0.size ≤ ar ∧ Exa Z h r "java/util/ImmutableCollections$ListN" ∧ Fld Z h r "java/util/ImmutableCollections$ListN" "elements" "[Ljava/lang/Object;" (.ref ar) ∧ Arv Z h ar ka (.object "java/lang/Object") (3 : Int32) [(.ref pga), (.ref pgb), (.ref pgc)] .null
set_option maxRecDepth 65536 in
set_option maxHeartbeats 40000000 in
theorem own_m45 (l : Launch) (Z : State) (a0 : Array Value) (hw : ∀ d ∈ tables_1, d.before a0 Z = true) (ws : List Jvm.Cond) (a1 : Addr) (bz : Addr) (kz : ClassId) (x2 : Int32) (pga : Addr) (pgb : Addr) (pgc : Addr) (mr : Addr) (h0 : Heap) (n0 : Nat) (O0 : Old Z n0 h0) (Mi : Mirr Z "[Ljava/lang/Object;" mr) (F_1 : Exa Z h0 a1 "java/util/ArrayList") (F_2 : Fld Z h0 a1 "java/util/ArrayList" "elementData" "[Ljava/lang/Object;" (.ref bz)) (F_3 : Fld Z h0 a1 "java/util/ArrayList" "size" "I" (.int (3 : Int32))) (F_4 : Fld Z h0 a1 "java/util/AbstractList" "modCount" "I" (.int x2)) (F_5 : Arv Z h0 bz kz (.object "java/lang/Object") (10 : Int32) [(.ref pga), (.ref pgb), (.ref pgc), .null, .null, .null, .null, .null, .null, .null] .null) (F_6 : Exa Z h0 bz "[Ljava/lang/Object;") (F_7 : Exa Z h0 pga "com/example/wakenitz/wakenitz/measure/ScoreSheet$PageScore") (F_8 : Exa Z h0 pgb "com/example/wakenitz/wakenitz/measure/ScoreSheet$PageScore") (F_9 : Exa Z h0 pgc "com/example/wakenitz/wakenitz/measure/ScoreSheet$PageScore") :
    Ctr l Z (⟨"java/util/ImmutableCollections", "listCopy", "(Ljava/util/Collection;)Ljava/util/List;"⟩ : MethodName) jdk_56_method_3_code 2 (some (.object "java/util/List")) (Rm 7 3 8 90) #[(.ref a1)] h0 (own_Q45 Z a1 bz kz x2 pga pgb pgc mr h0 n0) ws := by
  refine MetFree.of_bodySF (plainFor_of_name own_pn13) hisR ?_
  intro p e s m args below meth c s₁ Bd hml0 hP hK
  obtain ⟨rfl, hZ, hh⟩ := hP
  have hx := Bd.exec
  have hby := Bd.bytes
  have hlk : meth.locks = false := Bd.notSynchronized
  have hml : c.maxLocals = 2 := hml0
  have hown : s.vm.findClass "java/util/ImmutableCollections" = some m.cls := findClass_of_methodNamed Bd.named
  have hnm := (name_of_methodNamed Bd.named Bd.method).1
  have X0 : Stand p l e (Rm 7 3 8 90) s m #[(.ref a1)] below meth c s₁ [] 0 0 := Stand.of_body Bd
  have e0 : s₁.heap = h0 := by rw [← hh, Bd.state]; rfl
  have N0 := Fr.nil n0
  show Goes p.tables e below (fun t o => ∃ v L, o = .returned v ∧ (own_Q45 Z a1 bz kz x2 pga pgb pgc mr h0 n0) v t.heap L ∧ FrameEnd s o t L ((Rm 7 3 8 90)).cells ((Rm 7 3 8 90)).slots) _
  refine Goes.via (B := s₁.setTop (mkF m 0 #[rv a1, u_] [])) (fun t k => castTop (own_ef45 m a1) k) ?_
  have hno1 := ns_no (W_ hw 136 rfl) (W_ hw 320 rfl) (NS.step (W_ hw 136 rfl) (NS.step (W_ hw 137 rfl) (NS.step (W_ hw 138 rfl) (ns_root (W_ hw 139 rfl) (W_ hw 320 rfl) (by decide)) (by decide)) (by decide)) (by decide)) (by decide)
  have hno2 := ns_no (W_ hw 136 rfl) (W_ hw 187 rfl) (NS.step (W_ hw 136 rfl) (NS.step (W_ hw 137 rfl) (NS.step (W_ hw 138 rfl) (ns_root (W_ hw 139 rfl) (W_ hw 187 rfl) (by decide)) (by decide)) (by decide)) (by decide)) (by decide)
  refine Gv s₁ 1 [(.ref a1)] (fun t k => XS.aloadN X0.here hx rfl (hb hby d_jdk_56_3_0) rfl rfl k) ?_
  obtain ⟨T1, X1, e1, st1⟩ := instNo X0 hx hZ hown (W_ hw 135 rfl) e0 F_1 hno1 (g := (mkF m 1 #[rv a1, u_] [(.ref a1)])) rfl rfl (hb hby d_jdk_56_3_1)
  refine Goes.via (B := T1.setTop (mkF m 4 #[rv a1, u_] [(.int (0 : Int32))])) (fun t k => st1 _ k) ?_
  refine Gv T1 7 [] (fun t k => XS.ifNo X1.here hx rfl (hb hby d_jdk_56_3_4) rfl (XT.i0_ne_f rfl) k) ?_
  refine Gv T1 8 [(.ref a1)] (fun t k => XS.aloadN X1.here hx rfl (hb hby d_jdk_56_3_7) rfl rfl k) ?_
  obtain ⟨T2, X2, e2, st2⟩ := instNo X1 hx hZ hown (W_ hw 140 rfl) e1 F_1 hno2 (g := (mkF m 8 #[rv a1, u_] [(.ref a1)])) rfl rfl (hb hby d_jdk_56_3_8)
  refine Goes.via (B := T2.setTop (mkF m 11 #[rv a1, u_] [(.int (0 : Int32))])) (fun t k => st2 _ k) ?_
  refine Gv T2 31 [] (fun t k => XS.ifYes X2.here hx rfl (pc0 := 11) (pc' := 31) rfl (hb hby d_jdk_56_3_11) rfl (XT.i0_eq_t rfl) (by decide) (by decide) k) ?_
  refine Gv T2 32 [(.ref a1)] (fun t k => XS.aloadN X2.here hx rfl (hb hby d_jdk_56_3_31) rfl rfl k) ?_
  obtain ⟨_, T3, L3, X3, ⟨rfl, M3, K3⟩, st3⟩ := callFace X2 hx hZ hown (W_ hw 141 rfl) (W_ hw 142 rfl) (mvT hZ (W_ hw 143 rfl)) (W_ hw 144 rfl) (W_ hw 123 rfl) (W_ hw 124 rfl) (W_ hw 125 rfl) (W_ hw 145 rfl) (W_ hw 3 rfl) (W_ hw 126 rfl) (by decide) (argsL := []) (rest := []) (own_m21 l Z a0 hw [] a1 h0 n0 O0 F_3) e2 F_1 (lenOf own_pd12 rfl) (pc := 32) (Ls := #[rv a1, u_]) (st := [(.ref a1)]) rfl (by rw [hml]; rfl) (hb hby d_jdk_56_3_32) (W := 0) (Nat.le_of_eq rfl) (by decide) (by decide) (by decide) (by decide)
  have N3 := Fr.app N0 M3
  refine Goes.via (B := T3.setTop (mkF m 37 #[rv a1, u_] [(.int (0 : Int32))])) (fun t k => st3 _ k) ?_
  refine Gv T3 44 [] (fun t k => XS.ifYes X3.here hx rfl (pc0 := 37) (pc' := 44) rfl (hb hby d_jdk_56_3_37) rfl (XT.i0_eq_t rfl) (by decide) (by decide) k) ?_
  refine Gv T3 45 [(.ref a1)] (fun t k => XS.aloadN X3.here hx rfl (hb hby d_jdk_56_3_44) rfl rfl k) ?_
  obtain ⟨_, T4, L4, X4, ⟨r4, kr4, rfl, M4, K4, z4_0, f4_0⟩, st4⟩ := callFace X3 hx hZ hown (W_ hw 146 rfl) (W_ hw 147 rfl) (mvT hZ (W_ hw 148 rfl)) (W_ hw 149 rfl) (W_ hw 150 rfl) (W_ hw 151 rfl) (W_ hw 152 rfl) (W_ hw 145 rfl) (W_ hw 3 rfl) (W_ hw 153 rfl) (by decide) (argsL := []) (rest := []) (own_m30 l Z a0 hw [] a1 bz kz pga pgb pgc mr h0 n0 O0 Mi F_1 F_2 F_3 F_5 F_6 F_7 F_8 F_9) K3 F_1 (lenOf own_pd5 rfl) (pc := 45) (Ls := #[rv a1, u_]) (st := [(.ref a1)]) rfl (by rw [hml]; rfl) (hb hby d_jdk_56_3_45) (W := 0) (Nat.le_of_eq rfl) (by decide) (by decide) (by decide) (by decide)
  have N4 := Fr.app N3 M4
  have gn4_0 : n0 ≤ r4 := Nat.le_trans (old_le O0) z4_0
  have gs4_0 : h0.size ≤ r4 := Nat.le_trans (Keep.refl h0 []).1 z4_0
  refine Goes.via (B := T4.setTop (mkF m 50 #[rv a1, u_] [(.ref r4)])) (fun t k => st4 _ k) ?_
  obtain ⟨_, T5, L5, X5, ⟨r5, ar5, ka5, rfl, M5, K5, z5_0, z5_1, f5_0, f5_1, f5_2⟩, st5⟩ := callStatic X4 hx hZ hown (W_ hw 176 rfl) (W_ hw 177 rfl) (W_ hw 129 rfl) (W_ hw 178 rfl) (by decide) (argsL := [(.ref r4)]) (rest := []) (own_m44 l Z a0 hw [] r4 kr4 pga pgb pgc T4.heap n0 (O0.keep K4 all0) f4_0 (F_7.keep K4) (F_8.keep K4) (F_9.keep K4)) rfl (lenOf own_pd13 rfl) (pc := 50) (Ls := #[rv a1, u_]) (st := [(.ref r4)]) rfl (by rw [hml]; rfl) (hb hby d_jdk_56_3_50) (W := 0) (Nat.le_of_eq rfl) (by decide) (by decide) (by decide) (by decide)
  have N5 := Fr.app N4 M5
  have gn5_0 : n0 ≤ r5 := Nat.le_trans (old_le (O0.keep K4 all0)) z5_0
  have gs5_0 : h0.size ≤ r5 := Nat.le_trans ((Keep.refl h0 []).trans K4 all0).1 z5_0
  have gn5_1 : n0 ≤ ar5 := Nat.le_trans (old_le (O0.keep K4 all0)) z5_1
  have gs5_1 : h0.size ≤ ar5 := Nat.le_trans ((Keep.refl h0 []).trans K4 all0).1 z5_1
  refine Goes.via (B := T5.setTop (mkF m 53 #[rv a1, u_] [(.ref r5)])) (fun t k => st5 _ k) ?_
  exact finA (Q := (own_Q45 Z a1 bz kz x2 pga pgb pgc mr h0 n0)) (F := FrameEnd) (C := ((Rm 7 3 8 90)).cells) (S := ((Rm 7 3 8 90)).slots) X5 hx Bd.returns rfl rfl rfl (hb hby d_jdk_56_3_53) rfl ⟨r5, ar5, ka5, rfl, N5, (((Keep.refl h0 []).trans K4 all0).trans K5 all0), gs5_0, gs5_1, f5_0, f5_1, f5_2⟩ (lvN X5 hlk (by decide) (by decide))
theorem own_ef46 (m : MethodId) (x0 : Addr)  : entryFrame m #[(.ref x0)] 1 = mkF m 0 #[rv x0] [] := by first | (simp [entryFrame, mkF, argsToLocals, Value.category]; done) | rfl
abbrev own_Q46 (Z : State) (a1 : Addr) (bz : Addr) (kz : ClassId) (x2 : Int32) (pga : Addr) (pgb : Addr) (pgc : Addr) (mr : Addr) (h0 : Heap) (n0 : Nat) (v : Option Value) (h : Heap) (L : List Loc) : Prop := ∃ r : Addr, ∃ ar : Addr, ∃ ka : ClassId, v = some (.ref r) ∧ Fr n0 L ∧ Keep h0 h [] ∧ h0.size ≤ r ∧ h0.size ≤ ar ∧ Exa Z h r "java/util/ImmutableCollections$ListN" ∧ Fld Z h r "java/util/ImmutableCollections$ListN" "elements" "[Ljava/lang/Object;" (.ref ar) ∧ Arv Z h ar ka (.object "java/lang/Object") (3 : Int32) [(.ref pga), (.ref pgb), (.ref pgc)] .null
set_option maxRecDepth 65536 in
set_option maxHeartbeats 40000000 in
theorem own_m46 (l : Launch) (Z : State) (a0 : Array Value) (hw : ∀ d ∈ tables_1, d.before a0 Z = true) (ws : List Jvm.Cond) (a1 : Addr) (bz : Addr) (kz : ClassId) (x2 : Int32) (pga : Addr) (pgb : Addr) (pgc : Addr) (mr : Addr) (h0 : Heap) (n0 : Nat) (O0 : Old Z n0 h0) (Mi : Mirr Z "[Ljava/lang/Object;" mr) (F_1 : Exa Z h0 a1 "java/util/ArrayList") (F_2 : Fld Z h0 a1 "java/util/ArrayList" "elementData" "[Ljava/lang/Object;" (.ref bz)) (F_3 : Fld Z h0 a1 "java/util/ArrayList" "size" "I" (.int (3 : Int32))) (F_4 : Fld Z h0 a1 "java/util/AbstractList" "modCount" "I" (.int x2)) (F_5 : Arv Z h0 bz kz (.object "java/lang/Object") (10 : Int32) [(.ref pga), (.ref pgb), (.ref pgc), .null, .null, .null, .null, .null, .null, .null] .null) (F_6 : Exa Z h0 bz "[Ljava/lang/Object;") (F_7 : Exa Z h0 pga "com/example/wakenitz/wakenitz/measure/ScoreSheet$PageScore") (F_8 : Exa Z h0 pgb "com/example/wakenitz/wakenitz/measure/ScoreSheet$PageScore") (F_9 : Exa Z h0 pgc "com/example/wakenitz/wakenitz/measure/ScoreSheet$PageScore") :
    Ctr l Z (⟨"java/util/List", "copyOf", "(Ljava/util/Collection;)Ljava/util/List;"⟩ : MethodName) jdk_40_method_48_code 1 (some (.object "java/util/List")) (Rm 8 3 8 103) #[(.ref a1)] h0 (own_Q46 Z a1 bz kz x2 pga pgb pgc mr h0 n0) ws := by
  refine MetFree.of_bodySF (plainFor_of_name own_pn14) hisR ?_
  intro p e s m args below meth c s₁ Bd hml0 hP hK
  obtain ⟨rfl, hZ, hh⟩ := hP
  have hx := Bd.exec
  have hby := Bd.bytes
  have hlk : meth.locks = false := Bd.notSynchronized
  have hml : c.maxLocals = 1 := hml0
  have hown : s.vm.findClass "java/util/List" = some m.cls := findClass_of_methodNamed Bd.named
  have hnm := (name_of_methodNamed Bd.named Bd.method).1
  have X0 : Stand p l e (Rm 8 3 8 103) s m #[(.ref a1)] below meth c s₁ [] 0 0 := Stand.of_body Bd
  have e0 : s₁.heap = h0 := by rw [← hh, Bd.state]; rfl
  have N0 := Fr.nil n0
  show Goes p.tables e below (fun t o => ∃ v L, o = .returned v ∧ (own_Q46 Z a1 bz kz x2 pga pgb pgc mr h0 n0) v t.heap L ∧ FrameEnd s o t L ((Rm 8 3 8 103)).cells ((Rm 8 3 8 103)).slots) _
  refine Goes.via (B := s₁.setTop (mkF m 0 #[rv a1] [])) (fun t k => castTop (own_ef46 m a1) k) ?_
  refine Gv s₁ 1 [(.ref a1)] (fun t k => XS.aloadN X0.here hx rfl (hb hby d_jdk_40_48_0) rfl rfl k) ?_
  obtain ⟨_, T1, L1, X1, ⟨r1, ar1, ka1, rfl, M1, K1, z1_0, z1_1, f1_0, f1_1, f1_2⟩, st1⟩ := callStatic X0 hx hZ hown (W_ hw 131 rfl) (W_ hw 132 rfl) (W_ hw 133 rfl) (W_ hw 134 rfl) (by decide) (argsL := [(.ref a1)]) (rest := []) (own_m45 l Z a0 hw [] a1 bz kz x2 pga pgb pgc mr h0 n0 O0 Mi F_1 F_2 F_3 F_4 F_5 F_6 F_7 F_8 F_9) e0 (lenOf own_pd14 rfl) (pc := 1) (Ls := #[rv a1]) (st := [(.ref a1)]) rfl (by rw [hml]; rfl) (hb hby d_jdk_40_48_1) (W := 0) (Nat.le_of_eq rfl) (by decide) (by decide) (by decide) (by decide)
  have N1 := Fr.app N0 M1
  have gn1_0 : n0 ≤ r1 := Nat.le_trans (old_le O0) z1_0
  have gs1_0 : h0.size ≤ r1 := Nat.le_trans (Keep.refl h0 []).1 z1_0
  have gn1_1 : n0 ≤ ar1 := Nat.le_trans (old_le O0) z1_1
  have gs1_1 : h0.size ≤ ar1 := Nat.le_trans (Keep.refl h0 []).1 z1_1
  refine Goes.via (B := T1.setTop (mkF m 4 #[rv a1] [(.ref r1)])) (fun t k => st1 _ k) ?_
  exact finA (Q := (own_Q46 Z a1 bz kz x2 pga pgb pgc mr h0 n0)) (F := FrameEnd) (C := ((Rm 8 3 8 103)).cells) (S := ((Rm 8 3 8 103)).slots) X1 hx Bd.returns rfl rfl rfl (hb hby d_jdk_40_48_4) rfl ⟨r1, ar1, ka1, rfl, N1, ((Keep.refl h0 []).trans K1 all0), gs1_0, gs1_1, f1_0, f1_1, f1_2⟩ (lvN X1 hlk (by decide) (by decide))
theorem own_pn15 : plainName "com/example/wakenitz/wakenitz/measure/ScoreSheet" = true := by first | (simp [plainName, overriddenIn]; done) | decide +kernel
theorem d_prog_19_1_0 : decode prog_19_method_1_code 0 = .ok (.aload_n 0, 1) := by decide +kernel
theorem d_prog_19_1_1 : decode prog_19_method_1_code 1 = .ok (.invokespecial 1, 3) := by decide +kernel
theorem d_prog_19_1_4 : decode prog_19_method_1_code 4 = .ok (.aload_n 1, 1) := by decide +kernel
theorem d_prog_19_1_5 : decode prog_19_method_1_code 5 = .ok (.invokeinterface 7 1, 5) := by decide +kernel
theorem d_prog_19_1_10 : decode prog_19_method_1_code 10 = .ok (.ifCond .eq 13, 3) := by decide +kernel
theorem d_prog_19_1_23 : decode prog_19_method_1_code 23 = .ok (.aload_n 0, 1) := by decide +kernel
theorem d_prog_19_1_24 : decode prog_19_method_1_code 24 = .ok (.aload_n 1, 1) := by decide +kernel
theorem d_prog_19_1_25 : decode prog_19_method_1_code 25 = .ok (.invokestatic 20, 3) := by decide +kernel
theorem d_prog_19_1_28 : decode prog_19_method_1_code 28 = .ok (.putfield 24, 3) := by decide +kernel
theorem d_prog_19_1_31 : decode prog_19_method_1_code 31 = .ok (.return_, 1) := by decide +kernel
theorem own_ef47 (m : MethodId) (x0 : Addr) (x1 : Addr)  : entryFrame m #[(.ref x0), (.ref x1)] 2 = mkF m 0 #[rv x0, rv x1] [] := by first | (simp [entryFrame, mkF, argsToLocals, Value.category]; done) | rfl
abbrev own_Q47 (Z : State) (sh : Addr) (a1 : Addr) (bz : Addr) (kz : ClassId) (x2 : Int32) (pga : Addr) (mr : Addr) (em : Addr) (h0 : Heap) (n0 : Nat) (v : Option Value) (h : Heap) (L : List Loc) : Prop := ∃ r : Addr, v = none ∧ Fr n0 L ∧ Keep h0 h [sh] ∧ h0.size ≤ r ∧ Exa Z h sh "com/example/wakenitz/wakenitz/measure/ScoreSheet" ∧ Fld Z h sh "com/example/wakenitz/wakenitz/measure/ScoreSheet" "pages" "Ljava/util/List;" (.ref r) ∧ Exa Z h r "java/util/ImmutableCollections$List12" ∧ Fld Z h r "java/util/ImmutableCollections$List12" "e0" "Ljava/lang/Object;" (.ref pga) ∧ Fld Z h r "java/util/ImmutableCollections$List12" "e1" "Ljava/lang/Object;" (.ref em)
set_option maxRecDepth 65536 in
set_option maxHeartbeats 40000000 in
theorem own_m47 (l : Launch) (Z : State) (a0 : Array Value) (hw : ∀ d ∈ tables_1, d.before a0 Z = true) (ws : List Jvm.Cond) (sh : Addr) (a1 : Addr) (bz : Addr) (kz : ClassId) (x2 : Int32) (pga : Addr) (mr : Addr) (em : Addr) (h0 : Heap) (n0 : Nat) (O0 : Old Z n0 h0) (Mi : Mirr Z "[Ljava/lang/Object;" mr) (gn_sh : n0 ≤ sh) (O_1 : Sta Z Z.heap "java/util/ImmutableCollections" "EMPTY" "Ljava/lang/Object;" (.ref em)) (F_1 : Exa Z h0 sh "com/example/wakenitz/wakenitz/measure/ScoreSheet") (F_2 : Fld Z h0 sh "com/example/wakenitz/wakenitz/measure/ScoreSheet" "pages" "Ljava/util/List;" .null) (F_3 : Exa Z h0 a1 "java/util/ArrayList") (F_4 : Fld Z h0 a1 "java/util/ArrayList" "elementData" "[Ljava/lang/Object;" (.ref bz)) (F_5 : Fld Z h0 a1 "java/util/ArrayList" "size" "I" (.int (1 : Int32))) (F_6 : Fld Z h0 a1 "java/util/AbstractList" "modCount" "I" (.int x2)) (F_7 : Arv Z h0 bz kz (.object "java/lang/Object") (10 : Int32) [(.ref pga), .null, .null, .null, .null, .null, .null, .null, .null, .null] .null) (F_8 : Exa Z h0 bz "[Ljava/lang/Object;") (F_9 : Exa Z h0 pga "com/example/wakenitz/wakenitz/measure/ScoreSheet$PageScore") :
    Ctr l Z (⟨"com/example/wakenitz/wakenitz/measure/ScoreSheet", "<init>", "(Ljava/util/List;)V"⟩ : MethodName) prog_19_method_1_code 2 none (Rm 8 2 3 101) #[(.ref sh), (.ref a1)] h0 (own_Q47 Z sh a1 bz kz x2 pga mr em h0 n0) ws := by
  refine MetFree.of_bodySF (plainFor_of_name own_pn15) hisR ?_
  intro p e s m args below meth c s₁ Bd hml0 hP hK
  obtain ⟨rfl, hZ, hh⟩ := hP
  have hx := Bd.exec
  have hby := Bd.bytes
  have hlk : meth.locks = false := Bd.notSynchronized
  have hml : c.maxLocals = 2 := hml0
  have hown : s.vm.findClass "com/example/wakenitz/wakenitz/measure/ScoreSheet" = some m.cls := findClass_of_methodNamed Bd.named
  have hnm := (name_of_methodNamed Bd.named Bd.method).1
  have X0 : Stand p l e (Rm 8 2 3 101) s m #[(.ref sh), (.ref a1)] below meth c s₁ [] 0 0 := Stand.of_body Bd
  have e0 : s₁.heap = h0 := by rw [← hh, Bd.state]; rfl
  have N0 := Fr.nil n0
  show Goes p.tables e below (fun t o => ∃ v L, o = .returned v ∧ (own_Q47 Z sh a1 bz kz x2 pga mr em h0 n0) v t.heap L ∧ FrameEnd s o t L ((Rm 8 2 3 101)).cells ((Rm 8 2 3 101)).slots) _
  refine Goes.via (B := s₁.setTop (mkF m 0 #[rv sh, rv a1] [])) (fun t k => castTop (own_ef47 m sh a1) k) ?_
  refine Gv s₁ 1 [(.ref sh)] (fun t k => XS.aloadN X0.here hx rfl (hb hby d_prog_19_1_0) rfl rfl k) ?_
  obtain ⟨T1, X1, e1, st1⟩ := initO X0 hx hZ hown (W_ hw 118 rfl) (W_ hw 20 rfl) (W_ hw 21 rfl) e0 (g := (mkF m 1 #[rv sh, rv a1] [(.ref sh)])) rfl (by rw [hml]; rfl) rfl (hb hby d_prog_19_1_1) (by decide) (W := 0) (by show 2 * 0 + _ ≤ _; exact Nat.le_of_eq rfl) (by decide)
  refine Goes.via (B := T1.setTop (mkF m 4 #[rv sh, rv a1] [])) (fun t k => st1 _ k) ?_
  refine Gv T1 5 [(.ref a1)] (fun t k => XS.aloadN X1.here hx rfl (hb hby d_prog_19_1_4) rfl rfl k) ?_
  obtain ⟨_, T2, L2, X2, ⟨rfl, M2, K2⟩, st2⟩ := callFace X1 hx hZ hown (W_ hw 119 rfl) (W_ hw 120 rfl) (mvT hZ (W_ hw 121 rfl)) (W_ hw 122 rfl) (W_ hw 123 rfl) (W_ hw 124 rfl) (W_ hw 125 rfl) (W_ hw 82 rfl) (W_ hw 3 rfl) (W_ hw 126 rfl) (by decide) (argsL := []) (rest := []) (own_m19 l Z a0 hw [] a1 h0 n0 O0 F_5) e1 F_3 (lenOf own_pd12 rfl) (pc := 5) (Ls := #[rv sh, rv a1]) (st := [(.ref a1)]) rfl (by rw [hml]; rfl) (hb hby d_prog_19_1_5) (W := 0) (Nat.le_of_eq rfl) (by decide) (by decide) (by decide) (by decide)
  have N2 := Fr.app N0 M2
  refine Goes.via (B := T2.setTop (mkF m 10 #[rv sh, rv a1] [(.int (0 : Int32))])) (fun t k => st2 _ k) ?_
  refine Gv T2 23 [] (fun t k => XS.ifYes X2.here hx rfl (pc0 := 10) (pc' := 23) rfl (hb hby d_prog_19_1_10) rfl (XT.i0_eq_t rfl) (by decide) (by decide) k) ?_
  refine Gv T2 24 [(.ref sh)] (fun t k => XS.aloadN X2.here hx rfl (hb hby d_prog_19_1_23) rfl rfl k) ?_
  refine Gv T2 25 [(.ref a1), (.ref sh)] (fun t k => XS.aloadN X2.here hx rfl (hb hby d_prog_19_1_24) rfl rfl k) ?_
  obtain ⟨_, T3, L3, X3, ⟨r3, rfl, M3, K3, z3_0, f3_0, f3_1, f3_2⟩, st3⟩ := callStatic X2 hx hZ hown (W_ hw 127 rfl) (W_ hw 128 rfl) (W_ hw 129 rfl) (W_ hw 130 rfl) (by decide) (argsL := [(.ref a1)]) (rest := [(.ref sh)]) (own_m40 l Z a0 hw [] a1 bz kz x2 pga mr em h0 n0 O0 Mi O_1 F_3 F_4 F_5 F_6 F_7 F_8 F_9) K2 (lenOf own_pd14 rfl) (pc := 25) (Ls := #[rv sh, rv a1]) (st := [(.ref a1), (.ref sh)]) rfl (by rw [hml]; rfl) (hb hby d_prog_19_1_25) (W := 1) (Nat.le_of_eq rfl) (by decide) (by decide) (by decide) (by decide)
  have N3 := Fr.app N2 M3
  have gn3_0 : n0 ≤ r3 := Nat.le_trans (old_le O0) z3_0
  have gs3_0 : h0.size ≤ r3 := Nat.le_trans (Keep.refl h0 [sh]).1 z3_0
  refine Goes.via (B := T3.setTop (mkF m 28 #[rv sh, rv a1] [(.ref r3), (.ref sh)])) (fun t k => st3 _ k) ?_
  obtain ⟨T4, h4, X4, e4, W4, st4⟩ := putF X3 hx hZ hown (host := "") (Or.inl (W_ hw 211 rfl)) Via.refl rfl (F_2.keep K3 nin0) (F_1.keep K3) (Or.inr ⟨(W_ hw 212 rfl), rfl, hnm⟩) (W_ hw 113 rfl) (ty := (.object "java/util/List")) (by decide) rfl rfl (g := (mkF m 28 #[rv sh, rv a1] [(.ref r3), (.ref sh)])) rfl rfl (hb hby d_prog_19_1_28)
  have N4 := Fr.snoc X4 N3 gn_sh
  refine Goes.via (B := T4.setTop (mkF m 31 #[rv sh, rv a1] [])) (fun t k => st4 _ k) ?_
  have c5 : Fld Z h4 r3 "java/util/ImmutableCollections$List12" "e0" "Ljava/lang/Object;" (.ref pga) := (Fld.other W4 f3_1 (Or.inl (Ne.symm (Nat.ne_of_lt (Nat.lt_of_lt_of_le F_1.lt z3_0)))))
  have c6 : Fld Z h4 r3 "java/util/ImmutableCollections$List12" "e1" "Ljava/lang/Object;" (.ref em) := (Fld.other W4 f3_2 (Or.inl (Ne.symm (Nat.ne_of_lt (Nat.lt_of_lt_of_le F_1.lt z3_0)))))
  exact fin0 (Q := (own_Q47 Z sh a1 bz kz x2 pga mr em h0 n0)) (F := FrameEnd) (C := ((Rm 8 2 3 101)).cells) (S := ((Rm 8 2 3 101)).slots) X4 hx Bd.returns (hb hby d_prog_19_1_31) e4 ⟨r3, rfl, N4, (((Keep.refl h0 [sh]).trans K3 all0).wr W4 (Or.inl (List.mem_of_getElem? (i := 0) rfl))), gs3_0, (Exa.wr W4 (F_1.keep K3)), (Fld.same W4 (F_2.keep K3 nin0)), (Exa.wr W4 f3_0), c5, c6⟩ (lvN X4 hlk (by decide) (by decide))
theorem own_ef48 (m : MethodId) (x0 : Addr) (x1 : Addr)  : entryFrame m #[(.ref x0), (.ref x1)] 2 = mkF m 0 #[rv x0, rv x1] [] := by first | (simp [entryFrame, mkF, argsToLocals, Value.category]; done) | rfl
abbrev own_Q48 (Z : State) (sh : Addr) (a1 : Addr) (bz : Addr) (kz : ClassId) (x2 : Int32) (pga : Addr) (pgb : Addr) (mr : Addr) (h0 : Heap) (n0 : Nat) (v : Option Value) (h : Heap) (L : List Loc) : Prop := ∃ r : Addr, v = none ∧ Fr n0 L ∧ Keep h0 h [sh] ∧ h0.size ≤ r ∧ Exa Z h sh "com/example/wakenitz/wakenitz/measure/ScoreSheet" ∧ Fld Z h sh "com/example/wakenitz/wakenitz/measure/ScoreSheet" "pages" "Ljava/util/List;" (.ref r) ∧ Exa Z h r "java/util/ImmutableCollections$List12" ∧ Fld Z h r "java/util/ImmutableCollections$List12" "e0" "Ljava/lang/Object;" (.ref pga) ∧ Fld Z h r "java/util/ImmutableCollections$List12" "e1" "Ljava/lang/Object;" (.ref pgb)
set_option maxRecDepth 65536 in
set_option maxHeartbeats 40000000 in
theorem own_m48 (l : Launch) (Z : State) (a0 : Array Value) (hw : ∀ d ∈ tables_1, d.before a0 Z = true) (ws : List Jvm.Cond) (sh : Addr) (a1 : Addr) (bz : Addr) (kz : ClassId) (x2 : Int32) (pga : Addr) (pgb : Addr) (mr : Addr) (h0 : Heap) (n0 : Nat) (O0 : Old Z n0 h0) (Mi : Mirr Z "[Ljava/lang/Object;" mr) (gn_sh : n0 ≤ sh) (F_1 : Exa Z h0 sh "com/example/wakenitz/wakenitz/measure/ScoreSheet") (F_2 : Fld Z h0 sh "com/example/wakenitz/wakenitz/measure/ScoreSheet" "pages" "Ljava/util/List;" .null) (F_3 : Exa Z h0 a1 "java/util/ArrayList") (F_4 : Fld Z h0 a1 "java/util/ArrayList" "elementData" "[Ljava/lang/Object;" (.ref bz)) (F_5 : Fld Z h0 a1 "java/util/ArrayList" "size" "I" (.int (2 : Int32))) (F_6 : Fld Z h0 a1 "java/util/AbstractList" "modCount" "I" (.int x2)) (F_7 : Arv Z h0 bz kz (.object "java/lang/Object") (10 : Int32) [(.ref pga), (.ref pgb), .null, .null, .null, .null, .null, .null, .null, .null] .null) (F_8 : Exa Z h0 bz "[Ljava/lang/Object;") (F_9 : Exa Z h0 pga "com/example/wakenitz/wakenitz/measure/ScoreSheet$PageScore") (F_10 : Exa Z h0 pgb "com/example/wakenitz/wakenitz/measure/ScoreSheet$PageScore") :
    Ctr l Z (⟨"com/example/wakenitz/wakenitz/measure/ScoreSheet", "<init>", "(Ljava/util/List;)V"⟩ : MethodName) prog_19_method_1_code 2 none (Rm 8 2 4 102) #[(.ref sh), (.ref a1)] h0 (own_Q48 Z sh a1 bz kz x2 pga pgb mr h0 n0) ws := by
  refine MetFree.of_bodySF (plainFor_of_name own_pn15) hisR ?_
  intro p e s m args below meth c s₁ Bd hml0 hP hK
  obtain ⟨rfl, hZ, hh⟩ := hP
  have hx := Bd.exec
  have hby := Bd.bytes
  have hlk : meth.locks = false := Bd.notSynchronized
  have hml : c.maxLocals = 2 := hml0
  have hown : s.vm.findClass "com/example/wakenitz/wakenitz/measure/ScoreSheet" = some m.cls := findClass_of_methodNamed Bd.named
  have hnm := (name_of_methodNamed Bd.named Bd.method).1
  have X0 : Stand p l e (Rm 8 2 4 102) s m #[(.ref sh), (.ref a1)] below meth c s₁ [] 0 0 := Stand.of_body Bd
  have e0 : s₁.heap = h0 := by rw [← hh, Bd.state]; rfl
  have N0 := Fr.nil n0
  show Goes p.tables e below (fun t o => ∃ v L, o = .returned v ∧ (own_Q48 Z sh a1 bz kz x2 pga pgb mr h0 n0) v t.heap L ∧ FrameEnd s o t L ((Rm 8 2 4 102)).cells ((Rm 8 2 4 102)).slots) _
  refine Goes.via (B := s₁.setTop (mkF m 0 #[rv sh, rv a1] [])) (fun t k => castTop (own_ef48 m sh a1) k) ?_
  refine Gv s₁ 1 [(.ref sh)] (fun t k => XS.aloadN X0.here hx rfl (hb hby d_prog_19_1_0) rfl rfl k) ?_
  obtain ⟨T1, X1, e1, st1⟩ := initO X0 hx hZ hown (W_ hw 118 rfl) (W_ hw 20 rfl) (W_ hw 21 rfl) e0 (g := (mkF m 1 #[rv sh, rv a1] [(.ref sh)])) rfl (by rw [hml]; rfl) rfl (hb hby d_prog_19_1_1) (by decide) (W := 0) (by show 2 * 0 + _ ≤ _; exact Nat.le_of_eq rfl) (by decide)
  refine Goes.via (B := T1.setTop (mkF m 4 #[rv sh, rv a1] [])) (fun t k => st1 _ k) ?_
  refine Gv T1 5 [(.ref a1)] (fun t k => XS.aloadN X1.here hx rfl (hb hby d_prog_19_1_4) rfl rfl k) ?_
  obtain ⟨_, T2, L2, X2, ⟨rfl, M2, K2⟩, st2⟩ := callFace X1 hx hZ hown (W_ hw 119 rfl) (W_ hw 120 rfl) (mvT hZ (W_ hw 121 rfl)) (W_ hw 122 rfl) (W_ hw 123 rfl) (W_ hw 124 rfl) (W_ hw 125 rfl) (W_ hw 82 rfl) (W_ hw 3 rfl) (W_ hw 126 rfl) (by decide) (argsL := []) (rest := []) (own_m20 l Z a0 hw [] a1 h0 n0 O0 F_5) e1 F_3 (lenOf own_pd12 rfl) (pc := 5) (Ls := #[rv sh, rv a1]) (st := [(.ref a1)]) rfl (by rw [hml]; rfl) (hb hby d_prog_19_1_5) (W := 0) (Nat.le_of_eq rfl) (by decide) (by decide) (by decide) (by decide)
  have N2 := Fr.app N0 M2
  refine Goes.via (B := T2.setTop (mkF m 10 #[rv sh, rv a1] [(.int (0 : Int32))])) (fun t k => st2 _ k) ?_
  refine Gv T2 23 [] (fun t k => XS.ifYes X2.here hx rfl (pc0 := 10) (pc' := 23) rfl (hb hby d_prog_19_1_10) rfl (XT.i0_eq_t rfl) (by decide) (by decide) k) ?_
  refine Gv T2 24 [(.ref sh)] (fun t k => XS.aloadN X2.here hx rfl (hb hby d_prog_19_1_23) rfl rfl k) ?_
  refine Gv T2 25 [(.ref a1), (.ref sh)] (fun t k => XS.aloadN X2.here hx rfl (hb hby d_prog_19_1_24) rfl rfl k) ?_
  obtain ⟨_, T3, L3, X3, ⟨r3, rfl, M3, K3, z3_0, f3_0, f3_1, f3_2⟩, st3⟩ := callStatic X2 hx hZ hown (W_ hw 127 rfl) (W_ hw 128 rfl) (W_ hw 129 rfl) (W_ hw 130 rfl) (by decide) (argsL := [(.ref a1)]) (rest := [(.ref sh)]) (own_m43 l Z a0 hw [] a1 bz kz x2 pga pgb mr h0 n0 O0 Mi F_3 F_4 F_5 F_6 F_7 F_8 F_9 F_10) K2 (lenOf own_pd14 rfl) (pc := 25) (Ls := #[rv sh, rv a1]) (st := [(.ref a1), (.ref sh)]) rfl (by rw [hml]; rfl) (hb hby d_prog_19_1_25) (W := 1) (Nat.le_of_eq rfl) (by decide) (by decide) (by decide) (by decide)
  have N3 := Fr.app N2 M3
  have gn3_0 : n0 ≤ r3 := Nat.le_trans (old_le O0) z3_0
  have gs3_0 : h0.size ≤ r3 := Nat.le_trans (Keep.refl h0 [sh]).1 z3_0
  refine Goes.via (B := T3.setTop (mkF m 28 #[rv sh, rv a1] [(.ref r3), (.ref sh)])) (fun t k => st3 _ k) ?_
  obtain ⟨T4, h4, X4, e4, W4, st4⟩ := putF X3 hx hZ hown (host := "") (Or.inl (W_ hw 211 rfl)) Via.refl rfl (F_2.keep K3 nin0) (F_1.keep K3) (Or.inr ⟨(W_ hw 212 rfl), rfl, hnm⟩) (W_ hw 113 rfl) (ty := (.object "java/util/List")) (by decide) rfl rfl (g := (mkF m 28 #[rv sh, rv a1] [(.ref r3), (.ref sh)])) rfl rfl (hb hby d_prog_19_1_28)
  have N4 := Fr.snoc X4 N3 gn_sh
  refine Goes.via (B := T4.setTop (mkF m 31 #[rv sh, rv a1] [])) (fun t k => st4 _ k) ?_
  have c5 : Fld Z h4 r3 "java/util/ImmutableCollections$List12" "e0" "Ljava/lang/Object;" (.ref pga) := (Fld.other W4 f3_1 (Or.inl (Ne.symm (Nat.ne_of_lt (Nat.lt_of_lt_of_le F_1.lt z3_0)))))
  have c6 : Fld Z h4 r3 "java/util/ImmutableCollections$List12" "e1" "Ljava/lang/Object;" (.ref pgb) := (Fld.other W4 f3_2 (Or.inl (Ne.symm (Nat.ne_of_lt (Nat.lt_of_lt_of_le F_1.lt z3_0)))))
  exact fin0 (Q := (own_Q48 Z sh a1 bz kz x2 pga pgb mr h0 n0)) (F := FrameEnd) (C := ((Rm 8 2 4 102)).cells) (S := ((Rm 8 2 4 102)).slots) X4 hx Bd.returns (hb hby d_prog_19_1_31) e4 ⟨r3, rfl, N4, (((Keep.refl h0 [sh]).trans K3 all0).wr W4 (Or.inl (List.mem_of_getElem? (i := 0) rfl))), gs3_0, (Exa.wr W4 (F_1.keep K3)), (Fld.same W4 (F_2.keep K3 nin0)), (Exa.wr W4 f3_0), c5, c6⟩ (lvN X4 hlk (by decide) (by decide))
theorem own_ef49 (m : MethodId) (x0 : Addr) (x1 : Addr)  : entryFrame m #[(.ref x0), (.ref x1)] 2 = mkF m 0 #[rv x0, rv x1] [] := by first | (simp [entryFrame, mkF, argsToLocals, Value.category]; done) | rfl
abbrev own_Q49 (Z : State) (sh : Addr) (a1 : Addr) (bz : Addr) (kz : ClassId) (x2 : Int32) (pga : Addr) (pgb : Addr) (pgc : Addr) (mr : Addr) (h0 : Heap) (n0 : Nat) (v : Option Value) (h : Heap) (L : List Loc) : Prop := ∃ r : Addr, ∃ ar : Addr, ∃ ka : ClassId, v = none ∧ Fr n0 L ∧ Keep h0 h [sh] ∧ h0.size ≤ r ∧ h0.size ≤ ar ∧ Exa Z h sh "com/example/wakenitz/wakenitz/measure/ScoreSheet" ∧ Fld Z h sh "com/example/wakenitz/wakenitz/measure/ScoreSheet" "pages" "Ljava/util/List;" (.ref r) ∧ Exa Z h r "java/util/ImmutableCollections$ListN" ∧ Fld Z h r "java/util/ImmutableCollections$ListN" "elements" "[Ljava/lang/Object;" (.ref ar) ∧ Arv Z h ar ka (.object "java/lang/Object") (3 : Int32) [(.ref pga), (.ref pgb), (.ref pgc)] .null
set_option maxRecDepth 65536 in
set_option maxHeartbeats 40000000 in
theorem own_m49 (l : Launch) (Z : State) (a0 : Array Value) (hw : ∀ d ∈ tables_1, d.before a0 Z = true) (ws : List Jvm.Cond) (sh : Addr) (a1 : Addr) (bz : Addr) (kz : ClassId) (x2 : Int32) (pga : Addr) (pgb : Addr) (pgc : Addr) (mr : Addr) (h0 : Heap) (n0 : Nat) (O0 : Old Z n0 h0) (Mi : Mirr Z "[Ljava/lang/Object;" mr) (gn_sh : n0 ≤ sh) (F_1 : Exa Z h0 sh "com/example/wakenitz/wakenitz/measure/ScoreSheet") (F_2 : Fld Z h0 sh "com/example/wakenitz/wakenitz/measure/ScoreSheet" "pages" "Ljava/util/List;" .null) (F_3 : Exa Z h0 a1 "java/util/ArrayList") (F_4 : Fld Z h0 a1 "java/util/ArrayList" "elementData" "[Ljava/lang/Object;" (.ref bz)) (F_5 : Fld Z h0 a1 "java/util/ArrayList" "size" "I" (.int (3 : Int32))) (F_6 : Fld Z h0 a1 "java/util/AbstractList" "modCount" "I" (.int x2)) (F_7 : Arv Z h0 bz kz (.object "java/lang/Object") (10 : Int32) [(.ref pga), (.ref pgb), (.ref pgc), .null, .null, .null, .null, .null, .null, .null] .null) (F_8 : Exa Z h0 bz "[Ljava/lang/Object;") (F_9 : Exa Z h0 pga "com/example/wakenitz/wakenitz/measure/ScoreSheet$PageScore") (F_10 : Exa Z h0 pgb "com/example/wakenitz/wakenitz/measure/ScoreSheet$PageScore") (F_11 : Exa Z h0 pgc "com/example/wakenitz/wakenitz/measure/ScoreSheet$PageScore") :
    Ctr l Z (⟨"com/example/wakenitz/wakenitz/measure/ScoreSheet", "<init>", "(Ljava/util/List;)V"⟩ : MethodName) prog_19_method_1_code 2 none (Rm 9 3 8 116) #[(.ref sh), (.ref a1)] h0 (own_Q49 Z sh a1 bz kz x2 pga pgb pgc mr h0 n0) ws := by
  refine MetFree.of_bodySF (plainFor_of_name own_pn15) hisR ?_
  intro p e s m args below meth c s₁ Bd hml0 hP hK
  obtain ⟨rfl, hZ, hh⟩ := hP
  have hx := Bd.exec
  have hby := Bd.bytes
  have hlk : meth.locks = false := Bd.notSynchronized
  have hml : c.maxLocals = 2 := hml0
  have hown : s.vm.findClass "com/example/wakenitz/wakenitz/measure/ScoreSheet" = some m.cls := findClass_of_methodNamed Bd.named
  have hnm := (name_of_methodNamed Bd.named Bd.method).1
  have X0 : Stand p l e (Rm 9 3 8 116) s m #[(.ref sh), (.ref a1)] below meth c s₁ [] 0 0 := Stand.of_body Bd
  have e0 : s₁.heap = h0 := by rw [← hh, Bd.state]; rfl
  have N0 := Fr.nil n0
  show Goes p.tables e below (fun t o => ∃ v L, o = .returned v ∧ (own_Q49 Z sh a1 bz kz x2 pga pgb pgc mr h0 n0) v t.heap L ∧ FrameEnd s o t L ((Rm 9 3 8 116)).cells ((Rm 9 3 8 116)).slots) _
  refine Goes.via (B := s₁.setTop (mkF m 0 #[rv sh, rv a1] [])) (fun t k => castTop (own_ef49 m sh a1) k) ?_
  refine Gv s₁ 1 [(.ref sh)] (fun t k => XS.aloadN X0.here hx rfl (hb hby d_prog_19_1_0) rfl rfl k) ?_
  obtain ⟨T1, X1, e1, st1⟩ := initO X0 hx hZ hown (W_ hw 118 rfl) (W_ hw 20 rfl) (W_ hw 21 rfl) e0 (g := (mkF m 1 #[rv sh, rv a1] [(.ref sh)])) rfl (by rw [hml]; rfl) rfl (hb hby d_prog_19_1_1) (by decide) (W := 0) (by show 2 * 0 + _ ≤ _; exact Nat.le_of_eq rfl) (by decide)
  refine Goes.via (B := T1.setTop (mkF m 4 #[rv sh, rv a1] [])) (fun t k => st1 _ k) ?_
  refine Gv T1 5 [(.ref a1)] (fun t k => XS.aloadN X1.here hx rfl (hb hby d_prog_19_1_4) rfl rfl k) ?_
  obtain ⟨_, T2, L2, X2, ⟨rfl, M2, K2⟩, st2⟩ := callFace X1 hx hZ hown (W_ hw 119 rfl) (W_ hw 120 rfl) (mvT hZ (W_ hw 121 rfl)) (W_ hw 122 rfl) (W_ hw 123 rfl) (W_ hw 124 rfl) (W_ hw 125 rfl) (W_ hw 82 rfl) (W_ hw 3 rfl) (W_ hw 126 rfl) (by decide) (argsL := []) (rest := []) (own_m21 l Z a0 hw [] a1 h0 n0 O0 F_5) e1 F_3 (lenOf own_pd12 rfl) (pc := 5) (Ls := #[rv sh, rv a1]) (st := [(.ref a1)]) rfl (by rw [hml]; rfl) (hb hby d_prog_19_1_5) (W := 0) (Nat.le_of_eq rfl) (by decide) (by decide) (by decide) (by decide)
  have N2 := Fr.app N0 M2
  refine Goes.via (B := T2.setTop (mkF m 10 #[rv sh, rv a1] [(.int (0 : Int32))])) (fun t k => st2 _ k) ?_
  refine Gv T2 23 [] (fun t k => XS.ifYes X2.here hx rfl (pc0 := 10) (pc' := 23) rfl (hb hby d_prog_19_1_10) rfl (XT.i0_eq_t rfl) (by decide) (by decide) k) ?_
  refine Gv T2 24 [(.ref sh)] (fun t k => XS.aloadN X2.here hx rfl (hb hby d_prog_19_1_23) rfl rfl k) ?_
  refine Gv T2 25 [(.ref a1), (.ref sh)] (fun t k => XS.aloadN X2.here hx rfl (hb hby d_prog_19_1_24) rfl rfl k) ?_
  obtain ⟨_, T3, L3, X3, ⟨r3, ar3, ka3, rfl, M3, K3, z3_0, z3_1, f3_0, f3_1, f3_2⟩, st3⟩ := callStatic X2 hx hZ hown (W_ hw 127 rfl) (W_ hw 128 rfl) (W_ hw 129 rfl) (W_ hw 130 rfl) (by decide) (argsL := [(.ref a1)]) (rest := [(.ref sh)]) (own_m46 l Z a0 hw [] a1 bz kz x2 pga pgb pgc mr h0 n0 O0 Mi F_3 F_4 F_5 F_6 F_7 F_8 F_9 F_10 F_11) K2 (lenOf own_pd14 rfl) (pc := 25) (Ls := #[rv sh, rv a1]) (st := [(.ref a1), (.ref sh)]) rfl (by rw [hml]; rfl) (hb hby d_prog_19_1_25) (W := 1) (Nat.le_of_eq rfl) (by decide) (by decide) (by decide) (by decide)
  have N3 := Fr.app N2 M3
  have gn3_0 : n0 ≤ r3 := Nat.le_trans (old_le O0) z3_0
  have gs3_0 : h0.size ≤ r3 := Nat.le_trans (Keep.refl h0 [sh]).1 z3_0
  have gn3_1 : n0 ≤ ar3 := Nat.le_trans (old_le O0) z3_1
  have gs3_1 : h0.size ≤ ar3 := Nat.le_trans (Keep.refl h0 [sh]).1 z3_1
  refine Goes.via (B := T3.setTop (mkF m 28 #[rv sh, rv a1] [(.ref r3), (.ref sh)])) (fun t k => st3 _ k) ?_
  obtain ⟨T4, h4, X4, e4, W4, st4⟩ := putF X3 hx hZ hown (host := "") (Or.inl (W_ hw 211 rfl)) Via.refl rfl (F_2.keep K3 nin0) (F_1.keep K3) (Or.inr ⟨(W_ hw 212 rfl), rfl, hnm⟩) (W_ hw 113 rfl) (ty := (.object "java/util/List")) (by decide) rfl rfl (g := (mkF m 28 #[rv sh, rv a1] [(.ref r3), (.ref sh)])) rfl rfl (hb hby d_prog_19_1_28)
  have N4 := Fr.snoc X4 N3 gn_sh
  refine Goes.via (B := T4.setTop (mkF m 31 #[rv sh, rv a1] [])) (fun t k => st4 _ k) ?_
  have c5 : Fld Z h4 r3 "java/util/ImmutableCollections$ListN" "elements" "[Ljava/lang/Object;" (.ref ar3) := (Fld.other W4 f3_1 (Or.inl (Ne.symm (Nat.ne_of_lt (Nat.lt_of_lt_of_le F_1.lt z3_0)))))
  have c6 : Arv Z h4 ar3 ka3 (.object "java/lang/Object") (3 : Int32) [(.ref pga), (.ref pgb), (.ref pgc)] .null := (Arv.other f3_2 W4 (Ne.symm (Nat.ne_of_lt (Nat.lt_of_lt_of_le F_1.lt z3_1))))
  exact fin0 (Q := (own_Q49 Z sh a1 bz kz x2 pga pgb pgc mr h0 n0)) (F := FrameEnd) (C := ((Rm 9 3 8 116)).cells) (S := ((Rm 9 3 8 116)).slots) X4 hx Bd.returns (hb hby d_prog_19_1_31) e4 ⟨r3, ar3, ka3, rfl, N4, (((Keep.refl h0 [sh]).trans K3 all0).wr W4 (Or.inl (List.mem_of_getElem? (i := 0) rfl))), gs3_0, gs3_1, (Exa.wr W4 (F_1.keep K3)), (Fld.same W4 (F_2.keep K3 nin0)), (Exa.wr W4 f3_0), c5, c6⟩ (lvN X4 hlk (by decide) (by decide))
theorem d_jdk_44_3_0 : decode jdk_44_method_3_code 0 = .ok (.aload_n 0, 1) := by decide +kernel
theorem d_jdk_44_3_1 : decode jdk_44_method_3_code 1 = .ok (.getfield 24, 3) := by decide +kernel
theorem d_jdk_44_3_4 : decode jdk_44_method_3_code 4 = .ok (.getstatic 19, 3) := by decide +kernel
theorem d_jdk_44_3_7 : decode jdk_44_method_3_code 7 = .ok (.if_acmp .eq 7, 3) := by decide +kernel
theorem d_jdk_44_3_14 : decode jdk_44_method_3_code 14 = .ok (.iconst 1, 1) := by decide +kernel
theorem d_jdk_44_3_15 : decode jdk_44_method_3_code 15 = .ok (.ireturn, 1) := by decide +kernel
theorem own_ef50 (m : MethodId) (x0 : Addr)  : entryFrame m #[(.ref x0)] 1 = mkF m 0 #[rv x0] [] := by first | (simp [entryFrame, mkF, argsToLocals, Value.category]; done) | rfl
abbrev own_Q50 (Z : State) (li : Addr) (pga : Addr) (em : Addr) (h0 : Heap) (n0 : Nat) (v : Option Value) (h : Heap) (L : List Loc) : Prop := v = some (.int (1 : Int32)) ∧ Fr n0 L ∧ h = h0
set_option maxRecDepth 65536 in
set_option maxHeartbeats 40000000 in
theorem own_m50 (l : Launch) (Z : State) (a0 : Array Value) (hw : ∀ d ∈ tables_1, d.before a0 Z = true) (ws : List Jvm.Cond) (li : Addr) (pga : Addr) (em : Addr) (h0 : Heap) (n0 : Nat) (O0 : Old Z n0 h0) (O_1 : Sta Z Z.heap "java/util/ImmutableCollections" "EMPTY" "Ljava/lang/Object;" (.ref em)) (F_1 : Exa Z h0 li "java/util/ImmutableCollections$List12") (F_2 : Fld Z h0 li "java/util/ImmutableCollections$List12" "e0" "Ljava/lang/Object;" (.ref pga)) (F_3 : Fld Z h0 li "java/util/ImmutableCollections$List12" "e1" "Ljava/lang/Object;" (.ref em)) :
    Ctr l Z (⟨"java/util/ImmutableCollections$List12", "size", "()I"⟩ : MethodName) jdk_44_method_3_code 1 (some .int) (Rm 0 0 0 0) #[(.ref li)] h0 (own_Q50 Z li pga em h0 n0) ws := by
  refine MetFree.of_bodySF (plainFor_of_name own_pn11) hisR ?_
  intro p e s m args below meth c s₁ Bd hml0 hP hK
  obtain ⟨rfl, hZ, hh⟩ := hP
  have hx := Bd.exec
  have hby := Bd.bytes
  have hlk : meth.locks = false := Bd.notSynchronized
  have hml : c.maxLocals = 1 := hml0
  have hown : s.vm.findClass "java/util/ImmutableCollections$List12" = some m.cls := findClass_of_methodNamed Bd.named
  have hnm := (name_of_methodNamed Bd.named Bd.method).1
  have X0 : Stand p l e (Rm 0 0 0 0) s m #[(.ref li)] below meth c s₁ [] 0 0 := Stand.of_body Bd
  have e0 : s₁.heap = h0 := by rw [← hh, Bd.state]; rfl
  have N0 := Fr.nil n0
  show Goes p.tables e below (fun t o => ∃ v L, o = .returned v ∧ (own_Q50 Z li pga em h0 n0) v t.heap L ∧ FrameEnd s o t L ((Rm 0 0 0 0)).cells ((Rm 0 0 0 0)).slots) _
  refine Goes.via (B := s₁.setTop (mkF m 0 #[rv li] [])) (fun t k => castTop (own_ef50 m li) k) ?_
  refine Gv s₁ 1 [(.ref li)] (fun t k => XS.aloadN X0.here hx rfl (hb hby d_jdk_44_3_0) rfl rfl k) ?_
  obtain ⟨T1, X1, e1, st1⟩ := getF X0 hx hZ hown (host := "") (Or.inl (W_ hw 334 rfl)) Via.refl e0 F_3 (g := (mkF m 1 #[rv li] [(.ref li)])) rfl rfl (hb hby d_jdk_44_3_1)
  refine Goes.via (B := T1.setTop (mkF m 4 #[rv li] [(.ref em)])) (fun t k => st1 _ k) ?_
  obtain ⟨T2, X2, e2, st2⟩ := getS2 X1 hx hZ hown (Or.inr (W_ hw 333 rfl)) Via.refl e1 (Sta.ext O0.2 O_1) (g := (mkF m 4 #[rv li] [(.ref em)])) rfl (hb hby d_jdk_44_3_4)
  refine Goes.via (B := T2.setTop (mkF m 7 #[rv li] [(.ref em), (.ref em)])) (fun t k => st2 _ k) ?_
  refine Gv T2 14 [] (fun t k => XT.acmpYes X2.here hx rfl (pc0 := 7) (pc' := 14) rfl (hb hby d_jdk_44_3_7) rfl rfl rfl (XT.aa_eq_t rfl) (by decide) (by decide) k) ?_
  refine Gv T2 15 [(.int (1 : Int32))] (fun t k => XS.iconst X2.here hx rfl (hb hby d_jdk_44_3_14) k) ?_
  exact finI (Q := (own_Q50 Z li pga em h0 n0)) (F := FrameEnd) (C := ((Rm 0 0 0 0)).cells) (S := ((Rm 0 0 0 0)).slots) X2 hx Bd.returns (hb hby d_jdk_44_3_15) e2 ⟨rfl, N0, rfl⟩ (lvN X2 hlk (by decide) (by decide))
theorem d_jdk_44_3_10 : decode jdk_44_method_3_code 10 = .ok (.iconst 2, 1) := by decide +kernel
theorem d_jdk_44_3_11 : decode jdk_44_method_3_code 11 = .ok (.goto 4, 3) := by decide +kernel
theorem own_ef51 (m : MethodId) (x0 : Addr)  : entryFrame m #[(.ref x0)] 1 = mkF m 0 #[rv x0] [] := by first | (simp [entryFrame, mkF, argsToLocals, Value.category]; done) | rfl
abbrev own_Q51 (Z : State) (li : Addr) (pga : Addr) (pgb : Addr) (em : Addr) (h0 : Heap) (n0 : Nat) (v : Option Value) (h : Heap) (L : List Loc) : Prop := v = some (.int (2 : Int32)) ∧ Fr n0 L ∧ h = h0
set_option maxRecDepth 65536 in
set_option maxHeartbeats 40000000 in
theorem own_m51 (l : Launch) (Z : State) (a0 : Array Value) (hw : ∀ d ∈ tables_1, d.before a0 Z = true) (ws : List Jvm.Cond) (li : Addr) (pga : Addr) (pgb : Addr) (em : Addr) (h0 : Heap) (n0 : Nat) (O0 : Old Z n0 h0) (hne : ¬ pgb = em) (O_1 : Sta Z Z.heap "java/util/ImmutableCollections" "EMPTY" "Ljava/lang/Object;" (.ref em)) (F_1 : Exa Z h0 li "java/util/ImmutableCollections$List12") (F_2 : Fld Z h0 li "java/util/ImmutableCollections$List12" "e0" "Ljava/lang/Object;" (.ref pga)) (F_3 : Fld Z h0 li "java/util/ImmutableCollections$List12" "e1" "Ljava/lang/Object;" (.ref pgb)) :
    Ctr l Z (⟨"java/util/ImmutableCollections$List12", "size", "()I"⟩ : MethodName) jdk_44_method_3_code 1 (some .int) (Rm 0 0 0 0) #[(.ref li)] h0 (own_Q51 Z li pga pgb em h0 n0) ws := by
  refine MetFree.of_bodySF (plainFor_of_name own_pn11) hisR ?_
  intro p e s m args below meth c s₁ Bd hml0 hP hK
  obtain ⟨rfl, hZ, hh⟩ := hP
  have hx := Bd.exec
  have hby := Bd.bytes
  have hlk : meth.locks = false := Bd.notSynchronized
  have hml : c.maxLocals = 1 := hml0
  have hown : s.vm.findClass "java/util/ImmutableCollections$List12" = some m.cls := findClass_of_methodNamed Bd.named
  have hnm := (name_of_methodNamed Bd.named Bd.method).1
  have X0 : Stand p l e (Rm 0 0 0 0) s m #[(.ref li)] below meth c s₁ [] 0 0 := Stand.of_body Bd
  have e0 : s₁.heap = h0 := by rw [← hh, Bd.state]; rfl
  have N0 := Fr.nil n0
  show Goes p.tables e below (fun t o => ∃ v L, o = .returned v ∧ (own_Q51 Z li pga pgb em h0 n0) v t.heap L ∧ FrameEnd s o t L ((Rm 0 0 0 0)).cells ((Rm 0 0 0 0)).slots) _
  refine Goes.via (B := s₁.setTop (mkF m 0 #[rv li] [])) (fun t k => castTop (own_ef51 m li) k) ?_
  refine Gv s₁ 1 [(.ref li)] (fun t k => XS.aloadN X0.here hx rfl (hb hby d_jdk_44_3_0) rfl rfl k) ?_
  obtain ⟨T1, X1, e1, st1⟩ := getF X0 hx hZ hown (host := "") (Or.inl (W_ hw 334 rfl)) Via.refl e0 F_3 (g := (mkF m 1 #[rv li] [(.ref li)])) rfl rfl (hb hby d_jdk_44_3_1)
  refine Goes.via (B := T1.setTop (mkF m 4 #[rv li] [(.ref pgb)])) (fun t k => st1 _ k) ?_
  obtain ⟨T2, X2, e2, st2⟩ := getS2 X1 hx hZ hown (Or.inr (W_ hw 333 rfl)) Via.refl e1 (Sta.ext O0.2 O_1) (g := (mkF m 4 #[rv li] [(.ref pgb)])) rfl (hb hby d_jdk_44_3_4)
  refine Goes.via (B := T2.setTop (mkF m 7 #[rv li] [(.ref em), (.ref pgb)])) (fun t k => st2 _ k) ?_
  refine Gv T2 10 [] (fun t k => XT.acmpNo X2.here hx rfl (hb hby d_jdk_44_3_7) rfl rfl rfl (XT.aa_eq_f (fun z => hne (by injection z))) k) ?_
  refine Gv T2 11 [(.int (2 : Int32))] (fun t k => XS.iconst X2.here hx rfl (hb hby d_jdk_44_3_10) k) ?_
  refine Gv T2 15 [(.int (2 : Int32))] (fun t k => XS.goto X2.here hx rfl (pc0 := 11) (pc' := 15) rfl (hb hby d_jdk_44_3_11) (by decide) (by decide) k) ?_
  exact finI (Q := (own_Q51 Z li pga pgb em h0 n0)) (F := FrameEnd) (C := ((Rm 0 0 0 0)).cells) (S := ((Rm 0 0 0 0)).slots) X2 hx Bd.returns (hb hby d_jdk_44_3_15) e2 ⟨rfl, N0, rfl⟩ (lvN X2 hlk (by decide) (by decide))
theorem d_jdk_45_3_0 : decode jdk_45_method_3_code 0 = .ok (.aload_n 0, 1) := by decide +kernel
theorem d_jdk_45_3_1 : decode jdk_45_method_3_code 1 = .ok (.getfield 7, 3) := by decide +kernel
theorem d_jdk_45_3_4 : decode jdk_45_method_3_code 4 = .ok (.arraylength, 1) := by decide +kernel
theorem d_jdk_45_3_5 : decode jdk_45_method_3_code 5 = .ok (.ireturn, 1) := by decide +kernel
theorem own_ef52 (m : MethodId) (x0 : Addr)  : entryFrame m #[(.ref x0)] 1 = mkF m 0 #[rv x0] [] := by first | (simp [entryFrame, mkF, argsToLocals, Value.category]; done) | rfl
abbrev own_Q52 (Z : State) (li : Addr) (pga : Addr) (pgb : Addr) (pgc : Addr) (ar : Addr) (ka : ClassId) (h0 : Heap) (n0 : Nat) (v : Option Value) (h : Heap) (L : List Loc) : Prop := v = some (.int (3 : Int32)) ∧ Fr n0 L ∧ h = h0
set_option maxRecDepth 65536 in
set_option maxHeartbeats 40000000 in
theorem own_m52 (l : Launch) (Z : State) (a0 : Array Value) (hw : ∀ d ∈ tables_1, d.before a0 Z = true) (ws : List Jvm.Cond) (li : Addr) (pga : Addr) (pgb : Addr) (pgc : Addr) (ar : Addr) (ka : ClassId) (h0 : Heap) (n0 : Nat) (O0 : Old Z n0 h0) (F_1 : Exa Z h0 li "java/util/ImmutableCollections$ListN") (F_2 : Fld Z h0 li "java/util/ImmutableCollections$ListN" "elements" "[Ljava/lang/Object;" (.ref ar)) (F_3 : Arv Z h0 ar ka (.object "java/lang/Object") (3 : Int32) [(.ref pga), (.ref pgb), (.ref pgc)] .null) :
    Ctr l Z (⟨"java/util/ImmutableCollections$ListN", "size", "()I"⟩ : MethodName) jdk_45_method_3_code 1 (some .int) (Rm 0 0 0 0) #[(.ref li)] h0 (own_Q52 Z li pga pgb pgc ar ka h0 n0) ws := by
  refine MetFree.of_bodySF (plainFor_of_name own_pn12) hisR ?_
  intro p e s m args below meth c s₁ Bd hml0 hP hK
  obtain ⟨rfl, hZ, hh⟩ := hP
  have hx := Bd.exec
  have hby := Bd.bytes
  have hlk : meth.locks = false := Bd.notSynchronized
  have hml : c.maxLocals = 1 := hml0
  have hown : s.vm.findClass "java/util/ImmutableCollections$ListN" = some m.cls := findClass_of_methodNamed Bd.named
  have hnm := (name_of_methodNamed Bd.named Bd.method).1
  have X0 : Stand p l e (Rm 0 0 0 0) s m #[(.ref li)] below meth c s₁ [] 0 0 := Stand.of_body Bd
  have e0 : s₁.heap = h0 := by rw [← hh, Bd.state]; rfl
  have N0 := Fr.nil n0
  show Goes p.tables e below (fun t o => ∃ v L, o = .returned v ∧ (own_Q52 Z li pga pgb pgc ar ka h0 n0) v t.heap L ∧ FrameEnd s o t L ((Rm 0 0 0 0)).cells ((Rm 0 0 0 0)).slots) _
  refine Goes.via (B := s₁.setTop (mkF m 0 #[rv li] [])) (fun t k => castTop (own_ef52 m li) k) ?_
  refine Gv s₁ 1 [(.ref li)] (fun t k => XS.aloadN X0.here hx rfl (hb hby d_jdk_45_3_0) rfl rfl k) ?_
  obtain ⟨T1, X1, e1, st1⟩ := getF X0 hx hZ hown (host := "") (Or.inl (W_ hw 207 rfl)) Via.refl e0 F_2 (g := (mkF m 1 #[rv li] [(.ref li)])) rfl rfl (hb hby d_jdk_45_3_1)
  refine Goes.via (B := T1.setTop (mkF m 4 #[rv li] [(.ref ar)])) (fun t k => st1 _ k) ?_
  obtain ⟨cl2, Ar2, q2, S2, N2, H2, G2⟩ := id F_3
  refine Goes.via (B := T1.setTop (mkF m 5 #[rv li] [(.int (3 : Int32))])) (fun t k => X1.arraylength hx (by rw [e1]; exact Ar2.1) (State.isArrayOf_alike hZ.alike Ar2.2.1) (g := (mkF m 4 #[rv li] [(.ref ar)])) rfl rfl (hb hby d_jdk_45_3_4) t (by rw [(len_of S2 N2)]; exact k)) ?_
  exact finI (Q := (own_Q52 Z li pga pgb pgc ar ka h0 n0)) (F := FrameEnd) (C := ((Rm 0 0 0 0)).cells) (S := ((Rm 0 0 0 0)).slots) X1 hx Bd.returns (hb hby d_jdk_45_3_5) e1 ⟨rfl, N0, rfl⟩ (lvN X1 hlk (by decide) (by decide))
theorem d_jdk_44_5_0 : decode jdk_44_method_5_code 0 = .ok (.iload_n 1, 1) := by decide +kernel
theorem d_jdk_44_5_1 : decode jdk_44_method_5_code 1 = .ok (.ifCond .ne 8, 3) := by decide +kernel
theorem d_jdk_44_5_4 : decode jdk_44_method_5_code 4 = .ok (.aload_n 0, 1) := by decide +kernel
theorem d_jdk_44_5_5 : decode jdk_44_method_5_code 5 = .ok (.getfield 13, 3) := by decide +kernel
theorem d_jdk_44_5_8 : decode jdk_44_method_5_code 8 = .ok (.areturn, 1) := by decide +kernel
theorem own_ef53 (m : MethodId) (x0 : Addr) (x1 : Int32)  : entryFrame m #[(.ref x0), (.int x1)] 2 = mkF m 0 #[rv x0, iv x1] [] := by first | (simp [entryFrame, mkF, argsToLocals, Value.category]; done) | rfl
abbrev own_Q53 (Z : State) (li : Addr) (pga : Addr) (em : Addr) (h0 : Heap) (n0 : Nat) (v : Option Value) (h : Heap) (L : List Loc) : Prop := v = some (.ref pga) ∧ Fr n0 L ∧ h = h0
set_option maxRecDepth 65536 in
set_option maxHeartbeats 40000000 in
theorem own_m53 (l : Launch) (Z : State) (a0 : Array Value) (hw : ∀ d ∈ tables_1, d.before a0 Z = true) (ws : List Jvm.Cond) (li : Addr) (pga : Addr) (em : Addr) (h0 : Heap) (n0 : Nat) (O0 : Old Z n0 h0) (O_1 : Sta Z Z.heap "java/util/ImmutableCollections" "EMPTY" "Ljava/lang/Object;" (.ref em)) (F_1 : Exa Z h0 li "java/util/ImmutableCollections$List12") (F_2 : Fld Z h0 li "java/util/ImmutableCollections$List12" "e0" "Ljava/lang/Object;" (.ref pga)) (F_3 : Fld Z h0 li "java/util/ImmutableCollections$List12" "e1" "Ljava/lang/Object;" (.ref em)) :
    Ctr l Z (⟨"java/util/ImmutableCollections$List12", "get", "(I)Ljava/lang/Object;"⟩ : MethodName) jdk_44_method_5_code 2 (some (.object "java/lang/Object")) (Rm 0 0 0 0) #[(.ref li), (.int (0 : Int32))] h0 (own_Q53 Z li pga em h0 n0) ws := by
  refine MetFree.of_bodySF (plainFor_of_name own_pn11) hisR ?_
  intro p e s m args below meth c s₁ Bd hml0 hP hK
  obtain ⟨rfl, hZ, hh⟩ := hP
  have hx := Bd.exec
  have hby := Bd.bytes
  have hlk : meth.locks = false := Bd.notSynchronized
  have hml : c.maxLocals = 2 := hml0
  have hown : s.vm.findClass "java/util/ImmutableCollections$List12" = some m.cls := findClass_of_methodNamed Bd.named
  have hnm := (name_of_methodNamed Bd.named Bd.method).1
  have X0 : Stand p l e (Rm 0 0 0 0) s m #[(.ref li), (.int (0 : Int32))] below meth c s₁ [] 0 0 := Stand.of_body Bd
  have e0 : s₁.heap = h0 := by rw [← hh, Bd.state]; rfl
  have N0 := Fr.nil n0
  show Goes p.tables e below (fun t o => ∃ v L, o = .returned v ∧ (own_Q53 Z li pga em h0 n0) v t.heap L ∧ FrameEnd s o t L ((Rm 0 0 0 0)).cells ((Rm 0 0 0 0)).slots) _
  refine Goes.via (B := s₁.setTop (mkF m 0 #[rv li, iv (0 : Int32)] [])) (fun t k => castTop (own_ef53 m li (0 : Int32)) k) ?_
  refine Gv s₁ 1 [(.int (0 : Int32))] (fun t k => XS.iloadN X0.here hx rfl (hb hby d_jdk_44_5_0) rfl k) ?_
  refine Gv s₁ 4 [] (fun t k => XS.ifNo X0.here hx rfl (hb hby d_jdk_44_5_1) rfl (XT.i0_ne_f rfl) k) ?_
  refine Gv s₁ 5 [(.ref li)] (fun t k => XS.aloadN X0.here hx rfl (hb hby d_jdk_44_5_4) rfl rfl k) ?_
  obtain ⟨T1, X1, e1, st1⟩ := getF X0 hx hZ hown (host := "") (Or.inl (W_ hw 331 rfl)) Via.refl e0 F_2 (g := (mkF m 5 #[rv li, iv (0 : Int32)] [(.ref li)])) rfl rfl (hb hby d_jdk_44_5_5)
  refine Goes.via (B := T1.setTop (mkF m 8 #[rv li, iv (0 : Int32)] [(.ref pga)])) (fun t k => st1 _ k) ?_
  exact finA (Q := (own_Q53 Z li pga em h0 n0)) (F := FrameEnd) (C := ((Rm 0 0 0 0)).cells) (S := ((Rm 0 0 0 0)).slots) X1 hx Bd.returns rfl rfl rfl (hb hby d_jdk_44_5_8) e1 ⟨rfl, N0, rfl⟩ (lvN X1 hlk (by decide) (by decide))
theorem own_ef54 (m : MethodId) (x0 : Addr) (x1 : Int32)  : entryFrame m #[(.ref x0), (.int x1)] 2 = mkF m 0 #[rv x0, iv x1] [] := by first | (simp [entryFrame, mkF, argsToLocals, Value.category]; done) | rfl
abbrev own_Q54 (Z : State) (li : Addr) (pga : Addr) (pgb : Addr) (em : Addr) (h0 : Heap) (n0 : Nat) (v : Option Value) (h : Heap) (L : List Loc) : Prop := v = some (.ref pga) ∧ Fr n0 L ∧ h = h0
set_option maxRecDepth 65536 in
set_option maxHeartbeats 40000000 in
theorem own_m54 (l : Launch) (Z : State) (a0 : Array Value) (hw : ∀ d ∈ tables_1, d.before a0 Z = true) (ws : List Jvm.Cond) (li : Addr) (pga : Addr) (pgb : Addr) (em : Addr) (h0 : Heap) (n0 : Nat) (O0 : Old Z n0 h0) (hne : ¬ pgb = em) (O_1 : Sta Z Z.heap "java/util/ImmutableCollections" "EMPTY" "Ljava/lang/Object;" (.ref em)) (F_1 : Exa Z h0 li "java/util/ImmutableCollections$List12") (F_2 : Fld Z h0 li "java/util/ImmutableCollections$List12" "e0" "Ljava/lang/Object;" (.ref pga)) (F_3 : Fld Z h0 li "java/util/ImmutableCollections$List12" "e1" "Ljava/lang/Object;" (.ref pgb)) :
    Ctr l Z (⟨"java/util/ImmutableCollections$List12", "get", "(I)Ljava/lang/Object;"⟩ : MethodName) jdk_44_method_5_code 2 (some (.object "java/lang/Object")) (Rm 0 0 0 0) #[(.ref li), (.int (0 : Int32))] h0 (own_Q54 Z li pga pgb em h0 n0) ws := by
  refine MetFree.of_bodySF (plainFor_of_name own_pn11) hisR ?_
  intro p e s m args below meth c s₁ Bd hml0 hP hK
  obtain ⟨rfl, hZ, hh⟩ := hP
  have hx := Bd.exec
  have hby := Bd.bytes
  have hlk : meth.locks = false := Bd.notSynchronized
  have hml : c.maxLocals = 2 := hml0
  have hown : s.vm.findClass "java/util/ImmutableCollections$List12" = some m.cls := findClass_of_methodNamed Bd.named
  have hnm := (name_of_methodNamed Bd.named Bd.method).1
  have X0 : Stand p l e (Rm 0 0 0 0) s m #[(.ref li), (.int (0 : Int32))] below meth c s₁ [] 0 0 := Stand.of_body Bd
  have e0 : s₁.heap = h0 := by rw [← hh, Bd.state]; rfl
  have N0 := Fr.nil n0
  show Goes p.tables e below (fun t o => ∃ v L, o = .returned v ∧ (own_Q54 Z li pga pgb em h0 n0) v t.heap L ∧ FrameEnd s o t L ((Rm 0 0 0 0)).cells ((Rm 0 0 0 0)).slots) _
  refine Goes.via (B := s₁.setTop (mkF m 0 #[rv li, iv (0 : Int32)] [])) (fun t k => castTop (own_ef54 m li (0 : Int32)) k) ?_
  refine Gv s₁ 1 [(.int (0 : Int32))] (fun t k => XS.iloadN X0.here hx rfl (hb hby d_jdk_44_5_0) rfl k) ?_
  refine Gv s₁ 4 [] (fun t k => XS.ifNo X0.here hx rfl (hb hby d_jdk_44_5_1) rfl (XT.i0_ne_f rfl) k) ?_
  refine Gv s₁ 5 [(.ref li)] (fun t k => XS.aloadN X0.here hx rfl (hb hby d_jdk_44_5_4) rfl rfl k) ?_
  obtain ⟨T1, X1, e1, st1⟩ := getF X0 hx hZ hown (host := "") (Or.inl (W_ hw 331 rfl)) Via.refl e0 F_2 (g := (mkF m 5 #[rv li, iv (0 : Int32)] [(.ref li)])) rfl rfl (hb hby d_jdk_44_5_5)
  refine Goes.via (B := T1.setTop (mkF m 8 #[rv li, iv (0 : Int32)] [(.ref pga)])) (fun t k => st1 _ k) ?_
  exact finA (Q := (own_Q54 Z li pga pgb em h0 n0)) (F := FrameEnd) (C := ((Rm 0 0 0 0)).cells) (S := ((Rm 0 0 0 0)).slots) X1 hx Bd.returns rfl rfl rfl (hb hby d_jdk_44_5_8) e1 ⟨rfl, N0, rfl⟩ (lvN X1 hlk (by decide) (by decide))
theorem d_jdk_44_5_9 : decode jdk_44_method_5_code 9 = .ok (.iload_n 1, 1) := by decide +kernel
theorem d_jdk_44_5_10 : decode jdk_44_method_5_code 10 = .ok (.iconst 1, 1) := by decide +kernel
theorem d_jdk_44_5_11 : decode jdk_44_method_5_code 11 = .ok (.if_icmp .ne 18, 3) := by decide +kernel
theorem d_jdk_44_5_14 : decode jdk_44_method_5_code 14 = .ok (.aload_n 0, 1) := by decide +kernel
theorem d_jdk_44_5_15 : decode jdk_44_method_5_code 15 = .ok (.getfield 24, 3) := by decide +kernel
theorem d_jdk_44_5_18 : decode jdk_44_method_5_code 18 = .ok (.getstatic 19, 3) := by decide +kernel
theorem d_jdk_44_5_21 : decode jdk_44_method_5_code 21 = .ok (.if_acmp .eq 8, 3) := by decide +kernel
theorem d_jdk_44_5_24 : decode jdk_44_method_5_code 24 = .ok (.aload_n 0, 1) := by decide +kernel
theorem d_jdk_44_5_25 : decode jdk_44_method_5_code 25 = .ok (.getfield 24, 3) := by decide +kernel
theorem d_jdk_44_5_28 : decode jdk_44_method_5_code 28 = .ok (.areturn, 1) := by decide +kernel
theorem own_ef55 (m : MethodId) (x0 : Addr) (x1 : Int32)  : entryFrame m #[(.ref x0), (.int x1)] 2 = mkF m 0 #[rv x0, iv x1] [] := by first | (simp [entryFrame, mkF, argsToLocals, Value.category]; done) | rfl
abbrev own_Q55 (Z : State) (li : Addr) (pga : Addr) (pgb : Addr) (em : Addr) (h0 : Heap) (n0 : Nat) (v : Option Value) (h : Heap) (L : List Loc) : Prop := v = some (.ref pgb) ∧ Fr n0 L ∧ h = h0
set_option maxRecDepth 65536 in
set_option maxHeartbeats 40000000 in
theorem own_m55 (l : Launch) (Z : State) (a0 : Array Value) (hw : ∀ d ∈ tables_1, d.before a0 Z = true) (ws : List Jvm.Cond) (li : Addr) (pga : Addr) (pgb : Addr) (em : Addr) (h0 : Heap) (n0 : Nat) (O0 : Old Z n0 h0) (hne : ¬ pgb = em) (O_1 : Sta Z Z.heap "java/util/ImmutableCollections" "EMPTY" "Ljava/lang/Object;" (.ref em)) (F_1 : Exa Z h0 li "java/util/ImmutableCollections$List12") (F_2 : Fld Z h0 li "java/util/ImmutableCollections$List12" "e0" "Ljava/lang/Object;" (.ref pga)) (F_3 : Fld Z h0 li "java/util/ImmutableCollections$List12" "e1" "Ljava/lang/Object;" (.ref pgb)) :
    Ctr l Z (⟨"java/util/ImmutableCollections$List12", "get", "(I)Ljava/lang/Object;"⟩ : MethodName) jdk_44_method_5_code 2 (some (.object "java/lang/Object")) (Rm 0 0 0 0) #[(.ref li), (.int (1 : Int32))] h0 (own_Q55 Z li pga pgb em h0 n0) ws := by
  refine MetFree.of_bodySF (plainFor_of_name own_pn11) hisR ?_
  intro p e s m args below meth c s₁ Bd hml0 hP hK
  obtain ⟨rfl, hZ, hh⟩ := hP
  have hx := Bd.exec
  have hby := Bd.bytes
  have hlk : meth.locks = false := Bd.notSynchronized
  have hml : c.maxLocals = 2 := hml0
  have hown : s.vm.findClass "java/util/ImmutableCollections$List12" = some m.cls := findClass_of_methodNamed Bd.named
  have hnm := (name_of_methodNamed Bd.named Bd.method).1
  have X0 : Stand p l e (Rm 0 0 0 0) s m #[(.ref li), (.int (1 : Int32))] below meth c s₁ [] 0 0 := Stand.of_body Bd
  have e0 : s₁.heap = h0 := by rw [← hh, Bd.state]; rfl
  have N0 := Fr.nil n0
  show Goes p.tables e below (fun t o => ∃ v L, o = .returned v ∧ (own_Q55 Z li pga pgb em h0 n0) v t.heap L ∧ FrameEnd s o t L ((Rm 0 0 0 0)).cells ((Rm 0 0 0 0)).slots) _
  refine Goes.via (B := s₁.setTop (mkF m 0 #[rv li, iv (1 : Int32)] [])) (fun t k => castTop (own_ef55 m li (1 : Int32)) k) ?_
  refine Gv s₁ 1 [(.int (1 : Int32))] (fun t k => XS.iloadN X0.here hx rfl (hb hby d_jdk_44_5_0) rfl k) ?_
  refine Gv s₁ 9 [] (fun t k => XS.ifYes X0.here hx rfl (pc0 := 1) (pc' := 9) rfl (hb hby d_jdk_44_5_1) rfl (XT.i0_ne_t (by decide)) (by decide) (by decide) k) ?_
  refine Gv s₁ 10 [(.int (1 : Int32))] (fun t k => XS.iloadN X0.here hx rfl (hb hby d_jdk_44_5_9) rfl k) ?_
  refine Gv s₁ 11 [(.int (1 : Int32)), (.int (1 : Int32))] (fun t k => XS.iconst X0.here hx rfl (hb hby d_jdk_44_5_10) k) ?_
  refine Gv s₁ 14 [] (fun t k => XS.icmpNo X0.here hx rfl (hb hby d_jdk_44_5_11) rfl (XT.ii_ne_f rfl) k) ?_
  refine Gv s₁ 15 [(.ref li)] (fun t k => XS.aloadN X0.here hx rfl (hb hby d_jdk_44_5_14) rfl rfl k) ?_
  obtain ⟨T1, X1, e1, st1⟩ := getF X0 hx hZ hown (host := "") (Or.inl (W_ hw 334 rfl)) Via.refl e0 F_3 (g := (mkF m 15 #[rv li, iv (1 : Int32)] [(.ref li)])) rfl rfl (hb hby d_jdk_44_5_15)
  refine Goes.via (B := T1.setTop (mkF m 18 #[rv li, iv (1 : Int32)] [(.ref pgb)])) (fun t k => st1 _ k) ?_
  obtain ⟨T2, X2, e2, st2⟩ := getS2 X1 hx hZ hown (Or.inr (W_ hw 333 rfl)) Via.refl e1 (Sta.ext O0.2 O_1) (g := (mkF m 18 #[rv li, iv (1 : Int32)] [(.ref pgb)])) rfl (hb hby d_jdk_44_5_18)
  refine Goes.via (B := T2.setTop (mkF m 21 #[rv li, iv (1 : Int32)] [(.ref em), (.ref pgb)])) (fun t k => st2 _ k) ?_
  refine Gv T2 24 [] (fun t k => XT.acmpNo X2.here hx rfl (hb hby d_jdk_44_5_21) rfl rfl rfl (XT.aa_eq_f (fun z => hne (by injection z))) k) ?_
  refine Gv T2 25 [(.ref li)] (fun t k => XS.aloadN X2.here hx rfl (hb hby d_jdk_44_5_24) rfl rfl k) ?_
  obtain ⟨T3, X3, e3, st3⟩ := getF X2 hx hZ hown (host := "") (Or.inl (W_ hw 334 rfl)) Via.refl e2 F_3 (g := (mkF m 25 #[rv li, iv (1 : Int32)] [(.ref li)])) rfl rfl (hb hby d_jdk_44_5_25)
  refine Goes.via (B := T3.setTop (mkF m 28 #[rv li, iv (1 : Int32)] [(.ref pgb)])) (fun t k => st3 _ k) ?_
  exact finA (Q := (own_Q55 Z li pga pgb em h0 n0)) (F := FrameEnd) (C := ((Rm 0 0 0 0)).cells) (S := ((Rm 0 0 0 0)).slots) X3 hx Bd.returns rfl rfl rfl (hb hby d_jdk_44_5_28) e3 ⟨rfl, N0, rfl⟩ (lvN X3 hlk (by decide) (by decide))
theorem d_jdk_45_4_0 : decode jdk_45_method_4_code 0 = .ok (.aload_n 0, 1) := by decide +kernel
theorem d_jdk_45_4_1 : decode jdk_45_method_4_code 1 = .ok (.getfield 7, 3) := by decide +kernel
theorem d_jdk_45_4_4 : decode jdk_45_method_4_code 4 = .ok (.iload_n 1, 1) := by decide +kernel
theorem d_jdk_45_4_5 : decode jdk_45_method_4_code 5 = .ok (.aaload, 1) := by decide +kernel
theorem d_jdk_45_4_6 : decode jdk_45_method_4_code 6 = .ok (.areturn, 1) := by decide +kernel
theorem own_ef56 (m : MethodId) (x0 : Addr) (x1 : Int32)  : entryFrame m #[(.ref x0), (.int x1)] 2 = mkF m 0 #[rv x0, iv x1] [] := by first | (simp [entryFrame, mkF, argsToLocals, Value.category]; done) | rfl
abbrev own_Q56 (Z : State) (li : Addr) (pga : Addr) (pgb : Addr) (pgc : Addr) (ar : Addr) (ka : ClassId) (h0 : Heap) (n0 : Nat) (v : Option Value) (h : Heap) (L : List Loc) : Prop := v = some (.ref pga) ∧ Fr n0 L ∧ h = h0
set_option maxRecDepth 65536 in
set_option maxHeartbeats 40000000 in
theorem own_m56 (l : Launch) (Z : State) (a0 : Array Value) (hw : ∀ d ∈ tables_1, d.before a0 Z = true) (ws : List Jvm.Cond) (li : Addr) (pga : Addr) (pgb : Addr) (pgc : Addr) (ar : Addr) (ka : ClassId) (h0 : Heap) (n0 : Nat) (O0 : Old Z n0 h0) (F_1 : Exa Z h0 li "java/util/ImmutableCollections$ListN") (F_2 : Fld Z h0 li "java/util/ImmutableCollections$ListN" "elements" "[Ljava/lang/Object;" (.ref ar)) (F_3 : Arv Z h0 ar ka (.object "java/lang/Object") (3 : Int32) [(.ref pga), (.ref pgb), (.ref pgc)] .null) :
    Ctr l Z (⟨"java/util/ImmutableCollections$ListN", "get", "(I)Ljava/lang/Object;"⟩ : MethodName) jdk_45_method_4_code 2 (some (.object "java/lang/Object")) (Rm 0 0 0 0) #[(.ref li), (.int (0 : Int32))] h0 (own_Q56 Z li pga pgb pgc ar ka h0 n0) ws := by
  refine MetFree.of_bodySF (plainFor_of_name own_pn12) hisR ?_
  intro p e s m args below meth c s₁ Bd hml0 hP hK
  obtain ⟨rfl, hZ, hh⟩ := hP
  have hx := Bd.exec
  have hby := Bd.bytes
  have hlk : meth.locks = false := Bd.notSynchronized
  have hml : c.maxLocals = 2 := hml0
  have hown : s.vm.findClass "java/util/ImmutableCollections$ListN" = some m.cls := findClass_of_methodNamed Bd.named
  have hnm := (name_of_methodNamed Bd.named Bd.method).1
  have X0 : Stand p l e (Rm 0 0 0 0) s m #[(.ref li), (.int (0 : Int32))] below meth c s₁ [] 0 0 := Stand.of_body Bd
  have e0 : s₁.heap = h0 := by rw [← hh, Bd.state]; rfl
  have N0 := Fr.nil n0
  show Goes p.tables e below (fun t o => ∃ v L, o = .returned v ∧ (own_Q56 Z li pga pgb pgc ar ka h0 n0) v t.heap L ∧ FrameEnd s o t L ((Rm 0 0 0 0)).cells ((Rm 0 0 0 0)).slots) _
  refine Goes.via (B := s₁.setTop (mkF m 0 #[rv li, iv (0 : Int32)] [])) (fun t k => castTop (own_ef56 m li (0 : Int32)) k) ?_
  refine Gv s₁ 1 [(.ref li)] (fun t k => XS.aloadN X0.here hx rfl (hb hby d_jdk_45_4_0) rfl rfl k) ?_
  obtain ⟨T1, X1, e1, st1⟩ := getF X0 hx hZ hown (host := "") (Or.inl (W_ hw 207 rfl)) Via.refl e0 F_2 (g := (mkF m 1 #[rv li, iv (0 : Int32)] [(.ref li)])) rfl rfl (hb hby d_jdk_45_4_1)
  refine Goes.via (B := T1.setTop (mkF m 4 #[rv li, iv (0 : Int32)] [(.ref ar)])) (fun t k => st1 _ k) ?_
  refine Gv T1 5 [(.int (0 : Int32)), (.ref ar)] (fun t k => XS.iloadN X1.here hx rfl (hb hby d_jdk_45_4_4) rfl k) ?_
  obtain ⟨cl2, Ar2, q2, S2, N2, H2, G2⟩ := id F_3
  have hin2 := inb_of (j := (0 : Int32)) S2 ⟨by decide, by decide⟩
  refine Goes.via (B := T1.setTop (mkF m 6 #[rv li, iv (0 : Int32)] [(.ref pga)])) (fun t k => X1.aaload hx (j := (0 : Int32)) (v := (.ref pga)) (by rw [e1]; exact Ar2.1) (State.isArrayOf_alike hZ.alike Ar2.2.1) rfl Ar2.2.2 hin2 (H2.at hin2 rfl) (g := (mkF m 5 #[rv li, iv (0 : Int32)] [(.int (0 : Int32)), (.ref ar)])) rfl rfl (hb hby d_jdk_45_4_5) t k) ?_
  exact finA (Q := (own_Q56 Z li pga pgb pgc ar ka h0 n0)) (F := FrameEnd) (C := ((Rm 0 0 0 0)).cells) (S := ((Rm 0 0 0 0)).slots) X1 hx Bd.returns rfl rfl rfl (hb hby d_jdk_45_4_6) e1 ⟨rfl, N0, rfl⟩ (lvN X1 hlk (by decide) (by decide))
theorem own_ef57 (m : MethodId) (x0 : Addr) (x1 : Int32)  : entryFrame m #[(.ref x0), (.int x1)] 2 = mkF m 0 #[rv x0, iv x1] [] := by first | (simp [entryFrame, mkF, argsToLocals, Value.category]; done) | rfl
abbrev own_Q57 (Z : State) (li : Addr) (pga : Addr) (pgb : Addr) (pgc : Addr) (ar : Addr) (ka : ClassId) (h0 : Heap) (n0 : Nat) (v : Option Value) (h : Heap) (L : List Loc) : Prop := v = some (.ref pgb) ∧ Fr n0 L ∧ h = h0
set_option maxRecDepth 65536 in
set_option maxHeartbeats 40000000 in
theorem own_m57 (l : Launch) (Z : State) (a0 : Array Value) (hw : ∀ d ∈ tables_1, d.before a0 Z = true) (ws : List Jvm.Cond) (li : Addr) (pga : Addr) (pgb : Addr) (pgc : Addr) (ar : Addr) (ka : ClassId) (h0 : Heap) (n0 : Nat) (O0 : Old Z n0 h0) (F_1 : Exa Z h0 li "java/util/ImmutableCollections$ListN") (F_2 : Fld Z h0 li "java/util/ImmutableCollections$ListN" "elements" "[Ljava/lang/Object;" (.ref ar)) (F_3 : Arv Z h0 ar ka (.object "java/lang/Object") (3 : Int32) [(.ref pga), (.ref pgb), (.ref pgc)] .null) :
    Ctr l Z (⟨"java/util/ImmutableCollections$ListN", "get", "(I)Ljava/lang/Object;"⟩ : MethodName) jdk_45_method_4_code 2 (some (.object "java/lang/Object")) (Rm 0 0 0 0) #[(.ref li), (.int (1 : Int32))] h0 (own_Q57 Z li pga pgb pgc ar ka h0 n0) ws := by
  refine MetFree.of_bodySF (plainFor_of_name own_pn12) hisR ?_
  intro p e s m args below meth c s₁ Bd hml0 hP hK
  obtain ⟨rfl, hZ, hh⟩ := hP
  have hx := Bd.exec
  have hby := Bd.bytes
  have hlk : meth.locks = false := Bd.notSynchronized
  have hml : c.maxLocals = 2 := hml0
  have hown : s.vm.findClass "java/util/ImmutableCollections$ListN" = some m.cls := findClass_of_methodNamed Bd.named
  have hnm := (name_of_methodNamed Bd.named Bd.method).1
  have X0 : Stand p l e (Rm 0 0 0 0) s m #[(.ref li), (.int (1 : Int32))] below meth c s₁ [] 0 0 := Stand.of_body Bd
  have e0 : s₁.heap = h0 := by rw [← hh, Bd.state]; rfl
  have N0 := Fr.nil n0
  show Goes p.tables e below (fun t o => ∃ v L, o = .returned v ∧ (own_Q57 Z li pga pgb pgc ar ka h0 n0) v t.heap L ∧ FrameEnd s o t L ((Rm 0 0 0 0)).cells ((Rm 0 0 0 0)).slots) _
  refine Goes.via (B := s₁.setTop (mkF m 0 #[rv li, iv (1 : Int32)] [])) (fun t k => castTop (own_ef57 m li (1 : Int32)) k) ?_
  refine Gv s₁ 1 [(.ref li)] (fun t k => XS.aloadN X0.here hx rfl (hb hby d_jdk_45_4_0) rfl rfl k) ?_
  obtain ⟨T1, X1, e1, st1⟩ := getF X0 hx hZ hown (host := "") (Or.inl (W_ hw 207 rfl)) Via.refl e0 F_2 (g := (mkF m 1 #[rv li, iv (1 : Int32)] [(.ref li)])) rfl rfl (hb hby d_jdk_45_4_1)
  refine Goes.via (B := T1.setTop (mkF m 4 #[rv li, iv (1 : Int32)] [(.ref ar)])) (fun t k => st1 _ k) ?_
  refine Gv T1 5 [(.int (1 : Int32)), (.ref ar)] (fun t k => XS.iloadN X1.here hx rfl (hb hby d_jdk_45_4_4) rfl k) ?_
  obtain ⟨cl2, Ar2, q2, S2, N2, H2, G2⟩ := id F_3
  have hin2 := inb_of (j := (1 : Int32)) S2 ⟨by decide, by decide⟩
  refine Goes.via (B := T1.setTop (mkF m 6 #[rv li, iv (1 : Int32)] [(.ref pgb)])) (fun t k => X1.aaload hx (j := (1 : Int32)) (v := (.ref pgb)) (by rw [e1]; exact Ar2.1) (State.isArrayOf_alike hZ.alike Ar2.2.1) rfl Ar2.2.2 hin2 (H2.at hin2 rfl) (g := (mkF m 5 #[rv li, iv (1 : Int32)] [(.int (1 : Int32)), (.ref ar)])) rfl rfl (hb hby d_jdk_45_4_5) t k) ?_
  exact finA (Q := (own_Q57 Z li pga pgb pgc ar ka h0 n0)) (F := FrameEnd) (C := ((Rm 0 0 0 0)).cells) (S := ((Rm 0 0 0 0)).slots) X1 hx Bd.returns rfl rfl rfl (hb hby d_jdk_45_4_6) e1 ⟨rfl, N0, rfl⟩ (lvN X1 hlk (by decide) (by decide))
theorem own_ef58 (m : MethodId) (x0 : Addr) (x1 : Int32)  : entryFrame m #[(.ref x0), (.int x1)] 2 = mkF m 0 #[rv x0, iv x1] [] := by first | (simp [entryFrame, mkF, argsToLocals, Value.category]; done) | rfl
abbrev own_Q58 (Z : State) (li : Addr) (pga : Addr) (pgb : Addr) (pgc : Addr) (ar : Addr) (ka : ClassId) (h0 : Heap) (n0 : Nat) (v : Option Value) (h : Heap) (L : List Loc) : Prop := v = some (.ref pgc) ∧ Fr n0 L ∧ h = h0
set_option maxRecDepth 65536 in
set_option maxHeartbeats 40000000 in
theorem own_m58 (l : Launch) (Z : State) (a0 : Array Value) (hw : ∀ d ∈ tables_1, d.before a0 Z = true) (ws : List Jvm.Cond) (li : Addr) (pga : Addr) (pgb : Addr) (pgc : Addr) (ar : Addr) (ka : ClassId) (h0 : Heap) (n0 : Nat) (O0 : Old Z n0 h0) (F_1 : Exa Z h0 li "java/util/ImmutableCollections$ListN") (F_2 : Fld Z h0 li "java/util/ImmutableCollections$ListN" "elements" "[Ljava/lang/Object;" (.ref ar)) (F_3 : Arv Z h0 ar ka (.object "java/lang/Object") (3 : Int32) [(.ref pga), (.ref pgb), (.ref pgc)] .null) :
    Ctr l Z (⟨"java/util/ImmutableCollections$ListN", "get", "(I)Ljava/lang/Object;"⟩ : MethodName) jdk_45_method_4_code 2 (some (.object "java/lang/Object")) (Rm 0 0 0 0) #[(.ref li), (.int (2 : Int32))] h0 (own_Q58 Z li pga pgb pgc ar ka h0 n0) ws := by
  refine MetFree.of_bodySF (plainFor_of_name own_pn12) hisR ?_
  intro p e s m args below meth c s₁ Bd hml0 hP hK
  obtain ⟨rfl, hZ, hh⟩ := hP
  have hx := Bd.exec
  have hby := Bd.bytes
  have hlk : meth.locks = false := Bd.notSynchronized
  have hml : c.maxLocals = 2 := hml0
  have hown : s.vm.findClass "java/util/ImmutableCollections$ListN" = some m.cls := findClass_of_methodNamed Bd.named
  have hnm := (name_of_methodNamed Bd.named Bd.method).1
  have X0 : Stand p l e (Rm 0 0 0 0) s m #[(.ref li), (.int (2 : Int32))] below meth c s₁ [] 0 0 := Stand.of_body Bd
  have e0 : s₁.heap = h0 := by rw [← hh, Bd.state]; rfl
  have N0 := Fr.nil n0
  show Goes p.tables e below (fun t o => ∃ v L, o = .returned v ∧ (own_Q58 Z li pga pgb pgc ar ka h0 n0) v t.heap L ∧ FrameEnd s o t L ((Rm 0 0 0 0)).cells ((Rm 0 0 0 0)).slots) _
  refine Goes.via (B := s₁.setTop (mkF m 0 #[rv li, iv (2 : Int32)] [])) (fun t k => castTop (own_ef58 m li (2 : Int32)) k) ?_
  refine Gv s₁ 1 [(.ref li)] (fun t k => XS.aloadN X0.here hx rfl (hb hby d_jdk_45_4_0) rfl rfl k) ?_
  obtain ⟨T1, X1, e1, st1⟩ := getF X0 hx hZ hown (host := "") (Or.inl (W_ hw 207 rfl)) Via.refl e0 F_2 (g := (mkF m 1 #[rv li, iv (2 : Int32)] [(.ref li)])) rfl rfl (hb hby d_jdk_45_4_1)
  refine Goes.via (B := T1.setTop (mkF m 4 #[rv li, iv (2 : Int32)] [(.ref ar)])) (fun t k => st1 _ k) ?_
  refine Gv T1 5 [(.int (2 : Int32)), (.ref ar)] (fun t k => XS.iloadN X1.here hx rfl (hb hby d_jdk_45_4_4) rfl k) ?_
  obtain ⟨cl2, Ar2, q2, S2, N2, H2, G2⟩ := id F_3
  have hin2 := inb_of (j := (2 : Int32)) S2 ⟨by decide, by decide⟩
  refine Goes.via (B := T1.setTop (mkF m 6 #[rv li, iv (2 : Int32)] [(.ref pgc)])) (fun t k => X1.aaload hx (j := (2 : Int32)) (v := (.ref pgc)) (by rw [e1]; exact Ar2.1) (State.isArrayOf_alike hZ.alike Ar2.2.1) rfl Ar2.2.2 hin2 (H2.at hin2 rfl) (g := (mkF m 5 #[rv li, iv (2 : Int32)] [(.int (2 : Int32)), (.ref ar)])) rfl rfl (hb hby d_jdk_45_4_5) t k) ?_
  exact finA (Q := (own_Q58 Z li pga pgb pgc ar ka h0 n0)) (F := FrameEnd) (C := ((Rm 0 0 0 0)).cells) (S := ((Rm 0 0 0 0)).slots) X1 hx Bd.returns rfl rfl rfl (hb hby d_jdk_45_4_6) e1 ⟨rfl, N0, rfl⟩ (lvN X1 hlk (by decide) (by decide))
theorem own_pn16 : plainName "java/util/ImmutableCollections$ListItr" = true := by first | (simp [plainName, overriddenIn]; done) | decide +kernel
theorem d_jdk_53_1_0 : decode jdk_53_method_1_code 0 = .ok (.aload_n 0, 1) := by decide +kernel
theorem d_jdk_53_1_1 : decode jdk_53_method_1_code 1 = .ok (.invokespecial 1, 3) := by decide +kernel
theorem d_jdk_53_1_4 : decode jdk_53_method_1_code 4 = .ok (.aload_n 0, 1) := by decide +kernel
theorem d_jdk_53_1_5 : decode jdk_53_method_1_code 5 = .ok (.aload_n 1, 1) := by decide +kernel
theorem d_jdk_53_1_6 : decode jdk_53_method_1_code 6 = .ok (.putfield 7, 3) := by decide +kernel
theorem d_jdk_53_1_9 : decode jdk_53_method_1_code 9 = .ok (.aload_n 0, 1) := by decide +kernel
theorem d_jdk_53_1_10 : decode jdk_53_method_1_code 10 = .ok (.iload_n 2, 1) := by decide +kernel
theorem d_jdk_53_1_11 : decode jdk_53_method_1_code 11 = .ok (.putfield 13, 3) := by decide +kernel
theorem d_jdk_53_1_14 : decode jdk_53_method_1_code 14 = .ok (.aload_n 0, 1) := by decide +kernel
theorem d_jdk_53_1_15 : decode jdk_53_method_1_code 15 = .ok (.iconst 0, 1) := by decide +kernel
theorem d_jdk_53_1_16 : decode jdk_53_method_1_code 16 = .ok (.putfield 17, 3) := by decide +kernel
theorem d_jdk_53_1_19 : decode jdk_53_method_1_code 19 = .ok (.aload_n 0, 1) := by decide +kernel
theorem d_jdk_53_1_20 : decode jdk_53_method_1_code 20 = .ok (.iconst 0, 1) := by decide +kernel
theorem d_jdk_53_1_21 : decode jdk_53_method_1_code 21 = .ok (.putfield 20, 3) := by decide +kernel
theorem d_jdk_53_1_24 : decode jdk_53_method_1_code 24 = .ok (.return_, 1) := by decide +kernel
theorem own_ef59 (m : MethodId) (x0 : Addr) (x1 : Addr) (x2 : Int32)  : entryFrame m #[(.ref x0), (.ref x1), (.int x2)] 3 = mkF m 0 #[rv x0, rv x1, iv x2] [] := by first | (simp [entryFrame, mkF, argsToLocals, Value.category]; done) | rfl
abbrev own_Q59 (Z : State) (a1 : Addr) (a2 : Addr) (x1 : Int32) (h0 : Heap) (n0 : Nat) (v : Option Value) (h : Heap) (L : List Loc) : Prop := v = none ∧ Fr n0 L ∧ Keep h0 h [a1] ∧ Exa Z h a1 "java/util/ImmutableCollections$ListItr" ∧ Fld Z h a1 "java/util/ImmutableCollections$ListItr" "list" "Ljava/util/List;" (.ref a2) ∧ Fld Z h a1 "java/util/ImmutableCollections$ListItr" "size" "I" (.int x1) ∧ Fld Z h a1 "java/util/ImmutableCollections$ListItr" "cursor" "I" (.int (0 : Int32))
set_option maxRecDepth 65536 in
set_option maxHeartbeats 40000000 in
theorem own_m59 (l : Launch) (Z : State) (a0 : Array Value) (hw : ∀ d ∈ tables_1, d.before a0 Z = true) (ws : List Jvm.Cond) (a1 : Addr) (a2 : Addr) (x1 : Int32) (h0 : Heap) (n0 : Nat) (O0 : Old Z n0 h0) (gn_a1 : n0 ≤ a1) (F_1 : Exa Z h0 a1 "java/util/ImmutableCollections$ListItr") (F_2 : Fld Z h0 a1 "java/util/ImmutableCollections$ListItr" "list" "Ljava/util/List;" .null) (F_3 : Fld Z h0 a1 "java/util/ImmutableCollections$ListItr" "size" "I" (.int (0 : Int32))) (F_4 : Fld Z h0 a1 "java/util/ImmutableCollections$ListItr" "cursor" "I" (.int (0 : Int32))) (F_5 : Fld Z h0 a1 "java/util/ImmutableCollections$ListItr" "isListIterator" "Z" (.int (0 : Int32))) :
    Ctr l Z (⟨"java/util/ImmutableCollections$ListItr", "<init>", "(Ljava/util/List;I)V"⟩ : MethodName) jdk_53_method_1_code 3 none (Rm 1 0 0 12) #[(.ref a1), (.ref a2), (.int x1)] h0 (own_Q59 Z a1 a2 x1 h0 n0) ws := by
  refine MetFree.of_bodySF (plainFor_of_name own_pn16) hisR ?_
  intro p e s m args below meth c s₁ Bd hml0 hP hK
  obtain ⟨rfl, hZ, hh⟩ := hP
  have hx := Bd.exec
  have hby := Bd.bytes
  have hlk : meth.locks = false := Bd.notSynchronized
  have hml : c.maxLocals = 3 := hml0
  have hown : s.vm.findClass "java/util/ImmutableCollections$ListItr" = some m.cls := findClass_of_methodNamed Bd.named
  have hnm := (name_of_methodNamed Bd.named Bd.method).1
  have X0 : Stand p l e (Rm 1 0 0 12) s m #[(.ref a1), (.ref a2), (.int x1)] below meth c s₁ [] 0 0 := Stand.of_body Bd
  have e0 : s₁.heap = h0 := by rw [← hh, Bd.state]; rfl
  have N0 := Fr.nil n0
  show Goes p.tables e below (fun t o => ∃ v L, o = .returned v ∧ (own_Q59 Z a1 a2 x1 h0 n0) v t.heap L ∧ FrameEnd s o t L ((Rm 1 0 0 12)).cells ((Rm 1 0 0 12)).slots) _
  refine Goes.via (B := s₁.setTop (mkF m 0 #[rv a1, rv a2, iv x1] [])) (fun t k => castTop (own_ef59 m a1 a2 x1) k) ?_
  refine Gv s₁ 1 [(.ref a1)] (fun t k => XS.aloadN X0.here hx rfl (hb hby d_jdk_53_1_0) rfl rfl k) ?_
  obtain ⟨T1, X1, e1, st1⟩ := initO X0 hx hZ hown (W_ hw 240 rfl) (W_ hw 20 rfl) (W_ hw 21 rfl) e0 (g := (mkF m 1 #[rv a1, rv a2, iv x1] [(.ref a1)])) rfl (by rw [hml]; rfl) rfl (hb hby d_jdk_53_1_1) (by decide) (W := 0) (by show 2 * 0 + _ ≤ _; exact Nat.le_of_eq rfl) (by decide)
  refine Goes.via (B := T1.setTop (mkF m 4 #[rv a1, rv a2, iv x1] [])) (fun t k => st1 _ k) ?_
  refine Gv T1 5 [(.ref a1)] (fun t k => XS.aloadN X1.here hx rfl (hb hby d_jdk_53_1_4) rfl rfl k) ?_
  refine Gv T1 6 [(.ref a2), (.ref a1)] (fun t k => XS.aloadN X1.here hx rfl (hb hby d_jdk_53_1_5) rfl rfl k) ?_
  obtain ⟨T2, h2, X2, e2, W2, st2⟩ := putF X1 hx hZ hown (host := "") (Or.inl (W_ hw 241 rfl)) Via.refl e1 F_2 F_1 (Or.inr ⟨(W_ hw 242 rfl), rfl, hnm⟩) (W_ hw 228 rfl) (ty := (.object "java/util/List")) (by decide) rfl rfl (g := (mkF m 6 #[rv a1, rv a2, iv x1] [(.ref a2), (.ref a1)])) rfl rfl (hb hby d_jdk_53_1_6)
  have N2 := Fr.snoc X2 N0 gn_a1
  refine Goes.via (B := T2.setTop (mkF m 9 #[rv a1, rv a2, iv x1] [])) (fun t k => st2 _ k) ?_
  refine Gv T2 10 [(.ref a1)] (fun t k => XS.aloadN X2.here hx rfl (hb hby d_jdk_53_1_9) rfl rfl k) ?_
  refine Gv T2 11 [(.int x1), (.ref a1)] (fun t k => XS.iloadN X2.here hx rfl (hb hby d_jdk_53_1_10) rfl k) ?_
  have c3 : Fld Z h2 a1 "java/util/ImmutableCollections$ListItr" "size" "I" (.int (0 : Int32)) := (Fld.other W2 F_3 (Or.inr (slot_ne (Or.inr (W_ hw 244 rfl)) (Or.inr (W_ hw 242 rfl)) (by decide) (t := .int) (t' := (.object "java/util/List")) (by decide) (by decide))))
  obtain ⟨T4, h4, X4, e4, W4, st4⟩ := putF X2 hx hZ hown (host := "") (Or.inl (W_ hw 243 rfl)) Via.refl e2 c3 (Exa.wr W2 F_1) (Or.inr ⟨(W_ hw 244 rfl), rfl, hnm⟩) (W_ hw 228 rfl) (ty := .int) (by decide) rfl rfl (g := (mkF m 11 #[rv a1, rv a2, iv x1] [(.int x1), (.ref a1)])) rfl rfl (hb hby d_jdk_53_1_11)
  have N4 := Fr.snoc X4 N2 gn_a1
  refine Goes.via (B := T4.setTop (mkF m 14 #[rv a1, rv a2, iv x1] [])) (fun t k => st4 _ k) ?_
  refine Gv T4 15 [(.ref a1)] (fun t k => XS.aloadN X4.here hx rfl (hb hby d_jdk_53_1_14) rfl rfl k) ?_
  refine Gv T4 16 [(.int (0 : Int32)), (.ref a1)] (fun t k => XS.iconst X4.here hx rfl (hb hby d_jdk_53_1_15) k) ?_
  have c5 : Fld Z h4 a1 "java/util/ImmutableCollections$ListItr" "cursor" "I" (.int (0 : Int32)) := (Fld.other W4 (Fld.other W2 F_4 (Or.inr (slot_ne (Or.inl (W_ hw 246 rfl)) (Or.inr (W_ hw 242 rfl)) (by decide) (t := .int) (t' := (.object "java/util/List")) (by decide) (by decide)))) (Or.inr (slot_ne (Or.inl (W_ hw 246 rfl)) (Or.inr (W_ hw 244 rfl)) (by decide) (t := .int) (t' := .int) (by decide) (by decide))))
  obtain ⟨T6, h6, X6, e6, W6, st6⟩ := putF X4 hx hZ hown (host := "") (Or.inl (W_ hw 245 rfl)) Via.refl e4 c5 (Exa.wr W4 (Exa.wr W2 F_1)) (Or.inl (W_ hw 246 rfl)) (W_ hw 228 rfl) (ty := .int) (by decide) rfl rfl (g := (mkF m 16 #[rv a1, rv a2, iv x1] [(.int (0 : Int32)), (.ref a1)])) rfl rfl (hb hby d_jdk_53_1_16)
  have N6 := Fr.snoc X6 N4 gn_a1
  refine Goes.via (B := T6.setTop (mkF m 19 #[rv a1, rv a2, iv x1] [])) (fun t k => st6 _ k) ?_
  refine Gv T6 20 [(.ref a1)] (fun t k => XS.aloadN X6.here hx rfl (hb hby d_jdk_53_1_19) rfl rfl k) ?_
  refine Gv T6 21 [(.int (0 : Int32)), (.ref a1)] (fun t k => XS.iconst X6.here hx rfl (hb hby d_jdk_53_1_20) k) ?_
  have c7 : Fld Z h6 a1 "java/util/ImmutableCollections$ListItr" "isListIterator" "Z" (.int (0 : Int32)) := (Fld.other W6 (Fld.other W4 (Fld.other W2 F_5 (Or.inr (slot_ne (Or.inr (W_ hw 248 rfl)) (Or.inr (W_ hw 242 rfl)) (by decide) (t := .boolean) (t' := (.object "java/util/List")) (by decide) (by decide)))) (Or.inr (slot_ne (Or.inr (W_ hw 248 rfl)) (Or.inr (W_ hw 244 rfl)) (by decide) (t := .boolean) (t' := .int) (by decide) (by decide)))) (Or.inr (slot_ne (Or.inr (W_ hw 248 rfl)) (Or.inl (W_ hw 246 rfl)) (by decide) (t := .boolean) (t' := .int) (by decide) (by decide))))
  obtain ⟨T8, h8, X8, e8, W8, st8⟩ := putFN X6 hx hZ hown (W_ hw 247 rfl) Via.refl e6 c7 (Exa.wr W6 (Exa.wr W4 (Exa.wr W2 F_1))) (Or.inr ⟨(W_ hw 248 rfl), rfl, hnm⟩) (W_ hw 228 rfl) (ty := .boolean) (v' := (.int (0 : Int32))) (by decide) rfl rfl (g := (mkF m 21 #[rv a1, rv a2, iv x1] [(.int (0 : Int32)), (.ref a1)])) rfl rfl (hb hby d_jdk_53_1_21)
  have N8 := Fr.snoc X8 N6 gn_a1
  refine Goes.via (B := T8.setTop (mkF m 24 #[rv a1, rv a2, iv x1] [])) (fun t k => st8 _ k) ?_
  have c9 : Fld Z h8 a1 "java/util/ImmutableCollections$ListItr" "list" "Ljava/util/List;" (.ref a2) := (Fld.other W8 (Fld.other W6 (Fld.other W4 (Fld.same W2 F_2) (Or.inr (slot_ne (Or.inr (W_ hw 242 rfl)) (Or.inr (W_ hw 244 rfl)) (by decide) (t := (.object "java/util/List")) (t' := .int) (by decide) (by decide)))) (Or.inr (slot_ne (Or.inr (W_ hw 242 rfl)) (Or.inl (W_ hw 246 rfl)) (by decide) (t := (.object "java/util/List")) (t' := .int) (by decide) (by decide)))) (Or.inr (slot_ne (Or.inr (W_ hw 242 rfl)) (Or.inr (W_ hw 248 rfl)) (by decide) (t := (.object "java/util/List")) (t' := .boolean) (by decide) (by decide))))
  have c10 : Fld Z h8 a1 "java/util/ImmutableCollections$ListItr" "size" "I" (.int x1) := (Fld.other W8 (Fld.other W6 (Fld.same W4 c3) (Or.inr (slot_ne (Or.inr (W_ hw 244 rfl)) (Or.inl (W_ hw 246 rfl)) (by decide) (t := .int) (t' := .int) (by decide) (by decide)))) (Or.inr (slot_ne (Or.inr (W_ hw 244 rfl)) (Or.inr (W_ hw 248 rfl)) (by decide) (t := .int) (t' := .boolean) (by decide) (by decide))))
  have c11 : Fld Z h8 a1 "java/util/ImmutableCollections$ListItr" "cursor" "I" (.int (0 : Int32)) := (Fld.other W8 (Fld.same W6 c5) (Or.inr (slot_ne (Or.inl (W_ hw 246 rfl)) (Or.inr (W_ hw 248 rfl)) (by decide) (t := .int) (t' := .boolean) (by decide) (by decide))))
  exact fin0 (Q := (own_Q59 Z a1 a2 x1 h0 n0)) (F := FrameEnd) (C := ((Rm 1 0 0 12)).cells) (S := ((Rm 1 0 0 12)).slots) X8 hx Bd.returns (hb hby d_jdk_53_1_24) e8 ⟨rfl, N8, (((((Keep.refl h0 [a1]).wr W2 (Or.inl (List.mem_of_getElem? (i := 0) rfl))).wr W4 (Or.inl (List.mem_of_getElem? (i := 0) rfl))).wr W6 (Or.inl (List.mem_of_getElem? (i := 0) rfl))).wr W8 (Or.inl (List.mem_of_getElem? (i := 0) rfl))), (Exa.wr W8 (Exa.wr W6 (Exa.wr W4 (Exa.wr W2 F_1)))), c9, c10, c11⟩ (lvN X8 hlk (by decide) (by decide))
theorem d_jdk_46_10_0 : decode jdk_46_method_10_code 0 = .ok (.new 61, 3) := by decide +kernel
theorem d_jdk_46_10_3 : decode jdk_46_method_10_code 3 = .ok (.dup, 1) := by decide +kernel
theorem d_jdk_46_10_4 : decode jdk_46_method_10_code 4 = .ok (.aload_n 0, 1) := by decide +kernel
theorem d_jdk_46_10_5 : decode jdk_46_method_10_code 5 = .ok (.aload_n 0, 1) := by decide +kernel
theorem d_jdk_46_10_6 : decode jdk_46_method_10_code 6 = .ok (.invokevirtual 13, 3) := by decide +kernel
theorem own_pd16 : parseMethodDescriptor "()I" = some ⟨[], some .int⟩ := by decide +kernel
theorem d_jdk_46_10_9 : decode jdk_46_method_10_code 9 = .ok (.invokespecial 63, 3) := by decide +kernel
theorem own_pd17 : parseMethodDescriptor "(Ljava/util/List;I)V" = some ⟨[(.object "java/util/List"), .int], none⟩ := by decide +kernel
theorem d_jdk_46_10_12 : decode jdk_46_method_10_code 12 = .ok (.areturn, 1) := by decide +kernel
theorem own_ef60 (m : MethodId) (x0 : Addr)  : entryFrame m #[(.ref x0)] 1 = mkF m 0 #[rv x0] [] := by first | (simp [entryFrame, mkF, argsToLocals, Value.category]; done) | rfl
abbrev own_Q60 (Z : State) (li : Addr) (pga : Addr) (em : Addr) (h0 : Heap) (n0 : Nat) (v : Option Value) (h : Heap) (L : List Loc) : Prop := ∃ r : Addr, v = some (.ref r) ∧ Fr n0 L ∧ Keep h0 h [] ∧ h0.size ≤ r ∧ Exa Z h r "java/util/ImmutableCollections$ListItr" ∧ Fld Z h r "java/util/ImmutableCollections$ListItr" "list" "Ljava/util/List;" (.ref li) ∧ Fld Z h r "java/util/ImmutableCollections$ListItr" "size" "I" (.int (1 : Int32)) ∧ Fld Z h r "java/util/ImmutableCollections$ListItr" "cursor" "I" (.int (0 : Int32))
set_option maxRecDepth 65536 in
set_option maxHeartbeats 40000000 in
theorem own_m60 (l : Launch) (Z : State) (a0 : Array Value) (hw : ∀ d ∈ tables_1, d.before a0 Z = true) (ws : List Jvm.Cond) (li : Addr) (pga : Addr) (em : Addr) (h0 : Heap) (n0 : Nat) (O0 : Old Z n0 h0) (O_1 : Sta Z Z.heap "java/util/ImmutableCollections" "EMPTY" "Ljava/lang/Object;" (.ref em)) (F_1 : Exa Z h0 li "java/util/ImmutableCollections$List12") (F_2 : Fld Z h0 li "java/util/ImmutableCollections$List12" "e0" "Ljava/lang/Object;" (.ref pga)) (F_3 : Fld Z h0 li "java/util/ImmutableCollections$List12" "e1" "Ljava/lang/Object;" (.ref em)) :
    Ctr l Z (⟨"java/util/ImmutableCollections$AbstractImmutableList", "iterator", "()Ljava/util/Iterator;"⟩ : MethodName) jdk_46_method_10_code 1 (some (.object "java/util/Iterator")) (Rm 2 1 4 27) #[(.ref li)] h0 (own_Q60 Z li pga em h0 n0) ws := by
  refine MetFree.of_bodySF (plainFor_of_name own_pn10) hisR ?_
  intro p e s m args below meth c s₁ Bd hml0 hP hK
  obtain ⟨rfl, hZ, hh⟩ := hP
  have hx := Bd.exec
  have hby := Bd.bytes
  have hlk : meth.locks = false := Bd.notSynchronized
  have hml : c.maxLocals = 1 := hml0
  have hown : s.vm.findClass "java/util/ImmutableCollections$AbstractImmutableList" = some m.cls := findClass_of_methodNamed Bd.named
  have hnm := (name_of_methodNamed Bd.named Bd.method).1
  have X0 : Stand p l e (Rm 2 1 4 27) s m #[(.ref li)] below meth c s₁ [] 0 0 := Stand.of_body Bd
  have e0 : s₁.heap = h0 := by rw [← hh, Bd.state]; rfl
  have N0 := Fr.nil n0
  show Goes p.tables e below (fun t o => ∃ v L, o = .returned v ∧ (own_Q60 Z li pga em h0 n0) v t.heap L ∧ FrameEnd s o t L ((Rm 2 1 4 27)).cells ((Rm 2 1 4 27)).slots) _
  refine Goes.via (B := s₁.setTop (mkF m 0 #[rv li] [])) (fun t k => castTop (own_ef60 m li) k) ?_
  obtain ⟨T1, h1, X1, e1, E1, A1, D1, U1, st1⟩ := newO X0 hx hZ hown (W_ hw 227 rfl) (W_ hw 228 rfl) (W_ hw 229 rfl) e0 (g := (mkF m 0 #[rv li] [])) rfl (hb hby d_jdk_46_10_0) (by decide) (by decide)
  obtain ⟨b1, g1⟩ : ∃ z, z = h0.size := ⟨_, rfl⟩
  rw [← g1] at A1 D1 U1 st1
  have gn1 : n0 ≤ b1 := Nat.le_trans (old_le O0) (Nat.le_of_eq g1.symm)
  have gs1 : h0.size ≤ b1 := Nat.le_trans (Keep.refl h0 []).1 (Nat.le_of_eq g1.symm)
  have F1_list : Fld Z h1 b1 "java/util/ImmutableCollections$ListItr" "list" "Ljava/util/List;" .null := D1 (Or.inr (W_ hw 242 rfl)) (ty := (.object "java/util/List")) (by decide)
  have F1_size : Fld Z h1 b1 "java/util/ImmutableCollections$ListItr" "size" "I" (.int (0 : Int32)) := D1 (Or.inr (W_ hw 244 rfl)) (ty := .int) (by decide)
  have F1_cursor : Fld Z h1 b1 "java/util/ImmutableCollections$ListItr" "cursor" "I" (.int (0 : Int32)) := D1 (Or.inl (W_ hw 246 rfl)) (ty := .int) (by decide)
  have F1_isListIterator : Fld Z h1 b1 "java/util/ImmutableCollections$ListItr" "isListIterator" "Z" (.int (0 : Int32)) := D1 (Or.inr (W_ hw 248 rfl)) (ty := .boolean) (by decide)
  refine Goes.via (B := T1.setTop (mkF m 3 #[rv li] [(.ref b1)])) (fun t k => st1 _ k) ?_
  refine Gv T1 4 [(.ref b1), (.ref b1)] (fun t k => XS.dup X1.here hx rfl (hb hby d_jdk_46_10_3) rfl rfl k) ?_
  refine Gv T1 5 [(.ref li), (.ref b1), (.ref b1)] (fun t k => XS.aloadN X1.here hx rfl (hb hby d_jdk_46_10_4) rfl rfl k) ?_
  refine Gv T1 6 [(.ref li), (.ref li), (.ref b1), (.ref b1)] (fun t k => XS.aloadN X1.here hx rfl (hb hby d_jdk_46_10_5) rfl rfl k) ?_
  obtain ⟨_, T2, L2, X2, ⟨rfl, M2, K2⟩, st2⟩ := callVirtUp X1 hx hZ hown (W_ hw 230 rfl) (W_ hw 231 rfl) (W_ hw 232 rfl) (W_ hw 339 rfl) (W_ hw 340 rfl) (W_ hw 321 rfl) (W_ hw 341 rfl) (by decide) (argsL := []) (rest := [(.ref li), (.ref b1), (.ref b1)]) (own_m50 l Z a0 hw [] li pga em h1 n0 (O0.ext E1) O_1 (F_1.ext E1) (F_2.ext E1) (F_3.ext E1)) e1 (F_1.ext E1) (lenOf own_pd16 rfl) (pc := 6) (Ls := #[rv li]) (st := [(.ref li), (.ref li), (.ref b1), (.ref b1)]) rfl (by rw [hml]; rfl) (hb hby d_jdk_46_10_6) (W := 3) (Nat.le_of_eq rfl) (by decide) (by decide) (by decide) (by decide)
  have N2 := Fr.app N0 M2
  refine Goes.via (B := T2.setTop (mkF m 9 #[rv li] [(.int (1 : Int32)), (.ref li), (.ref b1), (.ref b1)])) (fun t k => st2 _ k) ?_
  obtain ⟨_, T3, L3, X3, ⟨rfl, M3, K3, f3_0, f3_1, f3_2, f3_3⟩, st3⟩ := callInit X2 hx hZ rfl hown (W_ hw 236 rfl) (W_ hw 237 rfl) (W_ hw 229 rfl) (W_ hw 239 rfl) (by decide) (argsL := [(.ref li), (.int (1 : Int32))]) (rest := [(.ref b1)]) (own_m59 l Z a0 hw [] b1 li (1 : Int32) h1 n0 (O0.ext E1) gn1 A1 F1_list F1_size F1_cursor F1_isListIterator) K2 (lenOf own_pd17 rfl) (pc := 9) (Ls := #[rv li]) (st := [(.int (1 : Int32)), (.ref li), (.ref b1), (.ref b1)]) rfl (by rw [hml]; rfl) (hb hby d_jdk_46_10_9) (W := 1) (Nat.le_of_eq rfl) (by decide) (by decide) (by decide) (by decide)
  have N3 := Fr.app N2 M3
  refine Goes.via (B := T3.setTop (mkF m 12 #[rv li] [(.ref b1)])) (fun t k => st3 _ k) ?_
  exact finA (Q := (own_Q60 Z li pga em h0 n0)) (F := FrameEnd) (C := ((Rm 2 1 4 27)).cells) (S := ((Rm 2 1 4 27)).slots) X3 hx Bd.returns rfl rfl rfl (hb hby d_jdk_46_10_12) rfl ⟨b1, rfl, N3, (((Keep.refl h0 []).ext E1).trans K3 (allS (Or.inr gs1) all0)), gs1, f3_0, f3_1, f3_2, f3_3⟩ (lvN X3 hlk (by decide) (by decide))
theorem own_ef61 (m : MethodId) (x0 : Addr)  : entryFrame m #[(.ref x0)] 1 = mkF m 0 #[rv x0] [] := by first | (simp [entryFrame, mkF, argsToLocals, Value.category]; done) | rfl
abbrev own_Q61 (Z : State) (li : Addr) (pga : Addr) (pgb : Addr) (em : Addr) (h0 : Heap) (n0 : Nat) (v : Option Value) (h : Heap) (L : List Loc) : Prop := ∃ r : Addr, v = some (.ref r) ∧ Fr n0 L ∧ Keep h0 h [] ∧ h0.size ≤ r ∧ Exa Z h r "java/util/ImmutableCollections$ListItr" ∧ Fld Z h r "java/util/ImmutableCollections$ListItr" "list" "Ljava/util/List;" (.ref li) ∧ Fld Z h r "java/util/ImmutableCollections$ListItr" "size" "I" (.int (2 : Int32)) ∧ Fld Z h r "java/util/ImmutableCollections$ListItr" "cursor" "I" (.int (0 : Int32))
set_option maxRecDepth 65536 in
set_option maxHeartbeats 40000000 in
theorem own_m61 (l : Launch) (Z : State) (a0 : Array Value) (hw : ∀ d ∈ tables_1, d.before a0 Z = true) (ws : List Jvm.Cond) (li : Addr) (pga : Addr) (pgb : Addr) (em : Addr) (h0 : Heap) (n0 : Nat) (O0 : Old Z n0 h0) (hne : ¬ pgb = em) (O_1 : Sta Z Z.heap "java/util/ImmutableCollections" "EMPTY" "Ljava/lang/Object;" (.ref em)) (F_1 : Exa Z h0 li "java/util/ImmutableCollections$List12") (F_2 : Fld Z h0 li "java/util/ImmutableCollections$List12" "e0" "Ljava/lang/Object;" (.ref pga)) (F_3 : Fld Z h0 li "java/util/ImmutableCollections$List12" "e1" "Ljava/lang/Object;" (.ref pgb)) :
    Ctr l Z (⟨"java/util/ImmutableCollections$AbstractImmutableList", "iterator", "()Ljava/util/Iterator;"⟩ : MethodName) jdk_46_method_10_code 1 (some (.object "java/util/Iterator")) (Rm 2 1 4 27) #[(.ref li)] h0 (own_Q61 Z li pga pgb em h0 n0) ws := by
  refine MetFree.of_bodySF (plainFor_of_name own_pn10) hisR ?_
  intro p e s m args below meth c s₁ Bd hml0 hP hK
  obtain ⟨rfl, hZ, hh⟩ := hP
  have hx := Bd.exec
  have hby := Bd.bytes
  have hlk : meth.locks = false := Bd.notSynchronized
  have hml : c.maxLocals = 1 := hml0
  have hown : s.vm.findClass "java/util/ImmutableCollections$AbstractImmutableList" = some m.cls := findClass_of_methodNamed Bd.named
  have hnm := (name_of_methodNamed Bd.named Bd.method).1
  have X0 : Stand p l e (Rm 2 1 4 27) s m #[(.ref li)] below meth c s₁ [] 0 0 := Stand.of_body Bd
  have e0 : s₁.heap = h0 := by rw [← hh, Bd.state]; rfl
  have N0 := Fr.nil n0
  show Goes p.tables e below (fun t o => ∃ v L, o = .returned v ∧ (own_Q61 Z li pga pgb em h0 n0) v t.heap L ∧ FrameEnd s o t L ((Rm 2 1 4 27)).cells ((Rm 2 1 4 27)).slots) _
  refine Goes.via (B := s₁.setTop (mkF m 0 #[rv li] [])) (fun t k => castTop (own_ef61 m li) k) ?_
  obtain ⟨T1, h1, X1, e1, E1, A1, D1, U1, st1⟩ := newO X0 hx hZ hown (W_ hw 227 rfl) (W_ hw 228 rfl) (W_ hw 229 rfl) e0 (g := (mkF m 0 #[rv li] [])) rfl (hb hby d_jdk_46_10_0) (by decide) (by decide)
  obtain ⟨b1, g1⟩ : ∃ z, z = h0.size := ⟨_, rfl⟩
  rw [← g1] at A1 D1 U1 st1
  have gn1 : n0 ≤ b1 := Nat.le_trans (old_le O0) (Nat.le_of_eq g1.symm)
  have gs1 : h0.size ≤ b1 := Nat.le_trans (Keep.refl h0 []).1 (Nat.le_of_eq g1.symm)
  have F1_list : Fld Z h1 b1 "java/util/ImmutableCollections$ListItr" "list" "Ljava/util/List;" .null := D1 (Or.inr (W_ hw 242 rfl)) (ty := (.object "java/util/List")) (by decide)
  have F1_size : Fld Z h1 b1 "java/util/ImmutableCollections$ListItr" "size" "I" (.int (0 : Int32)) := D1 (Or.inr (W_ hw 244 rfl)) (ty := .int) (by decide)
  have F1_cursor : Fld Z h1 b1 "java/util/ImmutableCollections$ListItr" "cursor" "I" (.int (0 : Int32)) := D1 (Or.inl (W_ hw 246 rfl)) (ty := .int) (by decide)
  have F1_isListIterator : Fld Z h1 b1 "java/util/ImmutableCollections$ListItr" "isListIterator" "Z" (.int (0 : Int32)) := D1 (Or.inr (W_ hw 248 rfl)) (ty := .boolean) (by decide)
  refine Goes.via (B := T1.setTop (mkF m 3 #[rv li] [(.ref b1)])) (fun t k => st1 _ k) ?_
  refine Gv T1 4 [(.ref b1), (.ref b1)] (fun t k => XS.dup X1.here hx rfl (hb hby d_jdk_46_10_3) rfl rfl k) ?_
  refine Gv T1 5 [(.ref li), (.ref b1), (.ref b1)] (fun t k => XS.aloadN X1.here hx rfl (hb hby d_jdk_46_10_4) rfl rfl k) ?_
  refine Gv T1 6 [(.ref li), (.ref li), (.ref b1), (.ref b1)] (fun t k => XS.aloadN X1.here hx rfl (hb hby d_jdk_46_10_5) rfl rfl k) ?_
  obtain ⟨_, T2, L2, X2, ⟨rfl, M2, K2⟩, st2⟩ := callVirtUp X1 hx hZ hown (W_ hw 230 rfl) (W_ hw 231 rfl) (W_ hw 232 rfl) (W_ hw 339 rfl) (W_ hw 340 rfl) (W_ hw 321 rfl) (W_ hw 341 rfl) (by decide) (argsL := []) (rest := [(.ref li), (.ref b1), (.ref b1)]) (own_m51 l Z a0 hw [] li pga pgb em h1 n0 (O0.ext E1) hne O_1 (F_1.ext E1) (F_2.ext E1) (F_3.ext E1)) e1 (F_1.ext E1) (lenOf own_pd16 rfl) (pc := 6) (Ls := #[rv li]) (st := [(.ref li), (.ref li), (.ref b1), (.ref b1)]) rfl (by rw [hml]; rfl) (hb hby d_jdk_46_10_6) (W := 3) (Nat.le_of_eq rfl) (by decide) (by decide) (by decide) (by decide)
  have N2 := Fr.app N0 M2
  refine Goes.via (B := T2.setTop (mkF m 9 #[rv li] [(.int (2 : Int32)), (.ref li), (.ref b1), (.ref b1)])) (fun t k => st2 _ k) ?_
  obtain ⟨_, T3, L3, X3, ⟨rfl, M3, K3, f3_0, f3_1, f3_2, f3_3⟩, st3⟩ := callInit X2 hx hZ rfl hown (W_ hw 236 rfl) (W_ hw 237 rfl) (W_ hw 229 rfl) (W_ hw 239 rfl) (by decide) (argsL := [(.ref li), (.int (2 : Int32))]) (rest := [(.ref b1)]) (own_m59 l Z a0 hw [] b1 li (2 : Int32) h1 n0 (O0.ext E1) gn1 A1 F1_list F1_size F1_cursor F1_isListIterator) K2 (lenOf own_pd17 rfl) (pc := 9) (Ls := #[rv li]) (st := [(.int (2 : Int32)), (.ref li), (.ref b1), (.ref b1)]) rfl (by rw [hml]; rfl) (hb hby d_jdk_46_10_9) (W := 1) (Nat.le_of_eq rfl) (by decide) (by decide) (by decide) (by decide)
  have N3 := Fr.app N2 M3
  refine Goes.via (B := T3.setTop (mkF m 12 #[rv li] [(.ref b1)])) (fun t k => st3 _ k) ?_
  exact finA (Q := (own_Q61 Z li pga pgb em h0 n0)) (F := FrameEnd) (C := ((Rm 2 1 4 27)).cells) (S := ((Rm 2 1 4 27)).slots) X3 hx Bd.returns rfl rfl rfl (hb hby d_jdk_46_10_12) rfl ⟨b1, rfl, N3, (((Keep.refl h0 []).ext E1).trans K3 (allS (Or.inr gs1) all0)), gs1, f3_0, f3_1, f3_2, f3_3⟩ (lvN X3 hlk (by decide) (by decide))
theorem own_ef62 (m : MethodId) (x0 : Addr)  : entryFrame m #[(.ref x0)] 1 = mkF m 0 #[rv x0] [] := by first | (simp [entryFrame, mkF, argsToLocals, Value.category]; done) | rfl
abbrev own_Q62 (Z : State) (li : Addr) (pga : Addr) (pgb : Addr) (pgc : Addr) (ar : Addr) (ka : ClassId) (h0 : Heap) (n0 : Nat) (v : Option Value) (h : Heap) (L : List Loc) : Prop := ∃ r : Addr, v = some (.ref r) ∧ Fr n0 L ∧ Keep h0 h [] ∧ h0.size ≤ r ∧ Exa Z h r "java/util/ImmutableCollections$ListItr" ∧ Fld Z h r "java/util/ImmutableCollections$ListItr" "list" "Ljava/util/List;" (.ref li) ∧ Fld Z h r "java/util/ImmutableCollections$ListItr" "size" "I" (.int (3 : Int32)) ∧ Fld Z h r "java/util/ImmutableCollections$ListItr" "cursor" "I" (.int (0 : Int32))
set_option maxRecDepth 65536 in
set_option maxHeartbeats 40000000 in
theorem own_m62 (l : Launch) (Z : State) (a0 : Array Value) (hw : ∀ d ∈ tables_1, d.before a0 Z = true) (ws : List Jvm.Cond) (li : Addr) (pga : Addr) (pgb : Addr) (pgc : Addr) (ar : Addr) (ka : ClassId) (h0 : Heap) (n0 : Nat) (O0 : Old Z n0 h0) (F_1 : Exa Z h0 li "java/util/ImmutableCollections$ListN") (F_2 : Fld Z h0 li "java/util/ImmutableCollections$ListN" "elements" "[Ljava/lang/Object;" (.ref ar)) (F_3 : Arv Z h0 ar ka (.object "java/lang/Object") (3 : Int32) [(.ref pga), (.ref pgb), (.ref pgc)] .null) :
    Ctr l Z (⟨"java/util/ImmutableCollections$AbstractImmutableList", "iterator", "()Ljava/util/Iterator;"⟩ : MethodName) jdk_46_method_10_code 1 (some (.object "java/util/Iterator")) (Rm 2 1 4 27) #[(.ref li)] h0 (own_Q62 Z li pga pgb pgc ar ka h0 n0) ws := by
  refine MetFree.of_bodySF (plainFor_of_name own_pn10) hisR ?_
  intro p e s m args below meth c s₁ Bd hml0 hP hK
  obtain ⟨rfl, hZ, hh⟩ := hP
  have hx := Bd.exec
  have hby := Bd.bytes
  have hlk : meth.locks = false := Bd.notSynchronized
  have hml : c.maxLocals = 1 := hml0
  have hown : s.vm.findClass "java/util/ImmutableCollections$AbstractImmutableList" = some m.cls := findClass_of_methodNamed Bd.named
  have hnm := (name_of_methodNamed Bd.named Bd.method).1
  have X0 : Stand p l e (Rm 2 1 4 27) s m #[(.ref li)] below meth c s₁ [] 0 0 := Stand.of_body Bd
  have e0 : s₁.heap = h0 := by rw [← hh, Bd.state]; rfl
  have N0 := Fr.nil n0
  show Goes p.tables e below (fun t o => ∃ v L, o = .returned v ∧ (own_Q62 Z li pga pgb pgc ar ka h0 n0) v t.heap L ∧ FrameEnd s o t L ((Rm 2 1 4 27)).cells ((Rm 2 1 4 27)).slots) _
  refine Goes.via (B := s₁.setTop (mkF m 0 #[rv li] [])) (fun t k => castTop (own_ef62 m li) k) ?_
  obtain ⟨T1, h1, X1, e1, E1, A1, D1, U1, st1⟩ := newO X0 hx hZ hown (W_ hw 227 rfl) (W_ hw 228 rfl) (W_ hw 229 rfl) e0 (g := (mkF m 0 #[rv li] [])) rfl (hb hby d_jdk_46_10_0) (by decide) (by decide)
  obtain ⟨b1, g1⟩ : ∃ z, z = h0.size := ⟨_, rfl⟩
  rw [← g1] at A1 D1 U1 st1
  have gn1 : n0 ≤ b1 := Nat.le_trans (old_le O0) (Nat.le_of_eq g1.symm)
  have gs1 : h0.size ≤ b1 := Nat.le_trans (Keep.refl h0 []).1 (Nat.le_of_eq g1.symm)
  have F1_list : Fld Z h1 b1 "java/util/ImmutableCollections$ListItr" "list" "Ljava/util/List;" .null := D1 (Or.inr (W_ hw 242 rfl)) (ty := (.object "java/util/List")) (by decide)
  have F1_size : Fld Z h1 b1 "java/util/ImmutableCollections$ListItr" "size" "I" (.int (0 : Int32)) := D1 (Or.inr (W_ hw 244 rfl)) (ty := .int) (by decide)
  have F1_cursor : Fld Z h1 b1 "java/util/ImmutableCollections$ListItr" "cursor" "I" (.int (0 : Int32)) := D1 (Or.inl (W_ hw 246 rfl)) (ty := .int) (by decide)
  have F1_isListIterator : Fld Z h1 b1 "java/util/ImmutableCollections$ListItr" "isListIterator" "Z" (.int (0 : Int32)) := D1 (Or.inr (W_ hw 248 rfl)) (ty := .boolean) (by decide)
  refine Goes.via (B := T1.setTop (mkF m 3 #[rv li] [(.ref b1)])) (fun t k => st1 _ k) ?_
  refine Gv T1 4 [(.ref b1), (.ref b1)] (fun t k => XS.dup X1.here hx rfl (hb hby d_jdk_46_10_3) rfl rfl k) ?_
  refine Gv T1 5 [(.ref li), (.ref b1), (.ref b1)] (fun t k => XS.aloadN X1.here hx rfl (hb hby d_jdk_46_10_4) rfl rfl k) ?_
  refine Gv T1 6 [(.ref li), (.ref li), (.ref b1), (.ref b1)] (fun t k => XS.aloadN X1.here hx rfl (hb hby d_jdk_46_10_5) rfl rfl k) ?_
  obtain ⟨_, T2, L2, X2, ⟨rfl, M2, K2⟩, st2⟩ := callVirtUp X1 hx hZ hown (W_ hw 230 rfl) (W_ hw 231 rfl) (W_ hw 232 rfl) (W_ hw 233 rfl) (W_ hw 234 rfl) (W_ hw 188 rfl) (W_ hw 235 rfl) (by decide) (argsL := []) (rest := [(.ref li), (.ref b1), (.ref b1)]) (own_m52 l Z a0 hw [] li pga pgb pgc ar ka h1 n0 (O0.ext E1) (F_1.ext E1) (F_2.ext E1) (F_3.ext E1)) e1 (F_1.ext E1) (lenOf own_pd16 rfl) (pc := 6) (Ls := #[rv li]) (st := [(.ref li), (.ref li), (.ref b1), (.ref b1)]) rfl (by rw [hml]; rfl) (hb hby d_jdk_46_10_6) (W := 3) (Nat.le_of_eq rfl) (by decide) (by decide) (by decide) (by decide)
  have N2 := Fr.app N0 M2
  refine Goes.via (B := T2.setTop (mkF m 9 #[rv li] [(.int (3 : Int32)), (.ref li), (.ref b1), (.ref b1)])) (fun t k => st2 _ k) ?_
  obtain ⟨_, T3, L3, X3, ⟨rfl, M3, K3, f3_0, f3_1, f3_2, f3_3⟩, st3⟩ := callInit X2 hx hZ rfl hown (W_ hw 236 rfl) (W_ hw 237 rfl) (W_ hw 229 rfl) (W_ hw 239 rfl) (by decide) (argsL := [(.ref li), (.int (3 : Int32))]) (rest := [(.ref b1)]) (own_m59 l Z a0 hw [] b1 li (3 : Int32) h1 n0 (O0.ext E1) gn1 A1 F1_list F1_size F1_cursor F1_isListIterator) K2 (lenOf own_pd17 rfl) (pc := 9) (Ls := #[rv li]) (st := [(.int (3 : Int32)), (.ref li), (.ref b1), (.ref b1)]) rfl (by rw [hml]; rfl) (hb hby d_jdk_46_10_9) (W := 1) (Nat.le_of_eq rfl) (by decide) (by decide) (by decide) (by decide)
  have N3 := Fr.app N2 M3
  refine Goes.via (B := T3.setTop (mkF m 12 #[rv li] [(.ref b1)])) (fun t k => st3 _ k) ?_
  exact finA (Q := (own_Q62 Z li pga pgb pgc ar ka h0 n0)) (F := FrameEnd) (C := ((Rm 2 1 4 27)).cells) (S := ((Rm 2 1 4 27)).slots) X3 hx Bd.returns rfl rfl rfl (hb hby d_jdk_46_10_12) rfl ⟨b1, rfl, N3, (((Keep.refl h0 []).ext E1).trans K3 (allS (Or.inr gs1) all0)), gs1, f3_0, f3_1, f3_2, f3_3⟩ (lvN X3 hlk (by decide) (by decide))
theorem d_jdk_53_3_0 : decode jdk_53_method_3_code 0 = .ok (.aload_n 0, 1) := by decide +kernel
theorem d_jdk_53_3_1 : decode jdk_53_method_3_code 1 = .ok (.getfield 17, 3) := by decide +kernel
theorem d_jdk_53_3_4 : decode jdk_53_method_3_code 4 = .ok (.aload_n 0, 1) := by decide +kernel
theorem d_jdk_53_3_5 : decode jdk_53_method_3_code 5 = .ok (.getfield 13, 3) := by decide +kernel
theorem d_jdk_53_3_8 : decode jdk_53_method_3_code 8 = .ok (.if_icmp .eq 7, 3) := by decide +kernel
theorem d_jdk_53_3_15 : decode jdk_53_method_3_code 15 = .ok (.iconst 0, 1) := by decide +kernel
theorem d_jdk_53_3_16 : decode jdk_53_method_3_code 16 = .ok (.ireturn, 1) := by decide +kernel
theorem d_jdk_53_3_11 : decode jdk_53_method_3_code 11 = .ok (.iconst 1, 1) := by decide +kernel
theorem d_jdk_53_3_12 : decode jdk_53_method_3_code 12 = .ok (.goto 4, 3) := by decide +kernel
theorem own_ef63 (m : MethodId) (x0 : Addr)  : entryFrame m #[(.ref x0)] 1 = mkF m 0 #[rv x0] [] := by first | (simp [entryFrame, mkF, argsToLocals, Value.category]; done) | rfl
abbrev own_Q63 (Z : State) (a1 : Addr) (a2 : Addr) (x1 : Int32) (x2 : Int32) (h0 : Heap) (n0 : Nat) (v : Option Value) (h : Heap) (L : List Loc) : Prop := ∃ r : Int32, v = some (.int r) ∧ Fr n0 L ∧ h = h0 ∧ r = if x2 = x1 then 0 else 1
set_option maxRecDepth 65536 in
set_option maxHeartbeats 40000000 in
theorem own_m63 (l : Launch) (Z : State) (a0 : Array Value) (hw : ∀ d ∈ tables_1, d.before a0 Z = true) (ws : List Jvm.Cond) (a1 : Addr) (a2 : Addr) (x1 : Int32) (x2 : Int32) (h0 : Heap) (n0 : Nat) (O0 : Old Z n0 h0) (F_1 : Exa Z h0 a1 "java/util/ImmutableCollections$ListItr") (F_2 : Fld Z h0 a1 "java/util/ImmutableCollections$ListItr" "list" "Ljava/util/List;" (.ref a2)) (F_3 : Fld Z h0 a1 "java/util/ImmutableCollections$ListItr" "size" "I" (.int x1)) (F_4 : Fld Z h0 a1 "java/util/ImmutableCollections$ListItr" "cursor" "I" (.int x2)) :
    Ctr l Z (⟨"java/util/ImmutableCollections$ListItr", "hasNext", "()Z"⟩ : MethodName) jdk_53_method_3_code 1 (some .boolean) (Rm 0 0 0 0) #[(.ref a1)] h0 (own_Q63 Z a1 a2 x1 x2 h0 n0) ws := by
  refine MetFree.of_bodySF (plainFor_of_name own_pn16) hisR ?_
  intro p e s m args below meth c s₁ Bd hml0 hP hK
  obtain ⟨rfl, hZ, hh⟩ := hP
  have hx := Bd.exec
  have hby := Bd.bytes
  have hlk : meth.locks = false := Bd.notSynchronized
  have hml : c.maxLocals = 1 := hml0
  have hown : s.vm.findClass "java/util/ImmutableCollections$ListItr" = some m.cls := findClass_of_methodNamed Bd.named
  have hnm := (name_of_methodNamed Bd.named Bd.method).1
  have X0 : Stand p l e (Rm 0 0 0 0) s m #[(.ref a1)] below meth c s₁ [] 0 0 := Stand.of_body Bd
  have e0 : s₁.heap = h0 := by rw [← hh, Bd.state]; rfl
  have N0 := Fr.nil n0
  show Goes p.tables e below (fun t o => ∃ v L, o = .returned v ∧ (own_Q63 Z a1 a2 x1 x2 h0 n0) v t.heap L ∧ FrameEnd s o t L ((Rm 0 0 0 0)).cells ((Rm 0 0 0 0)).slots) _
  refine Goes.via (B := s₁.setTop (mkF m 0 #[rv a1] [])) (fun t k => castTop (own_ef63 m a1) k) ?_
  refine Gv s₁ 1 [(.ref a1)] (fun t k => XS.aloadN X0.here hx rfl (hb hby d_jdk_53_3_0) rfl rfl k) ?_
  obtain ⟨T1, X1, e1, st1⟩ := getF X0 hx hZ hown (host := "") (Or.inl (W_ hw 245 rfl)) Via.refl e0 F_4 (g := (mkF m 1 #[rv a1] [(.ref a1)])) rfl rfl (hb hby d_jdk_53_3_1)
  refine Goes.via (B := T1.setTop (mkF m 4 #[rv a1] [(.int x2)])) (fun t k => st1 _ k) ?_
  refine Gv T1 5 [(.ref a1), (.int x2)] (fun t k => XS.aloadN X1.here hx rfl (hb hby d_jdk_53_3_4) rfl rfl k) ?_
  obtain ⟨T2, X2, e2, st2⟩ := getF X1 hx hZ hown (host := "") (Or.inl (W_ hw 243 rfl)) Via.refl e1 F_3 (g := (mkF m 5 #[rv a1] [(.ref a1), (.int x2)])) rfl rfl (hb hby d_jdk_53_3_5)
  refine Goes.via (B := T2.setTop (mkF m 8 #[rv a1] [(.int x1), (.int x2)])) (fun t k => st2 _ k) ?_
  by_cases b3 : x2 = x1
  · refine Gv T2 15 [] (fun t k => XS.icmpYes X2.here hx rfl (pc0 := 8) (pc' := 15) rfl (hb hby d_jdk_53_3_8) rfl (XT.ii_eq_t b3) (by decide) (by decide) k) ?_
    refine Gv T2 16 [(.int (0 : Int32))] (fun t k => XS.iconst X2.here hx rfl (hb hby d_jdk_53_3_15) k) ?_
    exact finN (Q := (own_Q63 Z a1 a2 x1 x2 h0 n0)) (F := FrameEnd) (C := ((Rm 0 0 0 0)).cells) (S := ((Rm 0 0 0 0)).slots) X2 hx (t := .boolean) Bd.returns (by simp) (z' := (0 : Int32)) rfl (hb hby d_jdk_53_3_16) e2 ⟨(0 : Int32), rfl, N0, rfl, (if_pos b3).symm⟩ (lvN X2 hlk (by decide) (by decide))
  · refine Gv T2 11 [] (fun t k => XS.icmpNo X2.here hx rfl (hb hby d_jdk_53_3_8) rfl (XT.ii_eq_f b3) k) ?_
    refine Gv T2 12 [(.int (1 : Int32))] (fun t k => XS.iconst X2.here hx rfl (hb hby d_jdk_53_3_11) k) ?_
    refine Gv T2 16 [(.int (1 : Int32))] (fun t k => XS.goto X2.here hx rfl (pc0 := 12) (pc' := 16) rfl (hb hby d_jdk_53_3_12) (by decide) (by decide) k) ?_
    exact finN (Q := (own_Q63 Z a1 a2 x1 x2 h0 n0)) (F := FrameEnd) (C := ((Rm 0 0 0 0)).cells) (S := ((Rm 0 0 0 0)).slots) X2 hx (t := .boolean) Bd.returns (by simp) (z' := (1 : Int32)) rfl (hb hby d_jdk_53_3_16) e2 ⟨(1 : Int32), rfl, N0, rfl, (if_neg b3).symm⟩ (lvN X2 hlk (by decide) (by decide))
theorem d_jdk_53_4_0 : decode jdk_53_method_4_code 0 = .ok (.aload_n 0, 1) := by decide +kernel
theorem d_jdk_53_4_1 : decode jdk_53_method_4_code 1 = .ok (.getfield 17, 3) := by decide +kernel
theorem d_jdk_53_4_4 : decode jdk_53_method_4_code 4 = .ok (.istore_n 1, 1) := by decide +kernel
theorem d_jdk_53_4_5 : decode jdk_53_method_4_code 5 = .ok (.aload_n 0, 1) := by decide +kernel
theorem d_jdk_53_4_6 : decode jdk_53_method_4_code 6 = .ok (.getfield 7, 3) := by decide +kernel
theorem d_jdk_53_4_9 : decode jdk_53_method_4_code 9 = .ok (.iload_n 1, 1) := by decide +kernel
theorem d_jdk_53_4_10 : decode jdk_53_method_4_code 10 = .ok (.invokeinterface 24 2, 5) := by decide +kernel
theorem own_pd18 : parseMethodDescriptor "(I)Ljava/lang/Object;" = some ⟨[.int], some (.object "java/lang/Object")⟩ := by decide +kernel
theorem d_jdk_53_4_15 : decode jdk_53_method_4_code 15 = .ok (.astore_n 2, 1) := by decide +kernel
theorem d_jdk_53_4_16 : decode jdk_53_method_4_code 16 = .ok (.aload_n 0, 1) := by decide +kernel
theorem d_jdk_53_4_17 : decode jdk_53_method_4_code 17 = .ok (.iload_n 1, 1) := by decide +kernel
theorem d_jdk_53_4_18 : decode jdk_53_method_4_code 18 = .ok (.iconst 1, 1) := by decide +kernel
theorem d_jdk_53_4_19 : decode jdk_53_method_4_code 19 = .ok (.iadd, 1) := by decide +kernel
theorem d_jdk_53_4_20 : decode jdk_53_method_4_code 20 = .ok (.putfield 17, 3) := by decide +kernel
theorem d_jdk_53_4_23 : decode jdk_53_method_4_code 23 = .ok (.aload_n 2, 1) := by decide +kernel
theorem d_jdk_53_4_24 : decode jdk_53_method_4_code 24 = .ok (.areturn, 1) := by decide +kernel
theorem own_ef64 (m : MethodId) (x0 : Addr)  : entryFrame m #[(.ref x0)] 3 = mkF m 0 #[rv x0, u_, u_] [] := by first | (simp [entryFrame, mkF, argsToLocals, Value.category]; done) | rfl
abbrev own_Q64 (Z : State) (a1 : Addr) (li : Addr) (pga : Addr) (em : Addr) (h0 : Heap) (n0 : Nat) (v : Option Value) (h : Heap) (L : List Loc) : Prop := v = some (.ref pga) ∧ Fr n0 L ∧ Keep h0 h [a1] ∧ Exa Z h a1 "java/util/ImmutableCollections$ListItr" ∧ Fld Z h a1 "java/util/ImmutableCollections$ListItr" "list" "Ljava/util/List;" (.ref li) ∧ Fld Z h a1 "java/util/ImmutableCollections$ListItr" "size" "I" (.int (1 : Int32)) ∧ Fld Z h a1 "java/util/ImmutableCollections$ListItr" "cursor" "I" (.int (1 : Int32))
set_option maxRecDepth 65536 in
set_option maxHeartbeats 40000000 in
theorem own_m64 (l : Launch) (Z : State) (a0 : Array Value) (hw : ∀ d ∈ tables_1, d.before a0 Z = true) (ws : List Jvm.Cond) (a1 : Addr) (li : Addr) (pga : Addr) (em : Addr) (h0 : Heap) (n0 : Nat) (O0 : Old Z n0 h0) (gn_a1 : n0 ≤ a1) (O_1 : Sta Z Z.heap "java/util/ImmutableCollections" "EMPTY" "Ljava/lang/Object;" (.ref em)) (F_1 : Exa Z h0 a1 "java/util/ImmutableCollections$ListItr") (F_2 : Fld Z h0 a1 "java/util/ImmutableCollections$ListItr" "list" "Ljava/util/List;" (.ref li)) (F_3 : Fld Z h0 a1 "java/util/ImmutableCollections$ListItr" "size" "I" (.int (1 : Int32))) (F_4 : Fld Z h0 a1 "java/util/ImmutableCollections$ListItr" "cursor" "I" (.int (0 : Int32))) (F_5 : Exa Z h0 li "java/util/ImmutableCollections$List12") (F_6 : Fld Z h0 li "java/util/ImmutableCollections$List12" "e0" "Ljava/lang/Object;" (.ref pga)) (F_7 : Fld Z h0 li "java/util/ImmutableCollections$List12" "e1" "Ljava/lang/Object;" (.ref em)) :
    CtrX l Z [(0, 24, 25, 30)] (⟨"java/util/ImmutableCollections$ListItr", "next", "()Ljava/lang/Object;"⟩ : MethodName) jdk_53_method_4_code 3 (some (.object "java/lang/Object")) (Rm 1 0 0 13) #[(.ref a1)] h0 (own_Q64 Z a1 li pga em h0 n0) ws := by
  refine MetFree.of_bodySF (plainFor_of_name own_pn16) hisWith ?_
  intro p e s m args below meth c s₁ Bd hml0 hP hK
  obtain ⟨rfl, hZ, hh⟩ := hP
  have hx := Bd.exec
  have hby := Bd.bytes
  have hlk : meth.locks = false := Bd.notSynchronized
  have hml : c.maxLocals = 3 := hml0
  have hown : s.vm.findClass "java/util/ImmutableCollections$ListItr" = some m.cls := findClass_of_methodNamed Bd.named
  have hnm := (name_of_methodNamed Bd.named Bd.method).1
  have X0 : Stand p l e (Rm 1 0 0 13) s m #[(.ref a1)] below meth c s₁ [] 0 0 := Stand.of_body Bd
  have e0 : s₁.heap = h0 := by rw [← hh, Bd.state]; rfl
  have N0 := Fr.nil n0
  show Goes p.tables e below (fun t o => ∃ v L, o = .returned v ∧ (own_Q64 Z a1 li pga em h0 n0) v t.heap L ∧ FrameEnd s o t L ((Rm 1 0 0 13)).cells ((Rm 1 0 0 13)).slots) _
  refine Goes.via (B := s₁.setTop (mkF m 0 #[rv a1, u_, u_] [])) (fun t k => castTop (own_ef64 m a1) k) ?_
  refine Gv s₁ 1 [(.ref a1)] (fun t k => XS.aloadN X0.here hx rfl (hb hby d_jdk_53_4_0) rfl rfl k) ?_
  obtain ⟨T1, X1, e1, st1⟩ := getF X0 hx hZ hown (host := "") (Or.inl (W_ hw 245 rfl)) Via.refl e0 F_4 (g := (mkF m 1 #[rv a1, u_, u_] [(.ref a1)])) rfl rfl (hb hby d_jdk_53_4_1)
  refine Goes.via (B := T1.setTop (mkF m 4 #[rv a1, u_, u_] [(.int (0 : Int32))])) (fun t k => st1 _ k) ?_
  refine Gv T1 5 [] (fun t k => XS.istoreN X1.here hx rfl (hb hby d_jdk_53_4_4) rfl (l' := #[rv a1, iv (0 : Int32), u_]) rfl k) ?_
  refine Gv T1 6 [(.ref a1)] (fun t k => XS.aloadN X1.here hx rfl (hb hby d_jdk_53_4_5) rfl rfl k) ?_
  obtain ⟨T2, X2, e2, st2⟩ := getF X1 hx hZ hown (host := "") (Or.inl (W_ hw 241 rfl)) Via.refl e1 F_2 (g := (mkF m 6 #[rv a1, iv (0 : Int32), u_] [(.ref a1)])) rfl rfl (hb hby d_jdk_53_4_6)
  refine Goes.via (B := T2.setTop (mkF m 9 #[rv a1, iv (0 : Int32), u_] [(.ref li)])) (fun t k => st2 _ k) ?_
  refine Gv T2 10 [(.int (0 : Int32)), (.ref li)] (fun t k => XS.iloadN X2.here hx rfl (hb hby d_jdk_53_4_9) rfl k) ?_
  obtain ⟨_, T3, L3, X3, ⟨rfl, M3, K3⟩, st3⟩ := callFace X2 hx hZ hown (W_ hw 266 rfl) (W_ hw 267 rfl) (mvT hZ (W_ hw 268 rfl)) (W_ hw 342 rfl) (W_ hw 343 rfl) (W_ hw 344 rfl) (W_ hw 345 rfl) (W_ hw 338 rfl) (W_ hw 321 rfl) (W_ hw 346 rfl) (by decide) (argsL := [(.int (0 : Int32))]) (rest := []) (own_m53 l Z a0 hw [] li pga em h0 n0 O0 O_1 F_5 F_6 F_7) e2 F_5 (lenOf own_pd18 rfl) (pc := 10) (Ls := #[rv a1, iv (0 : Int32), u_]) (st := [(.int (0 : Int32)), (.ref li)]) rfl (by rw [hml]; rfl) (hb hby d_jdk_53_4_10) (W := 0) (Nat.le_of_eq rfl) (by decide) (by decide) (by decide) (by decide)
  have N3 := Fr.app N0 M3
  refine Goes.via (B := T3.setTop (mkF m 15 #[rv a1, iv (0 : Int32), u_] [(.ref pga)])) (fun t k => st3 _ k) ?_
  refine Gv T3 16 [] (fun t k => XS.astoreN X3.here hx rfl (hb hby d_jdk_53_4_15) rfl rfl (l' := #[rv a1, iv (0 : Int32), rv pga]) rfl k) ?_
  refine Gv T3 17 [(.ref a1)] (fun t k => XS.aloadN X3.here hx rfl (hb hby d_jdk_53_4_16) rfl rfl k) ?_
  refine Gv T3 18 [(.int (0 : Int32)), (.ref a1)] (fun t k => XS.iloadN X3.here hx rfl (hb hby d_jdk_53_4_17) rfl k) ?_
  refine Gv T3 19 [(.int (1 : Int32)), (.int (0 : Int32)), (.ref a1)] (fun t k => XS.iconst X3.here hx rfl (hb hby d_jdk_53_4_18) k) ?_
  refine Gv T3 20 [(.int ((0 : Int32) + (1 : Int32))), (.ref a1)] (fun t k => XS.iadd X3.here hx rfl (hb hby d_jdk_53_4_19) rfl k) ?_
  have q4 : ((0 : Int32) + (1 : Int32)) = (1 : Int32) := rfl
  rw [q4]
  obtain ⟨T5, h5, X5, e5, W5, st5⟩ := putF X3 hx hZ hown (host := "") (Or.inl (W_ hw 245 rfl)) Via.refl K3 F_4 F_1 (Or.inl (W_ hw 246 rfl)) (W_ hw 228 rfl) (ty := .int) (by decide) rfl rfl (g := (mkF m 20 #[rv a1, iv (0 : Int32), rv pga] [(.int (1 : Int32)), (.ref a1)])) rfl rfl (hb hby d_jdk_53_4_20)
  have N5 := Fr.snoc X5 N3 gn_a1
  refine Goes.via (B := T5.setTop (mkF m 23 #[rv a1, iv (0 : Int32), rv pga] [])) (fun t k => st5 _ k) ?_
  refine Gv T5 24 [(.ref pga)] (fun t k => XS.aloadN X5.here hx rfl (hb hby d_jdk_53_4_23) rfl rfl k) ?_
  have c6 : Fld Z h5 a1 "java/util/ImmutableCollections$ListItr" "list" "Ljava/util/List;" (.ref li) := (Fld.other W5 F_2 (Or.inr (slot_ne (Or.inr (W_ hw 242 rfl)) (Or.inl (W_ hw 246 rfl)) (by decide) (t := (.object "java/util/List")) (t' := .int) (by decide) (by decide))))
  have c7 : Fld Z h5 a1 "java/util/ImmutableCollections$ListItr" "size" "I" (.int (1 : Int32)) := (Fld.other W5 F_3 (Or.inr (slot_ne (Or.inr (W_ hw 244 rfl)) (Or.inl (W_ hw 246 rfl)) (by decide) (t := .int) (t' := .int) (by decide) (by decide))))
  exact finA (Q := (own_Q64 Z a1 li pga em h0 n0)) (F := FrameEnd) (C := ((Rm 1 0 0 13)).cells) (S := ((Rm 1 0 0 13)).slots) X5 hx Bd.returns rfl rfl rfl (hb hby d_jdk_53_4_24) e5 ⟨rfl, N5, ((Keep.refl h0 [a1]).wr W5 (Or.inl (List.mem_of_getElem? (i := 0) rfl))), (Exa.wr W5 F_1), c6, c7, (Fld.same W5 F_4)⟩ (lvN X5 hlk (by decide) (by decide))
theorem own_ef65 (m : MethodId) (x0 : Addr)  : entryFrame m #[(.ref x0)] 3 = mkF m 0 #[rv x0, u_, u_] [] := by first | (simp [entryFrame, mkF, argsToLocals, Value.category]; done) | rfl
abbrev own_Q65 (Z : State) (a1 : Addr) (li : Addr) (pga : Addr) (pgb : Addr) (em : Addr) (h0 : Heap) (n0 : Nat) (v : Option Value) (h : Heap) (L : List Loc) : Prop := v = some (.ref pga) ∧ Fr n0 L ∧ Keep h0 h [a1] ∧ Exa Z h a1 "java/util/ImmutableCollections$ListItr" ∧ Fld Z h a1 "java/util/ImmutableCollections$ListItr" "list" "Ljava/util/List;" (.ref li) ∧ Fld Z h a1 "java/util/ImmutableCollections$ListItr" "size" "I" (.int (2 : Int32)) ∧ Fld Z h a1 "java/util/ImmutableCollections$ListItr" "cursor" "I" (.int (1 : Int32))
set_option maxRecDepth 65536 in
set_option maxHeartbeats 40000000 in
theorem own_m65 (l : Launch) (Z : State) (a0 : Array Value) (hw : ∀ d ∈ tables_1, d.before a0 Z = true) (ws : List Jvm.Cond) (a1 : Addr) (li : Addr) (pga : Addr) (pgb : Addr) (em : Addr) (h0 : Heap) (n0 : Nat) (O0 : Old Z n0 h0) (hne : ¬ pgb = em) (gn_a1 : n0 ≤ a1) (O_1 : Sta Z Z.heap "java/util/ImmutableCollections" "EMPTY" "Ljava/lang/Object;" (.ref em)) (F_1 : Exa Z h0 a1 "java/util/ImmutableCollections$ListItr") (F_2 : Fld Z h0 a1 "java/util/ImmutableCollections$ListItr" "list" "Ljava/util/List;" (.ref li)) (F_3 : Fld Z h0 a1 "java/util/ImmutableCollections$ListItr" "size" "I" (.int (2 : Int32))) (F_4 : Fld Z h0 a1 "java/util/ImmutableCollections$ListItr" "cursor" "I" (.int (0 : Int32))) (F_5 : Exa Z h0 li "java/util/ImmutableCollections$List12") (F_6 : Fld Z h0 li "java/util/ImmutableCollections$List12" "e0" "Ljava/lang/Object;" (.ref pga)) (F_7 : Fld Z h0 li "java/util/ImmutableCollections$List12" "e1" "Ljava/lang/Object;" (.ref pgb)) :
    CtrX l Z [(0, 24, 25, 30)] (⟨"java/util/ImmutableCollections$ListItr", "next", "()Ljava/lang/Object;"⟩ : MethodName) jdk_53_method_4_code 3 (some (.object "java/lang/Object")) (Rm 1 0 0 13) #[(.ref a1)] h0 (own_Q65 Z a1 li pga pgb em h0 n0) ws := by
  refine MetFree.of_bodySF (plainFor_of_name own_pn16) hisWith ?_
  intro p e s m args below meth c s₁ Bd hml0 hP hK
  obtain ⟨rfl, hZ, hh⟩ := hP
  have hx := Bd.exec
  have hby := Bd.bytes
  have hlk : meth.locks = false := Bd.notSynchronized
  have hml : c.maxLocals = 3 := hml0
  have hown : s.vm.findClass "java/util/ImmutableCollections$ListItr" = some m.cls := findClass_of_methodNamed Bd.named
  have hnm := (name_of_methodNamed Bd.named Bd.method).1
  have X0 : Stand p l e (Rm 1 0 0 13) s m #[(.ref a1)] below meth c s₁ [] 0 0 := Stand.of_body Bd
  have e0 : s₁.heap = h0 := by rw [← hh, Bd.state]; rfl
  have N0 := Fr.nil n0
  show Goes p.tables e below (fun t o => ∃ v L, o = .returned v ∧ (own_Q65 Z a1 li pga pgb em h0 n0) v t.heap L ∧ FrameEnd s o t L ((Rm 1 0 0 13)).cells ((Rm 1 0 0 13)).slots) _
  refine Goes.via (B := s₁.setTop (mkF m 0 #[rv a1, u_, u_] [])) (fun t k => castTop (own_ef65 m a1) k) ?_
  refine Gv s₁ 1 [(.ref a1)] (fun t k => XS.aloadN X0.here hx rfl (hb hby d_jdk_53_4_0) rfl rfl k) ?_
  obtain ⟨T1, X1, e1, st1⟩ := getF X0 hx hZ hown (host := "") (Or.inl (W_ hw 245 rfl)) Via.refl e0 F_4 (g := (mkF m 1 #[rv a1, u_, u_] [(.ref a1)])) rfl rfl (hb hby d_jdk_53_4_1)
  refine Goes.via (B := T1.setTop (mkF m 4 #[rv a1, u_, u_] [(.int (0 : Int32))])) (fun t k => st1 _ k) ?_
  refine Gv T1 5 [] (fun t k => XS.istoreN X1.here hx rfl (hb hby d_jdk_53_4_4) rfl (l' := #[rv a1, iv (0 : Int32), u_]) rfl k) ?_
  refine Gv T1 6 [(.ref a1)] (fun t k => XS.aloadN X1.here hx rfl (hb hby d_jdk_53_4_5) rfl rfl k) ?_
  obtain ⟨T2, X2, e2, st2⟩ := getF X1 hx hZ hown (host := "") (Or.inl (W_ hw 241 rfl)) Via.refl e1 F_2 (g := (mkF m 6 #[rv a1, iv (0 : Int32), u_] [(.ref a1)])) rfl rfl (hb hby d_jdk_53_4_6)
  refine Goes.via (B := T2.setTop (mkF m 9 #[rv a1, iv (0 : Int32), u_] [(.ref li)])) (fun t k => st2 _ k) ?_
  refine Gv T2 10 [(.int (0 : Int32)), (.ref li)] (fun t k => XS.iloadN X2.here hx rfl (hb hby d_jdk_53_4_9) rfl k) ?_
  obtain ⟨_, T3, L3, X3, ⟨rfl, M3, K3⟩, st3⟩ := callFace X2 hx hZ hown (W_ hw 266 rfl) (W_ hw 267 rfl) (mvT hZ (W_ hw 268 rfl)) (W_ hw 342 rfl) (W_ hw 343 rfl) (W_ hw 344 rfl) (W_ hw 345 rfl) (W_ hw 338 rfl) (W_ hw 321 rfl) (W_ hw 346 rfl) (by decide) (argsL := [(.int (0 : Int32))]) (rest := []) (own_m54 l Z a0 hw [] li pga pgb em h0 n0 O0 hne O_1 F_5 F_6 F_7) e2 F_5 (lenOf own_pd18 rfl) (pc := 10) (Ls := #[rv a1, iv (0 : Int32), u_]) (st := [(.int (0 : Int32)), (.ref li)]) rfl (by rw [hml]; rfl) (hb hby d_jdk_53_4_10) (W := 0) (Nat.le_of_eq rfl) (by decide) (by decide) (by decide) (by decide)
  have N3 := Fr.app N0 M3
  refine Goes.via (B := T3.setTop (mkF m 15 #[rv a1, iv (0 : Int32), u_] [(.ref pga)])) (fun t k => st3 _ k) ?_
  refine Gv T3 16 [] (fun t k => XS.astoreN X3.here hx rfl (hb hby d_jdk_53_4_15) rfl rfl (l' := #[rv a1, iv (0 : Int32), rv pga]) rfl k) ?_
  refine Gv T3 17 [(.ref a1)] (fun t k => XS.aloadN X3.here hx rfl (hb hby d_jdk_53_4_16) rfl rfl k) ?_
  refine Gv T3 18 [(.int (0 : Int32)), (.ref a1)] (fun t k => XS.iloadN X3.here hx rfl (hb hby d_jdk_53_4_17) rfl k) ?_
  refine Gv T3 19 [(.int (1 : Int32)), (.int (0 : Int32)), (.ref a1)] (fun t k => XS.iconst X3.here hx rfl (hb hby d_jdk_53_4_18) k) ?_
  refine Gv T3 20 [(.int ((0 : Int32) + (1 : Int32))), (.ref a1)] (fun t k => XS.iadd X3.here hx rfl (hb hby d_jdk_53_4_19) rfl k) ?_
  have q4 : ((0 : Int32) + (1 : Int32)) = (1 : Int32) := rfl
  rw [q4]
  obtain ⟨T5, h5, X5, e5, W5, st5⟩ := putF X3 hx hZ hown (host := "") (Or.inl (W_ hw 245 rfl)) Via.refl K3 F_4 F_1 (Or.inl (W_ hw 246 rfl)) (W_ hw 228 rfl) (ty := .int) (by decide) rfl rfl (g := (mkF m 20 #[rv a1, iv (0 : Int32), rv pga] [(.int (1 : Int32)), (.ref a1)])) rfl rfl (hb hby d_jdk_53_4_20)
  have N5 := Fr.snoc X5 N3 gn_a1
  refine Goes.via (B := T5.setTop (mkF m 23 #[rv a1, iv (0 : Int32), rv pga] [])) (fun t k => st5 _ k) ?_
  refine Gv T5 24 [(.ref pga)] (fun t k => XS.aloadN X5.here hx rfl (hb hby d_jdk_53_4_23) rfl rfl k) ?_
  have c6 : Fld Z h5 a1 "java/util/ImmutableCollections$ListItr" "list" "Ljava/util/List;" (.ref li) := (Fld.other W5 F_2 (Or.inr (slot_ne (Or.inr (W_ hw 242 rfl)) (Or.inl (W_ hw 246 rfl)) (by decide) (t := (.object "java/util/List")) (t' := .int) (by decide) (by decide))))
  have c7 : Fld Z h5 a1 "java/util/ImmutableCollections$ListItr" "size" "I" (.int (2 : Int32)) := (Fld.other W5 F_3 (Or.inr (slot_ne (Or.inr (W_ hw 244 rfl)) (Or.inl (W_ hw 246 rfl)) (by decide) (t := .int) (t' := .int) (by decide) (by decide))))
  exact finA (Q := (own_Q65 Z a1 li pga pgb em h0 n0)) (F := FrameEnd) (C := ((Rm 1 0 0 13)).cells) (S := ((Rm 1 0 0 13)).slots) X5 hx Bd.returns rfl rfl rfl (hb hby d_jdk_53_4_24) e5 ⟨rfl, N5, ((Keep.refl h0 [a1]).wr W5 (Or.inl (List.mem_of_getElem? (i := 0) rfl))), (Exa.wr W5 F_1), c6, c7, (Fld.same W5 F_4)⟩ (lvN X5 hlk (by decide) (by decide))
theorem own_ef66 (m : MethodId) (x0 : Addr)  : entryFrame m #[(.ref x0)] 3 = mkF m 0 #[rv x0, u_, u_] [] := by first | (simp [entryFrame, mkF, argsToLocals, Value.category]; done) | rfl
abbrev own_Q66 (Z : State) (a1 : Addr) (li : Addr) (pga : Addr) (pgb : Addr) (em : Addr) (h0 : Heap) (n0 : Nat) (v : Option Value) (h : Heap) (L : List Loc) : Prop := v = some (.ref pgb) ∧ Fr n0 L ∧ Keep h0 h [a1] ∧ Exa Z h a1 "java/util/ImmutableCollections$ListItr" ∧ Fld Z h a1 "java/util/ImmutableCollections$ListItr" "list" "Ljava/util/List;" (.ref li) ∧ Fld Z h a1 "java/util/ImmutableCollections$ListItr" "size" "I" (.int (2 : Int32)) ∧ Fld Z h a1 "java/util/ImmutableCollections$ListItr" "cursor" "I" (.int (2 : Int32))
set_option maxRecDepth 65536 in
set_option maxHeartbeats 40000000 in
theorem own_m66 (l : Launch) (Z : State) (a0 : Array Value) (hw : ∀ d ∈ tables_1, d.before a0 Z = true) (ws : List Jvm.Cond) (a1 : Addr) (li : Addr) (pga : Addr) (pgb : Addr) (em : Addr) (h0 : Heap) (n0 : Nat) (O0 : Old Z n0 h0) (hne : ¬ pgb = em) (gn_a1 : n0 ≤ a1) (O_1 : Sta Z Z.heap "java/util/ImmutableCollections" "EMPTY" "Ljava/lang/Object;" (.ref em)) (F_1 : Exa Z h0 a1 "java/util/ImmutableCollections$ListItr") (F_2 : Fld Z h0 a1 "java/util/ImmutableCollections$ListItr" "list" "Ljava/util/List;" (.ref li)) (F_3 : Fld Z h0 a1 "java/util/ImmutableCollections$ListItr" "size" "I" (.int (2 : Int32))) (F_4 : Fld Z h0 a1 "java/util/ImmutableCollections$ListItr" "cursor" "I" (.int (1 : Int32))) (F_5 : Exa Z h0 li "java/util/ImmutableCollections$List12") (F_6 : Fld Z h0 li "java/util/ImmutableCollections$List12" "e0" "Ljava/lang/Object;" (.ref pga)) (F_7 : Fld Z h0 li "java/util/ImmutableCollections$List12" "e1" "Ljava/lang/Object;" (.ref pgb)) :
    CtrX l Z [(0, 24, 25, 30)] (⟨"java/util/ImmutableCollections$ListItr", "next", "()Ljava/lang/Object;"⟩ : MethodName) jdk_53_method_4_code 3 (some (.object "java/lang/Object")) (Rm 1 0 0 13) #[(.ref a1)] h0 (own_Q66 Z a1 li pga pgb em h0 n0) ws := by
  refine MetFree.of_bodySF (plainFor_of_name own_pn16) hisWith ?_
  intro p e s m args below meth c s₁ Bd hml0 hP hK
  obtain ⟨rfl, hZ, hh⟩ := hP
  have hx := Bd.exec
  have hby := Bd.bytes
  have hlk : meth.locks = false := Bd.notSynchronized
  have hml : c.maxLocals = 3 := hml0
  have hown : s.vm.findClass "java/util/ImmutableCollections$ListItr" = some m.cls := findClass_of_methodNamed Bd.named
  have hnm := (name_of_methodNamed Bd.named Bd.method).1
  have X0 : Stand p l e (Rm 1 0 0 13) s m #[(.ref a1)] below meth c s₁ [] 0 0 := Stand.of_body Bd
  have e0 : s₁.heap = h0 := by rw [← hh, Bd.state]; rfl
  have N0 := Fr.nil n0
  show Goes p.tables e below (fun t o => ∃ v L, o = .returned v ∧ (own_Q66 Z a1 li pga pgb em h0 n0) v t.heap L ∧ FrameEnd s o t L ((Rm 1 0 0 13)).cells ((Rm 1 0 0 13)).slots) _
  refine Goes.via (B := s₁.setTop (mkF m 0 #[rv a1, u_, u_] [])) (fun t k => castTop (own_ef66 m a1) k) ?_
  refine Gv s₁ 1 [(.ref a1)] (fun t k => XS.aloadN X0.here hx rfl (hb hby d_jdk_53_4_0) rfl rfl k) ?_
  obtain ⟨T1, X1, e1, st1⟩ := getF X0 hx hZ hown (host := "") (Or.inl (W_ hw 245 rfl)) Via.refl e0 F_4 (g := (mkF m 1 #[rv a1, u_, u_] [(.ref a1)])) rfl rfl (hb hby d_jdk_53_4_1)
  refine Goes.via (B := T1.setTop (mkF m 4 #[rv a1, u_, u_] [(.int (1 : Int32))])) (fun t k => st1 _ k) ?_
  refine Gv T1 5 [] (fun t k => XS.istoreN X1.here hx rfl (hb hby d_jdk_53_4_4) rfl (l' := #[rv a1, iv (1 : Int32), u_]) rfl k) ?_
  refine Gv T1 6 [(.ref a1)] (fun t k => XS.aloadN X1.here hx rfl (hb hby d_jdk_53_4_5) rfl rfl k) ?_
  obtain ⟨T2, X2, e2, st2⟩ := getF X1 hx hZ hown (host := "") (Or.inl (W_ hw 241 rfl)) Via.refl e1 F_2 (g := (mkF m 6 #[rv a1, iv (1 : Int32), u_] [(.ref a1)])) rfl rfl (hb hby d_jdk_53_4_6)
  refine Goes.via (B := T2.setTop (mkF m 9 #[rv a1, iv (1 : Int32), u_] [(.ref li)])) (fun t k => st2 _ k) ?_
  refine Gv T2 10 [(.int (1 : Int32)), (.ref li)] (fun t k => XS.iloadN X2.here hx rfl (hb hby d_jdk_53_4_9) rfl k) ?_
  obtain ⟨_, T3, L3, X3, ⟨rfl, M3, K3⟩, st3⟩ := callFace X2 hx hZ hown (W_ hw 266 rfl) (W_ hw 267 rfl) (mvT hZ (W_ hw 268 rfl)) (W_ hw 342 rfl) (W_ hw 343 rfl) (W_ hw 344 rfl) (W_ hw 345 rfl) (W_ hw 338 rfl) (W_ hw 321 rfl) (W_ hw 346 rfl) (by decide) (argsL := [(.int (1 : Int32))]) (rest := []) (own_m55 l Z a0 hw [] li pga pgb em h0 n0 O0 hne O_1 F_5 F_6 F_7) e2 F_5 (lenOf own_pd18 rfl) (pc := 10) (Ls := #[rv a1, iv (1 : Int32), u_]) (st := [(.int (1 : Int32)), (.ref li)]) rfl (by rw [hml]; rfl) (hb hby d_jdk_53_4_10) (W := 0) (Nat.le_of_eq rfl) (by decide) (by decide) (by decide) (by decide)
  have N3 := Fr.app N0 M3
  refine Goes.via (B := T3.setTop (mkF m 15 #[rv a1, iv (1 : Int32), u_] [(.ref pgb)])) (fun t k => st3 _ k) ?_
  refine Gv T3 16 [] (fun t k => XS.astoreN X3.here hx rfl (hb hby d_jdk_53_4_15) rfl rfl (l' := #[rv a1, iv (1 : Int32), rv pgb]) rfl k) ?_
  refine Gv T3 17 [(.ref a1)] (fun t k => XS.aloadN X3.here hx rfl (hb hby d_jdk_53_4_16) rfl rfl k) ?_
  refine Gv T3 18 [(.int (1 : Int32)), (.ref a1)] (fun t k => XS.iloadN X3.here hx rfl (hb hby d_jdk_53_4_17) rfl k) ?_
  refine Gv T3 19 [(.int (1 : Int32)), (.int (1 : Int32)), (.ref a1)] (fun t k => XS.iconst X3.here hx rfl (hb hby d_jdk_53_4_18) k) ?_
  refine Gv T3 20 [(.int ((1 : Int32) + (1 : Int32))), (.ref a1)] (fun t k => XS.iadd X3.here hx rfl (hb hby d_jdk_53_4_19) rfl k) ?_
  have q4 : ((1 : Int32) + (1 : Int32)) = (2 : Int32) := rfl
  rw [q4]
  obtain ⟨T5, h5, X5, e5, W5, st5⟩ := putF X3 hx hZ hown (host := "") (Or.inl (W_ hw 245 rfl)) Via.refl K3 F_4 F_1 (Or.inl (W_ hw 246 rfl)) (W_ hw 228 rfl) (ty := .int) (by decide) rfl rfl (g := (mkF m 20 #[rv a1, iv (1 : Int32), rv pgb] [(.int (2 : Int32)), (.ref a1)])) rfl rfl (hb hby d_jdk_53_4_20)
  have N5 := Fr.snoc X5 N3 gn_a1
  refine Goes.via (B := T5.setTop (mkF m 23 #[rv a1, iv (1 : Int32), rv pgb] [])) (fun t k => st5 _ k) ?_
  refine Gv T5 24 [(.ref pgb)] (fun t k => XS.aloadN X5.here hx rfl (hb hby d_jdk_53_4_23) rfl rfl k) ?_
  have c6 : Fld Z h5 a1 "java/util/ImmutableCollections$ListItr" "list" "Ljava/util/List;" (.ref li) := (Fld.other W5 F_2 (Or.inr (slot_ne (Or.inr (W_ hw 242 rfl)) (Or.inl (W_ hw 246 rfl)) (by decide) (t := (.object "java/util/List")) (t' := .int) (by decide) (by decide))))
  have c7 : Fld Z h5 a1 "java/util/ImmutableCollections$ListItr" "size" "I" (.int (2 : Int32)) := (Fld.other W5 F_3 (Or.inr (slot_ne (Or.inr (W_ hw 244 rfl)) (Or.inl (W_ hw 246 rfl)) (by decide) (t := .int) (t' := .int) (by decide) (by decide))))
  exact finA (Q := (own_Q66 Z a1 li pga pgb em h0 n0)) (F := FrameEnd) (C := ((Rm 1 0 0 13)).cells) (S := ((Rm 1 0 0 13)).slots) X5 hx Bd.returns rfl rfl rfl (hb hby d_jdk_53_4_24) e5 ⟨rfl, N5, ((Keep.refl h0 [a1]).wr W5 (Or.inl (List.mem_of_getElem? (i := 0) rfl))), (Exa.wr W5 F_1), c6, c7, (Fld.same W5 F_4)⟩ (lvN X5 hlk (by decide) (by decide))
theorem own_ef67 (m : MethodId) (x0 : Addr)  : entryFrame m #[(.ref x0)] 3 = mkF m 0 #[rv x0, u_, u_] [] := by first | (simp [entryFrame, mkF, argsToLocals, Value.category]; done) | rfl
abbrev own_Q67 (Z : State) (a1 : Addr) (li : Addr) (pga : Addr) (pgb : Addr) (pgc : Addr) (ar : Addr) (ka : ClassId) (h0 : Heap) (n0 : Nat) (v : Option Value) (h : Heap) (L : List Loc) : Prop := v = some (.ref pga) ∧ Fr n0 L ∧ Keep h0 h [a1] ∧ Exa Z h a1 "java/util/ImmutableCollections$ListItr" ∧ Fld Z h a1 "java/util/ImmutableCollections$ListItr" "list" "Ljava/util/List;" (.ref li) ∧ Fld Z h a1 "java/util/ImmutableCollections$ListItr" "size" "I" (.int (3 : Int32)) ∧ Fld Z h a1 "java/util/ImmutableCollections$ListItr" "cursor" "I" (.int (1 : Int32))
set_option maxRecDepth 65536 in
set_option maxHeartbeats 40000000 in
theorem own_m67 (l : Launch) (Z : State) (a0 : Array Value) (hw : ∀ d ∈ tables_1, d.before a0 Z = true) (ws : List Jvm.Cond) (a1 : Addr) (li : Addr) (pga : Addr) (pgb : Addr) (pgc : Addr) (ar : Addr) (ka : ClassId) (h0 : Heap) (n0 : Nat) (O0 : Old Z n0 h0) (gn_a1 : n0 ≤ a1) (F_1 : Exa Z h0 a1 "java/util/ImmutableCollections$ListItr") (F_2 : Fld Z h0 a1 "java/util/ImmutableCollections$ListItr" "list" "Ljava/util/List;" (.ref li)) (F_3 : Fld Z h0 a1 "java/util/ImmutableCollections$ListItr" "size" "I" (.int (3 : Int32))) (F_4 : Fld Z h0 a1 "java/util/ImmutableCollections$ListItr" "cursor" "I" (.int (0 : Int32))) (F_5 : Exa Z h0 li "java/util/ImmutableCollections$ListN") (F_6 : Fld Z h0 li "java/util/ImmutableCollections$ListN" "elements" "[Ljava/lang/Object;" (.ref ar)) (F_7 : Arv Z h0 ar ka (.object "java/lang/Object") (3 : Int32) [(.ref pga), (.ref pgb), (.ref pgc)] .null) :
    CtrX l Z [(0, 24, 25, 30)] (⟨"java/util/ImmutableCollections$ListItr", "next", "()Ljava/lang/Object;"⟩ : MethodName) jdk_53_method_4_code 3 (some (.object "java/lang/Object")) (Rm 1 0 0 13) #[(.ref a1)] h0 (own_Q67 Z a1 li pga pgb pgc ar ka h0 n0) ws := by
  refine MetFree.of_bodySF (plainFor_of_name own_pn16) hisWith ?_
  intro p e s m args below meth c s₁ Bd hml0 hP hK
  obtain ⟨rfl, hZ, hh⟩ := hP
  have hx := Bd.exec
  have hby := Bd.bytes
  have hlk : meth.locks = false := Bd.notSynchronized
  have hml : c.maxLocals = 3 := hml0
  have hown : s.vm.findClass "java/util/ImmutableCollections$ListItr" = some m.cls := findClass_of_methodNamed Bd.named
  have hnm := (name_of_methodNamed Bd.named Bd.method).1
  have X0 : Stand p l e (Rm 1 0 0 13) s m #[(.ref a1)] below meth c s₁ [] 0 0 := Stand.of_body Bd
  have e0 : s₁.heap = h0 := by rw [← hh, Bd.state]; rfl
  have N0 := Fr.nil n0
  show Goes p.tables e below (fun t o => ∃ v L, o = .returned v ∧ (own_Q67 Z a1 li pga pgb pgc ar ka h0 n0) v t.heap L ∧ FrameEnd s o t L ((Rm 1 0 0 13)).cells ((Rm 1 0 0 13)).slots) _
  refine Goes.via (B := s₁.setTop (mkF m 0 #[rv a1, u_, u_] [])) (fun t k => castTop (own_ef67 m a1) k) ?_
  refine Gv s₁ 1 [(.ref a1)] (fun t k => XS.aloadN X0.here hx rfl (hb hby d_jdk_53_4_0) rfl rfl k) ?_
  obtain ⟨T1, X1, e1, st1⟩ := getF X0 hx hZ hown (host := "") (Or.inl (W_ hw 245 rfl)) Via.refl e0 F_4 (g := (mkF m 1 #[rv a1, u_, u_] [(.ref a1)])) rfl rfl (hb hby d_jdk_53_4_1)
  refine Goes.via (B := T1.setTop (mkF m 4 #[rv a1, u_, u_] [(.int (0 : Int32))])) (fun t k => st1 _ k) ?_
  refine Gv T1 5 [] (fun t k => XS.istoreN X1.here hx rfl (hb hby d_jdk_53_4_4) rfl (l' := #[rv a1, iv (0 : Int32), u_]) rfl k) ?_
  refine Gv T1 6 [(.ref a1)] (fun t k => XS.aloadN X1.here hx rfl (hb hby d_jdk_53_4_5) rfl rfl k) ?_
  obtain ⟨T2, X2, e2, st2⟩ := getF X1 hx hZ hown (host := "") (Or.inl (W_ hw 241 rfl)) Via.refl e1 F_2 (g := (mkF m 6 #[rv a1, iv (0 : Int32), u_] [(.ref a1)])) rfl rfl (hb hby d_jdk_53_4_6)
  refine Goes.via (B := T2.setTop (mkF m 9 #[rv a1, iv (0 : Int32), u_] [(.ref li)])) (fun t k => st2 _ k) ?_
  refine Gv T2 10 [(.int (0 : Int32)), (.ref li)] (fun t k => XS.iloadN X2.here hx rfl (hb hby d_jdk_53_4_9) rfl k) ?_
  obtain ⟨_, T3, L3, X3, ⟨rfl, M3, K3⟩, st3⟩ := callFace X2 hx hZ hown (W_ hw 266 rfl) (W_ hw 267 rfl) (mvT hZ (W_ hw 268 rfl)) (W_ hw 269 rfl) (W_ hw 270 rfl) (W_ hw 271 rfl) (W_ hw 272 rfl) (W_ hw 225 rfl) (W_ hw 188 rfl) (W_ hw 273 rfl) (by decide) (argsL := [(.int (0 : Int32))]) (rest := []) (own_m56 l Z a0 hw [] li pga pgb pgc ar ka h0 n0 O0 F_5 F_6 F_7) e2 F_5 (lenOf own_pd18 rfl) (pc := 10) (Ls := #[rv a1, iv (0 : Int32), u_]) (st := [(.int (0 : Int32)), (.ref li)]) rfl (by rw [hml]; rfl) (hb hby d_jdk_53_4_10) (W := 0) (Nat.le_of_eq rfl) (by decide) (by decide) (by decide) (by decide)
  have N3 := Fr.app N0 M3
  refine Goes.via (B := T3.setTop (mkF m 15 #[rv a1, iv (0 : Int32), u_] [(.ref pga)])) (fun t k => st3 _ k) ?_
  refine Gv T3 16 [] (fun t k => XS.astoreN X3.here hx rfl (hb hby d_jdk_53_4_15) rfl rfl (l' := #[rv a1, iv (0 : Int32), rv pga]) rfl k) ?_
  refine Gv T3 17 [(.ref a1)] (fun t k => XS.aloadN X3.here hx rfl (hb hby d_jdk_53_4_16) rfl rfl k) ?_
  refine Gv T3 18 [(.int (0 : Int32)), (.ref a1)] (fun t k => XS.iloadN X3.here hx rfl (hb hby d_jdk_53_4_17) rfl k) ?_
  refine Gv T3 19 [(.int (1 : Int32)), (.int (0 : Int32)), (.ref a1)] (fun t k => XS.iconst X3.here hx rfl (hb hby d_jdk_53_4_18) k) ?_
  refine Gv T3 20 [(.int ((0 : Int32) + (1 : Int32))), (.ref a1)] (fun t k => XS.iadd X3.here hx rfl (hb hby d_jdk_53_4_19) rfl k) ?_
  have q4 : ((0 : Int32) + (1 : Int32)) = (1 : Int32) := rfl
  rw [q4]
  obtain ⟨T5, h5, X5, e5, W5, st5⟩ := putF X3 hx hZ hown (host := "") (Or.inl (W_ hw 245 rfl)) Via.refl K3 F_4 F_1 (Or.inl (W_ hw 246 rfl)) (W_ hw 228 rfl) (ty := .int) (by decide) rfl rfl (g := (mkF m 20 #[rv a1, iv (0 : Int32), rv pga] [(.int (1 : Int32)), (.ref a1)])) rfl rfl (hb hby d_jdk_53_4_20)
  have N5 := Fr.snoc X5 N3 gn_a1
  refine Goes.via (B := T5.setTop (mkF m 23 #[rv a1, iv (0 : Int32), rv pga] [])) (fun t k => st5 _ k) ?_
  refine Gv T5 24 [(.ref pga)] (fun t k => XS.aloadN X5.here hx rfl (hb hby d_jdk_53_4_23) rfl rfl k) ?_
  have c6 : Fld Z h5 a1 "java/util/ImmutableCollections$ListItr" "list" "Ljava/util/List;" (.ref li) := (Fld.other W5 F_2 (Or.inr (slot_ne (Or.inr (W_ hw 242 rfl)) (Or.inl (W_ hw 246 rfl)) (by decide) (t := (.object "java/util/List")) (t' := .int) (by decide) (by decide))))
  have c7 : Fld Z h5 a1 "java/util/ImmutableCollections$ListItr" "size" "I" (.int (3 : Int32)) := (Fld.other W5 F_3 (Or.inr (slot_ne (Or.inr (W_ hw 244 rfl)) (Or.inl (W_ hw 246 rfl)) (by decide) (t := .int) (t' := .int) (by decide) (by decide))))
  exact finA (Q := (own_Q67 Z a1 li pga pgb pgc ar ka h0 n0)) (F := FrameEnd) (C := ((Rm 1 0 0 13)).cells) (S := ((Rm 1 0 0 13)).slots) X5 hx Bd.returns rfl rfl rfl (hb hby d_jdk_53_4_24) e5 ⟨rfl, N5, ((Keep.refl h0 [a1]).wr W5 (Or.inl (List.mem_of_getElem? (i := 0) rfl))), (Exa.wr W5 F_1), c6, c7, (Fld.same W5 F_4)⟩ (lvN X5 hlk (by decide) (by decide))
theorem own_ef68 (m : MethodId) (x0 : Addr)  : entryFrame m #[(.ref x0)] 3 = mkF m 0 #[rv x0, u_, u_] [] := by first | (simp [entryFrame, mkF, argsToLocals, Value.category]; done) | rfl
abbrev own_Q68 (Z : State) (a1 : Addr) (li : Addr) (pga : Addr) (pgb : Addr) (pgc : Addr) (ar : Addr) (ka : ClassId) (h0 : Heap) (n0 : Nat) (v : Option Value) (h : Heap) (L : List Loc) : Prop := v = some (.ref pgb) ∧ Fr n0 L ∧ Keep h0 h [a1] ∧ Exa Z h a1 "java/util/ImmutableCollections$ListItr" ∧ Fld Z h a1 "java/util/ImmutableCollections$ListItr" "list" "Ljava/util/List;" (.ref li) ∧ Fld Z h a1 "java/util/ImmutableCollections$ListItr" "size" "I" (.int (3 : Int32)) ∧ Fld Z h a1 "java/util/ImmutableCollections$ListItr" "cursor" "I" (.int (2 : Int32))
set_option maxRecDepth 65536 in
set_option maxHeartbeats 40000000 in
theorem own_m68 (l : Launch) (Z : State) (a0 : Array Value) (hw : ∀ d ∈ tables_1, d.before a0 Z = true) (ws : List Jvm.Cond) (a1 : Addr) (li : Addr) (pga : Addr) (pgb : Addr) (pgc : Addr) (ar : Addr) (ka : ClassId) (h0 : Heap) (n0 : Nat) (O0 : Old Z n0 h0) (gn_a1 : n0 ≤ a1) (F_1 : Exa Z h0 a1 "java/util/ImmutableCollections$ListItr") (F_2 : Fld Z h0 a1 "java/util/ImmutableCollections$ListItr" "list" "Ljava/util/List;" (.ref li)) (F_3 : Fld Z h0 a1 "java/util/ImmutableCollections$ListItr" "size" "I" (.int (3 : Int32))) (F_4 : Fld Z h0 a1 "java/util/ImmutableCollections$ListItr" "cursor" "I" (.int (1 : Int32))) (F_5 : Exa Z h0 li "java/util/ImmutableCollections$ListN") (F_6 : Fld Z h0 li "java/util/ImmutableCollections$ListN" "elements" "[Ljava/lang/Object;" (.ref ar)) (F_7 : Arv Z h0 ar ka (.object "java/lang/Object") (3 : Int32) [(.ref pga), (.ref pgb), (.ref pgc)] .null) :
    CtrX l Z [(0, 24, 25, 30)] (⟨"java/util/ImmutableCollections$ListItr", "next", "()Ljava/lang/Object;"⟩ : MethodName) jdk_53_method_4_code 3 (some (.object "java/lang/Object")) (Rm 1 0 0 13) #[(.ref a1)] h0 (own_Q68 Z a1 li pga pgb pgc ar ka h0 n0) ws := by
  refine MetFree.of_bodySF (plainFor_of_name own_pn16) hisWith ?_
  intro p e s m args below meth c s₁ Bd hml0 hP hK
  obtain ⟨rfl, hZ, hh⟩ := hP
  have hx := Bd.exec
  have hby := Bd.bytes
  have hlk : meth.locks = false := Bd.notSynchronized
  have hml : c.maxLocals = 3 := hml0
  have hown : s.vm.findClass "java/util/ImmutableCollections$ListItr" = some m.cls := findClass_of_methodNamed Bd.named
  have hnm := (name_of_methodNamed Bd.named Bd.method).1
  have X0 : Stand p l e (Rm 1 0 0 13) s m #[(.ref a1)] below meth c s₁ [] 0 0 := Stand.of_body Bd
  have e0 : s₁.heap = h0 := by rw [← hh, Bd.state]; rfl
  have N0 := Fr.nil n0
  show Goes p.tables e below (fun t o => ∃ v L, o = .returned v ∧ (own_Q68 Z a1 li pga pgb pgc ar ka h0 n0) v t.heap L ∧ FrameEnd s o t L ((Rm 1 0 0 13)).cells ((Rm 1 0 0 13)).slots) _
  refine Goes.via (B := s₁.setTop (mkF m 0 #[rv a1, u_, u_] [])) (fun t k => castTop (own_ef68 m a1) k) ?_
  refine Gv s₁ 1 [(.ref a1)] (fun t k => XS.aloadN X0.here hx rfl (hb hby d_jdk_53_4_0) rfl rfl k) ?_
  obtain ⟨T1, X1, e1, st1⟩ := getF X0 hx hZ hown (host := "") (Or.inl (W_ hw 245 rfl)) Via.refl e0 F_4 (g := (mkF m 1 #[rv a1, u_, u_] [(.ref a1)])) rfl rfl (hb hby d_jdk_53_4_1)
  refine Goes.via (B := T1.setTop (mkF m 4 #[rv a1, u_, u_] [(.int (1 : Int32))])) (fun t k => st1 _ k) ?_
  refine Gv T1 5 [] (fun t k => XS.istoreN X1.here hx rfl (hb hby d_jdk_53_4_4) rfl (l' := #[rv a1, iv (1 : Int32), u_]) rfl k) ?_
  refine Gv T1 6 [(.ref a1)] (fun t k => XS.aloadN X1.here hx rfl (hb hby d_jdk_53_4_5) rfl rfl k) ?_
  obtain ⟨T2, X2, e2, st2⟩ := getF X1 hx hZ hown (host := "") (Or.inl (W_ hw 241 rfl)) Via.refl e1 F_2 (g := (mkF m 6 #[rv a1, iv (1 : Int32), u_] [(.ref a1)])) rfl rfl (hb hby d_jdk_53_4_6)
  refine Goes.via (B := T2.setTop (mkF m 9 #[rv a1, iv (1 : Int32), u_] [(.ref li)])) (fun t k => st2 _ k) ?_
  refine Gv T2 10 [(.int (1 : Int32)), (.ref li)] (fun t k => XS.iloadN X2.here hx rfl (hb hby d_jdk_53_4_9) rfl k) ?_
  obtain ⟨_, T3, L3, X3, ⟨rfl, M3, K3⟩, st3⟩ := callFace X2 hx hZ hown (W_ hw 266 rfl) (W_ hw 267 rfl) (mvT hZ (W_ hw 268 rfl)) (W_ hw 269 rfl) (W_ hw 270 rfl) (W_ hw 271 rfl) (W_ hw 272 rfl) (W_ hw 225 rfl) (W_ hw 188 rfl) (W_ hw 273 rfl) (by decide) (argsL := [(.int (1 : Int32))]) (rest := []) (own_m57 l Z a0 hw [] li pga pgb pgc ar ka h0 n0 O0 F_5 F_6 F_7) e2 F_5 (lenOf own_pd18 rfl) (pc := 10) (Ls := #[rv a1, iv (1 : Int32), u_]) (st := [(.int (1 : Int32)), (.ref li)]) rfl (by rw [hml]; rfl) (hb hby d_jdk_53_4_10) (W := 0) (Nat.le_of_eq rfl) (by decide) (by decide) (by decide) (by decide)
  have N3 := Fr.app N0 M3
  refine Goes.via (B := T3.setTop (mkF m 15 #[rv a1, iv (1 : Int32), u_] [(.ref pgb)])) (fun t k => st3 _ k) ?_
  refine Gv T3 16 [] (fun t k => XS.astoreN X3.here hx rfl (hb hby d_jdk_53_4_15) rfl rfl (l' := #[rv a1, iv (1 : Int32), rv pgb]) rfl k) ?_
  refine Gv T3 17 [(.ref a1)] (fun t k => XS.aloadN X3.here hx rfl (hb hby d_jdk_53_4_16) rfl rfl k) ?_
  refine Gv T3 18 [(.int (1 : Int32)), (.ref a1)] (fun t k => XS.iloadN X3.here hx rfl (hb hby d_jdk_53_4_17) rfl k) ?_
  refine Gv T3 19 [(.int (1 : Int32)), (.int (1 : Int32)), (.ref a1)] (fun t k => XS.iconst X3.here hx rfl (hb hby d_jdk_53_4_18) k) ?_
  refine Gv T3 20 [(.int ((1 : Int32) + (1 : Int32))), (.ref a1)] (fun t k => XS.iadd X3.here hx rfl (hb hby d_jdk_53_4_19) rfl k) ?_
  have q4 : ((1 : Int32) + (1 : Int32)) = (2 : Int32) := rfl
  rw [q4]
  obtain ⟨T5, h5, X5, e5, W5, st5⟩ := putF X3 hx hZ hown (host := "") (Or.inl (W_ hw 245 rfl)) Via.refl K3 F_4 F_1 (Or.inl (W_ hw 246 rfl)) (W_ hw 228 rfl) (ty := .int) (by decide) rfl rfl (g := (mkF m 20 #[rv a1, iv (1 : Int32), rv pgb] [(.int (2 : Int32)), (.ref a1)])) rfl rfl (hb hby d_jdk_53_4_20)
  have N5 := Fr.snoc X5 N3 gn_a1
  refine Goes.via (B := T5.setTop (mkF m 23 #[rv a1, iv (1 : Int32), rv pgb] [])) (fun t k => st5 _ k) ?_
  refine Gv T5 24 [(.ref pgb)] (fun t k => XS.aloadN X5.here hx rfl (hb hby d_jdk_53_4_23) rfl rfl k) ?_
  have c6 : Fld Z h5 a1 "java/util/ImmutableCollections$ListItr" "list" "Ljava/util/List;" (.ref li) := (Fld.other W5 F_2 (Or.inr (slot_ne (Or.inr (W_ hw 242 rfl)) (Or.inl (W_ hw 246 rfl)) (by decide) (t := (.object "java/util/List")) (t' := .int) (by decide) (by decide))))
  have c7 : Fld Z h5 a1 "java/util/ImmutableCollections$ListItr" "size" "I" (.int (3 : Int32)) := (Fld.other W5 F_3 (Or.inr (slot_ne (Or.inr (W_ hw 244 rfl)) (Or.inl (W_ hw 246 rfl)) (by decide) (t := .int) (t' := .int) (by decide) (by decide))))
  exact finA (Q := (own_Q68 Z a1 li pga pgb pgc ar ka h0 n0)) (F := FrameEnd) (C := ((Rm 1 0 0 13)).cells) (S := ((Rm 1 0 0 13)).slots) X5 hx Bd.returns rfl rfl rfl (hb hby d_jdk_53_4_24) e5 ⟨rfl, N5, ((Keep.refl h0 [a1]).wr W5 (Or.inl (List.mem_of_getElem? (i := 0) rfl))), (Exa.wr W5 F_1), c6, c7, (Fld.same W5 F_4)⟩ (lvN X5 hlk (by decide) (by decide))
theorem own_ef69 (m : MethodId) (x0 : Addr)  : entryFrame m #[(.ref x0)] 3 = mkF m 0 #[rv x0, u_, u_] [] := by first | (simp [entryFrame, mkF, argsToLocals, Value.category]; done) | rfl
abbrev own_Q69 (Z : State) (a1 : Addr) (li : Addr) (pga : Addr) (pgb : Addr) (pgc : Addr) (ar : Addr) (ka : ClassId) (h0 : Heap) (n0 : Nat) (v : Option Value) (h : Heap) (L : List Loc) : Prop := v = some (.ref pgc) ∧ Fr n0 L ∧ Keep h0 h [a1] ∧ Exa Z h a1 "java/util/ImmutableCollections$ListItr" ∧ Fld Z h a1 "java/util/ImmutableCollections$ListItr" "list" "Ljava/util/List;" (.ref li) ∧ Fld Z h a1 "java/util/ImmutableCollections$ListItr" "size" "I" (.int (3 : Int32)) ∧ Fld Z h a1 "java/util/ImmutableCollections$ListItr" "cursor" "I" (.int (3 : Int32))
set_option maxRecDepth 65536 in
set_option maxHeartbeats 40000000 in
theorem own_m69 (l : Launch) (Z : State) (a0 : Array Value) (hw : ∀ d ∈ tables_1, d.before a0 Z = true) (ws : List Jvm.Cond) (a1 : Addr) (li : Addr) (pga : Addr) (pgb : Addr) (pgc : Addr) (ar : Addr) (ka : ClassId) (h0 : Heap) (n0 : Nat) (O0 : Old Z n0 h0) (gn_a1 : n0 ≤ a1) (F_1 : Exa Z h0 a1 "java/util/ImmutableCollections$ListItr") (F_2 : Fld Z h0 a1 "java/util/ImmutableCollections$ListItr" "list" "Ljava/util/List;" (.ref li)) (F_3 : Fld Z h0 a1 "java/util/ImmutableCollections$ListItr" "size" "I" (.int (3 : Int32))) (F_4 : Fld Z h0 a1 "java/util/ImmutableCollections$ListItr" "cursor" "I" (.int (2 : Int32))) (F_5 : Exa Z h0 li "java/util/ImmutableCollections$ListN") (F_6 : Fld Z h0 li "java/util/ImmutableCollections$ListN" "elements" "[Ljava/lang/Object;" (.ref ar)) (F_7 : Arv Z h0 ar ka (.object "java/lang/Object") (3 : Int32) [(.ref pga), (.ref pgb), (.ref pgc)] .null) :
    CtrX l Z [(0, 24, 25, 30)] (⟨"java/util/ImmutableCollections$ListItr", "next", "()Ljava/lang/Object;"⟩ : MethodName) jdk_53_method_4_code 3 (some (.object "java/lang/Object")) (Rm 1 0 0 13) #[(.ref a1)] h0 (own_Q69 Z a1 li pga pgb pgc ar ka h0 n0) ws := by
  refine MetFree.of_bodySF (plainFor_of_name own_pn16) hisWith ?_
  intro p e s m args below meth c s₁ Bd hml0 hP hK
  obtain ⟨rfl, hZ, hh⟩ := hP
  have hx := Bd.exec
  have hby := Bd.bytes
  have hlk : meth.locks = false := Bd.notSynchronized
  have hml : c.maxLocals = 3 := hml0
  have hown : s.vm.findClass "java/util/ImmutableCollections$ListItr" = some m.cls := findClass_of_methodNamed Bd.named
  have hnm := (name_of_methodNamed Bd.named Bd.method).1
  have X0 : Stand p l e (Rm 1 0 0 13) s m #[(.ref a1)] below meth c s₁ [] 0 0 := Stand.of_body Bd
  have e0 : s₁.heap = h0 := by rw [← hh, Bd.state]; rfl
  have N0 := Fr.nil n0
  show Goes p.tables e below (fun t o => ∃ v L, o = .returned v ∧ (own_Q69 Z a1 li pga pgb pgc ar ka h0 n0) v t.heap L ∧ FrameEnd s o t L ((Rm 1 0 0 13)).cells ((Rm 1 0 0 13)).slots) _
  refine Goes.via (B := s₁.setTop (mkF m 0 #[rv a1, u_, u_] [])) (fun t k => castTop (own_ef69 m a1) k) ?_
  refine Gv s₁ 1 [(.ref a1)] (fun t k => XS.aloadN X0.here hx rfl (hb hby d_jdk_53_4_0) rfl rfl k) ?_
  obtain ⟨T1, X1, e1, st1⟩ := getF X0 hx hZ hown (host := "") (Or.inl (W_ hw 245 rfl)) Via.refl e0 F_4 (g := (mkF m 1 #[rv a1, u_, u_] [(.ref a1)])) rfl rfl (hb hby d_jdk_53_4_1)
  refine Goes.via (B := T1.setTop (mkF m 4 #[rv a1, u_, u_] [(.int (2 : Int32))])) (fun t k => st1 _ k) ?_
  refine Gv T1 5 [] (fun t k => XS.istoreN X1.here hx rfl (hb hby d_jdk_53_4_4) rfl (l' := #[rv a1, iv (2 : Int32), u_]) rfl k) ?_
  refine Gv T1 6 [(.ref a1)] (fun t k => XS.aloadN X1.here hx rfl (hb hby d_jdk_53_4_5) rfl rfl k) ?_
  obtain ⟨T2, X2, e2, st2⟩ := getF X1 hx hZ hown (host := "") (Or.inl (W_ hw 241 rfl)) Via.refl e1 F_2 (g := (mkF m 6 #[rv a1, iv (2 : Int32), u_] [(.ref a1)])) rfl rfl (hb hby d_jdk_53_4_6)
  refine Goes.via (B := T2.setTop (mkF m 9 #[rv a1, iv (2 : Int32), u_] [(.ref li)])) (fun t k => st2 _ k) ?_
  refine Gv T2 10 [(.int (2 : Int32)), (.ref li)] (fun t k => XS.iloadN X2.here hx rfl (hb hby d_jdk_53_4_9) rfl k) ?_
  obtain ⟨_, T3, L3, X3, ⟨rfl, M3, K3⟩, st3⟩ := callFace X2 hx hZ hown (W_ hw 266 rfl) (W_ hw 267 rfl) (mvT hZ (W_ hw 268 rfl)) (W_ hw 269 rfl) (W_ hw 270 rfl) (W_ hw 271 rfl) (W_ hw 272 rfl) (W_ hw 225 rfl) (W_ hw 188 rfl) (W_ hw 273 rfl) (by decide) (argsL := [(.int (2 : Int32))]) (rest := []) (own_m58 l Z a0 hw [] li pga pgb pgc ar ka h0 n0 O0 F_5 F_6 F_7) e2 F_5 (lenOf own_pd18 rfl) (pc := 10) (Ls := #[rv a1, iv (2 : Int32), u_]) (st := [(.int (2 : Int32)), (.ref li)]) rfl (by rw [hml]; rfl) (hb hby d_jdk_53_4_10) (W := 0) (Nat.le_of_eq rfl) (by decide) (by decide) (by decide) (by decide)
  have N3 := Fr.app N0 M3
  refine Goes.via (B := T3.setTop (mkF m 15 #[rv a1, iv (2 : Int32), u_] [(.ref pgc)])) (fun t k => st3 _ k) ?_
  refine Gv T3 16 [] (fun t k => XS.astoreN X3.here hx rfl (hb hby d_jdk_53_4_15) rfl rfl (l' := #[rv a1, iv (2 : Int32), rv pgc]) rfl k) ?_
  refine Gv T3 17 [(.ref a1)] (fun t k => XS.aloadN X3.here hx rfl (hb hby d_jdk_53_4_16) rfl rfl k) ?_
  refine Gv T3 18 [(.int (2 : Int32)), (.ref a1)] (fun t k => XS.iloadN X3.here hx rfl (hb hby d_jdk_53_4_17) rfl k) ?_
  refine Gv T3 19 [(.int (1 : Int32)), (.int (2 : Int32)), (.ref a1)] (fun t k => XS.iconst X3.here hx rfl (hb hby d_jdk_53_4_18) k) ?_
  refine Gv T3 20 [(.int ((2 : Int32) + (1 : Int32))), (.ref a1)] (fun t k => XS.iadd X3.here hx rfl (hb hby d_jdk_53_4_19) rfl k) ?_
  have q4 : ((2 : Int32) + (1 : Int32)) = (3 : Int32) := rfl
  rw [q4]
  obtain ⟨T5, h5, X5, e5, W5, st5⟩ := putF X3 hx hZ hown (host := "") (Or.inl (W_ hw 245 rfl)) Via.refl K3 F_4 F_1 (Or.inl (W_ hw 246 rfl)) (W_ hw 228 rfl) (ty := .int) (by decide) rfl rfl (g := (mkF m 20 #[rv a1, iv (2 : Int32), rv pgc] [(.int (3 : Int32)), (.ref a1)])) rfl rfl (hb hby d_jdk_53_4_20)
  have N5 := Fr.snoc X5 N3 gn_a1
  refine Goes.via (B := T5.setTop (mkF m 23 #[rv a1, iv (2 : Int32), rv pgc] [])) (fun t k => st5 _ k) ?_
  refine Gv T5 24 [(.ref pgc)] (fun t k => XS.aloadN X5.here hx rfl (hb hby d_jdk_53_4_23) rfl rfl k) ?_
  have c6 : Fld Z h5 a1 "java/util/ImmutableCollections$ListItr" "list" "Ljava/util/List;" (.ref li) := (Fld.other W5 F_2 (Or.inr (slot_ne (Or.inr (W_ hw 242 rfl)) (Or.inl (W_ hw 246 rfl)) (by decide) (t := (.object "java/util/List")) (t' := .int) (by decide) (by decide))))
  have c7 : Fld Z h5 a1 "java/util/ImmutableCollections$ListItr" "size" "I" (.int (3 : Int32)) := (Fld.other W5 F_3 (Or.inr (slot_ne (Or.inr (W_ hw 244 rfl)) (Or.inl (W_ hw 246 rfl)) (by decide) (t := .int) (t' := .int) (by decide) (by decide))))
  exact finA (Q := (own_Q69 Z a1 li pga pgb pgc ar ka h0 n0)) (F := FrameEnd) (C := ((Rm 1 0 0 13)).cells) (S := ((Rm 1 0 0 13)).slots) X5 hx Bd.returns rfl rfl rfl (hb hby d_jdk_53_4_24) e5 ⟨rfl, N5, ((Keep.refl h0 [a1]).wr W5 (Or.inl (List.mem_of_getElem? (i := 0) rfl))), (Exa.wr W5 F_1), c6, c7, (Fld.same W5 F_4)⟩ (lvN X5 hlk (by decide) (by decide))
theorem d_prog_20_6_0 : decode prog_20_method_6_code 0 = .ok (.aload_n 0, 1) := by decide +kernel
theorem d_prog_20_6_1 : decode prog_20_method_6_code 1 = .ok (.getfield 13, 3) := by decide +kernel
theorem d_prog_20_6_4 : decode prog_20_method_6_code 4 = .ok (.areturn, 1) := by decide +kernel
theorem own_ef70 (m : MethodId) (x0 : Addr)  : entryFrame m #[(.ref x0)] 1 = mkF m 0 #[rv x0] [] := by first | (simp [entryFrame, mkF, argsToLocals, Value.category]; done) | rfl
abbrev own_Q70 (Z : State) (a1 : Addr) (a2 : Addr) (h0 : Heap) (n0 : Nat) (v : Option Value) (h : Heap) (L : List Loc) : Prop := v = some (.ref a2) ∧ Fr n0 L ∧ h = h0
set_option maxRecDepth 65536 in
set_option maxHeartbeats 40000000 in
theorem own_m70 (l : Launch) (Z : State) (a0 : Array Value) (hw : ∀ d ∈ tables_1, d.before a0 Z = true) (ws : List Jvm.Cond) (a1 : Addr) (a2 : Addr) (h0 : Heap) (n0 : Nat) (O0 : Old Z n0 h0) (F_1 : Exa Z h0 a1 "com/example/wakenitz/wakenitz/measure/ScoreSheet$PageScore") (F_2 : Fld Z h0 a1 "com/example/wakenitz/wakenitz/measure/ScoreSheet$PageScore" "score" "Lcom/example/wakenitz/wakenitz/measure/Score;" (.ref a2)) :
    Ctr l Z (⟨"com/example/wakenitz/wakenitz/measure/ScoreSheet$PageScore", "score", "()Lcom/example/wakenitz/wakenitz/measure/Score;"⟩ : MethodName) prog_20_method_6_code 1 (some (.object "com/example/wakenitz/wakenitz/measure/Score")) (Rm 0 0 0 0) #[(.ref a1)] h0 (own_Q70 Z a1 a2 h0 n0) ws := by
  refine MetFree.of_bodySF (plainFor_of_name own_pn4) hisR ?_
  intro p e s m args below meth c s₁ Bd hml0 hP hK
  obtain ⟨rfl, hZ, hh⟩ := hP
  have hx := Bd.exec
  have hby := Bd.bytes
  have hlk : meth.locks = false := Bd.notSynchronized
  have hml : c.maxLocals = 1 := hml0
  have hown : s.vm.findClass "com/example/wakenitz/wakenitz/measure/ScoreSheet$PageScore" = some m.cls := findClass_of_methodNamed Bd.named
  have hnm := (name_of_methodNamed Bd.named Bd.method).1
  have X0 : Stand p l e (Rm 0 0 0 0) s m #[(.ref a1)] below meth c s₁ [] 0 0 := Stand.of_body Bd
  have e0 : s₁.heap = h0 := by rw [← hh, Bd.state]; rfl
  have N0 := Fr.nil n0
  show Goes p.tables e below (fun t o => ∃ v L, o = .returned v ∧ (own_Q70 Z a1 a2 h0 n0) v t.heap L ∧ FrameEnd s o t L ((Rm 0 0 0 0)).cells ((Rm 0 0 0 0)).slots) _
  refine Goes.via (B := s₁.setTop (mkF m 0 #[rv a1] [])) (fun t k => castTop (own_ef70 m a1) k) ?_
  refine Gv s₁ 1 [(.ref a1)] (fun t k => XS.aloadN X0.here hx rfl (hb hby d_prog_20_6_0) rfl rfl k) ?_
  obtain ⟨T1, X1, e1, st1⟩ := getF X0 hx hZ hown (host := "") (Or.inl (W_ hw 73 rfl)) Via.refl e0 F_2 (g := (mkF m 1 #[rv a1] [(.ref a1)])) rfl rfl (hb hby d_prog_20_6_1)
  refine Goes.via (B := T1.setTop (mkF m 4 #[rv a1] [(.ref a2)])) (fun t k => st1 _ k) ?_
  exact finA (Q := (own_Q70 Z a1 a2 h0 n0)) (F := FrameEnd) (C := ((Rm 0 0 0 0)).cells) (S := ((Rm 0 0 0 0)).slots) X1 hx Bd.returns rfl rfl rfl (hb hby d_prog_20_6_4) e1 ⟨rfl, N0, rfl⟩ (lvN X1 hlk (by decide) (by decide))
theorem d_prog_18_13_0 : decode prog_18_method_13_code 0 = .ok (.aload_n 0, 1) := by decide +kernel
theorem d_prog_18_13_1 : decode prog_18_method_13_code 1 = .ok (.getfield 7, 3) := by decide +kernel
theorem d_prog_18_13_4 : decode prog_18_method_13_code 4 = .ok (.dreturn, 1) := by decide +kernel
theorem own_ef71 (m : MethodId) (x0 : Addr)  : entryFrame m #[(.ref x0)] 1 = mkF m 0 #[rv x0] [] := by first | (simp [entryFrame, mkF, argsToLocals, Value.category]; done) | rfl
abbrev own_Q71 (Z : State) (a1 : Addr) (dv : UInt64) (h0 : Heap) (n0 : Nat) (v : Option Value) (h : Heap) (L : List Loc) : Prop := v = some (.double dv) ∧ Fr n0 L ∧ h = h0
set_option maxRecDepth 65536 in
set_option maxHeartbeats 40000000 in
theorem own_m71 (l : Launch) (Z : State) (a0 : Array Value) (hw : ∀ d ∈ tables_1, d.before a0 Z = true) (ws : List Jvm.Cond) (a1 : Addr) (dv : UInt64) (h0 : Heap) (n0 : Nat) (O0 : Old Z n0 h0) (F_1 : Exa Z h0 a1 "com/example/wakenitz/wakenitz/measure/Score") (F_2 : Fld Z h0 a1 "com/example/wakenitz/wakenitz/measure/Score" "precision" "D" (.double dv)) :
    Ctr l Z (⟨"com/example/wakenitz/wakenitz/measure/Score", "precision", "()D"⟩ : MethodName) prog_18_method_13_code 1 (some .double) (Rm 0 0 0 0) #[(.ref a1)] h0 (own_Q71 Z a1 dv h0 n0) ws := by
  refine MetFree.of_bodySF (plainFor_of_name own_pn3) hisR ?_
  intro p e s m args below meth c s₁ Bd hml0 hP hK
  obtain ⟨rfl, hZ, hh⟩ := hP
  have hx := Bd.exec
  have hby := Bd.bytes
  have hlk : meth.locks = false := Bd.notSynchronized
  have hml : c.maxLocals = 1 := hml0
  have hown : s.vm.findClass "com/example/wakenitz/wakenitz/measure/Score" = some m.cls := findClass_of_methodNamed Bd.named
  have hnm := (name_of_methodNamed Bd.named Bd.method).1
  have X0 : Stand p l e (Rm 0 0 0 0) s m #[(.ref a1)] below meth c s₁ [] 0 0 := Stand.of_body Bd
  have e0 : s₁.heap = h0 := by rw [← hh, Bd.state]; rfl
  have N0 := Fr.nil n0
  show Goes p.tables e below (fun t o => ∃ v L, o = .returned v ∧ (own_Q71 Z a1 dv h0 n0) v t.heap L ∧ FrameEnd s o t L ((Rm 0 0 0 0)).cells ((Rm 0 0 0 0)).slots) _
  refine Goes.via (B := s₁.setTop (mkF m 0 #[rv a1] [])) (fun t k => castTop (own_ef71 m a1) k) ?_
  refine Gv s₁ 1 [(.ref a1)] (fun t k => XS.aloadN X0.here hx rfl (hb hby d_prog_18_13_0) rfl rfl k) ?_
  obtain ⟨T1, X1, e1, st1⟩ := getF X0 hx hZ hown (host := "") (Or.inl (W_ hw 59 rfl)) Via.refl e0 F_2 (g := (mkF m 1 #[rv a1] [(.ref a1)])) rfl rfl (hb hby d_prog_18_13_1)
  refine Goes.via (B := T1.setTop (mkF m 4 #[rv a1] [(.double dv)])) (fun t k => st1 _ k) ?_
  exact finD (Q := (own_Q71 Z a1 dv h0 n0)) (F := FrameEnd) (C := ((Rm 0 0 0 0)).cells) (S := ((Rm 0 0 0 0)).slots) X1 hx Bd.returns (hb hby d_prog_18_13_4) e1 ⟨rfl, N0, rfl⟩ (lvN X1 hlk (by decide) (by decide))
theorem d_prog_18_14_0 : decode prog_18_method_14_code 0 = .ok (.aload_n 0, 1) := by decide +kernel
theorem d_prog_18_14_1 : decode prog_18_method_14_code 1 = .ok (.getfield 13, 3) := by decide +kernel
theorem d_prog_18_14_4 : decode prog_18_method_14_code 4 = .ok (.dreturn, 1) := by decide +kernel
theorem own_ef72 (m : MethodId) (x0 : Addr)  : entryFrame m #[(.ref x0)] 1 = mkF m 0 #[rv x0] [] := by first | (simp [entryFrame, mkF, argsToLocals, Value.category]; done) | rfl
abbrev own_Q72 (Z : State) (a1 : Addr) (dv : UInt64) (h0 : Heap) (n0 : Nat) (v : Option Value) (h : Heap) (L : List Loc) : Prop := v = some (.double dv) ∧ Fr n0 L ∧ h = h0
set_option maxRecDepth 65536 in
set_option maxHeartbeats 40000000 in
theorem own_m72 (l : Launch) (Z : State) (a0 : Array Value) (hw : ∀ d ∈ tables_1, d.before a0 Z = true) (ws : List Jvm.Cond) (a1 : Addr) (dv : UInt64) (h0 : Heap) (n0 : Nat) (O0 : Old Z n0 h0) (F_1 : Exa Z h0 a1 "com/example/wakenitz/wakenitz/measure/Score") (F_2 : Fld Z h0 a1 "com/example/wakenitz/wakenitz/measure/Score" "recall" "D" (.double dv)) :
    Ctr l Z (⟨"com/example/wakenitz/wakenitz/measure/Score", "recall", "()D"⟩ : MethodName) prog_18_method_14_code 1 (some .double) (Rm 0 0 0 0) #[(.ref a1)] h0 (own_Q72 Z a1 dv h0 n0) ws := by
  refine MetFree.of_bodySF (plainFor_of_name own_pn3) hisR ?_
  intro p e s m args below meth c s₁ Bd hml0 hP hK
  obtain ⟨rfl, hZ, hh⟩ := hP
  have hx := Bd.exec
  have hby := Bd.bytes
  have hlk : meth.locks = false := Bd.notSynchronized
  have hml : c.maxLocals = 1 := hml0
  have hown : s.vm.findClass "com/example/wakenitz/wakenitz/measure/Score" = some m.cls := findClass_of_methodNamed Bd.named
  have hnm := (name_of_methodNamed Bd.named Bd.method).1
  have X0 : Stand p l e (Rm 0 0 0 0) s m #[(.ref a1)] below meth c s₁ [] 0 0 := Stand.of_body Bd
  have e0 : s₁.heap = h0 := by rw [← hh, Bd.state]; rfl
  have N0 := Fr.nil n0
  show Goes p.tables e below (fun t o => ∃ v L, o = .returned v ∧ (own_Q72 Z a1 dv h0 n0) v t.heap L ∧ FrameEnd s o t L ((Rm 0 0 0 0)).cells ((Rm 0 0 0 0)).slots) _
  refine Goes.via (B := s₁.setTop (mkF m 0 #[rv a1] [])) (fun t k => castTop (own_ef72 m a1) k) ?_
  refine Gv s₁ 1 [(.ref a1)] (fun t k => XS.aloadN X0.here hx rfl (hb hby d_prog_18_14_0) rfl rfl k) ?_
  obtain ⟨T1, X1, e1, st1⟩ := getF X0 hx hZ hown (host := "") (Or.inl (W_ hw 61 rfl)) Via.refl e0 F_2 (g := (mkF m 1 #[rv a1] [(.ref a1)])) rfl rfl (hb hby d_prog_18_14_1)
  refine Goes.via (B := T1.setTop (mkF m 4 #[rv a1] [(.double dv)])) (fun t k => st1 _ k) ?_
  exact finD (Q := (own_Q72 Z a1 dv h0 n0)) (F := FrameEnd) (C := ((Rm 0 0 0 0)).cells) (S := ((Rm 0 0 0 0)).slots) X1 hx Bd.returns (hb hby d_prog_18_14_4) e1 ⟨rfl, N0, rfl⟩ (lvN X1 hlk (by decide) (by decide))
theorem d_prog_18_15_0 : decode prog_18_method_15_code 0 = .ok (.aload_n 0, 1) := by decide +kernel
theorem d_prog_18_15_1 : decode prog_18_method_15_code 1 = .ok (.getfield 16, 3) := by decide +kernel
theorem d_prog_18_15_4 : decode prog_18_method_15_code 4 = .ok (.dreturn, 1) := by decide +kernel
theorem own_ef73 (m : MethodId) (x0 : Addr)  : entryFrame m #[(.ref x0)] 1 = mkF m 0 #[rv x0] [] := by first | (simp [entryFrame, mkF, argsToLocals, Value.category]; done) | rfl
abbrev own_Q73 (Z : State) (a1 : Addr) (dv : UInt64) (h0 : Heap) (n0 : Nat) (v : Option Value) (h : Heap) (L : List Loc) : Prop := v = some (.double dv) ∧ Fr n0 L ∧ h = h0
set_option maxRecDepth 65536 in
set_option maxHeartbeats 40000000 in
theorem own_m73 (l : Launch) (Z : State) (a0 : Array Value) (hw : ∀ d ∈ tables_1, d.before a0 Z = true) (ws : List Jvm.Cond) (a1 : Addr) (dv : UInt64) (h0 : Heap) (n0 : Nat) (O0 : Old Z n0 h0) (F_1 : Exa Z h0 a1 "com/example/wakenitz/wakenitz/measure/Score") (F_2 : Fld Z h0 a1 "com/example/wakenitz/wakenitz/measure/Score" "f1" "D" (.double dv)) :
    Ctr l Z (⟨"com/example/wakenitz/wakenitz/measure/Score", "f1", "()D"⟩ : MethodName) prog_18_method_15_code 1 (some .double) (Rm 0 0 0 0) #[(.ref a1)] h0 (own_Q73 Z a1 dv h0 n0) ws := by
  refine MetFree.of_bodySF (plainFor_of_name own_pn3) hisR ?_
  intro p e s m args below meth c s₁ Bd hml0 hP hK
  obtain ⟨rfl, hZ, hh⟩ := hP
  have hx := Bd.exec
  have hby := Bd.bytes
  have hlk : meth.locks = false := Bd.notSynchronized
  have hml : c.maxLocals = 1 := hml0
  have hown : s.vm.findClass "com/example/wakenitz/wakenitz/measure/Score" = some m.cls := findClass_of_methodNamed Bd.named
  have hnm := (name_of_methodNamed Bd.named Bd.method).1
  have X0 : Stand p l e (Rm 0 0 0 0) s m #[(.ref a1)] below meth c s₁ [] 0 0 := Stand.of_body Bd
  have e0 : s₁.heap = h0 := by rw [← hh, Bd.state]; rfl
  have N0 := Fr.nil n0
  show Goes p.tables e below (fun t o => ∃ v L, o = .returned v ∧ (own_Q73 Z a1 dv h0 n0) v t.heap L ∧ FrameEnd s o t L ((Rm 0 0 0 0)).cells ((Rm 0 0 0 0)).slots) _
  refine Goes.via (B := s₁.setTop (mkF m 0 #[rv a1] [])) (fun t k => castTop (own_ef73 m a1) k) ?_
  refine Gv s₁ 1 [(.ref a1)] (fun t k => XS.aloadN X0.here hx rfl (hb hby d_prog_18_15_0) rfl rfl k) ?_
  obtain ⟨T1, X1, e1, st1⟩ := getF X0 hx hZ hown (host := "") (Or.inl (W_ hw 63 rfl)) Via.refl e0 F_2 (g := (mkF m 1 #[rv a1] [(.ref a1)])) rfl rfl (hb hby d_prog_18_15_1)
  refine Goes.via (B := T1.setTop (mkF m 4 #[rv a1] [(.double dv)])) (fun t k => st1 _ k) ?_
  exact finD (Q := (own_Q73 Z a1 dv h0 n0)) (F := FrameEnd) (C := ((Rm 0 0 0 0)).cells) (S := ((Rm 0 0 0 0)).slots) X1 hx Bd.returns (hb hby d_prog_18_15_4) e1 ⟨rfl, N0, rfl⟩ (lvN X1 hlk (by decide) (by decide))
theorem d_prog_18_16_0 : decode prog_18_method_16_code 0 = .ok (.aload_n 0, 1) := by decide +kernel
theorem d_prog_18_16_1 : decode prog_18_method_16_code 1 = .ok (.getfield 19, 3) := by decide +kernel
theorem d_prog_18_16_4 : decode prog_18_method_16_code 4 = .ok (.dreturn, 1) := by decide +kernel
theorem own_ef74 (m : MethodId) (x0 : Addr)  : entryFrame m #[(.ref x0)] 1 = mkF m 0 #[rv x0] [] := by first | (simp [entryFrame, mkF, argsToLocals, Value.category]; done) | rfl
abbrev own_Q74 (Z : State) (a1 : Addr) (dv : UInt64) (h0 : Heap) (n0 : Nat) (v : Option Value) (h : Heap) (L : List Loc) : Prop := v = some (.double dv) ∧ Fr n0 L ∧ h = h0
set_option maxRecDepth 65536 in
set_option maxHeartbeats 40000000 in
theorem own_m74 (l : Launch) (Z : State) (a0 : Array Value) (hw : ∀ d ∈ tables_1, d.before a0 Z = true) (ws : List Jvm.Cond) (a1 : Addr) (dv : UInt64) (h0 : Heap) (n0 : Nat) (O0 : Old Z n0 h0) (F_1 : Exa Z h0 a1 "com/example/wakenitz/wakenitz/measure/Score") (F_2 : Fld Z h0 a1 "com/example/wakenitz/wakenitz/measure/Score" "similarity" "D" (.double dv)) :
    Ctr l Z (⟨"com/example/wakenitz/wakenitz/measure/Score", "similarity", "()D"⟩ : MethodName) prog_18_method_16_code 1 (some .double) (Rm 0 0 0 0) #[(.ref a1)] h0 (own_Q74 Z a1 dv h0 n0) ws := by
  refine MetFree.of_bodySF (plainFor_of_name own_pn3) hisR ?_
  intro p e s m args below meth c s₁ Bd hml0 hP hK
  obtain ⟨rfl, hZ, hh⟩ := hP
  have hx := Bd.exec
  have hby := Bd.bytes
  have hlk : meth.locks = false := Bd.notSynchronized
  have hml : c.maxLocals = 1 := hml0
  have hown : s.vm.findClass "com/example/wakenitz/wakenitz/measure/Score" = some m.cls := findClass_of_methodNamed Bd.named
  have hnm := (name_of_methodNamed Bd.named Bd.method).1
  have X0 : Stand p l e (Rm 0 0 0 0) s m #[(.ref a1)] below meth c s₁ [] 0 0 := Stand.of_body Bd
  have e0 : s₁.heap = h0 := by rw [← hh, Bd.state]; rfl
  have N0 := Fr.nil n0
  show Goes p.tables e below (fun t o => ∃ v L, o = .returned v ∧ (own_Q74 Z a1 dv h0 n0) v t.heap L ∧ FrameEnd s o t L ((Rm 0 0 0 0)).cells ((Rm 0 0 0 0)).slots) _
  refine Goes.via (B := s₁.setTop (mkF m 0 #[rv a1] [])) (fun t k => castTop (own_ef74 m a1) k) ?_
  refine Gv s₁ 1 [(.ref a1)] (fun t k => XS.aloadN X0.here hx rfl (hb hby d_prog_18_16_0) rfl rfl k) ?_
  obtain ⟨T1, X1, e1, st1⟩ := getF X0 hx hZ hown (host := "") (Or.inl (W_ hw 65 rfl)) Via.refl e0 F_2 (g := (mkF m 1 #[rv a1] [(.ref a1)])) rfl rfl (hb hby d_prog_18_16_1)
  refine Goes.via (B := T1.setTop (mkF m 4 #[rv a1] [(.double dv)])) (fun t k => st1 _ k) ?_
  exact finD (Q := (own_Q74 Z a1 dv h0 n0)) (F := FrameEnd) (C := ((Rm 0 0 0 0)).cells) (S := ((Rm 0 0 0 0)).slots) X1 hx Bd.returns (hb hby d_prog_18_16_4) e1 ⟨rfl, N0, rfl⟩ (lvN X1 hlk (by decide) (by decide))
theorem d_prog_19_3_0 : decode prog_19_method_3_code 0 = .ok (.dconst 0, 1) := by decide +kernel
theorem d_prog_19_3_1 : decode prog_19_method_3_code 1 = .ok (.dstore_n 1, 1) := by decide +kernel
theorem d_prog_19_3_2 : decode prog_19_method_3_code 2 = .ok (.dconst 0, 1) := by decide +kernel
theorem d_prog_19_3_3 : decode prog_19_method_3_code 3 = .ok (.dstore_n 3, 1) := by decide +kernel
theorem d_prog_19_3_4 : decode prog_19_method_3_code 4 = .ok (.dconst 0, 1) := by decide +kernel
theorem d_prog_19_3_5 : decode prog_19_method_3_code 5 = .ok (.dstore 5, 2) := by decide +kernel
theorem d_prog_19_3_7 : decode prog_19_method_3_code 7 = .ok (.dconst 0, 1) := by decide +kernel
theorem d_prog_19_3_8 : decode prog_19_method_3_code 8 = .ok (.dstore 7, 2) := by decide +kernel
theorem d_prog_19_3_10 : decode prog_19_method_3_code 10 = .ok (.aload_n 0, 1) := by decide +kernel
theorem d_prog_19_3_11 : decode prog_19_method_3_code 11 = .ok (.getfield 24, 3) := by decide +kernel
theorem d_prog_19_3_14 : decode prog_19_method_3_code 14 = .ok (.invokeinterface 30 1, 5) := by decide +kernel
theorem own_pd19 : parseMethodDescriptor "()Ljava/util/Iterator;" = some ⟨[], some (.object "java/util/Iterator")⟩ := by decide +kernel
theorem d_prog_19_3_19 : decode prog_19_method_3_code 19 = .ok (.astore 9, 2) := by decide +kernel
theorem d_prog_19_3_21 : decode prog_19_method_3_code 21 = .ok (.aload 9, 2) := by decide +kernel
theorem d_prog_19_3_23 : decode prog_19_method_3_code 23 = .ok (.invokeinterface 34 1, 5) := by decide +kernel
theorem d_prog_19_3_28 : decode prog_19_method_3_code 28 = .ok (.ifCond .eq 66, 3) := by decide +kernel
theorem d_prog_19_3_31 : decode prog_19_method_3_code 31 = .ok (.aload 9, 2) := by decide +kernel
theorem d_prog_19_3_33 : decode prog_19_method_3_code 33 = .ok (.invokeinterface 39 1, 5) := by decide +kernel
theorem own_pd20 : parseMethodDescriptor "()Ljava/lang/Object;" = some ⟨[], some (.object "java/lang/Object")⟩ := by decide +kernel
theorem d_prog_19_3_38 : decode prog_19_method_3_code 38 = .ok (.checkcast 43, 3) := by decide +kernel
theorem d_prog_19_3_41 : decode prog_19_method_3_code 41 = .ok (.astore 10, 2) := by decide +kernel
theorem d_prog_19_3_43 : decode prog_19_method_3_code 43 = .ok (.dload_n 1, 1) := by decide +kernel
theorem d_prog_19_3_44 : decode prog_19_method_3_code 44 = .ok (.aload 10, 2) := by decide +kernel
theorem d_prog_19_3_46 : decode prog_19_method_3_code 46 = .ok (.invokevirtual 45, 3) := by decide +kernel
theorem own_pd21 : parseMethodDescriptor "()Lcom/example/wakenitz/wakenitz/measure/Score;" = some ⟨[], some (.object "com/example/wakenitz/wakenitz/measure/Score")⟩ := by decide +kernel
theorem d_prog_19_3_49 : decode prog_19_method_3_code 49 = .ok (.invokevirtual 49, 3) := by decide +kernel
theorem own_pd22 : parseMethodDescriptor "()D" = some ⟨[], some .double⟩ := by decide +kernel
theorem d_prog_19_3_52 : decode prog_19_method_3_code 52 = .ok (.dadd, 1) := by decide +kernel
theorem d_prog_19_3_53 : decode prog_19_method_3_code 53 = .ok (.dstore_n 1, 1) := by decide +kernel
theorem d_prog_19_3_54 : decode prog_19_method_3_code 54 = .ok (.dload_n 3, 1) := by decide +kernel
theorem d_prog_19_3_55 : decode prog_19_method_3_code 55 = .ok (.aload 10, 2) := by decide +kernel
theorem d_prog_19_3_57 : decode prog_19_method_3_code 57 = .ok (.invokevirtual 45, 3) := by decide +kernel
theorem d_prog_19_3_60 : decode prog_19_method_3_code 60 = .ok (.invokevirtual 55, 3) := by decide +kernel
theorem d_prog_19_3_63 : decode prog_19_method_3_code 63 = .ok (.dadd, 1) := by decide +kernel
theorem d_prog_19_3_64 : decode prog_19_method_3_code 64 = .ok (.dstore_n 3, 1) := by decide +kernel
theorem d_prog_19_3_65 : decode prog_19_method_3_code 65 = .ok (.dload 5, 2) := by decide +kernel
theorem d_prog_19_3_67 : decode prog_19_method_3_code 67 = .ok (.aload 10, 2) := by decide +kernel
theorem d_prog_19_3_69 : decode prog_19_method_3_code 69 = .ok (.invokevirtual 45, 3) := by decide +kernel
theorem d_prog_19_3_72 : decode prog_19_method_3_code 72 = .ok (.invokevirtual 58, 3) := by decide +kernel
theorem d_prog_19_3_75 : decode prog_19_method_3_code 75 = .ok (.dadd, 1) := by decide +kernel
theorem d_prog_19_3_76 : decode prog_19_method_3_code 76 = .ok (.dstore 5, 2) := by decide +kernel
theorem d_prog_19_3_78 : decode prog_19_method_3_code 78 = .ok (.dload 7, 2) := by decide +kernel
theorem d_prog_19_3_80 : decode prog_19_method_3_code 80 = .ok (.aload 10, 2) := by decide +kernel
theorem d_prog_19_3_82 : decode prog_19_method_3_code 82 = .ok (.invokevirtual 45, 3) := by decide +kernel
theorem d_prog_19_3_85 : decode prog_19_method_3_code 85 = .ok (.invokevirtual 61, 3) := by decide +kernel
theorem d_prog_19_3_88 : decode prog_19_method_3_code 88 = .ok (.dadd, 1) := by decide +kernel
theorem d_prog_19_3_89 : decode prog_19_method_3_code 89 = .ok (.dstore 7, 2) := by decide +kernel
theorem d_prog_19_3_91 : decode prog_19_method_3_code 91 = .ok (.goto (-70), 3) := by decide +kernel
theorem d_prog_19_3_94 : decode prog_19_method_3_code 94 = .ok (.aload_n 0, 1) := by decide +kernel
theorem d_prog_19_3_95 : decode prog_19_method_3_code 95 = .ok (.getfield 24, 3) := by decide +kernel
theorem d_prog_19_3_98 : decode prog_19_method_3_code 98 = .ok (.invokeinterface 64 1, 5) := by decide +kernel
theorem d_prog_19_3_103 : decode prog_19_method_3_code 103 = .ok (.istore 9, 2) := by decide +kernel
theorem d_prog_19_3_105 : decode prog_19_method_3_code 105 = .ok (.new 50, 3) := by decide +kernel
theorem d_prog_19_3_108 : decode prog_19_method_3_code 108 = .ok (.dup, 1) := by decide +kernel
theorem d_prog_19_3_109 : decode prog_19_method_3_code 109 = .ok (.dload_n 1, 1) := by decide +kernel
theorem d_prog_19_3_110 : decode prog_19_method_3_code 110 = .ok (.iload 9, 2) := by decide +kernel
theorem d_prog_19_3_112 : decode prog_19_method_3_code 112 = .ok (.i2d, 1) := by decide +kernel
theorem d_prog_19_3_113 : decode prog_19_method_3_code 113 = .ok (.ddiv, 1) := by decide +kernel
theorem d_prog_19_3_114 : decode prog_19_method_3_code 114 = .ok (.dload_n 3, 1) := by decide +kernel
theorem d_prog_19_3_115 : decode prog_19_method_3_code 115 = .ok (.iload 9, 2) := by decide +kernel
theorem d_prog_19_3_117 : decode prog_19_method_3_code 117 = .ok (.i2d, 1) := by decide +kernel
theorem d_prog_19_3_118 : decode prog_19_method_3_code 118 = .ok (.ddiv, 1) := by decide +kernel
theorem d_prog_19_3_119 : decode prog_19_method_3_code 119 = .ok (.dload 5, 2) := by decide +kernel
theorem d_prog_19_3_121 : decode prog_19_method_3_code 121 = .ok (.iload 9, 2) := by decide +kernel
theorem d_prog_19_3_123 : decode prog_19_method_3_code 123 = .ok (.i2d, 1) := by decide +kernel
theorem d_prog_19_3_124 : decode prog_19_method_3_code 124 = .ok (.ddiv, 1) := by decide +kernel
theorem d_prog_19_3_125 : decode prog_19_method_3_code 125 = .ok (.dload 7, 2) := by decide +kernel
theorem d_prog_19_3_127 : decode prog_19_method_3_code 127 = .ok (.iload 9, 2) := by decide +kernel
theorem d_prog_19_3_129 : decode prog_19_method_3_code 129 = .ok (.i2d, 1) := by decide +kernel
theorem d_prog_19_3_130 : decode prog_19_method_3_code 130 = .ok (.ddiv, 1) := by decide +kernel
theorem d_prog_19_3_131 : decode prog_19_method_3_code 131 = .ok (.invokespecial 68, 3) := by decide +kernel
theorem d_prog_19_3_134 : decode prog_19_method_3_code 134 = .ok (.areturn, 1) := by decide +kernel
theorem own_ef75 (m : MethodId) (x0 : Addr)  : entryFrame m #[(.ref x0)] 11 = mkF m 0 #[rv x0, u_, u_, u_, u_, u_, u_, u_, u_, u_, u_] [] := by first | (simp [entryFrame, mkF, argsToLocals, Value.category]; done) | rfl
abbrev own_Q75 (Z : State) (sh : Addr) (li : Addr) (pga : Addr) (em : Addr) (soa : Addr) (ga0 : Int32) (ga1 : Int32) (ga2 : Int32) (ga3 : Int32) (h0 : Heap) (n0 : Nat) (v : Option Value) (h : Heap) (L : List Loc) : Prop := ∃ r : Addr, v = some (.ref r) ∧ Fr n0 L ∧ Keep h0 h [] ∧ h0.size ≤ r ∧ Exa Z h r "com/example/wakenitz/wakenitz/measure/Score" ∧ Fld Z h r "com/example/wakenitz/wakenitz/measure/Score" "precision" "D" (.double (own_q (1 : Int32) ga0)) ∧ Fld Z h r "com/example/wakenitz/wakenitz/measure/Score" "recall" "D" (.double (own_q (1 : Int32) ga1)) ∧ Fld Z h r "com/example/wakenitz/wakenitz/measure/Score" "f1" "D" (.double (own_q (1 : Int32) ga2)) ∧ Fld Z h r "com/example/wakenitz/wakenitz/measure/Score" "similarity" "D" (.double (own_q (1 : Int32) ga3))
set_option maxRecDepth 65536 in
set_option maxHeartbeats 40000000 in
theorem own_m75 (l : Launch) (Z : State) (a0 : Array Value) (hw : ∀ d ∈ tables_1, d.before a0 Z = true) (ws : List Jvm.Cond) (sh : Addr) (li : Addr) (pga : Addr) (em : Addr) (soa : Addr) (ga0 : Int32) (ga1 : Int32) (ga2 : Int32) (ga3 : Int32) (h0 : Heap) (n0 : Nat) (O0 : Old Z n0 h0) (hga0 : 0 ≤ ga0.toInt ∧ ga0.toInt ≤ 16) (hga1 : 0 ≤ ga1.toInt ∧ ga1.toInt ≤ 16) (hga2 : 0 ≤ ga2.toInt ∧ ga2.toInt ≤ 16) (hga3 : 0 ≤ ga3.toInt ∧ ga3.toInt ≤ 16) (O_1 : Sta Z Z.heap "java/util/ImmutableCollections" "EMPTY" "Ljava/lang/Object;" (.ref em)) (F_1 : Exa Z h0 sh "com/example/wakenitz/wakenitz/measure/ScoreSheet") (F_2 : Fld Z h0 sh "com/example/wakenitz/wakenitz/measure/ScoreSheet" "pages" "Ljava/util/List;" (.ref li)) (F_3 : Exa Z h0 li "java/util/ImmutableCollections$List12") (F_4 : Fld Z h0 li "java/util/ImmutableCollections$List12" "e0" "Ljava/lang/Object;" (.ref pga)) (F_5 : Fld Z h0 li "java/util/ImmutableCollections$List12" "e1" "Ljava/lang/Object;" (.ref em)) (F_6 : Exa Z h0 pga "com/example/wakenitz/wakenitz/measure/ScoreSheet$PageScore") (F_7 : Fld Z h0 pga "com/example/wakenitz/wakenitz/measure/ScoreSheet$PageScore" "score" "Lcom/example/wakenitz/wakenitz/measure/Score;" (.ref soa)) (F_8 : Exa Z h0 soa "com/example/wakenitz/wakenitz/measure/Score") (F_9 : Fld Z h0 soa "com/example/wakenitz/wakenitz/measure/Score" "precision" "D" (.double (own_d ga0))) (F_10 : Fld Z h0 soa "com/example/wakenitz/wakenitz/measure/Score" "recall" "D" (.double (own_d ga1))) (F_11 : Fld Z h0 soa "com/example/wakenitz/wakenitz/measure/Score" "f1" "D" (.double (own_d ga2))) (F_12 : Fld Z h0 soa "com/example/wakenitz/wakenitz/measure/Score" "similarity" "D" (.double (own_d ga3))) :
    Ctr l Z (⟨"com/example/wakenitz/wakenitz/measure/ScoreSheet", "mean", "()Lcom/example/wakenitz/wakenitz/measure/Score;"⟩ : MethodName) prog_19_method_3_code 11 (some (.object "com/example/wakenitz/wakenitz/measure/Score")) (Rm 3 2 8 45) #[(.ref sh)] h0 (own_Q75 Z sh li pga em soa ga0 ga1 ga2 ga3 h0 n0) ws := by
  refine MetFree.of_bodySF (plainFor_of_name own_pn15) hisR ?_
  intro p e s m args below meth c s₁ Bd hml0 hP hK
  obtain ⟨rfl, hZ, hh⟩ := hP
  have hx := Bd.exec
  have hby := Bd.bytes
  have hlk : meth.locks = false := Bd.notSynchronized
  have hml : c.maxLocals = 11 := hml0
  have hown : s.vm.findClass "com/example/wakenitz/wakenitz/measure/ScoreSheet" = some m.cls := findClass_of_methodNamed Bd.named
  have hnm := (name_of_methodNamed Bd.named Bd.method).1
  have X0 : Stand p l e (Rm 3 2 8 45) s m #[(.ref sh)] below meth c s₁ [] 0 0 := Stand.of_body Bd
  have e0 : s₁.heap = h0 := by rw [← hh, Bd.state]; rfl
  have N0 := Fr.nil n0
  show Goes p.tables e below (fun t o => ∃ v L, o = .returned v ∧ (own_Q75 Z sh li pga em soa ga0 ga1 ga2 ga3 h0 n0) v t.heap L ∧ FrameEnd s o t L ((Rm 3 2 8 45)).cells ((Rm 3 2 8 45)).slots) _
  refine Goes.via (B := s₁.setTop (mkF m 0 #[rv sh, u_, u_, u_, u_, u_, u_, u_, u_, u_, u_] [])) (fun t k => castTop (own_ef75 m sh) k) ?_
  refine Gv s₁ 1 [(.double FP.dconst0)] (fun t k => XS.dconst0 X0.here hx rfl (hb hby d_prog_19_3_0) rfl k) ?_
  refine Gv s₁ 2 [] (fun t k => XS.dstoreN X0.here hx rfl (hb hby d_prog_19_3_1) rfl (l' := #[rv sh, .val (.double FP.dconst0), s_, u_, u_, u_, u_, u_, u_, u_, u_]) rfl k) ?_
  refine Gv s₁ 3 [(.double FP.dconst0)] (fun t k => XS.dconst0 X0.here hx rfl (hb hby d_prog_19_3_2) rfl k) ?_
  refine Gv s₁ 4 [] (fun t k => XS.dstoreN X0.here hx rfl (hb hby d_prog_19_3_3) rfl (l' := #[rv sh, .val (.double FP.dconst0), s_, .val (.double FP.dconst0), s_, u_, u_, u_, u_, u_, u_]) rfl k) ?_
  refine Gv s₁ 5 [(.double FP.dconst0)] (fun t k => XS.dconst0 X0.here hx rfl (hb hby d_prog_19_3_4) rfl k) ?_
  refine Gv s₁ 7 [] (fun t k => XS.dstore X0.here hx rfl (hb hby d_prog_19_3_5) rfl (l' := #[rv sh, .val (.double FP.dconst0), s_, .val (.double FP.dconst0), s_, .val (.double FP.dconst0), s_, u_, u_, u_, u_]) rfl k) ?_
  refine Gv s₁ 8 [(.double FP.dconst0)] (fun t k => XS.dconst0 X0.here hx rfl (hb hby d_prog_19_3_7) rfl k) ?_
  refine Gv s₁ 10 [] (fun t k => XS.dstore X0.here hx rfl (hb hby d_prog_19_3_8) rfl (l' := #[rv sh, .val (.double FP.dconst0), s_, .val (.double FP.dconst0), s_, .val (.double FP.dconst0), s_, .val (.double FP.dconst0), s_, u_, u_]) rfl k) ?_
  refine Gv s₁ 11 [(.ref sh)] (fun t k => XS.aloadN X0.here hx rfl (hb hby d_prog_19_3_10) rfl rfl k) ?_
  obtain ⟨T1, X1, e1, st1⟩ := getF X0 hx hZ hown (host := "") (Or.inl (W_ hw 211 rfl)) Via.refl e0 F_2 (g := (mkF m 11 #[rv sh, .val (.double FP.dconst0), s_, .val (.double FP.dconst0), s_, .val (.double FP.dconst0), s_, .val (.double FP.dconst0), s_, u_, u_] [(.ref sh)])) rfl rfl (hb hby d_prog_19_3_11)
  refine Goes.via (B := T1.setTop (mkF m 14 #[rv sh, .val (.double FP.dconst0), s_, .val (.double FP.dconst0), s_, .val (.double FP.dconst0), s_, .val (.double FP.dconst0), s_, u_, u_] [(.ref li)])) (fun t k => st1 _ k) ?_
  obtain ⟨_, T2, L2, X2, ⟨r2, rfl, M2, K2, z2_0, f2_0, f2_1, f2_2, f2_3⟩, st2⟩ := callFace X1 hx hZ hown (W_ hw 218 rfl) (W_ hw 219 rfl) (mvT hZ (W_ hw 220 rfl)) (W_ hw 336 rfl) (W_ hw 222 rfl) (W_ hw 223 rfl) (W_ hw 337 rfl) (W_ hw 338 rfl) (W_ hw 197 rfl) (W_ hw 226 rfl) (by decide) (argsL := []) (rest := []) (own_m60 l Z a0 hw [] li pga em h0 n0 O0 O_1 F_3 F_4 F_5) e1 F_3 (lenOf own_pd19 rfl) (pc := 14) (Ls := #[rv sh, .val (.double FP.dconst0), s_, .val (.double FP.dconst0), s_, .val (.double FP.dconst0), s_, .val (.double FP.dconst0), s_, u_, u_]) (st := [(.ref li)]) rfl (by rw [hml]; rfl) (hb hby d_prog_19_3_14) (W := 0) (Nat.le_of_eq rfl) (by decide) (by decide) (by decide) (by decide)
  have N2 := Fr.app N0 M2
  have gn2_0 : n0 ≤ r2 := Nat.le_trans (old_le O0) z2_0
  have gs2_0 : h0.size ≤ r2 := Nat.le_trans (Keep.refl h0 []).1 z2_0
  refine Goes.via (B := T2.setTop (mkF m 19 #[rv sh, .val (.double FP.dconst0), s_, .val (.double FP.dconst0), s_, .val (.double FP.dconst0), s_, .val (.double FP.dconst0), s_, u_, u_] [(.ref r2)])) (fun t k => st2 _ k) ?_
  refine Gv T2 21 [] (fun t k => XS.astore X2.here hx rfl (hb hby d_prog_19_3_19) rfl rfl (l' := #[rv sh, .val (.double FP.dconst0), s_, .val (.double FP.dconst0), s_, .val (.double FP.dconst0), s_, .val (.double FP.dconst0), s_, rv r2, u_]) rfl k) ?_
  refine Gv T2 23 [(.ref r2)] (fun t k => XS.aload X2.here hx rfl (hb hby d_prog_19_3_21) rfl rfl k) ?_
  obtain ⟨_, T3, L3, X3, ⟨r3, rfl, M3, K3, p3_0⟩, st3⟩ := callFace X2 hx hZ hown (W_ hw 249 rfl) (W_ hw 250 rfl) (mvT hZ (W_ hw 251 rfl)) (W_ hw 252 rfl) (W_ hw 253 rfl) (W_ hw 254 rfl) (W_ hw 255 rfl) (W_ hw 256 rfl) (W_ hw 229 rfl) (W_ hw 257 rfl) (by decide) (argsL := []) (rest := []) (own_m63 l Z a0 hw [] r2 li (1 : Int32) (0 : Int32) T2.heap n0 (O0.keep K2 all0) f2_0 f2_1 f2_2 f2_3) rfl f2_0 (lenOf own_pd12 rfl) (pc := 23) (Ls := #[rv sh, .val (.double FP.dconst0), s_, .val (.double FP.dconst0), s_, .val (.double FP.dconst0), s_, .val (.double FP.dconst0), s_, rv r2, u_]) (st := [(.ref r2)]) rfl (by rw [hml]; rfl) (hb hby d_prog_19_3_23) (W := 0) (Nat.le_of_eq rfl) (by decide) (by decide) (by decide) (by decide)
  have N3 := Fr.app N2 M3
  refine Goes.via (B := T3.setTop (mkF m 28 #[rv sh, .val (.double FP.dconst0), s_, .val (.double FP.dconst0), s_, .val (.double FP.dconst0), s_, .val (.double FP.dconst0), s_, rv r2, u_] [(.int r3)])) (fun t k => st3 _ k) ?_
  refine Gv T3 31 [] (fun t k => XS.ifNo X3.here hx rfl (hb hby d_prog_19_3_28) rfl (XT.i0_eq_f (by rw [p3_0]; decide)) k) ?_
  refine Gv T3 33 [(.ref r2)] (fun t k => XS.aload X3.here hx rfl (hb hby d_prog_19_3_31) rfl rfl k) ?_
  obtain ⟨_, T4, L4, X4, ⟨rfl, M4, K4, f4_0, f4_1, f4_2, f4_3⟩, st4⟩ := callFaceX X3 hx hZ hown (W_ hw 258 rfl) (W_ hw 259 rfl) (mvT hZ (W_ hw 260 rfl)) (W_ hw 261 rfl) (W_ hw 262 rfl) (W_ hw 263 rfl) (W_ hw 264 rfl) (W_ hw 256 rfl) (W_ hw 229 rfl) (W_ hw 265 rfl) (by decide) (argsL := []) (rest := []) (own_m64 l Z a0 hw [] r2 li pga em T2.heap n0 (O0.keep K2 all0) gn2_0 O_1 f2_0 f2_1 f2_2 f2_3 (F_3.keep K2) (F_4.keep K2 nin0) (F_5.keep K2 nin0)) K3 f2_0 (lenOf own_pd20 rfl) (pc := 33) (Ls := #[rv sh, .val (.double FP.dconst0), s_, .val (.double FP.dconst0), s_, .val (.double FP.dconst0), s_, .val (.double FP.dconst0), s_, rv r2, u_]) (st := [(.ref r2)]) rfl (by rw [hml]; rfl) (hb hby d_prog_19_3_33) (W := 0) (Nat.le_of_eq rfl) (by decide) (by decide) (by decide) (by decide)
  have N4 := Fr.app N3 M4
  refine Goes.via (B := T4.setTop (mkF m 38 #[rv sh, .val (.double FP.dconst0), s_, .val (.double FP.dconst0), s_, .val (.double FP.dconst0), s_, .val (.double FP.dconst0), s_, rv r2, u_] [(.ref pga)])) (fun t k => st4 _ k) ?_
  obtain ⟨T5, X5, e5, st5⟩ := castY X4 hx hZ hown (W_ hw 274 rfl) rfl (Ins.self ((F_6.keep K2).keep K4)) (g := (mkF m 38 #[rv sh, .val (.double FP.dconst0), s_, .val (.double FP.dconst0), s_, .val (.double FP.dconst0), s_, .val (.double FP.dconst0), s_, rv r2, u_] [(.ref pga)])) rfl rfl (hb hby d_prog_19_3_38)
  refine Goes.via (B := T5.setTop (mkF m 41 #[rv sh, .val (.double FP.dconst0), s_, .val (.double FP.dconst0), s_, .val (.double FP.dconst0), s_, .val (.double FP.dconst0), s_, rv r2, u_] [(.ref pga)])) (fun t k => st5 _ k) ?_
  refine Gv T5 43 [] (fun t k => XS.astore X5.here hx rfl (hb hby d_prog_19_3_41) rfl rfl (l' := #[rv sh, .val (.double FP.dconst0), s_, .val (.double FP.dconst0), s_, .val (.double FP.dconst0), s_, .val (.double FP.dconst0), s_, rv r2, rv pga]) rfl k) ?_
  refine Gv T5 44 [(.double FP.dconst0)] (fun t k => XS.dloadN X5.here hx rfl (hb hby d_prog_19_3_43) rfl k) ?_
  refine Gv T5 46 [(.ref pga), (.double FP.dconst0)] (fun t k => XS.aload X5.here hx rfl (hb hby d_prog_19_3_44) rfl rfl k) ?_
  have c7 : Fld Z T4.heap pga "com/example/wakenitz/wakenitz/measure/ScoreSheet$PageScore" "score" "Lcom/example/wakenitz/wakenitz/measure/Score;" (.ref soa) := ((F_7.keep K2 nin0).keep K4 (ninS (Nat.ne_of_lt (Nat.lt_of_lt_of_le F_6.lt z2_0)) nin0))
  obtain ⟨_, T6, L6, X6, ⟨rfl, M6, K6⟩, st6⟩ := callVirt X5 hx hZ hown (W_ hw 276 rfl) (W_ hw 277 rfl) (W_ hw 279 rfl) (notFace_of_selects (args := #[]) (mvT hZ (W_ hw 279 rfl))) (W_ hw 278 rfl) (W_ hw 29 rfl) (W_ hw 280 rfl) (by decide) (argsL := []) (rest := [(.double FP.dconst0)]) (own_m70 l Z a0 hw [] pga soa T4.heap n0 ((O0.keep K2 all0).keep K4 (allS gn2_0 all0)) ((F_6.keep K2).keep K4) c7) e5 ((F_6.keep K2).keep K4) (lenOf own_pd21 rfl) (pc := 46) (Ls := #[rv sh, .val (.double FP.dconst0), s_, .val (.double FP.dconst0), s_, .val (.double FP.dconst0), s_, .val (.double FP.dconst0), s_, rv r2, rv pga]) (st := [(.ref pga), (.double FP.dconst0)]) rfl (by rw [hml]; rfl) (hb hby d_prog_19_3_46) (W := 2) (Nat.le_of_eq rfl) (by decide) (by decide) (by decide) (by decide)
  have N6 := Fr.app N4 M6
  refine Goes.via (B := T6.setTop (mkF m 49 #[rv sh, .val (.double FP.dconst0), s_, .val (.double FP.dconst0), s_, .val (.double FP.dconst0), s_, .val (.double FP.dconst0), s_, rv r2, rv pga] [(.ref soa), (.double FP.dconst0)])) (fun t k => st6 _ k) ?_
  have c9 : Fld Z T4.heap soa "com/example/wakenitz/wakenitz/measure/Score" "precision" "D" (.double (own_d ga0)) := ((F_9.keep K2 nin0).keep K4 (ninS (Nat.ne_of_lt (Nat.lt_of_lt_of_le F_8.lt z2_0)) nin0))
  obtain ⟨_, T8, L8, X8, ⟨rfl, M8, K8⟩, st8⟩ := callVirt X6 hx hZ hown (W_ hw 281 rfl) (W_ hw 282 rfl) (W_ hw 284 rfl) (notFace_of_selects (args := #[]) (mvT hZ (W_ hw 284 rfl))) (W_ hw 283 rfl) (W_ hw 44 rfl) (W_ hw 285 rfl) (by decide) (argsL := []) (rest := [(.double FP.dconst0)]) (own_m71 l Z a0 hw [] soa (own_d ga0) T4.heap n0 ((O0.keep K2 all0).keep K4 (allS gn2_0 all0)) ((F_8.keep K2).keep K4) c9) K6 ((F_8.keep K2).keep K4) (lenOf own_pd22 rfl) (pc := 49) (Ls := #[rv sh, .val (.double FP.dconst0), s_, .val (.double FP.dconst0), s_, .val (.double FP.dconst0), s_, .val (.double FP.dconst0), s_, rv r2, rv pga]) (st := [(.ref soa), (.double FP.dconst0)]) rfl (by rw [hml]; rfl) (hb hby d_prog_19_3_49) (W := 2) (Nat.le_of_eq rfl) (by decide) (by decide) (by decide) (by decide)
  have N8 := Fr.app N6 M8
  refine Goes.via (B := T8.setTop (mkF m 52 #[rv sh, .val (.double FP.dconst0), s_, .val (.double FP.dconst0), s_, .val (.double FP.dconst0), s_, .val (.double FP.dconst0), s_, rv r2, rv pga] [(.double (own_d ga0)), (.double FP.dconst0)])) (fun t k => st8 _ k) ?_
  refine Gv T8 53 [(.double (own_d ga0))] (fun t k => XS.daddS X8.here hx rfl (hb hby d_prog_19_3_52) rfl (own_nn0 hga0) (own_zero hga0) k) ?_
  refine Gv T8 54 [] (fun t k => XS.dstoreN X8.here hx rfl (hb hby d_prog_19_3_53) rfl (l' := #[rv sh, .val (.double (own_d ga0)), s_, .val (.double FP.dconst0), s_, .val (.double FP.dconst0), s_, .val (.double FP.dconst0), s_, rv r2, rv pga]) rfl k) ?_
  refine Gv T8 55 [(.double FP.dconst0)] (fun t k => XS.dloadN X8.here hx rfl (hb hby d_prog_19_3_54) rfl k) ?_
  refine Gv T8 57 [(.ref pga), (.double FP.dconst0)] (fun t k => XS.aload X8.here hx rfl (hb hby d_prog_19_3_55) rfl rfl k) ?_
  obtain ⟨_, T10, L10, X10, ⟨rfl, M10, K10⟩, st10⟩ := callVirt X8 hx hZ hown (W_ hw 276 rfl) (W_ hw 277 rfl) (W_ hw 279 rfl) (notFace_of_selects (args := #[]) (mvT hZ (W_ hw 279 rfl))) (W_ hw 278 rfl) (W_ hw 29 rfl) (W_ hw 280 rfl) (by decide) (argsL := []) (rest := [(.double FP.dconst0)]) (own_m70 l Z a0 hw [] pga soa T4.heap n0 ((O0.keep K2 all0).keep K4 (allS gn2_0 all0)) ((F_6.keep K2).keep K4) c7) K8 ((F_6.keep K2).keep K4) (lenOf own_pd21 rfl) (pc := 57) (Ls := #[rv sh, .val (.double (own_d ga0)), s_, .val (.double FP.dconst0), s_, .val (.double FP.dconst0), s_, .val (.double FP.dconst0), s_, rv r2, rv pga]) (st := [(.ref pga), (.double FP.dconst0)]) rfl (by rw [hml]; rfl) (hb hby d_prog_19_3_57) (W := 2) (Nat.le_of_eq rfl) (by decide) (by decide) (by decide) (by decide)
  have N10 := Fr.app N8 M10
  refine Goes.via (B := T10.setTop (mkF m 60 #[rv sh, .val (.double (own_d ga0)), s_, .val (.double FP.dconst0), s_, .val (.double FP.dconst0), s_, .val (.double FP.dconst0), s_, rv r2, rv pga] [(.ref soa), (.double FP.dconst0)])) (fun t k => st10 _ k) ?_
  have c12 : Fld Z T4.heap soa "com/example/wakenitz/wakenitz/measure/Score" "recall" "D" (.double (own_d ga1)) := ((F_10.keep K2 nin0).keep K4 (ninS (Nat.ne_of_lt (Nat.lt_of_lt_of_le F_8.lt z2_0)) nin0))
  obtain ⟨_, T11, L11, X11, ⟨rfl, M11, K11⟩, st11⟩ := callVirt X10 hx hZ hown (W_ hw 286 rfl) (W_ hw 287 rfl) (W_ hw 289 rfl) (notFace_of_selects (args := #[]) (mvT hZ (W_ hw 289 rfl))) (W_ hw 288 rfl) (W_ hw 44 rfl) (W_ hw 290 rfl) (by decide) (argsL := []) (rest := [(.double FP.dconst0)]) (own_m72 l Z a0 hw [] soa (own_d ga1) T4.heap n0 ((O0.keep K2 all0).keep K4 (allS gn2_0 all0)) ((F_8.keep K2).keep K4) c12) K10 ((F_8.keep K2).keep K4) (lenOf own_pd22 rfl) (pc := 60) (Ls := #[rv sh, .val (.double (own_d ga0)), s_, .val (.double FP.dconst0), s_, .val (.double FP.dconst0), s_, .val (.double FP.dconst0), s_, rv r2, rv pga]) (st := [(.ref soa), (.double FP.dconst0)]) rfl (by rw [hml]; rfl) (hb hby d_prog_19_3_60) (W := 2) (Nat.le_of_eq rfl) (by decide) (by decide) (by decide) (by decide)
  have N11 := Fr.app N10 M11
  refine Goes.via (B := T11.setTop (mkF m 63 #[rv sh, .val (.double (own_d ga0)), s_, .val (.double FP.dconst0), s_, .val (.double FP.dconst0), s_, .val (.double FP.dconst0), s_, rv r2, rv pga] [(.double (own_d ga1)), (.double FP.dconst0)])) (fun t k => st11 _ k) ?_
  refine Gv T11 64 [(.double (own_d ga1))] (fun t k => XS.daddS X11.here hx rfl (hb hby d_prog_19_3_63) rfl (own_nn0 hga1) (own_zero hga1) k) ?_
  refine Gv T11 65 [] (fun t k => XS.dstoreN X11.here hx rfl (hb hby d_prog_19_3_64) rfl (l' := #[rv sh, .val (.double (own_d ga0)), s_, .val (.double (own_d ga1)), s_, .val (.double FP.dconst0), s_, .val (.double FP.dconst0), s_, rv r2, rv pga]) rfl k) ?_
  refine Gv T11 67 [(.double FP.dconst0)] (fun t k => XS.dload X11.here hx rfl (hb hby d_prog_19_3_65) rfl k) ?_
  refine Gv T11 69 [(.ref pga), (.double FP.dconst0)] (fun t k => XS.aload X11.here hx rfl (hb hby d_prog_19_3_67) rfl rfl k) ?_
  obtain ⟨_, T13, L13, X13, ⟨rfl, M13, K13⟩, st13⟩ := callVirt X11 hx hZ hown (W_ hw 276 rfl) (W_ hw 277 rfl) (W_ hw 279 rfl) (notFace_of_selects (args := #[]) (mvT hZ (W_ hw 279 rfl))) (W_ hw 278 rfl) (W_ hw 29 rfl) (W_ hw 280 rfl) (by decide) (argsL := []) (rest := [(.double FP.dconst0)]) (own_m70 l Z a0 hw [] pga soa T4.heap n0 ((O0.keep K2 all0).keep K4 (allS gn2_0 all0)) ((F_6.keep K2).keep K4) c7) K11 ((F_6.keep K2).keep K4) (lenOf own_pd21 rfl) (pc := 69) (Ls := #[rv sh, .val (.double (own_d ga0)), s_, .val (.double (own_d ga1)), s_, .val (.double FP.dconst0), s_, .val (.double FP.dconst0), s_, rv r2, rv pga]) (st := [(.ref pga), (.double FP.dconst0)]) rfl (by rw [hml]; rfl) (hb hby d_prog_19_3_69) (W := 2) (Nat.le_of_eq rfl) (by decide) (by decide) (by decide) (by decide)
  have N13 := Fr.app N11 M13
  refine Goes.via (B := T13.setTop (mkF m 72 #[rv sh, .val (.double (own_d ga0)), s_, .val (.double (own_d ga1)), s_, .val (.double FP.dconst0), s_, .val (.double FP.dconst0), s_, rv r2, rv pga] [(.ref soa), (.double FP.dconst0)])) (fun t k => st13 _ k) ?_
  have c15 : Fld Z T4.heap soa "com/example/wakenitz/wakenitz/measure/Score" "f1" "D" (.double (own_d ga2)) := ((F_11.keep K2 nin0).keep K4 (ninS (Nat.ne_of_lt (Nat.lt_of_lt_of_le F_8.lt z2_0)) nin0))
  obtain ⟨_, T14, L14, X14, ⟨rfl, M14, K14⟩, st14⟩ := callVirt X13 hx hZ hown (W_ hw 291 rfl) (W_ hw 292 rfl) (W_ hw 294 rfl) (notFace_of_selects (args := #[]) (mvT hZ (W_ hw 294 rfl))) (W_ hw 293 rfl) (W_ hw 44 rfl) (W_ hw 295 rfl) (by decide) (argsL := []) (rest := [(.double FP.dconst0)]) (own_m73 l Z a0 hw [] soa (own_d ga2) T4.heap n0 ((O0.keep K2 all0).keep K4 (allS gn2_0 all0)) ((F_8.keep K2).keep K4) c15) K13 ((F_8.keep K2).keep K4) (lenOf own_pd22 rfl) (pc := 72) (Ls := #[rv sh, .val (.double (own_d ga0)), s_, .val (.double (own_d ga1)), s_, .val (.double FP.dconst0), s_, .val (.double FP.dconst0), s_, rv r2, rv pga]) (st := [(.ref soa), (.double FP.dconst0)]) rfl (by rw [hml]; rfl) (hb hby d_prog_19_3_72) (W := 2) (Nat.le_of_eq rfl) (by decide) (by decide) (by decide) (by decide)
  have N14 := Fr.app N13 M14
  refine Goes.via (B := T14.setTop (mkF m 75 #[rv sh, .val (.double (own_d ga0)), s_, .val (.double (own_d ga1)), s_, .val (.double FP.dconst0), s_, .val (.double FP.dconst0), s_, rv r2, rv pga] [(.double (own_d ga2)), (.double FP.dconst0)])) (fun t k => st14 _ k) ?_
  refine Gv T14 76 [(.double (own_d ga2))] (fun t k => XS.daddS X14.here hx rfl (hb hby d_prog_19_3_75) rfl (own_nn0 hga2) (own_zero hga2) k) ?_
  refine Gv T14 78 [] (fun t k => XS.dstore X14.here hx rfl (hb hby d_prog_19_3_76) rfl (l' := #[rv sh, .val (.double (own_d ga0)), s_, .val (.double (own_d ga1)), s_, .val (.double (own_d ga2)), s_, .val (.double FP.dconst0), s_, rv r2, rv pga]) rfl k) ?_
  refine Gv T14 80 [(.double FP.dconst0)] (fun t k => XS.dload X14.here hx rfl (hb hby d_prog_19_3_78) rfl k) ?_
  refine Gv T14 82 [(.ref pga), (.double FP.dconst0)] (fun t k => XS.aload X14.here hx rfl (hb hby d_prog_19_3_80) rfl rfl k) ?_
  obtain ⟨_, T16, L16, X16, ⟨rfl, M16, K16⟩, st16⟩ := callVirt X14 hx hZ hown (W_ hw 276 rfl) (W_ hw 277 rfl) (W_ hw 279 rfl) (notFace_of_selects (args := #[]) (mvT hZ (W_ hw 279 rfl))) (W_ hw 278 rfl) (W_ hw 29 rfl) (W_ hw 280 rfl) (by decide) (argsL := []) (rest := [(.double FP.dconst0)]) (own_m70 l Z a0 hw [] pga soa T4.heap n0 ((O0.keep K2 all0).keep K4 (allS gn2_0 all0)) ((F_6.keep K2).keep K4) c7) K14 ((F_6.keep K2).keep K4) (lenOf own_pd21 rfl) (pc := 82) (Ls := #[rv sh, .val (.double (own_d ga0)), s_, .val (.double (own_d ga1)), s_, .val (.double (own_d ga2)), s_, .val (.double FP.dconst0), s_, rv r2, rv pga]) (st := [(.ref pga), (.double FP.dconst0)]) rfl (by rw [hml]; rfl) (hb hby d_prog_19_3_82) (W := 2) (Nat.le_of_eq rfl) (by decide) (by decide) (by decide) (by decide)
  have N16 := Fr.app N14 M16
  refine Goes.via (B := T16.setTop (mkF m 85 #[rv sh, .val (.double (own_d ga0)), s_, .val (.double (own_d ga1)), s_, .val (.double (own_d ga2)), s_, .val (.double FP.dconst0), s_, rv r2, rv pga] [(.ref soa), (.double FP.dconst0)])) (fun t k => st16 _ k) ?_
  have c18 : Fld Z T4.heap soa "com/example/wakenitz/wakenitz/measure/Score" "similarity" "D" (.double (own_d ga3)) := ((F_12.keep K2 nin0).keep K4 (ninS (Nat.ne_of_lt (Nat.lt_of_lt_of_le F_8.lt z2_0)) nin0))
  obtain ⟨_, T17, L17, X17, ⟨rfl, M17, K17⟩, st17⟩ := callVirt X16 hx hZ hown (W_ hw 296 rfl) (W_ hw 297 rfl) (W_ hw 299 rfl) (notFace_of_selects (args := #[]) (mvT hZ (W_ hw 299 rfl))) (W_ hw 298 rfl) (W_ hw 44 rfl) (W_ hw 300 rfl) (by decide) (argsL := []) (rest := [(.double FP.dconst0)]) (own_m74 l Z a0 hw [] soa (own_d ga3) T4.heap n0 ((O0.keep K2 all0).keep K4 (allS gn2_0 all0)) ((F_8.keep K2).keep K4) c18) K16 ((F_8.keep K2).keep K4) (lenOf own_pd22 rfl) (pc := 85) (Ls := #[rv sh, .val (.double (own_d ga0)), s_, .val (.double (own_d ga1)), s_, .val (.double (own_d ga2)), s_, .val (.double FP.dconst0), s_, rv r2, rv pga]) (st := [(.ref soa), (.double FP.dconst0)]) rfl (by rw [hml]; rfl) (hb hby d_prog_19_3_85) (W := 2) (Nat.le_of_eq rfl) (by decide) (by decide) (by decide) (by decide)
  have N17 := Fr.app N16 M17
  refine Goes.via (B := T17.setTop (mkF m 88 #[rv sh, .val (.double (own_d ga0)), s_, .val (.double (own_d ga1)), s_, .val (.double (own_d ga2)), s_, .val (.double FP.dconst0), s_, rv r2, rv pga] [(.double (own_d ga3)), (.double FP.dconst0)])) (fun t k => st17 _ k) ?_
  refine Gv T17 89 [(.double (own_d ga3))] (fun t k => XS.daddS X17.here hx rfl (hb hby d_prog_19_3_88) rfl (own_nn0 hga3) (own_zero hga3) k) ?_
  refine Gv T17 91 [] (fun t k => XS.dstore X17.here hx rfl (hb hby d_prog_19_3_89) rfl (l' := #[rv sh, .val (.double (own_d ga0)), s_, .val (.double (own_d ga1)), s_, .val (.double (own_d ga2)), s_, .val (.double (own_d ga3)), s_, rv r2, rv pga]) rfl k) ?_
  refine Gv T17 21 [] (fun t k => XS.goto X17.here hx rfl (pc0 := 91) (pc' := 21) rfl (hb hby d_prog_19_3_91) (by decide) (by decide) k) ?_
  refine Gv T17 23 [(.ref r2)] (fun t k => XS.aload X17.here hx rfl (hb hby d_prog_19_3_21) rfl rfl k) ?_
  obtain ⟨_, T19, L19, X19, ⟨r19, rfl, M19, K19, p19_0⟩, st19⟩ := callFace X17 hx hZ hown (W_ hw 249 rfl) (W_ hw 250 rfl) (mvT hZ (W_ hw 251 rfl)) (W_ hw 252 rfl) (W_ hw 253 rfl) (W_ hw 254 rfl) (W_ hw 255 rfl) (W_ hw 256 rfl) (W_ hw 229 rfl) (W_ hw 257 rfl) (by decide) (argsL := []) (rest := []) (own_m63 l Z a0 hw [] r2 li (1 : Int32) (1 : Int32) T4.heap n0 ((O0.keep K2 all0).keep K4 (allS gn2_0 all0)) f4_0 f4_1 f4_2 f4_3) K17 f4_0 (lenOf own_pd12 rfl) (pc := 23) (Ls := #[rv sh, .val (.double (own_d ga0)), s_, .val (.double (own_d ga1)), s_, .val (.double (own_d ga2)), s_, .val (.double (own_d ga3)), s_, rv r2, rv pga]) (st := [(.ref r2)]) rfl (by rw [hml]; rfl) (hb hby d_prog_19_3_23) (W := 0) (Nat.le_of_eq rfl) (by decide) (by decide) (by decide) (by decide)
  have N19 := Fr.app N17 M19
  refine Goes.via (B := T19.setTop (mkF m 28 #[rv sh, .val (.double (own_d ga0)), s_, .val (.double (own_d ga1)), s_, .val (.double (own_d ga2)), s_, .val (.double (own_d ga3)), s_, rv r2, rv pga] [(.int r19)])) (fun t k => st19 _ k) ?_
  refine Gv T19 94 [] (fun t k => XS.ifYes X19.here hx rfl (pc0 := 28) (pc' := 94) rfl (hb hby d_prog_19_3_28) rfl (XT.i0_eq_t (p19_0.trans (by decide))) (by decide) (by decide) k) ?_
  refine Gv T19 95 [(.ref sh)] (fun t k => XS.aloadN X19.here hx rfl (hb hby d_prog_19_3_94) rfl rfl k) ?_
  have c20 : Fld Z T4.heap sh "com/example/wakenitz/wakenitz/measure/ScoreSheet" "pages" "Ljava/util/List;" (.ref li) := ((F_2.keep K2 nin0).keep K4 (ninS (Nat.ne_of_lt (Nat.lt_of_lt_of_le F_1.lt z2_0)) nin0))
  obtain ⟨T21, X21, e21, st21⟩ := getF X19 hx hZ hown (host := "") (Or.inl (W_ hw 211 rfl)) Via.refl K19 c20 (g := (mkF m 95 #[rv sh, .val (.double (own_d ga0)), s_, .val (.double (own_d ga1)), s_, .val (.double (own_d ga2)), s_, .val (.double (own_d ga3)), s_, rv r2, rv pga] [(.ref sh)])) rfl rfl (hb hby d_prog_19_3_95)
  refine Goes.via (B := T21.setTop (mkF m 98 #[rv sh, .val (.double (own_d ga0)), s_, .val (.double (own_d ga1)), s_, .val (.double (own_d ga2)), s_, .val (.double (own_d ga3)), s_, rv r2, rv pga] [(.ref li)])) (fun t k => st21 _ k) ?_
  have c23 : Fld Z T4.heap li "java/util/ImmutableCollections$List12" "e0" "Ljava/lang/Object;" (.ref pga) := ((F_4.keep K2 nin0).keep K4 (ninS (Nat.ne_of_lt (Nat.lt_of_lt_of_le F_3.lt z2_0)) nin0))
  have c24 : Fld Z T4.heap li "java/util/ImmutableCollections$List12" "e1" "Ljava/lang/Object;" (.ref em) := ((F_5.keep K2 nin0).keep K4 (ninS (Nat.ne_of_lt (Nat.lt_of_lt_of_le F_3.lt z2_0)) nin0))
  obtain ⟨_, T22, L22, X22, ⟨rfl, M22, K22⟩, st22⟩ := callFace X21 hx hZ hown (W_ hw 301 rfl) (W_ hw 302 rfl) (mvT hZ (W_ hw 303 rfl)) (W_ hw 347 rfl) (W_ hw 340 rfl) (W_ hw 348 rfl) (W_ hw 349 rfl) (W_ hw 338 rfl) (W_ hw 321 rfl) (W_ hw 341 rfl) (by decide) (argsL := []) (rest := []) (own_m50 l Z a0 hw [] li pga em T4.heap n0 ((O0.keep K2 all0).keep K4 (allS gn2_0 all0)) O_1 ((F_3.keep K2).keep K4) c23 c24) e21 ((F_3.keep K2).keep K4) (lenOf own_pd16 rfl) (pc := 98) (Ls := #[rv sh, .val (.double (own_d ga0)), s_, .val (.double (own_d ga1)), s_, .val (.double (own_d ga2)), s_, .val (.double (own_d ga3)), s_, rv r2, rv pga]) (st := [(.ref li)]) rfl (by rw [hml]; rfl) (hb hby d_prog_19_3_98) (W := 0) (Nat.le_of_eq rfl) (by decide) (by decide) (by decide) (by decide)
  have N22 := Fr.app N19 M22
  refine Goes.via (B := T22.setTop (mkF m 103 #[rv sh, .val (.double (own_d ga0)), s_, .val (.double (own_d ga1)), s_, .val (.double (own_d ga2)), s_, .val (.double (own_d ga3)), s_, rv r2, rv pga] [(.int (1 : Int32))])) (fun t k => st22 _ k) ?_
  refine Gv T22 105 [] (fun t k => XS.istore X22.here hx rfl (hb hby d_prog_19_3_103) rfl (l' := #[rv sh, .val (.double (own_d ga0)), s_, .val (.double (own_d ga1)), s_, .val (.double (own_d ga2)), s_, .val (.double (own_d ga3)), s_, iv (1 : Int32), rv pga]) rfl k) ?_
  obtain ⟨T25, h25, X25, e25, E25, A25, D25, U25, st25⟩ := newO X22 hx hZ hown (W_ hw 307 rfl) (W_ hw 43 rfl) (W_ hw 44 rfl) K22 (g := (mkF m 105 #[rv sh, .val (.double (own_d ga0)), s_, .val (.double (own_d ga1)), s_, .val (.double (own_d ga2)), s_, .val (.double (own_d ga3)), s_, iv (1 : Int32), rv pga] [])) rfl (hb hby d_prog_19_3_105) (by decide) (by decide)
  obtain ⟨b25, g25⟩ : ∃ z, z = T4.heap.size := ⟨_, rfl⟩
  rw [← g25] at A25 D25 U25 st25
  have gn25 : n0 ≤ b25 := Nat.le_trans (old_le ((O0.keep K2 all0).keep K4 (allS gn2_0 all0))) (Nat.le_of_eq g25.symm)
  have gs25 : h0.size ≤ b25 := Nat.le_trans (((Keep.refl h0 []).trans K2 all0).trans K4 (allS (Or.inr gs2_0) all0)).1 (Nat.le_of_eq g25.symm)
  have F25_precision : Fld Z h25 b25 "com/example/wakenitz/wakenitz/measure/Score" "precision" "D" (.double (0 : UInt64)) := D25 (Or.inr (W_ hw 60 rfl)) (ty := .double) (by decide)
  have F25_recall : Fld Z h25 b25 "com/example/wakenitz/wakenitz/measure/Score" "recall" "D" (.double (0 : UInt64)) := D25 (Or.inr (W_ hw 62 rfl)) (ty := .double) (by decide)
  have F25_f1 : Fld Z h25 b25 "com/example/wakenitz/wakenitz/measure/Score" "f1" "D" (.double (0 : UInt64)) := D25 (Or.inr (W_ hw 64 rfl)) (ty := .double) (by decide)
  have F25_similarity : Fld Z h25 b25 "com/example/wakenitz/wakenitz/measure/Score" "similarity" "D" (.double (0 : UInt64)) := D25 (Or.inr (W_ hw 66 rfl)) (ty := .double) (by decide)
  refine Goes.via (B := T25.setTop (mkF m 108 #[rv sh, .val (.double (own_d ga0)), s_, .val (.double (own_d ga1)), s_, .val (.double (own_d ga2)), s_, .val (.double (own_d ga3)), s_, iv (1 : Int32), rv pga] [(.ref b25)])) (fun t k => st25 _ k) ?_
  refine Gv T25 109 [(.ref b25), (.ref b25)] (fun t k => XS.dup X25.here hx rfl (hb hby d_prog_19_3_108) rfl rfl k) ?_
  refine Gv T25 110 [(.double (own_d ga0)), (.ref b25), (.ref b25)] (fun t k => XS.dloadN X25.here hx rfl (hb hby d_prog_19_3_109) rfl k) ?_
  refine Gv T25 112 [(.int (1 : Int32)), (.double (own_d ga0)), (.ref b25), (.ref b25)] (fun t k => XS.iload X25.here hx rfl (hb hby d_prog_19_3_110) rfl k) ?_
  refine Gv T25 113 [(.double (FP.i2d (1 : Int32))), (.double (own_d ga0)), (.ref b25), (.ref b25)] (fun t k => XS.i2dS X25.here hx rfl (hb hby d_prog_19_3_112) rfl rfl k) ?_
  refine Gv T25 114 [(.double (own_q (1 : Int32) ga0)), (.ref b25), (.ref b25)] (fun t k => XS.ddivS X25.here hx rfl (hb hby d_prog_19_3_113) rfl (own_qs (own_up hga0 (by decide)) (by decide)).1 rfl k) ?_
  refine Gv T25 115 [(.double (own_d ga1)), (.double (own_q (1 : Int32) ga0)), (.ref b25), (.ref b25)] (fun t k => XS.dloadN X25.here hx rfl (hb hby d_prog_19_3_114) rfl k) ?_
  refine Gv T25 117 [(.int (1 : Int32)), (.double (own_d ga1)), (.double (own_q (1 : Int32) ga0)), (.ref b25), (.ref b25)] (fun t k => XS.iload X25.here hx rfl (hb hby d_prog_19_3_115) rfl k) ?_
  refine Gv T25 118 [(.double (FP.i2d (1 : Int32))), (.double (own_d ga1)), (.double (own_q (1 : Int32) ga0)), (.ref b25), (.ref b25)] (fun t k => XS.i2dS X25.here hx rfl (hb hby d_prog_19_3_117) rfl rfl k) ?_
  refine Gv T25 119 [(.double (own_q (1 : Int32) ga1)), (.double (own_q (1 : Int32) ga0)), (.ref b25), (.ref b25)] (fun t k => XS.ddivS X25.here hx rfl (hb hby d_prog_19_3_118) rfl (own_qs (own_up hga1 (by decide)) (by decide)).1 rfl k) ?_
  refine Gv T25 121 [(.double (own_d ga2)), (.double (own_q (1 : Int32) ga1)), (.double (own_q (1 : Int32) ga0)), (.ref b25), (.ref b25)] (fun t k => XS.dload X25.here hx rfl (hb hby d_prog_19_3_119) rfl k) ?_
  refine Gv T25 123 [(.int (1 : Int32)), (.double (own_d ga2)), (.double (own_q (1 : Int32) ga1)), (.double (own_q (1 : Int32) ga0)), (.ref b25), (.ref b25)] (fun t k => XS.iload X25.here hx rfl (hb hby d_prog_19_3_121) rfl k) ?_
  refine Gv T25 124 [(.double (FP.i2d (1 : Int32))), (.double (own_d ga2)), (.double (own_q (1 : Int32) ga1)), (.double (own_q (1 : Int32) ga0)), (.ref b25), (.ref b25)] (fun t k => XS.i2dS X25.here hx rfl (hb hby d_prog_19_3_123) rfl rfl k) ?_
  refine Gv T25 125 [(.double (own_q (1 : Int32) ga2)), (.double (own_q (1 : Int32) ga1)), (.double (own_q (1 : Int32) ga0)), (.ref b25), (.ref b25)] (fun t k => XS.ddivS X25.here hx rfl (hb hby d_prog_19_3_124) rfl (own_qs (own_up hga2 (by decide)) (by decide)).1 rfl k) ?_
  refine Gv T25 127 [(.double (own_d ga3)), (.double (own_q (1 : Int32) ga2)), (.double (own_q (1 : Int32) ga1)), (.double (own_q (1 : Int32) ga0)), (.ref b25), (.ref b25)] (fun t k => XS.dload X25.here hx rfl (hb hby d_prog_19_3_125) rfl k) ?_
  refine Gv T25 129 [(.int (1 : Int32)), (.double (own_d ga3)), (.double (own_q (1 : Int32) ga2)), (.double (own_q (1 : Int32) ga1)), (.double (own_q (1 : Int32) ga0)), (.ref b25), (.ref b25)] (fun t k => XS.iload X25.here hx rfl (hb hby d_prog_19_3_127) rfl k) ?_
  refine Gv T25 130 [(.double (FP.i2d (1 : Int32))), (.double (own_d ga3)), (.double (own_q (1 : Int32) ga2)), (.double (own_q (1 : Int32) ga1)), (.double (own_q (1 : Int32) ga0)), (.ref b25), (.ref b25)] (fun t k => XS.i2dS X25.here hx rfl (hb hby d_prog_19_3_129) rfl rfl k) ?_
  refine Gv T25 131 [(.double (own_q (1 : Int32) ga3)), (.double (own_q (1 : Int32) ga2)), (.double (own_q (1 : Int32) ga1)), (.double (own_q (1 : Int32) ga0)), (.ref b25), (.ref b25)] (fun t k => XS.ddivS X25.here hx rfl (hb hby d_prog_19_3_130) rfl (own_qs (own_up hga3 (by decide)) (by decide)).1 rfl k) ?_
  obtain ⟨_, T26, L26, X26, ⟨rfl, M26, K26, f26_0, f26_1, f26_2, f26_3, f26_4⟩, st26⟩ := callInit X25 hx hZ rfl hown (W_ hw 308 rfl) (W_ hw 51 rfl) (W_ hw 44 rfl) (W_ hw 52 rfl) (by decide) (argsL := [(.double (own_q (1 : Int32) ga0)), (.double (own_q (1 : Int32) ga1)), (.double (own_q (1 : Int32) ga2)), (.double (own_q (1 : Int32) ga3))]) (rest := [(.ref b25)]) (own_m4 l Z a0 hw [] b25 (own_q (1 : Int32) ga0) (own_q (1 : Int32) ga1) (own_q (1 : Int32) ga2) (own_q (1 : Int32) ga3) h25 n0 (((O0.keep K2 all0).keep K4 (allS gn2_0 all0)).ext E25) gn25 A25 F25_precision F25_recall F25_f1 F25_similarity) e25 (lenOf own_pd2 rfl) (pc := 131) (Ls := #[rv sh, .val (.double (own_d ga0)), s_, .val (.double (own_d ga1)), s_, .val (.double (own_d ga2)), s_, .val (.double (own_d ga3)), s_, iv (1 : Int32), rv pga]) (st := [(.double (own_q (1 : Int32) ga3)), (.double (own_q (1 : Int32) ga2)), (.double (own_q (1 : Int32) ga1)), (.double (own_q (1 : Int32) ga0)), (.ref b25), (.ref b25)]) rfl (by rw [hml]; rfl) (hb hby d_prog_19_3_131) (W := 1) (Nat.le_of_eq rfl) (by decide) (by decide) (by decide) (by decide)
  have N26 := Fr.app N22 M26
  refine Goes.via (B := T26.setTop (mkF m 134 #[rv sh, .val (.double (own_d ga0)), s_, .val (.double (own_d ga1)), s_, .val (.double (own_d ga2)), s_, .val (.double (own_d ga3)), s_, iv (1 : Int32), rv pga] [(.ref b25)])) (fun t k => st26 _ k) ?_
  exact finA (Q := (own_Q75 Z sh li pga em soa ga0 ga1 ga2 ga3 h0 n0)) (F := FrameEnd) (C := ((Rm 3 2 8 45)).cells) (S := ((Rm 3 2 8 45)).slots) X26 hx Bd.returns rfl rfl rfl (hb hby d_prog_19_3_134) rfl ⟨b25, rfl, N26, (((((Keep.refl h0 []).trans K2 all0).trans K4 (allS (Or.inr gs2_0) all0)).ext E25).trans K26 (allS (Or.inr gs25) all0)), gs25, f26_0, f26_1, f26_2, f26_3, f26_4⟩ (lvN X26 hlk (by decide) (by decide))
theorem own_ef76 (m : MethodId) (x0 : Addr)  : entryFrame m #[(.ref x0)] 11 = mkF m 0 #[rv x0, u_, u_, u_, u_, u_, u_, u_, u_, u_, u_] [] := by first | (simp [entryFrame, mkF, argsToLocals, Value.category]; done) | rfl
abbrev own_Q76 (Z : State) (sh : Addr) (li : Addr) (pga : Addr) (pgb : Addr) (em : Addr) (soa : Addr) (sob : Addr) (ga0 : Int32) (ga1 : Int32) (ga2 : Int32) (ga3 : Int32) (gb0 : Int32) (gb1 : Int32) (gb2 : Int32) (gb3 : Int32) (h0 : Heap) (n0 : Nat) (v : Option Value) (h : Heap) (L : List Loc) : Prop := ∃ r : Addr, v = some (.ref r) ∧ Fr n0 L ∧ Keep h0 h [] ∧ h0.size ≤ r ∧ Exa Z h r "com/example/wakenitz/wakenitz/measure/Score" ∧ Fld Z h r "com/example/wakenitz/wakenitz/measure/Score" "precision" "D" (.double (own_q (2 : Int32) (ga0 + gb0))) ∧ Fld Z h r "com/example/wakenitz/wakenitz/measure/Score" "recall" "D" (.double (own_q (2 : Int32) (ga1 + gb1))) ∧ Fld Z h r "com/example/wakenitz/wakenitz/measure/Score" "f1" "D" (.double (own_q (2 : Int32) (ga2 + gb2))) ∧ Fld Z h r "com/example/wakenitz/wakenitz/measure/Score" "similarity" "D" (.double (own_q (2 : Int32) (ga3 + gb3)))
set_option maxRecDepth 65536 in
set_option maxHeartbeats 40000000 in
theorem own_m76 (l : Launch) (Z : State) (a0 : Array Value) (hw : ∀ d ∈ tables_1, d.before a0 Z = true) (ws : List Jvm.Cond) (sh : Addr) (li : Addr) (pga : Addr) (pgb : Addr) (em : Addr) (soa : Addr) (sob : Addr) (ga0 : Int32) (ga1 : Int32) (ga2 : Int32) (ga3 : Int32) (gb0 : Int32) (gb1 : Int32) (gb2 : Int32) (gb3 : Int32) (h0 : Heap) (n0 : Nat) (O0 : Old Z n0 h0) (hne : ¬ pgb = em) (hga0 : 0 ≤ ga0.toInt ∧ ga0.toInt ≤ 16) (hga1 : 0 ≤ ga1.toInt ∧ ga1.toInt ≤ 16) (hga2 : 0 ≤ ga2.toInt ∧ ga2.toInt ≤ 16) (hga3 : 0 ≤ ga3.toInt ∧ ga3.toInt ≤ 16) (hgb0 : 0 ≤ gb0.toInt ∧ gb0.toInt ≤ 16) (hgb1 : 0 ≤ gb1.toInt ∧ gb1.toInt ≤ 16) (hgb2 : 0 ≤ gb2.toInt ∧ gb2.toInt ≤ 16) (hgb3 : 0 ≤ gb3.toInt ∧ gb3.toInt ≤ 16) (O_1 : Sta Z Z.heap "java/util/ImmutableCollections" "EMPTY" "Ljava/lang/Object;" (.ref em)) (F_1 : Exa Z h0 sh "com/example/wakenitz/wakenitz/measure/ScoreSheet") (F_2 : Fld Z h0 sh "com/example/wakenitz/wakenitz/measure/ScoreSheet" "pages" "Ljava/util/List;" (.ref li)) (F_3 : Exa Z h0 li "java/util/ImmutableCollections$List12") (F_4 : Fld Z h0 li "java/util/ImmutableCollections$List12" "e0" "Ljava/lang/Object;" (.ref pga)) (F_5 : Fld Z h0 li "java/util/ImmutableCollections$List12" "e1" "Ljava/lang/Object;" (.ref pgb)) (F_6 : Exa Z h0 pga "com/example/wakenitz/wakenitz/measure/ScoreSheet$PageScore") (F_7 : Fld Z h0 pga "com/example/wakenitz/wakenitz/measure/ScoreSheet$PageScore" "score" "Lcom/example/wakenitz/wakenitz/measure/Score;" (.ref soa)) (F_8 : Exa Z h0 soa "com/example/wakenitz/wakenitz/measure/Score") (F_9 : Fld Z h0 soa "com/example/wakenitz/wakenitz/measure/Score" "precision" "D" (.double (own_d ga0))) (F_10 : Fld Z h0 soa "com/example/wakenitz/wakenitz/measure/Score" "recall" "D" (.double (own_d ga1))) (F_11 : Fld Z h0 soa "com/example/wakenitz/wakenitz/measure/Score" "f1" "D" (.double (own_d ga2))) (F_12 : Fld Z h0 soa "com/example/wakenitz/wakenitz/measure/Score" "similarity" "D" (.double (own_d ga3))) (F_13 : Exa Z h0 pgb "com/example/wakenitz/wakenitz/measure/ScoreSheet$PageScore") (F_14 : Fld Z h0 pgb "com/example/wakenitz/wakenitz/measure/ScoreSheet$PageScore" "score" "Lcom/example/wakenitz/wakenitz/measure/Score;" (.ref sob)) (F_15 : Exa Z h0 sob "com/example/wakenitz/wakenitz/measure/Score") (F_16 : Fld Z h0 sob "com/example/wakenitz/wakenitz/measure/Score" "precision" "D" (.double (own_d gb0))) (F_17 : Fld Z h0 sob "com/example/wakenitz/wakenitz/measure/Score" "recall" "D" (.double (own_d gb1))) (F_18 : Fld Z h0 sob "com/example/wakenitz/wakenitz/measure/Score" "f1" "D" (.double (own_d gb2))) (F_19 : Fld Z h0 sob "com/example/wakenitz/wakenitz/measure/Score" "similarity" "D" (.double (own_d gb3))) :
    Ctr l Z (⟨"com/example/wakenitz/wakenitz/measure/ScoreSheet", "mean", "()Lcom/example/wakenitz/wakenitz/measure/Score;"⟩ : MethodName) prog_19_method_3_code 11 (some (.object "com/example/wakenitz/wakenitz/measure/Score")) (Rm 3 2 8 45) #[(.ref sh)] h0 (own_Q76 Z sh li pga pgb em soa sob ga0 ga1 ga2 ga3 gb0 gb1 gb2 gb3 h0 n0) ws := by
  refine MetFree.of_bodySF (plainFor_of_name own_pn15) hisR ?_
  intro p e s m args below meth c s₁ Bd hml0 hP hK
  obtain ⟨rfl, hZ, hh⟩ := hP
  have hx := Bd.exec
  have hby := Bd.bytes
  have hlk : meth.locks = false := Bd.notSynchronized
  have hml : c.maxLocals = 11 := hml0
  have hown : s.vm.findClass "com/example/wakenitz/wakenitz/measure/ScoreSheet" = some m.cls := findClass_of_methodNamed Bd.named
  have hnm := (name_of_methodNamed Bd.named Bd.method).1
  have X0 : Stand p l e (Rm 3 2 8 45) s m #[(.ref sh)] below meth c s₁ [] 0 0 := Stand.of_body Bd
  have e0 : s₁.heap = h0 := by rw [← hh, Bd.state]; rfl
  have N0 := Fr.nil n0
  show Goes p.tables e below (fun t o => ∃ v L, o = .returned v ∧ (own_Q76 Z sh li pga pgb em soa sob ga0 ga1 ga2 ga3 gb0 gb1 gb2 gb3 h0 n0) v t.heap L ∧ FrameEnd s o t L ((Rm 3 2 8 45)).cells ((Rm 3 2 8 45)).slots) _
  refine Goes.via (B := s₁.setTop (mkF m 0 #[rv sh, u_, u_, u_, u_, u_, u_, u_, u_, u_, u_] [])) (fun t k => castTop (own_ef76 m sh) k) ?_
  refine Gv s₁ 1 [(.double FP.dconst0)] (fun t k => XS.dconst0 X0.here hx rfl (hb hby d_prog_19_3_0) rfl k) ?_
  refine Gv s₁ 2 [] (fun t k => XS.dstoreN X0.here hx rfl (hb hby d_prog_19_3_1) rfl (l' := #[rv sh, .val (.double FP.dconst0), s_, u_, u_, u_, u_, u_, u_, u_, u_]) rfl k) ?_
  refine Gv s₁ 3 [(.double FP.dconst0)] (fun t k => XS.dconst0 X0.here hx rfl (hb hby d_prog_19_3_2) rfl k) ?_
  refine Gv s₁ 4 [] (fun t k => XS.dstoreN X0.here hx rfl (hb hby d_prog_19_3_3) rfl (l' := #[rv sh, .val (.double FP.dconst0), s_, .val (.double FP.dconst0), s_, u_, u_, u_, u_, u_, u_]) rfl k) ?_
  refine Gv s₁ 5 [(.double FP.dconst0)] (fun t k => XS.dconst0 X0.here hx rfl (hb hby d_prog_19_3_4) rfl k) ?_
  refine Gv s₁ 7 [] (fun t k => XS.dstore X0.here hx rfl (hb hby d_prog_19_3_5) rfl (l' := #[rv sh, .val (.double FP.dconst0), s_, .val (.double FP.dconst0), s_, .val (.double FP.dconst0), s_, u_, u_, u_, u_]) rfl k) ?_
  refine Gv s₁ 8 [(.double FP.dconst0)] (fun t k => XS.dconst0 X0.here hx rfl (hb hby d_prog_19_3_7) rfl k) ?_
  refine Gv s₁ 10 [] (fun t k => XS.dstore X0.here hx rfl (hb hby d_prog_19_3_8) rfl (l' := #[rv sh, .val (.double FP.dconst0), s_, .val (.double FP.dconst0), s_, .val (.double FP.dconst0), s_, .val (.double FP.dconst0), s_, u_, u_]) rfl k) ?_
  refine Gv s₁ 11 [(.ref sh)] (fun t k => XS.aloadN X0.here hx rfl (hb hby d_prog_19_3_10) rfl rfl k) ?_
  obtain ⟨T1, X1, e1, st1⟩ := getF X0 hx hZ hown (host := "") (Or.inl (W_ hw 211 rfl)) Via.refl e0 F_2 (g := (mkF m 11 #[rv sh, .val (.double FP.dconst0), s_, .val (.double FP.dconst0), s_, .val (.double FP.dconst0), s_, .val (.double FP.dconst0), s_, u_, u_] [(.ref sh)])) rfl rfl (hb hby d_prog_19_3_11)
  refine Goes.via (B := T1.setTop (mkF m 14 #[rv sh, .val (.double FP.dconst0), s_, .val (.double FP.dconst0), s_, .val (.double FP.dconst0), s_, .val (.double FP.dconst0), s_, u_, u_] [(.ref li)])) (fun t k => st1 _ k) ?_
  obtain ⟨_, T2, L2, X2, ⟨r2, rfl, M2, K2, z2_0, f2_0, f2_1, f2_2, f2_3⟩, st2⟩ := callFace X1 hx hZ hown (W_ hw 218 rfl) (W_ hw 219 rfl) (mvT hZ (W_ hw 220 rfl)) (W_ hw 336 rfl) (W_ hw 222 rfl) (W_ hw 223 rfl) (W_ hw 337 rfl) (W_ hw 338 rfl) (W_ hw 197 rfl) (W_ hw 226 rfl) (by decide) (argsL := []) (rest := []) (own_m61 l Z a0 hw [] li pga pgb em h0 n0 O0 hne O_1 F_3 F_4 F_5) e1 F_3 (lenOf own_pd19 rfl) (pc := 14) (Ls := #[rv sh, .val (.double FP.dconst0), s_, .val (.double FP.dconst0), s_, .val (.double FP.dconst0), s_, .val (.double FP.dconst0), s_, u_, u_]) (st := [(.ref li)]) rfl (by rw [hml]; rfl) (hb hby d_prog_19_3_14) (W := 0) (Nat.le_of_eq rfl) (by decide) (by decide) (by decide) (by decide)
  have N2 := Fr.app N0 M2
  have gn2_0 : n0 ≤ r2 := Nat.le_trans (old_le O0) z2_0
  have gs2_0 : h0.size ≤ r2 := Nat.le_trans (Keep.refl h0 []).1 z2_0
  refine Goes.via (B := T2.setTop (mkF m 19 #[rv sh, .val (.double FP.dconst0), s_, .val (.double FP.dconst0), s_, .val (.double FP.dconst0), s_, .val (.double FP.dconst0), s_, u_, u_] [(.ref r2)])) (fun t k => st2 _ k) ?_
  refine Gv T2 21 [] (fun t k => XS.astore X2.here hx rfl (hb hby d_prog_19_3_19) rfl rfl (l' := #[rv sh, .val (.double FP.dconst0), s_, .val (.double FP.dconst0), s_, .val (.double FP.dconst0), s_, .val (.double FP.dconst0), s_, rv r2, u_]) rfl k) ?_
  refine Gv T2 23 [(.ref r2)] (fun t k => XS.aload X2.here hx rfl (hb hby d_prog_19_3_21) rfl rfl k) ?_
  obtain ⟨_, T3, L3, X3, ⟨r3, rfl, M3, K3, p3_0⟩, st3⟩ := callFace X2 hx hZ hown (W_ hw 249 rfl) (W_ hw 250 rfl) (mvT hZ (W_ hw 251 rfl)) (W_ hw 252 rfl) (W_ hw 253 rfl) (W_ hw 254 rfl) (W_ hw 255 rfl) (W_ hw 256 rfl) (W_ hw 229 rfl) (W_ hw 257 rfl) (by decide) (argsL := []) (rest := []) (own_m63 l Z a0 hw [] r2 li (2 : Int32) (0 : Int32) T2.heap n0 (O0.keep K2 all0) f2_0 f2_1 f2_2 f2_3) rfl f2_0 (lenOf own_pd12 rfl) (pc := 23) (Ls := #[rv sh, .val (.double FP.dconst0), s_, .val (.double FP.dconst0), s_, .val (.double FP.dconst0), s_, .val (.double FP.dconst0), s_, rv r2, u_]) (st := [(.ref r2)]) rfl (by rw [hml]; rfl) (hb hby d_prog_19_3_23) (W := 0) (Nat.le_of_eq rfl) (by decide) (by decide) (by decide) (by decide)
  have N3 := Fr.app N2 M3
  refine Goes.via (B := T3.setTop (mkF m 28 #[rv sh, .val (.double FP.dconst0), s_, .val (.double FP.dconst0), s_, .val (.double FP.dconst0), s_, .val (.double FP.dconst0), s_, rv r2, u_] [(.int r3)])) (fun t k => st3 _ k) ?_
  refine Gv T3 31 [] (fun t k => XS.ifNo X3.here hx rfl (hb hby d_prog_19_3_28) rfl (XT.i0_eq_f (by rw [p3_0]; decide)) k) ?_
  refine Gv T3 33 [(.ref r2)] (fun t k => XS.aload X3.here hx rfl (hb hby d_prog_19_3_31) rfl rfl k) ?_
  obtain ⟨_, T4, L4, X4, ⟨rfl, M4, K4, f4_0, f4_1, f4_2, f4_3⟩, st4⟩ := callFaceX X3 hx hZ hown (W_ hw 258 rfl) (W_ hw 259 rfl) (mvT hZ (W_ hw 260 rfl)) (W_ hw 261 rfl) (W_ hw 262 rfl) (W_ hw 263 rfl) (W_ hw 264 rfl) (W_ hw 256 rfl) (W_ hw 229 rfl) (W_ hw 265 rfl) (by decide) (argsL := []) (rest := []) (own_m65 l Z a0 hw [] r2 li pga pgb em T2.heap n0 (O0.keep K2 all0) hne gn2_0 O_1 f2_0 f2_1 f2_2 f2_3 (F_3.keep K2) (F_4.keep K2 nin0) (F_5.keep K2 nin0)) K3 f2_0 (lenOf own_pd20 rfl) (pc := 33) (Ls := #[rv sh, .val (.double FP.dconst0), s_, .val (.double FP.dconst0), s_, .val (.double FP.dconst0), s_, .val (.double FP.dconst0), s_, rv r2, u_]) (st := [(.ref r2)]) rfl (by rw [hml]; rfl) (hb hby d_prog_19_3_33) (W := 0) (Nat.le_of_eq rfl) (by decide) (by decide) (by decide) (by decide)
  have N4 := Fr.app N3 M4
  refine Goes.via (B := T4.setTop (mkF m 38 #[rv sh, .val (.double FP.dconst0), s_, .val (.double FP.dconst0), s_, .val (.double FP.dconst0), s_, .val (.double FP.dconst0), s_, rv r2, u_] [(.ref pga)])) (fun t k => st4 _ k) ?_
  obtain ⟨T5, X5, e5, st5⟩ := castY X4 hx hZ hown (W_ hw 274 rfl) rfl (Ins.self ((F_6.keep K2).keep K4)) (g := (mkF m 38 #[rv sh, .val (.double FP.dconst0), s_, .val (.double FP.dconst0), s_, .val (.double FP.dconst0), s_, .val (.double FP.dconst0), s_, rv r2, u_] [(.ref pga)])) rfl rfl (hb hby d_prog_19_3_38)
  refine Goes.via (B := T5.setTop (mkF m 41 #[rv sh, .val (.double FP.dconst0), s_, .val (.double FP.dconst0), s_, .val (.double FP.dconst0), s_, .val (.double FP.dconst0), s_, rv r2, u_] [(.ref pga)])) (fun t k => st5 _ k) ?_
  refine Gv T5 43 [] (fun t k => XS.astore X5.here hx rfl (hb hby d_prog_19_3_41) rfl rfl (l' := #[rv sh, .val (.double FP.dconst0), s_, .val (.double FP.dconst0), s_, .val (.double FP.dconst0), s_, .val (.double FP.dconst0), s_, rv r2, rv pga]) rfl k) ?_
  refine Gv T5 44 [(.double FP.dconst0)] (fun t k => XS.dloadN X5.here hx rfl (hb hby d_prog_19_3_43) rfl k) ?_
  refine Gv T5 46 [(.ref pga), (.double FP.dconst0)] (fun t k => XS.aload X5.here hx rfl (hb hby d_prog_19_3_44) rfl rfl k) ?_
  have c7 : Fld Z T4.heap pga "com/example/wakenitz/wakenitz/measure/ScoreSheet$PageScore" "score" "Lcom/example/wakenitz/wakenitz/measure/Score;" (.ref soa) := ((F_7.keep K2 nin0).keep K4 (ninS (Nat.ne_of_lt (Nat.lt_of_lt_of_le F_6.lt z2_0)) nin0))
  obtain ⟨_, T6, L6, X6, ⟨rfl, M6, K6⟩, st6⟩ := callVirt X5 hx hZ hown (W_ hw 276 rfl) (W_ hw 277 rfl) (W_ hw 279 rfl) (notFace_of_selects (args := #[]) (mvT hZ (W_ hw 279 rfl))) (W_ hw 278 rfl) (W_ hw 29 rfl) (W_ hw 280 rfl) (by decide) (argsL := []) (rest := [(.double FP.dconst0)]) (own_m70 l Z a0 hw [] pga soa T4.heap n0 ((O0.keep K2 all0).keep K4 (allS gn2_0 all0)) ((F_6.keep K2).keep K4) c7) e5 ((F_6.keep K2).keep K4) (lenOf own_pd21 rfl) (pc := 46) (Ls := #[rv sh, .val (.double FP.dconst0), s_, .val (.double FP.dconst0), s_, .val (.double FP.dconst0), s_, .val (.double FP.dconst0), s_, rv r2, rv pga]) (st := [(.ref pga), (.double FP.dconst0)]) rfl (by rw [hml]; rfl) (hb hby d_prog_19_3_46) (W := 2) (Nat.le_of_eq rfl) (by decide) (by decide) (by decide) (by decide)
  have N6 := Fr.app N4 M6
  refine Goes.via (B := T6.setTop (mkF m 49 #[rv sh, .val (.double FP.dconst0), s_, .val (.double FP.dconst0), s_, .val (.double FP.dconst0), s_, .val (.double FP.dconst0), s_, rv r2, rv pga] [(.ref soa), (.double FP.dconst0)])) (fun t k => st6 _ k) ?_
  have c9 : Fld Z T4.heap soa "com/example/wakenitz/wakenitz/measure/Score" "precision" "D" (.double (own_d ga0)) := ((F_9.keep K2 nin0).keep K4 (ninS (Nat.ne_of_lt (Nat.lt_of_lt_of_le F_8.lt z2_0)) nin0))
  obtain ⟨_, T8, L8, X8, ⟨rfl, M8, K8⟩, st8⟩ := callVirt X6 hx hZ hown (W_ hw 281 rfl) (W_ hw 282 rfl) (W_ hw 284 rfl) (notFace_of_selects (args := #[]) (mvT hZ (W_ hw 284 rfl))) (W_ hw 283 rfl) (W_ hw 44 rfl) (W_ hw 285 rfl) (by decide) (argsL := []) (rest := [(.double FP.dconst0)]) (own_m71 l Z a0 hw [] soa (own_d ga0) T4.heap n0 ((O0.keep K2 all0).keep K4 (allS gn2_0 all0)) ((F_8.keep K2).keep K4) c9) K6 ((F_8.keep K2).keep K4) (lenOf own_pd22 rfl) (pc := 49) (Ls := #[rv sh, .val (.double FP.dconst0), s_, .val (.double FP.dconst0), s_, .val (.double FP.dconst0), s_, .val (.double FP.dconst0), s_, rv r2, rv pga]) (st := [(.ref soa), (.double FP.dconst0)]) rfl (by rw [hml]; rfl) (hb hby d_prog_19_3_49) (W := 2) (Nat.le_of_eq rfl) (by decide) (by decide) (by decide) (by decide)
  have N8 := Fr.app N6 M8
  refine Goes.via (B := T8.setTop (mkF m 52 #[rv sh, .val (.double FP.dconst0), s_, .val (.double FP.dconst0), s_, .val (.double FP.dconst0), s_, .val (.double FP.dconst0), s_, rv r2, rv pga] [(.double (own_d ga0)), (.double FP.dconst0)])) (fun t k => st8 _ k) ?_
  refine Gv T8 53 [(.double (own_d ga0))] (fun t k => XS.daddS X8.here hx rfl (hb hby d_prog_19_3_52) rfl (own_nn0 hga0) (own_zero hga0) k) ?_
  refine Gv T8 54 [] (fun t k => XS.dstoreN X8.here hx rfl (hb hby d_prog_19_3_53) rfl (l' := #[rv sh, .val (.double (own_d ga0)), s_, .val (.double FP.dconst0), s_, .val (.double FP.dconst0), s_, .val (.double FP.dconst0), s_, rv r2, rv pga]) rfl k) ?_
  refine Gv T8 55 [(.double FP.dconst0)] (fun t k => XS.dloadN X8.here hx rfl (hb hby d_prog_19_3_54) rfl k) ?_
  refine Gv T8 57 [(.ref pga), (.double FP.dconst0)] (fun t k => XS.aload X8.here hx rfl (hb hby d_prog_19_3_55) rfl rfl k) ?_
  obtain ⟨_, T10, L10, X10, ⟨rfl, M10, K10⟩, st10⟩ := callVirt X8 hx hZ hown (W_ hw 276 rfl) (W_ hw 277 rfl) (W_ hw 279 rfl) (notFace_of_selects (args := #[]) (mvT hZ (W_ hw 279 rfl))) (W_ hw 278 rfl) (W_ hw 29 rfl) (W_ hw 280 rfl) (by decide) (argsL := []) (rest := [(.double FP.dconst0)]) (own_m70 l Z a0 hw [] pga soa T4.heap n0 ((O0.keep K2 all0).keep K4 (allS gn2_0 all0)) ((F_6.keep K2).keep K4) c7) K8 ((F_6.keep K2).keep K4) (lenOf own_pd21 rfl) (pc := 57) (Ls := #[rv sh, .val (.double (own_d ga0)), s_, .val (.double FP.dconst0), s_, .val (.double FP.dconst0), s_, .val (.double FP.dconst0), s_, rv r2, rv pga]) (st := [(.ref pga), (.double FP.dconst0)]) rfl (by rw [hml]; rfl) (hb hby d_prog_19_3_57) (W := 2) (Nat.le_of_eq rfl) (by decide) (by decide) (by decide) (by decide)
  have N10 := Fr.app N8 M10
  refine Goes.via (B := T10.setTop (mkF m 60 #[rv sh, .val (.double (own_d ga0)), s_, .val (.double FP.dconst0), s_, .val (.double FP.dconst0), s_, .val (.double FP.dconst0), s_, rv r2, rv pga] [(.ref soa), (.double FP.dconst0)])) (fun t k => st10 _ k) ?_
  have c12 : Fld Z T4.heap soa "com/example/wakenitz/wakenitz/measure/Score" "recall" "D" (.double (own_d ga1)) := ((F_10.keep K2 nin0).keep K4 (ninS (Nat.ne_of_lt (Nat.lt_of_lt_of_le F_8.lt z2_0)) nin0))
  obtain ⟨_, T11, L11, X11, ⟨rfl, M11, K11⟩, st11⟩ := callVirt X10 hx hZ hown (W_ hw 286 rfl) (W_ hw 287 rfl) (W_ hw 289 rfl) (notFace_of_selects (args := #[]) (mvT hZ (W_ hw 289 rfl))) (W_ hw 288 rfl) (W_ hw 44 rfl) (W_ hw 290 rfl) (by decide) (argsL := []) (rest := [(.double FP.dconst0)]) (own_m72 l Z a0 hw [] soa (own_d ga1) T4.heap n0 ((O0.keep K2 all0).keep K4 (allS gn2_0 all0)) ((F_8.keep K2).keep K4) c12) K10 ((F_8.keep K2).keep K4) (lenOf own_pd22 rfl) (pc := 60) (Ls := #[rv sh, .val (.double (own_d ga0)), s_, .val (.double FP.dconst0), s_, .val (.double FP.dconst0), s_, .val (.double FP.dconst0), s_, rv r2, rv pga]) (st := [(.ref soa), (.double FP.dconst0)]) rfl (by rw [hml]; rfl) (hb hby d_prog_19_3_60) (W := 2) (Nat.le_of_eq rfl) (by decide) (by decide) (by decide) (by decide)
  have N11 := Fr.app N10 M11
  refine Goes.via (B := T11.setTop (mkF m 63 #[rv sh, .val (.double (own_d ga0)), s_, .val (.double FP.dconst0), s_, .val (.double FP.dconst0), s_, .val (.double FP.dconst0), s_, rv r2, rv pga] [(.double (own_d ga1)), (.double FP.dconst0)])) (fun t k => st11 _ k) ?_
  refine Gv T11 64 [(.double (own_d ga1))] (fun t k => XS.daddS X11.here hx rfl (hb hby d_prog_19_3_63) rfl (own_nn0 hga1) (own_zero hga1) k) ?_
  refine Gv T11 65 [] (fun t k => XS.dstoreN X11.here hx rfl (hb hby d_prog_19_3_64) rfl (l' := #[rv sh, .val (.double (own_d ga0)), s_, .val (.double (own_d ga1)), s_, .val (.double FP.dconst0), s_, .val (.double FP.dconst0), s_, rv r2, rv pga]) rfl k) ?_
  refine Gv T11 67 [(.double FP.dconst0)] (fun t k => XS.dload X11.here hx rfl (hb hby d_prog_19_3_65) rfl k) ?_
  refine Gv T11 69 [(.ref pga), (.double FP.dconst0)] (fun t k => XS.aload X11.here hx rfl (hb hby d_prog_19_3_67) rfl rfl k) ?_
  obtain ⟨_, T13, L13, X13, ⟨rfl, M13, K13⟩, st13⟩ := callVirt X11 hx hZ hown (W_ hw 276 rfl) (W_ hw 277 rfl) (W_ hw 279 rfl) (notFace_of_selects (args := #[]) (mvT hZ (W_ hw 279 rfl))) (W_ hw 278 rfl) (W_ hw 29 rfl) (W_ hw 280 rfl) (by decide) (argsL := []) (rest := [(.double FP.dconst0)]) (own_m70 l Z a0 hw [] pga soa T4.heap n0 ((O0.keep K2 all0).keep K4 (allS gn2_0 all0)) ((F_6.keep K2).keep K4) c7) K11 ((F_6.keep K2).keep K4) (lenOf own_pd21 rfl) (pc := 69) (Ls := #[rv sh, .val (.double (own_d ga0)), s_, .val (.double (own_d ga1)), s_, .val (.double FP.dconst0), s_, .val (.double FP.dconst0), s_, rv r2, rv pga]) (st := [(.ref pga), (.double FP.dconst0)]) rfl (by rw [hml]; rfl) (hb hby d_prog_19_3_69) (W := 2) (Nat.le_of_eq rfl) (by decide) (by decide) (by decide) (by decide)
  have N13 := Fr.app N11 M13
  refine Goes.via (B := T13.setTop (mkF m 72 #[rv sh, .val (.double (own_d ga0)), s_, .val (.double (own_d ga1)), s_, .val (.double FP.dconst0), s_, .val (.double FP.dconst0), s_, rv r2, rv pga] [(.ref soa), (.double FP.dconst0)])) (fun t k => st13 _ k) ?_
  have c15 : Fld Z T4.heap soa "com/example/wakenitz/wakenitz/measure/Score" "f1" "D" (.double (own_d ga2)) := ((F_11.keep K2 nin0).keep K4 (ninS (Nat.ne_of_lt (Nat.lt_of_lt_of_le F_8.lt z2_0)) nin0))
  obtain ⟨_, T14, L14, X14, ⟨rfl, M14, K14⟩, st14⟩ := callVirt X13 hx hZ hown (W_ hw 291 rfl) (W_ hw 292 rfl) (W_ hw 294 rfl) (notFace_of_selects (args := #[]) (mvT hZ (W_ hw 294 rfl))) (W_ hw 293 rfl) (W_ hw 44 rfl) (W_ hw 295 rfl) (by decide) (argsL := []) (rest := [(.double FP.dconst0)]) (own_m73 l Z a0 hw [] soa (own_d ga2) T4.heap n0 ((O0.keep K2 all0).keep K4 (allS gn2_0 all0)) ((F_8.keep K2).keep K4) c15) K13 ((F_8.keep K2).keep K4) (lenOf own_pd22 rfl) (pc := 72) (Ls := #[rv sh, .val (.double (own_d ga0)), s_, .val (.double (own_d ga1)), s_, .val (.double FP.dconst0), s_, .val (.double FP.dconst0), s_, rv r2, rv pga]) (st := [(.ref soa), (.double FP.dconst0)]) rfl (by rw [hml]; rfl) (hb hby d_prog_19_3_72) (W := 2) (Nat.le_of_eq rfl) (by decide) (by decide) (by decide) (by decide)
  have N14 := Fr.app N13 M14
  refine Goes.via (B := T14.setTop (mkF m 75 #[rv sh, .val (.double (own_d ga0)), s_, .val (.double (own_d ga1)), s_, .val (.double FP.dconst0), s_, .val (.double FP.dconst0), s_, rv r2, rv pga] [(.double (own_d ga2)), (.double FP.dconst0)])) (fun t k => st14 _ k) ?_
  refine Gv T14 76 [(.double (own_d ga2))] (fun t k => XS.daddS X14.here hx rfl (hb hby d_prog_19_3_75) rfl (own_nn0 hga2) (own_zero hga2) k) ?_
  refine Gv T14 78 [] (fun t k => XS.dstore X14.here hx rfl (hb hby d_prog_19_3_76) rfl (l' := #[rv sh, .val (.double (own_d ga0)), s_, .val (.double (own_d ga1)), s_, .val (.double (own_d ga2)), s_, .val (.double FP.dconst0), s_, rv r2, rv pga]) rfl k) ?_
  refine Gv T14 80 [(.double FP.dconst0)] (fun t k => XS.dload X14.here hx rfl (hb hby d_prog_19_3_78) rfl k) ?_
  refine Gv T14 82 [(.ref pga), (.double FP.dconst0)] (fun t k => XS.aload X14.here hx rfl (hb hby d_prog_19_3_80) rfl rfl k) ?_
  obtain ⟨_, T16, L16, X16, ⟨rfl, M16, K16⟩, st16⟩ := callVirt X14 hx hZ hown (W_ hw 276 rfl) (W_ hw 277 rfl) (W_ hw 279 rfl) (notFace_of_selects (args := #[]) (mvT hZ (W_ hw 279 rfl))) (W_ hw 278 rfl) (W_ hw 29 rfl) (W_ hw 280 rfl) (by decide) (argsL := []) (rest := [(.double FP.dconst0)]) (own_m70 l Z a0 hw [] pga soa T4.heap n0 ((O0.keep K2 all0).keep K4 (allS gn2_0 all0)) ((F_6.keep K2).keep K4) c7) K14 ((F_6.keep K2).keep K4) (lenOf own_pd21 rfl) (pc := 82) (Ls := #[rv sh, .val (.double (own_d ga0)), s_, .val (.double (own_d ga1)), s_, .val (.double (own_d ga2)), s_, .val (.double FP.dconst0), s_, rv r2, rv pga]) (st := [(.ref pga), (.double FP.dconst0)]) rfl (by rw [hml]; rfl) (hb hby d_prog_19_3_82) (W := 2) (Nat.le_of_eq rfl) (by decide) (by decide) (by decide) (by decide)
  have N16 := Fr.app N14 M16
  refine Goes.via (B := T16.setTop (mkF m 85 #[rv sh, .val (.double (own_d ga0)), s_, .val (.double (own_d ga1)), s_, .val (.double (own_d ga2)), s_, .val (.double FP.dconst0), s_, rv r2, rv pga] [(.ref soa), (.double FP.dconst0)])) (fun t k => st16 _ k) ?_
  have c18 : Fld Z T4.heap soa "com/example/wakenitz/wakenitz/measure/Score" "similarity" "D" (.double (own_d ga3)) := ((F_12.keep K2 nin0).keep K4 (ninS (Nat.ne_of_lt (Nat.lt_of_lt_of_le F_8.lt z2_0)) nin0))
  obtain ⟨_, T17, L17, X17, ⟨rfl, M17, K17⟩, st17⟩ := callVirt X16 hx hZ hown (W_ hw 296 rfl) (W_ hw 297 rfl) (W_ hw 299 rfl) (notFace_of_selects (args := #[]) (mvT hZ (W_ hw 299 rfl))) (W_ hw 298 rfl) (W_ hw 44 rfl) (W_ hw 300 rfl) (by decide) (argsL := []) (rest := [(.double FP.dconst0)]) (own_m74 l Z a0 hw [] soa (own_d ga3) T4.heap n0 ((O0.keep K2 all0).keep K4 (allS gn2_0 all0)) ((F_8.keep K2).keep K4) c18) K16 ((F_8.keep K2).keep K4) (lenOf own_pd22 rfl) (pc := 85) (Ls := #[rv sh, .val (.double (own_d ga0)), s_, .val (.double (own_d ga1)), s_, .val (.double (own_d ga2)), s_, .val (.double FP.dconst0), s_, rv r2, rv pga]) (st := [(.ref soa), (.double FP.dconst0)]) rfl (by rw [hml]; rfl) (hb hby d_prog_19_3_85) (W := 2) (Nat.le_of_eq rfl) (by decide) (by decide) (by decide) (by decide)
  have N17 := Fr.app N16 M17
  refine Goes.via (B := T17.setTop (mkF m 88 #[rv sh, .val (.double (own_d ga0)), s_, .val (.double (own_d ga1)), s_, .val (.double (own_d ga2)), s_, .val (.double FP.dconst0), s_, rv r2, rv pga] [(.double (own_d ga3)), (.double FP.dconst0)])) (fun t k => st17 _ k) ?_
  refine Gv T17 89 [(.double (own_d ga3))] (fun t k => XS.daddS X17.here hx rfl (hb hby d_prog_19_3_88) rfl (own_nn0 hga3) (own_zero hga3) k) ?_
  refine Gv T17 91 [] (fun t k => XS.dstore X17.here hx rfl (hb hby d_prog_19_3_89) rfl (l' := #[rv sh, .val (.double (own_d ga0)), s_, .val (.double (own_d ga1)), s_, .val (.double (own_d ga2)), s_, .val (.double (own_d ga3)), s_, rv r2, rv pga]) rfl k) ?_
  refine Gv T17 21 [] (fun t k => XS.goto X17.here hx rfl (pc0 := 91) (pc' := 21) rfl (hb hby d_prog_19_3_91) (by decide) (by decide) k) ?_
  refine Gv T17 23 [(.ref r2)] (fun t k => XS.aload X17.here hx rfl (hb hby d_prog_19_3_21) rfl rfl k) ?_
  obtain ⟨_, T19, L19, X19, ⟨r19, rfl, M19, K19, p19_0⟩, st19⟩ := callFace X17 hx hZ hown (W_ hw 249 rfl) (W_ hw 250 rfl) (mvT hZ (W_ hw 251 rfl)) (W_ hw 252 rfl) (W_ hw 253 rfl) (W_ hw 254 rfl) (W_ hw 255 rfl) (W_ hw 256 rfl) (W_ hw 229 rfl) (W_ hw 257 rfl) (by decide) (argsL := []) (rest := []) (own_m63 l Z a0 hw [] r2 li (2 : Int32) (1 : Int32) T4.heap n0 ((O0.keep K2 all0).keep K4 (allS gn2_0 all0)) f4_0 f4_1 f4_2 f4_3) K17 f4_0 (lenOf own_pd12 rfl) (pc := 23) (Ls := #[rv sh, .val (.double (own_d ga0)), s_, .val (.double (own_d ga1)), s_, .val (.double (own_d ga2)), s_, .val (.double (own_d ga3)), s_, rv r2, rv pga]) (st := [(.ref r2)]) rfl (by rw [hml]; rfl) (hb hby d_prog_19_3_23) (W := 0) (Nat.le_of_eq rfl) (by decide) (by decide) (by decide) (by decide)
  have N19 := Fr.app N17 M19
  refine Goes.via (B := T19.setTop (mkF m 28 #[rv sh, .val (.double (own_d ga0)), s_, .val (.double (own_d ga1)), s_, .val (.double (own_d ga2)), s_, .val (.double (own_d ga3)), s_, rv r2, rv pga] [(.int r19)])) (fun t k => st19 _ k) ?_
  refine Gv T19 31 [] (fun t k => XS.ifNo X19.here hx rfl (hb hby d_prog_19_3_28) rfl (XT.i0_eq_f (by rw [p19_0]; decide)) k) ?_
  refine Gv T19 33 [(.ref r2)] (fun t k => XS.aload X19.here hx rfl (hb hby d_prog_19_3_31) rfl rfl k) ?_
  have c21 : Fld Z T4.heap li "java/util/ImmutableCollections$List12" "e0" "Ljava/lang/Object;" (.ref pga) := ((F_4.keep K2 nin0).keep K4 (ninS (Nat.ne_of_lt (Nat.lt_of_lt_of_le F_3.lt z2_0)) nin0))
  have c22 : Fld Z T4.heap li "java/util/ImmutableCollections$List12" "e1" "Ljava/lang/Object;" (.ref pgb) := ((F_5.keep K2 nin0).keep K4 (ninS (Nat.ne_of_lt (Nat.lt_of_lt_of_le F_3.lt z2_0)) nin0))
  obtain ⟨_, T20, L20, X20, ⟨rfl, M20, K20, f20_0, f20_1, f20_2, f20_3⟩, st20⟩ := callFaceX X19 hx hZ hown (W_ hw 258 rfl) (W_ hw 259 rfl) (mvT hZ (W_ hw 260 rfl)) (W_ hw 261 rfl) (W_ hw 262 rfl) (W_ hw 263 rfl) (W_ hw 264 rfl) (W_ hw 256 rfl) (W_ hw 229 rfl) (W_ hw 265 rfl) (by decide) (argsL := []) (rest := []) (own_m66 l Z a0 hw [] r2 li pga pgb em T4.heap n0 ((O0.keep K2 all0).keep K4 (allS gn2_0 all0)) hne gn2_0 O_1 f4_0 f4_1 f4_2 f4_3 ((F_3.keep K2).keep K4) c21 c22) K19 f4_0 (lenOf own_pd20 rfl) (pc := 33) (Ls := #[rv sh, .val (.double (own_d ga0)), s_, .val (.double (own_d ga1)), s_, .val (.double (own_d ga2)), s_, .val (.double (own_d ga3)), s_, rv r2, rv pga]) (st := [(.ref r2)]) rfl (by rw [hml]; rfl) (hb hby d_prog_19_3_33) (W := 0) (Nat.le_of_eq rfl) (by decide) (by decide) (by decide) (by decide)
  have N20 := Fr.app N19 M20
  refine Goes.via (B := T20.setTop (mkF m 38 #[rv sh, .val (.double (own_d ga0)), s_, .val (.double (own_d ga1)), s_, .val (.double (own_d ga2)), s_, .val (.double (own_d ga3)), s_, rv r2, rv pga] [(.ref pgb)])) (fun t k => st20 _ k) ?_
  obtain ⟨T23, X23, e23, st23⟩ := castY X20 hx hZ hown (W_ hw 274 rfl) rfl (Ins.self (((F_13.keep K2).keep K4).keep K20)) (g := (mkF m 38 #[rv sh, .val (.double (own_d ga0)), s_, .val (.double (own_d ga1)), s_, .val (.double (own_d ga2)), s_, .val (.double (own_d ga3)), s_, rv r2, rv pga] [(.ref pgb)])) rfl rfl (hb hby d_prog_19_3_38)
  refine Goes.via (B := T23.setTop (mkF m 41 #[rv sh, .val (.double (own_d ga0)), s_, .val (.double (own_d ga1)), s_, .val (.double (own_d ga2)), s_, .val (.double (own_d ga3)), s_, rv r2, rv pga] [(.ref pgb)])) (fun t k => st23 _ k) ?_
  refine Gv T23 43 [] (fun t k => XS.astore X23.here hx rfl (hb hby d_prog_19_3_41) rfl rfl (l' := #[rv sh, .val (.double (own_d ga0)), s_, .val (.double (own_d ga1)), s_, .val (.double (own_d ga2)), s_, .val (.double (own_d ga3)), s_, rv r2, rv pgb]) rfl k) ?_
  refine Gv T23 44 [(.double (own_d ga0))] (fun t k => XS.dloadN X23.here hx rfl (hb hby d_prog_19_3_43) rfl k) ?_
  refine Gv T23 46 [(.ref pgb), (.double (own_d ga0))] (fun t k => XS.aload X23.here hx rfl (hb hby d_prog_19_3_44) rfl rfl k) ?_
  have c25 : Fld Z T20.heap pgb "com/example/wakenitz/wakenitz/measure/ScoreSheet$PageScore" "score" "Lcom/example/wakenitz/wakenitz/measure/Score;" (.ref sob) := (((F_14.keep K2 nin0).keep K4 (ninS (Nat.ne_of_lt (Nat.lt_of_lt_of_le F_13.lt z2_0)) nin0)).keep K20 (ninS (Nat.ne_of_lt (Nat.lt_of_lt_of_le F_13.lt z2_0)) nin0))
  obtain ⟨_, T24, L24, X24, ⟨rfl, M24, K24⟩, st24⟩ := callVirt X23 hx hZ hown (W_ hw 276 rfl) (W_ hw 277 rfl) (W_ hw 279 rfl) (notFace_of_selects (args := #[]) (mvT hZ (W_ hw 279 rfl))) (W_ hw 278 rfl) (W_ hw 29 rfl) (W_ hw 280 rfl) (by decide) (argsL := []) (rest := [(.double (own_d ga0))]) (own_m70 l Z a0 hw [] pgb sob T20.heap n0 (((O0.keep K2 all0).keep K4 (allS gn2_0 all0)).keep K20 (allS gn2_0 all0)) (((F_13.keep K2).keep K4).keep K20) c25) e23 (((F_13.keep K2).keep K4).keep K20) (lenOf own_pd21 rfl) (pc := 46) (Ls := #[rv sh, .val (.double (own_d ga0)), s_, .val (.double (own_d ga1)), s_, .val (.double (own_d ga2)), s_, .val (.double (own_d ga3)), s_, rv r2, rv pgb]) (st := [(.ref pgb), (.double (own_d ga0))]) rfl (by rw [hml]; rfl) (hb hby d_prog_19_3_46) (W := 2) (Nat.le_of_eq rfl) (by decide) (by decide) (by decide) (by decide)
  have N24 := Fr.app N20 M24
  refine Goes.via (B := T24.setTop (mkF m 49 #[rv sh, .val (.double (own_d ga0)), s_, .val (.double (own_d ga1)), s_, .val (.double (own_d ga2)), s_, .val (.double (own_d ga3)), s_, rv r2, rv pgb] [(.ref sob), (.double (own_d ga0))])) (fun t k => st24 _ k) ?_
  have c27 : Fld Z T20.heap sob "com/example/wakenitz/wakenitz/measure/Score" "precision" "D" (.double (own_d gb0)) := (((F_16.keep K2 nin0).keep K4 (ninS (Nat.ne_of_lt (Nat.lt_of_lt_of_le F_15.lt z2_0)) nin0)).keep K20 (ninS (Nat.ne_of_lt (Nat.lt_of_lt_of_le F_15.lt z2_0)) nin0))
  obtain ⟨_, T26, L26, X26, ⟨rfl, M26, K26⟩, st26⟩ := callVirt X24 hx hZ hown (W_ hw 281 rfl) (W_ hw 282 rfl) (W_ hw 284 rfl) (notFace_of_selects (args := #[]) (mvT hZ (W_ hw 284 rfl))) (W_ hw 283 rfl) (W_ hw 44 rfl) (W_ hw 285 rfl) (by decide) (argsL := []) (rest := [(.double (own_d ga0))]) (own_m71 l Z a0 hw [] sob (own_d gb0) T20.heap n0 (((O0.keep K2 all0).keep K4 (allS gn2_0 all0)).keep K20 (allS gn2_0 all0)) (((F_15.keep K2).keep K4).keep K20) c27) K24 (((F_15.keep K2).keep K4).keep K20) (lenOf own_pd22 rfl) (pc := 49) (Ls := #[rv sh, .val (.double (own_d ga0)), s_, .val (.double (own_d ga1)), s_, .val (.double (own_d ga2)), s_, .val (.double (own_d ga3)), s_, rv r2, rv pgb]) (st := [(.ref sob), (.double (own_d ga0))]) rfl (by rw [hml]; rfl) (hb hby d_prog_19_3_49) (W := 2) (Nat.le_of_eq rfl) (by decide) (by decide) (by decide) (by decide)
  have N26 := Fr.app N24 M26
  refine Goes.via (B := T26.setTop (mkF m 52 #[rv sh, .val (.double (own_d ga0)), s_, .val (.double (own_d ga1)), s_, .val (.double (own_d ga2)), s_, .val (.double (own_d ga3)), s_, rv r2, rv pgb] [(.double (own_d gb0)), (.double (own_d ga0))])) (fun t k => st26 _ k) ?_
  refine Gv T26 53 [(.double (own_d (ga0 + gb0)))] (fun t k => XS.daddS X26.here hx rfl (hb hby d_prog_19_3_52) rfl (own_nna (own_up hga0 (by decide)) hgb0) (own_add (own_up hga0 (by decide)) hgb0) k) ?_
  refine Gv T26 54 [] (fun t k => XS.dstoreN X26.here hx rfl (hb hby d_prog_19_3_53) rfl (l' := #[rv sh, .val (.double (own_d (ga0 + gb0))), s_, .val (.double (own_d ga1)), s_, .val (.double (own_d ga2)), s_, .val (.double (own_d ga3)), s_, rv r2, rv pgb]) rfl k) ?_
  refine Gv T26 55 [(.double (own_d ga1))] (fun t k => XS.dloadN X26.here hx rfl (hb hby d_prog_19_3_54) rfl k) ?_
  refine Gv T26 57 [(.ref pgb), (.double (own_d ga1))] (fun t k => XS.aload X26.here hx rfl (hb hby d_prog_19_3_55) rfl rfl k) ?_
  obtain ⟨_, T28, L28, X28, ⟨rfl, M28, K28⟩, st28⟩ := callVirt X26 hx hZ hown (W_ hw 276 rfl) (W_ hw 277 rfl) (W_ hw 279 rfl) (notFace_of_selects (args := #[]) (mvT hZ (W_ hw 279 rfl))) (W_ hw 278 rfl) (W_ hw 29 rfl) (W_ hw 280 rfl) (by decide) (argsL := []) (rest := [(.double (own_d ga1))]) (own_m70 l Z a0 hw [] pgb sob T20.heap n0 (((O0.keep K2 all0).keep K4 (allS gn2_0 all0)).keep K20 (allS gn2_0 all0)) (((F_13.keep K2).keep K4).keep K20) c25) K26 (((F_13.keep K2).keep K4).keep K20) (lenOf own_pd21 rfl) (pc := 57) (Ls := #[rv sh, .val (.double (own_d (ga0 + gb0))), s_, .val (.double (own_d ga1)), s_, .val (.double (own_d ga2)), s_, .val (.double (own_d ga3)), s_, rv r2, rv pgb]) (st := [(.ref pgb), (.double (own_d ga1))]) rfl (by rw [hml]; rfl) (hb hby d_prog_19_3_57) (W := 2) (Nat.le_of_eq rfl) (by decide) (by decide) (by decide) (by decide)
  have N28 := Fr.app N26 M28
  refine Goes.via (B := T28.setTop (mkF m 60 #[rv sh, .val (.double (own_d (ga0 + gb0))), s_, .val (.double (own_d ga1)), s_, .val (.double (own_d ga2)), s_, .val (.double (own_d ga3)), s_, rv r2, rv pgb] [(.ref sob), (.double (own_d ga1))])) (fun t k => st28 _ k) ?_
  have c30 : Fld Z T20.heap sob "com/example/wakenitz/wakenitz/measure/Score" "recall" "D" (.double (own_d gb1)) := (((F_17.keep K2 nin0).keep K4 (ninS (Nat.ne_of_lt (Nat.lt_of_lt_of_le F_15.lt z2_0)) nin0)).keep K20 (ninS (Nat.ne_of_lt (Nat.lt_of_lt_of_le F_15.lt z2_0)) nin0))
  obtain ⟨_, T29, L29, X29, ⟨rfl, M29, K29⟩, st29⟩ := callVirt X28 hx hZ hown (W_ hw 286 rfl) (W_ hw 287 rfl) (W_ hw 289 rfl) (notFace_of_selects (args := #[]) (mvT hZ (W_ hw 289 rfl))) (W_ hw 288 rfl) (W_ hw 44 rfl) (W_ hw 290 rfl) (by decide) (argsL := []) (rest := [(.double (own_d ga1))]) (own_m72 l Z a0 hw [] sob (own_d gb1) T20.heap n0 (((O0.keep K2 all0).keep K4 (allS gn2_0 all0)).keep K20 (allS gn2_0 all0)) (((F_15.keep K2).keep K4).keep K20) c30) K28 (((F_15.keep K2).keep K4).keep K20) (lenOf own_pd22 rfl) (pc := 60) (Ls := #[rv sh, .val (.double (own_d (ga0 + gb0))), s_, .val (.double (own_d ga1)), s_, .val (.double (own_d ga2)), s_, .val (.double (own_d ga3)), s_, rv r2, rv pgb]) (st := [(.ref sob), (.double (own_d ga1))]) rfl (by rw [hml]; rfl) (hb hby d_prog_19_3_60) (W := 2) (Nat.le_of_eq rfl) (by decide) (by decide) (by decide) (by decide)
  have N29 := Fr.app N28 M29
  refine Goes.via (B := T29.setTop (mkF m 63 #[rv sh, .val (.double (own_d (ga0 + gb0))), s_, .val (.double (own_d ga1)), s_, .val (.double (own_d ga2)), s_, .val (.double (own_d ga3)), s_, rv r2, rv pgb] [(.double (own_d gb1)), (.double (own_d ga1))])) (fun t k => st29 _ k) ?_
  refine Gv T29 64 [(.double (own_d (ga1 + gb1)))] (fun t k => XS.daddS X29.here hx rfl (hb hby d_prog_19_3_63) rfl (own_nna (own_up hga1 (by decide)) hgb1) (own_add (own_up hga1 (by decide)) hgb1) k) ?_
  refine Gv T29 65 [] (fun t k => XS.dstoreN X29.here hx rfl (hb hby d_prog_19_3_64) rfl (l' := #[rv sh, .val (.double (own_d (ga0 + gb0))), s_, .val (.double (own_d (ga1 + gb1))), s_, .val (.double (own_d ga2)), s_, .val (.double (own_d ga3)), s_, rv r2, rv pgb]) rfl k) ?_
  refine Gv T29 67 [(.double (own_d ga2))] (fun t k => XS.dload X29.here hx rfl (hb hby d_prog_19_3_65) rfl k) ?_
  refine Gv T29 69 [(.ref pgb), (.double (own_d ga2))] (fun t k => XS.aload X29.here hx rfl (hb hby d_prog_19_3_67) rfl rfl k) ?_
  obtain ⟨_, T31, L31, X31, ⟨rfl, M31, K31⟩, st31⟩ := callVirt X29 hx hZ hown (W_ hw 276 rfl) (W_ hw 277 rfl) (W_ hw 279 rfl) (notFace_of_selects (args := #[]) (mvT hZ (W_ hw 279 rfl))) (W_ hw 278 rfl) (W_ hw 29 rfl) (W_ hw 280 rfl) (by decide) (argsL := []) (rest := [(.double (own_d ga2))]) (own_m70 l Z a0 hw [] pgb sob T20.heap n0 (((O0.keep K2 all0).keep K4 (allS gn2_0 all0)).keep K20 (allS gn2_0 all0)) (((F_13.keep K2).keep K4).keep K20) c25) K29 (((F_13.keep K2).keep K4).keep K20) (lenOf own_pd21 rfl) (pc := 69) (Ls := #[rv sh, .val (.double (own_d (ga0 + gb0))), s_, .val (.double (own_d (ga1 + gb1))), s_, .val (.double (own_d ga2)), s_, .val (.double (own_d ga3)), s_, rv r2, rv pgb]) (st := [(.ref pgb), (.double (own_d ga2))]) rfl (by rw [hml]; rfl) (hb hby d_prog_19_3_69) (W := 2) (Nat.le_of_eq rfl) (by decide) (by decide) (by decide) (by decide)
  have N31 := Fr.app N29 M31
  refine Goes.via (B := T31.setTop (mkF m 72 #[rv sh, .val (.double (own_d (ga0 + gb0))), s_, .val (.double (own_d (ga1 + gb1))), s_, .val (.double (own_d ga2)), s_, .val (.double (own_d ga3)), s_, rv r2, rv pgb] [(.ref sob), (.double (own_d ga2))])) (fun t k => st31 _ k) ?_
  have c33 : Fld Z T20.heap sob "com/example/wakenitz/wakenitz/measure/Score" "f1" "D" (.double (own_d gb2)) := (((F_18.keep K2 nin0).keep K4 (ninS (Nat.ne_of_lt (Nat.lt_of_lt_of_le F_15.lt z2_0)) nin0)).keep K20 (ninS (Nat.ne_of_lt (Nat.lt_of_lt_of_le F_15.lt z2_0)) nin0))
  obtain ⟨_, T32, L32, X32, ⟨rfl, M32, K32⟩, st32⟩ := callVirt X31 hx hZ hown (W_ hw 291 rfl) (W_ hw 292 rfl) (W_ hw 294 rfl) (notFace_of_selects (args := #[]) (mvT hZ (W_ hw 294 rfl))) (W_ hw 293 rfl) (W_ hw 44 rfl) (W_ hw 295 rfl) (by decide) (argsL := []) (rest := [(.double (own_d ga2))]) (own_m73 l Z a0 hw [] sob (own_d gb2) T20.heap n0 (((O0.keep K2 all0).keep K4 (allS gn2_0 all0)).keep K20 (allS gn2_0 all0)) (((F_15.keep K2).keep K4).keep K20) c33) K31 (((F_15.keep K2).keep K4).keep K20) (lenOf own_pd22 rfl) (pc := 72) (Ls := #[rv sh, .val (.double (own_d (ga0 + gb0))), s_, .val (.double (own_d (ga1 + gb1))), s_, .val (.double (own_d ga2)), s_, .val (.double (own_d ga3)), s_, rv r2, rv pgb]) (st := [(.ref sob), (.double (own_d ga2))]) rfl (by rw [hml]; rfl) (hb hby d_prog_19_3_72) (W := 2) (Nat.le_of_eq rfl) (by decide) (by decide) (by decide) (by decide)
  have N32 := Fr.app N31 M32
  refine Goes.via (B := T32.setTop (mkF m 75 #[rv sh, .val (.double (own_d (ga0 + gb0))), s_, .val (.double (own_d (ga1 + gb1))), s_, .val (.double (own_d ga2)), s_, .val (.double (own_d ga3)), s_, rv r2, rv pgb] [(.double (own_d gb2)), (.double (own_d ga2))])) (fun t k => st32 _ k) ?_
  refine Gv T32 76 [(.double (own_d (ga2 + gb2)))] (fun t k => XS.daddS X32.here hx rfl (hb hby d_prog_19_3_75) rfl (own_nna (own_up hga2 (by decide)) hgb2) (own_add (own_up hga2 (by decide)) hgb2) k) ?_
  refine Gv T32 78 [] (fun t k => XS.dstore X32.here hx rfl (hb hby d_prog_19_3_76) rfl (l' := #[rv sh, .val (.double (own_d (ga0 + gb0))), s_, .val (.double (own_d (ga1 + gb1))), s_, .val (.double (own_d (ga2 + gb2))), s_, .val (.double (own_d ga3)), s_, rv r2, rv pgb]) rfl k) ?_
  refine Gv T32 80 [(.double (own_d ga3))] (fun t k => XS.dload X32.here hx rfl (hb hby d_prog_19_3_78) rfl k) ?_
  refine Gv T32 82 [(.ref pgb), (.double (own_d ga3))] (fun t k => XS.aload X32.here hx rfl (hb hby d_prog_19_3_80) rfl rfl k) ?_
  obtain ⟨_, T34, L34, X34, ⟨rfl, M34, K34⟩, st34⟩ := callVirt X32 hx hZ hown (W_ hw 276 rfl) (W_ hw 277 rfl) (W_ hw 279 rfl) (notFace_of_selects (args := #[]) (mvT hZ (W_ hw 279 rfl))) (W_ hw 278 rfl) (W_ hw 29 rfl) (W_ hw 280 rfl) (by decide) (argsL := []) (rest := [(.double (own_d ga3))]) (own_m70 l Z a0 hw [] pgb sob T20.heap n0 (((O0.keep K2 all0).keep K4 (allS gn2_0 all0)).keep K20 (allS gn2_0 all0)) (((F_13.keep K2).keep K4).keep K20) c25) K32 (((F_13.keep K2).keep K4).keep K20) (lenOf own_pd21 rfl) (pc := 82) (Ls := #[rv sh, .val (.double (own_d (ga0 + gb0))), s_, .val (.double (own_d (ga1 + gb1))), s_, .val (.double (own_d (ga2 + gb2))), s_, .val (.double (own_d ga3)), s_, rv r2, rv pgb]) (st := [(.ref pgb), (.double (own_d ga3))]) rfl (by rw [hml]; rfl) (hb hby d_prog_19_3_82) (W := 2) (Nat.le_of_eq rfl) (by decide) (by decide) (by decide) (by decide)
  have N34 := Fr.app N32 M34
  refine Goes.via (B := T34.setTop (mkF m 85 #[rv sh, .val (.double (own_d (ga0 + gb0))), s_, .val (.double (own_d (ga1 + gb1))), s_, .val (.double (own_d (ga2 + gb2))), s_, .val (.double (own_d ga3)), s_, rv r2, rv pgb] [(.ref sob), (.double (own_d ga3))])) (fun t k => st34 _ k) ?_
  have c36 : Fld Z T20.heap sob "com/example/wakenitz/wakenitz/measure/Score" "similarity" "D" (.double (own_d gb3)) := (((F_19.keep K2 nin0).keep K4 (ninS (Nat.ne_of_lt (Nat.lt_of_lt_of_le F_15.lt z2_0)) nin0)).keep K20 (ninS (Nat.ne_of_lt (Nat.lt_of_lt_of_le F_15.lt z2_0)) nin0))
  obtain ⟨_, T35, L35, X35, ⟨rfl, M35, K35⟩, st35⟩ := callVirt X34 hx hZ hown (W_ hw 296 rfl) (W_ hw 297 rfl) (W_ hw 299 rfl) (notFace_of_selects (args := #[]) (mvT hZ (W_ hw 299 rfl))) (W_ hw 298 rfl) (W_ hw 44 rfl) (W_ hw 300 rfl) (by decide) (argsL := []) (rest := [(.double (own_d ga3))]) (own_m74 l Z a0 hw [] sob (own_d gb3) T20.heap n0 (((O0.keep K2 all0).keep K4 (allS gn2_0 all0)).keep K20 (allS gn2_0 all0)) (((F_15.keep K2).keep K4).keep K20) c36) K34 (((F_15.keep K2).keep K4).keep K20) (lenOf own_pd22 rfl) (pc := 85) (Ls := #[rv sh, .val (.double (own_d (ga0 + gb0))), s_, .val (.double (own_d (ga1 + gb1))), s_, .val (.double (own_d (ga2 + gb2))), s_, .val (.double (own_d ga3)), s_, rv r2, rv pgb]) (st := [(.ref sob), (.double (own_d ga3))]) rfl (by rw [hml]; rfl) (hb hby d_prog_19_3_85) (W := 2) (Nat.le_of_eq rfl) (by decide) (by decide) (by decide) (by decide)
  have N35 := Fr.app N34 M35
  refine Goes.via (B := T35.setTop (mkF m 88 #[rv sh, .val (.double (own_d (ga0 + gb0))), s_, .val (.double (own_d (ga1 + gb1))), s_, .val (.double (own_d (ga2 + gb2))), s_, .val (.double (own_d ga3)), s_, rv r2, rv pgb] [(.double (own_d gb3)), (.double (own_d ga3))])) (fun t k => st35 _ k) ?_
  refine Gv T35 89 [(.double (own_d (ga3 + gb3)))] (fun t k => XS.daddS X35.here hx rfl (hb hby d_prog_19_3_88) rfl (own_nna (own_up hga3 (by decide)) hgb3) (own_add (own_up hga3 (by decide)) hgb3) k) ?_
  refine Gv T35 91 [] (fun t k => XS.dstore X35.here hx rfl (hb hby d_prog_19_3_89) rfl (l' := #[rv sh, .val (.double (own_d (ga0 + gb0))), s_, .val (.double (own_d (ga1 + gb1))), s_, .val (.double (own_d (ga2 + gb2))), s_, .val (.double (own_d (ga3 + gb3))), s_, rv r2, rv pgb]) rfl k) ?_
  refine Gv T35 21 [] (fun t k => XS.goto X35.here hx rfl (pc0 := 91) (pc' := 21) rfl (hb hby d_prog_19_3_91) (by decide) (by decide) k) ?_
  refine Gv T35 23 [(.ref r2)] (fun t k => XS.aload X35.here hx rfl (hb hby d_prog_19_3_21) rfl rfl k) ?_
  obtain ⟨_, T37, L37, X37, ⟨r37, rfl, M37, K37, p37_0⟩, st37⟩ := callFace X35 hx hZ hown (W_ hw 249 rfl) (W_ hw 250 rfl) (mvT hZ (W_ hw 251 rfl)) (W_ hw 252 rfl) (W_ hw 253 rfl) (W_ hw 254 rfl) (W_ hw 255 rfl) (W_ hw 256 rfl) (W_ hw 229 rfl) (W_ hw 257 rfl) (by decide) (argsL := []) (rest := []) (own_m63 l Z a0 hw [] r2 li (2 : Int32) (2 : Int32) T20.heap n0 (((O0.keep K2 all0).keep K4 (allS gn2_0 all0)).keep K20 (allS gn2_0 all0)) f20_0 f20_1 f20_2 f20_3) K35 f20_0 (lenOf own_pd12 rfl) (pc := 23) (Ls := #[rv sh, .val (.double (own_d (ga0 + gb0))), s_, .val (.double (own_d (ga1 + gb1))), s_, .val (.double (own_d (ga2 + gb2))), s_, .val (.double (own_d (ga3 + gb3))), s_, rv r2, rv pgb]) (st := [(.ref r2)]) rfl (by rw [hml]; rfl) (hb hby d_prog_19_3_23) (W := 0) (Nat.le_of_eq rfl) (by decide) (by decide) (by decide) (by decide)
  have N37 := Fr.app N35 M37
  refine Goes.via (B := T37.setTop (mkF m 28 #[rv sh, .val (.double (own_d (ga0 + gb0))), s_, .val (.double (own_d (ga1 + gb1))), s_, .val (.double (own_d (ga2 + gb2))), s_, .val (.double (own_d (ga3 + gb3))), s_, rv r2, rv pgb] [(.int r37)])) (fun t k => st37 _ k) ?_
  refine Gv T37 94 [] (fun t k => XS.ifYes X37.here hx rfl (pc0 := 28) (pc' := 94) rfl (hb hby d_prog_19_3_28) rfl (XT.i0_eq_t (p37_0.trans (by decide))) (by decide) (by decide) k) ?_
  refine Gv T37 95 [(.ref sh)] (fun t k => XS.aloadN X37.here hx rfl (hb hby d_prog_19_3_94) rfl rfl k) ?_
  have c38 : Fld Z T20.heap sh "com/example/wakenitz/wakenitz/measure/ScoreSheet" "pages" "Ljava/util/List;" (.ref li) := (((F_2.keep K2 nin0).keep K4 (ninS (Nat.ne_of_lt (Nat.lt_of_lt_of_le F_1.lt z2_0)) nin0)).keep K20 (ninS (Nat.ne_of_lt (Nat.lt_of_lt_of_le F_1.lt z2_0)) nin0))
  obtain ⟨T39, X39, e39, st39⟩ := getF X37 hx hZ hown (host := "") (Or.inl (W_ hw 211 rfl)) Via.refl K37 c38 (g := (mkF m 95 #[rv sh, .val (.double (own_d (ga0 + gb0))), s_, .val (.double (own_d (ga1 + gb1))), s_, .val (.double (own_d (ga2 + gb2))), s_, .val (.double (own_d (ga3 + gb3))), s_, rv r2, rv pgb] [(.ref sh)])) rfl rfl (hb hby d_prog_19_3_95)
  refine Goes.via (B := T39.setTop (mkF m 98 #[rv sh, .val (.double (own_d (ga0 + gb0))), s_, .val (.double (own_d (ga1 + gb1))), s_, .val (.double (own_d (ga2 + gb2))), s_, .val (.double (own_d (ga3 + gb3))), s_, rv r2, rv pgb] [(.ref li)])) (fun t k => st39 _ k) ?_
  have c41 : Fld Z T20.heap li "java/util/ImmutableCollections$List12" "e0" "Ljava/lang/Object;" (.ref pga) := (c21.keep K20 (ninS (Nat.ne_of_lt (Nat.lt_of_lt_of_le F_3.lt z2_0)) nin0))
  have c42 : Fld Z T20.heap li "java/util/ImmutableCollections$List12" "e1" "Ljava/lang/Object;" (.ref pgb) := (c22.keep K20 (ninS (Nat.ne_of_lt (Nat.lt_of_lt_of_le F_3.lt z2_0)) nin0))
  obtain ⟨_, T40, L40, X40, ⟨rfl, M40, K40⟩, st40⟩ := callFace X39 hx hZ hown (W_ hw 301 rfl) (W_ hw 302 rfl) (mvT hZ (W_ hw 303 rfl)) (W_ hw 347 rfl) (W_ hw 340 rfl) (W_ hw 348 rfl) (W_ hw 349 rfl) (W_ hw 338 rfl) (W_ hw 321 rfl) (W_ hw 341 rfl) (by decide) (argsL := []) (rest := []) (own_m51 l Z a0 hw [] li pga pgb em T20.heap n0 (((O0.keep K2 all0).keep K4 (allS gn2_0 all0)).keep K20 (allS gn2_0 all0)) hne O_1 (((F_3.keep K2).keep K4).keep K20) c41 c42) e39 (((F_3.keep K2).keep K4).keep K20) (lenOf own_pd16 rfl) (pc := 98) (Ls := #[rv sh, .val (.double (own_d (ga0 + gb0))), s_, .val (.double (own_d (ga1 + gb1))), s_, .val (.double (own_d (ga2 + gb2))), s_, .val (.double (own_d (ga3 + gb3))), s_, rv r2, rv pgb]) (st := [(.ref li)]) rfl (by rw [hml]; rfl) (hb hby d_prog_19_3_98) (W := 0) (Nat.le_of_eq rfl) (by decide) (by decide) (by decide) (by decide)
  have N40 := Fr.app N37 M40
  refine Goes.via (B := T40.setTop (mkF m 103 #[rv sh, .val (.double (own_d (ga0 + gb0))), s_, .val (.double (own_d (ga1 + gb1))), s_, .val (.double (own_d (ga2 + gb2))), s_, .val (.double (own_d (ga3 + gb3))), s_, rv r2, rv pgb] [(.int (2 : Int32))])) (fun t k => st40 _ k) ?_
  refine Gv T40 105 [] (fun t k => XS.istore X40.here hx rfl (hb hby d_prog_19_3_103) rfl (l' := #[rv sh, .val (.double (own_d (ga0 + gb0))), s_, .val (.double (own_d (ga1 + gb1))), s_, .val (.double (own_d (ga2 + gb2))), s_, .val (.double (own_d (ga3 + gb3))), s_, iv (2 : Int32), rv pgb]) rfl k) ?_
  obtain ⟨T43, h43, X43, e43, E43, A43, D43, U43, st43⟩ := newO X40 hx hZ hown (W_ hw 307 rfl) (W_ hw 43 rfl) (W_ hw 44 rfl) K40 (g := (mkF m 105 #[rv sh, .val (.double (own_d (ga0 + gb0))), s_, .val (.double (own_d (ga1 + gb1))), s_, .val (.double (own_d (ga2 + gb2))), s_, .val (.double (own_d (ga3 + gb3))), s_, iv (2 : Int32), rv pgb] [])) rfl (hb hby d_prog_19_3_105) (by decide) (by decide)
  obtain ⟨b43, g43⟩ : ∃ z, z = T20.heap.size := ⟨_, rfl⟩
  rw [← g43] at A43 D43 U43 st43
  have gn43 : n0 ≤ b43 := Nat.le_trans (old_le (((O0.keep K2 all0).keep K4 (allS gn2_0 all0)).keep K20 (allS gn2_0 all0))) (Nat.le_of_eq g43.symm)
  have gs43 : h0.size ≤ b43 := Nat.le_trans ((((Keep.refl h0 []).trans K2 all0).trans K4 (allS (Or.inr gs2_0) all0)).trans K20 (allS (Or.inr gs2_0) all0)).1 (Nat.le_of_eq g43.symm)
  have F43_precision : Fld Z h43 b43 "com/example/wakenitz/wakenitz/measure/Score" "precision" "D" (.double (0 : UInt64)) := D43 (Or.inr (W_ hw 60 rfl)) (ty := .double) (by decide)
  have F43_recall : Fld Z h43 b43 "com/example/wakenitz/wakenitz/measure/Score" "recall" "D" (.double (0 : UInt64)) := D43 (Or.inr (W_ hw 62 rfl)) (ty := .double) (by decide)
  have F43_f1 : Fld Z h43 b43 "com/example/wakenitz/wakenitz/measure/Score" "f1" "D" (.double (0 : UInt64)) := D43 (Or.inr (W_ hw 64 rfl)) (ty := .double) (by decide)
  have F43_similarity : Fld Z h43 b43 "com/example/wakenitz/wakenitz/measure/Score" "similarity" "D" (.double (0 : UInt64)) := D43 (Or.inr (W_ hw 66 rfl)) (ty := .double) (by decide)
  refine Goes.via (B := T43.setTop (mkF m 108 #[rv sh, .val (.double (own_d (ga0 + gb0))), s_, .val (.double (own_d (ga1 + gb1))), s_, .val (.double (own_d (ga2 + gb2))), s_, .val (.double (own_d (ga3 + gb3))), s_, iv (2 : Int32), rv pgb] [(.ref b43)])) (fun t k => st43 _ k) ?_
  refine Gv T43 109 [(.ref b43), (.ref b43)] (fun t k => XS.dup X43.here hx rfl (hb hby d_prog_19_3_108) rfl rfl k) ?_
  refine Gv T43 110 [(.double (own_d (ga0 + gb0))), (.ref b43), (.ref b43)] (fun t k => XS.dloadN X43.here hx rfl (hb hby d_prog_19_3_109) rfl k) ?_
  refine Gv T43 112 [(.int (2 : Int32)), (.double (own_d (ga0 + gb0))), (.ref b43), (.ref b43)] (fun t k => XS.iload X43.here hx rfl (hb hby d_prog_19_3_110) rfl k) ?_
  refine Gv T43 113 [(.double (FP.i2d (2 : Int32))), (.double (own_d (ga0 + gb0))), (.ref b43), (.ref b43)] (fun t k => XS.i2dS X43.here hx rfl (hb hby d_prog_19_3_112) rfl rfl k) ?_
  refine Gv T43 114 [(.double (own_q (2 : Int32) (ga0 + gb0))), (.ref b43), (.ref b43)] (fun t k => XS.ddivS X43.here hx rfl (hb hby d_prog_19_3_113) rfl (own_qs (own_up (own_sum (a := 16) (b := 16) hga0 hgb0 (by decide)) (by decide)) (by decide)).1 rfl k) ?_
  refine Gv T43 115 [(.double (own_d (ga1 + gb1))), (.double (own_q (2 : Int32) (ga0 + gb0))), (.ref b43), (.ref b43)] (fun t k => XS.dloadN X43.here hx rfl (hb hby d_prog_19_3_114) rfl k) ?_
  refine Gv T43 117 [(.int (2 : Int32)), (.double (own_d (ga1 + gb1))), (.double (own_q (2 : Int32) (ga0 + gb0))), (.ref b43), (.ref b43)] (fun t k => XS.iload X43.here hx rfl (hb hby d_prog_19_3_115) rfl k) ?_
  refine Gv T43 118 [(.double (FP.i2d (2 : Int32))), (.double (own_d (ga1 + gb1))), (.double (own_q (2 : Int32) (ga0 + gb0))), (.ref b43), (.ref b43)] (fun t k => XS.i2dS X43.here hx rfl (hb hby d_prog_19_3_117) rfl rfl k) ?_
  refine Gv T43 119 [(.double (own_q (2 : Int32) (ga1 + gb1))), (.double (own_q (2 : Int32) (ga0 + gb0))), (.ref b43), (.ref b43)] (fun t k => XS.ddivS X43.here hx rfl (hb hby d_prog_19_3_118) rfl (own_qs (own_up (own_sum (a := 16) (b := 16) hga1 hgb1 (by decide)) (by decide)) (by decide)).1 rfl k) ?_
  refine Gv T43 121 [(.double (own_d (ga2 + gb2))), (.double (own_q (2 : Int32) (ga1 + gb1))), (.double (own_q (2 : Int32) (ga0 + gb0))), (.ref b43), (.ref b43)] (fun t k => XS.dload X43.here hx rfl (hb hby d_prog_19_3_119) rfl k) ?_
  refine Gv T43 123 [(.int (2 : Int32)), (.double (own_d (ga2 + gb2))), (.double (own_q (2 : Int32) (ga1 + gb1))), (.double (own_q (2 : Int32) (ga0 + gb0))), (.ref b43), (.ref b43)] (fun t k => XS.iload X43.here hx rfl (hb hby d_prog_19_3_121) rfl k) ?_
  refine Gv T43 124 [(.double (FP.i2d (2 : Int32))), (.double (own_d (ga2 + gb2))), (.double (own_q (2 : Int32) (ga1 + gb1))), (.double (own_q (2 : Int32) (ga0 + gb0))), (.ref b43), (.ref b43)] (fun t k => XS.i2dS X43.here hx rfl (hb hby d_prog_19_3_123) rfl rfl k) ?_
  refine Gv T43 125 [(.double (own_q (2 : Int32) (ga2 + gb2))), (.double (own_q (2 : Int32) (ga1 + gb1))), (.double (own_q (2 : Int32) (ga0 + gb0))), (.ref b43), (.ref b43)] (fun t k => XS.ddivS X43.here hx rfl (hb hby d_prog_19_3_124) rfl (own_qs (own_up (own_sum (a := 16) (b := 16) hga2 hgb2 (by decide)) (by decide)) (by decide)).1 rfl k) ?_
  refine Gv T43 127 [(.double (own_d (ga3 + gb3))), (.double (own_q (2 : Int32) (ga2 + gb2))), (.double (own_q (2 : Int32) (ga1 + gb1))), (.double (own_q (2 : Int32) (ga0 + gb0))), (.ref b43), (.ref b43)] (fun t k => XS.dload X43.here hx rfl (hb hby d_prog_19_3_125) rfl k) ?_
  refine Gv T43 129 [(.int (2 : Int32)), (.double (own_d (ga3 + gb3))), (.double (own_q (2 : Int32) (ga2 + gb2))), (.double (own_q (2 : Int32) (ga1 + gb1))), (.double (own_q (2 : Int32) (ga0 + gb0))), (.ref b43), (.ref b43)] (fun t k => XS.iload X43.here hx rfl (hb hby d_prog_19_3_127) rfl k) ?_
  refine Gv T43 130 [(.double (FP.i2d (2 : Int32))), (.double (own_d (ga3 + gb3))), (.double (own_q (2 : Int32) (ga2 + gb2))), (.double (own_q (2 : Int32) (ga1 + gb1))), (.double (own_q (2 : Int32) (ga0 + gb0))), (.ref b43), (.ref b43)] (fun t k => XS.i2dS X43.here hx rfl (hb hby d_prog_19_3_129) rfl rfl k) ?_
  refine Gv T43 131 [(.double (own_q (2 : Int32) (ga3 + gb3))), (.double (own_q (2 : Int32) (ga2 + gb2))), (.double (own_q (2 : Int32) (ga1 + gb1))), (.double (own_q (2 : Int32) (ga0 + gb0))), (.ref b43), (.ref b43)] (fun t k => XS.ddivS X43.here hx rfl (hb hby d_prog_19_3_130) rfl (own_qs (own_up (own_sum (a := 16) (b := 16) hga3 hgb3 (by decide)) (by decide)) (by decide)).1 rfl k) ?_
  obtain ⟨_, T44, L44, X44, ⟨rfl, M44, K44, f44_0, f44_1, f44_2, f44_3, f44_4⟩, st44⟩ := callInit X43 hx hZ rfl hown (W_ hw 308 rfl) (W_ hw 51 rfl) (W_ hw 44 rfl) (W_ hw 52 rfl) (by decide) (argsL := [(.double (own_q (2 : Int32) (ga0 + gb0))), (.double (own_q (2 : Int32) (ga1 + gb1))), (.double (own_q (2 : Int32) (ga2 + gb2))), (.double (own_q (2 : Int32) (ga3 + gb3)))]) (rest := [(.ref b43)]) (own_m4 l Z a0 hw [] b43 (own_q (2 : Int32) (ga0 + gb0)) (own_q (2 : Int32) (ga1 + gb1)) (own_q (2 : Int32) (ga2 + gb2)) (own_q (2 : Int32) (ga3 + gb3)) h43 n0 ((((O0.keep K2 all0).keep K4 (allS gn2_0 all0)).keep K20 (allS gn2_0 all0)).ext E43) gn43 A43 F43_precision F43_recall F43_f1 F43_similarity) e43 (lenOf own_pd2 rfl) (pc := 131) (Ls := #[rv sh, .val (.double (own_d (ga0 + gb0))), s_, .val (.double (own_d (ga1 + gb1))), s_, .val (.double (own_d (ga2 + gb2))), s_, .val (.double (own_d (ga3 + gb3))), s_, iv (2 : Int32), rv pgb]) (st := [(.double (own_q (2 : Int32) (ga3 + gb3))), (.double (own_q (2 : Int32) (ga2 + gb2))), (.double (own_q (2 : Int32) (ga1 + gb1))), (.double (own_q (2 : Int32) (ga0 + gb0))), (.ref b43), (.ref b43)]) rfl (by rw [hml]; rfl) (hb hby d_prog_19_3_131) (W := 1) (Nat.le_of_eq rfl) (by decide) (by decide) (by decide) (by decide)
  have N44 := Fr.app N40 M44
  refine Goes.via (B := T44.setTop (mkF m 134 #[rv sh, .val (.double (own_d (ga0 + gb0))), s_, .val (.double (own_d (ga1 + gb1))), s_, .val (.double (own_d (ga2 + gb2))), s_, .val (.double (own_d (ga3 + gb3))), s_, iv (2 : Int32), rv pgb] [(.ref b43)])) (fun t k => st44 _ k) ?_
  exact finA (Q := (own_Q76 Z sh li pga pgb em soa sob ga0 ga1 ga2 ga3 gb0 gb1 gb2 gb3 h0 n0)) (F := FrameEnd) (C := ((Rm 3 2 8 45)).cells) (S := ((Rm 3 2 8 45)).slots) X44 hx Bd.returns rfl rfl rfl (hb hby d_prog_19_3_134) rfl ⟨b43, rfl, N44, ((((((Keep.refl h0 []).trans K2 all0).trans K4 (allS (Or.inr gs2_0) all0)).trans K20 (allS (Or.inr gs2_0) all0)).ext E43).trans K44 (allS (Or.inr gs43) all0)), gs43, f44_0, f44_1, f44_2, f44_3, f44_4⟩ (lvN X44 hlk (by decide) (by decide))
theorem own_ef77 (m : MethodId) (x0 : Addr)  : entryFrame m #[(.ref x0)] 11 = mkF m 0 #[rv x0, u_, u_, u_, u_, u_, u_, u_, u_, u_, u_] [] := by first | (simp [entryFrame, mkF, argsToLocals, Value.category]; done) | rfl
abbrev own_Q77 (Z : State) (sh : Addr) (li : Addr) (pga : Addr) (pgb : Addr) (pgc : Addr) (ar : Addr) (ka : ClassId) (soa : Addr) (sob : Addr) (soc : Addr) (ga0 : Int32) (ga1 : Int32) (ga2 : Int32) (ga3 : Int32) (gb0 : Int32) (gb1 : Int32) (gb2 : Int32) (gb3 : Int32) (gc0 : Int32) (gc1 : Int32) (gc2 : Int32) (gc3 : Int32) (h0 : Heap) (n0 : Nat) (v : Option Value) (h : Heap) (L : List Loc) : Prop := ∃ r : Addr, v = some (.ref r) ∧ Fr n0 L ∧ Keep h0 h [] ∧ h0.size ≤ r ∧ Exa Z h r "com/example/wakenitz/wakenitz/measure/Score" ∧ Fld Z h r "com/example/wakenitz/wakenitz/measure/Score" "precision" "D" (.double (own_q (3 : Int32) ((ga0 + gb0) + gc0))) ∧ Fld Z h r "com/example/wakenitz/wakenitz/measure/Score" "recall" "D" (.double (own_q (3 : Int32) ((ga1 + gb1) + gc1))) ∧ Fld Z h r "com/example/wakenitz/wakenitz/measure/Score" "f1" "D" (.double (own_q (3 : Int32) ((ga2 + gb2) + gc2))) ∧ Fld Z h r "com/example/wakenitz/wakenitz/measure/Score" "similarity" "D" (.double (own_q (3 : Int32) ((ga3 + gb3) + gc3)))
set_option maxRecDepth 65536 in
set_option maxHeartbeats 40000000 in
theorem own_m77 (l : Launch) (Z : State) (a0 : Array Value) (hw : ∀ d ∈ tables_1, d.before a0 Z = true) (ws : List Jvm.Cond) (sh : Addr) (li : Addr) (pga : Addr) (pgb : Addr) (pgc : Addr) (ar : Addr) (ka : ClassId) (soa : Addr) (sob : Addr) (soc : Addr) (ga0 : Int32) (ga1 : Int32) (ga2 : Int32) (ga3 : Int32) (gb0 : Int32) (gb1 : Int32) (gb2 : Int32) (gb3 : Int32) (gc0 : Int32) (gc1 : Int32) (gc2 : Int32) (gc3 : Int32) (h0 : Heap) (n0 : Nat) (O0 : Old Z n0 h0) (hga0 : 0 ≤ ga0.toInt ∧ ga0.toInt ≤ 16) (hga1 : 0 ≤ ga1.toInt ∧ ga1.toInt ≤ 16) (hga2 : 0 ≤ ga2.toInt ∧ ga2.toInt ≤ 16) (hga3 : 0 ≤ ga3.toInt ∧ ga3.toInt ≤ 16) (hgb0 : 0 ≤ gb0.toInt ∧ gb0.toInt ≤ 16) (hgb1 : 0 ≤ gb1.toInt ∧ gb1.toInt ≤ 16) (hgb2 : 0 ≤ gb2.toInt ∧ gb2.toInt ≤ 16) (hgb3 : 0 ≤ gb3.toInt ∧ gb3.toInt ≤ 16) (hgc0 : 0 ≤ gc0.toInt ∧ gc0.toInt ≤ 16) (hgc1 : 0 ≤ gc1.toInt ∧ gc1.toInt ≤ 16) (hgc2 : 0 ≤ gc2.toInt ∧ gc2.toInt ≤ 16) (hgc3 : 0 ≤ gc3.toInt ∧ gc3.toInt ≤ 16) (F_1 : Exa Z h0 sh "com/example/wakenitz/wakenitz/measure/ScoreSheet") (F_2 : Fld Z h0 sh "com/example/wakenitz/wakenitz/measure/ScoreSheet" "pages" "Ljava/util/List;" (.ref li)) (F_3 : Exa Z h0 li "java/util/ImmutableCollections$ListN") (F_4 : Fld Z h0 li "java/util/ImmutableCollections$ListN" "elements" "[Ljava/lang/Object;" (.ref ar)) (F_5 : Arv Z h0 ar ka (.object "java/lang/Object") (3 : Int32) [(.ref pga), (.ref pgb), (.ref pgc)] .null) (F_6 : Exa Z h0 pga "com/example/wakenitz/wakenitz/measure/ScoreSheet$PageScore") (F_7 : Fld Z h0 pga "com/example/wakenitz/wakenitz/measure/ScoreSheet$PageScore" "score" "Lcom/example/wakenitz/wakenitz/measure/Score;" (.ref soa)) (F_8 : Exa Z h0 soa "com/example/wakenitz/wakenitz/measure/Score") (F_9 : Fld Z h0 soa "com/example/wakenitz/wakenitz/measure/Score" "precision" "D" (.double (own_d ga0))) (F_10 : Fld Z h0 soa "com/example/wakenitz/wakenitz/measure/Score" "recall" "D" (.double (own_d ga1))) (F_11 : Fld Z h0 soa "com/example/wakenitz/wakenitz/measure/Score" "f1" "D" (.double (own_d ga2))) (F_12 : Fld Z h0 soa "com/example/wakenitz/wakenitz/measure/Score" "similarity" "D" (.double (own_d ga3))) (F_13 : Exa Z h0 pgb "com/example/wakenitz/wakenitz/measure/ScoreSheet$PageScore") (F_14 : Fld Z h0 pgb "com/example/wakenitz/wakenitz/measure/ScoreSheet$PageScore" "score" "Lcom/example/wakenitz/wakenitz/measure/Score;" (.ref sob)) (F_15 : Exa Z h0 sob "com/example/wakenitz/wakenitz/measure/Score") (F_16 : Fld Z h0 sob "com/example/wakenitz/wakenitz/measure/Score" "precision" "D" (.double (own_d gb0))) (F_17 : Fld Z h0 sob "com/example/wakenitz/wakenitz/measure/Score" "recall" "D" (.double (own_d gb1))) (F_18 : Fld Z h0 sob "com/example/wakenitz/wakenitz/measure/Score" "f1" "D" (.double (own_d gb2))) (F_19 : Fld Z h0 sob "com/example/wakenitz/wakenitz/measure/Score" "similarity" "D" (.double (own_d gb3))) (F_20 : Exa Z h0 pgc "com/example/wakenitz/wakenitz/measure/ScoreSheet$PageScore") (F_21 : Fld Z h0 pgc "com/example/wakenitz/wakenitz/measure/ScoreSheet$PageScore" "score" "Lcom/example/wakenitz/wakenitz/measure/Score;" (.ref soc)) (F_22 : Exa Z h0 soc "com/example/wakenitz/wakenitz/measure/Score") (F_23 : Fld Z h0 soc "com/example/wakenitz/wakenitz/measure/Score" "precision" "D" (.double (own_d gc0))) (F_24 : Fld Z h0 soc "com/example/wakenitz/wakenitz/measure/Score" "recall" "D" (.double (own_d gc1))) (F_25 : Fld Z h0 soc "com/example/wakenitz/wakenitz/measure/Score" "f1" "D" (.double (own_d gc2))) (F_26 : Fld Z h0 soc "com/example/wakenitz/wakenitz/measure/Score" "similarity" "D" (.double (own_d gc3))) :
    Ctr l Z (⟨"com/example/wakenitz/wakenitz/measure/ScoreSheet", "mean", "()Lcom/example/wakenitz/wakenitz/measure/Score;"⟩ : MethodName) prog_19_method_3_code 11 (some (.object "com/example/wakenitz/wakenitz/measure/Score")) (Rm 3 2 8 45) #[(.ref sh)] h0 (own_Q77 Z sh li pga pgb pgc ar ka soa sob soc ga0 ga1 ga2 ga3 gb0 gb1 gb2 gb3 gc0 gc1 gc2 gc3 h0 n0) ws := by
  refine MetFree.of_bodySF (plainFor_of_name own_pn15) hisR ?_
  intro p e s m args below meth c s₁ Bd hml0 hP hK
  obtain ⟨rfl, hZ, hh⟩ := hP
  have hx := Bd.exec
  have hby := Bd.bytes
  have hlk : meth.locks = false := Bd.notSynchronized
  have hml : c.maxLocals = 11 := hml0
  have hown : s.vm.findClass "com/example/wakenitz/wakenitz/measure/ScoreSheet" = some m.cls := findClass_of_methodNamed Bd.named
  have hnm := (name_of_methodNamed Bd.named Bd.method).1
  have X0 : Stand p l e (Rm 3 2 8 45) s m #[(.ref sh)] below meth c s₁ [] 0 0 := Stand.of_body Bd
  have e0 : s₁.heap = h0 := by rw [← hh, Bd.state]; rfl
  have N0 := Fr.nil n0
  show Goes p.tables e below (fun t o => ∃ v L, o = .returned v ∧ (own_Q77 Z sh li pga pgb pgc ar ka soa sob soc ga0 ga1 ga2 ga3 gb0 gb1 gb2 gb3 gc0 gc1 gc2 gc3 h0 n0) v t.heap L ∧ FrameEnd s o t L ((Rm 3 2 8 45)).cells ((Rm 3 2 8 45)).slots) _
  refine Goes.via (B := s₁.setTop (mkF m 0 #[rv sh, u_, u_, u_, u_, u_, u_, u_, u_, u_, u_] [])) (fun t k => castTop (own_ef77 m sh) k) ?_
  refine Gv s₁ 1 [(.double FP.dconst0)] (fun t k => XS.dconst0 X0.here hx rfl (hb hby d_prog_19_3_0) rfl k) ?_
  refine Gv s₁ 2 [] (fun t k => XS.dstoreN X0.here hx rfl (hb hby d_prog_19_3_1) rfl (l' := #[rv sh, .val (.double FP.dconst0), s_, u_, u_, u_, u_, u_, u_, u_, u_]) rfl k) ?_
  refine Gv s₁ 3 [(.double FP.dconst0)] (fun t k => XS.dconst0 X0.here hx rfl (hb hby d_prog_19_3_2) rfl k) ?_
  refine Gv s₁ 4 [] (fun t k => XS.dstoreN X0.here hx rfl (hb hby d_prog_19_3_3) rfl (l' := #[rv sh, .val (.double FP.dconst0), s_, .val (.double FP.dconst0), s_, u_, u_, u_, u_, u_, u_]) rfl k) ?_
  refine Gv s₁ 5 [(.double FP.dconst0)] (fun t k => XS.dconst0 X0.here hx rfl (hb hby d_prog_19_3_4) rfl k) ?_
  refine Gv s₁ 7 [] (fun t k => XS.dstore X0.here hx rfl (hb hby d_prog_19_3_5) rfl (l' := #[rv sh, .val (.double FP.dconst0), s_, .val (.double FP.dconst0), s_, .val (.double FP.dconst0), s_, u_, u_, u_, u_]) rfl k) ?_
  refine Gv s₁ 8 [(.double FP.dconst0)] (fun t k => XS.dconst0 X0.here hx rfl (hb hby d_prog_19_3_7) rfl k) ?_
  refine Gv s₁ 10 [] (fun t k => XS.dstore X0.here hx rfl (hb hby d_prog_19_3_8) rfl (l' := #[rv sh, .val (.double FP.dconst0), s_, .val (.double FP.dconst0), s_, .val (.double FP.dconst0), s_, .val (.double FP.dconst0), s_, u_, u_]) rfl k) ?_
  refine Gv s₁ 11 [(.ref sh)] (fun t k => XS.aloadN X0.here hx rfl (hb hby d_prog_19_3_10) rfl rfl k) ?_
  obtain ⟨T1, X1, e1, st1⟩ := getF X0 hx hZ hown (host := "") (Or.inl (W_ hw 211 rfl)) Via.refl e0 F_2 (g := (mkF m 11 #[rv sh, .val (.double FP.dconst0), s_, .val (.double FP.dconst0), s_, .val (.double FP.dconst0), s_, .val (.double FP.dconst0), s_, u_, u_] [(.ref sh)])) rfl rfl (hb hby d_prog_19_3_11)
  refine Goes.via (B := T1.setTop (mkF m 14 #[rv sh, .val (.double FP.dconst0), s_, .val (.double FP.dconst0), s_, .val (.double FP.dconst0), s_, .val (.double FP.dconst0), s_, u_, u_] [(.ref li)])) (fun t k => st1 _ k) ?_
  obtain ⟨_, T2, L2, X2, ⟨r2, rfl, M2, K2, z2_0, f2_0, f2_1, f2_2, f2_3⟩, st2⟩ := callFace X1 hx hZ hown (W_ hw 218 rfl) (W_ hw 219 rfl) (mvT hZ (W_ hw 220 rfl)) (W_ hw 221 rfl) (W_ hw 222 rfl) (W_ hw 223 rfl) (W_ hw 224 rfl) (W_ hw 225 rfl) (W_ hw 197 rfl) (W_ hw 226 rfl) (by decide) (argsL := []) (rest := []) (own_m62 l Z a0 hw [] li pga pgb pgc ar ka h0 n0 O0 F_3 F_4 F_5) e1 F_3 (lenOf own_pd19 rfl) (pc := 14) (Ls := #[rv sh, .val (.double FP.dconst0), s_, .val (.double FP.dconst0), s_, .val (.double FP.dconst0), s_, .val (.double FP.dconst0), s_, u_, u_]) (st := [(.ref li)]) rfl (by rw [hml]; rfl) (hb hby d_prog_19_3_14) (W := 0) (Nat.le_of_eq rfl) (by decide) (by decide) (by decide) (by decide)
  have N2 := Fr.app N0 M2
  have gn2_0 : n0 ≤ r2 := Nat.le_trans (old_le O0) z2_0
  have gs2_0 : h0.size ≤ r2 := Nat.le_trans (Keep.refl h0 []).1 z2_0
  refine Goes.via (B := T2.setTop (mkF m 19 #[rv sh, .val (.double FP.dconst0), s_, .val (.double FP.dconst0), s_, .val (.double FP.dconst0), s_, .val (.double FP.dconst0), s_, u_, u_] [(.ref r2)])) (fun t k => st2 _ k) ?_
  refine Gv T2 21 [] (fun t k => XS.astore X2.here hx rfl (hb hby d_prog_19_3_19) rfl rfl (l' := #[rv sh, .val (.double FP.dconst0), s_, .val (.double FP.dconst0), s_, .val (.double FP.dconst0), s_, .val (.double FP.dconst0), s_, rv r2, u_]) rfl k) ?_
  refine Gv T2 23 [(.ref r2)] (fun t k => XS.aload X2.here hx rfl (hb hby d_prog_19_3_21) rfl rfl k) ?_
  obtain ⟨_, T3, L3, X3, ⟨r3, rfl, M3, K3, p3_0⟩, st3⟩ := callFace X2 hx hZ hown (W_ hw 249 rfl) (W_ hw 250 rfl) (mvT hZ (W_ hw 251 rfl)) (W_ hw 252 rfl) (W_ hw 253 rfl) (W_ hw 254 rfl) (W_ hw 255 rfl) (W_ hw 256 rfl) (W_ hw 229 rfl) (W_ hw 257 rfl) (by decide) (argsL := []) (rest := []) (own_m63 l Z a0 hw [] r2 li (3 : Int32) (0 : Int32) T2.heap n0 (O0.keep K2 all0) f2_0 f2_1 f2_2 f2_3) rfl f2_0 (lenOf own_pd12 rfl) (pc := 23) (Ls := #[rv sh, .val (.double FP.dconst0), s_, .val (.double FP.dconst0), s_, .val (.double FP.dconst0), s_, .val (.double FP.dconst0), s_, rv r2, u_]) (st := [(.ref r2)]) rfl (by rw [hml]; rfl) (hb hby d_prog_19_3_23) (W := 0) (Nat.le_of_eq rfl) (by decide) (by decide) (by decide) (by decide)
  have N3 := Fr.app N2 M3
  refine Goes.via (B := T3.setTop (mkF m 28 #[rv sh, .val (.double FP.dconst0), s_, .val (.double FP.dconst0), s_, .val (.double FP.dconst0), s_, .val (.double FP.dconst0), s_, rv r2, u_] [(.int r3)])) (fun t k => st3 _ k) ?_
  refine Gv T3 31 [] (fun t k => XS.ifNo X3.here hx rfl (hb hby d_prog_19_3_28) rfl (XT.i0_eq_f (by rw [p3_0]; decide)) k) ?_
  refine Gv T3 33 [(.ref r2)] (fun t k => XS.aload X3.here hx rfl (hb hby d_prog_19_3_31) rfl rfl k) ?_
  obtain ⟨_, T4, L4, X4, ⟨rfl, M4, K4, f4_0, f4_1, f4_2, f4_3⟩, st4⟩ := callFaceX X3 hx hZ hown (W_ hw 258 rfl) (W_ hw 259 rfl) (mvT hZ (W_ hw 260 rfl)) (W_ hw 261 rfl) (W_ hw 262 rfl) (W_ hw 263 rfl) (W_ hw 264 rfl) (W_ hw 256 rfl) (W_ hw 229 rfl) (W_ hw 265 rfl) (by decide) (argsL := []) (rest := []) (own_m67 l Z a0 hw [] r2 li pga pgb pgc ar ka T2.heap n0 (O0.keep K2 all0) gn2_0 f2_0 f2_1 f2_2 f2_3 (F_3.keep K2) (F_4.keep K2 nin0) (F_5.keep K2 nin0)) K3 f2_0 (lenOf own_pd20 rfl) (pc := 33) (Ls := #[rv sh, .val (.double FP.dconst0), s_, .val (.double FP.dconst0), s_, .val (.double FP.dconst0), s_, .val (.double FP.dconst0), s_, rv r2, u_]) (st := [(.ref r2)]) rfl (by rw [hml]; rfl) (hb hby d_prog_19_3_33) (W := 0) (Nat.le_of_eq rfl) (by decide) (by decide) (by decide) (by decide)
  have N4 := Fr.app N3 M4
  refine Goes.via (B := T4.setTop (mkF m 38 #[rv sh, .val (.double FP.dconst0), s_, .val (.double FP.dconst0), s_, .val (.double FP.dconst0), s_, .val (.double FP.dconst0), s_, rv r2, u_] [(.ref pga)])) (fun t k => st4 _ k) ?_
  obtain ⟨T5, X5, e5, st5⟩ := castY X4 hx hZ hown (W_ hw 274 rfl) rfl (Ins.self ((F_6.keep K2).keep K4)) (g := (mkF m 38 #[rv sh, .val (.double FP.dconst0), s_, .val (.double FP.dconst0), s_, .val (.double FP.dconst0), s_, .val (.double FP.dconst0), s_, rv r2, u_] [(.ref pga)])) rfl rfl (hb hby d_prog_19_3_38)
  refine Goes.via (B := T5.setTop (mkF m 41 #[rv sh, .val (.double FP.dconst0), s_, .val (.double FP.dconst0), s_, .val (.double FP.dconst0), s_, .val (.double FP.dconst0), s_, rv r2, u_] [(.ref pga)])) (fun t k => st5 _ k) ?_
  refine Gv T5 43 [] (fun t k => XS.astore X5.here hx rfl (hb hby d_prog_19_3_41) rfl rfl (l' := #[rv sh, .val (.double FP.dconst0), s_, .val (.double FP.dconst0), s_, .val (.double FP.dconst0), s_, .val (.double FP.dconst0), s_, rv r2, rv pga]) rfl k) ?_
  refine Gv T5 44 [(.double FP.dconst0)] (fun t k => XS.dloadN X5.here hx rfl (hb hby d_prog_19_3_43) rfl k) ?_
  refine Gv T5 46 [(.ref pga), (.double FP.dconst0)] (fun t k => XS.aload X5.here hx rfl (hb hby d_prog_19_3_44) rfl rfl k) ?_
  have c7 : Fld Z T4.heap pga "com/example/wakenitz/wakenitz/measure/ScoreSheet$PageScore" "score" "Lcom/example/wakenitz/wakenitz/measure/Score;" (.ref soa) := ((F_7.keep K2 nin0).keep K4 (ninS (Nat.ne_of_lt (Nat.lt_of_lt_of_le F_6.lt z2_0)) nin0))
  obtain ⟨_, T6, L6, X6, ⟨rfl, M6, K6⟩, st6⟩ := callVirt X5 hx hZ hown (W_ hw 276 rfl) (W_ hw 277 rfl) (W_ hw 279 rfl) (notFace_of_selects (args := #[]) (mvT hZ (W_ hw 279 rfl))) (W_ hw 278 rfl) (W_ hw 29 rfl) (W_ hw 280 rfl) (by decide) (argsL := []) (rest := [(.double FP.dconst0)]) (own_m70 l Z a0 hw [] pga soa T4.heap n0 ((O0.keep K2 all0).keep K4 (allS gn2_0 all0)) ((F_6.keep K2).keep K4) c7) e5 ((F_6.keep K2).keep K4) (lenOf own_pd21 rfl) (pc := 46) (Ls := #[rv sh, .val (.double FP.dconst0), s_, .val (.double FP.dconst0), s_, .val (.double FP.dconst0), s_, .val (.double FP.dconst0), s_, rv r2, rv pga]) (st := [(.ref pga), (.double FP.dconst0)]) rfl (by rw [hml]; rfl) (hb hby d_prog_19_3_46) (W := 2) (Nat.le_of_eq rfl) (by decide) (by decide) (by decide) (by decide)
  have N6 := Fr.app N4 M6
  refine Goes.via (B := T6.setTop (mkF m 49 #[rv sh, .val (.double FP.dconst0), s_, .val (.double FP.dconst0), s_, .val (.double FP.dconst0), s_, .val (.double FP.dconst0), s_, rv r2, rv pga] [(.ref soa), (.double FP.dconst0)])) (fun t k => st6 _ k) ?_
  have c9 : Fld Z T4.heap soa "com/example/wakenitz/wakenitz/measure/Score" "precision" "D" (.double (own_d ga0)) := ((F_9.keep K2 nin0).keep K4 (ninS (Nat.ne_of_lt (Nat.lt_of_lt_of_le F_8.lt z2_0)) nin0))
  obtain ⟨_, T8, L8, X8, ⟨rfl, M8, K8⟩, st8⟩ := callVirt X6 hx hZ hown (W_ hw 281 rfl) (W_ hw 282 rfl) (W_ hw 284 rfl) (notFace_of_selects (args := #[]) (mvT hZ (W_ hw 284 rfl))) (W_ hw 283 rfl) (W_ hw 44 rfl) (W_ hw 285 rfl) (by decide) (argsL := []) (rest := [(.double FP.dconst0)]) (own_m71 l Z a0 hw [] soa (own_d ga0) T4.heap n0 ((O0.keep K2 all0).keep K4 (allS gn2_0 all0)) ((F_8.keep K2).keep K4) c9) K6 ((F_8.keep K2).keep K4) (lenOf own_pd22 rfl) (pc := 49) (Ls := #[rv sh, .val (.double FP.dconst0), s_, .val (.double FP.dconst0), s_, .val (.double FP.dconst0), s_, .val (.double FP.dconst0), s_, rv r2, rv pga]) (st := [(.ref soa), (.double FP.dconst0)]) rfl (by rw [hml]; rfl) (hb hby d_prog_19_3_49) (W := 2) (Nat.le_of_eq rfl) (by decide) (by decide) (by decide) (by decide)
  have N8 := Fr.app N6 M8
  refine Goes.via (B := T8.setTop (mkF m 52 #[rv sh, .val (.double FP.dconst0), s_, .val (.double FP.dconst0), s_, .val (.double FP.dconst0), s_, .val (.double FP.dconst0), s_, rv r2, rv pga] [(.double (own_d ga0)), (.double FP.dconst0)])) (fun t k => st8 _ k) ?_
  refine Gv T8 53 [(.double (own_d ga0))] (fun t k => XS.daddS X8.here hx rfl (hb hby d_prog_19_3_52) rfl (own_nn0 hga0) (own_zero hga0) k) ?_
  refine Gv T8 54 [] (fun t k => XS.dstoreN X8.here hx rfl (hb hby d_prog_19_3_53) rfl (l' := #[rv sh, .val (.double (own_d ga0)), s_, .val (.double FP.dconst0), s_, .val (.double FP.dconst0), s_, .val (.double FP.dconst0), s_, rv r2, rv pga]) rfl k) ?_
  refine Gv T8 55 [(.double FP.dconst0)] (fun t k => XS.dloadN X8.here hx rfl (hb hby d_prog_19_3_54) rfl k) ?_
  refine Gv T8 57 [(.ref pga), (.double FP.dconst0)] (fun t k => XS.aload X8.here hx rfl (hb hby d_prog_19_3_55) rfl rfl k) ?_
  obtain ⟨_, T10, L10, X10, ⟨rfl, M10, K10⟩, st10⟩ := callVirt X8 hx hZ hown (W_ hw 276 rfl) (W_ hw 277 rfl) (W_ hw 279 rfl) (notFace_of_selects (args := #[]) (mvT hZ (W_ hw 279 rfl))) (W_ hw 278 rfl) (W_ hw 29 rfl) (W_ hw 280 rfl) (by decide) (argsL := []) (rest := [(.double FP.dconst0)]) (own_m70 l Z a0 hw [] pga soa T4.heap n0 ((O0.keep K2 all0).keep K4 (allS gn2_0 all0)) ((F_6.keep K2).keep K4) c7) K8 ((F_6.keep K2).keep K4) (lenOf own_pd21 rfl) (pc := 57) (Ls := #[rv sh, .val (.double (own_d ga0)), s_, .val (.double FP.dconst0), s_, .val (.double FP.dconst0), s_, .val (.double FP.dconst0), s_, rv r2, rv pga]) (st := [(.ref pga), (.double FP.dconst0)]) rfl (by rw [hml]; rfl) (hb hby d_prog_19_3_57) (W := 2) (Nat.le_of_eq rfl) (by decide) (by decide) (by decide) (by decide)
  have N10 := Fr.app N8 M10
  refine Goes.via (B := T10.setTop (mkF m 60 #[rv sh, .val (.double (own_d ga0)), s_, .val (.double FP.dconst0), s_, .val (.double FP.dconst0), s_, .val (.double FP.dconst0), s_, rv r2, rv pga] [(.ref soa), (.double FP.dconst0)])) (fun t k => st10 _ k) ?_
  have c12 : Fld Z T4.heap soa "com/example/wakenitz/wakenitz/measure/Score" "recall" "D" (.double (own_d ga1)) := ((F_10.keep K2 nin0).keep K4 (ninS (Nat.ne_of_lt (Nat.lt_of_lt_of_le F_8.lt z2_0)) nin0))
  obtain ⟨_, T11, L11, X11, ⟨rfl, M11, K11⟩, st11⟩ := callVirt X10 hx hZ hown (W_ hw 286 rfl) (W_ hw 287 rfl) (W_ hw 289 rfl) (notFace_of_selects (args := #[]) (mvT hZ (W_ hw 289 rfl))) (W_ hw 288 rfl) (W_ hw 44 rfl) (W_ hw 290 rfl) (by decide) (argsL := []) (rest := [(.double FP.dconst0)]) (own_m72 l Z a0 hw [] soa (own_d ga1) T4.heap n0 ((O0.keep K2 all0).keep K4 (allS gn2_0 all0)) ((F_8.keep K2).keep K4) c12) K10 ((F_8.keep K2).keep K4) (lenOf own_pd22 rfl) (pc := 60) (Ls := #[rv sh, .val (.double (own_d ga0)), s_, .val (.double FP.dconst0), s_, .val (.double FP.dconst0), s_, .val (.double FP.dconst0), s_, rv r2, rv pga]) (st := [(.ref soa), (.double FP.dconst0)]) rfl (by rw [hml]; rfl) (hb hby d_prog_19_3_60) (W := 2) (Nat.le_of_eq rfl) (by decide) (by decide) (by decide) (by decide)
  have N11 := Fr.app N10 M11
  refine Goes.via (B := T11.setTop (mkF m 63 #[rv sh, .val (.double (own_d ga0)), s_, .val (.double FP.dconst0), s_, .val (.double FP.dconst0), s_, .val (.double FP.dconst0), s_, rv r2, rv pga] [(.double (own_d ga1)), (.double FP.dconst0)])) (fun t k => st11 _ k) ?_
  refine Gv T11 64 [(.double (own_d ga1))] (fun t k => XS.daddS X11.here hx rfl (hb hby d_prog_19_3_63) rfl (own_nn0 hga1) (own_zero hga1) k) ?_
  refine Gv T11 65 [] (fun t k => XS.dstoreN X11.here hx rfl (hb hby d_prog_19_3_64) rfl (l' := #[rv sh, .val (.double (own_d ga0)), s_, .val (.double (own_d ga1)), s_, .val (.double FP.dconst0), s_, .val (.double FP.dconst0), s_, rv r2, rv pga]) rfl k) ?_
  refine Gv T11 67 [(.double FP.dconst0)] (fun t k => XS.dload X11.here hx rfl (hb hby d_prog_19_3_65) rfl k) ?_
  refine Gv T11 69 [(.ref pga), (.double FP.dconst0)] (fun t k => XS.aload X11.here hx rfl (hb hby d_prog_19_3_67) rfl rfl k) ?_
  obtain ⟨_, T13, L13, X13, ⟨rfl, M13, K13⟩, st13⟩ := callVirt X11 hx hZ hown (W_ hw 276 rfl) (W_ hw 277 rfl) (W_ hw 279 rfl) (notFace_of_selects (args := #[]) (mvT hZ (W_ hw 279 rfl))) (W_ hw 278 rfl) (W_ hw 29 rfl) (W_ hw 280 rfl) (by decide) (argsL := []) (rest := [(.double FP.dconst0)]) (own_m70 l Z a0 hw [] pga soa T4.heap n0 ((O0.keep K2 all0).keep K4 (allS gn2_0 all0)) ((F_6.keep K2).keep K4) c7) K11 ((F_6.keep K2).keep K4) (lenOf own_pd21 rfl) (pc := 69) (Ls := #[rv sh, .val (.double (own_d ga0)), s_, .val (.double (own_d ga1)), s_, .val (.double FP.dconst0), s_, .val (.double FP.dconst0), s_, rv r2, rv pga]) (st := [(.ref pga), (.double FP.dconst0)]) rfl (by rw [hml]; rfl) (hb hby d_prog_19_3_69) (W := 2) (Nat.le_of_eq rfl) (by decide) (by decide) (by decide) (by decide)
  have N13 := Fr.app N11 M13
  refine Goes.via (B := T13.setTop (mkF m 72 #[rv sh, .val (.double (own_d ga0)), s_, .val (.double (own_d ga1)), s_, .val (.double FP.dconst0), s_, .val (.double FP.dconst0), s_, rv r2, rv pga] [(.ref soa), (.double FP.dconst0)])) (fun t k => st13 _ k) ?_
  have c15 : Fld Z T4.heap soa "com/example/wakenitz/wakenitz/measure/Score" "f1" "D" (.double (own_d ga2)) := ((F_11.keep K2 nin0).keep K4 (ninS (Nat.ne_of_lt (Nat.lt_of_lt_of_le F_8.lt z2_0)) nin0))
  obtain ⟨_, T14, L14, X14, ⟨rfl, M14, K14⟩, st14⟩ := callVirt X13 hx hZ hown (W_ hw 291 rfl) (W_ hw 292 rfl) (W_ hw 294 rfl) (notFace_of_selects (args := #[]) (mvT hZ (W_ hw 294 rfl))) (W_ hw 293 rfl) (W_ hw 44 rfl) (W_ hw 295 rfl) (by decide) (argsL := []) (rest := [(.double FP.dconst0)]) (own_m73 l Z a0 hw [] soa (own_d ga2) T4.heap n0 ((O0.keep K2 all0).keep K4 (allS gn2_0 all0)) ((F_8.keep K2).keep K4) c15) K13 ((F_8.keep K2).keep K4) (lenOf own_pd22 rfl) (pc := 72) (Ls := #[rv sh, .val (.double (own_d ga0)), s_, .val (.double (own_d ga1)), s_, .val (.double FP.dconst0), s_, .val (.double FP.dconst0), s_, rv r2, rv pga]) (st := [(.ref soa), (.double FP.dconst0)]) rfl (by rw [hml]; rfl) (hb hby d_prog_19_3_72) (W := 2) (Nat.le_of_eq rfl) (by decide) (by decide) (by decide) (by decide)
  have N14 := Fr.app N13 M14
  refine Goes.via (B := T14.setTop (mkF m 75 #[rv sh, .val (.double (own_d ga0)), s_, .val (.double (own_d ga1)), s_, .val (.double FP.dconst0), s_, .val (.double FP.dconst0), s_, rv r2, rv pga] [(.double (own_d ga2)), (.double FP.dconst0)])) (fun t k => st14 _ k) ?_
  refine Gv T14 76 [(.double (own_d ga2))] (fun t k => XS.daddS X14.here hx rfl (hb hby d_prog_19_3_75) rfl (own_nn0 hga2) (own_zero hga2) k) ?_
  refine Gv T14 78 [] (fun t k => XS.dstore X14.here hx rfl (hb hby d_prog_19_3_76) rfl (l' := #[rv sh, .val (.double (own_d ga0)), s_, .val (.double (own_d ga1)), s_, .val (.double (own_d ga2)), s_, .val (.double FP.dconst0), s_, rv r2, rv pga]) rfl k) ?_
  refine Gv T14 80 [(.double FP.dconst0)] (fun t k => XS.dload X14.here hx rfl (hb hby d_prog_19_3_78) rfl k) ?_
  refine Gv T14 82 [(.ref pga), (.double FP.dconst0)] (fun t k => XS.aload X14.here hx rfl (hb hby d_prog_19_3_80) rfl rfl k) ?_
  obtain ⟨_, T16, L16, X16, ⟨rfl, M16, K16⟩, st16⟩ := callVirt X14 hx hZ hown (W_ hw 276 rfl) (W_ hw 277 rfl) (W_ hw 279 rfl) (notFace_of_selects (args := #[]) (mvT hZ (W_ hw 279 rfl))) (W_ hw 278 rfl) (W_ hw 29 rfl) (W_ hw 280 rfl) (by decide) (argsL := []) (rest := [(.double FP.dconst0)]) (own_m70 l Z a0 hw [] pga soa T4.heap n0 ((O0.keep K2 all0).keep K4 (allS gn2_0 all0)) ((F_6.keep K2).keep K4) c7) K14 ((F_6.keep K2).keep K4) (lenOf own_pd21 rfl) (pc := 82) (Ls := #[rv sh, .val (.double (own_d ga0)), s_, .val (.double (own_d ga1)), s_, .val (.double (own_d ga2)), s_, .val (.double FP.dconst0), s_, rv r2, rv pga]) (st := [(.ref pga), (.double FP.dconst0)]) rfl (by rw [hml]; rfl) (hb hby d_prog_19_3_82) (W := 2) (Nat.le_of_eq rfl) (by decide) (by decide) (by decide) (by decide)
  have N16 := Fr.app N14 M16
  refine Goes.via (B := T16.setTop (mkF m 85 #[rv sh, .val (.double (own_d ga0)), s_, .val (.double (own_d ga1)), s_, .val (.double (own_d ga2)), s_, .val (.double FP.dconst0), s_, rv r2, rv pga] [(.ref soa), (.double FP.dconst0)])) (fun t k => st16 _ k) ?_
  have c18 : Fld Z T4.heap soa "com/example/wakenitz/wakenitz/measure/Score" "similarity" "D" (.double (own_d ga3)) := ((F_12.keep K2 nin0).keep K4 (ninS (Nat.ne_of_lt (Nat.lt_of_lt_of_le F_8.lt z2_0)) nin0))
  obtain ⟨_, T17, L17, X17, ⟨rfl, M17, K17⟩, st17⟩ := callVirt X16 hx hZ hown (W_ hw 296 rfl) (W_ hw 297 rfl) (W_ hw 299 rfl) (notFace_of_selects (args := #[]) (mvT hZ (W_ hw 299 rfl))) (W_ hw 298 rfl) (W_ hw 44 rfl) (W_ hw 300 rfl) (by decide) (argsL := []) (rest := [(.double FP.dconst0)]) (own_m74 l Z a0 hw [] soa (own_d ga3) T4.heap n0 ((O0.keep K2 all0).keep K4 (allS gn2_0 all0)) ((F_8.keep K2).keep K4) c18) K16 ((F_8.keep K2).keep K4) (lenOf own_pd22 rfl) (pc := 85) (Ls := #[rv sh, .val (.double (own_d ga0)), s_, .val (.double (own_d ga1)), s_, .val (.double (own_d ga2)), s_, .val (.double FP.dconst0), s_, rv r2, rv pga]) (st := [(.ref soa), (.double FP.dconst0)]) rfl (by rw [hml]; rfl) (hb hby d_prog_19_3_85) (W := 2) (Nat.le_of_eq rfl) (by decide) (by decide) (by decide) (by decide)
  have N17 := Fr.app N16 M17
  refine Goes.via (B := T17.setTop (mkF m 88 #[rv sh, .val (.double (own_d ga0)), s_, .val (.double (own_d ga1)), s_, .val (.double (own_d ga2)), s_, .val (.double FP.dconst0), s_, rv r2, rv pga] [(.double (own_d ga3)), (.double FP.dconst0)])) (fun t k => st17 _ k) ?_
  refine Gv T17 89 [(.double (own_d ga3))] (fun t k => XS.daddS X17.here hx rfl (hb hby d_prog_19_3_88) rfl (own_nn0 hga3) (own_zero hga3) k) ?_
  refine Gv T17 91 [] (fun t k => XS.dstore X17.here hx rfl (hb hby d_prog_19_3_89) rfl (l' := #[rv sh, .val (.double (own_d ga0)), s_, .val (.double (own_d ga1)), s_, .val (.double (own_d ga2)), s_, .val (.double (own_d ga3)), s_, rv r2, rv pga]) rfl k) ?_
  refine Gv T17 21 [] (fun t k => XS.goto X17.here hx rfl (pc0 := 91) (pc' := 21) rfl (hb hby d_prog_19_3_91) (by decide) (by decide) k) ?_
  refine Gv T17 23 [(.ref r2)] (fun t k => XS.aload X17.here hx rfl (hb hby d_prog_19_3_21) rfl rfl k) ?_
  obtain ⟨_, T19, L19, X19, ⟨r19, rfl, M19, K19, p19_0⟩, st19⟩ := callFace X17 hx hZ hown (W_ hw 249 rfl) (W_ hw 250 rfl) (mvT hZ (W_ hw 251 rfl)) (W_ hw 252 rfl) (W_ hw 253 rfl) (W_ hw 254 rfl) (W_ hw 255 rfl) (W_ hw 256 rfl) (W_ hw 229 rfl) (W_ hw 257 rfl) (by decide) (argsL := []) (rest := []) (own_m63 l Z a0 hw [] r2 li (3 : Int32) (1 : Int32) T4.heap n0 ((O0.keep K2 all0).keep K4 (allS gn2_0 all0)) f4_0 f4_1 f4_2 f4_3) K17 f4_0 (lenOf own_pd12 rfl) (pc := 23) (Ls := #[rv sh, .val (.double (own_d ga0)), s_, .val (.double (own_d ga1)), s_, .val (.double (own_d ga2)), s_, .val (.double (own_d ga3)), s_, rv r2, rv pga]) (st := [(.ref r2)]) rfl (by rw [hml]; rfl) (hb hby d_prog_19_3_23) (W := 0) (Nat.le_of_eq rfl) (by decide) (by decide) (by decide) (by decide)
  have N19 := Fr.app N17 M19
  refine Goes.via (B := T19.setTop (mkF m 28 #[rv sh, .val (.double (own_d ga0)), s_, .val (.double (own_d ga1)), s_, .val (.double (own_d ga2)), s_, .val (.double (own_d ga3)), s_, rv r2, rv pga] [(.int r19)])) (fun t k => st19 _ k) ?_
  refine Gv T19 31 [] (fun t k => XS.ifNo X19.here hx rfl (hb hby d_prog_19_3_28) rfl (XT.i0_eq_f (by rw [p19_0]; decide)) k) ?_
  refine Gv T19 33 [(.ref r2)] (fun t k => XS.aload X19.here hx rfl (hb hby d_prog_19_3_31) rfl rfl k) ?_
  have c21 : Fld Z T4.heap li "java/util/ImmutableCollections$ListN" "elements" "[Ljava/lang/Object;" (.ref ar) := ((F_4.keep K2 nin0).keep K4 (ninS (Nat.ne_of_lt (Nat.lt_of_lt_of_le F_3.lt z2_0)) nin0))
  have c22 : Arv Z T4.heap ar ka (.object "java/lang/Object") (3 : Int32) [(.ref pga), (.ref pgb), (.ref pgc)] .null := ((F_5.keep K2 nin0).keep K4 (ninS (Nat.ne_of_lt (Nat.lt_of_lt_of_le F_5.lt z2_0)) nin0))
  obtain ⟨_, T20, L20, X20, ⟨rfl, M20, K20, f20_0, f20_1, f20_2, f20_3⟩, st20⟩ := callFaceX X19 hx hZ hown (W_ hw 258 rfl) (W_ hw 259 rfl) (mvT hZ (W_ hw 260 rfl)) (W_ hw 261 rfl) (W_ hw 262 rfl) (W_ hw 263 rfl) (W_ hw 264 rfl) (W_ hw 256 rfl) (W_ hw 229 rfl) (W_ hw 265 rfl) (by decide) (argsL := []) (rest := []) (own_m68 l Z a0 hw [] r2 li pga pgb pgc ar ka T4.heap n0 ((O0.keep K2 all0).keep K4 (allS gn2_0 all0)) gn2_0 f4_0 f4_1 f4_2 f4_3 ((F_3.keep K2).keep K4) c21 c22) K19 f4_0 (lenOf own_pd20 rfl) (pc := 33) (Ls := #[rv sh, .val (.double (own_d ga0)), s_, .val (.double (own_d ga1)), s_, .val (.double (own_d ga2)), s_, .val (.double (own_d ga3)), s_, rv r2, rv pga]) (st := [(.ref r2)]) rfl (by rw [hml]; rfl) (hb hby d_prog_19_3_33) (W := 0) (Nat.le_of_eq rfl) (by decide) (by decide) (by decide) (by decide)
  have N20 := Fr.app N19 M20
  refine Goes.via (B := T20.setTop (mkF m 38 #[rv sh, .val (.double (own_d ga0)), s_, .val (.double (own_d ga1)), s_, .val (.double (own_d ga2)), s_, .val (.double (own_d ga3)), s_, rv r2, rv pga] [(.ref pgb)])) (fun t k => st20 _ k) ?_
  obtain ⟨T23, X23, e23, st23⟩ := castY X20 hx hZ hown (W_ hw 274 rfl) rfl (Ins.self (((F_13.keep K2).keep K4).keep K20)) (g := (mkF m 38 #[rv sh, .val (.double (own_d ga0)), s_, .val (.double (own_d ga1)), s_, .val (.double (own_d ga2)), s_, .val (.double (own_d ga3)), s_, rv r2, rv pga] [(.ref pgb)])) rfl rfl (hb hby d_prog_19_3_38)
  refine Goes.via (B := T23.setTop (mkF m 41 #[rv sh, .val (.double (own_d ga0)), s_, .val (.double (own_d ga1)), s_, .val (.double (own_d ga2)), s_, .val (.double (own_d ga3)), s_, rv r2, rv pga] [(.ref pgb)])) (fun t k => st23 _ k) ?_
  refine Gv T23 43 [] (fun t k => XS.astore X23.here hx rfl (hb hby d_prog_19_3_41) rfl rfl (l' := #[rv sh, .val (.double (own_d ga0)), s_, .val (.double (own_d ga1)), s_, .val (.double (own_d ga2)), s_, .val (.double (own_d ga3)), s_, rv r2, rv pgb]) rfl k) ?_
  refine Gv T23 44 [(.double (own_d ga0))] (fun t k => XS.dloadN X23.here hx rfl (hb hby d_prog_19_3_43) rfl k) ?_
  refine Gv T23 46 [(.ref pgb), (.double (own_d ga0))] (fun t k => XS.aload X23.here hx rfl (hb hby d_prog_19_3_44) rfl rfl k) ?_
  have c25 : Fld Z T20.heap pgb "com/example/wakenitz/wakenitz/measure/ScoreSheet$PageScore" "score" "Lcom/example/wakenitz/wakenitz/measure/Score;" (.ref sob) := (((F_14.keep K2 nin0).keep K4 (ninS (Nat.ne_of_lt (Nat.lt_of_lt_of_le F_13.lt z2_0)) nin0)).keep K20 (ninS (Nat.ne_of_lt (Nat.lt_of_lt_of_le F_13.lt z2_0)) nin0))
  obtain ⟨_, T24, L24, X24, ⟨rfl, M24, K24⟩, st24⟩ := callVirt X23 hx hZ hown (W_ hw 276 rfl) (W_ hw 277 rfl) (W_ hw 279 rfl) (notFace_of_selects (args := #[]) (mvT hZ (W_ hw 279 rfl))) (W_ hw 278 rfl) (W_ hw 29 rfl) (W_ hw 280 rfl) (by decide) (argsL := []) (rest := [(.double (own_d ga0))]) (own_m70 l Z a0 hw [] pgb sob T20.heap n0 (((O0.keep K2 all0).keep K4 (allS gn2_0 all0)).keep K20 (allS gn2_0 all0)) (((F_13.keep K2).keep K4).keep K20) c25) e23 (((F_13.keep K2).keep K4).keep K20) (lenOf own_pd21 rfl) (pc := 46) (Ls := #[rv sh, .val (.double (own_d ga0)), s_, .val (.double (own_d ga1)), s_, .val (.double (own_d ga2)), s_, .val (.double (own_d ga3)), s_, rv r2, rv pgb]) (st := [(.ref pgb), (.double (own_d ga0))]) rfl (by rw [hml]; rfl) (hb hby d_prog_19_3_46) (W := 2) (Nat.le_of_eq rfl) (by decide) (by decide) (by decide) (by decide)
  have N24 := Fr.app N20 M24
  refine Goes.via (B := T24.setTop (mkF m 49 #[rv sh, .val (.double (own_d ga0)), s_, .val (.double (own_d ga1)), s_, .val (.double (own_d ga2)), s_, .val (.double (own_d ga3)), s_, rv r2, rv pgb] [(.ref sob), (.double (own_d ga0))])) (fun t k => st24 _ k) ?_
  have c27 : Fld Z T20.heap sob "com/example/wakenitz/wakenitz/measure/Score" "precision" "D" (.double (own_d gb0)) := (((F_16.keep K2 nin0).keep K4 (ninS (Nat.ne_of_lt (Nat.lt_of_lt_of_le F_15.lt z2_0)) nin0)).keep K20 (ninS (Nat.ne_of_lt (Nat.lt_of_lt_of_le F_15.lt z2_0)) nin0))
  obtain ⟨_, T26, L26, X26, ⟨rfl, M26, K26⟩, st26⟩ := callVirt X24 hx hZ hown (W_ hw 281 rfl) (W_ hw 282 rfl) (W_ hw 284 rfl) (notFace_of_selects (args := #[]) (mvT hZ (W_ hw 284 rfl))) (W_ hw 283 rfl) (W_ hw 44 rfl) (W_ hw 285 rfl) (by decide) (argsL := []) (rest := [(.double (own_d ga0))]) (own_m71 l Z a0 hw [] sob (own_d gb0) T20.heap n0 (((O0.keep K2 all0).keep K4 (allS gn2_0 all0)).keep K20 (allS gn2_0 all0)) (((F_15.keep K2).keep K4).keep K20) c27) K24 (((F_15.keep K2).keep K4).keep K20) (lenOf own_pd22 rfl) (pc := 49) (Ls := #[rv sh, .val (.double (own_d ga0)), s_, .val (.double (own_d ga1)), s_, .val (.double (own_d ga2)), s_, .val (.double (own_d ga3)), s_, rv r2, rv pgb]) (st := [(.ref sob), (.double (own_d ga0))]) rfl (by rw [hml]; rfl) (hb hby d_prog_19_3_49) (W := 2) (Nat.le_of_eq rfl) (by decide) (by decide) (by decide) (by decide)
  have N26 := Fr.app N24 M26
  refine Goes.via (B := T26.setTop (mkF m 52 #[rv sh, .val (.double (own_d ga0)), s_, .val (.double (own_d ga1)), s_, .val (.double (own_d ga2)), s_, .val (.double (own_d ga3)), s_, rv r2, rv pgb] [(.double (own_d gb0)), (.double (own_d ga0))])) (fun t k => st26 _ k) ?_
  refine Gv T26 53 [(.double (own_d (ga0 + gb0)))] (fun t k => XS.daddS X26.here hx rfl (hb hby d_prog_19_3_52) rfl (own_nna (own_up hga0 (by decide)) hgb0) (own_add (own_up hga0 (by decide)) hgb0) k) ?_
  refine Gv T26 54 [] (fun t k => XS.dstoreN X26.here hx rfl (hb hby d_prog_19_3_53) rfl (l' := #[rv sh, .val (.double (own_d (ga0 + gb0))), s_, .val (.double (own_d ga1)), s_, .val (.double (own_d ga2)), s_, .val (.double (own_d ga3)), s_, rv r2, rv pgb]) rfl k) ?_
  refine Gv T26 55 [(.double (own_d ga1))] (fun t k => XS.dloadN X26.here hx rfl (hb hby d_prog_19_3_54) rfl k) ?_
  refine Gv T26 57 [(.ref pgb), (.double (own_d ga1))] (fun t k => XS.aload X26.here hx rfl (hb hby d_prog_19_3_55) rfl rfl k) ?_
  obtain ⟨_, T28, L28, X28, ⟨rfl, M28, K28⟩, st28⟩ := callVirt X26 hx hZ hown (W_ hw 276 rfl) (W_ hw 277 rfl) (W_ hw 279 rfl) (notFace_of_selects (args := #[]) (mvT hZ (W_ hw 279 rfl))) (W_ hw 278 rfl) (W_ hw 29 rfl) (W_ hw 280 rfl) (by decide) (argsL := []) (rest := [(.double (own_d ga1))]) (own_m70 l Z a0 hw [] pgb sob T20.heap n0 (((O0.keep K2 all0).keep K4 (allS gn2_0 all0)).keep K20 (allS gn2_0 all0)) (((F_13.keep K2).keep K4).keep K20) c25) K26 (((F_13.keep K2).keep K4).keep K20) (lenOf own_pd21 rfl) (pc := 57) (Ls := #[rv sh, .val (.double (own_d (ga0 + gb0))), s_, .val (.double (own_d ga1)), s_, .val (.double (own_d ga2)), s_, .val (.double (own_d ga3)), s_, rv r2, rv pgb]) (st := [(.ref pgb), (.double (own_d ga1))]) rfl (by rw [hml]; rfl) (hb hby d_prog_19_3_57) (W := 2) (Nat.le_of_eq rfl) (by decide) (by decide) (by decide) (by decide)
  have N28 := Fr.app N26 M28
  refine Goes.via (B := T28.setTop (mkF m 60 #[rv sh, .val (.double (own_d (ga0 + gb0))), s_, .val (.double (own_d ga1)), s_, .val (.double (own_d ga2)), s_, .val (.double (own_d ga3)), s_, rv r2, rv pgb] [(.ref sob), (.double (own_d ga1))])) (fun t k => st28 _ k) ?_
  have c30 : Fld Z T20.heap sob "com/example/wakenitz/wakenitz/measure/Score" "recall" "D" (.double (own_d gb1)) := (((F_17.keep K2 nin0).keep K4 (ninS (Nat.ne_of_lt (Nat.lt_of_lt_of_le F_15.lt z2_0)) nin0)).keep K20 (ninS (Nat.ne_of_lt (Nat.lt_of_lt_of_le F_15.lt z2_0)) nin0))
  obtain ⟨_, T29, L29, X29, ⟨rfl, M29, K29⟩, st29⟩ := callVirt X28 hx hZ hown (W_ hw 286 rfl) (W_ hw 287 rfl) (W_ hw 289 rfl) (notFace_of_selects (args := #[]) (mvT hZ (W_ hw 289 rfl))) (W_ hw 288 rfl) (W_ hw 44 rfl) (W_ hw 290 rfl) (by decide) (argsL := []) (rest := [(.double (own_d ga1))]) (own_m72 l Z a0 hw [] sob (own_d gb1) T20.heap n0 (((O0.keep K2 all0).keep K4 (allS gn2_0 all0)).keep K20 (allS gn2_0 all0)) (((F_15.keep K2).keep K4).keep K20) c30) K28 (((F_15.keep K2).keep K4).keep K20) (lenOf own_pd22 rfl) (pc := 60) (Ls := #[rv sh, .val (.double (own_d (ga0 + gb0))), s_, .val (.double (own_d ga1)), s_, .val (.double (own_d ga2)), s_, .val (.double (own_d ga3)), s_, rv r2, rv pgb]) (st := [(.ref sob), (.double (own_d ga1))]) rfl (by rw [hml]; rfl) (hb hby d_prog_19_3_60) (W := 2) (Nat.le_of_eq rfl) (by decide) (by decide) (by decide) (by decide)
  have N29 := Fr.app N28 M29
  refine Goes.via (B := T29.setTop (mkF m 63 #[rv sh, .val (.double (own_d (ga0 + gb0))), s_, .val (.double (own_d ga1)), s_, .val (.double (own_d ga2)), s_, .val (.double (own_d ga3)), s_, rv r2, rv pgb] [(.double (own_d gb1)), (.double (own_d ga1))])) (fun t k => st29 _ k) ?_
  refine Gv T29 64 [(.double (own_d (ga1 + gb1)))] (fun t k => XS.daddS X29.here hx rfl (hb hby d_prog_19_3_63) rfl (own_nna (own_up hga1 (by decide)) hgb1) (own_add (own_up hga1 (by decide)) hgb1) k) ?_
  refine Gv T29 65 [] (fun t k => XS.dstoreN X29.here hx rfl (hb hby d_prog_19_3_64) rfl (l' := #[rv sh, .val (.double (own_d (ga0 + gb0))), s_, .val (.double (own_d (ga1 + gb1))), s_, .val (.double (own_d ga2)), s_, .val (.double (own_d ga3)), s_, rv r2, rv pgb]) rfl k) ?_
  refine Gv T29 67 [(.double (own_d ga2))] (fun t k => XS.dload X29.here hx rfl (hb hby d_prog_19_3_65) rfl k) ?_
  refine Gv T29 69 [(.ref pgb), (.double (own_d ga2))] (fun t k => XS.aload X29.here hx rfl (hb hby d_prog_19_3_67) rfl rfl k) ?_
  obtain ⟨_, T31, L31, X31, ⟨rfl, M31, K31⟩, st31⟩ := callVirt X29 hx hZ hown (W_ hw 276 rfl) (W_ hw 277 rfl) (W_ hw 279 rfl) (notFace_of_selects (args := #[]) (mvT hZ (W_ hw 279 rfl))) (W_ hw 278 rfl) (W_ hw 29 rfl) (W_ hw 280 rfl) (by decide) (argsL := []) (rest := [(.double (own_d ga2))]) (own_m70 l Z a0 hw [] pgb sob T20.heap n0 (((O0.keep K2 all0).keep K4 (allS gn2_0 all0)).keep K20 (allS gn2_0 all0)) (((F_13.keep K2).keep K4).keep K20) c25) K29 (((F_13.keep K2).keep K4).keep K20) (lenOf own_pd21 rfl) (pc := 69) (Ls := #[rv sh, .val (.double (own_d (ga0 + gb0))), s_, .val (.double (own_d (ga1 + gb1))), s_, .val (.double (own_d ga2)), s_, .val (.double (own_d ga3)), s_, rv r2, rv pgb]) (st := [(.ref pgb), (.double (own_d ga2))]) rfl (by rw [hml]; rfl) (hb hby d_prog_19_3_69) (W := 2) (Nat.le_of_eq rfl) (by decide) (by decide) (by decide) (by decide)
  have N31 := Fr.app N29 M31
  refine Goes.via (B := T31.setTop (mkF m 72 #[rv sh, .val (.double (own_d (ga0 + gb0))), s_, .val (.double (own_d (ga1 + gb1))), s_, .val (.double (own_d ga2)), s_, .val (.double (own_d ga3)), s_, rv r2, rv pgb] [(.ref sob), (.double (own_d ga2))])) (fun t k => st31 _ k) ?_
  have c33 : Fld Z T20.heap sob "com/example/wakenitz/wakenitz/measure/Score" "f1" "D" (.double (own_d gb2)) := (((F_18.keep K2 nin0).keep K4 (ninS (Nat.ne_of_lt (Nat.lt_of_lt_of_le F_15.lt z2_0)) nin0)).keep K20 (ninS (Nat.ne_of_lt (Nat.lt_of_lt_of_le F_15.lt z2_0)) nin0))
  obtain ⟨_, T32, L32, X32, ⟨rfl, M32, K32⟩, st32⟩ := callVirt X31 hx hZ hown (W_ hw 291 rfl) (W_ hw 292 rfl) (W_ hw 294 rfl) (notFace_of_selects (args := #[]) (mvT hZ (W_ hw 294 rfl))) (W_ hw 293 rfl) (W_ hw 44 rfl) (W_ hw 295 rfl) (by decide) (argsL := []) (rest := [(.double (own_d ga2))]) (own_m73 l Z a0 hw [] sob (own_d gb2) T20.heap n0 (((O0.keep K2 all0).keep K4 (allS gn2_0 all0)).keep K20 (allS gn2_0 all0)) (((F_15.keep K2).keep K4).keep K20) c33) K31 (((F_15.keep K2).keep K4).keep K20) (lenOf own_pd22 rfl) (pc := 72) (Ls := #[rv sh, .val (.double (own_d (ga0 + gb0))), s_, .val (.double (own_d (ga1 + gb1))), s_, .val (.double (own_d ga2)), s_, .val (.double (own_d ga3)), s_, rv r2, rv pgb]) (st := [(.ref sob), (.double (own_d ga2))]) rfl (by rw [hml]; rfl) (hb hby d_prog_19_3_72) (W := 2) (Nat.le_of_eq rfl) (by decide) (by decide) (by decide) (by decide)
  have N32 := Fr.app N31 M32
  refine Goes.via (B := T32.setTop (mkF m 75 #[rv sh, .val (.double (own_d (ga0 + gb0))), s_, .val (.double (own_d (ga1 + gb1))), s_, .val (.double (own_d ga2)), s_, .val (.double (own_d ga3)), s_, rv r2, rv pgb] [(.double (own_d gb2)), (.double (own_d ga2))])) (fun t k => st32 _ k) ?_
  refine Gv T32 76 [(.double (own_d (ga2 + gb2)))] (fun t k => XS.daddS X32.here hx rfl (hb hby d_prog_19_3_75) rfl (own_nna (own_up hga2 (by decide)) hgb2) (own_add (own_up hga2 (by decide)) hgb2) k) ?_
  refine Gv T32 78 [] (fun t k => XS.dstore X32.here hx rfl (hb hby d_prog_19_3_76) rfl (l' := #[rv sh, .val (.double (own_d (ga0 + gb0))), s_, .val (.double (own_d (ga1 + gb1))), s_, .val (.double (own_d (ga2 + gb2))), s_, .val (.double (own_d ga3)), s_, rv r2, rv pgb]) rfl k) ?_
  refine Gv T32 80 [(.double (own_d ga3))] (fun t k => XS.dload X32.here hx rfl (hb hby d_prog_19_3_78) rfl k) ?_
  refine Gv T32 82 [(.ref pgb), (.double (own_d ga3))] (fun t k => XS.aload X32.here hx rfl (hb hby d_prog_19_3_80) rfl rfl k) ?_
  obtain ⟨_, T34, L34, X34, ⟨rfl, M34, K34⟩, st34⟩ := callVirt X32 hx hZ hown (W_ hw 276 rfl) (W_ hw 277 rfl) (W_ hw 279 rfl) (notFace_of_selects (args := #[]) (mvT hZ (W_ hw 279 rfl))) (W_ hw 278 rfl) (W_ hw 29 rfl) (W_ hw 280 rfl) (by decide) (argsL := []) (rest := [(.double (own_d ga3))]) (own_m70 l Z a0 hw [] pgb sob T20.heap n0 (((O0.keep K2 all0).keep K4 (allS gn2_0 all0)).keep K20 (allS gn2_0 all0)) (((F_13.keep K2).keep K4).keep K20) c25) K32 (((F_13.keep K2).keep K4).keep K20) (lenOf own_pd21 rfl) (pc := 82) (Ls := #[rv sh, .val (.double (own_d (ga0 + gb0))), s_, .val (.double (own_d (ga1 + gb1))), s_, .val (.double (own_d (ga2 + gb2))), s_, .val (.double (own_d ga3)), s_, rv r2, rv pgb]) (st := [(.ref pgb), (.double (own_d ga3))]) rfl (by rw [hml]; rfl) (hb hby d_prog_19_3_82) (W := 2) (Nat.le_of_eq rfl) (by decide) (by decide) (by decide) (by decide)
  have N34 := Fr.app N32 M34
  refine Goes.via (B := T34.setTop (mkF m 85 #[rv sh, .val (.double (own_d (ga0 + gb0))), s_, .val (.double (own_d (ga1 + gb1))), s_, .val (.double (own_d (ga2 + gb2))), s_, .val (.double (own_d ga3)), s_, rv r2, rv pgb] [(.ref sob), (.double (own_d ga3))])) (fun t k => st34 _ k) ?_
  have c36 : Fld Z T20.heap sob "com/example/wakenitz/wakenitz/measure/Score" "similarity" "D" (.double (own_d gb3)) := (((F_19.keep K2 nin0).keep K4 (ninS (Nat.ne_of_lt (Nat.lt_of_lt_of_le F_15.lt z2_0)) nin0)).keep K20 (ninS (Nat.ne_of_lt (Nat.lt_of_lt_of_le F_15.lt z2_0)) nin0))
  obtain ⟨_, T35, L35, X35, ⟨rfl, M35, K35⟩, st35⟩ := callVirt X34 hx hZ hown (W_ hw 296 rfl) (W_ hw 297 rfl) (W_ hw 299 rfl) (notFace_of_selects (args := #[]) (mvT hZ (W_ hw 299 rfl))) (W_ hw 298 rfl) (W_ hw 44 rfl) (W_ hw 300 rfl) (by decide) (argsL := []) (rest := [(.double (own_d ga3))]) (own_m74 l Z a0 hw [] sob (own_d gb3) T20.heap n0 (((O0.keep K2 all0).keep K4 (allS gn2_0 all0)).keep K20 (allS gn2_0 all0)) (((F_15.keep K2).keep K4).keep K20) c36) K34 (((F_15.keep K2).keep K4).keep K20) (lenOf own_pd22 rfl) (pc := 85) (Ls := #[rv sh, .val (.double (own_d (ga0 + gb0))), s_, .val (.double (own_d (ga1 + gb1))), s_, .val (.double (own_d (ga2 + gb2))), s_, .val (.double (own_d ga3)), s_, rv r2, rv pgb]) (st := [(.ref sob), (.double (own_d ga3))]) rfl (by rw [hml]; rfl) (hb hby d_prog_19_3_85) (W := 2) (Nat.le_of_eq rfl) (by decide) (by decide) (by decide) (by decide)
  have N35 := Fr.app N34 M35
  refine Goes.via (B := T35.setTop (mkF m 88 #[rv sh, .val (.double (own_d (ga0 + gb0))), s_, .val (.double (own_d (ga1 + gb1))), s_, .val (.double (own_d (ga2 + gb2))), s_, .val (.double (own_d ga3)), s_, rv r2, rv pgb] [(.double (own_d gb3)), (.double (own_d ga3))])) (fun t k => st35 _ k) ?_
  refine Gv T35 89 [(.double (own_d (ga3 + gb3)))] (fun t k => XS.daddS X35.here hx rfl (hb hby d_prog_19_3_88) rfl (own_nna (own_up hga3 (by decide)) hgb3) (own_add (own_up hga3 (by decide)) hgb3) k) ?_
  refine Gv T35 91 [] (fun t k => XS.dstore X35.here hx rfl (hb hby d_prog_19_3_89) rfl (l' := #[rv sh, .val (.double (own_d (ga0 + gb0))), s_, .val (.double (own_d (ga1 + gb1))), s_, .val (.double (own_d (ga2 + gb2))), s_, .val (.double (own_d (ga3 + gb3))), s_, rv r2, rv pgb]) rfl k) ?_
  refine Gv T35 21 [] (fun t k => XS.goto X35.here hx rfl (pc0 := 91) (pc' := 21) rfl (hb hby d_prog_19_3_91) (by decide) (by decide) k) ?_
  refine Gv T35 23 [(.ref r2)] (fun t k => XS.aload X35.here hx rfl (hb hby d_prog_19_3_21) rfl rfl k) ?_
  obtain ⟨_, T37, L37, X37, ⟨r37, rfl, M37, K37, p37_0⟩, st37⟩ := callFace X35 hx hZ hown (W_ hw 249 rfl) (W_ hw 250 rfl) (mvT hZ (W_ hw 251 rfl)) (W_ hw 252 rfl) (W_ hw 253 rfl) (W_ hw 254 rfl) (W_ hw 255 rfl) (W_ hw 256 rfl) (W_ hw 229 rfl) (W_ hw 257 rfl) (by decide) (argsL := []) (rest := []) (own_m63 l Z a0 hw [] r2 li (3 : Int32) (2 : Int32) T20.heap n0 (((O0.keep K2 all0).keep K4 (allS gn2_0 all0)).keep K20 (allS gn2_0 all0)) f20_0 f20_1 f20_2 f20_3) K35 f20_0 (lenOf own_pd12 rfl) (pc := 23) (Ls := #[rv sh, .val (.double (own_d (ga0 + gb0))), s_, .val (.double (own_d (ga1 + gb1))), s_, .val (.double (own_d (ga2 + gb2))), s_, .val (.double (own_d (ga3 + gb3))), s_, rv r2, rv pgb]) (st := [(.ref r2)]) rfl (by rw [hml]; rfl) (hb hby d_prog_19_3_23) (W := 0) (Nat.le_of_eq rfl) (by decide) (by decide) (by decide) (by decide)
  have N37 := Fr.app N35 M37
  refine Goes.via (B := T37.setTop (mkF m 28 #[rv sh, .val (.double (own_d (ga0 + gb0))), s_, .val (.double (own_d (ga1 + gb1))), s_, .val (.double (own_d (ga2 + gb2))), s_, .val (.double (own_d (ga3 + gb3))), s_, rv r2, rv pgb] [(.int r37)])) (fun t k => st37 _ k) ?_
  refine Gv T37 31 [] (fun t k => XS.ifNo X37.here hx rfl (hb hby d_prog_19_3_28) rfl (XT.i0_eq_f (by rw [p37_0]; decide)) k) ?_
  refine Gv T37 33 [(.ref r2)] (fun t k => XS.aload X37.here hx rfl (hb hby d_prog_19_3_31) rfl rfl k) ?_
  have c39 : Fld Z T20.heap li "java/util/ImmutableCollections$ListN" "elements" "[Ljava/lang/Object;" (.ref ar) := (c21.keep K20 (ninS (Nat.ne_of_lt (Nat.lt_of_lt_of_le F_3.lt z2_0)) nin0))
  have c40 : Arv Z T20.heap ar ka (.object "java/lang/Object") (3 : Int32) [(.ref pga), (.ref pgb), (.ref pgc)] .null := (c22.keep K20 (ninS (Nat.ne_of_lt (Nat.lt_of_lt_of_le F_5.lt z2_0)) nin0))
  obtain ⟨_, T38, L38, X38, ⟨rfl, M38, K38, f38_0, f38_1, f38_2, f38_3⟩, st38⟩ := callFaceX X37 hx hZ hown (W_ hw 258 rfl) (W_ hw 259 rfl) (mvT hZ (W_ hw 260 rfl)) (W_ hw 261 rfl) (W_ hw 262 rfl) (W_ hw 263 rfl) (W_ hw 264 rfl) (W_ hw 256 rfl) (W_ hw 229 rfl) (W_ hw 265 rfl) (by decide) (argsL := []) (rest := []) (own_m69 l Z a0 hw [] r2 li pga pgb pgc ar ka T20.heap n0 (((O0.keep K2 all0).keep K4 (allS gn2_0 all0)).keep K20 (allS gn2_0 all0)) gn2_0 f20_0 f20_1 f20_2 f20_3 (((F_3.keep K2).keep K4).keep K20) c39 c40) K37 f20_0 (lenOf own_pd20 rfl) (pc := 33) (Ls := #[rv sh, .val (.double (own_d (ga0 + gb0))), s_, .val (.double (own_d (ga1 + gb1))), s_, .val (.double (own_d (ga2 + gb2))), s_, .val (.double (own_d (ga3 + gb3))), s_, rv r2, rv pgb]) (st := [(.ref r2)]) rfl (by rw [hml]; rfl) (hb hby d_prog_19_3_33) (W := 0) (Nat.le_of_eq rfl) (by decide) (by decide) (by decide) (by decide)
  have N38 := Fr.app N37 M38
  refine Goes.via (B := T38.setTop (mkF m 38 #[rv sh, .val (.double (own_d (ga0 + gb0))), s_, .val (.double (own_d (ga1 + gb1))), s_, .val (.double (own_d (ga2 + gb2))), s_, .val (.double (own_d (ga3 + gb3))), s_, rv r2, rv pgb] [(.ref pgc)])) (fun t k => st38 _ k) ?_
  obtain ⟨T41, X41, e41, st41⟩ := castY X38 hx hZ hown (W_ hw 274 rfl) rfl (Ins.self ((((F_20.keep K2).keep K4).keep K20).keep K38)) (g := (mkF m 38 #[rv sh, .val (.double (own_d (ga0 + gb0))), s_, .val (.double (own_d (ga1 + gb1))), s_, .val (.double (own_d (ga2 + gb2))), s_, .val (.double (own_d (ga3 + gb3))), s_, rv r2, rv pgb] [(.ref pgc)])) rfl rfl (hb hby d_prog_19_3_38)
  refine Goes.via (B := T41.setTop (mkF m 41 #[rv sh, .val (.double (own_d (ga0 + gb0))), s_, .val (.double (own_d (ga1 + gb1))), s_, .val (.double (own_d (ga2 + gb2))), s_, .val (.double (own_d (ga3 + gb3))), s_, rv r2, rv pgb] [(.ref pgc)])) (fun t k => st41 _ k) ?_
  refine Gv T41 43 [] (fun t k => XS.astore X41.here hx rfl (hb hby d_prog_19_3_41) rfl rfl (l' := #[rv sh, .val (.double (own_d (ga0 + gb0))), s_, .val (.double (own_d (ga1 + gb1))), s_, .val (.double (own_d (ga2 + gb2))), s_, .val (.double (own_d (ga3 + gb3))), s_, rv r2, rv pgc]) rfl k) ?_
  refine Gv T41 44 [(.double (own_d (ga0 + gb0)))] (fun t k => XS.dloadN X41.here hx rfl (hb hby d_prog_19_3_43) rfl k) ?_
  refine Gv T41 46 [(.ref pgc), (.double (own_d (ga0 + gb0)))] (fun t k => XS.aload X41.here hx rfl (hb hby d_prog_19_3_44) rfl rfl k) ?_
  have c43 : Fld Z T38.heap pgc "com/example/wakenitz/wakenitz/measure/ScoreSheet$PageScore" "score" "Lcom/example/wakenitz/wakenitz/measure/Score;" (.ref soc) := ((((F_21.keep K2 nin0).keep K4 (ninS (Nat.ne_of_lt (Nat.lt_of_lt_of_le F_20.lt z2_0)) nin0)).keep K20 (ninS (Nat.ne_of_lt (Nat.lt_of_lt_of_le F_20.lt z2_0)) nin0)).keep K38 (ninS (Nat.ne_of_lt (Nat.lt_of_lt_of_le F_20.lt z2_0)) nin0))
  obtain ⟨_, T42, L42, X42, ⟨rfl, M42, K42⟩, st42⟩ := callVirt X41 hx hZ hown (W_ hw 276 rfl) (W_ hw 277 rfl) (W_ hw 279 rfl) (notFace_of_selects (args := #[]) (mvT hZ (W_ hw 279 rfl))) (W_ hw 278 rfl) (W_ hw 29 rfl) (W_ hw 280 rfl) (by decide) (argsL := []) (rest := [(.double (own_d (ga0 + gb0)))]) (own_m70 l Z a0 hw [] pgc soc T38.heap n0 ((((O0.keep K2 all0).keep K4 (allS gn2_0 all0)).keep K20 (allS gn2_0 all0)).keep K38 (allS gn2_0 all0)) ((((F_20.keep K2).keep K4).keep K20).keep K38) c43) e41 ((((F_20.keep K2).keep K4).keep K20).keep K38) (lenOf own_pd21 rfl) (pc := 46) (Ls := #[rv sh, .val (.double (own_d (ga0 + gb0))), s_, .val (.double (own_d (ga1 + gb1))), s_, .val (.double (own_d (ga2 + gb2))), s_, .val (.double (own_d (ga3 + gb3))), s_, rv r2, rv pgc]) (st := [(.ref pgc), (.double (own_d (ga0 + gb0)))]) rfl (by rw [hml]; rfl) (hb hby d_prog_19_3_46) (W := 2) (Nat.le_of_eq rfl) (by decide) (by decide) (by decide) (by decide)
  have N42 := Fr.app N38 M42
  refine Goes.via (B := T42.setTop (mkF m 49 #[rv sh, .val (.double (own_d (ga0 + gb0))), s_, .val (.double (own_d (ga1 + gb1))), s_, .val (.double (own_d (ga2 + gb2))), s_, .val (.double (own_d (ga3 + gb3))), s_, rv r2, rv pgc] [(.ref soc), (.double (own_d (ga0 + gb0)))])) (fun t k => st42 _ k) ?_
  have c45 : Fld Z T38.heap soc "com/example/wakenitz/wakenitz/measure/Score" "precision" "D" (.double (own_d gc0)) := ((((F_23.keep K2 nin0).keep K4 (ninS (Nat.ne_of_lt (Nat.lt_of_lt_of_le F_22.lt z2_0)) nin0)).keep K20 (ninS (Nat.ne_of_lt (Nat.lt_of_lt_of_le F_22.lt z2_0)) nin0)).keep K38 (ninS (Nat.ne_of_lt (Nat.lt_of_lt_of_le F_22.lt z2_0)) nin0))
  obtain ⟨_, T44, L44, X44, ⟨rfl, M44, K44⟩, st44⟩ := callVirt X42 hx hZ hown (W_ hw 281 rfl) (W_ hw 282 rfl) (W_ hw 284 rfl) (notFace_of_selects (args := #[]) (mvT hZ (W_ hw 284 rfl))) (W_ hw 283 rfl) (W_ hw 44 rfl) (W_ hw 285 rfl) (by decide) (argsL := []) (rest := [(.double (own_d (ga0 + gb0)))]) (own_m71 l Z a0 hw [] soc (own_d gc0) T38.heap n0 ((((O0.keep K2 all0).keep K4 (allS gn2_0 all0)).keep K20 (allS gn2_0 all0)).keep K38 (allS gn2_0 all0)) ((((F_22.keep K2).keep K4).keep K20).keep K38) c45) K42 ((((F_22.keep K2).keep K4).keep K20).keep K38) (lenOf own_pd22 rfl) (pc := 49) (Ls := #[rv sh, .val (.double (own_d (ga0 + gb0))), s_, .val (.double (own_d (ga1 + gb1))), s_, .val (.double (own_d (ga2 + gb2))), s_, .val (.double (own_d (ga3 + gb3))), s_, rv r2, rv pgc]) (st := [(.ref soc), (.double (own_d (ga0 + gb0)))]) rfl (by rw [hml]; rfl) (hb hby d_prog_19_3_49) (W := 2) (Nat.le_of_eq rfl) (by decide) (by decide) (by decide) (by decide)
  have N44 := Fr.app N42 M44
  refine Goes.via (B := T44.setTop (mkF m 52 #[rv sh, .val (.double (own_d (ga0 + gb0))), s_, .val (.double (own_d (ga1 + gb1))), s_, .val (.double (own_d (ga2 + gb2))), s_, .val (.double (own_d (ga3 + gb3))), s_, rv r2, rv pgc] [(.double (own_d gc0)), (.double (own_d (ga0 + gb0)))])) (fun t k => st44 _ k) ?_
  refine Gv T44 53 [(.double (own_d ((ga0 + gb0) + gc0)))] (fun t k => XS.daddS X44.here hx rfl (hb hby d_prog_19_3_52) rfl (own_nna (own_up (own_sum (a := 16) (b := 16) hga0 hgb0 (by decide)) (by decide)) hgc0) (own_add (own_up (own_sum (a := 16) (b := 16) hga0 hgb0 (by decide)) (by decide)) hgc0) k) ?_
  refine Gv T44 54 [] (fun t k => XS.dstoreN X44.here hx rfl (hb hby d_prog_19_3_53) rfl (l' := #[rv sh, .val (.double (own_d ((ga0 + gb0) + gc0))), s_, .val (.double (own_d (ga1 + gb1))), s_, .val (.double (own_d (ga2 + gb2))), s_, .val (.double (own_d (ga3 + gb3))), s_, rv r2, rv pgc]) rfl k) ?_
  refine Gv T44 55 [(.double (own_d (ga1 + gb1)))] (fun t k => XS.dloadN X44.here hx rfl (hb hby d_prog_19_3_54) rfl k) ?_
  refine Gv T44 57 [(.ref pgc), (.double (own_d (ga1 + gb1)))] (fun t k => XS.aload X44.here hx rfl (hb hby d_prog_19_3_55) rfl rfl k) ?_
  obtain ⟨_, T46, L46, X46, ⟨rfl, M46, K46⟩, st46⟩ := callVirt X44 hx hZ hown (W_ hw 276 rfl) (W_ hw 277 rfl) (W_ hw 279 rfl) (notFace_of_selects (args := #[]) (mvT hZ (W_ hw 279 rfl))) (W_ hw 278 rfl) (W_ hw 29 rfl) (W_ hw 280 rfl) (by decide) (argsL := []) (rest := [(.double (own_d (ga1 + gb1)))]) (own_m70 l Z a0 hw [] pgc soc T38.heap n0 ((((O0.keep K2 all0).keep K4 (allS gn2_0 all0)).keep K20 (allS gn2_0 all0)).keep K38 (allS gn2_0 all0)) ((((F_20.keep K2).keep K4).keep K20).keep K38) c43) K44 ((((F_20.keep K2).keep K4).keep K20).keep K38) (lenOf own_pd21 rfl) (pc := 57) (Ls := #[rv sh, .val (.double (own_d ((ga0 + gb0) + gc0))), s_, .val (.double (own_d (ga1 + gb1))), s_, .val (.double (own_d (ga2 + gb2))), s_, .val (.double (own_d (ga3 + gb3))), s_, rv r2, rv pgc]) (st := [(.ref pgc), (.double (own_d (ga1 + gb1)))]) rfl (by rw [hml]; rfl) (hb hby d_prog_19_3_57) (W := 2) (Nat.le_of_eq rfl) (by decide) (by decide) (by decide) (by decide)
  have N46 := Fr.app N44 M46
  refine Goes.via (B := T46.setTop (mkF m 60 #[rv sh, .val (.double (own_d ((ga0 + gb0) + gc0))), s_, .val (.double (own_d (ga1 + gb1))), s_, .val (.double (own_d (ga2 + gb2))), s_, .val (.double (own_d (ga3 + gb3))), s_, rv r2, rv pgc] [(.ref soc), (.double (own_d (ga1 + gb1)))])) (fun t k => st46 _ k) ?_
  have c48 : Fld Z T38.heap soc "com/example/wakenitz/wakenitz/measure/Score" "recall" "D" (.double (own_d gc1)) := ((((F_24.keep K2 nin0).keep K4 (ninS (Nat.ne_of_lt (Nat.lt_of_lt_of_le F_22.lt z2_0)) nin0)).keep K20 (ninS (Nat.ne_of_lt (Nat.lt_of_lt_of_le F_22.lt z2_0)) nin0)).keep K38 (ninS (Nat.ne_of_lt (Nat.lt_of_lt_of_le F_22.lt z2_0)) nin0))
  obtain ⟨_, T47, L47, X47, ⟨rfl, M47, K47⟩, st47⟩ := callVirt X46 hx hZ hown (W_ hw 286 rfl) (W_ hw 287 rfl) (W_ hw 289 rfl) (notFace_of_selects (args := #[]) (mvT hZ (W_ hw 289 rfl))) (W_ hw 288 rfl) (W_ hw 44 rfl) (W_ hw 290 rfl) (by decide) (argsL := []) (rest := [(.double (own_d (ga1 + gb1)))]) (own_m72 l Z a0 hw [] soc (own_d gc1) T38.heap n0 ((((O0.keep K2 all0).keep K4 (allS gn2_0 all0)).keep K20 (allS gn2_0 all0)).keep K38 (allS gn2_0 all0)) ((((F_22.keep K2).keep K4).keep K20).keep K38) c48) K46 ((((F_22.keep K2).keep K4).keep K20).keep K38) (lenOf own_pd22 rfl) (pc := 60) (Ls := #[rv sh, .val (.double (own_d ((ga0 + gb0) + gc0))), s_, .val (.double (own_d (ga1 + gb1))), s_, .val (.double (own_d (ga2 + gb2))), s_, .val (.double (own_d (ga3 + gb3))), s_, rv r2, rv pgc]) (st := [(.ref soc), (.double (own_d (ga1 + gb1)))]) rfl (by rw [hml]; rfl) (hb hby d_prog_19_3_60) (W := 2) (Nat.le_of_eq rfl) (by decide) (by decide) (by decide) (by decide)
  have N47 := Fr.app N46 M47
  refine Goes.via (B := T47.setTop (mkF m 63 #[rv sh, .val (.double (own_d ((ga0 + gb0) + gc0))), s_, .val (.double (own_d (ga1 + gb1))), s_, .val (.double (own_d (ga2 + gb2))), s_, .val (.double (own_d (ga3 + gb3))), s_, rv r2, rv pgc] [(.double (own_d gc1)), (.double (own_d (ga1 + gb1)))])) (fun t k => st47 _ k) ?_
  refine Gv T47 64 [(.double (own_d ((ga1 + gb1) + gc1)))] (fun t k => XS.daddS X47.here hx rfl (hb hby d_prog_19_3_63) rfl (own_nna (own_up (own_sum (a := 16) (b := 16) hga1 hgb1 (by decide)) (by decide)) hgc1) (own_add (own_up (own_sum (a := 16) (b := 16) hga1 hgb1 (by decide)) (by decide)) hgc1) k) ?_
  refine Gv T47 65 [] (fun t k => XS.dstoreN X47.here hx rfl (hb hby d_prog_19_3_64) rfl (l' := #[rv sh, .val (.double (own_d ((ga0 + gb0) + gc0))), s_, .val (.double (own_d ((ga1 + gb1) + gc1))), s_, .val (.double (own_d (ga2 + gb2))), s_, .val (.double (own_d (ga3 + gb3))), s_, rv r2, rv pgc]) rfl k) ?_
  refine Gv T47 67 [(.double (own_d (ga2 + gb2)))] (fun t k => XS.dload X47.here hx rfl (hb hby d_prog_19_3_65) rfl k) ?_
  refine Gv T47 69 [(.ref pgc), (.double (own_d (ga2 + gb2)))] (fun t k => XS.aload X47.here hx rfl (hb hby d_prog_19_3_67) rfl rfl k) ?_
  obtain ⟨_, T49, L49, X49, ⟨rfl, M49, K49⟩, st49⟩ := callVirt X47 hx hZ hown (W_ hw 276 rfl) (W_ hw 277 rfl) (W_ hw 279 rfl) (notFace_of_selects (args := #[]) (mvT hZ (W_ hw 279 rfl))) (W_ hw 278 rfl) (W_ hw 29 rfl) (W_ hw 280 rfl) (by decide) (argsL := []) (rest := [(.double (own_d (ga2 + gb2)))]) (own_m70 l Z a0 hw [] pgc soc T38.heap n0 ((((O0.keep K2 all0).keep K4 (allS gn2_0 all0)).keep K20 (allS gn2_0 all0)).keep K38 (allS gn2_0 all0)) ((((F_20.keep K2).keep K4).keep K20).keep K38) c43) K47 ((((F_20.keep K2).keep K4).keep K20).keep K38) (lenOf own_pd21 rfl) (pc := 69) (Ls := #[rv sh, .val (.double (own_d ((ga0 + gb0) + gc0))), s_, .val (.double (own_d ((ga1 + gb1) + gc1))), s_, .val (.double (own_d (ga2 + gb2))), s_, .val (.double (own_d (ga3 + gb3))), s_, rv r2, rv pgc]) (st := [(.ref pgc), (.double (own_d (ga2 + gb2)))]) rfl (by rw [hml]; rfl) (hb hby d_prog_19_3_69) (W := 2) (Nat.le_of_eq rfl) (by decide) (by decide) (by decide) (by decide)
  have N49 := Fr.app N47 M49
  refine Goes.via (B := T49.setTop (mkF m 72 #[rv sh, .val (.double (own_d ((ga0 + gb0) + gc0))), s_, .val (.double (own_d ((ga1 + gb1) + gc1))), s_, .val (.double (own_d (ga2 + gb2))), s_, .val (.double (own_d (ga3 + gb3))), s_, rv r2, rv pgc] [(.ref soc), (.double (own_d (ga2 + gb2)))])) (fun t k => st49 _ k) ?_
  have c51 : Fld Z T38.heap soc "com/example/wakenitz/wakenitz/measure/Score" "f1" "D" (.double (own_d gc2)) := ((((F_25.keep K2 nin0).keep K4 (ninS (Nat.ne_of_lt (Nat.lt_of_lt_of_le F_22.lt z2_0)) nin0)).keep K20 (ninS (Nat.ne_of_lt (Nat.lt_of_lt_of_le F_22.lt z2_0)) nin0)).keep K38 (ninS (Nat.ne_of_lt (Nat.lt_of_lt_of_le F_22.lt z2_0)) nin0))
  obtain ⟨_, T50, L50, X50, ⟨rfl, M50, K50⟩, st50⟩ := callVirt X49 hx hZ hown (W_ hw 291 rfl) (W_ hw 292 rfl) (W_ hw 294 rfl) (notFace_of_selects (args := #[]) (mvT hZ (W_ hw 294 rfl))) (W_ hw 293 rfl) (W_ hw 44 rfl) (W_ hw 295 rfl) (by decide) (argsL := []) (rest := [(.double (own_d (ga2 + gb2)))]) (own_m73 l Z a0 hw [] soc (own_d gc2) T38.heap n0 ((((O0.keep K2 all0).keep K4 (allS gn2_0 all0)).keep K20 (allS gn2_0 all0)).keep K38 (allS gn2_0 all0)) ((((F_22.keep K2).keep K4).keep K20).keep K38) c51) K49 ((((F_22.keep K2).keep K4).keep K20).keep K38) (lenOf own_pd22 rfl) (pc := 72) (Ls := #[rv sh, .val (.double (own_d ((ga0 + gb0) + gc0))), s_, .val (.double (own_d ((ga1 + gb1) + gc1))), s_, .val (.double (own_d (ga2 + gb2))), s_, .val (.double (own_d (ga3 + gb3))), s_, rv r2, rv pgc]) (st := [(.ref soc), (.double (own_d (ga2 + gb2)))]) rfl (by rw [hml]; rfl) (hb hby d_prog_19_3_72) (W := 2) (Nat.le_of_eq rfl) (by decide) (by decide) (by decide) (by decide)
  have N50 := Fr.app N49 M50
  refine Goes.via (B := T50.setTop (mkF m 75 #[rv sh, .val (.double (own_d ((ga0 + gb0) + gc0))), s_, .val (.double (own_d ((ga1 + gb1) + gc1))), s_, .val (.double (own_d (ga2 + gb2))), s_, .val (.double (own_d (ga3 + gb3))), s_, rv r2, rv pgc] [(.double (own_d gc2)), (.double (own_d (ga2 + gb2)))])) (fun t k => st50 _ k) ?_
  refine Gv T50 76 [(.double (own_d ((ga2 + gb2) + gc2)))] (fun t k => XS.daddS X50.here hx rfl (hb hby d_prog_19_3_75) rfl (own_nna (own_up (own_sum (a := 16) (b := 16) hga2 hgb2 (by decide)) (by decide)) hgc2) (own_add (own_up (own_sum (a := 16) (b := 16) hga2 hgb2 (by decide)) (by decide)) hgc2) k) ?_
  refine Gv T50 78 [] (fun t k => XS.dstore X50.here hx rfl (hb hby d_prog_19_3_76) rfl (l' := #[rv sh, .val (.double (own_d ((ga0 + gb0) + gc0))), s_, .val (.double (own_d ((ga1 + gb1) + gc1))), s_, .val (.double (own_d ((ga2 + gb2) + gc2))), s_, .val (.double (own_d (ga3 + gb3))), s_, rv r2, rv pgc]) rfl k) ?_
  refine Gv T50 80 [(.double (own_d (ga3 + gb3)))] (fun t k => XS.dload X50.here hx rfl (hb hby d_prog_19_3_78) rfl k) ?_
  refine Gv T50 82 [(.ref pgc), (.double (own_d (ga3 + gb3)))] (fun t k => XS.aload X50.here hx rfl (hb hby d_prog_19_3_80) rfl rfl k) ?_
  obtain ⟨_, T52, L52, X52, ⟨rfl, M52, K52⟩, st52⟩ := callVirt X50 hx hZ hown (W_ hw 276 rfl) (W_ hw 277 rfl) (W_ hw 279 rfl) (notFace_of_selects (args := #[]) (mvT hZ (W_ hw 279 rfl))) (W_ hw 278 rfl) (W_ hw 29 rfl) (W_ hw 280 rfl) (by decide) (argsL := []) (rest := [(.double (own_d (ga3 + gb3)))]) (own_m70 l Z a0 hw [] pgc soc T38.heap n0 ((((O0.keep K2 all0).keep K4 (allS gn2_0 all0)).keep K20 (allS gn2_0 all0)).keep K38 (allS gn2_0 all0)) ((((F_20.keep K2).keep K4).keep K20).keep K38) c43) K50 ((((F_20.keep K2).keep K4).keep K20).keep K38) (lenOf own_pd21 rfl) (pc := 82) (Ls := #[rv sh, .val (.double (own_d ((ga0 + gb0) + gc0))), s_, .val (.double (own_d ((ga1 + gb1) + gc1))), s_, .val (.double (own_d ((ga2 + gb2) + gc2))), s_, .val (.double (own_d (ga3 + gb3))), s_, rv r2, rv pgc]) (st := [(.ref pgc), (.double (own_d (ga3 + gb3)))]) rfl (by rw [hml]; rfl) (hb hby d_prog_19_3_82) (W := 2) (Nat.le_of_eq rfl) (by decide) (by decide) (by decide) (by decide)
  have N52 := Fr.app N50 M52
  refine Goes.via (B := T52.setTop (mkF m 85 #[rv sh, .val (.double (own_d ((ga0 + gb0) + gc0))), s_, .val (.double (own_d ((ga1 + gb1) + gc1))), s_, .val (.double (own_d ((ga2 + gb2) + gc2))), s_, .val (.double (own_d (ga3 + gb3))), s_, rv r2, rv pgc] [(.ref soc), (.double (own_d (ga3 + gb3)))])) (fun t k => st52 _ k) ?_
  have c54 : Fld Z T38.heap soc "com/example/wakenitz/wakenitz/measure/Score" "similarity" "D" (.double (own_d gc3)) := ((((F_26.keep K2 nin0).keep K4 (ninS (Nat.ne_of_lt (Nat.lt_of_lt_of_le F_22.lt z2_0)) nin0)).keep K20 (ninS (Nat.ne_of_lt (Nat.lt_of_lt_of_le F_22.lt z2_0)) nin0)).keep K38 (ninS (Nat.ne_of_lt (Nat.lt_of_lt_of_le F_22.lt z2_0)) nin0))
  obtain ⟨_, T53, L53, X53, ⟨rfl, M53, K53⟩, st53⟩ := callVirt X52 hx hZ hown (W_ hw 296 rfl) (W_ hw 297 rfl) (W_ hw 299 rfl) (notFace_of_selects (args := #[]) (mvT hZ (W_ hw 299 rfl))) (W_ hw 298 rfl) (W_ hw 44 rfl) (W_ hw 300 rfl) (by decide) (argsL := []) (rest := [(.double (own_d (ga3 + gb3)))]) (own_m74 l Z a0 hw [] soc (own_d gc3) T38.heap n0 ((((O0.keep K2 all0).keep K4 (allS gn2_0 all0)).keep K20 (allS gn2_0 all0)).keep K38 (allS gn2_0 all0)) ((((F_22.keep K2).keep K4).keep K20).keep K38) c54) K52 ((((F_22.keep K2).keep K4).keep K20).keep K38) (lenOf own_pd22 rfl) (pc := 85) (Ls := #[rv sh, .val (.double (own_d ((ga0 + gb0) + gc0))), s_, .val (.double (own_d ((ga1 + gb1) + gc1))), s_, .val (.double (own_d ((ga2 + gb2) + gc2))), s_, .val (.double (own_d (ga3 + gb3))), s_, rv r2, rv pgc]) (st := [(.ref soc), (.double (own_d (ga3 + gb3)))]) rfl (by rw [hml]; rfl) (hb hby d_prog_19_3_85) (W := 2) (Nat.le_of_eq rfl) (by decide) (by decide) (by decide) (by decide)
  have N53 := Fr.app N52 M53
  refine Goes.via (B := T53.setTop (mkF m 88 #[rv sh, .val (.double (own_d ((ga0 + gb0) + gc0))), s_, .val (.double (own_d ((ga1 + gb1) + gc1))), s_, .val (.double (own_d ((ga2 + gb2) + gc2))), s_, .val (.double (own_d (ga3 + gb3))), s_, rv r2, rv pgc] [(.double (own_d gc3)), (.double (own_d (ga3 + gb3)))])) (fun t k => st53 _ k) ?_
  refine Gv T53 89 [(.double (own_d ((ga3 + gb3) + gc3)))] (fun t k => XS.daddS X53.here hx rfl (hb hby d_prog_19_3_88) rfl (own_nna (own_up (own_sum (a := 16) (b := 16) hga3 hgb3 (by decide)) (by decide)) hgc3) (own_add (own_up (own_sum (a := 16) (b := 16) hga3 hgb3 (by decide)) (by decide)) hgc3) k) ?_
  refine Gv T53 91 [] (fun t k => XS.dstore X53.here hx rfl (hb hby d_prog_19_3_89) rfl (l' := #[rv sh, .val (.double (own_d ((ga0 + gb0) + gc0))), s_, .val (.double (own_d ((ga1 + gb1) + gc1))), s_, .val (.double (own_d ((ga2 + gb2) + gc2))), s_, .val (.double (own_d ((ga3 + gb3) + gc3))), s_, rv r2, rv pgc]) rfl k) ?_
  refine Gv T53 21 [] (fun t k => XS.goto X53.here hx rfl (pc0 := 91) (pc' := 21) rfl (hb hby d_prog_19_3_91) (by decide) (by decide) k) ?_
  refine Gv T53 23 [(.ref r2)] (fun t k => XS.aload X53.here hx rfl (hb hby d_prog_19_3_21) rfl rfl k) ?_
  obtain ⟨_, T55, L55, X55, ⟨r55, rfl, M55, K55, p55_0⟩, st55⟩ := callFace X53 hx hZ hown (W_ hw 249 rfl) (W_ hw 250 rfl) (mvT hZ (W_ hw 251 rfl)) (W_ hw 252 rfl) (W_ hw 253 rfl) (W_ hw 254 rfl) (W_ hw 255 rfl) (W_ hw 256 rfl) (W_ hw 229 rfl) (W_ hw 257 rfl) (by decide) (argsL := []) (rest := []) (own_m63 l Z a0 hw [] r2 li (3 : Int32) (3 : Int32) T38.heap n0 ((((O0.keep K2 all0).keep K4 (allS gn2_0 all0)).keep K20 (allS gn2_0 all0)).keep K38 (allS gn2_0 all0)) f38_0 f38_1 f38_2 f38_3) K53 f38_0 (lenOf own_pd12 rfl) (pc := 23) (Ls := #[rv sh, .val (.double (own_d ((ga0 + gb0) + gc0))), s_, .val (.double (own_d ((ga1 + gb1) + gc1))), s_, .val (.double (own_d ((ga2 + gb2) + gc2))), s_, .val (.double (own_d ((ga3 + gb3) + gc3))), s_, rv r2, rv pgc]) (st := [(.ref r2)]) rfl (by rw [hml]; rfl) (hb hby d_prog_19_3_23) (W := 0) (Nat.le_of_eq rfl) (by decide) (by decide) (by decide) (by decide)
  have N55 := Fr.app N53 M55
  refine Goes.via (B := T55.setTop (mkF m 28 #[rv sh, .val (.double (own_d ((ga0 + gb0) + gc0))), s_, .val (.double (own_d ((ga1 + gb1) + gc1))), s_, .val (.double (own_d ((ga2 + gb2) + gc2))), s_, .val (.double (own_d ((ga3 + gb3) + gc3))), s_, rv r2, rv pgc] [(.int r55)])) (fun t k => st55 _ k) ?_
  refine Gv T55 94 [] (fun t k => XS.ifYes X55.here hx rfl (pc0 := 28) (pc' := 94) rfl (hb hby d_prog_19_3_28) rfl (XT.i0_eq_t (p55_0.trans (by decide))) (by decide) (by decide) k) ?_
  refine Gv T55 95 [(.ref sh)] (fun t k => XS.aloadN X55.here hx rfl (hb hby d_prog_19_3_94) rfl rfl k) ?_
  have c56 : Fld Z T38.heap sh "com/example/wakenitz/wakenitz/measure/ScoreSheet" "pages" "Ljava/util/List;" (.ref li) := ((((F_2.keep K2 nin0).keep K4 (ninS (Nat.ne_of_lt (Nat.lt_of_lt_of_le F_1.lt z2_0)) nin0)).keep K20 (ninS (Nat.ne_of_lt (Nat.lt_of_lt_of_le F_1.lt z2_0)) nin0)).keep K38 (ninS (Nat.ne_of_lt (Nat.lt_of_lt_of_le F_1.lt z2_0)) nin0))
  obtain ⟨T57, X57, e57, st57⟩ := getF X55 hx hZ hown (host := "") (Or.inl (W_ hw 211 rfl)) Via.refl K55 c56 (g := (mkF m 95 #[rv sh, .val (.double (own_d ((ga0 + gb0) + gc0))), s_, .val (.double (own_d ((ga1 + gb1) + gc1))), s_, .val (.double (own_d ((ga2 + gb2) + gc2))), s_, .val (.double (own_d ((ga3 + gb3) + gc3))), s_, rv r2, rv pgc] [(.ref sh)])) rfl rfl (hb hby d_prog_19_3_95)
  refine Goes.via (B := T57.setTop (mkF m 98 #[rv sh, .val (.double (own_d ((ga0 + gb0) + gc0))), s_, .val (.double (own_d ((ga1 + gb1) + gc1))), s_, .val (.double (own_d ((ga2 + gb2) + gc2))), s_, .val (.double (own_d ((ga3 + gb3) + gc3))), s_, rv r2, rv pgc] [(.ref li)])) (fun t k => st57 _ k) ?_
  have c59 : Fld Z T38.heap li "java/util/ImmutableCollections$ListN" "elements" "[Ljava/lang/Object;" (.ref ar) := (c39.keep K38 (ninS (Nat.ne_of_lt (Nat.lt_of_lt_of_le F_3.lt z2_0)) nin0))
  have c60 : Arv Z T38.heap ar ka (.object "java/lang/Object") (3 : Int32) [(.ref pga), (.ref pgb), (.ref pgc)] .null := (c40.keep K38 (ninS (Nat.ne_of_lt (Nat.lt_of_lt_of_le F_5.lt z2_0)) nin0))
  obtain ⟨_, T58, L58, X58, ⟨rfl, M58, K58⟩, st58⟩ := callFace X57 hx hZ hown (W_ hw 301 rfl) (W_ hw 302 rfl) (mvT hZ (W_ hw 303 rfl)) (W_ hw 304 rfl) (W_ hw 234 rfl) (W_ hw 305 rfl) (W_ hw 306 rfl) (W_ hw 225 rfl) (W_ hw 188 rfl) (W_ hw 235 rfl) (by decide) (argsL := []) (rest := []) (own_m52 l Z a0 hw [] li pga pgb pgc ar ka T38.heap n0 ((((O0.keep K2 all0).keep K4 (allS gn2_0 all0)).keep K20 (allS gn2_0 all0)).keep K38 (allS gn2_0 all0)) ((((F_3.keep K2).keep K4).keep K20).keep K38) c59 c60) e57 ((((F_3.keep K2).keep K4).keep K20).keep K38) (lenOf own_pd16 rfl) (pc := 98) (Ls := #[rv sh, .val (.double (own_d ((ga0 + gb0) + gc0))), s_, .val (.double (own_d ((ga1 + gb1) + gc1))), s_, .val (.double (own_d ((ga2 + gb2) + gc2))), s_, .val (.double (own_d ((ga3 + gb3) + gc3))), s_, rv r2, rv pgc]) (st := [(.ref li)]) rfl (by rw [hml]; rfl) (hb hby d_prog_19_3_98) (W := 0) (Nat.le_of_eq rfl) (by decide) (by decide) (by decide) (by decide)
  have N58 := Fr.app N55 M58
  refine Goes.via (B := T58.setTop (mkF m 103 #[rv sh, .val (.double (own_d ((ga0 + gb0) + gc0))), s_, .val (.double (own_d ((ga1 + gb1) + gc1))), s_, .val (.double (own_d ((ga2 + gb2) + gc2))), s_, .val (.double (own_d ((ga3 + gb3) + gc3))), s_, rv r2, rv pgc] [(.int (3 : Int32))])) (fun t k => st58 _ k) ?_
  refine Gv T58 105 [] (fun t k => XS.istore X58.here hx rfl (hb hby d_prog_19_3_103) rfl (l' := #[rv sh, .val (.double (own_d ((ga0 + gb0) + gc0))), s_, .val (.double (own_d ((ga1 + gb1) + gc1))), s_, .val (.double (own_d ((ga2 + gb2) + gc2))), s_, .val (.double (own_d ((ga3 + gb3) + gc3))), s_, iv (3 : Int32), rv pgc]) rfl k) ?_
  obtain ⟨T61, h61, X61, e61, E61, A61, D61, U61, st61⟩ := newO X58 hx hZ hown (W_ hw 307 rfl) (W_ hw 43 rfl) (W_ hw 44 rfl) K58 (g := (mkF m 105 #[rv sh, .val (.double (own_d ((ga0 + gb0) + gc0))), s_, .val (.double (own_d ((ga1 + gb1) + gc1))), s_, .val (.double (own_d ((ga2 + gb2) + gc2))), s_, .val (.double (own_d ((ga3 + gb3) + gc3))), s_, iv (3 : Int32), rv pgc] [])) rfl (hb hby d_prog_19_3_105) (by decide) (by decide)
  obtain ⟨b61, g61⟩ : ∃ z, z = T38.heap.size := ⟨_, rfl⟩
  rw [← g61] at A61 D61 U61 st61
  have gn61 : n0 ≤ b61 := Nat.le_trans (old_le ((((O0.keep K2 all0).keep K4 (allS gn2_0 all0)).keep K20 (allS gn2_0 all0)).keep K38 (allS gn2_0 all0))) (Nat.le_of_eq g61.symm)
  have gs61 : h0.size ≤ b61 := Nat.le_trans (((((Keep.refl h0 []).trans K2 all0).trans K4 (allS (Or.inr gs2_0) all0)).trans K20 (allS (Or.inr gs2_0) all0)).trans K38 (allS (Or.inr gs2_0) all0)).1 (Nat.le_of_eq g61.symm)
  have F61_precision : Fld Z h61 b61 "com/example/wakenitz/wakenitz/measure/Score" "precision" "D" (.double (0 : UInt64)) := D61 (Or.inr (W_ hw 60 rfl)) (ty := .double) (by decide)
  have F61_recall : Fld Z h61 b61 "com/example/wakenitz/wakenitz/measure/Score" "recall" "D" (.double (0 : UInt64)) := D61 (Or.inr (W_ hw 62 rfl)) (ty := .double) (by decide)
  have F61_f1 : Fld Z h61 b61 "com/example/wakenitz/wakenitz/measure/Score" "f1" "D" (.double (0 : UInt64)) := D61 (Or.inr (W_ hw 64 rfl)) (ty := .double) (by decide)
  have F61_similarity : Fld Z h61 b61 "com/example/wakenitz/wakenitz/measure/Score" "similarity" "D" (.double (0 : UInt64)) := D61 (Or.inr (W_ hw 66 rfl)) (ty := .double) (by decide)
  refine Goes.via (B := T61.setTop (mkF m 108 #[rv sh, .val (.double (own_d ((ga0 + gb0) + gc0))), s_, .val (.double (own_d ((ga1 + gb1) + gc1))), s_, .val (.double (own_d ((ga2 + gb2) + gc2))), s_, .val (.double (own_d ((ga3 + gb3) + gc3))), s_, iv (3 : Int32), rv pgc] [(.ref b61)])) (fun t k => st61 _ k) ?_
  refine Gv T61 109 [(.ref b61), (.ref b61)] (fun t k => XS.dup X61.here hx rfl (hb hby d_prog_19_3_108) rfl rfl k) ?_
  refine Gv T61 110 [(.double (own_d ((ga0 + gb0) + gc0))), (.ref b61), (.ref b61)] (fun t k => XS.dloadN X61.here hx rfl (hb hby d_prog_19_3_109) rfl k) ?_
  refine Gv T61 112 [(.int (3 : Int32)), (.double (own_d ((ga0 + gb0) + gc0))), (.ref b61), (.ref b61)] (fun t k => XS.iload X61.here hx rfl (hb hby d_prog_19_3_110) rfl k) ?_
  refine Gv T61 113 [(.double (FP.i2d (3 : Int32))), (.double (own_d ((ga0 + gb0) + gc0))), (.ref b61), (.ref b61)] (fun t k => XS.i2dS X61.here hx rfl (hb hby d_prog_19_3_112) rfl rfl k) ?_
  refine Gv T61 114 [(.double (own_q (3 : Int32) ((ga0 + gb0) + gc0))), (.ref b61), (.ref b61)] (fun t k => XS.ddivS X61.here hx rfl (hb hby d_prog_19_3_113) rfl (own_qs (own_up (own_sum (a := 32) (b := 16) (own_sum (a := 16) (b := 16) hga0 hgb0 (by decide)) hgc0 (by decide)) (by decide)) (by decide)).1 rfl k) ?_
  refine Gv T61 115 [(.double (own_d ((ga1 + gb1) + gc1))), (.double (own_q (3 : Int32) ((ga0 + gb0) + gc0))), (.ref b61), (.ref b61)] (fun t k => XS.dloadN X61.here hx rfl (hb hby d_prog_19_3_114) rfl k) ?_
  refine Gv T61 117 [(.int (3 : Int32)), (.double (own_d ((ga1 + gb1) + gc1))), (.double (own_q (3 : Int32) ((ga0 + gb0) + gc0))), (.ref b61), (.ref b61)] (fun t k => XS.iload X61.here hx rfl (hb hby d_prog_19_3_115) rfl k) ?_
  refine Gv T61 118 [(.double (FP.i2d (3 : Int32))), (.double (own_d ((ga1 + gb1) + gc1))), (.double (own_q (3 : Int32) ((ga0 + gb0) + gc0))), (.ref b61), (.ref b61)] (fun t k => XS.i2dS X61.here hx rfl (hb hby d_prog_19_3_117) rfl rfl k) ?_
  refine Gv T61 119 [(.double (own_q (3 : Int32) ((ga1 + gb1) + gc1))), (.double (own_q (3 : Int32) ((ga0 + gb0) + gc0))), (.ref b61), (.ref b61)] (fun t k => XS.ddivS X61.here hx rfl (hb hby d_prog_19_3_118) rfl (own_qs (own_up (own_sum (a := 32) (b := 16) (own_sum (a := 16) (b := 16) hga1 hgb1 (by decide)) hgc1 (by decide)) (by decide)) (by decide)).1 rfl k) ?_
  refine Gv T61 121 [(.double (own_d ((ga2 + gb2) + gc2))), (.double (own_q (3 : Int32) ((ga1 + gb1) + gc1))), (.double (own_q (3 : Int32) ((ga0 + gb0) + gc0))), (.ref b61), (.ref b61)] (fun t k => XS.dload X61.here hx rfl (hb hby d_prog_19_3_119) rfl k) ?_
  refine Gv T61 123 [(.int (3 : Int32)), (.double (own_d ((ga2 + gb2) + gc2))), (.double (own_q (3 : Int32) ((ga1 + gb1) + gc1))), (.double (own_q (3 : Int32) ((ga0 + gb0) + gc0))), (.ref b61), (.ref b61)] (fun t k => XS.iload X61.here hx rfl (hb hby d_prog_19_3_121) rfl k) ?_
  refine Gv T61 124 [(.double (FP.i2d (3 : Int32))), (.double (own_d ((ga2 + gb2) + gc2))), (.double (own_q (3 : Int32) ((ga1 + gb1) + gc1))), (.double (own_q (3 : Int32) ((ga0 + gb0) + gc0))), (.ref b61), (.ref b61)] (fun t k => XS.i2dS X61.here hx rfl (hb hby d_prog_19_3_123) rfl rfl k) ?_
  refine Gv T61 125 [(.double (own_q (3 : Int32) ((ga2 + gb2) + gc2))), (.double (own_q (3 : Int32) ((ga1 + gb1) + gc1))), (.double (own_q (3 : Int32) ((ga0 + gb0) + gc0))), (.ref b61), (.ref b61)] (fun t k => XS.ddivS X61.here hx rfl (hb hby d_prog_19_3_124) rfl (own_qs (own_up (own_sum (a := 32) (b := 16) (own_sum (a := 16) (b := 16) hga2 hgb2 (by decide)) hgc2 (by decide)) (by decide)) (by decide)).1 rfl k) ?_
  refine Gv T61 127 [(.double (own_d ((ga3 + gb3) + gc3))), (.double (own_q (3 : Int32) ((ga2 + gb2) + gc2))), (.double (own_q (3 : Int32) ((ga1 + gb1) + gc1))), (.double (own_q (3 : Int32) ((ga0 + gb0) + gc0))), (.ref b61), (.ref b61)] (fun t k => XS.dload X61.here hx rfl (hb hby d_prog_19_3_125) rfl k) ?_
  refine Gv T61 129 [(.int (3 : Int32)), (.double (own_d ((ga3 + gb3) + gc3))), (.double (own_q (3 : Int32) ((ga2 + gb2) + gc2))), (.double (own_q (3 : Int32) ((ga1 + gb1) + gc1))), (.double (own_q (3 : Int32) ((ga0 + gb0) + gc0))), (.ref b61), (.ref b61)] (fun t k => XS.iload X61.here hx rfl (hb hby d_prog_19_3_127) rfl k) ?_
  refine Gv T61 130 [(.double (FP.i2d (3 : Int32))), (.double (own_d ((ga3 + gb3) + gc3))), (.double (own_q (3 : Int32) ((ga2 + gb2) + gc2))), (.double (own_q (3 : Int32) ((ga1 + gb1) + gc1))), (.double (own_q (3 : Int32) ((ga0 + gb0) + gc0))), (.ref b61), (.ref b61)] (fun t k => XS.i2dS X61.here hx rfl (hb hby d_prog_19_3_129) rfl rfl k) ?_
  refine Gv T61 131 [(.double (own_q (3 : Int32) ((ga3 + gb3) + gc3))), (.double (own_q (3 : Int32) ((ga2 + gb2) + gc2))), (.double (own_q (3 : Int32) ((ga1 + gb1) + gc1))), (.double (own_q (3 : Int32) ((ga0 + gb0) + gc0))), (.ref b61), (.ref b61)] (fun t k => XS.ddivS X61.here hx rfl (hb hby d_prog_19_3_130) rfl (own_qs (own_up (own_sum (a := 32) (b := 16) (own_sum (a := 16) (b := 16) hga3 hgb3 (by decide)) hgc3 (by decide)) (by decide)) (by decide)).1 rfl k) ?_
  obtain ⟨_, T62, L62, X62, ⟨rfl, M62, K62, f62_0, f62_1, f62_2, f62_3, f62_4⟩, st62⟩ := callInit X61 hx hZ rfl hown (W_ hw 308 rfl) (W_ hw 51 rfl) (W_ hw 44 rfl) (W_ hw 52 rfl) (by decide) (argsL := [(.double (own_q (3 : Int32) ((ga0 + gb0) + gc0))), (.double (own_q (3 : Int32) ((ga1 + gb1) + gc1))), (.double (own_q (3 : Int32) ((ga2 + gb2) + gc2))), (.double (own_q (3 : Int32) ((ga3 + gb3) + gc3)))]) (rest := [(.ref b61)]) (own_m4 l Z a0 hw [] b61 (own_q (3 : Int32) ((ga0 + gb0) + gc0)) (own_q (3 : Int32) ((ga1 + gb1) + gc1)) (own_q (3 : Int32) ((ga2 + gb2) + gc2)) (own_q (3 : Int32) ((ga3 + gb3) + gc3)) h61 n0 (((((O0.keep K2 all0).keep K4 (allS gn2_0 all0)).keep K20 (allS gn2_0 all0)).keep K38 (allS gn2_0 all0)).ext E61) gn61 A61 F61_precision F61_recall F61_f1 F61_similarity) e61 (lenOf own_pd2 rfl) (pc := 131) (Ls := #[rv sh, .val (.double (own_d ((ga0 + gb0) + gc0))), s_, .val (.double (own_d ((ga1 + gb1) + gc1))), s_, .val (.double (own_d ((ga2 + gb2) + gc2))), s_, .val (.double (own_d ((ga3 + gb3) + gc3))), s_, iv (3 : Int32), rv pgc]) (st := [(.double (own_q (3 : Int32) ((ga3 + gb3) + gc3))), (.double (own_q (3 : Int32) ((ga2 + gb2) + gc2))), (.double (own_q (3 : Int32) ((ga1 + gb1) + gc1))), (.double (own_q (3 : Int32) ((ga0 + gb0) + gc0))), (.ref b61), (.ref b61)]) rfl (by rw [hml]; rfl) (hb hby d_prog_19_3_131) (W := 1) (Nat.le_of_eq rfl) (by decide) (by decide) (by decide) (by decide)
  have N62 := Fr.app N58 M62
  refine Goes.via (B := T62.setTop (mkF m 134 #[rv sh, .val (.double (own_d ((ga0 + gb0) + gc0))), s_, .val (.double (own_d ((ga1 + gb1) + gc1))), s_, .val (.double (own_d ((ga2 + gb2) + gc2))), s_, .val (.double (own_d ((ga3 + gb3) + gc3))), s_, iv (3 : Int32), rv pgc] [(.ref b61)])) (fun t k => st62 _ k) ?_
  exact finA (Q := (own_Q77 Z sh li pga pgb pgc ar ka soa sob soc ga0 ga1 ga2 ga3 gb0 gb1 gb2 gb3 gc0 gc1 gc2 gc3 h0 n0)) (F := FrameEnd) (C := ((Rm 3 2 8 45)).cells) (S := ((Rm 3 2 8 45)).slots) X62 hx Bd.returns rfl rfl rfl (hb hby d_prog_19_3_134) rfl ⟨b61, rfl, N62, (((((((Keep.refl h0 []).trans K2 all0).trans K4 (allS (Or.inr gs2_0) all0)).trans K20 (allS (Or.inr gs2_0) all0)).trans K38 (allS (Or.inr gs2_0) all0)).ext E61).trans K62 (allS (Or.inr gs61) all0)), gs61, f62_0, f62_1, f62_2, f62_3, f62_4⟩ (lvN X62 hlk (by decide) (by decide))
theorem d_3_0 : decode method_3_code 0 = .ok (.iload_n 3, 1) := by decide +kernel
theorem d_3_1 : decode method_3_code 1 = .ok (.ifCond .eq 11, 3) := by decide +kernel
theorem d_3_4 : decode method_3_code 4 = .ok (.lload_n 0, 1) := by decide +kernel
theorem d_3_5 : decode method_3_code 5 = .ok (.iload_n 2, 1) := by decide +kernel
theorem d_3_6 : decode method_3_code 6 = .ok (.invokestatic 9, 3) := by decide +kernel
theorem d_3_9 : decode method_3_code 9 = .ok (.goto 4, 3) := by decide +kernel
theorem d_3_13 : decode method_3_code 13 = .ok (.ireturn, 1) := by decide +kernel
theorem own_ef78 (m : MethodId) (x0 : Int64) (x1 : Int32) (x2 : Int32)  : entryFrame m #[(.long x0), (.int x1), (.int x2)] 4 = mkF m 0 #[lv_ x0, s_, iv x1, iv x2] [] := by first | (simp [entryFrame, mkF, argsToLocals, Value.category]; done) | rfl
abbrev own_Q78 (Z : State) (x1 : Int64) (kk : Int32) (h0 : Heap) (n0 : Nat) (v : Option Value) (h : Heap) (L : List Loc) : Prop := v = some (.int (own_fig x1 kk)) ∧ Fr n0 L ∧ h = h0
set_option maxRecDepth 65536 in
set_option maxHeartbeats 40000000 in
theorem own_m78 (l : Launch) (Z : State) (a0 : Array Value) (hw : ∀ d ∈ tables_1, d.before a0 Z = true) (ws : List Jvm.Cond) (x1 : Int64) (kk : Int32) (h0 : Heap) (n0 : Nat) (O0 : Old Z n0 h0) :
    Ctr l Z (⟨"com/example/wakenitz/wakenitz/measure/ScoreSheetMeanPinLaw", "figIf", "(JIZ)I"⟩ : MethodName) method_3_code 4 (some .int) (Rm 1 0 0 14) #[(.long x1), (.int kk), (.int (1 : Int32))] h0 (own_Q78 Z x1 kk h0 n0) ws := by
  refine MetFree.of_bodySF (plainFor_of_name own_pn0) hisR ?_
  intro p e s m args below meth c s₁ Bd hml0 hP hK
  obtain ⟨rfl, hZ, hh⟩ := hP
  have hx := Bd.exec
  have hby := Bd.bytes
  have hlk : meth.locks = false := Bd.notSynchronized
  have hml : c.maxLocals = 4 := hml0
  have hown : s.vm.findClass "com/example/wakenitz/wakenitz/measure/ScoreSheetMeanPinLaw" = some m.cls := findClass_of_methodNamed Bd.named
  have hnm := (name_of_methodNamed Bd.named Bd.method).1
  have X0 : Stand p l e (Rm 1 0 0 14) s m #[(.long x1), (.int kk), (.int (1 : Int32))] below meth c s₁ [] 0 0 := Stand.of_body Bd
  have e0 : s₁.heap = h0 := by rw [← hh, Bd.state]; rfl
  have N0 := Fr.nil n0
  show Goes p.tables e below (fun t o => ∃ v L, o = .returned v ∧ (own_Q78 Z x1 kk h0 n0) v t.heap L ∧ FrameEnd s o t L ((Rm 1 0 0 14)).cells ((Rm 1 0 0 14)).slots) _
  refine Goes.via (B := s₁.setTop (mkF m 0 #[lv_ x1, s_, iv kk, iv (1 : Int32)] [])) (fun t k => castTop (own_ef78 m x1 kk (1 : Int32)) k) ?_
  refine Gv s₁ 1 [(.int (1 : Int32))] (fun t k => XS.iloadN X0.here hx rfl (hb hby d_3_0) rfl k) ?_
  refine Gv s₁ 4 [] (fun t k => XS.ifNo X0.here hx rfl (hb hby d_3_1) rfl (XT.i0_eq_f (by decide)) k) ?_
  refine Gv s₁ 5 [(.long x1)] (fun t k => XS.lloadN X0.here hx rfl (hb hby d_3_4) rfl k) ?_
  refine Gv s₁ 6 [(.int kk), (.long x1)] (fun t k => XS.iloadN X0.here hx rfl (hb hby d_3_5) rfl k) ?_
  obtain ⟨_, T1, L1, X1, ⟨rfl, M1, K1⟩, st1⟩ := callStatic X0 hx hZ hown (W_ hw 45 rfl) (W_ hw 46 rfl) (W_ hw 40 rfl) (W_ hw 47 rfl) (by decide) (argsL := [(.long x1), (.int kk)]) (rest := []) (own_m1 l Z a0 hw [] x1 kk h0 n0 O0 ) e0 (lenOf own_pd1 rfl) (pc := 6) (Ls := #[lv_ x1, s_, iv kk, iv (1 : Int32)]) (st := [(.int kk), (.long x1)]) rfl (by rw [hml]; rfl) (hb hby d_3_6) (W := 0) (Nat.le_of_eq rfl) (by decide) (by decide) (by decide) (by decide)
  have N1 := Fr.app N0 M1
  refine Goes.via (B := T1.setTop (mkF m 9 #[lv_ x1, s_, iv kk, iv (1 : Int32)] [(.int (own_fig x1 kk))])) (fun t k => st1 _ k) ?_
  refine Gv T1 13 [(.int (own_fig x1 kk))] (fun t k => XS.goto X1.here hx rfl (pc0 := 9) (pc' := 13) rfl (hb hby d_3_9) (by decide) (by decide) k) ?_
  exact finI (Q := (own_Q78 Z x1 kk h0 n0)) (F := FrameEnd) (C := ((Rm 1 0 0 14)).cells) (S := ((Rm 1 0 0 14)).slots) X1 hx Bd.returns (hb hby d_3_13) K1 ⟨rfl, N1, rfl⟩ (lvN X1 hlk (by decide) (by decide))
theorem d_3_12 : decode method_3_code 12 = .ok (.iconst 0, 1) := by decide +kernel
theorem own_ef79 (m : MethodId) (x0 : Int64) (x1 : Int32) (x2 : Int32)  : entryFrame m #[(.long x0), (.int x1), (.int x2)] 4 = mkF m 0 #[lv_ x0, s_, iv x1, iv x2] [] := by first | (simp [entryFrame, mkF, argsToLocals, Value.category]; done) | rfl
abbrev own_Q79 (Z : State) (x1 : Int64) (kk : Int32) (h0 : Heap) (n0 : Nat) (v : Option Value) (h : Heap) (L : List Loc) : Prop := v = some (.int (0 : Int32)) ∧ Fr n0 L ∧ h = h0
set_option maxRecDepth 65536 in
set_option maxHeartbeats 40000000 in
theorem own_m79 (l : Launch) (Z : State) (a0 : Array Value) (hw : ∀ d ∈ tables_1, d.before a0 Z = true) (ws : List Jvm.Cond) (x1 : Int64) (kk : Int32) (h0 : Heap) (n0 : Nat) (O0 : Old Z n0 h0) :
    Ctr l Z (⟨"com/example/wakenitz/wakenitz/measure/ScoreSheetMeanPinLaw", "figIf", "(JIZ)I"⟩ : MethodName) method_3_code 4 (some .int) (Rm 0 0 0 0) #[(.long x1), (.int kk), (.int (0 : Int32))] h0 (own_Q79 Z x1 kk h0 n0) ws := by
  refine MetFree.of_bodySF (plainFor_of_name own_pn0) hisR ?_
  intro p e s m args below meth c s₁ Bd hml0 hP hK
  obtain ⟨rfl, hZ, hh⟩ := hP
  have hx := Bd.exec
  have hby := Bd.bytes
  have hlk : meth.locks = false := Bd.notSynchronized
  have hml : c.maxLocals = 4 := hml0
  have hown : s.vm.findClass "com/example/wakenitz/wakenitz/measure/ScoreSheetMeanPinLaw" = some m.cls := findClass_of_methodNamed Bd.named
  have hnm := (name_of_methodNamed Bd.named Bd.method).1
  have X0 : Stand p l e (Rm 0 0 0 0) s m #[(.long x1), (.int kk), (.int (0 : Int32))] below meth c s₁ [] 0 0 := Stand.of_body Bd
  have e0 : s₁.heap = h0 := by rw [← hh, Bd.state]; rfl
  have N0 := Fr.nil n0
  show Goes p.tables e below (fun t o => ∃ v L, o = .returned v ∧ (own_Q79 Z x1 kk h0 n0) v t.heap L ∧ FrameEnd s o t L ((Rm 0 0 0 0)).cells ((Rm 0 0 0 0)).slots) _
  refine Goes.via (B := s₁.setTop (mkF m 0 #[lv_ x1, s_, iv kk, iv (0 : Int32)] [])) (fun t k => castTop (own_ef79 m x1 kk (0 : Int32)) k) ?_
  refine Gv s₁ 1 [(.int (0 : Int32))] (fun t k => XS.iloadN X0.here hx rfl (hb hby d_3_0) rfl k) ?_
  refine Gv s₁ 12 [] (fun t k => XS.ifYes X0.here hx rfl (pc0 := 1) (pc' := 12) rfl (hb hby d_3_1) rfl (XT.i0_eq_t rfl) (by decide) (by decide) k) ?_
  refine Gv s₁ 13 [(.int (0 : Int32))] (fun t k => XS.iconst X0.here hx rfl (hb hby d_3_12) k) ?_
  exact finI (Q := (own_Q79 Z x1 kk h0 n0)) (F := FrameEnd) (C := ((Rm 0 0 0 0)).cells) (S := ((Rm 0 0 0 0)).slots) X0 hx Bd.returns (hb hby d_3_13) e0 ⟨rfl, N0, rfl⟩ (lvN X0 hlk (by decide) (by decide))
theorem d_5_0 : decode method_5_code 0 = .ok (.lload_n 0, 1) := by decide +kernel
theorem d_5_1 : decode method_5_code 1 = .ok (.iload 7, 2) := by decide +kernel
theorem d_5_3 : decode method_5_code 3 = .ok (.invokestatic 9, 3) := by decide +kernel
theorem d_5_6 : decode method_5_code 6 = .ok (.lload_n 2, 1) := by decide +kernel
theorem d_5_7 : decode method_5_code 7 = .ok (.iload 7, 2) := by decide +kernel
theorem d_5_9 : decode method_5_code 9 = .ok (.iload 6, 2) := by decide +kernel
theorem d_5_11 : decode method_5_code 11 = .ok (.iconst 2, 1) := by decide +kernel
theorem d_5_12 : decode method_5_code 12 = .ok (.if_icmp .lt 7, 3) := by decide +kernel
theorem d_5_19 : decode method_5_code 19 = .ok (.iconst 0, 1) := by decide +kernel
theorem d_5_20 : decode method_5_code 20 = .ok (.invokestatic 22, 3) := by decide +kernel
theorem own_pd23 : parseMethodDescriptor "(JIZ)I" = some ⟨[.long, .int, .boolean], some .int⟩ := by decide +kernel
theorem d_5_23 : decode method_5_code 23 = .ok (.iadd, 1) := by decide +kernel
theorem d_5_24 : decode method_5_code 24 = .ok (.lload 4, 2) := by decide +kernel
theorem d_5_26 : decode method_5_code 26 = .ok (.iload 7, 2) := by decide +kernel
theorem d_5_28 : decode method_5_code 28 = .ok (.iload 6, 2) := by decide +kernel
theorem d_5_30 : decode method_5_code 30 = .ok (.iconst 3, 1) := by decide +kernel
theorem d_5_31 : decode method_5_code 31 = .ok (.if_icmp .lt 7, 3) := by decide +kernel
theorem d_5_38 : decode method_5_code 38 = .ok (.iconst 0, 1) := by decide +kernel
theorem d_5_39 : decode method_5_code 39 = .ok (.invokestatic 22, 3) := by decide +kernel
theorem d_5_42 : decode method_5_code 42 = .ok (.iadd, 1) := by decide +kernel
theorem d_5_43 : decode method_5_code 43 = .ok (.istore 8, 2) := by decide +kernel
theorem d_5_45 : decode method_5_code 45 = .ok (.iload 8, 2) := by decide +kernel
theorem d_5_47 : decode method_5_code 47 = .ok (.i2d, 1) := by decide +kernel
theorem d_5_48 : decode method_5_code 48 = .ok (.ldc2_w 17, 3) := by decide +kernel
theorem d_5_51 : decode method_5_code 51 = .ok (.ddiv, 1) := by decide +kernel
theorem d_5_52 : decode method_5_code 52 = .ok (.iload 6, 2) := by decide +kernel
theorem d_5_54 : decode method_5_code 54 = .ok (.i2d, 1) := by decide +kernel
theorem d_5_55 : decode method_5_code 55 = .ok (.ddiv, 1) := by decide +kernel
theorem d_5_56 : decode method_5_code 56 = .ok (.dreturn, 1) := by decide +kernel
theorem own_ef80 (m : MethodId) (x0 : Int64) (x1 : Int64) (x2 : Int64) (x3 : Int32) (x4 : Int32)  : entryFrame m #[(.long x0), (.long x1), (.long x2), (.int x3), (.int x4)] 9 = mkF m 0 #[lv_ x0, s_, lv_ x1, s_, lv_ x2, s_, iv x3, iv x4, u_] [] := by first | (simp [entryFrame, mkF, argsToLocals, Value.category]; done) | rfl
abbrev own_Q80 (Z : State) (x1 : Int64) (x2 : Int64) (x3 : Int64) (kk : Int32) (h0 : Heap) (n0 : Nat) (v : Option Value) (h : Heap) (L : List Loc) : Prop := v = some (.double (own_q (1 : Int32) (own_fig x1 kk))) ∧ Fr n0 L ∧ h = h0
set_option maxRecDepth 65536 in
set_option maxHeartbeats 40000000 in
theorem own_m80 (l : Launch) (Z : State) (a0 : Array Value) (hw : ∀ d ∈ tables_1, d.before a0 Z = true) (ws : List Jvm.Cond) (x1 : Int64) (x2 : Int64) (x3 : Int64) (kk : Int32) (h0 : Heap) (n0 : Nat) (O0 : Old Z n0 h0) :
    Ctr l Z (⟨"com/example/wakenitz/wakenitz/measure/ScoreSheetMeanPinLaw", "ref", "(JJJII)D"⟩ : MethodName) method_5_code 9 (some .double) (Rm 1 0 0 16) #[(.long x1), (.long x2), (.long x3), (.int (1 : Int32)), (.int kk)] h0 (own_Q80 Z x1 x2 x3 kk h0 n0) ws := by
  refine MetFree.of_bodySF (plainFor_of_name own_pn0) hisR ?_
  intro p e s m args below meth c s₁ Bd hml0 hP hK
  obtain ⟨rfl, hZ, hh⟩ := hP
  have hx := Bd.exec
  have hby := Bd.bytes
  have hlk : meth.locks = false := Bd.notSynchronized
  have hml : c.maxLocals = 9 := hml0
  have hown : s.vm.findClass "com/example/wakenitz/wakenitz/measure/ScoreSheetMeanPinLaw" = some m.cls := findClass_of_methodNamed Bd.named
  have hnm := (name_of_methodNamed Bd.named Bd.method).1
  have X0 : Stand p l e (Rm 1 0 0 16) s m #[(.long x1), (.long x2), (.long x3), (.int (1 : Int32)), (.int kk)] below meth c s₁ [] 0 0 := Stand.of_body Bd
  have e0 : s₁.heap = h0 := by rw [← hh, Bd.state]; rfl
  have N0 := Fr.nil n0
  show Goes p.tables e below (fun t o => ∃ v L, o = .returned v ∧ (own_Q80 Z x1 x2 x3 kk h0 n0) v t.heap L ∧ FrameEnd s o t L ((Rm 1 0 0 16)).cells ((Rm 1 0 0 16)).slots) _
  refine Goes.via (B := s₁.setTop (mkF m 0 #[lv_ x1, s_, lv_ x2, s_, lv_ x3, s_, iv (1 : Int32), iv kk, u_] [])) (fun t k => castTop (own_ef80 m x1 x2 x3 (1 : Int32) kk) k) ?_
  refine Gv s₁ 1 [(.long x1)] (fun t k => XS.lloadN X0.here hx rfl (hb hby d_5_0) rfl k) ?_
  refine Gv s₁ 3 [(.int kk), (.long x1)] (fun t k => XS.iload X0.here hx rfl (hb hby d_5_1) rfl k) ?_
  obtain ⟨_, T1, L1, X1, ⟨rfl, M1, K1⟩, st1⟩ := callStatic X0 hx hZ hown (W_ hw 45 rfl) (W_ hw 46 rfl) (W_ hw 40 rfl) (W_ hw 47 rfl) (by decide) (argsL := [(.long x1), (.int kk)]) (rest := []) (own_m1 l Z a0 hw [] x1 kk h0 n0 O0 ) e0 (lenOf own_pd1 rfl) (pc := 3) (Ls := #[lv_ x1, s_, lv_ x2, s_, lv_ x3, s_, iv (1 : Int32), iv kk, u_]) (st := [(.int kk), (.long x1)]) rfl (by rw [hml]; rfl) (hb hby d_5_3) (W := 0) (Nat.le_of_eq rfl) (by decide) (by decide) (by decide) (by decide)
  have N1 := Fr.app N0 M1
  refine Goes.via (B := T1.setTop (mkF m 6 #[lv_ x1, s_, lv_ x2, s_, lv_ x3, s_, iv (1 : Int32), iv kk, u_] [(.int (own_fig x1 kk))])) (fun t k => st1 _ k) ?_
  refine Gv T1 7 [(.long x2), (.int (own_fig x1 kk))] (fun t k => XS.lloadN X1.here hx rfl (hb hby d_5_6) rfl k) ?_
  refine Gv T1 9 [(.int kk), (.long x2), (.int (own_fig x1 kk))] (fun t k => XS.iload X1.here hx rfl (hb hby d_5_7) rfl k) ?_
  refine Gv T1 11 [(.int (1 : Int32)), (.int kk), (.long x2), (.int (own_fig x1 kk))] (fun t k => XS.iload X1.here hx rfl (hb hby d_5_9) rfl k) ?_
  refine Gv T1 12 [(.int (2 : Int32)), (.int (1 : Int32)), (.int kk), (.long x2), (.int (own_fig x1 kk))] (fun t k => XS.iconst X1.here hx rfl (hb hby d_5_11) k) ?_
  refine Gv T1 19 [(.int kk), (.long x2), (.int (own_fig x1 kk))] (fun t k => XS.icmpYes X1.here hx rfl (pc0 := 12) (pc' := 19) rfl (hb hby d_5_12) rfl (XT.ii_lt_t (by decide)) (by decide) (by decide) k) ?_
  refine Gv T1 20 [(.int (0 : Int32)), (.int kk), (.long x2), (.int (own_fig x1 kk))] (fun t k => XS.iconst X1.here hx rfl (hb hby d_5_19) k) ?_
  obtain ⟨_, T2, L2, X2, ⟨rfl, M2, K2⟩, st2⟩ := callStatic X1 hx hZ hown (W_ hw 313 rfl) (W_ hw 314 rfl) (W_ hw 40 rfl) (W_ hw 315 rfl) (by decide) (argsL := [(.long x2), (.int kk), (.int (0 : Int32))]) (rest := [(.int (own_fig x1 kk))]) (own_m79 l Z a0 hw [] x2 kk h0 n0 O0 ) K1 (lenOf own_pd23 rfl) (pc := 20) (Ls := #[lv_ x1, s_, lv_ x2, s_, lv_ x3, s_, iv (1 : Int32), iv kk, u_]) (st := [(.int (0 : Int32)), (.int kk), (.long x2), (.int (own_fig x1 kk))]) rfl (by rw [hml]; rfl) (hb hby d_5_20) (W := 1) (Nat.le_of_eq rfl) (by decide) (by decide) (by decide) (by decide)
  have N2 := Fr.app N1 M2
  refine Goes.via (B := T2.setTop (mkF m 23 #[lv_ x1, s_, lv_ x2, s_, lv_ x3, s_, iv (1 : Int32), iv kk, u_] [(.int (0 : Int32)), (.int (own_fig x1 kk))])) (fun t k => st2 _ k) ?_
  refine Gv T2 24 [(.int ((own_fig x1 kk) + (0 : Int32)))] (fun t k => XS.iadd X2.here hx rfl (hb hby d_5_23) rfl k) ?_
  refine Gv T2 26 [(.long x3), (.int ((own_fig x1 kk) + (0 : Int32)))] (fun t k => XS.lload X2.here hx rfl (hb hby d_5_24) rfl k) ?_
  refine Gv T2 28 [(.int kk), (.long x3), (.int ((own_fig x1 kk) + (0 : Int32)))] (fun t k => XS.iload X2.here hx rfl (hb hby d_5_26) rfl k) ?_
  refine Gv T2 30 [(.int (1 : Int32)), (.int kk), (.long x3), (.int ((own_fig x1 kk) + (0 : Int32)))] (fun t k => XS.iload X2.here hx rfl (hb hby d_5_28) rfl k) ?_
  refine Gv T2 31 [(.int (3 : Int32)), (.int (1 : Int32)), (.int kk), (.long x3), (.int ((own_fig x1 kk) + (0 : Int32)))] (fun t k => XS.iconst X2.here hx rfl (hb hby d_5_30) k) ?_
  refine Gv T2 38 [(.int kk), (.long x3), (.int ((own_fig x1 kk) + (0 : Int32)))] (fun t k => XS.icmpYes X2.here hx rfl (pc0 := 31) (pc' := 38) rfl (hb hby d_5_31) rfl (XT.ii_lt_t (by decide)) (by decide) (by decide) k) ?_
  refine Gv T2 39 [(.int (0 : Int32)), (.int kk), (.long x3), (.int ((own_fig x1 kk) + (0 : Int32)))] (fun t k => XS.iconst X2.here hx rfl (hb hby d_5_38) k) ?_
  obtain ⟨_, T3, L3, X3, ⟨rfl, M3, K3⟩, st3⟩ := callStatic X2 hx hZ hown (W_ hw 313 rfl) (W_ hw 314 rfl) (W_ hw 40 rfl) (W_ hw 315 rfl) (by decide) (argsL := [(.long x3), (.int kk), (.int (0 : Int32))]) (rest := [(.int ((own_fig x1 kk) + (0 : Int32)))]) (own_m79 l Z a0 hw [] x3 kk h0 n0 O0 ) K2 (lenOf own_pd23 rfl) (pc := 39) (Ls := #[lv_ x1, s_, lv_ x2, s_, lv_ x3, s_, iv (1 : Int32), iv kk, u_]) (st := [(.int (0 : Int32)), (.int kk), (.long x3), (.int ((own_fig x1 kk) + (0 : Int32)))]) rfl (by rw [hml]; rfl) (hb hby d_5_39) (W := 1) (Nat.le_of_eq rfl) (by decide) (by decide) (by decide) (by decide)
  have N3 := Fr.app N2 M3
  refine Goes.via (B := T3.setTop (mkF m 42 #[lv_ x1, s_, lv_ x2, s_, lv_ x3, s_, iv (1 : Int32), iv kk, u_] [(.int (0 : Int32)), (.int ((own_fig x1 kk) + (0 : Int32)))])) (fun t k => st3 _ k) ?_
  refine Gv T3 43 [(.int (((own_fig x1 kk) + (0 : Int32)) + (0 : Int32)))] (fun t k => XS.iadd X3.here hx rfl (hb hby d_5_42) rfl k) ?_
  refine Gv T3 45 [] (fun t k => XS.istore X3.here hx rfl (hb hby d_5_43) rfl (l' := #[lv_ x1, s_, lv_ x2, s_, lv_ x3, s_, iv (1 : Int32), iv kk, iv (((own_fig x1 kk) + (0 : Int32)) + (0 : Int32))]) rfl k) ?_
  have q4 : (((own_fig x1 kk) + (0 : Int32)) + (0 : Int32)) = (own_fig x1 kk) := (by simp)
  rw [q4]
  refine Gv T3 47 [(.int (own_fig x1 kk))] (fun t k => XS.iload X3.here hx rfl (hb hby d_5_45) rfl k) ?_
  refine Gv T3 48 [(.double (FP.i2d (own_fig x1 kk)))] (fun t k => XS.i2dS X3.here hx rfl (hb hby d_5_47) rfl rfl k) ?_
  have wd5 := mvD (args := #[(.long x1), (.long x2), (.long x3), (.int (1 : Int32)), (.int kk)]) hZ (W_ hw 49 rfl)
  refine Goes.via (B := T3.setTop (mkF m 51 #[lv_ x1, s_, lv_ x2, s_, lv_ x3, s_, iv (1 : Int32), iv kk, iv (own_fig x1 kk)] [(.double (4625196817309499392 : UInt64)), (.double (FP.i2d (own_fig x1 kk)))])) (fun t k => X3.ldc2DoubleC hx hown wd5 (g := (mkF m 48 #[lv_ x1, s_, lv_ x2, s_, lv_ x3, s_, iv (1 : Int32), iv kk, iv (own_fig x1 kk)] [(.double (FP.i2d (own_fig x1 kk)))])) rfl (hb hby d_5_48) t k) ?_
  refine Gv T3 52 [(.double (own_d (own_fig x1 kk)))] (fun t k => XS.ddivS X3.here hx rfl (hb hby d_5_51) rfl (own_nnD (own_up (own_figr _ _) (by decide))) (own_dE _) k) ?_
  refine Gv T3 54 [(.int (1 : Int32)), (.double (own_d (own_fig x1 kk)))] (fun t k => XS.iload X3.here hx rfl (hb hby d_5_52) rfl k) ?_
  refine Gv T3 55 [(.double (FP.i2d (1 : Int32))), (.double (own_d (own_fig x1 kk)))] (fun t k => XS.i2dS X3.here hx rfl (hb hby d_5_54) rfl rfl k) ?_
  refine Gv T3 56 [(.double (own_q (1 : Int32) (own_fig x1 kk)))] (fun t k => XS.ddivS X3.here hx rfl (hb hby d_5_55) rfl (own_qs (own_up (own_figr _ _) (by decide)) (by decide)).1 rfl k) ?_
  exact finD (Q := (own_Q80 Z x1 x2 x3 kk h0 n0)) (F := FrameEnd) (C := ((Rm 1 0 0 16)).cells) (S := ((Rm 1 0 0 16)).slots) X3 hx Bd.returns (hb hby d_5_56) K3 ⟨rfl, N3, rfl⟩ (lvN X3 hlk (by decide) (by decide))
theorem d_5_15 : decode method_5_code 15 = .ok (.iconst 1, 1) := by decide +kernel
theorem d_5_16 : decode method_5_code 16 = .ok (.goto 4, 3) := by decide +kernel
theorem own_ef81 (m : MethodId) (x0 : Int64) (x1 : Int64) (x2 : Int64) (x3 : Int32) (x4 : Int32)  : entryFrame m #[(.long x0), (.long x1), (.long x2), (.int x3), (.int x4)] 9 = mkF m 0 #[lv_ x0, s_, lv_ x1, s_, lv_ x2, s_, iv x3, iv x4, u_] [] := by first | (simp [entryFrame, mkF, argsToLocals, Value.category]; done) | rfl
abbrev own_Q81 (Z : State) (x1 : Int64) (x2 : Int64) (x3 : Int64) (kk : Int32) (h0 : Heap) (n0 : Nat) (v : Option Value) (h : Heap) (L : List Loc) : Prop := v = some (.double (own_q (2 : Int32) ((own_fig x1 kk) + (own_fig x2 kk)))) ∧ Fr n0 L ∧ h = h0
set_option maxRecDepth 65536 in
set_option maxHeartbeats 40000000 in
theorem own_m81 (l : Launch) (Z : State) (a0 : Array Value) (hw : ∀ d ∈ tables_1, d.before a0 Z = true) (ws : List Jvm.Cond) (x1 : Int64) (x2 : Int64) (x3 : Int64) (kk : Int32) (h0 : Heap) (n0 : Nat) (O0 : Old Z n0 h0) :
    Ctr l Z (⟨"com/example/wakenitz/wakenitz/measure/ScoreSheetMeanPinLaw", "ref", "(JJJII)D"⟩ : MethodName) method_5_code 9 (some .double) (Rm 2 0 0 30) #[(.long x1), (.long x2), (.long x3), (.int (2 : Int32)), (.int kk)] h0 (own_Q81 Z x1 x2 x3 kk h0 n0) ws := by
  refine MetFree.of_bodySF (plainFor_of_name own_pn0) hisR ?_
  intro p e s m args below meth c s₁ Bd hml0 hP hK
  obtain ⟨rfl, hZ, hh⟩ := hP
  have hx := Bd.exec
  have hby := Bd.bytes
  have hlk : meth.locks = false := Bd.notSynchronized
  have hml : c.maxLocals = 9 := hml0
  have hown : s.vm.findClass "com/example/wakenitz/wakenitz/measure/ScoreSheetMeanPinLaw" = some m.cls := findClass_of_methodNamed Bd.named
  have hnm := (name_of_methodNamed Bd.named Bd.method).1
  have X0 : Stand p l e (Rm 2 0 0 30) s m #[(.long x1), (.long x2), (.long x3), (.int (2 : Int32)), (.int kk)] below meth c s₁ [] 0 0 := Stand.of_body Bd
  have e0 : s₁.heap = h0 := by rw [← hh, Bd.state]; rfl
  have N0 := Fr.nil n0
  show Goes p.tables e below (fun t o => ∃ v L, o = .returned v ∧ (own_Q81 Z x1 x2 x3 kk h0 n0) v t.heap L ∧ FrameEnd s o t L ((Rm 2 0 0 30)).cells ((Rm 2 0 0 30)).slots) _
  refine Goes.via (B := s₁.setTop (mkF m 0 #[lv_ x1, s_, lv_ x2, s_, lv_ x3, s_, iv (2 : Int32), iv kk, u_] [])) (fun t k => castTop (own_ef81 m x1 x2 x3 (2 : Int32) kk) k) ?_
  refine Gv s₁ 1 [(.long x1)] (fun t k => XS.lloadN X0.here hx rfl (hb hby d_5_0) rfl k) ?_
  refine Gv s₁ 3 [(.int kk), (.long x1)] (fun t k => XS.iload X0.here hx rfl (hb hby d_5_1) rfl k) ?_
  obtain ⟨_, T1, L1, X1, ⟨rfl, M1, K1⟩, st1⟩ := callStatic X0 hx hZ hown (W_ hw 45 rfl) (W_ hw 46 rfl) (W_ hw 40 rfl) (W_ hw 47 rfl) (by decide) (argsL := [(.long x1), (.int kk)]) (rest := []) (own_m1 l Z a0 hw [] x1 kk h0 n0 O0 ) e0 (lenOf own_pd1 rfl) (pc := 3) (Ls := #[lv_ x1, s_, lv_ x2, s_, lv_ x3, s_, iv (2 : Int32), iv kk, u_]) (st := [(.int kk), (.long x1)]) rfl (by rw [hml]; rfl) (hb hby d_5_3) (W := 0) (Nat.le_of_eq rfl) (by decide) (by decide) (by decide) (by decide)
  have N1 := Fr.app N0 M1
  refine Goes.via (B := T1.setTop (mkF m 6 #[lv_ x1, s_, lv_ x2, s_, lv_ x3, s_, iv (2 : Int32), iv kk, u_] [(.int (own_fig x1 kk))])) (fun t k => st1 _ k) ?_
  refine Gv T1 7 [(.long x2), (.int (own_fig x1 kk))] (fun t k => XS.lloadN X1.here hx rfl (hb hby d_5_6) rfl k) ?_
  refine Gv T1 9 [(.int kk), (.long x2), (.int (own_fig x1 kk))] (fun t k => XS.iload X1.here hx rfl (hb hby d_5_7) rfl k) ?_
  refine Gv T1 11 [(.int (2 : Int32)), (.int kk), (.long x2), (.int (own_fig x1 kk))] (fun t k => XS.iload X1.here hx rfl (hb hby d_5_9) rfl k) ?_
  refine Gv T1 12 [(.int (2 : Int32)), (.int (2 : Int32)), (.int kk), (.long x2), (.int (own_fig x1 kk))] (fun t k => XS.iconst X1.here hx rfl (hb hby d_5_11) k) ?_
  refine Gv T1 15 [(.int kk), (.long x2), (.int (own_fig x1 kk))] (fun t k => XS.icmpNo X1.here hx rfl (hb hby d_5_12) rfl (XT.ii_lt_f (by decide)) k) ?_
  refine Gv T1 16 [(.int (1 : Int32)), (.int kk), (.long x2), (.int (own_fig x1 kk))] (fun t k => XS.iconst X1.here hx rfl (hb hby d_5_15) k) ?_
  refine Gv T1 20 [(.int (1 : Int32)), (.int kk), (.long x2), (.int (own_fig x1 kk))] (fun t k => XS.goto X1.here hx rfl (pc0 := 16) (pc' := 20) rfl (hb hby d_5_16) (by decide) (by decide) k) ?_
  obtain ⟨_, T2, L2, X2, ⟨rfl, M2, K2⟩, st2⟩ := callStatic X1 hx hZ hown (W_ hw 313 rfl) (W_ hw 314 rfl) (W_ hw 40 rfl) (W_ hw 315 rfl) (by decide) (argsL := [(.long x2), (.int kk), (.int (1 : Int32))]) (rest := [(.int (own_fig x1 kk))]) (own_m78 l Z a0 hw [] x2 kk h0 n0 O0 ) K1 (lenOf own_pd23 rfl) (pc := 20) (Ls := #[lv_ x1, s_, lv_ x2, s_, lv_ x3, s_, iv (2 : Int32), iv kk, u_]) (st := [(.int (1 : Int32)), (.int kk), (.long x2), (.int (own_fig x1 kk))]) rfl (by rw [hml]; rfl) (hb hby d_5_20) (W := 1) (Nat.le_of_eq rfl) (by decide) (by decide) (by decide) (by decide)
  have N2 := Fr.app N1 M2
  refine Goes.via (B := T2.setTop (mkF m 23 #[lv_ x1, s_, lv_ x2, s_, lv_ x3, s_, iv (2 : Int32), iv kk, u_] [(.int (own_fig x2 kk)), (.int (own_fig x1 kk))])) (fun t k => st2 _ k) ?_
  refine Gv T2 24 [(.int ((own_fig x1 kk) + (own_fig x2 kk)))] (fun t k => XS.iadd X2.here hx rfl (hb hby d_5_23) rfl k) ?_
  refine Gv T2 26 [(.long x3), (.int ((own_fig x1 kk) + (own_fig x2 kk)))] (fun t k => XS.lload X2.here hx rfl (hb hby d_5_24) rfl k) ?_
  refine Gv T2 28 [(.int kk), (.long x3), (.int ((own_fig x1 kk) + (own_fig x2 kk)))] (fun t k => XS.iload X2.here hx rfl (hb hby d_5_26) rfl k) ?_
  refine Gv T2 30 [(.int (2 : Int32)), (.int kk), (.long x3), (.int ((own_fig x1 kk) + (own_fig x2 kk)))] (fun t k => XS.iload X2.here hx rfl (hb hby d_5_28) rfl k) ?_
  refine Gv T2 31 [(.int (3 : Int32)), (.int (2 : Int32)), (.int kk), (.long x3), (.int ((own_fig x1 kk) + (own_fig x2 kk)))] (fun t k => XS.iconst X2.here hx rfl (hb hby d_5_30) k) ?_
  refine Gv T2 38 [(.int kk), (.long x3), (.int ((own_fig x1 kk) + (own_fig x2 kk)))] (fun t k => XS.icmpYes X2.here hx rfl (pc0 := 31) (pc' := 38) rfl (hb hby d_5_31) rfl (XT.ii_lt_t (by decide)) (by decide) (by decide) k) ?_
  refine Gv T2 39 [(.int (0 : Int32)), (.int kk), (.long x3), (.int ((own_fig x1 kk) + (own_fig x2 kk)))] (fun t k => XS.iconst X2.here hx rfl (hb hby d_5_38) k) ?_
  obtain ⟨_, T3, L3, X3, ⟨rfl, M3, K3⟩, st3⟩ := callStatic X2 hx hZ hown (W_ hw 313 rfl) (W_ hw 314 rfl) (W_ hw 40 rfl) (W_ hw 315 rfl) (by decide) (argsL := [(.long x3), (.int kk), (.int (0 : Int32))]) (rest := [(.int ((own_fig x1 kk) + (own_fig x2 kk)))]) (own_m79 l Z a0 hw [] x3 kk h0 n0 O0 ) K2 (lenOf own_pd23 rfl) (pc := 39) (Ls := #[lv_ x1, s_, lv_ x2, s_, lv_ x3, s_, iv (2 : Int32), iv kk, u_]) (st := [(.int (0 : Int32)), (.int kk), (.long x3), (.int ((own_fig x1 kk) + (own_fig x2 kk)))]) rfl (by rw [hml]; rfl) (hb hby d_5_39) (W := 1) (Nat.le_of_eq rfl) (by decide) (by decide) (by decide) (by decide)
  have N3 := Fr.app N2 M3
  refine Goes.via (B := T3.setTop (mkF m 42 #[lv_ x1, s_, lv_ x2, s_, lv_ x3, s_, iv (2 : Int32), iv kk, u_] [(.int (0 : Int32)), (.int ((own_fig x1 kk) + (own_fig x2 kk)))])) (fun t k => st3 _ k) ?_
  refine Gv T3 43 [(.int (((own_fig x1 kk) + (own_fig x2 kk)) + (0 : Int32)))] (fun t k => XS.iadd X3.here hx rfl (hb hby d_5_42) rfl k) ?_
  refine Gv T3 45 [] (fun t k => XS.istore X3.here hx rfl (hb hby d_5_43) rfl (l' := #[lv_ x1, s_, lv_ x2, s_, lv_ x3, s_, iv (2 : Int32), iv kk, iv (((own_fig x1 kk) + (own_fig x2 kk)) + (0 : Int32))]) rfl k) ?_
  have q4 : (((own_fig x1 kk) + (own_fig x2 kk)) + (0 : Int32)) = ((own_fig x1 kk) + (own_fig x2 kk)) := (by simp)
  rw [q4]
  refine Gv T3 47 [(.int ((own_fig x1 kk) + (own_fig x2 kk)))] (fun t k => XS.iload X3.here hx rfl (hb hby d_5_45) rfl k) ?_
  refine Gv T3 48 [(.double (FP.i2d ((own_fig x1 kk) + (own_fig x2 kk))))] (fun t k => XS.i2dS X3.here hx rfl (hb hby d_5_47) rfl rfl k) ?_
  have wd5 := mvD (args := #[(.long x1), (.long x2), (.long x3), (.int (2 : Int32)), (.int kk)]) hZ (W_ hw 49 rfl)
  refine Goes.via (B := T3.setTop (mkF m 51 #[lv_ x1, s_, lv_ x2, s_, lv_ x3, s_, iv (2 : Int32), iv kk, iv ((own_fig x1 kk) + (own_fig x2 kk))] [(.double (4625196817309499392 : UInt64)), (.double (FP.i2d ((own_fig x1 kk) + (own_fig x2 kk))))])) (fun t k => X3.ldc2DoubleC hx hown wd5 (g := (mkF m 48 #[lv_ x1, s_, lv_ x2, s_, lv_ x3, s_, iv (2 : Int32), iv kk, iv ((own_fig x1 kk) + (own_fig x2 kk))] [(.double (FP.i2d ((own_fig x1 kk) + (own_fig x2 kk))))])) rfl (hb hby d_5_48) t k) ?_
  refine Gv T3 52 [(.double (own_d ((own_fig x1 kk) + (own_fig x2 kk))))] (fun t k => XS.ddivS X3.here hx rfl (hb hby d_5_51) rfl (own_nnD (own_up (own_sum (a := 16) (b := 16) (own_figr _ _) (own_figr _ _) (by decide)) (by decide))) (own_dE _) k) ?_
  refine Gv T3 54 [(.int (2 : Int32)), (.double (own_d ((own_fig x1 kk) + (own_fig x2 kk))))] (fun t k => XS.iload X3.here hx rfl (hb hby d_5_52) rfl k) ?_
  refine Gv T3 55 [(.double (FP.i2d (2 : Int32))), (.double (own_d ((own_fig x1 kk) + (own_fig x2 kk))))] (fun t k => XS.i2dS X3.here hx rfl (hb hby d_5_54) rfl rfl k) ?_
  refine Gv T3 56 [(.double (own_q (2 : Int32) ((own_fig x1 kk) + (own_fig x2 kk))))] (fun t k => XS.ddivS X3.here hx rfl (hb hby d_5_55) rfl (own_qs (own_up (own_sum (a := 16) (b := 16) (own_figr _ _) (own_figr _ _) (by decide)) (by decide)) (by decide)).1 rfl k) ?_
  exact finD (Q := (own_Q81 Z x1 x2 x3 kk h0 n0)) (F := FrameEnd) (C := ((Rm 2 0 0 30)).cells) (S := ((Rm 2 0 0 30)).slots) X3 hx Bd.returns (hb hby d_5_56) K3 ⟨rfl, N3, rfl⟩ (lvN X3 hlk (by decide) (by decide))
theorem d_5_34 : decode method_5_code 34 = .ok (.iconst 1, 1) := by decide +kernel
theorem d_5_35 : decode method_5_code 35 = .ok (.goto 4, 3) := by decide +kernel
theorem own_ef82 (m : MethodId) (x0 : Int64) (x1 : Int64) (x2 : Int64) (x3 : Int32) (x4 : Int32)  : entryFrame m #[(.long x0), (.long x1), (.long x2), (.int x3), (.int x4)] 9 = mkF m 0 #[lv_ x0, s_, lv_ x1, s_, lv_ x2, s_, iv x3, iv x4, u_] [] := by first | (simp [entryFrame, mkF, argsToLocals, Value.category]; done) | rfl
abbrev own_Q82 (Z : State) (x1 : Int64) (x2 : Int64) (x3 : Int64) (kk : Int32) (h0 : Heap) (n0 : Nat) (v : Option Value) (h : Heap) (L : List Loc) : Prop := v = some (.double (own_q (3 : Int32) (((own_fig x1 kk) + (own_fig x2 kk)) + (own_fig x3 kk)))) ∧ Fr n0 L ∧ h = h0
set_option maxRecDepth 65536 in
set_option maxHeartbeats 40000000 in
theorem own_m82 (l : Launch) (Z : State) (a0 : Array Value) (hw : ∀ d ∈ tables_1, d.before a0 Z = true) (ws : List Jvm.Cond) (x1 : Int64) (x2 : Int64) (x3 : Int64) (kk : Int32) (h0 : Heap) (n0 : Nat) (O0 : Old Z n0 h0) :
    Ctr l Z (⟨"com/example/wakenitz/wakenitz/measure/ScoreSheetMeanPinLaw", "ref", "(JJJII)D"⟩ : MethodName) method_5_code 9 (some .double) (Rm 2 0 0 30) #[(.long x1), (.long x2), (.long x3), (.int (3 : Int32)), (.int kk)] h0 (own_Q82 Z x1 x2 x3 kk h0 n0) ws := by
  refine MetFree.of_bodySF (plainFor_of_name own_pn0) hisR ?_
  intro p e s m args below meth c s₁ Bd hml0 hP hK
  obtain ⟨rfl, hZ, hh⟩ := hP
  have hx := Bd.exec
  have hby := Bd.bytes
  have hlk : meth.locks = false := Bd.notSynchronized
  have hml : c.maxLocals = 9 := hml0
  have hown : s.vm.findClass "com/example/wakenitz/wakenitz/measure/ScoreSheetMeanPinLaw" = some m.cls := findClass_of_methodNamed Bd.named
  have hnm := (name_of_methodNamed Bd.named Bd.method).1
  have X0 : Stand p l e (Rm 2 0 0 30) s m #[(.long x1), (.long x2), (.long x3), (.int (3 : Int32)), (.int kk)] below meth c s₁ [] 0 0 := Stand.of_body Bd
  have e0 : s₁.heap = h0 := by rw [← hh, Bd.state]; rfl
  have N0 := Fr.nil n0
  show Goes p.tables e below (fun t o => ∃ v L, o = .returned v ∧ (own_Q82 Z x1 x2 x3 kk h0 n0) v t.heap L ∧ FrameEnd s o t L ((Rm 2 0 0 30)).cells ((Rm 2 0 0 30)).slots) _
  refine Goes.via (B := s₁.setTop (mkF m 0 #[lv_ x1, s_, lv_ x2, s_, lv_ x3, s_, iv (3 : Int32), iv kk, u_] [])) (fun t k => castTop (own_ef82 m x1 x2 x3 (3 : Int32) kk) k) ?_
  refine Gv s₁ 1 [(.long x1)] (fun t k => XS.lloadN X0.here hx rfl (hb hby d_5_0) rfl k) ?_
  refine Gv s₁ 3 [(.int kk), (.long x1)] (fun t k => XS.iload X0.here hx rfl (hb hby d_5_1) rfl k) ?_
  obtain ⟨_, T1, L1, X1, ⟨rfl, M1, K1⟩, st1⟩ := callStatic X0 hx hZ hown (W_ hw 45 rfl) (W_ hw 46 rfl) (W_ hw 40 rfl) (W_ hw 47 rfl) (by decide) (argsL := [(.long x1), (.int kk)]) (rest := []) (own_m1 l Z a0 hw [] x1 kk h0 n0 O0 ) e0 (lenOf own_pd1 rfl) (pc := 3) (Ls := #[lv_ x1, s_, lv_ x2, s_, lv_ x3, s_, iv (3 : Int32), iv kk, u_]) (st := [(.int kk), (.long x1)]) rfl (by rw [hml]; rfl) (hb hby d_5_3) (W := 0) (Nat.le_of_eq rfl) (by decide) (by decide) (by decide) (by decide)
  have N1 := Fr.app N0 M1
  refine Goes.via (B := T1.setTop (mkF m 6 #[lv_ x1, s_, lv_ x2, s_, lv_ x3, s_, iv (3 : Int32), iv kk, u_] [(.int (own_fig x1 kk))])) (fun t k => st1 _ k) ?_
  refine Gv T1 7 [(.long x2), (.int (own_fig x1 kk))] (fun t k => XS.lloadN X1.here hx rfl (hb hby d_5_6) rfl k) ?_
  refine Gv T1 9 [(.int kk), (.long x2), (.int (own_fig x1 kk))] (fun t k => XS.iload X1.here hx rfl (hb hby d_5_7) rfl k) ?_
  refine Gv T1 11 [(.int (3 : Int32)), (.int kk), (.long x2), (.int (own_fig x1 kk))] (fun t k => XS.iload X1.here hx rfl (hb hby d_5_9) rfl k) ?_
  refine Gv T1 12 [(.int (2 : Int32)), (.int (3 : Int32)), (.int kk), (.long x2), (.int (own_fig x1 kk))] (fun t k => XS.iconst X1.here hx rfl (hb hby d_5_11) k) ?_
  refine Gv T1 15 [(.int kk), (.long x2), (.int (own_fig x1 kk))] (fun t k => XS.icmpNo X1.here hx rfl (hb hby d_5_12) rfl (XT.ii_lt_f (by decide)) k) ?_
  refine Gv T1 16 [(.int (1 : Int32)), (.int kk), (.long x2), (.int (own_fig x1 kk))] (fun t k => XS.iconst X1.here hx rfl (hb hby d_5_15) k) ?_
  refine Gv T1 20 [(.int (1 : Int32)), (.int kk), (.long x2), (.int (own_fig x1 kk))] (fun t k => XS.goto X1.here hx rfl (pc0 := 16) (pc' := 20) rfl (hb hby d_5_16) (by decide) (by decide) k) ?_
  obtain ⟨_, T2, L2, X2, ⟨rfl, M2, K2⟩, st2⟩ := callStatic X1 hx hZ hown (W_ hw 313 rfl) (W_ hw 314 rfl) (W_ hw 40 rfl) (W_ hw 315 rfl) (by decide) (argsL := [(.long x2), (.int kk), (.int (1 : Int32))]) (rest := [(.int (own_fig x1 kk))]) (own_m78 l Z a0 hw [] x2 kk h0 n0 O0 ) K1 (lenOf own_pd23 rfl) (pc := 20) (Ls := #[lv_ x1, s_, lv_ x2, s_, lv_ x3, s_, iv (3 : Int32), iv kk, u_]) (st := [(.int (1 : Int32)), (.int kk), (.long x2), (.int (own_fig x1 kk))]) rfl (by rw [hml]; rfl) (hb hby d_5_20) (W := 1) (Nat.le_of_eq rfl) (by decide) (by decide) (by decide) (by decide)
  have N2 := Fr.app N1 M2
  refine Goes.via (B := T2.setTop (mkF m 23 #[lv_ x1, s_, lv_ x2, s_, lv_ x3, s_, iv (3 : Int32), iv kk, u_] [(.int (own_fig x2 kk)), (.int (own_fig x1 kk))])) (fun t k => st2 _ k) ?_
  refine Gv T2 24 [(.int ((own_fig x1 kk) + (own_fig x2 kk)))] (fun t k => XS.iadd X2.here hx rfl (hb hby d_5_23) rfl k) ?_
  refine Gv T2 26 [(.long x3), (.int ((own_fig x1 kk) + (own_fig x2 kk)))] (fun t k => XS.lload X2.here hx rfl (hb hby d_5_24) rfl k) ?_
  refine Gv T2 28 [(.int kk), (.long x3), (.int ((own_fig x1 kk) + (own_fig x2 kk)))] (fun t k => XS.iload X2.here hx rfl (hb hby d_5_26) rfl k) ?_
  refine Gv T2 30 [(.int (3 : Int32)), (.int kk), (.long x3), (.int ((own_fig x1 kk) + (own_fig x2 kk)))] (fun t k => XS.iload X2.here hx rfl (hb hby d_5_28) rfl k) ?_
  refine Gv T2 31 [(.int (3 : Int32)), (.int (3 : Int32)), (.int kk), (.long x3), (.int ((own_fig x1 kk) + (own_fig x2 kk)))] (fun t k => XS.iconst X2.here hx rfl (hb hby d_5_30) k) ?_
  refine Gv T2 34 [(.int kk), (.long x3), (.int ((own_fig x1 kk) + (own_fig x2 kk)))] (fun t k => XS.icmpNo X2.here hx rfl (hb hby d_5_31) rfl (XT.ii_lt_f (by decide)) k) ?_
  refine Gv T2 35 [(.int (1 : Int32)), (.int kk), (.long x3), (.int ((own_fig x1 kk) + (own_fig x2 kk)))] (fun t k => XS.iconst X2.here hx rfl (hb hby d_5_34) k) ?_
  refine Gv T2 39 [(.int (1 : Int32)), (.int kk), (.long x3), (.int ((own_fig x1 kk) + (own_fig x2 kk)))] (fun t k => XS.goto X2.here hx rfl (pc0 := 35) (pc' := 39) rfl (hb hby d_5_35) (by decide) (by decide) k) ?_
  obtain ⟨_, T3, L3, X3, ⟨rfl, M3, K3⟩, st3⟩ := callStatic X2 hx hZ hown (W_ hw 313 rfl) (W_ hw 314 rfl) (W_ hw 40 rfl) (W_ hw 315 rfl) (by decide) (argsL := [(.long x3), (.int kk), (.int (1 : Int32))]) (rest := [(.int ((own_fig x1 kk) + (own_fig x2 kk)))]) (own_m78 l Z a0 hw [] x3 kk h0 n0 O0 ) K2 (lenOf own_pd23 rfl) (pc := 39) (Ls := #[lv_ x1, s_, lv_ x2, s_, lv_ x3, s_, iv (3 : Int32), iv kk, u_]) (st := [(.int (1 : Int32)), (.int kk), (.long x3), (.int ((own_fig x1 kk) + (own_fig x2 kk)))]) rfl (by rw [hml]; rfl) (hb hby d_5_39) (W := 1) (Nat.le_of_eq rfl) (by decide) (by decide) (by decide) (by decide)
  have N3 := Fr.app N2 M3
  refine Goes.via (B := T3.setTop (mkF m 42 #[lv_ x1, s_, lv_ x2, s_, lv_ x3, s_, iv (3 : Int32), iv kk, u_] [(.int (own_fig x3 kk)), (.int ((own_fig x1 kk) + (own_fig x2 kk)))])) (fun t k => st3 _ k) ?_
  refine Gv T3 43 [(.int (((own_fig x1 kk) + (own_fig x2 kk)) + (own_fig x3 kk)))] (fun t k => XS.iadd X3.here hx rfl (hb hby d_5_42) rfl k) ?_
  refine Gv T3 45 [] (fun t k => XS.istore X3.here hx rfl (hb hby d_5_43) rfl (l' := #[lv_ x1, s_, lv_ x2, s_, lv_ x3, s_, iv (3 : Int32), iv kk, iv (((own_fig x1 kk) + (own_fig x2 kk)) + (own_fig x3 kk))]) rfl k) ?_
  refine Gv T3 47 [(.int (((own_fig x1 kk) + (own_fig x2 kk)) + (own_fig x3 kk)))] (fun t k => XS.iload X3.here hx rfl (hb hby d_5_45) rfl k) ?_
  refine Gv T3 48 [(.double (FP.i2d (((own_fig x1 kk) + (own_fig x2 kk)) + (own_fig x3 kk))))] (fun t k => XS.i2dS X3.here hx rfl (hb hby d_5_47) rfl rfl k) ?_
  have wd4 := mvD (args := #[(.long x1), (.long x2), (.long x3), (.int (3 : Int32)), (.int kk)]) hZ (W_ hw 49 rfl)
  refine Goes.via (B := T3.setTop (mkF m 51 #[lv_ x1, s_, lv_ x2, s_, lv_ x3, s_, iv (3 : Int32), iv kk, iv (((own_fig x1 kk) + (own_fig x2 kk)) + (own_fig x3 kk))] [(.double (4625196817309499392 : UInt64)), (.double (FP.i2d (((own_fig x1 kk) + (own_fig x2 kk)) + (own_fig x3 kk))))])) (fun t k => X3.ldc2DoubleC hx hown wd4 (g := (mkF m 48 #[lv_ x1, s_, lv_ x2, s_, lv_ x3, s_, iv (3 : Int32), iv kk, iv (((own_fig x1 kk) + (own_fig x2 kk)) + (own_fig x3 kk))] [(.double (FP.i2d (((own_fig x1 kk) + (own_fig x2 kk)) + (own_fig x3 kk))))])) rfl (hb hby d_5_48) t k) ?_
  refine Gv T3 52 [(.double (own_d (((own_fig x1 kk) + (own_fig x2 kk)) + (own_fig x3 kk))))] (fun t k => XS.ddivS X3.here hx rfl (hb hby d_5_51) rfl (own_nnD (own_up (own_sum (a := 32) (b := 16) (own_sum (a := 16) (b := 16) (own_figr _ _) (own_figr _ _) (by decide)) (own_figr _ _) (by decide)) (by decide))) (own_dE _) k) ?_
  refine Gv T3 54 [(.int (3 : Int32)), (.double (own_d (((own_fig x1 kk) + (own_fig x2 kk)) + (own_fig x3 kk))))] (fun t k => XS.iload X3.here hx rfl (hb hby d_5_52) rfl k) ?_
  refine Gv T3 55 [(.double (FP.i2d (3 : Int32))), (.double (own_d (((own_fig x1 kk) + (own_fig x2 kk)) + (own_fig x3 kk))))] (fun t k => XS.i2dS X3.here hx rfl (hb hby d_5_54) rfl rfl k) ?_
  refine Gv T3 56 [(.double (own_q (3 : Int32) (((own_fig x1 kk) + (own_fig x2 kk)) + (own_fig x3 kk))))] (fun t k => XS.ddivS X3.here hx rfl (hb hby d_5_55) rfl (own_qs (own_up (own_sum (a := 32) (b := 16) (own_sum (a := 16) (b := 16) (own_figr _ _) (own_figr _ _) (by decide)) (own_figr _ _) (by decide)) (by decide)) (by decide)).1 rfl k) ?_
  exact finD (Q := (own_Q82 Z x1 x2 x3 kk h0 n0)) (F := FrameEnd) (C := ((Rm 2 0 0 30)).cells) (S := ((Rm 2 0 0 30)).slots) X3 hx Bd.returns (hb hby d_5_56) K3 ⟨rfl, N3, rfl⟩ (lvN X3 hlk (by decide) (by decide))
theorem own_wS {a0 : Array Value} {Z : State} (hw : ∀ d ∈ tables_1, d.before a0 Z = true) : ∀ a ∈ Bundle.stringAtoms, a.before a0 Z = true := by
  intro d hd
  simp only [Bundle.stringAtoms, List.mem_cons, List.not_mem_nil, or_false] at hd
  rcases hd with rfl | rfl | rfl | rfl | rfl | rfl | rfl
  all_goals first | exact (W_ hw 31 rfl) | exact (W_ hw 32 rfl) | exact (W_ hw 33 rfl) | exact (W_ hw 34 rfl) | exact (W_ hw 35 rfl) | exact (W_ hw 36 rfl) | exact (W_ hw 37 rfl)
theorem own_pd24 : parseMethodDescriptor "(J)Lcom/example/wakenitz/wakenitz/measure/Score;" = some ⟨[.long], some (.object "com/example/wakenitz/wakenitz/measure/Score")⟩ := by decide +kernel
theorem own_pd25 : parseMethodDescriptor "(Ljava/lang/String;Lcom/example/wakenitz/wakenitz/measure/Score;)V" = some ⟨[(.object "java/lang/String"), (.object "com/example/wakenitz/wakenitz/measure/Score")], none⟩ := by decide +kernel
theorem own_pd26 : parseMethodDescriptor "(Ljava/lang/Object;)Z" = some ⟨[(.object "java/lang/Object")], some .boolean⟩ := by decide +kernel
theorem own_pd27 : parseMethodDescriptor "(Ljava/util/List;)V" = some ⟨[(.object "java/util/List")], none⟩ := by decide +kernel
theorem own_pd28 : parseMethodDescriptor "(JJJII)D" = some ⟨[.long, .long, .long, .int, .int], some .double⟩ := by decide +kernel
theorem own_ef83 (m : MethodId) (x0 : Int64) (x1 : Int64) (x2 : Int64) (x3 : Int32)  : entryFrame m #[(.long x0), (.long x1), (.long x2), (.int x3)] maxLocals = mkF m 0 #[lv_ x0, s_, lv_ x1, s_, lv_ x2, s_, iv x3, u_, u_, u_] [] := by first | (simp [entryFrame, mkF, argsToLocals, Value.category, maxLocals]; done) | rfl
abbrev own_Q83 (Z : State) (x1 : Int64) (x2 : Int64) (x3 : Int64) (x4 : Int32) (aD : Addr) (kD : ClassId) (em : Addr) (mr : Addr) (h0 : Heap) (n0 : Nat) (v : Option Value) (h : Heap) (L : List Loc) : Prop := v = some (.int (1 : Int32)) ∧ Fr n0 L ∧ True
set_option maxRecDepth 65536 in
set_option maxHeartbeats 40000000 in
theorem own_m83 (l : Launch) (Z : State) (a0 : Array Value) (hw : ∀ d ∈ tables_1, d.before a0 Z = true) (ws : List Jvm.Cond) (x1 : Int64) (x2 : Int64) (x3 : Int64) (x4 : Int32) (aD : Addr) (kD : ClassId) (em : Addr) (mr : Addr) (h0 : Heap) (n0 : Nat) (O0 : Old Z n0 h0) (Mi : Mirr Z "[Ljava/lang/Object;" mr) (hem : em < n0) (O_1 : Sta Z Z.heap "java/util/ArrayList" "DEFAULTCAPACITY_EMPTY_ELEMENTDATA" "[Ljava/lang/Object;" (.ref aD)) (O_2 : Arv Z Z.heap aD kD (.object "java/lang/Object") (0 : Int32) [] .null) (O_3 : Sta Z Z.heap "java/util/ImmutableCollections" "EMPTY" "Ljava/lang/Object;" (.ref em)) :
    CtrW l Z x code maxLocals ret room_1 #[(.long x1), (.long x2), (.long x3), (.int x4)] h0 (own_Q83 Z x1 x2 x3 x4 aD kD em mr h0 n0) ws := by
  refine MetFree.of_bodySF (plainFor_of_name own_pn0) hisR ?_
  intro p e s m args below meth c s₁ Bd hml0 hP hK
  obtain ⟨rfl, hZ, hh⟩ := hP
  have hx := Bd.exec
  have hby := Bd.bytes
  have hlk : meth.locks = false := Bd.notSynchronized
  have hml : c.maxLocals = 10 := hml0
  have hown : s.vm.findClass "com/example/wakenitz/wakenitz/measure/ScoreSheetMeanPinLaw" = some m.cls := findClass_of_methodNamed Bd.named
  have hnm := (name_of_methodNamed Bd.named Bd.method).1
  have X0 : Stand p l e room_1 (s.setVm s.vm) m #[(.long x1), (.long x2), (.long x3), (.int x4)] below meth c s₁ [] 0 0 := Stand.of_body Bd
  have hS0 : s.Since s.vm h0.size := (State.WarmedH.refl s).since _
  have hk0 : h0.size ≤ h0.size := Nat.le_refl _
  have e0 : s₁.heap = h0 := by rw [← hh, Bd.state]; rfl
  have N0 := Fr.nil n0
  show Goes p.tables e below (fun t o => ∃ v L, o = .returned v ∧ (own_Q83 Z x1 x2 x3 x4 aD kD em mr h0 n0) v t.heap L ∧ ReturnedEndW s o t L (room_1).cells (room_1).slots) _
  refine Goes.via (B := s₁.setTop (mkF m 0 #[lv_ x1, s_, lv_ x2, s_, lv_ x3, s_, iv x4, u_, u_, u_] [])) (fun t k => castTop (own_ef83 m x1 x2 x3 x4) k) ?_
  refine Gv s₁ 2 [(.int x4)] (fun t k => XS.iload X0.here hx rfl (hb hby at_0) rfl k) ?_
  refine Goes.via (B := s₁.setTop (mkF m 4 #[lv_ x1, s_, lv_ x2, s_, lv_ x3, s_, iv x4, u_, u_, u_] [(.int (2147483647 : Int32)), (.int x4)])) (fun t k => X0.ldcI hx hown (mvT hZ (W_ hw 0 rfl)) rfl (hb hby at_2) k) ?_
  refine Gv s₁ 5 [(.int (x4 &&& (2147483647 : Int32)))] (fun t k => XS.iand X0.here hx rfl (hb hby at_4) rfl k) ?_
  refine Gv s₁ 6 [(.int (3 : Int32)), (.int (x4 &&& (2147483647 : Int32)))] (fun t k => XS.iconst X0.here hx rfl (hb hby at_5) k) ?_
  refine Goes.via (B := s₁.setTop (mkF m 7 #[lv_ x1, s_, lv_ x2, s_, lv_ x3, s_, iv x4, u_, u_, u_] [(.int ((x4 &&& (2147483647 : Int32)) % (3 : Int32)))])) (fun t k => iremM X0 hx rfl (hb hby at_6) rfl (by decide) k) ?_
  refine Gv s₁ 8 [(.int (1 : Int32)), (.int ((x4 &&& (2147483647 : Int32)) % (3 : Int32)))] (fun t k => XS.iconst X0.here hx rfl (hb hby at_7) k) ?_
  refine Gv s₁ 9 [(.int (((x4 &&& (2147483647 : Int32)) % (3 : Int32)) + (1 : Int32)))] (fun t k => XS.iadd X0.here hx rfl (hb hby at_8) rfl k) ?_
  refine Gv s₁ 11 [] (fun t k => XS.istore X0.here hx rfl (hb hby at_9) rfl (l' := #[lv_ x1, s_, lv_ x2, s_, lv_ x3, s_, iv x4, iv (((x4 &&& (2147483647 : Int32)) % (3 : Int32)) + (1 : Int32)), u_, u_]) rfl k) ?_
  suffices J1 : ∀ (nn : Int32) (hnn : nn = 1 ∨ nn = 2 ∨ nn = 3), Goes p.tables e below (fun t o => ∃ v L, o = .returned v ∧ (own_Q83 Z x1 x2 x3 x4 aD kD em mr h0 n0) v t.heap L ∧ ReturnedEndW s o t L (room_1).cells (room_1).slots) (s₁.setTop (mkF m 11 #[lv_ x1, s_, lv_ x2, s_, lv_ x3, s_, iv x4, iv nn, u_, u_] [])) by exact J1 (((x4 &&& (2147483647 : Int32)) % (3 : Int32)) + (1 : Int32)) (own_rem3 _)
  intro nn hnn
  rcases hnn with rfl | rfl | rfl
  · obtain ⟨T2, h2, X2, e2, E2, A2, D2, U2, st2⟩ := newO X0 hx hZ hown (W_ hw 1 rfl) (W_ hw 2 rfl) (W_ hw 3 rfl) e0 (g := (mkF m 11 #[lv_ x1, s_, lv_ x2, s_, lv_ x3, s_, iv x4, iv (1 : Int32), u_, u_] [])) rfl (hb hby at_11) (by decide) (by decide)
    obtain ⟨b2, g2⟩ : ∃ z, z = h0.size := ⟨_, rfl⟩
    rw [← g2] at A2 D2 U2 st2
    have gn2 : n0 ≤ b2 := Nat.le_trans (old_le O0) (Nat.le_of_eq g2.symm)
    have F2_modCount : Fld Z h2 b2 "java/util/AbstractList" "modCount" "I" (.int (0 : Int32)) := D2 (Or.inl (W_ hw 23 rfl)) (ty := .int) (by decide)
    have F2_elementData : Fld Z h2 b2 "java/util/ArrayList" "elementData" "[Ljava/lang/Object;" .null := D2 (Or.inl (W_ hw 26 rfl)) (ty := (.array (.object "java/lang/Object"))) (by decide)
    have F2_size : Fld Z h2 b2 "java/util/ArrayList" "size" "I" (.int (0 : Int32)) := D2 (Or.inl (W_ hw 87 rfl)) (ty := .int) (by decide)
    refine Goes.via (B := T2.setTop (mkF m 14 #[lv_ x1, s_, lv_ x2, s_, lv_ x3, s_, iv x4, iv (1 : Int32), u_, u_] [(.ref b2)])) (fun t k => st2 _ k) ?_
    refine Gv T2 15 [(.ref b2), (.ref b2)] (fun t k => XS.dup X2.here hx rfl (hb hby at_14) rfl rfl k) ?_
    obtain ⟨_, T3, L3, X3, ⟨rfl, M3, K3, f3_0, f3_1, f3_2, f3_3⟩, st3⟩ := callInit X2 hx hZ rfl hown (W_ hw 4 rfl) (W_ hw 5 rfl) (W_ hw 3 rfl) (W_ hw 6 rfl) (by decide) (argsL := []) (rest := [(.ref b2)]) (own_m8 l Z a0 hw [] b2 aD h2 n0 (O0.ext E2) gn2 O_1 A2 F2_elementData F2_size F2_modCount) e2 (lenOf own_pd0 rfl) (pc := 15) (Ls := #[lv_ x1, s_, lv_ x2, s_, lv_ x3, s_, iv x4, iv (1 : Int32), u_, u_]) (st := [(.ref b2), (.ref b2)]) rfl (by rw [hml]; rfl) (hb hby at_15) (W := 1) (Nat.le_of_eq rfl) (by decide) (by decide) (by decide) (by decide)
    have N3 := Fr.app N0 M3
    refine Goes.via (B := T3.setTop (mkF m 18 #[lv_ x1, s_, lv_ x2, s_, lv_ x3, s_, iv x4, iv (1 : Int32), u_, u_] [(.ref b2)])) (fun t k => st3 _ k) ?_
    refine Gv T3 20 [] (fun t k => XS.astore X3.here hx rfl (hb hby at_18) rfl rfl (l' := #[lv_ x1, s_, lv_ x2, s_, lv_ x3, s_, iv x4, iv (1 : Int32), rv b2, u_]) rfl k) ?_
    refine Gv T3 22 [(.ref b2)] (fun t k => XS.aload X3.here hx rfl (hb hby at_20) rfl rfl k) ?_
    obtain ⟨T4, h4, X4, e4, E4, A4, D4, U4, st4⟩ := newO X3 hx hZ hown (W_ hw 27 rfl) (W_ hw 28 rfl) (W_ hw 29 rfl) rfl (g := (mkF m 22 #[lv_ x1, s_, lv_ x2, s_, lv_ x3, s_, iv x4, iv (1 : Int32), rv b2, u_] [(.ref b2)])) rfl (hb hby at_22) (by decide) (by decide)
    obtain ⟨b4, g4⟩ : ∃ z, z = T3.heap.size := ⟨_, rfl⟩
    rw [← g4] at A4 D4 U4 st4
    have gn4 : n0 ≤ b4 := Nat.le_trans (old_le ((O0.ext E2).keep K3 (allS gn2 all0))) (Nat.le_of_eq g4.symm)
    have F4_name : Fld Z h4 b4 "com/example/wakenitz/wakenitz/measure/ScoreSheet$PageScore" "name" "Ljava/lang/String;" .null := D4 (Or.inr (W_ hw 72 rfl)) (ty := (.object "java/lang/String")) (by decide)
    have F4_score : Fld Z h4 b4 "com/example/wakenitz/wakenitz/measure/ScoreSheet$PageScore" "score" "Lcom/example/wakenitz/wakenitz/measure/Score;" .null := D4 (Or.inr (W_ hw 74 rfl)) (ty := (.object "com/example/wakenitz/wakenitz/measure/Score")) (by decide)
    refine Goes.via (B := T4.setTop (mkF m 25 #[lv_ x1, s_, lv_ x2, s_, lv_ x3, s_, iv x4, iv (1 : Int32), rv b2, u_] [(.ref b4), (.ref b2)])) (fun t k => st4 _ k) ?_
    refine Gv T4 26 [(.ref b4), (.ref b4), (.ref b2)] (fun t k => XS.dup X4.here hx rfl (hb hby at_25) rfl rfl k) ?_
    obtain ⟨b5, T5, h5, k5, X5, e5, E5, hS5, hk5, hZ5, hown5, st5⟩ := ldcS X4 hx hZ hown (W_ hw 30 rfl) (own_wS hw) e4 hS0 (Nat.le_trans (Nat.le_trans (Nat.le_trans hk0 E2.1) K3.1) E4.1) (g := (mkF m 26 #[lv_ x1, s_, lv_ x2, s_, lv_ x3, s_, iv x4, iv (1 : Int32), rv b2, u_] [(.ref b4), (.ref b4), (.ref b2)])) rfl (hb hby at_26) (n := 4) (by decide) (by decide) (by decide) (by decide)
    refine Goes.via (B := T5.setTop (mkF m 28 #[lv_ x1, s_, lv_ x2, s_, lv_ x3, s_, iv x4, iv (1 : Int32), rv b2, u_] [(.ref b5), (.ref b4), (.ref b4), (.ref b2)])) (fun t k => st5 _ k) ?_
    refine Gv T5 29 [(.long x1), (.ref b5), (.ref b4), (.ref b4), (.ref b2)] (fun t k => XS.lloadN X5.here hx rfl (hb hby at_28) rfl k) ?_
    obtain ⟨_, T6, L6, X6, ⟨r6, rfl, M6, K6, z6_0, f6_0, f6_1, f6_2, f6_3, f6_4⟩, st6⟩ := callStatic X5 hx hZ5 hown5 (W_ hw 38 rfl) (W_ hw 39 rfl) (W_ hw 40 rfl) (W_ hw 41 rfl) (by decide) (argsL := [(.long x1)]) (rest := [(.ref b5), (.ref b4), (.ref b4), (.ref b2)]) (own_m5 l Z a0 hw [] x1 h5 n0 ((((O0.ext E2).keep K3 (allS gn2 all0)).ext E4).ext E5) ) e5 (lenOf own_pd24 rfl) (pc := 29) (Ls := #[lv_ x1, s_, lv_ x2, s_, lv_ x3, s_, iv x4, iv (1 : Int32), rv b2, u_]) (st := [(.long x1), (.ref b5), (.ref b4), (.ref b4), (.ref b2)]) rfl (by rw [hml]; rfl) (hb hby at_29) (W := 4) (Nat.le_of_eq rfl) (by decide) (by decide) (by decide) (by decide)
    have N6 := Fr.app N3 M6
    have gn6_0 : n0 ≤ r6 := Nat.le_trans (old_le ((((O0.ext E2).keep K3 (allS gn2 all0)).ext E4).ext E5)) z6_0
    refine Goes.via (B := T6.setTop (mkF m 32 #[lv_ x1, s_, lv_ x2, s_, lv_ x3, s_, iv x4, iv (1 : Int32), rv b2, u_] [(.ref r6), (.ref b5), (.ref b4), (.ref b4), (.ref b2)])) (fun t k => st6 _ k) ?_
    obtain ⟨_, T7, L7, X7, ⟨rfl, M7, K7, f7_0, f7_1⟩, st7⟩ := callInit X6 hx hZ5 rfl hown5 (W_ hw 67 rfl) (W_ hw 68 rfl) (W_ hw 29 rfl) (W_ hw 69 rfl) (by decide) (argsL := [(.ref b5), (.ref r6)]) (rest := [(.ref b4), (.ref b2)]) (own_m6 l Z a0 hw [] b4 b5 r6 T6.heap n0 (((((O0.ext E2).keep K3 (allS gn2 all0)).ext E4).ext E5).keep K6 all0) gn4 ((A4.ext E5).keep K6) ((F4_name.ext E5).keep K6 nin0) ((F4_score.ext E5).keep K6 nin0)) rfl (lenOf own_pd25 rfl) (pc := 32) (Ls := #[lv_ x1, s_, lv_ x2, s_, lv_ x3, s_, iv x4, iv (1 : Int32), rv b2, u_]) (st := [(.ref r6), (.ref b5), (.ref b4), (.ref b4), (.ref b2)]) rfl (by rw [hml]; rfl) (hb hby at_32) (W := 2) (Nat.le_of_eq rfl) (by decide) (by decide) (by decide) (by decide)
    have N7 := Fr.app N6 M7
    refine Goes.via (B := T7.setTop (mkF m 35 #[lv_ x1, s_, lv_ x2, s_, lv_ x3, s_, iv x4, iv (1 : Int32), rv b2, u_] [(.ref b4), (.ref b2)])) (fun t k => st7 _ k) ?_
    have c9 : Fld Z T7.heap b2 "java/util/ArrayList" "elementData" "[Ljava/lang/Object;" (.ref aD) := ((((f3_1.ext E4).ext E5).keep K6 nin0).keep K7 (ninS (Nat.ne_of_lt (Nat.lt_of_lt_of_le (Nat.le_trans A2.lt K3.1) (Nat.le_of_eq g4.symm))) nin0))
    have c10 : Fld Z T7.heap b2 "java/util/ArrayList" "size" "I" (.int (0 : Int32)) := ((((f3_2.ext E4).ext E5).keep K6 nin0).keep K7 (ninS (Nat.ne_of_lt (Nat.lt_of_lt_of_le (Nat.le_trans A2.lt K3.1) (Nat.le_of_eq g4.symm))) nin0))
    have c11 : Fld Z T7.heap b2 "java/util/AbstractList" "modCount" "I" (.int (0 : Int32)) := ((((f3_3.ext E4).ext E5).keep K6 nin0).keep K7 (ninS (Nat.ne_of_lt (Nat.lt_of_lt_of_le (Nat.le_trans A2.lt K3.1) (Nat.le_of_eq g4.symm))) nin0))
    obtain ⟨_, T8, L8, X8, ⟨b8, kb8, rfl, M8, K8, z8_0, p8_0, f8_0, f8_1, f8_2, f8_3, f8_4, f8_5, f8_6⟩, st8⟩ := callFace X7 hx hZ5 hown5 (W_ hw 75 rfl) (W_ hw 76 rfl) (mvT hZ5 (W_ hw 77 rfl)) (W_ hw 78 rfl) (W_ hw 79 rfl) (W_ hw 80 rfl) (W_ hw 81 rfl) (W_ hw 82 rfl) (W_ hw 3 rfl) (W_ hw 83 rfl) (by decide) (argsL := [(.ref b4)]) (rest := []) (own_m14 l Z a0 hw [] b2 b4 (0 : Int32) aD kD T7.heap n0 ((((((O0.ext E2).keep K3 (allS gn2 all0)).ext E4).ext E5).keep K6 all0).keep K7 (allS gn4 all0)) gn2 O_1 O_2 ((((f3_0.ext E4).ext E5).keep K6).keep K7) c9 c10 c11 f7_0) rfl ((((f3_0.ext E4).ext E5).keep K6).keep K7) (lenOf own_pd26 rfl) (pc := 35) (Ls := #[lv_ x1, s_, lv_ x2, s_, lv_ x3, s_, iv x4, iv (1 : Int32), rv b2, u_]) (st := [(.ref b4), (.ref b2)]) rfl (by rw [hml]; rfl) (hb hby at_35) (W := 0) (Nat.le_of_eq rfl) (by decide) (by decide) (by decide) (by decide)
    have N8 := Fr.app N7 M8
    have gn8_0 : n0 ≤ b8 := Nat.le_trans (old_le ((((((O0.ext E2).keep K3 (allS gn2 all0)).ext E4).ext E5).keep K6 all0).keep K7 (allS gn4 all0))) z8_0
    refine Goes.via (B := T8.setTop (mkF m 40 #[lv_ x1, s_, lv_ x2, s_, lv_ x3, s_, iv x4, iv (1 : Int32), rv b2, u_] [(.int (1 : Int32))])) (fun t k => st8 _ k) ?_
    refine Gv T8 41 [] (fun t k => XS.pop X8.here hx rfl (hb hby at_40) rfl rfl k) ?_
    refine Gv T8 43 [(.int (1 : Int32))] (fun t k => XS.iload X8.here hx rfl (hb hby at_41) rfl k) ?_
    refine Gv T8 44 [(.int (2 : Int32)), (.int (1 : Int32))] (fun t k => XS.iconst X8.here hx rfl (hb hby at_43) k) ?_
    refine Gv T8 68 [] (fun t k => XS.icmpYes X8.here hx rfl (pc0 := 44) (pc' := 68) rfl (hb hby at_44) rfl (XT.ii_lt_t (by decide)) (by decide) (by decide) k) ?_
    refine Gv T8 70 [(.int (1 : Int32))] (fun t k => XS.iload X8.here hx rfl (hb hby at_68) rfl k) ?_
    refine Gv T8 71 [(.int (3 : Int32)), (.int (1 : Int32))] (fun t k => XS.iconst X8.here hx rfl (hb hby at_70) k) ?_
    refine Gv T8 96 [] (fun t k => XS.icmpYes X8.here hx rfl (pc0 := 71) (pc' := 96) rfl (hb hby at_71) rfl (XT.ii_lt_t (by decide)) (by decide) (by decide) k) ?_
    obtain ⟨T12, h12, X12, e12, E12, A12, D12, U12, st12⟩ := newO X8 hx hZ5 hown5 (W_ hw 112 rfl) (W_ hw 113 rfl) (W_ hw 114 rfl) rfl (g := (mkF m 96 #[lv_ x1, s_, lv_ x2, s_, lv_ x3, s_, iv x4, iv (1 : Int32), rv b2, u_] [])) rfl (hb hby at_96) (by decide) (by decide)
    obtain ⟨b12, g12⟩ : ∃ z, z = T8.heap.size := ⟨_, rfl⟩
    rw [← g12] at A12 D12 U12 st12
    have gn12 : n0 ≤ b12 := Nat.le_trans (old_le (((((((O0.ext E2).keep K3 (allS gn2 all0)).ext E4).ext E5).keep K6 all0).keep K7 (allS gn4 all0)).keep K8 (allS gn2 all0))) (Nat.le_of_eq g12.symm)
    have F12_pages : Fld Z h12 b12 "com/example/wakenitz/wakenitz/measure/ScoreSheet" "pages" "Ljava/util/List;" .null := D12 (Or.inr (W_ hw 212 rfl)) (ty := (.object "java/util/List")) (by decide)
    refine Goes.via (B := T12.setTop (mkF m 99 #[lv_ x1, s_, lv_ x2, s_, lv_ x3, s_, iv x4, iv (1 : Int32), rv b2, u_] [(.ref b12)])) (fun t k => st12 _ k) ?_
    refine Gv T12 100 [(.ref b12), (.ref b12)] (fun t k => XS.dup X12.here hx rfl (hb hby at_99) rfl rfl k) ?_
    refine Gv T12 102 [(.ref b2), (.ref b12), (.ref b12)] (fun t k => XS.aload X12.here hx rfl (hb hby at_100) rfl rfl k) ?_
    obtain ⟨_, T13, L13, X13, ⟨r13, rfl, M13, K13, z13_0, f13_0, f13_1, f13_2, f13_3, f13_4⟩, st13⟩ := callInit X12 hx hZ5 rfl hown5 (W_ hw 115 rfl) (W_ hw 116 rfl) (W_ hw 114 rfl) (W_ hw 117 rfl) (by decide) (argsL := [(.ref b2)]) (rest := [(.ref b12)]) (own_m47 l Z a0 hw [] b12 b2 b8 kb8 ((0 : Int32) + (1 : Int32)) b4 mr em h12 n0 ((((((((O0.ext E2).keep K3 (allS gn2 all0)).ext E4).ext E5).keep K6 all0).keep K7 (allS gn4 all0)).keep K8 (allS gn2 all0)).ext E12) Mi gn12 O_3 A12 F12_pages (f8_0.ext E12) (f8_1.ext E12) (f8_2.ext E12) (f8_3.ext E12) (f8_5.ext E12) (f8_6.ext E12) (f8_4.ext E12)) e12 (lenOf own_pd27 rfl) (pc := 102) (Ls := #[lv_ x1, s_, lv_ x2, s_, lv_ x3, s_, iv x4, iv (1 : Int32), rv b2, u_]) (st := [(.ref b2), (.ref b12), (.ref b12)]) rfl (by rw [hml]; rfl) (hb hby at_102) (W := 1) (Nat.le_of_eq rfl) (by decide) (by decide) (by decide) (by decide)
    have N13 := Fr.app N8 M13
    have gn13_0 : n0 ≤ r13 := Nat.le_trans (old_le ((((((((O0.ext E2).keep K3 (allS gn2 all0)).ext E4).ext E5).keep K6 all0).keep K7 (allS gn4 all0)).keep K8 (allS gn2 all0)).ext E12)) z13_0
    refine Goes.via (B := T13.setTop (mkF m 105 #[lv_ x1, s_, lv_ x2, s_, lv_ x3, s_, iv x4, iv (1 : Int32), rv b2, u_] [(.ref b12)])) (fun t k => st13 _ k) ?_
    have c15 : Fld Z T13.heap b4 "com/example/wakenitz/wakenitz/measure/ScoreSheet$PageScore" "score" "Lcom/example/wakenitz/wakenitz/measure/Score;" (.ref r6) := (((f7_1.keep K8 (ninS (Ne.symm (Nat.ne_of_lt (Nat.lt_of_lt_of_le (Nat.le_trans A2.lt K3.1) (Nat.le_of_eq g4.symm)))) nin0)).ext E12).keep K13 (ninS (Nat.ne_of_lt (Nat.lt_of_lt_of_le (Nat.le_trans (Nat.le_trans (Nat.le_trans (Nat.le_trans A4.lt E5.1) K6.1) K7.1) K8.1) (Nat.le_of_eq g12.symm))) nin0))
    have c16 : Fld Z T13.heap r6 "com/example/wakenitz/wakenitz/measure/Score" "precision" "D" (.double (own_d (own_fig x1 (0 : Int32)))) := ((((f6_1.keep K7 (ninS (Ne.symm (Nat.ne_of_lt (Nat.lt_of_lt_of_le (Nat.le_trans A4.lt E5.1) z6_0))) nin0)).keep K8 (ninS (Ne.symm (Nat.ne_of_lt (Nat.lt_of_lt_of_le (Nat.le_trans (Nat.le_trans (Nat.le_trans A2.lt K3.1) E4.1) E5.1) z6_0))) nin0)).ext E12).keep K13 (ninS (Nat.ne_of_lt (Nat.lt_of_lt_of_le (Nat.le_trans (Nat.le_trans f6_0.lt K7.1) K8.1) (Nat.le_of_eq g12.symm))) nin0))
    have c17 : Fld Z T13.heap r6 "com/example/wakenitz/wakenitz/measure/Score" "recall" "D" (.double (own_d (own_fig x1 (1 : Int32)))) := ((((f6_2.keep K7 (ninS (Ne.symm (Nat.ne_of_lt (Nat.lt_of_lt_of_le (Nat.le_trans A4.lt E5.1) z6_0))) nin0)).keep K8 (ninS (Ne.symm (Nat.ne_of_lt (Nat.lt_of_lt_of_le (Nat.le_trans (Nat.le_trans (Nat.le_trans A2.lt K3.1) E4.1) E5.1) z6_0))) nin0)).ext E12).keep K13 (ninS (Nat.ne_of_lt (Nat.lt_of_lt_of_le (Nat.le_trans (Nat.le_trans f6_0.lt K7.1) K8.1) (Nat.le_of_eq g12.symm))) nin0))
    have c18 : Fld Z T13.heap r6 "com/example/wakenitz/wakenitz/measure/Score" "f1" "D" (.double (own_d (own_fig x1 (2 : Int32)))) := ((((f6_3.keep K7 (ninS (Ne.symm (Nat.ne_of_lt (Nat.lt_of_lt_of_le (Nat.le_trans A4.lt E5.1) z6_0))) nin0)).keep K8 (ninS (Ne.symm (Nat.ne_of_lt (Nat.lt_of_lt_of_le (Nat.le_trans (Nat.le_trans (Nat.le_trans A2.lt K3.1) E4.1) E5.1) z6_0))) nin0)).ext E12).keep K13 (ninS (Nat.ne_of_lt (Nat.lt_of_lt_of_le (Nat.le_trans (Nat.le_trans f6_0.lt K7.1) K8.1) (Nat.le_of_eq g12.symm))) nin0))
    have c19 : Fld Z T13.heap r6 "com/example/wakenitz/wakenitz/measure/Score" "similarity" "D" (.double (own_d (own_fig x1 (3 : Int32)))) := ((((f6_4.keep K7 (ninS (Ne.symm (Nat.ne_of_lt (Nat.lt_of_lt_of_le (Nat.le_trans A4.lt E5.1) z6_0))) nin0)).keep K8 (ninS (Ne.symm (Nat.ne_of_lt (Nat.lt_of_lt_of_le (Nat.le_trans (Nat.le_trans (Nat.le_trans A2.lt K3.1) E4.1) E5.1) z6_0))) nin0)).ext E12).keep K13 (ninS (Nat.ne_of_lt (Nat.lt_of_lt_of_le (Nat.le_trans (Nat.le_trans f6_0.lt K7.1) K8.1) (Nat.le_of_eq g12.symm))) nin0))
    obtain ⟨_, T14, L14, X14, ⟨r14, rfl, M14, K14, z14_0, f14_0, f14_1, f14_2, f14_3, f14_4⟩, st14⟩ := callVirt X13 hx hZ5 hown5 (W_ hw 213 rfl) (W_ hw 214 rfl) (W_ hw 216 rfl) (notFace_of_selects (args := #[]) (mvT hZ5 (W_ hw 216 rfl))) (W_ hw 215 rfl) (W_ hw 114 rfl) (W_ hw 217 rfl) (by decide) (argsL := []) (rest := []) (own_m75 l Z a0 hw [] b12 r13 b4 em r6 (own_fig x1 (0 : Int32)) (own_fig x1 (1 : Int32)) (own_fig x1 (2 : Int32)) (own_fig x1 (3 : Int32)) T13.heap n0 (((((((((O0.ext E2).keep K3 (allS gn2 all0)).ext E4).ext E5).keep K6 all0).keep K7 (allS gn4 all0)).keep K8 (allS gn2 all0)).ext E12).keep K13 (allS gn12 all0)) (own_figr _ _) (own_figr _ _) (own_figr _ _) (own_figr _ _) O_3 f13_0 f13_1 f13_2 f13_3 f13_4 ((f8_4.ext E12).keep K13) c15 ((((f6_0.keep K7).keep K8).ext E12).keep K13) c16 c17 c18 c19) rfl f13_0 (lenOf own_pd21 rfl) (pc := 105) (Ls := #[lv_ x1, s_, lv_ x2, s_, lv_ x3, s_, iv x4, iv (1 : Int32), rv b2, u_]) (st := [(.ref b12)]) rfl (by rw [hml]; rfl) (hb hby at_105) (W := 0) (Nat.le_of_eq rfl) (by decide) (by decide) (by decide) (by decide)
    have N14 := Fr.app N13 M14
    have gn14_0 : n0 ≤ r14 := Nat.le_trans (old_le (((((((((O0.ext E2).keep K3 (allS gn2 all0)).ext E4).ext E5).keep K6 all0).keep K7 (allS gn4 all0)).keep K8 (allS gn2 all0)).ext E12).keep K13 (allS gn12 all0))) z14_0
    refine Goes.via (B := T14.setTop (mkF m 108 #[lv_ x1, s_, lv_ x2, s_, lv_ x3, s_, iv x4, iv (1 : Int32), rv b2, u_] [(.ref r14)])) (fun t k => st14 _ k) ?_
    refine Gv T14 110 [] (fun t k => XS.astore X14.here hx rfl (hb hby at_108) rfl rfl (l' := #[lv_ x1, s_, lv_ x2, s_, lv_ x3, s_, iv x4, iv (1 : Int32), rv b2, rv r14]) rfl k) ?_
    refine Gv T14 112 [(.ref r14)] (fun t k => XS.aload X14.here hx rfl (hb hby at_110) rfl rfl k) ?_
    obtain ⟨_, T20, L20, X20, ⟨rfl, M20, K20⟩, st20⟩ := callVirt X14 hx hZ5 hown5 (W_ hw 309 rfl) (W_ hw 282 rfl) (W_ hw 284 rfl) (notFace_of_selects (args := #[]) (mvT hZ5 (W_ hw 284 rfl))) (W_ hw 283 rfl) (W_ hw 44 rfl) (W_ hw 285 rfl) (by decide) (argsL := []) (rest := []) (own_m71 l Z a0 hw [] r14 (own_q (1 : Int32) (own_fig x1 (0 : Int32))) T14.heap n0 ((((((((((O0.ext E2).keep K3 (allS gn2 all0)).ext E4).ext E5).keep K6 all0).keep K7 (allS gn4 all0)).keep K8 (allS gn2 all0)).ext E12).keep K13 (allS gn12 all0)).keep K14 all0) f14_0 f14_1) rfl f14_0 (lenOf own_pd22 rfl) (pc := 112) (Ls := #[lv_ x1, s_, lv_ x2, s_, lv_ x3, s_, iv x4, iv (1 : Int32), rv b2, rv r14]) (st := [(.ref r14)]) rfl (by rw [hml]; rfl) (hb hby at_112) (W := 0) (Nat.le_of_eq rfl) (by decide) (by decide) (by decide) (by decide)
    have N20 := Fr.app N14 M20
    refine Goes.via (B := T20.setTop (mkF m 115 #[lv_ x1, s_, lv_ x2, s_, lv_ x3, s_, iv x4, iv (1 : Int32), rv b2, rv r14] [(.double (own_q (1 : Int32) (own_fig x1 (0 : Int32))))])) (fun t k => st20 _ k) ?_
    refine Gv T20 116 [(.long x1), (.double (own_q (1 : Int32) (own_fig x1 (0 : Int32))))] (fun t k => XS.lloadN X20.here hx rfl (hb hby at_115) rfl k) ?_
    refine Gv T20 117 [(.long x2), (.long x1), (.double (own_q (1 : Int32) (own_fig x1 (0 : Int32))))] (fun t k => XS.lloadN X20.here hx rfl (hb hby at_116) rfl k) ?_
    refine Gv T20 119 [(.long x3), (.long x2), (.long x1), (.double (own_q (1 : Int32) (own_fig x1 (0 : Int32))))] (fun t k => XS.lload X20.here hx rfl (hb hby at_117) rfl k) ?_
    refine Gv T20 121 [(.int (1 : Int32)), (.long x3), (.long x2), (.long x1), (.double (own_q (1 : Int32) (own_fig x1 (0 : Int32))))] (fun t k => XS.iload X20.here hx rfl (hb hby at_119) rfl k) ?_
    refine Gv T20 122 [(.int (0 : Int32)), (.int (1 : Int32)), (.long x3), (.long x2), (.long x1), (.double (own_q (1 : Int32) (own_fig x1 (0 : Int32))))] (fun t k => XS.iconst X20.here hx rfl (hb hby at_121) k) ?_
    obtain ⟨_, T21, L21, X21, ⟨rfl, M21, K21⟩, st21⟩ := callStatic X20 hx hZ5 hown5 (W_ hw 310 rfl) (W_ hw 311 rfl) (W_ hw 40 rfl) (W_ hw 312 rfl) (by decide) (argsL := [(.long x1), (.long x2), (.long x3), (.int (1 : Int32)), (.int (0 : Int32))]) (rest := [(.double (own_q (1 : Int32) (own_fig x1 (0 : Int32))))]) (own_m80 l Z a0 hw [] x1 x2 x3 (0 : Int32) T14.heap n0 ((((((((((O0.ext E2).keep K3 (allS gn2 all0)).ext E4).ext E5).keep K6 all0).keep K7 (allS gn4 all0)).keep K8 (allS gn2 all0)).ext E12).keep K13 (allS gn12 all0)).keep K14 all0) ) K20 (lenOf own_pd28 rfl) (pc := 122) (Ls := #[lv_ x1, s_, lv_ x2, s_, lv_ x3, s_, iv x4, iv (1 : Int32), rv b2, rv r14]) (st := [(.int (0 : Int32)), (.int (1 : Int32)), (.long x3), (.long x2), (.long x1), (.double (own_q (1 : Int32) (own_fig x1 (0 : Int32))))]) rfl (by rw [hml]; rfl) (hb hby at_122) (W := 2) (Nat.le_of_eq rfl) (by decide) (by decide) (by decide) (by decide)
    have N21 := Fr.app N20 M21
    refine Goes.via (B := T21.setTop (mkF m 125 #[lv_ x1, s_, lv_ x2, s_, lv_ x3, s_, iv x4, iv (1 : Int32), rv b2, rv r14] [(.double (own_q (1 : Int32) (own_fig x1 (0 : Int32)))), (.double (own_q (1 : Int32) (own_fig x1 (0 : Int32))))])) (fun t k => st21 _ k) ?_
    refine Gv T21 126 [(.int (0 : Int32))] (fun t k => XS.dcmpS X21.here hx rfl (hb hby at_125) rfl (own_qs (own_up (own_figr _ _) (by decide)) (by decide)).2 k) ?_
    refine Gv T21 129 [] (fun t k => XS.ifNo X21.here hx rfl (hb hby at_126) rfl (XT.i0_ne_f rfl) k) ?_
    refine Gv T21 131 [(.ref r14)] (fun t k => XS.aload X21.here hx rfl (hb hby at_129) rfl rfl k) ?_
    obtain ⟨_, T22, L22, X22, ⟨rfl, M22, K22⟩, st22⟩ := callVirt X21 hx hZ5 hown5 (W_ hw 316 rfl) (W_ hw 287 rfl) (W_ hw 289 rfl) (notFace_of_selects (args := #[]) (mvT hZ5 (W_ hw 289 rfl))) (W_ hw 288 rfl) (W_ hw 44 rfl) (W_ hw 290 rfl) (by decide) (argsL := []) (rest := []) (own_m72 l Z a0 hw [] r14 (own_q (1 : Int32) (own_fig x1 (1 : Int32))) T14.heap n0 ((((((((((O0.ext E2).keep K3 (allS gn2 all0)).ext E4).ext E5).keep K6 all0).keep K7 (allS gn4 all0)).keep K8 (allS gn2 all0)).ext E12).keep K13 (allS gn12 all0)).keep K14 all0) f14_0 f14_2) K21 f14_0 (lenOf own_pd22 rfl) (pc := 131) (Ls := #[lv_ x1, s_, lv_ x2, s_, lv_ x3, s_, iv x4, iv (1 : Int32), rv b2, rv r14]) (st := [(.ref r14)]) rfl (by rw [hml]; rfl) (hb hby at_131) (W := 0) (Nat.le_of_eq rfl) (by decide) (by decide) (by decide) (by decide)
    have N22 := Fr.app N21 M22
    refine Goes.via (B := T22.setTop (mkF m 134 #[lv_ x1, s_, lv_ x2, s_, lv_ x3, s_, iv x4, iv (1 : Int32), rv b2, rv r14] [(.double (own_q (1 : Int32) (own_fig x1 (1 : Int32))))])) (fun t k => st22 _ k) ?_
    refine Gv T22 135 [(.long x1), (.double (own_q (1 : Int32) (own_fig x1 (1 : Int32))))] (fun t k => XS.lloadN X22.here hx rfl (hb hby at_134) rfl k) ?_
    refine Gv T22 136 [(.long x2), (.long x1), (.double (own_q (1 : Int32) (own_fig x1 (1 : Int32))))] (fun t k => XS.lloadN X22.here hx rfl (hb hby at_135) rfl k) ?_
    refine Gv T22 138 [(.long x3), (.long x2), (.long x1), (.double (own_q (1 : Int32) (own_fig x1 (1 : Int32))))] (fun t k => XS.lload X22.here hx rfl (hb hby at_136) rfl k) ?_
    refine Gv T22 140 [(.int (1 : Int32)), (.long x3), (.long x2), (.long x1), (.double (own_q (1 : Int32) (own_fig x1 (1 : Int32))))] (fun t k => XS.iload X22.here hx rfl (hb hby at_138) rfl k) ?_
    refine Gv T22 141 [(.int (1 : Int32)), (.int (1 : Int32)), (.long x3), (.long x2), (.long x1), (.double (own_q (1 : Int32) (own_fig x1 (1 : Int32))))] (fun t k => XS.iconst X22.here hx rfl (hb hby at_140) k) ?_
    obtain ⟨_, T23, L23, X23, ⟨rfl, M23, K23⟩, st23⟩ := callStatic X22 hx hZ5 hown5 (W_ hw 310 rfl) (W_ hw 311 rfl) (W_ hw 40 rfl) (W_ hw 312 rfl) (by decide) (argsL := [(.long x1), (.long x2), (.long x3), (.int (1 : Int32)), (.int (1 : Int32))]) (rest := [(.double (own_q (1 : Int32) (own_fig x1 (1 : Int32))))]) (own_m80 l Z a0 hw [] x1 x2 x3 (1 : Int32) T14.heap n0 ((((((((((O0.ext E2).keep K3 (allS gn2 all0)).ext E4).ext E5).keep K6 all0).keep K7 (allS gn4 all0)).keep K8 (allS gn2 all0)).ext E12).keep K13 (allS gn12 all0)).keep K14 all0) ) K22 (lenOf own_pd28 rfl) (pc := 141) (Ls := #[lv_ x1, s_, lv_ x2, s_, lv_ x3, s_, iv x4, iv (1 : Int32), rv b2, rv r14]) (st := [(.int (1 : Int32)), (.int (1 : Int32)), (.long x3), (.long x2), (.long x1), (.double (own_q (1 : Int32) (own_fig x1 (1 : Int32))))]) rfl (by rw [hml]; rfl) (hb hby at_141) (W := 2) (Nat.le_of_eq rfl) (by decide) (by decide) (by decide) (by decide)
    have N23 := Fr.app N22 M23
    refine Goes.via (B := T23.setTop (mkF m 144 #[lv_ x1, s_, lv_ x2, s_, lv_ x3, s_, iv x4, iv (1 : Int32), rv b2, rv r14] [(.double (own_q (1 : Int32) (own_fig x1 (1 : Int32)))), (.double (own_q (1 : Int32) (own_fig x1 (1 : Int32))))])) (fun t k => st23 _ k) ?_
    refine Gv T23 145 [(.int (0 : Int32))] (fun t k => XS.dcmpS X23.here hx rfl (hb hby at_144) rfl (own_qs (own_up (own_figr _ _) (by decide)) (by decide)).2 k) ?_
    refine Gv T23 148 [] (fun t k => XS.ifNo X23.here hx rfl (hb hby at_145) rfl (XT.i0_ne_f rfl) k) ?_
    refine Gv T23 150 [(.ref r14)] (fun t k => XS.aload X23.here hx rfl (hb hby at_148) rfl rfl k) ?_
    obtain ⟨_, T24, L24, X24, ⟨rfl, M24, K24⟩, st24⟩ := callVirt X23 hx hZ5 hown5 (W_ hw 317 rfl) (W_ hw 292 rfl) (W_ hw 294 rfl) (notFace_of_selects (args := #[]) (mvT hZ5 (W_ hw 294 rfl))) (W_ hw 293 rfl) (W_ hw 44 rfl) (W_ hw 295 rfl) (by decide) (argsL := []) (rest := []) (own_m73 l Z a0 hw [] r14 (own_q (1 : Int32) (own_fig x1 (2 : Int32))) T14.heap n0 ((((((((((O0.ext E2).keep K3 (allS gn2 all0)).ext E4).ext E5).keep K6 all0).keep K7 (allS gn4 all0)).keep K8 (allS gn2 all0)).ext E12).keep K13 (allS gn12 all0)).keep K14 all0) f14_0 f14_3) K23 f14_0 (lenOf own_pd22 rfl) (pc := 150) (Ls := #[lv_ x1, s_, lv_ x2, s_, lv_ x3, s_, iv x4, iv (1 : Int32), rv b2, rv r14]) (st := [(.ref r14)]) rfl (by rw [hml]; rfl) (hb hby at_150) (W := 0) (Nat.le_of_eq rfl) (by decide) (by decide) (by decide) (by decide)
    have N24 := Fr.app N23 M24
    refine Goes.via (B := T24.setTop (mkF m 153 #[lv_ x1, s_, lv_ x2, s_, lv_ x3, s_, iv x4, iv (1 : Int32), rv b2, rv r14] [(.double (own_q (1 : Int32) (own_fig x1 (2 : Int32))))])) (fun t k => st24 _ k) ?_
    refine Gv T24 154 [(.long x1), (.double (own_q (1 : Int32) (own_fig x1 (2 : Int32))))] (fun t k => XS.lloadN X24.here hx rfl (hb hby at_153) rfl k) ?_
    refine Gv T24 155 [(.long x2), (.long x1), (.double (own_q (1 : Int32) (own_fig x1 (2 : Int32))))] (fun t k => XS.lloadN X24.here hx rfl (hb hby at_154) rfl k) ?_
    refine Gv T24 157 [(.long x3), (.long x2), (.long x1), (.double (own_q (1 : Int32) (own_fig x1 (2 : Int32))))] (fun t k => XS.lload X24.here hx rfl (hb hby at_155) rfl k) ?_
    refine Gv T24 159 [(.int (1 : Int32)), (.long x3), (.long x2), (.long x1), (.double (own_q (1 : Int32) (own_fig x1 (2 : Int32))))] (fun t k => XS.iload X24.here hx rfl (hb hby at_157) rfl k) ?_
    refine Gv T24 160 [(.int (2 : Int32)), (.int (1 : Int32)), (.long x3), (.long x2), (.long x1), (.double (own_q (1 : Int32) (own_fig x1 (2 : Int32))))] (fun t k => XS.iconst X24.here hx rfl (hb hby at_159) k) ?_
    obtain ⟨_, T25, L25, X25, ⟨rfl, M25, K25⟩, st25⟩ := callStatic X24 hx hZ5 hown5 (W_ hw 310 rfl) (W_ hw 311 rfl) (W_ hw 40 rfl) (W_ hw 312 rfl) (by decide) (argsL := [(.long x1), (.long x2), (.long x3), (.int (1 : Int32)), (.int (2 : Int32))]) (rest := [(.double (own_q (1 : Int32) (own_fig x1 (2 : Int32))))]) (own_m80 l Z a0 hw [] x1 x2 x3 (2 : Int32) T14.heap n0 ((((((((((O0.ext E2).keep K3 (allS gn2 all0)).ext E4).ext E5).keep K6 all0).keep K7 (allS gn4 all0)).keep K8 (allS gn2 all0)).ext E12).keep K13 (allS gn12 all0)).keep K14 all0) ) K24 (lenOf own_pd28 rfl) (pc := 160) (Ls := #[lv_ x1, s_, lv_ x2, s_, lv_ x3, s_, iv x4, iv (1 : Int32), rv b2, rv r14]) (st := [(.int (2 : Int32)), (.int (1 : Int32)), (.long x3), (.long x2), (.long x1), (.double (own_q (1 : Int32) (own_fig x1 (2 : Int32))))]) rfl (by rw [hml]; rfl) (hb hby at_160) (W := 2) (Nat.le_of_eq rfl) (by decide) (by decide) (by decide) (by decide)
    have N25 := Fr.app N24 M25
    refine Goes.via (B := T25.setTop (mkF m 163 #[lv_ x1, s_, lv_ x2, s_, lv_ x3, s_, iv x4, iv (1 : Int32), rv b2, rv r14] [(.double (own_q (1 : Int32) (own_fig x1 (2 : Int32)))), (.double (own_q (1 : Int32) (own_fig x1 (2 : Int32))))])) (fun t k => st25 _ k) ?_
    refine Gv T25 164 [(.int (0 : Int32))] (fun t k => XS.dcmpS X25.here hx rfl (hb hby at_163) rfl (own_qs (own_up (own_figr _ _) (by decide)) (by decide)).2 k) ?_
    refine Gv T25 167 [] (fun t k => XS.ifNo X25.here hx rfl (hb hby at_164) rfl (XT.i0_ne_f rfl) k) ?_
    refine Gv T25 169 [(.ref r14)] (fun t k => XS.aload X25.here hx rfl (hb hby at_167) rfl rfl k) ?_
    obtain ⟨_, T26, L26, X26, ⟨rfl, M26, K26⟩, st26⟩ := callVirt X25 hx hZ5 hown5 (W_ hw 318 rfl) (W_ hw 297 rfl) (W_ hw 299 rfl) (notFace_of_selects (args := #[]) (mvT hZ5 (W_ hw 299 rfl))) (W_ hw 298 rfl) (W_ hw 44 rfl) (W_ hw 300 rfl) (by decide) (argsL := []) (rest := []) (own_m74 l Z a0 hw [] r14 (own_q (1 : Int32) (own_fig x1 (3 : Int32))) T14.heap n0 ((((((((((O0.ext E2).keep K3 (allS gn2 all0)).ext E4).ext E5).keep K6 all0).keep K7 (allS gn4 all0)).keep K8 (allS gn2 all0)).ext E12).keep K13 (allS gn12 all0)).keep K14 all0) f14_0 f14_4) K25 f14_0 (lenOf own_pd22 rfl) (pc := 169) (Ls := #[lv_ x1, s_, lv_ x2, s_, lv_ x3, s_, iv x4, iv (1 : Int32), rv b2, rv r14]) (st := [(.ref r14)]) rfl (by rw [hml]; rfl) (hb hby at_169) (W := 0) (Nat.le_of_eq rfl) (by decide) (by decide) (by decide) (by decide)
    have N26 := Fr.app N25 M26
    refine Goes.via (B := T26.setTop (mkF m 172 #[lv_ x1, s_, lv_ x2, s_, lv_ x3, s_, iv x4, iv (1 : Int32), rv b2, rv r14] [(.double (own_q (1 : Int32) (own_fig x1 (3 : Int32))))])) (fun t k => st26 _ k) ?_
    refine Gv T26 173 [(.long x1), (.double (own_q (1 : Int32) (own_fig x1 (3 : Int32))))] (fun t k => XS.lloadN X26.here hx rfl (hb hby at_172) rfl k) ?_
    refine Gv T26 174 [(.long x2), (.long x1), (.double (own_q (1 : Int32) (own_fig x1 (3 : Int32))))] (fun t k => XS.lloadN X26.here hx rfl (hb hby at_173) rfl k) ?_
    refine Gv T26 176 [(.long x3), (.long x2), (.long x1), (.double (own_q (1 : Int32) (own_fig x1 (3 : Int32))))] (fun t k => XS.lload X26.here hx rfl (hb hby at_174) rfl k) ?_
    refine Gv T26 178 [(.int (1 : Int32)), (.long x3), (.long x2), (.long x1), (.double (own_q (1 : Int32) (own_fig x1 (3 : Int32))))] (fun t k => XS.iload X26.here hx rfl (hb hby at_176) rfl k) ?_
    refine Gv T26 179 [(.int (3 : Int32)), (.int (1 : Int32)), (.long x3), (.long x2), (.long x1), (.double (own_q (1 : Int32) (own_fig x1 (3 : Int32))))] (fun t k => XS.iconst X26.here hx rfl (hb hby at_178) k) ?_
    obtain ⟨_, T27, L27, X27, ⟨rfl, M27, K27⟩, st27⟩ := callStatic X26 hx hZ5 hown5 (W_ hw 310 rfl) (W_ hw 311 rfl) (W_ hw 40 rfl) (W_ hw 312 rfl) (by decide) (argsL := [(.long x1), (.long x2), (.long x3), (.int (1 : Int32)), (.int (3 : Int32))]) (rest := [(.double (own_q (1 : Int32) (own_fig x1 (3 : Int32))))]) (own_m80 l Z a0 hw [] x1 x2 x3 (3 : Int32) T14.heap n0 ((((((((((O0.ext E2).keep K3 (allS gn2 all0)).ext E4).ext E5).keep K6 all0).keep K7 (allS gn4 all0)).keep K8 (allS gn2 all0)).ext E12).keep K13 (allS gn12 all0)).keep K14 all0) ) K26 (lenOf own_pd28 rfl) (pc := 179) (Ls := #[lv_ x1, s_, lv_ x2, s_, lv_ x3, s_, iv x4, iv (1 : Int32), rv b2, rv r14]) (st := [(.int (3 : Int32)), (.int (1 : Int32)), (.long x3), (.long x2), (.long x1), (.double (own_q (1 : Int32) (own_fig x1 (3 : Int32))))]) rfl (by rw [hml]; rfl) (hb hby at_179) (W := 2) (Nat.le_of_eq rfl) (by decide) (by decide) (by decide) (by decide)
    have N27 := Fr.app N26 M27
    refine Goes.via (B := T27.setTop (mkF m 182 #[lv_ x1, s_, lv_ x2, s_, lv_ x3, s_, iv x4, iv (1 : Int32), rv b2, rv r14] [(.double (own_q (1 : Int32) (own_fig x1 (3 : Int32)))), (.double (own_q (1 : Int32) (own_fig x1 (3 : Int32))))])) (fun t k => st27 _ k) ?_
    refine Gv T27 183 [(.int (0 : Int32))] (fun t k => XS.dcmpS X27.here hx rfl (hb hby at_182) rfl (own_qs (own_up (own_figr _ _) (by decide)) (by decide)).2 k) ?_
    refine Gv T27 186 [] (fun t k => XS.ifNo X27.here hx rfl (hb hby at_183) rfl (XT.i0_ne_f rfl) k) ?_
    refine Gv T27 187 [(.int (1 : Int32))] (fun t k => XS.iconst X27.here hx rfl (hb hby at_186) k) ?_
    refine Gv T27 191 [(.int (1 : Int32))] (fun t k => XS.goto X27.here hx rfl (pc0 := 187) (pc' := 191) rfl (hb hby at_187) (by decide) (by decide) k) ?_
    exact finN (Q := (own_Q83 Z x1 x2 x3 x4 aD kD em mr h0 n0)) (F := ReturnedEndW) (C := (room_1).cells) (S := (room_1).slots) X27 hx (t := .boolean) Bd.returns (by simp) (z' := (1 : Int32)) rfl (hb hby at_191) K27 ⟨rfl, N27, trivial⟩ (lvW X27 hlk hS5 K27 (Nat.le_trans (Nat.le_trans (Nat.le_trans (Nat.le_trans (Nat.le_trans (Nat.le_trans hk5 K6.1) K7.1) K8.1) E12.1) K13.1) K14.1) (by decide) (by decide))
  · obtain ⟨T28, h28, X28, e28, E28, A28, D28, U28, st28⟩ := newO X0 hx hZ hown (W_ hw 1 rfl) (W_ hw 2 rfl) (W_ hw 3 rfl) e0 (g := (mkF m 11 #[lv_ x1, s_, lv_ x2, s_, lv_ x3, s_, iv x4, iv (2 : Int32), u_, u_] [])) rfl (hb hby at_11) (by decide) (by decide)
    obtain ⟨b28, g28⟩ : ∃ z, z = h0.size := ⟨_, rfl⟩
    rw [← g28] at A28 D28 U28 st28
    have gn28 : n0 ≤ b28 := Nat.le_trans (old_le O0) (Nat.le_of_eq g28.symm)
    have F28_modCount : Fld Z h28 b28 "java/util/AbstractList" "modCount" "I" (.int (0 : Int32)) := D28 (Or.inl (W_ hw 23 rfl)) (ty := .int) (by decide)
    have F28_elementData : Fld Z h28 b28 "java/util/ArrayList" "elementData" "[Ljava/lang/Object;" .null := D28 (Or.inl (W_ hw 26 rfl)) (ty := (.array (.object "java/lang/Object"))) (by decide)
    have F28_size : Fld Z h28 b28 "java/util/ArrayList" "size" "I" (.int (0 : Int32)) := D28 (Or.inl (W_ hw 87 rfl)) (ty := .int) (by decide)
    refine Goes.via (B := T28.setTop (mkF m 14 #[lv_ x1, s_, lv_ x2, s_, lv_ x3, s_, iv x4, iv (2 : Int32), u_, u_] [(.ref b28)])) (fun t k => st28 _ k) ?_
    refine Gv T28 15 [(.ref b28), (.ref b28)] (fun t k => XS.dup X28.here hx rfl (hb hby at_14) rfl rfl k) ?_
    obtain ⟨_, T29, L29, X29, ⟨rfl, M29, K29, f29_0, f29_1, f29_2, f29_3⟩, st29⟩ := callInit X28 hx hZ rfl hown (W_ hw 4 rfl) (W_ hw 5 rfl) (W_ hw 3 rfl) (W_ hw 6 rfl) (by decide) (argsL := []) (rest := [(.ref b28)]) (own_m8 l Z a0 hw [] b28 aD h28 n0 (O0.ext E28) gn28 O_1 A28 F28_elementData F28_size F28_modCount) e28 (lenOf own_pd0 rfl) (pc := 15) (Ls := #[lv_ x1, s_, lv_ x2, s_, lv_ x3, s_, iv x4, iv (2 : Int32), u_, u_]) (st := [(.ref b28), (.ref b28)]) rfl (by rw [hml]; rfl) (hb hby at_15) (W := 1) (Nat.le_of_eq rfl) (by decide) (by decide) (by decide) (by decide)
    have N29 := Fr.app N0 M29
    refine Goes.via (B := T29.setTop (mkF m 18 #[lv_ x1, s_, lv_ x2, s_, lv_ x3, s_, iv x4, iv (2 : Int32), u_, u_] [(.ref b28)])) (fun t k => st29 _ k) ?_
    refine Gv T29 20 [] (fun t k => XS.astore X29.here hx rfl (hb hby at_18) rfl rfl (l' := #[lv_ x1, s_, lv_ x2, s_, lv_ x3, s_, iv x4, iv (2 : Int32), rv b28, u_]) rfl k) ?_
    refine Gv T29 22 [(.ref b28)] (fun t k => XS.aload X29.here hx rfl (hb hby at_20) rfl rfl k) ?_
    obtain ⟨T30, h30, X30, e30, E30, A30, D30, U30, st30⟩ := newO X29 hx hZ hown (W_ hw 27 rfl) (W_ hw 28 rfl) (W_ hw 29 rfl) rfl (g := (mkF m 22 #[lv_ x1, s_, lv_ x2, s_, lv_ x3, s_, iv x4, iv (2 : Int32), rv b28, u_] [(.ref b28)])) rfl (hb hby at_22) (by decide) (by decide)
    obtain ⟨b30, g30⟩ : ∃ z, z = T29.heap.size := ⟨_, rfl⟩
    rw [← g30] at A30 D30 U30 st30
    have gn30 : n0 ≤ b30 := Nat.le_trans (old_le ((O0.ext E28).keep K29 (allS gn28 all0))) (Nat.le_of_eq g30.symm)
    have F30_name : Fld Z h30 b30 "com/example/wakenitz/wakenitz/measure/ScoreSheet$PageScore" "name" "Ljava/lang/String;" .null := D30 (Or.inr (W_ hw 72 rfl)) (ty := (.object "java/lang/String")) (by decide)
    have F30_score : Fld Z h30 b30 "com/example/wakenitz/wakenitz/measure/ScoreSheet$PageScore" "score" "Lcom/example/wakenitz/wakenitz/measure/Score;" .null := D30 (Or.inr (W_ hw 74 rfl)) (ty := (.object "com/example/wakenitz/wakenitz/measure/Score")) (by decide)
    refine Goes.via (B := T30.setTop (mkF m 25 #[lv_ x1, s_, lv_ x2, s_, lv_ x3, s_, iv x4, iv (2 : Int32), rv b28, u_] [(.ref b30), (.ref b28)])) (fun t k => st30 _ k) ?_
    refine Gv T30 26 [(.ref b30), (.ref b30), (.ref b28)] (fun t k => XS.dup X30.here hx rfl (hb hby at_25) rfl rfl k) ?_
    obtain ⟨b31, T31, h31, k31, X31, e31, E31, hS31, hk31, hZ31, hown31, st31⟩ := ldcS X30 hx hZ hown (W_ hw 30 rfl) (own_wS hw) e30 hS0 (Nat.le_trans (Nat.le_trans (Nat.le_trans hk0 E28.1) K29.1) E30.1) (g := (mkF m 26 #[lv_ x1, s_, lv_ x2, s_, lv_ x3, s_, iv x4, iv (2 : Int32), rv b28, u_] [(.ref b30), (.ref b30), (.ref b28)])) rfl (hb hby at_26) (n := 4) (by decide) (by decide) (by decide) (by decide)
    refine Goes.via (B := T31.setTop (mkF m 28 #[lv_ x1, s_, lv_ x2, s_, lv_ x3, s_, iv x4, iv (2 : Int32), rv b28, u_] [(.ref b31), (.ref b30), (.ref b30), (.ref b28)])) (fun t k => st31 _ k) ?_
    refine Gv T31 29 [(.long x1), (.ref b31), (.ref b30), (.ref b30), (.ref b28)] (fun t k => XS.lloadN X31.here hx rfl (hb hby at_28) rfl k) ?_
    obtain ⟨_, T32, L32, X32, ⟨r32, rfl, M32, K32, z32_0, f32_0, f32_1, f32_2, f32_3, f32_4⟩, st32⟩ := callStatic X31 hx hZ31 hown31 (W_ hw 38 rfl) (W_ hw 39 rfl) (W_ hw 40 rfl) (W_ hw 41 rfl) (by decide) (argsL := [(.long x1)]) (rest := [(.ref b31), (.ref b30), (.ref b30), (.ref b28)]) (own_m5 l Z a0 hw [] x1 h31 n0 ((((O0.ext E28).keep K29 (allS gn28 all0)).ext E30).ext E31) ) e31 (lenOf own_pd24 rfl) (pc := 29) (Ls := #[lv_ x1, s_, lv_ x2, s_, lv_ x3, s_, iv x4, iv (2 : Int32), rv b28, u_]) (st := [(.long x1), (.ref b31), (.ref b30), (.ref b30), (.ref b28)]) rfl (by rw [hml]; rfl) (hb hby at_29) (W := 4) (Nat.le_of_eq rfl) (by decide) (by decide) (by decide) (by decide)
    have N32 := Fr.app N29 M32
    have gn32_0 : n0 ≤ r32 := Nat.le_trans (old_le ((((O0.ext E28).keep K29 (allS gn28 all0)).ext E30).ext E31)) z32_0
    refine Goes.via (B := T32.setTop (mkF m 32 #[lv_ x1, s_, lv_ x2, s_, lv_ x3, s_, iv x4, iv (2 : Int32), rv b28, u_] [(.ref r32), (.ref b31), (.ref b30), (.ref b30), (.ref b28)])) (fun t k => st32 _ k) ?_
    obtain ⟨_, T33, L33, X33, ⟨rfl, M33, K33, f33_0, f33_1⟩, st33⟩ := callInit X32 hx hZ31 rfl hown31 (W_ hw 67 rfl) (W_ hw 68 rfl) (W_ hw 29 rfl) (W_ hw 69 rfl) (by decide) (argsL := [(.ref b31), (.ref r32)]) (rest := [(.ref b30), (.ref b28)]) (own_m6 l Z a0 hw [] b30 b31 r32 T32.heap n0 (((((O0.ext E28).keep K29 (allS gn28 all0)).ext E30).ext E31).keep K32 all0) gn30 ((A30.ext E31).keep K32) ((F30_name.ext E31).keep K32 nin0) ((F30_score.ext E31).keep K32 nin0)) rfl (lenOf own_pd25 rfl) (pc := 32) (Ls := #[lv_ x1, s_, lv_ x2, s_, lv_ x3, s_, iv x4, iv (2 : Int32), rv b28, u_]) (st := [(.ref r32), (.ref b31), (.ref b30), (.ref b30), (.ref b28)]) rfl (by rw [hml]; rfl) (hb hby at_32) (W := 2) (Nat.le_of_eq rfl) (by decide) (by decide) (by decide) (by decide)
    have N33 := Fr.app N32 M33
    refine Goes.via (B := T33.setTop (mkF m 35 #[lv_ x1, s_, lv_ x2, s_, lv_ x3, s_, iv x4, iv (2 : Int32), rv b28, u_] [(.ref b30), (.ref b28)])) (fun t k => st33 _ k) ?_
    have c35 : Fld Z T33.heap b28 "java/util/ArrayList" "elementData" "[Ljava/lang/Object;" (.ref aD) := ((((f29_1.ext E30).ext E31).keep K32 nin0).keep K33 (ninS (Nat.ne_of_lt (Nat.lt_of_lt_of_le (Nat.le_trans A28.lt K29.1) (Nat.le_of_eq g30.symm))) nin0))
    have c36 : Fld Z T33.heap b28 "java/util/ArrayList" "size" "I" (.int (0 : Int32)) := ((((f29_2.ext E30).ext E31).keep K32 nin0).keep K33 (ninS (Nat.ne_of_lt (Nat.lt_of_lt_of_le (Nat.le_trans A28.lt K29.1) (Nat.le_of_eq g30.symm))) nin0))
    have c37 : Fld Z T33.heap b28 "java/util/AbstractList" "modCount" "I" (.int (0 : Int32)) := ((((f29_3.ext E30).ext E31).keep K32 nin0).keep K33 (ninS (Nat.ne_of_lt (Nat.lt_of_lt_of_le (Nat.le_trans A28.lt K29.1) (Nat.le_of_eq g30.symm))) nin0))
    obtain ⟨_, T34, L34, X34, ⟨b34, kb34, rfl, M34, K34, z34_0, p34_0, f34_0, f34_1, f34_2, f34_3, f34_4, f34_5, f34_6⟩, st34⟩ := callFace X33 hx hZ31 hown31 (W_ hw 75 rfl) (W_ hw 76 rfl) (mvT hZ31 (W_ hw 77 rfl)) (W_ hw 78 rfl) (W_ hw 79 rfl) (W_ hw 80 rfl) (W_ hw 81 rfl) (W_ hw 82 rfl) (W_ hw 3 rfl) (W_ hw 83 rfl) (by decide) (argsL := [(.ref b30)]) (rest := []) (own_m14 l Z a0 hw [] b28 b30 (0 : Int32) aD kD T33.heap n0 ((((((O0.ext E28).keep K29 (allS gn28 all0)).ext E30).ext E31).keep K32 all0).keep K33 (allS gn30 all0)) gn28 O_1 O_2 ((((f29_0.ext E30).ext E31).keep K32).keep K33) c35 c36 c37 f33_0) rfl ((((f29_0.ext E30).ext E31).keep K32).keep K33) (lenOf own_pd26 rfl) (pc := 35) (Ls := #[lv_ x1, s_, lv_ x2, s_, lv_ x3, s_, iv x4, iv (2 : Int32), rv b28, u_]) (st := [(.ref b30), (.ref b28)]) rfl (by rw [hml]; rfl) (hb hby at_35) (W := 0) (Nat.le_of_eq rfl) (by decide) (by decide) (by decide) (by decide)
    have N34 := Fr.app N33 M34
    have gn34_0 : n0 ≤ b34 := Nat.le_trans (old_le ((((((O0.ext E28).keep K29 (allS gn28 all0)).ext E30).ext E31).keep K32 all0).keep K33 (allS gn30 all0))) z34_0
    refine Goes.via (B := T34.setTop (mkF m 40 #[lv_ x1, s_, lv_ x2, s_, lv_ x3, s_, iv x4, iv (2 : Int32), rv b28, u_] [(.int (1 : Int32))])) (fun t k => st34 _ k) ?_
    refine Gv T34 41 [] (fun t k => XS.pop X34.here hx rfl (hb hby at_40) rfl rfl k) ?_
    refine Gv T34 43 [(.int (2 : Int32))] (fun t k => XS.iload X34.here hx rfl (hb hby at_41) rfl k) ?_
    refine Gv T34 44 [(.int (2 : Int32)), (.int (2 : Int32))] (fun t k => XS.iconst X34.here hx rfl (hb hby at_43) k) ?_
    refine Gv T34 47 [] (fun t k => XS.icmpNo X34.here hx rfl (hb hby at_44) rfl (XT.ii_lt_f (by decide)) k) ?_
    refine Gv T34 49 [(.ref b28)] (fun t k => XS.aload X34.here hx rfl (hb hby at_47) rfl rfl k) ?_
    obtain ⟨T38, h38, X38, e38, E38, A38, D38, U38, st38⟩ := newO X34 hx hZ31 hown31 (W_ hw 27 rfl) (W_ hw 28 rfl) (W_ hw 29 rfl) rfl (g := (mkF m 49 #[lv_ x1, s_, lv_ x2, s_, lv_ x3, s_, iv x4, iv (2 : Int32), rv b28, u_] [(.ref b28)])) rfl (hb hby at_49) (by decide) (by decide)
    obtain ⟨b38, g38⟩ : ∃ z, z = T34.heap.size := ⟨_, rfl⟩
    rw [← g38] at A38 D38 U38 st38
    have gn38 : n0 ≤ b38 := Nat.le_trans (old_le (((((((O0.ext E28).keep K29 (allS gn28 all0)).ext E30).ext E31).keep K32 all0).keep K33 (allS gn30 all0)).keep K34 (allS gn28 all0))) (Nat.le_of_eq g38.symm)
    have F38_name : Fld Z h38 b38 "com/example/wakenitz/wakenitz/measure/ScoreSheet$PageScore" "name" "Ljava/lang/String;" .null := D38 (Or.inr (W_ hw 72 rfl)) (ty := (.object "java/lang/String")) (by decide)
    have F38_score : Fld Z h38 b38 "com/example/wakenitz/wakenitz/measure/ScoreSheet$PageScore" "score" "Lcom/example/wakenitz/wakenitz/measure/Score;" .null := D38 (Or.inr (W_ hw 74 rfl)) (ty := (.object "com/example/wakenitz/wakenitz/measure/Score")) (by decide)
    refine Goes.via (B := T38.setTop (mkF m 52 #[lv_ x1, s_, lv_ x2, s_, lv_ x3, s_, iv x4, iv (2 : Int32), rv b28, u_] [(.ref b38), (.ref b28)])) (fun t k => st38 _ k) ?_
    refine Gv T38 53 [(.ref b38), (.ref b38), (.ref b28)] (fun t k => XS.dup X38.here hx rfl (hb hby at_52) rfl rfl k) ?_
    obtain ⟨b39, T39, h39, k39, X39, e39, E39, hS39, hk39, hZ39, hown39, st39⟩ := ldcS X38 hx hZ31 hown31 (W_ hw 110 rfl) (own_wS hw) e38 hS31 (Nat.le_trans (Nat.le_trans (Nat.le_trans (Nat.le_trans hk31 K32.1) K33.1) K34.1) E38.1) (g := (mkF m 53 #[lv_ x1, s_, lv_ x2, s_, lv_ x3, s_, iv x4, iv (2 : Int32), rv b28, u_] [(.ref b38), (.ref b38), (.ref b28)])) rfl (hb hby at_53) (n := 4) (by decide) (by decide) (by decide) (by decide)
    refine Goes.via (B := T39.setTop (mkF m 55 #[lv_ x1, s_, lv_ x2, s_, lv_ x3, s_, iv x4, iv (2 : Int32), rv b28, u_] [(.ref b39), (.ref b38), (.ref b38), (.ref b28)])) (fun t k => st39 _ k) ?_
    refine Gv T39 56 [(.long x2), (.ref b39), (.ref b38), (.ref b38), (.ref b28)] (fun t k => XS.lloadN X39.here hx rfl (hb hby at_55) rfl k) ?_
    obtain ⟨_, T40, L40, X40, ⟨r40, rfl, M40, K40, z40_0, f40_0, f40_1, f40_2, f40_3, f40_4⟩, st40⟩ := callStatic X39 hx hZ39 hown39 (W_ hw 38 rfl) (W_ hw 39 rfl) (W_ hw 40 rfl) (W_ hw 41 rfl) (by decide) (argsL := [(.long x2)]) (rest := [(.ref b39), (.ref b38), (.ref b38), (.ref b28)]) (own_m5 l Z a0 hw [] x2 h39 n0 (((((((((O0.ext E28).keep K29 (allS gn28 all0)).ext E30).ext E31).keep K32 all0).keep K33 (allS gn30 all0)).keep K34 (allS gn28 all0)).ext E38).ext E39) ) e39 (lenOf own_pd24 rfl) (pc := 56) (Ls := #[lv_ x1, s_, lv_ x2, s_, lv_ x3, s_, iv x4, iv (2 : Int32), rv b28, u_]) (st := [(.long x2), (.ref b39), (.ref b38), (.ref b38), (.ref b28)]) rfl (by rw [hml]; rfl) (hb hby at_56) (W := 4) (Nat.le_of_eq rfl) (by decide) (by decide) (by decide) (by decide)
    have N40 := Fr.app N34 M40
    have gn40_0 : n0 ≤ r40 := Nat.le_trans (old_le (((((((((O0.ext E28).keep K29 (allS gn28 all0)).ext E30).ext E31).keep K32 all0).keep K33 (allS gn30 all0)).keep K34 (allS gn28 all0)).ext E38).ext E39)) z40_0
    refine Goes.via (B := T40.setTop (mkF m 59 #[lv_ x1, s_, lv_ x2, s_, lv_ x3, s_, iv x4, iv (2 : Int32), rv b28, u_] [(.ref r40), (.ref b39), (.ref b38), (.ref b38), (.ref b28)])) (fun t k => st40 _ k) ?_
    obtain ⟨_, T41, L41, X41, ⟨rfl, M41, K41, f41_0, f41_1⟩, st41⟩ := callInit X40 hx hZ39 rfl hown39 (W_ hw 67 rfl) (W_ hw 68 rfl) (W_ hw 29 rfl) (W_ hw 69 rfl) (by decide) (argsL := [(.ref b39), (.ref r40)]) (rest := [(.ref b38), (.ref b28)]) (own_m6 l Z a0 hw [] b38 b39 r40 T40.heap n0 ((((((((((O0.ext E28).keep K29 (allS gn28 all0)).ext E30).ext E31).keep K32 all0).keep K33 (allS gn30 all0)).keep K34 (allS gn28 all0)).ext E38).ext E39).keep K40 all0) gn38 ((A38.ext E39).keep K40) ((F38_name.ext E39).keep K40 nin0) ((F38_score.ext E39).keep K40 nin0)) rfl (lenOf own_pd25 rfl) (pc := 59) (Ls := #[lv_ x1, s_, lv_ x2, s_, lv_ x3, s_, iv x4, iv (2 : Int32), rv b28, u_]) (st := [(.ref r40), (.ref b39), (.ref b38), (.ref b38), (.ref b28)]) rfl (by rw [hml]; rfl) (hb hby at_59) (W := 2) (Nat.le_of_eq rfl) (by decide) (by decide) (by decide) (by decide)
    have N41 := Fr.app N40 M41
    refine Goes.via (B := T41.setTop (mkF m 62 #[lv_ x1, s_, lv_ x2, s_, lv_ x3, s_, iv x4, iv (2 : Int32), rv b28, u_] [(.ref b38), (.ref b28)])) (fun t k => st41 _ k) ?_
    have c43 : Fld Z T41.heap b28 "java/util/ArrayList" "elementData" "[Ljava/lang/Object;" (.ref b34) := ((((f34_1.ext E38).ext E39).keep K40 nin0).keep K41 (ninS (Nat.ne_of_lt (Nat.lt_of_lt_of_le (Nat.le_trans (Nat.le_trans (Nat.le_trans (Nat.le_trans (Nat.le_trans (Nat.le_trans A28.lt K29.1) E30.1) E31.1) K32.1) K33.1) K34.1) (Nat.le_of_eq g38.symm))) nin0))
    have c44 : Fld Z T41.heap b28 "java/util/ArrayList" "size" "I" (.int (1 : Int32)) := ((((f34_2.ext E38).ext E39).keep K40 nin0).keep K41 (ninS (Nat.ne_of_lt (Nat.lt_of_lt_of_le (Nat.le_trans (Nat.le_trans (Nat.le_trans (Nat.le_trans (Nat.le_trans (Nat.le_trans A28.lt K29.1) E30.1) E31.1) K32.1) K33.1) K34.1) (Nat.le_of_eq g38.symm))) nin0))
    have c45 : Fld Z T41.heap b28 "java/util/AbstractList" "modCount" "I" (.int ((0 : Int32) + (1 : Int32))) := ((((f34_3.ext E38).ext E39).keep K40 nin0).keep K41 (ninS (Nat.ne_of_lt (Nat.lt_of_lt_of_le (Nat.le_trans (Nat.le_trans (Nat.le_trans (Nat.le_trans (Nat.le_trans (Nat.le_trans A28.lt K29.1) E30.1) E31.1) K32.1) K33.1) K34.1) (Nat.le_of_eq g38.symm))) nin0))
    have c46 : Arv Z T41.heap b34 kb34 (.object "java/lang/Object") (10 : Int32) [(.ref b30), .null, .null, .null, .null, .null, .null, .null, .null, .null] .null := ((((f34_5.ext E38).ext E39).keep K40 nin0).keep K41 (ninS (Nat.ne_of_lt (Nat.lt_of_lt_of_le f34_5.lt (Nat.le_of_eq g38.symm))) nin0))
    obtain ⟨_, T42, L42, X42, ⟨rfl, M42, K42, f42_0, f42_1, f42_2, f42_3, f42_4, f42_5, f42_6⟩, st42⟩ := callFace X41 hx hZ39 hown39 (W_ hw 75 rfl) (W_ hw 76 rfl) (mvT hZ39 (W_ hw 77 rfl)) (W_ hw 78 rfl) (W_ hw 79 rfl) (W_ hw 80 rfl) (W_ hw 81 rfl) (W_ hw 82 rfl) (W_ hw 3 rfl) (W_ hw 83 rfl) (by decide) (argsL := [(.ref b38)]) (rest := []) (own_m16 l Z a0 hw [] b28 b38 ((0 : Int32) + (1 : Int32)) aD kD b34 kb34 b30 T41.heap n0 (((((((((((O0.ext E28).keep K29 (allS gn28 all0)).ext E30).ext E31).keep K32 all0).keep K33 (allS gn30 all0)).keep K34 (allS gn28 all0)).ext E38).ext E39).keep K40 all0).keep K41 (allS gn38 all0)) p34_0 (Nat.ne_of_lt (Nat.lt_of_lt_of_le (Nat.le_trans (Nat.le_trans (Nat.le_trans (Nat.le_trans (Nat.le_trans A28.lt K29.1) E30.1) E31.1) K32.1) K33.1) z34_0)) (Ne.symm (Nat.ne_of_lt (Nat.lt_of_lt_of_le f34_5.lt (Nat.le_of_eq g38.symm)))) gn28 gn34_0 ((((f34_0.ext E38).ext E39).keep K40).keep K41) c43 c44 c45 f41_0 c46 ((((f34_6.ext E38).ext E39).keep K40).keep K41)) rfl ((((f34_0.ext E38).ext E39).keep K40).keep K41) (lenOf own_pd26 rfl) (pc := 62) (Ls := #[lv_ x1, s_, lv_ x2, s_, lv_ x3, s_, iv x4, iv (2 : Int32), rv b28, u_]) (st := [(.ref b38), (.ref b28)]) rfl (by rw [hml]; rfl) (hb hby at_62) (W := 0) (Nat.le_of_eq rfl) (by decide) (by decide) (by decide) (by decide)
    have N42 := Fr.app N41 M42
    refine Goes.via (B := T42.setTop (mkF m 67 #[lv_ x1, s_, lv_ x2, s_, lv_ x3, s_, iv x4, iv (2 : Int32), rv b28, u_] [(.int (1 : Int32))])) (fun t k => st42 _ k) ?_
    refine Gv T42 68 [] (fun t k => XS.pop X42.here hx rfl (hb hby at_67) rfl rfl k) ?_
    refine Gv T42 70 [(.int (2 : Int32))] (fun t k => XS.iload X42.here hx rfl (hb hby at_68) rfl k) ?_
    refine Gv T42 71 [(.int (3 : Int32)), (.int (2 : Int32))] (fun t k => XS.iconst X42.here hx rfl (hb hby at_70) k) ?_
    refine Gv T42 96 [] (fun t k => XS.icmpYes X42.here hx rfl (pc0 := 71) (pc' := 96) rfl (hb hby at_71) rfl (XT.ii_lt_t (by decide)) (by decide) (by decide) k) ?_
    obtain ⟨T47, h47, X47, e47, E47, A47, D47, U47, st47⟩ := newO X42 hx hZ39 hown39 (W_ hw 112 rfl) (W_ hw 113 rfl) (W_ hw 114 rfl) rfl (g := (mkF m 96 #[lv_ x1, s_, lv_ x2, s_, lv_ x3, s_, iv x4, iv (2 : Int32), rv b28, u_] [])) rfl (hb hby at_96) (by decide) (by decide)
    obtain ⟨b47, g47⟩ : ∃ z, z = T42.heap.size := ⟨_, rfl⟩
    rw [← g47] at A47 D47 U47 st47
    have gn47 : n0 ≤ b47 := Nat.le_trans (old_le ((((((((((((O0.ext E28).keep K29 (allS gn28 all0)).ext E30).ext E31).keep K32 all0).keep K33 (allS gn30 all0)).keep K34 (allS gn28 all0)).ext E38).ext E39).keep K40 all0).keep K41 (allS gn38 all0)).keep K42 (allS gn28 (allS gn34_0 all0)))) (Nat.le_of_eq g47.symm)
    have F47_pages : Fld Z h47 b47 "com/example/wakenitz/wakenitz/measure/ScoreSheet" "pages" "Ljava/util/List;" .null := D47 (Or.inr (W_ hw 212 rfl)) (ty := (.object "java/util/List")) (by decide)
    refine Goes.via (B := T47.setTop (mkF m 99 #[lv_ x1, s_, lv_ x2, s_, lv_ x3, s_, iv x4, iv (2 : Int32), rv b28, u_] [(.ref b47)])) (fun t k => st47 _ k) ?_
    refine Gv T47 100 [(.ref b47), (.ref b47)] (fun t k => XS.dup X47.here hx rfl (hb hby at_99) rfl rfl k) ?_
    refine Gv T47 102 [(.ref b28), (.ref b47), (.ref b47)] (fun t k => XS.aload X47.here hx rfl (hb hby at_100) rfl rfl k) ?_
    have c49 : Exa Z h47 b30 "com/example/wakenitz/wakenitz/measure/ScoreSheet$PageScore" := ((((((f34_4.ext E38).ext E39).keep K40).keep K41).keep K42).ext E47)
    obtain ⟨_, T48, L48, X48, ⟨r48, rfl, M48, K48, z48_0, f48_0, f48_1, f48_2, f48_3, f48_4⟩, st48⟩ := callInit X47 hx hZ39 rfl hown39 (W_ hw 115 rfl) (W_ hw 116 rfl) (W_ hw 114 rfl) (W_ hw 117 rfl) (by decide) (argsL := [(.ref b28)]) (rest := [(.ref b47)]) (own_m48 l Z a0 hw [] b47 b28 b34 kb34 (((0 : Int32) + (1 : Int32)) + (1 : Int32)) b30 b38 mr h47 n0 (((((((((((((O0.ext E28).keep K29 (allS gn28 all0)).ext E30).ext E31).keep K32 all0).keep K33 (allS gn30 all0)).keep K34 (allS gn28 all0)).ext E38).ext E39).keep K40 all0).keep K41 (allS gn38 all0)).keep K42 (allS gn28 (allS gn34_0 all0))).ext E47) Mi gn47 A47 F47_pages (f42_0.ext E47) (f42_1.ext E47) (f42_2.ext E47) (f42_3.ext E47) (f42_5.ext E47) (f42_6.ext E47) c49 (f42_4.ext E47)) e47 (lenOf own_pd27 rfl) (pc := 102) (Ls := #[lv_ x1, s_, lv_ x2, s_, lv_ x3, s_, iv x4, iv (2 : Int32), rv b28, u_]) (st := [(.ref b28), (.ref b47), (.ref b47)]) rfl (by rw [hml]; rfl) (hb hby at_102) (W := 1) (Nat.le_of_eq rfl) (by decide) (by decide) (by decide) (by decide)
    have N48 := Fr.app N42 M48
    have gn48_0 : n0 ≤ r48 := Nat.le_trans (old_le (((((((((((((O0.ext E28).keep K29 (allS gn28 all0)).ext E30).ext E31).keep K32 all0).keep K33 (allS gn30 all0)).keep K34 (allS gn28 all0)).ext E38).ext E39).keep K40 all0).keep K41 (allS gn38 all0)).keep K42 (allS gn28 (allS gn34_0 all0))).ext E47)) z48_0
    refine Goes.via (B := T48.setTop (mkF m 105 #[lv_ x1, s_, lv_ x2, s_, lv_ x3, s_, iv x4, iv (2 : Int32), rv b28, u_] [(.ref b47)])) (fun t k => st48 _ k) ?_
    have c51 : Fld Z T48.heap b30 "com/example/wakenitz/wakenitz/measure/ScoreSheet$PageScore" "score" "Lcom/example/wakenitz/wakenitz/measure/Score;" (.ref r32) := ((((((((f33_1.keep K34 (ninS (Ne.symm (Nat.ne_of_lt (Nat.lt_of_lt_of_le (Nat.le_trans A28.lt K29.1) (Nat.le_of_eq g30.symm)))) nin0)).ext E38).ext E39).keep K40 nin0).keep K41 (ninS (Nat.ne_of_lt (Nat.lt_of_lt_of_le (Nat.le_trans (Nat.le_trans (Nat.le_trans (Nat.le_trans A30.lt E31.1) K32.1) K33.1) K34.1) (Nat.le_of_eq g38.symm))) nin0)).keep K42 (ninS (Ne.symm (Nat.ne_of_lt (Nat.lt_of_lt_of_le (Nat.le_trans A28.lt K29.1) (Nat.le_of_eq g30.symm)))) (ninS (Nat.ne_of_lt (Nat.lt_of_lt_of_le (Nat.le_trans (Nat.le_trans (Nat.le_trans A30.lt E31.1) K32.1) K33.1) z34_0)) nin0))).ext E47).keep K48 (ninS (Nat.ne_of_lt (Nat.lt_of_lt_of_le (Nat.le_trans (Nat.le_trans (Nat.le_trans (Nat.le_trans (Nat.le_trans (Nat.le_trans (Nat.le_trans (Nat.le_trans (Nat.le_trans A30.lt E31.1) K32.1) K33.1) K34.1) E38.1) E39.1) K40.1) K41.1) K42.1) (Nat.le_of_eq g47.symm))) nin0))
    have c52 : Exa Z T48.heap r32 "com/example/wakenitz/wakenitz/measure/Score" := (((((((((f32_0.keep K33).keep K34).ext E38).ext E39).keep K40).keep K41).keep K42).ext E47).keep K48)
    have c53 : Fld Z T48.heap r32 "com/example/wakenitz/wakenitz/measure/Score" "precision" "D" (.double (own_d (own_fig x1 (0 : Int32)))) := (((((((((f32_1.keep K33 (ninS (Ne.symm (Nat.ne_of_lt (Nat.lt_of_lt_of_le (Nat.le_trans A30.lt E31.1) z32_0))) nin0)).keep K34 (ninS (Ne.symm (Nat.ne_of_lt (Nat.lt_of_lt_of_le (Nat.le_trans (Nat.le_trans (Nat.le_trans A28.lt K29.1) E30.1) E31.1) z32_0))) nin0)).ext E38).ext E39).keep K40 nin0).keep K41 (ninS (Nat.ne_of_lt (Nat.lt_of_lt_of_le (Nat.le_trans (Nat.le_trans f32_0.lt K33.1) K34.1) (Nat.le_of_eq g38.symm))) nin0)).keep K42 (ninS (Ne.symm (Nat.ne_of_lt (Nat.lt_of_lt_of_le (Nat.le_trans (Nat.le_trans (Nat.le_trans A28.lt K29.1) E30.1) E31.1) z32_0))) (ninS (Nat.ne_of_lt (Nat.lt_of_lt_of_le (Nat.le_trans f32_0.lt K33.1) z34_0)) nin0))).ext E47).keep K48 (ninS (Nat.ne_of_lt (Nat.lt_of_lt_of_le (Nat.le_trans (Nat.le_trans (Nat.le_trans (Nat.le_trans (Nat.le_trans (Nat.le_trans (Nat.le_trans f32_0.lt K33.1) K34.1) E38.1) E39.1) K40.1) K41.1) K42.1) (Nat.le_of_eq g47.symm))) nin0))
    have c54 : Fld Z T48.heap r32 "com/example/wakenitz/wakenitz/measure/Score" "recall" "D" (.double (own_d (own_fig x1 (1 : Int32)))) := (((((((((f32_2.keep K33 (ninS (Ne.symm (Nat.ne_of_lt (Nat.lt_of_lt_of_le (Nat.le_trans A30.lt E31.1) z32_0))) nin0)).keep K34 (ninS (Ne.symm (Nat.ne_of_lt (Nat.lt_of_lt_of_le (Nat.le_trans (Nat.le_trans (Nat.le_trans A28.lt K29.1) E30.1) E31.1) z32_0))) nin0)).ext E38).ext E39).keep K40 nin0).keep K41 (ninS (Nat.ne_of_lt (Nat.lt_of_lt_of_le (Nat.le_trans (Nat.le_trans f32_0.lt K33.1) K34.1) (Nat.le_of_eq g38.symm))) nin0)).keep K42 (ninS (Ne.symm (Nat.ne_of_lt (Nat.lt_of_lt_of_le (Nat.le_trans (Nat.le_trans (Nat.le_trans A28.lt K29.1) E30.1) E31.1) z32_0))) (ninS (Nat.ne_of_lt (Nat.lt_of_lt_of_le (Nat.le_trans f32_0.lt K33.1) z34_0)) nin0))).ext E47).keep K48 (ninS (Nat.ne_of_lt (Nat.lt_of_lt_of_le (Nat.le_trans (Nat.le_trans (Nat.le_trans (Nat.le_trans (Nat.le_trans (Nat.le_trans (Nat.le_trans f32_0.lt K33.1) K34.1) E38.1) E39.1) K40.1) K41.1) K42.1) (Nat.le_of_eq g47.symm))) nin0))
    have c55 : Fld Z T48.heap r32 "com/example/wakenitz/wakenitz/measure/Score" "f1" "D" (.double (own_d (own_fig x1 (2 : Int32)))) := (((((((((f32_3.keep K33 (ninS (Ne.symm (Nat.ne_of_lt (Nat.lt_of_lt_of_le (Nat.le_trans A30.lt E31.1) z32_0))) nin0)).keep K34 (ninS (Ne.symm (Nat.ne_of_lt (Nat.lt_of_lt_of_le (Nat.le_trans (Nat.le_trans (Nat.le_trans A28.lt K29.1) E30.1) E31.1) z32_0))) nin0)).ext E38).ext E39).keep K40 nin0).keep K41 (ninS (Nat.ne_of_lt (Nat.lt_of_lt_of_le (Nat.le_trans (Nat.le_trans f32_0.lt K33.1) K34.1) (Nat.le_of_eq g38.symm))) nin0)).keep K42 (ninS (Ne.symm (Nat.ne_of_lt (Nat.lt_of_lt_of_le (Nat.le_trans (Nat.le_trans (Nat.le_trans A28.lt K29.1) E30.1) E31.1) z32_0))) (ninS (Nat.ne_of_lt (Nat.lt_of_lt_of_le (Nat.le_trans f32_0.lt K33.1) z34_0)) nin0))).ext E47).keep K48 (ninS (Nat.ne_of_lt (Nat.lt_of_lt_of_le (Nat.le_trans (Nat.le_trans (Nat.le_trans (Nat.le_trans (Nat.le_trans (Nat.le_trans (Nat.le_trans f32_0.lt K33.1) K34.1) E38.1) E39.1) K40.1) K41.1) K42.1) (Nat.le_of_eq g47.symm))) nin0))
    have c56 : Fld Z T48.heap r32 "com/example/wakenitz/wakenitz/measure/Score" "similarity" "D" (.double (own_d (own_fig x1 (3 : Int32)))) := (((((((((f32_4.keep K33 (ninS (Ne.symm (Nat.ne_of_lt (Nat.lt_of_lt_of_le (Nat.le_trans A30.lt E31.1) z32_0))) nin0)).keep K34 (ninS (Ne.symm (Nat.ne_of_lt (Nat.lt_of_lt_of_le (Nat.le_trans (Nat.le_trans (Nat.le_trans A28.lt K29.1) E30.1) E31.1) z32_0))) nin0)).ext E38).ext E39).keep K40 nin0).keep K41 (ninS (Nat.ne_of_lt (Nat.lt_of_lt_of_le (Nat.le_trans (Nat.le_trans f32_0.lt K33.1) K34.1) (Nat.le_of_eq g38.symm))) nin0)).keep K42 (ninS (Ne.symm (Nat.ne_of_lt (Nat.lt_of_lt_of_le (Nat.le_trans (Nat.le_trans (Nat.le_trans A28.lt K29.1) E30.1) E31.1) z32_0))) (ninS (Nat.ne_of_lt (Nat.lt_of_lt_of_le (Nat.le_trans f32_0.lt K33.1) z34_0)) nin0))).ext E47).keep K48 (ninS (Nat.ne_of_lt (Nat.lt_of_lt_of_le (Nat.le_trans (Nat.le_trans (Nat.le_trans (Nat.le_trans (Nat.le_trans (Nat.le_trans (Nat.le_trans f32_0.lt K33.1) K34.1) E38.1) E39.1) K40.1) K41.1) K42.1) (Nat.le_of_eq g47.symm))) nin0))
    have c57 : Fld Z T48.heap b38 "com/example/wakenitz/wakenitz/measure/ScoreSheet$PageScore" "score" "Lcom/example/wakenitz/wakenitz/measure/Score;" (.ref r40) := (((f41_1.keep K42 (ninS (Ne.symm (Nat.ne_of_lt (Nat.lt_of_lt_of_le (Nat.le_trans (Nat.le_trans (Nat.le_trans (Nat.le_trans (Nat.le_trans (Nat.le_trans A28.lt K29.1) E30.1) E31.1) K32.1) K33.1) K34.1) (Nat.le_of_eq g38.symm)))) (ninS (Ne.symm (Nat.ne_of_lt (Nat.lt_of_lt_of_le f34_5.lt (Nat.le_of_eq g38.symm)))) nin0))).ext E47).keep K48 (ninS (Nat.ne_of_lt (Nat.lt_of_lt_of_le (Nat.le_trans (Nat.le_trans (Nat.le_trans (Nat.le_trans A38.lt E39.1) K40.1) K41.1) K42.1) (Nat.le_of_eq g47.symm))) nin0))
    have c58 : Fld Z T48.heap r40 "com/example/wakenitz/wakenitz/measure/Score" "precision" "D" (.double (own_d (own_fig x2 (0 : Int32)))) := ((((f40_1.keep K41 (ninS (Ne.symm (Nat.ne_of_lt (Nat.lt_of_lt_of_le (Nat.le_trans A38.lt E39.1) z40_0))) nin0)).keep K42 (ninS (Ne.symm (Nat.ne_of_lt (Nat.lt_of_lt_of_le (Nat.le_trans (Nat.le_trans (Nat.le_trans (Nat.le_trans (Nat.le_trans (Nat.le_trans (Nat.le_trans (Nat.le_trans A28.lt K29.1) E30.1) E31.1) K32.1) K33.1) K34.1) E38.1) E39.1) z40_0))) (ninS (Ne.symm (Nat.ne_of_lt (Nat.lt_of_lt_of_le (Nat.le_trans (Nat.le_trans f34_5.lt E38.1) E39.1) z40_0))) nin0))).ext E47).keep K48 (ninS (Nat.ne_of_lt (Nat.lt_of_lt_of_le (Nat.le_trans (Nat.le_trans f40_0.lt K41.1) K42.1) (Nat.le_of_eq g47.symm))) nin0))
    have c59 : Fld Z T48.heap r40 "com/example/wakenitz/wakenitz/measure/Score" "recall" "D" (.double (own_d (own_fig x2 (1 : Int32)))) := ((((f40_2.keep K41 (ninS (Ne.symm (Nat.ne_of_lt (Nat.lt_of_lt_of_le (Nat.le_trans A38.lt E39.1) z40_0))) nin0)).keep K42 (ninS (Ne.symm (Nat.ne_of_lt (Nat.lt_of_lt_of_le (Nat.le_trans (Nat.le_trans (Nat.le_trans (Nat.le_trans (Nat.le_trans (Nat.le_trans (Nat.le_trans (Nat.le_trans A28.lt K29.1) E30.1) E31.1) K32.1) K33.1) K34.1) E38.1) E39.1) z40_0))) (ninS (Ne.symm (Nat.ne_of_lt (Nat.lt_of_lt_of_le (Nat.le_trans (Nat.le_trans f34_5.lt E38.1) E39.1) z40_0))) nin0))).ext E47).keep K48 (ninS (Nat.ne_of_lt (Nat.lt_of_lt_of_le (Nat.le_trans (Nat.le_trans f40_0.lt K41.1) K42.1) (Nat.le_of_eq g47.symm))) nin0))
    have c60 : Fld Z T48.heap r40 "com/example/wakenitz/wakenitz/measure/Score" "f1" "D" (.double (own_d (own_fig x2 (2 : Int32)))) := ((((f40_3.keep K41 (ninS (Ne.symm (Nat.ne_of_lt (Nat.lt_of_lt_of_le (Nat.le_trans A38.lt E39.1) z40_0))) nin0)).keep K42 (ninS (Ne.symm (Nat.ne_of_lt (Nat.lt_of_lt_of_le (Nat.le_trans (Nat.le_trans (Nat.le_trans (Nat.le_trans (Nat.le_trans (Nat.le_trans (Nat.le_trans (Nat.le_trans A28.lt K29.1) E30.1) E31.1) K32.1) K33.1) K34.1) E38.1) E39.1) z40_0))) (ninS (Ne.symm (Nat.ne_of_lt (Nat.lt_of_lt_of_le (Nat.le_trans (Nat.le_trans f34_5.lt E38.1) E39.1) z40_0))) nin0))).ext E47).keep K48 (ninS (Nat.ne_of_lt (Nat.lt_of_lt_of_le (Nat.le_trans (Nat.le_trans f40_0.lt K41.1) K42.1) (Nat.le_of_eq g47.symm))) nin0))
    have c61 : Fld Z T48.heap r40 "com/example/wakenitz/wakenitz/measure/Score" "similarity" "D" (.double (own_d (own_fig x2 (3 : Int32)))) := ((((f40_4.keep K41 (ninS (Ne.symm (Nat.ne_of_lt (Nat.lt_of_lt_of_le (Nat.le_trans A38.lt E39.1) z40_0))) nin0)).keep K42 (ninS (Ne.symm (Nat.ne_of_lt (Nat.lt_of_lt_of_le (Nat.le_trans (Nat.le_trans (Nat.le_trans (Nat.le_trans (Nat.le_trans (Nat.le_trans (Nat.le_trans (Nat.le_trans A28.lt K29.1) E30.1) E31.1) K32.1) K33.1) K34.1) E38.1) E39.1) z40_0))) (ninS (Ne.symm (Nat.ne_of_lt (Nat.lt_of_lt_of_le (Nat.le_trans (Nat.le_trans f34_5.lt E38.1) E39.1) z40_0))) nin0))).ext E47).keep K48 (ninS (Nat.ne_of_lt (Nat.lt_of_lt_of_le (Nat.le_trans (Nat.le_trans f40_0.lt K41.1) K42.1) (Nat.le_of_eq g47.symm))) nin0))
    obtain ⟨_, T50, L50, X50, ⟨r50, rfl, M50, K50, z50_0, f50_0, f50_1, f50_2, f50_3, f50_4⟩, st50⟩ := callVirt X48 hx hZ39 hown39 (W_ hw 213 rfl) (W_ hw 214 rfl) (W_ hw 216 rfl) (notFace_of_selects (args := #[]) (mvT hZ39 (W_ hw 216 rfl))) (W_ hw 215 rfl) (W_ hw 114 rfl) (W_ hw 217 rfl) (by decide) (argsL := []) (rest := []) (own_m76 l Z a0 hw [] b47 r48 b30 b38 em r32 r40 (own_fig x1 (0 : Int32)) (own_fig x1 (1 : Int32)) (own_fig x1 (2 : Int32)) (own_fig x1 (3 : Int32)) (own_fig x2 (0 : Int32)) (own_fig x2 (1 : Int32)) (own_fig x2 (2 : Int32)) (own_fig x2 (3 : Int32)) T48.heap n0 ((((((((((((((O0.ext E28).keep K29 (allS gn28 all0)).ext E30).ext E31).keep K32 all0).keep K33 (allS gn30 all0)).keep K34 (allS gn28 all0)).ext E38).ext E39).keep K40 all0).keep K41 (allS gn38 all0)).keep K42 (allS gn28 (allS gn34_0 all0))).ext E47).keep K48 (allS gn47 all0)) (fun z => absurd (z ▸ hem) (Nat.not_lt.mpr gn38)) (own_figr _ _) (own_figr _ _) (own_figr _ _) (own_figr _ _) (own_figr _ _) (own_figr _ _) (own_figr _ _) (own_figr _ _) O_3 f48_0 f48_1 f48_2 f48_3 f48_4 (c49.keep K48) c51 c52 c53 c54 c55 c56 ((f42_4.ext E47).keep K48) c57 ((((f40_0.keep K41).keep K42).ext E47).keep K48) c58 c59 c60 c61) rfl f48_0 (lenOf own_pd21 rfl) (pc := 105) (Ls := #[lv_ x1, s_, lv_ x2, s_, lv_ x3, s_, iv x4, iv (2 : Int32), rv b28, u_]) (st := [(.ref b47)]) rfl (by rw [hml]; rfl) (hb hby at_105) (W := 0) (Nat.le_of_eq rfl) (by decide) (by decide) (by decide) (by decide)
    have N50 := Fr.app N48 M50
    have gn50_0 : n0 ≤ r50 := Nat.le_trans (old_le ((((((((((((((O0.ext E28).keep K29 (allS gn28 all0)).ext E30).ext E31).keep K32 all0).keep K33 (allS gn30 all0)).keep K34 (allS gn28 all0)).ext E38).ext E39).keep K40 all0).keep K41 (allS gn38 all0)).keep K42 (allS gn28 (allS gn34_0 all0))).ext E47).keep K48 (allS gn47 all0))) z50_0
    refine Goes.via (B := T50.setTop (mkF m 108 #[lv_ x1, s_, lv_ x2, s_, lv_ x3, s_, iv x4, iv (2 : Int32), rv b28, u_] [(.ref r50)])) (fun t k => st50 _ k) ?_
    refine Gv T50 110 [] (fun t k => XS.astore X50.here hx rfl (hb hby at_108) rfl rfl (l' := #[lv_ x1, s_, lv_ x2, s_, lv_ x3, s_, iv x4, iv (2 : Int32), rv b28, rv r50]) rfl k) ?_
    refine Gv T50 112 [(.ref r50)] (fun t k => XS.aload X50.here hx rfl (hb hby at_110) rfl rfl k) ?_
    obtain ⟨_, T62, L62, X62, ⟨rfl, M62, K62⟩, st62⟩ := callVirt X50 hx hZ39 hown39 (W_ hw 309 rfl) (W_ hw 282 rfl) (W_ hw 284 rfl) (notFace_of_selects (args := #[]) (mvT hZ39 (W_ hw 284 rfl))) (W_ hw 283 rfl) (W_ hw 44 rfl) (W_ hw 285 rfl) (by decide) (argsL := []) (rest := []) (own_m71 l Z a0 hw [] r50 (own_q (2 : Int32) ((own_fig x1 (0 : Int32)) + (own_fig x2 (0 : Int32)))) T50.heap n0 (((((((((((((((O0.ext E28).keep K29 (allS gn28 all0)).ext E30).ext E31).keep K32 all0).keep K33 (allS gn30 all0)).keep K34 (allS gn28 all0)).ext E38).ext E39).keep K40 all0).keep K41 (allS gn38 all0)).keep K42 (allS gn28 (allS gn34_0 all0))).ext E47).keep K48 (allS gn47 all0)).keep K50 all0) f50_0 f50_1) rfl f50_0 (lenOf own_pd22 rfl) (pc := 112) (Ls := #[lv_ x1, s_, lv_ x2, s_, lv_ x3, s_, iv x4, iv (2 : Int32), rv b28, rv r50]) (st := [(.ref r50)]) rfl (by rw [hml]; rfl) (hb hby at_112) (W := 0) (Nat.le_of_eq rfl) (by decide) (by decide) (by decide) (by decide)
    have N62 := Fr.app N50 M62
    refine Goes.via (B := T62.setTop (mkF m 115 #[lv_ x1, s_, lv_ x2, s_, lv_ x3, s_, iv x4, iv (2 : Int32), rv b28, rv r50] [(.double (own_q (2 : Int32) ((own_fig x1 (0 : Int32)) + (own_fig x2 (0 : Int32)))))])) (fun t k => st62 _ k) ?_
    refine Gv T62 116 [(.long x1), (.double (own_q (2 : Int32) ((own_fig x1 (0 : Int32)) + (own_fig x2 (0 : Int32)))))] (fun t k => XS.lloadN X62.here hx rfl (hb hby at_115) rfl k) ?_
    refine Gv T62 117 [(.long x2), (.long x1), (.double (own_q (2 : Int32) ((own_fig x1 (0 : Int32)) + (own_fig x2 (0 : Int32)))))] (fun t k => XS.lloadN X62.here hx rfl (hb hby at_116) rfl k) ?_
    refine Gv T62 119 [(.long x3), (.long x2), (.long x1), (.double (own_q (2 : Int32) ((own_fig x1 (0 : Int32)) + (own_fig x2 (0 : Int32)))))] (fun t k => XS.lload X62.here hx rfl (hb hby at_117) rfl k) ?_
    refine Gv T62 121 [(.int (2 : Int32)), (.long x3), (.long x2), (.long x1), (.double (own_q (2 : Int32) ((own_fig x1 (0 : Int32)) + (own_fig x2 (0 : Int32)))))] (fun t k => XS.iload X62.here hx rfl (hb hby at_119) rfl k) ?_
    refine Gv T62 122 [(.int (0 : Int32)), (.int (2 : Int32)), (.long x3), (.long x2), (.long x1), (.double (own_q (2 : Int32) ((own_fig x1 (0 : Int32)) + (own_fig x2 (0 : Int32)))))] (fun t k => XS.iconst X62.here hx rfl (hb hby at_121) k) ?_
    obtain ⟨_, T63, L63, X63, ⟨rfl, M63, K63⟩, st63⟩ := callStatic X62 hx hZ39 hown39 (W_ hw 310 rfl) (W_ hw 311 rfl) (W_ hw 40 rfl) (W_ hw 312 rfl) (by decide) (argsL := [(.long x1), (.long x2), (.long x3), (.int (2 : Int32)), (.int (0 : Int32))]) (rest := [(.double (own_q (2 : Int32) ((own_fig x1 (0 : Int32)) + (own_fig x2 (0 : Int32)))))]) (own_m81 l Z a0 hw [] x1 x2 x3 (0 : Int32) T50.heap n0 (((((((((((((((O0.ext E28).keep K29 (allS gn28 all0)).ext E30).ext E31).keep K32 all0).keep K33 (allS gn30 all0)).keep K34 (allS gn28 all0)).ext E38).ext E39).keep K40 all0).keep K41 (allS gn38 all0)).keep K42 (allS gn28 (allS gn34_0 all0))).ext E47).keep K48 (allS gn47 all0)).keep K50 all0) ) K62 (lenOf own_pd28 rfl) (pc := 122) (Ls := #[lv_ x1, s_, lv_ x2, s_, lv_ x3, s_, iv x4, iv (2 : Int32), rv b28, rv r50]) (st := [(.int (0 : Int32)), (.int (2 : Int32)), (.long x3), (.long x2), (.long x1), (.double (own_q (2 : Int32) ((own_fig x1 (0 : Int32)) + (own_fig x2 (0 : Int32)))))]) rfl (by rw [hml]; rfl) (hb hby at_122) (W := 2) (Nat.le_of_eq rfl) (by decide) (by decide) (by decide) (by decide)
    have N63 := Fr.app N62 M63
    refine Goes.via (B := T63.setTop (mkF m 125 #[lv_ x1, s_, lv_ x2, s_, lv_ x3, s_, iv x4, iv (2 : Int32), rv b28, rv r50] [(.double (own_q (2 : Int32) ((own_fig x1 (0 : Int32)) + (own_fig x2 (0 : Int32))))), (.double (own_q (2 : Int32) ((own_fig x1 (0 : Int32)) + (own_fig x2 (0 : Int32)))))])) (fun t k => st63 _ k) ?_
    refine Gv T63 126 [(.int (0 : Int32))] (fun t k => XS.dcmpS X63.here hx rfl (hb hby at_125) rfl (own_qs (own_up (own_sum (a := 16) (b := 16) (own_figr _ _) (own_figr _ _) (by decide)) (by decide)) (by decide)).2 k) ?_
    refine Gv T63 129 [] (fun t k => XS.ifNo X63.here hx rfl (hb hby at_126) rfl (XT.i0_ne_f rfl) k) ?_
    refine Gv T63 131 [(.ref r50)] (fun t k => XS.aload X63.here hx rfl (hb hby at_129) rfl rfl k) ?_
    obtain ⟨_, T64, L64, X64, ⟨rfl, M64, K64⟩, st64⟩ := callVirt X63 hx hZ39 hown39 (W_ hw 316 rfl) (W_ hw 287 rfl) (W_ hw 289 rfl) (notFace_of_selects (args := #[]) (mvT hZ39 (W_ hw 289 rfl))) (W_ hw 288 rfl) (W_ hw 44 rfl) (W_ hw 290 rfl) (by decide) (argsL := []) (rest := []) (own_m72 l Z a0 hw [] r50 (own_q (2 : Int32) ((own_fig x1 (1 : Int32)) + (own_fig x2 (1 : Int32)))) T50.heap n0 (((((((((((((((O0.ext E28).keep K29 (allS gn28 all0)).ext E30).ext E31).keep K32 all0).keep K33 (allS gn30 all0)).keep K34 (allS gn28 all0)).ext E38).ext E39).keep K40 all0).keep K41 (allS gn38 all0)).keep K42 (allS gn28 (allS gn34_0 all0))).ext E47).keep K48 (allS gn47 all0)).keep K50 all0) f50_0 f50_2) K63 f50_0 (lenOf own_pd22 rfl) (pc := 131) (Ls := #[lv_ x1, s_, lv_ x2, s_, lv_ x3, s_, iv x4, iv (2 : Int32), rv b28, rv r50]) (st := [(.ref r50)]) rfl (by rw [hml]; rfl) (hb hby at_131) (W := 0) (Nat.le_of_eq rfl) (by decide) (by decide) (by decide) (by decide)
    have N64 := Fr.app N63 M64
    refine Goes.via (B := T64.setTop (mkF m 134 #[lv_ x1, s_, lv_ x2, s_, lv_ x3, s_, iv x4, iv (2 : Int32), rv b28, rv r50] [(.double (own_q (2 : Int32) ((own_fig x1 (1 : Int32)) + (own_fig x2 (1 : Int32)))))])) (fun t k => st64 _ k) ?_
    refine Gv T64 135 [(.long x1), (.double (own_q (2 : Int32) ((own_fig x1 (1 : Int32)) + (own_fig x2 (1 : Int32)))))] (fun t k => XS.lloadN X64.here hx rfl (hb hby at_134) rfl k) ?_
    refine Gv T64 136 [(.long x2), (.long x1), (.double (own_q (2 : Int32) ((own_fig x1 (1 : Int32)) + (own_fig x2 (1 : Int32)))))] (fun t k => XS.lloadN X64.here hx rfl (hb hby at_135) rfl k) ?_
    refine Gv T64 138 [(.long x3), (.long x2), (.long x1), (.double (own_q (2 : Int32) ((own_fig x1 (1 : Int32)) + (own_fig x2 (1 : Int32)))))] (fun t k => XS.lload X64.here hx rfl (hb hby at_136) rfl k) ?_
    refine Gv T64 140 [(.int (2 : Int32)), (.long x3), (.long x2), (.long x1), (.double (own_q (2 : Int32) ((own_fig x1 (1 : Int32)) + (own_fig x2 (1 : Int32)))))] (fun t k => XS.iload X64.here hx rfl (hb hby at_138) rfl k) ?_
    refine Gv T64 141 [(.int (1 : Int32)), (.int (2 : Int32)), (.long x3), (.long x2), (.long x1), (.double (own_q (2 : Int32) ((own_fig x1 (1 : Int32)) + (own_fig x2 (1 : Int32)))))] (fun t k => XS.iconst X64.here hx rfl (hb hby at_140) k) ?_
    obtain ⟨_, T65, L65, X65, ⟨rfl, M65, K65⟩, st65⟩ := callStatic X64 hx hZ39 hown39 (W_ hw 310 rfl) (W_ hw 311 rfl) (W_ hw 40 rfl) (W_ hw 312 rfl) (by decide) (argsL := [(.long x1), (.long x2), (.long x3), (.int (2 : Int32)), (.int (1 : Int32))]) (rest := [(.double (own_q (2 : Int32) ((own_fig x1 (1 : Int32)) + (own_fig x2 (1 : Int32)))))]) (own_m81 l Z a0 hw [] x1 x2 x3 (1 : Int32) T50.heap n0 (((((((((((((((O0.ext E28).keep K29 (allS gn28 all0)).ext E30).ext E31).keep K32 all0).keep K33 (allS gn30 all0)).keep K34 (allS gn28 all0)).ext E38).ext E39).keep K40 all0).keep K41 (allS gn38 all0)).keep K42 (allS gn28 (allS gn34_0 all0))).ext E47).keep K48 (allS gn47 all0)).keep K50 all0) ) K64 (lenOf own_pd28 rfl) (pc := 141) (Ls := #[lv_ x1, s_, lv_ x2, s_, lv_ x3, s_, iv x4, iv (2 : Int32), rv b28, rv r50]) (st := [(.int (1 : Int32)), (.int (2 : Int32)), (.long x3), (.long x2), (.long x1), (.double (own_q (2 : Int32) ((own_fig x1 (1 : Int32)) + (own_fig x2 (1 : Int32)))))]) rfl (by rw [hml]; rfl) (hb hby at_141) (W := 2) (Nat.le_of_eq rfl) (by decide) (by decide) (by decide) (by decide)
    have N65 := Fr.app N64 M65
    refine Goes.via (B := T65.setTop (mkF m 144 #[lv_ x1, s_, lv_ x2, s_, lv_ x3, s_, iv x4, iv (2 : Int32), rv b28, rv r50] [(.double (own_q (2 : Int32) ((own_fig x1 (1 : Int32)) + (own_fig x2 (1 : Int32))))), (.double (own_q (2 : Int32) ((own_fig x1 (1 : Int32)) + (own_fig x2 (1 : Int32)))))])) (fun t k => st65 _ k) ?_
    refine Gv T65 145 [(.int (0 : Int32))] (fun t k => XS.dcmpS X65.here hx rfl (hb hby at_144) rfl (own_qs (own_up (own_sum (a := 16) (b := 16) (own_figr _ _) (own_figr _ _) (by decide)) (by decide)) (by decide)).2 k) ?_
    refine Gv T65 148 [] (fun t k => XS.ifNo X65.here hx rfl (hb hby at_145) rfl (XT.i0_ne_f rfl) k) ?_
    refine Gv T65 150 [(.ref r50)] (fun t k => XS.aload X65.here hx rfl (hb hby at_148) rfl rfl k) ?_
    obtain ⟨_, T66, L66, X66, ⟨rfl, M66, K66⟩, st66⟩ := callVirt X65 hx hZ39 hown39 (W_ hw 317 rfl) (W_ hw 292 rfl) (W_ hw 294 rfl) (notFace_of_selects (args := #[]) (mvT hZ39 (W_ hw 294 rfl))) (W_ hw 293 rfl) (W_ hw 44 rfl) (W_ hw 295 rfl) (by decide) (argsL := []) (rest := []) (own_m73 l Z a0 hw [] r50 (own_q (2 : Int32) ((own_fig x1 (2 : Int32)) + (own_fig x2 (2 : Int32)))) T50.heap n0 (((((((((((((((O0.ext E28).keep K29 (allS gn28 all0)).ext E30).ext E31).keep K32 all0).keep K33 (allS gn30 all0)).keep K34 (allS gn28 all0)).ext E38).ext E39).keep K40 all0).keep K41 (allS gn38 all0)).keep K42 (allS gn28 (allS gn34_0 all0))).ext E47).keep K48 (allS gn47 all0)).keep K50 all0) f50_0 f50_3) K65 f50_0 (lenOf own_pd22 rfl) (pc := 150) (Ls := #[lv_ x1, s_, lv_ x2, s_, lv_ x3, s_, iv x4, iv (2 : Int32), rv b28, rv r50]) (st := [(.ref r50)]) rfl (by rw [hml]; rfl) (hb hby at_150) (W := 0) (Nat.le_of_eq rfl) (by decide) (by decide) (by decide) (by decide)
    have N66 := Fr.app N65 M66
    refine Goes.via (B := T66.setTop (mkF m 153 #[lv_ x1, s_, lv_ x2, s_, lv_ x3, s_, iv x4, iv (2 : Int32), rv b28, rv r50] [(.double (own_q (2 : Int32) ((own_fig x1 (2 : Int32)) + (own_fig x2 (2 : Int32)))))])) (fun t k => st66 _ k) ?_
    refine Gv T66 154 [(.long x1), (.double (own_q (2 : Int32) ((own_fig x1 (2 : Int32)) + (own_fig x2 (2 : Int32)))))] (fun t k => XS.lloadN X66.here hx rfl (hb hby at_153) rfl k) ?_
    refine Gv T66 155 [(.long x2), (.long x1), (.double (own_q (2 : Int32) ((own_fig x1 (2 : Int32)) + (own_fig x2 (2 : Int32)))))] (fun t k => XS.lloadN X66.here hx rfl (hb hby at_154) rfl k) ?_
    refine Gv T66 157 [(.long x3), (.long x2), (.long x1), (.double (own_q (2 : Int32) ((own_fig x1 (2 : Int32)) + (own_fig x2 (2 : Int32)))))] (fun t k => XS.lload X66.here hx rfl (hb hby at_155) rfl k) ?_
    refine Gv T66 159 [(.int (2 : Int32)), (.long x3), (.long x2), (.long x1), (.double (own_q (2 : Int32) ((own_fig x1 (2 : Int32)) + (own_fig x2 (2 : Int32)))))] (fun t k => XS.iload X66.here hx rfl (hb hby at_157) rfl k) ?_
    refine Gv T66 160 [(.int (2 : Int32)), (.int (2 : Int32)), (.long x3), (.long x2), (.long x1), (.double (own_q (2 : Int32) ((own_fig x1 (2 : Int32)) + (own_fig x2 (2 : Int32)))))] (fun t k => XS.iconst X66.here hx rfl (hb hby at_159) k) ?_
    obtain ⟨_, T67, L67, X67, ⟨rfl, M67, K67⟩, st67⟩ := callStatic X66 hx hZ39 hown39 (W_ hw 310 rfl) (W_ hw 311 rfl) (W_ hw 40 rfl) (W_ hw 312 rfl) (by decide) (argsL := [(.long x1), (.long x2), (.long x3), (.int (2 : Int32)), (.int (2 : Int32))]) (rest := [(.double (own_q (2 : Int32) ((own_fig x1 (2 : Int32)) + (own_fig x2 (2 : Int32)))))]) (own_m81 l Z a0 hw [] x1 x2 x3 (2 : Int32) T50.heap n0 (((((((((((((((O0.ext E28).keep K29 (allS gn28 all0)).ext E30).ext E31).keep K32 all0).keep K33 (allS gn30 all0)).keep K34 (allS gn28 all0)).ext E38).ext E39).keep K40 all0).keep K41 (allS gn38 all0)).keep K42 (allS gn28 (allS gn34_0 all0))).ext E47).keep K48 (allS gn47 all0)).keep K50 all0) ) K66 (lenOf own_pd28 rfl) (pc := 160) (Ls := #[lv_ x1, s_, lv_ x2, s_, lv_ x3, s_, iv x4, iv (2 : Int32), rv b28, rv r50]) (st := [(.int (2 : Int32)), (.int (2 : Int32)), (.long x3), (.long x2), (.long x1), (.double (own_q (2 : Int32) ((own_fig x1 (2 : Int32)) + (own_fig x2 (2 : Int32)))))]) rfl (by rw [hml]; rfl) (hb hby at_160) (W := 2) (Nat.le_of_eq rfl) (by decide) (by decide) (by decide) (by decide)
    have N67 := Fr.app N66 M67
    refine Goes.via (B := T67.setTop (mkF m 163 #[lv_ x1, s_, lv_ x2, s_, lv_ x3, s_, iv x4, iv (2 : Int32), rv b28, rv r50] [(.double (own_q (2 : Int32) ((own_fig x1 (2 : Int32)) + (own_fig x2 (2 : Int32))))), (.double (own_q (2 : Int32) ((own_fig x1 (2 : Int32)) + (own_fig x2 (2 : Int32)))))])) (fun t k => st67 _ k) ?_
    refine Gv T67 164 [(.int (0 : Int32))] (fun t k => XS.dcmpS X67.here hx rfl (hb hby at_163) rfl (own_qs (own_up (own_sum (a := 16) (b := 16) (own_figr _ _) (own_figr _ _) (by decide)) (by decide)) (by decide)).2 k) ?_
    refine Gv T67 167 [] (fun t k => XS.ifNo X67.here hx rfl (hb hby at_164) rfl (XT.i0_ne_f rfl) k) ?_
    refine Gv T67 169 [(.ref r50)] (fun t k => XS.aload X67.here hx rfl (hb hby at_167) rfl rfl k) ?_
    obtain ⟨_, T68, L68, X68, ⟨rfl, M68, K68⟩, st68⟩ := callVirt X67 hx hZ39 hown39 (W_ hw 318 rfl) (W_ hw 297 rfl) (W_ hw 299 rfl) (notFace_of_selects (args := #[]) (mvT hZ39 (W_ hw 299 rfl))) (W_ hw 298 rfl) (W_ hw 44 rfl) (W_ hw 300 rfl) (by decide) (argsL := []) (rest := []) (own_m74 l Z a0 hw [] r50 (own_q (2 : Int32) ((own_fig x1 (3 : Int32)) + (own_fig x2 (3 : Int32)))) T50.heap n0 (((((((((((((((O0.ext E28).keep K29 (allS gn28 all0)).ext E30).ext E31).keep K32 all0).keep K33 (allS gn30 all0)).keep K34 (allS gn28 all0)).ext E38).ext E39).keep K40 all0).keep K41 (allS gn38 all0)).keep K42 (allS gn28 (allS gn34_0 all0))).ext E47).keep K48 (allS gn47 all0)).keep K50 all0) f50_0 f50_4) K67 f50_0 (lenOf own_pd22 rfl) (pc := 169) (Ls := #[lv_ x1, s_, lv_ x2, s_, lv_ x3, s_, iv x4, iv (2 : Int32), rv b28, rv r50]) (st := [(.ref r50)]) rfl (by rw [hml]; rfl) (hb hby at_169) (W := 0) (Nat.le_of_eq rfl) (by decide) (by decide) (by decide) (by decide)
    have N68 := Fr.app N67 M68
    refine Goes.via (B := T68.setTop (mkF m 172 #[lv_ x1, s_, lv_ x2, s_, lv_ x3, s_, iv x4, iv (2 : Int32), rv b28, rv r50] [(.double (own_q (2 : Int32) ((own_fig x1 (3 : Int32)) + (own_fig x2 (3 : Int32)))))])) (fun t k => st68 _ k) ?_
    refine Gv T68 173 [(.long x1), (.double (own_q (2 : Int32) ((own_fig x1 (3 : Int32)) + (own_fig x2 (3 : Int32)))))] (fun t k => XS.lloadN X68.here hx rfl (hb hby at_172) rfl k) ?_
    refine Gv T68 174 [(.long x2), (.long x1), (.double (own_q (2 : Int32) ((own_fig x1 (3 : Int32)) + (own_fig x2 (3 : Int32)))))] (fun t k => XS.lloadN X68.here hx rfl (hb hby at_173) rfl k) ?_
    refine Gv T68 176 [(.long x3), (.long x2), (.long x1), (.double (own_q (2 : Int32) ((own_fig x1 (3 : Int32)) + (own_fig x2 (3 : Int32)))))] (fun t k => XS.lload X68.here hx rfl (hb hby at_174) rfl k) ?_
    refine Gv T68 178 [(.int (2 : Int32)), (.long x3), (.long x2), (.long x1), (.double (own_q (2 : Int32) ((own_fig x1 (3 : Int32)) + (own_fig x2 (3 : Int32)))))] (fun t k => XS.iload X68.here hx rfl (hb hby at_176) rfl k) ?_
    refine Gv T68 179 [(.int (3 : Int32)), (.int (2 : Int32)), (.long x3), (.long x2), (.long x1), (.double (own_q (2 : Int32) ((own_fig x1 (3 : Int32)) + (own_fig x2 (3 : Int32)))))] (fun t k => XS.iconst X68.here hx rfl (hb hby at_178) k) ?_
    obtain ⟨_, T69, L69, X69, ⟨rfl, M69, K69⟩, st69⟩ := callStatic X68 hx hZ39 hown39 (W_ hw 310 rfl) (W_ hw 311 rfl) (W_ hw 40 rfl) (W_ hw 312 rfl) (by decide) (argsL := [(.long x1), (.long x2), (.long x3), (.int (2 : Int32)), (.int (3 : Int32))]) (rest := [(.double (own_q (2 : Int32) ((own_fig x1 (3 : Int32)) + (own_fig x2 (3 : Int32)))))]) (own_m81 l Z a0 hw [] x1 x2 x3 (3 : Int32) T50.heap n0 (((((((((((((((O0.ext E28).keep K29 (allS gn28 all0)).ext E30).ext E31).keep K32 all0).keep K33 (allS gn30 all0)).keep K34 (allS gn28 all0)).ext E38).ext E39).keep K40 all0).keep K41 (allS gn38 all0)).keep K42 (allS gn28 (allS gn34_0 all0))).ext E47).keep K48 (allS gn47 all0)).keep K50 all0) ) K68 (lenOf own_pd28 rfl) (pc := 179) (Ls := #[lv_ x1, s_, lv_ x2, s_, lv_ x3, s_, iv x4, iv (2 : Int32), rv b28, rv r50]) (st := [(.int (3 : Int32)), (.int (2 : Int32)), (.long x3), (.long x2), (.long x1), (.double (own_q (2 : Int32) ((own_fig x1 (3 : Int32)) + (own_fig x2 (3 : Int32)))))]) rfl (by rw [hml]; rfl) (hb hby at_179) (W := 2) (Nat.le_of_eq rfl) (by decide) (by decide) (by decide) (by decide)
    have N69 := Fr.app N68 M69
    refine Goes.via (B := T69.setTop (mkF m 182 #[lv_ x1, s_, lv_ x2, s_, lv_ x3, s_, iv x4, iv (2 : Int32), rv b28, rv r50] [(.double (own_q (2 : Int32) ((own_fig x1 (3 : Int32)) + (own_fig x2 (3 : Int32))))), (.double (own_q (2 : Int32) ((own_fig x1 (3 : Int32)) + (own_fig x2 (3 : Int32)))))])) (fun t k => st69 _ k) ?_
    refine Gv T69 183 [(.int (0 : Int32))] (fun t k => XS.dcmpS X69.here hx rfl (hb hby at_182) rfl (own_qs (own_up (own_sum (a := 16) (b := 16) (own_figr _ _) (own_figr _ _) (by decide)) (by decide)) (by decide)).2 k) ?_
    refine Gv T69 186 [] (fun t k => XS.ifNo X69.here hx rfl (hb hby at_183) rfl (XT.i0_ne_f rfl) k) ?_
    refine Gv T69 187 [(.int (1 : Int32))] (fun t k => XS.iconst X69.here hx rfl (hb hby at_186) k) ?_
    refine Gv T69 191 [(.int (1 : Int32))] (fun t k => XS.goto X69.here hx rfl (pc0 := 187) (pc' := 191) rfl (hb hby at_187) (by decide) (by decide) k) ?_
    exact finN (Q := (own_Q83 Z x1 x2 x3 x4 aD kD em mr h0 n0)) (F := ReturnedEndW) (C := (room_1).cells) (S := (room_1).slots) X69 hx (t := .boolean) Bd.returns (by simp) (z' := (1 : Int32)) rfl (hb hby at_191) K69 ⟨rfl, N69, trivial⟩ (lvW X69 hlk hS39 K69 (Nat.le_trans (Nat.le_trans (Nat.le_trans (Nat.le_trans (Nat.le_trans (Nat.le_trans hk39 K40.1) K41.1) K42.1) E47.1) K48.1) K50.1) (by decide) (by decide))
  · obtain ⟨T70, h70, X70, e70, E70, A70, D70, U70, st70⟩ := newO X0 hx hZ hown (W_ hw 1 rfl) (W_ hw 2 rfl) (W_ hw 3 rfl) e0 (g := (mkF m 11 #[lv_ x1, s_, lv_ x2, s_, lv_ x3, s_, iv x4, iv (3 : Int32), u_, u_] [])) rfl (hb hby at_11) (by decide) (by decide)
    obtain ⟨b70, g70⟩ : ∃ z, z = h0.size := ⟨_, rfl⟩
    rw [← g70] at A70 D70 U70 st70
    have gn70 : n0 ≤ b70 := Nat.le_trans (old_le O0) (Nat.le_of_eq g70.symm)
    have F70_modCount : Fld Z h70 b70 "java/util/AbstractList" "modCount" "I" (.int (0 : Int32)) := D70 (Or.inl (W_ hw 23 rfl)) (ty := .int) (by decide)
    have F70_elementData : Fld Z h70 b70 "java/util/ArrayList" "elementData" "[Ljava/lang/Object;" .null := D70 (Or.inl (W_ hw 26 rfl)) (ty := (.array (.object "java/lang/Object"))) (by decide)
    have F70_size : Fld Z h70 b70 "java/util/ArrayList" "size" "I" (.int (0 : Int32)) := D70 (Or.inl (W_ hw 87 rfl)) (ty := .int) (by decide)
    refine Goes.via (B := T70.setTop (mkF m 14 #[lv_ x1, s_, lv_ x2, s_, lv_ x3, s_, iv x4, iv (3 : Int32), u_, u_] [(.ref b70)])) (fun t k => st70 _ k) ?_
    refine Gv T70 15 [(.ref b70), (.ref b70)] (fun t k => XS.dup X70.here hx rfl (hb hby at_14) rfl rfl k) ?_
    obtain ⟨_, T71, L71, X71, ⟨rfl, M71, K71, f71_0, f71_1, f71_2, f71_3⟩, st71⟩ := callInit X70 hx hZ rfl hown (W_ hw 4 rfl) (W_ hw 5 rfl) (W_ hw 3 rfl) (W_ hw 6 rfl) (by decide) (argsL := []) (rest := [(.ref b70)]) (own_m8 l Z a0 hw [] b70 aD h70 n0 (O0.ext E70) gn70 O_1 A70 F70_elementData F70_size F70_modCount) e70 (lenOf own_pd0 rfl) (pc := 15) (Ls := #[lv_ x1, s_, lv_ x2, s_, lv_ x3, s_, iv x4, iv (3 : Int32), u_, u_]) (st := [(.ref b70), (.ref b70)]) rfl (by rw [hml]; rfl) (hb hby at_15) (W := 1) (Nat.le_of_eq rfl) (by decide) (by decide) (by decide) (by decide)
    have N71 := Fr.app N0 M71
    refine Goes.via (B := T71.setTop (mkF m 18 #[lv_ x1, s_, lv_ x2, s_, lv_ x3, s_, iv x4, iv (3 : Int32), u_, u_] [(.ref b70)])) (fun t k => st71 _ k) ?_
    refine Gv T71 20 [] (fun t k => XS.astore X71.here hx rfl (hb hby at_18) rfl rfl (l' := #[lv_ x1, s_, lv_ x2, s_, lv_ x3, s_, iv x4, iv (3 : Int32), rv b70, u_]) rfl k) ?_
    refine Gv T71 22 [(.ref b70)] (fun t k => XS.aload X71.here hx rfl (hb hby at_20) rfl rfl k) ?_
    obtain ⟨T72, h72, X72, e72, E72, A72, D72, U72, st72⟩ := newO X71 hx hZ hown (W_ hw 27 rfl) (W_ hw 28 rfl) (W_ hw 29 rfl) rfl (g := (mkF m 22 #[lv_ x1, s_, lv_ x2, s_, lv_ x3, s_, iv x4, iv (3 : Int32), rv b70, u_] [(.ref b70)])) rfl (hb hby at_22) (by decide) (by decide)
    obtain ⟨b72, g72⟩ : ∃ z, z = T71.heap.size := ⟨_, rfl⟩
    rw [← g72] at A72 D72 U72 st72
    have gn72 : n0 ≤ b72 := Nat.le_trans (old_le ((O0.ext E70).keep K71 (allS gn70 all0))) (Nat.le_of_eq g72.symm)
    have F72_name : Fld Z h72 b72 "com/example/wakenitz/wakenitz/measure/ScoreSheet$PageScore" "name" "Ljava/lang/String;" .null := D72 (Or.inr (W_ hw 72 rfl)) (ty := (.object "java/lang/String")) (by decide)
    have F72_score : Fld Z h72 b72 "com/example/wakenitz/wakenitz/measure/ScoreSheet$PageScore" "score" "Lcom/example/wakenitz/wakenitz/measure/Score;" .null := D72 (Or.inr (W_ hw 74 rfl)) (ty := (.object "com/example/wakenitz/wakenitz/measure/Score")) (by decide)
    refine Goes.via (B := T72.setTop (mkF m 25 #[lv_ x1, s_, lv_ x2, s_, lv_ x3, s_, iv x4, iv (3 : Int32), rv b70, u_] [(.ref b72), (.ref b70)])) (fun t k => st72 _ k) ?_
    refine Gv T72 26 [(.ref b72), (.ref b72), (.ref b70)] (fun t k => XS.dup X72.here hx rfl (hb hby at_25) rfl rfl k) ?_
    obtain ⟨b73, T73, h73, k73, X73, e73, E73, hS73, hk73, hZ73, hown73, st73⟩ := ldcS X72 hx hZ hown (W_ hw 30 rfl) (own_wS hw) e72 hS0 (Nat.le_trans (Nat.le_trans (Nat.le_trans hk0 E70.1) K71.1) E72.1) (g := (mkF m 26 #[lv_ x1, s_, lv_ x2, s_, lv_ x3, s_, iv x4, iv (3 : Int32), rv b70, u_] [(.ref b72), (.ref b72), (.ref b70)])) rfl (hb hby at_26) (n := 4) (by decide) (by decide) (by decide) (by decide)
    refine Goes.via (B := T73.setTop (mkF m 28 #[lv_ x1, s_, lv_ x2, s_, lv_ x3, s_, iv x4, iv (3 : Int32), rv b70, u_] [(.ref b73), (.ref b72), (.ref b72), (.ref b70)])) (fun t k => st73 _ k) ?_
    refine Gv T73 29 [(.long x1), (.ref b73), (.ref b72), (.ref b72), (.ref b70)] (fun t k => XS.lloadN X73.here hx rfl (hb hby at_28) rfl k) ?_
    obtain ⟨_, T74, L74, X74, ⟨r74, rfl, M74, K74, z74_0, f74_0, f74_1, f74_2, f74_3, f74_4⟩, st74⟩ := callStatic X73 hx hZ73 hown73 (W_ hw 38 rfl) (W_ hw 39 rfl) (W_ hw 40 rfl) (W_ hw 41 rfl) (by decide) (argsL := [(.long x1)]) (rest := [(.ref b73), (.ref b72), (.ref b72), (.ref b70)]) (own_m5 l Z a0 hw [] x1 h73 n0 ((((O0.ext E70).keep K71 (allS gn70 all0)).ext E72).ext E73) ) e73 (lenOf own_pd24 rfl) (pc := 29) (Ls := #[lv_ x1, s_, lv_ x2, s_, lv_ x3, s_, iv x4, iv (3 : Int32), rv b70, u_]) (st := [(.long x1), (.ref b73), (.ref b72), (.ref b72), (.ref b70)]) rfl (by rw [hml]; rfl) (hb hby at_29) (W := 4) (Nat.le_of_eq rfl) (by decide) (by decide) (by decide) (by decide)
    have N74 := Fr.app N71 M74
    have gn74_0 : n0 ≤ r74 := Nat.le_trans (old_le ((((O0.ext E70).keep K71 (allS gn70 all0)).ext E72).ext E73)) z74_0
    refine Goes.via (B := T74.setTop (mkF m 32 #[lv_ x1, s_, lv_ x2, s_, lv_ x3, s_, iv x4, iv (3 : Int32), rv b70, u_] [(.ref r74), (.ref b73), (.ref b72), (.ref b72), (.ref b70)])) (fun t k => st74 _ k) ?_
    obtain ⟨_, T75, L75, X75, ⟨rfl, M75, K75, f75_0, f75_1⟩, st75⟩ := callInit X74 hx hZ73 rfl hown73 (W_ hw 67 rfl) (W_ hw 68 rfl) (W_ hw 29 rfl) (W_ hw 69 rfl) (by decide) (argsL := [(.ref b73), (.ref r74)]) (rest := [(.ref b72), (.ref b70)]) (own_m6 l Z a0 hw [] b72 b73 r74 T74.heap n0 (((((O0.ext E70).keep K71 (allS gn70 all0)).ext E72).ext E73).keep K74 all0) gn72 ((A72.ext E73).keep K74) ((F72_name.ext E73).keep K74 nin0) ((F72_score.ext E73).keep K74 nin0)) rfl (lenOf own_pd25 rfl) (pc := 32) (Ls := #[lv_ x1, s_, lv_ x2, s_, lv_ x3, s_, iv x4, iv (3 : Int32), rv b70, u_]) (st := [(.ref r74), (.ref b73), (.ref b72), (.ref b72), (.ref b70)]) rfl (by rw [hml]; rfl) (hb hby at_32) (W := 2) (Nat.le_of_eq rfl) (by decide) (by decide) (by decide) (by decide)
    have N75 := Fr.app N74 M75
    refine Goes.via (B := T75.setTop (mkF m 35 #[lv_ x1, s_, lv_ x2, s_, lv_ x3, s_, iv x4, iv (3 : Int32), rv b70, u_] [(.ref b72), (.ref b70)])) (fun t k => st75 _ k) ?_
    have c77 : Fld Z T75.heap b70 "java/util/ArrayList" "elementData" "[Ljava/lang/Object;" (.ref aD) := ((((f71_1.ext E72).ext E73).keep K74 nin0).keep K75 (ninS (Nat.ne_of_lt (Nat.lt_of_lt_of_le (Nat.le_trans A70.lt K71.1) (Nat.le_of_eq g72.symm))) nin0))
    have c78 : Fld Z T75.heap b70 "java/util/ArrayList" "size" "I" (.int (0 : Int32)) := ((((f71_2.ext E72).ext E73).keep K74 nin0).keep K75 (ninS (Nat.ne_of_lt (Nat.lt_of_lt_of_le (Nat.le_trans A70.lt K71.1) (Nat.le_of_eq g72.symm))) nin0))
    have c79 : Fld Z T75.heap b70 "java/util/AbstractList" "modCount" "I" (.int (0 : Int32)) := ((((f71_3.ext E72).ext E73).keep K74 nin0).keep K75 (ninS (Nat.ne_of_lt (Nat.lt_of_lt_of_le (Nat.le_trans A70.lt K71.1) (Nat.le_of_eq g72.symm))) nin0))
    obtain ⟨_, T76, L76, X76, ⟨b76, kb76, rfl, M76, K76, z76_0, p76_0, f76_0, f76_1, f76_2, f76_3, f76_4, f76_5, f76_6⟩, st76⟩ := callFace X75 hx hZ73 hown73 (W_ hw 75 rfl) (W_ hw 76 rfl) (mvT hZ73 (W_ hw 77 rfl)) (W_ hw 78 rfl) (W_ hw 79 rfl) (W_ hw 80 rfl) (W_ hw 81 rfl) (W_ hw 82 rfl) (W_ hw 3 rfl) (W_ hw 83 rfl) (by decide) (argsL := [(.ref b72)]) (rest := []) (own_m14 l Z a0 hw [] b70 b72 (0 : Int32) aD kD T75.heap n0 ((((((O0.ext E70).keep K71 (allS gn70 all0)).ext E72).ext E73).keep K74 all0).keep K75 (allS gn72 all0)) gn70 O_1 O_2 ((((f71_0.ext E72).ext E73).keep K74).keep K75) c77 c78 c79 f75_0) rfl ((((f71_0.ext E72).ext E73).keep K74).keep K75) (lenOf own_pd26 rfl) (pc := 35) (Ls := #[lv_ x1, s_, lv_ x2, s_, lv_ x3, s_, iv x4, iv (3 : Int32), rv b70, u_]) (st := [(.ref b72), (.ref b70)]) rfl (by rw [hml]; rfl) (hb hby at_35) (W := 0) (Nat.le_of_eq rfl) (by decide) (by decide) (by decide) (by decide)
    have N76 := Fr.app N75 M76
    have gn76_0 : n0 ≤ b76 := Nat.le_trans (old_le ((((((O0.ext E70).keep K71 (allS gn70 all0)).ext E72).ext E73).keep K74 all0).keep K75 (allS gn72 all0))) z76_0
    refine Goes.via (B := T76.setTop (mkF m 40 #[lv_ x1, s_, lv_ x2, s_, lv_ x3, s_, iv x4, iv (3 : Int32), rv b70, u_] [(.int (1 : Int32))])) (fun t k => st76 _ k) ?_
    refine Gv T76 41 [] (fun t k => XS.pop X76.here hx rfl (hb hby at_40) rfl rfl k) ?_
    refine Gv T76 43 [(.int (3 : Int32))] (fun t k => XS.iload X76.here hx rfl (hb hby at_41) rfl k) ?_
    refine Gv T76 44 [(.int (2 : Int32)), (.int (3 : Int32))] (fun t k => XS.iconst X76.here hx rfl (hb hby at_43) k) ?_
    refine Gv T76 47 [] (fun t k => XS.icmpNo X76.here hx rfl (hb hby at_44) rfl (XT.ii_lt_f (by decide)) k) ?_
    refine Gv T76 49 [(.ref b70)] (fun t k => XS.aload X76.here hx rfl (hb hby at_47) rfl rfl k) ?_
    obtain ⟨T80, h80, X80, e80, E80, A80, D80, U80, st80⟩ := newO X76 hx hZ73 hown73 (W_ hw 27 rfl) (W_ hw 28 rfl) (W_ hw 29 rfl) rfl (g := (mkF m 49 #[lv_ x1, s_, lv_ x2, s_, lv_ x3, s_, iv x4, iv (3 : Int32), rv b70, u_] [(.ref b70)])) rfl (hb hby at_49) (by decide) (by decide)
    obtain ⟨b80, g80⟩ : ∃ z, z = T76.heap.size := ⟨_, rfl⟩
    rw [← g80] at A80 D80 U80 st80
    have gn80 : n0 ≤ b80 := Nat.le_trans (old_le (((((((O0.ext E70).keep K71 (allS gn70 all0)).ext E72).ext E73).keep K74 all0).keep K75 (allS gn72 all0)).keep K76 (allS gn70 all0))) (Nat.le_of_eq g80.symm)
    have F80_name : Fld Z h80 b80 "com/example/wakenitz/wakenitz/measure/ScoreSheet$PageScore" "name" "Ljava/lang/String;" .null := D80 (Or.inr (W_ hw 72 rfl)) (ty := (.object "java/lang/String")) (by decide)
    have F80_score : Fld Z h80 b80 "com/example/wakenitz/wakenitz/measure/ScoreSheet$PageScore" "score" "Lcom/example/wakenitz/wakenitz/measure/Score;" .null := D80 (Or.inr (W_ hw 74 rfl)) (ty := (.object "com/example/wakenitz/wakenitz/measure/Score")) (by decide)
    refine Goes.via (B := T80.setTop (mkF m 52 #[lv_ x1, s_, lv_ x2, s_, lv_ x3, s_, iv x4, iv (3 : Int32), rv b70, u_] [(.ref b80), (.ref b70)])) (fun t k => st80 _ k) ?_
    refine Gv T80 53 [(.ref b80), (.ref b80), (.ref b70)] (fun t k => XS.dup X80.here hx rfl (hb hby at_52) rfl rfl k) ?_
    obtain ⟨b81, T81, h81, k81, X81, e81, E81, hS81, hk81, hZ81, hown81, st81⟩ := ldcS X80 hx hZ73 hown73 (W_ hw 110 rfl) (own_wS hw) e80 hS73 (Nat.le_trans (Nat.le_trans (Nat.le_trans (Nat.le_trans hk73 K74.1) K75.1) K76.1) E80.1) (g := (mkF m 53 #[lv_ x1, s_, lv_ x2, s_, lv_ x3, s_, iv x4, iv (3 : Int32), rv b70, u_] [(.ref b80), (.ref b80), (.ref b70)])) rfl (hb hby at_53) (n := 4) (by decide) (by decide) (by decide) (by decide)
    refine Goes.via (B := T81.setTop (mkF m 55 #[lv_ x1, s_, lv_ x2, s_, lv_ x3, s_, iv x4, iv (3 : Int32), rv b70, u_] [(.ref b81), (.ref b80), (.ref b80), (.ref b70)])) (fun t k => st81 _ k) ?_
    refine Gv T81 56 [(.long x2), (.ref b81), (.ref b80), (.ref b80), (.ref b70)] (fun t k => XS.lloadN X81.here hx rfl (hb hby at_55) rfl k) ?_
    obtain ⟨_, T82, L82, X82, ⟨r82, rfl, M82, K82, z82_0, f82_0, f82_1, f82_2, f82_3, f82_4⟩, st82⟩ := callStatic X81 hx hZ81 hown81 (W_ hw 38 rfl) (W_ hw 39 rfl) (W_ hw 40 rfl) (W_ hw 41 rfl) (by decide) (argsL := [(.long x2)]) (rest := [(.ref b81), (.ref b80), (.ref b80), (.ref b70)]) (own_m5 l Z a0 hw [] x2 h81 n0 (((((((((O0.ext E70).keep K71 (allS gn70 all0)).ext E72).ext E73).keep K74 all0).keep K75 (allS gn72 all0)).keep K76 (allS gn70 all0)).ext E80).ext E81) ) e81 (lenOf own_pd24 rfl) (pc := 56) (Ls := #[lv_ x1, s_, lv_ x2, s_, lv_ x3, s_, iv x4, iv (3 : Int32), rv b70, u_]) (st := [(.long x2), (.ref b81), (.ref b80), (.ref b80), (.ref b70)]) rfl (by rw [hml]; rfl) (hb hby at_56) (W := 4) (Nat.le_of_eq rfl) (by decide) (by decide) (by decide) (by decide)
    have N82 := Fr.app N76 M82
    have gn82_0 : n0 ≤ r82 := Nat.le_trans (old_le (((((((((O0.ext E70).keep K71 (allS gn70 all0)).ext E72).ext E73).keep K74 all0).keep K75 (allS gn72 all0)).keep K76 (allS gn70 all0)).ext E80).ext E81)) z82_0
    refine Goes.via (B := T82.setTop (mkF m 59 #[lv_ x1, s_, lv_ x2, s_, lv_ x3, s_, iv x4, iv (3 : Int32), rv b70, u_] [(.ref r82), (.ref b81), (.ref b80), (.ref b80), (.ref b70)])) (fun t k => st82 _ k) ?_
    obtain ⟨_, T83, L83, X83, ⟨rfl, M83, K83, f83_0, f83_1⟩, st83⟩ := callInit X82 hx hZ81 rfl hown81 (W_ hw 67 rfl) (W_ hw 68 rfl) (W_ hw 29 rfl) (W_ hw 69 rfl) (by decide) (argsL := [(.ref b81), (.ref r82)]) (rest := [(.ref b80), (.ref b70)]) (own_m6 l Z a0 hw [] b80 b81 r82 T82.heap n0 ((((((((((O0.ext E70).keep K71 (allS gn70 all0)).ext E72).ext E73).keep K74 all0).keep K75 (allS gn72 all0)).keep K76 (allS gn70 all0)).ext E80).ext E81).keep K82 all0) gn80 ((A80.ext E81).keep K82) ((F80_name.ext E81).keep K82 nin0) ((F80_score.ext E81).keep K82 nin0)) rfl (lenOf own_pd25 rfl) (pc := 59) (Ls := #[lv_ x1, s_, lv_ x2, s_, lv_ x3, s_, iv x4, iv (3 : Int32), rv b70, u_]) (st := [(.ref r82), (.ref b81), (.ref b80), (.ref b80), (.ref b70)]) rfl (by rw [hml]; rfl) (hb hby at_59) (W := 2) (Nat.le_of_eq rfl) (by decide) (by decide) (by decide) (by decide)
    have N83 := Fr.app N82 M83
    refine Goes.via (B := T83.setTop (mkF m 62 #[lv_ x1, s_, lv_ x2, s_, lv_ x3, s_, iv x4, iv (3 : Int32), rv b70, u_] [(.ref b80), (.ref b70)])) (fun t k => st83 _ k) ?_
    have c85 : Fld Z T83.heap b70 "java/util/ArrayList" "elementData" "[Ljava/lang/Object;" (.ref b76) := ((((f76_1.ext E80).ext E81).keep K82 nin0).keep K83 (ninS (Nat.ne_of_lt (Nat.lt_of_lt_of_le (Nat.le_trans (Nat.le_trans (Nat.le_trans (Nat.le_trans (Nat.le_trans (Nat.le_trans A70.lt K71.1) E72.1) E73.1) K74.1) K75.1) K76.1) (Nat.le_of_eq g80.symm))) nin0))
    have c86 : Fld Z T83.heap b70 "java/util/ArrayList" "size" "I" (.int (1 : Int32)) := ((((f76_2.ext E80).ext E81).keep K82 nin0).keep K83 (ninS (Nat.ne_of_lt (Nat.lt_of_lt_of_le (Nat.le_trans (Nat.le_trans (Nat.le_trans (Nat.le_trans (Nat.le_trans (Nat.le_trans A70.lt K71.1) E72.1) E73.1) K74.1) K75.1) K76.1) (Nat.le_of_eq g80.symm))) nin0))
    have c87 : Fld Z T83.heap b70 "java/util/AbstractList" "modCount" "I" (.int ((0 : Int32) + (1 : Int32))) := ((((f76_3.ext E80).ext E81).keep K82 nin0).keep K83 (ninS (Nat.ne_of_lt (Nat.lt_of_lt_of_le (Nat.le_trans (Nat.le_trans (Nat.le_trans (Nat.le_trans (Nat.le_trans (Nat.le_trans A70.lt K71.1) E72.1) E73.1) K74.1) K75.1) K76.1) (Nat.le_of_eq g80.symm))) nin0))
    have c88 : Arv Z T83.heap b76 kb76 (.object "java/lang/Object") (10 : Int32) [(.ref b72), .null, .null, .null, .null, .null, .null, .null, .null, .null] .null := ((((f76_5.ext E80).ext E81).keep K82 nin0).keep K83 (ninS (Nat.ne_of_lt (Nat.lt_of_lt_of_le f76_5.lt (Nat.le_of_eq g80.symm))) nin0))
    obtain ⟨_, T84, L84, X84, ⟨rfl, M84, K84, f84_0, f84_1, f84_2, f84_3, f84_4, f84_5, f84_6⟩, st84⟩ := callFace X83 hx hZ81 hown81 (W_ hw 75 rfl) (W_ hw 76 rfl) (mvT hZ81 (W_ hw 77 rfl)) (W_ hw 78 rfl) (W_ hw 79 rfl) (W_ hw 80 rfl) (W_ hw 81 rfl) (W_ hw 82 rfl) (W_ hw 3 rfl) (W_ hw 83 rfl) (by decide) (argsL := [(.ref b80)]) (rest := []) (own_m16 l Z a0 hw [] b70 b80 ((0 : Int32) + (1 : Int32)) aD kD b76 kb76 b72 T83.heap n0 (((((((((((O0.ext E70).keep K71 (allS gn70 all0)).ext E72).ext E73).keep K74 all0).keep K75 (allS gn72 all0)).keep K76 (allS gn70 all0)).ext E80).ext E81).keep K82 all0).keep K83 (allS gn80 all0)) p76_0 (Nat.ne_of_lt (Nat.lt_of_lt_of_le (Nat.le_trans (Nat.le_trans (Nat.le_trans (Nat.le_trans (Nat.le_trans A70.lt K71.1) E72.1) E73.1) K74.1) K75.1) z76_0)) (Ne.symm (Nat.ne_of_lt (Nat.lt_of_lt_of_le f76_5.lt (Nat.le_of_eq g80.symm)))) gn70 gn76_0 ((((f76_0.ext E80).ext E81).keep K82).keep K83) c85 c86 c87 f83_0 c88 ((((f76_6.ext E80).ext E81).keep K82).keep K83)) rfl ((((f76_0.ext E80).ext E81).keep K82).keep K83) (lenOf own_pd26 rfl) (pc := 62) (Ls := #[lv_ x1, s_, lv_ x2, s_, lv_ x3, s_, iv x4, iv (3 : Int32), rv b70, u_]) (st := [(.ref b80), (.ref b70)]) rfl (by rw [hml]; rfl) (hb hby at_62) (W := 0) (Nat.le_of_eq rfl) (by decide) (by decide) (by decide) (by decide)
    have N84 := Fr.app N83 M84
    refine Goes.via (B := T84.setTop (mkF m 67 #[lv_ x1, s_, lv_ x2, s_, lv_ x3, s_, iv x4, iv (3 : Int32), rv b70, u_] [(.int (1 : Int32))])) (fun t k => st84 _ k) ?_
    refine Gv T84 68 [] (fun t k => XS.pop X84.here hx rfl (hb hby at_67) rfl rfl k) ?_
    refine Gv T84 70 [(.int (3 : Int32))] (fun t k => XS.iload X84.here hx rfl (hb hby at_68) rfl k) ?_
    refine Gv T84 71 [(.int (3 : Int32)), (.int (3 : Int32))] (fun t k => XS.iconst X84.here hx rfl (hb hby at_70) k) ?_
    refine Gv T84 74 [] (fun t k => XS.icmpNo X84.here hx rfl (hb hby at_71) rfl (XT.ii_lt_f (by decide)) k) ?_
    refine Gv T84 76 [(.ref b70)] (fun t k => XS.aload X84.here hx rfl (hb hby at_74) rfl rfl k) ?_
    obtain ⟨T89, h89, X89, e89, E89, A89, D89, U89, st89⟩ := newO X84 hx hZ81 hown81 (W_ hw 27 rfl) (W_ hw 28 rfl) (W_ hw 29 rfl) rfl (g := (mkF m 76 #[lv_ x1, s_, lv_ x2, s_, lv_ x3, s_, iv x4, iv (3 : Int32), rv b70, u_] [(.ref b70)])) rfl (hb hby at_76) (by decide) (by decide)
    obtain ⟨b89, g89⟩ : ∃ z, z = T84.heap.size := ⟨_, rfl⟩
    rw [← g89] at A89 D89 U89 st89
    have gn89 : n0 ≤ b89 := Nat.le_trans (old_le ((((((((((((O0.ext E70).keep K71 (allS gn70 all0)).ext E72).ext E73).keep K74 all0).keep K75 (allS gn72 all0)).keep K76 (allS gn70 all0)).ext E80).ext E81).keep K82 all0).keep K83 (allS gn80 all0)).keep K84 (allS gn70 (allS gn76_0 all0)))) (Nat.le_of_eq g89.symm)
    have F89_name : Fld Z h89 b89 "com/example/wakenitz/wakenitz/measure/ScoreSheet$PageScore" "name" "Ljava/lang/String;" .null := D89 (Or.inr (W_ hw 72 rfl)) (ty := (.object "java/lang/String")) (by decide)
    have F89_score : Fld Z h89 b89 "com/example/wakenitz/wakenitz/measure/ScoreSheet$PageScore" "score" "Lcom/example/wakenitz/wakenitz/measure/Score;" .null := D89 (Or.inr (W_ hw 74 rfl)) (ty := (.object "com/example/wakenitz/wakenitz/measure/Score")) (by decide)
    refine Goes.via (B := T89.setTop (mkF m 79 #[lv_ x1, s_, lv_ x2, s_, lv_ x3, s_, iv x4, iv (3 : Int32), rv b70, u_] [(.ref b89), (.ref b70)])) (fun t k => st89 _ k) ?_
    refine Gv T89 80 [(.ref b89), (.ref b89), (.ref b70)] (fun t k => XS.dup X89.here hx rfl (hb hby at_79) rfl rfl k) ?_
    obtain ⟨b90, T90, h90, k90, X90, e90, E90, hS90, hk90, hZ90, hown90, st90⟩ := ldcS X89 hx hZ81 hown81 (W_ hw 111 rfl) (own_wS hw) e89 hS81 (Nat.le_trans (Nat.le_trans (Nat.le_trans (Nat.le_trans hk81 K82.1) K83.1) K84.1) E89.1) (g := (mkF m 80 #[lv_ x1, s_, lv_ x2, s_, lv_ x3, s_, iv x4, iv (3 : Int32), rv b70, u_] [(.ref b89), (.ref b89), (.ref b70)])) rfl (hb hby at_80) (n := 4) (by decide) (by decide) (by decide) (by decide)
    refine Goes.via (B := T90.setTop (mkF m 82 #[lv_ x1, s_, lv_ x2, s_, lv_ x3, s_, iv x4, iv (3 : Int32), rv b70, u_] [(.ref b90), (.ref b89), (.ref b89), (.ref b70)])) (fun t k => st90 _ k) ?_
    refine Gv T90 84 [(.long x3), (.ref b90), (.ref b89), (.ref b89), (.ref b70)] (fun t k => XS.lload X90.here hx rfl (hb hby at_82) rfl k) ?_
    obtain ⟨_, T91, L91, X91, ⟨r91, rfl, M91, K91, z91_0, f91_0, f91_1, f91_2, f91_3, f91_4⟩, st91⟩ := callStatic X90 hx hZ90 hown90 (W_ hw 38 rfl) (W_ hw 39 rfl) (W_ hw 40 rfl) (W_ hw 41 rfl) (by decide) (argsL := [(.long x3)]) (rest := [(.ref b90), (.ref b89), (.ref b89), (.ref b70)]) (own_m5 l Z a0 hw [] x3 h90 n0 ((((((((((((((O0.ext E70).keep K71 (allS gn70 all0)).ext E72).ext E73).keep K74 all0).keep K75 (allS gn72 all0)).keep K76 (allS gn70 all0)).ext E80).ext E81).keep K82 all0).keep K83 (allS gn80 all0)).keep K84 (allS gn70 (allS gn76_0 all0))).ext E89).ext E90) ) e90 (lenOf own_pd24 rfl) (pc := 84) (Ls := #[lv_ x1, s_, lv_ x2, s_, lv_ x3, s_, iv x4, iv (3 : Int32), rv b70, u_]) (st := [(.long x3), (.ref b90), (.ref b89), (.ref b89), (.ref b70)]) rfl (by rw [hml]; rfl) (hb hby at_84) (W := 4) (Nat.le_of_eq rfl) (by decide) (by decide) (by decide) (by decide)
    have N91 := Fr.app N84 M91
    have gn91_0 : n0 ≤ r91 := Nat.le_trans (old_le ((((((((((((((O0.ext E70).keep K71 (allS gn70 all0)).ext E72).ext E73).keep K74 all0).keep K75 (allS gn72 all0)).keep K76 (allS gn70 all0)).ext E80).ext E81).keep K82 all0).keep K83 (allS gn80 all0)).keep K84 (allS gn70 (allS gn76_0 all0))).ext E89).ext E90)) z91_0
    refine Goes.via (B := T91.setTop (mkF m 87 #[lv_ x1, s_, lv_ x2, s_, lv_ x3, s_, iv x4, iv (3 : Int32), rv b70, u_] [(.ref r91), (.ref b90), (.ref b89), (.ref b89), (.ref b70)])) (fun t k => st91 _ k) ?_
    obtain ⟨_, T92, L92, X92, ⟨rfl, M92, K92, f92_0, f92_1⟩, st92⟩ := callInit X91 hx hZ90 rfl hown90 (W_ hw 67 rfl) (W_ hw 68 rfl) (W_ hw 29 rfl) (W_ hw 69 rfl) (by decide) (argsL := [(.ref b90), (.ref r91)]) (rest := [(.ref b89), (.ref b70)]) (own_m6 l Z a0 hw [] b89 b90 r91 T91.heap n0 (((((((((((((((O0.ext E70).keep K71 (allS gn70 all0)).ext E72).ext E73).keep K74 all0).keep K75 (allS gn72 all0)).keep K76 (allS gn70 all0)).ext E80).ext E81).keep K82 all0).keep K83 (allS gn80 all0)).keep K84 (allS gn70 (allS gn76_0 all0))).ext E89).ext E90).keep K91 all0) gn89 ((A89.ext E90).keep K91) ((F89_name.ext E90).keep K91 nin0) ((F89_score.ext E90).keep K91 nin0)) rfl (lenOf own_pd25 rfl) (pc := 87) (Ls := #[lv_ x1, s_, lv_ x2, s_, lv_ x3, s_, iv x4, iv (3 : Int32), rv b70, u_]) (st := [(.ref r91), (.ref b90), (.ref b89), (.ref b89), (.ref b70)]) rfl (by rw [hml]; rfl) (hb hby at_87) (W := 2) (Nat.le_of_eq rfl) (by decide) (by decide) (by decide) (by decide)
    have N92 := Fr.app N91 M92
    refine Goes.via (B := T92.setTop (mkF m 90 #[lv_ x1, s_, lv_ x2, s_, lv_ x3, s_, iv x4, iv (3 : Int32), rv b70, u_] [(.ref b89), (.ref b70)])) (fun t k => st92 _ k) ?_
    have c94 : Fld Z T92.heap b70 "java/util/ArrayList" "elementData" "[Ljava/lang/Object;" (.ref b76) := ((((f84_1.ext E89).ext E90).keep K91 nin0).keep K92 (ninS (Nat.ne_of_lt (Nat.lt_of_lt_of_le (Nat.le_trans (Nat.le_trans (Nat.le_trans (Nat.le_trans (Nat.le_trans (Nat.le_trans (Nat.le_trans (Nat.le_trans (Nat.le_trans (Nat.le_trans (Nat.le_trans A70.lt K71.1) E72.1) E73.1) K74.1) K75.1) K76.1) E80.1) E81.1) K82.1) K83.1) K84.1) (Nat.le_of_eq g89.symm))) nin0))
    have c95 : Fld Z T92.heap b70 "java/util/ArrayList" "size" "I" (.int (2 : Int32)) := ((((f84_2.ext E89).ext E90).keep K91 nin0).keep K92 (ninS (Nat.ne_of_lt (Nat.lt_of_lt_of_le (Nat.le_trans (Nat.le_trans (Nat.le_trans (Nat.le_trans (Nat.le_trans (Nat.le_trans (Nat.le_trans (Nat.le_trans (Nat.le_trans (Nat.le_trans (Nat.le_trans A70.lt K71.1) E72.1) E73.1) K74.1) K75.1) K76.1) E80.1) E81.1) K82.1) K83.1) K84.1) (Nat.le_of_eq g89.symm))) nin0))
    have c96 : Fld Z T92.heap b70 "java/util/AbstractList" "modCount" "I" (.int (((0 : Int32) + (1 : Int32)) + (1 : Int32))) := ((((f84_3.ext E89).ext E90).keep K91 nin0).keep K92 (ninS (Nat.ne_of_lt (Nat.lt_of_lt_of_le (Nat.le_trans (Nat.le_trans (Nat.le_trans (Nat.le_trans (Nat.le_trans (Nat.le_trans (Nat.le_trans (Nat.le_trans (Nat.le_trans (Nat.le_trans (Nat.le_trans A70.lt K71.1) E72.1) E73.1) K74.1) K75.1) K76.1) E80.1) E81.1) K82.1) K83.1) K84.1) (Nat.le_of_eq g89.symm))) nin0))
    have c97 : Arv Z T92.heap b76 kb76 (.object "java/lang/Object") (10 : Int32) [(.ref b72), (.ref b80), .null, .null, .null, .null, .null, .null, .null, .null] .null := ((((f84_5.ext E89).ext E90).keep K91 nin0).keep K92 (ninS (Nat.ne_of_lt (Nat.lt_of_lt_of_le (Nat.le_trans (Nat.le_trans (Nat.le_trans (Nat.le_trans (Nat.le_trans f76_5.lt E80.1) E81.1) K82.1) K83.1) K84.1) (Nat.le_of_eq g89.symm))) nin0))
    obtain ⟨_, T93, L93, X93, ⟨rfl, M93, K93, f93_0, f93_1, f93_2, f93_3, f93_4, f93_5, f93_6⟩, st93⟩ := callFace X92 hx hZ90 hown90 (W_ hw 75 rfl) (W_ hw 76 rfl) (mvT hZ90 (W_ hw 77 rfl)) (W_ hw 78 rfl) (W_ hw 79 rfl) (W_ hw 80 rfl) (W_ hw 81 rfl) (W_ hw 82 rfl) (W_ hw 3 rfl) (W_ hw 83 rfl) (by decide) (argsL := [(.ref b89)]) (rest := []) (own_m18 l Z a0 hw [] b70 b89 (((0 : Int32) + (1 : Int32)) + (1 : Int32)) aD kD b76 kb76 b72 b80 T92.heap n0 ((((((((((((((((O0.ext E70).keep K71 (allS gn70 all0)).ext E72).ext E73).keep K74 all0).keep K75 (allS gn72 all0)).keep K76 (allS gn70 all0)).ext E80).ext E81).keep K82 all0).keep K83 (allS gn80 all0)).keep K84 (allS gn70 (allS gn76_0 all0))).ext E89).ext E90).keep K91 all0).keep K92 (allS gn89 all0)) p76_0 (Nat.ne_of_lt (Nat.lt_of_lt_of_le (Nat.le_trans (Nat.le_trans (Nat.le_trans (Nat.le_trans (Nat.le_trans A70.lt K71.1) E72.1) E73.1) K74.1) K75.1) z76_0)) (Ne.symm (Nat.ne_of_lt (Nat.lt_of_lt_of_le (Nat.le_trans (Nat.le_trans (Nat.le_trans (Nat.le_trans (Nat.le_trans f76_5.lt E80.1) E81.1) K82.1) K83.1) K84.1) (Nat.le_of_eq g89.symm)))) gn70 gn76_0 ((((f84_0.ext E89).ext E90).keep K91).keep K92) c94 c95 c96 f92_0 c97 ((((f84_6.ext E89).ext E90).keep K91).keep K92)) rfl ((((f84_0.ext E89).ext E90).keep K91).keep K92) (lenOf own_pd26 rfl) (pc := 90) (Ls := #[lv_ x1, s_, lv_ x2, s_, lv_ x3, s_, iv x4, iv (3 : Int32), rv b70, u_]) (st := [(.ref b89), (.ref b70)]) rfl (by rw [hml]; rfl) (hb hby at_90) (W := 0) (Nat.le_of_eq rfl) (by decide) (by decide) (by decide) (by decide)
    have N93 := Fr.app N92 M93
    refine Goes.via (B := T93.setTop (mkF m 95 #[lv_ x1, s_, lv_ x2, s_, lv_ x3, s_, iv x4, iv (3 : Int32), rv b70, u_] [(.int (1 : Int32))])) (fun t k => st93 _ k) ?_
    refine Gv T93 96 [] (fun t k => XS.pop X93.here hx rfl (hb hby at_95) rfl rfl k) ?_
    obtain ⟨T98, h98, X98, e98, E98, A98, D98, U98, st98⟩ := newO X93 hx hZ90 hown90 (W_ hw 112 rfl) (W_ hw 113 rfl) (W_ hw 114 rfl) rfl (g := (mkF m 96 #[lv_ x1, s_, lv_ x2, s_, lv_ x3, s_, iv x4, iv (3 : Int32), rv b70, u_] [])) rfl (hb hby at_96) (by decide) (by decide)
    obtain ⟨b98, g98⟩ : ∃ z, z = T93.heap.size := ⟨_, rfl⟩
    rw [← g98] at A98 D98 U98 st98
    have gn98 : n0 ≤ b98 := Nat.le_trans (old_le (((((((((((((((((O0.ext E70).keep K71 (allS gn70 all0)).ext E72).ext E73).keep K74 all0).keep K75 (allS gn72 all0)).keep K76 (allS gn70 all0)).ext E80).ext E81).keep K82 all0).keep K83 (allS gn80 all0)).keep K84 (allS gn70 (allS gn76_0 all0))).ext E89).ext E90).keep K91 all0).keep K92 (allS gn89 all0)).keep K93 (allS gn70 (allS gn76_0 all0)))) (Nat.le_of_eq g98.symm)
    have F98_pages : Fld Z h98 b98 "com/example/wakenitz/wakenitz/measure/ScoreSheet" "pages" "Ljava/util/List;" .null := D98 (Or.inr (W_ hw 212 rfl)) (ty := (.object "java/util/List")) (by decide)
    refine Goes.via (B := T98.setTop (mkF m 99 #[lv_ x1, s_, lv_ x2, s_, lv_ x3, s_, iv x4, iv (3 : Int32), rv b70, u_] [(.ref b98)])) (fun t k => st98 _ k) ?_
    refine Gv T98 100 [(.ref b98), (.ref b98)] (fun t k => XS.dup X98.here hx rfl (hb hby at_99) rfl rfl k) ?_
    refine Gv T98 102 [(.ref b70), (.ref b98), (.ref b98)] (fun t k => XS.aload X98.here hx rfl (hb hby at_100) rfl rfl k) ?_
    have c100 : Exa Z h98 b72 "com/example/wakenitz/wakenitz/measure/ScoreSheet$PageScore" := (((((((((((f76_4.ext E80).ext E81).keep K82).keep K83).keep K84).ext E89).ext E90).keep K91).keep K92).keep K93).ext E98)
    have c101 : Exa Z h98 b80 "com/example/wakenitz/wakenitz/measure/ScoreSheet$PageScore" := ((((((f84_4.ext E89).ext E90).keep K91).keep K92).keep K93).ext E98)
    obtain ⟨_, T99, L99, X99, ⟨r99, ar99, ka99, rfl, M99, K99, z99_0, z99_1, f99_0, f99_1, f99_2, f99_3, f99_4⟩, st99⟩ := callInit X98 hx hZ90 rfl hown90 (W_ hw 115 rfl) (W_ hw 116 rfl) (W_ hw 114 rfl) (W_ hw 117 rfl) (by decide) (argsL := [(.ref b70)]) (rest := [(.ref b98)]) (own_m49 l Z a0 hw [] b98 b70 b76 kb76 ((((0 : Int32) + (1 : Int32)) + (1 : Int32)) + (1 : Int32)) b72 b80 b89 mr h98 n0 ((((((((((((((((((O0.ext E70).keep K71 (allS gn70 all0)).ext E72).ext E73).keep K74 all0).keep K75 (allS gn72 all0)).keep K76 (allS gn70 all0)).ext E80).ext E81).keep K82 all0).keep K83 (allS gn80 all0)).keep K84 (allS gn70 (allS gn76_0 all0))).ext E89).ext E90).keep K91 all0).keep K92 (allS gn89 all0)).keep K93 (allS gn70 (allS gn76_0 all0))).ext E98) Mi gn98 A98 F98_pages (f93_0.ext E98) (f93_1.ext E98) (f93_2.ext E98) (f93_3.ext E98) (f93_5.ext E98) (f93_6.ext E98) c100 c101 (f93_4.ext E98)) e98 (lenOf own_pd27 rfl) (pc := 102) (Ls := #[lv_ x1, s_, lv_ x2, s_, lv_ x3, s_, iv x4, iv (3 : Int32), rv b70, u_]) (st := [(.ref b70), (.ref b98), (.ref b98)]) rfl (by rw [hml]; rfl) (hb hby at_102) (W := 1) (Nat.le_of_eq rfl) (by decide) (by decide) (by decide) (by decide)
    have N99 := Fr.app N93 M99
    have gn99_0 : n0 ≤ r99 := Nat.le_trans (old_le ((((((((((((((((((O0.ext E70).keep K71 (allS gn70 all0)).ext E72).ext E73).keep K74 all0).keep K75 (allS gn72 all0)).keep K76 (allS gn70 all0)).ext E80).ext E81).keep K82 all0).keep K83 (allS gn80 all0)).keep K84 (allS gn70 (allS gn76_0 all0))).ext E89).ext E90).keep K91 all0).keep K92 (allS gn89 all0)).keep K93 (allS gn70 (allS gn76_0 all0))).ext E98)) z99_0
    have gn99_1 : n0 ≤ ar99 := Nat.le_trans (old_le ((((((((((((((((((O0.ext E70).keep K71 (allS gn70 all0)).ext E72).ext E73).keep K74 all0).keep K75 (allS gn72 all0)).keep K76 (allS gn70 all0)).ext E80).ext E81).keep K82 all0).keep K83 (allS gn80 all0)).keep K84 (allS gn70 (allS gn76_0 all0))).ext E89).ext E90).keep K91 all0).keep K92 (allS gn89 all0)).keep K93 (allS gn70 (allS gn76_0 all0))).ext E98)) z99_1
    refine Goes.via (B := T99.setTop (mkF m 105 #[lv_ x1, s_, lv_ x2, s_, lv_ x3, s_, iv x4, iv (3 : Int32), rv b70, u_] [(.ref b98)])) (fun t k => st99 _ k) ?_
    have c103 : Fld Z T99.heap b72 "com/example/wakenitz/wakenitz/measure/ScoreSheet$PageScore" "score" "Lcom/example/wakenitz/wakenitz/measure/Score;" (.ref r74) := (((((((((((((f75_1.keep K76 (ninS (Ne.symm (Nat.ne_of_lt (Nat.lt_of_lt_of_le (Nat.le_trans A70.lt K71.1) (Nat.le_of_eq g72.symm)))) nin0)).ext E80).ext E81).keep K82 nin0).keep K83 (ninS (Nat.ne_of_lt (Nat.lt_of_lt_of_le (Nat.le_trans (Nat.le_trans (Nat.le_trans (Nat.le_trans A72.lt E73.1) K74.1) K75.1) K76.1) (Nat.le_of_eq g80.symm))) nin0)).keep K84 (ninS (Ne.symm (Nat.ne_of_lt (Nat.lt_of_lt_of_le (Nat.le_trans A70.lt K71.1) (Nat.le_of_eq g72.symm)))) (ninS (Nat.ne_of_lt (Nat.lt_of_lt_of_le (Nat.le_trans (Nat.le_trans (Nat.le_trans A72.lt E73.1) K74.1) K75.1) z76_0)) nin0))).ext E89).ext E90).keep K91 nin0).keep K92 (ninS (Nat.ne_of_lt (Nat.lt_of_lt_of_le (Nat.le_trans (Nat.le_trans (Nat.le_trans (Nat.le_trans (Nat.le_trans (Nat.le_trans (Nat.le_trans (Nat.le_trans (Nat.le_trans A72.lt E73.1) K74.1) K75.1) K76.1) E80.1) E81.1) K82.1) K83.1) K84.1) (Nat.le_of_eq g89.symm))) nin0)).keep K93 (ninS (Ne.symm (Nat.ne_of_lt (Nat.lt_of_lt_of_le (Nat.le_trans A70.lt K71.1) (Nat.le_of_eq g72.symm)))) (ninS (Nat.ne_of_lt (Nat.lt_of_lt_of_le (Nat.le_trans (Nat.le_trans (Nat.le_trans A72.lt E73.1) K74.1) K75.1) z76_0)) nin0))).ext E98).keep K99 (ninS (Nat.ne_of_lt (Nat.lt_of_lt_of_le (Nat.le_trans (Nat.le_trans (Nat.le_trans (Nat.le_trans (Nat.le_trans (Nat.le_trans (Nat.le_trans (Nat.le_trans (Nat.le_trans (Nat.le_trans (Nat.le_trans (Nat.le_trans (Nat.le_trans (Nat.le_trans A72.lt E73.1) K74.1) K75.1) K76.1) E80.1) E81.1) K82.1) K83.1) K84.1) E89.1) E90.1) K91.1) K92.1) K93.1) (Nat.le_of_eq g98.symm))) nin0))
    have c104 : Exa Z T99.heap r74 "com/example/wakenitz/wakenitz/measure/Score" := ((((((((((((((f74_0.keep K75).keep K76).ext E80).ext E81).keep K82).keep K83).keep K84).ext E89).ext E90).keep K91).keep K92).keep K93).ext E98).keep K99)
    have c105 : Fld Z T99.heap r74 "com/example/wakenitz/wakenitz/measure/Score" "precision" "D" (.double (own_d (own_fig x1 (0 : Int32)))) := ((((((((((((((f74_1.keep K75 (ninS (Ne.symm (Nat.ne_of_lt (Nat.lt_of_lt_of_le (Nat.le_trans A72.lt E73.1) z74_0))) nin0)).keep K76 (ninS (Ne.symm (Nat.ne_of_lt (Nat.lt_of_lt_of_le (Nat.le_trans (Nat.le_trans (Nat.le_trans A70.lt K71.1) E72.1) E73.1) z74_0))) nin0)).ext E80).ext E81).keep K82 nin0).keep K83 (ninS (Nat.ne_of_lt (Nat.lt_of_lt_of_le (Nat.le_trans (Nat.le_trans f74_0.lt K75.1) K76.1) (Nat.le_of_eq g80.symm))) nin0)).keep K84 (ninS (Ne.symm (Nat.ne_of_lt (Nat.lt_of_lt_of_le (Nat.le_trans (Nat.le_trans (Nat.le_trans A70.lt K71.1) E72.1) E73.1) z74_0))) (ninS (Nat.ne_of_lt (Nat.lt_of_lt_of_le (Nat.le_trans f74_0.lt K75.1) z76_0)) nin0))).ext E89).ext E90).keep K91 nin0).keep K92 (ninS (Nat.ne_of_lt (Nat.lt_of_lt_of_le (Nat.le_trans (Nat.le_trans (Nat.le_trans (Nat.le_trans (Nat.le_trans (Nat.le_trans (Nat.le_trans f74_0.lt K75.1) K76.1) E80.1) E81.1) K82.1) K83.1) K84.1) (Nat.le_of_eq g89.symm))) nin0)).keep K93 (ninS (Ne.symm (Nat.ne_of_lt (Nat.lt_of_lt_of_le (Nat.le_trans (Nat.le_trans (Nat.le_trans A70.lt K71.1) E72.1) E73.1) z74_0))) (ninS (Nat.ne_of_lt (Nat.lt_of_lt_of_le (Nat.le_trans f74_0.lt K75.1) z76_0)) nin0))).ext E98).keep K99 (ninS (Nat.ne_of_lt (Nat.lt_of_lt_of_le (Nat.le_trans (Nat.le_trans (Nat.le_trans (Nat.le_trans (Nat.le_trans (Nat.le_trans (Nat.le_trans (Nat.le_trans (Nat.le_trans (Nat.le_trans (Nat.le_trans (Nat.le_trans f74_0.lt K75.1) K76.1) E80.1) E81.1) K82.1) K83.1) K84.1) E89.1) E90.1) K91.1) K92.1) K93.1) (Nat.le_of_eq g98.symm))) nin0))
    have c106 : Fld Z T99.heap r74 "com/example/wakenitz/wakenitz/measure/Score" "recall" "D" (.double (own_d (own_fig x1 (1 : Int32)))) := ((((((((((((((f74_2.keep K75 (ninS (Ne.symm (Nat.ne_of_lt (Nat.lt_of_lt_of_le (Nat.le_trans A72.lt E73.1) z74_0))) nin0)).keep K76 (ninS (Ne.symm (Nat.ne_of_lt (Nat.lt_of_lt_of_le (Nat.le_trans (Nat.le_trans (Nat.le_trans A70.lt K71.1) E72.1) E73.1) z74_0))) nin0)).ext E80).ext E81).keep K82 nin0).keep K83 (ninS (Nat.ne_of_lt (Nat.lt_of_lt_of_le (Nat.le_trans (Nat.le_trans f74_0.lt K75.1) K76.1) (Nat.le_of_eq g80.symm))) nin0)).keep K84 (ninS (Ne.symm (Nat.ne_of_lt (Nat.lt_of_lt_of_le (Nat.le_trans (Nat.le_trans (Nat.le_trans A70.lt K71.1) E72.1) E73.1) z74_0))) (ninS (Nat.ne_of_lt (Nat.lt_of_lt_of_le (Nat.le_trans f74_0.lt K75.1) z76_0)) nin0))).ext E89).ext E90).keep K91 nin0).keep K92 (ninS (Nat.ne_of_lt (Nat.lt_of_lt_of_le (Nat.le_trans (Nat.le_trans (Nat.le_trans (Nat.le_trans (Nat.le_trans (Nat.le_trans (Nat.le_trans f74_0.lt K75.1) K76.1) E80.1) E81.1) K82.1) K83.1) K84.1) (Nat.le_of_eq g89.symm))) nin0)).keep K93 (ninS (Ne.symm (Nat.ne_of_lt (Nat.lt_of_lt_of_le (Nat.le_trans (Nat.le_trans (Nat.le_trans A70.lt K71.1) E72.1) E73.1) z74_0))) (ninS (Nat.ne_of_lt (Nat.lt_of_lt_of_le (Nat.le_trans f74_0.lt K75.1) z76_0)) nin0))).ext E98).keep K99 (ninS (Nat.ne_of_lt (Nat.lt_of_lt_of_le (Nat.le_trans (Nat.le_trans (Nat.le_trans (Nat.le_trans (Nat.le_trans (Nat.le_trans (Nat.le_trans (Nat.le_trans (Nat.le_trans (Nat.le_trans (Nat.le_trans (Nat.le_trans f74_0.lt K75.1) K76.1) E80.1) E81.1) K82.1) K83.1) K84.1) E89.1) E90.1) K91.1) K92.1) K93.1) (Nat.le_of_eq g98.symm))) nin0))
    have c107 : Fld Z T99.heap r74 "com/example/wakenitz/wakenitz/measure/Score" "f1" "D" (.double (own_d (own_fig x1 (2 : Int32)))) := ((((((((((((((f74_3.keep K75 (ninS (Ne.symm (Nat.ne_of_lt (Nat.lt_of_lt_of_le (Nat.le_trans A72.lt E73.1) z74_0))) nin0)).keep K76 (ninS (Ne.symm (Nat.ne_of_lt (Nat.lt_of_lt_of_le (Nat.le_trans (Nat.le_trans (Nat.le_trans A70.lt K71.1) E72.1) E73.1) z74_0))) nin0)).ext E80).ext E81).keep K82 nin0).keep K83 (ninS (Nat.ne_of_lt (Nat.lt_of_lt_of_le (Nat.le_trans (Nat.le_trans f74_0.lt K75.1) K76.1) (Nat.le_of_eq g80.symm))) nin0)).keep K84 (ninS (Ne.symm (Nat.ne_of_lt (Nat.lt_of_lt_of_le (Nat.le_trans (Nat.le_trans (Nat.le_trans A70.lt K71.1) E72.1) E73.1) z74_0))) (ninS (Nat.ne_of_lt (Nat.lt_of_lt_of_le (Nat.le_trans f74_0.lt K75.1) z76_0)) nin0))).ext E89).ext E90).keep K91 nin0).keep K92 (ninS (Nat.ne_of_lt (Nat.lt_of_lt_of_le (Nat.le_trans (Nat.le_trans (Nat.le_trans (Nat.le_trans (Nat.le_trans (Nat.le_trans (Nat.le_trans f74_0.lt K75.1) K76.1) E80.1) E81.1) K82.1) K83.1) K84.1) (Nat.le_of_eq g89.symm))) nin0)).keep K93 (ninS (Ne.symm (Nat.ne_of_lt (Nat.lt_of_lt_of_le (Nat.le_trans (Nat.le_trans (Nat.le_trans A70.lt K71.1) E72.1) E73.1) z74_0))) (ninS (Nat.ne_of_lt (Nat.lt_of_lt_of_le (Nat.le_trans f74_0.lt K75.1) z76_0)) nin0))).ext E98).keep K99 (ninS (Nat.ne_of_lt (Nat.lt_of_lt_of_le (Nat.le_trans (Nat.le_trans (Nat.le_trans (Nat.le_trans (Nat.le_trans (Nat.le_trans (Nat.le_trans (Nat.le_trans (Nat.le_trans (Nat.le_trans (Nat.le_trans (Nat.le_trans f74_0.lt K75.1) K76.1) E80.1) E81.1) K82.1) K83.1) K84.1) E89.1) E90.1) K91.1) K92.1) K93.1) (Nat.le_of_eq g98.symm))) nin0))
    have c108 : Fld Z T99.heap r74 "com/example/wakenitz/wakenitz/measure/Score" "similarity" "D" (.double (own_d (own_fig x1 (3 : Int32)))) := ((((((((((((((f74_4.keep K75 (ninS (Ne.symm (Nat.ne_of_lt (Nat.lt_of_lt_of_le (Nat.le_trans A72.lt E73.1) z74_0))) nin0)).keep K76 (ninS (Ne.symm (Nat.ne_of_lt (Nat.lt_of_lt_of_le (Nat.le_trans (Nat.le_trans (Nat.le_trans A70.lt K71.1) E72.1) E73.1) z74_0))) nin0)).ext E80).ext E81).keep K82 nin0).keep K83 (ninS (Nat.ne_of_lt (Nat.lt_of_lt_of_le (Nat.le_trans (Nat.le_trans f74_0.lt K75.1) K76.1) (Nat.le_of_eq g80.symm))) nin0)).keep K84 (ninS (Ne.symm (Nat.ne_of_lt (Nat.lt_of_lt_of_le (Nat.le_trans (Nat.le_trans (Nat.le_trans A70.lt K71.1) E72.1) E73.1) z74_0))) (ninS (Nat.ne_of_lt (Nat.lt_of_lt_of_le (Nat.le_trans f74_0.lt K75.1) z76_0)) nin0))).ext E89).ext E90).keep K91 nin0).keep K92 (ninS (Nat.ne_of_lt (Nat.lt_of_lt_of_le (Nat.le_trans (Nat.le_trans (Nat.le_trans (Nat.le_trans (Nat.le_trans (Nat.le_trans (Nat.le_trans f74_0.lt K75.1) K76.1) E80.1) E81.1) K82.1) K83.1) K84.1) (Nat.le_of_eq g89.symm))) nin0)).keep K93 (ninS (Ne.symm (Nat.ne_of_lt (Nat.lt_of_lt_of_le (Nat.le_trans (Nat.le_trans (Nat.le_trans A70.lt K71.1) E72.1) E73.1) z74_0))) (ninS (Nat.ne_of_lt (Nat.lt_of_lt_of_le (Nat.le_trans f74_0.lt K75.1) z76_0)) nin0))).ext E98).keep K99 (ninS (Nat.ne_of_lt (Nat.lt_of_lt_of_le (Nat.le_trans (Nat.le_trans (Nat.le_trans (Nat.le_trans (Nat.le_trans (Nat.le_trans (Nat.le_trans (Nat.le_trans (Nat.le_trans (Nat.le_trans (Nat.le_trans (Nat.le_trans f74_0.lt K75.1) K76.1) E80.1) E81.1) K82.1) K83.1) K84.1) E89.1) E90.1) K91.1) K92.1) K93.1) (Nat.le_of_eq g98.symm))) nin0))
    have c109 : Fld Z T99.heap b80 "com/example/wakenitz/wakenitz/measure/ScoreSheet$PageScore" "score" "Lcom/example/wakenitz/wakenitz/measure/Score;" (.ref r82) := ((((((((f83_1.keep K84 (ninS (Ne.symm (Nat.ne_of_lt (Nat.lt_of_lt_of_le (Nat.le_trans (Nat.le_trans (Nat.le_trans (Nat.le_trans (Nat.le_trans (Nat.le_trans A70.lt K71.1) E72.1) E73.1) K74.1) K75.1) K76.1) (Nat.le_of_eq g80.symm)))) (ninS (Ne.symm (Nat.ne_of_lt (Nat.lt_of_lt_of_le f76_5.lt (Nat.le_of_eq g80.symm)))) nin0))).ext E89).ext E90).keep K91 nin0).keep K92 (ninS (Nat.ne_of_lt (Nat.lt_of_lt_of_le (Nat.le_trans (Nat.le_trans (Nat.le_trans (Nat.le_trans A80.lt E81.1) K82.1) K83.1) K84.1) (Nat.le_of_eq g89.symm))) nin0)).keep K93 (ninS (Ne.symm (Nat.ne_of_lt (Nat.lt_of_lt_of_le (Nat.le_trans (Nat.le_trans (Nat.le_trans (Nat.le_trans (Nat.le_trans (Nat.le_trans A70.lt K71.1) E72.1) E73.1) K74.1) K75.1) K76.1) (Nat.le_of_eq g80.symm)))) (ninS (Ne.symm (Nat.ne_of_lt (Nat.lt_of_lt_of_le f76_5.lt (Nat.le_of_eq g80.symm)))) nin0))).ext E98).keep K99 (ninS (Nat.ne_of_lt (Nat.lt_of_lt_of_le (Nat.le_trans (Nat.le_trans (Nat.le_trans (Nat.le_trans (Nat.le_trans (Nat.le_trans (Nat.le_trans (Nat.le_trans (Nat.le_trans A80.lt E81.1) K82.1) K83.1) K84.1) E89.1) E90.1) K91.1) K92.1) K93.1) (Nat.le_of_eq g98.symm))) nin0))
    have c110 : Exa Z T99.heap r82 "com/example/wakenitz/wakenitz/measure/Score" := (((((((((f82_0.keep K83).keep K84).ext E89).ext E90).keep K91).keep K92).keep K93).ext E98).keep K99)
    have c111 : Fld Z T99.heap r82 "com/example/wakenitz/wakenitz/measure/Score" "precision" "D" (.double (own_d (own_fig x2 (0 : Int32)))) := (((((((((f82_1.keep K83 (ninS (Ne.symm (Nat.ne_of_lt (Nat.lt_of_lt_of_le (Nat.le_trans A80.lt E81.1) z82_0))) nin0)).keep K84 (ninS (Ne.symm (Nat.ne_of_lt (Nat.lt_of_lt_of_le (Nat.le_trans (Nat.le_trans (Nat.le_trans (Nat.le_trans (Nat.le_trans (Nat.le_trans (Nat.le_trans (Nat.le_trans A70.lt K71.1) E72.1) E73.1) K74.1) K75.1) K76.1) E80.1) E81.1) z82_0))) (ninS (Ne.symm (Nat.ne_of_lt (Nat.lt_of_lt_of_le (Nat.le_trans (Nat.le_trans f76_5.lt E80.1) E81.1) z82_0))) nin0))).ext E89).ext E90).keep K91 nin0).keep K92 (ninS (Nat.ne_of_lt (Nat.lt_of_lt_of_le (Nat.le_trans (Nat.le_trans f82_0.lt K83.1) K84.1) (Nat.le_of_eq g89.symm))) nin0)).keep K93 (ninS (Ne.symm (Nat.ne_of_lt (Nat.lt_of_lt_of_le (Nat.le_trans (Nat.le_trans (Nat.le_trans (Nat.le_trans (Nat.le_trans (Nat.le_trans (Nat.le_trans (Nat.le_trans A70.lt K71.1) E72.1) E73.1) K74.1) K75.1) K76.1) E80.1) E81.1) z82_0))) (ninS (Ne.symm (Nat.ne_of_lt (Nat.lt_of_lt_of_le (Nat.le_trans (Nat.le_trans f76_5.lt E80.1) E81.1) z82_0))) nin0))).ext E98).keep K99 (ninS (Nat.ne_of_lt (Nat.lt_of_lt_of_le (Nat.le_trans (Nat.le_trans (Nat.le_trans (Nat.le_trans (Nat.le_trans (Nat.le_trans (Nat.le_trans f82_0.lt K83.1) K84.1) E89.1) E90.1) K91.1) K92.1) K93.1) (Nat.le_of_eq g98.symm))) nin0))
    have c112 : Fld Z T99.heap r82 "com/example/wakenitz/wakenitz/measure/Score" "recall" "D" (.double (own_d (own_fig x2 (1 : Int32)))) := (((((((((f82_2.keep K83 (ninS (Ne.symm (Nat.ne_of_lt (Nat.lt_of_lt_of_le (Nat.le_trans A80.lt E81.1) z82_0))) nin0)).keep K84 (ninS (Ne.symm (Nat.ne_of_lt (Nat.lt_of_lt_of_le (Nat.le_trans (Nat.le_trans (Nat.le_trans (Nat.le_trans (Nat.le_trans (Nat.le_trans (Nat.le_trans (Nat.le_trans A70.lt K71.1) E72.1) E73.1) K74.1) K75.1) K76.1) E80.1) E81.1) z82_0))) (ninS (Ne.symm (Nat.ne_of_lt (Nat.lt_of_lt_of_le (Nat.le_trans (Nat.le_trans f76_5.lt E80.1) E81.1) z82_0))) nin0))).ext E89).ext E90).keep K91 nin0).keep K92 (ninS (Nat.ne_of_lt (Nat.lt_of_lt_of_le (Nat.le_trans (Nat.le_trans f82_0.lt K83.1) K84.1) (Nat.le_of_eq g89.symm))) nin0)).keep K93 (ninS (Ne.symm (Nat.ne_of_lt (Nat.lt_of_lt_of_le (Nat.le_trans (Nat.le_trans (Nat.le_trans (Nat.le_trans (Nat.le_trans (Nat.le_trans (Nat.le_trans (Nat.le_trans A70.lt K71.1) E72.1) E73.1) K74.1) K75.1) K76.1) E80.1) E81.1) z82_0))) (ninS (Ne.symm (Nat.ne_of_lt (Nat.lt_of_lt_of_le (Nat.le_trans (Nat.le_trans f76_5.lt E80.1) E81.1) z82_0))) nin0))).ext E98).keep K99 (ninS (Nat.ne_of_lt (Nat.lt_of_lt_of_le (Nat.le_trans (Nat.le_trans (Nat.le_trans (Nat.le_trans (Nat.le_trans (Nat.le_trans (Nat.le_trans f82_0.lt K83.1) K84.1) E89.1) E90.1) K91.1) K92.1) K93.1) (Nat.le_of_eq g98.symm))) nin0))
    have c113 : Fld Z T99.heap r82 "com/example/wakenitz/wakenitz/measure/Score" "f1" "D" (.double (own_d (own_fig x2 (2 : Int32)))) := (((((((((f82_3.keep K83 (ninS (Ne.symm (Nat.ne_of_lt (Nat.lt_of_lt_of_le (Nat.le_trans A80.lt E81.1) z82_0))) nin0)).keep K84 (ninS (Ne.symm (Nat.ne_of_lt (Nat.lt_of_lt_of_le (Nat.le_trans (Nat.le_trans (Nat.le_trans (Nat.le_trans (Nat.le_trans (Nat.le_trans (Nat.le_trans (Nat.le_trans A70.lt K71.1) E72.1) E73.1) K74.1) K75.1) K76.1) E80.1) E81.1) z82_0))) (ninS (Ne.symm (Nat.ne_of_lt (Nat.lt_of_lt_of_le (Nat.le_trans (Nat.le_trans f76_5.lt E80.1) E81.1) z82_0))) nin0))).ext E89).ext E90).keep K91 nin0).keep K92 (ninS (Nat.ne_of_lt (Nat.lt_of_lt_of_le (Nat.le_trans (Nat.le_trans f82_0.lt K83.1) K84.1) (Nat.le_of_eq g89.symm))) nin0)).keep K93 (ninS (Ne.symm (Nat.ne_of_lt (Nat.lt_of_lt_of_le (Nat.le_trans (Nat.le_trans (Nat.le_trans (Nat.le_trans (Nat.le_trans (Nat.le_trans (Nat.le_trans (Nat.le_trans A70.lt K71.1) E72.1) E73.1) K74.1) K75.1) K76.1) E80.1) E81.1) z82_0))) (ninS (Ne.symm (Nat.ne_of_lt (Nat.lt_of_lt_of_le (Nat.le_trans (Nat.le_trans f76_5.lt E80.1) E81.1) z82_0))) nin0))).ext E98).keep K99 (ninS (Nat.ne_of_lt (Nat.lt_of_lt_of_le (Nat.le_trans (Nat.le_trans (Nat.le_trans (Nat.le_trans (Nat.le_trans (Nat.le_trans (Nat.le_trans f82_0.lt K83.1) K84.1) E89.1) E90.1) K91.1) K92.1) K93.1) (Nat.le_of_eq g98.symm))) nin0))
    have c114 : Fld Z T99.heap r82 "com/example/wakenitz/wakenitz/measure/Score" "similarity" "D" (.double (own_d (own_fig x2 (3 : Int32)))) := (((((((((f82_4.keep K83 (ninS (Ne.symm (Nat.ne_of_lt (Nat.lt_of_lt_of_le (Nat.le_trans A80.lt E81.1) z82_0))) nin0)).keep K84 (ninS (Ne.symm (Nat.ne_of_lt (Nat.lt_of_lt_of_le (Nat.le_trans (Nat.le_trans (Nat.le_trans (Nat.le_trans (Nat.le_trans (Nat.le_trans (Nat.le_trans (Nat.le_trans A70.lt K71.1) E72.1) E73.1) K74.1) K75.1) K76.1) E80.1) E81.1) z82_0))) (ninS (Ne.symm (Nat.ne_of_lt (Nat.lt_of_lt_of_le (Nat.le_trans (Nat.le_trans f76_5.lt E80.1) E81.1) z82_0))) nin0))).ext E89).ext E90).keep K91 nin0).keep K92 (ninS (Nat.ne_of_lt (Nat.lt_of_lt_of_le (Nat.le_trans (Nat.le_trans f82_0.lt K83.1) K84.1) (Nat.le_of_eq g89.symm))) nin0)).keep K93 (ninS (Ne.symm (Nat.ne_of_lt (Nat.lt_of_lt_of_le (Nat.le_trans (Nat.le_trans (Nat.le_trans (Nat.le_trans (Nat.le_trans (Nat.le_trans (Nat.le_trans (Nat.le_trans A70.lt K71.1) E72.1) E73.1) K74.1) K75.1) K76.1) E80.1) E81.1) z82_0))) (ninS (Ne.symm (Nat.ne_of_lt (Nat.lt_of_lt_of_le (Nat.le_trans (Nat.le_trans f76_5.lt E80.1) E81.1) z82_0))) nin0))).ext E98).keep K99 (ninS (Nat.ne_of_lt (Nat.lt_of_lt_of_le (Nat.le_trans (Nat.le_trans (Nat.le_trans (Nat.le_trans (Nat.le_trans (Nat.le_trans (Nat.le_trans f82_0.lt K83.1) K84.1) E89.1) E90.1) K91.1) K92.1) K93.1) (Nat.le_of_eq g98.symm))) nin0))
    have c115 : Fld Z T99.heap b89 "com/example/wakenitz/wakenitz/measure/ScoreSheet$PageScore" "score" "Lcom/example/wakenitz/wakenitz/measure/Score;" (.ref r91) := (((f92_1.keep K93 (ninS (Ne.symm (Nat.ne_of_lt (Nat.lt_of_lt_of_le (Nat.le_trans (Nat.le_trans (Nat.le_trans (Nat.le_trans (Nat.le_trans (Nat.le_trans (Nat.le_trans (Nat.le_trans (Nat.le_trans (Nat.le_trans (Nat.le_trans A70.lt K71.1) E72.1) E73.1) K74.1) K75.1) K76.1) E80.1) E81.1) K82.1) K83.1) K84.1) (Nat.le_of_eq g89.symm)))) (ninS (Ne.symm (Nat.ne_of_lt (Nat.lt_of_lt_of_le (Nat.le_trans (Nat.le_trans (Nat.le_trans (Nat.le_trans (Nat.le_trans f76_5.lt E80.1) E81.1) K82.1) K83.1) K84.1) (Nat.le_of_eq g89.symm)))) nin0))).ext E98).keep K99 (ninS (Nat.ne_of_lt (Nat.lt_of_lt_of_le (Nat.le_trans (Nat.le_trans (Nat.le_trans (Nat.le_trans A89.lt E90.1) K91.1) K92.1) K93.1) (Nat.le_of_eq g98.symm))) nin0))
    have c116 : Fld Z T99.heap r91 "com/example/wakenitz/wakenitz/measure/Score" "precision" "D" (.double (own_d (own_fig x3 (0 : Int32)))) := ((((f91_1.keep K92 (ninS (Ne.symm (Nat.ne_of_lt (Nat.lt_of_lt_of_le (Nat.le_trans A89.lt E90.1) z91_0))) nin0)).keep K93 (ninS (Ne.symm (Nat.ne_of_lt (Nat.lt_of_lt_of_le (Nat.le_trans (Nat.le_trans (Nat.le_trans (Nat.le_trans (Nat.le_trans (Nat.le_trans (Nat.le_trans (Nat.le_trans (Nat.le_trans (Nat.le_trans (Nat.le_trans (Nat.le_trans (Nat.le_trans A70.lt K71.1) E72.1) E73.1) K74.1) K75.1) K76.1) E80.1) E81.1) K82.1) K83.1) K84.1) E89.1) E90.1) z91_0))) (ninS (Ne.symm (Nat.ne_of_lt (Nat.lt_of_lt_of_le (Nat.le_trans (Nat.le_trans (Nat.le_trans (Nat.le_trans (Nat.le_trans (Nat.le_trans (Nat.le_trans f76_5.lt E80.1) E81.1) K82.1) K83.1) K84.1) E89.1) E90.1) z91_0))) nin0))).ext E98).keep K99 (ninS (Nat.ne_of_lt (Nat.lt_of_lt_of_le (Nat.le_trans (Nat.le_trans f91_0.lt K92.1) K93.1) (Nat.le_of_eq g98.symm))) nin0))
    have c117 : Fld Z T99.heap r91 "com/example/wakenitz/wakenitz/measure/Score" "recall" "D" (.double (own_d (own_fig x3 (1 : Int32)))) := ((((f91_2.keep K92 (ninS (Ne.symm (Nat.ne_of_lt (Nat.lt_of_lt_of_le (Nat.le_trans A89.lt E90.1) z91_0))) nin0)).keep K93 (ninS (Ne.symm (Nat.ne_of_lt (Nat.lt_of_lt_of_le (Nat.le_trans (Nat.le_trans (Nat.le_trans (Nat.le_trans (Nat.le_trans (Nat.le_trans (Nat.le_trans (Nat.le_trans (Nat.le_trans (Nat.le_trans (Nat.le_trans (Nat.le_trans (Nat.le_trans A70.lt K71.1) E72.1) E73.1) K74.1) K75.1) K76.1) E80.1) E81.1) K82.1) K83.1) K84.1) E89.1) E90.1) z91_0))) (ninS (Ne.symm (Nat.ne_of_lt (Nat.lt_of_lt_of_le (Nat.le_trans (Nat.le_trans (Nat.le_trans (Nat.le_trans (Nat.le_trans (Nat.le_trans (Nat.le_trans f76_5.lt E80.1) E81.1) K82.1) K83.1) K84.1) E89.1) E90.1) z91_0))) nin0))).ext E98).keep K99 (ninS (Nat.ne_of_lt (Nat.lt_of_lt_of_le (Nat.le_trans (Nat.le_trans f91_0.lt K92.1) K93.1) (Nat.le_of_eq g98.symm))) nin0))
    have c118 : Fld Z T99.heap r91 "com/example/wakenitz/wakenitz/measure/Score" "f1" "D" (.double (own_d (own_fig x3 (2 : Int32)))) := ((((f91_3.keep K92 (ninS (Ne.symm (Nat.ne_of_lt (Nat.lt_of_lt_of_le (Nat.le_trans A89.lt E90.1) z91_0))) nin0)).keep K93 (ninS (Ne.symm (Nat.ne_of_lt (Nat.lt_of_lt_of_le (Nat.le_trans (Nat.le_trans (Nat.le_trans (Nat.le_trans (Nat.le_trans (Nat.le_trans (Nat.le_trans (Nat.le_trans (Nat.le_trans (Nat.le_trans (Nat.le_trans (Nat.le_trans (Nat.le_trans A70.lt K71.1) E72.1) E73.1) K74.1) K75.1) K76.1) E80.1) E81.1) K82.1) K83.1) K84.1) E89.1) E90.1) z91_0))) (ninS (Ne.symm (Nat.ne_of_lt (Nat.lt_of_lt_of_le (Nat.le_trans (Nat.le_trans (Nat.le_trans (Nat.le_trans (Nat.le_trans (Nat.le_trans (Nat.le_trans f76_5.lt E80.1) E81.1) K82.1) K83.1) K84.1) E89.1) E90.1) z91_0))) nin0))).ext E98).keep K99 (ninS (Nat.ne_of_lt (Nat.lt_of_lt_of_le (Nat.le_trans (Nat.le_trans f91_0.lt K92.1) K93.1) (Nat.le_of_eq g98.symm))) nin0))
    have c119 : Fld Z T99.heap r91 "com/example/wakenitz/wakenitz/measure/Score" "similarity" "D" (.double (own_d (own_fig x3 (3 : Int32)))) := ((((f91_4.keep K92 (ninS (Ne.symm (Nat.ne_of_lt (Nat.lt_of_lt_of_le (Nat.le_trans A89.lt E90.1) z91_0))) nin0)).keep K93 (ninS (Ne.symm (Nat.ne_of_lt (Nat.lt_of_lt_of_le (Nat.le_trans (Nat.le_trans (Nat.le_trans (Nat.le_trans (Nat.le_trans (Nat.le_trans (Nat.le_trans (Nat.le_trans (Nat.le_trans (Nat.le_trans (Nat.le_trans (Nat.le_trans (Nat.le_trans A70.lt K71.1) E72.1) E73.1) K74.1) K75.1) K76.1) E80.1) E81.1) K82.1) K83.1) K84.1) E89.1) E90.1) z91_0))) (ninS (Ne.symm (Nat.ne_of_lt (Nat.lt_of_lt_of_le (Nat.le_trans (Nat.le_trans (Nat.le_trans (Nat.le_trans (Nat.le_trans (Nat.le_trans (Nat.le_trans f76_5.lt E80.1) E81.1) K82.1) K83.1) K84.1) E89.1) E90.1) z91_0))) nin0))).ext E98).keep K99 (ninS (Nat.ne_of_lt (Nat.lt_of_lt_of_le (Nat.le_trans (Nat.le_trans f91_0.lt K92.1) K93.1) (Nat.le_of_eq g98.symm))) nin0))
    obtain ⟨_, T102, L102, X102, ⟨r102, rfl, M102, K102, z102_0, f102_0, f102_1, f102_2, f102_3, f102_4⟩, st102⟩ := callVirt X99 hx hZ90 hown90 (W_ hw 213 rfl) (W_ hw 214 rfl) (W_ hw 216 rfl) (notFace_of_selects (args := #[]) (mvT hZ90 (W_ hw 216 rfl))) (W_ hw 215 rfl) (W_ hw 114 rfl) (W_ hw 217 rfl) (by decide) (argsL := []) (rest := []) (own_m77 l Z a0 hw [] b98 r99 b72 b80 b89 ar99 ka99 r74 r82 r91 (own_fig x1 (0 : Int32)) (own_fig x1 (1 : Int32)) (own_fig x1 (2 : Int32)) (own_fig x1 (3 : Int32)) (own_fig x2 (0 : Int32)) (own_fig x2 (1 : Int32)) (own_fig x2 (2 : Int32)) (own_fig x2 (3 : Int32)) (own_fig x3 (0 : Int32)) (own_fig x3 (1 : Int32)) (own_fig x3 (2 : Int32)) (own_fig x3 (3 : Int32)) T99.heap n0 (((((((((((((((((((O0.ext E70).keep K71 (allS gn70 all0)).ext E72).ext E73).keep K74 all0).keep K75 (allS gn72 all0)).keep K76 (allS gn70 all0)).ext E80).ext E81).keep K82 all0).keep K83 (allS gn80 all0)).keep K84 (allS gn70 (allS gn76_0 all0))).ext E89).ext E90).keep K91 all0).keep K92 (allS gn89 all0)).keep K93 (allS gn70 (allS gn76_0 all0))).ext E98).keep K99 (allS gn98 all0)) (own_figr _ _) (own_figr _ _) (own_figr _ _) (own_figr _ _) (own_figr _ _) (own_figr _ _) (own_figr _ _) (own_figr _ _) (own_figr _ _) (own_figr _ _) (own_figr _ _) (own_figr _ _) f99_0 f99_1 f99_2 f99_3 f99_4 (c100.keep K99) c103 c104 c105 c106 c107 c108 (c101.keep K99) c109 c110 c111 c112 c113 c114 ((f93_4.ext E98).keep K99) c115 ((((f91_0.keep K92).keep K93).ext E98).keep K99) c116 c117 c118 c119) rfl f99_0 (lenOf own_pd21 rfl) (pc := 105) (Ls := #[lv_ x1, s_, lv_ x2, s_, lv_ x3, s_, iv x4, iv (3 : Int32), rv b70, u_]) (st := [(.ref b98)]) rfl (by rw [hml]; rfl) (hb hby at_105) (W := 0) (Nat.le_of_eq rfl) (by decide) (by decide) (by decide) (by decide)
    have N102 := Fr.app N99 M102
    have gn102_0 : n0 ≤ r102 := Nat.le_trans (old_le (((((((((((((((((((O0.ext E70).keep K71 (allS gn70 all0)).ext E72).ext E73).keep K74 all0).keep K75 (allS gn72 all0)).keep K76 (allS gn70 all0)).ext E80).ext E81).keep K82 all0).keep K83 (allS gn80 all0)).keep K84 (allS gn70 (allS gn76_0 all0))).ext E89).ext E90).keep K91 all0).keep K92 (allS gn89 all0)).keep K93 (allS gn70 (allS gn76_0 all0))).ext E98).keep K99 (allS gn98 all0))) z102_0
    refine Goes.via (B := T102.setTop (mkF m 108 #[lv_ x1, s_, lv_ x2, s_, lv_ x3, s_, iv x4, iv (3 : Int32), rv b70, u_] [(.ref r102)])) (fun t k => st102 _ k) ?_
    refine Gv T102 110 [] (fun t k => XS.astore X102.here hx rfl (hb hby at_108) rfl rfl (l' := #[lv_ x1, s_, lv_ x2, s_, lv_ x3, s_, iv x4, iv (3 : Int32), rv b70, rv r102]) rfl k) ?_
    refine Gv T102 112 [(.ref r102)] (fun t k => XS.aload X102.here hx rfl (hb hby at_110) rfl rfl k) ?_
    obtain ⟨_, T120, L120, X120, ⟨rfl, M120, K120⟩, st120⟩ := callVirt X102 hx hZ90 hown90 (W_ hw 309 rfl) (W_ hw 282 rfl) (W_ hw 284 rfl) (notFace_of_selects (args := #[]) (mvT hZ90 (W_ hw 284 rfl))) (W_ hw 283 rfl) (W_ hw 44 rfl) (W_ hw 285 rfl) (by decide) (argsL := []) (rest := []) (own_m71 l Z a0 hw [] r102 (own_q (3 : Int32) (((own_fig x1 (0 : Int32)) + (own_fig x2 (0 : Int32))) + (own_fig x3 (0 : Int32)))) T102.heap n0 ((((((((((((((((((((O0.ext E70).keep K71 (allS gn70 all0)).ext E72).ext E73).keep K74 all0).keep K75 (allS gn72 all0)).keep K76 (allS gn70 all0)).ext E80).ext E81).keep K82 all0).keep K83 (allS gn80 all0)).keep K84 (allS gn70 (allS gn76_0 all0))).ext E89).ext E90).keep K91 all0).keep K92 (allS gn89 all0)).keep K93 (allS gn70 (allS gn76_0 all0))).ext E98).keep K99 (allS gn98 all0)).keep K102 all0) f102_0 f102_1) rfl f102_0 (lenOf own_pd22 rfl) (pc := 112) (Ls := #[lv_ x1, s_, lv_ x2, s_, lv_ x3, s_, iv x4, iv (3 : Int32), rv b70, rv r102]) (st := [(.ref r102)]) rfl (by rw [hml]; rfl) (hb hby at_112) (W := 0) (Nat.le_of_eq rfl) (by decide) (by decide) (by decide) (by decide)
    have N120 := Fr.app N102 M120
    refine Goes.via (B := T120.setTop (mkF m 115 #[lv_ x1, s_, lv_ x2, s_, lv_ x3, s_, iv x4, iv (3 : Int32), rv b70, rv r102] [(.double (own_q (3 : Int32) (((own_fig x1 (0 : Int32)) + (own_fig x2 (0 : Int32))) + (own_fig x3 (0 : Int32)))))])) (fun t k => st120 _ k) ?_
    refine Gv T120 116 [(.long x1), (.double (own_q (3 : Int32) (((own_fig x1 (0 : Int32)) + (own_fig x2 (0 : Int32))) + (own_fig x3 (0 : Int32)))))] (fun t k => XS.lloadN X120.here hx rfl (hb hby at_115) rfl k) ?_
    refine Gv T120 117 [(.long x2), (.long x1), (.double (own_q (3 : Int32) (((own_fig x1 (0 : Int32)) + (own_fig x2 (0 : Int32))) + (own_fig x3 (0 : Int32)))))] (fun t k => XS.lloadN X120.here hx rfl (hb hby at_116) rfl k) ?_
    refine Gv T120 119 [(.long x3), (.long x2), (.long x1), (.double (own_q (3 : Int32) (((own_fig x1 (0 : Int32)) + (own_fig x2 (0 : Int32))) + (own_fig x3 (0 : Int32)))))] (fun t k => XS.lload X120.here hx rfl (hb hby at_117) rfl k) ?_
    refine Gv T120 121 [(.int (3 : Int32)), (.long x3), (.long x2), (.long x1), (.double (own_q (3 : Int32) (((own_fig x1 (0 : Int32)) + (own_fig x2 (0 : Int32))) + (own_fig x3 (0 : Int32)))))] (fun t k => XS.iload X120.here hx rfl (hb hby at_119) rfl k) ?_
    refine Gv T120 122 [(.int (0 : Int32)), (.int (3 : Int32)), (.long x3), (.long x2), (.long x1), (.double (own_q (3 : Int32) (((own_fig x1 (0 : Int32)) + (own_fig x2 (0 : Int32))) + (own_fig x3 (0 : Int32)))))] (fun t k => XS.iconst X120.here hx rfl (hb hby at_121) k) ?_
    obtain ⟨_, T121, L121, X121, ⟨rfl, M121, K121⟩, st121⟩ := callStatic X120 hx hZ90 hown90 (W_ hw 310 rfl) (W_ hw 311 rfl) (W_ hw 40 rfl) (W_ hw 312 rfl) (by decide) (argsL := [(.long x1), (.long x2), (.long x3), (.int (3 : Int32)), (.int (0 : Int32))]) (rest := [(.double (own_q (3 : Int32) (((own_fig x1 (0 : Int32)) + (own_fig x2 (0 : Int32))) + (own_fig x3 (0 : Int32)))))]) (own_m82 l Z a0 hw [] x1 x2 x3 (0 : Int32) T102.heap n0 ((((((((((((((((((((O0.ext E70).keep K71 (allS gn70 all0)).ext E72).ext E73).keep K74 all0).keep K75 (allS gn72 all0)).keep K76 (allS gn70 all0)).ext E80).ext E81).keep K82 all0).keep K83 (allS gn80 all0)).keep K84 (allS gn70 (allS gn76_0 all0))).ext E89).ext E90).keep K91 all0).keep K92 (allS gn89 all0)).keep K93 (allS gn70 (allS gn76_0 all0))).ext E98).keep K99 (allS gn98 all0)).keep K102 all0) ) K120 (lenOf own_pd28 rfl) (pc := 122) (Ls := #[lv_ x1, s_, lv_ x2, s_, lv_ x3, s_, iv x4, iv (3 : Int32), rv b70, rv r102]) (st := [(.int (0 : Int32)), (.int (3 : Int32)), (.long x3), (.long x2), (.long x1), (.double (own_q (3 : Int32) (((own_fig x1 (0 : Int32)) + (own_fig x2 (0 : Int32))) + (own_fig x3 (0 : Int32)))))]) rfl (by rw [hml]; rfl) (hb hby at_122) (W := 2) (Nat.le_of_eq rfl) (by decide) (by decide) (by decide) (by decide)
    have N121 := Fr.app N120 M121
    refine Goes.via (B := T121.setTop (mkF m 125 #[lv_ x1, s_, lv_ x2, s_, lv_ x3, s_, iv x4, iv (3 : Int32), rv b70, rv r102] [(.double (own_q (3 : Int32) (((own_fig x1 (0 : Int32)) + (own_fig x2 (0 : Int32))) + (own_fig x3 (0 : Int32))))), (.double (own_q (3 : Int32) (((own_fig x1 (0 : Int32)) + (own_fig x2 (0 : Int32))) + (own_fig x3 (0 : Int32)))))])) (fun t k => st121 _ k) ?_
    refine Gv T121 126 [(.int (0 : Int32))] (fun t k => XS.dcmpS X121.here hx rfl (hb hby at_125) rfl (own_qs (own_up (own_sum (a := 32) (b := 16) (own_sum (a := 16) (b := 16) (own_figr _ _) (own_figr _ _) (by decide)) (own_figr _ _) (by decide)) (by decide)) (by decide)).2 k) ?_
    refine Gv T121 129 [] (fun t k => XS.ifNo X121.here hx rfl (hb hby at_126) rfl (XT.i0_ne_f rfl) k) ?_
    refine Gv T121 131 [(.ref r102)] (fun t k => XS.aload X121.here hx rfl (hb hby at_129) rfl rfl k) ?_
    obtain ⟨_, T122, L122, X122, ⟨rfl, M122, K122⟩, st122⟩ := callVirt X121 hx hZ90 hown90 (W_ hw 316 rfl) (W_ hw 287 rfl) (W_ hw 289 rfl) (notFace_of_selects (args := #[]) (mvT hZ90 (W_ hw 289 rfl))) (W_ hw 288 rfl) (W_ hw 44 rfl) (W_ hw 290 rfl) (by decide) (argsL := []) (rest := []) (own_m72 l Z a0 hw [] r102 (own_q (3 : Int32) (((own_fig x1 (1 : Int32)) + (own_fig x2 (1 : Int32))) + (own_fig x3 (1 : Int32)))) T102.heap n0 ((((((((((((((((((((O0.ext E70).keep K71 (allS gn70 all0)).ext E72).ext E73).keep K74 all0).keep K75 (allS gn72 all0)).keep K76 (allS gn70 all0)).ext E80).ext E81).keep K82 all0).keep K83 (allS gn80 all0)).keep K84 (allS gn70 (allS gn76_0 all0))).ext E89).ext E90).keep K91 all0).keep K92 (allS gn89 all0)).keep K93 (allS gn70 (allS gn76_0 all0))).ext E98).keep K99 (allS gn98 all0)).keep K102 all0) f102_0 f102_2) K121 f102_0 (lenOf own_pd22 rfl) (pc := 131) (Ls := #[lv_ x1, s_, lv_ x2, s_, lv_ x3, s_, iv x4, iv (3 : Int32), rv b70, rv r102]) (st := [(.ref r102)]) rfl (by rw [hml]; rfl) (hb hby at_131) (W := 0) (Nat.le_of_eq rfl) (by decide) (by decide) (by decide) (by decide)
    have N122 := Fr.app N121 M122
    refine Goes.via (B := T122.setTop (mkF m 134 #[lv_ x1, s_, lv_ x2, s_, lv_ x3, s_, iv x4, iv (3 : Int32), rv b70, rv r102] [(.double (own_q (3 : Int32) (((own_fig x1 (1 : Int32)) + (own_fig x2 (1 : Int32))) + (own_fig x3 (1 : Int32)))))])) (fun t k => st122 _ k) ?_
    refine Gv T122 135 [(.long x1), (.double (own_q (3 : Int32) (((own_fig x1 (1 : Int32)) + (own_fig x2 (1 : Int32))) + (own_fig x3 (1 : Int32)))))] (fun t k => XS.lloadN X122.here hx rfl (hb hby at_134) rfl k) ?_
    refine Gv T122 136 [(.long x2), (.long x1), (.double (own_q (3 : Int32) (((own_fig x1 (1 : Int32)) + (own_fig x2 (1 : Int32))) + (own_fig x3 (1 : Int32)))))] (fun t k => XS.lloadN X122.here hx rfl (hb hby at_135) rfl k) ?_
    refine Gv T122 138 [(.long x3), (.long x2), (.long x1), (.double (own_q (3 : Int32) (((own_fig x1 (1 : Int32)) + (own_fig x2 (1 : Int32))) + (own_fig x3 (1 : Int32)))))] (fun t k => XS.lload X122.here hx rfl (hb hby at_136) rfl k) ?_
    refine Gv T122 140 [(.int (3 : Int32)), (.long x3), (.long x2), (.long x1), (.double (own_q (3 : Int32) (((own_fig x1 (1 : Int32)) + (own_fig x2 (1 : Int32))) + (own_fig x3 (1 : Int32)))))] (fun t k => XS.iload X122.here hx rfl (hb hby at_138) rfl k) ?_
    refine Gv T122 141 [(.int (1 : Int32)), (.int (3 : Int32)), (.long x3), (.long x2), (.long x1), (.double (own_q (3 : Int32) (((own_fig x1 (1 : Int32)) + (own_fig x2 (1 : Int32))) + (own_fig x3 (1 : Int32)))))] (fun t k => XS.iconst X122.here hx rfl (hb hby at_140) k) ?_
    obtain ⟨_, T123, L123, X123, ⟨rfl, M123, K123⟩, st123⟩ := callStatic X122 hx hZ90 hown90 (W_ hw 310 rfl) (W_ hw 311 rfl) (W_ hw 40 rfl) (W_ hw 312 rfl) (by decide) (argsL := [(.long x1), (.long x2), (.long x3), (.int (3 : Int32)), (.int (1 : Int32))]) (rest := [(.double (own_q (3 : Int32) (((own_fig x1 (1 : Int32)) + (own_fig x2 (1 : Int32))) + (own_fig x3 (1 : Int32)))))]) (own_m82 l Z a0 hw [] x1 x2 x3 (1 : Int32) T102.heap n0 ((((((((((((((((((((O0.ext E70).keep K71 (allS gn70 all0)).ext E72).ext E73).keep K74 all0).keep K75 (allS gn72 all0)).keep K76 (allS gn70 all0)).ext E80).ext E81).keep K82 all0).keep K83 (allS gn80 all0)).keep K84 (allS gn70 (allS gn76_0 all0))).ext E89).ext E90).keep K91 all0).keep K92 (allS gn89 all0)).keep K93 (allS gn70 (allS gn76_0 all0))).ext E98).keep K99 (allS gn98 all0)).keep K102 all0) ) K122 (lenOf own_pd28 rfl) (pc := 141) (Ls := #[lv_ x1, s_, lv_ x2, s_, lv_ x3, s_, iv x4, iv (3 : Int32), rv b70, rv r102]) (st := [(.int (1 : Int32)), (.int (3 : Int32)), (.long x3), (.long x2), (.long x1), (.double (own_q (3 : Int32) (((own_fig x1 (1 : Int32)) + (own_fig x2 (1 : Int32))) + (own_fig x3 (1 : Int32)))))]) rfl (by rw [hml]; rfl) (hb hby at_141) (W := 2) (Nat.le_of_eq rfl) (by decide) (by decide) (by decide) (by decide)
    have N123 := Fr.app N122 M123
    refine Goes.via (B := T123.setTop (mkF m 144 #[lv_ x1, s_, lv_ x2, s_, lv_ x3, s_, iv x4, iv (3 : Int32), rv b70, rv r102] [(.double (own_q (3 : Int32) (((own_fig x1 (1 : Int32)) + (own_fig x2 (1 : Int32))) + (own_fig x3 (1 : Int32))))), (.double (own_q (3 : Int32) (((own_fig x1 (1 : Int32)) + (own_fig x2 (1 : Int32))) + (own_fig x3 (1 : Int32)))))])) (fun t k => st123 _ k) ?_
    refine Gv T123 145 [(.int (0 : Int32))] (fun t k => XS.dcmpS X123.here hx rfl (hb hby at_144) rfl (own_qs (own_up (own_sum (a := 32) (b := 16) (own_sum (a := 16) (b := 16) (own_figr _ _) (own_figr _ _) (by decide)) (own_figr _ _) (by decide)) (by decide)) (by decide)).2 k) ?_
    refine Gv T123 148 [] (fun t k => XS.ifNo X123.here hx rfl (hb hby at_145) rfl (XT.i0_ne_f rfl) k) ?_
    refine Gv T123 150 [(.ref r102)] (fun t k => XS.aload X123.here hx rfl (hb hby at_148) rfl rfl k) ?_
    obtain ⟨_, T124, L124, X124, ⟨rfl, M124, K124⟩, st124⟩ := callVirt X123 hx hZ90 hown90 (W_ hw 317 rfl) (W_ hw 292 rfl) (W_ hw 294 rfl) (notFace_of_selects (args := #[]) (mvT hZ90 (W_ hw 294 rfl))) (W_ hw 293 rfl) (W_ hw 44 rfl) (W_ hw 295 rfl) (by decide) (argsL := []) (rest := []) (own_m73 l Z a0 hw [] r102 (own_q (3 : Int32) (((own_fig x1 (2 : Int32)) + (own_fig x2 (2 : Int32))) + (own_fig x3 (2 : Int32)))) T102.heap n0 ((((((((((((((((((((O0.ext E70).keep K71 (allS gn70 all0)).ext E72).ext E73).keep K74 all0).keep K75 (allS gn72 all0)).keep K76 (allS gn70 all0)).ext E80).ext E81).keep K82 all0).keep K83 (allS gn80 all0)).keep K84 (allS gn70 (allS gn76_0 all0))).ext E89).ext E90).keep K91 all0).keep K92 (allS gn89 all0)).keep K93 (allS gn70 (allS gn76_0 all0))).ext E98).keep K99 (allS gn98 all0)).keep K102 all0) f102_0 f102_3) K123 f102_0 (lenOf own_pd22 rfl) (pc := 150) (Ls := #[lv_ x1, s_, lv_ x2, s_, lv_ x3, s_, iv x4, iv (3 : Int32), rv b70, rv r102]) (st := [(.ref r102)]) rfl (by rw [hml]; rfl) (hb hby at_150) (W := 0) (Nat.le_of_eq rfl) (by decide) (by decide) (by decide) (by decide)
    have N124 := Fr.app N123 M124
    refine Goes.via (B := T124.setTop (mkF m 153 #[lv_ x1, s_, lv_ x2, s_, lv_ x3, s_, iv x4, iv (3 : Int32), rv b70, rv r102] [(.double (own_q (3 : Int32) (((own_fig x1 (2 : Int32)) + (own_fig x2 (2 : Int32))) + (own_fig x3 (2 : Int32)))))])) (fun t k => st124 _ k) ?_
    refine Gv T124 154 [(.long x1), (.double (own_q (3 : Int32) (((own_fig x1 (2 : Int32)) + (own_fig x2 (2 : Int32))) + (own_fig x3 (2 : Int32)))))] (fun t k => XS.lloadN X124.here hx rfl (hb hby at_153) rfl k) ?_
    refine Gv T124 155 [(.long x2), (.long x1), (.double (own_q (3 : Int32) (((own_fig x1 (2 : Int32)) + (own_fig x2 (2 : Int32))) + (own_fig x3 (2 : Int32)))))] (fun t k => XS.lloadN X124.here hx rfl (hb hby at_154) rfl k) ?_
    refine Gv T124 157 [(.long x3), (.long x2), (.long x1), (.double (own_q (3 : Int32) (((own_fig x1 (2 : Int32)) + (own_fig x2 (2 : Int32))) + (own_fig x3 (2 : Int32)))))] (fun t k => XS.lload X124.here hx rfl (hb hby at_155) rfl k) ?_
    refine Gv T124 159 [(.int (3 : Int32)), (.long x3), (.long x2), (.long x1), (.double (own_q (3 : Int32) (((own_fig x1 (2 : Int32)) + (own_fig x2 (2 : Int32))) + (own_fig x3 (2 : Int32)))))] (fun t k => XS.iload X124.here hx rfl (hb hby at_157) rfl k) ?_
    refine Gv T124 160 [(.int (2 : Int32)), (.int (3 : Int32)), (.long x3), (.long x2), (.long x1), (.double (own_q (3 : Int32) (((own_fig x1 (2 : Int32)) + (own_fig x2 (2 : Int32))) + (own_fig x3 (2 : Int32)))))] (fun t k => XS.iconst X124.here hx rfl (hb hby at_159) k) ?_
    obtain ⟨_, T125, L125, X125, ⟨rfl, M125, K125⟩, st125⟩ := callStatic X124 hx hZ90 hown90 (W_ hw 310 rfl) (W_ hw 311 rfl) (W_ hw 40 rfl) (W_ hw 312 rfl) (by decide) (argsL := [(.long x1), (.long x2), (.long x3), (.int (3 : Int32)), (.int (2 : Int32))]) (rest := [(.double (own_q (3 : Int32) (((own_fig x1 (2 : Int32)) + (own_fig x2 (2 : Int32))) + (own_fig x3 (2 : Int32)))))]) (own_m82 l Z a0 hw [] x1 x2 x3 (2 : Int32) T102.heap n0 ((((((((((((((((((((O0.ext E70).keep K71 (allS gn70 all0)).ext E72).ext E73).keep K74 all0).keep K75 (allS gn72 all0)).keep K76 (allS gn70 all0)).ext E80).ext E81).keep K82 all0).keep K83 (allS gn80 all0)).keep K84 (allS gn70 (allS gn76_0 all0))).ext E89).ext E90).keep K91 all0).keep K92 (allS gn89 all0)).keep K93 (allS gn70 (allS gn76_0 all0))).ext E98).keep K99 (allS gn98 all0)).keep K102 all0) ) K124 (lenOf own_pd28 rfl) (pc := 160) (Ls := #[lv_ x1, s_, lv_ x2, s_, lv_ x3, s_, iv x4, iv (3 : Int32), rv b70, rv r102]) (st := [(.int (2 : Int32)), (.int (3 : Int32)), (.long x3), (.long x2), (.long x1), (.double (own_q (3 : Int32) (((own_fig x1 (2 : Int32)) + (own_fig x2 (2 : Int32))) + (own_fig x3 (2 : Int32)))))]) rfl (by rw [hml]; rfl) (hb hby at_160) (W := 2) (Nat.le_of_eq rfl) (by decide) (by decide) (by decide) (by decide)
    have N125 := Fr.app N124 M125
    refine Goes.via (B := T125.setTop (mkF m 163 #[lv_ x1, s_, lv_ x2, s_, lv_ x3, s_, iv x4, iv (3 : Int32), rv b70, rv r102] [(.double (own_q (3 : Int32) (((own_fig x1 (2 : Int32)) + (own_fig x2 (2 : Int32))) + (own_fig x3 (2 : Int32))))), (.double (own_q (3 : Int32) (((own_fig x1 (2 : Int32)) + (own_fig x2 (2 : Int32))) + (own_fig x3 (2 : Int32)))))])) (fun t k => st125 _ k) ?_
    refine Gv T125 164 [(.int (0 : Int32))] (fun t k => XS.dcmpS X125.here hx rfl (hb hby at_163) rfl (own_qs (own_up (own_sum (a := 32) (b := 16) (own_sum (a := 16) (b := 16) (own_figr _ _) (own_figr _ _) (by decide)) (own_figr _ _) (by decide)) (by decide)) (by decide)).2 k) ?_
    refine Gv T125 167 [] (fun t k => XS.ifNo X125.here hx rfl (hb hby at_164) rfl (XT.i0_ne_f rfl) k) ?_
    refine Gv T125 169 [(.ref r102)] (fun t k => XS.aload X125.here hx rfl (hb hby at_167) rfl rfl k) ?_
    obtain ⟨_, T126, L126, X126, ⟨rfl, M126, K126⟩, st126⟩ := callVirt X125 hx hZ90 hown90 (W_ hw 318 rfl) (W_ hw 297 rfl) (W_ hw 299 rfl) (notFace_of_selects (args := #[]) (mvT hZ90 (W_ hw 299 rfl))) (W_ hw 298 rfl) (W_ hw 44 rfl) (W_ hw 300 rfl) (by decide) (argsL := []) (rest := []) (own_m74 l Z a0 hw [] r102 (own_q (3 : Int32) (((own_fig x1 (3 : Int32)) + (own_fig x2 (3 : Int32))) + (own_fig x3 (3 : Int32)))) T102.heap n0 ((((((((((((((((((((O0.ext E70).keep K71 (allS gn70 all0)).ext E72).ext E73).keep K74 all0).keep K75 (allS gn72 all0)).keep K76 (allS gn70 all0)).ext E80).ext E81).keep K82 all0).keep K83 (allS gn80 all0)).keep K84 (allS gn70 (allS gn76_0 all0))).ext E89).ext E90).keep K91 all0).keep K92 (allS gn89 all0)).keep K93 (allS gn70 (allS gn76_0 all0))).ext E98).keep K99 (allS gn98 all0)).keep K102 all0) f102_0 f102_4) K125 f102_0 (lenOf own_pd22 rfl) (pc := 169) (Ls := #[lv_ x1, s_, lv_ x2, s_, lv_ x3, s_, iv x4, iv (3 : Int32), rv b70, rv r102]) (st := [(.ref r102)]) rfl (by rw [hml]; rfl) (hb hby at_169) (W := 0) (Nat.le_of_eq rfl) (by decide) (by decide) (by decide) (by decide)
    have N126 := Fr.app N125 M126
    refine Goes.via (B := T126.setTop (mkF m 172 #[lv_ x1, s_, lv_ x2, s_, lv_ x3, s_, iv x4, iv (3 : Int32), rv b70, rv r102] [(.double (own_q (3 : Int32) (((own_fig x1 (3 : Int32)) + (own_fig x2 (3 : Int32))) + (own_fig x3 (3 : Int32)))))])) (fun t k => st126 _ k) ?_
    refine Gv T126 173 [(.long x1), (.double (own_q (3 : Int32) (((own_fig x1 (3 : Int32)) + (own_fig x2 (3 : Int32))) + (own_fig x3 (3 : Int32)))))] (fun t k => XS.lloadN X126.here hx rfl (hb hby at_172) rfl k) ?_
    refine Gv T126 174 [(.long x2), (.long x1), (.double (own_q (3 : Int32) (((own_fig x1 (3 : Int32)) + (own_fig x2 (3 : Int32))) + (own_fig x3 (3 : Int32)))))] (fun t k => XS.lloadN X126.here hx rfl (hb hby at_173) rfl k) ?_
    refine Gv T126 176 [(.long x3), (.long x2), (.long x1), (.double (own_q (3 : Int32) (((own_fig x1 (3 : Int32)) + (own_fig x2 (3 : Int32))) + (own_fig x3 (3 : Int32)))))] (fun t k => XS.lload X126.here hx rfl (hb hby at_174) rfl k) ?_
    refine Gv T126 178 [(.int (3 : Int32)), (.long x3), (.long x2), (.long x1), (.double (own_q (3 : Int32) (((own_fig x1 (3 : Int32)) + (own_fig x2 (3 : Int32))) + (own_fig x3 (3 : Int32)))))] (fun t k => XS.iload X126.here hx rfl (hb hby at_176) rfl k) ?_
    refine Gv T126 179 [(.int (3 : Int32)), (.int (3 : Int32)), (.long x3), (.long x2), (.long x1), (.double (own_q (3 : Int32) (((own_fig x1 (3 : Int32)) + (own_fig x2 (3 : Int32))) + (own_fig x3 (3 : Int32)))))] (fun t k => XS.iconst X126.here hx rfl (hb hby at_178) k) ?_
    obtain ⟨_, T127, L127, X127, ⟨rfl, M127, K127⟩, st127⟩ := callStatic X126 hx hZ90 hown90 (W_ hw 310 rfl) (W_ hw 311 rfl) (W_ hw 40 rfl) (W_ hw 312 rfl) (by decide) (argsL := [(.long x1), (.long x2), (.long x3), (.int (3 : Int32)), (.int (3 : Int32))]) (rest := [(.double (own_q (3 : Int32) (((own_fig x1 (3 : Int32)) + (own_fig x2 (3 : Int32))) + (own_fig x3 (3 : Int32)))))]) (own_m82 l Z a0 hw [] x1 x2 x3 (3 : Int32) T102.heap n0 ((((((((((((((((((((O0.ext E70).keep K71 (allS gn70 all0)).ext E72).ext E73).keep K74 all0).keep K75 (allS gn72 all0)).keep K76 (allS gn70 all0)).ext E80).ext E81).keep K82 all0).keep K83 (allS gn80 all0)).keep K84 (allS gn70 (allS gn76_0 all0))).ext E89).ext E90).keep K91 all0).keep K92 (allS gn89 all0)).keep K93 (allS gn70 (allS gn76_0 all0))).ext E98).keep K99 (allS gn98 all0)).keep K102 all0) ) K126 (lenOf own_pd28 rfl) (pc := 179) (Ls := #[lv_ x1, s_, lv_ x2, s_, lv_ x3, s_, iv x4, iv (3 : Int32), rv b70, rv r102]) (st := [(.int (3 : Int32)), (.int (3 : Int32)), (.long x3), (.long x2), (.long x1), (.double (own_q (3 : Int32) (((own_fig x1 (3 : Int32)) + (own_fig x2 (3 : Int32))) + (own_fig x3 (3 : Int32)))))]) rfl (by rw [hml]; rfl) (hb hby at_179) (W := 2) (Nat.le_of_eq rfl) (by decide) (by decide) (by decide) (by decide)
    have N127 := Fr.app N126 M127
    refine Goes.via (B := T127.setTop (mkF m 182 #[lv_ x1, s_, lv_ x2, s_, lv_ x3, s_, iv x4, iv (3 : Int32), rv b70, rv r102] [(.double (own_q (3 : Int32) (((own_fig x1 (3 : Int32)) + (own_fig x2 (3 : Int32))) + (own_fig x3 (3 : Int32))))), (.double (own_q (3 : Int32) (((own_fig x1 (3 : Int32)) + (own_fig x2 (3 : Int32))) + (own_fig x3 (3 : Int32)))))])) (fun t k => st127 _ k) ?_
    refine Gv T127 183 [(.int (0 : Int32))] (fun t k => XS.dcmpS X127.here hx rfl (hb hby at_182) rfl (own_qs (own_up (own_sum (a := 32) (b := 16) (own_sum (a := 16) (b := 16) (own_figr _ _) (own_figr _ _) (by decide)) (own_figr _ _) (by decide)) (by decide)) (by decide)).2 k) ?_
    refine Gv T127 186 [] (fun t k => XS.ifNo X127.here hx rfl (hb hby at_183) rfl (XT.i0_ne_f rfl) k) ?_
    refine Gv T127 187 [(.int (1 : Int32))] (fun t k => XS.iconst X127.here hx rfl (hb hby at_186) k) ?_
    refine Gv T127 191 [(.int (1 : Int32))] (fun t k => XS.goto X127.here hx rfl (pc0 := 187) (pc' := 191) rfl (hb hby at_187) (by decide) (by decide) k) ?_
    exact finN (Q := (own_Q83 Z x1 x2 x3 x4 aD kD em mr h0 n0)) (F := ReturnedEndW) (C := (room_1).cells) (S := (room_1).slots) X127 hx (t := .boolean) Bd.returns (by simp) (z' := (1 : Int32)) rfl (hb hby at_191) K127 ⟨rfl, N127, trivial⟩ (lvW X127 hlk hS90 K127 (Nat.le_trans (Nat.le_trans (Nat.le_trans (Nat.le_trans (Nat.le_trans (Nat.le_trans hk90 K91.1) K92.1) K93.1) E98.1) K99.1) K102.1) (by decide) (by decide))
set_option maxRecDepth 65536 in
set_option maxHeartbeats 40000000 in
theorem comes_1 {Post : Tables → Env → Array Value → State → Outcome → State → Prop} (hpost : ∀ tb e args s v u, (limb_1_1.after args s (.returned v) u = true ∧ limb_1_2.after args s (.returned v) u = true ∧ True) → ReturnedEndW s (.returned v) u (Jvm.fieldLocs frame_1_writes args s ++ Jvm.arrayLocs frame_1_arrays args s ++ Jvm.staticLocs frame_1_statics s) 48 3264 → Post tb e args s (.returned v) u) :
    ArmFor flags0 classFile x code maxLocals ret World_1 tables_1 room_1 Calls_1 rest_1 Pre_1 Post := by
  intro l hfl _ _ p e ha hc hk s m args below hf hA hF happ hP
  obtain ⟨hcalls, hrest, hpre⟩ := hP
  obtain ⟨-, -, -, hnamed, -, -, -, hat⟩ := (Spec.applies_iff hf).mp happ
  obtain ⟨hg, hn⟩ := and_e (Cond.before_iff.mp (show (Jvm.Cond.and given_1 narrow_1).before args s = true from hpre))
  obtain ⟨g_0, r_0⟩ := and_e hg
  obtain ⟨g_1, r_1⟩ := and_e r_0
  obtain ⟨g_2, r_2⟩ := and_e r_1
  obtain ⟨g_3, r_3⟩ := and_e r_2
  obtain ⟨w0, w1, w2, w3, rfl⟩ : ∃ w0 w1 w2 w3 : Value, args = #[w0, w1, w2, w3] := by
    have hs : args.size = 4 := by simpa [Cond.value, given_1] using g_0
    obtain ⟨L⟩ := args
    match L, hs with
    | [w0, w1, w2, w3], _ => exact ⟨w0, w1, w2, w3, rfl⟩
  have hw := fun d (hd : d ∈ tables_1) => atoms_spec (ws := Jvm.Cond.code x code maxLocals ret :: tables_1) hat d (List.mem_cons_of_mem _ hd)
  obtain ⟨hsets, hown0⟩ := atoms_of _ (rest_1_c_eq ▸ (show rest_1_c.before _ s = true from hrest))
  have hfit : Fit s := fun {y c} hc i hi => by
    obtain ⟨ha, rfl⟩ := Array.getElem?_eq_some_iff.mp hc
    have q := List.all_eq_true.mp ((Array.all_eq_true_iff_forall_mem.mp hF) _ (Array.getElem_mem ha)) i (List.mem_range.mpr hi)
    simpa [Array.getElem?_eq_getElem hi] using q
  obtain ⟨i0, ei0⟩ := isL_v g_1
  obtain rfl : w0 = (.long i0) := Option.some.inj ei0
  obtain ⟨i1, ei1⟩ := isL_v g_2
  obtain rfl : w1 = (.long i1) := Option.some.inj ei1
  obtain ⟨i2, ei2⟩ := isL_v g_3
  obtain rfl : w2 = (.long i2) := Option.some.inj ei2
  obtain ⟨i3, ei3⟩ := is_v r_3
  obtain rfl : w3 = (.int i3) := Option.some.inj ei3
  have n_0 := hn
  obtain ⟨⟨cm, km, mr, hm1, hm2, hm3⟩, -⟩ := hcalls
  have Mi : Mirr s "[Ljava/lang/Object;" mr := ⟨cm, km, hm1, hm2, hm3.1⟩
  have zA := Cond.before_iff.mp (hsets _ (List.mem_of_getElem? (i := 6) rfl))
  have zL := Cond.before_iff.mp (hsets _ (List.mem_of_getElem? (i := 8) rfl))
  obtain ⟨aD, eD⟩ := arr_v zA
  have S_D : Sta s s.heap "java/util/ArrayList" "DEFAULTCAPACITY_EMPTY_ELEMENTDATA" "[Ljava/lang/Object;" (.ref aD) := Sta.start eD (Or.inr ⟨(W_ hw 3 rfl), (hsets _ (List.mem_of_getElem? (i := 2) rfl))⟩)
  obtain ⟨cD, A_D⟩ := Arr.start eD zA
  obtain ⟨szD, leD⟩ := len_is eD A_D zL
  have V_D : Arv s s.heap aD cD.cls (.object "java/lang/Object") (0 : Int32) [] .null := Arv.start hfit A_D szD leD (by decide) rfl trivial
  obtain ⟨st_EMPTY, es_EMPTY⟩ := exa_v (Cond.before_iff.mp (hsets _ (List.mem_of_getElem? (i := 11) rfl)))
  have S_EMPTY : Sta s s.heap "java/util/ImmutableCollections" "EMPTY" "Ljava/lang/Object;" (.ref st_EMPTY) := Sta.start es_EMPTY (Or.inl (hsets _ (List.mem_of_getElem? (i := 10) rfl)))
  have E_EMPTY : Exa s s.heap st_EMPTY "java/lang/Object" := Exa.start es_EMPTY (Cond.before_iff.mp (hsets _ (List.mem_of_getElem? (i := 11) rfl)))
  obtain ⟨n, o, h1, h2, h3, _, L, rfl, ⟨rfl, N, -⟩, hq⟩ := own_m83 l s _ hw tables_1 i0 i1 i2 i3 aD cD.cls st_EMPTY mr s.heap s.heap.size (Old.start s) Mi E_EMPTY.lt S_D V_D S_EMPTY p e ha hc hk s m _ below hf ((Spec.applies_iff_loose hf).mp happ).1 ⟨rfl, State.Warmed39.refl s, rfl⟩ trivial
  refine ⟨n, _, h1, h2, h3, hpost _ _ _ _ _ _ ⟨Cond.after_iff.mpr rfl, Cond.after_iff.mpr (eq_i res_at (Term.int_eval (1)) rfl), trivial⟩ ⟨hq.1, hq.2.1, hq.2.2.1, (hq.2.2.2.sift fun y hy => Or.inr (N y hy)).mono (by decide) (by decide)⟩⟩
theorem main_1_1 : Claimed_1_1 := comes_1 fun _ _ _ _ _ _ h hF => ⟨h.1, hF⟩
theorem main_1_2 : Claimed_1_2 := comes_1 fun _ _ _ _ _ _ h hF => ⟨h.2.1, hF⟩
end Jvm.Pilot.@@N@@
namespace Jvm.Pilot.@@N@@
open Jvm Jvm.ClassFile Sem Op Lib Jvm.Free Jvm.Stand Jvm.Pilot.@@N@@.Jvm.D
/-! MADE BY PROGRAM (witnessworld.py) out of the Statement's table words and the real class files: 39 classes; the members and pool entries that the words name. The judged class is class 1, her method 5. -/
namespace start1
open Jvm.ClassFile
def u (s : String) : CpInfo := .utf8 (stringToUtf16 s)
/-- a pool by its gaps: so many unusable entries, then the entry; so many at the end -/
def gap : Nat → List CpInfo → List CpInfo
  | 0, r => r
  | n + 1, r => .unusable :: gap n r
def poolList (es : List (Nat × CpInfo)) (last : Nat) : List CpInfo := es.foldr (fun e r => gap e.1 (e.2 :: r)) (gap last [])
def pool (es : List (Nat × CpInfo)) (last : Nat) : Array CpInfo := ⟨poolList es last⟩
def fileOf (pool : Array CpInfo) (this : Nat) (attrs : Array Attribute := #[]) (ms : Array MethodInfo := #[]) (fl : Nat := 33) (sup : Nat := 0) (ifs : Array Nat := #[]) (fds : Array FieldInfo := #[]) : ClassFile where
  minorVersion := 0
  majorVersion := 65
  constantPool := pool
  accessFlags := fl
  thisClass := this
  superClass := sup
  interfaces := ifs
  fields := fds
  methods := ms
  attributes := attrs
def plain (name : String) (sup : Option ClassId) : Class where
  name := name
  kind := .ordinary
  loader := none
  accessFlags := 33
  super := sup
  interfaces := #[]
  cf := none
  fields := #[]
  methods := #[]
  instanceTypes := #[]
  staticTypes := #[]
  resolved := #[]
  callSites := []
  init := .initialized
  statics := none
  mirror := none

def pool0 : Array CpInfo := pool [(5, u "<init>"), (0, u "()V"), (1, .class_ 10), (1, u "java/lang/Object"), (0, u "getClass"), (0, u "()Ljava/lang/Class;")] 111

def k0c0 : Code := { maxStack := 0, maxLocals := 1, code := object_method_1_code, exceptionTable := #[], attributes := #[] }
def k0m0 : Method := { name := "<init>", desc := "()V", sig := { parameters := [], returnType := none }, accessFlags := 1, code := some k0c0 }
def k0m1 : Method := { name := "getClass", desc := "()Ljava/lang/Class;", sig := { parameters := [], returnType := some (.object "java/lang/Class") }, accessFlags := 273, code := none }
/-- java/lang/Object -/
def k0 : Class := { plain "java/lang/Object" none with
  accessFlags := 33
  interfaces := #[]
  cf := some (fileOf pool0 8 #[] #[{ accessFlags := 1, nameIndex := 5, descriptorIndex := 6, attributes := #[] }, { accessFlags := 273, nameIndex := 11, descriptorIndex := 12, attributes := #[] }] 33 0 #[] #[])
  fields := #[]
  methods := #[k0m0, k0m1]
  instanceTypes := #[]
  staticTypes := #[]
  resolved := Array.replicate 124 none
  statics := none }

def pool1 : Array CpInfo := pool [(2, .class_ 4), (0, .nameAndType 5 6), (0, u "java/lang/Object"), (0, u "<init>"), (0, u "()V"), (0, .long 255), (1, .methodref 10 11), (0, .class_ 12), (0, .nameAndType 13 14), (0, u "com/example/wakenitz/wakenitz/measure/ScoreSheetMeanPinLaw"), (0, u "fig"), (0, u "(JI)I"), (0, .class_ 16), (0, u "com/example/wakenitz/wakenitz/measure/Score"), (0, .double 4625196817309499392), (1, .methodref 15 20), (0, .nameAndType 5 21), (0, u "(DDDD)V"), (0, .methodref 10 23), (0, .nameAndType 24 25), (0, u "figIf"), (0, u "(JIZ)I"), (0, .integer 2147483647), (0, .class_ 28), (0, u "java/util/ArrayList"), (0, .methodref 27 3), (0, .class_ 31), (0, u "com/example/wakenitz/wakenitz/measure/ScoreSheet$PageScore"), (0, .string 33), (0, u "a"), (0, .methodref 10 35), (0, .nameAndType 36 37), (0, u "score"), (0, u "(J)Lcom/example/wakenitz/wakenitz/measure/Score;"), (0, .methodref 30 39), (0, .nameAndType 5 40), (0, u "(Ljava/lang/String;Lcom/example/wakenitz/wakenitz/measure/Score;)V"), (0, .interfaceMethodref 42 43), (0, .class_ 44), (0, .nameAndType 45 46), (0, u "java/util/List"), (0, u "add"), (0, u "(Ljava/lang/Object;)Z"), (0, .string 48), (0, u "b"), (0, .string 50), (0, u "c"), (0, .class_ 52), (0, u "com/example/wakenitz/wakenitz/measure/ScoreSheet"), (0, .methodref 51 54), (0, .nameAndType 5 55), (0, u "(Ljava/util/List;)V"), (0, .methodref 51 57), (0, .nameAndType 58 59), (0, u "mean"), (0, u "()Lcom/example/wakenitz/wakenitz/measure/Score;"), (0, .methodref 15 61), (0, .nameAndType 62 63), (0, u "precision"), (0, u "()D"), (0, .methodref 10 65), (0, .nameAndType 66 67), (0, u "ref"), (0, u "(JJJII)D"), (0, .methodref 15 69), (0, .nameAndType 70 63), (0, u "recall"), (0, .methodref 15 72), (0, .nameAndType 73 63), (0, u "f1"), (0, .methodref 15 75), (0, .nameAndType 76 63), (0, u "similarity"), (3, u "law"), (0, u "(JJJI)Z")] 4

def k1m0 : Method := { name := "<init>", desc := "()V", sig := { parameters := [], returnType := none }, accessFlags := 2, code := none }
def k1c1 : Code := { maxStack := 4, maxLocals := 3, code := method_2_code, exceptionTable := #[], attributes := #[] }
def k1m1 : Method := { name := "fig", desc := "(JI)I", sig := { parameters := [.long, .int], returnType := some .int }, accessFlags := 10, code := some k1c1 }
def k1c2 : Code := { maxStack := 3, maxLocals := 4, code := method_3_code, exceptionTable := #[], attributes := #[] }
def k1m2 : Method := { name := "figIf", desc := "(JIZ)I", sig := { parameters := [.long, .int, .boolean], returnType := some .int }, accessFlags := 10, code := some k1c2 }
def k1c3 : Code := { maxStack := 12, maxLocals := 2, code := method_4_code, exceptionTable := #[], attributes := #[] }
def k1m3 : Method := { name := "score", desc := "(J)Lcom/example/wakenitz/wakenitz/measure/Score;", sig := { parameters := [.long], returnType := some (.object "com/example/wakenitz/wakenitz/measure/Score") }, accessFlags := 10, code := some k1c3 }
def k1c4 : Code := { maxStack := 6, maxLocals := 9, code := method_5_code, exceptionTable := #[], attributes := #[] }
def k1m4 : Method := { name := "ref", desc := "(JJJII)D", sig := { parameters := [.long, .long, .long, .int, .int], returnType := some .double }, accessFlags := 10, code := some k1c4 }
def k1c5 : Code := { maxStack := 10, maxLocals := 10, code := code, exceptionTable := #[], attributes := #[] }
def k1m5 : Method := { name := "law", desc := "(JJJI)Z", sig := { parameters := [.long, .long, .long, .int], returnType := some .boolean }, accessFlags := 9, code := some k1c5 }
/-- com/example/wakenitz/wakenitz/measure/ScoreSheetMeanPinLaw -/
def k1 : Class := { plain "com/example/wakenitz/wakenitz/measure/ScoreSheetMeanPinLaw" (some 0) with
  accessFlags := 49
  interfaces := #[]
  cf := some (fileOf pool1 10 #[] #[{ accessFlags := 2, nameIndex := 5, descriptorIndex := 6, attributes := #[] }, { accessFlags := 10, nameIndex := 13, descriptorIndex := 14, attributes := #[] }, { accessFlags := 10, nameIndex := 24, descriptorIndex := 25, attributes := #[] }, { accessFlags := 10, nameIndex := 36, descriptorIndex := 37, attributes := #[] }, { accessFlags := 10, nameIndex := 66, descriptorIndex := 67, attributes := #[] }, { accessFlags := 9, nameIndex := 80, descriptorIndex := 81, attributes := #[] }] 49 2 #[] #[])
  fields := #[]
  methods := #[k1m0, k1m1, k1m2, k1m3, k1m4, k1m5]
  instanceTypes := #[]
  staticTypes := #[]
  resolved := Array.replicate 86 none
  statics := none }

def pool2 : Array CpInfo := pool [(8, .class_ 10), (1, u "java/lang/Iterable"), (24, .class_ 36), (0, u "java/lang/Object")] 25

/-- java/lang/Iterable -/
def k2 : Class := { plain "java/lang/Iterable" (some 0) with
  accessFlags := 1537
  interfaces := #[]
  cf := some (fileOf pool2 8 #[] #[] 1537 35 #[] #[])
  fields := #[]
  methods := #[]
  instanceTypes := #[]
  staticTypes := #[]
  resolved := Array.replicate 62 none
  statics := none }

def pool3 : Array CpInfo := pool [(10, .class_ 12), (1, u "java/util/Collection"), (0, u "toArray"), (16, u "()Z"), (29, .class_ 61), (0, u "java/lang/Object"), (0, .class_ 63), (0, u "java/lang/Iterable"), (2, u "isEmpty"), (3, u "()[Ljava/lang/Object;")] 44

def k3m0 : Method := { name := "isEmpty", desc := "()Z", sig := { parameters := [], returnType := some .boolean }, accessFlags := 1025, code := none }
def k3m1 : Method := { name := "toArray", desc := "()[Ljava/lang/Object;", sig := { parameters := [], returnType := some (.array (.object "java/lang/Object")) }, accessFlags := 1025, code := none }
/-- java/util/Collection -/
def k3 : Class := { plain "java/util/Collection" (some 0) with
  accessFlags := 1537
  interfaces := #[2]
  cf := some (fileOf pool3 10 #[] #[{ accessFlags := 1025, nameIndex := 66, descriptorIndex := 30, attributes := #[] }, { accessFlags := 1025, nameIndex := 13, descriptorIndex := 70, attributes := #[] }] 1537 60 #[62] #[])
  fields := #[]
  methods := #[k3m0, k3m1]
  instanceTypes := #[]
  staticTypes := #[]
  resolved := Array.replicate 115 none
  statics := none }

def pool4 : Array CpInfo := pool [(1, .methodref 2 3), (0, .class_ 4), (0, .nameAndType 5 6), (0, u "java/lang/Object"), (0, u "<init>"), (0, u "()V"), (1, .class_ 10), (1, u "java/util/AbstractCollection"), (0, u "size"), (0, u "()I"), (64, .class_ 78), (0, u "java/util/Collection")] 81

def k4c0 : Code := { maxStack := 1, maxLocals := 1, code := jdk_22_method_1_code, exceptionTable := #[], attributes := #[] }
def k4m0 : Method := { name := "<init>", desc := "()V", sig := { parameters := [], returnType := none }, accessFlags := 4, code := some k4c0 }
def k4m1 : Method := { name := "size", desc := "()I", sig := { parameters := [], returnType := some .int }, accessFlags := 1025, code := none }
/-- java/util/AbstractCollection -/
def k4 : Class := { plain "java/util/AbstractCollection" (some 0) with
  accessFlags := 1057
  interfaces := #[3]
  cf := some (fileOf pool4 8 #[] #[{ accessFlags := 4, nameIndex := 5, descriptorIndex := 6, attributes := #[] }, { accessFlags := 1025, nameIndex := 11, descriptorIndex := 12, attributes := #[] }] 1057 2 #[77] #[])
  fields := #[]
  methods := #[k4m0, k4m1]
  instanceTypes := #[]
  staticTypes := #[]
  resolved := Array.replicate 160 none
  statics := none }

def pool5 : Array CpInfo := pool [(8, .class_ 10), (1, u "java/util/SequencedCollection"), (15, .class_ 27), (0, u "java/lang/Object"), (0, .class_ 29), (0, u "java/util/Collection")] 27

/-- java/util/SequencedCollection -/
def k5 : Class := { plain "java/util/SequencedCollection" (some 0) with
  accessFlags := 1537
  interfaces := #[3]
  cf := some (fileOf pool5 8 #[] #[] 1537 26 #[28] #[])
  fields := #[]
  methods := #[]
  instanceTypes := #[]
  staticTypes := #[]
  resolved := Array.replicate 57 none
  statics := none }

def pool6 : Array CpInfo := pool [(8, .class_ 10), (1, u "java/util/List"), (7, u "()Z"), (12, u "(Ljava/lang/Object;)V"), (16, u "<init>"), (11, u "add"), (3, u "(Ljava/lang/Object;)Z"), (2, u "isEmpty"), (7, u "get"), (0, u "(I)Ljava/lang/Object;"), (2, u "size"), (0, u "()I"), (7, u "of"), (2, .class_ 93), (1, u "java/util/ImmutableCollections"), (2, .class_ 97), (0, u "java/util/ImmutableCollections$List12"), (0, .methodref 96 99), (0, .nameAndType 48 31), (0, .methodref 96 101), (0, .nameAndType 48 102), (0, u "(Ljava/lang/Object;Ljava/lang/Object;)V"), (0, .class_ 104), (0, u "java/lang/Object"), (3, u "([Ljava/lang/Object;)Ljava/util/List;"), (0, .methodref 91 110), (0, .nameAndType 111 108), (0, u "listFromArray"), (0, .methodref 91 113), (0, .nameAndType 114 115), (0, u "listCopy"), (0, u "(Ljava/util/Collection;)Ljava/util/List;"), (4, .class_ 121), (0, u "java/util/SequencedCollection"), (1, u "iterator"), (0, u "()Ljava/util/Iterator;"), (109, u "copyOf")] 16

def k6m0 : Method := { name := "size", desc := "()I", sig := { parameters := [], returnType := some .int }, accessFlags := 1025, code := none }
def k6m1 : Method := { name := "isEmpty", desc := "()Z", sig := { parameters := [], returnType := some .boolean }, accessFlags := 1025, code := none }
def k6m2 : Method := { name := "iterator", desc := "()Ljava/util/Iterator;", sig := { parameters := [], returnType := some (.object "java/util/Iterator") }, accessFlags := 1025, code := none }
def k6m3 : Method := { name := "add", desc := "(Ljava/lang/Object;)Z", sig := { parameters := [(.object "java/lang/Object")], returnType := some .boolean }, accessFlags := 1025, code := none }
def k6m4 : Method := { name := "get", desc := "(I)Ljava/lang/Object;", sig := { parameters := [.int], returnType := some (.object "java/lang/Object") }, accessFlags := 1025, code := none }
def k6c5 : Code := { maxStack := 5, maxLocals := 2, code := jdk_40_method_47_code, exceptionTable := #[], attributes := #[] }
def k6m5 : Method := { name := "of", desc := "([Ljava/lang/Object;)Ljava/util/List;", sig := { parameters := [(.array (.object "java/lang/Object"))], returnType := some (.object "java/util/List") }, accessFlags := 137, code := some k6c5 }
def k6c6 : Code := { maxStack := 1, maxLocals := 1, code := jdk_40_method_48_code, exceptionTable := #[], attributes := #[] }
def k6m6 : Method := { name := "copyOf", desc := "(Ljava/util/Collection;)Ljava/util/List;", sig := { parameters := [(.object "java/util/Collection")], returnType := some (.object "java/util/List") }, accessFlags := 9, code := some k6c6 }
/-- java/util/List -/
def k6 : Class := { plain "java/util/List" (some 0) with
  accessFlags := 1537
  interfaces := #[5]
  cf := some (fileOf pool6 8 #[] #[{ accessFlags := 1025, nameIndex := 79, descriptorIndex := 80, attributes := #[] }, { accessFlags := 1025, nameIndex := 67, descriptorIndex := 18, attributes := #[] }, { accessFlags := 1025, nameIndex := 123, descriptorIndex := 124, attributes := #[] }, { accessFlags := 1025, nameIndex := 60, descriptorIndex := 64, attributes := #[] }, { accessFlags := 1025, nameIndex := 75, descriptorIndex := 76, attributes := #[] }, { accessFlags := 137, nameIndex := 88, descriptorIndex := 108, attributes := #[] }, { accessFlags := 9, nameIndex := 234, descriptorIndex := 115, attributes := #[] }] 1537 103 #[120] #[])
  fields := #[]
  methods := #[k6m0, k6m1, k6m2, k6m3, k6m4, k6m5, k6m6]
  instanceTypes := #[]
  staticTypes := #[]
  resolved := Array.replicate 251 none
  statics := none }

def pool7 : Array CpInfo := pool [(1, .methodref 2 3), (0, .class_ 4), (0, .nameAndType 5 6), (0, u "java/util/AbstractCollection"), (0, u "<init>"), (0, u "()V"), (0, .fieldref 8 9), (0, .class_ 10), (0, .nameAndType 11 12), (0, u "java/util/AbstractList"), (0, u "modCount"), (0, u "I"), (64, .class_ 78), (0, u "java/util/AbstractList$Itr"), (3, .class_ 83), (0, u "java/util/AbstractList$ListItr"), (9, .class_ 94), (0, u "java/util/AbstractList$RandomAccessSubList"), (3, .class_ 99), (0, u "java/util/AbstractList$SubList"), (33, .class_ 134), (0, u "java/util/List"), (73, .class_ 209), (0, u "java/util/AbstractList$SubList$1"), (0, .class_ 211), (0, u "java/util/AbstractList$RandomAccessSpliterator")] 6

def k7c0 : Code := { maxStack := 2, maxLocals := 1, code := jdk_39_method_1_code, exceptionTable := #[], attributes := #[] }
def k7m0 : Method := { name := "<init>", desc := "()V", sig := { parameters := [], returnType := none }, accessFlags := 4, code := some k7c0 }
/-- java/util/AbstractList -/
def k7 : Class := { plain "java/util/AbstractList" (some 4) with
  accessFlags := 1057
  interfaces := #[6]
  cf := some (fileOf pool7 8 #[.nestMembers #[93, 98, 208, 210, 82, 77]] #[{ accessFlags := 4, nameIndex := 5, descriptorIndex := 6, attributes := #[] }] 1057 2 #[133] #[{ accessFlags := 132, nameIndex := 11, descriptorIndex := 12, attributes := #[] }])
  fields := #[{ name := "modCount", type := .int, accessFlags := 132, slot := 0, constantValue := 0 }]
  methods := #[k7m0]
  instanceTypes := #[.int]
  staticTypes := #[]
  resolved := Array.replicate 218 none
  statics := none }

def pool8 : Array CpInfo := pool [(1, .class_ 2), (0, u "java/util/RandomAccess"), (0, .class_ 4), (0, u "java/lang/Object")] 2

/-- java/util/RandomAccess -/
def k8 : Class := { plain "java/util/RandomAccess" (some 0) with
  accessFlags := 1537
  interfaces := #[]
  cf := some (fileOf pool8 1 #[] #[] 1537 3 #[] #[])
  fields := #[]
  methods := #[]
  instanceTypes := #[]
  staticTypes := #[]
  resolved := Array.replicate 7 none
  statics := none }

def pool9 : Array CpInfo := pool [(1, .class_ 2), (0, u "java/lang/Cloneable"), (0, .class_ 4), (0, u "java/lang/Object")] 2

/-- java/lang/Cloneable -/
def k9 : Class := { plain "java/lang/Cloneable" (some 0) with
  accessFlags := 1537
  interfaces := #[]
  cf := some (fileOf pool9 1 #[] #[] 1537 3 #[] #[])
  fields := #[]
  methods := #[]
  instanceTypes := #[]
  staticTypes := #[]
  resolved := Array.replicate 7 none
  statics := none }

def pool10 : Array CpInfo := pool [(1, .class_ 2), (0, u "java/io/Serializable"), (0, .class_ 4), (0, u "java/lang/Object")] 2

/-- java/io/Serializable -/
def k10 : Class := { plain "java/io/Serializable" (some 0) with
  accessFlags := 1537
  interfaces := #[]
  cf := some (fileOf pool10 1 #[] #[] 1537 3 #[] #[])
  fields := #[]
  methods := #[]
  instanceTypes := #[]
  staticTypes := #[]
  resolved := Array.replicate 7 none
  statics := none }

def pool11 : Array CpInfo := pool [(1, .methodref 2 3), (0, .class_ 4), (0, .nameAndType 5 6), (0, u "java/util/AbstractList"), (0, u "<init>"), (0, u "()V"), (0, .class_ 8), (0, u "java/lang/Object"), (0, .fieldref 10 11), (0, .class_ 12), (0, .nameAndType 13 14), (0, u "java/util/ArrayList"), (0, u "elementData"), (0, u "[Ljava/lang/Object;"), (2, u "EMPTY_ELEMENTDATA"), (21, .fieldref 10 40), (0, .nameAndType 41 14), (0, u "DEFAULTCAPACITY_EMPTY_ELEMENTDATA"), (4, u "toArray"), (0, u "()[Ljava/lang/Object;"), (0, .fieldref 10 49), (0, .nameAndType 50 51), (0, u "size"), (0, u "I"), (6, .class_ 60), (1, u "java/util/Arrays"), (0, u "copyOf"), (1, .fieldref 10 64), (0, .nameAndType 65 51), (0, u "modCount"), (0, .methodref 58 67), (0, .nameAndType 61 68), (0, u "([Ljava/lang/Object;I)[Ljava/lang/Object;"), (0, .methodref 10 70), (0, .nameAndType 71 72), (0, u "grow"), (0, u "(I)[Ljava/lang/Object;"), (6, .methodref 80 81), (0, .class_ 82), (0, .nameAndType 83 84), (0, u "java/lang/Math"), (0, u "max"), (0, u "(II)I"), (11, u "(Ljava/lang/Object;)Z"), (32, .methodref 10 130), (0, .nameAndType 71 47), (0, .methodref 10 132), (0, .nameAndType 133 134), (0, u "add"), (0, u "(Ljava/lang/Object;[Ljava/lang/Object;I)V"), (13, .class_ 149), (0, u "java/util/List"), (23, u "()Z"), (88, .class_ 263), (0, u "java/util/ArrayList$ListItr"), (3, .class_ 268), (0, u "java/util/ArrayList$Itr"), (7, .class_ 277), (0, u "java/util/ArrayList$SubList"), (12, .class_ 291), (0, u "java/util/ArrayList$ArrayListSpliterator"), (37, .class_ 330), (0, u "java/util/RandomAccess"), (0, .class_ 332), (0, u "java/lang/Cloneable"), (0, .class_ 334), (0, u "java/io/Serializable"), (0, u "serialVersionUID"), (0, u "J"), (3, u "DEFAULT_CAPACITY"), (22, u "isEmpty"), (136, .class_ 501), (0, u "java/util/ArrayList$SubList$2"), (0, .class_ 503), (0, u "java/util/ArrayList$SubList$1")] 5

def k11c0 : Code := { maxStack := 2, maxLocals := 1, code := jdk_38_method_2_code, exceptionTable := #[], attributes := #[] }
def k11m0 : Method := { name := "<init>", desc := "()V", sig := { parameters := [], returnType := none }, accessFlags := 1, code := some k11c0 }
def k11c1 : Code := { maxStack := 4, maxLocals := 4, code := jdk_38_method_6_code, exceptionTable := #[], attributes := #[] }
def k11m1 : Method := { name := "grow", desc := "(I)[Ljava/lang/Object;", sig := { parameters := [.int], returnType := some (.array (.object "java/lang/Object")) }, accessFlags := 2, code := some k11c1 }
def k11c2 : Code := { maxStack := 3, maxLocals := 1, code := jdk_38_method_7_code, exceptionTable := #[], attributes := #[] }
def k11m2 : Method := { name := "grow", desc := "()[Ljava/lang/Object;", sig := { parameters := [], returnType := some (.array (.object "java/lang/Object")) }, accessFlags := 2, code := some k11c2 }
def k11c3 : Code := { maxStack := 1, maxLocals := 1, code := jdk_38_method_9_code, exceptionTable := #[], attributes := #[] }
def k11m3 : Method := { name := "isEmpty", desc := "()Z", sig := { parameters := [], returnType := some .boolean }, accessFlags := 1, code := some k11c3 }
def k11c4 : Code := { maxStack := 2, maxLocals := 1, code := jdk_38_method_16_code, exceptionTable := #[], attributes := #[] }
def k11m4 : Method := { name := "toArray", desc := "()[Ljava/lang/Object;", sig := { parameters := [], returnType := some (.array (.object "java/lang/Object")) }, accessFlags := 1, code := some k11c4 }
def k11c5 : Code := { maxStack := 3, maxLocals := 4, code := jdk_38_method_24_code, exceptionTable := #[], attributes := #[] }
def k11m5 : Method := { name := "add", desc := "(Ljava/lang/Object;[Ljava/lang/Object;I)V", sig := { parameters := [(.object "java/lang/Object"), (.array (.object "java/lang/Object")), .int], returnType := none }, accessFlags := 2, code := some k11c5 }
def k11c6 : Code := { maxStack := 4, maxLocals := 2, code := jdk_38_method_25_code, exceptionTable := #[], attributes := #[] }
def k11m6 : Method := { name := "add", desc := "(Ljava/lang/Object;)Z", sig := { parameters := [(.object "java/lang/Object")], returnType := some .boolean }, accessFlags := 1, code := some k11c6 }
/-- java/util/ArrayList -/
def k11 : Class := { plain "java/util/ArrayList" (some 7) with
  accessFlags := 33
  interfaces := #[6, 8, 9, 10]
  cf := some (fileOf pool11 10 #[.nestMembers #[290, 276, 500, 502, 262, 267]] #[{ accessFlags := 1, nameIndex := 5, descriptorIndex := 6, attributes := #[] }, { accessFlags := 2, nameIndex := 71, descriptorIndex := 72, attributes := #[] }, { accessFlags := 2, nameIndex := 71, descriptorIndex := 47, attributes := #[] }, { accessFlags := 1, nameIndex := 363, descriptorIndex := 173, attributes := #[] }, { accessFlags := 1, nameIndex := 46, descriptorIndex := 47, attributes := #[] }, { accessFlags := 2, nameIndex := 133, descriptorIndex := 134, attributes := #[] }, { accessFlags := 1, nameIndex := 133, descriptorIndex := 96, attributes := #[] }] 33 2 #[148, 329, 331, 333] #[{ accessFlags := 26, nameIndex := 335, descriptorIndex := 336, attributes := #[] }, { accessFlags := 26, nameIndex := 340, descriptorIndex := 51, attributes := #[] }, { accessFlags := 26, nameIndex := 17, descriptorIndex := 14, attributes := #[] }, { accessFlags := 26, nameIndex := 41, descriptorIndex := 14, attributes := #[] }, { accessFlags := 128, nameIndex := 13, descriptorIndex := 14, attributes := #[] }, { accessFlags := 2, nameIndex := 50, descriptorIndex := 51, attributes := #[] }])
  fields := #[{ name := "serialVersionUID", type := .long, accessFlags := 26, slot := 0, constantValue := 0 }, { name := "DEFAULT_CAPACITY", type := .int, accessFlags := 26, slot := 1, constantValue := 0 }, { name := "EMPTY_ELEMENTDATA", type := (.array (.object "java/lang/Object")), accessFlags := 26, slot := 2, constantValue := 0 }, { name := "DEFAULTCAPACITY_EMPTY_ELEMENTDATA", type := (.array (.object "java/lang/Object")), accessFlags := 26, slot := 3, constantValue := 0 }, { name := "elementData", type := (.array (.object "java/lang/Object")), accessFlags := 128, slot := 1, constantValue := 0 }, { name := "size", type := .int, accessFlags := 2, slot := 2, constantValue := 0 }]
  methods := #[k11m0, k11m1, k11m2, k11m3, k11m4, k11m5, k11m6]
  instanceTypes := #[.int, (.array (.object "java/lang/Object")), .int]
  staticTypes := #[.long, .int, (.array (.object "java/lang/Object")), (.array (.object "java/lang/Object"))]
  resolved := Array.replicate 509 none
  statics := some 0 }

def pool12 : Array CpInfo := pool [(1, .methodref 2 3), (0, .class_ 4), (0, .nameAndType 5 6), (0, u "java/lang/Object"), (0, u "<init>"), (0, u "()V"), (0, .class_ 8), (0, u "java/lang/Record")] 13

def k12c0 : Code := { maxStack := 1, maxLocals := 1, code := jdk_30_method_1_code, exceptionTable := #[], attributes := #[] }
def k12m0 : Method := { name := "<init>", desc := "()V", sig := { parameters := [], returnType := none }, accessFlags := 4, code := some k12c0 }
/-- java/lang/Record -/
def k12 : Class := { plain "java/lang/Record" (some 0) with
  accessFlags := 1057
  interfaces := #[]
  cf := some (fileOf pool12 7 #[] #[{ accessFlags := 4, nameIndex := 5, descriptorIndex := 6, attributes := #[] }] 1057 2 #[] #[])
  fields := #[]
  methods := #[k12m0]
  instanceTypes := #[]
  staticTypes := #[]
  resolved := Array.replicate 22 none
  statics := none }

def pool13 : Array CpInfo := pool [(1, .methodref 2 3), (0, .class_ 4), (0, .nameAndType 5 6), (0, u "java/lang/Record"), (0, u "<init>"), (0, u "()V"), (0, .fieldref 8 9), (0, .class_ 10), (0, .nameAndType 11 12), (0, u "com/example/wakenitz/wakenitz/measure/ScoreSheet$PageScore"), (0, u "name"), (0, u "Ljava/lang/String;"), (0, .fieldref 8 14), (0, .nameAndType 15 16), (0, u "score"), (0, u "Lcom/example/wakenitz/wakenitz/measure/Score;"), (12, u "(Ljava/lang/String;Lcom/example/wakenitz/wakenitz/measure/Score;)V"), (6, u "()Lcom/example/wakenitz/wakenitz/measure/Score;"), (3, .class_ 41), (0, u "com/example/wakenitz/wakenitz/measure/ScoreSheet")] 20

def k13c0 : Code := { maxStack := 2, maxLocals := 3, code := prog_20_method_1_code, exceptionTable := #[], attributes := #[] }
def k13m0 : Method := { name := "<init>", desc := "(Ljava/lang/String;Lcom/example/wakenitz/wakenitz/measure/Score;)V", sig := { parameters := [(.object "java/lang/String"), (.object "com/example/wakenitz/wakenitz/measure/Score")], returnType := none }, accessFlags := 1, code := some k13c0 }
def k13c1 : Code := { maxStack := 1, maxLocals := 1, code := prog_20_method_6_code, exceptionTable := #[], attributes := #[] }
def k13m1 : Method := { name := "score", desc := "()Lcom/example/wakenitz/wakenitz/measure/Score;", sig := { parameters := [], returnType := some (.object "com/example/wakenitz/wakenitz/measure/Score") }, accessFlags := 1, code := some k13c1 }
/-- com/example/wakenitz/wakenitz/measure/ScoreSheet$PageScore -/
def k13 : Class := { plain "com/example/wakenitz/wakenitz/measure/ScoreSheet$PageScore" (some 12) with
  accessFlags := 49
  interfaces := #[]
  cf := some (fileOf pool13 8 #[.nestHost 40] #[{ accessFlags := 1, nameIndex := 5, descriptorIndex := 29, attributes := #[] }, { accessFlags := 1, nameIndex := 15, descriptorIndex := 36, attributes := #[] }] 49 2 #[] #[{ accessFlags := 18, nameIndex := 11, descriptorIndex := 12, attributes := #[] }, { accessFlags := 18, nameIndex := 15, descriptorIndex := 16, attributes := #[] }])
  fields := #[{ name := "name", type := (.object "java/lang/String"), accessFlags := 18, slot := 0, constantValue := 0 }, { name := "score", type := (.object "com/example/wakenitz/wakenitz/measure/Score"), accessFlags := 18, slot := 1, constantValue := 0 }]
  methods := #[k13m0, k13m1]
  instanceTypes := #[(.object "java/lang/String"), (.object "com/example/wakenitz/wakenitz/measure/Score")]
  staticTypes := #[]
  resolved := Array.replicate 62 none
  statics := none }

def pool14 : Array CpInfo := pool [(1, .class_ 2), (0, u "java/lang/Comparable"), (0, .class_ 4), (0, u "java/lang/Object")] 7

/-- java/lang/Comparable -/
def k14 : Class := { plain "java/lang/Comparable" (some 0) with
  accessFlags := 1537
  interfaces := #[]
  cf := some (fileOf pool14 1 #[] #[] 1537 3 #[] #[])
  fields := #[]
  methods := #[]
  instanceTypes := #[]
  staticTypes := #[]
  resolved := Array.replicate 12 none
  statics := none }

def pool15 : Array CpInfo := pool [(2, .class_ 4), (1, u "java/lang/CharSequence"), (42, .class_ 48), (0, u "java/lang/CharSequence$1CodePointIterator"), (10, .class_ 60), (0, u "java/lang/CharSequence$1CharIterator"), (5, .class_ 67), (0, u "java/lang/Object")] 63

/-- java/lang/CharSequence -/
def k15 : Class := { plain "java/lang/CharSequence" (some 0) with
  accessFlags := 1537
  interfaces := #[]
  cf := some (fileOf pool15 2 #[.nestMembers #[47, 59]] #[] 1537 66 #[] #[])
  fields := #[]
  methods := #[]
  instanceTypes := #[]
  staticTypes := #[]
  resolved := Array.replicate 131 none
  statics := none }

def pool16 : Array CpInfo := pool [(1, .class_ 2), (0, u "java/lang/constant/Constable"), (0, .class_ 4), (0, u "java/lang/Object")] 6

/-- java/lang/constant/Constable -/
def k16 : Class := { plain "java/lang/constant/Constable" (some 0) with
  accessFlags := 1537
  interfaces := #[]
  cf := some (fileOf pool16 1 #[] #[] 1537 3 #[] #[])
  fields := #[]
  methods := #[]
  instanceTypes := #[]
  staticTypes := #[]
  resolved := Array.replicate 11 none
  statics := none }

def pool17 : Array CpInfo := pool [(1, .class_ 2), (0, u "java/lang/constant/ConstantDesc"), (0, .class_ 4), (0, u "java/lang/Object")] 32

/-- java/lang/constant/ConstantDesc -/
def k17 : Class := { plain "java/lang/constant/ConstantDesc" (some 0) with
  accessFlags := 1537
  interfaces := #[]
  cf := some (fileOf pool17 1 #[] #[] 1537 3 #[] #[])
  fields := #[]
  methods := #[]
  instanceTypes := #[]
  staticTypes := #[]
  resolved := Array.replicate 37 none
  statics := none }

def pool18 : Array CpInfo := pool [(2, .class_ 4), (1, u "java/lang/Object"), (0, u "<init>"), (0, u "()V"), (3, .class_ 12), (1, u "java/lang/String"), (0, u "value"), (0, u "[B"), (2, u "coder"), (0, u "B"), (2, u "hash"), (0, u "I"), (2, u "hashIsZero"), (0, u "Z"), (13, u "COMPACT_STRINGS"), (534, .class_ 576), (0, u "java/lang/CharSequence"), (22, u "CASE_INSENSITIVE_ORDER"), (0, u "Ljava/util/Comparator;"), (500, u "serialPersistentFields"), (0, u "[Ljava/io/ObjectStreamField;"), (0, .class_ 1104), (0, u "java/lang/String$CaseInsensitiveComparator"), (1, .class_ 1107), (0, u "java/io/Serializable"), (0, .class_ 1109), (0, u "java/lang/Comparable"), (0, .class_ 1111), (0, u "java/lang/constant/Constable"), (0, .class_ 1113), (0, u "java/lang/constant/ConstantDesc"), (2, u "serialVersionUID"), (0, u "J"), (3, u "REPL"), (0, u "C"), (2, u "LATIN1"), (1, u "UTF16")] 323

def k18m0 : Method := { name := "<init>", desc := "()V", sig := { parameters := [], returnType := none }, accessFlags := 1, code := none }
/-- java/lang/String -/
def k18 : Class := { plain "java/lang/String" (some 0) with
  accessFlags := 49
  interfaces := #[10, 14, 15, 16, 17]
  cf := some (fileOf pool18 10 #[.nestMembers #[1103]] #[{ accessFlags := 1, nameIndex := 5, descriptorIndex := 6, attributes := #[] }] 49 2 #[1106, 1108, 575, 1110, 1112] #[{ accessFlags := 18, nameIndex := 13, descriptorIndex := 14, attributes := #[] }, { accessFlags := 18, nameIndex := 17, descriptorIndex := 18, attributes := #[] }, { accessFlags := 2, nameIndex := 21, descriptorIndex := 22, attributes := #[] }, { accessFlags := 2, nameIndex := 25, descriptorIndex := 26, attributes := #[] }, { accessFlags := 26, nameIndex := 1116, descriptorIndex := 1117, attributes := #[] }, { accessFlags := 24, nameIndex := 40, descriptorIndex := 26, attributes := #[] }, { accessFlags := 26, nameIndex := 1101, descriptorIndex := 1102, attributes := #[] }, { accessFlags := 26, nameIndex := 1121, descriptorIndex := 1122, attributes := #[] }, { accessFlags := 25, nameIndex := 599, descriptorIndex := 600, attributes := #[] }, { accessFlags := 24, nameIndex := 1125, descriptorIndex := 18, attributes := #[] }, { accessFlags := 24, nameIndex := 1127, descriptorIndex := 18, attributes := #[] }])
  fields := #[{ name := "value", type := (.array .byte), accessFlags := 18, slot := 0, constantValue := 0 }, { name := "coder", type := .byte, accessFlags := 18, slot := 1, constantValue := 0 }, { name := "hash", type := .int, accessFlags := 2, slot := 2, constantValue := 0 }, { name := "hashIsZero", type := .boolean, accessFlags := 2, slot := 3, constantValue := 0 }, { name := "serialVersionUID", type := .long, accessFlags := 26, slot := 0, constantValue := 0 }, { name := "COMPACT_STRINGS", type := .boolean, accessFlags := 24, slot := 1, constantValue := 0 }, { name := "serialPersistentFields", type := (.array (.object "java/io/ObjectStreamField")), accessFlags := 26, slot := 2, constantValue := 0 }, { name := "REPL", type := .char, accessFlags := 26, slot := 3, constantValue := 0 }, { name := "CASE_INSENSITIVE_ORDER", type := (.object "java/util/Comparator"), accessFlags := 25, slot := 4, constantValue := 0 }, { name := "LATIN1", type := .byte, accessFlags := 24, slot := 5, constantValue := 0 }, { name := "UTF16", type := .byte, accessFlags := 24, slot := 6, constantValue := 0 }]
  methods := #[k18m0]
  instanceTypes := #[(.array .byte), .byte, .int, .boolean]
  staticTypes := #[.long, .boolean, (.array (.object "java/io/ObjectStreamField")), .char, (.object "java/util/Comparator"), .byte, .byte]
  resolved := Array.replicate 1451 none
  statics := none }

def pool19 : Array CpInfo := pool [(1, .methodref 2 3), (0, .class_ 4), (0, .nameAndType 5 6), (0, u "java/lang/Record"), (0, u "<init>"), (0, u "()V"), (0, .fieldref 8 9), (0, .class_ 10), (0, .nameAndType 11 12), (0, u "com/example/wakenitz/wakenitz/measure/Score"), (0, u "precision"), (0, u "D"), (0, .fieldref 8 14), (0, .nameAndType 15 12), (0, u "recall"), (0, .fieldref 8 17), (0, .nameAndType 18 12), (0, u "f1"), (0, .fieldref 8 20), (0, .nameAndType 21 12), (0, u "similarity"), (29, u "(DDDD)V"), (20, u "WHITESPACE"), (0, u "Ljava/util/regex/Pattern;"), (118, u "()D")] 40

def k19c0 : Code := { maxStack := 3, maxLocals := 9, code := prog_18_method_1_code, exceptionTable := #[], attributes := #[] }
def k19m0 : Method := { name := "<init>", desc := "(DDDD)V", sig := { parameters := [.double, .double, .double, .double], returnType := none }, accessFlags := 1, code := some k19c0 }
def k19c1 : Code := { maxStack := 2, maxLocals := 1, code := prog_18_method_13_code, exceptionTable := #[], attributes := #[] }
def k19m1 : Method := { name := "precision", desc := "()D", sig := { parameters := [], returnType := some .double }, accessFlags := 1, code := some k19c1 }
def k19c2 : Code := { maxStack := 2, maxLocals := 1, code := prog_18_method_14_code, exceptionTable := #[], attributes := #[] }
def k19m2 : Method := { name := "recall", desc := "()D", sig := { parameters := [], returnType := some .double }, accessFlags := 1, code := some k19c2 }
def k19c3 : Code := { maxStack := 2, maxLocals := 1, code := prog_18_method_15_code, exceptionTable := #[], attributes := #[] }
def k19m3 : Method := { name := "f1", desc := "()D", sig := { parameters := [], returnType := some .double }, accessFlags := 1, code := some k19c3 }
def k19c4 : Code := { maxStack := 2, maxLocals := 1, code := prog_18_method_16_code, exceptionTable := #[], attributes := #[] }
def k19m4 : Method := { name := "similarity", desc := "()D", sig := { parameters := [], returnType := some .double }, accessFlags := 1, code := some k19c4 }
/-- com/example/wakenitz/wakenitz/measure/Score -/
def k19 : Class := { plain "com/example/wakenitz/wakenitz/measure/Score" (some 12) with
  accessFlags := 49
  interfaces := #[]
  cf := some (fileOf pool19 8 #[] #[{ accessFlags := 1, nameIndex := 5, descriptorIndex := 51, attributes := #[] }, { accessFlags := 1, nameIndex := 11, descriptorIndex := 192, attributes := #[] }, { accessFlags := 1, nameIndex := 15, descriptorIndex := 192, attributes := #[] }, { accessFlags := 1, nameIndex := 18, descriptorIndex := 192, attributes := #[] }, { accessFlags := 1, nameIndex := 21, descriptorIndex := 192, attributes := #[] }] 49 2 #[] #[{ accessFlags := 18, nameIndex := 11, descriptorIndex := 12, attributes := #[] }, { accessFlags := 18, nameIndex := 15, descriptorIndex := 12, attributes := #[] }, { accessFlags := 18, nameIndex := 18, descriptorIndex := 12, attributes := #[] }, { accessFlags := 18, nameIndex := 21, descriptorIndex := 12, attributes := #[] }, { accessFlags := 26, nameIndex := 72, descriptorIndex := 73, attributes := #[] }])
  fields := #[{ name := "precision", type := .double, accessFlags := 18, slot := 0, constantValue := 0 }, { name := "recall", type := .double, accessFlags := 18, slot := 1, constantValue := 0 }, { name := "f1", type := .double, accessFlags := 18, slot := 2, constantValue := 0 }, { name := "similarity", type := .double, accessFlags := 18, slot := 3, constantValue := 0 }, { name := "WHITESPACE", type := (.object "java/util/regex/Pattern"), accessFlags := 26, slot := 0, constantValue := 0 }]
  methods := #[k19m0, k19m1, k19m2, k19m3, k19m4]
  instanceTypes := #[.double, .double, .double, .double]
  staticTypes := #[(.object "java/util/regex/Pattern")]
  resolved := Array.replicate 233 none
  statics := none }

def pool20 : Array CpInfo := pool [(1, .class_ 2), (0, u "java/lang/Math"), (1, .class_ 6), (1, u "java/lang/Object"), (0, u "<init>"), (0, u "()V"), (89, .class_ 100), (1, u "java/lang/Math$RandomNumberGeneratorHolder"), (71, u "negativeZeroFloatBits"), (0, u "J"), (2, u "negativeZeroDoubleBits"), (21, u "max"), (2, u "min"), (43, u "$assertionsDisabled"), (0, u "Z"), (88, u "(II)I"), (2, u "twoToTheDoubleScaleDown"), (0, u "D"), (4, u "twoToTheDoubleScaleUp"), (9, u "E"), (3, u "PI"), (2, u "TAU"), (2, u "DEGREES_TO_RADIANS"), (0, u "RADIANS_TO_DEGREES")] 94

def k20m0 : Method := { name := "<init>", desc := "()V", sig := { parameters := [], returnType := none }, accessFlags := 2, code := none }
def k20c1 : Code := { maxStack := 2, maxLocals := 2, code := jdk_29_method_65_code, exceptionTable := #[], attributes := #[] }
def k20m1 : Method := { name := "max", desc := "(II)I", sig := { parameters := [.int, .int], returnType := some .int }, accessFlags := 9, code := some k20c1 }
def k20c2 : Code := { maxStack := 2, maxLocals := 2, code := jdk_29_method_69_code, exceptionTable := #[], attributes := #[] }
def k20m2 : Method := { name := "min", desc := "(II)I", sig := { parameters := [.int, .int], returnType := some .int }, accessFlags := 9, code := some k20c2 }
/-- java/lang/Math -/
def k20 : Class := { plain "java/lang/Math" (some 0) with
  accessFlags := 49
  interfaces := #[]
  cf := some (fileOf pool20 1 #[.nestMembers #[98]] #[{ accessFlags := 2, nameIndex := 7, descriptorIndex := 8, attributes := #[] }, { accessFlags := 9, nameIndex := 198, descriptorIndex := 335, attributes := #[] }, { accessFlags := 9, nameIndex := 201, descriptorIndex := 335, attributes := #[] }] 49 4 #[] #[{ accessFlags := 25, nameIndex := 354, descriptorIndex := 339, attributes := #[] }, { accessFlags := 25, nameIndex := 358, descriptorIndex := 339, attributes := #[] }, { accessFlags := 25, nameIndex := 361, descriptorIndex := 339, attributes := #[] }, { accessFlags := 26, nameIndex := 364, descriptorIndex := 339, attributes := #[] }, { accessFlags := 26, nameIndex := 365, descriptorIndex := 339, attributes := #[] }, { accessFlags := 26, nameIndex := 172, descriptorIndex := 173, attributes := #[] }, { accessFlags := 26, nameIndex := 176, descriptorIndex := 173, attributes := #[] }, { accessFlags := 8, nameIndex := 344, descriptorIndex := 339, attributes := #[] }, { accessFlags := 8, nameIndex := 338, descriptorIndex := 339, attributes := #[] }, { accessFlags := 4120, nameIndex := 245, descriptorIndex := 246, attributes := #[] }])
  fields := #[{ name := "E", type := .double, accessFlags := 25, slot := 0, constantValue := 0 }, { name := "PI", type := .double, accessFlags := 25, slot := 1, constantValue := 0 }, { name := "TAU", type := .double, accessFlags := 25, slot := 2, constantValue := 0 }, { name := "DEGREES_TO_RADIANS", type := .double, accessFlags := 26, slot := 3, constantValue := 0 }, { name := "RADIANS_TO_DEGREES", type := .double, accessFlags := 26, slot := 4, constantValue := 0 }, { name := "negativeZeroFloatBits", type := .long, accessFlags := 26, slot := 5, constantValue := 0 }, { name := "negativeZeroDoubleBits", type := .long, accessFlags := 26, slot := 6, constantValue := 0 }, { name := "twoToTheDoubleScaleUp", type := .double, accessFlags := 8, slot := 7, constantValue := 0 }, { name := "twoToTheDoubleScaleDown", type := .double, accessFlags := 8, slot := 8, constantValue := 0 }, { name := "$assertionsDisabled", type := .boolean, accessFlags := 4120, slot := 9, constantValue := 0 }]
  methods := #[k20m0, k20m1, k20m2]
  instanceTypes := #[]
  staticTypes := #[.double, .double, .double, .double, .double, .long, .long, .double, .double, .boolean]
  resolved := Array.replicate 460 none
  statics := none }

def pool21 : Array CpInfo := pool [(1, .methodref 2 3), (0, .class_ 4), (0, .nameAndType 5 6), (0, u "java/lang/Object"), (0, u "<init>"), (0, u "()V"), (0, .interfaceMethodref 8 9), (0, .class_ 10), (0, .nameAndType 11 12), (0, u "java/util/List"), (0, u "isEmpty"), (0, u "()Z"), (7, .interfaceMethodref 8 21), (0, .nameAndType 22 23), (0, u "copyOf"), (0, u "(Ljava/util/Collection;)Ljava/util/List;"), (0, .fieldref 25 26), (0, .class_ 27), (0, .nameAndType 28 29), (0, u "com/example/wakenitz/wakenitz/measure/ScoreSheet"), (0, u "pages"), (0, u "Ljava/util/List;"), (0, .interfaceMethodref 8 31), (0, .nameAndType 32 33), (0, u "iterator"), (0, u "()Ljava/util/Iterator;"), (0, .interfaceMethodref 35 36), (0, .class_ 37), (0, .nameAndType 38 12), (0, u "java/util/Iterator"), (0, u "hasNext"), (0, .interfaceMethodref 35 40), (0, .nameAndType 41 42), (0, u "next"), (0, u "()Ljava/lang/Object;"), (0, .class_ 44), (0, u "com/example/wakenitz/wakenitz/measure/ScoreSheet$PageScore"), (0, .methodref 43 46), (0, .nameAndType 47 48), (0, u "score"), (0, u "()Lcom/example/wakenitz/wakenitz/measure/Score;"), (0, .methodref 50 51), (0, .class_ 52), (0, .nameAndType 53 54), (0, u "com/example/wakenitz/wakenitz/measure/Score"), (0, u "precision"), (0, u "()D"), (0, .methodref 50 56), (0, .nameAndType 57 54), (0, u "recall"), (0, .methodref 50 59), (0, .nameAndType 60 54), (0, u "f1"), (0, .methodref 50 62), (0, .nameAndType 63 54), (0, u "similarity"), (0, .interfaceMethodref 8 65), (0, .nameAndType 66 67), (0, u "size"), (0, u "()I"), (0, .methodref 50 69), (0, .nameAndType 5 70), (0, u "(DDDD)V"), (11, u "TABLE_BREAKS"), (0, u "Ljava/util/regex/Pattern;"), (23, u "mean"), (18, u "HEADER"), (0, u "Ljava/lang/String;"), (3, u "(Ljava/util/List;)V")] 28

def k21c0 : Code := { maxStack := 3, maxLocals := 2, code := prog_19_method_1_code, exceptionTable := #[], attributes := #[] }
def k21m0 : Method := { name := "<init>", desc := "(Ljava/util/List;)V", sig := { parameters := [(.object "java/util/List")], returnType := none }, accessFlags := 1, code := some k21c0 }
def k21c1 : Code := { maxStack := 12, maxLocals := 11, code := prog_19_method_3_code, exceptionTable := #[], attributes := #[] }
def k21m1 : Method := { name := "mean", desc := "()Lcom/example/wakenitz/wakenitz/measure/Score;", sig := { parameters := [], returnType := some (.object "com/example/wakenitz/wakenitz/measure/Score") }, accessFlags := 1, code := some k21c1 }
/-- com/example/wakenitz/wakenitz/measure/ScoreSheet -/
def k21 : Class := { plain "com/example/wakenitz/wakenitz/measure/ScoreSheet" (some 0) with
  accessFlags := 49
  interfaces := #[]
  cf := some (fileOf pool21 25 #[.nestMembers #[43]] #[{ accessFlags := 1, nameIndex := 5, descriptorIndex := 131, attributes := #[] }, { accessFlags := 1, nameIndex := 107, descriptorIndex := 48, attributes := #[] }] 49 2 #[] #[{ accessFlags := 26, nameIndex := 126, descriptorIndex := 127, attributes := #[] }, { accessFlags := 26, nameIndex := 82, descriptorIndex := 83, attributes := #[] }, { accessFlags := 18, nameIndex := 28, descriptorIndex := 29, attributes := #[] }])
  fields := #[{ name := "HEADER", type := (.object "java/lang/String"), accessFlags := 26, slot := 0, constantValue := 0 }, { name := "TABLE_BREAKS", type := (.object "java/util/regex/Pattern"), accessFlags := 26, slot := 1, constantValue := 0 }, { name := "pages", type := (.object "java/util/List"), accessFlags := 18, slot := 0, constantValue := 0 }]
  methods := #[k21m0, k21m1]
  instanceTypes := #[(.object "java/util/List")]
  staticTypes := #[(.object "java/lang/String"), (.object "java/util/regex/Pattern")]
  resolved := Array.replicate 160 none
  statics := none }

def pool22 : Array CpInfo := pool [(2, .class_ 4), (1, u "java/lang/Object"), (0, u "<init>"), (0, u "()V"), (3, .class_ 11), (0, u "java/util/ImmutableCollections$List12"), (0, .class_ 13), (0, u "java/util/ImmutableCollections$ListN"), (3, u "Z"), (0, .class_ 19), (0, u "java/util/List"), (0, .interfaceMethodref 21 22), (0, .class_ 23), (0, .nameAndType 24 25), (0, u "java/util/Collection"), (0, u "isEmpty"), (0, u "()Z"), (2, u "of"), (1, .interfaceMethodref 21 31), (0, .nameAndType 32 33), (0, u "toArray"), (0, u "()[Ljava/lang/Object;"), (0, .interfaceMethodref 18 35), (0, .nameAndType 28 36), (0, u "([Ljava/lang/Object;)Ljava/util/List;"), (0, .methodref 38 39), (0, .class_ 40), (0, .nameAndType 41 42), (0, u "java/util/Objects"), (0, u "requireNonNull"), (0, u "(Ljava/lang/Object;)Ljava/lang/Object;"), (0, .methodref 12 44), (0, .nameAndType 5 45), (0, u "([Ljava/lang/Object;Z)V"), (1, .class_ 49), (1, u "java/util/ImmutableCollections"), (0, u "$assertionsDisabled"), (5, u "[Ljava/lang/Object;"), (5, u "EMPTY_LIST"), (0, u "Ljava/util/ImmutableCollections$ListN;"), (8, u "EMPTY_LIST_NULLS"), (22, u "SALT32L"), (0, u "J"), (2, u "REVERSE"), (6, u "archivedObjects"), (2, u "EMPTY"), (0, u "Ljava/lang/Object;"), (0, .class_ 112), (0, u "java/util/ImmutableCollections$SetN"), (5, u "EMPTY_SET"), (0, u "Ljava/util/ImmutableCollections$SetN;"), (0, .class_ 121), (0, u "java/util/ImmutableCollections$MapN"), (3, u "EMPTY_MAP"), (0, u "Ljava/util/ImmutableCollections$MapN;"), (4, u "EXPAND_FACTOR"), (0, u "I"), (9, u "listCopy"), (0, u "(Ljava/util/Collection;)Ljava/util/List;"), (7, u "listFromArray"), (17, .class_ 170), (0, u "java/util/ImmutableCollections$MapN$MapNIterator"), (0, .class_ 172), (0, u "java/util/ImmutableCollections$MapN$1"), (0, .class_ 174), (0, u "java/util/ImmutableCollections$Map1"), (0, .class_ 176), (0, u "java/util/ImmutableCollections$AbstractImmutableMap"), (0, .class_ 178), (0, u "java/util/ImmutableCollections$SetN$SetNIterator"), (0, .class_ 180), (0, u "java/util/ImmutableCollections$Set12"), (0, .class_ 182), (0, u "java/util/ImmutableCollections$Set12$1"), (0, .class_ 184), (0, u "java/util/ImmutableCollections$AbstractImmutableSet"), (0, .class_ 186), (0, u "java/util/ImmutableCollections$SubList"), (0, .class_ 188), (0, u "java/util/ImmutableCollections$ListItr"), (0, .class_ 190), (0, u "java/util/ImmutableCollections$AbstractImmutableList"), (0, .class_ 192), (0, u "java/util/ImmutableCollections$AbstractImmutableCollection"), (0, .class_ 194), (0, u "java/util/ImmutableCollections$Access"), (0, .class_ 196), (0, u "java/util/ImmutableCollections$Access$1")] 16

def k22m0 : Method := { name := "<init>", desc := "()V", sig := { parameters := [], returnType := none }, accessFlags := 2, code := none }
def k22c1 : Code := { maxStack := 1, maxLocals := 2, code := jdk_56_method_3_code, exceptionTable := #[], attributes := #[] }
def k22m1 : Method := { name := "listCopy", desc := "(Ljava/util/Collection;)Ljava/util/List;", sig := { parameters := [(.object "java/util/Collection")], returnType := some (.object "java/util/List") }, accessFlags := 8, code := some k22c1 }
def k22c2 : Code := { maxStack := 4, maxLocals := 3, code := jdk_56_method_4_code, exceptionTable := #[], attributes := #[] }
def k22m2 : Method := { name := "listFromArray", desc := "([Ljava/lang/Object;)Ljava/util/List;", sig := { parameters := [(.array (.object "java/lang/Object"))], returnType := some (.object "java/util/List") }, accessFlags := 136, code := some k22c2 }
/-- java/util/ImmutableCollections -/
def k22 : Class := { plain "java/util/ImmutableCollections" (some 0) with
  accessFlags := 32
  interfaces := #[]
  cf := some (fileOf pool22 47 #[.nestMembers #[120, 169, 171, 173, 175, 111, 177, 179, 181, 183, 12, 10, 185, 187, 189, 191, 193, 195]] #[{ accessFlags := 2, nameIndex := 5, descriptorIndex := 6, attributes := #[] }, { accessFlags := 8, nameIndex := 142, descriptorIndex := 143, attributes := #[] }, { accessFlags := 136, nameIndex := 151, descriptorIndex := 36, attributes := #[] }] 32 2 #[] #[{ accessFlags := 26, nameIndex := 95, descriptorIndex := 96, attributes := #[] }, { accessFlags := 26, nameIndex := 99, descriptorIndex := 17, attributes := #[] }, { accessFlags := 10, nameIndex := 106, descriptorIndex := 56, attributes := #[] }, { accessFlags := 26, nameIndex := 109, descriptorIndex := 110, attributes := #[] }, { accessFlags := 24, nameIndex := 62, descriptorIndex := 63, attributes := #[] }, { accessFlags := 24, nameIndex := 72, descriptorIndex := 63, attributes := #[] }, { accessFlags := 24, nameIndex := 118, descriptorIndex := 119, attributes := #[] }, { accessFlags := 24, nameIndex := 125, descriptorIndex := 126, attributes := #[] }, { accessFlags := 24, nameIndex := 131, descriptorIndex := 132, attributes := #[] }, { accessFlags := 4120, nameIndex := 50, descriptorIndex := 17, attributes := #[] }])
  fields := #[{ name := "SALT32L", type := .long, accessFlags := 26, slot := 0, constantValue := 0 }, { name := "REVERSE", type := .boolean, accessFlags := 26, slot := 1, constantValue := 0 }, { name := "archivedObjects", type := (.array (.object "java/lang/Object")), accessFlags := 10, slot := 2, constantValue := 0 }, { name := "EMPTY", type := (.object "java/lang/Object"), accessFlags := 26, slot := 3, constantValue := 0 }, { name := "EMPTY_LIST", type := (.object "java/util/ImmutableCollections$ListN"), accessFlags := 24, slot := 4, constantValue := 0 }, { name := "EMPTY_LIST_NULLS", type := (.object "java/util/ImmutableCollections$ListN"), accessFlags := 24, slot := 5, constantValue := 0 }, { name := "EMPTY_SET", type := (.object "java/util/ImmutableCollections$SetN"), accessFlags := 24, slot := 6, constantValue := 0 }, { name := "EMPTY_MAP", type := (.object "java/util/ImmutableCollections$MapN"), accessFlags := 24, slot := 7, constantValue := 0 }, { name := "EXPAND_FACTOR", type := .int, accessFlags := 24, slot := 8, constantValue := 0 }, { name := "$assertionsDisabled", type := .boolean, accessFlags := 4120, slot := 9, constantValue := 0 }]
  methods := #[k22m0, k22m1, k22m2]
  instanceTypes := #[]
  staticTypes := #[.long, .boolean, (.array (.object "java/lang/Object")), (.object "java/lang/Object"), (.object "java/util/ImmutableCollections$ListN"), (.object "java/util/ImmutableCollections$ListN"), (.object "java/util/ImmutableCollections$SetN"), (.object "java/util/ImmutableCollections$MapN"), .int, .boolean]
  resolved := Array.replicate 213 none
  statics := some 1 }

def pool23 : Array CpInfo := pool [(1, .methodref 2 3), (0, .class_ 4), (0, .nameAndType 5 6), (0, u "java/util/AbstractCollection"), (0, u "<init>"), (0, u "()V"), (1, .class_ 10), (1, u "java/util/ImmutableCollections"), (2, .class_ 14), (0, u "java/util/ImmutableCollections$AbstractImmutableCollection")] 41

def k23c0 : Code := { maxStack := 1, maxLocals := 1, code := jdk_47_method_1_code, exceptionTable := #[], attributes := #[] }
def k23m0 : Method := { name := "<init>", desc := "()V", sig := { parameters := [], returnType := none }, accessFlags := 0, code := some k23c0 }
/-- java/util/ImmutableCollections$AbstractImmutableCollection -/
def k23 : Class := { plain "java/util/ImmutableCollections$AbstractImmutableCollection" (some 4) with
  accessFlags := 1056
  interfaces := #[]
  cf := some (fileOf pool23 13 #[.nestHost 8] #[{ accessFlags := 0, nameIndex := 5, descriptorIndex := 6, attributes := #[] }] 1056 2 #[] #[])
  fields := #[]
  methods := #[k23m0]
  instanceTypes := #[]
  staticTypes := #[]
  resolved := Array.replicate 56 none
  statics := none }

def pool24 : Array CpInfo := pool [(1, .methodref 2 3), (0, .class_ 4), (0, .nameAndType 5 6), (0, u "java/util/ImmutableCollections$AbstractImmutableCollection"), (0, u "<init>"), (0, u "()V"), (1, .class_ 10), (1, u "java/util/ImmutableCollections"), (2, .methodref 14 15), (0, .class_ 16), (0, .nameAndType 17 18), (0, u "java/util/ImmutableCollections$AbstractImmutableList"), (0, u "size"), (0, u "()I"), (42, .class_ 62), (0, u "java/util/ImmutableCollections$ListItr"), (0, .methodref 61 64), (0, .nameAndType 5 65), (0, u "(Ljava/util/List;I)V"), (11, .class_ 78), (0, u "java/util/List"), (2, u "iterator"), (0, u "()Ljava/util/Iterator;"), (41, .class_ 125), (0, u "java/util/RandomAccess")] 70

def k24c0 : Code := { maxStack := 1, maxLocals := 1, code := jdk_46_method_1_code, exceptionTable := #[], attributes := #[] }
def k24m0 : Method := { name := "<init>", desc := "()V", sig := { parameters := [], returnType := none }, accessFlags := 0, code := some k24c0 }
def k24c1 : Code := { maxStack := 4, maxLocals := 1, code := jdk_46_method_10_code, exceptionTable := #[], attributes := #[] }
def k24m1 : Method := { name := "iterator", desc := "()Ljava/util/Iterator;", sig := { parameters := [], returnType := some (.object "java/util/Iterator") }, accessFlags := 1, code := some k24c1 }
/-- java/util/ImmutableCollections$AbstractImmutableList -/
def k24 : Class := { plain "java/util/ImmutableCollections$AbstractImmutableList" (some 23) with
  accessFlags := 1056
  interfaces := #[6, 8]
  cf := some (fileOf pool24 14 #[.nestHost 8] #[{ accessFlags := 0, nameIndex := 5, descriptorIndex := 6, attributes := #[] }, { accessFlags := 1, nameIndex := 81, descriptorIndex := 82, attributes := #[] }] 1056 2 #[77, 124] #[])
  fields := #[]
  methods := #[k24m0, k24m1]
  instanceTypes := #[]
  staticTypes := #[]
  resolved := Array.replicate 196 none
  statics := none }

def pool25 : Array CpInfo := pool [(1, .methodref 2 3), (0, .class_ 4), (0, .nameAndType 5 6), (0, u "java/util/ImmutableCollections$AbstractImmutableList"), (0, u "<init>"), (0, u "()V"), (0, .methodref 8 9), (0, .class_ 10), (0, .nameAndType 11 12), (0, u "java/util/Objects"), (0, u "requireNonNull"), (0, u "(Ljava/lang/Object;)Ljava/lang/Object;"), (0, .fieldref 14 15), (0, .class_ 16), (0, .nameAndType 17 18), (0, u "java/util/ImmutableCollections$List12"), (0, u "e0"), (0, u "Ljava/lang/Object;"), (0, .fieldref 20 21), (0, .class_ 22), (0, .nameAndType 23 18), (0, u "java/util/ImmutableCollections"), (0, u "EMPTY"), (0, .fieldref 14 25), (0, .nameAndType 26 18), (0, u "e1"), (24, u "size"), (0, u "()I"), (17, .class_ 71), (0, u "java/io/Serializable"), (4, u "(Ljava/lang/Object;)V"), (8, u "(Ljava/lang/Object;Ljava/lang/Object;)V"), (4, u "get"), (0, u "(I)Ljava/lang/Object;")] 33

def k25c0 : Code := { maxStack := 2, maxLocals := 2, code := jdk_44_method_1_code, exceptionTable := #[], attributes := #[] }
def k25m0 : Method := { name := "<init>", desc := "(Ljava/lang/Object;)V", sig := { parameters := [(.object "java/lang/Object")], returnType := none }, accessFlags := 0, code := some k25c0 }
def k25c1 : Code := { maxStack := 2, maxLocals := 3, code := jdk_44_method_2_code, exceptionTable := #[], attributes := #[] }
def k25m1 : Method := { name := "<init>", desc := "(Ljava/lang/Object;Ljava/lang/Object;)V", sig := { parameters := [(.object "java/lang/Object"), (.object "java/lang/Object")], returnType := none }, accessFlags := 0, code := some k25c1 }
def k25c2 : Code := { maxStack := 2, maxLocals := 1, code := jdk_44_method_3_code, exceptionTable := #[], attributes := #[] }
def k25m2 : Method := { name := "size", desc := "()I", sig := { parameters := [], returnType := some .int }, accessFlags := 1, code := some k25c2 }
def k25c3 : Code := { maxStack := 2, maxLocals := 2, code := jdk_44_method_5_code, exceptionTable := #[], attributes := #[] }
def k25m3 : Method := { name := "get", desc := "(I)Ljava/lang/Object;", sig := { parameters := [.int], returnType := some (.object "java/lang/Object") }, accessFlags := 1, code := some k25c3 }
/-- java/util/ImmutableCollections$List12 -/
def k25 : Class := { plain "java/util/ImmutableCollections$List12" (some 24) with
  accessFlags := 48
  interfaces := #[10]
  cf := some (fileOf pool25 14 #[.nestHost 20] #[{ accessFlags := 0, nameIndex := 5, descriptorIndex := 76, attributes := #[] }, { accessFlags := 0, nameIndex := 5, descriptorIndex := 85, attributes := #[] }, { accessFlags := 1, nameIndex := 51, descriptorIndex := 52, attributes := #[] }, { accessFlags := 1, nameIndex := 90, descriptorIndex := 91, attributes := #[] }] 48 2 #[70] #[{ accessFlags := 18, nameIndex := 17, descriptorIndex := 18, attributes := #[] }, { accessFlags := 18, nameIndex := 26, descriptorIndex := 18, attributes := #[] }])
  fields := #[{ name := "e0", type := (.object "java/lang/Object"), accessFlags := 18, slot := 0, constantValue := 0 }, { name := "e1", type := (.object "java/lang/Object"), accessFlags := 18, slot := 1, constantValue := 0 }]
  methods := #[k25m0, k25m1, k25m2, k25m3]
  instanceTypes := #[(.object "java/lang/Object"), (.object "java/lang/Object")]
  staticTypes := #[]
  resolved := Array.replicate 125 none
  statics := none }

def pool26 : Array CpInfo := pool [(1, .methodref 2 3), (0, .class_ 4), (0, .nameAndType 5 6), (0, u "java/util/ImmutableCollections$AbstractImmutableList"), (0, u "<init>"), (0, u "()V"), (0, .fieldref 8 9), (0, .class_ 10), (0, .nameAndType 11 12), (0, u "java/util/ImmutableCollections$ListN"), (0, u "elements"), (0, u "[Ljava/lang/Object;"), (0, .fieldref 8 14), (0, .nameAndType 15 16), (0, u "allowNulls"), (0, u "Z"), (42, .class_ 60), (0, u "java/io/Serializable"), (4, u "([Ljava/lang/Object;Z)V"), (11, u "size"), (0, u "()I"), (0, u "get"), (0, u "(I)Ljava/lang/Object;"), (33, .class_ 115), (0, u "java/util/ImmutableCollections")] 3

def k26c0 : Code := { maxStack := 2, maxLocals := 3, code := jdk_45_method_1_code, exceptionTable := #[], attributes := #[] }
def k26m0 : Method := { name := "<init>", desc := "([Ljava/lang/Object;Z)V", sig := { parameters := [(.array (.object "java/lang/Object")), .boolean], returnType := none }, accessFlags := 2, code := some k26c0 }
def k26c1 : Code := { maxStack := 1, maxLocals := 1, code := jdk_45_method_3_code, exceptionTable := #[], attributes := #[] }
def k26m1 : Method := { name := "size", desc := "()I", sig := { parameters := [], returnType := some .int }, accessFlags := 1, code := some k26c1 }
def k26c2 : Code := { maxStack := 2, maxLocals := 2, code := jdk_45_method_4_code, exceptionTable := #[], attributes := #[] }
def k26m2 : Method := { name := "get", desc := "(I)Ljava/lang/Object;", sig := { parameters := [.int], returnType := some (.object "java/lang/Object") }, accessFlags := 1, code := some k26c2 }
/-- java/util/ImmutableCollections$ListN -/
def k26 : Class := { plain "java/util/ImmutableCollections$ListN" (some 24) with
  accessFlags := 48
  interfaces := #[10]
  cf := some (fileOf pool26 8 #[.nestHost 114] #[{ accessFlags := 2, nameIndex := 5, descriptorIndex := 65, attributes := #[] }, { accessFlags := 1, nameIndex := 77, descriptorIndex := 78, attributes := #[] }, { accessFlags := 1, nameIndex := 79, descriptorIndex := 80, attributes := #[] }] 48 2 #[59] #[{ accessFlags := 18, nameIndex := 11, descriptorIndex := 12, attributes := #[] }, { accessFlags := 18, nameIndex := 15, descriptorIndex := 16, attributes := #[] }])
  fields := #[{ name := "elements", type := (.array (.object "java/lang/Object")), accessFlags := 18, slot := 0, constantValue := 0 }, { name := "allowNulls", type := .boolean, accessFlags := 18, slot := 1, constantValue := 0 }]
  methods := #[k26m0, k26m1, k26m2]
  instanceTypes := #[(.array (.object "java/lang/Object")), .boolean]
  staticTypes := #[]
  resolved := Array.replicate 119 none
  statics := none }

def pool27 : Array CpInfo := pool [(2, .class_ 4), (1, u "java/lang/Object"), (0, u "<init>"), (0, u "()V"), (7, .class_ 16), (1, u "java/util/Arrays"), (57, .class_ 76), (1, u "java/util/Arrays$NaturalOrder"), (9, .methodref 2 87), (0, .nameAndType 88 89), (0, u "getClass"), (0, u "()Ljava/lang/Class;"), (20, .class_ 111), (0, u "[Ljava/lang/Object;"), (1, .class_ 115), (1, u "java/util/Arrays$LegacyMergeSort"), (1, u "Z"), (32, .methodref 151 152), (0, .class_ 153), (0, .nameAndType 154 155), (0, u "java/lang/System"), (0, u "arraycopy"), (0, u "(Ljava/lang/Object;ILjava/lang/Object;II)V"), (144, .methodref 14 301), (0, .nameAndType 302 303), (0, u "copyOf"), (0, u "([Ljava/lang/Object;ILjava/lang/Class;)[Ljava/lang/Object;"), (0, .methodref 305 306), (0, .class_ 307), (0, .nameAndType 308 309), (0, u "java/lang/Math"), (0, u "min"), (0, u "(II)I"), (65, .class_ 376), (0, u "java/util/Arrays$ArrayList"), (68, u "$assertionsDisabled"), (269, u "MIN_ARRAY_SORT_GRAN"), (0, u "I"), (2, u "INSERTIONSORT_THRESHOLD"), (140, u "([Ljava/lang/Object;I)[Ljava/lang/Object;"), (114, .class_ 976), (0, u "java/util/Arrays$ArrayItr")] 52

def k27m0 : Method := { name := "<init>", desc := "()V", sig := { parameters := [], returnType := none }, accessFlags := 2, code := none }
def k27c1 : Code := { maxStack := 3, maxLocals := 2, code := jdk_65_method_119_code, exceptionTable := #[], attributes := #[] }
def k27m1 : Method := { name := "copyOf", desc := "([Ljava/lang/Object;I)[Ljava/lang/Object;", sig := { parameters := [(.array (.object "java/lang/Object")), .int], returnType := some (.array (.object "java/lang/Object")) }, accessFlags := 9, code := some k27c1 }
def k27c2 : Code := { maxStack := 6, maxLocals := 4, code := jdk_65_method_120_code, exceptionTable := #[], attributes := #[] }
def k27m2 : Method := { name := "copyOf", desc := "([Ljava/lang/Object;ILjava/lang/Class;)[Ljava/lang/Object;", sig := { parameters := [(.array (.object "java/lang/Object")), .int, (.object "java/lang/Class")], returnType := some (.array (.object "java/lang/Object")) }, accessFlags := 9, code := some k27c2 }
/-- java/util/Arrays -/
def k27 : Class := { plain "java/util/Arrays" (some 0) with
  accessFlags := 49
  interfaces := #[]
  cf := some (fileOf pool27 14 #[.nestMembers #[975, 375, 113, 74]] #[{ accessFlags := 2, nameIndex := 5, descriptorIndex := 6, attributes := #[] }, { accessFlags := 9, nameIndex := 302, descriptorIndex := 860, attributes := #[] }, { accessFlags := 9, nameIndex := 302, descriptorIndex := 303, attributes := #[] }] 49 2 #[] #[{ accessFlags := 26, nameIndex := 715, descriptorIndex := 716, attributes := #[] }, { accessFlags := 26, nameIndex := 719, descriptorIndex := 716, attributes := #[] }, { accessFlags := 4120, nameIndex := 445, descriptorIndex := 117, attributes := #[] }])
  fields := #[{ name := "MIN_ARRAY_SORT_GRAN", type := .int, accessFlags := 26, slot := 0, constantValue := 0 }, { name := "INSERTIONSORT_THRESHOLD", type := .int, accessFlags := 26, slot := 1, constantValue := 0 }, { name := "$assertionsDisabled", type := .boolean, accessFlags := 4120, slot := 2, constantValue := 0 }]
  methods := #[k27m0, k27m1, k27m2]
  instanceTypes := #[]
  staticTypes := #[.int, .int, .boolean]
  resolved := Array.replicate 1029 none
  statics := none }

def pool28 : Array CpInfo := pool [(2, .class_ 4), (1, u "java/lang/Object"), (0, u "<init>"), (0, u "()V"), (1, .class_ 10), (1, u "java/lang/System"), (0, u "allowSecurityManager"), (0, u "I"), (16, u "cons"), (0, u "Ljava/io/Console;"), (77, .class_ 110), (1, u "java/lang/System$CallersHolder"), (43, u "initialErrStream"), (0, u "Ljava/io/PrintStream;"), (19, u "security"), (0, u "Ljava/lang/SecurityManager;"), (31, .class_ 209), (0, u "java/lang/System$1"), (7, u "props"), (0, u "Ljava/util/Properties;"), (2, u "lineSeparator"), (0, u "Ljava/lang/String;"), (96, .class_ 321), (1, u "java/lang/System$LoggerFinder"), (5, .class_ 328), (0, u "java/lang/System$Logger"), (67, u "err"), (2, u "out"), (91, u "notSupportedJnuEncoding"), (15, u "in"), (17, u "initialIn"), (0, u "Ljava/io/InputStream;"), (35, u "bootLayer"), (0, u "Ljava/lang/ModuleLayer;"), (99, .class_ 664), (0, u "java/lang/System$2"), (9, u "NEVER"), (2, u "MAYBE"), (49, u "arraycopy"), (0, u "(Ljava/lang/Object;ILjava/lang/Object;II)V"), (72, .class_ 802), (0, u "java/lang/System$Logger$Level")] 31

def k28m0 : Method := { name := "<init>", desc := "()V", sig := { parameters := [], returnType := none }, accessFlags := 2, code := none }
def k28m1 : Method := { name := "arraycopy", desc := "(Ljava/lang/Object;ILjava/lang/Object;II)V", sig := { parameters := [(.object "java/lang/Object"), .int, (.object "java/lang/Object"), .int, .int], returnType := none }, accessFlags := 265, code := none }
/-- java/lang/System -/
def k28 : Class := { plain "java/lang/System" (some 0) with
  accessFlags := 49
  interfaces := #[]
  cf := some (fileOf pool28 8 #[.nestMembers #[319, 327, 801, 108, 663, 208]] #[{ accessFlags := 2, nameIndex := 5, descriptorIndex := 6, attributes := #[] }, { accessFlags := 265, nameIndex := 727, descriptorIndex := 728, attributes := #[] }] 49 2 #[] #[{ accessFlags := 25, nameIndex := 507, descriptorIndex := 526, attributes := #[] }, { accessFlags := 25, nameIndex := 399, descriptorIndex := 155, attributes := #[] }, { accessFlags := 25, nameIndex := 396, descriptorIndex := 155, attributes := #[] }, { accessFlags := 10, nameIndex := 525, descriptorIndex := 526, attributes := #[] }, { accessFlags := 26, nameIndex := 674, descriptorIndex := 12, attributes := #[] }, { accessFlags := 26, nameIndex := 677, descriptorIndex := 12, attributes := #[] }, { accessFlags := 10, nameIndex := 11, descriptorIndex := 12, attributes := #[] }, { accessFlags := 74, nameIndex := 175, descriptorIndex := 176, attributes := #[] }, { accessFlags := 10, nameIndex := 491, descriptorIndex := 222, attributes := #[] }, { accessFlags := 74, nameIndex := 29, descriptorIndex := 30, attributes := #[] }, { accessFlags := 74, nameIndex := 154, descriptorIndex := 155, attributes := #[] }, { accessFlags := 10, nameIndex := 217, descriptorIndex := 218, attributes := #[] }, { accessFlags := 10, nameIndex := 221, descriptorIndex := 222, attributes := #[] }, { accessFlags := 8, nameIndex := 562, descriptorIndex := 563, attributes := #[] }])
  fields := #[{ name := "in", type := (.object "java/io/InputStream"), accessFlags := 25, slot := 0, constantValue := 0 }, { name := "out", type := (.object "java/io/PrintStream"), accessFlags := 25, slot := 1, constantValue := 0 }, { name := "err", type := (.object "java/io/PrintStream"), accessFlags := 25, slot := 2, constantValue := 0 }, { name := "initialIn", type := (.object "java/io/InputStream"), accessFlags := 10, slot := 3, constantValue := 0 }, { name := "NEVER", type := .int, accessFlags := 26, slot := 4, constantValue := 0 }, { name := "MAYBE", type := .int, accessFlags := 26, slot := 5, constantValue := 0 }, { name := "allowSecurityManager", type := .int, accessFlags := 10, slot := 6, constantValue := 0 }, { name := "security", type := (.object "java/lang/SecurityManager"), accessFlags := 74, slot := 7, constantValue := 0 }, { name := "notSupportedJnuEncoding", type := (.object "java/lang/String"), accessFlags := 10, slot := 8, constantValue := 0 }, { name := "cons", type := (.object "java/io/Console"), accessFlags := 74, slot := 9, constantValue := 0 }, { name := "initialErrStream", type := (.object "java/io/PrintStream"), accessFlags := 74, slot := 10, constantValue := 0 }, { name := "props", type := (.object "java/util/Properties"), accessFlags := 10, slot := 11, constantValue := 0 }, { name := "lineSeparator", type := (.object "java/lang/String"), accessFlags := 10, slot := 12, constantValue := 0 }, { name := "bootLayer", type := (.object "java/lang/ModuleLayer"), accessFlags := 8, slot := 13, constantValue := 0 }]
  methods := #[k28m0, k28m1]
  instanceTypes := #[]
  staticTypes := #[(.object "java/io/InputStream"), (.object "java/io/PrintStream"), (.object "java/io/PrintStream"), (.object "java/io/InputStream"), .int, .int, .int, (.object "java/lang/SecurityManager"), (.object "java/lang/String"), (.object "java/io/Console"), (.object "java/io/PrintStream"), (.object "java/util/Properties"), (.object "java/lang/String"), (.object "java/lang/ModuleLayer")]
  resolved := Array.replicate 834 none
  statics := none }

def pool29 : Array CpInfo := pool [(2, .class_ 4), (1, u "java/lang/Object"), (0, u "<init>"), (0, u "()V"), (35, .class_ 44), (1, u "java/util/Objects"), (0, u "requireNonNull"), (0, u "(Ljava/lang/Object;)Ljava/lang/Object;")] 137

def k29m0 : Method := { name := "<init>", desc := "()V", sig := { parameters := [], returnType := none }, accessFlags := 2, code := none }
def k29c1 : Code := { maxStack := 2, maxLocals := 1, code := jdk_31_method_10_code, exceptionTable := #[], attributes := #[] }
def k29m1 : Method := { name := "requireNonNull", desc := "(Ljava/lang/Object;)Ljava/lang/Object;", sig := { parameters := [(.object "java/lang/Object")], returnType := some (.object "java/lang/Object") }, accessFlags := 9, code := some k29c1 }
/-- java/util/Objects -/
def k29 : Class := { plain "java/util/Objects" (some 0) with
  accessFlags := 49
  interfaces := #[]
  cf := some (fileOf pool29 42 #[] #[{ accessFlags := 2, nameIndex := 5, descriptorIndex := 6, attributes := #[] }, { accessFlags := 9, nameIndex := 45, descriptorIndex := 46, attributes := #[] }] 49 2 #[] #[])
  fields := #[]
  methods := #[k29m0, k29m1]
  instanceTypes := #[]
  staticTypes := #[]
  resolved := Array.replicate 184 none
  statics := none }

def pool30 : Array CpInfo := pool [(16, .class_ 18), (1, u "java/util/Iterator"), (0, u "hasNext"), (0, u "()Z"), (2, u "next"), (0, u "()Ljava/lang/Object;"), (6, .class_ 32), (0, u "java/lang/Object")] 20

def k30m0 : Method := { name := "hasNext", desc := "()Z", sig := { parameters := [], returnType := some .boolean }, accessFlags := 1025, code := none }
def k30m1 : Method := { name := "next", desc := "()Ljava/lang/Object;", sig := { parameters := [], returnType := some (.object "java/lang/Object") }, accessFlags := 1025, code := none }
/-- java/util/Iterator -/
def k30 : Class := { plain "java/util/Iterator" (some 0) with
  accessFlags := 1537
  interfaces := #[]
  cf := some (fileOf pool30 16 #[] #[{ accessFlags := 1025, nameIndex := 19, descriptorIndex := 20, attributes := #[] }, { accessFlags := 1025, nameIndex := 23, descriptorIndex := 24, attributes := #[] }] 1537 31 #[] #[])
  fields := #[]
  methods := #[k30m0, k30m1]
  instanceTypes := #[]
  staticTypes := #[]
  resolved := Array.replicate 53 none
  statics := none }

def pool31 : Array CpInfo := pool [(1, .class_ 2), (0, u "java/util/ListIterator"), (0, .class_ 4), (0, u "java/lang/Object"), (0, .class_ 6), (0, u "java/util/Iterator")] 20

/-- java/util/ListIterator -/
def k31 : Class := { plain "java/util/ListIterator" (some 0) with
  accessFlags := 1537
  interfaces := #[30]
  cf := some (fileOf pool31 1 #[] #[] 1537 3 #[5] #[])
  fields := #[]
  methods := #[]
  instanceTypes := #[]
  staticTypes := #[]
  resolved := Array.replicate 27 none
  statics := none }

def pool32 : Array CpInfo := pool [(1, .methodref 2 3), (0, .class_ 4), (0, .nameAndType 5 6), (0, u "java/lang/Object"), (0, u "<init>"), (0, u "()V"), (0, .fieldref 8 9), (0, .class_ 10), (0, .nameAndType 11 12), (0, u "java/util/ImmutableCollections$ListItr"), (0, u "list"), (0, u "Ljava/util/List;"), (0, .fieldref 8 14), (0, .nameAndType 15 16), (0, u "size"), (0, u "I"), (0, .fieldref 8 18), (0, .nameAndType 19 16), (0, u "cursor"), (0, .fieldref 8 21), (0, .nameAndType 22 23), (0, u "isListIterator"), (0, u "Z"), (0, .interfaceMethodref 25 26), (0, .class_ 27), (0, .nameAndType 28 29), (0, u "java/util/List"), (0, u "get"), (0, u "(I)Ljava/lang/Object;"), (6, .class_ 38), (1, u "java/util/ImmutableCollections"), (2, .class_ 42), (0, u "java/util/ListIterator"), (4, u "(Ljava/util/List;I)V"), (11, u "hasNext"), (0, u "()Z"), (1, u "next"), (0, u "()Ljava/lang/Object;")] 22

def k32c0 : Code := { maxStack := 2, maxLocals := 3, code := jdk_53_method_1_code, exceptionTable := #[], attributes := #[] }
def k32m0 : Method := { name := "<init>", desc := "(Ljava/util/List;I)V", sig := { parameters := [(.object "java/util/List"), .int], returnType := none }, accessFlags := 0, code := some k32c0 }
def k32c1 : Code := { maxStack := 2, maxLocals := 1, code := jdk_53_method_3_code, exceptionTable := #[], attributes := #[] }
def k32m1 : Method := { name := "hasNext", desc := "()Z", sig := { parameters := [], returnType := some .boolean }, accessFlags := 1, code := some k32c1 }
def k32c2 : Code := { maxStack := 3, maxLocals := 3, code := jdk_53_method_4_code, exceptionTable := #[{ startPc := 0, endPc := 24, handlerPc := 25, catchType := 30 }], attributes := #[] }
def k32m2 : Method := { name := "next", desc := "()Ljava/lang/Object;", sig := { parameters := [], returnType := some (.object "java/lang/Object") }, accessFlags := 1, code := some k32c2 }
/-- java/util/ImmutableCollections$ListItr -/
def k32 : Class := { plain "java/util/ImmutableCollections$ListItr" (some 0) with
  accessFlags := 48
  interfaces := #[31]
  cf := some (fileOf pool32 8 #[.nestHost 36] #[{ accessFlags := 0, nameIndex := 5, descriptorIndex := 47, attributes := #[] }, { accessFlags := 1, nameIndex := 59, descriptorIndex := 60, attributes := #[] }, { accessFlags := 1, nameIndex := 62, descriptorIndex := 63, attributes := #[] }] 48 2 #[41] #[{ accessFlags := 18, nameIndex := 11, descriptorIndex := 12, attributes := #[] }, { accessFlags := 18, nameIndex := 15, descriptorIndex := 16, attributes := #[] }, { accessFlags := 18, nameIndex := 22, descriptorIndex := 23, attributes := #[] }, { accessFlags := 2, nameIndex := 19, descriptorIndex := 16, attributes := #[] }])
  fields := #[{ name := "list", type := (.object "java/util/List"), accessFlags := 18, slot := 0, constantValue := 0 }, { name := "size", type := .int, accessFlags := 18, slot := 1, constantValue := 0 }, { name := "isListIterator", type := .boolean, accessFlags := 18, slot := 2, constantValue := 0 }, { name := "cursor", type := .int, accessFlags := 2, slot := 3, constantValue := 0 }]
  methods := #[k32m0, k32m1, k32m2]
  instanceTypes := #[(.object "java/util/List"), .int, .boolean, .int]
  staticTypes := #[]
  resolved := Array.replicate 86 none
  statics := none }

def pool33 : Array CpInfo := pool [(1, u "java/lang/Class"), (0, .class_ 1), (0, u "java/lang/Object"), (0, .class_ 3)] 0

/-- java/lang/Class -/
def k33 : Class := { plain "java/lang/Class" (some 0) with
  accessFlags := 49
  interfaces := #[]
  cf := some (fileOf pool33 2 #[] #[] 49 4 #[] #[])
  fields := #[]
  methods := #[]
  instanceTypes := #[]
  staticTypes := #[]
  resolved := Array.replicate 5 none
  statics := none }

/-- the primitive byte -/
def k34 : Class := { plain "byte" none with kind := .primitive 'B', accessFlags := 0x411 }
/-- [B -/
def k35 : Class := { plain "[B" (some 0) with kind := .array 34 .byte, interfaces := #[9, 10], accessFlags := 1041 }

/-- the primitive int -/
def k36 : Class := { plain "int" none with kind := .primitive 'I', accessFlags := 0x411 }
/-- [I -/
def k37 : Class := { plain "[I" (some 0) with kind := .array 36 .int, interfaces := #[9, 10], accessFlags := 1041 }

/-- [Ljava/lang/Object; -/
def k38 : Class := { plain "[Ljava/lang/Object;" (some 0) with kind := .array 0 (.object "java/lang/Object"), interfaces := #[9, 10], accessFlags := 1041, mirror := some 2 }

def heap : Heap := #[{ cls := 11, slots := #[.long 0, .int 0, .ref 3, .ref 4], vm := .statics 11 },
  { cls := 22, slots := #[.long 0, .int 0, .null, .ref 5, .ref 6, .null, .null, .null, .int 0, .int 1], vm := .statics 22 },
  { cls := 33, slots := #[], vm := .mirror 38 },
  { cls := 38, slots := #[], vm := .none },
  { cls := 38, slots := #[], vm := .none },
  { cls := 0, slots := #[], vm := .none },
  { cls := 26, slots := #[.null, .int 0], vm := .none }]
def classes : Array Class := #[k0, k1, k2, k3, k4, k5, k6, k7, k8, k9, k10, k11, k12, k13, k14, k15, k16, k17, k18, k19, k20, k21, k22, k23, k24, k25, k26, k27, k28, k29, k30, k31, k32, k33, k34, k35, k36, k37, k38]
def interned : List (Array UInt16 × Addr) := []
def slotsUsed : Nat := 16
def theMethod : MethodId := ⟨1, 5⟩
def args0 : Array Value := #[.long 5, .long 7, .long 9, .int 3]
def aboutOver (below : List Frame) : State where
  vm := { classes := classes, interned := interned.toArray }
  heap := heap
  slotsUsed := slotsUsed
  threads := #[{ frames := .invoking theMethod args0 :: below }]
def below0 : List Frame := [.native { method := ⟨0, 0⟩, args := #[] }]
def about1 : State := aboutOver below0
def p0 : Program := .bare "" "" ""
def e0 : Env := launch0.env 0 0 0
theorem w_frames : about1.frames = Frame.invoking theMethod args0 :: below0 := rfl
set_option maxRecDepth 65536 in
theorem w_args : argsFit about1.vm theMethod args0 = true := by decide +kernel
set_option maxRecDepth 65536 in
theorem w_heap : heapFits about1 = true := by decide +kernel
set_option maxRecDepth 65536 in
theorem w_runnable : about1.curStatus? = some .runnable := by decide +kernel
set_option maxRecDepth 65536 in
theorem w_alone : about1.alone = true := by decide +kernel
set_option maxRecDepth 65536 in
theorem w_named : about1.methodNamed? x = some theMethod := by decide +kernel
set_option maxRecDepth 65536 in
theorem w_hears : about1.hears theMethod below0 = true := by decide +kernel
set_option maxRecDepth 65536 in
theorem w_ripe : about1.ripe theMethod args0 below0 = true := by decide +kernel
theorem w_running : about1.status = .running := rfl
set_option maxRecDepth 65536 in
theorem w_room : about1.hasRoom e0.platform room_1 = true :=
  launch0.hasRoom_least _ room_1 (by decide +kernel) (by decide +kernel) (by decide +kernel) (by decide +kernel) (by decide +kernel) (by decide +kernel)
theorem allAtoms_all (ts : List Jvm.Cond) (a : Array Jvm.Value) (st : Jvm.State) : (allAtoms ts).before a st = ts.all (fun c => c.before a st) := by
  induction ts with
  | nil => rfl
  | cons c t ih =>
    show (Jvm.Cond.and c (allAtoms t)).before a st = _
    rw [Jvm.Cond.before_and, ih, List.all_cons]
def words1 : List Jvm.Cond := Jvm.Cond.code x code maxLocals ret :: tables_1
/-- a 'code' word, met by the world's own term for the bytes: nothing is compared byte by byte -/
theorem code_word {y : MethodName} {bytes : ByteArray} {mx : Nat} {rt : Option FieldType} {a : Array Value} {s : State} {m : MethodId} {meth : Method} {c : Code} (h1 : s.methodNamed? y = some m) (h2 : s.vm.method? m = some meth) (h3 : meth.code = some c) (h4 : c.code = bytes)
    (h5 : (c.maxLocals == mx && c.exceptionTable.isEmpty && decide (c.maxStack ≤ mostOperands) && decide (meth.sig.returnType = rt) && !meth.locks && decide (parseMethodDescriptor y.desc = some meth.sig)) = true) : (Jvm.Cond.code y bytes mx rt).before a s = true := by
  simp only [Bool.and_eq_true, beq_iff_eq, Bool.not_eq_true', decide_eq_true_eq] at h5
  obtain ⟨⟨⟨⟨⟨g1, g2⟩, g3⟩, g4⟩, g5⟩, g6⟩ := h5
  simp [Cond.before, Cond.holds, Cond.value, h1, h2, h3, h4, g1, g2, g3, g4, g5, g6]
def isCode : Jvm.Cond → Bool
  | .code _ _ _ _ => true
  | _ => false
theorem all_split {L : List Jvm.Cond} {P : Jvm.Cond → Bool} (h1 : L.all (fun c => isCode c || P c) = true) (h2 : ∀ c ∈ L.filter isCode, P c = true) : L.all P = true := by
  refine List.all_eq_true.mpr fun c hc => ?_
  have h := List.all_eq_true.mp h1 c hc
  rcases Bool.eq_false_or_eq_true (isCode c) with hi | hi
  · exact h2 c (List.mem_filter.mpr ⟨hc, hi⟩)
  · simpa [hi] using h
set_option maxRecDepth 65536 in
theorem w_c0 : (Jvm.Cond.code x code maxLocals ret).before args0 about1 = true := code_word (m := ⟨1, 5⟩) (meth := k1m5) (c := k1c5) (by decide +kernel) rfl rfl rfl (by decide +kernel)
set_option maxRecDepth 65536 in
theorem w_c1 : (Jvm.Cond.code ({ cls := "java/util/ArrayList", name := "<init>", desc := "()V" } : Jvm.MethodName) jdk_38_method_2_code (1 : Nat) (Option.none : Option Jvm.ClassFile.FieldType)).before args0 about1 = true := code_word (m := ⟨11, 0⟩) (meth := k11m0) (c := k11c0) (by decide +kernel) rfl rfl rfl (by decide +kernel)
set_option maxRecDepth 65536 in
theorem w_c2 : (Jvm.Cond.code ({ cls := "java/util/AbstractList", name := "<init>", desc := "()V" } : Jvm.MethodName) jdk_39_method_1_code (1 : Nat) (Option.none : Option Jvm.ClassFile.FieldType)).before args0 about1 = true := code_word (m := ⟨7, 0⟩) (meth := k7m0) (c := k7c0) (by decide +kernel) rfl rfl rfl (by decide +kernel)
set_option maxRecDepth 65536 in
theorem w_c3 : (Jvm.Cond.code ({ cls := "java/util/AbstractCollection", name := "<init>", desc := "()V" } : Jvm.MethodName) jdk_22_method_1_code (1 : Nat) (Option.none : Option Jvm.ClassFile.FieldType)).before args0 about1 = true := code_word (m := ⟨4, 0⟩) (meth := k4m0) (c := k4c0) (by decide +kernel) rfl rfl rfl (by decide +kernel)
set_option maxRecDepth 65536 in
theorem w_c4 : (Jvm.Cond.code ({ cls := "java/lang/Object", name := "<init>", desc := "()V" } : Jvm.MethodName) object_method_1_code (1 : Nat) (Option.none : Option Jvm.ClassFile.FieldType)).before args0 about1 = true := code_word (m := ⟨0, 0⟩) (meth := k0m0) (c := k0c0) (by decide +kernel) rfl rfl rfl (by decide +kernel)
set_option maxRecDepth 65536 in
theorem w_c5 : (Jvm.Cond.code ({ cls := "com/example/wakenitz/wakenitz/measure/ScoreSheetMeanPinLaw", name := "score", desc := "(J)Lcom/example/wakenitz/wakenitz/measure/Score;" } : Jvm.MethodName) method_4_code (2 : Nat) (Option.some (Jvm.ClassFile.FieldType.object "com/example/wakenitz/wakenitz/measure/Score"))).before args0 about1 = true := code_word (m := ⟨1, 3⟩) (meth := k1m3) (c := k1c3) (by decide +kernel) rfl rfl rfl (by decide +kernel)
set_option maxRecDepth 65536 in
theorem w_c6 : (Jvm.Cond.code ({ cls := "com/example/wakenitz/wakenitz/measure/ScoreSheetMeanPinLaw", name := "fig", desc := "(JI)I" } : Jvm.MethodName) method_2_code (3 : Nat) (Option.some Jvm.ClassFile.FieldType.int)).before args0 about1 = true := code_word (m := ⟨1, 1⟩) (meth := k1m1) (c := k1c1) (by decide +kernel) rfl rfl rfl (by decide +kernel)
set_option maxRecDepth 65536 in
theorem w_c7 : (Jvm.Cond.code ({ cls := "com/example/wakenitz/wakenitz/measure/Score", name := "<init>", desc := "(DDDD)V" } : Jvm.MethodName) prog_18_method_1_code (9 : Nat) (Option.none : Option Jvm.ClassFile.FieldType)).before args0 about1 = true := code_word (m := ⟨19, 0⟩) (meth := k19m0) (c := k19c0) (by decide +kernel) rfl rfl rfl (by decide +kernel)
set_option maxRecDepth 65536 in
theorem w_c8 : (Jvm.Cond.code ({ cls := "java/lang/Record", name := "<init>", desc := "()V" } : Jvm.MethodName) jdk_30_method_1_code (1 : Nat) (Option.none : Option Jvm.ClassFile.FieldType)).before args0 about1 = true := code_word (m := ⟨12, 0⟩) (meth := k12m0) (c := k12c0) (by decide +kernel) rfl rfl rfl (by decide +kernel)
set_option maxRecDepth 65536 in
theorem w_c9 : (Jvm.Cond.code ({ cls := "com/example/wakenitz/wakenitz/measure/ScoreSheet$PageScore", name := "<init>", desc := "(Ljava/lang/String;Lcom/example/wakenitz/wakenitz/measure/Score;)V" } : Jvm.MethodName) prog_20_method_1_code (3 : Nat) (Option.none : Option Jvm.ClassFile.FieldType)).before args0 about1 = true := code_word (m := ⟨13, 0⟩) (meth := k13m0) (c := k13c0) (by decide +kernel) rfl rfl rfl (by decide +kernel)
set_option maxRecDepth 65536 in
theorem w_c10 : (Jvm.Cond.code ({ cls := "java/util/ArrayList", name := "add", desc := "(Ljava/lang/Object;)Z" } : Jvm.MethodName) jdk_38_method_25_code (2 : Nat) (Option.some Jvm.ClassFile.FieldType.boolean)).before args0 about1 = true := code_word (m := ⟨11, 6⟩) (meth := k11m6) (c := k11c6) (by decide +kernel) rfl rfl rfl (by decide +kernel)
set_option maxRecDepth 65536 in
theorem w_c11 : (Jvm.Cond.code ({ cls := "java/util/ArrayList", name := "add", desc := "(Ljava/lang/Object;[Ljava/lang/Object;I)V" } : Jvm.MethodName) jdk_38_method_24_code (4 : Nat) (Option.none : Option Jvm.ClassFile.FieldType)).before args0 about1 = true := code_word (m := ⟨11, 5⟩) (meth := k11m5) (c := k11c5) (by decide +kernel) rfl rfl rfl (by decide +kernel)
set_option maxRecDepth 65536 in
theorem w_c12 : (Jvm.Cond.code ({ cls := "java/util/ArrayList", name := "grow", desc := "()[Ljava/lang/Object;" } : Jvm.MethodName) jdk_38_method_7_code (1 : Nat) (Option.some (Jvm.ClassFile.FieldType.array (Jvm.ClassFile.FieldType.object "java/lang/Object")))).before args0 about1 = true := code_word (m := ⟨11, 2⟩) (meth := k11m2) (c := k11c2) (by decide +kernel) rfl rfl rfl (by decide +kernel)
set_option maxRecDepth 65536 in
theorem w_c13 : (Jvm.Cond.code ({ cls := "java/util/ArrayList", name := "grow", desc := "(I)[Ljava/lang/Object;" } : Jvm.MethodName) jdk_38_method_6_code (4 : Nat) (Option.some (Jvm.ClassFile.FieldType.array (Jvm.ClassFile.FieldType.object "java/lang/Object")))).before args0 about1 = true := code_word (m := ⟨11, 1⟩) (meth := k11m1) (c := k11c1) (by decide +kernel) rfl rfl rfl (by decide +kernel)
set_option maxRecDepth 65536 in
theorem w_c14 : (Jvm.Cond.code ({ cls := "java/lang/Math", name := "max", desc := "(II)I" } : Jvm.MethodName) jdk_29_method_65_code (2 : Nat) (Option.some Jvm.ClassFile.FieldType.int)).before args0 about1 = true := code_word (m := ⟨20, 1⟩) (meth := k20m1) (c := k20c1) (by decide +kernel) rfl rfl rfl (by decide +kernel)
set_option maxRecDepth 65536 in
theorem w_c15 : (Jvm.Cond.code ({ cls := "com/example/wakenitz/wakenitz/measure/ScoreSheet", name := "<init>", desc := "(Ljava/util/List;)V" } : Jvm.MethodName) prog_19_method_1_code (2 : Nat) (Option.none : Option Jvm.ClassFile.FieldType)).before args0 about1 = true := code_word (m := ⟨21, 0⟩) (meth := k21m0) (c := k21c0) (by decide +kernel) rfl rfl rfl (by decide +kernel)
set_option maxRecDepth 65536 in
theorem w_c16 : (Jvm.Cond.code ({ cls := "java/util/ArrayList", name := "isEmpty", desc := "()Z" } : Jvm.MethodName) jdk_38_method_9_code (1 : Nat) (Option.some Jvm.ClassFile.FieldType.boolean)).before args0 about1 = true := code_word (m := ⟨11, 3⟩) (meth := k11m3) (c := k11c3) (by decide +kernel) rfl rfl rfl (by decide +kernel)
set_option maxRecDepth 65536 in
theorem w_c17 : (Jvm.Cond.code ({ cls := "java/util/List", name := "copyOf", desc := "(Ljava/util/Collection;)Ljava/util/List;" } : Jvm.MethodName) jdk_40_method_48_code (1 : Nat) (Option.some (Jvm.ClassFile.FieldType.object "java/util/List"))).before args0 about1 = true := code_word (m := ⟨6, 6⟩) (meth := k6m6) (c := k6c6) (by decide +kernel) rfl rfl rfl (by decide +kernel)
set_option maxRecDepth 65536 in
theorem w_c18 : (Jvm.Cond.code ({ cls := "java/util/ImmutableCollections", name := "listCopy", desc := "(Ljava/util/Collection;)Ljava/util/List;" } : Jvm.MethodName) jdk_56_method_3_code (2 : Nat) (Option.some (Jvm.ClassFile.FieldType.object "java/util/List"))).before args0 about1 = true := code_word (m := ⟨22, 1⟩) (meth := k22m1) (c := k22c1) (by decide +kernel) rfl rfl rfl (by decide +kernel)
set_option maxRecDepth 65536 in
theorem w_c19 : (Jvm.Cond.code ({ cls := "java/util/ArrayList", name := "toArray", desc := "()[Ljava/lang/Object;" } : Jvm.MethodName) jdk_38_method_16_code (1 : Nat) (Option.some (Jvm.ClassFile.FieldType.array (Jvm.ClassFile.FieldType.object "java/lang/Object")))).before args0 about1 = true := code_word (m := ⟨11, 4⟩) (meth := k11m4) (c := k11c4) (by decide +kernel) rfl rfl rfl (by decide +kernel)
set_option maxRecDepth 65536 in
theorem w_c20 : (Jvm.Cond.code ({ cls := "java/util/Arrays", name := "copyOf", desc := "([Ljava/lang/Object;I)[Ljava/lang/Object;" } : Jvm.MethodName) jdk_65_method_119_code (2 : Nat) (Option.some (Jvm.ClassFile.FieldType.array (Jvm.ClassFile.FieldType.object "java/lang/Object")))).before args0 about1 = true := code_word (m := ⟨27, 1⟩) (meth := k27m1) (c := k27c1) (by decide +kernel) rfl rfl rfl (by decide +kernel)
set_option maxRecDepth 65536 in
theorem w_c21 : (Jvm.Cond.code ({ cls := "java/util/Arrays", name := "copyOf", desc := "([Ljava/lang/Object;ILjava/lang/Class;)[Ljava/lang/Object;" } : Jvm.MethodName) jdk_65_method_120_code (4 : Nat) (Option.some (Jvm.ClassFile.FieldType.array (Jvm.ClassFile.FieldType.object "java/lang/Object")))).before args0 about1 = true := code_word (m := ⟨27, 2⟩) (meth := k27m2) (c := k27c2) (by decide +kernel) rfl rfl rfl (by decide +kernel)
set_option maxRecDepth 65536 in
theorem w_c22 : (Jvm.Cond.code ({ cls := "java/lang/Math", name := "min", desc := "(II)I" } : Jvm.MethodName) jdk_29_method_69_code (2 : Nat) (Option.some Jvm.ClassFile.FieldType.int)).before args0 about1 = true := code_word (m := ⟨20, 2⟩) (meth := k20m2) (c := k20c2) (by decide +kernel) rfl rfl rfl (by decide +kernel)
set_option maxRecDepth 65536 in
theorem w_c23 : (Jvm.Cond.code ({ cls := "java/util/List", name := "of", desc := "([Ljava/lang/Object;)Ljava/util/List;" } : Jvm.MethodName) jdk_40_method_47_code (2 : Nat) (Option.some (Jvm.ClassFile.FieldType.object "java/util/List"))).before args0 about1 = true := code_word (m := ⟨6, 5⟩) (meth := k6m5) (c := k6c5) (by decide +kernel) rfl rfl rfl (by decide +kernel)
set_option maxRecDepth 65536 in
theorem w_c24 : (Jvm.Cond.code ({ cls := "java/util/ImmutableCollections", name := "listFromArray", desc := "([Ljava/lang/Object;)Ljava/util/List;" } : Jvm.MethodName) jdk_56_method_4_code (3 : Nat) (Option.some (Jvm.ClassFile.FieldType.object "java/util/List"))).before args0 about1 = true := code_word (m := ⟨22, 2⟩) (meth := k22m2) (c := k22c2) (by decide +kernel) rfl rfl rfl (by decide +kernel)
set_option maxRecDepth 65536 in
theorem w_c25 : (Jvm.Cond.code ({ cls := "java/util/Objects", name := "requireNonNull", desc := "(Ljava/lang/Object;)Ljava/lang/Object;" } : Jvm.MethodName) jdk_31_method_10_code (1 : Nat) (Option.some (Jvm.ClassFile.FieldType.object "java/lang/Object"))).before args0 about1 = true := code_word (m := ⟨29, 1⟩) (meth := k29m1) (c := k29c1) (by decide +kernel) rfl rfl rfl (by decide +kernel)
set_option maxRecDepth 65536 in
theorem w_c26 : (Jvm.Cond.code ({ cls := "java/util/ImmutableCollections$ListN", name := "<init>", desc := "([Ljava/lang/Object;Z)V" } : Jvm.MethodName) jdk_45_method_1_code (3 : Nat) (Option.none : Option Jvm.ClassFile.FieldType)).before args0 about1 = true := code_word (m := ⟨26, 0⟩) (meth := k26m0) (c := k26c0) (by decide +kernel) rfl rfl rfl (by decide +kernel)
set_option maxRecDepth 65536 in
theorem w_c27 : (Jvm.Cond.code ({ cls := "java/util/ImmutableCollections$AbstractImmutableList", name := "<init>", desc := "()V" } : Jvm.MethodName) jdk_46_method_1_code (1 : Nat) (Option.none : Option Jvm.ClassFile.FieldType)).before args0 about1 = true := code_word (m := ⟨24, 0⟩) (meth := k24m0) (c := k24c0) (by decide +kernel) rfl rfl rfl (by decide +kernel)
set_option maxRecDepth 65536 in
theorem w_c28 : (Jvm.Cond.code ({ cls := "java/util/ImmutableCollections$AbstractImmutableCollection", name := "<init>", desc := "()V" } : Jvm.MethodName) jdk_47_method_1_code (1 : Nat) (Option.none : Option Jvm.ClassFile.FieldType)).before args0 about1 = true := code_word (m := ⟨23, 0⟩) (meth := k23m0) (c := k23c0) (by decide +kernel) rfl rfl rfl (by decide +kernel)
set_option maxRecDepth 65536 in
theorem w_c29 : (Jvm.Cond.code ({ cls := "com/example/wakenitz/wakenitz/measure/ScoreSheet", name := "mean", desc := "()Lcom/example/wakenitz/wakenitz/measure/Score;" } : Jvm.MethodName) prog_19_method_3_code (11 : Nat) (Option.some (Jvm.ClassFile.FieldType.object "com/example/wakenitz/wakenitz/measure/Score"))).before args0 about1 = true := code_word (m := ⟨21, 1⟩) (meth := k21m1) (c := k21c1) (by decide +kernel) rfl rfl rfl (by decide +kernel)
set_option maxRecDepth 65536 in
theorem w_c30 : (Jvm.Cond.code ({ cls := "java/util/ImmutableCollections$AbstractImmutableList", name := "iterator", desc := "()Ljava/util/Iterator;" } : Jvm.MethodName) jdk_46_method_10_code (1 : Nat) (Option.some (Jvm.ClassFile.FieldType.object "java/util/Iterator"))).before args0 about1 = true := code_word (m := ⟨24, 1⟩) (meth := k24m1) (c := k24c1) (by decide +kernel) rfl rfl rfl (by decide +kernel)
set_option maxRecDepth 65536 in
theorem w_c31 : (Jvm.Cond.code ({ cls := "java/util/ImmutableCollections$ListN", name := "size", desc := "()I" } : Jvm.MethodName) jdk_45_method_3_code (1 : Nat) (Option.some Jvm.ClassFile.FieldType.int)).before args0 about1 = true := code_word (m := ⟨26, 1⟩) (meth := k26m1) (c := k26c1) (by decide +kernel) rfl rfl rfl (by decide +kernel)
set_option maxRecDepth 65536 in
theorem w_c32 : (Jvm.Cond.code ({ cls := "java/util/ImmutableCollections$ListItr", name := "<init>", desc := "(Ljava/util/List;I)V" } : Jvm.MethodName) jdk_53_method_1_code (3 : Nat) (Option.none : Option Jvm.ClassFile.FieldType)).before args0 about1 = true := code_word (m := ⟨32, 0⟩) (meth := k32m0) (c := k32c0) (by decide +kernel) rfl rfl rfl (by decide +kernel)
set_option maxRecDepth 65536 in
theorem w_c33 : (Jvm.Cond.code ({ cls := "java/util/ImmutableCollections$ListItr", name := "hasNext", desc := "()Z" } : Jvm.MethodName) jdk_53_method_3_code (1 : Nat) (Option.some Jvm.ClassFile.FieldType.boolean)).before args0 about1 = true := code_word (m := ⟨32, 1⟩) (meth := k32m1) (c := k32c1) (by decide +kernel) rfl rfl rfl (by decide +kernel)
set_option maxRecDepth 65536 in
theorem w_c34 : (Jvm.Cond.code ({ cls := "java/util/ImmutableCollections$ListN", name := "get", desc := "(I)Ljava/lang/Object;" } : Jvm.MethodName) jdk_45_method_4_code (2 : Nat) (Option.some (Jvm.ClassFile.FieldType.object "java/lang/Object"))).before args0 about1 = true := code_word (m := ⟨26, 2⟩) (meth := k26m2) (c := k26c2) (by decide +kernel) rfl rfl rfl (by decide +kernel)
set_option maxRecDepth 65536 in
theorem w_c35 : (Jvm.Cond.code ({ cls := "com/example/wakenitz/wakenitz/measure/ScoreSheet$PageScore", name := "score", desc := "()Lcom/example/wakenitz/wakenitz/measure/Score;" } : Jvm.MethodName) prog_20_method_6_code (1 : Nat) (Option.some (Jvm.ClassFile.FieldType.object "com/example/wakenitz/wakenitz/measure/Score"))).before args0 about1 = true := code_word (m := ⟨13, 1⟩) (meth := k13m1) (c := k13c1) (by decide +kernel) rfl rfl rfl (by decide +kernel)
set_option maxRecDepth 65536 in
theorem w_c36 : (Jvm.Cond.code ({ cls := "com/example/wakenitz/wakenitz/measure/Score", name := "precision", desc := "()D" } : Jvm.MethodName) prog_18_method_13_code (1 : Nat) (Option.some Jvm.ClassFile.FieldType.double)).before args0 about1 = true := code_word (m := ⟨19, 1⟩) (meth := k19m1) (c := k19c1) (by decide +kernel) rfl rfl rfl (by decide +kernel)
set_option maxRecDepth 65536 in
theorem w_c37 : (Jvm.Cond.code ({ cls := "com/example/wakenitz/wakenitz/measure/Score", name := "recall", desc := "()D" } : Jvm.MethodName) prog_18_method_14_code (1 : Nat) (Option.some Jvm.ClassFile.FieldType.double)).before args0 about1 = true := code_word (m := ⟨19, 2⟩) (meth := k19m2) (c := k19c2) (by decide +kernel) rfl rfl rfl (by decide +kernel)
set_option maxRecDepth 65536 in
theorem w_c38 : (Jvm.Cond.code ({ cls := "com/example/wakenitz/wakenitz/measure/Score", name := "f1", desc := "()D" } : Jvm.MethodName) prog_18_method_15_code (1 : Nat) (Option.some Jvm.ClassFile.FieldType.double)).before args0 about1 = true := code_word (m := ⟨19, 3⟩) (meth := k19m3) (c := k19c3) (by decide +kernel) rfl rfl rfl (by decide +kernel)
set_option maxRecDepth 65536 in
theorem w_c39 : (Jvm.Cond.code ({ cls := "com/example/wakenitz/wakenitz/measure/Score", name := "similarity", desc := "()D" } : Jvm.MethodName) prog_18_method_16_code (1 : Nat) (Option.some Jvm.ClassFile.FieldType.double)).before args0 about1 = true := code_word (m := ⟨19, 4⟩) (meth := k19m4) (c := k19c4) (by decide +kernel) rfl rfl rfl (by decide +kernel)
set_option maxRecDepth 65536 in
theorem w_c40 : (Jvm.Cond.code ({ cls := "com/example/wakenitz/wakenitz/measure/ScoreSheetMeanPinLaw", name := "ref", desc := "(JJJII)D" } : Jvm.MethodName) method_5_code (9 : Nat) (Option.some Jvm.ClassFile.FieldType.double)).before args0 about1 = true := code_word (m := ⟨1, 4⟩) (meth := k1m4) (c := k1c4) (by decide +kernel) rfl rfl rfl (by decide +kernel)
set_option maxRecDepth 65536 in
theorem w_c41 : (Jvm.Cond.code ({ cls := "com/example/wakenitz/wakenitz/measure/ScoreSheetMeanPinLaw", name := "figIf", desc := "(JIZ)I" } : Jvm.MethodName) method_3_code (4 : Nat) (Option.some Jvm.ClassFile.FieldType.int)).before args0 about1 = true := code_word (m := ⟨1, 2⟩) (meth := k1m2) (c := k1c2) (by decide +kernel) rfl rfl rfl (by decide +kernel)
set_option maxRecDepth 65536 in
theorem w_c42 : (Jvm.Cond.code ({ cls := "java/util/ImmutableCollections$List12", name := "<init>", desc := "(Ljava/lang/Object;)V" } : Jvm.MethodName) jdk_44_method_1_code (2 : Nat) (Option.none : Option Jvm.ClassFile.FieldType)).before args0 about1 = true := code_word (m := ⟨25, 0⟩) (meth := k25m0) (c := k25c0) (by decide +kernel) rfl rfl rfl (by decide +kernel)
set_option maxRecDepth 65536 in
theorem w_c43 : (Jvm.Cond.code ({ cls := "java/util/ImmutableCollections$List12", name := "size", desc := "()I" } : Jvm.MethodName) jdk_44_method_3_code (1 : Nat) (Option.some Jvm.ClassFile.FieldType.int)).before args0 about1 = true := code_word (m := ⟨25, 2⟩) (meth := k25m2) (c := k25c2) (by decide +kernel) rfl rfl rfl (by decide +kernel)
set_option maxRecDepth 65536 in
theorem w_c44 : (Jvm.Cond.code ({ cls := "java/util/ImmutableCollections$List12", name := "get", desc := "(I)Ljava/lang/Object;" } : Jvm.MethodName) jdk_44_method_5_code (2 : Nat) (Option.some (Jvm.ClassFile.FieldType.object "java/lang/Object"))).before args0 about1 = true := code_word (m := ⟨25, 3⟩) (meth := k25m3) (c := k25c3) (by decide +kernel) rfl rfl rfl (by decide +kernel)
set_option maxRecDepth 65536 in
theorem w_c45 : (Jvm.Cond.code ({ cls := "java/util/ImmutableCollections$List12", name := "<init>", desc := "(Ljava/lang/Object;Ljava/lang/Object;)V" } : Jvm.MethodName) jdk_44_method_2_code (3 : Nat) (Option.none : Option Jvm.ClassFile.FieldType)).before args0 about1 = true := code_word (m := ⟨25, 1⟩) (meth := k25m1) (c := k25c1) (by decide +kernel) rfl rfl rfl (by decide +kernel)
def codes1 : List Jvm.Cond := [Jvm.Cond.code x code maxLocals ret, Jvm.Cond.code ({ cls := "java/util/ArrayList", name := "<init>", desc := "()V" } : Jvm.MethodName) jdk_38_method_2_code (1 : Nat) (Option.none : Option Jvm.ClassFile.FieldType), Jvm.Cond.code ({ cls := "java/util/AbstractList", name := "<init>", desc := "()V" } : Jvm.MethodName) jdk_39_method_1_code (1 : Nat) (Option.none : Option Jvm.ClassFile.FieldType), Jvm.Cond.code ({ cls := "java/util/AbstractCollection", name := "<init>", desc := "()V" } : Jvm.MethodName) jdk_22_method_1_code (1 : Nat) (Option.none : Option Jvm.ClassFile.FieldType), Jvm.Cond.code ({ cls := "java/lang/Object", name := "<init>", desc := "()V" } : Jvm.MethodName) object_method_1_code (1 : Nat) (Option.none : Option Jvm.ClassFile.FieldType), Jvm.Cond.code ({ cls := "com/example/wakenitz/wakenitz/measure/ScoreSheetMeanPinLaw", name := "score", desc := "(J)Lcom/example/wakenitz/wakenitz/measure/Score;" } : Jvm.MethodName) method_4_code (2 : Nat) (Option.some (Jvm.ClassFile.FieldType.object "com/example/wakenitz/wakenitz/measure/Score")), Jvm.Cond.code ({ cls := "com/example/wakenitz/wakenitz/measure/ScoreSheetMeanPinLaw", name := "fig", desc := "(JI)I" } : Jvm.MethodName) method_2_code (3 : Nat) (Option.some Jvm.ClassFile.FieldType.int), Jvm.Cond.code ({ cls := "com/example/wakenitz/wakenitz/measure/Score", name := "<init>", desc := "(DDDD)V" } : Jvm.MethodName) prog_18_method_1_code (9 : Nat) (Option.none : Option Jvm.ClassFile.FieldType), Jvm.Cond.code ({ cls := "java/lang/Record", name := "<init>", desc := "()V" } : Jvm.MethodName) jdk_30_method_1_code (1 : Nat) (Option.none : Option Jvm.ClassFile.FieldType), Jvm.Cond.code ({ cls := "com/example/wakenitz/wakenitz/measure/ScoreSheet$PageScore", name := "<init>", desc := "(Ljava/lang/String;Lcom/example/wakenitz/wakenitz/measure/Score;)V" } : Jvm.MethodName) prog_20_method_1_code (3 : Nat) (Option.none : Option Jvm.ClassFile.FieldType), Jvm.Cond.code ({ cls := "java/util/ArrayList", name := "add", desc := "(Ljava/lang/Object;)Z" } : Jvm.MethodName) jdk_38_method_25_code (2 : Nat) (Option.some Jvm.ClassFile.FieldType.boolean), Jvm.Cond.code ({ cls := "java/util/ArrayList", name := "add", desc := "(Ljava/lang/Object;[Ljava/lang/Object;I)V" } : Jvm.MethodName) jdk_38_method_24_code (4 : Nat) (Option.none : Option Jvm.ClassFile.FieldType), Jvm.Cond.code ({ cls := "java/util/ArrayList", name := "grow", desc := "()[Ljava/lang/Object;" } : Jvm.MethodName) jdk_38_method_7_code (1 : Nat) (Option.some (Jvm.ClassFile.FieldType.array (Jvm.ClassFile.FieldType.object "java/lang/Object"))), Jvm.Cond.code ({ cls := "java/util/ArrayList", name := "grow", desc := "(I)[Ljava/lang/Object;" } : Jvm.MethodName) jdk_38_method_6_code (4 : Nat) (Option.some (Jvm.ClassFile.FieldType.array (Jvm.ClassFile.FieldType.object "java/lang/Object"))), Jvm.Cond.code ({ cls := "java/lang/Math", name := "max", desc := "(II)I" } : Jvm.MethodName) jdk_29_method_65_code (2 : Nat) (Option.some Jvm.ClassFile.FieldType.int), Jvm.Cond.code ({ cls := "com/example/wakenitz/wakenitz/measure/ScoreSheet", name := "<init>", desc := "(Ljava/util/List;)V" } : Jvm.MethodName) prog_19_method_1_code (2 : Nat) (Option.none : Option Jvm.ClassFile.FieldType), Jvm.Cond.code ({ cls := "java/util/ArrayList", name := "isEmpty", desc := "()Z" } : Jvm.MethodName) jdk_38_method_9_code (1 : Nat) (Option.some Jvm.ClassFile.FieldType.boolean), Jvm.Cond.code ({ cls := "java/util/List", name := "copyOf", desc := "(Ljava/util/Collection;)Ljava/util/List;" } : Jvm.MethodName) jdk_40_method_48_code (1 : Nat) (Option.some (Jvm.ClassFile.FieldType.object "java/util/List")), Jvm.Cond.code ({ cls := "java/util/ImmutableCollections", name := "listCopy", desc := "(Ljava/util/Collection;)Ljava/util/List;" } : Jvm.MethodName) jdk_56_method_3_code (2 : Nat) (Option.some (Jvm.ClassFile.FieldType.object "java/util/List")), Jvm.Cond.code ({ cls := "java/util/ArrayList", name := "toArray", desc := "()[Ljava/lang/Object;" } : Jvm.MethodName) jdk_38_method_16_code (1 : Nat) (Option.some (Jvm.ClassFile.FieldType.array (Jvm.ClassFile.FieldType.object "java/lang/Object"))), Jvm.Cond.code ({ cls := "java/util/Arrays", name := "copyOf", desc := "([Ljava/lang/Object;I)[Ljava/lang/Object;" } : Jvm.MethodName) jdk_65_method_119_code (2 : Nat) (Option.some (Jvm.ClassFile.FieldType.array (Jvm.ClassFile.FieldType.object "java/lang/Object"))), Jvm.Cond.code ({ cls := "java/util/Arrays", name := "copyOf", desc := "([Ljava/lang/Object;ILjava/lang/Class;)[Ljava/lang/Object;" } : Jvm.MethodName) jdk_65_method_120_code (4 : Nat) (Option.some (Jvm.ClassFile.FieldType.array (Jvm.ClassFile.FieldType.object "java/lang/Object"))), Jvm.Cond.code ({ cls := "java/lang/Math", name := "min", desc := "(II)I" } : Jvm.MethodName) jdk_29_method_69_code (2 : Nat) (Option.some Jvm.ClassFile.FieldType.int), Jvm.Cond.code ({ cls := "java/util/List", name := "of", desc := "([Ljava/lang/Object;)Ljava/util/List;" } : Jvm.MethodName) jdk_40_method_47_code (2 : Nat) (Option.some (Jvm.ClassFile.FieldType.object "java/util/List")), Jvm.Cond.code ({ cls := "java/util/ImmutableCollections", name := "listFromArray", desc := "([Ljava/lang/Object;)Ljava/util/List;" } : Jvm.MethodName) jdk_56_method_4_code (3 : Nat) (Option.some (Jvm.ClassFile.FieldType.object "java/util/List")), Jvm.Cond.code ({ cls := "java/util/Objects", name := "requireNonNull", desc := "(Ljava/lang/Object;)Ljava/lang/Object;" } : Jvm.MethodName) jdk_31_method_10_code (1 : Nat) (Option.some (Jvm.ClassFile.FieldType.object "java/lang/Object")), Jvm.Cond.code ({ cls := "java/util/ImmutableCollections$ListN", name := "<init>", desc := "([Ljava/lang/Object;Z)V" } : Jvm.MethodName) jdk_45_method_1_code (3 : Nat) (Option.none : Option Jvm.ClassFile.FieldType), Jvm.Cond.code ({ cls := "java/util/ImmutableCollections$AbstractImmutableList", name := "<init>", desc := "()V" } : Jvm.MethodName) jdk_46_method_1_code (1 : Nat) (Option.none : Option Jvm.ClassFile.FieldType), Jvm.Cond.code ({ cls := "java/util/ImmutableCollections$AbstractImmutableCollection", name := "<init>", desc := "()V" } : Jvm.MethodName) jdk_47_method_1_code (1 : Nat) (Option.none : Option Jvm.ClassFile.FieldType), Jvm.Cond.code ({ cls := "com/example/wakenitz/wakenitz/measure/ScoreSheet", name := "mean", desc := "()Lcom/example/wakenitz/wakenitz/measure/Score;" } : Jvm.MethodName) prog_19_method_3_code (11 : Nat) (Option.some (Jvm.ClassFile.FieldType.object "com/example/wakenitz/wakenitz/measure/Score")), Jvm.Cond.code ({ cls := "java/util/ImmutableCollections$AbstractImmutableList", name := "iterator", desc := "()Ljava/util/Iterator;" } : Jvm.MethodName) jdk_46_method_10_code (1 : Nat) (Option.some (Jvm.ClassFile.FieldType.object "java/util/Iterator")), Jvm.Cond.code ({ cls := "java/util/ImmutableCollections$ListN", name := "size", desc := "()I" } : Jvm.MethodName) jdk_45_method_3_code (1 : Nat) (Option.some Jvm.ClassFile.FieldType.int), Jvm.Cond.code ({ cls := "java/util/ImmutableCollections$ListItr", name := "<init>", desc := "(Ljava/util/List;I)V" } : Jvm.MethodName) jdk_53_method_1_code (3 : Nat) (Option.none : Option Jvm.ClassFile.FieldType), Jvm.Cond.code ({ cls := "java/util/ImmutableCollections$ListItr", name := "hasNext", desc := "()Z" } : Jvm.MethodName) jdk_53_method_3_code (1 : Nat) (Option.some Jvm.ClassFile.FieldType.boolean), Jvm.Cond.code ({ cls := "java/util/ImmutableCollections$ListN", name := "get", desc := "(I)Ljava/lang/Object;" } : Jvm.MethodName) jdk_45_method_4_code (2 : Nat) (Option.some (Jvm.ClassFile.FieldType.object "java/lang/Object")), Jvm.Cond.code ({ cls := "com/example/wakenitz/wakenitz/measure/ScoreSheet$PageScore", name := "score", desc := "()Lcom/example/wakenitz/wakenitz/measure/Score;" } : Jvm.MethodName) prog_20_method_6_code (1 : Nat) (Option.some (Jvm.ClassFile.FieldType.object "com/example/wakenitz/wakenitz/measure/Score")), Jvm.Cond.code ({ cls := "com/example/wakenitz/wakenitz/measure/Score", name := "precision", desc := "()D" } : Jvm.MethodName) prog_18_method_13_code (1 : Nat) (Option.some Jvm.ClassFile.FieldType.double), Jvm.Cond.code ({ cls := "com/example/wakenitz/wakenitz/measure/Score", name := "recall", desc := "()D" } : Jvm.MethodName) prog_18_method_14_code (1 : Nat) (Option.some Jvm.ClassFile.FieldType.double), Jvm.Cond.code ({ cls := "com/example/wakenitz/wakenitz/measure/Score", name := "f1", desc := "()D" } : Jvm.MethodName) prog_18_method_15_code (1 : Nat) (Option.some Jvm.ClassFile.FieldType.double), Jvm.Cond.code ({ cls := "com/example/wakenitz/wakenitz/measure/Score", name := "similarity", desc := "()D" } : Jvm.MethodName) prog_18_method_16_code (1 : Nat) (Option.some Jvm.ClassFile.FieldType.double), Jvm.Cond.code ({ cls := "com/example/wakenitz/wakenitz/measure/ScoreSheetMeanPinLaw", name := "ref", desc := "(JJJII)D" } : Jvm.MethodName) method_5_code (9 : Nat) (Option.some Jvm.ClassFile.FieldType.double), Jvm.Cond.code ({ cls := "com/example/wakenitz/wakenitz/measure/ScoreSheetMeanPinLaw", name := "figIf", desc := "(JIZ)I" } : Jvm.MethodName) method_3_code (4 : Nat) (Option.some Jvm.ClassFile.FieldType.int), Jvm.Cond.code ({ cls := "java/util/ImmutableCollections$List12", name := "<init>", desc := "(Ljava/lang/Object;)V" } : Jvm.MethodName) jdk_44_method_1_code (2 : Nat) (Option.none : Option Jvm.ClassFile.FieldType), Jvm.Cond.code ({ cls := "java/util/ImmutableCollections$List12", name := "size", desc := "()I" } : Jvm.MethodName) jdk_44_method_3_code (1 : Nat) (Option.some Jvm.ClassFile.FieldType.int), Jvm.Cond.code ({ cls := "java/util/ImmutableCollections$List12", name := "get", desc := "(I)Ljava/lang/Object;" } : Jvm.MethodName) jdk_44_method_5_code (2 : Nat) (Option.some (Jvm.ClassFile.FieldType.object "java/lang/Object")), Jvm.Cond.code ({ cls := "java/util/ImmutableCollections$List12", name := "<init>", desc := "(Ljava/lang/Object;Ljava/lang/Object;)V" } : Jvm.MethodName) jdk_44_method_2_code (3 : Nat) (Option.none : Option Jvm.ClassFile.FieldType)]
set_option maxRecDepth 65536 in
theorem codes_eq : words1.filter isCode = codes1 := rfl
theorem w_codes : ∀ c ∈ words1.filter isCode, c.before args0 about1 = true := by
  rw [codes_eq]
  intro c hc
  simp only [codes1, List.mem_cons, List.not_mem_nil, or_false] at hc
  rcases hc with rfl | rfl | rfl | rfl | rfl | rfl | rfl | rfl | rfl | rfl | rfl | rfl | rfl | rfl | rfl | rfl | rfl | rfl | rfl | rfl | rfl | rfl | rfl | rfl | rfl | rfl | rfl | rfl | rfl | rfl | rfl | rfl | rfl | rfl | rfl | rfl | rfl | rfl | rfl | rfl | rfl | rfl | rfl | rfl | rfl | rfl
  · exact w_c0
  · exact w_c1
  · exact w_c2
  · exact w_c3
  · exact w_c4
  · exact w_c5
  · exact w_c6
  · exact w_c7
  · exact w_c8
  · exact w_c9
  · exact w_c10
  · exact w_c11
  · exact w_c12
  · exact w_c13
  · exact w_c14
  · exact w_c15
  · exact w_c16
  · exact w_c17
  · exact w_c18
  · exact w_c19
  · exact w_c20
  · exact w_c21
  · exact w_c22
  · exact w_c23
  · exact w_c24
  · exact w_c25
  · exact w_c26
  · exact w_c27
  · exact w_c28
  · exact w_c29
  · exact w_c30
  · exact w_c31
  · exact w_c32
  · exact w_c33
  · exact w_c34
  · exact w_c35
  · exact w_c36
  · exact w_c37
  · exact w_c38
  · exact w_c39
  · exact w_c40
  · exact w_c41
  · exact w_c42
  · exact w_c43
  · exact w_c44
  · exact w_c45
set_option maxRecDepth 65536 in
theorem w_t1 : (words1.take 24).all (fun c => isCode c || c.before args0 about1) = true := by decide +kernel
set_option maxRecDepth 65536 in
theorem w_t2 : ((words1.drop 24).take 24).all (fun c => isCode c || c.before args0 about1) = true := by decide +kernel
set_option maxRecDepth 65536 in
theorem w_t3 : (((words1.drop 24).drop 24).take 24).all (fun c => isCode c || c.before args0 about1) = true := by decide +kernel
set_option maxRecDepth 65536 in
theorem w_t4 : ((((words1.drop 24).drop 24).drop 24).take 24).all (fun c => isCode c || c.before args0 about1) = true := by decide +kernel
set_option maxRecDepth 65536 in
theorem w_t5 : (((((words1.drop 24).drop 24).drop 24).drop 24).take 24).all (fun c => isCode c || c.before args0 about1) = true := by decide +kernel
set_option maxRecDepth 65536 in
theorem w_t6 : ((((((words1.drop 24).drop 24).drop 24).drop 24).drop 24).take 24).all (fun c => isCode c || c.before args0 about1) = true := by decide +kernel
set_option maxRecDepth 65536 in
theorem w_t7 : (((((((words1.drop 24).drop 24).drop 24).drop 24).drop 24).drop 24).take 24).all (fun c => isCode c || c.before args0 about1) = true := by decide +kernel
set_option maxRecDepth 65536 in
theorem w_t8 : ((((((((words1.drop 24).drop 24).drop 24).drop 24).drop 24).drop 24).drop 24).take 24).all (fun c => isCode c || c.before args0 about1) = true := by decide +kernel
set_option maxRecDepth 65536 in
theorem w_t9 : (((((((((words1.drop 24).drop 24).drop 24).drop 24).drop 24).drop 24).drop 24).drop 24).take 24).all (fun c => isCode c || c.before args0 about1) = true := by decide +kernel
set_option maxRecDepth 65536 in
theorem w_t10 : ((((((((((words1.drop 24).drop 24).drop 24).drop 24).drop 24).drop 24).drop 24).drop 24).drop 24).take 24).all (fun c => isCode c || c.before args0 about1) = true := by decide +kernel
set_option maxRecDepth 65536 in
theorem w_t11 : (((((((((((words1.drop 24).drop 24).drop 24).drop 24).drop 24).drop 24).drop 24).drop 24).drop 24).drop 24).take 24).all (fun c => isCode c || c.before args0 about1) = true := by decide +kernel
set_option maxRecDepth 65536 in
theorem w_t12 : ((((((((((((words1.drop 24).drop 24).drop 24).drop 24).drop 24).drop 24).drop 24).drop 24).drop 24).drop 24).drop 24).take 24).all (fun c => isCode c || c.before args0 about1) = true := by decide +kernel
set_option maxRecDepth 65536 in
theorem w_t13 : (((((((((((((words1.drop 24).drop 24).drop 24).drop 24).drop 24).drop 24).drop 24).drop 24).drop 24).drop 24).drop 24).drop 24).take 24).all (fun c => isCode c || c.before args0 about1) = true := by decide +kernel
set_option maxRecDepth 65536 in
theorem w_t14 : ((((((((((((((words1.drop 24).drop 24).drop 24).drop 24).drop 24).drop 24).drop 24).drop 24).drop 24).drop 24).drop 24).drop 24).drop 24).take 24).all (fun c => isCode c || c.before args0 about1) = true := by decide +kernel
set_option maxRecDepth 65536 in
theorem w_t15 : ((((((((((((((words1.drop 24).drop 24).drop 24).drop 24).drop 24).drop 24).drop 24).drop 24).drop 24).drop 24).drop 24).drop 24).drop 24).drop 24).all (fun c => isCode c || c.before args0 about1) = true := by decide +kernel
theorem w_tables : (allAtoms (Jvm.Cond.code x code maxLocals ret :: tables_1)).before args0 about1 = true := by
  rw [allAtoms_all]
  show words1.all (fun c => c.before args0 about1) = true
  refine all_split ?_ w_codes
  rw [← List.take_append_drop 24 words1, List.all_append, w_t1, ← List.take_append_drop 24 (words1.drop 24), List.all_append, w_t2, ← List.take_append_drop 24 ((words1.drop 24).drop 24), List.all_append, w_t3, ← List.take_append_drop 24 (((words1.drop 24).drop 24).drop 24), List.all_append, w_t4, ← List.take_append_drop 24 ((((words1.drop 24).drop 24).drop 24).drop 24), List.all_append, w_t5, ← List.take_append_drop 24 (((((words1.drop 24).drop 24).drop 24).drop 24).drop 24), List.all_append, w_t6, ← List.take_append_drop 24 ((((((words1.drop 24).drop 24).drop 24).drop 24).drop 24).drop 24), List.all_append, w_t7, ← List.take_append_drop 24 (((((((words1.drop 24).drop 24).drop 24).drop 24).drop 24).drop 24).drop 24), List.all_append, w_t8, ← List.take_append_drop 24 ((((((((words1.drop 24).drop 24).drop 24).drop 24).drop 24).drop 24).drop 24).drop 24), List.all_append, w_t9, ← List.take_append_drop 24 (((((((((words1.drop 24).drop 24).drop 24).drop 24).drop 24).drop 24).drop 24).drop 24).drop 24), List.all_append, w_t10, ← List.take_append_drop 24 ((((((((((words1.drop 24).drop 24).drop 24).drop 24).drop 24).drop 24).drop 24).drop 24).drop 24).drop 24), List.all_append, w_t11, ← List.take_append_drop 24 (((((((((((words1.drop 24).drop 24).drop 24).drop 24).drop 24).drop 24).drop 24).drop 24).drop 24).drop 24).drop 24), List.all_append, w_t12, ← List.take_append_drop 24 ((((((((((((words1.drop 24).drop 24).drop 24).drop 24).drop 24).drop 24).drop 24).drop 24).drop 24).drop 24).drop 24).drop 24), List.all_append, w_t13, ← List.take_append_drop 24 (((((((((((((words1.drop 24).drop 24).drop 24).drop 24).drop 24).drop 24).drop 24).drop 24).drop 24).drop 24).drop 24).drop 24).drop 24), List.all_append, w_t14, w_t15]
  rfl
set_option maxRecDepth 65536 in
theorem w_rest : rest_1_c.before args0 about1 = true := by decide +kernel
set_option maxRecDepth 65536 in
theorem w_case : (Jvm.Cond.and given_1 narrow_1).before args0 about1 = true := by decide +kernel
theorem w_applies : (headSpec (Jvm.Cond.code x code maxLocals ret :: tables_1) room_1).applies x e0.platform about1 = true :=
  (Spec.applies_iff w_frames).mpr ⟨w_running, w_runnable, w_alone, w_named, w_hears, w_ripe, w_room, w_tables⟩
theorem atStart : AtStart classFile x code maxLocals ret World_1 tables_1 room_1 Calls_1 rest_1 Pre_1 launch0 p0 e0 about1 theMethod args0 below0 :=
  ⟨lists_1, trivial, launch0.admits_env _ _ _, launch0.least_env, fairChoices_fair.cas, fairChoices_fair.clock, w_frames, w_args, w_heap, w_applies, ⟨⟨38, k38, 2, by decide +kernel, rfl, rfl, _, rfl, rfl⟩, trivial⟩, w_rest, w_case⟩
end start1
theorem witness_1 : WitnessClaimed_1 := ⟨start1.p0, start1.e0, start1.about1, start1.theMethod, start1.args0, start1.below0, start1.atStart⟩
end Jvm.Pilot.@@N@@
