import JvmDerived
import JvmDerived.Pilot.@@N@@Statement
import JvmDerived.Pilot.@@N@@Code
set_option linter.unusedVariables false
set_option linter.unusedSimpArgs false
namespace Jvm.OwnKit
open Jvm Sem ClassFile Op Lib Jvm.Stand Jvm.Free Jvm.LawKit Jvm.RoadKit
section Own
variable {p : Program} {l : Launch} {e : Env} {R : Room} {s : State} {m : MethodId} {args : Array Value} {below : List Frame} {meth : Method} {c : Code} {T : State} {locs : List Loc} {cells slots : Nat} {Z : State} {a0 : Array Value} {h h' : Heap}
/-- the walk from A on comes to an end that says Q -/
def Goes (tb : Tables) (e : Env) (below : List Frame) (Q : State → Outcome → Prop) (A : State) : Prop := ∃ t o, Steps tb e below A t ∧ t.status = .running ∧ Ended t below o ∧ Q t o
theorem Goes.via {tb : Tables} {Q : State → Outcome → Prop} {A B : State} (st : ∀ t, Steps tb e below B t → Steps tb e below A t) (k : Goes tb e below Q B) : Goes tb e below Q A := by
  obtain ⟨t, o, h, r⟩ := k; exact ⟨t, o, st t h, r⟩
/-- what a contract says at one start: the arguments as', the heap h -/
abbrev Ctr (l : Launch) (Z : State) (y : MethodName) (bytes : ByteArray) (maxL : Nat) (ret : Option FieldType) (rm : Room) (as' : Array Value) (h : Heap) (Q : Option Value → Heap → List Loc → Prop) (ws : List Cond) : Prop :=
  MetFree l y (head1 (Cond.code y bytes maxL ret :: ws) rm) (fun a U => a = as' ∧ Z.Warmed39 U.vm ∧ U.heap = h) (fun _ _ _ _ _ => True) (fun _ U o U' => ∃ v L, o = .returned v ∧ Q v U'.heap L ∧ FrameEnd U o U' L rm.cells rm.slots)
/-- what a contract says of a body that may make String constants -/
abbrev CtrW (l : Launch) (Z : State) (y : MethodName) (bytes : ByteArray) (maxL : Nat) (ret : Option FieldType) (rm : Room) (as' : Array Value) (h : Heap) (Q : Option Value → Heap → List Loc → Prop) (ws : List Cond) : Prop :=
  MetFree l y (head1 (Cond.code y bytes maxL ret :: ws) rm) (fun a U => a = as' ∧ Z.Warmed39 U.vm ∧ U.heap = h) (fun _ _ _ _ _ => True) (fun _ U o U' => ∃ v L, o = .returned v ∧ Q v U'.heap L ∧ ReturnedEndW U o U' L rm.cells rm.slots)
/-- the leave of a walk, in either frame F -/
def Lv (F : State → Outcome → State → List Loc → Nat → Nat → Prop) (e : Env) (s : State) (m : MethodId) (below : List Frame) (meth : Method) (T : State) (locs : List Loc) (C S : Nat) : Prop :=
  ∀ v : Option Value, (meth.sig.returnType = none → v = none) → ∃ fs, (∀ (f : JFrame) (acts : List Action), f.method = m → f.locked = none → f.entered = [] → (doReturn e (T.setTop f) acts v).1 = T.setFrames fs) ∧ (T.setFrames fs).status = .running ∧ Ended (T.setFrames fs) below (.returned v) ∧ F s (.returned v) (T.setFrames fs) locs C S
theorem lvN (X : Stand p l e R s m args below meth c T locs cells slots) (hlocks : meth.locks = false) {C S : Nat} (hc : cells ≤ C) (hs : slots ≤ S) : Lv FrameEnd e s m below meth T locs C S := fun v hv => by
  obtain ⟨fs, hr, hrun, hended, hW, hsame⟩ := X.leave hv hlocks
  exact ⟨fs, hr, hrun, hended, ⟨_, rfl⟩, hW, hsame.mono hc hs⟩
theorem lvW {vm0 : Vm} {k0 : Nat} (X : Stand p l e R (s.setVm vm0) m args below meth c T locs cells slots) (hlocks : meth.locks = false) (hS : s.Since vm0 k0) (eT : T.heap = h) (hk : k0 ≤ h.size) {C S : Nat} (hc : cells ≤ C) (hs : slots ≤ S) : Lv ReturnedEndW e s m below meth T locs C S := fun v hv => by
  obtain ⟨fs, hr, hrun, hended, h1, h2, h3, h4⟩ := X.leaveW hS (eT ▸ hk) hv hlocks
  exact ⟨fs, hr, hrun, hended, h1, h2, h3, h4.mono hc hs⟩
theorem fin {F : State → Outcome → State → List Loc → Nat → Nat → Prop} {v : Option Value} (hv : meth.sig.returnType = none → v = none) {A : State}
    (hk : ∀ fs, (∀ (f : JFrame) (acts : List Action), f.method = m → f.locked = none → f.entered = [] → (doReturn e (T.setTop f) acts v).1 = T.setFrames fs) → Steps p.tables e below A (T.setFrames fs))
    {Q : Option Value → Heap → List Loc → Prop} {C S : Nat} (eT : T.heap = h) (hQ : Q v h locs) (lv : Lv F e s m below meth T locs C S) :
    Goes p.tables e below (fun t o => ∃ v L, o = .returned v ∧ Q v t.heap L ∧ F s o t L C S) A := by
  obtain ⟨fs, hr, hrun, hended, hF⟩ := lv v hv
  subst eT
  exact ⟨_, _, hk fs hr, hrun, hended, v, locs, rfl, hQ, hF⟩
variable {sb : State} {F : State → Outcome → State → List Loc → Nat → Nat → Prop}
/-- return of nothing -/
theorem fin0 (X : Stand p l e R sb m args below meth c T locs cells slots) (hx : p.tables.exec = Jvm.exec) (hret : meth.sig.returnType = none) {pc : Nat} {Ls : Array Slot} (hd : decode c.code pc = .ok (.return_, 1))
    {Q : Option Value → Heap → List Loc → Prop} {C S : Nat} (eT : T.heap = h) (hQ : Q none h locs) (lv : Lv F e s m below meth T locs C S) :
    Goes p.tables e below (fun t o => ∃ v L, o = .returned v ∧ Q v t.heap L ∧ F s o t L C S) (T.setTop (mkF m pc Ls [])) :=
  fin (fun _ => rfl) (fun _ hl => X.returnOut hx hret hd hl) eT hQ lv
theorem finI (X : Stand p l e R sb m args below meth c T locs cells slots) (hx : p.tables.exec = Jvm.exec) (hret : meth.sig.returnType = some .int) {pc : Nat} {Ls : Array Slot} {st : List Value} {z : Int32} (hd : decode c.code pc = .ok (.ireturn, 1))
    {Q : Option Value → Heap → List Loc → Prop} {C S : Nat} (eT : T.heap = h) (hQ : Q (some (.int z)) h locs) (lv : Lv F e s m below meth T locs C S) :
    Goes p.tables e below (fun t o => ∃ v L, o = .returned v ∧ Q v t.heap L ∧ F s o t L C S) (T.setTop (mkF m pc Ls (.int z :: st))) :=
  fin (fun q => by rw [hret] at q; cases q) (fun _ hl => retOut X hx hret rfl (Or.inl ⟨rfl, Or.inl rfl, _, rfl⟩) hd hl) eT hQ lv
theorem finN (X : Stand p l e R sb m args below meth c T locs cells slots) (hx : p.tables.exec = Jvm.exec) {t : FieldType} (hret : meth.sig.returnType = some t) (ht : t = .boolean ∨ t = .byte ∨ t = .char ∨ t = .short) {pc : Nat} {Ls : Array Slot} {st : List Value} {z z' : Int32} (hz : nar t z = z') (hd : decode c.code pc = .ok (.ireturn, 1))
    {Q : Option Value → Heap → List Loc → Prop} {C S : Nat} (eT : T.heap = h) (hQ : Q (some (.int z')) h locs) (lv : Lv F e s m below meth T locs C S) :
    Goes p.tables e below (fun t o => ∃ v L, o = .returned v ∧ Q v t.heap L ∧ F s o t L C S) (T.setTop (mkF m pc Ls (.int z :: st))) :=
  fin (fun q => by rw [hret] at q; cases q) (fun _ hl => by subst hz; exact retN X hx hret ht hd hl) eT hQ lv
theorem finJ (X : Stand p l e R sb m args below meth c T locs cells slots) (hx : p.tables.exec = Jvm.exec) (hret : meth.sig.returnType = some .long) {pc : Nat} {Ls : Array Slot} {st : List Value} {z : Int64} (hd : decode c.code pc = .ok (.lreturn, 1))
    {Q : Option Value → Heap → List Loc → Prop} {C S : Nat} (eT : T.heap = h) (hQ : Q (some (.long z)) h locs) (lv : Lv F e s m below meth T locs C S) :
    Goes p.tables e below (fun t o => ∃ v L, o = .returned v ∧ Q v t.heap L ∧ F s o t L C S) (T.setTop (mkF m pc Ls (.long z :: st))) :=
  fin (fun q => by rw [hret] at q; cases q) (fun _ hl => retOut X hx hret rfl (Or.inr (Or.inl ⟨rfl, rfl, _, rfl⟩)) hd hl) eT hQ lv
theorem finA (X : Stand p l e R sb m args below meth c T locs cells slots) (hx : p.tables.exec = Jvm.exec) {t : FieldType} (hret : meth.sig.returnType = some t) (ht : t.isReference = true) {pc : Nat} {Ls : Array Slot} {st : List Value} {w : Value} (hw : w.isRef = true) (hn : narrow t w = w) (hd : decode c.code pc = .ok (.areturn, 1))
    {Q : Option Value → Heap → List Loc → Prop} {C S : Nat} (eT : T.heap = h) (hQ : Q (some w) h locs) (lv : Lv F e s m below meth T locs C S) :
    Goes p.tables e below (fun t o => ∃ v L, o = .returned v ∧ Q v t.heap L ∧ F s o t L C S) (T.setTop (mkF m pc Ls (w :: st))) :=
  fin (fun q => by rw [hret] at q; cases q) (fun _ hl => retOut X hx hret hn (Or.inr (Or.inr (Or.inr (Or.inr ⟨rfl, ht, hw⟩)))) hd hl) eT hQ lv
theorem nar_ref {t : FieldType} {w : Value} (ht : t.isReference = true) (hw : w.isRef = true) : narrow t w = w := by cases t <;> first | (cases ht; done) | (cases w <;> first | rfl | (cases hw; done))
theorem fit_ref {t : FieldType} {w : Value} (ht : t.isReference = true) (hw : w.isRef = true) : fits t w = true := by cases t <;> first | (cases ht; done) | (cases w <;> first | rfl | (cases hw; done))
theorem old_le {n0 : Nat} (O : Old Z n0 h) : n0 ≤ h.size := O.1 ▸ O.2.1
/-- a callee's law, in the one shape -/
abbrev BackQ (l : Launch) (R : Room) (p : Program) (e : Env) (below : List Frame) (s : State) (args : Array Value) (y : MethodName) (W : Nat) (as' : Array Value) (h : Heap) (kc ks : Nat) (Q : Option Value → Heap → List Loc → Prop) : Prop :=
  Back l R p e below s args y 3 W (fun A a => a = as' ∧ A.U.heap = h ∧ A.cells + kc ≤ R.cells ∧ A.slots + ks ≤ R.slots) (fun A _ v B => ∃ L, Q v B.U.heap L ∧ B.locs = A.locs ++ L ∧ B.cells = A.cells + kc ∧ B.slots = A.slots + ks)
theorem callStaticB (X : Stand p l e R s m args below meth c T locs cells slots) (hx : p.tables.exec = Jvm.exec) (hZ : Z.Warmed39 s.vm) {own : String} {index : Nat} {y : MethodName} {bytes : ByteArray} {maxL : Nat} {ret : Option FieldType} {kc ks : Nat} {Q : Option Value → Heap → List Loc → Prop}
    (hown : s.vm.findClass own = some m.cls) (w1 : (Cond.methodLink own index y).before a0 Z = true) (w2 : (Cond.static y).before a0 Z = true) (w3 : (Cond.initialized y.cls).before a0 Z = true) (w4 : (Cond.code y bytes maxL ret).before a0 Z = true)
    (hy : y.cls ≠ "java/lang/invoke/MethodHandle" ∧ y.cls ≠ "java/lang/invoke/VarHandle") {argsL rest : List Value} {W : Nat} (hK : BackQ l R p e below s args y W argsL.toArray h kc ks Q) (eT : T.heap = h)
    (hlen : ∀ sig, parseMethodDescriptor y.desc = some sig → argsL.length = sig.parameters.length) {pc : Nat} {Ls : Array Slot} {st : List Value} (hst : st = argsL.reverse ++ rest) (hsz : Ls.size = c.maxLocals) (hd : decode c.code pc = .ok (.invokestatic index, 3))
    (hW : (rest.map fun v => v.category).sum ≤ W) (hce : cells + kc ≤ R.cells) (hsl : slots + ks ≤ R.slots) :
    ∃ v T' L, Stand p l e R s m args below meth c T' (locs ++ L) (cells + kc) (slots + ks) ∧ Q v T'.heap L ∧ ∀ t, Steps p.tables e below (T'.setTop (mkF m (pc + 3) Ls (v.toList ++ rest))) t → Steps p.tables e below (T.setTop (mkF m pc Ls st)) t := by
  obtain ⟨v, _, ⟨T', L', k', n'⟩, -, X', ⟨L, hQ, l1, l2, l3⟩, st'⟩ := Jvm.LawKit.callS X hx hown (mvT hZ w1) (mvT hZ w2) (mvT hZ w3) (mvT hZ w4) hy hK (g := mkF m pc Ls st) rfl hsz (argsL := argsL) (rest := rest) hlen hst (by show 2 * 0 + _ ≤ _; omega) hd (fun _ _ => ⟨rfl, eT, hce, hsl⟩)
  dsimp only [Pt.U, Pt.locs, Pt.cells, Pt.slots] at X' l1 l2 l3 st' hQ
  subst l1 l2 l3
  exact ⟨v, T', L, X', hQ, st'⟩
theorem callStatic (X : Stand p l e R s m args below meth c T locs cells slots) (hx : p.tables.exec = Jvm.exec) (hZ : Z.Warmed39 s.vm) {own : String} {index : Nat} {y : MethodName} {bytes : ByteArray} {maxL : Nat} {ret : Option FieldType} {rm : Room} {Q : Option Value → Heap → List Loc → Prop}
    (hown : s.vm.findClass own = some m.cls) (w1 : (Cond.methodLink own index y).before a0 Z = true) (w2 : (Cond.static y).before a0 Z = true) (w3 : (Cond.initialized y.cls).before a0 Z = true) (w4 : (Cond.code y bytes maxL ret).before a0 Z = true)
    (hy : y.cls ≠ "java/lang/invoke/MethodHandle" ∧ y.cls ≠ "java/lang/invoke/VarHandle") {argsL rest : List Value} (hM : Ctr l Z y bytes maxL ret rm argsL.toArray h Q []) (eT : T.heap = h)
    (hlen : ∀ sig, parseMethodDescriptor y.desc = some sig → argsL.length = sig.parameters.length) {pc W : Nat} {Ls : Array Slot} {st : List Value} (hst : st = argsL.reverse ++ rest) (hsz : Ls.size = c.maxLocals) (hd : decode c.code pc = .ok (.invokestatic index, 3))
    (hW : (rest.map fun v => v.category).sum ≤ W) (hfr : rm.frames + 1 ≤ R.frames) (hlo : W + (maxL + 11) + rm.locals ≤ R.locals) (hce : cells + rm.cells ≤ R.cells) (hsl : slots + rm.slots ≤ R.slots) :
    ∃ v T' L, Stand p l e R s m args below meth c T' (locs ++ L) (cells + rm.cells) (slots + rm.slots) ∧ Q v T'.heap L ∧ ∀ t, Steps p.tables e below (T'.setTop (mkF m (pc + 3) Ls (v.toList ++ rest))) t → Steps p.tables e below (T.setTop (mkF m pc Ls st)) t :=
  callStaticB X hx hZ hown w1 w2 w3 w4 hy (backOf (W := W) hM hZ w4 w3 hfr hlo) eT hlen hst hsz hd hW hce hsl
theorem callInitB (X : Stand p l e R s m args below meth c T locs cells slots) (hx : p.tables.exec = Jvm.exec) (hZ : Z.Warmed39 s.vm) {own : String} {index : Nat} {y : MethodName} {bytes : ByteArray} {maxL : Nat} {kc ks : Nat} {Q : Option Value → Heap → List Loc → Prop} (hy1 : y.name = "<init>")
    (hown : s.vm.findClass own = some m.cls) (w1 : (Cond.methodLink own index y).before a0 Z = true) (w2 : (Cond.instanceMethod y).before a0 Z = true) (w4 : (Cond.code y bytes maxL none).before a0 Z = true)
    (hy : y.cls ≠ "java/lang/invoke/MethodHandle" ∧ y.cls ≠ "java/lang/invoke/VarHandle") {a : Addr} {argsL rest : List Value} {W : Nat} (hK : BackQ l R p e below s args y W (.ref a :: argsL).toArray h kc ks Q) (eT : T.heap = h)
    (hlen : ∀ sig, parseMethodDescriptor y.desc = some sig → argsL.length = sig.parameters.length) {pc : Nat} {Ls : Array Slot} {st : List Value} (hst : st = argsL.reverse ++ .ref a :: rest) (hsz : Ls.size = c.maxLocals) (hd : decode c.code pc = .ok (.invokespecial index, 3))
    (hW : (rest.map fun v => v.category).sum ≤ W) (hce : cells + kc ≤ R.cells) (hsl : slots + ks ≤ R.slots) :
    ∃ v T' L, Stand p l e R s m args below meth c T' (locs ++ L) (cells + kc) (slots + ks) ∧ Q v T'.heap L ∧ ∀ t, Steps p.tables e below (T'.setTop (mkF m (pc + 3) Ls (v.toList ++ rest))) t → Steps p.tables e below (T.setTop (mkF m pc Ls st)) t := by
  obtain ⟨v, _, ⟨T', L', k', n'⟩, -, X', ⟨L, hQ, l1, l2, l3⟩, st'⟩ := X.specialBack hx hy1 hown (mvT hZ w1) (mvT hZ w2) (mvT hZ w4) hy hK (g := mkF m pc Ls st) rfl hsz (Steps.refl _) (a := a) (argsL := argsL) (rest := rest) hlen hst (by show 2 * 0 + _ ≤ _; omega) hd (fun _ _ => ⟨rfl, eT, hce, hsl⟩)
  dsimp only [Pt.U, Pt.locs, Pt.cells, Pt.slots] at X' l1 l2 l3 st' hQ
  subst l1 l2 l3
  exact ⟨v, T', L, X', hQ, fun t k => st'.trans k⟩
theorem callInit (X : Stand p l e R s m args below meth c T locs cells slots) (hx : p.tables.exec = Jvm.exec) (hZ : Z.Warmed39 s.vm) {own : String} {index : Nat} {y : MethodName} {bytes : ByteArray} {maxL : Nat} {rm : Room} {Q : Option Value → Heap → List Loc → Prop} (hy1 : y.name = "<init>")
    (hown : s.vm.findClass own = some m.cls) (w1 : (Cond.methodLink own index y).before a0 Z = true) (w2 : (Cond.instanceMethod y).before a0 Z = true) (w3 : (Cond.initialized y.cls).before a0 Z = true) (w4 : (Cond.code y bytes maxL none).before a0 Z = true)
    (hy : y.cls ≠ "java/lang/invoke/MethodHandle" ∧ y.cls ≠ "java/lang/invoke/VarHandle") {a : Addr} {argsL rest : List Value} (hM : Ctr l Z y bytes maxL none rm (.ref a :: argsL).toArray h Q []) (eT : T.heap = h)
    (hlen : ∀ sig, parseMethodDescriptor y.desc = some sig → argsL.length = sig.parameters.length) {pc W : Nat} {Ls : Array Slot} {st : List Value} (hst : st = argsL.reverse ++ .ref a :: rest) (hsz : Ls.size = c.maxLocals) (hd : decode c.code pc = .ok (.invokespecial index, 3))
    (hW : (rest.map fun v => v.category).sum ≤ W) (hfr : rm.frames + 1 ≤ R.frames) (hlo : W + (maxL + 11) + rm.locals ≤ R.locals) (hce : cells + rm.cells ≤ R.cells) (hsl : slots + rm.slots ≤ R.slots) :
    ∃ v T' L, Stand p l e R s m args below meth c T' (locs ++ L) (cells + rm.cells) (slots + rm.slots) ∧ Q v T'.heap L ∧ ∀ t, Steps p.tables e below (T'.setTop (mkF m (pc + 3) Ls (v.toList ++ rest))) t → Steps p.tables e below (T.setTop (mkF m pc Ls st)) t :=
  callInitB X hx hZ hy1 hown w1 w2 w4 hy (backOf (W := W) hM hZ w4 w3 hfr hlo) eT hlen hst hsz hd hW hce hsl
theorem callVirtB (X : Stand p l e R s m args below meth c T locs cells slots) (hx : p.tables.exec = Jvm.exec) (hZ : Z.Warmed39 s.vm) {own C : String} {index : Nat} {y z : MethodName} {kc ks : Nat} {Q : Option Value → Heap → List Loc → Prop}
    (hown : s.vm.findClass own = some m.cls) (w1 : (Cond.methodLink own index y).before a0 Z = true) (w2 : (Cond.declares y).before a0 Z = true) (w5 : (Cond.selects C y z).before a0 Z = true) (hnf : NotFace s y) (w6 : (Cond.instanceMethod z).before a0 Z = true)
    (hy : y.cls ≠ "java/lang/invoke/MethodHandle" ∧ y.cls ≠ "java/lang/invoke/VarHandle") {a : Addr} {argsL rest : List Value} {W : Nat} (hK : BackQ l R p e below s args z W (.ref a :: argsL).toArray h kc ks Q) (eT : T.heap = h) (E : Exa Z h a C)
    (hlen : ∀ sig, parseMethodDescriptor y.desc = some sig → argsL.length = sig.parameters.length) {pc : Nat} {Ls : Array Slot} {st : List Value} (hst : st = argsL.reverse ++ .ref a :: rest) (hsz : Ls.size = c.maxLocals) (hd : decode c.code pc = .ok (.invokevirtual index, 3))
    (hW : (rest.map fun v => v.category).sum ≤ W) (hce : cells + kc ≤ R.cells) (hsl : slots + ks ≤ R.slots) :
    ∃ v T' L, Stand p l e R s m args below meth c T' (locs ++ L) (cells + kc) (slots + ks) ∧ Q v T'.heap L ∧ ∀ t, Steps p.tables e below (T'.setTop (mkF m (pc + 3) Ls (v.toList ++ rest))) t → Steps p.tables e below (T.setTop (mkF m pc Ls st)) t := by
  obtain ⟨cB, kB, q1, -, q3⟩ := isOf hZ eT E
  obtain ⟨v, _, ⟨T', L', k', n'⟩, -, X', ⟨L, hQ, l1, l2, l3⟩, st'⟩ := X.virtualBack hx hown (mvT hZ w1) (mvT hZ w2) hnf (mvT hZ w5) (mvT hZ w6) hy hK q1 q3 (g := mkF m pc Ls st) rfl hsz (Steps.refl _) (argsL := argsL) (rest := rest) hlen hst (by show 2 * 0 + _ ≤ _; omega) hd (fun _ _ => ⟨rfl, eT, hce, hsl⟩)
  dsimp only [Pt.U, Pt.locs, Pt.cells, Pt.slots] at X' l1 l2 l3 st' hQ
  subst l1 l2 l3
  exact ⟨v, T', L, X', hQ, fun t k => st'.trans k⟩
theorem callVirt (X : Stand p l e R s m args below meth c T locs cells slots) (hx : p.tables.exec = Jvm.exec) (hZ : Z.Warmed39 s.vm) {own C : String} {index : Nat} {y z : MethodName} {bytes : ByteArray} {maxL : Nat} {ret : Option FieldType} {rm : Room} {Q : Option Value → Heap → List Loc → Prop}
    (hown : s.vm.findClass own = some m.cls) (w1 : (Cond.methodLink own index y).before a0 Z = true) (w2 : (Cond.declares y).before a0 Z = true) (w5 : (Cond.selects C y z).before a0 Z = true) (hnf : NotFace s y) (w6 : (Cond.instanceMethod z).before a0 Z = true) (w3 : (Cond.initialized z.cls).before a0 Z = true) (w4 : (Cond.code z bytes maxL ret).before a0 Z = true)
    (hy : y.cls ≠ "java/lang/invoke/MethodHandle" ∧ y.cls ≠ "java/lang/invoke/VarHandle") {a : Addr} {argsL rest : List Value} (hM : Ctr l Z z bytes maxL ret rm (.ref a :: argsL).toArray h Q []) (eT : T.heap = h) (E : Exa Z h a C)
    (hlen : ∀ sig, parseMethodDescriptor y.desc = some sig → argsL.length = sig.parameters.length) {pc W : Nat} {Ls : Array Slot} {st : List Value} (hst : st = argsL.reverse ++ .ref a :: rest) (hsz : Ls.size = c.maxLocals) (hd : decode c.code pc = .ok (.invokevirtual index, 3))
    (hW : (rest.map fun v => v.category).sum ≤ W) (hfr : rm.frames + 1 ≤ R.frames) (hlo : W + (maxL + 11) + rm.locals ≤ R.locals) (hce : cells + rm.cells ≤ R.cells) (hsl : slots + rm.slots ≤ R.slots) :
    ∃ v T' L, Stand p l e R s m args below meth c T' (locs ++ L) (cells + rm.cells) (slots + rm.slots) ∧ Q v T'.heap L ∧ ∀ t, Steps p.tables e below (T'.setTop (mkF m (pc + 3) Ls (v.toList ++ rest))) t → Steps p.tables e below (T.setTop (mkF m pc Ls st)) t :=
  callVirtB X hx hZ hown w1 w2 w5 hnf w6 hy (backOf (W := W) hM hZ w4 w3 hfr hlo) eT E hlen hst hsz hd hW hce hsl
theorem callVirtUpB (X : Stand p l e R s m args below meth c T locs cells slots) (hx : p.tables.exec = Jvm.exec) (hZ : Z.Warmed39 s.vm) {own C owner : String} {index : Nat} {y z : MethodName} {kc ks : Nat} {Q : Option Value → Heap → List Loc → Prop}
    (hown : s.vm.findClass own = some m.cls) (w1 : (Cond.methodLink own index y).before a0 Z = true) (w7 : (Cond.sameMethod y.cls owner y.name y.desc).before a0 Z = true) (w2 : (Cond.declares ⟨owner, y.name, y.desc⟩).before a0 Z = true) (w5 : (Cond.selects C y z).before a0 Z = true) (w6 : (Cond.instanceMethod z).before a0 Z = true)
    (hy : owner ≠ "java/lang/invoke/MethodHandle" ∧ owner ≠ "java/lang/invoke/VarHandle") {a : Addr} {argsL rest : List Value} {W : Nat} (hK : BackQ l R p e below s args z W (.ref a :: argsL).toArray h kc ks Q) (eT : T.heap = h) (E : Exa Z h a C)
    (hlen : ∀ sig, parseMethodDescriptor y.desc = some sig → argsL.length = sig.parameters.length) {pc : Nat} {Ls : Array Slot} {st : List Value} (hst : st = argsL.reverse ++ .ref a :: rest) (hsz : Ls.size = c.maxLocals) (hd : decode c.code pc = .ok (.invokevirtual index, 3))
    (hW : (rest.map fun v => v.category).sum ≤ W) (hce : cells + kc ≤ R.cells) (hsl : slots + ks ≤ R.slots) :
    ∃ v T' L, Stand p l e R s m args below meth c T' (locs ++ L) (cells + kc) (slots + ks) ∧ Q v T'.heap L ∧ ∀ t, Steps p.tables e below (T'.setTop (mkF m (pc + 3) Ls (v.toList ++ rest))) t → Steps p.tables e below (T.setTop (mkF m pc Ls st)) t := by
  obtain ⟨cB, kB, q1, -, q3⟩ := isOf hZ eT E
  obtain ⟨v, _, ⟨T', L', k', n'⟩, -, X', ⟨L, hQ, l1, l2, l3⟩, st'⟩ := X.virtualBackUp hx hown (mvT hZ w1) (mvT hZ w7) (mvT hZ w2) hy (mvT hZ w5) (mvT hZ w6) hK q1 q3 (g := mkF m pc Ls st) rfl hsz (Steps.refl _) (argsL := argsL) (rest := rest) hlen hst (by show 2 * 0 + _ ≤ _; omega) hd (fun _ _ => ⟨rfl, eT, hce, hsl⟩)
  dsimp only [Pt.U, Pt.locs, Pt.cells, Pt.slots] at X' l1 l2 l3 st' hQ
  subst l1 l2 l3
  exact ⟨v, T', L, X', hQ, fun t k => st'.trans k⟩
theorem callVirtUp (X : Stand p l e R s m args below meth c T locs cells slots) (hx : p.tables.exec = Jvm.exec) (hZ : Z.Warmed39 s.vm) {own C owner : String} {index : Nat} {y z : MethodName} {bytes : ByteArray} {maxL : Nat} {ret : Option FieldType} {rm : Room} {Q : Option Value → Heap → List Loc → Prop}
    (hown : s.vm.findClass own = some m.cls) (w1 : (Cond.methodLink own index y).before a0 Z = true) (w7 : (Cond.sameMethod y.cls owner y.name y.desc).before a0 Z = true) (w2 : (Cond.declares ⟨owner, y.name, y.desc⟩).before a0 Z = true) (w5 : (Cond.selects C y z).before a0 Z = true) (w6 : (Cond.instanceMethod z).before a0 Z = true) (w3 : (Cond.initialized z.cls).before a0 Z = true) (w4 : (Cond.code z bytes maxL ret).before a0 Z = true)
    (hy : owner ≠ "java/lang/invoke/MethodHandle" ∧ owner ≠ "java/lang/invoke/VarHandle") {a : Addr} {argsL rest : List Value} (hM : Ctr l Z z bytes maxL ret rm (.ref a :: argsL).toArray h Q []) (eT : T.heap = h) (E : Exa Z h a C)
    (hlen : ∀ sig, parseMethodDescriptor y.desc = some sig → argsL.length = sig.parameters.length) {pc W : Nat} {Ls : Array Slot} {st : List Value} (hst : st = argsL.reverse ++ .ref a :: rest) (hsz : Ls.size = c.maxLocals) (hd : decode c.code pc = .ok (.invokevirtual index, 3))
    (hW : (rest.map fun v => v.category).sum ≤ W) (hfr : rm.frames + 1 ≤ R.frames) (hlo : W + (maxL + 11) + rm.locals ≤ R.locals) (hce : cells + rm.cells ≤ R.cells) (hsl : slots + rm.slots ≤ R.slots) :
    ∃ v T' L, Stand p l e R s m args below meth c T' (locs ++ L) (cells + rm.cells) (slots + rm.slots) ∧ Q v T'.heap L ∧ ∀ t, Steps p.tables e below (T'.setTop (mkF m (pc + 3) Ls (v.toList ++ rest))) t → Steps p.tables e below (T.setTop (mkF m pc Ls st)) t :=
  callVirtUpB X hx hZ hown w1 w7 w2 w5 w6 hy (backOf (W := W) hM hZ w4 w3 hfr hlo) eT E hlen hst hsz hd hW hce hsl
/-- invokevirtual of a private method -/
theorem callPrivB (X : Stand p l e R s m args below meth c T locs cells slots) (hx : p.tables.exec = Jvm.exec) (hZ : Z.Warmed39 s.vm) {own C : String} {index : Nat} {y : MethodName} {bytes : ByteArray} {maxL : Nat} {ret : Option FieldType} {kc ks : Nat} {Q : Option Value → Heap → List Loc → Prop}
    (hown : s.vm.findClass own = some m.cls) (w1 : (Cond.methodLink own index y).before a0 Z = true) (w2 : (Cond.instanceMethod y).before a0 Z = true) (w3 : (Cond.selects y.cls y y).before a0 Z = true) (w5 : (Cond.privateMethod y).before a0 Z = true) (w4 : (Cond.code y bytes maxL ret).before a0 Z = true)
    (hy : y.cls ≠ "java/lang/invoke/MethodHandle" ∧ y.cls ≠ "java/lang/invoke/VarHandle") {a : Addr} {argsL rest : List Value} {W : Nat} (hK : BackQ l R p e below s args y W (.ref a :: argsL).toArray h kc ks Q) (eT : T.heap = h) (E : Exa Z h a C)
    (hlen : ∀ sig, parseMethodDescriptor y.desc = some sig → argsL.length = sig.parameters.length) {pc : Nat} {Ls : Array Slot} {st : List Value} (hst : st = argsL.reverse ++ .ref a :: rest) (hsz : Ls.size = c.maxLocals) (hd : decode c.code pc = .ok (.invokevirtual index, 3))
    (hW : (rest.map fun v => v.category).sum ≤ W) (hce : cells + kc ≤ R.cells) (hsl : slots + ks ≤ R.slots) :
    ∃ v T' L, Stand p l e R s m args below meth c T' (locs ++ L) (cells + kc) (slots + ks) ∧ Q v T'.heap L ∧ ∀ t, Steps p.tables e below (T'.setTop (mkF m (pc + 3) Ls (v.toList ++ rest))) t → Steps p.tables e below (T.setTop (mkF m pc Ls st)) t := by
  obtain ⟨cell, q1, q2⟩ := Exa.cell E
  obtain ⟨v, _, ⟨T', L', k', n'⟩, -, X', ⟨L, hQ, l1, l2, l3⟩, st'⟩ := X.privateBack hx hown (mvT hZ w1) (mvT hZ w2) (mvT hZ w3) (Cond.privateMethod_at (args := args) (mvP hZ w5)) (mvT hZ w4) hy hK (g := mkF m pc Ls st) rfl hsz (Steps.refl _) (a := a) (by rw [eT]; exact q1) q2 (argsL := argsL) (rest := rest) hlen hst (by show 2 * 0 + _ ≤ _; omega) hd (fun _ _ => ⟨rfl, eT, hce, hsl⟩)
  dsimp only [Pt.U, Pt.locs, Pt.cells, Pt.slots] at X' l1 l2 l3 st' hQ
  subst l1 l2 l3
  exact ⟨v, T', L, X', hQ, fun t k => st'.trans k⟩
theorem callPriv (X : Stand p l e R s m args below meth c T locs cells slots) (hx : p.tables.exec = Jvm.exec) (hZ : Z.Warmed39 s.vm) {own C : String} {index : Nat} {y : MethodName} {bytes : ByteArray} {maxL : Nat} {ret : Option FieldType} {rm : Room} {Q : Option Value → Heap → List Loc → Prop}
    (hown : s.vm.findClass own = some m.cls) (w1 : (Cond.methodLink own index y).before a0 Z = true) (w2 : (Cond.instanceMethod y).before a0 Z = true) (w5 : (Cond.selects y.cls y y).before a0 Z = true) (w6 : (Cond.privateMethod y).before a0 Z = true) (w3 : (Cond.initialized y.cls).before a0 Z = true) (w4 : (Cond.code y bytes maxL ret).before a0 Z = true)
    (hy : y.cls ≠ "java/lang/invoke/MethodHandle" ∧ y.cls ≠ "java/lang/invoke/VarHandle") {a : Addr} {argsL rest : List Value} (hM : Ctr l Z y bytes maxL ret rm (.ref a :: argsL).toArray h Q []) (eT : T.heap = h) (E : Exa Z h a C)
    (hlen : ∀ sig, parseMethodDescriptor y.desc = some sig → argsL.length = sig.parameters.length) {pc W : Nat} {Ls : Array Slot} {st : List Value} (hst : st = argsL.reverse ++ .ref a :: rest) (hsz : Ls.size = c.maxLocals) (hd : decode c.code pc = .ok (.invokevirtual index, 3))
    (hW : (rest.map fun v => v.category).sum ≤ W) (hfr : rm.frames + 1 ≤ R.frames) (hlo : W + (maxL + 11) + rm.locals ≤ R.locals) (hce : cells + rm.cells ≤ R.cells) (hsl : slots + rm.slots ≤ R.slots) :
    ∃ v T' L, Stand p l e R s m args below meth c T' (locs ++ L) (cells + rm.cells) (slots + rm.slots) ∧ Q v T'.heap L ∧ ∀ t, Steps p.tables e below (T'.setTop (mkF m (pc + 3) Ls (v.toList ++ rest))) t → Steps p.tables e below (T.setTop (mkF m pc Ls st)) t :=
  callPrivB X hx hZ hown w1 w2 w5 w6 w4 hy (backOf (W := W) hM hZ w4 w3 hfr hlo) eT E hlen hst hsz hd hW hce hsl
abbrev BackQ5 (l : Launch) (R : Room) (p : Program) (e : Env) (below : List Frame) (s : State) (args : Array Value) (y : MethodName) (W : Nat) (as' : Array Value) (h : Heap) (kc ks : Nat) (Q : Option Value → Heap → List Loc → Prop) : Prop :=
  Back l R p e below s args y 5 W (fun A a => a = as' ∧ A.U.heap = h ∧ A.cells + kc ≤ R.cells ∧ A.slots + ks ≤ R.slots) (fun A _ v B => ∃ L, Q v B.U.heap L ∧ B.locs = A.locs ++ L ∧ B.cells = A.cells + kc ∧ B.slots = A.slots + ks)
theorem callFaceB (X : Stand p l e R s m args below meth c T locs cells slots) (hx : p.tables.exec = Jvm.exec) (hZ : Z.Warmed39 s.vm) {own C : String} {index count : Nat} {y z : MethodName} {kc ks : Nat} {Q : Option Value → Heap → List Loc → Prop}
    (hown : s.vm.findClass own = some m.cls) (w1 : (Cond.methodLink own index y).before a0 Z = true) (w2 : (Cond.declares y).before a0 Z = true) (w3 : (Cond.interfaceMethod y.cls y.cls y.name y.desc).before args s = true) (w5 : (Cond.selects C y z).before a0 Z = true) (w6 : (Cond.instanceMethod z).before a0 Z = true)
    (w7 : (Cond.publicMethod z).before a0 Z = true) (w8 : (Cond.unhidden C y.name y.desc).before a0 Z = true) (w9 : (Cond.castable C y.cls).before a0 Z = true)
    (hy : y.cls ≠ "java/lang/invoke/MethodHandle" ∧ y.cls ≠ "java/lang/invoke/VarHandle") {a : Addr} {argsL rest : List Value} {W : Nat} (hK : BackQ5 l R p e below s args z W (.ref a :: argsL).toArray h kc ks Q) (eT : T.heap = h) (E : Exa Z h a C)
    (hlen : ∀ sig, parseMethodDescriptor y.desc = some sig → argsL.length = sig.parameters.length) {pc : Nat} {Ls : Array Slot} {st : List Value} (hst : st = argsL.reverse ++ .ref a :: rest) (hsz : Ls.size = c.maxLocals) (hd : decode c.code pc = .ok (.invokeinterface index count, 5))
    (hW : (rest.map fun v => v.category).sum ≤ W) (hce : cells + kc ≤ R.cells) (hsl : slots + ks ≤ R.slots) :
    ∃ v T' L, Stand p l e R s m args below meth c T' (locs ++ L) (cells + kc) (slots + ks) ∧ Q v T'.heap L ∧ ∀ t, Steps p.tables e below (T'.setTop (mkF m (pc + 5) Ls (v.toList ++ rest))) t → Steps p.tables e below (T.setTop (mkF m pc Ls st)) t := by
  obtain ⟨cB, kB, q1, q2, q3⟩ := isOf hZ eT E
  obtain ⟨v, _, ⟨T', L', k', n'⟩, -, X', ⟨L, hQ, l1, l2, l3⟩, st'⟩ := X.interfaceBack hx hown (mvT hZ w1) (mvT hZ w2) w3 (mvT hZ w5) (mvT hZ w6) (mvT hZ w7) (mvT hZ w8) (mvT hZ w9) hy hK q1 q2 q3 (g := mkF m pc Ls st) rfl hsz (Steps.refl _) (argsL := argsL) (rest := rest) hlen hst (by show 2 * 0 + _ ≤ _; omega) hd (fun _ _ => ⟨rfl, eT, hce, hsl⟩)
  dsimp only [Pt.U, Pt.locs, Pt.cells, Pt.slots] at X' l1 l2 l3 st' hQ
  subst l1 l2 l3
  exact ⟨v, T', L, X', hQ, fun t k => st'.trans k⟩
theorem callFace (X : Stand p l e R s m args below meth c T locs cells slots) (hx : p.tables.exec = Jvm.exec) (hZ : Z.Warmed39 s.vm) {own C : String} {index count : Nat} {y z : MethodName} {bytes : ByteArray} {maxL : Nat} {ret : Option FieldType} {rm : Room} {Q : Option Value → Heap → List Loc → Prop}
    (hown : s.vm.findClass own = some m.cls) (w1 : (Cond.methodLink own index y).before a0 Z = true) (w2 : (Cond.declares y).before a0 Z = true) (wi : (Cond.interfaceMethod y.cls y.cls y.name y.desc).before args s = true) (w5 : (Cond.selects C y z).before a0 Z = true) (w6 : (Cond.instanceMethod z).before a0 Z = true)
    (w7 : (Cond.publicMethod z).before a0 Z = true) (w8 : (Cond.unhidden C y.name y.desc).before a0 Z = true) (w9 : (Cond.castable C y.cls).before a0 Z = true) (w3 : (Cond.initialized z.cls).before a0 Z = true) (w4 : (Cond.code z bytes maxL ret).before a0 Z = true)
    (hy : y.cls ≠ "java/lang/invoke/MethodHandle" ∧ y.cls ≠ "java/lang/invoke/VarHandle") {a : Addr} {argsL rest : List Value} (hM : Ctr l Z z bytes maxL ret rm (.ref a :: argsL).toArray h Q []) (eT : T.heap = h) (E : Exa Z h a C)
    (hlen : ∀ sig, parseMethodDescriptor y.desc = some sig → argsL.length = sig.parameters.length) {pc W : Nat} {Ls : Array Slot} {st : List Value} (hst : st = argsL.reverse ++ .ref a :: rest) (hsz : Ls.size = c.maxLocals) (hd : decode c.code pc = .ok (.invokeinterface index count, 5))
    (hW : (rest.map fun v => v.category).sum ≤ W) (hfr : rm.frames + 1 ≤ R.frames) (hlo : W + (maxL + 11) + rm.locals ≤ R.locals) (hce : cells + rm.cells ≤ R.cells) (hsl : slots + rm.slots ≤ R.slots) :
    ∃ v T' L, Stand p l e R s m args below meth c T' (locs ++ L) (cells + rm.cells) (slots + rm.slots) ∧ Q v T'.heap L ∧ ∀ t, Steps p.tables e below (T'.setTop (mkF m (pc + 5) Ls (v.toList ++ rest))) t → Steps p.tables e below (T.setTop (mkF m pc Ls st)) t :=
  callFaceB X hx hZ hown w1 w2 wi w5 w6 w7 w8 w9 hy (backOf (W := W) hM hZ w4 w3 hfr hlo) eT E hlen hst hsz hd hW hce hsl
theorem callStaticW {vm0 : Vm} {k0 : Nat} (X : Stand p l e R (s.setVm vm0) m args below meth c T locs cells slots) (hx : p.tables.exec = Jvm.exec) (hZ : Z.Warmed39 vm0) (hS : s.Since vm0 k0) (hk : k0 ≤ h.size) {own : String} {index : Nat} {y : MethodName} {bytes : ByteArray} {maxL : Nat} {ret : Option FieldType} {rm : Room} {Q : Option Value → Heap → List Loc → Prop}
    (hown : vm0.findClass own = some m.cls) (w1 : (Cond.methodLink own index y).before a0 Z = true) (w2 : (Cond.static y).before a0 Z = true) (w3 : (Cond.initialized y.cls).before a0 Z = true) (w4 : (Cond.code y bytes maxL ret).before a0 Z = true)
    (hy : y.cls ≠ "java/lang/invoke/MethodHandle" ∧ y.cls ≠ "java/lang/invoke/VarHandle") {argsL rest : List Value} (hM : CtrW l Z y bytes maxL ret rm argsL.toArray h Q []) (eT : T.heap = h)
    (hlen : ∀ sig, parseMethodDescriptor y.desc = some sig → argsL.length = sig.parameters.length) {pc W : Nat} {Ls : Array Slot} {st : List Value} (hst : st = argsL.reverse ++ rest) (hsz : Ls.size = c.maxLocals) (hd : decode c.code pc = .ok (.invokestatic index, 3))
    (hW : (rest.map fun v => v.category).sum ≤ W) (hfr : rm.frames + 1 ≤ R.frames) (hlo : W + (maxL + 11) + rm.locals ≤ R.locals) (hce : cells + rm.cells ≤ R.cells) (hsl : slots + rm.slots ≤ R.slots) :
    ∃ v T' L, Stand p l e R (s.setVm T'.vm) m args below meth c T' (locs ++ L) (cells + rm.cells) (slots + rm.slots) ∧ s.Since T'.vm T'.heap.size ∧ Z.Warmed39 T'.vm ∧ T'.vm.findClass own = some m.cls ∧ Q v T'.heap L ∧ ∀ t, Steps p.tables e below (T'.setTop (mkF m (pc + 3) Ls (v.toList ++ rest))) t → Steps p.tables e below (T.setTop (mkF m pc Ls st)) t := by
  obtain ⟨v, _, ⟨T', L', k', n'⟩, -, X', hS', hg', ⟨L, hQ, l1, l2, l3⟩, st'⟩ := callSS X hx hown (mvT (s := s.setVm vm0) hZ w1) (mvT (s := s.setVm vm0) hZ w2) (mvT (s := s.setVm vm0) hZ w3) (mvT (s := s.setVm vm0) hZ w4) hy (backOfS (W := W) hM (s := s.setVm vm0) hZ w4 w3 hfr hlo) (g := mkF m pc Ls st) rfl hsz (argsL := argsL) (rest := rest) hlen hst (by show 2 * 0 + _ ≤ _; omega) hd (fun _ _ => ⟨rfl, eT, hce, hsl⟩)
  dsimp only [Pt.U, Pt.locs, Pt.cells, Pt.slots] at X' hS' hg' l1 l2 l3 st' hQ
  subst l1 l2 l3
  exact ⟨v, T', L, X', hS.trans hS' (Nat.le_trans hk (eT ▸ hg')), State.Warmed39.trans (t := s.setVm vm0) hZ hS'.1, by rw [hS'.1.alike.findClass]; exact hown, hQ, fun t k => st'.trans k⟩
theorem callInitW {vm0 : Vm} {k0 : Nat} (X : Stand p l e R (s.setVm vm0) m args below meth c T locs cells slots) (hx : p.tables.exec = Jvm.exec) (hZ : Z.Warmed39 vm0) (hS : s.Since vm0 k0) (hk : k0 ≤ h.size) {own : String} {index : Nat} {y : MethodName} {bytes : ByteArray} {maxL : Nat} {rm : Room} {Q : Option Value → Heap → List Loc → Prop} (hy1 : y.name = "<init>")
    (hown : vm0.findClass own = some m.cls) (w1 : (Cond.methodLink own index y).before a0 Z = true) (w2 : (Cond.instanceMethod y).before a0 Z = true) (w3 : (Cond.initialized y.cls).before a0 Z = true) (w4 : (Cond.code y bytes maxL none).before a0 Z = true)
    (hy : y.cls ≠ "java/lang/invoke/MethodHandle" ∧ y.cls ≠ "java/lang/invoke/VarHandle") {a : Addr} {argsL rest : List Value} (hM : CtrW l Z y bytes maxL none rm (.ref a :: argsL).toArray h Q []) (eT : T.heap = h)
    (hlen : ∀ sig, parseMethodDescriptor y.desc = some sig → argsL.length = sig.parameters.length) {pc W : Nat} {Ls : Array Slot} {st : List Value} (hst : st = argsL.reverse ++ .ref a :: rest) (hsz : Ls.size = c.maxLocals) (hd : decode c.code pc = .ok (.invokespecial index, 3))
    (hW : (rest.map fun v => v.category).sum ≤ W) (hfr : rm.frames + 1 ≤ R.frames) (hlo : W + (maxL + 11) + rm.locals ≤ R.locals) (hce : cells + rm.cells ≤ R.cells) (hsl : slots + rm.slots ≤ R.slots) :
    ∃ v T' L, Stand p l e R (s.setVm T'.vm) m args below meth c T' (locs ++ L) (cells + rm.cells) (slots + rm.slots) ∧ s.Since T'.vm T'.heap.size ∧ Z.Warmed39 T'.vm ∧ T'.vm.findClass own = some m.cls ∧ Q v T'.heap L ∧ ∀ t, Steps p.tables e below (T'.setTop (mkF m (pc + 3) Ls (v.toList ++ rest))) t → Steps p.tables e below (T.setTop (mkF m pc Ls st)) t := by
  obtain ⟨v, _, ⟨T', L', k', n'⟩, -, X', hS', hg', ⟨L, hQ, l1, l2, l3⟩, st'⟩ := X.specialBackS hx hy1 hown (mvT (s := s.setVm vm0) hZ w1) (mvT (s := s.setVm vm0) hZ w2) (mvT (s := s.setVm vm0) hZ w4) hy (backOfS (W := W) hM (s := s.setVm vm0) hZ w4 w3 hfr hlo) (g := mkF m pc Ls st) rfl hsz (Steps.refl _) (a := a) (argsL := argsL) (rest := rest) hlen hst (by show 2 * 0 + _ ≤ _; omega) hd (fun _ _ => ⟨rfl, eT, hce, hsl⟩)
  dsimp only [Pt.U, Pt.locs, Pt.cells, Pt.slots] at X' hS' hg' l1 l2 l3 st' hQ
  subst l1 l2 l3
  exact ⟨v, T', L, X', hS.trans hS' (Nat.le_trans hk (eT ▸ hg')), State.Warmed39.trans (t := s.setVm vm0) hZ hS'.1, by rw [hS'.1.alike.findClass]; exact hown, hQ, fun t k => st'.trans k⟩
theorem callVirtW {vm0 : Vm} {k0 : Nat} (X : Stand p l e R (s.setVm vm0) m args below meth c T locs cells slots) (hx : p.tables.exec = Jvm.exec) (hZ : Z.Warmed39 vm0) (hS : s.Since vm0 k0) (hk : k0 ≤ h.size) {own C : String} {index : Nat} {y z : MethodName} {bytes : ByteArray} {maxL : Nat} {ret : Option FieldType} {rm : Room} {Q : Option Value → Heap → List Loc → Prop}
    (hown : vm0.findClass own = some m.cls) (w1 : (Cond.methodLink own index y).before a0 Z = true) (w2 : (Cond.declares y).before a0 Z = true) (w5 : (Cond.selects C y z).before a0 Z = true) (hnf : NotFace (s.setVm vm0) y) (w6 : (Cond.instanceMethod z).before a0 Z = true) (w3 : (Cond.initialized z.cls).before a0 Z = true) (w4 : (Cond.code z bytes maxL ret).before a0 Z = true)
    (hy : y.cls ≠ "java/lang/invoke/MethodHandle" ∧ y.cls ≠ "java/lang/invoke/VarHandle") {a : Addr} {argsL rest : List Value} (hM : CtrW l Z z bytes maxL ret rm (.ref a :: argsL).toArray h Q []) (eT : T.heap = h) (E : Exa Z h a C)
    (hlen : ∀ sig, parseMethodDescriptor y.desc = some sig → argsL.length = sig.parameters.length) {pc W : Nat} {Ls : Array Slot} {st : List Value} (hst : st = argsL.reverse ++ .ref a :: rest) (hsz : Ls.size = c.maxLocals) (hd : decode c.code pc = .ok (.invokevirtual index, 3))
    (hW : (rest.map fun v => v.category).sum ≤ W) (hfr : rm.frames + 1 ≤ R.frames) (hlo : W + (maxL + 11) + rm.locals ≤ R.locals) (hce : cells + rm.cells ≤ R.cells) (hsl : slots + rm.slots ≤ R.slots) :
    ∃ v T' L, Stand p l e R (s.setVm T'.vm) m args below meth c T' (locs ++ L) (cells + rm.cells) (slots + rm.slots) ∧ s.Since T'.vm T'.heap.size ∧ Z.Warmed39 T'.vm ∧ T'.vm.findClass own = some m.cls ∧ Q v T'.heap L ∧ ∀ t, Steps p.tables e below (T'.setTop (mkF m (pc + 3) Ls (v.toList ++ rest))) t → Steps p.tables e below (T.setTop (mkF m pc Ls st)) t := by
  obtain ⟨cB, kB, q1, -, q3⟩ := isOf (s := s.setVm vm0) hZ eT E
  obtain ⟨v, _, ⟨T', L', k', n'⟩, -, X', hS', hg', ⟨L, hQ, l1, l2, l3⟩, st'⟩ := X.virtualBackS hx hown (mvT (s := s.setVm vm0) hZ w1) (mvT (s := s.setVm vm0) hZ w2) hnf (mvT (s := s.setVm vm0) hZ w5) (mvT (s := s.setVm vm0) hZ w6) hy (backOfS (W := W) hM (s := s.setVm vm0) hZ w4 w3 hfr hlo) q1 q3 (g := mkF m pc Ls st) rfl hsz (Steps.refl _) (argsL := argsL) (rest := rest) hlen hst (by show 2 * 0 + _ ≤ _; omega) hd (fun _ _ => ⟨rfl, eT, hce, hsl⟩)
  dsimp only [Pt.U, Pt.locs, Pt.cells, Pt.slots] at X' hS' hg' l1 l2 l3 st' hQ
  subst l1 l2 l3
  exact ⟨v, T', L, X', hS.trans hS' (Nat.le_trans hk (eT ▸ hg')), State.Warmed39.trans (t := s.setVm vm0) hZ hS'.1, by rw [hS'.1.alike.findClass]; exact hown, hQ, fun t k => st'.trans k⟩
/-- what a contract says of a body that may read the String constants of EL; sf: cells that are no constant's -/
abbrev CtrH (l : Launch) (Z : State) (EL : List (String × Nat)) (sf : List Addr) (y : MethodName) (bytes : ByteArray) (maxL : Nat) (ret : Option FieldType) (rm : Room) (as' : Array Value) (h : Heap) (Q : Option Value → Heap → List Loc → Prop) (ws : List Cond) : Prop :=
  MetFree l y (head1 (Cond.code y bytes maxL ret :: ws) rm) (fun a U => a = as' ∧ Z.Warmed39 U.vm ∧ U.heap = h ∧ CHv Z EL U.vm h ∧ ∀ x ∈ sf, Safe Z EL U.vm h x) (fun _ _ _ _ _ => True) (fun _ U o U' => ∃ v L, o = .returned v ∧ Q v U'.heap L ∧ CHr Z EL U.vm U.heap U'.vm U'.heap ∧ ReturnedEndW U o U' L rm.cells rm.slots)
/-- the frame of such a body -/
def EndH (Z : State) (EL : List (String × Nat)) (s : State) (o : Outcome) (t : State) (L : List Loc) (k n : Nat) : Prop := CHr Z EL s.vm s.heap t.vm t.heap ∧ ReturnedEndW s o t L k n
theorem lvH {EL : List (String × Nat)} {vm0 : Vm} {k0 : Nat} (X : Stand p l e R (s.setVm vm0) m args below meth c T locs cells slots) (hlocks : meth.locks = false) (hS : s.Since vm0 k0) (eT : T.heap = h) (hk : k0 ≤ h.size) (hZ : Z.Warmed39 vm0) (hEL : EW Z a0 EL) (hR : CHr Z EL s.vm s.heap vm0 h) {C S : Nat} (hc : cells ≤ C) (hs : slots ≤ S) : Lv (EndH Z EL) e s m below meth T locs C S := fun v hv => by
  obtain ⟨fs, hr, hrun, hended, h1, h2, h3, h4⟩ := X.leaveW hS (eT ▸ hk) hv hlocks
  refine ⟨fs, hr, hrun, hended, ?_, h1, h2, h3, h4.mono hc hs⟩
  have q := hR.trans (CHv.at X hZ hEL hR.1)
  subst eT
  exact q
theorem backH {EL : List (String × Nat)} {sf : List Addr} {vm0 : Vm} {y : MethodName} {bytes : ByteArray} {maxL : Nat} {ret : Option FieldType} {rm : Room} {len W : Nat} {as' : Array Value} {Q : Option Value → Heap → List Loc → Prop}
    (hM : CtrH l Z EL sf y bytes maxL ret rm as' h Q [])
    (hZ : Z.Warmed39 vm0) (wc : (Cond.code y bytes maxL ret).before a0 Z = true) (wz : (Cond.initialized y.cls).before a0 Z = true) (hf : rm.frames + 1 ≤ R.frames) (hl : W + (maxL + 11) + rm.locals ≤ R.locals) (hEL : EW Z a0 EL) (H : CHv Z EL vm0 h) (hsf : ∀ x ∈ sf, x < h.size ∧ Safe Z EL vm0 h x) :
    BackS l R p e below (s.setVm vm0) args y len W (fun A a => a = as' ∧ A.U.heap = h ∧ A.cells + rm.cells ≤ R.cells ∧ A.slots + rm.slots ≤ R.slots)
      (fun A _ v B => ∃ L, Q v B.U.heap L ∧ B.locs = A.locs ++ L ∧ B.cells = A.cells + rm.cells ∧ B.slots = A.slots + rm.slots ∧ CHr Z EL vm0 h B.U.vm B.U.heap) :=
  BackS.of_freeW (bytes := bytes) (maxL := maxL) (ret := ret) (E := fun _ first o t L k n => k = rm.cells ∧ n = rm.slots ∧ (∃ v, o = .returned v ∧ Q v t.heap L) ∧ CHr Z EL first.vm first.heap t.vm t.heap) hM hf hl
    (fun m meth c A a Y hp => have hU : Z.Warmed39 A.U.vm := wtrans (s := s.setVm vm0) hZ Y.warmed
      ⟨by show (Cond.and _ .tt).before a A.U = true; rw [Cond.before_and, mv hU wc]; rfl, mv hU wc, mv hU wz, hp.2.2.1, hp.2.2.2⟩)
    (fun m meth c A a g mk Y hp => ⟨hp.1, wtrans (s := s.setVm vm0) hZ Y.warmed, hp.2.1, (CHv.at Y hZ hEL H).1, fun x hx => (CHv.at Y hZ hEL H).safe (hsf x hx).1 (hsf x hx).2⟩) (fun _ _ _ _ _ _ _ _ _ => trivial)
    (fun _ _ _ _ ⟨v, L, h1, h2, h3, h4⟩ => ⟨L, _, _, h4, rfl, rfl, ⟨v, h1, h2⟩, h3⟩)
    (fun m meth c A a g mk v t L k n Y hp _ _ ⟨e1, e2, ⟨v', e3, e4⟩, e5⟩ => by
      cases e3; subst e1 e2
      refine ⟨L, e4, rfl, rfl, rfl, (CHv.at Y hZ hEL H).trans ?_⟩
      rw [← hp.2.1]; exact e5)
theorem callStaticH {EL : List (String × Nat)} {sf : List Addr} {vm0 : Vm} {k0 : Nat} (X : Stand p l e R (s.setVm vm0) m args below meth c T locs cells slots) (hx : p.tables.exec = Jvm.exec) (hZ : Z.Warmed39 vm0) (hS : s.Since vm0 k0) (hk : k0 ≤ h.size) (hEL : EW Z a0 EL) (H : CHv Z EL vm0 h) (hsf : ∀ x ∈ sf, x < h.size ∧ Safe Z EL vm0 h x) {own : String} {index : Nat} {y : MethodName} {bytes : ByteArray} {maxL : Nat} {ret : Option FieldType} {rm : Room} {Q : Option Value → Heap → List Loc → Prop}
    (hown : vm0.findClass own = some m.cls) (w1 : (Cond.methodLink own index y).before a0 Z = true) (w2 : (Cond.static y).before a0 Z = true) (w3 : (Cond.initialized y.cls).before a0 Z = true) (w4 : (Cond.code y bytes maxL ret).before a0 Z = true)
    (hy : y.cls ≠ "java/lang/invoke/MethodHandle" ∧ y.cls ≠ "java/lang/invoke/VarHandle") {argsL rest : List Value} (hM : CtrH l Z EL sf y bytes maxL ret rm argsL.toArray h Q []) (eT : T.heap = h)
    (hlen : ∀ sig, parseMethodDescriptor y.desc = some sig → argsL.length = sig.parameters.length) {pc W : Nat} {Ls : Array Slot} {st : List Value} (hst : st = argsL.reverse ++ rest) (hsz : Ls.size = c.maxLocals) (hd : decode c.code pc = .ok (.invokestatic index, 3))
    (hW : (rest.map fun v => v.category).sum ≤ W) (hfr : rm.frames + 1 ≤ R.frames) (hlo : W + (maxL + 11) + rm.locals ≤ R.locals) (hce : cells + rm.cells ≤ R.cells) (hsl : slots + rm.slots ≤ R.slots) :
    ∃ v T' L, Stand p l e R (s.setVm T'.vm) m args below meth c T' (locs ++ L) (cells + rm.cells) (slots + rm.slots) ∧ s.Since T'.vm T'.heap.size ∧ Z.Warmed39 T'.vm ∧ T'.vm.findClass own = some m.cls ∧ CHr Z EL vm0 h T'.vm T'.heap ∧ Q v T'.heap L ∧ ∀ t, Steps p.tables e below (T'.setTop (mkF m (pc + 3) Ls (v.toList ++ rest))) t → Steps p.tables e below (T.setTop (mkF m pc Ls st)) t := by
  obtain ⟨v, _, ⟨T', L', k', n'⟩, -, X', hS', hg', ⟨L, hQ, l1, l2, l3, hC⟩, st'⟩ := callSS X hx hown (mvT (s := s.setVm vm0) hZ w1) (mvT (s := s.setVm vm0) hZ w2) (mvT (s := s.setVm vm0) hZ w3) (mvT (s := s.setVm vm0) hZ w4) hy (backH (W := W) hM hZ w4 w3 hfr hlo hEL H hsf) (g := mkF m pc Ls st) rfl hsz (argsL := argsL) (rest := rest) hlen hst (by show 2 * 0 + _ ≤ _; omega) hd (fun _ _ => ⟨rfl, eT, hce, hsl⟩)
  dsimp only [Pt.U, Pt.locs, Pt.cells, Pt.slots] at X' hS' hg' l1 l2 l3 st' hQ hC
  subst l1 l2 l3
  exact ⟨v, T', L, X', hS.trans hS' (Nat.le_trans hk (eT ▸ hg')), State.Warmed39.trans (t := s.setVm vm0) hZ hS'.1, by rw [hS'.1.alike.findClass]; exact hown, hC, hQ, fun t k => st'.trans k⟩
theorem callInitH {EL : List (String × Nat)} {sf : List Addr} {vm0 : Vm} {k0 : Nat} (X : Stand p l e R (s.setVm vm0) m args below meth c T locs cells slots) (hx : p.tables.exec = Jvm.exec) (hZ : Z.Warmed39 vm0) (hS : s.Since vm0 k0) (hk : k0 ≤ h.size) (hEL : EW Z a0 EL) (H : CHv Z EL vm0 h) (hsf : ∀ x ∈ sf, x < h.size ∧ Safe Z EL vm0 h x) {own : String} {index : Nat} {y : MethodName} {bytes : ByteArray} {maxL : Nat} {rm : Room} {Q : Option Value → Heap → List Loc → Prop} (hy1 : y.name = "<init>")
    (hown : vm0.findClass own = some m.cls) (w1 : (Cond.methodLink own index y).before a0 Z = true) (w2 : (Cond.instanceMethod y).before a0 Z = true) (w3 : (Cond.initialized y.cls).before a0 Z = true) (w4 : (Cond.code y bytes maxL none).before a0 Z = true)
    (hy : y.cls ≠ "java/lang/invoke/MethodHandle" ∧ y.cls ≠ "java/lang/invoke/VarHandle") {a : Addr} {argsL rest : List Value} (hM : CtrH l Z EL sf y bytes maxL none rm (.ref a :: argsL).toArray h Q []) (eT : T.heap = h)
    (hlen : ∀ sig, parseMethodDescriptor y.desc = some sig → argsL.length = sig.parameters.length) {pc W : Nat} {Ls : Array Slot} {st : List Value} (hst : st = argsL.reverse ++ .ref a :: rest) (hsz : Ls.size = c.maxLocals) (hd : decode c.code pc = .ok (.invokespecial index, 3))
    (hW : (rest.map fun v => v.category).sum ≤ W) (hfr : rm.frames + 1 ≤ R.frames) (hlo : W + (maxL + 11) + rm.locals ≤ R.locals) (hce : cells + rm.cells ≤ R.cells) (hsl : slots + rm.slots ≤ R.slots) :
    ∃ v T' L, Stand p l e R (s.setVm T'.vm) m args below meth c T' (locs ++ L) (cells + rm.cells) (slots + rm.slots) ∧ s.Since T'.vm T'.heap.size ∧ Z.Warmed39 T'.vm ∧ T'.vm.findClass own = some m.cls ∧ CHr Z EL vm0 h T'.vm T'.heap ∧ Q v T'.heap L ∧ ∀ t, Steps p.tables e below (T'.setTop (mkF m (pc + 3) Ls (v.toList ++ rest))) t → Steps p.tables e below (T.setTop (mkF m pc Ls st)) t := by
  obtain ⟨v, _, ⟨T', L', k', n'⟩, -, X', hS', hg', ⟨L, hQ, l1, l2, l3, hC⟩, st'⟩ := X.specialBackS hx hy1 hown (mvT (s := s.setVm vm0) hZ w1) (mvT (s := s.setVm vm0) hZ w2) (mvT (s := s.setVm vm0) hZ w4) hy (backH (W := W) hM hZ w4 w3 hfr hlo hEL H hsf) (g := mkF m pc Ls st) rfl hsz (Steps.refl _) (a := a) (argsL := argsL) (rest := rest) hlen hst (by show 2 * 0 + _ ≤ _; omega) hd (fun _ _ => ⟨rfl, eT, hce, hsl⟩)
  dsimp only [Pt.U, Pt.locs, Pt.cells, Pt.slots] at X' hS' hg' l1 l2 l3 st' hQ hC
  subst l1 l2 l3
  exact ⟨v, T', L, X', hS.trans hS' (Nat.le_trans hk (eT ▸ hg')), State.Warmed39.trans (t := s.setVm vm0) hZ hS'.1, by rw [hS'.1.alike.findClass]; exact hown, hC, hQ, fun t k => st'.trans k⟩
theorem callVirtH {EL : List (String × Nat)} {sf : List Addr} {vm0 : Vm} {k0 : Nat} (X : Stand p l e R (s.setVm vm0) m args below meth c T locs cells slots) (hx : p.tables.exec = Jvm.exec) (hZ : Z.Warmed39 vm0) (hS : s.Since vm0 k0) (hk : k0 ≤ h.size) (hEL : EW Z a0 EL) (H : CHv Z EL vm0 h) (hsf : ∀ x ∈ sf, x < h.size ∧ Safe Z EL vm0 h x) {own C : String} {index : Nat} {y z : MethodName} {bytes : ByteArray} {maxL : Nat} {ret : Option FieldType} {rm : Room} {Q : Option Value → Heap → List Loc → Prop}
    (hown : vm0.findClass own = some m.cls) (w1 : (Cond.methodLink own index y).before a0 Z = true) (w2 : (Cond.declares y).before a0 Z = true) (w5 : (Cond.selects C y z).before a0 Z = true) (hnf : NotFace (s.setVm vm0) y) (w6 : (Cond.instanceMethod z).before a0 Z = true) (w3 : (Cond.initialized z.cls).before a0 Z = true) (w4 : (Cond.code z bytes maxL ret).before a0 Z = true)
    (hy : y.cls ≠ "java/lang/invoke/MethodHandle" ∧ y.cls ≠ "java/lang/invoke/VarHandle") {a : Addr} {argsL rest : List Value} (hM : CtrH l Z EL sf z bytes maxL ret rm (.ref a :: argsL).toArray h Q []) (eT : T.heap = h) (E : Exa Z h a C)
    (hlen : ∀ sig, parseMethodDescriptor y.desc = some sig → argsL.length = sig.parameters.length) {pc W : Nat} {Ls : Array Slot} {st : List Value} (hst : st = argsL.reverse ++ .ref a :: rest) (hsz : Ls.size = c.maxLocals) (hd : decode c.code pc = .ok (.invokevirtual index, 3))
    (hW : (rest.map fun v => v.category).sum ≤ W) (hfr : rm.frames + 1 ≤ R.frames) (hlo : W + (maxL + 11) + rm.locals ≤ R.locals) (hce : cells + rm.cells ≤ R.cells) (hsl : slots + rm.slots ≤ R.slots) :
    ∃ v T' L, Stand p l e R (s.setVm T'.vm) m args below meth c T' (locs ++ L) (cells + rm.cells) (slots + rm.slots) ∧ s.Since T'.vm T'.heap.size ∧ Z.Warmed39 T'.vm ∧ T'.vm.findClass own = some m.cls ∧ CHr Z EL vm0 h T'.vm T'.heap ∧ Q v T'.heap L ∧ ∀ t, Steps p.tables e below (T'.setTop (mkF m (pc + 3) Ls (v.toList ++ rest))) t → Steps p.tables e below (T.setTop (mkF m pc Ls st)) t := by
  obtain ⟨cB, kB, q1, -, q3⟩ := isOf (s := s.setVm vm0) hZ eT E
  obtain ⟨v, _, ⟨T', L', k', n'⟩, -, X', hS', hg', ⟨L, hQ, l1, l2, l3, hC⟩, st'⟩ := X.virtualBackS hx hown (mvT (s := s.setVm vm0) hZ w1) (mvT (s := s.setVm vm0) hZ w2) hnf (mvT (s := s.setVm vm0) hZ w5) (mvT (s := s.setVm vm0) hZ w6) hy (backH (W := W) hM hZ w4 w3 hfr hlo hEL H hsf) q1 q3 (g := mkF m pc Ls st) rfl hsz (Steps.refl _) (argsL := argsL) (rest := rest) hlen hst (by show 2 * 0 + _ ≤ _; omega) hd (fun _ _ => ⟨rfl, eT, hce, hsl⟩)
  dsimp only [Pt.U, Pt.locs, Pt.cells, Pt.slots] at X' hS' hg' l1 l2 l3 st' hQ hC
  subst l1 l2 l3
  exact ⟨v, T', L, X', hS.trans hS' (Nat.le_trans hk (eT ▸ hg')), State.Warmed39.trans (t := s.setVm vm0) hZ hS'.1, by rw [hS'.1.alike.findClass]; exact hown, hC, hQ, fun t k => st'.trans k⟩
theorem rebase {vm0 : Vm} {k0 : Nat} {own : String} (X : Stand p l e R (s.setVm vm0) m args below meth c T locs cells slots) (hS : s.Since vm0 k0) (eT : T.heap = h) (hk : k0 ≤ h.size) (hZ : Z.Warmed39 vm0) (hown : vm0.findClass own = some m.cls) :
    Stand p l e R (s.setVm T.vm) m args below meth c T locs cells slots ∧ s.Since T.vm h.size ∧ Z.Warmed39 T.vm ∧ T.vm.findClass own = some m.cls :=
  ⟨X.retabled X.warmed.wide, hS.trans (X.warmed.since h.size) hk, wtrans (s := s.setVm vm0) hZ X.warmed, by rw [X.warmed.wide.alike.findClass]; exact hown⟩
theorem fld_int {args : Array Value} {t : Term} {x : Addr} {C n d : String} {k : Int32} (ht : t.eval args s none [] s = some (.ref x)) (hq : (Cond.eq (Term.field t C n d) (Term.int k)).value args s none s [] = some true) : Fld s s.heap x C n d (.int k) :=
  Fld.start ((fld_at (C := C) (n := n) (dd := d) ht).symm.trans (eqv_i (Term.int_eval k) hq))
/-- the class C has its Class object, at mr -/
def Mirr (Z : State) (C : String) (mr : Addr) : Prop := ∃ (c : ClassId) (k : Class), Z.vm.findClass C = some c ∧ Z.vm.classes[c]? = some k ∧ k.mirror = some mr
theorem gclsS (X : Stand p l e R s m args below meth c T locs cells slots) (hx : p.tables.exec = Jvm.exec) (hZ : Z.Warmed39 s.vm) {own C : String} {index : Nat} (hown : s.vm.findClass own = some m.cls)
    (w1 : (Cond.methodLink own index ⟨"java/lang/Object", "getClass", "()Ljava/lang/Class;"⟩).before a0 Z = true) (w2 : (Cond.declares ⟨"java/lang/Object", "getClass", "()Ljava/lang/Class;"⟩).before a0 Z = true) (w4 : (Cond.selects C ⟨"java/lang/Object", "getClass", "()Ljava/lang/Class;"⟩ ⟨"java/lang/Object", "getClass", "()Ljava/lang/Class;"⟩).before a0 Z = true)
    (w5 : (Cond.instanceMethod ⟨"java/lang/Object", "getClass", "()Ljava/lang/Class;"⟩).before a0 Z = true) (w6 : (Cond.native ⟨"java/lang/Object", "getClass", "()Ljava/lang/Class;"⟩).before a0 Z = true) (eT : T.heap = h) {a : Addr} (E : Exa Z h a C) {mr : Addr} (M : Mirr Z C mr)
    {g : JFrame} (hg : g.method = m) (hsize : g.locals.size = c.maxLocals) {rest : List Value} (hs : g.stack = .ref a :: rest) (hd : decode c.code g.pc = .ok (.invokevirtual index, 3)) (hf : 1 ≤ R.frames) {W : Nat} (hW : 2 * g.monitorRoom + (rest.map fun v => v.category).sum ≤ W) (hl : W + (nativeFrameWords "java/lang/Object" "getClass" 1 + 11) ≤ R.locals) :
    ∃ T', Stand p l e R s m args below meth c T' locs cells slots ∧ T'.heap = h ∧ ∀ target, Steps p.tables e below (T'.setTop { g with pc := g.pc + 3, stack := .ref mr :: rest }) target → Steps p.tables e below (T.setTop g) target := by
  obtain ⟨cB, kB, i1, i2, i3⟩ := isOf hZ eT E
  obtain ⟨cc, kc, m1, m2, m3⟩ := M
  rw [hZ.alike.findClass] at i1
  cases i1.symm.trans m1
  obtain ⟨k', q, ek⟩ := hZ.alike.2.2 _ _ m2
  obtain ⟨vm', X', st⟩ := X.getClassOf hx hown (mvT hZ w1) (mvT hZ w2) (notFace_of_selects (args := #[]) (mvT hZ w4)) (mvT hZ w4) (mvT hZ w5) (mvT hZ w6) (by rw [hZ.alike.findClass]; exact m1) i3 q (by rw [ek]; exact m3) hg hsize hs hd hf (by omega)
  exact ⟨_, X', eT, st⟩
theorem len_is {args : Array Value} {t : Term} {a : Addr} {cl : Cell} {ty : FieldType} {k : Int32} (ht : t.eval args s none [] s = some (.ref a)) (A : Arr s s.heap a cl ty) (hq : (Cond.eq (Term.length t) (Term.int k)).value args s none s [] = some true) : cl.slots.size < 2 ^ 31 ∧ cl.slots.size.toInt32 = k := by
  have ha := A.fin (Vm.Alike.refl s.vm)
  by_cases hl : cl.slots.size < 2 ^ 31
  · exact ⟨hl, gotT (Cond.eq_ints (len_f ht ha hl) (Term.int_eval k)) hq⟩
  · obtain ⟨v, y, e1, -, -, -⟩ := cmp_v (Or.inl hq)
    simp [Term.eval, ht, ha] at e1
    omega
theorem sub_at {args : Array Value} {a b : Term} {idx : List Nat} {x y : Int32} (ha : a.eval args s none idx s = some (.int x)) (hb : b.eval args s none idx s = some (.int y)) : (Term.sub a b).eval args s none idx s = some (.int (x - y)) := by simp [Term.eval, ha, hb]
theorem own_nc (x : Int32) : nar .char (x &&& 255).toUInt32.toUInt16.toUInt32.toInt32 = x &&& 255 := by
  rw [i2c_mask]; exact i2c_mask x
theorem own_cr (x : Int32) : ¬ (x &&& 255) < 0 ∧ ¬ (255 : Int32) < (x &&& 255) := by
  have q := c_and x 255 (by decide)
  have e0 : (0 : Int32).toInt = 0 := rfl
  have e1 : (255 : Int32).toInt = 255 := rfl
  rw [Int32.lt_iff_toInt_lt, Int32.lt_iff_toInt_lt]; omega
theorem ns_root {O K : String} {n : Nat} (w : (Cond.noSuperclass O).before a0 Z = true) (wk : (Cond.instantiable K n).before a0 Z = true) (hn : O ≠ K) : NS Z O K := by
  obtain ⟨c, k, h1, h2, h3, -, -⟩ := Cond.noSuperclass_spec w
  obtain ⟨t, -, g1, -⟩ := Cond.instantiable_spec wk
  have ne := ids_ne h1 g1 hn
  refine ⟨c, t, h1, g1, fun fuel => ?_⟩
  cases fuel with
  | zero => rfl
  | succ f => simp [Vm.isSubclassAux, ne, h2, h3]
theorem ns_no {C S K : String} {n : Nat} (w : (Cond.superclass C S).before a0 Z = true) (wk : (Cond.instantiable K n).before a0 Z = true) (ns : NS Z C K) (hn : C ≠ K) : ∃ c t, Z.vm.findClass C = some c ∧ Z.vm.findClass K = some t ∧ Z.vm.assignable c t = false := by
  obtain ⟨c, t, h0, g0, n3⟩ := ns
  obtain ⟨p, k, kp, h1, h2, h3, h4, h5, -, h7⟩ := Cond.superclass_spec h0 w
  obtain ⟨t', k', g1, g2, g5, g6, -⟩ := Cond.instantiable_spec wk
  cases g0.symm.trans g1
  have g7 := (Bool.or_eq_false_iff.mp g6).1
  have ne := ids_ne h0 g0 hn
  refine ⟨c, t, h0, g0, ?_⟩
  show Z.vm.assignableAux (255 + 1) c t = false
  simp [Vm.assignableAux, ne, h2, g2, h5, g5, g7, Vm.isSubclass, n3]
end Own
end Jvm.OwnKit
namespace Jvm.Pilot.@@N@@
open Jvm Jvm.ClassFile Sem Op Lib Jvm.Free Jvm.Stand Jvm.LawKit Jvm.RoadKit Jvm.OwnKit Bundle Jvm.Pilot.@@N@@.Jvm.D
theorem own_rem (x m : Int32) (k : Int) (hk : m.toInt = k) (h : 0 < k) : 0 ≤ ((x &&& 2147483647) % m).toInt ∧ ((x &&& 2147483647) % m).toInt < k := by
  have q := c_and x 2147483647 (by decide)
  have r := (c_irem (x &&& 2147483647) m k hk).1 q.1
  rw [r]
  exact ⟨Int.emod_nonneg _ (by omega), Int.emod_lt_of_pos _ h⟩
theorem own_k5 (x : Int32) : (x &&& 2147483647) % 5 = 0 ∨ (x &&& 2147483647) % 5 = 1 ∨ (x &&& 2147483647) % 5 = 2 ∨ (x &&& 2147483647) % 5 = 3 ∨ (x &&& 2147483647) % 5 = 4 := by
  have q := own_rem x 5 5 rfl (by decide)
  generalize (x &&& 2147483647) % 5 = k at q
  have e0 : (0 : Int32).toInt = 0 := rfl
  have e1 : (1 : Int32).toInt = 1 := rfl
  have e2 : (2 : Int32).toInt = 2 := rfl
  have e3 : (3 : Int32).toInt = 3 := rfl
  have e4 : (4 : Int32).toInt = 4 := rfl
  simp only [← Int32.toInt_inj, e0, e1, e2, e3, e4]
  omega
/-- months: one to the greatest -/
theorem own_mon (x m : Int32) (k : Int) (hk : m.toInt = k) (h : 0 < k) (h2 : k < 2147483647) : 1 ≤ ((1 : Int32) + (x &&& 2147483647) % m).toInt ∧ ((1 : Int32) + (x &&& 2147483647) % m).toInt ≤ k := by
  have q := own_rem x m k hk h
  have e1 : (1 : Int32).toInt = 1 := rfl
  have a := c_iadd 1 ((x &&& 2147483647) % m)
  have b := rng32 (1 + (x &&& 2147483647) % m)
  generalize (x &&& 2147483647) % m = z at *
  omega
/-- the product fits an int -/
theorem own_mul {x y : Int32} (h1 : -2147483648 ≤ x.toInt * y.toInt) (h2 : x.toInt * y.toInt < 2147483648) : (x.toInt64 * y.toInt64).toInt32.toInt64 = x.toInt64 * y.toInt64 ∧ (x.toInt64 * y.toInt64).toInt32.toInt = x.toInt * y.toInt := by
  have e := XT.wideMul x y
  exact ⟨XT.narrowOk (by rw [e]; exact ⟨by omega, by omega⟩), by rw [XT.narrowInt (by rw [e]; exact ⟨by omega, by omega⟩), e]⟩

theorem own_d_jdk_29_method_28_code_0 : decode jdk_29_method_28_code 0 = .ok (.iload_n 0, 1) := by decide +kernel
theorem own_d_jdk_29_method_28_code_1 : decode jdk_29_method_28_code 1 = .ok (.i2l, 1) := by decide +kernel
theorem own_d_jdk_29_method_28_code_2 : decode jdk_29_method_28_code 2 = .ok (.iload_n 1, 1) := by decide +kernel
theorem own_d_jdk_29_method_28_code_3 : decode jdk_29_method_28_code 3 = .ok (.i2l, 1) := by decide +kernel
theorem own_d_jdk_29_method_28_code_4 : decode jdk_29_method_28_code 4 = .ok (.lmul, 1) := by decide +kernel
theorem own_d_jdk_29_method_28_code_5 : decode jdk_29_method_28_code 5 = .ok (.lstore_n 2, 1) := by decide +kernel
theorem own_d_jdk_29_method_28_code_6 : decode jdk_29_method_28_code 6 = .ok (.lload_n 2, 1) := by decide +kernel
theorem own_d_jdk_29_method_28_code_7 : decode jdk_29_method_28_code 7 = .ok (.l2i, 1) := by decide +kernel
theorem own_d_jdk_29_method_28_code_8 : decode jdk_29_method_28_code 8 = .ok (.i2l, 1) := by decide +kernel
theorem own_d_jdk_29_method_28_code_9 : decode jdk_29_method_28_code 9 = .ok (.lload_n 2, 1) := by decide +kernel
theorem own_d_jdk_29_method_28_code_10 : decode jdk_29_method_28_code 10 = .ok (.lcmp, 1) := by decide +kernel
theorem own_d_jdk_29_method_28_code_11 : decode jdk_29_method_28_code 11 = .ok (.ifCond .eq 13, 3) := by decide +kernel
theorem own_d_jdk_29_method_28_code_24 : decode jdk_29_method_28_code 24 = .ok (.lload_n 2, 1) := by decide +kernel
theorem own_d_jdk_29_method_28_code_25 : decode jdk_29_method_28_code 25 = .ok (.l2i, 1) := by decide +kernel
theorem own_d_jdk_29_method_28_code_26 : decode jdk_29_method_28_code 26 = .ok (.ireturn, 1) := by decide +kernel
theorem own_ef1 (m : MethodId) (x0 : Int32) (x1 : Int32)  : entryFrame m #[(.int x0), (.int x1)] 4 = mkF m 0 #[.val (.int x0), .val (.int x1), .unset, .unset] [] := by first | (simp [entryFrame, mkF, argsToLocals, Value.category]; done) | rfl
abbrev own_Q1 (Z : State) (x1 : Int32) (x2 : Int32) (h0 : Heap) (n0 : Nat) (v : Option Value) (h : Heap) (L : List Loc) : Prop := ∃ r : Int32, v = some (.int r) ∧ Fr n0 L ∧ h = h0 ∧ r = (x1.toInt64 * x2.toInt64).toInt32
set_option maxRecDepth 65536 in
set_option maxHeartbeats 40000000 in
theorem own_m1 (l : Launch) (Z : State) (a0 : Array Value) (hw : ∀ d ∈ tables_1, d.before a0 Z = true) (ws : List Jvm.Cond) (x1 : Int32) (x2 : Int32) (h0 : Heap) (n0 : Nat) (O0 : Old Z n0 h0) (he : (x1.toInt64 * x2.toInt64).toInt32.toInt64 = x1.toInt64 * x2.toInt64) :
    Ctr l Z (⟨"java/lang/Math", "multiplyExact", "(II)I"⟩ : MethodName) jdk_29_method_28_code 4 (some .int) ({ frames := 0, cells := 0, slots := 0, locals := 0 } : Room) #[(.int x1), (.int x2)] h0 (own_Q1 Z x1 x2 h0 n0) ws := by
  refine MetFree.of_bodySF (show plainFor (⟨"java/lang/Math", "multiplyExact", "(II)I"⟩ : MethodName) = true by decide +kernel) hisR ?_
  intro p e s m args below meth c s₁ Bd hml0 hP hK
  obtain ⟨rfl, hZ, hh⟩ := hP
  have hx := Bd.exec
  have hby := Bd.bytes
  have hlk : meth.locks = false := Bd.notSynchronized
  have hml : c.maxLocals = 4 := hml0
  have hown : s.vm.findClass "java/lang/Math" = some m.cls := findClass_of_methodNamed Bd.named
  have hnm := (name_of_methodNamed Bd.named Bd.method).1
  have X0 : Stand p l e ({ frames := 0, cells := 0, slots := 0, locals := 0 } : Room) s m #[(.int x1), (.int x2)] below meth c s₁ [] 0 0 := Stand.of_body Bd
  have e0 : s₁.heap = h0 := by rw [← hh, Bd.state]; rfl
  have N0 := Fr.nil n0
  show Goes p.tables e below (fun t o => ∃ v L, o = .returned v ∧ (own_Q1 Z x1 x2 h0 n0) v t.heap L ∧ FrameEnd s o t L (({ frames := 0, cells := 0, slots := 0, locals := 0 } : Room)).cells (({ frames := 0, cells := 0, slots := 0, locals := 0 } : Room)).slots) _
  refine Goes.via (B := s₁.setTop (mkF m 0 #[.val (.int x1), .val (.int x2), .unset, .unset] [])) (fun t k => castTop (own_ef1 m x1 x2) k) ?_
  refine Goes.via (B := s₁.setTop (mkF m 1 #[.val (.int x1), .val (.int x2), .unset, .unset] [(.int x1)])) (fun t k => XS.iloadN X0.here hx rfl (hb hby own_d_jdk_29_method_28_code_0) rfl k) ?_
  refine Goes.via (B := s₁.setTop (mkF m 2 #[.val (.int x1), .val (.int x2), .unset, .unset] [(.long (x1.toInt64))])) (fun t k => XS.i2l X0.here hx rfl (hb hby own_d_jdk_29_method_28_code_1) rfl k) ?_
  refine Goes.via (B := s₁.setTop (mkF m 3 #[.val (.int x1), .val (.int x2), .unset, .unset] [(.int x2), (.long (x1.toInt64))])) (fun t k => XS.iloadN X0.here hx rfl (hb hby own_d_jdk_29_method_28_code_2) rfl k) ?_
  refine Goes.via (B := s₁.setTop (mkF m 4 #[.val (.int x1), .val (.int x2), .unset, .unset] [(.long (x2.toInt64)), (.long (x1.toInt64))])) (fun t k => XS.i2l X0.here hx rfl (hb hby own_d_jdk_29_method_28_code_3) rfl k) ?_
  refine Goes.via (B := s₁.setTop (mkF m 5 #[.val (.int x1), .val (.int x2), .unset, .unset] [(.long ((x1.toInt64) * (x2.toInt64)))])) (fun t k => XS.lmul X0.here hx rfl (hb hby own_d_jdk_29_method_28_code_4) rfl k) ?_
  refine Goes.via (B := s₁.setTop (mkF m 6 #[.val (.int x1), .val (.int x2), .val (.long ((x1.toInt64) * (x2.toInt64))), .second] [])) (fun t k => XS.lstoreN X0.here hx rfl (hb hby own_d_jdk_29_method_28_code_5) rfl (l' := #[.val (.int x1), .val (.int x2), .val (.long ((x1.toInt64) * (x2.toInt64))), .second]) rfl k) ?_
  refine Goes.via (B := s₁.setTop (mkF m 7 #[.val (.int x1), .val (.int x2), .val (.long ((x1.toInt64) * (x2.toInt64))), .second] [(.long ((x1.toInt64) * (x2.toInt64)))])) (fun t k => XS.lloadN X0.here hx rfl (hb hby own_d_jdk_29_method_28_code_6) rfl k) ?_
  refine Goes.via (B := s₁.setTop (mkF m 8 #[.val (.int x1), .val (.int x2), .val (.long ((x1.toInt64) * (x2.toInt64))), .second] [(.int (((x1.toInt64) * (x2.toInt64)).toInt32))])) (fun t k => XS.l2i X0.here hx rfl (hb hby own_d_jdk_29_method_28_code_7) rfl k) ?_
  refine Goes.via (B := s₁.setTop (mkF m 9 #[.val (.int x1), .val (.int x2), .val (.long ((x1.toInt64) * (x2.toInt64))), .second] [(.long ((((x1.toInt64) * (x2.toInt64)).toInt32).toInt64))])) (fun t k => XS.i2l X0.here hx rfl (hb hby own_d_jdk_29_method_28_code_8) rfl k) ?_
  refine Goes.via (B := s₁.setTop (mkF m 10 #[.val (.int x1), .val (.int x2), .val (.long ((x1.toInt64) * (x2.toInt64))), .second] [(.long ((x1.toInt64) * (x2.toInt64))), (.long ((((x1.toInt64) * (x2.toInt64)).toInt32).toInt64))])) (fun t k => XS.lloadN X0.here hx rfl (hb hby own_d_jdk_29_method_28_code_9) rfl k) ?_
  refine Goes.via (B := s₁.setTop (mkF m 11 #[.val (.int x1), .val (.int x2), .val (.long ((x1.toInt64) * (x2.toInt64))), .second] [(.int (XT.cmpL ((((x1.toInt64) * (x2.toInt64)).toInt32).toInt64) ((x1.toInt64) * (x2.toInt64))))])) (fun t k => XT.lcmp X0.here hx rfl (hb hby own_d_jdk_29_method_28_code_10) rfl k) ?_
  refine Goes.via (B := s₁.setTop (mkF m 24 #[.val (.int x1), .val (.int x2), .val (.long ((x1.toInt64) * (x2.toInt64))), .second] [])) (fun t k => XS.ifYes X0.here hx rfl (pc0 := 11) (pc' := 24) rfl (hb hby own_d_jdk_29_method_28_code_11) rfl (XT.ll_eq_t he) (by decide) (by decide) k) ?_
  refine Goes.via (B := s₁.setTop (mkF m 25 #[.val (.int x1), .val (.int x2), .val (.long ((x1.toInt64) * (x2.toInt64))), .second] [(.long ((x1.toInt64) * (x2.toInt64)))])) (fun t k => XS.lloadN X0.here hx rfl (hb hby own_d_jdk_29_method_28_code_24) rfl k) ?_
  refine Goes.via (B := s₁.setTop (mkF m 26 #[.val (.int x1), .val (.int x2), .val (.long ((x1.toInt64) * (x2.toInt64))), .second] [(.int (((x1.toInt64) * (x2.toInt64)).toInt32))])) (fun t k => XS.l2i X0.here hx rfl (hb hby own_d_jdk_29_method_28_code_25) rfl k) ?_
  exact finI (Q := (own_Q1 Z x1 x2 h0 n0)) (F := FrameEnd) (C := (({ frames := 0, cells := 0, slots := 0, locals := 0 } : Room)).cells) (S := (({ frames := 0, cells := 0, slots := 0, locals := 0 } : Room)).slots) X0 hx Bd.returns (hb hby own_d_jdk_29_method_28_code_26) e0 ⟨(x1.toInt64 * x2.toInt64).toInt32, rfl, N0, rfl, rfl⟩ (lvN X0 hlk (by decide) (by decide))
theorem own_pn0 : plainName "com/example/vestloan/vestloan/Frequency" = true := by first | (simp [plainName, overriddenIn]; done) | decide +kernel
theorem own_d_prog_9_method_5_code_0 : decode prog_9_method_5_code 0 = .ok (.iload_n 1, 1) := by decide +kernel
theorem own_d_prog_9_method_5_code_1 : decode prog_9_method_5_code 1 = .ok (.iconst 1, 1) := by decide +kernel
theorem own_d_prog_9_method_5_code_2 : decode prog_9_method_5_code 2 = .ok (.if_icmp .ge 13, 3) := by decide +kernel
theorem own_d_prog_9_method_5_code_15 : decode prog_9_method_5_code 15 = .ok (.iload_n 1, 1) := by decide +kernel
theorem own_d_prog_9_method_5_code_16 : decode prog_9_method_5_code 16 = .ok (.aload_n 0, 1) := by decide +kernel
theorem own_d_prog_9_method_5_code_17 : decode prog_9_method_5_code 17 = .ok (.getfield 38, 3) := by decide +kernel
theorem own_d_prog_9_method_5_code_20 : decode prog_9_method_5_code 20 = .ok (.invokestatic 52, 3) := by decide +kernel
theorem own_pd0 : parseMethodDescriptor "(II)I" = some ⟨[.int, .int], some .int⟩ := by decide +kernel
theorem own_d_prog_9_method_5_code_23 : decode prog_9_method_5_code 23 = .ok (.bipush 12, 2) := by decide +kernel
theorem own_d_prog_9_method_5_code_25 : decode prog_9_method_5_code 25 = .ok (.idiv, 1) := by decide +kernel
theorem own_d_prog_9_method_5_code_26 : decode prog_9_method_5_code 26 = .ok (.ireturn, 1) := by decide +kernel
theorem own_ef2 (m : MethodId) (x0 : Addr) (x1 : Int32)  : entryFrame m #[(.ref x0), (.int x1)] 2 = mkF m 0 #[.val (.ref x0), .val (.int x1)] [] := by first | (simp [entryFrame, mkF, argsToLocals, Value.category]; done) | rfl
abbrev own_Q2 (Z : State) (a1 : Addr) (x1 : Int32) (x2 : Int32) (h0 : Heap) (n0 : Nat) (v : Option Value) (h : Heap) (L : List Loc) : Prop := v = some (.int ((x1.toInt64 * x2.toInt64).toInt32 / (12 : Int32))) ∧ Fr n0 L ∧ h = h0
set_option maxRecDepth 65536 in
set_option maxHeartbeats 40000000 in
theorem own_m2 (l : Launch) (Z : State) (a0 : Array Value) (hw : ∀ d ∈ tables_1, d.before a0 Z = true) (ws : List Jvm.Cond) (a1 : Addr) (x1 : Int32) (x2 : Int32) (h0 : Heap) (n0 : Nat) (O0 : Old Z n0 h0) (hp1 : ¬ x1 < (1 : Int32)) (he : (x1.toInt64 * x2.toInt64).toInt32.toInt64 = x1.toInt64 * x2.toInt64) (O_1 : Fld Z Z.heap a1 "com/example/vestloan/vestloan/Frequency" "paymentsPerYear" "I" (.int x2)) :
    Ctr l Z (⟨"com/example/vestloan/vestloan/Frequency", "paymentsIn", "(I)I"⟩ : MethodName) prog_9_method_5_code 2 (some .int) ({ frames := 1, cells := 0, slots := 0, locals := 15 } : Room) #[(.ref a1), (.int x1)] h0 (own_Q2 Z a1 x1 x2 h0 n0) ws := by
  refine MetFree.of_bodySF (plainFor_of_name own_pn0) hisR ?_
  intro p e s m args below meth c s₁ Bd hml0 hP hK
  obtain ⟨rfl, hZ, hh⟩ := hP
  have hx := Bd.exec
  have hby := Bd.bytes
  have hlk : meth.locks = false := Bd.notSynchronized
  have hml : c.maxLocals = 2 := hml0
  have hown : s.vm.findClass "com/example/vestloan/vestloan/Frequency" = some m.cls := findClass_of_methodNamed Bd.named
  have hnm := (name_of_methodNamed Bd.named Bd.method).1
  have X0 : Stand p l e ({ frames := 1, cells := 0, slots := 0, locals := 15 } : Room) s m #[(.ref a1), (.int x1)] below meth c s₁ [] 0 0 := Stand.of_body Bd
  have e0 : s₁.heap = h0 := by rw [← hh, Bd.state]; rfl
  have N0 := Fr.nil n0
  show Goes p.tables e below (fun t o => ∃ v L, o = .returned v ∧ (own_Q2 Z a1 x1 x2 h0 n0) v t.heap L ∧ FrameEnd s o t L (({ frames := 1, cells := 0, slots := 0, locals := 15 } : Room)).cells (({ frames := 1, cells := 0, slots := 0, locals := 15 } : Room)).slots) _
  refine Goes.via (B := s₁.setTop (mkF m 0 #[.val (.ref a1), .val (.int x1)] [])) (fun t k => castTop (own_ef2 m a1 x1) k) ?_
  refine Goes.via (B := s₁.setTop (mkF m 1 #[.val (.ref a1), .val (.int x1)] [(.int x1)])) (fun t k => XS.iloadN X0.here hx rfl (hb hby own_d_prog_9_method_5_code_0) rfl k) ?_
  refine Goes.via (B := s₁.setTop (mkF m 2 #[.val (.ref a1), .val (.int x1)] [(.int (1 : Int32)), (.int x1)])) (fun t k => XS.iconst X0.here hx rfl (hb hby own_d_prog_9_method_5_code_1) k) ?_
  refine Goes.via (B := s₁.setTop (mkF m 15 #[.val (.ref a1), .val (.int x1)] [])) (fun t k => XS.icmpYes X0.here hx rfl (pc0 := 2) (pc' := 15) rfl (hb hby own_d_prog_9_method_5_code_2) rfl (XT.ii_ge_t hp1) (by decide) (by decide) k) ?_
  refine Goes.via (B := s₁.setTop (mkF m 16 #[.val (.ref a1), .val (.int x1)] [(.int x1)])) (fun t k => XS.iloadN X0.here hx rfl (hb hby own_d_prog_9_method_5_code_15) rfl k) ?_
  refine Goes.via (B := s₁.setTop (mkF m 17 #[.val (.ref a1), .val (.int x1)] [(.ref a1), (.int x1)])) (fun t k => XS.aloadN X0.here hx rfl (hb hby own_d_prog_9_method_5_code_16) rfl rfl k) ?_
  obtain ⟨T1, X1, e1, st1⟩ := getF X0 hx hZ hown (host := "") (Or.inl (hw _ (List.mem_of_getElem? (i := 12) rfl))) Via.refl e0 (O_1.ext O0.2) (g := (mkF m 17 #[.val (.ref a1), .val (.int x1)] [(.ref a1), (.int x1)])) rfl rfl (hb hby own_d_prog_9_method_5_code_17)
  refine Goes.via (B := T1.setTop (mkF m 20 #[.val (.ref a1), .val (.int x1)] [(.int x2), (.int x1)])) (fun t k => st1 _ k) ?_
  obtain ⟨_, T2, L2, X2, ⟨r2, rfl, M2, K2, p2_0⟩, st2⟩ := callStatic X1 hx hZ hown (hw _ (List.mem_of_getElem? (i := 14) rfl)) (hw _ (List.mem_of_getElem? (i := 15) rfl)) (hw _ (List.mem_of_getElem? (i := 16) rfl)) (hw _ (List.mem_of_getElem? (i := 17) rfl)) (by decide) (argsL := [(.int x1), (.int x2)]) (rest := []) (own_m1 l Z a0 hw [] x1 x2 h0 n0 O0 he) e1 (lenOf own_pd0 rfl) (pc := 20) (Ls := #[.val (.ref a1), .val (.int x1)]) (st := [(.int x2), (.int x1)]) rfl (by rw [hml]; rfl) (hb hby own_d_prog_9_method_5_code_20) (W := 0) (Nat.le_of_eq rfl) (by decide) (by decide) (by decide) (by decide)
  have N2 := Fr.app N0 M2
  refine Goes.via (B := T2.setTop (mkF m 23 #[.val (.ref a1), .val (.int x1)] [(.int r2)])) (fun t k => st2 _ k) ?_
  subst p2_0
  refine Goes.via (B := T2.setTop (mkF m 25 #[.val (.ref a1), .val (.int x1)] [(.int (12 : Int32)), (.int (x1.toInt64 * x2.toInt64).toInt32)])) (fun t k => XS.bipush X2.here hx rfl (hb hby own_d_prog_9_method_5_code_23) k) ?_
  refine Goes.via (B := T2.setTop (mkF m 26 #[.val (.ref a1), .val (.int x1)] [(.int ((x1.toInt64 * x2.toInt64).toInt32 / (12 : Int32)))])) (fun t k => XS.idiv X2.here hx rfl (hb hby own_d_prog_9_method_5_code_25) rfl (by decide) k) ?_
  exact finI (Q := (own_Q2 Z a1 x1 x2 h0 n0)) (F := FrameEnd) (C := (({ frames := 1, cells := 0, slots := 0, locals := 15 } : Room)).cells) (S := (({ frames := 1, cells := 0, slots := 0, locals := 15 } : Room)).slots) X2 hx Bd.returns (hb hby own_d_prog_9_method_5_code_26) K2 ⟨rfl, N2, rfl⟩ (lvN X2 hlk (by decide) (by decide))
theorem own_eq0 {mo : Int32} (h1 : 1 ≤ mo.toInt) (h2 : mo.toInt ≤ 41297762) : ¬ mo < (1 : Int32) ∧ (mo.toInt64 * (52 : Int32).toInt64).toInt32.toInt64 = mo.toInt64 * (52 : Int32).toInt64 ∧ ((mo.toInt64 * (52 : Int32).toInt64).toInt32 / (12 : Int32)).toInt64 = (13 * mo.toInt64 / 3) := by
  have ek : (52 : Int32).toInt = 52 := rfl
  have e1 : (1 : Int32).toInt = 1 := rfl
  obtain ⟨q1, q2⟩ := own_mul (x := mo) (y := (52 : Int32)) (by rw [ek]; omega) (by rw [ek]; omega)
  refine ⟨by rw [Int32.lt_iff_toInt_lt]; omega, q1, ?_⟩
  rw [ek] at q2
  have d := (c_idiv (mo.toInt64 * (52 : Int32).toInt64).toInt32 12 12 rfl (by decide)).1 (by omega)
  apply Int64.toInt_inj.mp
  rw [c_i2l, d, q2]
  have m1 := c_lmul 13 mo.toInt64
  have m2 := rng64 (13 * mo.toInt64)
  have m3 : (13 : Int64).toInt = 13 := rfl
  rw [m3, c_i2l] at m1
  have m4 : (13 * mo.toInt64).toInt = 13 * mo.toInt := by omega
  rw [(c_ldiv (13 * mo.toInt64) 3 3 rfl (by decide)).1 (by omega), m4]
  omega
theorem own_eq1 {mo : Int32} (h1 : 1 ≤ mo.toInt) (h2 : mo.toInt ≤ 82595524) : ¬ mo < (1 : Int32) ∧ (mo.toInt64 * (26 : Int32).toInt64).toInt32.toInt64 = mo.toInt64 * (26 : Int32).toInt64 ∧ ((mo.toInt64 * (26 : Int32).toInt64).toInt32 / (12 : Int32)).toInt64 = (13 * mo.toInt64 / 6) := by
  have ek : (26 : Int32).toInt = 26 := rfl
  have e1 : (1 : Int32).toInt = 1 := rfl
  obtain ⟨q1, q2⟩ := own_mul (x := mo) (y := (26 : Int32)) (by rw [ek]; omega) (by rw [ek]; omega)
  refine ⟨by rw [Int32.lt_iff_toInt_lt]; omega, q1, ?_⟩
  rw [ek] at q2
  have d := (c_idiv (mo.toInt64 * (26 : Int32).toInt64).toInt32 12 12 rfl (by decide)).1 (by omega)
  apply Int64.toInt_inj.mp
  rw [c_i2l, d, q2]
  have m1 := c_lmul 13 mo.toInt64
  have m2 := rng64 (13 * mo.toInt64)
  have m3 : (13 : Int64).toInt = 13 := rfl
  rw [m3, c_i2l] at m1
  have m4 : (13 * mo.toInt64).toInt = 13 * mo.toInt := by omega
  rw [(c_ldiv (13 * mo.toInt64) 6 6 rfl (by decide)).1 (by omega), m4]
  omega
theorem own_eq2 {mo : Int32} (h1 : 1 ≤ mo.toInt) (h2 : mo.toInt ≤ 89478485) : ¬ mo < (1 : Int32) ∧ (mo.toInt64 * (24 : Int32).toInt64).toInt32.toInt64 = mo.toInt64 * (24 : Int32).toInt64 ∧ ((mo.toInt64 * (24 : Int32).toInt64).toInt32 / (12 : Int32)).toInt64 = (2 * mo.toInt64) := by
  have ek : (24 : Int32).toInt = 24 := rfl
  have e1 : (1 : Int32).toInt = 1 := rfl
  obtain ⟨q1, q2⟩ := own_mul (x := mo) (y := (24 : Int32)) (by rw [ek]; omega) (by rw [ek]; omega)
  refine ⟨by rw [Int32.lt_iff_toInt_lt]; omega, q1, ?_⟩
  rw [ek] at q2
  have d := (c_idiv (mo.toInt64 * (24 : Int32).toInt64).toInt32 12 12 rfl (by decide)).1 (by omega)
  apply Int64.toInt_inj.mp
  rw [c_i2l, d, q2]
  have m1 := c_lmul 2 mo.toInt64
  have m2 := rng64 (2 * mo.toInt64)
  have m3 : (2 : Int64).toInt = 2 := rfl
  rw [m3, c_i2l] at m1
  omega
theorem own_eq3 {mo : Int32} (h1 : 1 ≤ mo.toInt) (h2 : mo.toInt ≤ 178956970) : ¬ mo < (1 : Int32) ∧ (mo.toInt64 * (12 : Int32).toInt64).toInt32.toInt64 = mo.toInt64 * (12 : Int32).toInt64 ∧ ((mo.toInt64 * (12 : Int32).toInt64).toInt32 / (12 : Int32)).toInt64 = mo.toInt64 := by
  have ek : (12 : Int32).toInt = 12 := rfl
  have e1 : (1 : Int32).toInt = 1 := rfl
  obtain ⟨q1, q2⟩ := own_mul (x := mo) (y := (12 : Int32)) (by rw [ek]; omega) (by rw [ek]; omega)
  refine ⟨by rw [Int32.lt_iff_toInt_lt]; omega, q1, ?_⟩
  rw [ek] at q2
  have d := (c_idiv (mo.toInt64 * (12 : Int32).toInt64).toInt32 12 12 rfl (by decide)).1 (by omega)
  apply Int64.toInt_inj.mp
  rw [c_i2l, d, q2]
  rw [c_i2l]
  omega
theorem own_eq4 {mo : Int32} (h1 : 1 ≤ mo.toInt) (h2 : mo.toInt ≤ 536870911) : ¬ mo < (1 : Int32) ∧ (mo.toInt64 * (4 : Int32).toInt64).toInt32.toInt64 = mo.toInt64 * (4 : Int32).toInt64 ∧ ((mo.toInt64 * (4 : Int32).toInt64).toInt32 / (12 : Int32)).toInt64 = (mo / 3).toInt64 := by
  have ek : (4 : Int32).toInt = 4 := rfl
  have e1 : (1 : Int32).toInt = 1 := rfl
  obtain ⟨q1, q2⟩ := own_mul (x := mo) (y := (4 : Int32)) (by rw [ek]; omega) (by rw [ek]; omega)
  refine ⟨by rw [Int32.lt_iff_toInt_lt]; omega, q1, ?_⟩
  rw [ek] at q2
  have d := (c_idiv (mo.toInt64 * (4 : Int32).toInt64).toInt32 12 12 rfl (by decide)).1 (by omega)
  apply Int64.toInt_inj.mp
  rw [c_i2l, d, q2]
  rw [c_i2l, (c_idiv mo 3 3 rfl (by decide)).1 (by omega)]
  omega
theorem own_pn1 : plainName "com/example/vestloan/vestloan/FrequencyPaymentsInPinLaw" = true := by first | (simp [plainName, overriddenIn]; done) | decide +kernel
theorem own_pd1 : parseMethodDescriptor "(I)I" = some ⟨[.int], some .int⟩ := by decide +kernel
theorem own_ef3 (m : MethodId) (x0 : Int32) (x1 : Int32)  : entryFrame m #[(.int x0), (.int x1)] maxLocals = mkF m 0 #[.val (.int x0), .val (.int x1), .unset, .unset, .unset, .unset, .unset, .unset] [] := by first | (simp [entryFrame, mkF, argsToLocals, Value.category, maxLocals]; done) | rfl
abbrev own_Q3 (Z : State) (x1 : Int32) (x2 : Int32) (fq0 : Addr) (fq1 : Addr) (fq2 : Addr) (fq3 : Addr) (fq4 : Addr) (h0 : Heap) (n0 : Nat) (v : Option Value) (h : Heap) (L : List Loc) : Prop := v = some (.int (1 : Int32)) ∧ Fr n0 L ∧ True
set_option maxRecDepth 65536 in
set_option maxHeartbeats 40000000 in
theorem own_m3 (l : Launch) (Z : State) (a0 : Array Value) (hw : ∀ d ∈ tables_1, d.before a0 Z = true) (ws : List Jvm.Cond) (x1 : Int32) (x2 : Int32) (fq0 : Addr) (fq1 : Addr) (fq2 : Addr) (fq3 : Addr) (fq4 : Addr) (h0 : Heap) (n0 : Nat) (O0 : Old Z n0 h0) (O_1 : Sta Z Z.heap "com/example/vestloan/vestloan/Frequency" "WEEKLY" "Lcom/example/vestloan/vestloan/Frequency;" (.ref fq0)) (O_2 : Exa Z Z.heap fq0 "com/example/vestloan/vestloan/Frequency") (O_3 : Fld Z Z.heap fq0 "com/example/vestloan/vestloan/Frequency" "paymentsPerYear" "I" (.int (52 : Int32))) (O_4 : Sta Z Z.heap "com/example/vestloan/vestloan/Frequency" "BIWEEKLY" "Lcom/example/vestloan/vestloan/Frequency;" (.ref fq1)) (O_5 : Exa Z Z.heap fq1 "com/example/vestloan/vestloan/Frequency") (O_6 : Fld Z Z.heap fq1 "com/example/vestloan/vestloan/Frequency" "paymentsPerYear" "I" (.int (26 : Int32))) (O_7 : Sta Z Z.heap "com/example/vestloan/vestloan/Frequency" "SEMIMONTHLY" "Lcom/example/vestloan/vestloan/Frequency;" (.ref fq2)) (O_8 : Exa Z Z.heap fq2 "com/example/vestloan/vestloan/Frequency") (O_9 : Fld Z Z.heap fq2 "com/example/vestloan/vestloan/Frequency" "paymentsPerYear" "I" (.int (24 : Int32))) (O_10 : Sta Z Z.heap "com/example/vestloan/vestloan/Frequency" "MONTHLY" "Lcom/example/vestloan/vestloan/Frequency;" (.ref fq3)) (O_11 : Exa Z Z.heap fq3 "com/example/vestloan/vestloan/Frequency") (O_12 : Fld Z Z.heap fq3 "com/example/vestloan/vestloan/Frequency" "paymentsPerYear" "I" (.int (12 : Int32))) (O_13 : Sta Z Z.heap "com/example/vestloan/vestloan/Frequency" "QUARTERLY" "Lcom/example/vestloan/vestloan/Frequency;" (.ref fq4)) (O_14 : Exa Z Z.heap fq4 "com/example/vestloan/vestloan/Frequency") (O_15 : Fld Z Z.heap fq4 "com/example/vestloan/vestloan/Frequency" "paymentsPerYear" "I" (.int (4 : Int32))) :
    Ctr l Z x code maxLocals ret room_1 #[(.int x1), (.int x2)] h0 (own_Q3 Z x1 x2 fq0 fq1 fq2 fq3 fq4 h0 n0) ws := by
  refine MetFree.of_bodySF (plainFor_of_name own_pn1) hisR ?_
  intro p e s m args below meth c s₁ Bd hml0 hP hK
  obtain ⟨rfl, hZ, hh⟩ := hP
  have hx := Bd.exec
  have hby := Bd.bytes
  have hlk : meth.locks = false := Bd.notSynchronized
  have hml : c.maxLocals = 8 := hml0
  have hown : s.vm.findClass "com/example/vestloan/vestloan/FrequencyPaymentsInPinLaw" = some m.cls := findClass_of_methodNamed Bd.named
  have hnm := (name_of_methodNamed Bd.named Bd.method).1
  have X0 : Stand p l e room_1 s m #[(.int x1), (.int x2)] below meth c s₁ [] 0 0 := Stand.of_body Bd
  have e0 : s₁.heap = h0 := by rw [← hh, Bd.state]; rfl
  have N0 := Fr.nil n0
  show Goes p.tables e below (fun t o => ∃ v L, o = .returned v ∧ (own_Q3 Z x1 x2 fq0 fq1 fq2 fq3 fq4 h0 n0) v t.heap L ∧ FrameEnd s o t L (room_1).cells (room_1).slots) _
  refine Goes.via (B := s₁.setTop (mkF m 0 #[.val (.int x1), .val (.int x2), .unset, .unset, .unset, .unset, .unset, .unset] [])) (fun t k => castTop (own_ef3 m x1 x2) k) ?_
  refine Goes.via (B := s₁.setTop (mkF m 1 #[.val (.int x1), .val (.int x2), .unset, .unset, .unset, .unset, .unset, .unset] [(.int x1)])) (fun t k => XS.iloadN X0.here hx rfl (hb hby at_0) rfl k) ?_
  refine Goes.via (B := s₁.setTop (mkF m 3 #[.val (.int x1), .val (.int x2), .unset, .unset, .unset, .unset, .unset, .unset] [(.int (2147483647 : Int32)), (.int x1)])) (fun t k => X0.ldcI hx hown (mvT hZ (hw _ (List.mem_of_getElem? (i := 0) rfl))) rfl (hb hby at_1) k) ?_
  refine Goes.via (B := s₁.setTop (mkF m 4 #[.val (.int x1), .val (.int x2), .unset, .unset, .unset, .unset, .unset, .unset] [(.int (x1 &&& (2147483647 : Int32)))])) (fun t k => XS.iand X0.here hx rfl (hb hby at_3) rfl k) ?_
  refine Goes.via (B := s₁.setTop (mkF m 5 #[.val (.int x1), .val (.int x2), .unset, .unset, .unset, .unset, .unset, .unset] [(.int (5 : Int32)), (.int (x1 &&& (2147483647 : Int32)))])) (fun t k => XS.iconst X0.here hx rfl (hb hby at_4) k) ?_
  refine Goes.via (B := s₁.setTop (mkF m 6 #[.val (.int x1), .val (.int x2), .unset, .unset, .unset, .unset, .unset, .unset] [(.int ((x1 &&& (2147483647 : Int32)) % (5 : Int32)))])) (fun t k => iremM X0 hx rfl (hb hby at_5) rfl (by decide) k) ?_
  refine Goes.via (B := s₁.setTop (mkF m 7 #[.val (.int x1), .val (.int x2), .val (.int ((x1 &&& (2147483647 : Int32)) % (5 : Int32))), .unset, .unset, .unset, .unset, .unset] [])) (fun t k => XS.istoreN X0.here hx rfl (hb hby at_6) rfl (l' := #[.val (.int x1), .val (.int x2), .val (.int ((x1 &&& (2147483647 : Int32)) % (5 : Int32))), .unset, .unset, .unset, .unset, .unset]) rfl k) ?_
  suffices J1 : ∀ (k : Int32) (hk : k = 0 ∨ k = 1 ∨ k = 2 ∨ k = 3 ∨ k = 4), Goes p.tables e below (fun t o => ∃ v L, o = .returned v ∧ (own_Q3 Z x1 x2 fq0 fq1 fq2 fq3 fq4 h0 n0) v t.heap L ∧ FrameEnd s o t L (room_1).cells (room_1).slots) (s₁.setTop (mkF m 7 #[.val (.int x1), .val (.int x2), .val (.int k), .unset, .unset, .unset, .unset, .unset] [])) by exact J1 ((x1 &&& (2147483647 : Int32)) % (5 : Int32)) (own_k5 x1)
  intro k hk
  rcases hk with rfl | rfl | rfl | rfl | rfl
  · refine Goes.via (B := s₁.setTop (mkF m 8 #[.val (.int x1), .val (.int x2), .val (.int (0 : Int32)), .unset, .unset, .unset, .unset, .unset] [(.int (0 : Int32))])) (fun t k => XS.iloadN X0.here hx rfl (hb hby at_7) rfl k) ?_
    refine Goes.via (B := s₁.setTop (mkF m 11 #[.val (.int x1), .val (.int x2), .val (.int (0 : Int32)), .unset, .unset, .unset, .unset, .unset] [])) (fun t k => XS.ifNo X0.here hx rfl (hb hby at_8) rfl (XT.i0_ne_f rfl) k) ?_
    obtain ⟨T2, X2, e2, st2⟩ := getS2 X0 hx hZ hown (host := "") (Or.inl (hw _ (List.mem_of_getElem? (i := 1) rfl))) Via.refl e0 (Sta.ext O0.2 O_1) (g := (mkF m 11 #[.val (.int x1), .val (.int x2), .val (.int (0 : Int32)), .unset, .unset, .unset, .unset, .unset] [])) rfl (hb hby at_11)
    refine Goes.via (B := T2.setTop (mkF m 14 #[.val (.int x1), .val (.int x2), .val (.int (0 : Int32)), .unset, .unset, .unset, .unset, .unset] [(.ref fq0)])) (fun t k => st2 _ k) ?_
    refine Goes.via (B := T2.setTop (mkF m 15 #[.val (.int x1), .val (.int x2), .val (.int (0 : Int32)), .val (.ref fq0), .unset, .unset, .unset, .unset] [])) (fun t k => XS.astoreN X2.here hx rfl (hb hby at_14) rfl rfl (l' := #[.val (.int x1), .val (.int x2), .val (.int (0 : Int32)), .val (.ref fq0), .unset, .unset, .unset, .unset]) rfl k) ?_
    refine Goes.via (B := T2.setTop (mkF m 17 #[.val (.int x1), .val (.int x2), .val (.int (0 : Int32)), .val (.ref fq0), .unset, .unset, .unset, .unset] [(.int (41297762 : Int32))])) (fun t k => X2.ldcI hx hown (mvT hZ (hw _ (List.mem_of_getElem? (i := 4) rfl))) rfl (hb hby at_15) k) ?_
    refine Goes.via (B := T2.setTop (mkF m 19 #[.val (.int x1), .val (.int x2), .val (.int (0 : Int32)), .val (.ref fq0), .val (.int (41297762 : Int32)), .unset, .unset, .unset] [])) (fun t k => XS.istore X2.here hx rfl (hb hby at_17) rfl (l' := #[.val (.int x1), .val (.int x2), .val (.int (0 : Int32)), .val (.ref fq0), .val (.int (41297762 : Int32)), .unset, .unset, .unset]) rfl k) ?_
    refine Goes.via (B := T2.setTop (mkF m 78 #[.val (.int x1), .val (.int x2), .val (.int (0 : Int32)), .val (.ref fq0), .val (.int (41297762 : Int32)), .unset, .unset, .unset] [])) (fun t k => XS.goto X2.here hx rfl (pc0 := 19) (pc' := 78) rfl (hb hby at_19) (by decide) (by decide) k) ?_
    refine Goes.via (B := T2.setTop (mkF m 79 #[.val (.int x1), .val (.int x2), .val (.int (0 : Int32)), .val (.ref fq0), .val (.int (41297762 : Int32)), .unset, .unset, .unset] [(.int (1 : Int32))])) (fun t k => XS.iconst X2.here hx rfl (hb hby at_78) k) ?_
    refine Goes.via (B := T2.setTop (mkF m 80 #[.val (.int x1), .val (.int x2), .val (.int (0 : Int32)), .val (.ref fq0), .val (.int (41297762 : Int32)), .unset, .unset, .unset] [(.int x2), (.int (1 : Int32))])) (fun t k => XS.iloadN X2.here hx rfl (hb hby at_79) rfl k) ?_
    refine Goes.via (B := T2.setTop (mkF m 82 #[.val (.int x1), .val (.int x2), .val (.int (0 : Int32)), .val (.ref fq0), .val (.int (41297762 : Int32)), .unset, .unset, .unset] [(.int (2147483647 : Int32)), (.int x2), (.int (1 : Int32))])) (fun t k => X2.ldcI hx hown (mvT hZ (hw _ (List.mem_of_getElem? (i := 0) rfl))) rfl (hb hby at_80) k) ?_
    refine Goes.via (B := T2.setTop (mkF m 83 #[.val (.int x1), .val (.int x2), .val (.int (0 : Int32)), .val (.ref fq0), .val (.int (41297762 : Int32)), .unset, .unset, .unset] [(.int (x2 &&& (2147483647 : Int32))), (.int (1 : Int32))])) (fun t k => XS.iand X2.here hx rfl (hb hby at_82) rfl k) ?_
    refine Goes.via (B := T2.setTop (mkF m 85 #[.val (.int x1), .val (.int x2), .val (.int (0 : Int32)), .val (.ref fq0), .val (.int (41297762 : Int32)), .unset, .unset, .unset] [(.int (41297762 : Int32)), (.int (x2 &&& (2147483647 : Int32))), (.int (1 : Int32))])) (fun t k => XS.iload X2.here hx rfl (hb hby at_83) rfl k) ?_
    refine Goes.via (B := T2.setTop (mkF m 86 #[.val (.int x1), .val (.int x2), .val (.int (0 : Int32)), .val (.ref fq0), .val (.int (41297762 : Int32)), .unset, .unset, .unset] [(.int ((x2 &&& (2147483647 : Int32)) % (41297762 : Int32))), (.int (1 : Int32))])) (fun t k => iremM X2 hx rfl (hb hby at_85) rfl (by decide) k) ?_
    refine Goes.via (B := T2.setTop (mkF m 87 #[.val (.int x1), .val (.int x2), .val (.int (0 : Int32)), .val (.ref fq0), .val (.int (41297762 : Int32)), .unset, .unset, .unset] [(.int ((1 : Int32) + ((x2 &&& (2147483647 : Int32)) % (41297762 : Int32))))])) (fun t k => XS.iadd X2.here hx rfl (hb hby at_86) rfl k) ?_
    refine Goes.via (B := T2.setTop (mkF m 89 #[.val (.int x1), .val (.int x2), .val (.int (0 : Int32)), .val (.ref fq0), .val (.int (41297762 : Int32)), .val (.int ((1 : Int32) + ((x2 &&& (2147483647 : Int32)) % (41297762 : Int32)))), .unset, .unset] [])) (fun t k => XS.istore X2.here hx rfl (hb hby at_87) rfl (l' := #[.val (.int x1), .val (.int x2), .val (.int (0 : Int32)), .val (.ref fq0), .val (.int (41297762 : Int32)), .val (.int ((1 : Int32) + ((x2 &&& (2147483647 : Int32)) % (41297762 : Int32)))), .unset, .unset]) rfl k) ?_
    suffices J3 : ∀ (mo : Int32) (hm : 1 ≤ mo.toInt ∧ mo.toInt ≤ 41297762), Goes p.tables e below (fun t o => ∃ v L, o = .returned v ∧ (own_Q3 Z x1 x2 fq0 fq1 fq2 fq3 fq4 h0 n0) v t.heap L ∧ FrameEnd s o t L (room_1).cells (room_1).slots) (T2.setTop (mkF m 89 #[.val (.int x1), .val (.int x2), .val (.int (0 : Int32)), .val (.ref fq0), .val (.int (41297762 : Int32)), .val (.int mo), .unset, .unset] [])) by exact J3 ((1 : Int32) + ((x2 &&& (2147483647 : Int32)) % (41297762 : Int32))) (own_mon x2 41297762 41297762 rfl (by decide) (by decide))
    intro mo hm
    obtain ⟨z1, z2, z3⟩ := own_eq0 hm.1 hm.2
    refine Goes.via (B := T2.setTop (mkF m 90 #[.val (.int x1), .val (.int x2), .val (.int (0 : Int32)), .val (.ref fq0), .val (.int (41297762 : Int32)), .val (.int mo), .unset, .unset] [(.int (0 : Int32))])) (fun t k => XS.iloadN X2.here hx rfl (hb hby at_89) rfl k) ?_
    refine Goes.via (B := T2.setTop (mkF m 93 #[.val (.int x1), .val (.int x2), .val (.int (0 : Int32)), .val (.ref fq0), .val (.int (41297762 : Int32)), .val (.int mo), .unset, .unset] [])) (fun t k => XS.ifNo X2.here hx rfl (hb hby at_90) rfl (XT.i0_ne_f rfl) k) ?_
    refine Goes.via (B := T2.setTop (mkF m 96 #[.val (.int x1), .val (.int x2), .val (.int (0 : Int32)), .val (.ref fq0), .val (.int (41297762 : Int32)), .val (.int mo), .unset, .unset] [(.long (13 : Int64))])) (fun t k => X2.ldc2J hx hown (mvT hZ (hw _ (List.mem_of_getElem? (i := 5) rfl))) rfl (hb hby at_93) k) ?_
    refine Goes.via (B := T2.setTop (mkF m 98 #[.val (.int x1), .val (.int x2), .val (.int (0 : Int32)), .val (.ref fq0), .val (.int (41297762 : Int32)), .val (.int mo), .unset, .unset] [(.int mo), (.long (13 : Int64))])) (fun t k => XS.iload X2.here hx rfl (hb hby at_96) rfl k) ?_
    refine Goes.via (B := T2.setTop (mkF m 99 #[.val (.int x1), .val (.int x2), .val (.int (0 : Int32)), .val (.ref fq0), .val (.int (41297762 : Int32)), .val (.int mo), .unset, .unset] [(.long (mo.toInt64)), (.long (13 : Int64))])) (fun t k => XS.i2l X2.here hx rfl (hb hby at_98) rfl k) ?_
    refine Goes.via (B := T2.setTop (mkF m 100 #[.val (.int x1), .val (.int x2), .val (.int (0 : Int32)), .val (.ref fq0), .val (.int (41297762 : Int32)), .val (.int mo), .unset, .unset] [(.long ((13 : Int64) * (mo.toInt64)))])) (fun t k => XS.lmul X2.here hx rfl (hb hby at_99) rfl k) ?_
    refine Goes.via (B := T2.setTop (mkF m 103 #[.val (.int x1), .val (.int x2), .val (.int (0 : Int32)), .val (.ref fq0), .val (.int (41297762 : Int32)), .val (.int mo), .unset, .unset] [(.long (3 : Int64)), (.long ((13 : Int64) * (mo.toInt64)))])) (fun t k => X2.ldc2J hx hown (mvT hZ (hw _ (List.mem_of_getElem? (i := 6) rfl))) rfl (hb hby at_100) k) ?_
    refine Goes.via (B := T2.setTop (mkF m 104 #[.val (.int x1), .val (.int x2), .val (.int (0 : Int32)), .val (.ref fq0), .val (.int (41297762 : Int32)), .val (.int mo), .unset, .unset] [(.long (((13 : Int64) * (mo.toInt64)) / (3 : Int64)))])) (fun t k => XS.ldiv X2.here hx rfl (hb hby at_103) rfl (by decide) k) ?_
    refine Goes.via (B := T2.setTop (mkF m 106 #[.val (.int x1), .val (.int x2), .val (.int (0 : Int32)), .val (.ref fq0), .val (.int (41297762 : Int32)), .val (.int mo), .val (.long (((13 : Int64) * (mo.toInt64)) / (3 : Int64))), .second] [])) (fun t k => XS.lstore X2.here hx rfl (hb hby at_104) rfl (l' := #[.val (.int x1), .val (.int x2), .val (.int (0 : Int32)), .val (.ref fq0), .val (.int (41297762 : Int32)), .val (.int mo), .val (.long (((13 : Int64) * (mo.toInt64)) / (3 : Int64))), .second]) rfl k) ?_
    refine Goes.via (B := T2.setTop (mkF m 167 #[.val (.int x1), .val (.int x2), .val (.int (0 : Int32)), .val (.ref fq0), .val (.int (41297762 : Int32)), .val (.int mo), .val (.long (((13 : Int64) * (mo.toInt64)) / (3 : Int64))), .second] [])) (fun t k => XS.goto X2.here hx rfl (pc0 := 106) (pc' := 167) rfl (hb hby at_106) (by decide) (by decide) k) ?_
    refine Goes.via (B := T2.setTop (mkF m 168 #[.val (.int x1), .val (.int x2), .val (.int (0 : Int32)), .val (.ref fq0), .val (.int (41297762 : Int32)), .val (.int mo), .val (.long (((13 : Int64) * (mo.toInt64)) / (3 : Int64))), .second] [(.ref fq0)])) (fun t k => XS.aloadN X2.here hx rfl (hb hby at_167) rfl rfl k) ?_
    refine Goes.via (B := T2.setTop (mkF m 170 #[.val (.int x1), .val (.int x2), .val (.int (0 : Int32)), .val (.ref fq0), .val (.int (41297762 : Int32)), .val (.int mo), .val (.long (((13 : Int64) * (mo.toInt64)) / (3 : Int64))), .second] [(.int mo), (.ref fq0)])) (fun t k => XS.iload X2.here hx rfl (hb hby at_168) rfl k) ?_
    obtain ⟨_, T4, L4, X4, ⟨rfl, M4, K4⟩, st4⟩ := callVirt X2 hx hZ hown (hw _ (List.mem_of_getElem? (i := 7) rfl)) (hw _ (List.mem_of_getElem? (i := 8) rfl)) (hw _ (List.mem_of_getElem? (i := 10) rfl)) (notFace_of_selects (args := #[]) (mvT hZ (hw _ (List.mem_of_getElem? (i := 10) rfl)))) (hw _ (List.mem_of_getElem? (i := 9) rfl)) (hw _ (List.mem_of_getElem? (i := 2) rfl)) (hw _ (List.mem_of_getElem? (i := 11) rfl)) (by decide) (argsL := [(.int mo)]) (rest := []) (own_m2 l Z a0 hw [] fq0 mo (52 : Int32) h0 n0 O0 z1 z2 O_3) e2 (O_2.ext O0.2) (lenOf own_pd1 rfl) (pc := 170) (Ls := #[.val (.int x1), .val (.int x2), .val (.int (0 : Int32)), .val (.ref fq0), .val (.int (41297762 : Int32)), .val (.int mo), .val (.long (((13 : Int64) * (mo.toInt64)) / (3 : Int64))), .second]) (st := [(.int mo), (.ref fq0)]) rfl (by rw [hml]; rfl) (hb hby at_170) (W := 0) (Nat.le_of_eq rfl) (by decide) (by decide) (by decide) (by decide)
    have N4 := Fr.app N0 M4
    refine Goes.via (B := T4.setTop (mkF m 173 #[.val (.int x1), .val (.int x2), .val (.int (0 : Int32)), .val (.ref fq0), .val (.int (41297762 : Int32)), .val (.int mo), .val (.long (((13 : Int64) * (mo.toInt64)) / (3 : Int64))), .second] [(.int ((mo.toInt64 * (52 : Int32).toInt64).toInt32 / (12 : Int32)))])) (fun t k => st4 _ k) ?_
    refine Goes.via (B := T4.setTop (mkF m 174 #[.val (.int x1), .val (.int x2), .val (.int (0 : Int32)), .val (.ref fq0), .val (.int (41297762 : Int32)), .val (.int mo), .val (.long (((13 : Int64) * (mo.toInt64)) / (3 : Int64))), .second] [(.long (((mo.toInt64 * (52 : Int32).toInt64).toInt32 / (12 : Int32)).toInt64))])) (fun t k => XS.i2l X4.here hx rfl (hb hby at_173) rfl k) ?_
    refine Goes.via (B := T4.setTop (mkF m 176 #[.val (.int x1), .val (.int x2), .val (.int (0 : Int32)), .val (.ref fq0), .val (.int (41297762 : Int32)), .val (.int mo), .val (.long (((13 : Int64) * (mo.toInt64)) / (3 : Int64))), .second] [(.long (((13 : Int64) * (mo.toInt64)) / (3 : Int64))), (.long (((mo.toInt64 * (52 : Int32).toInt64).toInt32 / (12 : Int32)).toInt64))])) (fun t k => XS.lload X4.here hx rfl (hb hby at_174) rfl k) ?_
    refine Goes.via (B := T4.setTop (mkF m 177 #[.val (.int x1), .val (.int x2), .val (.int (0 : Int32)), .val (.ref fq0), .val (.int (41297762 : Int32)), .val (.int mo), .val (.long (((13 : Int64) * (mo.toInt64)) / (3 : Int64))), .second] [(.int (XT.cmpL (((mo.toInt64 * (52 : Int32).toInt64).toInt32 / (12 : Int32)).toInt64) (((13 : Int64) * (mo.toInt64)) / (3 : Int64))))])) (fun t k => XT.lcmp X4.here hx rfl (hb hby at_176) rfl k) ?_
    refine Goes.via (B := T4.setTop (mkF m 180 #[.val (.int x1), .val (.int x2), .val (.int (0 : Int32)), .val (.ref fq0), .val (.int (41297762 : Int32)), .val (.int mo), .val (.long (((13 : Int64) * (mo.toInt64)) / (3 : Int64))), .second] [])) (fun t k => XS.ifNo X4.here hx rfl (hb hby at_177) rfl (XT.ll_ne_f z3) k) ?_
    refine Goes.via (B := T4.setTop (mkF m 181 #[.val (.int x1), .val (.int x2), .val (.int (0 : Int32)), .val (.ref fq0), .val (.int (41297762 : Int32)), .val (.int mo), .val (.long (((13 : Int64) * (mo.toInt64)) / (3 : Int64))), .second] [(.int (1 : Int32))])) (fun t k => XS.iconst X4.here hx rfl (hb hby at_180) k) ?_
    refine Goes.via (B := T4.setTop (mkF m 185 #[.val (.int x1), .val (.int x2), .val (.int (0 : Int32)), .val (.ref fq0), .val (.int (41297762 : Int32)), .val (.int mo), .val (.long (((13 : Int64) * (mo.toInt64)) / (3 : Int64))), .second] [(.int (1 : Int32))])) (fun t k => XS.goto X4.here hx rfl (pc0 := 181) (pc' := 185) rfl (hb hby at_181) (by decide) (by decide) k) ?_
    exact finN (Q := (own_Q3 Z x1 x2 fq0 fq1 fq2 fq3 fq4 h0 n0)) (F := FrameEnd) (C := (room_1).cells) (S := (room_1).slots) X4 hx (t := .boolean) Bd.returns (by simp) (z' := (1 : Int32)) rfl (hb hby at_185) K4 ⟨rfl, N4, trivial⟩ (lvN X4 hlk (by decide) (by decide))
  · refine Goes.via (B := s₁.setTop (mkF m 8 #[.val (.int x1), .val (.int x2), .val (.int (1 : Int32)), .unset, .unset, .unset, .unset, .unset] [(.int (1 : Int32))])) (fun t k => XS.iloadN X0.here hx rfl (hb hby at_7) rfl k) ?_
    refine Goes.via (B := s₁.setTop (mkF m 22 #[.val (.int x1), .val (.int x2), .val (.int (1 : Int32)), .unset, .unset, .unset, .unset, .unset] [])) (fun t k => XS.ifYes X0.here hx rfl (pc0 := 8) (pc' := 22) rfl (hb hby at_8) rfl (XT.i0_ne_t (by decide)) (by decide) (by decide) k) ?_
    refine Goes.via (B := s₁.setTop (mkF m 23 #[.val (.int x1), .val (.int x2), .val (.int (1 : Int32)), .unset, .unset, .unset, .unset, .unset] [(.int (1 : Int32))])) (fun t k => XS.iloadN X0.here hx rfl (hb hby at_22) rfl k) ?_
    refine Goes.via (B := s₁.setTop (mkF m 24 #[.val (.int x1), .val (.int x2), .val (.int (1 : Int32)), .unset, .unset, .unset, .unset, .unset] [(.int (1 : Int32)), (.int (1 : Int32))])) (fun t k => XS.iconst X0.here hx rfl (hb hby at_23) k) ?_
    refine Goes.via (B := s₁.setTop (mkF m 27 #[.val (.int x1), .val (.int x2), .val (.int (1 : Int32)), .unset, .unset, .unset, .unset, .unset] [])) (fun t k => XS.icmpNo X0.here hx rfl (hb hby at_24) rfl (XT.ii_ne_f rfl) k) ?_
    obtain ⟨T5, X5, e5, st5⟩ := getS2 X0 hx hZ hown (host := "") (Or.inl (hw _ (List.mem_of_getElem? (i := 24) rfl))) Via.refl e0 (Sta.ext O0.2 O_4) (g := (mkF m 27 #[.val (.int x1), .val (.int x2), .val (.int (1 : Int32)), .unset, .unset, .unset, .unset, .unset] [])) rfl (hb hby at_27)
    refine Goes.via (B := T5.setTop (mkF m 30 #[.val (.int x1), .val (.int x2), .val (.int (1 : Int32)), .unset, .unset, .unset, .unset, .unset] [(.ref fq1)])) (fun t k => st5 _ k) ?_
    refine Goes.via (B := T5.setTop (mkF m 31 #[.val (.int x1), .val (.int x2), .val (.int (1 : Int32)), .val (.ref fq1), .unset, .unset, .unset, .unset] [])) (fun t k => XS.astoreN X5.here hx rfl (hb hby at_30) rfl rfl (l' := #[.val (.int x1), .val (.int x2), .val (.int (1 : Int32)), .val (.ref fq1), .unset, .unset, .unset, .unset]) rfl k) ?_
    refine Goes.via (B := T5.setTop (mkF m 33 #[.val (.int x1), .val (.int x2), .val (.int (1 : Int32)), .val (.ref fq1), .unset, .unset, .unset, .unset] [(.int (82595524 : Int32))])) (fun t k => X5.ldcI hx hown (mvT hZ (hw _ (List.mem_of_getElem? (i := 26) rfl))) rfl (hb hby at_31) k) ?_
    refine Goes.via (B := T5.setTop (mkF m 35 #[.val (.int x1), .val (.int x2), .val (.int (1 : Int32)), .val (.ref fq1), .val (.int (82595524 : Int32)), .unset, .unset, .unset] [])) (fun t k => XS.istore X5.here hx rfl (hb hby at_33) rfl (l' := #[.val (.int x1), .val (.int x2), .val (.int (1 : Int32)), .val (.ref fq1), .val (.int (82595524 : Int32)), .unset, .unset, .unset]) rfl k) ?_
    refine Goes.via (B := T5.setTop (mkF m 78 #[.val (.int x1), .val (.int x2), .val (.int (1 : Int32)), .val (.ref fq1), .val (.int (82595524 : Int32)), .unset, .unset, .unset] [])) (fun t k => XS.goto X5.here hx rfl (pc0 := 35) (pc' := 78) rfl (hb hby at_35) (by decide) (by decide) k) ?_
    refine Goes.via (B := T5.setTop (mkF m 79 #[.val (.int x1), .val (.int x2), .val (.int (1 : Int32)), .val (.ref fq1), .val (.int (82595524 : Int32)), .unset, .unset, .unset] [(.int (1 : Int32))])) (fun t k => XS.iconst X5.here hx rfl (hb hby at_78) k) ?_
    refine Goes.via (B := T5.setTop (mkF m 80 #[.val (.int x1), .val (.int x2), .val (.int (1 : Int32)), .val (.ref fq1), .val (.int (82595524 : Int32)), .unset, .unset, .unset] [(.int x2), (.int (1 : Int32))])) (fun t k => XS.iloadN X5.here hx rfl (hb hby at_79) rfl k) ?_
    refine Goes.via (B := T5.setTop (mkF m 82 #[.val (.int x1), .val (.int x2), .val (.int (1 : Int32)), .val (.ref fq1), .val (.int (82595524 : Int32)), .unset, .unset, .unset] [(.int (2147483647 : Int32)), (.int x2), (.int (1 : Int32))])) (fun t k => X5.ldcI hx hown (mvT hZ (hw _ (List.mem_of_getElem? (i := 0) rfl))) rfl (hb hby at_80) k) ?_
    refine Goes.via (B := T5.setTop (mkF m 83 #[.val (.int x1), .val (.int x2), .val (.int (1 : Int32)), .val (.ref fq1), .val (.int (82595524 : Int32)), .unset, .unset, .unset] [(.int (x2 &&& (2147483647 : Int32))), (.int (1 : Int32))])) (fun t k => XS.iand X5.here hx rfl (hb hby at_82) rfl k) ?_
    refine Goes.via (B := T5.setTop (mkF m 85 #[.val (.int x1), .val (.int x2), .val (.int (1 : Int32)), .val (.ref fq1), .val (.int (82595524 : Int32)), .unset, .unset, .unset] [(.int (82595524 : Int32)), (.int (x2 &&& (2147483647 : Int32))), (.int (1 : Int32))])) (fun t k => XS.iload X5.here hx rfl (hb hby at_83) rfl k) ?_
    refine Goes.via (B := T5.setTop (mkF m 86 #[.val (.int x1), .val (.int x2), .val (.int (1 : Int32)), .val (.ref fq1), .val (.int (82595524 : Int32)), .unset, .unset, .unset] [(.int ((x2 &&& (2147483647 : Int32)) % (82595524 : Int32))), (.int (1 : Int32))])) (fun t k => iremM X5 hx rfl (hb hby at_85) rfl (by decide) k) ?_
    refine Goes.via (B := T5.setTop (mkF m 87 #[.val (.int x1), .val (.int x2), .val (.int (1 : Int32)), .val (.ref fq1), .val (.int (82595524 : Int32)), .unset, .unset, .unset] [(.int ((1 : Int32) + ((x2 &&& (2147483647 : Int32)) % (82595524 : Int32))))])) (fun t k => XS.iadd X5.here hx rfl (hb hby at_86) rfl k) ?_
    refine Goes.via (B := T5.setTop (mkF m 89 #[.val (.int x1), .val (.int x2), .val (.int (1 : Int32)), .val (.ref fq1), .val (.int (82595524 : Int32)), .val (.int ((1 : Int32) + ((x2 &&& (2147483647 : Int32)) % (82595524 : Int32)))), .unset, .unset] [])) (fun t k => XS.istore X5.here hx rfl (hb hby at_87) rfl (l' := #[.val (.int x1), .val (.int x2), .val (.int (1 : Int32)), .val (.ref fq1), .val (.int (82595524 : Int32)), .val (.int ((1 : Int32) + ((x2 &&& (2147483647 : Int32)) % (82595524 : Int32)))), .unset, .unset]) rfl k) ?_
    suffices J6 : ∀ (mo : Int32) (hm : 1 ≤ mo.toInt ∧ mo.toInt ≤ 82595524), Goes p.tables e below (fun t o => ∃ v L, o = .returned v ∧ (own_Q3 Z x1 x2 fq0 fq1 fq2 fq3 fq4 h0 n0) v t.heap L ∧ FrameEnd s o t L (room_1).cells (room_1).slots) (T5.setTop (mkF m 89 #[.val (.int x1), .val (.int x2), .val (.int (1 : Int32)), .val (.ref fq1), .val (.int (82595524 : Int32)), .val (.int mo), .unset, .unset] [])) by exact J6 ((1 : Int32) + ((x2 &&& (2147483647 : Int32)) % (82595524 : Int32))) (own_mon x2 82595524 82595524 rfl (by decide) (by decide))
    intro mo hm
    obtain ⟨z1, z2, z3⟩ := own_eq1 hm.1 hm.2
    refine Goes.via (B := T5.setTop (mkF m 90 #[.val (.int x1), .val (.int x2), .val (.int (1 : Int32)), .val (.ref fq1), .val (.int (82595524 : Int32)), .val (.int mo), .unset, .unset] [(.int (1 : Int32))])) (fun t k => XS.iloadN X5.here hx rfl (hb hby at_89) rfl k) ?_
    refine Goes.via (B := T5.setTop (mkF m 109 #[.val (.int x1), .val (.int x2), .val (.int (1 : Int32)), .val (.ref fq1), .val (.int (82595524 : Int32)), .val (.int mo), .unset, .unset] [])) (fun t k => XS.ifYes X5.here hx rfl (pc0 := 90) (pc' := 109) rfl (hb hby at_90) rfl (XT.i0_ne_t (by decide)) (by decide) (by decide) k) ?_
    refine Goes.via (B := T5.setTop (mkF m 110 #[.val (.int x1), .val (.int x2), .val (.int (1 : Int32)), .val (.ref fq1), .val (.int (82595524 : Int32)), .val (.int mo), .unset, .unset] [(.int (1 : Int32))])) (fun t k => XS.iloadN X5.here hx rfl (hb hby at_109) rfl k) ?_
    refine Goes.via (B := T5.setTop (mkF m 111 #[.val (.int x1), .val (.int x2), .val (.int (1 : Int32)), .val (.ref fq1), .val (.int (82595524 : Int32)), .val (.int mo), .unset, .unset] [(.int (1 : Int32)), (.int (1 : Int32))])) (fun t k => XS.iconst X5.here hx rfl (hb hby at_110) k) ?_
    refine Goes.via (B := T5.setTop (mkF m 114 #[.val (.int x1), .val (.int x2), .val (.int (1 : Int32)), .val (.ref fq1), .val (.int (82595524 : Int32)), .val (.int mo), .unset, .unset] [])) (fun t k => XS.icmpNo X5.here hx rfl (hb hby at_111) rfl (XT.ii_ne_f rfl) k) ?_
    refine Goes.via (B := T5.setTop (mkF m 117 #[.val (.int x1), .val (.int x2), .val (.int (1 : Int32)), .val (.ref fq1), .val (.int (82595524 : Int32)), .val (.int mo), .unset, .unset] [(.long (13 : Int64))])) (fun t k => X5.ldc2J hx hown (mvT hZ (hw _ (List.mem_of_getElem? (i := 5) rfl))) rfl (hb hby at_114) k) ?_
    refine Goes.via (B := T5.setTop (mkF m 119 #[.val (.int x1), .val (.int x2), .val (.int (1 : Int32)), .val (.ref fq1), .val (.int (82595524 : Int32)), .val (.int mo), .unset, .unset] [(.int mo), (.long (13 : Int64))])) (fun t k => XS.iload X5.here hx rfl (hb hby at_117) rfl k) ?_
    refine Goes.via (B := T5.setTop (mkF m 120 #[.val (.int x1), .val (.int x2), .val (.int (1 : Int32)), .val (.ref fq1), .val (.int (82595524 : Int32)), .val (.int mo), .unset, .unset] [(.long (mo.toInt64)), (.long (13 : Int64))])) (fun t k => XS.i2l X5.here hx rfl (hb hby at_119) rfl k) ?_
    refine Goes.via (B := T5.setTop (mkF m 121 #[.val (.int x1), .val (.int x2), .val (.int (1 : Int32)), .val (.ref fq1), .val (.int (82595524 : Int32)), .val (.int mo), .unset, .unset] [(.long ((13 : Int64) * (mo.toInt64)))])) (fun t k => XS.lmul X5.here hx rfl (hb hby at_120) rfl k) ?_
    refine Goes.via (B := T5.setTop (mkF m 124 #[.val (.int x1), .val (.int x2), .val (.int (1 : Int32)), .val (.ref fq1), .val (.int (82595524 : Int32)), .val (.int mo), .unset, .unset] [(.long (6 : Int64)), (.long ((13 : Int64) * (mo.toInt64)))])) (fun t k => X5.ldc2J hx hown (mvT hZ (hw _ (List.mem_of_getElem? (i := 27) rfl))) rfl (hb hby at_121) k) ?_
    refine Goes.via (B := T5.setTop (mkF m 125 #[.val (.int x1), .val (.int x2), .val (.int (1 : Int32)), .val (.ref fq1), .val (.int (82595524 : Int32)), .val (.int mo), .unset, .unset] [(.long (((13 : Int64) * (mo.toInt64)) / (6 : Int64)))])) (fun t k => XS.ldiv X5.here hx rfl (hb hby at_124) rfl (by decide) k) ?_
    refine Goes.via (B := T5.setTop (mkF m 127 #[.val (.int x1), .val (.int x2), .val (.int (1 : Int32)), .val (.ref fq1), .val (.int (82595524 : Int32)), .val (.int mo), .val (.long (((13 : Int64) * (mo.toInt64)) / (6 : Int64))), .second] [])) (fun t k => XS.lstore X5.here hx rfl (hb hby at_125) rfl (l' := #[.val (.int x1), .val (.int x2), .val (.int (1 : Int32)), .val (.ref fq1), .val (.int (82595524 : Int32)), .val (.int mo), .val (.long (((13 : Int64) * (mo.toInt64)) / (6 : Int64))), .second]) rfl k) ?_
    refine Goes.via (B := T5.setTop (mkF m 167 #[.val (.int x1), .val (.int x2), .val (.int (1 : Int32)), .val (.ref fq1), .val (.int (82595524 : Int32)), .val (.int mo), .val (.long (((13 : Int64) * (mo.toInt64)) / (6 : Int64))), .second] [])) (fun t k => XS.goto X5.here hx rfl (pc0 := 127) (pc' := 167) rfl (hb hby at_127) (by decide) (by decide) k) ?_
    refine Goes.via (B := T5.setTop (mkF m 168 #[.val (.int x1), .val (.int x2), .val (.int (1 : Int32)), .val (.ref fq1), .val (.int (82595524 : Int32)), .val (.int mo), .val (.long (((13 : Int64) * (mo.toInt64)) / (6 : Int64))), .second] [(.ref fq1)])) (fun t k => XS.aloadN X5.here hx rfl (hb hby at_167) rfl rfl k) ?_
    refine Goes.via (B := T5.setTop (mkF m 170 #[.val (.int x1), .val (.int x2), .val (.int (1 : Int32)), .val (.ref fq1), .val (.int (82595524 : Int32)), .val (.int mo), .val (.long (((13 : Int64) * (mo.toInt64)) / (6 : Int64))), .second] [(.int mo), (.ref fq1)])) (fun t k => XS.iload X5.here hx rfl (hb hby at_168) rfl k) ?_
    obtain ⟨_, T7, L7, X7, ⟨rfl, M7, K7⟩, st7⟩ := callVirt X5 hx hZ hown (hw _ (List.mem_of_getElem? (i := 7) rfl)) (hw _ (List.mem_of_getElem? (i := 8) rfl)) (hw _ (List.mem_of_getElem? (i := 10) rfl)) (notFace_of_selects (args := #[]) (mvT hZ (hw _ (List.mem_of_getElem? (i := 10) rfl)))) (hw _ (List.mem_of_getElem? (i := 9) rfl)) (hw _ (List.mem_of_getElem? (i := 2) rfl)) (hw _ (List.mem_of_getElem? (i := 11) rfl)) (by decide) (argsL := [(.int mo)]) (rest := []) (own_m2 l Z a0 hw [] fq1 mo (26 : Int32) h0 n0 O0 z1 z2 O_6) e5 (O_5.ext O0.2) (lenOf own_pd1 rfl) (pc := 170) (Ls := #[.val (.int x1), .val (.int x2), .val (.int (1 : Int32)), .val (.ref fq1), .val (.int (82595524 : Int32)), .val (.int mo), .val (.long (((13 : Int64) * (mo.toInt64)) / (6 : Int64))), .second]) (st := [(.int mo), (.ref fq1)]) rfl (by rw [hml]; rfl) (hb hby at_170) (W := 0) (Nat.le_of_eq rfl) (by decide) (by decide) (by decide) (by decide)
    have N7 := Fr.app N0 M7
    refine Goes.via (B := T7.setTop (mkF m 173 #[.val (.int x1), .val (.int x2), .val (.int (1 : Int32)), .val (.ref fq1), .val (.int (82595524 : Int32)), .val (.int mo), .val (.long (((13 : Int64) * (mo.toInt64)) / (6 : Int64))), .second] [(.int ((mo.toInt64 * (26 : Int32).toInt64).toInt32 / (12 : Int32)))])) (fun t k => st7 _ k) ?_
    refine Goes.via (B := T7.setTop (mkF m 174 #[.val (.int x1), .val (.int x2), .val (.int (1 : Int32)), .val (.ref fq1), .val (.int (82595524 : Int32)), .val (.int mo), .val (.long (((13 : Int64) * (mo.toInt64)) / (6 : Int64))), .second] [(.long (((mo.toInt64 * (26 : Int32).toInt64).toInt32 / (12 : Int32)).toInt64))])) (fun t k => XS.i2l X7.here hx rfl (hb hby at_173) rfl k) ?_
    refine Goes.via (B := T7.setTop (mkF m 176 #[.val (.int x1), .val (.int x2), .val (.int (1 : Int32)), .val (.ref fq1), .val (.int (82595524 : Int32)), .val (.int mo), .val (.long (((13 : Int64) * (mo.toInt64)) / (6 : Int64))), .second] [(.long (((13 : Int64) * (mo.toInt64)) / (6 : Int64))), (.long (((mo.toInt64 * (26 : Int32).toInt64).toInt32 / (12 : Int32)).toInt64))])) (fun t k => XS.lload X7.here hx rfl (hb hby at_174) rfl k) ?_
    refine Goes.via (B := T7.setTop (mkF m 177 #[.val (.int x1), .val (.int x2), .val (.int (1 : Int32)), .val (.ref fq1), .val (.int (82595524 : Int32)), .val (.int mo), .val (.long (((13 : Int64) * (mo.toInt64)) / (6 : Int64))), .second] [(.int (XT.cmpL (((mo.toInt64 * (26 : Int32).toInt64).toInt32 / (12 : Int32)).toInt64) (((13 : Int64) * (mo.toInt64)) / (6 : Int64))))])) (fun t k => XT.lcmp X7.here hx rfl (hb hby at_176) rfl k) ?_
    refine Goes.via (B := T7.setTop (mkF m 180 #[.val (.int x1), .val (.int x2), .val (.int (1 : Int32)), .val (.ref fq1), .val (.int (82595524 : Int32)), .val (.int mo), .val (.long (((13 : Int64) * (mo.toInt64)) / (6 : Int64))), .second] [])) (fun t k => XS.ifNo X7.here hx rfl (hb hby at_177) rfl (XT.ll_ne_f z3) k) ?_
    refine Goes.via (B := T7.setTop (mkF m 181 #[.val (.int x1), .val (.int x2), .val (.int (1 : Int32)), .val (.ref fq1), .val (.int (82595524 : Int32)), .val (.int mo), .val (.long (((13 : Int64) * (mo.toInt64)) / (6 : Int64))), .second] [(.int (1 : Int32))])) (fun t k => XS.iconst X7.here hx rfl (hb hby at_180) k) ?_
    refine Goes.via (B := T7.setTop (mkF m 185 #[.val (.int x1), .val (.int x2), .val (.int (1 : Int32)), .val (.ref fq1), .val (.int (82595524 : Int32)), .val (.int mo), .val (.long (((13 : Int64) * (mo.toInt64)) / (6 : Int64))), .second] [(.int (1 : Int32))])) (fun t k => XS.goto X7.here hx rfl (pc0 := 181) (pc' := 185) rfl (hb hby at_181) (by decide) (by decide) k) ?_
    exact finN (Q := (own_Q3 Z x1 x2 fq0 fq1 fq2 fq3 fq4 h0 n0)) (F := FrameEnd) (C := (room_1).cells) (S := (room_1).slots) X7 hx (t := .boolean) Bd.returns (by simp) (z' := (1 : Int32)) rfl (hb hby at_185) K7 ⟨rfl, N7, trivial⟩ (lvN X7 hlk (by decide) (by decide))
  · refine Goes.via (B := s₁.setTop (mkF m 8 #[.val (.int x1), .val (.int x2), .val (.int (2 : Int32)), .unset, .unset, .unset, .unset, .unset] [(.int (2 : Int32))])) (fun t k => XS.iloadN X0.here hx rfl (hb hby at_7) rfl k) ?_
    refine Goes.via (B := s₁.setTop (mkF m 22 #[.val (.int x1), .val (.int x2), .val (.int (2 : Int32)), .unset, .unset, .unset, .unset, .unset] [])) (fun t k => XS.ifYes X0.here hx rfl (pc0 := 8) (pc' := 22) rfl (hb hby at_8) rfl (XT.i0_ne_t (by decide)) (by decide) (by decide) k) ?_
    refine Goes.via (B := s₁.setTop (mkF m 23 #[.val (.int x1), .val (.int x2), .val (.int (2 : Int32)), .unset, .unset, .unset, .unset, .unset] [(.int (2 : Int32))])) (fun t k => XS.iloadN X0.here hx rfl (hb hby at_22) rfl k) ?_
    refine Goes.via (B := s₁.setTop (mkF m 24 #[.val (.int x1), .val (.int x2), .val (.int (2 : Int32)), .unset, .unset, .unset, .unset, .unset] [(.int (1 : Int32)), (.int (2 : Int32))])) (fun t k => XS.iconst X0.here hx rfl (hb hby at_23) k) ?_
    refine Goes.via (B := s₁.setTop (mkF m 38 #[.val (.int x1), .val (.int x2), .val (.int (2 : Int32)), .unset, .unset, .unset, .unset, .unset] [])) (fun t k => XS.icmpYes X0.here hx rfl (pc0 := 24) (pc' := 38) rfl (hb hby at_24) rfl (XT.ii_ne_t (by decide)) (by decide) (by decide) k) ?_
    refine Goes.via (B := s₁.setTop (mkF m 39 #[.val (.int x1), .val (.int x2), .val (.int (2 : Int32)), .unset, .unset, .unset, .unset, .unset] [(.int (2 : Int32))])) (fun t k => XS.iloadN X0.here hx rfl (hb hby at_38) rfl k) ?_
    refine Goes.via (B := s₁.setTop (mkF m 40 #[.val (.int x1), .val (.int x2), .val (.int (2 : Int32)), .unset, .unset, .unset, .unset, .unset] [(.int (2 : Int32)), (.int (2 : Int32))])) (fun t k => XS.iconst X0.here hx rfl (hb hby at_39) k) ?_
    refine Goes.via (B := s₁.setTop (mkF m 43 #[.val (.int x1), .val (.int x2), .val (.int (2 : Int32)), .unset, .unset, .unset, .unset, .unset] [])) (fun t k => XS.icmpNo X0.here hx rfl (hb hby at_40) rfl (XT.ii_ne_f rfl) k) ?_
    obtain ⟨T8, X8, e8, st8⟩ := getS2 X0 hx hZ hown (host := "") (Or.inl (hw _ (List.mem_of_getElem? (i := 28) rfl))) Via.refl e0 (Sta.ext O0.2 O_7) (g := (mkF m 43 #[.val (.int x1), .val (.int x2), .val (.int (2 : Int32)), .unset, .unset, .unset, .unset, .unset] [])) rfl (hb hby at_43)
    refine Goes.via (B := T8.setTop (mkF m 46 #[.val (.int x1), .val (.int x2), .val (.int (2 : Int32)), .unset, .unset, .unset, .unset, .unset] [(.ref fq2)])) (fun t k => st8 _ k) ?_
    refine Goes.via (B := T8.setTop (mkF m 47 #[.val (.int x1), .val (.int x2), .val (.int (2 : Int32)), .val (.ref fq2), .unset, .unset, .unset, .unset] [])) (fun t k => XS.astoreN X8.here hx rfl (hb hby at_46) rfl rfl (l' := #[.val (.int x1), .val (.int x2), .val (.int (2 : Int32)), .val (.ref fq2), .unset, .unset, .unset, .unset]) rfl k) ?_
    refine Goes.via (B := T8.setTop (mkF m 49 #[.val (.int x1), .val (.int x2), .val (.int (2 : Int32)), .val (.ref fq2), .unset, .unset, .unset, .unset] [(.int (89478485 : Int32))])) (fun t k => X8.ldcI hx hown (mvT hZ (hw _ (List.mem_of_getElem? (i := 30) rfl))) rfl (hb hby at_47) k) ?_
    refine Goes.via (B := T8.setTop (mkF m 51 #[.val (.int x1), .val (.int x2), .val (.int (2 : Int32)), .val (.ref fq2), .val (.int (89478485 : Int32)), .unset, .unset, .unset] [])) (fun t k => XS.istore X8.here hx rfl (hb hby at_49) rfl (l' := #[.val (.int x1), .val (.int x2), .val (.int (2 : Int32)), .val (.ref fq2), .val (.int (89478485 : Int32)), .unset, .unset, .unset]) rfl k) ?_
    refine Goes.via (B := T8.setTop (mkF m 78 #[.val (.int x1), .val (.int x2), .val (.int (2 : Int32)), .val (.ref fq2), .val (.int (89478485 : Int32)), .unset, .unset, .unset] [])) (fun t k => XS.goto X8.here hx rfl (pc0 := 51) (pc' := 78) rfl (hb hby at_51) (by decide) (by decide) k) ?_
    refine Goes.via (B := T8.setTop (mkF m 79 #[.val (.int x1), .val (.int x2), .val (.int (2 : Int32)), .val (.ref fq2), .val (.int (89478485 : Int32)), .unset, .unset, .unset] [(.int (1 : Int32))])) (fun t k => XS.iconst X8.here hx rfl (hb hby at_78) k) ?_
    refine Goes.via (B := T8.setTop (mkF m 80 #[.val (.int x1), .val (.int x2), .val (.int (2 : Int32)), .val (.ref fq2), .val (.int (89478485 : Int32)), .unset, .unset, .unset] [(.int x2), (.int (1 : Int32))])) (fun t k => XS.iloadN X8.here hx rfl (hb hby at_79) rfl k) ?_
    refine Goes.via (B := T8.setTop (mkF m 82 #[.val (.int x1), .val (.int x2), .val (.int (2 : Int32)), .val (.ref fq2), .val (.int (89478485 : Int32)), .unset, .unset, .unset] [(.int (2147483647 : Int32)), (.int x2), (.int (1 : Int32))])) (fun t k => X8.ldcI hx hown (mvT hZ (hw _ (List.mem_of_getElem? (i := 0) rfl))) rfl (hb hby at_80) k) ?_
    refine Goes.via (B := T8.setTop (mkF m 83 #[.val (.int x1), .val (.int x2), .val (.int (2 : Int32)), .val (.ref fq2), .val (.int (89478485 : Int32)), .unset, .unset, .unset] [(.int (x2 &&& (2147483647 : Int32))), (.int (1 : Int32))])) (fun t k => XS.iand X8.here hx rfl (hb hby at_82) rfl k) ?_
    refine Goes.via (B := T8.setTop (mkF m 85 #[.val (.int x1), .val (.int x2), .val (.int (2 : Int32)), .val (.ref fq2), .val (.int (89478485 : Int32)), .unset, .unset, .unset] [(.int (89478485 : Int32)), (.int (x2 &&& (2147483647 : Int32))), (.int (1 : Int32))])) (fun t k => XS.iload X8.here hx rfl (hb hby at_83) rfl k) ?_
    refine Goes.via (B := T8.setTop (mkF m 86 #[.val (.int x1), .val (.int x2), .val (.int (2 : Int32)), .val (.ref fq2), .val (.int (89478485 : Int32)), .unset, .unset, .unset] [(.int ((x2 &&& (2147483647 : Int32)) % (89478485 : Int32))), (.int (1 : Int32))])) (fun t k => iremM X8 hx rfl (hb hby at_85) rfl (by decide) k) ?_
    refine Goes.via (B := T8.setTop (mkF m 87 #[.val (.int x1), .val (.int x2), .val (.int (2 : Int32)), .val (.ref fq2), .val (.int (89478485 : Int32)), .unset, .unset, .unset] [(.int ((1 : Int32) + ((x2 &&& (2147483647 : Int32)) % (89478485 : Int32))))])) (fun t k => XS.iadd X8.here hx rfl (hb hby at_86) rfl k) ?_
    refine Goes.via (B := T8.setTop (mkF m 89 #[.val (.int x1), .val (.int x2), .val (.int (2 : Int32)), .val (.ref fq2), .val (.int (89478485 : Int32)), .val (.int ((1 : Int32) + ((x2 &&& (2147483647 : Int32)) % (89478485 : Int32)))), .unset, .unset] [])) (fun t k => XS.istore X8.here hx rfl (hb hby at_87) rfl (l' := #[.val (.int x1), .val (.int x2), .val (.int (2 : Int32)), .val (.ref fq2), .val (.int (89478485 : Int32)), .val (.int ((1 : Int32) + ((x2 &&& (2147483647 : Int32)) % (89478485 : Int32)))), .unset, .unset]) rfl k) ?_
    suffices J9 : ∀ (mo : Int32) (hm : 1 ≤ mo.toInt ∧ mo.toInt ≤ 89478485), Goes p.tables e below (fun t o => ∃ v L, o = .returned v ∧ (own_Q3 Z x1 x2 fq0 fq1 fq2 fq3 fq4 h0 n0) v t.heap L ∧ FrameEnd s o t L (room_1).cells (room_1).slots) (T8.setTop (mkF m 89 #[.val (.int x1), .val (.int x2), .val (.int (2 : Int32)), .val (.ref fq2), .val (.int (89478485 : Int32)), .val (.int mo), .unset, .unset] [])) by exact J9 ((1 : Int32) + ((x2 &&& (2147483647 : Int32)) % (89478485 : Int32))) (own_mon x2 89478485 89478485 rfl (by decide) (by decide))
    intro mo hm
    obtain ⟨z1, z2, z3⟩ := own_eq2 hm.1 hm.2
    refine Goes.via (B := T8.setTop (mkF m 90 #[.val (.int x1), .val (.int x2), .val (.int (2 : Int32)), .val (.ref fq2), .val (.int (89478485 : Int32)), .val (.int mo), .unset, .unset] [(.int (2 : Int32))])) (fun t k => XS.iloadN X8.here hx rfl (hb hby at_89) rfl k) ?_
    refine Goes.via (B := T8.setTop (mkF m 109 #[.val (.int x1), .val (.int x2), .val (.int (2 : Int32)), .val (.ref fq2), .val (.int (89478485 : Int32)), .val (.int mo), .unset, .unset] [])) (fun t k => XS.ifYes X8.here hx rfl (pc0 := 90) (pc' := 109) rfl (hb hby at_90) rfl (XT.i0_ne_t (by decide)) (by decide) (by decide) k) ?_
    refine Goes.via (B := T8.setTop (mkF m 110 #[.val (.int x1), .val (.int x2), .val (.int (2 : Int32)), .val (.ref fq2), .val (.int (89478485 : Int32)), .val (.int mo), .unset, .unset] [(.int (2 : Int32))])) (fun t k => XS.iloadN X8.here hx rfl (hb hby at_109) rfl k) ?_
    refine Goes.via (B := T8.setTop (mkF m 111 #[.val (.int x1), .val (.int x2), .val (.int (2 : Int32)), .val (.ref fq2), .val (.int (89478485 : Int32)), .val (.int mo), .unset, .unset] [(.int (1 : Int32)), (.int (2 : Int32))])) (fun t k => XS.iconst X8.here hx rfl (hb hby at_110) k) ?_
    refine Goes.via (B := T8.setTop (mkF m 130 #[.val (.int x1), .val (.int x2), .val (.int (2 : Int32)), .val (.ref fq2), .val (.int (89478485 : Int32)), .val (.int mo), .unset, .unset] [])) (fun t k => XS.icmpYes X8.here hx rfl (pc0 := 111) (pc' := 130) rfl (hb hby at_111) rfl (XT.ii_ne_t (by decide)) (by decide) (by decide) k) ?_
    refine Goes.via (B := T8.setTop (mkF m 131 #[.val (.int x1), .val (.int x2), .val (.int (2 : Int32)), .val (.ref fq2), .val (.int (89478485 : Int32)), .val (.int mo), .unset, .unset] [(.int (2 : Int32))])) (fun t k => XS.iloadN X8.here hx rfl (hb hby at_130) rfl k) ?_
    refine Goes.via (B := T8.setTop (mkF m 132 #[.val (.int x1), .val (.int x2), .val (.int (2 : Int32)), .val (.ref fq2), .val (.int (89478485 : Int32)), .val (.int mo), .unset, .unset] [(.int (2 : Int32)), (.int (2 : Int32))])) (fun t k => XS.iconst X8.here hx rfl (hb hby at_131) k) ?_
    refine Goes.via (B := T8.setTop (mkF m 135 #[.val (.int x1), .val (.int x2), .val (.int (2 : Int32)), .val (.ref fq2), .val (.int (89478485 : Int32)), .val (.int mo), .unset, .unset] [])) (fun t k => XS.icmpNo X8.here hx rfl (hb hby at_132) rfl (XT.ii_ne_f rfl) k) ?_
    refine Goes.via (B := T8.setTop (mkF m 138 #[.val (.int x1), .val (.int x2), .val (.int (2 : Int32)), .val (.ref fq2), .val (.int (89478485 : Int32)), .val (.int mo), .unset, .unset] [(.long (2 : Int64))])) (fun t k => X8.ldc2J hx hown (mvT hZ (hw _ (List.mem_of_getElem? (i := 31) rfl))) rfl (hb hby at_135) k) ?_
    refine Goes.via (B := T8.setTop (mkF m 140 #[.val (.int x1), .val (.int x2), .val (.int (2 : Int32)), .val (.ref fq2), .val (.int (89478485 : Int32)), .val (.int mo), .unset, .unset] [(.int mo), (.long (2 : Int64))])) (fun t k => XS.iload X8.here hx rfl (hb hby at_138) rfl k) ?_
    refine Goes.via (B := T8.setTop (mkF m 141 #[.val (.int x1), .val (.int x2), .val (.int (2 : Int32)), .val (.ref fq2), .val (.int (89478485 : Int32)), .val (.int mo), .unset, .unset] [(.long (mo.toInt64)), (.long (2 : Int64))])) (fun t k => XS.i2l X8.here hx rfl (hb hby at_140) rfl k) ?_
    refine Goes.via (B := T8.setTop (mkF m 142 #[.val (.int x1), .val (.int x2), .val (.int (2 : Int32)), .val (.ref fq2), .val (.int (89478485 : Int32)), .val (.int mo), .unset, .unset] [(.long ((2 : Int64) * (mo.toInt64)))])) (fun t k => XS.lmul X8.here hx rfl (hb hby at_141) rfl k) ?_
    refine Goes.via (B := T8.setTop (mkF m 144 #[.val (.int x1), .val (.int x2), .val (.int (2 : Int32)), .val (.ref fq2), .val (.int (89478485 : Int32)), .val (.int mo), .val (.long ((2 : Int64) * (mo.toInt64))), .second] [])) (fun t k => XS.lstore X8.here hx rfl (hb hby at_142) rfl (l' := #[.val (.int x1), .val (.int x2), .val (.int (2 : Int32)), .val (.ref fq2), .val (.int (89478485 : Int32)), .val (.int mo), .val (.long ((2 : Int64) * (mo.toInt64))), .second]) rfl k) ?_
    refine Goes.via (B := T8.setTop (mkF m 167 #[.val (.int x1), .val (.int x2), .val (.int (2 : Int32)), .val (.ref fq2), .val (.int (89478485 : Int32)), .val (.int mo), .val (.long ((2 : Int64) * (mo.toInt64))), .second] [])) (fun t k => XS.goto X8.here hx rfl (pc0 := 144) (pc' := 167) rfl (hb hby at_144) (by decide) (by decide) k) ?_
    refine Goes.via (B := T8.setTop (mkF m 168 #[.val (.int x1), .val (.int x2), .val (.int (2 : Int32)), .val (.ref fq2), .val (.int (89478485 : Int32)), .val (.int mo), .val (.long ((2 : Int64) * (mo.toInt64))), .second] [(.ref fq2)])) (fun t k => XS.aloadN X8.here hx rfl (hb hby at_167) rfl rfl k) ?_
    refine Goes.via (B := T8.setTop (mkF m 170 #[.val (.int x1), .val (.int x2), .val (.int (2 : Int32)), .val (.ref fq2), .val (.int (89478485 : Int32)), .val (.int mo), .val (.long ((2 : Int64) * (mo.toInt64))), .second] [(.int mo), (.ref fq2)])) (fun t k => XS.iload X8.here hx rfl (hb hby at_168) rfl k) ?_
    obtain ⟨_, T10, L10, X10, ⟨rfl, M10, K10⟩, st10⟩ := callVirt X8 hx hZ hown (hw _ (List.mem_of_getElem? (i := 7) rfl)) (hw _ (List.mem_of_getElem? (i := 8) rfl)) (hw _ (List.mem_of_getElem? (i := 10) rfl)) (notFace_of_selects (args := #[]) (mvT hZ (hw _ (List.mem_of_getElem? (i := 10) rfl)))) (hw _ (List.mem_of_getElem? (i := 9) rfl)) (hw _ (List.mem_of_getElem? (i := 2) rfl)) (hw _ (List.mem_of_getElem? (i := 11) rfl)) (by decide) (argsL := [(.int mo)]) (rest := []) (own_m2 l Z a0 hw [] fq2 mo (24 : Int32) h0 n0 O0 z1 z2 O_9) e8 (O_8.ext O0.2) (lenOf own_pd1 rfl) (pc := 170) (Ls := #[.val (.int x1), .val (.int x2), .val (.int (2 : Int32)), .val (.ref fq2), .val (.int (89478485 : Int32)), .val (.int mo), .val (.long ((2 : Int64) * (mo.toInt64))), .second]) (st := [(.int mo), (.ref fq2)]) rfl (by rw [hml]; rfl) (hb hby at_170) (W := 0) (Nat.le_of_eq rfl) (by decide) (by decide) (by decide) (by decide)
    have N10 := Fr.app N0 M10
    refine Goes.via (B := T10.setTop (mkF m 173 #[.val (.int x1), .val (.int x2), .val (.int (2 : Int32)), .val (.ref fq2), .val (.int (89478485 : Int32)), .val (.int mo), .val (.long ((2 : Int64) * (mo.toInt64))), .second] [(.int ((mo.toInt64 * (24 : Int32).toInt64).toInt32 / (12 : Int32)))])) (fun t k => st10 _ k) ?_
    refine Goes.via (B := T10.setTop (mkF m 174 #[.val (.int x1), .val (.int x2), .val (.int (2 : Int32)), .val (.ref fq2), .val (.int (89478485 : Int32)), .val (.int mo), .val (.long ((2 : Int64) * (mo.toInt64))), .second] [(.long (((mo.toInt64 * (24 : Int32).toInt64).toInt32 / (12 : Int32)).toInt64))])) (fun t k => XS.i2l X10.here hx rfl (hb hby at_173) rfl k) ?_
    refine Goes.via (B := T10.setTop (mkF m 176 #[.val (.int x1), .val (.int x2), .val (.int (2 : Int32)), .val (.ref fq2), .val (.int (89478485 : Int32)), .val (.int mo), .val (.long ((2 : Int64) * (mo.toInt64))), .second] [(.long ((2 : Int64) * (mo.toInt64))), (.long (((mo.toInt64 * (24 : Int32).toInt64).toInt32 / (12 : Int32)).toInt64))])) (fun t k => XS.lload X10.here hx rfl (hb hby at_174) rfl k) ?_
    refine Goes.via (B := T10.setTop (mkF m 177 #[.val (.int x1), .val (.int x2), .val (.int (2 : Int32)), .val (.ref fq2), .val (.int (89478485 : Int32)), .val (.int mo), .val (.long ((2 : Int64) * (mo.toInt64))), .second] [(.int (XT.cmpL (((mo.toInt64 * (24 : Int32).toInt64).toInt32 / (12 : Int32)).toInt64) ((2 : Int64) * (mo.toInt64))))])) (fun t k => XT.lcmp X10.here hx rfl (hb hby at_176) rfl k) ?_
    refine Goes.via (B := T10.setTop (mkF m 180 #[.val (.int x1), .val (.int x2), .val (.int (2 : Int32)), .val (.ref fq2), .val (.int (89478485 : Int32)), .val (.int mo), .val (.long ((2 : Int64) * (mo.toInt64))), .second] [])) (fun t k => XS.ifNo X10.here hx rfl (hb hby at_177) rfl (XT.ll_ne_f z3) k) ?_
    refine Goes.via (B := T10.setTop (mkF m 181 #[.val (.int x1), .val (.int x2), .val (.int (2 : Int32)), .val (.ref fq2), .val (.int (89478485 : Int32)), .val (.int mo), .val (.long ((2 : Int64) * (mo.toInt64))), .second] [(.int (1 : Int32))])) (fun t k => XS.iconst X10.here hx rfl (hb hby at_180) k) ?_
    refine Goes.via (B := T10.setTop (mkF m 185 #[.val (.int x1), .val (.int x2), .val (.int (2 : Int32)), .val (.ref fq2), .val (.int (89478485 : Int32)), .val (.int mo), .val (.long ((2 : Int64) * (mo.toInt64))), .second] [(.int (1 : Int32))])) (fun t k => XS.goto X10.here hx rfl (pc0 := 181) (pc' := 185) rfl (hb hby at_181) (by decide) (by decide) k) ?_
    exact finN (Q := (own_Q3 Z x1 x2 fq0 fq1 fq2 fq3 fq4 h0 n0)) (F := FrameEnd) (C := (room_1).cells) (S := (room_1).slots) X10 hx (t := .boolean) Bd.returns (by simp) (z' := (1 : Int32)) rfl (hb hby at_185) K10 ⟨rfl, N10, trivial⟩ (lvN X10 hlk (by decide) (by decide))
  · refine Goes.via (B := s₁.setTop (mkF m 8 #[.val (.int x1), .val (.int x2), .val (.int (3 : Int32)), .unset, .unset, .unset, .unset, .unset] [(.int (3 : Int32))])) (fun t k => XS.iloadN X0.here hx rfl (hb hby at_7) rfl k) ?_
    refine Goes.via (B := s₁.setTop (mkF m 22 #[.val (.int x1), .val (.int x2), .val (.int (3 : Int32)), .unset, .unset, .unset, .unset, .unset] [])) (fun t k => XS.ifYes X0.here hx rfl (pc0 := 8) (pc' := 22) rfl (hb hby at_8) rfl (XT.i0_ne_t (by decide)) (by decide) (by decide) k) ?_
    refine Goes.via (B := s₁.setTop (mkF m 23 #[.val (.int x1), .val (.int x2), .val (.int (3 : Int32)), .unset, .unset, .unset, .unset, .unset] [(.int (3 : Int32))])) (fun t k => XS.iloadN X0.here hx rfl (hb hby at_22) rfl k) ?_
    refine Goes.via (B := s₁.setTop (mkF m 24 #[.val (.int x1), .val (.int x2), .val (.int (3 : Int32)), .unset, .unset, .unset, .unset, .unset] [(.int (1 : Int32)), (.int (3 : Int32))])) (fun t k => XS.iconst X0.here hx rfl (hb hby at_23) k) ?_
    refine Goes.via (B := s₁.setTop (mkF m 38 #[.val (.int x1), .val (.int x2), .val (.int (3 : Int32)), .unset, .unset, .unset, .unset, .unset] [])) (fun t k => XS.icmpYes X0.here hx rfl (pc0 := 24) (pc' := 38) rfl (hb hby at_24) rfl (XT.ii_ne_t (by decide)) (by decide) (by decide) k) ?_
    refine Goes.via (B := s₁.setTop (mkF m 39 #[.val (.int x1), .val (.int x2), .val (.int (3 : Int32)), .unset, .unset, .unset, .unset, .unset] [(.int (3 : Int32))])) (fun t k => XS.iloadN X0.here hx rfl (hb hby at_38) rfl k) ?_
    refine Goes.via (B := s₁.setTop (mkF m 40 #[.val (.int x1), .val (.int x2), .val (.int (3 : Int32)), .unset, .unset, .unset, .unset, .unset] [(.int (2 : Int32)), (.int (3 : Int32))])) (fun t k => XS.iconst X0.here hx rfl (hb hby at_39) k) ?_
    refine Goes.via (B := s₁.setTop (mkF m 54 #[.val (.int x1), .val (.int x2), .val (.int (3 : Int32)), .unset, .unset, .unset, .unset, .unset] [])) (fun t k => XS.icmpYes X0.here hx rfl (pc0 := 40) (pc' := 54) rfl (hb hby at_40) rfl (XT.ii_ne_t (by decide)) (by decide) (by decide) k) ?_
    refine Goes.via (B := s₁.setTop (mkF m 55 #[.val (.int x1), .val (.int x2), .val (.int (3 : Int32)), .unset, .unset, .unset, .unset, .unset] [(.int (3 : Int32))])) (fun t k => XS.iloadN X0.here hx rfl (hb hby at_54) rfl k) ?_
    refine Goes.via (B := s₁.setTop (mkF m 56 #[.val (.int x1), .val (.int x2), .val (.int (3 : Int32)), .unset, .unset, .unset, .unset, .unset] [(.int (3 : Int32)), (.int (3 : Int32))])) (fun t k => XS.iconst X0.here hx rfl (hb hby at_55) k) ?_
    refine Goes.via (B := s₁.setTop (mkF m 59 #[.val (.int x1), .val (.int x2), .val (.int (3 : Int32)), .unset, .unset, .unset, .unset, .unset] [])) (fun t k => XS.icmpNo X0.here hx rfl (hb hby at_56) rfl (XT.ii_ne_f rfl) k) ?_
    obtain ⟨T11, X11, e11, st11⟩ := getS2 X0 hx hZ hown (host := "") (Or.inl (hw _ (List.mem_of_getElem? (i := 21) rfl))) Via.refl e0 (Sta.ext O0.2 O_10) (g := (mkF m 59 #[.val (.int x1), .val (.int x2), .val (.int (3 : Int32)), .unset, .unset, .unset, .unset, .unset] [])) rfl (hb hby at_59)
    refine Goes.via (B := T11.setTop (mkF m 62 #[.val (.int x1), .val (.int x2), .val (.int (3 : Int32)), .unset, .unset, .unset, .unset, .unset] [(.ref fq3)])) (fun t k => st11 _ k) ?_
    refine Goes.via (B := T11.setTop (mkF m 63 #[.val (.int x1), .val (.int x2), .val (.int (3 : Int32)), .val (.ref fq3), .unset, .unset, .unset, .unset] [])) (fun t k => XS.astoreN X11.here hx rfl (hb hby at_62) rfl rfl (l' := #[.val (.int x1), .val (.int x2), .val (.int (3 : Int32)), .val (.ref fq3), .unset, .unset, .unset, .unset]) rfl k) ?_
    refine Goes.via (B := T11.setTop (mkF m 65 #[.val (.int x1), .val (.int x2), .val (.int (3 : Int32)), .val (.ref fq3), .unset, .unset, .unset, .unset] [(.int (178956970 : Int32))])) (fun t k => X11.ldcI hx hown (mvT hZ (hw _ (List.mem_of_getElem? (i := 23) rfl))) rfl (hb hby at_63) k) ?_
    refine Goes.via (B := T11.setTop (mkF m 67 #[.val (.int x1), .val (.int x2), .val (.int (3 : Int32)), .val (.ref fq3), .val (.int (178956970 : Int32)), .unset, .unset, .unset] [])) (fun t k => XS.istore X11.here hx rfl (hb hby at_65) rfl (l' := #[.val (.int x1), .val (.int x2), .val (.int (3 : Int32)), .val (.ref fq3), .val (.int (178956970 : Int32)), .unset, .unset, .unset]) rfl k) ?_
    refine Goes.via (B := T11.setTop (mkF m 78 #[.val (.int x1), .val (.int x2), .val (.int (3 : Int32)), .val (.ref fq3), .val (.int (178956970 : Int32)), .unset, .unset, .unset] [])) (fun t k => XS.goto X11.here hx rfl (pc0 := 67) (pc' := 78) rfl (hb hby at_67) (by decide) (by decide) k) ?_
    refine Goes.via (B := T11.setTop (mkF m 79 #[.val (.int x1), .val (.int x2), .val (.int (3 : Int32)), .val (.ref fq3), .val (.int (178956970 : Int32)), .unset, .unset, .unset] [(.int (1 : Int32))])) (fun t k => XS.iconst X11.here hx rfl (hb hby at_78) k) ?_
    refine Goes.via (B := T11.setTop (mkF m 80 #[.val (.int x1), .val (.int x2), .val (.int (3 : Int32)), .val (.ref fq3), .val (.int (178956970 : Int32)), .unset, .unset, .unset] [(.int x2), (.int (1 : Int32))])) (fun t k => XS.iloadN X11.here hx rfl (hb hby at_79) rfl k) ?_
    refine Goes.via (B := T11.setTop (mkF m 82 #[.val (.int x1), .val (.int x2), .val (.int (3 : Int32)), .val (.ref fq3), .val (.int (178956970 : Int32)), .unset, .unset, .unset] [(.int (2147483647 : Int32)), (.int x2), (.int (1 : Int32))])) (fun t k => X11.ldcI hx hown (mvT hZ (hw _ (List.mem_of_getElem? (i := 0) rfl))) rfl (hb hby at_80) k) ?_
    refine Goes.via (B := T11.setTop (mkF m 83 #[.val (.int x1), .val (.int x2), .val (.int (3 : Int32)), .val (.ref fq3), .val (.int (178956970 : Int32)), .unset, .unset, .unset] [(.int (x2 &&& (2147483647 : Int32))), (.int (1 : Int32))])) (fun t k => XS.iand X11.here hx rfl (hb hby at_82) rfl k) ?_
    refine Goes.via (B := T11.setTop (mkF m 85 #[.val (.int x1), .val (.int x2), .val (.int (3 : Int32)), .val (.ref fq3), .val (.int (178956970 : Int32)), .unset, .unset, .unset] [(.int (178956970 : Int32)), (.int (x2 &&& (2147483647 : Int32))), (.int (1 : Int32))])) (fun t k => XS.iload X11.here hx rfl (hb hby at_83) rfl k) ?_
    refine Goes.via (B := T11.setTop (mkF m 86 #[.val (.int x1), .val (.int x2), .val (.int (3 : Int32)), .val (.ref fq3), .val (.int (178956970 : Int32)), .unset, .unset, .unset] [(.int ((x2 &&& (2147483647 : Int32)) % (178956970 : Int32))), (.int (1 : Int32))])) (fun t k => iremM X11 hx rfl (hb hby at_85) rfl (by decide) k) ?_
    refine Goes.via (B := T11.setTop (mkF m 87 #[.val (.int x1), .val (.int x2), .val (.int (3 : Int32)), .val (.ref fq3), .val (.int (178956970 : Int32)), .unset, .unset, .unset] [(.int ((1 : Int32) + ((x2 &&& (2147483647 : Int32)) % (178956970 : Int32))))])) (fun t k => XS.iadd X11.here hx rfl (hb hby at_86) rfl k) ?_
    refine Goes.via (B := T11.setTop (mkF m 89 #[.val (.int x1), .val (.int x2), .val (.int (3 : Int32)), .val (.ref fq3), .val (.int (178956970 : Int32)), .val (.int ((1 : Int32) + ((x2 &&& (2147483647 : Int32)) % (178956970 : Int32)))), .unset, .unset] [])) (fun t k => XS.istore X11.here hx rfl (hb hby at_87) rfl (l' := #[.val (.int x1), .val (.int x2), .val (.int (3 : Int32)), .val (.ref fq3), .val (.int (178956970 : Int32)), .val (.int ((1 : Int32) + ((x2 &&& (2147483647 : Int32)) % (178956970 : Int32)))), .unset, .unset]) rfl k) ?_
    suffices J12 : ∀ (mo : Int32) (hm : 1 ≤ mo.toInt ∧ mo.toInt ≤ 178956970), Goes p.tables e below (fun t o => ∃ v L, o = .returned v ∧ (own_Q3 Z x1 x2 fq0 fq1 fq2 fq3 fq4 h0 n0) v t.heap L ∧ FrameEnd s o t L (room_1).cells (room_1).slots) (T11.setTop (mkF m 89 #[.val (.int x1), .val (.int x2), .val (.int (3 : Int32)), .val (.ref fq3), .val (.int (178956970 : Int32)), .val (.int mo), .unset, .unset] [])) by exact J12 ((1 : Int32) + ((x2 &&& (2147483647 : Int32)) % (178956970 : Int32))) (own_mon x2 178956970 178956970 rfl (by decide) (by decide))
    intro mo hm
    obtain ⟨z1, z2, z3⟩ := own_eq3 hm.1 hm.2
    refine Goes.via (B := T11.setTop (mkF m 90 #[.val (.int x1), .val (.int x2), .val (.int (3 : Int32)), .val (.ref fq3), .val (.int (178956970 : Int32)), .val (.int mo), .unset, .unset] [(.int (3 : Int32))])) (fun t k => XS.iloadN X11.here hx rfl (hb hby at_89) rfl k) ?_
    refine Goes.via (B := T11.setTop (mkF m 109 #[.val (.int x1), .val (.int x2), .val (.int (3 : Int32)), .val (.ref fq3), .val (.int (178956970 : Int32)), .val (.int mo), .unset, .unset] [])) (fun t k => XS.ifYes X11.here hx rfl (pc0 := 90) (pc' := 109) rfl (hb hby at_90) rfl (XT.i0_ne_t (by decide)) (by decide) (by decide) k) ?_
    refine Goes.via (B := T11.setTop (mkF m 110 #[.val (.int x1), .val (.int x2), .val (.int (3 : Int32)), .val (.ref fq3), .val (.int (178956970 : Int32)), .val (.int mo), .unset, .unset] [(.int (3 : Int32))])) (fun t k => XS.iloadN X11.here hx rfl (hb hby at_109) rfl k) ?_
    refine Goes.via (B := T11.setTop (mkF m 111 #[.val (.int x1), .val (.int x2), .val (.int (3 : Int32)), .val (.ref fq3), .val (.int (178956970 : Int32)), .val (.int mo), .unset, .unset] [(.int (1 : Int32)), (.int (3 : Int32))])) (fun t k => XS.iconst X11.here hx rfl (hb hby at_110) k) ?_
    refine Goes.via (B := T11.setTop (mkF m 130 #[.val (.int x1), .val (.int x2), .val (.int (3 : Int32)), .val (.ref fq3), .val (.int (178956970 : Int32)), .val (.int mo), .unset, .unset] [])) (fun t k => XS.icmpYes X11.here hx rfl (pc0 := 111) (pc' := 130) rfl (hb hby at_111) rfl (XT.ii_ne_t (by decide)) (by decide) (by decide) k) ?_
    refine Goes.via (B := T11.setTop (mkF m 131 #[.val (.int x1), .val (.int x2), .val (.int (3 : Int32)), .val (.ref fq3), .val (.int (178956970 : Int32)), .val (.int mo), .unset, .unset] [(.int (3 : Int32))])) (fun t k => XS.iloadN X11.here hx rfl (hb hby at_130) rfl k) ?_
    refine Goes.via (B := T11.setTop (mkF m 132 #[.val (.int x1), .val (.int x2), .val (.int (3 : Int32)), .val (.ref fq3), .val (.int (178956970 : Int32)), .val (.int mo), .unset, .unset] [(.int (2 : Int32)), (.int (3 : Int32))])) (fun t k => XS.iconst X11.here hx rfl (hb hby at_131) k) ?_
    refine Goes.via (B := T11.setTop (mkF m 147 #[.val (.int x1), .val (.int x2), .val (.int (3 : Int32)), .val (.ref fq3), .val (.int (178956970 : Int32)), .val (.int mo), .unset, .unset] [])) (fun t k => XS.icmpYes X11.here hx rfl (pc0 := 132) (pc' := 147) rfl (hb hby at_132) rfl (XT.ii_ne_t (by decide)) (by decide) (by decide) k) ?_
    refine Goes.via (B := T11.setTop (mkF m 148 #[.val (.int x1), .val (.int x2), .val (.int (3 : Int32)), .val (.ref fq3), .val (.int (178956970 : Int32)), .val (.int mo), .unset, .unset] [(.int (3 : Int32))])) (fun t k => XS.iloadN X11.here hx rfl (hb hby at_147) rfl k) ?_
    refine Goes.via (B := T11.setTop (mkF m 149 #[.val (.int x1), .val (.int x2), .val (.int (3 : Int32)), .val (.ref fq3), .val (.int (178956970 : Int32)), .val (.int mo), .unset, .unset] [(.int (3 : Int32)), (.int (3 : Int32))])) (fun t k => XS.iconst X11.here hx rfl (hb hby at_148) k) ?_
    refine Goes.via (B := T11.setTop (mkF m 152 #[.val (.int x1), .val (.int x2), .val (.int (3 : Int32)), .val (.ref fq3), .val (.int (178956970 : Int32)), .val (.int mo), .unset, .unset] [])) (fun t k => XS.icmpNo X11.here hx rfl (hb hby at_149) rfl (XT.ii_ne_f rfl) k) ?_
    refine Goes.via (B := T11.setTop (mkF m 154 #[.val (.int x1), .val (.int x2), .val (.int (3 : Int32)), .val (.ref fq3), .val (.int (178956970 : Int32)), .val (.int mo), .unset, .unset] [(.int mo)])) (fun t k => XS.iload X11.here hx rfl (hb hby at_152) rfl k) ?_
    refine Goes.via (B := T11.setTop (mkF m 155 #[.val (.int x1), .val (.int x2), .val (.int (3 : Int32)), .val (.ref fq3), .val (.int (178956970 : Int32)), .val (.int mo), .unset, .unset] [(.long (mo.toInt64))])) (fun t k => XS.i2l X11.here hx rfl (hb hby at_154) rfl k) ?_
    refine Goes.via (B := T11.setTop (mkF m 157 #[.val (.int x1), .val (.int x2), .val (.int (3 : Int32)), .val (.ref fq3), .val (.int (178956970 : Int32)), .val (.int mo), .val (.long (mo.toInt64)), .second] [])) (fun t k => XS.lstore X11.here hx rfl (hb hby at_155) rfl (l' := #[.val (.int x1), .val (.int x2), .val (.int (3 : Int32)), .val (.ref fq3), .val (.int (178956970 : Int32)), .val (.int mo), .val (.long (mo.toInt64)), .second]) rfl k) ?_
    refine Goes.via (B := T11.setTop (mkF m 167 #[.val (.int x1), .val (.int x2), .val (.int (3 : Int32)), .val (.ref fq3), .val (.int (178956970 : Int32)), .val (.int mo), .val (.long (mo.toInt64)), .second] [])) (fun t k => XS.goto X11.here hx rfl (pc0 := 157) (pc' := 167) rfl (hb hby at_157) (by decide) (by decide) k) ?_
    refine Goes.via (B := T11.setTop (mkF m 168 #[.val (.int x1), .val (.int x2), .val (.int (3 : Int32)), .val (.ref fq3), .val (.int (178956970 : Int32)), .val (.int mo), .val (.long (mo.toInt64)), .second] [(.ref fq3)])) (fun t k => XS.aloadN X11.here hx rfl (hb hby at_167) rfl rfl k) ?_
    refine Goes.via (B := T11.setTop (mkF m 170 #[.val (.int x1), .val (.int x2), .val (.int (3 : Int32)), .val (.ref fq3), .val (.int (178956970 : Int32)), .val (.int mo), .val (.long (mo.toInt64)), .second] [(.int mo), (.ref fq3)])) (fun t k => XS.iload X11.here hx rfl (hb hby at_168) rfl k) ?_
    obtain ⟨_, T13, L13, X13, ⟨rfl, M13, K13⟩, st13⟩ := callVirt X11 hx hZ hown (hw _ (List.mem_of_getElem? (i := 7) rfl)) (hw _ (List.mem_of_getElem? (i := 8) rfl)) (hw _ (List.mem_of_getElem? (i := 10) rfl)) (notFace_of_selects (args := #[]) (mvT hZ (hw _ (List.mem_of_getElem? (i := 10) rfl)))) (hw _ (List.mem_of_getElem? (i := 9) rfl)) (hw _ (List.mem_of_getElem? (i := 2) rfl)) (hw _ (List.mem_of_getElem? (i := 11) rfl)) (by decide) (argsL := [(.int mo)]) (rest := []) (own_m2 l Z a0 hw [] fq3 mo (12 : Int32) h0 n0 O0 z1 z2 O_12) e11 (O_11.ext O0.2) (lenOf own_pd1 rfl) (pc := 170) (Ls := #[.val (.int x1), .val (.int x2), .val (.int (3 : Int32)), .val (.ref fq3), .val (.int (178956970 : Int32)), .val (.int mo), .val (.long (mo.toInt64)), .second]) (st := [(.int mo), (.ref fq3)]) rfl (by rw [hml]; rfl) (hb hby at_170) (W := 0) (Nat.le_of_eq rfl) (by decide) (by decide) (by decide) (by decide)
    have N13 := Fr.app N0 M13
    refine Goes.via (B := T13.setTop (mkF m 173 #[.val (.int x1), .val (.int x2), .val (.int (3 : Int32)), .val (.ref fq3), .val (.int (178956970 : Int32)), .val (.int mo), .val (.long (mo.toInt64)), .second] [(.int ((mo.toInt64 * (12 : Int32).toInt64).toInt32 / (12 : Int32)))])) (fun t k => st13 _ k) ?_
    refine Goes.via (B := T13.setTop (mkF m 174 #[.val (.int x1), .val (.int x2), .val (.int (3 : Int32)), .val (.ref fq3), .val (.int (178956970 : Int32)), .val (.int mo), .val (.long (mo.toInt64)), .second] [(.long (((mo.toInt64 * (12 : Int32).toInt64).toInt32 / (12 : Int32)).toInt64))])) (fun t k => XS.i2l X13.here hx rfl (hb hby at_173) rfl k) ?_
    refine Goes.via (B := T13.setTop (mkF m 176 #[.val (.int x1), .val (.int x2), .val (.int (3 : Int32)), .val (.ref fq3), .val (.int (178956970 : Int32)), .val (.int mo), .val (.long (mo.toInt64)), .second] [(.long (mo.toInt64)), (.long (((mo.toInt64 * (12 : Int32).toInt64).toInt32 / (12 : Int32)).toInt64))])) (fun t k => XS.lload X13.here hx rfl (hb hby at_174) rfl k) ?_
    refine Goes.via (B := T13.setTop (mkF m 177 #[.val (.int x1), .val (.int x2), .val (.int (3 : Int32)), .val (.ref fq3), .val (.int (178956970 : Int32)), .val (.int mo), .val (.long (mo.toInt64)), .second] [(.int (XT.cmpL (((mo.toInt64 * (12 : Int32).toInt64).toInt32 / (12 : Int32)).toInt64) (mo.toInt64)))])) (fun t k => XT.lcmp X13.here hx rfl (hb hby at_176) rfl k) ?_
    refine Goes.via (B := T13.setTop (mkF m 180 #[.val (.int x1), .val (.int x2), .val (.int (3 : Int32)), .val (.ref fq3), .val (.int (178956970 : Int32)), .val (.int mo), .val (.long (mo.toInt64)), .second] [])) (fun t k => XS.ifNo X13.here hx rfl (hb hby at_177) rfl (XT.ll_ne_f z3) k) ?_
    refine Goes.via (B := T13.setTop (mkF m 181 #[.val (.int x1), .val (.int x2), .val (.int (3 : Int32)), .val (.ref fq3), .val (.int (178956970 : Int32)), .val (.int mo), .val (.long (mo.toInt64)), .second] [(.int (1 : Int32))])) (fun t k => XS.iconst X13.here hx rfl (hb hby at_180) k) ?_
    refine Goes.via (B := T13.setTop (mkF m 185 #[.val (.int x1), .val (.int x2), .val (.int (3 : Int32)), .val (.ref fq3), .val (.int (178956970 : Int32)), .val (.int mo), .val (.long (mo.toInt64)), .second] [(.int (1 : Int32))])) (fun t k => XS.goto X13.here hx rfl (pc0 := 181) (pc' := 185) rfl (hb hby at_181) (by decide) (by decide) k) ?_
    exact finN (Q := (own_Q3 Z x1 x2 fq0 fq1 fq2 fq3 fq4 h0 n0)) (F := FrameEnd) (C := (room_1).cells) (S := (room_1).slots) X13 hx (t := .boolean) Bd.returns (by simp) (z' := (1 : Int32)) rfl (hb hby at_185) K13 ⟨rfl, N13, trivial⟩ (lvN X13 hlk (by decide) (by decide))
  · refine Goes.via (B := s₁.setTop (mkF m 8 #[.val (.int x1), .val (.int x2), .val (.int (4 : Int32)), .unset, .unset, .unset, .unset, .unset] [(.int (4 : Int32))])) (fun t k => XS.iloadN X0.here hx rfl (hb hby at_7) rfl k) ?_
    refine Goes.via (B := s₁.setTop (mkF m 22 #[.val (.int x1), .val (.int x2), .val (.int (4 : Int32)), .unset, .unset, .unset, .unset, .unset] [])) (fun t k => XS.ifYes X0.here hx rfl (pc0 := 8) (pc' := 22) rfl (hb hby at_8) rfl (XT.i0_ne_t (by decide)) (by decide) (by decide) k) ?_
    refine Goes.via (B := s₁.setTop (mkF m 23 #[.val (.int x1), .val (.int x2), .val (.int (4 : Int32)), .unset, .unset, .unset, .unset, .unset] [(.int (4 : Int32))])) (fun t k => XS.iloadN X0.here hx rfl (hb hby at_22) rfl k) ?_
    refine Goes.via (B := s₁.setTop (mkF m 24 #[.val (.int x1), .val (.int x2), .val (.int (4 : Int32)), .unset, .unset, .unset, .unset, .unset] [(.int (1 : Int32)), (.int (4 : Int32))])) (fun t k => XS.iconst X0.here hx rfl (hb hby at_23) k) ?_
    refine Goes.via (B := s₁.setTop (mkF m 38 #[.val (.int x1), .val (.int x2), .val (.int (4 : Int32)), .unset, .unset, .unset, .unset, .unset] [])) (fun t k => XS.icmpYes X0.here hx rfl (pc0 := 24) (pc' := 38) rfl (hb hby at_24) rfl (XT.ii_ne_t (by decide)) (by decide) (by decide) k) ?_
    refine Goes.via (B := s₁.setTop (mkF m 39 #[.val (.int x1), .val (.int x2), .val (.int (4 : Int32)), .unset, .unset, .unset, .unset, .unset] [(.int (4 : Int32))])) (fun t k => XS.iloadN X0.here hx rfl (hb hby at_38) rfl k) ?_
    refine Goes.via (B := s₁.setTop (mkF m 40 #[.val (.int x1), .val (.int x2), .val (.int (4 : Int32)), .unset, .unset, .unset, .unset, .unset] [(.int (2 : Int32)), (.int (4 : Int32))])) (fun t k => XS.iconst X0.here hx rfl (hb hby at_39) k) ?_
    refine Goes.via (B := s₁.setTop (mkF m 54 #[.val (.int x1), .val (.int x2), .val (.int (4 : Int32)), .unset, .unset, .unset, .unset, .unset] [])) (fun t k => XS.icmpYes X0.here hx rfl (pc0 := 40) (pc' := 54) rfl (hb hby at_40) rfl (XT.ii_ne_t (by decide)) (by decide) (by decide) k) ?_
    refine Goes.via (B := s₁.setTop (mkF m 55 #[.val (.int x1), .val (.int x2), .val (.int (4 : Int32)), .unset, .unset, .unset, .unset, .unset] [(.int (4 : Int32))])) (fun t k => XS.iloadN X0.here hx rfl (hb hby at_54) rfl k) ?_
    refine Goes.via (B := s₁.setTop (mkF m 56 #[.val (.int x1), .val (.int x2), .val (.int (4 : Int32)), .unset, .unset, .unset, .unset, .unset] [(.int (3 : Int32)), (.int (4 : Int32))])) (fun t k => XS.iconst X0.here hx rfl (hb hby at_55) k) ?_
    refine Goes.via (B := s₁.setTop (mkF m 70 #[.val (.int x1), .val (.int x2), .val (.int (4 : Int32)), .unset, .unset, .unset, .unset, .unset] [])) (fun t k => XS.icmpYes X0.here hx rfl (pc0 := 56) (pc' := 70) rfl (hb hby at_56) rfl (XT.ii_ne_t (by decide)) (by decide) (by decide) k) ?_
    obtain ⟨T14, X14, e14, st14⟩ := getS2 X0 hx hZ hown (host := "") (Or.inl (hw _ (List.mem_of_getElem? (i := 18) rfl))) Via.refl e0 (Sta.ext O0.2 O_13) (g := (mkF m 70 #[.val (.int x1), .val (.int x2), .val (.int (4 : Int32)), .unset, .unset, .unset, .unset, .unset] [])) rfl (hb hby at_70)
    refine Goes.via (B := T14.setTop (mkF m 73 #[.val (.int x1), .val (.int x2), .val (.int (4 : Int32)), .unset, .unset, .unset, .unset, .unset] [(.ref fq4)])) (fun t k => st14 _ k) ?_
    refine Goes.via (B := T14.setTop (mkF m 74 #[.val (.int x1), .val (.int x2), .val (.int (4 : Int32)), .val (.ref fq4), .unset, .unset, .unset, .unset] [])) (fun t k => XS.astoreN X14.here hx rfl (hb hby at_73) rfl rfl (l' := #[.val (.int x1), .val (.int x2), .val (.int (4 : Int32)), .val (.ref fq4), .unset, .unset, .unset, .unset]) rfl k) ?_
    refine Goes.via (B := T14.setTop (mkF m 76 #[.val (.int x1), .val (.int x2), .val (.int (4 : Int32)), .val (.ref fq4), .unset, .unset, .unset, .unset] [(.int (536870911 : Int32))])) (fun t k => X14.ldcI hx hown (mvT hZ (hw _ (List.mem_of_getElem? (i := 20) rfl))) rfl (hb hby at_74) k) ?_
    refine Goes.via (B := T14.setTop (mkF m 78 #[.val (.int x1), .val (.int x2), .val (.int (4 : Int32)), .val (.ref fq4), .val (.int (536870911 : Int32)), .unset, .unset, .unset] [])) (fun t k => XS.istore X14.here hx rfl (hb hby at_76) rfl (l' := #[.val (.int x1), .val (.int x2), .val (.int (4 : Int32)), .val (.ref fq4), .val (.int (536870911 : Int32)), .unset, .unset, .unset]) rfl k) ?_
    refine Goes.via (B := T14.setTop (mkF m 79 #[.val (.int x1), .val (.int x2), .val (.int (4 : Int32)), .val (.ref fq4), .val (.int (536870911 : Int32)), .unset, .unset, .unset] [(.int (1 : Int32))])) (fun t k => XS.iconst X14.here hx rfl (hb hby at_78) k) ?_
    refine Goes.via (B := T14.setTop (mkF m 80 #[.val (.int x1), .val (.int x2), .val (.int (4 : Int32)), .val (.ref fq4), .val (.int (536870911 : Int32)), .unset, .unset, .unset] [(.int x2), (.int (1 : Int32))])) (fun t k => XS.iloadN X14.here hx rfl (hb hby at_79) rfl k) ?_
    refine Goes.via (B := T14.setTop (mkF m 82 #[.val (.int x1), .val (.int x2), .val (.int (4 : Int32)), .val (.ref fq4), .val (.int (536870911 : Int32)), .unset, .unset, .unset] [(.int (2147483647 : Int32)), (.int x2), (.int (1 : Int32))])) (fun t k => X14.ldcI hx hown (mvT hZ (hw _ (List.mem_of_getElem? (i := 0) rfl))) rfl (hb hby at_80) k) ?_
    refine Goes.via (B := T14.setTop (mkF m 83 #[.val (.int x1), .val (.int x2), .val (.int (4 : Int32)), .val (.ref fq4), .val (.int (536870911 : Int32)), .unset, .unset, .unset] [(.int (x2 &&& (2147483647 : Int32))), (.int (1 : Int32))])) (fun t k => XS.iand X14.here hx rfl (hb hby at_82) rfl k) ?_
    refine Goes.via (B := T14.setTop (mkF m 85 #[.val (.int x1), .val (.int x2), .val (.int (4 : Int32)), .val (.ref fq4), .val (.int (536870911 : Int32)), .unset, .unset, .unset] [(.int (536870911 : Int32)), (.int (x2 &&& (2147483647 : Int32))), (.int (1 : Int32))])) (fun t k => XS.iload X14.here hx rfl (hb hby at_83) rfl k) ?_
    refine Goes.via (B := T14.setTop (mkF m 86 #[.val (.int x1), .val (.int x2), .val (.int (4 : Int32)), .val (.ref fq4), .val (.int (536870911 : Int32)), .unset, .unset, .unset] [(.int ((x2 &&& (2147483647 : Int32)) % (536870911 : Int32))), (.int (1 : Int32))])) (fun t k => iremM X14 hx rfl (hb hby at_85) rfl (by decide) k) ?_
    refine Goes.via (B := T14.setTop (mkF m 87 #[.val (.int x1), .val (.int x2), .val (.int (4 : Int32)), .val (.ref fq4), .val (.int (536870911 : Int32)), .unset, .unset, .unset] [(.int ((1 : Int32) + ((x2 &&& (2147483647 : Int32)) % (536870911 : Int32))))])) (fun t k => XS.iadd X14.here hx rfl (hb hby at_86) rfl k) ?_
    refine Goes.via (B := T14.setTop (mkF m 89 #[.val (.int x1), .val (.int x2), .val (.int (4 : Int32)), .val (.ref fq4), .val (.int (536870911 : Int32)), .val (.int ((1 : Int32) + ((x2 &&& (2147483647 : Int32)) % (536870911 : Int32)))), .unset, .unset] [])) (fun t k => XS.istore X14.here hx rfl (hb hby at_87) rfl (l' := #[.val (.int x1), .val (.int x2), .val (.int (4 : Int32)), .val (.ref fq4), .val (.int (536870911 : Int32)), .val (.int ((1 : Int32) + ((x2 &&& (2147483647 : Int32)) % (536870911 : Int32)))), .unset, .unset]) rfl k) ?_
    suffices J15 : ∀ (mo : Int32) (hm : 1 ≤ mo.toInt ∧ mo.toInt ≤ 536870911), Goes p.tables e below (fun t o => ∃ v L, o = .returned v ∧ (own_Q3 Z x1 x2 fq0 fq1 fq2 fq3 fq4 h0 n0) v t.heap L ∧ FrameEnd s o t L (room_1).cells (room_1).slots) (T14.setTop (mkF m 89 #[.val (.int x1), .val (.int x2), .val (.int (4 : Int32)), .val (.ref fq4), .val (.int (536870911 : Int32)), .val (.int mo), .unset, .unset] [])) by exact J15 ((1 : Int32) + ((x2 &&& (2147483647 : Int32)) % (536870911 : Int32))) (own_mon x2 536870911 536870911 rfl (by decide) (by decide))
    intro mo hm
    obtain ⟨z1, z2, z3⟩ := own_eq4 hm.1 hm.2
    refine Goes.via (B := T14.setTop (mkF m 90 #[.val (.int x1), .val (.int x2), .val (.int (4 : Int32)), .val (.ref fq4), .val (.int (536870911 : Int32)), .val (.int mo), .unset, .unset] [(.int (4 : Int32))])) (fun t k => XS.iloadN X14.here hx rfl (hb hby at_89) rfl k) ?_
    refine Goes.via (B := T14.setTop (mkF m 109 #[.val (.int x1), .val (.int x2), .val (.int (4 : Int32)), .val (.ref fq4), .val (.int (536870911 : Int32)), .val (.int mo), .unset, .unset] [])) (fun t k => XS.ifYes X14.here hx rfl (pc0 := 90) (pc' := 109) rfl (hb hby at_90) rfl (XT.i0_ne_t (by decide)) (by decide) (by decide) k) ?_
    refine Goes.via (B := T14.setTop (mkF m 110 #[.val (.int x1), .val (.int x2), .val (.int (4 : Int32)), .val (.ref fq4), .val (.int (536870911 : Int32)), .val (.int mo), .unset, .unset] [(.int (4 : Int32))])) (fun t k => XS.iloadN X14.here hx rfl (hb hby at_109) rfl k) ?_
    refine Goes.via (B := T14.setTop (mkF m 111 #[.val (.int x1), .val (.int x2), .val (.int (4 : Int32)), .val (.ref fq4), .val (.int (536870911 : Int32)), .val (.int mo), .unset, .unset] [(.int (1 : Int32)), (.int (4 : Int32))])) (fun t k => XS.iconst X14.here hx rfl (hb hby at_110) k) ?_
    refine Goes.via (B := T14.setTop (mkF m 130 #[.val (.int x1), .val (.int x2), .val (.int (4 : Int32)), .val (.ref fq4), .val (.int (536870911 : Int32)), .val (.int mo), .unset, .unset] [])) (fun t k => XS.icmpYes X14.here hx rfl (pc0 := 111) (pc' := 130) rfl (hb hby at_111) rfl (XT.ii_ne_t (by decide)) (by decide) (by decide) k) ?_
    refine Goes.via (B := T14.setTop (mkF m 131 #[.val (.int x1), .val (.int x2), .val (.int (4 : Int32)), .val (.ref fq4), .val (.int (536870911 : Int32)), .val (.int mo), .unset, .unset] [(.int (4 : Int32))])) (fun t k => XS.iloadN X14.here hx rfl (hb hby at_130) rfl k) ?_
    refine Goes.via (B := T14.setTop (mkF m 132 #[.val (.int x1), .val (.int x2), .val (.int (4 : Int32)), .val (.ref fq4), .val (.int (536870911 : Int32)), .val (.int mo), .unset, .unset] [(.int (2 : Int32)), (.int (4 : Int32))])) (fun t k => XS.iconst X14.here hx rfl (hb hby at_131) k) ?_
    refine Goes.via (B := T14.setTop (mkF m 147 #[.val (.int x1), .val (.int x2), .val (.int (4 : Int32)), .val (.ref fq4), .val (.int (536870911 : Int32)), .val (.int mo), .unset, .unset] [])) (fun t k => XS.icmpYes X14.here hx rfl (pc0 := 132) (pc' := 147) rfl (hb hby at_132) rfl (XT.ii_ne_t (by decide)) (by decide) (by decide) k) ?_
    refine Goes.via (B := T14.setTop (mkF m 148 #[.val (.int x1), .val (.int x2), .val (.int (4 : Int32)), .val (.ref fq4), .val (.int (536870911 : Int32)), .val (.int mo), .unset, .unset] [(.int (4 : Int32))])) (fun t k => XS.iloadN X14.here hx rfl (hb hby at_147) rfl k) ?_
    refine Goes.via (B := T14.setTop (mkF m 149 #[.val (.int x1), .val (.int x2), .val (.int (4 : Int32)), .val (.ref fq4), .val (.int (536870911 : Int32)), .val (.int mo), .unset, .unset] [(.int (3 : Int32)), (.int (4 : Int32))])) (fun t k => XS.iconst X14.here hx rfl (hb hby at_148) k) ?_
    refine Goes.via (B := T14.setTop (mkF m 160 #[.val (.int x1), .val (.int x2), .val (.int (4 : Int32)), .val (.ref fq4), .val (.int (536870911 : Int32)), .val (.int mo), .unset, .unset] [])) (fun t k => XS.icmpYes X14.here hx rfl (pc0 := 149) (pc' := 160) rfl (hb hby at_149) rfl (XT.ii_ne_t (by decide)) (by decide) (by decide) k) ?_
    refine Goes.via (B := T14.setTop (mkF m 162 #[.val (.int x1), .val (.int x2), .val (.int (4 : Int32)), .val (.ref fq4), .val (.int (536870911 : Int32)), .val (.int mo), .unset, .unset] [(.int mo)])) (fun t k => XS.iload X14.here hx rfl (hb hby at_160) rfl k) ?_
    refine Goes.via (B := T14.setTop (mkF m 163 #[.val (.int x1), .val (.int x2), .val (.int (4 : Int32)), .val (.ref fq4), .val (.int (536870911 : Int32)), .val (.int mo), .unset, .unset] [(.int (3 : Int32)), (.int mo)])) (fun t k => XS.iconst X14.here hx rfl (hb hby at_162) k) ?_
    refine Goes.via (B := T14.setTop (mkF m 164 #[.val (.int x1), .val (.int x2), .val (.int (4 : Int32)), .val (.ref fq4), .val (.int (536870911 : Int32)), .val (.int mo), .unset, .unset] [(.int (mo / (3 : Int32)))])) (fun t k => XS.idiv X14.here hx rfl (hb hby at_163) rfl (by decide) k) ?_
    refine Goes.via (B := T14.setTop (mkF m 165 #[.val (.int x1), .val (.int x2), .val (.int (4 : Int32)), .val (.ref fq4), .val (.int (536870911 : Int32)), .val (.int mo), .unset, .unset] [(.long ((mo / (3 : Int32)).toInt64))])) (fun t k => XS.i2l X14.here hx rfl (hb hby at_164) rfl k) ?_
    refine Goes.via (B := T14.setTop (mkF m 167 #[.val (.int x1), .val (.int x2), .val (.int (4 : Int32)), .val (.ref fq4), .val (.int (536870911 : Int32)), .val (.int mo), .val (.long ((mo / (3 : Int32)).toInt64)), .second] [])) (fun t k => XS.lstore X14.here hx rfl (hb hby at_165) rfl (l' := #[.val (.int x1), .val (.int x2), .val (.int (4 : Int32)), .val (.ref fq4), .val (.int (536870911 : Int32)), .val (.int mo), .val (.long ((mo / (3 : Int32)).toInt64)), .second]) rfl k) ?_
    refine Goes.via (B := T14.setTop (mkF m 168 #[.val (.int x1), .val (.int x2), .val (.int (4 : Int32)), .val (.ref fq4), .val (.int (536870911 : Int32)), .val (.int mo), .val (.long ((mo / (3 : Int32)).toInt64)), .second] [(.ref fq4)])) (fun t k => XS.aloadN X14.here hx rfl (hb hby at_167) rfl rfl k) ?_
    refine Goes.via (B := T14.setTop (mkF m 170 #[.val (.int x1), .val (.int x2), .val (.int (4 : Int32)), .val (.ref fq4), .val (.int (536870911 : Int32)), .val (.int mo), .val (.long ((mo / (3 : Int32)).toInt64)), .second] [(.int mo), (.ref fq4)])) (fun t k => XS.iload X14.here hx rfl (hb hby at_168) rfl k) ?_
    obtain ⟨_, T16, L16, X16, ⟨rfl, M16, K16⟩, st16⟩ := callVirt X14 hx hZ hown (hw _ (List.mem_of_getElem? (i := 7) rfl)) (hw _ (List.mem_of_getElem? (i := 8) rfl)) (hw _ (List.mem_of_getElem? (i := 10) rfl)) (notFace_of_selects (args := #[]) (mvT hZ (hw _ (List.mem_of_getElem? (i := 10) rfl)))) (hw _ (List.mem_of_getElem? (i := 9) rfl)) (hw _ (List.mem_of_getElem? (i := 2) rfl)) (hw _ (List.mem_of_getElem? (i := 11) rfl)) (by decide) (argsL := [(.int mo)]) (rest := []) (own_m2 l Z a0 hw [] fq4 mo (4 : Int32) h0 n0 O0 z1 z2 O_15) e14 (O_14.ext O0.2) (lenOf own_pd1 rfl) (pc := 170) (Ls := #[.val (.int x1), .val (.int x2), .val (.int (4 : Int32)), .val (.ref fq4), .val (.int (536870911 : Int32)), .val (.int mo), .val (.long ((mo / (3 : Int32)).toInt64)), .second]) (st := [(.int mo), (.ref fq4)]) rfl (by rw [hml]; rfl) (hb hby at_170) (W := 0) (Nat.le_of_eq rfl) (by decide) (by decide) (by decide) (by decide)
    have N16 := Fr.app N0 M16
    refine Goes.via (B := T16.setTop (mkF m 173 #[.val (.int x1), .val (.int x2), .val (.int (4 : Int32)), .val (.ref fq4), .val (.int (536870911 : Int32)), .val (.int mo), .val (.long ((mo / (3 : Int32)).toInt64)), .second] [(.int ((mo.toInt64 * (4 : Int32).toInt64).toInt32 / (12 : Int32)))])) (fun t k => st16 _ k) ?_
    refine Goes.via (B := T16.setTop (mkF m 174 #[.val (.int x1), .val (.int x2), .val (.int (4 : Int32)), .val (.ref fq4), .val (.int (536870911 : Int32)), .val (.int mo), .val (.long ((mo / (3 : Int32)).toInt64)), .second] [(.long (((mo.toInt64 * (4 : Int32).toInt64).toInt32 / (12 : Int32)).toInt64))])) (fun t k => XS.i2l X16.here hx rfl (hb hby at_173) rfl k) ?_
    refine Goes.via (B := T16.setTop (mkF m 176 #[.val (.int x1), .val (.int x2), .val (.int (4 : Int32)), .val (.ref fq4), .val (.int (536870911 : Int32)), .val (.int mo), .val (.long ((mo / (3 : Int32)).toInt64)), .second] [(.long ((mo / (3 : Int32)).toInt64)), (.long (((mo.toInt64 * (4 : Int32).toInt64).toInt32 / (12 : Int32)).toInt64))])) (fun t k => XS.lload X16.here hx rfl (hb hby at_174) rfl k) ?_
    refine Goes.via (B := T16.setTop (mkF m 177 #[.val (.int x1), .val (.int x2), .val (.int (4 : Int32)), .val (.ref fq4), .val (.int (536870911 : Int32)), .val (.int mo), .val (.long ((mo / (3 : Int32)).toInt64)), .second] [(.int (XT.cmpL (((mo.toInt64 * (4 : Int32).toInt64).toInt32 / (12 : Int32)).toInt64) ((mo / (3 : Int32)).toInt64)))])) (fun t k => XT.lcmp X16.here hx rfl (hb hby at_176) rfl k) ?_
    refine Goes.via (B := T16.setTop (mkF m 180 #[.val (.int x1), .val (.int x2), .val (.int (4 : Int32)), .val (.ref fq4), .val (.int (536870911 : Int32)), .val (.int mo), .val (.long ((mo / (3 : Int32)).toInt64)), .second] [])) (fun t k => XS.ifNo X16.here hx rfl (hb hby at_177) rfl (XT.ll_ne_f z3) k) ?_
    refine Goes.via (B := T16.setTop (mkF m 181 #[.val (.int x1), .val (.int x2), .val (.int (4 : Int32)), .val (.ref fq4), .val (.int (536870911 : Int32)), .val (.int mo), .val (.long ((mo / (3 : Int32)).toInt64)), .second] [(.int (1 : Int32))])) (fun t k => XS.iconst X16.here hx rfl (hb hby at_180) k) ?_
    refine Goes.via (B := T16.setTop (mkF m 185 #[.val (.int x1), .val (.int x2), .val (.int (4 : Int32)), .val (.ref fq4), .val (.int (536870911 : Int32)), .val (.int mo), .val (.long ((mo / (3 : Int32)).toInt64)), .second] [(.int (1 : Int32))])) (fun t k => XS.goto X16.here hx rfl (pc0 := 181) (pc' := 185) rfl (hb hby at_181) (by decide) (by decide) k) ?_
    exact finN (Q := (own_Q3 Z x1 x2 fq0 fq1 fq2 fq3 fq4 h0 n0)) (F := FrameEnd) (C := (room_1).cells) (S := (room_1).slots) X16 hx (t := .boolean) Bd.returns (by simp) (z' := (1 : Int32)) rfl (hb hby at_185) K16 ⟨rfl, N16, trivial⟩ (lvN X16 hlk (by decide) (by decide))
set_option maxRecDepth 65536 in
set_option maxHeartbeats 40000000 in
theorem comes_1 {Post : Tables → Env → Array Value → State → Outcome → State → Prop} (hpost : ∀ tb e args s v u, (limb_1_1.after args s (.returned v) u = true ∧ limb_1_2.after args s (.returned v) u = true ∧ True) → FrameEnd s (.returned v) u (Jvm.fieldLocs frame_1_writes args s ++ Jvm.arrayLocs frame_1_arrays args s ++ Jvm.staticLocs frame_1_statics s) 0 0 → Post tb e args s (.returned v) u) :
    ArmFor flags0 classFile x code maxLocals ret World_1 tables_1 room_1 Calls_1 rest_1 Pre_1 Post := by
  intro l hfl _ _ p e ha hc hk s m args below hf hA hF happ hP
  obtain ⟨hcalls, hrest, hpre⟩ := hP
  obtain ⟨-, -, -, hnamed, -, -, -, hat⟩ := (Spec.applies_iff hf).mp happ
  obtain ⟨hg, hn⟩ := and_e (Cond.before_iff.mp (show (Jvm.Cond.and given_1 narrow_1).before args s = true from hpre))
  obtain ⟨g_0, r_0⟩ := and_e hg
  obtain ⟨g_1, r_1⟩ := and_e r_0
  obtain ⟨w0, w1, rfl⟩ : ∃ w0 w1 : Value, args = #[w0, w1] := by
    have hs : args.size = 2 := by simpa [Cond.value, given_1] using g_0
    obtain ⟨L⟩ := args
    match L, hs with
    | [w0, w1], _ => exact ⟨w0, w1, rfl⟩
  have hw := fun d (hd : d ∈ tables_1) => atoms_spec (ws := Jvm.Cond.code x code maxLocals ret :: tables_1) hat d (List.mem_cons_of_mem _ hd)
  have hfit : Fit s := fun {y c} hc i hi => by
    obtain ⟨ha, rfl⟩ := Array.getElem?_eq_some_iff.mp hc
    have q := List.all_eq_true.mp ((Array.all_eq_true_iff_forall_mem.mp hF) _ (Array.getElem_mem ha)) i (List.mem_range.mpr hi)
    simpa [Array.getElem?_eq_getElem hi] using q
  obtain ⟨i0, ei0⟩ := is_v g_1
  obtain rfl : w0 = (.int i0) := Option.some.inj ei0
  obtain ⟨i1, ei1⟩ := is_v r_1
  obtain rfl : w1 = (.int i1) := Option.some.inj ei1
  obtain ⟨n_0, q_0⟩ := and_e hn
  obtain ⟨n_1, q_1⟩ := and_e q_0
  obtain ⟨n_2, q_2⟩ := and_e q_1
  obtain ⟨n_3, q_3⟩ := and_e q_2
  obtain ⟨n_4, q_4⟩ := and_e q_3
  obtain ⟨n_5, q_5⟩ := and_e q_4
  obtain ⟨n_6, q_6⟩ := and_e q_5
  obtain ⟨n_7, q_7⟩ := and_e q_6
  obtain ⟨n_8, q_8⟩ := and_e q_7
  have n_9 := q_8
  obtain ⟨st_WEEKLY, es_WEEKLY⟩ := exa_v n_0
  have S_WEEKLY : Sta s s.heap "com/example/vestloan/vestloan/Frequency" "WEEKLY" "Lcom/example/vestloan/vestloan/Frequency;" (.ref st_WEEKLY) := Sta.start es_WEEKLY (Or.inr ⟨(hw _ (List.mem_of_getElem? (i := 2) rfl)), (hw _ (List.mem_of_getElem? (i := 3) rfl))⟩)
  have E_WEEKLY : Exa s s.heap st_WEEKLY "com/example/vestloan/vestloan/Frequency" := Exa.start es_WEEKLY n_0
  have Q_WEEKLY_paymentsPerYear : Fld s s.heap st_WEEKLY "com/example/vestloan/vestloan/Frequency" "paymentsPerYear" "I" (.int (52 : Int32)) := fld_int es_WEEKLY n_1
  obtain ⟨st_QUARTERLY, es_QUARTERLY⟩ := exa_v n_2
  have S_QUARTERLY : Sta s s.heap "com/example/vestloan/vestloan/Frequency" "QUARTERLY" "Lcom/example/vestloan/vestloan/Frequency;" (.ref st_QUARTERLY) := Sta.start es_QUARTERLY (Or.inr ⟨(hw _ (List.mem_of_getElem? (i := 2) rfl)), (hw _ (List.mem_of_getElem? (i := 19) rfl))⟩)
  have E_QUARTERLY : Exa s s.heap st_QUARTERLY "com/example/vestloan/vestloan/Frequency" := Exa.start es_QUARTERLY n_2
  have Q_QUARTERLY_paymentsPerYear : Fld s s.heap st_QUARTERLY "com/example/vestloan/vestloan/Frequency" "paymentsPerYear" "I" (.int (4 : Int32)) := fld_int es_QUARTERLY n_3
  obtain ⟨st_MONTHLY, es_MONTHLY⟩ := exa_v n_4
  have S_MONTHLY : Sta s s.heap "com/example/vestloan/vestloan/Frequency" "MONTHLY" "Lcom/example/vestloan/vestloan/Frequency;" (.ref st_MONTHLY) := Sta.start es_MONTHLY (Or.inr ⟨(hw _ (List.mem_of_getElem? (i := 2) rfl)), (hw _ (List.mem_of_getElem? (i := 22) rfl))⟩)
  have E_MONTHLY : Exa s s.heap st_MONTHLY "com/example/vestloan/vestloan/Frequency" := Exa.start es_MONTHLY n_4
  have Q_MONTHLY_paymentsPerYear : Fld s s.heap st_MONTHLY "com/example/vestloan/vestloan/Frequency" "paymentsPerYear" "I" (.int (12 : Int32)) := fld_int es_MONTHLY n_5
  obtain ⟨st_BIWEEKLY, es_BIWEEKLY⟩ := exa_v n_6
  have S_BIWEEKLY : Sta s s.heap "com/example/vestloan/vestloan/Frequency" "BIWEEKLY" "Lcom/example/vestloan/vestloan/Frequency;" (.ref st_BIWEEKLY) := Sta.start es_BIWEEKLY (Or.inr ⟨(hw _ (List.mem_of_getElem? (i := 2) rfl)), (hw _ (List.mem_of_getElem? (i := 25) rfl))⟩)
  have E_BIWEEKLY : Exa s s.heap st_BIWEEKLY "com/example/vestloan/vestloan/Frequency" := Exa.start es_BIWEEKLY n_6
  have Q_BIWEEKLY_paymentsPerYear : Fld s s.heap st_BIWEEKLY "com/example/vestloan/vestloan/Frequency" "paymentsPerYear" "I" (.int (26 : Int32)) := fld_int es_BIWEEKLY n_7
  obtain ⟨st_SEMIMONTHLY, es_SEMIMONTHLY⟩ := exa_v n_8
  have S_SEMIMONTHLY : Sta s s.heap "com/example/vestloan/vestloan/Frequency" "SEMIMONTHLY" "Lcom/example/vestloan/vestloan/Frequency;" (.ref st_SEMIMONTHLY) := Sta.start es_SEMIMONTHLY (Or.inr ⟨(hw _ (List.mem_of_getElem? (i := 2) rfl)), (hw _ (List.mem_of_getElem? (i := 29) rfl))⟩)
  have E_SEMIMONTHLY : Exa s s.heap st_SEMIMONTHLY "com/example/vestloan/vestloan/Frequency" := Exa.start es_SEMIMONTHLY n_8
  have Q_SEMIMONTHLY_paymentsPerYear : Fld s s.heap st_SEMIMONTHLY "com/example/vestloan/vestloan/Frequency" "paymentsPerYear" "I" (.int (24 : Int32)) := fld_int es_SEMIMONTHLY n_9
  obtain ⟨n, o, h1, h2, h3, _, L, rfl, ⟨rfl, N, -⟩, hq⟩ := own_m3 l s _ hw tables_1 i0 i1 st_WEEKLY st_BIWEEKLY st_SEMIMONTHLY st_MONTHLY st_QUARTERLY s.heap s.heap.size (Old.start s) S_WEEKLY E_WEEKLY Q_WEEKLY_paymentsPerYear S_BIWEEKLY E_BIWEEKLY Q_BIWEEKLY_paymentsPerYear S_SEMIMONTHLY E_SEMIMONTHLY Q_SEMIMONTHLY_paymentsPerYear S_MONTHLY E_MONTHLY Q_MONTHLY_paymentsPerYear S_QUARTERLY E_QUARTERLY Q_QUARTERLY_paymentsPerYear p e ha hc hk s m _ below hf ((Spec.applies_iff_loose hf).mp happ).1 ⟨rfl, State.Warmed39.refl s, rfl⟩ trivial
  refine ⟨n, _, h1, h2, h3, hpost _ _ _ _ _ _ ⟨Cond.after_iff.mpr rfl, Cond.after_iff.mpr (eq_i res_at (Term.int_eval (1)) rfl), trivial⟩ ⟨hq.1, hq.2.1, (hq.2.2.sift fun y hy => Or.inr (N y hy)).mono (by decide) (by decide)⟩⟩
theorem main_1_1 : Claimed_1_1 := comes_1 fun _ _ _ _ _ _ h hF => ⟨h.1, hF⟩
theorem main_1_2 : Claimed_1_2 := comes_1 fun _ _ _ _ _ _ h hF => ⟨h.2.1, hF⟩
end Jvm.Pilot.@@N@@
namespace Jvm.Pilot.@@N@@
open Jvm Jvm.ClassFile Sem Op Lib Jvm.Free Jvm.Stand Jvm.Pilot.@@N@@.Jvm.D
/-! MADE BY PROGRAM (witnessworld.py) out of the Statement's table words and the real class files: 13 classes; the members and pool entries that the words name. The judged class is class 1, her method 1. -/
namespace start1
open Jvm.ClassFile
def u (s : String) : CpInfo := .utf8 (stringToUtf16 s)
/-- a pool by its gaps: so many unusable entries, then the entry; so many at the end -/
def gap : Nat → List CpInfo → List CpInfo
  | 0, r => r
  | n + 1, r => .unusable :: gap n r
def poolList (es : List (Nat × CpInfo)) (last : Nat) : List CpInfo := es.foldr (fun e r => gap e.1 (e.2 :: r)) (gap last [])
def pool (es : List (Nat × CpInfo)) (last : Nat) : Array CpInfo := ⟨poolList es last⟩
def fileOf (pool : Array CpInfo) (this : Nat) (attrs : Array Attribute := #[]) (ms : Array MethodInfo := #[]) (fl : Nat := 33) (sup : Nat := 0) (ifs : Array Nat := #[]) (fds : Array FieldInfo := #[]) : ClassFile where
  minorVersion := 0
  majorVersion := 65
  constantPool := pool
  accessFlags := fl
  thisClass := this
  superClass := sup
  interfaces := ifs
  fields := fds
  methods := ms
  attributes := attrs
def plain (name : String) (sup : Option ClassId) : Class where
  name := name
  kind := .ordinary
  loader := none
  accessFlags := 33
  super := sup
  interfaces := #[]
  cf := none
  fields := #[]
  methods := #[]
  instanceTypes := #[]
  staticTypes := #[]
  resolved := #[]
  callSites := []
  init := .initialized
  statics := none
  mirror := none

def pool0 : Array CpInfo := pool [(5, u "<init>"), (0, u "()V"), (1, .class_ 10), (1, u "java/lang/Object")] 113

def k0m0 : Method := { name := "<init>", desc := "()V", sig := { parameters := [], returnType := none }, accessFlags := 1, code := none }
/-- java/lang/Object -/
def k0 : Class := { plain "java/lang/Object" none with
  accessFlags := 33
  interfaces := #[]
  cf := some (fileOf pool0 8 #[] #[{ accessFlags := 1, nameIndex := 5, descriptorIndex := 6, attributes := #[] }] 33 0 #[] #[])
  fields := #[]
  methods := #[k0m0]
  instanceTypes := #[]
  staticTypes := #[]
  resolved := Array.replicate 124 none
  statics := none }

def pool1 : Array CpInfo := pool [(2, .class_ 4), (1, u "java/lang/Object"), (0, u "<init>"), (0, u "()V"), (0, .integer 2147483647), (0, .fieldref 9 10), (0, .class_ 11), (0, .nameAndType 12 13), (0, u "com/example/vestloan/vestloan/Frequency"), (0, u "WEEKLY"), (0, u "Lcom/example/vestloan/vestloan/Frequency;"), (0, .integer 41297762), (0, .fieldref 9 16), (0, .nameAndType 17 13), (0, u "BIWEEKLY"), (0, .integer 82595524), (0, .fieldref 9 20), (0, .nameAndType 21 13), (0, u "SEMIMONTHLY"), (0, .integer 89478485), (0, .fieldref 9 24), (0, .nameAndType 25 13), (0, u "MONTHLY"), (0, .integer 178956970), (0, .fieldref 9 28), (0, .nameAndType 29 13), (0, u "QUARTERLY"), (0, .integer 536870911), (0, .long 13), (1, .long 3), (1, .long 6), (1, .long 2), (1, .methodref 9 40), (0, .nameAndType 41 42), (0, u "paymentsIn"), (0, u "(I)I"), (0, .class_ 44), (0, u "com/example/vestloan/vestloan/FrequencyPaymentsInPinLaw"), (2, u "law"), (0, u "(II)Z")] 3

def k1m0 : Method := { name := "<init>", desc := "()V", sig := { parameters := [], returnType := none }, accessFlags := 1, code := none }
def k1c1 : Code := { maxStack := 4, maxLocals := 8, code := code, exceptionTable := #[], attributes := #[] }
def k1m1 : Method := { name := "law", desc := "(II)Z", sig := { parameters := [.int, .int], returnType := some .boolean }, accessFlags := 9, code := some k1c1 }
/-- com/example/vestloan/vestloan/FrequencyPaymentsInPinLaw -/
def k1 : Class := { plain "com/example/vestloan/vestloan/FrequencyPaymentsInPinLaw" (some 0) with
  accessFlags := 49
  interfaces := #[]
  cf := some (fileOf pool1 43 #[] #[{ accessFlags := 1, nameIndex := 5, descriptorIndex := 6, attributes := #[] }, { accessFlags := 9, nameIndex := 47, descriptorIndex := 48, attributes := #[] }] 49 2 #[] #[])
  fields := #[]
  methods := #[k1m0, k1m1]
  instanceTypes := #[]
  staticTypes := #[]
  resolved := Array.replicate 52 none
  statics := none }

def pool2 : Array CpInfo := pool [(1, .class_ 2), (0, u "java/lang/constant/Constable"), (0, .class_ 4), (0, u "java/lang/Object")] 6

/-- java/lang/constant/Constable -/
def k2 : Class := { plain "java/lang/constant/Constable" (some 0) with
  accessFlags := 1537
  interfaces := #[]
  cf := some (fileOf pool2 1 #[] #[] 1537 3 #[] #[])
  fields := #[]
  methods := #[]
  instanceTypes := #[]
  staticTypes := #[]
  resolved := Array.replicate 11 none
  statics := none }

def pool3 : Array CpInfo := pool [(1, .class_ 2), (0, u "java/lang/Comparable"), (0, .class_ 4), (0, u "java/lang/Object")] 7

/-- java/lang/Comparable -/
def k3 : Class := { plain "java/lang/Comparable" (some 0) with
  accessFlags := 1537
  interfaces := #[]
  cf := some (fileOf pool3 1 #[] #[] 1537 3 #[] #[])
  fields := #[]
  methods := #[]
  instanceTypes := #[]
  staticTypes := #[]
  resolved := Array.replicate 12 none
  statics := none }

def pool4 : Array CpInfo := pool [(1, .class_ 2), (0, u "java/io/Serializable"), (0, .class_ 4), (0, u "java/lang/Object")] 2

/-- java/io/Serializable -/
def k4 : Class := { plain "java/io/Serializable" (some 0) with
  accessFlags := 1537
  interfaces := #[]
  cf := some (fileOf pool4 1 #[] #[] 1537 3 #[] #[])
  fields := #[]
  methods := #[]
  instanceTypes := #[]
  staticTypes := #[]
  resolved := Array.replicate 7 none
  statics := none }

def pool5 : Array CpInfo := pool [(2, .class_ 4), (1, u "java/lang/Enum"), (0, u "name"), (0, u "Ljava/lang/String;"), (2, u "ordinal"), (0, u "I"), (1, .class_ 14), (1, u "java/lang/Object"), (4, u "hash"), (86, .class_ 108), (1, u "java/lang/Enum$EnumDesc"), (2, .class_ 112), (0, u "java/lang/constant/Constable"), (0, .class_ 114), (0, u "java/lang/Comparable"), (0, .class_ 116), (0, u "java/io/Serializable")] 87

/-- java/lang/Enum -/
def k5 : Class := { plain "java/lang/Enum" (some 0) with
  accessFlags := 1057
  interfaces := #[2, 3, 4]
  cf := some (fileOf pool5 2 #[.nestMembers #[106]] #[] 1057 12 #[111, 113, 115] #[{ accessFlags := 18, nameIndex := 5, descriptorIndex := 6, attributes := #[] }, { accessFlags := 18, nameIndex := 9, descriptorIndex := 10, attributes := #[] }, { accessFlags := 2, nameIndex := 19, descriptorIndex := 10, attributes := #[] }])
  fields := #[{ name := "name", type := (.object "java/lang/String"), accessFlags := 18, slot := 0, constantValue := 0 }, { name := "ordinal", type := .int, accessFlags := 18, slot := 1, constantValue := 0 }, { name := "hash", type := .int, accessFlags := 2, slot := 2, constantValue := 0 }]
  methods := #[]
  instanceTypes := #[(.object "java/lang/String"), .int, .int]
  staticTypes := #[]
  resolved := Array.replicate 204 none
  statics := none }

def pool6 : Array CpInfo := pool [(1, .class_ 2), (0, u "com/example/vestloan/vestloan/Frequency"), (2, u "WEEKLY"), (0, u "Lcom/example/vestloan/vestloan/Frequency;"), (2, u "BIWEEKLY"), (2, u "SEMIMONTHLY"), (2, u "MONTHLY"), (2, u "QUARTERLY"), (2, u "$VALUES"), (0, u "[Lcom/example/vestloan/vestloan/Frequency;"), (6, .class_ 31), (1, u "java/lang/Enum"), (6, .fieldref 1 39), (0, .nameAndType 40 41), (0, u "paymentsPerYear"), (0, u "I"), (2, u "daysApart"), (7, .methodref 53 54), (0, .class_ 55), (0, .nameAndType 56 57), (0, u "java/lang/Math"), (0, u "multiplyExact"), (0, u "(II)I"), (64, u "MID_MONTH"), (9, u "paymentsIn"), (0, u "(I)I")] 8

def k6c0 : Code := { maxStack := 3, maxLocals := 2, code := prog_9_method_5_code, exceptionTable := #[], attributes := #[] }
def k6m0 : Method := { name := "paymentsIn", desc := "(I)I", sig := { parameters := [.int], returnType := some .int }, accessFlags := 1, code := some k6c0 }
/-- com/example/vestloan/vestloan/Frequency -/
def k6 : Class := { plain "com/example/vestloan/vestloan/Frequency" (some 5) with
  accessFlags := 16433
  interfaces := #[]
  cf := some (fileOf pool6 1 #[] #[{ accessFlags := 1, nameIndex := 132, descriptorIndex := 133, attributes := #[] }] 16433 29 #[] #[{ accessFlags := 16409, nameIndex := 5, descriptorIndex := 6, attributes := #[] }, { accessFlags := 16409, nameIndex := 9, descriptorIndex := 6, attributes := #[] }, { accessFlags := 16409, nameIndex := 12, descriptorIndex := 6, attributes := #[] }, { accessFlags := 16409, nameIndex := 15, descriptorIndex := 6, attributes := #[] }, { accessFlags := 16409, nameIndex := 18, descriptorIndex := 6, attributes := #[] }, { accessFlags := 26, nameIndex := 122, descriptorIndex := 41, attributes := #[] }, { accessFlags := 18, nameIndex := 40, descriptorIndex := 41, attributes := #[] }, { accessFlags := 18, nameIndex := 44, descriptorIndex := 41, attributes := #[] }, { accessFlags := 4122, nameIndex := 21, descriptorIndex := 22, attributes := #[] }])
  fields := #[{ name := "WEEKLY", type := (.object "com/example/vestloan/vestloan/Frequency"), accessFlags := 16409, slot := 0, constantValue := 0 }, { name := "BIWEEKLY", type := (.object "com/example/vestloan/vestloan/Frequency"), accessFlags := 16409, slot := 1, constantValue := 0 }, { name := "SEMIMONTHLY", type := (.object "com/example/vestloan/vestloan/Frequency"), accessFlags := 16409, slot := 2, constantValue := 0 }, { name := "MONTHLY", type := (.object "com/example/vestloan/vestloan/Frequency"), accessFlags := 16409, slot := 3, constantValue := 0 }, { name := "QUARTERLY", type := (.object "com/example/vestloan/vestloan/Frequency"), accessFlags := 16409, slot := 4, constantValue := 0 }, { name := "MID_MONTH", type := .int, accessFlags := 26, slot := 5, constantValue := 0 }, { name := "paymentsPerYear", type := .int, accessFlags := 18, slot := 3, constantValue := 0 }, { name := "daysApart", type := .int, accessFlags := 18, slot := 4, constantValue := 0 }, { name := "$VALUES", type := (.array (.object "com/example/vestloan/vestloan/Frequency")), accessFlags := 4122, slot := 6, constantValue := 0 }]
  methods := #[k6m0]
  instanceTypes := #[(.object "java/lang/String"), .int, .int, .int, .int]
  staticTypes := #[(.object "com/example/vestloan/vestloan/Frequency"), (.object "com/example/vestloan/vestloan/Frequency"), (.object "com/example/vestloan/vestloan/Frequency"), (.object "com/example/vestloan/vestloan/Frequency"), (.object "com/example/vestloan/vestloan/Frequency"), .int, (.array (.object "com/example/vestloan/vestloan/Frequency"))]
  resolved := Array.replicate 142 none
  statics := some 0 }

def pool7 : Array CpInfo := pool [(1, .class_ 2), (0, u "java/lang/Math"), (1, .class_ 6), (1, u "java/lang/Object"), (0, u "<init>"), (0, u "()V"), (89, .class_ 100), (1, u "java/lang/Math$RandomNumberGeneratorHolder"), (19, u "multiplyExact"), (51, u "negativeZeroFloatBits"), (0, u "J"), (2, u "negativeZeroDoubleBits"), (68, u "$assertionsDisabled"), (0, u "Z"), (88, u "(II)I"), (2, u "twoToTheDoubleScaleDown"), (0, u "D"), (4, u "twoToTheDoubleScaleUp"), (9, u "E"), (3, u "PI"), (2, u "TAU"), (2, u "DEGREES_TO_RADIANS"), (0, u "RADIANS_TO_DEGREES")] 94

def k7m0 : Method := { name := "<init>", desc := "()V", sig := { parameters := [], returnType := none }, accessFlags := 2, code := none }
def k7c1 : Code := { maxStack := 4, maxLocals := 4, code := jdk_29_method_28_code, exceptionTable := #[], attributes := #[] }
def k7m1 : Method := { name := "multiplyExact", desc := "(II)I", sig := { parameters := [.int, .int], returnType := some .int }, accessFlags := 9, code := some k7c1 }
/-- java/lang/Math -/
def k7 : Class := { plain "java/lang/Math" (some 0) with
  accessFlags := 49
  interfaces := #[]
  cf := some (fileOf pool7 1 #[.nestMembers #[98]] #[{ accessFlags := 2, nameIndex := 7, descriptorIndex := 8, attributes := #[] }, { accessFlags := 9, nameIndex := 120, descriptorIndex := 335, attributes := #[] }] 49 4 #[] #[{ accessFlags := 25, nameIndex := 354, descriptorIndex := 339, attributes := #[] }, { accessFlags := 25, nameIndex := 358, descriptorIndex := 339, attributes := #[] }, { accessFlags := 25, nameIndex := 361, descriptorIndex := 339, attributes := #[] }, { accessFlags := 26, nameIndex := 364, descriptorIndex := 339, attributes := #[] }, { accessFlags := 26, nameIndex := 365, descriptorIndex := 339, attributes := #[] }, { accessFlags := 26, nameIndex := 172, descriptorIndex := 173, attributes := #[] }, { accessFlags := 26, nameIndex := 176, descriptorIndex := 173, attributes := #[] }, { accessFlags := 8, nameIndex := 344, descriptorIndex := 339, attributes := #[] }, { accessFlags := 8, nameIndex := 338, descriptorIndex := 339, attributes := #[] }, { accessFlags := 4120, nameIndex := 245, descriptorIndex := 246, attributes := #[] }])
  fields := #[{ name := "E", type := .double, accessFlags := 25, slot := 0, constantValue := 0 }, { name := "PI", type := .double, accessFlags := 25, slot := 1, constantValue := 0 }, { name := "TAU", type := .double, accessFlags := 25, slot := 2, constantValue := 0 }, { name := "DEGREES_TO_RADIANS", type := .double, accessFlags := 26, slot := 3, constantValue := 0 }, { name := "RADIANS_TO_DEGREES", type := .double, accessFlags := 26, slot := 4, constantValue := 0 }, { name := "negativeZeroFloatBits", type := .long, accessFlags := 26, slot := 5, constantValue := 0 }, { name := "negativeZeroDoubleBits", type := .long, accessFlags := 26, slot := 6, constantValue := 0 }, { name := "twoToTheDoubleScaleUp", type := .double, accessFlags := 8, slot := 7, constantValue := 0 }, { name := "twoToTheDoubleScaleDown", type := .double, accessFlags := 8, slot := 8, constantValue := 0 }, { name := "$assertionsDisabled", type := .boolean, accessFlags := 4120, slot := 9, constantValue := 0 }]
  methods := #[k7m0, k7m1]
  instanceTypes := #[]
  staticTypes := #[.double, .double, .double, .double, .double, .long, .long, .double, .double, .boolean]
  resolved := Array.replicate 460 none
  statics := none }

def pool8 : Array CpInfo := pool [(1, u "java/lang/Cloneable"), (0, .class_ 1), (0, u "java/lang/Object"), (0, .class_ 3)] 3

/-- java/lang/Cloneable -/
def k8 : Class := { plain "java/lang/Cloneable" (some 0) with
  accessFlags := 1537
  interfaces := #[]
  cf := some (fileOf pool8 2 #[] #[] 1537 4 #[] #[])
  fields := #[]
  methods := #[]
  instanceTypes := #[]
  staticTypes := #[]
  resolved := Array.replicate 8 none
  statics := none }

/-- the primitive byte -/
def k9 : Class := { plain "byte" none with kind := .primitive 'B', accessFlags := 0x411 }
/-- [B -/
def k10 : Class := { plain "[B" (some 0) with kind := .array 9 .byte, interfaces := #[8, 4], accessFlags := 1041 }

/-- the primitive int -/
def k11 : Class := { plain "int" none with kind := .primitive 'I', accessFlags := 0x411 }
/-- [I -/
def k12 : Class := { plain "[I" (some 0) with kind := .array 11 .int, interfaces := #[8, 4], accessFlags := 1041 }

def heap : Heap := #[{ cls := 6, slots := #[.ref 1, .ref 2, .ref 3, .ref 4, .ref 5, .int 0, .null], vm := .statics 6 },
  { cls := 6, slots := #[.null, .int 0, .int 0, .int 52, .int 52], vm := .none },
  { cls := 6, slots := #[.null, .int 1, .int 0, .int 26, .int 26], vm := .none },
  { cls := 6, slots := #[.null, .int 2, .int 0, .int 24, .int 24], vm := .none },
  { cls := 6, slots := #[.null, .int 3, .int 0, .int 12, .int 12], vm := .none },
  { cls := 6, slots := #[.null, .int 4, .int 0, .int 4, .int 4], vm := .none }]
def classes : Array Class := #[k0, k1, k2, k3, k4, k5, k6, k7, k8, k9, k10, k11, k12]
def interned : List (Array UInt16 × Addr) := []
def slotsUsed : Nat := 32
def theMethod : MethodId := ⟨1, 1⟩
def args0 : Array Value := #[.int 5, .int 7]
def aboutOver (below : List Frame) : State where
  vm := { classes := classes, interned := interned.toArray }
  heap := heap
  slotsUsed := slotsUsed
  threads := #[{ frames := .invoking theMethod args0 :: below }]
def below0 : List Frame := [.native { method := ⟨0, 0⟩, args := #[] }]
def about1 : State := aboutOver below0
def p0 : Program := .bare "" "" ""
def e0 : Env := launch0.env 0 0 0
theorem w_frames : about1.frames = Frame.invoking theMethod args0 :: below0 := rfl
set_option maxRecDepth 65536 in
theorem w_args : argsFit about1.vm theMethod args0 = true := by decide +kernel
set_option maxRecDepth 65536 in
theorem w_heap : heapFits about1 = true := by decide +kernel
set_option maxRecDepth 65536 in
theorem w_runnable : about1.curStatus? = some .runnable := by decide +kernel
set_option maxRecDepth 65536 in
theorem w_alone : about1.alone = true := by decide +kernel
set_option maxRecDepth 65536 in
theorem w_named : about1.methodNamed? x = some theMethod := by decide +kernel
set_option maxRecDepth 65536 in
theorem w_hears : about1.hears theMethod below0 = true := by decide +kernel
set_option maxRecDepth 65536 in
theorem w_ripe : about1.ripe theMethod args0 below0 = true := by decide +kernel
theorem w_running : about1.status = .running := rfl
set_option maxRecDepth 65536 in
theorem w_room : about1.hasRoom e0.platform room_1 = true :=
  launch0.hasRoom_least _ room_1 (by decide +kernel) (by decide +kernel) (by decide +kernel) (by decide +kernel) (by decide +kernel) (by decide +kernel)
theorem allAtoms_all (ts : List Jvm.Cond) (a : Array Jvm.Value) (st : Jvm.State) : (allAtoms ts).before a st = ts.all (fun c => c.before a st) := by
  induction ts with
  | nil => rfl
  | cons c t ih =>
    show (Jvm.Cond.and c (allAtoms t)).before a st = _
    rw [Jvm.Cond.before_and, ih, List.all_cons]
def words1 : List Jvm.Cond := Jvm.Cond.code x code maxLocals ret :: tables_1
/-- a 'code' word, met by the world's own term for the bytes: nothing is compared byte by byte -/
theorem code_word {y : MethodName} {bytes : ByteArray} {mx : Nat} {rt : Option FieldType} {a : Array Value} {s : State} {m : MethodId} {meth : Method} {c : Code} (h1 : s.methodNamed? y = some m) (h2 : s.vm.method? m = some meth) (h3 : meth.code = some c) (h4 : c.code = bytes)
    (h5 : (c.maxLocals == mx && c.exceptionTable.isEmpty && decide (c.maxStack ≤ mostOperands) && decide (meth.sig.returnType = rt) && !meth.locks && decide (parseMethodDescriptor y.desc = some meth.sig)) = true) : (Jvm.Cond.code y bytes mx rt).before a s = true := by
  simp only [Bool.and_eq_true, beq_iff_eq, Bool.not_eq_true', decide_eq_true_eq] at h5
  obtain ⟨⟨⟨⟨⟨g1, g2⟩, g3⟩, g4⟩, g5⟩, g6⟩ := h5
  simp [Cond.before, Cond.holds, Cond.value, h1, h2, h3, h4, g1, g2, g3, g4, g5, g6]
def isCode : Jvm.Cond → Bool
  | .code _ _ _ _ => true
  | _ => false
theorem all_split {L : List Jvm.Cond} {P : Jvm.Cond → Bool} (h1 : L.all (fun c => isCode c || P c) = true) (h2 : ∀ c ∈ L.filter isCode, P c = true) : L.all P = true := by
  refine List.all_eq_true.mpr fun c hc => ?_
  have h := List.all_eq_true.mp h1 c hc
  rcases Bool.eq_false_or_eq_true (isCode c) with hi | hi
  · exact h2 c (List.mem_filter.mpr ⟨hc, hi⟩)
  · simpa [hi] using h
set_option maxRecDepth 65536 in
theorem w_c0 : (Jvm.Cond.code x code maxLocals ret).before args0 about1 = true := code_word (m := ⟨1, 1⟩) (meth := k1m1) (c := k1c1) (by decide +kernel) rfl rfl rfl (by decide +kernel)
set_option maxRecDepth 65536 in
theorem w_c1 : (Jvm.Cond.code ({ cls := "com/example/vestloan/vestloan/Frequency", name := "paymentsIn", desc := "(I)I" } : Jvm.MethodName) prog_9_method_5_code (2 : Nat) (Option.some Jvm.ClassFile.FieldType.int)).before args0 about1 = true := code_word (m := ⟨6, 0⟩) (meth := k6m0) (c := k6c0) (by decide +kernel) rfl rfl rfl (by decide +kernel)
set_option maxRecDepth 65536 in
theorem w_c2 : (Jvm.Cond.code ({ cls := "java/lang/Math", name := "multiplyExact", desc := "(II)I" } : Jvm.MethodName) jdk_29_method_28_code (4 : Nat) (Option.some Jvm.ClassFile.FieldType.int)).before args0 about1 = true := code_word (m := ⟨7, 1⟩) (meth := k7m1) (c := k7c1) (by decide +kernel) rfl rfl rfl (by decide +kernel)
def codes1 : List Jvm.Cond := [Jvm.Cond.code x code maxLocals ret, Jvm.Cond.code ({ cls := "com/example/vestloan/vestloan/Frequency", name := "paymentsIn", desc := "(I)I" } : Jvm.MethodName) prog_9_method_5_code (2 : Nat) (Option.some Jvm.ClassFile.FieldType.int), Jvm.Cond.code ({ cls := "java/lang/Math", name := "multiplyExact", desc := "(II)I" } : Jvm.MethodName) jdk_29_method_28_code (4 : Nat) (Option.some Jvm.ClassFile.FieldType.int)]
set_option maxRecDepth 65536 in
theorem codes_eq : words1.filter isCode = codes1 := rfl
theorem w_codes : ∀ c ∈ words1.filter isCode, c.before args0 about1 = true := by
  rw [codes_eq]
  intro c hc
  simp only [codes1, List.mem_cons, List.not_mem_nil, or_false] at hc
  rcases hc with rfl | rfl | rfl
  · exact w_c0
  · exact w_c1
  · exact w_c2
set_option maxRecDepth 65536 in
theorem w_t1 : (words1.take 24).all (fun c => isCode c || c.before args0 about1) = true := by decide +kernel
set_option maxRecDepth 65536 in
theorem w_t2 : (words1.drop 24).all (fun c => isCode c || c.before args0 about1) = true := by decide +kernel
theorem w_tables : (allAtoms (Jvm.Cond.code x code maxLocals ret :: tables_1)).before args0 about1 = true := by
  rw [allAtoms_all]
  show words1.all (fun c => c.before args0 about1) = true
  refine all_split ?_ w_codes
  rw [← List.take_append_drop 24 words1, List.all_append, w_t1, w_t2]
  rfl
set_option maxRecDepth 65536 in
theorem w_case : (Jvm.Cond.and given_1 narrow_1).before args0 about1 = true := by decide +kernel
theorem w_applies : (headSpec (Jvm.Cond.code x code maxLocals ret :: tables_1) room_1).applies x e0.platform about1 = true :=
  (Spec.applies_iff w_frames).mpr ⟨w_running, w_runnable, w_alone, w_named, w_hears, w_ripe, w_room, w_tables⟩
theorem atStart : AtStart classFile x code maxLocals ret World_1 tables_1 room_1 Calls_1 rest_1 Pre_1 launch0 p0 e0 about1 theMethod args0 below0 :=
  ⟨lists_1, trivial, launch0.admits_env _ _ _, launch0.least_env, fairChoices_fair.cas, fairChoices_fair.clock, w_frames, w_args, w_heap, w_applies, trivial, trivial, w_case⟩
end start1
theorem witness_1 : WitnessClaimed_1 := ⟨start1.p0, start1.e0, start1.about1, start1.theMethod, start1.args0, start1.below0, start1.atStart⟩
end Jvm.Pilot.@@N@@
