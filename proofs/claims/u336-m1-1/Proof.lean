import JvmDerived
import JvmDerived.Pilot.@@N@@Statement
import JvmDerived.Pilot.@@N@@Code
set_option linter.unusedVariables false
set_option linter.unusedSimpArgs false
namespace Jvm.OwnKit
open Jvm Sem ClassFile Op Lib Jvm.Stand Jvm.Free Jvm.LawKit Jvm.RoadKit
section Own
variable {p : Program} {l : Launch} {e : Env} {R : Room} {s : State} {m : MethodId} {args : Array Value} {below : List Frame} {meth : Method} {c : Code} {T : State} {locs : List Loc} {cells slots : Nat} {Z : State} {a0 : Array Value} {h h' : Heap}
/-- the walk from A on comes to an end that says Q -/
def Goes (tb : Tables) (e : Env) (below : List Frame) (Q : State → Outcome → Prop) (A : State) : Prop := ∃ t o, Steps tb e below A t ∧ t.status = .running ∧ Ended t below o ∧ Q t o
theorem Goes.via {tb : Tables} {Q : State → Outcome → Prop} {A B : State} (st : ∀ t, Steps tb e below B t → Steps tb e below A t) (k : Goes tb e below Q B) : Goes tb e below Q A := by
  obtain ⟨t, o, h, r⟩ := k; exact ⟨t, o, st t h, r⟩
/-- what a contract says at one start: the arguments as', the heap h -/
abbrev Ctr (l : Launch) (Z : State) (y : MethodName) (bytes : ByteArray) (maxL : Nat) (ret : Option FieldType) (rm : Room) (as' : Array Value) (h : Heap) (Q : Option Value → Heap → List Loc → Prop) (ws : List Cond) : Prop :=
  MetFree l y (head1 (Cond.code y bytes maxL ret :: ws) rm) (fun a U => a = as' ∧ Z.Warmed39 U.vm ∧ U.heap = h) (fun _ _ _ _ _ => True) (fun _ U o U' => ∃ v L, o = .returned v ∧ Q v U'.heap L ∧ FrameEnd U o U' L rm.cells rm.slots)
/-- what a contract says of a body that may make String constants -/
abbrev CtrW (l : Launch) (Z : State) (y : MethodName) (bytes : ByteArray) (maxL : Nat) (ret : Option FieldType) (rm : Room) (as' : Array Value) (h : Heap) (Q : Option Value → Heap → List Loc → Prop) (ws : List Cond) : Prop :=
  MetFree l y (head1 (Cond.code y bytes maxL ret :: ws) rm) (fun a U => a = as' ∧ Z.Warmed39 U.vm ∧ U.heap = h) (fun _ _ _ _ _ => True) (fun _ U o U' => ∃ v L, o = .returned v ∧ Q v U'.heap L ∧ ReturnedEndW U o U' L rm.cells rm.slots)
/-- the leave of a walk, in either frame F -/
def Lv (F : State → Outcome → State → List Loc → Nat → Nat → Prop) (e : Env) (s : State) (m : MethodId) (below : List Frame) (meth : Method) (T : State) (locs : List Loc) (C S : Nat) : Prop :=
  ∀ v : Option Value, (meth.sig.returnType = none → v = none) → ∃ fs, (∀ (f : JFrame) (acts : List Action), f.method = m → f.locked = none → f.entered = [] → (doReturn e (T.setTop f) acts v).1 = T.setFrames fs) ∧ (T.setFrames fs).status = .running ∧ Ended (T.setFrames fs) below (.returned v) ∧ F s (.returned v) (T.setFrames fs) locs C S
theorem lvN (X : Stand p l e R s m args below meth c T locs cells slots) (hlocks : meth.locks = false) {C S : Nat} (hc : cells ≤ C) (hs : slots ≤ S) : Lv FrameEnd e s m below meth T locs C S := fun v hv => by
  obtain ⟨fs, hr, hrun, hended, hW, hsame⟩ := X.leave hv hlocks
  exact ⟨fs, hr, hrun, hended, ⟨_, rfl⟩, hW, hsame.mono hc hs⟩
theorem lvW {vm0 : Vm} {k0 : Nat} (X : Stand p l e R (s.setVm vm0) m args below meth c T locs cells slots) (hlocks : meth.locks = false) (hS : s.Since vm0 k0) (eT : T.heap = h) (hk : k0 ≤ h.size) {C S : Nat} (hc : cells ≤ C) (hs : slots ≤ S) : Lv ReturnedEndW e s m below meth T locs C S := fun v hv => by
  obtain ⟨fs, hr, hrun, hended, h1, h2, h3, h4⟩ := X.leaveW hS (eT ▸ hk) hv hlocks
  exact ⟨fs, hr, hrun, hended, h1, h2, h3, h4.mono hc hs⟩
theorem fin {F : State → Outcome → State → List Loc → Nat → Nat → Prop} {v : Option Value} (hv : meth.sig.returnType = none → v = none) {A : State}
    (hk : ∀ fs, (∀ (f : JFrame) (acts : List Action), f.method = m → f.locked = none → f.entered = [] → (doReturn e (T.setTop f) acts v).1 = T.setFrames fs) → Steps p.tables e below A (T.setFrames fs))
    {Q : Option Value → Heap → List Loc → Prop} {C S : Nat} (eT : T.heap = h) (hQ : Q v h locs) (lv : Lv F e s m below meth T locs C S) :
    Goes p.tables e below (fun t o => ∃ v L, o = .returned v ∧ Q v t.heap L ∧ F s o t L C S) A := by
  obtain ⟨fs, hr, hrun, hended, hF⟩ := lv v hv
  subst eT
  exact ⟨_, _, hk fs hr, hrun, hended, v, locs, rfl, hQ, hF⟩
variable {sb : State} {F : State → Outcome → State → List Loc → Nat → Nat → Prop}
/-- return of nothing -/
theorem fin0 (X : Stand p l e R sb m args below meth c T locs cells slots) (hx : p.tables.exec = Jvm.exec) (hret : meth.sig.returnType = none) {pc : Nat} {Ls : Array Slot} (hd : decode c.code pc = .ok (.return_, 1))
    {Q : Option Value → Heap → List Loc → Prop} {C S : Nat} (eT : T.heap = h) (hQ : Q none h locs) (lv : Lv F e s m below meth T locs C S) :
    Goes p.tables e below (fun t o => ∃ v L, o = .returned v ∧ Q v t.heap L ∧ F s o t L C S) (T.setTop (mkF m pc Ls [])) :=
  fin (fun _ => rfl) (fun _ hl => X.returnOut hx hret hd hl) eT hQ lv
theorem finI (X : Stand p l e R sb m args below meth c T locs cells slots) (hx : p.tables.exec = Jvm.exec) (hret : meth.sig.returnType = some .int) {pc : Nat} {Ls : Array Slot} {st : List Value} {z : Int32} (hd : decode c.code pc = .ok (.ireturn, 1))
    {Q : Option Value → Heap → List Loc → Prop} {C S : Nat} (eT : T.heap = h) (hQ : Q (some (.int z)) h locs) (lv : Lv F e s m below meth T locs C S) :
    Goes p.tables e below (fun t o => ∃ v L, o = .returned v ∧ Q v t.heap L ∧ F s o t L C S) (T.setTop (mkF m pc Ls (.int z :: st))) :=
  fin (fun q => by rw [hret] at q; cases q) (fun _ hl => retOut X hx hret rfl (Or.inl ⟨rfl, Or.inl rfl, _, rfl⟩) hd hl) eT hQ lv
theorem finN (X : Stand p l e R sb m args below meth c T locs cells slots) (hx : p.tables.exec = Jvm.exec) {t : FieldType} (hret : meth.sig.returnType = some t) (ht : t = .boolean ∨ t = .byte ∨ t = .char ∨ t = .short) {pc : Nat} {Ls : Array Slot} {st : List Value} {z z' : Int32} (hz : nar t z = z') (hd : decode c.code pc = .ok (.ireturn, 1))
    {Q : Option Value → Heap → List Loc → Prop} {C S : Nat} (eT : T.heap = h) (hQ : Q (some (.int z')) h locs) (lv : Lv F e s m below meth T locs C S) :
    Goes p.tables e below (fun t o => ∃ v L, o = .returned v ∧ Q v t.heap L ∧ F s o t L C S) (T.setTop (mkF m pc Ls (.int z :: st))) :=
  fin (fun q => by rw [hret] at q; cases q) (fun _ hl => by subst hz; exact retN X hx hret ht hd hl) eT hQ lv
theorem finJ (X : Stand p l e R sb m args below meth c T locs cells slots) (hx : p.tables.exec = Jvm.exec) (hret : meth.sig.returnType = some .long) {pc : Nat} {Ls : Array Slot} {st : List Value} {z : Int64} (hd : decode c.code pc = .ok (.lreturn, 1))
    {Q : Option Value → Heap → List Loc → Prop} {C S : Nat} (eT : T.heap = h) (hQ : Q (some (.long z)) h locs) (lv : Lv F e s m below meth T locs C S) :
    Goes p.tables e below (fun t o => ∃ v L, o = .returned v ∧ Q v t.heap L ∧ F s o t L C S) (T.setTop (mkF m pc Ls (.long z :: st))) :=
  fin (fun q => by rw [hret] at q; cases q) (fun _ hl => retOut X hx hret rfl (Or.inr (Or.inl ⟨rfl, rfl, _, rfl⟩)) hd hl) eT hQ lv
theorem finA (X : Stand p l e R sb m args below meth c T locs cells slots) (hx : p.tables.exec = Jvm.exec) {t : FieldType} (hret : meth.sig.returnType = some t) (ht : t.isReference = true) {pc : Nat} {Ls : Array Slot} {st : List Value} {w : Value} (hw : w.isRef = true) (hn : narrow t w = w) (hd : decode c.code pc = .ok (.areturn, 1))
    {Q : Option Value → Heap → List Loc → Prop} {C S : Nat} (eT : T.heap = h) (hQ : Q (some w) h locs) (lv : Lv F e s m below meth T locs C S) :
    Goes p.tables e below (fun t o => ∃ v L, o = .returned v ∧ Q v t.heap L ∧ F s o t L C S) (T.setTop (mkF m pc Ls (w :: st))) :=
  fin (fun q => by rw [hret] at q; cases q) (fun _ hl => retOut X hx hret hn (Or.inr (Or.inr (Or.inr (Or.inr ⟨rfl, ht, hw⟩)))) hd hl) eT hQ lv
theorem nar_ref {t : FieldType} {w : Value} (ht : t.isReference = true) (hw : w.isRef = true) : narrow t w = w := by cases t <;> first | (cases ht; done) | (cases w <;> first | rfl | (cases hw; done))
theorem fit_ref {t : FieldType} {w : Value} (ht : t.isReference = true) (hw : w.isRef = true) : fits t w = true := by cases t <;> first | (cases ht; done) | (cases w <;> first | rfl | (cases hw; done))
theorem old_le {n0 : Nat} (O : Old Z n0 h) : n0 ≤ h.size := O.1 ▸ O.2.1
/-- a callee's law, in the one shape -/
abbrev BackQ (l : Launch) (R : Room) (p : Program) (e : Env) (below : List Frame) (s : State) (args : Array Value) (y : MethodName) (W : Nat) (as' : Array Value) (h : Heap) (kc ks : Nat) (Q : Option Value → Heap → List Loc → Prop) : Prop :=
  Back l R p e below s args y 3 W (fun A a => a = as' ∧ A.U.heap = h ∧ A.cells + kc ≤ R.cells ∧ A.slots + ks ≤ R.slots) (fun A _ v B => ∃ L, Q v B.U.heap L ∧ B.locs = A.locs ++ L ∧ B.cells = A.cells + kc ∧ B.slots = A.slots + ks)
theorem callStaticB (X : Stand p l e R s m args below meth c T locs cells slots) (hx : p.tables.exec = Jvm.exec) (hZ : Z.Warmed39 s.vm) {own : String} {index : Nat} {y : MethodName} {bytes : ByteArray} {maxL : Nat} {ret : Option FieldType} {kc ks : Nat} {Q : Option Value → Heap → List Loc → Prop}
    (hown : s.vm.findClass own = some m.cls) (w1 : (Cond.methodLink own index y).before a0 Z = true) (w2 : (Cond.static y).before a0 Z = true) (w3 : (Cond.initialized y.cls).before a0 Z = true) (w4 : (Cond.code y bytes maxL ret).before a0 Z = true)
    (hy : y.cls ≠ "java/lang/invoke/MethodHandle" ∧ y.cls ≠ "java/lang/invoke/VarHandle") {argsL rest : List Value} {W : Nat} (hK : BackQ l R p e below s args y W argsL.toArray h kc ks Q) (eT : T.heap = h)
    (hlen : ∀ sig, parseMethodDescriptor y.desc = some sig → argsL.length = sig.parameters.length) {pc : Nat} {Ls : Array Slot} {st : List Value} (hst : st = argsL.reverse ++ rest) (hsz : Ls.size = c.maxLocals) (hd : decode c.code pc = .ok (.invokestatic index, 3))
    (hW : (rest.map fun v => v.category).sum ≤ W) (hce : cells + kc ≤ R.cells) (hsl : slots + ks ≤ R.slots) :
    ∃ v T' L, Stand p l e R s m args below meth c T' (locs ++ L) (cells + kc) (slots + ks) ∧ Q v T'.heap L ∧ ∀ t, Steps p.tables e below (T'.setTop (mkF m (pc + 3) Ls (v.toList ++ rest))) t → Steps p.tables e below (T.setTop (mkF m pc Ls st)) t := by
  obtain ⟨v, _, ⟨T', L', k', n'⟩, -, X', ⟨L, hQ, l1, l2, l3⟩, st'⟩ := Jvm.LawKit.callS X hx hown (mvT hZ w1) (mvT hZ w2) (mvT hZ w3) (mvT hZ w4) hy hK (g := mkF m pc Ls st) rfl hsz (argsL := argsL) (rest := rest) hlen hst (by show 2 * 0 + _ ≤ _; omega) hd (fun _ _ => ⟨rfl, eT, hce, hsl⟩)
  dsimp only [Pt.U, Pt.locs, Pt.cells, Pt.slots] at X' l1 l2 l3 st' hQ
  subst l1 l2 l3
  exact ⟨v, T', L, X', hQ, st'⟩
theorem callStatic (X : Stand p l e R s m args below meth c T locs cells slots) (hx : p.tables.exec = Jvm.exec) (hZ : Z.Warmed39 s.vm) {own : String} {index : Nat} {y : MethodName} {bytes : ByteArray} {maxL : Nat} {ret : Option FieldType} {rm : Room} {Q : Option Value → Heap → List Loc → Prop}
    (hown : s.vm.findClass own = some m.cls) (w1 : (Cond.methodLink own index y).before a0 Z = true) (w2 : (Cond.static y).before a0 Z = true) (w3 : (Cond.initialized y.cls).before a0 Z = true) (w4 : (Cond.code y bytes maxL ret).before a0 Z = true)
    (hy : y.cls ≠ "java/lang/invoke/MethodHandle" ∧ y.cls ≠ "java/lang/invoke/VarHandle") {argsL rest : List Value} (hM : Ctr l Z y bytes maxL ret rm argsL.toArray h Q []) (eT : T.heap = h)
    (hlen : ∀ sig, parseMethodDescriptor y.desc = some sig → argsL.length = sig.parameters.length) {pc W : Nat} {Ls : Array Slot} {st : List Value} (hst : st = argsL.reverse ++ rest) (hsz : Ls.size = c.maxLocals) (hd : decode c.code pc = .ok (.invokestatic index, 3))
    (hW : (rest.map fun v => v.category).sum ≤ W) (hfr : rm.frames + 1 ≤ R.frames) (hlo : W + (maxL + 11) + rm.locals ≤ R.locals) (hce : cells + rm.cells ≤ R.cells) (hsl : slots + rm.slots ≤ R.slots) :
    ∃ v T' L, Stand p l e R s m args below meth c T' (locs ++ L) (cells + rm.cells) (slots + rm.slots) ∧ Q v T'.heap L ∧ ∀ t, Steps p.tables e below (T'.setTop (mkF m (pc + 3) Ls (v.toList ++ rest))) t → Steps p.tables e below (T.setTop (mkF m pc Ls st)) t :=
  callStaticB X hx hZ hown w1 w2 w3 w4 hy (backOf (W := W) hM hZ w4 w3 hfr hlo) eT hlen hst hsz hd hW hce hsl
theorem callInitB (X : Stand p l e R s m args below meth c T locs cells slots) (hx : p.tables.exec = Jvm.exec) (hZ : Z.Warmed39 s.vm) {own : String} {index : Nat} {y : MethodName} {bytes : ByteArray} {maxL : Nat} {kc ks : Nat} {Q : Option Value → Heap → List Loc → Prop} (hy1 : y.name = "<init>")
    (hown : s.vm.findClass own = some m.cls) (w1 : (Cond.methodLink own index y).before a0 Z = true) (w2 : (Cond.instanceMethod y).before a0 Z = true) (w4 : (Cond.code y bytes maxL none).before a0 Z = true)
    (hy : y.cls ≠ "java/lang/invoke/MethodHandle" ∧ y.cls ≠ "java/lang/invoke/VarHandle") {a : Addr} {argsL rest : List Value} {W : Nat} (hK : BackQ l R p e below s args y W (.ref a :: argsL).toArray h kc ks Q) (eT : T.heap = h)
    (hlen : ∀ sig, parseMethodDescriptor y.desc = some sig → argsL.length = sig.parameters.length) {pc : Nat} {Ls : Array Slot} {st : List Value} (hst : st = argsL.reverse ++ .ref a :: rest) (hsz : Ls.size = c.maxLocals) (hd : decode c.code pc = .ok (.invokespecial index, 3))
    (hW : (rest.map fun v => v.category).sum ≤ W) (hce : cells + kc ≤ R.cells) (hsl : slots + ks ≤ R.slots) :
    ∃ v T' L, Stand p l e R s m args below meth c T' (locs ++ L) (cells + kc) (slots + ks) ∧ Q v T'.heap L ∧ ∀ t, Steps p.tables e below (T'.setTop (mkF m (pc + 3) Ls (v.toList ++ rest))) t → Steps p.tables e below (T.setTop (mkF m pc Ls st)) t := by
  obtain ⟨v, _, ⟨T', L', k', n'⟩, -, X', ⟨L, hQ, l1, l2, l3⟩, st'⟩ := X.specialBack hx hy1 hown (mvT hZ w1) (mvT hZ w2) (mvT hZ w4) hy hK (g := mkF m pc Ls st) rfl hsz (Steps.refl _) (a := a) (argsL := argsL) (rest := rest) hlen hst (by show 2 * 0 + _ ≤ _; omega) hd (fun _ _ => ⟨rfl, eT, hce, hsl⟩)
  dsimp only [Pt.U, Pt.locs, Pt.cells, Pt.slots] at X' l1 l2 l3 st' hQ
  subst l1 l2 l3
  exact ⟨v, T', L, X', hQ, fun t k => st'.trans k⟩
theorem callInit (X : Stand p l e R s m args below meth c T locs cells slots) (hx : p.tables.exec = Jvm.exec) (hZ : Z.Warmed39 s.vm) {own : String} {index : Nat} {y : MethodName} {bytes : ByteArray} {maxL : Nat} {rm : Room} {Q : Option Value → Heap → List Loc → Prop} (hy1 : y.name = "<init>")
    (hown : s.vm.findClass own = some m.cls) (w1 : (Cond.methodLink own index y).before a0 Z = true) (w2 : (Cond.instanceMethod y).before a0 Z = true) (w3 : (Cond.initialized y.cls).before a0 Z = true) (w4 : (Cond.code y bytes maxL none).before a0 Z = true)
    (hy : y.cls ≠ "java/lang/invoke/MethodHandle" ∧ y.cls ≠ "java/lang/invoke/VarHandle") {a : Addr} {argsL rest : List Value} (hM : Ctr l Z y bytes maxL none rm (.ref a :: argsL).toArray h Q []) (eT : T.heap = h)
    (hlen : ∀ sig, parseMethodDescriptor y.desc = some sig → argsL.length = sig.parameters.length) {pc W : Nat} {Ls : Array Slot} {st : List Value} (hst : st = argsL.reverse ++ .ref a :: rest) (hsz : Ls.size = c.maxLocals) (hd : decode c.code pc = .ok (.invokespecial index, 3))
    (hW : (rest.map fun v => v.category).sum ≤ W) (hfr : rm.frames + 1 ≤ R.frames) (hlo : W + (maxL + 11) + rm.locals ≤ R.locals) (hce : cells + rm.cells ≤ R.cells) (hsl : slots + rm.slots ≤ R.slots) :
    ∃ v T' L, Stand p l e R s m args below meth c T' (locs ++ L) (cells + rm.cells) (slots + rm.slots) ∧ Q v T'.heap L ∧ ∀ t, Steps p.tables e below (T'.setTop (mkF m (pc + 3) Ls (v.toList ++ rest))) t → Steps p.tables e below (T.setTop (mkF m pc Ls st)) t :=
  callInitB X hx hZ hy1 hown w1 w2 w4 hy (backOf (W := W) hM hZ w4 w3 hfr hlo) eT hlen hst hsz hd hW hce hsl
theorem callVirtB (X : Stand p l e R s m args below meth c T locs cells slots) (hx : p.tables.exec = Jvm.exec) (hZ : Z.Warmed39 s.vm) {own C : String} {index : Nat} {y z : MethodName} {kc ks : Nat} {Q : Option Value → Heap → List Loc → Prop}
    (hown : s.vm.findClass own = some m.cls) (w1 : (Cond.methodLink own index y).before a0 Z = true) (w2 : (Cond.declares y).before a0 Z = true) (w5 : (Cond.selects C y z).before a0 Z = true) (hnf : NotFace s y) (w6 : (Cond.instanceMethod z).before a0 Z = true)
    (hy : y.cls ≠ "java/lang/invoke/MethodHandle" ∧ y.cls ≠ "java/lang/invoke/VarHandle") {a : Addr} {argsL rest : List Value} {W : Nat} (hK : BackQ l R p e below s args z W (.ref a :: argsL).toArray h kc ks Q) (eT : T.heap = h) (E : Exa Z h a C)
    (hlen : ∀ sig, parseMethodDescriptor y.desc = some sig → argsL.length = sig.parameters.length) {pc : Nat} {Ls : Array Slot} {st : List Value} (hst : st = argsL.reverse ++ .ref a :: rest) (hsz : Ls.size = c.maxLocals) (hd : decode c.code pc = .ok (.invokevirtual index, 3))
    (hW : (rest.map fun v => v.category).sum ≤ W) (hce : cells + kc ≤ R.cells) (hsl : slots + ks ≤ R.slots) :
    ∃ v T' L, Stand p l e R s m args below meth c T' (locs ++ L) (cells + kc) (slots + ks) ∧ Q v T'.heap L ∧ ∀ t, Steps p.tables e below (T'.setTop (mkF m (pc + 3) Ls (v.toList ++ rest))) t → Steps p.tables e below (T.setTop (mkF m pc Ls st)) t := by
  obtain ⟨cB, kB, q1, -, q3⟩ := isOf hZ eT E
  obtain ⟨v, _, ⟨T', L', k', n'⟩, -, X', ⟨L, hQ, l1, l2, l3⟩, st'⟩ := X.virtualBack hx hown (mvT hZ w1) (mvT hZ w2) hnf (mvT hZ w5) (mvT hZ w6) hy hK q1 q3 (g := mkF m pc Ls st) rfl hsz (Steps.refl _) (argsL := argsL) (rest := rest) hlen hst (by show 2 * 0 + _ ≤ _; omega) hd (fun _ _ => ⟨rfl, eT, hce, hsl⟩)
  dsimp only [Pt.U, Pt.locs, Pt.cells, Pt.slots] at X' l1 l2 l3 st' hQ
  subst l1 l2 l3
  exact ⟨v, T', L, X', hQ, fun t k => st'.trans k⟩
theorem callVirt (X : Stand p l e R s m args below meth c T locs cells slots) (hx : p.tables.exec = Jvm.exec) (hZ : Z.Warmed39 s.vm) {own C : String} {index : Nat} {y z : MethodName} {bytes : ByteArray} {maxL : Nat} {ret : Option FieldType} {rm : Room} {Q : Option Value → Heap → List Loc → Prop}
    (hown : s.vm.findClass own = some m.cls) (w1 : (Cond.methodLink own index y).before a0 Z = true) (w2 : (Cond.declares y).before a0 Z = true) (w5 : (Cond.selects C y z).before a0 Z = true) (hnf : NotFace s y) (w6 : (Cond.instanceMethod z).before a0 Z = true) (w3 : (Cond.initialized z.cls).before a0 Z = true) (w4 : (Cond.code z bytes maxL ret).before a0 Z = true)
    (hy : y.cls ≠ "java/lang/invoke/MethodHandle" ∧ y.cls ≠ "java/lang/invoke/VarHandle") {a : Addr} {argsL rest : List Value} (hM : Ctr l Z z bytes maxL ret rm (.ref a :: argsL).toArray h Q []) (eT : T.heap = h) (E : Exa Z h a C)
    (hlen : ∀ sig, parseMethodDescriptor y.desc = some sig → argsL.length = sig.parameters.length) {pc W : Nat} {Ls : Array Slot} {st : List Value} (hst : st = argsL.reverse ++ .ref a :: rest) (hsz : Ls.size = c.maxLocals) (hd : decode c.code pc = .ok (.invokevirtual index, 3))
    (hW : (rest.map fun v => v.category).sum ≤ W) (hfr : rm.frames + 1 ≤ R.frames) (hlo : W + (maxL + 11) + rm.locals ≤ R.locals) (hce : cells + rm.cells ≤ R.cells) (hsl : slots + rm.slots ≤ R.slots) :
    ∃ v T' L, Stand p l e R s m args below meth c T' (locs ++ L) (cells + rm.cells) (slots + rm.slots) ∧ Q v T'.heap L ∧ ∀ t, Steps p.tables e below (T'.setTop (mkF m (pc + 3) Ls (v.toList ++ rest))) t → Steps p.tables e below (T.setTop (mkF m pc Ls st)) t :=
  callVirtB X hx hZ hown w1 w2 w5 hnf w6 hy (backOf (W := W) hM hZ w4 w3 hfr hlo) eT E hlen hst hsz hd hW hce hsl
theorem callVirtUpB (X : Stand p l e R s m args below meth c T locs cells slots) (hx : p.tables.exec = Jvm.exec) (hZ : Z.Warmed39 s.vm) {own C owner : String} {index : Nat} {y z : MethodName} {kc ks : Nat} {Q : Option Value → Heap → List Loc → Prop}
    (hown : s.vm.findClass own = some m.cls) (w1 : (Cond.methodLink own index y).before a0 Z = true) (w7 : (Cond.sameMethod y.cls owner y.name y.desc).before a0 Z = true) (w2 : (Cond.declares ⟨owner, y.name, y.desc⟩).before a0 Z = true) (w5 : (Cond.selects C y z).before a0 Z = true) (w6 : (Cond.instanceMethod z).before a0 Z = true)
    (hy : owner ≠ "java/lang/invoke/MethodHandle" ∧ owner ≠ "java/lang/invoke/VarHandle") {a : Addr} {argsL rest : List Value} {W : Nat} (hK : BackQ l R p e below s args z W (.ref a :: argsL).toArray h kc ks Q) (eT : T.heap = h) (E : Exa Z h a C)
    (hlen : ∀ sig, parseMethodDescriptor y.desc = some sig → argsL.length = sig.parameters.length) {pc : Nat} {Ls : Array Slot} {st : List Value} (hst : st = argsL.reverse ++ .ref a :: rest) (hsz : Ls.size = c.maxLocals) (hd : decode c.code pc = .ok (.invokevirtual index, 3))
    (hW : (rest.map fun v => v.category).sum ≤ W) (hce : cells + kc ≤ R.cells) (hsl : slots + ks ≤ R.slots) :
    ∃ v T' L, Stand p l e R s m args below meth c T' (locs ++ L) (cells + kc) (slots + ks) ∧ Q v T'.heap L ∧ ∀ t, Steps p.tables e below (T'.setTop (mkF m (pc + 3) Ls (v.toList ++ rest))) t → Steps p.tables e below (T.setTop (mkF m pc Ls st)) t := by
  obtain ⟨cB, kB, q1, -, q3⟩ := isOf hZ eT E
  obtain ⟨v, _, ⟨T', L', k', n'⟩, -, X', ⟨L, hQ, l1, l2, l3⟩, st'⟩ := X.virtualBackUp hx hown (mvT hZ w1) (mvT hZ w7) (mvT hZ w2) hy (mvT hZ w5) (mvT hZ w6) hK q1 q3 (g := mkF m pc Ls st) rfl hsz (Steps.refl _) (argsL := argsL) (rest := rest) hlen hst (by show 2 * 0 + _ ≤ _; omega) hd (fun _ _ => ⟨rfl, eT, hce, hsl⟩)
  dsimp only [Pt.U, Pt.locs, Pt.cells, Pt.slots] at X' l1 l2 l3 st' hQ
  subst l1 l2 l3
  exact ⟨v, T', L, X', hQ, fun t k => st'.trans k⟩
theorem callVirtUp (X : Stand p l e R s m args below meth c T locs cells slots) (hx : p.tables.exec = Jvm.exec) (hZ : Z.Warmed39 s.vm) {own C owner : String} {index : Nat} {y z : MethodName} {bytes : ByteArray} {maxL : Nat} {ret : Option FieldType} {rm : Room} {Q : Option Value → Heap → List Loc → Prop}
    (hown : s.vm.findClass own = some m.cls) (w1 : (Cond.methodLink own index y).before a0 Z = true) (w7 : (Cond.sameMethod y.cls owner y.name y.desc).before a0 Z = true) (w2 : (Cond.declares ⟨owner, y.name, y.desc⟩).before a0 Z = true) (w5 : (Cond.selects C y z).before a0 Z = true) (w6 : (Cond.instanceMethod z).before a0 Z = true) (w3 : (Cond.initialized z.cls).before a0 Z = true) (w4 : (Cond.code z bytes maxL ret).before a0 Z = true)
    (hy : owner ≠ "java/lang/invoke/MethodHandle" ∧ owner ≠ "java/lang/invoke/VarHandle") {a : Addr} {argsL rest : List Value} (hM : Ctr l Z z bytes maxL ret rm (.ref a :: argsL).toArray h Q []) (eT : T.heap = h) (E : Exa Z h a C)
    (hlen : ∀ sig, parseMethodDescriptor y.desc = some sig → argsL.length = sig.parameters.length) {pc W : Nat} {Ls : Array Slot} {st : List Value} (hst : st = argsL.reverse ++ .ref a :: rest) (hsz : Ls.size = c.maxLocals) (hd : decode c.code pc = .ok (.invokevirtual index, 3))
    (hW : (rest.map fun v => v.category).sum ≤ W) (hfr : rm.frames + 1 ≤ R.frames) (hlo : W + (maxL + 11) + rm.locals ≤ R.locals) (hce : cells + rm.cells ≤ R.cells) (hsl : slots + rm.slots ≤ R.slots) :
    ∃ v T' L, Stand p l e R s m args below meth c T' (locs ++ L) (cells + rm.cells) (slots + rm.slots) ∧ Q v T'.heap L ∧ ∀ t, Steps p.tables e below (T'.setTop (mkF m (pc + 3) Ls (v.toList ++ rest))) t → Steps p.tables e below (T.setTop (mkF m pc Ls st)) t :=
  callVirtUpB X hx hZ hown w1 w7 w2 w5 w6 hy (backOf (W := W) hM hZ w4 w3 hfr hlo) eT E hlen hst hsz hd hW hce hsl
/-- invokevirtual of a private method -/
theorem callPrivB (X : Stand p l e R s m args below meth c T locs cells slots) (hx : p.tables.exec = Jvm.exec) (hZ : Z.Warmed39 s.vm) {own C : String} {index : Nat} {y : MethodName} {bytes : ByteArray} {maxL : Nat} {ret : Option FieldType} {kc ks : Nat} {Q : Option Value → Heap → List Loc → Prop}
    (hown : s.vm.findClass own = some m.cls) (w1 : (Cond.methodLink own index y).before a0 Z = true) (w2 : (Cond.instanceMethod y).before a0 Z = true) (w3 : (Cond.selects y.cls y y).before a0 Z = true) (w5 : (Cond.privateMethod y).before a0 Z = true) (w4 : (Cond.code y bytes maxL ret).before a0 Z = true)
    (hy : y.cls ≠ "java/lang/invoke/MethodHandle" ∧ y.cls ≠ "java/lang/invoke/VarHandle") {a : Addr} {argsL rest : List Value} {W : Nat} (hK : BackQ l R p e below s args y W (.ref a :: argsL).toArray h kc ks Q) (eT : T.heap = h) (E : Exa Z h a C)
    (hlen : ∀ sig, parseMethodDescriptor y.desc = some sig → argsL.length = sig.parameters.length) {pc : Nat} {Ls : Array Slot} {st : List Value} (hst : st = argsL.reverse ++ .ref a :: rest) (hsz : Ls.size = c.maxLocals) (hd : decode c.code pc = .ok (.invokevirtual index, 3))
    (hW : (rest.map fun v => v.category).sum ≤ W) (hce : cells + kc ≤ R.cells) (hsl : slots + ks ≤ R.slots) :
    ∃ v T' L, Stand p l e R s m args below meth c T' (locs ++ L) (cells + kc) (slots + ks) ∧ Q v T'.heap L ∧ ∀ t, Steps p.tables e below (T'.setTop (mkF m (pc + 3) Ls (v.toList ++ rest))) t → Steps p.tables e below (T.setTop (mkF m pc Ls st)) t := by
  obtain ⟨cell, q1, q2⟩ := Exa.cell E
  obtain ⟨v, _, ⟨T', L', k', n'⟩, -, X', ⟨L, hQ, l1, l2, l3⟩, st'⟩ := X.privateBack hx hown (mvT hZ w1) (mvT hZ w2) (mvT hZ w3) (Cond.privateMethod_at (args := args) (mvP hZ w5)) (mvT hZ w4) hy hK (g := mkF m pc Ls st) rfl hsz (Steps.refl _) (a := a) (by rw [eT]; exact q1) q2 (argsL := argsL) (rest := rest) hlen hst (by show 2 * 0 + _ ≤ _; omega) hd (fun _ _ => ⟨rfl, eT, hce, hsl⟩)
  dsimp only [Pt.U, Pt.locs, Pt.cells, Pt.slots] at X' l1 l2 l3 st' hQ
  subst l1 l2 l3
  exact ⟨v, T', L, X', hQ, fun t k => st'.trans k⟩
theorem callPriv (X : Stand p l e R s m args below meth c T locs cells slots) (hx : p.tables.exec = Jvm.exec) (hZ : Z.Warmed39 s.vm) {own C : String} {index : Nat} {y : MethodName} {bytes : ByteArray} {maxL : Nat} {ret : Option FieldType} {rm : Room} {Q : Option Value → Heap → List Loc → Prop}
    (hown : s.vm.findClass own = some m.cls) (w1 : (Cond.methodLink own index y).before a0 Z = true) (w2 : (Cond.instanceMethod y).before a0 Z = true) (w5 : (Cond.selects y.cls y y).before a0 Z = true) (w6 : (Cond.privateMethod y).before a0 Z = true) (w3 : (Cond.initialized y.cls).before a0 Z = true) (w4 : (Cond.code y bytes maxL ret).before a0 Z = true)
    (hy : y.cls ≠ "java/lang/invoke/MethodHandle" ∧ y.cls ≠ "java/lang/invoke/VarHandle") {a : Addr} {argsL rest : List Value} (hM : Ctr l Z y bytes maxL ret rm (.ref a :: argsL).toArray h Q []) (eT : T.heap = h) (E : Exa Z h a C)
    (hlen : ∀ sig, parseMethodDescriptor y.desc = some sig → argsL.length = sig.parameters.length) {pc W : Nat} {Ls : Array Slot} {st : List Value} (hst : st = argsL.reverse ++ .ref a :: rest) (hsz : Ls.size = c.maxLocals) (hd : decode c.code pc = .ok (.invokevirtual index, 3))
    (hW : (rest.map fun v => v.category).sum ≤ W) (hfr : rm.frames + 1 ≤ R.frames) (hlo : W + (maxL + 11) + rm.locals ≤ R.locals) (hce : cells + rm.cells ≤ R.cells) (hsl : slots + rm.slots ≤ R.slots) :
    ∃ v T' L, Stand p l e R s m args below meth c T' (locs ++ L) (cells + rm.cells) (slots + rm.slots) ∧ Q v T'.heap L ∧ ∀ t, Steps p.tables e below (T'.setTop (mkF m (pc + 3) Ls (v.toList ++ rest))) t → Steps p.tables e below (T.setTop (mkF m pc Ls st)) t :=
  callPrivB X hx hZ hown w1 w2 w5 w6 w4 hy (backOf (W := W) hM hZ w4 w3 hfr hlo) eT E hlen hst hsz hd hW hce hsl
abbrev BackQ5 (l : Launch) (R : Room) (p : Program) (e : Env) (below : List Frame) (s : State) (args : Array Value) (y : MethodName) (W : Nat) (as' : Array Value) (h : Heap) (kc ks : Nat) (Q : Option Value → Heap → List Loc → Prop) : Prop :=
  Back l R p e below s args y 5 W (fun A a => a = as' ∧ A.U.heap = h ∧ A.cells + kc ≤ R.cells ∧ A.slots + ks ≤ R.slots) (fun A _ v B => ∃ L, Q v B.U.heap L ∧ B.locs = A.locs ++ L ∧ B.cells = A.cells + kc ∧ B.slots = A.slots + ks)
theorem callFaceB (X : Stand p l e R s m args below meth c T locs cells slots) (hx : p.tables.exec = Jvm.exec) (hZ : Z.Warmed39 s.vm) {own C : String} {index count : Nat} {y z : MethodName} {kc ks : Nat} {Q : Option Value → Heap → List Loc → Prop}
    (hown : s.vm.findClass own = some m.cls) (w1 : (Cond.methodLink own index y).before a0 Z = true) (w2 : (Cond.declares y).before a0 Z = true) (w3 : (Cond.interfaceMethod y.cls y.cls y.name y.desc).before args s = true) (w5 : (Cond.selects C y z).before a0 Z = true) (w6 : (Cond.instanceMethod z).before a0 Z = true)
    (w7 : (Cond.publicMethod z).before a0 Z = true) (w8 : (Cond.unhidden C y.name y.desc).before a0 Z = true) (w9 : (Cond.castable C y.cls).before a0 Z = true)
    (hy : y.cls ≠ "java/lang/invoke/MethodHandle" ∧ y.cls ≠ "java/lang/invoke/VarHandle") {a : Addr} {argsL rest : List Value} {W : Nat} (hK : BackQ5 l R p e below s args z W (.ref a :: argsL).toArray h kc ks Q) (eT : T.heap = h) (E : Exa Z h a C)
    (hlen : ∀ sig, parseMethodDescriptor y.desc = some sig → argsL.length = sig.parameters.length) {pc : Nat} {Ls : Array Slot} {st : List Value} (hst : st = argsL.reverse ++ .ref a :: rest) (hsz : Ls.size = c.maxLocals) (hd : decode c.code pc = .ok (.invokeinterface index count, 5))
    (hW : (rest.map fun v => v.category).sum ≤ W) (hce : cells + kc ≤ R.cells) (hsl : slots + ks ≤ R.slots) :
    ∃ v T' L, Stand p l e R s m args below meth c T' (locs ++ L) (cells + kc) (slots + ks) ∧ Q v T'.heap L ∧ ∀ t, Steps p.tables e below (T'.setTop (mkF m (pc + 5) Ls (v.toList ++ rest))) t → Steps p.tables e below (T.setTop (mkF m pc Ls st)) t := by
  obtain ⟨cB, kB, q1, q2, q3⟩ := isOf hZ eT E
  obtain ⟨v, _, ⟨T', L', k', n'⟩, -, X', ⟨L, hQ, l1, l2, l3⟩, st'⟩ := X.interfaceBack hx hown (mvT hZ w1) (mvT hZ w2) w3 (mvT hZ w5) (mvT hZ w6) (mvT hZ w7) (mvT hZ w8) (mvT hZ w9) hy hK q1 q2 q3 (g := mkF m pc Ls st) rfl hsz (Steps.refl _) (argsL := argsL) (rest := rest) hlen hst (by show 2 * 0 + _ ≤ _; omega) hd (fun _ _ => ⟨rfl, eT, hce, hsl⟩)
  dsimp only [Pt.U, Pt.locs, Pt.cells, Pt.slots] at X' l1 l2 l3 st' hQ
  subst l1 l2 l3
  exact ⟨v, T', L, X', hQ, fun t k => st'.trans k⟩
theorem callFace (X : Stand p l e R s m args below meth c T locs cells slots) (hx : p.tables.exec = Jvm.exec) (hZ : Z.Warmed39 s.vm) {own C : String} {index count : Nat} {y z : MethodName} {bytes : ByteArray} {maxL : Nat} {ret : Option FieldType} {rm : Room} {Q : Option Value → Heap → List Loc → Prop}
    (hown : s.vm.findClass own = some m.cls) (w1 : (Cond.methodLink own index y).before a0 Z = true) (w2 : (Cond.declares y).before a0 Z = true) (wi : (Cond.interfaceMethod y.cls y.cls y.name y.desc).before args s = true) (w5 : (Cond.selects C y z).before a0 Z = true) (w6 : (Cond.instanceMethod z).before a0 Z = true)
    (w7 : (Cond.publicMethod z).before a0 Z = true) (w8 : (Cond.unhidden C y.name y.desc).before a0 Z = true) (w9 : (Cond.castable C y.cls).before a0 Z = true) (w3 : (Cond.initialized z.cls).before a0 Z = true) (w4 : (Cond.code z bytes maxL ret).before a0 Z = true)
    (hy : y.cls ≠ "java/lang/invoke/MethodHandle" ∧ y.cls ≠ "java/lang/invoke/VarHandle") {a : Addr} {argsL rest : List Value} (hM : Ctr l Z z bytes maxL ret rm (.ref a :: argsL).toArray h Q []) (eT : T.heap = h) (E : Exa Z h a C)
    (hlen : ∀ sig, parseMethodDescriptor y.desc = some sig → argsL.length = sig.parameters.length) {pc W : Nat} {Ls : Array Slot} {st : List Value} (hst : st = argsL.reverse ++ .ref a :: rest) (hsz : Ls.size = c.maxLocals) (hd : decode c.code pc = .ok (.invokeinterface index count, 5))
    (hW : (rest.map fun v => v.category).sum ≤ W) (hfr : rm.frames + 1 ≤ R.frames) (hlo : W + (maxL + 11) + rm.locals ≤ R.locals) (hce : cells + rm.cells ≤ R.cells) (hsl : slots + rm.slots ≤ R.slots) :
    ∃ v T' L, Stand p l e R s m args below meth c T' (locs ++ L) (cells + rm.cells) (slots + rm.slots) ∧ Q v T'.heap L ∧ ∀ t, Steps p.tables e below (T'.setTop (mkF m (pc + 5) Ls (v.toList ++ rest))) t → Steps p.tables e below (T.setTop (mkF m pc Ls st)) t :=
  callFaceB X hx hZ hown w1 w2 wi w5 w6 w7 w8 w9 hy (backOf (W := W) hM hZ w4 w3 hfr hlo) eT E hlen hst hsz hd hW hce hsl
theorem callStaticW {vm0 : Vm} {k0 : Nat} (X : Stand p l e R (s.setVm vm0) m args below meth c T locs cells slots) (hx : p.tables.exec = Jvm.exec) (hZ : Z.Warmed39 vm0) (hS : s.Since vm0 k0) (hk : k0 ≤ h.size) {own : String} {index : Nat} {y : MethodName} {bytes : ByteArray} {maxL : Nat} {ret : Option FieldType} {rm : Room} {Q : Option Value → Heap → List Loc → Prop}
    (hown : vm0.findClass own = some m.cls) (w1 : (Cond.methodLink own index y).before a0 Z = true) (w2 : (Cond.static y).before a0 Z = true) (w3 : (Cond.initialized y.cls).before a0 Z = true) (w4 : (Cond.code y bytes maxL ret).before a0 Z = true)
    (hy : y.cls ≠ "java/lang/invoke/MethodHandle" ∧ y.cls ≠ "java/lang/invoke/VarHandle") {argsL rest : List Value} (hM : CtrW l Z y bytes maxL ret rm argsL.toArray h Q []) (eT : T.heap = h)
    (hlen : ∀ sig, parseMethodDescriptor y.desc = some sig → argsL.length = sig.parameters.length) {pc W : Nat} {Ls : Array Slot} {st : List Value} (hst : st = argsL.reverse ++ rest) (hsz : Ls.size = c.maxLocals) (hd : decode c.code pc = .ok (.invokestatic index, 3))
    (hW : (rest.map fun v => v.category).sum ≤ W) (hfr : rm.frames + 1 ≤ R.frames) (hlo : W + (maxL + 11) + rm.locals ≤ R.locals) (hce : cells + rm.cells ≤ R.cells) (hsl : slots + rm.slots ≤ R.slots) :
    ∃ v T' L, Stand p l e R (s.setVm T'.vm) m args below meth c T' (locs ++ L) (cells + rm.cells) (slots + rm.slots) ∧ s.Since T'.vm T'.heap.size ∧ Z.Warmed39 T'.vm ∧ T'.vm.findClass own = some m.cls ∧ Q v T'.heap L ∧ ∀ t, Steps p.tables e below (T'.setTop (mkF m (pc + 3) Ls (v.toList ++ rest))) t → Steps p.tables e below (T.setTop (mkF m pc Ls st)) t := by
  obtain ⟨v, _, ⟨T', L', k', n'⟩, -, X', hS', hg', ⟨L, hQ, l1, l2, l3⟩, st'⟩ := callSS X hx hown (mvT (s := s.setVm vm0) hZ w1) (mvT (s := s.setVm vm0) hZ w2) (mvT (s := s.setVm vm0) hZ w3) (mvT (s := s.setVm vm0) hZ w4) hy (backOfS (W := W) hM (s := s.setVm vm0) hZ w4 w3 hfr hlo) (g := mkF m pc Ls st) rfl hsz (argsL := argsL) (rest := rest) hlen hst (by show 2 * 0 + _ ≤ _; omega) hd (fun _ _ => ⟨rfl, eT, hce, hsl⟩)
  dsimp only [Pt.U, Pt.locs, Pt.cells, Pt.slots] at X' hS' hg' l1 l2 l3 st' hQ
  subst l1 l2 l3
  exact ⟨v, T', L, X', hS.trans hS' (Nat.le_trans hk (eT ▸ hg')), State.Warmed39.trans (t := s.setVm vm0) hZ hS'.1, by rw [hS'.1.alike.findClass]; exact hown, hQ, fun t k => st'.trans k⟩
theorem callInitW {vm0 : Vm} {k0 : Nat} (X : Stand p l e R (s.setVm vm0) m args below meth c T locs cells slots) (hx : p.tables.exec = Jvm.exec) (hZ : Z.Warmed39 vm0) (hS : s.Since vm0 k0) (hk : k0 ≤ h.size) {own : String} {index : Nat} {y : MethodName} {bytes : ByteArray} {maxL : Nat} {rm : Room} {Q : Option Value → Heap → List Loc → Prop} (hy1 : y.name = "<init>")
    (hown : vm0.findClass own = some m.cls) (w1 : (Cond.methodLink own index y).before a0 Z = true) (w2 : (Cond.instanceMethod y).before a0 Z = true) (w3 : (Cond.initialized y.cls).before a0 Z = true) (w4 : (Cond.code y bytes maxL none).before a0 Z = true)
    (hy : y.cls ≠ "java/lang/invoke/MethodHandle" ∧ y.cls ≠ "java/lang/invoke/VarHandle") {a : Addr} {argsL rest : List Value} (hM : CtrW l Z y bytes maxL none rm (.ref a :: argsL).toArray h Q []) (eT : T.heap = h)
    (hlen : ∀ sig, parseMethodDescriptor y.desc = some sig → argsL.length = sig.parameters.length) {pc W : Nat} {Ls : Array Slot} {st : List Value} (hst : st = argsL.reverse ++ .ref a :: rest) (hsz : Ls.size = c.maxLocals) (hd : decode c.code pc = .ok (.invokespecial index, 3))
    (hW : (rest.map fun v => v.category).sum ≤ W) (hfr : rm.frames + 1 ≤ R.frames) (hlo : W + (maxL + 11) + rm.locals ≤ R.locals) (hce : cells + rm.cells ≤ R.cells) (hsl : slots + rm.slots ≤ R.slots) :
    ∃ v T' L, Stand p l e R (s.setVm T'.vm) m args below meth c T' (locs ++ L) (cells + rm.cells) (slots + rm.slots) ∧ s.Since T'.vm T'.heap.size ∧ Z.Warmed39 T'.vm ∧ T'.vm.findClass own = some m.cls ∧ Q v T'.heap L ∧ ∀ t, Steps p.tables e below (T'.setTop (mkF m (pc + 3) Ls (v.toList ++ rest))) t → Steps p.tables e below (T.setTop (mkF m pc Ls st)) t := by
  obtain ⟨v, _, ⟨T', L', k', n'⟩, -, X', hS', hg', ⟨L, hQ, l1, l2, l3⟩, st'⟩ := X.specialBackS hx hy1 hown (mvT (s := s.setVm vm0) hZ w1) (mvT (s := s.setVm vm0) hZ w2) (mvT (s := s.setVm vm0) hZ w4) hy (backOfS (W := W) hM (s := s.setVm vm0) hZ w4 w3 hfr hlo) (g := mkF m pc Ls st) rfl hsz (Steps.refl _) (a := a) (argsL := argsL) (rest := rest) hlen hst (by show 2 * 0 + _ ≤ _; omega) hd (fun _ _ => ⟨rfl, eT, hce, hsl⟩)
  dsimp only [Pt.U, Pt.locs, Pt.cells, Pt.slots] at X' hS' hg' l1 l2 l3 st' hQ
  subst l1 l2 l3
  exact ⟨v, T', L, X', hS.trans hS' (Nat.le_trans hk (eT ▸ hg')), State.Warmed39.trans (t := s.setVm vm0) hZ hS'.1, by rw [hS'.1.alike.findClass]; exact hown, hQ, fun t k => st'.trans k⟩
theorem callVirtW {vm0 : Vm} {k0 : Nat} (X : Stand p l e R (s.setVm vm0) m args below meth c T locs cells slots) (hx : p.tables.exec = Jvm.exec) (hZ : Z.Warmed39 vm0) (hS : s.Since vm0 k0) (hk : k0 ≤ h.size) {own C : String} {index : Nat} {y z : MethodName} {bytes : ByteArray} {maxL : Nat} {ret : Option FieldType} {rm : Room} {Q : Option Value → Heap → List Loc → Prop}
    (hown : vm0.findClass own = some m.cls) (w1 : (Cond.methodLink own index y).before a0 Z = true) (w2 : (Cond.declares y).before a0 Z = true) (w5 : (Cond.selects C y z).before a0 Z = true) (hnf : NotFace (s.setVm vm0) y) (w6 : (Cond.instanceMethod z).before a0 Z = true) (w3 : (Cond.initialized z.cls).before a0 Z = true) (w4 : (Cond.code z bytes maxL ret).before a0 Z = true)
    (hy : y.cls ≠ "java/lang/invoke/MethodHandle" ∧ y.cls ≠ "java/lang/invoke/VarHandle") {a : Addr} {argsL rest : List Value} (hM : CtrW l Z z bytes maxL ret rm (.ref a :: argsL).toArray h Q []) (eT : T.heap = h) (E : Exa Z h a C)
    (hlen : ∀ sig, parseMethodDescriptor y.desc = some sig → argsL.length = sig.parameters.length) {pc W : Nat} {Ls : Array Slot} {st : List Value} (hst : st = argsL.reverse ++ .ref a :: rest) (hsz : Ls.size = c.maxLocals) (hd : decode c.code pc = .ok (.invokevirtual index, 3))
    (hW : (rest.map fun v => v.category).sum ≤ W) (hfr : rm.frames + 1 ≤ R.frames) (hlo : W + (maxL + 11) + rm.locals ≤ R.locals) (hce : cells + rm.cells ≤ R.cells) (hsl : slots + rm.slots ≤ R.slots) :
    ∃ v T' L, Stand p l e R (s.setVm T'.vm) m args below meth c T' (locs ++ L) (cells + rm.cells) (slots + rm.slots) ∧ s.Since T'.vm T'.heap.size ∧ Z.Warmed39 T'.vm ∧ T'.vm.findClass own = some m.cls ∧ Q v T'.heap L ∧ ∀ t, Steps p.tables e below (T'.setTop (mkF m (pc + 3) Ls (v.toList ++ rest))) t → Steps p.tables e below (T.setTop (mkF m pc Ls st)) t := by
  obtain ⟨cB, kB, q1, -, q3⟩ := isOf (s := s.setVm vm0) hZ eT E
  obtain ⟨v, _, ⟨T', L', k', n'⟩, -, X', hS', hg', ⟨L, hQ, l1, l2, l3⟩, st'⟩ := X.virtualBackS hx hown (mvT (s := s.setVm vm0) hZ w1) (mvT (s := s.setVm vm0) hZ w2) hnf (mvT (s := s.setVm vm0) hZ w5) (mvT (s := s.setVm vm0) hZ w6) hy (backOfS (W := W) hM (s := s.setVm vm0) hZ w4 w3 hfr hlo) q1 q3 (g := mkF m pc Ls st) rfl hsz (Steps.refl _) (argsL := argsL) (rest := rest) hlen hst (by show 2 * 0 + _ ≤ _; omega) hd (fun _ _ => ⟨rfl, eT, hce, hsl⟩)
  dsimp only [Pt.U, Pt.locs, Pt.cells, Pt.slots] at X' hS' hg' l1 l2 l3 st' hQ
  subst l1 l2 l3
  exact ⟨v, T', L, X', hS.trans hS' (Nat.le_trans hk (eT ▸ hg')), State.Warmed39.trans (t := s.setVm vm0) hZ hS'.1, by rw [hS'.1.alike.findClass]; exact hown, hQ, fun t k => st'.trans k⟩
/-- what a contract says of a body that may read the String constants of EL; sf: cells that are no constant's -/
abbrev CtrH (l : Launch) (Z : State) (EL : List (String × Nat)) (sf : List Addr) (y : MethodName) (bytes : ByteArray) (maxL : Nat) (ret : Option FieldType) (rm : Room) (as' : Array Value) (h : Heap) (Q : Option Value → Heap → List Loc → Prop) (ws : List Cond) : Prop :=
  MetFree l y (head1 (Cond.code y bytes maxL ret :: ws) rm) (fun a U => a = as' ∧ Z.Warmed39 U.vm ∧ U.heap = h ∧ CHv Z EL U.vm h ∧ ∀ x ∈ sf, Safe Z EL U.vm h x) (fun _ _ _ _ _ => True) (fun _ U o U' => ∃ v L, o = .returned v ∧ Q v U'.heap L ∧ CHr Z EL U.vm U.heap U'.vm U'.heap ∧ ReturnedEndW U o U' L rm.cells rm.slots)
/-- the frame of such a body -/
def EndH (Z : State) (EL : List (String × Nat)) (s : State) (o : Outcome) (t : State) (L : List Loc) (k n : Nat) : Prop := CHr Z EL s.vm s.heap t.vm t.heap ∧ ReturnedEndW s o t L k n
theorem lvH {EL : List (String × Nat)} {vm0 : Vm} {k0 : Nat} (X : Stand p l e R (s.setVm vm0) m args below meth c T locs cells slots) (hlocks : meth.locks = false) (hS : s.Since vm0 k0) (eT : T.heap = h) (hk : k0 ≤ h.size) (hZ : Z.Warmed39 vm0) (hEL : EW Z a0 EL) (hR : CHr Z EL s.vm s.heap vm0 h) {C S : Nat} (hc : cells ≤ C) (hs : slots ≤ S) : Lv (EndH Z EL) e s m below meth T locs C S := fun v hv => by
  obtain ⟨fs, hr, hrun, hended, h1, h2, h3, h4⟩ := X.leaveW hS (eT ▸ hk) hv hlocks
  refine ⟨fs, hr, hrun, hended, ?_, h1, h2, h3, h4.mono hc hs⟩
  have q := hR.trans (CHv.at X hZ hEL hR.1)
  subst eT
  exact q
theorem backH {EL : List (String × Nat)} {sf : List Addr} {vm0 : Vm} {y : MethodName} {bytes : ByteArray} {maxL : Nat} {ret : Option FieldType} {rm : Room} {len W : Nat} {as' : Array Value} {Q : Option Value → Heap → List Loc → Prop}
    (hM : CtrH l Z EL sf y bytes maxL ret rm as' h Q [])
    (hZ : Z.Warmed39 vm0) (wc : (Cond.code y bytes maxL ret).before a0 Z = true) (wz : (Cond.initialized y.cls).before a0 Z = true) (hf : rm.frames + 1 ≤ R.frames) (hl : W + (maxL + 11) + rm.locals ≤ R.locals) (hEL : EW Z a0 EL) (H : CHv Z EL vm0 h) (hsf : ∀ x ∈ sf, x < h.size ∧ Safe Z EL vm0 h x) :
    BackS l R p e below (s.setVm vm0) args y len W (fun A a => a = as' ∧ A.U.heap = h ∧ A.cells + rm.cells ≤ R.cells ∧ A.slots + rm.slots ≤ R.slots)
      (fun A _ v B => ∃ L, Q v B.U.heap L ∧ B.locs = A.locs ++ L ∧ B.cells = A.cells + rm.cells ∧ B.slots = A.slots + rm.slots ∧ CHr Z EL vm0 h B.U.vm B.U.heap) :=
  BackS.of_freeW (bytes := bytes) (maxL := maxL) (ret := ret) (E := fun _ first o t L k n => k = rm.cells ∧ n = rm.slots ∧ (∃ v, o = .returned v ∧ Q v t.heap L) ∧ CHr Z EL first.vm first.heap t.vm t.heap) hM hf hl
    (fun m meth c A a Y hp => have hU : Z.Warmed39 A.U.vm := wtrans (s := s.setVm vm0) hZ Y.warmed
      ⟨by show (Cond.and _ .tt).before a A.U = true; rw [Cond.before_and, mv hU wc]; rfl, mv hU wc, mv hU wz, hp.2.2.1, hp.2.2.2⟩)
    (fun m meth c A a g mk Y hp => ⟨hp.1, wtrans (s := s.setVm vm0) hZ Y.warmed, hp.2.1, (CHv.at Y hZ hEL H).1, fun x hx => (CHv.at Y hZ hEL H).safe (hsf x hx).1 (hsf x hx).2⟩) (fun _ _ _ _ _ _ _ _ _ => trivial)
    (fun _ _ _ _ ⟨v, L, h1, h2, h3, h4⟩ => ⟨L, _, _, h4, rfl, rfl, ⟨v, h1, h2⟩, h3⟩)
    (fun m meth c A a g mk v t L k n Y hp _ _ ⟨e1, e2, ⟨v', e3, e4⟩, e5⟩ => by
      cases e3; subst e1 e2
      refine ⟨L, e4, rfl, rfl, rfl, (CHv.at Y hZ hEL H).trans ?_⟩
      rw [← hp.2.1]; exact e5)
theorem callStaticH {EL : List (String × Nat)} {sf : List Addr} {vm0 : Vm} {k0 : Nat} (X : Stand p l e R (s.setVm vm0) m args below meth c T locs cells slots) (hx : p.tables.exec = Jvm.exec) (hZ : Z.Warmed39 vm0) (hS : s.Since vm0 k0) (hk : k0 ≤ h.size) (hEL : EW Z a0 EL) (H : CHv Z EL vm0 h) (hsf : ∀ x ∈ sf, x < h.size ∧ Safe Z EL vm0 h x) {own : String} {index : Nat} {y : MethodName} {bytes : ByteArray} {maxL : Nat} {ret : Option FieldType} {rm : Room} {Q : Option Value → Heap → List Loc → Prop}
    (hown : vm0.findClass own = some m.cls) (w1 : (Cond.methodLink own index y).before a0 Z = true) (w2 : (Cond.static y).before a0 Z = true) (w3 : (Cond.initialized y.cls).before a0 Z = true) (w4 : (Cond.code y bytes maxL ret).before a0 Z = true)
    (hy : y.cls ≠ "java/lang/invoke/MethodHandle" ∧ y.cls ≠ "java/lang/invoke/VarHandle") {argsL rest : List Value} (hM : CtrH l Z EL sf y bytes maxL ret rm argsL.toArray h Q []) (eT : T.heap = h)
    (hlen : ∀ sig, parseMethodDescriptor y.desc = some sig → argsL.length = sig.parameters.length) {pc W : Nat} {Ls : Array Slot} {st : List Value} (hst : st = argsL.reverse ++ rest) (hsz : Ls.size = c.maxLocals) (hd : decode c.code pc = .ok (.invokestatic index, 3))
    (hW : (rest.map fun v => v.category).sum ≤ W) (hfr : rm.frames + 1 ≤ R.frames) (hlo : W + (maxL + 11) + rm.locals ≤ R.locals) (hce : cells + rm.cells ≤ R.cells) (hsl : slots + rm.slots ≤ R.slots) :
    ∃ v T' L, Stand p l e R (s.setVm T'.vm) m args below meth c T' (locs ++ L) (cells + rm.cells) (slots + rm.slots) ∧ s.Since T'.vm T'.heap.size ∧ Z.Warmed39 T'.vm ∧ T'.vm.findClass own = some m.cls ∧ CHr Z EL vm0 h T'.vm T'.heap ∧ Q v T'.heap L ∧ ∀ t, Steps p.tables e below (T'.setTop (mkF m (pc + 3) Ls (v.toList ++ rest))) t → Steps p.tables e below (T.setTop (mkF m pc Ls st)) t := by
  obtain ⟨v, _, ⟨T', L', k', n'⟩, -, X', hS', hg', ⟨L, hQ, l1, l2, l3, hC⟩, st'⟩ := callSS X hx hown (mvT (s := s.setVm vm0) hZ w1) (mvT (s := s.setVm vm0) hZ w2) (mvT (s := s.setVm vm0) hZ w3) (mvT (s := s.setVm vm0) hZ w4) hy (backH (W := W) hM hZ w4 w3 hfr hlo hEL H hsf) (g := mkF m pc Ls st) rfl hsz (argsL := argsL) (rest := rest) hlen hst (by show 2 * 0 + _ ≤ _; omega) hd (fun _ _ => ⟨rfl, eT, hce, hsl⟩)
  dsimp only [Pt.U, Pt.locs, Pt.cells, Pt.slots] at X' hS' hg' l1 l2 l3 st' hQ hC
  subst l1 l2 l3
  exact ⟨v, T', L, X', hS.trans hS' (Nat.le_trans hk (eT ▸ hg')), State.Warmed39.trans (t := s.setVm vm0) hZ hS'.1, by rw [hS'.1.alike.findClass]; exact hown, hC, hQ, fun t k => st'.trans k⟩
theorem callInitH {EL : List (String × Nat)} {sf : List Addr} {vm0 : Vm} {k0 : Nat} (X : Stand p l e R (s.setVm vm0) m args below meth c T locs cells slots) (hx : p.tables.exec = Jvm.exec) (hZ : Z.Warmed39 vm0) (hS : s.Since vm0 k0) (hk : k0 ≤ h.size) (hEL : EW Z a0 EL) (H : CHv Z EL vm0 h) (hsf : ∀ x ∈ sf, x < h.size ∧ Safe Z EL vm0 h x) {own : String} {index : Nat} {y : MethodName} {bytes : ByteArray} {maxL : Nat} {rm : Room} {Q : Option Value → Heap → List Loc → Prop} (hy1 : y.name = "<init>")
    (hown : vm0.findClass own = some m.cls) (w1 : (Cond.methodLink own index y).before a0 Z = true) (w2 : (Cond.instanceMethod y).before a0 Z = true) (w3 : (Cond.initialized y.cls).before a0 Z = true) (w4 : (Cond.code y bytes maxL none).before a0 Z = true)
    (hy : y.cls ≠ "java/lang/invoke/MethodHandle" ∧ y.cls ≠ "java/lang/invoke/VarHandle") {a : Addr} {argsL rest : List Value} (hM : CtrH l Z EL sf y bytes maxL none rm (.ref a :: argsL).toArray h Q []) (eT : T.heap = h)
    (hlen : ∀ sig, parseMethodDescriptor y.desc = some sig → argsL.length = sig.parameters.length) {pc W : Nat} {Ls : Array Slot} {st : List Value} (hst : st = argsL.reverse ++ .ref a :: rest) (hsz : Ls.size = c.maxLocals) (hd : decode c.code pc = .ok (.invokespecial index, 3))
    (hW : (rest.map fun v => v.category).sum ≤ W) (hfr : rm.frames + 1 ≤ R.frames) (hlo : W + (maxL + 11) + rm.locals ≤ R.locals) (hce : cells + rm.cells ≤ R.cells) (hsl : slots + rm.slots ≤ R.slots) :
    ∃ v T' L, Stand p l e R (s.setVm T'.vm) m args below meth c T' (locs ++ L) (cells + rm.cells) (slots + rm.slots) ∧ s.Since T'.vm T'.heap.size ∧ Z.Warmed39 T'.vm ∧ T'.vm.findClass own = some m.cls ∧ CHr Z EL vm0 h T'.vm T'.heap ∧ Q v T'.heap L ∧ ∀ t, Steps p.tables e below (T'.setTop (mkF m (pc + 3) Ls (v.toList ++ rest))) t → Steps p.tables e below (T.setTop (mkF m pc Ls st)) t := by
  obtain ⟨v, _, ⟨T', L', k', n'⟩, -, X', hS', hg', ⟨L, hQ, l1, l2, l3, hC⟩, st'⟩ := X.specialBackS hx hy1 hown (mvT (s := s.setVm vm0) hZ w1) (mvT (s := s.setVm vm0) hZ w2) (mvT (s := s.setVm vm0) hZ w4) hy (backH (W := W) hM hZ w4 w3 hfr hlo hEL H hsf) (g := mkF m pc Ls st) rfl hsz (Steps.refl _) (a := a) (argsL := argsL) (rest := rest) hlen hst (by show 2 * 0 + _ ≤ _; omega) hd (fun _ _ => ⟨rfl, eT, hce, hsl⟩)
  dsimp only [Pt.U, Pt.locs, Pt.cells, Pt.slots] at X' hS' hg' l1 l2 l3 st' hQ hC
  subst l1 l2 l3
  exact ⟨v, T', L, X', hS.trans hS' (Nat.le_trans hk (eT ▸ hg')), State.Warmed39.trans (t := s.setVm vm0) hZ hS'.1, by rw [hS'.1.alike.findClass]; exact hown, hC, hQ, fun t k => st'.trans k⟩
theorem callVirtH {EL : List (String × Nat)} {sf : List Addr} {vm0 : Vm} {k0 : Nat} (X : Stand p l e R (s.setVm vm0) m args below meth c T locs cells slots) (hx : p.tables.exec = Jvm.exec) (hZ : Z.Warmed39 vm0) (hS : s.Since vm0 k0) (hk : k0 ≤ h.size) (hEL : EW Z a0 EL) (H : CHv Z EL vm0 h) (hsf : ∀ x ∈ sf, x < h.size ∧ Safe Z EL vm0 h x) {own C : String} {index : Nat} {y z : MethodName} {bytes : ByteArray} {maxL : Nat} {ret : Option FieldType} {rm : Room} {Q : Option Value → Heap → List Loc → Prop}
    (hown : vm0.findClass own = some m.cls) (w1 : (Cond.methodLink own index y).before a0 Z = true) (w2 : (Cond.declares y).before a0 Z = true) (w5 : (Cond.selects C y z).before a0 Z = true) (hnf : NotFace (s.setVm vm0) y) (w6 : (Cond.instanceMethod z).before a0 Z = true) (w3 : (Cond.initialized z.cls).before a0 Z = true) (w4 : (Cond.code z bytes maxL ret).before a0 Z = true)
    (hy : y.cls ≠ "java/lang/invoke/MethodHandle" ∧ y.cls ≠ "java/lang/invoke/VarHandle") {a : Addr} {argsL rest : List Value} (hM : CtrH l Z EL sf z bytes maxL ret rm (.ref a :: argsL).toArray h Q []) (eT : T.heap = h) (E : Exa Z h a C)
    (hlen : ∀ sig, parseMethodDescriptor y.desc = some sig → argsL.length = sig.parameters.length) {pc W : Nat} {Ls : Array Slot} {st : List Value} (hst : st = argsL.reverse ++ .ref a :: rest) (hsz : Ls.size = c.maxLocals) (hd : decode c.code pc = .ok (.invokevirtual index, 3))
    (hW : (rest.map fun v => v.category).sum ≤ W) (hfr : rm.frames + 1 ≤ R.frames) (hlo : W + (maxL + 11) + rm.locals ≤ R.locals) (hce : cells + rm.cells ≤ R.cells) (hsl : slots + rm.slots ≤ R.slots) :
    ∃ v T' L, Stand p l e R (s.setVm T'.vm) m args below meth c T' (locs ++ L) (cells + rm.cells) (slots + rm.slots) ∧ s.Since T'.vm T'.heap.size ∧ Z.Warmed39 T'.vm ∧ T'.vm.findClass own = some m.cls ∧ CHr Z EL vm0 h T'.vm T'.heap ∧ Q v T'.heap L ∧ ∀ t, Steps p.tables e below (T'.setTop (mkF m (pc + 3) Ls (v.toList ++ rest))) t → Steps p.tables e below (T.setTop (mkF m pc Ls st)) t := by
  obtain ⟨cB, kB, q1, -, q3⟩ := isOf (s := s.setVm vm0) hZ eT E
  obtain ⟨v, _, ⟨T', L', k', n'⟩, -, X', hS', hg', ⟨L, hQ, l1, l2, l3, hC⟩, st'⟩ := X.virtualBackS hx hown (mvT (s := s.setVm vm0) hZ w1) (mvT (s := s.setVm vm0) hZ w2) hnf (mvT (s := s.setVm vm0) hZ w5) (mvT (s := s.setVm vm0) hZ w6) hy (backH (W := W) hM hZ w4 w3 hfr hlo hEL H hsf) q1 q3 (g := mkF m pc Ls st) rfl hsz (Steps.refl _) (argsL := argsL) (rest := rest) hlen hst (by show 2 * 0 + _ ≤ _; omega) hd (fun _ _ => ⟨rfl, eT, hce, hsl⟩)
  dsimp only [Pt.U, Pt.locs, Pt.cells, Pt.slots] at X' hS' hg' l1 l2 l3 st' hQ hC
  subst l1 l2 l3
  exact ⟨v, T', L, X', hS.trans hS' (Nat.le_trans hk (eT ▸ hg')), State.Warmed39.trans (t := s.setVm vm0) hZ hS'.1, by rw [hS'.1.alike.findClass]; exact hown, hC, hQ, fun t k => st'.trans k⟩
theorem rebase {vm0 : Vm} {k0 : Nat} {own : String} (X : Stand p l e R (s.setVm vm0) m args below meth c T locs cells slots) (hS : s.Since vm0 k0) (eT : T.heap = h) (hk : k0 ≤ h.size) (hZ : Z.Warmed39 vm0) (hown : vm0.findClass own = some m.cls) :
    Stand p l e R (s.setVm T.vm) m args below meth c T locs cells slots ∧ s.Since T.vm h.size ∧ Z.Warmed39 T.vm ∧ T.vm.findClass own = some m.cls :=
  ⟨X.retabled X.warmed.wide, hS.trans (X.warmed.since h.size) hk, wtrans (s := s.setVm vm0) hZ X.warmed, by rw [X.warmed.wide.alike.findClass]; exact hown⟩
theorem fld_int {args : Array Value} {t : Term} {x : Addr} {C n d : String} {k : Int32} (ht : t.eval args s none [] s = some (.ref x)) (hq : (Cond.eq (Term.field t C n d) (Term.int k)).value args s none s [] = some true) : Fld s s.heap x C n d (.int k) :=
  Fld.start ((fld_at (C := C) (n := n) (dd := d) ht).symm.trans (eqv_i (Term.int_eval k) hq))
/-- the class C has its Class object, at mr -/
def Mirr (Z : State) (C : String) (mr : Addr) : Prop := ∃ (c : ClassId) (k : Class), Z.vm.findClass C = some c ∧ Z.vm.classes[c]? = some k ∧ k.mirror = some mr
theorem gclsS (X : Stand p l e R s m args below meth c T locs cells slots) (hx : p.tables.exec = Jvm.exec) (hZ : Z.Warmed39 s.vm) {own C : String} {index : Nat} (hown : s.vm.findClass own = some m.cls)
    (w1 : (Cond.methodLink own index ⟨"java/lang/Object", "getClass", "()Ljava/lang/Class;"⟩).before a0 Z = true) (w2 : (Cond.declares ⟨"java/lang/Object", "getClass", "()Ljava/lang/Class;"⟩).before a0 Z = true) (w4 : (Cond.selects C ⟨"java/lang/Object", "getClass", "()Ljava/lang/Class;"⟩ ⟨"java/lang/Object", "getClass", "()Ljava/lang/Class;"⟩).before a0 Z = true)
    (w5 : (Cond.instanceMethod ⟨"java/lang/Object", "getClass", "()Ljava/lang/Class;"⟩).before a0 Z = true) (w6 : (Cond.native ⟨"java/lang/Object", "getClass", "()Ljava/lang/Class;"⟩).before a0 Z = true) (eT : T.heap = h) {a : Addr} (E : Exa Z h a C) {mr : Addr} (M : Mirr Z C mr)
    {g : JFrame} (hg : g.method = m) (hsize : g.locals.size = c.maxLocals) {rest : List Value} (hs : g.stack = .ref a :: rest) (hd : decode c.code g.pc = .ok (.invokevirtual index, 3)) (hf : 1 ≤ R.frames) {W : Nat} (hW : 2 * g.monitorRoom + (rest.map fun v => v.category).sum ≤ W) (hl : W + (nativeFrameWords "java/lang/Object" "getClass" 1 + 11) ≤ R.locals) :
    ∃ T', Stand p l e R s m args below meth c T' locs cells slots ∧ T'.heap = h ∧ ∀ target, Steps p.tables e below (T'.setTop { g with pc := g.pc + 3, stack := .ref mr :: rest }) target → Steps p.tables e below (T.setTop g) target := by
  obtain ⟨cB, kB, i1, i2, i3⟩ := isOf hZ eT E
  obtain ⟨cc, kc, m1, m2, m3⟩ := M
  rw [hZ.alike.findClass] at i1
  cases i1.symm.trans m1
  obtain ⟨k', q, ek⟩ := hZ.alike.2.2 _ _ m2
  obtain ⟨vm', X', st⟩ := X.getClassOf hx hown (mvT hZ w1) (mvT hZ w2) (notFace_of_selects (args := #[]) (mvT hZ w4)) (mvT hZ w4) (mvT hZ w5) (mvT hZ w6) (by rw [hZ.alike.findClass]; exact m1) i3 q (by rw [ek]; exact m3) hg hsize hs hd hf (by omega)
  exact ⟨_, X', eT, st⟩
theorem len_is {args : Array Value} {t : Term} {a : Addr} {cl : Cell} {ty : FieldType} {k : Int32} (ht : t.eval args s none [] s = some (.ref a)) (A : Arr s s.heap a cl ty) (hq : (Cond.eq (Term.length t) (Term.int k)).value args s none s [] = some true) : cl.slots.size < 2 ^ 31 ∧ cl.slots.size.toInt32 = k := by
  have ha := A.fin (Vm.Alike.refl s.vm)
  by_cases hl : cl.slots.size < 2 ^ 31
  · exact ⟨hl, gotT (Cond.eq_ints (len_f ht ha hl) (Term.int_eval k)) hq⟩
  · obtain ⟨v, y, e1, -, -, -⟩ := cmp_v (Or.inl hq)
    simp [Term.eval, ht, ha] at e1
    omega
theorem sub_at {args : Array Value} {a b : Term} {idx : List Nat} {x y : Int32} (ha : a.eval args s none idx s = some (.int x)) (hb : b.eval args s none idx s = some (.int y)) : (Term.sub a b).eval args s none idx s = some (.int (x - y)) := by simp [Term.eval, ha, hb]
theorem own_nc (x : Int32) : nar .char (x &&& 255).toUInt32.toUInt16.toUInt32.toInt32 = x &&& 255 := by
  rw [i2c_mask]; exact i2c_mask x
theorem own_cr (x : Int32) : ¬ (x &&& 255) < 0 ∧ ¬ (255 : Int32) < (x &&& 255) := by
  have q := c_and x 255 (by decide)
  have e0 : (0 : Int32).toInt = 0 := rfl
  have e1 : (255 : Int32).toInt = 255 := rfl
  rw [Int32.lt_iff_toInt_lt, Int32.lt_iff_toInt_lt]; omega
theorem ns_root {O K : String} {n : Nat} (w : (Cond.noSuperclass O).before a0 Z = true) (wk : (Cond.instantiable K n).before a0 Z = true) (hn : O ≠ K) : NS Z O K := by
  obtain ⟨c, k, h1, h2, h3, -, -⟩ := Cond.noSuperclass_spec w
  obtain ⟨t, -, g1, -⟩ := Cond.instantiable_spec wk
  have ne := ids_ne h1 g1 hn
  refine ⟨c, t, h1, g1, fun fuel => ?_⟩
  cases fuel with
  | zero => rfl
  | succ f => simp [Vm.isSubclassAux, ne, h2, h3]
theorem ns_no {C S K : String} {n : Nat} (w : (Cond.superclass C S).before a0 Z = true) (wk : (Cond.instantiable K n).before a0 Z = true) (ns : NS Z C K) (hn : C ≠ K) : ∃ c t, Z.vm.findClass C = some c ∧ Z.vm.findClass K = some t ∧ Z.vm.assignable c t = false := by
  obtain ⟨c, t, h0, g0, n3⟩ := ns
  obtain ⟨p, k, kp, h1, h2, h3, h4, h5, -, h7⟩ := Cond.superclass_spec h0 w
  obtain ⟨t', k', g1, g2, g5, g6, -⟩ := Cond.instantiable_spec wk
  cases g0.symm.trans g1
  have g7 := (Bool.or_eq_false_iff.mp g6).1
  have ne := ids_ne h0 g0 hn
  refine ⟨c, t, h0, g0, ?_⟩
  show Z.vm.assignableAux (255 + 1) c t = false
  simp [Vm.assignableAux, ne, h2, g2, h5, g5, g7, Vm.isSubclass, n3]
end Own
end Jvm.OwnKit
namespace Jvm.Pilot.@@N@@
open Jvm Jvm.ClassFile Sem Op Lib Jvm.Free Jvm.Stand Jvm.LawKit Jvm.RoadKit Jvm.OwnKit Bundle Jvm.Pilot.@@N@@.Jvm.D
theorem own_pos {x m : Int32} (hm : 0 ≤ m.toInt) (h : ¬ (x &&& m) = 0) : ¬ (x &&& m) < 1 := by
  have q := c_and x m hm
  rw [Int32.lt_iff_toInt_lt]
  intro r
  apply h
  apply Int32.toInt_inj.mp
  have e1 : (1 : Int32).toInt = 1 := rfl
  have e0 : (0 : Int32).toInt = 0 := rfl
  omega
theorem own_pn0 : plainName "com/example/mensajero/mensajero/PoolSettings" = true := by first | (simp [plainName, overriddenIn]; done) | decide +kernel
theorem own_d_prog_43_method_1_code_0 : decode prog_43_method_1_code 0 = .ok (.aload_n 0, 1) := by decide +kernel
theorem own_d_prog_43_method_1_code_1 : decode prog_43_method_1_code 1 = .ok (.invokespecial 1, 3) := by decide +kernel
theorem own_d_prog_43_method_1_code_4 : decode prog_43_method_1_code 4 = .ok (.aload_n 0, 1) := by decide +kernel
theorem own_d_prog_43_method_1_code_5 : decode prog_43_method_1_code 5 = .ok (.iload_n 1, 1) := by decide +kernel
theorem own_d_prog_43_method_1_code_6 : decode prog_43_method_1_code 6 = .ok (.putfield 7, 3) := by decide +kernel
theorem own_d_prog_43_method_1_code_9 : decode prog_43_method_1_code 9 = .ok (.aload_n 0, 1) := by decide +kernel
theorem own_d_prog_43_method_1_code_10 : decode prog_43_method_1_code 10 = .ok (.aload_n 2, 1) := by decide +kernel
theorem own_d_prog_43_method_1_code_11 : decode prog_43_method_1_code 11 = .ok (.putfield 13, 3) := by decide +kernel
theorem own_d_prog_43_method_1_code_14 : decode prog_43_method_1_code 14 = .ok (.aload_n 0, 1) := by decide +kernel
theorem own_d_prog_43_method_1_code_15 : decode prog_43_method_1_code 15 = .ok (.iload_n 3, 1) := by decide +kernel
theorem own_d_prog_43_method_1_code_16 : decode prog_43_method_1_code 16 = .ok (.putfield 17, 3) := by decide +kernel
theorem own_d_prog_43_method_1_code_19 : decode prog_43_method_1_code 19 = .ok (.return_, 1) := by decide +kernel
theorem own_ef1 (m : MethodId) (x0 : Addr) (x1 : Int32) (x2 : Addr) (x3 : Int32)  : entryFrame m #[(.ref x0), (.int x1), (.ref x2), (.int x3)] 4 = mkF m 0 #[.val (.ref x0), .val (.int x1), .val (.ref x2), .val (.int x3)] [] := by first | (simp [entryFrame, mkF, argsToLocals, Value.category]; done) | rfl
abbrev own_Q1 (Z : State) (a1 : Addr) (x2 : Int32) (a3 : Addr) (x4 : Int32) (h0 : Heap) (n0 : Nat) (v : Option Value) (h : Heap) (L : List Loc) : Prop := v = none ∧ Fr n0 L ∧ Keep h0 h [a1] ∧ Exa Z h a1 "com/example/mensajero/mensajero/PoolSettings" ∧ Fld Z h a1 "com/example/mensajero/mensajero/PoolSettings" "threads" "I" (.int x2) ∧ Fld Z h a1 "com/example/mensajero/mensajero/PoolSettings" "timeSlice" "Ljava/time/Duration;" (.ref a3) ∧ Fld Z h a1 "com/example/mensajero/mensajero/PoolSettings" "messagesPerRun" "I" (.int x4)
set_option maxRecDepth 65536 in
set_option maxHeartbeats 40000000 in
theorem own_m1 (l : Launch) (Z : State) (a0 : Array Value) (hw : ∀ d ∈ tables_1, d.before a0 Z = true) (ws : List Jvm.Cond) (a1 : Addr) (x2 : Int32) (a3 : Addr) (x4 : Int32) (h0 : Heap) (n0 : Nat) (O0 : Old Z n0 h0) (gn_a1 : n0 ≤ a1) (F_1 : Exa Z h0 a1 "com/example/mensajero/mensajero/PoolSettings") (F_2 : Fld Z h0 a1 "com/example/mensajero/mensajero/PoolSettings" "threads" "I" (.int (0 : Int32))) (F_3 : Fld Z h0 a1 "com/example/mensajero/mensajero/PoolSettings" "timeSlice" "Ljava/time/Duration;" .null) (F_4 : Fld Z h0 a1 "com/example/mensajero/mensajero/PoolSettings" "messagesPerRun" "I" (.int (0 : Int32))) :
    Ctr l Z (⟨"com/example/mensajero/mensajero/PoolSettings", "<init>", "(ILjava/time/Duration;I)V"⟩ : MethodName) prog_43_method_1_code 4 none ({ frames := 1, cells := 0, slots := 0, locals := 12 } : Room) #[(.ref a1), (.int x2), (.ref a3), (.int x4)] h0 (own_Q1 Z a1 x2 a3 x4 h0 n0) ws := by
  refine MetFree.of_bodySF (plainFor_of_name own_pn0) hisR ?_
  intro p e s m args below meth c s₁ Bd hml0 hP hK
  obtain ⟨rfl, hZ, hh⟩ := hP
  have hx := Bd.exec
  have hby := Bd.bytes
  have hlk : meth.locks = false := Bd.notSynchronized
  have hml : c.maxLocals = 4 := hml0
  have hown : s.vm.findClass "com/example/mensajero/mensajero/PoolSettings" = some m.cls := findClass_of_methodNamed Bd.named
  have hnm := (name_of_methodNamed Bd.named Bd.method).1
  have X0 : Stand p l e ({ frames := 1, cells := 0, slots := 0, locals := 12 } : Room) s m #[(.ref a1), (.int x2), (.ref a3), (.int x4)] below meth c s₁ [] 0 0 := Stand.of_body Bd
  have e0 : s₁.heap = h0 := by rw [← hh, Bd.state]; rfl
  have N0 := Fr.nil n0
  show Goes p.tables e below (fun t o => ∃ v L, o = .returned v ∧ (own_Q1 Z a1 x2 a3 x4 h0 n0) v t.heap L ∧ FrameEnd s o t L (({ frames := 1, cells := 0, slots := 0, locals := 12 } : Room)).cells (({ frames := 1, cells := 0, slots := 0, locals := 12 } : Room)).slots) _
  refine Goes.via (B := s₁.setTop (mkF m 0 #[.val (.ref a1), .val (.int x2), .val (.ref a3), .val (.int x4)] [])) (fun t k => castTop (own_ef1 m a1 x2 a3 x4) k) ?_
  refine Goes.via (B := s₁.setTop (mkF m 1 #[.val (.ref a1), .val (.int x2), .val (.ref a3), .val (.int x4)] [(.ref a1)])) (fun t k => XS.aloadN X0.here hx rfl (hb hby own_d_prog_43_method_1_code_0) rfl rfl k) ?_
  obtain ⟨T1, X1, e1, st1⟩ := initO X0 hx hZ hown (hw _ (List.mem_of_getElem? (i := 12) rfl)) (hw _ (List.mem_of_getElem? (i := 13) rfl)) (hw _ (List.mem_of_getElem? (i := 14) rfl)) e0 (g := (mkF m 1 #[.val (.ref a1), .val (.int x2), .val (.ref a3), .val (.int x4)] [(.ref a1)])) rfl (by rw [hml]; rfl) rfl (hb hby own_d_prog_43_method_1_code_1) (by decide) (W := 0) (by show 2 * 0 + _ ≤ _; exact Nat.le_of_eq rfl) (by decide)
  refine Goes.via (B := T1.setTop (mkF m 4 #[.val (.ref a1), .val (.int x2), .val (.ref a3), .val (.int x4)] [])) (fun t k => st1 _ k) ?_
  refine Goes.via (B := T1.setTop (mkF m 5 #[.val (.ref a1), .val (.int x2), .val (.ref a3), .val (.int x4)] [(.ref a1)])) (fun t k => XS.aloadN X1.here hx rfl (hb hby own_d_prog_43_method_1_code_4) rfl rfl k) ?_
  refine Goes.via (B := T1.setTop (mkF m 6 #[.val (.ref a1), .val (.int x2), .val (.ref a3), .val (.int x4)] [(.int x2), (.ref a1)])) (fun t k => XS.iloadN X1.here hx rfl (hb hby own_d_prog_43_method_1_code_5) rfl k) ?_
  obtain ⟨T2, h2, X2, e2, W2, st2⟩ := putF X1 hx hZ hown (host := "") (Or.inl (hw _ (List.mem_of_getElem? (i := 15) rfl))) Via.refl e1 F_2 F_1 (Or.inr ⟨(hw _ (List.mem_of_getElem? (i := 16) rfl)), rfl, hnm⟩) (hw _ (List.mem_of_getElem? (i := 6) rfl)) (ty := .int) (by decide) rfl rfl (g := (mkF m 6 #[.val (.ref a1), .val (.int x2), .val (.ref a3), .val (.int x4)] [(.int x2), (.ref a1)])) rfl rfl (hb hby own_d_prog_43_method_1_code_6)
  have N2 := Fr.snoc X2 N0 gn_a1
  refine Goes.via (B := T2.setTop (mkF m 9 #[.val (.ref a1), .val (.int x2), .val (.ref a3), .val (.int x4)] [])) (fun t k => st2 _ k) ?_
  refine Goes.via (B := T2.setTop (mkF m 10 #[.val (.ref a1), .val (.int x2), .val (.ref a3), .val (.int x4)] [(.ref a1)])) (fun t k => XS.aloadN X2.here hx rfl (hb hby own_d_prog_43_method_1_code_9) rfl rfl k) ?_
  refine Goes.via (B := T2.setTop (mkF m 11 #[.val (.ref a1), .val (.int x2), .val (.ref a3), .val (.int x4)] [(.ref a3), (.ref a1)])) (fun t k => XS.aloadN X2.here hx rfl (hb hby own_d_prog_43_method_1_code_10) rfl rfl k) ?_
  have c3 : Fld Z h2 a1 "com/example/mensajero/mensajero/PoolSettings" "timeSlice" "Ljava/time/Duration;" .null := (Fld.other W2 F_3 (Or.inr (slot_ne (Or.inr (hw _ (List.mem_of_getElem? (i := 18) rfl))) (Or.inr (hw _ (List.mem_of_getElem? (i := 16) rfl))) (by decide) (t := (.object "java/time/Duration")) (t' := .int) (by decide) (by decide))))
  obtain ⟨T4, h4, X4, e4, W4, st4⟩ := putF X2 hx hZ hown (host := "") (Or.inl (hw _ (List.mem_of_getElem? (i := 17) rfl))) Via.refl e2 c3 (Exa.wr W2 F_1) (Or.inr ⟨(hw _ (List.mem_of_getElem? (i := 18) rfl)), rfl, hnm⟩) (hw _ (List.mem_of_getElem? (i := 6) rfl)) (ty := (.object "java/time/Duration")) (by decide) rfl rfl (g := (mkF m 11 #[.val (.ref a1), .val (.int x2), .val (.ref a3), .val (.int x4)] [(.ref a3), (.ref a1)])) rfl rfl (hb hby own_d_prog_43_method_1_code_11)
  have N4 := Fr.snoc X4 N2 gn_a1
  refine Goes.via (B := T4.setTop (mkF m 14 #[.val (.ref a1), .val (.int x2), .val (.ref a3), .val (.int x4)] [])) (fun t k => st4 _ k) ?_
  refine Goes.via (B := T4.setTop (mkF m 15 #[.val (.ref a1), .val (.int x2), .val (.ref a3), .val (.int x4)] [(.ref a1)])) (fun t k => XS.aloadN X4.here hx rfl (hb hby own_d_prog_43_method_1_code_14) rfl rfl k) ?_
  refine Goes.via (B := T4.setTop (mkF m 16 #[.val (.ref a1), .val (.int x2), .val (.ref a3), .val (.int x4)] [(.int x4), (.ref a1)])) (fun t k => XS.iloadN X4.here hx rfl (hb hby own_d_prog_43_method_1_code_15) rfl k) ?_
  have c5 : Fld Z h4 a1 "com/example/mensajero/mensajero/PoolSettings" "messagesPerRun" "I" (.int (0 : Int32)) := (Fld.other W4 (Fld.other W2 F_4 (Or.inr (slot_ne (Or.inr (hw _ (List.mem_of_getElem? (i := 20) rfl))) (Or.inr (hw _ (List.mem_of_getElem? (i := 16) rfl))) (by decide) (t := .int) (t' := .int) (by decide) (by decide)))) (Or.inr (slot_ne (Or.inr (hw _ (List.mem_of_getElem? (i := 20) rfl))) (Or.inr (hw _ (List.mem_of_getElem? (i := 18) rfl))) (by decide) (t := .int) (t' := (.object "java/time/Duration")) (by decide) (by decide))))
  obtain ⟨T6, h6, X6, e6, W6, st6⟩ := putF X4 hx hZ hown (host := "") (Or.inl (hw _ (List.mem_of_getElem? (i := 19) rfl))) Via.refl e4 c5 (Exa.wr W4 (Exa.wr W2 F_1)) (Or.inr ⟨(hw _ (List.mem_of_getElem? (i := 20) rfl)), rfl, hnm⟩) (hw _ (List.mem_of_getElem? (i := 6) rfl)) (ty := .int) (by decide) rfl rfl (g := (mkF m 16 #[.val (.ref a1), .val (.int x2), .val (.ref a3), .val (.int x4)] [(.int x4), (.ref a1)])) rfl rfl (hb hby own_d_prog_43_method_1_code_16)
  have N6 := Fr.snoc X6 N4 gn_a1
  refine Goes.via (B := T6.setTop (mkF m 19 #[.val (.ref a1), .val (.int x2), .val (.ref a3), .val (.int x4)] [])) (fun t k => st6 _ k) ?_
  have c7 : Fld Z h6 a1 "com/example/mensajero/mensajero/PoolSettings" "threads" "I" (.int x2) := (Fld.other W6 (Fld.other W4 (Fld.same W2 F_2) (Or.inr (slot_ne (Or.inr (hw _ (List.mem_of_getElem? (i := 16) rfl))) (Or.inr (hw _ (List.mem_of_getElem? (i := 18) rfl))) (by decide) (t := .int) (t' := (.object "java/time/Duration")) (by decide) (by decide)))) (Or.inr (slot_ne (Or.inr (hw _ (List.mem_of_getElem? (i := 16) rfl))) (Or.inr (hw _ (List.mem_of_getElem? (i := 20) rfl))) (by decide) (t := .int) (t' := .int) (by decide) (by decide))))
  have c8 : Fld Z h6 a1 "com/example/mensajero/mensajero/PoolSettings" "timeSlice" "Ljava/time/Duration;" (.ref a3) := (Fld.other W6 (Fld.same W4 c3) (Or.inr (slot_ne (Or.inr (hw _ (List.mem_of_getElem? (i := 18) rfl))) (Or.inr (hw _ (List.mem_of_getElem? (i := 20) rfl))) (by decide) (t := (.object "java/time/Duration")) (t' := .int) (by decide) (by decide))))
  exact fin0 (Q := (own_Q1 Z a1 x2 a3 x4 h0 n0)) (F := FrameEnd) (C := (({ frames := 1, cells := 0, slots := 0, locals := 12 } : Room)).cells) (S := (({ frames := 1, cells := 0, slots := 0, locals := 12 } : Room)).slots) X6 hx Bd.returns (hb hby own_d_prog_43_method_1_code_19) e6 ⟨rfl, N6, ((((Keep.refl h0 [a1]).wr W2 (Or.inl (List.mem_of_getElem? (i := 0) rfl))).wr W4 (Or.inl (List.mem_of_getElem? (i := 0) rfl))).wr W6 (Or.inl (List.mem_of_getElem? (i := 0) rfl))), (Exa.wr W6 (Exa.wr W4 (Exa.wr W2 F_1))), c7, c8, (Fld.same W6 c5)⟩ (lvN X6 hlk (by decide) (by decide))
theorem own_d_prog_43_method_2_code_0 : decode prog_43_method_2_code 0 = .ok (.iload_n 0, 1) := by decide +kernel
theorem own_d_prog_43_method_2_code_1 : decode prog_43_method_2_code 1 = .ok (.iconst 1, 1) := by decide +kernel
theorem own_d_prog_43_method_2_code_2 : decode prog_43_method_2_code 2 = .ok (.if_icmp .ge 17, 3) := by decide +kernel
theorem own_d_prog_43_method_2_code_19 : decode prog_43_method_2_code 19 = .ok (.new 8, 3) := by decide +kernel
theorem own_d_prog_43_method_2_code_22 : decode prog_43_method_2_code 22 = .ok (.dup, 1) := by decide +kernel
theorem own_d_prog_43_method_2_code_23 : decode prog_43_method_2_code 23 = .ok (.iload_n 0, 1) := by decide +kernel
theorem own_d_prog_43_method_2_code_24 : decode prog_43_method_2_code 24 = .ok (.getstatic 29, 3) := by decide +kernel
theorem own_d_prog_43_method_2_code_27 : decode prog_43_method_2_code 27 = .ok (.bipush 100, 2) := by decide +kernel
theorem own_d_prog_43_method_2_code_29 : decode prog_43_method_2_code 29 = .ok (.invokespecial 32, 3) := by decide +kernel
theorem own_pd0 : parseMethodDescriptor "(ILjava/time/Duration;I)V" = some ⟨[.int, (.object "java/time/Duration"), .int], none⟩ := by decide +kernel
theorem own_d_prog_43_method_2_code_32 : decode prog_43_method_2_code 32 = .ok (.areturn, 1) := by decide +kernel
theorem own_ef2 (m : MethodId) (x0 : Int32)  : entryFrame m #[(.int x0)] 1 = mkF m 0 #[.val (.int x0)] [] := by first | (simp [entryFrame, mkF, argsToLocals, Value.category]; done) | rfl
abbrev own_Q2 (Z : State) (x1 : Int32) (w1 : Addr) (h0 : Heap) (n0 : Nat) (v : Option Value) (h : Heap) (L : List Loc) : Prop := ∃ b : Addr, v = some (.ref b) ∧ Fr n0 L ∧ Keep h0 h [] ∧ h0.size ≤ b ∧ Exa Z h b "com/example/mensajero/mensajero/PoolSettings" ∧ Fld Z h b "com/example/mensajero/mensajero/PoolSettings" "threads" "I" (.int x1) ∧ Fld Z h b "com/example/mensajero/mensajero/PoolSettings" "timeSlice" "Ljava/time/Duration;" (.ref w1) ∧ Fld Z h b "com/example/mensajero/mensajero/PoolSettings" "messagesPerRun" "I" (.int (100 : Int32))
set_option maxRecDepth 65536 in
set_option maxHeartbeats 40000000 in
theorem own_m2 (l : Launch) (Z : State) (a0 : Array Value) (hw : ∀ d ∈ tables_1, d.before a0 Z = true) (ws : List Jvm.Cond) (x1 : Int32) (w1 : Addr) (h0 : Heap) (n0 : Nat) (O0 : Old Z n0 h0) (hc1 : ¬ x1 < (1 : Int32)) (O_1 : Sta Z Z.heap "com/example/mensajero/mensajero/PoolSettings" "DEFAULT_TIME_SLICE" "Ljava/time/Duration;" (.ref w1)) :
    Ctr l Z (⟨"com/example/mensajero/mensajero/PoolSettings", "ofThreads", "(I)Lcom/example/mensajero/mensajero/PoolSettings;"⟩ : MethodName) prog_43_method_2_code 1 (some (.object "com/example/mensajero/mensajero/PoolSettings")) ({ frames := 2, cells := 1, slots := 3, locals := 28 } : Room) #[(.int x1)] h0 (own_Q2 Z x1 w1 h0 n0) ws := by
  refine MetFree.of_bodySF (plainFor_of_name own_pn0) hisR ?_
  intro p e s m args below meth c s₁ Bd hml0 hP hK
  obtain ⟨rfl, hZ, hh⟩ := hP
  have hx := Bd.exec
  have hby := Bd.bytes
  have hlk : meth.locks = false := Bd.notSynchronized
  have hml : c.maxLocals = 1 := hml0
  have hown : s.vm.findClass "com/example/mensajero/mensajero/PoolSettings" = some m.cls := findClass_of_methodNamed Bd.named
  have hnm := (name_of_methodNamed Bd.named Bd.method).1
  have X0 : Stand p l e ({ frames := 2, cells := 1, slots := 3, locals := 28 } : Room) s m #[(.int x1)] below meth c s₁ [] 0 0 := Stand.of_body Bd
  have e0 : s₁.heap = h0 := by rw [← hh, Bd.state]; rfl
  have N0 := Fr.nil n0
  show Goes p.tables e below (fun t o => ∃ v L, o = .returned v ∧ (own_Q2 Z x1 w1 h0 n0) v t.heap L ∧ FrameEnd s o t L (({ frames := 2, cells := 1, slots := 3, locals := 28 } : Room)).cells (({ frames := 2, cells := 1, slots := 3, locals := 28 } : Room)).slots) _
  refine Goes.via (B := s₁.setTop (mkF m 0 #[.val (.int x1)] [])) (fun t k => castTop (own_ef2 m x1) k) ?_
  refine Goes.via (B := s₁.setTop (mkF m 1 #[.val (.int x1)] [(.int x1)])) (fun t k => XS.iloadN X0.here hx rfl (hb hby own_d_prog_43_method_2_code_0) rfl k) ?_
  refine Goes.via (B := s₁.setTop (mkF m 2 #[.val (.int x1)] [(.int (1 : Int32)), (.int x1)])) (fun t k => XS.iconst X0.here hx rfl (hb hby own_d_prog_43_method_2_code_1) k) ?_
  refine Goes.via (B := s₁.setTop (mkF m 19 #[.val (.int x1)] [])) (fun t k => XS.icmpYes X0.here hx rfl (pc0 := 2) (pc' := 19) rfl (hb hby own_d_prog_43_method_2_code_2) rfl (XT.ii_ge_t hc1) (by decide) (by decide) k) ?_
  obtain ⟨T1, h1, X1, e1, E1, A1, D1, U1, st1⟩ := newO X0 hx hZ hown (hw _ (List.mem_of_getElem? (i := 5) rfl)) (hw _ (List.mem_of_getElem? (i := 6) rfl)) (hw _ (List.mem_of_getElem? (i := 3) rfl)) e0 (g := (mkF m 19 #[.val (.int x1)] [])) rfl (hb hby own_d_prog_43_method_2_code_19) (by decide) (by decide)
  obtain ⟨b1, g1⟩ : ∃ z, z = h0.size := ⟨_, rfl⟩
  rw [← g1] at A1 D1 U1 st1
  have gn1 : n0 ≤ b1 := Nat.le_trans (old_le O0) (Nat.le_of_eq g1.symm)
  have gs1 : h0.size ≤ b1 := Nat.le_trans (Keep.refl h0 []).1 (Nat.le_of_eq g1.symm)
  have F1_threads : Fld Z h1 b1 "com/example/mensajero/mensajero/PoolSettings" "threads" "I" (.int (0 : Int32)) := D1 (Or.inr (hw _ (List.mem_of_getElem? (i := 16) rfl))) (ty := .int) (by decide)
  have F1_timeSlice : Fld Z h1 b1 "com/example/mensajero/mensajero/PoolSettings" "timeSlice" "Ljava/time/Duration;" .null := D1 (Or.inr (hw _ (List.mem_of_getElem? (i := 18) rfl))) (ty := (.object "java/time/Duration")) (by decide)
  have F1_messagesPerRun : Fld Z h1 b1 "com/example/mensajero/mensajero/PoolSettings" "messagesPerRun" "I" (.int (0 : Int32)) := D1 (Or.inr (hw _ (List.mem_of_getElem? (i := 20) rfl))) (ty := .int) (by decide)
  refine Goes.via (B := T1.setTop (mkF m 22 #[.val (.int x1)] [(.ref b1)])) (fun t k => st1 _ k) ?_
  refine Goes.via (B := T1.setTop (mkF m 23 #[.val (.int x1)] [(.ref b1), (.ref b1)])) (fun t k => XS.dup X1.here hx rfl (hb hby own_d_prog_43_method_2_code_22) rfl rfl k) ?_
  refine Goes.via (B := T1.setTop (mkF m 24 #[.val (.int x1)] [(.int x1), (.ref b1), (.ref b1)])) (fun t k => XS.iloadN X1.here hx rfl (hb hby own_d_prog_43_method_2_code_23) rfl k) ?_
  obtain ⟨T2, X2, e2, st2⟩ := getS2 X1 hx hZ hown (host := "") (Or.inl (hw _ (List.mem_of_getElem? (i := 7) rfl))) Via.refl e1 (Sta.ext (O0.ext E1).2 O_1) (g := (mkF m 24 #[.val (.int x1)] [(.int x1), (.ref b1), (.ref b1)])) rfl (hb hby own_d_prog_43_method_2_code_24)
  refine Goes.via (B := T2.setTop (mkF m 27 #[.val (.int x1)] [(.ref w1), (.int x1), (.ref b1), (.ref b1)])) (fun t k => st2 _ k) ?_
  refine Goes.via (B := T2.setTop (mkF m 29 #[.val (.int x1)] [(.int (100 : Int32)), (.ref w1), (.int x1), (.ref b1), (.ref b1)])) (fun t k => XS.bipush X2.here hx rfl (hb hby own_d_prog_43_method_2_code_27) k) ?_
  obtain ⟨_, T3, L3, X3, ⟨rfl, M3, K3, f3_0, f3_1, f3_2, f3_3⟩, st3⟩ := callInit X2 hx hZ rfl hown (hw _ (List.mem_of_getElem? (i := 9) rfl)) (hw _ (List.mem_of_getElem? (i := 10) rfl)) (hw _ (List.mem_of_getElem? (i := 3) rfl)) (hw _ (List.mem_of_getElem? (i := 11) rfl)) (by decide) (argsL := [(.int x1), (.ref w1), (.int (100 : Int32))]) (rest := [(.ref b1)]) (own_m1 l Z a0 hw [] b1 x1 w1 (100 : Int32) h1 n0 (O0.ext E1) gn1 A1 F1_threads F1_timeSlice F1_messagesPerRun) e2 (lenOf own_pd0 rfl) (pc := 29) (Ls := #[.val (.int x1)]) (st := [(.int (100 : Int32)), (.ref w1), (.int x1), (.ref b1), (.ref b1)]) rfl (by rw [hml]; rfl) (hb hby own_d_prog_43_method_2_code_29) (W := 1) (Nat.le_of_eq rfl) (by decide) (by decide) (by decide) (by decide)
  have N3 := Fr.app N0 M3
  refine Goes.via (B := T3.setTop (mkF m 32 #[.val (.int x1)] [(.ref b1)])) (fun t k => st3 _ k) ?_
  exact finA (Q := (own_Q2 Z x1 w1 h0 n0)) (F := FrameEnd) (C := (({ frames := 2, cells := 1, slots := 3, locals := 28 } : Room)).cells) (S := (({ frames := 2, cells := 1, slots := 3, locals := 28 } : Room)).slots) X3 hx Bd.returns rfl rfl rfl (hb hby own_d_prog_43_method_2_code_32) rfl ⟨b1, rfl, N3, (((Keep.refl h0 []).ext E1).trans K3 (allS (Or.inr gs1) all0)), gs1, f3_0, f3_1, f3_2, f3_3⟩ (lvN X3 hlk (by decide) (by decide))
theorem own_d_prog_43_method_5_code_0 : decode prog_43_method_5_code 0 = .ok (.aload_n 0, 1) := by decide +kernel
theorem own_d_prog_43_method_5_code_1 : decode prog_43_method_5_code 1 = .ok (.getfield 7, 3) := by decide +kernel
theorem own_d_prog_43_method_5_code_4 : decode prog_43_method_5_code 4 = .ok (.ireturn, 1) := by decide +kernel
theorem own_ef3 (m : MethodId) (x0 : Addr)  : entryFrame m #[(.ref x0)] 1 = mkF m 0 #[.val (.ref x0)] [] := by first | (simp [entryFrame, mkF, argsToLocals, Value.category]; done) | rfl
abbrev own_Q3 (Z : State) (a1 : Addr) (x1 : Int32) (h0 : Heap) (n0 : Nat) (v : Option Value) (h : Heap) (L : List Loc) : Prop := v = some (.int x1) ∧ Fr n0 L ∧ h = h0
set_option maxRecDepth 65536 in
set_option maxHeartbeats 40000000 in
theorem own_m3 (l : Launch) (Z : State) (a0 : Array Value) (hw : ∀ d ∈ tables_1, d.before a0 Z = true) (ws : List Jvm.Cond) (a1 : Addr) (x1 : Int32) (h0 : Heap) (n0 : Nat) (O0 : Old Z n0 h0) (F_1 : Fld Z h0 a1 "com/example/mensajero/mensajero/PoolSettings" "threads" "I" (.int x1)) :
    Ctr l Z (⟨"com/example/mensajero/mensajero/PoolSettings", "threads", "()I"⟩ : MethodName) prog_43_method_5_code 1 (some .int) ({ frames := 0, cells := 0, slots := 0, locals := 0 } : Room) #[(.ref a1)] h0 (own_Q3 Z a1 x1 h0 n0) ws := by
  refine MetFree.of_bodySF (plainFor_of_name own_pn0) hisR ?_
  intro p e s m args below meth c s₁ Bd hml0 hP hK
  obtain ⟨rfl, hZ, hh⟩ := hP
  have hx := Bd.exec
  have hby := Bd.bytes
  have hlk : meth.locks = false := Bd.notSynchronized
  have hml : c.maxLocals = 1 := hml0
  have hown : s.vm.findClass "com/example/mensajero/mensajero/PoolSettings" = some m.cls := findClass_of_methodNamed Bd.named
  have hnm := (name_of_methodNamed Bd.named Bd.method).1
  have X0 : Stand p l e ({ frames := 0, cells := 0, slots := 0, locals := 0 } : Room) s m #[(.ref a1)] below meth c s₁ [] 0 0 := Stand.of_body Bd
  have e0 : s₁.heap = h0 := by rw [← hh, Bd.state]; rfl
  have N0 := Fr.nil n0
  show Goes p.tables e below (fun t o => ∃ v L, o = .returned v ∧ (own_Q3 Z a1 x1 h0 n0) v t.heap L ∧ FrameEnd s o t L (({ frames := 0, cells := 0, slots := 0, locals := 0 } : Room)).cells (({ frames := 0, cells := 0, slots := 0, locals := 0 } : Room)).slots) _
  refine Goes.via (B := s₁.setTop (mkF m 0 #[.val (.ref a1)] [])) (fun t k => castTop (own_ef3 m a1) k) ?_
  refine Goes.via (B := s₁.setTop (mkF m 1 #[.val (.ref a1)] [(.ref a1)])) (fun t k => XS.aloadN X0.here hx rfl (hb hby own_d_prog_43_method_5_code_0) rfl rfl k) ?_
  obtain ⟨T1, X1, e1, st1⟩ := getF X0 hx hZ hown (host := "") (Or.inl (hw _ (List.mem_of_getElem? (i := 15) rfl))) Via.refl e0 F_1 (g := (mkF m 1 #[.val (.ref a1)] [(.ref a1)])) rfl rfl (hb hby own_d_prog_43_method_5_code_1)
  refine Goes.via (B := T1.setTop (mkF m 4 #[.val (.ref a1)] [(.int x1)])) (fun t k => st1 _ k) ?_
  exact finI (Q := (own_Q3 Z a1 x1 h0 n0)) (F := FrameEnd) (C := (({ frames := 0, cells := 0, slots := 0, locals := 0 } : Room)).cells) (S := (({ frames := 0, cells := 0, slots := 0, locals := 0 } : Room)).slots) X1 hx Bd.returns (hb hby own_d_prog_43_method_5_code_4) e1 ⟨rfl, N0, rfl⟩ (lvN X1 hlk (by decide) (by decide))
theorem own_d_prog_43_method_7_code_0 : decode prog_43_method_7_code 0 = .ok (.aload_n 0, 1) := by decide +kernel
theorem own_d_prog_43_method_7_code_1 : decode prog_43_method_7_code 1 = .ok (.getfield 17, 3) := by decide +kernel
theorem own_d_prog_43_method_7_code_4 : decode prog_43_method_7_code 4 = .ok (.ireturn, 1) := by decide +kernel
theorem own_ef4 (m : MethodId) (x0 : Addr)  : entryFrame m #[(.ref x0)] 1 = mkF m 0 #[.val (.ref x0)] [] := by first | (simp [entryFrame, mkF, argsToLocals, Value.category]; done) | rfl
abbrev own_Q4 (Z : State) (a1 : Addr) (x1 : Int32) (h0 : Heap) (n0 : Nat) (v : Option Value) (h : Heap) (L : List Loc) : Prop := v = some (.int x1) ∧ Fr n0 L ∧ h = h0
set_option maxRecDepth 65536 in
set_option maxHeartbeats 40000000 in
theorem own_m4 (l : Launch) (Z : State) (a0 : Array Value) (hw : ∀ d ∈ tables_1, d.before a0 Z = true) (ws : List Jvm.Cond) (a1 : Addr) (x1 : Int32) (h0 : Heap) (n0 : Nat) (O0 : Old Z n0 h0) (F_1 : Fld Z h0 a1 "com/example/mensajero/mensajero/PoolSettings" "messagesPerRun" "I" (.int x1)) :
    Ctr l Z (⟨"com/example/mensajero/mensajero/PoolSettings", "messagesPerRun", "()I"⟩ : MethodName) prog_43_method_7_code 1 (some .int) ({ frames := 0, cells := 0, slots := 0, locals := 0 } : Room) #[(.ref a1)] h0 (own_Q4 Z a1 x1 h0 n0) ws := by
  refine MetFree.of_bodySF (plainFor_of_name own_pn0) hisR ?_
  intro p e s m args below meth c s₁ Bd hml0 hP hK
  obtain ⟨rfl, hZ, hh⟩ := hP
  have hx := Bd.exec
  have hby := Bd.bytes
  have hlk : meth.locks = false := Bd.notSynchronized
  have hml : c.maxLocals = 1 := hml0
  have hown : s.vm.findClass "com/example/mensajero/mensajero/PoolSettings" = some m.cls := findClass_of_methodNamed Bd.named
  have hnm := (name_of_methodNamed Bd.named Bd.method).1
  have X0 : Stand p l e ({ frames := 0, cells := 0, slots := 0, locals := 0 } : Room) s m #[(.ref a1)] below meth c s₁ [] 0 0 := Stand.of_body Bd
  have e0 : s₁.heap = h0 := by rw [← hh, Bd.state]; rfl
  have N0 := Fr.nil n0
  show Goes p.tables e below (fun t o => ∃ v L, o = .returned v ∧ (own_Q4 Z a1 x1 h0 n0) v t.heap L ∧ FrameEnd s o t L (({ frames := 0, cells := 0, slots := 0, locals := 0 } : Room)).cells (({ frames := 0, cells := 0, slots := 0, locals := 0 } : Room)).slots) _
  refine Goes.via (B := s₁.setTop (mkF m 0 #[.val (.ref a1)] [])) (fun t k => castTop (own_ef4 m a1) k) ?_
  refine Goes.via (B := s₁.setTop (mkF m 1 #[.val (.ref a1)] [(.ref a1)])) (fun t k => XS.aloadN X0.here hx rfl (hb hby own_d_prog_43_method_7_code_0) rfl rfl k) ?_
  obtain ⟨T1, X1, e1, st1⟩ := getF X0 hx hZ hown (host := "") (Or.inl (hw _ (List.mem_of_getElem? (i := 19) rfl))) Via.refl e0 F_1 (g := (mkF m 1 #[.val (.ref a1)] [(.ref a1)])) rfl rfl (hb hby own_d_prog_43_method_7_code_1)
  refine Goes.via (B := T1.setTop (mkF m 4 #[.val (.ref a1)] [(.int x1)])) (fun t k => st1 _ k) ?_
  exact finI (Q := (own_Q4 Z a1 x1 h0 n0)) (F := FrameEnd) (C := (({ frames := 0, cells := 0, slots := 0, locals := 0 } : Room)).cells) (S := (({ frames := 0, cells := 0, slots := 0, locals := 0 } : Room)).slots) X1 hx Bd.returns (hb hby own_d_prog_43_method_7_code_4) e1 ⟨rfl, N0, rfl⟩ (lvN X1 hlk (by decide) (by decide))
theorem own_d_prog_43_method_6_code_0 : decode prog_43_method_6_code 0 = .ok (.aload_n 0, 1) := by decide +kernel
theorem own_d_prog_43_method_6_code_1 : decode prog_43_method_6_code 1 = .ok (.getfield 13, 3) := by decide +kernel
theorem own_d_prog_43_method_6_code_4 : decode prog_43_method_6_code 4 = .ok (.areturn, 1) := by decide +kernel
theorem own_ef5 (m : MethodId) (x0 : Addr)  : entryFrame m #[(.ref x0)] 1 = mkF m 0 #[.val (.ref x0)] [] := by first | (simp [entryFrame, mkF, argsToLocals, Value.category]; done) | rfl
abbrev own_Q5 (Z : State) (a1 : Addr) (x1 : Addr) (h0 : Heap) (n0 : Nat) (v : Option Value) (h : Heap) (L : List Loc) : Prop := v = some (.ref x1) ∧ Fr n0 L ∧ h = h0
set_option maxRecDepth 65536 in
set_option maxHeartbeats 40000000 in
theorem own_m5 (l : Launch) (Z : State) (a0 : Array Value) (hw : ∀ d ∈ tables_1, d.before a0 Z = true) (ws : List Jvm.Cond) (a1 : Addr) (x1 : Addr) (h0 : Heap) (n0 : Nat) (O0 : Old Z n0 h0) (F_1 : Fld Z h0 a1 "com/example/mensajero/mensajero/PoolSettings" "timeSlice" "Ljava/time/Duration;" (.ref x1)) :
    Ctr l Z (⟨"com/example/mensajero/mensajero/PoolSettings", "timeSlice", "()Ljava/time/Duration;"⟩ : MethodName) prog_43_method_6_code 1 (some (.object "java/time/Duration")) ({ frames := 0, cells := 0, slots := 0, locals := 0 } : Room) #[(.ref a1)] h0 (own_Q5 Z a1 x1 h0 n0) ws := by
  refine MetFree.of_bodySF (plainFor_of_name own_pn0) hisR ?_
  intro p e s m args below meth c s₁ Bd hml0 hP hK
  obtain ⟨rfl, hZ, hh⟩ := hP
  have hx := Bd.exec
  have hby := Bd.bytes
  have hlk : meth.locks = false := Bd.notSynchronized
  have hml : c.maxLocals = 1 := hml0
  have hown : s.vm.findClass "com/example/mensajero/mensajero/PoolSettings" = some m.cls := findClass_of_methodNamed Bd.named
  have hnm := (name_of_methodNamed Bd.named Bd.method).1
  have X0 : Stand p l e ({ frames := 0, cells := 0, slots := 0, locals := 0 } : Room) s m #[(.ref a1)] below meth c s₁ [] 0 0 := Stand.of_body Bd
  have e0 : s₁.heap = h0 := by rw [← hh, Bd.state]; rfl
  have N0 := Fr.nil n0
  show Goes p.tables e below (fun t o => ∃ v L, o = .returned v ∧ (own_Q5 Z a1 x1 h0 n0) v t.heap L ∧ FrameEnd s o t L (({ frames := 0, cells := 0, slots := 0, locals := 0 } : Room)).cells (({ frames := 0, cells := 0, slots := 0, locals := 0 } : Room)).slots) _
  refine Goes.via (B := s₁.setTop (mkF m 0 #[.val (.ref a1)] [])) (fun t k => castTop (own_ef5 m a1) k) ?_
  refine Goes.via (B := s₁.setTop (mkF m 1 #[.val (.ref a1)] [(.ref a1)])) (fun t k => XS.aloadN X0.here hx rfl (hb hby own_d_prog_43_method_6_code_0) rfl rfl k) ?_
  obtain ⟨T1, X1, e1, st1⟩ := getF X0 hx hZ hown (host := "") (Or.inl (hw _ (List.mem_of_getElem? (i := 17) rfl))) Via.refl e0 F_1 (g := (mkF m 1 #[.val (.ref a1)] [(.ref a1)])) rfl rfl (hb hby own_d_prog_43_method_6_code_1)
  refine Goes.via (B := T1.setTop (mkF m 4 #[.val (.ref a1)] [(.ref x1)])) (fun t k => st1 _ k) ?_
  exact finA (Q := (own_Q5 Z a1 x1 h0 n0)) (F := FrameEnd) (C := (({ frames := 0, cells := 0, slots := 0, locals := 0 } : Room)).cells) (S := (({ frames := 0, cells := 0, slots := 0, locals := 0 } : Room)).slots) X1 hx Bd.returns rfl rfl rfl (hb hby own_d_prog_43_method_6_code_4) e1 ⟨rfl, N0, rfl⟩ (lvN X1 hlk (by decide) (by decide))
theorem own_pn1 : plainName "com/example/mensajero/mensajero/PoolSettingsOfThreadsPinLaw" = true := by first | (simp [plainName, overriddenIn]; done) | decide +kernel
theorem own_pd1 : parseMethodDescriptor "(I)Lcom/example/mensajero/mensajero/PoolSettings;" = some ⟨[.int], some (.object "com/example/mensajero/mensajero/PoolSettings")⟩ := by decide +kernel
theorem own_pd2 : parseMethodDescriptor "()I" = some ⟨[], some .int⟩ := by decide +kernel
theorem own_pd3 : parseMethodDescriptor "()Ljava/time/Duration;" = some ⟨[], some (.object "java/time/Duration")⟩ := by decide +kernel
theorem own_ef6 (m : MethodId) (x0 : Int32)  : entryFrame m #[(.int x0)] maxLocals = mkF m 0 #[.val (.int x0), .unset, .unset] [] := by first | (simp [entryFrame, mkF, argsToLocals, Value.category, maxLocals]; done) | rfl
abbrev own_Q6 (Z : State) (x1 : Int32) (w1 : Addr) (h0 : Heap) (n0 : Nat) (v : Option Value) (h : Heap) (L : List Loc) : Prop := v = some (.int (1 : Int32)) ∧ Fr n0 L ∧ True
set_option maxRecDepth 65536 in
set_option maxHeartbeats 40000000 in
theorem own_m6 (l : Launch) (Z : State) (a0 : Array Value) (hw : ∀ d ∈ tables_1, d.before a0 Z = true) (ws : List Jvm.Cond) (x1 : Int32) (w1 : Addr) (h0 : Heap) (n0 : Nat) (O0 : Old Z n0 h0) (O_1 : Sta Z Z.heap "com/example/mensajero/mensajero/PoolSettings" "DEFAULT_TIME_SLICE" "Ljava/time/Duration;" (.ref w1)) :
    Ctr l Z x code maxLocals ret room_1 #[(.int x1)] h0 (own_Q6 Z x1 w1 h0 n0) ws := by
  refine MetFree.of_bodySF (plainFor_of_name own_pn1) hisR ?_
  intro p e s m args below meth c s₁ Bd hml0 hP hK
  obtain ⟨rfl, hZ, hh⟩ := hP
  have hx := Bd.exec
  have hby := Bd.bytes
  have hlk : meth.locks = false := Bd.notSynchronized
  have hml : c.maxLocals = 3 := hml0
  have hown : s.vm.findClass "com/example/mensajero/mensajero/PoolSettingsOfThreadsPinLaw" = some m.cls := findClass_of_methodNamed Bd.named
  have hnm := (name_of_methodNamed Bd.named Bd.method).1
  have X0 : Stand p l e room_1 s m #[(.int x1)] below meth c s₁ [] 0 0 := Stand.of_body Bd
  have e0 : s₁.heap = h0 := by rw [← hh, Bd.state]; rfl
  have N0 := Fr.nil n0
  show Goes p.tables e below (fun t o => ∃ v L, o = .returned v ∧ (own_Q6 Z x1 w1 h0 n0) v t.heap L ∧ FrameEnd s o t L (room_1).cells (room_1).slots) _
  refine Goes.via (B := s₁.setTop (mkF m 0 #[.val (.int x1), .unset, .unset] [])) (fun t k => castTop (own_ef6 m x1) k) ?_
  refine Goes.via (B := s₁.setTop (mkF m 1 #[.val (.int x1), .unset, .unset] [(.int x1)])) (fun t k => XS.iloadN X0.here hx rfl (hb hby at_0) rfl k) ?_
  refine Goes.via (B := s₁.setTop (mkF m 3 #[.val (.int x1), .unset, .unset] [(.int (2147483647 : Int32)), (.int x1)])) (fun t k => X0.ldcI hx hown (mvT hZ (hw _ (List.mem_of_getElem? (i := 0) rfl))) rfl (hb hby at_1) k) ?_
  refine Goes.via (B := s₁.setTop (mkF m 4 #[.val (.int x1), .unset, .unset] [(.int (x1 &&& (2147483647 : Int32)))])) (fun t k => XS.iand X0.here hx rfl (hb hby at_3) rfl k) ?_
  refine Goes.via (B := s₁.setTop (mkF m 5 #[.val (.int x1), .val (.int (x1 &&& (2147483647 : Int32))), .unset] [])) (fun t k => XS.istoreN X0.here hx rfl (hb hby at_4) rfl (l' := #[.val (.int x1), .val (.int (x1 &&& (2147483647 : Int32))), .unset]) rfl k) ?_
  refine Goes.via (B := s₁.setTop (mkF m 6 #[.val (.int x1), .val (.int (x1 &&& (2147483647 : Int32))), .unset] [(.int (x1 &&& (2147483647 : Int32)))])) (fun t k => XS.iloadN X0.here hx rfl (hb hby at_5) rfl k) ?_
  have j1 : ∀ (t1 : Int32) (ht : ¬ t1 < (1 : Int32)) , Goes p.tables e below (fun t o => ∃ v L, o = .returned v ∧ (own_Q6 Z x1 w1 h0 n0) v t.heap L ∧ FrameEnd s o t L (room_1).cells (room_1).slots) (s₁.setTop (mkF m 11 #[.val (.int x1), .val (.int t1), .unset] [])) := by
    intro t1 ht
    refine Goes.via (B := s₁.setTop (mkF m 12 #[.val (.int x1), .val (.int t1), .unset] [(.int t1)])) (fun t k => XS.iloadN X0.here hx rfl (hb hby at_11) rfl k) ?_
    obtain ⟨_, T3, L3, X3, ⟨b3, rfl, M3, K3, z3_0, f3_0, f3_1, f3_2, f3_3⟩, st3⟩ := callStatic X0 hx hZ hown (hw _ (List.mem_of_getElem? (i := 1) rfl)) (hw _ (List.mem_of_getElem? (i := 2) rfl)) (hw _ (List.mem_of_getElem? (i := 3) rfl)) (hw _ (List.mem_of_getElem? (i := 4) rfl)) (by decide) (argsL := [(.int t1)]) (rest := []) (own_m2 l Z a0 hw [] t1 w1 h0 n0 O0 ht O_1) e0 (lenOf own_pd1 rfl) (pc := 12) (Ls := #[.val (.int x1), .val (.int t1), .unset]) (st := [(.int t1)]) rfl (by rw [hml]; rfl) (hb hby at_12) (W := 0) (Nat.le_of_eq rfl) (by decide) (by decide) (by decide) (by decide)
    have N3 := Fr.app N0 M3
    have gn3_0 : n0 ≤ b3 := Nat.le_trans (old_le O0) z3_0
    refine Goes.via (B := T3.setTop (mkF m 15 #[.val (.int x1), .val (.int t1), .unset] [(.ref b3)])) (fun t k => st3 _ k) ?_
    refine Goes.via (B := T3.setTop (mkF m 16 #[.val (.int x1), .val (.int t1), .val (.ref b3)] [])) (fun t k => XS.astoreN X3.here hx rfl (hb hby at_15) rfl rfl (l' := #[.val (.int x1), .val (.int t1), .val (.ref b3)]) rfl k) ?_
    refine Goes.via (B := T3.setTop (mkF m 17 #[.val (.int x1), .val (.int t1), .val (.ref b3)] [(.ref b3)])) (fun t k => XS.aloadN X3.here hx rfl (hb hby at_16) rfl rfl k) ?_
    refine Goes.via (B := T3.setTop (mkF m 22 #[.val (.int x1), .val (.int t1), .val (.ref b3)] [])) (fun t k => XS.ifnonnullYes X3.here hx rfl (pc0 := 17) (pc' := 22) rfl (hb hby at_17) rfl (by decide) (by decide) k) ?_
    refine Goes.via (B := T3.setTop (mkF m 23 #[.val (.int x1), .val (.int t1), .val (.ref b3)] [(.ref b3)])) (fun t k => XS.aloadN X3.here hx rfl (hb hby at_22) rfl rfl k) ?_
    obtain ⟨_, T4, L4, X4, ⟨rfl, M4, K4⟩, st4⟩ := callVirt X3 hx hZ hown (hw _ (List.mem_of_getElem? (i := 21) rfl)) (hw _ (List.mem_of_getElem? (i := 22) rfl)) (hw _ (List.mem_of_getElem? (i := 24) rfl)) (notFace_of_selects (args := #[]) (mvT hZ (hw _ (List.mem_of_getElem? (i := 24) rfl)))) (hw _ (List.mem_of_getElem? (i := 23) rfl)) (hw _ (List.mem_of_getElem? (i := 3) rfl)) (hw _ (List.mem_of_getElem? (i := 25) rfl)) (by decide) (argsL := []) (rest := []) (own_m3 l Z a0 hw [] b3 t1 T3.heap n0 (O0.keep K3 all0) f3_1) rfl f3_0 (lenOf own_pd2 rfl) (pc := 23) (Ls := #[.val (.int x1), .val (.int t1), .val (.ref b3)]) (st := [(.ref b3)]) rfl (by rw [hml]; rfl) (hb hby at_23) (W := 0) (Nat.le_of_eq rfl) (by decide) (by decide) (by decide) (by decide)
    have N4 := Fr.app N3 M4
    refine Goes.via (B := T4.setTop (mkF m 26 #[.val (.int x1), .val (.int t1), .val (.ref b3)] [(.int t1)])) (fun t k => st4 _ k) ?_
    refine Goes.via (B := T4.setTop (mkF m 27 #[.val (.int x1), .val (.int t1), .val (.ref b3)] [(.int t1), (.int t1)])) (fun t k => XS.iloadN X4.here hx rfl (hb hby at_26) rfl k) ?_
    refine Goes.via (B := T4.setTop (mkF m 30 #[.val (.int x1), .val (.int t1), .val (.ref b3)] [])) (fun t k => XS.icmpNo X4.here hx rfl (hb hby at_27) rfl (XT.ii_ne_f rfl) k) ?_
    refine Goes.via (B := T4.setTop (mkF m 31 #[.val (.int x1), .val (.int t1), .val (.ref b3)] [(.ref b3)])) (fun t k => XS.aloadN X4.here hx rfl (hb hby at_30) rfl rfl k) ?_
    obtain ⟨_, T5, L5, X5, ⟨rfl, M5, K5⟩, st5⟩ := callVirt X4 hx hZ hown (hw _ (List.mem_of_getElem? (i := 26) rfl)) (hw _ (List.mem_of_getElem? (i := 27) rfl)) (hw _ (List.mem_of_getElem? (i := 29) rfl)) (notFace_of_selects (args := #[]) (mvT hZ (hw _ (List.mem_of_getElem? (i := 29) rfl)))) (hw _ (List.mem_of_getElem? (i := 28) rfl)) (hw _ (List.mem_of_getElem? (i := 3) rfl)) (hw _ (List.mem_of_getElem? (i := 30) rfl)) (by decide) (argsL := []) (rest := []) (own_m4 l Z a0 hw [] b3 (100 : Int32) T3.heap n0 (O0.keep K3 all0) f3_3) K4 f3_0 (lenOf own_pd2 rfl) (pc := 31) (Ls := #[.val (.int x1), .val (.int t1), .val (.ref b3)]) (st := [(.ref b3)]) rfl (by rw [hml]; rfl) (hb hby at_31) (W := 0) (Nat.le_of_eq rfl) (by decide) (by decide) (by decide) (by decide)
    have N5 := Fr.app N4 M5
    refine Goes.via (B := T5.setTop (mkF m 34 #[.val (.int x1), .val (.int t1), .val (.ref b3)] [(.int (100 : Int32))])) (fun t k => st5 _ k) ?_
    refine Goes.via (B := T5.setTop (mkF m 36 #[.val (.int x1), .val (.int t1), .val (.ref b3)] [(.int (100 : Int32)), (.int (100 : Int32))])) (fun t k => XS.bipush X5.here hx rfl (hb hby at_34) k) ?_
    refine Goes.via (B := T5.setTop (mkF m 39 #[.val (.int x1), .val (.int t1), .val (.ref b3)] [])) (fun t k => XS.icmpNo X5.here hx rfl (hb hby at_36) rfl (XT.ii_ne_f rfl) k) ?_
    refine Goes.via (B := T5.setTop (mkF m 40 #[.val (.int x1), .val (.int t1), .val (.ref b3)] [(.ref b3)])) (fun t k => XS.aloadN X5.here hx rfl (hb hby at_39) rfl rfl k) ?_
    obtain ⟨_, T6, L6, X6, ⟨rfl, M6, K6⟩, st6⟩ := callVirt X5 hx hZ hown (hw _ (List.mem_of_getElem? (i := 31) rfl)) (hw _ (List.mem_of_getElem? (i := 32) rfl)) (hw _ (List.mem_of_getElem? (i := 34) rfl)) (notFace_of_selects (args := #[]) (mvT hZ (hw _ (List.mem_of_getElem? (i := 34) rfl)))) (hw _ (List.mem_of_getElem? (i := 33) rfl)) (hw _ (List.mem_of_getElem? (i := 3) rfl)) (hw _ (List.mem_of_getElem? (i := 35) rfl)) (by decide) (argsL := []) (rest := []) (own_m5 l Z a0 hw [] b3 w1 T3.heap n0 (O0.keep K3 all0) f3_2) K5 f3_0 (lenOf own_pd3 rfl) (pc := 40) (Ls := #[.val (.int x1), .val (.int t1), .val (.ref b3)]) (st := [(.ref b3)]) rfl (by rw [hml]; rfl) (hb hby at_40) (W := 0) (Nat.le_of_eq rfl) (by decide) (by decide) (by decide) (by decide)
    have N6 := Fr.app N5 M6
    refine Goes.via (B := T6.setTop (mkF m 43 #[.val (.int x1), .val (.int t1), .val (.ref b3)] [(.ref w1)])) (fun t k => st6 _ k) ?_
    refine Goes.via (B := T6.setTop (mkF m 46 #[.val (.int x1), .val (.int t1), .val (.ref b3)] [])) (fun t k => XS.ifnullNo X6.here hx rfl (hb hby at_43) rfl k) ?_
    refine Goes.via (B := T6.setTop (mkF m 47 #[.val (.int x1), .val (.int t1), .val (.ref b3)] [(.int (1 : Int32))])) (fun t k => XS.iconst X6.here hx rfl (hb hby at_46) k) ?_
    refine Goes.via (B := T6.setTop (mkF m 51 #[.val (.int x1), .val (.int t1), .val (.ref b3)] [(.int (1 : Int32))])) (fun t k => XS.goto X6.here hx rfl (pc0 := 47) (pc' := 51) rfl (hb hby at_47) (by decide) (by decide) k) ?_
    exact finN (Q := (own_Q6 Z x1 w1 h0 n0)) (F := FrameEnd) (C := (room_1).cells) (S := (room_1).slots) X6 hx (t := .boolean) Bd.returns (by simp) (z' := (1 : Int32)) rfl (hb hby at_51) K6 ⟨rfl, N6, trivial⟩ (lvN X6 hlk (by decide) (by decide))
  by_cases b7 : (x1 &&& (2147483647 : Int32)) = (0 : Int32)
  · refine Goes.via (B := s₁.setTop (mkF m 9 #[.val (.int x1), .val (.int (x1 &&& (2147483647 : Int32))), .unset] [])) (fun t k => XS.ifNo X0.here hx rfl (hb hby at_6) rfl (XT.i0_ne_f b7) k) ?_
    refine Goes.via (B := s₁.setTop (mkF m 10 #[.val (.int x1), .val (.int (x1 &&& (2147483647 : Int32))), .unset] [(.int (1 : Int32))])) (fun t k => XS.iconst X0.here hx rfl (hb hby at_9) k) ?_
    refine Goes.via (B := s₁.setTop (mkF m 11 #[.val (.int x1), .val (.int (1 : Int32)), .unset] [])) (fun t k => XS.istoreN X0.here hx rfl (hb hby at_10) rfl (l' := #[.val (.int x1), .val (.int (1 : Int32)), .unset]) rfl k) ?_
    exact j1 (1 : Int32) (by decide)
  · refine Goes.via (B := s₁.setTop (mkF m 11 #[.val (.int x1), .val (.int (x1 &&& (2147483647 : Int32))), .unset] [])) (fun t k => XS.ifYes X0.here hx rfl (pc0 := 6) (pc' := 11) rfl (hb hby at_6) rfl (XT.i0_ne_t b7) (by decide) (by decide) k) ?_
    exact j1 (x1 &&& (2147483647 : Int32)) (own_pos (by decide) b7)
set_option maxRecDepth 65536 in
set_option maxHeartbeats 40000000 in
theorem comes_1 {Post : Tables → Env → Array Value → State → Outcome → State → Prop} (hpost : ∀ tb e args s v u, (limb_1_1.after args s (.returned v) u = true ∧ limb_1_2.after args s (.returned v) u = true ∧ True) → FrameEnd s (.returned v) u (Jvm.fieldLocs frame_1_writes args s ++ Jvm.arrayLocs frame_1_arrays args s ++ Jvm.staticLocs frame_1_statics s) 16 128 → Post tb e args s (.returned v) u) :
    ArmFor flags0 classFile x code maxLocals ret World_1 tables_1 room_1 Calls_1 rest_1 Pre_1 Post := by
  intro l hfl _ _ p e ha hc hk s m args below hf hA hF happ hP
  obtain ⟨hcalls, hrest, hpre⟩ := hP
  obtain ⟨-, -, -, hnamed, -, -, -, hat⟩ := (Spec.applies_iff hf).mp happ
  obtain ⟨hg, hn⟩ := and_e (Cond.before_iff.mp (show (Jvm.Cond.and given_1 narrow_1).before args s = true from hpre))
  obtain ⟨g_0, r_0⟩ := and_e hg
  obtain ⟨w0, rfl⟩ : ∃ w0 : Value, args = #[w0] := by
    have hs : args.size = 1 := by simpa [Cond.value, given_1] using g_0
    obtain ⟨L⟩ := args
    match L, hs with
    | [w0], _ => exact ⟨w0, rfl⟩
  have hw := fun d (hd : d ∈ tables_1) => atoms_spec (ws := Jvm.Cond.code x code maxLocals ret :: tables_1) hat d (List.mem_cons_of_mem _ hd)
  have hfit : Fit s := fun {y c} hc i hi => by
    obtain ⟨ha, rfl⟩ := Array.getElem?_eq_some_iff.mp hc
    have q := List.all_eq_true.mp ((Array.all_eq_true_iff_forall_mem.mp hF) _ (Array.getElem_mem ha)) i (List.mem_range.mpr hi)
    simpa [Array.getElem?_eq_getElem hi] using q
  obtain ⟨i0, ei0⟩ := is_v r_0
  obtain rfl : w0 = (.int i0) := Option.some.inj ei0
  have n_0 := hn
  obtain ⟨st_DEFAULT_TIME_SLICE, es_DEFAULT_TIME_SLICE⟩ := exa_v n_0
  have S_DEFAULT_TIME_SLICE : Sta s s.heap "com/example/mensajero/mensajero/PoolSettings" "DEFAULT_TIME_SLICE" "Ljava/time/Duration;" (.ref st_DEFAULT_TIME_SLICE) := Sta.start es_DEFAULT_TIME_SLICE (Or.inr ⟨(hw _ (List.mem_of_getElem? (i := 3) rfl)), (hw _ (List.mem_of_getElem? (i := 8) rfl))⟩)
  have E_DEFAULT_TIME_SLICE : Exa s s.heap st_DEFAULT_TIME_SLICE "java/time/Duration" := Exa.start es_DEFAULT_TIME_SLICE n_0
  obtain ⟨n, o, h1, h2, h3, _, L, rfl, ⟨rfl, N, -⟩, hq⟩ := own_m6 l s _ hw tables_1 i0 st_DEFAULT_TIME_SLICE s.heap s.heap.size (Old.start s) S_DEFAULT_TIME_SLICE p e ha hc hk s m _ below hf ((Spec.applies_iff_loose hf).mp happ).1 ⟨rfl, State.Warmed39.refl s, rfl⟩ trivial
  refine ⟨n, _, h1, h2, h3, hpost _ _ _ _ _ _ ⟨Cond.after_iff.mpr rfl, Cond.after_iff.mpr (eq_i res_at (Term.int_eval (1)) rfl), trivial⟩ ⟨hq.1, hq.2.1, (hq.2.2.sift fun y hy => Or.inr (N y hy)).mono (by decide) (by decide)⟩⟩
theorem main_1_1 : Claimed_1_1 := comes_1 fun _ _ _ _ _ _ h hF => ⟨h.1, hF⟩
theorem main_1_2 : Claimed_1_2 := comes_1 fun _ _ _ _ _ _ h hF => ⟨h.2.1, hF⟩
end Jvm.Pilot.@@N@@
namespace Jvm.Pilot.@@N@@
open Jvm Jvm.ClassFile Sem Op Lib Jvm.Free Jvm.Stand Jvm.Pilot.@@N@@.Jvm.D
/-! MADE BY PROGRAM (witnessworld.py) out of the Statement's table words and the real class files: 12 classes; the members and pool entries that the words name. The judged class is class 1, her method 1. -/
namespace start1
open Jvm.ClassFile
def u (s : String) : CpInfo := .utf8 (stringToUtf16 s)
/-- a pool by its gaps: so many unusable entries, then the entry; so many at the end -/
def gap : Nat → List CpInfo → List CpInfo
  | 0, r => r
  | n + 1, r => .unusable :: gap n r
def poolList (es : List (Nat × CpInfo)) (last : Nat) : List CpInfo := es.foldr (fun e r => gap e.1 (e.2 :: r)) (gap last [])
def pool (es : List (Nat × CpInfo)) (last : Nat) : Array CpInfo := ⟨poolList es last⟩
def fileOf (pool : Array CpInfo) (this : Nat) (attrs : Array Attribute := #[]) (ms : Array MethodInfo := #[]) (fl : Nat := 33) (sup : Nat := 0) (ifs : Array Nat := #[]) (fds : Array FieldInfo := #[]) : ClassFile where
  minorVersion := 0
  majorVersion := 65
  constantPool := pool
  accessFlags := fl
  thisClass := this
  superClass := sup
  interfaces := ifs
  fields := fds
  methods := ms
  attributes := attrs
def plain (name : String) (sup : Option ClassId) : Class where
  name := name
  kind := .ordinary
  loader := none
  accessFlags := 33
  super := sup
  interfaces := #[]
  cf := none
  fields := #[]
  methods := #[]
  instanceTypes := #[]
  staticTypes := #[]
  resolved := #[]
  callSites := []
  init := .initialized
  statics := none
  mirror := none

def pool0 : Array CpInfo := pool [(5, u "<init>"), (0, u "()V"), (1, .class_ 10), (1, u "java/lang/Object")] 113

def k0c0 : Code := { maxStack := 0, maxLocals := 1, code := object_method_1_code, exceptionTable := #[], attributes := #[] }
def k0m0 : Method := { name := "<init>", desc := "()V", sig := { parameters := [], returnType := none }, accessFlags := 1, code := some k0c0 }
/-- java/lang/Object -/
def k0 : Class := { plain "java/lang/Object" none with
  accessFlags := 33
  interfaces := #[]
  cf := some (fileOf pool0 8 #[] #[{ accessFlags := 1, nameIndex := 5, descriptorIndex := 6, attributes := #[] }] 33 0 #[] #[])
  fields := #[]
  methods := #[k0m0]
  instanceTypes := #[]
  staticTypes := #[]
  resolved := Array.replicate 124 none
  statics := none }

def pool1 : Array CpInfo := pool [(2, .class_ 4), (1, u "java/lang/Object"), (0, u "<init>"), (0, u "()V"), (0, .integer 2147483647), (0, .methodref 9 10), (0, .class_ 11), (0, .nameAndType 12 13), (0, u "com/example/mensajero/mensajero/PoolSettings"), (0, u "ofThreads"), (0, u "(I)Lcom/example/mensajero/mensajero/PoolSettings;"), (0, .methodref 9 15), (0, .nameAndType 16 17), (0, u "threads"), (0, u "()I"), (0, .methodref 9 19), (0, .nameAndType 20 17), (0, u "messagesPerRun"), (0, .methodref 9 22), (0, .nameAndType 23 24), (0, u "timeSlice"), (0, u "()Ljava/time/Duration;"), (0, .class_ 26), (0, u "com/example/mensajero/mensajero/PoolSettingsOfThreadsPinLaw"), (2, u "law"), (0, u "(I)Z")] 3

def k1m0 : Method := { name := "<init>", desc := "()V", sig := { parameters := [], returnType := none }, accessFlags := 1, code := none }
def k1c1 : Code := { maxStack := 2, maxLocals := 3, code := code, exceptionTable := #[], attributes := #[] }
def k1m1 : Method := { name := "law", desc := "(I)Z", sig := { parameters := [.int], returnType := some .boolean }, accessFlags := 9, code := some k1c1 }
/-- com/example/mensajero/mensajero/PoolSettingsOfThreadsPinLaw -/
def k1 : Class := { plain "com/example/mensajero/mensajero/PoolSettingsOfThreadsPinLaw" (some 0) with
  accessFlags := 49
  interfaces := #[]
  cf := some (fileOf pool1 25 #[] #[{ accessFlags := 1, nameIndex := 5, descriptorIndex := 6, attributes := #[] }, { accessFlags := 9, nameIndex := 29, descriptorIndex := 30, attributes := #[] }] 49 2 #[] #[])
  fields := #[]
  methods := #[k1m0, k1m1]
  instanceTypes := #[]
  staticTypes := #[]
  resolved := Array.replicate 34 none
  statics := none }

def pool2 : Array CpInfo := pool [(1, .methodref 2 3), (0, .class_ 4), (0, .nameAndType 5 6), (0, u "java/lang/Object"), (0, u "<init>"), (0, u "()V"), (0, .fieldref 8 9), (0, .class_ 10), (0, .nameAndType 11 12), (0, u "com/example/mensajero/mensajero/PoolSettings"), (0, u "threads"), (0, u "I"), (0, .fieldref 8 14), (0, .nameAndType 15 16), (0, u "timeSlice"), (0, u "Ljava/time/Duration;"), (0, .fieldref 8 18), (0, .nameAndType 19 12), (0, u "messagesPerRun"), (9, .fieldref 8 30), (0, .nameAndType 31 16), (0, u "DEFAULT_TIME_SLICE"), (0, .methodref 8 33), (0, .nameAndType 5 34), (0, u "(ILjava/time/Duration;I)V"), (35, u "DEFAULT_MESSAGES_PER_RUN"), (4, u "ofThreads"), (0, u "(I)Lcom/example/mensajero/mensajero/PoolSettings;"), (4, u "()I"), (0, u "()Ljava/time/Duration;")] 26

def k2c0 : Code := { maxStack := 2, maxLocals := 4, code := prog_43_method_1_code, exceptionTable := #[], attributes := #[] }
def k2m0 : Method := { name := "<init>", desc := "(ILjava/time/Duration;I)V", sig := { parameters := [.int, (.object "java/time/Duration"), .int], returnType := none }, accessFlags := 2, code := some k2c0 }
def k2c1 : Code := { maxStack := 5, maxLocals := 1, code := prog_43_method_2_code, exceptionTable := #[], attributes := #[] }
def k2m1 : Method := { name := "ofThreads", desc := "(I)Lcom/example/mensajero/mensajero/PoolSettings;", sig := { parameters := [.int], returnType := some (.object "com/example/mensajero/mensajero/PoolSettings") }, accessFlags := 9, code := some k2c1 }
def k2c2 : Code := { maxStack := 1, maxLocals := 1, code := prog_43_method_5_code, exceptionTable := #[], attributes := #[] }
def k2m2 : Method := { name := "threads", desc := "()I", sig := { parameters := [], returnType := some .int }, accessFlags := 1, code := some k2c2 }
def k2c3 : Code := { maxStack := 1, maxLocals := 1, code := prog_43_method_6_code, exceptionTable := #[], attributes := #[] }
def k2m3 : Method := { name := "timeSlice", desc := "()Ljava/time/Duration;", sig := { parameters := [], returnType := some (.object "java/time/Duration") }, accessFlags := 1, code := some k2c3 }
def k2c4 : Code := { maxStack := 1, maxLocals := 1, code := prog_43_method_7_code, exceptionTable := #[], attributes := #[] }
def k2m4 : Method := { name := "messagesPerRun", desc := "()I", sig := { parameters := [], returnType := some .int }, accessFlags := 1, code := some k2c4 }
/-- com/example/mensajero/mensajero/PoolSettings -/
def k2 : Class := { plain "com/example/mensajero/mensajero/PoolSettings" (some 0) with
  accessFlags := 33
  interfaces := #[]
  cf := some (fileOf pool2 8 #[] #[{ accessFlags := 2, nameIndex := 5, descriptorIndex := 34, attributes := #[] }, { accessFlags := 9, nameIndex := 75, descriptorIndex := 76, attributes := #[] }, { accessFlags := 1, nameIndex := 11, descriptorIndex := 81, attributes := #[] }, { accessFlags := 1, nameIndex := 15, descriptorIndex := 82, attributes := #[] }, { accessFlags := 1, nameIndex := 19, descriptorIndex := 81, attributes := #[] }] 33 2 #[] #[{ accessFlags := 26, nameIndex := 31, descriptorIndex := 16, attributes := #[] }, { accessFlags := 26, nameIndex := 70, descriptorIndex := 12, attributes := #[] }, { accessFlags := 18, nameIndex := 11, descriptorIndex := 12, attributes := #[] }, { accessFlags := 18, nameIndex := 15, descriptorIndex := 16, attributes := #[] }, { accessFlags := 18, nameIndex := 19, descriptorIndex := 12, attributes := #[] }])
  fields := #[{ name := "DEFAULT_TIME_SLICE", type := (.object "java/time/Duration"), accessFlags := 26, slot := 0, constantValue := 0 }, { name := "DEFAULT_MESSAGES_PER_RUN", type := .int, accessFlags := 26, slot := 1, constantValue := 0 }, { name := "threads", type := .int, accessFlags := 18, slot := 0, constantValue := 0 }, { name := "timeSlice", type := (.object "java/time/Duration"), accessFlags := 18, slot := 1, constantValue := 0 }, { name := "messagesPerRun", type := .int, accessFlags := 18, slot := 2, constantValue := 0 }]
  methods := #[k2m0, k2m1, k2m2, k2m3, k2m4]
  instanceTypes := #[.int, (.object "java/time/Duration"), .int]
  staticTypes := #[(.object "java/time/Duration"), .int]
  resolved := Array.replicate 109 none
  statics := some 0 }

def pool3 : Array CpInfo := pool [(1, .class_ 2), (0, u "java/time/temporal/TemporalAmount"), (0, .class_ 4), (0, u "java/lang/Object")] 11

/-- java/time/temporal/TemporalAmount -/
def k3 : Class := { plain "java/time/temporal/TemporalAmount" (some 0) with
  accessFlags := 1537
  interfaces := #[]
  cf := some (fileOf pool3 1 #[] #[] 1537 3 #[] #[])
  fields := #[]
  methods := #[]
  instanceTypes := #[]
  staticTypes := #[]
  resolved := Array.replicate 16 none
  statics := none }

def pool4 : Array CpInfo := pool [(1, .class_ 2), (0, u "java/lang/Comparable"), (0, .class_ 4), (0, u "java/lang/Object")] 7

/-- java/lang/Comparable -/
def k4 : Class := { plain "java/lang/Comparable" (some 0) with
  accessFlags := 1537
  interfaces := #[]
  cf := some (fileOf pool4 1 #[] #[] 1537 3 #[] #[])
  fields := #[]
  methods := #[]
  instanceTypes := #[]
  staticTypes := #[]
  resolved := Array.replicate 12 none
  statics := none }

def pool5 : Array CpInfo := pool [(1, .class_ 2), (0, u "java/io/Serializable"), (0, .class_ 4), (0, u "java/lang/Object")] 2

/-- java/io/Serializable -/
def k5 : Class := { plain "java/io/Serializable" (some 0) with
  accessFlags := 1537
  interfaces := #[]
  cf := some (fileOf pool5 1 #[] #[] 1537 3 #[] #[])
  fields := #[]
  methods := #[]
  instanceTypes := #[]
  staticTypes := #[]
  resolved := Array.replicate 7 none
  statics := none }

def pool6 : Array CpInfo := pool [(11, .class_ 13), (1, u "java/time/Duration"), (20, u "ZERO"), (0, u "Ljava/time/Duration;"), (13, .class_ 51), (1, u "java/time/temporal/TemporalAmount"), (27, .class_ 81), (1, u "java/time/Duration$Lazy"), (35, u "seconds"), (101, .class_ 220), (0, u "java/lang/Object"), (2, u "J"), (2, u "nanos"), (0, u "I"), (11, .class_ 241), (1, u "java/time/Duration$DurationUnits"), (27, .class_ 271), (1, u "java/time/Duration$1"), (91, u "BI_NANOS_PER_SECOND"), (0, u "Ljava/math/BigInteger;"), (120, .class_ 486), (0, u "java/lang/Comparable"), (0, .class_ 488), (0, u "java/io/Serializable"), (0, u "serialVersionUID")] 166

/-- java/time/Duration -/
def k6 : Class := { plain "java/time/Duration" (some 0) with
  accessFlags := 49
  interfaces := #[3, 4, 5]
  cf := some (fileOf pool6 11 #[.nestMembers #[269, 239, 79]] #[] 49 219 #[49, 485, 487] #[{ accessFlags := 25, nameIndex := 34, descriptorIndex := 35, attributes := #[] }, { accessFlags := 26, nameIndex := 489, descriptorIndex := 223, attributes := #[] }, { accessFlags := 26, nameIndex := 363, descriptorIndex := 364, attributes := #[] }, { accessFlags := 18, nameIndex := 117, descriptorIndex := 223, attributes := #[] }, { accessFlags := 18, nameIndex := 226, descriptorIndex := 227, attributes := #[] }])
  fields := #[{ name := "ZERO", type := (.object "java/time/Duration"), accessFlags := 25, slot := 0, constantValue := 0 }, { name := "serialVersionUID", type := .long, accessFlags := 26, slot := 1, constantValue := 0 }, { name := "BI_NANOS_PER_SECOND", type := (.object "java/math/BigInteger"), accessFlags := 26, slot := 2, constantValue := 0 }, { name := "seconds", type := .long, accessFlags := 18, slot := 0, constantValue := 0 }, { name := "nanos", type := .int, accessFlags := 18, slot := 1, constantValue := 0 }]
  methods := #[]
  instanceTypes := #[.long, .int]
  staticTypes := #[(.object "java/time/Duration"), .long, (.object "java/math/BigInteger")]
  resolved := Array.replicate 656 none
  statics := none }

def pool7 : Array CpInfo := pool [(1, u "java/lang/Cloneable"), (0, .class_ 1), (0, u "java/lang/Object"), (0, .class_ 3)] 3

/-- java/lang/Cloneable -/
def k7 : Class := { plain "java/lang/Cloneable" (some 0) with
  accessFlags := 1537
  interfaces := #[]
  cf := some (fileOf pool7 2 #[] #[] 1537 4 #[] #[])
  fields := #[]
  methods := #[]
  instanceTypes := #[]
  staticTypes := #[]
  resolved := Array.replicate 8 none
  statics := none }

/-- the primitive byte -/
def k8 : Class := { plain "byte" none with kind := .primitive 'B', accessFlags := 0x411 }
/-- [B -/
def k9 : Class := { plain "[B" (some 0) with kind := .array 8 .byte, interfaces := #[7, 5], accessFlags := 1041 }

/-- the primitive int -/
def k10 : Class := { plain "int" none with kind := .primitive 'I', accessFlags := 0x411 }
/-- [I -/
def k11 : Class := { plain "[I" (some 0) with kind := .array 10 .int, interfaces := #[7, 5], accessFlags := 1041 }

def heap : Heap := #[{ cls := 2, slots := #[.ref 1, .int 0], vm := .statics 2 },
  { cls := 6, slots := #[.long 0, .int 0], vm := .none }]
def classes : Array Class := #[k0, k1, k2, k3, k4, k5, k6, k7, k8, k9, k10, k11]
def interned : List (Array UInt16 × Addr) := []
def slotsUsed : Nat := 4
def theMethod : MethodId := ⟨1, 1⟩
def args0 : Array Value := #[.int 5]
def aboutOver (below : List Frame) : State where
  vm := { classes := classes, interned := interned.toArray }
  heap := heap
  slotsUsed := slotsUsed
  threads := #[{ frames := .invoking theMethod args0 :: below }]
def below0 : List Frame := [.native { method := ⟨0, 0⟩, args := #[] }]
def about1 : State := aboutOver below0
def p0 : Program := .bare "" "" ""
def e0 : Env := launch0.env 0 0 0
theorem w_frames : about1.frames = Frame.invoking theMethod args0 :: below0 := rfl
set_option maxRecDepth 65536 in
theorem w_args : argsFit about1.vm theMethod args0 = true := by decide +kernel
set_option maxRecDepth 65536 in
theorem w_heap : heapFits about1 = true := by decide +kernel
set_option maxRecDepth 65536 in
theorem w_runnable : about1.curStatus? = some .runnable := by decide +kernel
set_option maxRecDepth 65536 in
theorem w_alone : about1.alone = true := by decide +kernel
set_option maxRecDepth 65536 in
theorem w_named : about1.methodNamed? x = some theMethod := by decide +kernel
set_option maxRecDepth 65536 in
theorem w_hears : about1.hears theMethod below0 = true := by decide +kernel
set_option maxRecDepth 65536 in
theorem w_ripe : about1.ripe theMethod args0 below0 = true := by decide +kernel
theorem w_running : about1.status = .running := rfl
set_option maxRecDepth 65536 in
theorem w_room : about1.hasRoom e0.platform room_1 = true :=
  launch0.hasRoom_least _ room_1 (by decide +kernel) (by decide +kernel) (by decide +kernel) (by decide +kernel) (by decide +kernel) (by decide +kernel)
theorem allAtoms_all (ts : List Jvm.Cond) (a : Array Jvm.Value) (st : Jvm.State) : (allAtoms ts).before a st = ts.all (fun c => c.before a st) := by
  induction ts with
  | nil => rfl
  | cons c t ih =>
    show (Jvm.Cond.and c (allAtoms t)).before a st = _
    rw [Jvm.Cond.before_and, ih, List.all_cons]
def words1 : List Jvm.Cond := Jvm.Cond.code x code maxLocals ret :: tables_1
/-- a 'code' word, met by the world's own term for the bytes: nothing is compared byte by byte -/
theorem code_word {y : MethodName} {bytes : ByteArray} {mx : Nat} {rt : Option FieldType} {a : Array Value} {s : State} {m : MethodId} {meth : Method} {c : Code} (h1 : s.methodNamed? y = some m) (h2 : s.vm.method? m = some meth) (h3 : meth.code = some c) (h4 : c.code = bytes)
    (h5 : (c.maxLocals == mx && c.exceptionTable.isEmpty && decide (c.maxStack ≤ mostOperands) && decide (meth.sig.returnType = rt) && !meth.locks && decide (parseMethodDescriptor y.desc = some meth.sig)) = true) : (Jvm.Cond.code y bytes mx rt).before a s = true := by
  simp only [Bool.and_eq_true, beq_iff_eq, Bool.not_eq_true', decide_eq_true_eq] at h5
  obtain ⟨⟨⟨⟨⟨g1, g2⟩, g3⟩, g4⟩, g5⟩, g6⟩ := h5
  simp [Cond.before, Cond.holds, Cond.value, h1, h2, h3, h4, g1, g2, g3, g4, g5, g6]
def isCode : Jvm.Cond → Bool
  | .code _ _ _ _ => true
  | _ => false
theorem all_split {L : List Jvm.Cond} {P : Jvm.Cond → Bool} (h1 : L.all (fun c => isCode c || P c) = true) (h2 : ∀ c ∈ L.filter isCode, P c = true) : L.all P = true := by
  refine List.all_eq_true.mpr fun c hc => ?_
  have h := List.all_eq_true.mp h1 c hc
  rcases Bool.eq_false_or_eq_true (isCode c) with hi | hi
  · exact h2 c (List.mem_filter.mpr ⟨hc, hi⟩)
  · simpa [hi] using h
set_option maxRecDepth 65536 in
theorem w_c0 : (Jvm.Cond.code x code maxLocals ret).before args0 about1 = true := code_word (m := ⟨1, 1⟩) (meth := k1m1) (c := k1c1) (by decide +kernel) rfl rfl rfl (by decide +kernel)
set_option maxRecDepth 65536 in
theorem w_c1 : (Jvm.Cond.code ({ cls := "com/example/mensajero/mensajero/PoolSettings", name := "ofThreads", desc := "(I)Lcom/example/mensajero/mensajero/PoolSettings;" } : Jvm.MethodName) prog_43_method_2_code (1 : Nat) (Option.some (Jvm.ClassFile.FieldType.object "com/example/mensajero/mensajero/PoolSettings"))).before args0 about1 = true := code_word (m := ⟨2, 1⟩) (meth := k2m1) (c := k2c1) (by decide +kernel) rfl rfl rfl (by decide +kernel)
set_option maxRecDepth 65536 in
theorem w_c2 : (Jvm.Cond.code ({ cls := "com/example/mensajero/mensajero/PoolSettings", name := "<init>", desc := "(ILjava/time/Duration;I)V" } : Jvm.MethodName) prog_43_method_1_code (4 : Nat) (Option.none : Option Jvm.ClassFile.FieldType)).before args0 about1 = true := code_word (m := ⟨2, 0⟩) (meth := k2m0) (c := k2c0) (by decide +kernel) rfl rfl rfl (by decide +kernel)
set_option maxRecDepth 65536 in
theorem w_c3 : (Jvm.Cond.code ({ cls := "java/lang/Object", name := "<init>", desc := "()V" } : Jvm.MethodName) object_method_1_code (1 : Nat) (Option.none : Option Jvm.ClassFile.FieldType)).before args0 about1 = true := code_word (m := ⟨0, 0⟩) (meth := k0m0) (c := k0c0) (by decide +kernel) rfl rfl rfl (by decide +kernel)
set_option maxRecDepth 65536 in
theorem w_c4 : (Jvm.Cond.code ({ cls := "com/example/mensajero/mensajero/PoolSettings", name := "threads", desc := "()I" } : Jvm.MethodName) prog_43_method_5_code (1 : Nat) (Option.some Jvm.ClassFile.FieldType.int)).before args0 about1 = true := code_word (m := ⟨2, 2⟩) (meth := k2m2) (c := k2c2) (by decide +kernel) rfl rfl rfl (by decide +kernel)
set_option maxRecDepth 65536 in
theorem w_c5 : (Jvm.Cond.code ({ cls := "com/example/mensajero/mensajero/PoolSettings", name := "messagesPerRun", desc := "()I" } : Jvm.MethodName) prog_43_method_7_code (1 : Nat) (Option.some Jvm.ClassFile.FieldType.int)).before args0 about1 = true := code_word (m := ⟨2, 4⟩) (meth := k2m4) (c := k2c4) (by decide +kernel) rfl rfl rfl (by decide +kernel)
set_option maxRecDepth 65536 in
theorem w_c6 : (Jvm.Cond.code ({ cls := "com/example/mensajero/mensajero/PoolSettings", name := "timeSlice", desc := "()Ljava/time/Duration;" } : Jvm.MethodName) prog_43_method_6_code (1 : Nat) (Option.some (Jvm.ClassFile.FieldType.object "java/time/Duration"))).before args0 about1 = true := code_word (m := ⟨2, 3⟩) (meth := k2m3) (c := k2c3) (by decide +kernel) rfl rfl rfl (by decide +kernel)
def codes1 : List Jvm.Cond := [Jvm.Cond.code x code maxLocals ret, Jvm.Cond.code ({ cls := "com/example/mensajero/mensajero/PoolSettings", name := "ofThreads", desc := "(I)Lcom/example/mensajero/mensajero/PoolSettings;" } : Jvm.MethodName) prog_43_method_2_code (1 : Nat) (Option.some (Jvm.ClassFile.FieldType.object "com/example/mensajero/mensajero/PoolSettings")), Jvm.Cond.code ({ cls := "com/example/mensajero/mensajero/PoolSettings", name := "<init>", desc := "(ILjava/time/Duration;I)V" } : Jvm.MethodName) prog_43_method_1_code (4 : Nat) (Option.none : Option Jvm.ClassFile.FieldType), Jvm.Cond.code ({ cls := "java/lang/Object", name := "<init>", desc := "()V" } : Jvm.MethodName) object_method_1_code (1 : Nat) (Option.none : Option Jvm.ClassFile.FieldType), Jvm.Cond.code ({ cls := "com/example/mensajero/mensajero/PoolSettings", name := "threads", desc := "()I" } : Jvm.MethodName) prog_43_method_5_code (1 : Nat) (Option.some Jvm.ClassFile.FieldType.int), Jvm.Cond.code ({ cls := "com/example/mensajero/mensajero/PoolSettings", name := "messagesPerRun", desc := "()I" } : Jvm.MethodName) prog_43_method_7_code (1 : Nat) (Option.some Jvm.ClassFile.FieldType.int), Jvm.Cond.code ({ cls := "com/example/mensajero/mensajero/PoolSettings", name := "timeSlice", desc := "()Ljava/time/Duration;" } : Jvm.MethodName) prog_43_method_6_code (1 : Nat) (Option.some (Jvm.ClassFile.FieldType.object "java/time/Duration"))]
set_option maxRecDepth 65536 in
theorem codes_eq : words1.filter isCode = codes1 := rfl
theorem w_codes : ∀ c ∈ words1.filter isCode, c.before args0 about1 = true := by
  rw [codes_eq]
  intro c hc
  simp only [codes1, List.mem_cons, List.not_mem_nil, or_false] at hc
  rcases hc with rfl | rfl | rfl | rfl | rfl | rfl | rfl
  · exact w_c0
  · exact w_c1
  · exact w_c2
  · exact w_c3
  · exact w_c4
  · exact w_c5
  · exact w_c6
set_option maxRecDepth 65536 in
theorem w_t1 : (words1.take 24).all (fun c => isCode c || c.before args0 about1) = true := by decide +kernel
set_option maxRecDepth 65536 in
theorem w_t2 : (words1.drop 24).all (fun c => isCode c || c.before args0 about1) = true := by decide +kernel
theorem w_tables : (allAtoms (Jvm.Cond.code x code maxLocals ret :: tables_1)).before args0 about1 = true := by
  rw [allAtoms_all]
  show words1.all (fun c => c.before args0 about1) = true
  refine all_split ?_ w_codes
  rw [← List.take_append_drop 24 words1, List.all_append, w_t1, w_t2]
  rfl
set_option maxRecDepth 65536 in
theorem w_case : (Jvm.Cond.and given_1 narrow_1).before args0 about1 = true := by decide +kernel
theorem w_applies : (headSpec (Jvm.Cond.code x code maxLocals ret :: tables_1) room_1).applies x e0.platform about1 = true :=
  (Spec.applies_iff w_frames).mpr ⟨w_running, w_runnable, w_alone, w_named, w_hears, w_ripe, w_room, w_tables⟩
theorem atStart : AtStart classFile x code maxLocals ret World_1 tables_1 room_1 Calls_1 rest_1 Pre_1 launch0 p0 e0 about1 theMethod args0 below0 :=
  ⟨lists_1, trivial, launch0.admits_env _ _ _, launch0.least_env, fairChoices_fair.cas, fairChoices_fair.clock, w_frames, w_args, w_heap, w_applies, trivial, trivial, w_case⟩
end start1
theorem witness_1 : WitnessClaimed_1 := ⟨start1.p0, start1.e0, start1.about1, start1.theMethod, start1.args0, start1.below0, start1.atStart⟩
end Jvm.Pilot.@@N@@
