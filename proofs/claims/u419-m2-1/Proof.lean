import JvmDerived
import JvmDerived.Pilot.@@N@@Statement
import JvmDerived.Pilot.@@N@@Code
set_option linter.unusedVariables false
set_option linter.unusedSimpArgs false
namespace Jvm.OwnKit
open Jvm Sem ClassFile Op Lib Jvm.Stand Jvm.Free Jvm.LawKit Jvm.RoadKit
section Own
variable {p : Program} {l : Launch} {e : Env} {R : Room} {s : State} {m : MethodId} {args : Array Value} {below : List Frame} {meth : Method} {c : Code} {T : State} {locs : List Loc} {cells slots : Nat} {Z : State} {a0 : Array Value} {h h' : Heap}
/-- the walk from A on comes to an end that says Q -/
def Goes (tb : Tables) (e : Env) (below : List Frame) (Q : State → Outcome → Prop) (A : State) : Prop := ∃ t o, Steps tb e below A t ∧ t.status = .running ∧ Ended t below o ∧ Q t o
theorem Goes.via {tb : Tables} {Q : State → Outcome → Prop} {A B : State} (st : ∀ t, Steps tb e below B t → Steps tb e below A t) (k : Goes tb e below Q B) : Goes tb e below Q A := by
  obtain ⟨t, o, h, r⟩ := k; exact ⟨t, o, st t h, r⟩
/-- what a contract says at one start: the arguments as', the heap h -/
abbrev Ctr (l : Launch) (Z : State) (y : MethodName) (bytes : ByteArray) (maxL : Nat) (ret : Option FieldType) (rm : Room) (as' : Array Value) (h : Heap) (Q : Option Value → Heap → List Loc → Prop) (ws : List Cond) : Prop :=
  MetFree l y (head1 (Cond.code y bytes maxL ret :: ws) rm) (fun a U => a = as' ∧ Z.Warmed39 U.vm ∧ U.heap = h) (fun _ _ _ _ _ => True) (fun _ U o U' => ∃ v L, o = .returned v ∧ Q v U'.heap L ∧ FrameEnd U o U' L rm.cells rm.slots)
/-- what a contract says of a body that may make String constants -/
abbrev CtrW (l : Launch) (Z : State) (y : MethodName) (bytes : ByteArray) (maxL : Nat) (ret : Option FieldType) (rm : Room) (as' : Array Value) (h : Heap) (Q : Option Value → Heap → List Loc → Prop) (ws : List Cond) : Prop :=
  MetFree l y (head1 (Cond.code y bytes maxL ret :: ws) rm) (fun a U => a = as' ∧ Z.Warmed39 U.vm ∧ U.heap = h) (fun _ _ _ _ _ => True) (fun _ U o U' => ∃ v L, o = .returned v ∧ Q v U'.heap L ∧ ReturnedEndW U o U' L rm.cells rm.slots)
/-- the leave of a walk, in either frame F -/
def Lv (F : State → Outcome → State → List Loc → Nat → Nat → Prop) (e : Env) (s : State) (m : MethodId) (below : List Frame) (meth : Method) (T : State) (locs : List Loc) (C S : Nat) : Prop :=
  ∀ v : Option Value, (meth.sig.returnType = none → v = none) → ∃ fs, (∀ (f : JFrame) (acts : List Action), f.method = m → f.locked = none → f.entered = [] → (doReturn e (T.setTop f) acts v).1 = T.setFrames fs) ∧ (T.setFrames fs).status = .running ∧ Ended (T.setFrames fs) below (.returned v) ∧ F s (.returned v) (T.setFrames fs) locs C S
theorem lvN (X : Stand p l e R s m args below meth c T locs cells slots) (hlocks : meth.locks = false) {C S : Nat} (hc : cells ≤ C) (hs : slots ≤ S) : Lv FrameEnd e s m below meth T locs C S := fun v hv => by
  obtain ⟨fs, hr, hrun, hended, hW, hsame⟩ := X.leave hv hlocks
  exact ⟨fs, hr, hrun, hended, ⟨_, rfl⟩, hW, hsame.mono hc hs⟩
theorem lvW {vm0 : Vm} {k0 : Nat} (X : Stand p l e R (s.setVm vm0) m args below meth c T locs cells slots) (hlocks : meth.locks = false) (hS : s.Since vm0 k0) (eT : T.heap = h) (hk : k0 ≤ h.size) {C S : Nat} (hc : cells ≤ C) (hs : slots ≤ S) : Lv ReturnedEndW e s m below meth T locs C S := fun v hv => by
  obtain ⟨fs, hr, hrun, hended, h1, h2, h3, h4⟩ := X.leaveW hS (eT ▸ hk) hv hlocks
  exact ⟨fs, hr, hrun, hended, h1, h2, h3, h4.mono hc hs⟩
theorem fin {F : State → Outcome → State → List Loc → Nat → Nat → Prop} {v : Option Value} (hv : meth.sig.returnType = none → v = none) {A : State}
    (hk : ∀ fs, (∀ (f : JFrame) (acts : List Action), f.method = m → f.locked = none → f.entered = [] → (doReturn e (T.setTop f) acts v).1 = T.setFrames fs) → Steps p.tables e below A (T.setFrames fs))
    {Q : Option Value → Heap → List Loc → Prop} {C S : Nat} (eT : T.heap = h) (hQ : Q v h locs) (lv : Lv F e s m below meth T locs C S) :
    Goes p.tables e below (fun t o => ∃ v L, o = .returned v ∧ Q v t.heap L ∧ F s o t L C S) A := by
  obtain ⟨fs, hr, hrun, hended, hF⟩ := lv v hv
  subst eT
  exact ⟨_, _, hk fs hr, hrun, hended, v, locs, rfl, hQ, hF⟩
variable {sb : State} {F : State → Outcome → State → List Loc → Nat → Nat → Prop}
/-- return of nothing -/
theorem fin0 (X : Stand p l e R sb m args below meth c T locs cells slots) (hx : p.tables.exec = Jvm.exec) (hret : meth.sig.returnType = none) {pc : Nat} {Ls : Array Slot} (hd : decode c.code pc = .ok (.return_, 1))
    {Q : Option Value → Heap → List Loc → Prop} {C S : Nat} (eT : T.heap = h) (hQ : Q none h locs) (lv : Lv F e s m below meth T locs C S) :
    Goes p.tables e below (fun t o => ∃ v L, o = .returned v ∧ Q v t.heap L ∧ F s o t L C S) (T.setTop (mkF m pc Ls [])) :=
  fin (fun _ => rfl) (fun _ hl => X.returnOut hx hret hd hl) eT hQ lv
theorem finI (X : Stand p l e R sb m args below meth c T locs cells slots) (hx : p.tables.exec = Jvm.exec) (hret : meth.sig.returnType = some .int) {pc : Nat} {Ls : Array Slot} {st : List Value} {z : Int32} (hd : decode c.code pc = .ok (.ireturn, 1))
    {Q : Option Value → Heap → List Loc → Prop} {C S : Nat} (eT : T.heap = h) (hQ : Q (some (.int z)) h locs) (lv : Lv F e s m below meth T locs C S) :
    Goes p.tables e below (fun t o => ∃ v L, o = .returned v ∧ Q v t.heap L ∧ F s o t L C S) (T.setTop (mkF m pc Ls (.int z :: st))) :=
  fin (fun q => by rw [hret] at q; cases q) (fun _ hl => retOut X hx hret rfl (Or.inl ⟨rfl, Or.inl rfl, _, rfl⟩) hd hl) eT hQ lv
theorem finN (X : Stand p l e R sb m args below meth c T locs cells slots) (hx : p.tables.exec = Jvm.exec) {t : FieldType} (hret : meth.sig.returnType = some t) (ht : t = .boolean ∨ t = .byte ∨ t = .char ∨ t = .short) {pc : Nat} {Ls : Array Slot} {st : List Value} {z z' : Int32} (hz : nar t z = z') (hd : decode c.code pc = .ok (.ireturn, 1))
    {Q : Option Value → Heap → List Loc → Prop} {C S : Nat} (eT : T.heap = h) (hQ : Q (some (.int z')) h locs) (lv : Lv F e s m below meth T locs C S) :
    Goes p.tables e below (fun t o => ∃ v L, o = .returned v ∧ Q v t.heap L ∧ F s o t L C S) (T.setTop (mkF m pc Ls (.int z :: st))) :=
  fin (fun q => by rw [hret] at q; cases q) (fun _ hl => by subst hz; exact retN X hx hret ht hd hl) eT hQ lv
theorem finJ (X : Stand p l e R sb m args below meth c T locs cells slots) (hx : p.tables.exec = Jvm.exec) (hret : meth.sig.returnType = some .long) {pc : Nat} {Ls : Array Slot} {st : List Value} {z : Int64} (hd : decode c.code pc = .ok (.lreturn, 1))
    {Q : Option Value → Heap → List Loc → Prop} {C S : Nat} (eT : T.heap = h) (hQ : Q (some (.long z)) h locs) (lv : Lv F e s m below meth T locs C S) :
    Goes p.tables e below (fun t o => ∃ v L, o = .returned v ∧ Q v t.heap L ∧ F s o t L C S) (T.setTop (mkF m pc Ls (.long z :: st))) :=
  fin (fun q => by rw [hret] at q; cases q) (fun _ hl => retOut X hx hret rfl (Or.inr (Or.inl ⟨rfl, rfl, _, rfl⟩)) hd hl) eT hQ lv
theorem finA (X : Stand p l e R sb m args below meth c T locs cells slots) (hx : p.tables.exec = Jvm.exec) {t : FieldType} (hret : meth.sig.returnType = some t) (ht : t.isReference = true) {pc : Nat} {Ls : Array Slot} {st : List Value} {w : Value} (hw : w.isRef = true) (hn : narrow t w = w) (hd : decode c.code pc = .ok (.areturn, 1))
    {Q : Option Value → Heap → List Loc → Prop} {C S : Nat} (eT : T.heap = h) (hQ : Q (some w) h locs) (lv : Lv F e s m below meth T locs C S) :
    Goes p.tables e below (fun t o => ∃ v L, o = .returned v ∧ Q v t.heap L ∧ F s o t L C S) (T.setTop (mkF m pc Ls (w :: st))) :=
  fin (fun q => by rw [hret] at q; cases q) (fun _ hl => retOut X hx hret hn (Or.inr (Or.inr (Or.inr (Or.inr ⟨rfl, ht, hw⟩)))) hd hl) eT hQ lv
theorem nar_ref {t : FieldType} {w : Value} (ht : t.isReference = true) (hw : w.isRef = true) : narrow t w = w := by cases t <;> first | (cases ht; done) | (cases w <;> first | rfl | (cases hw; done))
theorem fit_ref {t : FieldType} {w : Value} (ht : t.isReference = true) (hw : w.isRef = true) : fits t w = true := by cases t <;> first | (cases ht; done) | (cases w <;> first | rfl | (cases hw; done))
theorem old_le {n0 : Nat} (O : Old Z n0 h) : n0 ≤ h.size := O.1 ▸ O.2.1
/-- a callee's law, in the one shape -/
abbrev BackQ (l : Launch) (R : Room) (p : Program) (e : Env) (below : List Frame) (s : State) (args : Array Value) (y : MethodName) (W : Nat) (as' : Array Value) (h : Heap) (kc ks : Nat) (Q : Option Value → Heap → List Loc → Prop) : Prop :=
  Back l R p e below s args y 3 W (fun A a => a = as' ∧ A.U.heap = h ∧ A.cells + kc ≤ R.cells ∧ A.slots + ks ≤ R.slots) (fun A _ v B => ∃ L, Q v B.U.heap L ∧ B.locs = A.locs ++ L ∧ B.cells = A.cells + kc ∧ B.slots = A.slots + ks)
theorem callStaticB (X : Stand p l e R s m args below meth c T locs cells slots) (hx : p.tables.exec = Jvm.exec) (hZ : Z.Warmed39 s.vm) {own : String} {index : Nat} {y : MethodName} {bytes : ByteArray} {maxL : Nat} {ret : Option FieldType} {kc ks : Nat} {Q : Option Value → Heap → List Loc → Prop}
    (hown : s.vm.findClass own = some m.cls) (w1 : (Cond.methodLink own index y).before a0 Z = true) (w2 : (Cond.static y).before a0 Z = true) (w3 : (Cond.initialized y.cls).before a0 Z = true) (w4 : (Cond.code y bytes maxL ret).before a0 Z = true)
    (hy : y.cls ≠ "java/lang/invoke/MethodHandle" ∧ y.cls ≠ "java/lang/invoke/VarHandle") {argsL rest : List Value} {W : Nat} (hK : BackQ l R p e below s args y W argsL.toArray h kc ks Q) (eT : T.heap = h)
    (hlen : ∀ sig, parseMethodDescriptor y.desc = some sig → argsL.length = sig.parameters.length) {pc : Nat} {Ls : Array Slot} {st : List Value} (hst : st = argsL.reverse ++ rest) (hsz : Ls.size = c.maxLocals) (hd : decode c.code pc = .ok (.invokestatic index, 3))
    (hW : (rest.map fun v => v.category).sum ≤ W) (hce : cells + kc ≤ R.cells) (hsl : slots + ks ≤ R.slots) :
    ∃ v T' L, Stand p l e R s m args below meth c T' (locs ++ L) (cells + kc) (slots + ks) ∧ Q v T'.heap L ∧ ∀ t, Steps p.tables e below (T'.setTop (mkF m (pc + 3) Ls (v.toList ++ rest))) t → Steps p.tables e below (T.setTop (mkF m pc Ls st)) t := by
  obtain ⟨v, _, ⟨T', L', k', n'⟩, -, X', ⟨L, hQ, l1, l2, l3⟩, st'⟩ := Jvm.LawKit.callS X hx hown (mvT hZ w1) (mvT hZ w2) (mvT hZ w3) (mvT hZ w4) hy hK (g := mkF m pc Ls st) rfl hsz (argsL := argsL) (rest := rest) hlen hst (by show 2 * 0 + _ ≤ _; omega) hd (fun _ _ => ⟨rfl, eT, hce, hsl⟩)
  dsimp only [Pt.U, Pt.locs, Pt.cells, Pt.slots] at X' l1 l2 l3 st' hQ
  subst l1 l2 l3
  exact ⟨v, T', L, X', hQ, st'⟩
theorem callStatic (X : Stand p l e R s m args below meth c T locs cells slots) (hx : p.tables.exec = Jvm.exec) (hZ : Z.Warmed39 s.vm) {own : String} {index : Nat} {y : MethodName} {bytes : ByteArray} {maxL : Nat} {ret : Option FieldType} {rm : Room} {Q : Option Value → Heap → List Loc → Prop}
    (hown : s.vm.findClass own = some m.cls) (w1 : (Cond.methodLink own index y).before a0 Z = true) (w2 : (Cond.static y).before a0 Z = true) (w3 : (Cond.initialized y.cls).before a0 Z = true) (w4 : (Cond.code y bytes maxL ret).before a0 Z = true)
    (hy : y.cls ≠ "java/lang/invoke/MethodHandle" ∧ y.cls ≠ "java/lang/invoke/VarHandle") {argsL rest : List Value} (hM : Ctr l Z y bytes maxL ret rm argsL.toArray h Q []) (eT : T.heap = h)
    (hlen : ∀ sig, parseMethodDescriptor y.desc = some sig → argsL.length = sig.parameters.length) {pc W : Nat} {Ls : Array Slot} {st : List Value} (hst : st = argsL.reverse ++ rest) (hsz : Ls.size = c.maxLocals) (hd : decode c.code pc = .ok (.invokestatic index, 3))
    (hW : (rest.map fun v => v.category).sum ≤ W) (hfr : rm.frames + 1 ≤ R.frames) (hlo : W + (maxL + 11) + rm.locals ≤ R.locals) (hce : cells + rm.cells ≤ R.cells) (hsl : slots + rm.slots ≤ R.slots) :
    ∃ v T' L, Stand p l e R s m args below meth c T' (locs ++ L) (cells + rm.cells) (slots + rm.slots) ∧ Q v T'.heap L ∧ ∀ t, Steps p.tables e below (T'.setTop (mkF m (pc + 3) Ls (v.toList ++ rest))) t → Steps p.tables e below (T.setTop (mkF m pc Ls st)) t :=
  callStaticB X hx hZ hown w1 w2 w3 w4 hy (backOf (W := W) hM hZ w4 w3 hfr hlo) eT hlen hst hsz hd hW hce hsl
theorem callInitB (X : Stand p l e R s m args below meth c T locs cells slots) (hx : p.tables.exec = Jvm.exec) (hZ : Z.Warmed39 s.vm) {own : String} {index : Nat} {y : MethodName} {bytes : ByteArray} {maxL : Nat} {kc ks : Nat} {Q : Option Value → Heap → List Loc → Prop} (hy1 : y.name = "<init>")
    (hown : s.vm.findClass own = some m.cls) (w1 : (Cond.methodLink own index y).before a0 Z = true) (w2 : (Cond.instanceMethod y).before a0 Z = true) (w4 : (Cond.code y bytes maxL none).before a0 Z = true)
    (hy : y.cls ≠ "java/lang/invoke/MethodHandle" ∧ y.cls ≠ "java/lang/invoke/VarHandle") {a : Addr} {argsL rest : List Value} {W : Nat} (hK : BackQ l R p e below s args y W (.ref a :: argsL).toArray h kc ks Q) (eT : T.heap = h)
    (hlen : ∀ sig, parseMethodDescriptor y.desc = some sig → argsL.length = sig.parameters.length) {pc : Nat} {Ls : Array Slot} {st : List Value} (hst : st = argsL.reverse ++ .ref a :: rest) (hsz : Ls.size = c.maxLocals) (hd : decode c.code pc = .ok (.invokespecial index, 3))
    (hW : (rest.map fun v => v.category).sum ≤ W) (hce : cells + kc ≤ R.cells) (hsl : slots + ks ≤ R.slots) :
    ∃ v T' L, Stand p l e R s m args below meth c T' (locs ++ L) (cells + kc) (slots + ks) ∧ Q v T'.heap L ∧ ∀ t, Steps p.tables e below (T'.setTop (mkF m (pc + 3) Ls (v.toList ++ rest))) t → Steps p.tables e below (T.setTop (mkF m pc Ls st)) t := by
  obtain ⟨v, _, ⟨T', L', k', n'⟩, -, X', ⟨L, hQ, l1, l2, l3⟩, st'⟩ := X.specialBack hx hy1 hown (mvT hZ w1) (mvT hZ w2) (mvT hZ w4) hy hK (g := mkF m pc Ls st) rfl hsz (Steps.refl _) (a := a) (argsL := argsL) (rest := rest) hlen hst (by show 2 * 0 + _ ≤ _; omega) hd (fun _ _ => ⟨rfl, eT, hce, hsl⟩)
  dsimp only [Pt.U, Pt.locs, Pt.cells, Pt.slots] at X' l1 l2 l3 st' hQ
  subst l1 l2 l3
  exact ⟨v, T', L, X', hQ, fun t k => st'.trans k⟩
theorem callInit (X : Stand p l e R s m args below meth c T locs cells slots) (hx : p.tables.exec = Jvm.exec) (hZ : Z.Warmed39 s.vm) {own : String} {index : Nat} {y : MethodName} {bytes : ByteArray} {maxL : Nat} {rm : Room} {Q : Option Value → Heap → List Loc → Prop} (hy1 : y.name = "<init>")
    (hown : s.vm.findClass own = some m.cls) (w1 : (Cond.methodLink own index y).before a0 Z = true) (w2 : (Cond.instanceMethod y).before a0 Z = true) (w3 : (Cond.initialized y.cls).before a0 Z = true) (w4 : (Cond.code y bytes maxL none).before a0 Z = true)
    (hy : y.cls ≠ "java/lang/invoke/MethodHandle" ∧ y.cls ≠ "java/lang/invoke/VarHandle") {a : Addr} {argsL rest : List Value} (hM : Ctr l Z y bytes maxL none rm (.ref a :: argsL).toArray h Q []) (eT : T.heap = h)
    (hlen : ∀ sig, parseMethodDescriptor y.desc = some sig → argsL.length = sig.parameters.length) {pc W : Nat} {Ls : Array Slot} {st : List Value} (hst : st = argsL.reverse ++ .ref a :: rest) (hsz : Ls.size = c.maxLocals) (hd : decode c.code pc = .ok (.invokespecial index, 3))
    (hW : (rest.map fun v => v.category).sum ≤ W) (hfr : rm.frames + 1 ≤ R.frames) (hlo : W + (maxL + 11) + rm.locals ≤ R.locals) (hce : cells + rm.cells ≤ R.cells) (hsl : slots + rm.slots ≤ R.slots) :
    ∃ v T' L, Stand p l e R s m args below meth c T' (locs ++ L) (cells + rm.cells) (slots + rm.slots) ∧ Q v T'.heap L ∧ ∀ t, Steps p.tables e below (T'.setTop (mkF m (pc + 3) Ls (v.toList ++ rest))) t → Steps p.tables e below (T.setTop (mkF m pc Ls st)) t :=
  callInitB X hx hZ hy1 hown w1 w2 w4 hy (backOf (W := W) hM hZ w4 w3 hfr hlo) eT hlen hst hsz hd hW hce hsl
theorem callVirtB (X : Stand p l e R s m args below meth c T locs cells slots) (hx : p.tables.exec = Jvm.exec) (hZ : Z.Warmed39 s.vm) {own C : String} {index : Nat} {y z : MethodName} {kc ks : Nat} {Q : Option Value → Heap → List Loc → Prop}
    (hown : s.vm.findClass own = some m.cls) (w1 : (Cond.methodLink own index y).before a0 Z = true) (w2 : (Cond.declares y).before a0 Z = true) (w5 : (Cond.selects C y z).before a0 Z = true) (hnf : NotFace s y) (w6 : (Cond.instanceMethod z).before a0 Z = true)
    (hy : y.cls ≠ "java/lang/invoke/MethodHandle" ∧ y.cls ≠ "java/lang/invoke/VarHandle") {a : Addr} {argsL rest : List Value} {W : Nat} (hK : BackQ l R p e below s args z W (.ref a :: argsL).toArray h kc ks Q) (eT : T.heap = h) (E : Exa Z h a C)
    (hlen : ∀ sig, parseMethodDescriptor y.desc = some sig → argsL.length = sig.parameters.length) {pc : Nat} {Ls : Array Slot} {st : List Value} (hst : st = argsL.reverse ++ .ref a :: rest) (hsz : Ls.size = c.maxLocals) (hd : decode c.code pc = .ok (.invokevirtual index, 3))
    (hW : (rest.map fun v => v.category).sum ≤ W) (hce : cells + kc ≤ R.cells) (hsl : slots + ks ≤ R.slots) :
    ∃ v T' L, Stand p l e R s m args below meth c T' (locs ++ L) (cells + kc) (slots + ks) ∧ Q v T'.heap L ∧ ∀ t, Steps p.tables e below (T'.setTop (mkF m (pc + 3) Ls (v.toList ++ rest))) t → Steps p.tables e below (T.setTop (mkF m pc Ls st)) t := by
  obtain ⟨cB, kB, q1, -, q3⟩ := isOf hZ eT E
  obtain ⟨v, _, ⟨T', L', k', n'⟩, -, X', ⟨L, hQ, l1, l2, l3⟩, st'⟩ := X.virtualBack hx hown (mvT hZ w1) (mvT hZ w2) hnf (mvT hZ w5) (mvT hZ w6) hy hK q1 q3 (g := mkF m pc Ls st) rfl hsz (Steps.refl _) (argsL := argsL) (rest := rest) hlen hst (by show 2 * 0 + _ ≤ _; omega) hd (fun _ _ => ⟨rfl, eT, hce, hsl⟩)
  dsimp only [Pt.U, Pt.locs, Pt.cells, Pt.slots] at X' l1 l2 l3 st' hQ
  subst l1 l2 l3
  exact ⟨v, T', L, X', hQ, fun t k => st'.trans k⟩
theorem callVirt (X : Stand p l e R s m args below meth c T locs cells slots) (hx : p.tables.exec = Jvm.exec) (hZ : Z.Warmed39 s.vm) {own C : String} {index : Nat} {y z : MethodName} {bytes : ByteArray} {maxL : Nat} {ret : Option FieldType} {rm : Room} {Q : Option Value → Heap → List Loc → Prop}
    (hown : s.vm.findClass own = some m.cls) (w1 : (Cond.methodLink own index y).before a0 Z = true) (w2 : (Cond.declares y).before a0 Z = true) (w5 : (Cond.selects C y z).before a0 Z = true) (hnf : NotFace s y) (w6 : (Cond.instanceMethod z).before a0 Z = true) (w3 : (Cond.initialized z.cls).before a0 Z = true) (w4 : (Cond.code z bytes maxL ret).before a0 Z = true)
    (hy : y.cls ≠ "java/lang/invoke/MethodHandle" ∧ y.cls ≠ "java/lang/invoke/VarHandle") {a : Addr} {argsL rest : List Value} (hM : Ctr l Z z bytes maxL ret rm (.ref a :: argsL).toArray h Q []) (eT : T.heap = h) (E : Exa Z h a C)
    (hlen : ∀ sig, parseMethodDescriptor y.desc = some sig → argsL.length = sig.parameters.length) {pc W : Nat} {Ls : Array Slot} {st : List Value} (hst : st = argsL.reverse ++ .ref a :: rest) (hsz : Ls.size = c.maxLocals) (hd : decode c.code pc = .ok (.invokevirtual index, 3))
    (hW : (rest.map fun v => v.category).sum ≤ W) (hfr : rm.frames + 1 ≤ R.frames) (hlo : W + (maxL + 11) + rm.locals ≤ R.locals) (hce : cells + rm.cells ≤ R.cells) (hsl : slots + rm.slots ≤ R.slots) :
    ∃ v T' L, Stand p l e R s m args below meth c T' (locs ++ L) (cells + rm.cells) (slots + rm.slots) ∧ Q v T'.heap L ∧ ∀ t, Steps p.tables e below (T'.setTop (mkF m (pc + 3) Ls (v.toList ++ rest))) t → Steps p.tables e below (T.setTop (mkF m pc Ls st)) t :=
  callVirtB X hx hZ hown w1 w2 w5 hnf w6 hy (backOf (W := W) hM hZ w4 w3 hfr hlo) eT E hlen hst hsz hd hW hce hsl
theorem callVirtUpB (X : Stand p l e R s m args below meth c T locs cells slots) (hx : p.tables.exec = Jvm.exec) (hZ : Z.Warmed39 s.vm) {own C owner : String} {index : Nat} {y z : MethodName} {kc ks : Nat} {Q : Option Value → Heap → List Loc → Prop}
    (hown : s.vm.findClass own = some m.cls) (w1 : (Cond.methodLink own index y).before a0 Z = true) (w7 : (Cond.sameMethod y.cls owner y.name y.desc).before a0 Z = true) (w2 : (Cond.declares ⟨owner, y.name, y.desc⟩).before a0 Z = true) (w5 : (Cond.selects C y z).before a0 Z = true) (w6 : (Cond.instanceMethod z).before a0 Z = true)
    (hy : owner ≠ "java/lang/invoke/MethodHandle" ∧ owner ≠ "java/lang/invoke/VarHandle") {a : Addr} {argsL rest : List Value} {W : Nat} (hK : BackQ l R p e below s args z W (.ref a :: argsL).toArray h kc ks Q) (eT : T.heap = h) (E : Exa Z h a C)
    (hlen : ∀ sig, parseMethodDescriptor y.desc = some sig → argsL.length = sig.parameters.length) {pc : Nat} {Ls : Array Slot} {st : List Value} (hst : st = argsL.reverse ++ .ref a :: rest) (hsz : Ls.size = c.maxLocals) (hd : decode c.code pc = .ok (.invokevirtual index, 3))
    (hW : (rest.map fun v => v.category).sum ≤ W) (hce : cells + kc ≤ R.cells) (hsl : slots + ks ≤ R.slots) :
    ∃ v T' L, Stand p l e R s m args below meth c T' (locs ++ L) (cells + kc) (slots + ks) ∧ Q v T'.heap L ∧ ∀ t, Steps p.tables e below (T'.setTop (mkF m (pc + 3) Ls (v.toList ++ rest))) t → Steps p.tables e below (T.setTop (mkF m pc Ls st)) t := by
  obtain ⟨cB, kB, q1, -, q3⟩ := isOf hZ eT E
  obtain ⟨v, _, ⟨T', L', k', n'⟩, -, X', ⟨L, hQ, l1, l2, l3⟩, st'⟩ := X.virtualBackUp hx hown (mvT hZ w1) (mvT hZ w7) (mvT hZ w2) hy (mvT hZ w5) (mvT hZ w6) hK q1 q3 (g := mkF m pc Ls st) rfl hsz (Steps.refl _) (argsL := argsL) (rest := rest) hlen hst (by show 2 * 0 + _ ≤ _; omega) hd (fun _ _ => ⟨rfl, eT, hce, hsl⟩)
  dsimp only [Pt.U, Pt.locs, Pt.cells, Pt.slots] at X' l1 l2 l3 st' hQ
  subst l1 l2 l3
  exact ⟨v, T', L, X', hQ, fun t k => st'.trans k⟩
theorem callVirtUp (X : Stand p l e R s m args below meth c T locs cells slots) (hx : p.tables.exec = Jvm.exec) (hZ : Z.Warmed39 s.vm) {own C owner : String} {index : Nat} {y z : MethodName} {bytes : ByteArray} {maxL : Nat} {ret : Option FieldType} {rm : Room} {Q : Option Value → Heap → List Loc → Prop}
    (hown : s.vm.findClass own = some m.cls) (w1 : (Cond.methodLink own index y).before a0 Z = true) (w7 : (Cond.sameMethod y.cls owner y.name y.desc).before a0 Z = true) (w2 : (Cond.declares ⟨owner, y.name, y.desc⟩).before a0 Z = true) (w5 : (Cond.selects C y z).before a0 Z = true) (w6 : (Cond.instanceMethod z).before a0 Z = true) (w3 : (Cond.initialized z.cls).before a0 Z = true) (w4 : (Cond.code z bytes maxL ret).before a0 Z = true)
    (hy : owner ≠ "java/lang/invoke/MethodHandle" ∧ owner ≠ "java/lang/invoke/VarHandle") {a : Addr} {argsL rest : List Value} (hM : Ctr l Z z bytes maxL ret rm (.ref a :: argsL).toArray h Q []) (eT : T.heap = h) (E : Exa Z h a C)
    (hlen : ∀ sig, parseMethodDescriptor y.desc = some sig → argsL.length = sig.parameters.length) {pc W : Nat} {Ls : Array Slot} {st : List Value} (hst : st = argsL.reverse ++ .ref a :: rest) (hsz : Ls.size = c.maxLocals) (hd : decode c.code pc = .ok (.invokevirtual index, 3))
    (hW : (rest.map fun v => v.category).sum ≤ W) (hfr : rm.frames + 1 ≤ R.frames) (hlo : W + (maxL + 11) + rm.locals ≤ R.locals) (hce : cells + rm.cells ≤ R.cells) (hsl : slots + rm.slots ≤ R.slots) :
    ∃ v T' L, Stand p l e R s m args below meth c T' (locs ++ L) (cells + rm.cells) (slots + rm.slots) ∧ Q v T'.heap L ∧ ∀ t, Steps p.tables e below (T'.setTop (mkF m (pc + 3) Ls (v.toList ++ rest))) t → Steps p.tables e below (T.setTop (mkF m pc Ls st)) t :=
  callVirtUpB X hx hZ hown w1 w7 w2 w5 w6 hy (backOf (W := W) hM hZ w4 w3 hfr hlo) eT E hlen hst hsz hd hW hce hsl
/-- invokevirtual of a private method -/
theorem callPrivB (X : Stand p l e R s m args below meth c T locs cells slots) (hx : p.tables.exec = Jvm.exec) (hZ : Z.Warmed39 s.vm) {own C : String} {index : Nat} {y : MethodName} {bytes : ByteArray} {maxL : Nat} {ret : Option FieldType} {kc ks : Nat} {Q : Option Value → Heap → List Loc → Prop}
    (hown : s.vm.findClass own = some m.cls) (w1 : (Cond.methodLink own index y).before a0 Z = true) (w2 : (Cond.instanceMethod y).before a0 Z = true) (w3 : (Cond.selects y.cls y y).before a0 Z = true) (w5 : (Cond.privateMethod y).before a0 Z = true) (w4 : (Cond.code y bytes maxL ret).before a0 Z = true)
    (hy : y.cls ≠ "java/lang/invoke/MethodHandle" ∧ y.cls ≠ "java/lang/invoke/VarHandle") {a : Addr} {argsL rest : List Value} {W : Nat} (hK : BackQ l R p e below s args y W (.ref a :: argsL).toArray h kc ks Q) (eT : T.heap = h) (E : Exa Z h a C)
    (hlen : ∀ sig, parseMethodDescriptor y.desc = some sig → argsL.length = sig.parameters.length) {pc : Nat} {Ls : Array Slot} {st : List Value} (hst : st = argsL.reverse ++ .ref a :: rest) (hsz : Ls.size = c.maxLocals) (hd : decode c.code pc = .ok (.invokevirtual index, 3))
    (hW : (rest.map fun v => v.category).sum ≤ W) (hce : cells + kc ≤ R.cells) (hsl : slots + ks ≤ R.slots) :
    ∃ v T' L, Stand p l e R s m args below meth c T' (locs ++ L) (cells + kc) (slots + ks) ∧ Q v T'.heap L ∧ ∀ t, Steps p.tables e below (T'.setTop (mkF m (pc + 3) Ls (v.toList ++ rest))) t → Steps p.tables e below (T.setTop (mkF m pc Ls st)) t := by
  obtain ⟨cell, q1, q2⟩ := Exa.cell E
  obtain ⟨v, _, ⟨T', L', k', n'⟩, -, X', ⟨L, hQ, l1, l2, l3⟩, st'⟩ := X.privateBack hx hown (mvT hZ w1) (mvT hZ w2) (mvT hZ w3) (Cond.privateMethod_at (args := args) (mvP hZ w5)) (mvT hZ w4) hy hK (g := mkF m pc Ls st) rfl hsz (Steps.refl _) (a := a) (by rw [eT]; exact q1) q2 (argsL := argsL) (rest := rest) hlen hst (by show 2 * 0 + _ ≤ _; omega) hd (fun _ _ => ⟨rfl, eT, hce, hsl⟩)
  dsimp only [Pt.U, Pt.locs, Pt.cells, Pt.slots] at X' l1 l2 l3 st' hQ
  subst l1 l2 l3
  exact ⟨v, T', L, X', hQ, fun t k => st'.trans k⟩
theorem callPriv (X : Stand p l e R s m args below meth c T locs cells slots) (hx : p.tables.exec = Jvm.exec) (hZ : Z.Warmed39 s.vm) {own C : String} {index : Nat} {y : MethodName} {bytes : ByteArray} {maxL : Nat} {ret : Option FieldType} {rm : Room} {Q : Option Value → Heap → List Loc → Prop}
    (hown : s.vm.findClass own = some m.cls) (w1 : (Cond.methodLink own index y).before a0 Z = true) (w2 : (Cond.instanceMethod y).before a0 Z = true) (w5 : (Cond.selects y.cls y y).before a0 Z = true) (w6 : (Cond.privateMethod y).before a0 Z = true) (w3 : (Cond.initialized y.cls).before a0 Z = true) (w4 : (Cond.code y bytes maxL ret).before a0 Z = true)
    (hy : y.cls ≠ "java/lang/invoke/MethodHandle" ∧ y.cls ≠ "java/lang/invoke/VarHandle") {a : Addr} {argsL rest : List Value} (hM : Ctr l Z y bytes maxL ret rm (.ref a :: argsL).toArray h Q []) (eT : T.heap = h) (E : Exa Z h a C)
    (hlen : ∀ sig, parseMethodDescriptor y.desc = some sig → argsL.length = sig.parameters.length) {pc W : Nat} {Ls : Array Slot} {st : List Value} (hst : st = argsL.reverse ++ .ref a :: rest) (hsz : Ls.size = c.maxLocals) (hd : decode c.code pc = .ok (.invokevirtual index, 3))
    (hW : (rest.map fun v => v.category).sum ≤ W) (hfr : rm.frames + 1 ≤ R.frames) (hlo : W + (maxL + 11) + rm.locals ≤ R.locals) (hce : cells + rm.cells ≤ R.cells) (hsl : slots + rm.slots ≤ R.slots) :
    ∃ v T' L, Stand p l e R s m args below meth c T' (locs ++ L) (cells + rm.cells) (slots + rm.slots) ∧ Q v T'.heap L ∧ ∀ t, Steps p.tables e below (T'.setTop (mkF m (pc + 3) Ls (v.toList ++ rest))) t → Steps p.tables e below (T.setTop (mkF m pc Ls st)) t :=
  callPrivB X hx hZ hown w1 w2 w5 w6 w4 hy (backOf (W := W) hM hZ w4 w3 hfr hlo) eT E hlen hst hsz hd hW hce hsl
abbrev BackQ5 (l : Launch) (R : Room) (p : Program) (e : Env) (below : List Frame) (s : State) (args : Array Value) (y : MethodName) (W : Nat) (as' : Array Value) (h : Heap) (kc ks : Nat) (Q : Option Value → Heap → List Loc → Prop) : Prop :=
  Back l R p e below s args y 5 W (fun A a => a = as' ∧ A.U.heap = h ∧ A.cells + kc ≤ R.cells ∧ A.slots + ks ≤ R.slots) (fun A _ v B => ∃ L, Q v B.U.heap L ∧ B.locs = A.locs ++ L ∧ B.cells = A.cells + kc ∧ B.slots = A.slots + ks)
theorem callFaceB (X : Stand p l e R s m args below meth c T locs cells slots) (hx : p.tables.exec = Jvm.exec) (hZ : Z.Warmed39 s.vm) {own C : String} {index count : Nat} {y z : MethodName} {kc ks : Nat} {Q : Option Value → Heap → List Loc → Prop}
    (hown : s.vm.findClass own = some m.cls) (w1 : (Cond.methodLink own index y).before a0 Z = true) (w2 : (Cond.declares y).before a0 Z = true) (w3 : (Cond.interfaceMethod y.cls y.cls y.name y.desc).before args s = true) (w5 : (Cond.selects C y z).before a0 Z = true) (w6 : (Cond.instanceMethod z).before a0 Z = true)
    (w7 : (Cond.publicMethod z).before a0 Z = true) (w8 : (Cond.unhidden C y.name y.desc).before a0 Z = true) (w9 : (Cond.castable C y.cls).before a0 Z = true)
    (hy : y.cls ≠ "java/lang/invoke/MethodHandle" ∧ y.cls ≠ "java/lang/invoke/VarHandle") {a : Addr} {argsL rest : List Value} {W : Nat} (hK : BackQ5 l R p e below s args z W (.ref a :: argsL).toArray h kc ks Q) (eT : T.heap = h) (E : Exa Z h a C)
    (hlen : ∀ sig, parseMethodDescriptor y.desc = some sig → argsL.length = sig.parameters.length) {pc : Nat} {Ls : Array Slot} {st : List Value} (hst : st = argsL.reverse ++ .ref a :: rest) (hsz : Ls.size = c.maxLocals) (hd : decode c.code pc = .ok (.invokeinterface index count, 5))
    (hW : (rest.map fun v => v.category).sum ≤ W) (hce : cells + kc ≤ R.cells) (hsl : slots + ks ≤ R.slots) :
    ∃ v T' L, Stand p l e R s m args below meth c T' (locs ++ L) (cells + kc) (slots + ks) ∧ Q v T'.heap L ∧ ∀ t, Steps p.tables e below (T'.setTop (mkF m (pc + 5) Ls (v.toList ++ rest))) t → Steps p.tables e below (T.setTop (mkF m pc Ls st)) t := by
  obtain ⟨cB, kB, q1, q2, q3⟩ := isOf hZ eT E
  obtain ⟨v, _, ⟨T', L', k', n'⟩, -, X', ⟨L, hQ, l1, l2, l3⟩, st'⟩ := X.interfaceBack hx hown (mvT hZ w1) (mvT hZ w2) w3 (mvT hZ w5) (mvT hZ w6) (mvT hZ w7) (mvT hZ w8) (mvT hZ w9) hy hK q1 q2 q3 (g := mkF m pc Ls st) rfl hsz (Steps.refl _) (argsL := argsL) (rest := rest) hlen hst (by show 2 * 0 + _ ≤ _; omega) hd (fun _ _ => ⟨rfl, eT, hce, hsl⟩)
  dsimp only [Pt.U, Pt.locs, Pt.cells, Pt.slots] at X' l1 l2 l3 st' hQ
  subst l1 l2 l3
  exact ⟨v, T', L, X', hQ, fun t k => st'.trans k⟩
theorem callFace (X : Stand p l e R s m args below meth c T locs cells slots) (hx : p.tables.exec = Jvm.exec) (hZ : Z.Warmed39 s.vm) {own C : String} {index count : Nat} {y z : MethodName} {bytes : ByteArray} {maxL : Nat} {ret : Option FieldType} {rm : Room} {Q : Option Value → Heap → List Loc → Prop}
    (hown : s.vm.findClass own = some m.cls) (w1 : (Cond.methodLink own index y).before a0 Z = true) (w2 : (Cond.declares y).before a0 Z = true) (wi : (Cond.interfaceMethod y.cls y.cls y.name y.desc).before args s = true) (w5 : (Cond.selects C y z).before a0 Z = true) (w6 : (Cond.instanceMethod z).before a0 Z = true)
    (w7 : (Cond.publicMethod z).before a0 Z = true) (w8 : (Cond.unhidden C y.name y.desc).before a0 Z = true) (w9 : (Cond.castable C y.cls).before a0 Z = true) (w3 : (Cond.initialized z.cls).before a0 Z = true) (w4 : (Cond.code z bytes maxL ret).before a0 Z = true)
    (hy : y.cls ≠ "java/lang/invoke/MethodHandle" ∧ y.cls ≠ "java/lang/invoke/VarHandle") {a : Addr} {argsL rest : List Value} (hM : Ctr l Z z bytes maxL ret rm (.ref a :: argsL).toArray h Q []) (eT : T.heap = h) (E : Exa Z h a C)
    (hlen : ∀ sig, parseMethodDescriptor y.desc = some sig → argsL.length = sig.parameters.length) {pc W : Nat} {Ls : Array Slot} {st : List Value} (hst : st = argsL.reverse ++ .ref a :: rest) (hsz : Ls.size = c.maxLocals) (hd : decode c.code pc = .ok (.invokeinterface index count, 5))
    (hW : (rest.map fun v => v.category).sum ≤ W) (hfr : rm.frames + 1 ≤ R.frames) (hlo : W + (maxL + 11) + rm.locals ≤ R.locals) (hce : cells + rm.cells ≤ R.cells) (hsl : slots + rm.slots ≤ R.slots) :
    ∃ v T' L, Stand p l e R s m args below meth c T' (locs ++ L) (cells + rm.cells) (slots + rm.slots) ∧ Q v T'.heap L ∧ ∀ t, Steps p.tables e below (T'.setTop (mkF m (pc + 5) Ls (v.toList ++ rest))) t → Steps p.tables e below (T.setTop (mkF m pc Ls st)) t :=
  callFaceB X hx hZ hown w1 w2 wi w5 w6 w7 w8 w9 hy (backOf (W := W) hM hZ w4 w3 hfr hlo) eT E hlen hst hsz hd hW hce hsl
theorem callStaticW {vm0 : Vm} {k0 : Nat} (X : Stand p l e R (s.setVm vm0) m args below meth c T locs cells slots) (hx : p.tables.exec = Jvm.exec) (hZ : Z.Warmed39 vm0) (hS : s.Since vm0 k0) (hk : k0 ≤ h.size) {own : String} {index : Nat} {y : MethodName} {bytes : ByteArray} {maxL : Nat} {ret : Option FieldType} {rm : Room} {Q : Option Value → Heap → List Loc → Prop}
    (hown : vm0.findClass own = some m.cls) (w1 : (Cond.methodLink own index y).before a0 Z = true) (w2 : (Cond.static y).before a0 Z = true) (w3 : (Cond.initialized y.cls).before a0 Z = true) (w4 : (Cond.code y bytes maxL ret).before a0 Z = true)
    (hy : y.cls ≠ "java/lang/invoke/MethodHandle" ∧ y.cls ≠ "java/lang/invoke/VarHandle") {argsL rest : List Value} (hM : CtrW l Z y bytes maxL ret rm argsL.toArray h Q []) (eT : T.heap = h)
    (hlen : ∀ sig, parseMethodDescriptor y.desc = some sig → argsL.length = sig.parameters.length) {pc W : Nat} {Ls : Array Slot} {st : List Value} (hst : st = argsL.reverse ++ rest) (hsz : Ls.size = c.maxLocals) (hd : decode c.code pc = .ok (.invokestatic index, 3))
    (hW : (rest.map fun v => v.category).sum ≤ W) (hfr : rm.frames + 1 ≤ R.frames) (hlo : W + (maxL + 11) + rm.locals ≤ R.locals) (hce : cells + rm.cells ≤ R.cells) (hsl : slots + rm.slots ≤ R.slots) :
    ∃ v T' L, Stand p l e R (s.setVm T'.vm) m args below meth c T' (locs ++ L) (cells + rm.cells) (slots + rm.slots) ∧ s.Since T'.vm T'.heap.size ∧ Z.Warmed39 T'.vm ∧ T'.vm.findClass own = some m.cls ∧ Q v T'.heap L ∧ ∀ t, Steps p.tables e below (T'.setTop (mkF m (pc + 3) Ls (v.toList ++ rest))) t → Steps p.tables e below (T.setTop (mkF m pc Ls st)) t := by
  obtain ⟨v, _, ⟨T', L', k', n'⟩, -, X', hS', hg', ⟨L, hQ, l1, l2, l3⟩, st'⟩ := callSS X hx hown (mvT (s := s.setVm vm0) hZ w1) (mvT (s := s.setVm vm0) hZ w2) (mvT (s := s.setVm vm0) hZ w3) (mvT (s := s.setVm vm0) hZ w4) hy (backOfS (W := W) hM (s := s.setVm vm0) hZ w4 w3 hfr hlo) (g := mkF m pc Ls st) rfl hsz (argsL := argsL) (rest := rest) hlen hst (by show 2 * 0 + _ ≤ _; omega) hd (fun _ _ => ⟨rfl, eT, hce, hsl⟩)
  dsimp only [Pt.U, Pt.locs, Pt.cells, Pt.slots] at X' hS' hg' l1 l2 l3 st' hQ
  subst l1 l2 l3
  exact ⟨v, T', L, X', hS.trans hS' (Nat.le_trans hk (eT ▸ hg')), State.Warmed39.trans (t := s.setVm vm0) hZ hS'.1, by rw [hS'.1.alike.findClass]; exact hown, hQ, fun t k => st'.trans k⟩
theorem callInitW {vm0 : Vm} {k0 : Nat} (X : Stand p l e R (s.setVm vm0) m args below meth c T locs cells slots) (hx : p.tables.exec = Jvm.exec) (hZ : Z.Warmed39 vm0) (hS : s.Since vm0 k0) (hk : k0 ≤ h.size) {own : String} {index : Nat} {y : MethodName} {bytes : ByteArray} {maxL : Nat} {rm : Room} {Q : Option Value → Heap → List Loc → Prop} (hy1 : y.name = "<init>")
    (hown : vm0.findClass own = some m.cls) (w1 : (Cond.methodLink own index y).before a0 Z = true) (w2 : (Cond.instanceMethod y).before a0 Z = true) (w3 : (Cond.initialized y.cls).before a0 Z = true) (w4 : (Cond.code y bytes maxL none).before a0 Z = true)
    (hy : y.cls ≠ "java/lang/invoke/MethodHandle" ∧ y.cls ≠ "java/lang/invoke/VarHandle") {a : Addr} {argsL rest : List Value} (hM : CtrW l Z y bytes maxL none rm (.ref a :: argsL).toArray h Q []) (eT : T.heap = h)
    (hlen : ∀ sig, parseMethodDescriptor y.desc = some sig → argsL.length = sig.parameters.length) {pc W : Nat} {Ls : Array Slot} {st : List Value} (hst : st = argsL.reverse ++ .ref a :: rest) (hsz : Ls.size = c.maxLocals) (hd : decode c.code pc = .ok (.invokespecial index, 3))
    (hW : (rest.map fun v => v.category).sum ≤ W) (hfr : rm.frames + 1 ≤ R.frames) (hlo : W + (maxL + 11) + rm.locals ≤ R.locals) (hce : cells + rm.cells ≤ R.cells) (hsl : slots + rm.slots ≤ R.slots) :
    ∃ v T' L, Stand p l e R (s.setVm T'.vm) m args below meth c T' (locs ++ L) (cells + rm.cells) (slots + rm.slots) ∧ s.Since T'.vm T'.heap.size ∧ Z.Warmed39 T'.vm ∧ T'.vm.findClass own = some m.cls ∧ Q v T'.heap L ∧ ∀ t, Steps p.tables e below (T'.setTop (mkF m (pc + 3) Ls (v.toList ++ rest))) t → Steps p.tables e below (T.setTop (mkF m pc Ls st)) t := by
  obtain ⟨v, _, ⟨T', L', k', n'⟩, -, X', hS', hg', ⟨L, hQ, l1, l2, l3⟩, st'⟩ := X.specialBackS hx hy1 hown (mvT (s := s.setVm vm0) hZ w1) (mvT (s := s.setVm vm0) hZ w2) (mvT (s := s.setVm vm0) hZ w4) hy (backOfS (W := W) hM (s := s.setVm vm0) hZ w4 w3 hfr hlo) (g := mkF m pc Ls st) rfl hsz (Steps.refl _) (a := a) (argsL := argsL) (rest := rest) hlen hst (by show 2 * 0 + _ ≤ _; omega) hd (fun _ _ => ⟨rfl, eT, hce, hsl⟩)
  dsimp only [Pt.U, Pt.locs, Pt.cells, Pt.slots] at X' hS' hg' l1 l2 l3 st' hQ
  subst l1 l2 l3
  exact ⟨v, T', L, X', hS.trans hS' (Nat.le_trans hk (eT ▸ hg')), State.Warmed39.trans (t := s.setVm vm0) hZ hS'.1, by rw [hS'.1.alike.findClass]; exact hown, hQ, fun t k => st'.trans k⟩
theorem callVirtW {vm0 : Vm} {k0 : Nat} (X : Stand p l e R (s.setVm vm0) m args below meth c T locs cells slots) (hx : p.tables.exec = Jvm.exec) (hZ : Z.Warmed39 vm0) (hS : s.Since vm0 k0) (hk : k0 ≤ h.size) {own C : String} {index : Nat} {y z : MethodName} {bytes : ByteArray} {maxL : Nat} {ret : Option FieldType} {rm : Room} {Q : Option Value → Heap → List Loc → Prop}
    (hown : vm0.findClass own = some m.cls) (w1 : (Cond.methodLink own index y).before a0 Z = true) (w2 : (Cond.declares y).before a0 Z = true) (w5 : (Cond.selects C y z).before a0 Z = true) (hnf : NotFace (s.setVm vm0) y) (w6 : (Cond.instanceMethod z).before a0 Z = true) (w3 : (Cond.initialized z.cls).before a0 Z = true) (w4 : (Cond.code z bytes maxL ret).before a0 Z = true)
    (hy : y.cls ≠ "java/lang/invoke/MethodHandle" ∧ y.cls ≠ "java/lang/invoke/VarHandle") {a : Addr} {argsL rest : List Value} (hM : CtrW l Z z bytes maxL ret rm (.ref a :: argsL).toArray h Q []) (eT : T.heap = h) (E : Exa Z h a C)
    (hlen : ∀ sig, parseMethodDescriptor y.desc = some sig → argsL.length = sig.parameters.length) {pc W : Nat} {Ls : Array Slot} {st : List Value} (hst : st = argsL.reverse ++ .ref a :: rest) (hsz : Ls.size = c.maxLocals) (hd : decode c.code pc = .ok (.invokevirtual index, 3))
    (hW : (rest.map fun v => v.category).sum ≤ W) (hfr : rm.frames + 1 ≤ R.frames) (hlo : W + (maxL + 11) + rm.locals ≤ R.locals) (hce : cells + rm.cells ≤ R.cells) (hsl : slots + rm.slots ≤ R.slots) :
    ∃ v T' L, Stand p l e R (s.setVm T'.vm) m args below meth c T' (locs ++ L) (cells + rm.cells) (slots + rm.slots) ∧ s.Since T'.vm T'.heap.size ∧ Z.Warmed39 T'.vm ∧ T'.vm.findClass own = some m.cls ∧ Q v T'.heap L ∧ ∀ t, Steps p.tables e below (T'.setTop (mkF m (pc + 3) Ls (v.toList ++ rest))) t → Steps p.tables e below (T.setTop (mkF m pc Ls st)) t := by
  obtain ⟨cB, kB, q1, -, q3⟩ := isOf (s := s.setVm vm0) hZ eT E
  obtain ⟨v, _, ⟨T', L', k', n'⟩, -, X', hS', hg', ⟨L, hQ, l1, l2, l3⟩, st'⟩ := X.virtualBackS hx hown (mvT (s := s.setVm vm0) hZ w1) (mvT (s := s.setVm vm0) hZ w2) hnf (mvT (s := s.setVm vm0) hZ w5) (mvT (s := s.setVm vm0) hZ w6) hy (backOfS (W := W) hM (s := s.setVm vm0) hZ w4 w3 hfr hlo) q1 q3 (g := mkF m pc Ls st) rfl hsz (Steps.refl _) (argsL := argsL) (rest := rest) hlen hst (by show 2 * 0 + _ ≤ _; omega) hd (fun _ _ => ⟨rfl, eT, hce, hsl⟩)
  dsimp only [Pt.U, Pt.locs, Pt.cells, Pt.slots] at X' hS' hg' l1 l2 l3 st' hQ
  subst l1 l2 l3
  exact ⟨v, T', L, X', hS.trans hS' (Nat.le_trans hk (eT ▸ hg')), State.Warmed39.trans (t := s.setVm vm0) hZ hS'.1, by rw [hS'.1.alike.findClass]; exact hown, hQ, fun t k => st'.trans k⟩
/-- what a contract says of a body that may read the String constants of EL; sf: cells that are no constant's -/
abbrev CtrH (l : Launch) (Z : State) (EL : List (String × Nat)) (sf : List Addr) (y : MethodName) (bytes : ByteArray) (maxL : Nat) (ret : Option FieldType) (rm : Room) (as' : Array Value) (h : Heap) (Q : Option Value → Heap → List Loc → Prop) (ws : List Cond) : Prop :=
  MetFree l y (head1 (Cond.code y bytes maxL ret :: ws) rm) (fun a U => a = as' ∧ Z.Warmed39 U.vm ∧ U.heap = h ∧ CHv Z EL U.vm h ∧ ∀ x ∈ sf, Safe Z EL U.vm h x) (fun _ _ _ _ _ => True) (fun _ U o U' => ∃ v L, o = .returned v ∧ Q v U'.heap L ∧ CHr Z EL U.vm U.heap U'.vm U'.heap ∧ ReturnedEndW U o U' L rm.cells rm.slots)
/-- the frame of such a body -/
def EndH (Z : State) (EL : List (String × Nat)) (s : State) (o : Outcome) (t : State) (L : List Loc) (k n : Nat) : Prop := CHr Z EL s.vm s.heap t.vm t.heap ∧ ReturnedEndW s o t L k n
theorem lvH {EL : List (String × Nat)} {vm0 : Vm} {k0 : Nat} (X : Stand p l e R (s.setVm vm0) m args below meth c T locs cells slots) (hlocks : meth.locks = false) (hS : s.Since vm0 k0) (eT : T.heap = h) (hk : k0 ≤ h.size) (hZ : Z.Warmed39 vm0) (hEL : EW Z a0 EL) (hR : CHr Z EL s.vm s.heap vm0 h) {C S : Nat} (hc : cells ≤ C) (hs : slots ≤ S) : Lv (EndH Z EL) e s m below meth T locs C S := fun v hv => by
  obtain ⟨fs, hr, hrun, hended, h1, h2, h3, h4⟩ := X.leaveW hS (eT ▸ hk) hv hlocks
  refine ⟨fs, hr, hrun, hended, ?_, h1, h2, h3, h4.mono hc hs⟩
  have q := hR.trans (CHv.at X hZ hEL hR.1)
  subst eT
  exact q
theorem backH {EL : List (String × Nat)} {sf : List Addr} {vm0 : Vm} {y : MethodName} {bytes : ByteArray} {maxL : Nat} {ret : Option FieldType} {rm : Room} {len W : Nat} {as' : Array Value} {Q : Option Value → Heap → List Loc → Prop}
    (hM : CtrH l Z EL sf y bytes maxL ret rm as' h Q [])
    (hZ : Z.Warmed39 vm0) (wc : (Cond.code y bytes maxL ret).before a0 Z = true) (wz : (Cond.initialized y.cls).before a0 Z = true) (hf : rm.frames + 1 ≤ R.frames) (hl : W + (maxL + 11) + rm.locals ≤ R.locals) (hEL : EW Z a0 EL) (H : CHv Z EL vm0 h) (hsf : ∀ x ∈ sf, x < h.size ∧ Safe Z EL vm0 h x) :
    BackS l R p e below (s.setVm vm0) args y len W (fun A a => a = as' ∧ A.U.heap = h ∧ A.cells + rm.cells ≤ R.cells ∧ A.slots + rm.slots ≤ R.slots)
      (fun A _ v B => ∃ L, Q v B.U.heap L ∧ B.locs = A.locs ++ L ∧ B.cells = A.cells + rm.cells ∧ B.slots = A.slots + rm.slots ∧ CHr Z EL vm0 h B.U.vm B.U.heap) :=
  BackS.of_freeW (bytes := bytes) (maxL := maxL) (ret := ret) (E := fun _ first o t L k n => k = rm.cells ∧ n = rm.slots ∧ (∃ v, o = .returned v ∧ Q v t.heap L) ∧ CHr Z EL first.vm first.heap t.vm t.heap) hM hf hl
    (fun m meth c A a Y hp => have hU : Z.Warmed39 A.U.vm := wtrans (s := s.setVm vm0) hZ Y.warmed
      ⟨by show (Cond.and _ .tt).before a A.U = true; rw [Cond.before_and, mv hU wc]; rfl, mv hU wc, mv hU wz, hp.2.2.1, hp.2.2.2⟩)
    (fun m meth c A a g mk Y hp => ⟨hp.1, wtrans (s := s.setVm vm0) hZ Y.warmed, hp.2.1, (CHv.at Y hZ hEL H).1, fun x hx => (CHv.at Y hZ hEL H).safe (hsf x hx).1 (hsf x hx).2⟩) (fun _ _ _ _ _ _ _ _ _ => trivial)
    (fun _ _ _ _ ⟨v, L, h1, h2, h3, h4⟩ => ⟨L, _, _, h4, rfl, rfl, ⟨v, h1, h2⟩, h3⟩)
    (fun m meth c A a g mk v t L k n Y hp _ _ ⟨e1, e2, ⟨v', e3, e4⟩, e5⟩ => by
      cases e3; subst e1 e2
      refine ⟨L, e4, rfl, rfl, rfl, (CHv.at Y hZ hEL H).trans ?_⟩
      rw [← hp.2.1]; exact e5)
theorem callStaticH {EL : List (String × Nat)} {sf : List Addr} {vm0 : Vm} {k0 : Nat} (X : Stand p l e R (s.setVm vm0) m args below meth c T locs cells slots) (hx : p.tables.exec = Jvm.exec) (hZ : Z.Warmed39 vm0) (hS : s.Since vm0 k0) (hk : k0 ≤ h.size) (hEL : EW Z a0 EL) (H : CHv Z EL vm0 h) (hsf : ∀ x ∈ sf, x < h.size ∧ Safe Z EL vm0 h x) {own : String} {index : Nat} {y : MethodName} {bytes : ByteArray} {maxL : Nat} {ret : Option FieldType} {rm : Room} {Q : Option Value → Heap → List Loc → Prop}
    (hown : vm0.findClass own = some m.cls) (w1 : (Cond.methodLink own index y).before a0 Z = true) (w2 : (Cond.static y).before a0 Z = true) (w3 : (Cond.initialized y.cls).before a0 Z = true) (w4 : (Cond.code y bytes maxL ret).before a0 Z = true)
    (hy : y.cls ≠ "java/lang/invoke/MethodHandle" ∧ y.cls ≠ "java/lang/invoke/VarHandle") {argsL rest : List Value} (hM : CtrH l Z EL sf y bytes maxL ret rm argsL.toArray h Q []) (eT : T.heap = h)
    (hlen : ∀ sig, parseMethodDescriptor y.desc = some sig → argsL.length = sig.parameters.length) {pc W : Nat} {Ls : Array Slot} {st : List Value} (hst : st = argsL.reverse ++ rest) (hsz : Ls.size = c.maxLocals) (hd : decode c.code pc = .ok (.invokestatic index, 3))
    (hW : (rest.map fun v => v.category).sum ≤ W) (hfr : rm.frames + 1 ≤ R.frames) (hlo : W + (maxL + 11) + rm.locals ≤ R.locals) (hce : cells + rm.cells ≤ R.cells) (hsl : slots + rm.slots ≤ R.slots) :
    ∃ v T' L, Stand p l e R (s.setVm T'.vm) m args below meth c T' (locs ++ L) (cells + rm.cells) (slots + rm.slots) ∧ s.Since T'.vm T'.heap.size ∧ Z.Warmed39 T'.vm ∧ T'.vm.findClass own = some m.cls ∧ CHr Z EL vm0 h T'.vm T'.heap ∧ Q v T'.heap L ∧ ∀ t, Steps p.tables e below (T'.setTop (mkF m (pc + 3) Ls (v.toList ++ rest))) t → Steps p.tables e below (T.setTop (mkF m pc Ls st)) t := by
  obtain ⟨v, _, ⟨T', L', k', n'⟩, -, X', hS', hg', ⟨L, hQ, l1, l2, l3, hC⟩, st'⟩ := callSS X hx hown (mvT (s := s.setVm vm0) hZ w1) (mvT (s := s.setVm vm0) hZ w2) (mvT (s := s.setVm vm0) hZ w3) (mvT (s := s.setVm vm0) hZ w4) hy (backH (W := W) hM hZ w4 w3 hfr hlo hEL H hsf) (g := mkF m pc Ls st) rfl hsz (argsL := argsL) (rest := rest) hlen hst (by show 2 * 0 + _ ≤ _; omega) hd (fun _ _ => ⟨rfl, eT, hce, hsl⟩)
  dsimp only [Pt.U, Pt.locs, Pt.cells, Pt.slots] at X' hS' hg' l1 l2 l3 st' hQ hC
  subst l1 l2 l3
  exact ⟨v, T', L, X', hS.trans hS' (Nat.le_trans hk (eT ▸ hg')), State.Warmed39.trans (t := s.setVm vm0) hZ hS'.1, by rw [hS'.1.alike.findClass]; exact hown, hC, hQ, fun t k => st'.trans k⟩
theorem callInitH {EL : List (String × Nat)} {sf : List Addr} {vm0 : Vm} {k0 : Nat} (X : Stand p l e R (s.setVm vm0) m args below meth c T locs cells slots) (hx : p.tables.exec = Jvm.exec) (hZ : Z.Warmed39 vm0) (hS : s.Since vm0 k0) (hk : k0 ≤ h.size) (hEL : EW Z a0 EL) (H : CHv Z EL vm0 h) (hsf : ∀ x ∈ sf, x < h.size ∧ Safe Z EL vm0 h x) {own : String} {index : Nat} {y : MethodName} {bytes : ByteArray} {maxL : Nat} {rm : Room} {Q : Option Value → Heap → List Loc → Prop} (hy1 : y.name = "<init>")
    (hown : vm0.findClass own = some m.cls) (w1 : (Cond.methodLink own index y).before a0 Z = true) (w2 : (Cond.instanceMethod y).before a0 Z = true) (w3 : (Cond.initialized y.cls).before a0 Z = true) (w4 : (Cond.code y bytes maxL none).before a0 Z = true)
    (hy : y.cls ≠ "java/lang/invoke/MethodHandle" ∧ y.cls ≠ "java/lang/invoke/VarHandle") {a : Addr} {argsL rest : List Value} (hM : CtrH l Z EL sf y bytes maxL none rm (.ref a :: argsL).toArray h Q []) (eT : T.heap = h)
    (hlen : ∀ sig, parseMethodDescriptor y.desc = some sig → argsL.length = sig.parameters.length) {pc W : Nat} {Ls : Array Slot} {st : List Value} (hst : st = argsL.reverse ++ .ref a :: rest) (hsz : Ls.size = c.maxLocals) (hd : decode c.code pc = .ok (.invokespecial index, 3))
    (hW : (rest.map fun v => v.category).sum ≤ W) (hfr : rm.frames + 1 ≤ R.frames) (hlo : W + (maxL + 11) + rm.locals ≤ R.locals) (hce : cells + rm.cells ≤ R.cells) (hsl : slots + rm.slots ≤ R.slots) :
    ∃ v T' L, Stand p l e R (s.setVm T'.vm) m args below meth c T' (locs ++ L) (cells + rm.cells) (slots + rm.slots) ∧ s.Since T'.vm T'.heap.size ∧ Z.Warmed39 T'.vm ∧ T'.vm.findClass own = some m.cls ∧ CHr Z EL vm0 h T'.vm T'.heap ∧ Q v T'.heap L ∧ ∀ t, Steps p.tables e below (T'.setTop (mkF m (pc + 3) Ls (v.toList ++ rest))) t → Steps p.tables e below (T.setTop (mkF m pc Ls st)) t := by
  obtain ⟨v, _, ⟨T', L', k', n'⟩, -, X', hS', hg', ⟨L, hQ, l1, l2, l3, hC⟩, st'⟩ := X.specialBackS hx hy1 hown (mvT (s := s.setVm vm0) hZ w1) (mvT (s := s.setVm vm0) hZ w2) (mvT (s := s.setVm vm0) hZ w4) hy (backH (W := W) hM hZ w4 w3 hfr hlo hEL H hsf) (g := mkF m pc Ls st) rfl hsz (Steps.refl _) (a := a) (argsL := argsL) (rest := rest) hlen hst (by show 2 * 0 + _ ≤ _; omega) hd (fun _ _ => ⟨rfl, eT, hce, hsl⟩)
  dsimp only [Pt.U, Pt.locs, Pt.cells, Pt.slots] at X' hS' hg' l1 l2 l3 st' hQ hC
  subst l1 l2 l3
  exact ⟨v, T', L, X', hS.trans hS' (Nat.le_trans hk (eT ▸ hg')), State.Warmed39.trans (t := s.setVm vm0) hZ hS'.1, by rw [hS'.1.alike.findClass]; exact hown, hC, hQ, fun t k => st'.trans k⟩
theorem callVirtH {EL : List (String × Nat)} {sf : List Addr} {vm0 : Vm} {k0 : Nat} (X : Stand p l e R (s.setVm vm0) m args below meth c T locs cells slots) (hx : p.tables.exec = Jvm.exec) (hZ : Z.Warmed39 vm0) (hS : s.Since vm0 k0) (hk : k0 ≤ h.size) (hEL : EW Z a0 EL) (H : CHv Z EL vm0 h) (hsf : ∀ x ∈ sf, x < h.size ∧ Safe Z EL vm0 h x) {own C : String} {index : Nat} {y z : MethodName} {bytes : ByteArray} {maxL : Nat} {ret : Option FieldType} {rm : Room} {Q : Option Value → Heap → List Loc → Prop}
    (hown : vm0.findClass own = some m.cls) (w1 : (Cond.methodLink own index y).before a0 Z = true) (w2 : (Cond.declares y).before a0 Z = true) (w5 : (Cond.selects C y z).before a0 Z = true) (hnf : NotFace (s.setVm vm0) y) (w6 : (Cond.instanceMethod z).before a0 Z = true) (w3 : (Cond.initialized z.cls).before a0 Z = true) (w4 : (Cond.code z bytes maxL ret).before a0 Z = true)
    (hy : y.cls ≠ "java/lang/invoke/MethodHandle" ∧ y.cls ≠ "java/lang/invoke/VarHandle") {a : Addr} {argsL rest : List Value} (hM : CtrH l Z EL sf z bytes maxL ret rm (.ref a :: argsL).toArray h Q []) (eT : T.heap = h) (E : Exa Z h a C)
    (hlen : ∀ sig, parseMethodDescriptor y.desc = some sig → argsL.length = sig.parameters.length) {pc W : Nat} {Ls : Array Slot} {st : List Value} (hst : st = argsL.reverse ++ .ref a :: rest) (hsz : Ls.size = c.maxLocals) (hd : decode c.code pc = .ok (.invokevirtual index, 3))
    (hW : (rest.map fun v => v.category).sum ≤ W) (hfr : rm.frames + 1 ≤ R.frames) (hlo : W + (maxL + 11) + rm.locals ≤ R.locals) (hce : cells + rm.cells ≤ R.cells) (hsl : slots + rm.slots ≤ R.slots) :
    ∃ v T' L, Stand p l e R (s.setVm T'.vm) m args below meth c T' (locs ++ L) (cells + rm.cells) (slots + rm.slots) ∧ s.Since T'.vm T'.heap.size ∧ Z.Warmed39 T'.vm ∧ T'.vm.findClass own = some m.cls ∧ CHr Z EL vm0 h T'.vm T'.heap ∧ Q v T'.heap L ∧ ∀ t, Steps p.tables e below (T'.setTop (mkF m (pc + 3) Ls (v.toList ++ rest))) t → Steps p.tables e below (T.setTop (mkF m pc Ls st)) t := by
  obtain ⟨cB, kB, q1, -, q3⟩ := isOf (s := s.setVm vm0) hZ eT E
  obtain ⟨v, _, ⟨T', L', k', n'⟩, -, X', hS', hg', ⟨L, hQ, l1, l2, l3, hC⟩, st'⟩ := X.virtualBackS hx hown (mvT (s := s.setVm vm0) hZ w1) (mvT (s := s.setVm vm0) hZ w2) hnf (mvT (s := s.setVm vm0) hZ w5) (mvT (s := s.setVm vm0) hZ w6) hy (backH (W := W) hM hZ w4 w3 hfr hlo hEL H hsf) q1 q3 (g := mkF m pc Ls st) rfl hsz (Steps.refl _) (argsL := argsL) (rest := rest) hlen hst (by show 2 * 0 + _ ≤ _; omega) hd (fun _ _ => ⟨rfl, eT, hce, hsl⟩)
  dsimp only [Pt.U, Pt.locs, Pt.cells, Pt.slots] at X' hS' hg' l1 l2 l3 st' hQ hC
  subst l1 l2 l3
  exact ⟨v, T', L, X', hS.trans hS' (Nat.le_trans hk (eT ▸ hg')), State.Warmed39.trans (t := s.setVm vm0) hZ hS'.1, by rw [hS'.1.alike.findClass]; exact hown, hC, hQ, fun t k => st'.trans k⟩
theorem rebase {vm0 : Vm} {k0 : Nat} {own : String} (X : Stand p l e R (s.setVm vm0) m args below meth c T locs cells slots) (hS : s.Since vm0 k0) (eT : T.heap = h) (hk : k0 ≤ h.size) (hZ : Z.Warmed39 vm0) (hown : vm0.findClass own = some m.cls) :
    Stand p l e R (s.setVm T.vm) m args below meth c T locs cells slots ∧ s.Since T.vm h.size ∧ Z.Warmed39 T.vm ∧ T.vm.findClass own = some m.cls :=
  ⟨X.retabled X.warmed.wide, hS.trans (X.warmed.since h.size) hk, wtrans (s := s.setVm vm0) hZ X.warmed, by rw [X.warmed.wide.alike.findClass]; exact hown⟩
theorem fld_int {args : Array Value} {t : Term} {x : Addr} {C n d : String} {k : Int32} (ht : t.eval args s none [] s = some (.ref x)) (hq : (Cond.eq (Term.field t C n d) (Term.int k)).value args s none s [] = some true) : Fld s s.heap x C n d (.int k) :=
  Fld.start ((fld_at (C := C) (n := n) (dd := d) ht).symm.trans (eqv_i (Term.int_eval k) hq))
/-- the class C has its Class object, at mr -/
def Mirr (Z : State) (C : String) (mr : Addr) : Prop := ∃ (c : ClassId) (k : Class), Z.vm.findClass C = some c ∧ Z.vm.classes[c]? = some k ∧ k.mirror = some mr
theorem gclsS (X : Stand p l e R s m args below meth c T locs cells slots) (hx : p.tables.exec = Jvm.exec) (hZ : Z.Warmed39 s.vm) {own C : String} {index : Nat} (hown : s.vm.findClass own = some m.cls)
    (w1 : (Cond.methodLink own index ⟨"java/lang/Object", "getClass", "()Ljava/lang/Class;"⟩).before a0 Z = true) (w2 : (Cond.declares ⟨"java/lang/Object", "getClass", "()Ljava/lang/Class;"⟩).before a0 Z = true) (w4 : (Cond.selects C ⟨"java/lang/Object", "getClass", "()Ljava/lang/Class;"⟩ ⟨"java/lang/Object", "getClass", "()Ljava/lang/Class;"⟩).before a0 Z = true)
    (w5 : (Cond.instanceMethod ⟨"java/lang/Object", "getClass", "()Ljava/lang/Class;"⟩).before a0 Z = true) (w6 : (Cond.native ⟨"java/lang/Object", "getClass", "()Ljava/lang/Class;"⟩).before a0 Z = true) (eT : T.heap = h) {a : Addr} (E : Exa Z h a C) {mr : Addr} (M : Mirr Z C mr)
    {g : JFrame} (hg : g.method = m) (hsize : g.locals.size = c.maxLocals) {rest : List Value} (hs : g.stack = .ref a :: rest) (hd : decode c.code g.pc = .ok (.invokevirtual index, 3)) (hf : 1 ≤ R.frames) {W : Nat} (hW : 2 * g.monitorRoom + (rest.map fun v => v.category).sum ≤ W) (hl : W + (nativeFrameWords "java/lang/Object" "getClass" 1 + 11) ≤ R.locals) :
    ∃ T', Stand p l e R s m args below meth c T' locs cells slots ∧ T'.heap = h ∧ ∀ target, Steps p.tables e below (T'.setTop { g with pc := g.pc + 3, stack := .ref mr :: rest }) target → Steps p.tables e below (T.setTop g) target := by
  obtain ⟨cB, kB, i1, i2, i3⟩ := isOf hZ eT E
  obtain ⟨cc, kc, m1, m2, m3⟩ := M
  rw [hZ.alike.findClass] at i1
  cases i1.symm.trans m1
  obtain ⟨k', q, ek⟩ := hZ.alike.2.2 _ _ m2
  obtain ⟨vm', X', st⟩ := X.getClassOf hx hown (mvT hZ w1) (mvT hZ w2) (notFace_of_selects (args := #[]) (mvT hZ w4)) (mvT hZ w4) (mvT hZ w5) (mvT hZ w6) (by rw [hZ.alike.findClass]; exact m1) i3 q (by rw [ek]; exact m3) hg hsize hs hd hf (by omega)
  exact ⟨_, X', eT, st⟩
theorem len_is {args : Array Value} {t : Term} {a : Addr} {cl : Cell} {ty : FieldType} {k : Int32} (ht : t.eval args s none [] s = some (.ref a)) (A : Arr s s.heap a cl ty) (hq : (Cond.eq (Term.length t) (Term.int k)).value args s none s [] = some true) : cl.slots.size < 2 ^ 31 ∧ cl.slots.size.toInt32 = k := by
  have ha := A.fin (Vm.Alike.refl s.vm)
  by_cases hl : cl.slots.size < 2 ^ 31
  · exact ⟨hl, gotT (Cond.eq_ints (len_f ht ha hl) (Term.int_eval k)) hq⟩
  · obtain ⟨v, y, e1, -, -, -⟩ := cmp_v (Or.inl hq)
    simp [Term.eval, ht, ha] at e1
    omega
theorem sub_at {args : Array Value} {a b : Term} {idx : List Nat} {x y : Int32} (ha : a.eval args s none idx s = some (.int x)) (hb : b.eval args s none idx s = some (.int y)) : (Term.sub a b).eval args s none idx s = some (.int (x - y)) := by simp [Term.eval, ha, hb]
theorem own_nc (x : Int32) : nar .char (x &&& 255).toUInt32.toUInt16.toUInt32.toInt32 = x &&& 255 := by
  rw [i2c_mask]; exact i2c_mask x
theorem own_cr (x : Int32) : ¬ (x &&& 255) < 0 ∧ ¬ (255 : Int32) < (x &&& 255) := by
  have q := c_and x 255 (by decide)
  have e0 : (0 : Int32).toInt = 0 := rfl
  have e1 : (255 : Int32).toInt = 255 := rfl
  rw [Int32.lt_iff_toInt_lt, Int32.lt_iff_toInt_lt]; omega
theorem ns_root {O K : String} {n : Nat} (w : (Cond.noSuperclass O).before a0 Z = true) (wk : (Cond.instantiable K n).before a0 Z = true) (hn : O ≠ K) : NS Z O K := by
  obtain ⟨c, k, h1, h2, h3, -, -⟩ := Cond.noSuperclass_spec w
  obtain ⟨t, -, g1, -⟩ := Cond.instantiable_spec wk
  have ne := ids_ne h1 g1 hn
  refine ⟨c, t, h1, g1, fun fuel => ?_⟩
  cases fuel with
  | zero => rfl
  | succ f => simp [Vm.isSubclassAux, ne, h2, h3]
theorem ns_no {C S K : String} {n : Nat} (w : (Cond.superclass C S).before a0 Z = true) (wk : (Cond.instantiable K n).before a0 Z = true) (ns : NS Z C K) (hn : C ≠ K) : ∃ c t, Z.vm.findClass C = some c ∧ Z.vm.findClass K = some t ∧ Z.vm.assignable c t = false := by
  obtain ⟨c, t, h0, g0, n3⟩ := ns
  obtain ⟨p, k, kp, h1, h2, h3, h4, h5, -, h7⟩ := Cond.superclass_spec h0 w
  obtain ⟨t', k', g1, g2, g5, g6, -⟩ := Cond.instantiable_spec wk
  cases g0.symm.trans g1
  have g7 := (Bool.or_eq_false_iff.mp g6).1
  have ne := ids_ne h0 g0 hn
  refine ⟨c, t, h0, g0, ?_⟩
  show Z.vm.assignableAux (255 + 1) c t = false
  simp [Vm.assignableAux, ne, h2, g2, h5, g5, g7, Vm.isSubclass, n3]
end Own
end Jvm.OwnKit
namespace Jvm.Pilot.@@N@@
open Jvm Jvm.ClassFile Sem Op Lib Jvm.Free Jvm.Stand Jvm.LawKit Jvm.RoadKit Jvm.OwnKit Bundle Jvm.Pilot.@@N@@.Jvm.D
theorem own_rem3 (x : Int32) : (x &&& 2147483647) % 3 = 0 ∨ (x &&& 2147483647) % 3 = 1 ∨ (x &&& 2147483647) % 3 = 2 := by
  have q := c_and x 2147483647 (by decide)
  have r := (c_irem (x &&& 2147483647) 3 3 rfl).1 q.1
  have e0 : (0 : Int32).toInt = 0 := rfl
  have e1 : (1 : Int32).toInt = 1 := rfl
  have e2 : (2 : Int32).toInt = 2 := rfl
  simp only [← Int32.toInt_inj, r, e0, e1, e2]
  omega
theorem own_pn0 : plainName "com/example/castellan/castellan/config/AssuranceLevelMeetsPinLaw" = true := by first | (simp [plainName, overriddenIn]; done) | decide +kernel
theorem own_d_method_2_code_0 : decode method_2_code 0 = .ok (.iload_n 0, 1) := by decide +kernel
theorem own_d_method_2_code_1 : decode method_2_code 1 = .ok (.ifCond .ne 7, 3) := by decide +kernel
theorem own_d_method_2_code_4 : decode method_2_code 4 = .ok (.getstatic 7, 3) := by decide +kernel
theorem own_d_method_2_code_7 : decode method_2_code 7 = .ok (.areturn, 1) := by decide +kernel
theorem own_d_method_2_code_8 : decode method_2_code 8 = .ok (.iload_n 0, 1) := by decide +kernel
theorem own_d_method_2_code_9 : decode method_2_code 9 = .ok (.iconst 1, 1) := by decide +kernel
theorem own_d_method_2_code_10 : decode method_2_code 10 = .ok (.if_icmp .ne 7, 3) := by decide +kernel
theorem own_d_method_2_code_13 : decode method_2_code 13 = .ok (.getstatic 13, 3) := by decide +kernel
theorem own_d_method_2_code_16 : decode method_2_code 16 = .ok (.areturn, 1) := by decide +kernel
theorem own_d_method_2_code_17 : decode method_2_code 17 = .ok (.getstatic 16, 3) := by decide +kernel
theorem own_d_method_2_code_20 : decode method_2_code 20 = .ok (.areturn, 1) := by decide +kernel
theorem own_ef1 (m : MethodId) (x0 : Int32)  : entryFrame m #[(.int x0)] 1 = mkF m 0 #[.val (.int x0)] [] := by first | (simp [entryFrame, mkF, argsToLocals, Value.category]; done) | rfl
abbrev own_Q1 (Z : State) (x1 : Int32) (aL : Addr) (aS : Addr) (aH : Addr) (h0 : Heap) (n0 : Nat) (v : Option Value) (h : Heap) (L : List Loc) : Prop := ∃ r : Addr, v = some (.ref r) ∧ Fr n0 L ∧ h = h0 ∧ Exa Z Z.heap r "com/example/castellan/castellan/config/AssuranceLevel" ∧ Fld Z Z.heap r "java/lang/Enum" "ordinal" "I" (.int x1)
set_option maxRecDepth 65536 in
set_option maxHeartbeats 40000000 in
theorem own_m1 (l : Launch) (Z : State) (a0 : Array Value) (hw : ∀ d ∈ tables_1, d.before a0 Z = true) (ws : List Jvm.Cond) (x1 : Int32) (aL : Addr) (aS : Addr) (aH : Addr) (h0 : Heap) (n0 : Nat) (O0 : Old Z n0 h0) (hx1 : x1 = 0 ∨ x1 = 1 ∨ x1 = 2) (O_1 : Sta Z Z.heap "com/example/castellan/castellan/config/AssuranceLevel" "LOW" "Lcom/example/castellan/castellan/config/AssuranceLevel;" (.ref aL)) (O_2 : Exa Z Z.heap aL "com/example/castellan/castellan/config/AssuranceLevel") (O_3 : Fld Z Z.heap aL "java/lang/Enum" "ordinal" "I" (.int (0 : Int32))) (O_4 : Sta Z Z.heap "com/example/castellan/castellan/config/AssuranceLevel" "SUBSTANTIAL" "Lcom/example/castellan/castellan/config/AssuranceLevel;" (.ref aS)) (O_5 : Exa Z Z.heap aS "com/example/castellan/castellan/config/AssuranceLevel") (O_6 : Fld Z Z.heap aS "java/lang/Enum" "ordinal" "I" (.int (1 : Int32))) (O_7 : Sta Z Z.heap "com/example/castellan/castellan/config/AssuranceLevel" "HIGH" "Lcom/example/castellan/castellan/config/AssuranceLevel;" (.ref aH)) (O_8 : Exa Z Z.heap aH "com/example/castellan/castellan/config/AssuranceLevel") (O_9 : Fld Z Z.heap aH "java/lang/Enum" "ordinal" "I" (.int (2 : Int32))) :
    Ctr l Z (⟨"com/example/castellan/castellan/config/AssuranceLevelMeetsPinLaw", "level", "(I)Lcom/example/castellan/castellan/config/AssuranceLevel;"⟩ : MethodName) method_2_code 1 (some (.object "com/example/castellan/castellan/config/AssuranceLevel")) ({ frames := 0, cells := 0, slots := 0, locals := 0 } : Room) #[(.int x1)] h0 (own_Q1 Z x1 aL aS aH h0 n0) ws := by
  refine MetFree.of_bodySF (plainFor_of_name own_pn0) hisR ?_
  intro p e s m args below meth c s₁ Bd hml0 hP hK
  obtain ⟨rfl, hZ, hh⟩ := hP
  have hx := Bd.exec
  have hby := Bd.bytes
  have hlk : meth.locks = false := Bd.notSynchronized
  have hml : c.maxLocals = 1 := hml0
  have hown : s.vm.findClass "com/example/castellan/castellan/config/AssuranceLevelMeetsPinLaw" = some m.cls := findClass_of_methodNamed Bd.named
  have hnm := (name_of_methodNamed Bd.named Bd.method).1
  have X0 : Stand p l e ({ frames := 0, cells := 0, slots := 0, locals := 0 } : Room) s m #[(.int x1)] below meth c s₁ [] 0 0 := Stand.of_body Bd
  have e0 : s₁.heap = h0 := by rw [← hh, Bd.state]; rfl
  have N0 := Fr.nil n0
  show Goes p.tables e below (fun t o => ∃ v L, o = .returned v ∧ (own_Q1 Z x1 aL aS aH h0 n0) v t.heap L ∧ FrameEnd s o t L (({ frames := 0, cells := 0, slots := 0, locals := 0 } : Room)).cells (({ frames := 0, cells := 0, slots := 0, locals := 0 } : Room)).slots) _
  refine Goes.via (B := s₁.setTop (mkF m 0 #[.val (.int x1)] [])) (fun t k => castTop (own_ef1 m x1) k) ?_
  refine Goes.via (B := s₁.setTop (mkF m 1 #[.val (.int x1)] [(.int x1)])) (fun t k => XS.iloadN X0.here hx rfl (hb hby own_d_method_2_code_0) rfl k) ?_
  by_cases b1 : x1 = (0 : Int32)
  · refine Goes.via (B := s₁.setTop (mkF m 4 #[.val (.int x1)] [])) (fun t k => XS.ifNo X0.here hx rfl (hb hby own_d_method_2_code_1) rfl (XT.i0_ne_f b1) k) ?_
    obtain ⟨T2, X2, e2, st2⟩ := getS2 X0 hx hZ hown (host := "") (Or.inl (hw _ (List.mem_of_getElem? (i := 5) rfl))) Via.refl e0 (Sta.ext O0.2 O_1) (g := (mkF m 4 #[.val (.int x1)] [])) rfl (hb hby own_d_method_2_code_4)
    refine Goes.via (B := T2.setTop (mkF m 7 #[.val (.int x1)] [(.ref aL)])) (fun t k => st2 _ k) ?_
    have wf : Fld Z Z.heap aL "java/lang/Enum" "ordinal" "I" (.int x1) := by rw [b1]; exact O_3
    exact finA (Q := (own_Q1 Z x1 aL aS aH h0 n0)) (F := FrameEnd) (C := (({ frames := 0, cells := 0, slots := 0, locals := 0 } : Room)).cells) (S := (({ frames := 0, cells := 0, slots := 0, locals := 0 } : Room)).slots) X2 hx Bd.returns rfl rfl rfl (hb hby own_d_method_2_code_7) e2 ⟨aL, rfl, N0, rfl, O_2, wf⟩ (lvN X2 hlk (by decide) (by decide))
  · refine Goes.via (B := s₁.setTop (mkF m 8 #[.val (.int x1)] [])) (fun t k => XS.ifYes X0.here hx rfl (pc0 := 1) (pc' := 8) rfl (hb hby own_d_method_2_code_1) rfl (XT.i0_ne_t b1) (by decide) (by decide) k) ?_
    refine Goes.via (B := s₁.setTop (mkF m 9 #[.val (.int x1)] [(.int x1)])) (fun t k => XS.iloadN X0.here hx rfl (hb hby own_d_method_2_code_8) rfl k) ?_
    refine Goes.via (B := s₁.setTop (mkF m 10 #[.val (.int x1)] [(.int (1 : Int32)), (.int x1)])) (fun t k => XS.iconst X0.here hx rfl (hb hby own_d_method_2_code_9) k) ?_
    by_cases b3 : x1 = (1 : Int32)
    · refine Goes.via (B := s₁.setTop (mkF m 13 #[.val (.int x1)] [])) (fun t k => XS.icmpNo X0.here hx rfl (hb hby own_d_method_2_code_10) rfl (XT.ii_ne_f b3) k) ?_
      obtain ⟨T4, X4, e4, st4⟩ := getS2 X0 hx hZ hown (host := "") (Or.inl (hw _ (List.mem_of_getElem? (i := 30) rfl))) Via.refl e0 (Sta.ext O0.2 O_4) (g := (mkF m 13 #[.val (.int x1)] [])) rfl (hb hby own_d_method_2_code_13)
      refine Goes.via (B := T4.setTop (mkF m 16 #[.val (.int x1)] [(.ref aS)])) (fun t k => st4 _ k) ?_
      have wf : Fld Z Z.heap aS "java/lang/Enum" "ordinal" "I" (.int x1) := by rw [b3]; exact O_6
      exact finA (Q := (own_Q1 Z x1 aL aS aH h0 n0)) (F := FrameEnd) (C := (({ frames := 0, cells := 0, slots := 0, locals := 0 } : Room)).cells) (S := (({ frames := 0, cells := 0, slots := 0, locals := 0 } : Room)).slots) X4 hx Bd.returns rfl rfl rfl (hb hby own_d_method_2_code_16) e4 ⟨aS, rfl, N0, rfl, O_5, wf⟩ (lvN X4 hlk (by decide) (by decide))
    · refine Goes.via (B := s₁.setTop (mkF m 17 #[.val (.int x1)] [])) (fun t k => XS.icmpYes X0.here hx rfl (pc0 := 10) (pc' := 17) rfl (hb hby own_d_method_2_code_10) rfl (XT.ii_ne_t b3) (by decide) (by decide) k) ?_
      obtain ⟨T5, X5, e5, st5⟩ := getS2 X0 hx hZ hown (host := "") (Or.inl (hw _ (List.mem_of_getElem? (i := 28) rfl))) Via.refl e0 (Sta.ext O0.2 O_7) (g := (mkF m 17 #[.val (.int x1)] [])) rfl (hb hby own_d_method_2_code_17)
      refine Goes.via (B := T5.setTop (mkF m 20 #[.val (.int x1)] [(.ref aH)])) (fun t k => st5 _ k) ?_
      have wf : Fld Z Z.heap aH "java/lang/Enum" "ordinal" "I" (.int x1) := by rw [(show x1 = 2 from hx1.elim (fun q => absurd q b1) (fun q => q.elim (fun q => absurd q b3) id))]; exact O_9
      exact finA (Q := (own_Q1 Z x1 aL aS aH h0 n0)) (F := FrameEnd) (C := (({ frames := 0, cells := 0, slots := 0, locals := 0 } : Room)).cells) (S := (({ frames := 0, cells := 0, slots := 0, locals := 0 } : Room)).slots) X5 hx Bd.returns rfl rfl rfl (hb hby own_d_method_2_code_20) e5 ⟨aH, rfl, N0, rfl, O_8, wf⟩ (lvN X5 hlk (by decide) (by decide))
theorem own_pn1 : plainName "java/lang/Enum" = true := by first | (simp [plainName, overriddenIn]; done) | decide +kernel
theorem own_d_jdk_37_method_8_code_0 : decode jdk_37_method_8_code 0 = .ok (.aload_n 1, 1) := by decide +kernel
theorem own_d_jdk_37_method_8_code_1 : decode jdk_37_method_8_code 1 = .ok (.astore_n 2, 1) := by decide +kernel
theorem own_d_jdk_37_method_8_code_2 : decode jdk_37_method_8_code 2 = .ok (.aload_n 0, 1) := by decide +kernel
theorem own_d_jdk_37_method_8_code_3 : decode jdk_37_method_8_code 3 = .ok (.astore_n 3, 1) := by decide +kernel
theorem own_d_jdk_37_method_8_code_4 : decode jdk_37_method_8_code 4 = .ok (.aload_n 3, 1) := by decide +kernel
theorem own_d_jdk_37_method_8_code_5 : decode jdk_37_method_8_code 5 = .ok (.invokevirtual 29, 3) := by decide +kernel
theorem own_d_jdk_37_method_8_code_8 : decode jdk_37_method_8_code 8 = .ok (.aload_n 2, 1) := by decide +kernel
theorem own_d_jdk_37_method_8_code_9 : decode jdk_37_method_8_code 9 = .ok (.invokevirtual 29, 3) := by decide +kernel
theorem own_d_jdk_37_method_8_code_12 : decode jdk_37_method_8_code 12 = .ok (.if_acmp .eq 22, 3) := by decide +kernel
theorem own_d_jdk_37_method_8_code_34 : decode jdk_37_method_8_code 34 = .ok (.aload_n 3, 1) := by decide +kernel
theorem own_d_jdk_37_method_8_code_35 : decode jdk_37_method_8_code 35 = .ok (.getfield 7, 3) := by decide +kernel
theorem own_d_jdk_37_method_8_code_38 : decode jdk_37_method_8_code 38 = .ok (.aload_n 2, 1) := by decide +kernel
theorem own_d_jdk_37_method_8_code_39 : decode jdk_37_method_8_code 39 = .ok (.getfield 7, 3) := by decide +kernel
theorem own_d_jdk_37_method_8_code_42 : decode jdk_37_method_8_code 42 = .ok (.isub, 1) := by decide +kernel
theorem own_d_jdk_37_method_8_code_43 : decode jdk_37_method_8_code 43 = .ok (.ireturn, 1) := by decide +kernel
theorem own_ef2 (m : MethodId) (x0 : Addr) (x1 : Addr)  : entryFrame m #[(.ref x0), (.ref x1)] 4 = mkF m 0 #[.val (.ref x0), .val (.ref x1), .unset, .unset] [] := by first | (simp [entryFrame, mkF, argsToLocals, Value.category]; done) | rfl
abbrev own_Q2 (Z : State) (a1 : Addr) (a2 : Addr) (x1 : Int32) (x2 : Int32) (mr : Addr) (h0 : Heap) (n0 : Nat) (v : Option Value) (h : Heap) (L : List Loc) : Prop := v = some (.int (x1 - x2)) ∧ Fr n0 L ∧ h = h0
set_option maxRecDepth 65536 in
set_option maxHeartbeats 40000000 in
theorem own_m2 (l : Launch) (Z : State) (a0 : Array Value) (hw : ∀ d ∈ tables_1, d.before a0 Z = true) (ws : List Jvm.Cond) (a1 : Addr) (a2 : Addr) (x1 : Int32) (x2 : Int32) (mr : Addr) (h0 : Heap) (n0 : Nat) (O0 : Old Z n0 h0) (Mi : Mirr Z "com/example/castellan/castellan/config/AssuranceLevel" mr) (O_1 : Exa Z Z.heap a1 "com/example/castellan/castellan/config/AssuranceLevel") (O_2 : Fld Z Z.heap a1 "java/lang/Enum" "ordinal" "I" (.int x1)) (O_3 : Exa Z Z.heap a2 "com/example/castellan/castellan/config/AssuranceLevel") (O_4 : Fld Z Z.heap a2 "java/lang/Enum" "ordinal" "I" (.int x2)) :
    Ctr l Z (⟨"java/lang/Enum", "compareTo", "(Ljava/lang/Enum;)I"⟩ : MethodName) jdk_37_method_8_code 4 (some .int) ({ frames := 1, cells := 0, slots := 0, locals := 15 } : Room) #[(.ref a1), (.ref a2)] h0 (own_Q2 Z a1 a2 x1 x2 mr h0 n0) ws := by
  refine MetFree.of_bodySF (plainFor_of_name own_pn1) hisR ?_
  intro p e s m args below meth c s₁ Bd hml0 hP hK
  obtain ⟨rfl, hZ, hh⟩ := hP
  have hx := Bd.exec
  have hby := Bd.bytes
  have hlk : meth.locks = false := Bd.notSynchronized
  have hml : c.maxLocals = 4 := hml0
  have hown : s.vm.findClass "java/lang/Enum" = some m.cls := findClass_of_methodNamed Bd.named
  have hnm := (name_of_methodNamed Bd.named Bd.method).1
  have X0 : Stand p l e ({ frames := 1, cells := 0, slots := 0, locals := 15 } : Room) s m #[(.ref a1), (.ref a2)] below meth c s₁ [] 0 0 := Stand.of_body Bd
  have e0 : s₁.heap = h0 := by rw [← hh, Bd.state]; rfl
  have N0 := Fr.nil n0
  show Goes p.tables e below (fun t o => ∃ v L, o = .returned v ∧ (own_Q2 Z a1 a2 x1 x2 mr h0 n0) v t.heap L ∧ FrameEnd s o t L (({ frames := 1, cells := 0, slots := 0, locals := 15 } : Room)).cells (({ frames := 1, cells := 0, slots := 0, locals := 15 } : Room)).slots) _
  refine Goes.via (B := s₁.setTop (mkF m 0 #[.val (.ref a1), .val (.ref a2), .unset, .unset] [])) (fun t k => castTop (own_ef2 m a1 a2) k) ?_
  refine Goes.via (B := s₁.setTop (mkF m 1 #[.val (.ref a1), .val (.ref a2), .unset, .unset] [(.ref a2)])) (fun t k => XS.aloadN X0.here hx rfl (hb hby own_d_jdk_37_method_8_code_0) rfl rfl k) ?_
  refine Goes.via (B := s₁.setTop (mkF m 2 #[.val (.ref a1), .val (.ref a2), .val (.ref a2), .unset] [])) (fun t k => XS.astoreN X0.here hx rfl (hb hby own_d_jdk_37_method_8_code_1) rfl rfl (l' := #[.val (.ref a1), .val (.ref a2), .val (.ref a2), .unset]) rfl k) ?_
  refine Goes.via (B := s₁.setTop (mkF m 3 #[.val (.ref a1), .val (.ref a2), .val (.ref a2), .unset] [(.ref a1)])) (fun t k => XS.aloadN X0.here hx rfl (hb hby own_d_jdk_37_method_8_code_2) rfl rfl k) ?_
  refine Goes.via (B := s₁.setTop (mkF m 4 #[.val (.ref a1), .val (.ref a2), .val (.ref a2), .val (.ref a1)] [])) (fun t k => XS.astoreN X0.here hx rfl (hb hby own_d_jdk_37_method_8_code_3) rfl rfl (l' := #[.val (.ref a1), .val (.ref a2), .val (.ref a2), .val (.ref a1)]) rfl k) ?_
  refine Goes.via (B := s₁.setTop (mkF m 5 #[.val (.ref a1), .val (.ref a2), .val (.ref a2), .val (.ref a1)] [(.ref a1)])) (fun t k => XS.aloadN X0.here hx rfl (hb hby own_d_jdk_37_method_8_code_4) rfl rfl k) ?_
  obtain ⟨T1, X1, e1, st1⟩ := gclsS X0 hx hZ hown (hw _ (List.mem_of_getElem? (i := 20) rfl)) (hw _ (List.mem_of_getElem? (i := 21) rfl)) (hw _ (List.mem_of_getElem? (i := 23) rfl)) (hw _ (List.mem_of_getElem? (i := 22) rfl)) (hw _ (List.mem_of_getElem? (i := 24) rfl)) e0 (O_1.ext O0.2) Mi (g := (mkF m 5 #[.val (.ref a1), .val (.ref a2), .val (.ref a2), .val (.ref a1)] [(.ref a1)])) rfl (by rw [hml]; rfl) rfl (hb hby own_d_jdk_37_method_8_code_5) (by decide) (W := 0) (by show 2 * 0 + _ ≤ _; exact Nat.le_of_eq rfl) (by decide)
  refine Goes.via (B := T1.setTop (mkF m 8 #[.val (.ref a1), .val (.ref a2), .val (.ref a2), .val (.ref a1)] [(.ref mr)])) (fun t k => st1 _ k) ?_
  refine Goes.via (B := T1.setTop (mkF m 9 #[.val (.ref a1), .val (.ref a2), .val (.ref a2), .val (.ref a1)] [(.ref a2), (.ref mr)])) (fun t k => XS.aloadN X1.here hx rfl (hb hby own_d_jdk_37_method_8_code_8) rfl rfl k) ?_
  obtain ⟨T2, X2, e2, st2⟩ := gclsS X1 hx hZ hown (hw _ (List.mem_of_getElem? (i := 20) rfl)) (hw _ (List.mem_of_getElem? (i := 21) rfl)) (hw _ (List.mem_of_getElem? (i := 23) rfl)) (hw _ (List.mem_of_getElem? (i := 22) rfl)) (hw _ (List.mem_of_getElem? (i := 24) rfl)) e1 (O_3.ext O0.2) Mi (g := (mkF m 9 #[.val (.ref a1), .val (.ref a2), .val (.ref a2), .val (.ref a1)] [(.ref a2), (.ref mr)])) rfl (by rw [hml]; rfl) rfl (hb hby own_d_jdk_37_method_8_code_9) (by decide) (W := 1) (by show 2 * 0 + _ ≤ _; exact Nat.le_of_eq rfl) (by decide)
  refine Goes.via (B := T2.setTop (mkF m 12 #[.val (.ref a1), .val (.ref a2), .val (.ref a2), .val (.ref a1)] [(.ref mr), (.ref mr)])) (fun t k => st2 _ k) ?_
  refine Goes.via (B := T2.setTop (mkF m 34 #[.val (.ref a1), .val (.ref a2), .val (.ref a2), .val (.ref a1)] [])) (fun t k => XT.acmpYes X2.here hx rfl (pc0 := 12) (pc' := 34) rfl (hb hby own_d_jdk_37_method_8_code_12) rfl rfl rfl (XT.aa_eq_t rfl) (by decide) (by decide) k) ?_
  refine Goes.via (B := T2.setTop (mkF m 35 #[.val (.ref a1), .val (.ref a2), .val (.ref a2), .val (.ref a1)] [(.ref a1)])) (fun t k => XS.aloadN X2.here hx rfl (hb hby own_d_jdk_37_method_8_code_34) rfl rfl k) ?_
  obtain ⟨T3, X3, e3, st3⟩ := getF X2 hx hZ hown (host := "") (Or.inl (hw _ (List.mem_of_getElem? (i := 26) rfl))) Via.refl e2 (O_2.ext O0.2) (g := (mkF m 35 #[.val (.ref a1), .val (.ref a2), .val (.ref a2), .val (.ref a1)] [(.ref a1)])) rfl rfl (hb hby own_d_jdk_37_method_8_code_35)
  refine Goes.via (B := T3.setTop (mkF m 38 #[.val (.ref a1), .val (.ref a2), .val (.ref a2), .val (.ref a1)] [(.int x1)])) (fun t k => st3 _ k) ?_
  refine Goes.via (B := T3.setTop (mkF m 39 #[.val (.ref a1), .val (.ref a2), .val (.ref a2), .val (.ref a1)] [(.ref a2), (.int x1)])) (fun t k => XS.aloadN X3.here hx rfl (hb hby own_d_jdk_37_method_8_code_38) rfl rfl k) ?_
  obtain ⟨T4, X4, e4, st4⟩ := getF X3 hx hZ hown (host := "") (Or.inl (hw _ (List.mem_of_getElem? (i := 26) rfl))) Via.refl e3 (O_4.ext O0.2) (g := (mkF m 39 #[.val (.ref a1), .val (.ref a2), .val (.ref a2), .val (.ref a1)] [(.ref a2), (.int x1)])) rfl rfl (hb hby own_d_jdk_37_method_8_code_39)
  refine Goes.via (B := T4.setTop (mkF m 42 #[.val (.ref a1), .val (.ref a2), .val (.ref a2), .val (.ref a1)] [(.int x2), (.int x1)])) (fun t k => st4 _ k) ?_
  refine Goes.via (B := T4.setTop (mkF m 43 #[.val (.ref a1), .val (.ref a2), .val (.ref a2), .val (.ref a1)] [(.int (x1 - x2))])) (fun t k => XS.isub X4.here hx rfl (hb hby own_d_jdk_37_method_8_code_42) rfl k) ?_
  exact finI (Q := (own_Q2 Z a1 a2 x1 x2 mr h0 n0)) (F := FrameEnd) (C := (({ frames := 1, cells := 0, slots := 0, locals := 15 } : Room)).cells) (S := (({ frames := 1, cells := 0, slots := 0, locals := 15 } : Room)).slots) X4 hx Bd.returns (hb hby own_d_jdk_37_method_8_code_43) e4 ⟨rfl, N0, rfl⟩ (lvN X4 hlk (by decide) (by decide))
theorem own_pn2 : plainName "com/example/castellan/castellan/config/AssuranceLevel" = true := by first | (simp [plainName, overriddenIn]; done) | decide +kernel
theorem own_d_prog_1_method_6_code_0 : decode prog_1_method_6_code 0 = .ok (.aload_n 0, 1) := by decide +kernel
theorem own_d_prog_1_method_6_code_1 : decode prog_1_method_6_code 1 = .ok (.aload_n 1, 1) := by decide +kernel
theorem own_d_prog_1_method_6_code_2 : decode prog_1_method_6_code 2 = .ok (.invokevirtual 66, 3) := by decide +kernel
theorem own_pd0 : parseMethodDescriptor "(Ljava/lang/Enum;)I" = some ⟨[(.object "java/lang/Enum")], some .int⟩ := by decide +kernel
theorem own_d_prog_1_method_6_code_5 : decode prog_1_method_6_code 5 = .ok (.ifCond .lt 7, 3) := by decide +kernel
theorem own_d_prog_1_method_6_code_12 : decode prog_1_method_6_code 12 = .ok (.iconst 0, 1) := by decide +kernel
theorem own_d_prog_1_method_6_code_13 : decode prog_1_method_6_code 13 = .ok (.ireturn, 1) := by decide +kernel
theorem own_d_prog_1_method_6_code_8 : decode prog_1_method_6_code 8 = .ok (.iconst 1, 1) := by decide +kernel
theorem own_d_prog_1_method_6_code_9 : decode prog_1_method_6_code 9 = .ok (.goto 4, 3) := by decide +kernel
theorem own_ef3 (m : MethodId) (x0 : Addr) (x1 : Addr)  : entryFrame m #[(.ref x0), (.ref x1)] 2 = mkF m 0 #[.val (.ref x0), .val (.ref x1)] [] := by first | (simp [entryFrame, mkF, argsToLocals, Value.category]; done) | rfl
abbrev own_Q3 (Z : State) (a1 : Addr) (a2 : Addr) (x1 : Int32) (x2 : Int32) (mr : Addr) (h0 : Heap) (n0 : Nat) (v : Option Value) (h : Heap) (L : List Loc) : Prop := ∃ r : Int32, v = some (.int r) ∧ Fr n0 L ∧ h = h0 ∧ r = if x1 - x2 < 0 then 0 else 1
set_option maxRecDepth 65536 in
set_option maxHeartbeats 40000000 in
theorem own_m3 (l : Launch) (Z : State) (a0 : Array Value) (hw : ∀ d ∈ tables_1, d.before a0 Z = true) (ws : List Jvm.Cond) (a1 : Addr) (a2 : Addr) (x1 : Int32) (x2 : Int32) (mr : Addr) (h0 : Heap) (n0 : Nat) (O0 : Old Z n0 h0) (Mi : Mirr Z "com/example/castellan/castellan/config/AssuranceLevel" mr) (O_1 : Exa Z Z.heap a1 "com/example/castellan/castellan/config/AssuranceLevel") (O_2 : Fld Z Z.heap a1 "java/lang/Enum" "ordinal" "I" (.int x1)) (O_3 : Exa Z Z.heap a2 "com/example/castellan/castellan/config/AssuranceLevel") (O_4 : Fld Z Z.heap a2 "java/lang/Enum" "ordinal" "I" (.int x2)) :
    Ctr l Z (⟨"com/example/castellan/castellan/config/AssuranceLevel", "meets", "(Lcom/example/castellan/castellan/config/AssuranceLevel;)Z"⟩ : MethodName) prog_1_method_6_code 2 (some .boolean) ({ frames := 2, cells := 0, slots := 0, locals := 30 } : Room) #[(.ref a1), (.ref a2)] h0 (own_Q3 Z a1 a2 x1 x2 mr h0 n0) ws := by
  refine MetFree.of_bodySF (plainFor_of_name own_pn2) hisR ?_
  intro p e s m args below meth c s₁ Bd hml0 hP hK
  obtain ⟨rfl, hZ, hh⟩ := hP
  have hx := Bd.exec
  have hby := Bd.bytes
  have hlk : meth.locks = false := Bd.notSynchronized
  have hml : c.maxLocals = 2 := hml0
  have hown : s.vm.findClass "com/example/castellan/castellan/config/AssuranceLevel" = some m.cls := findClass_of_methodNamed Bd.named
  have hnm := (name_of_methodNamed Bd.named Bd.method).1
  have X0 : Stand p l e ({ frames := 2, cells := 0, slots := 0, locals := 30 } : Room) s m #[(.ref a1), (.ref a2)] below meth c s₁ [] 0 0 := Stand.of_body Bd
  have e0 : s₁.heap = h0 := by rw [← hh, Bd.state]; rfl
  have N0 := Fr.nil n0
  show Goes p.tables e below (fun t o => ∃ v L, o = .returned v ∧ (own_Q3 Z a1 a2 x1 x2 mr h0 n0) v t.heap L ∧ FrameEnd s o t L (({ frames := 2, cells := 0, slots := 0, locals := 30 } : Room)).cells (({ frames := 2, cells := 0, slots := 0, locals := 30 } : Room)).slots) _
  refine Goes.via (B := s₁.setTop (mkF m 0 #[.val (.ref a1), .val (.ref a2)] [])) (fun t k => castTop (own_ef3 m a1 a2) k) ?_
  refine Goes.via (B := s₁.setTop (mkF m 1 #[.val (.ref a1), .val (.ref a2)] [(.ref a1)])) (fun t k => XS.aloadN X0.here hx rfl (hb hby own_d_prog_1_method_6_code_0) rfl rfl k) ?_
  refine Goes.via (B := s₁.setTop (mkF m 2 #[.val (.ref a1), .val (.ref a2)] [(.ref a2), (.ref a1)])) (fun t k => XS.aloadN X0.here hx rfl (hb hby own_d_prog_1_method_6_code_1) rfl rfl k) ?_
  obtain ⟨_, T1, L1, X1, ⟨rfl, M1, K1⟩, st1⟩ := callVirtUp X0 hx hZ hown (hw _ (List.mem_of_getElem? (i := 13) rfl)) (hw _ (List.mem_of_getElem? (i := 14) rfl)) (hw _ (List.mem_of_getElem? (i := 15) rfl)) (hw _ (List.mem_of_getElem? (i := 17) rfl)) (hw _ (List.mem_of_getElem? (i := 16) rfl)) (hw _ (List.mem_of_getElem? (i := 18) rfl)) (hw _ (List.mem_of_getElem? (i := 19) rfl)) (by decide) (argsL := [(.ref a2)]) (rest := []) (own_m2 l Z a0 hw [] a1 a2 x1 x2 mr h0 n0 O0 Mi O_1 O_2 O_3 O_4) e0 (O_1.ext O0.2) (lenOf own_pd0 rfl) (pc := 2) (Ls := #[.val (.ref a1), .val (.ref a2)]) (st := [(.ref a2), (.ref a1)]) rfl (by rw [hml]; rfl) (hb hby own_d_prog_1_method_6_code_2) (W := 0) (Nat.le_of_eq rfl) (by decide) (by decide) (by decide) (by decide)
  have N1 := Fr.app N0 M1
  refine Goes.via (B := T1.setTop (mkF m 5 #[.val (.ref a1), .val (.ref a2)] [(.int (x1 - x2))])) (fun t k => st1 _ k) ?_
  by_cases b2 : (x1 - x2) < (0 : Int32)
  · refine Goes.via (B := T1.setTop (mkF m 12 #[.val (.ref a1), .val (.ref a2)] [])) (fun t k => XS.ifYes X1.here hx rfl (pc0 := 5) (pc' := 12) rfl (hb hby own_d_prog_1_method_6_code_5) rfl (XT.i0_lt_t b2) (by decide) (by decide) k) ?_
    refine Goes.via (B := T1.setTop (mkF m 13 #[.val (.ref a1), .val (.ref a2)] [(.int (0 : Int32))])) (fun t k => XS.iconst X1.here hx rfl (hb hby own_d_prog_1_method_6_code_12) k) ?_
    exact finN (Q := (own_Q3 Z a1 a2 x1 x2 mr h0 n0)) (F := FrameEnd) (C := (({ frames := 2, cells := 0, slots := 0, locals := 30 } : Room)).cells) (S := (({ frames := 2, cells := 0, slots := 0, locals := 30 } : Room)).slots) X1 hx (t := .boolean) Bd.returns (by simp) (z' := (0 : Int32)) rfl (hb hby own_d_prog_1_method_6_code_13) K1 ⟨(0 : Int32), rfl, N1, rfl, (if_pos b2).symm⟩ (lvN X1 hlk (by decide) (by decide))
  · refine Goes.via (B := T1.setTop (mkF m 8 #[.val (.ref a1), .val (.ref a2)] [])) (fun t k => XS.ifNo X1.here hx rfl (hb hby own_d_prog_1_method_6_code_5) rfl (XT.i0_lt_f b2) k) ?_
    refine Goes.via (B := T1.setTop (mkF m 9 #[.val (.ref a1), .val (.ref a2)] [(.int (1 : Int32))])) (fun t k => XS.iconst X1.here hx rfl (hb hby own_d_prog_1_method_6_code_8) k) ?_
    refine Goes.via (B := T1.setTop (mkF m 13 #[.val (.ref a1), .val (.ref a2)] [(.int (1 : Int32))])) (fun t k => XS.goto X1.here hx rfl (pc0 := 9) (pc' := 13) rfl (hb hby own_d_prog_1_method_6_code_9) (by decide) (by decide) k) ?_
    exact finN (Q := (own_Q3 Z a1 a2 x1 x2 mr h0 n0)) (F := FrameEnd) (C := (({ frames := 2, cells := 0, slots := 0, locals := 30 } : Room)).cells) (S := (({ frames := 2, cells := 0, slots := 0, locals := 30 } : Room)).slots) X1 hx (t := .boolean) Bd.returns (by simp) (z' := (1 : Int32)) rfl (hb hby own_d_prog_1_method_6_code_13) K1 ⟨(1 : Int32), rfl, N1, rfl, (if_neg b2).symm⟩ (lvN X1 hlk (by decide) (by decide))
theorem own_pd1 : parseMethodDescriptor "(I)Lcom/example/castellan/castellan/config/AssuranceLevel;" = some ⟨[.int], some (.object "com/example/castellan/castellan/config/AssuranceLevel")⟩ := by decide +kernel
theorem own_pd2 : parseMethodDescriptor "(Lcom/example/castellan/castellan/config/AssuranceLevel;)Z" = some ⟨[(.object "com/example/castellan/castellan/config/AssuranceLevel")], some .boolean⟩ := by decide +kernel
theorem own_ef4 (m : MethodId) (x0 : Int32) (x1 : Int32)  : entryFrame m #[(.int x0), (.int x1)] maxLocals = mkF m 0 #[.val (.int x0), .val (.int x1), .unset, .unset, .unset] [] := by first | (simp [entryFrame, mkF, argsToLocals, Value.category, maxLocals]; done) | rfl
abbrev own_Q4 (Z : State) (x1 : Int32) (x2 : Int32) (aL : Addr) (aS : Addr) (aH : Addr) (mr : Addr) (h0 : Heap) (n0 : Nat) (v : Option Value) (h : Heap) (L : List Loc) : Prop := v = some (.int (1 : Int32)) ∧ Fr n0 L ∧ True
set_option maxRecDepth 65536 in
set_option maxHeartbeats 40000000 in
theorem own_m4 (l : Launch) (Z : State) (a0 : Array Value) (hw : ∀ d ∈ tables_1, d.before a0 Z = true) (ws : List Jvm.Cond) (x1 : Int32) (x2 : Int32) (aL : Addr) (aS : Addr) (aH : Addr) (mr : Addr) (h0 : Heap) (n0 : Nat) (O0 : Old Z n0 h0) (Mi : Mirr Z "com/example/castellan/castellan/config/AssuranceLevel" mr) (O_1 : Sta Z Z.heap "com/example/castellan/castellan/config/AssuranceLevel" "LOW" "Lcom/example/castellan/castellan/config/AssuranceLevel;" (.ref aL)) (O_2 : Exa Z Z.heap aL "com/example/castellan/castellan/config/AssuranceLevel") (O_3 : Fld Z Z.heap aL "java/lang/Enum" "ordinal" "I" (.int (0 : Int32))) (O_4 : Sta Z Z.heap "com/example/castellan/castellan/config/AssuranceLevel" "SUBSTANTIAL" "Lcom/example/castellan/castellan/config/AssuranceLevel;" (.ref aS)) (O_5 : Exa Z Z.heap aS "com/example/castellan/castellan/config/AssuranceLevel") (O_6 : Fld Z Z.heap aS "java/lang/Enum" "ordinal" "I" (.int (1 : Int32))) (O_7 : Sta Z Z.heap "com/example/castellan/castellan/config/AssuranceLevel" "HIGH" "Lcom/example/castellan/castellan/config/AssuranceLevel;" (.ref aH)) (O_8 : Exa Z Z.heap aH "com/example/castellan/castellan/config/AssuranceLevel") (O_9 : Fld Z Z.heap aH "java/lang/Enum" "ordinal" "I" (.int (2 : Int32))) :
    Ctr l Z x code maxLocals ret room_1 #[(.int x1), (.int x2)] h0 (own_Q4 Z x1 x2 aL aS aH mr h0 n0) ws := by
  refine MetFree.of_bodySF (plainFor_of_name own_pn0) hisR ?_
  intro p e s m args below meth c s₁ Bd hml0 hP hK
  obtain ⟨rfl, hZ, hh⟩ := hP
  have hx := Bd.exec
  have hby := Bd.bytes
  have hlk : meth.locks = false := Bd.notSynchronized
  have hml : c.maxLocals = 5 := hml0
  have hown : s.vm.findClass "com/example/castellan/castellan/config/AssuranceLevelMeetsPinLaw" = some m.cls := findClass_of_methodNamed Bd.named
  have hnm := (name_of_methodNamed Bd.named Bd.method).1
  have X0 : Stand p l e room_1 s m #[(.int x1), (.int x2)] below meth c s₁ [] 0 0 := Stand.of_body Bd
  have e0 : s₁.heap = h0 := by rw [← hh, Bd.state]; rfl
  have N0 := Fr.nil n0
  show Goes p.tables e below (fun t o => ∃ v L, o = .returned v ∧ (own_Q4 Z x1 x2 aL aS aH mr h0 n0) v t.heap L ∧ FrameEnd s o t L (room_1).cells (room_1).slots) _
  refine Goes.via (B := s₁.setTop (mkF m 0 #[.val (.int x1), .val (.int x2), .unset, .unset, .unset] [])) (fun t k => castTop (own_ef4 m x1 x2) k) ?_
  refine Goes.via (B := s₁.setTop (mkF m 1 #[.val (.int x1), .val (.int x2), .unset, .unset, .unset] [(.int x1)])) (fun t k => XS.iloadN X0.here hx rfl (hb hby at_0) rfl k) ?_
  refine Goes.via (B := s₁.setTop (mkF m 3 #[.val (.int x1), .val (.int x2), .unset, .unset, .unset] [(.int (2147483647 : Int32)), (.int x1)])) (fun t k => X0.ldcI hx hown (mvT hZ (hw _ (List.mem_of_getElem? (i := 0) rfl))) rfl (hb hby at_1) k) ?_
  refine Goes.via (B := s₁.setTop (mkF m 4 #[.val (.int x1), .val (.int x2), .unset, .unset, .unset] [(.int (x1 &&& (2147483647 : Int32)))])) (fun t k => XS.iand X0.here hx rfl (hb hby at_3) rfl k) ?_
  refine Goes.via (B := s₁.setTop (mkF m 5 #[.val (.int x1), .val (.int x2), .unset, .unset, .unset] [(.int (3 : Int32)), (.int (x1 &&& (2147483647 : Int32)))])) (fun t k => XS.iconst X0.here hx rfl (hb hby at_4) k) ?_
  refine Goes.via (B := s₁.setTop (mkF m 6 #[.val (.int x1), .val (.int x2), .unset, .unset, .unset] [(.int ((x1 &&& (2147483647 : Int32)) % (3 : Int32)))])) (fun t k => iremM X0 hx rfl (hb hby at_5) rfl (by decide) k) ?_
  refine Goes.via (B := s₁.setTop (mkF m 7 #[.val (.int x1), .val (.int x2), .val (.int ((x1 &&& (2147483647 : Int32)) % (3 : Int32))), .unset, .unset] [])) (fun t k => XS.istoreN X0.here hx rfl (hb hby at_6) rfl (l' := #[.val (.int x1), .val (.int x2), .val (.int ((x1 &&& (2147483647 : Int32)) % (3 : Int32))), .unset, .unset]) rfl k) ?_
  refine Goes.via (B := s₁.setTop (mkF m 8 #[.val (.int x1), .val (.int x2), .val (.int ((x1 &&& (2147483647 : Int32)) % (3 : Int32))), .unset, .unset] [(.int x2)])) (fun t k => XS.iloadN X0.here hx rfl (hb hby at_7) rfl k) ?_
  refine Goes.via (B := s₁.setTop (mkF m 10 #[.val (.int x1), .val (.int x2), .val (.int ((x1 &&& (2147483647 : Int32)) % (3 : Int32))), .unset, .unset] [(.int (2147483647 : Int32)), (.int x2)])) (fun t k => X0.ldcI hx hown (mvT hZ (hw _ (List.mem_of_getElem? (i := 0) rfl))) rfl (hb hby at_8) k) ?_
  refine Goes.via (B := s₁.setTop (mkF m 11 #[.val (.int x1), .val (.int x2), .val (.int ((x1 &&& (2147483647 : Int32)) % (3 : Int32))), .unset, .unset] [(.int (x2 &&& (2147483647 : Int32)))])) (fun t k => XS.iand X0.here hx rfl (hb hby at_10) rfl k) ?_
  refine Goes.via (B := s₁.setTop (mkF m 12 #[.val (.int x1), .val (.int x2), .val (.int ((x1 &&& (2147483647 : Int32)) % (3 : Int32))), .unset, .unset] [(.int (3 : Int32)), (.int (x2 &&& (2147483647 : Int32)))])) (fun t k => XS.iconst X0.here hx rfl (hb hby at_11) k) ?_
  refine Goes.via (B := s₁.setTop (mkF m 13 #[.val (.int x1), .val (.int x2), .val (.int ((x1 &&& (2147483647 : Int32)) % (3 : Int32))), .unset, .unset] [(.int ((x2 &&& (2147483647 : Int32)) % (3 : Int32)))])) (fun t k => iremM X0 hx rfl (hb hby at_12) rfl (by decide) k) ?_
  refine Goes.via (B := s₁.setTop (mkF m 14 #[.val (.int x1), .val (.int x2), .val (.int ((x1 &&& (2147483647 : Int32)) % (3 : Int32))), .val (.int ((x2 &&& (2147483647 : Int32)) % (3 : Int32))), .unset] [])) (fun t k => XS.istoreN X0.here hx rfl (hb hby at_13) rfl (l' := #[.val (.int x1), .val (.int x2), .val (.int ((x1 &&& (2147483647 : Int32)) % (3 : Int32))), .val (.int ((x2 &&& (2147483647 : Int32)) % (3 : Int32))), .unset]) rfl k) ?_
  suffices J1 : ∀ (k1 : Int32) (k2 : Int32) (hk1 : k1 = 0 ∨ k1 = 1 ∨ k1 = 2) (hk2 : k2 = 0 ∨ k2 = 1 ∨ k2 = 2), Goes p.tables e below (fun t o => ∃ v L, o = .returned v ∧ (own_Q4 Z x1 x2 aL aS aH mr h0 n0) v t.heap L ∧ FrameEnd s o t L (room_1).cells (room_1).slots) (s₁.setTop (mkF m 14 #[.val (.int x1), .val (.int x2), .val (.int k1), .val (.int k2), .unset] [])) by exact J1 ((x1 &&& (2147483647 : Int32)) % (3 : Int32)) ((x2 &&& (2147483647 : Int32)) % (3 : Int32)) (own_rem3 x1) (own_rem3 x2)
  intro k1 k2 hk1 hk2
  have j2 : ∀ (x5 : Int32) (he : x5 = if k1 - k2 < 0 then 0 else 1) , Goes p.tables e below (fun t o => ∃ v L, o = .returned v ∧ (own_Q4 Z x1 x2 aL aS aH mr h0 n0) v t.heap L ∧ FrameEnd s o t L (room_1).cells (room_1).slots) (s₁.setTop (mkF m 56 #[.val (.int x1), .val (.int x2), .val (.int k1), .val (.int k2), .val (.int x5)] [])) := by
    intro x5 he
    refine Goes.via (B := s₁.setTop (mkF m 57 #[.val (.int x1), .val (.int x2), .val (.int k1), .val (.int k2), .val (.int x5)] [(.int k1)])) (fun t k => XS.iloadN X0.here hx rfl (hb hby at_56) rfl k) ?_
    obtain ⟨_, T4, L4, X4, ⟨r4, rfl, M4, K4, y4_0, y4_1⟩, st4⟩ := callStatic X0 hx hZ hown (hw _ (List.mem_of_getElem? (i := 1) rfl)) (hw _ (List.mem_of_getElem? (i := 2) rfl)) (hw _ (List.mem_of_getElem? (i := 3) rfl)) (hw _ (List.mem_of_getElem? (i := 4) rfl)) (by decide) (argsL := [(.int k1)]) (rest := []) (own_m1 l Z a0 hw [] k1 aL aS aH h0 n0 O0 hk1 O_1 O_2 O_3 O_4 O_5 O_6 O_7 O_8 O_9) e0 (lenOf own_pd1 rfl) (pc := 57) (Ls := #[.val (.int x1), .val (.int x2), .val (.int k1), .val (.int k2), .val (.int x5)]) (st := [(.int k1)]) rfl (by rw [hml]; rfl) (hb hby at_57) (W := 0) (Nat.le_of_eq rfl) (by decide) (by decide) (by decide) (by decide)
    have N4 := Fr.app N0 M4
    refine Goes.via (B := T4.setTop (mkF m 60 #[.val (.int x1), .val (.int x2), .val (.int k1), .val (.int k2), .val (.int x5)] [(.ref r4)])) (fun t k => st4 _ k) ?_
    refine Goes.via (B := T4.setTop (mkF m 61 #[.val (.int x1), .val (.int x2), .val (.int k1), .val (.int k2), .val (.int x5)] [(.int k2), (.ref r4)])) (fun t k => XS.iloadN X4.here hx rfl (hb hby at_60) rfl k) ?_
    obtain ⟨_, T5, L5, X5, ⟨r5, rfl, M5, K5, y5_0, y5_1⟩, st5⟩ := callStatic X4 hx hZ hown (hw _ (List.mem_of_getElem? (i := 1) rfl)) (hw _ (List.mem_of_getElem? (i := 2) rfl)) (hw _ (List.mem_of_getElem? (i := 3) rfl)) (hw _ (List.mem_of_getElem? (i := 4) rfl)) (by decide) (argsL := [(.int k2)]) (rest := [(.ref r4)]) (own_m1 l Z a0 hw [] k2 aL aS aH h0 n0 O0 hk2 O_1 O_2 O_3 O_4 O_5 O_6 O_7 O_8 O_9) K4 (lenOf own_pd1 rfl) (pc := 61) (Ls := #[.val (.int x1), .val (.int x2), .val (.int k1), .val (.int k2), .val (.int x5)]) (st := [(.int k2), (.ref r4)]) rfl (by rw [hml]; rfl) (hb hby at_61) (W := 1) (Nat.le_of_eq rfl) (by decide) (by decide) (by decide) (by decide)
    have N5 := Fr.app N4 M5
    refine Goes.via (B := T5.setTop (mkF m 64 #[.val (.int x1), .val (.int x2), .val (.int k1), .val (.int k2), .val (.int x5)] [(.ref r5), (.ref r4)])) (fun t k => st5 _ k) ?_
    obtain ⟨_, T6, L6, X6, ⟨r6, rfl, M6, K6, p6_0⟩, st6⟩ := callVirt X5 hx hZ hown (hw _ (List.mem_of_getElem? (i := 8) rfl)) (hw _ (List.mem_of_getElem? (i := 9) rfl)) (hw _ (List.mem_of_getElem? (i := 11) rfl)) (notFace_of_selects (args := #[]) (mvT hZ (hw _ (List.mem_of_getElem? (i := 11) rfl)))) (hw _ (List.mem_of_getElem? (i := 10) rfl)) (hw _ (List.mem_of_getElem? (i := 6) rfl)) (hw _ (List.mem_of_getElem? (i := 12) rfl)) (by decide) (argsL := [(.ref r5)]) (rest := []) (own_m3 l Z a0 hw [] r4 r5 k1 k2 mr h0 n0 O0 Mi y4_0 y4_1 y5_0 y5_1) K5 (y4_0.ext O0.2) (lenOf own_pd2 rfl) (pc := 64) (Ls := #[.val (.int x1), .val (.int x2), .val (.int k1), .val (.int k2), .val (.int x5)]) (st := [(.ref r5), (.ref r4)]) rfl (by rw [hml]; rfl) (hb hby at_64) (W := 0) (Nat.le_of_eq rfl) (by decide) (by decide) (by decide) (by decide)
    have N6 := Fr.app N5 M6
    refine Goes.via (B := T6.setTop (mkF m 67 #[.val (.int x1), .val (.int x2), .val (.int k1), .val (.int k2), .val (.int x5)] [(.int r6)])) (fun t k => st6 _ k) ?_
    refine Goes.via (B := T6.setTop (mkF m 69 #[.val (.int x1), .val (.int x2), .val (.int k1), .val (.int k2), .val (.int x5)] [(.int x5), (.int r6)])) (fun t k => XS.iload X6.here hx rfl (hb hby at_67) rfl k) ?_
    refine Goes.via (B := T6.setTop (mkF m 72 #[.val (.int x1), .val (.int x2), .val (.int k1), .val (.int k2), .val (.int x5)] [])) (fun t k => XS.icmpNo X6.here hx rfl (hb hby at_69) rfl (XT.ii_ne_f (p6_0.trans he.symm)) k) ?_
    refine Goes.via (B := T6.setTop (mkF m 73 #[.val (.int x1), .val (.int x2), .val (.int k1), .val (.int k2), .val (.int x5)] [(.int (1 : Int32))])) (fun t k => XS.iconst X6.here hx rfl (hb hby at_72) k) ?_
    refine Goes.via (B := T6.setTop (mkF m 77 #[.val (.int x1), .val (.int x2), .val (.int k1), .val (.int k2), .val (.int x5)] [(.int (1 : Int32))])) (fun t k => XS.goto X6.here hx rfl (pc0 := 73) (pc' := 77) rfl (hb hby at_73) (by decide) (by decide) k) ?_
    exact finN (Q := (own_Q4 Z x1 x2 aL aS aH mr h0 n0)) (F := FrameEnd) (C := (room_1).cells) (S := (room_1).slots) X6 hx (t := .boolean) Bd.returns (by simp) (z' := (1 : Int32)) rfl (hb hby at_77) K6 ⟨rfl, N6, trivial⟩ (lvN X6 hlk (by decide) (by decide))
  refine Goes.via (B := s₁.setTop (mkF m 15 #[.val (.int x1), .val (.int x2), .val (.int k1), .val (.int k2), .unset] [(.int k1)])) (fun t k => XS.iloadN X0.here hx rfl (hb hby at_14) rfl k) ?_
  refine Goes.via (B := s₁.setTop (mkF m 16 #[.val (.int x1), .val (.int x2), .val (.int k1), .val (.int k2), .unset] [(.int (2 : Int32)), (.int k1)])) (fun t k => XS.iconst X0.here hx rfl (hb hby at_15) k) ?_
  by_cases b7 : k1 = (2 : Int32)
  · refine Goes.via (B := s₁.setTop (mkF m 19 #[.val (.int x1), .val (.int x2), .val (.int k1), .val (.int k2), .unset] [])) (fun t k => XS.icmpNo X0.here hx rfl (hb hby at_16) rfl (XT.ii_ne_f b7) k) ?_
    refine Goes.via (B := s₁.setTop (mkF m 20 #[.val (.int x1), .val (.int x2), .val (.int k1), .val (.int k2), .unset] [(.int (1 : Int32))])) (fun t k => XS.iconst X0.here hx rfl (hb hby at_19) k) ?_
    refine Goes.via (B := s₁.setTop (mkF m 22 #[.val (.int x1), .val (.int x2), .val (.int k1), .val (.int k2), .val (.int (1 : Int32))] [])) (fun t k => XS.istore X0.here hx rfl (hb hby at_20) rfl (l' := #[.val (.int x1), .val (.int x2), .val (.int k1), .val (.int k2), .val (.int (1 : Int32))]) rfl k) ?_
    refine Goes.via (B := s₁.setTop (mkF m 56 #[.val (.int x1), .val (.int x2), .val (.int k1), .val (.int k2), .val (.int (1 : Int32))] [])) (fun t k => XS.goto X0.here hx rfl (pc0 := 22) (pc' := 56) rfl (hb hby at_22) (by decide) (by decide) k) ?_
    exact j2 (1 : Int32) (by rcases hk1 with rfl | rfl | rfl <;> rcases hk2 with rfl | rfl | rfl <;> first | rfl | (exfalso; revert b7; decide))
  · refine Goes.via (B := s₁.setTop (mkF m 25 #[.val (.int x1), .val (.int x2), .val (.int k1), .val (.int k2), .unset] [])) (fun t k => XS.icmpYes X0.here hx rfl (pc0 := 16) (pc' := 25) rfl (hb hby at_16) rfl (XT.ii_ne_t b7) (by decide) (by decide) k) ?_
    refine Goes.via (B := s₁.setTop (mkF m 26 #[.val (.int x1), .val (.int x2), .val (.int k1), .val (.int k2), .unset] [(.int k1)])) (fun t k => XS.iloadN X0.here hx rfl (hb hby at_25) rfl k) ?_
    refine Goes.via (B := s₁.setTop (mkF m 27 #[.val (.int x1), .val (.int x2), .val (.int k1), .val (.int k2), .unset] [(.int (1 : Int32)), (.int k1)])) (fun t k => XS.iconst X0.here hx rfl (hb hby at_26) k) ?_
    by_cases b8 : k1 = (1 : Int32)
    · refine Goes.via (B := s₁.setTop (mkF m 30 #[.val (.int x1), .val (.int x2), .val (.int k1), .val (.int k2), .unset] [])) (fun t k => XS.icmpNo X0.here hx rfl (hb hby at_27) rfl (XT.ii_ne_f b8) k) ?_
      refine Goes.via (B := s₁.setTop (mkF m 31 #[.val (.int x1), .val (.int x2), .val (.int k1), .val (.int k2), .unset] [(.int k2)])) (fun t k => XS.iloadN X0.here hx rfl (hb hby at_30) rfl k) ?_
      refine Goes.via (B := s₁.setTop (mkF m 32 #[.val (.int x1), .val (.int x2), .val (.int k1), .val (.int k2), .unset] [(.int (2 : Int32)), (.int k2)])) (fun t k => XS.iconst X0.here hx rfl (hb hby at_31) k) ?_
      by_cases b9 : k2 = (2 : Int32)
      · refine Goes.via (B := s₁.setTop (mkF m 39 #[.val (.int x1), .val (.int x2), .val (.int k1), .val (.int k2), .unset] [])) (fun t k => XS.icmpYes X0.here hx rfl (pc0 := 32) (pc' := 39) rfl (hb hby at_32) rfl (XT.ii_eq_t b9) (by decide) (by decide) k) ?_
        refine Goes.via (B := s₁.setTop (mkF m 40 #[.val (.int x1), .val (.int x2), .val (.int k1), .val (.int k2), .unset] [(.int (0 : Int32))])) (fun t k => XS.iconst X0.here hx rfl (hb hby at_39) k) ?_
        refine Goes.via (B := s₁.setTop (mkF m 42 #[.val (.int x1), .val (.int x2), .val (.int k1), .val (.int k2), .val (.int (0 : Int32))] [])) (fun t k => XS.istore X0.here hx rfl (hb hby at_40) rfl (l' := #[.val (.int x1), .val (.int x2), .val (.int k1), .val (.int k2), .val (.int (0 : Int32))]) rfl k) ?_
        refine Goes.via (B := s₁.setTop (mkF m 56 #[.val (.int x1), .val (.int x2), .val (.int k1), .val (.int k2), .val (.int (0 : Int32))] [])) (fun t k => XS.goto X0.here hx rfl (pc0 := 42) (pc' := 56) rfl (hb hby at_42) (by decide) (by decide) k) ?_
        exact j2 (0 : Int32) (by rcases hk1 with rfl | rfl | rfl <;> rcases hk2 with rfl | rfl | rfl <;> first | rfl | (exfalso; revert b7 b8 b9; decide))
      · refine Goes.via (B := s₁.setTop (mkF m 35 #[.val (.int x1), .val (.int x2), .val (.int k1), .val (.int k2), .unset] [])) (fun t k => XS.icmpNo X0.here hx rfl (hb hby at_32) rfl (XT.ii_eq_f b9) k) ?_
        refine Goes.via (B := s₁.setTop (mkF m 36 #[.val (.int x1), .val (.int x2), .val (.int k1), .val (.int k2), .unset] [(.int (1 : Int32))])) (fun t k => XS.iconst X0.here hx rfl (hb hby at_35) k) ?_
        refine Goes.via (B := s₁.setTop (mkF m 40 #[.val (.int x1), .val (.int x2), .val (.int k1), .val (.int k2), .unset] [(.int (1 : Int32))])) (fun t k => XS.goto X0.here hx rfl (pc0 := 36) (pc' := 40) rfl (hb hby at_36) (by decide) (by decide) k) ?_
        refine Goes.via (B := s₁.setTop (mkF m 42 #[.val (.int x1), .val (.int x2), .val (.int k1), .val (.int k2), .val (.int (1 : Int32))] [])) (fun t k => XS.istore X0.here hx rfl (hb hby at_40) rfl (l' := #[.val (.int x1), .val (.int x2), .val (.int k1), .val (.int k2), .val (.int (1 : Int32))]) rfl k) ?_
        refine Goes.via (B := s₁.setTop (mkF m 56 #[.val (.int x1), .val (.int x2), .val (.int k1), .val (.int k2), .val (.int (1 : Int32))] [])) (fun t k => XS.goto X0.here hx rfl (pc0 := 42) (pc' := 56) rfl (hb hby at_42) (by decide) (by decide) k) ?_
        exact j2 (1 : Int32) (by rcases hk1 with rfl | rfl | rfl <;> rcases hk2 with rfl | rfl | rfl <;> first | rfl | (exfalso; revert b7 b8 b9; decide))
    · refine Goes.via (B := s₁.setTop (mkF m 45 #[.val (.int x1), .val (.int x2), .val (.int k1), .val (.int k2), .unset] [])) (fun t k => XS.icmpYes X0.here hx rfl (pc0 := 27) (pc' := 45) rfl (hb hby at_27) rfl (XT.ii_ne_t b8) (by decide) (by decide) k) ?_
      refine Goes.via (B := s₁.setTop (mkF m 46 #[.val (.int x1), .val (.int x2), .val (.int k1), .val (.int k2), .unset] [(.int k2)])) (fun t k => XS.iloadN X0.here hx rfl (hb hby at_45) rfl k) ?_
      by_cases b10 : k2 = (0 : Int32)
      · refine Goes.via (B := s₁.setTop (mkF m 49 #[.val (.int x1), .val (.int x2), .val (.int k1), .val (.int k2), .unset] [])) (fun t k => XS.ifNo X0.here hx rfl (hb hby at_46) rfl (XT.i0_ne_f b10) k) ?_
        refine Goes.via (B := s₁.setTop (mkF m 50 #[.val (.int x1), .val (.int x2), .val (.int k1), .val (.int k2), .unset] [(.int (1 : Int32))])) (fun t k => XS.iconst X0.here hx rfl (hb hby at_49) k) ?_
        refine Goes.via (B := s₁.setTop (mkF m 54 #[.val (.int x1), .val (.int x2), .val (.int k1), .val (.int k2), .unset] [(.int (1 : Int32))])) (fun t k => XS.goto X0.here hx rfl (pc0 := 50) (pc' := 54) rfl (hb hby at_50) (by decide) (by decide) k) ?_
        refine Goes.via (B := s₁.setTop (mkF m 56 #[.val (.int x1), .val (.int x2), .val (.int k1), .val (.int k2), .val (.int (1 : Int32))] [])) (fun t k => XS.istore X0.here hx rfl (hb hby at_54) rfl (l' := #[.val (.int x1), .val (.int x2), .val (.int k1), .val (.int k2), .val (.int (1 : Int32))]) rfl k) ?_
        exact j2 (1 : Int32) (by rcases hk1 with rfl | rfl | rfl <;> rcases hk2 with rfl | rfl | rfl <;> first | rfl | (exfalso; revert b7 b8 b10; decide))
      · refine Goes.via (B := s₁.setTop (mkF m 53 #[.val (.int x1), .val (.int x2), .val (.int k1), .val (.int k2), .unset] [])) (fun t k => XS.ifYes X0.here hx rfl (pc0 := 46) (pc' := 53) rfl (hb hby at_46) rfl (XT.i0_ne_t b10) (by decide) (by decide) k) ?_
        refine Goes.via (B := s₁.setTop (mkF m 54 #[.val (.int x1), .val (.int x2), .val (.int k1), .val (.int k2), .unset] [(.int (0 : Int32))])) (fun t k => XS.iconst X0.here hx rfl (hb hby at_53) k) ?_
        refine Goes.via (B := s₁.setTop (mkF m 56 #[.val (.int x1), .val (.int x2), .val (.int k1), .val (.int k2), .val (.int (0 : Int32))] [])) (fun t k => XS.istore X0.here hx rfl (hb hby at_54) rfl (l' := #[.val (.int x1), .val (.int x2), .val (.int k1), .val (.int k2), .val (.int (0 : Int32))]) rfl k) ?_
        exact j2 (0 : Int32) (by rcases hk1 with rfl | rfl | rfl <;> rcases hk2 with rfl | rfl | rfl <;> first | rfl | (exfalso; revert b7 b8 b10; decide))
set_option maxRecDepth 65536 in
set_option maxHeartbeats 40000000 in
theorem comes_1 {Post : Tables → Env → Array Value → State → Outcome → State → Prop} (hpost : ∀ tb e args s v u, (limb_1_1.after args s (.returned v) u = true ∧ limb_1_2.after args s (.returned v) u = true ∧ True) → FrameEnd s (.returned v) u (Jvm.fieldLocs frame_1_writes args s ++ Jvm.arrayLocs frame_1_arrays args s ++ Jvm.staticLocs frame_1_statics s) 0 0 → Post tb e args s (.returned v) u) :
    ArmFor flags0 classFile x code maxLocals ret World_1 tables_1 room_1 Calls_1 rest_1 Pre_1 Post := by
  intro l hfl _ _ p e ha hc hk s m args below hf hA hF happ hP
  obtain ⟨hcalls, hrest, hpre⟩ := hP
  obtain ⟨-, -, -, hnamed, -, -, -, hat⟩ := (Spec.applies_iff hf).mp happ
  obtain ⟨hg, hn⟩ := and_e (Cond.before_iff.mp (show (Jvm.Cond.and given_1 narrow_1).before args s = true from hpre))
  obtain ⟨g_0, r_0⟩ := and_e hg
  obtain ⟨g_1, r_1⟩ := and_e r_0
  obtain ⟨w0, w1, rfl⟩ : ∃ w0 w1 : Value, args = #[w0, w1] := by
    have hs : args.size = 2 := by simpa [Cond.value, given_1] using g_0
    obtain ⟨L⟩ := args
    match L, hs with
    | [w0, w1], _ => exact ⟨w0, w1, rfl⟩
  have hw := fun d (hd : d ∈ tables_1) => atoms_spec (ws := Jvm.Cond.code x code maxLocals ret :: tables_1) hat d (List.mem_cons_of_mem _ hd)
  have hfit : Fit s := fun {y c} hc i hi => by
    obtain ⟨ha, rfl⟩ := Array.getElem?_eq_some_iff.mp hc
    have q := List.all_eq_true.mp ((Array.all_eq_true_iff_forall_mem.mp hF) _ (Array.getElem_mem ha)) i (List.mem_range.mpr hi)
    simpa [Array.getElem?_eq_getElem hi] using q
  obtain ⟨i0, ei0⟩ := is_v g_1
  obtain rfl : w0 = (.int i0) := Option.some.inj ei0
  obtain ⟨i1, ei1⟩ := is_v r_1
  obtain rfl : w1 = (.int i1) := Option.some.inj ei1
  obtain ⟨n_0, q_0⟩ := and_e hn
  obtain ⟨n_1, q_1⟩ := and_e q_0
  obtain ⟨n_2, q_2⟩ := and_e q_1
  obtain ⟨n_3, q_3⟩ := and_e q_2
  obtain ⟨n_4, q_4⟩ := and_e q_3
  have n_5 := q_4
  obtain ⟨st_LOW, es_LOW⟩ := exa_v n_0
  have S_LOW : Sta s s.heap "com/example/castellan/castellan/config/AssuranceLevel" "LOW" "Lcom/example/castellan/castellan/config/AssuranceLevel;" (.ref st_LOW) := Sta.start es_LOW (Or.inr ⟨(hw _ (List.mem_of_getElem? (i := 6) rfl)), (hw _ (List.mem_of_getElem? (i := 7) rfl))⟩)
  have E_LOW : Exa s s.heap st_LOW "com/example/castellan/castellan/config/AssuranceLevel" := Exa.start es_LOW n_0
  have Q_LOW_ordinal : Fld s s.heap st_LOW "java/lang/Enum" "ordinal" "I" (.int (0 : Int32)) := fld_int es_LOW n_1
  obtain ⟨st_HIGH, es_HIGH⟩ := exa_v n_2
  have S_HIGH : Sta s s.heap "com/example/castellan/castellan/config/AssuranceLevel" "HIGH" "Lcom/example/castellan/castellan/config/AssuranceLevel;" (.ref st_HIGH) := Sta.start es_HIGH (Or.inr ⟨(hw _ (List.mem_of_getElem? (i := 6) rfl)), (hw _ (List.mem_of_getElem? (i := 29) rfl))⟩)
  have E_HIGH : Exa s s.heap st_HIGH "com/example/castellan/castellan/config/AssuranceLevel" := Exa.start es_HIGH n_2
  obtain ⟨st_SUBSTANTIAL, es_SUBSTANTIAL⟩ := exa_v n_3
  have S_SUBSTANTIAL : Sta s s.heap "com/example/castellan/castellan/config/AssuranceLevel" "SUBSTANTIAL" "Lcom/example/castellan/castellan/config/AssuranceLevel;" (.ref st_SUBSTANTIAL) := Sta.start es_SUBSTANTIAL (Or.inr ⟨(hw _ (List.mem_of_getElem? (i := 6) rfl)), (hw _ (List.mem_of_getElem? (i := 31) rfl))⟩)
  have E_SUBSTANTIAL : Exa s s.heap st_SUBSTANTIAL "com/example/castellan/castellan/config/AssuranceLevel" := Exa.start es_SUBSTANTIAL n_3
  have Q_HIGH_ordinal : Fld s s.heap st_HIGH "java/lang/Enum" "ordinal" "I" (.int (2 : Int32)) := fld_int es_HIGH n_4
  have Q_SUBSTANTIAL_ordinal : Fld s s.heap st_SUBSTANTIAL "java/lang/Enum" "ordinal" "I" (.int (1 : Int32)) := fld_int es_SUBSTANTIAL n_5
  obtain ⟨⟨cm, km, mr, hm1, hm2, hm3⟩, -⟩ := hcalls
  have Mi : Mirr s "com/example/castellan/castellan/config/AssuranceLevel" mr := ⟨cm, km, hm1, hm2, hm3.1⟩
  obtain ⟨n, o, h1, h2, h3, _, L, rfl, ⟨rfl, N, -⟩, hq⟩ := own_m4 l s _ hw tables_1 i0 i1 st_LOW st_SUBSTANTIAL st_HIGH mr s.heap s.heap.size (Old.start s) Mi S_LOW E_LOW Q_LOW_ordinal S_SUBSTANTIAL E_SUBSTANTIAL Q_SUBSTANTIAL_ordinal S_HIGH E_HIGH Q_HIGH_ordinal p e ha hc hk s m _ below hf ((Spec.applies_iff_loose hf).mp happ).1 ⟨rfl, State.Warmed39.refl s, rfl⟩ trivial
  refine ⟨n, _, h1, h2, h3, hpost _ _ _ _ _ _ ⟨Cond.after_iff.mpr rfl, Cond.after_iff.mpr (eq_i res_at (Term.int_eval (1)) rfl), trivial⟩ ⟨hq.1, hq.2.1, (hq.2.2.sift fun y hy => Or.inr (N y hy)).mono (by decide) (by decide)⟩⟩
theorem main_1_1 : Claimed_1_1 := comes_1 fun _ _ _ _ _ _ h hF => ⟨h.1, hF⟩
theorem main_1_2 : Claimed_1_2 := comes_1 fun _ _ _ _ _ _ h hF => ⟨h.2.1, hF⟩
end Jvm.Pilot.@@N@@
namespace Jvm.Pilot.@@N@@
open Jvm Jvm.ClassFile Sem Op Lib Jvm.Free Jvm.Stand Jvm.Pilot.@@N@@.Jvm.D
/-! MADE BY PROGRAM (witnessworld.py) out of the Statement's table words and the real class files: 13 classes; the members and pool entries that the words name. The judged class is class 1, her method 2. -/
namespace start1
open Jvm.ClassFile
def u (s : String) : CpInfo := .utf8 (stringToUtf16 s)
/-- a pool by its gaps: so many unusable entries, then the entry; so many at the end -/
def gap : Nat → List CpInfo → List CpInfo
  | 0, r => r
  | n + 1, r => .unusable :: gap n r
def poolList (es : List (Nat × CpInfo)) (last : Nat) : List CpInfo := es.foldr (fun e r => gap e.1 (e.2 :: r)) (gap last [])
def pool (es : List (Nat × CpInfo)) (last : Nat) : Array CpInfo := ⟨poolList es last⟩
def fileOf (pool : Array CpInfo) (this : Nat) (attrs : Array Attribute := #[]) (ms : Array MethodInfo := #[]) (fl : Nat := 33) (sup : Nat := 0) (ifs : Array Nat := #[]) (fds : Array FieldInfo := #[]) : ClassFile where
  minorVersion := 0
  majorVersion := 65
  constantPool := pool
  accessFlags := fl
  thisClass := this
  superClass := sup
  interfaces := ifs
  fields := fds
  methods := ms
  attributes := attrs
def plain (name : String) (sup : Option ClassId) : Class where
  name := name
  kind := .ordinary
  loader := none
  accessFlags := 33
  super := sup
  interfaces := #[]
  cf := none
  fields := #[]
  methods := #[]
  instanceTypes := #[]
  staticTypes := #[]
  resolved := #[]
  callSites := []
  init := .initialized
  statics := none
  mirror := none

def pool0 : Array CpInfo := pool [(5, u "<init>"), (0, u "()V"), (1, .class_ 10), (1, u "java/lang/Object"), (0, u "getClass"), (0, u "()Ljava/lang/Class;")] 111

def k0m0 : Method := { name := "<init>", desc := "()V", sig := { parameters := [], returnType := none }, accessFlags := 1, code := none }
def k0m1 : Method := { name := "getClass", desc := "()Ljava/lang/Class;", sig := { parameters := [], returnType := some (.object "java/lang/Class") }, accessFlags := 273, code := none }
/-- java/lang/Object -/
def k0 : Class := { plain "java/lang/Object" none with
  accessFlags := 33
  interfaces := #[]
  cf := some (fileOf pool0 8 #[] #[{ accessFlags := 1, nameIndex := 5, descriptorIndex := 6, attributes := #[] }, { accessFlags := 273, nameIndex := 11, descriptorIndex := 12, attributes := #[] }] 33 0 #[] #[])
  fields := #[]
  methods := #[k0m0, k0m1]
  instanceTypes := #[]
  staticTypes := #[]
  resolved := Array.replicate 124 none
  statics := none }

def pool1 : Array CpInfo := pool [(2, .class_ 4), (1, u "java/lang/Object"), (0, u "<init>"), (0, u "()V"), (0, .fieldref 8 9), (0, .class_ 10), (0, .nameAndType 11 12), (0, u "com/example/castellan/castellan/config/AssuranceLevel"), (0, u "LOW"), (0, u "Lcom/example/castellan/castellan/config/AssuranceLevel;"), (0, .fieldref 8 14), (0, .nameAndType 15 12), (0, u "SUBSTANTIAL"), (0, .fieldref 8 17), (0, .nameAndType 18 12), (0, u "HIGH"), (0, .integer 2147483647), (0, .methodref 21 22), (0, .class_ 23), (0, .nameAndType 24 25), (0, u "com/example/castellan/castellan/config/AssuranceLevelMeetsPinLaw"), (0, u "level"), (0, u "(I)Lcom/example/castellan/castellan/config/AssuranceLevel;"), (0, .methodref 8 27), (0, .nameAndType 28 29), (0, u "meets"), (0, u "(Lcom/example/castellan/castellan/config/AssuranceLevel;)Z"), (3, u "law"), (0, u "(II)Z")] 2

def k1m0 : Method := { name := "<init>", desc := "()V", sig := { parameters := [], returnType := none }, accessFlags := 1, code := none }
def k1c1 : Code := { maxStack := 2, maxLocals := 1, code := method_2_code, exceptionTable := #[], attributes := #[] }
def k1m1 : Method := { name := "level", desc := "(I)Lcom/example/castellan/castellan/config/AssuranceLevel;", sig := { parameters := [.int], returnType := some (.object "com/example/castellan/castellan/config/AssuranceLevel") }, accessFlags := 10, code := some k1c1 }
def k1c2 : Code := { maxStack := 2, maxLocals := 5, code := code, exceptionTable := #[], attributes := #[] }
def k1m2 : Method := { name := "law", desc := "(II)Z", sig := { parameters := [.int, .int], returnType := some .boolean }, accessFlags := 9, code := some k1c2 }
/-- com/example/castellan/castellan/config/AssuranceLevelMeetsPinLaw -/
def k1 : Class := { plain "com/example/castellan/castellan/config/AssuranceLevelMeetsPinLaw" (some 0) with
  accessFlags := 49
  interfaces := #[]
  cf := some (fileOf pool1 21 #[] #[{ accessFlags := 1, nameIndex := 5, descriptorIndex := 6, attributes := #[] }, { accessFlags := 10, nameIndex := 24, descriptorIndex := 25, attributes := #[] }, { accessFlags := 9, nameIndex := 33, descriptorIndex := 34, attributes := #[] }] 49 2 #[] #[])
  fields := #[]
  methods := #[k1m0, k1m1, k1m2]
  instanceTypes := #[]
  staticTypes := #[]
  resolved := Array.replicate 37 none
  statics := none }

def pool2 : Array CpInfo := pool [(1, .class_ 2), (0, u "java/lang/constant/Constable"), (0, .class_ 4), (0, u "java/lang/Object")] 6

/-- java/lang/constant/Constable -/
def k2 : Class := { plain "java/lang/constant/Constable" (some 0) with
  accessFlags := 1537
  interfaces := #[]
  cf := some (fileOf pool2 1 #[] #[] 1537 3 #[] #[])
  fields := #[]
  methods := #[]
  instanceTypes := #[]
  staticTypes := #[]
  resolved := Array.replicate 11 none
  statics := none }

def pool3 : Array CpInfo := pool [(1, .class_ 2), (0, u "java/lang/Comparable"), (0, .class_ 4), (0, u "java/lang/Object")] 7

/-- java/lang/Comparable -/
def k3 : Class := { plain "java/lang/Comparable" (some 0) with
  accessFlags := 1537
  interfaces := #[]
  cf := some (fileOf pool3 1 #[] #[] 1537 3 #[] #[])
  fields := #[]
  methods := #[]
  instanceTypes := #[]
  staticTypes := #[]
  resolved := Array.replicate 12 none
  statics := none }

def pool4 : Array CpInfo := pool [(1, .class_ 2), (0, u "java/io/Serializable"), (0, .class_ 4), (0, u "java/lang/Object")] 2

/-- java/io/Serializable -/
def k4 : Class := { plain "java/io/Serializable" (some 0) with
  accessFlags := 1537
  interfaces := #[]
  cf := some (fileOf pool4 1 #[] #[] 1537 3 #[] #[])
  fields := #[]
  methods := #[]
  instanceTypes := #[]
  staticTypes := #[]
  resolved := Array.replicate 7 none
  statics := none }

def pool5 : Array CpInfo := pool [(2, .class_ 4), (1, u "java/lang/Enum"), (0, u "name"), (0, u "Ljava/lang/String;"), (0, .fieldref 2 8), (0, .nameAndType 9 10), (0, u "ordinal"), (0, u "I"), (1, .class_ 14), (1, u "java/lang/Object"), (4, u "hash"), (9, .methodref 12 30), (0, .nameAndType 31 32), (0, u "getClass"), (0, u "()Ljava/lang/Class;"), (70, u "compareTo"), (0, u "(Ljava/lang/Enum;)I"), (1, .class_ 108), (1, u "java/lang/Enum$EnumDesc"), (2, .class_ 112), (0, u "java/lang/constant/Constable"), (0, .class_ 114), (0, u "java/lang/Comparable"), (0, .class_ 116), (0, u "java/io/Serializable")] 87

def k5c0 : Code := { maxStack := 2, maxLocals := 4, code := jdk_37_method_8_code, exceptionTable := #[], attributes := #[] }
def k5m0 : Method := { name := "compareTo", desc := "(Ljava/lang/Enum;)I", sig := { parameters := [(.object "java/lang/Enum")], returnType := some .int }, accessFlags := 17, code := some k5c0 }
/-- java/lang/Enum -/
def k5 : Class := { plain "java/lang/Enum" (some 0) with
  accessFlags := 1057
  interfaces := #[2, 3, 4]
  cf := some (fileOf pool5 2 #[.nestMembers #[106]] #[{ accessFlags := 17, nameIndex := 103, descriptorIndex := 104, attributes := #[] }] 1057 12 #[111, 113, 115] #[{ accessFlags := 18, nameIndex := 5, descriptorIndex := 6, attributes := #[] }, { accessFlags := 18, nameIndex := 9, descriptorIndex := 10, attributes := #[] }, { accessFlags := 2, nameIndex := 19, descriptorIndex := 10, attributes := #[] }])
  fields := #[{ name := "name", type := (.object "java/lang/String"), accessFlags := 18, slot := 0, constantValue := 0 }, { name := "ordinal", type := .int, accessFlags := 18, slot := 1, constantValue := 0 }, { name := "hash", type := .int, accessFlags := 2, slot := 2, constantValue := 0 }]
  methods := #[k5m0]
  instanceTypes := #[(.object "java/lang/String"), .int, .int]
  staticTypes := #[]
  resolved := Array.replicate 204 none
  statics := none }

def pool6 : Array CpInfo := pool [(1, .class_ 2), (0, u "com/example/castellan/castellan/config/AssuranceLevel"), (2, u "LOW"), (0, u "Lcom/example/castellan/castellan/config/AssuranceLevel;"), (2, u "SUBSTANTIAL"), (2, u "HIGH"), (2, u "$VALUES"), (0, u "[Lcom/example/castellan/castellan/config/AssuranceLevel;"), (6, .class_ 25), (1, u "java/lang/Enum"), (8, u "value"), (0, u "Ljava/lang/String;"), (30, .methodref 1 67), (0, .nameAndType 68 69), (0, u "compareTo"), (0, u "(Ljava/lang/Enum;)I"), (28, u "meets"), (0, u "(Lcom/example/castellan/castellan/config/AssuranceLevel;)Z")] 5

def k6c0 : Code := { maxStack := 2, maxLocals := 2, code := prog_1_method_6_code, exceptionTable := #[], attributes := #[] }
def k6m0 : Method := { name := "meets", desc := "(Lcom/example/castellan/castellan/config/AssuranceLevel;)Z", sig := { parameters := [(.object "com/example/castellan/castellan/config/AssuranceLevel")], returnType := some .boolean }, accessFlags := 1, code := some k6c0 }
/-- com/example/castellan/castellan/config/AssuranceLevel -/
def k6 : Class := { plain "com/example/castellan/castellan/config/AssuranceLevel" (some 5) with
  accessFlags := 16433
  interfaces := #[]
  cf := some (fileOf pool6 1 #[] #[{ accessFlags := 1, nameIndex := 98, descriptorIndex := 99, attributes := #[] }] 16433 23 #[] #[{ accessFlags := 16409, nameIndex := 5, descriptorIndex := 6, attributes := #[] }, { accessFlags := 16409, nameIndex := 9, descriptorIndex := 6, attributes := #[] }, { accessFlags := 16409, nameIndex := 12, descriptorIndex := 6, attributes := #[] }, { accessFlags := 18, nameIndex := 34, descriptorIndex := 35, attributes := #[] }, { accessFlags := 4122, nameIndex := 15, descriptorIndex := 16, attributes := #[] }])
  fields := #[{ name := "LOW", type := (.object "com/example/castellan/castellan/config/AssuranceLevel"), accessFlags := 16409, slot := 0, constantValue := 0 }, { name := "SUBSTANTIAL", type := (.object "com/example/castellan/castellan/config/AssuranceLevel"), accessFlags := 16409, slot := 1, constantValue := 0 }, { name := "HIGH", type := (.object "com/example/castellan/castellan/config/AssuranceLevel"), accessFlags := 16409, slot := 2, constantValue := 0 }, { name := "value", type := (.object "java/lang/String"), accessFlags := 18, slot := 3, constantValue := 0 }, { name := "$VALUES", type := (.array (.object "com/example/castellan/castellan/config/AssuranceLevel")), accessFlags := 4122, slot := 3, constantValue := 0 }]
  methods := #[k6m0]
  instanceTypes := #[(.object "java/lang/String"), .int, .int, (.object "java/lang/String")]
  staticTypes := #[(.object "com/example/castellan/castellan/config/AssuranceLevel"), (.object "com/example/castellan/castellan/config/AssuranceLevel"), (.object "com/example/castellan/castellan/config/AssuranceLevel"), (.array (.object "com/example/castellan/castellan/config/AssuranceLevel"))]
  resolved := Array.replicate 105 none
  mirror := some 1
  statics := some 0 }

def pool7 : Array CpInfo := pool [(1, u "java/lang/Class"), (0, .class_ 1), (0, u "java/lang/Object"), (0, .class_ 3)] 0

/-- java/lang/Class -/
def k7 : Class := { plain "java/lang/Class" (some 0) with
  accessFlags := 49
  interfaces := #[]
  cf := some (fileOf pool7 2 #[] #[] 49 4 #[] #[])
  fields := #[]
  methods := #[]
  instanceTypes := #[]
  staticTypes := #[]
  resolved := Array.replicate 5 none
  statics := none }

def pool8 : Array CpInfo := pool [(1, u "java/lang/Cloneable"), (0, .class_ 1), (0, u "java/lang/Object"), (0, .class_ 3)] 3

/-- java/lang/Cloneable -/
def k8 : Class := { plain "java/lang/Cloneable" (some 0) with
  accessFlags := 1537
  interfaces := #[]
  cf := some (fileOf pool8 2 #[] #[] 1537 4 #[] #[])
  fields := #[]
  methods := #[]
  instanceTypes := #[]
  staticTypes := #[]
  resolved := Array.replicate 8 none
  statics := none }

/-- the primitive byte -/
def k9 : Class := { plain "byte" none with kind := .primitive 'B', accessFlags := 0x411 }
/-- [B -/
def k10 : Class := { plain "[B" (some 0) with kind := .array 9 .byte, interfaces := #[8, 4], accessFlags := 1041 }

/-- the primitive int -/
def k11 : Class := { plain "int" none with kind := .primitive 'I', accessFlags := 0x411 }
/-- [I -/
def k12 : Class := { plain "[I" (some 0) with kind := .array 11 .int, interfaces := #[8, 4], accessFlags := 1041 }

def heap : Heap := #[{ cls := 6, slots := #[.ref 2, .ref 3, .ref 4, .null], vm := .statics 6 },
  { cls := 7, slots := #[], vm := .mirror 6 },
  { cls := 6, slots := #[.null, .int 0, .int 0, .null], vm := .none },
  { cls := 6, slots := #[.null, .int 1, .int 0, .null], vm := .none },
  { cls := 6, slots := #[.null, .int 2, .int 0, .null], vm := .none }]
def classes : Array Class := #[k0, k1, k2, k3, k4, k5, k6, k7, k8, k9, k10, k11, k12]
def interned : List (Array UInt16 × Addr) := []
def slotsUsed : Nat := 16
def theMethod : MethodId := ⟨1, 2⟩
def args0 : Array Value := #[.int 5, .int 7]
def aboutOver (below : List Frame) : State where
  vm := { classes := classes, interned := interned.toArray }
  heap := heap
  slotsUsed := slotsUsed
  threads := #[{ frames := .invoking theMethod args0 :: below }]
def below0 : List Frame := [.native { method := ⟨0, 0⟩, args := #[] }]
def about1 : State := aboutOver below0
def p0 : Program := .bare "" "" ""
def e0 : Env := launch0.env 0 0 0
theorem w_frames : about1.frames = Frame.invoking theMethod args0 :: below0 := rfl
set_option maxRecDepth 65536 in
theorem w_args : argsFit about1.vm theMethod args0 = true := by decide +kernel
set_option maxRecDepth 65536 in
theorem w_heap : heapFits about1 = true := by decide +kernel
set_option maxRecDepth 65536 in
theorem w_runnable : about1.curStatus? = some .runnable := by decide +kernel
set_option maxRecDepth 65536 in
theorem w_alone : about1.alone = true := by decide +kernel
set_option maxRecDepth 65536 in
theorem w_named : about1.methodNamed? x = some theMethod := by decide +kernel
set_option maxRecDepth 65536 in
theorem w_hears : about1.hears theMethod below0 = true := by decide +kernel
set_option maxRecDepth 65536 in
theorem w_ripe : about1.ripe theMethod args0 below0 = true := by decide +kernel
theorem w_running : about1.status = .running := rfl
set_option maxRecDepth 65536 in
theorem w_room : about1.hasRoom e0.platform room_1 = true :=
  launch0.hasRoom_least _ room_1 (by decide +kernel) (by decide +kernel) (by decide +kernel) (by decide +kernel) (by decide +kernel) (by decide +kernel)
theorem allAtoms_all (ts : List Jvm.Cond) (a : Array Jvm.Value) (st : Jvm.State) : (allAtoms ts).before a st = ts.all (fun c => c.before a st) := by
  induction ts with
  | nil => rfl
  | cons c t ih =>
    show (Jvm.Cond.and c (allAtoms t)).before a st = _
    rw [Jvm.Cond.before_and, ih, List.all_cons]
def words1 : List Jvm.Cond := Jvm.Cond.code x code maxLocals ret :: tables_1
/-- a 'code' word, met by the world's own term for the bytes: nothing is compared byte by byte -/
theorem code_word {y : MethodName} {bytes : ByteArray} {mx : Nat} {rt : Option FieldType} {a : Array Value} {s : State} {m : MethodId} {meth : Method} {c : Code} (h1 : s.methodNamed? y = some m) (h2 : s.vm.method? m = some meth) (h3 : meth.code = some c) (h4 : c.code = bytes)
    (h5 : (c.maxLocals == mx && c.exceptionTable.isEmpty && decide (c.maxStack ≤ mostOperands) && decide (meth.sig.returnType = rt) && !meth.locks && decide (parseMethodDescriptor y.desc = some meth.sig)) = true) : (Jvm.Cond.code y bytes mx rt).before a s = true := by
  simp only [Bool.and_eq_true, beq_iff_eq, Bool.not_eq_true', decide_eq_true_eq] at h5
  obtain ⟨⟨⟨⟨⟨g1, g2⟩, g3⟩, g4⟩, g5⟩, g6⟩ := h5
  simp [Cond.before, Cond.holds, Cond.value, h1, h2, h3, h4, g1, g2, g3, g4, g5, g6]
def isCode : Jvm.Cond → Bool
  | .code _ _ _ _ => true
  | _ => false
theorem all_split {L : List Jvm.Cond} {P : Jvm.Cond → Bool} (h1 : L.all (fun c => isCode c || P c) = true) (h2 : ∀ c ∈ L.filter isCode, P c = true) : L.all P = true := by
  refine List.all_eq_true.mpr fun c hc => ?_
  have h := List.all_eq_true.mp h1 c hc
  rcases Bool.eq_false_or_eq_true (isCode c) with hi | hi
  · exact h2 c (List.mem_filter.mpr ⟨hc, hi⟩)
  · simpa [hi] using h
set_option maxRecDepth 65536 in
theorem w_c0 : (Jvm.Cond.code x code maxLocals ret).before args0 about1 = true := code_word (m := ⟨1, 2⟩) (meth := k1m2) (c := k1c2) (by decide +kernel) rfl rfl rfl (by decide +kernel)
set_option maxRecDepth 65536 in
theorem w_c1 : (Jvm.Cond.code ({ cls := "com/example/castellan/castellan/config/AssuranceLevelMeetsPinLaw", name := "level", desc := "(I)Lcom/example/castellan/castellan/config/AssuranceLevel;" } : Jvm.MethodName) method_2_code (1 : Nat) (Option.some (Jvm.ClassFile.FieldType.object "com/example/castellan/castellan/config/AssuranceLevel"))).before args0 about1 = true := code_word (m := ⟨1, 1⟩) (meth := k1m1) (c := k1c1) (by decide +kernel) rfl rfl rfl (by decide +kernel)
set_option maxRecDepth 65536 in
theorem w_c2 : (Jvm.Cond.code ({ cls := "com/example/castellan/castellan/config/AssuranceLevel", name := "meets", desc := "(Lcom/example/castellan/castellan/config/AssuranceLevel;)Z" } : Jvm.MethodName) prog_1_method_6_code (2 : Nat) (Option.some Jvm.ClassFile.FieldType.boolean)).before args0 about1 = true := code_word (m := ⟨6, 0⟩) (meth := k6m0) (c := k6c0) (by decide +kernel) rfl rfl rfl (by decide +kernel)
set_option maxRecDepth 65536 in
theorem w_c3 : (Jvm.Cond.code ({ cls := "java/lang/Enum", name := "compareTo", desc := "(Ljava/lang/Enum;)I" } : Jvm.MethodName) jdk_37_method_8_code (4 : Nat) (Option.some Jvm.ClassFile.FieldType.int)).before args0 about1 = true := code_word (m := ⟨5, 0⟩) (meth := k5m0) (c := k5c0) (by decide +kernel) rfl rfl rfl (by decide +kernel)
def codes1 : List Jvm.Cond := [Jvm.Cond.code x code maxLocals ret, Jvm.Cond.code ({ cls := "com/example/castellan/castellan/config/AssuranceLevelMeetsPinLaw", name := "level", desc := "(I)Lcom/example/castellan/castellan/config/AssuranceLevel;" } : Jvm.MethodName) method_2_code (1 : Nat) (Option.some (Jvm.ClassFile.FieldType.object "com/example/castellan/castellan/config/AssuranceLevel")), Jvm.Cond.code ({ cls := "com/example/castellan/castellan/config/AssuranceLevel", name := "meets", desc := "(Lcom/example/castellan/castellan/config/AssuranceLevel;)Z" } : Jvm.MethodName) prog_1_method_6_code (2 : Nat) (Option.some Jvm.ClassFile.FieldType.boolean), Jvm.Cond.code ({ cls := "java/lang/Enum", name := "compareTo", desc := "(Ljava/lang/Enum;)I" } : Jvm.MethodName) jdk_37_method_8_code (4 : Nat) (Option.some Jvm.ClassFile.FieldType.int)]
set_option maxRecDepth 65536 in
theorem codes_eq : words1.filter isCode = codes1 := rfl
theorem w_codes : ∀ c ∈ words1.filter isCode, c.before args0 about1 = true := by
  rw [codes_eq]
  intro c hc
  simp only [codes1, List.mem_cons, List.not_mem_nil, or_false] at hc
  rcases hc with rfl | rfl | rfl | rfl
  · exact w_c0
  · exact w_c1
  · exact w_c2
  · exact w_c3
set_option maxRecDepth 65536 in
theorem w_t1 : (words1.take 24).all (fun c => isCode c || c.before args0 about1) = true := by decide +kernel
set_option maxRecDepth 65536 in
theorem w_t2 : (words1.drop 24).all (fun c => isCode c || c.before args0 about1) = true := by decide +kernel
theorem w_tables : (allAtoms (Jvm.Cond.code x code maxLocals ret :: tables_1)).before args0 about1 = true := by
  rw [allAtoms_all]
  show words1.all (fun c => c.before args0 about1) = true
  refine all_split ?_ w_codes
  rw [← List.take_append_drop 24 words1, List.all_append, w_t1, w_t2]
  rfl
set_option maxRecDepth 65536 in
theorem w_case : (Jvm.Cond.and given_1 narrow_1).before args0 about1 = true := by decide +kernel
theorem w_applies : (headSpec (Jvm.Cond.code x code maxLocals ret :: tables_1) room_1).applies x e0.platform about1 = true :=
  (Spec.applies_iff w_frames).mpr ⟨w_running, w_runnable, w_alone, w_named, w_hears, w_ripe, w_room, w_tables⟩
theorem atStart : AtStart classFile x code maxLocals ret World_1 tables_1 room_1 Calls_1 rest_1 Pre_1 launch0 p0 e0 about1 theMethod args0 below0 :=
  ⟨lists_1, trivial, launch0.admits_env _ _ _, launch0.least_env, fairChoices_fair.cas, fairChoices_fair.clock, w_frames, w_args, w_heap, w_applies, ⟨⟨6, k6, 1, by decide +kernel, rfl, rfl, _, rfl, rfl⟩, trivial⟩, trivial, w_case⟩
end start1
theorem witness_1 : WitnessClaimed_1 := ⟨start1.p0, start1.e0, start1.about1, start1.theMethod, start1.args0, start1.below0, start1.atStart⟩
end Jvm.Pilot.@@N@@
