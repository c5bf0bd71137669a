import JvmDerived
import JvmDerived.Pilot.@@N@@Statement
import JvmDerived.Pilot.@@N@@Code
set_option linter.unusedVariables false
set_option linter.unusedSimpArgs false
namespace Jvm.OwnKit
open Jvm Sem ClassFile Op Lib Jvm.Stand Jvm.Free Jvm.LawKit Jvm.RoadKit
section Own
variable {p : Program} {l : Launch} {e : Env} {R : Room} {s : State} {m : MethodId} {args : Array Value} {below : List Frame} {meth : Method} {c : Code} {T : State} {locs : List Loc} {cells slots : Nat} {Z : State} {a0 : Array Value} {h h' : Heap}
/-- the walk from A on comes to an end that says Q -/
def Goes (tb : Tables) (e : Env) (below : List Frame) (Q : State → Outcome → Prop) (A : State) : Prop := ∃ t o, Steps tb e below A t ∧ t.status = .running ∧ Ended t below o ∧ Q t o
theorem Goes.via {tb : Tables} {Q : State → Outcome → Prop} {A B : State} (st : ∀ t, Steps tb e below B t → Steps tb e below A t) (k : Goes tb e below Q B) : Goes tb e below Q A := by
  obtain ⟨t, o, h, r⟩ := k; exact ⟨t, o, st t h, r⟩
/-- what a contract says at one start: the arguments as', the heap h -/
abbrev Ctr (l : Launch) (Z : State) (y : MethodName) (bytes : ByteArray) (maxL : Nat) (ret : Option FieldType) (rm : Room) (as' : Array Value) (h : Heap) (Q : Option Value → Heap → List Loc → Prop) (ws : List Cond) : Prop :=
  MetFree l y (head1 (Cond.code y bytes maxL ret :: ws) rm) (fun a U => a = as' ∧ Z.Warmed39 U.vm ∧ U.heap = h) (fun _ _ _ _ _ => True) (fun _ U o U' => ∃ v L, o = .returned v ∧ Q v U'.heap L ∧ FrameEnd U o U' L rm.cells rm.slots)
/-- what a contract says of a body that may make String constants -/
abbrev CtrW (l : Launch) (Z : State) (y : MethodName) (bytes : ByteArray) (maxL : Nat) (ret : Option FieldType) (rm : Room) (as' : Array Value) (h : Heap) (Q : Option Value → Heap → List Loc → Prop) (ws : List Cond) : Prop :=
  MetFree l y (head1 (Cond.code y bytes maxL ret :: ws) rm) (fun a U => a = as' ∧ Z.Warmed39 U.vm ∧ U.heap = h) (fun _ _ _ _ _ => True) (fun _ U o U' => ∃ v L, o = .returned v ∧ Q v U'.heap L ∧ ReturnedEndW U o U' L rm.cells rm.slots)
/-- the leave of a walk, in either frame F -/
def Lv (F : State → Outcome → State → List Loc → Nat → Nat → Prop) (e : Env) (s : State) (m : MethodId) (below : List Frame) (meth : Method) (T : State) (locs : List Loc) (C S : Nat) : Prop :=
  ∀ v : Option Value, (meth.sig.returnType = none → v = none) → ∃ fs, (∀ (f : JFrame) (acts : List Action), f.method = m → f.locked = none → f.entered = [] → (doReturn e (T.setTop f) acts v).1 = T.setFrames fs) ∧ (T.setFrames fs).status = .running ∧ Ended (T.setFrames fs) below (.returned v) ∧ F s (.returned v) (T.setFrames fs) locs C S
theorem lvN (X : Stand p l e R s m args below meth c T locs cells slots) (hlocks : meth.locks = false) {C S : Nat} (hc : cells ≤ C) (hs : slots ≤ S) : Lv FrameEnd e s m below meth T locs C S := fun v hv => by
  obtain ⟨fs, hr, hrun, hended, hW, hsame⟩ := X.leave hv hlocks
  exact ⟨fs, hr, hrun, hended, ⟨_, rfl⟩, hW, hsame.mono hc hs⟩
theorem lvW {vm0 : Vm} {k0 : Nat} (X : Stand p l e R (s.setVm vm0) m args below meth c T locs cells slots) (hlocks : meth.locks = false) (hS : s.Since vm0 k0) (eT : T.heap = h) (hk : k0 ≤ h.size) {C S : Nat} (hc : cells ≤ C) (hs : slots ≤ S) : Lv ReturnedEndW e s m below meth T locs C S := fun v hv => by
  obtain ⟨fs, hr, hrun, hended, h1, h2, h3, h4⟩ := X.leaveW hS (eT ▸ hk) hv hlocks
  exact ⟨fs, hr, hrun, hended, h1, h2, h3, h4.mono hc hs⟩
theorem fin {F : State → Outcome → State → List Loc → Nat → Nat → Prop} {v : Option Value} (hv : meth.sig.returnType = none → v = none) {A : State}
    (hk : ∀ fs, (∀ (f : JFrame) (acts : List Action), f.method = m → f.locked = none → f.entered = [] → (doReturn e (T.setTop f) acts v).1 = T.setFrames fs) → Steps p.tables e below A (T.setFrames fs))
    {Q : Option Value → Heap → List Loc → Prop} {C S : Nat} (eT : T.heap = h) (hQ : Q v h locs) (lv : Lv F e s m below meth T locs C S) :
    Goes p.tables e below (fun t o => ∃ v L, o = .returned v ∧ Q v t.heap L ∧ F s o t L C S) A := by
  obtain ⟨fs, hr, hrun, hended, hF⟩ := lv v hv
  subst eT
  exact ⟨_, _, hk fs hr, hrun, hended, v, locs, rfl, hQ, hF⟩
variable {sb : State} {F : State → Outcome → State → List Loc → Nat → Nat → Prop}
/-- return of nothing -/
theorem fin0 (X : Stand p l e R sb m args below meth c T locs cells slots) (hx : p.tables.exec = Jvm.exec) (hret : meth.sig.returnType = none) {pc : Nat} {Ls : Array Slot} (hd : decode c.code pc = .ok (.return_, 1))
    {Q : Option Value → Heap → List Loc → Prop} {C S : Nat} (eT : T.heap = h) (hQ : Q none h locs) (lv : Lv F e s m below meth T locs C S) :
    Goes p.tables e below (fun t o => ∃ v L, o = .returned v ∧ Q v t.heap L ∧ F s o t L C S) (T.setTop (mkF m pc Ls [])) :=
  fin (fun _ => rfl) (fun _ hl => X.returnOut hx hret hd hl) eT hQ lv
theorem finI (X : Stand p l e R sb m args below meth c T locs cells slots) (hx : p.tables.exec = Jvm.exec) (hret : meth.sig.returnType = some .int) {pc : Nat} {Ls : Array Slot} {st : List Value} {z : Int32} (hd : decode c.code pc = .ok (.ireturn, 1))
    {Q : Option Value → Heap → List Loc → Prop} {C S : Nat} (eT : T.heap = h) (hQ : Q (some (.int z)) h locs) (lv : Lv F e s m below meth T locs C S) :
    Goes p.tables e below (fun t o => ∃ v L, o = .returned v ∧ Q v t.heap L ∧ F s o t L C S) (T.setTop (mkF m pc Ls (.int z :: st))) :=
  fin (fun q => by rw [hret] at q; cases q) (fun _ hl => retOut X hx hret rfl (Or.inl ⟨rfl, Or.inl rfl, _, rfl⟩) hd hl) eT hQ lv
theorem finN (X : Stand p l e R sb m args below meth c T locs cells slots) (hx : p.tables.exec = Jvm.exec) {t : FieldType} (hret : meth.sig.returnType = some t) (ht : t = .boolean ∨ t = .byte ∨ t = .char ∨ t = .short) {pc : Nat} {Ls : Array Slot} {st : List Value} {z z' : Int32} (hz : nar t z = z') (hd : decode c.code pc = .ok (.ireturn, 1))
    {Q : Option Value → Heap → List Loc → Prop} {C S : Nat} (eT : T.heap = h) (hQ : Q (some (.int z')) h locs) (lv : Lv F e s m below meth T locs C S) :
    Goes p.tables e below (fun t o => ∃ v L, o = .returned v ∧ Q v t.heap L ∧ F s o t L C S) (T.setTop (mkF m pc Ls (.int z :: st))) :=
  fin (fun q => by rw [hret] at q; cases q) (fun _ hl => by subst hz; exact retN X hx hret ht hd hl) eT hQ lv
theorem finJ (X : Stand p l e R sb m args below meth c T locs cells slots) (hx : p.tables.exec = Jvm.exec) (hret : meth.sig.returnType = some .long) {pc : Nat} {Ls : Array Slot} {st : List Value} {z : Int64} (hd : decode c.code pc = .ok (.lreturn, 1))
    {Q : Option Value → Heap → List Loc → Prop} {C S : Nat} (eT : T.heap = h) (hQ : Q (some (.long z)) h locs) (lv : Lv F e s m below meth T locs C S) :
    Goes p.tables e below (fun t o => ∃ v L, o = .returned v ∧ Q v t.heap L ∧ F s o t L C S) (T.setTop (mkF m pc Ls (.long z :: st))) :=
  fin (fun q => by rw [hret] at q; cases q) (fun _ hl => retOut X hx hret rfl (Or.inr (Or.inl ⟨rfl, rfl, _, rfl⟩)) hd hl) eT hQ lv
theorem finA (X : Stand p l e R sb m args below meth c T locs cells slots) (hx : p.tables.exec = Jvm.exec) {t : FieldType} (hret : meth.sig.returnType = some t) (ht : t.isReference = true) {pc : Nat} {Ls : Array Slot} {st : List Value} {w : Value} (hw : w.isRef = true) (hn : narrow t w = w) (hd : decode c.code pc = .ok (.areturn, 1))
    {Q : Option Value → Heap → List Loc → Prop} {C S : Nat} (eT : T.heap = h) (hQ : Q (some w) h locs) (lv : Lv F e s m below meth T locs C S) :
    Goes p.tables e below (fun t o => ∃ v L, o = .returned v ∧ Q v t.heap L ∧ F s o t L C S) (T.setTop (mkF m pc Ls (w :: st))) :=
  fin (fun q => by rw [hret] at q; cases q) (fun _ hl => retOut X hx hret hn (Or.inr (Or.inr (Or.inr (Or.inr ⟨rfl, ht, hw⟩)))) hd hl) eT hQ lv
theorem nar_ref {t : FieldType} {w : Value} (ht : t.isReference = true) (hw : w.isRef = true) : narrow t w = w := by cases t <;> first | (cases ht; done) | (cases w <;> first | rfl | (cases hw; done))
theorem fit_ref {t : FieldType} {w : Value} (ht : t.isReference = true) (hw : w.isRef = true) : fits t w = true := by cases t <;> first | (cases ht; done) | (cases w <;> first | rfl | (cases hw; done))
theorem old_le {n0 : Nat} (O : Old Z n0 h) : n0 ≤ h.size := O.1 ▸ O.2.1
/-- a callee's law, in the one shape -/
abbrev BackQ (l : Launch) (R : Room) (p : Program) (e : Env) (below : List Frame) (s : State) (args : Array Value) (y : MethodName) (W : Nat) (as' : Array Value) (h : Heap) (kc ks : Nat) (Q : Option Value → Heap → List Loc → Prop) : Prop :=
  Back l R p e below s args y 3 W (fun A a => a = as' ∧ A.U.heap = h ∧ A.cells + kc ≤ R.cells ∧ A.slots + ks ≤ R.slots) (fun A _ v B => ∃ L, Q v B.U.heap L ∧ B.locs = A.locs ++ L ∧ B.cells = A.cells + kc ∧ B.slots = A.slots + ks)
theorem callStaticB (X : Stand p l e R s m args below meth c T locs cells slots) (hx : p.tables.exec = Jvm.exec) (hZ : Z.Warmed39 s.vm) {own : String} {index : Nat} {y : MethodName} {bytes : ByteArray} {maxL : Nat} {ret : Option FieldType} {kc ks : Nat} {Q : Option Value → Heap → List Loc → Prop}
    (hown : s.vm.findClass own = some m.cls) (w1 : (Cond.methodLink own index y).before a0 Z = true) (w2 : (Cond.static y).before a0 Z = true) (w3 : (Cond.initialized y.cls).before a0 Z = true) (w4 : (Cond.code y bytes maxL ret).before a0 Z = true)
    (hy : y.cls ≠ "java/lang/invoke/MethodHandle" ∧ y.cls ≠ "java/lang/invoke/VarHandle") {argsL rest : List Value} {W : Nat} (hK : BackQ l R p e below s args y W argsL.toArray h kc ks Q) (eT : T.heap = h)
    (hlen : ∀ sig, parseMethodDescriptor y.desc = some sig → argsL.length = sig.parameters.length) {pc : Nat} {Ls : Array Slot} {st : List Value} (hst : st = argsL.reverse ++ rest) (hsz : Ls.size = c.maxLocals) (hd : decode c.code pc = .ok (.invokestatic index, 3))
    (hW : (rest.map fun v => v.category).sum ≤ W) (hce : cells + kc ≤ R.cells) (hsl : slots + ks ≤ R.slots) :
    ∃ v T' L, Stand p l e R s m args below meth c T' (locs ++ L) (cells + kc) (slots + ks) ∧ Q v T'.heap L ∧ ∀ t, Steps p.tables e below (T'.setTop (mkF m (pc + 3) Ls (v.toList ++ rest))) t → Steps p.tables e below (T.setTop (mkF m pc Ls st)) t := by
  obtain ⟨v, _, ⟨T', L', k', n'⟩, -, X', ⟨L, hQ, l1, l2, l3⟩, st'⟩ := Jvm.LawKit.callS X hx hown (mvT hZ w1) (mvT hZ w2) (mvT hZ w3) (mvT hZ w4) hy hK (g := mkF m pc Ls st) rfl hsz (argsL := argsL) (rest := rest) hlen hst (by show 2 * 0 + _ ≤ _; omega) hd (fun _ _ => ⟨rfl, eT, hce, hsl⟩)
  dsimp only [Pt.U, Pt.locs, Pt.cells, Pt.slots] at X' l1 l2 l3 st' hQ
  subst l1 l2 l3
  exact ⟨v, T', L, X', hQ, st'⟩
theorem callStatic (X : Stand p l e R s m args below meth c T locs cells slots) (hx : p.tables.exec = Jvm.exec) (hZ : Z.Warmed39 s.vm) {own : String} {index : Nat} {y : MethodName} {bytes : ByteArray} {maxL : Nat} {ret : Option FieldType} {rm : Room} {Q : Option Value → Heap → List Loc → Prop}
    (hown : s.vm.findClass own = some m.cls) (w1 : (Cond.methodLink own index y).before a0 Z = true) (w2 : (Cond.static y).before a0 Z = true) (w3 : (Cond.initialized y.cls).before a0 Z = true) (w4 : (Cond.code y bytes maxL ret).before a0 Z = true)
    (hy : y.cls ≠ "java/lang/invoke/MethodHandle" ∧ y.cls ≠ "java/lang/invoke/VarHandle") {argsL rest : List Value} (hM : Ctr l Z y bytes maxL ret rm argsL.toArray h Q []) (eT : T.heap = h)
    (hlen : ∀ sig, parseMethodDescriptor y.desc = some sig → argsL.length = sig.parameters.length) {pc W : Nat} {Ls : Array Slot} {st : List Value} (hst : st = argsL.reverse ++ rest) (hsz : Ls.size = c.maxLocals) (hd : decode c.code pc = .ok (.invokestatic index, 3))
    (hW : (rest.map fun v => v.category).sum ≤ W) (hfr : rm.frames + 1 ≤ R.frames) (hlo : W + (maxL + 11) + rm.locals ≤ R.locals) (hce : cells + rm.cells ≤ R.cells) (hsl : slots + rm.slots ≤ R.slots) :
    ∃ v T' L, Stand p l e R s m args below meth c T' (locs ++ L) (cells + rm.cells) (slots + rm.slots) ∧ Q v T'.heap L ∧ ∀ t, Steps p.tables e below (T'.setTop (mkF m (pc + 3) Ls (v.toList ++ rest))) t → Steps p.tables e below (T.setTop (mkF m pc Ls st)) t :=
  callStaticB X hx hZ hown w1 w2 w3 w4 hy (backOf (W := W) hM hZ w4 w3 hfr hlo) eT hlen hst hsz hd hW hce hsl
theorem callInitB (X : Stand p l e R s m args below meth c T locs cells slots) (hx : p.tables.exec = Jvm.exec) (hZ : Z.Warmed39 s.vm) {own : String} {index : Nat} {y : MethodName} {bytes : ByteArray} {maxL : Nat} {kc ks : Nat} {Q : Option Value → Heap → List Loc → Prop} (hy1 : y.name = "<init>")
    (hown : s.vm.findClass own = some m.cls) (w1 : (Cond.methodLink own index y).before a0 Z = true) (w2 : (Cond.instanceMethod y).before a0 Z = true) (w4 : (Cond.code y bytes maxL none).before a0 Z = true)
    (hy : y.cls ≠ "java/lang/invoke/MethodHandle" ∧ y.cls ≠ "java/lang/invoke/VarHandle") {a : Addr} {argsL rest : List Value} {W : Nat} (hK : BackQ l R p e below s args y W (.ref a :: argsL).toArray h kc ks Q) (eT : T.heap = h)
    (hlen : ∀ sig, parseMethodDescriptor y.desc = some sig → argsL.length = sig.parameters.length) {pc : Nat} {Ls : Array Slot} {st : List Value} (hst : st = argsL.reverse ++ .ref a :: rest) (hsz : Ls.size = c.maxLocals) (hd : decode c.code pc = .ok (.invokespecial index, 3))
    (hW : (rest.map fun v => v.category).sum ≤ W) (hce : cells + kc ≤ R.cells) (hsl : slots + ks ≤ R.slots) :
    ∃ v T' L, Stand p l e R s m args below meth c T' (locs ++ L) (cells + kc) (slots + ks) ∧ Q v T'.heap L ∧ ∀ t, Steps p.tables e below (T'.setTop (mkF m (pc + 3) Ls (v.toList ++ rest))) t → Steps p.tables e below (T.setTop (mkF m pc Ls st)) t := by
  obtain ⟨v, _, ⟨T', L', k', n'⟩, -, X', ⟨L, hQ, l1, l2, l3⟩, st'⟩ := X.specialBack hx hy1 hown (mvT hZ w1) (mvT hZ w2) (mvT hZ w4) hy hK (g := mkF m pc Ls st) rfl hsz (Steps.refl _) (a := a) (argsL := argsL) (rest := rest) hlen hst (by show 2 * 0 + _ ≤ _; omega) hd (fun _ _ => ⟨rfl, eT, hce, hsl⟩)
  dsimp only [Pt.U, Pt.locs, Pt.cells, Pt.slots] at X' l1 l2 l3 st' hQ
  subst l1 l2 l3
  exact ⟨v, T', L, X', hQ, fun t k => st'.trans k⟩
theorem callInit (X : Stand p l e R s m args below meth c T locs cells slots) (hx : p.tables.exec = Jvm.exec) (hZ : Z.Warmed39 s.vm) {own : String} {index : Nat} {y : MethodName} {bytes : ByteArray} {maxL : Nat} {rm : Room} {Q : Option Value → Heap → List Loc → Prop} (hy1 : y.name = "<init>")
    (hown : s.vm.findClass own = some m.cls) (w1 : (Cond.methodLink own index y).before a0 Z = true) (w2 : (Cond.instanceMethod y).before a0 Z = true) (w3 : (Cond.initialized y.cls).before a0 Z = true) (w4 : (Cond.code y bytes maxL none).before a0 Z = true)
    (hy : y.cls ≠ "java/lang/invoke/MethodHandle" ∧ y.cls ≠ "java/lang/invoke/VarHandle") {a : Addr} {argsL rest : List Value} (hM : Ctr l Z y bytes maxL none rm (.ref a :: argsL).toArray h Q []) (eT : T.heap = h)
    (hlen : ∀ sig, parseMethodDescriptor y.desc = some sig → argsL.length = sig.parameters.length) {pc W : Nat} {Ls : Array Slot} {st : List Value} (hst : st = argsL.reverse ++ .ref a :: rest) (hsz : Ls.size = c.maxLocals) (hd : decode c.code pc = .ok (.invokespecial index, 3))
    (hW : (rest.map fun v => v.category).sum ≤ W) (hfr : rm.frames + 1 ≤ R.frames) (hlo : W + (maxL + 11) + rm.locals ≤ R.locals) (hce : cells + rm.cells ≤ R.cells) (hsl : slots + rm.slots ≤ R.slots) :
    ∃ v T' L, Stand p l e R s m args below meth c T' (locs ++ L) (cells + rm.cells) (slots + rm.slots) ∧ Q v T'.heap L ∧ ∀ t, Steps p.tables e below (T'.setTop (mkF m (pc + 3) Ls (v.toList ++ rest))) t → Steps p.tables e below (T.setTop (mkF m pc Ls st)) t :=
  callInitB X hx hZ hy1 hown w1 w2 w4 hy (backOf (W := W) hM hZ w4 w3 hfr hlo) eT hlen hst hsz hd hW hce hsl
theorem callVirtB (X : Stand p l e R s m args below meth c T locs cells slots) (hx : p.tables.exec = Jvm.exec) (hZ : Z.Warmed39 s.vm) {own C : String} {index : Nat} {y z : MethodName} {kc ks : Nat} {Q : Option Value → Heap → List Loc → Prop}
    (hown : s.vm.findClass own = some m.cls) (w1 : (Cond.methodLink own index y).before a0 Z = true) (w2 : (Cond.declares y).before a0 Z = true) (w5 : (Cond.selects C y z).before a0 Z = true) (hnf : NotFace s y) (w6 : (Cond.instanceMethod z).before a0 Z = true)
    (hy : y.cls ≠ "java/lang/invoke/MethodHandle" ∧ y.cls ≠ "java/lang/invoke/VarHandle") {a : Addr} {argsL rest : List Value} {W : Nat} (hK : BackQ l R p e below s args z W (.ref a :: argsL).toArray h kc ks Q) (eT : T.heap = h) (E : Exa Z h a C)
    (hlen : ∀ sig, parseMethodDescriptor y.desc = some sig → argsL.length = sig.parameters.length) {pc : Nat} {Ls : Array Slot} {st : List Value} (hst : st = argsL.reverse ++ .ref a :: rest) (hsz : Ls.size = c.maxLocals) (hd : decode c.code pc = .ok (.invokevirtual index, 3))
    (hW : (rest.map fun v => v.category).sum ≤ W) (hce : cells + kc ≤ R.cells) (hsl : slots + ks ≤ R.slots) :
    ∃ v T' L, Stand p l e R s m args below meth c T' (locs ++ L) (cells + kc) (slots + ks) ∧ Q v T'.heap L ∧ ∀ t, Steps p.tables e below (T'.setTop (mkF m (pc + 3) Ls (v.toList ++ rest))) t → Steps p.tables e below (T.setTop (mkF m pc Ls st)) t := by
  obtain ⟨cB, kB, q1, -, q3⟩ := isOf hZ eT E
  obtain ⟨v, _, ⟨T', L', k', n'⟩, -, X', ⟨L, hQ, l1, l2, l3⟩, st'⟩ := X.virtualBack hx hown (mvT hZ w1) (mvT hZ w2) hnf (mvT hZ w5) (mvT hZ w6) hy hK q1 q3 (g := mkF m pc Ls st) rfl hsz (Steps.refl _) (argsL := argsL) (rest := rest) hlen hst (by show 2 * 0 + _ ≤ _; omega) hd (fun _ _ => ⟨rfl, eT, hce, hsl⟩)
  dsimp only [Pt.U, Pt.locs, Pt.cells, Pt.slots] at X' l1 l2 l3 st' hQ
  subst l1 l2 l3
  exact ⟨v, T', L, X', hQ, fun t k => st'.trans k⟩
theorem callVirt (X : Stand p l e R s m args below meth c T locs cells slots) (hx : p.tables.exec = Jvm.exec) (hZ : Z.Warmed39 s.vm) {own C : String} {index : Nat} {y z : MethodName} {bytes : ByteArray} {maxL : Nat} {ret : Option FieldType} {rm : Room} {Q : Option Value → Heap → List Loc → Prop}
    (hown : s.vm.findClass own = some m.cls) (w1 : (Cond.methodLink own index y).before a0 Z = true) (w2 : (Cond.declares y).before a0 Z = true) (w5 : (Cond.selects C y z).before a0 Z = true) (hnf : NotFace s y) (w6 : (Cond.instanceMethod z).before a0 Z = true) (w3 : (Cond.initialized z.cls).before a0 Z = true) (w4 : (Cond.code z bytes maxL ret).before a0 Z = true)
    (hy : y.cls ≠ "java/lang/invoke/MethodHandle" ∧ y.cls ≠ "java/lang/invoke/VarHandle") {a : Addr} {argsL rest : List Value} (hM : Ctr l Z z bytes maxL ret rm (.ref a :: argsL).toArray h Q []) (eT : T.heap = h) (E : Exa Z h a C)
    (hlen : ∀ sig, parseMethodDescriptor y.desc = some sig → argsL.length = sig.parameters.length) {pc W : Nat} {Ls : Array Slot} {st : List Value} (hst : st = argsL.reverse ++ .ref a :: rest) (hsz : Ls.size = c.maxLocals) (hd : decode c.code pc = .ok (.invokevirtual index, 3))
    (hW : (rest.map fun v => v.category).sum ≤ W) (hfr : rm.frames + 1 ≤ R.frames) (hlo : W + (maxL + 11) + rm.locals ≤ R.locals) (hce : cells + rm.cells ≤ R.cells) (hsl : slots + rm.slots ≤ R.slots) :
    ∃ v T' L, Stand p l e R s m args below meth c T' (locs ++ L) (cells + rm.cells) (slots + rm.slots) ∧ Q v T'.heap L ∧ ∀ t, Steps p.tables e below (T'.setTop (mkF m (pc + 3) Ls (v.toList ++ rest))) t → Steps p.tables e below (T.setTop (mkF m pc Ls st)) t :=
  callVirtB X hx hZ hown w1 w2 w5 hnf w6 hy (backOf (W := W) hM hZ w4 w3 hfr hlo) eT E hlen hst hsz hd hW hce hsl
theorem callVirtUpB (X : Stand p l e R s m args below meth c T locs cells slots) (hx : p.tables.exec = Jvm.exec) (hZ : Z.Warmed39 s.vm) {own C owner : String} {index : Nat} {y z : MethodName} {kc ks : Nat} {Q : Option Value → Heap → List Loc → Prop}
    (hown : s.vm.findClass own = some m.cls) (w1 : (Cond.methodLink own index y).before a0 Z = true) (w7 : (Cond.sameMethod y.cls owner y.name y.desc).before a0 Z = true) (w2 : (Cond.declares ⟨owner, y.name, y.desc⟩).before a0 Z = true) (w5 : (Cond.selects C y z).before a0 Z = true) (w6 : (Cond.instanceMethod z).before a0 Z = true)
    (hy : owner ≠ "java/lang/invoke/MethodHandle" ∧ owner ≠ "java/lang/invoke/VarHandle") {a : Addr} {argsL rest : List Value} {W : Nat} (hK : BackQ l R p e below s args z W (.ref a :: argsL).toArray h kc ks Q) (eT : T.heap = h) (E : Exa Z h a C)
    (hlen : ∀ sig, parseMethodDescriptor y.desc = some sig → argsL.length = sig.parameters.length) {pc : Nat} {Ls : Array Slot} {st : List Value} (hst : st = argsL.reverse ++ .ref a :: rest) (hsz : Ls.size = c.maxLocals) (hd : decode c.code pc = .ok (.invokevirtual index, 3))
    (hW : (rest.map fun v => v.category).sum ≤ W) (hce : cells + kc ≤ R.cells) (hsl : slots + ks ≤ R.slots) :
    ∃ v T' L, Stand p l e R s m args below meth c T' (locs ++ L) (cells + kc) (slots + ks) ∧ Q v T'.heap L ∧ ∀ t, Steps p.tables e below (T'.setTop (mkF m (pc + 3) Ls (v.toList ++ rest))) t → Steps p.tables e below (T.setTop (mkF m pc Ls st)) t := by
  obtain ⟨cB, kB, q1, -, q3⟩ := isOf hZ eT E
  obtain ⟨v, _, ⟨T', L', k', n'⟩, -, X', ⟨L, hQ, l1, l2, l3⟩, st'⟩ := X.virtualBackUp hx hown (mvT hZ w1) (mvT hZ w7) (mvT hZ w2) hy (mvT hZ w5) (mvT hZ w6) hK q1 q3 (g := mkF m pc Ls st) rfl hsz (Steps.refl _) (argsL := argsL) (rest := rest) hlen hst (by show 2 * 0 + _ ≤ _; omega) hd (fun _ _ => ⟨rfl, eT, hce, hsl⟩)
  dsimp only [Pt.U, Pt.locs, Pt.cells, Pt.slots] at X' l1 l2 l3 st' hQ
  subst l1 l2 l3
  exact ⟨v, T', L, X', hQ, fun t k => st'.trans k⟩
theorem callVirtUp (X : Stand p l e R s m args below meth c T locs cells slots) (hx : p.tables.exec = Jvm.exec) (hZ : Z.Warmed39 s.vm) {own C owner : String} {index : Nat} {y z : MethodName} {bytes : ByteArray} {maxL : Nat} {ret : Option FieldType} {rm : Room} {Q : Option Value → Heap → List Loc → Prop}
    (hown : s.vm.findClass own = some m.cls) (w1 : (Cond.methodLink own index y).before a0 Z = true) (w7 : (Cond.sameMethod y.cls owner y.name y.desc).before a0 Z = true) (w2 : (Cond.declares ⟨owner, y.name, y.desc⟩).before a0 Z = true) (w5 : (Cond.selects C y z).before a0 Z = true) (w6 : (Cond.instanceMethod z).before a0 Z = true) (w3 : (Cond.initialized z.cls).before a0 Z = true) (w4 : (Cond.code z bytes maxL ret).before a0 Z = true)
    (hy : owner ≠ "java/lang/invoke/MethodHandle" ∧ owner ≠ "java/lang/invoke/VarHandle") {a : Addr} {argsL rest : List Value} (hM : Ctr l Z z bytes maxL ret rm (.ref a :: argsL).toArray h Q []) (eT : T.heap = h) (E : Exa Z h a C)
    (hlen : ∀ sig, parseMethodDescriptor y.desc = some sig → argsL.length = sig.parameters.length) {pc W : Nat} {Ls : Array Slot} {st : List Value} (hst : st = argsL.reverse ++ .ref a :: rest) (hsz : Ls.size = c.maxLocals) (hd : decode c.code pc = .ok (.invokevirtual index, 3))
    (hW : (rest.map fun v => v.category).sum ≤ W) (hfr : rm.frames + 1 ≤ R.frames) (hlo : W + (maxL + 11) + rm.locals ≤ R.locals) (hce : cells + rm.cells ≤ R.cells) (hsl : slots + rm.slots ≤ R.slots) :
    ∃ v T' L, Stand p l e R s m args below meth c T' (locs ++ L) (cells + rm.cells) (slots + rm.slots) ∧ Q v T'.heap L ∧ ∀ t, Steps p.tables e below (T'.setTop (mkF m (pc + 3) Ls (v.toList ++ rest))) t → Steps p.tables e below (T.setTop (mkF m pc Ls st)) t :=
  callVirtUpB X hx hZ hown w1 w7 w2 w5 w6 hy (backOf (W := W) hM hZ w4 w3 hfr hlo) eT E hlen hst hsz hd hW hce hsl
/-- invokevirtual of a private method -/
theorem callPrivB (X : Stand p l e R s m args below meth c T locs cells slots) (hx : p.tables.exec = Jvm.exec) (hZ : Z.Warmed39 s.vm) {own C : String} {index : Nat} {y : MethodName} {bytes : ByteArray} {maxL : Nat} {ret : Option FieldType} {kc ks : Nat} {Q : Option Value → Heap → List Loc → Prop}
    (hown : s.vm.findClass own = some m.cls) (w1 : (Cond.methodLink own index y).before a0 Z = true) (w2 : (Cond.instanceMethod y).before a0 Z = true) (w3 : (Cond.selects y.cls y y).before a0 Z = true) (w5 : (Cond.privateMethod y).before a0 Z = true) (w4 : (Cond.code y bytes maxL ret).before a0 Z = true)
    (hy : y.cls ≠ "java/lang/invoke/MethodHandle" ∧ y.cls ≠ "java/lang/invoke/VarHandle") {a : Addr} {argsL rest : List Value} {W : Nat} (hK : BackQ l R p e below s args y W (.ref a :: argsL).toArray h kc ks Q) (eT : T.heap = h) (E : Exa Z h a C)
    (hlen : ∀ sig, parseMethodDescriptor y.desc = some sig → argsL.length = sig.parameters.length) {pc : Nat} {Ls : Array Slot} {st : List Value} (hst : st = argsL.reverse ++ .ref a :: rest) (hsz : Ls.size = c.maxLocals) (hd : decode c.code pc = .ok (.invokevirtual index, 3))
    (hW : (rest.map fun v => v.category).sum ≤ W) (hce : cells + kc ≤ R.cells) (hsl : slots + ks ≤ R.slots) :
    ∃ v T' L, Stand p l e R s m args below meth c T' (locs ++ L) (cells + kc) (slots + ks) ∧ Q v T'.heap L ∧ ∀ t, Steps p.tables e below (T'.setTop (mkF m (pc + 3) Ls (v.toList ++ rest))) t → Steps p.tables e below (T.setTop (mkF m pc Ls st)) t := by
  obtain ⟨cell, q1, q2⟩ := Exa.cell E
  obtain ⟨v, _, ⟨T', L', k', n'⟩, -, X', ⟨L, hQ, l1, l2, l3⟩, st'⟩ := X.privateBack hx hown (mvT hZ w1) (mvT hZ w2) (mvT hZ w3) (Cond.privateMethod_at (args := args) (mvP hZ w5)) (mvT hZ w4) hy hK (g := mkF m pc Ls st) rfl hsz (Steps.refl _) (a := a) (by rw [eT]; exact q1) q2 (argsL := argsL) (rest := rest) hlen hst (by show 2 * 0 + _ ≤ _; omega) hd (fun _ _ => ⟨rfl, eT, hce, hsl⟩)
  dsimp only [Pt.U, Pt.locs, Pt.cells, Pt.slots] at X' l1 l2 l3 st' hQ
  subst l1 l2 l3
  exact ⟨v, T', L, X', hQ, fun t k => st'.trans k⟩
theorem callPriv (X : Stand p l e R s m args below meth c T locs cells slots) (hx : p.tables.exec = Jvm.exec) (hZ : Z.Warmed39 s.vm) {own C : String} {index : Nat} {y : MethodName} {bytes : ByteArray} {maxL : Nat} {ret : Option FieldType} {rm : Room} {Q : Option Value → Heap → List Loc → Prop}
    (hown : s.vm.findClass own = some m.cls) (w1 : (Cond.methodLink own index y).before a0 Z = true) (w2 : (Cond.instanceMethod y).before a0 Z = true) (w5 : (Cond.selects y.cls y y).before a0 Z = true) (w6 : (Cond.privateMethod y).before a0 Z = true) (w3 : (Cond.initialized y.cls).before a0 Z = true) (w4 : (Cond.code y bytes maxL ret).before a0 Z = true)
    (hy : y.cls ≠ "java/lang/invoke/MethodHandle" ∧ y.cls ≠ "java/lang/invoke/VarHandle") {a : Addr} {argsL rest : List Value} (hM : Ctr l Z y bytes maxL ret rm (.ref a :: argsL).toArray h Q []) (eT : T.heap = h) (E : Exa Z h a C)
    (hlen : ∀ sig, parseMethodDescriptor y.desc = some sig → argsL.length = sig.parameters.length) {pc W : Nat} {Ls : Array Slot} {st : List Value} (hst : st = argsL.reverse ++ .ref a :: rest) (hsz : Ls.size = c.maxLocals) (hd : decode c.code pc = .ok (.invokevirtual index, 3))
    (hW : (rest.map fun v => v.category).sum ≤ W) (hfr : rm.frames + 1 ≤ R.frames) (hlo : W + (maxL + 11) + rm.locals ≤ R.locals) (hce : cells + rm.cells ≤ R.cells) (hsl : slots + rm.slots ≤ R.slots) :
    ∃ v T' L, Stand p l e R s m args below meth c T' (locs ++ L) (cells + rm.cells) (slots + rm.slots) ∧ Q v T'.heap L ∧ ∀ t, Steps p.tables e below (T'.setTop (mkF m (pc + 3) Ls (v.toList ++ rest))) t → Steps p.tables e below (T.setTop (mkF m pc Ls st)) t :=
  callPrivB X hx hZ hown w1 w2 w5 w6 w4 hy (backOf (W := W) hM hZ w4 w3 hfr hlo) eT E hlen hst hsz hd hW hce hsl
abbrev BackQ5 (l : Launch) (R : Room) (p : Program) (e : Env) (below : List Frame) (s : State) (args : Array Value) (y : MethodName) (W : Nat) (as' : Array Value) (h : Heap) (kc ks : Nat) (Q : Option Value → Heap → List Loc → Prop) : Prop :=
  Back l R p e below s args y 5 W (fun A a => a = as' ∧ A.U.heap = h ∧ A.cells + kc ≤ R.cells ∧ A.slots + ks ≤ R.slots) (fun A _ v B => ∃ L, Q v B.U.heap L ∧ B.locs = A.locs ++ L ∧ B.cells = A.cells + kc ∧ B.slots = A.slots + ks)
theorem callFaceB (X : Stand p l e R s m args below meth c T locs cells slots) (hx : p.tables.exec = Jvm.exec) (hZ : Z.Warmed39 s.vm) {own C : String} {index count : Nat} {y z : MethodName} {kc ks : Nat} {Q : Option Value → Heap → List Loc → Prop}
    (hown : s.vm.findClass own = some m.cls) (w1 : (Cond.methodLink own index y).before a0 Z = true) (w2 : (Cond.declares y).before a0 Z = true) (w3 : (Cond.interfaceMethod y.cls y.cls y.name y.desc).before args s = true) (w5 : (Cond.selects C y z).before a0 Z = true) (w6 : (Cond.instanceMethod z).before a0 Z = true)
    (w7 : (Cond.publicMethod z).before a0 Z = true) (w8 : (Cond.unhidden C y.name y.desc).before a0 Z = true) (w9 : (Cond.castable C y.cls).before a0 Z = true)
    (hy : y.cls ≠ "java/lang/invoke/MethodHandle" ∧ y.cls ≠ "java/lang/invoke/VarHandle") {a : Addr} {argsL rest : List Value} {W : Nat} (hK : BackQ5 l R p e below s args z W (.ref a :: argsL).toArray h kc ks Q) (eT : T.heap = h) (E : Exa Z h a C)
    (hlen : ∀ sig, parseMethodDescriptor y.desc = some sig → argsL.length = sig.parameters.length) {pc : Nat} {Ls : Array Slot} {st : List Value} (hst : st = argsL.reverse ++ .ref a :: rest) (hsz : Ls.size = c.maxLocals) (hd : decode c.code pc = .ok (.invokeinterface index count, 5))
    (hW : (rest.map fun v => v.category).sum ≤ W) (hce : cells + kc ≤ R.cells) (hsl : slots + ks ≤ R.slots) :
    ∃ v T' L, Stand p l e R s m args below meth c T' (locs ++ L) (cells + kc) (slots + ks) ∧ Q v T'.heap L ∧ ∀ t, Steps p.tables e below (T'.setTop (mkF m (pc + 5) Ls (v.toList ++ rest))) t → Steps p.tables e below (T.setTop (mkF m pc Ls st)) t := by
  obtain ⟨cB, kB, q1, q2, q3⟩ := isOf hZ eT E
  obtain ⟨v, _, ⟨T', L', k', n'⟩, -, X', ⟨L, hQ, l1, l2, l3⟩, st'⟩ := X.interfaceBack hx hown (mvT hZ w1) (mvT hZ w2) w3 (mvT hZ w5) (mvT hZ w6) (mvT hZ w7) (mvT hZ w8) (mvT hZ w9) hy hK q1 q2 q3 (g := mkF m pc Ls st) rfl hsz (Steps.refl _) (argsL := argsL) (rest := rest) hlen hst (by show 2 * 0 + _ ≤ _; omega) hd (fun _ _ => ⟨rfl, eT, hce, hsl⟩)
  dsimp only [Pt.U, Pt.locs, Pt.cells, Pt.slots] at X' l1 l2 l3 st' hQ
  subst l1 l2 l3
  exact ⟨v, T', L, X', hQ, fun t k => st'.trans k⟩
theorem callFace (X : Stand p l e R s m args below meth c T locs cells slots) (hx : p.tables.exec = Jvm.exec) (hZ : Z.Warmed39 s.vm) {own C : String} {index count : Nat} {y z : MethodName} {bytes : ByteArray} {maxL : Nat} {ret : Option FieldType} {rm : Room} {Q : Option Value → Heap → List Loc → Prop}
    (hown : s.vm.findClass own = some m.cls) (w1 : (Cond.methodLink own index y).before a0 Z = true) (w2 : (Cond.declares y).before a0 Z = true) (wi : (Cond.interfaceMethod y.cls y.cls y.name y.desc).before args s = true) (w5 : (Cond.selects C y z).before a0 Z = true) (w6 : (Cond.instanceMethod z).before a0 Z = true)
    (w7 : (Cond.publicMethod z).before a0 Z = true) (w8 : (Cond.unhidden C y.name y.desc).before a0 Z = true) (w9 : (Cond.castable C y.cls).before a0 Z = true) (w3 : (Cond.initialized z.cls).before a0 Z = true) (w4 : (Cond.code z bytes maxL ret).before a0 Z = true)
    (hy : y.cls ≠ "java/lang/invoke/MethodHandle" ∧ y.cls ≠ "java/lang/invoke/VarHandle") {a : Addr} {argsL rest : List Value} (hM : Ctr l Z z bytes maxL ret rm (.ref a :: argsL).toArray h Q []) (eT : T.heap = h) (E : Exa Z h a C)
    (hlen : ∀ sig, parseMethodDescriptor y.desc = some sig → argsL.length = sig.parameters.length) {pc W : Nat} {Ls : Array Slot} {st : List Value} (hst : st = argsL.reverse ++ .ref a :: rest) (hsz : Ls.size = c.maxLocals) (hd : decode c.code pc = .ok (.invokeinterface index count, 5))
    (hW : (rest.map fun v => v.category).sum ≤ W) (hfr : rm.frames + 1 ≤ R.frames) (hlo : W + (maxL + 11) + rm.locals ≤ R.locals) (hce : cells + rm.cells ≤ R.cells) (hsl : slots + rm.slots ≤ R.slots) :
    ∃ v T' L, Stand p l e R s m args below meth c T' (locs ++ L) (cells + rm.cells) (slots + rm.slots) ∧ Q v T'.heap L ∧ ∀ t, Steps p.tables e below (T'.setTop (mkF m (pc + 5) Ls (v.toList ++ rest))) t → Steps p.tables e below (T.setTop (mkF m pc Ls st)) t :=
  callFaceB X hx hZ hown w1 w2 wi w5 w6 w7 w8 w9 hy (backOf (W := W) hM hZ w4 w3 hfr hlo) eT E hlen hst hsz hd hW hce hsl
theorem callStaticW {vm0 : Vm} {k0 : Nat} (X : Stand p l e R (s.setVm vm0) m args below meth c T locs cells slots) (hx : p.tables.exec = Jvm.exec) (hZ : Z.Warmed39 vm0) (hS : s.Since vm0 k0) (hk : k0 ≤ h.size) {own : String} {index : Nat} {y : MethodName} {bytes : ByteArray} {maxL : Nat} {ret : Option FieldType} {rm : Room} {Q : Option Value → Heap → List Loc → Prop}
    (hown : vm0.findClass own = some m.cls) (w1 : (Cond.methodLink own index y).before a0 Z = true) (w2 : (Cond.static y).before a0 Z = true) (w3 : (Cond.initialized y.cls).before a0 Z = true) (w4 : (Cond.code y bytes maxL ret).before a0 Z = true)
    (hy : y.cls ≠ "java/lang/invoke/MethodHandle" ∧ y.cls ≠ "java/lang/invoke/VarHandle") {argsL rest : List Value} (hM : CtrW l Z y bytes maxL ret rm argsL.toArray h Q []) (eT : T.heap = h)
    (hlen : ∀ sig, parseMethodDescriptor y.desc = some sig → argsL.length = sig.parameters.length) {pc W : Nat} {Ls : Array Slot} {st : List Value} (hst : st = argsL.reverse ++ rest) (hsz : Ls.size = c.maxLocals) (hd : decode c.code pc = .ok (.invokestatic index, 3))
    (hW : (rest.map fun v => v.category).sum ≤ W) (hfr : rm.frames + 1 ≤ R.frames) (hlo : W + (maxL + 11) + rm.locals ≤ R.locals) (hce : cells + rm.cells ≤ R.cells) (hsl : slots + rm.slots ≤ R.slots) :
    ∃ v T' L, Stand p l e R (s.setVm T'.vm) m args below meth c T' (locs ++ L) (cells + rm.cells) (slots + rm.slots) ∧ s.Since T'.vm T'.heap.size ∧ Z.Warmed39 T'.vm ∧ T'.vm.findClass own = some m.cls ∧ Q v T'.heap L ∧ ∀ t, Steps p.tables e below (T'.setTop (mkF m (pc + 3) Ls (v.toList ++ rest))) t → Steps p.tables e below (T.setTop (mkF m pc Ls st)) t := by
  obtain ⟨v, _, ⟨T', L', k', n'⟩, -, X', hS', hg', ⟨L, hQ, l1, l2, l3⟩, st'⟩ := callSS X hx hown (mvT (s := s.setVm vm0) hZ w1) (mvT (s := s.setVm vm0) hZ w2) (mvT (s := s.setVm vm0) hZ w3) (mvT (s := s.setVm vm0) hZ w4) hy (backOfS (W := W) hM (s := s.setVm vm0) hZ w4 w3 hfr hlo) (g := mkF m pc Ls st) rfl hsz (argsL := argsL) (rest := rest) hlen hst (by show 2 * 0 + _ ≤ _; omega) hd (fun _ _ => ⟨rfl, eT, hce, hsl⟩)
  dsimp only [Pt.U, Pt.locs, Pt.cells, Pt.slots] at X' hS' hg' l1 l2 l3 st' hQ
  subst l1 l2 l3
  exact ⟨v, T', L, X', hS.trans hS' (Nat.le_trans hk (eT ▸ hg')), State.Warmed39.trans (t := s.setVm vm0) hZ hS'.1, by rw [hS'.1.alike.findClass]; exact hown, hQ, fun t k => st'.trans k⟩
theorem callInitW {vm0 : Vm} {k0 : Nat} (X : Stand p l e R (s.setVm vm0) m args below meth c T locs cells slots) (hx : p.tables.exec = Jvm.exec) (hZ : Z.Warmed39 vm0) (hS : s.Since vm0 k0) (hk : k0 ≤ h.size) {own : String} {index : Nat} {y : MethodName} {bytes : ByteArray} {maxL : Nat} {rm : Room} {Q : Option Value → Heap → List Loc → Prop} (hy1 : y.name = "<init>")
    (hown : vm0.findClass own = some m.cls) (w1 : (Cond.methodLink own index y).before a0 Z = true) (w2 : (Cond.instanceMethod y).before a0 Z = true) (w3 : (Cond.initialized y.cls).before a0 Z = true) (w4 : (Cond.code y bytes maxL none).before a0 Z = true)
    (hy : y.cls ≠ "java/lang/invoke/MethodHandle" ∧ y.cls ≠ "java/lang/invoke/VarHandle") {a : Addr} {argsL rest : List Value} (hM : CtrW l Z y bytes maxL none rm (.ref a :: argsL).toArray h Q []) (eT : T.heap = h)
    (hlen : ∀ sig, parseMethodDescriptor y.desc = some sig → argsL.length = sig.parameters.length) {pc W : Nat} {Ls : Array Slot} {st : List Value} (hst : st = argsL.reverse ++ .ref a :: rest) (hsz : Ls.size = c.maxLocals) (hd : decode c.code pc = .ok (.invokespecial index, 3))
    (hW : (rest.map fun v => v.category).sum ≤ W) (hfr : rm.frames + 1 ≤ R.frames) (hlo : W + (maxL + 11) + rm.locals ≤ R.locals) (hce : cells + rm.cells ≤ R.cells) (hsl : slots + rm.slots ≤ R.slots) :
    ∃ v T' L, Stand p l e R (s.setVm T'.vm) m args below meth c T' (locs ++ L) (cells + rm.cells) (slots + rm.slots) ∧ s.Since T'.vm T'.heap.size ∧ Z.Warmed39 T'.vm ∧ T'.vm.findClass own = some m.cls ∧ Q v T'.heap L ∧ ∀ t, Steps p.tables e below (T'.setTop (mkF m (pc + 3) Ls (v.toList ++ rest))) t → Steps p.tables e below (T.setTop (mkF m pc Ls st)) t := by
  obtain ⟨v, _, ⟨T', L', k', n'⟩, -, X', hS', hg', ⟨L, hQ, l1, l2, l3⟩, st'⟩ := X.specialBackS hx hy1 hown (mvT (s := s.setVm vm0) hZ w1) (mvT (s := s.setVm vm0) hZ w2) (mvT (s := s.setVm vm0) hZ w4) hy (backOfS (W := W) hM (s := s.setVm vm0) hZ w4 w3 hfr hlo) (g := mkF m pc Ls st) rfl hsz (Steps.refl _) (a := a) (argsL := argsL) (rest := rest) hlen hst (by show 2 * 0 + _ ≤ _; omega) hd (fun _ _ => ⟨rfl, eT, hce, hsl⟩)
  dsimp only [Pt.U, Pt.locs, Pt.cells, Pt.slots] at X' hS' hg' l1 l2 l3 st' hQ
  subst l1 l2 l3
  exact ⟨v, T', L, X', hS.trans hS' (Nat.le_trans hk (eT ▸ hg')), State.Warmed39.trans (t := s.setVm vm0) hZ hS'.1, by rw [hS'.1.alike.findClass]; exact hown, hQ, fun t k => st'.trans k⟩
theorem callVirtW {vm0 : Vm} {k0 : Nat} (X : Stand p l e R (s.setVm vm0) m args below meth c T locs cells slots) (hx : p.tables.exec = Jvm.exec) (hZ : Z.Warmed39 vm0) (hS : s.Since vm0 k0) (hk : k0 ≤ h.size) {own C : String} {index : Nat} {y z : MethodName} {bytes : ByteArray} {maxL : Nat} {ret : Option FieldType} {rm : Room} {Q : Option Value → Heap → List Loc → Prop}
    (hown : vm0.findClass own = some m.cls) (w1 : (Cond.methodLink own index y).before a0 Z = true) (w2 : (Cond.declares y).before a0 Z = true) (w5 : (Cond.selects C y z).before a0 Z = true) (hnf : NotFace (s.setVm vm0) y) (w6 : (Cond.instanceMethod z).before a0 Z = true) (w3 : (Cond.initialized z.cls).before a0 Z = true) (w4 : (Cond.code z bytes maxL ret).before a0 Z = true)
    (hy : y.cls ≠ "java/lang/invoke/MethodHandle" ∧ y.cls ≠ "java/lang/invoke/VarHandle") {a : Addr} {argsL rest : List Value} (hM : CtrW l Z z bytes maxL ret rm (.ref a :: argsL).toArray h Q []) (eT : T.heap = h) (E : Exa Z h a C)
    (hlen : ∀ sig, parseMethodDescriptor y.desc = some sig → argsL.length = sig.parameters.length) {pc W : Nat} {Ls : Array Slot} {st : List Value} (hst : st = argsL.reverse ++ .ref a :: rest) (hsz : Ls.size = c.maxLocals) (hd : decode c.code pc = .ok (.invokevirtual index, 3))
    (hW : (rest.map fun v => v.category).sum ≤ W) (hfr : rm.frames + 1 ≤ R.frames) (hlo : W + (maxL + 11) + rm.locals ≤ R.locals) (hce : cells + rm.cells ≤ R.cells) (hsl : slots + rm.slots ≤ R.slots) :
    ∃ v T' L, Stand p l e R (s.setVm T'.vm) m args below meth c T' (locs ++ L) (cells + rm.cells) (slots + rm.slots) ∧ s.Since T'.vm T'.heap.size ∧ Z.Warmed39 T'.vm ∧ T'.vm.findClass own = some m.cls ∧ Q v T'.heap L ∧ ∀ t, Steps p.tables e below (T'.setTop (mkF m (pc + 3) Ls (v.toList ++ rest))) t → Steps p.tables e below (T.setTop (mkF m pc Ls st)) t := by
  obtain ⟨cB, kB, q1, -, q3⟩ := isOf (s := s.setVm vm0) hZ eT E
  obtain ⟨v, _, ⟨T', L', k', n'⟩, -, X', hS', hg', ⟨L, hQ, l1, l2, l3⟩, st'⟩ := X.virtualBackS hx hown (mvT (s := s.setVm vm0) hZ w1) (mvT (s := s.setVm vm0) hZ w2) hnf (mvT (s := s.setVm vm0) hZ w5) (mvT (s := s.setVm vm0) hZ w6) hy (backOfS (W := W) hM (s := s.setVm vm0) hZ w4 w3 hfr hlo) q1 q3 (g := mkF m pc Ls st) rfl hsz (Steps.refl _) (argsL := argsL) (rest := rest) hlen hst (by show 2 * 0 + _ ≤ _; omega) hd (fun _ _ => ⟨rfl, eT, hce, hsl⟩)
  dsimp only [Pt.U, Pt.locs, Pt.cells, Pt.slots] at X' hS' hg' l1 l2 l3 st' hQ
  subst l1 l2 l3
  exact ⟨v, T', L, X', hS.trans hS' (Nat.le_trans hk (eT ▸ hg')), State.Warmed39.trans (t := s.setVm vm0) hZ hS'.1, by rw [hS'.1.alike.findClass]; exact hown, hQ, fun t k => st'.trans k⟩
/-- what a contract says of a body that may read the String constants of EL; sf: cells that are no constant's -/
abbrev CtrH (l : Launch) (Z : State) (EL : List (String × Nat)) (sf : List Addr) (y : MethodName) (bytes : ByteArray) (maxL : Nat) (ret : Option FieldType) (rm : Room) (as' : Array Value) (h : Heap) (Q : Option Value → Heap → List Loc → Prop) (ws : List Cond) : Prop :=
  MetFree l y (head1 (Cond.code y bytes maxL ret :: ws) rm) (fun a U => a = as' ∧ Z.Warmed39 U.vm ∧ U.heap = h ∧ CHv Z EL U.vm h ∧ ∀ x ∈ sf, Safe Z EL U.vm h x) (fun _ _ _ _ _ => True) (fun _ U o U' => ∃ v L, o = .returned v ∧ Q v U'.heap L ∧ CHr Z EL U.vm U.heap U'.vm U'.heap ∧ ReturnedEndW U o U' L rm.cells rm.slots)
/-- the frame of such a body -/
def EndH (Z : State) (EL : List (String × Nat)) (s : State) (o : Outcome) (t : State) (L : List Loc) (k n : Nat) : Prop := CHr Z EL s.vm s.heap t.vm t.heap ∧ ReturnedEndW s o t L k n
theorem lvH {EL : List (String × Nat)} {vm0 : Vm} {k0 : Nat} (X : Stand p l e R (s.setVm vm0) m args below meth c T locs cells slots) (hlocks : meth.locks = false) (hS : s.Since vm0 k0) (eT : T.heap = h) (hk : k0 ≤ h.size) (hZ : Z.Warmed39 vm0) (hEL : EW Z a0 EL) (hR : CHr Z EL s.vm s.heap vm0 h) {C S : Nat} (hc : cells ≤ C) (hs : slots ≤ S) : Lv (EndH Z EL) e s m below meth T locs C S := fun v hv => by
  obtain ⟨fs, hr, hrun, hended, h1, h2, h3, h4⟩ := X.leaveW hS (eT ▸ hk) hv hlocks
  refine ⟨fs, hr, hrun, hended, ?_, h1, h2, h3, h4.mono hc hs⟩
  have q := hR.trans (CHv.at X hZ hEL hR.1)
  subst eT
  exact q
theorem backH {EL : List (String × Nat)} {sf : List Addr} {vm0 : Vm} {y : MethodName} {bytes : ByteArray} {maxL : Nat} {ret : Option FieldType} {rm : Room} {len W : Nat} {as' : Array Value} {Q : Option Value → Heap → List Loc → Prop}
    (hM : CtrH l Z EL sf y bytes maxL ret rm as' h Q [])
    (hZ : Z.Warmed39 vm0) (wc : (Cond.code y bytes maxL ret).before a0 Z = true) (wz : (Cond.initialized y.cls).before a0 Z = true) (hf : rm.frames + 1 ≤ R.frames) (hl : W + (maxL + 11) + rm.locals ≤ R.locals) (hEL : EW Z a0 EL) (H : CHv Z EL vm0 h) (hsf : ∀ x ∈ sf, x < h.size ∧ Safe Z EL vm0 h x) :
    BackS l R p e below (s.setVm vm0) args y len W (fun A a => a = as' ∧ A.U.heap = h ∧ A.cells + rm.cells ≤ R.cells ∧ A.slots + rm.slots ≤ R.slots)
      (fun A _ v B => ∃ L, Q v B.U.heap L ∧ B.locs = A.locs ++ L ∧ B.cells = A.cells + rm.cells ∧ B.slots = A.slots + rm.slots ∧ CHr Z EL vm0 h B.U.vm B.U.heap) :=
  BackS.of_freeW (bytes := bytes) (maxL := maxL) (ret := ret) (E := fun _ first o t L k n => k = rm.cells ∧ n = rm.slots ∧ (∃ v, o = .returned v ∧ Q v t.heap L) ∧ CHr Z EL first.vm first.heap t.vm t.heap) hM hf hl
    (fun m meth c A a Y hp => have hU : Z.Warmed39 A.U.vm := wtrans (s := s.setVm vm0) hZ Y.warmed
      ⟨by show (Cond.and _ .tt).before a A.U = true; rw [Cond.before_and, mv hU wc]; rfl, mv hU wc, mv hU wz, hp.2.2.1, hp.2.2.2⟩)
    (fun m meth c A a g mk Y hp => ⟨hp.1, wtrans (s := s.setVm vm0) hZ Y.warmed, hp.2.1, (CHv.at Y hZ hEL H).1, fun x hx => (CHv.at Y hZ hEL H).safe (hsf x hx).1 (hsf x hx).2⟩) (fun _ _ _ _ _ _ _ _ _ => trivial)
    (fun _ _ _ _ ⟨v, L, h1, h2, h3, h4⟩ => ⟨L, _, _, h4, rfl, rfl, ⟨v, h1, h2⟩, h3⟩)
    (fun m meth c A a g mk v t L k n Y hp _ _ ⟨e1, e2, ⟨v', e3, e4⟩, e5⟩ => by
      cases e3; subst e1 e2
      refine ⟨L, e4, rfl, rfl, rfl, (CHv.at Y hZ hEL H).trans ?_⟩
      rw [← hp.2.1]; exact e5)
theorem callStaticH {EL : List (String × Nat)} {sf : List Addr} {vm0 : Vm} {k0 : Nat} (X : Stand p l e R (s.setVm vm0) m args below meth c T locs cells slots) (hx : p.tables.exec = Jvm.exec) (hZ : Z.Warmed39 vm0) (hS : s.Since vm0 k0) (hk : k0 ≤ h.size) (hEL : EW Z a0 EL) (H : CHv Z EL vm0 h) (hsf : ∀ x ∈ sf, x < h.size ∧ Safe Z EL vm0 h x) {own : String} {index : Nat} {y : MethodName} {bytes : ByteArray} {maxL : Nat} {ret : Option FieldType} {rm : Room} {Q : Option Value → Heap → List Loc → Prop}
    (hown : vm0.findClass own = some m.cls) (w1 : (Cond.methodLink own index y).before a0 Z = true) (w2 : (Cond.static y).before a0 Z = true) (w3 : (Cond.initialized y.cls).before a0 Z = true) (w4 : (Cond.code y bytes maxL ret).before a0 Z = true)
    (hy : y.cls ≠ "java/lang/invoke/MethodHandle" ∧ y.cls ≠ "java/lang/invoke/VarHandle") {argsL rest : List Value} (hM : CtrH l Z EL sf y bytes maxL ret rm argsL.toArray h Q []) (eT : T.heap = h)
    (hlen : ∀ sig, parseMethodDescriptor y.desc = some sig → argsL.length = sig.parameters.length) {pc W : Nat} {Ls : Array Slot} {st : List Value} (hst : st = argsL.reverse ++ rest) (hsz : Ls.size = c.maxLocals) (hd : decode c.code pc = .ok (.invokestatic index, 3))
    (hW : (rest.map fun v => v.category).sum ≤ W) (hfr : rm.frames + 1 ≤ R.frames) (hlo : W + (maxL + 11) + rm.locals ≤ R.locals) (hce : cells + rm.cells ≤ R.cells) (hsl : slots + rm.slots ≤ R.slots) :
    ∃ v T' L, Stand p l e R (s.setVm T'.vm) m args below meth c T' (locs ++ L) (cells + rm.cells) (slots + rm.slots) ∧ s.Since T'.vm T'.heap.size ∧ Z.Warmed39 T'.vm ∧ T'.vm.findClass own = some m.cls ∧ CHr Z EL vm0 h T'.vm T'.heap ∧ Q v T'.heap L ∧ ∀ t, Steps p.tables e below (T'.setTop (mkF m (pc + 3) Ls (v.toList ++ rest))) t → Steps p.tables e below (T.setTop (mkF m pc Ls st)) t := by
  obtain ⟨v, _, ⟨T', L', k', n'⟩, -, X', hS', hg', ⟨L, hQ, l1, l2, l3, hC⟩, st'⟩ := callSS X hx hown (mvT (s := s.setVm vm0) hZ w1) (mvT (s := s.setVm vm0) hZ w2) (mvT (s := s.setVm vm0) hZ w3) (mvT (s := s.setVm vm0) hZ w4) hy (backH (W := W) hM hZ w4 w3 hfr hlo hEL H hsf) (g := mkF m pc Ls st) rfl hsz (argsL := argsL) (rest := rest) hlen hst (by show 2 * 0 + _ ≤ _; omega) hd (fun _ _ => ⟨rfl, eT, hce, hsl⟩)
  dsimp only [Pt.U, Pt.locs, Pt.cells, Pt.slots] at X' hS' hg' l1 l2 l3 st' hQ hC
  subst l1 l2 l3
  exact ⟨v, T', L, X', hS.trans hS' (Nat.le_trans hk (eT ▸ hg')), State.Warmed39.trans (t := s.setVm vm0) hZ hS'.1, by rw [hS'.1.alike.findClass]; exact hown, hC, hQ, fun t k => st'.trans k⟩
theorem callInitH {EL : List (String × Nat)} {sf : List Addr} {vm0 : Vm} {k0 : Nat} (X : Stand p l e R (s.setVm vm0) m args below meth c T locs cells slots) (hx : p.tables.exec = Jvm.exec) (hZ : Z.Warmed39 vm0) (hS : s.Since vm0 k0) (hk : k0 ≤ h.size) (hEL : EW Z a0 EL) (H : CHv Z EL vm0 h) (hsf : ∀ x ∈ sf, x < h.size ∧ Safe Z EL vm0 h x) {own : String} {index : Nat} {y : MethodName} {bytes : ByteArray} {maxL : Nat} {rm : Room} {Q : Option Value → Heap → List Loc → Prop} (hy1 : y.name = "<init>")
    (hown : vm0.findClass own = some m.cls) (w1 : (Cond.methodLink own index y).before a0 Z = true) (w2 : (Cond.instanceMethod y).before a0 Z = true) (w3 : (Cond.initialized y.cls).before a0 Z = true) (w4 : (Cond.code y bytes maxL none).before a0 Z = true)
    (hy : y.cls ≠ "java/lang/invoke/MethodHandle" ∧ y.cls ≠ "java/lang/invoke/VarHandle") {a : Addr} {argsL rest : List Value} (hM : CtrH l Z EL sf y bytes maxL none rm (.ref a :: argsL).toArray h Q []) (eT : T.heap = h)
    (hlen : ∀ sig, parseMethodDescriptor y.desc = some sig → argsL.length = sig.parameters.length) {pc W : Nat} {Ls : Array Slot} {st : List Value} (hst : st = argsL.reverse ++ .ref a :: rest) (hsz : Ls.size = c.maxLocals) (hd : decode c.code pc = .ok (.invokespecial index, 3))
    (hW : (rest.map fun v => v.category).sum ≤ W) (hfr : rm.frames + 1 ≤ R.frames) (hlo : W + (maxL + 11) + rm.locals ≤ R.locals) (hce : cells + rm.cells ≤ R.cells) (hsl : slots + rm.slots ≤ R.slots) :
    ∃ v T' L, Stand p l e R (s.setVm T'.vm) m args below meth c T' (locs ++ L) (cells + rm.cells) (slots + rm.slots) ∧ s.Since T'.vm T'.heap.size ∧ Z.Warmed39 T'.vm ∧ T'.vm.findClass own = some m.cls ∧ CHr Z EL vm0 h T'.vm T'.heap ∧ Q v T'.heap L ∧ ∀ t, Steps p.tables e below (T'.setTop (mkF m (pc + 3) Ls (v.toList ++ rest))) t → Steps p.tables e below (T.setTop (mkF m pc Ls st)) t := by
  obtain ⟨v, _, ⟨T', L', k', n'⟩, -, X', hS', hg', ⟨L, hQ, l1, l2, l3, hC⟩, st'⟩ := X.specialBackS hx hy1 hown (mvT (s := s.setVm vm0) hZ w1) (mvT (s := s.setVm vm0) hZ w2) (mvT (s := s.setVm vm0) hZ w4) hy (backH (W := W) hM hZ w4 w3 hfr hlo hEL H hsf) (g := mkF m pc Ls st) rfl hsz (Steps.refl _) (a := a) (argsL := argsL) (rest := rest) hlen hst (by show 2 * 0 + _ ≤ _; omega) hd (fun _ _ => ⟨rfl, eT, hce, hsl⟩)
  dsimp only [Pt.U, Pt.locs, Pt.cells, Pt.slots] at X' hS' hg' l1 l2 l3 st' hQ hC
  subst l1 l2 l3
  exact ⟨v, T', L, X', hS.trans hS' (Nat.le_trans hk (eT ▸ hg')), State.Warmed39.trans (t := s.setVm vm0) hZ hS'.1, by rw [hS'.1.alike.findClass]; exact hown, hC, hQ, fun t k => st'.trans k⟩
theorem callVirtH {EL : List (String × Nat)} {sf : List Addr} {vm0 : Vm} {k0 : Nat} (X : Stand p l e R (s.setVm vm0) m args below meth c T locs cells slots) (hx : p.tables.exec = Jvm.exec) (hZ : Z.Warmed39 vm0) (hS : s.Since vm0 k0) (hk : k0 ≤ h.size) (hEL : EW Z a0 EL) (H : CHv Z EL vm0 h) (hsf : ∀ x ∈ sf, x < h.size ∧ Safe Z EL vm0 h x) {own C : String} {index : Nat} {y z : MethodName} {bytes : ByteArray} {maxL : Nat} {ret : Option FieldType} {rm : Room} {Q : Option Value → Heap → List Loc → Prop}
    (hown : vm0.findClass own = some m.cls) (w1 : (Cond.methodLink own index y).before a0 Z = true) (w2 : (Cond.declares y).before a0 Z = true) (w5 : (Cond.selects C y z).before a0 Z = true) (hnf : NotFace (s.setVm vm0) y) (w6 : (Cond.instanceMethod z).before a0 Z = true) (w3 : (Cond.initialized z.cls).before a0 Z = true) (w4 : (Cond.code z bytes maxL ret).before a0 Z = true)
    (hy : y.cls ≠ "java/lang/invoke/MethodHandle" ∧ y.cls ≠ "java/lang/invoke/VarHandle") {a : Addr} {argsL rest : List Value} (hM : CtrH l Z EL sf z bytes maxL ret rm (.ref a :: argsL).toArray h Q []) (eT : T.heap = h) (E : Exa Z h a C)
    (hlen : ∀ sig, parseMethodDescriptor y.desc = some sig → argsL.length = sig.parameters.length) {pc W : Nat} {Ls : Array Slot} {st : List Value} (hst : st = argsL.reverse ++ .ref a :: rest) (hsz : Ls.size = c.maxLocals) (hd : decode c.code pc = .ok (.invokevirtual index, 3))
    (hW : (rest.map fun v => v.category).sum ≤ W) (hfr : rm.frames + 1 ≤ R.frames) (hlo : W + (maxL + 11) + rm.locals ≤ R.locals) (hce : cells + rm.cells ≤ R.cells) (hsl : slots + rm.slots ≤ R.slots) :
    ∃ v T' L, Stand p l e R (s.setVm T'.vm) m args below meth c T' (locs ++ L) (cells + rm.cells) (slots + rm.slots) ∧ s.Since T'.vm T'.heap.size ∧ Z.Warmed39 T'.vm ∧ T'.vm.findClass own = some m.cls ∧ CHr Z EL vm0 h T'.vm T'.heap ∧ Q v T'.heap L ∧ ∀ t, Steps p.tables e below (T'.setTop (mkF m (pc + 3) Ls (v.toList ++ rest))) t → Steps p.tables e below (T.setTop (mkF m pc Ls st)) t := by
  obtain ⟨cB, kB, q1, -, q3⟩ := isOf (s := s.setVm vm0) hZ eT E
  obtain ⟨v, _, ⟨T', L', k', n'⟩, -, X', hS', hg', ⟨L, hQ, l1, l2, l3, hC⟩, st'⟩ := X.virtualBackS hx hown (mvT (s := s.setVm vm0) hZ w1) (mvT (s := s.setVm vm0) hZ w2) hnf (mvT (s := s.setVm vm0) hZ w5) (mvT (s := s.setVm vm0) hZ w6) hy (backH (W := W) hM hZ w4 w3 hfr hlo hEL H hsf) q1 q3 (g := mkF m pc Ls st) rfl hsz (Steps.refl _) (argsL := argsL) (rest := rest) hlen hst (by show 2 * 0 + _ ≤ _; omega) hd (fun _ _ => ⟨rfl, eT, hce, hsl⟩)
  dsimp only [Pt.U, Pt.locs, Pt.cells, Pt.slots] at X' hS' hg' l1 l2 l3 st' hQ hC
  subst l1 l2 l3
  exact ⟨v, T', L, X', hS.trans hS' (Nat.le_trans hk (eT ▸ hg')), State.Warmed39.trans (t := s.setVm vm0) hZ hS'.1, by rw [hS'.1.alike.findClass]; exact hown, hC, hQ, fun t k => st'.trans k⟩
theorem rebase {vm0 : Vm} {k0 : Nat} {own : String} (X : Stand p l e R (s.setVm vm0) m args below meth c T locs cells slots) (hS : s.Since vm0 k0) (eT : T.heap = h) (hk : k0 ≤ h.size) (hZ : Z.Warmed39 vm0) (hown : vm0.findClass own = some m.cls) :
    Stand p l e R (s.setVm T.vm) m args below meth c T locs cells slots ∧ s.Since T.vm h.size ∧ Z.Warmed39 T.vm ∧ T.vm.findClass own = some m.cls :=
  ⟨X.retabled X.warmed.wide, hS.trans (X.warmed.since h.size) hk, wtrans (s := s.setVm vm0) hZ X.warmed, by rw [X.warmed.wide.alike.findClass]; exact hown⟩
theorem fld_int {args : Array Value} {t : Term} {x : Addr} {C n d : String} {k : Int32} (ht : t.eval args s none [] s = some (.ref x)) (hq : (Cond.eq (Term.field t C n d) (Term.int k)).value args s none s [] = some true) : Fld s s.heap x C n d (.int k) :=
  Fld.start ((fld_at (C := C) (n := n) (dd := d) ht).symm.trans (eqv_i (Term.int_eval k) hq))
/-- the class C has its Class object, at mr -/
def Mirr (Z : State) (C : String) (mr : Addr) : Prop := ∃ (c : ClassId) (k : Class), Z.vm.findClass C = some c ∧ Z.vm.classes[c]? = some k ∧ k.mirror = some mr
theorem gclsS (X : Stand p l e R s m args below meth c T locs cells slots) (hx : p.tables.exec = Jvm.exec) (hZ : Z.Warmed39 s.vm) {own C : String} {index : Nat} (hown : s.vm.findClass own = some m.cls)
    (w1 : (Cond.methodLink own index ⟨"java/lang/Object", "getClass", "()Ljava/lang/Class;"⟩).before a0 Z = true) (w2 : (Cond.declares ⟨"java/lang/Object", "getClass", "()Ljava/lang/Class;"⟩).before a0 Z = true) (w4 : (Cond.selects C ⟨"java/lang/Object", "getClass", "()Ljava/lang/Class;"⟩ ⟨"java/lang/Object", "getClass", "()Ljava/lang/Class;"⟩).before a0 Z = true)
    (w5 : (Cond.instanceMethod ⟨"java/lang/Object", "getClass", "()Ljava/lang/Class;"⟩).before a0 Z = true) (w6 : (Cond.native ⟨"java/lang/Object", "getClass", "()Ljava/lang/Class;"⟩).before a0 Z = true) (eT : T.heap = h) {a : Addr} (E : Exa Z h a C) {mr : Addr} (M : Mirr Z C mr)
    {g : JFrame} (hg : g.method = m) (hsize : g.locals.size = c.maxLocals) {rest : List Value} (hs : g.stack = .ref a :: rest) (hd : decode c.code g.pc = .ok (.invokevirtual index, 3)) (hf : 1 ≤ R.frames) {W : Nat} (hW : 2 * g.monitorRoom + (rest.map fun v => v.category).sum ≤ W) (hl : W + (nativeFrameWords "java/lang/Object" "getClass" 1 + 11) ≤ R.locals) :
    ∃ T', Stand p l e R s m args below meth c T' locs cells slots ∧ T'.heap = h ∧ ∀ target, Steps p.tables e below (T'.setTop { g with pc := g.pc + 3, stack := .ref mr :: rest }) target → Steps p.tables e below (T.setTop g) target := by
  obtain ⟨cB, kB, i1, i2, i3⟩ := isOf hZ eT E
  obtain ⟨cc, kc, m1, m2, m3⟩ := M
  rw [hZ.alike.findClass] at i1
  cases i1.symm.trans m1
  obtain ⟨k', q, ek⟩ := hZ.alike.2.2 _ _ m2
  obtain ⟨vm', X', st⟩ := X.getClassOf hx hown (mvT hZ w1) (mvT hZ w2) (notFace_of_selects (args := #[]) (mvT hZ w4)) (mvT hZ w4) (mvT hZ w5) (mvT hZ w6) (by rw [hZ.alike.findClass]; exact m1) i3 q (by rw [ek]; exact m3) hg hsize hs hd hf (by omega)
  exact ⟨_, X', eT, st⟩
theorem len_is {args : Array Value} {t : Term} {a : Addr} {cl : Cell} {ty : FieldType} {k : Int32} (ht : t.eval args s none [] s = some (.ref a)) (A : Arr s s.heap a cl ty) (hq : (Cond.eq (Term.length t) (Term.int k)).value args s none s [] = some true) : cl.slots.size < 2 ^ 31 ∧ cl.slots.size.toInt32 = k := by
  have ha := A.fin (Vm.Alike.refl s.vm)
  by_cases hl : cl.slots.size < 2 ^ 31
  · exact ⟨hl, gotT (Cond.eq_ints (len_f ht ha hl) (Term.int_eval k)) hq⟩
  · obtain ⟨v, y, e1, -, -, -⟩ := cmp_v (Or.inl hq)
    simp [Term.eval, ht, ha] at e1
    omega
theorem sub_at {args : Array Value} {a b : Term} {idx : List Nat} {x y : Int32} (ha : a.eval args s none idx s = some (.int x)) (hb : b.eval args s none idx s = some (.int y)) : (Term.sub a b).eval args s none idx s = some (.int (x - y)) := by simp [Term.eval, ha, hb]
theorem own_nc (x : Int32) : nar .char (x &&& 255).toUInt32.toUInt16.toUInt32.toInt32 = x &&& 255 := by
  rw [i2c_mask]; exact i2c_mask x
theorem own_cr (x : Int32) : ¬ (x &&& 255) < 0 ∧ ¬ (255 : Int32) < (x &&& 255) := by
  have q := c_and x 255 (by decide)
  have e0 : (0 : Int32).toInt = 0 := rfl
  have e1 : (255 : Int32).toInt = 255 := rfl
  rw [Int32.lt_iff_toInt_lt, Int32.lt_iff_toInt_lt]; omega
theorem ns_root {O K : String} {n : Nat} (w : (Cond.noSuperclass O).before a0 Z = true) (wk : (Cond.instantiable K n).before a0 Z = true) (hn : O ≠ K) : NS Z O K := by
  obtain ⟨c, k, h1, h2, h3, -, -⟩ := Cond.noSuperclass_spec w
  obtain ⟨t, -, g1, -⟩ := Cond.instantiable_spec wk
  have ne := ids_ne h1 g1 hn
  refine ⟨c, t, h1, g1, fun fuel => ?_⟩
  cases fuel with
  | zero => rfl
  | succ f => simp [Vm.isSubclassAux, ne, h2, h3]
theorem ns_no {C S K : String} {n : Nat} (w : (Cond.superclass C S).before a0 Z = true) (wk : (Cond.instantiable K n).before a0 Z = true) (ns : NS Z C K) (hn : C ≠ K) : ∃ c t, Z.vm.findClass C = some c ∧ Z.vm.findClass K = some t ∧ Z.vm.assignable c t = false := by
  obtain ⟨c, t, h0, g0, n3⟩ := ns
  obtain ⟨p, k, kp, h1, h2, h3, h4, h5, -, h7⟩ := Cond.superclass_spec h0 w
  obtain ⟨t', k', g1, g2, g5, g6, -⟩ := Cond.instantiable_spec wk
  cases g0.symm.trans g1
  have g7 := (Bool.or_eq_false_iff.mp g6).1
  have ne := ids_ne h0 g0 hn
  refine ⟨c, t, h0, g0, ?_⟩
  show Z.vm.assignableAux (255 + 1) c t = false
  simp [Vm.assignableAux, ne, h2, g2, h5, g5, g7, Vm.isSubclass, n3]
end Own
end Jvm.OwnKit
namespace Jvm.Pilot.@@N@@
open Jvm Jvm.ClassFile Sem Op Lib Jvm.Free Jvm.Stand Jvm.LawKit Jvm.RoadKit Jvm.OwnKit Bundle Jvm.Pilot.@@N@@.Jvm.D
theorem own_max1 {x r : Int32} (h : r = if (1 : Int32) < (x &&& 2147483647) then (x &&& 2147483647) else 1) : 1 ≤ r.toInt := by
  have e1 : (1 : Int32).toInt = 1 := rfl
  subst h
  by_cases q : (1 : Int32) < (x &&& 2147483647)
  · rw [if_pos q]; rw [Int32.lt_iff_toInt_lt] at q; omega
  · rw [if_neg q]; decide
theorem own_ge1 {x : Int32} (h : 1 ≤ x.toInt) : ¬ x.toInt64 < (1 : Int64) := by
  have e1 : (1 : Int64).toInt = 1 := rfl
  rw [Int64.lt_iff_toInt_lt, c_i2l]; omega
theorem own_ge0 (x : Int32) : ¬ (x &&& 2147483647).toInt64 < (0 : Int64) := by
  have q := c_and x 2147483647 (by decide)
  have e1 : (0 : Int64).toInt = 0 := rfl
  rw [Int64.lt_iff_toInt_lt, c_i2l]; omega
theorem own_top (x : Int64) : ¬ (9223372036854775807 : Int64) < x := by
  have e1 : (9223372036854775807 : Int64).toInt = 9223372036854775807 := rfl
  have q := rng64 x
  rw [Int64.lt_iff_toInt_lt]; omega
theorem own_end {a b r : Int64} (h : r = if a < b then b else a) : ¬ r < a ∧ ¬ r < b ∧ (¬ r = a → r = b) := by
  subst h
  by_cases q : a < b
  · rw [if_pos q]
    refine ⟨fun z => ?_, fun z => ?_, fun _ => rfl⟩ <;> rw [Int64.lt_iff_toInt_lt] at * <;> omega
  · rw [if_neg q]
    refine ⟨fun z => ?_, q, fun z => absurd rfl z⟩
    rw [Int64.lt_iff_toInt_lt] at *; omega
theorem own_d_jdk_29_method_65_code_0 : decode jdk_29_method_65_code 0 = .ok (.iload_n 0, 1) := by decide +kernel
theorem own_d_jdk_29_method_65_code_1 : decode jdk_29_method_65_code 1 = .ok (.iload_n 1, 1) := by decide +kernel
theorem own_d_jdk_29_method_65_code_2 : decode jdk_29_method_65_code 2 = .ok (.if_icmp .lt 7, 3) := by decide +kernel
theorem own_d_jdk_29_method_65_code_9 : decode jdk_29_method_65_code 9 = .ok (.iload_n 1, 1) := by decide +kernel
theorem own_d_jdk_29_method_65_code_10 : decode jdk_29_method_65_code 10 = .ok (.ireturn, 1) := by decide +kernel
theorem own_d_jdk_29_method_65_code_5 : decode jdk_29_method_65_code 5 = .ok (.iload_n 0, 1) := by decide +kernel
theorem own_d_jdk_29_method_65_code_6 : decode jdk_29_method_65_code 6 = .ok (.goto 4, 3) := by decide +kernel
theorem own_ef1 (m : MethodId) (x0 : Int32) (x1 : Int32)  : entryFrame m #[(.int x0), (.int x1)] 2 = mkF m 0 #[.val (.int x0), .val (.int x1)] [] := by first | (simp [entryFrame, mkF, argsToLocals, Value.category]; done) | rfl
abbrev own_Q1 (Z : State) (x1 : Int32) (x2 : Int32) (h0 : Heap) (n0 : Nat) (v : Option Value) (h : Heap) (L : List Loc) : Prop := ∃ r : Int32, v = some (.int r) ∧ Fr n0 L ∧ h = h0 ∧ r = if x1 < x2 then x2 else x1
set_option maxRecDepth 65536 in
set_option maxHeartbeats 40000000 in
theorem own_m1 (l : Launch) (Z : State) (a0 : Array Value) (hw : ∀ d ∈ tables_1, d.before a0 Z = true) (ws : List Jvm.Cond) (x1 : Int32) (x2 : Int32) (h0 : Heap) (n0 : Nat) (O0 : Old Z n0 h0) :
    Ctr l Z (⟨"java/lang/Math", "max", "(II)I"⟩ : MethodName) jdk_29_method_65_code 2 (some .int) ({ frames := 0, cells := 0, slots := 0, locals := 0 } : Room) #[(.int x1), (.int x2)] h0 (own_Q1 Z x1 x2 h0 n0) ws := by
  refine MetFree.of_bodySF (show plainFor (⟨"java/lang/Math", "max", "(II)I"⟩ : MethodName) = true by decide +kernel) hisR ?_
  intro p e s m args below meth c s₁ Bd hml0 hP hK
  obtain ⟨rfl, hZ, hh⟩ := hP
  have hx := Bd.exec
  have hby := Bd.bytes
  have hlk : meth.locks = false := Bd.notSynchronized
  have hml : c.maxLocals = 2 := hml0
  have hown : s.vm.findClass "java/lang/Math" = some m.cls := findClass_of_methodNamed Bd.named
  have hnm := (name_of_methodNamed Bd.named Bd.method).1
  have X0 : Stand p l e ({ frames := 0, cells := 0, slots := 0, locals := 0 } : Room) s m #[(.int x1), (.int x2)] below meth c s₁ [] 0 0 := Stand.of_body Bd
  have e0 : s₁.heap = h0 := by rw [← hh, Bd.state]; rfl
  have N0 := Fr.nil n0
  show Goes p.tables e below (fun t o => ∃ v L, o = .returned v ∧ (own_Q1 Z x1 x2 h0 n0) v t.heap L ∧ FrameEnd s o t L (({ frames := 0, cells := 0, slots := 0, locals := 0 } : Room)).cells (({ frames := 0, cells := 0, slots := 0, locals := 0 } : Room)).slots) _
  refine Goes.via (B := s₁.setTop (mkF m 0 #[.val (.int x1), .val (.int x2)] [])) (fun t k => castTop (own_ef1 m x1 x2) k) ?_
  refine Goes.via (B := s₁.setTop (mkF m 1 #[.val (.int x1), .val (.int x2)] [(.int x1)])) (fun t k => XS.iloadN X0.here hx rfl (hb hby own_d_jdk_29_method_65_code_0) rfl k) ?_
  refine Goes.via (B := s₁.setTop (mkF m 2 #[.val (.int x1), .val (.int x2)] [(.int x2), (.int x1)])) (fun t k => XS.iloadN X0.here hx rfl (hb hby own_d_jdk_29_method_65_code_1) rfl k) ?_
  by_cases b1 : x1 < x2
  · refine Goes.via (B := s₁.setTop (mkF m 9 #[.val (.int x1), .val (.int x2)] [])) (fun t k => XS.icmpYes X0.here hx rfl (pc0 := 2) (pc' := 9) rfl (hb hby own_d_jdk_29_method_65_code_2) rfl (XT.ii_lt_t b1) (by decide) (by decide) k) ?_
    refine Goes.via (B := s₁.setTop (mkF m 10 #[.val (.int x1), .val (.int x2)] [(.int x2)])) (fun t k => XS.iloadN X0.here hx rfl (hb hby own_d_jdk_29_method_65_code_9) rfl k) ?_
    exact finI (Q := (own_Q1 Z x1 x2 h0 n0)) (F := FrameEnd) (C := (({ frames := 0, cells := 0, slots := 0, locals := 0 } : Room)).cells) (S := (({ frames := 0, cells := 0, slots := 0, locals := 0 } : Room)).slots) X0 hx Bd.returns (hb hby own_d_jdk_29_method_65_code_10) e0 ⟨x2, rfl, N0, rfl, (if_pos b1).symm⟩ (lvN X0 hlk (by decide) (by decide))
  · refine Goes.via (B := s₁.setTop (mkF m 5 #[.val (.int x1), .val (.int x2)] [])) (fun t k => XS.icmpNo X0.here hx rfl (hb hby own_d_jdk_29_method_65_code_2) rfl (XT.ii_lt_f b1) k) ?_
    refine Goes.via (B := s₁.setTop (mkF m 6 #[.val (.int x1), .val (.int x2)] [(.int x1)])) (fun t k => XS.iloadN X0.here hx rfl (hb hby own_d_jdk_29_method_65_code_5) rfl k) ?_
    refine Goes.via (B := s₁.setTop (mkF m 10 #[.val (.int x1), .val (.int x2)] [(.int x1)])) (fun t k => XS.goto X0.here hx rfl (pc0 := 6) (pc' := 10) rfl (hb hby own_d_jdk_29_method_65_code_6) (by decide) (by decide) k) ?_
    exact finI (Q := (own_Q1 Z x1 x2 h0 n0)) (F := FrameEnd) (C := (({ frames := 0, cells := 0, slots := 0, locals := 0 } : Room)).cells) (S := (({ frames := 0, cells := 0, slots := 0, locals := 0 } : Room)).slots) X0 hx Bd.returns (hb hby own_d_jdk_29_method_65_code_10) e0 ⟨x1, rfl, N0, rfl, (if_neg b1).symm⟩ (lvN X0 hlk (by decide) (by decide))
theorem own_d_jdk_29_method_66_code_0 : decode jdk_29_method_66_code 0 = .ok (.lload_n 0, 1) := by decide +kernel
theorem own_d_jdk_29_method_66_code_1 : decode jdk_29_method_66_code 1 = .ok (.lload_n 2, 1) := by decide +kernel
theorem own_d_jdk_29_method_66_code_2 : decode jdk_29_method_66_code 2 = .ok (.lcmp, 1) := by decide +kernel
theorem own_d_jdk_29_method_66_code_3 : decode jdk_29_method_66_code 3 = .ok (.ifCond .lt 7, 3) := by decide +kernel
theorem own_d_jdk_29_method_66_code_10 : decode jdk_29_method_66_code 10 = .ok (.lload_n 2, 1) := by decide +kernel
theorem own_d_jdk_29_method_66_code_11 : decode jdk_29_method_66_code 11 = .ok (.lreturn, 1) := by decide +kernel
theorem own_d_jdk_29_method_66_code_6 : decode jdk_29_method_66_code 6 = .ok (.lload_n 0, 1) := by decide +kernel
theorem own_d_jdk_29_method_66_code_7 : decode jdk_29_method_66_code 7 = .ok (.goto 4, 3) := by decide +kernel
theorem own_ef2 (m : MethodId) (x0 : Int64) (x1 : Int64)  : entryFrame m #[(.long x0), (.long x1)] 4 = mkF m 0 #[.val (.long x0), .second, .val (.long x1), .second] [] := by first | (simp [entryFrame, mkF, argsToLocals, Value.category]; done) | rfl
abbrev own_Q2 (Z : State) (x1 : Int64) (x2 : Int64) (h0 : Heap) (n0 : Nat) (v : Option Value) (h : Heap) (L : List Loc) : Prop := ∃ r : Int64, v = some (.long r) ∧ Fr n0 L ∧ h = h0 ∧ r = if x1 < x2 then x2 else x1
set_option maxRecDepth 65536 in
set_option maxHeartbeats 40000000 in
theorem own_m2 (l : Launch) (Z : State) (a0 : Array Value) (hw : ∀ d ∈ tables_1, d.before a0 Z = true) (ws : List Jvm.Cond) (x1 : Int64) (x2 : Int64) (h0 : Heap) (n0 : Nat) (O0 : Old Z n0 h0) :
    Ctr l Z (⟨"java/lang/Math", "max", "(JJ)J"⟩ : MethodName) jdk_29_method_66_code 4 (some .long) ({ frames := 0, cells := 0, slots := 0, locals := 0 } : Room) #[(.long x1), (.long x2)] h0 (own_Q2 Z x1 x2 h0 n0) ws := by
  refine MetFree.of_bodySF (show plainFor (⟨"java/lang/Math", "max", "(JJ)J"⟩ : MethodName) = true by decide +kernel) hisR ?_
  intro p e s m args below meth c s₁ Bd hml0 hP hK
  obtain ⟨rfl, hZ, hh⟩ := hP
  have hx := Bd.exec
  have hby := Bd.bytes
  have hlk : meth.locks = false := Bd.notSynchronized
  have hml : c.maxLocals = 4 := hml0
  have hown : s.vm.findClass "java/lang/Math" = some m.cls := findClass_of_methodNamed Bd.named
  have hnm := (name_of_methodNamed Bd.named Bd.method).1
  have X0 : Stand p l e ({ frames := 0, cells := 0, slots := 0, locals := 0 } : Room) s m #[(.long x1), (.long x2)] below meth c s₁ [] 0 0 := Stand.of_body Bd
  have e0 : s₁.heap = h0 := by rw [← hh, Bd.state]; rfl
  have N0 := Fr.nil n0
  show Goes p.tables e below (fun t o => ∃ v L, o = .returned v ∧ (own_Q2 Z x1 x2 h0 n0) v t.heap L ∧ FrameEnd s o t L (({ frames := 0, cells := 0, slots := 0, locals := 0 } : Room)).cells (({ frames := 0, cells := 0, slots := 0, locals := 0 } : Room)).slots) _
  refine Goes.via (B := s₁.setTop (mkF m 0 #[.val (.long x1), .second, .val (.long x2), .second] [])) (fun t k => castTop (own_ef2 m x1 x2) k) ?_
  refine Goes.via (B := s₁.setTop (mkF m 1 #[.val (.long x1), .second, .val (.long x2), .second] [(.long x1)])) (fun t k => XS.lloadN X0.here hx rfl (hb hby own_d_jdk_29_method_66_code_0) rfl k) ?_
  refine Goes.via (B := s₁.setTop (mkF m 2 #[.val (.long x1), .second, .val (.long x2), .second] [(.long x2), (.long x1)])) (fun t k => XS.lloadN X0.here hx rfl (hb hby own_d_jdk_29_method_66_code_1) rfl k) ?_
  refine Goes.via (B := s₁.setTop (mkF m 3 #[.val (.long x1), .second, .val (.long x2), .second] [(.int (XT.cmpL x1 x2))])) (fun t k => XT.lcmp X0.here hx rfl (hb hby own_d_jdk_29_method_66_code_2) rfl k) ?_
  by_cases b1 : x1 < x2
  · refine Goes.via (B := s₁.setTop (mkF m 10 #[.val (.long x1), .second, .val (.long x2), .second] [])) (fun t k => XS.ifYes X0.here hx rfl (pc0 := 3) (pc' := 10) rfl (hb hby own_d_jdk_29_method_66_code_3) rfl (XT.ll_lt_t b1) (by decide) (by decide) k) ?_
    refine Goes.via (B := s₁.setTop (mkF m 11 #[.val (.long x1), .second, .val (.long x2), .second] [(.long x2)])) (fun t k => XS.lloadN X0.here hx rfl (hb hby own_d_jdk_29_method_66_code_10) rfl k) ?_
    exact finJ (Q := (own_Q2 Z x1 x2 h0 n0)) (F := FrameEnd) (C := (({ frames := 0, cells := 0, slots := 0, locals := 0 } : Room)).cells) (S := (({ frames := 0, cells := 0, slots := 0, locals := 0 } : Room)).slots) X0 hx Bd.returns (hb hby own_d_jdk_29_method_66_code_11) e0 ⟨x2, rfl, N0, rfl, (if_pos b1).symm⟩ (lvN X0 hlk (by decide) (by decide))
  · refine Goes.via (B := s₁.setTop (mkF m 6 #[.val (.long x1), .second, .val (.long x2), .second] [])) (fun t k => XS.ifNo X0.here hx rfl (hb hby own_d_jdk_29_method_66_code_3) rfl (XT.ll_lt_f b1) k) ?_
    refine Goes.via (B := s₁.setTop (mkF m 7 #[.val (.long x1), .second, .val (.long x2), .second] [(.long x1)])) (fun t k => XS.lloadN X0.here hx rfl (hb hby own_d_jdk_29_method_66_code_6) rfl k) ?_
    refine Goes.via (B := s₁.setTop (mkF m 11 #[.val (.long x1), .second, .val (.long x2), .second] [(.long x1)])) (fun t k => XS.goto X0.here hx rfl (pc0 := 7) (pc' := 11) rfl (hb hby own_d_jdk_29_method_66_code_7) (by decide) (by decide) k) ?_
    exact finJ (Q := (own_Q2 Z x1 x2 h0 n0)) (F := FrameEnd) (C := (({ frames := 0, cells := 0, slots := 0, locals := 0 } : Room)).cells) (S := (({ frames := 0, cells := 0, slots := 0, locals := 0 } : Room)).slots) X0 hx Bd.returns (hb hby own_d_jdk_29_method_66_code_11) e0 ⟨x1, rfl, N0, rfl, (if_neg b1).symm⟩ (lvN X0 hlk (by decide) (by decide))
theorem own_pn0 : plainName "com/example/vestwright/vestwright/core/InstallmentsMonthsToLastDatePinLaw" = true := by first | (simp [plainName, overriddenIn]; done) | decide +kernel
theorem own_d_method_2_code_0 : decode method_2_code 0 = .ok (.iload_n 0, 1) := by decide +kernel
theorem own_d_method_2_code_1 : decode method_2_code 1 = .ok (.ldc 7, 2) := by decide +kernel
theorem own_d_method_2_code_3 : decode method_2_code 3 = .ok (.iand, 1) := by decide +kernel
theorem own_d_method_2_code_4 : decode method_2_code 4 = .ok (.bipush 7, 2) := by decide +kernel
theorem own_d_method_2_code_6 : decode method_2_code 6 = .ok (.irem, 1) := by decide +kernel
theorem own_d_method_2_code_7 : decode method_2_code 7 = .ok (.istore_n 1, 1) := by decide +kernel
theorem own_d_method_2_code_8 : decode method_2_code 8 = .ok (.iload_n 1, 1) := by decide +kernel
theorem own_d_method_2_code_9 : decode method_2_code 9 = .ok (.ifCond .ne 7, 3) := by decide +kernel
theorem own_d_method_2_code_12 : decode method_2_code 12 = .ok (.getstatic 8, 3) := by decide +kernel
theorem own_d_method_2_code_15 : decode method_2_code 15 = .ok (.areturn, 1) := by decide +kernel
theorem own_d_method_2_code_16 : decode method_2_code 16 = .ok (.iload_n 1, 1) := by decide +kernel
theorem own_d_method_2_code_17 : decode method_2_code 17 = .ok (.iconst 1, 1) := by decide +kernel
theorem own_d_method_2_code_18 : decode method_2_code 18 = .ok (.if_icmp .ne 7, 3) := by decide +kernel
theorem own_d_method_2_code_21 : decode method_2_code 21 = .ok (.getstatic 14, 3) := by decide +kernel
theorem own_d_method_2_code_24 : decode method_2_code 24 = .ok (.areturn, 1) := by decide +kernel
theorem own_d_method_2_code_25 : decode method_2_code 25 = .ok (.iload_n 1, 1) := by decide +kernel
theorem own_d_method_2_code_26 : decode method_2_code 26 = .ok (.iconst 2, 1) := by decide +kernel
theorem own_d_method_2_code_27 : decode method_2_code 27 = .ok (.if_icmp .ne 7, 3) := by decide +kernel
theorem own_d_method_2_code_30 : decode method_2_code 30 = .ok (.getstatic 17, 3) := by decide +kernel
theorem own_d_method_2_code_33 : decode method_2_code 33 = .ok (.areturn, 1) := by decide +kernel
theorem own_d_method_2_code_34 : decode method_2_code 34 = .ok (.iload_n 1, 1) := by decide +kernel
theorem own_d_method_2_code_35 : decode method_2_code 35 = .ok (.iconst 3, 1) := by decide +kernel
theorem own_d_method_2_code_36 : decode method_2_code 36 = .ok (.if_icmp .ne 7, 3) := by decide +kernel
theorem own_d_method_2_code_39 : decode method_2_code 39 = .ok (.getstatic 20, 3) := by decide +kernel
theorem own_d_method_2_code_42 : decode method_2_code 42 = .ok (.areturn, 1) := by decide +kernel
theorem own_d_method_2_code_43 : decode method_2_code 43 = .ok (.iload_n 1, 1) := by decide +kernel
theorem own_d_method_2_code_44 : decode method_2_code 44 = .ok (.iconst 4, 1) := by decide +kernel
theorem own_d_method_2_code_45 : decode method_2_code 45 = .ok (.if_icmp .ne 7, 3) := by decide +kernel
theorem own_d_method_2_code_48 : decode method_2_code 48 = .ok (.getstatic 23, 3) := by decide +kernel
theorem own_d_method_2_code_51 : decode method_2_code 51 = .ok (.areturn, 1) := by decide +kernel
theorem own_d_method_2_code_52 : decode method_2_code 52 = .ok (.iload_n 1, 1) := by decide +kernel
theorem own_d_method_2_code_53 : decode method_2_code 53 = .ok (.iconst 5, 1) := by decide +kernel
theorem own_d_method_2_code_54 : decode method_2_code 54 = .ok (.if_icmp .ne 7, 3) := by decide +kernel
theorem own_d_method_2_code_57 : decode method_2_code 57 = .ok (.getstatic 26, 3) := by decide +kernel
theorem own_d_method_2_code_60 : decode method_2_code 60 = .ok (.areturn, 1) := by decide +kernel
theorem own_d_method_2_code_61 : decode method_2_code 61 = .ok (.getstatic 29, 3) := by decide +kernel
theorem own_d_method_2_code_64 : decode method_2_code 64 = .ok (.areturn, 1) := by decide +kernel
theorem own_ef3 (m : MethodId) (x0 : Int32)  : entryFrame m #[(.int x0)] 2 = mkF m 0 #[.val (.int x0), .unset] [] := by first | (simp [entryFrame, mkF, argsToLocals, Value.category]; done) | rfl
abbrev own_Q3 (Z : State) (x1 : Int32) (fq0 : Addr) (fq1 : Addr) (fq2 : Addr) (fq3 : Addr) (fq4 : Addr) (fq5 : Addr) (fq6 : Addr) (h0 : Heap) (n0 : Nat) (v : Option Value) (h : Heap) (L : List Loc) : Prop := ∃ r : Addr, v = some (.ref r) ∧ Fr n0 L ∧ h = h0
set_option maxRecDepth 65536 in
set_option maxHeartbeats 40000000 in
theorem own_m3 (l : Launch) (Z : State) (a0 : Array Value) (hw : ∀ d ∈ tables_1, d.before a0 Z = true) (ws : List Jvm.Cond) (x1 : Int32) (fq0 : Addr) (fq1 : Addr) (fq2 : Addr) (fq3 : Addr) (fq4 : Addr) (fq5 : Addr) (fq6 : Addr) (h0 : Heap) (n0 : Nat) (O0 : Old Z n0 h0) (O_1 : Sta Z Z.heap "com/example/vestwright/vestwright/core/Allocation" "CUMULATIVE_ROUNDING" "Lcom/example/vestwright/vestwright/core/Allocation;" (.ref fq0)) (O_2 : Sta Z Z.heap "com/example/vestwright/vestwright/core/Allocation" "CUMULATIVE_ROUND_DOWN" "Lcom/example/vestwright/vestwright/core/Allocation;" (.ref fq1)) (O_3 : Sta Z Z.heap "com/example/vestwright/vestwright/core/Allocation" "FRONT_LOADED" "Lcom/example/vestwright/vestwright/core/Allocation;" (.ref fq2)) (O_4 : Sta Z Z.heap "com/example/vestwright/vestwright/core/Allocation" "BACK_LOADED" "Lcom/example/vestwright/vestwright/core/Allocation;" (.ref fq3)) (O_5 : Sta Z Z.heap "com/example/vestwright/vestwright/core/Allocation" "FRONT_LOADED_TO_SINGLE_TRANCHE" "Lcom/example/vestwright/vestwright/core/Allocation;" (.ref fq4)) (O_6 : Sta Z Z.heap "com/example/vestwright/vestwright/core/Allocation" "BACK_LOADED_TO_SINGLE_TRANCHE" "Lcom/example/vestwright/vestwright/core/Allocation;" (.ref fq5)) (O_7 : Sta Z Z.heap "com/example/vestwright/vestwright/core/Allocation" "FRACTIONAL" "Lcom/example/vestwright/vestwright/core/Allocation;" (.ref fq6)) :
    Ctr l Z (⟨"com/example/vestwright/vestwright/core/InstallmentsMonthsToLastDatePinLaw", "allocation", "(I)Lcom/example/vestwright/vestwright/core/Allocation;"⟩ : MethodName) method_2_code 2 (some (.object "com/example/vestwright/vestwright/core/Allocation")) ({ frames := 0, cells := 0, slots := 0, locals := 0 } : Room) #[(.int x1)] h0 (own_Q3 Z x1 fq0 fq1 fq2 fq3 fq4 fq5 fq6 h0 n0) ws := by
  refine MetFree.of_bodySF (plainFor_of_name own_pn0) hisR ?_
  intro p e s m args below meth c s₁ Bd hml0 hP hK
  obtain ⟨rfl, hZ, hh⟩ := hP
  have hx := Bd.exec
  have hby := Bd.bytes
  have hlk : meth.locks = false := Bd.notSynchronized
  have hml : c.maxLocals = 2 := hml0
  have hown : s.vm.findClass "com/example/vestwright/vestwright/core/InstallmentsMonthsToLastDatePinLaw" = some m.cls := findClass_of_methodNamed Bd.named
  have hnm := (name_of_methodNamed Bd.named Bd.method).1
  have X0 : Stand p l e ({ frames := 0, cells := 0, slots := 0, locals := 0 } : Room) s m #[(.int x1)] below meth c s₁ [] 0 0 := Stand.of_body Bd
  have e0 : s₁.heap = h0 := by rw [← hh, Bd.state]; rfl
  have N0 := Fr.nil n0
  show Goes p.tables e below (fun t o => ∃ v L, o = .returned v ∧ (own_Q3 Z x1 fq0 fq1 fq2 fq3 fq4 fq5 fq6 h0 n0) v t.heap L ∧ FrameEnd s o t L (({ frames := 0, cells := 0, slots := 0, locals := 0 } : Room)).cells (({ frames := 0, cells := 0, slots := 0, locals := 0 } : Room)).slots) _
  refine Goes.via (B := s₁.setTop (mkF m 0 #[.val (.int x1), .unset] [])) (fun t k => castTop (own_ef3 m x1) k) ?_
  refine Goes.via (B := s₁.setTop (mkF m 1 #[.val (.int x1), .unset] [(.int x1)])) (fun t k => XS.iloadN X0.here hx rfl (hb hby own_d_method_2_code_0) rfl k) ?_
  refine Goes.via (B := s₁.setTop (mkF m 3 #[.val (.int x1), .unset] [(.int (2147483647 : Int32)), (.int x1)])) (fun t k => X0.ldcI hx hown (mvT hZ (hw _ (List.mem_of_getElem? (i := 0) rfl))) rfl (hb hby own_d_method_2_code_1) k) ?_
  refine Goes.via (B := s₁.setTop (mkF m 4 #[.val (.int x1), .unset] [(.int (x1 &&& (2147483647 : Int32)))])) (fun t k => XS.iand X0.here hx rfl (hb hby own_d_method_2_code_3) rfl k) ?_
  refine Goes.via (B := s₁.setTop (mkF m 6 #[.val (.int x1), .unset] [(.int (7 : Int32)), (.int (x1 &&& (2147483647 : Int32)))])) (fun t k => XS.bipush X0.here hx rfl (hb hby own_d_method_2_code_4) k) ?_
  refine Goes.via (B := s₁.setTop (mkF m 7 #[.val (.int x1), .unset] [(.int ((x1 &&& (2147483647 : Int32)) % (7 : Int32)))])) (fun t k => iremM X0 hx rfl (hb hby own_d_method_2_code_6) rfl (by decide) k) ?_
  refine Goes.via (B := s₁.setTop (mkF m 8 #[.val (.int x1), .val (.int ((x1 &&& (2147483647 : Int32)) % (7 : Int32)))] [])) (fun t k => XS.istoreN X0.here hx rfl (hb hby own_d_method_2_code_7) rfl (l' := #[.val (.int x1), .val (.int ((x1 &&& (2147483647 : Int32)) % (7 : Int32)))]) rfl k) ?_
  refine Goes.via (B := s₁.setTop (mkF m 9 #[.val (.int x1), .val (.int ((x1 &&& (2147483647 : Int32)) % (7 : Int32)))] [(.int ((x1 &&& (2147483647 : Int32)) % (7 : Int32)))])) (fun t k => XS.iloadN X0.here hx rfl (hb hby own_d_method_2_code_8) rfl k) ?_
  by_cases b1 : ((x1 &&& (2147483647 : Int32)) % (7 : Int32)) = (0 : Int32)
  · refine Goes.via (B := s₁.setTop (mkF m 12 #[.val (.int x1), .val (.int ((x1 &&& (2147483647 : Int32)) % (7 : Int32)))] [])) (fun t k => XS.ifNo X0.here hx rfl (hb hby own_d_method_2_code_9) rfl (XT.i0_ne_f b1) k) ?_
    obtain ⟨T2, X2, e2, st2⟩ := getS2 X0 hx hZ hown (host := "") (Or.inl (hw _ (List.mem_of_getElem? (i := 71) rfl))) Via.refl e0 (Sta.ext O0.2 O_1) (g := (mkF m 12 #[.val (.int x1), .val (.int ((x1 &&& (2147483647 : Int32)) % (7 : Int32)))] [])) rfl (hb hby own_d_method_2_code_12)
    refine Goes.via (B := T2.setTop (mkF m 15 #[.val (.int x1), .val (.int ((x1 &&& (2147483647 : Int32)) % (7 : Int32)))] [(.ref fq0)])) (fun t k => st2 _ k) ?_
    exact finA (Q := (own_Q3 Z x1 fq0 fq1 fq2 fq3 fq4 fq5 fq6 h0 n0)) (F := FrameEnd) (C := (({ frames := 0, cells := 0, slots := 0, locals := 0 } : Room)).cells) (S := (({ frames := 0, cells := 0, slots := 0, locals := 0 } : Room)).slots) X2 hx Bd.returns rfl rfl rfl (hb hby own_d_method_2_code_15) e2 ⟨fq0, rfl, N0, rfl⟩ (lvN X2 hlk (by decide) (by decide))
  · refine Goes.via (B := s₁.setTop (mkF m 16 #[.val (.int x1), .val (.int ((x1 &&& (2147483647 : Int32)) % (7 : Int32)))] [])) (fun t k => XS.ifYes X0.here hx rfl (pc0 := 9) (pc' := 16) rfl (hb hby own_d_method_2_code_9) rfl (XT.i0_ne_t b1) (by decide) (by decide) k) ?_
    refine Goes.via (B := s₁.setTop (mkF m 17 #[.val (.int x1), .val (.int ((x1 &&& (2147483647 : Int32)) % (7 : Int32)))] [(.int ((x1 &&& (2147483647 : Int32)) % (7 : Int32)))])) (fun t k => XS.iloadN X0.here hx rfl (hb hby own_d_method_2_code_16) rfl k) ?_
    refine Goes.via (B := s₁.setTop (mkF m 18 #[.val (.int x1), .val (.int ((x1 &&& (2147483647 : Int32)) % (7 : Int32)))] [(.int (1 : Int32)), (.int ((x1 &&& (2147483647 : Int32)) % (7 : Int32)))])) (fun t k => XS.iconst X0.here hx rfl (hb hby own_d_method_2_code_17) k) ?_
    by_cases b3 : ((x1 &&& (2147483647 : Int32)) % (7 : Int32)) = (1 : Int32)
    · refine Goes.via (B := s₁.setTop (mkF m 21 #[.val (.int x1), .val (.int ((x1 &&& (2147483647 : Int32)) % (7 : Int32)))] [])) (fun t k => XS.icmpNo X0.here hx rfl (hb hby own_d_method_2_code_18) rfl (XT.ii_ne_f b3) k) ?_
      obtain ⟨T4, X4, e4, st4⟩ := getS2 X0 hx hZ hown (host := "") (Or.inl (hw _ (List.mem_of_getElem? (i := 12) rfl))) Via.refl e0 (Sta.ext O0.2 O_2) (g := (mkF m 21 #[.val (.int x1), .val (.int ((x1 &&& (2147483647 : Int32)) % (7 : Int32)))] [])) rfl (hb hby own_d_method_2_code_21)
      refine Goes.via (B := T4.setTop (mkF m 24 #[.val (.int x1), .val (.int ((x1 &&& (2147483647 : Int32)) % (7 : Int32)))] [(.ref fq1)])) (fun t k => st4 _ k) ?_
      exact finA (Q := (own_Q3 Z x1 fq0 fq1 fq2 fq3 fq4 fq5 fq6 h0 n0)) (F := FrameEnd) (C := (({ frames := 0, cells := 0, slots := 0, locals := 0 } : Room)).cells) (S := (({ frames := 0, cells := 0, slots := 0, locals := 0 } : Room)).slots) X4 hx Bd.returns rfl rfl rfl (hb hby own_d_method_2_code_24) e4 ⟨fq1, rfl, N0, rfl⟩ (lvN X4 hlk (by decide) (by decide))
    · refine Goes.via (B := s₁.setTop (mkF m 25 #[.val (.int x1), .val (.int ((x1 &&& (2147483647 : Int32)) % (7 : Int32)))] [])) (fun t k => XS.icmpYes X0.here hx rfl (pc0 := 18) (pc' := 25) rfl (hb hby own_d_method_2_code_18) rfl (XT.ii_ne_t b3) (by decide) (by decide) k) ?_
      refine Goes.via (B := s₁.setTop (mkF m 26 #[.val (.int x1), .val (.int ((x1 &&& (2147483647 : Int32)) % (7 : Int32)))] [(.int ((x1 &&& (2147483647 : Int32)) % (7 : Int32)))])) (fun t k => XS.iloadN X0.here hx rfl (hb hby own_d_method_2_code_25) rfl k) ?_
      refine Goes.via (B := s₁.setTop (mkF m 27 #[.val (.int x1), .val (.int ((x1 &&& (2147483647 : Int32)) % (7 : Int32)))] [(.int (2 : Int32)), (.int ((x1 &&& (2147483647 : Int32)) % (7 : Int32)))])) (fun t k => XS.iconst X0.here hx rfl (hb hby own_d_method_2_code_26) k) ?_
      by_cases b5 : ((x1 &&& (2147483647 : Int32)) % (7 : Int32)) = (2 : Int32)
      · refine Goes.via (B := s₁.setTop (mkF m 30 #[.val (.int x1), .val (.int ((x1 &&& (2147483647 : Int32)) % (7 : Int32)))] [])) (fun t k => XS.icmpNo X0.here hx rfl (hb hby own_d_method_2_code_27) rfl (XT.ii_ne_f b5) k) ?_
        obtain ⟨T6, X6, e6, st6⟩ := getS2 X0 hx hZ hown (host := "") (Or.inl (hw _ (List.mem_of_getElem? (i := 67) rfl))) Via.refl e0 (Sta.ext O0.2 O_3) (g := (mkF m 30 #[.val (.int x1), .val (.int ((x1 &&& (2147483647 : Int32)) % (7 : Int32)))] [])) rfl (hb hby own_d_method_2_code_30)
        refine Goes.via (B := T6.setTop (mkF m 33 #[.val (.int x1), .val (.int ((x1 &&& (2147483647 : Int32)) % (7 : Int32)))] [(.ref fq2)])) (fun t k => st6 _ k) ?_
        exact finA (Q := (own_Q3 Z x1 fq0 fq1 fq2 fq3 fq4 fq5 fq6 h0 n0)) (F := FrameEnd) (C := (({ frames := 0, cells := 0, slots := 0, locals := 0 } : Room)).cells) (S := (({ frames := 0, cells := 0, slots := 0, locals := 0 } : Room)).slots) X6 hx Bd.returns rfl rfl rfl (hb hby own_d_method_2_code_33) e6 ⟨fq2, rfl, N0, rfl⟩ (lvN X6 hlk (by decide) (by decide))
      · refine Goes.via (B := s₁.setTop (mkF m 34 #[.val (.int x1), .val (.int ((x1 &&& (2147483647 : Int32)) % (7 : Int32)))] [])) (fun t k => XS.icmpYes X0.here hx rfl (pc0 := 27) (pc' := 34) rfl (hb hby own_d_method_2_code_27) rfl (XT.ii_ne_t b5) (by decide) (by decide) k) ?_
        refine Goes.via (B := s₁.setTop (mkF m 35 #[.val (.int x1), .val (.int ((x1 &&& (2147483647 : Int32)) % (7 : Int32)))] [(.int ((x1 &&& (2147483647 : Int32)) % (7 : Int32)))])) (fun t k => XS.iloadN X0.here hx rfl (hb hby own_d_method_2_code_34) rfl k) ?_
        refine Goes.via (B := s₁.setTop (mkF m 36 #[.val (.int x1), .val (.int ((x1 &&& (2147483647 : Int32)) % (7 : Int32)))] [(.int (3 : Int32)), (.int ((x1 &&& (2147483647 : Int32)) % (7 : Int32)))])) (fun t k => XS.iconst X0.here hx rfl (hb hby own_d_method_2_code_35) k) ?_
        by_cases b7 : ((x1 &&& (2147483647 : Int32)) % (7 : Int32)) = (3 : Int32)
        · refine Goes.via (B := s₁.setTop (mkF m 39 #[.val (.int x1), .val (.int ((x1 &&& (2147483647 : Int32)) % (7 : Int32)))] [])) (fun t k => XS.icmpNo X0.here hx rfl (hb hby own_d_method_2_code_36) rfl (XT.ii_ne_f b7) k) ?_
          obtain ⟨T8, X8, e8, st8⟩ := getS2 X0 hx hZ hown (host := "") (Or.inl (hw _ (List.mem_of_getElem? (i := 65) rfl))) Via.refl e0 (Sta.ext O0.2 O_4) (g := (mkF m 39 #[.val (.int x1), .val (.int ((x1 &&& (2147483647 : Int32)) % (7 : Int32)))] [])) rfl (hb hby own_d_method_2_code_39)
          refine Goes.via (B := T8.setTop (mkF m 42 #[.val (.int x1), .val (.int ((x1 &&& (2147483647 : Int32)) % (7 : Int32)))] [(.ref fq3)])) (fun t k => st8 _ k) ?_
          exact finA (Q := (own_Q3 Z x1 fq0 fq1 fq2 fq3 fq4 fq5 fq6 h0 n0)) (F := FrameEnd) (C := (({ frames := 0, cells := 0, slots := 0, locals := 0 } : Room)).cells) (S := (({ frames := 0, cells := 0, slots := 0, locals := 0 } : Room)).slots) X8 hx Bd.returns rfl rfl rfl (hb hby own_d_method_2_code_42) e8 ⟨fq3, rfl, N0, rfl⟩ (lvN X8 hlk (by decide) (by decide))
        · refine Goes.via (B := s₁.setTop (mkF m 43 #[.val (.int x1), .val (.int ((x1 &&& (2147483647 : Int32)) % (7 : Int32)))] [])) (fun t k => XS.icmpYes X0.here hx rfl (pc0 := 36) (pc' := 43) rfl (hb hby own_d_method_2_code_36) rfl (XT.ii_ne_t b7) (by decide) (by decide) k) ?_
          refine Goes.via (B := s₁.setTop (mkF m 44 #[.val (.int x1), .val (.int ((x1 &&& (2147483647 : Int32)) % (7 : Int32)))] [(.int ((x1 &&& (2147483647 : Int32)) % (7 : Int32)))])) (fun t k => XS.iloadN X0.here hx rfl (hb hby own_d_method_2_code_43) rfl k) ?_
          refine Goes.via (B := s₁.setTop (mkF m 45 #[.val (.int x1), .val (.int ((x1 &&& (2147483647 : Int32)) % (7 : Int32)))] [(.int (4 : Int32)), (.int ((x1 &&& (2147483647 : Int32)) % (7 : Int32)))])) (fun t k => XS.iconst X0.here hx rfl (hb hby own_d_method_2_code_44) k) ?_
          by_cases b9 : ((x1 &&& (2147483647 : Int32)) % (7 : Int32)) = (4 : Int32)
          · refine Goes.via (B := s₁.setTop (mkF m 48 #[.val (.int x1), .val (.int ((x1 &&& (2147483647 : Int32)) % (7 : Int32)))] [])) (fun t k => XS.icmpNo X0.here hx rfl (hb hby own_d_method_2_code_45) rfl (XT.ii_ne_f b9) k) ?_
            obtain ⟨T10, X10, e10, st10⟩ := getS2 X0 hx hZ hown (host := "") (Or.inl (hw _ (List.mem_of_getElem? (i := 69) rfl))) Via.refl e0 (Sta.ext O0.2 O_5) (g := (mkF m 48 #[.val (.int x1), .val (.int ((x1 &&& (2147483647 : Int32)) % (7 : Int32)))] [])) rfl (hb hby own_d_method_2_code_48)
            refine Goes.via (B := T10.setTop (mkF m 51 #[.val (.int x1), .val (.int ((x1 &&& (2147483647 : Int32)) % (7 : Int32)))] [(.ref fq4)])) (fun t k => st10 _ k) ?_
            exact finA (Q := (own_Q3 Z x1 fq0 fq1 fq2 fq3 fq4 fq5 fq6 h0 n0)) (F := FrameEnd) (C := (({ frames := 0, cells := 0, slots := 0, locals := 0 } : Room)).cells) (S := (({ frames := 0, cells := 0, slots := 0, locals := 0 } : Room)).slots) X10 hx Bd.returns rfl rfl rfl (hb hby own_d_method_2_code_51) e10 ⟨fq4, rfl, N0, rfl⟩ (lvN X10 hlk (by decide) (by decide))
          · refine Goes.via (B := s₁.setTop (mkF m 52 #[.val (.int x1), .val (.int ((x1 &&& (2147483647 : Int32)) % (7 : Int32)))] [])) (fun t k => XS.icmpYes X0.here hx rfl (pc0 := 45) (pc' := 52) rfl (hb hby own_d_method_2_code_45) rfl (XT.ii_ne_t b9) (by decide) (by decide) k) ?_
            refine Goes.via (B := s₁.setTop (mkF m 53 #[.val (.int x1), .val (.int ((x1 &&& (2147483647 : Int32)) % (7 : Int32)))] [(.int ((x1 &&& (2147483647 : Int32)) % (7 : Int32)))])) (fun t k => XS.iloadN X0.here hx rfl (hb hby own_d_method_2_code_52) rfl k) ?_
            refine Goes.via (B := s₁.setTop (mkF m 54 #[.val (.int x1), .val (.int ((x1 &&& (2147483647 : Int32)) % (7 : Int32)))] [(.int (5 : Int32)), (.int ((x1 &&& (2147483647 : Int32)) % (7 : Int32)))])) (fun t k => XS.iconst X0.here hx rfl (hb hby own_d_method_2_code_53) k) ?_
            by_cases b11 : ((x1 &&& (2147483647 : Int32)) % (7 : Int32)) = (5 : Int32)
            · refine Goes.via (B := s₁.setTop (mkF m 57 #[.val (.int x1), .val (.int ((x1 &&& (2147483647 : Int32)) % (7 : Int32)))] [])) (fun t k => XS.icmpNo X0.here hx rfl (hb hby own_d_method_2_code_54) rfl (XT.ii_ne_f b11) k) ?_
              obtain ⟨T12, X12, e12, st12⟩ := getS2 X0 hx hZ hown (host := "") (Or.inl (hw _ (List.mem_of_getElem? (i := 73) rfl))) Via.refl e0 (Sta.ext O0.2 O_6) (g := (mkF m 57 #[.val (.int x1), .val (.int ((x1 &&& (2147483647 : Int32)) % (7 : Int32)))] [])) rfl (hb hby own_d_method_2_code_57)
              refine Goes.via (B := T12.setTop (mkF m 60 #[.val (.int x1), .val (.int ((x1 &&& (2147483647 : Int32)) % (7 : Int32)))] [(.ref fq5)])) (fun t k => st12 _ k) ?_
              exact finA (Q := (own_Q3 Z x1 fq0 fq1 fq2 fq3 fq4 fq5 fq6 h0 n0)) (F := FrameEnd) (C := (({ frames := 0, cells := 0, slots := 0, locals := 0 } : Room)).cells) (S := (({ frames := 0, cells := 0, slots := 0, locals := 0 } : Room)).slots) X12 hx Bd.returns rfl rfl rfl (hb hby own_d_method_2_code_60) e12 ⟨fq5, rfl, N0, rfl⟩ (lvN X12 hlk (by decide) (by decide))
            · refine Goes.via (B := s₁.setTop (mkF m 61 #[.val (.int x1), .val (.int ((x1 &&& (2147483647 : Int32)) % (7 : Int32)))] [])) (fun t k => XS.icmpYes X0.here hx rfl (pc0 := 54) (pc' := 61) rfl (hb hby own_d_method_2_code_54) rfl (XT.ii_ne_t b11) (by decide) (by decide) k) ?_
              obtain ⟨T13, X13, e13, st13⟩ := getS2 X0 hx hZ hown (host := "") (Or.inl (hw _ (List.mem_of_getElem? (i := 75) rfl))) Via.refl e0 (Sta.ext O0.2 O_7) (g := (mkF m 61 #[.val (.int x1), .val (.int ((x1 &&& (2147483647 : Int32)) % (7 : Int32)))] [])) rfl (hb hby own_d_method_2_code_61)
              refine Goes.via (B := T13.setTop (mkF m 64 #[.val (.int x1), .val (.int ((x1 &&& (2147483647 : Int32)) % (7 : Int32)))] [(.ref fq6)])) (fun t k => st13 _ k) ?_
              exact finA (Q := (own_Q3 Z x1 fq0 fq1 fq2 fq3 fq4 fq5 fq6 h0 n0)) (F := FrameEnd) (C := (({ frames := 0, cells := 0, slots := 0, locals := 0 } : Room)).cells) (S := (({ frames := 0, cells := 0, slots := 0, locals := 0 } : Room)).slots) X13 hx Bd.returns rfl rfl rfl (hb hby own_d_method_2_code_64) e13 ⟨fq6, rfl, N0, rfl⟩ (lvN X13 hlk (by decide) (by decide))
theorem own_pn1 : plainName "java/lang/Record" = true := by first | (simp [plainName, overriddenIn]; done) | decide +kernel
theorem own_d_jdk_30_method_1_code_0 : decode jdk_30_method_1_code 0 = .ok (.aload_n 0, 1) := by decide +kernel
theorem own_d_jdk_30_method_1_code_1 : decode jdk_30_method_1_code 1 = .ok (.invokespecial 1, 3) := by decide +kernel
theorem own_d_jdk_30_method_1_code_4 : decode jdk_30_method_1_code 4 = .ok (.return_, 1) := by decide +kernel
theorem own_ef4 (m : MethodId) (x0 : Addr)  : entryFrame m #[(.ref x0)] 1 = mkF m 0 #[.val (.ref x0)] [] := by first | (simp [entryFrame, mkF, argsToLocals, Value.category]; done) | rfl
abbrev own_Q4 (Z : State) (a1 : Addr) (h0 : Heap) (n0 : Nat) (v : Option Value) (h : Heap) (L : List Loc) : Prop := v = none ∧ Fr n0 L ∧ h = h0
set_option maxRecDepth 65536 in
set_option maxHeartbeats 40000000 in
theorem own_m4 (l : Launch) (Z : State) (a0 : Array Value) (hw : ∀ d ∈ tables_1, d.before a0 Z = true) (ws : List Jvm.Cond) (a1 : Addr) (h0 : Heap) (n0 : Nat) (O0 : Old Z n0 h0) :
    Ctr l Z (⟨"java/lang/Record", "<init>", "()V"⟩ : MethodName) jdk_30_method_1_code 1 none ({ frames := 1, cells := 0, slots := 0, locals := 12 } : Room) #[(.ref a1)] h0 (own_Q4 Z a1 h0 n0) ws := by
  refine MetFree.of_bodySF (plainFor_of_name own_pn1) hisR ?_
  intro p e s m args below meth c s₁ Bd hml0 hP hK
  obtain ⟨rfl, hZ, hh⟩ := hP
  have hx := Bd.exec
  have hby := Bd.bytes
  have hlk : meth.locks = false := Bd.notSynchronized
  have hml : c.maxLocals = 1 := hml0
  have hown : s.vm.findClass "java/lang/Record" = some m.cls := findClass_of_methodNamed Bd.named
  have hnm := (name_of_methodNamed Bd.named Bd.method).1
  have X0 : Stand p l e ({ frames := 1, cells := 0, slots := 0, locals := 12 } : Room) s m #[(.ref a1)] below meth c s₁ [] 0 0 := Stand.of_body Bd
  have e0 : s₁.heap = h0 := by rw [← hh, Bd.state]; rfl
  have N0 := Fr.nil n0
  show Goes p.tables e below (fun t o => ∃ v L, o = .returned v ∧ (own_Q4 Z a1 h0 n0) v t.heap L ∧ FrameEnd s o t L (({ frames := 1, cells := 0, slots := 0, locals := 12 } : Room)).cells (({ frames := 1, cells := 0, slots := 0, locals := 12 } : Room)).slots) _
  refine Goes.via (B := s₁.setTop (mkF m 0 #[.val (.ref a1)] [])) (fun t k => castTop (own_ef4 m a1) k) ?_
  refine Goes.via (B := s₁.setTop (mkF m 1 #[.val (.ref a1)] [(.ref a1)])) (fun t k => XS.aloadN X0.here hx rfl (hb hby own_d_jdk_30_method_1_code_0) rfl rfl k) ?_
  obtain ⟨T1, X1, e1, st1⟩ := initO X0 hx hZ hown (hw _ (List.mem_of_getElem? (i := 23) rfl)) (hw _ (List.mem_of_getElem? (i := 24) rfl)) (hw _ (List.mem_of_getElem? (i := 25) rfl)) e0 (g := (mkF m 1 #[.val (.ref a1)] [(.ref a1)])) rfl (by rw [hml]; rfl) rfl (hb hby own_d_jdk_30_method_1_code_1) (by decide) (W := 0) (by show 2 * 0 + _ ≤ _; exact Nat.le_of_eq rfl) (by decide)
  refine Goes.via (B := T1.setTop (mkF m 4 #[.val (.ref a1)] [])) (fun t k => st1 _ k) ?_
  exact fin0 (Q := (own_Q4 Z a1 h0 n0)) (F := FrameEnd) (C := (({ frames := 1, cells := 0, slots := 0, locals := 12 } : Room)).cells) (S := (({ frames := 1, cells := 0, slots := 0, locals := 12 } : Room)).slots) X1 hx Bd.returns (hb hby own_d_jdk_30_method_1_code_4) e1 ⟨rfl, N0, rfl⟩ (lvN X1 hlk (by decide) (by decide))
theorem own_pn2 : plainName "java/util/Objects" = true := by first | (simp [plainName, overriddenIn]; done) | decide +kernel
theorem own_d_jdk_31_method_11_code_0 : decode jdk_31_method_11_code 0 = .ok (.aload_n 0, 1) := by decide +kernel
theorem own_d_jdk_31_method_11_code_1 : decode jdk_31_method_11_code 1 = .ok (.ifnonnull 12, 3) := by decide +kernel
theorem own_d_jdk_31_method_11_code_13 : decode jdk_31_method_11_code 13 = .ok (.aload_n 0, 1) := by decide +kernel
theorem own_d_jdk_31_method_11_code_14 : decode jdk_31_method_11_code 14 = .ok (.areturn, 1) := by decide +kernel
theorem own_ef5 (m : MethodId) (x0 : Addr) (x1 : Addr)  : entryFrame m #[(.ref x0), (.ref x1)] 2 = mkF m 0 #[.val (.ref x0), .val (.ref x1)] [] := by first | (simp [entryFrame, mkF, argsToLocals, Value.category]; done) | rfl
abbrev own_Q5 (Z : State) (a1 : Addr) (a2 : Addr) (h0 : Heap) (n0 : Nat) (v : Option Value) (h : Heap) (L : List Loc) : Prop := v = some (.ref a1) ∧ Fr n0 L ∧ h = h0
set_option maxRecDepth 65536 in
set_option maxHeartbeats 40000000 in
theorem own_m5 (l : Launch) (Z : State) (a0 : Array Value) (hw : ∀ d ∈ tables_1, d.before a0 Z = true) (ws : List Jvm.Cond) (a1 : Addr) (a2 : Addr) (h0 : Heap) (n0 : Nat) (O0 : Old Z n0 h0) :
    Ctr l Z (⟨"java/util/Objects", "requireNonNull", "(Ljava/lang/Object;Ljava/lang/String;)Ljava/lang/Object;"⟩ : MethodName) jdk_31_method_11_code 2 (some (.object "java/lang/Object")) ({ frames := 0, cells := 0, slots := 0, locals := 0 } : Room) #[(.ref a1), (.ref a2)] h0 (own_Q5 Z a1 a2 h0 n0) ws := by
  refine MetFree.of_bodySF (plainFor_of_name own_pn2) hisR ?_
  intro p e s m args below meth c s₁ Bd hml0 hP hK
  obtain ⟨rfl, hZ, hh⟩ := hP
  have hx := Bd.exec
  have hby := Bd.bytes
  have hlk : meth.locks = false := Bd.notSynchronized
  have hml : c.maxLocals = 2 := hml0
  have hown : s.vm.findClass "java/util/Objects" = some m.cls := findClass_of_methodNamed Bd.named
  have hnm := (name_of_methodNamed Bd.named Bd.method).1
  have X0 : Stand p l e ({ frames := 0, cells := 0, slots := 0, locals := 0 } : Room) s m #[(.ref a1), (.ref a2)] below meth c s₁ [] 0 0 := Stand.of_body Bd
  have e0 : s₁.heap = h0 := by rw [← hh, Bd.state]; rfl
  have N0 := Fr.nil n0
  show Goes p.tables e below (fun t o => ∃ v L, o = .returned v ∧ (own_Q5 Z a1 a2 h0 n0) v t.heap L ∧ FrameEnd s o t L (({ frames := 0, cells := 0, slots := 0, locals := 0 } : Room)).cells (({ frames := 0, cells := 0, slots := 0, locals := 0 } : Room)).slots) _
  refine Goes.via (B := s₁.setTop (mkF m 0 #[.val (.ref a1), .val (.ref a2)] [])) (fun t k => castTop (own_ef5 m a1 a2) k) ?_
  refine Goes.via (B := s₁.setTop (mkF m 1 #[.val (.ref a1), .val (.ref a2)] [(.ref a1)])) (fun t k => XS.aloadN X0.here hx rfl (hb hby own_d_jdk_31_method_11_code_0) rfl rfl k) ?_
  refine Goes.via (B := s₁.setTop (mkF m 13 #[.val (.ref a1), .val (.ref a2)] [])) (fun t k => XS.ifnonnullYes X0.here hx rfl (pc0 := 1) (pc' := 13) rfl (hb hby own_d_jdk_31_method_11_code_1) rfl (by decide) (by decide) k) ?_
  refine Goes.via (B := s₁.setTop (mkF m 14 #[.val (.ref a1), .val (.ref a2)] [(.ref a1)])) (fun t k => XS.aloadN X0.here hx rfl (hb hby own_d_jdk_31_method_11_code_13) rfl rfl k) ?_
  exact finA (Q := (own_Q5 Z a1 a2 h0 n0)) (F := FrameEnd) (C := (({ frames := 0, cells := 0, slots := 0, locals := 0 } : Room)).cells) (S := (({ frames := 0, cells := 0, slots := 0, locals := 0 } : Room)).slots) X0 hx Bd.returns rfl rfl rfl (hb hby own_d_jdk_31_method_11_code_14) e0 ⟨rfl, N0, rfl⟩ (lvN X0 hlk (by decide) (by decide))
theorem own_pn3 : plainName "com/example/vestwright/vestwright/core/Bounds" = true := by first | (simp [plainName, overriddenIn]; done) | decide +kernel
theorem own_d_prog_24_method_5_code_0 : decode prog_24_method_5_code 0 = .ok (.lload_n 1, 1) := by decide +kernel
theorem own_d_prog_24_method_5_code_1 : decode prog_24_method_5_code 1 = .ok (.lload_n 3, 1) := by decide +kernel
theorem own_d_prog_24_method_5_code_2 : decode prog_24_method_5_code 2 = .ok (.lcmp, 1) := by decide +kernel
theorem own_d_prog_24_method_5_code_3 : decode prog_24_method_5_code 3 = .ok (.ifCond .lt 10, 3) := by decide +kernel
theorem own_d_prog_24_method_5_code_6 : decode prog_24_method_5_code 6 = .ok (.lload_n 1, 1) := by decide +kernel
theorem own_d_prog_24_method_5_code_7 : decode prog_24_method_5_code 7 = .ok (.lload 5, 2) := by decide +kernel
theorem own_d_prog_24_method_5_code_9 : decode prog_24_method_5_code 9 = .ok (.lcmp, 1) := by decide +kernel
theorem own_d_prog_24_method_5_code_10 : decode prog_24_method_5_code 10 = .ok (.ifCond .le 14, 3) := by decide +kernel
theorem own_d_prog_24_method_5_code_24 : decode prog_24_method_5_code 24 = .ok (.return_, 1) := by decide +kernel
theorem own_ef6 (m : MethodId) (x0 : Addr) (x1 : Int64) (x2 : Int64) (x3 : Int64)  : entryFrame m #[(.ref x0), (.long x1), (.long x2), (.long x3)] 7 = mkF m 0 #[.val (.ref x0), .val (.long x1), .second, .val (.long x2), .second, .val (.long x3), .second] [] := by first | (simp [entryFrame, mkF, argsToLocals, Value.category]; done) | rfl
abbrev own_Q6 (Z : State) (a1 : Addr) (x1 : Int64) (x2 : Int64) (x3 : Int64) (h0 : Heap) (n0 : Nat) (v : Option Value) (h : Heap) (L : List Loc) : Prop := v = none ∧ Fr n0 L ∧ h = h0
set_option maxRecDepth 65536 in
set_option maxHeartbeats 40000000 in
theorem own_m6 (l : Launch) (Z : State) (a0 : Array Value) (hw : ∀ d ∈ tables_1, d.before a0 Z = true) (ws : List Jvm.Cond) (a1 : Addr) (x1 : Int64) (x2 : Int64) (x3 : Int64) (h0 : Heap) (n0 : Nat) (O0 : Old Z n0 h0) (hc1 : ¬ x1 < x2) (hc2 : ¬ x3 < x1) :
    Ctr l Z (⟨"com/example/vestwright/vestwright/core/Bounds", "checkWithin", "(Ljava/lang/String;JJJ)V"⟩ : MethodName) prog_24_method_5_code 7 none ({ frames := 0, cells := 0, slots := 0, locals := 0 } : Room) #[(.ref a1), (.long x1), (.long x2), (.long x3)] h0 (own_Q6 Z a1 x1 x2 x3 h0 n0) ws := by
  refine MetFree.of_bodySF (plainFor_of_name own_pn3) hisR ?_
  intro p e s m args below meth c s₁ Bd hml0 hP hK
  obtain ⟨rfl, hZ, hh⟩ := hP
  have hx := Bd.exec
  have hby := Bd.bytes
  have hlk : meth.locks = false := Bd.notSynchronized
  have hml : c.maxLocals = 7 := hml0
  have hown : s.vm.findClass "com/example/vestwright/vestwright/core/Bounds" = some m.cls := findClass_of_methodNamed Bd.named
  have hnm := (name_of_methodNamed Bd.named Bd.method).1
  have X0 : Stand p l e ({ frames := 0, cells := 0, slots := 0, locals := 0 } : Room) s m #[(.ref a1), (.long x1), (.long x2), (.long x3)] below meth c s₁ [] 0 0 := Stand.of_body Bd
  have e0 : s₁.heap = h0 := by rw [← hh, Bd.state]; rfl
  have N0 := Fr.nil n0
  show Goes p.tables e below (fun t o => ∃ v L, o = .returned v ∧ (own_Q6 Z a1 x1 x2 x3 h0 n0) v t.heap L ∧ FrameEnd s o t L (({ frames := 0, cells := 0, slots := 0, locals := 0 } : Room)).cells (({ frames := 0, cells := 0, slots := 0, locals := 0 } : Room)).slots) _
  refine Goes.via (B := s₁.setTop (mkF m 0 #[.val (.ref a1), .val (.long x1), .second, .val (.long x2), .second, .val (.long x3), .second] [])) (fun t k => castTop (own_ef6 m a1 x1 x2 x3) k) ?_
  refine Goes.via (B := s₁.setTop (mkF m 1 #[.val (.ref a1), .val (.long x1), .second, .val (.long x2), .second, .val (.long x3), .second] [(.long x1)])) (fun t k => XS.lloadN X0.here hx rfl (hb hby own_d_prog_24_method_5_code_0) rfl k) ?_
  refine Goes.via (B := s₁.setTop (mkF m 2 #[.val (.ref a1), .val (.long x1), .second, .val (.long x2), .second, .val (.long x3), .second] [(.long x2), (.long x1)])) (fun t k => XS.lloadN X0.here hx rfl (hb hby own_d_prog_24_method_5_code_1) rfl k) ?_
  refine Goes.via (B := s₁.setTop (mkF m 3 #[.val (.ref a1), .val (.long x1), .second, .val (.long x2), .second, .val (.long x3), .second] [(.int (XT.cmpL x1 x2))])) (fun t k => XT.lcmp X0.here hx rfl (hb hby own_d_prog_24_method_5_code_2) rfl k) ?_
  refine Goes.via (B := s₁.setTop (mkF m 6 #[.val (.ref a1), .val (.long x1), .second, .val (.long x2), .second, .val (.long x3), .second] [])) (fun t k => XS.ifNo X0.here hx rfl (hb hby own_d_prog_24_method_5_code_3) rfl (XT.ll_lt_f hc1) k) ?_
  refine Goes.via (B := s₁.setTop (mkF m 7 #[.val (.ref a1), .val (.long x1), .second, .val (.long x2), .second, .val (.long x3), .second] [(.long x1)])) (fun t k => XS.lloadN X0.here hx rfl (hb hby own_d_prog_24_method_5_code_6) rfl k) ?_
  refine Goes.via (B := s₁.setTop (mkF m 9 #[.val (.ref a1), .val (.long x1), .second, .val (.long x2), .second, .val (.long x3), .second] [(.long x3), (.long x1)])) (fun t k => XS.lload X0.here hx rfl (hb hby own_d_prog_24_method_5_code_7) rfl k) ?_
  refine Goes.via (B := s₁.setTop (mkF m 10 #[.val (.ref a1), .val (.long x1), .second, .val (.long x2), .second, .val (.long x3), .second] [(.int (XT.cmpL x1 x3))])) (fun t k => XT.lcmp X0.here hx rfl (hb hby own_d_prog_24_method_5_code_9) rfl k) ?_
  refine Goes.via (B := s₁.setTop (mkF m 24 #[.val (.ref a1), .val (.long x1), .second, .val (.long x2), .second, .val (.long x3), .second] [])) (fun t k => XS.ifYes X0.here hx rfl (pc0 := 10) (pc' := 24) rfl (hb hby own_d_prog_24_method_5_code_10) rfl (XT.ll_le_t hc2) (by decide) (by decide) k) ?_
  exact fin0 (Q := (own_Q6 Z a1 x1 x2 x3 h0 n0)) (F := FrameEnd) (C := (({ frames := 0, cells := 0, slots := 0, locals := 0 } : Room)).cells) (S := (({ frames := 0, cells := 0, slots := 0, locals := 0 } : Room)).slots) X0 hx Bd.returns (hb hby own_d_prog_24_method_5_code_24) e0 ⟨rfl, N0, rfl⟩ (lvN X0 hlk (by decide) (by decide))
theorem own_d_prog_24_method_2_code_0 : decode prog_24_method_2_code 0 = .ok (.aload_n 0, 1) := by decide +kernel
theorem own_d_prog_24_method_2_code_1 : decode prog_24_method_2_code 1 = .ok (.lload_n 1, 1) := by decide +kernel
theorem own_d_prog_24_method_2_code_2 : decode prog_24_method_2_code 2 = .ok (.lload_n 3, 1) := by decide +kernel
theorem own_d_prog_24_method_2_code_3 : decode prog_24_method_2_code 3 = .ok (.ldc2_w 9, 3) := by decide +kernel
theorem own_d_prog_24_method_2_code_6 : decode prog_24_method_2_code 6 = .ok (.invokestatic 11, 3) := by decide +kernel
theorem own_pd0 : parseMethodDescriptor "(Ljava/lang/String;JJJ)V" = some ⟨[(.object "java/lang/String"), .long, .long, .long], none⟩ := by decide +kernel
theorem own_d_prog_24_method_2_code_9 : decode prog_24_method_2_code 9 = .ok (.return_, 1) := by decide +kernel
theorem own_ef7 (m : MethodId) (x0 : Addr) (x1 : Int64) (x2 : Int64)  : entryFrame m #[(.ref x0), (.long x1), (.long x2)] 5 = mkF m 0 #[.val (.ref x0), .val (.long x1), .second, .val (.long x2), .second] [] := by first | (simp [entryFrame, mkF, argsToLocals, Value.category]; done) | rfl
abbrev own_Q7 (Z : State) (a1 : Addr) (x1 : Int64) (x2 : Int64) (h0 : Heap) (n0 : Nat) (v : Option Value) (h : Heap) (L : List Loc) : Prop := v = none ∧ Fr n0 L ∧ h = h0
set_option maxRecDepth 65536 in
set_option maxHeartbeats 40000000 in
theorem own_m7 (l : Launch) (Z : State) (a0 : Array Value) (hw : ∀ d ∈ tables_1, d.before a0 Z = true) (ws : List Jvm.Cond) (a1 : Addr) (x1 : Int64) (x2 : Int64) (h0 : Heap) (n0 : Nat) (O0 : Old Z n0 h0) (hc1 : ¬ x1 < x2) :
    Ctr l Z (⟨"com/example/vestwright/vestwright/core/Bounds", "checkAtLeast", "(Ljava/lang/String;JJ)V"⟩ : MethodName) prog_24_method_2_code 5 none ({ frames := 1, cells := 0, slots := 0, locals := 18 } : Room) #[(.ref a1), (.long x1), (.long x2)] h0 (own_Q7 Z a1 x1 x2 h0 n0) ws := by
  refine MetFree.of_bodySF (plainFor_of_name own_pn3) hisR ?_
  intro p e s m args below meth c s₁ Bd hml0 hP hK
  obtain ⟨rfl, hZ, hh⟩ := hP
  have hx := Bd.exec
  have hby := Bd.bytes
  have hlk : meth.locks = false := Bd.notSynchronized
  have hml : c.maxLocals = 5 := hml0
  have hown : s.vm.findClass "com/example/vestwright/vestwright/core/Bounds" = some m.cls := findClass_of_methodNamed Bd.named
  have hnm := (name_of_methodNamed Bd.named Bd.method).1
  have X0 : Stand p l e ({ frames := 1, cells := 0, slots := 0, locals := 18 } : Room) s m #[(.ref a1), (.long x1), (.long x2)] below meth c s₁ [] 0 0 := Stand.of_body Bd
  have e0 : s₁.heap = h0 := by rw [← hh, Bd.state]; rfl
  have N0 := Fr.nil n0
  show Goes p.tables e below (fun t o => ∃ v L, o = .returned v ∧ (own_Q7 Z a1 x1 x2 h0 n0) v t.heap L ∧ FrameEnd s o t L (({ frames := 1, cells := 0, slots := 0, locals := 18 } : Room)).cells (({ frames := 1, cells := 0, slots := 0, locals := 18 } : Room)).slots) _
  refine Goes.via (B := s₁.setTop (mkF m 0 #[.val (.ref a1), .val (.long x1), .second, .val (.long x2), .second] [])) (fun t k => castTop (own_ef7 m a1 x1 x2) k) ?_
  refine Goes.via (B := s₁.setTop (mkF m 1 #[.val (.ref a1), .val (.long x1), .second, .val (.long x2), .second] [(.ref a1)])) (fun t k => XS.aloadN X0.here hx rfl (hb hby own_d_prog_24_method_2_code_0) rfl rfl k) ?_
  refine Goes.via (B := s₁.setTop (mkF m 2 #[.val (.ref a1), .val (.long x1), .second, .val (.long x2), .second] [(.long x1), (.ref a1)])) (fun t k => XS.lloadN X0.here hx rfl (hb hby own_d_prog_24_method_2_code_1) rfl k) ?_
  refine Goes.via (B := s₁.setTop (mkF m 3 #[.val (.ref a1), .val (.long x1), .second, .val (.long x2), .second] [(.long x2), (.long x1), (.ref a1)])) (fun t k => XS.lloadN X0.here hx rfl (hb hby own_d_prog_24_method_2_code_2) rfl k) ?_
  refine Goes.via (B := s₁.setTop (mkF m 6 #[.val (.ref a1), .val (.long x1), .second, .val (.long x2), .second] [(.long (9223372036854775807 : Int64)), (.long x2), (.long x1), (.ref a1)])) (fun t k => X0.ldc2J hx hown (mvT hZ (hw _ (List.mem_of_getElem? (i := 43) rfl))) rfl (hb hby own_d_prog_24_method_2_code_3) k) ?_
  obtain ⟨_, T1, L1, X1, ⟨rfl, M1, K1⟩, st1⟩ := callStatic X0 hx hZ hown (hw _ (List.mem_of_getElem? (i := 44) rfl)) (hw _ (List.mem_of_getElem? (i := 45) rfl)) (hw _ (List.mem_of_getElem? (i := 41) rfl)) (hw _ (List.mem_of_getElem? (i := 46) rfl)) (by decide) (argsL := [(.ref a1), (.long x1), (.long x2), (.long (9223372036854775807 : Int64))]) (rest := []) (own_m6 l Z a0 hw [] a1 x1 x2 (9223372036854775807 : Int64) h0 n0 O0 hc1 (own_top _)) e0 (lenOf own_pd0 rfl) (pc := 6) (Ls := #[.val (.ref a1), .val (.long x1), .second, .val (.long x2), .second]) (st := [(.long (9223372036854775807 : Int64)), (.long x2), (.long x1), (.ref a1)]) rfl (by rw [hml]; rfl) (hb hby own_d_prog_24_method_2_code_6) (W := 0) (Nat.le_of_eq rfl) (by decide) (by decide) (by decide) (by decide)
  have N1 := Fr.app N0 M1
  refine Goes.via (B := T1.setTop (mkF m 9 #[.val (.ref a1), .val (.long x1), .second, .val (.long x2), .second] [])) (fun t k => st1 _ k) ?_
  exact fin0 (Q := (own_Q7 Z a1 x1 x2 h0 n0)) (F := FrameEnd) (C := (({ frames := 1, cells := 0, slots := 0, locals := 18 } : Room)).cells) (S := (({ frames := 1, cells := 0, slots := 0, locals := 18 } : Room)).slots) X1 hx Bd.returns (hb hby own_d_prog_24_method_2_code_9) K1 ⟨rfl, N1, rfl⟩ (lvN X1 hlk (by decide) (by decide))
theorem own_pn4 : plainName "com/example/vestwright/vestwright/core/Installments" = true := by first | (simp [plainName, overriddenIn]; done) | decide +kernel
theorem own_d_prog_61_method_1_code_0 : decode prog_61_method_1_code 0 = .ok (.aload_n 0, 1) := by decide +kernel
theorem own_d_prog_61_method_1_code_1 : decode prog_61_method_1_code 1 = .ok (.invokespecial 1, 3) := by decide +kernel
theorem own_pd1 : parseMethodDescriptor "()V" = some ⟨[], none⟩ := by decide +kernel
theorem own_d_prog_61_method_1_code_4 : decode prog_61_method_1_code 4 = .ok (.aload 4, 2) := by decide +kernel
theorem own_d_prog_61_method_1_code_6 : decode prog_61_method_1_code 6 = .ok (.ldc 7, 2) := by decide +kernel
theorem own_wS {a0 : Array Value} {Z : State} (hw : ∀ d ∈ tables_1, d.before a0 Z = true) : ∀ a ∈ Bundle.stringAtoms, a.before a0 Z = true := by
  intro d hd
  simp only [Bundle.stringAtoms, List.mem_cons, List.not_mem_nil, or_false] at hd
  rcases hd with rfl | rfl | rfl | rfl | rfl | rfl | rfl
  all_goals first | exact (hw _ (List.mem_of_getElem? (i := 27) rfl)) | exact (hw _ (List.mem_of_getElem? (i := 28) rfl)) | exact (hw _ (List.mem_of_getElem? (i := 29) rfl)) | exact (hw _ (List.mem_of_getElem? (i := 30) rfl)) | exact (hw _ (List.mem_of_getElem? (i := 31) rfl)) | exact (hw _ (List.mem_of_getElem? (i := 32) rfl)) | exact (hw _ (List.mem_of_getElem? (i := 33) rfl))
theorem own_d_prog_61_method_1_code_8 : decode prog_61_method_1_code 8 = .ok (.invokestatic 9, 3) := by decide +kernel
theorem own_pd2 : parseMethodDescriptor "(Ljava/lang/Object;Ljava/lang/String;)Ljava/lang/Object;" = some ⟨[(.object "java/lang/Object"), (.object "java/lang/String")], some (.object "java/lang/Object")⟩ := by decide +kernel
theorem own_d_prog_61_method_1_code_11 : decode prog_61_method_1_code 11 = .ok (.pop, 1) := by decide +kernel
theorem own_d_prog_61_method_1_code_12 : decode prog_61_method_1_code 12 = .ok (.ldc 15, 2) := by decide +kernel
theorem own_d_prog_61_method_1_code_14 : decode prog_61_method_1_code 14 = .ok (.iload_n 1, 1) := by decide +kernel
theorem own_d_prog_61_method_1_code_15 : decode prog_61_method_1_code 15 = .ok (.i2l, 1) := by decide +kernel
theorem own_d_prog_61_method_1_code_16 : decode prog_61_method_1_code 16 = .ok (.lconst 1, 1) := by decide +kernel
theorem own_d_prog_61_method_1_code_17 : decode prog_61_method_1_code 17 = .ok (.invokestatic 17, 3) := by decide +kernel
theorem own_pd3 : parseMethodDescriptor "(Ljava/lang/String;JJ)V" = some ⟨[(.object "java/lang/String"), .long, .long], none⟩ := by decide +kernel
theorem own_d_prog_61_method_1_code_20 : decode prog_61_method_1_code 20 = .ok (.ldc 23, 2) := by decide +kernel
theorem own_d_prog_61_method_1_code_22 : decode prog_61_method_1_code 22 = .ok (.iload_n 2, 1) := by decide +kernel
theorem own_d_prog_61_method_1_code_23 : decode prog_61_method_1_code 23 = .ok (.i2l, 1) := by decide +kernel
theorem own_d_prog_61_method_1_code_24 : decode prog_61_method_1_code 24 = .ok (.lconst 1, 1) := by decide +kernel
theorem own_d_prog_61_method_1_code_25 : decode prog_61_method_1_code 25 = .ok (.invokestatic 17, 3) := by decide +kernel
theorem own_d_prog_61_method_1_code_28 : decode prog_61_method_1_code 28 = .ok (.ldc 25, 2) := by decide +kernel
theorem own_d_prog_61_method_1_code_30 : decode prog_61_method_1_code 30 = .ok (.iload_n 3, 1) := by decide +kernel
theorem own_d_prog_61_method_1_code_31 : decode prog_61_method_1_code 31 = .ok (.i2l, 1) := by decide +kernel
theorem own_d_prog_61_method_1_code_32 : decode prog_61_method_1_code 32 = .ok (.lconst 0, 1) := by decide +kernel
theorem own_d_prog_61_method_1_code_33 : decode prog_61_method_1_code 33 = .ok (.invokestatic 17, 3) := by decide +kernel
theorem own_d_prog_61_method_1_code_36 : decode prog_61_method_1_code 36 = .ok (.aload_n 0, 1) := by decide +kernel
theorem own_d_prog_61_method_1_code_37 : decode prog_61_method_1_code 37 = .ok (.iload_n 1, 1) := by decide +kernel
theorem own_d_prog_61_method_1_code_38 : decode prog_61_method_1_code 38 = .ok (.putfield 27, 3) := by decide +kernel
theorem own_d_prog_61_method_1_code_41 : decode prog_61_method_1_code 41 = .ok (.aload_n 0, 1) := by decide +kernel
theorem own_d_prog_61_method_1_code_42 : decode prog_61_method_1_code 42 = .ok (.iload_n 2, 1) := by decide +kernel
theorem own_d_prog_61_method_1_code_43 : decode prog_61_method_1_code 43 = .ok (.putfield 33, 3) := by decide +kernel
theorem own_d_prog_61_method_1_code_46 : decode prog_61_method_1_code 46 = .ok (.aload_n 0, 1) := by decide +kernel
theorem own_d_prog_61_method_1_code_47 : decode prog_61_method_1_code 47 = .ok (.iload_n 3, 1) := by decide +kernel
theorem own_d_prog_61_method_1_code_48 : decode prog_61_method_1_code 48 = .ok (.putfield 36, 3) := by decide +kernel
theorem own_d_prog_61_method_1_code_51 : decode prog_61_method_1_code 51 = .ok (.aload_n 0, 1) := by decide +kernel
theorem own_d_prog_61_method_1_code_52 : decode prog_61_method_1_code 52 = .ok (.aload 4, 2) := by decide +kernel
theorem own_d_prog_61_method_1_code_54 : decode prog_61_method_1_code 54 = .ok (.putfield 39, 3) := by decide +kernel
theorem own_d_prog_61_method_1_code_57 : decode prog_61_method_1_code 57 = .ok (.return_, 1) := by decide +kernel
theorem own_ef8 (m : MethodId) (x0 : Addr) (x1 : Int32) (x2 : Int32) (x3 : Int32) (x4 : Addr)  : entryFrame m #[(.ref x0), (.int x1), (.int x2), (.int x3), (.ref x4)] 5 = mkF m 0 #[.val (.ref x0), .val (.int x1), .val (.int x2), .val (.int x3), .val (.ref x4)] [] := by first | (simp [entryFrame, mkF, argsToLocals, Value.category]; done) | rfl
abbrev own_Q8 (Z : State) (a1 : Addr) (x2 : Int32) (x3 : Int32) (x4 : Int32) (a5 : Addr) (h0 : Heap) (n0 : Nat) (v : Option Value) (h : Heap) (L : List Loc) : Prop := v = none ∧ Fr n0 L ∧ Keep h0 h [a1] ∧ Exa Z h a1 "com/example/vestwright/vestwright/core/Installments" ∧ Fld Z h a1 "com/example/vestwright/vestwright/core/Installments" "everyMonths" "I" (.int x2) ∧ Fld Z h a1 "com/example/vestwright/vestwright/core/Installments" "count" "I" (.int x3) ∧ Fld Z h a1 "com/example/vestwright/vestwright/core/Installments" "cliffMonths" "I" (.int x4) ∧ Fld Z h a1 "com/example/vestwright/vestwright/core/Installments" "allocation" "Lcom/example/vestwright/vestwright/core/Allocation;" (.ref a5)
set_option maxRecDepth 65536 in
set_option maxHeartbeats 40000000 in
theorem own_m8 (l : Launch) (Z : State) (a0 : Array Value) (hw : ∀ d ∈ tables_1, d.before a0 Z = true) (ws : List Jvm.Cond) (a1 : Addr) (x2 : Int32) (x3 : Int32) (x4 : Int32) (a5 : Addr) (h0 : Heap) (n0 : Nat) (O0 : Old Z n0 h0) (hc2 : ¬ x2.toInt64 < (1 : Int64)) (hc3 : ¬ x3.toInt64 < (1 : Int64)) (hc4 : ¬ x4.toInt64 < (0 : Int64)) (gn_a1 : n0 ≤ a1) (F_1 : Exa Z h0 a1 "com/example/vestwright/vestwright/core/Installments") (F_2 : Fld Z h0 a1 "com/example/vestwright/vestwright/core/Installments" "everyMonths" "I" (.int (0 : Int32))) (F_3 : Fld Z h0 a1 "com/example/vestwright/vestwright/core/Installments" "count" "I" (.int (0 : Int32))) (F_4 : Fld Z h0 a1 "com/example/vestwright/vestwright/core/Installments" "cliffMonths" "I" (.int (0 : Int32))) (F_5 : Fld Z h0 a1 "com/example/vestwright/vestwright/core/Installments" "allocation" "Lcom/example/vestwright/vestwright/core/Allocation;" .null) :
    CtrW l Z (⟨"com/example/vestwright/vestwright/core/Installments", "<init>", "(IIILcom/example/vestwright/vestwright/core/Allocation;)V"⟩ : MethodName) prog_61_method_1_code 5 none ({ frames := 2, cells := 8, slots := 200, locals := 34 } : Room) #[(.ref a1), (.int x2), (.int x3), (.int x4), (.ref a5)] h0 (own_Q8 Z a1 x2 x3 x4 a5 h0 n0) ws := by
  refine MetFree.of_bodySF (plainFor_of_name own_pn4) hisR ?_
  intro p e s m args below meth c s₁ Bd hml0 hP hK
  obtain ⟨rfl, hZ, hh⟩ := hP
  have hx := Bd.exec
  have hby := Bd.bytes
  have hlk : meth.locks = false := Bd.notSynchronized
  have hml : c.maxLocals = 5 := hml0
  have hown : s.vm.findClass "com/example/vestwright/vestwright/core/Installments" = some m.cls := findClass_of_methodNamed Bd.named
  have hnm := (name_of_methodNamed Bd.named Bd.method).1
  have X0 : Stand p l e ({ frames := 2, cells := 8, slots := 200, locals := 34 } : Room) (s.setVm s.vm) m #[(.ref a1), (.int x2), (.int x3), (.int x4), (.ref a5)] below meth c s₁ [] 0 0 := Stand.of_body Bd
  have hS0 : s.Since s.vm h0.size := (State.WarmedH.refl s).since _
  have hk0 : h0.size ≤ h0.size := Nat.le_refl _
  have e0 : s₁.heap = h0 := by rw [← hh, Bd.state]; rfl
  have N0 := Fr.nil n0
  show Goes p.tables e below (fun t o => ∃ v L, o = .returned v ∧ (own_Q8 Z a1 x2 x3 x4 a5 h0 n0) v t.heap L ∧ ReturnedEndW s o t L (({ frames := 2, cells := 8, slots := 200, locals := 34 } : Room)).cells (({ frames := 2, cells := 8, slots := 200, locals := 34 } : Room)).slots) _
  refine Goes.via (B := s₁.setTop (mkF m 0 #[.val (.ref a1), .val (.int x2), .val (.int x3), .val (.int x4), .val (.ref a5)] [])) (fun t k => castTop (own_ef8 m a1 x2 x3 x4 a5) k) ?_
  refine Goes.via (B := s₁.setTop (mkF m 1 #[.val (.ref a1), .val (.int x2), .val (.int x3), .val (.int x4), .val (.ref a5)] [(.ref a1)])) (fun t k => XS.aloadN X0.here hx rfl (hb hby own_d_prog_61_method_1_code_0) rfl rfl k) ?_
  obtain ⟨_, T1, L1, X1, ⟨rfl, M1, K1⟩, st1⟩ := callInit X0 hx hZ rfl hown (hw _ (List.mem_of_getElem? (i := 18) rfl)) (hw _ (List.mem_of_getElem? (i := 19) rfl)) (hw _ (List.mem_of_getElem? (i := 21) rfl)) (hw _ (List.mem_of_getElem? (i := 22) rfl)) (by decide) (argsL := []) (rest := []) (own_m4 l Z a0 hw [] a1 h0 n0 O0 ) e0 (lenOf own_pd1 rfl) (pc := 1) (Ls := #[.val (.ref a1), .val (.int x2), .val (.int x3), .val (.int x4), .val (.ref a5)]) (st := [(.ref a1)]) rfl (by rw [hml]; rfl) (hb hby own_d_prog_61_method_1_code_1) (W := 0) (Nat.le_of_eq rfl) (by decide) (by decide) (by decide) (by decide)
  have N1 := Fr.app N0 M1
  refine Goes.via (B := T1.setTop (mkF m 4 #[.val (.ref a1), .val (.int x2), .val (.int x3), .val (.int x4), .val (.ref a5)] [])) (fun t k => st1 _ k) ?_
  refine Goes.via (B := T1.setTop (mkF m 6 #[.val (.ref a1), .val (.int x2), .val (.int x3), .val (.int x4), .val (.ref a5)] [(.ref a5)])) (fun t k => XS.aload X1.here hx rfl (hb hby own_d_prog_61_method_1_code_4) rfl rfl k) ?_
  obtain ⟨b2, T2, h2, k2, X2, e2, E2, hS2, hk2, hZ2, hown2, st2⟩ := ldcS X1 hx hZ hown (hw _ (List.mem_of_getElem? (i := 26) rfl)) (own_wS hw) K1 hS0 hk0 (g := (mkF m 6 #[.val (.ref a1), .val (.int x2), .val (.int x3), .val (.int x4), .val (.ref a5)] [(.ref a5)])) rfl (hb hby own_d_prog_61_method_1_code_6) (n := 40) (by decide) (by decide) (by decide) (by decide)
  refine Goes.via (B := T2.setTop (mkF m 8 #[.val (.ref a1), .val (.int x2), .val (.int x3), .val (.int x4), .val (.ref a5)] [(.ref b2), (.ref a5)])) (fun t k => st2 _ k) ?_
  obtain ⟨_, T3, L3, X3, ⟨rfl, M3, K3⟩, st3⟩ := callStatic X2 hx hZ2 hown2 (hw _ (List.mem_of_getElem? (i := 34) rfl)) (hw _ (List.mem_of_getElem? (i := 35) rfl)) (hw _ (List.mem_of_getElem? (i := 36) rfl)) (hw _ (List.mem_of_getElem? (i := 37) rfl)) (by decide) (argsL := [(.ref a5), (.ref b2)]) (rest := []) (own_m5 l Z a0 hw [] a5 b2 h2 n0 (O0.ext E2) ) e2 (lenOf own_pd2 rfl) (pc := 8) (Ls := #[.val (.ref a1), .val (.int x2), .val (.int x3), .val (.int x4), .val (.ref a5)]) (st := [(.ref b2), (.ref a5)]) rfl (by rw [hml]; rfl) (hb hby own_d_prog_61_method_1_code_8) (W := 0) (Nat.le_of_eq rfl) (by decide) (by decide) (by decide) (by decide)
  have N3 := Fr.app N1 M3
  refine Goes.via (B := T3.setTop (mkF m 11 #[.val (.ref a1), .val (.int x2), .val (.int x3), .val (.int x4), .val (.ref a5)] [(.ref a5)])) (fun t k => st3 _ k) ?_
  refine Goes.via (B := T3.setTop (mkF m 12 #[.val (.ref a1), .val (.int x2), .val (.int x3), .val (.int x4), .val (.ref a5)] [])) (fun t k => XS.pop X3.here hx rfl (hb hby own_d_prog_61_method_1_code_11) rfl rfl k) ?_
  obtain ⟨b4, T4, h4, k4, X4, e4, E4, hS4, hk4, hZ4, hown4, st4⟩ := ldcS X3 hx hZ2 hown2 (hw _ (List.mem_of_getElem? (i := 38) rfl)) (own_wS hw) K3 hS2 hk2 (g := (mkF m 12 #[.val (.ref a1), .val (.int x2), .val (.int x3), .val (.int x4), .val (.ref a5)] [])) rfl (hb hby own_d_prog_61_method_1_code_12) (n := 48) (by decide) (by decide) (by decide) (by decide)
  refine Goes.via (B := T4.setTop (mkF m 14 #[.val (.ref a1), .val (.int x2), .val (.int x3), .val (.int x4), .val (.ref a5)] [(.ref b4)])) (fun t k => st4 _ k) ?_
  refine Goes.via (B := T4.setTop (mkF m 15 #[.val (.ref a1), .val (.int x2), .val (.int x3), .val (.int x4), .val (.ref a5)] [(.int x2), (.ref b4)])) (fun t k => XS.iloadN X4.here hx rfl (hb hby own_d_prog_61_method_1_code_14) rfl k) ?_
  refine Goes.via (B := T4.setTop (mkF m 16 #[.val (.ref a1), .val (.int x2), .val (.int x3), .val (.int x4), .val (.ref a5)] [(.long (x2.toInt64)), (.ref b4)])) (fun t k => XS.i2l X4.here hx rfl (hb hby own_d_prog_61_method_1_code_15) rfl k) ?_
  refine Goes.via (B := T4.setTop (mkF m 17 #[.val (.ref a1), .val (.int x2), .val (.int x3), .val (.int x4), .val (.ref a5)] [(.long (1 : Int64)), (.long (x2.toInt64)), (.ref b4)])) (fun t k => XS.lconst X4.here hx rfl (hb hby own_d_prog_61_method_1_code_16) k) ?_
  obtain ⟨_, T5, L5, X5, ⟨rfl, M5, K5⟩, st5⟩ := callStatic X4 hx hZ4 hown4 (hw _ (List.mem_of_getElem? (i := 39) rfl)) (hw _ (List.mem_of_getElem? (i := 40) rfl)) (hw _ (List.mem_of_getElem? (i := 41) rfl)) (hw _ (List.mem_of_getElem? (i := 42) rfl)) (by decide) (argsL := [(.ref b4), (.long (x2.toInt64)), (.long (1 : Int64))]) (rest := []) (own_m7 l Z a0 hw [] b4 x2.toInt64 (1 : Int64) h4 n0 ((O0.ext E2).ext E4) hc2) e4 (lenOf own_pd3 rfl) (pc := 17) (Ls := #[.val (.ref a1), .val (.int x2), .val (.int x3), .val (.int x4), .val (.ref a5)]) (st := [(.long (1 : Int64)), (.long (x2.toInt64)), (.ref b4)]) rfl (by rw [hml]; rfl) (hb hby own_d_prog_61_method_1_code_17) (W := 0) (Nat.le_of_eq rfl) (by decide) (by decide) (by decide) (by decide)
  have N5 := Fr.app N3 M5
  refine Goes.via (B := T5.setTop (mkF m 20 #[.val (.ref a1), .val (.int x2), .val (.int x3), .val (.int x4), .val (.ref a5)] [])) (fun t k => st5 _ k) ?_
  obtain ⟨b6, T6, h6, k6, X6, e6, E6, hS6, hk6, hZ6, hown6, st6⟩ := ldcS X5 hx hZ4 hown4 (hw _ (List.mem_of_getElem? (i := 47) rfl)) (own_wS hw) K5 hS4 hk4 (g := (mkF m 20 #[.val (.ref a1), .val (.int x2), .val (.int x3), .val (.int x4), .val (.ref a5)] [])) rfl (hb hby own_d_prog_61_method_1_code_20) (n := 48) (by decide) (by decide) (by decide) (by decide)
  refine Goes.via (B := T6.setTop (mkF m 22 #[.val (.ref a1), .val (.int x2), .val (.int x3), .val (.int x4), .val (.ref a5)] [(.ref b6)])) (fun t k => st6 _ k) ?_
  refine Goes.via (B := T6.setTop (mkF m 23 #[.val (.ref a1), .val (.int x2), .val (.int x3), .val (.int x4), .val (.ref a5)] [(.int x3), (.ref b6)])) (fun t k => XS.iloadN X6.here hx rfl (hb hby own_d_prog_61_method_1_code_22) rfl k) ?_
  refine Goes.via (B := T6.setTop (mkF m 24 #[.val (.ref a1), .val (.int x2), .val (.int x3), .val (.int x4), .val (.ref a5)] [(.long (x3.toInt64)), (.ref b6)])) (fun t k => XS.i2l X6.here hx rfl (hb hby own_d_prog_61_method_1_code_23) rfl k) ?_
  refine Goes.via (B := T6.setTop (mkF m 25 #[.val (.ref a1), .val (.int x2), .val (.int x3), .val (.int x4), .val (.ref a5)] [(.long (1 : Int64)), (.long (x3.toInt64)), (.ref b6)])) (fun t k => XS.lconst X6.here hx rfl (hb hby own_d_prog_61_method_1_code_24) k) ?_
  obtain ⟨_, T7, L7, X7, ⟨rfl, M7, K7⟩, st7⟩ := callStatic X6 hx hZ6 hown6 (hw _ (List.mem_of_getElem? (i := 39) rfl)) (hw _ (List.mem_of_getElem? (i := 40) rfl)) (hw _ (List.mem_of_getElem? (i := 41) rfl)) (hw _ (List.mem_of_getElem? (i := 42) rfl)) (by decide) (argsL := [(.ref b6), (.long (x3.toInt64)), (.long (1 : Int64))]) (rest := []) (own_m7 l Z a0 hw [] b6 x3.toInt64 (1 : Int64) h6 n0 (((O0.ext E2).ext E4).ext E6) hc3) e6 (lenOf own_pd3 rfl) (pc := 25) (Ls := #[.val (.ref a1), .val (.int x2), .val (.int x3), .val (.int x4), .val (.ref a5)]) (st := [(.long (1 : Int64)), (.long (x3.toInt64)), (.ref b6)]) rfl (by rw [hml]; rfl) (hb hby own_d_prog_61_method_1_code_25) (W := 0) (Nat.le_of_eq rfl) (by decide) (by decide) (by decide) (by decide)
  have N7 := Fr.app N5 M7
  refine Goes.via (B := T7.setTop (mkF m 28 #[.val (.ref a1), .val (.int x2), .val (.int x3), .val (.int x4), .val (.ref a5)] [])) (fun t k => st7 _ k) ?_
  obtain ⟨b8, T8, h8, k8, X8, e8, E8, hS8, hk8, hZ8, hown8, st8⟩ := ldcS X7 hx hZ6 hown6 (hw _ (List.mem_of_getElem? (i := 48) rfl)) (own_wS hw) K7 hS6 hk6 (g := (mkF m 28 #[.val (.ref a1), .val (.int x2), .val (.int x3), .val (.int x4), .val (.ref a5)] [])) rfl (hb hby own_d_prog_61_method_1_code_28) (n := 48) (by decide) (by decide) (by decide) (by decide)
  refine Goes.via (B := T8.setTop (mkF m 30 #[.val (.ref a1), .val (.int x2), .val (.int x3), .val (.int x4), .val (.ref a5)] [(.ref b8)])) (fun t k => st8 _ k) ?_
  refine Goes.via (B := T8.setTop (mkF m 31 #[.val (.ref a1), .val (.int x2), .val (.int x3), .val (.int x4), .val (.ref a5)] [(.int x4), (.ref b8)])) (fun t k => XS.iloadN X8.here hx rfl (hb hby own_d_prog_61_method_1_code_30) rfl k) ?_
  refine Goes.via (B := T8.setTop (mkF m 32 #[.val (.ref a1), .val (.int x2), .val (.int x3), .val (.int x4), .val (.ref a5)] [(.long (x4.toInt64)), (.ref b8)])) (fun t k => XS.i2l X8.here hx rfl (hb hby own_d_prog_61_method_1_code_31) rfl k) ?_
  refine Goes.via (B := T8.setTop (mkF m 33 #[.val (.ref a1), .val (.int x2), .val (.int x3), .val (.int x4), .val (.ref a5)] [(.long (0 : Int64)), (.long (x4.toInt64)), (.ref b8)])) (fun t k => XS.lconst X8.here hx rfl (hb hby own_d_prog_61_method_1_code_32) k) ?_
  obtain ⟨_, T9, L9, X9, ⟨rfl, M9, K9⟩, st9⟩ := callStatic X8 hx hZ8 hown8 (hw _ (List.mem_of_getElem? (i := 39) rfl)) (hw _ (List.mem_of_getElem? (i := 40) rfl)) (hw _ (List.mem_of_getElem? (i := 41) rfl)) (hw _ (List.mem_of_getElem? (i := 42) rfl)) (by decide) (argsL := [(.ref b8), (.long (x4.toInt64)), (.long (0 : Int64))]) (rest := []) (own_m7 l Z a0 hw [] b8 x4.toInt64 (0 : Int64) h8 n0 ((((O0.ext E2).ext E4).ext E6).ext E8) hc4) e8 (lenOf own_pd3 rfl) (pc := 33) (Ls := #[.val (.ref a1), .val (.int x2), .val (.int x3), .val (.int x4), .val (.ref a5)]) (st := [(.long (0 : Int64)), (.long (x4.toInt64)), (.ref b8)]) rfl (by rw [hml]; rfl) (hb hby own_d_prog_61_method_1_code_33) (W := 0) (Nat.le_of_eq rfl) (by decide) (by decide) (by decide) (by decide)
  have N9 := Fr.app N7 M9
  refine Goes.via (B := T9.setTop (mkF m 36 #[.val (.ref a1), .val (.int x2), .val (.int x3), .val (.int x4), .val (.ref a5)] [])) (fun t k => st9 _ k) ?_
  refine Goes.via (B := T9.setTop (mkF m 37 #[.val (.ref a1), .val (.int x2), .val (.int x3), .val (.int x4), .val (.ref a5)] [(.ref a1)])) (fun t k => XS.aloadN X9.here hx rfl (hb hby own_d_prog_61_method_1_code_36) rfl rfl k) ?_
  refine Goes.via (B := T9.setTop (mkF m 38 #[.val (.ref a1), .val (.int x2), .val (.int x3), .val (.int x4), .val (.ref a5)] [(.int x2), (.ref a1)])) (fun t k => XS.iloadN X9.here hx rfl (hb hby own_d_prog_61_method_1_code_37) rfl k) ?_
  obtain ⟨T10, h10, X10, e10, W10, st10⟩ := putF X9 hx hZ8 hown8 (host := "") (Or.inl (hw _ (List.mem_of_getElem? (i := 49) rfl))) Via.refl K9 ((((F_2.ext E2).ext E4).ext E6).ext E8) ((((F_1.ext E2).ext E4).ext E6).ext E8) (Or.inr ⟨(hw _ (List.mem_of_getElem? (i := 50) rfl)), rfl, hnm⟩) (hw _ (List.mem_of_getElem? (i := 6) rfl)) (ty := .int) (by decide) rfl rfl (g := (mkF m 38 #[.val (.ref a1), .val (.int x2), .val (.int x3), .val (.int x4), .val (.ref a5)] [(.int x2), (.ref a1)])) rfl rfl (hb hby own_d_prog_61_method_1_code_38)
  have N10 := Fr.snoc X10 N9 gn_a1
  refine Goes.via (B := T10.setTop (mkF m 41 #[.val (.ref a1), .val (.int x2), .val (.int x3), .val (.int x4), .val (.ref a5)] [])) (fun t k => st10 _ k) ?_
  refine Goes.via (B := T10.setTop (mkF m 42 #[.val (.ref a1), .val (.int x2), .val (.int x3), .val (.int x4), .val (.ref a5)] [(.ref a1)])) (fun t k => XS.aloadN X10.here hx rfl (hb hby own_d_prog_61_method_1_code_41) rfl rfl k) ?_
  refine Goes.via (B := T10.setTop (mkF m 43 #[.val (.ref a1), .val (.int x2), .val (.int x3), .val (.int x4), .val (.ref a5)] [(.int x3), (.ref a1)])) (fun t k => XS.iloadN X10.here hx rfl (hb hby own_d_prog_61_method_1_code_42) rfl k) ?_
  have c11 : Fld Z h10 a1 "com/example/vestwright/vestwright/core/Installments" "count" "I" (.int (0 : Int32)) := (Fld.other W10 ((((F_3.ext E2).ext E4).ext E6).ext E8) (Or.inr (slot_ne (Or.inr (hw _ (List.mem_of_getElem? (i := 52) rfl))) (Or.inr (hw _ (List.mem_of_getElem? (i := 50) rfl))) (by decide) (t := .int) (t' := .int) (by decide) (by decide))))
  obtain ⟨T12, h12, X12, e12, W12, st12⟩ := putF X10 hx hZ8 hown8 (host := "") (Or.inl (hw _ (List.mem_of_getElem? (i := 51) rfl))) Via.refl e10 c11 (Exa.wr W10 ((((F_1.ext E2).ext E4).ext E6).ext E8)) (Or.inr ⟨(hw _ (List.mem_of_getElem? (i := 52) rfl)), rfl, hnm⟩) (hw _ (List.mem_of_getElem? (i := 6) rfl)) (ty := .int) (by decide) rfl rfl (g := (mkF m 43 #[.val (.ref a1), .val (.int x2), .val (.int x3), .val (.int x4), .val (.ref a5)] [(.int x3), (.ref a1)])) rfl rfl (hb hby own_d_prog_61_method_1_code_43)
  have N12 := Fr.snoc X12 N10 gn_a1
  refine Goes.via (B := T12.setTop (mkF m 46 #[.val (.ref a1), .val (.int x2), .val (.int x3), .val (.int x4), .val (.ref a5)] [])) (fun t k => st12 _ k) ?_
  refine Goes.via (B := T12.setTop (mkF m 47 #[.val (.ref a1), .val (.int x2), .val (.int x3), .val (.int x4), .val (.ref a5)] [(.ref a1)])) (fun t k => XS.aloadN X12.here hx rfl (hb hby own_d_prog_61_method_1_code_46) rfl rfl k) ?_
  refine Goes.via (B := T12.setTop (mkF m 48 #[.val (.ref a1), .val (.int x2), .val (.int x3), .val (.int x4), .val (.ref a5)] [(.int x4), (.ref a1)])) (fun t k => XS.iloadN X12.here hx rfl (hb hby own_d_prog_61_method_1_code_47) rfl k) ?_
  have c13 : Fld Z h12 a1 "com/example/vestwright/vestwright/core/Installments" "cliffMonths" "I" (.int (0 : Int32)) := (Fld.other W12 (Fld.other W10 ((((F_4.ext E2).ext E4).ext E6).ext E8) (Or.inr (slot_ne (Or.inr (hw _ (List.mem_of_getElem? (i := 54) rfl))) (Or.inr (hw _ (List.mem_of_getElem? (i := 50) rfl))) (by decide) (t := .int) (t' := .int) (by decide) (by decide)))) (Or.inr (slot_ne (Or.inr (hw _ (List.mem_of_getElem? (i := 54) rfl))) (Or.inr (hw _ (List.mem_of_getElem? (i := 52) rfl))) (by decide) (t := .int) (t' := .int) (by decide) (by decide))))
  have c14 : Exa Z h12 a1 "com/example/vestwright/vestwright/core/Installments" := (Exa.wr W12 (Exa.wr W10 ((((F_1.ext E2).ext E4).ext E6).ext E8)))
  obtain ⟨T15, h15, X15, e15, W15, st15⟩ := putF X12 hx hZ8 hown8 (host := "") (Or.inl (hw _ (List.mem_of_getElem? (i := 53) rfl))) Via.refl e12 c13 c14 (Or.inr ⟨(hw _ (List.mem_of_getElem? (i := 54) rfl)), rfl, hnm⟩) (hw _ (List.mem_of_getElem? (i := 6) rfl)) (ty := .int) (by decide) rfl rfl (g := (mkF m 48 #[.val (.ref a1), .val (.int x2), .val (.int x3), .val (.int x4), .val (.ref a5)] [(.int x4), (.ref a1)])) rfl rfl (hb hby own_d_prog_61_method_1_code_48)
  have N15 := Fr.snoc X15 N12 gn_a1
  refine Goes.via (B := T15.setTop (mkF m 51 #[.val (.ref a1), .val (.int x2), .val (.int x3), .val (.int x4), .val (.ref a5)] [])) (fun t k => st15 _ k) ?_
  refine Goes.via (B := T15.setTop (mkF m 52 #[.val (.ref a1), .val (.int x2), .val (.int x3), .val (.int x4), .val (.ref a5)] [(.ref a1)])) (fun t k => XS.aloadN X15.here hx rfl (hb hby own_d_prog_61_method_1_code_51) rfl rfl k) ?_
  refine Goes.via (B := T15.setTop (mkF m 54 #[.val (.ref a1), .val (.int x2), .val (.int x3), .val (.int x4), .val (.ref a5)] [(.ref a5), (.ref a1)])) (fun t k => XS.aload X15.here hx rfl (hb hby own_d_prog_61_method_1_code_52) rfl rfl k) ?_
  have c16 : Fld Z h15 a1 "com/example/vestwright/vestwright/core/Installments" "allocation" "Lcom/example/vestwright/vestwright/core/Allocation;" .null := (Fld.other W15 (Fld.other W12 (Fld.other W10 ((((F_5.ext E2).ext E4).ext E6).ext E8) (Or.inr (slot_ne (Or.inr (hw _ (List.mem_of_getElem? (i := 56) rfl))) (Or.inr (hw _ (List.mem_of_getElem? (i := 50) rfl))) (by decide) (t := (.object "com/example/vestwright/vestwright/core/Allocation")) (t' := .int) (by decide) (by decide)))) (Or.inr (slot_ne (Or.inr (hw _ (List.mem_of_getElem? (i := 56) rfl))) (Or.inr (hw _ (List.mem_of_getElem? (i := 52) rfl))) (by decide) (t := (.object "com/example/vestwright/vestwright/core/Allocation")) (t' := .int) (by decide) (by decide)))) (Or.inr (slot_ne (Or.inr (hw _ (List.mem_of_getElem? (i := 56) rfl))) (Or.inr (hw _ (List.mem_of_getElem? (i := 54) rfl))) (by decide) (t := (.object "com/example/vestwright/vestwright/core/Allocation")) (t' := .int) (by decide) (by decide))))
  obtain ⟨T17, h17, X17, e17, W17, st17⟩ := putF X15 hx hZ8 hown8 (host := "") (Or.inl (hw _ (List.mem_of_getElem? (i := 55) rfl))) Via.refl e15 c16 (Exa.wr W15 c14) (Or.inr ⟨(hw _ (List.mem_of_getElem? (i := 56) rfl)), rfl, hnm⟩) (hw _ (List.mem_of_getElem? (i := 6) rfl)) (ty := (.object "com/example/vestwright/vestwright/core/Allocation")) (by decide) rfl rfl (g := (mkF m 54 #[.val (.ref a1), .val (.int x2), .val (.int x3), .val (.int x4), .val (.ref a5)] [(.ref a5), (.ref a1)])) rfl rfl (hb hby own_d_prog_61_method_1_code_54)
  have N17 := Fr.snoc X17 N15 gn_a1
  refine Goes.via (B := T17.setTop (mkF m 57 #[.val (.ref a1), .val (.int x2), .val (.int x3), .val (.int x4), .val (.ref a5)] [])) (fun t k => st17 _ k) ?_
  have c18 : Fld Z h17 a1 "com/example/vestwright/vestwright/core/Installments" "everyMonths" "I" (.int x2) := (Fld.other W17 (Fld.other W15 (Fld.other W12 (Fld.same W10 ((((F_2.ext E2).ext E4).ext E6).ext E8)) (Or.inr (slot_ne (Or.inr (hw _ (List.mem_of_getElem? (i := 50) rfl))) (Or.inr (hw _ (List.mem_of_getElem? (i := 52) rfl))) (by decide) (t := .int) (t' := .int) (by decide) (by decide)))) (Or.inr (slot_ne (Or.inr (hw _ (List.mem_of_getElem? (i := 50) rfl))) (Or.inr (hw _ (List.mem_of_getElem? (i := 54) rfl))) (by decide) (t := .int) (t' := .int) (by decide) (by decide)))) (Or.inr (slot_ne (Or.inr (hw _ (List.mem_of_getElem? (i := 50) rfl))) (Or.inr (hw _ (List.mem_of_getElem? (i := 56) rfl))) (by decide) (t := .int) (t' := (.object "com/example/vestwright/vestwright/core/Allocation")) (by decide) (by decide))))
  have c19 : Fld Z h17 a1 "com/example/vestwright/vestwright/core/Installments" "count" "I" (.int x3) := (Fld.other W17 (Fld.other W15 (Fld.same W12 c11) (Or.inr (slot_ne (Or.inr (hw _ (List.mem_of_getElem? (i := 52) rfl))) (Or.inr (hw _ (List.mem_of_getElem? (i := 54) rfl))) (by decide) (t := .int) (t' := .int) (by decide) (by decide)))) (Or.inr (slot_ne (Or.inr (hw _ (List.mem_of_getElem? (i := 52) rfl))) (Or.inr (hw _ (List.mem_of_getElem? (i := 56) rfl))) (by decide) (t := .int) (t' := (.object "com/example/vestwright/vestwright/core/Allocation")) (by decide) (by decide))))
  have c20 : Fld Z h17 a1 "com/example/vestwright/vestwright/core/Installments" "cliffMonths" "I" (.int x4) := (Fld.other W17 (Fld.same W15 c13) (Or.inr (slot_ne (Or.inr (hw _ (List.mem_of_getElem? (i := 54) rfl))) (Or.inr (hw _ (List.mem_of_getElem? (i := 56) rfl))) (by decide) (t := .int) (t' := (.object "com/example/vestwright/vestwright/core/Allocation")) (by decide) (by decide))))
  exact fin0 (Q := (own_Q8 Z a1 x2 x3 x4 a5 h0 n0)) (F := ReturnedEndW) (C := (({ frames := 2, cells := 8, slots := 200, locals := 34 } : Room)).cells) (S := (({ frames := 2, cells := 8, slots := 200, locals := 34 } : Room)).slots) X17 hx Bd.returns (hb hby own_d_prog_61_method_1_code_57) e17 ⟨rfl, N17, (((((((((Keep.refl h0 [a1]).ext E2).ext E4).ext E6).ext E8).wr W10 (Or.inl (List.mem_of_getElem? (i := 0) rfl))).wr W12 (Or.inl (List.mem_of_getElem? (i := 0) rfl))).wr W15 (Or.inl (List.mem_of_getElem? (i := 0) rfl))).wr W17 (Or.inl (List.mem_of_getElem? (i := 0) rfl))), (Exa.wr W17 (Exa.wr W15 c14)), c18, c19, c20, (Fld.same W17 c16)⟩ (lvW X17 hlk hS8 e17 (Nat.le_trans (Nat.le_trans (Nat.le_trans (Nat.le_trans hk8 (Nat.le_of_eq (Wr.size W10).symm)) (Nat.le_of_eq (Wr.size W12).symm)) (Nat.le_of_eq (Wr.size W15).symm)) (Nat.le_of_eq (Wr.size W17).symm)) (by decide) (by decide))
theorem own_d_prog_61_method_2_code_0 : decode prog_61_method_2_code 0 = .ok (.aload_n 0, 1) := by decide +kernel
theorem own_d_prog_61_method_2_code_1 : decode prog_61_method_2_code 1 = .ok (.getfield 27, 3) := by decide +kernel
theorem own_d_prog_61_method_2_code_4 : decode prog_61_method_2_code 4 = .ok (.i2l, 1) := by decide +kernel
theorem own_d_prog_61_method_2_code_5 : decode prog_61_method_2_code 5 = .ok (.aload_n 0, 1) := by decide +kernel
theorem own_d_prog_61_method_2_code_6 : decode prog_61_method_2_code 6 = .ok (.getfield 33, 3) := by decide +kernel
theorem own_d_prog_61_method_2_code_9 : decode prog_61_method_2_code 9 = .ok (.i2l, 1) := by decide +kernel
theorem own_d_prog_61_method_2_code_10 : decode prog_61_method_2_code 10 = .ok (.lmul, 1) := by decide +kernel
theorem own_d_prog_61_method_2_code_11 : decode prog_61_method_2_code 11 = .ok (.aload_n 0, 1) := by decide +kernel
theorem own_d_prog_61_method_2_code_12 : decode prog_61_method_2_code 12 = .ok (.getfield 36, 3) := by decide +kernel
theorem own_d_prog_61_method_2_code_15 : decode prog_61_method_2_code 15 = .ok (.i2l, 1) := by decide +kernel
theorem own_d_prog_61_method_2_code_16 : decode prog_61_method_2_code 16 = .ok (.invokestatic 42, 3) := by decide +kernel
theorem own_pd4 : parseMethodDescriptor "(JJ)J" = some ⟨[.long, .long], some .long⟩ := by decide +kernel
theorem own_d_prog_61_method_2_code_19 : decode prog_61_method_2_code 19 = .ok (.lreturn, 1) := by decide +kernel
theorem own_ef9 (m : MethodId) (x0 : Addr)  : entryFrame m #[(.ref x0)] 1 = mkF m 0 #[.val (.ref x0)] [] := by first | (simp [entryFrame, mkF, argsToLocals, Value.category]; done) | rfl
abbrev own_Q9 (Z : State) (a1 : Addr) (x2 : Int32) (x3 : Int32) (x4 : Int32) (h0 : Heap) (n0 : Nat) (v : Option Value) (h : Heap) (L : List Loc) : Prop := ∃ r : Int64, v = some (.long r) ∧ Fr n0 L ∧ h = h0 ∧ r = if x2.toInt64 * x3.toInt64 < x4.toInt64 then x4.toInt64 else x2.toInt64 * x3.toInt64
set_option maxRecDepth 65536 in
set_option maxHeartbeats 40000000 in
theorem own_m9 (l : Launch) (Z : State) (a0 : Array Value) (hw : ∀ d ∈ tables_1, d.before a0 Z = true) (ws : List Jvm.Cond) (a1 : Addr) (x2 : Int32) (x3 : Int32) (x4 : Int32) (h0 : Heap) (n0 : Nat) (O0 : Old Z n0 h0) (F_1 : Fld Z h0 a1 "com/example/vestwright/vestwright/core/Installments" "everyMonths" "I" (.int x2)) (F_2 : Fld Z h0 a1 "com/example/vestwright/vestwright/core/Installments" "count" "I" (.int x3)) (F_3 : Fld Z h0 a1 "com/example/vestwright/vestwright/core/Installments" "cliffMonths" "I" (.int x4)) :
    Ctr l Z (⟨"com/example/vestwright/vestwright/core/Installments", "monthsToLastDate", "()J"⟩ : MethodName) prog_61_method_2_code 1 (some .long) ({ frames := 1, cells := 0, slots := 0, locals := 15 } : Room) #[(.ref a1)] h0 (own_Q9 Z a1 x2 x3 x4 h0 n0) ws := by
  refine MetFree.of_bodySF (plainFor_of_name own_pn4) hisR ?_
  intro p e s m args below meth c s₁ Bd hml0 hP hK
  obtain ⟨rfl, hZ, hh⟩ := hP
  have hx := Bd.exec
  have hby := Bd.bytes
  have hlk : meth.locks = false := Bd.notSynchronized
  have hml : c.maxLocals = 1 := hml0
  have hown : s.vm.findClass "com/example/vestwright/vestwright/core/Installments" = some m.cls := findClass_of_methodNamed Bd.named
  have hnm := (name_of_methodNamed Bd.named Bd.method).1
  have X0 : Stand p l e ({ frames := 1, cells := 0, slots := 0, locals := 15 } : Room) s m #[(.ref a1)] below meth c s₁ [] 0 0 := Stand.of_body Bd
  have e0 : s₁.heap = h0 := by rw [← hh, Bd.state]; rfl
  have N0 := Fr.nil n0
  show Goes p.tables e below (fun t o => ∃ v L, o = .returned v ∧ (own_Q9 Z a1 x2 x3 x4 h0 n0) v t.heap L ∧ FrameEnd s o t L (({ frames := 1, cells := 0, slots := 0, locals := 15 } : Room)).cells (({ frames := 1, cells := 0, slots := 0, locals := 15 } : Room)).slots) _
  refine Goes.via (B := s₁.setTop (mkF m 0 #[.val (.ref a1)] [])) (fun t k => castTop (own_ef9 m a1) k) ?_
  refine Goes.via (B := s₁.setTop (mkF m 1 #[.val (.ref a1)] [(.ref a1)])) (fun t k => XS.aloadN X0.here hx rfl (hb hby own_d_prog_61_method_2_code_0) rfl rfl k) ?_
  obtain ⟨T1, X1, e1, st1⟩ := getF X0 hx hZ hown (host := "") (Or.inl (hw _ (List.mem_of_getElem? (i := 49) rfl))) Via.refl e0 F_1 (g := (mkF m 1 #[.val (.ref a1)] [(.ref a1)])) rfl rfl (hb hby own_d_prog_61_method_2_code_1)
  refine Goes.via (B := T1.setTop (mkF m 4 #[.val (.ref a1)] [(.int x2)])) (fun t k => st1 _ k) ?_
  refine Goes.via (B := T1.setTop (mkF m 5 #[.val (.ref a1)] [(.long (x2.toInt64))])) (fun t k => XS.i2l X1.here hx rfl (hb hby own_d_prog_61_method_2_code_4) rfl k) ?_
  refine Goes.via (B := T1.setTop (mkF m 6 #[.val (.ref a1)] [(.ref a1), (.long (x2.toInt64))])) (fun t k => XS.aloadN X1.here hx rfl (hb hby own_d_prog_61_method_2_code_5) rfl rfl k) ?_
  obtain ⟨T2, X2, e2, st2⟩ := getF X1 hx hZ hown (host := "") (Or.inl (hw _ (List.mem_of_getElem? (i := 51) rfl))) Via.refl e1 F_2 (g := (mkF m 6 #[.val (.ref a1)] [(.ref a1), (.long (x2.toInt64))])) rfl rfl (hb hby own_d_prog_61_method_2_code_6)
  refine Goes.via (B := T2.setTop (mkF m 9 #[.val (.ref a1)] [(.int x3), (.long (x2.toInt64))])) (fun t k => st2 _ k) ?_
  refine Goes.via (B := T2.setTop (mkF m 10 #[.val (.ref a1)] [(.long (x3.toInt64)), (.long (x2.toInt64))])) (fun t k => XS.i2l X2.here hx rfl (hb hby own_d_prog_61_method_2_code_9) rfl k) ?_
  refine Goes.via (B := T2.setTop (mkF m 11 #[.val (.ref a1)] [(.long ((x2.toInt64) * (x3.toInt64)))])) (fun t k => XS.lmul X2.here hx rfl (hb hby own_d_prog_61_method_2_code_10) rfl k) ?_
  refine Goes.via (B := T2.setTop (mkF m 12 #[.val (.ref a1)] [(.ref a1), (.long ((x2.toInt64) * (x3.toInt64)))])) (fun t k => XS.aloadN X2.here hx rfl (hb hby own_d_prog_61_method_2_code_11) rfl rfl k) ?_
  obtain ⟨T3, X3, e3, st3⟩ := getF X2 hx hZ hown (host := "") (Or.inl (hw _ (List.mem_of_getElem? (i := 53) rfl))) Via.refl e2 F_3 (g := (mkF m 12 #[.val (.ref a1)] [(.ref a1), (.long ((x2.toInt64) * (x3.toInt64)))])) rfl rfl (hb hby own_d_prog_61_method_2_code_12)
  refine Goes.via (B := T3.setTop (mkF m 15 #[.val (.ref a1)] [(.int x4), (.long ((x2.toInt64) * (x3.toInt64)))])) (fun t k => st3 _ k) ?_
  refine Goes.via (B := T3.setTop (mkF m 16 #[.val (.ref a1)] [(.long (x4.toInt64)), (.long ((x2.toInt64) * (x3.toInt64)))])) (fun t k => XS.i2l X3.here hx rfl (hb hby own_d_prog_61_method_2_code_15) rfl k) ?_
  obtain ⟨_, T4, L4, X4, ⟨r4, rfl, M4, K4, p4_0⟩, st4⟩ := callStatic X3 hx hZ hown (hw _ (List.mem_of_getElem? (i := 62) rfl)) (hw _ (List.mem_of_getElem? (i := 63) rfl)) (hw _ (List.mem_of_getElem? (i := 3) rfl)) (hw _ (List.mem_of_getElem? (i := 64) rfl)) (by decide) (argsL := [(.long ((x2.toInt64) * (x3.toInt64))), (.long (x4.toInt64))]) (rest := []) (own_m2 l Z a0 hw [] (x2.toInt64 * x3.toInt64) x4.toInt64 h0 n0 O0 ) e3 (lenOf own_pd4 rfl) (pc := 16) (Ls := #[.val (.ref a1)]) (st := [(.long (x4.toInt64)), (.long ((x2.toInt64) * (x3.toInt64)))]) rfl (by rw [hml]; rfl) (hb hby own_d_prog_61_method_2_code_16) (W := 0) (Nat.le_of_eq rfl) (by decide) (by decide) (by decide) (by decide)
  have N4 := Fr.app N0 M4
  refine Goes.via (B := T4.setTop (mkF m 19 #[.val (.ref a1)] [(.long r4)])) (fun t k => st4 _ k) ?_
  exact finJ (Q := (own_Q9 Z a1 x2 x3 x4 h0 n0)) (F := FrameEnd) (C := (({ frames := 1, cells := 0, slots := 0, locals := 15 } : Room)).cells) (S := (({ frames := 1, cells := 0, slots := 0, locals := 15 } : Room)).slots) X4 hx Bd.returns (hb hby own_d_prog_61_method_2_code_19) K4 ⟨r4, rfl, N4, rfl, p4_0⟩ (lvN X4 hlk (by decide) (by decide))
theorem own_pd5 : parseMethodDescriptor "(II)I" = some ⟨[.int, .int], some .int⟩ := by decide +kernel
theorem own_pd6 : parseMethodDescriptor "(I)Lcom/example/vestwright/vestwright/core/Allocation;" = some ⟨[.int], some (.object "com/example/vestwright/vestwright/core/Allocation")⟩ := by decide +kernel
theorem own_pd7 : parseMethodDescriptor "(IIILcom/example/vestwright/vestwright/core/Allocation;)V" = some ⟨[.int, .int, .int, (.object "com/example/vestwright/vestwright/core/Allocation")], none⟩ := by decide +kernel
theorem own_pd8 : parseMethodDescriptor "()J" = some ⟨[], some .long⟩ := by decide +kernel
theorem own_ef10 (m : MethodId) (x0 : Int32) (x1 : Int32) (x2 : Int32) (x3 : Int32)  : entryFrame m #[(.int x0), (.int x1), (.int x2), (.int x3)] maxLocals = mkF m 0 #[.val (.int x0), .val (.int x1), .val (.int x2), .val (.int x3), .unset, .unset, .unset, .unset, .unset, .unset, .unset, .unset, .unset, .unset] [] := by first | (simp [entryFrame, mkF, argsToLocals, Value.category, maxLocals]; done) | rfl
abbrev own_Q10 (Z : State) (x1 : Int32) (x2 : Int32) (x3 : Int32) (x4 : Int32) (fq0 : Addr) (fq1 : Addr) (fq2 : Addr) (fq3 : Addr) (fq4 : Addr) (fq5 : Addr) (fq6 : Addr) (h0 : Heap) (n0 : Nat) (v : Option Value) (h : Heap) (L : List Loc) : Prop := v = some (.int (1 : Int32)) ∧ Fr n0 L ∧ True
set_option maxRecDepth 65536 in
set_option maxHeartbeats 40000000 in
theorem own_m10 (l : Launch) (Z : State) (a0 : Array Value) (hw : ∀ d ∈ tables_1, d.before a0 Z = true) (ws : List Jvm.Cond) (x1 : Int32) (x2 : Int32) (x3 : Int32) (x4 : Int32) (fq0 : Addr) (fq1 : Addr) (fq2 : Addr) (fq3 : Addr) (fq4 : Addr) (fq5 : Addr) (fq6 : Addr) (h0 : Heap) (n0 : Nat) (O0 : Old Z n0 h0) (O_1 : Sta Z Z.heap "com/example/vestwright/vestwright/core/Allocation" "CUMULATIVE_ROUNDING" "Lcom/example/vestwright/vestwright/core/Allocation;" (.ref fq0)) (O_2 : Sta Z Z.heap "com/example/vestwright/vestwright/core/Allocation" "CUMULATIVE_ROUND_DOWN" "Lcom/example/vestwright/vestwright/core/Allocation;" (.ref fq1)) (O_3 : Sta Z Z.heap "com/example/vestwright/vestwright/core/Allocation" "FRONT_LOADED" "Lcom/example/vestwright/vestwright/core/Allocation;" (.ref fq2)) (O_4 : Sta Z Z.heap "com/example/vestwright/vestwright/core/Allocation" "BACK_LOADED" "Lcom/example/vestwright/vestwright/core/Allocation;" (.ref fq3)) (O_5 : Sta Z Z.heap "com/example/vestwright/vestwright/core/Allocation" "FRONT_LOADED_TO_SINGLE_TRANCHE" "Lcom/example/vestwright/vestwright/core/Allocation;" (.ref fq4)) (O_6 : Sta Z Z.heap "com/example/vestwright/vestwright/core/Allocation" "BACK_LOADED_TO_SINGLE_TRANCHE" "Lcom/example/vestwright/vestwright/core/Allocation;" (.ref fq5)) (O_7 : Sta Z Z.heap "com/example/vestwright/vestwright/core/Allocation" "FRACTIONAL" "Lcom/example/vestwright/vestwright/core/Allocation;" (.ref fq6)) :
    CtrW l Z x code maxLocals ret room_1 #[(.int x1), (.int x2), (.int x3), (.int x4)] h0 (own_Q10 Z x1 x2 x3 x4 fq0 fq1 fq2 fq3 fq4 fq5 fq6 h0 n0) ws := by
  refine MetFree.of_bodySF (plainFor_of_name own_pn0) hisR ?_
  intro p e s m args below meth c s₁ Bd hml0 hP hK
  obtain ⟨rfl, hZ, hh⟩ := hP
  have hx := Bd.exec
  have hby := Bd.bytes
  have hlk : meth.locks = false := Bd.notSynchronized
  have hml : c.maxLocals = 14 := hml0
  have hown : s.vm.findClass "com/example/vestwright/vestwright/core/InstallmentsMonthsToLastDatePinLaw" = some m.cls := findClass_of_methodNamed Bd.named
  have hnm := (name_of_methodNamed Bd.named Bd.method).1
  have X0 : Stand p l e room_1 (s.setVm s.vm) m #[(.int x1), (.int x2), (.int x3), (.int x4)] below meth c s₁ [] 0 0 := Stand.of_body Bd
  have hS0 : s.Since s.vm h0.size := (State.WarmedH.refl s).since _
  have hk0 : h0.size ≤ h0.size := Nat.le_refl _
  have e0 : s₁.heap = h0 := by rw [← hh, Bd.state]; rfl
  have N0 := Fr.nil n0
  show Goes p.tables e below (fun t o => ∃ v L, o = .returned v ∧ (own_Q10 Z x1 x2 x3 x4 fq0 fq1 fq2 fq3 fq4 fq5 fq6 h0 n0) v t.heap L ∧ ReturnedEndW s o t L (room_1).cells (room_1).slots) _
  refine Goes.via (B := s₁.setTop (mkF m 0 #[.val (.int x1), .val (.int x2), .val (.int x3), .val (.int x4), .unset, .unset, .unset, .unset, .unset, .unset, .unset, .unset, .unset, .unset] [])) (fun t k => castTop (own_ef10 m x1 x2 x3 x4) k) ?_
  refine Goes.via (B := s₁.setTop (mkF m 1 #[.val (.int x1), .val (.int x2), .val (.int x3), .val (.int x4), .unset, .unset, .unset, .unset, .unset, .unset, .unset, .unset, .unset, .unset] [(.int (1 : Int32))])) (fun t k => XS.iconst X0.here hx rfl (hb hby at_0) k) ?_
  refine Goes.via (B := s₁.setTop (mkF m 2 #[.val (.int x1), .val (.int x2), .val (.int x3), .val (.int x4), .unset, .unset, .unset, .unset, .unset, .unset, .unset, .unset, .unset, .unset] [(.int x1), (.int (1 : Int32))])) (fun t k => XS.iloadN X0.here hx rfl (hb hby at_1) rfl k) ?_
  refine Goes.via (B := s₁.setTop (mkF m 4 #[.val (.int x1), .val (.int x2), .val (.int x3), .val (.int x4), .unset, .unset, .unset, .unset, .unset, .unset, .unset, .unset, .unset, .unset] [(.int (2147483647 : Int32)), (.int x1), (.int (1 : Int32))])) (fun t k => X0.ldcI hx hown (mvT hZ (hw _ (List.mem_of_getElem? (i := 0) rfl))) rfl (hb hby at_2) k) ?_
  refine Goes.via (B := s₁.setTop (mkF m 5 #[.val (.int x1), .val (.int x2), .val (.int x3), .val (.int x4), .unset, .unset, .unset, .unset, .unset, .unset, .unset, .unset, .unset, .unset] [(.int (x1 &&& (2147483647 : Int32))), (.int (1 : Int32))])) (fun t k => XS.iand X0.here hx rfl (hb hby at_4) rfl k) ?_
  obtain ⟨_, T1, L1, X1, ⟨r1, rfl, M1, K1, p1_0⟩, st1⟩ := callStatic X0 hx hZ hown (hw _ (List.mem_of_getElem? (i := 1) rfl)) (hw _ (List.mem_of_getElem? (i := 2) rfl)) (hw _ (List.mem_of_getElem? (i := 3) rfl)) (hw _ (List.mem_of_getElem? (i := 4) rfl)) (by decide) (argsL := [(.int (1 : Int32)), (.int (x1 &&& (2147483647 : Int32)))]) (rest := []) (own_m1 l Z a0 hw [] (1 : Int32) (x1 &&& (2147483647 : Int32)) h0 n0 O0 ) e0 (lenOf own_pd5 rfl) (pc := 5) (Ls := #[.val (.int x1), .val (.int x2), .val (.int x3), .val (.int x4), .unset, .unset, .unset, .unset, .unset, .unset, .unset, .unset, .unset, .unset]) (st := [(.int (x1 &&& (2147483647 : Int32))), (.int (1 : Int32))]) rfl (by rw [hml]; rfl) (hb hby at_5) (W := 0) (Nat.le_of_eq rfl) (by decide) (by decide) (by decide) (by decide)
  have N1 := Fr.app N0 M1
  refine Goes.via (B := T1.setTop (mkF m 8 #[.val (.int x1), .val (.int x2), .val (.int x3), .val (.int x4), .unset, .unset, .unset, .unset, .unset, .unset, .unset, .unset, .unset, .unset] [(.int r1)])) (fun t k => st1 _ k) ?_
  refine Goes.via (B := T1.setTop (mkF m 10 #[.val (.int x1), .val (.int x2), .val (.int x3), .val (.int x4), .val (.int r1), .unset, .unset, .unset, .unset, .unset, .unset, .unset, .unset, .unset] [])) (fun t k => XS.istore X1.here hx rfl (hb hby at_8) rfl (l' := #[.val (.int x1), .val (.int x2), .val (.int x3), .val (.int x4), .val (.int r1), .unset, .unset, .unset, .unset, .unset, .unset, .unset, .unset, .unset]) rfl k) ?_
  refine Goes.via (B := T1.setTop (mkF m 11 #[.val (.int x1), .val (.int x2), .val (.int x3), .val (.int x4), .val (.int r1), .unset, .unset, .unset, .unset, .unset, .unset, .unset, .unset, .unset] [(.int (1 : Int32))])) (fun t k => XS.iconst X1.here hx rfl (hb hby at_10) k) ?_
  refine Goes.via (B := T1.setTop (mkF m 12 #[.val (.int x1), .val (.int x2), .val (.int x3), .val (.int x4), .val (.int r1), .unset, .unset, .unset, .unset, .unset, .unset, .unset, .unset, .unset] [(.int x2), (.int (1 : Int32))])) (fun t k => XS.iloadN X1.here hx rfl (hb hby at_11) rfl k) ?_
  refine Goes.via (B := T1.setTop (mkF m 14 #[.val (.int x1), .val (.int x2), .val (.int x3), .val (.int x4), .val (.int r1), .unset, .unset, .unset, .unset, .unset, .unset, .unset, .unset, .unset] [(.int (2147483647 : Int32)), (.int x2), (.int (1 : Int32))])) (fun t k => X1.ldcI hx hown (mvT hZ (hw _ (List.mem_of_getElem? (i := 0) rfl))) rfl (hb hby at_12) k) ?_
  refine Goes.via (B := T1.setTop (mkF m 15 #[.val (.int x1), .val (.int x2), .val (.int x3), .val (.int x4), .val (.int r1), .unset, .unset, .unset, .unset, .unset, .unset, .unset, .unset, .unset] [(.int (x2 &&& (2147483647 : Int32))), (.int (1 : Int32))])) (fun t k => XS.iand X1.here hx rfl (hb hby at_14) rfl k) ?_
  obtain ⟨_, T2, L2, X2, ⟨r2, rfl, M2, K2, p2_0⟩, st2⟩ := callStatic X1 hx hZ hown (hw _ (List.mem_of_getElem? (i := 1) rfl)) (hw _ (List.mem_of_getElem? (i := 2) rfl)) (hw _ (List.mem_of_getElem? (i := 3) rfl)) (hw _ (List.mem_of_getElem? (i := 4) rfl)) (by decide) (argsL := [(.int (1 : Int32)), (.int (x2 &&& (2147483647 : Int32)))]) (rest := []) (own_m1 l Z a0 hw [] (1 : Int32) (x2 &&& (2147483647 : Int32)) h0 n0 O0 ) K1 (lenOf own_pd5 rfl) (pc := 15) (Ls := #[.val (.int x1), .val (.int x2), .val (.int x3), .val (.int x4), .val (.int r1), .unset, .unset, .unset, .unset, .unset, .unset, .unset, .unset, .unset]) (st := [(.int (x2 &&& (2147483647 : Int32))), (.int (1 : Int32))]) rfl (by rw [hml]; rfl) (hb hby at_15) (W := 0) (Nat.le_of_eq rfl) (by decide) (by decide) (by decide) (by decide)
  have N2 := Fr.app N1 M2
  refine Goes.via (B := T2.setTop (mkF m 18 #[.val (.int x1), .val (.int x2), .val (.int x3), .val (.int x4), .val (.int r1), .unset, .unset, .unset, .unset, .unset, .unset, .unset, .unset, .unset] [(.int r2)])) (fun t k => st2 _ k) ?_
  refine Goes.via (B := T2.setTop (mkF m 20 #[.val (.int x1), .val (.int x2), .val (.int x3), .val (.int x4), .val (.int r1), .val (.int r2), .unset, .unset, .unset, .unset, .unset, .unset, .unset, .unset] [])) (fun t k => XS.istore X2.here hx rfl (hb hby at_18) rfl (l' := #[.val (.int x1), .val (.int x2), .val (.int x3), .val (.int x4), .val (.int r1), .val (.int r2), .unset, .unset, .unset, .unset, .unset, .unset, .unset, .unset]) rfl k) ?_
  refine Goes.via (B := T2.setTop (mkF m 21 #[.val (.int x1), .val (.int x2), .val (.int x3), .val (.int x4), .val (.int r1), .val (.int r2), .unset, .unset, .unset, .unset, .unset, .unset, .unset, .unset] [(.int x3)])) (fun t k => XS.iloadN X2.here hx rfl (hb hby at_20) rfl k) ?_
  refine Goes.via (B := T2.setTop (mkF m 23 #[.val (.int x1), .val (.int x2), .val (.int x3), .val (.int x4), .val (.int r1), .val (.int r2), .unset, .unset, .unset, .unset, .unset, .unset, .unset, .unset] [(.int (2147483647 : Int32)), (.int x3)])) (fun t k => X2.ldcI hx hown (mvT hZ (hw _ (List.mem_of_getElem? (i := 0) rfl))) rfl (hb hby at_21) k) ?_
  refine Goes.via (B := T2.setTop (mkF m 24 #[.val (.int x1), .val (.int x2), .val (.int x3), .val (.int x4), .val (.int r1), .val (.int r2), .unset, .unset, .unset, .unset, .unset, .unset, .unset, .unset] [(.int (x3 &&& (2147483647 : Int32)))])) (fun t k => XS.iand X2.here hx rfl (hb hby at_23) rfl k) ?_
  refine Goes.via (B := T2.setTop (mkF m 26 #[.val (.int x1), .val (.int x2), .val (.int x3), .val (.int x4), .val (.int r1), .val (.int r2), .val (.int (x3 &&& (2147483647 : Int32))), .unset, .unset, .unset, .unset, .unset, .unset, .unset] [])) (fun t k => XS.istore X2.here hx rfl (hb hby at_24) rfl (l' := #[.val (.int x1), .val (.int x2), .val (.int x3), .val (.int x4), .val (.int r1), .val (.int r2), .val (.int (x3 &&& (2147483647 : Int32))), .unset, .unset, .unset, .unset, .unset, .unset, .unset]) rfl k) ?_
  obtain ⟨T3, h3, X3, e3, E3, A3, D3, U3, st3⟩ := newO X2 hx hZ hown (hw _ (List.mem_of_getElem? (i := 5) rfl)) (hw _ (List.mem_of_getElem? (i := 6) rfl)) (hw _ (List.mem_of_getElem? (i := 7) rfl)) K2 (g := (mkF m 26 #[.val (.int x1), .val (.int x2), .val (.int x3), .val (.int x4), .val (.int r1), .val (.int r2), .val (.int (x3 &&& (2147483647 : Int32))), .unset, .unset, .unset, .unset, .unset, .unset, .unset] [])) rfl (hb hby at_26) (by decide) (by decide)
  obtain ⟨b3, g3⟩ : ∃ z, z = h0.size := ⟨_, rfl⟩
  rw [← g3] at A3 D3 U3 st3
  have gn3 : n0 ≤ b3 := Nat.le_trans (old_le O0) (Nat.le_of_eq g3.symm)
  have F3_everyMonths : Fld Z h3 b3 "com/example/vestwright/vestwright/core/Installments" "everyMonths" "I" (.int (0 : Int32)) := D3 (Or.inr (hw _ (List.mem_of_getElem? (i := 50) rfl))) (ty := .int) (by decide)
  have F3_count : Fld Z h3 b3 "com/example/vestwright/vestwright/core/Installments" "count" "I" (.int (0 : Int32)) := D3 (Or.inr (hw _ (List.mem_of_getElem? (i := 52) rfl))) (ty := .int) (by decide)
  have F3_cliffMonths : Fld Z h3 b3 "com/example/vestwright/vestwright/core/Installments" "cliffMonths" "I" (.int (0 : Int32)) := D3 (Or.inr (hw _ (List.mem_of_getElem? (i := 54) rfl))) (ty := .int) (by decide)
  have F3_allocation : Fld Z h3 b3 "com/example/vestwright/vestwright/core/Installments" "allocation" "Lcom/example/vestwright/vestwright/core/Allocation;" .null := D3 (Or.inr (hw _ (List.mem_of_getElem? (i := 56) rfl))) (ty := (.object "com/example/vestwright/vestwright/core/Allocation")) (by decide)
  refine Goes.via (B := T3.setTop (mkF m 29 #[.val (.int x1), .val (.int x2), .val (.int x3), .val (.int x4), .val (.int r1), .val (.int r2), .val (.int (x3 &&& (2147483647 : Int32))), .unset, .unset, .unset, .unset, .unset, .unset, .unset] [(.ref b3)])) (fun t k => st3 _ k) ?_
  refine Goes.via (B := T3.setTop (mkF m 30 #[.val (.int x1), .val (.int x2), .val (.int x3), .val (.int x4), .val (.int r1), .val (.int r2), .val (.int (x3 &&& (2147483647 : Int32))), .unset, .unset, .unset, .unset, .unset, .unset, .unset] [(.ref b3), (.ref b3)])) (fun t k => XS.dup X3.here hx rfl (hb hby at_29) rfl rfl k) ?_
  refine Goes.via (B := T3.setTop (mkF m 32 #[.val (.int x1), .val (.int x2), .val (.int x3), .val (.int x4), .val (.int r1), .val (.int r2), .val (.int (x3 &&& (2147483647 : Int32))), .unset, .unset, .unset, .unset, .unset, .unset, .unset] [(.int r1), (.ref b3), (.ref b3)])) (fun t k => XS.iload X3.here hx rfl (hb hby at_30) rfl k) ?_
  refine Goes.via (B := T3.setTop (mkF m 34 #[.val (.int x1), .val (.int x2), .val (.int x3), .val (.int x4), .val (.int r1), .val (.int r2), .val (.int (x3 &&& (2147483647 : Int32))), .unset, .unset, .unset, .unset, .unset, .unset, .unset] [(.int r2), (.int r1), (.ref b3), (.ref b3)])) (fun t k => XS.iload X3.here hx rfl (hb hby at_32) rfl k) ?_
  refine Goes.via (B := T3.setTop (mkF m 36 #[.val (.int x1), .val (.int x2), .val (.int x3), .val (.int x4), .val (.int r1), .val (.int r2), .val (.int (x3 &&& (2147483647 : Int32))), .unset, .unset, .unset, .unset, .unset, .unset, .unset] [(.int (x3 &&& (2147483647 : Int32))), (.int r2), (.int r1), (.ref b3), (.ref b3)])) (fun t k => XS.iload X3.here hx rfl (hb hby at_34) rfl k) ?_
  refine Goes.via (B := T3.setTop (mkF m 37 #[.val (.int x1), .val (.int x2), .val (.int x3), .val (.int x4), .val (.int r1), .val (.int r2), .val (.int (x3 &&& (2147483647 : Int32))), .unset, .unset, .unset, .unset, .unset, .unset, .unset] [(.int x4), (.int (x3 &&& (2147483647 : Int32))), (.int r2), (.int r1), (.ref b3), (.ref b3)])) (fun t k => XS.iloadN X3.here hx rfl (hb hby at_36) rfl k) ?_
  obtain ⟨_, T4, L4, X4, ⟨r4, rfl, M4, K4⟩, st4⟩ := callStatic X3 hx hZ hown (hw _ (List.mem_of_getElem? (i := 8) rfl)) (hw _ (List.mem_of_getElem? (i := 9) rfl)) (hw _ (List.mem_of_getElem? (i := 10) rfl)) (hw _ (List.mem_of_getElem? (i := 11) rfl)) (by decide) (argsL := [(.int x4)]) (rest := [(.int (x3 &&& (2147483647 : Int32))), (.int r2), (.int r1), (.ref b3), (.ref b3)]) (own_m3 l Z a0 hw [] x4 fq0 fq1 fq2 fq3 fq4 fq5 fq6 h3 n0 (O0.ext E3) O_1 O_2 O_3 O_4 O_5 O_6 O_7) e3 (lenOf own_pd6 rfl) (pc := 37) (Ls := #[.val (.int x1), .val (.int x2), .val (.int x3), .val (.int x4), .val (.int r1), .val (.int r2), .val (.int (x3 &&& (2147483647 : Int32))), .unset, .unset, .unset, .unset, .unset, .unset, .unset]) (st := [(.int x4), (.int (x3 &&& (2147483647 : Int32))), (.int r2), (.int r1), (.ref b3), (.ref b3)]) rfl (by rw [hml]; rfl) (hb hby at_37) (W := 5) (Nat.le_of_eq rfl) (by decide) (by decide) (by decide) (by decide)
  have N4 := Fr.app N2 M4
  refine Goes.via (B := T4.setTop (mkF m 40 #[.val (.int x1), .val (.int x2), .val (.int x3), .val (.int x4), .val (.int r1), .val (.int r2), .val (.int (x3 &&& (2147483647 : Int32))), .unset, .unset, .unset, .unset, .unset, .unset, .unset] [(.ref r4), (.int (x3 &&& (2147483647 : Int32))), (.int r2), (.int r1), (.ref b3), (.ref b3)])) (fun t k => st4 _ k) ?_
  obtain ⟨_, T5, L5, X5, hS5, hZ5, hown5, ⟨rfl, M5, K5, f5_0, f5_1, f5_2, f5_3, f5_4⟩, st5⟩ := callInitW X4 hx hZ hS0 (Nat.le_trans hk0 E3.1) rfl hown (hw _ (List.mem_of_getElem? (i := 15) rfl)) (hw _ (List.mem_of_getElem? (i := 16) rfl)) (hw _ (List.mem_of_getElem? (i := 7) rfl)) (hw _ (List.mem_of_getElem? (i := 17) rfl)) (by decide) (argsL := [(.int r1), (.int r2), (.int (x3 &&& (2147483647 : Int32))), (.ref r4)]) (rest := [(.ref b3)]) (own_m8 l Z a0 hw [] b3 r1 r2 (x3 &&& (2147483647 : Int32)) r4 h3 n0 (O0.ext E3) (own_ge1 (own_max1 p1_0)) (own_ge1 (own_max1 p2_0)) (own_ge0 x3) gn3 A3 F3_everyMonths F3_count F3_cliffMonths F3_allocation) K4 (lenOf own_pd7 rfl) (pc := 40) (Ls := #[.val (.int x1), .val (.int x2), .val (.int x3), .val (.int x4), .val (.int r1), .val (.int r2), .val (.int (x3 &&& (2147483647 : Int32))), .unset, .unset, .unset, .unset, .unset, .unset, .unset]) (st := [(.ref r4), (.int (x3 &&& (2147483647 : Int32))), (.int r2), (.int r1), (.ref b3), (.ref b3)]) rfl (by rw [hml]; rfl) (hb hby at_40) (W := 1) (Nat.le_of_eq rfl) (by decide) (by decide) (by decide) (by decide)
  have N5 := Fr.app N4 M5
  refine Goes.via (B := T5.setTop (mkF m 43 #[.val (.int x1), .val (.int x2), .val (.int x3), .val (.int x4), .val (.int r1), .val (.int r2), .val (.int (x3 &&& (2147483647 : Int32))), .unset, .unset, .unset, .unset, .unset, .unset, .unset] [(.ref b3)])) (fun t k => st5 _ k) ?_
  refine Goes.via (B := T5.setTop (mkF m 45 #[.val (.int x1), .val (.int x2), .val (.int x3), .val (.int x4), .val (.int r1), .val (.int r2), .val (.int (x3 &&& (2147483647 : Int32))), .val (.ref b3), .unset, .unset, .unset, .unset, .unset, .unset] [])) (fun t k => XS.astore X5.here hx rfl (hb hby at_43) rfl rfl (l' := #[.val (.int x1), .val (.int x2), .val (.int x3), .val (.int x4), .val (.int r1), .val (.int r2), .val (.int (x3 &&& (2147483647 : Int32))), .val (.ref b3), .unset, .unset, .unset, .unset, .unset, .unset]) rfl k) ?_
  refine Goes.via (B := T5.setTop (mkF m 47 #[.val (.int x1), .val (.int x2), .val (.int x3), .val (.int x4), .val (.int r1), .val (.int r2), .val (.int (x3 &&& (2147483647 : Int32))), .val (.ref b3), .unset, .unset, .unset, .unset, .unset, .unset] [(.ref b3)])) (fun t k => XS.aload X5.here hx rfl (hb hby at_45) rfl rfl k) ?_
  obtain ⟨_, T6, L6, X6, ⟨r6, rfl, M6, K6, p6_0⟩, st6⟩ := callVirt X5 hx hZ5 hown5 (hw _ (List.mem_of_getElem? (i := 57) rfl)) (hw _ (List.mem_of_getElem? (i := 58) rfl)) (hw _ (List.mem_of_getElem? (i := 60) rfl)) (notFace_of_selects (args := #[]) (mvT hZ5 (hw _ (List.mem_of_getElem? (i := 60) rfl)))) (hw _ (List.mem_of_getElem? (i := 59) rfl)) (hw _ (List.mem_of_getElem? (i := 7) rfl)) (hw _ (List.mem_of_getElem? (i := 61) rfl)) (by decide) (argsL := []) (rest := []) (own_m9 l Z a0 hw [] b3 r1 r2 (x3 &&& (2147483647 : Int32)) T5.heap n0 ((O0.ext E3).keep K5 (allS gn3 all0)) f5_1 f5_2 f5_3) rfl f5_0 (lenOf own_pd8 rfl) (pc := 47) (Ls := #[.val (.int x1), .val (.int x2), .val (.int x3), .val (.int x4), .val (.int r1), .val (.int r2), .val (.int (x3 &&& (2147483647 : Int32))), .val (.ref b3), .unset, .unset, .unset, .unset, .unset, .unset]) (st := [(.ref b3)]) rfl (by rw [hml]; rfl) (hb hby at_47) (W := 0) (Nat.le_of_eq rfl) (by decide) (by decide) (by decide) (by decide)
  have N6 := Fr.app N5 M6
  refine Goes.via (B := T6.setTop (mkF m 50 #[.val (.int x1), .val (.int x2), .val (.int x3), .val (.int x4), .val (.int r1), .val (.int r2), .val (.int (x3 &&& (2147483647 : Int32))), .val (.ref b3), .unset, .unset, .unset, .unset, .unset, .unset] [(.long r6)])) (fun t k => st6 _ k) ?_
  obtain ⟨z1, z2, z3⟩ := own_end p6_0
  refine Goes.via (B := T6.setTop (mkF m 52 #[.val (.int x1), .val (.int x2), .val (.int x3), .val (.int x4), .val (.int r1), .val (.int r2), .val (.int (x3 &&& (2147483647 : Int32))), .val (.ref b3), .val (.long r6), .second, .unset, .unset, .unset, .unset] [])) (fun t k => XS.lstore X6.here hx rfl (hb hby at_50) rfl (l' := #[.val (.int x1), .val (.int x2), .val (.int x3), .val (.int x4), .val (.int r1), .val (.int r2), .val (.int (x3 &&& (2147483647 : Int32))), .val (.ref b3), .val (.long r6), .second, .unset, .unset, .unset, .unset]) rfl k) ?_
  refine Goes.via (B := T6.setTop (mkF m 54 #[.val (.int x1), .val (.int x2), .val (.int x3), .val (.int x4), .val (.int r1), .val (.int r2), .val (.int (x3 &&& (2147483647 : Int32))), .val (.ref b3), .val (.long r6), .second, .unset, .unset, .unset, .unset] [(.int r1)])) (fun t k => XS.iload X6.here hx rfl (hb hby at_52) rfl k) ?_
  refine Goes.via (B := T6.setTop (mkF m 55 #[.val (.int x1), .val (.int x2), .val (.int x3), .val (.int x4), .val (.int r1), .val (.int r2), .val (.int (x3 &&& (2147483647 : Int32))), .val (.ref b3), .val (.long r6), .second, .unset, .unset, .unset, .unset] [(.long (r1.toInt64))])) (fun t k => XS.i2l X6.here hx rfl (hb hby at_54) rfl k) ?_
  refine Goes.via (B := T6.setTop (mkF m 57 #[.val (.int x1), .val (.int x2), .val (.int x3), .val (.int x4), .val (.int r1), .val (.int r2), .val (.int (x3 &&& (2147483647 : Int32))), .val (.ref b3), .val (.long r6), .second, .unset, .unset, .unset, .unset] [(.int r2), (.long (r1.toInt64))])) (fun t k => XS.iload X6.here hx rfl (hb hby at_55) rfl k) ?_
  refine Goes.via (B := T6.setTop (mkF m 58 #[.val (.int x1), .val (.int x2), .val (.int x3), .val (.int x4), .val (.int r1), .val (.int r2), .val (.int (x3 &&& (2147483647 : Int32))), .val (.ref b3), .val (.long r6), .second, .unset, .unset, .unset, .unset] [(.long (r2.toInt64)), (.long (r1.toInt64))])) (fun t k => XS.i2l X6.here hx rfl (hb hby at_57) rfl k) ?_
  refine Goes.via (B := T6.setTop (mkF m 59 #[.val (.int x1), .val (.int x2), .val (.int x3), .val (.int x4), .val (.int r1), .val (.int r2), .val (.int (x3 &&& (2147483647 : Int32))), .val (.ref b3), .val (.long r6), .second, .unset, .unset, .unset, .unset] [(.long ((r1.toInt64) * (r2.toInt64)))])) (fun t k => XS.lmul X6.here hx rfl (hb hby at_58) rfl k) ?_
  refine Goes.via (B := T6.setTop (mkF m 61 #[.val (.int x1), .val (.int x2), .val (.int x3), .val (.int x4), .val (.int r1), .val (.int r2), .val (.int (x3 &&& (2147483647 : Int32))), .val (.ref b3), .val (.long r6), .second, .val (.long ((r1.toInt64) * (r2.toInt64))), .second, .unset, .unset] [])) (fun t k => XS.lstore X6.here hx rfl (hb hby at_59) rfl (l' := #[.val (.int x1), .val (.int x2), .val (.int x3), .val (.int x4), .val (.int r1), .val (.int r2), .val (.int (x3 &&& (2147483647 : Int32))), .val (.ref b3), .val (.long r6), .second, .val (.long ((r1.toInt64) * (r2.toInt64))), .second, .unset, .unset]) rfl k) ?_
  refine Goes.via (B := T6.setTop (mkF m 63 #[.val (.int x1), .val (.int x2), .val (.int x3), .val (.int x4), .val (.int r1), .val (.int r2), .val (.int (x3 &&& (2147483647 : Int32))), .val (.ref b3), .val (.long r6), .second, .val (.long ((r1.toInt64) * (r2.toInt64))), .second, .unset, .unset] [(.int (x3 &&& (2147483647 : Int32)))])) (fun t k => XS.iload X6.here hx rfl (hb hby at_61) rfl k) ?_
  refine Goes.via (B := T6.setTop (mkF m 64 #[.val (.int x1), .val (.int x2), .val (.int x3), .val (.int x4), .val (.int r1), .val (.int r2), .val (.int (x3 &&& (2147483647 : Int32))), .val (.ref b3), .val (.long r6), .second, .val (.long ((r1.toInt64) * (r2.toInt64))), .second, .unset, .unset] [(.long ((x3 &&& (2147483647 : Int32)).toInt64))])) (fun t k => XS.i2l X6.here hx rfl (hb hby at_63) rfl k) ?_
  refine Goes.via (B := T6.setTop (mkF m 66 #[.val (.int x1), .val (.int x2), .val (.int x3), .val (.int x4), .val (.int r1), .val (.int r2), .val (.int (x3 &&& (2147483647 : Int32))), .val (.ref b3), .val (.long r6), .second, .val (.long ((r1.toInt64) * (r2.toInt64))), .second, .val (.long ((x3 &&& (2147483647 : Int32)).toInt64)), .second] [])) (fun t k => XS.lstore X6.here hx rfl (hb hby at_64) rfl (l' := #[.val (.int x1), .val (.int x2), .val (.int x3), .val (.int x4), .val (.int r1), .val (.int r2), .val (.int (x3 &&& (2147483647 : Int32))), .val (.ref b3), .val (.long r6), .second, .val (.long ((r1.toInt64) * (r2.toInt64))), .second, .val (.long ((x3 &&& (2147483647 : Int32)).toInt64)), .second]) rfl k) ?_
  refine Goes.via (B := T6.setTop (mkF m 68 #[.val (.int x1), .val (.int x2), .val (.int x3), .val (.int x4), .val (.int r1), .val (.int r2), .val (.int (x3 &&& (2147483647 : Int32))), .val (.ref b3), .val (.long r6), .second, .val (.long ((r1.toInt64) * (r2.toInt64))), .second, .val (.long ((x3 &&& (2147483647 : Int32)).toInt64)), .second] [(.long r6)])) (fun t k => XS.lload X6.here hx rfl (hb hby at_66) rfl k) ?_
  refine Goes.via (B := T6.setTop (mkF m 70 #[.val (.int x1), .val (.int x2), .val (.int x3), .val (.int x4), .val (.int r1), .val (.int r2), .val (.int (x3 &&& (2147483647 : Int32))), .val (.ref b3), .val (.long r6), .second, .val (.long ((r1.toInt64) * (r2.toInt64))), .second, .val (.long ((x3 &&& (2147483647 : Int32)).toInt64)), .second] [(.long ((r1.toInt64) * (r2.toInt64))), (.long r6)])) (fun t k => XS.lload X6.here hx rfl (hb hby at_68) rfl k) ?_
  refine Goes.via (B := T6.setTop (mkF m 71 #[.val (.int x1), .val (.int x2), .val (.int x3), .val (.int x4), .val (.int r1), .val (.int r2), .val (.int (x3 &&& (2147483647 : Int32))), .val (.ref b3), .val (.long r6), .second, .val (.long ((r1.toInt64) * (r2.toInt64))), .second, .val (.long ((x3 &&& (2147483647 : Int32)).toInt64)), .second] [(.int (XT.cmpL r6 ((r1.toInt64) * (r2.toInt64))))])) (fun t k => XT.lcmp X6.here hx rfl (hb hby at_70) rfl k) ?_
  refine Goes.via (B := T6.setTop (mkF m 74 #[.val (.int x1), .val (.int x2), .val (.int x3), .val (.int x4), .val (.int r1), .val (.int r2), .val (.int (x3 &&& (2147483647 : Int32))), .val (.ref b3), .val (.long r6), .second, .val (.long ((r1.toInt64) * (r2.toInt64))), .second, .val (.long ((x3 &&& (2147483647 : Int32)).toInt64)), .second] [])) (fun t k => XS.ifNo X6.here hx rfl (hb hby at_71) rfl (XT.ll_lt_f z1) k) ?_
  refine Goes.via (B := T6.setTop (mkF m 76 #[.val (.int x1), .val (.int x2), .val (.int x3), .val (.int x4), .val (.int r1), .val (.int r2), .val (.int (x3 &&& (2147483647 : Int32))), .val (.ref b3), .val (.long r6), .second, .val (.long ((r1.toInt64) * (r2.toInt64))), .second, .val (.long ((x3 &&& (2147483647 : Int32)).toInt64)), .second] [(.long r6)])) (fun t k => XS.lload X6.here hx rfl (hb hby at_74) rfl k) ?_
  refine Goes.via (B := T6.setTop (mkF m 78 #[.val (.int x1), .val (.int x2), .val (.int x3), .val (.int x4), .val (.int r1), .val (.int r2), .val (.int (x3 &&& (2147483647 : Int32))), .val (.ref b3), .val (.long r6), .second, .val (.long ((r1.toInt64) * (r2.toInt64))), .second, .val (.long ((x3 &&& (2147483647 : Int32)).toInt64)), .second] [(.long ((x3 &&& (2147483647 : Int32)).toInt64)), (.long r6)])) (fun t k => XS.lload X6.here hx rfl (hb hby at_76) rfl k) ?_
  refine Goes.via (B := T6.setTop (mkF m 79 #[.val (.int x1), .val (.int x2), .val (.int x3), .val (.int x4), .val (.int r1), .val (.int r2), .val (.int (x3 &&& (2147483647 : Int32))), .val (.ref b3), .val (.long r6), .second, .val (.long ((r1.toInt64) * (r2.toInt64))), .second, .val (.long ((x3 &&& (2147483647 : Int32)).toInt64)), .second] [(.int (XT.cmpL r6 ((x3 &&& (2147483647 : Int32)).toInt64)))])) (fun t k => XT.lcmp X6.here hx rfl (hb hby at_78) rfl k) ?_
  refine Goes.via (B := T6.setTop (mkF m 82 #[.val (.int x1), .val (.int x2), .val (.int x3), .val (.int x4), .val (.int r1), .val (.int r2), .val (.int (x3 &&& (2147483647 : Int32))), .val (.ref b3), .val (.long r6), .second, .val (.long ((r1.toInt64) * (r2.toInt64))), .second, .val (.long ((x3 &&& (2147483647 : Int32)).toInt64)), .second] [])) (fun t k => XS.ifNo X6.here hx rfl (hb hby at_79) rfl (XT.ll_lt_f z2) k) ?_
  refine Goes.via (B := T6.setTop (mkF m 84 #[.val (.int x1), .val (.int x2), .val (.int x3), .val (.int x4), .val (.int r1), .val (.int r2), .val (.int (x3 &&& (2147483647 : Int32))), .val (.ref b3), .val (.long r6), .second, .val (.long ((r1.toInt64) * (r2.toInt64))), .second, .val (.long ((x3 &&& (2147483647 : Int32)).toInt64)), .second] [(.long r6)])) (fun t k => XS.lload X6.here hx rfl (hb hby at_82) rfl k) ?_
  refine Goes.via (B := T6.setTop (mkF m 86 #[.val (.int x1), .val (.int x2), .val (.int x3), .val (.int x4), .val (.int r1), .val (.int r2), .val (.int (x3 &&& (2147483647 : Int32))), .val (.ref b3), .val (.long r6), .second, .val (.long ((r1.toInt64) * (r2.toInt64))), .second, .val (.long ((x3 &&& (2147483647 : Int32)).toInt64)), .second] [(.long ((r1.toInt64) * (r2.toInt64))), (.long r6)])) (fun t k => XS.lload X6.here hx rfl (hb hby at_84) rfl k) ?_
  refine Goes.via (B := T6.setTop (mkF m 87 #[.val (.int x1), .val (.int x2), .val (.int x3), .val (.int x4), .val (.int r1), .val (.int r2), .val (.int (x3 &&& (2147483647 : Int32))), .val (.ref b3), .val (.long r6), .second, .val (.long ((r1.toInt64) * (r2.toInt64))), .second, .val (.long ((x3 &&& (2147483647 : Int32)).toInt64)), .second] [(.int (XT.cmpL r6 ((r1.toInt64) * (r2.toInt64))))])) (fun t k => XT.lcmp X6.here hx rfl (hb hby at_86) rfl k) ?_
  have j7 : Goes p.tables e below (fun t o => ∃ v L, o = .returned v ∧ (own_Q10 Z x1 x2 x3 x4 fq0 fq1 fq2 fq3 fq4 fq5 fq6 h0 n0) v t.heap L ∧ ReturnedEndW s o t L (room_1).cells (room_1).slots) (T6.setTop (mkF m 98 #[.val (.int x1), .val (.int x2), .val (.int x3), .val (.int x4), .val (.int r1), .val (.int r2), .val (.int (x3 &&& (2147483647 : Int32))), .val (.ref b3), .val (.long r6), .second, .val (.long ((r1.toInt64) * (r2.toInt64))), .second, .val (.long ((x3 &&& (2147483647 : Int32)).toInt64)), .second] [])) := by
    refine Goes.via (B := T6.setTop (mkF m 99 #[.val (.int x1), .val (.int x2), .val (.int x3), .val (.int x4), .val (.int r1), .val (.int r2), .val (.int (x3 &&& (2147483647 : Int32))), .val (.ref b3), .val (.long r6), .second, .val (.long ((r1.toInt64) * (r2.toInt64))), .second, .val (.long ((x3 &&& (2147483647 : Int32)).toInt64)), .second] [(.int (1 : Int32))])) (fun t k => XS.iconst X6.here hx rfl (hb hby at_98) k) ?_
    refine Goes.via (B := T6.setTop (mkF m 103 #[.val (.int x1), .val (.int x2), .val (.int x3), .val (.int x4), .val (.int r1), .val (.int r2), .val (.int (x3 &&& (2147483647 : Int32))), .val (.ref b3), .val (.long r6), .second, .val (.long ((r1.toInt64) * (r2.toInt64))), .second, .val (.long ((x3 &&& (2147483647 : Int32)).toInt64)), .second] [(.int (1 : Int32))])) (fun t k => XS.goto X6.here hx rfl (pc0 := 99) (pc' := 103) rfl (hb hby at_99) (by decide) (by decide) k) ?_
    exact finN (Q := (own_Q10 Z x1 x2 x3 x4 fq0 fq1 fq2 fq3 fq4 fq5 fq6 h0 n0)) (F := ReturnedEndW) (C := (room_1).cells) (S := (room_1).slots) X6 hx (t := .boolean) Bd.returns (by simp) (z' := (1 : Int32)) rfl (hb hby at_103) K6 ⟨rfl, N6, trivial⟩ (lvW X6 hlk hS5 K6 (Nat.le_refl _) (by decide) (by decide))
  by_cases b9 : r6 = ((r1.toInt64) * (r2.toInt64))
  · refine Goes.via (B := T6.setTop (mkF m 98 #[.val (.int x1), .val (.int x2), .val (.int x3), .val (.int x4), .val (.int r1), .val (.int r2), .val (.int (x3 &&& (2147483647 : Int32))), .val (.ref b3), .val (.long r6), .second, .val (.long ((r1.toInt64) * (r2.toInt64))), .second, .val (.long ((x3 &&& (2147483647 : Int32)).toInt64)), .second] [])) (fun t k => XS.ifYes X6.here hx rfl (pc0 := 87) (pc' := 98) rfl (hb hby at_87) rfl (XT.ll_eq_t b9) (by decide) (by decide) k) ?_
    exact j7 
  · refine Goes.via (B := T6.setTop (mkF m 90 #[.val (.int x1), .val (.int x2), .val (.int x3), .val (.int x4), .val (.int r1), .val (.int r2), .val (.int (x3 &&& (2147483647 : Int32))), .val (.ref b3), .val (.long r6), .second, .val (.long ((r1.toInt64) * (r2.toInt64))), .second, .val (.long ((x3 &&& (2147483647 : Int32)).toInt64)), .second] [])) (fun t k => XS.ifNo X6.here hx rfl (hb hby at_87) rfl (XT.ll_eq_f b9) k) ?_
    refine Goes.via (B := T6.setTop (mkF m 92 #[.val (.int x1), .val (.int x2), .val (.int x3), .val (.int x4), .val (.int r1), .val (.int r2), .val (.int (x3 &&& (2147483647 : Int32))), .val (.ref b3), .val (.long r6), .second, .val (.long ((r1.toInt64) * (r2.toInt64))), .second, .val (.long ((x3 &&& (2147483647 : Int32)).toInt64)), .second] [(.long r6)])) (fun t k => XS.lload X6.here hx rfl (hb hby at_90) rfl k) ?_
    refine Goes.via (B := T6.setTop (mkF m 94 #[.val (.int x1), .val (.int x2), .val (.int x3), .val (.int x4), .val (.int r1), .val (.int r2), .val (.int (x3 &&& (2147483647 : Int32))), .val (.ref b3), .val (.long r6), .second, .val (.long ((r1.toInt64) * (r2.toInt64))), .second, .val (.long ((x3 &&& (2147483647 : Int32)).toInt64)), .second] [(.long ((x3 &&& (2147483647 : Int32)).toInt64)), (.long r6)])) (fun t k => XS.lload X6.here hx rfl (hb hby at_92) rfl k) ?_
    refine Goes.via (B := T6.setTop (mkF m 95 #[.val (.int x1), .val (.int x2), .val (.int x3), .val (.int x4), .val (.int r1), .val (.int r2), .val (.int (x3 &&& (2147483647 : Int32))), .val (.ref b3), .val (.long r6), .second, .val (.long ((r1.toInt64) * (r2.toInt64))), .second, .val (.long ((x3 &&& (2147483647 : Int32)).toInt64)), .second] [(.int (XT.cmpL r6 ((x3 &&& (2147483647 : Int32)).toInt64)))])) (fun t k => XT.lcmp X6.here hx rfl (hb hby at_94) rfl k) ?_
    refine Goes.via (B := T6.setTop (mkF m 98 #[.val (.int x1), .val (.int x2), .val (.int x3), .val (.int x4), .val (.int r1), .val (.int r2), .val (.int (x3 &&& (2147483647 : Int32))), .val (.ref b3), .val (.long r6), .second, .val (.long ((r1.toInt64) * (r2.toInt64))), .second, .val (.long ((x3 &&& (2147483647 : Int32)).toInt64)), .second] [])) (fun t k => XS.ifNo X6.here hx rfl (hb hby at_95) rfl (XT.ll_ne_f (z3 b9)) k) ?_
    exact j7 
set_option maxRecDepth 65536 in
set_option maxHeartbeats 40000000 in
theorem comes_1 {Post : Tables → Env → Array Value → State → Outcome → State → Prop} (hpost : ∀ tb e args s v u, (limb_1_1.after args s (.returned v) u = true ∧ limb_1_2.after args s (.returned v) u = true ∧ True) → ReturnedEndW s (.returned v) u (Jvm.fieldLocs frame_1_writes args s ++ Jvm.arrayLocs frame_1_arrays args s ++ Jvm.staticLocs frame_1_statics s) 24 4224 → Post tb e args s (.returned v) u) :
    ArmFor flags0 classFile x code maxLocals ret World_1 tables_1 room_1 Calls_1 rest_1 Pre_1 Post := by
  intro l hfl _ _ p e ha hc hk s m args below hf hA hF happ hP
  obtain ⟨hcalls, hrest, hpre⟩ := hP
  obtain ⟨-, -, -, hnamed, -, -, -, hat⟩ := (Spec.applies_iff hf).mp happ
  obtain ⟨hg, hn⟩ := and_e (Cond.before_iff.mp (show (Jvm.Cond.and given_1 narrow_1).before args s = true from hpre))
  obtain ⟨g_0, r_0⟩ := and_e hg
  obtain ⟨g_1, r_1⟩ := and_e r_0
  obtain ⟨g_2, r_2⟩ := and_e r_1
  obtain ⟨g_3, r_3⟩ := and_e r_2
  obtain ⟨w0, w1, w2, w3, rfl⟩ : ∃ w0 w1 w2 w3 : Value, args = #[w0, w1, w2, w3] := by
    have hs : args.size = 4 := by simpa [Cond.value, given_1] using g_0
    obtain ⟨L⟩ := args
    match L, hs with
    | [w0, w1, w2, w3], _ => exact ⟨w0, w1, w2, w3, rfl⟩
  have hw := fun d (hd : d ∈ tables_1) => atoms_spec (ws := Jvm.Cond.code x code maxLocals ret :: tables_1) hat d (List.mem_cons_of_mem _ hd)
  have hfit : Fit s := fun {y c} hc i hi => by
    obtain ⟨ha, rfl⟩ := Array.getElem?_eq_some_iff.mp hc
    have q := List.all_eq_true.mp ((Array.all_eq_true_iff_forall_mem.mp hF) _ (Array.getElem_mem ha)) i (List.mem_range.mpr hi)
    simpa [Array.getElem?_eq_getElem hi] using q
  obtain ⟨i0, ei0⟩ := is_v g_1
  obtain rfl : w0 = (.int i0) := Option.some.inj ei0
  obtain ⟨i1, ei1⟩ := is_v g_2
  obtain rfl : w1 = (.int i1) := Option.some.inj ei1
  obtain ⟨i2, ei2⟩ := is_v g_3
  obtain rfl : w2 = (.int i2) := Option.some.inj ei2
  obtain ⟨i3, ei3⟩ := is_v r_3
  obtain rfl : w3 = (.int i3) := Option.some.inj ei3
  obtain ⟨n_0, q_0⟩ := and_e hn
  obtain ⟨n_1, q_1⟩ := and_e q_0
  obtain ⟨n_2, q_2⟩ := and_e q_1
  obtain ⟨n_3, q_3⟩ := and_e q_2
  obtain ⟨n_4, q_4⟩ := and_e q_3
  obtain ⟨n_5, q_5⟩ := and_e q_4
  have n_6 := q_5
  obtain ⟨st_CUMULATIVE_ROUND_DOWN, es_CUMULATIVE_ROUND_DOWN⟩ := exa_v n_0
  have S_CUMULATIVE_ROUND_DOWN : Sta s s.heap "com/example/vestwright/vestwright/core/Allocation" "CUMULATIVE_ROUND_DOWN" "Lcom/example/vestwright/vestwright/core/Allocation;" (.ref st_CUMULATIVE_ROUND_DOWN) := Sta.start es_CUMULATIVE_ROUND_DOWN (Or.inr ⟨(hw _ (List.mem_of_getElem? (i := 13) rfl)), (hw _ (List.mem_of_getElem? (i := 14) rfl))⟩)
  have E_CUMULATIVE_ROUND_DOWN : Exa s s.heap st_CUMULATIVE_ROUND_DOWN "com/example/vestwright/vestwright/core/Allocation$2" := Exa.start es_CUMULATIVE_ROUND_DOWN n_0
  obtain ⟨st_BACK_LOADED, es_BACK_LOADED⟩ := exa_v n_1
  have S_BACK_LOADED : Sta s s.heap "com/example/vestwright/vestwright/core/Allocation" "BACK_LOADED" "Lcom/example/vestwright/vestwright/core/Allocation;" (.ref st_BACK_LOADED) := Sta.start es_BACK_LOADED (Or.inr ⟨(hw _ (List.mem_of_getElem? (i := 13) rfl)), (hw _ (List.mem_of_getElem? (i := 66) rfl))⟩)
  have E_BACK_LOADED : Exa s s.heap st_BACK_LOADED "com/example/vestwright/vestwright/core/Allocation$4" := Exa.start es_BACK_LOADED n_1
  obtain ⟨st_FRONT_LOADED, es_FRONT_LOADED⟩ := exa_v n_2
  have S_FRONT_LOADED : Sta s s.heap "com/example/vestwright/vestwright/core/Allocation" "FRONT_LOADED" "Lcom/example/vestwright/vestwright/core/Allocation;" (.ref st_FRONT_LOADED) := Sta.start es_FRONT_LOADED (Or.inr ⟨(hw _ (List.mem_of_getElem? (i := 13) rfl)), (hw _ (List.mem_of_getElem? (i := 68) rfl))⟩)
  have E_FRONT_LOADED : Exa s s.heap st_FRONT_LOADED "com/example/vestwright/vestwright/core/Allocation$3" := Exa.start es_FRONT_LOADED n_2
  obtain ⟨st_FRONT_LOADED_TO_SINGLE_TRANCHE, es_FRONT_LOADED_TO_SINGLE_TRANCHE⟩ := exa_v n_3
  have S_FRONT_LOADED_TO_SINGLE_TRANCHE : Sta s s.heap "com/example/vestwright/vestwright/core/Allocation" "FRONT_LOADED_TO_SINGLE_TRANCHE" "Lcom/example/vestwright/vestwright/core/Allocation;" (.ref st_FRONT_LOADED_TO_SINGLE_TRANCHE) := Sta.start es_FRONT_LOADED_TO_SINGLE_TRANCHE (Or.inr ⟨(hw _ (List.mem_of_getElem? (i := 13) rfl)), (hw _ (List.mem_of_getElem? (i := 70) rfl))⟩)
  have E_FRONT_LOADED_TO_SINGLE_TRANCHE : Exa s s.heap st_FRONT_LOADED_TO_SINGLE_TRANCHE "com/example/vestwright/vestwright/core/Allocation$5" := Exa.start es_FRONT_LOADED_TO_SINGLE_TRANCHE n_3
  obtain ⟨st_CUMULATIVE_ROUNDING, es_CUMULATIVE_ROUNDING⟩ := exa_v n_4
  have S_CUMULATIVE_ROUNDING : Sta s s.heap "com/example/vestwright/vestwright/core/Allocation" "CUMULATIVE_ROUNDING" "Lcom/example/vestwright/vestwright/core/Allocation;" (.ref st_CUMULATIVE_ROUNDING) := Sta.start es_CUMULATIVE_ROUNDING (Or.inr ⟨(hw _ (List.mem_of_getElem? (i := 13) rfl)), (hw _ (List.mem_of_getElem? (i := 72) rfl))⟩)
  have E_CUMULATIVE_ROUNDING : Exa s s.heap st_CUMULATIVE_ROUNDING "com/example/vestwright/vestwright/core/Allocation$1" := Exa.start es_CUMULATIVE_ROUNDING n_4
  obtain ⟨st_BACK_LOADED_TO_SINGLE_TRANCHE, es_BACK_LOADED_TO_SINGLE_TRANCHE⟩ := exa_v n_5
  have S_BACK_LOADED_TO_SINGLE_TRANCHE : Sta s s.heap "com/example/vestwright/vestwright/core/Allocation" "BACK_LOADED_TO_SINGLE_TRANCHE" "Lcom/example/vestwright/vestwright/core/Allocation;" (.ref st_BACK_LOADED_TO_SINGLE_TRANCHE) := Sta.start es_BACK_LOADED_TO_SINGLE_TRANCHE (Or.inr ⟨(hw _ (List.mem_of_getElem? (i := 13) rfl)), (hw _ (List.mem_of_getElem? (i := 74) rfl))⟩)
  have E_BACK_LOADED_TO_SINGLE_TRANCHE : Exa s s.heap st_BACK_LOADED_TO_SINGLE_TRANCHE "com/example/vestwright/vestwright/core/Allocation$6" := Exa.start es_BACK_LOADED_TO_SINGLE_TRANCHE n_5
  obtain ⟨st_FRACTIONAL, es_FRACTIONAL⟩ := exa_v n_6
  have S_FRACTIONAL : Sta s s.heap "com/example/vestwright/vestwright/core/Allocation" "FRACTIONAL" "Lcom/example/vestwright/vestwright/core/Allocation;" (.ref st_FRACTIONAL) := Sta.start es_FRACTIONAL (Or.inr ⟨(hw _ (List.mem_of_getElem? (i := 13) rfl)), (hw _ (List.mem_of_getElem? (i := 76) rfl))⟩)
  have E_FRACTIONAL : Exa s s.heap st_FRACTIONAL "com/example/vestwright/vestwright/core/Allocation$7" := Exa.start es_FRACTIONAL n_6
  obtain ⟨n, o, h1, h2, h3, _, L, rfl, ⟨rfl, N, -⟩, hq⟩ := own_m10 l s _ hw tables_1 i0 i1 i2 i3 st_CUMULATIVE_ROUNDING st_CUMULATIVE_ROUND_DOWN st_FRONT_LOADED st_BACK_LOADED st_FRONT_LOADED_TO_SINGLE_TRANCHE st_BACK_LOADED_TO_SINGLE_TRANCHE st_FRACTIONAL s.heap s.heap.size (Old.start s) S_CUMULATIVE_ROUNDING S_CUMULATIVE_ROUND_DOWN S_FRONT_LOADED S_BACK_LOADED S_FRONT_LOADED_TO_SINGLE_TRANCHE S_BACK_LOADED_TO_SINGLE_TRANCHE S_FRACTIONAL p e ha hc hk s m _ below hf ((Spec.applies_iff_loose hf).mp happ).1 ⟨rfl, State.Warmed39.refl s, rfl⟩ trivial
  refine ⟨n, _, h1, h2, h3, hpost _ _ _ _ _ _ ⟨Cond.after_iff.mpr rfl, Cond.after_iff.mpr (eq_i res_at (Term.int_eval (1)) rfl), trivial⟩ ⟨hq.1, hq.2.1, hq.2.2.1, (hq.2.2.2.sift fun y hy => Or.inr (N y hy)).mono (by decide) (by decide)⟩⟩
theorem main_1_1 : Claimed_1_1 := comes_1 fun _ _ _ _ _ _ h hF => ⟨h.1, hF⟩
theorem main_1_2 : Claimed_1_2 := comes_1 fun _ _ _ _ _ _ h hF => ⟨h.2.1, hF⟩
end Jvm.Pilot.@@N@@
namespace Jvm.Pilot.@@N@@
open Jvm Jvm.ClassFile Sem Op Lib Jvm.Free Jvm.Stand Jvm.Pilot.@@N@@.Jvm.D
/-! MADE BY PROGRAM (witnessworld.py) out of the Statement's table words and the real class files: 27 classes; the members and pool entries that the words name. The judged class is class 1, her method 2. -/
namespace start1
open Jvm.ClassFile
def u (s : String) : CpInfo := .utf8 (stringToUtf16 s)
/-- a pool by its gaps: so many unusable entries, then the entry; so many at the end -/
def gap : Nat → List CpInfo → List CpInfo
  | 0, r => r
  | n + 1, r => .unusable :: gap n r
def poolList (es : List (Nat × CpInfo)) (last : Nat) : List CpInfo := es.foldr (fun e r => gap e.1 (e.2 :: r)) (gap last [])
def pool (es : List (Nat × CpInfo)) (last : Nat) : Array CpInfo := ⟨poolList es last⟩
def fileOf (pool : Array CpInfo) (this : Nat) (attrs : Array Attribute := #[]) (ms : Array MethodInfo := #[]) (fl : Nat := 33) (sup : Nat := 0) (ifs : Array Nat := #[]) (fds : Array FieldInfo := #[]) : ClassFile where
  minorVersion := 0
  majorVersion := 65
  constantPool := pool
  accessFlags := fl
  thisClass := this
  superClass := sup
  interfaces := ifs
  fields := fds
  methods := ms
  attributes := attrs
def plain (name : String) (sup : Option ClassId) : Class where
  name := name
  kind := .ordinary
  loader := none
  accessFlags := 33
  super := sup
  interfaces := #[]
  cf := none
  fields := #[]
  methods := #[]
  instanceTypes := #[]
  staticTypes := #[]
  resolved := #[]
  callSites := []
  init := .initialized
  statics := none
  mirror := none

def pool0 : Array CpInfo := pool [(5, u "<init>"), (0, u "()V"), (1, .class_ 10), (1, u "java/lang/Object")] 113

def k0c0 : Code := { maxStack := 0, maxLocals := 1, code := object_method_1_code, exceptionTable := #[], attributes := #[] }
def k0m0 : Method := { name := "<init>", desc := "()V", sig := { parameters := [], returnType := none }, accessFlags := 1, code := some k0c0 }
/-- java/lang/Object -/
def k0 : Class := { plain "java/lang/Object" none with
  accessFlags := 33
  interfaces := #[]
  cf := some (fileOf pool0 8 #[] #[{ accessFlags := 1, nameIndex := 5, descriptorIndex := 6, attributes := #[] }] 33 0 #[] #[])
  fields := #[]
  methods := #[k0m0]
  instanceTypes := #[]
  staticTypes := #[]
  resolved := Array.replicate 124 none
  statics := none }

def pool1 : Array CpInfo := pool [(2, .class_ 4), (1, u "java/lang/Object"), (0, u "<init>"), (0, u "()V"), (0, .integer 2147483647), (0, .fieldref 9 10), (0, .class_ 11), (0, .nameAndType 12 13), (0, u "com/example/vestwright/vestwright/core/Allocation"), (0, u "CUMULATIVE_ROUNDING"), (0, u "Lcom/example/vestwright/vestwright/core/Allocation;"), (0, .fieldref 9 15), (0, .nameAndType 16 13), (0, u "CUMULATIVE_ROUND_DOWN"), (0, .fieldref 9 18), (0, .nameAndType 19 13), (0, u "FRONT_LOADED"), (0, .fieldref 9 21), (0, .nameAndType 22 13), (0, u "BACK_LOADED"), (0, .fieldref 9 24), (0, .nameAndType 25 13), (0, u "FRONT_LOADED_TO_SINGLE_TRANCHE"), (0, .fieldref 9 27), (0, .nameAndType 28 13), (0, u "BACK_LOADED_TO_SINGLE_TRANCHE"), (0, .fieldref 9 30), (0, .nameAndType 31 13), (0, u "FRACTIONAL"), (0, .methodref 33 34), (0, .class_ 35), (0, .nameAndType 36 37), (0, u "java/lang/Math"), (0, u "max"), (0, u "(II)I"), (0, .class_ 39), (0, u "com/example/vestwright/vestwright/core/Installments"), (0, .methodref 41 42), (0, .class_ 43), (0, .nameAndType 44 45), (0, u "com/example/vestwright/vestwright/core/InstallmentsMonthsToLastDatePinLaw"), (0, u "allocation"), (0, u "(I)Lcom/example/vestwright/vestwright/core/Allocation;"), (0, .methodref 38 47), (0, .nameAndType 5 48), (0, u "(IIILcom/example/vestwright/vestwright/core/Allocation;)V"), (0, .methodref 38 50), (0, .nameAndType 51 52), (0, u "monthsToLastDate"), (0, u "()J"), (3, u "law"), (0, u "(IIII)Z")] 2

def k1m0 : Method := { name := "<init>", desc := "()V", sig := { parameters := [], returnType := none }, accessFlags := 2, code := none }
def k1c1 : Code := { maxStack := 2, maxLocals := 2, code := method_2_code, exceptionTable := #[], attributes := #[] }
def k1m1 : Method := { name := "allocation", desc := "(I)Lcom/example/vestwright/vestwright/core/Allocation;", sig := { parameters := [.int], returnType := some (.object "com/example/vestwright/vestwright/core/Allocation") }, accessFlags := 10, code := some k1c1 }
def k1c2 : Code := { maxStack := 6, maxLocals := 14, code := code, exceptionTable := #[], attributes := #[] }
def k1m2 : Method := { name := "law", desc := "(IIII)Z", sig := { parameters := [.int, .int, .int, .int], returnType := some .boolean }, accessFlags := 9, code := some k1c2 }
/-- com/example/vestwright/vestwright/core/InstallmentsMonthsToLastDatePinLaw -/
def k1 : Class := { plain "com/example/vestwright/vestwright/core/InstallmentsMonthsToLastDatePinLaw" (some 0) with
  accessFlags := 49
  interfaces := #[]
  cf := some (fileOf pool1 41 #[] #[{ accessFlags := 2, nameIndex := 5, descriptorIndex := 6, attributes := #[] }, { accessFlags := 10, nameIndex := 44, descriptorIndex := 45, attributes := #[] }, { accessFlags := 9, nameIndex := 56, descriptorIndex := 57, attributes := #[] }] 49 2 #[] #[])
  fields := #[]
  methods := #[k1m0, k1m1, k1m2]
  instanceTypes := #[]
  staticTypes := #[]
  resolved := Array.replicate 60 none
  statics := none }

def pool2 : Array CpInfo := pool [(1, .class_ 2), (0, u "java/lang/Math"), (1, .class_ 6), (1, u "java/lang/Object"), (0, u "<init>"), (0, u "()V"), (89, .class_ 100), (1, u "java/lang/Math$RandomNumberGeneratorHolder"), (20, u "(JJ)J"), (50, u "negativeZeroFloatBits"), (0, u "J"), (2, u "negativeZeroDoubleBits"), (21, u "max"), (46, u "$assertionsDisabled"), (0, u "Z"), (88, u "(II)I"), (2, u "twoToTheDoubleScaleDown"), (0, u "D"), (4, u "twoToTheDoubleScaleUp"), (9, u "E"), (3, u "PI"), (2, u "TAU"), (2, u "DEGREES_TO_RADIANS"), (0, u "RADIANS_TO_DEGREES")] 94

def k2m0 : Method := { name := "<init>", desc := "()V", sig := { parameters := [], returnType := none }, accessFlags := 2, code := none }
def k2c1 : Code := { maxStack := 2, maxLocals := 2, code := jdk_29_method_65_code, exceptionTable := #[], attributes := #[] }
def k2m1 : Method := { name := "max", desc := "(II)I", sig := { parameters := [.int, .int], returnType := some .int }, accessFlags := 9, code := some k2c1 }
def k2c2 : Code := { maxStack := 4, maxLocals := 4, code := jdk_29_method_66_code, exceptionTable := #[], attributes := #[] }
def k2m2 : Method := { name := "max", desc := "(JJ)J", sig := { parameters := [.long, .long], returnType := some .long }, accessFlags := 9, code := some k2c2 }
/-- java/lang/Math -/
def k2 : Class := { plain "java/lang/Math" (some 0) with
  accessFlags := 49
  interfaces := #[]
  cf := some (fileOf pool2 1 #[.nestMembers #[98]] #[{ accessFlags := 2, nameIndex := 7, descriptorIndex := 8, attributes := #[] }, { accessFlags := 9, nameIndex := 198, descriptorIndex := 335, attributes := #[] }, { accessFlags := 9, nameIndex := 198, descriptorIndex := 121, attributes := #[] }] 49 4 #[] #[{ accessFlags := 25, nameIndex := 354, descriptorIndex := 339, attributes := #[] }, { accessFlags := 25, nameIndex := 358, descriptorIndex := 339, attributes := #[] }, { accessFlags := 25, nameIndex := 361, descriptorIndex := 339, attributes := #[] }, { accessFlags := 26, nameIndex := 364, descriptorIndex := 339, attributes := #[] }, { accessFlags := 26, nameIndex := 365, descriptorIndex := 339, attributes := #[] }, { accessFlags := 26, nameIndex := 172, descriptorIndex := 173, attributes := #[] }, { accessFlags := 26, nameIndex := 176, descriptorIndex := 173, attributes := #[] }, { accessFlags := 8, nameIndex := 344, descriptorIndex := 339, attributes := #[] }, { accessFlags := 8, nameIndex := 338, descriptorIndex := 339, attributes := #[] }, { accessFlags := 4120, nameIndex := 245, descriptorIndex := 246, attributes := #[] }])
  fields := #[{ name := "E", type := .double, accessFlags := 25, slot := 0, constantValue := 0 }, { name := "PI", type := .double, accessFlags := 25, slot := 1, constantValue := 0 }, { name := "TAU", type := .double, accessFlags := 25, slot := 2, constantValue := 0 }, { name := "DEGREES_TO_RADIANS", type := .double, accessFlags := 26, slot := 3, constantValue := 0 }, { name := "RADIANS_TO_DEGREES", type := .double, accessFlags := 26, slot := 4, constantValue := 0 }, { name := "negativeZeroFloatBits", type := .long, accessFlags := 26, slot := 5, constantValue := 0 }, { name := "negativeZeroDoubleBits", type := .long, accessFlags := 26, slot := 6, constantValue := 0 }, { name := "twoToTheDoubleScaleUp", type := .double, accessFlags := 8, slot := 7, constantValue := 0 }, { name := "twoToTheDoubleScaleDown", type := .double, accessFlags := 8, slot := 8, constantValue := 0 }, { name := "$assertionsDisabled", type := .boolean, accessFlags := 4120, slot := 9, constantValue := 0 }]
  methods := #[k2m0, k2m1, k2m2]
  instanceTypes := #[]
  staticTypes := #[.double, .double, .double, .double, .double, .long, .long, .double, .double, .boolean]
  resolved := Array.replicate 460 none
  statics := none }

def pool3 : Array CpInfo := pool [(1, .methodref 2 3), (0, .class_ 4), (0, .nameAndType 5 6), (0, u "java/lang/Object"), (0, u "<init>"), (0, u "()V"), (0, .class_ 8), (0, u "java/lang/Record")] 13

def k3c0 : Code := { maxStack := 1, maxLocals := 1, code := jdk_30_method_1_code, exceptionTable := #[], attributes := #[] }
def k3m0 : Method := { name := "<init>", desc := "()V", sig := { parameters := [], returnType := none }, accessFlags := 4, code := some k3c0 }
/-- java/lang/Record -/
def k3 : Class := { plain "java/lang/Record" (some 0) with
  accessFlags := 1057
  interfaces := #[]
  cf := some (fileOf pool3 7 #[] #[{ accessFlags := 4, nameIndex := 5, descriptorIndex := 6, attributes := #[] }] 1057 2 #[] #[])
  fields := #[]
  methods := #[k3m0]
  instanceTypes := #[]
  staticTypes := #[]
  resolved := Array.replicate 22 none
  statics := none }

def pool4 : Array CpInfo := pool [(1, .methodref 2 3), (0, .class_ 4), (0, .nameAndType 5 6), (0, u "java/lang/Record"), (0, u "<init>"), (0, u "()V"), (0, .string 8), (0, u "allocation"), (0, .methodref 10 11), (0, .class_ 12), (0, .nameAndType 13 14), (0, u "java/util/Objects"), (0, u "requireNonNull"), (0, u "(Ljava/lang/Object;Ljava/lang/String;)Ljava/lang/Object;"), (0, .string 16), (0, u "every_months"), (0, .methodref 18 19), (0, .class_ 20), (0, .nameAndType 21 22), (0, u "com/example/vestwright/vestwright/core/Bounds"), (0, u "checkAtLeast"), (0, u "(Ljava/lang/String;JJ)V"), (0, .string 24), (0, u "installments"), (0, .string 26), (0, u "cliff_months"), (0, .fieldref 28 29), (0, .class_ 30), (0, .nameAndType 31 32), (0, u "com/example/vestwright/vestwright/core/Installments"), (0, u "everyMonths"), (0, u "I"), (0, .fieldref 28 34), (0, .nameAndType 35 32), (0, u "count"), (0, .fieldref 28 37), (0, .nameAndType 38 32), (0, u "cliffMonths"), (0, .fieldref 28 40), (0, .nameAndType 8 41), (0, u "Lcom/example/vestwright/vestwright/core/Allocation;"), (0, .methodref 43 44), (0, .class_ 45), (0, .nameAndType 46 47), (0, u "java/lang/Math"), (0, u "max"), (0, u "(JJ)J"), (12, u "(IIILcom/example/vestwright/vestwright/core/Allocation;)V"), (3, u "monthsToLastDate"), (0, u "()J")] 27

def k4c0 : Code := { maxStack := 5, maxLocals := 5, code := prog_61_method_1_code, exceptionTable := #[], attributes := #[] }
def k4m0 : Method := { name := "<init>", desc := "(IIILcom/example/vestwright/vestwright/core/Allocation;)V", sig := { parameters := [.int, .int, .int, (.object "com/example/vestwright/vestwright/core/Allocation")], returnType := none }, accessFlags := 1, code := some k4c0 }
def k4c1 : Code := { maxStack := 4, maxLocals := 1, code := prog_61_method_2_code, exceptionTable := #[], attributes := #[] }
def k4m1 : Method := { name := "monthsToLastDate", desc := "()J", sig := { parameters := [], returnType := some .long }, accessFlags := 1, code := some k4c1 }
/-- com/example/vestwright/vestwright/core/Installments -/
def k4 : Class := { plain "com/example/vestwright/vestwright/core/Installments" (some 3) with
  accessFlags := 49
  interfaces := #[]
  cf := some (fileOf pool4 28 #[] #[{ accessFlags := 1, nameIndex := 5, descriptorIndex := 60, attributes := #[] }, { accessFlags := 1, nameIndex := 64, descriptorIndex := 65, attributes := #[] }] 49 2 #[] #[{ accessFlags := 18, nameIndex := 31, descriptorIndex := 32, attributes := #[] }, { accessFlags := 18, nameIndex := 35, descriptorIndex := 32, attributes := #[] }, { accessFlags := 18, nameIndex := 38, descriptorIndex := 32, attributes := #[] }, { accessFlags := 18, nameIndex := 8, descriptorIndex := 41, attributes := #[] }])
  fields := #[{ name := "everyMonths", type := .int, accessFlags := 18, slot := 0, constantValue := 0 }, { name := "count", type := .int, accessFlags := 18, slot := 1, constantValue := 0 }, { name := "cliffMonths", type := .int, accessFlags := 18, slot := 2, constantValue := 0 }, { name := "allocation", type := (.object "com/example/vestwright/vestwright/core/Allocation"), accessFlags := 18, slot := 3, constantValue := 0 }]
  methods := #[k4m0, k4m1]
  instanceTypes := #[.int, .int, .int, (.object "com/example/vestwright/vestwright/core/Allocation")]
  staticTypes := #[]
  resolved := Array.replicate 93 none
  statics := none }

def pool5 : Array CpInfo := pool [(1, .class_ 2), (0, u "java/lang/constant/Constable"), (0, .class_ 4), (0, u "java/lang/Object")] 6

/-- java/lang/constant/Constable -/
def k5 : Class := { plain "java/lang/constant/Constable" (some 0) with
  accessFlags := 1537
  interfaces := #[]
  cf := some (fileOf pool5 1 #[] #[] 1537 3 #[] #[])
  fields := #[]
  methods := #[]
  instanceTypes := #[]
  staticTypes := #[]
  resolved := Array.replicate 11 none
  statics := none }

def pool6 : Array CpInfo := pool [(1, .class_ 2), (0, u "java/lang/Comparable"), (0, .class_ 4), (0, u "java/lang/Object")] 7

/-- java/lang/Comparable -/
def k6 : Class := { plain "java/lang/Comparable" (some 0) with
  accessFlags := 1537
  interfaces := #[]
  cf := some (fileOf pool6 1 #[] #[] 1537 3 #[] #[])
  fields := #[]
  methods := #[]
  instanceTypes := #[]
  staticTypes := #[]
  resolved := Array.replicate 12 none
  statics := none }

def pool7 : Array CpInfo := pool [(1, .class_ 2), (0, u "java/io/Serializable"), (0, .class_ 4), (0, u "java/lang/Object")] 2

/-- java/io/Serializable -/
def k7 : Class := { plain "java/io/Serializable" (some 0) with
  accessFlags := 1537
  interfaces := #[]
  cf := some (fileOf pool7 1 #[] #[] 1537 3 #[] #[])
  fields := #[]
  methods := #[]
  instanceTypes := #[]
  staticTypes := #[]
  resolved := Array.replicate 7 none
  statics := none }

def pool8 : Array CpInfo := pool [(2, .class_ 4), (1, u "java/lang/Enum"), (0, u "name"), (0, u "Ljava/lang/String;"), (2, u "ordinal"), (0, u "I"), (1, .class_ 14), (1, u "java/lang/Object"), (4, u "hash"), (86, .class_ 108), (1, u "java/lang/Enum$EnumDesc"), (2, .class_ 112), (0, u "java/lang/constant/Constable"), (0, .class_ 114), (0, u "java/lang/Comparable"), (0, .class_ 116), (0, u "java/io/Serializable")] 87

/-- java/lang/Enum -/
def k8 : Class := { plain "java/lang/Enum" (some 0) with
  accessFlags := 1057
  interfaces := #[5, 6, 7]
  cf := some (fileOf pool8 2 #[.nestMembers #[106]] #[] 1057 12 #[111, 113, 115] #[{ accessFlags := 18, nameIndex := 5, descriptorIndex := 6, attributes := #[] }, { accessFlags := 18, nameIndex := 9, descriptorIndex := 10, attributes := #[] }, { accessFlags := 2, nameIndex := 19, descriptorIndex := 10, attributes := #[] }])
  fields := #[{ name := "name", type := (.object "java/lang/String"), accessFlags := 18, slot := 0, constantValue := 0 }, { name := "ordinal", type := .int, accessFlags := 18, slot := 1, constantValue := 0 }, { name := "hash", type := .int, accessFlags := 2, slot := 2, constantValue := 0 }]
  methods := #[]
  instanceTypes := #[(.object "java/lang/String"), .int, .int]
  staticTypes := #[]
  resolved := Array.replicate 204 none
  statics := none }

def pool9 : Array CpInfo := pool [(3, .class_ 4), (0, u "com/example/vestwright/vestwright/core/Allocation"), (2, u "CUMULATIVE_ROUNDING"), (0, u "Lcom/example/vestwright/vestwright/core/Allocation;"), (2, u "CUMULATIVE_ROUND_DOWN"), (2, u "FRONT_LOADED"), (2, u "BACK_LOADED"), (2, u "FRONT_LOADED_TO_SINGLE_TRANCHE"), (2, u "BACK_LOADED_TO_SINGLE_TRANCHE"), (2, u "FRACTIONAL"), (2, u "$VALUES"), (0, u "[Lcom/example/vestwright/vestwright/core/Allocation;"), (6, .class_ 39), (1, u "java/lang/Enum"), (142, .class_ 183), (0, u "com/example/vestwright/vestwright/core/Allocation$1"), (2, .class_ 187), (0, u "com/example/vestwright/vestwright/core/Allocation$2"), (2, .class_ 191), (0, u "com/example/vestwright/vestwright/core/Allocation$3"), (2, .class_ 195), (0, u "com/example/vestwright/vestwright/core/Allocation$4"), (2, .class_ 199), (0, u "com/example/vestwright/vestwright/core/Allocation$5"), (2, .class_ 203), (0, u "com/example/vestwright/vestwright/core/Allocation$6"), (2, .class_ 207), (0, u "com/example/vestwright/vestwright/core/Allocation$7"), (6, u "FRACTIONAL_PLACES"), (0, u "I")] 52

/-- com/example/vestwright/vestwright/core/Allocation -/
def k9 : Class := { plain "com/example/vestwright/vestwright/core/Allocation" (some 8) with
  accessFlags := 17441
  interfaces := #[]
  cf := some (fileOf pool9 3 #[.nestMembers #[206, 202, 198, 194, 190, 186, 182]] #[] 17441 37 #[] #[{ accessFlags := 16409, nameIndex := 7, descriptorIndex := 8, attributes := #[] }, { accessFlags := 16409, nameIndex := 11, descriptorIndex := 8, attributes := #[] }, { accessFlags := 16409, nameIndex := 14, descriptorIndex := 8, attributes := #[] }, { accessFlags := 16409, nameIndex := 17, descriptorIndex := 8, attributes := #[] }, { accessFlags := 16409, nameIndex := 20, descriptorIndex := 8, attributes := #[] }, { accessFlags := 16409, nameIndex := 23, descriptorIndex := 8, attributes := #[] }, { accessFlags := 16409, nameIndex := 26, descriptorIndex := 8, attributes := #[] }, { accessFlags := 25, nameIndex := 214, descriptorIndex := 215, attributes := #[] }, { accessFlags := 4122, nameIndex := 29, descriptorIndex := 30, attributes := #[] }])
  fields := #[{ name := "CUMULATIVE_ROUNDING", type := (.object "com/example/vestwright/vestwright/core/Allocation"), accessFlags := 16409, slot := 0, constantValue := 0 }, { name := "CUMULATIVE_ROUND_DOWN", type := (.object "com/example/vestwright/vestwright/core/Allocation"), accessFlags := 16409, slot := 1, constantValue := 0 }, { name := "FRONT_LOADED", type := (.object "com/example/vestwright/vestwright/core/Allocation"), accessFlags := 16409, slot := 2, constantValue := 0 }, { name := "BACK_LOADED", type := (.object "com/example/vestwright/vestwright/core/Allocation"), accessFlags := 16409, slot := 3, constantValue := 0 }, { name := "FRONT_LOADED_TO_SINGLE_TRANCHE", type := (.object "com/example/vestwright/vestwright/core/Allocation"), accessFlags := 16409, slot := 4, constantValue := 0 }, { name := "BACK_LOADED_TO_SINGLE_TRANCHE", type := (.object "com/example/vestwright/vestwright/core/Allocation"), accessFlags := 16409, slot := 5, constantValue := 0 }, { name := "FRACTIONAL", type := (.object "com/example/vestwright/vestwright/core/Allocation"), accessFlags := 16409, slot := 6, constantValue := 0 }, { name := "FRACTIONAL_PLACES", type := .int, accessFlags := 25, slot := 7, constantValue := 0 }, { name := "$VALUES", type := (.array (.object "com/example/vestwright/vestwright/core/Allocation")), accessFlags := 4122, slot := 8, constantValue := 0 }]
  methods := #[]
  instanceTypes := #[(.object "java/lang/String"), .int, .int]
  staticTypes := #[(.object "com/example/vestwright/vestwright/core/Allocation"), (.object "com/example/vestwright/vestwright/core/Allocation"), (.object "com/example/vestwright/vestwright/core/Allocation"), (.object "com/example/vestwright/vestwright/core/Allocation"), (.object "com/example/vestwright/vestwright/core/Allocation"), (.object "com/example/vestwright/vestwright/core/Allocation"), (.object "com/example/vestwright/vestwright/core/Allocation"), .int, (.array (.object "com/example/vestwright/vestwright/core/Allocation"))]
  resolved := Array.replicate 268 none
  statics := some 0 }

def pool10 : Array CpInfo := pool [(2, .class_ 4), (1, u "java/lang/CharSequence"), (42, .class_ 48), (0, u "java/lang/CharSequence$1CodePointIterator"), (10, .class_ 60), (0, u "java/lang/CharSequence$1CharIterator"), (5, .class_ 67), (0, u "java/lang/Object")] 63

/-- java/lang/CharSequence -/
def k10 : Class := { plain "java/lang/CharSequence" (some 0) with
  accessFlags := 1537
  interfaces := #[]
  cf := some (fileOf pool10 2 #[.nestMembers #[47, 59]] #[] 1537 66 #[] #[])
  fields := #[]
  methods := #[]
  instanceTypes := #[]
  staticTypes := #[]
  resolved := Array.replicate 131 none
  statics := none }

def pool11 : Array CpInfo := pool [(1, .class_ 2), (0, u "java/lang/constant/ConstantDesc"), (0, .class_ 4), (0, u "java/lang/Object")] 32

/-- java/lang/constant/ConstantDesc -/
def k11 : Class := { plain "java/lang/constant/ConstantDesc" (some 0) with
  accessFlags := 1537
  interfaces := #[]
  cf := some (fileOf pool11 1 #[] #[] 1537 3 #[] #[])
  fields := #[]
  methods := #[]
  instanceTypes := #[]
  staticTypes := #[]
  resolved := Array.replicate 37 none
  statics := none }

def pool12 : Array CpInfo := pool [(2, .class_ 4), (1, u "java/lang/Object"), (0, u "<init>"), (0, u "()V"), (3, .class_ 12), (1, u "java/lang/String"), (0, u "value"), (0, u "[B"), (2, u "coder"), (0, u "B"), (2, u "hash"), (0, u "I"), (2, u "hashIsZero"), (0, u "Z"), (13, u "COMPACT_STRINGS"), (534, .class_ 576), (0, u "java/lang/CharSequence"), (22, u "CASE_INSENSITIVE_ORDER"), (0, u "Ljava/util/Comparator;"), (500, u "serialPersistentFields"), (0, u "[Ljava/io/ObjectStreamField;"), (0, .class_ 1104), (0, u "java/lang/String$CaseInsensitiveComparator"), (1, .class_ 1107), (0, u "java/io/Serializable"), (0, .class_ 1109), (0, u "java/lang/Comparable"), (0, .class_ 1111), (0, u "java/lang/constant/Constable"), (0, .class_ 1113), (0, u "java/lang/constant/ConstantDesc"), (2, u "serialVersionUID"), (0, u "J"), (3, u "REPL"), (0, u "C"), (2, u "LATIN1"), (1, u "UTF16")] 323

def k12m0 : Method := { name := "<init>", desc := "()V", sig := { parameters := [], returnType := none }, accessFlags := 1, code := none }
/-- java/lang/String -/
def k12 : Class := { plain "java/lang/String" (some 0) with
  accessFlags := 49
  interfaces := #[7, 6, 10, 5, 11]
  cf := some (fileOf pool12 10 #[.nestMembers #[1103]] #[{ accessFlags := 1, nameIndex := 5, descriptorIndex := 6, attributes := #[] }] 49 2 #[1106, 1108, 575, 1110, 1112] #[{ accessFlags := 18, nameIndex := 13, descriptorIndex := 14, attributes := #[] }, { accessFlags := 18, nameIndex := 17, descriptorIndex := 18, attributes := #[] }, { accessFlags := 2, nameIndex := 21, descriptorIndex := 22, attributes := #[] }, { accessFlags := 2, nameIndex := 25, descriptorIndex := 26, attributes := #[] }, { accessFlags := 26, nameIndex := 1116, descriptorIndex := 1117, attributes := #[] }, { accessFlags := 24, nameIndex := 40, descriptorIndex := 26, attributes := #[] }, { accessFlags := 26, nameIndex := 1101, descriptorIndex := 1102, attributes := #[] }, { accessFlags := 26, nameIndex := 1121, descriptorIndex := 1122, attributes := #[] }, { accessFlags := 25, nameIndex := 599, descriptorIndex := 600, attributes := #[] }, { accessFlags := 24, nameIndex := 1125, descriptorIndex := 18, attributes := #[] }, { accessFlags := 24, nameIndex := 1127, descriptorIndex := 18, attributes := #[] }])
  fields := #[{ name := "value", type := (.array .byte), accessFlags := 18, slot := 0, constantValue := 0 }, { name := "coder", type := .byte, accessFlags := 18, slot := 1, constantValue := 0 }, { name := "hash", type := .int, accessFlags := 2, slot := 2, constantValue := 0 }, { name := "hashIsZero", type := .boolean, accessFlags := 2, slot := 3, constantValue := 0 }, { name := "serialVersionUID", type := .long, accessFlags := 26, slot := 0, constantValue := 0 }, { name := "COMPACT_STRINGS", type := .boolean, accessFlags := 24, slot := 1, constantValue := 0 }, { name := "serialPersistentFields", type := (.array (.object "java/io/ObjectStreamField")), accessFlags := 26, slot := 2, constantValue := 0 }, { name := "REPL", type := .char, accessFlags := 26, slot := 3, constantValue := 0 }, { name := "CASE_INSENSITIVE_ORDER", type := (.object "java/util/Comparator"), accessFlags := 25, slot := 4, constantValue := 0 }, { name := "LATIN1", type := .byte, accessFlags := 24, slot := 5, constantValue := 0 }, { name := "UTF16", type := .byte, accessFlags := 24, slot := 6, constantValue := 0 }]
  methods := #[k12m0]
  instanceTypes := #[(.array .byte), .byte, .int, .boolean]
  staticTypes := #[.long, .boolean, (.array (.object "java/io/ObjectStreamField")), .char, (.object "java/util/Comparator"), .byte, .byte]
  resolved := Array.replicate 1451 none
  statics := none }

def pool13 : Array CpInfo := pool [(2, .class_ 4), (1, u "java/lang/Object"), (0, u "<init>"), (0, u "()V"), (35, .class_ 44), (1, u "java/util/Objects"), (0, u "requireNonNull"), (48, u "(Ljava/lang/Object;Ljava/lang/String;)Ljava/lang/Object;")] 89

def k13m0 : Method := { name := "<init>", desc := "()V", sig := { parameters := [], returnType := none }, accessFlags := 2, code := none }
def k13c1 : Code := { maxStack := 3, maxLocals := 2, code := jdk_31_method_11_code, exceptionTable := #[], attributes := #[] }
def k13m1 : Method := { name := "requireNonNull", desc := "(Ljava/lang/Object;Ljava/lang/String;)Ljava/lang/Object;", sig := { parameters := [(.object "java/lang/Object"), (.object "java/lang/String")], returnType := some (.object "java/lang/Object") }, accessFlags := 9, code := some k13c1 }
/-- java/util/Objects -/
def k13 : Class := { plain "java/util/Objects" (some 0) with
  accessFlags := 49
  interfaces := #[]
  cf := some (fileOf pool13 42 #[] #[{ accessFlags := 2, nameIndex := 5, descriptorIndex := 6, attributes := #[] }, { accessFlags := 9, nameIndex := 45, descriptorIndex := 94, attributes := #[] }] 49 2 #[] #[])
  fields := #[]
  methods := #[k13m0, k13m1]
  instanceTypes := #[]
  staticTypes := #[]
  resolved := Array.replicate 184 none
  statics := none }

def pool14 : Array CpInfo := pool [(2, .class_ 4), (1, u "java/lang/Object"), (0, u "<init>"), (0, u "()V"), (2, .long 9223372036854775807), (1, .methodref 12 13), (0, .class_ 14), (0, .nameAndType 15 16), (0, u "com/example/vestwright/vestwright/core/Bounds"), (0, u "checkWithin"), (0, u "(Ljava/lang/String;JJJ)V"), (39, u "checkAtLeast"), (0, u "(Ljava/lang/String;JJ)V")] 22

def k14m0 : Method := { name := "<init>", desc := "()V", sig := { parameters := [], returnType := none }, accessFlags := 2, code := none }
def k14c1 : Code := { maxStack := 7, maxLocals := 5, code := prog_24_method_2_code, exceptionTable := #[], attributes := #[] }
def k14m1 : Method := { name := "checkAtLeast", desc := "(Ljava/lang/String;JJ)V", sig := { parameters := [(.object "java/lang/String"), .long, .long], returnType := none }, accessFlags := 9, code := some k14c1 }
def k14c2 : Code := { maxStack := 7, maxLocals := 7, code := prog_24_method_5_code, exceptionTable := #[], attributes := #[] }
def k14m2 : Method := { name := "checkWithin", desc := "(Ljava/lang/String;JJJ)V", sig := { parameters := [(.object "java/lang/String"), .long, .long, .long], returnType := none }, accessFlags := 9, code := some k14c2 }
/-- com/example/vestwright/vestwright/core/Bounds -/
def k14 : Class := { plain "com/example/vestwright/vestwright/core/Bounds" (some 0) with
  accessFlags := 33
  interfaces := #[]
  cf := some (fileOf pool14 12 #[] #[{ accessFlags := 2, nameIndex := 5, descriptorIndex := 6, attributes := #[] }, { accessFlags := 9, nameIndex := 56, descriptorIndex := 57, attributes := #[] }, { accessFlags := 9, nameIndex := 15, descriptorIndex := 16, attributes := #[] }] 33 2 #[] #[])
  fields := #[]
  methods := #[k14m0, k14m1, k14m2]
  instanceTypes := #[]
  staticTypes := #[]
  resolved := Array.replicate 80 none
  statics := none }

def pool15 : Array CpInfo := pool [(2, .class_ 4), (1, u "com/example/vestwright/vestwright/core/Allocation"), (37, .class_ 43), (0, u "com/example/vestwright/vestwright/core/Allocation$1")] 37

/-- com/example/vestwright/vestwright/core/Allocation$1 -/
def k15 : Class := { plain "com/example/vestwright/vestwright/core/Allocation$1" (some 9) with
  accessFlags := 16432
  interfaces := #[]
  cf := some (fileOf pool15 42 #[.nestHost 2] #[] 16432 2 #[] #[])
  fields := #[]
  methods := #[]
  instanceTypes := #[(.object "java/lang/String"), .int, .int]
  staticTypes := #[]
  resolved := Array.replicate 81 none
  statics := none }

def pool16 : Array CpInfo := pool [(2, .class_ 4), (1, u "com/example/vestwright/vestwright/core/Allocation"), (21, .class_ 27), (0, u "com/example/vestwright/vestwright/core/Allocation$2")] 36

/-- com/example/vestwright/vestwright/core/Allocation$2 -/
def k16 : Class := { plain "com/example/vestwright/vestwright/core/Allocation$2" (some 9) with
  accessFlags := 16432
  interfaces := #[]
  cf := some (fileOf pool16 26 #[.nestHost 2] #[] 16432 2 #[] #[])
  fields := #[]
  methods := #[]
  instanceTypes := #[(.object "java/lang/String"), .int, .int]
  staticTypes := #[]
  resolved := Array.replicate 64 none
  statics := none }

def pool17 : Array CpInfo := pool [(2, .class_ 4), (1, u "com/example/vestwright/vestwright/core/Allocation"), (10, .class_ 16), (0, u "com/example/vestwright/vestwright/core/Allocation$3")] 34

/-- com/example/vestwright/vestwright/core/Allocation$3 -/
def k17 : Class := { plain "com/example/vestwright/vestwright/core/Allocation$3" (some 9) with
  accessFlags := 16432
  interfaces := #[]
  cf := some (fileOf pool17 15 #[.nestHost 2] #[] 16432 2 #[] #[])
  fields := #[]
  methods := #[]
  instanceTypes := #[(.object "java/lang/String"), .int, .int]
  staticTypes := #[]
  resolved := Array.replicate 51 none
  statics := none }

def pool18 : Array CpInfo := pool [(2, .class_ 4), (1, u "com/example/vestwright/vestwright/core/Allocation"), (16, .class_ 22), (0, u "com/example/vestwright/vestwright/core/Allocation$4")] 35

/-- com/example/vestwright/vestwright/core/Allocation$4 -/
def k18 : Class := { plain "com/example/vestwright/vestwright/core/Allocation$4" (some 9) with
  accessFlags := 16432
  interfaces := #[]
  cf := some (fileOf pool18 21 #[.nestHost 2] #[] 16432 2 #[] #[])
  fields := #[]
  methods := #[]
  instanceTypes := #[(.object "java/lang/String"), .int, .int]
  staticTypes := #[]
  resolved := Array.replicate 58 none
  statics := none }

def pool19 : Array CpInfo := pool [(2, .class_ 4), (1, u "com/example/vestwright/vestwright/core/Allocation"), (10, .class_ 16), (0, u "com/example/vestwright/vestwright/core/Allocation$5")] 34

/-- com/example/vestwright/vestwright/core/Allocation$5 -/
def k19 : Class := { plain "com/example/vestwright/vestwright/core/Allocation$5" (some 9) with
  accessFlags := 16432
  interfaces := #[]
  cf := some (fileOf pool19 15 #[.nestHost 2] #[] 16432 2 #[] #[])
  fields := #[]
  methods := #[]
  instanceTypes := #[(.object "java/lang/String"), .int, .int]
  staticTypes := #[]
  resolved := Array.replicate 51 none
  statics := none }

def pool20 : Array CpInfo := pool [(2, .class_ 4), (1, u "com/example/vestwright/vestwright/core/Allocation"), (16, .class_ 22), (0, u "com/example/vestwright/vestwright/core/Allocation$6")] 35

/-- com/example/vestwright/vestwright/core/Allocation$6 -/
def k20 : Class := { plain "com/example/vestwright/vestwright/core/Allocation$6" (some 9) with
  accessFlags := 16432
  interfaces := #[]
  cf := some (fileOf pool20 21 #[.nestHost 2] #[] 16432 2 #[] #[])
  fields := #[]
  methods := #[]
  instanceTypes := #[(.object "java/lang/String"), .int, .int]
  staticTypes := #[]
  resolved := Array.replicate 58 none
  statics := none }

def pool21 : Array CpInfo := pool [(2, .class_ 4), (1, u "com/example/vestwright/vestwright/core/Allocation"), (32, .class_ 38), (0, u "com/example/vestwright/vestwright/core/Allocation$7")] 36

/-- com/example/vestwright/vestwright/core/Allocation$7 -/
def k21 : Class := { plain "com/example/vestwright/vestwright/core/Allocation$7" (some 9) with
  accessFlags := 16432
  interfaces := #[]
  cf := some (fileOf pool21 37 #[.nestHost 2] #[] 16432 2 #[] #[])
  fields := #[]
  methods := #[]
  instanceTypes := #[(.object "java/lang/String"), .int, .int]
  staticTypes := #[]
  resolved := Array.replicate 75 none
  statics := none }

def pool22 : Array CpInfo := pool [(1, u "java/lang/Cloneable"), (0, .class_ 1), (0, u "java/lang/Object"), (0, .class_ 3)] 3

/-- java/lang/Cloneable -/
def k22 : Class := { plain "java/lang/Cloneable" (some 0) with
  accessFlags := 1537
  interfaces := #[]
  cf := some (fileOf pool22 2 #[] #[] 1537 4 #[] #[])
  fields := #[]
  methods := #[]
  instanceTypes := #[]
  staticTypes := #[]
  resolved := Array.replicate 8 none
  statics := none }

/-- the primitive byte -/
def k23 : Class := { plain "byte" none with kind := .primitive 'B', accessFlags := 0x411 }
/-- [B -/
def k24 : Class := { plain "[B" (some 0) with kind := .array 23 .byte, interfaces := #[22, 7], accessFlags := 1041 }

/-- the primitive int -/
def k25 : Class := { plain "int" none with kind := .primitive 'I', accessFlags := 0x411 }
/-- [I -/
def k26 : Class := { plain "[I" (some 0) with kind := .array 25 .int, interfaces := #[22, 7], accessFlags := 1041 }

def heap : Heap := #[{ cls := 9, slots := #[.ref 1, .ref 2, .ref 3, .ref 4, .ref 5, .ref 6, .ref 7, .int 0, .null], vm := .statics 9 },
  { cls := 15, slots := #[.null, .int 0, .int 0], vm := .none },
  { cls := 16, slots := #[.null, .int 1, .int 0], vm := .none },
  { cls := 17, slots := #[.null, .int 2, .int 0], vm := .none },
  { cls := 18, slots := #[.null, .int 3, .int 0], vm := .none },
  { cls := 19, slots := #[.null, .int 4, .int 0], vm := .none },
  { cls := 20, slots := #[.null, .int 5, .int 0], vm := .none },
  { cls := 21, slots := #[.null, .int 6, .int 0], vm := .none }]
def classes : Array Class := #[k0, k1, k2, k3, k4, k5, k6, k7, k8, k9, k10, k11, k12, k13, k14, k15, k16, k17, k18, k19, k20, k21, k22, k23, k24, k25, k26]
def interned : List (Array UInt16 × Addr) := []
def slotsUsed : Nat := 30
def theMethod : MethodId := ⟨1, 2⟩
def args0 : Array Value := #[.int 3, .int 4, .int 5, .int 6]
def aboutOver (below : List Frame) : State where
  vm := { classes := classes, interned := interned.toArray }
  heap := heap
  slotsUsed := slotsUsed
  threads := #[{ frames := .invoking theMethod args0 :: below }]
def below0 : List Frame := [.native { method := ⟨0, 0⟩, args := #[] }]
def about1 : State := aboutOver below0
def p0 : Program := .bare "" "" ""
def e0 : Env := launch0.env 0 0 0
theorem w_frames : about1.frames = Frame.invoking theMethod args0 :: below0 := rfl
set_option maxRecDepth 65536 in
theorem w_args : argsFit about1.vm theMethod args0 = true := by decide +kernel
set_option maxRecDepth 65536 in
theorem w_heap : heapFits about1 = true := by decide +kernel
set_option maxRecDepth 65536 in
theorem w_runnable : about1.curStatus? = some .runnable := by decide +kernel
set_option maxRecDepth 65536 in
theorem w_alone : about1.alone = true := by decide +kernel
set_option maxRecDepth 65536 in
theorem w_named : about1.methodNamed? x = some theMethod := by decide +kernel
set_option maxRecDepth 65536 in
theorem w_hears : about1.hears theMethod below0 = true := by decide +kernel
set_option maxRecDepth 65536 in
theorem w_ripe : about1.ripe theMethod args0 below0 = true := by decide +kernel
theorem w_running : about1.status = .running := rfl
set_option maxRecDepth 65536 in
theorem w_room : about1.hasRoom e0.platform room_1 = true :=
  launch0.hasRoom_least _ room_1 (by decide +kernel) (by decide +kernel) (by decide +kernel) (by decide +kernel) (by decide +kernel) (by decide +kernel)
theorem allAtoms_all (ts : List Jvm.Cond) (a : Array Jvm.Value) (st : Jvm.State) : (allAtoms ts).before a st = ts.all (fun c => c.before a st) := by
  induction ts with
  | nil => rfl
  | cons c t ih =>
    show (Jvm.Cond.and c (allAtoms t)).before a st = _
    rw [Jvm.Cond.before_and, ih, List.all_cons]
def words1 : List Jvm.Cond := Jvm.Cond.code x code maxLocals ret :: tables_1
/-- a 'code' word, met by the world's own term for the bytes: nothing is compared byte by byte -/
theorem code_word {y : MethodName} {bytes : ByteArray} {mx : Nat} {rt : Option FieldType} {a : Array Value} {s : State} {m : MethodId} {meth : Method} {c : Code} (h1 : s.methodNamed? y = some m) (h2 : s.vm.method? m = some meth) (h3 : meth.code = some c) (h4 : c.code = bytes)
    (h5 : (c.maxLocals == mx && c.exceptionTable.isEmpty && decide (c.maxStack ≤ mostOperands) && decide (meth.sig.returnType = rt) && !meth.locks && decide (parseMethodDescriptor y.desc = some meth.sig)) = true) : (Jvm.Cond.code y bytes mx rt).before a s = true := by
  simp only [Bool.and_eq_true, beq_iff_eq, Bool.not_eq_true', decide_eq_true_eq] at h5
  obtain ⟨⟨⟨⟨⟨g1, g2⟩, g3⟩, g4⟩, g5⟩, g6⟩ := h5
  simp [Cond.before, Cond.holds, Cond.value, h1, h2, h3, h4, g1, g2, g3, g4, g5, g6]
def isCode : Jvm.Cond → Bool
  | .code _ _ _ _ => true
  | _ => false
theorem all_split {L : List Jvm.Cond} {P : Jvm.Cond → Bool} (h1 : L.all (fun c => isCode c || P c) = true) (h2 : ∀ c ∈ L.filter isCode, P c = true) : L.all P = true := by
  refine List.all_eq_true.mpr fun c hc => ?_
  have h := List.all_eq_true.mp h1 c hc
  rcases Bool.eq_false_or_eq_true (isCode c) with hi | hi
  · exact h2 c (List.mem_filter.mpr ⟨hc, hi⟩)
  · simpa [hi] using h
set_option maxRecDepth 65536 in
theorem w_c0 : (Jvm.Cond.code x code maxLocals ret).before args0 about1 = true := code_word (m := ⟨1, 2⟩) (meth := k1m2) (c := k1c2) (by decide +kernel) rfl rfl rfl (by decide +kernel)
set_option maxRecDepth 65536 in
theorem w_c1 : (Jvm.Cond.code ({ cls := "java/lang/Math", name := "max", desc := "(II)I" } : Jvm.MethodName) jdk_29_method_65_code (2 : Nat) (Option.some Jvm.ClassFile.FieldType.int)).before args0 about1 = true := code_word (m := ⟨2, 1⟩) (meth := k2m1) (c := k2c1) (by decide +kernel) rfl rfl rfl (by decide +kernel)
set_option maxRecDepth 65536 in
theorem w_c2 : (Jvm.Cond.code ({ cls := "com/example/vestwright/vestwright/core/InstallmentsMonthsToLastDatePinLaw", name := "allocation", desc := "(I)Lcom/example/vestwright/vestwright/core/Allocation;" } : Jvm.MethodName) method_2_code (2 : Nat) (Option.some (Jvm.ClassFile.FieldType.object "com/example/vestwright/vestwright/core/Allocation"))).before args0 about1 = true := code_word (m := ⟨1, 1⟩) (meth := k1m1) (c := k1c1) (by decide +kernel) rfl rfl rfl (by decide +kernel)
set_option maxRecDepth 65536 in
theorem w_c3 : (Jvm.Cond.code ({ cls := "com/example/vestwright/vestwright/core/Installments", name := "<init>", desc := "(IIILcom/example/vestwright/vestwright/core/Allocation;)V" } : Jvm.MethodName) prog_61_method_1_code (5 : Nat) (Option.none : Option Jvm.ClassFile.FieldType)).before args0 about1 = true := code_word (m := ⟨4, 0⟩) (meth := k4m0) (c := k4c0) (by decide +kernel) rfl rfl rfl (by decide +kernel)
set_option maxRecDepth 65536 in
theorem w_c4 : (Jvm.Cond.code ({ cls := "java/lang/Record", name := "<init>", desc := "()V" } : Jvm.MethodName) jdk_30_method_1_code (1 : Nat) (Option.none : Option Jvm.ClassFile.FieldType)).before args0 about1 = true := code_word (m := ⟨3, 0⟩) (meth := k3m0) (c := k3c0) (by decide +kernel) rfl rfl rfl (by decide +kernel)
set_option maxRecDepth 65536 in
theorem w_c5 : (Jvm.Cond.code ({ cls := "java/lang/Object", name := "<init>", desc := "()V" } : Jvm.MethodName) object_method_1_code (1 : Nat) (Option.none : Option Jvm.ClassFile.FieldType)).before args0 about1 = true := code_word (m := ⟨0, 0⟩) (meth := k0m0) (c := k0c0) (by decide +kernel) rfl rfl rfl (by decide +kernel)
set_option maxRecDepth 65536 in
theorem w_c6 : (Jvm.Cond.code ({ cls := "java/util/Objects", name := "requireNonNull", desc := "(Ljava/lang/Object;Ljava/lang/String;)Ljava/lang/Object;" } : Jvm.MethodName) jdk_31_method_11_code (2 : Nat) (Option.some (Jvm.ClassFile.FieldType.object "java/lang/Object"))).before args0 about1 = true := code_word (m := ⟨13, 1⟩) (meth := k13m1) (c := k13c1) (by decide +kernel) rfl rfl rfl (by decide +kernel)
set_option maxRecDepth 65536 in
theorem w_c7 : (Jvm.Cond.code ({ cls := "com/example/vestwright/vestwright/core/Bounds", name := "checkAtLeast", desc := "(Ljava/lang/String;JJ)V" } : Jvm.MethodName) prog_24_method_2_code (5 : Nat) (Option.none : Option Jvm.ClassFile.FieldType)).before args0 about1 = true := code_word (m := ⟨14, 1⟩) (meth := k14m1) (c := k14c1) (by decide +kernel) rfl rfl rfl (by decide +kernel)
set_option maxRecDepth 65536 in
theorem w_c8 : (Jvm.Cond.code ({ cls := "com/example/vestwright/vestwright/core/Bounds", name := "checkWithin", desc := "(Ljava/lang/String;JJJ)V" } : Jvm.MethodName) prog_24_method_5_code (7 : Nat) (Option.none : Option Jvm.ClassFile.FieldType)).before args0 about1 = true := code_word (m := ⟨14, 2⟩) (meth := k14m2) (c := k14c2) (by decide +kernel) rfl rfl rfl (by decide +kernel)
set_option maxRecDepth 65536 in
theorem w_c9 : (Jvm.Cond.code ({ cls := "com/example/vestwright/vestwright/core/Installments", name := "monthsToLastDate", desc := "()J" } : Jvm.MethodName) prog_61_method_2_code (1 : Nat) (Option.some Jvm.ClassFile.FieldType.long)).before args0 about1 = true := code_word (m := ⟨4, 1⟩) (meth := k4m1) (c := k4c1) (by decide +kernel) rfl rfl rfl (by decide +kernel)
set_option maxRecDepth 65536 in
theorem w_c10 : (Jvm.Cond.code ({ cls := "java/lang/Math", name := "max", desc := "(JJ)J" } : Jvm.MethodName) jdk_29_method_66_code (4 : Nat) (Option.some Jvm.ClassFile.FieldType.long)).before args0 about1 = true := code_word (m := ⟨2, 2⟩) (meth := k2m2) (c := k2c2) (by decide +kernel) rfl rfl rfl (by decide +kernel)
def codes1 : List Jvm.Cond := [Jvm.Cond.code x code maxLocals ret, Jvm.Cond.code ({ cls := "java/lang/Math", name := "max", desc := "(II)I" } : Jvm.MethodName) jdk_29_method_65_code (2 : Nat) (Option.some Jvm.ClassFile.FieldType.int), Jvm.Cond.code ({ cls := "com/example/vestwright/vestwright/core/InstallmentsMonthsToLastDatePinLaw", name := "allocation", desc := "(I)Lcom/example/vestwright/vestwright/core/Allocation;" } : Jvm.MethodName) method_2_code (2 : Nat) (Option.some (Jvm.ClassFile.FieldType.object "com/example/vestwright/vestwright/core/Allocation")), Jvm.Cond.code ({ cls := "com/example/vestwright/vestwright/core/Installments", name := "<init>", desc := "(IIILcom/example/vestwright/vestwright/core/Allocation;)V" } : Jvm.MethodName) prog_61_method_1_code (5 : Nat) (Option.none : Option Jvm.ClassFile.FieldType), Jvm.Cond.code ({ cls := "java/lang/Record", name := "<init>", desc := "()V" } : Jvm.MethodName) jdk_30_method_1_code (1 : Nat) (Option.none : Option Jvm.ClassFile.FieldType), Jvm.Cond.code ({ cls := "java/lang/Object", name := "<init>", desc := "()V" } : Jvm.MethodName) object_method_1_code (1 : Nat) (Option.none : Option Jvm.ClassFile.FieldType), Jvm.Cond.code ({ cls := "java/util/Objects", name := "requireNonNull", desc := "(Ljava/lang/Object;Ljava/lang/String;)Ljava/lang/Object;" } : Jvm.MethodName) jdk_31_method_11_code (2 : Nat) (Option.some (Jvm.ClassFile.FieldType.object "java/lang/Object")), Jvm.Cond.code ({ cls := "com/example/vestwright/vestwright/core/Bounds", name := "checkAtLeast", desc := "(Ljava/lang/String;JJ)V" } : Jvm.MethodName) prog_24_method_2_code (5 : Nat) (Option.none : Option Jvm.ClassFile.FieldType), Jvm.Cond.code ({ cls := "com/example/vestwright/vestwright/core/Bounds", name := "checkWithin", desc := "(Ljava/lang/String;JJJ)V" } : Jvm.MethodName) prog_24_method_5_code (7 : Nat) (Option.none : Option Jvm.ClassFile.FieldType), Jvm.Cond.code ({ cls := "com/example/vestwright/vestwright/core/Installments", name := "monthsToLastDate", desc := "()J" } : Jvm.MethodName) prog_61_method_2_code (1 : Nat) (Option.some Jvm.ClassFile.FieldType.long), Jvm.Cond.code ({ cls := "java/lang/Math", name := "max", desc := "(JJ)J" } : Jvm.MethodName) jdk_29_method_66_code (4 : Nat) (Option.some Jvm.ClassFile.FieldType.long)]
set_option maxRecDepth 65536 in
theorem codes_eq : words1.filter isCode = codes1 := rfl
theorem w_codes : ∀ c ∈ words1.filter isCode, c.before args0 about1 = true := by
  rw [codes_eq]
  intro c hc
  simp only [codes1, List.mem_cons, List.not_mem_nil, or_false] at hc
  rcases hc with rfl | rfl | rfl | rfl | rfl | rfl | rfl | rfl | rfl | rfl | rfl
  · exact w_c0
  · exact w_c1
  · exact w_c2
  · exact w_c3
  · exact w_c4
  · exact w_c5
  · exact w_c6
  · exact w_c7
  · exact w_c8
  · exact w_c9
  · exact w_c10
set_option maxRecDepth 65536 in
theorem w_t1 : (words1.take 24).all (fun c => isCode c || c.before args0 about1) = true := by decide +kernel
set_option maxRecDepth 65536 in
theorem w_t2 : ((words1.drop 24).take 24).all (fun c => isCode c || c.before args0 about1) = true := by decide +kernel
set_option maxRecDepth 65536 in
theorem w_t3 : (((words1.drop 24).drop 24).take 24).all (fun c => isCode c || c.before args0 about1) = true := by decide +kernel
set_option maxRecDepth 65536 in
theorem w_t4 : (((words1.drop 24).drop 24).drop 24).all (fun c => isCode c || c.before args0 about1) = true := by decide +kernel
theorem w_tables : (allAtoms (Jvm.Cond.code x code maxLocals ret :: tables_1)).before args0 about1 = true := by
  rw [allAtoms_all]
  show words1.all (fun c => c.before args0 about1) = true
  refine all_split ?_ w_codes
  rw [← List.take_append_drop 24 words1, List.all_append, w_t1, ← List.take_append_drop 24 (words1.drop 24), List.all_append, w_t2, ← List.take_append_drop 24 ((words1.drop 24).drop 24), List.all_append, w_t3, w_t4]
  rfl
set_option maxRecDepth 65536 in
theorem w_case : (Jvm.Cond.and given_1 narrow_1).before args0 about1 = true := by decide +kernel
theorem w_applies : (headSpec (Jvm.Cond.code x code maxLocals ret :: tables_1) room_1).applies x e0.platform about1 = true :=
  (Spec.applies_iff w_frames).mpr ⟨w_running, w_runnable, w_alone, w_named, w_hears, w_ripe, w_room, w_tables⟩
theorem atStart : AtStart classFile x code maxLocals ret World_1 tables_1 room_1 Calls_1 rest_1 Pre_1 launch0 p0 e0 about1 theMethod args0 below0 :=
  ⟨lists_1, trivial, launch0.admits_env _ _ _, launch0.least_env, fairChoices_fair.cas, fairChoices_fair.clock, w_frames, w_args, w_heap, w_applies, trivial, trivial, w_case⟩
end start1
theorem witness_1 : WitnessClaimed_1 := ⟨start1.p0, start1.e0, start1.about1, start1.theMethod, start1.args0, start1.below0, start1.atStart⟩
end Jvm.Pilot.@@N@@
