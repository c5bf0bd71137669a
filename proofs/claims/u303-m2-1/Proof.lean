import JvmDerived
import JvmDerived.Pilot.@@N@@Statement
import JvmDerived.Pilot.@@N@@Code
set_option linter.unusedVariables false
set_option linter.unusedSimpArgs false
/- laws to paste: Road.backV, Road.eqW, Road.codOf (cut by pick.py; bodies as the Statement names them) -/
namespace Jvm.Pilot.@@N@@
namespace StrChars
open Jvm Sem ClassFile Op Lib Jvm.Stand Jvm.Free.XT Jvm.Free.ALB Jvm.Free.JM Jvm.Free
open Jvm.Lib.Cold (StaticIs)
/-- a char array whose places are chars -/
def Ch (a : Addr) (A : Cell) (U : State) : Prop := Arr .char a A U ∧ Typed .char A
theorem Ch.mv {a : Addr} {A : Cell} {U U' : State} (h : Ch a A U) (hal : U.vm.Alike U'.vm) (hh : U'.heap = U.heap) : Ch a A U' := ⟨h.1.mv hal hh, h.2⟩
theorem Ch.keep {a : Addr} {A : Cell} {U U' : State} (h : Ch a A U) (hal : U.vm.Alike U'.vm) (hk : U'.heap[a]? = some A) : Ch a A U' := ⟨h.1.keep hal hk, h.2⟩
/-- what place i of a char[]'s cell holds -/
def cv (A : Cell) (i : Nat) : Int32 := match A.slots[i]? with | some (.int x) => x | _ => 0
theorem Ch.get {a : Addr} {A : Cell} {U : State} (h : Ch a A U) {i : Nat} (hi : i < A.slots.size) : A.slots[i]? = some (.int (cv A i)) := by
  have e := Array.getElem?_eq_getElem hi
  have f := h.2 i _ e
  unfold cv; rw [e]
  generalize A.slots[i] = v at f
  cases v <;> simp [fits] at f ⊢
/-- the byte that i2b leaves of a char -/
def lo8 (x : Int32) : Int32 := x.toInt8.toInt32
theorem fits_lo8 (y : Int32) : fits .byte (.int (lo8 y)) = true := by
  have h1 := y.toInt8.le_toInt
  have h2 := y.toInt8.toInt_lt
  simp only [lo8, fits, Bool.and_eq_true, decide_eq_true_eq, Int32.le_iff_toInt_le, Int8.toInt_toInt32, show (-128 : Int32).toInt = -128 from by decide, show (127 : Int32).toInt = 127 from by decide]
  omega
/-- A' is A but that each place j of lo .. hi - 1 holds f j -/
def Laid (A A' : Cell) (lo hi : Nat) (f : Nat → Value) : Prop := A'.cls = A.cls ∧ A'.vm = A.vm ∧ A'.slots.size = A.slots.size ∧ ∀ i, A'.slots[i]? = if lo ≤ i ∧ i < hi then some (f i) else A.slots[i]?
theorem Laid.zero (A : Cell) (lo : Nat) (f : Nat → Value) : Laid A A lo (lo + 0) f := ⟨rfl, rfl, rfl, fun i => by rw [if_neg (by omega)]⟩
theorem Laid.step {A Ak : Cell} {lo k : Nat} {f : Nat → Value} {v : Value} (h : Laid A Ak lo k f) (hlo : lo ≤ k) (hk : k < Ak.slots.size) (hv : v = f k) : Laid A (Ak.setSlot k v) lo (k + 1) f := by
  refine ⟨h.1, h.2.1, by simpa [Cell.setSlot] using h.2.2.1, fun i => ?_⟩
  by_cases e : k = i
  · subst e; rw [Cell.slots_setSlot_self v hk, if_pos (by omega), hv]
  · rw [Cell.slots_setSlot_ne v e, h.2.2.2 i]
    by_cases q : lo ≤ i ∧ i < k
    · rw [if_pos q, if_pos (by omega)]
    · rw [if_neg q, if_neg (by omega)]
def U16 : String := "java/lang/StringUTF16"
namespace Cmp5
def yN : MethodName := ⟨"java/lang/StringUTF16", "compress", "([CI[BII)I"⟩
abbrev yB : ByteArray := jdk_52_method_21_code
theorem d0 : decode yB 0 = .ok (.iconst 0, 1) := by decide +kernel
theorem d1 : decode yB 1 = .ok (.istore 5, 2) := by decide +kernel
theorem d3 : decode yB 3 = .ok (.iload 5, 2) := by decide +kernel
theorem d5 : decode yB 5 = .ok (.iload 4, 2) := by decide +kernel
theorem d7 : decode yB 7 = .ok (.if_icmp (.ge) 37, 3) := by decide +kernel
theorem d10 : decode yB 10 = .ok (.aload_n 0, 1) := by decide +kernel
theorem d11 : decode yB 11 = .ok (.iload_n 1, 1) := by decide +kernel
theorem d12 : decode yB 12 = .ok (.caload, 1) := by decide +kernel
theorem d13 : decode yB 13 = .ok (.istore 6, 2) := by decide +kernel
theorem d15 : decode yB 15 = .ok (.iload 6, 2) := by decide +kernel
theorem d17 : decode yB 17 = .ok (.sipush 255, 3) := by decide +kernel
theorem d20 : decode yB 20 = .ok (.if_icmp (.le) 6, 3) := by decide +kernel
theorem d26 : decode yB 26 = .ok (.aload_n 2, 1) := by decide +kernel
theorem d27 : decode yB 27 = .ok (.iload_n 3, 1) := by decide +kernel
theorem d28 : decode yB 28 = .ok (.iload 6, 2) := by decide +kernel
theorem d30 : decode yB 30 = .ok (.i2b, 1) := by decide +kernel
theorem d31 : decode yB 31 = .ok (.bastore, 1) := by decide +kernel
theorem d32 : decode yB 32 = .ok (.iinc 1 1, 3) := by decide +kernel
theorem d35 : decode yB 35 = .ok (.iinc 3 1, 3) := by decide +kernel
theorem d38 : decode yB 38 = .ok (.iinc 5 1, 3) := by decide +kernel
theorem d41 : decode yB 41 = .ok (.goto (-38), 3) := by decide +kernel
theorem d44 : decode yB 44 = .ok (.iload 4, 2) := by decide +kernel
theorem d46 : decode yB 46 = .ok (.ireturn, 1) := by decide +kernel
def site : List Cond := []
def tab : Cond := tabOf yN yB 7 (some .int) site
def P (b : Addr) (A : Cell) (d : Addr) (B : Cell) (o q len : Nat) (args : Array Value) (s : State) : Prop := args = #[.ref b, .int (Int32.ofNat o), .ref d, .int (Int32.ofNat q), .int (Int32.ofNat len)] ∧ Ch b A s ∧ Arr .byte d B s ∧ b ≠ d ∧ o + len ≤ A.slots.size ∧ q + len ≤ B.slots.size ∧ ∀ i, i < len → ¬ 255 < cv A (o + i)
def E (b : Addr) (A : Cell) (d : Addr) (B : Cell) (o q len : Nat) (r : Option Value) (s u : State) : Prop := r = some (.int (Int32.ofNat len)) ∧ ∃ B', Put d B' s u ∧ Laid B B' q (q + len) (fun j => Value.int (lo8 (cv A (o + (j - q)))))
/-- no char of the range above 255: len; the places written hold each char's low byte -/
theorem law (l : Launch) (b : Addr) (A : Cell) (d : Addr) (B : Cell) (o q len : Nat) : Law l yN 5 5 0 0 yB 7 (some .int) site (P b A d B o q len) (E b A d B o q len) (copyLocs d q len) 0 0 := by
  refine Law.of_walk (plainFor_of_name (by decide +kernel)) (by decide +kernel) (by decide +kernel) (by decide) (fun _ _ h => by rw [h.1]; rfl) (fun _ U U' hal hh h => ⟨h.1, h.2.1.mv hal hh, h.2.2.1.mv hal hh, h.2.2.2⟩) (fun r U U' V V' h1 hal h2 h => ⟨h.1, h.2.elim fun B' q => ⟨B', q.1.mv h1 h2, q.2⟩⟩) ?_
  intro p e s m args below meth c s₁ X0 hexec hbytes hml hret hlk hnm hown hh0 W hP
  obtain ⟨rfl, hA, hB, hne, l1, l2, hp⟩ := hP
  have c1 : Steps p.tables e below (s₁.setTop (entryFrame m #[.ref b, .int (Int32.ofNat o), .ref d, .int (Int32.ofNat q), .int (Int32.ofNat len)] 7)) (s₁.setTop (mkF m 0 #[.val (.ref b), .val (.int (Int32.ofNat o)), .val (.ref d), .val (.int (Int32.ofNat q)), .val (.int (Int32.ofNat len)), .unset, .unset] [])) := entry rfl
  have hA0 := hA.1.mv X0.warmed.alike hh0
  have hB0 := hB.mv X0.warmed.alike hh0
  have a31 := hA.1.2.2.2
  have c2 : Steps p.tables e below (s₁.setTop (entryFrame m #[.ref b, .int (Int32.ofNat o), .ref d, .int (Int32.ofNat q), .int (Int32.ofNat len)] 7)) (s₁.setTop (mkF m 3 #[.val (.ref b), .val (.int (Int32.ofNat o)), .val (.ref d), .val (.int (Int32.ofNat q)), .val (.int (Int32.ofNat len)), .val (.int 0), .unset] [])) := c1.trans (by
    refine iconstV X0.here hexec rfl 0 (hb hbytes d0) (by decide) ?_
    refine XS.istore X0.here hexec rfl (hb hbytes d1) rfl rfl ?_
    exact Steps.refl _)
  have loop : ∀ (r i : Nat), i + r = len → ∀ (z : Slot), (z = .unset ∨ ∃ w, z = .val w ∧ w.category = 1) → ∀ (Tl : State) (Bk : Cell), Stand p l e { frames := 0, locals := 0, cells := 0, slots := 0 } s m #[.ref b, .int (Int32.ofNat o), .ref d, .int (Int32.ofNat q), .int (Int32.ofNat len)] below meth c Tl ([] ++ copyLocs d q i) 0 0 → Put d Bk s₁ Tl → Laid B Bk q (q + i) (fun j => Value.int (lo8 (cv A (o + (j - q))))) →
      Steps p.tables e below (s₁.setTop (entryFrame m #[.ref b, .int (Int32.ofNat o), .ref d, .int (Int32.ofNat q), .int (Int32.ofNat len)] 7)) (Tl.setTop (mkF m 3 #[.val (.ref b), .val (.int (Int32.ofNat (o + i))), .val (.ref d), .val (.int (Int32.ofNat (q + i))), .val (.int (Int32.ofNat len)), .val (.int (Int32.ofNat i)), z] [])) → ∃ (T' : State) (B' : Cell) (z' : Slot), Stand p l e { frames := 0, locals := 0, cells := 0, slots := 0 } s m #[.ref b, .int (Int32.ofNat o), .ref d, .int (Int32.ofNat q), .int (Int32.ofNat len)] below meth c T' ([] ++ copyLocs d q len) 0 0 ∧ Put d B' s₁ T' ∧ Laid B B' q (q + len) (fun j => Value.int (lo8 (cv A (o + (j - q))))) ∧
      Steps p.tables e below (s₁.setTop (entryFrame m #[.ref b, .int (Int32.ofNat o), .ref d, .int (Int32.ofNat q), .int (Int32.ofNat len)] 7)) (T'.setTop (mkF m 3 #[.val (.ref b), .val (.int (Int32.ofNat (o + len))), .val (.ref d), .val (.int (Int32.ofNat (q + len))), .val (.int (Int32.ofNat len)), .val (.int (Int32.ofNat len)), z'] [])) := by
    intro r
    induction r with
    | zero =>
      intro i hi z hz Tl Bk Xl pl fl cl
      have hil : i = len := by omega
      rw [hil] at Xl fl cl
      exact ⟨Tl, Bk, z, Xl, pl, fl, cl⟩
    | succ r ih =>
      intro i hi z hz Tl Bk Xl pl fl cl
      have all := X0.warmed.alike.symm.trans Xl.warmed.alike
      have hAl := hA0.keep all (pl.other hne hA0.1)
      have hBk := hB0.like all pl.1 fl.1 fl.2.1 fl.2.2.1
      have hlt : q + i < Bk.slots.size := by rw [fl.2.2.1]; omega
      have c3 : Steps p.tables e below (s₁.setTop (entryFrame m #[.ref b, .int (Int32.ofNat o), .ref d, .int (Int32.ofNat q), .int (Int32.ofNat len)] 7)) (Tl.setTop (mkF m 12 #[.val (.ref b), .val (.int (Int32.ofNat (o + i))), .val (.ref d), .val (.int (Int32.ofNat (q + i))), .val (.int (Int32.ofNat len)), .val (.int (Int32.ofNat i)), z] [.int (Int32.ofNat (o + i)), .ref b])) := cl.trans (by
        refine XS.iload Xl.here hexec rfl (hb hbytes d3) rfl ?_
        refine XS.iload Xl.here hexec rfl (hb hbytes d5) rfl ?_
        refine XS.icmpNo Xl.here hexec rfl (hb hbytes d7) rfl (ii_ge_f (lt32 (by omega) (by omega))) ?_
        refine XS.aloadN Xl.here hexec rfl (hb hbytes d10) rfl rfl ?_
        refine XS.iloadN Xl.here hexec rfl (hb hbytes d11) rfl ?_
        exact Steps.refl _)
      have c4 : Steps p.tables e below (s₁.setTop (entryFrame m #[.ref b, .int (Int32.ofNat o), .ref d, .int (Int32.ofNat q), .int (Int32.ofNat len)] 7)) (Tl.setTop (mkF m 13 #[.val (.ref b), .val (.int (Int32.ofNat (o + i))), .val (.ref d), .val (.int (Int32.ofNat (q + i))), .val (.int (Int32.ofNat len)), .val (.int (Int32.ofNat i)), z] [.int (cv A (o + i))])) := c3.trans (by
        refine Xl.aget hexec hAl rfl (hA.get (i := o + i) (by omega)) rfl rfl (hb hbytes d12) ?_
        exact Steps.refl _)
      have c5 : Steps p.tables e below (s₁.setTop (entryFrame m #[.ref b, .int (Int32.ofNat o), .ref d, .int (Int32.ofNat q), .int (Int32.ofNat len)] 7)) (Tl.setTop (mkF m 15 #[.val (.ref b), .val (.int (Int32.ofNat (o + i))), .val (.ref d), .val (.int (Int32.ofNat (q + i))), .val (.int (Int32.ofNat len)), .val (.int (Int32.ofNat i)), .val (.int (cv A (o + i)))] [])) := c4.trans (by
        refine XS.istoreS Xl.here hexec rfl (hb hbytes d13) rfl rfl hz ?_
        exact Steps.refl _)
      have c6 : Steps p.tables e below (s₁.setTop (entryFrame m #[.ref b, .int (Int32.ofNat o), .ref d, .int (Int32.ofNat q), .int (Int32.ofNat len)] 7)) (Tl.setTop (mkF m 31 #[.val (.ref b), .val (.int (Int32.ofNat (o + i))), .val (.ref d), .val (.int (Int32.ofNat (q + i))), .val (.int (Int32.ofNat len)), .val (.int (Int32.ofNat i)), .val (.int (cv A (o + i)))] [.int (lo8 (cv A (o + i))), .int (Int32.ofNat (q + i)), .ref d])) := c5.trans (by
        refine XS.iload Xl.here hexec rfl (hb hbytes d15) rfl ?_
        refine sipushV Xl.here hexec rfl 255 (hb hbytes d17) (by decide) ?_
        refine XS.icmpYes Xl.here hexec rfl (pc0 := 20) rfl (hb hbytes d20) rfl (ii_le_t (hp i (by omega))) (by decide) rfl ?_
        refine XS.aloadN Xl.here hexec rfl (hb hbytes d26) rfl rfl ?_
        refine XS.iloadN Xl.here hexec rfl (hb hbytes d27) rfl ?_
        refine XS.iload Xl.here hexec rfl (hb hbytes d28) rfl ?_
        refine i2b Xl.here hexec rfl (hb hbytes d30) rfl ?_
        exact Steps.refl _)
      obtain ⟨T7, X7, p7, st7⟩ := Xl.aput hexec hBk rfl hlt rfl (fits_lo8 (cv A (o + i))) (g := (mkF m 31 #[.val (.ref b), .val (.int (Int32.ofNat (o + i))), .val (.ref d), .val (.int (Int32.ofNat (q + i))), .val (.int (Int32.ofNat len)), .val (.int (Int32.ofNat i)), .val (.int (cv A (o + i)))] [.int (lo8 (cv A (o + i))), .int (Int32.ofNat (q + i)), .ref d])) rfl (rest := []) rfl (hb hbytes d31)
      have c8 : Steps p.tables e below (s₁.setTop (entryFrame m #[.ref b, .int (Int32.ofNat o), .ref d, .int (Int32.ofNat q), .int (Int32.ofNat len)] 7)) (T7.setTop (mkF m 32 #[.val (.ref b), .val (.int (Int32.ofNat (o + i))), .val (.ref d), .val (.int (Int32.ofNat (q + i))), .val (.int (Int32.ofNat len)), .val (.int (Int32.ofNat i)), .val (.int (cv A (o + i)))] [])) := c6.trans (st7 _ (Steps.refl _))
      have c9 : Steps p.tables e below (s₁.setTop (entryFrame m #[.ref b, .int (Int32.ofNat o), .ref d, .int (Int32.ofNat q), .int (Int32.ofNat len)] 7)) (T7.setTop (mkF m 3 #[.val (.ref b), .val (.int (Int32.ofNat (o + i) + 1)), .val (.ref d), .val (.int (Int32.ofNat (q + i) + 1)), .val (.int (Int32.ofNat len)), .val (.int (Int32.ofNat i + 1)), .val (.int (cv A (o + i)))] [])) := c8.trans (by
        refine iincV X7.here hexec rfl 1 (hb hbytes d32) (by decide) rfl rfl ?_
        refine iincV X7.here hexec rfl 1 (hb hbytes d35) (by decide) rfl rfl ?_
        refine iincV X7.here hexec rfl 1 (hb hbytes d38) (by decide) rfl rfl ?_
        refine XS.goto X7.here hexec rfl (pc0 := 41) rfl (hb hbytes d41) (by decide) rfl ?_
        exact Steps.refl _)
      have c10 : Steps p.tables e below (s₁.setTop (entryFrame m #[.ref b, .int (Int32.ofNat o), .ref d, .int (Int32.ofNat q), .int (Int32.ofNat len)] 7)) (T7.setTop (mkF m 3 #[.val (.ref b), .val (.int (Int32.ofNat (o + (i + 1)))), .val (.ref d), .val (.int (Int32.ofNat (q + (i + 1)))), .val (.int (Int32.ofNat len)), .val (.int (Int32.ofNat (i + 1))), .val (.int (cv A (o + i)))] [])) := by
        have := c9
        rw [succ32, succ32, succ32] at this
        exact this
      exact ih (i + 1) (by omega) _ (Or.inr ⟨_, rfl, rfl⟩) T7 _ (by rw [copyLocs_step, ← List.append_assoc]; exact X7) (pl.trans p7) (fl.step (by omega) hlt (by simp)) c10
  obtain ⟨T9, B9, z9, X9, p9, f9, g9⟩ := loop len 0 (by omega) .unset (Or.inl rfl) s₁ B (by simpa [copyLocs] using X0) ⟨hB0.1, fun _ _ => rfl, rfl⟩ (Laid.zero _ _ _) c2
  have c11 : Steps p.tables e below (s₁.setTop (entryFrame m #[.ref b, .int (Int32.ofNat o), .ref d, .int (Int32.ofNat q), .int (Int32.ofNat len)] 7)) (T9.setTop (mkF m 46 #[.val (.ref b), .val (.int (Int32.ofNat (o + len))), .val (.ref d), .val (.int (Int32.ofNat (q + len))), .val (.int (Int32.ofNat len)), .val (.int (Int32.ofNat len)), z9] [.int (Int32.ofNat len)])) := g9.trans (by
    refine XS.iload X9.here hexec rfl (hb hbytes d3) rfl ?_
    refine XS.iload X9.here hexec rfl (hb hbytes d5) rfl ?_
    refine XS.icmpYes X9.here hexec rfl (pc0 := 7) rfl (hb hbytes d7) rfl (ii_ge_t (nlt32 (by omega) (Nat.le_refl _))) (by decide) rfl ?_
    refine XS.iload X9.here hexec rfl (hb hbytes d44) rfl ?_
    exact Steps.refl _)
  exact ⟨T9, some (.int (Int32.ofNat len)), _, _, _, X9, by simp, rfl, rfl, (fun h => by cases h), ⟨rfl, B9, p9.from hh0, f9⟩, fun fs hl => c11.trans (X9.ireturnOut hexec hret rfl (Or.inl rfl) (hb hbytes d46) hl)⟩
end Cmp5
namespace Cmp3
def yN : MethodName := ⟨"java/lang/StringUTF16", "compress", "([CII)[B"⟩
abbrev yB : ByteArray := jdk_52_method_16_code
theorem d0 : decode yB 0 = .ok (.iload_n 2, 1) := by decide +kernel
theorem d1 : decode yB 1 = .ok (.newarray .byte, 2) := by decide +kernel
theorem d3 : decode yB 3 = .ok (.astore_n 3, 1) := by decide +kernel
theorem d4 : decode yB 4 = .ok (.aload_n 0, 1) := by decide +kernel
theorem d5 : decode yB 5 = .ok (.iload_n 1, 1) := by decide +kernel
theorem d6 : decode yB 6 = .ok (.aload_n 3, 1) := by decide +kernel
theorem d7 : decode yB 7 = .ok (.iconst 0, 1) := by decide +kernel
theorem d8 : decode yB 8 = .ok (.iload_n 2, 1) := by decide +kernel
theorem d9 : decode yB 9 = .ok (.invokestatic 115, 3) := by decide +kernel
theorem d12 : decode yB 12 = .ok (.istore 4, 2) := by decide +kernel
theorem d14 : decode yB 14 = .ok (.iload 4, 2) := by decide +kernel
theorem d16 : decode yB 16 = .ok (.iload_n 2, 1) := by decide +kernel
theorem d17 : decode yB 17 = .ok (.if_icmp (.eq) 40, 3) := by decide +kernel
theorem d57 : decode yB 57 = .ok (.aload_n 3, 1) := by decide +kernel
theorem d58 : decode yB 58 = .ok (.areturn, 1) := by decide +kernel
def site : List Cond := [.arrayClass .byte, Cmp5.tab] ++ staticW U16 115 Cmp5.yN
def tab : Cond := tabOf yN yB 6 (some (.array .byte)) site
def P (b : Addr) (A : Cell) (o len : Nat) (args : Array Value) (s : State) : Prop := args = #[.ref b, .int (Int32.ofNat o), .int (Int32.ofNat len)] ∧ Ch b A s ∧ o + len ≤ A.slots.size ∧ len ≤ 536870912 ∧ ∀ i, i < len → ¬ 255 < cv A (o + i)
def E (b : Addr) (A : Cell) (o len : Nat) (r : Option Value) (s u : State) : Prop := NewArr .byte "[B" len (fun j => .int (lo8 (cv A (o + j)))) r s u ∧ u.heap.size = s.heap.size + 1
/-- no char of the range above 255: a new byte[] of their low bytes -/
theorem law (l : Launch) (b : Addr) (A : Cell) (o len : Nat) : Law l yN 3 3 1 18 yB 6 (some (.array .byte)) site (P b A o len) (E b A o len) [] 1 len := by
  refine Law.of_walk (plainFor_of_name (by decide +kernel)) (by decide +kernel) (by decide +kernel) (by decide) (fun _ _ h => by rw [h.1]; rfl) (fun _ U U' hal hh h => ⟨h.1, h.2.1.mv hal hh, h.2.2⟩) (fun r U U' V V' h1 hal h2 h => ⟨NewArr.mv r U U' V V' h1 hal h2 h.1, by rw [h1, h2]; exact h.2⟩) ?_
  intro p e s m args below meth c s₁ X0 hexec hbytes hml hret hlk hnm hown hh0 W hP
  obtain ⟨rfl, hA, l1, l2, hp⟩ := hP
  have a31 := hA.1.2.2.2
  have c1 : Steps p.tables e below (s₁.setTop (entryFrame m #[.ref b, .int (Int32.ofNat o), .int (Int32.ofNat len)] 6)) (s₁.setTop (mkF m 0 #[.val (.ref b), .val (.int (Int32.ofNat o)), .val (.int (Int32.ofNat len)), .unset, .unset, .unset] [])) := entry rfl
  have c2 : Steps p.tables e below (s₁.setTop (entryFrame m #[.ref b, .int (Int32.ofNat o), .int (Int32.ofNat len)] 6)) (s₁.setTop (mkF m 1 #[.val (.ref b), .val (.int (Int32.ofNat o)), .val (.int (Int32.ofNat len)), .unset, .unset, .unset] [.int (Int32.ofNat len)])) := c1.trans (by
    refine XS.iloadN X0.here hexec rfl (hb hbytes d0) rfl ?_
    exact Steps.refl _)
  obtain ⟨T3, B3, X3, ba3, bs3, bv3, bh3, bf3, st3⟩ := X0.anew hexec (atype := .byte) (wk W (.arrayClass .byte)) rfl (by show len * 1 ≤ _; omega) (by omega) (g := (mkF m 1 #[.val (.ref b), .val (.int (Int32.ofNat o)), .val (.int (Int32.ofNat len)), .unset, .unset, .unset] [.int (Int32.ofNat len)])) rfl (hb hbytes d1) (rest := []) rfl (Nat.le_refl _) (by show 0 + len ≤ len; omega)
  rw [hh0] at ba3 st3
  have kp3 : XT.Kept s T3 := (XT.Kept.of_eq hh0).push bh3
  have hA3 := hA.keep X3.warmed.alike (kp3 _ _ hA.1.1)
  have hne : b ≠ s.heap.size := hA.1.ne
  have c4 : Steps p.tables e below (s₁.setTop (entryFrame m #[.ref b, .int (Int32.ofNat o), .int (Int32.ofNat len)] 6)) (T3.setTop (mkF m 3 #[.val (.ref b), .val (.int (Int32.ofNat o)), .val (.int (Int32.ofNat len)), .unset, .unset, .unset] [.ref s.heap.size])) := c2.trans (st3 _ (Steps.refl _))
  have c5 : Steps p.tables e below (s₁.setTop (entryFrame m #[.ref b, .int (Int32.ofNat o), .int (Int32.ofNat len)] 6)) (T3.setTop (mkF m 9 #[.val (.ref b), .val (.int (Int32.ofNat o)), .val (.int (Int32.ofNat len)), .val (.ref s.heap.size), .unset, .unset] [.int (Int32.ofNat len), .int 0, .ref s.heap.size, .int (Int32.ofNat o), .ref b])) := c4.trans (by
    refine XS.astoreN X3.here hexec rfl (hb hbytes d3) rfl rfl rfl ?_
    refine XS.aloadN X3.here hexec rfl (hb hbytes d4) rfl rfl ?_
    refine XS.iloadN X3.here hexec rfl (hb hbytes d5) rfl ?_
    refine XS.aloadN X3.here hexec rfl (hb hbytes d6) rfl rfl ?_
    refine iconstV X3.here hexec rfl 0 (hb hbytes d7) (by decide) ?_
    refine XS.iloadN X3.here hexec rfl (hb hbytes d8) rfl ?_
    exact Steps.refl _)
  obtain ⟨v6, T6, X6, E6, g6⟩ := X3.callS hexec (Cmp5.law l b A s.heap.size B3 o 0 len) hown (wks W (staticW U16 115 Cmp5.yN)) (wk W Cmp5.tab) (W := 0) (Nat.le_of_ble_eq_true rfl) (Nat.le_of_ble_eq_true rfl) (Nat.le_refl _) (by show 0 + len + 0 ≤ len; omega) (g := (mkF m 9 #[.val (.ref b), .val (.int (Int32.ofNat o)), .val (.int (Int32.ofNat len)), .val (.ref s.heap.size), .unset, .unset] [.int (Int32.ofNat len), .int (Int32.ofNat 0), .ref s.heap.size, .int (Int32.ofNat o), .ref b])) rfl (by rw [hml]; rfl) c5 (argsL := [.ref b, .int (Int32.ofNat o), .ref s.heap.size, .int (Int32.ofNat 0), .int (Int32.ofNat len)]) (rest := []) rfl rfl (by show 2 * 0 + 0 ≤ _; decide) (hb hbytes d9) (⟨rfl, hA3, ba3, hne, l1, by rw [bs3]; simp, hp⟩)
  obtain ⟨rfl, B6, p6, f6⟩ := E6
  have c7 : Steps p.tables e below (s₁.setTop (entryFrame m #[.ref b, .int (Int32.ofNat o), .int (Int32.ofNat len)] 6)) (T6.setTop (mkF m 12 #[.val (.ref b), .val (.int (Int32.ofNat o)), .val (.int (Int32.ofNat len)), .val (.ref s.heap.size), .unset, .unset] [.int (Int32.ofNat len)])) := g6
  have c8 : Steps p.tables e below (s₁.setTop (entryFrame m #[.ref b, .int (Int32.ofNat o), .int (Int32.ofNat len)] 6)) (T6.setTop (mkF m 58 #[.val (.ref b), .val (.int (Int32.ofNat o)), .val (.int (Int32.ofNat len)), .val (.ref s.heap.size), .val (.int (Int32.ofNat len)), .unset] [.ref s.heap.size])) := c7.trans (by
    refine XS.istore X6.here hexec rfl (hb hbytes d12) rfl rfl ?_
    refine XS.iload X6.here hexec rfl (hb hbytes d14) rfl ?_
    refine XS.iloadN X6.here hexec rfl (hb hbytes d16) rfl ?_
    refine XS.icmpYes X6.here hexec rfl (pc0 := 17) rfl (hb hbytes d17) rfl (ii_eq_t rfl) (by decide) rfl ?_
    refine XS.aloadN X6.here hexec rfl (hb hbytes d57) rfl rfl ?_
    exact Steps.refl _)
  have X8 := X6.wide (L' := []) (cells' := 1) (slots' := len) (fun x hx hlt => by
    simp only [List.nil_append, copyLocs, List.mem_map, List.mem_range] at hx
    obtain ⟨i, -, rfl⟩ := hx
    exact absurd hlt (Nat.lt_irrefl _)) (Nat.le_refl _) (by omega)
  exact ⟨T6, some (.ref s.heap.size), _, _, _, X8, rfl, rfl, rfl, (fun h => by cases h), ⟨⟨rfl, B6, ba3.like (X3.warmed.alike.symm.trans X6.warmed.alike) p6.1 f6.1 f6.2.1 f6.2.2.1, f6.2.1.trans bv3, by rw [X6.warmed.alike.findClass, f6.1]; exact bf3, by rw [f6.2.2.1, bs3]; simp, fun j hj => by rw [f6.2.2.2 j, if_pos (by omega)]; rfl, kp3.put p6 (Nat.le_refl _)⟩, by rw [p6.2.2, bh3, hh0]; simp⟩, fun fs hl => c8.trans (X8.areturnOut hexec rfl hret rfl (hb hbytes d58) hl)⟩
end Cmp3
namespace CodL
def yN : MethodName := ⟨"java/lang/StringUTF16", "coderFromArrayLen", "([BI)B"⟩
abbrev yB : ByteArray := jdk_52_method_15_code
theorem d0 : decode yB 0 = .ok (.iload_n 1, 1) := by decide +kernel
theorem d1 : decode yB 1 = .ok (.aload_n 0, 1) := by decide +kernel
theorem d2 : decode yB 2 = .ok (.arraylength, 1) := by decide +kernel
theorem d3 : decode yB 3 = .ok (.isub, 1) := by decide +kernel
theorem d4 : decode yB 4 = .ok (.bipush 31, 2) := by decide +kernel
theorem d6 : decode yB 6 = .ok (.iushr, 1) := by decide +kernel
theorem d7 : decode yB 7 = .ok (.i2b, 1) := by decide +kernel
theorem d8 : decode yB 8 = .ok (.ireturn, 1) := by decide +kernel
def site : List Cond := []
def tab : Cond := tabOf yN yB 2 (some .byte) site
def P (d : Addr) (B : Cell) (args : Array Value) (s : State) : Prop := args = #[.ref d, .int (Int32.ofNat B.slots.size)] ∧ Arr .byte d B s
def E (r : Option Value) (s u : State) : Prop := XT.PureE (some (.int 0)) r s u
/-- an array as long as the number of chars: LATIN1 -/
theorem law (l : Launch) (d : Addr) (B : Cell) : Law l yN 2 2 0 0 yB 2 (some .byte) site (P d B) E [] 0 0 := by
  refine Law.of_walk (plainFor_of_name (by decide +kernel)) (by decide +kernel) (by decide +kernel) (by decide) (fun _ _ h => by rw [h.1]; rfl) (fun _ U U' hal hh h => ⟨h.1, h.2.mv hal hh⟩) (fun r U U' V V' h1 hal h2 h => XT.PureE.mv r U U' V V' h1 hal h2 h) ?_
  intro p e s m args below meth c s₁ X0 hexec hbytes hml hret hlk hnm hown hh0 W hP
  obtain ⟨rfl, hB⟩ := hP
  have hB0 := hB.mv X0.warmed.alike hh0
  have c1 : Steps p.tables e below (s₁.setTop (entryFrame m #[.ref d, .int (Int32.ofNat B.slots.size)] 2)) (s₁.setTop (mkF m 0 #[.val (.ref d), .val (.int (Int32.ofNat B.slots.size))] [])) := entry rfl
  have c2 : Steps p.tables e below (s₁.setTop (entryFrame m #[.ref d, .int (Int32.ofNat B.slots.size)] 2)) (s₁.setTop (mkF m 2 #[.val (.ref d), .val (.int (Int32.ofNat B.slots.size))] [.ref d, .int (Int32.ofNat B.slots.size)])) := c1.trans (by
    refine XS.iloadN X0.here hexec rfl (hb hbytes d0) rfl ?_
    refine XS.aloadN X0.here hexec rfl (hb hbytes d1) rfl rfl ?_
    exact Steps.refl _)
  have c3 : Steps p.tables e below (s₁.setTop (entryFrame m #[.ref d, .int (Int32.ofNat B.slots.size)] 2)) (s₁.setTop (mkF m 8 #[.val (.ref d), .val (.int (Int32.ofNat B.slots.size))] [.int (lo8 (ushr (Int32.ofNat B.slots.size - Int32.ofNat B.slots.size) 31))])) := c2.trans (by
    refine X0.alen hexec hB0 rfl rfl (hb hbytes d2) ?_
    refine XS.isub X0.here hexec rfl (hb hbytes d3) rfl ?_
    refine bipushV X0.here hexec rfl 31 (hb hbytes d4) (by decide) ?_
    refine iushr X0.here hexec rfl (hb hbytes d6) rfl ?_
    refine i2b X0.here hexec rfl (hb hbytes d7) rfl ?_
    exact Steps.refl _)
  have e0 : lo8 (ushr (Int32.ofNat B.slots.size - Int32.ofNat B.slots.size) 31) = 0 := by rw [Int32.sub_self]; decide
  rw [e0] at c3
  exact ⟨s₁, some (.int 0), _, _, _, X0, rfl, rfl, rfl, (fun h => by cases h), ⟨rfl, hh0⟩, fun fs hl => c3.trans (X0.ireturnOut hexec hret rfl (Or.inr (Or.inr (Or.inl rfl))) (hb hbytes d8) hl)⟩
end CodL
/-- the String at a is Latin-1 over a new byte[] (the heap's one new cell): the low bytes of the len chars of A from o on; every cell but a is kept -/
def Got (a : Addr) (D : Cell) (fV fC : Field) (A : Cell) (o len : Nat) (r : Option Value) (s u : State) : Prop := r = none ∧ ∃ D' V : Cell, Blank "java/lang/String" a D' u ∧ Same D D' [fV.slot, fC.slot] ∧ D'.slots[fV.slot]? = some (.ref s.heap.size) ∧ D'.slots[fC.slot]? = some (.int 0) ∧ Arr .byte s.heap.size V u ∧ V.vm = .none ∧ u.vm.findClass "[B" = some V.cls ∧ V.slots.size = len ∧ (∀ j, j < len → V.slots[j]? = some (.int (lo8 (cv A (o + j))))) ∧ (∀ (y : Addr) (c : Cell), y ≠ a → s.heap[y]? = some c → u.heap[y]? = some c) ∧ u.heap.size = s.heap.size + 1
theorem Got.mv {a : Addr} {D A : Cell} {fV fC : Field} {o len : Nat} : ∀ r (U U' V V' : State), U'.heap = U.heap → V.vm.Alike V'.vm → V'.heap = V.heap → Got a D fV fC A o len r U V → Got a D fV fC A o len r U' V' :=
  fun r U U' V V' h1 hal h2 ⟨e0, D', X, a1, a2, a3, a4, a5, a6, a7, a8, a9, a10, a11⟩ => ⟨e0, D', X, a1.mv hal h2, a2, by rw [h1]; exact a3, a4, by rw [h1]; exact a5.mv hal h2, a6, by rw [hal.findClass]; exact a7, a8, a9, by rw [h1, h2]; exact a10, by rw [h1, h2]; exact a11⟩
namespace New4
def yN : MethodName := ⟨"java/lang/String", "<init>", "([CIILjava/lang/Void;)V"⟩
abbrev yB : ByteArray := jdk_42_method_149_code
theorem d0 : decode yB 0 = .ok (.aload_n 0, 1) := by decide +kernel
theorem d1 : decode yB 1 = .ok (.invokespecial 1, 3) := by decide +kernel
theorem d4 : decode yB 4 = .ok (.iload_n 3, 1) := by decide +kernel
theorem d5 : decode yB 5 = .ok (.ifCond (.ne) 22, 3) := by decide +kernel
theorem d27 : decode yB 27 = .ok (.getstatic 38, 3) := by decide +kernel
theorem d30 : decode yB 30 = .ok (.ifCond (.eq) 28, 3) := by decide +kernel
theorem d33 : decode yB 33 = .ok (.aload_n 1, 1) := by decide +kernel
theorem d34 : decode yB 34 = .ok (.iload_n 2, 1) := by decide +kernel
theorem d35 : decode yB 35 = .ok (.iload_n 3, 1) := by decide +kernel
theorem d36 : decode yB 36 = .ok (.invokestatic 177, 3) := by decide +kernel
theorem d39 : decode yB 39 = .ok (.astore 5, 2) := by decide +kernel
theorem d41 : decode yB 41 = .ok (.aload_n 0, 1) := by decide +kernel
theorem d42 : decode yB 42 = .ok (.aload 5, 2) := by decide +kernel
theorem d44 : decode yB 44 = .ok (.iload_n 3, 1) := by decide +kernel
theorem d45 : decode yB 45 = .ok (.invokestatic 47, 3) := by decide +kernel
theorem d48 : decode yB 48 = .ok (.putfield 15, 3) := by decide +kernel
theorem d51 : decode yB 51 = .ok (.aload_n 0, 1) := by decide +kernel
theorem d52 : decode yB 52 = .ok (.aload 5, 2) := by decide +kernel
theorem d54 : decode yB 54 = .ok (.putfield 9, 3) := by decide +kernel
theorem d57 : decode yB 57 = .ok (.return_, 1) := by decide +kernel
def site : List Cond := [.fieldLink "java/lang/String" 38 "java/lang/String" "COMPACT_STRINGS" "Z", Cmp3.tab, CodL.tab, .laysFinal "java/lang/String" "java/lang/String" "value" "[B", .fieldLink "java/lang/String" 9 "java/lang/String" "value" "[B", .laysFinal "java/lang/String" "java/lang/String" "coder" "B", .fieldLink "java/lang/String" 15 "java/lang/String" "coder" "B"] ++ objW "java/lang/String" 1 ++ staticW "java/lang/String" 177 Cmp3.yN ++ staticW "java/lang/String" 47 CodL.yN
def tab : Cond := tabOf yN yB 6 none site
def P (a : Addr) (D : Cell) (fV fC : Field) (b : Addr) (A : Cell) (z : Int32) (o len : Nat) (args : Array Value) (s : State) : Prop := args = #[.ref a, .ref b, .int (Int32.ofNat o), .int (Int32.ofNat len), .null] ∧ Blank "java/lang/String" a D s ∧ Found "java/lang/String" "value" "[B" fV s ∧ Found "java/lang/String" "coder" "B" fC s ∧ Ch b A s ∧ StaticIs s "java/lang/String" "COMPACT_STRINGS" "Z" (.int z) ∧ ¬ z = 0 ∧ 0 < len ∧ o + len ≤ A.slots.size ∧ len ≤ 536870912 ∧ ∀ i, i < len → ¬ 255 < cv A (o + i)
def E (a : Addr) (D : Cell) (fV fC : Field) (A : Cell) (o len : Nat) (r : Option Value) (s u : State) : Prop := Got a D fV fC A o len r s u
/-- len > 0, no char of the range above 255: a Latin-1 String of their low bytes -/
theorem law (l : Launch) (a : Addr) (D : Cell) (fV fC : Field) (b : Addr) (A : Cell) (z : Int32) (o len : Nat) : Law l yN 5 4 2 35 yB 6 none site (P a D fV fC b A z o len) (E a D fV fC A o len) [⟨a, fC.slot⟩, ⟨a, fV.slot⟩] 1 len := by
  refine Law.of_walk (plainFor_of_name (by decide +kernel)) (by decide +kernel) (by decide +kernel) (by decide) (fun _ _ h => by rw [h.1]; rfl) (fun _ U U' hal hh h => ⟨h.1, h.2.1.mv hal hh, h.2.2.1.al hal, h.2.2.2.1.al hal, h.2.2.2.2.1.mv hal hh, h.2.2.2.2.2.1.there hal hh, h.2.2.2.2.2.2⟩) (fun r U U' V V' h1 hal h2 h => Got.mv r U U' V V' h1 hal h2 h) ?_
  intro p e s m args below meth c s₁ X0 hexec hbytes hml hret hlk hnm hown hh0 W hP
  obtain ⟨rfl, hB, f1, f2, hA, s1, hz, l0, l1, l2, hp⟩ := hP
  have a31 := hA.1.2.2.2
  have c1 : Steps p.tables e below (s₁.setTop (entryFrame m #[.ref a, .ref b, .int (Int32.ofNat o), .int (Int32.ofNat len), .null] 6)) (s₁.setTop (mkF m 0 #[.val (.ref a), .val (.ref b), .val (.int (Int32.ofNat o)), .val (.int (Int32.ofNat len)), .val .null, .unset] [])) := entry rfl
  have c2 : Steps p.tables e below (s₁.setTop (entryFrame m #[.ref a, .ref b, .int (Int32.ofNat o), .int (Int32.ofNat len), .null] 6)) (s₁.setTop (mkF m 1 #[.val (.ref a), .val (.ref b), .val (.int (Int32.ofNat o)), .val (.int (Int32.ofNat len)), .val .null, .unset] [.ref a])) := c1.trans (by
    refine XS.aloadN X0.here hexec rfl (hb hbytes d0) rfl rfl ?_
    exact Steps.refl _)
  obtain ⟨T3, X3, q3, st3⟩ := X0.oinit hexec hown (wks W (objW "java/lang/String" 1)) (g := (mkF m 1 #[.val (.ref a), .val (.ref b), .val (.int (Int32.ofNat o)), .val (.int (Int32.ofNat len)), .val .null, .unset] [.ref a])) rfl (by rw [hml]; rfl) (rest := []) rfl (hb hbytes d1) (W := 0) (by show 2 * 0 + 0 ≤ _; decide) (Nat.le_of_ble_eq_true rfl) (Nat.le_of_ble_eq_true rfl)
  have hh3 := q3.trans hh0
  have c4 : Steps p.tables e below (s₁.setTop (entryFrame m #[.ref a, .ref b, .int (Int32.ofNat o), .int (Int32.ofNat len), .null] 6)) (T3.setTop (mkF m 27 #[.val (.ref a), .val (.ref b), .val (.int (Int32.ofNat o)), .val (.int (Int32.ofNat len)), .val .null, .unset] [])) := (c2.trans (st3 _ (Steps.refl _))).trans (by
    refine XS.iloadN X3.here hexec rfl (hb hbytes d4) rfl ?_
    refine XS.ifYes X3.here hexec rfl (pc0 := 5) rfl (hb hbytes d5) rfl (i0_ne_t (nz32 (by omega) l0)) (by decide) rfl ?_
    exact Steps.refl _)
  obtain ⟨T5, X5, q5, st5⟩ := X3.sget hexec hown (wk W (.fieldLink "java/lang/String" 38 "java/lang/String" "COMPACT_STRINGS" "Z")) s1 (fun _ _ h => by rw [hh3]; exact h) (g := (mkF m 27 #[.val (.ref a), .val (.ref b), .val (.int (Int32.ofNat o)), .val (.int (Int32.ofNat len)), .val .null, .unset] [])) rfl (hb hbytes d27)
  have hh5 := q5.trans hh3
  have c6 : Steps p.tables e below (s₁.setTop (entryFrame m #[.ref a, .ref b, .int (Int32.ofNat o), .int (Int32.ofNat len), .null] 6)) (T5.setTop (mkF m 30 #[.val (.ref a), .val (.ref b), .val (.int (Int32.ofNat o)), .val (.int (Int32.ofNat len)), .val .null, .unset] [.int z])) := c4.trans (st5 _ (Steps.refl _))
  have c7 : Steps p.tables e below (s₁.setTop (entryFrame m #[.ref a, .ref b, .int (Int32.ofNat o), .int (Int32.ofNat len), .null] 6)) (T5.setTop (mkF m 36 #[.val (.ref a), .val (.ref b), .val (.int (Int32.ofNat o)), .val (.int (Int32.ofNat len)), .val .null, .unset] [.int (Int32.ofNat len), .int (Int32.ofNat o), .ref b])) := c6.trans (by
    refine XS.ifNo X5.here hexec rfl (hb hbytes d30) rfl (i0_eq_f hz) ?_
    refine XS.aloadN X5.here hexec rfl (hb hbytes d33) rfl rfl ?_
    refine XS.iloadN X5.here hexec rfl (hb hbytes d34) rfl ?_
    refine XS.iloadN X5.here hexec rfl (hb hbytes d35) rfl ?_
    exact Steps.refl _)
  obtain ⟨v8, T8, X8, E8, g8⟩ := X5.callS hexec (Cmp3.law l b A o len) hown (wks W (staticW "java/lang/String" 177 Cmp3.yN)) (wk W Cmp3.tab) (W := 0) (Nat.le_of_ble_eq_true rfl) (Nat.le_of_ble_eq_true rfl) (Nat.le_refl _) (by show 0 + len ≤ len; omega) (g := (mkF m 36 #[.val (.ref a), .val (.ref b), .val (.int (Int32.ofNat o)), .val (.int (Int32.ofNat len)), .val .null, .unset] [.int (Int32.ofNat len), .int (Int32.ofNat o), .ref b])) rfl (by rw [hml]; rfl) c7 (argsL := [.ref b, .int (Int32.ofNat o), .int (Int32.ofNat len)]) (rest := []) rfl rfl (by show 2 * 0 + 0 ≤ _; decide) (hb hbytes d36) (⟨rfl, hA.mv X5.warmed.alike hh5, l1, l2, hp⟩)
  obtain ⟨e8, z8⟩ := E8
  obtain ⟨rfl, N, n1, n2, n3, n4, n5, n6⟩ := NewArr.mv _ T5 s _ _ hh5.symm (Vm.Alike.refl _) rfl e8
  rw [hh5] at z8
  have hB1 := hB.keep X8.warmed.alike (n6 _ _ hB.1)
  have hne : s.heap.size ≠ a := (Nat.ne_of_lt (Array.getElem?_eq_some_iff.mp hB.1).1).symm
  have c9 : Steps p.tables e below (s₁.setTop (entryFrame m #[.ref a, .ref b, .int (Int32.ofNat o), .int (Int32.ofNat len), .null] 6)) (T8.setTop (mkF m 39 #[.val (.ref a), .val (.ref b), .val (.int (Int32.ofNat o)), .val (.int (Int32.ofNat len)), .val .null, .unset] [.ref s.heap.size])) := g8
  have c10 : Steps p.tables e below (s₁.setTop (entryFrame m #[.ref a, .ref b, .int (Int32.ofNat o), .int (Int32.ofNat len), .null] 6)) (T8.setTop (mkF m 45 #[.val (.ref a), .val (.ref b), .val (.int (Int32.ofNat o)), .val (.int (Int32.ofNat len)), .val .null, .val (.ref s.heap.size)] [.int (Int32.ofNat N.slots.size), .ref s.heap.size, .ref a])) := by
    have hc : Steps p.tables e below (s₁.setTop (entryFrame m #[.ref a, .ref b, .int (Int32.ofNat o), .int (Int32.ofNat len), .null] 6)) (T8.setTop (mkF m 45 #[.val (.ref a), .val (.ref b), .val (.int (Int32.ofNat o)), .val (.int (Int32.ofNat len)), .val .null, .val (.ref s.heap.size)] [.int (Int32.ofNat len), .ref s.heap.size, .ref a])) := c9.trans (by
      refine XS.astore X8.here hexec rfl (hb hbytes d39) rfl rfl rfl ?_
      refine XS.aloadN X8.here hexec rfl (hb hbytes d41) rfl rfl ?_
      refine XS.aload X8.here hexec rfl (hb hbytes d42) rfl rfl ?_
      refine XS.iloadN X8.here hexec rfl (hb hbytes d44) rfl ?_
      exact Steps.refl _)
    rw [n4]; exact hc
  obtain ⟨v11, T11, X11, E11, g11⟩ := X8.callS hexec (CodL.law l s.heap.size N) hown (wks W (staticW "java/lang/String" 47 CodL.yN)) (wk W CodL.tab) (W := 1) (Nat.le_of_ble_eq_true rfl) (Nat.le_of_ble_eq_true rfl) (Nat.le_refl _) (by show 0 + len + 0 ≤ len; omega) (g := (mkF m 45 #[.val (.ref a), .val (.ref b), .val (.int (Int32.ofNat o)), .val (.int (Int32.ofNat len)), .val .null, .val (.ref s.heap.size)] [.int (Int32.ofNat N.slots.size), .ref s.heap.size, .ref a])) rfl (by rw [hml]; rfl) c10 (argsL := [.ref s.heap.size, .int (Int32.ofNat N.slots.size)]) (rest := [.ref a]) rfl rfl (by show 2 * 0 + (1 + 0) ≤ _; decide) (hb hbytes d45) (⟨rfl, n1⟩)
  obtain ⟨rfl, q11⟩ := E11
  have hB11 := hB1.mv (X8.warmed.alike.symm.trans X11.warmed.alike) q11
  have c12 : Steps p.tables e below (s₁.setTop (entryFrame m #[.ref a, .ref b, .int (Int32.ofNat o), .int (Int32.ofNat len), .null] 6)) (T11.setTop (mkF m 48 #[.val (.ref a), .val (.ref b), .val (.int (Int32.ofNat o)), .val (.int (Int32.ofNat len)), .val .null, .val (.ref s.heap.size)] [.int 0, .ref a])) := g11
  obtain ⟨T13, X13, p13, bl13, sl13, st13⟩ := X11.finit hexec hown (wk W (.fieldLink "java/lang/String" 15 "java/lang/String" "coder" "B")) (Or.inr ⟨_, (wk W (.laysFinal "java/lang/String" "java/lang/String" "coder" "B"))⟩) (Or.inl ⟨rfl, hnm⟩) f2 (Or.inl rfl) hB11 (t := .byte) (by decide +kernel) rfl (g := (mkF m 48 #[.val (.ref a), .val (.ref b), .val (.int (Int32.ofNat o)), .val (.int (Int32.ofNat len)), .val .null, .val (.ref s.heap.size)] [.int 0, .ref a])) rfl (rest := []) rfl (hb hbytes d48)
  have c14 : Steps p.tables e below (s₁.setTop (entryFrame m #[.ref a, .ref b, .int (Int32.ofNat o), .int (Int32.ofNat len), .null] 6)) (T13.setTop (mkF m 54 #[.val (.ref a), .val (.ref b), .val (.int (Int32.ofNat o)), .val (.int (Int32.ofNat len)), .val .null, .val (.ref s.heap.size)] [.ref s.heap.size, .ref a])) := (c12.trans (st13 _ (Steps.refl _))).trans (by
    refine XS.aloadN X13.here hexec rfl (hb hbytes d51) rfl rfl ?_
    refine XS.aload X13.here hexec rfl (hb hbytes d52) rfl rfl ?_
    exact Steps.refl _)
  obtain ⟨T15, X15, p15, bl15, sl15, st15⟩ := X13.finit hexec hown (wk W (.fieldLink "java/lang/String" 9 "java/lang/String" "value" "[B")) (Or.inr ⟨_, (wk W (.laysFinal "java/lang/String" "java/lang/String" "value" "[B"))⟩) (Or.inl ⟨rfl, hnm⟩) f1 (Or.inl rfl) bl13 (t := (.array .byte)) (by decide +kernel) rfl (g := (mkF m 54 #[.val (.ref a), .val (.ref b), .val (.int (Int32.ofNat o)), .val (.int (Int32.ofNat len)), .val .null, .val (.ref s.heap.size)] [.ref s.heap.size, .ref a])) rfl (rest := []) rfl (hb hbytes d54)
  have c16 : Steps p.tables e below (s₁.setTop (entryFrame m #[.ref a, .ref b, .int (Int32.ofNat o), .int (Int32.ofNat len), .null] 6)) (T15.setTop (mkF m 57 #[.val (.ref a), .val (.ref b), .val (.int (Int32.ofNat o)), .val (.int (Int32.ofNat len)), .val .null, .val (.ref s.heap.size)] [])) := c14.trans (st15 _ (Steps.refl _))
  have ap := apart (Or.inr ⟨_, (wk W (.laysFinal "java/lang/String" "java/lang/String" "value" "[B"))⟩) (Or.inr ⟨_, (wk W (.laysFinal "java/lang/String" "java/lang/String" "coder" "B"))⟩) f1 f2 (t₁ := .array .byte) (t₂ := .byte) (by decide +kernel) (by decide +kernel) (by decide)
  have al := X8.warmed.alike.symm.trans X15.warmed.alike
  have n7 : T11.heap[s.heap.size]? = some N := by rw [q11]; exact n1.1
  exact ⟨T15, none, _, _, _, X15, by simp, rfl, by omega, (fun _ => rfl), ⟨rfl, _, N, bl15, ((Same.refl D _).set _ (by simp)).set _ (by simp), sl15, (Cell.slots_setSlot_ne _ ap).trans sl13, n1.keep al (p15.other hne (p13.other hne n7)), n2, by rw [al.findClass]; exact n3, n4, n5, fun y c h1 h2 => p15.other h1 (p13.other h1 (by rw [q11]; exact n6 y c h2)), by rw [p15.2.2, p13.2.2, q11]; exact z8⟩, fun fs hl => c16.trans (X15.returnOut hexec hret (hb hbytes d57) hl)⟩
end New4
namespace New1
def yN : MethodName := ⟨"java/lang/String", "<init>", "([C)V"⟩
abbrev yB : ByteArray := jdk_42_method_3_code
theorem d0 : decode yB 0 = .ok (.aload_n 0, 1) := by decide +kernel
theorem d1 : decode yB 1 = .ok (.aload_n 1, 1) := by decide +kernel
theorem d2 : decode yB 2 = .ok (.iconst 0, 1) := by decide +kernel
theorem d3 : decode yB 3 = .ok (.aload_n 1, 1) := by decide +kernel
theorem d4 : decode yB 4 = .ok (.arraylength, 1) := by decide +kernel
theorem d5 : decode yB 5 = .ok (.aconst_null, 1) := by decide +kernel
theorem d6 : decode yB 6 = .ok (.invokespecial 27, 3) := by decide +kernel
theorem d9 : decode yB 9 = .ok (.return_, 1) := by decide +kernel
def site : List Cond := [New4.tab] ++ initW "java/lang/String" 27 New4.yN
def tab : Cond := tabOf yN yB 2 none site
def P (a : Addr) (D : Cell) (fV fC : Field) (b : Addr) (A : Cell) (z : Int32) (args : Array Value) (s : State) : Prop := args = #[.ref a, .ref b] ∧ Blank "java/lang/String" a D s ∧ Found "java/lang/String" "value" "[B" fV s ∧ Found "java/lang/String" "coder" "B" fC s ∧ Ch b A s ∧ StaticIs s "java/lang/String" "COMPACT_STRINGS" "Z" (.int z) ∧ ¬ z = 0 ∧ 0 < A.slots.size ∧ A.slots.size ≤ 536870912 ∧ ∀ i, i < A.slots.size → ¬ 255 < cv A i
def E (a : Addr) (D : Cell) (fV fC : Field) (A : Cell) (r : Option Value) (s u : State) : Prop := Got a D fV fC A 0 A.slots.size r s u
/-- new String(chars), not empty, no char above 255: a Latin-1 String of their low bytes -/
theorem law (l : Launch) (a : Addr) (D : Cell) (fV fC : Field) (b : Addr) (A : Cell) (z : Int32) : Law l yN 2 1 3 52 yB 2 none site (P a D fV fC b A z) (E a D fV fC A) [⟨a, fC.slot⟩, ⟨a, fV.slot⟩] 1 A.slots.size := by
  refine Law.of_walk (plainFor_of_name (by decide +kernel)) (by decide +kernel) (by decide +kernel) (by decide) (fun _ _ h => by rw [h.1]; rfl) (fun _ U U' hal hh h => ⟨h.1, h.2.1.mv hal hh, h.2.2.1.al hal, h.2.2.2.1.al hal, h.2.2.2.2.1.mv hal hh, h.2.2.2.2.2.1.there hal hh, h.2.2.2.2.2.2⟩) (fun r U U' V V' h1 hal h2 h => Got.mv r U U' V V' h1 hal h2 h) ?_
  intro p e s m args below meth c s₁ X0 hexec hbytes hml hret hlk hnm hown hh0 W hP
  obtain ⟨rfl, hB, f1, f2, hA, s1, hz, l0, l2, hp⟩ := hP
  have c1 : Steps p.tables e below (s₁.setTop (entryFrame m #[.ref a, .ref b] 2)) (s₁.setTop (mkF m 0 #[.val (.ref a), .val (.ref b)] [])) := entry rfl
  have c2 : Steps p.tables e below (s₁.setTop (entryFrame m #[.ref a, .ref b] 2)) (s₁.setTop (mkF m 6 #[.val (.ref a), .val (.ref b)] [.null, .int (Int32.ofNat A.slots.size), .int 0, .ref b, .ref a])) := c1.trans (by
    refine XS.aloadN X0.here hexec rfl (hb hbytes d0) rfl rfl ?_
    refine XS.aloadN X0.here hexec rfl (hb hbytes d1) rfl rfl ?_
    refine iconstV X0.here hexec rfl 0 (hb hbytes d2) (by decide) ?_
    refine XS.aloadN X0.here hexec rfl (hb hbytes d3) rfl rfl ?_
    refine X0.alen hexec (hA.1.mv X0.warmed.alike hh0) rfl rfl (hb hbytes d4) ?_
    refine XS.aconstNull X0.here hexec rfl (hb hbytes d5) ?_
    exact Steps.refl _)
  obtain ⟨v3, T3, X3, E3, g3⟩ := X0.callN hexec (New4.law l a D fV fC b A z 0 A.slots.size) rfl hown (wks W (initW "java/lang/String" 27 New4.yN)) (W New4.tab (by simp only [site, List.mem_cons, List.mem_append, true_or, or_true])) (W := 0) (Nat.le_of_ble_eq_true rfl) (Nat.le_of_ble_eq_true rfl) (Nat.le_refl _) (by show 0 + A.slots.size ≤ A.slots.size; omega) (g := (mkF m 6 #[.val (.ref a), .val (.ref b)] [.null, .int (Int32.ofNat A.slots.size), .int (Int32.ofNat 0), .ref b, .ref a])) rfl (by rw [hml]; rfl) c2 (argsL := [.ref b, .int (Int32.ofNat 0), .int (Int32.ofNat A.slots.size), .null]) (rest := []) rfl rfl (by show 2 * 0 + 0 ≤ _; decide) (hb hbytes d6) (⟨rfl, hB.mv X0.warmed.alike hh0, f1.al X0.warmed.alike, f2.al X0.warmed.alike, hA.mv X0.warmed.alike hh0, s1.there X0.warmed.alike hh0, hz, l0, by omega, l2, fun i hi => by rw [Nat.zero_add]; exact hp i hi⟩)
  have e0 := Got.mv _ s₁ s _ _ hh0.symm (Vm.Alike.refl _) rfl E3
  obtain rfl := e0.1
  have c4 : Steps p.tables e below (s₁.setTop (entryFrame m #[.ref a, .ref b] 2)) (T3.setTop (mkF m 9 #[.val (.ref a), .val (.ref b)] [])) := g3
  exact ⟨T3, none, _, _, _, X3, by simp, rfl, by omega, (fun _ => rfl), e0, fun fs hl => c4.trans (X3.returnOut hexec hret (hb hbytes d9) hl)⟩
theorem pays {l : Launch} {R : Room} {p : Program} {e : Env} {below : List Frame} {s : State} {sargs : Array Value} {len W : Nat} (a : Addr) (D : Cell) (fV fC : Field) (b : Addr) (A : Cell) (z : Int32) (htab : tab.before sargs s = true) (hfr : 4 ≤ R.frames) (hlo : W + 65 ≤ R.locals) :
    Back l R p e below s sargs yN len W (fun A₁ a₁ => A₁.cells + 1 ≤ R.cells ∧ A₁.slots + A.slots.size ≤ R.slots ∧ P a D fV fC b A z a₁ A₁.U) (fun A₁ _ v₁ B₁ => E a D fV fC A v₁ A₁.U B₁.U ∧ B₁.locs = A₁.locs ++ [⟨a, fC.slot⟩, ⟨a, fV.slot⟩] ∧ B₁.cells = A₁.cells + 1 ∧ B₁.slots = A₁.slots + A.slots.size) :=
  (law l a D fV fC b A z).pays htab hfr (by omega)
end New1
/-- the byte, read back as charAt reads it, is the char -/
theorem lo8_mask {x : Int32} (h0 : ¬ x < 0) (h1 : ¬ 255 < x) : lo8 x &&& 255 = x := by
  have t : ∀ k : Fin 256, lo8 (Int32.ofNat k.val) &&& 255 = Int32.ofNat k.val := by decide +kernel
  rw [Int32.lt_iff_toInt_lt] at h0 h1
  have e0 : (0 : Int32).toInt = 0 := rfl
  have e1 : (255 : Int32).toInt = 255 := rfl
  obtain ⟨k, hk⟩ : ∃ k : Nat, x.toInt = k := ⟨x.toInt.toNat, by omega⟩
  have hx : x = Int32.ofNat k := Int32.toInt_inj.mp (by rw [hk, Int32.toInt_ofNat_small (by omega)])
  rw [hx]
  exact t ⟨k, by omega⟩
end StrChars
namespace StrChars.Road
open Jvm Sem ClassFile Op Lib Jvm.Stand Jvm.Free Jvm.Free.XT
open Jvm.Lib.Cold (StaticIs)
abbrev ST : String := "java/lang/String"
/-- every table word that New1's law asks, flat -/
abbrev words : List Jvm.Cond := [.code New1.yN New1.yB 2 none, .initialized ST, .methodLink ST 27 New4.yN, .instanceMethod New4.yN,
  .code New4.yN New4.yB 6 none, .fieldLink ST 38 ST "COMPACT_STRINGS" "Z", .laysFinal ST ST "value" "[B", .fieldLink ST 9 ST "value" "[B", .laysFinal ST ST "coder" "B", .fieldLink ST 15 ST "coder" "B",
  .methodLink ST 1 Lib.objectInit, .instanceMethod Lib.objectInit, .code Lib.objectInit ⟨#[0xb1]⟩ 1 none, .methodLink ST 177 Cmp3.yN, .static Cmp3.yN, .methodLink ST 47 CodL.yN, .static CodL.yN,
  .code Cmp3.yN Cmp3.yB 6 (some (.array .byte)), .initialized U16, .arrayClass .byte, .methodLink U16 115 Cmp5.yN, .static Cmp5.yN, .code Cmp5.yN Cmp5.yB 7 (some .int), .code CodL.yN CodL.yB 2 (some .byte)]
theorem tab_of {a : Array Value} {s : State} (h : ∀ w ∈ words, w.before a s = true) : New1.tab.before a s = true := by
  have h5 : Cmp5.tab.before a s = true := unparts (wk h (.code Cmp5.yN Cmp5.yB 7 (some .int))) (wks h (.initialized Cmp5.yN.cls :: Cmp5.site))
  have hc : CodL.tab.before a s = true := unparts (wk h (.code CodL.yN CodL.yB 2 (some .byte))) (wks h (.initialized CodL.yN.cls :: CodL.site))
  have q5 : ∀ w ∈ Cmp5.tab :: words, w.before a s = true := fun w hw => (List.mem_cons.mp hw).elim (fun e => e ▸ h5) (h w)
  have h3 : Cmp3.tab.before a s = true := unparts (wk q5 (.code Cmp3.yN Cmp3.yB 6 (some (.array .byte)))) (wks q5 (.initialized Cmp3.yN.cls :: Cmp3.site))
  have q3 : ∀ w ∈ Cmp3.tab :: CodL.tab :: words, w.before a s = true := fun w hw => (List.mem_cons.mp hw).elim (fun e => e ▸ h3) fun hw => (List.mem_cons.mp hw).elim (fun e => e ▸ hc) (h w)
  have h4 : New4.tab.before a s = true := unparts (wk q3 (.code New4.yN New4.yB 6 none)) (wks q3 (.initialized New4.yN.cls :: New4.site))
  have q4 : ∀ w ∈ New4.tab :: words, w.before a s = true := fun w hw => (List.mem_cons.mp hw).elim (fun e => e ▸ h4) (h w)
  exact unparts (wk q4 (.code New1.yN New1.yB 2 none)) (wks q4 (.initialized New1.yN.cls :: New1.site))
/-- the words ride from the start Z to the walk's own state -/
theorem moved {Z s : State} {a0 args : Array Value} (hZ : Z.Warmed39 s.vm) (hw : ∀ d ∈ words, d.before a0 Z = true) : ∀ d ∈ words, d.before args s = true := fun d hd => by
  have q := hw d hd
  have t : ∀ d ∈ words, d = .arrayClass .byte ∨ (d.onTables && d.keepsFace) = true := by decide +kernel
  rcases t d hd with rfl | t
  · exact RoadKit.mvA hZ q
  · exact RoadKit.mv hZ q t
/-- WHAT COMES BACK, over the tables of the start Z: h the heap at the call, h' behind it -/
def Q (Z : State) (x : Addr) (A : Cell) (h : Heap) (v : Option Value) (h' : Heap) (L : List Loc) : Prop := v = none ∧ (∀ y ∈ L, y.base = x) ∧ RoadKit.Keep h h' [x] ∧ h'.size = h.size + 1 ∧ RoadKit.Exa Z h' x ST ∧ RoadKit.Fld Z h' x ST "value" "[B" (.ref h.size) ∧ RoadKit.Fld Z h' x ST "coder" "B" (.int 0) ∧
  (∃ V : Cell, RoadKit.Arr Z h' h.size V .byte ∧ V.vm = .none ∧ Z.vm.findClass "[B" = some V.cls ∧ V.slots.size = A.slots.size ∧ ∀ j, j < A.slots.size → V.slots[j]? = some (.int (lo8 (cv A j)))) ∧
  ∀ (O n d : String) (w : Value), RoadKit.Fld Z h x O n d w → RoadKit.slotOf Z O n d ≠ RoadKit.slotOf Z ST "value" "[B" → RoadKit.slotOf Z O n d ≠ RoadKit.slotOf Z ST "coder" "B" → RoadKit.Fld Z h' x O n d w
/-- **new String(chars) AT A CALL, IN THE ROAD'S FORM**: for specialBack behind newO: x the fresh String, b the char[] with the cell A -/
theorem back {p : Program} {l : Launch} {e : Env} {R : Room} {s : State} {args : Array Value} {below : List Frame} {len W : Nat} {Z : State} {a0 : Array Value} {h : Heap} (hZ : Z.Warmed39 s.vm) (hw : ∀ d ∈ words, d.before a0 Z = true) {kI : Nat} (wi : (Jvm.Cond.instantiable ST kI).before a0 Z = true)
    {x b : Addr} {A : Cell} {z : Int32} {v0 c0 : Value} (E : RoadKit.Exa Z h x ST) (V : RoadKit.Fld Z h x ST "value" "[B" v0) (C : RoadKit.Fld Z h x ST "coder" "B" c0) (K : RoadKit.Arr Z h b A .char) (hty : Typed .char A) (S : RoadKit.Sta Z h ST "COMPACT_STRINGS" "Z" (.int z)) (hz : ¬ z = 0)
    (l0 : 0 < A.slots.size) (l2 : A.slots.size ≤ 536870912) (hp : ∀ i, i < A.slots.size → ¬ 255 < cv A i) (hfr : 4 ≤ R.frames) (hlo : W + 65 ≤ R.locals) :
    Back l R p e below s args New1.yN len W (fun P a => a = #[.ref x, .ref b] ∧ P.U.heap = h ∧ P.cells + 1 ≤ R.cells ∧ P.slots + A.slots.size ≤ R.slots)
      (fun P _ v B => ∃ L, Q Z x A h v B.U.heap L ∧ B.locs = P.locs ++ L ∧ B.cells = P.cells + 1 ∧ B.slots = P.slots + A.slots.size) := by
  intro m meth c P g ig mk a X hg hsize hdg hW hn hp'
  obtain ⟨rfl, rfl, r1, r2⟩ := hp'
  have al : Z.vm.Alike P.U.vm := hZ.alike.trans X.warmed.alike
  obtain ⟨D, cfV, kV, iV, fV, hD, gV, stV, knV, obV, asV, slV⟩ := id V
  obtain ⟨D', cfC, kC, iC, fC, hD', gC, stC, -, -, asC, slC⟩ := id C
  cases hD.symm.trans hD'
  obtain ⟨D2, kD, e1, e2, e3, e4, e5⟩ := id E
  cases hD.symm.trans e1
  obtain ⟨c2, k2, i1, i2, i3, -⟩ := Cond.instantiable_spec wi
  cases e2.symm.trans i1
  cases e3.symm.trans i2
  obtain ⟨kU, u1, u2⟩ := al.2.2 _ _ e3
  have hB : Blank ST x D P.U := ⟨hD, ⟨knV, fun q hq => by rw [hq] at obV; cases obV⟩, by rw [al.findClass]; exact e2, kU, u1, by rw [u2]; exact i3, by rw [u2]; exact e5 i3⟩
  have F1 : Found ST "value" "[B" fV P.U := ⟨SBG.found_only al ⟨cfV, kV, iV, gV⟩, stV⟩
  have F2 : Found ST "coder" "B" fC P.U := ⟨SBG.found_only al ⟨cfC, kC, iC, gC⟩, stC⟩
  have hA : Ch b A P.U := ⟨⟨K.1, State.isArrayOf_alike al K.2.1, K.2.2, by omega⟩, hty⟩
  have hS : StaticIs P.U ST "COMPACT_STRINGS" "Z" (.int z) := by
    obtain ⟨cfS, iS, kS, fS, st, cS, t1, t2, t3, t4, t5, t6, t7⟩ := S
    exact StaticIs.there (s := { Z with heap := P.U.heap }) ⟨cfS, iS, kS, fS, st, cS, t1, t2, t3, t4, t5, (fun q => by rw [q] at t6; cases t6), t7⟩ al rfl
  obtain ⟨v, B, X', ⟨⟨hv, E', V', q1, q2, q3, q4, q5, q6, q7, q8, q9, q10, q11⟩, hl, hc, hs⟩, st⟩ := New1.pays x D fV fC b A z (tab_of (moved hZ hw)) hfr hlo m meth c P g ig mk _ X hg hsize hdg hW hn ⟨r1, r2, rfl, hB, F1, F2, hA, hS, hz, l0, l2, hp⟩
  have al' : Z.vm.Alike B.U.vm := hZ.alike.trans X'.warmed.alike
  have hsz : E'.slots.size = D.slots.size := by
    obtain ⟨-, -, -, kB, w1, w2, w3⟩ := q1
    obtain ⟨kB', y1, y2⟩ := al'.2.2 _ _ e3
    rw [q2.2.1] at w1
    cases w1.symm.trans y1
    rw [w3, e5 i3, y2]
  refine ⟨v, B, X', ⟨_, ⟨hv, ?_, ⟨by omega, fun y cy hy hn' => q10 y cy (by simpa using hn') hy, fun y cy hy => ?_⟩, q11, ⟨E', _, q1.1, by rw [q2.2.1]; exact e2, by rw [q2.2.1]; exact e3, by rw [q2.1]; exact obV, fun _ => by rw [hsz]; exact e5 i3⟩,
    ⟨E', cfV, kV, iV, fV, q1.1, gV, stV, by rw [q2.1]; exact knV, by rw [q2.1]; exact obV, by rw [q2.2.1]; exact asV, q3⟩, ⟨E', cfC, kC, iC, fC, q1.1, gC, stC, by rw [q2.1]; exact knV, by rw [q2.1]; exact obV, by rw [q2.2.1]; exact asC, q4⟩,
    ⟨V', ⟨q5.1, State.isArrayOf_alike al'.symm q5.2.1, q5.2.2.1⟩, q6, by rw [← al'.findClass]; exact q7, q8, fun j hj => by have := q9 j hj; rwa [Nat.zero_add] at this⟩, fun O n d w F n1 n2 => ?_⟩, hl, hc, hs⟩, st⟩
  · intro y hy
    simp only [List.mem_cons, List.not_mem_nil, or_false] at hy
    rcases hy with rfl | rfl <;> rfl
  · by_cases q : y = x
    · subst q
      cases hD.symm.trans hy
      exact ⟨E', q1.1, q2.2.1, q2.1, hsz⟩
    · exact ⟨cy, q10 y cy q hy, rfl, rfl, rfl⟩
  · obtain ⟨D3, cf, k, i, f, g1, g2, g3, g4, g5, g6, g7⟩ := F
    cases hD.symm.trans g1
    simp only [RoadKit.slotOf, g2, gV, gC, Option.map_some, Option.getD_some] at n1 n2
    exact ⟨E', cf, k, i, f, q1.1, g2, g3, by rw [q2.1]; exact g4, by rw [q2.1]; exact g5, by rw [q2.2.1]; exact g6, by rw [q2.2.2 f.slot (by simp [n1, n2])]; exact g7⟩
end StrChars.Road
namespace StrChars.Road
open Jvm Sem ClassFile Op Lib Jvm.Stand Jvm.Free Jvm.Free.XT
/-- WHAT COMES BACK, the byte[] as a list of values -/
def QA (Z : State) (x : Addr) (zn : Int32) (cs : List Int32) (h : Heap) (v : Option Value) (h' : Heap) (L : List Loc) : Prop := v = none ∧ (∀ y ∈ L, y.base = x) ∧ RoadKit.Keep h h' [x] ∧ h'.size = h.size + 1 ∧ RoadKit.Exa Z h' x ST ∧ RoadKit.Fld Z h' x ST "value" "[B" (.ref h.size) ∧ RoadKit.Fld Z h' x ST "coder" "B" (.int 0) ∧
  (∃ kb, Z.vm.findClass "[B" = some kb ∧ RoadKit.Arv Z h' h.size kb .byte zn (cs.map fun c => .int (lo8 c)) (.int 0)) ∧
  ∀ (O n d : String) (w : Value), RoadKit.Fld Z h x O n d w → RoadKit.slotOf Z O n d ≠ RoadKit.slotOf Z ST "value" "[B" → RoadKit.slotOf Z O n d ≠ RoadKit.slotOf Z ST "coder" "B" → RoadKit.Fld Z h' x O n d w
/-- **new String(chars) AT A CALL, THE ARRAYS AS LISTS**: the char[] at b holds cs, not empty, no char above 255 -/
theorem backArv {p : Program} {l : Launch} {e : Env} {R : Room} {s : State} {args : Array Value} {below : List Frame} {len W : Nat} {Z : State} {a0 : Array Value} {h : Heap} (hZ : Z.Warmed39 s.vm) (hw : ∀ d ∈ words, d.before a0 Z = true) {kI : Nat} (wi : (Jvm.Cond.instantiable ST kI).before a0 Z = true)
    {x b : Addr} {k : ClassId} {zn z : Int32} {cs : List Int32} {dv v0 c0 : Value} (E : RoadKit.Exa Z h x ST) (V : RoadKit.Fld Z h x ST "value" "[B" v0) (C : RoadKit.Fld Z h x ST "coder" "B" c0) (K : RoadKit.Arv Z h b k .char zn (cs.map Value.int) dv) (S : RoadKit.Sta Z h ST "COMPACT_STRINGS" "Z" (.int z)) (hz : ¬ z = 0)
    (hlen : zn.toNatClampNeg = cs.length) (h0 : 0 < cs.length) (hbig : cs.length ≤ 536870912) (hall : ∀ c ∈ cs, ¬ 255 < c) (hfr : 4 ≤ R.frames) (hlo : W + 65 ≤ R.locals) :
    Back l R p e below s args New1.yN len W (fun P a => a = #[.ref x, .ref b] ∧ P.U.heap = h ∧ P.cells + 1 ≤ R.cells ∧ P.slots + cs.length ≤ R.slots)
      (fun P _ v B => ∃ L, QA Z x zn cs h v B.U.heap L ∧ B.locs = P.locs ++ L ∧ B.cells = P.cells + 1 ∧ B.slots = P.slots + cs.length) := by
  obtain ⟨A, K1, K2, K3, K4, K5, K6⟩ := K
  have e : A.slots.size = cs.length := K3.trans hlen
  have hat : ∀ (i : Nat) (hi : i < cs.length), A.slots[i]? = some (.int cs[i]) := fun i hi => by rw [K5 i (by omega)]; simp [List.getD_eq_getElem?_getD, hi]
  have hcv : ∀ (i : Nat) (hi : i < cs.length), cv A i = cs[i] := fun i hi => by unfold cv; rw [hat i hi]
  have hty : Typed .char A := fun i v hv => by
    have hi : i < A.slots.size := (Array.getElem?_eq_some_iff.mp hv).1
    have q := K5 i hi
    rw [hv] at q
    rw [Option.some.inj q]
    exact K6 i hi
  refine Back.mono (back hZ hw wi E V C K1 hty S hz (by omega) (by omega) (fun i hi => by rw [hcv i (by omega)]; exact hall _ (List.getElem_mem _)) hfr hlo) (fun P a hp => ⟨hp.1, hp.2.1, hp.2.2.1, by rw [e]; exact hp.2.2.2⟩) (fun P a v B hp hq => ?_)
  obtain ⟨L, ⟨q1, q2, q3, q4, q5, q6, q7, ⟨V', v1, v2, v3, v4, v5⟩, q9⟩, hl, hc, hs⟩ := hq
  refine ⟨L, ⟨q1, q2, q3, q4, q5, q6, q7, ⟨V'.cls, v3, V', v1, rfl, by rw [v4, e, hlen], K4, fun i hi => ?_, fun i hi => ?_⟩, q9⟩, hl, hc, by rw [hs, e]⟩
  · have hi' : i < cs.length := by omega
    rw [v5 i (by omega), hcv i hi']; simp [List.getD_eq_getElem?_getD, hi']
  · have hi' : i < cs.length := by omega
    simp only [List.getD_eq_getElem?_getD, List.getElem?_map, List.getElem?_eq_getElem hi', Option.map_some, Option.getD_some]
    exact fits_lo8 _
end StrChars.Road
namespace StrChars.Road
open Jvm Sem ClassFile Op Lib Jvm.Stand Jvm.Free Jvm.Free.XT
/-- WHAT COMES BACK, in the writer's own shape -/
def QV (Z : State) (x : Addr) (N : Int32) (bs : List Int32) (h : Heap) (n0 : Nat) (v : Option Value) (h' : Heap) (L : List Loc) : Prop := v = none ∧ RoadKit.Fr n0 L ∧ RoadKit.Keep h h' [x] ∧ RoadKit.Exa Z h' x ST ∧ RoadKit.Fld Z h' x ST "coder" "B" (.int 0) ∧
  ∃ (t : Addr) (kb : ClassId), n0 ≤ t ∧ h.size ≤ t ∧ ¬ t = x ∧ RoadKit.Fld Z h' x ST "value" "[B" (.ref t) ∧ RoadKit.Arv Z h' t kb .byte N (bs.map Value.int) (.int 0)
/-- **new String(chars) AT A CALL, FOR THE WRITER**: a char[] of n known ints, each 0 to 255 -/
theorem backV {p : Program} {l : Launch} {e : Env} {R : Room} {s : State} {args : Array Value} {below : List Frame} {len W : Nat} {Z : State} {a0 : Array Value} {h : Heap} (hZ : Z.Warmed39 s.vm) (hw : ∀ d ∈ words, d.before a0 Z = true) {kI : Nat} (wi : (Jvm.Cond.instantiable ST kI).before a0 Z = true)
    {x b : Addr} {kC : ClassId} {cs bs : List Int32} {d v0 c0 : Value} {z N : Int32} {n n0 : Nat} (hx0 : n0 ≤ x) (hh0 : n0 ≤ h.size) (E : RoadKit.Exa Z h x ST) (V : RoadKit.Fld Z h x ST "value" "[B" v0) (C : RoadKit.Fld Z h x ST "coder" "B" c0) (K : RoadKit.Arv Z h b kC .char N (cs.map Value.int) d) (S : RoadKit.Sta Z h ST "COMPACT_STRINGS" "Z" (.int z)) (hz : ¬ z = 0)
    (hn : cs.length = n) (hN : N = Int32.ofNat n) (l0 : 0 < n) (l2 : n ≤ 4000) (hp : ∀ c ∈ cs, ¬ c < 0 ∧ ¬ (255 : Int32) < c) (hb : bs = cs.map (fun c => c.toInt8.toInt32)) (hfr : 4 ≤ R.frames) (hlo : W + 65 ≤ R.locals) :
    Back l R p e below s args (⟨"java/lang/String", "<init>", "([C)V"⟩ : MethodName) len W (fun P a => a = #[.ref x, .ref b] ∧ P.U.heap = h ∧ P.cells + 1 ≤ R.cells ∧ P.slots + n ≤ R.slots)
      (fun P _ v B => ∃ L, QV Z x N bs h n0 v B.U.heap L ∧ B.locs = P.locs ++ L ∧ B.cells = P.cells + 1 ∧ B.slots = P.slots + n) := by
  subst hn hN hb
  refine Back.mono (backArv hZ hw wi E V C K S hz (n32 (by omega)) l0 (by omega) (fun c hc => (hp c hc).2) hfr hlo) (fun P a hp => hp) (fun P a v B hp hq => ?_)
  obtain ⟨L, ⟨q1, q2, q3, q4, q5, q6, q7, ⟨kb, v1, v2⟩, q9⟩, hl, hc, hs⟩ := hq
  exact ⟨L, ⟨q1, fun y hy => by rw [q2 y hy]; exact hx0, q3, q5, q7, h.size, kb, hh0, Nat.le_refl _, Nat.ne_of_gt E.lt, q6, by rw [List.map_map]; exact v2⟩, hl, hc, hs⟩
end StrChars.Road
namespace StrChars
open Jvm Sem ClassFile Op Lib Jvm.Stand Jvm.Free.XT Jvm.Free.ALB Jvm.Free.JM Jvm.Free
open Jvm.Lib.Cold (StaticIs)
def hi8 (x : Int32) : Int32 := lo8 (x >>> ((8 : Int32) &&& 31))
/-- what StringUTF16.getChar makes of two bytes -/
def pairCh (u v : Int32) : Int32 := (((u &&& 255) <<< ((0 : Int32) &&& 31)) ||| ((v &&& 255) <<< ((8 : Int32) &&& 31))).toUInt32.toUInt16.toUInt32.toInt32
theorem lo8_and (x : Int32) : (lo8 x &&& 255).toBitVec.toNat = x.toBitVec.toNat % 256 := by
  have h : (lo8 x).toBitVec = (x.toBitVec.signExtend 8).signExtend 32 := by rw [lo8, Int8.toBitVec_toInt32, Int32.toBitVec_toInt8]
  rw [Int32.toBitVec_and, BitVec.toNat_and, h]
  have e : ((x.toBitVec.signExtend 8).signExtend 32).toNat % 256 = x.toBitVec.toNat % 256 := by
    rw [BitVec.toNat_signExtend]
    have hlt := x.toBitVec.isLt
    simp only [BitVec.toNat_setWidth, BitVec.toNat_signExtend]
    split <;> split <;> omega
  rw [← e]
  exact Nat.and_two_pow_sub_one_eq_mod _ 8
theorem pair_says {c : Int32} (h0 : ¬ c < 0) (h1 : ¬ 65535 < c) : pairCh (lo8 c) (hi8 c) = c := by
  rw [Int32.lt_iff_toInt_lt] at h0 h1
  have e0 : (0 : Int32).toInt = 0 := rfl
  have e1 : (65535 : Int32).toInt = 65535 := rfl
  have hc : c.toInt = c.toBitVec.toNat := by
    have := c.toBitVec.isLt
    have e : c.toInt = c.toBitVec.toInt := rfl
    rw [e] at h0 h1
    rw [e]
    rw [BitVec.toInt_eq_toNat_cond] at h0 h1 ⊢
    split at h0 <;> split <;> omega
  have hn : c.toBitVec.toNat < 65536 := by omega
  have a1 := lo8_and c
  have a2 : (hi8 c &&& 255).toBitVec.toNat = c.toBitVec.toNat / 256 := by
    rw [hi8, lo8_and]
    have e : ((8 : Int32) &&& 31) = 8 := by decide
    rw [e, Int32.toBitVec_shiftRight]
    have e2 : ((8 : Int32).toBitVec.smod 32) = 8#32 := by decide
    rw [e2, BitVec.sshiftRight_eq', BitVec.toNat_sshiftRight_of_msb_false (by rw [BitVec.msb_eq_false_iff_two_mul_lt]; omega)]
    show c.toBitVec.toNat >>> 8 % 256 = _
    rw [Nat.shiftRight_eq_div_pow]
    omega
  unfold pairCh
  apply Int32.toBitVec_inj.mp
  apply BitVec.eq_of_toNat_eq
  have f0 : ((0 : Int32) &&& 31) = 0 := by decide
  have f8 : ((8 : Int32) &&& 31) = 8 := by decide
  rw [f0, f8]
  have g : (((lo8 c &&& 255) <<< (0 : Int32)) ||| ((hi8 c &&& 255) <<< (8 : Int32))).toBitVec.toNat = c.toBitVec.toNat := by
    rw [Int32.toBitVec_or, Int32.toBitVec_shiftLeft, Int32.toBitVec_shiftLeft]
    have s0 : ((0 : Int32).toBitVec.smod 32) = 0#32 := by decide
    have s8 : ((8 : Int32).toBitVec.smod 32) = 8#32 := by decide
    rw [s0, s8, BitVec.toNat_or]
    simp only [BitVec.shiftLeft_eq', BitVec.toNat_shiftLeft, a1, a2]
    show (c.toBitVec.toNat % 256) <<< 0 % 2 ^ 32 ||| (c.toBitVec.toNat / 256) <<< 8 % 2 ^ 32 = _
    rw [Nat.shiftLeft_zero, Nat.mod_eq_of_lt (show c.toBitVec.toNat % 256 < 2 ^ 32 by omega), Nat.mod_eq_of_lt (show (c.toBitVec.toNat / 256) <<< 8 < 2 ^ 32 by rw [Nat.shiftLeft_eq]; omega), Nat.or_comm, ← Nat.shiftLeft_add_eq_or_of_lt (by omega), Nat.shiftLeft_eq]
    omega
  show BitVec.toNat (((((lo8 c &&& 255) <<< (0 : Int32)) ||| ((hi8 c &&& 255) <<< (8 : Int32))).toBitVec.setWidth 16).setWidth 32) = _
  rw [BitVec.toNat_setWidth, BitVec.toNat_setWidth, g]
  omega
end StrChars
namespace StrChars
open Jvm Sem ClassFile Op Lib Jvm.Stand Jvm.Free.XT Jvm.Free.ALB Jvm.Free.JM Jvm.Free
open Jvm.Lib.Cold (StaticIs)
/-- the array's cell V codes the n chars f 0 .. f (n - 1) by the coder cd, as the JDK does: coder 1 just where some char is above 255 -/
def Cod (cd : Int32) (n : Nat) (f : Nat → Int32) (V : Cell) : Prop := (cd = 0 ∧ V.slots.size = n ∧ ∀ j, j < n → V.slots[j]? = some (.int (lo8 (f j))) ∧ ¬ 255 < f j) ∨ (cd = 1 ∧ V.slots.size = 2 * n ∧ (∀ j, j < n → V.slots[2 * j]? = some (.int (lo8 (f j))) ∧ V.slots[2 * j + 1]? = some (.int (hi8 (f j)))) ∧ ∃ j, j < n ∧ 255 < f j)
/-- **x is a String of the n chars f 0 .. f (n - 1)**, Latin-1 or UTF-16; its array at t has the cell V -/
def Txt (x t : Addr) (V : Cell) (cd : Int32) (n : Nat) (f : Nat → Int32) (U : State) : Prop := Exact "java/lang/String" x U ∧ Has x "java/lang/String" "value" "[B" (.ref t) U ∧ Has x "java/lang/String" "coder" "B" (.int cd) U ∧ XT.Arr .byte t V U ∧ Cod cd n f V ∧ ∀ j, j < n → ¬ f j < 0 ∧ ¬ 65535 < f j
theorem Txt.mv {x t : Addr} {V : Cell} {cd : Int32} {n : Nat} {f : Nat → Int32} {U U' : State} (h : Txt x t V cd n f U) (hal : U.vm.Alike U'.vm) (hh : U'.heap = U.heap) : Txt x t V cd n f U' := ⟨h.1.mv hal hh, h.2.1.mv hal hh, h.2.2.1.mv hal hh, h.2.2.2.1.mv hal hh, h.2.2.2.2⟩
end StrChars
namespace StrChars.Road
open Jvm Sem ClassFile Op Lib Jvm.Stand Jvm.Free Jvm.Free.XT
open Jvm.Lib.Cold (StaticIs)
theorem consq {a : Array Value} {s : State} {c : Jvm.Cond} {L : List Jvm.Cond} (h0 : c.before a s = true) (h : ∀ w ∈ L, w.before a s = true) : ∀ w ∈ c :: L, w.before a s = true := fun w hw => (List.mem_cons.mp hw).elim (fun e => e ▸ h0) (h w)
/-- the bytes of the chars cs, low before high -/
def wideBytes : List Int32 → List Value
  | [] => []
  | c :: cs => .int (lo8 c) :: .int (hi8 c) :: wideBytes cs
theorem wide_lo (d : Value) : ∀ (cs : List Int32) (j : Nat), j < cs.length → (wideBytes cs).getD (2 * j) d = .int (lo8 (cs.getD j 0))
  | [], j, h => absurd h (Nat.not_lt_zero j)
  | c :: cs, 0, _ => rfl
  | c :: cs, j + 1, h => by
    have q := wide_lo d cs j (by simpa using h)
    rw [show 2 * (j + 1) = 2 * j + 1 + 1 from by omega]
    simpa [wideBytes] using q
theorem wide_hi (d : Value) : ∀ (cs : List Int32) (j : Nat), j < cs.length → (wideBytes cs).getD (2 * j + 1) d = .int (hi8 (cs.getD j 0))
  | [], j, h => absurd h (Nat.not_lt_zero j)
  | c :: cs, 0, _ => rfl
  | c :: cs, j + 1, h => by
    have q := wide_hi d cs j (by simpa using h)
    rw [show 2 * (j + 1) + 1 = 2 * j + 1 + 1 + 1 from by omega]
    simpa [wideBytes] using q
theorem low_at (d : Value) (cs : List Int32) (j : Nat) (h : j < cs.length) : (cs.map fun c => Value.int (lo8 c)).getD j d = .int (lo8 (cs.getD j 0)) := by
  simp [List.getD_eq_getElem?_getD, h]
/-- an array of N2 bytes vs codes the chars cs by the coder cd -/
def CodA (cs : List Int32) (cd N2 : Int32) (vs : List Value) : Prop := (cd = 0 ∧ N2 = Int32.ofNat cs.length ∧ vs = (cs.map fun c => Value.int (lo8 c)) ∧ ∀ c ∈ cs, ¬ 255 < c) ∨ (cd = 1 ∧ N2 = Int32.ofNat (2 * cs.length) ∧ vs = wideBytes cs ∧ ∃ c ∈ cs, 255 < c)
theorem CodA.cod {cs : List Int32} {cd N2 : Int32} {vs : List Value} {V : Cell} (h : CodA cs cd N2 vs) (hn : 2 * cs.length < 2 ^ 31) (hs : V.slots.size = N2.toNatClampNeg) (hv : RoadKit.Has V vs (.int 0)) : Cod cd cs.length (fun j => cs.getD j 0) V := by
  rcases h with ⟨rfl, rfl, rfl, h⟩ | ⟨rfl, rfl, rfl, c, hc, hw⟩
  · rw [n32 (by omega)] at hs
    exact Or.inl ⟨rfl, hs, fun j hj => ⟨by rw [hv j (by omega), low_at _ _ _ hj], by
      have e : cs.getD j 0 = cs[j] := by simp [List.getD_eq_getElem?_getD, hj]
      show ¬ 255 < cs.getD j 0
      rw [e]; exact h _ (List.getElem_mem _)⟩⟩
  · rw [n32 (by omega)] at hs
    obtain ⟨j, hj, rfl⟩ := List.getElem_of_mem hc
    exact Or.inr ⟨rfl, hs, fun j hj => ⟨by rw [hv _ (by omega), wide_lo _ _ _ hj], by rw [hv _ (by omega), wide_hi _ _ _ hj]⟩, j, hj, by
      have e : cs.getD j 0 = cs[j] := by simp [List.getD_eq_getElem?_getD, hj]
      show 255 < cs.getD j 0
      rw [e]; exact hw⟩
/-- an object of exactly java/lang/String, its two fields found: as the laws ask it -/
theorem strObj {Z U : State} {a0 : Array Value} {kI : Nat} (wi : (Jvm.Cond.instantiable ST kI).before a0 Z = true) (al : Z.vm.Alike U.vm) {x : Addr} {v0 c0 : Value} (E : RoadKit.Exa Z U.heap x ST) (V : RoadKit.Fld Z U.heap x ST "value" "[B" v0) (C : RoadKit.Fld Z U.heap x ST "coder" "B" c0) :
    ∃ (D : Cell) (fV fC : Field), Blank ST x D U ∧ Found ST "value" "[B" fV U ∧ Found ST "coder" "B" fC U ∧ D.slots[fV.slot]? = some v0 ∧ D.slots[fC.slot]? = some c0 ∧ RoadKit.slotOf Z ST "value" "[B" = fV.slot ∧ RoadKit.slotOf Z ST "coder" "B" = fC.slot := by
  obtain ⟨D, cfV, kV, iV, fV, hD, gV, stV, knV, obV, asV, slV⟩ := V
  obtain ⟨D', cfC, kC, iC, fC, hD', gC, stC, -, -, asC, slC⟩ := C
  cases hD.symm.trans hD'
  obtain ⟨D2, kD, e1, e2, e3, e4, e5⟩ := E
  cases hD.symm.trans e1
  obtain ⟨c2, k2, i1, i2, i3, -⟩ := Cond.instantiable_spec wi
  cases e2.symm.trans i1
  cases e3.symm.trans i2
  obtain ⟨kU, u1, u2⟩ := al.2.2 _ _ e3
  exact ⟨D, fV, fC, ⟨hD, ⟨knV, fun q hq => by rw [hq] at obV; cases obV⟩, by rw [al.findClass]; exact e2, kU, u1, by rw [u2]; exact i3, by rw [u2]; exact e5 i3⟩, ⟨SBG.found_only al ⟨cfV, kV, iV, gV⟩, stV⟩, ⟨SBG.found_only al ⟨cfC, kC, iC, gC⟩, stC⟩, slV, slC, by simp [RoadKit.slotOf, gV], by simp [RoadKit.slotOf, gC]⟩
theorem sta_is {Z U : State} (al : Z.vm.Alike U.vm) {C n d : String} {v : Value} (S : RoadKit.Sta Z U.heap C n d v) : StaticIs U C n d v := by
  obtain ⟨cfS, iS, kS, fS, st, cS, t1, t2, t3, t4, t5, t6, t7⟩ := S
  exact StaticIs.there (s := { Z with heap := U.heap }) ⟨cfS, iS, kS, fS, st, cS, t1, t2, t3, t4, t5, (fun q => by rw [q] at t6; cases t6), t7⟩ al rfl
end StrChars.Road
namespace StrChars
open Jvm Sem ClassFile Op Lib Jvm.Stand Jvm.Free.XT Jvm.Free.ALB Jvm.Free.JM Jvm.Free
open Jvm.Lib.Cold (StaticIs)
/-- what place i of a byte[]'s cell holds -/
def yv (A : Cell) (i : Nat) : Int32 := match A.slots[i]? with | some (.int x) => x | _ => 0
theorem yv_get {a : Addr} {A : Cell} {U : State} (h : XT.Arr .byte a A U) (ht : Typed .byte A) {i : Nat} (hi : i < A.slots.size) : A.slots[i]? = some (.int (yv A i)) := by
  have e := Array.getElem?_eq_getElem hi
  have f := ht i _ e
  unfold yv; rw [e]
  generalize A.slots[i] = v at f
  cases v <;> simp [fits] at f ⊢
/-- the two arrays are equal, place for place -/
def EqC (A B : Cell) : Prop := A.slots.size = B.slots.size ∧ ∀ i, i < A.slots.size → yv A i = yv B i
/-- a boolean that says whether p -/
def Says01 (q : Prop) (r : Option Value) (s u : State) : Prop := ∃ v : Int32, r = some (.int v) ∧ u.heap = s.heap ∧ ((v = 1 ∧ q) ∨ (v = 0 ∧ ¬ q))
theorem Says01.mv {q : Prop} : ∀ r (U U' V V' : State), U'.heap = U.heap → V.vm.Alike V'.vm → V'.heap = V.heap → Says01 q r U V → Says01 q r U' V' :=
  fun r U U' V V' h1 _ h2 ⟨v, a, b, c⟩ => ⟨v, a, by rw [h1, h2]; exact b, c⟩
namespace LEq
def yN : MethodName := ⟨"java/lang/StringLatin1", "equals", "([B[B)Z"⟩
abbrev yB : ByteArray := jdk_43_method_13_code
theorem d0 : decode yB 0 = .ok (.aload_n 0, 1) := by decide +kernel
theorem d1 : decode yB 1 = .ok (.arraylength, 1) := by decide +kernel
theorem d2 : decode yB 2 = .ok (.aload_n 1, 1) := by decide +kernel
theorem d3 : decode yB 3 = .ok (.arraylength, 1) := by decide +kernel
theorem d4 : decode yB 4 = .ok (.if_icmp (.ne) 30, 3) := by decide +kernel
theorem d7 : decode yB 7 = .ok (.iconst 0, 1) := by decide +kernel
theorem d8 : decode yB 8 = .ok (.istore_n 2, 1) := by decide +kernel
theorem d9 : decode yB 9 = .ok (.iload_n 2, 1) := by decide +kernel
theorem d10 : decode yB 10 = .ok (.aload_n 0, 1) := by decide +kernel
theorem d11 : decode yB 11 = .ok (.arraylength, 1) := by decide +kernel
theorem d12 : decode yB 12 = .ok (.if_icmp (.ge) 20, 3) := by decide +kernel
theorem d15 : decode yB 15 = .ok (.aload_n 0, 1) := by decide +kernel
theorem d16 : decode yB 16 = .ok (.iload_n 2, 1) := by decide +kernel
theorem d17 : decode yB 17 = .ok (.baload, 1) := by decide +kernel
theorem d18 : decode yB 18 = .ok (.aload_n 1, 1) := by decide +kernel
theorem d19 : decode yB 19 = .ok (.iload_n 2, 1) := by decide +kernel
theorem d20 : decode yB 20 = .ok (.baload, 1) := by decide +kernel
theorem d21 : decode yB 21 = .ok (.if_icmp (.eq) 5, 3) := by decide +kernel
theorem d24 : decode yB 24 = .ok (.iconst 0, 1) := by decide +kernel
theorem d25 : decode yB 25 = .ok (.ireturn, 1) := by decide +kernel
theorem d26 : decode yB 26 = .ok (.iinc 2 1, 3) := by decide +kernel
theorem d29 : decode yB 29 = .ok (.goto (-20), 3) := by decide +kernel
theorem d32 : decode yB 32 = .ok (.iconst 1, 1) := by decide +kernel
theorem d33 : decode yB 33 = .ok (.ireturn, 1) := by decide +kernel
theorem d34 : decode yB 34 = .ok (.iconst 0, 1) := by decide +kernel
theorem d35 : decode yB 35 = .ok (.ireturn, 1) := by decide +kernel
def site : List Cond := []
def tab : Cond := tabOf yN yB 3 (some .boolean) site
def P (a : Addr) (A : Cell) (b : Addr) (B : Cell) (args : Array Value) (s : State) : Prop := args = #[.ref a, .ref b] ∧ XT.Arr .byte a A s ∧ Typed .byte A ∧ XT.Arr .byte b B s ∧ Typed .byte B
/-- whether two byte[] are equal, place for place -/
theorem law (l : Launch) (a : Addr) (A : Cell) (b : Addr) (B : Cell) : Law l yN 2 2 0 0 yB 3 (some .boolean) site (P a A b B) (Says01 (EqC A B)) [] 0 0 := by
  refine Law.of_walk (plainFor_of_name (by decide +kernel)) (by decide +kernel) (by decide +kernel) (by decide) (fun _ _ h => by rw [h.1]; rfl) (fun _ U U' hal hh h => ⟨h.1, h.2.1.mv hal hh, h.2.2.1, h.2.2.2.1.mv hal hh, h.2.2.2.2⟩) (fun r U U' V V' h1 hal h2 h => Says01.mv r U U' V V' h1 hal h2 h) ?_
  intro p e s m args below meth c s₁ X0 hexec hbytes hml hret hlk hnm hown hh0 W hP
  obtain ⟨rfl, hA, tA, hB, tB⟩ := hP
  have a31 := hA.2.2.2
  have b31 := hB.2.2.2
  have hA0 := hA.mv X0.warmed.alike hh0
  have hB0 := hB.mv X0.warmed.alike hh0
  have c1 : Steps p.tables e below (s₁.setTop (entryFrame m #[.ref a, .ref b] 3)) (s₁.setTop (mkF m 0 #[.val (.ref a), .val (.ref b), .unset] [])) := entry rfl
  have c2 : Steps p.tables e below (s₁.setTop (entryFrame m #[.ref a, .ref b] 3)) (s₁.setTop (mkF m 4 #[.val (.ref a), .val (.ref b), .unset] [.int (Int32.ofNat B.slots.size), .int (Int32.ofNat A.slots.size)])) := c1.trans (by
    refine XS.aloadN X0.here hexec rfl (hb hbytes d0) rfl rfl ?_
    refine X0.alen hexec hA0 rfl rfl (hb hbytes d1) ?_
    refine XS.aloadN X0.here hexec rfl (hb hbytes d2) rfl rfl ?_
    refine X0.alen hexec hB0 rfl rfl (hb hbytes d3) ?_
    exact Steps.refl _)
  by_cases hs : A.slots.size = B.slots.size
  · have c3 : Steps p.tables e below (s₁.setTop (entryFrame m #[.ref a, .ref b] 3)) (s₁.setTop (mkF m 9 #[.val (.ref a), .val (.ref b), .val (.int 0)] [])) := c2.trans (by
      refine XS.icmpNo X0.here hexec rfl (hb hbytes d4) rfl (ii_ne_f (by rw [hs])) ?_
      refine iconstV X0.here hexec rfl 0 (hb hbytes d7) (by decide) ?_
      refine XS.istoreN X0.here hexec rfl (hb hbytes d8) rfl rfl ?_
      exact Steps.refl _)
    have loop : ∀ (r i : Nat), i + r = A.slots.size → (∀ j, j < i → yv A j = yv B j) → Steps p.tables e below (s₁.setTop (entryFrame m #[.ref a, .ref b] 3)) (s₁.setTop (mkF m 9 #[.val (.ref a), .val (.ref b), .val (.int (Int32.ofNat i))] [])) → ∃ (pc : Nat) (Ls : Array Slot) (v : Int32), (pc = 25 ∨ pc = 33) ∧ ((v = 1 ∧ EqC A B) ∨ (v = 0 ∧ ¬ EqC A B)) ∧ Steps p.tables e below (s₁.setTop (entryFrame m #[.ref a, .ref b] 3)) (s₁.setTop (mkF m pc Ls [.int v])) := by
      intro r
      induction r with
      | zero =>
        intro i hi he cl
        exact ⟨33, _, 1, Or.inr rfl, Or.inl ⟨rfl, hs, fun j hj => he j (by omega)⟩, cl.trans (by
          refine XS.iloadN X0.here hexec rfl (hb hbytes d9) rfl ?_
          refine XS.aloadN X0.here hexec rfl (hb hbytes d10) rfl rfl ?_
          refine X0.alen hexec hA0 rfl rfl (hb hbytes d11) ?_
          refine XS.icmpYes X0.here hexec rfl (pc0 := 12) rfl (hb hbytes d12) rfl (ii_ge_t (nlt32 (by omega) (by omega))) (by decide) rfl ?_
          refine iconstV X0.here hexec rfl 1 (hb hbytes d32) (by decide) ?_
          exact Steps.refl _)⟩
      | succ r ih =>
        intro i hi he cl
        have c4 : Steps p.tables e below (s₁.setTop (entryFrame m #[.ref a, .ref b] 3)) (s₁.setTop (mkF m 21 #[.val (.ref a), .val (.ref b), .val (.int (Int32.ofNat i))] [.int (yv B i), .int (yv A i)])) := cl.trans (by
          refine XS.iloadN X0.here hexec rfl (hb hbytes d9) rfl ?_
          refine XS.aloadN X0.here hexec rfl (hb hbytes d10) rfl rfl ?_
          refine X0.alen hexec hA0 rfl rfl (hb hbytes d11) ?_
          refine XS.icmpNo X0.here hexec rfl (hb hbytes d12) rfl (ii_ge_f (lt32 (by omega) (by omega))) ?_
          refine XS.aloadN X0.here hexec rfl (hb hbytes d15) rfl rfl ?_
          refine XS.iloadN X0.here hexec rfl (hb hbytes d16) rfl ?_
          refine X0.aget hexec hA0 rfl (yv_get hA tA (i := i) (by omega)) rfl rfl (hb hbytes d17) ?_
          refine XS.aloadN X0.here hexec rfl (hb hbytes d18) rfl rfl ?_
          refine XS.iloadN X0.here hexec rfl (hb hbytes d19) rfl ?_
          refine X0.aget hexec hB0 rfl (yv_get hB tB (i := i) (by omega)) rfl rfl (hb hbytes d20) ?_
          exact Steps.refl _)
        by_cases hv : yv A i = yv B i
        · have c5 : Steps p.tables e below (s₁.setTop (entryFrame m #[.ref a, .ref b] 3)) (s₁.setTop (mkF m 9 #[.val (.ref a), .val (.ref b), .val (.int (Int32.ofNat i + 1))] [])) := c4.trans (by
            refine XS.icmpYes X0.here hexec rfl (pc0 := 21) rfl (hb hbytes d21) rfl (ii_eq_t hv) (by decide) rfl ?_
            refine iincV X0.here hexec rfl 1 (hb hbytes d26) (by decide) rfl rfl ?_
            refine XS.goto X0.here hexec rfl (pc0 := 29) rfl (hb hbytes d29) (by decide) rfl ?_
            exact Steps.refl _)
          rw [succ32] at c5
          exact ih (i + 1) (by omega) (fun j hj => by
            by_cases e : j = i
            · rw [e]; exact hv
            · exact he j (by omega)) c5
        · exact ⟨25, _, 0, Or.inl rfl, Or.inr ⟨rfl, fun q => hv (q.2 i (by omega))⟩, c4.trans (by
            refine XS.icmpNo X0.here hexec rfl (hb hbytes d21) rfl (ii_eq_f hv) ?_
            refine iconstV X0.here hexec rfl 0 (hb hbytes d24) (by decide) ?_
            exact Steps.refl _)⟩
    obtain ⟨pc, Ls, v, hpc, hv, cz⟩ := loop A.slots.size 0 (by omega) (fun j hj => absurd hj (Nat.not_lt_zero j)) c3
    have nv : narrow .boolean (.int v) = .int v := by rcases hv with ⟨rfl, -⟩ | ⟨rfl, -⟩ <;> rfl
    rcases hpc with rfl | rfl
    · exact ⟨s₁, some (.int v), _, _, _, X0, rfl, rfl, rfl, (fun h => by cases h), ⟨v, rfl, hh0, hv⟩, fun fs hl => cz.trans (X0.ireturnOut hexec hret nv (Or.inr (Or.inl rfl)) (hb hbytes d25) hl)⟩
    · exact ⟨s₁, some (.int v), _, _, _, X0, rfl, rfl, rfl, (fun h => by cases h), ⟨v, rfl, hh0, hv⟩, fun fs hl => cz.trans (X0.ireturnOut hexec hret nv (Or.inr (Or.inl rfl)) (hb hbytes d33) hl)⟩
  · have c3 : Steps p.tables e below (s₁.setTop (entryFrame m #[.ref a, .ref b] 3)) (s₁.setTop (mkF m 35 #[.val (.ref a), .val (.ref b), .unset] [.int 0])) := c2.trans (by
      refine XS.icmpYes X0.here hexec rfl (pc0 := 4) rfl (hb hbytes d4) rfl (ii_ne_t (ne32 a31 b31 hs)) (by decide) rfl ?_
      refine iconstV X0.here hexec rfl 0 (hb hbytes d34) (by decide) ?_
      exact Steps.refl _)
    exact ⟨s₁, some (.int 0), _, _, _, X0, rfl, rfl, rfl, (fun h => by cases h), ⟨0, rfl, hh0, Or.inr ⟨rfl, fun q => hs q.1⟩⟩, fun fs hl => c3.trans (X0.ireturnOut hexec hret rfl (Or.inr (Or.inl rfl)) (hb hbytes d35) hl)⟩
end LEq
theorem Cod.ty {cd : Int32} {n : Nat} {f : Nat → Int32} {V : Cell} (h : Cod cd n f V) : Typed .byte V := fun i v hv => by
  have hi : i < V.slots.size := (Array.getElem?_eq_some_iff.mp hv).1
  rcases h with ⟨-, k1, k2⟩ | ⟨-, k1, k2, -⟩
  · rw [(k2 i (by omega)).1] at hv; cases hv; exact fits_lo8 _
  · rcases Nat.mod_two_eq_zero_or_one i with e | e
    · obtain ⟨j, rfl⟩ : ∃ j, i = 2 * j := ⟨i / 2, by omega⟩
      rw [(k2 j (by omega)).1] at hv; cases hv; exact fits_lo8 _
    · obtain ⟨j, rfl⟩ : ∃ j, i = 2 * j + 1 := ⟨i / 2, by omega⟩
      rw [(k2 j (by omega)).2] at hv; cases hv; exact fits_lo8 _
/-- the same text -/
def SameT (n : Nat) (f : Nat → Int32) (k : Nat) (g : Nat → Int32) : Prop := n = k ∧ ∀ j, j < n → f j = g j
theorem lo8_inj {x y : Int32} (h0 : ¬ x < 0) (h1 : ¬ 255 < x) (k0 : ¬ y < 0) (k1 : ¬ 255 < y) (h : lo8 x = lo8 y) : x = y := by
  rw [← lo8_mask h0 h1, ← lo8_mask k0 k1, h]
/-- arrays coded by one coder are equal just where the texts are -/
theorem Cod.eqv {cd : Int32} {n k : Nat} {f g : Nat → Int32} {V V' : Cell} (h : Cod cd n f V) (h' : Cod cd k g V') (hf : ∀ j, j < n → ¬ f j < 0 ∧ ¬ 65535 < f j) (hg : ∀ j, j < k → ¬ g j < 0 ∧ ¬ 65535 < g j) : EqC V V' ↔ SameT n f k g := by
  have yvv : ∀ {W : Cell} {i : Nat} {x : Int32}, W.slots[i]? = some (.int x) → yv W i = x := fun q => by unfold yv; rw [q]
  rcases h with ⟨rfl, k1, k2⟩ | ⟨rfl, k1, k2, -⟩
  · rcases h' with ⟨-, m1, m2⟩ | ⟨e, -⟩
    · constructor
      · rintro ⟨e1, e2⟩
        refine ⟨by omega, fun j hj => ?_⟩
        have q := e2 j (by omega)
        rw [yvv (k2 j hj).1, yvv (m2 j (by omega)).1] at q
        exact lo8_inj (hf j hj).1 (k2 j hj).2 (hg j (by omega)).1 (m2 j (by omega)).2 q
      · rintro ⟨rfl, e2⟩
        refine ⟨by omega, fun j hj => ?_⟩
        rw [yvv (k2 j (by omega)).1, yvv (m2 j (by omega)).1, e2 j (by omega)]
    · exact absurd e (by decide)
  · rcases h' with ⟨e, -⟩ | ⟨-, m1, m2, -⟩
    · exact absurd e (by decide)
    · constructor
      · rintro ⟨e1, e2⟩
        refine ⟨by omega, fun j hj => ?_⟩
        have q1 := e2 (2 * j) (by omega)
        have q2 := e2 (2 * j + 1) (by omega)
        rw [yvv (k2 j hj).1, yvv (m2 j (by omega)).1] at q1
        rw [yvv (k2 j hj).2, yvv (m2 j (by omega)).2] at q2
        rw [← pair_says (hf j hj).1 (hf j hj).2, ← pair_says (hg j (by omega)).1 (hg j (by omega)).2, q1, q2]
      · rintro ⟨rfl, e2⟩
        refine ⟨by omega, fun i hi => ?_⟩
        rcases Nat.mod_two_eq_zero_or_one i with e | e
        · obtain ⟨j, rfl⟩ : ∃ j, i = 2 * j := ⟨i / 2, by omega⟩
          rw [yvv (k2 j (by omega)).1, yvv (m2 j (by omega)).1, e2 j (by omega)]
        · obtain ⟨j, rfl⟩ : ∃ j, i = 2 * j + 1 := ⟨i / 2, by omega⟩
          rw [yvv (k2 j (by omega)).2, yvv (m2 j (by omega)).2, e2 j (by omega)]
/-- two codings differ: so do the texts -/
theorem Cod.dif {cd cd' : Int32} {n k : Nat} {f g : Nat → Int32} {V V' : Cell} (h : Cod cd n f V) (h' : Cod cd' k g V') (hne : ¬ cd = cd') : ¬ SameT n f k g := by
  rintro ⟨rfl, e⟩
  rcases h with ⟨rfl, -, k2⟩ | ⟨rfl, -, -, j, hj, hw⟩
  · rcases h' with ⟨rfl, -⟩ | ⟨-, -, -, j, hj, hw⟩
    · exact hne rfl
    · exact (k2 j hj).2 (by rw [e j hj]; exact hw)
  · rcases h' with ⟨-, -, m2⟩ | ⟨rfl, -⟩
    · exact (m2 j hj).2 (by rw [← e j hj]; exact hw)
    · exact hne rfl
/-- an object of exactly C is an instance of C -/
theorem cinst {p : Program} {l : Launch} {e : Env} {R : Room} {s : State} {m : MethodId} {args : Array Value} {below : List Frame} {meth : Method} {c : Code} {T : State} {locs : List Loc} {cells slots : Nat} (X : Stand p l e R s m args below meth c T locs cells slots) (hexec : p.tables.exec = Jvm.exec) {own C : String} {index : Nat} (hown : s.vm.findClass own = some m.cls) (hlink : (Cond.classLink own index C).before args s = true) {a : Addr} (hE : Exact C a T)
    {g : JFrame} (hg : g.method = m) {rest : List Value} (hstack : g.stack = .ref a :: rest) (hdg : decode c.code g.pc = .ok (.instanceof index, 3)) :
    ∃ T', Stand p l e R s m args below meth c T' locs cells slots ∧ T'.heap = T.heap ∧ ∀ target, Steps p.tables e below (T'.setTop { g with pc := g.pc + 3, stack := .int 1 :: rest }) target → Steps p.tables e below (T.setTop g) target := by
  obtain ⟨cB, h1, D, h2, h3, h4⟩ := hE
  have h1' : s.vm.findClass C = some cB := by rw [← X.warmed.alike.findClass]; exact h1
  obtain ⟨vm', X', st⟩ := X.instanceofYes hexec hown hlink h2 h4 h1' (by rw [h3]; exact Jvm.Free.SB.assignable_self _ _) hg hstack hdg
  exact ⟨_, X', rfl, st⟩
theorem cself {p : Program} {l : Launch} {e : Env} {R : Room} {s : State} {m : MethodId} {args : Array Value} {below : List Frame} {meth : Method} {c : Code} {T : State} {locs : List Loc} {cells slots : Nat} (X : Stand p l e R s m args below meth c T locs cells slots) (hexec : p.tables.exec = Jvm.exec) {own C : String} {index : Nat} (hown : s.vm.findClass own = some m.cls) (hlink : (Cond.classLink own index C).before args s = true) {a : Addr} (hE : Exact C a T)
    {g : JFrame} (hg : g.method = m) {rest : List Value} (hstack : g.stack = .ref a :: rest) (hdg : decode c.code g.pc = .ok (.checkcast index, 3)) :
    ∃ T', Stand p l e R s m args below meth c T' locs cells slots ∧ T'.heap = T.heap ∧ ∀ target, Steps p.tables e below (T'.setTop { g with pc := g.pc + 3, stack := .ref a :: rest }) target → Steps p.tables e below (T.setTop g) target := by
  obtain ⟨cB, h1, D, h2, h3, h4⟩ := hE
  have h1' : s.vm.findClass C = some cB := by rw [← X.warmed.alike.findClass]; exact h1
  obtain ⟨vm', X', st⟩ := X.checkcastYes hexec hown hlink h2 h4 h1' (by rw [h3]; exact Jvm.Free.SB.assignable_self _ _) hg hstack hdg
  exact ⟨_, X', rfl, fun t h => st t (by rw [← hstack] at h; exact h)⟩
namespace SEq
def yN : MethodName := ⟨"java/lang/String", "equals", "(Ljava/lang/Object;)Z"⟩
abbrev yB : ByteArray := jdk_42_method_66_code
theorem d0 : decode yB 0 = .ok (.aload_n 0, 1) := by decide +kernel
theorem d1 : decode yB 1 = .ok (.aload_n 1, 1) := by decide +kernel
theorem d2 : decode yB 2 = .ok (.if_acmp (.ne) 5, 3) := by decide +kernel
theorem d5 : decode yB 5 = .ok (.iconst 1, 1) := by decide +kernel
theorem d6 : decode yB 6 = .ok (.ireturn, 1) := by decide +kernel
theorem d7 : decode yB 7 = .ok (.aload_n 1, 1) := by decide +kernel
theorem d8 : decode yB 8 = .ok (.instanceof 10, 3) := by decide +kernel
theorem d11 : decode yB 11 = .ok (.ifCond (.eq) 43, 3) := by decide +kernel
theorem d14 : decode yB 14 = .ok (.aload_n 1, 1) := by decide +kernel
theorem d15 : decode yB 15 = .ok (.checkcast 10, 3) := by decide +kernel
theorem d18 : decode yB 18 = .ok (.astore_n 2, 1) := by decide +kernel
theorem d19 : decode yB 19 = .ok (.getstatic 38, 3) := by decide +kernel
theorem d22 : decode yB 22 = .ok (.ifCond (.eq) 14, 3) := by decide +kernel
theorem d25 : decode yB 25 = .ok (.aload_n 0, 1) := by decide +kernel
theorem d26 : decode yB 26 = .ok (.getfield 15, 3) := by decide +kernel
theorem d29 : decode yB 29 = .ok (.aload_n 2, 1) := by decide +kernel
theorem d30 : decode yB 30 = .ok (.getfield 15, 3) := by decide +kernel
theorem d33 : decode yB 33 = .ok (.if_icmp (.ne) 21, 3) := by decide +kernel
theorem d36 : decode yB 36 = .ok (.aload_n 0, 1) := by decide +kernel
theorem d37 : decode yB 37 = .ok (.getfield 9, 3) := by decide +kernel
theorem d40 : decode yB 40 = .ok (.aload_n 2, 1) := by decide +kernel
theorem d41 : decode yB 41 = .ok (.getfield 9, 3) := by decide +kernel
theorem d44 : decode yB 44 = .ok (.invokestatic 541, 3) := by decide +kernel
theorem d47 : decode yB 47 = .ok (.ifCond (.eq) 7, 3) := by decide +kernel
theorem d50 : decode yB 50 = .ok (.iconst 1, 1) := by decide +kernel
theorem d51 : decode yB 51 = .ok (.goto 4, 3) := by decide +kernel
theorem d54 : decode yB 54 = .ok (.iconst 0, 1) := by decide +kernel
theorem d55 : decode yB 55 = .ok (.ireturn, 1) := by decide +kernel
def site : List Cond := [.classLink "java/lang/String" 10 "java/lang/String", .fieldLink "java/lang/String" 38 "java/lang/String" "COMPACT_STRINGS" "Z", .fieldLink "java/lang/String" 15 "java/lang/String" "coder" "B", .fieldLink "java/lang/String" 9 "java/lang/String" "value" "[B", LEq.tab] ++ staticW "java/lang/String" 541 LEq.yN
def tab : Cond := tabOf yN yB 3 (some .boolean) site
def P (x t : Addr) (V : Cell) (cd : Int32) (n : Nat) (f : Nat → Int32) (y t' : Addr) (V' : Cell) (cd' : Int32) (k : Nat) (g : Nat → Int32) (z : Int32) (args : Array Value) (s : State) : Prop := args = #[.ref x, .ref y] ∧ Txt x t V cd n f s ∧ Txt y t' V' cd' k g s ∧ StaticIs s "java/lang/String" "COMPACT_STRINGS" "Z" (.int z) ∧ ¬ z = 0
/-- equals(Object) of two Strings: whether the texts are the same -/
theorem law (l : Launch) (x t : Addr) (V : Cell) (cd : Int32) (n : Nat) (f : Nat → Int32) (y t' : Addr) (V' : Cell) (cd' : Int32) (k : Nat) (g : Nat → Int32) (z : Int32) : Law l yN 2 1 1 14 yB 3 (some .boolean) site (P x t V cd n f y t' V' cd' k g z) (Says01 (SameT n f k g)) [] 0 0 := by
  refine Law.of_walk (plainFor_of_name (by decide +kernel)) (by decide +kernel) (by decide +kernel) (by decide) (fun _ _ h => by rw [h.1]; rfl) (fun _ U U' hal hh h => ⟨h.1, h.2.1.mv hal hh, h.2.2.1.mv hal hh, h.2.2.2.1.there hal hh, h.2.2.2.2⟩) (fun r U U' V V' h1 hal h2 h => Says01.mv r U U' V V' h1 hal h2 h) ?_
  intro p e s m args below meth c s₁ X0 hexec hbytes hml hret hlk hnm hown hh0 W hP
  obtain ⟨rfl, hx, hy, s1, hz⟩ := hP
  have c1 : Steps p.tables e below (s₁.setTop (entryFrame m #[.ref x, .ref y] 3)) (s₁.setTop (mkF m 2 #[.val (.ref x), .val (.ref y), .unset] [.ref y, .ref x])) := Steps.trans (entry rfl) (by
    show Steps p.tables e below (s₁.setTop (mkF m 0 #[.val (.ref x), .val (.ref y), .unset] [])) _
    refine XS.aloadN X0.here hexec rfl (hb hbytes d0) rfl rfl ?_
    refine XS.aloadN X0.here hexec rfl (hb hbytes d1) rfl rfl ?_
    exact Steps.refl _)
  by_cases hxy : x = y
  · have c2 : Steps p.tables e below (s₁.setTop (entryFrame m #[.ref x, .ref y] 3)) (s₁.setTop (mkF m 6 #[.val (.ref x), .val (.ref y), .unset] [.int 1])) := c1.trans (by
      refine acmpNo X0.here hexec rfl (hb hbytes d2) rfl rfl rfl (by simp [acmp, hxy]) ?_
      refine iconstV X0.here hexec rfl 1 (hb hbytes d5) (by decide) ?_
      exact Steps.refl _)
    subst hxy
    have ec : cd = cd' := by
      obtain ⟨D, fd, a1, a2, a3⟩ := hx.2.2.1
      obtain ⟨D', fd', b1, b2, b3⟩ := hy.2.2.1
      cases a1.symm.trans b1
      obtain ⟨q1, q2, q3, q4⟩ := a2.1
      obtain ⟨r1, r2, r3, r4⟩ := b2.1
      cases q4.symm.trans r4
      cases a3.symm.trans b3; rfl
    have et : t = t' := by
      obtain ⟨D, fd, a1, a2, a3⟩ := hx.2.1
      obtain ⟨D', fd', b1, b2, b3⟩ := hy.2.1
      cases a1.symm.trans b1
      obtain ⟨q1, q2, q3, q4⟩ := a2.1
      obtain ⟨r1, r2, r3, r4⟩ := b2.1
      cases q4.symm.trans r4
      cases a3.symm.trans b3; rfl
    subst ec et
    have ev : V = V' := by cases hx.2.2.2.1.1.symm.trans hy.2.2.2.1.1; rfl
    subst ev
    have hs : SameT n f k g := (Cod.eqv hx.2.2.2.2.1 hy.2.2.2.2.1 hx.2.2.2.2.2 hy.2.2.2.2.2).mp ⟨rfl, fun _ _ => rfl⟩
    exact ⟨s₁, some (.int 1), _, _, _, X0, rfl, rfl, rfl, (fun h => by cases h), ⟨1, rfl, hh0, Or.inl ⟨rfl, hs⟩⟩, fun fs hl => c2.trans (X0.ireturnOut hexec hret rfl (Or.inr (Or.inl rfl)) (hb hbytes d6) hl)⟩
  · have c2 : Steps p.tables e below (s₁.setTop (entryFrame m #[.ref x, .ref y] 3)) (s₁.setTop (mkF m 8 #[.val (.ref x), .val (.ref y), .unset] [.ref y])) := c1.trans (by
      refine acmpYes X0.here hexec rfl (pc0 := 2) rfl (hb hbytes d2) rfl rfl rfl (by simp [acmp, hxy]) (by decide) rfl ?_
      refine XS.aloadN X0.here hexec rfl (hb hbytes d7) rfl rfl ?_
      exact Steps.refl _)
    obtain ⟨T3, X3, q3, st3⟩ := cinst X0 hexec hown (wk W (.classLink "java/lang/String" 10 "java/lang/String")) (hy.mv X0.warmed.alike hh0).1 (g := (mkF m 8 #[.val (.ref x), .val (.ref y), .unset] [.ref y])) rfl (rest := []) rfl (hb hbytes d8)
    have hh3 := q3.trans hh0
    have c4 : Steps p.tables e below (s₁.setTop (entryFrame m #[.ref x, .ref y] 3)) (T3.setTop (mkF m 15 #[.val (.ref x), .val (.ref y), .unset] [.ref y])) := (c2.trans (st3 _ (Steps.refl _))).trans (by
      refine XS.ifNo X3.here hexec rfl (hb hbytes d11) rfl (i0_eq_f (by decide)) ?_
      refine XS.aloadN X3.here hexec rfl (hb hbytes d14) rfl rfl ?_
      exact Steps.refl _)
    obtain ⟨T5, X5, q5, st5⟩ := cself X3 hexec hown (wk W (.classLink "java/lang/String" 10 "java/lang/String")) (hy.mv X3.warmed.alike hh3).1 (g := (mkF m 15 #[.val (.ref x), .val (.ref y), .unset] [.ref y])) rfl (rest := []) rfl (hb hbytes d15)
    have hh5 := q5.trans hh3
    have c6 : Steps p.tables e below (s₁.setTop (entryFrame m #[.ref x, .ref y] 3)) (T5.setTop (mkF m 19 #[.val (.ref x), .val (.ref y), .val (.ref y)] [])) := (c4.trans (st5 _ (Steps.refl _))).trans (by
      refine XS.astoreN X5.here hexec rfl (hb hbytes d18) rfl rfl rfl ?_
      exact Steps.refl _)
    obtain ⟨T7, X7, q7, st7⟩ := X5.sget hexec hown (wk W (.fieldLink "java/lang/String" 38 "java/lang/String" "COMPACT_STRINGS" "Z")) s1 (fun _ _ h => by rw [hh5]; exact h) (g := (mkF m 19 #[.val (.ref x), .val (.ref y), .val (.ref y)] [])) rfl (hb hbytes d19)
    have hh7 := q7.trans hh5
    have c8 : Steps p.tables e below (s₁.setTop (entryFrame m #[.ref x, .ref y] 3)) (T7.setTop (mkF m 26 #[.val (.ref x), .val (.ref y), .val (.ref y)] [.ref x])) := (c6.trans (st7 _ (Steps.refl _))).trans (by
      refine XS.ifNo X7.here hexec rfl (hb hbytes d22) rfl (i0_eq_f hz) ?_
      refine XS.aloadN X7.here hexec rfl (hb hbytes d25) rfl rfl ?_
      exact Steps.refl _)
    obtain ⟨T9, X9, q9, st9⟩ := X7.hget hexec hown (wk W (.fieldLink "java/lang/String" 15 "java/lang/String" "coder" "B")) (hx.mv X7.warmed.alike hh7).2.2.1 (g := (mkF m 26 #[.val (.ref x), .val (.ref y), .val (.ref y)] [.ref x])) rfl (rest := []) rfl (hb hbytes d26)
    have hh9 := q9.trans hh7
    have c10 : Steps p.tables e below (s₁.setTop (entryFrame m #[.ref x, .ref y] 3)) (T9.setTop (mkF m 30 #[.val (.ref x), .val (.ref y), .val (.ref y)] [.ref y, .int cd])) := (c8.trans (st9 _ (Steps.refl _))).trans (by
      refine XS.aloadN X9.here hexec rfl (hb hbytes d29) rfl rfl ?_
      exact Steps.refl _)
    obtain ⟨T11, X11, q11, st11⟩ := X9.hget hexec hown (wk W (.fieldLink "java/lang/String" 15 "java/lang/String" "coder" "B")) (hy.mv X9.warmed.alike hh9).2.2.1 (g := (mkF m 30 #[.val (.ref x), .val (.ref y), .val (.ref y)] [.ref y, .int cd])) rfl (rest := [.int cd]) rfl (hb hbytes d30)
    have hh11 := q11.trans hh9
    have c12 : Steps p.tables e below (s₁.setTop (entryFrame m #[.ref x, .ref y] 3)) (T11.setTop (mkF m 33 #[.val (.ref x), .val (.ref y), .val (.ref y)] [.int cd', .int cd])) := c10.trans (st11 _ (Steps.refl _))
    by_cases hcd : cd = cd'
    · subst hcd
      have c13 : Steps p.tables e below (s₁.setTop (entryFrame m #[.ref x, .ref y] 3)) (T11.setTop (mkF m 37 #[.val (.ref x), .val (.ref y), .val (.ref y)] [.ref x])) := c12.trans (by
        refine XS.icmpNo X11.here hexec rfl (hb hbytes d33) rfl (ii_ne_f rfl) ?_
        refine XS.aloadN X11.here hexec rfl (hb hbytes d36) rfl rfl ?_
        exact Steps.refl _)
      obtain ⟨T14, X14, q14, st14⟩ := X11.hget hexec hown (wk W (.fieldLink "java/lang/String" 9 "java/lang/String" "value" "[B")) (hx.mv X11.warmed.alike hh11).2.1 (g := (mkF m 37 #[.val (.ref x), .val (.ref y), .val (.ref y)] [.ref x])) rfl (rest := []) rfl (hb hbytes d37)
      have hh14 := q14.trans hh11
      have c15 : Steps p.tables e below (s₁.setTop (entryFrame m #[.ref x, .ref y] 3)) (T14.setTop (mkF m 41 #[.val (.ref x), .val (.ref y), .val (.ref y)] [.ref y, .ref t])) := (c13.trans (st14 _ (Steps.refl _))).trans (by
        refine XS.aloadN X14.here hexec rfl (hb hbytes d40) rfl rfl ?_
        exact Steps.refl _)
      obtain ⟨T16, X16, q16, st16⟩ := X14.hget hexec hown (wk W (.fieldLink "java/lang/String" 9 "java/lang/String" "value" "[B")) (hy.mv X14.warmed.alike hh14).2.1 (g := (mkF m 41 #[.val (.ref x), .val (.ref y), .val (.ref y)] [.ref y, .ref t])) rfl (rest := [.ref t]) rfl (hb hbytes d41)
      have hh16 := q16.trans hh14
      have c17 : Steps p.tables e below (s₁.setTop (entryFrame m #[.ref x, .ref y] 3)) (T16.setTop (mkF m 44 #[.val (.ref x), .val (.ref y), .val (.ref y)] [.ref t', .ref t])) := c15.trans (st16 _ (Steps.refl _))
      obtain ⟨v18, T18, X18, E18, g18⟩ := X16.callS hexec (LEq.law l t V t' V') hown (wks W (staticW "java/lang/String" 541 LEq.yN)) (wk W LEq.tab) (W := 0) (Nat.le_of_ble_eq_true rfl) (Nat.le_of_ble_eq_true rfl) (Nat.le_refl _) (Nat.le_refl _) (g := (mkF m 44 #[.val (.ref x), .val (.ref y), .val (.ref y)] [.ref t', .ref t])) rfl (by rw [hml]; rfl) c17 (argsL := [.ref t, .ref t']) (rest := []) rfl rfl (by show 2 * 0 + 0 ≤ _; decide) (hb hbytes d44) (⟨rfl, hx.2.2.2.1.mv X16.warmed.alike hh16, hx.2.2.2.2.1.ty, hy.2.2.2.1.mv X16.warmed.alike hh16, hy.2.2.2.2.1.ty⟩)
      obtain ⟨v, rfl, q18, hv⟩ := E18
      have iff := Cod.eqv hx.2.2.2.2.1 hy.2.2.2.2.1 hx.2.2.2.2.2 hy.2.2.2.2.2
      rcases hv with ⟨rfl, he⟩ | ⟨rfl, he⟩
      · have c19 : Steps p.tables e below (s₁.setTop (entryFrame m #[.ref x, .ref y] 3)) (T18.setTop (mkF m 55 #[.val (.ref x), .val (.ref y), .val (.ref y)] [.int 1])) := Steps.trans g18 (by
          refine XS.ifNo X18.here hexec rfl (hb hbytes d47) rfl (i0_eq_f (by decide)) ?_
          refine iconstV X18.here hexec rfl 1 (hb hbytes d50) (by decide) ?_
          refine XS.goto X18.here hexec rfl (pc0 := 51) rfl (hb hbytes d51) (by decide) rfl ?_
          exact Steps.refl _)
        exact ⟨T18, some (.int 1), _, _, _, X18, rfl, rfl, rfl, (fun h => by cases h), ⟨1, rfl, q18.trans hh16, Or.inl ⟨rfl, iff.mp he⟩⟩, fun fs hl => c19.trans (X18.ireturnOut hexec hret rfl (Or.inr (Or.inl rfl)) (hb hbytes d55) hl)⟩
      · have c19 : Steps p.tables e below (s₁.setTop (entryFrame m #[.ref x, .ref y] 3)) (T18.setTop (mkF m 55 #[.val (.ref x), .val (.ref y), .val (.ref y)] [.int 0])) := Steps.trans g18 (by
          refine XS.ifYes X18.here hexec rfl (pc0 := 47) rfl (hb hbytes d47) rfl (i0_eq_t rfl) (by decide) rfl ?_
          refine iconstV X18.here hexec rfl 0 (hb hbytes d54) (by decide) ?_
          exact Steps.refl _)
        exact ⟨T18, some (.int 0), _, _, _, X18, rfl, rfl, rfl, (fun h => by cases h), ⟨0, rfl, q18.trans hh16, Or.inr ⟨rfl, fun q => he (iff.mpr q)⟩⟩, fun fs hl => c19.trans (X18.ireturnOut hexec hret rfl (Or.inr (Or.inl rfl)) (hb hbytes d55) hl)⟩
    · have c13 : Steps p.tables e below (s₁.setTop (entryFrame m #[.ref x, .ref y] 3)) (T11.setTop (mkF m 55 #[.val (.ref x), .val (.ref y), .val (.ref y)] [.int 0])) := c12.trans (by
        refine XS.icmpYes X11.here hexec rfl (pc0 := 33) rfl (hb hbytes d33) rfl (ii_ne_t hcd) (by decide) rfl ?_
        refine iconstV X11.here hexec rfl 0 (hb hbytes d54) (by decide) ?_
        exact Steps.refl _)
      exact ⟨T11, some (.int 0), _, _, _, X11, rfl, rfl, rfl, (fun h => by cases h), ⟨0, rfl, hh11, Or.inr ⟨rfl, Cod.dif hx.2.2.2.2.1 hy.2.2.2.2.1 hcd⟩⟩, fun fs hl => c13.trans (X11.ireturnOut hexec hret rfl (Or.inr (Or.inl rfl)) (hb hbytes d55) hl)⟩
theorem pays {l : Launch} {R : Room} {p : Program} {e : Env} {below : List Frame} {s : State} {sargs : Array Value} {len W : Nat} (x t : Addr) (V : Cell) (cd : Int32) (n : Nat) (f : Nat → Int32) (y t' : Addr) (V' : Cell) (cd' : Int32) (k : Nat) (g : Nat → Int32) (z : Int32) (htab : tab.before sargs s = true) (hfr : 2 ≤ R.frames) (hlo : W + 28 ≤ R.locals) :
    Back l R p e below s sargs yN len W (fun A₁ a₁ => A₁.cells + 0 ≤ R.cells ∧ A₁.slots + 0 ≤ R.slots ∧ P x t V cd n f y t' V' cd' k g z a₁ A₁.U) (fun A₁ _ v₁ B₁ => Says01 (SameT n f k g) v₁ A₁.U B₁.U ∧ B₁.locs = A₁.locs ++ [] ∧ B₁.cells = A₁.cells + 0 ∧ B₁.slots = A₁.slots + 0) :=
  (law l x t V cd n f y t' V' cd' k g z).pays htab hfr (by omega)
end SEq
end StrChars
namespace StrChars.Road
open Jvm Sem ClassFile Op Lib Jvm.Stand Jvm.Free Jvm.Free.XT
open Jvm.Lib.Cold (StaticIs)
/-- the words of String.equals(Object) -/
abbrev wordsEq : List Jvm.Cond := [.code SEq.yN SEq.yB 3 (some .boolean), .initialized ST, .classLink ST 10 ST, .fieldLink ST 38 ST "COMPACT_STRINGS" "Z", .fieldLink ST 15 ST "coder" "B", .fieldLink ST 9 ST "value" "[B", .methodLink ST 541 LEq.yN, .static LEq.yN, .code LEq.yN LEq.yB 3 (some .boolean), .initialized "java/lang/StringLatin1"]
theorem tabEq_of {a : Array Value} {s : State} (h : ∀ w ∈ wordsEq, w.before a s = true) : SEq.tab.before a s = true := by
  have hl : LEq.tab.before a s = true := unparts (wk h (.code LEq.yN LEq.yB 3 (some .boolean))) (wks h (.initialized LEq.yN.cls :: LEq.site))
  have q := consq hl h
  exact unparts (wk q (.code SEq.yN SEq.yB 3 (some .boolean))) (wks q (.initialized SEq.yN.cls :: SEq.site))
theorem movedEq {Z s : State} {a0 args : Array Value} (hZ : Z.Warmed39 s.vm) (hw : ∀ d ∈ wordsEq, d.before a0 Z = true) : ∀ d ∈ wordsEq, d.before args s = true := fun d hd => by
  have t : ∀ d ∈ wordsEq, (d.onTables && d.keepsFace) = true := by decide +kernel
  exact RoadKit.mv hZ (hw d hd) (t d hd)
/-- the road's facts of a String, as the laws ask it -/
theorem txt_of {Z U : State} {a0 : Array Value} {kI : Nat} (wi : (Jvm.Cond.instantiable ST kI).before a0 Z = true) (al : Z.vm.Alike U.vm) {x t : Addr} {kb : ClassId} {cs : List Int32} {cd N2 : Int32} {vs : List Value} (E : RoadKit.Exa Z U.heap x ST) (V : RoadKit.Fld Z U.heap x ST "value" "[B" (.ref t)) (C : RoadKit.Fld Z U.heap x ST "coder" "B" (.int cd)) (K : RoadKit.Arv Z U.heap t kb .byte N2 vs (.int 0)) (hc : CodA cs cd N2 vs) (hb : ∀ c ∈ cs, ¬ c < 0 ∧ ¬ (65535 : Int32) < c) (l2 : cs.length ≤ 4000) :
    ∃ A, Txt x t A cd cs.length (fun j => cs.getD j 0) U := by
  obtain ⟨A, K1, K2, K3, K4, K5, K6⟩ := K
  have hcod := hc.cod (by omega) K3 K5
  obtain ⟨D, fV, fC, hB, F1, F2, g1, g2, -, -⟩ := strObj wi al E V C
  exact ⟨A, ⟨_, hB.2.2.1, D, hB.1, rfl, by cases q : D.vm <;> first | rfl | exact absurd q (hB.2.1.2 _)⟩, Has.of hB F1 g1, Has.of hB F2 g2, ⟨K1.1, State.isArrayOf_alike al K1.2.1, K1.2.2, by rcases hcod with ⟨-, q, -⟩ | ⟨-, q, -⟩ <;> omega⟩, hcod, fun j hj => by
    have e : cs.getD j 0 = cs[j] := by simp [List.getD_eq_getElem?_getD, hj]
    show ¬ cs.getD j 0 < 0 ∧ ¬ 65535 < cs.getD j 0
    rw [e]; exact hb _ (List.getElem_mem _)⟩
theorem same_list (cs ds : List Int32) : SameT cs.length (fun j => cs.getD j 0) ds.length (fun j => ds.getD j 0) ↔ cs = ds := by
  constructor
  · rintro ⟨e, q⟩
    refine List.ext_getElem e fun j h1 h2 => ?_
    have := q j h1
    simpa [List.getD_eq_getElem?_getD, h1, h2] using this
  · rintro rfl
    exact ⟨rfl, fun _ _ => rfl⟩
/-- **equals(Object) OF TWO SUCH STRINGS**: 1 just where the chars are the same -/
theorem eqW {p : Program} {l : Launch} {e : Env} {R : Room} {s : State} {args : Array Value} {below : List Frame} {len W : Nat} {Z : State} {a0 : Array Value} {h : Heap} (hZ : Z.Warmed39 s.vm) (hw : ∀ d ∈ wordsEq, d.before a0 Z = true) {kI : Nat} (wi : (Jvm.Cond.instantiable ST kI).before a0 Z = true)
    {x t : Addr} {kb : ClassId} {cs : List Int32} {cd N2 : Int32} {vs : List Value} (E : RoadKit.Exa Z h x ST) (V : RoadKit.Fld Z h x ST "value" "[B" (.ref t)) (C : RoadKit.Fld Z h x ST "coder" "B" (.int cd)) (K : RoadKit.Arv Z h t kb .byte N2 vs (.int 0)) (hc : CodA cs cd N2 vs) (hb : ∀ c ∈ cs, ¬ c < 0 ∧ ¬ (65535 : Int32) < c) (l2 : cs.length ≤ 4000)
    {y t' : Addr} {kb' : ClassId} {ds : List Int32} {cd' N2' : Int32} {vs' : List Value} (E' : RoadKit.Exa Z h y ST) (V' : RoadKit.Fld Z h y ST "value" "[B" (.ref t')) (C' : RoadKit.Fld Z h y ST "coder" "B" (.int cd')) (K' : RoadKit.Arv Z h t' kb' .byte N2' vs' (.int 0)) (hc' : CodA ds cd' N2' vs') (hb' : ∀ c ∈ ds, ¬ c < 0 ∧ ¬ (65535 : Int32) < c) (l2' : ds.length ≤ 4000)
    {z : Int32} (S : RoadKit.Sta Z h ST "COMPACT_STRINGS" "Z" (.int z)) (hz : ¬ z = 0) (hfr : 2 ≤ R.frames) (hlo : W + 28 ≤ R.locals) :
    Back l R p e below s args (⟨"java/lang/String", "equals", "(Ljava/lang/Object;)Z"⟩ : MethodName) len W (fun P a => a = #[.ref x, .ref y] ∧ P.U.heap = h ∧ P.cells + 0 ≤ R.cells ∧ P.slots + 0 ≤ R.slots)
      (fun P _ v B => ∃ L, (((v = some (.int 1) ∧ cs = ds) ∨ (v = some (.int 0) ∧ ¬ cs = ds)) ∧ L = [] ∧ B.U.heap = h) ∧ B.locs = P.locs ++ L ∧ B.cells = P.cells + 0 ∧ B.slots = P.slots + 0) := by
  intro m meth c P g ig mk a X hg hsize hdg hW hn hp'
  obtain ⟨rfl, rfl, r1, r2⟩ := hp'
  have al : Z.vm.Alike P.U.vm := hZ.alike.trans X.warmed.alike
  obtain ⟨A, hx⟩ := txt_of wi al E V C K hc hb l2
  obtain ⟨A', hy⟩ := txt_of wi al E' V' C' K' hc' hb' l2'
  obtain ⟨v, B, X', ⟨⟨w, hv, hh, hq⟩, hl, hk, hs⟩, st⟩ := SEq.pays x t A cd cs.length (fun j => cs.getD j 0) y t' A' cd' ds.length (fun j => ds.getD j 0) z (tabEq_of (movedEq hZ hw)) hfr hlo m meth c P g ig mk _ X hg hsize hdg hW hn ⟨r1, r2, rfl, hx, hy, sta_is al S, hz⟩
  refine ⟨v, B, X', ⟨[], ⟨?_, rfl, hh⟩, hl, hk, hs⟩, st⟩
  rcases hq with ⟨rfl, q⟩ | ⟨rfl, q⟩
  · exact Or.inl ⟨hv, (same_list cs ds).mp q⟩
  · exact Or.inr ⟨hv, fun e => q ((same_list cs ds).mpr e)⟩
end StrChars.Road
namespace StrChars.Road
open Jvm Sem ClassFile Op Lib Jvm.Stand Jvm.Free Jvm.Free.XT
open Jvm.Lib.Cold (StaticIs)
/-- what backV says of its String, as the contracts of this text ask it: cs's low bytes, coder 0 -/
theorem codOf {cs : List Int32} {n : Nat} (hn : cs.length = n) (hb : ∀ c ∈ cs, ¬ 255 < c) : CodA cs 0 (Int32.ofNat n) ((cs.map lo8).map Value.int) := Or.inl ⟨rfl, by rw [hn], by simp [List.map_map, Function.comp_def], hb⟩
end StrChars.Road
end Jvm.Pilot.@@N@@


namespace Jvm.OwnKit
open Jvm Sem ClassFile Op Lib Jvm.Stand Jvm.Free Jvm.LawKit Jvm.RoadKit
section Own
variable {p : Program} {l : Launch} {e : Env} {R : Room} {s : State} {m : MethodId} {args : Array Value} {below : List Frame} {meth : Method} {c : Code} {T : State} {locs : List Loc} {cells slots : Nat} {Z : State} {a0 : Array Value} {h h' : Heap}
/-- the walk from A on comes to an end that says Q -/
def Goes (tb : Tables) (e : Env) (below : List Frame) (Q : State → Outcome → Prop) (A : State) : Prop := ∃ t o, Steps tb e below A t ∧ t.status = .running ∧ Ended t below o ∧ Q t o
theorem Goes.via {tb : Tables} {Q : State → Outcome → Prop} {A B : State} (st : ∀ t, Steps tb e below B t → Steps tb e below A t) (k : Goes tb e below Q B) : Goes tb e below Q A := by
  obtain ⟨t, o, h, r⟩ := k; exact ⟨t, o, st t h, r⟩
/-- what a contract says at one start: the arguments as', the heap h -/
abbrev Ctr (l : Launch) (Z : State) (y : MethodName) (bytes : ByteArray) (maxL : Nat) (ret : Option FieldType) (rm : Room) (as' : Array Value) (h : Heap) (Q : Option Value → Heap → List Loc → Prop) (ws : List Cond) : Prop :=
  MetFree l y (head1 (Cond.code y bytes maxL ret :: ws) rm) (fun a U => a = as' ∧ Z.Warmed39 U.vm ∧ U.heap = h) (fun _ _ _ _ _ => True) (fun _ U o U' => ∃ v L, o = .returned v ∧ Q v U'.heap L ∧ FrameEnd U o U' L rm.cells rm.slots)
/-- the leave of a walk, in either frame F -/
def Lv (F : State → Outcome → State → List Loc → Nat → Nat → Prop) (e : Env) (s : State) (m : MethodId) (below : List Frame) (meth : Method) (T : State) (locs : List Loc) (C S : Nat) : Prop :=
  ∀ v : Option Value, (meth.sig.returnType = none → v = none) → ∃ fs, (∀ (f : JFrame) (acts : List Action), f.method = m → f.locked = none → f.entered = [] → (doReturn e (T.setTop f) acts v).1 = T.setFrames fs) ∧ (T.setFrames fs).status = .running ∧ Ended (T.setFrames fs) below (.returned v) ∧ F s (.returned v) (T.setFrames fs) locs C S
theorem lvN (X : Stand p l e R s m args below meth c T locs cells slots) (hlocks : meth.locks = false) {C S : Nat} (hc : cells ≤ C) (hs : slots ≤ S) : Lv FrameEnd e s m below meth T locs C S := fun v hv => by
  obtain ⟨fs, hr, hrun, hended, hW, hsame⟩ := X.leave hv hlocks
  exact ⟨fs, hr, hrun, hended, ⟨_, rfl⟩, hW, hsame.mono hc hs⟩
theorem fin {F : State → Outcome → State → List Loc → Nat → Nat → Prop} {v : Option Value} (hv : meth.sig.returnType = none → v = none) {A : State}
    (hk : ∀ fs, (∀ (f : JFrame) (acts : List Action), f.method = m → f.locked = none → f.entered = [] → (doReturn e (T.setTop f) acts v).1 = T.setFrames fs) → Steps p.tables e below A (T.setFrames fs))
    {Q : Option Value → Heap → List Loc → Prop} {C S : Nat} (eT : T.heap = h) (hQ : Q v h locs) (lv : Lv F e s m below meth T locs C S) :
    Goes p.tables e below (fun t o => ∃ v L, o = .returned v ∧ Q v t.heap L ∧ F s o t L C S) A := by
  obtain ⟨fs, hr, hrun, hended, hF⟩ := lv v hv
  subst eT
  exact ⟨_, _, hk fs hr, hrun, hended, v, locs, rfl, hQ, hF⟩
variable {sb : State} {F : State → Outcome → State → List Loc → Nat → Nat → Prop}
/-- return of nothing -/
theorem fin0 (X : Stand p l e R sb m args below meth c T locs cells slots) (hx : p.tables.exec = Jvm.exec) (hret : meth.sig.returnType = none) {pc : Nat} {Ls : Array Slot} (hd : decode c.code pc = .ok (.return_, 1))
    {Q : Option Value → Heap → List Loc → Prop} {C S : Nat} (eT : T.heap = h) (hQ : Q none h locs) (lv : Lv F e s m below meth T locs C S) :
    Goes p.tables e below (fun t o => ∃ v L, o = .returned v ∧ Q v t.heap L ∧ F s o t L C S) (T.setTop (mkF m pc Ls [])) :=
  fin (fun _ => rfl) (fun _ hl => X.returnOut hx hret hd hl) eT hQ lv
theorem finN (X : Stand p l e R sb m args below meth c T locs cells slots) (hx : p.tables.exec = Jvm.exec) {t : FieldType} (hret : meth.sig.returnType = some t) (ht : t = .boolean ∨ t = .byte ∨ t = .char ∨ t = .short) {pc : Nat} {Ls : Array Slot} {st : List Value} {z z' : Int32} (hz : nar t z = z') (hd : decode c.code pc = .ok (.ireturn, 1))
    {Q : Option Value → Heap → List Loc → Prop} {C S : Nat} (eT : T.heap = h) (hQ : Q (some (.int z')) h locs) (lv : Lv F e s m below meth T locs C S) :
    Goes p.tables e below (fun t o => ∃ v L, o = .returned v ∧ Q v t.heap L ∧ F s o t L C S) (T.setTop (mkF m pc Ls (.int z :: st))) :=
  fin (fun q => by rw [hret] at q; cases q) (fun _ hl => by subst hz; exact retN X hx hret ht hd hl) eT hQ lv
theorem finA (X : Stand p l e R sb m args below meth c T locs cells slots) (hx : p.tables.exec = Jvm.exec) {t : FieldType} (hret : meth.sig.returnType = some t) (ht : t.isReference = true) {pc : Nat} {Ls : Array Slot} {st : List Value} {w : Value} (hw : w.isRef = true) (hn : narrow t w = w) (hd : decode c.code pc = .ok (.areturn, 1))
    {Q : Option Value → Heap → List Loc → Prop} {C S : Nat} (eT : T.heap = h) (hQ : Q (some w) h locs) (lv : Lv F e s m below meth T locs C S) :
    Goes p.tables e below (fun t o => ∃ v L, o = .returned v ∧ Q v t.heap L ∧ F s o t L C S) (T.setTop (mkF m pc Ls (w :: st))) :=
  fin (fun q => by rw [hret] at q; cases q) (fun _ hl => retOut X hx hret hn (Or.inr (Or.inr (Or.inr (Or.inr ⟨rfl, ht, hw⟩)))) hd hl) eT hQ lv
theorem old_le {n0 : Nat} (O : Old Z n0 h) : n0 ≤ h.size := O.1 ▸ O.2.1
/-- a callee's law, in the one shape -/
abbrev BackQ (l : Launch) (R : Room) (p : Program) (e : Env) (below : List Frame) (s : State) (args : Array Value) (y : MethodName) (W : Nat) (as' : Array Value) (h : Heap) (kc ks : Nat) (Q : Option Value → Heap → List Loc → Prop) : Prop :=
  Back l R p e below s args y 3 W (fun A a => a = as' ∧ A.U.heap = h ∧ A.cells + kc ≤ R.cells ∧ A.slots + ks ≤ R.slots) (fun A _ v B => ∃ L, Q v B.U.heap L ∧ B.locs = A.locs ++ L ∧ B.cells = A.cells + kc ∧ B.slots = A.slots + ks)
theorem callStaticB (X : Stand p l e R s m args below meth c T locs cells slots) (hx : p.tables.exec = Jvm.exec) (hZ : Z.Warmed39 s.vm) {own : String} {index : Nat} {y : MethodName} {bytes : ByteArray} {maxL : Nat} {ret : Option FieldType} {kc ks : Nat} {Q : Option Value → Heap → List Loc → Prop}
    (hown : s.vm.findClass own = some m.cls) (w1 : (Cond.methodLink own index y).before a0 Z = true) (w2 : (Cond.static y).before a0 Z = true) (w3 : (Cond.initialized y.cls).before a0 Z = true) (w4 : (Cond.code y bytes maxL ret).before a0 Z = true)
    (hy : y.cls ≠ "java/lang/invoke/MethodHandle" ∧ y.cls ≠ "java/lang/invoke/VarHandle") {argsL rest : List Value} {W : Nat} (hK : BackQ l R p e below s args y W argsL.toArray h kc ks Q) (eT : T.heap = h)
    (hlen : ∀ sig, parseMethodDescriptor y.desc = some sig → argsL.length = sig.parameters.length) {pc : Nat} {Ls : Array Slot} {st : List Value} (hst : st = argsL.reverse ++ rest) (hsz : Ls.size = c.maxLocals) (hd : decode c.code pc = .ok (.invokestatic index, 3))
    (hW : (rest.map fun v => v.category).sum ≤ W) (hce : cells + kc ≤ R.cells) (hsl : slots + ks ≤ R.slots) :
    ∃ v T' L, Stand p l e R s m args below meth c T' (locs ++ L) (cells + kc) (slots + ks) ∧ Q v T'.heap L ∧ ∀ t, Steps p.tables e below (T'.setTop (mkF m (pc + 3) Ls (v.toList ++ rest))) t → Steps p.tables e below (T.setTop (mkF m pc Ls st)) t := by
  obtain ⟨v, _, ⟨T', L', k', n'⟩, -, X', ⟨L, hQ, l1, l2, l3⟩, st'⟩ := Jvm.LawKit.callS X hx hown (mvT hZ w1) (mvT hZ w2) (mvT hZ w3) (mvT hZ w4) hy hK (g := mkF m pc Ls st) rfl hsz (argsL := argsL) (rest := rest) hlen hst (by show 2 * 0 + _ ≤ _; omega) hd (fun _ _ => ⟨rfl, eT, hce, hsl⟩)
  dsimp only [Pt.U, Pt.locs, Pt.cells, Pt.slots] at X' l1 l2 l3 st' hQ
  subst l1 l2 l3
  exact ⟨v, T', L, X', hQ, st'⟩
theorem callStatic (X : Stand p l e R s m args below meth c T locs cells slots) (hx : p.tables.exec = Jvm.exec) (hZ : Z.Warmed39 s.vm) {own : String} {index : Nat} {y : MethodName} {bytes : ByteArray} {maxL : Nat} {ret : Option FieldType} {rm : Room} {Q : Option Value → Heap → List Loc → Prop}
    (hown : s.vm.findClass own = some m.cls) (w1 : (Cond.methodLink own index y).before a0 Z = true) (w2 : (Cond.static y).before a0 Z = true) (w3 : (Cond.initialized y.cls).before a0 Z = true) (w4 : (Cond.code y bytes maxL ret).before a0 Z = true)
    (hy : y.cls ≠ "java/lang/invoke/MethodHandle" ∧ y.cls ≠ "java/lang/invoke/VarHandle") {argsL rest : List Value} (hM : Ctr l Z y bytes maxL ret rm argsL.toArray h Q []) (eT : T.heap = h)
    (hlen : ∀ sig, parseMethodDescriptor y.desc = some sig → argsL.length = sig.parameters.length) {pc W : Nat} {Ls : Array Slot} {st : List Value} (hst : st = argsL.reverse ++ rest) (hsz : Ls.size = c.maxLocals) (hd : decode c.code pc = .ok (.invokestatic index, 3))
    (hW : (rest.map fun v => v.category).sum ≤ W) (hfr : rm.frames + 1 ≤ R.frames) (hlo : W + (maxL + 11) + rm.locals ≤ R.locals) (hce : cells + rm.cells ≤ R.cells) (hsl : slots + rm.slots ≤ R.slots) :
    ∃ v T' L, Stand p l e R s m args below meth c T' (locs ++ L) (cells + rm.cells) (slots + rm.slots) ∧ Q v T'.heap L ∧ ∀ t, Steps p.tables e below (T'.setTop (mkF m (pc + 3) Ls (v.toList ++ rest))) t → Steps p.tables e below (T.setTop (mkF m pc Ls st)) t :=
  callStaticB X hx hZ hown w1 w2 w3 w4 hy (backOf (W := W) hM hZ w4 w3 hfr hlo) eT hlen hst hsz hd hW hce hsl
theorem callInitB (X : Stand p l e R s m args below meth c T locs cells slots) (hx : p.tables.exec = Jvm.exec) (hZ : Z.Warmed39 s.vm) {own : String} {index : Nat} {y : MethodName} {bytes : ByteArray} {maxL : Nat} {kc ks : Nat} {Q : Option Value → Heap → List Loc → Prop} (hy1 : y.name = "<init>")
    (hown : s.vm.findClass own = some m.cls) (w1 : (Cond.methodLink own index y).before a0 Z = true) (w2 : (Cond.instanceMethod y).before a0 Z = true) (w4 : (Cond.code y bytes maxL none).before a0 Z = true)
    (hy : y.cls ≠ "java/lang/invoke/MethodHandle" ∧ y.cls ≠ "java/lang/invoke/VarHandle") {a : Addr} {argsL rest : List Value} {W : Nat} (hK : BackQ l R p e below s args y W (.ref a :: argsL).toArray h kc ks Q) (eT : T.heap = h)
    (hlen : ∀ sig, parseMethodDescriptor y.desc = some sig → argsL.length = sig.parameters.length) {pc : Nat} {Ls : Array Slot} {st : List Value} (hst : st = argsL.reverse ++ .ref a :: rest) (hsz : Ls.size = c.maxLocals) (hd : decode c.code pc = .ok (.invokespecial index, 3))
    (hW : (rest.map fun v => v.category).sum ≤ W) (hce : cells + kc ≤ R.cells) (hsl : slots + ks ≤ R.slots) :
    ∃ v T' L, Stand p l e R s m args below meth c T' (locs ++ L) (cells + kc) (slots + ks) ∧ Q v T'.heap L ∧ ∀ t, Steps p.tables e below (T'.setTop (mkF m (pc + 3) Ls (v.toList ++ rest))) t → Steps p.tables e below (T.setTop (mkF m pc Ls st)) t := by
  obtain ⟨v, _, ⟨T', L', k', n'⟩, -, X', ⟨L, hQ, l1, l2, l3⟩, st'⟩ := X.specialBack hx hy1 hown (mvT hZ w1) (mvT hZ w2) (mvT hZ w4) hy hK (g := mkF m pc Ls st) rfl hsz (Steps.refl _) (a := a) (argsL := argsL) (rest := rest) hlen hst (by show 2 * 0 + _ ≤ _; omega) hd (fun _ _ => ⟨rfl, eT, hce, hsl⟩)
  dsimp only [Pt.U, Pt.locs, Pt.cells, Pt.slots] at X' l1 l2 l3 st' hQ
  subst l1 l2 l3
  exact ⟨v, T', L, X', hQ, fun t k => st'.trans k⟩
theorem callInit (X : Stand p l e R s m args below meth c T locs cells slots) (hx : p.tables.exec = Jvm.exec) (hZ : Z.Warmed39 s.vm) {own : String} {index : Nat} {y : MethodName} {bytes : ByteArray} {maxL : Nat} {rm : Room} {Q : Option Value → Heap → List Loc → Prop} (hy1 : y.name = "<init>")
    (hown : s.vm.findClass own = some m.cls) (w1 : (Cond.methodLink own index y).before a0 Z = true) (w2 : (Cond.instanceMethod y).before a0 Z = true) (w3 : (Cond.initialized y.cls).before a0 Z = true) (w4 : (Cond.code y bytes maxL none).before a0 Z = true)
    (hy : y.cls ≠ "java/lang/invoke/MethodHandle" ∧ y.cls ≠ "java/lang/invoke/VarHandle") {a : Addr} {argsL rest : List Value} (hM : Ctr l Z y bytes maxL none rm (.ref a :: argsL).toArray h Q []) (eT : T.heap = h)
    (hlen : ∀ sig, parseMethodDescriptor y.desc = some sig → argsL.length = sig.parameters.length) {pc W : Nat} {Ls : Array Slot} {st : List Value} (hst : st = argsL.reverse ++ .ref a :: rest) (hsz : Ls.size = c.maxLocals) (hd : decode c.code pc = .ok (.invokespecial index, 3))
    (hW : (rest.map fun v => v.category).sum ≤ W) (hfr : rm.frames + 1 ≤ R.frames) (hlo : W + (maxL + 11) + rm.locals ≤ R.locals) (hce : cells + rm.cells ≤ R.cells) (hsl : slots + rm.slots ≤ R.slots) :
    ∃ v T' L, Stand p l e R s m args below meth c T' (locs ++ L) (cells + rm.cells) (slots + rm.slots) ∧ Q v T'.heap L ∧ ∀ t, Steps p.tables e below (T'.setTop (mkF m (pc + 3) Ls (v.toList ++ rest))) t → Steps p.tables e below (T.setTop (mkF m pc Ls st)) t :=
  callInitB X hx hZ hy1 hown w1 w2 w4 hy (backOf (W := W) hM hZ w4 w3 hfr hlo) eT hlen hst hsz hd hW hce hsl
theorem callVirtB (X : Stand p l e R s m args below meth c T locs cells slots) (hx : p.tables.exec = Jvm.exec) (hZ : Z.Warmed39 s.vm) {own C : String} {index : Nat} {y z : MethodName} {kc ks : Nat} {Q : Option Value → Heap → List Loc → Prop}
    (hown : s.vm.findClass own = some m.cls) (w1 : (Cond.methodLink own index y).before a0 Z = true) (w2 : (Cond.declares y).before a0 Z = true) (w5 : (Cond.selects C y z).before a0 Z = true) (hnf : NotFace s y) (w6 : (Cond.instanceMethod z).before a0 Z = true)
    (hy : y.cls ≠ "java/lang/invoke/MethodHandle" ∧ y.cls ≠ "java/lang/invoke/VarHandle") {a : Addr} {argsL rest : List Value} {W : Nat} (hK : BackQ l R p e below s args z W (.ref a :: argsL).toArray h kc ks Q) (eT : T.heap = h) (E : Exa Z h a C)
    (hlen : ∀ sig, parseMethodDescriptor y.desc = some sig → argsL.length = sig.parameters.length) {pc : Nat} {Ls : Array Slot} {st : List Value} (hst : st = argsL.reverse ++ .ref a :: rest) (hsz : Ls.size = c.maxLocals) (hd : decode c.code pc = .ok (.invokevirtual index, 3))
    (hW : (rest.map fun v => v.category).sum ≤ W) (hce : cells + kc ≤ R.cells) (hsl : slots + ks ≤ R.slots) :
    ∃ v T' L, Stand p l e R s m args below meth c T' (locs ++ L) (cells + kc) (slots + ks) ∧ Q v T'.heap L ∧ ∀ t, Steps p.tables e below (T'.setTop (mkF m (pc + 3) Ls (v.toList ++ rest))) t → Steps p.tables e below (T.setTop (mkF m pc Ls st)) t := by
  obtain ⟨cB, kB, q1, -, q3⟩ := isOf hZ eT E
  obtain ⟨v, _, ⟨T', L', k', n'⟩, -, X', ⟨L, hQ, l1, l2, l3⟩, st'⟩ := X.virtualBack hx hown (mvT hZ w1) (mvT hZ w2) hnf (mvT hZ w5) (mvT hZ w6) hy hK q1 q3 (g := mkF m pc Ls st) rfl hsz (Steps.refl _) (argsL := argsL) (rest := rest) hlen hst (by show 2 * 0 + _ ≤ _; omega) hd (fun _ _ => ⟨rfl, eT, hce, hsl⟩)
  dsimp only [Pt.U, Pt.locs, Pt.cells, Pt.slots] at X' l1 l2 l3 st' hQ
  subst l1 l2 l3
  exact ⟨v, T', L, X', hQ, fun t k => st'.trans k⟩
theorem callVirt (X : Stand p l e R s m args below meth c T locs cells slots) (hx : p.tables.exec = Jvm.exec) (hZ : Z.Warmed39 s.vm) {own C : String} {index : Nat} {y z : MethodName} {bytes : ByteArray} {maxL : Nat} {ret : Option FieldType} {rm : Room} {Q : Option Value → Heap → List Loc → Prop}
    (hown : s.vm.findClass own = some m.cls) (w1 : (Cond.methodLink own index y).before a0 Z = true) (w2 : (Cond.declares y).before a0 Z = true) (w5 : (Cond.selects C y z).before a0 Z = true) (hnf : NotFace s y) (w6 : (Cond.instanceMethod z).before a0 Z = true) (w3 : (Cond.initialized z.cls).before a0 Z = true) (w4 : (Cond.code z bytes maxL ret).before a0 Z = true)
    (hy : y.cls ≠ "java/lang/invoke/MethodHandle" ∧ y.cls ≠ "java/lang/invoke/VarHandle") {a : Addr} {argsL rest : List Value} (hM : Ctr l Z z bytes maxL ret rm (.ref a :: argsL).toArray h Q []) (eT : T.heap = h) (E : Exa Z h a C)
    (hlen : ∀ sig, parseMethodDescriptor y.desc = some sig → argsL.length = sig.parameters.length) {pc W : Nat} {Ls : Array Slot} {st : List Value} (hst : st = argsL.reverse ++ .ref a :: rest) (hsz : Ls.size = c.maxLocals) (hd : decode c.code pc = .ok (.invokevirtual index, 3))
    (hW : (rest.map fun v => v.category).sum ≤ W) (hfr : rm.frames + 1 ≤ R.frames) (hlo : W + (maxL + 11) + rm.locals ≤ R.locals) (hce : cells + rm.cells ≤ R.cells) (hsl : slots + rm.slots ≤ R.slots) :
    ∃ v T' L, Stand p l e R s m args below meth c T' (locs ++ L) (cells + rm.cells) (slots + rm.slots) ∧ Q v T'.heap L ∧ ∀ t, Steps p.tables e below (T'.setTop (mkF m (pc + 3) Ls (v.toList ++ rest))) t → Steps p.tables e below (T.setTop (mkF m pc Ls st)) t :=
  callVirtB X hx hZ hown w1 w2 w5 hnf w6 hy (backOf (W := W) hM hZ w4 w3 hfr hlo) eT E hlen hst hsz hd hW hce hsl
abbrev BackQ5 (l : Launch) (R : Room) (p : Program) (e : Env) (below : List Frame) (s : State) (args : Array Value) (y : MethodName) (W : Nat) (as' : Array Value) (h : Heap) (kc ks : Nat) (Q : Option Value → Heap → List Loc → Prop) : Prop :=
  Back l R p e below s args y 5 W (fun A a => a = as' ∧ A.U.heap = h ∧ A.cells + kc ≤ R.cells ∧ A.slots + ks ≤ R.slots) (fun A _ v B => ∃ L, Q v B.U.heap L ∧ B.locs = A.locs ++ L ∧ B.cells = A.cells + kc ∧ B.slots = A.slots + ks)
theorem callFaceB (X : Stand p l e R s m args below meth c T locs cells slots) (hx : p.tables.exec = Jvm.exec) (hZ : Z.Warmed39 s.vm) {own C : String} {index count : Nat} {y z : MethodName} {kc ks : Nat} {Q : Option Value → Heap → List Loc → Prop}
    (hown : s.vm.findClass own = some m.cls) (w1 : (Cond.methodLink own index y).before a0 Z = true) (w2 : (Cond.declares y).before a0 Z = true) (w3 : (Cond.interfaceMethod y.cls y.cls y.name y.desc).before args s = true) (w5 : (Cond.selects C y z).before a0 Z = true) (w6 : (Cond.instanceMethod z).before a0 Z = true)
    (w7 : (Cond.publicMethod z).before a0 Z = true) (w8 : (Cond.unhidden C y.name y.desc).before a0 Z = true) (w9 : (Cond.castable C y.cls).before a0 Z = true)
    (hy : y.cls ≠ "java/lang/invoke/MethodHandle" ∧ y.cls ≠ "java/lang/invoke/VarHandle") {a : Addr} {argsL rest : List Value} {W : Nat} (hK : BackQ5 l R p e below s args z W (.ref a :: argsL).toArray h kc ks Q) (eT : T.heap = h) (E : Exa Z h a C)
    (hlen : ∀ sig, parseMethodDescriptor y.desc = some sig → argsL.length = sig.parameters.length) {pc : Nat} {Ls : Array Slot} {st : List Value} (hst : st = argsL.reverse ++ .ref a :: rest) (hsz : Ls.size = c.maxLocals) (hd : decode c.code pc = .ok (.invokeinterface index count, 5))
    (hW : (rest.map fun v => v.category).sum ≤ W) (hce : cells + kc ≤ R.cells) (hsl : slots + ks ≤ R.slots) :
    ∃ v T' L, Stand p l e R s m args below meth c T' (locs ++ L) (cells + kc) (slots + ks) ∧ Q v T'.heap L ∧ ∀ t, Steps p.tables e below (T'.setTop (mkF m (pc + 5) Ls (v.toList ++ rest))) t → Steps p.tables e below (T.setTop (mkF m pc Ls st)) t := by
  obtain ⟨cB, kB, q1, q2, q3⟩ := isOf hZ eT E
  obtain ⟨v, _, ⟨T', L', k', n'⟩, -, X', ⟨L, hQ, l1, l2, l3⟩, st'⟩ := X.interfaceBack hx hown (mvT hZ w1) (mvT hZ w2) w3 (mvT hZ w5) (mvT hZ w6) (mvT hZ w7) (mvT hZ w8) (mvT hZ w9) hy hK q1 q2 q3 (g := mkF m pc Ls st) rfl hsz (Steps.refl _) (argsL := argsL) (rest := rest) hlen hst (by show 2 * 0 + _ ≤ _; omega) hd (fun _ _ => ⟨rfl, eT, hce, hsl⟩)
  dsimp only [Pt.U, Pt.locs, Pt.cells, Pt.slots] at X' l1 l2 l3 st' hQ
  subst l1 l2 l3
  exact ⟨v, T', L, X', hQ, fun t k => st'.trans k⟩
theorem callFace (X : Stand p l e R s m args below meth c T locs cells slots) (hx : p.tables.exec = Jvm.exec) (hZ : Z.Warmed39 s.vm) {own C : String} {index count : Nat} {y z : MethodName} {bytes : ByteArray} {maxL : Nat} {ret : Option FieldType} {rm : Room} {Q : Option Value → Heap → List Loc → Prop}
    (hown : s.vm.findClass own = some m.cls) (w1 : (Cond.methodLink own index y).before a0 Z = true) (w2 : (Cond.declares y).before a0 Z = true) (wi : (Cond.interfaceMethod y.cls y.cls y.name y.desc).before args s = true) (w5 : (Cond.selects C y z).before a0 Z = true) (w6 : (Cond.instanceMethod z).before a0 Z = true)
    (w7 : (Cond.publicMethod z).before a0 Z = true) (w8 : (Cond.unhidden C y.name y.desc).before a0 Z = true) (w9 : (Cond.castable C y.cls).before a0 Z = true) (w3 : (Cond.initialized z.cls).before a0 Z = true) (w4 : (Cond.code z bytes maxL ret).before a0 Z = true)
    (hy : y.cls ≠ "java/lang/invoke/MethodHandle" ∧ y.cls ≠ "java/lang/invoke/VarHandle") {a : Addr} {argsL rest : List Value} (hM : Ctr l Z z bytes maxL ret rm (.ref a :: argsL).toArray h Q []) (eT : T.heap = h) (E : Exa Z h a C)
    (hlen : ∀ sig, parseMethodDescriptor y.desc = some sig → argsL.length = sig.parameters.length) {pc W : Nat} {Ls : Array Slot} {st : List Value} (hst : st = argsL.reverse ++ .ref a :: rest) (hsz : Ls.size = c.maxLocals) (hd : decode c.code pc = .ok (.invokeinterface index count, 5))
    (hW : (rest.map fun v => v.category).sum ≤ W) (hfr : rm.frames + 1 ≤ R.frames) (hlo : W + (maxL + 11) + rm.locals ≤ R.locals) (hce : cells + rm.cells ≤ R.cells) (hsl : slots + rm.slots ≤ R.slots) :
    ∃ v T' L, Stand p l e R s m args below meth c T' (locs ++ L) (cells + rm.cells) (slots + rm.slots) ∧ Q v T'.heap L ∧ ∀ t, Steps p.tables e below (T'.setTop (mkF m (pc + 5) Ls (v.toList ++ rest))) t → Steps p.tables e below (T.setTop (mkF m pc Ls st)) t :=
  callFaceB X hx hZ hown w1 w2 wi w5 w6 w7 w8 w9 hy (backOf (W := W) hM hZ w4 w3 hfr hlo) eT E hlen hst hsz hd hW hce hsl
/-- what a contract says of a body that may read the String constants of EL; sf: cells that are no constant's -/
abbrev CtrH (l : Launch) (Z : State) (EL : List (String × Nat)) (sf : List Addr) (y : MethodName) (bytes : ByteArray) (maxL : Nat) (ret : Option FieldType) (rm : Room) (as' : Array Value) (h : Heap) (Q : Option Value → Heap → List Loc → Prop) (ws : List Cond) : Prop :=
  MetFree l y (head1 (Cond.code y bytes maxL ret :: ws) rm) (fun a U => a = as' ∧ Z.Warmed39 U.vm ∧ U.heap = h ∧ CHv Z EL U.vm h ∧ ∀ x ∈ sf, Safe Z EL U.vm h x) (fun _ _ _ _ _ => True) (fun _ U o U' => ∃ v L, o = .returned v ∧ Q v U'.heap L ∧ CHr Z EL U.vm U.heap U'.vm U'.heap ∧ ReturnedEndW U o U' L rm.cells rm.slots)
/-- the frame of such a body -/
def EndH (Z : State) (EL : List (String × Nat)) (s : State) (o : Outcome) (t : State) (L : List Loc) (k n : Nat) : Prop := CHr Z EL s.vm s.heap t.vm t.heap ∧ ReturnedEndW s o t L k n
theorem lvH {EL : List (String × Nat)} {vm0 : Vm} {k0 : Nat} (X : Stand p l e R (s.setVm vm0) m args below meth c T locs cells slots) (hlocks : meth.locks = false) (hS : s.Since vm0 k0) (eT : T.heap = h) (hk : k0 ≤ h.size) (hZ : Z.Warmed39 vm0) (hEL : EW Z a0 EL) (hR : CHr Z EL s.vm s.heap vm0 h) {C S : Nat} (hc : cells ≤ C) (hs : slots ≤ S) : Lv (EndH Z EL) e s m below meth T locs C S := fun v hv => by
  obtain ⟨fs, hr, hrun, hended, h1, h2, h3, h4⟩ := X.leaveW hS (eT ▸ hk) hv hlocks
  refine ⟨fs, hr, hrun, hended, ?_, h1, h2, h3, h4.mono hc hs⟩
  have q := hR.trans (CHv.at X hZ hEL hR.1)
  subst eT
  exact q
theorem backH {EL : List (String × Nat)} {sf : List Addr} {vm0 : Vm} {y : MethodName} {bytes : ByteArray} {maxL : Nat} {ret : Option FieldType} {rm : Room} {len W : Nat} {as' : Array Value} {Q : Option Value → Heap → List Loc → Prop}
    (hM : CtrH l Z EL sf y bytes maxL ret rm as' h Q [])
    (hZ : Z.Warmed39 vm0) (wc : (Cond.code y bytes maxL ret).before a0 Z = true) (wz : (Cond.initialized y.cls).before a0 Z = true) (hf : rm.frames + 1 ≤ R.frames) (hl : W + (maxL + 11) + rm.locals ≤ R.locals) (hEL : EW Z a0 EL) (H : CHv Z EL vm0 h) (hsf : ∀ x ∈ sf, x < h.size ∧ Safe Z EL vm0 h x) :
    BackS l R p e below (s.setVm vm0) args y len W (fun A a => a = as' ∧ A.U.heap = h ∧ A.cells + rm.cells ≤ R.cells ∧ A.slots + rm.slots ≤ R.slots)
      (fun A _ v B => ∃ L, Q v B.U.heap L ∧ B.locs = A.locs ++ L ∧ B.cells = A.cells + rm.cells ∧ B.slots = A.slots + rm.slots ∧ CHr Z EL vm0 h B.U.vm B.U.heap) :=
  BackS.of_freeW (bytes := bytes) (maxL := maxL) (ret := ret) (E := fun _ first o t L k n => k = rm.cells ∧ n = rm.slots ∧ (∃ v, o = .returned v ∧ Q v t.heap L) ∧ CHr Z EL first.vm first.heap t.vm t.heap) hM hf hl
    (fun m meth c A a Y hp => have hU : Z.Warmed39 A.U.vm := wtrans (s := s.setVm vm0) hZ Y.warmed
      ⟨by show (Cond.and _ .tt).before a A.U = true; rw [Cond.before_and, mv hU wc]; rfl, mv hU wc, mv hU wz, hp.2.2.1, hp.2.2.2⟩)
    (fun m meth c A a g mk Y hp => ⟨hp.1, wtrans (s := s.setVm vm0) hZ Y.warmed, hp.2.1, (CHv.at Y hZ hEL H).1, fun x hx => (CHv.at Y hZ hEL H).safe (hsf x hx).1 (hsf x hx).2⟩) (fun _ _ _ _ _ _ _ _ _ => trivial)
    (fun _ _ _ _ ⟨v, L, h1, h2, h3, h4⟩ => ⟨L, _, _, h4, rfl, rfl, ⟨v, h1, h2⟩, h3⟩)
    (fun m meth c A a g mk v t L k n Y hp _ _ ⟨e1, e2, ⟨v', e3, e4⟩, e5⟩ => by
      cases e3; subst e1 e2
      refine ⟨L, e4, rfl, rfl, rfl, (CHv.at Y hZ hEL H).trans ?_⟩
      rw [← hp.2.1]; exact e5)
theorem callStaticH {EL : List (String × Nat)} {sf : List Addr} {vm0 : Vm} {k0 : Nat} (X : Stand p l e R (s.setVm vm0) m args below meth c T locs cells slots) (hx : p.tables.exec = Jvm.exec) (hZ : Z.Warmed39 vm0) (hS : s.Since vm0 k0) (hk : k0 ≤ h.size) (hEL : EW Z a0 EL) (H : CHv Z EL vm0 h) (hsf : ∀ x ∈ sf, x < h.size ∧ Safe Z EL vm0 h x) {own : String} {index : Nat} {y : MethodName} {bytes : ByteArray} {maxL : Nat} {ret : Option FieldType} {rm : Room} {Q : Option Value → Heap → List Loc → Prop}
    (hown : vm0.findClass own = some m.cls) (w1 : (Cond.methodLink own index y).before a0 Z = true) (w2 : (Cond.static y).before a0 Z = true) (w3 : (Cond.initialized y.cls).before a0 Z = true) (w4 : (Cond.code y bytes maxL ret).before a0 Z = true)
    (hy : y.cls ≠ "java/lang/invoke/MethodHandle" ∧ y.cls ≠ "java/lang/invoke/VarHandle") {argsL rest : List Value} (hM : CtrH l Z EL sf y bytes maxL ret rm argsL.toArray h Q []) (eT : T.heap = h)
    (hlen : ∀ sig, parseMethodDescriptor y.desc = some sig → argsL.length = sig.parameters.length) {pc W : Nat} {Ls : Array Slot} {st : List Value} (hst : st = argsL.reverse ++ rest) (hsz : Ls.size = c.maxLocals) (hd : decode c.code pc = .ok (.invokestatic index, 3))
    (hW : (rest.map fun v => v.category).sum ≤ W) (hfr : rm.frames + 1 ≤ R.frames) (hlo : W + (maxL + 11) + rm.locals ≤ R.locals) (hce : cells + rm.cells ≤ R.cells) (hsl : slots + rm.slots ≤ R.slots) :
    ∃ v T' L, Stand p l e R (s.setVm T'.vm) m args below meth c T' (locs ++ L) (cells + rm.cells) (slots + rm.slots) ∧ s.Since T'.vm T'.heap.size ∧ Z.Warmed39 T'.vm ∧ T'.vm.findClass own = some m.cls ∧ CHr Z EL vm0 h T'.vm T'.heap ∧ Q v T'.heap L ∧ ∀ t, Steps p.tables e below (T'.setTop (mkF m (pc + 3) Ls (v.toList ++ rest))) t → Steps p.tables e below (T.setTop (mkF m pc Ls st)) t := by
  obtain ⟨v, _, ⟨T', L', k', n'⟩, -, X', hS', hg', ⟨L, hQ, l1, l2, l3, hC⟩, st'⟩ := callSS X hx hown (mvT (s := s.setVm vm0) hZ w1) (mvT (s := s.setVm vm0) hZ w2) (mvT (s := s.setVm vm0) hZ w3) (mvT (s := s.setVm vm0) hZ w4) hy (backH (W := W) hM hZ w4 w3 hfr hlo hEL H hsf) (g := mkF m pc Ls st) rfl hsz (argsL := argsL) (rest := rest) hlen hst (by show 2 * 0 + _ ≤ _; omega) hd (fun _ _ => ⟨rfl, eT, hce, hsl⟩)
  dsimp only [Pt.U, Pt.locs, Pt.cells, Pt.slots] at X' hS' hg' l1 l2 l3 st' hQ hC
  subst l1 l2 l3
  exact ⟨v, T', L, X', hS.trans hS' (Nat.le_trans hk (eT ▸ hg')), State.Warmed39.trans (t := s.setVm vm0) hZ hS'.1, by rw [hS'.1.alike.findClass]; exact hown, hC, hQ, fun t k => st'.trans k⟩
theorem callInitH {EL : List (String × Nat)} {sf : List Addr} {vm0 : Vm} {k0 : Nat} (X : Stand p l e R (s.setVm vm0) m args below meth c T locs cells slots) (hx : p.tables.exec = Jvm.exec) (hZ : Z.Warmed39 vm0) (hS : s.Since vm0 k0) (hk : k0 ≤ h.size) (hEL : EW Z a0 EL) (H : CHv Z EL vm0 h) (hsf : ∀ x ∈ sf, x < h.size ∧ Safe Z EL vm0 h x) {own : String} {index : Nat} {y : MethodName} {bytes : ByteArray} {maxL : Nat} {rm : Room} {Q : Option Value → Heap → List Loc → Prop} (hy1 : y.name = "<init>")
    (hown : vm0.findClass own = some m.cls) (w1 : (Cond.methodLink own index y).before a0 Z = true) (w2 : (Cond.instanceMethod y).before a0 Z = true) (w3 : (Cond.initialized y.cls).before a0 Z = true) (w4 : (Cond.code y bytes maxL none).before a0 Z = true)
    (hy : y.cls ≠ "java/lang/invoke/MethodHandle" ∧ y.cls ≠ "java/lang/invoke/VarHandle") {a : Addr} {argsL rest : List Value} (hM : CtrH l Z EL sf y bytes maxL none rm (.ref a :: argsL).toArray h Q []) (eT : T.heap = h)
    (hlen : ∀ sig, parseMethodDescriptor y.desc = some sig → argsL.length = sig.parameters.length) {pc W : Nat} {Ls : Array Slot} {st : List Value} (hst : st = argsL.reverse ++ .ref a :: rest) (hsz : Ls.size = c.maxLocals) (hd : decode c.code pc = .ok (.invokespecial index, 3))
    (hW : (rest.map fun v => v.category).sum ≤ W) (hfr : rm.frames + 1 ≤ R.frames) (hlo : W + (maxL + 11) + rm.locals ≤ R.locals) (hce : cells + rm.cells ≤ R.cells) (hsl : slots + rm.slots ≤ R.slots) :
    ∃ v T' L, Stand p l e R (s.setVm T'.vm) m args below meth c T' (locs ++ L) (cells + rm.cells) (slots + rm.slots) ∧ s.Since T'.vm T'.heap.size ∧ Z.Warmed39 T'.vm ∧ T'.vm.findClass own = some m.cls ∧ CHr Z EL vm0 h T'.vm T'.heap ∧ Q v T'.heap L ∧ ∀ t, Steps p.tables e below (T'.setTop (mkF m (pc + 3) Ls (v.toList ++ rest))) t → Steps p.tables e below (T.setTop (mkF m pc Ls st)) t := by
  obtain ⟨v, _, ⟨T', L', k', n'⟩, -, X', hS', hg', ⟨L, hQ, l1, l2, l3, hC⟩, st'⟩ := X.specialBackS hx hy1 hown (mvT (s := s.setVm vm0) hZ w1) (mvT (s := s.setVm vm0) hZ w2) (mvT (s := s.setVm vm0) hZ w4) hy (backH (W := W) hM hZ w4 w3 hfr hlo hEL H hsf) (g := mkF m pc Ls st) rfl hsz (Steps.refl _) (a := a) (argsL := argsL) (rest := rest) hlen hst (by show 2 * 0 + _ ≤ _; omega) hd (fun _ _ => ⟨rfl, eT, hce, hsl⟩)
  dsimp only [Pt.U, Pt.locs, Pt.cells, Pt.slots] at X' hS' hg' l1 l2 l3 st' hQ hC
  subst l1 l2 l3
  exact ⟨v, T', L, X', hS.trans hS' (Nat.le_trans hk (eT ▸ hg')), State.Warmed39.trans (t := s.setVm vm0) hZ hS'.1, by rw [hS'.1.alike.findClass]; exact hown, hC, hQ, fun t k => st'.trans k⟩
theorem rebase {vm0 : Vm} {k0 : Nat} {own : String} (X : Stand p l e R (s.setVm vm0) m args below meth c T locs cells slots) (hS : s.Since vm0 k0) (eT : T.heap = h) (hk : k0 ≤ h.size) (hZ : Z.Warmed39 vm0) (hown : vm0.findClass own = some m.cls) :
    Stand p l e R (s.setVm T.vm) m args below meth c T locs cells slots ∧ s.Since T.vm h.size ∧ Z.Warmed39 T.vm ∧ T.vm.findClass own = some m.cls :=
  ⟨X.retabled X.warmed.wide, hS.trans (X.warmed.since h.size) hk, wtrans (s := s.setVm vm0) hZ X.warmed, by rw [X.warmed.wide.alike.findClass]; exact hown⟩
theorem fld_int {args : Array Value} {t : Term} {x : Addr} {C n d : String} {k : Int32} (ht : t.eval args s none [] s = some (.ref x)) (hq : (Cond.eq (Term.field t C n d) (Term.int k)).value args s none s [] = some true) : Fld s s.heap x C n d (.int k) :=
  Fld.start ((fld_at (C := C) (n := n) (dd := d) ht).symm.trans (eqv_i (Term.int_eval k) hq))
theorem own_cr (x : Int32) : ¬ (x &&& 255) < 0 ∧ ¬ (255 : Int32) < (x &&& 255) := by
  have q := c_and x 255 (by decide)
  have e0 : (0 : Int32).toInt = 0 := rfl
  have e1 : (255 : Int32).toInt = 255 := rfl
  rw [Int32.lt_iff_toInt_lt, Int32.lt_iff_toInt_lt]; omega
end Own
end Jvm.OwnKit
namespace Jvm.Pilot.@@N@@
open Jvm Jvm.ClassFile Sem Op Lib Jvm.Free Jvm.Stand Jvm.LawKit Jvm.RoadKit Jvm.OwnKit Bundle Jvm.Pilot.@@N@@.Jvm.D
theorem Gv {tb : Tables} {e : Env} {below : List Frame} {Q : State → Outcome → Prop} {A : State} {m : MethodId} {ls : Array Slot} (T : State) (pc : Nat) (S : List Value) (f : ∀ t, Steps tb e below (T.setTop (mkF m pc ls S)) t → Steps tb e below A t) (k : Goes tb e below Q (T.setTop (mkF m pc ls S))) : Goes tb e below Q A := Goes.via f k
abbrev lv_ (x : Int64) : Slot := .val (.long x)
abbrev s_ : Slot := .second
abbrev u_ : Slot := .unset
abbrev Rm (f c s l : Nat) : Room := { frames := f, cells := c, slots := s, locals := l }
theorem W_ {a0 : Array Value} {Z : State} (hw : ∀ d ∈ tables_1, d.before a0 Z = true) (i : Nat) {d : Jvm.Cond} (h : tables_1[i]? = some d) : d.before a0 Z = true := hw _ (List.mem_of_getElem? h)
def own_cs (x : Int32) : List Int32 := if (((x.toUInt32 >>> ((16 : Int32) &&& 31).toUInt32).toInt32) &&& (3 : Int32)) = (0 : Int32) then [] else if (((x.toUInt32 >>> ((16 : Int32) &&& 31).toUInt32).toInt32) &&& (3 : Int32)) = (1 : Int32) then [x &&& (255 : Int32)] else [x &&& (255 : Int32), ((x.toUInt32 >>> ((8 : Int32) &&& 31).toUInt32).toInt32) &&& (255 : Int32)]
theorem own_csr (x : Int32) : ∀ c ∈ own_cs x, ¬ c < 0 ∧ ¬ (255 : Int32) < c := by
  intro c hc
  unfold own_cs at hc
  split at hc
  · cases hc
  · split at hc
    · rcases List.mem_singleton.mp hc with rfl; exact own_cr _
    · simp only [List.mem_cons, List.not_mem_nil, or_false] at hc
      rcases hc with rfl | rfl <;> exact own_cr _
theorem own_csl (x : Int32) : (own_cs x).length ≤ 4000 := by
  unfold own_cs
  split
  · decide
  · split <;> simp
def own_eq (a b : List Int32) : Int32 := if a = b then 1 else 0
theorem own_eq01 (a b : List Int32) : (if own_eq a b = (0 : Int32) then (0 : Int32) else 1) = own_eq a b := by
  unfold own_eq
  by_cases h : a = b
  · rw [if_pos h]; decide
  · rw [if_neg h]; decide
theorem own_eqc (a b : List Int32) : own_eq a b = own_eq b a := by
  unfold own_eq
  by_cases h : a = b
  · rw [if_pos h, if_pos h.symm]
  · rw [if_neg h, if_neg fun z => h z.symm]
theorem own_eq0 {a b : List Int32} (h : ¬ a = b) : own_eq a b = 0 := if_neg h
theorem own_eqn {a b : List Int32} (h : own_eq a b = 0) : ¬ a = b := fun z => by rw [own_eq, if_pos z] at h; exact absurd h (by decide)
theorem own_c16 {c : Int32} (h : ¬ c < 0 ∧ ¬ (255 : Int32) < c) : ¬ c < 0 ∧ ¬ (65535 : Int32) < c := ⟨h.1, fun z => h.2 (by
  have e1 : (255 : Int32).toInt = 255 := rfl
  have e2 : (65535 : Int32).toInt = 65535 := rfl
  rw [Int32.lt_iff_toInt_lt] at *; omega)⟩
theorem own_eqI {p : Program} {l : Launch} {e : Env} {R : Room} {s : State} {args : Array Value} {below : List Frame} {W : Nat} {Z : State} {a0 : Array Value} {h : Heap} (hZ : Z.Warmed39 s.vm) (hw : ∀ d ∈ StrChars.Road.wordsEq, d.before a0 Z = true) {kI : Nat} (wi : (Jvm.Cond.instantiable "java/lang/String" kI).before a0 Z = true)
    {x t : Addr} {kb : ClassId} {cs : List Int32} (E : Exa Z h x "java/lang/String") (V : Fld Z h x "java/lang/String" "value" "[B" (.ref t)) (C : Fld Z h x "java/lang/String" "coder" "B" (.int 0)) (K : Arv Z h t kb .byte (Int32.ofNat cs.length) ((cs.map StrChars.lo8).map Value.int) (.int 0)) (hb : ∀ c ∈ cs, ¬ c < 0 ∧ ¬ (255 : Int32) < c) (l2 : cs.length ≤ 4000)
    {y t' : Addr} {kb' : ClassId} {ds : List Int32} (E' : Exa Z h y "java/lang/String") (V' : Fld Z h y "java/lang/String" "value" "[B" (.ref t')) (C' : Fld Z h y "java/lang/String" "coder" "B" (.int 0)) (K' : Arv Z h t' kb' .byte (Int32.ofNat ds.length) ((ds.map StrChars.lo8).map Value.int) (.int 0)) (hb' : ∀ c ∈ ds, ¬ c < 0 ∧ ¬ (255 : Int32) < c) (l2' : ds.length ≤ 4000)
    {z : Int32} (S : Sta Z h "java/lang/String" "COMPACT_STRINGS" "Z" (.int z)) (hz : ¬ z = 0) (n0 : Nat) (hfr : 2 ≤ R.frames) (hlo : W + 28 ≤ R.locals) :
    BackQ l R p e below s args (⟨"java/lang/String", "equals", "(Ljava/lang/Object;)Z"⟩ : MethodName) W #[.ref x, .ref y] h 0 0 (fun v h' L => v = some (.int (own_eq cs ds)) ∧ Fr n0 L ∧ h' = h) :=
  Back.mono (StrChars.Road.eqW hZ hw wi E V C K (StrChars.Road.codOf rfl (fun c hc => (hb c hc).2)) (fun c hc => own_c16 (hb c hc)) l2 E' V' C' K' (StrChars.Road.codOf rfl (fun c hc => (hb' c hc).2)) (fun c hc => own_c16 (hb' c hc)) l2' S hz hfr hlo) (fun P a hp => hp) (fun P a v B hp hq => by
    obtain ⟨L, ⟨q, rfl, hh⟩, r⟩ := hq
    refine ⟨[], ⟨?_, Fr.nil _, hh⟩, r⟩
    rcases q with ⟨rfl, q⟩ | ⟨rfl, q⟩
    · rw [own_eq, if_pos q]
    · rw [own_eq, if_neg q])
theorem own_od0 : decode object_method_4_code 0 = .ok (.aload_n 0, 1) := by decide +kernel
theorem own_od1 : decode object_method_4_code 1 = .ok (.aload_n 1, 1) := by decide +kernel
theorem own_od2 : decode object_method_4_code 2 = .ok (.if_acmp .ne 7, 3) := by decide +kernel
theorem own_od9 : decode object_method_4_code 9 = .ok (.iconst 0, 1) := by decide +kernel
theorem own_od10 : decode object_method_4_code 10 = .ok (.ireturn, 1) := by decide +kernel
theorem own_opl : plainFor (⟨"java/lang/Object", "equals", "(Ljava/lang/Object;)Z"⟩ : MethodName) = true := by decide +kernel
/-- Object.equals of two objects that are two, walked in its frame (no word says that Object is initialised) -/
theorem own_objEq {p : Program} {l : Launch} {e : Env} {R : Room} {s : State} {args : Array Value} {below : List Frame} {W : Nat} {Z : State} {a0 : Array Value} {h : Heap} (hx : p.tables.exec = Jvm.exec) (hZ : Z.Warmed39 s.vm)
    (wc : (Cond.code (⟨"java/lang/Object", "equals", "(Ljava/lang/Object;)Z"⟩ : MethodName) object_method_4_code 2 (some .boolean)).before a0 Z = true) {x y : Addr} (hne : ¬ x = y) (n0 : Nat) (hfr : 1 ≤ R.frames) (hlo : W + 13 ≤ R.locals) :
    BackQ l R p e below s args (⟨"java/lang/Object", "equals", "(Ljava/lang/Object;)Z"⟩ : MethodName) W #[.ref x, .ref y] h 0 0 (fun v h' L => v = some (.int (0 : Int32)) ∧ Fr n0 L ∧ h' = h) := by
  intro m meth c A g ig mk a X hg hsize hdg hW hn hp
  obtain ⟨rfl, eT, h1, h2⟩ := hp
  have wc' : (Cond.code (⟨"java/lang/Object", "equals", "(Ljava/lang/Object;)Z"⟩ : MethodName) object_method_4_code 2 (some .boolean)).before #[] A.U = true := mv (wtrans hZ X.warmed) wc
  obtain ⟨mO, cO, q1, q2, q3, q4, q5, q6, -, -⟩ := Cond.code_spec hn wc'
  refine ⟨some (.int 0), A, X, ⟨[], ⟨rfl, Fr.nil _, eT⟩, (List.append_nil _).symm, rfl, rfl⟩, ?_⟩
  rw [doInvoke_enter X.here.top [] q1 q2 q6 (X.notFull hsize hfr (by rw [q4]; omega))]
  subst hg
  have hAt := At.enter (g := g) X.here #[.ref x, .ref y] q1 q2 (State.plainMethod.of_named (s := A.U) own_opl hn q1)
  have hf := frames_entered (s := A.U) (g := g) X.here.top (.java (entryFrame mk #[.ref x, .ref y] cO.maxLocals))
  have hU : (((A.U.setTop g).pushFrame (.java (entryFrame mk #[.ref x, .ref y] cO.maxLocals)))).vm = A.U.vm := by simp [State.pushFrame, State.setFrames]
  have hret := fun (f : JFrame) (acts : List Action) (hfm : f.method = mk) (hf1 : f.locked = none) (hf2 : f.entered = []) => doReturn_leave (e := e) (g := g) (meth := mO) (cg := c) (ig := ig) (len := 3) (v := some (.int (0 : Int32))) (f := f) acts hf (by rw [hU, hfm]; exact q1) q6 hf1 hf2
    (by have := X.here.code; rw [State.code?_eq] at this ⊢; rw [hU]; exact this) hdg
  rw [setFrames_entered X.here.top] at hret
  generalize ((A.U.setTop g).pushFrame (.java (entryFrame mk #[.ref x, .ref y] cO.maxLocals))) = U at *
  rw [q4]
  show Steps p.tables e below (U.setTop (mkF mk 0 #[rv x, rv y] [])) _
  refine XS.aloadN hAt hx rfl (hb q3 own_od0) rfl rfl ?_
  refine XS.aloadN hAt hx rfl (hb q3 own_od1) rfl rfl ?_
  refine XT.acmpYes hAt hx rfl (pc0 := 2) (pc' := 9) rfl (hb q3 own_od2) rfl rfl rfl (by simp [XT.acmp, hne]) (by decide) (by decide) ?_
  refine XS.iconst hAt hx rfl (hb q3 own_od9) ?_
  have hm' : U.vm.method? mk = some mO := by rw [hU]; exact q1
  show Steps p.tables e below (U.setTop { method := mk, pc := 10, locals := #[rv x, rv y], stack := [.int 0], locked := none }) _
  have hd := hb q3 own_od10
  jvm_step hAt [hAt.top, hx, hd, hm', q5, show narrow .boolean (.int 0) = .int 0 from rfl]
  first | (intro acts; rw [hret _ acts rfl rfl rfl]) | rw [hret _ _ rfl rfl rfl]
  rw [State.setTop_setTop]
  exact Steps.refl _
theorem own_EW {a0 : Array Value} {Z : State} (hw : ∀ d ∈ tables_1, d.before a0 Z = true) : EW Z a0 consts_1 := (EW.cons (W_ hw 72 rfl) (by decide) (EW.cons (W_ hw 73 rfl) (by decide) (EW.cons (W_ hw 18 rfl) (by decide) EW.nil)))
theorem own_nb (x : Int32) : nar .byte x.toInt8.toInt32 = x.toInt8.toInt32 := by simp [nar]
theorem own_ch (x : Int32) : (x &&& 255).toUInt32.toUInt16.toUInt32.toInt32 = x &&& 255 := i2c_mask x
theorem own_pn0 : plainName "java/lang/StringLatin1" = true := by first | (simp [plainName, overriddenIn]; done) | decide +kernel
theorem d_jdk_43_3_0 : decode jdk_43_method_3_code 0 = .ok (.iload_n 0, 1) := by decide +kernel
theorem d_jdk_43_3_1 : decode jdk_43_method_3_code 1 = .ok (.sipush 255, 3) := by decide +kernel
theorem d_jdk_43_3_4 : decode jdk_43_method_3_code 4 = .ok (.if_icmp .gt 7, 3) := by decide +kernel
theorem d_jdk_43_3_7 : decode jdk_43_method_3_code 7 = .ok (.iconst 1, 1) := by decide +kernel
theorem d_jdk_43_3_8 : decode jdk_43_method_3_code 8 = .ok (.goto 4, 3) := by decide +kernel
theorem d_jdk_43_3_12 : decode jdk_43_method_3_code 12 = .ok (.ireturn, 1) := by decide +kernel
theorem own_ef1 (m : MethodId) (x0 : Int32)  : entryFrame m #[(.int x0)] 1 = mkF m 0 #[iv x0] [] := by first | (simp [entryFrame, mkF, argsToLocals, Value.category]; done) | rfl
abbrev own_Q1 (Z : State) (x1 : Int32) (h0 : Heap) (n0 : Nat) (v : Option Value) (h : Heap) (L : List Loc) : Prop := v = some (.int (1 : Int32)) ∧ Fr n0 L ∧ h = h0
set_option maxRecDepth 65536 in
set_option maxHeartbeats 40000000 in
theorem own_m1 (l : Launch) (Z : State) (a0 : Array Value) (hw : ∀ d ∈ tables_1, d.before a0 Z = true) (ws : List Jvm.Cond) (x1 : Int32) (h0 : Heap) (n0 : Nat) (O0 : Old Z n0 h0) (hn1 : ¬ x1 < (0 : Int32) ∧ ¬ (255 : Int32) < x1) :
    Ctr l Z (⟨"java/lang/StringLatin1", "canEncode", "(C)Z"⟩ : MethodName) jdk_43_method_3_code 1 (some .boolean) (Rm 0 0 0 0) #[(.int x1)] h0 (own_Q1 Z x1 h0 n0) ws := by
  refine MetFree.of_bodySF (plainFor_of_name own_pn0) hisR ?_
  intro p e s m args below meth c s₁ Bd hml0 hP hK
  obtain ⟨rfl, hZ, hh⟩ := hP
  have hx := Bd.exec
  have hby := Bd.bytes
  have hlk : meth.locks = false := Bd.notSynchronized
  have hml : c.maxLocals = 1 := hml0
  have hown : s.vm.findClass "java/lang/StringLatin1" = some m.cls := findClass_of_methodNamed Bd.named
  have hnm := (name_of_methodNamed Bd.named Bd.method).1
  have X0 : Stand p l e (Rm 0 0 0 0) s m #[(.int x1)] below meth c s₁ [] 0 0 := Stand.of_body Bd
  have e0 : s₁.heap = h0 := by rw [← hh, Bd.state]; rfl
  have N0 := Fr.nil n0
  show Goes p.tables e below (fun t o => ∃ v L, o = .returned v ∧ (own_Q1 Z x1 h0 n0) v t.heap L ∧ FrameEnd s o t L ((Rm 0 0 0 0)).cells ((Rm 0 0 0 0)).slots) _
  refine Goes.via (B := s₁.setTop (mkF m 0 #[iv x1] [])) (fun t k => castTop (own_ef1 m x1) k) ?_
  refine Gv s₁ 1 [(.int x1)] (fun t k => XS.iloadN X0.here hx rfl (hb hby d_jdk_43_3_0) rfl k) ?_
  refine Gv s₁ 4 [(.int (255 : Int32)), (.int x1)] (fun t k => XS.sipush X0.here hx rfl (hb hby d_jdk_43_3_1) k) ?_
  refine Gv s₁ 7 [] (fun t k => XS.icmpNo X0.here hx rfl (hb hby d_jdk_43_3_4) rfl (XT.ii_gt_f hn1.2) k) ?_
  refine Gv s₁ 8 [(.int (1 : Int32))] (fun t k => XS.iconst X0.here hx rfl (hb hby d_jdk_43_3_7) k) ?_
  refine Gv s₁ 12 [(.int (1 : Int32))] (fun t k => XS.goto X0.here hx rfl (pc0 := 8) (pc' := 12) rfl (hb hby d_jdk_43_3_8) (by decide) (by decide) k) ?_
  exact finN (Q := (own_Q1 Z x1 h0 n0)) (F := FrameEnd) (C := ((Rm 0 0 0 0)).cells) (S := ((Rm 0 0 0 0)).slots) X0 hx (t := .boolean) Bd.returns (by simp) (z' := (1 : Int32)) rfl (hb hby d_jdk_43_3_12) e0 ⟨rfl, N0, rfl⟩ (lvN X0 hlk (by decide) (by decide))
theorem d_jdk_43_46_0 : decode jdk_43_method_46_code 0 = .ok (.iconst 1, 1) := by decide +kernel
theorem d_jdk_43_46_1 : decode jdk_43_method_46_code 1 = .ok (.newarray .byte, 2) := by decide +kernel
theorem d_jdk_43_46_3 : decode jdk_43_method_46_code 3 = .ok (.dup, 1) := by decide +kernel
theorem d_jdk_43_46_4 : decode jdk_43_method_46_code 4 = .ok (.iconst 0, 1) := by decide +kernel
theorem d_jdk_43_46_5 : decode jdk_43_method_46_code 5 = .ok (.iload_n 0, 1) := by decide +kernel
theorem d_jdk_43_46_6 : decode jdk_43_method_46_code 6 = .ok (.i2b, 1) := by decide +kernel
theorem d_jdk_43_46_7 : decode jdk_43_method_46_code 7 = .ok (.bastore, 1) := by decide +kernel
theorem d_jdk_43_46_8 : decode jdk_43_method_46_code 8 = .ok (.areturn, 1) := by decide +kernel
theorem own_ef2 (m : MethodId) (x0 : Int32)  : entryFrame m #[(.int x0)] 1 = mkF m 0 #[iv x0] [] := by first | (simp [entryFrame, mkF, argsToLocals, Value.category]; done) | rfl
abbrev own_Q2 (Z : State) (x1 : Int32) (h0 : Heap) (n0 : Nat) (v : Option Value) (h : Heap) (L : List Loc) : Prop := ∃ ta : Addr, ∃ kt : ClassId, v = some (.ref ta) ∧ Fr n0 L ∧ Keep h0 h [] ∧ h0.size ≤ ta ∧ Arv Z h ta kt .byte (1 : Int32) [(.int x1.toInt8.toInt32)] (.int (0 : Int32))
set_option maxRecDepth 65536 in
set_option maxHeartbeats 40000000 in
theorem own_m2 (l : Launch) (Z : State) (a0 : Array Value) (hw : ∀ d ∈ tables_1, d.before a0 Z = true) (ws : List Jvm.Cond) (x1 : Int32) (h0 : Heap) (n0 : Nat) (O0 : Old Z n0 h0) :
    Ctr l Z (⟨"java/lang/StringLatin1", "toBytes", "(C)[B"⟩ : MethodName) jdk_43_method_46_code 1 (some (.array .byte)) (Rm 0 1 1 0) #[(.int x1)] h0 (own_Q2 Z x1 h0 n0) ws := by
  refine MetFree.of_bodySF (plainFor_of_name own_pn0) hisR ?_
  intro p e s m args below meth c s₁ Bd hml0 hP hK
  obtain ⟨rfl, hZ, hh⟩ := hP
  have hx := Bd.exec
  have hby := Bd.bytes
  have hlk : meth.locks = false := Bd.notSynchronized
  have hml : c.maxLocals = 1 := hml0
  have hown : s.vm.findClass "java/lang/StringLatin1" = some m.cls := findClass_of_methodNamed Bd.named
  have hnm := (name_of_methodNamed Bd.named Bd.method).1
  have X0 : Stand p l e (Rm 0 1 1 0) s m #[(.int x1)] below meth c s₁ [] 0 0 := Stand.of_body Bd
  have e0 : s₁.heap = h0 := by rw [← hh, Bd.state]; rfl
  have N0 := Fr.nil n0
  show Goes p.tables e below (fun t o => ∃ v L, o = .returned v ∧ (own_Q2 Z x1 h0 n0) v t.heap L ∧ FrameEnd s o t L ((Rm 0 1 1 0)).cells ((Rm 0 1 1 0)).slots) _
  refine Goes.via (B := s₁.setTop (mkF m 0 #[iv x1] [])) (fun t k => castTop (own_ef2 m x1) k) ?_
  refine Gv s₁ 1 [(.int (1 : Int32))] (fun t k => XS.iconst X0.here hx rfl (hb hby d_jdk_43_46_0) k) ?_
  obtain ⟨T1, h1, k1, X1, e1, E1, A1, st1⟩ := newP X0 hx hZ (W_ hw 19 rfl) e0 (g := (mkF m 1 #[iv x1] [(.int (1 : Int32))])) rfl (hb hby d_jdk_43_46_1) rfl (by decide) (cap := 1) (by decide) (by decide) (by decide) (by decide)
  obtain ⟨b1, g1⟩ : ∃ z, z = h0.size := ⟨_, rfl⟩
  rw [← g1] at A1 st1
  have gn1 : n0 ≤ b1 := Nat.le_trans (old_le O0) (Nat.le_of_eq g1.symm)
  have gs1 : h0.size ≤ b1 := Nat.le_trans (Keep.refl h0 []).1 (Nat.le_of_eq g1.symm)
  have V1 : Arv Z h1 b1 k1 .byte (1 : Int32) [(.int (0 : Int32))] (.int (0 : Int32)) := (Arv.new A1 (by decide)).pad (pad_rep [] (.int (0 : Int32)) 1)
  refine Goes.via (B := T1.setTop (mkF m 3 #[iv x1] [(.ref b1)])) (fun t k => st1 _ k) ?_
  refine Gv T1 4 [(.ref b1), (.ref b1)] (fun t k => XS.dup X1.here hx rfl (hb hby d_jdk_43_46_3) rfl rfl k) ?_
  refine Gv T1 5 [(.int (0 : Int32)), (.ref b1), (.ref b1)] (fun t k => XS.iconst X1.here hx rfl (hb hby d_jdk_43_46_4) k) ?_
  refine Gv T1 6 [(.int x1), (.int (0 : Int32)), (.ref b1), (.ref b1)] (fun t k => XS.iloadN X1.here hx rfl (hb hby d_jdk_43_46_5) rfl k) ?_
  refine Gv T1 7 [(.int (x1.toInt8.toInt32)), (.int (0 : Int32)), (.ref b1), (.ref b1)] (fun t k => XS.i2b X1.here hx rfl (hb hby d_jdk_43_46_6) rfl k) ?_
  obtain ⟨cl2, Ar2, q2, S2, N2, H2, G2⟩ := id V1
  obtain ⟨T2, h2, X2, e2, W2, st2⟩ := stB X1 hx hZ e1 Ar2 (j := (0 : Int32)) (inb_of S2 ⟨by decide, by decide⟩) (g := (mkF m 7 #[iv x1] [(.int (x1.toInt8.toInt32)), (.int (0 : Int32)), (.ref b1), (.ref b1)])) rfl rfl (hb hby d_jdk_43_46_7)
  have wn2 : nar .byte (x1.toInt8.toInt32) = x1.toInt8.toInt32 := own_nb x1
  have fn2 : fits .byte (.int x1.toInt8.toInt32) = true := by rw [← wn2]; exact fits_nar_byte _
  rw [wn2] at W2
  have Nf2 := Fr.snoc X2 N0 gn1
  have V2 : Arv Z h2 b1 k1 .byte (1 : Int32) [(.int x1.toInt8.toInt32)] (.int (0 : Int32)) := Arv.set Ar2 q2 S2 N2 H2 G2 fn2 W2 0 rfl (Nat.le_of_ble_eq_true rfl)
  refine Goes.via (B := T2.setTop (mkF m 8 #[iv x1] [(.ref b1)])) (fun t k => st2 _ k) ?_
  exact finA (Q := (own_Q2 Z x1 h0 n0)) (F := FrameEnd) (C := ((Rm 0 1 1 0)).cells) (S := ((Rm 0 1 1 0)).slots) X2 hx Bd.returns rfl rfl rfl (hb hby d_jdk_43_46_8) e2 ⟨b1, k1, rfl, Nf2, (((Keep.refl h0 []).ext E1).wr W2 (Or.inr gs1)), gs1, V2⟩ (lvN X2 hlk (by decide) (by decide))
theorem own_pn1 : plainName "java/lang/String" = true := by first | (simp [plainName, overriddenIn]; done) | decide +kernel
theorem d_jdk_42_151_0 : decode jdk_42_method_151_code 0 = .ok (.aload_n 0, 1) := by decide +kernel
theorem d_jdk_42_151_1 : decode jdk_42_method_151_code 1 = .ok (.invokespecial 1, 3) := by decide +kernel
theorem d_jdk_42_151_4 : decode jdk_42_method_151_code 4 = .ok (.aload_n 0, 1) := by decide +kernel
theorem d_jdk_42_151_5 : decode jdk_42_method_151_code 5 = .ok (.aload_n 1, 1) := by decide +kernel
theorem d_jdk_42_151_6 : decode jdk_42_method_151_code 6 = .ok (.putfield 9, 3) := by decide +kernel
theorem d_jdk_42_151_9 : decode jdk_42_method_151_code 9 = .ok (.aload_n 0, 1) := by decide +kernel
theorem d_jdk_42_151_10 : decode jdk_42_method_151_code 10 = .ok (.iload_n 2, 1) := by decide +kernel
theorem d_jdk_42_151_11 : decode jdk_42_method_151_code 11 = .ok (.putfield 15, 3) := by decide +kernel
theorem d_jdk_42_151_14 : decode jdk_42_method_151_code 14 = .ok (.return_, 1) := by decide +kernel
theorem own_ef3 (m : MethodId) (x0 : Addr) (x1 : Addr) (x2 : Int32)  : entryFrame m #[(.ref x0), (.ref x1), (.int x2)] 3 = mkF m 0 #[rv x0, rv x1, iv x2] [] := by first | (simp [entryFrame, mkF, argsToLocals, Value.category]; done) | rfl
abbrev own_Q3 (Z : State) (a1 : Addr) (a2 : Addr) (h0 : Heap) (n0 : Nat) (v : Option Value) (h : Heap) (L : List Loc) : Prop := v = none ∧ Fr n0 L ∧ Keep h0 h [a1] ∧ Exa Z h a1 "java/lang/String" ∧ Fld Z h a1 "java/lang/String" "value" "[B" (.ref a2) ∧ Fld Z h a1 "java/lang/String" "coder" "B" (.int (0 : Int32))
set_option maxRecDepth 65536 in
set_option maxHeartbeats 40000000 in
theorem own_m3 (l : Launch) (Z : State) (a0 : Array Value) (hw : ∀ d ∈ tables_1, d.before a0 Z = true) (ws : List Jvm.Cond) (a1 : Addr) (a2 : Addr) (h0 : Heap) (n0 : Nat) (O0 : Old Z n0 h0) (gn_a1 : n0 ≤ a1) (F_1 : Exa Z h0 a1 "java/lang/String") (F_2 : Fld Z h0 a1 "java/lang/String" "value" "[B" .null) (F_3 : Fld Z h0 a1 "java/lang/String" "coder" "B" (.int (0 : Int32))) :
    Ctr l Z (⟨"java/lang/String", "<init>", "([BB)V"⟩ : MethodName) jdk_42_method_151_code 3 none (Rm 1 0 0 12) #[(.ref a1), (.ref a2), (.int (0 : Int32))] h0 (own_Q3 Z a1 a2 h0 n0) ws := by
  refine MetFree.of_bodySF (plainFor_of_name own_pn1) hisR ?_
  intro p e s m args below meth c s₁ Bd hml0 hP hK
  obtain ⟨rfl, hZ, hh⟩ := hP
  have hx := Bd.exec
  have hby := Bd.bytes
  have hlk : meth.locks = false := Bd.notSynchronized
  have hml : c.maxLocals = 3 := hml0
  have hown : s.vm.findClass "java/lang/String" = some m.cls := findClass_of_methodNamed Bd.named
  have hnm := (name_of_methodNamed Bd.named Bd.method).1
  have X0 : Stand p l e (Rm 1 0 0 12) s m #[(.ref a1), (.ref a2), (.int (0 : Int32))] below meth c s₁ [] 0 0 := Stand.of_body Bd
  have e0 : s₁.heap = h0 := by rw [← hh, Bd.state]; rfl
  have N0 := Fr.nil n0
  show Goes p.tables e below (fun t o => ∃ v L, o = .returned v ∧ (own_Q3 Z a1 a2 h0 n0) v t.heap L ∧ FrameEnd s o t L ((Rm 1 0 0 12)).cells ((Rm 1 0 0 12)).slots) _
  refine Goes.via (B := s₁.setTop (mkF m 0 #[rv a1, rv a2, iv (0 : Int32)] [])) (fun t k => castTop (own_ef3 m a1 a2 (0 : Int32)) k) ?_
  refine Gv s₁ 1 [(.ref a1)] (fun t k => XS.aloadN X0.here hx rfl (hb hby d_jdk_42_151_0) rfl rfl k) ?_
  obtain ⟨T1, X1, e1, st1⟩ := initO X0 hx hZ hown (W_ hw 15 rfl) (W_ hw 16 rfl) (W_ hw 17 rfl) e0 (g := (mkF m 1 #[rv a1, rv a2, iv (0 : Int32)] [(.ref a1)])) rfl (by rw [hml]; rfl) rfl (hb hby d_jdk_42_151_1) (by decide) (W := 0) (by show 2 * 0 + _ ≤ _; exact Nat.le_of_eq rfl) (by decide)
  refine Goes.via (B := T1.setTop (mkF m 4 #[rv a1, rv a2, iv (0 : Int32)] [])) (fun t k => st1 _ k) ?_
  refine Gv T1 5 [(.ref a1)] (fun t k => XS.aloadN X1.here hx rfl (hb hby d_jdk_42_151_4) rfl rfl k) ?_
  refine Gv T1 6 [(.ref a2), (.ref a1)] (fun t k => XS.aloadN X1.here hx rfl (hb hby d_jdk_42_151_5) rfl rfl k) ?_
  obtain ⟨T2, h2, X2, e2, W2, st2⟩ := putF X1 hx hZ hown (host := "") (Or.inl (W_ hw 24 rfl)) Via.refl e1 F_2 F_1 (Or.inr ⟨(W_ hw 20 rfl), rfl, hnm⟩) (W_ hw 5 rfl) (ty := (.array .byte)) (by decide) rfl rfl (g := (mkF m 6 #[rv a1, rv a2, iv (0 : Int32)] [(.ref a2), (.ref a1)])) rfl rfl (hb hby d_jdk_42_151_6)
  have N2 := Fr.snoc X2 N0 gn_a1
  refine Goes.via (B := T2.setTop (mkF m 9 #[rv a1, rv a2, iv (0 : Int32)] [])) (fun t k => st2 _ k) ?_
  refine Gv T2 10 [(.ref a1)] (fun t k => XS.aloadN X2.here hx rfl (hb hby d_jdk_42_151_9) rfl rfl k) ?_
  refine Gv T2 11 [(.int (0 : Int32)), (.ref a1)] (fun t k => XS.iloadN X2.here hx rfl (hb hby d_jdk_42_151_10) rfl k) ?_
  have c3 : Fld Z h2 a1 "java/lang/String" "coder" "B" (.int (0 : Int32)) := (Fld.other W2 F_3 (Or.inr (slot_ne (Or.inr (W_ hw 21 rfl)) (Or.inr (W_ hw 20 rfl)) (by decide) (t := .byte) (t' := (.array .byte)) (by decide) (by decide))))
  obtain ⟨T4, h4, X4, e4, W4, st4⟩ := putFN X2 hx hZ hown (W_ hw 25 rfl) Via.refl e2 c3 (Exa.wr W2 F_1) (Or.inr ⟨(W_ hw 21 rfl), rfl, hnm⟩) (W_ hw 5 rfl) (ty := .byte) (v' := (.int (0 : Int32))) (by decide) rfl rfl (g := (mkF m 11 #[rv a1, rv a2, iv (0 : Int32)] [(.int (0 : Int32)), (.ref a1)])) rfl rfl (hb hby d_jdk_42_151_11)
  have N4 := Fr.snoc X4 N2 gn_a1
  refine Goes.via (B := T4.setTop (mkF m 14 #[rv a1, rv a2, iv (0 : Int32)] [])) (fun t k => st4 _ k) ?_
  have c5 : Fld Z h4 a1 "java/lang/String" "value" "[B" (.ref a2) := (Fld.other W4 (Fld.same W2 F_2) (Or.inr (slot_ne (Or.inr (W_ hw 20 rfl)) (Or.inr (W_ hw 21 rfl)) (by decide) (t := (.array .byte)) (t' := .byte) (by decide) (by decide))))
  exact fin0 (Q := (own_Q3 Z a1 a2 h0 n0)) (F := FrameEnd) (C := ((Rm 1 0 0 12)).cells) (S := ((Rm 1 0 0 12)).slots) X4 hx Bd.returns (hb hby d_jdk_42_151_14) e4 ⟨rfl, N4, (((Keep.refl h0 [a1]).wr W2 (Or.inl (List.mem_of_getElem? (i := 0) rfl))).wr W4 (Or.inl (List.mem_of_getElem? (i := 0) rfl))), (Exa.wr W4 (Exa.wr W2 F_1)), c5, (Fld.same W4 c3)⟩ (lvN X4 hlk (by decide) (by decide))
theorem d_jdk_42_139_0 : decode jdk_42_method_139_code 0 = .ok (.getstatic 38, 3) := by decide +kernel
theorem d_jdk_42_139_3 : decode jdk_42_method_139_code 3 = .ok (.ifCond .eq 23, 3) := by decide +kernel
theorem d_jdk_42_139_6 : decode jdk_42_method_139_code 6 = .ok (.iload_n 0, 1) := by decide +kernel
theorem d_jdk_42_139_7 : decode jdk_42_method_139_code 7 = .ok (.invokestatic 1015, 3) := by decide +kernel
theorem own_pd0 : parseMethodDescriptor "(C)Z" = some ⟨[.char], some .boolean⟩ := by decide +kernel
theorem d_jdk_42_139_10 : decode jdk_42_method_139_code 10 = .ok (.ifCond .eq 16, 3) := by decide +kernel
theorem d_jdk_42_139_13 : decode jdk_42_method_139_code 13 = .ok (.new 10, 3) := by decide +kernel
theorem d_jdk_42_139_16 : decode jdk_42_method_139_code 16 = .ok (.dup, 1) := by decide +kernel
theorem d_jdk_42_139_17 : decode jdk_42_method_139_code 17 = .ok (.iload_n 0, 1) := by decide +kernel
theorem d_jdk_42_139_18 : decode jdk_42_method_139_code 18 = .ok (.invokestatic 1018, 3) := by decide +kernel
theorem own_pd1 : parseMethodDescriptor "(C)[B" = some ⟨[.char], some (.array .byte)⟩ := by decide +kernel
theorem d_jdk_42_139_21 : decode jdk_42_method_139_code 21 = .ok (.iconst 0, 1) := by decide +kernel
theorem d_jdk_42_139_22 : decode jdk_42_method_139_code 22 = .ok (.invokespecial 209, 3) := by decide +kernel
theorem own_pd2 : parseMethodDescriptor "([BB)V" = some ⟨[(.array .byte), .byte], none⟩ := by decide +kernel
theorem d_jdk_42_139_25 : decode jdk_42_method_139_code 25 = .ok (.areturn, 1) := by decide +kernel
theorem own_ef4 (m : MethodId) (x0 : Int32)  : entryFrame m #[(.int x0)] 1 = mkF m 0 #[iv x0] [] := by first | (simp [entryFrame, mkF, argsToLocals, Value.category]; done) | rfl
abbrev own_Q4 (Z : State) (x1 : Int32) (z0 : Int32) (h0 : Heap) (n0 : Nat) (v : Option Value) (h : Heap) (L : List Loc) : Prop := ∃ ba : Addr, ∃ ta : Addr, ∃ kt : ClassId, v = some (.ref ba) ∧ Fr n0 L ∧ Keep h0 h [] ∧ h0.size ≤ ba ∧ h0.size ≤ ta ∧ Exa Z h ba "java/lang/String" ∧ Fld Z h ba "java/lang/String" "value" "[B" (.ref ta) ∧ Fld Z h ba "java/lang/String" "coder" "B" (.int (0 : Int32)) ∧ Arv Z h ta kt .byte (1 : Int32) [(.int x1.toInt8.toInt32)] (.int (0 : Int32))
set_option maxRecDepth 65536 in
set_option maxHeartbeats 40000000 in
theorem own_m4 (l : Launch) (Z : State) (a0 : Array Value) (hw : ∀ d ∈ tables_1, d.before a0 Z = true) (ws : List Jvm.Cond) (x1 : Int32) (z0 : Int32) (h0 : Heap) (n0 : Nat) (O0 : Old Z n0 h0) (hz0 : ¬ z0 = (0 : Int32)) (hn1 : ¬ x1 < (0 : Int32) ∧ ¬ (255 : Int32) < x1) (O_1 : Sta Z Z.heap "java/lang/String" "COMPACT_STRINGS" "Z" (.int z0)) :
    Ctr l Z (⟨"java/lang/String", "valueOf", "(C)Ljava/lang/String;"⟩ : MethodName) jdk_42_method_139_code 1 (some (.object "java/lang/String")) (Rm 2 2 5 27) #[(.int x1)] h0 (own_Q4 Z x1 z0 h0 n0) ws := by
  refine MetFree.of_bodySF (plainFor_of_name own_pn1) hisR ?_
  intro p e s m args below meth c s₁ Bd hml0 hP hK
  obtain ⟨rfl, hZ, hh⟩ := hP
  have hx := Bd.exec
  have hby := Bd.bytes
  have hlk : meth.locks = false := Bd.notSynchronized
  have hml : c.maxLocals = 1 := hml0
  have hown : s.vm.findClass "java/lang/String" = some m.cls := findClass_of_methodNamed Bd.named
  have hnm := (name_of_methodNamed Bd.named Bd.method).1
  have X0 : Stand p l e (Rm 2 2 5 27) s m #[(.int x1)] below meth c s₁ [] 0 0 := Stand.of_body Bd
  have e0 : s₁.heap = h0 := by rw [← hh, Bd.state]; rfl
  have N0 := Fr.nil n0
  show Goes p.tables e below (fun t o => ∃ v L, o = .returned v ∧ (own_Q4 Z x1 z0 h0 n0) v t.heap L ∧ FrameEnd s o t L ((Rm 2 2 5 27)).cells ((Rm 2 2 5 27)).slots) _
  refine Goes.via (B := s₁.setTop (mkF m 0 #[iv x1] [])) (fun t k => castTop (own_ef4 m x1) k) ?_
  obtain ⟨T1, X1, e1, st1⟩ := getS2 X0 hx hZ hown (host := "") (Or.inl (W_ hw 109 rfl)) Via.refl e0 (Sta.ext O0.2 O_1) (g := (mkF m 0 #[iv x1] [])) rfl (hb hby d_jdk_42_139_0)
  refine Goes.via (B := T1.setTop (mkF m 3 #[iv x1] [(.int z0)])) (fun t k => st1 _ k) ?_
  refine Gv T1 6 [] (fun t k => XS.ifNo X1.here hx rfl (hb hby d_jdk_42_139_3) rfl (XT.i0_eq_f hz0) k) ?_
  refine Gv T1 7 [(.int x1)] (fun t k => XS.iloadN X1.here hx rfl (hb hby d_jdk_42_139_6) rfl k) ?_
  obtain ⟨_, T2, L2, X2, ⟨rfl, M2, K2⟩, st2⟩ := callStatic X1 hx hZ hown (W_ hw 139 rfl) (W_ hw 140 rfl) (W_ hw 112 rfl) (W_ hw 141 rfl) (by decide) (argsL := [(.int x1)]) (rest := []) (own_m1 l Z a0 hw [] x1 h0 n0 O0 hn1) e1 (lenOf own_pd0 rfl) (pc := 7) (Ls := #[iv x1]) (st := [(.int x1)]) rfl (by rw [hml]; rfl) (hb hby d_jdk_42_139_7) (W := 0) (Nat.le_of_eq rfl) (by decide) (by decide) (by decide) (by decide)
  have N2 := Fr.app N0 M2
  refine Goes.via (B := T2.setTop (mkF m 10 #[iv x1] [(.int (1 : Int32))])) (fun t k => st2 _ k) ?_
  refine Gv T2 13 [] (fun t k => XS.ifNo X2.here hx rfl (hb hby d_jdk_42_139_10) rfl (XT.i0_eq_f (by decide)) k) ?_
  obtain ⟨T3, h3, X3, e3, E3, A3, D3, U3, st3⟩ := newO X2 hx hZ hown (W_ hw 108 rfl) (W_ hw 5 rfl) (W_ hw 6 rfl) K2 (g := (mkF m 13 #[iv x1] [])) rfl (hb hby d_jdk_42_139_13) (by decide) (by decide)
  obtain ⟨b3, g3⟩ : ∃ z, z = h0.size := ⟨_, rfl⟩
  rw [← g3] at A3 D3 U3 st3
  have gn3 : n0 ≤ b3 := Nat.le_trans (old_le O0) (Nat.le_of_eq g3.symm)
  have gs3 : h0.size ≤ b3 := Nat.le_trans (Keep.refl h0 []).1 (Nat.le_of_eq g3.symm)
  have F3_value : Fld Z h3 b3 "java/lang/String" "value" "[B" .null := D3 (Or.inr (W_ hw 20 rfl)) (ty := (.array .byte)) (by decide)
  have F3_coder : Fld Z h3 b3 "java/lang/String" "coder" "B" (.int (0 : Int32)) := D3 (Or.inr (W_ hw 21 rfl)) (ty := .byte) (by decide)
  refine Goes.via (B := T3.setTop (mkF m 16 #[iv x1] [(.ref b3)])) (fun t k => st3 _ k) ?_
  refine Gv T3 17 [(.ref b3), (.ref b3)] (fun t k => XS.dup X3.here hx rfl (hb hby d_jdk_42_139_16) rfl rfl k) ?_
  refine Gv T3 18 [(.int x1), (.ref b3), (.ref b3)] (fun t k => XS.iloadN X3.here hx rfl (hb hby d_jdk_42_139_17) rfl k) ?_
  obtain ⟨_, T4, L4, X4, ⟨ta4, kt4, rfl, M4, K4, z4_0, f4_0⟩, st4⟩ := callStatic X3 hx hZ hown (W_ hw 142 rfl) (W_ hw 143 rfl) (W_ hw 112 rfl) (W_ hw 144 rfl) (by decide) (argsL := [(.int x1)]) (rest := [(.ref b3), (.ref b3)]) (own_m2 l Z a0 hw [] x1 h3 n0 (O0.ext E3) ) e3 (lenOf own_pd1 rfl) (pc := 18) (Ls := #[iv x1]) (st := [(.int x1), (.ref b3), (.ref b3)]) rfl (by rw [hml]; rfl) (hb hby d_jdk_42_139_18) (W := 2) (Nat.le_of_eq rfl) (by decide) (by decide) (by decide) (by decide)
  have N4 := Fr.app N2 M4
  have gn4_0 : n0 ≤ ta4 := Nat.le_trans (old_le (O0.ext E3)) z4_0
  have gs4_0 : h0.size ≤ ta4 := Nat.le_trans ((Keep.refl h0 []).ext E3).1 z4_0
  refine Goes.via (B := T4.setTop (mkF m 21 #[iv x1] [(.ref ta4), (.ref b3), (.ref b3)])) (fun t k => st4 _ k) ?_
  refine Gv T4 22 [(.int (0 : Int32)), (.ref ta4), (.ref b3), (.ref b3)] (fun t k => XS.iconst X4.here hx rfl (hb hby d_jdk_42_139_21) k) ?_
  obtain ⟨_, T5, L5, X5, ⟨rfl, M5, K5, f5_0, f5_1, f5_2⟩, st5⟩ := callInit X4 hx hZ rfl hown (W_ hw 145 rfl) (W_ hw 146 rfl) (W_ hw 6 rfl) (W_ hw 147 rfl) (by decide) (argsL := [(.ref ta4), (.int (0 : Int32))]) (rest := [(.ref b3)]) (own_m3 l Z a0 hw [] b3 ta4 T4.heap n0 ((O0.ext E3).keep K4 all0) gn3 (A3.keep K4) (F3_value.keep K4 nin0) (F3_coder.keep K4 nin0)) rfl (lenOf own_pd2 rfl) (pc := 22) (Ls := #[iv x1]) (st := [(.int (0 : Int32)), (.ref ta4), (.ref b3), (.ref b3)]) rfl (by rw [hml]; rfl) (hb hby d_jdk_42_139_22) (W := 1) (Nat.le_of_eq rfl) (by decide) (by decide) (by decide) (by decide)
  have N5 := Fr.app N4 M5
  refine Goes.via (B := T5.setTop (mkF m 25 #[iv x1] [(.ref b3)])) (fun t k => st5 _ k) ?_
  have c6 : Arv Z T5.heap ta4 kt4 .byte (1 : Int32) [(.int x1.toInt8.toInt32)] (.int (0 : Int32)) := (f4_0.keep K5 (ninS (Ne.symm (Nat.ne_of_lt (Nat.lt_of_lt_of_le A3.lt z4_0))) nin0))
  exact finA (Q := (own_Q4 Z x1 z0 h0 n0)) (F := FrameEnd) (C := ((Rm 2 2 5 27)).cells) (S := ((Rm 2 2 5 27)).slots) X5 hx Bd.returns rfl rfl rfl (hb hby d_jdk_42_139_25) rfl ⟨b3, ta4, kt4, rfl, N5, ((((Keep.refl h0 []).ext E3).trans K4 all0).trans K5 (allS (Or.inr gs3) all0)), gs3, gs4_0, f5_0, f5_1, f5_2, c6⟩ (lvN X5 hlk (by decide) (by decide))
theorem d_jdk_42_149_0 : decode jdk_42_method_149_code 0 = .ok (.aload_n 0, 1) := by decide +kernel
theorem d_jdk_42_149_1 : decode jdk_42_method_149_code 1 = .ok (.invokespecial 1, 3) := by decide +kernel
theorem d_jdk_42_149_4 : decode jdk_42_method_149_code 4 = .ok (.iload_n 3, 1) := by decide +kernel
theorem d_jdk_42_149_5 : decode jdk_42_method_149_code 5 = .ok (.ifCond .ne 22, 3) := by decide +kernel
theorem d_jdk_42_149_8 : decode jdk_42_method_149_code 8 = .ok (.aload_n 0, 1) := by decide +kernel
theorem d_jdk_42_149_9 : decode jdk_42_method_149_code 9 = .ok (.ldc 7, 2) := by decide +kernel
theorem own_wS {a0 : Array Value} {Z : State} (hw : ∀ d ∈ tables_1, d.before a0 Z = true) : ∀ a ∈ Bundle.stringAtoms, a.before a0 Z = true := by
  intro d hd
  simp only [Bundle.stringAtoms, List.mem_cons, List.not_mem_nil, or_false] at hd
  rcases hd with rfl | rfl | rfl | rfl | rfl | rfl | rfl
  all_goals first | exact (W_ hw 6 rfl) | exact (W_ hw 5 rfl) | exact (W_ hw 19 rfl) | exact (W_ hw 20 rfl) | exact (W_ hw 21 rfl) | exact (W_ hw 22 rfl) | exact (W_ hw 23 rfl)
theorem d_jdk_42_149_11 : decode jdk_42_method_149_code 11 = .ok (.getfield 9, 3) := by decide +kernel
theorem d_jdk_42_149_14 : decode jdk_42_method_149_code 14 = .ok (.putfield 9, 3) := by decide +kernel
theorem d_jdk_42_149_17 : decode jdk_42_method_149_code 17 = .ok (.aload_n 0, 1) := by decide +kernel
theorem d_jdk_42_149_18 : decode jdk_42_method_149_code 18 = .ok (.ldc 7, 2) := by decide +kernel
theorem d_jdk_42_149_20 : decode jdk_42_method_149_code 20 = .ok (.getfield 15, 3) := by decide +kernel
theorem d_jdk_42_149_23 : decode jdk_42_method_149_code 23 = .ok (.putfield 15, 3) := by decide +kernel
theorem d_jdk_42_149_26 : decode jdk_42_method_149_code 26 = .ok (.return_, 1) := by decide +kernel
theorem own_ef5 (m : MethodId) (x0 : Addr) (x1 : Addr) (x2 : Int32) (x3 : Int32)  : entryFrame m #[(.ref x0), (.ref x1), (.int x2), (.int x3), .null] 6 = mkF m 0 #[rv x0, rv x1, iv x2, iv x3, .val .null, u_] [] := by first | (simp [entryFrame, mkF, argsToLocals, Value.category]; done) | rfl
abbrev own_Q5 (Z : State) (a1 : Addr) (a2 : Addr) (h0 : Heap) (n0 : Nat) (v : Option Value) (h : Heap) (L : List Loc) : Prop := ∃ ve : Addr, ∃ ke : ClassId, v = none ∧ Fr n0 L ∧ Keep h0 h [a1] ∧ Exa Z h a1 "java/lang/String" ∧ Fld Z h a1 "java/lang/String" "value" "[B" (.ref ve) ∧ Fld Z h a1 "java/lang/String" "coder" "B" (.int (0 : Int32)) ∧ Arv Z h ve ke .byte (0 : Int32) [] (.int 0)
set_option maxRecDepth 65536 in
set_option maxHeartbeats 40000000 in
theorem own_m5 (l : Launch) (Z : State) (a0 : Array Value) (hw : ∀ d ∈ tables_1, d.before a0 Z = true) (ws : List Jvm.Cond) (a1 : Addr) (a2 : Addr) (h0 : Heap) (n0 : Nat) (O0 : Old Z n0 h0) (gn_a1 : n0 ≤ a1) (F_1 : Exa Z h0 a1 "java/lang/String") (F_2 : Fld Z h0 a1 "java/lang/String" "value" "[B" .null) (F_3 : Fld Z h0 a1 "java/lang/String" "coder" "B" (.int (0 : Int32))) :
    CtrH l Z consts_1 [a1] (⟨"java/lang/String", "<init>", "([CIILjava/lang/Void;)V"⟩ : MethodName) jdk_42_method_149_code 6 none (Rm 1 4 8 12) #[(.ref a1), (.ref a2), (.int (0 : Int32)), (.int (0 : Int32)), .null] h0 (own_Q5 Z a1 a2 h0 n0) ws := by
  refine MetFree.of_bodySF (plainFor_of_name own_pn1) hisR ?_
  intro p e s m args below meth c s₁ Bd hml0 hP hK
  obtain ⟨rfl, hZ, hh, hC, hsf⟩ := hP
  have hx := Bd.exec
  have hby := Bd.bytes
  have hlk : meth.locks = false := Bd.notSynchronized
  have hml : c.maxLocals = 6 := hml0
  have hown : s.vm.findClass "java/lang/String" = some m.cls := findClass_of_methodNamed Bd.named
  have hnm := (name_of_methodNamed Bd.named Bd.method).1
  have X0 : Stand p l e (Rm 1 4 8 12) (s.setVm s.vm) m #[(.ref a1), (.ref a2), (.int (0 : Int32)), (.int (0 : Int32)), .null] below meth c s₁ [] 0 0 := Stand.of_body Bd
  have hS0 : s.Since s.vm h0.size := (State.WarmedH.refl s).since _
  have hk0 : h0.size ≤ h0.size := Nat.le_refl _
  have hR0 : CHr Z consts_1 s.vm s.heap s.vm h0 := by rw [hh]; exact CHr.refl hC
  have hEL := own_EW hw
  have sf_a1 : Safe Z consts_1 s.vm h0 a1 := hsf _ (List.mem_of_getElem? (i := 0) rfl)
  have e0 : s₁.heap = h0 := by rw [← hh, Bd.state]; rfl
  have N0 := Fr.nil n0
  show Goes p.tables e below (fun t o => ∃ v L, o = .returned v ∧ (own_Q5 Z a1 a2 h0 n0) v t.heap L ∧ EndH Z consts_1 s o t L ((Rm 1 4 8 12)).cells ((Rm 1 4 8 12)).slots) _
  refine Goes.via (B := s₁.setTop (mkF m 0 #[rv a1, rv a2, iv (0 : Int32), iv (0 : Int32), .val .null, u_] [])) (fun t k => castTop (own_ef5 m a1 a2 (0 : Int32) (0 : Int32)) k) ?_
  refine Gv s₁ 1 [(.ref a1)] (fun t k => XS.aloadN X0.here hx rfl (hb hby d_jdk_42_149_0) rfl rfl k) ?_
  obtain ⟨T1, X1, e1, st1⟩ := initO X0 hx hZ hown (W_ hw 15 rfl) (W_ hw 16 rfl) (W_ hw 17 rfl) e0 (g := (mkF m 1 #[rv a1, rv a2, iv (0 : Int32), iv (0 : Int32), .val .null, u_] [(.ref a1)])) rfl (by rw [hml]; rfl) rfl (hb hby d_jdk_42_149_1) (by decide) (W := 0) (by show 2 * 0 + _ ≤ _; exact Nat.le_of_eq rfl) (by decide)
  refine Goes.via (B := T1.setTop (mkF m 4 #[rv a1, rv a2, iv (0 : Int32), iv (0 : Int32), .val .null, u_] [])) (fun t k => st1 _ k) ?_
  refine Gv T1 5 [(.int (0 : Int32))] (fun t k => XS.iloadN X1.here hx rfl (hb hby d_jdk_42_149_4) rfl k) ?_
  refine Gv T1 8 [] (fun t k => XS.ifNo X1.here hx rfl (hb hby d_jdk_42_149_5) rfl (XT.i0_ne_f rfl) k) ?_
  refine Gv T1 9 [(.ref a1)] (fun t k => XS.aloadN X1.here hx rfl (hb hby d_jdk_42_149_8) rfl rfl k) ?_
  obtain ⟨b2, T2, h2, k2, v2, kb2, X2, e2, E2, hS2, hk2, hZ2, hown2, A2, C2, F2, V2, la2, lb2, hC2, -, ns2, st2⟩ := ldcCH X1 hx hZ hown (W_ hw 18 rfl) (own_wS hw) e1 hS0 hk0 hEL (List.mem_of_getElem? (i := 2) rfl) hR0.1 (vs := []) (z := (0 : Int32)) ⟨by decide, by decide⟩ (by decide) (by decide) (g := (mkF m 9 #[rv a1, rv a2, iv (0 : Int32), iv (0 : Int32), .val .null, u_] [(.ref a1)])) rfl (hb hby d_jdk_42_149_9) (n := 0) (by decide) (by decide) (by decide) (by decide)
  have hq3 := hC2
  have hR3 := CHr.trans hR0 hq3
  refine Goes.via (B := T2.setTop (mkF m 11 #[rv a1, rv a2, iv (0 : Int32), iv (0 : Int32), .val .null, u_] [(.ref b2), (.ref a1)])) (fun t k => st2 _ k) ?_
  have na4 := (ns2 _ (CHr.safe hq3 F_1.lt sf_a1)).2
  obtain ⟨T5, X5, e5, st5⟩ := getF X2 hx hZ2 hown2 (host := "") (Or.inl (W_ hw 24 rfl)) Via.refl e2 F2 (g := (mkF m 11 #[rv a1, rv a2, iv (0 : Int32), iv (0 : Int32), .val .null, u_] [(.ref b2), (.ref a1)])) rfl rfl (hb hby d_jdk_42_149_11)
  refine Goes.via (B := T5.setTop (mkF m 14 #[rv a1, rv a2, iv (0 : Int32), iv (0 : Int32), .val .null, u_] [(.ref v2), (.ref a1)])) (fun t k => st5 _ k) ?_
  obtain ⟨T6, h6, X6, e6, W6, st6⟩ := putF X5 hx hZ2 hown2 (host := "") (Or.inl (W_ hw 24 rfl)) Via.refl e5 (F_2.ext E2) (F_1.ext E2) (Or.inr ⟨(W_ hw 20 rfl), rfl, hnm⟩) (W_ hw 5 rfl) (ty := (.array .byte)) (by decide) rfl rfl (g := (mkF m 14 #[rv a1, rv a2, iv (0 : Int32), iv (0 : Int32), .val .null, u_] [(.ref v2), (.ref a1)])) rfl rfl (hb hby d_jdk_42_149_14)
  have hq7 := CHr.wr W6 (CHr.safe hq3 F_1.lt sf_a1) hR3.1
  have hR7 := CHr.trans hR3 hq7
  have N6 := Fr.snoc X6 N0 gn_a1
  refine Goes.via (B := T6.setTop (mkF m 17 #[rv a1, rv a2, iv (0 : Int32), iv (0 : Int32), .val .null, u_] [])) (fun t k => st6 _ k) ?_
  refine Gv T6 18 [(.ref a1)] (fun t k => XS.aloadN X6.here hx rfl (hb hby d_jdk_42_149_17) rfl rfl k) ?_
  obtain ⟨b8, T8, h8, k8, v8, kb8, X8, e8, E8, hS8, hk8, hZ8, hown8, A8, C8, F8, V8, la8, lb8, hC8, -, ns8, st8⟩ := ldcCH X6 hx hZ2 hown2 (W_ hw 18 rfl) (own_wS hw) e6 hS2 (Nat.le_trans hk2 (Nat.le_of_eq (Wr.size W6).symm)) hEL (List.mem_of_getElem? (i := 2) rfl) hR7.1 (vs := []) (z := (0 : Int32)) ⟨by decide, by decide⟩ (by decide) (by decide) (g := (mkF m 18 #[rv a1, rv a2, iv (0 : Int32), iv (0 : Int32), .val .null, u_] [(.ref a1)])) rfl (hb hby d_jdk_42_149_18) (n := 0) (by decide) (by decide) (by decide) (by decide)
  have hq9 := hC8
  have hR9 := CHr.trans hR7 hq9
  refine Goes.via (B := T8.setTop (mkF m 20 #[rv a1, rv a2, iv (0 : Int32), iv (0 : Int32), .val .null, u_] [(.ref b8), (.ref a1)])) (fun t k => st8 _ k) ?_
  obtain ⟨T10, X10, e10, st10⟩ := getF X8 hx hZ8 hown8 (host := "") (Or.inl (W_ hw 25 rfl)) Via.refl e8 C8 (g := (mkF m 20 #[rv a1, rv a2, iv (0 : Int32), iv (0 : Int32), .val .null, u_] [(.ref b8), (.ref a1)])) rfl rfl (hb hby d_jdk_42_149_20)
  refine Goes.via (B := T10.setTop (mkF m 23 #[rv a1, rv a2, iv (0 : Int32), iv (0 : Int32), .val .null, u_] [(.int (0 : Int32)), (.ref a1)])) (fun t k => st10 _ k) ?_
  have c11 : Fld Z h8 a1 "java/lang/String" "coder" "B" (.int (0 : Int32)) := ((Fld.other W6 (F_3.ext E2) (Or.inr (slot_ne (Or.inr (W_ hw 21 rfl)) (Or.inr (W_ hw 20 rfl)) (by decide) (t := .byte) (t' := (.array .byte)) (by decide) (by decide)))).ext E8)
  obtain ⟨T12, h12, X12, e12, W12, st12⟩ := putFN X10 hx hZ8 hown8 (W_ hw 25 rfl) Via.refl e10 c11 ((Exa.wr W6 (F_1.ext E2)).ext E8) (Or.inr ⟨(W_ hw 21 rfl), rfl, hnm⟩) (W_ hw 5 rfl) (ty := .byte) (v' := (.int (0 : Int32))) (by decide) rfl rfl (g := (mkF m 23 #[rv a1, rv a2, iv (0 : Int32), iv (0 : Int32), .val .null, u_] [(.int (0 : Int32)), (.ref a1)])) rfl rfl (hb hby d_jdk_42_149_23)
  have hq13 := CHr.wr W12 (CHr.safe hq9 (Nat.le_trans (Nat.le_trans F_1.lt E2.1) (Nat.le_of_eq (Wr.size W6).symm)) (CHr.safe hq7 (Nat.le_trans F_1.lt E2.1) (CHr.safe hq3 F_1.lt sf_a1))) hR9.1
  have hR13 := CHr.trans hR9 hq13
  have N12 := Fr.snoc X12 N6 gn_a1
  refine Goes.via (B := T12.setTop (mkF m 26 #[rv a1, rv a2, iv (0 : Int32), iv (0 : Int32), .val .null, u_] [])) (fun t k => st12 _ k) ?_
  have c14 : Fld Z h12 a1 "java/lang/String" "value" "[B" (.ref v2) := (Fld.other W12 ((Fld.same W6 (F_2.ext E2)).ext E8) (Or.inr (slot_ne (Or.inr (W_ hw 20 rfl)) (Or.inr (W_ hw 21 rfl)) (by decide) (t := (.array .byte)) (t' := .byte) (by decide) (by decide))))
  have c15 : Arv Z h12 v2 kb2 .byte (0 : Int32) [] (.int 0) := (Arv.other ((Arv.other V2 W6 (Ne.symm na4)).ext E8) W12 (Ne.symm na4))
  exact fin0 (Q := (own_Q5 Z a1 a2 h0 n0)) (F := EndH Z consts_1) (C := ((Rm 1 4 8 12)).cells) (S := ((Rm 1 4 8 12)).slots) X12 hx Bd.returns (hb hby d_jdk_42_149_26) e12 ⟨v2, kb2, rfl, N12, (((((Keep.refl h0 [a1]).ext E2).wr W6 (Or.inl (List.mem_of_getElem? (i := 0) rfl))).ext E8).wr W12 (Or.inl (List.mem_of_getElem? (i := 0) rfl))), (Exa.wr W12 ((Exa.wr W6 (F_1.ext E2)).ext E8)), c14, (Fld.same W12 c11), c15⟩ (lvH X12 hlk hS8 e12 (Nat.le_trans hk8 (Nat.le_of_eq (Wr.size W12).symm)) hZ8 hEL hR13 (by decide) (by decide))
theorem d_jdk_42_3_0 : decode jdk_42_method_3_code 0 = .ok (.aload_n 0, 1) := by decide +kernel
theorem d_jdk_42_3_1 : decode jdk_42_method_3_code 1 = .ok (.aload_n 1, 1) := by decide +kernel
theorem d_jdk_42_3_2 : decode jdk_42_method_3_code 2 = .ok (.iconst 0, 1) := by decide +kernel
theorem d_jdk_42_3_3 : decode jdk_42_method_3_code 3 = .ok (.aload_n 1, 1) := by decide +kernel
theorem d_jdk_42_3_4 : decode jdk_42_method_3_code 4 = .ok (.arraylength, 1) := by decide +kernel
theorem d_jdk_42_3_5 : decode jdk_42_method_3_code 5 = .ok (.aconst_null, 1) := by decide +kernel
theorem d_jdk_42_3_6 : decode jdk_42_method_3_code 6 = .ok (.invokespecial 27, 3) := by decide +kernel
theorem own_pd3 : parseMethodDescriptor "([CIILjava/lang/Void;)V" = some ⟨[(.array .char), .int, .int, (.object "java/lang/Void")], none⟩ := by decide +kernel
theorem d_jdk_42_3_9 : decode jdk_42_method_3_code 9 = .ok (.return_, 1) := by decide +kernel
theorem own_ef6 (m : MethodId) (x0 : Addr) (x1 : Addr)  : entryFrame m #[(.ref x0), (.ref x1)] 2 = mkF m 0 #[rv x0, rv x1] [] := by first | (simp [entryFrame, mkF, argsToLocals, Value.category]; done) | rfl
abbrev own_Q6 (Z : State) (a1 : Addr) (a2 : Addr) (kc : ClassId) (h0 : Heap) (n0 : Nat) (v : Option Value) (h : Heap) (L : List Loc) : Prop := ∃ ve : Addr, ∃ ke : ClassId, v = none ∧ Fr n0 L ∧ Keep h0 h [a1] ∧ Exa Z h a1 "java/lang/String" ∧ Fld Z h a1 "java/lang/String" "value" "[B" (.ref ve) ∧ Fld Z h a1 "java/lang/String" "coder" "B" (.int (0 : Int32)) ∧ Arv Z h ve ke .byte (0 : Int32) [] (.int 0)
set_option maxRecDepth 65536 in
set_option maxHeartbeats 40000000 in
theorem own_m6 (l : Launch) (Z : State) (a0 : Array Value) (hw : ∀ d ∈ tables_1, d.before a0 Z = true) (ws : List Jvm.Cond) (a1 : Addr) (a2 : Addr) (kc : ClassId) (h0 : Heap) (n0 : Nat) (O0 : Old Z n0 h0) (gn_a1 : n0 ≤ a1) (F_1 : Exa Z h0 a1 "java/lang/String") (F_2 : Fld Z h0 a1 "java/lang/String" "value" "[B" .null) (F_3 : Fld Z h0 a1 "java/lang/String" "coder" "B" (.int (0 : Int32))) (F_4 : Arv Z h0 a2 kc .char (0 : Int32) [] (.int (0 : Int32))) :
    CtrH l Z consts_1 [a1] (⟨"java/lang/String", "<init>", "([C)V"⟩ : MethodName) jdk_42_method_3_code 2 none (Rm 2 4 8 29) #[(.ref a1), (.ref a2)] h0 (own_Q6 Z a1 a2 kc h0 n0) ws := by
  refine MetFree.of_bodySF (plainFor_of_name own_pn1) hisR ?_
  intro p e s m args below meth c s₁ Bd hml0 hP hK
  obtain ⟨rfl, hZ, hh, hC, hsf⟩ := hP
  have hx := Bd.exec
  have hby := Bd.bytes
  have hlk : meth.locks = false := Bd.notSynchronized
  have hml : c.maxLocals = 2 := hml0
  have hown : s.vm.findClass "java/lang/String" = some m.cls := findClass_of_methodNamed Bd.named
  have hnm := (name_of_methodNamed Bd.named Bd.method).1
  have X0 : Stand p l e (Rm 2 4 8 29) (s.setVm s.vm) m #[(.ref a1), (.ref a2)] below meth c s₁ [] 0 0 := Stand.of_body Bd
  have hS0 : s.Since s.vm h0.size := (State.WarmedH.refl s).since _
  have hk0 : h0.size ≤ h0.size := Nat.le_refl _
  have hR0 : CHr Z consts_1 s.vm s.heap s.vm h0 := by rw [hh]; exact CHr.refl hC
  have hEL := own_EW hw
  have sf_a1 : Safe Z consts_1 s.vm h0 a1 := hsf _ (List.mem_of_getElem? (i := 0) rfl)
  have e0 : s₁.heap = h0 := by rw [← hh, Bd.state]; rfl
  have N0 := Fr.nil n0
  show Goes p.tables e below (fun t o => ∃ v L, o = .returned v ∧ (own_Q6 Z a1 a2 kc h0 n0) v t.heap L ∧ EndH Z consts_1 s o t L ((Rm 2 4 8 29)).cells ((Rm 2 4 8 29)).slots) _
  refine Goes.via (B := s₁.setTop (mkF m 0 #[rv a1, rv a2] [])) (fun t k => castTop (own_ef6 m a1 a2) k) ?_
  refine Gv s₁ 1 [(.ref a1)] (fun t k => XS.aloadN X0.here hx rfl (hb hby d_jdk_42_3_0) rfl rfl k) ?_
  refine Gv s₁ 2 [(.ref a2), (.ref a1)] (fun t k => XS.aloadN X0.here hx rfl (hb hby d_jdk_42_3_1) rfl rfl k) ?_
  refine Gv s₁ 3 [(.int (0 : Int32)), (.ref a2), (.ref a1)] (fun t k => XS.iconst X0.here hx rfl (hb hby d_jdk_42_3_2) k) ?_
  refine Gv s₁ 4 [(.ref a2), (.int (0 : Int32)), (.ref a2), (.ref a1)] (fun t k => XS.aloadN X0.here hx rfl (hb hby d_jdk_42_3_3) rfl rfl k) ?_
  obtain ⟨cl1, Ar1, q1, S1, N1, H1, G1⟩ := id F_4
  refine Goes.via (B := s₁.setTop (mkF m 5 #[rv a1, rv a2] [(.int (0 : Int32)), (.int (0 : Int32)), (.ref a2), (.ref a1)])) (fun t k => X0.arraylength hx (by rw [e0]; exact Ar1.1) (State.isArrayOf_alike hZ.alike Ar1.2.1) (g := (mkF m 4 #[rv a1, rv a2] [(.ref a2), (.int (0 : Int32)), (.ref a2), (.ref a1)])) rfl rfl (hb hby d_jdk_42_3_4) t (by rw [(len_of S1 N1)]; exact k)) ?_
  refine Gv s₁ 6 [.null, (.int (0 : Int32)), (.int (0 : Int32)), (.ref a2), (.ref a1)] (fun t k => XS.aconstNull X0.here hx rfl (hb hby d_jdk_42_3_5) k) ?_
  obtain ⟨_, T2, L2, X2, hS2, hZ2, hown2, hC2, ⟨ve2, ke2, rfl, M2, K2, f2_0, f2_1, f2_2, f2_3⟩, st2⟩ := callInitH X0 hx hZ hS0 hk0 hEL hR0.1 (sf := [a1]) (allS ⟨F_1.lt, sf_a1⟩ all0) rfl hown (W_ hw 11 rfl) (W_ hw 12 rfl) (W_ hw 6 rfl) (W_ hw 14 rfl) (by decide) (argsL := [(.ref a2), (.int (0 : Int32)), (.int (0 : Int32)), .null]) (rest := []) (own_m5 l Z a0 hw [] a1 a2 h0 n0 O0 gn_a1 F_1 F_2 F_3) e0 (lenOf own_pd3 rfl) (pc := 6) (Ls := #[rv a1, rv a2]) (st := [.null, (.int (0 : Int32)), (.int (0 : Int32)), (.ref a2), (.ref a1)]) rfl (by rw [hml]; rfl) (hb hby d_jdk_42_3_6) (W := 0) (Nat.le_of_eq rfl) (by decide) (by decide) (by decide) (by decide)
  have N2 := Fr.app N0 M2
  have hq3 := hC2
  have hR3 := CHr.trans hR0 hq3
  refine Goes.via (B := T2.setTop (mkF m 9 #[rv a1, rv a2] [])) (fun t k => st2 _ k) ?_
  exact fin0 (Q := (own_Q6 Z a1 a2 kc h0 n0)) (F := EndH Z consts_1) (C := ((Rm 2 4 8 29)).cells) (S := ((Rm 2 4 8 29)).slots) X2 hx Bd.returns (hb hby d_jdk_42_3_9) rfl ⟨ve2, ke2, rfl, N2, ((Keep.refl h0 [a1]).trans K2 (allS (Or.inl (List.mem_of_getElem? (i := 0) rfl)) all0)), f2_0, f2_1, f2_2, f2_3⟩ (lvH X2 hlk hS2 rfl (Nat.le_refl _) hZ2 hEL hR3 (by decide) (by decide))
theorem own_pn2 : plainName "com/example/baskit/baskit/ClientSideAllowsPinLaw" = true := by first | (simp [plainName, overriddenIn]; done) | decide +kernel
theorem d_2_0 : decode method_2_code 0 = .ok (.iload_n 0, 1) := by decide +kernel
theorem d_2_1 : decode method_2_code 1 = .ok (.bipush 16, 2) := by decide +kernel
theorem d_2_3 : decode method_2_code 3 = .ok (.iushr, 1) := by decide +kernel
theorem d_2_4 : decode method_2_code 4 = .ok (.iconst 3, 1) := by decide +kernel
theorem d_2_5 : decode method_2_code 5 = .ok (.iand, 1) := by decide +kernel
theorem d_2_6 : decode method_2_code 6 = .ok (.istore_n 1, 1) := by decide +kernel
theorem d_2_7 : decode method_2_code 7 = .ok (.iload_n 1, 1) := by decide +kernel
theorem d_2_8 : decode method_2_code 8 = .ok (.ifCond .ne 14, 3) := by decide +kernel
theorem d_2_11 : decode method_2_code 11 = .ok (.new 7, 3) := by decide +kernel
theorem d_2_14 : decode method_2_code 14 = .ok (.dup, 1) := by decide +kernel
theorem d_2_15 : decode method_2_code 15 = .ok (.iconst 0, 1) := by decide +kernel
theorem d_2_16 : decode method_2_code 16 = .ok (.newarray .char, 2) := by decide +kernel
theorem d_2_18 : decode method_2_code 18 = .ok (.invokespecial 9, 3) := by decide +kernel
theorem own_pd4 : parseMethodDescriptor "([C)V" = some ⟨[(.array .char)], none⟩ := by decide +kernel
theorem d_2_21 : decode method_2_code 21 = .ok (.areturn, 1) := by decide +kernel
theorem d_2_22 : decode method_2_code 22 = .ok (.iload_n 1, 1) := by decide +kernel
theorem d_2_23 : decode method_2_code 23 = .ok (.iconst 1, 1) := by decide +kernel
theorem d_2_24 : decode method_2_code 24 = .ok (.if_icmp .ne 13, 3) := by decide +kernel
theorem d_2_27 : decode method_2_code 27 = .ok (.iload_n 0, 1) := by decide +kernel
theorem d_2_28 : decode method_2_code 28 = .ok (.sipush 255, 3) := by decide +kernel
theorem d_2_31 : decode method_2_code 31 = .ok (.iand, 1) := by decide +kernel
theorem d_2_32 : decode method_2_code 32 = .ok (.i2c, 1) := by decide +kernel
theorem d_2_33 : decode method_2_code 33 = .ok (.invokestatic 12, 3) := by decide +kernel
theorem own_pd5 : parseMethodDescriptor "(C)Ljava/lang/String;" = some ⟨[.char], some (.object "java/lang/String")⟩ := by decide +kernel
theorem d_2_36 : decode method_2_code 36 = .ok (.areturn, 1) := by decide +kernel
theorem d_2_37 : decode method_2_code 37 = .ok (.iconst 2, 1) := by decide +kernel
theorem d_2_38 : decode method_2_code 38 = .ok (.newarray .char, 2) := by decide +kernel
theorem d_2_40 : decode method_2_code 40 = .ok (.astore_n 2, 1) := by decide +kernel
theorem d_2_41 : decode method_2_code 41 = .ok (.aload_n 2, 1) := by decide +kernel
theorem d_2_42 : decode method_2_code 42 = .ok (.iconst 0, 1) := by decide +kernel
theorem d_2_43 : decode method_2_code 43 = .ok (.iload_n 0, 1) := by decide +kernel
theorem d_2_44 : decode method_2_code 44 = .ok (.sipush 255, 3) := by decide +kernel
theorem d_2_47 : decode method_2_code 47 = .ok (.iand, 1) := by decide +kernel
theorem d_2_48 : decode method_2_code 48 = .ok (.i2c, 1) := by decide +kernel
theorem d_2_49 : decode method_2_code 49 = .ok (.castore, 1) := by decide +kernel
theorem d_2_50 : decode method_2_code 50 = .ok (.aload_n 2, 1) := by decide +kernel
theorem d_2_51 : decode method_2_code 51 = .ok (.iconst 1, 1) := by decide +kernel
theorem d_2_52 : decode method_2_code 52 = .ok (.iload_n 0, 1) := by decide +kernel
theorem d_2_53 : decode method_2_code 53 = .ok (.bipush 8, 2) := by decide +kernel
theorem d_2_55 : decode method_2_code 55 = .ok (.iushr, 1) := by decide +kernel
theorem d_2_56 : decode method_2_code 56 = .ok (.sipush 255, 3) := by decide +kernel
theorem d_2_59 : decode method_2_code 59 = .ok (.iand, 1) := by decide +kernel
theorem d_2_60 : decode method_2_code 60 = .ok (.i2c, 1) := by decide +kernel
theorem d_2_61 : decode method_2_code 61 = .ok (.castore, 1) := by decide +kernel
theorem d_2_62 : decode method_2_code 62 = .ok (.new 7, 3) := by decide +kernel
theorem d_2_65 : decode method_2_code 65 = .ok (.dup, 1) := by decide +kernel
theorem d_2_66 : decode method_2_code 66 = .ok (.aload_n 2, 1) := by decide +kernel
theorem d_2_67 : decode method_2_code 67 = .ok (.invokespecial 9, 3) := by decide +kernel
theorem own_hw_words {a0 : Array Value} {Z : State} (hw : ∀ d ∈ tables_1, d.before a0 Z = true) : ∀ d ∈ StrChars.Road.words, d.before a0 Z = true := fun d hd => hw d ((by decide +kernel : ∀ d ∈ StrChars.Road.words, d ∈ tables_1) d hd)
theorem d_2_70 : decode method_2_code 70 = .ok (.areturn, 1) := by decide +kernel
theorem own_ef7 (m : MethodId) (x0 : Int32)  : entryFrame m #[(.int x0)] 3 = mkF m 0 #[iv x0, u_, u_] [] := by first | (simp [entryFrame, mkF, argsToLocals, Value.category]; done) | rfl
abbrev own_Q7 (Z : State) (x1 : Int32) (z0 : Int32) (h0 : Heap) (n0 : Nat) (v : Option Value) (h : Heap) (L : List Loc) : Prop := ∃ bs : Addr, ∃ ts : Addr, ∃ ks : ClassId, v = some (.ref bs) ∧ Fr n0 L ∧ Keep h0 h [] ∧ h0.size ≤ bs ∧ Exa Z h bs "java/lang/String" ∧ Fld Z h bs "java/lang/String" "value" "[B" (.ref ts) ∧ Fld Z h bs "java/lang/String" "coder" "B" (.int (0 : Int32)) ∧ Arv Z h ts ks .byte (Int32.ofNat (own_cs x1).length) (((own_cs x1).map StrChars.lo8).map Value.int) (.int 0)
set_option maxRecDepth 65536 in
set_option maxHeartbeats 40000000 in
theorem own_m7 (l : Launch) (Z : State) (a0 : Array Value) (hw : ∀ d ∈ tables_1, d.before a0 Z = true) (ws : List Jvm.Cond) (x1 : Int32) (z0 : Int32) (h0 : Heap) (n0 : Nat) (O0 : Old Z n0 h0) (hz0 : ¬ z0 = (0 : Int32)) (O_1 : Sta Z Z.heap "java/lang/String" "COMPACT_STRINGS" "Z" (.int z0)) :
    CtrH l Z consts_1 [] (⟨"com/example/baskit/baskit/ClientSideAllowsPinLaw", "draw", "(I)Ljava/lang/String;"⟩ : MethodName) method_2_code 3 (some (.object "java/lang/String")) (Rm 4 6 12 66) #[(.int x1)] h0 (own_Q7 Z x1 z0 h0 n0) ws := by
  refine MetFree.of_bodySF (plainFor_of_name own_pn2) hisR ?_
  intro p e s m args below meth c s₁ Bd hml0 hP hK
  obtain ⟨rfl, hZ, hh, hC, hsf⟩ := hP
  have hx := Bd.exec
  have hby := Bd.bytes
  have hlk : meth.locks = false := Bd.notSynchronized
  have hml : c.maxLocals = 3 := hml0
  have hown : s.vm.findClass "com/example/baskit/baskit/ClientSideAllowsPinLaw" = some m.cls := findClass_of_methodNamed Bd.named
  have hnm := (name_of_methodNamed Bd.named Bd.method).1
  have X0 : Stand p l e (Rm 4 6 12 66) (s.setVm s.vm) m #[(.int x1)] below meth c s₁ [] 0 0 := Stand.of_body Bd
  have hS0 : s.Since s.vm h0.size := (State.WarmedH.refl s).since _
  have hk0 : h0.size ≤ h0.size := Nat.le_refl _
  have hR0 : CHr Z consts_1 s.vm s.heap s.vm h0 := by rw [hh]; exact CHr.refl hC
  have hEL := own_EW hw
  have e0 : s₁.heap = h0 := by rw [← hh, Bd.state]; rfl
  have N0 := Fr.nil n0
  show Goes p.tables e below (fun t o => ∃ v L, o = .returned v ∧ (own_Q7 Z x1 z0 h0 n0) v t.heap L ∧ EndH Z consts_1 s o t L ((Rm 4 6 12 66)).cells ((Rm 4 6 12 66)).slots) _
  refine Goes.via (B := s₁.setTop (mkF m 0 #[iv x1, u_, u_] [])) (fun t k => castTop (own_ef7 m x1) k) ?_
  refine Gv s₁ 1 [(.int x1)] (fun t k => XS.iloadN X0.here hx rfl (hb hby d_2_0) rfl k) ?_
  refine Gv s₁ 3 [(.int (16 : Int32)), (.int x1)] (fun t k => XS.bipush X0.here hx rfl (hb hby d_2_1) k) ?_
  refine Gv s₁ 4 [(.int ((x1.toUInt32 >>> ((16 : Int32) &&& 31).toUInt32).toInt32))] (fun t k => XS.iushr X0.here hx rfl (hb hby d_2_3) rfl k) ?_
  refine Gv s₁ 5 [(.int (3 : Int32)), (.int ((x1.toUInt32 >>> ((16 : Int32) &&& 31).toUInt32).toInt32))] (fun t k => XS.iconst X0.here hx rfl (hb hby d_2_4) k) ?_
  refine Gv s₁ 6 [(.int (((x1.toUInt32 >>> ((16 : Int32) &&& 31).toUInt32).toInt32) &&& (3 : Int32)))] (fun t k => XS.iand X0.here hx rfl (hb hby d_2_5) rfl k) ?_
  refine Gv s₁ 7 [] (fun t k => XS.istoreN X0.here hx rfl (hb hby d_2_6) rfl (l' := #[iv x1, iv (((x1.toUInt32 >>> ((16 : Int32) &&& 31).toUInt32).toInt32) &&& (3 : Int32)), u_]) rfl k) ?_
  refine Gv s₁ 8 [(.int (((x1.toUInt32 >>> ((16 : Int32) &&& 31).toUInt32).toInt32) &&& (3 : Int32)))] (fun t k => XS.iloadN X0.here hx rfl (hb hby d_2_7) rfl k) ?_
  by_cases b1 : (((x1.toUInt32 >>> ((16 : Int32) &&& 31).toUInt32).toInt32) &&& (3 : Int32)) = (0 : Int32)
  · refine Gv s₁ 11 [] (fun t k => XS.ifNo X0.here hx rfl (hb hby d_2_8) rfl (XT.i0_ne_f b1) k) ?_
    obtain ⟨T2, h2, X2, e2, E2, A2, D2, U2, st2⟩ := newO X0 hx hZ hown (W_ hw 4 rfl) (W_ hw 5 rfl) (W_ hw 6 rfl) e0 (g := (mkF m 11 #[iv x1, iv (((x1.toUInt32 >>> ((16 : Int32) &&& 31).toUInt32).toInt32) &&& (3 : Int32)), u_] [])) rfl (hb hby d_2_11) (by decide) (by decide)
    obtain ⟨b2, g2⟩ : ∃ z, z = h0.size := ⟨_, rfl⟩
    rw [← g2] at A2 D2 U2 st2
    have gn2 : n0 ≤ b2 := Nat.le_trans (old_le O0) (Nat.le_of_eq g2.symm)
    have gs2 : h0.size ≤ b2 := Nat.le_trans (Keep.refl h0 []).1 (Nat.le_of_eq g2.symm)
    have hq3 := CHr.ext E2 hR0.1
    have hR3 := CHr.trans hR0 hq3
    have sf4 := Safe.ext E2 hR0.1 (Safe.new (Nat.le_of_eq g2.symm))
    have F2_value : Fld Z h2 b2 "java/lang/String" "value" "[B" .null := D2 (Or.inr (W_ hw 20 rfl)) (ty := (.array .byte)) (by decide)
    have F2_coder : Fld Z h2 b2 "java/lang/String" "coder" "B" (.int (0 : Int32)) := D2 (Or.inr (W_ hw 21 rfl)) (ty := .byte) (by decide)
    refine Goes.via (B := T2.setTop (mkF m 14 #[iv x1, iv (((x1.toUInt32 >>> ((16 : Int32) &&& 31).toUInt32).toInt32) &&& (3 : Int32)), u_] [(.ref b2)])) (fun t k => st2 _ k) ?_
    refine Gv T2 15 [(.ref b2), (.ref b2)] (fun t k => XS.dup X2.here hx rfl (hb hby d_2_14) rfl rfl k) ?_
    refine Gv T2 16 [(.int (0 : Int32)), (.ref b2), (.ref b2)] (fun t k => XS.iconst X2.here hx rfl (hb hby d_2_15) k) ?_
    obtain ⟨T5, h5, k5, X5, e5, E5, A5, st5⟩ := newP X2 hx hZ (W_ hw 7 rfl) e2 (g := (mkF m 16 #[iv x1, iv (((x1.toUInt32 >>> ((16 : Int32) &&& 31).toUInt32).toInt32) &&& (3 : Int32)), u_] [(.int (0 : Int32)), (.ref b2), (.ref b2)])) rfl (hb hby d_2_16) rfl (by decide) (cap := 0) (by decide) (by decide) (by decide) (by decide)
    obtain ⟨b5, g5⟩ : ∃ z, z = h2.size := ⟨_, rfl⟩
    rw [← g5] at A5 st5
    have gn5 : n0 ≤ b5 := Nat.le_trans (old_le (O0.ext E2)) (Nat.le_of_eq g5.symm)
    have gs5 : h0.size ≤ b5 := Nat.le_trans ((Keep.refl h0 []).ext E2).1 (Nat.le_of_eq g5.symm)
    have hq6 := CHr.ext E5 hR3.1
    have hR6 := CHr.trans hR3 hq6
    have sf7 := Safe.ext E5 hR3.1 (Safe.new (Nat.le_of_eq g5.symm))
    have V5 : Arv Z h5 b5 k5 .char (0 : Int32) [] (.int (0 : Int32)) := Arv.new A5 (by decide)
    refine Goes.via (B := T5.setTop (mkF m 18 #[iv x1, iv (((x1.toUInt32 >>> ((16 : Int32) &&& 31).toUInt32).toInt32) &&& (3 : Int32)), u_] [(.ref b5), (.ref b2), (.ref b2)])) (fun t k => st5 _ k) ?_
    obtain ⟨_, T8, L8, X8, hS8, hZ8, hown8, hC8, ⟨ve8, ke8, rfl, M8, K8, f8_0, f8_1, f8_2, f8_3⟩, st8⟩ := callInitH X5 hx hZ hS0 (Nat.le_trans (Nat.le_trans hk0 E2.1) E5.1) hEL hR6.1 (sf := [b2]) (allS ⟨(Nat.le_trans A2.lt E5.1), (CHr.safe hq6 A2.lt sf4)⟩ all0) rfl hown (W_ hw 8 rfl) (W_ hw 9 rfl) (W_ hw 6 rfl) (W_ hw 10 rfl) (by decide) (argsL := [(.ref b5)]) (rest := [(.ref b2)]) (own_m6 l Z a0 hw [] b2 b5 k5 h5 n0 ((O0.ext E2).ext E5) gn2 (A2.ext E5) (F2_value.ext E5) (F2_coder.ext E5) V5) e5 (lenOf own_pd4 rfl) (pc := 18) (Ls := #[iv x1, iv (((x1.toUInt32 >>> ((16 : Int32) &&& 31).toUInt32).toInt32) &&& (3 : Int32)), u_]) (st := [(.ref b5), (.ref b2), (.ref b2)]) rfl (by rw [hml]; rfl) (hb hby d_2_18) (W := 1) (Nat.le_of_eq rfl) (by decide) (by decide) (by decide) (by decide)
    have N8 := Fr.app N0 M8
    have hq9 := hC8
    have hR9 := CHr.trans hR6 hq9
    refine Goes.via (B := T8.setTop (mkF m 21 #[iv x1, iv (((x1.toUInt32 >>> ((16 : Int32) &&& 31).toUInt32).toInt32) &&& (3 : Int32)), u_] [(.ref b2)])) (fun t k => st8 _ k) ?_
    have w10 : Arv Z T8.heap ve8 ke8 .byte (Int32.ofNat (own_cs x1).length) (((own_cs x1).map StrChars.lo8).map Value.int) (.int 0) := by rw [show own_cs x1 = [] from if_pos b1]; exact f8_3
    exact finA (Q := (own_Q7 Z x1 z0 h0 n0)) (F := EndH Z consts_1) (C := ((Rm 4 6 12 66)).cells) (S := ((Rm 4 6 12 66)).slots) X8 hx Bd.returns rfl rfl rfl (hb hby d_2_21) rfl ⟨b2, ve8, ke8, rfl, N8, ((((Keep.refl h0 []).ext E2).ext E5).trans K8 (allS (Or.inr gs2) all0)), gs2, f8_0, f8_1, f8_2, w10⟩ (lvH X8 hlk hS8 rfl (Nat.le_refl _) hZ8 hEL hR9 (by decide) (by decide))
  · refine Gv s₁ 22 [] (fun t k => XS.ifYes X0.here hx rfl (pc0 := 8) (pc' := 22) rfl (hb hby d_2_8) rfl (XT.i0_ne_t b1) (by decide) (by decide) k) ?_
    refine Gv s₁ 23 [(.int (((x1.toUInt32 >>> ((16 : Int32) &&& 31).toUInt32).toInt32) &&& (3 : Int32)))] (fun t k => XS.iloadN X0.here hx rfl (hb hby d_2_22) rfl k) ?_
    refine Gv s₁ 24 [(.int (1 : Int32)), (.int (((x1.toUInt32 >>> ((16 : Int32) &&& 31).toUInt32).toInt32) &&& (3 : Int32)))] (fun t k => XS.iconst X0.here hx rfl (hb hby d_2_23) k) ?_
    by_cases b11 : (((x1.toUInt32 >>> ((16 : Int32) &&& 31).toUInt32).toInt32) &&& (3 : Int32)) = (1 : Int32)
    · refine Gv s₁ 27 [] (fun t k => XS.icmpNo X0.here hx rfl (hb hby d_2_24) rfl (XT.ii_ne_f b11) k) ?_
      refine Gv s₁ 28 [(.int x1)] (fun t k => XS.iloadN X0.here hx rfl (hb hby d_2_27) rfl k) ?_
      refine Gv s₁ 31 [(.int (255 : Int32)), (.int x1)] (fun t k => XS.sipush X0.here hx rfl (hb hby d_2_28) k) ?_
      refine Gv s₁ 32 [(.int (x1 &&& (255 : Int32)))] (fun t k => XS.iand X0.here hx rfl (hb hby d_2_31) rfl k) ?_
      refine Gv s₁ 33 [(.int ((x1 &&& (255 : Int32)).toUInt32.toUInt16.toUInt32.toInt32))] (fun t k => XS.i2c X0.here hx rfl (hb hby d_2_32) rfl k) ?_
      have q12 : ((x1 &&& (255 : Int32)).toUInt32.toUInt16.toUInt32.toInt32) = (x1 &&& (255 : Int32)) := own_ch x1
      rw [q12]
      obtain ⟨_, T13, L13, X13, ⟨ba13, ta13, kt13, rfl, M13, K13, z13_0, z13_1, f13_0, f13_1, f13_2, f13_3⟩, st13⟩ := callStatic X0 hx hZ hown (W_ hw 136 rfl) (W_ hw 137 rfl) (W_ hw 6 rfl) (W_ hw 138 rfl) (by decide) (argsL := [(.int (x1 &&& (255 : Int32)))]) (rest := []) (own_m4 l Z a0 hw [] (x1 &&& (255 : Int32)) z0 h0 n0 O0 hz0 (own_cr x1) O_1) e0 (lenOf own_pd5 rfl) (pc := 33) (Ls := #[iv x1, iv (((x1.toUInt32 >>> ((16 : Int32) &&& 31).toUInt32).toInt32) &&& (3 : Int32)), u_]) (st := [(.int (x1 &&& (255 : Int32)))]) rfl (by rw [hml]; rfl) (hb hby d_2_33) (W := 0) (Nat.le_of_eq rfl) (by decide) (by decide) (by decide) (by decide)
      have N13 := Fr.app N0 M13
      have gn13_0 : n0 ≤ ba13 := Nat.le_trans (old_le O0) z13_0
      have gs13_0 : h0.size ≤ ba13 := Nat.le_trans (Keep.refl h0 []).1 z13_0
      have gn13_1 : n0 ≤ ta13 := Nat.le_trans (old_le O0) z13_1
      have gs13_1 : h0.size ≤ ta13 := Nat.le_trans (Keep.refl h0 []).1 z13_1
      have hq14 := CHr.keep K13 sf0 hR0.1
      have hR14 := CHr.trans hR0 hq14
      refine Goes.via (B := T13.setTop (mkF m 36 #[iv x1, iv (((x1.toUInt32 >>> ((16 : Int32) &&& 31).toUInt32).toInt32) &&& (3 : Int32)), u_] [(.ref ba13)])) (fun t k => st13 _ k) ?_
      have w15 : Arv Z T13.heap ta13 kt13 .byte (Int32.ofNat (own_cs x1).length) (((own_cs x1).map StrChars.lo8).map Value.int) (.int 0) := by rw [show own_cs x1 = [x1 &&& (255 : Int32)] from (by unfold own_cs; rw [if_neg b1, if_pos b11])]; exact f13_3
      exact finA (Q := (own_Q7 Z x1 z0 h0 n0)) (F := EndH Z consts_1) (C := ((Rm 4 6 12 66)).cells) (S := ((Rm 4 6 12 66)).slots) X13 hx Bd.returns rfl rfl rfl (hb hby d_2_36) rfl ⟨ba13, ta13, kt13, rfl, N13, ((Keep.refl h0 []).trans K13 all0), gs13_0, f13_0, f13_1, f13_2, w15⟩ (lvH X13 hlk hS0 rfl (Nat.le_trans hk0 K13.1) hZ hEL hR14 (by decide) (by decide))
    · refine Gv s₁ 37 [] (fun t k => XS.icmpYes X0.here hx rfl (pc0 := 24) (pc' := 37) rfl (hb hby d_2_24) rfl (XT.ii_ne_t b11) (by decide) (by decide) k) ?_
      refine Gv s₁ 38 [(.int (2 : Int32))] (fun t k => XS.iconst X0.here hx rfl (hb hby d_2_37) k) ?_
      obtain ⟨T16, h16, k16, X16, e16, E16, A16, st16⟩ := newP X0 hx hZ (W_ hw 7 rfl) e0 (g := (mkF m 38 #[iv x1, iv (((x1.toUInt32 >>> ((16 : Int32) &&& 31).toUInt32).toInt32) &&& (3 : Int32)), u_] [(.int (2 : Int32))])) rfl (hb hby d_2_38) rfl (by decide) (cap := 2) (by decide) (by decide) (by decide) (by decide)
      obtain ⟨b16, g16⟩ : ∃ z, z = h0.size := ⟨_, rfl⟩
      rw [← g16] at A16 st16
      have gn16 : n0 ≤ b16 := Nat.le_trans (old_le O0) (Nat.le_of_eq g16.symm)
      have gs16 : h0.size ≤ b16 := Nat.le_trans (Keep.refl h0 []).1 (Nat.le_of_eq g16.symm)
      have hq17 := CHr.ext E16 hR0.1
      have hR17 := CHr.trans hR0 hq17
      have sf18 := Safe.ext E16 hR0.1 (Safe.new (Nat.le_of_eq g16.symm))
      have V16 : Arv Z h16 b16 k16 .char (2 : Int32) [(.int (0 : Int32)), (.int (0 : Int32))] (.int (0 : Int32)) := (Arv.new A16 (by decide)).pad (pad_rep [] (.int (0 : Int32)) 2)
      refine Goes.via (B := T16.setTop (mkF m 40 #[iv x1, iv (((x1.toUInt32 >>> ((16 : Int32) &&& 31).toUInt32).toInt32) &&& (3 : Int32)), u_] [(.ref b16)])) (fun t k => st16 _ k) ?_
      refine Gv T16 41 [] (fun t k => XS.astoreN X16.here hx rfl (hb hby d_2_40) rfl rfl (l' := #[iv x1, iv (((x1.toUInt32 >>> ((16 : Int32) &&& 31).toUInt32).toInt32) &&& (3 : Int32)), rv b16]) rfl k) ?_
      refine Gv T16 42 [(.ref b16)] (fun t k => XS.aloadN X16.here hx rfl (hb hby d_2_41) rfl rfl k) ?_
      refine Gv T16 43 [(.int (0 : Int32)), (.ref b16)] (fun t k => XS.iconst X16.here hx rfl (hb hby d_2_42) k) ?_
      refine Gv T16 44 [(.int x1), (.int (0 : Int32)), (.ref b16)] (fun t k => XS.iloadN X16.here hx rfl (hb hby d_2_43) rfl k) ?_
      refine Gv T16 47 [(.int (255 : Int32)), (.int x1), (.int (0 : Int32)), (.ref b16)] (fun t k => XS.sipush X16.here hx rfl (hb hby d_2_44) k) ?_
      refine Gv T16 48 [(.int (x1 &&& (255 : Int32))), (.int (0 : Int32)), (.ref b16)] (fun t k => XS.iand X16.here hx rfl (hb hby d_2_47) rfl k) ?_
      refine Gv T16 49 [(.int ((x1 &&& (255 : Int32)).toUInt32.toUInt16.toUInt32.toInt32)), (.int (0 : Int32)), (.ref b16)] (fun t k => XS.i2c X16.here hx rfl (hb hby d_2_48) rfl k) ?_
      have q19 : ((x1 &&& (255 : Int32)).toUInt32.toUInt16.toUInt32.toInt32) = (x1 &&& (255 : Int32)) := own_ch _
      rw [q19]
      obtain ⟨cl20, Ar20, q20, S20, N20, H20, G20⟩ := id V16
      obtain ⟨T20, h20, X20, e20, W20, st20⟩ := stC X16 hx hZ e16 Ar20 (j := (0 : Int32)) (inb_of S20 ⟨by decide, by decide⟩) (g := (mkF m 49 #[iv x1, iv (((x1.toUInt32 >>> ((16 : Int32) &&& 31).toUInt32).toInt32) &&& (3 : Int32)), rv b16] [(.int (x1 &&& (255 : Int32))), (.int (0 : Int32)), (.ref b16)])) rfl rfl (hb hby d_2_49)
      have wn20 : nar .char (x1 &&& (255 : Int32)) = (x1 &&& (255 : Int32)) := i2c_mask _
      have fn20 : fits .char (.int (x1 &&& (255 : Int32))) = true := by rw [← wn20]; exact fits_nar_char _
      rw [wn20] at W20
      have Nf20 := Fr.snoc X20 N0 gn16
      have hq21 := CHr.wr W20 sf18 hR17.1
      have hR21 := CHr.trans hR17 hq21
      have V20 : Arv Z h20 b16 k16 .char (2 : Int32) [(.int (x1 &&& (255 : Int32))), (.int (0 : Int32))] (.int (0 : Int32)) := Arv.set Ar20 q20 S20 N20 H20 G20 fn20 W20 0 rfl (Nat.le_of_ble_eq_true rfl)
      refine Goes.via (B := T20.setTop (mkF m 50 #[iv x1, iv (((x1.toUInt32 >>> ((16 : Int32) &&& 31).toUInt32).toInt32) &&& (3 : Int32)), rv b16] [])) (fun t k => st20 _ k) ?_
      refine Gv T20 51 [(.ref b16)] (fun t k => XS.aloadN X20.here hx rfl (hb hby d_2_50) rfl rfl k) ?_
      refine Gv T20 52 [(.int (1 : Int32)), (.ref b16)] (fun t k => XS.iconst X20.here hx rfl (hb hby d_2_51) k) ?_
      refine Gv T20 53 [(.int x1), (.int (1 : Int32)), (.ref b16)] (fun t k => XS.iloadN X20.here hx rfl (hb hby d_2_52) rfl k) ?_
      refine Gv T20 55 [(.int (8 : Int32)), (.int x1), (.int (1 : Int32)), (.ref b16)] (fun t k => XS.bipush X20.here hx rfl (hb hby d_2_53) k) ?_
      refine Gv T20 56 [(.int ((x1.toUInt32 >>> ((8 : Int32) &&& 31).toUInt32).toInt32)), (.int (1 : Int32)), (.ref b16)] (fun t k => XS.iushr X20.here hx rfl (hb hby d_2_55) rfl k) ?_
      refine Gv T20 59 [(.int (255 : Int32)), (.int ((x1.toUInt32 >>> ((8 : Int32) &&& 31).toUInt32).toInt32)), (.int (1 : Int32)), (.ref b16)] (fun t k => XS.sipush X20.here hx rfl (hb hby d_2_56) k) ?_
      refine Gv T20 60 [(.int (((x1.toUInt32 >>> ((8 : Int32) &&& 31).toUInt32).toInt32) &&& (255 : Int32))), (.int (1 : Int32)), (.ref b16)] (fun t k => XS.iand X20.here hx rfl (hb hby d_2_59) rfl k) ?_
      refine Gv T20 61 [(.int ((((x1.toUInt32 >>> ((8 : Int32) &&& 31).toUInt32).toInt32) &&& (255 : Int32)).toUInt32.toUInt16.toUInt32.toInt32)), (.int (1 : Int32)), (.ref b16)] (fun t k => XS.i2c X20.here hx rfl (hb hby d_2_60) rfl k) ?_
      have q22 : ((((x1.toUInt32 >>> ((8 : Int32) &&& 31).toUInt32).toInt32) &&& (255 : Int32)).toUInt32.toUInt16.toUInt32.toInt32) = (((x1.toUInt32 >>> ((8 : Int32) &&& 31).toUInt32).toInt32) &&& (255 : Int32)) := own_ch _
      rw [q22]
      obtain ⟨cl23, Ar23, q23, S23, N23, H23, G23⟩ := id V20
      obtain ⟨T23, h23, X23, e23, W23, st23⟩ := stC X20 hx hZ e20 Ar23 (j := (1 : Int32)) (inb_of S23 ⟨by decide, by decide⟩) (g := (mkF m 61 #[iv x1, iv (((x1.toUInt32 >>> ((16 : Int32) &&& 31).toUInt32).toInt32) &&& (3 : Int32)), rv b16] [(.int (((x1.toUInt32 >>> ((8 : Int32) &&& 31).toUInt32).toInt32) &&& (255 : Int32))), (.int (1 : Int32)), (.ref b16)])) rfl rfl (hb hby d_2_61)
      have wn23 : nar .char (((x1.toUInt32 >>> ((8 : Int32) &&& 31).toUInt32).toInt32) &&& (255 : Int32)) = (((x1.toUInt32 >>> ((8 : Int32) &&& 31).toUInt32).toInt32) &&& (255 : Int32)) := i2c_mask _
      have fn23 : fits .char (.int (((x1.toUInt32 >>> ((8 : Int32) &&& 31).toUInt32).toInt32) &&& (255 : Int32))) = true := by rw [← wn23]; exact fits_nar_char _
      rw [wn23] at W23
      have Nf23 := Fr.snoc X23 Nf20 gn16
      have hq24 := CHr.wr W23 (CHr.safe hq21 V16.lt sf18) hR21.1
      have hR24 := CHr.trans hR21 hq24
      have V23 : Arv Z h23 b16 k16 .char (2 : Int32) [(.int (x1 &&& (255 : Int32))), (.int (((x1.toUInt32 >>> ((8 : Int32) &&& 31).toUInt32).toInt32) &&& (255 : Int32)))] (.int (0 : Int32)) := Arv.set Ar23 q23 S23 N23 H23 G23 fn23 W23 1 rfl (Nat.le_of_ble_eq_true rfl)
      refine Goes.via (B := T23.setTop (mkF m 62 #[iv x1, iv (((x1.toUInt32 >>> ((16 : Int32) &&& 31).toUInt32).toInt32) &&& (3 : Int32)), rv b16] [])) (fun t k => st23 _ k) ?_
      obtain ⟨T25, h25, X25, e25, E25, A25, D25, U25, st25⟩ := newO X23 hx hZ hown (W_ hw 4 rfl) (W_ hw 5 rfl) (W_ hw 6 rfl) e23 (g := (mkF m 62 #[iv x1, iv (((x1.toUInt32 >>> ((16 : Int32) &&& 31).toUInt32).toInt32) &&& (3 : Int32)), rv b16] [])) rfl (hb hby d_2_62) (by decide) (by decide)
      obtain ⟨b25, g25⟩ : ∃ z, z = h23.size := ⟨_, rfl⟩
      rw [← g25] at A25 D25 U25 st25
      have gn25 : n0 ≤ b25 := Nat.le_trans (old_le (((O0.ext E16).wr W20 gn16).wr W23 gn16)) (Nat.le_of_eq g25.symm)
      have gs25 : h0.size ≤ b25 := Nat.le_trans ((((Keep.refl h0 []).ext E16).wr W20 (Or.inr gs16)).wr W23 (Or.inr gs16)).1 (Nat.le_of_eq g25.symm)
      have hq26 := CHr.ext E25 hR24.1
      have hR26 := CHr.trans hR24 hq26
      have sf27 := Safe.ext E25 hR24.1 (Safe.new (Nat.le_of_eq g25.symm))
      have F25_value : Fld Z h25 b25 "java/lang/String" "value" "[B" .null := D25 (Or.inr (W_ hw 20 rfl)) (ty := (.array .byte)) (by decide)
      have F25_coder : Fld Z h25 b25 "java/lang/String" "coder" "B" (.int (0 : Int32)) := D25 (Or.inr (W_ hw 21 rfl)) (ty := .byte) (by decide)
      refine Goes.via (B := T25.setTop (mkF m 65 #[iv x1, iv (((x1.toUInt32 >>> ((16 : Int32) &&& 31).toUInt32).toInt32) &&& (3 : Int32)), rv b16] [(.ref b25)])) (fun t k => st25 _ k) ?_
      refine Gv T25 66 [(.ref b25), (.ref b25)] (fun t k => XS.dup X25.here hx rfl (hb hby d_2_65) rfl rfl k) ?_
      refine Gv T25 67 [(.ref b16), (.ref b25), (.ref b25)] (fun t k => XS.aloadN X25.here hx rfl (hb hby d_2_66) rfl rfl k) ?_
      have hpc : ∀ c ∈ ([(x1 &&& (255 : Int32)), (((x1.toUInt32 >>> ((8 : Int32) &&& 31).toUInt32).toInt32) &&& (255 : Int32))] : List Int32), ¬ c < 0 ∧ ¬ (255 : Int32) < c := by
        intro c hc
        simp only [List.mem_cons, List.not_mem_nil, or_false] at hc
        rcases hc with rfl | rfl <;> exact own_cr _
      obtain ⟨_, T28, L28, X28, ⟨rfl, M28, K28, E28, C28, t28, kb28, gn28, gs28, nx28, F28, V28⟩, st28⟩ := callInitB X25 hx hZ rfl hown (W_ hw 8 rfl) (W_ hw 9 rfl) (W_ hw 10 rfl) (by decide) (argsL := [(.ref b16)]) (rest := [(.ref b25)]) (W := 1) (StrChars.Road.backV (s := (s.setVm s.vm)) (W := 1) hZ (own_hw_words hw) (kI := 4) (W_ hw 5 rfl) (x := b25) (b := b16) (cs := ([(x1 &&& (255 : Int32)), (((x1.toUInt32 >>> ((8 : Int32) &&& 31).toUInt32).toInt32) &&& (255 : Int32))] : List Int32)) (bs := ([(x1 &&& (255 : Int32)), (((x1.toUInt32 >>> ((8 : Int32) &&& 31).toUInt32).toInt32) &&& (255 : Int32))] : List Int32).map (fun c => c.toInt8.toInt32)) (n := 2) gn25 (old_le ((((O0.ext E16).wr W20 gn16).wr W23 gn16).ext E25)) A25 F25_value F25_coder (V23.ext E25) (Sta.ext ((((O0.ext E16).wr W20 gn16).wr W23 gn16).ext E25).2 O_1) hz0 rfl rfl (by decide) (by decide) hpc rfl (by decide) (by decide)) e25 (lenOf own_pd4 rfl) (pc := 67) (Ls := #[iv x1, iv (((x1.toUInt32 >>> ((16 : Int32) &&& 31).toUInt32).toInt32) &&& (3 : Int32)), rv b16]) (st := [(.ref b16), (.ref b25), (.ref b25)]) rfl (by rw [hml]; rfl) (hb hby d_2_67) (Nat.le_of_eq rfl) (by decide) (by decide)
      have hq29 := CHr.keep K28 (sfS sf27 sf0) hR26.1
      have hR29 := CHr.trans hR26 hq29
      have N28 := Fr.app Nf23 M28
      have gz28 : h0.size ≤ t28 := Nat.le_trans (((((Keep.refl h0 []).ext E16).wr W20 (Or.inr gs16)).wr W23 (Or.inr gs16)).ext E25).1 gs28
      refine Goes.via (B := T28.setTop (mkF m 70 #[iv x1, iv (((x1.toUInt32 >>> ((16 : Int32) &&& 31).toUInt32).toInt32) &&& (3 : Int32)), rv b16] [(.ref b25)])) (fun t k => st28 _ k) ?_
      have w30 : Arv Z T28.heap t28 kb28 .byte (Int32.ofNat (own_cs x1).length) (((own_cs x1).map StrChars.lo8).map Value.int) (.int 0) := by rw [show own_cs x1 = [x1 &&& (255 : Int32), ((x1.toUInt32 >>> ((8 : Int32) &&& 31).toUInt32).toInt32) &&& (255 : Int32)] from (by unfold own_cs; rw [if_neg b1, if_neg b11])]; exact V28
      exact finA (Q := (own_Q7 Z x1 z0 h0 n0)) (F := EndH Z consts_1) (C := ((Rm 4 6 12 66)).cells) (S := ((Rm 4 6 12 66)).slots) X28 hx Bd.returns rfl rfl rfl (hb hby d_2_70) rfl ⟨b25, t28, kb28, rfl, N28, ((((((Keep.refl h0 []).ext E16).wr W20 (Or.inr gs16)).wr W23 (Or.inr gs16)).ext E25).trans K28 (allS (Or.inr gs25) all0)), gs25, E28, F28, C28, w30⟩ (lvH X28 hlk hS0 rfl (Nat.le_trans (Nat.le_trans (Nat.le_trans (Nat.le_trans (Nat.le_trans hk0 E16.1) (Nat.le_of_eq (Wr.size W20).symm)) (Nat.le_of_eq (Wr.size W23).symm)) E25.1) K28.1) hZ hEL hR29 (by decide) (by decide))
theorem own_pn3 : plainName "java/util/AbstractCollection" = true := by first | (simp [plainName, overriddenIn]; done) | decide +kernel
theorem d_jdk_22_1_0 : decode jdk_22_method_1_code 0 = .ok (.aload_n 0, 1) := by decide +kernel
theorem d_jdk_22_1_1 : decode jdk_22_method_1_code 1 = .ok (.invokespecial 1, 3) := by decide +kernel
theorem d_jdk_22_1_4 : decode jdk_22_method_1_code 4 = .ok (.return_, 1) := by decide +kernel
theorem own_ef8 (m : MethodId) (x0 : Addr)  : entryFrame m #[(.ref x0)] 1 = mkF m 0 #[rv x0] [] := by first | (simp [entryFrame, mkF, argsToLocals, Value.category]; done) | rfl
abbrev own_Q8 (Z : State) (a1 : Addr) (h0 : Heap) (n0 : Nat) (v : Option Value) (h : Heap) (L : List Loc) : Prop := v = none ∧ Fr n0 L ∧ h = h0
set_option maxRecDepth 65536 in
set_option maxHeartbeats 40000000 in
theorem own_m8 (l : Launch) (Z : State) (a0 : Array Value) (hw : ∀ d ∈ tables_1, d.before a0 Z = true) (ws : List Jvm.Cond) (a1 : Addr) (h0 : Heap) (n0 : Nat) (O0 : Old Z n0 h0) :
    Ctr l Z (⟨"java/util/AbstractCollection", "<init>", "()V"⟩ : MethodName) jdk_22_method_1_code 1 none (Rm 1 0 0 12) #[(.ref a1)] h0 (own_Q8 Z a1 h0 n0) ws := by
  refine MetFree.of_bodySF (plainFor_of_name own_pn3) hisR ?_
  intro p e s m args below meth c s₁ Bd hml0 hP hK
  obtain ⟨rfl, hZ, hh⟩ := hP
  have hx := Bd.exec
  have hby := Bd.bytes
  have hlk : meth.locks = false := Bd.notSynchronized
  have hml : c.maxLocals = 1 := hml0
  have hown : s.vm.findClass "java/util/AbstractCollection" = some m.cls := findClass_of_methodNamed Bd.named
  have hnm := (name_of_methodNamed Bd.named Bd.method).1
  have X0 : Stand p l e (Rm 1 0 0 12) s m #[(.ref a1)] below meth c s₁ [] 0 0 := Stand.of_body Bd
  have e0 : s₁.heap = h0 := by rw [← hh, Bd.state]; rfl
  have N0 := Fr.nil n0
  show Goes p.tables e below (fun t o => ∃ v L, o = .returned v ∧ (own_Q8 Z a1 h0 n0) v t.heap L ∧ FrameEnd s o t L ((Rm 1 0 0 12)).cells ((Rm 1 0 0 12)).slots) _
  refine Goes.via (B := s₁.setTop (mkF m 0 #[rv a1] [])) (fun t k => castTop (own_ef8 m a1) k) ?_
  refine Gv s₁ 1 [(.ref a1)] (fun t k => XS.aloadN X0.here hx rfl (hb hby d_jdk_22_1_0) rfl rfl k) ?_
  obtain ⟨T1, X1, e1, st1⟩ := initO X0 hx hZ hown (W_ hw 55 rfl) (W_ hw 16 rfl) (W_ hw 17 rfl) e0 (g := (mkF m 1 #[rv a1] [(.ref a1)])) rfl (by rw [hml]; rfl) rfl (hb hby d_jdk_22_1_1) (by decide) (W := 0) (by show 2 * 0 + _ ≤ _; exact Nat.le_of_eq rfl) (by decide)
  refine Goes.via (B := T1.setTop (mkF m 4 #[rv a1] [])) (fun t k => st1 _ k) ?_
  exact fin0 (Q := (own_Q8 Z a1 h0 n0)) (F := FrameEnd) (C := ((Rm 1 0 0 12)).cells) (S := ((Rm 1 0 0 12)).slots) X1 hx Bd.returns (hb hby d_jdk_22_1_4) e1 ⟨rfl, N0, rfl⟩ (lvN X1 hlk (by decide) (by decide))
theorem own_pn4 : plainName "java/util/ImmutableCollections$AbstractImmutableCollection" = true := by first | (simp [plainName, overriddenIn]; done) | decide +kernel
theorem d_jdk_47_1_0 : decode jdk_47_method_1_code 0 = .ok (.aload_n 0, 1) := by decide +kernel
theorem d_jdk_47_1_1 : decode jdk_47_method_1_code 1 = .ok (.invokespecial 1, 3) := by decide +kernel
theorem own_pd6 : parseMethodDescriptor "()V" = some ⟨[], none⟩ := by decide +kernel
theorem d_jdk_47_1_4 : decode jdk_47_method_1_code 4 = .ok (.return_, 1) := by decide +kernel
theorem own_ef9 (m : MethodId) (x0 : Addr)  : entryFrame m #[(.ref x0)] 1 = mkF m 0 #[rv x0] [] := by first | (simp [entryFrame, mkF, argsToLocals, Value.category]; done) | rfl
abbrev own_Q9 (Z : State) (a1 : Addr) (h0 : Heap) (n0 : Nat) (v : Option Value) (h : Heap) (L : List Loc) : Prop := v = none ∧ Fr n0 L ∧ h = h0
set_option maxRecDepth 65536 in
set_option maxHeartbeats 40000000 in
theorem own_m9 (l : Launch) (Z : State) (a0 : Array Value) (hw : ∀ d ∈ tables_1, d.before a0 Z = true) (ws : List Jvm.Cond) (a1 : Addr) (h0 : Heap) (n0 : Nat) (O0 : Old Z n0 h0) :
    Ctr l Z (⟨"java/util/ImmutableCollections$AbstractImmutableCollection", "<init>", "()V"⟩ : MethodName) jdk_47_method_1_code 1 none (Rm 2 0 0 24) #[(.ref a1)] h0 (own_Q9 Z a1 h0 n0) ws := by
  refine MetFree.of_bodySF (plainFor_of_name own_pn4) hisR ?_
  intro p e s m args below meth c s₁ Bd hml0 hP hK
  obtain ⟨rfl, hZ, hh⟩ := hP
  have hx := Bd.exec
  have hby := Bd.bytes
  have hlk : meth.locks = false := Bd.notSynchronized
  have hml : c.maxLocals = 1 := hml0
  have hown : s.vm.findClass "java/util/ImmutableCollections$AbstractImmutableCollection" = some m.cls := findClass_of_methodNamed Bd.named
  have hnm := (name_of_methodNamed Bd.named Bd.method).1
  have X0 : Stand p l e (Rm 2 0 0 24) s m #[(.ref a1)] below meth c s₁ [] 0 0 := Stand.of_body Bd
  have e0 : s₁.heap = h0 := by rw [← hh, Bd.state]; rfl
  have N0 := Fr.nil n0
  show Goes p.tables e below (fun t o => ∃ v L, o = .returned v ∧ (own_Q9 Z a1 h0 n0) v t.heap L ∧ FrameEnd s o t L ((Rm 2 0 0 24)).cells ((Rm 2 0 0 24)).slots) _
  refine Goes.via (B := s₁.setTop (mkF m 0 #[rv a1] [])) (fun t k => castTop (own_ef9 m a1) k) ?_
  refine Gv s₁ 1 [(.ref a1)] (fun t k => XS.aloadN X0.here hx rfl (hb hby d_jdk_47_1_0) rfl rfl k) ?_
  obtain ⟨_, T1, L1, X1, ⟨rfl, M1, K1⟩, st1⟩ := callInit X0 hx hZ rfl hown (W_ hw 49 rfl) (W_ hw 50 rfl) (W_ hw 53 rfl) (W_ hw 54 rfl) (by decide) (argsL := []) (rest := []) (own_m8 l Z a0 hw [] a1 h0 n0 O0 ) e0 (lenOf own_pd6 rfl) (pc := 1) (Ls := #[rv a1]) (st := [(.ref a1)]) rfl (by rw [hml]; rfl) (hb hby d_jdk_47_1_1) (W := 0) (Nat.le_of_eq rfl) (by decide) (by decide) (by decide) (by decide)
  have N1 := Fr.app N0 M1
  refine Goes.via (B := T1.setTop (mkF m 4 #[rv a1] [])) (fun t k => st1 _ k) ?_
  exact fin0 (Q := (own_Q9 Z a1 h0 n0)) (F := FrameEnd) (C := ((Rm 2 0 0 24)).cells) (S := ((Rm 2 0 0 24)).slots) X1 hx Bd.returns (hb hby d_jdk_47_1_4) K1 ⟨rfl, N1, rfl⟩ (lvN X1 hlk (by decide) (by decide))
theorem own_pn5 : plainName "java/util/ImmutableCollections$AbstractImmutableSet" = true := by first | (simp [plainName, overriddenIn]; done) | decide +kernel
theorem d_jdk_100_1_0 : decode jdk_100_method_1_code 0 = .ok (.aload_n 0, 1) := by decide +kernel
theorem d_jdk_100_1_1 : decode jdk_100_method_1_code 1 = .ok (.invokespecial 1, 3) := by decide +kernel
theorem d_jdk_100_1_4 : decode jdk_100_method_1_code 4 = .ok (.return_, 1) := by decide +kernel
theorem own_ef10 (m : MethodId) (x0 : Addr)  : entryFrame m #[(.ref x0)] 1 = mkF m 0 #[rv x0] [] := by first | (simp [entryFrame, mkF, argsToLocals, Value.category]; done) | rfl
abbrev own_Q10 (Z : State) (a1 : Addr) (h0 : Heap) (n0 : Nat) (v : Option Value) (h : Heap) (L : List Loc) : Prop := v = none ∧ Fr n0 L ∧ h = h0
set_option maxRecDepth 65536 in
set_option maxHeartbeats 40000000 in
theorem own_m10 (l : Launch) (Z : State) (a0 : Array Value) (hw : ∀ d ∈ tables_1, d.before a0 Z = true) (ws : List Jvm.Cond) (a1 : Addr) (h0 : Heap) (n0 : Nat) (O0 : Old Z n0 h0) :
    Ctr l Z (⟨"java/util/ImmutableCollections$AbstractImmutableSet", "<init>", "()V"⟩ : MethodName) jdk_100_method_1_code 1 none (Rm 3 0 0 36) #[(.ref a1)] h0 (own_Q10 Z a1 h0 n0) ws := by
  refine MetFree.of_bodySF (plainFor_of_name own_pn5) hisR ?_
  intro p e s m args below meth c s₁ Bd hml0 hP hK
  obtain ⟨rfl, hZ, hh⟩ := hP
  have hx := Bd.exec
  have hby := Bd.bytes
  have hlk : meth.locks = false := Bd.notSynchronized
  have hml : c.maxLocals = 1 := hml0
  have hown : s.vm.findClass "java/util/ImmutableCollections$AbstractImmutableSet" = some m.cls := findClass_of_methodNamed Bd.named
  have hnm := (name_of_methodNamed Bd.named Bd.method).1
  have X0 : Stand p l e (Rm 3 0 0 36) s m #[(.ref a1)] below meth c s₁ [] 0 0 := Stand.of_body Bd
  have e0 : s₁.heap = h0 := by rw [← hh, Bd.state]; rfl
  have N0 := Fr.nil n0
  show Goes p.tables e below (fun t o => ∃ v L, o = .returned v ∧ (own_Q10 Z a1 h0 n0) v t.heap L ∧ FrameEnd s o t L ((Rm 3 0 0 36)).cells ((Rm 3 0 0 36)).slots) _
  refine Goes.via (B := s₁.setTop (mkF m 0 #[rv a1] [])) (fun t k => castTop (own_ef10 m a1) k) ?_
  refine Gv s₁ 1 [(.ref a1)] (fun t k => XS.aloadN X0.here hx rfl (hb hby d_jdk_100_1_0) rfl rfl k) ?_
  obtain ⟨_, T1, L1, X1, ⟨rfl, M1, K1⟩, st1⟩ := callInit X0 hx hZ rfl hown (W_ hw 43 rfl) (W_ hw 44 rfl) (W_ hw 47 rfl) (W_ hw 48 rfl) (by decide) (argsL := []) (rest := []) (own_m9 l Z a0 hw [] a1 h0 n0 O0 ) e0 (lenOf own_pd6 rfl) (pc := 1) (Ls := #[rv a1]) (st := [(.ref a1)]) rfl (by rw [hml]; rfl) (hb hby d_jdk_100_1_1) (W := 0) (Nat.le_of_eq rfl) (by decide) (by decide) (by decide) (by decide)
  have N1 := Fr.app N0 M1
  refine Goes.via (B := T1.setTop (mkF m 4 #[rv a1] [])) (fun t k => st1 _ k) ?_
  exact fin0 (Q := (own_Q10 Z a1 h0 n0)) (F := FrameEnd) (C := ((Rm 3 0 0 36)).cells) (S := ((Rm 3 0 0 36)).slots) X1 hx Bd.returns (hb hby d_jdk_100_1_4) K1 ⟨rfl, N1, rfl⟩ (lvN X1 hlk (by decide) (by decide))
theorem own_pn6 : plainName "java/util/Objects" = true := by first | (simp [plainName, overriddenIn]; done) | decide +kernel
theorem d_jdk_31_10_0 : decode jdk_31_method_10_code 0 = .ok (.aload_n 0, 1) := by decide +kernel
theorem d_jdk_31_10_1 : decode jdk_31_method_10_code 1 = .ok (.ifnonnull 11, 3) := by decide +kernel
theorem d_jdk_31_10_12 : decode jdk_31_method_10_code 12 = .ok (.aload_n 0, 1) := by decide +kernel
theorem d_jdk_31_10_13 : decode jdk_31_method_10_code 13 = .ok (.areturn, 1) := by decide +kernel
theorem own_ef11 (m : MethodId) (x0 : Addr)  : entryFrame m #[(.ref x0)] 1 = mkF m 0 #[rv x0] [] := by first | (simp [entryFrame, mkF, argsToLocals, Value.category]; done) | rfl
abbrev own_Q11 (Z : State) (a1 : Addr) (h0 : Heap) (n0 : Nat) (v : Option Value) (h : Heap) (L : List Loc) : Prop := v = some (.ref a1) ∧ Fr n0 L ∧ h = h0
set_option maxRecDepth 65536 in
set_option maxHeartbeats 40000000 in
theorem own_m11 (l : Launch) (Z : State) (a0 : Array Value) (hw : ∀ d ∈ tables_1, d.before a0 Z = true) (ws : List Jvm.Cond) (a1 : Addr) (h0 : Heap) (n0 : Nat) (O0 : Old Z n0 h0) :
    Ctr l Z (⟨"java/util/Objects", "requireNonNull", "(Ljava/lang/Object;)Ljava/lang/Object;"⟩ : MethodName) jdk_31_method_10_code 1 (some (.object "java/lang/Object")) (Rm 0 0 0 0) #[(.ref a1)] h0 (own_Q11 Z a1 h0 n0) ws := by
  refine MetFree.of_bodySF (plainFor_of_name own_pn6) hisR ?_
  intro p e s m args below meth c s₁ Bd hml0 hP hK
  obtain ⟨rfl, hZ, hh⟩ := hP
  have hx := Bd.exec
  have hby := Bd.bytes
  have hlk : meth.locks = false := Bd.notSynchronized
  have hml : c.maxLocals = 1 := hml0
  have hown : s.vm.findClass "java/util/Objects" = some m.cls := findClass_of_methodNamed Bd.named
  have hnm := (name_of_methodNamed Bd.named Bd.method).1
  have X0 : Stand p l e (Rm 0 0 0 0) s m #[(.ref a1)] below meth c s₁ [] 0 0 := Stand.of_body Bd
  have e0 : s₁.heap = h0 := by rw [← hh, Bd.state]; rfl
  have N0 := Fr.nil n0
  show Goes p.tables e below (fun t o => ∃ v L, o = .returned v ∧ (own_Q11 Z a1 h0 n0) v t.heap L ∧ FrameEnd s o t L ((Rm 0 0 0 0)).cells ((Rm 0 0 0 0)).slots) _
  refine Goes.via (B := s₁.setTop (mkF m 0 #[rv a1] [])) (fun t k => castTop (own_ef11 m a1) k) ?_
  refine Gv s₁ 1 [(.ref a1)] (fun t k => XS.aloadN X0.here hx rfl (hb hby d_jdk_31_10_0) rfl rfl k) ?_
  refine Gv s₁ 12 [] (fun t k => XS.ifnonnullYes X0.here hx rfl (pc0 := 1) (pc' := 12) rfl (hb hby d_jdk_31_10_1) rfl (by decide) (by decide) k) ?_
  refine Gv s₁ 13 [(.ref a1)] (fun t k => XS.aloadN X0.here hx rfl (hb hby d_jdk_31_10_12) rfl rfl k) ?_
  exact finA (Q := (own_Q11 Z a1 h0 n0)) (F := FrameEnd) (C := ((Rm 0 0 0 0)).cells) (S := ((Rm 0 0 0 0)).slots) X0 hx Bd.returns rfl rfl rfl (hb hby d_jdk_31_10_13) e0 ⟨rfl, N0, rfl⟩ (lvN X0 hlk (by decide) (by decide))
theorem own_pn7 : plainName "java/util/ImmutableCollections$Set12" = true := by first | (simp [plainName, overriddenIn]; done) | decide +kernel
theorem d_jdk_101_1_0 : decode jdk_101_method_1_code 0 = .ok (.aload_n 0, 1) := by decide +kernel
theorem d_jdk_101_1_1 : decode jdk_101_method_1_code 1 = .ok (.invokespecial 1, 3) := by decide +kernel
theorem d_jdk_101_1_4 : decode jdk_101_method_1_code 4 = .ok (.aload_n 0, 1) := by decide +kernel
theorem d_jdk_101_1_5 : decode jdk_101_method_1_code 5 = .ok (.aload_n 1, 1) := by decide +kernel
theorem d_jdk_101_1_6 : decode jdk_101_method_1_code 6 = .ok (.invokestatic 7, 3) := by decide +kernel
theorem own_pd7 : parseMethodDescriptor "(Ljava/lang/Object;)Ljava/lang/Object;" = some ⟨[(.object "java/lang/Object")], some (.object "java/lang/Object")⟩ := by decide +kernel
theorem d_jdk_101_1_9 : decode jdk_101_method_1_code 9 = .ok (.putfield 13, 3) := by decide +kernel
theorem d_jdk_101_1_12 : decode jdk_101_method_1_code 12 = .ok (.aload_n 0, 1) := by decide +kernel
theorem d_jdk_101_1_13 : decode jdk_101_method_1_code 13 = .ok (.getstatic 19, 3) := by decide +kernel
theorem d_jdk_101_1_16 : decode jdk_101_method_1_code 16 = .ok (.putfield 24, 3) := by decide +kernel
theorem d_jdk_101_1_19 : decode jdk_101_method_1_code 19 = .ok (.return_, 1) := by decide +kernel
theorem own_ef12 (m : MethodId) (x0 : Addr) (x1 : Addr)  : entryFrame m #[(.ref x0), (.ref x1)] 2 = mkF m 0 #[rv x0, rv x1] [] := by first | (simp [entryFrame, mkF, argsToLocals, Value.category]; done) | rfl
abbrev own_Q12 (Z : State) (a1 : Addr) (a2 : Addr) (em : Addr) (h0 : Heap) (n0 : Nat) (v : Option Value) (h : Heap) (L : List Loc) : Prop := v = none ∧ Fr n0 L ∧ Keep h0 h [a1] ∧ Exa Z h a1 "java/util/ImmutableCollections$Set12" ∧ Fld Z h a1 "java/util/ImmutableCollections$Set12" "e0" "Ljava/lang/Object;" (.ref a2) ∧ Fld Z h a1 "java/util/ImmutableCollections$Set12" "e1" "Ljava/lang/Object;" (.ref em)
set_option maxRecDepth 65536 in
set_option maxHeartbeats 40000000 in
theorem own_m12 (l : Launch) (Z : State) (a0 : Array Value) (hw : ∀ d ∈ tables_1, d.before a0 Z = true) (ws : List Jvm.Cond) (a1 : Addr) (a2 : Addr) (em : Addr) (h0 : Heap) (n0 : Nat) (O0 : Old Z n0 h0) (gn_a1 : n0 ≤ a1) (O_1 : Sta Z Z.heap "java/util/ImmutableCollections" "EMPTY" "Ljava/lang/Object;" (.ref em)) (F_1 : Exa Z h0 a1 "java/util/ImmutableCollections$Set12") (F_2 : Fld Z h0 a1 "java/util/ImmutableCollections$Set12" "e0" "Ljava/lang/Object;" .null) (F_3 : Fld Z h0 a1 "java/util/ImmutableCollections$Set12" "e1" "Ljava/lang/Object;" .null) :
    Ctr l Z (⟨"java/util/ImmutableCollections$Set12", "<init>", "(Ljava/lang/Object;)V"⟩ : MethodName) jdk_101_method_1_code 2 none (Rm 4 0 0 48) #[(.ref a1), (.ref a2)] h0 (own_Q12 Z a1 a2 em h0 n0) ws := by
  refine MetFree.of_bodySF (plainFor_of_name own_pn7) hisR ?_
  intro p e s m args below meth c s₁ Bd hml0 hP hK
  obtain ⟨rfl, hZ, hh⟩ := hP
  have hx := Bd.exec
  have hby := Bd.bytes
  have hlk : meth.locks = false := Bd.notSynchronized
  have hml : c.maxLocals = 2 := hml0
  have hown : s.vm.findClass "java/util/ImmutableCollections$Set12" = some m.cls := findClass_of_methodNamed Bd.named
  have hnm := (name_of_methodNamed Bd.named Bd.method).1
  have X0 : Stand p l e (Rm 4 0 0 48) s m #[(.ref a1), (.ref a2)] below meth c s₁ [] 0 0 := Stand.of_body Bd
  have e0 : s₁.heap = h0 := by rw [← hh, Bd.state]; rfl
  have N0 := Fr.nil n0
  show Goes p.tables e below (fun t o => ∃ v L, o = .returned v ∧ (own_Q12 Z a1 a2 em h0 n0) v t.heap L ∧ FrameEnd s o t L ((Rm 4 0 0 48)).cells ((Rm 4 0 0 48)).slots) _
  refine Goes.via (B := s₁.setTop (mkF m 0 #[rv a1, rv a2] [])) (fun t k => castTop (own_ef12 m a1 a2) k) ?_
  refine Gv s₁ 1 [(.ref a1)] (fun t k => XS.aloadN X0.here hx rfl (hb hby d_jdk_101_1_0) rfl rfl k) ?_
  obtain ⟨_, T1, L1, X1, ⟨rfl, M1, K1⟩, st1⟩ := callInit X0 hx hZ rfl hown (W_ hw 37 rfl) (W_ hw 38 rfl) (W_ hw 41 rfl) (W_ hw 42 rfl) (by decide) (argsL := []) (rest := []) (own_m10 l Z a0 hw [] a1 h0 n0 O0 ) e0 (lenOf own_pd6 rfl) (pc := 1) (Ls := #[rv a1, rv a2]) (st := [(.ref a1)]) rfl (by rw [hml]; rfl) (hb hby d_jdk_101_1_1) (W := 0) (Nat.le_of_eq rfl) (by decide) (by decide) (by decide) (by decide)
  have N1 := Fr.app N0 M1
  refine Goes.via (B := T1.setTop (mkF m 4 #[rv a1, rv a2] [])) (fun t k => st1 _ k) ?_
  refine Gv T1 5 [(.ref a1)] (fun t k => XS.aloadN X1.here hx rfl (hb hby d_jdk_101_1_4) rfl rfl k) ?_
  refine Gv T1 6 [(.ref a2), (.ref a1)] (fun t k => XS.aloadN X1.here hx rfl (hb hby d_jdk_101_1_5) rfl rfl k) ?_
  obtain ⟨_, T2, L2, X2, ⟨rfl, M2, K2⟩, st2⟩ := callStatic X1 hx hZ hown (W_ hw 56 rfl) (W_ hw 57 rfl) (W_ hw 58 rfl) (W_ hw 59 rfl) (by decide) (argsL := [(.ref a2)]) (rest := [(.ref a1)]) (own_m11 l Z a0 hw [] a2 h0 n0 O0 ) K1 (lenOf own_pd7 rfl) (pc := 6) (Ls := #[rv a1, rv a2]) (st := [(.ref a2), (.ref a1)]) rfl (by rw [hml]; rfl) (hb hby d_jdk_101_1_6) (W := 1) (Nat.le_of_eq rfl) (by decide) (by decide) (by decide) (by decide)
  have N2 := Fr.app N1 M2
  refine Goes.via (B := T2.setTop (mkF m 9 #[rv a1, rv a2] [(.ref a2), (.ref a1)])) (fun t k => st2 _ k) ?_
  obtain ⟨T3, h3, X3, e3, W3, st3⟩ := putF X2 hx hZ hown (host := "") (Or.inl (W_ hw 60 rfl)) Via.refl K2 F_2 F_1 (Or.inr ⟨(W_ hw 61 rfl), rfl, hnm⟩) (W_ hw 31 rfl) (ty := (.object "java/lang/Object")) (by decide) rfl rfl (g := (mkF m 9 #[rv a1, rv a2] [(.ref a2), (.ref a1)])) rfl rfl (hb hby d_jdk_101_1_9)
  have N3 := Fr.snoc X3 N2 gn_a1
  refine Goes.via (B := T3.setTop (mkF m 12 #[rv a1, rv a2] [])) (fun t k => st3 _ k) ?_
  refine Gv T3 13 [(.ref a1)] (fun t k => XS.aloadN X3.here hx rfl (hb hby d_jdk_101_1_12) rfl rfl k) ?_
  obtain ⟨T4, X4, e4, st4⟩ := getS2 X3 hx hZ hown (Or.inr (W_ hw 62 rfl)) Via.refl e3 (Sta.ext (O0.wr W3 gn_a1).2 O_1) (g := (mkF m 13 #[rv a1, rv a2] [(.ref a1)])) rfl (hb hby d_jdk_101_1_13)
  refine Goes.via (B := T4.setTop (mkF m 16 #[rv a1, rv a2] [(.ref em), (.ref a1)])) (fun t k => st4 _ k) ?_
  have c5 : Fld Z h3 a1 "java/util/ImmutableCollections$Set12" "e1" "Ljava/lang/Object;" .null := (Fld.other W3 F_3 (Or.inr (slot_ne (Or.inr (W_ hw 65 rfl)) (Or.inr (W_ hw 61 rfl)) (by decide) (t := (.object "java/lang/Object")) (t' := (.object "java/lang/Object")) (by decide) (by decide))))
  obtain ⟨T6, h6, X6, e6, W6, st6⟩ := putF X4 hx hZ hown (host := "") (Or.inl (W_ hw 64 rfl)) Via.refl e4 c5 (Exa.wr W3 F_1) (Or.inr ⟨(W_ hw 65 rfl), rfl, hnm⟩) (W_ hw 31 rfl) (ty := (.object "java/lang/Object")) (by decide) rfl rfl (g := (mkF m 16 #[rv a1, rv a2] [(.ref em), (.ref a1)])) rfl rfl (hb hby d_jdk_101_1_16)
  have N6 := Fr.snoc X6 N3 gn_a1
  refine Goes.via (B := T6.setTop (mkF m 19 #[rv a1, rv a2] [])) (fun t k => st6 _ k) ?_
  have c7 : Fld Z h6 a1 "java/util/ImmutableCollections$Set12" "e0" "Ljava/lang/Object;" (.ref a2) := (Fld.other W6 (Fld.same W3 F_2) (Or.inr (slot_ne (Or.inr (W_ hw 61 rfl)) (Or.inr (W_ hw 65 rfl)) (by decide) (t := (.object "java/lang/Object")) (t' := (.object "java/lang/Object")) (by decide) (by decide))))
  exact fin0 (Q := (own_Q12 Z a1 a2 em h0 n0)) (F := FrameEnd) (C := ((Rm 4 0 0 48)).cells) (S := ((Rm 4 0 0 48)).slots) X6 hx Bd.returns (hb hby d_jdk_101_1_19) e6 ⟨rfl, N6, (((Keep.refl h0 [a1]).wr W3 (Or.inl (List.mem_of_getElem? (i := 0) rfl))).wr W6 (Or.inl (List.mem_of_getElem? (i := 0) rfl))), (Exa.wr W6 (Exa.wr W3 F_1)), c7, (Fld.same W6 c5)⟩ (lvN X6 hlk (by decide) (by decide))
theorem own_pn8 : plainName "java/util/Set" = true := by first | (simp [plainName, overriddenIn]; done) | decide +kernel
theorem d_jdk_96_18_0 : decode jdk_96_method_18_code 0 = .ok (.new 15, 3) := by decide +kernel
theorem d_jdk_96_18_3 : decode jdk_96_method_18_code 3 = .ok (.dup, 1) := by decide +kernel
theorem d_jdk_96_18_4 : decode jdk_96_method_18_code 4 = .ok (.aload_n 0, 1) := by decide +kernel
theorem d_jdk_96_18_5 : decode jdk_96_method_18_code 5 = .ok (.invokespecial 17, 3) := by decide +kernel
theorem own_pd8 : parseMethodDescriptor "(Ljava/lang/Object;)V" = some ⟨[(.object "java/lang/Object")], none⟩ := by decide +kernel
theorem d_jdk_96_18_8 : decode jdk_96_method_18_code 8 = .ok (.areturn, 1) := by decide +kernel
theorem own_ef13 (m : MethodId) (x0 : Addr)  : entryFrame m #[(.ref x0)] 1 = mkF m 0 #[rv x0] [] := by first | (simp [entryFrame, mkF, argsToLocals, Value.category]; done) | rfl
abbrev own_Q13 (Z : State) (a2 : Addr) (em : Addr) (h0 : Heap) (n0 : Nat) (v : Option Value) (h : Heap) (L : List Loc) : Prop := ∃ r : Addr, v = some (.ref r) ∧ Fr n0 L ∧ Keep h0 h [] ∧ h0.size ≤ r ∧ Exa Z h r "java/util/ImmutableCollections$Set12" ∧ Fld Z h r "java/util/ImmutableCollections$Set12" "e0" "Ljava/lang/Object;" (.ref a2) ∧ Fld Z h r "java/util/ImmutableCollections$Set12" "e1" "Ljava/lang/Object;" (.ref em)
set_option maxRecDepth 65536 in
set_option maxHeartbeats 40000000 in
theorem own_m13 (l : Launch) (Z : State) (a0 : Array Value) (hw : ∀ d ∈ tables_1, d.before a0 Z = true) (ws : List Jvm.Cond) (a2 : Addr) (em : Addr) (h0 : Heap) (n0 : Nat) (O0 : Old Z n0 h0) (O_1 : Sta Z Z.heap "java/util/ImmutableCollections" "EMPTY" "Ljava/lang/Object;" (.ref em)) :
    Ctr l Z (⟨"java/util/Set", "of", "(Ljava/lang/Object;)Ljava/util/Set;"⟩ : MethodName) jdk_96_method_18_code 1 (some (.object "java/util/Set")) (Rm 5 1 2 62) #[(.ref a2)] h0 (own_Q13 Z a2 em h0 n0) ws := by
  refine MetFree.of_bodySF (plainFor_of_name own_pn8) hisR ?_
  intro p e s m args below meth c s₁ Bd hml0 hP hK
  obtain ⟨rfl, hZ, hh⟩ := hP
  have hx := Bd.exec
  have hby := Bd.bytes
  have hlk : meth.locks = false := Bd.notSynchronized
  have hml : c.maxLocals = 1 := hml0
  have hown : s.vm.findClass "java/util/Set" = some m.cls := findClass_of_methodNamed Bd.named
  have hnm := (name_of_methodNamed Bd.named Bd.method).1
  have X0 : Stand p l e (Rm 5 1 2 62) s m #[(.ref a2)] below meth c s₁ [] 0 0 := Stand.of_body Bd
  have e0 : s₁.heap = h0 := by rw [← hh, Bd.state]; rfl
  have N0 := Fr.nil n0
  show Goes p.tables e below (fun t o => ∃ v L, o = .returned v ∧ (own_Q13 Z a2 em h0 n0) v t.heap L ∧ FrameEnd s o t L ((Rm 5 1 2 62)).cells ((Rm 5 1 2 62)).slots) _
  refine Goes.via (B := s₁.setTop (mkF m 0 #[rv a2] [])) (fun t k => castTop (own_ef13 m a2) k) ?_
  obtain ⟨T1, h1, X1, e1, E1, A1, D1, U1, st1⟩ := newO X0 hx hZ hown (W_ hw 30 rfl) (W_ hw 31 rfl) (W_ hw 32 rfl) e0 (g := (mkF m 0 #[rv a2] [])) rfl (hb hby d_jdk_96_18_0) (by decide) (by decide)
  obtain ⟨b1, g1⟩ : ∃ z, z = h0.size := ⟨_, rfl⟩
  rw [← g1] at A1 D1 U1 st1
  have gn1 : n0 ≤ b1 := Nat.le_trans (old_le O0) (Nat.le_of_eq g1.symm)
  have gs1 : h0.size ≤ b1 := Nat.le_trans (Keep.refl h0 []).1 (Nat.le_of_eq g1.symm)
  have F1_e0 : Fld Z h1 b1 "java/util/ImmutableCollections$Set12" "e0" "Ljava/lang/Object;" .null := D1 (Or.inr (W_ hw 61 rfl)) (ty := (.object "java/lang/Object")) (by decide)
  have F1_e1 : Fld Z h1 b1 "java/util/ImmutableCollections$Set12" "e1" "Ljava/lang/Object;" .null := D1 (Or.inr (W_ hw 65 rfl)) (ty := (.object "java/lang/Object")) (by decide)
  refine Goes.via (B := T1.setTop (mkF m 3 #[rv a2] [(.ref b1)])) (fun t k => st1 _ k) ?_
  refine Gv T1 4 [(.ref b1), (.ref b1)] (fun t k => XS.dup X1.here hx rfl (hb hby d_jdk_96_18_3) rfl rfl k) ?_
  refine Gv T1 5 [(.ref a2), (.ref b1), (.ref b1)] (fun t k => XS.aloadN X1.here hx rfl (hb hby d_jdk_96_18_4) rfl rfl k) ?_
  obtain ⟨_, T2, L2, X2, ⟨rfl, M2, K2, f2_0, f2_1, f2_2⟩, st2⟩ := callInit X1 hx hZ rfl hown (W_ hw 33 rfl) (W_ hw 34 rfl) (W_ hw 32 rfl) (W_ hw 36 rfl) (by decide) (argsL := [(.ref a2)]) (rest := [(.ref b1)]) (own_m12 l Z a0 hw [] b1 a2 em h1 n0 (O0.ext E1) gn1 O_1 A1 F1_e0 F1_e1) e1 (lenOf own_pd8 rfl) (pc := 5) (Ls := #[rv a2]) (st := [(.ref a2), (.ref b1), (.ref b1)]) rfl (by rw [hml]; rfl) (hb hby d_jdk_96_18_5) (W := 1) (Nat.le_of_eq rfl) (by decide) (by decide) (by decide) (by decide)
  have N2 := Fr.app N0 M2
  refine Goes.via (B := T2.setTop (mkF m 8 #[rv a2] [(.ref b1)])) (fun t k => st2 _ k) ?_
  exact finA (Q := (own_Q13 Z a2 em h0 n0)) (F := FrameEnd) (C := ((Rm 5 1 2 62)).cells) (S := ((Rm 5 1 2 62)).slots) X2 hx Bd.returns rfl rfl rfl (hb hby d_jdk_96_18_8) rfl ⟨b1, rfl, N2, (((Keep.refl h0 []).ext E1).trans K2 (allS (Or.inr gs1) all0)), gs1, f2_0, f2_1, f2_2⟩ (lvN X2 hlk (by decide) (by decide))
theorem d_jdk_101_2_0 : decode jdk_101_method_2_code 0 = .ok (.aload_n 0, 1) := by decide +kernel
theorem d_jdk_101_2_1 : decode jdk_101_method_2_code 1 = .ok (.invokespecial 1, 3) := by decide +kernel
theorem d_jdk_101_2_4 : decode jdk_101_method_2_code 4 = .ok (.aload_n 1, 1) := by decide +kernel
theorem d_jdk_101_2_5 : decode jdk_101_method_2_code 5 = .ok (.aload_n 2, 1) := by decide +kernel
theorem d_jdk_101_2_6 : decode jdk_101_method_2_code 6 = .ok (.invokestatic 7, 3) := by decide +kernel
theorem own_hw_wordsEq {a0 : Array Value} {Z : State} (hw : ∀ d ∈ tables_1, d.before a0 Z = true) : ∀ d ∈ StrChars.Road.wordsEq, d.before a0 Z = true := fun d hd => hw d ((by decide +kernel : ∀ d ∈ StrChars.Road.wordsEq, d ∈ tables_1) d hd)
theorem own_pd9 : parseMethodDescriptor "(Ljava/lang/Object;)Z" = some ⟨[(.object "java/lang/Object")], some .boolean⟩ := by decide +kernel
theorem d_jdk_101_2_9 : decode jdk_101_method_2_code 9 = .ok (.invokevirtual 27, 3) := by decide +kernel
theorem d_jdk_101_2_12 : decode jdk_101_method_2_code 12 = .ok (.ifCond .eq 30, 3) := by decide +kernel
theorem d_jdk_101_2_42 : decode jdk_101_method_2_code 42 = .ok (.aload_n 0, 1) := by decide +kernel
theorem d_jdk_101_2_43 : decode jdk_101_method_2_code 43 = .ok (.aload_n 1, 1) := by decide +kernel
theorem d_jdk_101_2_44 : decode jdk_101_method_2_code 44 = .ok (.putfield 13, 3) := by decide +kernel
theorem d_jdk_101_2_47 : decode jdk_101_method_2_code 47 = .ok (.aload_n 0, 1) := by decide +kernel
theorem d_jdk_101_2_48 : decode jdk_101_method_2_code 48 = .ok (.aload_n 2, 1) := by decide +kernel
theorem d_jdk_101_2_49 : decode jdk_101_method_2_code 49 = .ok (.putfield 24, 3) := by decide +kernel
theorem d_jdk_101_2_52 : decode jdk_101_method_2_code 52 = .ok (.return_, 1) := by decide +kernel
theorem own_ef14 (m : MethodId) (x0 : Addr) (x1 : Addr) (x2 : Addr)  : entryFrame m #[(.ref x0), (.ref x1), (.ref x2)] 3 = mkF m 0 #[rv x0, rv x1, rv x2] [] := by first | (simp [entryFrame, mkF, argsToLocals, Value.category]; done) | rfl
abbrev own_Q14 (Z : State) (a1 : Addr) (a2 : Addr) (a3 : Addr) (t2a : Addr) (k2a : ClassId) (t3a : Addr) (k3a : ClassId) (ca : List Int32) (cb : List Int32) (z0 : Int32) (h0 : Heap) (n0 : Nat) (v : Option Value) (h : Heap) (L : List Loc) : Prop := v = none ∧ Fr n0 L ∧ Keep h0 h [a1] ∧ Exa Z h a1 "java/util/ImmutableCollections$Set12" ∧ Fld Z h a1 "java/util/ImmutableCollections$Set12" "e0" "Ljava/lang/Object;" (.ref a2) ∧ Fld Z h a1 "java/util/ImmutableCollections$Set12" "e1" "Ljava/lang/Object;" (.ref a3)
set_option maxRecDepth 65536 in
set_option maxHeartbeats 40000000 in
theorem own_m14 (l : Launch) (Z : State) (a0 : Array Value) (hw : ∀ d ∈ tables_1, d.before a0 Z = true) (ws : List Jvm.Cond) (a1 : Addr) (a2 : Addr) (a3 : Addr) (t2a : Addr) (k2a : ClassId) (t3a : Addr) (k3a : ClassId) (ca : List Int32) (cb : List Int32) (z0 : Int32) (h0 : Heap) (n0 : Nat) (O0 : Old Z n0 h0) (hz0 : ¬ z0 = (0 : Int32)) (hca : ∀ c ∈ ca, ¬ c < 0 ∧ ¬ (255 : Int32) < c) (lca : ca.length ≤ 4000) (hcb : ∀ c ∈ cb, ¬ c < 0 ∧ ¬ (255 : Int32) < c) (lcb : cb.length ≤ 4000) (hne : ¬ ca = cb) (gn_a1 : n0 ≤ a1) (O_1 : Sta Z Z.heap "java/lang/String" "COMPACT_STRINGS" "Z" (.int z0)) (F_1 : Exa Z h0 a1 "java/util/ImmutableCollections$Set12") (F_2 : Fld Z h0 a1 "java/util/ImmutableCollections$Set12" "e0" "Ljava/lang/Object;" .null) (F_3 : Fld Z h0 a1 "java/util/ImmutableCollections$Set12" "e1" "Ljava/lang/Object;" .null) (F_4 : Exa Z h0 a2 "java/lang/String") (F_5 : Fld Z h0 a2 "java/lang/String" "value" "[B" (.ref t2a)) (F_6 : Fld Z h0 a2 "java/lang/String" "coder" "B" (.int (0 : Int32))) (F_7 : Arv Z h0 t2a k2a .byte (Int32.ofNat ca.length) ((ca.map StrChars.lo8).map Value.int) (.int 0)) (F_8 : Exa Z h0 a3 "java/lang/String") (F_9 : Fld Z h0 a3 "java/lang/String" "value" "[B" (.ref t3a)) (F_10 : Fld Z h0 a3 "java/lang/String" "coder" "B" (.int (0 : Int32))) (F_11 : Arv Z h0 t3a k3a .byte (Int32.ofNat cb.length) ((cb.map StrChars.lo8).map Value.int) (.int 0)) :
    Ctr l Z (⟨"java/util/ImmutableCollections$Set12", "<init>", "(Ljava/lang/Object;Ljava/lang/Object;)V"⟩ : MethodName) jdk_101_method_2_code 3 none (Rm 4 0 0 48) #[(.ref a1), (.ref a2), (.ref a3)] h0 (own_Q14 Z a1 a2 a3 t2a k2a t3a k3a ca cb z0 h0 n0) ws := by
  refine MetFree.of_bodySF (plainFor_of_name own_pn7) hisR ?_
  intro p e s m args below meth c s₁ Bd hml0 hP hK
  obtain ⟨rfl, hZ, hh⟩ := hP
  have hx := Bd.exec
  have hby := Bd.bytes
  have hlk : meth.locks = false := Bd.notSynchronized
  have hml : c.maxLocals = 3 := hml0
  have hown : s.vm.findClass "java/util/ImmutableCollections$Set12" = some m.cls := findClass_of_methodNamed Bd.named
  have hnm := (name_of_methodNamed Bd.named Bd.method).1
  have X0 : Stand p l e (Rm 4 0 0 48) s m #[(.ref a1), (.ref a2), (.ref a3)] below meth c s₁ [] 0 0 := Stand.of_body Bd
  have e0 : s₁.heap = h0 := by rw [← hh, Bd.state]; rfl
  have N0 := Fr.nil n0
  show Goes p.tables e below (fun t o => ∃ v L, o = .returned v ∧ (own_Q14 Z a1 a2 a3 t2a k2a t3a k3a ca cb z0 h0 n0) v t.heap L ∧ FrameEnd s o t L ((Rm 4 0 0 48)).cells ((Rm 4 0 0 48)).slots) _
  refine Goes.via (B := s₁.setTop (mkF m 0 #[rv a1, rv a2, rv a3] [])) (fun t k => castTop (own_ef14 m a1 a2 a3) k) ?_
  refine Gv s₁ 1 [(.ref a1)] (fun t k => XS.aloadN X0.here hx rfl (hb hby d_jdk_101_2_0) rfl rfl k) ?_
  obtain ⟨_, T1, L1, X1, ⟨rfl, M1, K1⟩, st1⟩ := callInit X0 hx hZ rfl hown (W_ hw 37 rfl) (W_ hw 38 rfl) (W_ hw 41 rfl) (W_ hw 42 rfl) (by decide) (argsL := []) (rest := []) (own_m10 l Z a0 hw [] a1 h0 n0 O0 ) e0 (lenOf own_pd6 rfl) (pc := 1) (Ls := #[rv a1, rv a2, rv a3]) (st := [(.ref a1)]) rfl (by rw [hml]; rfl) (hb hby d_jdk_101_2_1) (W := 0) (Nat.le_of_eq rfl) (by decide) (by decide) (by decide) (by decide)
  have N1 := Fr.app N0 M1
  refine Goes.via (B := T1.setTop (mkF m 4 #[rv a1, rv a2, rv a3] [])) (fun t k => st1 _ k) ?_
  refine Gv T1 5 [(.ref a2)] (fun t k => XS.aloadN X1.here hx rfl (hb hby d_jdk_101_2_4) rfl rfl k) ?_
  refine Gv T1 6 [(.ref a3), (.ref a2)] (fun t k => XS.aloadN X1.here hx rfl (hb hby d_jdk_101_2_5) rfl rfl k) ?_
  obtain ⟨_, T2, L2, X2, ⟨rfl, M2, K2⟩, st2⟩ := callStatic X1 hx hZ hown (W_ hw 56 rfl) (W_ hw 57 rfl) (W_ hw 58 rfl) (W_ hw 59 rfl) (by decide) (argsL := [(.ref a3)]) (rest := [(.ref a2)]) (own_m11 l Z a0 hw [] a3 h0 n0 O0 ) K1 (lenOf own_pd7 rfl) (pc := 6) (Ls := #[rv a1, rv a2, rv a3]) (st := [(.ref a3), (.ref a2)]) rfl (by rw [hml]; rfl) (hb hby d_jdk_101_2_6) (W := 1) (Nat.le_of_eq rfl) (by decide) (by decide) (by decide) (by decide)
  have N2 := Fr.app N1 M2
  refine Goes.via (B := T2.setTop (mkF m 9 #[rv a1, rv a2, rv a3] [(.ref a3), (.ref a2)])) (fun t k => st2 _ k) ?_
  obtain ⟨_, T3, L3, X3, ⟨rfl, M3, K3⟩, st3⟩ := callVirtB X2 hx hZ hown (W_ hw 122 rfl) (W_ hw 123 rfl) (W_ hw 125 rfl) (notFace_of_selects (args := #[]) (mvT hZ (W_ hw 163 rfl))) (W_ hw 105 rfl) (by decide) (argsL := [(.ref a3)]) (rest := []) (W := 0) (own_eqI (s := s) (W := 0) hZ (own_hw_wordsEq hw) (W_ hw 5 rfl) (x := a2) (cs := ca) F_4 F_5 F_6 F_7 hca lca (y := a3) (ds := cb) F_8 F_9 F_10 F_11 hcb lcb (Sta.ext O0.2 O_1) hz0 n0 (by decide) (by decide)) K2 F_4 (lenOf own_pd9 rfl) (pc := 9) (Ls := #[rv a1, rv a2, rv a3]) (st := [(.ref a3), (.ref a2)]) rfl (by rw [hml]; rfl) (hb hby d_jdk_101_2_9) (Nat.le_of_eq rfl) (by decide) (by decide)
  have N3 := Fr.app N2 M3
  refine Goes.via (B := T3.setTop (mkF m 12 #[rv a1, rv a2, rv a3] [(.int (own_eq ca cb))])) (fun t k => st3 _ k) ?_
  refine Gv T3 42 [] (fun t k => XS.ifYes X3.here hx rfl (pc0 := 12) (pc' := 42) rfl (hb hby d_jdk_101_2_12) rfl (XT.i0_eq_t (own_eq0 hne)) (by decide) (by decide) k) ?_
  refine Gv T3 43 [(.ref a1)] (fun t k => XS.aloadN X3.here hx rfl (hb hby d_jdk_101_2_42) rfl rfl k) ?_
  refine Gv T3 44 [(.ref a2), (.ref a1)] (fun t k => XS.aloadN X3.here hx rfl (hb hby d_jdk_101_2_43) rfl rfl k) ?_
  obtain ⟨T4, h4, X4, e4, W4, st4⟩ := putF X3 hx hZ hown (host := "") (Or.inl (W_ hw 60 rfl)) Via.refl K3 F_2 F_1 (Or.inr ⟨(W_ hw 61 rfl), rfl, hnm⟩) (W_ hw 31 rfl) (ty := (.object "java/lang/Object")) (by decide) rfl rfl (g := (mkF m 44 #[rv a1, rv a2, rv a3] [(.ref a2), (.ref a1)])) rfl rfl (hb hby d_jdk_101_2_44)
  have N4 := Fr.snoc X4 N3 gn_a1
  refine Goes.via (B := T4.setTop (mkF m 47 #[rv a1, rv a2, rv a3] [])) (fun t k => st4 _ k) ?_
  refine Gv T4 48 [(.ref a1)] (fun t k => XS.aloadN X4.here hx rfl (hb hby d_jdk_101_2_47) rfl rfl k) ?_
  refine Gv T4 49 [(.ref a3), (.ref a1)] (fun t k => XS.aloadN X4.here hx rfl (hb hby d_jdk_101_2_48) rfl rfl k) ?_
  have c5 : Fld Z h4 a1 "java/util/ImmutableCollections$Set12" "e1" "Ljava/lang/Object;" .null := (Fld.other W4 F_3 (Or.inr (slot_ne (Or.inr (W_ hw 65 rfl)) (Or.inr (W_ hw 61 rfl)) (by decide) (t := (.object "java/lang/Object")) (t' := (.object "java/lang/Object")) (by decide) (by decide))))
  obtain ⟨T6, h6, X6, e6, W6, st6⟩ := putF X4 hx hZ hown (host := "") (Or.inl (W_ hw 64 rfl)) Via.refl e4 c5 (Exa.wr W4 F_1) (Or.inr ⟨(W_ hw 65 rfl), rfl, hnm⟩) (W_ hw 31 rfl) (ty := (.object "java/lang/Object")) (by decide) rfl rfl (g := (mkF m 49 #[rv a1, rv a2, rv a3] [(.ref a3), (.ref a1)])) rfl rfl (hb hby d_jdk_101_2_49)
  have N6 := Fr.snoc X6 N4 gn_a1
  refine Goes.via (B := T6.setTop (mkF m 52 #[rv a1, rv a2, rv a3] [])) (fun t k => st6 _ k) ?_
  have c7 : Fld Z h6 a1 "java/util/ImmutableCollections$Set12" "e0" "Ljava/lang/Object;" (.ref a2) := (Fld.other W6 (Fld.same W4 F_2) (Or.inr (slot_ne (Or.inr (W_ hw 61 rfl)) (Or.inr (W_ hw 65 rfl)) (by decide) (t := (.object "java/lang/Object")) (t' := (.object "java/lang/Object")) (by decide) (by decide))))
  exact fin0 (Q := (own_Q14 Z a1 a2 a3 t2a k2a t3a k3a ca cb z0 h0 n0)) (F := FrameEnd) (C := ((Rm 4 0 0 48)).cells) (S := ((Rm 4 0 0 48)).slots) X6 hx Bd.returns (hb hby d_jdk_101_2_52) e6 ⟨rfl, N6, (((Keep.refl h0 [a1]).wr W4 (Or.inl (List.mem_of_getElem? (i := 0) rfl))).wr W6 (Or.inl (List.mem_of_getElem? (i := 0) rfl))), (Exa.wr W6 (Exa.wr W4 F_1)), c7, (Fld.same W6 c5)⟩ (lvN X6 hlk (by decide) (by decide))
theorem d_jdk_96_19_0 : decode jdk_96_method_19_code 0 = .ok (.new 15, 3) := by decide +kernel
theorem d_jdk_96_19_3 : decode jdk_96_method_19_code 3 = .ok (.dup, 1) := by decide +kernel
theorem d_jdk_96_19_4 : decode jdk_96_method_19_code 4 = .ok (.aload_n 0, 1) := by decide +kernel
theorem d_jdk_96_19_5 : decode jdk_96_method_19_code 5 = .ok (.aload_n 1, 1) := by decide +kernel
theorem d_jdk_96_19_6 : decode jdk_96_method_19_code 6 = .ok (.invokespecial 21, 3) := by decide +kernel
theorem own_pd10 : parseMethodDescriptor "(Ljava/lang/Object;Ljava/lang/Object;)V" = some ⟨[(.object "java/lang/Object"), (.object "java/lang/Object")], none⟩ := by decide +kernel
theorem d_jdk_96_19_9 : decode jdk_96_method_19_code 9 = .ok (.areturn, 1) := by decide +kernel
theorem own_ef15 (m : MethodId) (x0 : Addr) (x1 : Addr)  : entryFrame m #[(.ref x0), (.ref x1)] 2 = mkF m 0 #[rv x0, rv x1] [] := by first | (simp [entryFrame, mkF, argsToLocals, Value.category]; done) | rfl
abbrev own_Q15 (Z : State) (a2 : Addr) (a3 : Addr) (t2a : Addr) (k2a : ClassId) (t3a : Addr) (k3a : ClassId) (ca : List Int32) (cb : List Int32) (z0 : Int32) (h0 : Heap) (n0 : Nat) (v : Option Value) (h : Heap) (L : List Loc) : Prop := ∃ r : Addr, v = some (.ref r) ∧ Fr n0 L ∧ Keep h0 h [] ∧ h0.size ≤ r ∧ Exa Z h r "java/util/ImmutableCollections$Set12" ∧ Fld Z h r "java/util/ImmutableCollections$Set12" "e0" "Ljava/lang/Object;" (.ref a2) ∧ Fld Z h r "java/util/ImmutableCollections$Set12" "e1" "Ljava/lang/Object;" (.ref a3)
set_option maxRecDepth 65536 in
set_option maxHeartbeats 40000000 in
theorem own_m15 (l : Launch) (Z : State) (a0 : Array Value) (hw : ∀ d ∈ tables_1, d.before a0 Z = true) (ws : List Jvm.Cond) (a2 : Addr) (a3 : Addr) (t2a : Addr) (k2a : ClassId) (t3a : Addr) (k3a : ClassId) (ca : List Int32) (cb : List Int32) (z0 : Int32) (h0 : Heap) (n0 : Nat) (O0 : Old Z n0 h0) (hz0 : ¬ z0 = (0 : Int32)) (hca : ∀ c ∈ ca, ¬ c < 0 ∧ ¬ (255 : Int32) < c) (lca : ca.length ≤ 4000) (hcb : ∀ c ∈ cb, ¬ c < 0 ∧ ¬ (255 : Int32) < c) (lcb : cb.length ≤ 4000) (hne : ¬ ca = cb) (O_1 : Sta Z Z.heap "java/lang/String" "COMPACT_STRINGS" "Z" (.int z0)) (F_1 : Exa Z h0 a2 "java/lang/String") (F_2 : Fld Z h0 a2 "java/lang/String" "value" "[B" (.ref t2a)) (F_3 : Fld Z h0 a2 "java/lang/String" "coder" "B" (.int (0 : Int32))) (F_4 : Arv Z h0 t2a k2a .byte (Int32.ofNat ca.length) ((ca.map StrChars.lo8).map Value.int) (.int 0)) (F_5 : Exa Z h0 a3 "java/lang/String") (F_6 : Fld Z h0 a3 "java/lang/String" "value" "[B" (.ref t3a)) (F_7 : Fld Z h0 a3 "java/lang/String" "coder" "B" (.int (0 : Int32))) (F_8 : Arv Z h0 t3a k3a .byte (Int32.ofNat cb.length) ((cb.map StrChars.lo8).map Value.int) (.int 0)) :
    Ctr l Z (⟨"java/util/Set", "of", "(Ljava/lang/Object;Ljava/lang/Object;)Ljava/util/Set;"⟩ : MethodName) jdk_96_method_19_code 2 (some (.object "java/util/Set")) (Rm 5 1 2 63) #[(.ref a2), (.ref a3)] h0 (own_Q15 Z a2 a3 t2a k2a t3a k3a ca cb z0 h0 n0) ws := by
  refine MetFree.of_bodySF (plainFor_of_name own_pn8) hisR ?_
  intro p e s m args below meth c s₁ Bd hml0 hP hK
  obtain ⟨rfl, hZ, hh⟩ := hP
  have hx := Bd.exec
  have hby := Bd.bytes
  have hlk : meth.locks = false := Bd.notSynchronized
  have hml : c.maxLocals = 2 := hml0
  have hown : s.vm.findClass "java/util/Set" = some m.cls := findClass_of_methodNamed Bd.named
  have hnm := (name_of_methodNamed Bd.named Bd.method).1
  have X0 : Stand p l e (Rm 5 1 2 63) s m #[(.ref a2), (.ref a3)] below meth c s₁ [] 0 0 := Stand.of_body Bd
  have e0 : s₁.heap = h0 := by rw [← hh, Bd.state]; rfl
  have N0 := Fr.nil n0
  show Goes p.tables e below (fun t o => ∃ v L, o = .returned v ∧ (own_Q15 Z a2 a3 t2a k2a t3a k3a ca cb z0 h0 n0) v t.heap L ∧ FrameEnd s o t L ((Rm 5 1 2 63)).cells ((Rm 5 1 2 63)).slots) _
  refine Goes.via (B := s₁.setTop (mkF m 0 #[rv a2, rv a3] [])) (fun t k => castTop (own_ef15 m a2 a3) k) ?_
  obtain ⟨T1, h1, X1, e1, E1, A1, D1, U1, st1⟩ := newO X0 hx hZ hown (W_ hw 30 rfl) (W_ hw 31 rfl) (W_ hw 32 rfl) e0 (g := (mkF m 0 #[rv a2, rv a3] [])) rfl (hb hby d_jdk_96_19_0) (by decide) (by decide)
  obtain ⟨b1, g1⟩ : ∃ z, z = h0.size := ⟨_, rfl⟩
  rw [← g1] at A1 D1 U1 st1
  have gn1 : n0 ≤ b1 := Nat.le_trans (old_le O0) (Nat.le_of_eq g1.symm)
  have gs1 : h0.size ≤ b1 := Nat.le_trans (Keep.refl h0 []).1 (Nat.le_of_eq g1.symm)
  have F1_e0 : Fld Z h1 b1 "java/util/ImmutableCollections$Set12" "e0" "Ljava/lang/Object;" .null := D1 (Or.inr (W_ hw 61 rfl)) (ty := (.object "java/lang/Object")) (by decide)
  have F1_e1 : Fld Z h1 b1 "java/util/ImmutableCollections$Set12" "e1" "Ljava/lang/Object;" .null := D1 (Or.inr (W_ hw 65 rfl)) (ty := (.object "java/lang/Object")) (by decide)
  refine Goes.via (B := T1.setTop (mkF m 3 #[rv a2, rv a3] [(.ref b1)])) (fun t k => st1 _ k) ?_
  refine Gv T1 4 [(.ref b1), (.ref b1)] (fun t k => XS.dup X1.here hx rfl (hb hby d_jdk_96_19_3) rfl rfl k) ?_
  refine Gv T1 5 [(.ref a2), (.ref b1), (.ref b1)] (fun t k => XS.aloadN X1.here hx rfl (hb hby d_jdk_96_19_4) rfl rfl k) ?_
  refine Gv T1 6 [(.ref a3), (.ref a2), (.ref b1), (.ref b1)] (fun t k => XS.aloadN X1.here hx rfl (hb hby d_jdk_96_19_5) rfl rfl k) ?_
  obtain ⟨_, T2, L2, X2, ⟨rfl, M2, K2, f2_0, f2_1, f2_2⟩, st2⟩ := callInit X1 hx hZ rfl hown (W_ hw 168 rfl) (W_ hw 169 rfl) (W_ hw 32 rfl) (W_ hw 170 rfl) (by decide) (argsL := [(.ref a2), (.ref a3)]) (rest := [(.ref b1)]) (own_m14 l Z a0 hw [] b1 a2 a3 t2a k2a t3a k3a ca cb z0 h1 n0 (O0.ext E1) hz0 hca lca hcb lcb hne gn1 O_1 A1 F1_e0 F1_e1 (F_1.ext E1) (F_2.ext E1) (F_3.ext E1) (F_4.ext E1) (F_5.ext E1) (F_6.ext E1) (F_7.ext E1) (F_8.ext E1)) e1 (lenOf own_pd10 rfl) (pc := 6) (Ls := #[rv a2, rv a3]) (st := [(.ref a3), (.ref a2), (.ref b1), (.ref b1)]) rfl (by rw [hml]; rfl) (hb hby d_jdk_96_19_6) (W := 1) (Nat.le_of_eq rfl) (by decide) (by decide) (by decide) (by decide)
  have N2 := Fr.app N0 M2
  refine Goes.via (B := T2.setTop (mkF m 9 #[rv a2, rv a3] [(.ref b1)])) (fun t k => st2 _ k) ?_
  exact finA (Q := (own_Q15 Z a2 a3 t2a k2a t3a k3a ca cb z0 h0 n0)) (F := FrameEnd) (C := ((Rm 5 1 2 63)).cells) (S := ((Rm 5 1 2 63)).slots) X2 hx Bd.returns rfl rfl rfl (hb hby d_jdk_96_19_9) rfl ⟨b1, rfl, N2, (((Keep.refl h0 []).ext E1).trans K2 (allS (Or.inr gs1) all0)), gs1, f2_0, f2_1, f2_2⟩ (lvN X2 hlk (by decide) (by decide))
theorem d_jdk_96_17_0 : decode jdk_96_method_17_code 0 = .ok (.getstatic 9, 3) := by decide +kernel
theorem d_jdk_96_17_3 : decode jdk_96_method_17_code 3 = .ok (.areturn, 1) := by decide +kernel
theorem own_ef16 (m : MethodId)   : entryFrame m #[] 0 = mkF m 0 #[] [] := by first | (simp [entryFrame, mkF, argsToLocals, Value.category]; done) | rfl
abbrev own_Q16 (Z : State) (es : Addr) (h0 : Heap) (n0 : Nat) (v : Option Value) (h : Heap) (L : List Loc) : Prop := v = some (.ref es) ∧ Fr n0 L ∧ h = h0
set_option maxRecDepth 65536 in
set_option maxHeartbeats 40000000 in
theorem own_m16 (l : Launch) (Z : State) (a0 : Array Value) (hw : ∀ d ∈ tables_1, d.before a0 Z = true) (ws : List Jvm.Cond) (es : Addr) (h0 : Heap) (n0 : Nat) (O0 : Old Z n0 h0) (O_1 : Sta Z Z.heap "java/util/ImmutableCollections" "EMPTY_SET" "Ljava/util/ImmutableCollections$SetN;" (.ref es)) :
    Ctr l Z (⟨"java/util/Set", "of", "()Ljava/util/Set;"⟩ : MethodName) jdk_96_method_17_code 0 (some (.object "java/util/Set")) (Rm 0 0 0 0) #[] h0 (own_Q16 Z es h0 n0) ws := by
  refine MetFree.of_bodySF (plainFor_of_name own_pn8) hisR ?_
  intro p e s m args below meth c s₁ Bd hml0 hP hK
  obtain ⟨rfl, hZ, hh⟩ := hP
  have hx := Bd.exec
  have hby := Bd.bytes
  have hlk : meth.locks = false := Bd.notSynchronized
  have hml : c.maxLocals = 0 := hml0
  have hown : s.vm.findClass "java/util/Set" = some m.cls := findClass_of_methodNamed Bd.named
  have hnm := (name_of_methodNamed Bd.named Bd.method).1
  have X0 : Stand p l e (Rm 0 0 0 0) s m #[] below meth c s₁ [] 0 0 := Stand.of_body Bd
  have e0 : s₁.heap = h0 := by rw [← hh, Bd.state]; rfl
  have N0 := Fr.nil n0
  show Goes p.tables e below (fun t o => ∃ v L, o = .returned v ∧ (own_Q16 Z es h0 n0) v t.heap L ∧ FrameEnd s o t L ((Rm 0 0 0 0)).cells ((Rm 0 0 0 0)).slots) _
  refine Goes.via (B := s₁.setTop (mkF m 0 #[] [])) (fun t k => castTop (own_ef16 m ) k) ?_
  obtain ⟨T1, X1, e1, st1⟩ := getS2 X0 hx hZ hown (host := "") (Or.inl (W_ hw 151 rfl)) Via.refl e0 (Sta.ext O0.2 O_1) (g := (mkF m 0 #[] [])) rfl (hb hby d_jdk_96_17_0)
  refine Goes.via (B := T1.setTop (mkF m 3 #[] [(.ref es)])) (fun t k => st1 _ k) ?_
  exact finA (Q := (own_Q16 Z es h0 n0)) (F := FrameEnd) (C := ((Rm 0 0 0 0)).cells) (S := ((Rm 0 0 0 0)).slots) X1 hx Bd.returns rfl rfl rfl (hb hby d_jdk_96_17_3) e1 ⟨rfl, N0, rfl⟩ (lvN X1 hlk (by decide) (by decide))
theorem d_jdk_96_29_0 : decode jdk_96_method_29_code 0 = .ok (.aload_n 0, 1) := by decide +kernel
theorem d_jdk_96_29_1 : decode jdk_96_method_29_code 1 = .ok (.instanceof 31, 3) := by decide +kernel
theorem d_jdk_96_29_4 : decode jdk_96_method_29_code 4 = .ok (.ifCond .eq 8, 3) := by decide +kernel
theorem d_jdk_96_29_7 : decode jdk_96_method_29_code 7 = .ok (.aload_n 0, 1) := by decide +kernel
theorem d_jdk_96_29_8 : decode jdk_96_method_29_code 8 = .ok (.checkcast 33, 3) := by decide +kernel
theorem d_jdk_96_29_11 : decode jdk_96_method_29_code 11 = .ok (.areturn, 1) := by decide +kernel
theorem own_ef17 (m : MethodId) (x0 : Addr)  : entryFrame m #[(.ref x0)] 1 = mkF m 0 #[rv x0] [] := by first | (simp [entryFrame, mkF, argsToLocals, Value.category]; done) | rfl
abbrev own_Q17 (Z : State) (a1 : Addr) (h0 : Heap) (n0 : Nat) (v : Option Value) (h : Heap) (L : List Loc) : Prop := v = some (.ref a1) ∧ Fr n0 L ∧ h = h0
set_option maxRecDepth 65536 in
set_option maxHeartbeats 40000000 in
theorem own_m17 (l : Launch) (Z : State) (a0 : Array Value) (hw : ∀ d ∈ tables_1, d.before a0 Z = true) (ws : List Jvm.Cond) (a1 : Addr) (h0 : Heap) (n0 : Nat) (O0 : Old Z n0 h0) (F_1 : Exa Z h0 a1 "java/util/ImmutableCollections$Set12") :
    Ctr l Z (⟨"java/util/Set", "copyOf", "(Ljava/util/Collection;)Ljava/util/Set;"⟩ : MethodName) jdk_96_method_29_code 1 (some (.object "java/util/Set")) (Rm 0 0 0 0) #[(.ref a1)] h0 (own_Q17 Z a1 h0 n0) ws := by
  refine MetFree.of_bodySF (plainFor_of_name own_pn8) hisR ?_
  intro p e s m args below meth c s₁ Bd hml0 hP hK
  obtain ⟨rfl, hZ, hh⟩ := hP
  have hx := Bd.exec
  have hby := Bd.bytes
  have hlk : meth.locks = false := Bd.notSynchronized
  have hml : c.maxLocals = 1 := hml0
  have hown : s.vm.findClass "java/util/Set" = some m.cls := findClass_of_methodNamed Bd.named
  have hnm := (name_of_methodNamed Bd.named Bd.method).1
  have X0 : Stand p l e (Rm 0 0 0 0) s m #[(.ref a1)] below meth c s₁ [] 0 0 := Stand.of_body Bd
  have e0 : s₁.heap = h0 := by rw [← hh, Bd.state]; rfl
  have N0 := Fr.nil n0
  show Goes p.tables e below (fun t o => ∃ v L, o = .returned v ∧ (own_Q17 Z a1 h0 n0) v t.heap L ∧ FrameEnd s o t L ((Rm 0 0 0 0)).cells ((Rm 0 0 0 0)).slots) _
  refine Goes.via (B := s₁.setTop (mkF m 0 #[rv a1] [])) (fun t k => castTop (own_ef17 m a1) k) ?_
  refine Gv s₁ 1 [(.ref a1)] (fun t k => XS.aloadN X0.here hx rfl (hb hby d_jdk_96_29_0) rfl rfl k) ?_
  obtain ⟨T1, X1, e1, st1⟩ := instY X0 hx hZ hown (W_ hw 91 rfl) e0 (Ins.of_exa F_1 (W_ hw 40 rfl)) (g := (mkF m 1 #[rv a1] [(.ref a1)])) rfl rfl (hb hby d_jdk_96_29_1)
  refine Goes.via (B := T1.setTop (mkF m 4 #[rv a1] [(.int (1 : Int32))])) (fun t k => st1 _ k) ?_
  refine Gv T1 7 [] (fun t k => XS.ifNo X1.here hx rfl (hb hby d_jdk_96_29_4) rfl (XT.i0_eq_f (by decide)) k) ?_
  refine Gv T1 8 [(.ref a1)] (fun t k => XS.aloadN X1.here hx rfl (hb hby d_jdk_96_29_7) rfl rfl k) ?_
  obtain ⟨T2, X2, e2, st2⟩ := castY X1 hx hZ hown (W_ hw 92 rfl) e1 (Ins.of_exa F_1 (W_ hw 93 rfl)) (g := (mkF m 8 #[rv a1] [(.ref a1)])) rfl rfl (hb hby d_jdk_96_29_8)
  refine Goes.via (B := T2.setTop (mkF m 11 #[rv a1] [(.ref a1)])) (fun t k => st2 _ k) ?_
  exact finA (Q := (own_Q17 Z a1 h0 n0)) (F := FrameEnd) (C := ((Rm 0 0 0 0)).cells) (S := ((Rm 0 0 0 0)).slots) X2 hx Bd.returns rfl rfl rfl (hb hby d_jdk_96_29_11) e2 ⟨rfl, N0, rfl⟩ (lvN X2 hlk (by decide) (by decide))
theorem own_ef18 (m : MethodId) (x0 : Addr)  : entryFrame m #[(.ref x0)] 1 = mkF m 0 #[rv x0] [] := by first | (simp [entryFrame, mkF, argsToLocals, Value.category]; done) | rfl
abbrev own_Q18 (Z : State) (a1 : Addr) (h0 : Heap) (n0 : Nat) (v : Option Value) (h : Heap) (L : List Loc) : Prop := v = some (.ref a1) ∧ Fr n0 L ∧ h = h0
set_option maxRecDepth 65536 in
set_option maxHeartbeats 40000000 in
theorem own_m18 (l : Launch) (Z : State) (a0 : Array Value) (hw : ∀ d ∈ tables_1, d.before a0 Z = true) (ws : List Jvm.Cond) (a1 : Addr) (h0 : Heap) (n0 : Nat) (O0 : Old Z n0 h0) (O_1 : Exa Z Z.heap a1 "java/util/ImmutableCollections$SetN") :
    Ctr l Z (⟨"java/util/Set", "copyOf", "(Ljava/util/Collection;)Ljava/util/Set;"⟩ : MethodName) jdk_96_method_29_code 1 (some (.object "java/util/Set")) (Rm 0 0 0 0) #[(.ref a1)] h0 (own_Q18 Z a1 h0 n0) ws := by
  refine MetFree.of_bodySF (plainFor_of_name own_pn8) hisR ?_
  intro p e s m args below meth c s₁ Bd hml0 hP hK
  obtain ⟨rfl, hZ, hh⟩ := hP
  have hx := Bd.exec
  have hby := Bd.bytes
  have hlk : meth.locks = false := Bd.notSynchronized
  have hml : c.maxLocals = 1 := hml0
  have hown : s.vm.findClass "java/util/Set" = some m.cls := findClass_of_methodNamed Bd.named
  have hnm := (name_of_methodNamed Bd.named Bd.method).1
  have X0 : Stand p l e (Rm 0 0 0 0) s m #[(.ref a1)] below meth c s₁ [] 0 0 := Stand.of_body Bd
  have e0 : s₁.heap = h0 := by rw [← hh, Bd.state]; rfl
  have N0 := Fr.nil n0
  show Goes p.tables e below (fun t o => ∃ v L, o = .returned v ∧ (own_Q18 Z a1 h0 n0) v t.heap L ∧ FrameEnd s o t L ((Rm 0 0 0 0)).cells ((Rm 0 0 0 0)).slots) _
  refine Goes.via (B := s₁.setTop (mkF m 0 #[rv a1] [])) (fun t k => castTop (own_ef18 m a1) k) ?_
  refine Gv s₁ 1 [(.ref a1)] (fun t k => XS.aloadN X0.here hx rfl (hb hby d_jdk_96_29_0) rfl rfl k) ?_
  obtain ⟨T1, X1, e1, st1⟩ := instY X0 hx hZ hown (W_ hw 91 rfl) e0 (Ins.of_exa (O_1.ext O0.2) (W_ hw 152 rfl)) (g := (mkF m 1 #[rv a1] [(.ref a1)])) rfl rfl (hb hby d_jdk_96_29_1)
  refine Goes.via (B := T1.setTop (mkF m 4 #[rv a1] [(.int (1 : Int32))])) (fun t k => st1 _ k) ?_
  refine Gv T1 7 [] (fun t k => XS.ifNo X1.here hx rfl (hb hby d_jdk_96_29_4) rfl (XT.i0_eq_f (by decide)) k) ?_
  refine Gv T1 8 [(.ref a1)] (fun t k => XS.aloadN X1.here hx rfl (hb hby d_jdk_96_29_7) rfl rfl k) ?_
  obtain ⟨T2, X2, e2, st2⟩ := castY X1 hx hZ hown (W_ hw 92 rfl) e1 (Ins.of_exa (O_1.ext O0.2) (W_ hw 153 rfl)) (g := (mkF m 8 #[rv a1] [(.ref a1)])) rfl rfl (hb hby d_jdk_96_29_8)
  refine Goes.via (B := T2.setTop (mkF m 11 #[rv a1] [(.ref a1)])) (fun t k => st2 _ k) ?_
  exact finA (Q := (own_Q18 Z a1 h0 n0)) (F := FrameEnd) (C := ((Rm 0 0 0 0)).cells) (S := ((Rm 0 0 0 0)).slots) X2 hx Bd.returns rfl rfl rfl (hb hby d_jdk_96_29_11) e2 ⟨rfl, N0, rfl⟩ (lvN X2 hlk (by decide) (by decide))
theorem own_pn9 : plainName "com/example/baskit/baskit/Keys" = true := by first | (simp [plainName, overriddenIn]; done) | decide +kernel
theorem d_prog_3_1_0 : decode prog_3_method_1_code 0 = .ok (.aload_n 0, 1) := by decide +kernel
theorem d_prog_3_1_1 : decode prog_3_method_1_code 1 = .ok (.invokespecial 1, 3) := by decide +kernel
theorem d_prog_3_1_4 : decode prog_3_method_1_code 4 = .ok (.aload_n 0, 1) := by decide +kernel
theorem d_prog_3_1_5 : decode prog_3_method_1_code 5 = .ok (.aload_n 1, 1) := by decide +kernel
theorem d_prog_3_1_6 : decode prog_3_method_1_code 6 = .ok (.putfield 7, 3) := by decide +kernel
theorem d_prog_3_1_9 : decode prog_3_method_1_code 9 = .ok (.aload_n 0, 1) := by decide +kernel
theorem d_prog_3_1_10 : decode prog_3_method_1_code 10 = .ok (.aload_n 2, 1) := by decide +kernel
theorem d_prog_3_1_11 : decode prog_3_method_1_code 11 = .ok (.putfield 13, 3) := by decide +kernel
theorem d_prog_3_1_14 : decode prog_3_method_1_code 14 = .ok (.return_, 1) := by decide +kernel
theorem own_ef19 (m : MethodId) (x0 : Addr) (x1 : Addr) (x2 : Addr)  : entryFrame m #[(.ref x0), (.ref x1), (.ref x2)] 3 = mkF m 0 #[rv x0, rv x1, rv x2] [] := by first | (simp [entryFrame, mkF, argsToLocals, Value.category]; done) | rfl
abbrev own_Q19 (Z : State) (a1 : Addr) (a2 : Addr) (a3 : Addr) (h0 : Heap) (n0 : Nat) (v : Option Value) (h : Heap) (L : List Loc) : Prop := v = none ∧ Fr n0 L ∧ Keep h0 h [a1]
set_option maxRecDepth 65536 in
set_option maxHeartbeats 40000000 in
theorem own_m19 (l : Launch) (Z : State) (a0 : Array Value) (hw : ∀ d ∈ tables_1, d.before a0 Z = true) (ws : List Jvm.Cond) (a1 : Addr) (a2 : Addr) (a3 : Addr) (h0 : Heap) (n0 : Nat) (O0 : Old Z n0 h0) (gn_a1 : n0 ≤ a1) (F_1 : Exa Z h0 a1 "com/example/baskit/baskit/Keys") (F_2 : Fld Z h0 a1 "com/example/baskit/baskit/Keys" "id" "Ljava/lang/String;" .null) (F_3 : Fld Z h0 a1 "com/example/baskit/baskit/Keys" "token" "Ljava/lang/String;" .null) :
    Ctr l Z (⟨"com/example/baskit/baskit/Keys", "<init>", "(Ljava/lang/String;Ljava/lang/String;)V"⟩ : MethodName) prog_3_method_1_code 3 none (Rm 1 0 0 12) #[(.ref a1), (.ref a2), (.ref a3)] h0 (own_Q19 Z a1 a2 a3 h0 n0) ws := by
  refine MetFree.of_bodySF (plainFor_of_name own_pn9) hisR ?_
  intro p e s m args below meth c s₁ Bd hml0 hP hK
  obtain ⟨rfl, hZ, hh⟩ := hP
  have hx := Bd.exec
  have hby := Bd.bytes
  have hlk : meth.locks = false := Bd.notSynchronized
  have hml : c.maxLocals = 3 := hml0
  have hown : s.vm.findClass "com/example/baskit/baskit/Keys" = some m.cls := findClass_of_methodNamed Bd.named
  have hnm := (name_of_methodNamed Bd.named Bd.method).1
  have X0 : Stand p l e (Rm 1 0 0 12) s m #[(.ref a1), (.ref a2), (.ref a3)] below meth c s₁ [] 0 0 := Stand.of_body Bd
  have e0 : s₁.heap = h0 := by rw [← hh, Bd.state]; rfl
  have N0 := Fr.nil n0
  show Goes p.tables e below (fun t o => ∃ v L, o = .returned v ∧ (own_Q19 Z a1 a2 a3 h0 n0) v t.heap L ∧ FrameEnd s o t L ((Rm 1 0 0 12)).cells ((Rm 1 0 0 12)).slots) _
  refine Goes.via (B := s₁.setTop (mkF m 0 #[rv a1, rv a2, rv a3] [])) (fun t k => castTop (own_ef19 m a1 a2 a3) k) ?_
  refine Gv s₁ 1 [(.ref a1)] (fun t k => XS.aloadN X0.here hx rfl (hb hby d_prog_3_1_0) rfl rfl k) ?_
  obtain ⟨T1, X1, e1, st1⟩ := initO X0 hx hZ hown (W_ hw 77 rfl) (W_ hw 16 rfl) (W_ hw 17 rfl) e0 (g := (mkF m 1 #[rv a1, rv a2, rv a3] [(.ref a1)])) rfl (by rw [hml]; rfl) rfl (hb hby d_prog_3_1_1) (by decide) (W := 0) (by show 2 * 0 + _ ≤ _; exact Nat.le_of_eq rfl) (by decide)
  refine Goes.via (B := T1.setTop (mkF m 4 #[rv a1, rv a2, rv a3] [])) (fun t k => st1 _ k) ?_
  refine Gv T1 5 [(.ref a1)] (fun t k => XS.aloadN X1.here hx rfl (hb hby d_prog_3_1_4) rfl rfl k) ?_
  refine Gv T1 6 [(.ref a2), (.ref a1)] (fun t k => XS.aloadN X1.here hx rfl (hb hby d_prog_3_1_5) rfl rfl k) ?_
  obtain ⟨T2, h2, X2, e2, W2, st2⟩ := putF X1 hx hZ hown (host := "") (Or.inl (W_ hw 78 rfl)) Via.refl e1 F_2 F_1 (Or.inr ⟨(W_ hw 79 rfl), rfl, hnm⟩) (W_ hw 70 rfl) (ty := (.object "java/lang/String")) (by decide) rfl rfl (g := (mkF m 6 #[rv a1, rv a2, rv a3] [(.ref a2), (.ref a1)])) rfl rfl (hb hby d_prog_3_1_6)
  have N2 := Fr.snoc X2 N0 gn_a1
  refine Goes.via (B := T2.setTop (mkF m 9 #[rv a1, rv a2, rv a3] [])) (fun t k => st2 _ k) ?_
  refine Gv T2 10 [(.ref a1)] (fun t k => XS.aloadN X2.here hx rfl (hb hby d_prog_3_1_9) rfl rfl k) ?_
  refine Gv T2 11 [(.ref a3), (.ref a1)] (fun t k => XS.aloadN X2.here hx rfl (hb hby d_prog_3_1_10) rfl rfl k) ?_
  have c3 : Fld Z h2 a1 "com/example/baskit/baskit/Keys" "token" "Ljava/lang/String;" .null := (Fld.other W2 F_3 (Or.inr (slot_ne (Or.inr (W_ hw 81 rfl)) (Or.inr (W_ hw 79 rfl)) (by decide) (t := (.object "java/lang/String")) (t' := (.object "java/lang/String")) (by decide) (by decide))))
  obtain ⟨T4, h4, X4, e4, W4, st4⟩ := putF X2 hx hZ hown (host := "") (Or.inl (W_ hw 80 rfl)) Via.refl e2 c3 (Exa.wr W2 F_1) (Or.inr ⟨(W_ hw 81 rfl), rfl, hnm⟩) (W_ hw 70 rfl) (ty := (.object "java/lang/String")) (by decide) rfl rfl (g := (mkF m 11 #[rv a1, rv a2, rv a3] [(.ref a3), (.ref a1)])) rfl rfl (hb hby d_prog_3_1_11)
  have N4 := Fr.snoc X4 N2 gn_a1
  refine Goes.via (B := T4.setTop (mkF m 14 #[rv a1, rv a2, rv a3] [])) (fun t k => st4 _ k) ?_
  exact fin0 (Q := (own_Q19 Z a1 a2 a3 h0 n0)) (F := FrameEnd) (C := ((Rm 1 0 0 12)).cells) (S := ((Rm 1 0 0 12)).slots) X4 hx Bd.returns (hb hby d_prog_3_1_14) e4 ⟨rfl, N4, (((Keep.refl h0 [a1]).wr W2 (Or.inl (List.mem_of_getElem? (i := 0) rfl))).wr W4 (Or.inl (List.mem_of_getElem? (i := 0) rfl)))⟩ (lvN X4 hlk (by decide) (by decide))
theorem own_pn10 : plainName "com/example/baskit/baskit/ClientSide" = true := by first | (simp [plainName, overriddenIn]; done) | decide +kernel
theorem d_prog_1_1_0 : decode prog_1_method_1_code 0 = .ok (.aload_n 0, 1) := by decide +kernel
theorem d_prog_1_1_1 : decode prog_1_method_1_code 1 = .ok (.invokespecial 1, 3) := by decide +kernel
theorem d_prog_1_1_4 : decode prog_1_method_1_code 4 = .ok (.aload_n 0, 1) := by decide +kernel
theorem d_prog_1_1_5 : decode prog_1_method_1_code 5 = .ok (.aload_n 1, 1) := by decide +kernel
theorem d_prog_1_1_6 : decode prog_1_method_1_code 6 = .ok (.putfield 7, 3) := by decide +kernel
theorem d_prog_1_1_9 : decode prog_1_method_1_code 9 = .ok (.aload_n 0, 1) := by decide +kernel
theorem d_prog_1_1_10 : decode prog_1_method_1_code 10 = .ok (.aload_n 2, 1) := by decide +kernel
theorem d_prog_1_1_11 : decode prog_1_method_1_code 11 = .ok (.invokestatic 13, 3) := by decide +kernel
theorem own_pd11 : parseMethodDescriptor "(Ljava/util/Collection;)Ljava/util/Set;" = some ⟨[(.object "java/util/Collection")], some (.object "java/util/Set")⟩ := by decide +kernel
theorem d_prog_1_1_14 : decode prog_1_method_1_code 14 = .ok (.putfield 19, 3) := by decide +kernel
theorem d_prog_1_1_17 : decode prog_1_method_1_code 17 = .ok (.aload_n 0, 1) := by decide +kernel
theorem d_prog_1_1_18 : decode prog_1_method_1_code 18 = .ok (.iload_n 3, 1) := by decide +kernel
theorem d_prog_1_1_19 : decode prog_1_method_1_code 19 = .ok (.putfield 23, 3) := by decide +kernel
theorem d_prog_1_1_22 : decode prog_1_method_1_code 22 = .ok (.return_, 1) := by decide +kernel
theorem own_ef20 (m : MethodId) (x0 : Addr) (x1 : Addr) (x2 : Addr) (x3 : Int32)  : entryFrame m #[(.ref x0), (.ref x1), (.ref x2), (.int x3)] 4 = mkF m 0 #[rv x0, rv x1, rv x2, iv x3] [] := by first | (simp [entryFrame, mkF, argsToLocals, Value.category]; done) | rfl
abbrev own_Q20 (Z : State) (a1 : Addr) (a2 : Addr) (a3 : Addr) (rb : Int32) (h0 : Heap) (n0 : Nat) (v : Option Value) (h : Heap) (L : List Loc) : Prop := v = none ∧ Fr n0 L ∧ Keep h0 h [a1] ∧ Exa Z h a1 "com/example/baskit/baskit/ClientSide" ∧ Fld Z h a1 "com/example/baskit/baskit/ClientSide" "origins" "Ljava/util/Set;" (.ref a3)
set_option maxRecDepth 65536 in
set_option maxHeartbeats 40000000 in
theorem own_m20 (l : Launch) (Z : State) (a0 : Array Value) (hw : ∀ d ∈ tables_1, d.before a0 Z = true) (ws : List Jvm.Cond) (a1 : Addr) (a2 : Addr) (a3 : Addr) (rb : Int32) (h0 : Heap) (n0 : Nat) (O0 : Old Z n0 h0) (hrb : rb = 0 ∨ rb = 1) (gn_a1 : n0 ≤ a1) (F_1 : Exa Z h0 a1 "com/example/baskit/baskit/ClientSide") (F_2 : Fld Z h0 a1 "com/example/baskit/baskit/ClientSide" "keys" "Lcom/example/baskit/baskit/Keys;" .null) (F_3 : Fld Z h0 a1 "com/example/baskit/baskit/ClientSide" "origins" "Ljava/util/Set;" .null) (F_4 : Fld Z h0 a1 "com/example/baskit/baskit/ClientSide" "redeems" "Z" (.int (0 : Int32))) (F_5 : Exa Z h0 a3 "java/util/ImmutableCollections$Set12") :
    Ctr l Z (⟨"com/example/baskit/baskit/ClientSide", "<init>", "(Lcom/example/baskit/baskit/Keys;Ljava/util/Set;Z)V"⟩ : MethodName) prog_1_method_1_code 4 none (Rm 1 0 0 13) #[(.ref a1), (.ref a2), (.ref a3), (.int rb)] h0 (own_Q20 Z a1 a2 a3 rb h0 n0) ws := by
  refine MetFree.of_bodySF (plainFor_of_name own_pn10) hisR ?_
  intro p e s m args below meth c s₁ Bd hml0 hP hK
  obtain ⟨rfl, hZ, hh⟩ := hP
  have hx := Bd.exec
  have hby := Bd.bytes
  have hlk : meth.locks = false := Bd.notSynchronized
  have hml : c.maxLocals = 4 := hml0
  have hown : s.vm.findClass "com/example/baskit/baskit/ClientSide" = some m.cls := findClass_of_methodNamed Bd.named
  have hnm := (name_of_methodNamed Bd.named Bd.method).1
  have X0 : Stand p l e (Rm 1 0 0 13) s m #[(.ref a1), (.ref a2), (.ref a3), (.int rb)] below meth c s₁ [] 0 0 := Stand.of_body Bd
  have e0 : s₁.heap = h0 := by rw [← hh, Bd.state]; rfl
  have N0 := Fr.nil n0
  show Goes p.tables e below (fun t o => ∃ v L, o = .returned v ∧ (own_Q20 Z a1 a2 a3 rb h0 n0) v t.heap L ∧ FrameEnd s o t L ((Rm 1 0 0 13)).cells ((Rm 1 0 0 13)).slots) _
  refine Goes.via (B := s₁.setTop (mkF m 0 #[rv a1, rv a2, rv a3, iv rb] [])) (fun t k => castTop (own_ef20 m a1 a2 a3 rb) k) ?_
  refine Gv s₁ 1 [(.ref a1)] (fun t k => XS.aloadN X0.here hx rfl (hb hby d_prog_1_1_0) rfl rfl k) ?_
  obtain ⟨T1, X1, e1, st1⟩ := initO X0 hx hZ hown (W_ hw 85 rfl) (W_ hw 16 rfl) (W_ hw 17 rfl) e0 (g := (mkF m 1 #[rv a1, rv a2, rv a3, iv rb] [(.ref a1)])) rfl (by rw [hml]; rfl) rfl (hb hby d_prog_1_1_1) (by decide) (W := 0) (by show 2 * 0 + _ ≤ _; exact Nat.le_of_eq rfl) (by decide)
  refine Goes.via (B := T1.setTop (mkF m 4 #[rv a1, rv a2, rv a3, iv rb] [])) (fun t k => st1 _ k) ?_
  refine Gv T1 5 [(.ref a1)] (fun t k => XS.aloadN X1.here hx rfl (hb hby d_prog_1_1_4) rfl rfl k) ?_
  refine Gv T1 6 [(.ref a2), (.ref a1)] (fun t k => XS.aloadN X1.here hx rfl (hb hby d_prog_1_1_5) rfl rfl k) ?_
  obtain ⟨T2, h2, X2, e2, W2, st2⟩ := putF X1 hx hZ hown (host := "") (Or.inl (W_ hw 86 rfl)) Via.refl e1 F_2 F_1 (Or.inr ⟨(W_ hw 87 rfl), rfl, hnm⟩) (W_ hw 67 rfl) (ty := (.object "com/example/baskit/baskit/Keys")) (by decide) rfl rfl (g := (mkF m 6 #[rv a1, rv a2, rv a3, iv rb] [(.ref a2), (.ref a1)])) rfl rfl (hb hby d_prog_1_1_6)
  have N2 := Fr.snoc X2 N0 gn_a1
  refine Goes.via (B := T2.setTop (mkF m 9 #[rv a1, rv a2, rv a3, iv rb] [])) (fun t k => st2 _ k) ?_
  refine Gv T2 10 [(.ref a1)] (fun t k => XS.aloadN X2.here hx rfl (hb hby d_prog_1_1_9) rfl rfl k) ?_
  refine Gv T2 11 [(.ref a3), (.ref a1)] (fun t k => XS.aloadN X2.here hx rfl (hb hby d_prog_1_1_10) rfl rfl k) ?_
  obtain ⟨_, T3, L3, X3, ⟨rfl, M3, K3⟩, st3⟩ := callStatic X2 hx hZ hown (W_ hw 88 rfl) (W_ hw 89 rfl) (W_ hw 28 rfl) (W_ hw 90 rfl) (by decide) (argsL := [(.ref a3)]) (rest := [(.ref a1)]) (own_m17 l Z a0 hw [] a3 h2 n0 (O0.wr W2 gn_a1) (Exa.wr W2 F_5)) e2 (lenOf own_pd11 rfl) (pc := 11) (Ls := #[rv a1, rv a2, rv a3, iv rb]) (st := [(.ref a3), (.ref a1)]) rfl (by rw [hml]; rfl) (hb hby d_prog_1_1_11) (W := 1) (Nat.le_of_eq rfl) (by decide) (by decide) (by decide) (by decide)
  have N3 := Fr.app N2 M3
  refine Goes.via (B := T3.setTop (mkF m 14 #[rv a1, rv a2, rv a3, iv rb] [(.ref a3), (.ref a1)])) (fun t k => st3 _ k) ?_
  have c4 : Fld Z h2 a1 "com/example/baskit/baskit/ClientSide" "origins" "Ljava/util/Set;" .null := (Fld.other W2 F_3 (Or.inr (slot_ne (Or.inr (W_ hw 95 rfl)) (Or.inr (W_ hw 87 rfl)) (by decide) (t := (.object "java/util/Set")) (t' := (.object "com/example/baskit/baskit/Keys")) (by decide) (by decide))))
  obtain ⟨T5, h5, X5, e5, W5, st5⟩ := putF X3 hx hZ hown (host := "") (Or.inl (W_ hw 94 rfl)) Via.refl K3 c4 (Exa.wr W2 F_1) (Or.inr ⟨(W_ hw 95 rfl), rfl, hnm⟩) (W_ hw 67 rfl) (ty := (.object "java/util/Set")) (by decide) rfl rfl (g := (mkF m 14 #[rv a1, rv a2, rv a3, iv rb] [(.ref a3), (.ref a1)])) rfl rfl (hb hby d_prog_1_1_14)
  have N5 := Fr.snoc X5 N3 gn_a1
  refine Goes.via (B := T5.setTop (mkF m 17 #[rv a1, rv a2, rv a3, iv rb] [])) (fun t k => st5 _ k) ?_
  refine Gv T5 18 [(.ref a1)] (fun t k => XS.aloadN X5.here hx rfl (hb hby d_prog_1_1_17) rfl rfl k) ?_
  refine Gv T5 19 [(.int rb), (.ref a1)] (fun t k => XS.iloadN X5.here hx rfl (hb hby d_prog_1_1_18) rfl k) ?_
  rcases hrb with hrb | hrb
  · have q6 : rb = (0 : Int32) := hrb
    rw [q6]
    have c7 : Fld Z h5 a1 "com/example/baskit/baskit/ClientSide" "redeems" "Z" (.int (0 : Int32)) := (Fld.other W5 (Fld.other W2 F_4 (Or.inr (slot_ne (Or.inr (W_ hw 97 rfl)) (Or.inr (W_ hw 87 rfl)) (by decide) (t := .boolean) (t' := (.object "com/example/baskit/baskit/Keys")) (by decide) (by decide)))) (Or.inr (slot_ne (Or.inr (W_ hw 97 rfl)) (Or.inr (W_ hw 95 rfl)) (by decide) (t := .boolean) (t' := (.object "java/util/Set")) (by decide) (by decide))))
    obtain ⟨T8, h8, X8, e8, W8, st8⟩ := putFN X5 hx hZ hown (W_ hw 96 rfl) Via.refl e5 c7 (Exa.wr W5 (Exa.wr W2 F_1)) (Or.inr ⟨(W_ hw 97 rfl), rfl, hnm⟩) (W_ hw 67 rfl) (ty := .boolean) (v' := (.int (0 : Int32))) (by decide) rfl rfl (g := (mkF m 19 #[rv a1, rv a2, rv a3, iv (0 : Int32)] [(.int (0 : Int32)), (.ref a1)])) rfl rfl (hb hby d_prog_1_1_19)
    have N8 := Fr.snoc X8 N5 gn_a1
    refine Goes.via (B := T8.setTop (mkF m 22 #[rv a1, rv a2, rv a3, iv (0 : Int32)] [])) (fun t k => st8 _ k) ?_
    have c9 : Fld Z h8 a1 "com/example/baskit/baskit/ClientSide" "origins" "Ljava/util/Set;" (.ref a3) := (Fld.other W8 (Fld.same W5 c4) (Or.inr (slot_ne (Or.inr (W_ hw 95 rfl)) (Or.inr (W_ hw 97 rfl)) (by decide) (t := (.object "java/util/Set")) (t' := .boolean) (by decide) (by decide))))
    exact fin0 (Q := (own_Q20 Z a1 a2 a3 rb h0 n0)) (F := FrameEnd) (C := ((Rm 1 0 0 13)).cells) (S := ((Rm 1 0 0 13)).slots) X8 hx Bd.returns (hb hby d_prog_1_1_22) e8 ⟨rfl, N8, ((((Keep.refl h0 [a1]).wr W2 (Or.inl (List.mem_of_getElem? (i := 0) rfl))).wr W5 (Or.inl (List.mem_of_getElem? (i := 0) rfl))).wr W8 (Or.inl (List.mem_of_getElem? (i := 0) rfl))), (Exa.wr W8 (Exa.wr W5 (Exa.wr W2 F_1))), c9⟩ (lvN X8 hlk (by decide) (by decide))
  · have q10 : rb = (1 : Int32) := hrb
    rw [q10]
    have c11 : Fld Z h5 a1 "com/example/baskit/baskit/ClientSide" "redeems" "Z" (.int (0 : Int32)) := (Fld.other W5 (Fld.other W2 F_4 (Or.inr (slot_ne (Or.inr (W_ hw 97 rfl)) (Or.inr (W_ hw 87 rfl)) (by decide) (t := .boolean) (t' := (.object "com/example/baskit/baskit/Keys")) (by decide) (by decide)))) (Or.inr (slot_ne (Or.inr (W_ hw 97 rfl)) (Or.inr (W_ hw 95 rfl)) (by decide) (t := .boolean) (t' := (.object "java/util/Set")) (by decide) (by decide))))
    obtain ⟨T12, h12, X12, e12, W12, st12⟩ := putFN X5 hx hZ hown (W_ hw 96 rfl) Via.refl e5 c11 (Exa.wr W5 (Exa.wr W2 F_1)) (Or.inr ⟨(W_ hw 97 rfl), rfl, hnm⟩) (W_ hw 67 rfl) (ty := .boolean) (v' := (.int (1 : Int32))) (by decide) rfl rfl (g := (mkF m 19 #[rv a1, rv a2, rv a3, iv (1 : Int32)] [(.int (1 : Int32)), (.ref a1)])) rfl rfl (hb hby d_prog_1_1_19)
    have N12 := Fr.snoc X12 N5 gn_a1
    refine Goes.via (B := T12.setTop (mkF m 22 #[rv a1, rv a2, rv a3, iv (1 : Int32)] [])) (fun t k => st12 _ k) ?_
    have c13 : Fld Z h12 a1 "com/example/baskit/baskit/ClientSide" "origins" "Ljava/util/Set;" (.ref a3) := (Fld.other W12 (Fld.same W5 c4) (Or.inr (slot_ne (Or.inr (W_ hw 95 rfl)) (Or.inr (W_ hw 97 rfl)) (by decide) (t := (.object "java/util/Set")) (t' := .boolean) (by decide) (by decide))))
    exact fin0 (Q := (own_Q20 Z a1 a2 a3 rb h0 n0)) (F := FrameEnd) (C := ((Rm 1 0 0 13)).cells) (S := ((Rm 1 0 0 13)).slots) X12 hx Bd.returns (hb hby d_prog_1_1_22) e12 ⟨rfl, N12, ((((Keep.refl h0 [a1]).wr W2 (Or.inl (List.mem_of_getElem? (i := 0) rfl))).wr W5 (Or.inl (List.mem_of_getElem? (i := 0) rfl))).wr W12 (Or.inl (List.mem_of_getElem? (i := 0) rfl))), (Exa.wr W12 (Exa.wr W5 (Exa.wr W2 F_1))), c13⟩ (lvN X12 hlk (by decide) (by decide))
theorem own_ef21 (m : MethodId) (x0 : Addr) (x1 : Addr) (x2 : Addr) (x3 : Int32)  : entryFrame m #[(.ref x0), (.ref x1), (.ref x2), (.int x3)] 4 = mkF m 0 #[rv x0, rv x1, rv x2, iv x3] [] := by first | (simp [entryFrame, mkF, argsToLocals, Value.category]; done) | rfl
abbrev own_Q21 (Z : State) (a1 : Addr) (a2 : Addr) (a3 : Addr) (rb : Int32) (h0 : Heap) (n0 : Nat) (v : Option Value) (h : Heap) (L : List Loc) : Prop := v = none ∧ Fr n0 L ∧ Keep h0 h [a1] ∧ Exa Z h a1 "com/example/baskit/baskit/ClientSide" ∧ Fld Z h a1 "com/example/baskit/baskit/ClientSide" "origins" "Ljava/util/Set;" (.ref a3)
set_option maxRecDepth 65536 in
set_option maxHeartbeats 40000000 in
theorem own_m21 (l : Launch) (Z : State) (a0 : Array Value) (hw : ∀ d ∈ tables_1, d.before a0 Z = true) (ws : List Jvm.Cond) (a1 : Addr) (a2 : Addr) (a3 : Addr) (rb : Int32) (h0 : Heap) (n0 : Nat) (O0 : Old Z n0 h0) (hrb : rb = 0 ∨ rb = 1) (gn_a1 : n0 ≤ a1) (O_1 : Exa Z Z.heap a3 "java/util/ImmutableCollections$SetN") (F_1 : Exa Z h0 a1 "com/example/baskit/baskit/ClientSide") (F_2 : Fld Z h0 a1 "com/example/baskit/baskit/ClientSide" "keys" "Lcom/example/baskit/baskit/Keys;" .null) (F_3 : Fld Z h0 a1 "com/example/baskit/baskit/ClientSide" "origins" "Ljava/util/Set;" .null) (F_4 : Fld Z h0 a1 "com/example/baskit/baskit/ClientSide" "redeems" "Z" (.int (0 : Int32))) :
    Ctr l Z (⟨"com/example/baskit/baskit/ClientSide", "<init>", "(Lcom/example/baskit/baskit/Keys;Ljava/util/Set;Z)V"⟩ : MethodName) prog_1_method_1_code 4 none (Rm 1 0 0 13) #[(.ref a1), (.ref a2), (.ref a3), (.int rb)] h0 (own_Q21 Z a1 a2 a3 rb h0 n0) ws := by
  refine MetFree.of_bodySF (plainFor_of_name own_pn10) hisR ?_
  intro p e s m args below meth c s₁ Bd hml0 hP hK
  obtain ⟨rfl, hZ, hh⟩ := hP
  have hx := Bd.exec
  have hby := Bd.bytes
  have hlk : meth.locks = false := Bd.notSynchronized
  have hml : c.maxLocals = 4 := hml0
  have hown : s.vm.findClass "com/example/baskit/baskit/ClientSide" = some m.cls := findClass_of_methodNamed Bd.named
  have hnm := (name_of_methodNamed Bd.named Bd.method).1
  have X0 : Stand p l e (Rm 1 0 0 13) s m #[(.ref a1), (.ref a2), (.ref a3), (.int rb)] below meth c s₁ [] 0 0 := Stand.of_body Bd
  have e0 : s₁.heap = h0 := by rw [← hh, Bd.state]; rfl
  have N0 := Fr.nil n0
  show Goes p.tables e below (fun t o => ∃ v L, o = .returned v ∧ (own_Q21 Z a1 a2 a3 rb h0 n0) v t.heap L ∧ FrameEnd s o t L ((Rm 1 0 0 13)).cells ((Rm 1 0 0 13)).slots) _
  refine Goes.via (B := s₁.setTop (mkF m 0 #[rv a1, rv a2, rv a3, iv rb] [])) (fun t k => castTop (own_ef21 m a1 a2 a3 rb) k) ?_
  refine Gv s₁ 1 [(.ref a1)] (fun t k => XS.aloadN X0.here hx rfl (hb hby d_prog_1_1_0) rfl rfl k) ?_
  obtain ⟨T1, X1, e1, st1⟩ := initO X0 hx hZ hown (W_ hw 85 rfl) (W_ hw 16 rfl) (W_ hw 17 rfl) e0 (g := (mkF m 1 #[rv a1, rv a2, rv a3, iv rb] [(.ref a1)])) rfl (by rw [hml]; rfl) rfl (hb hby d_prog_1_1_1) (by decide) (W := 0) (by show 2 * 0 + _ ≤ _; exact Nat.le_of_eq rfl) (by decide)
  refine Goes.via (B := T1.setTop (mkF m 4 #[rv a1, rv a2, rv a3, iv rb] [])) (fun t k => st1 _ k) ?_
  refine Gv T1 5 [(.ref a1)] (fun t k => XS.aloadN X1.here hx rfl (hb hby d_prog_1_1_4) rfl rfl k) ?_
  refine Gv T1 6 [(.ref a2), (.ref a1)] (fun t k => XS.aloadN X1.here hx rfl (hb hby d_prog_1_1_5) rfl rfl k) ?_
  obtain ⟨T2, h2, X2, e2, W2, st2⟩ := putF X1 hx hZ hown (host := "") (Or.inl (W_ hw 86 rfl)) Via.refl e1 F_2 F_1 (Or.inr ⟨(W_ hw 87 rfl), rfl, hnm⟩) (W_ hw 67 rfl) (ty := (.object "com/example/baskit/baskit/Keys")) (by decide) rfl rfl (g := (mkF m 6 #[rv a1, rv a2, rv a3, iv rb] [(.ref a2), (.ref a1)])) rfl rfl (hb hby d_prog_1_1_6)
  have N2 := Fr.snoc X2 N0 gn_a1
  refine Goes.via (B := T2.setTop (mkF m 9 #[rv a1, rv a2, rv a3, iv rb] [])) (fun t k => st2 _ k) ?_
  refine Gv T2 10 [(.ref a1)] (fun t k => XS.aloadN X2.here hx rfl (hb hby d_prog_1_1_9) rfl rfl k) ?_
  refine Gv T2 11 [(.ref a3), (.ref a1)] (fun t k => XS.aloadN X2.here hx rfl (hb hby d_prog_1_1_10) rfl rfl k) ?_
  obtain ⟨_, T3, L3, X3, ⟨rfl, M3, K3⟩, st3⟩ := callStatic X2 hx hZ hown (W_ hw 88 rfl) (W_ hw 89 rfl) (W_ hw 28 rfl) (W_ hw 90 rfl) (by decide) (argsL := [(.ref a3)]) (rest := [(.ref a1)]) (own_m18 l Z a0 hw [] a3 h2 n0 (O0.wr W2 gn_a1) O_1) e2 (lenOf own_pd11 rfl) (pc := 11) (Ls := #[rv a1, rv a2, rv a3, iv rb]) (st := [(.ref a3), (.ref a1)]) rfl (by rw [hml]; rfl) (hb hby d_prog_1_1_11) (W := 1) (Nat.le_of_eq rfl) (by decide) (by decide) (by decide) (by decide)
  have N3 := Fr.app N2 M3
  refine Goes.via (B := T3.setTop (mkF m 14 #[rv a1, rv a2, rv a3, iv rb] [(.ref a3), (.ref a1)])) (fun t k => st3 _ k) ?_
  have c4 : Fld Z h2 a1 "com/example/baskit/baskit/ClientSide" "origins" "Ljava/util/Set;" .null := (Fld.other W2 F_3 (Or.inr (slot_ne (Or.inr (W_ hw 95 rfl)) (Or.inr (W_ hw 87 rfl)) (by decide) (t := (.object "java/util/Set")) (t' := (.object "com/example/baskit/baskit/Keys")) (by decide) (by decide))))
  obtain ⟨T5, h5, X5, e5, W5, st5⟩ := putF X3 hx hZ hown (host := "") (Or.inl (W_ hw 94 rfl)) Via.refl K3 c4 (Exa.wr W2 F_1) (Or.inr ⟨(W_ hw 95 rfl), rfl, hnm⟩) (W_ hw 67 rfl) (ty := (.object "java/util/Set")) (by decide) rfl rfl (g := (mkF m 14 #[rv a1, rv a2, rv a3, iv rb] [(.ref a3), (.ref a1)])) rfl rfl (hb hby d_prog_1_1_14)
  have N5 := Fr.snoc X5 N3 gn_a1
  refine Goes.via (B := T5.setTop (mkF m 17 #[rv a1, rv a2, rv a3, iv rb] [])) (fun t k => st5 _ k) ?_
  refine Gv T5 18 [(.ref a1)] (fun t k => XS.aloadN X5.here hx rfl (hb hby d_prog_1_1_17) rfl rfl k) ?_
  refine Gv T5 19 [(.int rb), (.ref a1)] (fun t k => XS.iloadN X5.here hx rfl (hb hby d_prog_1_1_18) rfl k) ?_
  rcases hrb with hrb | hrb
  · have q6 : rb = (0 : Int32) := hrb
    rw [q6]
    have c7 : Fld Z h5 a1 "com/example/baskit/baskit/ClientSide" "redeems" "Z" (.int (0 : Int32)) := (Fld.other W5 (Fld.other W2 F_4 (Or.inr (slot_ne (Or.inr (W_ hw 97 rfl)) (Or.inr (W_ hw 87 rfl)) (by decide) (t := .boolean) (t' := (.object "com/example/baskit/baskit/Keys")) (by decide) (by decide)))) (Or.inr (slot_ne (Or.inr (W_ hw 97 rfl)) (Or.inr (W_ hw 95 rfl)) (by decide) (t := .boolean) (t' := (.object "java/util/Set")) (by decide) (by decide))))
    obtain ⟨T8, h8, X8, e8, W8, st8⟩ := putFN X5 hx hZ hown (W_ hw 96 rfl) Via.refl e5 c7 (Exa.wr W5 (Exa.wr W2 F_1)) (Or.inr ⟨(W_ hw 97 rfl), rfl, hnm⟩) (W_ hw 67 rfl) (ty := .boolean) (v' := (.int (0 : Int32))) (by decide) rfl rfl (g := (mkF m 19 #[rv a1, rv a2, rv a3, iv (0 : Int32)] [(.int (0 : Int32)), (.ref a1)])) rfl rfl (hb hby d_prog_1_1_19)
    have N8 := Fr.snoc X8 N5 gn_a1
    refine Goes.via (B := T8.setTop (mkF m 22 #[rv a1, rv a2, rv a3, iv (0 : Int32)] [])) (fun t k => st8 _ k) ?_
    have c9 : Fld Z h8 a1 "com/example/baskit/baskit/ClientSide" "origins" "Ljava/util/Set;" (.ref a3) := (Fld.other W8 (Fld.same W5 c4) (Or.inr (slot_ne (Or.inr (W_ hw 95 rfl)) (Or.inr (W_ hw 97 rfl)) (by decide) (t := (.object "java/util/Set")) (t' := .boolean) (by decide) (by decide))))
    exact fin0 (Q := (own_Q21 Z a1 a2 a3 rb h0 n0)) (F := FrameEnd) (C := ((Rm 1 0 0 13)).cells) (S := ((Rm 1 0 0 13)).slots) X8 hx Bd.returns (hb hby d_prog_1_1_22) e8 ⟨rfl, N8, ((((Keep.refl h0 [a1]).wr W2 (Or.inl (List.mem_of_getElem? (i := 0) rfl))).wr W5 (Or.inl (List.mem_of_getElem? (i := 0) rfl))).wr W8 (Or.inl (List.mem_of_getElem? (i := 0) rfl))), (Exa.wr W8 (Exa.wr W5 (Exa.wr W2 F_1))), c9⟩ (lvN X8 hlk (by decide) (by decide))
  · have q10 : rb = (1 : Int32) := hrb
    rw [q10]
    have c11 : Fld Z h5 a1 "com/example/baskit/baskit/ClientSide" "redeems" "Z" (.int (0 : Int32)) := (Fld.other W5 (Fld.other W2 F_4 (Or.inr (slot_ne (Or.inr (W_ hw 97 rfl)) (Or.inr (W_ hw 87 rfl)) (by decide) (t := .boolean) (t' := (.object "com/example/baskit/baskit/Keys")) (by decide) (by decide)))) (Or.inr (slot_ne (Or.inr (W_ hw 97 rfl)) (Or.inr (W_ hw 95 rfl)) (by decide) (t := .boolean) (t' := (.object "java/util/Set")) (by decide) (by decide))))
    obtain ⟨T12, h12, X12, e12, W12, st12⟩ := putFN X5 hx hZ hown (W_ hw 96 rfl) Via.refl e5 c11 (Exa.wr W5 (Exa.wr W2 F_1)) (Or.inr ⟨(W_ hw 97 rfl), rfl, hnm⟩) (W_ hw 67 rfl) (ty := .boolean) (v' := (.int (1 : Int32))) (by decide) rfl rfl (g := (mkF m 19 #[rv a1, rv a2, rv a3, iv (1 : Int32)] [(.int (1 : Int32)), (.ref a1)])) rfl rfl (hb hby d_prog_1_1_19)
    have N12 := Fr.snoc X12 N5 gn_a1
    refine Goes.via (B := T12.setTop (mkF m 22 #[rv a1, rv a2, rv a3, iv (1 : Int32)] [])) (fun t k => st12 _ k) ?_
    have c13 : Fld Z h12 a1 "com/example/baskit/baskit/ClientSide" "origins" "Ljava/util/Set;" (.ref a3) := (Fld.other W12 (Fld.same W5 c4) (Or.inr (slot_ne (Or.inr (W_ hw 95 rfl)) (Or.inr (W_ hw 97 rfl)) (by decide) (t := (.object "java/util/Set")) (t' := .boolean) (by decide) (by decide))))
    exact fin0 (Q := (own_Q21 Z a1 a2 a3 rb h0 n0)) (F := FrameEnd) (C := ((Rm 1 0 0 13)).cells) (S := ((Rm 1 0 0 13)).slots) X12 hx Bd.returns (hb hby d_prog_1_1_22) e12 ⟨rfl, N12, ((((Keep.refl h0 [a1]).wr W2 (Or.inl (List.mem_of_getElem? (i := 0) rfl))).wr W5 (Or.inl (List.mem_of_getElem? (i := 0) rfl))).wr W12 (Or.inl (List.mem_of_getElem? (i := 0) rfl))), (Exa.wr W12 (Exa.wr W5 (Exa.wr W2 F_1))), c13⟩ (lvN X12 hlk (by decide) (by decide))
theorem d_jdk_101_5_0 : decode jdk_101_method_5_code 0 = .ok (.aload_n 1, 1) := by decide +kernel
theorem d_jdk_101_5_1 : decode jdk_101_method_5_code 1 = .ok (.aload_n 0, 1) := by decide +kernel
theorem d_jdk_101_5_2 : decode jdk_101_method_5_code 2 = .ok (.getfield 13, 3) := by decide +kernel
theorem d_jdk_101_5_5 : decode jdk_101_method_5_code 5 = .ok (.invokevirtual 27, 3) := by decide +kernel
theorem d_jdk_101_5_8 : decode jdk_101_method_5_code 8 = .ok (.ifCond .ne 14, 3) := by decide +kernel
theorem d_jdk_101_5_11 : decode jdk_101_method_5_code 11 = .ok (.aload_n 0, 1) := by decide +kernel
theorem d_jdk_101_5_12 : decode jdk_101_method_5_code 12 = .ok (.getfield 24, 3) := by decide +kernel
theorem d_jdk_101_5_15 : decode jdk_101_method_5_code 15 = .ok (.aload_n 1, 1) := by decide +kernel
theorem d_jdk_101_5_16 : decode jdk_101_method_5_code 16 = .ok (.invokevirtual 27, 3) := by decide +kernel
theorem d_jdk_101_5_19 : decode jdk_101_method_5_code 19 = .ok (.ifCond .eq 7, 3) := by decide +kernel
theorem d_jdk_101_5_26 : decode jdk_101_method_5_code 26 = .ok (.iconst 0, 1) := by decide +kernel
theorem d_jdk_101_5_27 : decode jdk_101_method_5_code 27 = .ok (.ireturn, 1) := by decide +kernel
theorem d_jdk_101_5_22 : decode jdk_101_method_5_code 22 = .ok (.iconst 1, 1) := by decide +kernel
theorem d_jdk_101_5_23 : decode jdk_101_method_5_code 23 = .ok (.goto 4, 3) := by decide +kernel
theorem own_ef22 (m : MethodId) (x0 : Addr) (x1 : Addr)  : entryFrame m #[(.ref x0), (.ref x1)] 2 = mkF m 0 #[rv x0, rv x1] [] := by first | (simp [entryFrame, mkF, argsToLocals, Value.category]; done) | rfl
abbrev own_Q22 (Z : State) (a1 : Addr) (em : Addr) (a2 : Addr) (t2a : Addr) (k2a : ClassId) (ca : List Int32) (z0 : Int32) (o1a : Addr) (o1t : Addr) (o1k : ClassId) (co : List Int32) (h0 : Heap) (n0 : Nat) (v : Option Value) (h : Heap) (L : List Loc) : Prop := ∃ r : Int32, v = some (.int r) ∧ Fr n0 L ∧ h = h0 ∧ r = if own_eq co ca = (0 : Int32) then (0 : Int32) else 1
set_option maxRecDepth 65536 in
set_option maxHeartbeats 40000000 in
theorem own_m22 (l : Launch) (Z : State) (a0 : Array Value) (hw : ∀ d ∈ tables_1, d.before a0 Z = true) (ws : List Jvm.Cond) (a1 : Addr) (em : Addr) (a2 : Addr) (t2a : Addr) (k2a : ClassId) (ca : List Int32) (z0 : Int32) (o1a : Addr) (o1t : Addr) (o1k : ClassId) (co : List Int32) (h0 : Heap) (n0 : Nat) (O0 : Old Z n0 h0) (hz0 : ¬ z0 = (0 : Int32)) (hca : ∀ c ∈ ca, ¬ c < 0 ∧ ¬ (255 : Int32) < c) (lca : ca.length ≤ 4000) (hco : ∀ c ∈ co, ¬ c < 0 ∧ ¬ (255 : Int32) < c) (lco : co.length ≤ 4000) (hno : ¬ em = o1a) (O_1 : Sta Z Z.heap "java/lang/String" "COMPACT_STRINGS" "Z" (.int z0)) (O_2 : Exa Z Z.heap em "java/lang/Object") (F_1 : Exa Z h0 a1 "java/util/ImmutableCollections$Set12") (F_2 : Fld Z h0 a1 "java/util/ImmutableCollections$Set12" "e0" "Ljava/lang/Object;" (.ref a2)) (F_3 : Fld Z h0 a1 "java/util/ImmutableCollections$Set12" "e1" "Ljava/lang/Object;" (.ref em)) (F_4 : Exa Z h0 a2 "java/lang/String") (F_5 : Fld Z h0 a2 "java/lang/String" "value" "[B" (.ref t2a)) (F_6 : Fld Z h0 a2 "java/lang/String" "coder" "B" (.int (0 : Int32))) (F_7 : Arv Z h0 t2a k2a .byte (Int32.ofNat ca.length) ((ca.map StrChars.lo8).map Value.int) (.int 0)) (F_8 : Exa Z h0 o1a "java/lang/String") (F_9 : Fld Z h0 o1a "java/lang/String" "value" "[B" (.ref o1t)) (F_10 : Fld Z h0 o1a "java/lang/String" "coder" "B" (.int (0 : Int32))) (F_11 : Arv Z h0 o1t o1k .byte (Int32.ofNat co.length) ((co.map StrChars.lo8).map Value.int) (.int 0)) :
    Ctr l Z (⟨"java/util/ImmutableCollections$Set12", "contains", "(Ljava/lang/Object;)Z"⟩ : MethodName) jdk_101_method_5_code 2 (some .boolean) (Rm 2 0 0 28) #[(.ref a1), (.ref o1a)] h0 (own_Q22 Z a1 em a2 t2a k2a ca z0 o1a o1t o1k co h0 n0) ws := by
  refine MetFree.of_bodySF (plainFor_of_name own_pn7) hisR ?_
  intro p e s m args below meth c s₁ Bd hml0 hP hK
  obtain ⟨rfl, hZ, hh⟩ := hP
  have hx := Bd.exec
  have hby := Bd.bytes
  have hlk : meth.locks = false := Bd.notSynchronized
  have hml : c.maxLocals = 2 := hml0
  have hown : s.vm.findClass "java/util/ImmutableCollections$Set12" = some m.cls := findClass_of_methodNamed Bd.named
  have hnm := (name_of_methodNamed Bd.named Bd.method).1
  have X0 : Stand p l e (Rm 2 0 0 28) s m #[(.ref a1), (.ref o1a)] below meth c s₁ [] 0 0 := Stand.of_body Bd
  have e0 : s₁.heap = h0 := by rw [← hh, Bd.state]; rfl
  have N0 := Fr.nil n0
  show Goes p.tables e below (fun t o => ∃ v L, o = .returned v ∧ (own_Q22 Z a1 em a2 t2a k2a ca z0 o1a o1t o1k co h0 n0) v t.heap L ∧ FrameEnd s o t L ((Rm 2 0 0 28)).cells ((Rm 2 0 0 28)).slots) _
  refine Goes.via (B := s₁.setTop (mkF m 0 #[rv a1, rv o1a] [])) (fun t k => castTop (own_ef22 m a1 o1a) k) ?_
  refine Gv s₁ 1 [(.ref o1a)] (fun t k => XS.aloadN X0.here hx rfl (hb hby d_jdk_101_5_0) rfl rfl k) ?_
  refine Gv s₁ 2 [(.ref a1), (.ref o1a)] (fun t k => XS.aloadN X0.here hx rfl (hb hby d_jdk_101_5_1) rfl rfl k) ?_
  obtain ⟨T1, X1, e1, st1⟩ := getF X0 hx hZ hown (host := "") (Or.inl (W_ hw 60 rfl)) Via.refl e0 F_2 (g := (mkF m 2 #[rv a1, rv o1a] [(.ref a1), (.ref o1a)])) rfl rfl (hb hby d_jdk_101_5_2)
  refine Goes.via (B := T1.setTop (mkF m 5 #[rv a1, rv o1a] [(.ref a2), (.ref o1a)])) (fun t k => st1 _ k) ?_
  obtain ⟨_, T2, L2, X2, ⟨rfl, M2, K2⟩, st2⟩ := callVirtB X1 hx hZ hown (W_ hw 122 rfl) (W_ hw 123 rfl) (W_ hw 125 rfl) (notFace_of_selects (args := #[]) (mvT hZ (W_ hw 163 rfl))) (W_ hw 105 rfl) (by decide) (argsL := [(.ref a2)]) (rest := []) (W := 0) (own_eqI (s := s) (W := 0) hZ (own_hw_wordsEq hw) (W_ hw 5 rfl) (x := o1a) (cs := co) F_8 F_9 F_10 F_11 hco lco (y := a2) (ds := ca) F_4 F_5 F_6 F_7 hca lca (Sta.ext O0.2 O_1) hz0 n0 (by decide) (by decide)) e1 F_8 (lenOf own_pd9 rfl) (pc := 5) (Ls := #[rv a1, rv o1a]) (st := [(.ref a2), (.ref o1a)]) rfl (by rw [hml]; rfl) (hb hby d_jdk_101_5_5) (Nat.le_of_eq rfl) (by decide) (by decide)
  have N2 := Fr.app N0 M2
  refine Goes.via (B := T2.setTop (mkF m 8 #[rv a1, rv o1a] [(.int (own_eq co ca))])) (fun t k => st2 _ k) ?_
  by_cases b3 : (own_eq co ca) = (0 : Int32)
  · refine Gv T2 11 [] (fun t k => XS.ifNo X2.here hx rfl (hb hby d_jdk_101_5_8) rfl (XT.i0_ne_f b3) k) ?_
    refine Gv T2 12 [(.ref a1)] (fun t k => XS.aloadN X2.here hx rfl (hb hby d_jdk_101_5_11) rfl rfl k) ?_
    obtain ⟨T4, X4, e4, st4⟩ := getF X2 hx hZ hown (host := "") (Or.inl (W_ hw 64 rfl)) Via.refl K2 F_3 (g := (mkF m 12 #[rv a1, rv o1a] [(.ref a1)])) rfl rfl (hb hby d_jdk_101_5_12)
    refine Goes.via (B := T4.setTop (mkF m 15 #[rv a1, rv o1a] [(.ref em)])) (fun t k => st4 _ k) ?_
    refine Gv T4 16 [(.ref o1a), (.ref em)] (fun t k => XS.aloadN X4.here hx rfl (hb hby d_jdk_101_5_15) rfl rfl k) ?_
    obtain ⟨_, T5, L5, X5, ⟨rfl, M5, K5⟩, st5⟩ := callVirtB X4 hx hZ hown (W_ hw 122 rfl) (W_ hw 123 rfl) (W_ hw 163 rfl) (notFace_of_selects (args := #[]) (mvT hZ (W_ hw 163 rfl))) (W_ hw 124 rfl) (by decide) (argsL := [(.ref o1a)]) (rest := []) (W := 0) (own_objEq (s := s) (W := 0) hx hZ (W_ hw 164 rfl) hno n0 (by decide) (by decide)) e4 (O_2.ext O0.2) (lenOf own_pd9 rfl) (pc := 16) (Ls := #[rv a1, rv o1a]) (st := [(.ref o1a), (.ref em)]) rfl (by rw [hml]; rfl) (hb hby d_jdk_101_5_16) (Nat.le_of_eq rfl) (by decide) (by decide)
    have N5 := Fr.app N2 M5
    refine Goes.via (B := T5.setTop (mkF m 19 #[rv a1, rv o1a] [(.int (0 : Int32))])) (fun t k => st5 _ k) ?_
    refine Gv T5 26 [] (fun t k => XS.ifYes X5.here hx rfl (pc0 := 19) (pc' := 26) rfl (hb hby d_jdk_101_5_19) rfl (XT.i0_eq_t rfl) (by decide) (by decide) k) ?_
    refine Gv T5 27 [(.int (0 : Int32))] (fun t k => XS.iconst X5.here hx rfl (hb hby d_jdk_101_5_26) k) ?_
    exact finN (Q := (own_Q22 Z a1 em a2 t2a k2a ca z0 o1a o1t o1k co h0 n0)) (F := FrameEnd) (C := ((Rm 2 0 0 28)).cells) (S := ((Rm 2 0 0 28)).slots) X5 hx (t := .boolean) Bd.returns (by simp) (z' := (0 : Int32)) rfl (hb hby d_jdk_101_5_27) K5 ⟨(0 : Int32), rfl, N5, rfl, (if_pos b3).symm⟩ (lvN X5 hlk (by decide) (by decide))
  · refine Gv T2 22 [] (fun t k => XS.ifYes X2.here hx rfl (pc0 := 8) (pc' := 22) rfl (hb hby d_jdk_101_5_8) rfl (XT.i0_ne_t b3) (by decide) (by decide) k) ?_
    refine Gv T2 23 [(.int (1 : Int32))] (fun t k => XS.iconst X2.here hx rfl (hb hby d_jdk_101_5_22) k) ?_
    refine Gv T2 27 [(.int (1 : Int32))] (fun t k => XS.goto X2.here hx rfl (pc0 := 23) (pc' := 27) rfl (hb hby d_jdk_101_5_23) (by decide) (by decide) k) ?_
    exact finN (Q := (own_Q22 Z a1 em a2 t2a k2a ca z0 o1a o1t o1k co h0 n0)) (F := FrameEnd) (C := ((Rm 2 0 0 28)).cells) (S := ((Rm 2 0 0 28)).slots) X2 hx (t := .boolean) Bd.returns (by simp) (z' := (1 : Int32)) rfl (hb hby d_jdk_101_5_27) K2 ⟨(1 : Int32), rfl, N2, rfl, (if_neg b3).symm⟩ (lvN X2 hlk (by decide) (by decide))
theorem own_ef23 (m : MethodId) (x0 : Addr) (x1 : Addr)  : entryFrame m #[(.ref x0), (.ref x1)] 2 = mkF m 0 #[rv x0, rv x1] [] := by first | (simp [entryFrame, mkF, argsToLocals, Value.category]; done) | rfl
abbrev own_Q23 (Z : State) (a1 : Addr) (a2 : Addr) (a3 : Addr) (t2a : Addr) (k2a : ClassId) (t3a : Addr) (k3a : ClassId) (ca : List Int32) (cb : List Int32) (z0 : Int32) (o1a : Addr) (o1t : Addr) (o1k : ClassId) (co : List Int32) (h0 : Heap) (n0 : Nat) (v : Option Value) (h : Heap) (L : List Loc) : Prop := ∃ r : Int32, v = some (.int r) ∧ Fr n0 L ∧ h = h0 ∧ r = if own_eq co ca = (0 : Int32) then (if own_eq cb co = (0 : Int32) then (0 : Int32) else 1) else 1
set_option maxRecDepth 65536 in
set_option maxHeartbeats 40000000 in
theorem own_m23 (l : Launch) (Z : State) (a0 : Array Value) (hw : ∀ d ∈ tables_1, d.before a0 Z = true) (ws : List Jvm.Cond) (a1 : Addr) (a2 : Addr) (a3 : Addr) (t2a : Addr) (k2a : ClassId) (t3a : Addr) (k3a : ClassId) (ca : List Int32) (cb : List Int32) (z0 : Int32) (o1a : Addr) (o1t : Addr) (o1k : ClassId) (co : List Int32) (h0 : Heap) (n0 : Nat) (O0 : Old Z n0 h0) (hz0 : ¬ z0 = (0 : Int32)) (hca : ∀ c ∈ ca, ¬ c < 0 ∧ ¬ (255 : Int32) < c) (lca : ca.length ≤ 4000) (hcb : ∀ c ∈ cb, ¬ c < 0 ∧ ¬ (255 : Int32) < c) (lcb : cb.length ≤ 4000) (hco : ∀ c ∈ co, ¬ c < 0 ∧ ¬ (255 : Int32) < c) (lco : co.length ≤ 4000) (O_1 : Sta Z Z.heap "java/lang/String" "COMPACT_STRINGS" "Z" (.int z0)) (F_1 : Exa Z h0 a1 "java/util/ImmutableCollections$Set12") (F_2 : Fld Z h0 a1 "java/util/ImmutableCollections$Set12" "e0" "Ljava/lang/Object;" (.ref a2)) (F_3 : Fld Z h0 a1 "java/util/ImmutableCollections$Set12" "e1" "Ljava/lang/Object;" (.ref a3)) (F_4 : Exa Z h0 a2 "java/lang/String") (F_5 : Fld Z h0 a2 "java/lang/String" "value" "[B" (.ref t2a)) (F_6 : Fld Z h0 a2 "java/lang/String" "coder" "B" (.int (0 : Int32))) (F_7 : Arv Z h0 t2a k2a .byte (Int32.ofNat ca.length) ((ca.map StrChars.lo8).map Value.int) (.int 0)) (F_8 : Exa Z h0 a3 "java/lang/String") (F_9 : Fld Z h0 a3 "java/lang/String" "value" "[B" (.ref t3a)) (F_10 : Fld Z h0 a3 "java/lang/String" "coder" "B" (.int (0 : Int32))) (F_11 : Arv Z h0 t3a k3a .byte (Int32.ofNat cb.length) ((cb.map StrChars.lo8).map Value.int) (.int 0)) (F_12 : Exa Z h0 o1a "java/lang/String") (F_13 : Fld Z h0 o1a "java/lang/String" "value" "[B" (.ref o1t)) (F_14 : Fld Z h0 o1a "java/lang/String" "coder" "B" (.int (0 : Int32))) (F_15 : Arv Z h0 o1t o1k .byte (Int32.ofNat co.length) ((co.map StrChars.lo8).map Value.int) (.int 0)) :
    Ctr l Z (⟨"java/util/ImmutableCollections$Set12", "contains", "(Ljava/lang/Object;)Z"⟩ : MethodName) jdk_101_method_5_code 2 (some .boolean) (Rm 2 0 0 28) #[(.ref a1), (.ref o1a)] h0 (own_Q23 Z a1 a2 a3 t2a k2a t3a k3a ca cb z0 o1a o1t o1k co h0 n0) ws := by
  refine MetFree.of_bodySF (plainFor_of_name own_pn7) hisR ?_
  intro p e s m args below meth c s₁ Bd hml0 hP hK
  obtain ⟨rfl, hZ, hh⟩ := hP
  have hx := Bd.exec
  have hby := Bd.bytes
  have hlk : meth.locks = false := Bd.notSynchronized
  have hml : c.maxLocals = 2 := hml0
  have hown : s.vm.findClass "java/util/ImmutableCollections$Set12" = some m.cls := findClass_of_methodNamed Bd.named
  have hnm := (name_of_methodNamed Bd.named Bd.method).1
  have X0 : Stand p l e (Rm 2 0 0 28) s m #[(.ref a1), (.ref o1a)] below meth c s₁ [] 0 0 := Stand.of_body Bd
  have e0 : s₁.heap = h0 := by rw [← hh, Bd.state]; rfl
  have N0 := Fr.nil n0
  show Goes p.tables e below (fun t o => ∃ v L, o = .returned v ∧ (own_Q23 Z a1 a2 a3 t2a k2a t3a k3a ca cb z0 o1a o1t o1k co h0 n0) v t.heap L ∧ FrameEnd s o t L ((Rm 2 0 0 28)).cells ((Rm 2 0 0 28)).slots) _
  refine Goes.via (B := s₁.setTop (mkF m 0 #[rv a1, rv o1a] [])) (fun t k => castTop (own_ef23 m a1 o1a) k) ?_
  refine Gv s₁ 1 [(.ref o1a)] (fun t k => XS.aloadN X0.here hx rfl (hb hby d_jdk_101_5_0) rfl rfl k) ?_
  refine Gv s₁ 2 [(.ref a1), (.ref o1a)] (fun t k => XS.aloadN X0.here hx rfl (hb hby d_jdk_101_5_1) rfl rfl k) ?_
  obtain ⟨T1, X1, e1, st1⟩ := getF X0 hx hZ hown (host := "") (Or.inl (W_ hw 60 rfl)) Via.refl e0 F_2 (g := (mkF m 2 #[rv a1, rv o1a] [(.ref a1), (.ref o1a)])) rfl rfl (hb hby d_jdk_101_5_2)
  refine Goes.via (B := T1.setTop (mkF m 5 #[rv a1, rv o1a] [(.ref a2), (.ref o1a)])) (fun t k => st1 _ k) ?_
  obtain ⟨_, T2, L2, X2, ⟨rfl, M2, K2⟩, st2⟩ := callVirtB X1 hx hZ hown (W_ hw 122 rfl) (W_ hw 123 rfl) (W_ hw 125 rfl) (notFace_of_selects (args := #[]) (mvT hZ (W_ hw 163 rfl))) (W_ hw 105 rfl) (by decide) (argsL := [(.ref a2)]) (rest := []) (W := 0) (own_eqI (s := s) (W := 0) hZ (own_hw_wordsEq hw) (W_ hw 5 rfl) (x := o1a) (cs := co) F_12 F_13 F_14 F_15 hco lco (y := a2) (ds := ca) F_4 F_5 F_6 F_7 hca lca (Sta.ext O0.2 O_1) hz0 n0 (by decide) (by decide)) e1 F_12 (lenOf own_pd9 rfl) (pc := 5) (Ls := #[rv a1, rv o1a]) (st := [(.ref a2), (.ref o1a)]) rfl (by rw [hml]; rfl) (hb hby d_jdk_101_5_5) (Nat.le_of_eq rfl) (by decide) (by decide)
  have N2 := Fr.app N0 M2
  refine Goes.via (B := T2.setTop (mkF m 8 #[rv a1, rv o1a] [(.int (own_eq co ca))])) (fun t k => st2 _ k) ?_
  by_cases b3 : (own_eq co ca) = (0 : Int32)
  · refine Gv T2 11 [] (fun t k => XS.ifNo X2.here hx rfl (hb hby d_jdk_101_5_8) rfl (XT.i0_ne_f b3) k) ?_
    refine Gv T2 12 [(.ref a1)] (fun t k => XS.aloadN X2.here hx rfl (hb hby d_jdk_101_5_11) rfl rfl k) ?_
    obtain ⟨T4, X4, e4, st4⟩ := getF X2 hx hZ hown (host := "") (Or.inl (W_ hw 64 rfl)) Via.refl K2 F_3 (g := (mkF m 12 #[rv a1, rv o1a] [(.ref a1)])) rfl rfl (hb hby d_jdk_101_5_12)
    refine Goes.via (B := T4.setTop (mkF m 15 #[rv a1, rv o1a] [(.ref a3)])) (fun t k => st4 _ k) ?_
    refine Gv T4 16 [(.ref o1a), (.ref a3)] (fun t k => XS.aloadN X4.here hx rfl (hb hby d_jdk_101_5_15) rfl rfl k) ?_
    obtain ⟨_, T5, L5, X5, ⟨rfl, M5, K5⟩, st5⟩ := callVirtB X4 hx hZ hown (W_ hw 122 rfl) (W_ hw 123 rfl) (W_ hw 125 rfl) (notFace_of_selects (args := #[]) (mvT hZ (W_ hw 163 rfl))) (W_ hw 105 rfl) (by decide) (argsL := [(.ref o1a)]) (rest := []) (W := 0) (own_eqI (s := s) (W := 0) hZ (own_hw_wordsEq hw) (W_ hw 5 rfl) (x := a3) (cs := cb) F_8 F_9 F_10 F_11 hcb lcb (y := o1a) (ds := co) F_12 F_13 F_14 F_15 hco lco (Sta.ext O0.2 O_1) hz0 n0 (by decide) (by decide)) e4 F_8 (lenOf own_pd9 rfl) (pc := 16) (Ls := #[rv a1, rv o1a]) (st := [(.ref o1a), (.ref a3)]) rfl (by rw [hml]; rfl) (hb hby d_jdk_101_5_16) (Nat.le_of_eq rfl) (by decide) (by decide)
    have N5 := Fr.app N2 M5
    refine Goes.via (B := T5.setTop (mkF m 19 #[rv a1, rv o1a] [(.int (own_eq cb co))])) (fun t k => st5 _ k) ?_
    by_cases b6 : (own_eq cb co) = (0 : Int32)
    · refine Gv T5 26 [] (fun t k => XS.ifYes X5.here hx rfl (pc0 := 19) (pc' := 26) rfl (hb hby d_jdk_101_5_19) rfl (XT.i0_eq_t b6) (by decide) (by decide) k) ?_
      refine Gv T5 27 [(.int (0 : Int32))] (fun t k => XS.iconst X5.here hx rfl (hb hby d_jdk_101_5_26) k) ?_
      exact finN (Q := (own_Q23 Z a1 a2 a3 t2a k2a t3a k3a ca cb z0 o1a o1t o1k co h0 n0)) (F := FrameEnd) (C := ((Rm 2 0 0 28)).cells) (S := ((Rm 2 0 0 28)).slots) X5 hx (t := .boolean) Bd.returns (by simp) (z' := (0 : Int32)) rfl (hb hby d_jdk_101_5_27) K5 ⟨(0 : Int32), rfl, N5, rfl, (by rw [if_pos b3, if_pos b6])⟩ (lvN X5 hlk (by decide) (by decide))
    · refine Gv T5 22 [] (fun t k => XS.ifNo X5.here hx rfl (hb hby d_jdk_101_5_19) rfl (XT.i0_eq_f b6) k) ?_
      refine Gv T5 23 [(.int (1 : Int32))] (fun t k => XS.iconst X5.here hx rfl (hb hby d_jdk_101_5_22) k) ?_
      refine Gv T5 27 [(.int (1 : Int32))] (fun t k => XS.goto X5.here hx rfl (pc0 := 23) (pc' := 27) rfl (hb hby d_jdk_101_5_23) (by decide) (by decide) k) ?_
      exact finN (Q := (own_Q23 Z a1 a2 a3 t2a k2a t3a k3a ca cb z0 o1a o1t o1k co h0 n0)) (F := FrameEnd) (C := ((Rm 2 0 0 28)).cells) (S := ((Rm 2 0 0 28)).slots) X5 hx (t := .boolean) Bd.returns (by simp) (z' := (1 : Int32)) rfl (hb hby d_jdk_101_5_27) K5 ⟨(1 : Int32), rfl, N5, rfl, (by rw [if_pos b3, if_neg b6])⟩ (lvN X5 hlk (by decide) (by decide))
  · refine Gv T2 22 [] (fun t k => XS.ifYes X2.here hx rfl (pc0 := 8) (pc' := 22) rfl (hb hby d_jdk_101_5_8) rfl (XT.i0_ne_t b3) (by decide) (by decide) k) ?_
    refine Gv T2 23 [(.int (1 : Int32))] (fun t k => XS.iconst X2.here hx rfl (hb hby d_jdk_101_5_22) k) ?_
    refine Gv T2 27 [(.int (1 : Int32))] (fun t k => XS.goto X2.here hx rfl (pc0 := 23) (pc' := 27) rfl (hb hby d_jdk_101_5_23) (by decide) (by decide) k) ?_
    exact finN (Q := (own_Q23 Z a1 a2 a3 t2a k2a t3a k3a ca cb z0 o1a o1t o1k co h0 n0)) (F := FrameEnd) (C := ((Rm 2 0 0 28)).cells) (S := ((Rm 2 0 0 28)).slots) X2 hx (t := .boolean) Bd.returns (by simp) (z' := (1 : Int32)) rfl (hb hby d_jdk_101_5_27) K2 ⟨(1 : Int32), rfl, N2, rfl, (if_neg b3).symm⟩ (lvN X2 hlk (by decide) (by decide))
theorem own_pn11 : plainName "java/util/ImmutableCollections$SetN" = true := by first | (simp [plainName, overriddenIn]; done) | decide +kernel
theorem d_jdk_132_4_0 : decode jdk_132_method_4_code 0 = .ok (.aload_n 1, 1) := by decide +kernel
theorem d_jdk_132_4_1 : decode jdk_132_method_4_code 1 = .ok (.invokestatic 46, 3) := by decide +kernel
theorem d_jdk_132_4_4 : decode jdk_132_method_4_code 4 = .ok (.pop, 1) := by decide +kernel
theorem d_jdk_132_4_5 : decode jdk_132_method_4_code 5 = .ok (.aload_n 0, 1) := by decide +kernel
theorem d_jdk_132_4_6 : decode jdk_132_method_4_code 6 = .ok (.getfield 9, 3) := by decide +kernel
theorem d_jdk_132_4_9 : decode jdk_132_method_4_code 9 = .ok (.ifCond .le 15, 3) := by decide +kernel
theorem d_jdk_132_4_24 : decode jdk_132_method_4_code 24 = .ok (.iconst 0, 1) := by decide +kernel
theorem d_jdk_132_4_25 : decode jdk_132_method_4_code 25 = .ok (.ireturn, 1) := by decide +kernel
theorem own_ef24 (m : MethodId) (x0 : Addr) (x1 : Addr)  : entryFrame m #[(.ref x0), (.ref x1)] 2 = mkF m 0 #[rv x0, rv x1] [] := by first | (simp [entryFrame, mkF, argsToLocals, Value.category]; done) | rfl
abbrev own_Q24 (Z : State) (es : Addr) (o1a : Addr) (h0 : Heap) (n0 : Nat) (v : Option Value) (h : Heap) (L : List Loc) : Prop := v = some (.int (0 : Int32)) ∧ Fr n0 L ∧ h = h0
set_option maxRecDepth 65536 in
set_option maxHeartbeats 40000000 in
theorem own_m24 (l : Launch) (Z : State) (a0 : Array Value) (hw : ∀ d ∈ tables_1, d.before a0 Z = true) (ws : List Jvm.Cond) (es : Addr) (o1a : Addr) (h0 : Heap) (n0 : Nat) (O0 : Old Z n0 h0) (O_1 : Exa Z Z.heap es "java/util/ImmutableCollections$SetN") (O_2 : Fld Z Z.heap es "java/util/ImmutableCollections$SetN" "size" "I" (.int (0 : Int32))) :
    Ctr l Z (⟨"java/util/ImmutableCollections$SetN", "contains", "(Ljava/lang/Object;)Z"⟩ : MethodName) jdk_132_method_4_code 2 (some .boolean) (Rm 1 0 0 12) #[(.ref es), (.ref o1a)] h0 (own_Q24 Z es o1a h0 n0) ws := by
  refine MetFree.of_bodySF (plainFor_of_name own_pn11) hisR ?_
  intro p e s m args below meth c s₁ Bd hml0 hP hK
  obtain ⟨rfl, hZ, hh⟩ := hP
  have hx := Bd.exec
  have hby := Bd.bytes
  have hlk : meth.locks = false := Bd.notSynchronized
  have hml : c.maxLocals = 2 := hml0
  have hown : s.vm.findClass "java/util/ImmutableCollections$SetN" = some m.cls := findClass_of_methodNamed Bd.named
  have hnm := (name_of_methodNamed Bd.named Bd.method).1
  have X0 : Stand p l e (Rm 1 0 0 12) s m #[(.ref es), (.ref o1a)] below meth c s₁ [] 0 0 := Stand.of_body Bd
  have e0 : s₁.heap = h0 := by rw [← hh, Bd.state]; rfl
  have N0 := Fr.nil n0
  show Goes p.tables e below (fun t o => ∃ v L, o = .returned v ∧ (own_Q24 Z es o1a h0 n0) v t.heap L ∧ FrameEnd s o t L ((Rm 1 0 0 12)).cells ((Rm 1 0 0 12)).slots) _
  refine Goes.via (B := s₁.setTop (mkF m 0 #[rv es, rv o1a] [])) (fun t k => castTop (own_ef24 m es o1a) k) ?_
  refine Gv s₁ 1 [(.ref o1a)] (fun t k => XS.aloadN X0.here hx rfl (hb hby d_jdk_132_4_0) rfl rfl k) ?_
  obtain ⟨_, T1, L1, X1, ⟨rfl, M1, K1⟩, st1⟩ := callStatic X0 hx hZ hown (W_ hw 160 rfl) (W_ hw 57 rfl) (W_ hw 58 rfl) (W_ hw 59 rfl) (by decide) (argsL := [(.ref o1a)]) (rest := []) (own_m11 l Z a0 hw [] o1a h0 n0 O0 ) e0 (lenOf own_pd7 rfl) (pc := 1) (Ls := #[rv es, rv o1a]) (st := [(.ref o1a)]) rfl (by rw [hml]; rfl) (hb hby d_jdk_132_4_1) (W := 0) (Nat.le_of_eq rfl) (by decide) (by decide) (by decide) (by decide)
  have N1 := Fr.app N0 M1
  refine Goes.via (B := T1.setTop (mkF m 4 #[rv es, rv o1a] [(.ref o1a)])) (fun t k => st1 _ k) ?_
  refine Gv T1 5 [] (fun t k => XS.pop X1.here hx rfl (hb hby d_jdk_132_4_4) rfl rfl k) ?_
  refine Gv T1 6 [(.ref es)] (fun t k => XS.aloadN X1.here hx rfl (hb hby d_jdk_132_4_5) rfl rfl k) ?_
  obtain ⟨T2, X2, e2, st2⟩ := getF X1 hx hZ hown (host := "") (Or.inl (W_ hw 161 rfl)) Via.refl K1 (O_2.ext O0.2) (g := (mkF m 6 #[rv es, rv o1a] [(.ref es)])) rfl rfl (hb hby d_jdk_132_4_6)
  refine Goes.via (B := T2.setTop (mkF m 9 #[rv es, rv o1a] [(.int (0 : Int32))])) (fun t k => st2 _ k) ?_
  refine Gv T2 24 [] (fun t k => XS.ifYes X2.here hx rfl (pc0 := 9) (pc' := 24) rfl (hb hby d_jdk_132_4_9) rfl (XT.i0_le_t (by decide)) (by decide) (by decide) k) ?_
  refine Gv T2 25 [(.int (0 : Int32))] (fun t k => XS.iconst X2.here hx rfl (hb hby d_jdk_132_4_24) k) ?_
  exact finN (Q := (own_Q24 Z es o1a h0 n0)) (F := FrameEnd) (C := ((Rm 1 0 0 12)).cells) (S := ((Rm 1 0 0 12)).slots) X2 hx (t := .boolean) Bd.returns (by simp) (z' := (0 : Int32)) rfl (hb hby d_jdk_132_4_25) e2 ⟨rfl, N1, rfl⟩ (lvN X2 hlk (by decide) (by decide))
theorem own_1 {r : Int32} {P : Prop} [Decidable P] (h : r = if P then (0 : Int32) else 1) (n : ¬ r = (0 : Int32)) : (1 : Int32) = if P then (0 : Int32) else 1 := by
  by_cases z : P
  · rw [if_pos z] at h; exact absurd h n
  · rw [if_neg z]
theorem own_2 {r : Int32} {P Q : Prop} [Decidable P] [Decidable Q] (h : r = if P then (if Q then (0 : Int32) else 1) else 1) (n : ¬ r = (0 : Int32)) : (1 : Int32) = if P then (if Q then (0 : Int32) else 1) else 1 := by
  by_cases z : P
  · by_cases y : Q
    · rw [if_pos z, if_pos y] at h; exact absurd h n
    · rw [if_pos z, if_neg y]
  · rw [if_neg z]
theorem d_prog_1_3_0 : decode prog_1_method_3_code 0 = .ok (.aload_n 1, 1) := by decide +kernel
theorem d_prog_1_3_1 : decode prog_1_method_3_code 1 = .ok (.ifnull 20, 3) := by decide +kernel
theorem d_prog_1_3_21 : decode prog_1_method_3_code 21 = .ok (.iconst 0, 1) := by decide +kernel
theorem d_prog_1_3_22 : decode prog_1_method_3_code 22 = .ok (.ireturn, 1) := by decide +kernel
theorem own_ef25 (m : MethodId) (x0 : Addr)  : entryFrame m #[(.ref x0), .null] 2 = mkF m 0 #[rv x0, .val .null] [] := by first | (simp [entryFrame, mkF, argsToLocals, Value.category]; done) | rfl
abbrev own_Q25 (Z : State) (a0b : Addr) (h0 : Heap) (n0 : Nat) (v : Option Value) (h : Heap) (L : List Loc) : Prop := v = some (.int (0 : Int32)) ∧ Fr n0 L ∧ h = h0
set_option maxRecDepth 65536 in
set_option maxHeartbeats 40000000 in
theorem own_m25 (l : Launch) (Z : State) (a0 : Array Value) (hw : ∀ d ∈ tables_1, d.before a0 Z = true) (ws : List Jvm.Cond) (a0b : Addr) (h0 : Heap) (n0 : Nat) (O0 : Old Z n0 h0) :
    Ctr l Z (⟨"com/example/baskit/baskit/ClientSide", "allows", "(Ljava/lang/String;)Z"⟩ : MethodName) prog_1_method_3_code 2 (some .boolean) (Rm 0 0 0 0) #[(.ref a0b), .null] h0 (own_Q25 Z a0b h0 n0) ws := by
  refine MetFree.of_bodySF (plainFor_of_name own_pn10) hisR ?_
  intro p e s m args below meth c s₁ Bd hml0 hP hK
  obtain ⟨rfl, hZ, hh⟩ := hP
  have hx := Bd.exec
  have hby := Bd.bytes
  have hlk : meth.locks = false := Bd.notSynchronized
  have hml : c.maxLocals = 2 := hml0
  have hown : s.vm.findClass "com/example/baskit/baskit/ClientSide" = some m.cls := findClass_of_methodNamed Bd.named
  have hnm := (name_of_methodNamed Bd.named Bd.method).1
  have X0 : Stand p l e (Rm 0 0 0 0) s m #[(.ref a0b), .null] below meth c s₁ [] 0 0 := Stand.of_body Bd
  have e0 : s₁.heap = h0 := by rw [← hh, Bd.state]; rfl
  have N0 := Fr.nil n0
  show Goes p.tables e below (fun t o => ∃ v L, o = .returned v ∧ (own_Q25 Z a0b h0 n0) v t.heap L ∧ FrameEnd s o t L ((Rm 0 0 0 0)).cells ((Rm 0 0 0 0)).slots) _
  refine Goes.via (B := s₁.setTop (mkF m 0 #[rv a0b, .val .null] [])) (fun t k => castTop (own_ef25 m a0b) k) ?_
  refine Gv s₁ 1 [.null] (fun t k => XS.aloadN X0.here hx rfl (hb hby d_prog_1_3_0) rfl rfl k) ?_
  refine Gv s₁ 21 [] (fun t k => XS.ifnullYes X0.here hx rfl (pc0 := 1) (pc' := 21) rfl (hb hby d_prog_1_3_1) rfl (by decide) (by decide) k) ?_
  refine Gv s₁ 22 [(.int (0 : Int32))] (fun t k => XS.iconst X0.here hx rfl (hb hby d_prog_1_3_21) k) ?_
  exact finN (Q := (own_Q25 Z a0b h0 n0)) (F := FrameEnd) (C := ((Rm 0 0 0 0)).cells) (S := ((Rm 0 0 0 0)).slots) X0 hx (t := .boolean) Bd.returns (by simp) (z' := (0 : Int32)) rfl (hb hby d_prog_1_3_22) e0 ⟨rfl, N0, rfl⟩ (lvN X0 hlk (by decide) (by decide))
theorem d_prog_1_3_4 : decode prog_1_method_3_code 4 = .ok (.aload_n 0, 1) := by decide +kernel
theorem d_prog_1_3_5 : decode prog_1_method_3_code 5 = .ok (.getfield 19, 3) := by decide +kernel
theorem d_prog_1_3_8 : decode prog_1_method_3_code 8 = .ok (.aload_n 1, 1) := by decide +kernel
theorem d_prog_1_3_9 : decode prog_1_method_3_code 9 = .ok (.invokeinterface 27 2, 5) := by decide +kernel
theorem d_prog_1_3_14 : decode prog_1_method_3_code 14 = .ok (.ifCond .eq 7, 3) := by decide +kernel
theorem d_prog_1_3_17 : decode prog_1_method_3_code 17 = .ok (.iconst 1, 1) := by decide +kernel
theorem d_prog_1_3_18 : decode prog_1_method_3_code 18 = .ok (.goto 4, 3) := by decide +kernel
theorem own_ef26 (m : MethodId) (x0 : Addr) (x1 : Addr)  : entryFrame m #[(.ref x0), (.ref x1)] 2 = mkF m 0 #[rv x0, rv x1] [] := by first | (simp [entryFrame, mkF, argsToLocals, Value.category]; done) | rfl
abbrev own_Q26 (Z : State) (a0b : Addr) (a1 : Addr) (em : Addr) (a2 : Addr) (t2a : Addr) (k2a : ClassId) (ca : List Int32) (z0 : Int32) (o1a : Addr) (o1t : Addr) (o1k : ClassId) (co : List Int32) (h0 : Heap) (n0 : Nat) (v : Option Value) (h : Heap) (L : List Loc) : Prop := ∃ r : Int32, v = some (.int r) ∧ Fr n0 L ∧ h = h0 ∧ r = if own_eq co ca = (0 : Int32) then (0 : Int32) else 1
set_option maxRecDepth 65536 in
set_option maxHeartbeats 40000000 in
theorem own_m26 (l : Launch) (Z : State) (a0 : Array Value) (hw : ∀ d ∈ tables_1, d.before a0 Z = true) (ws : List Jvm.Cond) (a0b : Addr) (a1 : Addr) (em : Addr) (a2 : Addr) (t2a : Addr) (k2a : ClassId) (ca : List Int32) (z0 : Int32) (o1a : Addr) (o1t : Addr) (o1k : ClassId) (co : List Int32) (h0 : Heap) (n0 : Nat) (O0 : Old Z n0 h0) (hz0 : ¬ z0 = (0 : Int32)) (hca : ∀ c ∈ ca, ¬ c < 0 ∧ ¬ (255 : Int32) < c) (lca : ca.length ≤ 4000) (hco : ∀ c ∈ co, ¬ c < 0 ∧ ¬ (255 : Int32) < c) (lco : co.length ≤ 4000) (hno : ¬ em = o1a) (O_1 : Sta Z Z.heap "java/lang/String" "COMPACT_STRINGS" "Z" (.int z0)) (O_2 : Exa Z Z.heap em "java/lang/Object") (F_1 : Exa Z h0 a0b "com/example/baskit/baskit/ClientSide") (F_2 : Fld Z h0 a0b "com/example/baskit/baskit/ClientSide" "origins" "Ljava/util/Set;" (.ref a1)) (F_3 : Exa Z h0 a1 "java/util/ImmutableCollections$Set12") (F_4 : Fld Z h0 a1 "java/util/ImmutableCollections$Set12" "e0" "Ljava/lang/Object;" (.ref a2)) (F_5 : Fld Z h0 a1 "java/util/ImmutableCollections$Set12" "e1" "Ljava/lang/Object;" (.ref em)) (F_6 : Exa Z h0 a2 "java/lang/String") (F_7 : Fld Z h0 a2 "java/lang/String" "value" "[B" (.ref t2a)) (F_8 : Fld Z h0 a2 "java/lang/String" "coder" "B" (.int (0 : Int32))) (F_9 : Arv Z h0 t2a k2a .byte (Int32.ofNat ca.length) ((ca.map StrChars.lo8).map Value.int) (.int 0)) (F_10 : Exa Z h0 o1a "java/lang/String") (F_11 : Fld Z h0 o1a "java/lang/String" "value" "[B" (.ref o1t)) (F_12 : Fld Z h0 o1a "java/lang/String" "coder" "B" (.int (0 : Int32))) (F_13 : Arv Z h0 o1t o1k .byte (Int32.ofNat co.length) ((co.map StrChars.lo8).map Value.int) (.int 0)) :
    Ctr l Z (⟨"com/example/baskit/baskit/ClientSide", "allows", "(Ljava/lang/String;)Z"⟩ : MethodName) prog_1_method_3_code 2 (some .boolean) (Rm 3 0 0 41) #[(.ref a0b), (.ref o1a)] h0 (own_Q26 Z a0b a1 em a2 t2a k2a ca z0 o1a o1t o1k co h0 n0) ws := by
  refine MetFree.of_bodySF (plainFor_of_name own_pn10) hisR ?_
  intro p e s m args below meth c s₁ Bd hml0 hP hK
  obtain ⟨rfl, hZ, hh⟩ := hP
  have hx := Bd.exec
  have hby := Bd.bytes
  have hlk : meth.locks = false := Bd.notSynchronized
  have hml : c.maxLocals = 2 := hml0
  have hown : s.vm.findClass "com/example/baskit/baskit/ClientSide" = some m.cls := findClass_of_methodNamed Bd.named
  have hnm := (name_of_methodNamed Bd.named Bd.method).1
  have X0 : Stand p l e (Rm 3 0 0 41) s m #[(.ref a0b), (.ref o1a)] below meth c s₁ [] 0 0 := Stand.of_body Bd
  have e0 : s₁.heap = h0 := by rw [← hh, Bd.state]; rfl
  have N0 := Fr.nil n0
  show Goes p.tables e below (fun t o => ∃ v L, o = .returned v ∧ (own_Q26 Z a0b a1 em a2 t2a k2a ca z0 o1a o1t o1k co h0 n0) v t.heap L ∧ FrameEnd s o t L ((Rm 3 0 0 41)).cells ((Rm 3 0 0 41)).slots) _
  refine Goes.via (B := s₁.setTop (mkF m 0 #[rv a0b, rv o1a] [])) (fun t k => castTop (own_ef26 m a0b o1a) k) ?_
  refine Gv s₁ 1 [(.ref o1a)] (fun t k => XS.aloadN X0.here hx rfl (hb hby d_prog_1_3_0) rfl rfl k) ?_
  refine Gv s₁ 4 [] (fun t k => XS.ifnullNo X0.here hx rfl (hb hby d_prog_1_3_1) rfl k) ?_
  refine Gv s₁ 5 [(.ref a0b)] (fun t k => XS.aloadN X0.here hx rfl (hb hby d_prog_1_3_4) rfl rfl k) ?_
  obtain ⟨T1, X1, e1, st1⟩ := getF X0 hx hZ hown (host := "") (Or.inl (W_ hw 94 rfl)) Via.refl e0 F_2 (g := (mkF m 5 #[rv a0b, rv o1a] [(.ref a0b)])) rfl rfl (hb hby d_prog_1_3_5)
  refine Goes.via (B := T1.setTop (mkF m 8 #[rv a0b, rv o1a] [(.ref a1)])) (fun t k => st1 _ k) ?_
  refine Gv T1 9 [(.ref o1a), (.ref a1)] (fun t k => XS.aloadN X1.here hx rfl (hb hby d_prog_1_3_8) rfl rfl k) ?_
  obtain ⟨_, T2, L2, X2, ⟨r2, rfl, M2, K2, p2_0⟩, st2⟩ := callFace X1 hx hZ hown (W_ hw 114 rfl) (W_ hw 115 rfl) (mvT hZ (W_ hw 116 rfl)) (W_ hw 117 rfl) (W_ hw 118 rfl) (W_ hw 119 rfl) (W_ hw 120 rfl) (W_ hw 93 rfl) (W_ hw 32 rfl) (W_ hw 121 rfl) (by decide) (argsL := [(.ref o1a)]) (rest := []) (own_m22 l Z a0 hw [] a1 em a2 t2a k2a ca z0 o1a o1t o1k co h0 n0 O0 hz0 hca lca hco lco hno O_1 O_2 F_3 F_4 F_5 F_6 F_7 F_8 F_9 F_10 F_11 F_12 F_13) e1 F_3 (lenOf own_pd9 rfl) (pc := 9) (Ls := #[rv a0b, rv o1a]) (st := [(.ref o1a), (.ref a1)]) rfl (by rw [hml]; rfl) (hb hby d_prog_1_3_9) (W := 0) (Nat.le_of_eq rfl) (by decide) (by decide) (by decide) (by decide)
  have N2 := Fr.app N0 M2
  refine Goes.via (B := T2.setTop (mkF m 14 #[rv a0b, rv o1a] [(.int r2)])) (fun t k => st2 _ k) ?_
  by_cases b3 : r2 = (0 : Int32)
  · refine Gv T2 21 [] (fun t k => XS.ifYes X2.here hx rfl (pc0 := 14) (pc' := 21) rfl (hb hby d_prog_1_3_14) rfl (XT.i0_eq_t b3) (by decide) (by decide) k) ?_
    refine Gv T2 22 [(.int (0 : Int32))] (fun t k => XS.iconst X2.here hx rfl (hb hby d_prog_1_3_21) k) ?_
    exact finN (Q := (own_Q26 Z a0b a1 em a2 t2a k2a ca z0 o1a o1t o1k co h0 n0)) (F := FrameEnd) (C := ((Rm 3 0 0 41)).cells) (S := ((Rm 3 0 0 41)).slots) X2 hx (t := .boolean) Bd.returns (by simp) (z' := (0 : Int32)) rfl (hb hby d_prog_1_3_22) K2 ⟨(0 : Int32), rfl, N2, rfl, (by rw [← p2_0]; exact b3.symm)⟩ (lvN X2 hlk (by decide) (by decide))
  · refine Gv T2 17 [] (fun t k => XS.ifNo X2.here hx rfl (hb hby d_prog_1_3_14) rfl (XT.i0_eq_f b3) k) ?_
    refine Gv T2 18 [(.int (1 : Int32))] (fun t k => XS.iconst X2.here hx rfl (hb hby d_prog_1_3_17) k) ?_
    refine Gv T2 22 [(.int (1 : Int32))] (fun t k => XS.goto X2.here hx rfl (pc0 := 18) (pc' := 22) rfl (hb hby d_prog_1_3_18) (by decide) (by decide) k) ?_
    exact finN (Q := (own_Q26 Z a0b a1 em a2 t2a k2a ca z0 o1a o1t o1k co h0 n0)) (F := FrameEnd) (C := ((Rm 3 0 0 41)).cells) (S := ((Rm 3 0 0 41)).slots) X2 hx (t := .boolean) Bd.returns (by simp) (z' := (1 : Int32)) rfl (hb hby d_prog_1_3_22) K2 ⟨(1 : Int32), rfl, N2, rfl, (own_1 p2_0 b3)⟩ (lvN X2 hlk (by decide) (by decide))
theorem own_ef27 (m : MethodId) (x0 : Addr) (x1 : Addr)  : entryFrame m #[(.ref x0), (.ref x1)] 2 = mkF m 0 #[rv x0, rv x1] [] := by first | (simp [entryFrame, mkF, argsToLocals, Value.category]; done) | rfl
abbrev own_Q27 (Z : State) (a0b : Addr) (a1 : Addr) (a2 : Addr) (a3 : Addr) (t2a : Addr) (k2a : ClassId) (t3a : Addr) (k3a : ClassId) (ca : List Int32) (cb : List Int32) (z0 : Int32) (o1a : Addr) (o1t : Addr) (o1k : ClassId) (co : List Int32) (h0 : Heap) (n0 : Nat) (v : Option Value) (h : Heap) (L : List Loc) : Prop := ∃ r : Int32, v = some (.int r) ∧ Fr n0 L ∧ h = h0 ∧ r = if own_eq co ca = (0 : Int32) then (if own_eq cb co = (0 : Int32) then (0 : Int32) else 1) else 1
set_option maxRecDepth 65536 in
set_option maxHeartbeats 40000000 in
theorem own_m27 (l : Launch) (Z : State) (a0 : Array Value) (hw : ∀ d ∈ tables_1, d.before a0 Z = true) (ws : List Jvm.Cond) (a0b : Addr) (a1 : Addr) (a2 : Addr) (a3 : Addr) (t2a : Addr) (k2a : ClassId) (t3a : Addr) (k3a : ClassId) (ca : List Int32) (cb : List Int32) (z0 : Int32) (o1a : Addr) (o1t : Addr) (o1k : ClassId) (co : List Int32) (h0 : Heap) (n0 : Nat) (O0 : Old Z n0 h0) (hz0 : ¬ z0 = (0 : Int32)) (hca : ∀ c ∈ ca, ¬ c < 0 ∧ ¬ (255 : Int32) < c) (lca : ca.length ≤ 4000) (hcb : ∀ c ∈ cb, ¬ c < 0 ∧ ¬ (255 : Int32) < c) (lcb : cb.length ≤ 4000) (hco : ∀ c ∈ co, ¬ c < 0 ∧ ¬ (255 : Int32) < c) (lco : co.length ≤ 4000) (O_1 : Sta Z Z.heap "java/lang/String" "COMPACT_STRINGS" "Z" (.int z0)) (F_1 : Exa Z h0 a0b "com/example/baskit/baskit/ClientSide") (F_2 : Fld Z h0 a0b "com/example/baskit/baskit/ClientSide" "origins" "Ljava/util/Set;" (.ref a1)) (F_3 : Exa Z h0 a1 "java/util/ImmutableCollections$Set12") (F_4 : Fld Z h0 a1 "java/util/ImmutableCollections$Set12" "e0" "Ljava/lang/Object;" (.ref a2)) (F_5 : Fld Z h0 a1 "java/util/ImmutableCollections$Set12" "e1" "Ljava/lang/Object;" (.ref a3)) (F_6 : Exa Z h0 a2 "java/lang/String") (F_7 : Fld Z h0 a2 "java/lang/String" "value" "[B" (.ref t2a)) (F_8 : Fld Z h0 a2 "java/lang/String" "coder" "B" (.int (0 : Int32))) (F_9 : Arv Z h0 t2a k2a .byte (Int32.ofNat ca.length) ((ca.map StrChars.lo8).map Value.int) (.int 0)) (F_10 : Exa Z h0 a3 "java/lang/String") (F_11 : Fld Z h0 a3 "java/lang/String" "value" "[B" (.ref t3a)) (F_12 : Fld Z h0 a3 "java/lang/String" "coder" "B" (.int (0 : Int32))) (F_13 : Arv Z h0 t3a k3a .byte (Int32.ofNat cb.length) ((cb.map StrChars.lo8).map Value.int) (.int 0)) (F_14 : Exa Z h0 o1a "java/lang/String") (F_15 : Fld Z h0 o1a "java/lang/String" "value" "[B" (.ref o1t)) (F_16 : Fld Z h0 o1a "java/lang/String" "coder" "B" (.int (0 : Int32))) (F_17 : Arv Z h0 o1t o1k .byte (Int32.ofNat co.length) ((co.map StrChars.lo8).map Value.int) (.int 0)) :
    Ctr l Z (⟨"com/example/baskit/baskit/ClientSide", "allows", "(Ljava/lang/String;)Z"⟩ : MethodName) prog_1_method_3_code 2 (some .boolean) (Rm 3 0 0 41) #[(.ref a0b), (.ref o1a)] h0 (own_Q27 Z a0b a1 a2 a3 t2a k2a t3a k3a ca cb z0 o1a o1t o1k co h0 n0) ws := by
  refine MetFree.of_bodySF (plainFor_of_name own_pn10) hisR ?_
  intro p e s m args below meth c s₁ Bd hml0 hP hK
  obtain ⟨rfl, hZ, hh⟩ := hP
  have hx := Bd.exec
  have hby := Bd.bytes
  have hlk : meth.locks = false := Bd.notSynchronized
  have hml : c.maxLocals = 2 := hml0
  have hown : s.vm.findClass "com/example/baskit/baskit/ClientSide" = some m.cls := findClass_of_methodNamed Bd.named
  have hnm := (name_of_methodNamed Bd.named Bd.method).1
  have X0 : Stand p l e (Rm 3 0 0 41) s m #[(.ref a0b), (.ref o1a)] below meth c s₁ [] 0 0 := Stand.of_body Bd
  have e0 : s₁.heap = h0 := by rw [← hh, Bd.state]; rfl
  have N0 := Fr.nil n0
  show Goes p.tables e below (fun t o => ∃ v L, o = .returned v ∧ (own_Q27 Z a0b a1 a2 a3 t2a k2a t3a k3a ca cb z0 o1a o1t o1k co h0 n0) v t.heap L ∧ FrameEnd s o t L ((Rm 3 0 0 41)).cells ((Rm 3 0 0 41)).slots) _
  refine Goes.via (B := s₁.setTop (mkF m 0 #[rv a0b, rv o1a] [])) (fun t k => castTop (own_ef27 m a0b o1a) k) ?_
  refine Gv s₁ 1 [(.ref o1a)] (fun t k => XS.aloadN X0.here hx rfl (hb hby d_prog_1_3_0) rfl rfl k) ?_
  refine Gv s₁ 4 [] (fun t k => XS.ifnullNo X0.here hx rfl (hb hby d_prog_1_3_1) rfl k) ?_
  refine Gv s₁ 5 [(.ref a0b)] (fun t k => XS.aloadN X0.here hx rfl (hb hby d_prog_1_3_4) rfl rfl k) ?_
  obtain ⟨T1, X1, e1, st1⟩ := getF X0 hx hZ hown (host := "") (Or.inl (W_ hw 94 rfl)) Via.refl e0 F_2 (g := (mkF m 5 #[rv a0b, rv o1a] [(.ref a0b)])) rfl rfl (hb hby d_prog_1_3_5)
  refine Goes.via (B := T1.setTop (mkF m 8 #[rv a0b, rv o1a] [(.ref a1)])) (fun t k => st1 _ k) ?_
  refine Gv T1 9 [(.ref o1a), (.ref a1)] (fun t k => XS.aloadN X1.here hx rfl (hb hby d_prog_1_3_8) rfl rfl k) ?_
  obtain ⟨_, T2, L2, X2, ⟨r2, rfl, M2, K2, p2_0⟩, st2⟩ := callFace X1 hx hZ hown (W_ hw 114 rfl) (W_ hw 115 rfl) (mvT hZ (W_ hw 116 rfl)) (W_ hw 117 rfl) (W_ hw 118 rfl) (W_ hw 119 rfl) (W_ hw 120 rfl) (W_ hw 93 rfl) (W_ hw 32 rfl) (W_ hw 121 rfl) (by decide) (argsL := [(.ref o1a)]) (rest := []) (own_m23 l Z a0 hw [] a1 a2 a3 t2a k2a t3a k3a ca cb z0 o1a o1t o1k co h0 n0 O0 hz0 hca lca hcb lcb hco lco O_1 F_3 F_4 F_5 F_6 F_7 F_8 F_9 F_10 F_11 F_12 F_13 F_14 F_15 F_16 F_17) e1 F_3 (lenOf own_pd9 rfl) (pc := 9) (Ls := #[rv a0b, rv o1a]) (st := [(.ref o1a), (.ref a1)]) rfl (by rw [hml]; rfl) (hb hby d_prog_1_3_9) (W := 0) (Nat.le_of_eq rfl) (by decide) (by decide) (by decide) (by decide)
  have N2 := Fr.app N0 M2
  refine Goes.via (B := T2.setTop (mkF m 14 #[rv a0b, rv o1a] [(.int r2)])) (fun t k => st2 _ k) ?_
  by_cases b3 : r2 = (0 : Int32)
  · refine Gv T2 21 [] (fun t k => XS.ifYes X2.here hx rfl (pc0 := 14) (pc' := 21) rfl (hb hby d_prog_1_3_14) rfl (XT.i0_eq_t b3) (by decide) (by decide) k) ?_
    refine Gv T2 22 [(.int (0 : Int32))] (fun t k => XS.iconst X2.here hx rfl (hb hby d_prog_1_3_21) k) ?_
    exact finN (Q := (own_Q27 Z a0b a1 a2 a3 t2a k2a t3a k3a ca cb z0 o1a o1t o1k co h0 n0)) (F := FrameEnd) (C := ((Rm 3 0 0 41)).cells) (S := ((Rm 3 0 0 41)).slots) X2 hx (t := .boolean) Bd.returns (by simp) (z' := (0 : Int32)) rfl (hb hby d_prog_1_3_22) K2 ⟨(0 : Int32), rfl, N2, rfl, (by rw [← p2_0]; exact b3.symm)⟩ (lvN X2 hlk (by decide) (by decide))
  · refine Gv T2 17 [] (fun t k => XS.ifNo X2.here hx rfl (hb hby d_prog_1_3_14) rfl (XT.i0_eq_f b3) k) ?_
    refine Gv T2 18 [(.int (1 : Int32))] (fun t k => XS.iconst X2.here hx rfl (hb hby d_prog_1_3_17) k) ?_
    refine Gv T2 22 [(.int (1 : Int32))] (fun t k => XS.goto X2.here hx rfl (pc0 := 18) (pc' := 22) rfl (hb hby d_prog_1_3_18) (by decide) (by decide) k) ?_
    exact finN (Q := (own_Q27 Z a0b a1 a2 a3 t2a k2a t3a k3a ca cb z0 o1a o1t o1k co h0 n0)) (F := FrameEnd) (C := ((Rm 3 0 0 41)).cells) (S := ((Rm 3 0 0 41)).slots) X2 hx (t := .boolean) Bd.returns (by simp) (z' := (1 : Int32)) rfl (hb hby d_prog_1_3_22) K2 ⟨(1 : Int32), rfl, N2, rfl, (own_2 p2_0 b3)⟩ (lvN X2 hlk (by decide) (by decide))
theorem own_ef28 (m : MethodId) (x0 : Addr) (x1 : Addr)  : entryFrame m #[(.ref x0), (.ref x1)] 2 = mkF m 0 #[rv x0, rv x1] [] := by first | (simp [entryFrame, mkF, argsToLocals, Value.category]; done) | rfl
abbrev own_Q28 (Z : State) (a0b : Addr) (es : Addr) (o1a : Addr) (h0 : Heap) (n0 : Nat) (v : Option Value) (h : Heap) (L : List Loc) : Prop := v = some (.int (0 : Int32)) ∧ Fr n0 L ∧ h = h0
set_option maxRecDepth 65536 in
set_option maxHeartbeats 40000000 in
theorem own_m28 (l : Launch) (Z : State) (a0 : Array Value) (hw : ∀ d ∈ tables_1, d.before a0 Z = true) (ws : List Jvm.Cond) (a0b : Addr) (es : Addr) (o1a : Addr) (h0 : Heap) (n0 : Nat) (O0 : Old Z n0 h0) (O_1 : Exa Z Z.heap es "java/util/ImmutableCollections$SetN") (O_2 : Fld Z Z.heap es "java/util/ImmutableCollections$SetN" "size" "I" (.int (0 : Int32))) (F_1 : Exa Z h0 a0b "com/example/baskit/baskit/ClientSide") (F_2 : Fld Z h0 a0b "com/example/baskit/baskit/ClientSide" "origins" "Ljava/util/Set;" (.ref es)) :
    Ctr l Z (⟨"com/example/baskit/baskit/ClientSide", "allows", "(Ljava/lang/String;)Z"⟩ : MethodName) prog_1_method_3_code 2 (some .boolean) (Rm 2 0 0 25) #[(.ref a0b), (.ref o1a)] h0 (own_Q28 Z a0b es o1a h0 n0) ws := by
  refine MetFree.of_bodySF (plainFor_of_name own_pn10) hisR ?_
  intro p e s m args below meth c s₁ Bd hml0 hP hK
  obtain ⟨rfl, hZ, hh⟩ := hP
  have hx := Bd.exec
  have hby := Bd.bytes
  have hlk : meth.locks = false := Bd.notSynchronized
  have hml : c.maxLocals = 2 := hml0
  have hown : s.vm.findClass "com/example/baskit/baskit/ClientSide" = some m.cls := findClass_of_methodNamed Bd.named
  have hnm := (name_of_methodNamed Bd.named Bd.method).1
  have X0 : Stand p l e (Rm 2 0 0 25) s m #[(.ref a0b), (.ref o1a)] below meth c s₁ [] 0 0 := Stand.of_body Bd
  have e0 : s₁.heap = h0 := by rw [← hh, Bd.state]; rfl
  have N0 := Fr.nil n0
  show Goes p.tables e below (fun t o => ∃ v L, o = .returned v ∧ (own_Q28 Z a0b es o1a h0 n0) v t.heap L ∧ FrameEnd s o t L ((Rm 2 0 0 25)).cells ((Rm 2 0 0 25)).slots) _
  refine Goes.via (B := s₁.setTop (mkF m 0 #[rv a0b, rv o1a] [])) (fun t k => castTop (own_ef28 m a0b o1a) k) ?_
  refine Gv s₁ 1 [(.ref o1a)] (fun t k => XS.aloadN X0.here hx rfl (hb hby d_prog_1_3_0) rfl rfl k) ?_
  refine Gv s₁ 4 [] (fun t k => XS.ifnullNo X0.here hx rfl (hb hby d_prog_1_3_1) rfl k) ?_
  refine Gv s₁ 5 [(.ref a0b)] (fun t k => XS.aloadN X0.here hx rfl (hb hby d_prog_1_3_4) rfl rfl k) ?_
  obtain ⟨T1, X1, e1, st1⟩ := getF X0 hx hZ hown (host := "") (Or.inl (W_ hw 94 rfl)) Via.refl e0 F_2 (g := (mkF m 5 #[rv a0b, rv o1a] [(.ref a0b)])) rfl rfl (hb hby d_prog_1_3_5)
  refine Goes.via (B := T1.setTop (mkF m 8 #[rv a0b, rv o1a] [(.ref es)])) (fun t k => st1 _ k) ?_
  refine Gv T1 9 [(.ref o1a), (.ref es)] (fun t k => XS.aloadN X1.here hx rfl (hb hby d_prog_1_3_8) rfl rfl k) ?_
  obtain ⟨_, T2, L2, X2, ⟨rfl, M2, K2⟩, st2⟩ := callFace X1 hx hZ hown (W_ hw 114 rfl) (W_ hw 115 rfl) (mvT hZ (W_ hw 116 rfl)) (W_ hw 154 rfl) (W_ hw 155 rfl) (W_ hw 156 rfl) (W_ hw 157 rfl) (W_ hw 153 rfl) (W_ hw 158 rfl) (W_ hw 159 rfl) (by decide) (argsL := [(.ref o1a)]) (rest := []) (own_m24 l Z a0 hw [] es o1a h0 n0 O0 O_1 O_2) e1 (O_1.ext O0.2) (lenOf own_pd9 rfl) (pc := 9) (Ls := #[rv a0b, rv o1a]) (st := [(.ref o1a), (.ref es)]) rfl (by rw [hml]; rfl) (hb hby d_prog_1_3_9) (W := 0) (Nat.le_of_eq rfl) (by decide) (by decide) (by decide) (by decide)
  have N2 := Fr.app N0 M2
  refine Goes.via (B := T2.setTop (mkF m 14 #[rv a0b, rv o1a] [(.int (0 : Int32))])) (fun t k => st2 _ k) ?_
  refine Gv T2 21 [] (fun t k => XS.ifYes X2.here hx rfl (pc0 := 14) (pc' := 21) rfl (hb hby d_prog_1_3_14) rfl (XT.i0_eq_t rfl) (by decide) (by decide) k) ?_
  refine Gv T2 22 [(.int (0 : Int32))] (fun t k => XS.iconst X2.here hx rfl (hb hby d_prog_1_3_21) k) ?_
  exact finN (Q := (own_Q28 Z a0b es o1a h0 n0)) (F := FrameEnd) (C := ((Rm 2 0 0 25)).cells) (S := ((Rm 2 0 0 25)).slots) X2 hx (t := .boolean) Bd.returns (by simp) (z' := (0 : Int32)) rfl (hb hby d_prog_1_3_22) K2 ⟨rfl, N2, rfl⟩ (lvN X2 hlk (by decide) (by decide))
theorem own_pd12 : parseMethodDescriptor "(I)Ljava/lang/String;" = some ⟨[.int], some (.object "java/lang/String")⟩ := by decide +kernel
theorem own_pd13 : parseMethodDescriptor "()Ljava/util/Set;" = some ⟨[], some (.object "java/util/Set")⟩ := by decide +kernel
theorem own_pd14 : parseMethodDescriptor "(Ljava/lang/String;Ljava/lang/String;)V" = some ⟨[(.object "java/lang/String"), (.object "java/lang/String")], none⟩ := by decide +kernel
theorem own_pd15 : parseMethodDescriptor "(Lcom/example/baskit/baskit/Keys;Ljava/util/Set;Z)V" = some ⟨[(.object "com/example/baskit/baskit/Keys"), (.object "java/util/Set"), .boolean], none⟩ := by decide +kernel
theorem own_pd16 : parseMethodDescriptor "(Ljava/lang/String;)Z" = some ⟨[(.object "java/lang/String")], some .boolean⟩ := by decide +kernel
theorem own_pd17 : parseMethodDescriptor "(Ljava/lang/Object;)Ljava/util/Set;" = some ⟨[(.object "java/lang/Object")], some (.object "java/util/Set")⟩ := by decide +kernel
theorem own_pd18 : parseMethodDescriptor "(Ljava/lang/Object;Ljava/lang/Object;)Ljava/util/Set;" = some ⟨[(.object "java/lang/Object"), (.object "java/lang/Object")], some (.object "java/util/Set")⟩ := by decide +kernel
theorem own_ef29 (m : MethodId) (x0 : Int32) (x1 : Int32) (x2 : Int32) (x3 : Int32)  : entryFrame m #[(.int x0), (.int x1), (.int x2), (.int x3)] maxLocals = mkF m 0 #[iv x0, iv x1, iv x2, iv x3, u_, u_, u_, u_, u_, u_, u_, u_, u_] [] := by first | (simp [entryFrame, mkF, argsToLocals, Value.category, maxLocals]; done) | rfl
abbrev own_Q29 (Z : State) (x1 : Int32) (x2 : Int32) (x3 : Int32) (x4 : Int32) (z0 : Int32) (em : Addr) (es : Addr) (h0 : Heap) (n0 : Nat) (v : Option Value) (h : Heap) (L : List Loc) : Prop := v = some (.int (1 : Int32)) ∧ Fr n0 L ∧ True
set_option maxRecDepth 65536 in
set_option maxHeartbeats 40000000 in
theorem own_m29 (l : Launch) (Z : State) (a0 : Array Value) (hw : ∀ d ∈ tables_1, d.before a0 Z = true) (ws : List Jvm.Cond) (x1 : Int32) (x2 : Int32) (x3 : Int32) (x4 : Int32) (z0 : Int32) (em : Addr) (es : Addr) (h0 : Heap) (n0 : Nat) (O0 : Old Z n0 h0) (hz0 : ¬ z0 = (0 : Int32)) (hem : em < n0) (O_1 : Sta Z Z.heap "java/lang/String" "COMPACT_STRINGS" "Z" (.int z0)) (O_2 : Sta Z Z.heap "java/util/ImmutableCollections" "EMPTY" "Ljava/lang/Object;" (.ref em)) (O_3 : Exa Z Z.heap em "java/lang/Object") (O_4 : Sta Z Z.heap "java/util/ImmutableCollections" "EMPTY_SET" "Ljava/util/ImmutableCollections$SetN;" (.ref es)) (O_5 : Exa Z Z.heap es "java/util/ImmutableCollections$SetN") (O_6 : Fld Z Z.heap es "java/util/ImmutableCollections$SetN" "size" "I" (.int (0 : Int32))) :
    CtrH l Z consts_1 [] x code maxLocals ret room_1 #[(.int x1), (.int x2), (.int x3), (.int x4)] h0 (own_Q29 Z x1 x2 x3 x4 z0 em es h0 n0) ws := by
  refine MetFree.of_bodySF (plainFor_of_name own_pn2) hisR ?_
  intro p e s m args below meth c s₁ Bd hml0 hP hK
  obtain ⟨rfl, hZ, hh, hC, hsf⟩ := hP
  have hx := Bd.exec
  have hby := Bd.bytes
  have hlk : meth.locks = false := Bd.notSynchronized
  have hml : c.maxLocals = 13 := hml0
  have hown : s.vm.findClass "com/example/baskit/baskit/ClientSideAllowsPinLaw" = some m.cls := findClass_of_methodNamed Bd.named
  have hnm := (name_of_methodNamed Bd.named Bd.method).1
  have X0 : Stand p l e room_1 (s.setVm s.vm) m #[(.int x1), (.int x2), (.int x3), (.int x4)] below meth c s₁ [] 0 0 := Stand.of_body Bd
  have hS0 : s.Since s.vm h0.size := (State.WarmedH.refl s).since _
  have hk0 : h0.size ≤ h0.size := Nat.le_refl _
  have hR0 : CHr Z consts_1 s.vm s.heap s.vm h0 := by rw [hh]; exact CHr.refl hC
  have hEL := own_EW hw
  have e0 : s₁.heap = h0 := by rw [← hh, Bd.state]; rfl
  have N0 := Fr.nil n0
  show Goes p.tables e below (fun t o => ∃ v L, o = .returned v ∧ (own_Q29 Z x1 x2 x3 x4 z0 em es h0 n0) v t.heap L ∧ EndH Z consts_1 s o t L (room_1).cells (room_1).slots) _
  refine Goes.via (B := s₁.setTop (mkF m 0 #[iv x1, iv x2, iv x3, iv x4, u_, u_, u_, u_, u_, u_, u_, u_, u_] [])) (fun t k => castTop (own_ef29 m x1 x2 x3 x4) k) ?_
  refine Gv s₁ 1 [(.int x1)] (fun t k => XS.iloadN X0.here hx rfl (hb hby at_0) rfl k) ?_
  obtain ⟨_, T1, L1, X1, hS1, hZ1, hown1, hC1, ⟨bs1, ts1, ks1, rfl, M1, K1, z1_0, f1_0, f1_1, f1_2, f1_3⟩, st1⟩ := callStaticH X0 hx hZ hS0 hk0 hEL hR0.1 (sf := []) all0 hown (W_ hw 0 rfl) (W_ hw 1 rfl) (W_ hw 2 rfl) (W_ hw 3 rfl) (by decide) (argsL := [(.int x1)]) (rest := []) (own_m7 l Z a0 hw [] x1 z0 h0 n0 O0 hz0 O_1) e0 (lenOf own_pd12 rfl) (pc := 1) (Ls := #[iv x1, iv x2, iv x3, iv x4, u_, u_, u_, u_, u_, u_, u_, u_, u_]) (st := [(.int x1)]) rfl (by rw [hml]; rfl) (hb hby at_1) (W := 0) (Nat.le_of_eq rfl) (by decide) (by decide) (by decide) (by decide)
  have N1 := Fr.app N0 M1
  have gn1_0 : n0 ≤ bs1 := Nat.le_trans (old_le O0) z1_0
  have hq2 := hC1
  have hR2 := CHr.trans hR0 hq2
  refine Goes.via (B := T1.setTop (mkF m 4 #[iv x1, iv x2, iv x3, iv x4, u_, u_, u_, u_, u_, u_, u_, u_, u_] [(.ref bs1)])) (fun t k => st1 _ k) ?_
  refine Gv T1 6 [] (fun t k => XS.astore X1.here hx rfl (hb hby at_4) rfl rfl (l' := #[iv x1, iv x2, iv x3, iv x4, rv bs1, u_, u_, u_, u_, u_, u_, u_, u_]) rfl k) ?_
  refine Gv T1 7 [(.int x2)] (fun t k => XS.iloadN X1.here hx rfl (hb hby at_6) rfl k) ?_
  obtain ⟨_, T3, L3, X3, hS3, hZ3, hown3, hC3, ⟨bs3, ts3, ks3, rfl, M3, K3, z3_0, f3_0, f3_1, f3_2, f3_3⟩, st3⟩ := callStaticH X1 hx hZ1 hS1 (Nat.le_refl _) hEL hR2.1 (sf := []) all0 hown1 (W_ hw 0 rfl) (W_ hw 1 rfl) (W_ hw 2 rfl) (W_ hw 3 rfl) (by decide) (argsL := [(.int x2)]) (rest := []) (own_m7 l Z a0 hw [] x2 z0 T1.heap n0 (O0.keep K1 all0) hz0 O_1) rfl (lenOf own_pd12 rfl) (pc := 7) (Ls := #[iv x1, iv x2, iv x3, iv x4, rv bs1, u_, u_, u_, u_, u_, u_, u_, u_]) (st := [(.int x2)]) rfl (by rw [hml]; rfl) (hb hby at_7) (W := 0) (Nat.le_of_eq rfl) (by decide) (by decide) (by decide) (by decide)
  have N3 := Fr.app N1 M3
  have gn3_0 : n0 ≤ bs3 := Nat.le_trans (old_le (O0.keep K1 all0)) z3_0
  have hq4 := hC3
  have hR4 := CHr.trans hR2 hq4
  refine Goes.via (B := T3.setTop (mkF m 10 #[iv x1, iv x2, iv x3, iv x4, rv bs1, u_, u_, u_, u_, u_, u_, u_, u_] [(.ref bs3)])) (fun t k => st3 _ k) ?_
  refine Gv T3 12 [] (fun t k => XS.astore X3.here hx rfl (hb hby at_10) rfl rfl (l' := #[iv x1, iv x2, iv x3, iv x4, rv bs1, rv bs3, u_, u_, u_, u_, u_, u_, u_]) rfl k) ?_
  refine Gv T3 13 [(.int x4)] (fun t k => XS.iloadN X3.here hx rfl (hb hby at_12) rfl k) ?_
  refine Gv T3 14 [(.int (3 : Int32)), (.int x4)] (fun t k => XS.iconst X3.here hx rfl (hb hby at_13) k) ?_
  refine Gv T3 15 [(.int (x4 &&& (3 : Int32)))] (fun t k => XS.iand X3.here hx rfl (hb hby at_14) rfl k) ?_
  refine Gv T3 17 [] (fun t k => XS.istore X3.here hx rfl (hb hby at_15) rfl (l' := #[iv x1, iv x2, iv x3, iv x4, rv bs1, rv bs3, iv (x4 &&& (3 : Int32)), u_, u_, u_, u_, u_, u_]) rfl k) ?_
  suffices J5 : ∀ (mo : Int32), Goes p.tables e below (fun t o => ∃ v L, o = .returned v ∧ (own_Q29 Z x1 x2 x3 x4 z0 em es h0 n0) v t.heap L ∧ EndH Z consts_1 s o t L (room_1).cells (room_1).slots) (T3.setTop (mkF m 17 #[iv x1, iv x2, iv x3, iv x4, rv bs1, rv bs3, iv mo, u_, u_, u_, u_, u_, u_] [])) by exact J5 (x4 &&& (3 : Int32))
  intro mo
  have j6 : ∀ (T7 : State) (lc7 : List Loc) (X7 : Stand p l e room_1 (s.setVm T7.vm) m #[(.int x1), (.int x2), (.int x3), (.int x4)] below meth c T7 lc7 12 24) (e7 : T7.heap = T3.heap) (N7 : Fr n0 lc7) (hS7 : s.Since T7.vm T3.heap.size) (hZ7 : Z.Warmed39 T7.vm) (hown7 : T7.vm.findClass "com/example/baskit/baskit/ClientSideAllowsPinLaw" = some m.cls) (hR7 : CHr Z consts_1 s.vm s.heap T7.vm T3.heap) (on : Int32) (hon : on = 1 ∨ (on = 0 ∧ ¬ own_cs x1 = own_cs x2)) , Goes p.tables e below (fun t o => ∃ v L, o = .returned v ∧ (own_Q29 Z x1 x2 x3 x4 z0 em es h0 n0) v t.heap L ∧ EndH Z consts_1 s o t L (room_1).cells (room_1).slots) (T7.setTop (mkF m 40 #[iv x1, iv x2, iv x3, iv x4, rv bs1, rv bs3, iv mo, iv on, u_, u_, u_, u_, u_] [])) := by
    intro T7 lc7 X7 e7 N7 hS7 hZ7 hown7 hR7 on hon
    refine Gv T7 42 [(.int mo)] (fun t k => XS.iload X7.here hx rfl (hb hby at_40) rfl k) ?_
    by_cases b8 : mo = (0 : Int32)
    · refine Gv T7 45 [] (fun t k => XS.ifNo X7.here hx rfl (hb hby at_42) rfl (XT.i0_ne_f b8) k) ?_
      obtain ⟨_, T9, L9, X9, ⟨rfl, M9, K9⟩, st9⟩ := callStatic X7 hx hZ7 hown7 (W_ hw 148 rfl) (W_ hw 149 rfl) (W_ hw 28 rfl) (W_ hw 150 rfl) (by decide) (argsL := []) (rest := []) (own_m16 l Z a0 hw [] es T3.heap n0 ((O0.keep K1 all0).keep K3 all0) O_4) e7 (lenOf own_pd13 rfl) (pc := 45) (Ls := #[iv x1, iv x2, iv x3, iv x4, rv bs1, rv bs3, iv mo, iv on, u_, u_, u_, u_, u_]) (st := []) rfl (by rw [hml]; rfl) (hb hby at_45) (W := 0) (Nat.le_of_eq rfl) (by decide) (by decide) (by decide) (by decide)
      have N9 := Fr.app N7 M9
      refine Goes.via (B := T9.setTop (mkF m 48 #[iv x1, iv x2, iv x3, iv x4, rv bs1, rv bs3, iv mo, iv on, u_, u_, u_, u_, u_] [(.ref es)])) (fun t k => st9 _ k) ?_
      refine Gv T9 50 [] (fun t k => XS.astore X9.here hx rfl (hb hby at_48) rfl rfl (l' := #[iv x1, iv x2, iv x3, iv x4, rv bs1, rv bs3, iv mo, iv on, rv es, u_, u_, u_, u_]) rfl k) ?_
      refine Gv T9 77 [] (fun t k => XS.goto X9.here hx rfl (pc0 := 50) (pc' := 77) rfl (hb hby at_50) (by decide) (by decide) k) ?_
      refine Gv T9 78 [(.int x4)] (fun t k => XS.iloadN X9.here hx rfl (hb hby at_77) rfl k) ?_
      refine Gv T9 79 [(.int (2 : Int32)), (.int x4)] (fun t k => XS.iconst X9.here hx rfl (hb hby at_78) k) ?_
      refine Gv T9 80 [(.int ((x4.toUInt32 >>> ((2 : Int32) &&& 31).toUInt32).toInt32))] (fun t k => XS.iushr X9.here hx rfl (hb hby at_79) rfl k) ?_
      refine Gv T9 81 [(.int (3 : Int32)), (.int ((x4.toUInt32 >>> ((2 : Int32) &&& 31).toUInt32).toInt32))] (fun t k => XS.iconst X9.here hx rfl (hb hby at_80) k) ?_
      refine Gv T9 82 [(.int (((x4.toUInt32 >>> ((2 : Int32) &&& 31).toUInt32).toInt32) &&& (3 : Int32)))] (fun t k => XS.iand X9.here hx rfl (hb hby at_81) rfl k) ?_
      refine Gv T9 84 [] (fun t k => XS.istore X9.here hx rfl (hb hby at_82) rfl (l' := #[iv x1, iv x2, iv x3, iv x4, rv bs1, rv bs3, iv mo, iv on, rv es, iv (((x4.toUInt32 >>> ((2 : Int32) &&& 31).toUInt32).toInt32) &&& (3 : Int32)), u_, u_, u_]) rfl k) ?_
      suffices J10 : ∀ (wh : Int32), Goes p.tables e below (fun t o => ∃ v L, o = .returned v ∧ (own_Q29 Z x1 x2 x3 x4 z0 em es h0 n0) v t.heap L ∧ EndH Z consts_1 s o t L (room_1).cells (room_1).slots) (T9.setTop (mkF m 84 #[iv x1, iv x2, iv x3, iv x4, rv bs1, rv bs3, iv mo, iv on, rv es, iv wh, u_, u_, u_] [])) by exact J10 (((x4.toUInt32 >>> ((2 : Int32) &&& 31).toUInt32).toInt32) &&& (3 : Int32))
      intro wh
      refine Gv T9 86 [(.int wh)] (fun t k => XS.iload X9.here hx rfl (hb hby at_84) rfl k) ?_
      by_cases b11 : wh = (0 : Int32)
      · refine Gv T9 89 [] (fun t k => XS.ifNo X9.here hx rfl (hb hby at_86) rfl (XT.i0_ne_f b11) k) ?_
        refine Gv T9 90 [.null] (fun t k => XS.aconstNull X9.here hx rfl (hb hby at_89) k) ?_
        refine Gv T9 92 [] (fun t k => XS.astore X9.here hx rfl (hb hby at_90) rfl rfl (l' := #[iv x1, iv x2, iv x3, iv x4, rv bs1, rv bs3, iv mo, iv on, rv es, iv wh, .val .null, u_, u_]) rfl k) ?_
        refine Gv T9 131 [] (fun t k => XS.goto X9.here hx rfl (pc0 := 92) (pc' := 131) rfl (hb hby at_92) (by decide) (by decide) k) ?_
        obtain ⟨T12, h12, X12, e12, E12, A12, D12, U12, st12⟩ := newO X9 hx hZ7 hown7 (W_ hw 66 rfl) (W_ hw 67 rfl) (W_ hw 68 rfl) K9 (g := (mkF m 131 #[iv x1, iv x2, iv x3, iv x4, rv bs1, rv bs3, iv mo, iv on, rv es, iv wh, .val .null, u_, u_] [])) rfl (hb hby at_131) (by decide) (by decide)
        obtain ⟨b12, g12⟩ : ∃ z, z = T3.heap.size := ⟨_, rfl⟩
        rw [← g12] at A12 D12 U12 st12
        have gn12 : n0 ≤ b12 := Nat.le_trans (old_le ((O0.keep K1 all0).keep K3 all0)) (Nat.le_of_eq g12.symm)
        have hq13 := CHr.ext E12 hR7.1
        have hR13 := CHr.trans hR7 hq13
        have sf14 := Safe.ext E12 hR7.1 (Safe.new (Nat.le_of_eq g12.symm))
        have F12_keys : Fld Z h12 b12 "com/example/baskit/baskit/ClientSide" "keys" "Lcom/example/baskit/baskit/Keys;" .null := D12 (Or.inr (W_ hw 87 rfl)) (ty := (.object "com/example/baskit/baskit/Keys")) (by decide)
        have F12_origins : Fld Z h12 b12 "com/example/baskit/baskit/ClientSide" "origins" "Ljava/util/Set;" .null := D12 (Or.inr (W_ hw 95 rfl)) (ty := (.object "java/util/Set")) (by decide)
        have F12_redeems : Fld Z h12 b12 "com/example/baskit/baskit/ClientSide" "redeems" "Z" (.int (0 : Int32)) := D12 (Or.inr (W_ hw 97 rfl)) (ty := .boolean) (by decide)
        refine Goes.via (B := T12.setTop (mkF m 134 #[iv x1, iv x2, iv x3, iv x4, rv bs1, rv bs3, iv mo, iv on, rv es, iv wh, .val .null, u_, u_] [(.ref b12)])) (fun t k => st12 _ k) ?_
        refine Gv T12 135 [(.ref b12), (.ref b12)] (fun t k => XS.dup X12.here hx rfl (hb hby at_134) rfl rfl k) ?_
        obtain ⟨T15, h15, X15, e15, E15, A15, D15, U15, st15⟩ := newO X12 hx hZ7 hown7 (W_ hw 69 rfl) (W_ hw 70 rfl) (W_ hw 71 rfl) e12 (g := (mkF m 135 #[iv x1, iv x2, iv x3, iv x4, rv bs1, rv bs3, iv mo, iv on, rv es, iv wh, .val .null, u_, u_] [(.ref b12), (.ref b12)])) rfl (hb hby at_135) (by decide) (by decide)
        obtain ⟨b15, g15⟩ : ∃ z, z = h12.size := ⟨_, rfl⟩
        rw [← g15] at A15 D15 U15 st15
        have gn15 : n0 ≤ b15 := Nat.le_trans (old_le (((O0.keep K1 all0).keep K3 all0).ext E12)) (Nat.le_of_eq g15.symm)
        have hq16 := CHr.ext E15 hR13.1
        have hR16 := CHr.trans hR13 hq16
        have sf17 := Safe.ext E15 hR13.1 (Safe.new (Nat.le_of_eq g15.symm))
        have F15_id : Fld Z h15 b15 "com/example/baskit/baskit/Keys" "id" "Ljava/lang/String;" .null := D15 (Or.inr (W_ hw 79 rfl)) (ty := (.object "java/lang/String")) (by decide)
        have F15_token : Fld Z h15 b15 "com/example/baskit/baskit/Keys" "token" "Ljava/lang/String;" .null := D15 (Or.inr (W_ hw 81 rfl)) (ty := (.object "java/lang/String")) (by decide)
        refine Goes.via (B := T15.setTop (mkF m 138 #[iv x1, iv x2, iv x3, iv x4, rv bs1, rv bs3, iv mo, iv on, rv es, iv wh, .val .null, u_, u_] [(.ref b15), (.ref b12), (.ref b12)])) (fun t k => st15 _ k) ?_
        refine Gv T15 139 [(.ref b15), (.ref b15), (.ref b12), (.ref b12)] (fun t k => XS.dup X15.here hx rfl (hb hby at_138) rfl rfl k) ?_
        obtain ⟨b18, T18, h18, k18, X18, e18, E18, hS18, hk18, hZ18, hown18, hC18, -, st18⟩ := ldcOH X15 hx hZ7 hown7 (W_ hw 72 rfl) (own_wS hw) e15 hS7 (Nat.le_trans (Nat.le_trans (Nat.le_refl _) E12.1) E15.1) hEL hR16.1 (g := (mkF m 139 #[iv x1, iv x2, iv x3, iv x4, rv bs1, rv bs3, iv mo, iv on, rv es, iv wh, .val .null, u_, u_] [(.ref b15), (.ref b15), (.ref b12), (.ref b12)])) rfl (hb hby at_139) (n := 4) (by decide) (by decide) (by decide) (by decide)
        have hq19 := hC18
        have hR19 := CHr.trans hR16 hq19
        refine Goes.via (B := T18.setTop (mkF m 141 #[iv x1, iv x2, iv x3, iv x4, rv bs1, rv bs3, iv mo, iv on, rv es, iv wh, .val .null, u_, u_] [(.ref b18), (.ref b15), (.ref b15), (.ref b12), (.ref b12)])) (fun t k => st18 _ k) ?_
        obtain ⟨b20, T20, h20, k20, X20, e20, E20, hS20, hk20, hZ20, hown20, hC20, -, st20⟩ := ldcOH X18 hx hZ18 hown18 (W_ hw 73 rfl) (own_wS hw) e18 hS18 hk18 hEL hR19.1 (g := (mkF m 141 #[iv x1, iv x2, iv x3, iv x4, rv bs1, rv bs3, iv mo, iv on, rv es, iv wh, .val .null, u_, u_] [(.ref b18), (.ref b15), (.ref b15), (.ref b12), (.ref b12)])) rfl (hb hby at_141) (n := 4) (by decide) (by decide) (by decide) (by decide)
        have hq21 := hC20
        have hR21 := CHr.trans hR19 hq21
        refine Goes.via (B := T20.setTop (mkF m 143 #[iv x1, iv x2, iv x3, iv x4, rv bs1, rv bs3, iv mo, iv on, rv es, iv wh, .val .null, u_, u_] [(.ref b20), (.ref b18), (.ref b15), (.ref b15), (.ref b12), (.ref b12)])) (fun t k => st20 _ k) ?_
        obtain ⟨_, T22, L22, X22, ⟨rfl, M22, K22⟩, st22⟩ := callInit X20 hx hZ20 rfl hown20 (W_ hw 74 rfl) (W_ hw 75 rfl) (W_ hw 71 rfl) (W_ hw 76 rfl) (by decide) (argsL := [(.ref b18), (.ref b20)]) (rest := [(.ref b15), (.ref b12), (.ref b12)]) (own_m19 l Z a0 hw [] b15 b18 b20 h20 n0 ((((((O0.keep K1 all0).keep K3 all0).ext E12).ext E15).ext E18).ext E20) gn15 ((A15.ext E18).ext E20) ((F15_id.ext E18).ext E20) ((F15_token.ext E18).ext E20)) e20 (lenOf own_pd14 rfl) (pc := 143) (Ls := #[iv x1, iv x2, iv x3, iv x4, rv bs1, rv bs3, iv mo, iv on, rv es, iv wh, .val .null, u_, u_]) (st := [(.ref b20), (.ref b18), (.ref b15), (.ref b15), (.ref b12), (.ref b12)]) rfl (by rw [hml]; rfl) (hb hby at_143) (W := 3) (Nat.le_of_eq rfl) (by decide) (by decide) (by decide) (by decide)
        have N22 := Fr.app N9 M22
        have hq23 := CHr.keep K22 (sfS (CHr.safe hq21 (Nat.le_trans A15.lt E18.1) (CHr.safe hq19 A15.lt sf17)) sf0) hR21.1
        have hR23 := CHr.trans hR21 hq23
        refine Goes.via (B := T22.setTop (mkF m 146 #[iv x1, iv x2, iv x3, iv x4, rv bs1, rv bs3, iv mo, iv on, rv es, iv wh, .val .null, u_, u_] [(.ref b15), (.ref b12), (.ref b12)])) (fun t k => st22 _ k) ?_
        refine Gv T22 148 [(.ref es), (.ref b15), (.ref b12), (.ref b12)] (fun t k => XS.aload X22.here hx rfl (hb hby at_146) rfl rfl k) ?_
        refine Gv T22 149 [(.int x4), (.ref es), (.ref b15), (.ref b12), (.ref b12)] (fun t k => XS.iloadN X22.here hx rfl (hb hby at_148) rfl k) ?_
        refine Gv T22 150 [(.int (4 : Int32)), (.int x4), (.ref es), (.ref b15), (.ref b12), (.ref b12)] (fun t k => XS.iconst X22.here hx rfl (hb hby at_149) k) ?_
        refine Gv T22 151 [(.int ((x4.toUInt32 >>> ((4 : Int32) &&& 31).toUInt32).toInt32)), (.ref es), (.ref b15), (.ref b12), (.ref b12)] (fun t k => XS.iushr X22.here hx rfl (hb hby at_150) rfl k) ?_
        refine Gv T22 152 [(.int (1 : Int32)), (.int ((x4.toUInt32 >>> ((4 : Int32) &&& 31).toUInt32).toInt32)), (.ref es), (.ref b15), (.ref b12), (.ref b12)] (fun t k => XS.iconst X22.here hx rfl (hb hby at_151) k) ?_
        refine Gv T22 153 [(.int (((x4.toUInt32 >>> ((4 : Int32) &&& 31).toUInt32).toInt32) &&& (1 : Int32))), (.ref es), (.ref b15), (.ref b12), (.ref b12)] (fun t k => XS.iand X22.here hx rfl (hb hby at_152) rfl k) ?_
        have j24 : ∀ (rb : Int32) (hrb : rb = 0 ∨ rb = 1) , Goes p.tables e below (fun t o => ∃ v L, o = .returned v ∧ (own_Q29 Z x1 x2 x3 x4 z0 em es h0 n0) v t.heap L ∧ EndH Z consts_1 s o t L (room_1).cells (room_1).slots) (T22.setTop (mkF m 161 #[iv x1, iv x2, iv x3, iv x4, rv bs1, rv bs3, iv mo, iv on, rv es, iv wh, .val .null, u_, u_] [(.int rb), (.ref es), (.ref b15), (.ref b12), (.ref b12)])) := by
          intro rb hrb
          have c27 : Fld Z T22.heap b12 "com/example/baskit/baskit/ClientSide" "keys" "Lcom/example/baskit/baskit/Keys;" .null := ((((F12_keys.ext E15).ext E18).ext E20).keep K22 (ninS (Nat.ne_of_lt (Nat.lt_of_lt_of_le A12.lt (Nat.le_of_eq g15.symm))) nin0))
          have c28 : Fld Z T22.heap b12 "com/example/baskit/baskit/ClientSide" "origins" "Ljava/util/Set;" .null := ((((F12_origins.ext E15).ext E18).ext E20).keep K22 (ninS (Nat.ne_of_lt (Nat.lt_of_lt_of_le A12.lt (Nat.le_of_eq g15.symm))) nin0))
          have c29 : Fld Z T22.heap b12 "com/example/baskit/baskit/ClientSide" "redeems" "Z" (.int (0 : Int32)) := ((((F12_redeems.ext E15).ext E18).ext E20).keep K22 (ninS (Nat.ne_of_lt (Nat.lt_of_lt_of_le A12.lt (Nat.le_of_eq g15.symm))) nin0))
          obtain ⟨_, T26, L26, X26, ⟨rfl, M26, K26, f26_0, f26_1⟩, st26⟩ := callInit X22 hx hZ20 rfl hown20 (W_ hw 82 rfl) (W_ hw 83 rfl) (W_ hw 68 rfl) (W_ hw 84 rfl) (by decide) (argsL := [(.ref b15), (.ref es), (.int rb)]) (rest := [(.ref b12)]) (own_m21 l Z a0 hw [] b12 b15 es rb T22.heap n0 (((((((O0.keep K1 all0).keep K3 all0).ext E12).ext E15).ext E18).ext E20).keep K22 (allS gn15 all0)) hrb gn12 O_5 ((((A12.ext E15).ext E18).ext E20).keep K22) c27 c28 c29) rfl (lenOf own_pd15 rfl) (pc := 161) (Ls := #[iv x1, iv x2, iv x3, iv x4, rv bs1, rv bs3, iv mo, iv on, rv es, iv wh, .val .null, u_, u_]) (st := [(.int rb), (.ref es), (.ref b15), (.ref b12), (.ref b12)]) rfl (by rw [hml]; rfl) (hb hby at_161) (W := 1) (Nat.le_of_eq rfl) (by decide) (by decide) (by decide) (by decide)
          have N26 := Fr.app N22 M26
          have hq30 := CHr.keep K26 (sfS (CHr.safe hq23 (Nat.le_trans (Nat.le_trans (Nat.le_trans A12.lt E15.1) E18.1) E20.1) (CHr.safe hq21 (Nat.le_trans (Nat.le_trans A12.lt E15.1) E18.1) (CHr.safe hq19 (Nat.le_trans A12.lt E15.1) (CHr.safe hq16 A12.lt sf14)))) sf0) hR23.1
          have hR30 := CHr.trans hR23 hq30
          refine Goes.via (B := T26.setTop (mkF m 164 #[iv x1, iv x2, iv x3, iv x4, rv bs1, rv bs3, iv mo, iv on, rv es, iv wh, .val .null, u_, u_] [(.ref b12)])) (fun t k => st26 _ k) ?_
          refine Gv T26 166 [] (fun t k => XS.astore X26.here hx rfl (hb hby at_164) rfl rfl (l' := #[iv x1, iv x2, iv x3, iv x4, rv bs1, rv bs3, iv mo, iv on, rv es, iv wh, .val .null, rv b12, u_]) rfl k) ?_
          refine Gv T26 168 [.null] (fun t k => XS.aload X26.here hx rfl (hb hby at_166) rfl rfl k) ?_
          refine Gv T26 176 [] (fun t k => XS.ifnullYes X26.here hx rfl (pc0 := 168) (pc' := 176) rfl (hb hby at_168) rfl (by decide) (by decide) k) ?_
          refine Gv T26 177 [(.int (0 : Int32))] (fun t k => XS.iconst X26.here hx rfl (hb hby at_176) k) ?_
          refine Gv T26 179 [] (fun t k => XS.istore X26.here hx rfl (hb hby at_177) rfl (l' := #[iv x1, iv x2, iv x3, iv x4, rv bs1, rv bs3, iv mo, iv on, rv es, iv wh, .val .null, rv b12, iv (0 : Int32)]) rfl k) ?_
          refine Gv T26 226 [] (fun t k => XS.goto X26.here hx rfl (pc0 := 179) (pc' := 226) rfl (hb hby at_179) (by decide) (by decide) k) ?_
          refine Gv T26 228 [(.ref b12)] (fun t k => XS.aload X26.here hx rfl (hb hby at_226) rfl rfl k) ?_
          refine Gv T26 230 [.null, (.ref b12)] (fun t k => XS.aload X26.here hx rfl (hb hby at_228) rfl rfl k) ?_
          obtain ⟨_, T31, L31, X31, ⟨rfl, M31, K31⟩, st31⟩ := callVirt X26 hx hZ20 hown20 (W_ hw 98 rfl) (W_ hw 99 rfl) (W_ hw 101 rfl) (notFace_of_selects (args := #[]) (mvT hZ20 (W_ hw 101 rfl))) (W_ hw 100 rfl) (W_ hw 68 rfl) (W_ hw 102 rfl) (by decide) (argsL := [.null]) (rest := []) (own_m25 l Z a0 hw [] b12 T26.heap n0 ((((((((O0.keep K1 all0).keep K3 all0).ext E12).ext E15).ext E18).ext E20).keep K22 (allS gn15 all0)).keep K26 (allS gn12 all0)) ) rfl f26_0 (lenOf own_pd16 rfl) (pc := 230) (Ls := #[iv x1, iv x2, iv x3, iv x4, rv bs1, rv bs3, iv mo, iv on, rv es, iv wh, .val .null, rv b12, iv (0 : Int32)]) (st := [.null, (.ref b12)]) rfl (by rw [hml]; rfl) (hb hby at_230) (W := 0) (Nat.le_of_eq rfl) (by decide) (by decide) (by decide) (by decide)
          have N31 := Fr.app N26 M31
          refine Goes.via (B := T31.setTop (mkF m 233 #[iv x1, iv x2, iv x3, iv x4, rv bs1, rv bs3, iv mo, iv on, rv es, iv wh, .val .null, rv b12, iv (0 : Int32)] [(.int (0 : Int32))])) (fun t k => st31 _ k) ?_
          refine Gv T31 235 [(.int (0 : Int32)), (.int (0 : Int32))] (fun t k => XS.iload X31.here hx rfl (hb hby at_233) rfl k) ?_
          refine Gv T31 238 [] (fun t k => XS.icmpNo X31.here hx rfl (hb hby at_235) rfl (XT.ii_ne_f rfl) k) ?_
          refine Gv T31 239 [(.int (1 : Int32))] (fun t k => XS.iconst X31.here hx rfl (hb hby at_238) k) ?_
          refine Gv T31 243 [(.int (1 : Int32))] (fun t k => XS.goto X31.here hx rfl (pc0 := 239) (pc' := 243) rfl (hb hby at_239) (by decide) (by decide) k) ?_
          exact finN (Q := (own_Q29 Z x1 x2 x3 x4 z0 em es h0 n0)) (F := EndH Z consts_1) (C := (room_1).cells) (S := (room_1).slots) X31 hx (t := .boolean) Bd.returns (by simp) (z' := (1 : Int32)) rfl (hb hby at_243) K31 ⟨rfl, N31, trivial⟩ (lvH X31 hlk hS20 K31 (Nat.le_trans (Nat.le_trans hk20 K22.1) K26.1) hZ20 hEL hR30 (by decide) (by decide))
        by_cases b32 : (((x4.toUInt32 >>> ((4 : Int32) &&& 31).toUInt32).toInt32) &&& (1 : Int32)) = (0 : Int32)
        · refine Gv T22 160 [(.ref es), (.ref b15), (.ref b12), (.ref b12)] (fun t k => XS.ifYes X22.here hx rfl (pc0 := 153) (pc' := 160) rfl (hb hby at_153) rfl (XT.i0_eq_t b32) (by decide) (by decide) k) ?_
          refine Gv T22 161 [(.int (0 : Int32)), (.ref es), (.ref b15), (.ref b12), (.ref b12)] (fun t k => XS.iconst X22.here hx rfl (hb hby at_160) k) ?_
          exact j24 (0 : Int32) (Or.inl rfl)
        · refine Gv T22 156 [(.ref es), (.ref b15), (.ref b12), (.ref b12)] (fun t k => XS.ifNo X22.here hx rfl (hb hby at_153) rfl (XT.i0_eq_f b32) k) ?_
          refine Gv T22 157 [(.int (1 : Int32)), (.ref es), (.ref b15), (.ref b12), (.ref b12)] (fun t k => XS.iconst X22.here hx rfl (hb hby at_156) k) ?_
          refine Gv T22 161 [(.int (1 : Int32)), (.ref es), (.ref b15), (.ref b12), (.ref b12)] (fun t k => XS.goto X22.here hx rfl (pc0 := 157) (pc' := 161) rfl (hb hby at_157) (by decide) (by decide) k) ?_
          exact j24 (1 : Int32) (Or.inr rfl)
      · refine Gv T9 95 [] (fun t k => XS.ifYes X9.here hx rfl (pc0 := 86) (pc' := 95) rfl (hb hby at_86) rfl (XT.i0_ne_t b11) (by decide) (by decide) k) ?_
        refine Gv T9 97 [(.int wh)] (fun t k => XS.iload X9.here hx rfl (hb hby at_95) rfl k) ?_
        refine Gv T9 98 [(.int (1 : Int32)), (.int wh)] (fun t k => XS.iconst X9.here hx rfl (hb hby at_97) k) ?_
        have j33 : ∀ (T34 : State) (lc34 : List Loc) (h34 : Heap) (X34 : Stand p l e room_1 (s.setVm T34.vm) m #[(.int x1), (.int x2), (.int x3), (.int x4)] below meth c T34 lc34 18 36) (e34 : T34.heap = h34) (N34 : Fr n0 lc34) (hS34 : s.Since T34.vm h34.size) (hZ34 : Z.Warmed39 T34.vm) (hown34 : T34.vm.findClass "com/example/baskit/baskit/ClientSideAllowsPinLaw" = some m.cls) (hR34 : CHr Z consts_1 s.vm s.heap T34.vm h34) (oa : Addr) (ot : Addr) (ok_ : ClassId) (co : List Int32) (O34 : Old Z n0 h34) (F34_0 : Exa Z h34 bs1 "java/lang/String") (F34_1 : Fld Z h34 bs1 "java/lang/String" "value" "[B" (.ref ts1)) (F34_2 : Fld Z h34 bs1 "java/lang/String" "coder" "B" (.int (0 : Int32))) (F34_3 : Arv Z h34 ts1 ks1 .byte (Int32.ofNat (own_cs x1).length) (((own_cs x1).map StrChars.lo8).map Value.int) (.int 0)) (F34_4 : Exa Z h34 bs3 "java/lang/String") (F34_5 : Fld Z h34 bs3 "java/lang/String" "value" "[B" (.ref ts3)) (F34_6 : Fld Z h34 bs3 "java/lang/String" "coder" "B" (.int (0 : Int32))) (F34_7 : Arv Z h34 ts3 ks3 .byte (Int32.ofNat (own_cs x2).length) (((own_cs x2).map StrChars.lo8).map Value.int) (.int 0)) (F34_8 : Exa Z h34 oa "java/lang/String") (F34_9 : Fld Z h34 oa "java/lang/String" "value" "[B" (.ref ot)) (F34_10 : Fld Z h34 oa "java/lang/String" "coder" "B" (.int (0 : Int32))) (F34_11 : Arv Z h34 ot ok_ .byte (Int32.ofNat co.length) ((co.map StrChars.lo8).map Value.int) (.int 0)) (hco : ∀ c ∈ co, ¬ c < 0 ∧ ¬ (255 : Int32) < c) (lco : co.length ≤ 4000) (gno : n0 ≤ oa) , Goes p.tables e below (fun t o => ∃ v L, o = .returned v ∧ (own_Q29 Z x1 x2 x3 x4 z0 em es h0 n0) v t.heap L ∧ EndH Z consts_1 s o t L (room_1).cells (room_1).slots) (T34.setTop (mkF m 131 #[iv x1, iv x2, iv x3, iv x4, rv bs1, rv bs3, iv mo, iv on, rv es, iv wh, rv oa, u_, u_] [])) := by
          intro T34 lc34 h34 X34 e34 N34 hS34 hZ34 hown34 hR34 oa ot ok_ co O34 F34_0 F34_1 F34_2 F34_3 F34_4 F34_5 F34_6 F34_7 F34_8 F34_9 F34_10 F34_11 hco lco gno
          obtain ⟨T35, h35, X35, e35, E35, A35, D35, U35, st35⟩ := newO X34 hx hZ34 hown34 (W_ hw 66 rfl) (W_ hw 67 rfl) (W_ hw 68 rfl) e34 (g := (mkF m 131 #[iv x1, iv x2, iv x3, iv x4, rv bs1, rv bs3, iv mo, iv on, rv es, iv wh, rv oa, u_, u_] [])) rfl (hb hby at_131) (by decide) (by decide)
          obtain ⟨b35, g35⟩ : ∃ z, z = h34.size := ⟨_, rfl⟩
          rw [← g35] at A35 D35 U35 st35
          have gn35 : n0 ≤ b35 := Nat.le_trans (old_le O34) (Nat.le_of_eq g35.symm)
          have hq36 := CHr.ext E35 hR34.1
          have hR36 := CHr.trans hR34 hq36
          have sf37 := Safe.ext E35 hR34.1 (Safe.new (Nat.le_of_eq g35.symm))
          have F35_keys : Fld Z h35 b35 "com/example/baskit/baskit/ClientSide" "keys" "Lcom/example/baskit/baskit/Keys;" .null := D35 (Or.inr (W_ hw 87 rfl)) (ty := (.object "com/example/baskit/baskit/Keys")) (by decide)
          have F35_origins : Fld Z h35 b35 "com/example/baskit/baskit/ClientSide" "origins" "Ljava/util/Set;" .null := D35 (Or.inr (W_ hw 95 rfl)) (ty := (.object "java/util/Set")) (by decide)
          have F35_redeems : Fld Z h35 b35 "com/example/baskit/baskit/ClientSide" "redeems" "Z" (.int (0 : Int32)) := D35 (Or.inr (W_ hw 97 rfl)) (ty := .boolean) (by decide)
          refine Goes.via (B := T35.setTop (mkF m 134 #[iv x1, iv x2, iv x3, iv x4, rv bs1, rv bs3, iv mo, iv on, rv es, iv wh, rv oa, u_, u_] [(.ref b35)])) (fun t k => st35 _ k) ?_
          refine Gv T35 135 [(.ref b35), (.ref b35)] (fun t k => XS.dup X35.here hx rfl (hb hby at_134) rfl rfl k) ?_
          obtain ⟨T38, h38, X38, e38, E38, A38, D38, U38, st38⟩ := newO X35 hx hZ34 hown34 (W_ hw 69 rfl) (W_ hw 70 rfl) (W_ hw 71 rfl) e35 (g := (mkF m 135 #[iv x1, iv x2, iv x3, iv x4, rv bs1, rv bs3, iv mo, iv on, rv es, iv wh, rv oa, u_, u_] [(.ref b35), (.ref b35)])) rfl (hb hby at_135) (by decide) (by decide)
          obtain ⟨b38, g38⟩ : ∃ z, z = h35.size := ⟨_, rfl⟩
          rw [← g38] at A38 D38 U38 st38
          have gn38 : n0 ≤ b38 := Nat.le_trans (old_le (O34.ext E35)) (Nat.le_of_eq g38.symm)
          have hq39 := CHr.ext E38 hR36.1
          have hR39 := CHr.trans hR36 hq39
          have sf40 := Safe.ext E38 hR36.1 (Safe.new (Nat.le_of_eq g38.symm))
          have F38_id : Fld Z h38 b38 "com/example/baskit/baskit/Keys" "id" "Ljava/lang/String;" .null := D38 (Or.inr (W_ hw 79 rfl)) (ty := (.object "java/lang/String")) (by decide)
          have F38_token : Fld Z h38 b38 "com/example/baskit/baskit/Keys" "token" "Ljava/lang/String;" .null := D38 (Or.inr (W_ hw 81 rfl)) (ty := (.object "java/lang/String")) (by decide)
          refine Goes.via (B := T38.setTop (mkF m 138 #[iv x1, iv x2, iv x3, iv x4, rv bs1, rv bs3, iv mo, iv on, rv es, iv wh, rv oa, u_, u_] [(.ref b38), (.ref b35), (.ref b35)])) (fun t k => st38 _ k) ?_
          refine Gv T38 139 [(.ref b38), (.ref b38), (.ref b35), (.ref b35)] (fun t k => XS.dup X38.here hx rfl (hb hby at_138) rfl rfl k) ?_
          obtain ⟨b41, T41, h41, k41, X41, e41, E41, hS41, hk41, hZ41, hown41, hC41, -, st41⟩ := ldcOH X38 hx hZ34 hown34 (W_ hw 72 rfl) (own_wS hw) e38 hS34 (Nat.le_trans (Nat.le_trans (Nat.le_refl _) E35.1) E38.1) hEL hR39.1 (g := (mkF m 139 #[iv x1, iv x2, iv x3, iv x4, rv bs1, rv bs3, iv mo, iv on, rv es, iv wh, rv oa, u_, u_] [(.ref b38), (.ref b38), (.ref b35), (.ref b35)])) rfl (hb hby at_139) (n := 4) (by decide) (by decide) (by decide) (by decide)
          have hq42 := hC41
          have hR42 := CHr.trans hR39 hq42
          refine Goes.via (B := T41.setTop (mkF m 141 #[iv x1, iv x2, iv x3, iv x4, rv bs1, rv bs3, iv mo, iv on, rv es, iv wh, rv oa, u_, u_] [(.ref b41), (.ref b38), (.ref b38), (.ref b35), (.ref b35)])) (fun t k => st41 _ k) ?_
          obtain ⟨b43, T43, h43, k43, X43, e43, E43, hS43, hk43, hZ43, hown43, hC43, -, st43⟩ := ldcOH X41 hx hZ41 hown41 (W_ hw 73 rfl) (own_wS hw) e41 hS41 hk41 hEL hR42.1 (g := (mkF m 141 #[iv x1, iv x2, iv x3, iv x4, rv bs1, rv bs3, iv mo, iv on, rv es, iv wh, rv oa, u_, u_] [(.ref b41), (.ref b38), (.ref b38), (.ref b35), (.ref b35)])) rfl (hb hby at_141) (n := 4) (by decide) (by decide) (by decide) (by decide)
          have hq44 := hC43
          have hR44 := CHr.trans hR42 hq44
          refine Goes.via (B := T43.setTop (mkF m 143 #[iv x1, iv x2, iv x3, iv x4, rv bs1, rv bs3, iv mo, iv on, rv es, iv wh, rv oa, u_, u_] [(.ref b43), (.ref b41), (.ref b38), (.ref b38), (.ref b35), (.ref b35)])) (fun t k => st43 _ k) ?_
          obtain ⟨_, T45, L45, X45, ⟨rfl, M45, K45⟩, st45⟩ := callInit X43 hx hZ43 rfl hown43 (W_ hw 74 rfl) (W_ hw 75 rfl) (W_ hw 71 rfl) (W_ hw 76 rfl) (by decide) (argsL := [(.ref b41), (.ref b43)]) (rest := [(.ref b38), (.ref b35), (.ref b35)]) (own_m19 l Z a0 hw [] b38 b41 b43 h43 n0 ((((O34.ext E35).ext E38).ext E41).ext E43) gn38 ((A38.ext E41).ext E43) ((F38_id.ext E41).ext E43) ((F38_token.ext E41).ext E43)) e43 (lenOf own_pd14 rfl) (pc := 143) (Ls := #[iv x1, iv x2, iv x3, iv x4, rv bs1, rv bs3, iv mo, iv on, rv es, iv wh, rv oa, u_, u_]) (st := [(.ref b43), (.ref b41), (.ref b38), (.ref b38), (.ref b35), (.ref b35)]) rfl (by rw [hml]; rfl) (hb hby at_143) (W := 3) (Nat.le_of_eq rfl) (by decide) (by decide) (by decide) (by decide)
          have N45 := Fr.app N34 M45
          have hq46 := CHr.keep K45 (sfS (CHr.safe hq44 (Nat.le_trans A38.lt E41.1) (CHr.safe hq42 A38.lt sf40)) sf0) hR44.1
          have hR46 := CHr.trans hR44 hq46
          refine Goes.via (B := T45.setTop (mkF m 146 #[iv x1, iv x2, iv x3, iv x4, rv bs1, rv bs3, iv mo, iv on, rv es, iv wh, rv oa, u_, u_] [(.ref b38), (.ref b35), (.ref b35)])) (fun t k => st45 _ k) ?_
          refine Gv T45 148 [(.ref es), (.ref b38), (.ref b35), (.ref b35)] (fun t k => XS.aload X45.here hx rfl (hb hby at_146) rfl rfl k) ?_
          refine Gv T45 149 [(.int x4), (.ref es), (.ref b38), (.ref b35), (.ref b35)] (fun t k => XS.iloadN X45.here hx rfl (hb hby at_148) rfl k) ?_
          refine Gv T45 150 [(.int (4 : Int32)), (.int x4), (.ref es), (.ref b38), (.ref b35), (.ref b35)] (fun t k => XS.iconst X45.here hx rfl (hb hby at_149) k) ?_
          refine Gv T45 151 [(.int ((x4.toUInt32 >>> ((4 : Int32) &&& 31).toUInt32).toInt32)), (.ref es), (.ref b38), (.ref b35), (.ref b35)] (fun t k => XS.iushr X45.here hx rfl (hb hby at_150) rfl k) ?_
          refine Gv T45 152 [(.int (1 : Int32)), (.int ((x4.toUInt32 >>> ((4 : Int32) &&& 31).toUInt32).toInt32)), (.ref es), (.ref b38), (.ref b35), (.ref b35)] (fun t k => XS.iconst X45.here hx rfl (hb hby at_151) k) ?_
          refine Gv T45 153 [(.int (((x4.toUInt32 >>> ((4 : Int32) &&& 31).toUInt32).toInt32) &&& (1 : Int32))), (.ref es), (.ref b38), (.ref b35), (.ref b35)] (fun t k => XS.iand X45.here hx rfl (hb hby at_152) rfl k) ?_
          have j47 : ∀ (rb : Int32) (hrb : rb = 0 ∨ rb = 1) , Goes p.tables e below (fun t o => ∃ v L, o = .returned v ∧ (own_Q29 Z x1 x2 x3 x4 z0 em es h0 n0) v t.heap L ∧ EndH Z consts_1 s o t L (room_1).cells (room_1).slots) (T45.setTop (mkF m 161 #[iv x1, iv x2, iv x3, iv x4, rv bs1, rv bs3, iv mo, iv on, rv es, iv wh, rv oa, u_, u_] [(.int rb), (.ref es), (.ref b38), (.ref b35), (.ref b35)])) := by
            intro rb hrb
            have c50 : Fld Z T45.heap b35 "com/example/baskit/baskit/ClientSide" "keys" "Lcom/example/baskit/baskit/Keys;" .null := ((((F35_keys.ext E38).ext E41).ext E43).keep K45 (ninS (Nat.ne_of_lt (Nat.lt_of_lt_of_le A35.lt (Nat.le_of_eq g38.symm))) nin0))
            have c51 : Fld Z T45.heap b35 "com/example/baskit/baskit/ClientSide" "origins" "Ljava/util/Set;" .null := ((((F35_origins.ext E38).ext E41).ext E43).keep K45 (ninS (Nat.ne_of_lt (Nat.lt_of_lt_of_le A35.lt (Nat.le_of_eq g38.symm))) nin0))
            have c52 : Fld Z T45.heap b35 "com/example/baskit/baskit/ClientSide" "redeems" "Z" (.int (0 : Int32)) := ((((F35_redeems.ext E38).ext E41).ext E43).keep K45 (ninS (Nat.ne_of_lt (Nat.lt_of_lt_of_le A35.lt (Nat.le_of_eq g38.symm))) nin0))
            obtain ⟨_, T49, L49, X49, ⟨rfl, M49, K49, f49_0, f49_1⟩, st49⟩ := callInit X45 hx hZ43 rfl hown43 (W_ hw 82 rfl) (W_ hw 83 rfl) (W_ hw 68 rfl) (W_ hw 84 rfl) (by decide) (argsL := [(.ref b38), (.ref es), (.int rb)]) (rest := [(.ref b35)]) (own_m21 l Z a0 hw [] b35 b38 es rb T45.heap n0 (((((O34.ext E35).ext E38).ext E41).ext E43).keep K45 (allS gn38 all0)) hrb gn35 O_5 ((((A35.ext E38).ext E41).ext E43).keep K45) c50 c51 c52) rfl (lenOf own_pd15 rfl) (pc := 161) (Ls := #[iv x1, iv x2, iv x3, iv x4, rv bs1, rv bs3, iv mo, iv on, rv es, iv wh, rv oa, u_, u_]) (st := [(.int rb), (.ref es), (.ref b38), (.ref b35), (.ref b35)]) rfl (by rw [hml]; rfl) (hb hby at_161) (W := 1) (Nat.le_of_eq rfl) (by decide) (by decide) (by decide) (by decide)
            have N49 := Fr.app N45 M49
            have hq53 := CHr.keep K49 (sfS (CHr.safe hq46 (Nat.le_trans (Nat.le_trans (Nat.le_trans A35.lt E38.1) E41.1) E43.1) (CHr.safe hq44 (Nat.le_trans (Nat.le_trans A35.lt E38.1) E41.1) (CHr.safe hq42 (Nat.le_trans A35.lt E38.1) (CHr.safe hq39 A35.lt sf37)))) sf0) hR46.1
            have hR53 := CHr.trans hR46 hq53
            refine Goes.via (B := T49.setTop (mkF m 164 #[iv x1, iv x2, iv x3, iv x4, rv bs1, rv bs3, iv mo, iv on, rv es, iv wh, rv oa, u_, u_] [(.ref b35)])) (fun t k => st49 _ k) ?_
            refine Gv T49 166 [] (fun t k => XS.astore X49.here hx rfl (hb hby at_164) rfl rfl (l' := #[iv x1, iv x2, iv x3, iv x4, rv bs1, rv bs3, iv mo, iv on, rv es, iv wh, rv oa, rv b35, u_]) rfl k) ?_
            refine Gv T49 168 [(.ref oa)] (fun t k => XS.aload X49.here hx rfl (hb hby at_166) rfl rfl k) ?_
            refine Gv T49 171 [] (fun t k => XS.ifnullNo X49.here hx rfl (hb hby at_168) rfl k) ?_
            refine Gv T49 173 [(.int mo)] (fun t k => XS.iload X49.here hx rfl (hb hby at_171) rfl k) ?_
            refine Gv T49 176 [] (fun t k => XS.ifNo X49.here hx rfl (hb hby at_173) rfl (XT.i0_ne_f b8) k) ?_
            refine Gv T49 177 [(.int (0 : Int32))] (fun t k => XS.iconst X49.here hx rfl (hb hby at_176) k) ?_
            refine Gv T49 179 [] (fun t k => XS.istore X49.here hx rfl (hb hby at_177) rfl (l' := #[iv x1, iv x2, iv x3, iv x4, rv bs1, rv bs3, iv mo, iv on, rv es, iv wh, rv oa, rv b35, iv (0 : Int32)]) rfl k) ?_
            refine Gv T49 226 [] (fun t k => XS.goto X49.here hx rfl (pc0 := 179) (pc' := 226) rfl (hb hby at_179) (by decide) (by decide) k) ?_
            refine Gv T49 228 [(.ref b35)] (fun t k => XS.aload X49.here hx rfl (hb hby at_226) rfl rfl k) ?_
            refine Gv T49 230 [(.ref oa), (.ref b35)] (fun t k => XS.aload X49.here hx rfl (hb hby at_228) rfl rfl k) ?_
            obtain ⟨_, T54, L54, X54, ⟨rfl, M54, K54⟩, st54⟩ := callVirt X49 hx hZ43 hown43 (W_ hw 98 rfl) (W_ hw 99 rfl) (W_ hw 101 rfl) (notFace_of_selects (args := #[]) (mvT hZ43 (W_ hw 101 rfl))) (W_ hw 100 rfl) (W_ hw 68 rfl) (W_ hw 102 rfl) (by decide) (argsL := [(.ref oa)]) (rest := []) (own_m28 l Z a0 hw [] b35 es oa T49.heap n0 ((((((O34.ext E35).ext E38).ext E41).ext E43).keep K45 (allS gn38 all0)).keep K49 (allS gn35 all0)) O_5 O_6 f49_0 f49_1) rfl f49_0 (lenOf own_pd16 rfl) (pc := 230) (Ls := #[iv x1, iv x2, iv x3, iv x4, rv bs1, rv bs3, iv mo, iv on, rv es, iv wh, rv oa, rv b35, iv (0 : Int32)]) (st := [(.ref oa), (.ref b35)]) rfl (by rw [hml]; rfl) (hb hby at_230) (W := 0) (Nat.le_of_eq rfl) (by decide) (by decide) (by decide) (by decide)
            have N54 := Fr.app N49 M54
            refine Goes.via (B := T54.setTop (mkF m 233 #[iv x1, iv x2, iv x3, iv x4, rv bs1, rv bs3, iv mo, iv on, rv es, iv wh, rv oa, rv b35, iv (0 : Int32)] [(.int (0 : Int32))])) (fun t k => st54 _ k) ?_
            refine Gv T54 235 [(.int (0 : Int32)), (.int (0 : Int32))] (fun t k => XS.iload X54.here hx rfl (hb hby at_233) rfl k) ?_
            refine Gv T54 238 [] (fun t k => XS.icmpNo X54.here hx rfl (hb hby at_235) rfl (XT.ii_ne_f rfl) k) ?_
            refine Gv T54 239 [(.int (1 : Int32))] (fun t k => XS.iconst X54.here hx rfl (hb hby at_238) k) ?_
            refine Gv T54 243 [(.int (1 : Int32))] (fun t k => XS.goto X54.here hx rfl (pc0 := 239) (pc' := 243) rfl (hb hby at_239) (by decide) (by decide) k) ?_
            exact finN (Q := (own_Q29 Z x1 x2 x3 x4 z0 em es h0 n0)) (F := EndH Z consts_1) (C := (room_1).cells) (S := (room_1).slots) X54 hx (t := .boolean) Bd.returns (by simp) (z' := (1 : Int32)) rfl (hb hby at_243) K54 ⟨rfl, N54, trivial⟩ (lvH X54 hlk hS43 K54 (Nat.le_trans (Nat.le_trans hk43 K45.1) K49.1) hZ43 hEL hR53 (by decide) (by decide))
          by_cases b55 : (((x4.toUInt32 >>> ((4 : Int32) &&& 31).toUInt32).toInt32) &&& (1 : Int32)) = (0 : Int32)
          · refine Gv T45 160 [(.ref es), (.ref b38), (.ref b35), (.ref b35)] (fun t k => XS.ifYes X45.here hx rfl (pc0 := 153) (pc' := 160) rfl (hb hby at_153) rfl (XT.i0_eq_t b55) (by decide) (by decide) k) ?_
            refine Gv T45 161 [(.int (0 : Int32)), (.ref es), (.ref b38), (.ref b35), (.ref b35)] (fun t k => XS.iconst X45.here hx rfl (hb hby at_160) k) ?_
            exact j47 (0 : Int32) (Or.inl rfl)
          · refine Gv T45 156 [(.ref es), (.ref b38), (.ref b35), (.ref b35)] (fun t k => XS.ifNo X45.here hx rfl (hb hby at_153) rfl (XT.i0_eq_f b55) k) ?_
            refine Gv T45 157 [(.int (1 : Int32)), (.ref es), (.ref b38), (.ref b35), (.ref b35)] (fun t k => XS.iconst X45.here hx rfl (hb hby at_156) k) ?_
            refine Gv T45 161 [(.int (1 : Int32)), (.ref es), (.ref b38), (.ref b35), (.ref b35)] (fun t k => XS.goto X45.here hx rfl (pc0 := 157) (pc' := 161) rfl (hb hby at_157) (by decide) (by decide) k) ?_
            exact j47 (1 : Int32) (Or.inr rfl)
        by_cases b56 : wh = (1 : Int32)
        · refine Gv T9 101 [] (fun t k => XS.icmpNo X9.here hx rfl (hb hby at_98) rfl (XT.ii_ne_f b56) k) ?_
          refine Gv T9 102 [(.int x1)] (fun t k => XS.iloadN X9.here hx rfl (hb hby at_101) rfl k) ?_
          obtain ⟨_, T57, L57, X57, hS57, hZ57, hown57, hC57, ⟨bs57, ts57, ks57, rfl, M57, K57, z57_0, f57_0, f57_1, f57_2, f57_3⟩, st57⟩ := callStaticH X9 hx hZ7 hS7 (Nat.le_refl _) hEL hR7.1 (sf := []) all0 hown7 (W_ hw 0 rfl) (W_ hw 1 rfl) (W_ hw 2 rfl) (W_ hw 3 rfl) (by decide) (argsL := [(.int x1)]) (rest := []) (own_m7 l Z a0 hw [] x1 z0 T3.heap n0 ((O0.keep K1 all0).keep K3 all0) hz0 O_1) K9 (lenOf own_pd12 rfl) (pc := 102) (Ls := #[iv x1, iv x2, iv x3, iv x4, rv bs1, rv bs3, iv mo, iv on, rv es, iv wh, u_, u_, u_]) (st := [(.int x1)]) rfl (by rw [hml]; rfl) (hb hby at_102) (W := 0) (Nat.le_of_eq rfl) (by decide) (by decide) (by decide) (by decide)
          have N57 := Fr.app N9 M57
          have gn57_0 : n0 ≤ bs57 := Nat.le_trans (old_le ((O0.keep K1 all0).keep K3 all0)) z57_0
          have hq58 := hC57
          have hR58 := CHr.trans hR7 hq58
          refine Goes.via (B := T57.setTop (mkF m 105 #[iv x1, iv x2, iv x3, iv x4, rv bs1, rv bs3, iv mo, iv on, rv es, iv wh, u_, u_, u_] [(.ref bs57)])) (fun t k => st57 _ k) ?_
          refine Gv T57 107 [] (fun t k => XS.astore X57.here hx rfl (hb hby at_105) rfl rfl (l' := #[iv x1, iv x2, iv x3, iv x4, rv bs1, rv bs3, iv mo, iv on, rv es, iv wh, rv bs57, u_, u_]) rfl k) ?_
          refine Gv T57 131 [] (fun t k => XS.goto X57.here hx rfl (pc0 := 107) (pc' := 131) rfl (hb hby at_107) (by decide) (by decide) k) ?_
          obtain ⟨Xr59, hSr59, hZr59, hor59⟩ := rebase X57 hS57 rfl (Nat.le_refl _) hZ57 hown57
          exact j33 T57 _ T57.heap Xr59 rfl N57 hSr59 hZr59 hor59 (CHr.trans hR58 (CHv.at X57 hZ57 hEL hR58.1)) bs57 ts57 ks57 (own_cs x1) (((O0.keep K1 all0).keep K3 all0).keep K57 all0) ((f1_0.keep K3).keep K57) ((f1_1.keep K3 nin0).keep K57 nin0) ((f1_2.keep K3 nin0).keep K57 nin0) ((f1_3.keep K3 nin0).keep K57 nin0) (f3_0.keep K57) (f3_1.keep K57 nin0) (f3_2.keep K57 nin0) (f3_3.keep K57 nin0) f57_0 f57_1 f57_2 f57_3 (own_csr x1) (own_csl x1) gn57_0
        · refine Gv T9 110 [] (fun t k => XS.icmpYes X9.here hx rfl (pc0 := 98) (pc' := 110) rfl (hb hby at_98) rfl (XT.ii_ne_t b56) (by decide) (by decide) k) ?_
          refine Gv T9 112 [(.int wh)] (fun t k => XS.iload X9.here hx rfl (hb hby at_110) rfl k) ?_
          refine Gv T9 113 [(.int (2 : Int32)), (.int wh)] (fun t k => XS.iconst X9.here hx rfl (hb hby at_112) k) ?_
          by_cases b60 : wh = (2 : Int32)
          · refine Gv T9 116 [] (fun t k => XS.icmpNo X9.here hx rfl (hb hby at_113) rfl (XT.ii_ne_f b60) k) ?_
            refine Gv T9 117 [(.int x2)] (fun t k => XS.iloadN X9.here hx rfl (hb hby at_116) rfl k) ?_
            obtain ⟨_, T61, L61, X61, hS61, hZ61, hown61, hC61, ⟨bs61, ts61, ks61, rfl, M61, K61, z61_0, f61_0, f61_1, f61_2, f61_3⟩, st61⟩ := callStaticH X9 hx hZ7 hS7 (Nat.le_refl _) hEL hR7.1 (sf := []) all0 hown7 (W_ hw 0 rfl) (W_ hw 1 rfl) (W_ hw 2 rfl) (W_ hw 3 rfl) (by decide) (argsL := [(.int x2)]) (rest := []) (own_m7 l Z a0 hw [] x2 z0 T3.heap n0 ((O0.keep K1 all0).keep K3 all0) hz0 O_1) K9 (lenOf own_pd12 rfl) (pc := 117) (Ls := #[iv x1, iv x2, iv x3, iv x4, rv bs1, rv bs3, iv mo, iv on, rv es, iv wh, u_, u_, u_]) (st := [(.int x2)]) rfl (by rw [hml]; rfl) (hb hby at_117) (W := 0) (Nat.le_of_eq rfl) (by decide) (by decide) (by decide) (by decide)
            have N61 := Fr.app N9 M61
            have gn61_0 : n0 ≤ bs61 := Nat.le_trans (old_le ((O0.keep K1 all0).keep K3 all0)) z61_0
            have hq62 := hC61
            have hR62 := CHr.trans hR7 hq62
            refine Goes.via (B := T61.setTop (mkF m 120 #[iv x1, iv x2, iv x3, iv x4, rv bs1, rv bs3, iv mo, iv on, rv es, iv wh, u_, u_, u_] [(.ref bs61)])) (fun t k => st61 _ k) ?_
            refine Gv T61 122 [] (fun t k => XS.astore X61.here hx rfl (hb hby at_120) rfl rfl (l' := #[iv x1, iv x2, iv x3, iv x4, rv bs1, rv bs3, iv mo, iv on, rv es, iv wh, rv bs61, u_, u_]) rfl k) ?_
            refine Gv T61 131 [] (fun t k => XS.goto X61.here hx rfl (pc0 := 122) (pc' := 131) rfl (hb hby at_122) (by decide) (by decide) k) ?_
            obtain ⟨Xr63, hSr63, hZr63, hor63⟩ := rebase X61 hS61 rfl (Nat.le_refl _) hZ61 hown61
            exact j33 T61 _ T61.heap Xr63 rfl N61 hSr63 hZr63 hor63 (CHr.trans hR62 (CHv.at X61 hZ61 hEL hR62.1)) bs61 ts61 ks61 (own_cs x2) (((O0.keep K1 all0).keep K3 all0).keep K61 all0) ((f1_0.keep K3).keep K61) ((f1_1.keep K3 nin0).keep K61 nin0) ((f1_2.keep K3 nin0).keep K61 nin0) ((f1_3.keep K3 nin0).keep K61 nin0) (f3_0.keep K61) (f3_1.keep K61 nin0) (f3_2.keep K61 nin0) (f3_3.keep K61 nin0) f61_0 f61_1 f61_2 f61_3 (own_csr x2) (own_csl x2) gn61_0
          · refine Gv T9 125 [] (fun t k => XS.icmpYes X9.here hx rfl (pc0 := 113) (pc' := 125) rfl (hb hby at_113) rfl (XT.ii_ne_t b60) (by decide) (by decide) k) ?_
            refine Gv T9 126 [(.int x3)] (fun t k => XS.iloadN X9.here hx rfl (hb hby at_125) rfl k) ?_
            obtain ⟨_, T64, L64, X64, hS64, hZ64, hown64, hC64, ⟨bs64, ts64, ks64, rfl, M64, K64, z64_0, f64_0, f64_1, f64_2, f64_3⟩, st64⟩ := callStaticH X9 hx hZ7 hS7 (Nat.le_refl _) hEL hR7.1 (sf := []) all0 hown7 (W_ hw 0 rfl) (W_ hw 1 rfl) (W_ hw 2 rfl) (W_ hw 3 rfl) (by decide) (argsL := [(.int x3)]) (rest := []) (own_m7 l Z a0 hw [] x3 z0 T3.heap n0 ((O0.keep K1 all0).keep K3 all0) hz0 O_1) K9 (lenOf own_pd12 rfl) (pc := 126) (Ls := #[iv x1, iv x2, iv x3, iv x4, rv bs1, rv bs3, iv mo, iv on, rv es, iv wh, u_, u_, u_]) (st := [(.int x3)]) rfl (by rw [hml]; rfl) (hb hby at_126) (W := 0) (Nat.le_of_eq rfl) (by decide) (by decide) (by decide) (by decide)
            have N64 := Fr.app N9 M64
            have gn64_0 : n0 ≤ bs64 := Nat.le_trans (old_le ((O0.keep K1 all0).keep K3 all0)) z64_0
            have hq65 := hC64
            have hR65 := CHr.trans hR7 hq65
            refine Goes.via (B := T64.setTop (mkF m 129 #[iv x1, iv x2, iv x3, iv x4, rv bs1, rv bs3, iv mo, iv on, rv es, iv wh, u_, u_, u_] [(.ref bs64)])) (fun t k => st64 _ k) ?_
            refine Gv T64 131 [] (fun t k => XS.astore X64.here hx rfl (hb hby at_129) rfl rfl (l' := #[iv x1, iv x2, iv x3, iv x4, rv bs1, rv bs3, iv mo, iv on, rv es, iv wh, rv bs64, u_, u_]) rfl k) ?_
            obtain ⟨Xr66, hSr66, hZr66, hor66⟩ := rebase X64 hS64 rfl (Nat.le_refl _) hZ64 hown64
            exact j33 T64 _ T64.heap Xr66 rfl N64 hSr66 hZr66 hor66 (CHr.trans hR65 (CHv.at X64 hZ64 hEL hR65.1)) bs64 ts64 ks64 (own_cs x3) (((O0.keep K1 all0).keep K3 all0).keep K64 all0) ((f1_0.keep K3).keep K64) ((f1_1.keep K3 nin0).keep K64 nin0) ((f1_2.keep K3 nin0).keep K64 nin0) ((f1_3.keep K3 nin0).keep K64 nin0) (f3_0.keep K64) (f3_1.keep K64 nin0) (f3_2.keep K64 nin0) (f3_3.keep K64 nin0) f64_0 f64_1 f64_2 f64_3 (own_csr x3) (own_csl x3) gn64_0
    · refine Gv T7 53 [] (fun t k => XS.ifYes X7.here hx rfl (pc0 := 42) (pc' := 53) rfl (hb hby at_42) rfl (XT.i0_ne_t b8) (by decide) (by decide) k) ?_
      refine Gv T7 55 [(.int on)] (fun t k => XS.iload X7.here hx rfl (hb hby at_53) rfl k) ?_
      rcases hon with rfl | ⟨rfl, hne⟩
      · refine Gv T7 58 [] (fun t k => XS.ifNo X7.here hx rfl (hb hby at_55) rfl (XT.i0_eq_f (by decide)) k) ?_
        refine Gv T7 60 [(.ref bs1)] (fun t k => XS.aload X7.here hx rfl (hb hby at_58) rfl rfl k) ?_
        obtain ⟨_, T67, L67, X67, ⟨r67, rfl, M67, K67, z67_0, f67_0, f67_1, f67_2⟩, st67⟩ := callStatic X7 hx hZ7 hown7 (W_ hw 26 rfl) (W_ hw 27 rfl) (W_ hw 28 rfl) (W_ hw 29 rfl) (by decide) (argsL := [(.ref bs1)]) (rest := []) (own_m13 l Z a0 hw [] bs1 em T3.heap n0 ((O0.keep K1 all0).keep K3 all0) O_2) e7 (lenOf own_pd17 rfl) (pc := 60) (Ls := #[iv x1, iv x2, iv x3, iv x4, rv bs1, rv bs3, iv mo, iv (1 : Int32), u_, u_, u_, u_, u_]) (st := [(.ref bs1)]) rfl (by rw [hml]; rfl) (hb hby at_60) (W := 0) (Nat.le_of_eq rfl) (by decide) (by decide) (by decide) (by decide)
        have N67 := Fr.app N7 M67
        have gn67_0 : n0 ≤ r67 := Nat.le_trans (old_le ((O0.keep K1 all0).keep K3 all0)) z67_0
        have hq68 := CHr.keep K67 sf0 hR7.1
        have hR68 := CHr.trans hR7 hq68
        refine Goes.via (B := T67.setTop (mkF m 63 #[iv x1, iv x2, iv x3, iv x4, rv bs1, rv bs3, iv mo, iv (1 : Int32), u_, u_, u_, u_, u_] [(.ref r67)])) (fun t k => st67 _ k) ?_
        refine Gv T67 65 [] (fun t k => XS.astore X67.here hx rfl (hb hby at_63) rfl rfl (l' := #[iv x1, iv x2, iv x3, iv x4, rv bs1, rv bs3, iv mo, iv (1 : Int32), rv r67, u_, u_, u_, u_]) rfl k) ?_
        refine Gv T67 77 [] (fun t k => XS.goto X67.here hx rfl (pc0 := 65) (pc' := 77) rfl (hb hby at_65) (by decide) (by decide) k) ?_
        refine Gv T67 78 [(.int x4)] (fun t k => XS.iloadN X67.here hx rfl (hb hby at_77) rfl k) ?_
        refine Gv T67 79 [(.int (2 : Int32)), (.int x4)] (fun t k => XS.iconst X67.here hx rfl (hb hby at_78) k) ?_
        refine Gv T67 80 [(.int ((x4.toUInt32 >>> ((2 : Int32) &&& 31).toUInt32).toInt32))] (fun t k => XS.iushr X67.here hx rfl (hb hby at_79) rfl k) ?_
        refine Gv T67 81 [(.int (3 : Int32)), (.int ((x4.toUInt32 >>> ((2 : Int32) &&& 31).toUInt32).toInt32))] (fun t k => XS.iconst X67.here hx rfl (hb hby at_80) k) ?_
        refine Gv T67 82 [(.int (((x4.toUInt32 >>> ((2 : Int32) &&& 31).toUInt32).toInt32) &&& (3 : Int32)))] (fun t k => XS.iand X67.here hx rfl (hb hby at_81) rfl k) ?_
        refine Gv T67 84 [] (fun t k => XS.istore X67.here hx rfl (hb hby at_82) rfl (l' := #[iv x1, iv x2, iv x3, iv x4, rv bs1, rv bs3, iv mo, iv (1 : Int32), rv r67, iv (((x4.toUInt32 >>> ((2 : Int32) &&& 31).toUInt32).toInt32) &&& (3 : Int32)), u_, u_, u_]) rfl k) ?_
        suffices J69 : ∀ (wh : Int32), Goes p.tables e below (fun t o => ∃ v L, o = .returned v ∧ (own_Q29 Z x1 x2 x3 x4 z0 em es h0 n0) v t.heap L ∧ EndH Z consts_1 s o t L (room_1).cells (room_1).slots) (T67.setTop (mkF m 84 #[iv x1, iv x2, iv x3, iv x4, rv bs1, rv bs3, iv mo, iv (1 : Int32), rv r67, iv wh, u_, u_, u_] [])) by exact J69 (((x4.toUInt32 >>> ((2 : Int32) &&& 31).toUInt32).toInt32) &&& (3 : Int32))
        intro wh
        refine Gv T67 86 [(.int wh)] (fun t k => XS.iload X67.here hx rfl (hb hby at_84) rfl k) ?_
        by_cases b70 : wh = (0 : Int32)
        · refine Gv T67 89 [] (fun t k => XS.ifNo X67.here hx rfl (hb hby at_86) rfl (XT.i0_ne_f b70) k) ?_
          refine Gv T67 90 [.null] (fun t k => XS.aconstNull X67.here hx rfl (hb hby at_89) k) ?_
          refine Gv T67 92 [] (fun t k => XS.astore X67.here hx rfl (hb hby at_90) rfl rfl (l' := #[iv x1, iv x2, iv x3, iv x4, rv bs1, rv bs3, iv mo, iv (1 : Int32), rv r67, iv wh, .val .null, u_, u_]) rfl k) ?_
          refine Gv T67 131 [] (fun t k => XS.goto X67.here hx rfl (pc0 := 92) (pc' := 131) rfl (hb hby at_92) (by decide) (by decide) k) ?_
          obtain ⟨T71, h71, X71, e71, E71, A71, D71, U71, st71⟩ := newO X67 hx hZ7 hown7 (W_ hw 66 rfl) (W_ hw 67 rfl) (W_ hw 68 rfl) rfl (g := (mkF m 131 #[iv x1, iv x2, iv x3, iv x4, rv bs1, rv bs3, iv mo, iv (1 : Int32), rv r67, iv wh, .val .null, u_, u_] [])) rfl (hb hby at_131) (by decide) (by decide)
          obtain ⟨b71, g71⟩ : ∃ z, z = T67.heap.size := ⟨_, rfl⟩
          rw [← g71] at A71 D71 U71 st71
          have gn71 : n0 ≤ b71 := Nat.le_trans (old_le (((O0.keep K1 all0).keep K3 all0).keep K67 all0)) (Nat.le_of_eq g71.symm)
          have hq72 := CHr.ext E71 hR68.1
          have hR72 := CHr.trans hR68 hq72
          have sf73 := Safe.ext E71 hR68.1 (Safe.new (Nat.le_of_eq g71.symm))
          have F71_keys : Fld Z h71 b71 "com/example/baskit/baskit/ClientSide" "keys" "Lcom/example/baskit/baskit/Keys;" .null := D71 (Or.inr (W_ hw 87 rfl)) (ty := (.object "com/example/baskit/baskit/Keys")) (by decide)
          have F71_origins : Fld Z h71 b71 "com/example/baskit/baskit/ClientSide" "origins" "Ljava/util/Set;" .null := D71 (Or.inr (W_ hw 95 rfl)) (ty := (.object "java/util/Set")) (by decide)
          have F71_redeems : Fld Z h71 b71 "com/example/baskit/baskit/ClientSide" "redeems" "Z" (.int (0 : Int32)) := D71 (Or.inr (W_ hw 97 rfl)) (ty := .boolean) (by decide)
          refine Goes.via (B := T71.setTop (mkF m 134 #[iv x1, iv x2, iv x3, iv x4, rv bs1, rv bs3, iv mo, iv (1 : Int32), rv r67, iv wh, .val .null, u_, u_] [(.ref b71)])) (fun t k => st71 _ k) ?_
          refine Gv T71 135 [(.ref b71), (.ref b71)] (fun t k => XS.dup X71.here hx rfl (hb hby at_134) rfl rfl k) ?_
          obtain ⟨T74, h74, X74, e74, E74, A74, D74, U74, st74⟩ := newO X71 hx hZ7 hown7 (W_ hw 69 rfl) (W_ hw 70 rfl) (W_ hw 71 rfl) e71 (g := (mkF m 135 #[iv x1, iv x2, iv x3, iv x4, rv bs1, rv bs3, iv mo, iv (1 : Int32), rv r67, iv wh, .val .null, u_, u_] [(.ref b71), (.ref b71)])) rfl (hb hby at_135) (by decide) (by decide)
          obtain ⟨b74, g74⟩ : ∃ z, z = h71.size := ⟨_, rfl⟩
          rw [← g74] at A74 D74 U74 st74
          have gn74 : n0 ≤ b74 := Nat.le_trans (old_le ((((O0.keep K1 all0).keep K3 all0).keep K67 all0).ext E71)) (Nat.le_of_eq g74.symm)
          have hq75 := CHr.ext E74 hR72.1
          have hR75 := CHr.trans hR72 hq75
          have sf76 := Safe.ext E74 hR72.1 (Safe.new (Nat.le_of_eq g74.symm))
          have F74_id : Fld Z h74 b74 "com/example/baskit/baskit/Keys" "id" "Ljava/lang/String;" .null := D74 (Or.inr (W_ hw 79 rfl)) (ty := (.object "java/lang/String")) (by decide)
          have F74_token : Fld Z h74 b74 "com/example/baskit/baskit/Keys" "token" "Ljava/lang/String;" .null := D74 (Or.inr (W_ hw 81 rfl)) (ty := (.object "java/lang/String")) (by decide)
          refine Goes.via (B := T74.setTop (mkF m 138 #[iv x1, iv x2, iv x3, iv x4, rv bs1, rv bs3, iv mo, iv (1 : Int32), rv r67, iv wh, .val .null, u_, u_] [(.ref b74), (.ref b71), (.ref b71)])) (fun t k => st74 _ k) ?_
          refine Gv T74 139 [(.ref b74), (.ref b74), (.ref b71), (.ref b71)] (fun t k => XS.dup X74.here hx rfl (hb hby at_138) rfl rfl k) ?_
          obtain ⟨b77, T77, h77, k77, X77, e77, E77, hS77, hk77, hZ77, hown77, hC77, -, st77⟩ := ldcOH X74 hx hZ7 hown7 (W_ hw 72 rfl) (own_wS hw) e74 hS7 (Nat.le_trans (Nat.le_trans (Nat.le_trans (Nat.le_refl _) K67.1) E71.1) E74.1) hEL hR75.1 (g := (mkF m 139 #[iv x1, iv x2, iv x3, iv x4, rv bs1, rv bs3, iv mo, iv (1 : Int32), rv r67, iv wh, .val .null, u_, u_] [(.ref b74), (.ref b74), (.ref b71), (.ref b71)])) rfl (hb hby at_139) (n := 4) (by decide) (by decide) (by decide) (by decide)
          have hq78 := hC77
          have hR78 := CHr.trans hR75 hq78
          refine Goes.via (B := T77.setTop (mkF m 141 #[iv x1, iv x2, iv x3, iv x4, rv bs1, rv bs3, iv mo, iv (1 : Int32), rv r67, iv wh, .val .null, u_, u_] [(.ref b77), (.ref b74), (.ref b74), (.ref b71), (.ref b71)])) (fun t k => st77 _ k) ?_
          obtain ⟨b79, T79, h79, k79, X79, e79, E79, hS79, hk79, hZ79, hown79, hC79, -, st79⟩ := ldcOH X77 hx hZ77 hown77 (W_ hw 73 rfl) (own_wS hw) e77 hS77 hk77 hEL hR78.1 (g := (mkF m 141 #[iv x1, iv x2, iv x3, iv x4, rv bs1, rv bs3, iv mo, iv (1 : Int32), rv r67, iv wh, .val .null, u_, u_] [(.ref b77), (.ref b74), (.ref b74), (.ref b71), (.ref b71)])) rfl (hb hby at_141) (n := 4) (by decide) (by decide) (by decide) (by decide)
          have hq80 := hC79
          have hR80 := CHr.trans hR78 hq80
          refine Goes.via (B := T79.setTop (mkF m 143 #[iv x1, iv x2, iv x3, iv x4, rv bs1, rv bs3, iv mo, iv (1 : Int32), rv r67, iv wh, .val .null, u_, u_] [(.ref b79), (.ref b77), (.ref b74), (.ref b74), (.ref b71), (.ref b71)])) (fun t k => st79 _ k) ?_
          obtain ⟨_, T81, L81, X81, ⟨rfl, M81, K81⟩, st81⟩ := callInit X79 hx hZ79 rfl hown79 (W_ hw 74 rfl) (W_ hw 75 rfl) (W_ hw 71 rfl) (W_ hw 76 rfl) (by decide) (argsL := [(.ref b77), (.ref b79)]) (rest := [(.ref b74), (.ref b71), (.ref b71)]) (own_m19 l Z a0 hw [] b74 b77 b79 h79 n0 (((((((O0.keep K1 all0).keep K3 all0).keep K67 all0).ext E71).ext E74).ext E77).ext E79) gn74 ((A74.ext E77).ext E79) ((F74_id.ext E77).ext E79) ((F74_token.ext E77).ext E79)) e79 (lenOf own_pd14 rfl) (pc := 143) (Ls := #[iv x1, iv x2, iv x3, iv x4, rv bs1, rv bs3, iv mo, iv (1 : Int32), rv r67, iv wh, .val .null, u_, u_]) (st := [(.ref b79), (.ref b77), (.ref b74), (.ref b74), (.ref b71), (.ref b71)]) rfl (by rw [hml]; rfl) (hb hby at_143) (W := 3) (Nat.le_of_eq rfl) (by decide) (by decide) (by decide) (by decide)
          have N81 := Fr.app N67 M81
          have hq82 := CHr.keep K81 (sfS (CHr.safe hq80 (Nat.le_trans A74.lt E77.1) (CHr.safe hq78 A74.lt sf76)) sf0) hR80.1
          have hR82 := CHr.trans hR80 hq82
          refine Goes.via (B := T81.setTop (mkF m 146 #[iv x1, iv x2, iv x3, iv x4, rv bs1, rv bs3, iv mo, iv (1 : Int32), rv r67, iv wh, .val .null, u_, u_] [(.ref b74), (.ref b71), (.ref b71)])) (fun t k => st81 _ k) ?_
          refine Gv T81 148 [(.ref r67), (.ref b74), (.ref b71), (.ref b71)] (fun t k => XS.aload X81.here hx rfl (hb hby at_146) rfl rfl k) ?_
          refine Gv T81 149 [(.int x4), (.ref r67), (.ref b74), (.ref b71), (.ref b71)] (fun t k => XS.iloadN X81.here hx rfl (hb hby at_148) rfl k) ?_
          refine Gv T81 150 [(.int (4 : Int32)), (.int x4), (.ref r67), (.ref b74), (.ref b71), (.ref b71)] (fun t k => XS.iconst X81.here hx rfl (hb hby at_149) k) ?_
          refine Gv T81 151 [(.int ((x4.toUInt32 >>> ((4 : Int32) &&& 31).toUInt32).toInt32)), (.ref r67), (.ref b74), (.ref b71), (.ref b71)] (fun t k => XS.iushr X81.here hx rfl (hb hby at_150) rfl k) ?_
          refine Gv T81 152 [(.int (1 : Int32)), (.int ((x4.toUInt32 >>> ((4 : Int32) &&& 31).toUInt32).toInt32)), (.ref r67), (.ref b74), (.ref b71), (.ref b71)] (fun t k => XS.iconst X81.here hx rfl (hb hby at_151) k) ?_
          refine Gv T81 153 [(.int (((x4.toUInt32 >>> ((4 : Int32) &&& 31).toUInt32).toInt32) &&& (1 : Int32))), (.ref r67), (.ref b74), (.ref b71), (.ref b71)] (fun t k => XS.iand X81.here hx rfl (hb hby at_152) rfl k) ?_
          have j83 : ∀ (rb : Int32) (hrb : rb = 0 ∨ rb = 1) , Goes p.tables e below (fun t o => ∃ v L, o = .returned v ∧ (own_Q29 Z x1 x2 x3 x4 z0 em es h0 n0) v t.heap L ∧ EndH Z consts_1 s o t L (room_1).cells (room_1).slots) (T81.setTop (mkF m 161 #[iv x1, iv x2, iv x3, iv x4, rv bs1, rv bs3, iv mo, iv (1 : Int32), rv r67, iv wh, .val .null, u_, u_] [(.int rb), (.ref r67), (.ref b74), (.ref b71), (.ref b71)])) := by
            intro rb hrb
            have c86 : Fld Z T81.heap b71 "com/example/baskit/baskit/ClientSide" "keys" "Lcom/example/baskit/baskit/Keys;" .null := ((((F71_keys.ext E74).ext E77).ext E79).keep K81 (ninS (Nat.ne_of_lt (Nat.lt_of_lt_of_le A71.lt (Nat.le_of_eq g74.symm))) nin0))
            have c87 : Fld Z T81.heap b71 "com/example/baskit/baskit/ClientSide" "origins" "Ljava/util/Set;" .null := ((((F71_origins.ext E74).ext E77).ext E79).keep K81 (ninS (Nat.ne_of_lt (Nat.lt_of_lt_of_le A71.lt (Nat.le_of_eq g74.symm))) nin0))
            have c88 : Fld Z T81.heap b71 "com/example/baskit/baskit/ClientSide" "redeems" "Z" (.int (0 : Int32)) := ((((F71_redeems.ext E74).ext E77).ext E79).keep K81 (ninS (Nat.ne_of_lt (Nat.lt_of_lt_of_le A71.lt (Nat.le_of_eq g74.symm))) nin0))
            obtain ⟨_, T85, L85, X85, ⟨rfl, M85, K85, f85_0, f85_1⟩, st85⟩ := callInit X81 hx hZ79 rfl hown79 (W_ hw 82 rfl) (W_ hw 83 rfl) (W_ hw 68 rfl) (W_ hw 84 rfl) (by decide) (argsL := [(.ref b74), (.ref r67), (.int rb)]) (rest := [(.ref b71)]) (own_m20 l Z a0 hw [] b71 b74 r67 rb T81.heap n0 ((((((((O0.keep K1 all0).keep K3 all0).keep K67 all0).ext E71).ext E74).ext E77).ext E79).keep K81 (allS gn74 all0)) hrb gn71 ((((A71.ext E74).ext E77).ext E79).keep K81) c86 c87 c88 (((((f67_0.ext E71).ext E74).ext E77).ext E79).keep K81)) rfl (lenOf own_pd15 rfl) (pc := 161) (Ls := #[iv x1, iv x2, iv x3, iv x4, rv bs1, rv bs3, iv mo, iv (1 : Int32), rv r67, iv wh, .val .null, u_, u_]) (st := [(.int rb), (.ref r67), (.ref b74), (.ref b71), (.ref b71)]) rfl (by rw [hml]; rfl) (hb hby at_161) (W := 1) (Nat.le_of_eq rfl) (by decide) (by decide) (by decide) (by decide)
            have N85 := Fr.app N81 M85
            have hq89 := CHr.keep K85 (sfS (CHr.safe hq82 (Nat.le_trans (Nat.le_trans (Nat.le_trans A71.lt E74.1) E77.1) E79.1) (CHr.safe hq80 (Nat.le_trans (Nat.le_trans A71.lt E74.1) E77.1) (CHr.safe hq78 (Nat.le_trans A71.lt E74.1) (CHr.safe hq75 A71.lt sf73)))) sf0) hR82.1
            have hR89 := CHr.trans hR82 hq89
            refine Goes.via (B := T85.setTop (mkF m 164 #[iv x1, iv x2, iv x3, iv x4, rv bs1, rv bs3, iv mo, iv (1 : Int32), rv r67, iv wh, .val .null, u_, u_] [(.ref b71)])) (fun t k => st85 _ k) ?_
            refine Gv T85 166 [] (fun t k => XS.astore X85.here hx rfl (hb hby at_164) rfl rfl (l' := #[iv x1, iv x2, iv x3, iv x4, rv bs1, rv bs3, iv mo, iv (1 : Int32), rv r67, iv wh, .val .null, rv b71, u_]) rfl k) ?_
            refine Gv T85 168 [.null] (fun t k => XS.aload X85.here hx rfl (hb hby at_166) rfl rfl k) ?_
            refine Gv T85 176 [] (fun t k => XS.ifnullYes X85.here hx rfl (pc0 := 168) (pc' := 176) rfl (hb hby at_168) rfl (by decide) (by decide) k) ?_
            refine Gv T85 177 [(.int (0 : Int32))] (fun t k => XS.iconst X85.here hx rfl (hb hby at_176) k) ?_
            refine Gv T85 179 [] (fun t k => XS.istore X85.here hx rfl (hb hby at_177) rfl (l' := #[iv x1, iv x2, iv x3, iv x4, rv bs1, rv bs3, iv mo, iv (1 : Int32), rv r67, iv wh, .val .null, rv b71, iv (0 : Int32)]) rfl k) ?_
            refine Gv T85 226 [] (fun t k => XS.goto X85.here hx rfl (pc0 := 179) (pc' := 226) rfl (hb hby at_179) (by decide) (by decide) k) ?_
            refine Gv T85 228 [(.ref b71)] (fun t k => XS.aload X85.here hx rfl (hb hby at_226) rfl rfl k) ?_
            refine Gv T85 230 [.null, (.ref b71)] (fun t k => XS.aload X85.here hx rfl (hb hby at_228) rfl rfl k) ?_
            obtain ⟨_, T90, L90, X90, ⟨rfl, M90, K90⟩, st90⟩ := callVirt X85 hx hZ79 hown79 (W_ hw 98 rfl) (W_ hw 99 rfl) (W_ hw 101 rfl) (notFace_of_selects (args := #[]) (mvT hZ79 (W_ hw 101 rfl))) (W_ hw 100 rfl) (W_ hw 68 rfl) (W_ hw 102 rfl) (by decide) (argsL := [.null]) (rest := []) (own_m25 l Z a0 hw [] b71 T85.heap n0 (((((((((O0.keep K1 all0).keep K3 all0).keep K67 all0).ext E71).ext E74).ext E77).ext E79).keep K81 (allS gn74 all0)).keep K85 (allS gn71 all0)) ) rfl f85_0 (lenOf own_pd16 rfl) (pc := 230) (Ls := #[iv x1, iv x2, iv x3, iv x4, rv bs1, rv bs3, iv mo, iv (1 : Int32), rv r67, iv wh, .val .null, rv b71, iv (0 : Int32)]) (st := [.null, (.ref b71)]) rfl (by rw [hml]; rfl) (hb hby at_230) (W := 0) (Nat.le_of_eq rfl) (by decide) (by decide) (by decide) (by decide)
            have N90 := Fr.app N85 M90
            refine Goes.via (B := T90.setTop (mkF m 233 #[iv x1, iv x2, iv x3, iv x4, rv bs1, rv bs3, iv mo, iv (1 : Int32), rv r67, iv wh, .val .null, rv b71, iv (0 : Int32)] [(.int (0 : Int32))])) (fun t k => st90 _ k) ?_
            refine Gv T90 235 [(.int (0 : Int32)), (.int (0 : Int32))] (fun t k => XS.iload X90.here hx rfl (hb hby at_233) rfl k) ?_
            refine Gv T90 238 [] (fun t k => XS.icmpNo X90.here hx rfl (hb hby at_235) rfl (XT.ii_ne_f rfl) k) ?_
            refine Gv T90 239 [(.int (1 : Int32))] (fun t k => XS.iconst X90.here hx rfl (hb hby at_238) k) ?_
            refine Gv T90 243 [(.int (1 : Int32))] (fun t k => XS.goto X90.here hx rfl (pc0 := 239) (pc' := 243) rfl (hb hby at_239) (by decide) (by decide) k) ?_
            exact finN (Q := (own_Q29 Z x1 x2 x3 x4 z0 em es h0 n0)) (F := EndH Z consts_1) (C := (room_1).cells) (S := (room_1).slots) X90 hx (t := .boolean) Bd.returns (by simp) (z' := (1 : Int32)) rfl (hb hby at_243) K90 ⟨rfl, N90, trivial⟩ (lvH X90 hlk hS79 K90 (Nat.le_trans (Nat.le_trans hk79 K81.1) K85.1) hZ79 hEL hR89 (by decide) (by decide))
          by_cases b91 : (((x4.toUInt32 >>> ((4 : Int32) &&& 31).toUInt32).toInt32) &&& (1 : Int32)) = (0 : Int32)
          · refine Gv T81 160 [(.ref r67), (.ref b74), (.ref b71), (.ref b71)] (fun t k => XS.ifYes X81.here hx rfl (pc0 := 153) (pc' := 160) rfl (hb hby at_153) rfl (XT.i0_eq_t b91) (by decide) (by decide) k) ?_
            refine Gv T81 161 [(.int (0 : Int32)), (.ref r67), (.ref b74), (.ref b71), (.ref b71)] (fun t k => XS.iconst X81.here hx rfl (hb hby at_160) k) ?_
            exact j83 (0 : Int32) (Or.inl rfl)
          · refine Gv T81 156 [(.ref r67), (.ref b74), (.ref b71), (.ref b71)] (fun t k => XS.ifNo X81.here hx rfl (hb hby at_153) rfl (XT.i0_eq_f b91) k) ?_
            refine Gv T81 157 [(.int (1 : Int32)), (.ref r67), (.ref b74), (.ref b71), (.ref b71)] (fun t k => XS.iconst X81.here hx rfl (hb hby at_156) k) ?_
            refine Gv T81 161 [(.int (1 : Int32)), (.ref r67), (.ref b74), (.ref b71), (.ref b71)] (fun t k => XS.goto X81.here hx rfl (pc0 := 157) (pc' := 161) rfl (hb hby at_157) (by decide) (by decide) k) ?_
            exact j83 (1 : Int32) (Or.inr rfl)
        · refine Gv T67 95 [] (fun t k => XS.ifYes X67.here hx rfl (pc0 := 86) (pc' := 95) rfl (hb hby at_86) rfl (XT.i0_ne_t b70) (by decide) (by decide) k) ?_
          refine Gv T67 97 [(.int wh)] (fun t k => XS.iload X67.here hx rfl (hb hby at_95) rfl k) ?_
          refine Gv T67 98 [(.int (1 : Int32)), (.int wh)] (fun t k => XS.iconst X67.here hx rfl (hb hby at_97) k) ?_
          have j92 : ∀ (T93 : State) (lc93 : List Loc) (h93 : Heap) (X93 : Stand p l e room_1 (s.setVm T93.vm) m #[(.int x1), (.int x2), (.int x3), (.int x4)] below meth c T93 lc93 19 38) (e93 : T93.heap = h93) (N93 : Fr n0 lc93) (hS93 : s.Since T93.vm h93.size) (hZ93 : Z.Warmed39 T93.vm) (hown93 : T93.vm.findClass "com/example/baskit/baskit/ClientSideAllowsPinLaw" = some m.cls) (hR93 : CHr Z consts_1 s.vm s.heap T93.vm h93) (oa : Addr) (ot : Addr) (ok_ : ClassId) (co : List Int32) (O93 : Old Z n0 h93) (F93_0 : Exa Z h93 bs1 "java/lang/String") (F93_1 : Fld Z h93 bs1 "java/lang/String" "value" "[B" (.ref ts1)) (F93_2 : Fld Z h93 bs1 "java/lang/String" "coder" "B" (.int (0 : Int32))) (F93_3 : Arv Z h93 ts1 ks1 .byte (Int32.ofNat (own_cs x1).length) (((own_cs x1).map StrChars.lo8).map Value.int) (.int 0)) (F93_4 : Exa Z h93 bs3 "java/lang/String") (F93_5 : Fld Z h93 bs3 "java/lang/String" "value" "[B" (.ref ts3)) (F93_6 : Fld Z h93 bs3 "java/lang/String" "coder" "B" (.int (0 : Int32))) (F93_7 : Arv Z h93 ts3 ks3 .byte (Int32.ofNat (own_cs x2).length) (((own_cs x2).map StrChars.lo8).map Value.int) (.int 0)) (F93_8 : Exa Z h93 r67 "java/util/ImmutableCollections$Set12") (F93_9 : Fld Z h93 r67 "java/util/ImmutableCollections$Set12" "e0" "Ljava/lang/Object;" (.ref bs1)) (F93_10 : Fld Z h93 r67 "java/util/ImmutableCollections$Set12" "e1" "Ljava/lang/Object;" (.ref em)) (F93_11 : Exa Z h93 oa "java/lang/String") (F93_12 : Fld Z h93 oa "java/lang/String" "value" "[B" (.ref ot)) (F93_13 : Fld Z h93 oa "java/lang/String" "coder" "B" (.int (0 : Int32))) (F93_14 : Arv Z h93 ot ok_ .byte (Int32.ofNat co.length) ((co.map StrChars.lo8).map Value.int) (.int 0)) (hco : ∀ c ∈ co, ¬ c < 0 ∧ ¬ (255 : Int32) < c) (lco : co.length ≤ 4000) (gno : n0 ≤ oa) , Goes p.tables e below (fun t o => ∃ v L, o = .returned v ∧ (own_Q29 Z x1 x2 x3 x4 z0 em es h0 n0) v t.heap L ∧ EndH Z consts_1 s o t L (room_1).cells (room_1).slots) (T93.setTop (mkF m 131 #[iv x1, iv x2, iv x3, iv x4, rv bs1, rv bs3, iv mo, iv (1 : Int32), rv r67, iv wh, rv oa, u_, u_] [])) := by
            intro T93 lc93 h93 X93 e93 N93 hS93 hZ93 hown93 hR93 oa ot ok_ co O93 F93_0 F93_1 F93_2 F93_3 F93_4 F93_5 F93_6 F93_7 F93_8 F93_9 F93_10 F93_11 F93_12 F93_13 F93_14 hco lco gno
            obtain ⟨T94, h94, X94, e94, E94, A94, D94, U94, st94⟩ := newO X93 hx hZ93 hown93 (W_ hw 66 rfl) (W_ hw 67 rfl) (W_ hw 68 rfl) e93 (g := (mkF m 131 #[iv x1, iv x2, iv x3, iv x4, rv bs1, rv bs3, iv mo, iv (1 : Int32), rv r67, iv wh, rv oa, u_, u_] [])) rfl (hb hby at_131) (by decide) (by decide)
            obtain ⟨b94, g94⟩ : ∃ z, z = h93.size := ⟨_, rfl⟩
            rw [← g94] at A94 D94 U94 st94
            have gn94 : n0 ≤ b94 := Nat.le_trans (old_le O93) (Nat.le_of_eq g94.symm)
            have hq95 := CHr.ext E94 hR93.1
            have hR95 := CHr.trans hR93 hq95
            have sf96 := Safe.ext E94 hR93.1 (Safe.new (Nat.le_of_eq g94.symm))
            have F94_keys : Fld Z h94 b94 "com/example/baskit/baskit/ClientSide" "keys" "Lcom/example/baskit/baskit/Keys;" .null := D94 (Or.inr (W_ hw 87 rfl)) (ty := (.object "com/example/baskit/baskit/Keys")) (by decide)
            have F94_origins : Fld Z h94 b94 "com/example/baskit/baskit/ClientSide" "origins" "Ljava/util/Set;" .null := D94 (Or.inr (W_ hw 95 rfl)) (ty := (.object "java/util/Set")) (by decide)
            have F94_redeems : Fld Z h94 b94 "com/example/baskit/baskit/ClientSide" "redeems" "Z" (.int (0 : Int32)) := D94 (Or.inr (W_ hw 97 rfl)) (ty := .boolean) (by decide)
            refine Goes.via (B := T94.setTop (mkF m 134 #[iv x1, iv x2, iv x3, iv x4, rv bs1, rv bs3, iv mo, iv (1 : Int32), rv r67, iv wh, rv oa, u_, u_] [(.ref b94)])) (fun t k => st94 _ k) ?_
            refine Gv T94 135 [(.ref b94), (.ref b94)] (fun t k => XS.dup X94.here hx rfl (hb hby at_134) rfl rfl k) ?_
            obtain ⟨T97, h97, X97, e97, E97, A97, D97, U97, st97⟩ := newO X94 hx hZ93 hown93 (W_ hw 69 rfl) (W_ hw 70 rfl) (W_ hw 71 rfl) e94 (g := (mkF m 135 #[iv x1, iv x2, iv x3, iv x4, rv bs1, rv bs3, iv mo, iv (1 : Int32), rv r67, iv wh, rv oa, u_, u_] [(.ref b94), (.ref b94)])) rfl (hb hby at_135) (by decide) (by decide)
            obtain ⟨b97, g97⟩ : ∃ z, z = h94.size := ⟨_, rfl⟩
            rw [← g97] at A97 D97 U97 st97
            have gn97 : n0 ≤ b97 := Nat.le_trans (old_le (O93.ext E94)) (Nat.le_of_eq g97.symm)
            have hq98 := CHr.ext E97 hR95.1
            have hR98 := CHr.trans hR95 hq98
            have sf99 := Safe.ext E97 hR95.1 (Safe.new (Nat.le_of_eq g97.symm))
            have F97_id : Fld Z h97 b97 "com/example/baskit/baskit/Keys" "id" "Ljava/lang/String;" .null := D97 (Or.inr (W_ hw 79 rfl)) (ty := (.object "java/lang/String")) (by decide)
            have F97_token : Fld Z h97 b97 "com/example/baskit/baskit/Keys" "token" "Ljava/lang/String;" .null := D97 (Or.inr (W_ hw 81 rfl)) (ty := (.object "java/lang/String")) (by decide)
            refine Goes.via (B := T97.setTop (mkF m 138 #[iv x1, iv x2, iv x3, iv x4, rv bs1, rv bs3, iv mo, iv (1 : Int32), rv r67, iv wh, rv oa, u_, u_] [(.ref b97), (.ref b94), (.ref b94)])) (fun t k => st97 _ k) ?_
            refine Gv T97 139 [(.ref b97), (.ref b97), (.ref b94), (.ref b94)] (fun t k => XS.dup X97.here hx rfl (hb hby at_138) rfl rfl k) ?_
            obtain ⟨b100, T100, h100, k100, X100, e100, E100, hS100, hk100, hZ100, hown100, hC100, -, st100⟩ := ldcOH X97 hx hZ93 hown93 (W_ hw 72 rfl) (own_wS hw) e97 hS93 (Nat.le_trans (Nat.le_trans (Nat.le_refl _) E94.1) E97.1) hEL hR98.1 (g := (mkF m 139 #[iv x1, iv x2, iv x3, iv x4, rv bs1, rv bs3, iv mo, iv (1 : Int32), rv r67, iv wh, rv oa, u_, u_] [(.ref b97), (.ref b97), (.ref b94), (.ref b94)])) rfl (hb hby at_139) (n := 4) (by decide) (by decide) (by decide) (by decide)
            have hq101 := hC100
            have hR101 := CHr.trans hR98 hq101
            refine Goes.via (B := T100.setTop (mkF m 141 #[iv x1, iv x2, iv x3, iv x4, rv bs1, rv bs3, iv mo, iv (1 : Int32), rv r67, iv wh, rv oa, u_, u_] [(.ref b100), (.ref b97), (.ref b97), (.ref b94), (.ref b94)])) (fun t k => st100 _ k) ?_
            obtain ⟨b102, T102, h102, k102, X102, e102, E102, hS102, hk102, hZ102, hown102, hC102, -, st102⟩ := ldcOH X100 hx hZ100 hown100 (W_ hw 73 rfl) (own_wS hw) e100 hS100 hk100 hEL hR101.1 (g := (mkF m 141 #[iv x1, iv x2, iv x3, iv x4, rv bs1, rv bs3, iv mo, iv (1 : Int32), rv r67, iv wh, rv oa, u_, u_] [(.ref b100), (.ref b97), (.ref b97), (.ref b94), (.ref b94)])) rfl (hb hby at_141) (n := 4) (by decide) (by decide) (by decide) (by decide)
            have hq103 := hC102
            have hR103 := CHr.trans hR101 hq103
            refine Goes.via (B := T102.setTop (mkF m 143 #[iv x1, iv x2, iv x3, iv x4, rv bs1, rv bs3, iv mo, iv (1 : Int32), rv r67, iv wh, rv oa, u_, u_] [(.ref b102), (.ref b100), (.ref b97), (.ref b97), (.ref b94), (.ref b94)])) (fun t k => st102 _ k) ?_
            obtain ⟨_, T104, L104, X104, ⟨rfl, M104, K104⟩, st104⟩ := callInit X102 hx hZ102 rfl hown102 (W_ hw 74 rfl) (W_ hw 75 rfl) (W_ hw 71 rfl) (W_ hw 76 rfl) (by decide) (argsL := [(.ref b100), (.ref b102)]) (rest := [(.ref b97), (.ref b94), (.ref b94)]) (own_m19 l Z a0 hw [] b97 b100 b102 h102 n0 ((((O93.ext E94).ext E97).ext E100).ext E102) gn97 ((A97.ext E100).ext E102) ((F97_id.ext E100).ext E102) ((F97_token.ext E100).ext E102)) e102 (lenOf own_pd14 rfl) (pc := 143) (Ls := #[iv x1, iv x2, iv x3, iv x4, rv bs1, rv bs3, iv mo, iv (1 : Int32), rv r67, iv wh, rv oa, u_, u_]) (st := [(.ref b102), (.ref b100), (.ref b97), (.ref b97), (.ref b94), (.ref b94)]) rfl (by rw [hml]; rfl) (hb hby at_143) (W := 3) (Nat.le_of_eq rfl) (by decide) (by decide) (by decide) (by decide)
            have N104 := Fr.app N93 M104
            have hq105 := CHr.keep K104 (sfS (CHr.safe hq103 (Nat.le_trans A97.lt E100.1) (CHr.safe hq101 A97.lt sf99)) sf0) hR103.1
            have hR105 := CHr.trans hR103 hq105
            refine Goes.via (B := T104.setTop (mkF m 146 #[iv x1, iv x2, iv x3, iv x4, rv bs1, rv bs3, iv mo, iv (1 : Int32), rv r67, iv wh, rv oa, u_, u_] [(.ref b97), (.ref b94), (.ref b94)])) (fun t k => st104 _ k) ?_
            refine Gv T104 148 [(.ref r67), (.ref b97), (.ref b94), (.ref b94)] (fun t k => XS.aload X104.here hx rfl (hb hby at_146) rfl rfl k) ?_
            refine Gv T104 149 [(.int x4), (.ref r67), (.ref b97), (.ref b94), (.ref b94)] (fun t k => XS.iloadN X104.here hx rfl (hb hby at_148) rfl k) ?_
            refine Gv T104 150 [(.int (4 : Int32)), (.int x4), (.ref r67), (.ref b97), (.ref b94), (.ref b94)] (fun t k => XS.iconst X104.here hx rfl (hb hby at_149) k) ?_
            refine Gv T104 151 [(.int ((x4.toUInt32 >>> ((4 : Int32) &&& 31).toUInt32).toInt32)), (.ref r67), (.ref b97), (.ref b94), (.ref b94)] (fun t k => XS.iushr X104.here hx rfl (hb hby at_150) rfl k) ?_
            refine Gv T104 152 [(.int (1 : Int32)), (.int ((x4.toUInt32 >>> ((4 : Int32) &&& 31).toUInt32).toInt32)), (.ref r67), (.ref b97), (.ref b94), (.ref b94)] (fun t k => XS.iconst X104.here hx rfl (hb hby at_151) k) ?_
            refine Gv T104 153 [(.int (((x4.toUInt32 >>> ((4 : Int32) &&& 31).toUInt32).toInt32) &&& (1 : Int32))), (.ref r67), (.ref b97), (.ref b94), (.ref b94)] (fun t k => XS.iand X104.here hx rfl (hb hby at_152) rfl k) ?_
            have j106 : ∀ (rb : Int32) (hrb : rb = 0 ∨ rb = 1) , Goes p.tables e below (fun t o => ∃ v L, o = .returned v ∧ (own_Q29 Z x1 x2 x3 x4 z0 em es h0 n0) v t.heap L ∧ EndH Z consts_1 s o t L (room_1).cells (room_1).slots) (T104.setTop (mkF m 161 #[iv x1, iv x2, iv x3, iv x4, rv bs1, rv bs3, iv mo, iv (1 : Int32), rv r67, iv wh, rv oa, u_, u_] [(.int rb), (.ref r67), (.ref b97), (.ref b94), (.ref b94)])) := by
              intro rb hrb
              have c109 : Fld Z T104.heap b94 "com/example/baskit/baskit/ClientSide" "keys" "Lcom/example/baskit/baskit/Keys;" .null := ((((F94_keys.ext E97).ext E100).ext E102).keep K104 (ninS (Nat.ne_of_lt (Nat.lt_of_lt_of_le A94.lt (Nat.le_of_eq g97.symm))) nin0))
              have c110 : Fld Z T104.heap b94 "com/example/baskit/baskit/ClientSide" "origins" "Ljava/util/Set;" .null := ((((F94_origins.ext E97).ext E100).ext E102).keep K104 (ninS (Nat.ne_of_lt (Nat.lt_of_lt_of_le A94.lt (Nat.le_of_eq g97.symm))) nin0))
              have c111 : Fld Z T104.heap b94 "com/example/baskit/baskit/ClientSide" "redeems" "Z" (.int (0 : Int32)) := ((((F94_redeems.ext E97).ext E100).ext E102).keep K104 (ninS (Nat.ne_of_lt (Nat.lt_of_lt_of_le A94.lt (Nat.le_of_eq g97.symm))) nin0))
              obtain ⟨_, T108, L108, X108, ⟨rfl, M108, K108, f108_0, f108_1⟩, st108⟩ := callInit X104 hx hZ102 rfl hown102 (W_ hw 82 rfl) (W_ hw 83 rfl) (W_ hw 68 rfl) (W_ hw 84 rfl) (by decide) (argsL := [(.ref b97), (.ref r67), (.int rb)]) (rest := [(.ref b94)]) (own_m20 l Z a0 hw [] b94 b97 r67 rb T104.heap n0 (((((O93.ext E94).ext E97).ext E100).ext E102).keep K104 (allS gn97 all0)) hrb gn94 ((((A94.ext E97).ext E100).ext E102).keep K104) c109 c110 c111 (((((F93_8.ext E94).ext E97).ext E100).ext E102).keep K104)) rfl (lenOf own_pd15 rfl) (pc := 161) (Ls := #[iv x1, iv x2, iv x3, iv x4, rv bs1, rv bs3, iv mo, iv (1 : Int32), rv r67, iv wh, rv oa, u_, u_]) (st := [(.int rb), (.ref r67), (.ref b97), (.ref b94), (.ref b94)]) rfl (by rw [hml]; rfl) (hb hby at_161) (W := 1) (Nat.le_of_eq rfl) (by decide) (by decide) (by decide) (by decide)
              have N108 := Fr.app N104 M108
              have hq112 := CHr.keep K108 (sfS (CHr.safe hq105 (Nat.le_trans (Nat.le_trans (Nat.le_trans A94.lt E97.1) E100.1) E102.1) (CHr.safe hq103 (Nat.le_trans (Nat.le_trans A94.lt E97.1) E100.1) (CHr.safe hq101 (Nat.le_trans A94.lt E97.1) (CHr.safe hq98 A94.lt sf96)))) sf0) hR105.1
              have hR112 := CHr.trans hR105 hq112
              refine Goes.via (B := T108.setTop (mkF m 164 #[iv x1, iv x2, iv x3, iv x4, rv bs1, rv bs3, iv mo, iv (1 : Int32), rv r67, iv wh, rv oa, u_, u_] [(.ref b94)])) (fun t k => st108 _ k) ?_
              refine Gv T108 166 [] (fun t k => XS.astore X108.here hx rfl (hb hby at_164) rfl rfl (l' := #[iv x1, iv x2, iv x3, iv x4, rv bs1, rv bs3, iv mo, iv (1 : Int32), rv r67, iv wh, rv oa, rv b94, u_]) rfl k) ?_
              refine Gv T108 168 [(.ref oa)] (fun t k => XS.aload X108.here hx rfl (hb hby at_166) rfl rfl k) ?_
              refine Gv T108 171 [] (fun t k => XS.ifnullNo X108.here hx rfl (hb hby at_168) rfl k) ?_
              refine Gv T108 173 [(.int mo)] (fun t k => XS.iload X108.here hx rfl (hb hby at_171) rfl k) ?_
              refine Gv T108 182 [] (fun t k => XS.ifYes X108.here hx rfl (pc0 := 173) (pc' := 182) rfl (hb hby at_173) rfl (XT.i0_ne_t b8) (by decide) (by decide) k) ?_
              refine Gv T108 184 [(.int (1 : Int32))] (fun t k => XS.iload X108.here hx rfl (hb hby at_182) rfl k) ?_
              refine Gv T108 187 [] (fun t k => XS.ifNo X108.here hx rfl (hb hby at_184) rfl (XT.i0_eq_f (by decide)) k) ?_
              refine Gv T108 189 [(.ref oa)] (fun t k => XS.aload X108.here hx rfl (hb hby at_187) rfl rfl k) ?_
              refine Gv T108 191 [(.ref bs1), (.ref oa)] (fun t k => XS.aload X108.here hx rfl (hb hby at_189) rfl rfl k) ?_
              have c113 : Exa Z T108.heap oa "java/lang/String" := ((((((F93_11.ext E94).ext E97).ext E100).ext E102).keep K104).keep K108)
              have c114 : Fld Z T108.heap oa "java/lang/String" "value" "[B" (.ref ot) := ((((((F93_12.ext E94).ext E97).ext E100).ext E102).keep K104 (ninS (Nat.ne_of_lt (Nat.lt_of_lt_of_le (Nat.le_trans F93_11.lt E94.1) (Nat.le_of_eq g97.symm))) nin0)).keep K108 (ninS (Nat.ne_of_lt (Nat.lt_of_lt_of_le F93_11.lt (Nat.le_of_eq g94.symm))) nin0))
              have c115 : Fld Z T108.heap oa "java/lang/String" "coder" "B" (.int (0 : Int32)) := ((((((F93_13.ext E94).ext E97).ext E100).ext E102).keep K104 (ninS (Nat.ne_of_lt (Nat.lt_of_lt_of_le (Nat.le_trans F93_11.lt E94.1) (Nat.le_of_eq g97.symm))) nin0)).keep K108 (ninS (Nat.ne_of_lt (Nat.lt_of_lt_of_le F93_11.lt (Nat.le_of_eq g94.symm))) nin0))
              have c116 : Arv Z T108.heap ot ok_ .byte (Int32.ofNat co.length) ((co.map StrChars.lo8).map Value.int) (.int 0) := ((((((F93_14.ext E94).ext E97).ext E100).ext E102).keep K104 (ninS (Nat.ne_of_lt (Nat.lt_of_lt_of_le (Nat.le_trans F93_14.lt E94.1) (Nat.le_of_eq g97.symm))) nin0)).keep K108 (ninS (Nat.ne_of_lt (Nat.lt_of_lt_of_le F93_14.lt (Nat.le_of_eq g94.symm))) nin0))
              have c117 : Exa Z T108.heap bs1 "java/lang/String" := ((((((F93_0.ext E94).ext E97).ext E100).ext E102).keep K104).keep K108)
              have c118 : Fld Z T108.heap bs1 "java/lang/String" "value" "[B" (.ref ts1) := ((((((F93_1.ext E94).ext E97).ext E100).ext E102).keep K104 (ninS (Nat.ne_of_lt (Nat.lt_of_lt_of_le (Nat.le_trans F93_0.lt E94.1) (Nat.le_of_eq g97.symm))) nin0)).keep K108 (ninS (Nat.ne_of_lt (Nat.lt_of_lt_of_le F93_0.lt (Nat.le_of_eq g94.symm))) nin0))
              have c119 : Fld Z T108.heap bs1 "java/lang/String" "coder" "B" (.int (0 : Int32)) := ((((((F93_2.ext E94).ext E97).ext E100).ext E102).keep K104 (ninS (Nat.ne_of_lt (Nat.lt_of_lt_of_le (Nat.le_trans F93_0.lt E94.1) (Nat.le_of_eq g97.symm))) nin0)).keep K108 (ninS (Nat.ne_of_lt (Nat.lt_of_lt_of_le F93_0.lt (Nat.le_of_eq g94.symm))) nin0))
              have c120 : Arv Z T108.heap ts1 ks1 .byte (Int32.ofNat (own_cs x1).length) (((own_cs x1).map StrChars.lo8).map Value.int) (.int 0) := ((((((F93_3.ext E94).ext E97).ext E100).ext E102).keep K104 (ninS (Nat.ne_of_lt (Nat.lt_of_lt_of_le (Nat.le_trans F93_3.lt E94.1) (Nat.le_of_eq g97.symm))) nin0)).keep K108 (ninS (Nat.ne_of_lt (Nat.lt_of_lt_of_le F93_3.lt (Nat.le_of_eq g94.symm))) nin0))
              obtain ⟨_, T121, L121, X121, ⟨rfl, M121, K121⟩, st121⟩ := callVirtB X108 hx hZ102 hown102 (W_ hw 103 rfl) (W_ hw 104 rfl) (W_ hw 106 rfl) (notFace_of_selects (args := #[]) (mvT hZ102 (W_ hw 106 rfl))) (W_ hw 105 rfl) (by decide) (argsL := [(.ref bs1)]) (rest := []) (W := 0) (own_eqI (s := (s.setVm T102.vm)) (W := 0) hZ102 (own_hw_wordsEq hw) (W_ hw 5 rfl) (x := oa) (cs := co) c113 c114 c115 c116 hco lco (y := bs1) (ds := (own_cs x1)) c117 c118 c119 c120 (own_csr x1) (own_csl x1) (Sta.ext ((((((O93.ext E94).ext E97).ext E100).ext E102).keep K104 (allS gn97 all0)).keep K108 (allS gn94 all0)).2 O_1) hz0 n0 (by decide) (by decide)) rfl c113 (lenOf own_pd9 rfl) (pc := 191) (Ls := #[iv x1, iv x2, iv x3, iv x4, rv bs1, rv bs3, iv mo, iv (1 : Int32), rv r67, iv wh, rv oa, rv b94, u_]) (st := [(.ref bs1), (.ref oa)]) rfl (by rw [hml]; rfl) (hb hby at_191) (Nat.le_of_eq rfl) (by decide) (by decide)
              have N121 := Fr.app N108 M121
              refine Goes.via (B := T121.setTop (mkF m 194 #[iv x1, iv x2, iv x3, iv x4, rv bs1, rv bs3, iv mo, iv (1 : Int32), rv r67, iv wh, rv oa, rv b94, u_] [(.int (own_eq co (own_cs x1)))])) (fun t k => st121 _ k) ?_
              refine Gv T121 196 [] (fun t k => XS.istore X121.here hx rfl (hb hby at_194) rfl (l' := #[iv x1, iv x2, iv x3, iv x4, rv bs1, rv bs3, iv mo, iv (1 : Int32), rv r67, iv wh, rv oa, rv b94, iv (own_eq co (own_cs x1))]) rfl k) ?_
              refine Gv T121 226 [] (fun t k => XS.goto X121.here hx rfl (pc0 := 196) (pc' := 226) rfl (hb hby at_196) (by decide) (by decide) k) ?_
              refine Gv T121 228 [(.ref b94)] (fun t k => XS.aload X121.here hx rfl (hb hby at_226) rfl rfl k) ?_
              refine Gv T121 230 [(.ref oa), (.ref b94)] (fun t k => XS.aload X121.here hx rfl (hb hby at_228) rfl rfl k) ?_
              have c123 : Exa Z T108.heap r67 "java/util/ImmutableCollections$Set12" := ((((((F93_8.ext E94).ext E97).ext E100).ext E102).keep K104).keep K108)
              have c124 : Fld Z T108.heap r67 "java/util/ImmutableCollections$Set12" "e0" "Ljava/lang/Object;" (.ref bs1) := ((((((F93_9.ext E94).ext E97).ext E100).ext E102).keep K104 (ninS (Nat.ne_of_lt (Nat.lt_of_lt_of_le (Nat.le_trans F93_8.lt E94.1) (Nat.le_of_eq g97.symm))) nin0)).keep K108 (ninS (Nat.ne_of_lt (Nat.lt_of_lt_of_le F93_8.lt (Nat.le_of_eq g94.symm))) nin0))
              have c125 : Fld Z T108.heap r67 "java/util/ImmutableCollections$Set12" "e1" "Ljava/lang/Object;" (.ref em) := ((((((F93_10.ext E94).ext E97).ext E100).ext E102).keep K104 (ninS (Nat.ne_of_lt (Nat.lt_of_lt_of_le (Nat.le_trans F93_8.lt E94.1) (Nat.le_of_eq g97.symm))) nin0)).keep K108 (ninS (Nat.ne_of_lt (Nat.lt_of_lt_of_le F93_8.lt (Nat.le_of_eq g94.symm))) nin0))
              obtain ⟨_, T122, L122, X122, ⟨r122, rfl, M122, K122, p122_0⟩, st122⟩ := callVirt X121 hx hZ102 hown102 (W_ hw 98 rfl) (W_ hw 99 rfl) (W_ hw 101 rfl) (notFace_of_selects (args := #[]) (mvT hZ102 (W_ hw 101 rfl))) (W_ hw 100 rfl) (W_ hw 68 rfl) (W_ hw 102 rfl) (by decide) (argsL := [(.ref oa)]) (rest := []) (own_m26 l Z a0 hw [] b94 r67 em bs1 ts1 ks1 (own_cs x1) z0 oa ot ok_ co T108.heap n0 ((((((O93.ext E94).ext E97).ext E100).ext E102).keep K104 (allS gn97 all0)).keep K108 (allS gn94 all0)) hz0 (own_csr x1) (own_csl x1) hco lco (Nat.ne_of_lt (Nat.lt_of_lt_of_le hem gno)) O_1 O_3 f108_0 f108_1 c123 c124 c125 c117 c118 c119 c120 c113 c114 c115 c116) K121 f108_0 (lenOf own_pd16 rfl) (pc := 230) (Ls := #[iv x1, iv x2, iv x3, iv x4, rv bs1, rv bs3, iv mo, iv (1 : Int32), rv r67, iv wh, rv oa, rv b94, iv (own_eq co (own_cs x1))]) (st := [(.ref oa), (.ref b94)]) rfl (by rw [hml]; rfl) (hb hby at_230) (W := 0) (Nat.le_of_eq rfl) (by decide) (by decide) (by decide) (by decide)
              have N122 := Fr.app N121 M122
              refine Goes.via (B := T122.setTop (mkF m 233 #[iv x1, iv x2, iv x3, iv x4, rv bs1, rv bs3, iv mo, iv (1 : Int32), rv r67, iv wh, rv oa, rv b94, iv (own_eq co (own_cs x1))] [(.int r122)])) (fun t k => st122 _ k) ?_
              refine Gv T122 235 [(.int (own_eq co (own_cs x1))), (.int r122)] (fun t k => XS.iload X122.here hx rfl (hb hby at_233) rfl k) ?_
              refine Gv T122 238 [] (fun t k => XS.icmpNo X122.here hx rfl (hb hby at_235) rfl (XT.ii_ne_f (p122_0.trans (own_eq01 _ _))) k) ?_
              refine Gv T122 239 [(.int (1 : Int32))] (fun t k => XS.iconst X122.here hx rfl (hb hby at_238) k) ?_
              refine Gv T122 243 [(.int (1 : Int32))] (fun t k => XS.goto X122.here hx rfl (pc0 := 239) (pc' := 243) rfl (hb hby at_239) (by decide) (by decide) k) ?_
              exact finN (Q := (own_Q29 Z x1 x2 x3 x4 z0 em es h0 n0)) (F := EndH Z consts_1) (C := (room_1).cells) (S := (room_1).slots) X122 hx (t := .boolean) Bd.returns (by simp) (z' := (1 : Int32)) rfl (hb hby at_243) K122 ⟨rfl, N122, trivial⟩ (lvH X122 hlk hS102 K122 (Nat.le_trans (Nat.le_trans hk102 K104.1) K108.1) hZ102 hEL hR112 (by decide) (by decide))
            by_cases b126 : (((x4.toUInt32 >>> ((4 : Int32) &&& 31).toUInt32).toInt32) &&& (1 : Int32)) = (0 : Int32)
            · refine Gv T104 160 [(.ref r67), (.ref b97), (.ref b94), (.ref b94)] (fun t k => XS.ifYes X104.here hx rfl (pc0 := 153) (pc' := 160) rfl (hb hby at_153) rfl (XT.i0_eq_t b126) (by decide) (by decide) k) ?_
              refine Gv T104 161 [(.int (0 : Int32)), (.ref r67), (.ref b97), (.ref b94), (.ref b94)] (fun t k => XS.iconst X104.here hx rfl (hb hby at_160) k) ?_
              exact j106 (0 : Int32) (Or.inl rfl)
            · refine Gv T104 156 [(.ref r67), (.ref b97), (.ref b94), (.ref b94)] (fun t k => XS.ifNo X104.here hx rfl (hb hby at_153) rfl (XT.i0_eq_f b126) k) ?_
              refine Gv T104 157 [(.int (1 : Int32)), (.ref r67), (.ref b97), (.ref b94), (.ref b94)] (fun t k => XS.iconst X104.here hx rfl (hb hby at_156) k) ?_
              refine Gv T104 161 [(.int (1 : Int32)), (.ref r67), (.ref b97), (.ref b94), (.ref b94)] (fun t k => XS.goto X104.here hx rfl (pc0 := 157) (pc' := 161) rfl (hb hby at_157) (by decide) (by decide) k) ?_
              exact j106 (1 : Int32) (Or.inr rfl)
          by_cases b127 : wh = (1 : Int32)
          · refine Gv T67 101 [] (fun t k => XS.icmpNo X67.here hx rfl (hb hby at_98) rfl (XT.ii_ne_f b127) k) ?_
            refine Gv T67 102 [(.int x1)] (fun t k => XS.iloadN X67.here hx rfl (hb hby at_101) rfl k) ?_
            obtain ⟨_, T128, L128, X128, hS128, hZ128, hown128, hC128, ⟨bs128, ts128, ks128, rfl, M128, K128, z128_0, f128_0, f128_1, f128_2, f128_3⟩, st128⟩ := callStaticH X67 hx hZ7 hS7 (Nat.le_trans (Nat.le_refl _) K67.1) hEL hR68.1 (sf := []) all0 hown7 (W_ hw 0 rfl) (W_ hw 1 rfl) (W_ hw 2 rfl) (W_ hw 3 rfl) (by decide) (argsL := [(.int x1)]) (rest := []) (own_m7 l Z a0 hw [] x1 z0 T67.heap n0 (((O0.keep K1 all0).keep K3 all0).keep K67 all0) hz0 O_1) rfl (lenOf own_pd12 rfl) (pc := 102) (Ls := #[iv x1, iv x2, iv x3, iv x4, rv bs1, rv bs3, iv mo, iv (1 : Int32), rv r67, iv wh, u_, u_, u_]) (st := [(.int x1)]) rfl (by rw [hml]; rfl) (hb hby at_102) (W := 0) (Nat.le_of_eq rfl) (by decide) (by decide) (by decide) (by decide)
            have N128 := Fr.app N67 M128
            have gn128_0 : n0 ≤ bs128 := Nat.le_trans (old_le (((O0.keep K1 all0).keep K3 all0).keep K67 all0)) z128_0
            have hq129 := hC128
            have hR129 := CHr.trans hR68 hq129
            refine Goes.via (B := T128.setTop (mkF m 105 #[iv x1, iv x2, iv x3, iv x4, rv bs1, rv bs3, iv mo, iv (1 : Int32), rv r67, iv wh, u_, u_, u_] [(.ref bs128)])) (fun t k => st128 _ k) ?_
            refine Gv T128 107 [] (fun t k => XS.astore X128.here hx rfl (hb hby at_105) rfl rfl (l' := #[iv x1, iv x2, iv x3, iv x4, rv bs1, rv bs3, iv mo, iv (1 : Int32), rv r67, iv wh, rv bs128, u_, u_]) rfl k) ?_
            refine Gv T128 131 [] (fun t k => XS.goto X128.here hx rfl (pc0 := 107) (pc' := 131) rfl (hb hby at_107) (by decide) (by decide) k) ?_
            obtain ⟨Xr130, hSr130, hZr130, hor130⟩ := rebase X128 hS128 rfl (Nat.le_refl _) hZ128 hown128
            exact j92 T128 _ T128.heap Xr130 rfl N128 hSr130 hZr130 hor130 (CHr.trans hR129 (CHv.at X128 hZ128 hEL hR129.1)) bs128 ts128 ks128 (own_cs x1) ((((O0.keep K1 all0).keep K3 all0).keep K67 all0).keep K128 all0) (((f1_0.keep K3).keep K67).keep K128) (((f1_1.keep K3 nin0).keep K67 nin0).keep K128 nin0) (((f1_2.keep K3 nin0).keep K67 nin0).keep K128 nin0) (((f1_3.keep K3 nin0).keep K67 nin0).keep K128 nin0) ((f3_0.keep K67).keep K128) ((f3_1.keep K67 nin0).keep K128 nin0) ((f3_2.keep K67 nin0).keep K128 nin0) ((f3_3.keep K67 nin0).keep K128 nin0) (f67_0.keep K128) (f67_1.keep K128 nin0) (f67_2.keep K128 nin0) f128_0 f128_1 f128_2 f128_3 (own_csr x1) (own_csl x1) gn128_0
          · refine Gv T67 110 [] (fun t k => XS.icmpYes X67.here hx rfl (pc0 := 98) (pc' := 110) rfl (hb hby at_98) rfl (XT.ii_ne_t b127) (by decide) (by decide) k) ?_
            refine Gv T67 112 [(.int wh)] (fun t k => XS.iload X67.here hx rfl (hb hby at_110) rfl k) ?_
            refine Gv T67 113 [(.int (2 : Int32)), (.int wh)] (fun t k => XS.iconst X67.here hx rfl (hb hby at_112) k) ?_
            by_cases b131 : wh = (2 : Int32)
            · refine Gv T67 116 [] (fun t k => XS.icmpNo X67.here hx rfl (hb hby at_113) rfl (XT.ii_ne_f b131) k) ?_
              refine Gv T67 117 [(.int x2)] (fun t k => XS.iloadN X67.here hx rfl (hb hby at_116) rfl k) ?_
              obtain ⟨_, T132, L132, X132, hS132, hZ132, hown132, hC132, ⟨bs132, ts132, ks132, rfl, M132, K132, z132_0, f132_0, f132_1, f132_2, f132_3⟩, st132⟩ := callStaticH X67 hx hZ7 hS7 (Nat.le_trans (Nat.le_refl _) K67.1) hEL hR68.1 (sf := []) all0 hown7 (W_ hw 0 rfl) (W_ hw 1 rfl) (W_ hw 2 rfl) (W_ hw 3 rfl) (by decide) (argsL := [(.int x2)]) (rest := []) (own_m7 l Z a0 hw [] x2 z0 T67.heap n0 (((O0.keep K1 all0).keep K3 all0).keep K67 all0) hz0 O_1) rfl (lenOf own_pd12 rfl) (pc := 117) (Ls := #[iv x1, iv x2, iv x3, iv x4, rv bs1, rv bs3, iv mo, iv (1 : Int32), rv r67, iv wh, u_, u_, u_]) (st := [(.int x2)]) rfl (by rw [hml]; rfl) (hb hby at_117) (W := 0) (Nat.le_of_eq rfl) (by decide) (by decide) (by decide) (by decide)
              have N132 := Fr.app N67 M132
              have gn132_0 : n0 ≤ bs132 := Nat.le_trans (old_le (((O0.keep K1 all0).keep K3 all0).keep K67 all0)) z132_0
              have hq133 := hC132
              have hR133 := CHr.trans hR68 hq133
              refine Goes.via (B := T132.setTop (mkF m 120 #[iv x1, iv x2, iv x3, iv x4, rv bs1, rv bs3, iv mo, iv (1 : Int32), rv r67, iv wh, u_, u_, u_] [(.ref bs132)])) (fun t k => st132 _ k) ?_
              refine Gv T132 122 [] (fun t k => XS.astore X132.here hx rfl (hb hby at_120) rfl rfl (l' := #[iv x1, iv x2, iv x3, iv x4, rv bs1, rv bs3, iv mo, iv (1 : Int32), rv r67, iv wh, rv bs132, u_, u_]) rfl k) ?_
              refine Gv T132 131 [] (fun t k => XS.goto X132.here hx rfl (pc0 := 122) (pc' := 131) rfl (hb hby at_122) (by decide) (by decide) k) ?_
              obtain ⟨Xr134, hSr134, hZr134, hor134⟩ := rebase X132 hS132 rfl (Nat.le_refl _) hZ132 hown132
              exact j92 T132 _ T132.heap Xr134 rfl N132 hSr134 hZr134 hor134 (CHr.trans hR133 (CHv.at X132 hZ132 hEL hR133.1)) bs132 ts132 ks132 (own_cs x2) ((((O0.keep K1 all0).keep K3 all0).keep K67 all0).keep K132 all0) (((f1_0.keep K3).keep K67).keep K132) (((f1_1.keep K3 nin0).keep K67 nin0).keep K132 nin0) (((f1_2.keep K3 nin0).keep K67 nin0).keep K132 nin0) (((f1_3.keep K3 nin0).keep K67 nin0).keep K132 nin0) ((f3_0.keep K67).keep K132) ((f3_1.keep K67 nin0).keep K132 nin0) ((f3_2.keep K67 nin0).keep K132 nin0) ((f3_3.keep K67 nin0).keep K132 nin0) (f67_0.keep K132) (f67_1.keep K132 nin0) (f67_2.keep K132 nin0) f132_0 f132_1 f132_2 f132_3 (own_csr x2) (own_csl x2) gn132_0
            · refine Gv T67 125 [] (fun t k => XS.icmpYes X67.here hx rfl (pc0 := 113) (pc' := 125) rfl (hb hby at_113) rfl (XT.ii_ne_t b131) (by decide) (by decide) k) ?_
              refine Gv T67 126 [(.int x3)] (fun t k => XS.iloadN X67.here hx rfl (hb hby at_125) rfl k) ?_
              obtain ⟨_, T135, L135, X135, hS135, hZ135, hown135, hC135, ⟨bs135, ts135, ks135, rfl, M135, K135, z135_0, f135_0, f135_1, f135_2, f135_3⟩, st135⟩ := callStaticH X67 hx hZ7 hS7 (Nat.le_trans (Nat.le_refl _) K67.1) hEL hR68.1 (sf := []) all0 hown7 (W_ hw 0 rfl) (W_ hw 1 rfl) (W_ hw 2 rfl) (W_ hw 3 rfl) (by decide) (argsL := [(.int x3)]) (rest := []) (own_m7 l Z a0 hw [] x3 z0 T67.heap n0 (((O0.keep K1 all0).keep K3 all0).keep K67 all0) hz0 O_1) rfl (lenOf own_pd12 rfl) (pc := 126) (Ls := #[iv x1, iv x2, iv x3, iv x4, rv bs1, rv bs3, iv mo, iv (1 : Int32), rv r67, iv wh, u_, u_, u_]) (st := [(.int x3)]) rfl (by rw [hml]; rfl) (hb hby at_126) (W := 0) (Nat.le_of_eq rfl) (by decide) (by decide) (by decide) (by decide)
              have N135 := Fr.app N67 M135
              have gn135_0 : n0 ≤ bs135 := Nat.le_trans (old_le (((O0.keep K1 all0).keep K3 all0).keep K67 all0)) z135_0
              have hq136 := hC135
              have hR136 := CHr.trans hR68 hq136
              refine Goes.via (B := T135.setTop (mkF m 129 #[iv x1, iv x2, iv x3, iv x4, rv bs1, rv bs3, iv mo, iv (1 : Int32), rv r67, iv wh, u_, u_, u_] [(.ref bs135)])) (fun t k => st135 _ k) ?_
              refine Gv T135 131 [] (fun t k => XS.astore X135.here hx rfl (hb hby at_129) rfl rfl (l' := #[iv x1, iv x2, iv x3, iv x4, rv bs1, rv bs3, iv mo, iv (1 : Int32), rv r67, iv wh, rv bs135, u_, u_]) rfl k) ?_
              obtain ⟨Xr137, hSr137, hZr137, hor137⟩ := rebase X135 hS135 rfl (Nat.le_refl _) hZ135 hown135
              exact j92 T135 _ T135.heap Xr137 rfl N135 hSr137 hZr137 hor137 (CHr.trans hR136 (CHv.at X135 hZ135 hEL hR136.1)) bs135 ts135 ks135 (own_cs x3) ((((O0.keep K1 all0).keep K3 all0).keep K67 all0).keep K135 all0) (((f1_0.keep K3).keep K67).keep K135) (((f1_1.keep K3 nin0).keep K67 nin0).keep K135 nin0) (((f1_2.keep K3 nin0).keep K67 nin0).keep K135 nin0) (((f1_3.keep K3 nin0).keep K67 nin0).keep K135 nin0) ((f3_0.keep K67).keep K135) ((f3_1.keep K67 nin0).keep K135 nin0) ((f3_2.keep K67 nin0).keep K135 nin0) ((f3_3.keep K67 nin0).keep K135 nin0) (f67_0.keep K135) (f67_1.keep K135 nin0) (f67_2.keep K135 nin0) f135_0 f135_1 f135_2 f135_3 (own_csr x3) (own_csl x3) gn135_0
      · refine Gv T7 68 [] (fun t k => XS.ifYes X7.here hx rfl (pc0 := 55) (pc' := 68) rfl (hb hby at_55) rfl (XT.i0_eq_t rfl) (by decide) (by decide) k) ?_
        refine Gv T7 70 [(.ref bs1)] (fun t k => XS.aload X7.here hx rfl (hb hby at_68) rfl rfl k) ?_
        refine Gv T7 72 [(.ref bs3), (.ref bs1)] (fun t k => XS.aload X7.here hx rfl (hb hby at_70) rfl rfl k) ?_
        obtain ⟨_, T138, L138, X138, ⟨r138, rfl, M138, K138, z138_0, f138_0, f138_1, f138_2⟩, st138⟩ := callStatic X7 hx hZ7 hown7 (W_ hw 165 rfl) (W_ hw 166 rfl) (W_ hw 28 rfl) (W_ hw 167 rfl) (by decide) (argsL := [(.ref bs1), (.ref bs3)]) (rest := []) (own_m15 l Z a0 hw [] bs1 bs3 ts1 ks1 ts3 ks3 (own_cs x1) (own_cs x2) z0 T3.heap n0 ((O0.keep K1 all0).keep K3 all0) hz0 (own_csr x1) (own_csl x1) (own_csr x2) (own_csl x2) hne O_1 (f1_0.keep K3) (f1_1.keep K3 nin0) (f1_2.keep K3 nin0) (f1_3.keep K3 nin0) f3_0 f3_1 f3_2 f3_3) e7 (lenOf own_pd18 rfl) (pc := 72) (Ls := #[iv x1, iv x2, iv x3, iv x4, rv bs1, rv bs3, iv mo, iv (0 : Int32), u_, u_, u_, u_, u_]) (st := [(.ref bs3), (.ref bs1)]) rfl (by rw [hml]; rfl) (hb hby at_72) (W := 0) (Nat.le_of_eq rfl) (by decide) (by decide) (by decide) (by decide)
        have N138 := Fr.app N7 M138
        have gn138_0 : n0 ≤ r138 := Nat.le_trans (old_le ((O0.keep K1 all0).keep K3 all0)) z138_0
        have hq139 := CHr.keep K138 sf0 hR7.1
        have hR139 := CHr.trans hR7 hq139
        refine Goes.via (B := T138.setTop (mkF m 75 #[iv x1, iv x2, iv x3, iv x4, rv bs1, rv bs3, iv mo, iv (0 : Int32), u_, u_, u_, u_, u_] [(.ref r138)])) (fun t k => st138 _ k) ?_
        refine Gv T138 77 [] (fun t k => XS.astore X138.here hx rfl (hb hby at_75) rfl rfl (l' := #[iv x1, iv x2, iv x3, iv x4, rv bs1, rv bs3, iv mo, iv (0 : Int32), rv r138, u_, u_, u_, u_]) rfl k) ?_
        refine Gv T138 78 [(.int x4)] (fun t k => XS.iloadN X138.here hx rfl (hb hby at_77) rfl k) ?_
        refine Gv T138 79 [(.int (2 : Int32)), (.int x4)] (fun t k => XS.iconst X138.here hx rfl (hb hby at_78) k) ?_
        refine Gv T138 80 [(.int ((x4.toUInt32 >>> ((2 : Int32) &&& 31).toUInt32).toInt32))] (fun t k => XS.iushr X138.here hx rfl (hb hby at_79) rfl k) ?_
        refine Gv T138 81 [(.int (3 : Int32)), (.int ((x4.toUInt32 >>> ((2 : Int32) &&& 31).toUInt32).toInt32))] (fun t k => XS.iconst X138.here hx rfl (hb hby at_80) k) ?_
        refine Gv T138 82 [(.int (((x4.toUInt32 >>> ((2 : Int32) &&& 31).toUInt32).toInt32) &&& (3 : Int32)))] (fun t k => XS.iand X138.here hx rfl (hb hby at_81) rfl k) ?_
        refine Gv T138 84 [] (fun t k => XS.istore X138.here hx rfl (hb hby at_82) rfl (l' := #[iv x1, iv x2, iv x3, iv x4, rv bs1, rv bs3, iv mo, iv (0 : Int32), rv r138, iv (((x4.toUInt32 >>> ((2 : Int32) &&& 31).toUInt32).toInt32) &&& (3 : Int32)), u_, u_, u_]) rfl k) ?_
        suffices J140 : ∀ (wh : Int32), Goes p.tables e below (fun t o => ∃ v L, o = .returned v ∧ (own_Q29 Z x1 x2 x3 x4 z0 em es h0 n0) v t.heap L ∧ EndH Z consts_1 s o t L (room_1).cells (room_1).slots) (T138.setTop (mkF m 84 #[iv x1, iv x2, iv x3, iv x4, rv bs1, rv bs3, iv mo, iv (0 : Int32), rv r138, iv wh, u_, u_, u_] [])) by exact J140 (((x4.toUInt32 >>> ((2 : Int32) &&& 31).toUInt32).toInt32) &&& (3 : Int32))
        intro wh
        refine Gv T138 86 [(.int wh)] (fun t k => XS.iload X138.here hx rfl (hb hby at_84) rfl k) ?_
        by_cases b141 : wh = (0 : Int32)
        · refine Gv T138 89 [] (fun t k => XS.ifNo X138.here hx rfl (hb hby at_86) rfl (XT.i0_ne_f b141) k) ?_
          refine Gv T138 90 [.null] (fun t k => XS.aconstNull X138.here hx rfl (hb hby at_89) k) ?_
          refine Gv T138 92 [] (fun t k => XS.astore X138.here hx rfl (hb hby at_90) rfl rfl (l' := #[iv x1, iv x2, iv x3, iv x4, rv bs1, rv bs3, iv mo, iv (0 : Int32), rv r138, iv wh, .val .null, u_, u_]) rfl k) ?_
          refine Gv T138 131 [] (fun t k => XS.goto X138.here hx rfl (pc0 := 92) (pc' := 131) rfl (hb hby at_92) (by decide) (by decide) k) ?_
          obtain ⟨T142, h142, X142, e142, E142, A142, D142, U142, st142⟩ := newO X138 hx hZ7 hown7 (W_ hw 66 rfl) (W_ hw 67 rfl) (W_ hw 68 rfl) rfl (g := (mkF m 131 #[iv x1, iv x2, iv x3, iv x4, rv bs1, rv bs3, iv mo, iv (0 : Int32), rv r138, iv wh, .val .null, u_, u_] [])) rfl (hb hby at_131) (by decide) (by decide)
          obtain ⟨b142, g142⟩ : ∃ z, z = T138.heap.size := ⟨_, rfl⟩
          rw [← g142] at A142 D142 U142 st142
          have gn142 : n0 ≤ b142 := Nat.le_trans (old_le (((O0.keep K1 all0).keep K3 all0).keep K138 all0)) (Nat.le_of_eq g142.symm)
          have hq143 := CHr.ext E142 hR139.1
          have hR143 := CHr.trans hR139 hq143
          have sf144 := Safe.ext E142 hR139.1 (Safe.new (Nat.le_of_eq g142.symm))
          have F142_keys : Fld Z h142 b142 "com/example/baskit/baskit/ClientSide" "keys" "Lcom/example/baskit/baskit/Keys;" .null := D142 (Or.inr (W_ hw 87 rfl)) (ty := (.object "com/example/baskit/baskit/Keys")) (by decide)
          have F142_origins : Fld Z h142 b142 "com/example/baskit/baskit/ClientSide" "origins" "Ljava/util/Set;" .null := D142 (Or.inr (W_ hw 95 rfl)) (ty := (.object "java/util/Set")) (by decide)
          have F142_redeems : Fld Z h142 b142 "com/example/baskit/baskit/ClientSide" "redeems" "Z" (.int (0 : Int32)) := D142 (Or.inr (W_ hw 97 rfl)) (ty := .boolean) (by decide)
          refine Goes.via (B := T142.setTop (mkF m 134 #[iv x1, iv x2, iv x3, iv x4, rv bs1, rv bs3, iv mo, iv (0 : Int32), rv r138, iv wh, .val .null, u_, u_] [(.ref b142)])) (fun t k => st142 _ k) ?_
          refine Gv T142 135 [(.ref b142), (.ref b142)] (fun t k => XS.dup X142.here hx rfl (hb hby at_134) rfl rfl k) ?_
          obtain ⟨T145, h145, X145, e145, E145, A145, D145, U145, st145⟩ := newO X142 hx hZ7 hown7 (W_ hw 69 rfl) (W_ hw 70 rfl) (W_ hw 71 rfl) e142 (g := (mkF m 135 #[iv x1, iv x2, iv x3, iv x4, rv bs1, rv bs3, iv mo, iv (0 : Int32), rv r138, iv wh, .val .null, u_, u_] [(.ref b142), (.ref b142)])) rfl (hb hby at_135) (by decide) (by decide)
          obtain ⟨b145, g145⟩ : ∃ z, z = h142.size := ⟨_, rfl⟩
          rw [← g145] at A145 D145 U145 st145
          have gn145 : n0 ≤ b145 := Nat.le_trans (old_le ((((O0.keep K1 all0).keep K3 all0).keep K138 all0).ext E142)) (Nat.le_of_eq g145.symm)
          have hq146 := CHr.ext E145 hR143.1
          have hR146 := CHr.trans hR143 hq146
          have sf147 := Safe.ext E145 hR143.1 (Safe.new (Nat.le_of_eq g145.symm))
          have F145_id : Fld Z h145 b145 "com/example/baskit/baskit/Keys" "id" "Ljava/lang/String;" .null := D145 (Or.inr (W_ hw 79 rfl)) (ty := (.object "java/lang/String")) (by decide)
          have F145_token : Fld Z h145 b145 "com/example/baskit/baskit/Keys" "token" "Ljava/lang/String;" .null := D145 (Or.inr (W_ hw 81 rfl)) (ty := (.object "java/lang/String")) (by decide)
          refine Goes.via (B := T145.setTop (mkF m 138 #[iv x1, iv x2, iv x3, iv x4, rv bs1, rv bs3, iv mo, iv (0 : Int32), rv r138, iv wh, .val .null, u_, u_] [(.ref b145), (.ref b142), (.ref b142)])) (fun t k => st145 _ k) ?_
          refine Gv T145 139 [(.ref b145), (.ref b145), (.ref b142), (.ref b142)] (fun t k => XS.dup X145.here hx rfl (hb hby at_138) rfl rfl k) ?_
          obtain ⟨b148, T148, h148, k148, X148, e148, E148, hS148, hk148, hZ148, hown148, hC148, -, st148⟩ := ldcOH X145 hx hZ7 hown7 (W_ hw 72 rfl) (own_wS hw) e145 hS7 (Nat.le_trans (Nat.le_trans (Nat.le_trans (Nat.le_refl _) K138.1) E142.1) E145.1) hEL hR146.1 (g := (mkF m 139 #[iv x1, iv x2, iv x3, iv x4, rv bs1, rv bs3, iv mo, iv (0 : Int32), rv r138, iv wh, .val .null, u_, u_] [(.ref b145), (.ref b145), (.ref b142), (.ref b142)])) rfl (hb hby at_139) (n := 4) (by decide) (by decide) (by decide) (by decide)
          have hq149 := hC148
          have hR149 := CHr.trans hR146 hq149
          refine Goes.via (B := T148.setTop (mkF m 141 #[iv x1, iv x2, iv x3, iv x4, rv bs1, rv bs3, iv mo, iv (0 : Int32), rv r138, iv wh, .val .null, u_, u_] [(.ref b148), (.ref b145), (.ref b145), (.ref b142), (.ref b142)])) (fun t k => st148 _ k) ?_
          obtain ⟨b150, T150, h150, k150, X150, e150, E150, hS150, hk150, hZ150, hown150, hC150, -, st150⟩ := ldcOH X148 hx hZ148 hown148 (W_ hw 73 rfl) (own_wS hw) e148 hS148 hk148 hEL hR149.1 (g := (mkF m 141 #[iv x1, iv x2, iv x3, iv x4, rv bs1, rv bs3, iv mo, iv (0 : Int32), rv r138, iv wh, .val .null, u_, u_] [(.ref b148), (.ref b145), (.ref b145), (.ref b142), (.ref b142)])) rfl (hb hby at_141) (n := 4) (by decide) (by decide) (by decide) (by decide)
          have hq151 := hC150
          have hR151 := CHr.trans hR149 hq151
          refine Goes.via (B := T150.setTop (mkF m 143 #[iv x1, iv x2, iv x3, iv x4, rv bs1, rv bs3, iv mo, iv (0 : Int32), rv r138, iv wh, .val .null, u_, u_] [(.ref b150), (.ref b148), (.ref b145), (.ref b145), (.ref b142), (.ref b142)])) (fun t k => st150 _ k) ?_
          obtain ⟨_, T152, L152, X152, ⟨rfl, M152, K152⟩, st152⟩ := callInit X150 hx hZ150 rfl hown150 (W_ hw 74 rfl) (W_ hw 75 rfl) (W_ hw 71 rfl) (W_ hw 76 rfl) (by decide) (argsL := [(.ref b148), (.ref b150)]) (rest := [(.ref b145), (.ref b142), (.ref b142)]) (own_m19 l Z a0 hw [] b145 b148 b150 h150 n0 (((((((O0.keep K1 all0).keep K3 all0).keep K138 all0).ext E142).ext E145).ext E148).ext E150) gn145 ((A145.ext E148).ext E150) ((F145_id.ext E148).ext E150) ((F145_token.ext E148).ext E150)) e150 (lenOf own_pd14 rfl) (pc := 143) (Ls := #[iv x1, iv x2, iv x3, iv x4, rv bs1, rv bs3, iv mo, iv (0 : Int32), rv r138, iv wh, .val .null, u_, u_]) (st := [(.ref b150), (.ref b148), (.ref b145), (.ref b145), (.ref b142), (.ref b142)]) rfl (by rw [hml]; rfl) (hb hby at_143) (W := 3) (Nat.le_of_eq rfl) (by decide) (by decide) (by decide) (by decide)
          have N152 := Fr.app N138 M152
          have hq153 := CHr.keep K152 (sfS (CHr.safe hq151 (Nat.le_trans A145.lt E148.1) (CHr.safe hq149 A145.lt sf147)) sf0) hR151.1
          have hR153 := CHr.trans hR151 hq153
          refine Goes.via (B := T152.setTop (mkF m 146 #[iv x1, iv x2, iv x3, iv x4, rv bs1, rv bs3, iv mo, iv (0 : Int32), rv r138, iv wh, .val .null, u_, u_] [(.ref b145), (.ref b142), (.ref b142)])) (fun t k => st152 _ k) ?_
          refine Gv T152 148 [(.ref r138), (.ref b145), (.ref b142), (.ref b142)] (fun t k => XS.aload X152.here hx rfl (hb hby at_146) rfl rfl k) ?_
          refine Gv T152 149 [(.int x4), (.ref r138), (.ref b145), (.ref b142), (.ref b142)] (fun t k => XS.iloadN X152.here hx rfl (hb hby at_148) rfl k) ?_
          refine Gv T152 150 [(.int (4 : Int32)), (.int x4), (.ref r138), (.ref b145), (.ref b142), (.ref b142)] (fun t k => XS.iconst X152.here hx rfl (hb hby at_149) k) ?_
          refine Gv T152 151 [(.int ((x4.toUInt32 >>> ((4 : Int32) &&& 31).toUInt32).toInt32)), (.ref r138), (.ref b145), (.ref b142), (.ref b142)] (fun t k => XS.iushr X152.here hx rfl (hb hby at_150) rfl k) ?_
          refine Gv T152 152 [(.int (1 : Int32)), (.int ((x4.toUInt32 >>> ((4 : Int32) &&& 31).toUInt32).toInt32)), (.ref r138), (.ref b145), (.ref b142), (.ref b142)] (fun t k => XS.iconst X152.here hx rfl (hb hby at_151) k) ?_
          refine Gv T152 153 [(.int (((x4.toUInt32 >>> ((4 : Int32) &&& 31).toUInt32).toInt32) &&& (1 : Int32))), (.ref r138), (.ref b145), (.ref b142), (.ref b142)] (fun t k => XS.iand X152.here hx rfl (hb hby at_152) rfl k) ?_
          have j154 : ∀ (rb : Int32) (hrb : rb = 0 ∨ rb = 1) , Goes p.tables e below (fun t o => ∃ v L, o = .returned v ∧ (own_Q29 Z x1 x2 x3 x4 z0 em es h0 n0) v t.heap L ∧ EndH Z consts_1 s o t L (room_1).cells (room_1).slots) (T152.setTop (mkF m 161 #[iv x1, iv x2, iv x3, iv x4, rv bs1, rv bs3, iv mo, iv (0 : Int32), rv r138, iv wh, .val .null, u_, u_] [(.int rb), (.ref r138), (.ref b145), (.ref b142), (.ref b142)])) := by
            intro rb hrb
            have c157 : Fld Z T152.heap b142 "com/example/baskit/baskit/ClientSide" "keys" "Lcom/example/baskit/baskit/Keys;" .null := ((((F142_keys.ext E145).ext E148).ext E150).keep K152 (ninS (Nat.ne_of_lt (Nat.lt_of_lt_of_le A142.lt (Nat.le_of_eq g145.symm))) nin0))
            have c158 : Fld Z T152.heap b142 "com/example/baskit/baskit/ClientSide" "origins" "Ljava/util/Set;" .null := ((((F142_origins.ext E145).ext E148).ext E150).keep K152 (ninS (Nat.ne_of_lt (Nat.lt_of_lt_of_le A142.lt (Nat.le_of_eq g145.symm))) nin0))
            have c159 : Fld Z T152.heap b142 "com/example/baskit/baskit/ClientSide" "redeems" "Z" (.int (0 : Int32)) := ((((F142_redeems.ext E145).ext E148).ext E150).keep K152 (ninS (Nat.ne_of_lt (Nat.lt_of_lt_of_le A142.lt (Nat.le_of_eq g145.symm))) nin0))
            have c160 : Exa Z T152.heap r138 "java/util/ImmutableCollections$Set12" := (((((f138_0.ext E142).ext E145).ext E148).ext E150).keep K152)
            obtain ⟨_, T156, L156, X156, ⟨rfl, M156, K156, f156_0, f156_1⟩, st156⟩ := callInit X152 hx hZ150 rfl hown150 (W_ hw 82 rfl) (W_ hw 83 rfl) (W_ hw 68 rfl) (W_ hw 84 rfl) (by decide) (argsL := [(.ref b145), (.ref r138), (.int rb)]) (rest := [(.ref b142)]) (own_m20 l Z a0 hw [] b142 b145 r138 rb T152.heap n0 ((((((((O0.keep K1 all0).keep K3 all0).keep K138 all0).ext E142).ext E145).ext E148).ext E150).keep K152 (allS gn145 all0)) hrb gn142 ((((A142.ext E145).ext E148).ext E150).keep K152) c157 c158 c159 c160) rfl (lenOf own_pd15 rfl) (pc := 161) (Ls := #[iv x1, iv x2, iv x3, iv x4, rv bs1, rv bs3, iv mo, iv (0 : Int32), rv r138, iv wh, .val .null, u_, u_]) (st := [(.int rb), (.ref r138), (.ref b145), (.ref b142), (.ref b142)]) rfl (by rw [hml]; rfl) (hb hby at_161) (W := 1) (Nat.le_of_eq rfl) (by decide) (by decide) (by decide) (by decide)
            have N156 := Fr.app N152 M156
            have hq161 := CHr.keep K156 (sfS (CHr.safe hq153 (Nat.le_trans (Nat.le_trans (Nat.le_trans A142.lt E145.1) E148.1) E150.1) (CHr.safe hq151 (Nat.le_trans (Nat.le_trans A142.lt E145.1) E148.1) (CHr.safe hq149 (Nat.le_trans A142.lt E145.1) (CHr.safe hq146 A142.lt sf144)))) sf0) hR153.1
            have hR161 := CHr.trans hR153 hq161
            refine Goes.via (B := T156.setTop (mkF m 164 #[iv x1, iv x2, iv x3, iv x4, rv bs1, rv bs3, iv mo, iv (0 : Int32), rv r138, iv wh, .val .null, u_, u_] [(.ref b142)])) (fun t k => st156 _ k) ?_
            refine Gv T156 166 [] (fun t k => XS.astore X156.here hx rfl (hb hby at_164) rfl rfl (l' := #[iv x1, iv x2, iv x3, iv x4, rv bs1, rv bs3, iv mo, iv (0 : Int32), rv r138, iv wh, .val .null, rv b142, u_]) rfl k) ?_
            refine Gv T156 168 [.null] (fun t k => XS.aload X156.here hx rfl (hb hby at_166) rfl rfl k) ?_
            refine Gv T156 176 [] (fun t k => XS.ifnullYes X156.here hx rfl (pc0 := 168) (pc' := 176) rfl (hb hby at_168) rfl (by decide) (by decide) k) ?_
            refine Gv T156 177 [(.int (0 : Int32))] (fun t k => XS.iconst X156.here hx rfl (hb hby at_176) k) ?_
            refine Gv T156 179 [] (fun t k => XS.istore X156.here hx rfl (hb hby at_177) rfl (l' := #[iv x1, iv x2, iv x3, iv x4, rv bs1, rv bs3, iv mo, iv (0 : Int32), rv r138, iv wh, .val .null, rv b142, iv (0 : Int32)]) rfl k) ?_
            refine Gv T156 226 [] (fun t k => XS.goto X156.here hx rfl (pc0 := 179) (pc' := 226) rfl (hb hby at_179) (by decide) (by decide) k) ?_
            refine Gv T156 228 [(.ref b142)] (fun t k => XS.aload X156.here hx rfl (hb hby at_226) rfl rfl k) ?_
            refine Gv T156 230 [.null, (.ref b142)] (fun t k => XS.aload X156.here hx rfl (hb hby at_228) rfl rfl k) ?_
            obtain ⟨_, T162, L162, X162, ⟨rfl, M162, K162⟩, st162⟩ := callVirt X156 hx hZ150 hown150 (W_ hw 98 rfl) (W_ hw 99 rfl) (W_ hw 101 rfl) (notFace_of_selects (args := #[]) (mvT hZ150 (W_ hw 101 rfl))) (W_ hw 100 rfl) (W_ hw 68 rfl) (W_ hw 102 rfl) (by decide) (argsL := [.null]) (rest := []) (own_m25 l Z a0 hw [] b142 T156.heap n0 (((((((((O0.keep K1 all0).keep K3 all0).keep K138 all0).ext E142).ext E145).ext E148).ext E150).keep K152 (allS gn145 all0)).keep K156 (allS gn142 all0)) ) rfl f156_0 (lenOf own_pd16 rfl) (pc := 230) (Ls := #[iv x1, iv x2, iv x3, iv x4, rv bs1, rv bs3, iv mo, iv (0 : Int32), rv r138, iv wh, .val .null, rv b142, iv (0 : Int32)]) (st := [.null, (.ref b142)]) rfl (by rw [hml]; rfl) (hb hby at_230) (W := 0) (Nat.le_of_eq rfl) (by decide) (by decide) (by decide) (by decide)
            have N162 := Fr.app N156 M162
            refine Goes.via (B := T162.setTop (mkF m 233 #[iv x1, iv x2, iv x3, iv x4, rv bs1, rv bs3, iv mo, iv (0 : Int32), rv r138, iv wh, .val .null, rv b142, iv (0 : Int32)] [(.int (0 : Int32))])) (fun t k => st162 _ k) ?_
            refine Gv T162 235 [(.int (0 : Int32)), (.int (0 : Int32))] (fun t k => XS.iload X162.here hx rfl (hb hby at_233) rfl k) ?_
            refine Gv T162 238 [] (fun t k => XS.icmpNo X162.here hx rfl (hb hby at_235) rfl (XT.ii_ne_f rfl) k) ?_
            refine Gv T162 239 [(.int (1 : Int32))] (fun t k => XS.iconst X162.here hx rfl (hb hby at_238) k) ?_
            refine Gv T162 243 [(.int (1 : Int32))] (fun t k => XS.goto X162.here hx rfl (pc0 := 239) (pc' := 243) rfl (hb hby at_239) (by decide) (by decide) k) ?_
            exact finN (Q := (own_Q29 Z x1 x2 x3 x4 z0 em es h0 n0)) (F := EndH Z consts_1) (C := (room_1).cells) (S := (room_1).slots) X162 hx (t := .boolean) Bd.returns (by simp) (z' := (1 : Int32)) rfl (hb hby at_243) K162 ⟨rfl, N162, trivial⟩ (lvH X162 hlk hS150 K162 (Nat.le_trans (Nat.le_trans hk150 K152.1) K156.1) hZ150 hEL hR161 (by decide) (by decide))
          by_cases b163 : (((x4.toUInt32 >>> ((4 : Int32) &&& 31).toUInt32).toInt32) &&& (1 : Int32)) = (0 : Int32)
          · refine Gv T152 160 [(.ref r138), (.ref b145), (.ref b142), (.ref b142)] (fun t k => XS.ifYes X152.here hx rfl (pc0 := 153) (pc' := 160) rfl (hb hby at_153) rfl (XT.i0_eq_t b163) (by decide) (by decide) k) ?_
            refine Gv T152 161 [(.int (0 : Int32)), (.ref r138), (.ref b145), (.ref b142), (.ref b142)] (fun t k => XS.iconst X152.here hx rfl (hb hby at_160) k) ?_
            exact j154 (0 : Int32) (Or.inl rfl)
          · refine Gv T152 156 [(.ref r138), (.ref b145), (.ref b142), (.ref b142)] (fun t k => XS.ifNo X152.here hx rfl (hb hby at_153) rfl (XT.i0_eq_f b163) k) ?_
            refine Gv T152 157 [(.int (1 : Int32)), (.ref r138), (.ref b145), (.ref b142), (.ref b142)] (fun t k => XS.iconst X152.here hx rfl (hb hby at_156) k) ?_
            refine Gv T152 161 [(.int (1 : Int32)), (.ref r138), (.ref b145), (.ref b142), (.ref b142)] (fun t k => XS.goto X152.here hx rfl (pc0 := 157) (pc' := 161) rfl (hb hby at_157) (by decide) (by decide) k) ?_
            exact j154 (1 : Int32) (Or.inr rfl)
        · refine Gv T138 95 [] (fun t k => XS.ifYes X138.here hx rfl (pc0 := 86) (pc' := 95) rfl (hb hby at_86) rfl (XT.i0_ne_t b141) (by decide) (by decide) k) ?_
          refine Gv T138 97 [(.int wh)] (fun t k => XS.iload X138.here hx rfl (hb hby at_95) rfl k) ?_
          refine Gv T138 98 [(.int (1 : Int32)), (.int wh)] (fun t k => XS.iconst X138.here hx rfl (hb hby at_97) k) ?_
          have j164 : ∀ (T165 : State) (lc165 : List Loc) (h165 : Heap) (X165 : Stand p l e room_1 (s.setVm T165.vm) m #[(.int x1), (.int x2), (.int x3), (.int x4)] below meth c T165 lc165 19 38) (e165 : T165.heap = h165) (N165 : Fr n0 lc165) (hS165 : s.Since T165.vm h165.size) (hZ165 : Z.Warmed39 T165.vm) (hown165 : T165.vm.findClass "com/example/baskit/baskit/ClientSideAllowsPinLaw" = some m.cls) (hR165 : CHr Z consts_1 s.vm s.heap T165.vm h165) (oa : Addr) (ot : Addr) (ok_ : ClassId) (co : List Int32) (O165 : Old Z n0 h165) (F165_0 : Exa Z h165 bs1 "java/lang/String") (F165_1 : Fld Z h165 bs1 "java/lang/String" "value" "[B" (.ref ts1)) (F165_2 : Fld Z h165 bs1 "java/lang/String" "coder" "B" (.int (0 : Int32))) (F165_3 : Arv Z h165 ts1 ks1 .byte (Int32.ofNat (own_cs x1).length) (((own_cs x1).map StrChars.lo8).map Value.int) (.int 0)) (F165_4 : Exa Z h165 bs3 "java/lang/String") (F165_5 : Fld Z h165 bs3 "java/lang/String" "value" "[B" (.ref ts3)) (F165_6 : Fld Z h165 bs3 "java/lang/String" "coder" "B" (.int (0 : Int32))) (F165_7 : Arv Z h165 ts3 ks3 .byte (Int32.ofNat (own_cs x2).length) (((own_cs x2).map StrChars.lo8).map Value.int) (.int 0)) (F165_8 : Exa Z h165 r138 "java/util/ImmutableCollections$Set12") (F165_9 : Fld Z h165 r138 "java/util/ImmutableCollections$Set12" "e0" "Ljava/lang/Object;" (.ref bs1)) (F165_10 : Fld Z h165 r138 "java/util/ImmutableCollections$Set12" "e1" "Ljava/lang/Object;" (.ref bs3)) (F165_11 : Exa Z h165 oa "java/lang/String") (F165_12 : Fld Z h165 oa "java/lang/String" "value" "[B" (.ref ot)) (F165_13 : Fld Z h165 oa "java/lang/String" "coder" "B" (.int (0 : Int32))) (F165_14 : Arv Z h165 ot ok_ .byte (Int32.ofNat co.length) ((co.map StrChars.lo8).map Value.int) (.int 0)) (hco : ∀ c ∈ co, ¬ c < 0 ∧ ¬ (255 : Int32) < c) (lco : co.length ≤ 4000) (gno : n0 ≤ oa) , Goes p.tables e below (fun t o => ∃ v L, o = .returned v ∧ (own_Q29 Z x1 x2 x3 x4 z0 em es h0 n0) v t.heap L ∧ EndH Z consts_1 s o t L (room_1).cells (room_1).slots) (T165.setTop (mkF m 131 #[iv x1, iv x2, iv x3, iv x4, rv bs1, rv bs3, iv mo, iv (0 : Int32), rv r138, iv wh, rv oa, u_, u_] [])) := by
            intro T165 lc165 h165 X165 e165 N165 hS165 hZ165 hown165 hR165 oa ot ok_ co O165 F165_0 F165_1 F165_2 F165_3 F165_4 F165_5 F165_6 F165_7 F165_8 F165_9 F165_10 F165_11 F165_12 F165_13 F165_14 hco lco gno
            obtain ⟨T166, h166, X166, e166, E166, A166, D166, U166, st166⟩ := newO X165 hx hZ165 hown165 (W_ hw 66 rfl) (W_ hw 67 rfl) (W_ hw 68 rfl) e165 (g := (mkF m 131 #[iv x1, iv x2, iv x3, iv x4, rv bs1, rv bs3, iv mo, iv (0 : Int32), rv r138, iv wh, rv oa, u_, u_] [])) rfl (hb hby at_131) (by decide) (by decide)
            obtain ⟨b166, g166⟩ : ∃ z, z = h165.size := ⟨_, rfl⟩
            rw [← g166] at A166 D166 U166 st166
            have gn166 : n0 ≤ b166 := Nat.le_trans (old_le O165) (Nat.le_of_eq g166.symm)
            have hq167 := CHr.ext E166 hR165.1
            have hR167 := CHr.trans hR165 hq167
            have sf168 := Safe.ext E166 hR165.1 (Safe.new (Nat.le_of_eq g166.symm))
            have F166_keys : Fld Z h166 b166 "com/example/baskit/baskit/ClientSide" "keys" "Lcom/example/baskit/baskit/Keys;" .null := D166 (Or.inr (W_ hw 87 rfl)) (ty := (.object "com/example/baskit/baskit/Keys")) (by decide)
            have F166_origins : Fld Z h166 b166 "com/example/baskit/baskit/ClientSide" "origins" "Ljava/util/Set;" .null := D166 (Or.inr (W_ hw 95 rfl)) (ty := (.object "java/util/Set")) (by decide)
            have F166_redeems : Fld Z h166 b166 "com/example/baskit/baskit/ClientSide" "redeems" "Z" (.int (0 : Int32)) := D166 (Or.inr (W_ hw 97 rfl)) (ty := .boolean) (by decide)
            refine Goes.via (B := T166.setTop (mkF m 134 #[iv x1, iv x2, iv x3, iv x4, rv bs1, rv bs3, iv mo, iv (0 : Int32), rv r138, iv wh, rv oa, u_, u_] [(.ref b166)])) (fun t k => st166 _ k) ?_
            refine Gv T166 135 [(.ref b166), (.ref b166)] (fun t k => XS.dup X166.here hx rfl (hb hby at_134) rfl rfl k) ?_
            obtain ⟨T169, h169, X169, e169, E169, A169, D169, U169, st169⟩ := newO X166 hx hZ165 hown165 (W_ hw 69 rfl) (W_ hw 70 rfl) (W_ hw 71 rfl) e166 (g := (mkF m 135 #[iv x1, iv x2, iv x3, iv x4, rv bs1, rv bs3, iv mo, iv (0 : Int32), rv r138, iv wh, rv oa, u_, u_] [(.ref b166), (.ref b166)])) rfl (hb hby at_135) (by decide) (by decide)
            obtain ⟨b169, g169⟩ : ∃ z, z = h166.size := ⟨_, rfl⟩
            rw [← g169] at A169 D169 U169 st169
            have gn169 : n0 ≤ b169 := Nat.le_trans (old_le (O165.ext E166)) (Nat.le_of_eq g169.symm)
            have hq170 := CHr.ext E169 hR167.1
            have hR170 := CHr.trans hR167 hq170
            have sf171 := Safe.ext E169 hR167.1 (Safe.new (Nat.le_of_eq g169.symm))
            have F169_id : Fld Z h169 b169 "com/example/baskit/baskit/Keys" "id" "Ljava/lang/String;" .null := D169 (Or.inr (W_ hw 79 rfl)) (ty := (.object "java/lang/String")) (by decide)
            have F169_token : Fld Z h169 b169 "com/example/baskit/baskit/Keys" "token" "Ljava/lang/String;" .null := D169 (Or.inr (W_ hw 81 rfl)) (ty := (.object "java/lang/String")) (by decide)
            refine Goes.via (B := T169.setTop (mkF m 138 #[iv x1, iv x2, iv x3, iv x4, rv bs1, rv bs3, iv mo, iv (0 : Int32), rv r138, iv wh, rv oa, u_, u_] [(.ref b169), (.ref b166), (.ref b166)])) (fun t k => st169 _ k) ?_
            refine Gv T169 139 [(.ref b169), (.ref b169), (.ref b166), (.ref b166)] (fun t k => XS.dup X169.here hx rfl (hb hby at_138) rfl rfl k) ?_
            obtain ⟨b172, T172, h172, k172, X172, e172, E172, hS172, hk172, hZ172, hown172, hC172, -, st172⟩ := ldcOH X169 hx hZ165 hown165 (W_ hw 72 rfl) (own_wS hw) e169 hS165 (Nat.le_trans (Nat.le_trans (Nat.le_refl _) E166.1) E169.1) hEL hR170.1 (g := (mkF m 139 #[iv x1, iv x2, iv x3, iv x4, rv bs1, rv bs3, iv mo, iv (0 : Int32), rv r138, iv wh, rv oa, u_, u_] [(.ref b169), (.ref b169), (.ref b166), (.ref b166)])) rfl (hb hby at_139) (n := 4) (by decide) (by decide) (by decide) (by decide)
            have hq173 := hC172
            have hR173 := CHr.trans hR170 hq173
            refine Goes.via (B := T172.setTop (mkF m 141 #[iv x1, iv x2, iv x3, iv x4, rv bs1, rv bs3, iv mo, iv (0 : Int32), rv r138, iv wh, rv oa, u_, u_] [(.ref b172), (.ref b169), (.ref b169), (.ref b166), (.ref b166)])) (fun t k => st172 _ k) ?_
            obtain ⟨b174, T174, h174, k174, X174, e174, E174, hS174, hk174, hZ174, hown174, hC174, -, st174⟩ := ldcOH X172 hx hZ172 hown172 (W_ hw 73 rfl) (own_wS hw) e172 hS172 hk172 hEL hR173.1 (g := (mkF m 141 #[iv x1, iv x2, iv x3, iv x4, rv bs1, rv bs3, iv mo, iv (0 : Int32), rv r138, iv wh, rv oa, u_, u_] [(.ref b172), (.ref b169), (.ref b169), (.ref b166), (.ref b166)])) rfl (hb hby at_141) (n := 4) (by decide) (by decide) (by decide) (by decide)
            have hq175 := hC174
            have hR175 := CHr.trans hR173 hq175
            refine Goes.via (B := T174.setTop (mkF m 143 #[iv x1, iv x2, iv x3, iv x4, rv bs1, rv bs3, iv mo, iv (0 : Int32), rv r138, iv wh, rv oa, u_, u_] [(.ref b174), (.ref b172), (.ref b169), (.ref b169), (.ref b166), (.ref b166)])) (fun t k => st174 _ k) ?_
            obtain ⟨_, T176, L176, X176, ⟨rfl, M176, K176⟩, st176⟩ := callInit X174 hx hZ174 rfl hown174 (W_ hw 74 rfl) (W_ hw 75 rfl) (W_ hw 71 rfl) (W_ hw 76 rfl) (by decide) (argsL := [(.ref b172), (.ref b174)]) (rest := [(.ref b169), (.ref b166), (.ref b166)]) (own_m19 l Z a0 hw [] b169 b172 b174 h174 n0 ((((O165.ext E166).ext E169).ext E172).ext E174) gn169 ((A169.ext E172).ext E174) ((F169_id.ext E172).ext E174) ((F169_token.ext E172).ext E174)) e174 (lenOf own_pd14 rfl) (pc := 143) (Ls := #[iv x1, iv x2, iv x3, iv x4, rv bs1, rv bs3, iv mo, iv (0 : Int32), rv r138, iv wh, rv oa, u_, u_]) (st := [(.ref b174), (.ref b172), (.ref b169), (.ref b169), (.ref b166), (.ref b166)]) rfl (by rw [hml]; rfl) (hb hby at_143) (W := 3) (Nat.le_of_eq rfl) (by decide) (by decide) (by decide) (by decide)
            have N176 := Fr.app N165 M176
            have hq177 := CHr.keep K176 (sfS (CHr.safe hq175 (Nat.le_trans A169.lt E172.1) (CHr.safe hq173 A169.lt sf171)) sf0) hR175.1
            have hR177 := CHr.trans hR175 hq177
            refine Goes.via (B := T176.setTop (mkF m 146 #[iv x1, iv x2, iv x3, iv x4, rv bs1, rv bs3, iv mo, iv (0 : Int32), rv r138, iv wh, rv oa, u_, u_] [(.ref b169), (.ref b166), (.ref b166)])) (fun t k => st176 _ k) ?_
            refine Gv T176 148 [(.ref r138), (.ref b169), (.ref b166), (.ref b166)] (fun t k => XS.aload X176.here hx rfl (hb hby at_146) rfl rfl k) ?_
            refine Gv T176 149 [(.int x4), (.ref r138), (.ref b169), (.ref b166), (.ref b166)] (fun t k => XS.iloadN X176.here hx rfl (hb hby at_148) rfl k) ?_
            refine Gv T176 150 [(.int (4 : Int32)), (.int x4), (.ref r138), (.ref b169), (.ref b166), (.ref b166)] (fun t k => XS.iconst X176.here hx rfl (hb hby at_149) k) ?_
            refine Gv T176 151 [(.int ((x4.toUInt32 >>> ((4 : Int32) &&& 31).toUInt32).toInt32)), (.ref r138), (.ref b169), (.ref b166), (.ref b166)] (fun t k => XS.iushr X176.here hx rfl (hb hby at_150) rfl k) ?_
            refine Gv T176 152 [(.int (1 : Int32)), (.int ((x4.toUInt32 >>> ((4 : Int32) &&& 31).toUInt32).toInt32)), (.ref r138), (.ref b169), (.ref b166), (.ref b166)] (fun t k => XS.iconst X176.here hx rfl (hb hby at_151) k) ?_
            refine Gv T176 153 [(.int (((x4.toUInt32 >>> ((4 : Int32) &&& 31).toUInt32).toInt32) &&& (1 : Int32))), (.ref r138), (.ref b169), (.ref b166), (.ref b166)] (fun t k => XS.iand X176.here hx rfl (hb hby at_152) rfl k) ?_
            have j178 : ∀ (rb : Int32) (hrb : rb = 0 ∨ rb = 1) , Goes p.tables e below (fun t o => ∃ v L, o = .returned v ∧ (own_Q29 Z x1 x2 x3 x4 z0 em es h0 n0) v t.heap L ∧ EndH Z consts_1 s o t L (room_1).cells (room_1).slots) (T176.setTop (mkF m 161 #[iv x1, iv x2, iv x3, iv x4, rv bs1, rv bs3, iv mo, iv (0 : Int32), rv r138, iv wh, rv oa, u_, u_] [(.int rb), (.ref r138), (.ref b169), (.ref b166), (.ref b166)])) := by
              intro rb hrb
              have c181 : Fld Z T176.heap b166 "com/example/baskit/baskit/ClientSide" "keys" "Lcom/example/baskit/baskit/Keys;" .null := ((((F166_keys.ext E169).ext E172).ext E174).keep K176 (ninS (Nat.ne_of_lt (Nat.lt_of_lt_of_le A166.lt (Nat.le_of_eq g169.symm))) nin0))
              have c182 : Fld Z T176.heap b166 "com/example/baskit/baskit/ClientSide" "origins" "Ljava/util/Set;" .null := ((((F166_origins.ext E169).ext E172).ext E174).keep K176 (ninS (Nat.ne_of_lt (Nat.lt_of_lt_of_le A166.lt (Nat.le_of_eq g169.symm))) nin0))
              have c183 : Fld Z T176.heap b166 "com/example/baskit/baskit/ClientSide" "redeems" "Z" (.int (0 : Int32)) := ((((F166_redeems.ext E169).ext E172).ext E174).keep K176 (ninS (Nat.ne_of_lt (Nat.lt_of_lt_of_le A166.lt (Nat.le_of_eq g169.symm))) nin0))
              have c184 : Exa Z T176.heap r138 "java/util/ImmutableCollections$Set12" := (((((F165_8.ext E166).ext E169).ext E172).ext E174).keep K176)
              obtain ⟨_, T180, L180, X180, ⟨rfl, M180, K180, f180_0, f180_1⟩, st180⟩ := callInit X176 hx hZ174 rfl hown174 (W_ hw 82 rfl) (W_ hw 83 rfl) (W_ hw 68 rfl) (W_ hw 84 rfl) (by decide) (argsL := [(.ref b169), (.ref r138), (.int rb)]) (rest := [(.ref b166)]) (own_m20 l Z a0 hw [] b166 b169 r138 rb T176.heap n0 (((((O165.ext E166).ext E169).ext E172).ext E174).keep K176 (allS gn169 all0)) hrb gn166 ((((A166.ext E169).ext E172).ext E174).keep K176) c181 c182 c183 c184) rfl (lenOf own_pd15 rfl) (pc := 161) (Ls := #[iv x1, iv x2, iv x3, iv x4, rv bs1, rv bs3, iv mo, iv (0 : Int32), rv r138, iv wh, rv oa, u_, u_]) (st := [(.int rb), (.ref r138), (.ref b169), (.ref b166), (.ref b166)]) rfl (by rw [hml]; rfl) (hb hby at_161) (W := 1) (Nat.le_of_eq rfl) (by decide) (by decide) (by decide) (by decide)
              have N180 := Fr.app N176 M180
              have hq185 := CHr.keep K180 (sfS (CHr.safe hq177 (Nat.le_trans (Nat.le_trans (Nat.le_trans A166.lt E169.1) E172.1) E174.1) (CHr.safe hq175 (Nat.le_trans (Nat.le_trans A166.lt E169.1) E172.1) (CHr.safe hq173 (Nat.le_trans A166.lt E169.1) (CHr.safe hq170 A166.lt sf168)))) sf0) hR177.1
              have hR185 := CHr.trans hR177 hq185
              refine Goes.via (B := T180.setTop (mkF m 164 #[iv x1, iv x2, iv x3, iv x4, rv bs1, rv bs3, iv mo, iv (0 : Int32), rv r138, iv wh, rv oa, u_, u_] [(.ref b166)])) (fun t k => st180 _ k) ?_
              refine Gv T180 166 [] (fun t k => XS.astore X180.here hx rfl (hb hby at_164) rfl rfl (l' := #[iv x1, iv x2, iv x3, iv x4, rv bs1, rv bs3, iv mo, iv (0 : Int32), rv r138, iv wh, rv oa, rv b166, u_]) rfl k) ?_
              refine Gv T180 168 [(.ref oa)] (fun t k => XS.aload X180.here hx rfl (hb hby at_166) rfl rfl k) ?_
              refine Gv T180 171 [] (fun t k => XS.ifnullNo X180.here hx rfl (hb hby at_168) rfl k) ?_
              refine Gv T180 173 [(.int mo)] (fun t k => XS.iload X180.here hx rfl (hb hby at_171) rfl k) ?_
              refine Gv T180 182 [] (fun t k => XS.ifYes X180.here hx rfl (pc0 := 173) (pc' := 182) rfl (hb hby at_173) rfl (XT.i0_ne_t b8) (by decide) (by decide) k) ?_
              refine Gv T180 184 [(.int (0 : Int32))] (fun t k => XS.iload X180.here hx rfl (hb hby at_182) rfl k) ?_
              refine Gv T180 199 [] (fun t k => XS.ifYes X180.here hx rfl (pc0 := 184) (pc' := 199) rfl (hb hby at_184) rfl (XT.i0_eq_t rfl) (by decide) (by decide) k) ?_
              refine Gv T180 201 [(.ref oa)] (fun t k => XS.aload X180.here hx rfl (hb hby at_199) rfl rfl k) ?_
              refine Gv T180 203 [(.ref bs1), (.ref oa)] (fun t k => XS.aload X180.here hx rfl (hb hby at_201) rfl rfl k) ?_
              have c186 : Exa Z T180.heap oa "java/lang/String" := ((((((F165_11.ext E166).ext E169).ext E172).ext E174).keep K176).keep K180)
              have c187 : Fld Z T180.heap oa "java/lang/String" "value" "[B" (.ref ot) := ((((((F165_12.ext E166).ext E169).ext E172).ext E174).keep K176 (ninS (Nat.ne_of_lt (Nat.lt_of_lt_of_le (Nat.le_trans F165_11.lt E166.1) (Nat.le_of_eq g169.symm))) nin0)).keep K180 (ninS (Nat.ne_of_lt (Nat.lt_of_lt_of_le F165_11.lt (Nat.le_of_eq g166.symm))) nin0))
              have c188 : Fld Z T180.heap oa "java/lang/String" "coder" "B" (.int (0 : Int32)) := ((((((F165_13.ext E166).ext E169).ext E172).ext E174).keep K176 (ninS (Nat.ne_of_lt (Nat.lt_of_lt_of_le (Nat.le_trans F165_11.lt E166.1) (Nat.le_of_eq g169.symm))) nin0)).keep K180 (ninS (Nat.ne_of_lt (Nat.lt_of_lt_of_le F165_11.lt (Nat.le_of_eq g166.symm))) nin0))
              have c189 : Arv Z T180.heap ot ok_ .byte (Int32.ofNat co.length) ((co.map StrChars.lo8).map Value.int) (.int 0) := ((((((F165_14.ext E166).ext E169).ext E172).ext E174).keep K176 (ninS (Nat.ne_of_lt (Nat.lt_of_lt_of_le (Nat.le_trans F165_14.lt E166.1) (Nat.le_of_eq g169.symm))) nin0)).keep K180 (ninS (Nat.ne_of_lt (Nat.lt_of_lt_of_le F165_14.lt (Nat.le_of_eq g166.symm))) nin0))
              have c190 : Exa Z T180.heap bs1 "java/lang/String" := ((((((F165_0.ext E166).ext E169).ext E172).ext E174).keep K176).keep K180)
              have c191 : Fld Z T180.heap bs1 "java/lang/String" "value" "[B" (.ref ts1) := ((((((F165_1.ext E166).ext E169).ext E172).ext E174).keep K176 (ninS (Nat.ne_of_lt (Nat.lt_of_lt_of_le (Nat.le_trans F165_0.lt E166.1) (Nat.le_of_eq g169.symm))) nin0)).keep K180 (ninS (Nat.ne_of_lt (Nat.lt_of_lt_of_le F165_0.lt (Nat.le_of_eq g166.symm))) nin0))
              have c192 : Fld Z T180.heap bs1 "java/lang/String" "coder" "B" (.int (0 : Int32)) := ((((((F165_2.ext E166).ext E169).ext E172).ext E174).keep K176 (ninS (Nat.ne_of_lt (Nat.lt_of_lt_of_le (Nat.le_trans F165_0.lt E166.1) (Nat.le_of_eq g169.symm))) nin0)).keep K180 (ninS (Nat.ne_of_lt (Nat.lt_of_lt_of_le F165_0.lt (Nat.le_of_eq g166.symm))) nin0))
              have c193 : Arv Z T180.heap ts1 ks1 .byte (Int32.ofNat (own_cs x1).length) (((own_cs x1).map StrChars.lo8).map Value.int) (.int 0) := ((((((F165_3.ext E166).ext E169).ext E172).ext E174).keep K176 (ninS (Nat.ne_of_lt (Nat.lt_of_lt_of_le (Nat.le_trans F165_3.lt E166.1) (Nat.le_of_eq g169.symm))) nin0)).keep K180 (ninS (Nat.ne_of_lt (Nat.lt_of_lt_of_le F165_3.lt (Nat.le_of_eq g166.symm))) nin0))
              obtain ⟨_, T194, L194, X194, ⟨rfl, M194, K194⟩, st194⟩ := callVirtB X180 hx hZ174 hown174 (W_ hw 103 rfl) (W_ hw 104 rfl) (W_ hw 106 rfl) (notFace_of_selects (args := #[]) (mvT hZ174 (W_ hw 106 rfl))) (W_ hw 105 rfl) (by decide) (argsL := [(.ref bs1)]) (rest := []) (W := 0) (own_eqI (s := (s.setVm T174.vm)) (W := 0) hZ174 (own_hw_wordsEq hw) (W_ hw 5 rfl) (x := oa) (cs := co) c186 c187 c188 c189 hco lco (y := bs1) (ds := (own_cs x1)) c190 c191 c192 c193 (own_csr x1) (own_csl x1) (Sta.ext ((((((O165.ext E166).ext E169).ext E172).ext E174).keep K176 (allS gn169 all0)).keep K180 (allS gn166 all0)).2 O_1) hz0 n0 (by decide) (by decide)) rfl c186 (lenOf own_pd9 rfl) (pc := 203) (Ls := #[iv x1, iv x2, iv x3, iv x4, rv bs1, rv bs3, iv mo, iv (0 : Int32), rv r138, iv wh, rv oa, rv b166, u_]) (st := [(.ref bs1), (.ref oa)]) rfl (by rw [hml]; rfl) (hb hby at_203) (Nat.le_of_eq rfl) (by decide) (by decide)
              have N194 := Fr.app N180 M194
              refine Goes.via (B := T194.setTop (mkF m 206 #[iv x1, iv x2, iv x3, iv x4, rv bs1, rv bs3, iv mo, iv (0 : Int32), rv r138, iv wh, rv oa, rv b166, u_] [(.int (own_eq co (own_cs x1)))])) (fun t k => st194 _ k) ?_
              by_cases b195 : (own_eq co (own_cs x1)) = (0 : Int32)
              · refine Gv T194 209 [] (fun t k => XS.ifNo X194.here hx rfl (hb hby at_206) rfl (XT.i0_ne_f b195) k) ?_
                refine Gv T194 211 [(.ref oa)] (fun t k => XS.aload X194.here hx rfl (hb hby at_209) rfl rfl k) ?_
                refine Gv T194 213 [(.ref bs3), (.ref oa)] (fun t k => XS.aload X194.here hx rfl (hb hby at_211) rfl rfl k) ?_
                have c196 : Exa Z T180.heap bs3 "java/lang/String" := ((((((F165_4.ext E166).ext E169).ext E172).ext E174).keep K176).keep K180)
                have c197 : Fld Z T180.heap bs3 "java/lang/String" "value" "[B" (.ref ts3) := ((((((F165_5.ext E166).ext E169).ext E172).ext E174).keep K176 (ninS (Nat.ne_of_lt (Nat.lt_of_lt_of_le (Nat.le_trans F165_4.lt E166.1) (Nat.le_of_eq g169.symm))) nin0)).keep K180 (ninS (Nat.ne_of_lt (Nat.lt_of_lt_of_le F165_4.lt (Nat.le_of_eq g166.symm))) nin0))
                have c198 : Fld Z T180.heap bs3 "java/lang/String" "coder" "B" (.int (0 : Int32)) := ((((((F165_6.ext E166).ext E169).ext E172).ext E174).keep K176 (ninS (Nat.ne_of_lt (Nat.lt_of_lt_of_le (Nat.le_trans F165_4.lt E166.1) (Nat.le_of_eq g169.symm))) nin0)).keep K180 (ninS (Nat.ne_of_lt (Nat.lt_of_lt_of_le F165_4.lt (Nat.le_of_eq g166.symm))) nin0))
                have c199 : Arv Z T180.heap ts3 ks3 .byte (Int32.ofNat (own_cs x2).length) (((own_cs x2).map StrChars.lo8).map Value.int) (.int 0) := ((((((F165_7.ext E166).ext E169).ext E172).ext E174).keep K176 (ninS (Nat.ne_of_lt (Nat.lt_of_lt_of_le (Nat.le_trans F165_7.lt E166.1) (Nat.le_of_eq g169.symm))) nin0)).keep K180 (ninS (Nat.ne_of_lt (Nat.lt_of_lt_of_le F165_7.lt (Nat.le_of_eq g166.symm))) nin0))
                obtain ⟨_, T200, L200, X200, ⟨rfl, M200, K200⟩, st200⟩ := callVirtB X194 hx hZ174 hown174 (W_ hw 103 rfl) (W_ hw 104 rfl) (W_ hw 106 rfl) (notFace_of_selects (args := #[]) (mvT hZ174 (W_ hw 106 rfl))) (W_ hw 105 rfl) (by decide) (argsL := [(.ref bs3)]) (rest := []) (W := 0) (own_eqI (s := (s.setVm T174.vm)) (W := 0) hZ174 (own_hw_wordsEq hw) (W_ hw 5 rfl) (x := oa) (cs := co) c186 c187 c188 c189 hco lco (y := bs3) (ds := (own_cs x2)) c196 c197 c198 c199 (own_csr x2) (own_csl x2) (Sta.ext ((((((O165.ext E166).ext E169).ext E172).ext E174).keep K176 (allS gn169 all0)).keep K180 (allS gn166 all0)).2 O_1) hz0 n0 (by decide) (by decide)) K194 c186 (lenOf own_pd9 rfl) (pc := 213) (Ls := #[iv x1, iv x2, iv x3, iv x4, rv bs1, rv bs3, iv mo, iv (0 : Int32), rv r138, iv wh, rv oa, rv b166, u_]) (st := [(.ref bs3), (.ref oa)]) rfl (by rw [hml]; rfl) (hb hby at_213) (Nat.le_of_eq rfl) (by decide) (by decide)
                have N200 := Fr.app N194 M200
                refine Goes.via (B := T200.setTop (mkF m 216 #[iv x1, iv x2, iv x3, iv x4, rv bs1, rv bs3, iv mo, iv (0 : Int32), rv r138, iv wh, rv oa, rv b166, u_] [(.int (own_eq co (own_cs x2)))])) (fun t k => st200 _ k) ?_
                by_cases b201 : (own_eq co (own_cs x2)) = (0 : Int32)
                · refine Gv T200 223 [] (fun t k => XS.ifYes X200.here hx rfl (pc0 := 216) (pc' := 223) rfl (hb hby at_216) rfl (XT.i0_eq_t b201) (by decide) (by decide) k) ?_
                  refine Gv T200 224 [(.int (0 : Int32))] (fun t k => XS.iconst X200.here hx rfl (hb hby at_223) k) ?_
                  refine Gv T200 226 [] (fun t k => XS.istore X200.here hx rfl (hb hby at_224) rfl (l' := #[iv x1, iv x2, iv x3, iv x4, rv bs1, rv bs3, iv mo, iv (0 : Int32), rv r138, iv wh, rv oa, rv b166, iv (0 : Int32)]) rfl k) ?_
                  refine Gv T200 228 [(.ref b166)] (fun t k => XS.aload X200.here hx rfl (hb hby at_226) rfl rfl k) ?_
                  refine Gv T200 230 [(.ref oa), (.ref b166)] (fun t k => XS.aload X200.here hx rfl (hb hby at_228) rfl rfl k) ?_
                  have c203 : Fld Z T180.heap r138 "java/util/ImmutableCollections$Set12" "e0" "Ljava/lang/Object;" (.ref bs1) := ((((((F165_9.ext E166).ext E169).ext E172).ext E174).keep K176 (ninS (Nat.ne_of_lt (Nat.lt_of_lt_of_le (Nat.le_trans F165_8.lt E166.1) (Nat.le_of_eq g169.symm))) nin0)).keep K180 (ninS (Nat.ne_of_lt (Nat.lt_of_lt_of_le F165_8.lt (Nat.le_of_eq g166.symm))) nin0))
                  have c204 : Fld Z T180.heap r138 "java/util/ImmutableCollections$Set12" "e1" "Ljava/lang/Object;" (.ref bs3) := ((((((F165_10.ext E166).ext E169).ext E172).ext E174).keep K176 (ninS (Nat.ne_of_lt (Nat.lt_of_lt_of_le (Nat.le_trans F165_8.lt E166.1) (Nat.le_of_eq g169.symm))) nin0)).keep K180 (ninS (Nat.ne_of_lt (Nat.lt_of_lt_of_le F165_8.lt (Nat.le_of_eq g166.symm))) nin0))
                  obtain ⟨_, T202, L202, X202, ⟨r202, rfl, M202, K202, p202_0⟩, st202⟩ := callVirt X200 hx hZ174 hown174 (W_ hw 98 rfl) (W_ hw 99 rfl) (W_ hw 101 rfl) (notFace_of_selects (args := #[]) (mvT hZ174 (W_ hw 101 rfl))) (W_ hw 100 rfl) (W_ hw 68 rfl) (W_ hw 102 rfl) (by decide) (argsL := [(.ref oa)]) (rest := []) (own_m27 l Z a0 hw [] b166 r138 bs1 bs3 ts1 ks1 ts3 ks3 (own_cs x1) (own_cs x2) z0 oa ot ok_ co T180.heap n0 ((((((O165.ext E166).ext E169).ext E172).ext E174).keep K176 (allS gn169 all0)).keep K180 (allS gn166 all0)) hz0 (own_csr x1) (own_csl x1) (own_csr x2) (own_csl x2) hco lco O_1 f180_0 f180_1 (c184.keep K180) c203 c204 c190 c191 c192 c193 c196 c197 c198 c199 c186 c187 c188 c189) K200 f180_0 (lenOf own_pd16 rfl) (pc := 230) (Ls := #[iv x1, iv x2, iv x3, iv x4, rv bs1, rv bs3, iv mo, iv (0 : Int32), rv r138, iv wh, rv oa, rv b166, iv (0 : Int32)]) (st := [(.ref oa), (.ref b166)]) rfl (by rw [hml]; rfl) (hb hby at_230) (W := 0) (Nat.le_of_eq rfl) (by decide) (by decide) (by decide) (by decide)
                  have N202 := Fr.app N200 M202
                  refine Goes.via (B := T202.setTop (mkF m 233 #[iv x1, iv x2, iv x3, iv x4, rv bs1, rv bs3, iv mo, iv (0 : Int32), rv r138, iv wh, rv oa, rv b166, iv (0 : Int32)] [(.int r202)])) (fun t k => st202 _ k) ?_
                  refine Gv T202 235 [(.int (0 : Int32)), (.int r202)] (fun t k => XS.iload X202.here hx rfl (hb hby at_233) rfl k) ?_
                  refine Gv T202 238 [] (fun t k => XS.icmpNo X202.here hx rfl (hb hby at_235) rfl (XT.ii_ne_f (p202_0.trans (by rw [if_pos b195, own_eqc, if_pos b201]))) k) ?_
                  refine Gv T202 239 [(.int (1 : Int32))] (fun t k => XS.iconst X202.here hx rfl (hb hby at_238) k) ?_
                  refine Gv T202 243 [(.int (1 : Int32))] (fun t k => XS.goto X202.here hx rfl (pc0 := 239) (pc' := 243) rfl (hb hby at_239) (by decide) (by decide) k) ?_
                  exact finN (Q := (own_Q29 Z x1 x2 x3 x4 z0 em es h0 n0)) (F := EndH Z consts_1) (C := (room_1).cells) (S := (room_1).slots) X202 hx (t := .boolean) Bd.returns (by simp) (z' := (1 : Int32)) rfl (hb hby at_243) K202 ⟨rfl, N202, trivial⟩ (lvH X202 hlk hS174 K202 (Nat.le_trans (Nat.le_trans hk174 K176.1) K180.1) hZ174 hEL hR185 (by decide) (by decide))
                · refine Gv T200 219 [] (fun t k => XS.ifNo X200.here hx rfl (hb hby at_216) rfl (XT.i0_eq_f b201) k) ?_
                  refine Gv T200 220 [(.int (1 : Int32))] (fun t k => XS.iconst X200.here hx rfl (hb hby at_219) k) ?_
                  refine Gv T200 224 [(.int (1 : Int32))] (fun t k => XS.goto X200.here hx rfl (pc0 := 220) (pc' := 224) rfl (hb hby at_220) (by decide) (by decide) k) ?_
                  refine Gv T200 226 [] (fun t k => XS.istore X200.here hx rfl (hb hby at_224) rfl (l' := #[iv x1, iv x2, iv x3, iv x4, rv bs1, rv bs3, iv mo, iv (0 : Int32), rv r138, iv wh, rv oa, rv b166, iv (1 : Int32)]) rfl k) ?_
                  refine Gv T200 228 [(.ref b166)] (fun t k => XS.aload X200.here hx rfl (hb hby at_226) rfl rfl k) ?_
                  refine Gv T200 230 [(.ref oa), (.ref b166)] (fun t k => XS.aload X200.here hx rfl (hb hby at_228) rfl rfl k) ?_
                  have c206 : Fld Z T180.heap r138 "java/util/ImmutableCollections$Set12" "e0" "Ljava/lang/Object;" (.ref bs1) := ((((((F165_9.ext E166).ext E169).ext E172).ext E174).keep K176 (ninS (Nat.ne_of_lt (Nat.lt_of_lt_of_le (Nat.le_trans F165_8.lt E166.1) (Nat.le_of_eq g169.symm))) nin0)).keep K180 (ninS (Nat.ne_of_lt (Nat.lt_of_lt_of_le F165_8.lt (Nat.le_of_eq g166.symm))) nin0))
                  have c207 : Fld Z T180.heap r138 "java/util/ImmutableCollections$Set12" "e1" "Ljava/lang/Object;" (.ref bs3) := ((((((F165_10.ext E166).ext E169).ext E172).ext E174).keep K176 (ninS (Nat.ne_of_lt (Nat.lt_of_lt_of_le (Nat.le_trans F165_8.lt E166.1) (Nat.le_of_eq g169.symm))) nin0)).keep K180 (ninS (Nat.ne_of_lt (Nat.lt_of_lt_of_le F165_8.lt (Nat.le_of_eq g166.symm))) nin0))
                  obtain ⟨_, T205, L205, X205, ⟨r205, rfl, M205, K205, p205_0⟩, st205⟩ := callVirt X200 hx hZ174 hown174 (W_ hw 98 rfl) (W_ hw 99 rfl) (W_ hw 101 rfl) (notFace_of_selects (args := #[]) (mvT hZ174 (W_ hw 101 rfl))) (W_ hw 100 rfl) (W_ hw 68 rfl) (W_ hw 102 rfl) (by decide) (argsL := [(.ref oa)]) (rest := []) (own_m27 l Z a0 hw [] b166 r138 bs1 bs3 ts1 ks1 ts3 ks3 (own_cs x1) (own_cs x2) z0 oa ot ok_ co T180.heap n0 ((((((O165.ext E166).ext E169).ext E172).ext E174).keep K176 (allS gn169 all0)).keep K180 (allS gn166 all0)) hz0 (own_csr x1) (own_csl x1) (own_csr x2) (own_csl x2) hco lco O_1 f180_0 f180_1 (c184.keep K180) c206 c207 c190 c191 c192 c193 c196 c197 c198 c199 c186 c187 c188 c189) K200 f180_0 (lenOf own_pd16 rfl) (pc := 230) (Ls := #[iv x1, iv x2, iv x3, iv x4, rv bs1, rv bs3, iv mo, iv (0 : Int32), rv r138, iv wh, rv oa, rv b166, iv (1 : Int32)]) (st := [(.ref oa), (.ref b166)]) rfl (by rw [hml]; rfl) (hb hby at_230) (W := 0) (Nat.le_of_eq rfl) (by decide) (by decide) (by decide) (by decide)
                  have N205 := Fr.app N200 M205
                  refine Goes.via (B := T205.setTop (mkF m 233 #[iv x1, iv x2, iv x3, iv x4, rv bs1, rv bs3, iv mo, iv (0 : Int32), rv r138, iv wh, rv oa, rv b166, iv (1 : Int32)] [(.int r205)])) (fun t k => st205 _ k) ?_
                  refine Gv T205 235 [(.int (1 : Int32)), (.int r205)] (fun t k => XS.iload X205.here hx rfl (hb hby at_233) rfl k) ?_
                  refine Gv T205 238 [] (fun t k => XS.icmpNo X205.here hx rfl (hb hby at_235) rfl (XT.ii_ne_f (p205_0.trans (by rw [if_pos b195, own_eqc, if_neg b201]))) k) ?_
                  refine Gv T205 239 [(.int (1 : Int32))] (fun t k => XS.iconst X205.here hx rfl (hb hby at_238) k) ?_
                  refine Gv T205 243 [(.int (1 : Int32))] (fun t k => XS.goto X205.here hx rfl (pc0 := 239) (pc' := 243) rfl (hb hby at_239) (by decide) (by decide) k) ?_
                  exact finN (Q := (own_Q29 Z x1 x2 x3 x4 z0 em es h0 n0)) (F := EndH Z consts_1) (C := (room_1).cells) (S := (room_1).slots) X205 hx (t := .boolean) Bd.returns (by simp) (z' := (1 : Int32)) rfl (hb hby at_243) K205 ⟨rfl, N205, trivial⟩ (lvH X205 hlk hS174 K205 (Nat.le_trans (Nat.le_trans hk174 K176.1) K180.1) hZ174 hEL hR185 (by decide) (by decide))
              · refine Gv T194 219 [] (fun t k => XS.ifYes X194.here hx rfl (pc0 := 206) (pc' := 219) rfl (hb hby at_206) rfl (XT.i0_ne_t b195) (by decide) (by decide) k) ?_
                refine Gv T194 220 [(.int (1 : Int32))] (fun t k => XS.iconst X194.here hx rfl (hb hby at_219) k) ?_
                refine Gv T194 224 [(.int (1 : Int32))] (fun t k => XS.goto X194.here hx rfl (pc0 := 220) (pc' := 224) rfl (hb hby at_220) (by decide) (by decide) k) ?_
                refine Gv T194 226 [] (fun t k => XS.istore X194.here hx rfl (hb hby at_224) rfl (l' := #[iv x1, iv x2, iv x3, iv x4, rv bs1, rv bs3, iv mo, iv (0 : Int32), rv r138, iv wh, rv oa, rv b166, iv (1 : Int32)]) rfl k) ?_
                refine Gv T194 228 [(.ref b166)] (fun t k => XS.aload X194.here hx rfl (hb hby at_226) rfl rfl k) ?_
                refine Gv T194 230 [(.ref oa), (.ref b166)] (fun t k => XS.aload X194.here hx rfl (hb hby at_228) rfl rfl k) ?_
                have c209 : Fld Z T180.heap r138 "java/util/ImmutableCollections$Set12" "e0" "Ljava/lang/Object;" (.ref bs1) := ((((((F165_9.ext E166).ext E169).ext E172).ext E174).keep K176 (ninS (Nat.ne_of_lt (Nat.lt_of_lt_of_le (Nat.le_trans F165_8.lt E166.1) (Nat.le_of_eq g169.symm))) nin0)).keep K180 (ninS (Nat.ne_of_lt (Nat.lt_of_lt_of_le F165_8.lt (Nat.le_of_eq g166.symm))) nin0))
                have c210 : Fld Z T180.heap r138 "java/util/ImmutableCollections$Set12" "e1" "Ljava/lang/Object;" (.ref bs3) := ((((((F165_10.ext E166).ext E169).ext E172).ext E174).keep K176 (ninS (Nat.ne_of_lt (Nat.lt_of_lt_of_le (Nat.le_trans F165_8.lt E166.1) (Nat.le_of_eq g169.symm))) nin0)).keep K180 (ninS (Nat.ne_of_lt (Nat.lt_of_lt_of_le F165_8.lt (Nat.le_of_eq g166.symm))) nin0))
                have c211 : Exa Z T180.heap bs3 "java/lang/String" := ((((((F165_4.ext E166).ext E169).ext E172).ext E174).keep K176).keep K180)
                have c212 : Fld Z T180.heap bs3 "java/lang/String" "value" "[B" (.ref ts3) := ((((((F165_5.ext E166).ext E169).ext E172).ext E174).keep K176 (ninS (Nat.ne_of_lt (Nat.lt_of_lt_of_le (Nat.le_trans F165_4.lt E166.1) (Nat.le_of_eq g169.symm))) nin0)).keep K180 (ninS (Nat.ne_of_lt (Nat.lt_of_lt_of_le F165_4.lt (Nat.le_of_eq g166.symm))) nin0))
                have c213 : Fld Z T180.heap bs3 "java/lang/String" "coder" "B" (.int (0 : Int32)) := ((((((F165_6.ext E166).ext E169).ext E172).ext E174).keep K176 (ninS (Nat.ne_of_lt (Nat.lt_of_lt_of_le (Nat.le_trans F165_4.lt E166.1) (Nat.le_of_eq g169.symm))) nin0)).keep K180 (ninS (Nat.ne_of_lt (Nat.lt_of_lt_of_le F165_4.lt (Nat.le_of_eq g166.symm))) nin0))
                have c214 : Arv Z T180.heap ts3 ks3 .byte (Int32.ofNat (own_cs x2).length) (((own_cs x2).map StrChars.lo8).map Value.int) (.int 0) := ((((((F165_7.ext E166).ext E169).ext E172).ext E174).keep K176 (ninS (Nat.ne_of_lt (Nat.lt_of_lt_of_le (Nat.le_trans F165_7.lt E166.1) (Nat.le_of_eq g169.symm))) nin0)).keep K180 (ninS (Nat.ne_of_lt (Nat.lt_of_lt_of_le F165_7.lt (Nat.le_of_eq g166.symm))) nin0))
                obtain ⟨_, T208, L208, X208, ⟨r208, rfl, M208, K208, p208_0⟩, st208⟩ := callVirt X194 hx hZ174 hown174 (W_ hw 98 rfl) (W_ hw 99 rfl) (W_ hw 101 rfl) (notFace_of_selects (args := #[]) (mvT hZ174 (W_ hw 101 rfl))) (W_ hw 100 rfl) (W_ hw 68 rfl) (W_ hw 102 rfl) (by decide) (argsL := [(.ref oa)]) (rest := []) (own_m27 l Z a0 hw [] b166 r138 bs1 bs3 ts1 ks1 ts3 ks3 (own_cs x1) (own_cs x2) z0 oa ot ok_ co T180.heap n0 ((((((O165.ext E166).ext E169).ext E172).ext E174).keep K176 (allS gn169 all0)).keep K180 (allS gn166 all0)) hz0 (own_csr x1) (own_csl x1) (own_csr x2) (own_csl x2) hco lco O_1 f180_0 f180_1 (c184.keep K180) c209 c210 c190 c191 c192 c193 c211 c212 c213 c214 c186 c187 c188 c189) K194 f180_0 (lenOf own_pd16 rfl) (pc := 230) (Ls := #[iv x1, iv x2, iv x3, iv x4, rv bs1, rv bs3, iv mo, iv (0 : Int32), rv r138, iv wh, rv oa, rv b166, iv (1 : Int32)]) (st := [(.ref oa), (.ref b166)]) rfl (by rw [hml]; rfl) (hb hby at_230) (W := 0) (Nat.le_of_eq rfl) (by decide) (by decide) (by decide) (by decide)
                have N208 := Fr.app N194 M208
                refine Goes.via (B := T208.setTop (mkF m 233 #[iv x1, iv x2, iv x3, iv x4, rv bs1, rv bs3, iv mo, iv (0 : Int32), rv r138, iv wh, rv oa, rv b166, iv (1 : Int32)] [(.int r208)])) (fun t k => st208 _ k) ?_
                refine Gv T208 235 [(.int (1 : Int32)), (.int r208)] (fun t k => XS.iload X208.here hx rfl (hb hby at_233) rfl k) ?_
                refine Gv T208 238 [] (fun t k => XS.icmpNo X208.here hx rfl (hb hby at_235) rfl (XT.ii_ne_f (p208_0.trans (if_neg b195))) k) ?_
                refine Gv T208 239 [(.int (1 : Int32))] (fun t k => XS.iconst X208.here hx rfl (hb hby at_238) k) ?_
                refine Gv T208 243 [(.int (1 : Int32))] (fun t k => XS.goto X208.here hx rfl (pc0 := 239) (pc' := 243) rfl (hb hby at_239) (by decide) (by decide) k) ?_
                exact finN (Q := (own_Q29 Z x1 x2 x3 x4 z0 em es h0 n0)) (F := EndH Z consts_1) (C := (room_1).cells) (S := (room_1).slots) X208 hx (t := .boolean) Bd.returns (by simp) (z' := (1 : Int32)) rfl (hb hby at_243) K208 ⟨rfl, N208, trivial⟩ (lvH X208 hlk hS174 K208 (Nat.le_trans (Nat.le_trans hk174 K176.1) K180.1) hZ174 hEL hR185 (by decide) (by decide))
            by_cases b215 : (((x4.toUInt32 >>> ((4 : Int32) &&& 31).toUInt32).toInt32) &&& (1 : Int32)) = (0 : Int32)
            · refine Gv T176 160 [(.ref r138), (.ref b169), (.ref b166), (.ref b166)] (fun t k => XS.ifYes X176.here hx rfl (pc0 := 153) (pc' := 160) rfl (hb hby at_153) rfl (XT.i0_eq_t b215) (by decide) (by decide) k) ?_
              refine Gv T176 161 [(.int (0 : Int32)), (.ref r138), (.ref b169), (.ref b166), (.ref b166)] (fun t k => XS.iconst X176.here hx rfl (hb hby at_160) k) ?_
              exact j178 (0 : Int32) (Or.inl rfl)
            · refine Gv T176 156 [(.ref r138), (.ref b169), (.ref b166), (.ref b166)] (fun t k => XS.ifNo X176.here hx rfl (hb hby at_153) rfl (XT.i0_eq_f b215) k) ?_
              refine Gv T176 157 [(.int (1 : Int32)), (.ref r138), (.ref b169), (.ref b166), (.ref b166)] (fun t k => XS.iconst X176.here hx rfl (hb hby at_156) k) ?_
              refine Gv T176 161 [(.int (1 : Int32)), (.ref r138), (.ref b169), (.ref b166), (.ref b166)] (fun t k => XS.goto X176.here hx rfl (pc0 := 157) (pc' := 161) rfl (hb hby at_157) (by decide) (by decide) k) ?_
              exact j178 (1 : Int32) (Or.inr rfl)
          by_cases b216 : wh = (1 : Int32)
          · refine Gv T138 101 [] (fun t k => XS.icmpNo X138.here hx rfl (hb hby at_98) rfl (XT.ii_ne_f b216) k) ?_
            refine Gv T138 102 [(.int x1)] (fun t k => XS.iloadN X138.here hx rfl (hb hby at_101) rfl k) ?_
            obtain ⟨_, T217, L217, X217, hS217, hZ217, hown217, hC217, ⟨bs217, ts217, ks217, rfl, M217, K217, z217_0, f217_0, f217_1, f217_2, f217_3⟩, st217⟩ := callStaticH X138 hx hZ7 hS7 (Nat.le_trans (Nat.le_refl _) K138.1) hEL hR139.1 (sf := []) all0 hown7 (W_ hw 0 rfl) (W_ hw 1 rfl) (W_ hw 2 rfl) (W_ hw 3 rfl) (by decide) (argsL := [(.int x1)]) (rest := []) (own_m7 l Z a0 hw [] x1 z0 T138.heap n0 (((O0.keep K1 all0).keep K3 all0).keep K138 all0) hz0 O_1) rfl (lenOf own_pd12 rfl) (pc := 102) (Ls := #[iv x1, iv x2, iv x3, iv x4, rv bs1, rv bs3, iv mo, iv (0 : Int32), rv r138, iv wh, u_, u_, u_]) (st := [(.int x1)]) rfl (by rw [hml]; rfl) (hb hby at_102) (W := 0) (Nat.le_of_eq rfl) (by decide) (by decide) (by decide) (by decide)
            have N217 := Fr.app N138 M217
            have gn217_0 : n0 ≤ bs217 := Nat.le_trans (old_le (((O0.keep K1 all0).keep K3 all0).keep K138 all0)) z217_0
            have hq218 := hC217
            have hR218 := CHr.trans hR139 hq218
            refine Goes.via (B := T217.setTop (mkF m 105 #[iv x1, iv x2, iv x3, iv x4, rv bs1, rv bs3, iv mo, iv (0 : Int32), rv r138, iv wh, u_, u_, u_] [(.ref bs217)])) (fun t k => st217 _ k) ?_
            refine Gv T217 107 [] (fun t k => XS.astore X217.here hx rfl (hb hby at_105) rfl rfl (l' := #[iv x1, iv x2, iv x3, iv x4, rv bs1, rv bs3, iv mo, iv (0 : Int32), rv r138, iv wh, rv bs217, u_, u_]) rfl k) ?_
            refine Gv T217 131 [] (fun t k => XS.goto X217.here hx rfl (pc0 := 107) (pc' := 131) rfl (hb hby at_107) (by decide) (by decide) k) ?_
            obtain ⟨Xr219, hSr219, hZr219, hor219⟩ := rebase X217 hS217 rfl (Nat.le_refl _) hZ217 hown217
            exact j164 T217 _ T217.heap Xr219 rfl N217 hSr219 hZr219 hor219 (CHr.trans hR218 (CHv.at X217 hZ217 hEL hR218.1)) bs217 ts217 ks217 (own_cs x1) ((((O0.keep K1 all0).keep K3 all0).keep K138 all0).keep K217 all0) (((f1_0.keep K3).keep K138).keep K217) (((f1_1.keep K3 nin0).keep K138 nin0).keep K217 nin0) (((f1_2.keep K3 nin0).keep K138 nin0).keep K217 nin0) (((f1_3.keep K3 nin0).keep K138 nin0).keep K217 nin0) ((f3_0.keep K138).keep K217) ((f3_1.keep K138 nin0).keep K217 nin0) ((f3_2.keep K138 nin0).keep K217 nin0) ((f3_3.keep K138 nin0).keep K217 nin0) (f138_0.keep K217) (f138_1.keep K217 nin0) (f138_2.keep K217 nin0) f217_0 f217_1 f217_2 f217_3 (own_csr x1) (own_csl x1) gn217_0
          · refine Gv T138 110 [] (fun t k => XS.icmpYes X138.here hx rfl (pc0 := 98) (pc' := 110) rfl (hb hby at_98) rfl (XT.ii_ne_t b216) (by decide) (by decide) k) ?_
            refine Gv T138 112 [(.int wh)] (fun t k => XS.iload X138.here hx rfl (hb hby at_110) rfl k) ?_
            refine Gv T138 113 [(.int (2 : Int32)), (.int wh)] (fun t k => XS.iconst X138.here hx rfl (hb hby at_112) k) ?_
            by_cases b220 : wh = (2 : Int32)
            · refine Gv T138 116 [] (fun t k => XS.icmpNo X138.here hx rfl (hb hby at_113) rfl (XT.ii_ne_f b220) k) ?_
              refine Gv T138 117 [(.int x2)] (fun t k => XS.iloadN X138.here hx rfl (hb hby at_116) rfl k) ?_
              obtain ⟨_, T221, L221, X221, hS221, hZ221, hown221, hC221, ⟨bs221, ts221, ks221, rfl, M221, K221, z221_0, f221_0, f221_1, f221_2, f221_3⟩, st221⟩ := callStaticH X138 hx hZ7 hS7 (Nat.le_trans (Nat.le_refl _) K138.1) hEL hR139.1 (sf := []) all0 hown7 (W_ hw 0 rfl) (W_ hw 1 rfl) (W_ hw 2 rfl) (W_ hw 3 rfl) (by decide) (argsL := [(.int x2)]) (rest := []) (own_m7 l Z a0 hw [] x2 z0 T138.heap n0 (((O0.keep K1 all0).keep K3 all0).keep K138 all0) hz0 O_1) rfl (lenOf own_pd12 rfl) (pc := 117) (Ls := #[iv x1, iv x2, iv x3, iv x4, rv bs1, rv bs3, iv mo, iv (0 : Int32), rv r138, iv wh, u_, u_, u_]) (st := [(.int x2)]) rfl (by rw [hml]; rfl) (hb hby at_117) (W := 0) (Nat.le_of_eq rfl) (by decide) (by decide) (by decide) (by decide)
              have N221 := Fr.app N138 M221
              have gn221_0 : n0 ≤ bs221 := Nat.le_trans (old_le (((O0.keep K1 all0).keep K3 all0).keep K138 all0)) z221_0
              have hq222 := hC221
              have hR222 := CHr.trans hR139 hq222
              refine Goes.via (B := T221.setTop (mkF m 120 #[iv x1, iv x2, iv x3, iv x4, rv bs1, rv bs3, iv mo, iv (0 : Int32), rv r138, iv wh, u_, u_, u_] [(.ref bs221)])) (fun t k => st221 _ k) ?_
              refine Gv T221 122 [] (fun t k => XS.astore X221.here hx rfl (hb hby at_120) rfl rfl (l' := #[iv x1, iv x2, iv x3, iv x4, rv bs1, rv bs3, iv mo, iv (0 : Int32), rv r138, iv wh, rv bs221, u_, u_]) rfl k) ?_
              refine Gv T221 131 [] (fun t k => XS.goto X221.here hx rfl (pc0 := 122) (pc' := 131) rfl (hb hby at_122) (by decide) (by decide) k) ?_
              obtain ⟨Xr223, hSr223, hZr223, hor223⟩ := rebase X221 hS221 rfl (Nat.le_refl _) hZ221 hown221
              exact j164 T221 _ T221.heap Xr223 rfl N221 hSr223 hZr223 hor223 (CHr.trans hR222 (CHv.at X221 hZ221 hEL hR222.1)) bs221 ts221 ks221 (own_cs x2) ((((O0.keep K1 all0).keep K3 all0).keep K138 all0).keep K221 all0) (((f1_0.keep K3).keep K138).keep K221) (((f1_1.keep K3 nin0).keep K138 nin0).keep K221 nin0) (((f1_2.keep K3 nin0).keep K138 nin0).keep K221 nin0) (((f1_3.keep K3 nin0).keep K138 nin0).keep K221 nin0) ((f3_0.keep K138).keep K221) ((f3_1.keep K138 nin0).keep K221 nin0) ((f3_2.keep K138 nin0).keep K221 nin0) ((f3_3.keep K138 nin0).keep K221 nin0) (f138_0.keep K221) (f138_1.keep K221 nin0) (f138_2.keep K221 nin0) f221_0 f221_1 f221_2 f221_3 (own_csr x2) (own_csl x2) gn221_0
            · refine Gv T138 125 [] (fun t k => XS.icmpYes X138.here hx rfl (pc0 := 113) (pc' := 125) rfl (hb hby at_113) rfl (XT.ii_ne_t b220) (by decide) (by decide) k) ?_
              refine Gv T138 126 [(.int x3)] (fun t k => XS.iloadN X138.here hx rfl (hb hby at_125) rfl k) ?_
              obtain ⟨_, T224, L224, X224, hS224, hZ224, hown224, hC224, ⟨bs224, ts224, ks224, rfl, M224, K224, z224_0, f224_0, f224_1, f224_2, f224_3⟩, st224⟩ := callStaticH X138 hx hZ7 hS7 (Nat.le_trans (Nat.le_refl _) K138.1) hEL hR139.1 (sf := []) all0 hown7 (W_ hw 0 rfl) (W_ hw 1 rfl) (W_ hw 2 rfl) (W_ hw 3 rfl) (by decide) (argsL := [(.int x3)]) (rest := []) (own_m7 l Z a0 hw [] x3 z0 T138.heap n0 (((O0.keep K1 all0).keep K3 all0).keep K138 all0) hz0 O_1) rfl (lenOf own_pd12 rfl) (pc := 126) (Ls := #[iv x1, iv x2, iv x3, iv x4, rv bs1, rv bs3, iv mo, iv (0 : Int32), rv r138, iv wh, u_, u_, u_]) (st := [(.int x3)]) rfl (by rw [hml]; rfl) (hb hby at_126) (W := 0) (Nat.le_of_eq rfl) (by decide) (by decide) (by decide) (by decide)
              have N224 := Fr.app N138 M224
              have gn224_0 : n0 ≤ bs224 := Nat.le_trans (old_le (((O0.keep K1 all0).keep K3 all0).keep K138 all0)) z224_0
              have hq225 := hC224
              have hR225 := CHr.trans hR139 hq225
              refine Goes.via (B := T224.setTop (mkF m 129 #[iv x1, iv x2, iv x3, iv x4, rv bs1, rv bs3, iv mo, iv (0 : Int32), rv r138, iv wh, u_, u_, u_] [(.ref bs224)])) (fun t k => st224 _ k) ?_
              refine Gv T224 131 [] (fun t k => XS.astore X224.here hx rfl (hb hby at_129) rfl rfl (l' := #[iv x1, iv x2, iv x3, iv x4, rv bs1, rv bs3, iv mo, iv (0 : Int32), rv r138, iv wh, rv bs224, u_, u_]) rfl k) ?_
              obtain ⟨Xr226, hSr226, hZr226, hor226⟩ := rebase X224 hS224 rfl (Nat.le_refl _) hZ224 hown224
              exact j164 T224 _ T224.heap Xr226 rfl N224 hSr226 hZr226 hor226 (CHr.trans hR225 (CHv.at X224 hZ224 hEL hR225.1)) bs224 ts224 ks224 (own_cs x3) ((((O0.keep K1 all0).keep K3 all0).keep K138 all0).keep K224 all0) (((f1_0.keep K3).keep K138).keep K224) (((f1_1.keep K3 nin0).keep K138 nin0).keep K224 nin0) (((f1_2.keep K3 nin0).keep K138 nin0).keep K224 nin0) (((f1_3.keep K3 nin0).keep K138 nin0).keep K224 nin0) ((f3_0.keep K138).keep K224) ((f3_1.keep K138 nin0).keep K224 nin0) ((f3_2.keep K138 nin0).keep K224 nin0) ((f3_3.keep K138 nin0).keep K224 nin0) (f138_0.keep K224) (f138_1.keep K224 nin0) (f138_2.keep K224 nin0) f224_0 f224_1 f224_2 f224_3 (own_csr x3) (own_csl x3) gn224_0
  refine Gv T3 19 [(.int mo)] (fun t k => XS.iload X3.here hx rfl (hb hby at_17) rfl k) ?_
  refine Gv T3 20 [(.int (1 : Int32)), (.int mo)] (fun t k => XS.iconst X3.here hx rfl (hb hby at_19) k) ?_
  by_cases b227 : mo = (1 : Int32)
  · refine Gv T3 33 [] (fun t k => XS.icmpYes X3.here hx rfl (pc0 := 20) (pc' := 33) rfl (hb hby at_20) rfl (XT.ii_eq_t b227) (by decide) (by decide) k) ?_
    refine Gv T3 34 [(.int (1 : Int32))] (fun t k => XS.iconst X3.here hx rfl (hb hby at_33) k) ?_
    refine Gv T3 38 [(.int (1 : Int32))] (fun t k => XS.goto X3.here hx rfl (pc0 := 34) (pc' := 38) rfl (hb hby at_34) (by decide) (by decide) k) ?_
    refine Gv T3 40 [] (fun t k => XS.istore X3.here hx rfl (hb hby at_38) rfl (l' := #[iv x1, iv x2, iv x3, iv x4, rv bs1, rv bs3, iv mo, iv (1 : Int32), u_, u_, u_, u_, u_]) rfl k) ?_
    obtain ⟨Xr228, hSr228, hZr228, hor228⟩ := rebase X3 hS3 rfl (Nat.le_refl _) hZ3 hown3
    exact j6 T3 _ Xr228 rfl N3 hSr228 hZr228 hor228 (CHr.trans hR4 (CHv.at X3 hZ3 hEL hR4.1)) (1 : Int32) (Or.inl rfl)
  · refine Gv T3 23 [] (fun t k => XS.icmpNo X3.here hx rfl (hb hby at_20) rfl (XT.ii_eq_f b227) k) ?_
    refine Gv T3 25 [(.ref bs1)] (fun t k => XS.aload X3.here hx rfl (hb hby at_23) rfl rfl k) ?_
    refine Gv T3 27 [(.ref bs3), (.ref bs1)] (fun t k => XS.aload X3.here hx rfl (hb hby at_25) rfl rfl k) ?_
    obtain ⟨_, T229, L229, X229, ⟨rfl, M229, K229⟩, st229⟩ := callVirtB X3 hx hZ3 hown3 (W_ hw 103 rfl) (W_ hw 104 rfl) (W_ hw 106 rfl) (notFace_of_selects (args := #[]) (mvT hZ3 (W_ hw 106 rfl))) (W_ hw 105 rfl) (by decide) (argsL := [(.ref bs3)]) (rest := []) (W := 0) (own_eqI (s := (s.setVm T3.vm)) (W := 0) hZ3 (own_hw_wordsEq hw) (W_ hw 5 rfl) (x := bs1) (cs := (own_cs x1)) (f1_0.keep K3) (f1_1.keep K3 nin0) (f1_2.keep K3 nin0) (f1_3.keep K3 nin0) (own_csr x1) (own_csl x1) (y := bs3) (ds := (own_cs x2)) f3_0 f3_1 f3_2 f3_3 (own_csr x2) (own_csl x2) (Sta.ext ((O0.keep K1 all0).keep K3 all0).2 O_1) hz0 n0 (by decide) (by decide)) rfl (f1_0.keep K3) (lenOf own_pd9 rfl) (pc := 27) (Ls := #[iv x1, iv x2, iv x3, iv x4, rv bs1, rv bs3, iv mo, u_, u_, u_, u_, u_, u_]) (st := [(.ref bs3), (.ref bs1)]) rfl (by rw [hml]; rfl) (hb hby at_27) (Nat.le_of_eq rfl) (by decide) (by decide)
    have N229 := Fr.app N3 M229
    refine Goes.via (B := T229.setTop (mkF m 30 #[iv x1, iv x2, iv x3, iv x4, rv bs1, rv bs3, iv mo, u_, u_, u_, u_, u_, u_] [(.int (own_eq (own_cs x1) (own_cs x2)))])) (fun t k => st229 _ k) ?_
    by_cases b230 : (own_eq (own_cs x1) (own_cs x2)) = (0 : Int32)
    · refine Gv T229 37 [] (fun t k => XS.ifYes X229.here hx rfl (pc0 := 30) (pc' := 37) rfl (hb hby at_30) rfl (XT.i0_eq_t b230) (by decide) (by decide) k) ?_
      refine Gv T229 38 [(.int (0 : Int32))] (fun t k => XS.iconst X229.here hx rfl (hb hby at_37) k) ?_
      refine Gv T229 40 [] (fun t k => XS.istore X229.here hx rfl (hb hby at_38) rfl (l' := #[iv x1, iv x2, iv x3, iv x4, rv bs1, rv bs3, iv mo, iv (0 : Int32), u_, u_, u_, u_, u_]) rfl k) ?_
      obtain ⟨Xr231, hSr231, hZr231, hor231⟩ := rebase X229 hS3 K229 (Nat.le_refl _) hZ3 hown3
      exact j6 T229 _ Xr231 K229 N229 hSr231 hZr231 hor231 (CHr.trans hR4 (CHv.at X229 hZ3 hEL hR4.1)) (0 : Int32) (Or.inr ⟨rfl, own_eqn b230⟩)
    · refine Gv T229 33 [] (fun t k => XS.ifNo X229.here hx rfl (hb hby at_30) rfl (XT.i0_eq_f b230) k) ?_
      refine Gv T229 34 [(.int (1 : Int32))] (fun t k => XS.iconst X229.here hx rfl (hb hby at_33) k) ?_
      refine Gv T229 38 [(.int (1 : Int32))] (fun t k => XS.goto X229.here hx rfl (pc0 := 34) (pc' := 38) rfl (hb hby at_34) (by decide) (by decide) k) ?_
      refine Gv T229 40 [] (fun t k => XS.istore X229.here hx rfl (hb hby at_38) rfl (l' := #[iv x1, iv x2, iv x3, iv x4, rv bs1, rv bs3, iv mo, iv (1 : Int32), u_, u_, u_, u_, u_]) rfl k) ?_
      obtain ⟨Xr232, hSr232, hZr232, hor232⟩ := rebase X229 hS3 K229 (Nat.le_refl _) hZ3 hown3
      exact j6 T229 _ Xr232 K229 N229 hSr232 hZr232 hor232 (CHr.trans hR4 (CHv.at X229 hZ3 hEL hR4.1)) (1 : Int32) (Or.inl rfl)
set_option maxRecDepth 65536 in
set_option maxHeartbeats 40000000 in
theorem comes_1 {Post : Tables → Env → Array Value → State → Outcome → State → Prop} (hpost : ∀ tb e args s v u, (limb_1_1.after args s (.returned v) u = true ∧ limb_1_2.after args s (.returned v) u = true ∧ True) → ReturnedEndW s (.returned v) u (Jvm.fieldLocs frame_1_writes args s ++ Jvm.arrayLocs frame_1_arrays args s ++ Jvm.staticLocs frame_1_statics s) 40 3264 → Post tb e args s (.returned v) u) :
    ArmFor flags0 classFile x code maxLocals ret World_1 tables_1 room_1 Calls_1 rest_1 Pre_1 Post := by
  intro l hfl _ _ p e ha hc hk s m args below hf hA hF happ hP
  obtain ⟨hcalls, hrest, hpre⟩ := hP
  obtain ⟨-, -, -, hnamed, -, -, -, hat⟩ := (Spec.applies_iff hf).mp happ
  obtain ⟨hg, hn⟩ := and_e (Cond.before_iff.mp (show (Jvm.Cond.and given_1 narrow_1).before args s = true from hpre))
  obtain ⟨g_0, r_0⟩ := and_e hg
  obtain ⟨g_1, r_1⟩ := and_e r_0
  obtain ⟨g_2, r_2⟩ := and_e r_1
  obtain ⟨g_3, r_3⟩ := and_e r_2
  obtain ⟨w0, w1, w2, w3, rfl⟩ : ∃ w0 w1 w2 w3 : Value, args = #[w0, w1, w2, w3] := by
    have hs : args.size = 4 := by simpa [Cond.value, given_1] using g_0
    obtain ⟨L⟩ := args
    match L, hs with
    | [w0, w1, w2, w3], _ => exact ⟨w0, w1, w2, w3, rfl⟩
  have hw := fun d (hd : d ∈ tables_1) => atoms_spec (ws := Jvm.Cond.code x code maxLocals ret :: tables_1) hat d (List.mem_cons_of_mem _ hd)
  obtain ⟨hsets, hown0⟩ := atoms_of _ (rest_1_c_eq ▸ (show rest_1_c.before _ s = true from hrest))
  have hfit : Fit s := fun {y c} hc i hi => by
    obtain ⟨ha, rfl⟩ := Array.getElem?_eq_some_iff.mp hc
    have q := List.all_eq_true.mp ((Array.all_eq_true_iff_forall_mem.mp hF) _ (Array.getElem_mem ha)) i (List.mem_range.mpr hi)
    simpa [Array.getElem?_eq_getElem hi] using q
  obtain ⟨i0, ei0⟩ := is_v g_1
  obtain rfl : w0 = (.int i0) := Option.some.inj ei0
  obtain ⟨i1, ei1⟩ := is_v g_2
  obtain rfl : w1 = (.int i1) := Option.some.inj ei1
  obtain ⟨i2, ei2⟩ := is_v g_3
  obtain rfl : w2 = (.int i2) := Option.some.inj ei2
  obtain ⟨i3, ei3⟩ := is_v r_3
  obtain rfl : w3 = (.int i3) := Option.some.inj ei3
  have n_0 := hn
  have n_cs := not_v (Cond.before_iff.mp (hsets _ (List.mem_of_getElem? (i := 11) rfl)))
  obtain ⟨z0, e_cs⟩ := is_v (Cond.before_iff.mp (hsets _ (List.mem_of_getElem? (i := 10) rfl)))
  have S_cs : Sta s s.heap "java/lang/String" "COMPACT_STRINGS" "Z" (.int z0) := Sta.start e_cs (Or.inl (hsets _ (List.mem_of_getElem? (i := 9) rfl)))
  have hz0 : ¬ (z0 = (0 : Int32)) := gotF (Cond.eq_ints e_cs (Term.int_eval (0))) n_cs
  obtain ⟨st_EMPTY, es_EMPTY⟩ := exa_v (Cond.before_iff.mp (hsets _ (List.mem_of_getElem? (i := 2) rfl)))
  have S_EMPTY : Sta s s.heap "java/util/ImmutableCollections" "EMPTY" "Ljava/lang/Object;" (.ref st_EMPTY) := Sta.start es_EMPTY (Or.inl (hsets _ (List.mem_of_getElem? (i := 1) rfl)))
  have E_EMPTY : Exa s s.heap st_EMPTY "java/lang/Object" := Exa.start es_EMPTY (Cond.before_iff.mp (hsets _ (List.mem_of_getElem? (i := 2) rfl)))
  obtain ⟨st_EMPTY_SET, es_EMPTY_SET⟩ := exa_v (Cond.before_iff.mp (hsets _ (List.mem_of_getElem? (i := 20) rfl)))
  have S_EMPTY_SET : Sta s s.heap "java/util/ImmutableCollections" "EMPTY_SET" "Ljava/util/ImmutableCollections$SetN;" (.ref st_EMPTY_SET) := Sta.start es_EMPTY_SET (Or.inl (hsets _ (List.mem_of_getElem? (i := 19) rfl)))
  have E_EMPTY_SET : Exa s s.heap st_EMPTY_SET "java/util/ImmutableCollections$SetN" := Exa.start es_EMPTY_SET (Cond.before_iff.mp (hsets _ (List.mem_of_getElem? (i := 20) rfl)))
  have Q_EMPTY_SET_size : Fld s s.heap st_EMPTY_SET "java/util/ImmutableCollections$SetN" "size" "I" (.int (0 : Int32)) := fld_int es_EMPTY_SET (Cond.before_iff.mp (hsets _ (List.mem_of_getElem? (i := 24) rfl)))
  have hCH : CHv s consts_1 s.vm s.heap := CHv.start (own_EW hw) (fun p hp => hcalls.1 p hp) (hsets _ (List.mem_of_getElem? (i := 11) rfl)) (W_ hw 19 rfl) (W_ hw 5 rfl)
  obtain ⟨n, o, h1, h2, h3, _, L, rfl, ⟨rfl, N, -⟩, -, hq⟩ := own_m29 l s _ hw tables_1 i0 i1 i2 i3 z0 st_EMPTY st_EMPTY_SET s.heap s.heap.size (Old.start s) hz0 E_EMPTY.lt S_cs S_EMPTY E_EMPTY S_EMPTY_SET E_EMPTY_SET Q_EMPTY_SET_size p e ha hc hk s m _ below hf ((Spec.applies_iff_loose hf).mp happ).1 ⟨rfl, State.Warmed39.refl s, rfl, hCH, fun _ q => nomatch q⟩ trivial
  refine ⟨n, _, h1, h2, h3, hpost _ _ _ _ _ _ ⟨Cond.after_iff.mpr rfl, Cond.after_iff.mpr (eq_i res_at (Term.int_eval (1)) rfl), trivial⟩ ⟨hq.1, hq.2.1, hq.2.2.1, (hq.2.2.2.sift fun y hy => Or.inr (N y hy)).mono (by decide) (by decide)⟩⟩
theorem main_1_1 : Claimed_1_1 := comes_1 fun _ _ _ _ _ _ h hF => ⟨h.1, hF⟩
theorem main_1_2 : Claimed_1_2 := comes_1 fun _ _ _ _ _ _ h hF => ⟨h.2.1, hF⟩
end Jvm.Pilot.@@N@@
namespace Jvm.Pilot.@@N@@
open Jvm Jvm.ClassFile Sem Op Lib Jvm.Free Jvm.Stand Jvm.Pilot.@@N@@.Jvm.D
/-! MADE BY PROGRAM (witnessworld.py) out of the Statement's table words and the real class files: 37 classes; the members and pool entries that the words name. The judged class is class 1, her method 2. -/
namespace start1
open Jvm.ClassFile
def u (s : String) : CpInfo := .utf8 (stringToUtf16 s)
/-- a pool by its gaps: so many unusable entries, then the entry; so many at the end -/
def gap : Nat → List CpInfo → List CpInfo
  | 0, r => r
  | n + 1, r => .unusable :: gap n r
def poolList (es : List (Nat × CpInfo)) (last : Nat) : List CpInfo := es.foldr (fun e r => gap e.1 (e.2 :: r)) (gap last [])
def pool (es : List (Nat × CpInfo)) (last : Nat) : Array CpInfo := ⟨poolList es last⟩
def fileOf (pool : Array CpInfo) (this : Nat) (attrs : Array Attribute := #[]) (ms : Array MethodInfo := #[]) (fl : Nat := 33) (sup : Nat := 0) (ifs : Array Nat := #[]) (fds : Array FieldInfo := #[]) : ClassFile where
  minorVersion := 0
  majorVersion := 65
  constantPool := pool
  accessFlags := fl
  thisClass := this
  superClass := sup
  interfaces := ifs
  fields := fds
  methods := ms
  attributes := attrs
def plain (name : String) (sup : Option ClassId) : Class where
  name := name
  kind := .ordinary
  loader := none
  accessFlags := 33
  super := sup
  interfaces := #[]
  cf := none
  fields := #[]
  methods := #[]
  instanceTypes := #[]
  staticTypes := #[]
  resolved := #[]
  callSites := []
  init := .initialized
  statics := none
  mirror := none

def pool0 : Array CpInfo := pool [(5, u "<init>"), (0, u "()V"), (1, .class_ 10), (1, u "java/lang/Object"), (81, u "equals"), (0, u "(Ljava/lang/Object;)Z")] 30

def k0c0 : Code := { maxStack := 0, maxLocals := 1, code := object_method_1_code, exceptionTable := #[], attributes := #[] }
def k0m0 : Method := { name := "<init>", desc := "()V", sig := { parameters := [], returnType := none }, accessFlags := 1, code := some k0c0 }
def k0c1 : Code := { maxStack := 2, maxLocals := 2, code := object_method_4_code, exceptionTable := #[], attributes := #[] }
def k0m1 : Method := { name := "equals", desc := "(Ljava/lang/Object;)Z", sig := { parameters := [(.object "java/lang/Object")], returnType := some .boolean }, accessFlags := 1, code := some k0c1 }
/-- java/lang/Object -/
def k0 : Class := { plain "java/lang/Object" none with
  accessFlags := 33
  interfaces := #[]
  cf := some (fileOf pool0 8 #[] #[{ accessFlags := 1, nameIndex := 5, descriptorIndex := 6, attributes := #[] }, { accessFlags := 1, nameIndex := 92, descriptorIndex := 93, attributes := #[] }] 33 0 #[] #[])
  fields := #[]
  methods := #[k0m0, k0m1]
  instanceTypes := #[]
  staticTypes := #[]
  resolved := Array.replicate 124 none
  statics := none }

def pool1 : Array CpInfo := pool [(2, .class_ 4), (1, u "java/lang/Object"), (0, u "<init>"), (0, u "()V"), (0, .class_ 8), (0, u "java/lang/String"), (0, .methodref 7 10), (0, .nameAndType 5 11), (0, u "([C)V"), (0, .methodref 7 13), (0, .nameAndType 14 15), (0, u "valueOf"), (0, u "(C)Ljava/lang/String;"), (0, .methodref 17 18), (0, .class_ 19), (0, .nameAndType 20 21), (0, u "com/example/baskit/baskit/ClientSideAllowsPinLaw"), (0, u "draw"), (0, u "(I)Ljava/lang/String;"), (0, .methodref 7 23), (0, .nameAndType 24 25), (0, u "equals"), (0, u "(Ljava/lang/Object;)Z"), (0, .interfaceMethodref 27 28), (0, .class_ 29), (0, .nameAndType 30 31), (0, u "java/util/Set"), (0, u "of"), (0, u "()Ljava/util/Set;"), (0, .interfaceMethodref 27 33), (0, .nameAndType 30 34), (0, u "(Ljava/lang/Object;)Ljava/util/Set;"), (0, .interfaceMethodref 27 36), (0, .nameAndType 30 37), (0, u "(Ljava/lang/Object;Ljava/lang/Object;)Ljava/util/Set;"), (0, .class_ 39), (0, u "com/example/baskit/baskit/ClientSide"), (0, .class_ 41), (0, u "com/example/baskit/baskit/Keys"), (0, .string 43), (0, u "k"), (0, .string 45), (0, u "t"), (0, .methodref 40 47), (0, .nameAndType 5 48), (0, u "(Ljava/lang/String;Ljava/lang/String;)V"), (0, .methodref 38 50), (0, .nameAndType 5 51), (0, u "(Lcom/example/baskit/baskit/Keys;Ljava/util/Set;Z)V"), (0, .methodref 38 53), (0, .nameAndType 54 55), (0, u "allows"), (0, u "(Ljava/lang/String;)Z"), (3, u "law"), (0, u "(IIII)Z")] 2

def k1m0 : Method := { name := "<init>", desc := "()V", sig := { parameters := [], returnType := none }, accessFlags := 1, code := none }
def k1c1 : Code := { maxStack := 4, maxLocals := 3, code := method_2_code, exceptionTable := #[], attributes := #[] }
def k1m1 : Method := { name := "draw", desc := "(I)Ljava/lang/String;", sig := { parameters := [.int], returnType := some (.object "java/lang/String") }, accessFlags := 10, code := some k1c1 }
def k1c2 : Code := { maxStack := 6, maxLocals := 13, code := code, exceptionTable := #[], attributes := #[] }
def k1m2 : Method := { name := "law", desc := "(IIII)Z", sig := { parameters := [.int, .int, .int, .int], returnType := some .boolean }, accessFlags := 9, code := some k1c2 }
/-- com/example/baskit/baskit/ClientSideAllowsPinLaw -/
def k1 : Class := { plain "com/example/baskit/baskit/ClientSideAllowsPinLaw" (some 0) with
  accessFlags := 49
  interfaces := #[]
  cf := some (fileOf pool1 17 #[] #[{ accessFlags := 1, nameIndex := 5, descriptorIndex := 6, attributes := #[] }, { accessFlags := 10, nameIndex := 20, descriptorIndex := 21, attributes := #[] }, { accessFlags := 9, nameIndex := 59, descriptorIndex := 60, attributes := #[] }] 49 2 #[] #[])
  fields := #[]
  methods := #[k1m0, k1m1, k1m2]
  instanceTypes := #[]
  staticTypes := #[]
  resolved := Array.replicate 63 none
  statics := none }

def pool2 : Array CpInfo := pool [(1, .class_ 2), (0, u "java/io/Serializable"), (0, .class_ 4), (0, u "java/lang/Object")] 2

/-- java/io/Serializable -/
def k2 : Class := { plain "java/io/Serializable" (some 0) with
  accessFlags := 1537
  interfaces := #[]
  cf := some (fileOf pool2 1 #[] #[] 1537 3 #[] #[])
  fields := #[]
  methods := #[]
  instanceTypes := #[]
  staticTypes := #[]
  resolved := Array.replicate 7 none
  statics := none }

def pool3 : Array CpInfo := pool [(1, .class_ 2), (0, u "java/lang/Comparable"), (0, .class_ 4), (0, u "java/lang/Object")] 7

/-- java/lang/Comparable -/
def k3 : Class := { plain "java/lang/Comparable" (some 0) with
  accessFlags := 1537
  interfaces := #[]
  cf := some (fileOf pool3 1 #[] #[] 1537 3 #[] #[])
  fields := #[]
  methods := #[]
  instanceTypes := #[]
  staticTypes := #[]
  resolved := Array.replicate 12 none
  statics := none }

def pool4 : Array CpInfo := pool [(2, .class_ 4), (1, u "java/lang/CharSequence"), (42, .class_ 48), (0, u "java/lang/CharSequence$1CodePointIterator"), (10, .class_ 60), (0, u "java/lang/CharSequence$1CharIterator"), (5, .class_ 67), (0, u "java/lang/Object")] 63

/-- java/lang/CharSequence -/
def k4 : Class := { plain "java/lang/CharSequence" (some 0) with
  accessFlags := 1537
  interfaces := #[]
  cf := some (fileOf pool4 2 #[.nestMembers #[47, 59]] #[] 1537 66 #[] #[])
  fields := #[]
  methods := #[]
  instanceTypes := #[]
  staticTypes := #[]
  resolved := Array.replicate 131 none
  statics := none }

def pool5 : Array CpInfo := pool [(1, .class_ 2), (0, u "java/lang/constant/Constable"), (0, .class_ 4), (0, u "java/lang/Object")] 6

/-- java/lang/constant/Constable -/
def k5 : Class := { plain "java/lang/constant/Constable" (some 0) with
  accessFlags := 1537
  interfaces := #[]
  cf := some (fileOf pool5 1 #[] #[] 1537 3 #[] #[])
  fields := #[]
  methods := #[]
  instanceTypes := #[]
  staticTypes := #[]
  resolved := Array.replicate 11 none
  statics := none }

def pool6 : Array CpInfo := pool [(1, .class_ 2), (0, u "java/lang/constant/ConstantDesc"), (0, .class_ 4), (0, u "java/lang/Object")] 32

/-- java/lang/constant/ConstantDesc -/
def k6 : Class := { plain "java/lang/constant/ConstantDesc" (some 0) with
  accessFlags := 1537
  interfaces := #[]
  cf := some (fileOf pool6 1 #[] #[] 1537 3 #[] #[])
  fields := #[]
  methods := #[]
  instanceTypes := #[]
  staticTypes := #[]
  resolved := Array.replicate 37 none
  statics := none }

def pool7 : Array CpInfo := pool [(1, .methodref 2 3), (0, .class_ 4), (0, .nameAndType 5 6), (0, u "java/lang/Object"), (0, u "<init>"), (0, u "()V"), (0, .string 8), (0, u ""), (0, .fieldref 10 11), (0, .class_ 12), (0, .nameAndType 13 14), (0, u "java/lang/String"), (0, u "value"), (0, u "[B"), (0, .fieldref 10 16), (0, .nameAndType 17 18), (0, u "coder"), (0, u "B"), (2, u "hash"), (0, u "I"), (2, u "hashIsZero"), (0, u "Z"), (0, .methodref 10 28), (0, .nameAndType 5 29), (0, u "([CIILjava/lang/Void;)V"), (8, .fieldref 10 39), (0, .nameAndType 40 26), (0, u "COMPACT_STRINGS"), (1, .class_ 44), (1, u "java/lang/StringUTF16"), (0, u "compress"), (1, .methodref 42 48), (0, .nameAndType 49 50), (0, u "coderFromArrayLen"), (0, u "([BI)B"), (2, u "toBytes"), (53, .class_ 109), (1, u "java/lang/StringLatin1"), (67, .methodref 42 178), (0, .nameAndType 45 179), (0, u "([CII)[B"), (29, .methodref 10 210), (0, .nameAndType 5 211), (0, u "([BB)V"), (157, u "(C)Z"), (171, .methodref 107 542), (0, .nameAndType 543 544), (0, u "equals"), (0, u "([B[B)Z"), (28, u "(Ljava/lang/Object;)Z"), (1, .class_ 576), (0, u "java/lang/CharSequence"), (22, u "CASE_INSENSITIVE_ORDER"), (0, u "Ljava/util/Comparator;"), (181, u "valueOf"), (0, u "(C)Ljava/lang/String;"), (226, u "([C)V"), (4, .methodref 107 1016), (0, .nameAndType 1017 369), (0, u "canEncode"), (0, .methodref 107 1019), (0, .nameAndType 53 1020), (0, u "(C)[B"), (80, u "serialPersistentFields"), (0, u "[Ljava/io/ObjectStreamField;"), (0, .class_ 1104), (0, u "java/lang/String$CaseInsensitiveComparator"), (1, .class_ 1107), (0, u "java/io/Serializable"), (0, .class_ 1109), (0, u "java/lang/Comparable"), (0, .class_ 1111), (0, u "java/lang/constant/Constable"), (0, .class_ 1113), (0, u "java/lang/constant/ConstantDesc"), (2, u "serialVersionUID"), (0, u "J"), (3, u "REPL"), (0, u "C"), (2, u "LATIN1"), (1, u "UTF16")] 323

def k7m0 : Method := { name := "<init>", desc := "()V", sig := { parameters := [], returnType := none }, accessFlags := 1, code := none }
def k7c1 : Code := { maxStack := 5, maxLocals := 2, code := jdk_42_method_3_code, exceptionTable := #[], attributes := #[] }
def k7m1 : Method := { name := "<init>", desc := "([C)V", sig := { parameters := [(.array .char)], returnType := none }, accessFlags := 1, code := some k7c1 }
def k7c2 : Code := { maxStack := 2, maxLocals := 3, code := jdk_42_method_66_code, exceptionTable := #[], attributes := #[] }
def k7m2 : Method := { name := "equals", desc := "(Ljava/lang/Object;)Z", sig := { parameters := [(.object "java/lang/Object")], returnType := some .boolean }, accessFlags := 1, code := some k7c2 }
def k7c3 : Code := { maxStack := 4, maxLocals := 1, code := jdk_42_method_139_code, exceptionTable := #[], attributes := #[] }
def k7m3 : Method := { name := "valueOf", desc := "(C)Ljava/lang/String;", sig := { parameters := [.char], returnType := some (.object "java/lang/String") }, accessFlags := 9, code := some k7c3 }
def k7c4 : Code := { maxStack := 4, maxLocals := 6, code := jdk_42_method_149_code, exceptionTable := #[], attributes := #[] }
def k7m4 : Method := { name := "<init>", desc := "([CIILjava/lang/Void;)V", sig := { parameters := [(.array .char), .int, .int, (.object "java/lang/Void")], returnType := none }, accessFlags := 2, code := some k7c4 }
def k7c5 : Code := { maxStack := 2, maxLocals := 3, code := jdk_42_method_151_code, exceptionTable := #[], attributes := #[] }
def k7m5 : Method := { name := "<init>", desc := "([BB)V", sig := { parameters := [(.array .byte), .byte], returnType := none }, accessFlags := 0, code := some k7c5 }
/-- java/lang/String -/
def k7 : Class := { plain "java/lang/String" (some 0) with
  accessFlags := 49
  interfaces := #[2, 3, 4, 5, 6]
  cf := some (fileOf pool7 10 #[.nestMembers #[1103]] #[{ accessFlags := 1, nameIndex := 5, descriptorIndex := 6, attributes := #[] }, { accessFlags := 1, nameIndex := 5, descriptorIndex := 1010, attributes := #[] }, { accessFlags := 1, nameIndex := 543, descriptorIndex := 573, attributes := #[] }, { accessFlags := 9, nameIndex := 782, descriptorIndex := 783, attributes := #[] }, { accessFlags := 2, nameIndex := 5, descriptorIndex := 29, attributes := #[] }, { accessFlags := 0, nameIndex := 5, descriptorIndex := 211, attributes := #[] }] 49 2 #[1106, 1108, 575, 1110, 1112] #[{ accessFlags := 18, nameIndex := 13, descriptorIndex := 14, attributes := #[] }, { accessFlags := 18, nameIndex := 17, descriptorIndex := 18, attributes := #[] }, { accessFlags := 2, nameIndex := 21, descriptorIndex := 22, attributes := #[] }, { accessFlags := 2, nameIndex := 25, descriptorIndex := 26, attributes := #[] }, { accessFlags := 26, nameIndex := 1116, descriptorIndex := 1117, attributes := #[] }, { accessFlags := 24, nameIndex := 40, descriptorIndex := 26, attributes := #[] }, { accessFlags := 26, nameIndex := 1101, descriptorIndex := 1102, attributes := #[] }, { accessFlags := 26, nameIndex := 1121, descriptorIndex := 1122, attributes := #[] }, { accessFlags := 25, nameIndex := 599, descriptorIndex := 600, attributes := #[] }, { accessFlags := 24, nameIndex := 1125, descriptorIndex := 18, attributes := #[] }, { accessFlags := 24, nameIndex := 1127, descriptorIndex := 18, attributes := #[] }])
  fields := #[{ name := "value", type := (.array .byte), accessFlags := 18, slot := 0, constantValue := 0 }, { name := "coder", type := .byte, accessFlags := 18, slot := 1, constantValue := 0 }, { name := "hash", type := .int, accessFlags := 2, slot := 2, constantValue := 0 }, { name := "hashIsZero", type := .boolean, accessFlags := 2, slot := 3, constantValue := 0 }, { name := "serialVersionUID", type := .long, accessFlags := 26, slot := 0, constantValue := 0 }, { name := "COMPACT_STRINGS", type := .boolean, accessFlags := 24, slot := 1, constantValue := 0 }, { name := "serialPersistentFields", type := (.array (.object "java/io/ObjectStreamField")), accessFlags := 26, slot := 2, constantValue := 0 }, { name := "REPL", type := .char, accessFlags := 26, slot := 3, constantValue := 0 }, { name := "CASE_INSENSITIVE_ORDER", type := (.object "java/util/Comparator"), accessFlags := 25, slot := 4, constantValue := 0 }, { name := "LATIN1", type := .byte, accessFlags := 24, slot := 5, constantValue := 0 }, { name := "UTF16", type := .byte, accessFlags := 24, slot := 6, constantValue := 0 }]
  methods := #[k7m0, k7m1, k7m2, k7m3, k7m4, k7m5]
  instanceTypes := #[(.array .byte), .byte, .int, .boolean]
  staticTypes := #[.long, .boolean, (.array (.object "java/io/ObjectStreamField")), .char, (.object "java/util/Comparator"), .byte, .byte]
  resolved := Array.replicate 1451 none
  statics := some 0 }

def pool8 : Array CpInfo := pool [(8, .class_ 10), (1, u "java/lang/Iterable"), (24, .class_ 36), (0, u "java/lang/Object")] 25

/-- java/lang/Iterable -/
def k8 : Class := { plain "java/lang/Iterable" (some 0) with
  accessFlags := 1537
  interfaces := #[]
  cf := some (fileOf pool8 8 #[] #[] 1537 35 #[] #[])
  fields := #[]
  methods := #[]
  instanceTypes := #[]
  staticTypes := #[]
  resolved := Array.replicate 62 none
  statics := none }

def pool9 : Array CpInfo := pool [(10, .class_ 12), (1, u "java/util/Collection"), (47, .class_ 61), (0, u "java/lang/Object"), (0, .class_ 63), (0, u "java/lang/Iterable")] 51

/-- java/util/Collection -/
def k9 : Class := { plain "java/util/Collection" (some 0) with
  accessFlags := 1537
  interfaces := #[8]
  cf := some (fileOf pool9 10 #[] #[] 1537 60 #[62] #[])
  fields := #[]
  methods := #[]
  instanceTypes := #[]
  staticTypes := #[]
  resolved := Array.replicate 115 none
  statics := none }

def pool10 : Array CpInfo := pool [(9, .fieldref 10 11), (0, .class_ 12), (0, .nameAndType 13 14), (0, u "java/util/ImmutableCollections"), (0, u "EMPTY_SET"), (0, u "Ljava/util/ImmutableCollections$SetN;"), (0, .class_ 16), (0, u "java/util/ImmutableCollections$Set12"), (0, .methodref 15 18), (0, .nameAndType 19 20), (0, u "<init>"), (0, u "(Ljava/lang/Object;)V"), (0, .methodref 15 22), (0, .nameAndType 19 23), (0, u "(Ljava/lang/Object;Ljava/lang/Object;)V"), (2, .class_ 27), (0, u "java/lang/Object"), (3, .class_ 32), (0, u "java/util/ImmutableCollections$AbstractImmutableSet"), (0, .class_ 34), (0, u "java/util/Set"), (1, .class_ 38), (1, u "java/util/Collection"), (4, u "of"), (0, u "()Ljava/util/Set;"), (14, u "contains"), (0, u "(Ljava/lang/Object;)Z"), (30, u "(Ljava/lang/Object;)Ljava/util/Set;"), (4, u "(Ljava/lang/Object;Ljava/lang/Object;)Ljava/util/Set;"), (34, u "copyOf"), (0, u "(Ljava/util/Collection;)Ljava/util/Set;")] 11

def k10m0 : Method := { name := "contains", desc := "(Ljava/lang/Object;)Z", sig := { parameters := [(.object "java/lang/Object")], returnType := some .boolean }, accessFlags := 1025, code := none }
def k10c1 : Code := { maxStack := 1, maxLocals := 0, code := jdk_96_method_17_code, exceptionTable := #[], attributes := #[] }
def k10m1 : Method := { name := "of", desc := "()Ljava/util/Set;", sig := { parameters := [], returnType := some (.object "java/util/Set") }, accessFlags := 9, code := some k10c1 }
def k10c2 : Code := { maxStack := 3, maxLocals := 1, code := jdk_96_method_18_code, exceptionTable := #[], attributes := #[] }
def k10m2 : Method := { name := "of", desc := "(Ljava/lang/Object;)Ljava/util/Set;", sig := { parameters := [(.object "java/lang/Object")], returnType := some (.object "java/util/Set") }, accessFlags := 9, code := some k10c2 }
def k10c3 : Code := { maxStack := 4, maxLocals := 2, code := jdk_96_method_19_code, exceptionTable := #[], attributes := #[] }
def k10m3 : Method := { name := "of", desc := "(Ljava/lang/Object;Ljava/lang/Object;)Ljava/util/Set;", sig := { parameters := [(.object "java/lang/Object"), (.object "java/lang/Object")], returnType := some (.object "java/util/Set") }, accessFlags := 9, code := some k10c3 }
def k10c4 : Code := { maxStack := 3, maxLocals := 1, code := jdk_96_method_29_code, exceptionTable := #[], attributes := #[] }
def k10m4 : Method := { name := "copyOf", desc := "(Ljava/util/Collection;)Ljava/util/Set;", sig := { parameters := [(.object "java/util/Collection")], returnType := some (.object "java/util/Set") }, accessFlags := 9, code := some k10c4 }
/-- java/util/Set -/
def k10 : Class := { plain "java/util/Set" (some 0) with
  accessFlags := 1537
  interfaces := #[9]
  cf := some (fileOf pool10 33 #[] #[{ accessFlags := 1025, nameIndex := 59, descriptorIndex := 60, attributes := #[] }, { accessFlags := 9, nameIndex := 43, descriptorIndex := 44, attributes := #[] }, { accessFlags := 9, nameIndex := 43, descriptorIndex := 91, attributes := #[] }, { accessFlags := 9, nameIndex := 43, descriptorIndex := 96, attributes := #[] }, { accessFlags := 9, nameIndex := 131, descriptorIndex := 132, attributes := #[] }] 1537 26 #[36] #[])
  fields := #[]
  methods := #[k10m0, k10m1, k10m2, k10m3, k10m4]
  instanceTypes := #[]
  staticTypes := #[]
  resolved := Array.replicate 144 none
  statics := none }

def pool11 : Array CpInfo := pool [(1, .methodref 2 3), (0, .class_ 4), (0, .nameAndType 5 6), (0, u "java/lang/Object"), (0, u "<init>"), (0, u "()V"), (1, .class_ 10), (1, u "java/util/AbstractCollection"), (66, .class_ 78), (0, u "java/util/Collection")] 81

def k11c0 : Code := { maxStack := 1, maxLocals := 1, code := jdk_22_method_1_code, exceptionTable := #[], attributes := #[] }
def k11m0 : Method := { name := "<init>", desc := "()V", sig := { parameters := [], returnType := none }, accessFlags := 4, code := some k11c0 }
/-- java/util/AbstractCollection -/
def k11 : Class := { plain "java/util/AbstractCollection" (some 0) with
  accessFlags := 1057
  interfaces := #[9]
  cf := some (fileOf pool11 8 #[] #[{ accessFlags := 4, nameIndex := 5, descriptorIndex := 6, attributes := #[] }] 1057 2 #[77] #[])
  fields := #[]
  methods := #[k11m0]
  instanceTypes := #[]
  staticTypes := #[]
  resolved := Array.replicate 160 none
  statics := none }

def pool12 : Array CpInfo := pool [(1, .methodref 2 3), (0, .class_ 4), (0, .nameAndType 5 6), (0, u "java/util/AbstractCollection"), (0, u "<init>"), (0, u "()V"), (1, .class_ 10), (1, u "java/util/ImmutableCollections"), (2, .class_ 14), (0, u "java/util/ImmutableCollections$AbstractImmutableCollection")] 41

def k12c0 : Code := { maxStack := 1, maxLocals := 1, code := jdk_47_method_1_code, exceptionTable := #[], attributes := #[] }
def k12m0 : Method := { name := "<init>", desc := "()V", sig := { parameters := [], returnType := none }, accessFlags := 0, code := some k12c0 }
/-- java/util/ImmutableCollections$AbstractImmutableCollection -/
def k12 : Class := { plain "java/util/ImmutableCollections$AbstractImmutableCollection" (some 11) with
  accessFlags := 1056
  interfaces := #[]
  cf := some (fileOf pool12 13 #[.nestHost 8] #[{ accessFlags := 0, nameIndex := 5, descriptorIndex := 6, attributes := #[] }] 1056 2 #[] #[])
  fields := #[]
  methods := #[k12m0]
  instanceTypes := #[]
  staticTypes := #[]
  resolved := Array.replicate 56 none
  statics := none }

def pool13 : Array CpInfo := pool [(1, .methodref 2 3), (0, .class_ 4), (0, .nameAndType 5 6), (0, u "java/util/ImmutableCollections$AbstractImmutableCollection"), (0, u "<init>"), (0, u "()V"), (0, .class_ 8), (0, u "java/util/Set"), (7, .class_ 17), (0, u "java/util/ImmutableCollections$AbstractImmutableSet"), (43, .class_ 62), (0, u "java/util/ImmutableCollections")] 3

def k13c0 : Code := { maxStack := 1, maxLocals := 1, code := jdk_100_method_1_code, exceptionTable := #[], attributes := #[] }
def k13m0 : Method := { name := "<init>", desc := "()V", sig := { parameters := [], returnType := none }, accessFlags := 0, code := some k13c0 }
/-- java/util/ImmutableCollections$AbstractImmutableSet -/
def k13 : Class := { plain "java/util/ImmutableCollections$AbstractImmutableSet" (some 12) with
  accessFlags := 1056
  interfaces := #[10]
  cf := some (fileOf pool13 16 #[.nestHost 61] #[{ accessFlags := 0, nameIndex := 5, descriptorIndex := 6, attributes := #[] }] 1056 2 #[7] #[])
  fields := #[]
  methods := #[k13m0]
  instanceTypes := #[]
  staticTypes := #[]
  resolved := Array.replicate 66 none
  statics := none }

def pool14 : Array CpInfo := pool [(1, .methodref 2 3), (0, .class_ 4), (0, .nameAndType 5 6), (0, u "java/util/ImmutableCollections$AbstractImmutableSet"), (0, u "<init>"), (0, u "()V"), (0, .methodref 8 9), (0, .class_ 10), (0, .nameAndType 11 12), (0, u "java/util/Objects"), (0, u "requireNonNull"), (0, u "(Ljava/lang/Object;)Ljava/lang/Object;"), (0, .fieldref 14 15), (0, .class_ 16), (0, .nameAndType 17 18), (0, u "java/util/ImmutableCollections$Set12"), (0, u "e0"), (0, u "Ljava/lang/Object;"), (0, .fieldref 20 21), (0, .class_ 22), (0, .nameAndType 23 18), (0, u "java/util/ImmutableCollections"), (0, u "EMPTY"), (0, .fieldref 14 25), (0, .nameAndType 26 18), (0, u "e1"), (0, .methodref 28 29), (0, .class_ 30), (0, .nameAndType 31 32), (0, u "java/lang/Object"), (0, u "equals"), (0, u "(Ljava/lang/Object;)Z"), (64, .class_ 98), (0, u "java/io/Serializable"), (4, u "(Ljava/lang/Object;)V"), (8, u "(Ljava/lang/Object;Ljava/lang/Object;)V"), (4, u "contains")] 31

def k14c0 : Code := { maxStack := 2, maxLocals := 2, code := jdk_101_method_1_code, exceptionTable := #[], attributes := #[] }
def k14m0 : Method := { name := "<init>", desc := "(Ljava/lang/Object;)V", sig := { parameters := [(.object "java/lang/Object")], returnType := none }, accessFlags := 0, code := some k14c0 }
def k14c1 : Code := { maxStack := 4, maxLocals := 3, code := jdk_101_method_2_code, exceptionTable := #[], attributes := #[] }
def k14m1 : Method := { name := "<init>", desc := "(Ljava/lang/Object;Ljava/lang/Object;)V", sig := { parameters := [(.object "java/lang/Object"), (.object "java/lang/Object")], returnType := none }, accessFlags := 0, code := some k14c1 }
def k14c2 : Code := { maxStack := 2, maxLocals := 2, code := jdk_101_method_5_code, exceptionTable := #[], attributes := #[] }
def k14m2 : Method := { name := "contains", desc := "(Ljava/lang/Object;)Z", sig := { parameters := [(.object "java/lang/Object")], returnType := some .boolean }, accessFlags := 1, code := some k14c2 }
/-- java/util/ImmutableCollections$Set12 -/
def k14 : Class := { plain "java/util/ImmutableCollections$Set12" (some 13) with
  accessFlags := 48
  interfaces := #[2]
  cf := some (fileOf pool14 14 #[.nestHost 20] #[{ accessFlags := 0, nameIndex := 5, descriptorIndex := 103, attributes := #[] }, { accessFlags := 0, nameIndex := 5, descriptorIndex := 112, attributes := #[] }, { accessFlags := 1, nameIndex := 117, descriptorIndex := 32, attributes := #[] }] 48 2 #[97] #[{ accessFlags := 18, nameIndex := 17, descriptorIndex := 18, attributes := #[] }, { accessFlags := 18, nameIndex := 26, descriptorIndex := 18, attributes := #[] }])
  fields := #[{ name := "e0", type := (.object "java/lang/Object"), accessFlags := 18, slot := 0, constantValue := 0 }, { name := "e1", type := (.object "java/lang/Object"), accessFlags := 18, slot := 1, constantValue := 0 }]
  methods := #[k14m0, k14m1, k14m2]
  instanceTypes := #[(.object "java/lang/Object"), (.object "java/lang/Object")]
  staticTypes := #[]
  resolved := Array.replicate 149 none
  statics := none }

def pool15 : Array CpInfo := pool [(2, .class_ 4), (1, u "java/lang/Object"), (0, u "<init>"), (0, u "()V"), (35, .class_ 44), (1, u "java/util/Objects"), (0, u "requireNonNull"), (0, u "(Ljava/lang/Object;)Ljava/lang/Object;")] 137

def k15m0 : Method := { name := "<init>", desc := "()V", sig := { parameters := [], returnType := none }, accessFlags := 2, code := none }
def k15c1 : Code := { maxStack := 2, maxLocals := 1, code := jdk_31_method_10_code, exceptionTable := #[], attributes := #[] }
def k15m1 : Method := { name := "requireNonNull", desc := "(Ljava/lang/Object;)Ljava/lang/Object;", sig := { parameters := [(.object "java/lang/Object")], returnType := some (.object "java/lang/Object") }, accessFlags := 9, code := some k15c1 }
/-- java/util/Objects -/
def k15 : Class := { plain "java/util/Objects" (some 0) with
  accessFlags := 49
  interfaces := #[]
  cf := some (fileOf pool15 42 #[] #[{ accessFlags := 2, nameIndex := 5, descriptorIndex := 6, attributes := #[] }, { accessFlags := 9, nameIndex := 45, descriptorIndex := 46, attributes := #[] }] 49 2 #[] #[])
  fields := #[]
  methods := #[k15m0, k15m1]
  instanceTypes := #[]
  staticTypes := #[]
  resolved := Array.replicate 184 none
  statics := none }

def pool16 : Array CpInfo := pool [(2, .class_ 4), (1, u "java/lang/Object"), (0, u "<init>"), (0, u "()V"), (3, .class_ 11), (0, u "java/util/ImmutableCollections$List12"), (0, .class_ 13), (0, u "java/util/ImmutableCollections$ListN"), (3, u "Z"), (29, .class_ 49), (1, u "java/util/ImmutableCollections"), (0, u "$assertionsDisabled"), (5, u "[Ljava/lang/Object;"), (5, u "EMPTY_LIST"), (0, u "Ljava/util/ImmutableCollections$ListN;"), (8, u "EMPTY_LIST_NULLS"), (22, u "SALT32L"), (0, u "J"), (2, u "REVERSE"), (6, u "archivedObjects"), (2, u "EMPTY"), (0, u "Ljava/lang/Object;"), (0, .class_ 112), (0, u "java/util/ImmutableCollections$SetN"), (5, u "EMPTY_SET"), (0, u "Ljava/util/ImmutableCollections$SetN;"), (0, .class_ 121), (0, u "java/util/ImmutableCollections$MapN"), (3, u "EMPTY_MAP"), (0, u "Ljava/util/ImmutableCollections$MapN;"), (4, u "EXPAND_FACTOR"), (0, u "I"), (36, .class_ 170), (0, u "java/util/ImmutableCollections$MapN$MapNIterator"), (0, .class_ 172), (0, u "java/util/ImmutableCollections$MapN$1"), (0, .class_ 174), (0, u "java/util/ImmutableCollections$Map1"), (0, .class_ 176), (0, u "java/util/ImmutableCollections$AbstractImmutableMap"), (0, .class_ 178), (0, u "java/util/ImmutableCollections$SetN$SetNIterator"), (0, .class_ 180), (0, u "java/util/ImmutableCollections$Set12"), (0, .class_ 182), (0, u "java/util/ImmutableCollections$Set12$1"), (0, .class_ 184), (0, u "java/util/ImmutableCollections$AbstractImmutableSet"), (0, .class_ 186), (0, u "java/util/ImmutableCollections$SubList"), (0, .class_ 188), (0, u "java/util/ImmutableCollections$ListItr"), (0, .class_ 190), (0, u "java/util/ImmutableCollections$AbstractImmutableList"), (0, .class_ 192), (0, u "java/util/ImmutableCollections$AbstractImmutableCollection"), (0, .class_ 194), (0, u "java/util/ImmutableCollections$Access"), (0, .class_ 196), (0, u "java/util/ImmutableCollections$Access$1")] 16

def k16m0 : Method := { name := "<init>", desc := "()V", sig := { parameters := [], returnType := none }, accessFlags := 2, code := none }
/-- java/util/ImmutableCollections -/
def k16 : Class := { plain "java/util/ImmutableCollections" (some 0) with
  accessFlags := 32
  interfaces := #[]
  cf := some (fileOf pool16 47 #[.nestMembers #[120, 169, 171, 173, 175, 111, 177, 179, 181, 183, 12, 10, 185, 187, 189, 191, 193, 195]] #[{ accessFlags := 2, nameIndex := 5, descriptorIndex := 6, attributes := #[] }] 32 2 #[] #[{ accessFlags := 26, nameIndex := 95, descriptorIndex := 96, attributes := #[] }, { accessFlags := 26, nameIndex := 99, descriptorIndex := 17, attributes := #[] }, { accessFlags := 10, nameIndex := 106, descriptorIndex := 56, attributes := #[] }, { accessFlags := 26, nameIndex := 109, descriptorIndex := 110, attributes := #[] }, { accessFlags := 24, nameIndex := 62, descriptorIndex := 63, attributes := #[] }, { accessFlags := 24, nameIndex := 72, descriptorIndex := 63, attributes := #[] }, { accessFlags := 24, nameIndex := 118, descriptorIndex := 119, attributes := #[] }, { accessFlags := 24, nameIndex := 125, descriptorIndex := 126, attributes := #[] }, { accessFlags := 24, nameIndex := 131, descriptorIndex := 132, attributes := #[] }, { accessFlags := 4120, nameIndex := 50, descriptorIndex := 17, attributes := #[] }])
  fields := #[{ name := "SALT32L", type := .long, accessFlags := 26, slot := 0, constantValue := 0 }, { name := "REVERSE", type := .boolean, accessFlags := 26, slot := 1, constantValue := 0 }, { name := "archivedObjects", type := (.array (.object "java/lang/Object")), accessFlags := 10, slot := 2, constantValue := 0 }, { name := "EMPTY", type := (.object "java/lang/Object"), accessFlags := 26, slot := 3, constantValue := 0 }, { name := "EMPTY_LIST", type := (.object "java/util/ImmutableCollections$ListN"), accessFlags := 24, slot := 4, constantValue := 0 }, { name := "EMPTY_LIST_NULLS", type := (.object "java/util/ImmutableCollections$ListN"), accessFlags := 24, slot := 5, constantValue := 0 }, { name := "EMPTY_SET", type := (.object "java/util/ImmutableCollections$SetN"), accessFlags := 24, slot := 6, constantValue := 0 }, { name := "EMPTY_MAP", type := (.object "java/util/ImmutableCollections$MapN"), accessFlags := 24, slot := 7, constantValue := 0 }, { name := "EXPAND_FACTOR", type := .int, accessFlags := 24, slot := 8, constantValue := 0 }, { name := "$assertionsDisabled", type := .boolean, accessFlags := 4120, slot := 9, constantValue := 0 }]
  methods := #[k16m0]
  instanceTypes := #[]
  staticTypes := #[.long, .boolean, (.array (.object "java/lang/Object")), (.object "java/lang/Object"), (.object "java/util/ImmutableCollections$ListN"), (.object "java/util/ImmutableCollections$ListN"), (.object "java/util/ImmutableCollections$SetN"), (.object "java/util/ImmutableCollections$MapN"), .int, .boolean]
  resolved := Array.replicate 213 none
  statics := some 1 }

def pool17 : Array CpInfo := pool [(1, .methodref 2 3), (0, .class_ 4), (0, .nameAndType 5 6), (0, u "java/lang/Object"), (0, u "<init>"), (0, u "()V"), (0, .fieldref 8 9), (0, .class_ 10), (0, .nameAndType 11 12), (0, u "com/example/baskit/baskit/ClientSide"), (0, u "keys"), (0, u "Lcom/example/baskit/baskit/Keys;"), (0, .interfaceMethodref 14 15), (0, .class_ 16), (0, .nameAndType 17 18), (0, u "java/util/Set"), (0, u "copyOf"), (0, u "(Ljava/util/Collection;)Ljava/util/Set;"), (0, .fieldref 8 20), (0, .nameAndType 21 22), (0, u "origins"), (0, u "Ljava/util/Set;"), (0, .fieldref 8 24), (0, .nameAndType 25 26), (0, u "redeems"), (0, u "Z"), (0, .interfaceMethodref 14 28), (0, .nameAndType 29 30), (0, u "contains"), (0, u "(Ljava/lang/Object;)Z"), (2, u "(Lcom/example/baskit/baskit/Keys;Ljava/util/Set;Z)V"), (4, u "allows"), (0, u "(Ljava/lang/String;)Z")] 4

def k17c0 : Code := { maxStack := 2, maxLocals := 4, code := prog_1_method_1_code, exceptionTable := #[], attributes := #[] }
def k17m0 : Method := { name := "<init>", desc := "(Lcom/example/baskit/baskit/Keys;Ljava/util/Set;Z)V", sig := { parameters := [(.object "com/example/baskit/baskit/Keys"), (.object "java/util/Set"), .boolean], returnType := none }, accessFlags := 0, code := some k17c0 }
def k17c1 : Code := { maxStack := 2, maxLocals := 2, code := prog_1_method_3_code, exceptionTable := #[], attributes := #[] }
def k17m1 : Method := { name := "allows", desc := "(Ljava/lang/String;)Z", sig := { parameters := [(.object "java/lang/String")], returnType := some .boolean }, accessFlags := 1, code := some k17c1 }
/-- com/example/baskit/baskit/ClientSide -/
def k17 : Class := { plain "com/example/baskit/baskit/ClientSide" (some 0) with
  accessFlags := 49
  interfaces := #[]
  cf := some (fileOf pool17 8 #[] #[{ accessFlags := 0, nameIndex := 5, descriptorIndex := 33, attributes := #[] }, { accessFlags := 1, nameIndex := 38, descriptorIndex := 39, attributes := #[] }] 49 2 #[] #[{ accessFlags := 18, nameIndex := 11, descriptorIndex := 12, attributes := #[] }, { accessFlags := 18, nameIndex := 21, descriptorIndex := 22, attributes := #[] }, { accessFlags := 18, nameIndex := 25, descriptorIndex := 26, attributes := #[] }])
  fields := #[{ name := "keys", type := (.object "com/example/baskit/baskit/Keys"), accessFlags := 18, slot := 0, constantValue := 0 }, { name := "origins", type := (.object "java/util/Set"), accessFlags := 18, slot := 1, constantValue := 0 }, { name := "redeems", type := .boolean, accessFlags := 18, slot := 2, constantValue := 0 }]
  methods := #[k17m0, k17m1]
  instanceTypes := #[(.object "com/example/baskit/baskit/Keys"), (.object "java/util/Set"), .boolean]
  staticTypes := #[]
  resolved := Array.replicate 44 none
  statics := none }

def pool18 : Array CpInfo := pool [(1, .methodref 2 3), (0, .class_ 4), (0, .nameAndType 5 6), (0, u "java/lang/Object"), (0, u "<init>"), (0, u "()V"), (0, .fieldref 8 9), (0, .class_ 10), (0, .nameAndType 11 12), (0, u "com/example/baskit/baskit/Keys"), (0, u "id"), (0, u "Ljava/lang/String;"), (0, .fieldref 8 14), (0, .nameAndType 15 12), (0, u "token"), (22, u "(Ljava/lang/String;Ljava/lang/String;)V")] 8

def k18c0 : Code := { maxStack := 2, maxLocals := 3, code := prog_3_method_1_code, exceptionTable := #[], attributes := #[] }
def k18m0 : Method := { name := "<init>", desc := "(Ljava/lang/String;Ljava/lang/String;)V", sig := { parameters := [(.object "java/lang/String"), (.object "java/lang/String")], returnType := none }, accessFlags := 0, code := some k18c0 }
/-- com/example/baskit/baskit/Keys -/
def k18 : Class := { plain "com/example/baskit/baskit/Keys" (some 0) with
  accessFlags := 49
  interfaces := #[]
  cf := some (fileOf pool18 8 #[] #[{ accessFlags := 0, nameIndex := 5, descriptorIndex := 38, attributes := #[] }] 49 2 #[] #[{ accessFlags := 18, nameIndex := 11, descriptorIndex := 12, attributes := #[] }, { accessFlags := 18, nameIndex := 15, descriptorIndex := 12, attributes := #[] }])
  fields := #[{ name := "id", type := (.object "java/lang/String"), accessFlags := 18, slot := 0, constantValue := 0 }, { name := "token", type := (.object "java/lang/String"), accessFlags := 18, slot := 1, constantValue := 0 }]
  methods := #[k18m0]
  instanceTypes := #[(.object "java/lang/String"), (.object "java/lang/String")]
  staticTypes := #[]
  resolved := Array.replicate 47 none
  statics := none }

def pool19 : Array CpInfo := pool [(4, .class_ 6), (1, u "java/lang/Object"), (0, u "<init>"), (0, u "()V"), (5, .class_ 16), (1, u "java/lang/StringLatin1"), (73, u "canEncode"), (14, u "(C)Z"), (15, u "$assertionsDisabled"), (0, u "Z"), (98, .class_ 223), (1, u "java/lang/StringLatin1$LinesSpliterator"), (57, u "equals"), (0, u "([B[B)Z"), (97, u "toBytes"), (1, u "(C)[B"), (7, .class_ 391), (0, u "java/lang/StringLatin1$CharsSpliterator")] 3

def k19m0 : Method := { name := "<init>", desc := "()V", sig := { parameters := [], returnType := none }, accessFlags := 0, code := none }
def k19c1 : Code := { maxStack := 2, maxLocals := 1, code := jdk_43_method_3_code, exceptionTable := #[], attributes := #[] }
def k19m1 : Method := { name := "canEncode", desc := "(C)Z", sig := { parameters := [.char], returnType := some .boolean }, accessFlags := 9, code := some k19c1 }
def k19c2 : Code := { maxStack := 3, maxLocals := 3, code := jdk_43_method_13_code, exceptionTable := #[], attributes := #[] }
def k19m2 : Method := { name := "equals", desc := "([B[B)Z", sig := { parameters := [(.array .byte), (.array .byte)], returnType := some .boolean }, accessFlags := 9, code := some k19c2 }
def k19c3 : Code := { maxStack := 4, maxLocals := 1, code := jdk_43_method_46_code, exceptionTable := #[], attributes := #[] }
def k19m3 : Method := { name := "toBytes", desc := "(C)[B", sig := { parameters := [.char], returnType := some (.array .byte) }, accessFlags := 9, code := some k19c3 }
/-- java/lang/StringLatin1 -/
def k19 : Class := { plain "java/lang/StringLatin1" (some 0) with
  accessFlags := 48
  interfaces := #[]
  cf := some (fileOf pool19 14 #[.nestMembers #[390, 221]] #[{ accessFlags := 0, nameIndex := 7, descriptorIndex := 8, attributes := #[] }, { accessFlags := 9, nameIndex := 90, descriptorIndex := 105, attributes := #[] }, { accessFlags := 9, nameIndex := 281, descriptorIndex := 282, attributes := #[] }, { accessFlags := 9, nameIndex := 380, descriptorIndex := 382, attributes := #[] }] 48 4 #[] #[{ accessFlags := 4120, nameIndex := 121, descriptorIndex := 122, attributes := #[] }])
  fields := #[{ name := "$assertionsDisabled", type := .boolean, accessFlags := 4120, slot := 0, constantValue := 0 }]
  methods := #[k19m0, k19m1, k19m2, k19m3]
  instanceTypes := #[]
  staticTypes := #[.boolean]
  resolved := Array.replicate 395 none
  statics := none }

def pool20 : Array CpInfo := pool [(6, .class_ 8), (1, u "java/lang/Object"), (0, u "<init>"), (0, u "()V"), (1, .class_ 14), (1, u "java/lang/StringUTF16"), (31, u "$assertionsDisabled"), (0, u "Z"), (13, u "HI_BYTE_SHIFT"), (0, u "I"), (2, u "LO_BYTE_SHIFT"), (49, .methodref 12 116), (0, .nameAndType 117 118), (0, u "compress"), (0, u "([CI[BII)I"), (3, u "([CII)[B"), (138, u "coderFromArrayLen"), (0, u "([BI)B"), (106, .class_ 371), (1, u "java/lang/StringUTF16$LinesSpliterator"), (58, u "MAX_LENGTH"), (196, .class_ 628), (0, u "java/lang/StringUTF16$CodePointsSpliterator"), (0, .class_ 630), (0, u "java/lang/StringUTF16$CharsSpliterator")] 4

def k20m0 : Method := { name := "<init>", desc := "()V", sig := { parameters := [], returnType := none }, accessFlags := 0, code := none }
def k20c1 : Code := { maxStack := 2, maxLocals := 2, code := jdk_52_method_15_code, exceptionTable := #[], attributes := #[] }
def k20m1 : Method := { name := "coderFromArrayLen", desc := "([BI)B", sig := { parameters := [(.array .byte), .int], returnType := some .byte }, accessFlags := 8, code := some k20c1 }
def k20c2 : Code := { maxStack := 5, maxLocals := 6, code := jdk_52_method_16_code, exceptionTable := #[], attributes := #[] }
def k20m2 : Method := { name := "compress", desc := "([CII)[B", sig := { parameters := [(.array .char), .int, .int], returnType := some (.array .byte) }, accessFlags := 9, code := some k20c2 }
def k20c3 : Code := { maxStack := 3, maxLocals := 7, code := jdk_52_method_21_code, exceptionTable := #[], attributes := #[] }
def k20m3 : Method := { name := "compress", desc := "([CI[BII)I", sig := { parameters := [(.array .char), .int, (.array .byte), .int, .int], returnType := some .int }, accessFlags := 9, code := some k20c3 }
/-- java/lang/StringUTF16 -/
def k20 : Class := { plain "java/lang/StringUTF16" (some 0) with
  accessFlags := 48
  interfaces := #[]
  cf := some (fileOf pool20 12 #[.nestMembers #[627, 629, 369]] #[{ accessFlags := 0, nameIndex := 9, descriptorIndex := 10, attributes := #[] }, { accessFlags := 8, nameIndex := 261, descriptorIndex := 262, attributes := #[] }, { accessFlags := 9, nameIndex := 117, descriptorIndex := 122, attributes := #[] }, { accessFlags := 9, nameIndex := 117, descriptorIndex := 118, attributes := #[] }] 48 6 #[] #[{ accessFlags := 26, nameIndex := 61, descriptorIndex := 62, attributes := #[] }, { accessFlags := 26, nameIndex := 65, descriptorIndex := 62, attributes := #[] }, { accessFlags := 24, nameIndex := 430, descriptorIndex := 62, attributes := #[] }, { accessFlags := 4120, nameIndex := 46, descriptorIndex := 47, attributes := #[] }])
  fields := #[{ name := "HI_BYTE_SHIFT", type := .int, accessFlags := 26, slot := 0, constantValue := 0 }, { name := "LO_BYTE_SHIFT", type := .int, accessFlags := 26, slot := 1, constantValue := 0 }, { name := "MAX_LENGTH", type := .int, accessFlags := 24, slot := 2, constantValue := 0 }, { name := "$assertionsDisabled", type := .boolean, accessFlags := 4120, slot := 3, constantValue := 0 }]
  methods := #[k20m0, k20m1, k20m2, k20m3]
  instanceTypes := #[]
  staticTypes := #[.int, .int, .int, .boolean]
  resolved := Array.replicate 635 none
  statics := none }

def pool21 : Array CpInfo := pool [(1, .class_ 2), (0, u "java/util/ImmutableCollections"), (1, .class_ 6), (1, u "java/util/ImmutableCollections$AbstractImmutableSet"), (2, .fieldref 10 11), (0, .class_ 12), (0, .nameAndType 13 14), (0, u "java/util/ImmutableCollections$SetN"), (0, u "size"), (0, u "I"), (4, u "elements"), (0, u "[Ljava/lang/Object;"), (25, .methodref 47 48), (0, .class_ 49), (0, .nameAndType 50 51), (0, u "java/util/Objects"), (0, u "requireNonNull"), (0, u "(Ljava/lang/Object;)Ljava/lang/Object;"), (18, u "(Ljava/lang/Object;)Z"), (36, .class_ 108), (0, u "java/io/Serializable"), (23, u "contains")] 35

def k21c0 : Code := { maxStack := 2, maxLocals := 2, code := jdk_132_method_4_code, exceptionTable := #[], attributes := #[] }
def k21m0 : Method := { name := "contains", desc := "(Ljava/lang/Object;)Z", sig := { parameters := [(.object "java/lang/Object")], returnType := some .boolean }, accessFlags := 1, code := some k21c0 }
/-- java/util/ImmutableCollections$SetN -/
def k21 : Class := { plain "java/util/ImmutableCollections$SetN" (some 13) with
  accessFlags := 48
  interfaces := #[2]
  cf := some (fileOf pool21 10 #[.nestHost 1] #[{ accessFlags := 1, nameIndex := 132, descriptorIndex := 70, attributes := #[] }] 48 4 #[107] #[{ accessFlags := 16, nameIndex := 19, descriptorIndex := 20, attributes := #[] }, { accessFlags := 16, nameIndex := 13, descriptorIndex := 14, attributes := #[] }])
  fields := #[{ name := "elements", type := (.array (.object "java/lang/Object")), accessFlags := 16, slot := 0, constantValue := 0 }, { name := "size", type := .int, accessFlags := 16, slot := 1, constantValue := 0 }]
  methods := #[k21m0]
  instanceTypes := #[(.array (.object "java/lang/Object")), .int]
  staticTypes := #[]
  resolved := Array.replicate 168 none
  statics := none }

def pool22 : Array CpInfo := pool [(2, .class_ 4), (1, u "java/lang/Object"), (0, u "<init>"), (0, u "()V"), (17, .class_ 26), (1, u "jdk/internal/util/Preconditions"), (28, .class_ 56), (0, u "jdk/internal/util/Preconditions$4"), (57, .class_ 115), (0, u "jdk/internal/util/Preconditions$1"), (7, u "SIOOBE_FORMATTER"), (0, u "Ljava/util/function/BiFunction;"), (0, .class_ 126), (0, u "jdk/internal/util/Preconditions$2"), (3, u "AIOOBE_FORMATTER"), (0, .class_ 132), (0, u "jdk/internal/util/Preconditions$3"), (3, u "IOOBE_FORMATTER")] 57

def k22m0 : Method := { name := "<init>", desc := "()V", sig := { parameters := [], returnType := none }, accessFlags := 1, code := none }
/-- jdk/internal/util/Preconditions -/
def k22 : Class := { plain "jdk/internal/util/Preconditions" (some 0) with
  accessFlags := 33
  interfaces := #[]
  cf := some (fileOf pool22 24 #[.nestMembers #[55, 131, 125, 114]] #[{ accessFlags := 1, nameIndex := 5, descriptorIndex := 6, attributes := #[] }] 33 2 #[] #[{ accessFlags := 25, nameIndex := 123, descriptorIndex := 124, attributes := #[] }, { accessFlags := 25, nameIndex := 130, descriptorIndex := 124, attributes := #[] }, { accessFlags := 25, nameIndex := 136, descriptorIndex := 124, attributes := #[] }])
  fields := #[{ name := "SIOOBE_FORMATTER", type := (.object "java/util/function/BiFunction"), accessFlags := 25, slot := 0, constantValue := 0 }, { name := "AIOOBE_FORMATTER", type := (.object "java/util/function/BiFunction"), accessFlags := 25, slot := 1, constantValue := 0 }, { name := "IOOBE_FORMATTER", type := (.object "java/util/function/BiFunction"), accessFlags := 25, slot := 2, constantValue := 0 }]
  methods := #[k22m0]
  instanceTypes := #[]
  staticTypes := #[(.object "java/util/function/BiFunction"), (.object "java/util/function/BiFunction"), (.object "java/util/function/BiFunction")]
  resolved := Array.replicate 194 none
  statics := some 2 }

def pool23 : Array CpInfo := pool [(9, u "<init>"), (6, .class_ 18), (1, u "java/lang/Object"), (0, u "()V"), (1, .class_ 23), (1, u "jdk/internal/util/ArraysSupport"), (0, u "LOG2_ARRAY_LONG_INDEX_SCALE"), (0, u "I"), (2, u "U"), (0, u "Ljdk/internal/misc/Unsafe;"), (8, u "BIG_ENDIAN"), (0, u "Z"), (8, u "LOG2_BYTE_BIT_SIZE"), (4, u "LOG2_ARRAY_INT_INDEX_SCALE"), (54, u "JLA"), (0, u "Ljdk/internal/access/JavaLangAccess;"), (11, u "LOG2_ARRAY_BOOLEAN_INDEX_SCALE"), (9, u "LOG2_ARRAY_BYTE_INDEX_SCALE"), (5, u "LOG2_ARRAY_CHAR_INDEX_SCALE"), (5, u "LOG2_ARRAY_SHORT_INDEX_SCALE"), (18, u "LOG2_ARRAY_FLOAT_INDEX_SCALE"), (24, u "LOG2_ARRAY_DOUBLE_INDEX_SCALE"), (89, u "T_BOOLEAN"), (2, u "T_CHAR"), (1, u "T_FLOAT"), (1, u "T_DOUBLE"), (1, u "T_BYTE"), (1, u "T_SHORT"), (1, u "T_INT"), (1, u "T_LONG"), (1, u "SOFT_MAX_ARRAY_LENGTH")] 83

def k23m0 : Method := { name := "<init>", desc := "()V", sig := { parameters := [], returnType := none }, accessFlags := 2, code := none }
/-- jdk/internal/util/ArraysSupport -/
def k23 : Class := { plain "jdk/internal/util/ArraysSupport" (some 0) with
  accessFlags := 33
  interfaces := #[]
  cf := some (fileOf pool23 21 #[] #[{ accessFlags := 2, nameIndex := 9, descriptorIndex := 19, attributes := #[] }] 33 16 #[] #[{ accessFlags := 24, nameIndex := 28, descriptorIndex := 29, attributes := #[] }, { accessFlags := 26, nameIndex := 38, descriptorIndex := 39, attributes := #[] }, { accessFlags := 25, nameIndex := 121, descriptorIndex := 25, attributes := #[] }, { accessFlags := 25, nameIndex := 131, descriptorIndex := 25, attributes := #[] }, { accessFlags := 25, nameIndex := 137, descriptorIndex := 25, attributes := #[] }, { accessFlags := 25, nameIndex := 143, descriptorIndex := 25, attributes := #[] }, { accessFlags := 25, nameIndex := 53, descriptorIndex := 25, attributes := #[] }, { accessFlags := 25, nameIndex := 24, descriptorIndex := 25, attributes := #[] }, { accessFlags := 25, nameIndex := 162, descriptorIndex := 25, attributes := #[] }, { accessFlags := 25, nameIndex := 187, descriptorIndex := 25, attributes := #[] }, { accessFlags := 26, nameIndex := 48, descriptorIndex := 25, attributes := #[] }, { accessFlags := 25, nameIndex := 277, descriptorIndex := 25, attributes := #[] }, { accessFlags := 25, nameIndex := 280, descriptorIndex := 25, attributes := #[] }, { accessFlags := 25, nameIndex := 282, descriptorIndex := 25, attributes := #[] }, { accessFlags := 25, nameIndex := 284, descriptorIndex := 25, attributes := #[] }, { accessFlags := 25, nameIndex := 286, descriptorIndex := 25, attributes := #[] }, { accessFlags := 25, nameIndex := 288, descriptorIndex := 25, attributes := #[] }, { accessFlags := 25, nameIndex := 290, descriptorIndex := 25, attributes := #[] }, { accessFlags := 25, nameIndex := 292, descriptorIndex := 25, attributes := #[] }, { accessFlags := 26, nameIndex := 108, descriptorIndex := 109, attributes := #[] }, { accessFlags := 25, nameIndex := 294, descriptorIndex := 25, attributes := #[] }])
  fields := #[{ name := "U", type := (.object "jdk/internal/misc/Unsafe"), accessFlags := 24, slot := 0, constantValue := 0 }, { name := "BIG_ENDIAN", type := .boolean, accessFlags := 26, slot := 1, constantValue := 0 }, { name := "LOG2_ARRAY_BOOLEAN_INDEX_SCALE", type := .int, accessFlags := 25, slot := 2, constantValue := 0 }, { name := "LOG2_ARRAY_BYTE_INDEX_SCALE", type := .int, accessFlags := 25, slot := 3, constantValue := 0 }, { name := "LOG2_ARRAY_CHAR_INDEX_SCALE", type := .int, accessFlags := 25, slot := 4, constantValue := 0 }, { name := "LOG2_ARRAY_SHORT_INDEX_SCALE", type := .int, accessFlags := 25, slot := 5, constantValue := 0 }, { name := "LOG2_ARRAY_INT_INDEX_SCALE", type := .int, accessFlags := 25, slot := 6, constantValue := 0 }, { name := "LOG2_ARRAY_LONG_INDEX_SCALE", type := .int, accessFlags := 25, slot := 7, constantValue := 0 }, { name := "LOG2_ARRAY_FLOAT_INDEX_SCALE", type := .int, accessFlags := 25, slot := 8, constantValue := 0 }, { name := "LOG2_ARRAY_DOUBLE_INDEX_SCALE", type := .int, accessFlags := 25, slot := 9, constantValue := 0 }, { name := "LOG2_BYTE_BIT_SIZE", type := .int, accessFlags := 26, slot := 10, constantValue := 0 }, { name := "T_BOOLEAN", type := .int, accessFlags := 25, slot := 11, constantValue := 0 }, { name := "T_CHAR", type := .int, accessFlags := 25, slot := 12, constantValue := 0 }, { name := "T_FLOAT", type := .int, accessFlags := 25, slot := 13, constantValue := 0 }, { name := "T_DOUBLE", type := .int, accessFlags := 25, slot := 14, constantValue := 0 }, { name := "T_BYTE", type := .int, accessFlags := 25, slot := 15, constantValue := 0 }, { name := "T_SHORT", type := .int, accessFlags := 25, slot := 16, constantValue := 0 }, { name := "T_INT", type := .int, accessFlags := 25, slot := 17, constantValue := 0 }, { name := "T_LONG", type := .int, accessFlags := 25, slot := 18, constantValue := 0 }, { name := "JLA", type := (.object "jdk/internal/access/JavaLangAccess"), accessFlags := 26, slot := 19, constantValue := 0 }, { name := "SOFT_MAX_ARRAY_LENGTH", type := .int, accessFlags := 25, slot := 20, constantValue := 0 }]
  methods := #[k23m0]
  instanceTypes := #[]
  staticTypes := #[(.object "jdk/internal/misc/Unsafe"), .boolean, .int, .int, .int, .int, .int, .int, .int, .int, .int, .int, .int, .int, .int, .int, .int, .int, .int, (.object "jdk/internal/access/JavaLangAccess"), .int]
  resolved := Array.replicate 378 none
  statics := none }

def pool24 : Array CpInfo := pool [(8, .class_ 10), (1, u "java/util/SequencedCollection"), (15, .class_ 27), (0, u "java/lang/Object"), (0, .class_ 29), (0, u "java/util/Collection")] 27

/-- java/util/SequencedCollection -/
def k24 : Class := { plain "java/util/SequencedCollection" (some 0) with
  accessFlags := 1537
  interfaces := #[9]
  cf := some (fileOf pool24 8 #[] #[] 1537 26 #[28] #[])
  fields := #[]
  methods := #[]
  instanceTypes := #[]
  staticTypes := #[]
  resolved := Array.replicate 57 none
  statics := none }

def pool25 : Array CpInfo := pool [(8, .class_ 10), (1, u "java/util/List"), (92, .class_ 104), (0, u "java/lang/Object"), (15, .class_ 121), (0, u "java/util/SequencedCollection")] 129

/-- java/util/List -/
def k25 : Class := { plain "java/util/List" (some 0) with
  accessFlags := 1537
  interfaces := #[24]
  cf := some (fileOf pool25 8 #[] #[] 1537 103 #[120] #[])
  fields := #[]
  methods := #[]
  instanceTypes := #[]
  staticTypes := #[]
  resolved := Array.replicate 251 none
  statics := none }

def pool26 : Array CpInfo := pool [(1, .class_ 2), (0, u "java/util/RandomAccess"), (0, .class_ 4), (0, u "java/lang/Object")] 2

/-- java/util/RandomAccess -/
def k26 : Class := { plain "java/util/RandomAccess" (some 0) with
  accessFlags := 1537
  interfaces := #[]
  cf := some (fileOf pool26 1 #[] #[] 1537 3 #[] #[])
  fields := #[]
  methods := #[]
  instanceTypes := #[]
  staticTypes := #[]
  resolved := Array.replicate 7 none
  statics := none }

def pool27 : Array CpInfo := pool [(2, .class_ 4), (1, u "java/util/ImmutableCollections$AbstractImmutableCollection"), (0, u "<init>"), (0, u "()V"), (1, .class_ 10), (1, u "java/util/ImmutableCollections"), (3, .class_ 16), (1, u "java/util/ImmutableCollections$AbstractImmutableList"), (60, .class_ 78), (0, u "java/util/List"), (45, .class_ 125), (0, u "java/util/RandomAccess")] 70

def k27m0 : Method := { name := "<init>", desc := "()V", sig := { parameters := [], returnType := none }, accessFlags := 0, code := none }
/-- java/util/ImmutableCollections$AbstractImmutableList -/
def k27 : Class := { plain "java/util/ImmutableCollections$AbstractImmutableList" (some 12) with
  accessFlags := 1056
  interfaces := #[25, 26]
  cf := some (fileOf pool27 14 #[.nestHost 8] #[{ accessFlags := 0, nameIndex := 5, descriptorIndex := 6, attributes := #[] }] 1056 2 #[77, 124] #[])
  fields := #[]
  methods := #[k27m0]
  instanceTypes := #[]
  staticTypes := #[]
  resolved := Array.replicate 196 none
  statics := none }

def pool28 : Array CpInfo := pool [(2, .class_ 4), (1, u "java/util/ImmutableCollections$AbstractImmutableList"), (3, .class_ 10), (1, u "java/util/ImmutableCollections$ListN"), (0, u "elements"), (0, u "[Ljava/lang/Object;"), (2, u "allowNulls"), (0, u "Z"), (42, .class_ 60), (0, u "java/io/Serializable"), (53, .class_ 115), (0, u "java/util/ImmutableCollections")] 3

/-- java/util/ImmutableCollections$ListN -/
def k28 : Class := { plain "java/util/ImmutableCollections$ListN" (some 27) with
  accessFlags := 48
  interfaces := #[2]
  cf := some (fileOf pool28 8 #[.nestHost 114] #[] 48 2 #[59] #[{ accessFlags := 18, nameIndex := 11, descriptorIndex := 12, attributes := #[] }, { accessFlags := 18, nameIndex := 15, descriptorIndex := 16, attributes := #[] }])
  fields := #[{ name := "elements", type := (.array (.object "java/lang/Object")), accessFlags := 18, slot := 0, constantValue := 0 }, { name := "allowNulls", type := .boolean, accessFlags := 18, slot := 1, constantValue := 0 }]
  methods := #[]
  instanceTypes := #[(.array (.object "java/lang/Object")), .boolean]
  staticTypes := #[]
  resolved := Array.replicate 119 none
  statics := none }

def pool29 : Array CpInfo := pool [(1, u "java/lang/Cloneable"), (0, .class_ 1), (0, u "java/lang/Object"), (0, .class_ 3)] 3

/-- java/lang/Cloneable -/
def k29 : Class := { plain "java/lang/Cloneable" (some 0) with
  accessFlags := 1537
  interfaces := #[]
  cf := some (fileOf pool29 2 #[] #[] 1537 4 #[] #[])
  fields := #[]
  methods := #[]
  instanceTypes := #[]
  staticTypes := #[]
  resolved := Array.replicate 8 none
  statics := none }

/-- the primitive byte -/
def k30 : Class := { plain "byte" none with kind := .primitive 'B', accessFlags := 0x411 }
/-- [B -/
def k31 : Class := { plain "[B" (some 0) with kind := .array 30 .byte, interfaces := #[29, 2], accessFlags := 1041 }

/-- the primitive char -/
def k32 : Class := { plain "char" none with kind := .primitive 'C', accessFlags := 0x411 }
/-- [C -/
def k33 : Class := { plain "[C" (some 0) with kind := .array 32 .char, interfaces := #[29, 2], accessFlags := 1041 }

/-- the primitive int -/
def k34 : Class := { plain "int" none with kind := .primitive 'I', accessFlags := 0x411 }
/-- [I -/
def k35 : Class := { plain "[I" (some 0) with kind := .array 34 .int, interfaces := #[29, 2], accessFlags := 1041 }

/-- [Ljava/lang/Object; -/
def k36 : Class := { plain "[Ljava/lang/Object;" (some 0) with kind := .array 0 (.object "java/lang/Object"), interfaces := #[29, 2], accessFlags := 1041 }

def heap : Heap := #[{ cls := 7, slots := #[.long 0, .int 1, .null, .int 0, .null, .int 0, .int 0], vm := .statics 7 },
  { cls := 16, slots := #[.long 0, .int 0, .null, .ref 5, .ref 6, .null, .ref 4, .null, .int 0, .int 1], vm := .statics 16 },
  { cls := 22, slots := #[.null, .null, .null], vm := .statics 22 },
  { cls := 36, slots := #[], vm := .none },
  { cls := 21, slots := #[.ref 3, .int 0], vm := .none },
  { cls := 0, slots := #[], vm := .none },
  { cls := 28, slots := #[.null, .int 0], vm := .none }]
def classes : Array Class := #[k0, k1, k2, k3, k4, k5, k6, k7, k8, k9, k10, k11, k12, k13, k14, k15, k16, k17, k18, k19, k20, k21, k22, k23, k24, k25, k26, k27, k28, k29, k30, k31, k32, k33, k34, k35, k36]
def interned : List (Array UInt16 × Addr) := []
def slotsUsed : Nat := 24
def theMethod : MethodId := ⟨1, 2⟩
def args0 : Array Value := #[.int 3, .int 4, .int 5, .int 6]
def aboutOver (below : List Frame) : State where
  vm := { classes := classes, interned := interned.toArray }
  heap := heap
  slotsUsed := slotsUsed
  threads := #[{ frames := .invoking theMethod args0 :: below }]
def below0 : List Frame := [.native { method := ⟨0, 0⟩, args := #[] }]
def about1 : State := aboutOver below0
def p0 : Program := .bare "" "" ""
def e0 : Env := launch0.env 0 0 0
theorem w_frames : about1.frames = Frame.invoking theMethod args0 :: below0 := rfl
set_option maxRecDepth 65536 in
theorem w_args : argsFit about1.vm theMethod args0 = true := by decide +kernel
set_option maxRecDepth 65536 in
theorem w_heap : heapFits about1 = true := by decide +kernel
set_option maxRecDepth 65536 in
theorem w_runnable : about1.curStatus? = some .runnable := by decide +kernel
set_option maxRecDepth 65536 in
theorem w_alone : about1.alone = true := by decide +kernel
set_option maxRecDepth 65536 in
theorem w_named : about1.methodNamed? x = some theMethod := by decide +kernel
set_option maxRecDepth 65536 in
theorem w_hears : about1.hears theMethod below0 = true := by decide +kernel
set_option maxRecDepth 65536 in
theorem w_ripe : about1.ripe theMethod args0 below0 = true := by decide +kernel
theorem w_running : about1.status = .running := rfl
set_option maxRecDepth 65536 in
theorem w_room : about1.hasRoom e0.platform room_1 = true :=
  launch0.hasRoom_least _ room_1 (by decide +kernel) (by decide +kernel) (by decide +kernel) (by decide +kernel) (by decide +kernel) (by decide +kernel)
theorem allAtoms_all (ts : List Jvm.Cond) (a : Array Jvm.Value) (st : Jvm.State) : (allAtoms ts).before a st = ts.all (fun c => c.before a st) := by
  induction ts with
  | nil => rfl
  | cons c t ih =>
    show (Jvm.Cond.and c (allAtoms t)).before a st = _
    rw [Jvm.Cond.before_and, ih, List.all_cons]
def words1 : List Jvm.Cond := Jvm.Cond.code x code maxLocals ret :: tables_1
/-- a 'code' word, met by the world's own term for the bytes: nothing is compared byte by byte -/
theorem code_word {y : MethodName} {bytes : ByteArray} {mx : Nat} {rt : Option FieldType} {a : Array Value} {s : State} {m : MethodId} {meth : Method} {c : Code} (h1 : s.methodNamed? y = some m) (h2 : s.vm.method? m = some meth) (h3 : meth.code = some c) (h4 : c.code = bytes)
    (h5 : (c.maxLocals == mx && c.exceptionTable.isEmpty && decide (c.maxStack ≤ mostOperands) && decide (meth.sig.returnType = rt) && !meth.locks && decide (parseMethodDescriptor y.desc = some meth.sig)) = true) : (Jvm.Cond.code y bytes mx rt).before a s = true := by
  simp only [Bool.and_eq_true, beq_iff_eq, Bool.not_eq_true', decide_eq_true_eq] at h5
  obtain ⟨⟨⟨⟨⟨g1, g2⟩, g3⟩, g4⟩, g5⟩, g6⟩ := h5
  simp [Cond.before, Cond.holds, Cond.value, h1, h2, h3, h4, g1, g2, g3, g4, g5, g6]
def isCode : Jvm.Cond → Bool
  | .code _ _ _ _ => true
  | _ => false
theorem all_split {L : List Jvm.Cond} {P : Jvm.Cond → Bool} (h1 : L.all (fun c => isCode c || P c) = true) (h2 : ∀ c ∈ L.filter isCode, P c = true) : L.all P = true := by
  refine List.all_eq_true.mpr fun c hc => ?_
  have h := List.all_eq_true.mp h1 c hc
  rcases Bool.eq_false_or_eq_true (isCode c) with hi | hi
  · exact h2 c (List.mem_filter.mpr ⟨hc, hi⟩)
  · simpa [hi] using h
set_option maxRecDepth 65536 in
theorem w_c0 : (Jvm.Cond.code x code maxLocals ret).before args0 about1 = true := code_word (m := ⟨1, 2⟩) (meth := k1m2) (c := k1c2) (by decide +kernel) rfl rfl rfl (by decide +kernel)
set_option maxRecDepth 65536 in
theorem w_c1 : (Jvm.Cond.code ({ cls := "com/example/baskit/baskit/ClientSideAllowsPinLaw", name := "draw", desc := "(I)Ljava/lang/String;" } : Jvm.MethodName) method_2_code (3 : Nat) (Option.some (Jvm.ClassFile.FieldType.object "java/lang/String"))).before args0 about1 = true := code_word (m := ⟨1, 1⟩) (meth := k1m1) (c := k1c1) (by decide +kernel) rfl rfl rfl (by decide +kernel)
set_option maxRecDepth 65536 in
theorem w_c2 : (Jvm.Cond.code ({ cls := "java/lang/String", name := "<init>", desc := "([C)V" } : Jvm.MethodName) jdk_42_method_3_code (2 : Nat) (Option.none : Option Jvm.ClassFile.FieldType)).before args0 about1 = true := code_word (m := ⟨7, 1⟩) (meth := k7m1) (c := k7c1) (by decide +kernel) rfl rfl rfl (by decide +kernel)
set_option maxRecDepth 65536 in
theorem w_c3 : (Jvm.Cond.code ({ cls := "java/lang/String", name := "<init>", desc := "([CIILjava/lang/Void;)V" } : Jvm.MethodName) jdk_42_method_149_code (6 : Nat) (Option.none : Option Jvm.ClassFile.FieldType)).before args0 about1 = true := code_word (m := ⟨7, 4⟩) (meth := k7m4) (c := k7c4) (by decide +kernel) rfl rfl rfl (by decide +kernel)
set_option maxRecDepth 65536 in
theorem w_c4 : (Jvm.Cond.code ({ cls := "java/lang/Object", name := "<init>", desc := "()V" } : Jvm.MethodName) object_method_1_code (1 : Nat) (Option.none : Option Jvm.ClassFile.FieldType)).before args0 about1 = true := code_word (m := ⟨0, 0⟩) (meth := k0m0) (c := k0c0) (by decide +kernel) rfl rfl rfl (by decide +kernel)
set_option maxRecDepth 65536 in
theorem w_c5 : (Jvm.Cond.code ({ cls := "java/util/Set", name := "of", desc := "(Ljava/lang/Object;)Ljava/util/Set;" } : Jvm.MethodName) jdk_96_method_18_code (1 : Nat) (Option.some (Jvm.ClassFile.FieldType.object "java/util/Set"))).before args0 about1 = true := code_word (m := ⟨10, 2⟩) (meth := k10m2) (c := k10c2) (by decide +kernel) rfl rfl rfl (by decide +kernel)
set_option maxRecDepth 65536 in
theorem w_c6 : (Jvm.Cond.code ({ cls := "java/util/ImmutableCollections$Set12", name := "<init>", desc := "(Ljava/lang/Object;)V" } : Jvm.MethodName) jdk_101_method_1_code (2 : Nat) (Option.none : Option Jvm.ClassFile.FieldType)).before args0 about1 = true := code_word (m := ⟨14, 0⟩) (meth := k14m0) (c := k14c0) (by decide +kernel) rfl rfl rfl (by decide +kernel)
set_option maxRecDepth 65536 in
theorem w_c7 : (Jvm.Cond.code ({ cls := "java/util/ImmutableCollections$AbstractImmutableSet", name := "<init>", desc := "()V" } : Jvm.MethodName) jdk_100_method_1_code (1 : Nat) (Option.none : Option Jvm.ClassFile.FieldType)).before args0 about1 = true := code_word (m := ⟨13, 0⟩) (meth := k13m0) (c := k13c0) (by decide +kernel) rfl rfl rfl (by decide +kernel)
set_option maxRecDepth 65536 in
theorem w_c8 : (Jvm.Cond.code ({ cls := "java/util/ImmutableCollections$AbstractImmutableCollection", name := "<init>", desc := "()V" } : Jvm.MethodName) jdk_47_method_1_code (1 : Nat) (Option.none : Option Jvm.ClassFile.FieldType)).before args0 about1 = true := code_word (m := ⟨12, 0⟩) (meth := k12m0) (c := k12c0) (by decide +kernel) rfl rfl rfl (by decide +kernel)
set_option maxRecDepth 65536 in
theorem w_c9 : (Jvm.Cond.code ({ cls := "java/util/AbstractCollection", name := "<init>", desc := "()V" } : Jvm.MethodName) jdk_22_method_1_code (1 : Nat) (Option.none : Option Jvm.ClassFile.FieldType)).before args0 about1 = true := code_word (m := ⟨11, 0⟩) (meth := k11m0) (c := k11c0) (by decide +kernel) rfl rfl rfl (by decide +kernel)
set_option maxRecDepth 65536 in
theorem w_c10 : (Jvm.Cond.code ({ cls := "java/util/Objects", name := "requireNonNull", desc := "(Ljava/lang/Object;)Ljava/lang/Object;" } : Jvm.MethodName) jdk_31_method_10_code (1 : Nat) (Option.some (Jvm.ClassFile.FieldType.object "java/lang/Object"))).before args0 about1 = true := code_word (m := ⟨15, 1⟩) (meth := k15m1) (c := k15c1) (by decide +kernel) rfl rfl rfl (by decide +kernel)
set_option maxRecDepth 65536 in
theorem w_c11 : (Jvm.Cond.code ({ cls := "com/example/baskit/baskit/Keys", name := "<init>", desc := "(Ljava/lang/String;Ljava/lang/String;)V" } : Jvm.MethodName) prog_3_method_1_code (3 : Nat) (Option.none : Option Jvm.ClassFile.FieldType)).before args0 about1 = true := code_word (m := ⟨18, 0⟩) (meth := k18m0) (c := k18c0) (by decide +kernel) rfl rfl rfl (by decide +kernel)
set_option maxRecDepth 65536 in
theorem w_c12 : (Jvm.Cond.code ({ cls := "com/example/baskit/baskit/ClientSide", name := "<init>", desc := "(Lcom/example/baskit/baskit/Keys;Ljava/util/Set;Z)V" } : Jvm.MethodName) prog_1_method_1_code (4 : Nat) (Option.none : Option Jvm.ClassFile.FieldType)).before args0 about1 = true := code_word (m := ⟨17, 0⟩) (meth := k17m0) (c := k17c0) (by decide +kernel) rfl rfl rfl (by decide +kernel)
set_option maxRecDepth 65536 in
theorem w_c13 : (Jvm.Cond.code ({ cls := "java/util/Set", name := "copyOf", desc := "(Ljava/util/Collection;)Ljava/util/Set;" } : Jvm.MethodName) jdk_96_method_29_code (1 : Nat) (Option.some (Jvm.ClassFile.FieldType.object "java/util/Set"))).before args0 about1 = true := code_word (m := ⟨10, 4⟩) (meth := k10m4) (c := k10c4) (by decide +kernel) rfl rfl rfl (by decide +kernel)
set_option maxRecDepth 65536 in
theorem w_c14 : (Jvm.Cond.code ({ cls := "com/example/baskit/baskit/ClientSide", name := "allows", desc := "(Ljava/lang/String;)Z" } : Jvm.MethodName) prog_1_method_3_code (2 : Nat) (Option.some Jvm.ClassFile.FieldType.boolean)).before args0 about1 = true := code_word (m := ⟨17, 1⟩) (meth := k17m1) (c := k17c1) (by decide +kernel) rfl rfl rfl (by decide +kernel)
set_option maxRecDepth 65536 in
theorem w_c15 : (Jvm.Cond.code ({ cls := "java/lang/String", name := "equals", desc := "(Ljava/lang/Object;)Z" } : Jvm.MethodName) jdk_42_method_66_code (3 : Nat) (Option.some Jvm.ClassFile.FieldType.boolean)).before args0 about1 = true := code_word (m := ⟨7, 2⟩) (meth := k7m2) (c := k7c2) (by decide +kernel) rfl rfl rfl (by decide +kernel)
set_option maxRecDepth 65536 in
theorem w_c16 : (Jvm.Cond.code ({ cls := "java/lang/StringLatin1", name := "equals", desc := "([B[B)Z" } : Jvm.MethodName) jdk_43_method_13_code (3 : Nat) (Option.some Jvm.ClassFile.FieldType.boolean)).before args0 about1 = true := code_word (m := ⟨19, 2⟩) (meth := k19m2) (c := k19c2) (by decide +kernel) rfl rfl rfl (by decide +kernel)
set_option maxRecDepth 65536 in
theorem w_c17 : (Jvm.Cond.code ({ cls := "java/util/ImmutableCollections$Set12", name := "contains", desc := "(Ljava/lang/Object;)Z" } : Jvm.MethodName) jdk_101_method_5_code (2 : Nat) (Option.some Jvm.ClassFile.FieldType.boolean)).before args0 about1 = true := code_word (m := ⟨14, 2⟩) (meth := k14m2) (c := k14c2) (by decide +kernel) rfl rfl rfl (by decide +kernel)
set_option maxRecDepth 65536 in
theorem w_c18 : (Jvm.Cond.code ({ cls := "java/lang/StringUTF16", name := "compress", desc := "([CII)[B" } : Jvm.MethodName) jdk_52_method_16_code (6 : Nat) (Option.some (Jvm.ClassFile.FieldType.array Jvm.ClassFile.FieldType.byte))).before args0 about1 = true := code_word (m := ⟨20, 2⟩) (meth := k20m2) (c := k20c2) (by decide +kernel) rfl rfl rfl (by decide +kernel)
set_option maxRecDepth 65536 in
theorem w_c19 : (Jvm.Cond.code ({ cls := "java/lang/StringUTF16", name := "compress", desc := "([CI[BII)I" } : Jvm.MethodName) jdk_52_method_21_code (7 : Nat) (Option.some Jvm.ClassFile.FieldType.int)).before args0 about1 = true := code_word (m := ⟨20, 3⟩) (meth := k20m3) (c := k20c3) (by decide +kernel) rfl rfl rfl (by decide +kernel)
set_option maxRecDepth 65536 in
theorem w_c20 : (Jvm.Cond.code ({ cls := "java/lang/StringUTF16", name := "coderFromArrayLen", desc := "([BI)B" } : Jvm.MethodName) jdk_52_method_15_code (2 : Nat) (Option.some Jvm.ClassFile.FieldType.byte)).before args0 about1 = true := code_word (m := ⟨20, 1⟩) (meth := k20m1) (c := k20c1) (by decide +kernel) rfl rfl rfl (by decide +kernel)
set_option maxRecDepth 65536 in
theorem w_c21 : (Jvm.Cond.code ({ cls := "java/lang/String", name := "valueOf", desc := "(C)Ljava/lang/String;" } : Jvm.MethodName) jdk_42_method_139_code (1 : Nat) (Option.some (Jvm.ClassFile.FieldType.object "java/lang/String"))).before args0 about1 = true := code_word (m := ⟨7, 3⟩) (meth := k7m3) (c := k7c3) (by decide +kernel) rfl rfl rfl (by decide +kernel)
set_option maxRecDepth 65536 in
theorem w_c22 : (Jvm.Cond.code ({ cls := "java/lang/StringLatin1", name := "canEncode", desc := "(C)Z" } : Jvm.MethodName) jdk_43_method_3_code (1 : Nat) (Option.some Jvm.ClassFile.FieldType.boolean)).before args0 about1 = true := code_word (m := ⟨19, 1⟩) (meth := k19m1) (c := k19c1) (by decide +kernel) rfl rfl rfl (by decide +kernel)
set_option maxRecDepth 65536 in
theorem w_c23 : (Jvm.Cond.code ({ cls := "java/lang/StringLatin1", name := "toBytes", desc := "(C)[B" } : Jvm.MethodName) jdk_43_method_46_code (1 : Nat) (Option.some (Jvm.ClassFile.FieldType.array Jvm.ClassFile.FieldType.byte))).before args0 about1 = true := code_word (m := ⟨19, 3⟩) (meth := k19m3) (c := k19c3) (by decide +kernel) rfl rfl rfl (by decide +kernel)
set_option maxRecDepth 65536 in
theorem w_c24 : (Jvm.Cond.code ({ cls := "java/lang/String", name := "<init>", desc := "([BB)V" } : Jvm.MethodName) jdk_42_method_151_code (3 : Nat) (Option.none : Option Jvm.ClassFile.FieldType)).before args0 about1 = true := code_word (m := ⟨7, 5⟩) (meth := k7m5) (c := k7c5) (by decide +kernel) rfl rfl rfl (by decide +kernel)
set_option maxRecDepth 65536 in
theorem w_c25 : (Jvm.Cond.code ({ cls := "java/util/Set", name := "of", desc := "()Ljava/util/Set;" } : Jvm.MethodName) jdk_96_method_17_code (0 : Nat) (Option.some (Jvm.ClassFile.FieldType.object "java/util/Set"))).before args0 about1 = true := code_word (m := ⟨10, 1⟩) (meth := k10m1) (c := k10c1) (by decide +kernel) rfl rfl rfl (by decide +kernel)
set_option maxRecDepth 65536 in
theorem w_c26 : (Jvm.Cond.code ({ cls := "java/util/ImmutableCollections$SetN", name := "contains", desc := "(Ljava/lang/Object;)Z" } : Jvm.MethodName) jdk_132_method_4_code (2 : Nat) (Option.some Jvm.ClassFile.FieldType.boolean)).before args0 about1 = true := code_word (m := ⟨21, 0⟩) (meth := k21m0) (c := k21c0) (by decide +kernel) rfl rfl rfl (by decide +kernel)
set_option maxRecDepth 65536 in
theorem w_c27 : (Jvm.Cond.code ({ cls := "java/lang/Object", name := "equals", desc := "(Ljava/lang/Object;)Z" } : Jvm.MethodName) object_method_4_code (2 : Nat) (Option.some Jvm.ClassFile.FieldType.boolean)).before args0 about1 = true := code_word (m := ⟨0, 1⟩) (meth := k0m1) (c := k0c1) (by decide +kernel) rfl rfl rfl (by decide +kernel)
set_option maxRecDepth 65536 in
theorem w_c28 : (Jvm.Cond.code ({ cls := "java/util/Set", name := "of", desc := "(Ljava/lang/Object;Ljava/lang/Object;)Ljava/util/Set;" } : Jvm.MethodName) jdk_96_method_19_code (2 : Nat) (Option.some (Jvm.ClassFile.FieldType.object "java/util/Set"))).before args0 about1 = true := code_word (m := ⟨10, 3⟩) (meth := k10m3) (c := k10c3) (by decide +kernel) rfl rfl rfl (by decide +kernel)
set_option maxRecDepth 65536 in
theorem w_c29 : (Jvm.Cond.code ({ cls := "java/util/ImmutableCollections$Set12", name := "<init>", desc := "(Ljava/lang/Object;Ljava/lang/Object;)V" } : Jvm.MethodName) jdk_101_method_2_code (3 : Nat) (Option.none : Option Jvm.ClassFile.FieldType)).before args0 about1 = true := code_word (m := ⟨14, 1⟩) (meth := k14m1) (c := k14c1) (by decide +kernel) rfl rfl rfl (by decide +kernel)
def codes1 : List Jvm.Cond := [Jvm.Cond.code x code maxLocals ret, Jvm.Cond.code ({ cls := "com/example/baskit/baskit/ClientSideAllowsPinLaw", name := "draw", desc := "(I)Ljava/lang/String;" } : Jvm.MethodName) method_2_code (3 : Nat) (Option.some (Jvm.ClassFile.FieldType.object "java/lang/String")), Jvm.Cond.code ({ cls := "java/lang/String", name := "<init>", desc := "([C)V" } : Jvm.MethodName) jdk_42_method_3_code (2 : Nat) (Option.none : Option Jvm.ClassFile.FieldType), Jvm.Cond.code ({ cls := "java/lang/String", name := "<init>", desc := "([CIILjava/lang/Void;)V" } : Jvm.MethodName) jdk_42_method_149_code (6 : Nat) (Option.none : Option Jvm.ClassFile.FieldType), Jvm.Cond.code ({ cls := "java/lang/Object", name := "<init>", desc := "()V" } : Jvm.MethodName) object_method_1_code (1 : Nat) (Option.none : Option Jvm.ClassFile.FieldType), Jvm.Cond.code ({ cls := "java/util/Set", name := "of", desc := "(Ljava/lang/Object;)Ljava/util/Set;" } : Jvm.MethodName) jdk_96_method_18_code (1 : Nat) (Option.some (Jvm.ClassFile.FieldType.object "java/util/Set")), Jvm.Cond.code ({ cls := "java/util/ImmutableCollections$Set12", name := "<init>", desc := "(Ljava/lang/Object;)V" } : Jvm.MethodName) jdk_101_method_1_code (2 : Nat) (Option.none : Option Jvm.ClassFile.FieldType), Jvm.Cond.code ({ cls := "java/util/ImmutableCollections$AbstractImmutableSet", name := "<init>", desc := "()V" } : Jvm.MethodName) jdk_100_method_1_code (1 : Nat) (Option.none : Option Jvm.ClassFile.FieldType), Jvm.Cond.code ({ cls := "java/util/ImmutableCollections$AbstractImmutableCollection", name := "<init>", desc := "()V" } : Jvm.MethodName) jdk_47_method_1_code (1 : Nat) (Option.none : Option Jvm.ClassFile.FieldType), Jvm.Cond.code ({ cls := "java/util/AbstractCollection", name := "<init>", desc := "()V" } : Jvm.MethodName) jdk_22_method_1_code (1 : Nat) (Option.none : Option Jvm.ClassFile.FieldType), Jvm.Cond.code ({ cls := "java/util/Objects", name := "requireNonNull", desc := "(Ljava/lang/Object;)Ljava/lang/Object;" } : Jvm.MethodName) jdk_31_method_10_code (1 : Nat) (Option.some (Jvm.ClassFile.FieldType.object "java/lang/Object")), Jvm.Cond.code ({ cls := "com/example/baskit/baskit/Keys", name := "<init>", desc := "(Ljava/lang/String;Ljava/lang/String;)V" } : Jvm.MethodName) prog_3_method_1_code (3 : Nat) (Option.none : Option Jvm.ClassFile.FieldType), Jvm.Cond.code ({ cls := "com/example/baskit/baskit/ClientSide", name := "<init>", desc := "(Lcom/example/baskit/baskit/Keys;Ljava/util/Set;Z)V" } : Jvm.MethodName) prog_1_method_1_code (4 : Nat) (Option.none : Option Jvm.ClassFile.FieldType), Jvm.Cond.code ({ cls := "java/util/Set", name := "copyOf", desc := "(Ljava/util/Collection;)Ljava/util/Set;" } : Jvm.MethodName) jdk_96_method_29_code (1 : Nat) (Option.some (Jvm.ClassFile.FieldType.object "java/util/Set")), Jvm.Cond.code ({ cls := "com/example/baskit/baskit/ClientSide", name := "allows", desc := "(Ljava/lang/String;)Z" } : Jvm.MethodName) prog_1_method_3_code (2 : Nat) (Option.some Jvm.ClassFile.FieldType.boolean), Jvm.Cond.code ({ cls := "java/lang/String", name := "equals", desc := "(Ljava/lang/Object;)Z" } : Jvm.MethodName) jdk_42_method_66_code (3 : Nat) (Option.some Jvm.ClassFile.FieldType.boolean), Jvm.Cond.code ({ cls := "java/lang/StringLatin1", name := "equals", desc := "([B[B)Z" } : Jvm.MethodName) jdk_43_method_13_code (3 : Nat) (Option.some Jvm.ClassFile.FieldType.boolean), Jvm.Cond.code ({ cls := "java/util/ImmutableCollections$Set12", name := "contains", desc := "(Ljava/lang/Object;)Z" } : Jvm.MethodName) jdk_101_method_5_code (2 : Nat) (Option.some Jvm.ClassFile.FieldType.boolean), Jvm.Cond.code ({ cls := "java/lang/StringUTF16", name := "compress", desc := "([CII)[B" } : Jvm.MethodName) jdk_52_method_16_code (6 : Nat) (Option.some (Jvm.ClassFile.FieldType.array Jvm.ClassFile.FieldType.byte)), Jvm.Cond.code ({ cls := "java/lang/StringUTF16", name := "compress", desc := "([CI[BII)I" } : Jvm.MethodName) jdk_52_method_21_code (7 : Nat) (Option.some Jvm.ClassFile.FieldType.int), Jvm.Cond.code ({ cls := "java/lang/StringUTF16", name := "coderFromArrayLen", desc := "([BI)B" } : Jvm.MethodName) jdk_52_method_15_code (2 : Nat) (Option.some Jvm.ClassFile.FieldType.byte), Jvm.Cond.code ({ cls := "java/lang/String", name := "valueOf", desc := "(C)Ljava/lang/String;" } : Jvm.MethodName) jdk_42_method_139_code (1 : Nat) (Option.some (Jvm.ClassFile.FieldType.object "java/lang/String")), Jvm.Cond.code ({ cls := "java/lang/StringLatin1", name := "canEncode", desc := "(C)Z" } : Jvm.MethodName) jdk_43_method_3_code (1 : Nat) (Option.some Jvm.ClassFile.FieldType.boolean), Jvm.Cond.code ({ cls := "java/lang/StringLatin1", name := "toBytes", desc := "(C)[B" } : Jvm.MethodName) jdk_43_method_46_code (1 : Nat) (Option.some (Jvm.ClassFile.FieldType.array Jvm.ClassFile.FieldType.byte)), Jvm.Cond.code ({ cls := "java/lang/String", name := "<init>", desc := "([BB)V" } : Jvm.MethodName) jdk_42_method_151_code (3 : Nat) (Option.none : Option Jvm.ClassFile.FieldType), Jvm.Cond.code ({ cls := "java/util/Set", name := "of", desc := "()Ljava/util/Set;" } : Jvm.MethodName) jdk_96_method_17_code (0 : Nat) (Option.some (Jvm.ClassFile.FieldType.object "java/util/Set")), Jvm.Cond.code ({ cls := "java/util/ImmutableCollections$SetN", name := "contains", desc := "(Ljava/lang/Object;)Z" } : Jvm.MethodName) jdk_132_method_4_code (2 : Nat) (Option.some Jvm.ClassFile.FieldType.boolean), Jvm.Cond.code ({ cls := "java/lang/Object", name := "equals", desc := "(Ljava/lang/Object;)Z" } : Jvm.MethodName) object_method_4_code (2 : Nat) (Option.some Jvm.ClassFile.FieldType.boolean), Jvm.Cond.code ({ cls := "java/util/Set", name := "of", desc := "(Ljava/lang/Object;Ljava/lang/Object;)Ljava/util/Set;" } : Jvm.MethodName) jdk_96_method_19_code (2 : Nat) (Option.some (Jvm.ClassFile.FieldType.object "java/util/Set")), Jvm.Cond.code ({ cls := "java/util/ImmutableCollections$Set12", name := "<init>", desc := "(Ljava/lang/Object;Ljava/lang/Object;)V" } : Jvm.MethodName) jdk_101_method_2_code (3 : Nat) (Option.none : Option Jvm.ClassFile.FieldType)]
set_option maxRecDepth 65536 in
theorem codes_eq : words1.filter isCode = codes1 := rfl
theorem w_codes : ∀ c ∈ words1.filter isCode, c.before args0 about1 = true := by
  rw [codes_eq]
  intro c hc
  simp only [codes1, List.mem_cons, List.not_mem_nil, or_false] at hc
  rcases hc with rfl | rfl | rfl | rfl | rfl | rfl | rfl | rfl | rfl | rfl | rfl | rfl | rfl | rfl | rfl | rfl | rfl | rfl | rfl | rfl | rfl | rfl | rfl | rfl | rfl | rfl | rfl | rfl | rfl | rfl
  · exact w_c0
  · exact w_c1
  · exact w_c2
  · exact w_c3
  · exact w_c4
  · exact w_c5
  · exact w_c6
  · exact w_c7
  · exact w_c8
  · exact w_c9
  · exact w_c10
  · exact w_c11
  · exact w_c12
  · exact w_c13
  · exact w_c14
  · exact w_c15
  · exact w_c16
  · exact w_c17
  · exact w_c18
  · exact w_c19
  · exact w_c20
  · exact w_c21
  · exact w_c22
  · exact w_c23
  · exact w_c24
  · exact w_c25
  · exact w_c26
  · exact w_c27
  · exact w_c28
  · exact w_c29
set_option maxRecDepth 65536 in
theorem w_t1 : (words1.take 24).all (fun c => isCode c || c.before args0 about1) = true := by decide +kernel
set_option maxRecDepth 65536 in
theorem w_t2 : ((words1.drop 24).take 24).all (fun c => isCode c || c.before args0 about1) = true := by decide +kernel
set_option maxRecDepth 65536 in
theorem w_t3 : (((words1.drop 24).drop 24).take 24).all (fun c => isCode c || c.before args0 about1) = true := by decide +kernel
set_option maxRecDepth 65536 in
theorem w_t4 : ((((words1.drop 24).drop 24).drop 24).take 24).all (fun c => isCode c || c.before args0 about1) = true := by decide +kernel
set_option maxRecDepth 65536 in
theorem w_t5 : (((((words1.drop 24).drop 24).drop 24).drop 24).take 24).all (fun c => isCode c || c.before args0 about1) = true := by decide +kernel
set_option maxRecDepth 65536 in
theorem w_t6 : ((((((words1.drop 24).drop 24).drop 24).drop 24).drop 24).take 24).all (fun c => isCode c || c.before args0 about1) = true := by decide +kernel
set_option maxRecDepth 65536 in
theorem w_t7 : (((((((words1.drop 24).drop 24).drop 24).drop 24).drop 24).drop 24).take 24).all (fun c => isCode c || c.before args0 about1) = true := by decide +kernel
set_option maxRecDepth 65536 in
theorem w_t8 : (((((((words1.drop 24).drop 24).drop 24).drop 24).drop 24).drop 24).drop 24).all (fun c => isCode c || c.before args0 about1) = true := by decide +kernel
theorem w_tables : (allAtoms (Jvm.Cond.code x code maxLocals ret :: tables_1)).before args0 about1 = true := by
  rw [allAtoms_all]
  show words1.all (fun c => c.before args0 about1) = true
  refine all_split ?_ w_codes
  rw [← List.take_append_drop 24 words1, List.all_append, w_t1, ← List.take_append_drop 24 (words1.drop 24), List.all_append, w_t2, ← List.take_append_drop 24 ((words1.drop 24).drop 24), List.all_append, w_t3, ← List.take_append_drop 24 (((words1.drop 24).drop 24).drop 24), List.all_append, w_t4, ← List.take_append_drop 24 ((((words1.drop 24).drop 24).drop 24).drop 24), List.all_append, w_t5, ← List.take_append_drop 24 (((((words1.drop 24).drop 24).drop 24).drop 24).drop 24), List.all_append, w_t6, ← List.take_append_drop 24 ((((((words1.drop 24).drop 24).drop 24).drop 24).drop 24).drop 24), List.all_append, w_t7, w_t8]
  rfl
set_option maxRecDepth 65536 in
theorem w_rest : rest_1_c.before args0 about1 = true := by decide +kernel
set_option maxRecDepth 65536 in
theorem w_case : (Jvm.Cond.and given_1 narrow_1).before args0 about1 = true := by decide +kernel
set_option maxRecDepth 65536 in
theorem w_consts : constsHeld consts_1 about1 := Jvm.Lit.constsHeldB_iff.mp (by decide +kernel)
theorem w_applies : (headSpec (Jvm.Cond.code x code maxLocals ret :: tables_1) room_1).applies x e0.platform about1 = true :=
  (Spec.applies_iff w_frames).mpr ⟨w_running, w_runnable, w_alone, w_named, w_hears, w_ripe, w_room, w_tables⟩
theorem atStart : AtStart classFile x code maxLocals ret World_1 tables_1 room_1 Calls_1 rest_1 Pre_1 launch0 p0 e0 about1 theMethod args0 below0 :=
  ⟨lists_1, trivial, launch0.admits_env _ _ _, launch0.least_env, fairChoices_fair.cas, fairChoices_fair.clock, w_frames, w_args, w_heap, w_applies, ⟨w_consts, trivial⟩, w_rest, w_case⟩
end start1
theorem witness_1 : WitnessClaimed_1 := ⟨start1.p0, start1.e0, start1.about1, start1.theMethod, start1.args0, start1.below0, start1.atStart⟩
end Jvm.Pilot.@@N@@
