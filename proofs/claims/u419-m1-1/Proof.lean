import JvmDerived
import JvmDerived.Pilot.@@N@@Statement
import JvmDerived.Pilot.@@N@@Code
set_option linter.unusedVariables false
set_option linter.unusedSimpArgs false
/- laws to paste: Road.backV, Road.eqW, Road.codOf (cut by pick.py; bodies as the Statement names them) -/
namespace Jvm.Pilot.@@N@@
namespace StrChars
open Jvm Sem ClassFile Op Lib Jvm.Stand Jvm.Free.XT Jvm.Free.ALB Jvm.Free.JM Jvm.Free
open Jvm.Lib.Cold (StaticIs)
/-- a char array whose places are chars -/
def Ch (a : Addr) (A : Cell) (U : State) : Prop := Arr .char a A U ∧ Typed .char A
theorem Ch.mv {a : Addr} {A : Cell} {U U' : State} (h : Ch a A U) (hal : U.vm.Alike U'.vm) (hh : U'.heap = U.heap) : Ch a A U' := ⟨h.1.mv hal hh, h.2⟩
theorem Ch.keep {a : Addr} {A : Cell} {U U' : State} (h : Ch a A U) (hal : U.vm.Alike U'.vm) (hk : U'.heap[a]? = some A) : Ch a A U' := ⟨h.1.keep hal hk, h.2⟩
/-- what place i of a char[]'s cell holds -/
def cv (A : Cell) (i : Nat) : Int32 := match A.slots[i]? with | some (.int x) => x | _ => 0
theorem Ch.get {a : Addr} {A : Cell} {U : State} (h : Ch a A U) {i : Nat} (hi : i < A.slots.size) : A.slots[i]? = some (.int (cv A i)) := by
  have e := Array.getElem?_eq_getElem hi
  have f := h.2 i _ e
  unfold cv; rw [e]
  generalize A.slots[i] = v at f
  cases v <;> simp [fits] at f ⊢
/-- the byte that i2b leaves of a char -/
def lo8 (x : Int32) : Int32 := x.toInt8.toInt32
theorem fits_lo8 (y : Int32) : fits .byte (.int (lo8 y)) = true := by
  have h1 := y.toInt8.le_toInt
  have h2 := y.toInt8.toInt_lt
  simp only [lo8, fits, Bool.and_eq_true, decide_eq_true_eq, Int32.le_iff_toInt_le, Int8.toInt_toInt32, show (-128 : Int32).toInt = -128 from by decide, show (127 : Int32).toInt = 127 from by decide]
  omega
/-- A' is A but that each place j of lo .. hi - 1 holds f j -/
def Laid (A A' : Cell) (lo hi : Nat) (f : Nat → Value) : Prop := A'.cls = A.cls ∧ A'.vm = A.vm ∧ A'.slots.size = A.slots.size ∧ ∀ i, A'.slots[i]? = if lo ≤ i ∧ i < hi then some (f i) else A.slots[i]?
theorem Laid.zero (A : Cell) (lo : Nat) (f : Nat → Value) : Laid A A lo (lo + 0) f := ⟨rfl, rfl, rfl, fun i => by rw [if_neg (by omega)]⟩
theorem Laid.step {A Ak : Cell} {lo k : Nat} {f : Nat → Value} {v : Value} (h : Laid A Ak lo k f) (hlo : lo ≤ k) (hk : k < Ak.slots.size) (hv : v = f k) : Laid A (Ak.setSlot k v) lo (k + 1) f := by
  refine ⟨h.1, h.2.1, by simpa [Cell.setSlot] using h.2.2.1, fun i => ?_⟩
  by_cases e : k = i
  · subst e; rw [Cell.slots_setSlot_self v hk, if_pos (by omega), hv]
  · rw [Cell.slots_setSlot_ne v e, h.2.2.2 i]
    by_cases q : lo ≤ i ∧ i < k
    · rw [if_pos q, if_pos (by omega)]
    · rw [if_neg q, if_neg (by omega)]
def U16 : String := "java/lang/StringUTF16"
namespace Cmp5
def yN : MethodName := ⟨"java/lang/StringUTF16", "compress", "([CI[BII)I"⟩
abbrev yB : ByteArray := jdk_52_method_21_code
theorem d0 : decode yB 0 = .ok (.iconst 0, 1) := by decide +kernel
theorem d1 : decode yB 1 = .ok (.istore 5, 2) := by decide +kernel
theorem d3 : decode yB 3 = .ok (.iload 5, 2) := by decide +kernel
theorem d5 : decode yB 5 = .ok (.iload 4, 2) := by decide +kernel
theorem d7 : decode yB 7 = .ok (.if_icmp (.ge) 37, 3) := by decide +kernel
theorem d10 : decode yB 10 = .ok (.aload_n 0, 1) := by decide +kernel
theorem d11 : decode yB 11 = .ok (.iload_n 1, 1) := by decide +kernel
theorem d12 : decode yB 12 = .ok (.caload, 1) := by decide +kernel
theorem d13 : decode yB 13 = .ok (.istore 6, 2) := by decide +kernel
theorem d15 : decode yB 15 = .ok (.iload 6, 2) := by decide +kernel
theorem d17 : decode yB 17 = .ok (.sipush 255, 3) := by decide +kernel
theorem d20 : decode yB 20 = .ok (.if_icmp (.le) 6, 3) := by decide +kernel
theorem d26 : decode yB 26 = .ok (.aload_n 2, 1) := by decide +kernel
theorem d27 : decode yB 27 = .ok (.iload_n 3, 1) := by decide +kernel
theorem d28 : decode yB 28 = .ok (.iload 6, 2) := by decide +kernel
theorem d30 : decode yB 30 = .ok (.i2b, 1) := by decide +kernel
theorem d31 : decode yB 31 = .ok (.bastore, 1) := by decide +kernel
theorem d32 : decode yB 32 = .ok (.iinc 1 1, 3) := by decide +kernel
theorem d35 : decode yB 35 = .ok (.iinc 3 1, 3) := by decide +kernel
theorem d38 : decode yB 38 = .ok (.iinc 5 1, 3) := by decide +kernel
theorem d41 : decode yB 41 = .ok (.goto (-38), 3) := by decide +kernel
theorem d44 : decode yB 44 = .ok (.iload 4, 2) := by decide +kernel
theorem d46 : decode yB 46 = .ok (.ireturn, 1) := by decide +kernel
def site : List Cond := []
def tab : Cond := tabOf yN yB 7 (some .int) site
def P (b : Addr) (A : Cell) (d : Addr) (B : Cell) (o q len : Nat) (args : Array Value) (s : State) : Prop := args = #[.ref b, .int (Int32.ofNat o), .ref d, .int (Int32.ofNat q), .int (Int32.ofNat len)] ∧ Ch b A s ∧ Arr .byte d B s ∧ b ≠ d ∧ o + len ≤ A.slots.size ∧ q + len ≤ B.slots.size ∧ ∀ i, i < len → ¬ 255 < cv A (o + i)
def E (b : Addr) (A : Cell) (d : Addr) (B : Cell) (o q len : Nat) (r : Option Value) (s u : State) : Prop := r = some (.int (Int32.ofNat len)) ∧ ∃ B', Put d B' s u ∧ Laid B B' q (q + len) (fun j => Value.int (lo8 (cv A (o + (j - q)))))
/-- no char of the range above 255: len; the places written hold each char's low byte -/
theorem law (l : Launch) (b : Addr) (A : Cell) (d : Addr) (B : Cell) (o q len : Nat) : Law l yN 5 5 0 0 yB 7 (some .int) site (P b A d B o q len) (E b A d B o q len) (copyLocs d q len) 0 0 := by
  refine Law.of_walk (plainFor_of_name (by decide +kernel)) (by decide +kernel) (by decide +kernel) (by decide) (fun _ _ h => by rw [h.1]; rfl) (fun _ U U' hal hh h => ⟨h.1, h.2.1.mv hal hh, h.2.2.1.mv hal hh, h.2.2.2⟩) (fun r U U' V V' h1 hal h2 h => ⟨h.1, h.2.elim fun B' q => ⟨B', q.1.mv h1 h2, q.2⟩⟩) ?_
  intro p e s m args below meth c s₁ X0 hexec hbytes hml hret hlk hnm hown hh0 W hP
  obtain ⟨rfl, hA, hB, hne, l1, l2, hp⟩ := hP
  have c1 : Steps p.tables e below (s₁.setTop (entryFrame m #[.ref b, .int (Int32.ofNat o), .ref d, .int (Int32.ofNat q), .int (Int32.ofNat len)] 7)) (s₁.setTop (mkF m 0 #[.val (.ref b), .val (.int (Int32.ofNat o)), .val (.ref d), .val (.int (Int32.ofNat q)), .val (.int (Int32.ofNat len)), .unset, .unset] [])) := entry rfl
  have hA0 := hA.1.mv X0.warmed.alike hh0
  have hB0 := hB.mv X0.warmed.alike hh0
  have a31 := hA.1.2.2.2
  have c2 : Steps p.tables e below (s₁.setTop (entryFrame m #[.ref b, .int (Int32.ofNat o), .ref d, .int (Int32.ofNat q), .int (Int32.ofNat len)] 7)) (s₁.setTop (mkF m 3 #[.val (.ref b), .val (.int (Int32.ofNat o)), .val (.ref d), .val (.int (Int32.ofNat q)), .val (.int (Int32.ofNat len)), .val (.int 0), .unset] [])) := c1.trans (by
    refine iconstV X0.here hexec rfl 0 (hb hbytes d0) (by decide) ?_
    refine XS.istore X0.here hexec rfl (hb hbytes d1) rfl rfl ?_
    exact Steps.refl _)
  have loop : ∀ (r i : Nat), i + r = len → ∀ (z : Slot), (z = .unset ∨ ∃ w, z = .val w ∧ w.category = 1) → ∀ (Tl : State) (Bk : Cell), Stand p l e { frames := 0, locals := 0, cells := 0, slots := 0 } s m #[.ref b, .int (Int32.ofNat o), .ref d, .int (Int32.ofNat q), .int (Int32.ofNat len)] below meth c Tl ([] ++ copyLocs d q i) 0 0 → Put d Bk s₁ Tl → Laid B Bk q (q + i) (fun j => Value.int (lo8 (cv A (o + (j - q))))) →
      Steps p.tables e below (s₁.setTop (entryFrame m #[.ref b, .int (Int32.ofNat o), .ref d, .int (Int32.ofNat q), .int (Int32.ofNat len)] 7)) (Tl.setTop (mkF m 3 #[.val (.ref b), .val (.int (Int32.ofNat (o + i))), .val (.ref d), .val (.int (Int32.ofNat (q + i))), .val (.int (Int32.ofNat len)), .val (.int (Int32.ofNat i)), z] [])) → ∃ (T' : State) (B' : Cell) (z' : Slot), Stand p l e { frames := 0, locals := 0, cells := 0, slots := 0 } s m #[.ref b, .int (Int32.ofNat o), .ref d, .int (Int32.ofNat q), .int (Int32.ofNat len)] below meth c T' ([] ++ copyLocs d q len) 0 0 ∧ Put d B' s₁ T' ∧ Laid B B' q (q + len) (fun j => Value.int (lo8 (cv A (o + (j - q))))) ∧
      Steps p.tables e below (s₁.setTop (entryFrame m #[.ref b, .int (Int32.ofNat o), .ref d, .int (Int32.ofNat q), .int (Int32.ofNat len)] 7)) (T'.setTop (mkF m 3 #[.val (.ref b), .val (.int (Int32.ofNat (o + len))), .val (.ref d), .val (.int (Int32.ofNat (q + len))), .val (.int (Int32.ofNat len)), .val (.int (Int32.ofNat len)), z'] [])) := by
    intro r
    induction r with
    | zero =>
      intro i hi z hz Tl Bk Xl pl fl cl
      have hil : i = len := by omega
      rw [hil] at Xl fl cl
      exact ⟨Tl, Bk, z, Xl, pl, fl, cl⟩
    | succ r ih =>
      intro i hi z hz Tl Bk Xl pl fl cl
      have all := X0.warmed.alike.symm.trans Xl.warmed.alike
      have hAl := hA0.keep all (pl.other hne hA0.1)
      have hBk := hB0.like all pl.1 fl.1 fl.2.1 fl.2.2.1
      have hlt : q + i < Bk.slots.size := by rw [fl.2.2.1]; omega
      have c3 : Steps p.tables e below (s₁.setTop (entryFrame m #[.ref b, .int (Int32.ofNat o), .ref d, .int (Int32.ofNat q), .int (Int32.ofNat len)] 7)) (Tl.setTop (mkF m 12 #[.val (.ref b), .val (.int (Int32.ofNat (o + i))), .val (.ref d), .val (.int (Int32.ofNat (q + i))), .val (.int (Int32.ofNat len)), .val (.int (Int32.ofNat i)), z] [.int (Int32.ofNat (o + i)), .ref b])) := cl.trans (by
        refine XS.iload Xl.here hexec rfl (hb hbytes d3) rfl ?_
        refine XS.iload Xl.here hexec rfl (hb hbytes d5) rfl ?_
        refine XS.icmpNo Xl.here hexec rfl (hb hbytes d7) rfl (ii_ge_f (lt32 (by omega) (by omega))) ?_
        refine XS.aloadN Xl.here hexec rfl (hb hbytes d10) rfl rfl ?_
        refine XS.iloadN Xl.here hexec rfl (hb hbytes d11) rfl ?_
        exact Steps.refl _)
      have c4 : Steps p.tables e below (s₁.setTop (entryFrame m #[.ref b, .int (Int32.ofNat o), .ref d, .int (Int32.ofNat q), .int (Int32.ofNat len)] 7)) (Tl.setTop (mkF m 13 #[.val (.ref b), .val (.int (Int32.ofNat (o + i))), .val (.ref d), .val (.int (Int32.ofNat (q + i))), .val (.int (Int32.ofNat len)), .val (.int (Int32.ofNat i)), z] [.int (cv A (o + i))])) := c3.trans (by
        refine Xl.aget hexec hAl rfl (hA.get (i := o + i) (by omega)) rfl rfl (hb hbytes d12) ?_
        exact Steps.refl _)
      have c5 : Steps p.tables e below (s₁.setTop (entryFrame m #[.ref b, .int (Int32.ofNat o), .ref d, .int (Int32.ofNat q), .int (Int32.ofNat len)] 7)) (Tl.setTop (mkF m 15 #[.val (.ref b), .val (.int (Int32.ofNat (o + i))), .val (.ref d), .val (.int (Int32.ofNat (q + i))), .val (.int (Int32.ofNat len)), .val (.int (Int32.ofNat i)), .val (.int (cv A (o + i)))] [])) := c4.trans (by
        refine XS.istoreS Xl.here hexec rfl (hb hbytes d13) rfl rfl hz ?_
        exact Steps.refl _)
      have c6 : Steps p.tables e below (s₁.setTop (entryFrame m #[.ref b, .int (Int32.ofNat o), .ref d, .int (Int32.ofNat q), .int (Int32.ofNat len)] 7)) (Tl.setTop (mkF m 31 #[.val (.ref b), .val (.int (Int32.ofNat (o + i))), .val (.ref d), .val (.int (Int32.ofNat (q + i))), .val (.int (Int32.ofNat len)), .val (.int (Int32.ofNat i)), .val (.int (cv A (o + i)))] [.int (lo8 (cv A (o + i))), .int (Int32.ofNat (q + i)), .ref d])) := c5.trans (by
        refine XS.iload Xl.here hexec rfl (hb hbytes d15) rfl ?_
        refine sipushV Xl.here hexec rfl 255 (hb hbytes d17) (by decide) ?_
        refine XS.icmpYes Xl.here hexec rfl (pc0 := 20) rfl (hb hbytes d20) rfl (ii_le_t (hp i (by omega))) (by decide) rfl ?_
        refine XS.aloadN Xl.here hexec rfl (hb hbytes d26) rfl rfl ?_
        refine XS.iloadN Xl.here hexec rfl (hb hbytes d27) rfl ?_
        refine XS.iload Xl.here hexec rfl (hb hbytes d28) rfl ?_
        refine i2b Xl.here hexec rfl (hb hbytes d30) rfl ?_
        exact Steps.refl _)
      obtain ⟨T7, X7, p7, st7⟩ := Xl.aput hexec hBk rfl hlt rfl (fits_lo8 (cv A (o + i))) (g := (mkF m 31 #[.val (.ref b), .val (.int (Int32.ofNat (o + i))), .val (.ref d), .val (.int (Int32.ofNat (q + i))), .val (.int (Int32.ofNat len)), .val (.int (Int32.ofNat i)), .val (.int (cv A (o + i)))] [.int (lo8 (cv A (o + i))), .int (Int32.ofNat (q + i)), .ref d])) rfl (rest := []) rfl (hb hbytes d31)
      have c8 : Steps p.tables e below (s₁.setTop (entryFrame m #[.ref b, .int (Int32.ofNat o), .ref d, .int (Int32.ofNat q), .int (Int32.ofNat len)] 7)) (T7.setTop (mkF m 32 #[.val (.ref b), .val (.int (Int32.ofNat (o + i))), .val (.ref d), .val (.int (Int32.ofNat (q + i))), .val (.int (Int32.ofNat len)), .val (.int (Int32.ofNat i)), .val (.int (cv A (o + i)))] [])) := c6.trans (st7 _ (Steps.refl _))
      have c9 : Steps p.tables e below (s₁.setTop (entryFrame m #[.ref b, .int (Int32.ofNat o), .ref d, .int (Int32.ofNat q), .int (Int32.ofNat len)] 7)) (T7.setTop (mkF m 3 #[.val (.ref b), .val (.int (Int32.ofNat (o + i) + 1)), .val (.ref d), .val (.int (Int32.ofNat (q + i) + 1)), .val (.int (Int32.ofNat len)), .val (.int (Int32.ofNat i + 1)), .val (.int (cv A (o + i)))] [])) := c8.trans (by
        refine iincV X7.here hexec rfl 1 (hb hbytes d32) (by decide) rfl rfl ?_
        refine iincV X7.here hexec rfl 1 (hb hbytes d35) (by decide) rfl rfl ?_
        refine iincV X7.here hexec rfl 1 (hb hbytes d38) (by decide) rfl rfl ?_
        refine XS.goto X7.here hexec rfl (pc0 := 41) rfl (hb hbytes d41) (by decide) rfl ?_
        exact Steps.refl _)
      have c10 : Steps p.tables e below (s₁.setTop (entryFrame m #[.ref b, .int (Int32.ofNat o), .ref d, .int (Int32.ofNat q), .int (Int32.ofNat len)] 7)) (T7.setTop (mkF m 3 #[.val (.ref b), .val (.int (Int32.ofNat (o + (i + 1)))), .val (.ref d), .val (.int (Int32.ofNat (q + (i + 1)))), .val (.int (Int32.ofNat len)), .val (.int (Int32.ofNat (i + 1))), .val (.int (cv A (o + i)))] [])) := by
        have := c9
        rw [succ32, succ32, succ32] at this
        exact this
      exact ih (i + 1) (by omega) _ (Or.inr ⟨_, rfl, rfl⟩) T7 _ (by rw [copyLocs_step, ← List.append_assoc]; exact X7) (pl.trans p7) (fl.step (by omega) hlt (by simp)) c10
  obtain ⟨T9, B9, z9, X9, p9, f9, g9⟩ := loop len 0 (by omega) .unset (Or.inl rfl) s₁ B (by simpa [copyLocs] using X0) ⟨hB0.1, fun _ _ => rfl, rfl⟩ (Laid.zero _ _ _) c2
  have c11 : Steps p.tables e below (s₁.setTop (entryFrame m #[.ref b, .int (Int32.ofNat o), .ref d, .int (Int32.ofNat q), .int (Int32.ofNat len)] 7)) (T9.setTop (mkF m 46 #[.val (.ref b), .val (.int (Int32.ofNat (o + len))), .val (.ref d), .val (.int (Int32.ofNat (q + len))), .val (.int (Int32.ofNat len)), .val (.int (Int32.ofNat len)), z9] [.int (Int32.ofNat len)])) := g9.trans (by
    refine XS.iload X9.here hexec rfl (hb hbytes d3) rfl ?_
    refine XS.iload X9.here hexec rfl (hb hbytes d5) rfl ?_
    refine XS.icmpYes X9.here hexec rfl (pc0 := 7) rfl (hb hbytes d7) rfl (ii_ge_t (nlt32 (by omega) (Nat.le_refl _))) (by decide) rfl ?_
    refine XS.iload X9.here hexec rfl (hb hbytes d44) rfl ?_
    exact Steps.refl _)
  exact ⟨T9, some (.int (Int32.ofNat len)), _, _, _, X9, by simp, rfl, rfl, (fun h => by cases h), ⟨rfl, B9, p9.from hh0, f9⟩, fun fs hl => c11.trans (X9.ireturnOut hexec hret rfl (Or.inl rfl) (hb hbytes d46) hl)⟩
end Cmp5
namespace Cmp3
def yN : MethodName := ⟨"java/lang/StringUTF16", "compress", "([CII)[B"⟩
abbrev yB : ByteArray := jdk_52_method_16_code
theorem d0 : decode yB 0 = .ok (.iload_n 2, 1) := by decide +kernel
theorem d1 : decode yB 1 = .ok (.newarray .byte, 2) := by decide +kernel
theorem d3 : decode yB 3 = .ok (.astore_n 3, 1) := by decide +kernel
theorem d4 : decode yB 4 = .ok (.aload_n 0, 1) := by decide +kernel
theorem d5 : decode yB 5 = .ok (.iload_n 1, 1) := by decide +kernel
theorem d6 : decode yB 6 = .ok (.aload_n 3, 1) := by decide +kernel
theorem d7 : decode yB 7 = .ok (.iconst 0, 1) := by decide +kernel
theorem d8 : decode yB 8 = .ok (.iload_n 2, 1) := by decide +kernel
theorem d9 : decode yB 9 = .ok (.invokestatic 115, 3) := by decide +kernel
theorem d12 : decode yB 12 = .ok (.istore 4, 2) := by decide +kernel
theorem d14 : decode yB 14 = .ok (.iload 4, 2) := by decide +kernel
theorem d16 : decode yB 16 = .ok (.iload_n 2, 1) := by decide +kernel
theorem d17 : decode yB 17 = .ok (.if_icmp (.eq) 40, 3) := by decide +kernel
theorem d57 : decode yB 57 = .ok (.aload_n 3, 1) := by decide +kernel
theorem d58 : decode yB 58 = .ok (.areturn, 1) := by decide +kernel
def site : List Cond := [.arrayClass .byte, Cmp5.tab] ++ staticW U16 115 Cmp5.yN
def tab : Cond := tabOf yN yB 6 (some (.array .byte)) site
def P (b : Addr) (A : Cell) (o len : Nat) (args : Array Value) (s : State) : Prop := args = #[.ref b, .int (Int32.ofNat o), .int (Int32.ofNat len)] ∧ Ch b A s ∧ o + len ≤ A.slots.size ∧ len ≤ 536870912 ∧ ∀ i, i < len → ¬ 255 < cv A (o + i)
def E (b : Addr) (A : Cell) (o len : Nat) (r : Option Value) (s u : State) : Prop := NewArr .byte "[B" len (fun j => .int (lo8 (cv A (o + j)))) r s u ∧ u.heap.size = s.heap.size + 1
/-- no char of the range above 255: a new byte[] of their low bytes -/
theorem law (l : Launch) (b : Addr) (A : Cell) (o len : Nat) : Law l yN 3 3 1 18 yB 6 (some (.array .byte)) site (P b A o len) (E b A o len) [] 1 len := by
  refine Law.of_walk (plainFor_of_name (by decide +kernel)) (by decide +kernel) (by decide +kernel) (by decide) (fun _ _ h => by rw [h.1]; rfl) (fun _ U U' hal hh h => ⟨h.1, h.2.1.mv hal hh, h.2.2⟩) (fun r U U' V V' h1 hal h2 h => ⟨NewArr.mv r U U' V V' h1 hal h2 h.1, by rw [h1, h2]; exact h.2⟩) ?_
  intro p e s m args below meth c s₁ X0 hexec hbytes hml hret hlk hnm hown hh0 W hP
  obtain ⟨rfl, hA, l1, l2, hp⟩ := hP
  have a31 := hA.1.2.2.2
  have c1 : Steps p.tables e below (s₁.setTop (entryFrame m #[.ref b, .int (Int32.ofNat o), .int (Int32.ofNat len)] 6)) (s₁.setTop (mkF m 0 #[.val (.ref b), .val (.int (Int32.ofNat o)), .val (.int (Int32.ofNat len)), .unset, .unset, .unset] [])) := entry rfl
  have c2 : Steps p.tables e below (s₁.setTop (entryFrame m #[.ref b, .int (Int32.ofNat o), .int (Int32.ofNat len)] 6)) (s₁.setTop (mkF m 1 #[.val (.ref b), .val (.int (Int32.ofNat o)), .val (.int (Int32.ofNat len)), .unset, .unset, .unset] [.int (Int32.ofNat len)])) := c1.trans (by
    refine XS.iloadN X0.here hexec rfl (hb hbytes d0) rfl ?_
    exact Steps.refl _)
  obtain ⟨T3, B3, X3, ba3, bs3, bv3, bh3, bf3, st3⟩ := X0.anew hexec (atype := .byte) (wk W (.arrayClass .byte)) rfl (by show len * 1 ≤ _; omega) (by omega) (g := (mkF m 1 #[.val (.ref b), .val (.int (Int32.ofNat o)), .val (.int (Int32.ofNat len)), .unset, .unset, .unset] [.int (Int32.ofNat len)])) rfl (hb hbytes d1) (rest := []) rfl (Nat.le_refl _) (by show 0 + len ≤ len; omega)
  rw [hh0] at ba3 st3
  have kp3 : XT.Kept s T3 := (XT.Kept.of_eq hh0).push bh3
  have hA3 := hA.keep X3.warmed.alike (kp3 _ _ hA.1.1)
  have hne : b ≠ s.heap.size := hA.1.ne
  have c4 : Steps p.tables e below (s₁.setTop (entryFrame m #[.ref b, .int (Int32.ofNat o), .int (Int32.ofNat len)] 6)) (T3.setTop (mkF m 3 #[.val (.ref b), .val (.int (Int32.ofNat o)), .val (.int (Int32.ofNat len)), .unset, .unset, .unset] [.ref s.heap.size])) := c2.trans (st3 _ (Steps.refl _))
  have c5 : Steps p.tables e below (s₁.setTop (entryFrame m #[.ref b, .int (Int32.ofNat o), .int (Int32.ofNat len)] 6)) (T3.setTop (mkF m 9 #[.val (.ref b), .val (.int (Int32.ofNat o)), .val (.int (Int32.ofNat len)), .val (.ref s.heap.size), .unset, .unset] [.int (Int32.ofNat len), .int 0, .ref s.heap.size, .int (Int32.ofNat o), .ref b])) := c4.trans (by
    refine XS.astoreN X3.here hexec rfl (hb hbytes d3) rfl rfl rfl ?_
    refine XS.aloadN X3.here hexec rfl (hb hbytes d4) rfl rfl ?_
    refine XS.iloadN X3.here hexec rfl (hb hbytes d5) rfl ?_
    refine XS.aloadN X3.here hexec rfl (hb hbytes d6) rfl rfl ?_
    refine iconstV X3.here hexec rfl 0 (hb hbytes d7) (by decide) ?_
    refine XS.iloadN X3.here hexec rfl (hb hbytes d8) rfl ?_
    exact Steps.refl _)
  obtain ⟨v6, T6, X6, E6, g6⟩ := X3.callS hexec (Cmp5.law l b A s.heap.size B3 o 0 len) hown (wks W (staticW U16 115 Cmp5.yN)) (wk W Cmp5.tab) (W := 0) (Nat.le_of_ble_eq_true rfl) (Nat.le_of_ble_eq_true rfl) (Nat.le_refl _) (by show 0 + len + 0 ≤ len; omega) (g := (mkF m 9 #[.val (.ref b), .val (.int (Int32.ofNat o)), .val (.int (Int32.ofNat len)), .val (.ref s.heap.size), .unset, .unset] [.int (Int32.ofNat len), .int (Int32.ofNat 0), .ref s.heap.size, .int (Int32.ofNat o), .ref b])) rfl (by rw [hml]; rfl) c5 (argsL := [.ref b, .int (Int32.ofNat o), .ref s.heap.size, .int (Int32.ofNat 0), .int (Int32.ofNat len)]) (rest := []) rfl rfl (by show 2 * 0 + 0 ≤ _; decide) (hb hbytes d9) (⟨rfl, hA3, ba3, hne, l1, by rw [bs3]; simp, hp⟩)
  obtain ⟨rfl, B6, p6, f6⟩ := E6
  have c7 : Steps p.tables e below (s₁.setTop (entryFrame m #[.ref b, .int (Int32.ofNat o), .int (Int32.ofNat len)] 6)) (T6.setTop (mkF m 12 #[.val (.ref b), .val (.int (Int32.ofNat o)), .val (.int (Int32.ofNat len)), .val (.ref s.heap.size), .unset, .unset] [.int (Int32.ofNat len)])) := g6
  have c8 : Steps p.tables e below (s₁.setTop (entryFrame m #[.ref b, .int (Int32.ofNat o), .int (Int32.ofNat len)] 6)) (T6.setTop (mkF m 58 #[.val (.ref b), .val (.int (Int32.ofNat o)), .val (.int (Int32.ofNat len)), .val (.ref s.heap.size), .val (.int (Int32.ofNat len)), .unset] [.ref s.heap.size])) := c7.trans (by
    refine XS.istore X6.here hexec rfl (hb hbytes d12) rfl rfl ?_
    refine XS.iload X6.here hexec rfl (hb hbytes d14) rfl ?_
    refine XS.iloadN X6.here hexec rfl (hb hbytes d16) rfl ?_
    refine XS.icmpYes X6.here hexec rfl (pc0 := 17) rfl (hb hbytes d17) rfl (ii_eq_t rfl) (by decide) rfl ?_
    refine XS.aloadN X6.here hexec rfl (hb hbytes d57) rfl rfl ?_
    exact Steps.refl _)
  have X8 := X6.wide (L' := []) (cells' := 1) (slots' := len) (fun x hx hlt => by
    simp only [List.nil_append, copyLocs, List.mem_map, List.mem_range] at hx
    obtain ⟨i, -, rfl⟩ := hx
    exact absurd hlt (Nat.lt_irrefl _)) (Nat.le_refl _) (by omega)
  exact ⟨T6, some (.ref s.heap.size), _, _, _, X8, rfl, rfl, rfl, (fun h => by cases h), ⟨⟨rfl, B6, ba3.like (X3.warmed.alike.symm.trans X6.warmed.alike) p6.1 f6.1 f6.2.1 f6.2.2.1, f6.2.1.trans bv3, by rw [X6.warmed.alike.findClass, f6.1]; exact bf3, by rw [f6.2.2.1, bs3]; simp, fun j hj => by rw [f6.2.2.2 j, if_pos (by omega)]; rfl, kp3.put p6 (Nat.le_refl _)⟩, by rw [p6.2.2, bh3, hh0]; simp⟩, fun fs hl => c8.trans (X8.areturnOut hexec rfl hret rfl (hb hbytes d58) hl)⟩
end Cmp3
namespace CodL
def yN : MethodName := ⟨"java/lang/StringUTF16", "coderFromArrayLen", "([BI)B"⟩
abbrev yB : ByteArray := jdk_52_method_15_code
theorem d0 : decode yB 0 = .ok (.iload_n 1, 1) := by decide +kernel
theorem d1 : decode yB 1 = .ok (.aload_n 0, 1) := by decide +kernel
theorem d2 : decode yB 2 = .ok (.arraylength, 1) := by decide +kernel
theorem d3 : decode yB 3 = .ok (.isub, 1) := by decide +kernel
theorem d4 : decode yB 4 = .ok (.bipush 31, 2) := by decide +kernel
theorem d6 : decode yB 6 = .ok (.iushr, 1) := by decide +kernel
theorem d7 : decode yB 7 = .ok (.i2b, 1) := by decide +kernel
theorem d8 : decode yB 8 = .ok (.ireturn, 1) := by decide +kernel
def site : List Cond := []
def tab : Cond := tabOf yN yB 2 (some .byte) site
def P (d : Addr) (B : Cell) (args : Array Value) (s : State) : Prop := args = #[.ref d, .int (Int32.ofNat B.slots.size)] ∧ Arr .byte d B s
def E (r : Option Value) (s u : State) : Prop := XT.PureE (some (.int 0)) r s u
/-- an array as long as the number of chars: LATIN1 -/
theorem law (l : Launch) (d : Addr) (B : Cell) : Law l yN 2 2 0 0 yB 2 (some .byte) site (P d B) E [] 0 0 := by
  refine Law.of_walk (plainFor_of_name (by decide +kernel)) (by decide +kernel) (by decide +kernel) (by decide) (fun _ _ h => by rw [h.1]; rfl) (fun _ U U' hal hh h => ⟨h.1, h.2.mv hal hh⟩) (fun r U U' V V' h1 hal h2 h => XT.PureE.mv r U U' V V' h1 hal h2 h) ?_
  intro p e s m args below meth c s₁ X0 hexec hbytes hml hret hlk hnm hown hh0 W hP
  obtain ⟨rfl, hB⟩ := hP
  have hB0 := hB.mv X0.warmed.alike hh0
  have c1 : Steps p.tables e below (s₁.setTop (entryFrame m #[.ref d, .int (Int32.ofNat B.slots.size)] 2)) (s₁.setTop (mkF m 0 #[.val (.ref d), .val (.int (Int32.ofNat B.slots.size))] [])) := entry rfl
  have c2 : Steps p.tables e below (s₁.setTop (entryFrame m #[.ref d, .int (Int32.ofNat B.slots.size)] 2)) (s₁.setTop (mkF m 2 #[.val (.ref d), .val (.int (Int32.ofNat B.slots.size))] [.ref d, .int (Int32.ofNat B.slots.size)])) := c1.trans (by
    refine XS.iloadN X0.here hexec rfl (hb hbytes d0) rfl ?_
    refine XS.aloadN X0.here hexec rfl (hb hbytes d1) rfl rfl ?_
    exact Steps.refl _)
  have c3 : Steps p.tables e below (s₁.setTop (entryFrame m #[.ref d, .int (Int32.ofNat B.slots.size)] 2)) (s₁.setTop (mkF m 8 #[.val (.ref d), .val (.int (Int32.ofNat B.slots.size))] [.int (lo8 (ushr (Int32.ofNat B.slots.size - Int32.ofNat B.slots.size) 31))])) := c2.trans (by
    refine X0.alen hexec hB0 rfl rfl (hb hbytes d2) ?_
    refine XS.isub X0.here hexec rfl (hb hbytes d3) rfl ?_
    refine bipushV X0.here hexec rfl 31 (hb hbytes d4) (by decide) ?_
    refine iushr X0.here hexec rfl (hb hbytes d6) rfl ?_
    refine i2b X0.here hexec rfl (hb hbytes d7) rfl ?_
    exact Steps.refl _)
  have e0 : lo8 (ushr (Int32.ofNat B.slots.size - Int32.ofNat B.slots.size) 31) = 0 := by rw [Int32.sub_self]; decide
  rw [e0] at c3
  exact ⟨s₁, some (.int 0), _, _, _, X0, rfl, rfl, rfl, (fun h => by cases h), ⟨rfl, hh0⟩, fun fs hl => c3.trans (X0.ireturnOut hexec hret rfl (Or.inr (Or.inr (Or.inl rfl))) (hb hbytes d8) hl)⟩
end CodL
/-- the String at a is Latin-1 over a new byte[] (the heap's one new cell): the low bytes of the len chars of A from o on; every cell but a is kept -/
def Got (a : Addr) (D : Cell) (fV fC : Field) (A : Cell) (o len : Nat) (r : Option Value) (s u : State) : Prop := r = none ∧ ∃ D' V : Cell, Blank "java/lang/String" a D' u ∧ Same D D' [fV.slot, fC.slot] ∧ D'.slots[fV.slot]? = some (.ref s.heap.size) ∧ D'.slots[fC.slot]? = some (.int 0) ∧ Arr .byte s.heap.size V u ∧ V.vm = .none ∧ u.vm.findClass "[B" = some V.cls ∧ V.slots.size = len ∧ (∀ j, j < len → V.slots[j]? = some (.int (lo8 (cv A (o + j))))) ∧ (∀ (y : Addr) (c : Cell), y ≠ a → s.heap[y]? = some c → u.heap[y]? = some c) ∧ u.heap.size = s.heap.size + 1
theorem Got.mv {a : Addr} {D A : Cell} {fV fC : Field} {o len : Nat} : ∀ r (U U' V V' : State), U'.heap = U.heap → V.vm.Alike V'.vm → V'.heap = V.heap → Got a D fV fC A o len r U V → Got a D fV fC A o len r U' V' :=
  fun r U U' V V' h1 hal h2 ⟨e0, D', X, a1, a2, a3, a4, a5, a6, a7, a8, a9, a10, a11⟩ => ⟨e0, D', X, a1.mv hal h2, a2, by rw [h1]; exact a3, a4, by rw [h1]; exact a5.mv hal h2, a6, by rw [hal.findClass]; exact a7, a8, a9, by rw [h1, h2]; exact a10, by rw [h1, h2]; exact a11⟩
namespace New4
def yN : MethodName := ⟨"java/lang/String", "<init>", "([CIILjava/lang/Void;)V"⟩
abbrev yB : ByteArray := jdk_42_method_149_code
theorem d0 : decode yB 0 = .ok (.aload_n 0, 1) := by decide +kernel
theorem d1 : decode yB 1 = .ok (.invokespecial 1, 3) := by decide +kernel
theorem d4 : decode yB 4 = .ok (.iload_n 3, 1) := by decide +kernel
theorem d5 : decode yB 5 = .ok (.ifCond (.ne) 22, 3) := by decide +kernel
theorem d27 : decode yB 27 = .ok (.getstatic 38, 3) := by decide +kernel
theorem d30 : decode yB 30 = .ok (.ifCond (.eq) 28, 3) := by decide +kernel
theorem d33 : decode yB 33 = .ok (.aload_n 1, 1) := by decide +kernel
theorem d34 : decode yB 34 = .ok (.iload_n 2, 1) := by decide +kernel
theorem d35 : decode yB 35 = .ok (.iload_n 3, 1) := by decide +kernel
theorem d36 : decode yB 36 = .ok (.invokestatic 177, 3) := by decide +kernel
theorem d39 : decode yB 39 = .ok (.astore 5, 2) := by decide +kernel
theorem d41 : decode yB 41 = .ok (.aload_n 0, 1) := by decide +kernel
theorem d42 : decode yB 42 = .ok (.aload 5, 2) := by decide +kernel
theorem d44 : decode yB 44 = .ok (.iload_n 3, 1) := by decide +kernel
theorem d45 : decode yB 45 = .ok (.invokestatic 47, 3) := by decide +kernel
theorem d48 : decode yB 48 = .ok (.putfield 15, 3) := by decide +kernel
theorem d51 : decode yB 51 = .ok (.aload_n 0, 1) := by decide +kernel
theorem d52 : decode yB 52 = .ok (.aload 5, 2) := by decide +kernel
theorem d54 : decode yB 54 = .ok (.putfield 9, 3) := by decide +kernel
theorem d57 : decode yB 57 = .ok (.return_, 1) := by decide +kernel
def site : List Cond := [.fieldLink "java/lang/String" 38 "java/lang/String" "COMPACT_STRINGS" "Z", Cmp3.tab, CodL.tab, .laysFinal "java/lang/String" "java/lang/String" "value" "[B", .fieldLink "java/lang/String" 9 "java/lang/String" "value" "[B", .laysFinal "java/lang/String" "java/lang/String" "coder" "B", .fieldLink "java/lang/String" 15 "java/lang/String" "coder" "B"] ++ objW "java/lang/String" 1 ++ staticW "java/lang/String" 177 Cmp3.yN ++ staticW "java/lang/String" 47 CodL.yN
def tab : Cond := tabOf yN yB 6 none site
def P (a : Addr) (D : Cell) (fV fC : Field) (b : Addr) (A : Cell) (z : Int32) (o len : Nat) (args : Array Value) (s : State) : Prop := args = #[.ref a, .ref b, .int (Int32.ofNat o), .int (Int32.ofNat len), .null] ∧ Blank "java/lang/String" a D s ∧ Found "java/lang/String" "value" "[B" fV s ∧ Found "java/lang/String" "coder" "B" fC s ∧ Ch b A s ∧ StaticIs s "java/lang/String" "COMPACT_STRINGS" "Z" (.int z) ∧ ¬ z = 0 ∧ 0 < len ∧ o + len ≤ A.slots.size ∧ len ≤ 536870912 ∧ ∀ i, i < len → ¬ 255 < cv A (o + i)
def E (a : Addr) (D : Cell) (fV fC : Field) (A : Cell) (o len : Nat) (r : Option Value) (s u : State) : Prop := Got a D fV fC A o len r s u
/-- len > 0, no char of the range above 255: a Latin-1 String of their low bytes -/
theorem law (l : Launch) (a : Addr) (D : Cell) (fV fC : Field) (b : Addr) (A : Cell) (z : Int32) (o len : Nat) : Law l yN 5 4 2 35 yB 6 none site (P a D fV fC b A z o len) (E a D fV fC A o len) [⟨a, fC.slot⟩, ⟨a, fV.slot⟩] 1 len := by
  refine Law.of_walk (plainFor_of_name (by decide +kernel)) (by decide +kernel) (by decide +kernel) (by decide) (fun _ _ h => by rw [h.1]; rfl) (fun _ U U' hal hh h => ⟨h.1, h.2.1.mv hal hh, h.2.2.1.al hal, h.2.2.2.1.al hal, h.2.2.2.2.1.mv hal hh, h.2.2.2.2.2.1.there hal hh, h.2.2.2.2.2.2⟩) (fun r U U' V V' h1 hal h2 h => Got.mv r U U' V V' h1 hal h2 h) ?_
  intro p e s m args below meth c s₁ X0 hexec hbytes hml hret hlk hnm hown hh0 W hP
  obtain ⟨rfl, hB, f1, f2, hA, s1, hz, l0, l1, l2, hp⟩ := hP
  have a31 := hA.1.2.2.2
  have c1 : Steps p.tables e below (s₁.setTop (entryFrame m #[.ref a, .ref b, .int (Int32.ofNat o), .int (Int32.ofNat len), .null] 6)) (s₁.setTop (mkF m 0 #[.val (.ref a), .val (.ref b), .val (.int (Int32.ofNat o)), .val (.int (Int32.ofNat len)), .val .null, .unset] [])) := entry rfl
  have c2 : Steps p.tables e below (s₁.setTop (entryFrame m #[.ref a, .ref b, .int (Int32.ofNat o), .int (Int32.ofNat len), .null] 6)) (s₁.setTop (mkF m 1 #[.val (.ref a), .val (.ref b), .val (.int (Int32.ofNat o)), .val (.int (Int32.ofNat len)), .val .null, .unset] [.ref a])) := c1.trans (by
    refine XS.aloadN X0.here hexec rfl (hb hbytes d0) rfl rfl ?_
    exact Steps.refl _)
  obtain ⟨T3, X3, q3, st3⟩ := X0.oinit hexec hown (wks W (objW "java/lang/String" 1)) (g := (mkF m 1 #[.val (.ref a), .val (.ref b), .val (.int (Int32.ofNat o)), .val (.int (Int32.ofNat len)), .val .null, .unset] [.ref a])) rfl (by rw [hml]; rfl) (rest := []) rfl (hb hbytes d1) (W := 0) (by show 2 * 0 + 0 ≤ _; decide) (Nat.le_of_ble_eq_true rfl) (Nat.le_of_ble_eq_true rfl)
  have hh3 := q3.trans hh0
  have c4 : Steps p.tables e below (s₁.setTop (entryFrame m #[.ref a, .ref b, .int (Int32.ofNat o), .int (Int32.ofNat len), .null] 6)) (T3.setTop (mkF m 27 #[.val (.ref a), .val (.ref b), .val (.int (Int32.ofNat o)), .val (.int (Int32.ofNat len)), .val .null, .unset] [])) := (c2.trans (st3 _ (Steps.refl _))).trans (by
    refine XS.iloadN X3.here hexec rfl (hb hbytes d4) rfl ?_
    refine XS.ifYes X3.here hexec rfl (pc0 := 5) rfl (hb hbytes d5) rfl (i0_ne_t (nz32 (by omega) l0)) (by decide) rfl ?_
    exact Steps.refl _)
  obtain ⟨T5, X5, q5, st5⟩ := X3.sget hexec hown (wk W (.fieldLink "java/lang/String" 38 "java/lang/String" "COMPACT_STRINGS" "Z")) s1 (fun _ _ h => by rw [hh3]; exact h) (g := (mkF m 27 #[.val (.ref a), .val (.ref b), .val (.int (Int32.ofNat o)), .val (.int (Int32.ofNat len)), .val .null, .unset] [])) rfl (hb hbytes d27)
  have hh5 := q5.trans hh3
  have c6 : Steps p.tables e below (s₁.setTop (entryFrame m #[.ref a, .ref b, .int (Int32.ofNat o), .int (Int32.ofNat len), .null] 6)) (T5.setTop (mkF m 30 #[.val (.ref a), .val (.ref b), .val (.int (Int32.ofNat o)), .val (.int (Int32.ofNat len)), .val .null, .unset] [.int z])) := c4.trans (st5 _ (Steps.refl _))
  have c7 : Steps p.tables e below (s₁.setTop (entryFrame m #[.ref a, .ref b, .int (Int32.ofNat o), .int (Int32.ofNat len), .null] 6)) (T5.setTop (mkF m 36 #[.val (.ref a), .val (.ref b), .val (.int (Int32.ofNat o)), .val (.int (Int32.ofNat len)), .val .null, .unset] [.int (Int32.ofNat len), .int (Int32.ofNat o), .ref b])) := c6.trans (by
    refine XS.ifNo X5.here hexec rfl (hb hbytes d30) rfl (i0_eq_f hz) ?_
    refine XS.aloadN X5.here hexec rfl (hb hbytes d33) rfl rfl ?_
    refine XS.iloadN X5.here hexec rfl (hb hbytes d34) rfl ?_
    refine XS.iloadN X5.here hexec rfl (hb hbytes d35) rfl ?_
    exact Steps.refl _)
  obtain ⟨v8, T8, X8, E8, g8⟩ := X5.callS hexec (Cmp3.law l b A o len) hown (wks W (staticW "java/lang/String" 177 Cmp3.yN)) (wk W Cmp3.tab) (W := 0) (Nat.le_of_ble_eq_true rfl) (Nat.le_of_ble_eq_true rfl) (Nat.le_refl _) (by show 0 + len ≤ len; omega) (g := (mkF m 36 #[.val (.ref a), .val (.ref b), .val (.int (Int32.ofNat o)), .val (.int (Int32.ofNat len)), .val .null, .unset] [.int (Int32.ofNat len), .int (Int32.ofNat o), .ref b])) rfl (by rw [hml]; rfl) c7 (argsL := [.ref b, .int (Int32.ofNat o), .int (Int32.ofNat len)]) (rest := []) rfl rfl (by show 2 * 0 + 0 ≤ _; decide) (hb hbytes d36) (⟨rfl, hA.mv X5.warmed.alike hh5, l1, l2, hp⟩)
  obtain ⟨e8, z8⟩ := E8
  obtain ⟨rfl, N, n1, n2, n3, n4, n5, n6⟩ := NewArr.mv _ T5 s _ _ hh5.symm (Vm.Alike.refl _) rfl e8
  rw [hh5] at z8
  have hB1 := hB.keep X8.warmed.alike (n6 _ _ hB.1)
  have hne : s.heap.size ≠ a := (Nat.ne_of_lt (Array.getElem?_eq_some_iff.mp hB.1).1).symm
  have c9 : Steps p.tables e below (s₁.setTop (entryFrame m #[.ref a, .ref b, .int (Int32.ofNat o), .int (Int32.ofNat len), .null] 6)) (T8.setTop (mkF m 39 #[.val (.ref a), .val (.ref b), .val (.int (Int32.ofNat o)), .val (.int (Int32.ofNat len)), .val .null, .unset] [.ref s.heap.size])) := g8
  have c10 : Steps p.tables e below (s₁.setTop (entryFrame m #[.ref a, .ref b, .int (Int32.ofNat o), .int (Int32.ofNat len), .null] 6)) (T8.setTop (mkF m 45 #[.val (.ref a), .val (.ref b), .val (.int (Int32.ofNat o)), .val (.int (Int32.ofNat len)), .val .null, .val (.ref s.heap.size)] [.int (Int32.ofNat N.slots.size), .ref s.heap.size, .ref a])) := by
    have hc : Steps p.tables e below (s₁.setTop (entryFrame m #[.ref a, .ref b, .int (Int32.ofNat o), .int (Int32.ofNat len), .null] 6)) (T8.setTop (mkF m 45 #[.val (.ref a), .val (.ref b), .val (.int (Int32.ofNat o)), .val (.int (Int32.ofNat len)), .val .null, .val (.ref s.heap.size)] [.int (Int32.ofNat len), .ref s.heap.size, .ref a])) := c9.trans (by
      refine XS.astore X8.here hexec rfl (hb hbytes d39) rfl rfl rfl ?_
      refine XS.aloadN X8.here hexec rfl (hb hbytes d41) rfl rfl ?_
      refine XS.aload X8.here hexec rfl (hb hbytes d42) rfl rfl ?_
      refine XS.iloadN X8.here hexec rfl (hb hbytes d44) rfl ?_
      exact Steps.refl _)
    rw [n4]; exact hc
  obtain ⟨v11, T11, X11, E11, g11⟩ := X8.callS hexec (CodL.law l s.heap.size N) hown (wks W (staticW "java/lang/String" 47 CodL.yN)) (wk W CodL.tab) (W := 1) (Nat.le_of_ble_eq_true rfl) (Nat.le_of_ble_eq_true rfl) (Nat.le_refl _) (by show 0 + len + 0 ≤ len; omega) (g := (mkF m 45 #[.val (.ref a), .val (.ref b), .val (.int (Int32.ofNat o)), .val (.int (Int32.ofNat len)), .val .null, .val (.ref s.heap.size)] [.int (Int32.ofNat N.slots.size), .ref s.heap.size, .ref a])) rfl (by rw [hml]; rfl) c10 (argsL := [.ref s.heap.size, .int (Int32.ofNat N.slots.size)]) (rest := [.ref a]) rfl rfl (by show 2 * 0 + (1 + 0) ≤ _; decide) (hb hbytes d45) (⟨rfl, n1⟩)
  obtain ⟨rfl, q11⟩ := E11
  have hB11 := hB1.mv (X8.warmed.alike.symm.trans X11.warmed.alike) q11
  have c12 : Steps p.tables e below (s₁.setTop (entryFrame m #[.ref a, .ref b, .int (Int32.ofNat o), .int (Int32.ofNat len), .null] 6)) (T11.setTop (mkF m 48 #[.val (.ref a), .val (.ref b), .val (.int (Int32.ofNat o)), .val (.int (Int32.ofNat len)), .val .null, .val (.ref s.heap.size)] [.int 0, .ref a])) := g11
  obtain ⟨T13, X13, p13, bl13, sl13, st13⟩ := X11.finit hexec hown (wk W (.fieldLink "java/lang/String" 15 "java/lang/String" "coder" "B")) (Or.inr ⟨_, (wk W (.laysFinal "java/lang/String" "java/lang/String" "coder" "B"))⟩) (Or.inl ⟨rfl, hnm⟩) f2 (Or.inl rfl) hB11 (t := .byte) (by decide +kernel) rfl (g := (mkF m 48 #[.val (.ref a), .val (.ref b), .val (.int (Int32.ofNat o)), .val (.int (Int32.ofNat len)), .val .null, .val (.ref s.heap.size)] [.int 0, .ref a])) rfl (rest := []) rfl (hb hbytes d48)
  have c14 : Steps p.tables e below (s₁.setTop (entryFrame m #[.ref a, .ref b, .int (Int32.ofNat o), .int (Int32.ofNat len), .null] 6)) (T13.setTop (mkF m 54 #[.val (.ref a), .val (.ref b), .val (.int (Int32.ofNat o)), .val (.int (Int32.ofNat len)), .val .null, .val (.ref s.heap.size)] [.ref s.heap.size, .ref a])) := (c12.trans (st13 _ (Steps.refl _))).trans (by
    refine XS.aloadN X13.here hexec rfl (hb hbytes d51) rfl rfl ?_
    refine XS.aload X13.here hexec rfl (hb hbytes d52) rfl rfl ?_
    exact Steps.refl _)
  obtain ⟨T15, X15, p15, bl15, sl15, st15⟩ := X13.finit hexec hown (wk W (.fieldLink "java/lang/String" 9 "java/lang/String" "value" "[B")) (Or.inr ⟨_, (wk W (.laysFinal "java/lang/String" "java/lang/String" "value" "[B"))⟩) (Or.inl ⟨rfl, hnm⟩) f1 (Or.inl rfl) bl13 (t := (.array .byte)) (by decide +kernel) rfl (g := (mkF m 54 #[.val (.ref a), .val (.ref b), .val (.int (Int32.ofNat o)), .val (.int (Int32.ofNat len)), .val .null, .val (.ref s.heap.size)] [.ref s.heap.size, .ref a])) rfl (rest := []) rfl (hb hbytes d54)
  have c16 : Steps p.tables e below (s₁.setTop (entryFrame m #[.ref a, .ref b, .int (Int32.ofNat o), .int (Int32.ofNat len), .null] 6)) (T15.setTop (mkF m 57 #[.val (.ref a), .val (.ref b), .val (.int (Int32.ofNat o)), .val (.int (Int32.ofNat len)), .val .null, .val (.ref s.heap.size)] [])) := c14.trans (st15 _ (Steps.refl _))
  have ap := apart (Or.inr ⟨_, (wk W (.laysFinal "java/lang/String" "java/lang/String" "value" "[B"))⟩) (Or.inr ⟨_, (wk W (.laysFinal "java/lang/String" "java/lang/String" "coder" "B"))⟩) f1 f2 (t₁ := .array .byte) (t₂ := .byte) (by decide +kernel) (by decide +kernel) (by decide)
  have al := X8.warmed.alike.symm.trans X15.warmed.alike
  have n7 : T11.heap[s.heap.size]? = some N := by rw [q11]; exact n1.1
  exact ⟨T15, none, _, _, _, X15, by simp, rfl, by omega, (fun _ => rfl), ⟨rfl, _, N, bl15, ((Same.refl D _).set _ (by simp)).set _ (by simp), sl15, (Cell.slots_setSlot_ne _ ap).trans sl13, n1.keep al (p15.other hne (p13.other hne n7)), n2, by rw [al.findClass]; exact n3, n4, n5, fun y c h1 h2 => p15.other h1 (p13.other h1 (by rw [q11]; exact n6 y c h2)), by rw [p15.2.2, p13.2.2, q11]; exact z8⟩, fun fs hl => c16.trans (X15.returnOut hexec hret (hb hbytes d57) hl)⟩
end New4
namespace New1
def yN : MethodName := ⟨"java/lang/String", "<init>", "([C)V"⟩
abbrev yB : ByteArray := jdk_42_method_3_code
theorem d0 : decode yB 0 = .ok (.aload_n 0, 1) := by decide +kernel
theorem d1 : decode yB 1 = .ok (.aload_n 1, 1) := by decide +kernel
theorem d2 : decode yB 2 = .ok (.iconst 0, 1) := by decide +kernel
theorem d3 : decode yB 3 = .ok (.aload_n 1, 1) := by decide +kernel
theorem d4 : decode yB 4 = .ok (.arraylength, 1) := by decide +kernel
theorem d5 : decode yB 5 = .ok (.aconst_null, 1) := by decide +kernel
theorem d6 : decode yB 6 = .ok (.invokespecial 27, 3) := by decide +kernel
theorem d9 : decode yB 9 = .ok (.return_, 1) := by decide +kernel
def site : List Cond := [New4.tab] ++ initW "java/lang/String" 27 New4.yN
def tab : Cond := tabOf yN yB 2 none site
def P (a : Addr) (D : Cell) (fV fC : Field) (b : Addr) (A : Cell) (z : Int32) (args : Array Value) (s : State) : Prop := args = #[.ref a, .ref b] ∧ Blank "java/lang/String" a D s ∧ Found "java/lang/String" "value" "[B" fV s ∧ Found "java/lang/String" "coder" "B" fC s ∧ Ch b A s ∧ StaticIs s "java/lang/String" "COMPACT_STRINGS" "Z" (.int z) ∧ ¬ z = 0 ∧ 0 < A.slots.size ∧ A.slots.size ≤ 536870912 ∧ ∀ i, i < A.slots.size → ¬ 255 < cv A i
def E (a : Addr) (D : Cell) (fV fC : Field) (A : Cell) (r : Option Value) (s u : State) : Prop := Got a D fV fC A 0 A.slots.size r s u
/-- new String(chars), not empty, no char above 255: a Latin-1 String of their low bytes -/
theorem law (l : Launch) (a : Addr) (D : Cell) (fV fC : Field) (b : Addr) (A : Cell) (z : Int32) : Law l yN 2 1 3 52 yB 2 none site (P a D fV fC b A z) (E a D fV fC A) [⟨a, fC.slot⟩, ⟨a, fV.slot⟩] 1 A.slots.size := by
  refine Law.of_walk (plainFor_of_name (by decide +kernel)) (by decide +kernel) (by decide +kernel) (by decide) (fun _ _ h => by rw [h.1]; rfl) (fun _ U U' hal hh h => ⟨h.1, h.2.1.mv hal hh, h.2.2.1.al hal, h.2.2.2.1.al hal, h.2.2.2.2.1.mv hal hh, h.2.2.2.2.2.1.there hal hh, h.2.2.2.2.2.2⟩) (fun r U U' V V' h1 hal h2 h => Got.mv r U U' V V' h1 hal h2 h) ?_
  intro p e s m args below meth c s₁ X0 hexec hbytes hml hret hlk hnm hown hh0 W hP
  obtain ⟨rfl, hB, f1, f2, hA, s1, hz, l0, l2, hp⟩ := hP
  have c1 : Steps p.tables e below (s₁.setTop (entryFrame m #[.ref a, .ref b] 2)) (s₁.setTop (mkF m 0 #[.val (.ref a), .val (.ref b)] [])) := entry rfl
  have c2 : Steps p.tables e below (s₁.setTop (entryFrame m #[.ref a, .ref b] 2)) (s₁.setTop (mkF m 6 #[.val (.ref a), .val (.ref b)] [.null, .int (Int32.ofNat A.slots.size), .int 0, .ref b, .ref a])) := c1.trans (by
    refine XS.aloadN X0.here hexec rfl (hb hbytes d0) rfl rfl ?_
    refine XS.aloadN X0.here hexec rfl (hb hbytes d1) rfl rfl ?_
    refine iconstV X0.here hexec rfl 0 (hb hbytes d2) (by decide) ?_
    refine XS.aloadN X0.here hexec rfl (hb hbytes d3) rfl rfl ?_
    refine X0.alen hexec (hA.1.mv X0.warmed.alike hh0) rfl rfl (hb hbytes d4) ?_
    refine XS.aconstNull X0.here hexec rfl (hb hbytes d5) ?_
    exact Steps.refl _)
  obtain ⟨v3, T3, X3, E3, g3⟩ := X0.callN hexec (New4.law l a D fV fC b A z 0 A.slots.size) rfl hown (wks W (initW "java/lang/String" 27 New4.yN)) (W New4.tab (by simp only [site, List.mem_cons, List.mem_append, true_or, or_true])) (W := 0) (Nat.le_of_ble_eq_true rfl) (Nat.le_of_ble_eq_true rfl) (Nat.le_refl _) (by show 0 + A.slots.size ≤ A.slots.size; omega) (g := (mkF m 6 #[.val (.ref a), .val (.ref b)] [.null, .int (Int32.ofNat A.slots.size), .int (Int32.ofNat 0), .ref b, .ref a])) rfl (by rw [hml]; rfl) c2 (argsL := [.ref b, .int (Int32.ofNat 0), .int (Int32.ofNat A.slots.size), .null]) (rest := []) rfl rfl (by show 2 * 0 + 0 ≤ _; decide) (hb hbytes d6) (⟨rfl, hB.mv X0.warmed.alike hh0, f1.al X0.warmed.alike, f2.al X0.warmed.alike, hA.mv X0.warmed.alike hh0, s1.there X0.warmed.alike hh0, hz, l0, by omega, l2, fun i hi => by rw [Nat.zero_add]; exact hp i hi⟩)
  have e0 := Got.mv _ s₁ s _ _ hh0.symm (Vm.Alike.refl _) rfl E3
  obtain rfl := e0.1
  have c4 : Steps p.tables e below (s₁.setTop (entryFrame m #[.ref a, .ref b] 2)) (T3.setTop (mkF m 9 #[.val (.ref a), .val (.ref b)] [])) := g3
  exact ⟨T3, none, _, _, _, X3, by simp, rfl, by omega, (fun _ => rfl), e0, fun fs hl => c4.trans (X3.returnOut hexec hret (hb hbytes d9) hl)⟩
theorem pays {l : Launch} {R : Room} {p : Program} {e : Env} {below : List Frame} {s : State} {sargs : Array Value} {len W : Nat} (a : Addr) (D : Cell) (fV fC : Field) (b : Addr) (A : Cell) (z : Int32) (htab : tab.before sargs s = true) (hfr : 4 ≤ R.frames) (hlo : W + 65 ≤ R.locals) :
    Back l R p e below s sargs yN len W (fun A₁ a₁ => A₁.cells + 1 ≤ R.cells ∧ A₁.slots + A.slots.size ≤ R.slots ∧ P a D fV fC b A z a₁ A₁.U) (fun A₁ _ v₁ B₁ => E a D fV fC A v₁ A₁.U B₁.U ∧ B₁.locs = A₁.locs ++ [⟨a, fC.slot⟩, ⟨a, fV.slot⟩] ∧ B₁.cells = A₁.cells + 1 ∧ B₁.slots = A₁.slots + A.slots.size) :=
  (law l a D fV fC b A z).pays htab hfr (by omega)
end New1
/-- the byte, read back as charAt reads it, is the char -/
theorem lo8_mask {x : Int32} (h0 : ¬ x < 0) (h1 : ¬ 255 < x) : lo8 x &&& 255 = x := by
  have t : ∀ k : Fin 256, lo8 (Int32.ofNat k.val) &&& 255 = Int32.ofNat k.val := by decide +kernel
  rw [Int32.lt_iff_toInt_lt] at h0 h1
  have e0 : (0 : Int32).toInt = 0 := rfl
  have e1 : (255 : Int32).toInt = 255 := rfl
  obtain ⟨k, hk⟩ : ∃ k : Nat, x.toInt = k := ⟨x.toInt.toNat, by omega⟩
  have hx : x = Int32.ofNat k := Int32.toInt_inj.mp (by rw [hk, Int32.toInt_ofNat_small (by omega)])
  rw [hx]
  exact t ⟨k, by omega⟩
end StrChars
namespace StrChars.Road
open Jvm Sem ClassFile Op Lib Jvm.Stand Jvm.Free Jvm.Free.XT
open Jvm.Lib.Cold (StaticIs)
abbrev ST : String := "java/lang/String"
/-- every table word that New1's law asks, flat -/
abbrev words : List Jvm.Cond := [.code New1.yN New1.yB 2 none, .initialized ST, .methodLink ST 27 New4.yN, .instanceMethod New4.yN,
  .code New4.yN New4.yB 6 none, .fieldLink ST 38 ST "COMPACT_STRINGS" "Z", .laysFinal ST ST "value" "[B", .fieldLink ST 9 ST "value" "[B", .laysFinal ST ST "coder" "B", .fieldLink ST 15 ST "coder" "B",
  .methodLink ST 1 Lib.objectInit, .instanceMethod Lib.objectInit, .code Lib.objectInit ⟨#[0xb1]⟩ 1 none, .methodLink ST 177 Cmp3.yN, .static Cmp3.yN, .methodLink ST 47 CodL.yN, .static CodL.yN,
  .code Cmp3.yN Cmp3.yB 6 (some (.array .byte)), .initialized U16, .arrayClass .byte, .methodLink U16 115 Cmp5.yN, .static Cmp5.yN, .code Cmp5.yN Cmp5.yB 7 (some .int), .code CodL.yN CodL.yB 2 (some .byte)]
theorem tab_of {a : Array Value} {s : State} (h : ∀ w ∈ words, w.before a s = true) : New1.tab.before a s = true := by
  have h5 : Cmp5.tab.before a s = true := unparts (wk h (.code Cmp5.yN Cmp5.yB 7 (some .int))) (wks h (.initialized Cmp5.yN.cls :: Cmp5.site))
  have hc : CodL.tab.before a s = true := unparts (wk h (.code CodL.yN CodL.yB 2 (some .byte))) (wks h (.initialized CodL.yN.cls :: CodL.site))
  have q5 : ∀ w ∈ Cmp5.tab :: words, w.before a s = true := fun w hw => (List.mem_cons.mp hw).elim (fun e => e ▸ h5) (h w)
  have h3 : Cmp3.tab.before a s = true := unparts (wk q5 (.code Cmp3.yN Cmp3.yB 6 (some (.array .byte)))) (wks q5 (.initialized Cmp3.yN.cls :: Cmp3.site))
  have q3 : ∀ w ∈ Cmp3.tab :: CodL.tab :: words, w.before a s = true := fun w hw => (List.mem_cons.mp hw).elim (fun e => e ▸ h3) fun hw => (List.mem_cons.mp hw).elim (fun e => e ▸ hc) (h w)
  have h4 : New4.tab.before a s = true := unparts (wk q3 (.code New4.yN New4.yB 6 none)) (wks q3 (.initialized New4.yN.cls :: New4.site))
  have q4 : ∀ w ∈ New4.tab :: words, w.before a s = true := fun w hw => (List.mem_cons.mp hw).elim (fun e => e ▸ h4) (h w)
  exact unparts (wk q4 (.code New1.yN New1.yB 2 none)) (wks q4 (.initialized New1.yN.cls :: New1.site))
/-- the words ride from the start Z to the walk's own state -/
theorem moved {Z s : State} {a0 args : Array Value} (hZ : Z.Warmed39 s.vm) (hw : ∀ d ∈ words, d.before a0 Z = true) : ∀ d ∈ words, d.before args s = true := fun d hd => by
  have q := hw d hd
  have t : ∀ d ∈ words, d = .arrayClass .byte ∨ (d.onTables && d.keepsFace) = true := by decide +kernel
  rcases t d hd with rfl | t
  · exact RoadKit.mvA hZ q
  · exact RoadKit.mv hZ q t
/-- WHAT COMES BACK, over the tables of the start Z: h the heap at the call, h' behind it -/
def Q (Z : State) (x : Addr) (A : Cell) (h : Heap) (v : Option Value) (h' : Heap) (L : List Loc) : Prop := v = none ∧ (∀ y ∈ L, y.base = x) ∧ RoadKit.Keep h h' [x] ∧ h'.size = h.size + 1 ∧ RoadKit.Exa Z h' x ST ∧ RoadKit.Fld Z h' x ST "value" "[B" (.ref h.size) ∧ RoadKit.Fld Z h' x ST "coder" "B" (.int 0) ∧
  (∃ V : Cell, RoadKit.Arr Z h' h.size V .byte ∧ V.vm = .none ∧ Z.vm.findClass "[B" = some V.cls ∧ V.slots.size = A.slots.size ∧ ∀ j, j < A.slots.size → V.slots[j]? = some (.int (lo8 (cv A j)))) ∧
  ∀ (O n d : String) (w : Value), RoadKit.Fld Z h x O n d w → RoadKit.slotOf Z O n d ≠ RoadKit.slotOf Z ST "value" "[B" → RoadKit.slotOf Z O n d ≠ RoadKit.slotOf Z ST "coder" "B" → RoadKit.Fld Z h' x O n d w
/-- **new String(chars) AT A CALL, IN THE ROAD'S FORM**: for specialBack behind newO: x the fresh String, b the char[] with the cell A -/
theorem back {p : Program} {l : Launch} {e : Env} {R : Room} {s : State} {args : Array Value} {below : List Frame} {len W : Nat} {Z : State} {a0 : Array Value} {h : Heap} (hZ : Z.Warmed39 s.vm) (hw : ∀ d ∈ words, d.before a0 Z = true) {kI : Nat} (wi : (Jvm.Cond.instantiable ST kI).before a0 Z = true)
    {x b : Addr} {A : Cell} {z : Int32} {v0 c0 : Value} (E : RoadKit.Exa Z h x ST) (V : RoadKit.Fld Z h x ST "value" "[B" v0) (C : RoadKit.Fld Z h x ST "coder" "B" c0) (K : RoadKit.Arr Z h b A .char) (hty : Typed .char A) (S : RoadKit.Sta Z h ST "COMPACT_STRINGS" "Z" (.int z)) (hz : ¬ z = 0)
    (l0 : 0 < A.slots.size) (l2 : A.slots.size ≤ 536870912) (hp : ∀ i, i < A.slots.size → ¬ 255 < cv A i) (hfr : 4 ≤ R.frames) (hlo : W + 65 ≤ R.locals) :
    Back l R p e below s args New1.yN len W (fun P a => a = #[.ref x, .ref b] ∧ P.U.heap = h ∧ P.cells + 1 ≤ R.cells ∧ P.slots + A.slots.size ≤ R.slots)
      (fun P _ v B => ∃ L, Q Z x A h v B.U.heap L ∧ B.locs = P.locs ++ L ∧ B.cells = P.cells + 1 ∧ B.slots = P.slots + A.slots.size) := by
  intro m meth c P g ig mk a X hg hsize hdg hW hn hp'
  obtain ⟨rfl, rfl, r1, r2⟩ := hp'
  have al : Z.vm.Alike P.U.vm := hZ.alike.trans X.warmed.alike
  obtain ⟨D, cfV, kV, iV, fV, hD, gV, stV, knV, obV, asV, slV⟩ := id V
  obtain ⟨D', cfC, kC, iC, fC, hD', gC, stC, -, -, asC, slC⟩ := id C
  cases hD.symm.trans hD'
  obtain ⟨D2, kD, e1, e2, e3, e4, e5⟩ := id E
  cases hD.symm.trans e1
  obtain ⟨c2, k2, i1, i2, i3, -⟩ := Cond.instantiable_spec wi
  cases e2.symm.trans i1
  cases e3.symm.trans i2
  obtain ⟨kU, u1, u2⟩ := al.2.2 _ _ e3
  have hB : Blank ST x D P.U := ⟨hD, ⟨knV, fun q hq => by rw [hq] at obV; cases obV⟩, by rw [al.findClass]; exact e2, kU, u1, by rw [u2]; exact i3, by rw [u2]; exact e5 i3⟩
  have F1 : Found ST "value" "[B" fV P.U := ⟨SBG.found_only al ⟨cfV, kV, iV, gV⟩, stV⟩
  have F2 : Found ST "coder" "B" fC P.U := ⟨SBG.found_only al ⟨cfC, kC, iC, gC⟩, stC⟩
  have hA : Ch b A P.U := ⟨⟨K.1, State.isArrayOf_alike al K.2.1, K.2.2, by omega⟩, hty⟩
  have hS : StaticIs P.U ST "COMPACT_STRINGS" "Z" (.int z) := by
    obtain ⟨cfS, iS, kS, fS, st, cS, t1, t2, t3, t4, t5, t6, t7⟩ := S
    exact StaticIs.there (s := { Z with heap := P.U.heap }) ⟨cfS, iS, kS, fS, st, cS, t1, t2, t3, t4, t5, (fun q => by rw [q] at t6; cases t6), t7⟩ al rfl
  obtain ⟨v, B, X', ⟨⟨hv, E', V', q1, q2, q3, q4, q5, q6, q7, q8, q9, q10, q11⟩, hl, hc, hs⟩, st⟩ := New1.pays x D fV fC b A z (tab_of (moved hZ hw)) hfr hlo m meth c P g ig mk _ X hg hsize hdg hW hn ⟨r1, r2, rfl, hB, F1, F2, hA, hS, hz, l0, l2, hp⟩
  have al' : Z.vm.Alike B.U.vm := hZ.alike.trans X'.warmed.alike
  have hsz : E'.slots.size = D.slots.size := by
    obtain ⟨-, -, -, kB, w1, w2, w3⟩ := q1
    obtain ⟨kB', y1, y2⟩ := al'.2.2 _ _ e3
    rw [q2.2.1] at w1
    cases w1.symm.trans y1
    rw [w3, e5 i3, y2]
  refine ⟨v, B, X', ⟨_, ⟨hv, ?_, ⟨by omega, fun y cy hy hn' => q10 y cy (by simpa using hn') hy, fun y cy hy => ?_⟩, q11, ⟨E', _, q1.1, by rw [q2.2.1]; exact e2, by rw [q2.2.1]; exact e3, by rw [q2.1]; exact obV, fun _ => by rw [hsz]; exact e5 i3⟩,
    ⟨E', cfV, kV, iV, fV, q1.1, gV, stV, by rw [q2.1]; exact knV, by rw [q2.1]; exact obV, by rw [q2.2.1]; exact asV, q3⟩, ⟨E', cfC, kC, iC, fC, q1.1, gC, stC, by rw [q2.1]; exact knV, by rw [q2.1]; exact obV, by rw [q2.2.1]; exact asC, q4⟩,
    ⟨V', ⟨q5.1, State.isArrayOf_alike al'.symm q5.2.1, q5.2.2.1⟩, q6, by rw [← al'.findClass]; exact q7, q8, fun j hj => by have := q9 j hj; rwa [Nat.zero_add] at this⟩, fun O n d w F n1 n2 => ?_⟩, hl, hc, hs⟩, st⟩
  · intro y hy
    simp only [List.mem_cons, List.not_mem_nil, or_false] at hy
    rcases hy with rfl | rfl <;> rfl
  · by_cases q : y = x
    · subst q
      cases hD.symm.trans hy
      exact ⟨E', q1.1, q2.2.1, q2.1, hsz⟩
    · exact ⟨cy, q10 y cy q hy, rfl, rfl, rfl⟩
  · obtain ⟨D3, cf, k, i, f, g1, g2, g3, g4, g5, g6, g7⟩ := F
    cases hD.symm.trans g1
    simp only [RoadKit.slotOf, g2, gV, gC, Option.map_some, Option.getD_some] at n1 n2
    exact ⟨E', cf, k, i, f, q1.1, g2, g3, by rw [q2.1]; exact g4, by rw [q2.1]; exact g5, by rw [q2.2.1]; exact g6, by rw [q2.2.2 f.slot (by simp [n1, n2])]; exact g7⟩
end StrChars.Road
namespace StrChars.Road
open Jvm Sem ClassFile Op Lib Jvm.Stand Jvm.Free Jvm.Free.XT
/-- WHAT COMES BACK, the byte[] as a list of values -/
def QA (Z : State) (x : Addr) (zn : Int32) (cs : List Int32) (h : Heap) (v : Option Value) (h' : Heap) (L : List Loc) : Prop := v = none ∧ (∀ y ∈ L, y.base = x) ∧ RoadKit.Keep h h' [x] ∧ h'.size = h.size + 1 ∧ RoadKit.Exa Z h' x ST ∧ RoadKit.Fld Z h' x ST "value" "[B" (.ref h.size) ∧ RoadKit.Fld Z h' x ST "coder" "B" (.int 0) ∧
  (∃ kb, Z.vm.findClass "[B" = some kb ∧ RoadKit.Arv Z h' h.size kb .byte zn (cs.map fun c => .int (lo8 c)) (.int 0)) ∧
  ∀ (O n d : String) (w : Value), RoadKit.Fld Z h x O n d w → RoadKit.slotOf Z O n d ≠ RoadKit.slotOf Z ST "value" "[B" → RoadKit.slotOf Z O n d ≠ RoadKit.slotOf Z ST "coder" "B" → RoadKit.Fld Z h' x O n d w
/-- **new String(chars) AT A CALL, THE ARRAYS AS LISTS**: the char[] at b holds cs, not empty, no char above 255 -/
theorem backArv {p : Program} {l : Launch} {e : Env} {R : Room} {s : State} {args : Array Value} {below : List Frame} {len W : Nat} {Z : State} {a0 : Array Value} {h : Heap} (hZ : Z.Warmed39 s.vm) (hw : ∀ d ∈ words, d.before a0 Z = true) {kI : Nat} (wi : (Jvm.Cond.instantiable ST kI).before a0 Z = true)
    {x b : Addr} {k : ClassId} {zn z : Int32} {cs : List Int32} {dv v0 c0 : Value} (E : RoadKit.Exa Z h x ST) (V : RoadKit.Fld Z h x ST "value" "[B" v0) (C : RoadKit.Fld Z h x ST "coder" "B" c0) (K : RoadKit.Arv Z h b k .char zn (cs.map Value.int) dv) (S : RoadKit.Sta Z h ST "COMPACT_STRINGS" "Z" (.int z)) (hz : ¬ z = 0)
    (hlen : zn.toNatClampNeg = cs.length) (h0 : 0 < cs.length) (hbig : cs.length ≤ 536870912) (hall : ∀ c ∈ cs, ¬ 255 < c) (hfr : 4 ≤ R.frames) (hlo : W + 65 ≤ R.locals) :
    Back l R p e below s args New1.yN len W (fun P a => a = #[.ref x, .ref b] ∧ P.U.heap = h ∧ P.cells + 1 ≤ R.cells ∧ P.slots + cs.length ≤ R.slots)
      (fun P _ v B => ∃ L, QA Z x zn cs h v B.U.heap L ∧ B.locs = P.locs ++ L ∧ B.cells = P.cells + 1 ∧ B.slots = P.slots + cs.length) := by
  obtain ⟨A, K1, K2, K3, K4, K5, K6⟩ := K
  have e : A.slots.size = cs.length := K3.trans hlen
  have hat : ∀ (i : Nat) (hi : i < cs.length), A.slots[i]? = some (.int cs[i]) := fun i hi => by rw [K5 i (by omega)]; simp [List.getD_eq_getElem?_getD, hi]
  have hcv : ∀ (i : Nat) (hi : i < cs.length), cv A i = cs[i] := fun i hi => by unfold cv; rw [hat i hi]
  have hty : Typed .char A := fun i v hv => by
    have hi : i < A.slots.size := (Array.getElem?_eq_some_iff.mp hv).1
    have q := K5 i hi
    rw [hv] at q
    rw [Option.some.inj q]
    exact K6 i hi
  refine Back.mono (back hZ hw wi E V C K1 hty S hz (by omega) (by omega) (fun i hi => by rw [hcv i (by omega)]; exact hall _ (List.getElem_mem _)) hfr hlo) (fun P a hp => ⟨hp.1, hp.2.1, hp.2.2.1, by rw [e]; exact hp.2.2.2⟩) (fun P a v B hp hq => ?_)
  obtain ⟨L, ⟨q1, q2, q3, q4, q5, q6, q7, ⟨V', v1, v2, v3, v4, v5⟩, q9⟩, hl, hc, hs⟩ := hq
  refine ⟨L, ⟨q1, q2, q3, q4, q5, q6, q7, ⟨V'.cls, v3, V', v1, rfl, by rw [v4, e, hlen], K4, fun i hi => ?_, fun i hi => ?_⟩, q9⟩, hl, hc, by rw [hs, e]⟩
  · have hi' : i < cs.length := by omega
    rw [v5 i (by omega), hcv i hi']; simp [List.getD_eq_getElem?_getD, hi']
  · have hi' : i < cs.length := by omega
    simp only [List.getD_eq_getElem?_getD, List.getElem?_map, List.getElem?_eq_getElem hi', Option.map_some, Option.getD_some]
    exact fits_lo8 _
end StrChars.Road
namespace StrChars.Road
open Jvm Sem ClassFile Op Lib Jvm.Stand Jvm.Free Jvm.Free.XT
/-- WHAT COMES BACK, in the writer's own shape -/
def QV (Z : State) (x : Addr) (N : Int32) (bs : List Int32) (h : Heap) (n0 : Nat) (v : Option Value) (h' : Heap) (L : List Loc) : Prop := v = none ∧ RoadKit.Fr n0 L ∧ RoadKit.Keep h h' [x] ∧ RoadKit.Exa Z h' x ST ∧ RoadKit.Fld Z h' x ST "coder" "B" (.int 0) ∧
  ∃ (t : Addr) (kb : ClassId), n0 ≤ t ∧ h.size ≤ t ∧ ¬ t = x ∧ RoadKit.Fld Z h' x ST "value" "[B" (.ref t) ∧ RoadKit.Arv Z h' t kb .byte N (bs.map Value.int) (.int 0)
/-- **new String(chars) AT A CALL, FOR THE WRITER**: a char[] of n known ints, each 0 to 255 -/
theorem backV {p : Program} {l : Launch} {e : Env} {R : Room} {s : State} {args : Array Value} {below : List Frame} {len W : Nat} {Z : State} {a0 : Array Value} {h : Heap} (hZ : Z.Warmed39 s.vm) (hw : ∀ d ∈ words, d.before a0 Z = true) {kI : Nat} (wi : (Jvm.Cond.instantiable ST kI).before a0 Z = true)
    {x b : Addr} {kC : ClassId} {cs bs : List Int32} {d v0 c0 : Value} {z N : Int32} {n n0 : Nat} (hx0 : n0 ≤ x) (hh0 : n0 ≤ h.size) (E : RoadKit.Exa Z h x ST) (V : RoadKit.Fld Z h x ST "value" "[B" v0) (C : RoadKit.Fld Z h x ST "coder" "B" c0) (K : RoadKit.Arv Z h b kC .char N (cs.map Value.int) d) (S : RoadKit.Sta Z h ST "COMPACT_STRINGS" "Z" (.int z)) (hz : ¬ z = 0)
    (hn : cs.length = n) (hN : N = Int32.ofNat n) (l0 : 0 < n) (l2 : n ≤ 4000) (hp : ∀ c ∈ cs, ¬ c < 0 ∧ ¬ (255 : Int32) < c) (hb : bs = cs.map (fun c => c.toInt8.toInt32)) (hfr : 4 ≤ R.frames) (hlo : W + 65 ≤ R.locals) :
    Back l R p e below s args (⟨"java/lang/String", "<init>", "([C)V"⟩ : MethodName) len W (fun P a => a = #[.ref x, .ref b] ∧ P.U.heap = h ∧ P.cells + 1 ≤ R.cells ∧ P.slots + n ≤ R.slots)
      (fun P _ v B => ∃ L, QV Z x N bs h n0 v B.U.heap L ∧ B.locs = P.locs ++ L ∧ B.cells = P.cells + 1 ∧ B.slots = P.slots + n) := by
  subst hn hN hb
  refine Back.mono (backArv hZ hw wi E V C K S hz (n32 (by omega)) l0 (by omega) (fun c hc => (hp c hc).2) hfr hlo) (fun P a hp => hp) (fun P a v B hp hq => ?_)
  obtain ⟨L, ⟨q1, q2, q3, q4, q5, q6, q7, ⟨kb, v1, v2⟩, q9⟩, hl, hc, hs⟩ := hq
  exact ⟨L, ⟨q1, fun y hy => by rw [q2 y hy]; exact hx0, q3, q5, q7, h.size, kb, hh0, Nat.le_refl _, Nat.ne_of_gt E.lt, q6, by rw [List.map_map]; exact v2⟩, hl, hc, hs⟩
end StrChars.Road
namespace StrChars
open Jvm Sem ClassFile Op Lib Jvm.Stand Jvm.Free.XT Jvm.Free.ALB Jvm.Free.JM Jvm.Free
open Jvm.Lib.Cold (StaticIs)
def hi8 (x : Int32) : Int32 := lo8 (x >>> ((8 : Int32) &&& 31))
/-- what StringUTF16.getChar makes of two bytes -/
def pairCh (u v : Int32) : Int32 := (((u &&& 255) <<< ((0 : Int32) &&& 31)) ||| ((v &&& 255) <<< ((8 : Int32) &&& 31))).toUInt32.toUInt16.toUInt32.toInt32
theorem lo8_and (x : Int32) : (lo8 x &&& 255).toBitVec.toNat = x.toBitVec.toNat % 256 := by
  have h : (lo8 x).toBitVec = (x.toBitVec.signExtend 8).signExtend 32 := by rw [lo8, Int8.toBitVec_toInt32, Int32.toBitVec_toInt8]
  rw [Int32.toBitVec_and, BitVec.toNat_and, h]
  have e : ((x.toBitVec.signExtend 8).signExtend 32).toNat % 256 = x.toBitVec.toNat % 256 := by
    rw [BitVec.toNat_signExtend]
    have hlt := x.toBitVec.isLt
    simp only [BitVec.toNat_setWidth, BitVec.toNat_signExtend]
    split <;> split <;> omega
  rw [← e]
  exact Nat.and_two_pow_sub_one_eq_mod _ 8
theorem pair_says {c : Int32} (h0 : ¬ c < 0) (h1 : ¬ 65535 < c) : pairCh (lo8 c) (hi8 c) = c := by
  rw [Int32.lt_iff_toInt_lt] at h0 h1
  have e0 : (0 : Int32).toInt = 0 := rfl
  have e1 : (65535 : Int32).toInt = 65535 := rfl
  have hc : c.toInt = c.toBitVec.toNat := by
    have := c.toBitVec.isLt
    have e : c.toInt = c.toBitVec.toInt := rfl
    rw [e] at h0 h1
    rw [e]
    rw [BitVec.toInt_eq_toNat_cond] at h0 h1 ⊢
    split at h0 <;> split <;> omega
  have hn : c.toBitVec.toNat < 65536 := by omega
  have a1 := lo8_and c
  have a2 : (hi8 c &&& 255).toBitVec.toNat = c.toBitVec.toNat / 256 := by
    rw [hi8, lo8_and]
    have e : ((8 : Int32) &&& 31) = 8 := by decide
    rw [e, Int32.toBitVec_shiftRight]
    have e2 : ((8 : Int32).toBitVec.smod 32) = 8#32 := by decide
    rw [e2, BitVec.sshiftRight_eq', BitVec.toNat_sshiftRight_of_msb_false (by rw [BitVec.msb_eq_false_iff_two_mul_lt]; omega)]
    show c.toBitVec.toNat >>> 8 % 256 = _
    rw [Nat.shiftRight_eq_div_pow]
    omega
  unfold pairCh
  apply Int32.toBitVec_inj.mp
  apply BitVec.eq_of_toNat_eq
  have f0 : ((0 : Int32) &&& 31) = 0 := by decide
  have f8 : ((8 : Int32) &&& 31) = 8 := by decide
  rw [f0, f8]
  have g : (((lo8 c &&& 255) <<< (0 : Int32)) ||| ((hi8 c &&& 255) <<< (8 : Int32))).toBitVec.toNat = c.toBitVec.toNat := by
    rw [Int32.toBitVec_or, Int32.toBitVec_shiftLeft, Int32.toBitVec_shiftLeft]
    have s0 : ((0 : Int32).toBitVec.smod 32) = 0#32 := by decide
    have s8 : ((8 : Int32).toBitVec.smod 32) = 8#32 := by decide
    rw [s0, s8, BitVec.toNat_or]
    simp only [BitVec.shiftLeft_eq', BitVec.toNat_shiftLeft, a1, a2]
    show (c.toBitVec.toNat % 256) <<< 0 % 2 ^ 32 ||| (c.toBitVec.toNat / 256) <<< 8 % 2 ^ 32 = _
    rw [Nat.shiftLeft_zero, Nat.mod_eq_of_lt (show c.toBitVec.toNat % 256 < 2 ^ 32 by omega), Nat.mod_eq_of_lt (show (c.toBitVec.toNat / 256) <<< 8 < 2 ^ 32 by rw [Nat.shiftLeft_eq]; omega), Nat.or_comm, ← Nat.shiftLeft_add_eq_or_of_lt (by omega), Nat.shiftLeft_eq]
    omega
  show BitVec.toNat (((((lo8 c &&& 255) <<< (0 : Int32)) ||| ((hi8 c &&& 255) <<< (8 : Int32))).toBitVec.setWidth 16).setWidth 32) = _
  rw [BitVec.toNat_setWidth, BitVec.toNat_setWidth, g]
  omega
end StrChars
namespace StrChars
open Jvm Sem ClassFile Op Lib Jvm.Stand Jvm.Free.XT Jvm.Free.ALB Jvm.Free.JM Jvm.Free
open Jvm.Lib.Cold (StaticIs)
/-- the array's cell V codes the n chars f 0 .. f (n - 1) by the coder cd, as the JDK does: coder 1 just where some char is above 255 -/
def Cod (cd : Int32) (n : Nat) (f : Nat → Int32) (V : Cell) : Prop := (cd = 0 ∧ V.slots.size = n ∧ ∀ j, j < n → V.slots[j]? = some (.int (lo8 (f j))) ∧ ¬ 255 < f j) ∨ (cd = 1 ∧ V.slots.size = 2 * n ∧ (∀ j, j < n → V.slots[2 * j]? = some (.int (lo8 (f j))) ∧ V.slots[2 * j + 1]? = some (.int (hi8 (f j)))) ∧ ∃ j, j < n ∧ 255 < f j)
/-- **x is a String of the n chars f 0 .. f (n - 1)**, Latin-1 or UTF-16; its array at t has the cell V -/
def Txt (x t : Addr) (V : Cell) (cd : Int32) (n : Nat) (f : Nat → Int32) (U : State) : Prop := Exact "java/lang/String" x U ∧ Has x "java/lang/String" "value" "[B" (.ref t) U ∧ Has x "java/lang/String" "coder" "B" (.int cd) U ∧ XT.Arr .byte t V U ∧ Cod cd n f V ∧ ∀ j, j < n → ¬ f j < 0 ∧ ¬ 65535 < f j
theorem Txt.mv {x t : Addr} {V : Cell} {cd : Int32} {n : Nat} {f : Nat → Int32} {U U' : State} (h : Txt x t V cd n f U) (hal : U.vm.Alike U'.vm) (hh : U'.heap = U.heap) : Txt x t V cd n f U' := ⟨h.1.mv hal hh, h.2.1.mv hal hh, h.2.2.1.mv hal hh, h.2.2.2.1.mv hal hh, h.2.2.2.2⟩
end StrChars
namespace StrChars.Road
open Jvm Sem ClassFile Op Lib Jvm.Stand Jvm.Free Jvm.Free.XT
open Jvm.Lib.Cold (StaticIs)
theorem consq {a : Array Value} {s : State} {c : Jvm.Cond} {L : List Jvm.Cond} (h0 : c.before a s = true) (h : ∀ w ∈ L, w.before a s = true) : ∀ w ∈ c :: L, w.before a s = true := fun w hw => (List.mem_cons.mp hw).elim (fun e => e ▸ h0) (h w)
/-- the bytes of the chars cs, low before high -/
def wideBytes : List Int32 → List Value
  | [] => []
  | c :: cs => .int (lo8 c) :: .int (hi8 c) :: wideBytes cs
theorem wide_lo (d : Value) : ∀ (cs : List Int32) (j : Nat), j < cs.length → (wideBytes cs).getD (2 * j) d = .int (lo8 (cs.getD j 0))
  | [], j, h => absurd h (Nat.not_lt_zero j)
  | c :: cs, 0, _ => rfl
  | c :: cs, j + 1, h => by
    have q := wide_lo d cs j (by simpa using h)
    rw [show 2 * (j + 1) = 2 * j + 1 + 1 from by omega]
    simpa [wideBytes] using q
theorem wide_hi (d : Value) : ∀ (cs : List Int32) (j : Nat), j < cs.length → (wideBytes cs).getD (2 * j + 1) d = .int (hi8 (cs.getD j 0))
  | [], j, h => absurd h (Nat.not_lt_zero j)
  | c :: cs, 0, _ => rfl
  | c :: cs, j + 1, h => by
    have q := wide_hi d cs j (by simpa using h)
    rw [show 2 * (j + 1) + 1 = 2 * j + 1 + 1 + 1 from by omega]
    simpa [wideBytes] using q
theorem low_at (d : Value) (cs : List Int32) (j : Nat) (h : j < cs.length) : (cs.map fun c => Value.int (lo8 c)).getD j d = .int (lo8 (cs.getD j 0)) := by
  simp [List.getD_eq_getElem?_getD, h]
/-- an array of N2 bytes vs codes the chars cs by the coder cd -/
def CodA (cs : List Int32) (cd N2 : Int32) (vs : List Value) : Prop := (cd = 0 ∧ N2 = Int32.ofNat cs.length ∧ vs = (cs.map fun c => Value.int (lo8 c)) ∧ ∀ c ∈ cs, ¬ 255 < c) ∨ (cd = 1 ∧ N2 = Int32.ofNat (2 * cs.length) ∧ vs = wideBytes cs ∧ ∃ c ∈ cs, 255 < c)
theorem CodA.cod {cs : List Int32} {cd N2 : Int32} {vs : List Value} {V : Cell} (h : CodA cs cd N2 vs) (hn : 2 * cs.length < 2 ^ 31) (hs : V.slots.size = N2.toNatClampNeg) (hv : RoadKit.Has V vs (.int 0)) : Cod cd cs.length (fun j => cs.getD j 0) V := by
  rcases h with ⟨rfl, rfl, rfl, h⟩ | ⟨rfl, rfl, rfl, c, hc, hw⟩
  · rw [n32 (by omega)] at hs
    exact Or.inl ⟨rfl, hs, fun j hj => ⟨by rw [hv j (by omega), low_at _ _ _ hj], by
      have e : cs.getD j 0 = cs[j] := by simp [List.getD_eq_getElem?_getD, hj]
      show ¬ 255 < cs.getD j 0
      rw [e]; exact h _ (List.getElem_mem _)⟩⟩
  · rw [n32 (by omega)] at hs
    obtain ⟨j, hj, rfl⟩ := List.getElem_of_mem hc
    exact Or.inr ⟨rfl, hs, fun j hj => ⟨by rw [hv _ (by omega), wide_lo _ _ _ hj], by rw [hv _ (by omega), wide_hi _ _ _ hj]⟩, j, hj, by
      have e : cs.getD j 0 = cs[j] := by simp [List.getD_eq_getElem?_getD, hj]
      show 255 < cs.getD j 0
      rw [e]; exact hw⟩
/-- an object of exactly java/lang/String, its two fields found: as the laws ask it -/
theorem strObj {Z U : State} {a0 : Array Value} {kI : Nat} (wi : (Jvm.Cond.instantiable ST kI).before a0 Z = true) (al : Z.vm.Alike U.vm) {x : Addr} {v0 c0 : Value} (E : RoadKit.Exa Z U.heap x ST) (V : RoadKit.Fld Z U.heap x ST "value" "[B" v0) (C : RoadKit.Fld Z U.heap x ST "coder" "B" c0) :
    ∃ (D : Cell) (fV fC : Field), Blank ST x D U ∧ Found ST "value" "[B" fV U ∧ Found ST "coder" "B" fC U ∧ D.slots[fV.slot]? = some v0 ∧ D.slots[fC.slot]? = some c0 ∧ RoadKit.slotOf Z ST "value" "[B" = fV.slot ∧ RoadKit.slotOf Z ST "coder" "B" = fC.slot := by
  obtain ⟨D, cfV, kV, iV, fV, hD, gV, stV, knV, obV, asV, slV⟩ := V
  obtain ⟨D', cfC, kC, iC, fC, hD', gC, stC, -, -, asC, slC⟩ := C
  cases hD.symm.trans hD'
  obtain ⟨D2, kD, e1, e2, e3, e4, e5⟩ := E
  cases hD.symm.trans e1
  obtain ⟨c2, k2, i1, i2, i3, -⟩ := Cond.instantiable_spec wi
  cases e2.symm.trans i1
  cases e3.symm.trans i2
  obtain ⟨kU, u1, u2⟩ := al.2.2 _ _ e3
  exact ⟨D, fV, fC, ⟨hD, ⟨knV, fun q hq => by rw [hq] at obV; cases obV⟩, by rw [al.findClass]; exact e2, kU, u1, by rw [u2]; exact i3, by rw [u2]; exact e5 i3⟩, ⟨SBG.found_only al ⟨cfV, kV, iV, gV⟩, stV⟩, ⟨SBG.found_only al ⟨cfC, kC, iC, gC⟩, stC⟩, slV, slC, by simp [RoadKit.slotOf, gV], by simp [RoadKit.slotOf, gC]⟩
theorem sta_is {Z U : State} (al : Z.vm.Alike U.vm) {C n d : String} {v : Value} (S : RoadKit.Sta Z U.heap C n d v) : StaticIs U C n d v := by
  obtain ⟨cfS, iS, kS, fS, st, cS, t1, t2, t3, t4, t5, t6, t7⟩ := S
  exact StaticIs.there (s := { Z with heap := U.heap }) ⟨cfS, iS, kS, fS, st, cS, t1, t2, t3, t4, t5, (fun q => by rw [q] at t6; cases t6), t7⟩ al rfl
end StrChars.Road
namespace StrChars
open Jvm Sem ClassFile Op Lib Jvm.Stand Jvm.Free.XT Jvm.Free.ALB Jvm.Free.JM Jvm.Free
open Jvm.Lib.Cold (StaticIs)
/-- what place i of a byte[]'s cell holds -/
def yv (A : Cell) (i : Nat) : Int32 := match A.slots[i]? with | some (.int x) => x | _ => 0
theorem yv_get {a : Addr} {A : Cell} {U : State} (h : XT.Arr .byte a A U) (ht : Typed .byte A) {i : Nat} (hi : i < A.slots.size) : A.slots[i]? = some (.int (yv A i)) := by
  have e := Array.getElem?_eq_getElem hi
  have f := ht i _ e
  unfold yv; rw [e]
  generalize A.slots[i] = v at f
  cases v <;> simp [fits] at f ⊢
/-- the two arrays are equal, place for place -/
def EqC (A B : Cell) : Prop := A.slots.size = B.slots.size ∧ ∀ i, i < A.slots.size → yv A i = yv B i
/-- a boolean that says whether p -/
def Says01 (q : Prop) (r : Option Value) (s u : State) : Prop := ∃ v : Int32, r = some (.int v) ∧ u.heap = s.heap ∧ ((v = 1 ∧ q) ∨ (v = 0 ∧ ¬ q))
theorem Says01.mv {q : Prop} : ∀ r (U U' V V' : State), U'.heap = U.heap → V.vm.Alike V'.vm → V'.heap = V.heap → Says01 q r U V → Says01 q r U' V' :=
  fun r U U' V V' h1 _ h2 ⟨v, a, b, c⟩ => ⟨v, a, by rw [h1, h2]; exact b, c⟩
namespace LEq
def yN : MethodName := ⟨"java/lang/StringLatin1", "equals", "([B[B)Z"⟩
abbrev yB : ByteArray := jdk_43_method_13_code
theorem d0 : decode yB 0 = .ok (.aload_n 0, 1) := by decide +kernel
theorem d1 : decode yB 1 = .ok (.arraylength, 1) := by decide +kernel
theorem d2 : decode yB 2 = .ok (.aload_n 1, 1) := by decide +kernel
theorem d3 : decode yB 3 = .ok (.arraylength, 1) := by decide +kernel
theorem d4 : decode yB 4 = .ok (.if_icmp (.ne) 30, 3) := by decide +kernel
theorem d7 : decode yB 7 = .ok (.iconst 0, 1) := by decide +kernel
theorem d8 : decode yB 8 = .ok (.istore_n 2, 1) := by decide +kernel
theorem d9 : decode yB 9 = .ok (.iload_n 2, 1) := by decide +kernel
theorem d10 : decode yB 10 = .ok (.aload_n 0, 1) := by decide +kernel
theorem d11 : decode yB 11 = .ok (.arraylength, 1) := by decide +kernel
theorem d12 : decode yB 12 = .ok (.if_icmp (.ge) 20, 3) := by decide +kernel
theorem d15 : decode yB 15 = .ok (.aload_n 0, 1) := by decide +kernel
theorem d16 : decode yB 16 = .ok (.iload_n 2, 1) := by decide +kernel
theorem d17 : decode yB 17 = .ok (.baload, 1) := by decide +kernel
theorem d18 : decode yB 18 = .ok (.aload_n 1, 1) := by decide +kernel
theorem d19 : decode yB 19 = .ok (.iload_n 2, 1) := by decide +kernel
theorem d20 : decode yB 20 = .ok (.baload, 1) := by decide +kernel
theorem d21 : decode yB 21 = .ok (.if_icmp (.eq) 5, 3) := by decide +kernel
theorem d24 : decode yB 24 = .ok (.iconst 0, 1) := by decide +kernel
theorem d25 : decode yB 25 = .ok (.ireturn, 1) := by decide +kernel
theorem d26 : decode yB 26 = .ok (.iinc 2 1, 3) := by decide +kernel
theorem d29 : decode yB 29 = .ok (.goto (-20), 3) := by decide +kernel
theorem d32 : decode yB 32 = .ok (.iconst 1, 1) := by decide +kernel
theorem d33 : decode yB 33 = .ok (.ireturn, 1) := by decide +kernel
theorem d34 : decode yB 34 = .ok (.iconst 0, 1) := by decide +kernel
theorem d35 : decode yB 35 = .ok (.ireturn, 1) := by decide +kernel
def site : List Cond := []
def tab : Cond := tabOf yN yB 3 (some .boolean) site
def P (a : Addr) (A : Cell) (b : Addr) (B : Cell) (args : Array Value) (s : State) : Prop := args = #[.ref a, .ref b] ∧ XT.Arr .byte a A s ∧ Typed .byte A ∧ XT.Arr .byte b B s ∧ Typed .byte B
/-- whether two byte[] are equal, place for place -/
theorem law (l : Launch) (a : Addr) (A : Cell) (b : Addr) (B : Cell) : Law l yN 2 2 0 0 yB 3 (some .boolean) site (P a A b B) (Says01 (EqC A B)) [] 0 0 := by
  refine Law.of_walk (plainFor_of_name (by decide +kernel)) (by decide +kernel) (by decide +kernel) (by decide) (fun _ _ h => by rw [h.1]; rfl) (fun _ U U' hal hh h => ⟨h.1, h.2.1.mv hal hh, h.2.2.1, h.2.2.2.1.mv hal hh, h.2.2.2.2⟩) (fun r U U' V V' h1 hal h2 h => Says01.mv r U U' V V' h1 hal h2 h) ?_
  intro p e s m args below meth c s₁ X0 hexec hbytes hml hret hlk hnm hown hh0 W hP
  obtain ⟨rfl, hA, tA, hB, tB⟩ := hP
  have a31 := hA.2.2.2
  have b31 := hB.2.2.2
  have hA0 := hA.mv X0.warmed.alike hh0
  have hB0 := hB.mv X0.warmed.alike hh0
  have c1 : Steps p.tables e below (s₁.setTop (entryFrame m #[.ref a, .ref b] 3)) (s₁.setTop (mkF m 0 #[.val (.ref a), .val (.ref b), .unset] [])) := entry rfl
  have c2 : Steps p.tables e below (s₁.setTop (entryFrame m #[.ref a, .ref b] 3)) (s₁.setTop (mkF m 4 #[.val (.ref a), .val (.ref b), .unset] [.int (Int32.ofNat B.slots.size), .int (Int32.ofNat A.slots.size)])) := c1.trans (by
    refine XS.aloadN X0.here hexec rfl (hb hbytes d0) rfl rfl ?_
    refine X0.alen hexec hA0 rfl rfl (hb hbytes d1) ?_
    refine XS.aloadN X0.here hexec rfl (hb hbytes d2) rfl rfl ?_
    refine X0.alen hexec hB0 rfl rfl (hb hbytes d3) ?_
    exact Steps.refl _)
  by_cases hs : A.slots.size = B.slots.size
  · have c3 : Steps p.tables e below (s₁.setTop (entryFrame m #[.ref a, .ref b] 3)) (s₁.setTop (mkF m 9 #[.val (.ref a), .val (.ref b), .val (.int 0)] [])) := c2.trans (by
      refine XS.icmpNo X0.here hexec rfl (hb hbytes d4) rfl (ii_ne_f (by rw [hs])) ?_
      refine iconstV X0.here hexec rfl 0 (hb hbytes d7) (by decide) ?_
      refine XS.istoreN X0.here hexec rfl (hb hbytes d8) rfl rfl ?_
      exact Steps.refl _)
    have loop : ∀ (r i : Nat), i + r = A.slots.size → (∀ j, j < i → yv A j = yv B j) → Steps p.tables e below (s₁.setTop (entryFrame m #[.ref a, .ref b] 3)) (s₁.setTop (mkF m 9 #[.val (.ref a), .val (.ref b), .val (.int (Int32.ofNat i))] [])) → ∃ (pc : Nat) (Ls : Array Slot) (v : Int32), (pc = 25 ∨ pc = 33) ∧ ((v = 1 ∧ EqC A B) ∨ (v = 0 ∧ ¬ EqC A B)) ∧ Steps p.tables e below (s₁.setTop (entryFrame m #[.ref a, .ref b] 3)) (s₁.setTop (mkF m pc Ls [.int v])) := by
      intro r
      induction r with
      | zero =>
        intro i hi he cl
        exact ⟨33, _, 1, Or.inr rfl, Or.inl ⟨rfl, hs, fun j hj => he j (by omega)⟩, cl.trans (by
          refine XS.iloadN X0.here hexec rfl (hb hbytes d9) rfl ?_
          refine XS.aloadN X0.here hexec rfl (hb hbytes d10) rfl rfl ?_
          refine X0.alen hexec hA0 rfl rfl (hb hbytes d11) ?_
          refine XS.icmpYes X0.here hexec rfl (pc0 := 12) rfl (hb hbytes d12) rfl (ii_ge_t (nlt32 (by omega) (by omega))) (by decide) rfl ?_
          refine iconstV X0.here hexec rfl 1 (hb hbytes d32) (by decide) ?_
          exact Steps.refl _)⟩
      | succ r ih =>
        intro i hi he cl
        have c4 : Steps p.tables e below (s₁.setTop (entryFrame m #[.ref a, .ref b] 3)) (s₁.setTop (mkF m 21 #[.val (.ref a), .val (.ref b), .val (.int (Int32.ofNat i))] [.int (yv B i), .int (yv A i)])) := cl.trans (by
          refine XS.iloadN X0.here hexec rfl (hb hbytes d9) rfl ?_
          refine XS.aloadN X0.here hexec rfl (hb hbytes d10) rfl rfl ?_
          refine X0.alen hexec hA0 rfl rfl (hb hbytes d11) ?_
          refine XS.icmpNo X0.here hexec rfl (hb hbytes d12) rfl (ii_ge_f (lt32 (by omega) (by omega))) ?_
          refine XS.aloadN X0.here hexec rfl (hb hbytes d15) rfl rfl ?_
          refine XS.iloadN X0.here hexec rfl (hb hbytes d16) rfl ?_
          refine X0.aget hexec hA0 rfl (yv_get hA tA (i := i) (by omega)) rfl rfl (hb hbytes d17) ?_
          refine XS.aloadN X0.here hexec rfl (hb hbytes d18) rfl rfl ?_
          refine XS.iloadN X0.here hexec rfl (hb hbytes d19) rfl ?_
          refine X0.aget hexec hB0 rfl (yv_get hB tB (i := i) (by omega)) rfl rfl (hb hbytes d20) ?_
          exact Steps.refl _)
        by_cases hv : yv A i = yv B i
        · have c5 : Steps p.tables e below (s₁.setTop (entryFrame m #[.ref a, .ref b] 3)) (s₁.setTop (mkF m 9 #[.val (.ref a), .val (.ref b), .val (.int (Int32.ofNat i + 1))] [])) := c4.trans (by
            refine XS.icmpYes X0.here hexec rfl (pc0 := 21) rfl (hb hbytes d21) rfl (ii_eq_t hv) (by decide) rfl ?_
            refine iincV X0.here hexec rfl 1 (hb hbytes d26) (by decide) rfl rfl ?_
            refine XS.goto X0.here hexec rfl (pc0 := 29) rfl (hb hbytes d29) (by decide) rfl ?_
            exact Steps.refl _)
          rw [succ32] at c5
          exact ih (i + 1) (by omega) (fun j hj => by
            by_cases e : j = i
            · rw [e]; exact hv
            · exact he j (by omega)) c5
        · exact ⟨25, _, 0, Or.inl rfl, Or.inr ⟨rfl, fun q => hv (q.2 i (by omega))⟩, c4.trans (by
            refine XS.icmpNo X0.here hexec rfl (hb hbytes d21) rfl (ii_eq_f hv) ?_
            refine iconstV X0.here hexec rfl 0 (hb hbytes d24) (by decide) ?_
            exact Steps.refl _)⟩
    obtain ⟨pc, Ls, v, hpc, hv, cz⟩ := loop A.slots.size 0 (by omega) (fun j hj => absurd hj (Nat.not_lt_zero j)) c3
    have nv : narrow .boolean (.int v) = .int v := by rcases hv with ⟨rfl, -⟩ | ⟨rfl, -⟩ <;> rfl
    rcases hpc with rfl | rfl
    · exact ⟨s₁, some (.int v), _, _, _, X0, rfl, rfl, rfl, (fun h => by cases h), ⟨v, rfl, hh0, hv⟩, fun fs hl => cz.trans (X0.ireturnOut hexec hret nv (Or.inr (Or.inl rfl)) (hb hbytes d25) hl)⟩
    · exact ⟨s₁, some (.int v), _, _, _, X0, rfl, rfl, rfl, (fun h => by cases h), ⟨v, rfl, hh0, hv⟩, fun fs hl => cz.trans (X0.ireturnOut hexec hret nv (Or.inr (Or.inl rfl)) (hb hbytes d33) hl)⟩
  · have c3 : Steps p.tables e below (s₁.setTop (entryFrame m #[.ref a, .ref b] 3)) (s₁.setTop (mkF m 35 #[.val (.ref a), .val (.ref b), .unset] [.int 0])) := c2.trans (by
      refine XS.icmpYes X0.here hexec rfl (pc0 := 4) rfl (hb hbytes d4) rfl (ii_ne_t (ne32 a31 b31 hs)) (by decide) rfl ?_
      refine iconstV X0.here hexec rfl 0 (hb hbytes d34) (by decide) ?_
      exact Steps.refl _)
    exact ⟨s₁, some (.int 0), _, _, _, X0, rfl, rfl, rfl, (fun h => by cases h), ⟨0, rfl, hh0, Or.inr ⟨rfl, fun q => hs q.1⟩⟩, fun fs hl => c3.trans (X0.ireturnOut hexec hret rfl (Or.inr (Or.inl rfl)) (hb hbytes d35) hl)⟩
end LEq
theorem Cod.ty {cd : Int32} {n : Nat} {f : Nat → Int32} {V : Cell} (h : Cod cd n f V) : Typed .byte V := fun i v hv => by
  have hi : i < V.slots.size := (Array.getElem?_eq_some_iff.mp hv).1
  rcases h with ⟨-, k1, k2⟩ | ⟨-, k1, k2, -⟩
  · rw [(k2 i (by omega)).1] at hv; cases hv; exact fits_lo8 _
  · rcases Nat.mod_two_eq_zero_or_one i with e | e
    · obtain ⟨j, rfl⟩ : ∃ j, i = 2 * j := ⟨i / 2, by omega⟩
      rw [(k2 j (by omega)).1] at hv; cases hv; exact fits_lo8 _
    · obtain ⟨j, rfl⟩ : ∃ j, i = 2 * j + 1 := ⟨i / 2, by omega⟩
      rw [(k2 j (by omega)).2] at hv; cases hv; exact fits_lo8 _
/-- the same text -/
def SameT (n : Nat) (f : Nat → Int32) (k : Nat) (g : Nat → Int32) : Prop := n = k ∧ ∀ j, j < n → f j = g j
theorem lo8_inj {x y : Int32} (h0 : ¬ x < 0) (h1 : ¬ 255 < x) (k0 : ¬ y < 0) (k1 : ¬ 255 < y) (h : lo8 x = lo8 y) : x = y := by
  rw [← lo8_mask h0 h1, ← lo8_mask k0 k1, h]
/-- arrays coded by one coder are equal just where the texts are -/
theorem Cod.eqv {cd : Int32} {n k : Nat} {f g : Nat → Int32} {V V' : Cell} (h : Cod cd n f V) (h' : Cod cd k g V') (hf : ∀ j, j < n → ¬ f j < 0 ∧ ¬ 65535 < f j) (hg : ∀ j, j < k → ¬ g j < 0 ∧ ¬ 65535 < g j) : EqC V V' ↔ SameT n f k g := by
  have yvv : ∀ {W : Cell} {i : Nat} {x : Int32}, W.slots[i]? = some (.int x) → yv W i = x := fun q => by unfold yv; rw [q]
  rcases h with ⟨rfl, k1, k2⟩ | ⟨rfl, k1, k2, -⟩
  · rcases h' with ⟨-, m1, m2⟩ | ⟨e, -⟩
    · constructor
      · rintro ⟨e1, e2⟩
        refine ⟨by omega, fun j hj => ?_⟩
        have q := e2 j (by omega)
        rw [yvv (k2 j hj).1, yvv (m2 j (by omega)).1] at q
        exact lo8_inj (hf j hj).1 (k2 j hj).2 (hg j (by omega)).1 (m2 j (by omega)).2 q
      · rintro ⟨rfl, e2⟩
        refine ⟨by omega, fun j hj => ?_⟩
        rw [yvv (k2 j (by omega)).1, yvv (m2 j (by omega)).1, e2 j (by omega)]
    · exact absurd e (by decide)
  · rcases h' with ⟨e, -⟩ | ⟨-, m1, m2, -⟩
    · exact absurd e (by decide)
    · constructor
      · rintro ⟨e1, e2⟩
        refine ⟨by omega, fun j hj => ?_⟩
        have q1 := e2 (2 * j) (by omega)
        have q2 := e2 (2 * j + 1) (by omega)
        rw [yvv (k2 j hj).1, yvv (m2 j (by omega)).1] at q1
        rw [yvv (k2 j hj).2, yvv (m2 j (by omega)).2] at q2
        rw [← pair_says (hf j hj).1 (hf j hj).2, ← pair_says (hg j (by omega)).1 (hg j (by omega)).2, q1, q2]
      · rintro ⟨rfl, e2⟩
        refine ⟨by omega, fun i hi => ?_⟩
        rcases Nat.mod_two_eq_zero_or_one i with e | e
        · obtain ⟨j, rfl⟩ : ∃ j, i = 2 * j := ⟨i / 2, by omega⟩
          rw [yvv (k2 j (by omega)).1, yvv (m2 j (by omega)).1, e2 j (by omega)]
        · obtain ⟨j, rfl⟩ : ∃ j, i = 2 * j + 1 := ⟨i / 2, by omega⟩
          rw [yvv (k2 j (by omega)).2, yvv (m2 j (by omega)).2, e2 j (by omega)]
/-- two codings differ: so do the texts -/
theorem Cod.dif {cd cd' : Int32} {n k : Nat} {f g : Nat → Int32} {V V' : Cell} (h : Cod cd n f V) (h' : Cod cd' k g V') (hne : ¬ cd = cd') : ¬ SameT n f k g := by
  rintro ⟨rfl, e⟩
  rcases h with ⟨rfl, -, k2⟩ | ⟨rfl, -, -, j, hj, hw⟩
  · rcases h' with ⟨rfl, -⟩ | ⟨-, -, -, j, hj, hw⟩
    · exact hne rfl
    · exact (k2 j hj).2 (by rw [e j hj]; exact hw)
  · rcases h' with ⟨-, -, m2⟩ | ⟨rfl, -⟩
    · exact (m2 j hj).2 (by rw [← e j hj]; exact hw)
    · exact hne rfl
/-- an object of exactly C is an instance of C -/
theorem cinst {p : Program} {l : Launch} {e : Env} {R : Room} {s : State} {m : MethodId} {args : Array Value} {below : List Frame} {meth : Method} {c : Code} {T : State} {locs : List Loc} {cells slots : Nat} (X : Stand p l e R s m args below meth c T locs cells slots) (hexec : p.tables.exec = Jvm.exec) {own C : String} {index : Nat} (hown : s.vm.findClass own = some m.cls) (hlink : (Cond.classLink own index C).before args s = true) {a : Addr} (hE : Exact C a T)
    {g : JFrame} (hg : g.method = m) {rest : List Value} (hstack : g.stack = .ref a :: rest) (hdg : decode c.code g.pc = .ok (.instanceof index, 3)) :
    ∃ T', Stand p l e R s m args below meth c T' locs cells slots ∧ T'.heap = T.heap ∧ ∀ target, Steps p.tables e below (T'.setTop { g with pc := g.pc + 3, stack := .int 1 :: rest }) target → Steps p.tables e below (T.setTop g) target := by
  obtain ⟨cB, h1, D, h2, h3, h4⟩ := hE
  have h1' : s.vm.findClass C = some cB := by rw [← X.warmed.alike.findClass]; exact h1
  obtain ⟨vm', X', st⟩ := X.instanceofYes hexec hown hlink h2 h4 h1' (by rw [h3]; exact Jvm.Free.SB.assignable_self _ _) hg hstack hdg
  exact ⟨_, X', rfl, st⟩
theorem cself {p : Program} {l : Launch} {e : Env} {R : Room} {s : State} {m : MethodId} {args : Array Value} {below : List Frame} {meth : Method} {c : Code} {T : State} {locs : List Loc} {cells slots : Nat} (X : Stand p l e R s m args below meth c T locs cells slots) (hexec : p.tables.exec = Jvm.exec) {own C : String} {index : Nat} (hown : s.vm.findClass own = some m.cls) (hlink : (Cond.classLink own index C).before args s = true) {a : Addr} (hE : Exact C a T)
    {g : JFrame} (hg : g.method = m) {rest : List Value} (hstack : g.stack = .ref a :: rest) (hdg : decode c.code g.pc = .ok (.checkcast index, 3)) :
    ∃ T', Stand p l e R s m args below meth c T' locs cells slots ∧ T'.heap = T.heap ∧ ∀ target, Steps p.tables e below (T'.setTop { g with pc := g.pc + 3, stack := .ref a :: rest }) target → Steps p.tables e below (T.setTop g) target := by
  obtain ⟨cB, h1, D, h2, h3, h4⟩ := hE
  have h1' : s.vm.findClass C = some cB := by rw [← X.warmed.alike.findClass]; exact h1
  obtain ⟨vm', X', st⟩ := X.checkcastYes hexec hown hlink h2 h4 h1' (by rw [h3]; exact Jvm.Free.SB.assignable_self _ _) hg hstack hdg
  exact ⟨_, X', rfl, fun t h => st t (by rw [← hstack] at h; exact h)⟩
namespace SEq
def yN : MethodName := ⟨"java/lang/String", "equals", "(Ljava/lang/Object;)Z"⟩
abbrev yB : ByteArray := jdk_42_method_66_code
theorem d0 : decode yB 0 = .ok (.aload_n 0, 1) := by decide +kernel
theorem d1 : decode yB 1 = .ok (.aload_n 1, 1) := by decide +kernel
theorem d2 : decode yB 2 = .ok (.if_acmp (.ne) 5, 3) := by decide +kernel
theorem d5 : decode yB 5 = .ok (.iconst 1, 1) := by decide +kernel
theorem d6 : decode yB 6 = .ok (.ireturn, 1) := by decide +kernel
theorem d7 : decode yB 7 = .ok (.aload_n 1, 1) := by decide +kernel
theorem d8 : decode yB 8 = .ok (.instanceof 10, 3) := by decide +kernel
theorem d11 : decode yB 11 = .ok (.ifCond (.eq) 43, 3) := by decide +kernel
theorem d14 : decode yB 14 = .ok (.aload_n 1, 1) := by decide +kernel
theorem d15 : decode yB 15 = .ok (.checkcast 10, 3) := by decide +kernel
theorem d18 : decode yB 18 = .ok (.astore_n 2, 1) := by decide +kernel
theorem d19 : decode yB 19 = .ok (.getstatic 38, 3) := by decide +kernel
theorem d22 : decode yB 22 = .ok (.ifCond (.eq) 14, 3) := by decide +kernel
theorem d25 : decode yB 25 = .ok (.aload_n 0, 1) := by decide +kernel
theorem d26 : decode yB 26 = .ok (.getfield 15, 3) := by decide +kernel
theorem d29 : decode yB 29 = .ok (.aload_n 2, 1) := by decide +kernel
theorem d30 : decode yB 30 = .ok (.getfield 15, 3) := by decide +kernel
theorem d33 : decode yB 33 = .ok (.if_icmp (.ne) 21, 3) := by decide +kernel
theorem d36 : decode yB 36 = .ok (.aload_n 0, 1) := by decide +kernel
theorem d37 : decode yB 37 = .ok (.getfield 9, 3) := by decide +kernel
theorem d40 : decode yB 40 = .ok (.aload_n 2, 1) := by decide +kernel
theorem d41 : decode yB 41 = .ok (.getfield 9, 3) := by decide +kernel
theorem d44 : decode yB 44 = .ok (.invokestatic 541, 3) := by decide +kernel
theorem d47 : decode yB 47 = .ok (.ifCond (.eq) 7, 3) := by decide +kernel
theorem d50 : decode yB 50 = .ok (.iconst 1, 1) := by decide +kernel
theorem d51 : decode yB 51 = .ok (.goto 4, 3) := by decide +kernel
theorem d54 : decode yB 54 = .ok (.iconst 0, 1) := by decide +kernel
theorem d55 : decode yB 55 = .ok (.ireturn, 1) := by decide +kernel
def site : List Cond := [.classLink "java/lang/String" 10 "java/lang/String", .fieldLink "java/lang/String" 38 "java/lang/String" "COMPACT_STRINGS" "Z", .fieldLink "java/lang/String" 15 "java/lang/String" "coder" "B", .fieldLink "java/lang/String" 9 "java/lang/String" "value" "[B", LEq.tab] ++ staticW "java/lang/String" 541 LEq.yN
def tab : Cond := tabOf yN yB 3 (some .boolean) site
def P (x t : Addr) (V : Cell) (cd : Int32) (n : Nat) (f : Nat → Int32) (y t' : Addr) (V' : Cell) (cd' : Int32) (k : Nat) (g : Nat → Int32) (z : Int32) (args : Array Value) (s : State) : Prop := args = #[.ref x, .ref y] ∧ Txt x t V cd n f s ∧ Txt y t' V' cd' k g s ∧ StaticIs s "java/lang/String" "COMPACT_STRINGS" "Z" (.int z) ∧ ¬ z = 0
/-- equals(Object) of two Strings: whether the texts are the same -/
theorem law (l : Launch) (x t : Addr) (V : Cell) (cd : Int32) (n : Nat) (f : Nat → Int32) (y t' : Addr) (V' : Cell) (cd' : Int32) (k : Nat) (g : Nat → Int32) (z : Int32) : Law l yN 2 1 1 14 yB 3 (some .boolean) site (P x t V cd n f y t' V' cd' k g z) (Says01 (SameT n f k g)) [] 0 0 := by
  refine Law.of_walk (plainFor_of_name (by decide +kernel)) (by decide +kernel) (by decide +kernel) (by decide) (fun _ _ h => by rw [h.1]; rfl) (fun _ U U' hal hh h => ⟨h.1, h.2.1.mv hal hh, h.2.2.1.mv hal hh, h.2.2.2.1.there hal hh, h.2.2.2.2⟩) (fun r U U' V V' h1 hal h2 h => Says01.mv r U U' V V' h1 hal h2 h) ?_
  intro p e s m args below meth c s₁ X0 hexec hbytes hml hret hlk hnm hown hh0 W hP
  obtain ⟨rfl, hx, hy, s1, hz⟩ := hP
  have c1 : Steps p.tables e below (s₁.setTop (entryFrame m #[.ref x, .ref y] 3)) (s₁.setTop (mkF m 2 #[.val (.ref x), .val (.ref y), .unset] [.ref y, .ref x])) := Steps.trans (entry rfl) (by
    show Steps p.tables e below (s₁.setTop (mkF m 0 #[.val (.ref x), .val (.ref y), .unset] [])) _
    refine XS.aloadN X0.here hexec rfl (hb hbytes d0) rfl rfl ?_
    refine XS.aloadN X0.here hexec rfl (hb hbytes d1) rfl rfl ?_
    exact Steps.refl _)
  by_cases hxy : x = y
  · have c2 : Steps p.tables e below (s₁.setTop (entryFrame m #[.ref x, .ref y] 3)) (s₁.setTop (mkF m 6 #[.val (.ref x), .val (.ref y), .unset] [.int 1])) := c1.trans (by
      refine acmpNo X0.here hexec rfl (hb hbytes d2) rfl rfl rfl (by simp [acmp, hxy]) ?_
      refine iconstV X0.here hexec rfl 1 (hb hbytes d5) (by decide) ?_
      exact Steps.refl _)
    subst hxy
    have ec : cd = cd' := by
      obtain ⟨D, fd, a1, a2, a3⟩ := hx.2.2.1
      obtain ⟨D', fd', b1, b2, b3⟩ := hy.2.2.1
      cases a1.symm.trans b1
      obtain ⟨q1, q2, q3, q4⟩ := a2.1
      obtain ⟨r1, r2, r3, r4⟩ := b2.1
      cases q4.symm.trans r4
      cases a3.symm.trans b3; rfl
    have et : t = t' := by
      obtain ⟨D, fd, a1, a2, a3⟩ := hx.2.1
      obtain ⟨D', fd', b1, b2, b3⟩ := hy.2.1
      cases a1.symm.trans b1
      obtain ⟨q1, q2, q3, q4⟩ := a2.1
      obtain ⟨r1, r2, r3, r4⟩ := b2.1
      cases q4.symm.trans r4
      cases a3.symm.trans b3; rfl
    subst ec et
    have ev : V = V' := by cases hx.2.2.2.1.1.symm.trans hy.2.2.2.1.1; rfl
    subst ev
    have hs : SameT n f k g := (Cod.eqv hx.2.2.2.2.1 hy.2.2.2.2.1 hx.2.2.2.2.2 hy.2.2.2.2.2).mp ⟨rfl, fun _ _ => rfl⟩
    exact ⟨s₁, some (.int 1), _, _, _, X0, rfl, rfl, rfl, (fun h => by cases h), ⟨1, rfl, hh0, Or.inl ⟨rfl, hs⟩⟩, fun fs hl => c2.trans (X0.ireturnOut hexec hret rfl (Or.inr (Or.inl rfl)) (hb hbytes d6) hl)⟩
  · have c2 : Steps p.tables e below (s₁.setTop (entryFrame m #[.ref x, .ref y] 3)) (s₁.setTop (mkF m 8 #[.val (.ref x), .val (.ref y), .unset] [.ref y])) := c1.trans (by
      refine acmpYes X0.here hexec rfl (pc0 := 2) rfl (hb hbytes d2) rfl rfl rfl (by simp [acmp, hxy]) (by decide) rfl ?_
      refine XS.aloadN X0.here hexec rfl (hb hbytes d7) rfl rfl ?_
      exact Steps.refl _)
    obtain ⟨T3, X3, q3, st3⟩ := cinst X0 hexec hown (wk W (.classLink "java/lang/String" 10 "java/lang/String")) (hy.mv X0.warmed.alike hh0).1 (g := (mkF m 8 #[.val (.ref x), .val (.ref y), .unset] [.ref y])) rfl (rest := []) rfl (hb hbytes d8)
    have hh3 := q3.trans hh0
    have c4 : Steps p.tables e below (s₁.setTop (entryFrame m #[.ref x, .ref y] 3)) (T3.setTop (mkF m 15 #[.val (.ref x), .val (.ref y), .unset] [.ref y])) := (c2.trans (st3 _ (Steps.refl _))).trans (by
      refine XS.ifNo X3.here hexec rfl (hb hbytes d11) rfl (i0_eq_f (by decide)) ?_
      refine XS.aloadN X3.here hexec rfl (hb hbytes d14) rfl rfl ?_
      exact Steps.refl _)
    obtain ⟨T5, X5, q5, st5⟩ := cself X3 hexec hown (wk W (.classLink "java/lang/String" 10 "java/lang/String")) (hy.mv X3.warmed.alike hh3).1 (g := (mkF m 15 #[.val (.ref x), .val (.ref y), .unset] [.ref y])) rfl (rest := []) rfl (hb hbytes d15)
    have hh5 := q5.trans hh3
    have c6 : Steps p.tables e below (s₁.setTop (entryFrame m #[.ref x, .ref y] 3)) (T5.setTop (mkF m 19 #[.val (.ref x), .val (.ref y), .val (.ref y)] [])) := (c4.trans (st5 _ (Steps.refl _))).trans (by
      refine XS.astoreN X5.here hexec rfl (hb hbytes d18) rfl rfl rfl ?_
      exact Steps.refl _)
    obtain ⟨T7, X7, q7, st7⟩ := X5.sget hexec hown (wk W (.fieldLink "java/lang/String" 38 "java/lang/String" "COMPACT_STRINGS" "Z")) s1 (fun _ _ h => by rw [hh5]; exact h) (g := (mkF m 19 #[.val (.ref x), .val (.ref y), .val (.ref y)] [])) rfl (hb hbytes d19)
    have hh7 := q7.trans hh5
    have c8 : Steps p.tables e below (s₁.setTop (entryFrame m #[.ref x, .ref y] 3)) (T7.setTop (mkF m 26 #[.val (.ref x), .val (.ref y), .val (.ref y)] [.ref x])) := (c6.trans (st7 _ (Steps.refl _))).trans (by
      refine XS.ifNo X7.here hexec rfl (hb hbytes d22) rfl (i0_eq_f hz) ?_
      refine XS.aloadN X7.here hexec rfl (hb hbytes d25) rfl rfl ?_
      exact Steps.refl _)
    obtain ⟨T9, X9, q9, st9⟩ := X7.hget hexec hown (wk W (.fieldLink "java/lang/String" 15 "java/lang/String" "coder" "B")) (hx.mv X7.warmed.alike hh7).2.2.1 (g := (mkF m 26 #[.val (.ref x), .val (.ref y), .val (.ref y)] [.ref x])) rfl (rest := []) rfl (hb hbytes d26)
    have hh9 := q9.trans hh7
    have c10 : Steps p.tables e below (s₁.setTop (entryFrame m #[.ref x, .ref y] 3)) (T9.setTop (mkF m 30 #[.val (.ref x), .val (.ref y), .val (.ref y)] [.ref y, .int cd])) := (c8.trans (st9 _ (Steps.refl _))).trans (by
      refine XS.aloadN X9.here hexec rfl (hb hbytes d29) rfl rfl ?_
      exact Steps.refl _)
    obtain ⟨T11, X11, q11, st11⟩ := X9.hget hexec hown (wk W (.fieldLink "java/lang/String" 15 "java/lang/String" "coder" "B")) (hy.mv X9.warmed.alike hh9).2.2.1 (g := (mkF m 30 #[.val (.ref x), .val (.ref y), .val (.ref y)] [.ref y, .int cd])) rfl (rest := [.int cd]) rfl (hb hbytes d30)
    have hh11 := q11.trans hh9
    have c12 : Steps p.tables e below (s₁.setTop (entryFrame m #[.ref x, .ref y] 3)) (T11.setTop (mkF m 33 #[.val (.ref x), .val (.ref y), .val (.ref y)] [.int cd', .int cd])) := c10.trans (st11 _ (Steps.refl _))
    by_cases hcd : cd = cd'
    · subst hcd
      have c13 : Steps p.tables e below (s₁.setTop (entryFrame m #[.ref x, .ref y] 3)) (T11.setTop (mkF m 37 #[.val (.ref x), .val (.ref y), .val (.ref y)] [.ref x])) := c12.trans (by
        refine XS.icmpNo X11.here hexec rfl (hb hbytes d33) rfl (ii_ne_f rfl) ?_
        refine XS.aloadN X11.here hexec rfl (hb hbytes d36) rfl rfl ?_
        exact Steps.refl _)
      obtain ⟨T14, X14, q14, st14⟩ := X11.hget hexec hown (wk W (.fieldLink "java/lang/String" 9 "java/lang/String" "value" "[B")) (hx.mv X11.warmed.alike hh11).2.1 (g := (mkF m 37 #[.val (.ref x), .val (.ref y), .val (.ref y)] [.ref x])) rfl (rest := []) rfl (hb hbytes d37)
      have hh14 := q14.trans hh11
      have c15 : Steps p.tables e below (s₁.setTop (entryFrame m #[.ref x, .ref y] 3)) (T14.setTop (mkF m 41 #[.val (.ref x), .val (.ref y), .val (.ref y)] [.ref y, .ref t])) := (c13.trans (st14 _ (Steps.refl _))).trans (by
        refine XS.aloadN X14.here hexec rfl (hb hbytes d40) rfl rfl ?_
        exact Steps.refl _)
      obtain ⟨T16, X16, q16, st16⟩ := X14.hget hexec hown (wk W (.fieldLink "java/lang/String" 9 "java/lang/String" "value" "[B")) (hy.mv X14.warmed.alike hh14).2.1 (g := (mkF m 41 #[.val (.ref x), .val (.ref y), .val (.ref y)] [.ref y, .ref t])) rfl (rest := [.ref t]) rfl (hb hbytes d41)
      have hh16 := q16.trans hh14
      have c17 : Steps p.tables e below (s₁.setTop (entryFrame m #[.ref x, .ref y] 3)) (T16.setTop (mkF m 44 #[.val (.ref x), .val (.ref y), .val (.ref y)] [.ref t', .ref t])) := c15.trans (st16 _ (Steps.refl _))
      obtain ⟨v18, T18, X18, E18, g18⟩ := X16.callS hexec (LEq.law l t V t' V') hown (wks W (staticW "java/lang/String" 541 LEq.yN)) (wk W LEq.tab) (W := 0) (Nat.le_of_ble_eq_true rfl) (Nat.le_of_ble_eq_true rfl) (Nat.le_refl _) (Nat.le_refl _) (g := (mkF m 44 #[.val (.ref x), .val (.ref y), .val (.ref y)] [.ref t', .ref t])) rfl (by rw [hml]; rfl) c17 (argsL := [.ref t, .ref t']) (rest := []) rfl rfl (by show 2 * 0 + 0 ≤ _; decide) (hb hbytes d44) (⟨rfl, hx.2.2.2.1.mv X16.warmed.alike hh16, hx.2.2.2.2.1.ty, hy.2.2.2.1.mv X16.warmed.alike hh16, hy.2.2.2.2.1.ty⟩)
      obtain ⟨v, rfl, q18, hv⟩ := E18
      have iff := Cod.eqv hx.2.2.2.2.1 hy.2.2.2.2.1 hx.2.2.2.2.2 hy.2.2.2.2.2
      rcases hv with ⟨rfl, he⟩ | ⟨rfl, he⟩
      · have c19 : Steps p.tables e below (s₁.setTop (entryFrame m #[.ref x, .ref y] 3)) (T18.setTop (mkF m 55 #[.val (.ref x), .val (.ref y), .val (.ref y)] [.int 1])) := Steps.trans g18 (by
          refine XS.ifNo X18.here hexec rfl (hb hbytes d47) rfl (i0_eq_f (by decide)) ?_
          refine iconstV X18.here hexec rfl 1 (hb hbytes d50) (by decide) ?_
          refine XS.goto X18.here hexec rfl (pc0 := 51) rfl (hb hbytes d51) (by decide) rfl ?_
          exact Steps.refl _)
        exact ⟨T18, some (.int 1), _, _, _, X18, rfl, rfl, rfl, (fun h => by cases h), ⟨1, rfl, q18.trans hh16, Or.inl ⟨rfl, iff.mp he⟩⟩, fun fs hl => c19.trans (X18.ireturnOut hexec hret rfl (Or.inr (Or.inl rfl)) (hb hbytes d55) hl)⟩
      · have c19 : Steps p.tables e below (s₁.setTop (entryFrame m #[.ref x, .ref y] 3)) (T18.setTop (mkF m 55 #[.val (.ref x), .val (.ref y), .val (.ref y)] [.int 0])) := Steps.trans g18 (by
          refine XS.ifYes X18.here hexec rfl (pc0 := 47) rfl (hb hbytes d47) rfl (i0_eq_t rfl) (by decide) rfl ?_
          refine iconstV X18.here hexec rfl 0 (hb hbytes d54) (by decide) ?_
          exact Steps.refl _)
        exact ⟨T18, some (.int 0), _, _, _, X18, rfl, rfl, rfl, (fun h => by cases h), ⟨0, rfl, q18.trans hh16, Or.inr ⟨rfl, fun q => he (iff.mpr q)⟩⟩, fun fs hl => c19.trans (X18.ireturnOut hexec hret rfl (Or.inr (Or.inl rfl)) (hb hbytes d55) hl)⟩
    · have c13 : Steps p.tables e below (s₁.setTop (entryFrame m #[.ref x, .ref y] 3)) (T11.setTop (mkF m 55 #[.val (.ref x), .val (.ref y), .val (.ref y)] [.int 0])) := c12.trans (by
        refine XS.icmpYes X11.here hexec rfl (pc0 := 33) rfl (hb hbytes d33) rfl (ii_ne_t hcd) (by decide) rfl ?_
        refine iconstV X11.here hexec rfl 0 (hb hbytes d54) (by decide) ?_
        exact Steps.refl _)
      exact ⟨T11, some (.int 0), _, _, _, X11, rfl, rfl, rfl, (fun h => by cases h), ⟨0, rfl, hh11, Or.inr ⟨rfl, Cod.dif hx.2.2.2.2.1 hy.2.2.2.2.1 hcd⟩⟩, fun fs hl => c13.trans (X11.ireturnOut hexec hret rfl (Or.inr (Or.inl rfl)) (hb hbytes d55) hl)⟩
theorem pays {l : Launch} {R : Room} {p : Program} {e : Env} {below : List Frame} {s : State} {sargs : Array Value} {len W : Nat} (x t : Addr) (V : Cell) (cd : Int32) (n : Nat) (f : Nat → Int32) (y t' : Addr) (V' : Cell) (cd' : Int32) (k : Nat) (g : Nat → Int32) (z : Int32) (htab : tab.before sargs s = true) (hfr : 2 ≤ R.frames) (hlo : W + 28 ≤ R.locals) :
    Back l R p e below s sargs yN len W (fun A₁ a₁ => A₁.cells + 0 ≤ R.cells ∧ A₁.slots + 0 ≤ R.slots ∧ P x t V cd n f y t' V' cd' k g z a₁ A₁.U) (fun A₁ _ v₁ B₁ => Says01 (SameT n f k g) v₁ A₁.U B₁.U ∧ B₁.locs = A₁.locs ++ [] ∧ B₁.cells = A₁.cells + 0 ∧ B₁.slots = A₁.slots + 0) :=
  (law l x t V cd n f y t' V' cd' k g z).pays htab hfr (by omega)
end SEq
end StrChars
namespace StrChars.Road
open Jvm Sem ClassFile Op Lib Jvm.Stand Jvm.Free Jvm.Free.XT
open Jvm.Lib.Cold (StaticIs)
/-- the words of String.equals(Object) -/
abbrev wordsEq : List Jvm.Cond := [.code SEq.yN SEq.yB 3 (some .boolean), .initialized ST, .classLink ST 10 ST, .fieldLink ST 38 ST "COMPACT_STRINGS" "Z", .fieldLink ST 15 ST "coder" "B", .fieldLink ST 9 ST "value" "[B", .methodLink ST 541 LEq.yN, .static LEq.yN, .code LEq.yN LEq.yB 3 (some .boolean), .initialized "java/lang/StringLatin1"]
theorem tabEq_of {a : Array Value} {s : State} (h : ∀ w ∈ wordsEq, w.before a s = true) : SEq.tab.before a s = true := by
  have hl : LEq.tab.before a s = true := unparts (wk h (.code LEq.yN LEq.yB 3 (some .boolean))) (wks h (.initialized LEq.yN.cls :: LEq.site))
  have q := consq hl h
  exact unparts (wk q (.code SEq.yN SEq.yB 3 (some .boolean))) (wks q (.initialized SEq.yN.cls :: SEq.site))
theorem movedEq {Z s : State} {a0 args : Array Value} (hZ : Z.Warmed39 s.vm) (hw : ∀ d ∈ wordsEq, d.before a0 Z = true) : ∀ d ∈ wordsEq, d.before args s = true := fun d hd => by
  have t : ∀ d ∈ wordsEq, (d.onTables && d.keepsFace) = true := by decide +kernel
  exact RoadKit.mv hZ (hw d hd) (t d hd)
/-- the road's facts of a String, as the laws ask it -/
theorem txt_of {Z U : State} {a0 : Array Value} {kI : Nat} (wi : (Jvm.Cond.instantiable ST kI).before a0 Z = true) (al : Z.vm.Alike U.vm) {x t : Addr} {kb : ClassId} {cs : List Int32} {cd N2 : Int32} {vs : List Value} (E : RoadKit.Exa Z U.heap x ST) (V : RoadKit.Fld Z U.heap x ST "value" "[B" (.ref t)) (C : RoadKit.Fld Z U.heap x ST "coder" "B" (.int cd)) (K : RoadKit.Arv Z U.heap t kb .byte N2 vs (.int 0)) (hc : CodA cs cd N2 vs) (hb : ∀ c ∈ cs, ¬ c < 0 ∧ ¬ (65535 : Int32) < c) (l2 : cs.length ≤ 4000) :
    ∃ A, Txt x t A cd cs.length (fun j => cs.getD j 0) U := by
  obtain ⟨A, K1, K2, K3, K4, K5, K6⟩ := K
  have hcod := hc.cod (by omega) K3 K5
  obtain ⟨D, fV, fC, hB, F1, F2, g1, g2, -, -⟩ := strObj wi al E V C
  exact ⟨A, ⟨_, hB.2.2.1, D, hB.1, rfl, by cases q : D.vm <;> first | rfl | exact absurd q (hB.2.1.2 _)⟩, Has.of hB F1 g1, Has.of hB F2 g2, ⟨K1.1, State.isArrayOf_alike al K1.2.1, K1.2.2, by rcases hcod with ⟨-, q, -⟩ | ⟨-, q, -⟩ <;> omega⟩, hcod, fun j hj => by
    have e : cs.getD j 0 = cs[j] := by simp [List.getD_eq_getElem?_getD, hj]
    show ¬ cs.getD j 0 < 0 ∧ ¬ 65535 < cs.getD j 0
    rw [e]; exact hb _ (List.getElem_mem _)⟩
theorem same_list (cs ds : List Int32) : SameT cs.length (fun j => cs.getD j 0) ds.length (fun j => ds.getD j 0) ↔ cs = ds := by
  constructor
  · rintro ⟨e, q⟩
    refine List.ext_getElem e fun j h1 h2 => ?_
    have := q j h1
    simpa [List.getD_eq_getElem?_getD, h1, h2] using this
  · rintro rfl
    exact ⟨rfl, fun _ _ => rfl⟩
/-- **equals(Object) OF TWO SUCH STRINGS**: 1 just where the chars are the same -/
theorem eqW {p : Program} {l : Launch} {e : Env} {R : Room} {s : State} {args : Array Value} {below : List Frame} {len W : Nat} {Z : State} {a0 : Array Value} {h : Heap} (hZ : Z.Warmed39 s.vm) (hw : ∀ d ∈ wordsEq, d.before a0 Z = true) {kI : Nat} (wi : (Jvm.Cond.instantiable ST kI).before a0 Z = true)
    {x t : Addr} {kb : ClassId} {cs : List Int32} {cd N2 : Int32} {vs : List Value} (E : RoadKit.Exa Z h x ST) (V : RoadKit.Fld Z h x ST "value" "[B" (.ref t)) (C : RoadKit.Fld Z h x ST "coder" "B" (.int cd)) (K : RoadKit.Arv Z h t kb .byte N2 vs (.int 0)) (hc : CodA cs cd N2 vs) (hb : ∀ c ∈ cs, ¬ c < 0 ∧ ¬ (65535 : Int32) < c) (l2 : cs.length ≤ 4000)
    {y t' : Addr} {kb' : ClassId} {ds : List Int32} {cd' N2' : Int32} {vs' : List Value} (E' : RoadKit.Exa Z h y ST) (V' : RoadKit.Fld Z h y ST "value" "[B" (.ref t')) (C' : RoadKit.Fld Z h y ST "coder" "B" (.int cd')) (K' : RoadKit.Arv Z h t' kb' .byte N2' vs' (.int 0)) (hc' : CodA ds cd' N2' vs') (hb' : ∀ c ∈ ds, ¬ c < 0 ∧ ¬ (65535 : Int32) < c) (l2' : ds.length ≤ 4000)
    {z : Int32} (S : RoadKit.Sta Z h ST "COMPACT_STRINGS" "Z" (.int z)) (hz : ¬ z = 0) (hfr : 2 ≤ R.frames) (hlo : W + 28 ≤ R.locals) :
    Back l R p e below s args (⟨"java/lang/String", "equals", "(Ljava/lang/Object;)Z"⟩ : MethodName) len W (fun P a => a = #[.ref x, .ref y] ∧ P.U.heap = h ∧ P.cells + 0 ≤ R.cells ∧ P.slots + 0 ≤ R.slots)
      (fun P _ v B => ∃ L, (((v = some (.int 1) ∧ cs = ds) ∨ (v = some (.int 0) ∧ ¬ cs = ds)) ∧ L = [] ∧ B.U.heap = h) ∧ B.locs = P.locs ++ L ∧ B.cells = P.cells + 0 ∧ B.slots = P.slots + 0) := by
  intro m meth c P g ig mk a X hg hsize hdg hW hn hp'
  obtain ⟨rfl, rfl, r1, r2⟩ := hp'
  have al : Z.vm.Alike P.U.vm := hZ.alike.trans X.warmed.alike
  obtain ⟨A, hx⟩ := txt_of wi al E V C K hc hb l2
  obtain ⟨A', hy⟩ := txt_of wi al E' V' C' K' hc' hb' l2'
  obtain ⟨v, B, X', ⟨⟨w, hv, hh, hq⟩, hl, hk, hs⟩, st⟩ := SEq.pays x t A cd cs.length (fun j => cs.getD j 0) y t' A' cd' ds.length (fun j => ds.getD j 0) z (tabEq_of (movedEq hZ hw)) hfr hlo m meth c P g ig mk _ X hg hsize hdg hW hn ⟨r1, r2, rfl, hx, hy, sta_is al S, hz⟩
  refine ⟨v, B, X', ⟨[], ⟨?_, rfl, hh⟩, hl, hk, hs⟩, st⟩
  rcases hq with ⟨rfl, q⟩ | ⟨rfl, q⟩
  · exact Or.inl ⟨hv, (same_list cs ds).mp q⟩
  · exact Or.inr ⟨hv, fun e => q ((same_list cs ds).mpr e)⟩
end StrChars.Road
namespace StrChars.Road
open Jvm Sem ClassFile Op Lib Jvm.Stand Jvm.Free Jvm.Free.XT
open Jvm.Lib.Cold (StaticIs)
/-- what backV says of its String, as the contracts of this text ask it: cs's low bytes, coder 0 -/
theorem codOf {cs : List Int32} {n : Nat} (hn : cs.length = n) (hb : ∀ c ∈ cs, ¬ 255 < c) : CodA cs 0 (Int32.ofNat n) ((cs.map lo8).map Value.int) := Or.inl ⟨rfl, by rw [hn], by simp [List.map_map, Function.comp_def], hb⟩
end StrChars.Road
end Jvm.Pilot.@@N@@


namespace Jvm.OwnKit
open Jvm Sem ClassFile Op Lib Jvm.Stand Jvm.Free Jvm.LawKit Jvm.RoadKit
section Own
variable {p : Program} {l : Launch} {e : Env} {R : Room} {s : State} {m : MethodId} {args : Array Value} {below : List Frame} {meth : Method} {c : Code} {T : State} {locs : List Loc} {cells slots : Nat} {Z : State} {a0 : Array Value} {h h' : Heap}
/-- the walk from A on comes to an end that says Q -/
def Goes (tb : Tables) (e : Env) (below : List Frame) (Q : State → Outcome → Prop) (A : State) : Prop := ∃ t o, Steps tb e below A t ∧ t.status = .running ∧ Ended t below o ∧ Q t o
theorem Goes.via {tb : Tables} {Q : State → Outcome → Prop} {A B : State} (st : ∀ t, Steps tb e below B t → Steps tb e below A t) (k : Goes tb e below Q B) : Goes tb e below Q A := by
  obtain ⟨t, o, h, r⟩ := k; exact ⟨t, o, st t h, r⟩
/-- what a contract says at one start: the arguments as', the heap h -/
abbrev Ctr (l : Launch) (Z : State) (y : MethodName) (bytes : ByteArray) (maxL : Nat) (ret : Option FieldType) (rm : Room) (as' : Array Value) (h : Heap) (Q : Option Value → Heap → List Loc → Prop) (ws : List Cond) : Prop :=
  MetFree l y (head1 (Cond.code y bytes maxL ret :: ws) rm) (fun a U => a = as' ∧ Z.Warmed39 U.vm ∧ U.heap = h) (fun _ _ _ _ _ => True) (fun _ U o U' => ∃ v L, o = .returned v ∧ Q v U'.heap L ∧ FrameEnd U o U' L rm.cells rm.slots)
/-- the leave of a walk, in either frame F -/
def Lv (F : State → Outcome → State → List Loc → Nat → Nat → Prop) (e : Env) (s : State) (m : MethodId) (below : List Frame) (meth : Method) (T : State) (locs : List Loc) (C S : Nat) : Prop :=
  ∀ v : Option Value, (meth.sig.returnType = none → v = none) → ∃ fs, (∀ (f : JFrame) (acts : List Action), f.method = m → f.locked = none → f.entered = [] → (doReturn e (T.setTop f) acts v).1 = T.setFrames fs) ∧ (T.setFrames fs).status = .running ∧ Ended (T.setFrames fs) below (.returned v) ∧ F s (.returned v) (T.setFrames fs) locs C S
theorem lvN (X : Stand p l e R s m args below meth c T locs cells slots) (hlocks : meth.locks = false) {C S : Nat} (hc : cells ≤ C) (hs : slots ≤ S) : Lv FrameEnd e s m below meth T locs C S := fun v hv => by
  obtain ⟨fs, hr, hrun, hended, hW, hsame⟩ := X.leave hv hlocks
  exact ⟨fs, hr, hrun, hended, ⟨_, rfl⟩, hW, hsame.mono hc hs⟩
theorem fin {F : State → Outcome → State → List Loc → Nat → Nat → Prop} {v : Option Value} (hv : meth.sig.returnType = none → v = none) {A : State}
    (hk : ∀ fs, (∀ (f : JFrame) (acts : List Action), f.method = m → f.locked = none → f.entered = [] → (doReturn e (T.setTop f) acts v).1 = T.setFrames fs) → Steps p.tables e below A (T.setFrames fs))
    {Q : Option Value → Heap → List Loc → Prop} {C S : Nat} (eT : T.heap = h) (hQ : Q v h locs) (lv : Lv F e s m below meth T locs C S) :
    Goes p.tables e below (fun t o => ∃ v L, o = .returned v ∧ Q v t.heap L ∧ F s o t L C S) A := by
  obtain ⟨fs, hr, hrun, hended, hF⟩ := lv v hv
  subst eT
  exact ⟨_, _, hk fs hr, hrun, hended, v, locs, rfl, hQ, hF⟩
variable {sb : State} {F : State → Outcome → State → List Loc → Nat → Nat → Prop}
/-- return of nothing -/
theorem fin0 (X : Stand p l e R sb m args below meth c T locs cells slots) (hx : p.tables.exec = Jvm.exec) (hret : meth.sig.returnType = none) {pc : Nat} {Ls : Array Slot} (hd : decode c.code pc = .ok (.return_, 1))
    {Q : Option Value → Heap → List Loc → Prop} {C S : Nat} (eT : T.heap = h) (hQ : Q none h locs) (lv : Lv F e s m below meth T locs C S) :
    Goes p.tables e below (fun t o => ∃ v L, o = .returned v ∧ Q v t.heap L ∧ F s o t L C S) (T.setTop (mkF m pc Ls [])) :=
  fin (fun _ => rfl) (fun _ hl => X.returnOut hx hret hd hl) eT hQ lv
theorem finN (X : Stand p l e R sb m args below meth c T locs cells slots) (hx : p.tables.exec = Jvm.exec) {t : FieldType} (hret : meth.sig.returnType = some t) (ht : t = .boolean ∨ t = .byte ∨ t = .char ∨ t = .short) {pc : Nat} {Ls : Array Slot} {st : List Value} {z z' : Int32} (hz : nar t z = z') (hd : decode c.code pc = .ok (.ireturn, 1))
    {Q : Option Value → Heap → List Loc → Prop} {C S : Nat} (eT : T.heap = h) (hQ : Q (some (.int z')) h locs) (lv : Lv F e s m below meth T locs C S) :
    Goes p.tables e below (fun t o => ∃ v L, o = .returned v ∧ Q v t.heap L ∧ F s o t L C S) (T.setTop (mkF m pc Ls (.int z :: st))) :=
  fin (fun q => by rw [hret] at q; cases q) (fun _ hl => by subst hz; exact retN X hx hret ht hd hl) eT hQ lv
theorem finA (X : Stand p l e R sb m args below meth c T locs cells slots) (hx : p.tables.exec = Jvm.exec) {t : FieldType} (hret : meth.sig.returnType = some t) (ht : t.isReference = true) {pc : Nat} {Ls : Array Slot} {st : List Value} {w : Value} (hw : w.isRef = true) (hn : narrow t w = w) (hd : decode c.code pc = .ok (.areturn, 1))
    {Q : Option Value → Heap → List Loc → Prop} {C S : Nat} (eT : T.heap = h) (hQ : Q (some w) h locs) (lv : Lv F e s m below meth T locs C S) :
    Goes p.tables e below (fun t o => ∃ v L, o = .returned v ∧ Q v t.heap L ∧ F s o t L C S) (T.setTop (mkF m pc Ls (w :: st))) :=
  fin (fun q => by rw [hret] at q; cases q) (fun _ hl => retOut X hx hret hn (Or.inr (Or.inr (Or.inr (Or.inr ⟨rfl, ht, hw⟩)))) hd hl) eT hQ lv
theorem old_le {n0 : Nat} (O : Old Z n0 h) : n0 ≤ h.size := O.1 ▸ O.2.1
/-- a callee's law, in the one shape -/
abbrev BackQ (l : Launch) (R : Room) (p : Program) (e : Env) (below : List Frame) (s : State) (args : Array Value) (y : MethodName) (W : Nat) (as' : Array Value) (h : Heap) (kc ks : Nat) (Q : Option Value → Heap → List Loc → Prop) : Prop :=
  Back l R p e below s args y 3 W (fun A a => a = as' ∧ A.U.heap = h ∧ A.cells + kc ≤ R.cells ∧ A.slots + ks ≤ R.slots) (fun A _ v B => ∃ L, Q v B.U.heap L ∧ B.locs = A.locs ++ L ∧ B.cells = A.cells + kc ∧ B.slots = A.slots + ks)
theorem callStaticB (X : Stand p l e R s m args below meth c T locs cells slots) (hx : p.tables.exec = Jvm.exec) (hZ : Z.Warmed39 s.vm) {own : String} {index : Nat} {y : MethodName} {bytes : ByteArray} {maxL : Nat} {ret : Option FieldType} {kc ks : Nat} {Q : Option Value → Heap → List Loc → Prop}
    (hown : s.vm.findClass own = some m.cls) (w1 : (Cond.methodLink own index y).before a0 Z = true) (w2 : (Cond.static y).before a0 Z = true) (w3 : (Cond.initialized y.cls).before a0 Z = true) (w4 : (Cond.code y bytes maxL ret).before a0 Z = true)
    (hy : y.cls ≠ "java/lang/invoke/MethodHandle" ∧ y.cls ≠ "java/lang/invoke/VarHandle") {argsL rest : List Value} {W : Nat} (hK : BackQ l R p e below s args y W argsL.toArray h kc ks Q) (eT : T.heap = h)
    (hlen : ∀ sig, parseMethodDescriptor y.desc = some sig → argsL.length = sig.parameters.length) {pc : Nat} {Ls : Array Slot} {st : List Value} (hst : st = argsL.reverse ++ rest) (hsz : Ls.size = c.maxLocals) (hd : decode c.code pc = .ok (.invokestatic index, 3))
    (hW : (rest.map fun v => v.category).sum ≤ W) (hce : cells + kc ≤ R.cells) (hsl : slots + ks ≤ R.slots) :
    ∃ v T' L, Stand p l e R s m args below meth c T' (locs ++ L) (cells + kc) (slots + ks) ∧ Q v T'.heap L ∧ ∀ t, Steps p.tables e below (T'.setTop (mkF m (pc + 3) Ls (v.toList ++ rest))) t → Steps p.tables e below (T.setTop (mkF m pc Ls st)) t := by
  obtain ⟨v, _, ⟨T', L', k', n'⟩, -, X', ⟨L, hQ, l1, l2, l3⟩, st'⟩ := Jvm.LawKit.callS X hx hown (mvT hZ w1) (mvT hZ w2) (mvT hZ w3) (mvT hZ w4) hy hK (g := mkF m pc Ls st) rfl hsz (argsL := argsL) (rest := rest) hlen hst (by show 2 * 0 + _ ≤ _; omega) hd (fun _ _ => ⟨rfl, eT, hce, hsl⟩)
  dsimp only [Pt.U, Pt.locs, Pt.cells, Pt.slots] at X' l1 l2 l3 st' hQ
  subst l1 l2 l3
  exact ⟨v, T', L, X', hQ, st'⟩
theorem callStatic (X : Stand p l e R s m args below meth c T locs cells slots) (hx : p.tables.exec = Jvm.exec) (hZ : Z.Warmed39 s.vm) {own : String} {index : Nat} {y : MethodName} {bytes : ByteArray} {maxL : Nat} {ret : Option FieldType} {rm : Room} {Q : Option Value → Heap → List Loc → Prop}
    (hown : s.vm.findClass own = some m.cls) (w1 : (Cond.methodLink own index y).before a0 Z = true) (w2 : (Cond.static y).before a0 Z = true) (w3 : (Cond.initialized y.cls).before a0 Z = true) (w4 : (Cond.code y bytes maxL ret).before a0 Z = true)
    (hy : y.cls ≠ "java/lang/invoke/MethodHandle" ∧ y.cls ≠ "java/lang/invoke/VarHandle") {argsL rest : List Value} (hM : Ctr l Z y bytes maxL ret rm argsL.toArray h Q []) (eT : T.heap = h)
    (hlen : ∀ sig, parseMethodDescriptor y.desc = some sig → argsL.length = sig.parameters.length) {pc W : Nat} {Ls : Array Slot} {st : List Value} (hst : st = argsL.reverse ++ rest) (hsz : Ls.size = c.maxLocals) (hd : decode c.code pc = .ok (.invokestatic index, 3))
    (hW : (rest.map fun v => v.category).sum ≤ W) (hfr : rm.frames + 1 ≤ R.frames) (hlo : W + (maxL + 11) + rm.locals ≤ R.locals) (hce : cells + rm.cells ≤ R.cells) (hsl : slots + rm.slots ≤ R.slots) :
    ∃ v T' L, Stand p l e R s m args below meth c T' (locs ++ L) (cells + rm.cells) (slots + rm.slots) ∧ Q v T'.heap L ∧ ∀ t, Steps p.tables e below (T'.setTop (mkF m (pc + 3) Ls (v.toList ++ rest))) t → Steps p.tables e below (T.setTop (mkF m pc Ls st)) t :=
  callStaticB X hx hZ hown w1 w2 w3 w4 hy (backOf (W := W) hM hZ w4 w3 hfr hlo) eT hlen hst hsz hd hW hce hsl
theorem callInitB (X : Stand p l e R s m args below meth c T locs cells slots) (hx : p.tables.exec = Jvm.exec) (hZ : Z.Warmed39 s.vm) {own : String} {index : Nat} {y : MethodName} {bytes : ByteArray} {maxL : Nat} {kc ks : Nat} {Q : Option Value → Heap → List Loc → Prop} (hy1 : y.name = "<init>")
    (hown : s.vm.findClass own = some m.cls) (w1 : (Cond.methodLink own index y).before a0 Z = true) (w2 : (Cond.instanceMethod y).before a0 Z = true) (w4 : (Cond.code y bytes maxL none).before a0 Z = true)
    (hy : y.cls ≠ "java/lang/invoke/MethodHandle" ∧ y.cls ≠ "java/lang/invoke/VarHandle") {a : Addr} {argsL rest : List Value} {W : Nat} (hK : BackQ l R p e below s args y W (.ref a :: argsL).toArray h kc ks Q) (eT : T.heap = h)
    (hlen : ∀ sig, parseMethodDescriptor y.desc = some sig → argsL.length = sig.parameters.length) {pc : Nat} {Ls : Array Slot} {st : List Value} (hst : st = argsL.reverse ++ .ref a :: rest) (hsz : Ls.size = c.maxLocals) (hd : decode c.code pc = .ok (.invokespecial index, 3))
    (hW : (rest.map fun v => v.category).sum ≤ W) (hce : cells + kc ≤ R.cells) (hsl : slots + ks ≤ R.slots) :
    ∃ v T' L, Stand p l e R s m args below meth c T' (locs ++ L) (cells + kc) (slots + ks) ∧ Q v T'.heap L ∧ ∀ t, Steps p.tables e below (T'.setTop (mkF m (pc + 3) Ls (v.toList ++ rest))) t → Steps p.tables e below (T.setTop (mkF m pc Ls st)) t := by
  obtain ⟨v, _, ⟨T', L', k', n'⟩, -, X', ⟨L, hQ, l1, l2, l3⟩, st'⟩ := X.specialBack hx hy1 hown (mvT hZ w1) (mvT hZ w2) (mvT hZ w4) hy hK (g := mkF m pc Ls st) rfl hsz (Steps.refl _) (a := a) (argsL := argsL) (rest := rest) hlen hst (by show 2 * 0 + _ ≤ _; omega) hd (fun _ _ => ⟨rfl, eT, hce, hsl⟩)
  dsimp only [Pt.U, Pt.locs, Pt.cells, Pt.slots] at X' l1 l2 l3 st' hQ
  subst l1 l2 l3
  exact ⟨v, T', L, X', hQ, fun t k => st'.trans k⟩
theorem callInit (X : Stand p l e R s m args below meth c T locs cells slots) (hx : p.tables.exec = Jvm.exec) (hZ : Z.Warmed39 s.vm) {own : String} {index : Nat} {y : MethodName} {bytes : ByteArray} {maxL : Nat} {rm : Room} {Q : Option Value → Heap → List Loc → Prop} (hy1 : y.name = "<init>")
    (hown : s.vm.findClass own = some m.cls) (w1 : (Cond.methodLink own index y).before a0 Z = true) (w2 : (Cond.instanceMethod y).before a0 Z = true) (w3 : (Cond.initialized y.cls).before a0 Z = true) (w4 : (Cond.code y bytes maxL none).before a0 Z = true)
    (hy : y.cls ≠ "java/lang/invoke/MethodHandle" ∧ y.cls ≠ "java/lang/invoke/VarHandle") {a : Addr} {argsL rest : List Value} (hM : Ctr l Z y bytes maxL none rm (.ref a :: argsL).toArray h Q []) (eT : T.heap = h)
    (hlen : ∀ sig, parseMethodDescriptor y.desc = some sig → argsL.length = sig.parameters.length) {pc W : Nat} {Ls : Array Slot} {st : List Value} (hst : st = argsL.reverse ++ .ref a :: rest) (hsz : Ls.size = c.maxLocals) (hd : decode c.code pc = .ok (.invokespecial index, 3))
    (hW : (rest.map fun v => v.category).sum ≤ W) (hfr : rm.frames + 1 ≤ R.frames) (hlo : W + (maxL + 11) + rm.locals ≤ R.locals) (hce : cells + rm.cells ≤ R.cells) (hsl : slots + rm.slots ≤ R.slots) :
    ∃ v T' L, Stand p l e R s m args below meth c T' (locs ++ L) (cells + rm.cells) (slots + rm.slots) ∧ Q v T'.heap L ∧ ∀ t, Steps p.tables e below (T'.setTop (mkF m (pc + 3) Ls (v.toList ++ rest))) t → Steps p.tables e below (T.setTop (mkF m pc Ls st)) t :=
  callInitB X hx hZ hy1 hown w1 w2 w4 hy (backOf (W := W) hM hZ w4 w3 hfr hlo) eT hlen hst hsz hd hW hce hsl
theorem callVirtB (X : Stand p l e R s m args below meth c T locs cells slots) (hx : p.tables.exec = Jvm.exec) (hZ : Z.Warmed39 s.vm) {own C : String} {index : Nat} {y z : MethodName} {kc ks : Nat} {Q : Option Value → Heap → List Loc → Prop}
    (hown : s.vm.findClass own = some m.cls) (w1 : (Cond.methodLink own index y).before a0 Z = true) (w2 : (Cond.declares y).before a0 Z = true) (w5 : (Cond.selects C y z).before a0 Z = true) (hnf : NotFace s y) (w6 : (Cond.instanceMethod z).before a0 Z = true)
    (hy : y.cls ≠ "java/lang/invoke/MethodHandle" ∧ y.cls ≠ "java/lang/invoke/VarHandle") {a : Addr} {argsL rest : List Value} {W : Nat} (hK : BackQ l R p e below s args z W (.ref a :: argsL).toArray h kc ks Q) (eT : T.heap = h) (E : Exa Z h a C)
    (hlen : ∀ sig, parseMethodDescriptor y.desc = some sig → argsL.length = sig.parameters.length) {pc : Nat} {Ls : Array Slot} {st : List Value} (hst : st = argsL.reverse ++ .ref a :: rest) (hsz : Ls.size = c.maxLocals) (hd : decode c.code pc = .ok (.invokevirtual index, 3))
    (hW : (rest.map fun v => v.category).sum ≤ W) (hce : cells + kc ≤ R.cells) (hsl : slots + ks ≤ R.slots) :
    ∃ v T' L, Stand p l e R s m args below meth c T' (locs ++ L) (cells + kc) (slots + ks) ∧ Q v T'.heap L ∧ ∀ t, Steps p.tables e below (T'.setTop (mkF m (pc + 3) Ls (v.toList ++ rest))) t → Steps p.tables e below (T.setTop (mkF m pc Ls st)) t := by
  obtain ⟨cB, kB, q1, -, q3⟩ := isOf hZ eT E
  obtain ⟨v, _, ⟨T', L', k', n'⟩, -, X', ⟨L, hQ, l1, l2, l3⟩, st'⟩ := X.virtualBack hx hown (mvT hZ w1) (mvT hZ w2) hnf (mvT hZ w5) (mvT hZ w6) hy hK q1 q3 (g := mkF m pc Ls st) rfl hsz (Steps.refl _) (argsL := argsL) (rest := rest) hlen hst (by show 2 * 0 + _ ≤ _; omega) hd (fun _ _ => ⟨rfl, eT, hce, hsl⟩)
  dsimp only [Pt.U, Pt.locs, Pt.cells, Pt.slots] at X' l1 l2 l3 st' hQ
  subst l1 l2 l3
  exact ⟨v, T', L, X', hQ, fun t k => st'.trans k⟩
theorem callVirt (X : Stand p l e R s m args below meth c T locs cells slots) (hx : p.tables.exec = Jvm.exec) (hZ : Z.Warmed39 s.vm) {own C : String} {index : Nat} {y z : MethodName} {bytes : ByteArray} {maxL : Nat} {ret : Option FieldType} {rm : Room} {Q : Option Value → Heap → List Loc → Prop}
    (hown : s.vm.findClass own = some m.cls) (w1 : (Cond.methodLink own index y).before a0 Z = true) (w2 : (Cond.declares y).before a0 Z = true) (w5 : (Cond.selects C y z).before a0 Z = true) (hnf : NotFace s y) (w6 : (Cond.instanceMethod z).before a0 Z = true) (w3 : (Cond.initialized z.cls).before a0 Z = true) (w4 : (Cond.code z bytes maxL ret).before a0 Z = true)
    (hy : y.cls ≠ "java/lang/invoke/MethodHandle" ∧ y.cls ≠ "java/lang/invoke/VarHandle") {a : Addr} {argsL rest : List Value} (hM : Ctr l Z z bytes maxL ret rm (.ref a :: argsL).toArray h Q []) (eT : T.heap = h) (E : Exa Z h a C)
    (hlen : ∀ sig, parseMethodDescriptor y.desc = some sig → argsL.length = sig.parameters.length) {pc W : Nat} {Ls : Array Slot} {st : List Value} (hst : st = argsL.reverse ++ .ref a :: rest) (hsz : Ls.size = c.maxLocals) (hd : decode c.code pc = .ok (.invokevirtual index, 3))
    (hW : (rest.map fun v => v.category).sum ≤ W) (hfr : rm.frames + 1 ≤ R.frames) (hlo : W + (maxL + 11) + rm.locals ≤ R.locals) (hce : cells + rm.cells ≤ R.cells) (hsl : slots + rm.slots ≤ R.slots) :
    ∃ v T' L, Stand p l e R s m args below meth c T' (locs ++ L) (cells + rm.cells) (slots + rm.slots) ∧ Q v T'.heap L ∧ ∀ t, Steps p.tables e below (T'.setTop (mkF m (pc + 3) Ls (v.toList ++ rest))) t → Steps p.tables e below (T.setTop (mkF m pc Ls st)) t :=
  callVirtB X hx hZ hown w1 w2 w5 hnf w6 hy (backOf (W := W) hM hZ w4 w3 hfr hlo) eT E hlen hst hsz hd hW hce hsl
/-- what a contract says of a body that may read the String constants of EL; sf: cells that are no constant's -/
abbrev CtrH (l : Launch) (Z : State) (EL : List (String × Nat)) (sf : List Addr) (y : MethodName) (bytes : ByteArray) (maxL : Nat) (ret : Option FieldType) (rm : Room) (as' : Array Value) (h : Heap) (Q : Option Value → Heap → List Loc → Prop) (ws : List Cond) : Prop :=
  MetFree l y (head1 (Cond.code y bytes maxL ret :: ws) rm) (fun a U => a = as' ∧ Z.Warmed39 U.vm ∧ U.heap = h ∧ CHv Z EL U.vm h ∧ ∀ x ∈ sf, Safe Z EL U.vm h x) (fun _ _ _ _ _ => True) (fun _ U o U' => ∃ v L, o = .returned v ∧ Q v U'.heap L ∧ CHr Z EL U.vm U.heap U'.vm U'.heap ∧ ReturnedEndW U o U' L rm.cells rm.slots)
/-- the frame of such a body -/
def EndH (Z : State) (EL : List (String × Nat)) (s : State) (o : Outcome) (t : State) (L : List Loc) (k n : Nat) : Prop := CHr Z EL s.vm s.heap t.vm t.heap ∧ ReturnedEndW s o t L k n
theorem lvH {EL : List (String × Nat)} {vm0 : Vm} {k0 : Nat} (X : Stand p l e R (s.setVm vm0) m args below meth c T locs cells slots) (hlocks : meth.locks = false) (hS : s.Since vm0 k0) (eT : T.heap = h) (hk : k0 ≤ h.size) (hZ : Z.Warmed39 vm0) (hEL : EW Z a0 EL) (hR : CHr Z EL s.vm s.heap vm0 h) {C S : Nat} (hc : cells ≤ C) (hs : slots ≤ S) : Lv (EndH Z EL) e s m below meth T locs C S := fun v hv => by
  obtain ⟨fs, hr, hrun, hended, h1, h2, h3, h4⟩ := X.leaveW hS (eT ▸ hk) hv hlocks
  refine ⟨fs, hr, hrun, hended, ?_, h1, h2, h3, h4.mono hc hs⟩
  have q := hR.trans (CHv.at X hZ hEL hR.1)
  subst eT
  exact q
theorem backH {EL : List (String × Nat)} {sf : List Addr} {vm0 : Vm} {y : MethodName} {bytes : ByteArray} {maxL : Nat} {ret : Option FieldType} {rm : Room} {len W : Nat} {as' : Array Value} {Q : Option Value → Heap → List Loc → Prop}
    (hM : CtrH l Z EL sf y bytes maxL ret rm as' h Q [])
    (hZ : Z.Warmed39 vm0) (wc : (Cond.code y bytes maxL ret).before a0 Z = true) (wz : (Cond.initialized y.cls).before a0 Z = true) (hf : rm.frames + 1 ≤ R.frames) (hl : W + (maxL + 11) + rm.locals ≤ R.locals) (hEL : EW Z a0 EL) (H : CHv Z EL vm0 h) (hsf : ∀ x ∈ sf, x < h.size ∧ Safe Z EL vm0 h x) :
    BackS l R p e below (s.setVm vm0) args y len W (fun A a => a = as' ∧ A.U.heap = h ∧ A.cells + rm.cells ≤ R.cells ∧ A.slots + rm.slots ≤ R.slots)
      (fun A _ v B => ∃ L, Q v B.U.heap L ∧ B.locs = A.locs ++ L ∧ B.cells = A.cells + rm.cells ∧ B.slots = A.slots + rm.slots ∧ CHr Z EL vm0 h B.U.vm B.U.heap) :=
  BackS.of_freeW (bytes := bytes) (maxL := maxL) (ret := ret) (E := fun _ first o t L k n => k = rm.cells ∧ n = rm.slots ∧ (∃ v, o = .returned v ∧ Q v t.heap L) ∧ CHr Z EL first.vm first.heap t.vm t.heap) hM hf hl
    (fun m meth c A a Y hp => have hU : Z.Warmed39 A.U.vm := wtrans (s := s.setVm vm0) hZ Y.warmed
      ⟨by show (Cond.and _ .tt).before a A.U = true; rw [Cond.before_and, mv hU wc]; rfl, mv hU wc, mv hU wz, hp.2.2.1, hp.2.2.2⟩)
    (fun m meth c A a g mk Y hp => ⟨hp.1, wtrans (s := s.setVm vm0) hZ Y.warmed, hp.2.1, (CHv.at Y hZ hEL H).1, fun x hx => (CHv.at Y hZ hEL H).safe (hsf x hx).1 (hsf x hx).2⟩) (fun _ _ _ _ _ _ _ _ _ => trivial)
    (fun _ _ _ _ ⟨v, L, h1, h2, h3, h4⟩ => ⟨L, _, _, h4, rfl, rfl, ⟨v, h1, h2⟩, h3⟩)
    (fun m meth c A a g mk v t L k n Y hp _ _ ⟨e1, e2, ⟨v', e3, e4⟩, e5⟩ => by
      cases e3; subst e1 e2
      refine ⟨L, e4, rfl, rfl, rfl, (CHv.at Y hZ hEL H).trans ?_⟩
      rw [← hp.2.1]; exact e5)
theorem callInitH {EL : List (String × Nat)} {sf : List Addr} {vm0 : Vm} {k0 : Nat} (X : Stand p l e R (s.setVm vm0) m args below meth c T locs cells slots) (hx : p.tables.exec = Jvm.exec) (hZ : Z.Warmed39 vm0) (hS : s.Since vm0 k0) (hk : k0 ≤ h.size) (hEL : EW Z a0 EL) (H : CHv Z EL vm0 h) (hsf : ∀ x ∈ sf, x < h.size ∧ Safe Z EL vm0 h x) {own : String} {index : Nat} {y : MethodName} {bytes : ByteArray} {maxL : Nat} {rm : Room} {Q : Option Value → Heap → List Loc → Prop} (hy1 : y.name = "<init>")
    (hown : vm0.findClass own = some m.cls) (w1 : (Cond.methodLink own index y).before a0 Z = true) (w2 : (Cond.instanceMethod y).before a0 Z = true) (w3 : (Cond.initialized y.cls).before a0 Z = true) (w4 : (Cond.code y bytes maxL none).before a0 Z = true)
    (hy : y.cls ≠ "java/lang/invoke/MethodHandle" ∧ y.cls ≠ "java/lang/invoke/VarHandle") {a : Addr} {argsL rest : List Value} (hM : CtrH l Z EL sf y bytes maxL none rm (.ref a :: argsL).toArray h Q []) (eT : T.heap = h)
    (hlen : ∀ sig, parseMethodDescriptor y.desc = some sig → argsL.length = sig.parameters.length) {pc W : Nat} {Ls : Array Slot} {st : List Value} (hst : st = argsL.reverse ++ .ref a :: rest) (hsz : Ls.size = c.maxLocals) (hd : decode c.code pc = .ok (.invokespecial index, 3))
    (hW : (rest.map fun v => v.category).sum ≤ W) (hfr : rm.frames + 1 ≤ R.frames) (hlo : W + (maxL + 11) + rm.locals ≤ R.locals) (hce : cells + rm.cells ≤ R.cells) (hsl : slots + rm.slots ≤ R.slots) :
    ∃ v T' L, Stand p l e R (s.setVm T'.vm) m args below meth c T' (locs ++ L) (cells + rm.cells) (slots + rm.slots) ∧ s.Since T'.vm T'.heap.size ∧ Z.Warmed39 T'.vm ∧ T'.vm.findClass own = some m.cls ∧ CHr Z EL vm0 h T'.vm T'.heap ∧ Q v T'.heap L ∧ ∀ t, Steps p.tables e below (T'.setTop (mkF m (pc + 3) Ls (v.toList ++ rest))) t → Steps p.tables e below (T.setTop (mkF m pc Ls st)) t := by
  obtain ⟨v, _, ⟨T', L', k', n'⟩, -, X', hS', hg', ⟨L, hQ, l1, l2, l3, hC⟩, st'⟩ := X.specialBackS hx hy1 hown (mvT (s := s.setVm vm0) hZ w1) (mvT (s := s.setVm vm0) hZ w2) (mvT (s := s.setVm vm0) hZ w4) hy (backH (W := W) hM hZ w4 w3 hfr hlo hEL H hsf) (g := mkF m pc Ls st) rfl hsz (Steps.refl _) (a := a) (argsL := argsL) (rest := rest) hlen hst (by show 2 * 0 + _ ≤ _; omega) hd (fun _ _ => ⟨rfl, eT, hce, hsl⟩)
  dsimp only [Pt.U, Pt.locs, Pt.cells, Pt.slots] at X' hS' hg' l1 l2 l3 st' hQ hC
  subst l1 l2 l3
  exact ⟨v, T', L, X', hS.trans hS' (Nat.le_trans hk (eT ▸ hg')), State.Warmed39.trans (t := s.setVm vm0) hZ hS'.1, by rw [hS'.1.alike.findClass]; exact hown, hC, hQ, fun t k => st'.trans k⟩
theorem rebase {vm0 : Vm} {k0 : Nat} {own : String} (X : Stand p l e R (s.setVm vm0) m args below meth c T locs cells slots) (hS : s.Since vm0 k0) (eT : T.heap = h) (hk : k0 ≤ h.size) (hZ : Z.Warmed39 vm0) (hown : vm0.findClass own = some m.cls) :
    Stand p l e R (s.setVm T.vm) m args below meth c T locs cells slots ∧ s.Since T.vm h.size ∧ Z.Warmed39 T.vm ∧ T.vm.findClass own = some m.cls :=
  ⟨X.retabled X.warmed.wide, hS.trans (X.warmed.since h.size) hk, wtrans (s := s.setVm vm0) hZ X.warmed, by rw [X.warmed.wide.alike.findClass]; exact hown⟩
theorem fld_int {args : Array Value} {t : Term} {x : Addr} {C n d : String} {k : Int32} (ht : t.eval args s none [] s = some (.ref x)) (hq : (Cond.eq (Term.field t C n d) (Term.int k)).value args s none s [] = some true) : Fld s s.heap x C n d (.int k) :=
  Fld.start ((fld_at (C := C) (n := n) (dd := d) ht).symm.trans (eqv_i (Term.int_eval k) hq))
theorem el_is {args : Array Value} {t : Term} {a : Addr} {cl : Cell} {ty : FieldType} {j k : Int32} (ht : t.eval args s none [] s = some (.ref a)) (A : Arr s s.heap a cl ty) (hq : (Cond.eq (Term.elem t (Term.int j)) (Term.int k)).value args s none s [] = some true) : ¬ (j < 0 ∨ cl.slots.size ≤ j.toNatClampNeg) ∧ cl.slots[j.toNatClampNeg]? = some (.int k) :=
  elem_in (eqv_i (Term.int_eval k) hq) ht (Term.int_eval j) A.1
theorem len_is {args : Array Value} {t : Term} {a : Addr} {cl : Cell} {ty : FieldType} {k : Int32} (ht : t.eval args s none [] s = some (.ref a)) (A : Arr s s.heap a cl ty) (hq : (Cond.eq (Term.length t) (Term.int k)).value args s none s [] = some true) : cl.slots.size < 2 ^ 31 ∧ cl.slots.size.toInt32 = k := by
  have ha := A.fin (Vm.Alike.refl s.vm)
  by_cases hl : cl.slots.size < 2 ^ 31
  · exact ⟨hl, gotT (Cond.eq_ints (len_f ht ha hl) (Term.int_eval k)) hq⟩
  · obtain ⟨v, y, e1, -, -, -⟩ := cmp_v (Or.inl hq)
    simp [Term.eval, ht, ha] at e1
    omega
theorem own_cr (x : Int32) : ¬ (x &&& 255) < 0 ∧ ¬ (255 : Int32) < (x &&& 255) := by
  have q := c_and x 255 (by decide)
  have e0 : (0 : Int32).toInt = 0 := rfl
  have e1 : (255 : Int32).toInt = 255 := rfl
  rw [Int32.lt_iff_toInt_lt, Int32.lt_iff_toInt_lt]; omega
end Own
end Jvm.OwnKit
namespace Jvm.Pilot.@@N@@
open Jvm Jvm.ClassFile Sem Op Lib Jvm.Free Jvm.Stand Jvm.LawKit Jvm.RoadKit Jvm.OwnKit Bundle Jvm.Pilot.@@N@@.Jvm.D
theorem Gv {tb : Tables} {e : Env} {below : List Frame} {Q : State → Outcome → Prop} {A : State} {m : MethodId} {ls : Array Slot} (T : State) (pc : Nat) (S : List Value) (f : ∀ t, Steps tb e below (T.setTop (mkF m pc ls S)) t → Steps tb e below A t) (k : Goes tb e below Q (T.setTop (mkF m pc ls S))) : Goes tb e below Q A := Goes.via f k
abbrev lv_ (x : Int64) : Slot := .val (.long x)
abbrev s_ : Slot := .second
abbrev u_ : Slot := .unset
abbrev Rm (f c s l : Nat) : Room := { frames := f, cells := c, slots := s, locals := l }
theorem W_ {a0 : Array Value} {Z : State} (hw : ∀ d ∈ tables_1, d.before a0 Z = true) (i : Nat) {d : Jvm.Cond} (h : tables_1[i]? = some d) : d.before a0 Z = true := hw _ (List.mem_of_getElem? h)
def own_low : List Int32 := [108, 111, 119]
theorem own_lowr : ∀ c ∈ own_low, ¬ c < 0 ∧ ¬ (255 : Int32) < c := by decide
theorem own_lowl : own_low.length ≤ 4000 := by decide
def own_sub : List Int32 := [115, 117, 98, 115, 116, 97, 110, 116, 105, 97, 108]
theorem own_subr : ∀ c ∈ own_sub, ¬ c < 0 ∧ ¬ (255 : Int32) < c := by decide
theorem own_subl : own_sub.length ≤ 4000 := by decide
def own_hig : List Int32 := [104, 105, 103, 104]
theorem own_higr : ∀ c ∈ own_hig, ¬ c < 0 ∧ ¬ (255 : Int32) < c := by decide
theorem own_higl : own_hig.length ≤ 4000 := by decide
def own_eq (a b : List Int32) : Int32 := if a = b then 1 else 0
theorem own_eq01 (a b : List Int32) : (if own_eq a b = (0 : Int32) then (0 : Int32) else 1) = own_eq a b := by
  unfold own_eq
  by_cases h : a = b
  · rw [if_pos h]; decide
  · rw [if_neg h]; decide
theorem own_eqc (a b : List Int32) : own_eq a b = own_eq b a := by
  unfold own_eq
  by_cases h : a = b
  · rw [if_pos h, if_pos h.symm]
  · rw [if_neg h, if_neg fun z => h z.symm]
theorem own_eq0 {a b : List Int32} (h : ¬ a = b) : own_eq a b = 0 := if_neg h
theorem own_eqn {a b : List Int32} (h : own_eq a b = 0) : ¬ a = b := fun z => by rw [own_eq, if_pos z] at h; exact absurd h (by decide)
theorem own_c16 {c : Int32} (h : ¬ c < 0 ∧ ¬ (255 : Int32) < c) : ¬ c < 0 ∧ ¬ (65535 : Int32) < c := ⟨h.1, fun z => h.2 (by
  have e1 : (255 : Int32).toInt = 255 := rfl
  have e2 : (65535 : Int32).toInt = 65535 := rfl
  rw [Int32.lt_iff_toInt_lt] at *; omega)⟩
theorem own_eqI {p : Program} {l : Launch} {e : Env} {R : Room} {s : State} {args : Array Value} {below : List Frame} {W : Nat} {Z : State} {a0 : Array Value} {h : Heap} (hZ : Z.Warmed39 s.vm) (hw : ∀ d ∈ StrChars.Road.wordsEq, d.before a0 Z = true) {kI : Nat} (wi : (Jvm.Cond.instantiable "java/lang/String" kI).before a0 Z = true)
    {x t : Addr} {kb : ClassId} {cs : List Int32} (E : Exa Z h x "java/lang/String") (V : Fld Z h x "java/lang/String" "value" "[B" (.ref t)) (C : Fld Z h x "java/lang/String" "coder" "B" (.int 0)) (K : Arv Z h t kb .byte (Int32.ofNat cs.length) ((cs.map StrChars.lo8).map Value.int) (.int 0)) (hb : ∀ c ∈ cs, ¬ c < 0 ∧ ¬ (255 : Int32) < c) (l2 : cs.length ≤ 4000)
    {y t' : Addr} {kb' : ClassId} {ds : List Int32} (E' : Exa Z h y "java/lang/String") (V' : Fld Z h y "java/lang/String" "value" "[B" (.ref t')) (C' : Fld Z h y "java/lang/String" "coder" "B" (.int 0)) (K' : Arv Z h t' kb' .byte (Int32.ofNat ds.length) ((ds.map StrChars.lo8).map Value.int) (.int 0)) (hb' : ∀ c ∈ ds, ¬ c < 0 ∧ ¬ (255 : Int32) < c) (l2' : ds.length ≤ 4000)
    {z : Int32} (S : Sta Z h "java/lang/String" "COMPACT_STRINGS" "Z" (.int z)) (hz : ¬ z = 0) (n0 : Nat) (hfr : 2 ≤ R.frames) (hlo : W + 28 ≤ R.locals) :
    BackQ l R p e below s args (⟨"java/lang/String", "equals", "(Ljava/lang/Object;)Z"⟩ : MethodName) W #[.ref x, .ref y] h 0 0 (fun v h' L => v = some (.int (own_eq cs ds)) ∧ Fr n0 L ∧ h' = h) :=
  Back.mono (StrChars.Road.eqW hZ hw wi E V C K (StrChars.Road.codOf rfl (fun c hc => (hb c hc).2)) (fun c hc => own_c16 (hb c hc)) l2 E' V' C' K' (StrChars.Road.codOf rfl (fun c hc => (hb' c hc).2)) (fun c hc => own_c16 (hb' c hc)) l2' S hz hfr hlo) (fun P a hp => hp) (fun P a v B hp hq => by
    obtain ⟨L, ⟨q, rfl, hh⟩, r⟩ := hq
    refine ⟨[], ⟨?_, Fr.nil _, hh⟩, r⟩
    rcases q with ⟨rfl, q⟩ | ⟨rfl, q⟩
    · rw [own_eq, if_pos q]
    · rw [own_eq, if_neg q])
theorem own_rem3 {x : Int32} (h : 0 ≤ x.toInt) : x % 3 = 0 ∨ x % 3 = 1 ∨ x % 3 = 2 := by
  have r := (c_irem x 3 3 rfl).1 h
  have e0 : (0 : Int32).toInt = 0 := rfl
  have e1 : (1 : Int32).toInt = 1 := rfl
  have e2 : (2 : Int32).toInt = 2 := rfl
  simp only [← Int32.toInt_inj, r, e0, e1, e2]
  omega
theorem own_rem4 {x : Int32} (h : 0 ≤ x.toInt) : x % 4 = 0 ∨ x % 4 = 1 ∨ x % 4 = 2 ∨ x % 4 = 3 := by
  have r := (c_irem x 4 4 rfl).1 h
  have e0 : (0 : Int32).toInt = 0 := rfl
  have e1 : (1 : Int32).toInt = 1 := rfl
  have e2 : (2 : Int32).toInt = 2 := rfl
  have e3 : (3 : Int32).toInt = 3 := rfl
  simp only [← Int32.toInt_inj, r, e0, e1, e2, e3]
  omega
theorem own_rem5 {x : Int32} (h : 0 ≤ x.toInt) : x % 5 = 0 ∨ x % 5 = 1 ∨ x % 5 = 2 ∨ x % 5 = 3 ∨ x % 5 = 4 := by
  have r := (c_irem x 5 5 rfl).1 h
  have e0 : (0 : Int32).toInt = 0 := rfl
  have e1 : (1 : Int32).toInt = 1 := rfl
  have e2 : (2 : Int32).toInt = 2 := rfl
  have e3 : (3 : Int32).toInt = 3 := rfl
  have e4 : (4 : Int32).toInt = 4 := rfl
  simp only [← Int32.toInt_inj, r, e0, e1, e2, e3, e4]
  omega
theorem own_rem11 {x : Int32} (h : 0 ≤ x.toInt) : x % 11 = 0 ∨ x % 11 = 1 ∨ x % 11 = 2 ∨ x % 11 = 3 ∨ x % 11 = 4 ∨ x % 11 = 5 ∨ x % 11 = 6 ∨ x % 11 = 7 ∨ x % 11 = 8 ∨ x % 11 = 9 ∨ x % 11 = 10 := by
  have r := (c_irem x 11 11 rfl).1 h
  have e0 : (0 : Int32).toInt = 0 := rfl
  have e1 : (1 : Int32).toInt = 1 := rfl
  have e2 : (2 : Int32).toInt = 2 := rfl
  have e3 : (3 : Int32).toInt = 3 := rfl
  have e4 : (4 : Int32).toInt = 4 := rfl
  have e5 : (5 : Int32).toInt = 5 := rfl
  have e6 : (6 : Int32).toInt = 6 := rfl
  have e7 : (7 : Int32).toInt = 7 := rfl
  have e8 : (8 : Int32).toInt = 8 := rfl
  have e9 : (9 : Int32).toInt = 9 := rfl
  have e10 : (10 : Int32).toInt = 10 := rfl
  simp only [← Int32.toInt_inj, r, e0, e1, e2, e3, e4, e5, e6, e7, e8, e9, e10]
  omega
theorem own_and3 (x : Int32) : x &&& (3 : Int32) = 0 ∨ x &&& (3 : Int32) = 1 ∨ x &&& (3 : Int32) = 2 ∨ x &&& (3 : Int32) = 3 := by
  have q := c_and x 3 (by decide)
  have e0 : (0 : Int32).toInt = 0 := rfl
  have e1 : (1 : Int32).toInt = 1 := rfl
  have e2 : (2 : Int32).toInt = 2 := rfl
  have e3 : (3 : Int32).toInt = 3 := rfl
  rw [e3] at q
  simp only [← Int32.toInt_inj, e0, e1, e2, e3]
  omega
theorem own_rg {x : Int32} (h : ¬ x < (0 : Int32) ∧ ¬ (255 : Int32) < x) : 0 ≤ x.toInt ∧ x.toInt ≤ 255 := by
  have e0 : (0 : Int32).toInt = 0 := rfl
  have e1 : (255 : Int32).toInt = 255 := rfl
  rw [Int32.lt_iff_toInt_lt, Int32.lt_iff_toInt_lt] at h
  omega
theorem own_i2c {x : Int32} (h : ¬ x < (0 : Int32) ∧ ¬ (255 : Int32) < x) : x.toUInt32.toUInt16.toUInt32.toInt32 = x := by
  have r := own_rg h
  have q := c_i2c x
  apply Int32.toInt_inj.mp; omega
theorem own_ch (x : Int32) : (x &&& 255).toUInt32.toUInt16.toUInt32.toInt32 = x &&& 255 := i2c_mask x
theorem own_lr (y : Int64) : ¬ (y &&& (255 : Int64)).toInt32.toUInt32.toUInt16.toUInt32.toInt32 < (0 : Int32) ∧ ¬ (255 : Int32) < (y &&& (255 : Int64)).toInt32.toUInt32.toUInt16.toUInt32.toInt32 := by
  have a := c_maskL y 255 8 (by decide) rfl
  have b := c_l2i (y &&& 255)
  have g := rng32 (y &&& 255).toInt32
  have d := c_i2c (y &&& 255).toInt32
  have e0 : (0 : Int32).toInt = 0 := rfl
  have e1 : (255 : Int32).toInt = 255 := rfl
  rw [Int32.lt_iff_toInt_lt, Int32.lt_iff_toInt_lt]; omega
theorem own_eqY {a b : List Int32} (h : a = b) : ¬ own_eq a b = (0 : Int32) := by rw [own_eq, if_pos h]; decide
theorem eqr {s : State} {args : Array Value} {X F : Term} {y : Addr} (hF : F.eval args s none [] s = some (.ref y)) (h : (Cond.eq X F).value args s none s [] = some true) : X.eval args s none [] s = some (.ref y) := by
  obtain ⟨x, y', e1, e2, k1, k2⟩ := cmp_v (Or.inl h)
  cases hF.symm.trans e2
  have hr : x.isRef = true := k2.2
  exact e1.trans (congrArg some (gotT (eq_R e1 hF hr rfl) h))
theorem elr {s : State} {args : Array Value} {t F : Term} {a y : Addr} {cl : Cell} {ty : FieldType} {j : Int32} (ht : t.eval args s none [] s = some (.ref a)) (A : Arr s s.heap a cl ty) (hF : F.eval args s none [] s = some (.ref y)) (hq : (Cond.eq (Term.elem t (Term.int j)) F).value args s none s [] = some true) : cl.slots[j.toNatClampNeg]? = some (.ref y) :=
  (elem_in (eqr hF hq) ht (Term.int_eval j) A.1).2
theorem own_clone {p : Program} {l : Launch} {e : Env} {R : Room} {s : State} {m : MethodId} {args : Array Value} {below : List Frame} {meth : Method} {c : Code} {T : State} {locs : List Loc} {cells slots : Nat} {Z : State} {a0 : Array Value} {h : Heap} {a : Addr} {ty : FieldType}
    (X : Stand p l e R s m args below meth c T locs cells slots) (hx : p.tables.exec = Jvm.exec) (hZ : Z.Warmed39 s.vm) {own ad : String} {index : Nat} (hown : s.vm.findClass own = some m.cls)
    (w1 : (Cond.methodLink own index ⟨ad, "clone", "()Ljava/lang/Object;"⟩).before a0 Z = true) (w2 : (Cond.sameMethod ad "java/lang/Object" "clone" "()Ljava/lang/Object;").before a0 Z = true) (w3 : (Cond.native ⟨"java/lang/Object", "clone", "()Ljava/lang/Object;"⟩).before a0 Z = true)
    (w4 : (Cond.instanceMethod ⟨"java/lang/Object", "clone", "()Ljava/lang/Object;"⟩).before a0 Z = true) (w5 : (Cond.selects ad ⟨ad, "clone", "()Ljava/lang/Object;"⟩ ⟨"java/lang/Object", "clone", "()Ljava/lang/Object;"⟩).before a0 Z = true) (w6 : (Cond.castable ad "java/lang/Cloneable").before a0 Z = true)
    (eT : T.heap = h) {k : ClassId} {z : Int32} {vs : List Value} {dv : Value} (F : Arv Z h a k ty z vs dv) (E : Exa Z h a ad) {g : JFrame} (hg : g.method = m) (hsize : g.locals.size = c.maxLocals) {rest : List Value} (hst : g.stack = .ref a :: rest) (hd : decode c.code g.pc = .ok (.invokevirtual index, 3))
    (hf : 1 ≤ R.frames) {W cap : Nat} (hW : 2 * g.monitorRoom + (rest.map fun v => v.category).sum ≤ W) (hl : W + 14 ≤ R.locals) (hcap : z.toNatClampNeg ≤ cap) (hc : cells + 1 ≤ R.cells) (hsl : slots + cap ≤ R.slots) :
    ∃ T' h', Stand p l e R s m args below meth c T' locs (cells + 1) (slots + cap) ∧ T'.heap = h' ∧ Ext h h' ∧ Arv Z h' h.size k ty z vs dv ∧ Exa Z h' h.size ad ∧
      ∀ target, Steps p.tables e below (T'.setTop { g with pc := g.pc + 3, stack := .ref h.size :: rest }) target → Steps p.tables e below (T.setTop g) target := by
  obtain ⟨cl, A, q1, S, q3, H, G⟩ := F
  have FC : FitC Z cl := fitC_of A fun i hi v hv => by rw [H i hi] at hv; cases hv; exact G i hi
  obtain ⟨T', h', X', e', ex, A', E', st⟩ := cloneA X hx hZ hown w1 w2 w3 w4 w5 w6 eT A E FC hg hsize hst hd hf hW hl (by rw [S]; exact hcap) hc hsl
  exact ⟨T', h', X', e', ex, ⟨cloneOf cl, A', q1, S, q3, H, G⟩, E', st⟩
theorem own_EW {a0 : Array Value} {Z : State} (hw : ∀ d ∈ tables_1, d.before a0 Z = true) : EW Z a0 consts_1 := (EW.cons (W_ hw 108 rfl) (by decide) EW.nil)
theorem own_pn0 : plainName "java/lang/String" = true := by first | (simp [plainName, overriddenIn]; done) | decide +kernel
theorem d_jdk_42_149_0 : decode jdk_42_method_149_code 0 = .ok (.aload_n 0, 1) := by decide +kernel
theorem d_jdk_42_149_1 : decode jdk_42_method_149_code 1 = .ok (.invokespecial 1, 3) := by decide +kernel
theorem d_jdk_42_149_4 : decode jdk_42_method_149_code 4 = .ok (.iload_n 3, 1) := by decide +kernel
theorem d_jdk_42_149_5 : decode jdk_42_method_149_code 5 = .ok (.ifCond .ne 22, 3) := by decide +kernel
theorem d_jdk_42_149_8 : decode jdk_42_method_149_code 8 = .ok (.aload_n 0, 1) := by decide +kernel
theorem d_jdk_42_149_9 : decode jdk_42_method_149_code 9 = .ok (.ldc 7, 2) := by decide +kernel
theorem own_wS {a0 : Array Value} {Z : State} (hw : ∀ d ∈ tables_1, d.before a0 Z = true) : ∀ a ∈ Bundle.stringAtoms, a.before a0 Z = true := by
  intro d hd
  simp only [Bundle.stringAtoms, List.mem_cons, List.not_mem_nil, or_false] at hd
  rcases hd with rfl | rfl | rfl | rfl | rfl | rfl | rfl
  all_goals first | exact (W_ hw 7 rfl) | exact (W_ hw 6 rfl) | exact (W_ hw 23 rfl) | exact (W_ hw 33 rfl) | exact (W_ hw 31 rfl) | exact (W_ hw 109 rfl) | exact (W_ hw 110 rfl)
theorem d_jdk_42_149_11 : decode jdk_42_method_149_code 11 = .ok (.getfield 9, 3) := by decide +kernel
theorem d_jdk_42_149_14 : decode jdk_42_method_149_code 14 = .ok (.putfield 9, 3) := by decide +kernel
theorem d_jdk_42_149_17 : decode jdk_42_method_149_code 17 = .ok (.aload_n 0, 1) := by decide +kernel
theorem d_jdk_42_149_18 : decode jdk_42_method_149_code 18 = .ok (.ldc 7, 2) := by decide +kernel
theorem d_jdk_42_149_20 : decode jdk_42_method_149_code 20 = .ok (.getfield 15, 3) := by decide +kernel
theorem d_jdk_42_149_23 : decode jdk_42_method_149_code 23 = .ok (.putfield 15, 3) := by decide +kernel
theorem d_jdk_42_149_26 : decode jdk_42_method_149_code 26 = .ok (.return_, 1) := by decide +kernel
theorem own_ef1 (m : MethodId) (x0 : Addr) (x1 : Addr) (x2 : Int32) (x3 : Int32)  : entryFrame m #[(.ref x0), (.ref x1), (.int x2), (.int x3), .null] 6 = mkF m 0 #[rv x0, rv x1, iv x2, iv x3, .val .null, u_] [] := by first | (simp [entryFrame, mkF, argsToLocals, Value.category]; done) | rfl
abbrev own_Q1 (Z : State) (a1 : Addr) (a2 : Addr) (h0 : Heap) (n0 : Nat) (v : Option Value) (h : Heap) (L : List Loc) : Prop := ∃ ve : Addr, ∃ ke : ClassId, v = none ∧ Fr n0 L ∧ Keep h0 h [a1] ∧ Exa Z h a1 "java/lang/String" ∧ Fld Z h a1 "java/lang/String" "value" "[B" (.ref ve) ∧ Fld Z h a1 "java/lang/String" "coder" "B" (.int (0 : Int32)) ∧ Arv Z h ve ke .byte (0 : Int32) [] (.int 0)
set_option maxRecDepth 65536 in
set_option maxHeartbeats 40000000 in
theorem own_m1 (l : Launch) (Z : State) (a0 : Array Value) (hw : ∀ d ∈ tables_1, d.before a0 Z = true) (ws : List Jvm.Cond) (a1 : Addr) (a2 : Addr) (h0 : Heap) (n0 : Nat) (O0 : Old Z n0 h0) (gn_a1 : n0 ≤ a1) (F_1 : Exa Z h0 a1 "java/lang/String") (F_2 : Fld Z h0 a1 "java/lang/String" "value" "[B" .null) (F_3 : Fld Z h0 a1 "java/lang/String" "coder" "B" (.int (0 : Int32))) :
    CtrH l Z consts_1 [a1] (⟨"java/lang/String", "<init>", "([CIILjava/lang/Void;)V"⟩ : MethodName) jdk_42_method_149_code 6 none (Rm 1 4 8 12) #[(.ref a1), (.ref a2), (.int (0 : Int32)), (.int (0 : Int32)), .null] h0 (own_Q1 Z a1 a2 h0 n0) ws := by
  refine MetFree.of_bodySF (plainFor_of_name own_pn0) hisR ?_
  intro p e s m args below meth c s₁ Bd hml0 hP hK
  obtain ⟨rfl, hZ, hh, hC, hsf⟩ := hP
  have hx := Bd.exec
  have hby := Bd.bytes
  have hlk : meth.locks = false := Bd.notSynchronized
  have hml : c.maxLocals = 6 := hml0
  have hown : s.vm.findClass "java/lang/String" = some m.cls := findClass_of_methodNamed Bd.named
  have hnm := (name_of_methodNamed Bd.named Bd.method).1
  have X0 : Stand p l e (Rm 1 4 8 12) (s.setVm s.vm) m #[(.ref a1), (.ref a2), (.int (0 : Int32)), (.int (0 : Int32)), .null] below meth c s₁ [] 0 0 := Stand.of_body Bd
  have hS0 : s.Since s.vm h0.size := (State.WarmedH.refl s).since _
  have hk0 : h0.size ≤ h0.size := Nat.le_refl _
  have hR0 : CHr Z consts_1 s.vm s.heap s.vm h0 := by rw [hh]; exact CHr.refl hC
  have hEL := own_EW hw
  have sf_a1 : Safe Z consts_1 s.vm h0 a1 := hsf _ (List.mem_of_getElem? (i := 0) rfl)
  have e0 : s₁.heap = h0 := by rw [← hh, Bd.state]; rfl
  have N0 := Fr.nil n0
  show Goes p.tables e below (fun t o => ∃ v L, o = .returned v ∧ (own_Q1 Z a1 a2 h0 n0) v t.heap L ∧ EndH Z consts_1 s o t L ((Rm 1 4 8 12)).cells ((Rm 1 4 8 12)).slots) _
  refine Goes.via (B := s₁.setTop (mkF m 0 #[rv a1, rv a2, iv (0 : Int32), iv (0 : Int32), .val .null, u_] [])) (fun t k => castTop (own_ef1 m a1 a2 (0 : Int32) (0 : Int32)) k) ?_
  refine Gv s₁ 1 [(.ref a1)] (fun t k => XS.aloadN X0.here hx rfl (hb hby d_jdk_42_149_0) rfl rfl k) ?_
  obtain ⟨T1, X1, e1, st1⟩ := initO X0 hx hZ hown (W_ hw 15 rfl) (W_ hw 16 rfl) (W_ hw 17 rfl) e0 (g := (mkF m 1 #[rv a1, rv a2, iv (0 : Int32), iv (0 : Int32), .val .null, u_] [(.ref a1)])) rfl (by rw [hml]; rfl) rfl (hb hby d_jdk_42_149_1) (by decide) (W := 0) (by show 2 * 0 + _ ≤ _; exact Nat.le_of_eq rfl) (by decide)
  refine Goes.via (B := T1.setTop (mkF m 4 #[rv a1, rv a2, iv (0 : Int32), iv (0 : Int32), .val .null, u_] [])) (fun t k => st1 _ k) ?_
  refine Gv T1 5 [(.int (0 : Int32))] (fun t k => XS.iloadN X1.here hx rfl (hb hby d_jdk_42_149_4) rfl k) ?_
  refine Gv T1 8 [] (fun t k => XS.ifNo X1.here hx rfl (hb hby d_jdk_42_149_5) rfl (XT.i0_ne_f rfl) k) ?_
  refine Gv T1 9 [(.ref a1)] (fun t k => XS.aloadN X1.here hx rfl (hb hby d_jdk_42_149_8) rfl rfl k) ?_
  obtain ⟨b2, T2, h2, k2, v2, kb2, X2, e2, E2, hS2, hk2, hZ2, hown2, A2, C2, F2, V2, la2, lb2, hC2, -, ns2, st2⟩ := ldcCH X1 hx hZ hown (W_ hw 108 rfl) (own_wS hw) e1 hS0 hk0 hEL (List.mem_of_getElem? (i := 0) rfl) hR0.1 (vs := []) (z := (0 : Int32)) ⟨by decide, by decide⟩ (by decide) (by decide) (g := (mkF m 9 #[rv a1, rv a2, iv (0 : Int32), iv (0 : Int32), .val .null, u_] [(.ref a1)])) rfl (hb hby d_jdk_42_149_9) (n := 0) (by decide) (by decide) (by decide) (by decide)
  have hq3 := hC2
  have hR3 := CHr.trans hR0 hq3
  refine Goes.via (B := T2.setTop (mkF m 11 #[rv a1, rv a2, iv (0 : Int32), iv (0 : Int32), .val .null, u_] [(.ref b2), (.ref a1)])) (fun t k => st2 _ k) ?_
  have na4 := (ns2 _ (CHr.safe hq3 F_1.lt sf_a1)).2
  obtain ⟨T5, X5, e5, st5⟩ := getF X2 hx hZ2 hown2 (host := "") (Or.inl (W_ hw 32 rfl)) Via.refl e2 F2 (g := (mkF m 11 #[rv a1, rv a2, iv (0 : Int32), iv (0 : Int32), .val .null, u_] [(.ref b2), (.ref a1)])) rfl rfl (hb hby d_jdk_42_149_11)
  refine Goes.via (B := T5.setTop (mkF m 14 #[rv a1, rv a2, iv (0 : Int32), iv (0 : Int32), .val .null, u_] [(.ref v2), (.ref a1)])) (fun t k => st5 _ k) ?_
  obtain ⟨T6, h6, X6, e6, W6, st6⟩ := putF X5 hx hZ2 hown2 (host := "") (Or.inl (W_ hw 32 rfl)) Via.refl e5 (F_2.ext E2) (F_1.ext E2) (Or.inr ⟨(W_ hw 33 rfl), rfl, hnm⟩) (W_ hw 6 rfl) (ty := (.array .byte)) (by decide) rfl rfl (g := (mkF m 14 #[rv a1, rv a2, iv (0 : Int32), iv (0 : Int32), .val .null, u_] [(.ref v2), (.ref a1)])) rfl rfl (hb hby d_jdk_42_149_14)
  have hq7 := CHr.wr W6 (CHr.safe hq3 F_1.lt sf_a1) hR3.1
  have hR7 := CHr.trans hR3 hq7
  have N6 := Fr.snoc X6 N0 gn_a1
  refine Goes.via (B := T6.setTop (mkF m 17 #[rv a1, rv a2, iv (0 : Int32), iv (0 : Int32), .val .null, u_] [])) (fun t k => st6 _ k) ?_
  refine Gv T6 18 [(.ref a1)] (fun t k => XS.aloadN X6.here hx rfl (hb hby d_jdk_42_149_17) rfl rfl k) ?_
  obtain ⟨b8, T8, h8, k8, v8, kb8, X8, e8, E8, hS8, hk8, hZ8, hown8, A8, C8, F8, V8, la8, lb8, hC8, -, ns8, st8⟩ := ldcCH X6 hx hZ2 hown2 (W_ hw 108 rfl) (own_wS hw) e6 hS2 (Nat.le_trans hk2 (Nat.le_of_eq (Wr.size W6).symm)) hEL (List.mem_of_getElem? (i := 0) rfl) hR7.1 (vs := []) (z := (0 : Int32)) ⟨by decide, by decide⟩ (by decide) (by decide) (g := (mkF m 18 #[rv a1, rv a2, iv (0 : Int32), iv (0 : Int32), .val .null, u_] [(.ref a1)])) rfl (hb hby d_jdk_42_149_18) (n := 0) (by decide) (by decide) (by decide) (by decide)
  have hq9 := hC8
  have hR9 := CHr.trans hR7 hq9
  refine Goes.via (B := T8.setTop (mkF m 20 #[rv a1, rv a2, iv (0 : Int32), iv (0 : Int32), .val .null, u_] [(.ref b8), (.ref a1)])) (fun t k => st8 _ k) ?_
  obtain ⟨T10, X10, e10, st10⟩ := getF X8 hx hZ8 hown8 (host := "") (Or.inl (W_ hw 30 rfl)) Via.refl e8 C8 (g := (mkF m 20 #[rv a1, rv a2, iv (0 : Int32), iv (0 : Int32), .val .null, u_] [(.ref b8), (.ref a1)])) rfl rfl (hb hby d_jdk_42_149_20)
  refine Goes.via (B := T10.setTop (mkF m 23 #[rv a1, rv a2, iv (0 : Int32), iv (0 : Int32), .val .null, u_] [(.int (0 : Int32)), (.ref a1)])) (fun t k => st10 _ k) ?_
  have c11 : Fld Z h8 a1 "java/lang/String" "coder" "B" (.int (0 : Int32)) := ((Fld.other W6 (F_3.ext E2) (Or.inr (slot_ne (Or.inr (W_ hw 31 rfl)) (Or.inr (W_ hw 33 rfl)) (by decide) (t := .byte) (t' := (.array .byte)) (by decide) (by decide)))).ext E8)
  obtain ⟨T12, h12, X12, e12, W12, st12⟩ := putFN X10 hx hZ8 hown8 (W_ hw 30 rfl) Via.refl e10 c11 ((Exa.wr W6 (F_1.ext E2)).ext E8) (Or.inr ⟨(W_ hw 31 rfl), rfl, hnm⟩) (W_ hw 6 rfl) (ty := .byte) (v' := (.int (0 : Int32))) (by decide) rfl rfl (g := (mkF m 23 #[rv a1, rv a2, iv (0 : Int32), iv (0 : Int32), .val .null, u_] [(.int (0 : Int32)), (.ref a1)])) rfl rfl (hb hby d_jdk_42_149_23)
  have hq13 := CHr.wr W12 (CHr.safe hq9 (Nat.le_trans (Nat.le_trans F_1.lt E2.1) (Nat.le_of_eq (Wr.size W6).symm)) (CHr.safe hq7 (Nat.le_trans F_1.lt E2.1) (CHr.safe hq3 F_1.lt sf_a1))) hR9.1
  have hR13 := CHr.trans hR9 hq13
  have N12 := Fr.snoc X12 N6 gn_a1
  refine Goes.via (B := T12.setTop (mkF m 26 #[rv a1, rv a2, iv (0 : Int32), iv (0 : Int32), .val .null, u_] [])) (fun t k => st12 _ k) ?_
  have c14 : Fld Z h12 a1 "java/lang/String" "value" "[B" (.ref v2) := (Fld.other W12 ((Fld.same W6 (F_2.ext E2)).ext E8) (Or.inr (slot_ne (Or.inr (W_ hw 33 rfl)) (Or.inr (W_ hw 31 rfl)) (by decide) (t := (.array .byte)) (t' := .byte) (by decide) (by decide))))
  have c15 : Arv Z h12 v2 kb2 .byte (0 : Int32) [] (.int 0) := (Arv.other ((Arv.other V2 W6 (Ne.symm na4)).ext E8) W12 (Ne.symm na4))
  exact fin0 (Q := (own_Q1 Z a1 a2 h0 n0)) (F := EndH Z consts_1) (C := ((Rm 1 4 8 12)).cells) (S := ((Rm 1 4 8 12)).slots) X12 hx Bd.returns (hb hby d_jdk_42_149_26) e12 ⟨v2, kb2, rfl, N12, (((((Keep.refl h0 [a1]).ext E2).wr W6 (Or.inl (List.mem_of_getElem? (i := 0) rfl))).ext E8).wr W12 (Or.inl (List.mem_of_getElem? (i := 0) rfl))), (Exa.wr W12 ((Exa.wr W6 (F_1.ext E2)).ext E8)), c14, (Fld.same W12 c11), c15⟩ (lvH X12 hlk hS8 e12 (Nat.le_trans hk8 (Nat.le_of_eq (Wr.size W12).symm)) hZ8 hEL hR13 (by decide) (by decide))
theorem d_jdk_42_3_0 : decode jdk_42_method_3_code 0 = .ok (.aload_n 0, 1) := by decide +kernel
theorem d_jdk_42_3_1 : decode jdk_42_method_3_code 1 = .ok (.aload_n 1, 1) := by decide +kernel
theorem d_jdk_42_3_2 : decode jdk_42_method_3_code 2 = .ok (.iconst 0, 1) := by decide +kernel
theorem d_jdk_42_3_3 : decode jdk_42_method_3_code 3 = .ok (.aload_n 1, 1) := by decide +kernel
theorem d_jdk_42_3_4 : decode jdk_42_method_3_code 4 = .ok (.arraylength, 1) := by decide +kernel
theorem d_jdk_42_3_5 : decode jdk_42_method_3_code 5 = .ok (.aconst_null, 1) := by decide +kernel
theorem d_jdk_42_3_6 : decode jdk_42_method_3_code 6 = .ok (.invokespecial 27, 3) := by decide +kernel
theorem own_pd0 : parseMethodDescriptor "([CIILjava/lang/Void;)V" = some ⟨[(.array .char), .int, .int, (.object "java/lang/Void")], none⟩ := by decide +kernel
theorem d_jdk_42_3_9 : decode jdk_42_method_3_code 9 = .ok (.return_, 1) := by decide +kernel
theorem own_ef2 (m : MethodId) (x0 : Addr) (x1 : Addr)  : entryFrame m #[(.ref x0), (.ref x1)] 2 = mkF m 0 #[rv x0, rv x1] [] := by first | (simp [entryFrame, mkF, argsToLocals, Value.category]; done) | rfl
abbrev own_Q2 (Z : State) (a1 : Addr) (a2 : Addr) (kc : ClassId) (h0 : Heap) (n0 : Nat) (v : Option Value) (h : Heap) (L : List Loc) : Prop := ∃ ve : Addr, ∃ ke : ClassId, v = none ∧ Fr n0 L ∧ Keep h0 h [a1] ∧ Exa Z h a1 "java/lang/String" ∧ Fld Z h a1 "java/lang/String" "value" "[B" (.ref ve) ∧ Fld Z h a1 "java/lang/String" "coder" "B" (.int (0 : Int32)) ∧ Arv Z h ve ke .byte (0 : Int32) [] (.int 0)
set_option maxRecDepth 65536 in
set_option maxHeartbeats 40000000 in
theorem own_m2 (l : Launch) (Z : State) (a0 : Array Value) (hw : ∀ d ∈ tables_1, d.before a0 Z = true) (ws : List Jvm.Cond) (a1 : Addr) (a2 : Addr) (kc : ClassId) (h0 : Heap) (n0 : Nat) (O0 : Old Z n0 h0) (gn_a1 : n0 ≤ a1) (F_1 : Exa Z h0 a1 "java/lang/String") (F_2 : Fld Z h0 a1 "java/lang/String" "value" "[B" .null) (F_3 : Fld Z h0 a1 "java/lang/String" "coder" "B" (.int (0 : Int32))) (F_4 : Arv Z h0 a2 kc .char (0 : Int32) [] (.int (0 : Int32))) :
    CtrH l Z consts_1 [a1] (⟨"java/lang/String", "<init>", "([C)V"⟩ : MethodName) jdk_42_method_3_code 2 none (Rm 2 4 8 29) #[(.ref a1), (.ref a2)] h0 (own_Q2 Z a1 a2 kc h0 n0) ws := by
  refine MetFree.of_bodySF (plainFor_of_name own_pn0) hisR ?_
  intro p e s m args below meth c s₁ Bd hml0 hP hK
  obtain ⟨rfl, hZ, hh, hC, hsf⟩ := hP
  have hx := Bd.exec
  have hby := Bd.bytes
  have hlk : meth.locks = false := Bd.notSynchronized
  have hml : c.maxLocals = 2 := hml0
  have hown : s.vm.findClass "java/lang/String" = some m.cls := findClass_of_methodNamed Bd.named
  have hnm := (name_of_methodNamed Bd.named Bd.method).1
  have X0 : Stand p l e (Rm 2 4 8 29) (s.setVm s.vm) m #[(.ref a1), (.ref a2)] below meth c s₁ [] 0 0 := Stand.of_body Bd
  have hS0 : s.Since s.vm h0.size := (State.WarmedH.refl s).since _
  have hk0 : h0.size ≤ h0.size := Nat.le_refl _
  have hR0 : CHr Z consts_1 s.vm s.heap s.vm h0 := by rw [hh]; exact CHr.refl hC
  have hEL := own_EW hw
  have sf_a1 : Safe Z consts_1 s.vm h0 a1 := hsf _ (List.mem_of_getElem? (i := 0) rfl)
  have e0 : s₁.heap = h0 := by rw [← hh, Bd.state]; rfl
  have N0 := Fr.nil n0
  show Goes p.tables e below (fun t o => ∃ v L, o = .returned v ∧ (own_Q2 Z a1 a2 kc h0 n0) v t.heap L ∧ EndH Z consts_1 s o t L ((Rm 2 4 8 29)).cells ((Rm 2 4 8 29)).slots) _
  refine Goes.via (B := s₁.setTop (mkF m 0 #[rv a1, rv a2] [])) (fun t k => castTop (own_ef2 m a1 a2) k) ?_
  refine Gv s₁ 1 [(.ref a1)] (fun t k => XS.aloadN X0.here hx rfl (hb hby d_jdk_42_3_0) rfl rfl k) ?_
  refine Gv s₁ 2 [(.ref a2), (.ref a1)] (fun t k => XS.aloadN X0.here hx rfl (hb hby d_jdk_42_3_1) rfl rfl k) ?_
  refine Gv s₁ 3 [(.int (0 : Int32)), (.ref a2), (.ref a1)] (fun t k => XS.iconst X0.here hx rfl (hb hby d_jdk_42_3_2) k) ?_
  refine Gv s₁ 4 [(.ref a2), (.int (0 : Int32)), (.ref a2), (.ref a1)] (fun t k => XS.aloadN X0.here hx rfl (hb hby d_jdk_42_3_3) rfl rfl k) ?_
  obtain ⟨cl1, Ar1, q1, S1, N1, H1, G1⟩ := id F_4
  refine Goes.via (B := s₁.setTop (mkF m 5 #[rv a1, rv a2] [(.int (0 : Int32)), (.int (0 : Int32)), (.ref a2), (.ref a1)])) (fun t k => X0.arraylength hx (by rw [e0]; exact Ar1.1) (State.isArrayOf_alike hZ.alike Ar1.2.1) (g := (mkF m 4 #[rv a1, rv a2] [(.ref a2), (.int (0 : Int32)), (.ref a2), (.ref a1)])) rfl rfl (hb hby d_jdk_42_3_4) t (by rw [(len_of S1 N1)]; exact k)) ?_
  refine Gv s₁ 6 [.null, (.int (0 : Int32)), (.int (0 : Int32)), (.ref a2), (.ref a1)] (fun t k => XS.aconstNull X0.here hx rfl (hb hby d_jdk_42_3_5) k) ?_
  obtain ⟨_, T2, L2, X2, hS2, hZ2, hown2, hC2, ⟨ve2, ke2, rfl, M2, K2, f2_0, f2_1, f2_2, f2_3⟩, st2⟩ := callInitH X0 hx hZ hS0 hk0 hEL hR0.1 (sf := [a1]) (allS ⟨F_1.lt, sf_a1⟩ all0) rfl hown (W_ hw 11 rfl) (W_ hw 12 rfl) (W_ hw 7 rfl) (W_ hw 14 rfl) (by decide) (argsL := [(.ref a2), (.int (0 : Int32)), (.int (0 : Int32)), .null]) (rest := []) (own_m1 l Z a0 hw [] a1 a2 h0 n0 O0 gn_a1 F_1 F_2 F_3) e0 (lenOf own_pd0 rfl) (pc := 6) (Ls := #[rv a1, rv a2]) (st := [.null, (.int (0 : Int32)), (.int (0 : Int32)), (.ref a2), (.ref a1)]) rfl (by rw [hml]; rfl) (hb hby d_jdk_42_3_6) (W := 0) (Nat.le_of_eq rfl) (by decide) (by decide) (by decide) (by decide)
  have N2 := Fr.app N0 M2
  have hq3 := hC2
  have hR3 := CHr.trans hR0 hq3
  refine Goes.via (B := T2.setTop (mkF m 9 #[rv a1, rv a2] [])) (fun t k => st2 _ k) ?_
  exact fin0 (Q := (own_Q2 Z a1 a2 kc h0 n0)) (F := EndH Z consts_1) (C := ((Rm 2 4 8 29)).cells) (S := ((Rm 2 4 8 29)).slots) X2 hx Bd.returns (hb hby d_jdk_42_3_9) rfl ⟨ve2, ke2, rfl, N2, ((Keep.refl h0 [a1]).trans K2 (allS (Or.inl (List.mem_of_getElem? (i := 0) rfl)) all0)), f2_0, f2_1, f2_2, f2_3⟩ (lvH X2 hlk hS2 rfl (Nat.le_refl _) hZ2 hEL hR3 (by decide) (by decide))
theorem own_pn1 : plainName "com/example/castellan/castellan/config/AssuranceLevel" = true := by first | (simp [plainName, overriddenIn]; done) | decide +kernel
theorem d_prog_1_1_0 : decode prog_1_method_1_code 0 = .ok (.getstatic 13, 3) := by decide +kernel
theorem d_prog_1_1_3 : decode prog_1_method_1_code 3 = .ok (.invokevirtual 17, 3) := by decide +kernel
theorem d_prog_1_1_6 : decode prog_1_method_1_code 6 = .ok (.checkcast 18, 3) := by decide +kernel
theorem d_prog_1_1_9 : decode prog_1_method_1_code 9 = .ok (.areturn, 1) := by decide +kernel
theorem own_ef3 (m : MethodId)   : entryFrame m #[] 0 = mkF m 0 #[] [] := by first | (simp [entryFrame, mkF, argsToLocals, Value.category]; done) | rfl
abbrev own_Q3 (Z : State) (va : Addr) (kv : ClassId) (aL : Addr) (aS : Addr) (aH : Addr) (h0 : Heap) (n0 : Nat) (v : Option Value) (h : Heap) (L : List Loc) : Prop := ∃ r : Addr, v = some (.ref r) ∧ Fr n0 L ∧ Keep h0 h [] ∧ h0.size ≤ r ∧ Arv Z h r kv (.object "com/example/castellan/castellan/config/AssuranceLevel") (3 : Int32) [(.ref aL), (.ref aS), (.ref aH)] .null
set_option maxRecDepth 65536 in
set_option maxHeartbeats 40000000 in
theorem own_m3 (l : Launch) (Z : State) (a0 : Array Value) (hw : ∀ d ∈ tables_1, d.before a0 Z = true) (ws : List Jvm.Cond) (va : Addr) (kv : ClassId) (aL : Addr) (aS : Addr) (aH : Addr) (h0 : Heap) (n0 : Nat) (O0 : Old Z n0 h0) (O_1 : Sta Z Z.heap "com/example/castellan/castellan/config/AssuranceLevel" "$VALUES" "[Lcom/example/castellan/castellan/config/AssuranceLevel;" (.ref va)) (O_2 : Exa Z Z.heap va "[Lcom/example/castellan/castellan/config/AssuranceLevel;") (O_3 : Arv Z Z.heap va kv (.object "com/example/castellan/castellan/config/AssuranceLevel") (3 : Int32) [(.ref aL), (.ref aS), (.ref aH)] .null) :
    Ctr l Z (⟨"com/example/castellan/castellan/config/AssuranceLevel", "values", "()[Lcom/example/castellan/castellan/config/AssuranceLevel;"⟩ : MethodName) prog_1_method_1_code 0 (some (.array (.object "com/example/castellan/castellan/config/AssuranceLevel"))) (Rm 1 1 3 14) #[] h0 (own_Q3 Z va kv aL aS aH h0 n0) ws := by
  refine MetFree.of_bodySF (plainFor_of_name own_pn1) hisR ?_
  intro p e s m args below meth c s₁ Bd hml0 hP hK
  obtain ⟨rfl, hZ, hh⟩ := hP
  have hx := Bd.exec
  have hby := Bd.bytes
  have hlk : meth.locks = false := Bd.notSynchronized
  have hml : c.maxLocals = 0 := hml0
  have hown : s.vm.findClass "com/example/castellan/castellan/config/AssuranceLevel" = some m.cls := findClass_of_methodNamed Bd.named
  have hnm := (name_of_methodNamed Bd.named Bd.method).1
  have X0 : Stand p l e (Rm 1 1 3 14) s m #[] below meth c s₁ [] 0 0 := Stand.of_body Bd
  have e0 : s₁.heap = h0 := by rw [← hh, Bd.state]; rfl
  have N0 := Fr.nil n0
  show Goes p.tables e below (fun t o => ∃ v L, o = .returned v ∧ (own_Q3 Z va kv aL aS aH h0 n0) v t.heap L ∧ FrameEnd s o t L ((Rm 1 1 3 14)).cells ((Rm 1 1 3 14)).slots) _
  refine Goes.via (B := s₁.setTop (mkF m 0 #[] [])) (fun t k => castTop (own_ef3 m ) k) ?_
  obtain ⟨T1, X1, e1, st1⟩ := getS2 X0 hx hZ hown (host := "") (Or.inl (W_ hw 41 rfl)) Via.refl e0 (Sta.ext O0.2 O_1) (g := (mkF m 0 #[] [])) rfl (hb hby d_prog_1_1_0)
  refine Goes.via (B := T1.setTop (mkF m 3 #[] [(.ref va)])) (fun t k => st1 _ k) ?_
  obtain ⟨T2, h2, X2, e2, E2, V2, A2, st2⟩ := own_clone X1 hx hZ hown (W_ hw 43 rfl) (W_ hw 44 rfl) (W_ hw 48 rfl) (W_ hw 46 rfl) (W_ hw 47 rfl) (W_ hw 49 rfl) e1 (O_3.ext O0.2) (O_2.ext O0.2) (g := (mkF m 3 #[] [(.ref va)])) rfl (by rw [hml]; rfl) rfl (hb hby d_prog_1_1_3) (by decide) (W := 0) (by show 2 * 0 + _ ≤ _; exact Nat.le_of_eq rfl) (by decide) (cap := 3) (by decide) (by decide) (by decide)
  obtain ⟨b2, g2⟩ : ∃ z, z = h0.size := ⟨_, rfl⟩
  rw [← g2] at V2 A2 st2
  have gn2 : n0 ≤ b2 := Nat.le_trans (old_le O0) (Nat.le_of_eq g2.symm)
  have gs2 : h0.size ≤ b2 := Nat.le_trans (Keep.refl h0 []).1 (Nat.le_of_eq g2.symm)
  refine Goes.via (B := T2.setTop (mkF m 6 #[] [(.ref b2)])) (fun t k => st2 _ k) ?_
  obtain ⟨T3, X3, e3, st3⟩ := castY X2 hx hZ hown (W_ hw 54 rfl) e2 (Ins.self A2) (g := (mkF m 6 #[] [(.ref b2)])) rfl rfl (hb hby d_prog_1_1_6)
  refine Goes.via (B := T3.setTop (mkF m 9 #[] [(.ref b2)])) (fun t k => st3 _ k) ?_
  exact finA (Q := (own_Q3 Z va kv aL aS aH h0 n0)) (F := FrameEnd) (C := ((Rm 1 1 3 14)).cells) (S := ((Rm 1 1 3 14)).slots) X3 hx Bd.returns rfl rfl rfl (hb hby d_prog_1_1_9) e3 ⟨b2, rfl, N0, ((Keep.refl h0 []).ext E2), gs2, V2⟩ (lvN X3 hlk (by decide) (by decide))
theorem own_pn2 : plainName "java/util/Objects" = true := by first | (simp [plainName, overriddenIn]; done) | decide +kernel
theorem d_jdk_31_10_0 : decode jdk_31_method_10_code 0 = .ok (.aload_n 0, 1) := by decide +kernel
theorem d_jdk_31_10_1 : decode jdk_31_method_10_code 1 = .ok (.ifnonnull 11, 3) := by decide +kernel
theorem d_jdk_31_10_12 : decode jdk_31_method_10_code 12 = .ok (.aload_n 0, 1) := by decide +kernel
theorem d_jdk_31_10_13 : decode jdk_31_method_10_code 13 = .ok (.areturn, 1) := by decide +kernel
theorem own_ef4 (m : MethodId) (x0 : Addr)  : entryFrame m #[(.ref x0)] 1 = mkF m 0 #[rv x0] [] := by first | (simp [entryFrame, mkF, argsToLocals, Value.category]; done) | rfl
abbrev own_Q4 (Z : State) (a1 : Addr) (h0 : Heap) (n0 : Nat) (v : Option Value) (h : Heap) (L : List Loc) : Prop := v = some (.ref a1) ∧ Fr n0 L ∧ h = h0
set_option maxRecDepth 65536 in
set_option maxHeartbeats 40000000 in
theorem own_m4 (l : Launch) (Z : State) (a0 : Array Value) (hw : ∀ d ∈ tables_1, d.before a0 Z = true) (ws : List Jvm.Cond) (a1 : Addr) (h0 : Heap) (n0 : Nat) (O0 : Old Z n0 h0) :
    Ctr l Z (⟨"java/util/Objects", "requireNonNull", "(Ljava/lang/Object;)Ljava/lang/Object;"⟩ : MethodName) jdk_31_method_10_code 1 (some (.object "java/lang/Object")) (Rm 0 0 0 0) #[(.ref a1)] h0 (own_Q4 Z a1 h0 n0) ws := by
  refine MetFree.of_bodySF (plainFor_of_name own_pn2) hisR ?_
  intro p e s m args below meth c s₁ Bd hml0 hP hK
  obtain ⟨rfl, hZ, hh⟩ := hP
  have hx := Bd.exec
  have hby := Bd.bytes
  have hlk : meth.locks = false := Bd.notSynchronized
  have hml : c.maxLocals = 1 := hml0
  have hown : s.vm.findClass "java/util/Objects" = some m.cls := findClass_of_methodNamed Bd.named
  have hnm := (name_of_methodNamed Bd.named Bd.method).1
  have X0 : Stand p l e (Rm 0 0 0 0) s m #[(.ref a1)] below meth c s₁ [] 0 0 := Stand.of_body Bd
  have e0 : s₁.heap = h0 := by rw [← hh, Bd.state]; rfl
  have N0 := Fr.nil n0
  show Goes p.tables e below (fun t o => ∃ v L, o = .returned v ∧ (own_Q4 Z a1 h0 n0) v t.heap L ∧ FrameEnd s o t L ((Rm 0 0 0 0)).cells ((Rm 0 0 0 0)).slots) _
  refine Goes.via (B := s₁.setTop (mkF m 0 #[rv a1] [])) (fun t k => castTop (own_ef4 m a1) k) ?_
  refine Gv s₁ 1 [(.ref a1)] (fun t k => XS.aloadN X0.here hx rfl (hb hby d_jdk_31_10_0) rfl rfl k) ?_
  refine Gv s₁ 12 [] (fun t k => XS.ifnonnullYes X0.here hx rfl (pc0 := 1) (pc' := 12) rfl (hb hby d_jdk_31_10_1) rfl (by decide) (by decide) k) ?_
  refine Gv s₁ 13 [(.ref a1)] (fun t k => XS.aloadN X0.here hx rfl (hb hby d_jdk_31_10_12) rfl rfl k) ?_
  exact finA (Q := (own_Q4 Z a1 h0 n0)) (F := FrameEnd) (C := ((Rm 0 0 0 0)).cells) (S := ((Rm 0 0 0 0)).slots) X0 hx Bd.returns rfl rfl rfl (hb hby d_jdk_31_10_13) e0 ⟨rfl, N0, rfl⟩ (lvN X0 hlk (by decide) (by decide))
theorem own_pn3 : plainName "java/util/Optional" = true := by first | (simp [plainName, overriddenIn]; done) | decide +kernel
theorem d_jdk_32_2_0 : decode jdk_32_method_2_code 0 = .ok (.aload_n 0, 1) := by decide +kernel
theorem d_jdk_32_2_1 : decode jdk_32_method_2_code 1 = .ok (.invokespecial 7, 3) := by decide +kernel
theorem d_jdk_32_2_4 : decode jdk_32_method_2_code 4 = .ok (.aload_n 0, 1) := by decide +kernel
theorem d_jdk_32_2_5 : decode jdk_32_method_2_code 5 = .ok (.aload_n 1, 1) := by decide +kernel
theorem d_jdk_32_2_6 : decode jdk_32_method_2_code 6 = .ok (.putfield 13, 3) := by decide +kernel
theorem d_jdk_32_2_9 : decode jdk_32_method_2_code 9 = .ok (.return_, 1) := by decide +kernel
theorem own_ef5 (m : MethodId) (x0 : Addr) (x1 : Addr)  : entryFrame m #[(.ref x0), (.ref x1)] 2 = mkF m 0 #[rv x0, rv x1] [] := by first | (simp [entryFrame, mkF, argsToLocals, Value.category]; done) | rfl
abbrev own_Q5 (Z : State) (a1 : Addr) (a2 : Addr) (h0 : Heap) (n0 : Nat) (v : Option Value) (h : Heap) (L : List Loc) : Prop := v = none ∧ Fr n0 L ∧ Keep h0 h [a1] ∧ Exa Z h a1 "java/util/Optional" ∧ Fld Z h a1 "java/util/Optional" "value" "Ljava/lang/Object;" (.ref a2)
set_option maxRecDepth 65536 in
set_option maxHeartbeats 40000000 in
theorem own_m5 (l : Launch) (Z : State) (a0 : Array Value) (hw : ∀ d ∈ tables_1, d.before a0 Z = true) (ws : List Jvm.Cond) (a1 : Addr) (a2 : Addr) (h0 : Heap) (n0 : Nat) (O0 : Old Z n0 h0) (gn_a1 : n0 ≤ a1) (F_1 : Exa Z h0 a1 "java/util/Optional") (F_2 : Fld Z h0 a1 "java/util/Optional" "value" "Ljava/lang/Object;" .null) :
    Ctr l Z (⟨"java/util/Optional", "<init>", "(Ljava/lang/Object;)V"⟩ : MethodName) jdk_32_method_2_code 2 none (Rm 1 0 0 12) #[(.ref a1), (.ref a2)] h0 (own_Q5 Z a1 a2 h0 n0) ws := by
  refine MetFree.of_bodySF (plainFor_of_name own_pn3) hisR ?_
  intro p e s m args below meth c s₁ Bd hml0 hP hK
  obtain ⟨rfl, hZ, hh⟩ := hP
  have hx := Bd.exec
  have hby := Bd.bytes
  have hlk : meth.locks = false := Bd.notSynchronized
  have hml : c.maxLocals = 2 := hml0
  have hown : s.vm.findClass "java/util/Optional" = some m.cls := findClass_of_methodNamed Bd.named
  have hnm := (name_of_methodNamed Bd.named Bd.method).1
  have X0 : Stand p l e (Rm 1 0 0 12) s m #[(.ref a1), (.ref a2)] below meth c s₁ [] 0 0 := Stand.of_body Bd
  have e0 : s₁.heap = h0 := by rw [← hh, Bd.state]; rfl
  have N0 := Fr.nil n0
  show Goes p.tables e below (fun t o => ∃ v L, o = .returned v ∧ (own_Q5 Z a1 a2 h0 n0) v t.heap L ∧ FrameEnd s o t L ((Rm 1 0 0 12)).cells ((Rm 1 0 0 12)).slots) _
  refine Goes.via (B := s₁.setTop (mkF m 0 #[rv a1, rv a2] [])) (fun t k => castTop (own_ef5 m a1 a2) k) ?_
  refine Gv s₁ 1 [(.ref a1)] (fun t k => XS.aloadN X0.here hx rfl (hb hby d_jdk_32_2_0) rfl rfl k) ?_
  obtain ⟨T1, X1, e1, st1⟩ := initO X0 hx hZ hown (W_ hw 82 rfl) (W_ hw 16 rfl) (W_ hw 17 rfl) e0 (g := (mkF m 1 #[rv a1, rv a2] [(.ref a1)])) rfl (by rw [hml]; rfl) rfl (hb hby d_jdk_32_2_1) (by decide) (W := 0) (by show 2 * 0 + _ ≤ _; exact Nat.le_of_eq rfl) (by decide)
  refine Goes.via (B := T1.setTop (mkF m 4 #[rv a1, rv a2] [])) (fun t k => st1 _ k) ?_
  refine Gv T1 5 [(.ref a1)] (fun t k => XS.aloadN X1.here hx rfl (hb hby d_jdk_32_2_4) rfl rfl k) ?_
  refine Gv T1 6 [(.ref a2), (.ref a1)] (fun t k => XS.aloadN X1.here hx rfl (hb hby d_jdk_32_2_5) rfl rfl k) ?_
  obtain ⟨T2, h2, X2, e2, W2, st2⟩ := putF X1 hx hZ hown (host := "") (Or.inl (W_ hw 83 rfl)) Via.refl e1 F_2 F_1 (Or.inr ⟨(W_ hw 84 rfl), rfl, hnm⟩) (W_ hw 73 rfl) (ty := (.object "java/lang/Object")) (by decide) rfl rfl (g := (mkF m 6 #[rv a1, rv a2] [(.ref a2), (.ref a1)])) rfl rfl (hb hby d_jdk_32_2_6)
  have N2 := Fr.snoc X2 N0 gn_a1
  refine Goes.via (B := T2.setTop (mkF m 9 #[rv a1, rv a2] [])) (fun t k => st2 _ k) ?_
  exact fin0 (Q := (own_Q5 Z a1 a2 h0 n0)) (F := FrameEnd) (C := ((Rm 1 0 0 12)).cells) (S := ((Rm 1 0 0 12)).slots) X2 hx Bd.returns (hb hby d_jdk_32_2_9) e2 ⟨rfl, N2, ((Keep.refl h0 [a1]).wr W2 (Or.inl (List.mem_of_getElem? (i := 0) rfl))), (Exa.wr W2 F_1), (Fld.same W2 F_2)⟩ (lvN X2 hlk (by decide) (by decide))
theorem d_jdk_32_3_0 : decode jdk_32_method_3_code 0 = .ok (.new 2, 3) := by decide +kernel
theorem d_jdk_32_3_3 : decode jdk_32_method_3_code 3 = .ok (.dup, 1) := by decide +kernel
theorem d_jdk_32_3_4 : decode jdk_32_method_3_code 4 = .ok (.aload_n 0, 1) := by decide +kernel
theorem d_jdk_32_3_5 : decode jdk_32_method_3_code 5 = .ok (.invokestatic 17, 3) := by decide +kernel
theorem own_pd1 : parseMethodDescriptor "(Ljava/lang/Object;)Ljava/lang/Object;" = some ⟨[(.object "java/lang/Object")], some (.object "java/lang/Object")⟩ := by decide +kernel
theorem d_jdk_32_3_8 : decode jdk_32_method_3_code 8 = .ok (.invokespecial 23, 3) := by decide +kernel
theorem own_pd2 : parseMethodDescriptor "(Ljava/lang/Object;)V" = some ⟨[(.object "java/lang/Object")], none⟩ := by decide +kernel
theorem d_jdk_32_3_11 : decode jdk_32_method_3_code 11 = .ok (.areturn, 1) := by decide +kernel
theorem own_ef6 (m : MethodId) (x0 : Addr)  : entryFrame m #[(.ref x0)] 1 = mkF m 0 #[rv x0] [] := by first | (simp [entryFrame, mkF, argsToLocals, Value.category]; done) | rfl
abbrev own_Q6 (Z : State) (a2 : Addr) (h0 : Heap) (n0 : Nat) (v : Option Value) (h : Heap) (L : List Loc) : Prop := ∃ r : Addr, v = some (.ref r) ∧ Fr n0 L ∧ Keep h0 h [] ∧ h0.size ≤ r ∧ Exa Z h r "java/util/Optional" ∧ Fld Z h r "java/util/Optional" "value" "Ljava/lang/Object;" (.ref a2)
set_option maxRecDepth 65536 in
set_option maxHeartbeats 40000000 in
theorem own_m6 (l : Launch) (Z : State) (a0 : Array Value) (hw : ∀ d ∈ tables_1, d.before a0 Z = true) (ws : List Jvm.Cond) (a2 : Addr) (h0 : Heap) (n0 : Nat) (O0 : Old Z n0 h0) :
    Ctr l Z (⟨"java/util/Optional", "of", "(Ljava/lang/Object;)Ljava/util/Optional;"⟩ : MethodName) jdk_32_method_3_code 1 (some (.object "java/util/Optional")) (Rm 2 1 1 26) #[(.ref a2)] h0 (own_Q6 Z a2 h0 n0) ws := by
  refine MetFree.of_bodySF (plainFor_of_name own_pn3) hisR ?_
  intro p e s m args below meth c s₁ Bd hml0 hP hK
  obtain ⟨rfl, hZ, hh⟩ := hP
  have hx := Bd.exec
  have hby := Bd.bytes
  have hlk : meth.locks = false := Bd.notSynchronized
  have hml : c.maxLocals = 1 := hml0
  have hown : s.vm.findClass "java/util/Optional" = some m.cls := findClass_of_methodNamed Bd.named
  have hnm := (name_of_methodNamed Bd.named Bd.method).1
  have X0 : Stand p l e (Rm 2 1 1 26) s m #[(.ref a2)] below meth c s₁ [] 0 0 := Stand.of_body Bd
  have e0 : s₁.heap = h0 := by rw [← hh, Bd.state]; rfl
  have N0 := Fr.nil n0
  show Goes p.tables e below (fun t o => ∃ v L, o = .returned v ∧ (own_Q6 Z a2 h0 n0) v t.heap L ∧ FrameEnd s o t L ((Rm 2 1 1 26)).cells ((Rm 2 1 1 26)).slots) _
  refine Goes.via (B := s₁.setTop (mkF m 0 #[rv a2] [])) (fun t k => castTop (own_ef6 m a2) k) ?_
  obtain ⟨T1, h1, X1, e1, E1, A1, D1, U1, st1⟩ := newO X0 hx hZ hown (W_ hw 72 rfl) (W_ hw 73 rfl) (W_ hw 70 rfl) e0 (g := (mkF m 0 #[rv a2] [])) rfl (hb hby d_jdk_32_3_0) (by decide) (by decide)
  obtain ⟨b1, g1⟩ : ∃ z, z = h0.size := ⟨_, rfl⟩
  rw [← g1] at A1 D1 U1 st1
  have gn1 : n0 ≤ b1 := Nat.le_trans (old_le O0) (Nat.le_of_eq g1.symm)
  have gs1 : h0.size ≤ b1 := Nat.le_trans (Keep.refl h0 []).1 (Nat.le_of_eq g1.symm)
  have F1_value : Fld Z h1 b1 "java/util/Optional" "value" "Ljava/lang/Object;" .null := D1 (Or.inr (W_ hw 84 rfl)) (ty := (.object "java/lang/Object")) (by decide)
  refine Goes.via (B := T1.setTop (mkF m 3 #[rv a2] [(.ref b1)])) (fun t k => st1 _ k) ?_
  refine Gv T1 4 [(.ref b1), (.ref b1)] (fun t k => XS.dup X1.here hx rfl (hb hby d_jdk_32_3_3) rfl rfl k) ?_
  refine Gv T1 5 [(.ref a2), (.ref b1), (.ref b1)] (fun t k => XS.aloadN X1.here hx rfl (hb hby d_jdk_32_3_4) rfl rfl k) ?_
  obtain ⟨_, T2, L2, X2, ⟨rfl, M2, K2⟩, st2⟩ := callStatic X1 hx hZ hown (W_ hw 74 rfl) (W_ hw 75 rfl) (W_ hw 76 rfl) (W_ hw 77 rfl) (by decide) (argsL := [(.ref a2)]) (rest := [(.ref b1), (.ref b1)]) (own_m4 l Z a0 hw [] a2 h1 n0 (O0.ext E1) ) e1 (lenOf own_pd1 rfl) (pc := 5) (Ls := #[rv a2]) (st := [(.ref a2), (.ref b1), (.ref b1)]) rfl (by rw [hml]; rfl) (hb hby d_jdk_32_3_5) (W := 2) (Nat.le_of_eq rfl) (by decide) (by decide) (by decide) (by decide)
  have N2 := Fr.app N0 M2
  refine Goes.via (B := T2.setTop (mkF m 8 #[rv a2] [(.ref a2), (.ref b1), (.ref b1)])) (fun t k => st2 _ k) ?_
  obtain ⟨_, T3, L3, X3, ⟨rfl, M3, K3, f3_0, f3_1⟩, st3⟩ := callInit X2 hx hZ rfl hown (W_ hw 78 rfl) (W_ hw 79 rfl) (W_ hw 70 rfl) (W_ hw 81 rfl) (by decide) (argsL := [(.ref a2)]) (rest := [(.ref b1)]) (own_m5 l Z a0 hw [] b1 a2 h1 n0 (O0.ext E1) gn1 A1 F1_value) K2 (lenOf own_pd2 rfl) (pc := 8) (Ls := #[rv a2]) (st := [(.ref a2), (.ref b1), (.ref b1)]) rfl (by rw [hml]; rfl) (hb hby d_jdk_32_3_8) (W := 1) (Nat.le_of_eq rfl) (by decide) (by decide) (by decide) (by decide)
  have N3 := Fr.app N2 M3
  refine Goes.via (B := T3.setTop (mkF m 11 #[rv a2] [(.ref b1)])) (fun t k => st3 _ k) ?_
  exact finA (Q := (own_Q6 Z a2 h0 n0)) (F := FrameEnd) (C := ((Rm 2 1 1 26)).cells) (S := ((Rm 2 1 1 26)).slots) X3 hx Bd.returns rfl rfl rfl (hb hby d_jdk_32_3_11) rfl ⟨b1, rfl, N3, (((Keep.refl h0 []).ext E1).trans K3 (allS (Or.inr gs1) all0)), gs1, f3_0, f3_1⟩ (lvN X3 hlk (by decide) (by decide))
theorem d_jdk_32_1_0 : decode jdk_32_method_1_code 0 = .ok (.getstatic 1, 3) := by decide +kernel
theorem d_jdk_32_1_3 : decode jdk_32_method_1_code 3 = .ok (.astore_n 0, 1) := by decide +kernel
theorem d_jdk_32_1_4 : decode jdk_32_method_1_code 4 = .ok (.aload_n 0, 1) := by decide +kernel
theorem d_jdk_32_1_5 : decode jdk_32_method_1_code 5 = .ok (.areturn, 1) := by decide +kernel
theorem own_ef7 (m : MethodId)   : entryFrame m #[] 1 = mkF m 0 #[u_] [] := by first | (simp [entryFrame, mkF, argsToLocals, Value.category]; done) | rfl
abbrev own_Q7 (Z : State) (oe : Addr) (h0 : Heap) (n0 : Nat) (v : Option Value) (h : Heap) (L : List Loc) : Prop := v = some (.ref oe) ∧ Fr n0 L ∧ h = h0
set_option maxRecDepth 65536 in
set_option maxHeartbeats 40000000 in
theorem own_m7 (l : Launch) (Z : State) (a0 : Array Value) (hw : ∀ d ∈ tables_1, d.before a0 Z = true) (ws : List Jvm.Cond) (oe : Addr) (h0 : Heap) (n0 : Nat) (O0 : Old Z n0 h0) (O_1 : Sta Z Z.heap "java/util/Optional" "EMPTY" "Ljava/util/Optional;" (.ref oe)) :
    Ctr l Z (⟨"java/util/Optional", "empty", "()Ljava/util/Optional;"⟩ : MethodName) jdk_32_method_1_code 1 (some (.object "java/util/Optional")) (Rm 0 0 0 0) #[] h0 (own_Q7 Z oe h0 n0) ws := by
  refine MetFree.of_bodySF (plainFor_of_name own_pn3) hisR ?_
  intro p e s m args below meth c s₁ Bd hml0 hP hK
  obtain ⟨rfl, hZ, hh⟩ := hP
  have hx := Bd.exec
  have hby := Bd.bytes
  have hlk : meth.locks = false := Bd.notSynchronized
  have hml : c.maxLocals = 1 := hml0
  have hown : s.vm.findClass "java/util/Optional" = some m.cls := findClass_of_methodNamed Bd.named
  have hnm := (name_of_methodNamed Bd.named Bd.method).1
  have X0 : Stand p l e (Rm 0 0 0 0) s m #[] below meth c s₁ [] 0 0 := Stand.of_body Bd
  have e0 : s₁.heap = h0 := by rw [← hh, Bd.state]; rfl
  have N0 := Fr.nil n0
  show Goes p.tables e below (fun t o => ∃ v L, o = .returned v ∧ (own_Q7 Z oe h0 n0) v t.heap L ∧ FrameEnd s o t L ((Rm 0 0 0 0)).cells ((Rm 0 0 0 0)).slots) _
  refine Goes.via (B := s₁.setTop (mkF m 0 #[u_] [])) (fun t k => castTop (own_ef7 m ) k) ?_
  obtain ⟨T1, X1, e1, st1⟩ := getS2 X0 hx hZ hown (host := "") (Or.inl (W_ hw 102 rfl)) Via.refl e0 (Sta.ext O0.2 O_1) (g := (mkF m 0 #[u_] [])) rfl (hb hby d_jdk_32_1_0)
  refine Goes.via (B := T1.setTop (mkF m 3 #[u_] [(.ref oe)])) (fun t k => st1 _ k) ?_
  refine Gv T1 4 [] (fun t k => XS.astoreN X1.here hx rfl (hb hby d_jdk_32_1_3) rfl rfl (l' := #[rv oe]) rfl k) ?_
  refine Gv T1 5 [(.ref oe)] (fun t k => XS.aloadN X1.here hx rfl (hb hby d_jdk_32_1_4) rfl rfl k) ?_
  exact finA (Q := (own_Q7 Z oe h0 n0)) (F := FrameEnd) (C := ((Rm 0 0 0 0)).cells) (S := ((Rm 0 0 0 0)).slots) X1 hx Bd.returns rfl rfl rfl (hb hby d_jdk_32_1_5) e1 ⟨rfl, N0, rfl⟩ (lvN X1 hlk (by decide) (by decide))
theorem d_jdk_32_6_0 : decode jdk_32_method_6_code 0 = .ok (.aload_n 0, 1) := by decide +kernel
theorem d_jdk_32_6_1 : decode jdk_32_method_6_code 1 = .ok (.getfield 13, 3) := by decide +kernel
theorem d_jdk_32_6_4 : decode jdk_32_method_6_code 4 = .ok (.ifnull 7, 3) := by decide +kernel
theorem d_jdk_32_6_7 : decode jdk_32_method_6_code 7 = .ok (.iconst 1, 1) := by decide +kernel
theorem d_jdk_32_6_8 : decode jdk_32_method_6_code 8 = .ok (.goto 4, 3) := by decide +kernel
theorem d_jdk_32_6_12 : decode jdk_32_method_6_code 12 = .ok (.ireturn, 1) := by decide +kernel
theorem own_ef8 (m : MethodId) (x0 : Addr)  : entryFrame m #[(.ref x0)] 1 = mkF m 0 #[rv x0] [] := by first | (simp [entryFrame, mkF, argsToLocals, Value.category]; done) | rfl
abbrev own_Q8 (Z : State) (a1 : Addr) (a2 : Addr) (h0 : Heap) (n0 : Nat) (v : Option Value) (h : Heap) (L : List Loc) : Prop := v = some (.int (1 : Int32)) ∧ Fr n0 L ∧ h = h0
set_option maxRecDepth 65536 in
set_option maxHeartbeats 40000000 in
theorem own_m8 (l : Launch) (Z : State) (a0 : Array Value) (hw : ∀ d ∈ tables_1, d.before a0 Z = true) (ws : List Jvm.Cond) (a1 : Addr) (a2 : Addr) (h0 : Heap) (n0 : Nat) (O0 : Old Z n0 h0) (F_1 : Exa Z h0 a1 "java/util/Optional") (F_2 : Fld Z h0 a1 "java/util/Optional" "value" "Ljava/lang/Object;" (.ref a2)) :
    Ctr l Z (⟨"java/util/Optional", "isPresent", "()Z"⟩ : MethodName) jdk_32_method_6_code 1 (some .boolean) (Rm 0 0 0 0) #[(.ref a1)] h0 (own_Q8 Z a1 a2 h0 n0) ws := by
  refine MetFree.of_bodySF (plainFor_of_name own_pn3) hisR ?_
  intro p e s m args below meth c s₁ Bd hml0 hP hK
  obtain ⟨rfl, hZ, hh⟩ := hP
  have hx := Bd.exec
  have hby := Bd.bytes
  have hlk : meth.locks = false := Bd.notSynchronized
  have hml : c.maxLocals = 1 := hml0
  have hown : s.vm.findClass "java/util/Optional" = some m.cls := findClass_of_methodNamed Bd.named
  have hnm := (name_of_methodNamed Bd.named Bd.method).1
  have X0 : Stand p l e (Rm 0 0 0 0) s m #[(.ref a1)] below meth c s₁ [] 0 0 := Stand.of_body Bd
  have e0 : s₁.heap = h0 := by rw [← hh, Bd.state]; rfl
  have N0 := Fr.nil n0
  show Goes p.tables e below (fun t o => ∃ v L, o = .returned v ∧ (own_Q8 Z a1 a2 h0 n0) v t.heap L ∧ FrameEnd s o t L ((Rm 0 0 0 0)).cells ((Rm 0 0 0 0)).slots) _
  refine Goes.via (B := s₁.setTop (mkF m 0 #[rv a1] [])) (fun t k => castTop (own_ef8 m a1) k) ?_
  refine Gv s₁ 1 [(.ref a1)] (fun t k => XS.aloadN X0.here hx rfl (hb hby d_jdk_32_6_0) rfl rfl k) ?_
  obtain ⟨T1, X1, e1, st1⟩ := getF X0 hx hZ hown (host := "") (Or.inl (W_ hw 83 rfl)) Via.refl e0 F_2 (g := (mkF m 1 #[rv a1] [(.ref a1)])) rfl rfl (hb hby d_jdk_32_6_1)
  refine Goes.via (B := T1.setTop (mkF m 4 #[rv a1] [(.ref a2)])) (fun t k => st1 _ k) ?_
  refine Gv T1 7 [] (fun t k => XS.ifnullNo X1.here hx rfl (hb hby d_jdk_32_6_4) rfl k) ?_
  refine Gv T1 8 [(.int (1 : Int32))] (fun t k => XS.iconst X1.here hx rfl (hb hby d_jdk_32_6_7) k) ?_
  refine Gv T1 12 [(.int (1 : Int32))] (fun t k => XS.goto X1.here hx rfl (pc0 := 8) (pc' := 12) rfl (hb hby d_jdk_32_6_8) (by decide) (by decide) k) ?_
  exact finN (Q := (own_Q8 Z a1 a2 h0 n0)) (F := FrameEnd) (C := ((Rm 0 0 0 0)).cells) (S := ((Rm 0 0 0 0)).slots) X1 hx (t := .boolean) Bd.returns (by simp) (z' := (1 : Int32)) rfl (hb hby d_jdk_32_6_12) e1 ⟨rfl, N0, rfl⟩ (lvN X1 hlk (by decide) (by decide))
theorem d_jdk_32_6_11 : decode jdk_32_method_6_code 11 = .ok (.iconst 0, 1) := by decide +kernel
theorem own_ef9 (m : MethodId) (x0 : Addr)  : entryFrame m #[(.ref x0)] 1 = mkF m 0 #[rv x0] [] := by first | (simp [entryFrame, mkF, argsToLocals, Value.category]; done) | rfl
abbrev own_Q9 (Z : State) (oe : Addr) (h0 : Heap) (n0 : Nat) (v : Option Value) (h : Heap) (L : List Loc) : Prop := v = some (.int (0 : Int32)) ∧ Fr n0 L ∧ h = h0
set_option maxRecDepth 65536 in
set_option maxHeartbeats 40000000 in
theorem own_m9 (l : Launch) (Z : State) (a0 : Array Value) (hw : ∀ d ∈ tables_1, d.before a0 Z = true) (ws : List Jvm.Cond) (oe : Addr) (h0 : Heap) (n0 : Nat) (O0 : Old Z n0 h0) (O_1 : Exa Z Z.heap oe "java/util/Optional") (O_2 : Fld Z Z.heap oe "java/util/Optional" "value" "Ljava/lang/Object;" .null) :
    Ctr l Z (⟨"java/util/Optional", "isPresent", "()Z"⟩ : MethodName) jdk_32_method_6_code 1 (some .boolean) (Rm 0 0 0 0) #[(.ref oe)] h0 (own_Q9 Z oe h0 n0) ws := by
  refine MetFree.of_bodySF (plainFor_of_name own_pn3) hisR ?_
  intro p e s m args below meth c s₁ Bd hml0 hP hK
  obtain ⟨rfl, hZ, hh⟩ := hP
  have hx := Bd.exec
  have hby := Bd.bytes
  have hlk : meth.locks = false := Bd.notSynchronized
  have hml : c.maxLocals = 1 := hml0
  have hown : s.vm.findClass "java/util/Optional" = some m.cls := findClass_of_methodNamed Bd.named
  have hnm := (name_of_methodNamed Bd.named Bd.method).1
  have X0 : Stand p l e (Rm 0 0 0 0) s m #[(.ref oe)] below meth c s₁ [] 0 0 := Stand.of_body Bd
  have e0 : s₁.heap = h0 := by rw [← hh, Bd.state]; rfl
  have N0 := Fr.nil n0
  show Goes p.tables e below (fun t o => ∃ v L, o = .returned v ∧ (own_Q9 Z oe h0 n0) v t.heap L ∧ FrameEnd s o t L ((Rm 0 0 0 0)).cells ((Rm 0 0 0 0)).slots) _
  refine Goes.via (B := s₁.setTop (mkF m 0 #[rv oe] [])) (fun t k => castTop (own_ef9 m oe) k) ?_
  refine Gv s₁ 1 [(.ref oe)] (fun t k => XS.aloadN X0.here hx rfl (hb hby d_jdk_32_6_0) rfl rfl k) ?_
  obtain ⟨T1, X1, e1, st1⟩ := getF X0 hx hZ hown (host := "") (Or.inl (W_ hw 83 rfl)) Via.refl e0 (O_2.ext O0.2) (g := (mkF m 1 #[rv oe] [(.ref oe)])) rfl rfl (hb hby d_jdk_32_6_1)
  refine Goes.via (B := T1.setTop (mkF m 4 #[rv oe] [.null])) (fun t k => st1 _ k) ?_
  refine Gv T1 11 [] (fun t k => XS.ifnullYes X1.here hx rfl (pc0 := 4) (pc' := 11) rfl (hb hby d_jdk_32_6_4) rfl (by decide) (by decide) k) ?_
  refine Gv T1 12 [(.int (0 : Int32))] (fun t k => XS.iconst X1.here hx rfl (hb hby d_jdk_32_6_11) k) ?_
  exact finN (Q := (own_Q9 Z oe h0 n0)) (F := FrameEnd) (C := ((Rm 0 0 0 0)).cells) (S := ((Rm 0 0 0 0)).slots) X1 hx (t := .boolean) Bd.returns (by simp) (z' := (0 : Int32)) rfl (hb hby d_jdk_32_6_12) e1 ⟨rfl, N0, rfl⟩ (lvN X1 hlk (by decide) (by decide))
theorem d_jdk_32_5_0 : decode jdk_32_method_5_code 0 = .ok (.aload_n 0, 1) := by decide +kernel
theorem d_jdk_32_5_1 : decode jdk_32_method_5_code 1 = .ok (.getfield 13, 3) := by decide +kernel
theorem d_jdk_32_5_4 : decode jdk_32_method_5_code 4 = .ok (.ifnonnull 13, 3) := by decide +kernel
theorem d_jdk_32_5_17 : decode jdk_32_method_5_code 17 = .ok (.aload_n 0, 1) := by decide +kernel
theorem d_jdk_32_5_18 : decode jdk_32_method_5_code 18 = .ok (.getfield 13, 3) := by decide +kernel
theorem d_jdk_32_5_21 : decode jdk_32_method_5_code 21 = .ok (.areturn, 1) := by decide +kernel
theorem own_ef10 (m : MethodId) (x0 : Addr)  : entryFrame m #[(.ref x0)] 1 = mkF m 0 #[rv x0] [] := by first | (simp [entryFrame, mkF, argsToLocals, Value.category]; done) | rfl
abbrev own_Q10 (Z : State) (a1 : Addr) (a2 : Addr) (h0 : Heap) (n0 : Nat) (v : Option Value) (h : Heap) (L : List Loc) : Prop := v = some (.ref a2) ∧ Fr n0 L ∧ h = h0
set_option maxRecDepth 65536 in
set_option maxHeartbeats 40000000 in
theorem own_m10 (l : Launch) (Z : State) (a0 : Array Value) (hw : ∀ d ∈ tables_1, d.before a0 Z = true) (ws : List Jvm.Cond) (a1 : Addr) (a2 : Addr) (h0 : Heap) (n0 : Nat) (O0 : Old Z n0 h0) (F_1 : Exa Z h0 a1 "java/util/Optional") (F_2 : Fld Z h0 a1 "java/util/Optional" "value" "Ljava/lang/Object;" (.ref a2)) :
    Ctr l Z (⟨"java/util/Optional", "get", "()Ljava/lang/Object;"⟩ : MethodName) jdk_32_method_5_code 1 (some (.object "java/lang/Object")) (Rm 0 0 0 0) #[(.ref a1)] h0 (own_Q10 Z a1 a2 h0 n0) ws := by
  refine MetFree.of_bodySF (plainFor_of_name own_pn3) hisR ?_
  intro p e s m args below meth c s₁ Bd hml0 hP hK
  obtain ⟨rfl, hZ, hh⟩ := hP
  have hx := Bd.exec
  have hby := Bd.bytes
  have hlk : meth.locks = false := Bd.notSynchronized
  have hml : c.maxLocals = 1 := hml0
  have hown : s.vm.findClass "java/util/Optional" = some m.cls := findClass_of_methodNamed Bd.named
  have hnm := (name_of_methodNamed Bd.named Bd.method).1
  have X0 : Stand p l e (Rm 0 0 0 0) s m #[(.ref a1)] below meth c s₁ [] 0 0 := Stand.of_body Bd
  have e0 : s₁.heap = h0 := by rw [← hh, Bd.state]; rfl
  have N0 := Fr.nil n0
  show Goes p.tables e below (fun t o => ∃ v L, o = .returned v ∧ (own_Q10 Z a1 a2 h0 n0) v t.heap L ∧ FrameEnd s o t L ((Rm 0 0 0 0)).cells ((Rm 0 0 0 0)).slots) _
  refine Goes.via (B := s₁.setTop (mkF m 0 #[rv a1] [])) (fun t k => castTop (own_ef10 m a1) k) ?_
  refine Gv s₁ 1 [(.ref a1)] (fun t k => XS.aloadN X0.here hx rfl (hb hby d_jdk_32_5_0) rfl rfl k) ?_
  obtain ⟨T1, X1, e1, st1⟩ := getF X0 hx hZ hown (host := "") (Or.inl (W_ hw 83 rfl)) Via.refl e0 F_2 (g := (mkF m 1 #[rv a1] [(.ref a1)])) rfl rfl (hb hby d_jdk_32_5_1)
  refine Goes.via (B := T1.setTop (mkF m 4 #[rv a1] [(.ref a2)])) (fun t k => st1 _ k) ?_
  refine Gv T1 17 [] (fun t k => XS.ifnonnullYes X1.here hx rfl (pc0 := 4) (pc' := 17) rfl (hb hby d_jdk_32_5_4) rfl (by decide) (by decide) k) ?_
  refine Gv T1 18 [(.ref a1)] (fun t k => XS.aloadN X1.here hx rfl (hb hby d_jdk_32_5_17) rfl rfl k) ?_
  obtain ⟨T2, X2, e2, st2⟩ := getF X1 hx hZ hown (host := "") (Or.inl (W_ hw 83 rfl)) Via.refl e1 F_2 (g := (mkF m 18 #[rv a1] [(.ref a1)])) rfl rfl (hb hby d_jdk_32_5_18)
  refine Goes.via (B := T2.setTop (mkF m 21 #[rv a1] [(.ref a2)])) (fun t k => st2 _ k) ?_
  exact finA (Q := (own_Q10 Z a1 a2 h0 n0)) (F := FrameEnd) (C := ((Rm 0 0 0 0)).cells) (S := ((Rm 0 0 0 0)).slots) X2 hx Bd.returns rfl rfl rfl (hb hby d_jdk_32_5_21) e2 ⟨rfl, N0, rfl⟩ (lvN X2 hlk (by decide) (by decide))
theorem d_jdk_42_66_0 : decode jdk_42_method_66_code 0 = .ok (.aload_n 0, 1) := by decide +kernel
theorem d_jdk_42_66_1 : decode jdk_42_method_66_code 1 = .ok (.aload_n 1, 1) := by decide +kernel
theorem d_jdk_42_66_2 : decode jdk_42_method_66_code 2 = .ok (.if_acmp .ne 5, 3) := by decide +kernel
theorem d_jdk_42_66_7 : decode jdk_42_method_66_code 7 = .ok (.aload_n 1, 1) := by decide +kernel
theorem d_jdk_42_66_8 : decode jdk_42_method_66_code 8 = .ok (.instanceof 10, 3) := by decide +kernel
theorem d_jdk_42_66_11 : decode jdk_42_method_66_code 11 = .ok (.ifCond .eq 43, 3) := by decide +kernel
theorem d_jdk_42_66_54 : decode jdk_42_method_66_code 54 = .ok (.iconst 0, 1) := by decide +kernel
theorem d_jdk_42_66_55 : decode jdk_42_method_66_code 55 = .ok (.ireturn, 1) := by decide +kernel
theorem own_ef11 (m : MethodId) (x0 : Addr)  : entryFrame m #[(.ref x0), .null] 3 = mkF m 0 #[rv x0, .val .null, u_] [] := by first | (simp [entryFrame, mkF, argsToLocals, Value.category]; done) | rfl
abbrev own_Q11 (Z : State) (a1 : Addr) (h0 : Heap) (n0 : Nat) (v : Option Value) (h : Heap) (L : List Loc) : Prop := v = some (.int (0 : Int32)) ∧ Fr n0 L ∧ h = h0
set_option maxRecDepth 65536 in
set_option maxHeartbeats 40000000 in
theorem own_m11 (l : Launch) (Z : State) (a0 : Array Value) (hw : ∀ d ∈ tables_1, d.before a0 Z = true) (ws : List Jvm.Cond) (a1 : Addr) (h0 : Heap) (n0 : Nat) (O0 : Old Z n0 h0) :
    Ctr l Z (⟨"java/lang/String", "equals", "(Ljava/lang/Object;)Z"⟩ : MethodName) jdk_42_method_66_code 3 (some .boolean) (Rm 0 0 0 0) #[(.ref a1), .null] h0 (own_Q11 Z a1 h0 n0) ws := by
  refine MetFree.of_bodySF (plainFor_of_name own_pn0) hisR ?_
  intro p e s m args below meth c s₁ Bd hml0 hP hK
  obtain ⟨rfl, hZ, hh⟩ := hP
  have hx := Bd.exec
  have hby := Bd.bytes
  have hlk : meth.locks = false := Bd.notSynchronized
  have hml : c.maxLocals = 3 := hml0
  have hown : s.vm.findClass "java/lang/String" = some m.cls := findClass_of_methodNamed Bd.named
  have hnm := (name_of_methodNamed Bd.named Bd.method).1
  have X0 : Stand p l e (Rm 0 0 0 0) s m #[(.ref a1), .null] below meth c s₁ [] 0 0 := Stand.of_body Bd
  have e0 : s₁.heap = h0 := by rw [← hh, Bd.state]; rfl
  have N0 := Fr.nil n0
  show Goes p.tables e below (fun t o => ∃ v L, o = .returned v ∧ (own_Q11 Z a1 h0 n0) v t.heap L ∧ FrameEnd s o t L ((Rm 0 0 0 0)).cells ((Rm 0 0 0 0)).slots) _
  refine Goes.via (B := s₁.setTop (mkF m 0 #[rv a1, .val .null, u_] [])) (fun t k => castTop (own_ef11 m a1) k) ?_
  refine Gv s₁ 1 [(.ref a1)] (fun t k => XS.aloadN X0.here hx rfl (hb hby d_jdk_42_66_0) rfl rfl k) ?_
  refine Gv s₁ 2 [.null, (.ref a1)] (fun t k => XS.aloadN X0.here hx rfl (hb hby d_jdk_42_66_1) rfl rfl k) ?_
  refine Gv s₁ 7 [] (fun t k => XT.acmpYes X0.here hx rfl (pc0 := 2) (pc' := 7) rfl (hb hby d_jdk_42_66_2) rfl rfl rfl (XT.aa_ne_t (fun z => by cases z)) (by decide) (by decide) k) ?_
  refine Gv s₁ 8 [.null] (fun t k => XS.aloadN X0.here hx rfl (hb hby d_jdk_42_66_7) rfl rfl k) ?_
  refine Goes.via (B := s₁.setTop (mkF m 11 #[rv a1, .val .null, u_] [(.int (0 : Int32))])) (fun t k => X0.instanceofNull hx (g := (mkF m 8 #[rv a1, .val .null, u_] [.null])) rfl rfl (hb hby d_jdk_42_66_8) t k) ?_
  refine Gv s₁ 54 [] (fun t k => XS.ifYes X0.here hx rfl (pc0 := 11) (pc' := 54) rfl (hb hby d_jdk_42_66_11) rfl (XT.i0_eq_t rfl) (by decide) (by decide) k) ?_
  refine Gv s₁ 55 [(.int (0 : Int32))] (fun t k => XS.iconst X0.here hx rfl (hb hby d_jdk_42_66_54) k) ?_
  exact finN (Q := (own_Q11 Z a1 h0 n0)) (F := FrameEnd) (C := ((Rm 0 0 0 0)).cells) (S := ((Rm 0 0 0 0)).slots) X0 hx (t := .boolean) Bd.returns (by simp) (z' := (0 : Int32)) rfl (hb hby d_jdk_42_66_55) e0 ⟨rfl, N0, rfl⟩ (lvN X0 hlk (by decide) (by decide))
theorem d_prog_1_4_0 : decode prog_1_method_4_code 0 = .ok (.invokestatic 36, 3) := by decide +kernel
theorem own_pd3 : parseMethodDescriptor "()[Lcom/example/castellan/castellan/config/AssuranceLevel;" = some ⟨[], some (.array (.object "com/example/castellan/castellan/config/AssuranceLevel"))⟩ := by decide +kernel
theorem d_prog_1_4_3 : decode prog_1_method_4_code 3 = .ok (.astore_n 1, 1) := by decide +kernel
theorem d_prog_1_4_4 : decode prog_1_method_4_code 4 = .ok (.aload_n 1, 1) := by decide +kernel
theorem d_prog_1_4_5 : decode prog_1_method_4_code 5 = .ok (.arraylength, 1) := by decide +kernel
theorem d_prog_1_4_6 : decode prog_1_method_4_code 6 = .ok (.istore_n 2, 1) := by decide +kernel
theorem d_prog_1_4_7 : decode prog_1_method_4_code 7 = .ok (.iconst 0, 1) := by decide +kernel
theorem d_prog_1_4_8 : decode prog_1_method_4_code 8 = .ok (.istore_n 3, 1) := by decide +kernel
theorem d_prog_1_4_9 : decode prog_1_method_4_code 9 = .ok (.iload_n 3, 1) := by decide +kernel
theorem d_prog_1_4_10 : decode prog_1_method_4_code 10 = .ok (.iload_n 2, 1) := by decide +kernel
theorem d_prog_1_4_11 : decode prog_1_method_4_code 11 = .ok (.if_icmp .ge 32, 3) := by decide +kernel
theorem d_prog_1_4_14 : decode prog_1_method_4_code 14 = .ok (.aload_n 1, 1) := by decide +kernel
theorem d_prog_1_4_15 : decode prog_1_method_4_code 15 = .ok (.iload_n 3, 1) := by decide +kernel
theorem d_prog_1_4_16 : decode prog_1_method_4_code 16 = .ok (.aaload, 1) := by decide +kernel
theorem d_prog_1_4_17 : decode prog_1_method_4_code 17 = .ok (.astore 4, 2) := by decide +kernel
theorem d_prog_1_4_19 : decode prog_1_method_4_code 19 = .ok (.aload 4, 2) := by decide +kernel
theorem d_prog_1_4_21 : decode prog_1_method_4_code 21 = .ok (.getfield 32, 3) := by decide +kernel
theorem d_prog_1_4_24 : decode prog_1_method_4_code 24 = .ok (.aload_n 0, 1) := by decide +kernel
theorem d_prog_1_4_25 : decode prog_1_method_4_code 25 = .ok (.invokevirtual 40, 3) := by decide +kernel
theorem own_hw_wordsEq {a0 : Array Value} {Z : State} (hw : ∀ d ∈ tables_1, d.before a0 Z = true) : ∀ d ∈ StrChars.Road.wordsEq, d.before a0 Z = true := fun d hd => hw d ((by decide +kernel : ∀ d ∈ StrChars.Road.wordsEq, d ∈ tables_1) d hd)
theorem own_pd4 : parseMethodDescriptor "(Ljava/lang/Object;)Z" = some ⟨[(.object "java/lang/Object")], some .boolean⟩ := by decide +kernel
theorem d_prog_1_4_28 : decode prog_1_method_4_code 28 = .ok (.ifCond .eq 9, 3) := by decide +kernel
theorem d_prog_1_4_31 : decode prog_1_method_4_code 31 = .ok (.aload 4, 2) := by decide +kernel
theorem d_prog_1_4_33 : decode prog_1_method_4_code 33 = .ok (.invokestatic 46, 3) := by decide +kernel
theorem own_pd5 : parseMethodDescriptor "(Ljava/lang/Object;)Ljava/util/Optional;" = some ⟨[(.object "java/lang/Object")], some (.object "java/util/Optional")⟩ := by decide +kernel
theorem d_prog_1_4_36 : decode prog_1_method_4_code 36 = .ok (.areturn, 1) := by decide +kernel
theorem own_ef12 (m : MethodId) (x0 : Addr)  : entryFrame m #[(.ref x0)] 5 = mkF m 0 #[rv x0, u_, u_, u_, u_] [] := by first | (simp [entryFrame, mkF, argsToLocals, Value.category]; done) | rfl
abbrev own_Q12 (Z : State) (s1a : Addr) (t1a : Addr) (k1a : ClassId) (cs : List Int32) (z0 : Int32) (oe : Addr) (va : Addr) (kv : ClassId) (aL : Addr) (sL : Addr) (tL : Addr) (kL : ClassId) (aS : Addr) (sS : Addr) (tS : Addr) (kS : ClassId) (aH : Addr) (sH : Addr) (tH : Addr) (kH : ClassId) (h0 : Heap) (n0 : Nat) (v : Option Value) (h : Heap) (L : List Loc) : Prop := ∃ r : Addr, v = some (.ref r) ∧ Fr n0 L ∧ Keep h0 h [] ∧ Exa Z h r "java/util/Optional" ∧ Fld Z h r "java/util/Optional" "value" "Ljava/lang/Object;" (.ref aL)
set_option maxRecDepth 65536 in
set_option maxHeartbeats 40000000 in
theorem own_m12 (l : Launch) (Z : State) (a0 : Array Value) (hw : ∀ d ∈ tables_1, d.before a0 Z = true) (ws : List Jvm.Cond) (s1a : Addr) (t1a : Addr) (k1a : ClassId) (cs : List Int32) (z0 : Int32) (oe : Addr) (va : Addr) (kv : ClassId) (aL : Addr) (sL : Addr) (tL : Addr) (kL : ClassId) (aS : Addr) (sS : Addr) (tS : Addr) (kS : ClassId) (aH : Addr) (sH : Addr) (tH : Addr) (kH : ClassId) (h0 : Heap) (n0 : Nat) (O0 : Old Z n0 h0) (hz0 : ¬ z0 = (0 : Int32)) (hcs : ∀ c ∈ cs, ¬ c < 0 ∧ ¬ (255 : Int32) < c) (lcs : cs.length ≤ 4000) (hc : cs = own_low) (O_1 : Sta Z Z.heap "java/lang/String" "COMPACT_STRINGS" "Z" (.int z0)) (O_2 : Exa Z Z.heap aL "com/example/castellan/castellan/config/AssuranceLevel") (O_3 : Fld Z Z.heap aL "com/example/castellan/castellan/config/AssuranceLevel" "value" "Ljava/lang/String;" (.ref sL)) (O_4 : Exa Z Z.heap sL "java/lang/String") (O_5 : Fld Z Z.heap sL "java/lang/String" "value" "[B" (.ref tL)) (O_6 : Fld Z Z.heap sL "java/lang/String" "coder" "B" (.int (0 : Int32))) (O_7 : Arv Z Z.heap tL kL .byte (Int32.ofNat own_low.length) ((own_low.map StrChars.lo8).map Value.int) (.int 0)) (O_8 : Exa Z Z.heap aS "com/example/castellan/castellan/config/AssuranceLevel") (O_9 : Fld Z Z.heap aS "com/example/castellan/castellan/config/AssuranceLevel" "value" "Ljava/lang/String;" (.ref sS)) (O_10 : Exa Z Z.heap sS "java/lang/String") (O_11 : Fld Z Z.heap sS "java/lang/String" "value" "[B" (.ref tS)) (O_12 : Fld Z Z.heap sS "java/lang/String" "coder" "B" (.int (0 : Int32))) (O_13 : Arv Z Z.heap tS kS .byte (Int32.ofNat own_sub.length) ((own_sub.map StrChars.lo8).map Value.int) (.int 0)) (O_14 : Exa Z Z.heap aH "com/example/castellan/castellan/config/AssuranceLevel") (O_15 : Fld Z Z.heap aH "com/example/castellan/castellan/config/AssuranceLevel" "value" "Ljava/lang/String;" (.ref sH)) (O_16 : Exa Z Z.heap sH "java/lang/String") (O_17 : Fld Z Z.heap sH "java/lang/String" "value" "[B" (.ref tH)) (O_18 : Fld Z Z.heap sH "java/lang/String" "coder" "B" (.int (0 : Int32))) (O_19 : Arv Z Z.heap tH kH .byte (Int32.ofNat own_hig.length) ((own_hig.map StrChars.lo8).map Value.int) (.int 0)) (O_20 : Sta Z Z.heap "com/example/castellan/castellan/config/AssuranceLevel" "$VALUES" "[Lcom/example/castellan/castellan/config/AssuranceLevel;" (.ref va)) (O_21 : Exa Z Z.heap va "[Lcom/example/castellan/castellan/config/AssuranceLevel;") (O_22 : Arv Z Z.heap va kv (.object "com/example/castellan/castellan/config/AssuranceLevel") (3 : Int32) [(.ref aL), (.ref aS), (.ref aH)] .null) (O_23 : Sta Z Z.heap "java/util/Optional" "EMPTY" "Ljava/util/Optional;" (.ref oe)) (F_1 : Exa Z h0 s1a "java/lang/String") (F_2 : Fld Z h0 s1a "java/lang/String" "value" "[B" (.ref t1a)) (F_3 : Fld Z h0 s1a "java/lang/String" "coder" "B" (.int (0 : Int32))) (F_4 : Arv Z h0 t1a k1a .byte (Int32.ofNat cs.length) ((cs.map StrChars.lo8).map Value.int) (.int 0)) :
    Ctr l Z (⟨"com/example/castellan/castellan/config/AssuranceLevel", "named", "(Ljava/lang/String;)Ljava/util/Optional;"⟩ : MethodName) prog_1_method_4_code 5 (some (.object "java/util/Optional")) (Rm 3 2 4 38) #[(.ref s1a)] h0 (own_Q12 Z s1a t1a k1a cs z0 oe va kv aL sL tL kL aS sS tS kS aH sH tH kH h0 n0) ws := by
  refine MetFree.of_bodySF (plainFor_of_name own_pn1) hisR ?_
  intro p e s m args below meth c s₁ Bd hml0 hP hK
  obtain ⟨rfl, hZ, hh⟩ := hP
  have hx := Bd.exec
  have hby := Bd.bytes
  have hlk : meth.locks = false := Bd.notSynchronized
  have hml : c.maxLocals = 5 := hml0
  have hown : s.vm.findClass "com/example/castellan/castellan/config/AssuranceLevel" = some m.cls := findClass_of_methodNamed Bd.named
  have hnm := (name_of_methodNamed Bd.named Bd.method).1
  have X0 : Stand p l e (Rm 3 2 4 38) s m #[(.ref s1a)] below meth c s₁ [] 0 0 := Stand.of_body Bd
  have e0 : s₁.heap = h0 := by rw [← hh, Bd.state]; rfl
  have N0 := Fr.nil n0
  show Goes p.tables e below (fun t o => ∃ v L, o = .returned v ∧ (own_Q12 Z s1a t1a k1a cs z0 oe va kv aL sL tL kL aS sS tS kS aH sH tH kH h0 n0) v t.heap L ∧ FrameEnd s o t L ((Rm 3 2 4 38)).cells ((Rm 3 2 4 38)).slots) _
  refine Goes.via (B := s₁.setTop (mkF m 0 #[rv s1a, u_, u_, u_, u_] [])) (fun t k => castTop (own_ef12 m s1a) k) ?_
  obtain ⟨_, T1, L1, X1, ⟨r1, rfl, M1, K1, z1_0, f1_0⟩, st1⟩ := callStatic X0 hx hZ hown (W_ hw 38 rfl) (W_ hw 39 rfl) (W_ hw 36 rfl) (W_ hw 40 rfl) (by decide) (argsL := []) (rest := []) (own_m3 l Z a0 hw [] va kv aL aS aH h0 n0 O0 O_20 O_21 O_22) e0 (lenOf own_pd3 rfl) (pc := 0) (Ls := #[rv s1a, u_, u_, u_, u_]) (st := []) rfl (by rw [hml]; rfl) (hb hby d_prog_1_4_0) (W := 0) (Nat.le_of_eq rfl) (by decide) (by decide) (by decide) (by decide)
  have N1 := Fr.app N0 M1
  have gn1_0 : n0 ≤ r1 := Nat.le_trans (old_le O0) z1_0
  have gs1_0 : h0.size ≤ r1 := Nat.le_trans (Keep.refl h0 []).1 z1_0
  refine Goes.via (B := T1.setTop (mkF m 3 #[rv s1a, u_, u_, u_, u_] [(.ref r1)])) (fun t k => st1 _ k) ?_
  refine Gv T1 4 [] (fun t k => XS.astoreN X1.here hx rfl (hb hby d_prog_1_4_3) rfl rfl (l' := #[rv s1a, rv r1, u_, u_, u_]) rfl k) ?_
  refine Gv T1 5 [(.ref r1)] (fun t k => XS.aloadN X1.here hx rfl (hb hby d_prog_1_4_4) rfl rfl k) ?_
  obtain ⟨cl2, Ar2, q2, S2, N2, H2, G2⟩ := id f1_0
  refine Goes.via (B := T1.setTop (mkF m 6 #[rv s1a, rv r1, u_, u_, u_] [(.int (3 : Int32))])) (fun t k => X1.arraylength hx (Ar2.1) (State.isArrayOf_alike hZ.alike Ar2.2.1) (g := (mkF m 5 #[rv s1a, rv r1, u_, u_, u_] [(.ref r1)])) rfl rfl (hb hby d_prog_1_4_5) t (by rw [(len_of S2 N2)]; exact k)) ?_
  refine Gv T1 7 [] (fun t k => XS.istoreN X1.here hx rfl (hb hby d_prog_1_4_6) rfl (l' := #[rv s1a, rv r1, iv (3 : Int32), u_, u_]) rfl k) ?_
  refine Gv T1 8 [(.int (0 : Int32))] (fun t k => XS.iconst X1.here hx rfl (hb hby d_prog_1_4_7) k) ?_
  refine Gv T1 9 [] (fun t k => XS.istoreN X1.here hx rfl (hb hby d_prog_1_4_8) rfl (l' := #[rv s1a, rv r1, iv (3 : Int32), iv (0 : Int32), u_]) rfl k) ?_
  refine Gv T1 10 [(.int (0 : Int32))] (fun t k => XS.iloadN X1.here hx rfl (hb hby d_prog_1_4_9) rfl k) ?_
  refine Gv T1 11 [(.int (3 : Int32)), (.int (0 : Int32))] (fun t k => XS.iloadN X1.here hx rfl (hb hby d_prog_1_4_10) rfl k) ?_
  refine Gv T1 14 [] (fun t k => XS.icmpNo X1.here hx rfl (hb hby d_prog_1_4_11) rfl (XT.ii_ge_f (by decide)) k) ?_
  refine Gv T1 15 [(.ref r1)] (fun t k => XS.aloadN X1.here hx rfl (hb hby d_prog_1_4_14) rfl rfl k) ?_
  refine Gv T1 16 [(.int (0 : Int32)), (.ref r1)] (fun t k => XS.iloadN X1.here hx rfl (hb hby d_prog_1_4_15) rfl k) ?_
  obtain ⟨cl3, Ar3, q3, S3, N3, H3, G3⟩ := id f1_0
  have hin3 := inb_of (j := (0 : Int32)) S3 ⟨by decide, by decide⟩
  refine Goes.via (B := T1.setTop (mkF m 17 #[rv s1a, rv r1, iv (3 : Int32), iv (0 : Int32), u_] [(.ref aL)])) (fun t k => X1.aaload hx (j := (0 : Int32)) (v := (.ref aL)) (Ar3.1) (State.isArrayOf_alike hZ.alike Ar3.2.1) rfl Ar3.2.2 hin3 (H3.at hin3 rfl) (g := (mkF m 16 #[rv s1a, rv r1, iv (3 : Int32), iv (0 : Int32), u_] [(.int (0 : Int32)), (.ref r1)])) rfl rfl (hb hby d_prog_1_4_16) t k) ?_
  refine Gv T1 19 [] (fun t k => XS.astore X1.here hx rfl (hb hby d_prog_1_4_17) rfl rfl (l' := #[rv s1a, rv r1, iv (3 : Int32), iv (0 : Int32), rv aL]) rfl k) ?_
  refine Gv T1 21 [(.ref aL)] (fun t k => XS.aload X1.here hx rfl (hb hby d_prog_1_4_19) rfl rfl k) ?_
  obtain ⟨T4, X4, e4, st4⟩ := getF X1 hx hZ hown (host := "") (Or.inl (W_ hw 56 rfl)) Via.refl rfl (O_3.ext (O0.keep K1 all0).2) (g := (mkF m 21 #[rv s1a, rv r1, iv (3 : Int32), iv (0 : Int32), rv aL] [(.ref aL)])) rfl rfl (hb hby d_prog_1_4_21)
  refine Goes.via (B := T4.setTop (mkF m 24 #[rv s1a, rv r1, iv (3 : Int32), iv (0 : Int32), rv aL] [(.ref sL)])) (fun t k => st4 _ k) ?_
  refine Gv T4 25 [(.ref s1a), (.ref sL)] (fun t k => XS.aloadN X4.here hx rfl (hb hby d_prog_1_4_24) rfl rfl k) ?_
  obtain ⟨_, T5, L5, X5, ⟨rfl, M5, K5⟩, st5⟩ := callVirtB X4 hx hZ hown (W_ hw 58 rfl) (W_ hw 59 rfl) (W_ hw 61 rfl) (notFace_of_selects (args := #[]) (mvT hZ (W_ hw 61 rfl))) (W_ hw 60 rfl) (by decide) (argsL := [(.ref s1a)]) (rest := []) (W := 0) (own_eqI (s := s) (W := 0) hZ (own_hw_wordsEq hw) (W_ hw 6 rfl) (x := sL) (cs := own_low) (O_4.ext (O0.keep K1 all0).2) (O_5.ext (O0.keep K1 all0).2) (O_6.ext (O0.keep K1 all0).2) (O_7.ext (O0.keep K1 all0).2) own_lowr own_lowl (y := s1a) (ds := cs) (F_1.keep K1) (F_2.keep K1 nin0) (F_3.keep K1 nin0) (F_4.keep K1 nin0) hcs lcs (Sta.ext (O0.keep K1 all0).2 O_1) hz0 n0 (by decide) (by decide)) e4 (O_4.ext (O0.keep K1 all0).2) (lenOf own_pd4 rfl) (pc := 25) (Ls := #[rv s1a, rv r1, iv (3 : Int32), iv (0 : Int32), rv aL]) (st := [(.ref s1a), (.ref sL)]) rfl (by rw [hml]; rfl) (hb hby d_prog_1_4_25) (Nat.le_of_eq rfl) (by decide) (by decide)
  have N5 := Fr.app N1 M5
  refine Goes.via (B := T5.setTop (mkF m 28 #[rv s1a, rv r1, iv (3 : Int32), iv (0 : Int32), rv aL] [(.int (own_eq own_low cs))])) (fun t k => st5 _ k) ?_
  refine Gv T5 31 [] (fun t k => XS.ifNo X5.here hx rfl (hb hby d_prog_1_4_28) rfl (XT.i0_eq_f (own_eqY hc.symm)) k) ?_
  refine Gv T5 33 [(.ref aL)] (fun t k => XS.aload X5.here hx rfl (hb hby d_prog_1_4_31) rfl rfl k) ?_
  obtain ⟨_, T6, L6, X6, ⟨r6, rfl, M6, K6, z6_0, f6_0, f6_1⟩, st6⟩ := callStatic X5 hx hZ hown (W_ hw 68 rfl) (W_ hw 69 rfl) (W_ hw 70 rfl) (W_ hw 71 rfl) (by decide) (argsL := [(.ref aL)]) (rest := []) (own_m6 l Z a0 hw [] aL T1.heap n0 (O0.keep K1 all0) ) K5 (lenOf own_pd5 rfl) (pc := 33) (Ls := #[rv s1a, rv r1, iv (3 : Int32), iv (0 : Int32), rv aL]) (st := [(.ref aL)]) rfl (by rw [hml]; rfl) (hb hby d_prog_1_4_33) (W := 0) (Nat.le_of_eq rfl) (by decide) (by decide) (by decide) (by decide)
  have N6 := Fr.app N5 M6
  have gn6_0 : n0 ≤ r6 := Nat.le_trans (old_le (O0.keep K1 all0)) z6_0
  have gs6_0 : h0.size ≤ r6 := Nat.le_trans ((Keep.refl h0 []).trans K1 all0).1 z6_0
  refine Goes.via (B := T6.setTop (mkF m 36 #[rv s1a, rv r1, iv (3 : Int32), iv (0 : Int32), rv aL] [(.ref r6)])) (fun t k => st6 _ k) ?_
  exact finA (Q := (own_Q12 Z s1a t1a k1a cs z0 oe va kv aL sL tL kL aS sS tS kS aH sH tH kH h0 n0)) (F := FrameEnd) (C := ((Rm 3 2 4 38)).cells) (S := ((Rm 3 2 4 38)).slots) X6 hx Bd.returns rfl rfl rfl (hb hby d_prog_1_4_36) rfl ⟨r6, rfl, N6, (((Keep.refl h0 []).trans K1 all0).trans K6 all0), f6_0, f6_1⟩ (lvN X6 hlk (by decide) (by decide))
theorem d_prog_1_4_37 : decode prog_1_method_4_code 37 = .ok (.iinc 3 1, 3) := by decide +kernel
theorem d_prog_1_4_40 : decode prog_1_method_4_code 40 = .ok (.goto (-31), 3) := by decide +kernel
theorem own_ef13 (m : MethodId) (x0 : Addr)  : entryFrame m #[(.ref x0)] 5 = mkF m 0 #[rv x0, u_, u_, u_, u_] [] := by first | (simp [entryFrame, mkF, argsToLocals, Value.category]; done) | rfl
abbrev own_Q13 (Z : State) (s1a : Addr) (t1a : Addr) (k1a : ClassId) (cs : List Int32) (z0 : Int32) (oe : Addr) (va : Addr) (kv : ClassId) (aL : Addr) (sL : Addr) (tL : Addr) (kL : ClassId) (aS : Addr) (sS : Addr) (tS : Addr) (kS : ClassId) (aH : Addr) (sH : Addr) (tH : Addr) (kH : ClassId) (h0 : Heap) (n0 : Nat) (v : Option Value) (h : Heap) (L : List Loc) : Prop := ∃ r : Addr, v = some (.ref r) ∧ Fr n0 L ∧ Keep h0 h [] ∧ Exa Z h r "java/util/Optional" ∧ Fld Z h r "java/util/Optional" "value" "Ljava/lang/Object;" (.ref aS)
set_option maxRecDepth 65536 in
set_option maxHeartbeats 40000000 in
theorem own_m13 (l : Launch) (Z : State) (a0 : Array Value) (hw : ∀ d ∈ tables_1, d.before a0 Z = true) (ws : List Jvm.Cond) (s1a : Addr) (t1a : Addr) (k1a : ClassId) (cs : List Int32) (z0 : Int32) (oe : Addr) (va : Addr) (kv : ClassId) (aL : Addr) (sL : Addr) (tL : Addr) (kL : ClassId) (aS : Addr) (sS : Addr) (tS : Addr) (kS : ClassId) (aH : Addr) (sH : Addr) (tH : Addr) (kH : ClassId) (h0 : Heap) (n0 : Nat) (O0 : Old Z n0 h0) (hz0 : ¬ z0 = (0 : Int32)) (hcs : ∀ c ∈ cs, ¬ c < 0 ∧ ¬ (255 : Int32) < c) (lcs : cs.length ≤ 4000) (hc : cs = own_sub) (O_1 : Sta Z Z.heap "java/lang/String" "COMPACT_STRINGS" "Z" (.int z0)) (O_2 : Exa Z Z.heap aL "com/example/castellan/castellan/config/AssuranceLevel") (O_3 : Fld Z Z.heap aL "com/example/castellan/castellan/config/AssuranceLevel" "value" "Ljava/lang/String;" (.ref sL)) (O_4 : Exa Z Z.heap sL "java/lang/String") (O_5 : Fld Z Z.heap sL "java/lang/String" "value" "[B" (.ref tL)) (O_6 : Fld Z Z.heap sL "java/lang/String" "coder" "B" (.int (0 : Int32))) (O_7 : Arv Z Z.heap tL kL .byte (Int32.ofNat own_low.length) ((own_low.map StrChars.lo8).map Value.int) (.int 0)) (O_8 : Exa Z Z.heap aS "com/example/castellan/castellan/config/AssuranceLevel") (O_9 : Fld Z Z.heap aS "com/example/castellan/castellan/config/AssuranceLevel" "value" "Ljava/lang/String;" (.ref sS)) (O_10 : Exa Z Z.heap sS "java/lang/String") (O_11 : Fld Z Z.heap sS "java/lang/String" "value" "[B" (.ref tS)) (O_12 : Fld Z Z.heap sS "java/lang/String" "coder" "B" (.int (0 : Int32))) (O_13 : Arv Z Z.heap tS kS .byte (Int32.ofNat own_sub.length) ((own_sub.map StrChars.lo8).map Value.int) (.int 0)) (O_14 : Exa Z Z.heap aH "com/example/castellan/castellan/config/AssuranceLevel") (O_15 : Fld Z Z.heap aH "com/example/castellan/castellan/config/AssuranceLevel" "value" "Ljava/lang/String;" (.ref sH)) (O_16 : Exa Z Z.heap sH "java/lang/String") (O_17 : Fld Z Z.heap sH "java/lang/String" "value" "[B" (.ref tH)) (O_18 : Fld Z Z.heap sH "java/lang/String" "coder" "B" (.int (0 : Int32))) (O_19 : Arv Z Z.heap tH kH .byte (Int32.ofNat own_hig.length) ((own_hig.map StrChars.lo8).map Value.int) (.int 0)) (O_20 : Sta Z Z.heap "com/example/castellan/castellan/config/AssuranceLevel" "$VALUES" "[Lcom/example/castellan/castellan/config/AssuranceLevel;" (.ref va)) (O_21 : Exa Z Z.heap va "[Lcom/example/castellan/castellan/config/AssuranceLevel;") (O_22 : Arv Z Z.heap va kv (.object "com/example/castellan/castellan/config/AssuranceLevel") (3 : Int32) [(.ref aL), (.ref aS), (.ref aH)] .null) (O_23 : Sta Z Z.heap "java/util/Optional" "EMPTY" "Ljava/util/Optional;" (.ref oe)) (F_1 : Exa Z h0 s1a "java/lang/String") (F_2 : Fld Z h0 s1a "java/lang/String" "value" "[B" (.ref t1a)) (F_3 : Fld Z h0 s1a "java/lang/String" "coder" "B" (.int (0 : Int32))) (F_4 : Arv Z h0 t1a k1a .byte (Int32.ofNat cs.length) ((cs.map StrChars.lo8).map Value.int) (.int 0)) :
    Ctr l Z (⟨"com/example/castellan/castellan/config/AssuranceLevel", "named", "(Ljava/lang/String;)Ljava/util/Optional;"⟩ : MethodName) prog_1_method_4_code 5 (some (.object "java/util/Optional")) (Rm 3 2 4 38) #[(.ref s1a)] h0 (own_Q13 Z s1a t1a k1a cs z0 oe va kv aL sL tL kL aS sS tS kS aH sH tH kH h0 n0) ws := by
  refine MetFree.of_bodySF (plainFor_of_name own_pn1) hisR ?_
  intro p e s m args below meth c s₁ Bd hml0 hP hK
  obtain ⟨rfl, hZ, hh⟩ := hP
  have hx := Bd.exec
  have hby := Bd.bytes
  have hlk : meth.locks = false := Bd.notSynchronized
  have hml : c.maxLocals = 5 := hml0
  have hown : s.vm.findClass "com/example/castellan/castellan/config/AssuranceLevel" = some m.cls := findClass_of_methodNamed Bd.named
  have hnm := (name_of_methodNamed Bd.named Bd.method).1
  have X0 : Stand p l e (Rm 3 2 4 38) s m #[(.ref s1a)] below meth c s₁ [] 0 0 := Stand.of_body Bd
  have e0 : s₁.heap = h0 := by rw [← hh, Bd.state]; rfl
  have N0 := Fr.nil n0
  show Goes p.tables e below (fun t o => ∃ v L, o = .returned v ∧ (own_Q13 Z s1a t1a k1a cs z0 oe va kv aL sL tL kL aS sS tS kS aH sH tH kH h0 n0) v t.heap L ∧ FrameEnd s o t L ((Rm 3 2 4 38)).cells ((Rm 3 2 4 38)).slots) _
  refine Goes.via (B := s₁.setTop (mkF m 0 #[rv s1a, u_, u_, u_, u_] [])) (fun t k => castTop (own_ef13 m s1a) k) ?_
  obtain ⟨_, T1, L1, X1, ⟨r1, rfl, M1, K1, z1_0, f1_0⟩, st1⟩ := callStatic X0 hx hZ hown (W_ hw 38 rfl) (W_ hw 39 rfl) (W_ hw 36 rfl) (W_ hw 40 rfl) (by decide) (argsL := []) (rest := []) (own_m3 l Z a0 hw [] va kv aL aS aH h0 n0 O0 O_20 O_21 O_22) e0 (lenOf own_pd3 rfl) (pc := 0) (Ls := #[rv s1a, u_, u_, u_, u_]) (st := []) rfl (by rw [hml]; rfl) (hb hby d_prog_1_4_0) (W := 0) (Nat.le_of_eq rfl) (by decide) (by decide) (by decide) (by decide)
  have N1 := Fr.app N0 M1
  have gn1_0 : n0 ≤ r1 := Nat.le_trans (old_le O0) z1_0
  have gs1_0 : h0.size ≤ r1 := Nat.le_trans (Keep.refl h0 []).1 z1_0
  refine Goes.via (B := T1.setTop (mkF m 3 #[rv s1a, u_, u_, u_, u_] [(.ref r1)])) (fun t k => st1 _ k) ?_
  refine Gv T1 4 [] (fun t k => XS.astoreN X1.here hx rfl (hb hby d_prog_1_4_3) rfl rfl (l' := #[rv s1a, rv r1, u_, u_, u_]) rfl k) ?_
  refine Gv T1 5 [(.ref r1)] (fun t k => XS.aloadN X1.here hx rfl (hb hby d_prog_1_4_4) rfl rfl k) ?_
  obtain ⟨cl2, Ar2, q2, S2, N2, H2, G2⟩ := id f1_0
  refine Goes.via (B := T1.setTop (mkF m 6 #[rv s1a, rv r1, u_, u_, u_] [(.int (3 : Int32))])) (fun t k => X1.arraylength hx (Ar2.1) (State.isArrayOf_alike hZ.alike Ar2.2.1) (g := (mkF m 5 #[rv s1a, rv r1, u_, u_, u_] [(.ref r1)])) rfl rfl (hb hby d_prog_1_4_5) t (by rw [(len_of S2 N2)]; exact k)) ?_
  refine Gv T1 7 [] (fun t k => XS.istoreN X1.here hx rfl (hb hby d_prog_1_4_6) rfl (l' := #[rv s1a, rv r1, iv (3 : Int32), u_, u_]) rfl k) ?_
  refine Gv T1 8 [(.int (0 : Int32))] (fun t k => XS.iconst X1.here hx rfl (hb hby d_prog_1_4_7) k) ?_
  refine Gv T1 9 [] (fun t k => XS.istoreN X1.here hx rfl (hb hby d_prog_1_4_8) rfl (l' := #[rv s1a, rv r1, iv (3 : Int32), iv (0 : Int32), u_]) rfl k) ?_
  refine Gv T1 10 [(.int (0 : Int32))] (fun t k => XS.iloadN X1.here hx rfl (hb hby d_prog_1_4_9) rfl k) ?_
  refine Gv T1 11 [(.int (3 : Int32)), (.int (0 : Int32))] (fun t k => XS.iloadN X1.here hx rfl (hb hby d_prog_1_4_10) rfl k) ?_
  refine Gv T1 14 [] (fun t k => XS.icmpNo X1.here hx rfl (hb hby d_prog_1_4_11) rfl (XT.ii_ge_f (by decide)) k) ?_
  refine Gv T1 15 [(.ref r1)] (fun t k => XS.aloadN X1.here hx rfl (hb hby d_prog_1_4_14) rfl rfl k) ?_
  refine Gv T1 16 [(.int (0 : Int32)), (.ref r1)] (fun t k => XS.iloadN X1.here hx rfl (hb hby d_prog_1_4_15) rfl k) ?_
  obtain ⟨cl3, Ar3, q3, S3, N3, H3, G3⟩ := id f1_0
  have hin3 := inb_of (j := (0 : Int32)) S3 ⟨by decide, by decide⟩
  refine Goes.via (B := T1.setTop (mkF m 17 #[rv s1a, rv r1, iv (3 : Int32), iv (0 : Int32), u_] [(.ref aL)])) (fun t k => X1.aaload hx (j := (0 : Int32)) (v := (.ref aL)) (Ar3.1) (State.isArrayOf_alike hZ.alike Ar3.2.1) rfl Ar3.2.2 hin3 (H3.at hin3 rfl) (g := (mkF m 16 #[rv s1a, rv r1, iv (3 : Int32), iv (0 : Int32), u_] [(.int (0 : Int32)), (.ref r1)])) rfl rfl (hb hby d_prog_1_4_16) t k) ?_
  refine Gv T1 19 [] (fun t k => XS.astore X1.here hx rfl (hb hby d_prog_1_4_17) rfl rfl (l' := #[rv s1a, rv r1, iv (3 : Int32), iv (0 : Int32), rv aL]) rfl k) ?_
  refine Gv T1 21 [(.ref aL)] (fun t k => XS.aload X1.here hx rfl (hb hby d_prog_1_4_19) rfl rfl k) ?_
  obtain ⟨T4, X4, e4, st4⟩ := getF X1 hx hZ hown (host := "") (Or.inl (W_ hw 56 rfl)) Via.refl rfl (O_3.ext (O0.keep K1 all0).2) (g := (mkF m 21 #[rv s1a, rv r1, iv (3 : Int32), iv (0 : Int32), rv aL] [(.ref aL)])) rfl rfl (hb hby d_prog_1_4_21)
  refine Goes.via (B := T4.setTop (mkF m 24 #[rv s1a, rv r1, iv (3 : Int32), iv (0 : Int32), rv aL] [(.ref sL)])) (fun t k => st4 _ k) ?_
  refine Gv T4 25 [(.ref s1a), (.ref sL)] (fun t k => XS.aloadN X4.here hx rfl (hb hby d_prog_1_4_24) rfl rfl k) ?_
  obtain ⟨_, T5, L5, X5, ⟨rfl, M5, K5⟩, st5⟩ := callVirtB X4 hx hZ hown (W_ hw 58 rfl) (W_ hw 59 rfl) (W_ hw 61 rfl) (notFace_of_selects (args := #[]) (mvT hZ (W_ hw 61 rfl))) (W_ hw 60 rfl) (by decide) (argsL := [(.ref s1a)]) (rest := []) (W := 0) (own_eqI (s := s) (W := 0) hZ (own_hw_wordsEq hw) (W_ hw 6 rfl) (x := sL) (cs := own_low) (O_4.ext (O0.keep K1 all0).2) (O_5.ext (O0.keep K1 all0).2) (O_6.ext (O0.keep K1 all0).2) (O_7.ext (O0.keep K1 all0).2) own_lowr own_lowl (y := s1a) (ds := cs) (F_1.keep K1) (F_2.keep K1 nin0) (F_3.keep K1 nin0) (F_4.keep K1 nin0) hcs lcs (Sta.ext (O0.keep K1 all0).2 O_1) hz0 n0 (by decide) (by decide)) e4 (O_4.ext (O0.keep K1 all0).2) (lenOf own_pd4 rfl) (pc := 25) (Ls := #[rv s1a, rv r1, iv (3 : Int32), iv (0 : Int32), rv aL]) (st := [(.ref s1a), (.ref sL)]) rfl (by rw [hml]; rfl) (hb hby d_prog_1_4_25) (Nat.le_of_eq rfl) (by decide) (by decide)
  have N5 := Fr.app N1 M5
  refine Goes.via (B := T5.setTop (mkF m 28 #[rv s1a, rv r1, iv (3 : Int32), iv (0 : Int32), rv aL] [(.int (own_eq own_low cs))])) (fun t k => st5 _ k) ?_
  refine Gv T5 37 [] (fun t k => XS.ifYes X5.here hx rfl (pc0 := 28) (pc' := 37) rfl (hb hby d_prog_1_4_28) rfl (XT.i0_eq_t (own_eq0 (by rw [hc]; decide))) (by decide) (by decide) k) ?_
  refine Gv T5 40 [] (fun t k => XS.iinc X5.here hx rfl (hb hby d_prog_1_4_37) rfl (l' := #[rv s1a, rv r1, iv (3 : Int32), iv ((0 : Int32) + (1 : Int32)), rv aL]) rfl k) ?_
  refine Gv T5 9 [] (fun t k => XS.goto X5.here hx rfl (pc0 := 40) (pc' := 9) rfl (hb hby d_prog_1_4_40) (by decide) (by decide) k) ?_
  have q6 : ((0 : Int32) + (1 : Int32)) = (1 : Int32) := rfl
  rw [q6]
  refine Gv T5 10 [(.int (1 : Int32))] (fun t k => XS.iloadN X5.here hx rfl (hb hby d_prog_1_4_9) rfl k) ?_
  refine Gv T5 11 [(.int (3 : Int32)), (.int (1 : Int32))] (fun t k => XS.iloadN X5.here hx rfl (hb hby d_prog_1_4_10) rfl k) ?_
  refine Gv T5 14 [] (fun t k => XS.icmpNo X5.here hx rfl (hb hby d_prog_1_4_11) rfl (XT.ii_ge_f (by decide)) k) ?_
  refine Gv T5 15 [(.ref r1)] (fun t k => XS.aloadN X5.here hx rfl (hb hby d_prog_1_4_14) rfl rfl k) ?_
  refine Gv T5 16 [(.int (1 : Int32)), (.ref r1)] (fun t k => XS.iloadN X5.here hx rfl (hb hby d_prog_1_4_15) rfl k) ?_
  obtain ⟨cl7, Ar7, q7, S7, N7, H7, G7⟩ := id f1_0
  have hin7 := inb_of (j := (1 : Int32)) S7 ⟨by decide, by decide⟩
  refine Goes.via (B := T5.setTop (mkF m 17 #[rv s1a, rv r1, iv (3 : Int32), iv (1 : Int32), rv aL] [(.ref aS)])) (fun t k => X5.aaload hx (j := (1 : Int32)) (v := (.ref aS)) (by rw [K5]; exact Ar7.1) (State.isArrayOf_alike hZ.alike Ar7.2.1) rfl Ar7.2.2 hin7 (H7.at hin7 rfl) (g := (mkF m 16 #[rv s1a, rv r1, iv (3 : Int32), iv (1 : Int32), rv aL] [(.int (1 : Int32)), (.ref r1)])) rfl rfl (hb hby d_prog_1_4_16) t k) ?_
  refine Gv T5 19 [] (fun t k => XS.astore X5.here hx rfl (hb hby d_prog_1_4_17) rfl rfl (l' := #[rv s1a, rv r1, iv (3 : Int32), iv (1 : Int32), rv aS]) rfl k) ?_
  refine Gv T5 21 [(.ref aS)] (fun t k => XS.aload X5.here hx rfl (hb hby d_prog_1_4_19) rfl rfl k) ?_
  obtain ⟨T8, X8, e8, st8⟩ := getF X5 hx hZ hown (host := "") (Or.inl (W_ hw 56 rfl)) Via.refl K5 (O_9.ext (O0.keep K1 all0).2) (g := (mkF m 21 #[rv s1a, rv r1, iv (3 : Int32), iv (1 : Int32), rv aS] [(.ref aS)])) rfl rfl (hb hby d_prog_1_4_21)
  refine Goes.via (B := T8.setTop (mkF m 24 #[rv s1a, rv r1, iv (3 : Int32), iv (1 : Int32), rv aS] [(.ref sS)])) (fun t k => st8 _ k) ?_
  refine Gv T8 25 [(.ref s1a), (.ref sS)] (fun t k => XS.aloadN X8.here hx rfl (hb hby d_prog_1_4_24) rfl rfl k) ?_
  obtain ⟨_, T9, L9, X9, ⟨rfl, M9, K9⟩, st9⟩ := callVirtB X8 hx hZ hown (W_ hw 58 rfl) (W_ hw 59 rfl) (W_ hw 61 rfl) (notFace_of_selects (args := #[]) (mvT hZ (W_ hw 61 rfl))) (W_ hw 60 rfl) (by decide) (argsL := [(.ref s1a)]) (rest := []) (W := 0) (own_eqI (s := s) (W := 0) hZ (own_hw_wordsEq hw) (W_ hw 6 rfl) (x := sS) (cs := own_sub) (O_10.ext (O0.keep K1 all0).2) (O_11.ext (O0.keep K1 all0).2) (O_12.ext (O0.keep K1 all0).2) (O_13.ext (O0.keep K1 all0).2) own_subr own_subl (y := s1a) (ds := cs) (F_1.keep K1) (F_2.keep K1 nin0) (F_3.keep K1 nin0) (F_4.keep K1 nin0) hcs lcs (Sta.ext (O0.keep K1 all0).2 O_1) hz0 n0 (by decide) (by decide)) e8 (O_10.ext (O0.keep K1 all0).2) (lenOf own_pd4 rfl) (pc := 25) (Ls := #[rv s1a, rv r1, iv (3 : Int32), iv (1 : Int32), rv aS]) (st := [(.ref s1a), (.ref sS)]) rfl (by rw [hml]; rfl) (hb hby d_prog_1_4_25) (Nat.le_of_eq rfl) (by decide) (by decide)
  have N9 := Fr.app N5 M9
  refine Goes.via (B := T9.setTop (mkF m 28 #[rv s1a, rv r1, iv (3 : Int32), iv (1 : Int32), rv aS] [(.int (own_eq own_sub cs))])) (fun t k => st9 _ k) ?_
  refine Gv T9 31 [] (fun t k => XS.ifNo X9.here hx rfl (hb hby d_prog_1_4_28) rfl (XT.i0_eq_f (own_eqY hc.symm)) k) ?_
  refine Gv T9 33 [(.ref aS)] (fun t k => XS.aload X9.here hx rfl (hb hby d_prog_1_4_31) rfl rfl k) ?_
  obtain ⟨_, T10, L10, X10, ⟨r10, rfl, M10, K10, z10_0, f10_0, f10_1⟩, st10⟩ := callStatic X9 hx hZ hown (W_ hw 68 rfl) (W_ hw 69 rfl) (W_ hw 70 rfl) (W_ hw 71 rfl) (by decide) (argsL := [(.ref aS)]) (rest := []) (own_m6 l Z a0 hw [] aS T1.heap n0 (O0.keep K1 all0) ) K9 (lenOf own_pd5 rfl) (pc := 33) (Ls := #[rv s1a, rv r1, iv (3 : Int32), iv (1 : Int32), rv aS]) (st := [(.ref aS)]) rfl (by rw [hml]; rfl) (hb hby d_prog_1_4_33) (W := 0) (Nat.le_of_eq rfl) (by decide) (by decide) (by decide) (by decide)
  have N10 := Fr.app N9 M10
  have gn10_0 : n0 ≤ r10 := Nat.le_trans (old_le (O0.keep K1 all0)) z10_0
  have gs10_0 : h0.size ≤ r10 := Nat.le_trans ((Keep.refl h0 []).trans K1 all0).1 z10_0
  refine Goes.via (B := T10.setTop (mkF m 36 #[rv s1a, rv r1, iv (3 : Int32), iv (1 : Int32), rv aS] [(.ref r10)])) (fun t k => st10 _ k) ?_
  exact finA (Q := (own_Q13 Z s1a t1a k1a cs z0 oe va kv aL sL tL kL aS sS tS kS aH sH tH kH h0 n0)) (F := FrameEnd) (C := ((Rm 3 2 4 38)).cells) (S := ((Rm 3 2 4 38)).slots) X10 hx Bd.returns rfl rfl rfl (hb hby d_prog_1_4_36) rfl ⟨r10, rfl, N10, (((Keep.refl h0 []).trans K1 all0).trans K10 all0), f10_0, f10_1⟩ (lvN X10 hlk (by decide) (by decide))
theorem own_ef14 (m : MethodId) (x0 : Addr)  : entryFrame m #[(.ref x0)] 5 = mkF m 0 #[rv x0, u_, u_, u_, u_] [] := by first | (simp [entryFrame, mkF, argsToLocals, Value.category]; done) | rfl
abbrev own_Q14 (Z : State) (s1a : Addr) (t1a : Addr) (k1a : ClassId) (cs : List Int32) (z0 : Int32) (oe : Addr) (va : Addr) (kv : ClassId) (aL : Addr) (sL : Addr) (tL : Addr) (kL : ClassId) (aS : Addr) (sS : Addr) (tS : Addr) (kS : ClassId) (aH : Addr) (sH : Addr) (tH : Addr) (kH : ClassId) (h0 : Heap) (n0 : Nat) (v : Option Value) (h : Heap) (L : List Loc) : Prop := ∃ r : Addr, v = some (.ref r) ∧ Fr n0 L ∧ Keep h0 h [] ∧ Exa Z h r "java/util/Optional" ∧ Fld Z h r "java/util/Optional" "value" "Ljava/lang/Object;" (.ref aH)
set_option maxRecDepth 65536 in
set_option maxHeartbeats 40000000 in
theorem own_m14 (l : Launch) (Z : State) (a0 : Array Value) (hw : ∀ d ∈ tables_1, d.before a0 Z = true) (ws : List Jvm.Cond) (s1a : Addr) (t1a : Addr) (k1a : ClassId) (cs : List Int32) (z0 : Int32) (oe : Addr) (va : Addr) (kv : ClassId) (aL : Addr) (sL : Addr) (tL : Addr) (kL : ClassId) (aS : Addr) (sS : Addr) (tS : Addr) (kS : ClassId) (aH : Addr) (sH : Addr) (tH : Addr) (kH : ClassId) (h0 : Heap) (n0 : Nat) (O0 : Old Z n0 h0) (hz0 : ¬ z0 = (0 : Int32)) (hcs : ∀ c ∈ cs, ¬ c < 0 ∧ ¬ (255 : Int32) < c) (lcs : cs.length ≤ 4000) (hc : cs = own_hig) (O_1 : Sta Z Z.heap "java/lang/String" "COMPACT_STRINGS" "Z" (.int z0)) (O_2 : Exa Z Z.heap aL "com/example/castellan/castellan/config/AssuranceLevel") (O_3 : Fld Z Z.heap aL "com/example/castellan/castellan/config/AssuranceLevel" "value" "Ljava/lang/String;" (.ref sL)) (O_4 : Exa Z Z.heap sL "java/lang/String") (O_5 : Fld Z Z.heap sL "java/lang/String" "value" "[B" (.ref tL)) (O_6 : Fld Z Z.heap sL "java/lang/String" "coder" "B" (.int (0 : Int32))) (O_7 : Arv Z Z.heap tL kL .byte (Int32.ofNat own_low.length) ((own_low.map StrChars.lo8).map Value.int) (.int 0)) (O_8 : Exa Z Z.heap aS "com/example/castellan/castellan/config/AssuranceLevel") (O_9 : Fld Z Z.heap aS "com/example/castellan/castellan/config/AssuranceLevel" "value" "Ljava/lang/String;" (.ref sS)) (O_10 : Exa Z Z.heap sS "java/lang/String") (O_11 : Fld Z Z.heap sS "java/lang/String" "value" "[B" (.ref tS)) (O_12 : Fld Z Z.heap sS "java/lang/String" "coder" "B" (.int (0 : Int32))) (O_13 : Arv Z Z.heap tS kS .byte (Int32.ofNat own_sub.length) ((own_sub.map StrChars.lo8).map Value.int) (.int 0)) (O_14 : Exa Z Z.heap aH "com/example/castellan/castellan/config/AssuranceLevel") (O_15 : Fld Z Z.heap aH "com/example/castellan/castellan/config/AssuranceLevel" "value" "Ljava/lang/String;" (.ref sH)) (O_16 : Exa Z Z.heap sH "java/lang/String") (O_17 : Fld Z Z.heap sH "java/lang/String" "value" "[B" (.ref tH)) (O_18 : Fld Z Z.heap sH "java/lang/String" "coder" "B" (.int (0 : Int32))) (O_19 : Arv Z Z.heap tH kH .byte (Int32.ofNat own_hig.length) ((own_hig.map StrChars.lo8).map Value.int) (.int 0)) (O_20 : Sta Z Z.heap "com/example/castellan/castellan/config/AssuranceLevel" "$VALUES" "[Lcom/example/castellan/castellan/config/AssuranceLevel;" (.ref va)) (O_21 : Exa Z Z.heap va "[Lcom/example/castellan/castellan/config/AssuranceLevel;") (O_22 : Arv Z Z.heap va kv (.object "com/example/castellan/castellan/config/AssuranceLevel") (3 : Int32) [(.ref aL), (.ref aS), (.ref aH)] .null) (O_23 : Sta Z Z.heap "java/util/Optional" "EMPTY" "Ljava/util/Optional;" (.ref oe)) (F_1 : Exa Z h0 s1a "java/lang/String") (F_2 : Fld Z h0 s1a "java/lang/String" "value" "[B" (.ref t1a)) (F_3 : Fld Z h0 s1a "java/lang/String" "coder" "B" (.int (0 : Int32))) (F_4 : Arv Z h0 t1a k1a .byte (Int32.ofNat cs.length) ((cs.map StrChars.lo8).map Value.int) (.int 0)) :
    Ctr l Z (⟨"com/example/castellan/castellan/config/AssuranceLevel", "named", "(Ljava/lang/String;)Ljava/util/Optional;"⟩ : MethodName) prog_1_method_4_code 5 (some (.object "java/util/Optional")) (Rm 3 2 4 38) #[(.ref s1a)] h0 (own_Q14 Z s1a t1a k1a cs z0 oe va kv aL sL tL kL aS sS tS kS aH sH tH kH h0 n0) ws := by
  refine MetFree.of_bodySF (plainFor_of_name own_pn1) hisR ?_
  intro p e s m args below meth c s₁ Bd hml0 hP hK
  obtain ⟨rfl, hZ, hh⟩ := hP
  have hx := Bd.exec
  have hby := Bd.bytes
  have hlk : meth.locks = false := Bd.notSynchronized
  have hml : c.maxLocals = 5 := hml0
  have hown : s.vm.findClass "com/example/castellan/castellan/config/AssuranceLevel" = some m.cls := findClass_of_methodNamed Bd.named
  have hnm := (name_of_methodNamed Bd.named Bd.method).1
  have X0 : Stand p l e (Rm 3 2 4 38) s m #[(.ref s1a)] below meth c s₁ [] 0 0 := Stand.of_body Bd
  have e0 : s₁.heap = h0 := by rw [← hh, Bd.state]; rfl
  have N0 := Fr.nil n0
  show Goes p.tables e below (fun t o => ∃ v L, o = .returned v ∧ (own_Q14 Z s1a t1a k1a cs z0 oe va kv aL sL tL kL aS sS tS kS aH sH tH kH h0 n0) v t.heap L ∧ FrameEnd s o t L ((Rm 3 2 4 38)).cells ((Rm 3 2 4 38)).slots) _
  refine Goes.via (B := s₁.setTop (mkF m 0 #[rv s1a, u_, u_, u_, u_] [])) (fun t k => castTop (own_ef14 m s1a) k) ?_
  obtain ⟨_, T1, L1, X1, ⟨r1, rfl, M1, K1, z1_0, f1_0⟩, st1⟩ := callStatic X0 hx hZ hown (W_ hw 38 rfl) (W_ hw 39 rfl) (W_ hw 36 rfl) (W_ hw 40 rfl) (by decide) (argsL := []) (rest := []) (own_m3 l Z a0 hw [] va kv aL aS aH h0 n0 O0 O_20 O_21 O_22) e0 (lenOf own_pd3 rfl) (pc := 0) (Ls := #[rv s1a, u_, u_, u_, u_]) (st := []) rfl (by rw [hml]; rfl) (hb hby d_prog_1_4_0) (W := 0) (Nat.le_of_eq rfl) (by decide) (by decide) (by decide) (by decide)
  have N1 := Fr.app N0 M1
  have gn1_0 : n0 ≤ r1 := Nat.le_trans (old_le O0) z1_0
  have gs1_0 : h0.size ≤ r1 := Nat.le_trans (Keep.refl h0 []).1 z1_0
  refine Goes.via (B := T1.setTop (mkF m 3 #[rv s1a, u_, u_, u_, u_] [(.ref r1)])) (fun t k => st1 _ k) ?_
  refine Gv T1 4 [] (fun t k => XS.astoreN X1.here hx rfl (hb hby d_prog_1_4_3) rfl rfl (l' := #[rv s1a, rv r1, u_, u_, u_]) rfl k) ?_
  refine Gv T1 5 [(.ref r1)] (fun t k => XS.aloadN X1.here hx rfl (hb hby d_prog_1_4_4) rfl rfl k) ?_
  obtain ⟨cl2, Ar2, q2, S2, N2, H2, G2⟩ := id f1_0
  refine Goes.via (B := T1.setTop (mkF m 6 #[rv s1a, rv r1, u_, u_, u_] [(.int (3 : Int32))])) (fun t k => X1.arraylength hx (Ar2.1) (State.isArrayOf_alike hZ.alike Ar2.2.1) (g := (mkF m 5 #[rv s1a, rv r1, u_, u_, u_] [(.ref r1)])) rfl rfl (hb hby d_prog_1_4_5) t (by rw [(len_of S2 N2)]; exact k)) ?_
  refine Gv T1 7 [] (fun t k => XS.istoreN X1.here hx rfl (hb hby d_prog_1_4_6) rfl (l' := #[rv s1a, rv r1, iv (3 : Int32), u_, u_]) rfl k) ?_
  refine Gv T1 8 [(.int (0 : Int32))] (fun t k => XS.iconst X1.here hx rfl (hb hby d_prog_1_4_7) k) ?_
  refine Gv T1 9 [] (fun t k => XS.istoreN X1.here hx rfl (hb hby d_prog_1_4_8) rfl (l' := #[rv s1a, rv r1, iv (3 : Int32), iv (0 : Int32), u_]) rfl k) ?_
  refine Gv T1 10 [(.int (0 : Int32))] (fun t k => XS.iloadN X1.here hx rfl (hb hby d_prog_1_4_9) rfl k) ?_
  refine Gv T1 11 [(.int (3 : Int32)), (.int (0 : Int32))] (fun t k => XS.iloadN X1.here hx rfl (hb hby d_prog_1_4_10) rfl k) ?_
  refine Gv T1 14 [] (fun t k => XS.icmpNo X1.here hx rfl (hb hby d_prog_1_4_11) rfl (XT.ii_ge_f (by decide)) k) ?_
  refine Gv T1 15 [(.ref r1)] (fun t k => XS.aloadN X1.here hx rfl (hb hby d_prog_1_4_14) rfl rfl k) ?_
  refine Gv T1 16 [(.int (0 : Int32)), (.ref r1)] (fun t k => XS.iloadN X1.here hx rfl (hb hby d_prog_1_4_15) rfl k) ?_
  obtain ⟨cl3, Ar3, q3, S3, N3, H3, G3⟩ := id f1_0
  have hin3 := inb_of (j := (0 : Int32)) S3 ⟨by decide, by decide⟩
  refine Goes.via (B := T1.setTop (mkF m 17 #[rv s1a, rv r1, iv (3 : Int32), iv (0 : Int32), u_] [(.ref aL)])) (fun t k => X1.aaload hx (j := (0 : Int32)) (v := (.ref aL)) (Ar3.1) (State.isArrayOf_alike hZ.alike Ar3.2.1) rfl Ar3.2.2 hin3 (H3.at hin3 rfl) (g := (mkF m 16 #[rv s1a, rv r1, iv (3 : Int32), iv (0 : Int32), u_] [(.int (0 : Int32)), (.ref r1)])) rfl rfl (hb hby d_prog_1_4_16) t k) ?_
  refine Gv T1 19 [] (fun t k => XS.astore X1.here hx rfl (hb hby d_prog_1_4_17) rfl rfl (l' := #[rv s1a, rv r1, iv (3 : Int32), iv (0 : Int32), rv aL]) rfl k) ?_
  refine Gv T1 21 [(.ref aL)] (fun t k => XS.aload X1.here hx rfl (hb hby d_prog_1_4_19) rfl rfl k) ?_
  obtain ⟨T4, X4, e4, st4⟩ := getF X1 hx hZ hown (host := "") (Or.inl (W_ hw 56 rfl)) Via.refl rfl (O_3.ext (O0.keep K1 all0).2) (g := (mkF m 21 #[rv s1a, rv r1, iv (3 : Int32), iv (0 : Int32), rv aL] [(.ref aL)])) rfl rfl (hb hby d_prog_1_4_21)
  refine Goes.via (B := T4.setTop (mkF m 24 #[rv s1a, rv r1, iv (3 : Int32), iv (0 : Int32), rv aL] [(.ref sL)])) (fun t k => st4 _ k) ?_
  refine Gv T4 25 [(.ref s1a), (.ref sL)] (fun t k => XS.aloadN X4.here hx rfl (hb hby d_prog_1_4_24) rfl rfl k) ?_
  obtain ⟨_, T5, L5, X5, ⟨rfl, M5, K5⟩, st5⟩ := callVirtB X4 hx hZ hown (W_ hw 58 rfl) (W_ hw 59 rfl) (W_ hw 61 rfl) (notFace_of_selects (args := #[]) (mvT hZ (W_ hw 61 rfl))) (W_ hw 60 rfl) (by decide) (argsL := [(.ref s1a)]) (rest := []) (W := 0) (own_eqI (s := s) (W := 0) hZ (own_hw_wordsEq hw) (W_ hw 6 rfl) (x := sL) (cs := own_low) (O_4.ext (O0.keep K1 all0).2) (O_5.ext (O0.keep K1 all0).2) (O_6.ext (O0.keep K1 all0).2) (O_7.ext (O0.keep K1 all0).2) own_lowr own_lowl (y := s1a) (ds := cs) (F_1.keep K1) (F_2.keep K1 nin0) (F_3.keep K1 nin0) (F_4.keep K1 nin0) hcs lcs (Sta.ext (O0.keep K1 all0).2 O_1) hz0 n0 (by decide) (by decide)) e4 (O_4.ext (O0.keep K1 all0).2) (lenOf own_pd4 rfl) (pc := 25) (Ls := #[rv s1a, rv r1, iv (3 : Int32), iv (0 : Int32), rv aL]) (st := [(.ref s1a), (.ref sL)]) rfl (by rw [hml]; rfl) (hb hby d_prog_1_4_25) (Nat.le_of_eq rfl) (by decide) (by decide)
  have N5 := Fr.app N1 M5
  refine Goes.via (B := T5.setTop (mkF m 28 #[rv s1a, rv r1, iv (3 : Int32), iv (0 : Int32), rv aL] [(.int (own_eq own_low cs))])) (fun t k => st5 _ k) ?_
  refine Gv T5 37 [] (fun t k => XS.ifYes X5.here hx rfl (pc0 := 28) (pc' := 37) rfl (hb hby d_prog_1_4_28) rfl (XT.i0_eq_t (own_eq0 (by rw [hc]; decide))) (by decide) (by decide) k) ?_
  refine Gv T5 40 [] (fun t k => XS.iinc X5.here hx rfl (hb hby d_prog_1_4_37) rfl (l' := #[rv s1a, rv r1, iv (3 : Int32), iv ((0 : Int32) + (1 : Int32)), rv aL]) rfl k) ?_
  refine Gv T5 9 [] (fun t k => XS.goto X5.here hx rfl (pc0 := 40) (pc' := 9) rfl (hb hby d_prog_1_4_40) (by decide) (by decide) k) ?_
  have q6 : ((0 : Int32) + (1 : Int32)) = (1 : Int32) := rfl
  rw [q6]
  refine Gv T5 10 [(.int (1 : Int32))] (fun t k => XS.iloadN X5.here hx rfl (hb hby d_prog_1_4_9) rfl k) ?_
  refine Gv T5 11 [(.int (3 : Int32)), (.int (1 : Int32))] (fun t k => XS.iloadN X5.here hx rfl (hb hby d_prog_1_4_10) rfl k) ?_
  refine Gv T5 14 [] (fun t k => XS.icmpNo X5.here hx rfl (hb hby d_prog_1_4_11) rfl (XT.ii_ge_f (by decide)) k) ?_
  refine Gv T5 15 [(.ref r1)] (fun t k => XS.aloadN X5.here hx rfl (hb hby d_prog_1_4_14) rfl rfl k) ?_
  refine Gv T5 16 [(.int (1 : Int32)), (.ref r1)] (fun t k => XS.iloadN X5.here hx rfl (hb hby d_prog_1_4_15) rfl k) ?_
  obtain ⟨cl7, Ar7, q7, S7, N7, H7, G7⟩ := id f1_0
  have hin7 := inb_of (j := (1 : Int32)) S7 ⟨by decide, by decide⟩
  refine Goes.via (B := T5.setTop (mkF m 17 #[rv s1a, rv r1, iv (3 : Int32), iv (1 : Int32), rv aL] [(.ref aS)])) (fun t k => X5.aaload hx (j := (1 : Int32)) (v := (.ref aS)) (by rw [K5]; exact Ar7.1) (State.isArrayOf_alike hZ.alike Ar7.2.1) rfl Ar7.2.2 hin7 (H7.at hin7 rfl) (g := (mkF m 16 #[rv s1a, rv r1, iv (3 : Int32), iv (1 : Int32), rv aL] [(.int (1 : Int32)), (.ref r1)])) rfl rfl (hb hby d_prog_1_4_16) t k) ?_
  refine Gv T5 19 [] (fun t k => XS.astore X5.here hx rfl (hb hby d_prog_1_4_17) rfl rfl (l' := #[rv s1a, rv r1, iv (3 : Int32), iv (1 : Int32), rv aS]) rfl k) ?_
  refine Gv T5 21 [(.ref aS)] (fun t k => XS.aload X5.here hx rfl (hb hby d_prog_1_4_19) rfl rfl k) ?_
  obtain ⟨T8, X8, e8, st8⟩ := getF X5 hx hZ hown (host := "") (Or.inl (W_ hw 56 rfl)) Via.refl K5 (O_9.ext (O0.keep K1 all0).2) (g := (mkF m 21 #[rv s1a, rv r1, iv (3 : Int32), iv (1 : Int32), rv aS] [(.ref aS)])) rfl rfl (hb hby d_prog_1_4_21)
  refine Goes.via (B := T8.setTop (mkF m 24 #[rv s1a, rv r1, iv (3 : Int32), iv (1 : Int32), rv aS] [(.ref sS)])) (fun t k => st8 _ k) ?_
  refine Gv T8 25 [(.ref s1a), (.ref sS)] (fun t k => XS.aloadN X8.here hx rfl (hb hby d_prog_1_4_24) rfl rfl k) ?_
  obtain ⟨_, T9, L9, X9, ⟨rfl, M9, K9⟩, st9⟩ := callVirtB X8 hx hZ hown (W_ hw 58 rfl) (W_ hw 59 rfl) (W_ hw 61 rfl) (notFace_of_selects (args := #[]) (mvT hZ (W_ hw 61 rfl))) (W_ hw 60 rfl) (by decide) (argsL := [(.ref s1a)]) (rest := []) (W := 0) (own_eqI (s := s) (W := 0) hZ (own_hw_wordsEq hw) (W_ hw 6 rfl) (x := sS) (cs := own_sub) (O_10.ext (O0.keep K1 all0).2) (O_11.ext (O0.keep K1 all0).2) (O_12.ext (O0.keep K1 all0).2) (O_13.ext (O0.keep K1 all0).2) own_subr own_subl (y := s1a) (ds := cs) (F_1.keep K1) (F_2.keep K1 nin0) (F_3.keep K1 nin0) (F_4.keep K1 nin0) hcs lcs (Sta.ext (O0.keep K1 all0).2 O_1) hz0 n0 (by decide) (by decide)) e8 (O_10.ext (O0.keep K1 all0).2) (lenOf own_pd4 rfl) (pc := 25) (Ls := #[rv s1a, rv r1, iv (3 : Int32), iv (1 : Int32), rv aS]) (st := [(.ref s1a), (.ref sS)]) rfl (by rw [hml]; rfl) (hb hby d_prog_1_4_25) (Nat.le_of_eq rfl) (by decide) (by decide)
  have N9 := Fr.app N5 M9
  refine Goes.via (B := T9.setTop (mkF m 28 #[rv s1a, rv r1, iv (3 : Int32), iv (1 : Int32), rv aS] [(.int (own_eq own_sub cs))])) (fun t k => st9 _ k) ?_
  refine Gv T9 37 [] (fun t k => XS.ifYes X9.here hx rfl (pc0 := 28) (pc' := 37) rfl (hb hby d_prog_1_4_28) rfl (XT.i0_eq_t (own_eq0 (by rw [hc]; decide))) (by decide) (by decide) k) ?_
  refine Gv T9 40 [] (fun t k => XS.iinc X9.here hx rfl (hb hby d_prog_1_4_37) rfl (l' := #[rv s1a, rv r1, iv (3 : Int32), iv ((1 : Int32) + (1 : Int32)), rv aS]) rfl k) ?_
  refine Gv T9 9 [] (fun t k => XS.goto X9.here hx rfl (pc0 := 40) (pc' := 9) rfl (hb hby d_prog_1_4_40) (by decide) (by decide) k) ?_
  have q10 : ((1 : Int32) + (1 : Int32)) = (2 : Int32) := rfl
  rw [q10]
  refine Gv T9 10 [(.int (2 : Int32))] (fun t k => XS.iloadN X9.here hx rfl (hb hby d_prog_1_4_9) rfl k) ?_
  refine Gv T9 11 [(.int (3 : Int32)), (.int (2 : Int32))] (fun t k => XS.iloadN X9.here hx rfl (hb hby d_prog_1_4_10) rfl k) ?_
  refine Gv T9 14 [] (fun t k => XS.icmpNo X9.here hx rfl (hb hby d_prog_1_4_11) rfl (XT.ii_ge_f (by decide)) k) ?_
  refine Gv T9 15 [(.ref r1)] (fun t k => XS.aloadN X9.here hx rfl (hb hby d_prog_1_4_14) rfl rfl k) ?_
  refine Gv T9 16 [(.int (2 : Int32)), (.ref r1)] (fun t k => XS.iloadN X9.here hx rfl (hb hby d_prog_1_4_15) rfl k) ?_
  obtain ⟨cl11, Ar11, q11, S11, N11, H11, G11⟩ := id f1_0
  have hin11 := inb_of (j := (2 : Int32)) S11 ⟨by decide, by decide⟩
  refine Goes.via (B := T9.setTop (mkF m 17 #[rv s1a, rv r1, iv (3 : Int32), iv (2 : Int32), rv aS] [(.ref aH)])) (fun t k => X9.aaload hx (j := (2 : Int32)) (v := (.ref aH)) (by rw [K9]; exact Ar11.1) (State.isArrayOf_alike hZ.alike Ar11.2.1) rfl Ar11.2.2 hin11 (H11.at hin11 rfl) (g := (mkF m 16 #[rv s1a, rv r1, iv (3 : Int32), iv (2 : Int32), rv aS] [(.int (2 : Int32)), (.ref r1)])) rfl rfl (hb hby d_prog_1_4_16) t k) ?_
  refine Gv T9 19 [] (fun t k => XS.astore X9.here hx rfl (hb hby d_prog_1_4_17) rfl rfl (l' := #[rv s1a, rv r1, iv (3 : Int32), iv (2 : Int32), rv aH]) rfl k) ?_
  refine Gv T9 21 [(.ref aH)] (fun t k => XS.aload X9.here hx rfl (hb hby d_prog_1_4_19) rfl rfl k) ?_
  obtain ⟨T12, X12, e12, st12⟩ := getF X9 hx hZ hown (host := "") (Or.inl (W_ hw 56 rfl)) Via.refl K9 (O_15.ext (O0.keep K1 all0).2) (g := (mkF m 21 #[rv s1a, rv r1, iv (3 : Int32), iv (2 : Int32), rv aH] [(.ref aH)])) rfl rfl (hb hby d_prog_1_4_21)
  refine Goes.via (B := T12.setTop (mkF m 24 #[rv s1a, rv r1, iv (3 : Int32), iv (2 : Int32), rv aH] [(.ref sH)])) (fun t k => st12 _ k) ?_
  refine Gv T12 25 [(.ref s1a), (.ref sH)] (fun t k => XS.aloadN X12.here hx rfl (hb hby d_prog_1_4_24) rfl rfl k) ?_
  obtain ⟨_, T13, L13, X13, ⟨rfl, M13, K13⟩, st13⟩ := callVirtB X12 hx hZ hown (W_ hw 58 rfl) (W_ hw 59 rfl) (W_ hw 61 rfl) (notFace_of_selects (args := #[]) (mvT hZ (W_ hw 61 rfl))) (W_ hw 60 rfl) (by decide) (argsL := [(.ref s1a)]) (rest := []) (W := 0) (own_eqI (s := s) (W := 0) hZ (own_hw_wordsEq hw) (W_ hw 6 rfl) (x := sH) (cs := own_hig) (O_16.ext (O0.keep K1 all0).2) (O_17.ext (O0.keep K1 all0).2) (O_18.ext (O0.keep K1 all0).2) (O_19.ext (O0.keep K1 all0).2) own_higr own_higl (y := s1a) (ds := cs) (F_1.keep K1) (F_2.keep K1 nin0) (F_3.keep K1 nin0) (F_4.keep K1 nin0) hcs lcs (Sta.ext (O0.keep K1 all0).2 O_1) hz0 n0 (by decide) (by decide)) e12 (O_16.ext (O0.keep K1 all0).2) (lenOf own_pd4 rfl) (pc := 25) (Ls := #[rv s1a, rv r1, iv (3 : Int32), iv (2 : Int32), rv aH]) (st := [(.ref s1a), (.ref sH)]) rfl (by rw [hml]; rfl) (hb hby d_prog_1_4_25) (Nat.le_of_eq rfl) (by decide) (by decide)
  have N13 := Fr.app N9 M13
  refine Goes.via (B := T13.setTop (mkF m 28 #[rv s1a, rv r1, iv (3 : Int32), iv (2 : Int32), rv aH] [(.int (own_eq own_hig cs))])) (fun t k => st13 _ k) ?_
  refine Gv T13 31 [] (fun t k => XS.ifNo X13.here hx rfl (hb hby d_prog_1_4_28) rfl (XT.i0_eq_f (own_eqY hc.symm)) k) ?_
  refine Gv T13 33 [(.ref aH)] (fun t k => XS.aload X13.here hx rfl (hb hby d_prog_1_4_31) rfl rfl k) ?_
  obtain ⟨_, T14, L14, X14, ⟨r14, rfl, M14, K14, z14_0, f14_0, f14_1⟩, st14⟩ := callStatic X13 hx hZ hown (W_ hw 68 rfl) (W_ hw 69 rfl) (W_ hw 70 rfl) (W_ hw 71 rfl) (by decide) (argsL := [(.ref aH)]) (rest := []) (own_m6 l Z a0 hw [] aH T1.heap n0 (O0.keep K1 all0) ) K13 (lenOf own_pd5 rfl) (pc := 33) (Ls := #[rv s1a, rv r1, iv (3 : Int32), iv (2 : Int32), rv aH]) (st := [(.ref aH)]) rfl (by rw [hml]; rfl) (hb hby d_prog_1_4_33) (W := 0) (Nat.le_of_eq rfl) (by decide) (by decide) (by decide) (by decide)
  have N14 := Fr.app N13 M14
  have gn14_0 : n0 ≤ r14 := Nat.le_trans (old_le (O0.keep K1 all0)) z14_0
  have gs14_0 : h0.size ≤ r14 := Nat.le_trans ((Keep.refl h0 []).trans K1 all0).1 z14_0
  refine Goes.via (B := T14.setTop (mkF m 36 #[rv s1a, rv r1, iv (3 : Int32), iv (2 : Int32), rv aH] [(.ref r14)])) (fun t k => st14 _ k) ?_
  exact finA (Q := (own_Q14 Z s1a t1a k1a cs z0 oe va kv aL sL tL kL aS sS tS kS aH sH tH kH h0 n0)) (F := FrameEnd) (C := ((Rm 3 2 4 38)).cells) (S := ((Rm 3 2 4 38)).slots) X14 hx Bd.returns rfl rfl rfl (hb hby d_prog_1_4_36) rfl ⟨r14, rfl, N14, (((Keep.refl h0 []).trans K1 all0).trans K14 all0), f14_0, f14_1⟩ (lvN X14 hlk (by decide) (by decide))
theorem d_prog_1_4_43 : decode prog_1_method_4_code 43 = .ok (.invokestatic 52, 3) := by decide +kernel
theorem own_pd6 : parseMethodDescriptor "()Ljava/util/Optional;" = some ⟨[], some (.object "java/util/Optional")⟩ := by decide +kernel
theorem d_prog_1_4_46 : decode prog_1_method_4_code 46 = .ok (.areturn, 1) := by decide +kernel
theorem own_ef15 (m : MethodId) (x0 : Addr)  : entryFrame m #[(.ref x0)] 5 = mkF m 0 #[rv x0, u_, u_, u_, u_] [] := by first | (simp [entryFrame, mkF, argsToLocals, Value.category]; done) | rfl
abbrev own_Q15 (Z : State) (s1a : Addr) (t1a : Addr) (k1a : ClassId) (cs : List Int32) (z0 : Int32) (oe : Addr) (va : Addr) (kv : ClassId) (aL : Addr) (sL : Addr) (tL : Addr) (kL : ClassId) (aS : Addr) (sS : Addr) (tS : Addr) (kS : ClassId) (aH : Addr) (sH : Addr) (tH : Addr) (kH : ClassId) (h0 : Heap) (n0 : Nat) (v : Option Value) (h : Heap) (L : List Loc) : Prop := v = some (.ref oe) ∧ Fr n0 L ∧ Keep h0 h []
set_option maxRecDepth 65536 in
set_option maxHeartbeats 40000000 in
theorem own_m15 (l : Launch) (Z : State) (a0 : Array Value) (hw : ∀ d ∈ tables_1, d.before a0 Z = true) (ws : List Jvm.Cond) (s1a : Addr) (t1a : Addr) (k1a : ClassId) (cs : List Int32) (z0 : Int32) (oe : Addr) (va : Addr) (kv : ClassId) (aL : Addr) (sL : Addr) (tL : Addr) (kL : ClassId) (aS : Addr) (sS : Addr) (tS : Addr) (kS : ClassId) (aH : Addr) (sH : Addr) (tH : Addr) (kH : ClassId) (h0 : Heap) (n0 : Nat) (O0 : Old Z n0 h0) (hz0 : ¬ z0 = (0 : Int32)) (hcs : ∀ c ∈ cs, ¬ c < 0 ∧ ¬ (255 : Int32) < c) (lcs : cs.length ≤ 4000) (hc : ¬ cs = own_low ∧ ¬ cs = own_sub ∧ ¬ cs = own_hig) (O_1 : Sta Z Z.heap "java/lang/String" "COMPACT_STRINGS" "Z" (.int z0)) (O_2 : Exa Z Z.heap aL "com/example/castellan/castellan/config/AssuranceLevel") (O_3 : Fld Z Z.heap aL "com/example/castellan/castellan/config/AssuranceLevel" "value" "Ljava/lang/String;" (.ref sL)) (O_4 : Exa Z Z.heap sL "java/lang/String") (O_5 : Fld Z Z.heap sL "java/lang/String" "value" "[B" (.ref tL)) (O_6 : Fld Z Z.heap sL "java/lang/String" "coder" "B" (.int (0 : Int32))) (O_7 : Arv Z Z.heap tL kL .byte (Int32.ofNat own_low.length) ((own_low.map StrChars.lo8).map Value.int) (.int 0)) (O_8 : Exa Z Z.heap aS "com/example/castellan/castellan/config/AssuranceLevel") (O_9 : Fld Z Z.heap aS "com/example/castellan/castellan/config/AssuranceLevel" "value" "Ljava/lang/String;" (.ref sS)) (O_10 : Exa Z Z.heap sS "java/lang/String") (O_11 : Fld Z Z.heap sS "java/lang/String" "value" "[B" (.ref tS)) (O_12 : Fld Z Z.heap sS "java/lang/String" "coder" "B" (.int (0 : Int32))) (O_13 : Arv Z Z.heap tS kS .byte (Int32.ofNat own_sub.length) ((own_sub.map StrChars.lo8).map Value.int) (.int 0)) (O_14 : Exa Z Z.heap aH "com/example/castellan/castellan/config/AssuranceLevel") (O_15 : Fld Z Z.heap aH "com/example/castellan/castellan/config/AssuranceLevel" "value" "Ljava/lang/String;" (.ref sH)) (O_16 : Exa Z Z.heap sH "java/lang/String") (O_17 : Fld Z Z.heap sH "java/lang/String" "value" "[B" (.ref tH)) (O_18 : Fld Z Z.heap sH "java/lang/String" "coder" "B" (.int (0 : Int32))) (O_19 : Arv Z Z.heap tH kH .byte (Int32.ofNat own_hig.length) ((own_hig.map StrChars.lo8).map Value.int) (.int 0)) (O_20 : Sta Z Z.heap "com/example/castellan/castellan/config/AssuranceLevel" "$VALUES" "[Lcom/example/castellan/castellan/config/AssuranceLevel;" (.ref va)) (O_21 : Exa Z Z.heap va "[Lcom/example/castellan/castellan/config/AssuranceLevel;") (O_22 : Arv Z Z.heap va kv (.object "com/example/castellan/castellan/config/AssuranceLevel") (3 : Int32) [(.ref aL), (.ref aS), (.ref aH)] .null) (O_23 : Sta Z Z.heap "java/util/Optional" "EMPTY" "Ljava/util/Optional;" (.ref oe)) (F_1 : Exa Z h0 s1a "java/lang/String") (F_2 : Fld Z h0 s1a "java/lang/String" "value" "[B" (.ref t1a)) (F_3 : Fld Z h0 s1a "java/lang/String" "coder" "B" (.int (0 : Int32))) (F_4 : Arv Z h0 t1a k1a .byte (Int32.ofNat cs.length) ((cs.map StrChars.lo8).map Value.int) (.int 0)) :
    Ctr l Z (⟨"com/example/castellan/castellan/config/AssuranceLevel", "named", "(Ljava/lang/String;)Ljava/util/Optional;"⟩ : MethodName) prog_1_method_4_code 5 (some (.object "java/util/Optional")) (Rm 2 1 3 28) #[(.ref s1a)] h0 (own_Q15 Z s1a t1a k1a cs z0 oe va kv aL sL tL kL aS sS tS kS aH sH tH kH h0 n0) ws := by
  refine MetFree.of_bodySF (plainFor_of_name own_pn1) hisR ?_
  intro p e s m args below meth c s₁ Bd hml0 hP hK
  obtain ⟨rfl, hZ, hh⟩ := hP
  have hx := Bd.exec
  have hby := Bd.bytes
  have hlk : meth.locks = false := Bd.notSynchronized
  have hml : c.maxLocals = 5 := hml0
  have hown : s.vm.findClass "com/example/castellan/castellan/config/AssuranceLevel" = some m.cls := findClass_of_methodNamed Bd.named
  have hnm := (name_of_methodNamed Bd.named Bd.method).1
  have X0 : Stand p l e (Rm 2 1 3 28) s m #[(.ref s1a)] below meth c s₁ [] 0 0 := Stand.of_body Bd
  have e0 : s₁.heap = h0 := by rw [← hh, Bd.state]; rfl
  have N0 := Fr.nil n0
  show Goes p.tables e below (fun t o => ∃ v L, o = .returned v ∧ (own_Q15 Z s1a t1a k1a cs z0 oe va kv aL sL tL kL aS sS tS kS aH sH tH kH h0 n0) v t.heap L ∧ FrameEnd s o t L ((Rm 2 1 3 28)).cells ((Rm 2 1 3 28)).slots) _
  refine Goes.via (B := s₁.setTop (mkF m 0 #[rv s1a, u_, u_, u_, u_] [])) (fun t k => castTop (own_ef15 m s1a) k) ?_
  obtain ⟨_, T1, L1, X1, ⟨r1, rfl, M1, K1, z1_0, f1_0⟩, st1⟩ := callStatic X0 hx hZ hown (W_ hw 38 rfl) (W_ hw 39 rfl) (W_ hw 36 rfl) (W_ hw 40 rfl) (by decide) (argsL := []) (rest := []) (own_m3 l Z a0 hw [] va kv aL aS aH h0 n0 O0 O_20 O_21 O_22) e0 (lenOf own_pd3 rfl) (pc := 0) (Ls := #[rv s1a, u_, u_, u_, u_]) (st := []) rfl (by rw [hml]; rfl) (hb hby d_prog_1_4_0) (W := 0) (Nat.le_of_eq rfl) (by decide) (by decide) (by decide) (by decide)
  have N1 := Fr.app N0 M1
  have gn1_0 : n0 ≤ r1 := Nat.le_trans (old_le O0) z1_0
  have gs1_0 : h0.size ≤ r1 := Nat.le_trans (Keep.refl h0 []).1 z1_0
  refine Goes.via (B := T1.setTop (mkF m 3 #[rv s1a, u_, u_, u_, u_] [(.ref r1)])) (fun t k => st1 _ k) ?_
  refine Gv T1 4 [] (fun t k => XS.astoreN X1.here hx rfl (hb hby d_prog_1_4_3) rfl rfl (l' := #[rv s1a, rv r1, u_, u_, u_]) rfl k) ?_
  refine Gv T1 5 [(.ref r1)] (fun t k => XS.aloadN X1.here hx rfl (hb hby d_prog_1_4_4) rfl rfl k) ?_
  obtain ⟨cl2, Ar2, q2, S2, N2, H2, G2⟩ := id f1_0
  refine Goes.via (B := T1.setTop (mkF m 6 #[rv s1a, rv r1, u_, u_, u_] [(.int (3 : Int32))])) (fun t k => X1.arraylength hx (Ar2.1) (State.isArrayOf_alike hZ.alike Ar2.2.1) (g := (mkF m 5 #[rv s1a, rv r1, u_, u_, u_] [(.ref r1)])) rfl rfl (hb hby d_prog_1_4_5) t (by rw [(len_of S2 N2)]; exact k)) ?_
  refine Gv T1 7 [] (fun t k => XS.istoreN X1.here hx rfl (hb hby d_prog_1_4_6) rfl (l' := #[rv s1a, rv r1, iv (3 : Int32), u_, u_]) rfl k) ?_
  refine Gv T1 8 [(.int (0 : Int32))] (fun t k => XS.iconst X1.here hx rfl (hb hby d_prog_1_4_7) k) ?_
  refine Gv T1 9 [] (fun t k => XS.istoreN X1.here hx rfl (hb hby d_prog_1_4_8) rfl (l' := #[rv s1a, rv r1, iv (3 : Int32), iv (0 : Int32), u_]) rfl k) ?_
  refine Gv T1 10 [(.int (0 : Int32))] (fun t k => XS.iloadN X1.here hx rfl (hb hby d_prog_1_4_9) rfl k) ?_
  refine Gv T1 11 [(.int (3 : Int32)), (.int (0 : Int32))] (fun t k => XS.iloadN X1.here hx rfl (hb hby d_prog_1_4_10) rfl k) ?_
  refine Gv T1 14 [] (fun t k => XS.icmpNo X1.here hx rfl (hb hby d_prog_1_4_11) rfl (XT.ii_ge_f (by decide)) k) ?_
  refine Gv T1 15 [(.ref r1)] (fun t k => XS.aloadN X1.here hx rfl (hb hby d_prog_1_4_14) rfl rfl k) ?_
  refine Gv T1 16 [(.int (0 : Int32)), (.ref r1)] (fun t k => XS.iloadN X1.here hx rfl (hb hby d_prog_1_4_15) rfl k) ?_
  obtain ⟨cl3, Ar3, q3, S3, N3, H3, G3⟩ := id f1_0
  have hin3 := inb_of (j := (0 : Int32)) S3 ⟨by decide, by decide⟩
  refine Goes.via (B := T1.setTop (mkF m 17 #[rv s1a, rv r1, iv (3 : Int32), iv (0 : Int32), u_] [(.ref aL)])) (fun t k => X1.aaload hx (j := (0 : Int32)) (v := (.ref aL)) (Ar3.1) (State.isArrayOf_alike hZ.alike Ar3.2.1) rfl Ar3.2.2 hin3 (H3.at hin3 rfl) (g := (mkF m 16 #[rv s1a, rv r1, iv (3 : Int32), iv (0 : Int32), u_] [(.int (0 : Int32)), (.ref r1)])) rfl rfl (hb hby d_prog_1_4_16) t k) ?_
  refine Gv T1 19 [] (fun t k => XS.astore X1.here hx rfl (hb hby d_prog_1_4_17) rfl rfl (l' := #[rv s1a, rv r1, iv (3 : Int32), iv (0 : Int32), rv aL]) rfl k) ?_
  refine Gv T1 21 [(.ref aL)] (fun t k => XS.aload X1.here hx rfl (hb hby d_prog_1_4_19) rfl rfl k) ?_
  obtain ⟨T4, X4, e4, st4⟩ := getF X1 hx hZ hown (host := "") (Or.inl (W_ hw 56 rfl)) Via.refl rfl (O_3.ext (O0.keep K1 all0).2) (g := (mkF m 21 #[rv s1a, rv r1, iv (3 : Int32), iv (0 : Int32), rv aL] [(.ref aL)])) rfl rfl (hb hby d_prog_1_4_21)
  refine Goes.via (B := T4.setTop (mkF m 24 #[rv s1a, rv r1, iv (3 : Int32), iv (0 : Int32), rv aL] [(.ref sL)])) (fun t k => st4 _ k) ?_
  refine Gv T4 25 [(.ref s1a), (.ref sL)] (fun t k => XS.aloadN X4.here hx rfl (hb hby d_prog_1_4_24) rfl rfl k) ?_
  obtain ⟨_, T5, L5, X5, ⟨rfl, M5, K5⟩, st5⟩ := callVirtB X4 hx hZ hown (W_ hw 58 rfl) (W_ hw 59 rfl) (W_ hw 61 rfl) (notFace_of_selects (args := #[]) (mvT hZ (W_ hw 61 rfl))) (W_ hw 60 rfl) (by decide) (argsL := [(.ref s1a)]) (rest := []) (W := 0) (own_eqI (s := s) (W := 0) hZ (own_hw_wordsEq hw) (W_ hw 6 rfl) (x := sL) (cs := own_low) (O_4.ext (O0.keep K1 all0).2) (O_5.ext (O0.keep K1 all0).2) (O_6.ext (O0.keep K1 all0).2) (O_7.ext (O0.keep K1 all0).2) own_lowr own_lowl (y := s1a) (ds := cs) (F_1.keep K1) (F_2.keep K1 nin0) (F_3.keep K1 nin0) (F_4.keep K1 nin0) hcs lcs (Sta.ext (O0.keep K1 all0).2 O_1) hz0 n0 (by decide) (by decide)) e4 (O_4.ext (O0.keep K1 all0).2) (lenOf own_pd4 rfl) (pc := 25) (Ls := #[rv s1a, rv r1, iv (3 : Int32), iv (0 : Int32), rv aL]) (st := [(.ref s1a), (.ref sL)]) rfl (by rw [hml]; rfl) (hb hby d_prog_1_4_25) (Nat.le_of_eq rfl) (by decide) (by decide)
  have N5 := Fr.app N1 M5
  refine Goes.via (B := T5.setTop (mkF m 28 #[rv s1a, rv r1, iv (3 : Int32), iv (0 : Int32), rv aL] [(.int (own_eq own_low cs))])) (fun t k => st5 _ k) ?_
  refine Gv T5 37 [] (fun t k => XS.ifYes X5.here hx rfl (pc0 := 28) (pc' := 37) rfl (hb hby d_prog_1_4_28) rfl (XT.i0_eq_t (own_eq0 fun z => hc.1 z.symm)) (by decide) (by decide) k) ?_
  refine Gv T5 40 [] (fun t k => XS.iinc X5.here hx rfl (hb hby d_prog_1_4_37) rfl (l' := #[rv s1a, rv r1, iv (3 : Int32), iv ((0 : Int32) + (1 : Int32)), rv aL]) rfl k) ?_
  refine Gv T5 9 [] (fun t k => XS.goto X5.here hx rfl (pc0 := 40) (pc' := 9) rfl (hb hby d_prog_1_4_40) (by decide) (by decide) k) ?_
  have q6 : ((0 : Int32) + (1 : Int32)) = (1 : Int32) := rfl
  rw [q6]
  refine Gv T5 10 [(.int (1 : Int32))] (fun t k => XS.iloadN X5.here hx rfl (hb hby d_prog_1_4_9) rfl k) ?_
  refine Gv T5 11 [(.int (3 : Int32)), (.int (1 : Int32))] (fun t k => XS.iloadN X5.here hx rfl (hb hby d_prog_1_4_10) rfl k) ?_
  refine Gv T5 14 [] (fun t k => XS.icmpNo X5.here hx rfl (hb hby d_prog_1_4_11) rfl (XT.ii_ge_f (by decide)) k) ?_
  refine Gv T5 15 [(.ref r1)] (fun t k => XS.aloadN X5.here hx rfl (hb hby d_prog_1_4_14) rfl rfl k) ?_
  refine Gv T5 16 [(.int (1 : Int32)), (.ref r1)] (fun t k => XS.iloadN X5.here hx rfl (hb hby d_prog_1_4_15) rfl k) ?_
  obtain ⟨cl7, Ar7, q7, S7, N7, H7, G7⟩ := id f1_0
  have hin7 := inb_of (j := (1 : Int32)) S7 ⟨by decide, by decide⟩
  refine Goes.via (B := T5.setTop (mkF m 17 #[rv s1a, rv r1, iv (3 : Int32), iv (1 : Int32), rv aL] [(.ref aS)])) (fun t k => X5.aaload hx (j := (1 : Int32)) (v := (.ref aS)) (by rw [K5]; exact Ar7.1) (State.isArrayOf_alike hZ.alike Ar7.2.1) rfl Ar7.2.2 hin7 (H7.at hin7 rfl) (g := (mkF m 16 #[rv s1a, rv r1, iv (3 : Int32), iv (1 : Int32), rv aL] [(.int (1 : Int32)), (.ref r1)])) rfl rfl (hb hby d_prog_1_4_16) t k) ?_
  refine Gv T5 19 [] (fun t k => XS.astore X5.here hx rfl (hb hby d_prog_1_4_17) rfl rfl (l' := #[rv s1a, rv r1, iv (3 : Int32), iv (1 : Int32), rv aS]) rfl k) ?_
  refine Gv T5 21 [(.ref aS)] (fun t k => XS.aload X5.here hx rfl (hb hby d_prog_1_4_19) rfl rfl k) ?_
  obtain ⟨T8, X8, e8, st8⟩ := getF X5 hx hZ hown (host := "") (Or.inl (W_ hw 56 rfl)) Via.refl K5 (O_9.ext (O0.keep K1 all0).2) (g := (mkF m 21 #[rv s1a, rv r1, iv (3 : Int32), iv (1 : Int32), rv aS] [(.ref aS)])) rfl rfl (hb hby d_prog_1_4_21)
  refine Goes.via (B := T8.setTop (mkF m 24 #[rv s1a, rv r1, iv (3 : Int32), iv (1 : Int32), rv aS] [(.ref sS)])) (fun t k => st8 _ k) ?_
  refine Gv T8 25 [(.ref s1a), (.ref sS)] (fun t k => XS.aloadN X8.here hx rfl (hb hby d_prog_1_4_24) rfl rfl k) ?_
  obtain ⟨_, T9, L9, X9, ⟨rfl, M9, K9⟩, st9⟩ := callVirtB X8 hx hZ hown (W_ hw 58 rfl) (W_ hw 59 rfl) (W_ hw 61 rfl) (notFace_of_selects (args := #[]) (mvT hZ (W_ hw 61 rfl))) (W_ hw 60 rfl) (by decide) (argsL := [(.ref s1a)]) (rest := []) (W := 0) (own_eqI (s := s) (W := 0) hZ (own_hw_wordsEq hw) (W_ hw 6 rfl) (x := sS) (cs := own_sub) (O_10.ext (O0.keep K1 all0).2) (O_11.ext (O0.keep K1 all0).2) (O_12.ext (O0.keep K1 all0).2) (O_13.ext (O0.keep K1 all0).2) own_subr own_subl (y := s1a) (ds := cs) (F_1.keep K1) (F_2.keep K1 nin0) (F_3.keep K1 nin0) (F_4.keep K1 nin0) hcs lcs (Sta.ext (O0.keep K1 all0).2 O_1) hz0 n0 (by decide) (by decide)) e8 (O_10.ext (O0.keep K1 all0).2) (lenOf own_pd4 rfl) (pc := 25) (Ls := #[rv s1a, rv r1, iv (3 : Int32), iv (1 : Int32), rv aS]) (st := [(.ref s1a), (.ref sS)]) rfl (by rw [hml]; rfl) (hb hby d_prog_1_4_25) (Nat.le_of_eq rfl) (by decide) (by decide)
  have N9 := Fr.app N5 M9
  refine Goes.via (B := T9.setTop (mkF m 28 #[rv s1a, rv r1, iv (3 : Int32), iv (1 : Int32), rv aS] [(.int (own_eq own_sub cs))])) (fun t k => st9 _ k) ?_
  refine Gv T9 37 [] (fun t k => XS.ifYes X9.here hx rfl (pc0 := 28) (pc' := 37) rfl (hb hby d_prog_1_4_28) rfl (XT.i0_eq_t (own_eq0 fun z => hc.2.1 z.symm)) (by decide) (by decide) k) ?_
  refine Gv T9 40 [] (fun t k => XS.iinc X9.here hx rfl (hb hby d_prog_1_4_37) rfl (l' := #[rv s1a, rv r1, iv (3 : Int32), iv ((1 : Int32) + (1 : Int32)), rv aS]) rfl k) ?_
  refine Gv T9 9 [] (fun t k => XS.goto X9.here hx rfl (pc0 := 40) (pc' := 9) rfl (hb hby d_prog_1_4_40) (by decide) (by decide) k) ?_
  have q10 : ((1 : Int32) + (1 : Int32)) = (2 : Int32) := rfl
  rw [q10]
  refine Gv T9 10 [(.int (2 : Int32))] (fun t k => XS.iloadN X9.here hx rfl (hb hby d_prog_1_4_9) rfl k) ?_
  refine Gv T9 11 [(.int (3 : Int32)), (.int (2 : Int32))] (fun t k => XS.iloadN X9.here hx rfl (hb hby d_prog_1_4_10) rfl k) ?_
  refine Gv T9 14 [] (fun t k => XS.icmpNo X9.here hx rfl (hb hby d_prog_1_4_11) rfl (XT.ii_ge_f (by decide)) k) ?_
  refine Gv T9 15 [(.ref r1)] (fun t k => XS.aloadN X9.here hx rfl (hb hby d_prog_1_4_14) rfl rfl k) ?_
  refine Gv T9 16 [(.int (2 : Int32)), (.ref r1)] (fun t k => XS.iloadN X9.here hx rfl (hb hby d_prog_1_4_15) rfl k) ?_
  obtain ⟨cl11, Ar11, q11, S11, N11, H11, G11⟩ := id f1_0
  have hin11 := inb_of (j := (2 : Int32)) S11 ⟨by decide, by decide⟩
  refine Goes.via (B := T9.setTop (mkF m 17 #[rv s1a, rv r1, iv (3 : Int32), iv (2 : Int32), rv aS] [(.ref aH)])) (fun t k => X9.aaload hx (j := (2 : Int32)) (v := (.ref aH)) (by rw [K9]; exact Ar11.1) (State.isArrayOf_alike hZ.alike Ar11.2.1) rfl Ar11.2.2 hin11 (H11.at hin11 rfl) (g := (mkF m 16 #[rv s1a, rv r1, iv (3 : Int32), iv (2 : Int32), rv aS] [(.int (2 : Int32)), (.ref r1)])) rfl rfl (hb hby d_prog_1_4_16) t k) ?_
  refine Gv T9 19 [] (fun t k => XS.astore X9.here hx rfl (hb hby d_prog_1_4_17) rfl rfl (l' := #[rv s1a, rv r1, iv (3 : Int32), iv (2 : Int32), rv aH]) rfl k) ?_
  refine Gv T9 21 [(.ref aH)] (fun t k => XS.aload X9.here hx rfl (hb hby d_prog_1_4_19) rfl rfl k) ?_
  obtain ⟨T12, X12, e12, st12⟩ := getF X9 hx hZ hown (host := "") (Or.inl (W_ hw 56 rfl)) Via.refl K9 (O_15.ext (O0.keep K1 all0).2) (g := (mkF m 21 #[rv s1a, rv r1, iv (3 : Int32), iv (2 : Int32), rv aH] [(.ref aH)])) rfl rfl (hb hby d_prog_1_4_21)
  refine Goes.via (B := T12.setTop (mkF m 24 #[rv s1a, rv r1, iv (3 : Int32), iv (2 : Int32), rv aH] [(.ref sH)])) (fun t k => st12 _ k) ?_
  refine Gv T12 25 [(.ref s1a), (.ref sH)] (fun t k => XS.aloadN X12.here hx rfl (hb hby d_prog_1_4_24) rfl rfl k) ?_
  obtain ⟨_, T13, L13, X13, ⟨rfl, M13, K13⟩, st13⟩ := callVirtB X12 hx hZ hown (W_ hw 58 rfl) (W_ hw 59 rfl) (W_ hw 61 rfl) (notFace_of_selects (args := #[]) (mvT hZ (W_ hw 61 rfl))) (W_ hw 60 rfl) (by decide) (argsL := [(.ref s1a)]) (rest := []) (W := 0) (own_eqI (s := s) (W := 0) hZ (own_hw_wordsEq hw) (W_ hw 6 rfl) (x := sH) (cs := own_hig) (O_16.ext (O0.keep K1 all0).2) (O_17.ext (O0.keep K1 all0).2) (O_18.ext (O0.keep K1 all0).2) (O_19.ext (O0.keep K1 all0).2) own_higr own_higl (y := s1a) (ds := cs) (F_1.keep K1) (F_2.keep K1 nin0) (F_3.keep K1 nin0) (F_4.keep K1 nin0) hcs lcs (Sta.ext (O0.keep K1 all0).2 O_1) hz0 n0 (by decide) (by decide)) e12 (O_16.ext (O0.keep K1 all0).2) (lenOf own_pd4 rfl) (pc := 25) (Ls := #[rv s1a, rv r1, iv (3 : Int32), iv (2 : Int32), rv aH]) (st := [(.ref s1a), (.ref sH)]) rfl (by rw [hml]; rfl) (hb hby d_prog_1_4_25) (Nat.le_of_eq rfl) (by decide) (by decide)
  have N13 := Fr.app N9 M13
  refine Goes.via (B := T13.setTop (mkF m 28 #[rv s1a, rv r1, iv (3 : Int32), iv (2 : Int32), rv aH] [(.int (own_eq own_hig cs))])) (fun t k => st13 _ k) ?_
  refine Gv T13 37 [] (fun t k => XS.ifYes X13.here hx rfl (pc0 := 28) (pc' := 37) rfl (hb hby d_prog_1_4_28) rfl (XT.i0_eq_t (own_eq0 fun z => hc.2.2 z.symm)) (by decide) (by decide) k) ?_
  refine Gv T13 40 [] (fun t k => XS.iinc X13.here hx rfl (hb hby d_prog_1_4_37) rfl (l' := #[rv s1a, rv r1, iv (3 : Int32), iv ((2 : Int32) + (1 : Int32)), rv aH]) rfl k) ?_
  refine Gv T13 9 [] (fun t k => XS.goto X13.here hx rfl (pc0 := 40) (pc' := 9) rfl (hb hby d_prog_1_4_40) (by decide) (by decide) k) ?_
  have q14 : ((2 : Int32) + (1 : Int32)) = (3 : Int32) := rfl
  rw [q14]
  refine Gv T13 10 [(.int (3 : Int32))] (fun t k => XS.iloadN X13.here hx rfl (hb hby d_prog_1_4_9) rfl k) ?_
  refine Gv T13 11 [(.int (3 : Int32)), (.int (3 : Int32))] (fun t k => XS.iloadN X13.here hx rfl (hb hby d_prog_1_4_10) rfl k) ?_
  refine Gv T13 43 [] (fun t k => XS.icmpYes X13.here hx rfl (pc0 := 11) (pc' := 43) rfl (hb hby d_prog_1_4_11) rfl (XT.ii_ge_t (by decide)) (by decide) (by decide) k) ?_
  obtain ⟨_, T15, L15, X15, ⟨rfl, M15, K15⟩, st15⟩ := callStatic X13 hx hZ hown (W_ hw 99 rfl) (W_ hw 100 rfl) (W_ hw 70 rfl) (W_ hw 101 rfl) (by decide) (argsL := []) (rest := []) (own_m7 l Z a0 hw [] oe T1.heap n0 (O0.keep K1 all0) O_23) K13 (lenOf own_pd6 rfl) (pc := 43) (Ls := #[rv s1a, rv r1, iv (3 : Int32), iv (3 : Int32), rv aH]) (st := []) rfl (by rw [hml]; rfl) (hb hby d_prog_1_4_43) (W := 0) (Nat.le_of_eq rfl) (by decide) (by decide) (by decide) (by decide)
  have N15 := Fr.app N13 M15
  refine Goes.via (B := T15.setTop (mkF m 46 #[rv s1a, rv r1, iv (3 : Int32), iv (3 : Int32), rv aH] [(.ref oe)])) (fun t k => st15 _ k) ?_
  exact finA (Q := (own_Q15 Z s1a t1a k1a cs z0 oe va kv aL sL tL kL aS sS tS kS aH sH tH kH h0 n0)) (F := FrameEnd) (C := ((Rm 2 1 3 28)).cells) (S := ((Rm 2 1 3 28)).slots) X15 hx Bd.returns rfl rfl rfl (hb hby d_prog_1_4_46) K15 ⟨rfl, N15, ((Keep.refl h0 []).trans K1 all0)⟩ (lvN X15 hlk (by decide) (by decide))
theorem own_ef16 (m : MethodId)   : entryFrame m #[.null] 5 = mkF m 0 #[.val .null, u_, u_, u_, u_] [] := by first | (simp [entryFrame, mkF, argsToLocals, Value.category]; done) | rfl
abbrev own_Q16 (Z : State) (z0 : Int32) (oe : Addr) (va : Addr) (kv : ClassId) (aL : Addr) (sL : Addr) (tL : Addr) (kL : ClassId) (aS : Addr) (sS : Addr) (tS : Addr) (kS : ClassId) (aH : Addr) (sH : Addr) (tH : Addr) (kH : ClassId) (h0 : Heap) (n0 : Nat) (v : Option Value) (h : Heap) (L : List Loc) : Prop := v = some (.ref oe) ∧ Fr n0 L ∧ Keep h0 h []
set_option maxRecDepth 65536 in
set_option maxHeartbeats 40000000 in
theorem own_m16 (l : Launch) (Z : State) (a0 : Array Value) (hw : ∀ d ∈ tables_1, d.before a0 Z = true) (ws : List Jvm.Cond) (z0 : Int32) (oe : Addr) (va : Addr) (kv : ClassId) (aL : Addr) (sL : Addr) (tL : Addr) (kL : ClassId) (aS : Addr) (sS : Addr) (tS : Addr) (kS : ClassId) (aH : Addr) (sH : Addr) (tH : Addr) (kH : ClassId) (h0 : Heap) (n0 : Nat) (O0 : Old Z n0 h0) (O_1 : Exa Z Z.heap aL "com/example/castellan/castellan/config/AssuranceLevel") (O_2 : Fld Z Z.heap aL "com/example/castellan/castellan/config/AssuranceLevel" "value" "Ljava/lang/String;" (.ref sL)) (O_3 : Exa Z Z.heap sL "java/lang/String") (O_4 : Fld Z Z.heap sL "java/lang/String" "value" "[B" (.ref tL)) (O_5 : Fld Z Z.heap sL "java/lang/String" "coder" "B" (.int (0 : Int32))) (O_6 : Arv Z Z.heap tL kL .byte (Int32.ofNat own_low.length) ((own_low.map StrChars.lo8).map Value.int) (.int 0)) (O_7 : Exa Z Z.heap aS "com/example/castellan/castellan/config/AssuranceLevel") (O_8 : Fld Z Z.heap aS "com/example/castellan/castellan/config/AssuranceLevel" "value" "Ljava/lang/String;" (.ref sS)) (O_9 : Exa Z Z.heap sS "java/lang/String") (O_10 : Fld Z Z.heap sS "java/lang/String" "value" "[B" (.ref tS)) (O_11 : Fld Z Z.heap sS "java/lang/String" "coder" "B" (.int (0 : Int32))) (O_12 : Arv Z Z.heap tS kS .byte (Int32.ofNat own_sub.length) ((own_sub.map StrChars.lo8).map Value.int) (.int 0)) (O_13 : Exa Z Z.heap aH "com/example/castellan/castellan/config/AssuranceLevel") (O_14 : Fld Z Z.heap aH "com/example/castellan/castellan/config/AssuranceLevel" "value" "Ljava/lang/String;" (.ref sH)) (O_15 : Exa Z Z.heap sH "java/lang/String") (O_16 : Fld Z Z.heap sH "java/lang/String" "value" "[B" (.ref tH)) (O_17 : Fld Z Z.heap sH "java/lang/String" "coder" "B" (.int (0 : Int32))) (O_18 : Arv Z Z.heap tH kH .byte (Int32.ofNat own_hig.length) ((own_hig.map StrChars.lo8).map Value.int) (.int 0)) (O_19 : Sta Z Z.heap "com/example/castellan/castellan/config/AssuranceLevel" "$VALUES" "[Lcom/example/castellan/castellan/config/AssuranceLevel;" (.ref va)) (O_20 : Exa Z Z.heap va "[Lcom/example/castellan/castellan/config/AssuranceLevel;") (O_21 : Arv Z Z.heap va kv (.object "com/example/castellan/castellan/config/AssuranceLevel") (3 : Int32) [(.ref aL), (.ref aS), (.ref aH)] .null) (O_22 : Sta Z Z.heap "java/util/Optional" "EMPTY" "Ljava/util/Optional;" (.ref oe)) :
    Ctr l Z (⟨"com/example/castellan/castellan/config/AssuranceLevel", "named", "(Ljava/lang/String;)Ljava/util/Optional;"⟩ : MethodName) prog_1_method_4_code 5 (some (.object "java/util/Optional")) (Rm 2 1 3 25) #[.null] h0 (own_Q16 Z z0 oe va kv aL sL tL kL aS sS tS kS aH sH tH kH h0 n0) ws := by
  refine MetFree.of_bodySF (plainFor_of_name own_pn1) hisR ?_
  intro p e s m args below meth c s₁ Bd hml0 hP hK
  obtain ⟨rfl, hZ, hh⟩ := hP
  have hx := Bd.exec
  have hby := Bd.bytes
  have hlk : meth.locks = false := Bd.notSynchronized
  have hml : c.maxLocals = 5 := hml0
  have hown : s.vm.findClass "com/example/castellan/castellan/config/AssuranceLevel" = some m.cls := findClass_of_methodNamed Bd.named
  have hnm := (name_of_methodNamed Bd.named Bd.method).1
  have X0 : Stand p l e (Rm 2 1 3 25) s m #[.null] below meth c s₁ [] 0 0 := Stand.of_body Bd
  have e0 : s₁.heap = h0 := by rw [← hh, Bd.state]; rfl
  have N0 := Fr.nil n0
  show Goes p.tables e below (fun t o => ∃ v L, o = .returned v ∧ (own_Q16 Z z0 oe va kv aL sL tL kL aS sS tS kS aH sH tH kH h0 n0) v t.heap L ∧ FrameEnd s o t L ((Rm 2 1 3 25)).cells ((Rm 2 1 3 25)).slots) _
  refine Goes.via (B := s₁.setTop (mkF m 0 #[.val .null, u_, u_, u_, u_] [])) (fun t k => castTop (own_ef16 m ) k) ?_
  obtain ⟨_, T1, L1, X1, ⟨r1, rfl, M1, K1, z1_0, f1_0⟩, st1⟩ := callStatic X0 hx hZ hown (W_ hw 38 rfl) (W_ hw 39 rfl) (W_ hw 36 rfl) (W_ hw 40 rfl) (by decide) (argsL := []) (rest := []) (own_m3 l Z a0 hw [] va kv aL aS aH h0 n0 O0 O_19 O_20 O_21) e0 (lenOf own_pd3 rfl) (pc := 0) (Ls := #[.val .null, u_, u_, u_, u_]) (st := []) rfl (by rw [hml]; rfl) (hb hby d_prog_1_4_0) (W := 0) (Nat.le_of_eq rfl) (by decide) (by decide) (by decide) (by decide)
  have N1 := Fr.app N0 M1
  have gn1_0 : n0 ≤ r1 := Nat.le_trans (old_le O0) z1_0
  have gs1_0 : h0.size ≤ r1 := Nat.le_trans (Keep.refl h0 []).1 z1_0
  refine Goes.via (B := T1.setTop (mkF m 3 #[.val .null, u_, u_, u_, u_] [(.ref r1)])) (fun t k => st1 _ k) ?_
  refine Gv T1 4 [] (fun t k => XS.astoreN X1.here hx rfl (hb hby d_prog_1_4_3) rfl rfl (l' := #[.val .null, rv r1, u_, u_, u_]) rfl k) ?_
  refine Gv T1 5 [(.ref r1)] (fun t k => XS.aloadN X1.here hx rfl (hb hby d_prog_1_4_4) rfl rfl k) ?_
  obtain ⟨cl2, Ar2, q2, S2, N2, H2, G2⟩ := id f1_0
  refine Goes.via (B := T1.setTop (mkF m 6 #[.val .null, rv r1, u_, u_, u_] [(.int (3 : Int32))])) (fun t k => X1.arraylength hx (Ar2.1) (State.isArrayOf_alike hZ.alike Ar2.2.1) (g := (mkF m 5 #[.val .null, rv r1, u_, u_, u_] [(.ref r1)])) rfl rfl (hb hby d_prog_1_4_5) t (by rw [(len_of S2 N2)]; exact k)) ?_
  refine Gv T1 7 [] (fun t k => XS.istoreN X1.here hx rfl (hb hby d_prog_1_4_6) rfl (l' := #[.val .null, rv r1, iv (3 : Int32), u_, u_]) rfl k) ?_
  refine Gv T1 8 [(.int (0 : Int32))] (fun t k => XS.iconst X1.here hx rfl (hb hby d_prog_1_4_7) k) ?_
  refine Gv T1 9 [] (fun t k => XS.istoreN X1.here hx rfl (hb hby d_prog_1_4_8) rfl (l' := #[.val .null, rv r1, iv (3 : Int32), iv (0 : Int32), u_]) rfl k) ?_
  refine Gv T1 10 [(.int (0 : Int32))] (fun t k => XS.iloadN X1.here hx rfl (hb hby d_prog_1_4_9) rfl k) ?_
  refine Gv T1 11 [(.int (3 : Int32)), (.int (0 : Int32))] (fun t k => XS.iloadN X1.here hx rfl (hb hby d_prog_1_4_10) rfl k) ?_
  refine Gv T1 14 [] (fun t k => XS.icmpNo X1.here hx rfl (hb hby d_prog_1_4_11) rfl (XT.ii_ge_f (by decide)) k) ?_
  refine Gv T1 15 [(.ref r1)] (fun t k => XS.aloadN X1.here hx rfl (hb hby d_prog_1_4_14) rfl rfl k) ?_
  refine Gv T1 16 [(.int (0 : Int32)), (.ref r1)] (fun t k => XS.iloadN X1.here hx rfl (hb hby d_prog_1_4_15) rfl k) ?_
  obtain ⟨cl3, Ar3, q3, S3, N3, H3, G3⟩ := id f1_0
  have hin3 := inb_of (j := (0 : Int32)) S3 ⟨by decide, by decide⟩
  refine Goes.via (B := T1.setTop (mkF m 17 #[.val .null, rv r1, iv (3 : Int32), iv (0 : Int32), u_] [(.ref aL)])) (fun t k => X1.aaload hx (j := (0 : Int32)) (v := (.ref aL)) (Ar3.1) (State.isArrayOf_alike hZ.alike Ar3.2.1) rfl Ar3.2.2 hin3 (H3.at hin3 rfl) (g := (mkF m 16 #[.val .null, rv r1, iv (3 : Int32), iv (0 : Int32), u_] [(.int (0 : Int32)), (.ref r1)])) rfl rfl (hb hby d_prog_1_4_16) t k) ?_
  refine Gv T1 19 [] (fun t k => XS.astore X1.here hx rfl (hb hby d_prog_1_4_17) rfl rfl (l' := #[.val .null, rv r1, iv (3 : Int32), iv (0 : Int32), rv aL]) rfl k) ?_
  refine Gv T1 21 [(.ref aL)] (fun t k => XS.aload X1.here hx rfl (hb hby d_prog_1_4_19) rfl rfl k) ?_
  obtain ⟨T4, X4, e4, st4⟩ := getF X1 hx hZ hown (host := "") (Or.inl (W_ hw 56 rfl)) Via.refl rfl (O_2.ext (O0.keep K1 all0).2) (g := (mkF m 21 #[.val .null, rv r1, iv (3 : Int32), iv (0 : Int32), rv aL] [(.ref aL)])) rfl rfl (hb hby d_prog_1_4_21)
  refine Goes.via (B := T4.setTop (mkF m 24 #[.val .null, rv r1, iv (3 : Int32), iv (0 : Int32), rv aL] [(.ref sL)])) (fun t k => st4 _ k) ?_
  refine Gv T4 25 [.null, (.ref sL)] (fun t k => XS.aloadN X4.here hx rfl (hb hby d_prog_1_4_24) rfl rfl k) ?_
  obtain ⟨_, T5, L5, X5, ⟨rfl, M5, K5⟩, st5⟩ := callVirt X4 hx hZ hown (W_ hw 58 rfl) (W_ hw 59 rfl) (W_ hw 61 rfl) (notFace_of_selects (args := #[]) (mvT hZ (W_ hw 61 rfl))) (W_ hw 60 rfl) (W_ hw 7 rfl) (W_ hw 62 rfl) (by decide) (argsL := [.null]) (rest := []) (own_m11 l Z a0 hw [] sL T1.heap n0 (O0.keep K1 all0) ) e4 (O_3.ext (O0.keep K1 all0).2) (lenOf own_pd4 rfl) (pc := 25) (Ls := #[.val .null, rv r1, iv (3 : Int32), iv (0 : Int32), rv aL]) (st := [.null, (.ref sL)]) rfl (by rw [hml]; rfl) (hb hby d_prog_1_4_25) (W := 0) (Nat.le_of_eq rfl) (by decide) (by decide) (by decide) (by decide)
  have N5 := Fr.app N1 M5
  refine Goes.via (B := T5.setTop (mkF m 28 #[.val .null, rv r1, iv (3 : Int32), iv (0 : Int32), rv aL] [(.int (0 : Int32))])) (fun t k => st5 _ k) ?_
  refine Gv T5 37 [] (fun t k => XS.ifYes X5.here hx rfl (pc0 := 28) (pc' := 37) rfl (hb hby d_prog_1_4_28) rfl (XT.i0_eq_t rfl) (by decide) (by decide) k) ?_
  refine Gv T5 40 [] (fun t k => XS.iinc X5.here hx rfl (hb hby d_prog_1_4_37) rfl (l' := #[.val .null, rv r1, iv (3 : Int32), iv ((0 : Int32) + (1 : Int32)), rv aL]) rfl k) ?_
  refine Gv T5 9 [] (fun t k => XS.goto X5.here hx rfl (pc0 := 40) (pc' := 9) rfl (hb hby d_prog_1_4_40) (by decide) (by decide) k) ?_
  have q6 : ((0 : Int32) + (1 : Int32)) = (1 : Int32) := rfl
  rw [q6]
  refine Gv T5 10 [(.int (1 : Int32))] (fun t k => XS.iloadN X5.here hx rfl (hb hby d_prog_1_4_9) rfl k) ?_
  refine Gv T5 11 [(.int (3 : Int32)), (.int (1 : Int32))] (fun t k => XS.iloadN X5.here hx rfl (hb hby d_prog_1_4_10) rfl k) ?_
  refine Gv T5 14 [] (fun t k => XS.icmpNo X5.here hx rfl (hb hby d_prog_1_4_11) rfl (XT.ii_ge_f (by decide)) k) ?_
  refine Gv T5 15 [(.ref r1)] (fun t k => XS.aloadN X5.here hx rfl (hb hby d_prog_1_4_14) rfl rfl k) ?_
  refine Gv T5 16 [(.int (1 : Int32)), (.ref r1)] (fun t k => XS.iloadN X5.here hx rfl (hb hby d_prog_1_4_15) rfl k) ?_
  obtain ⟨cl7, Ar7, q7, S7, N7, H7, G7⟩ := id f1_0
  have hin7 := inb_of (j := (1 : Int32)) S7 ⟨by decide, by decide⟩
  refine Goes.via (B := T5.setTop (mkF m 17 #[.val .null, rv r1, iv (3 : Int32), iv (1 : Int32), rv aL] [(.ref aS)])) (fun t k => X5.aaload hx (j := (1 : Int32)) (v := (.ref aS)) (by rw [K5]; exact Ar7.1) (State.isArrayOf_alike hZ.alike Ar7.2.1) rfl Ar7.2.2 hin7 (H7.at hin7 rfl) (g := (mkF m 16 #[.val .null, rv r1, iv (3 : Int32), iv (1 : Int32), rv aL] [(.int (1 : Int32)), (.ref r1)])) rfl rfl (hb hby d_prog_1_4_16) t k) ?_
  refine Gv T5 19 [] (fun t k => XS.astore X5.here hx rfl (hb hby d_prog_1_4_17) rfl rfl (l' := #[.val .null, rv r1, iv (3 : Int32), iv (1 : Int32), rv aS]) rfl k) ?_
  refine Gv T5 21 [(.ref aS)] (fun t k => XS.aload X5.here hx rfl (hb hby d_prog_1_4_19) rfl rfl k) ?_
  obtain ⟨T8, X8, e8, st8⟩ := getF X5 hx hZ hown (host := "") (Or.inl (W_ hw 56 rfl)) Via.refl K5 (O_8.ext (O0.keep K1 all0).2) (g := (mkF m 21 #[.val .null, rv r1, iv (3 : Int32), iv (1 : Int32), rv aS] [(.ref aS)])) rfl rfl (hb hby d_prog_1_4_21)
  refine Goes.via (B := T8.setTop (mkF m 24 #[.val .null, rv r1, iv (3 : Int32), iv (1 : Int32), rv aS] [(.ref sS)])) (fun t k => st8 _ k) ?_
  refine Gv T8 25 [.null, (.ref sS)] (fun t k => XS.aloadN X8.here hx rfl (hb hby d_prog_1_4_24) rfl rfl k) ?_
  obtain ⟨_, T9, L9, X9, ⟨rfl, M9, K9⟩, st9⟩ := callVirt X8 hx hZ hown (W_ hw 58 rfl) (W_ hw 59 rfl) (W_ hw 61 rfl) (notFace_of_selects (args := #[]) (mvT hZ (W_ hw 61 rfl))) (W_ hw 60 rfl) (W_ hw 7 rfl) (W_ hw 62 rfl) (by decide) (argsL := [.null]) (rest := []) (own_m11 l Z a0 hw [] sS T1.heap n0 (O0.keep K1 all0) ) e8 (O_9.ext (O0.keep K1 all0).2) (lenOf own_pd4 rfl) (pc := 25) (Ls := #[.val .null, rv r1, iv (3 : Int32), iv (1 : Int32), rv aS]) (st := [.null, (.ref sS)]) rfl (by rw [hml]; rfl) (hb hby d_prog_1_4_25) (W := 0) (Nat.le_of_eq rfl) (by decide) (by decide) (by decide) (by decide)
  have N9 := Fr.app N5 M9
  refine Goes.via (B := T9.setTop (mkF m 28 #[.val .null, rv r1, iv (3 : Int32), iv (1 : Int32), rv aS] [(.int (0 : Int32))])) (fun t k => st9 _ k) ?_
  refine Gv T9 37 [] (fun t k => XS.ifYes X9.here hx rfl (pc0 := 28) (pc' := 37) rfl (hb hby d_prog_1_4_28) rfl (XT.i0_eq_t rfl) (by decide) (by decide) k) ?_
  refine Gv T9 40 [] (fun t k => XS.iinc X9.here hx rfl (hb hby d_prog_1_4_37) rfl (l' := #[.val .null, rv r1, iv (3 : Int32), iv ((1 : Int32) + (1 : Int32)), rv aS]) rfl k) ?_
  refine Gv T9 9 [] (fun t k => XS.goto X9.here hx rfl (pc0 := 40) (pc' := 9) rfl (hb hby d_prog_1_4_40) (by decide) (by decide) k) ?_
  have q10 : ((1 : Int32) + (1 : Int32)) = (2 : Int32) := rfl
  rw [q10]
  refine Gv T9 10 [(.int (2 : Int32))] (fun t k => XS.iloadN X9.here hx rfl (hb hby d_prog_1_4_9) rfl k) ?_
  refine Gv T9 11 [(.int (3 : Int32)), (.int (2 : Int32))] (fun t k => XS.iloadN X9.here hx rfl (hb hby d_prog_1_4_10) rfl k) ?_
  refine Gv T9 14 [] (fun t k => XS.icmpNo X9.here hx rfl (hb hby d_prog_1_4_11) rfl (XT.ii_ge_f (by decide)) k) ?_
  refine Gv T9 15 [(.ref r1)] (fun t k => XS.aloadN X9.here hx rfl (hb hby d_prog_1_4_14) rfl rfl k) ?_
  refine Gv T9 16 [(.int (2 : Int32)), (.ref r1)] (fun t k => XS.iloadN X9.here hx rfl (hb hby d_prog_1_4_15) rfl k) ?_
  obtain ⟨cl11, Ar11, q11, S11, N11, H11, G11⟩ := id f1_0
  have hin11 := inb_of (j := (2 : Int32)) S11 ⟨by decide, by decide⟩
  refine Goes.via (B := T9.setTop (mkF m 17 #[.val .null, rv r1, iv (3 : Int32), iv (2 : Int32), rv aS] [(.ref aH)])) (fun t k => X9.aaload hx (j := (2 : Int32)) (v := (.ref aH)) (by rw [K9]; exact Ar11.1) (State.isArrayOf_alike hZ.alike Ar11.2.1) rfl Ar11.2.2 hin11 (H11.at hin11 rfl) (g := (mkF m 16 #[.val .null, rv r1, iv (3 : Int32), iv (2 : Int32), rv aS] [(.int (2 : Int32)), (.ref r1)])) rfl rfl (hb hby d_prog_1_4_16) t k) ?_
  refine Gv T9 19 [] (fun t k => XS.astore X9.here hx rfl (hb hby d_prog_1_4_17) rfl rfl (l' := #[.val .null, rv r1, iv (3 : Int32), iv (2 : Int32), rv aH]) rfl k) ?_
  refine Gv T9 21 [(.ref aH)] (fun t k => XS.aload X9.here hx rfl (hb hby d_prog_1_4_19) rfl rfl k) ?_
  obtain ⟨T12, X12, e12, st12⟩ := getF X9 hx hZ hown (host := "") (Or.inl (W_ hw 56 rfl)) Via.refl K9 (O_14.ext (O0.keep K1 all0).2) (g := (mkF m 21 #[.val .null, rv r1, iv (3 : Int32), iv (2 : Int32), rv aH] [(.ref aH)])) rfl rfl (hb hby d_prog_1_4_21)
  refine Goes.via (B := T12.setTop (mkF m 24 #[.val .null, rv r1, iv (3 : Int32), iv (2 : Int32), rv aH] [(.ref sH)])) (fun t k => st12 _ k) ?_
  refine Gv T12 25 [.null, (.ref sH)] (fun t k => XS.aloadN X12.here hx rfl (hb hby d_prog_1_4_24) rfl rfl k) ?_
  obtain ⟨_, T13, L13, X13, ⟨rfl, M13, K13⟩, st13⟩ := callVirt X12 hx hZ hown (W_ hw 58 rfl) (W_ hw 59 rfl) (W_ hw 61 rfl) (notFace_of_selects (args := #[]) (mvT hZ (W_ hw 61 rfl))) (W_ hw 60 rfl) (W_ hw 7 rfl) (W_ hw 62 rfl) (by decide) (argsL := [.null]) (rest := []) (own_m11 l Z a0 hw [] sH T1.heap n0 (O0.keep K1 all0) ) e12 (O_15.ext (O0.keep K1 all0).2) (lenOf own_pd4 rfl) (pc := 25) (Ls := #[.val .null, rv r1, iv (3 : Int32), iv (2 : Int32), rv aH]) (st := [.null, (.ref sH)]) rfl (by rw [hml]; rfl) (hb hby d_prog_1_4_25) (W := 0) (Nat.le_of_eq rfl) (by decide) (by decide) (by decide) (by decide)
  have N13 := Fr.app N9 M13
  refine Goes.via (B := T13.setTop (mkF m 28 #[.val .null, rv r1, iv (3 : Int32), iv (2 : Int32), rv aH] [(.int (0 : Int32))])) (fun t k => st13 _ k) ?_
  refine Gv T13 37 [] (fun t k => XS.ifYes X13.here hx rfl (pc0 := 28) (pc' := 37) rfl (hb hby d_prog_1_4_28) rfl (XT.i0_eq_t rfl) (by decide) (by decide) k) ?_
  refine Gv T13 40 [] (fun t k => XS.iinc X13.here hx rfl (hb hby d_prog_1_4_37) rfl (l' := #[.val .null, rv r1, iv (3 : Int32), iv ((2 : Int32) + (1 : Int32)), rv aH]) rfl k) ?_
  refine Gv T13 9 [] (fun t k => XS.goto X13.here hx rfl (pc0 := 40) (pc' := 9) rfl (hb hby d_prog_1_4_40) (by decide) (by decide) k) ?_
  have q14 : ((2 : Int32) + (1 : Int32)) = (3 : Int32) := rfl
  rw [q14]
  refine Gv T13 10 [(.int (3 : Int32))] (fun t k => XS.iloadN X13.here hx rfl (hb hby d_prog_1_4_9) rfl k) ?_
  refine Gv T13 11 [(.int (3 : Int32)), (.int (3 : Int32))] (fun t k => XS.iloadN X13.here hx rfl (hb hby d_prog_1_4_10) rfl k) ?_
  refine Gv T13 43 [] (fun t k => XS.icmpYes X13.here hx rfl (pc0 := 11) (pc' := 43) rfl (hb hby d_prog_1_4_11) rfl (XT.ii_ge_t (by decide)) (by decide) (by decide) k) ?_
  obtain ⟨_, T15, L15, X15, ⟨rfl, M15, K15⟩, st15⟩ := callStatic X13 hx hZ hown (W_ hw 99 rfl) (W_ hw 100 rfl) (W_ hw 70 rfl) (W_ hw 101 rfl) (by decide) (argsL := []) (rest := []) (own_m7 l Z a0 hw [] oe T1.heap n0 (O0.keep K1 all0) O_22) K13 (lenOf own_pd6 rfl) (pc := 43) (Ls := #[.val .null, rv r1, iv (3 : Int32), iv (3 : Int32), rv aH]) (st := []) rfl (by rw [hml]; rfl) (hb hby d_prog_1_4_43) (W := 0) (Nat.le_of_eq rfl) (by decide) (by decide) (by decide) (by decide)
  have N15 := Fr.app N13 M15
  refine Goes.via (B := T15.setTop (mkF m 46 #[.val .null, rv r1, iv (3 : Int32), iv (3 : Int32), rv aH] [(.ref oe)])) (fun t k => st15 _ k) ?_
  exact finA (Q := (own_Q16 Z z0 oe va kv aL sL tL kL aS sS tS kS aH sH tH kH h0 n0)) (F := FrameEnd) (C := ((Rm 2 1 3 25)).cells) (S := ((Rm 2 1 3 25)).slots) X15 hx Bd.returns rfl rfl rfl (hb hby d_prog_1_4_46) K15 ⟨rfl, N15, ((Keep.refl h0 []).trans K1 all0)⟩ (lvN X15 hlk (by decide) (by decide))
theorem own_pn4 : plainName "com/example/castellan/castellan/config/AssuranceLevelNamedPinLaw" = true := by first | (simp [plainName, overriddenIn]; done) | decide +kernel
theorem d_3_0 : decode method_3_code 0 = .ok (.iload_n 0, 1) := by decide +kernel
theorem d_3_1 : decode method_3_code 1 = .ok (.ifCond .ne 69, 3) := by decide +kernel
theorem d_3_4 : decode method_3_code 4 = .ok (.iload_n 1, 1) := by decide +kernel
theorem d_3_5 : decode method_3_code 5 = .ok (.iconst 2, 1) := by decide +kernel
theorem d_3_6 : decode method_3_code 6 = .ok (.if_icmp .ne 26, 3) := by decide +kernel
theorem d_3_32 : decode method_3_code 32 = .ok (.iload_n 1, 1) := by decide +kernel
theorem d_3_33 : decode method_3_code 33 = .ok (.iconst 3, 1) := by decide +kernel
theorem d_3_34 : decode method_3_code 34 = .ok (.if_icmp .ne 17, 3) := by decide +kernel
theorem d_3_51 : decode method_3_code 51 = .ok (.iconst 3, 1) := by decide +kernel
theorem d_3_52 : decode method_3_code 52 = .ok (.newarray .char, 2) := by decide +kernel
theorem d_3_54 : decode method_3_code 54 = .ok (.dup, 1) := by decide +kernel
theorem d_3_55 : decode method_3_code 55 = .ok (.iconst 0, 1) := by decide +kernel
theorem d_3_56 : decode method_3_code 56 = .ok (.bipush 108, 2) := by decide +kernel
theorem d_3_58 : decode method_3_code 58 = .ok (.castore, 1) := by decide +kernel
theorem d_3_59 : decode method_3_code 59 = .ok (.dup, 1) := by decide +kernel
theorem d_3_60 : decode method_3_code 60 = .ok (.iconst 1, 1) := by decide +kernel
theorem d_3_61 : decode method_3_code 61 = .ok (.bipush 111, 2) := by decide +kernel
theorem d_3_63 : decode method_3_code 63 = .ok (.castore, 1) := by decide +kernel
theorem d_3_64 : decode method_3_code 64 = .ok (.dup, 1) := by decide +kernel
theorem d_3_65 : decode method_3_code 65 = .ok (.iconst 2, 1) := by decide +kernel
theorem d_3_66 : decode method_3_code 66 = .ok (.bipush 119, 2) := by decide +kernel
theorem d_3_68 : decode method_3_code 68 = .ok (.castore, 1) := by decide +kernel
theorem d_3_69 : decode method_3_code 69 = .ok (.areturn, 1) := by decide +kernel
theorem own_ef17 (m : MethodId) (x0 : Int32) (x1 : Int32) (x2 : Int32)  : entryFrame m #[(.int x0), (.int x1), (.int x2)] 3 = mkF m 0 #[iv x0, iv x1, iv x2] [] := by first | (simp [entryFrame, mkF, argsToLocals, Value.category]; done) | rfl
abbrev own_Q17 (Z : State) (ch : Int32) (ee : Int32) (h0 : Heap) (n0 : Nat) (v : Option Value) (h : Heap) (L : List Loc) : Prop := ∃ r : Addr, ∃ kr : ClassId, v = some (.ref r) ∧ Fr n0 L ∧ Keep h0 h [] ∧ h0.size ≤ r ∧ Arv Z h r kr .char (3 : Int32) [(.int (108 : Int32)), (.int (111 : Int32)), (.int (119 : Int32))] (.int (0 : Int32))
set_option maxRecDepth 65536 in
set_option maxHeartbeats 40000000 in
theorem own_m17 (l : Launch) (Z : State) (a0 : Array Value) (hw : ∀ d ∈ tables_1, d.before a0 Z = true) (ws : List Jvm.Cond) (ch : Int32) (ee : Int32) (h0 : Heap) (n0 : Nat) (O0 : Old Z n0 h0) (hch : ¬ ch < (0 : Int32) ∧ ¬ (255 : Int32) < ch) (he2 : ¬ ee = (2 : Int32)) (he3 : ¬ ee = (3 : Int32)) :
    Ctr l Z (⟨"com/example/castellan/castellan/config/AssuranceLevelNamedPinLaw", "name", "(IIC)[C"⟩ : MethodName) method_3_code 3 (some (.array .char)) (Rm 0 1 3 0) #[(.int (0 : Int32)), (.int ee), (.int ch)] h0 (own_Q17 Z ch ee h0 n0) ws := by
  refine MetFree.of_bodySF (plainFor_of_name own_pn4) hisR ?_
  intro p e s m args below meth c s₁ Bd hml0 hP hK
  obtain ⟨rfl, hZ, hh⟩ := hP
  have hx := Bd.exec
  have hby := Bd.bytes
  have hlk : meth.locks = false := Bd.notSynchronized
  have hml : c.maxLocals = 3 := hml0
  have hown : s.vm.findClass "com/example/castellan/castellan/config/AssuranceLevelNamedPinLaw" = some m.cls := findClass_of_methodNamed Bd.named
  have hnm := (name_of_methodNamed Bd.named Bd.method).1
  have X0 : Stand p l e (Rm 0 1 3 0) s m #[(.int (0 : Int32)), (.int ee), (.int ch)] below meth c s₁ [] 0 0 := Stand.of_body Bd
  have e0 : s₁.heap = h0 := by rw [← hh, Bd.state]; rfl
  have N0 := Fr.nil n0
  show Goes p.tables e below (fun t o => ∃ v L, o = .returned v ∧ (own_Q17 Z ch ee h0 n0) v t.heap L ∧ FrameEnd s o t L ((Rm 0 1 3 0)).cells ((Rm 0 1 3 0)).slots) _
  refine Goes.via (B := s₁.setTop (mkF m 0 #[iv (0 : Int32), iv ee, iv ch] [])) (fun t k => castTop (own_ef17 m (0 : Int32) ee ch) k) ?_
  refine Gv s₁ 1 [(.int (0 : Int32))] (fun t k => XS.iloadN X0.here hx rfl (hb hby d_3_0) rfl k) ?_
  refine Gv s₁ 4 [] (fun t k => XS.ifNo X0.here hx rfl (hb hby d_3_1) rfl (XT.i0_ne_f rfl) k) ?_
  refine Gv s₁ 5 [(.int ee)] (fun t k => XS.iloadN X0.here hx rfl (hb hby d_3_4) rfl k) ?_
  refine Gv s₁ 6 [(.int (2 : Int32)), (.int ee)] (fun t k => XS.iconst X0.here hx rfl (hb hby d_3_5) k) ?_
  refine Gv s₁ 32 [] (fun t k => XS.icmpYes X0.here hx rfl (pc0 := 6) (pc' := 32) rfl (hb hby d_3_6) rfl (XT.ii_ne_t he2) (by decide) (by decide) k) ?_
  refine Gv s₁ 33 [(.int ee)] (fun t k => XS.iloadN X0.here hx rfl (hb hby d_3_32) rfl k) ?_
  refine Gv s₁ 34 [(.int (3 : Int32)), (.int ee)] (fun t k => XS.iconst X0.here hx rfl (hb hby d_3_33) k) ?_
  refine Gv s₁ 51 [] (fun t k => XS.icmpYes X0.here hx rfl (pc0 := 34) (pc' := 51) rfl (hb hby d_3_34) rfl (XT.ii_ne_t he3) (by decide) (by decide) k) ?_
  refine Gv s₁ 52 [(.int (3 : Int32))] (fun t k => XS.iconst X0.here hx rfl (hb hby d_3_51) k) ?_
  obtain ⟨T1, h1, k1, X1, e1, E1, A1, st1⟩ := newP X0 hx hZ (W_ hw 4 rfl) e0 (g := (mkF m 52 #[iv (0 : Int32), iv ee, iv ch] [(.int (3 : Int32))])) rfl (hb hby d_3_52) rfl (by decide) (cap := 3) (by decide) (by decide) (by decide) (by decide)
  obtain ⟨b1, g1⟩ : ∃ z, z = h0.size := ⟨_, rfl⟩
  rw [← g1] at A1 st1
  have gn1 : n0 ≤ b1 := Nat.le_trans (old_le O0) (Nat.le_of_eq g1.symm)
  have gs1 : h0.size ≤ b1 := Nat.le_trans (Keep.refl h0 []).1 (Nat.le_of_eq g1.symm)
  have V1 : Arv Z h1 b1 k1 .char (3 : Int32) [(.int (0 : Int32)), (.int (0 : Int32)), (.int (0 : Int32))] (.int (0 : Int32)) := (Arv.new A1 (by decide)).pad (pad_rep [] (.int (0 : Int32)) 3)
  refine Goes.via (B := T1.setTop (mkF m 54 #[iv (0 : Int32), iv ee, iv ch] [(.ref b1)])) (fun t k => st1 _ k) ?_
  refine Gv T1 55 [(.ref b1), (.ref b1)] (fun t k => XS.dup X1.here hx rfl (hb hby d_3_54) rfl rfl k) ?_
  refine Gv T1 56 [(.int (0 : Int32)), (.ref b1), (.ref b1)] (fun t k => XS.iconst X1.here hx rfl (hb hby d_3_55) k) ?_
  refine Gv T1 58 [(.int (108 : Int32)), (.int (0 : Int32)), (.ref b1), (.ref b1)] (fun t k => XS.bipush X1.here hx rfl (hb hby d_3_56) k) ?_
  obtain ⟨cl2, Ar2, q2, S2, N2, H2, G2⟩ := id V1
  obtain ⟨T2, h2, X2, e2, W2, st2⟩ := stC X1 hx hZ e1 Ar2 (j := (0 : Int32)) (inb_of S2 ⟨by decide, by decide⟩) (g := (mkF m 58 #[iv (0 : Int32), iv ee, iv ch] [(.int (108 : Int32)), (.int (0 : Int32)), (.ref b1), (.ref b1)])) rfl rfl (hb hby d_3_58)
  have wn2 : nar .char (108 : Int32) = (108 : Int32) := rfl
  have fn2 : fits .char (.int (108 : Int32)) = true := by rw [← wn2]; exact fits_nar_char _
  rw [wn2] at W2
  have Nf2 := Fr.snoc X2 N0 gn1
  have V2 : Arv Z h2 b1 k1 .char (3 : Int32) [(.int (108 : Int32)), (.int (0 : Int32)), (.int (0 : Int32))] (.int (0 : Int32)) := Arv.set Ar2 q2 S2 N2 H2 G2 fn2 W2 0 rfl (Nat.le_of_ble_eq_true rfl)
  refine Goes.via (B := T2.setTop (mkF m 59 #[iv (0 : Int32), iv ee, iv ch] [(.ref b1)])) (fun t k => st2 _ k) ?_
  refine Gv T2 60 [(.ref b1), (.ref b1)] (fun t k => XS.dup X2.here hx rfl (hb hby d_3_59) rfl rfl k) ?_
  refine Gv T2 61 [(.int (1 : Int32)), (.ref b1), (.ref b1)] (fun t k => XS.iconst X2.here hx rfl (hb hby d_3_60) k) ?_
  refine Gv T2 63 [(.int (111 : Int32)), (.int (1 : Int32)), (.ref b1), (.ref b1)] (fun t k => XS.bipush X2.here hx rfl (hb hby d_3_61) k) ?_
  obtain ⟨cl3, Ar3, q3, S3, N3, H3, G3⟩ := id V2
  obtain ⟨T3, h3, X3, e3, W3, st3⟩ := stC X2 hx hZ e2 Ar3 (j := (1 : Int32)) (inb_of S3 ⟨by decide, by decide⟩) (g := (mkF m 63 #[iv (0 : Int32), iv ee, iv ch] [(.int (111 : Int32)), (.int (1 : Int32)), (.ref b1), (.ref b1)])) rfl rfl (hb hby d_3_63)
  have wn3 : nar .char (111 : Int32) = (111 : Int32) := rfl
  have fn3 : fits .char (.int (111 : Int32)) = true := by rw [← wn3]; exact fits_nar_char _
  rw [wn3] at W3
  have Nf3 := Fr.snoc X3 Nf2 gn1
  have V3 : Arv Z h3 b1 k1 .char (3 : Int32) [(.int (108 : Int32)), (.int (111 : Int32)), (.int (0 : Int32))] (.int (0 : Int32)) := Arv.set Ar3 q3 S3 N3 H3 G3 fn3 W3 1 rfl (Nat.le_of_ble_eq_true rfl)
  refine Goes.via (B := T3.setTop (mkF m 64 #[iv (0 : Int32), iv ee, iv ch] [(.ref b1)])) (fun t k => st3 _ k) ?_
  refine Gv T3 65 [(.ref b1), (.ref b1)] (fun t k => XS.dup X3.here hx rfl (hb hby d_3_64) rfl rfl k) ?_
  refine Gv T3 66 [(.int (2 : Int32)), (.ref b1), (.ref b1)] (fun t k => XS.iconst X3.here hx rfl (hb hby d_3_65) k) ?_
  refine Gv T3 68 [(.int (119 : Int32)), (.int (2 : Int32)), (.ref b1), (.ref b1)] (fun t k => XS.bipush X3.here hx rfl (hb hby d_3_66) k) ?_
  obtain ⟨cl4, Ar4, q4, S4, N4, H4, G4⟩ := id V3
  obtain ⟨T4, h4, X4, e4, W4, st4⟩ := stC X3 hx hZ e3 Ar4 (j := (2 : Int32)) (inb_of S4 ⟨by decide, by decide⟩) (g := (mkF m 68 #[iv (0 : Int32), iv ee, iv ch] [(.int (119 : Int32)), (.int (2 : Int32)), (.ref b1), (.ref b1)])) rfl rfl (hb hby d_3_68)
  have wn4 : nar .char (119 : Int32) = (119 : Int32) := rfl
  have fn4 : fits .char (.int (119 : Int32)) = true := by rw [← wn4]; exact fits_nar_char _
  rw [wn4] at W4
  have Nf4 := Fr.snoc X4 Nf3 gn1
  have V4 : Arv Z h4 b1 k1 .char (3 : Int32) [(.int (108 : Int32)), (.int (111 : Int32)), (.int (119 : Int32))] (.int (0 : Int32)) := Arv.set Ar4 q4 S4 N4 H4 G4 fn4 W4 2 rfl (Nat.le_of_ble_eq_true rfl)
  refine Goes.via (B := T4.setTop (mkF m 69 #[iv (0 : Int32), iv ee, iv ch] [(.ref b1)])) (fun t k => st4 _ k) ?_
  exact finA (Q := (own_Q17 Z ch ee h0 n0)) (F := FrameEnd) (C := ((Rm 0 1 3 0)).cells) (S := ((Rm 0 1 3 0)).slots) X4 hx Bd.returns rfl rfl rfl (hb hby d_3_69) e4 ⟨b1, k1, rfl, Nf4, (((((Keep.refl h0 []).ext E1).wr W2 (Or.inr gs1)).wr W3 (Or.inr gs1)).wr W4 (Or.inr gs1)), gs1, V4⟩ (lvN X4 hlk (by decide) (by decide))
theorem d_3_9 : decode method_3_code 9 = .ok (.iconst 4, 1) := by decide +kernel
theorem d_3_10 : decode method_3_code 10 = .ok (.newarray .char, 2) := by decide +kernel
theorem d_3_12 : decode method_3_code 12 = .ok (.dup, 1) := by decide +kernel
theorem d_3_13 : decode method_3_code 13 = .ok (.iconst 0, 1) := by decide +kernel
theorem d_3_14 : decode method_3_code 14 = .ok (.bipush 108, 2) := by decide +kernel
theorem d_3_16 : decode method_3_code 16 = .ok (.castore, 1) := by decide +kernel
theorem d_3_17 : decode method_3_code 17 = .ok (.dup, 1) := by decide +kernel
theorem d_3_18 : decode method_3_code 18 = .ok (.iconst 1, 1) := by decide +kernel
theorem d_3_19 : decode method_3_code 19 = .ok (.bipush 111, 2) := by decide +kernel
theorem d_3_21 : decode method_3_code 21 = .ok (.castore, 1) := by decide +kernel
theorem d_3_22 : decode method_3_code 22 = .ok (.dup, 1) := by decide +kernel
theorem d_3_23 : decode method_3_code 23 = .ok (.iconst 2, 1) := by decide +kernel
theorem d_3_24 : decode method_3_code 24 = .ok (.bipush 119, 2) := by decide +kernel
theorem d_3_26 : decode method_3_code 26 = .ok (.castore, 1) := by decide +kernel
theorem d_3_27 : decode method_3_code 27 = .ok (.dup, 1) := by decide +kernel
theorem d_3_28 : decode method_3_code 28 = .ok (.iconst 3, 1) := by decide +kernel
theorem d_3_29 : decode method_3_code 29 = .ok (.iload_n 2, 1) := by decide +kernel
theorem d_3_30 : decode method_3_code 30 = .ok (.castore, 1) := by decide +kernel
theorem d_3_31 : decode method_3_code 31 = .ok (.areturn, 1) := by decide +kernel
theorem own_ef18 (m : MethodId) (x0 : Int32) (x1 : Int32) (x2 : Int32)  : entryFrame m #[(.int x0), (.int x1), (.int x2)] 3 = mkF m 0 #[iv x0, iv x1, iv x2] [] := by first | (simp [entryFrame, mkF, argsToLocals, Value.category]; done) | rfl
abbrev own_Q18 (Z : State) (ch : Int32) (h0 : Heap) (n0 : Nat) (v : Option Value) (h : Heap) (L : List Loc) : Prop := ∃ r : Addr, ∃ kr : ClassId, v = some (.ref r) ∧ Fr n0 L ∧ Keep h0 h [] ∧ h0.size ≤ r ∧ Arv Z h r kr .char (4 : Int32) [(.int (108 : Int32)), (.int (111 : Int32)), (.int (119 : Int32)), (.int ch)] (.int (0 : Int32))
set_option maxRecDepth 65536 in
set_option maxHeartbeats 40000000 in
theorem own_m18 (l : Launch) (Z : State) (a0 : Array Value) (hw : ∀ d ∈ tables_1, d.before a0 Z = true) (ws : List Jvm.Cond) (ch : Int32) (h0 : Heap) (n0 : Nat) (O0 : Old Z n0 h0) (hch : ¬ ch < (0 : Int32) ∧ ¬ (255 : Int32) < ch) :
    Ctr l Z (⟨"com/example/castellan/castellan/config/AssuranceLevelNamedPinLaw", "name", "(IIC)[C"⟩ : MethodName) method_3_code 3 (some (.array .char)) (Rm 0 1 4 0) #[(.int (0 : Int32)), (.int (2 : Int32)), (.int ch)] h0 (own_Q18 Z ch h0 n0) ws := by
  refine MetFree.of_bodySF (plainFor_of_name own_pn4) hisR ?_
  intro p e s m args below meth c s₁ Bd hml0 hP hK
  obtain ⟨rfl, hZ, hh⟩ := hP
  have hx := Bd.exec
  have hby := Bd.bytes
  have hlk : meth.locks = false := Bd.notSynchronized
  have hml : c.maxLocals = 3 := hml0
  have hown : s.vm.findClass "com/example/castellan/castellan/config/AssuranceLevelNamedPinLaw" = some m.cls := findClass_of_methodNamed Bd.named
  have hnm := (name_of_methodNamed Bd.named Bd.method).1
  have X0 : Stand p l e (Rm 0 1 4 0) s m #[(.int (0 : Int32)), (.int (2 : Int32)), (.int ch)] below meth c s₁ [] 0 0 := Stand.of_body Bd
  have e0 : s₁.heap = h0 := by rw [← hh, Bd.state]; rfl
  have N0 := Fr.nil n0
  show Goes p.tables e below (fun t o => ∃ v L, o = .returned v ∧ (own_Q18 Z ch h0 n0) v t.heap L ∧ FrameEnd s o t L ((Rm 0 1 4 0)).cells ((Rm 0 1 4 0)).slots) _
  refine Goes.via (B := s₁.setTop (mkF m 0 #[iv (0 : Int32), iv (2 : Int32), iv ch] [])) (fun t k => castTop (own_ef18 m (0 : Int32) (2 : Int32) ch) k) ?_
  refine Gv s₁ 1 [(.int (0 : Int32))] (fun t k => XS.iloadN X0.here hx rfl (hb hby d_3_0) rfl k) ?_
  refine Gv s₁ 4 [] (fun t k => XS.ifNo X0.here hx rfl (hb hby d_3_1) rfl (XT.i0_ne_f rfl) k) ?_
  refine Gv s₁ 5 [(.int (2 : Int32))] (fun t k => XS.iloadN X0.here hx rfl (hb hby d_3_4) rfl k) ?_
  refine Gv s₁ 6 [(.int (2 : Int32)), (.int (2 : Int32))] (fun t k => XS.iconst X0.here hx rfl (hb hby d_3_5) k) ?_
  refine Gv s₁ 9 [] (fun t k => XS.icmpNo X0.here hx rfl (hb hby d_3_6) rfl (XT.ii_ne_f rfl) k) ?_
  refine Gv s₁ 10 [(.int (4 : Int32))] (fun t k => XS.iconst X0.here hx rfl (hb hby d_3_9) k) ?_
  obtain ⟨T1, h1, k1, X1, e1, E1, A1, st1⟩ := newP X0 hx hZ (W_ hw 4 rfl) e0 (g := (mkF m 10 #[iv (0 : Int32), iv (2 : Int32), iv ch] [(.int (4 : Int32))])) rfl (hb hby d_3_10) rfl (by decide) (cap := 4) (by decide) (by decide) (by decide) (by decide)
  obtain ⟨b1, g1⟩ : ∃ z, z = h0.size := ⟨_, rfl⟩
  rw [← g1] at A1 st1
  have gn1 : n0 ≤ b1 := Nat.le_trans (old_le O0) (Nat.le_of_eq g1.symm)
  have gs1 : h0.size ≤ b1 := Nat.le_trans (Keep.refl h0 []).1 (Nat.le_of_eq g1.symm)
  have V1 : Arv Z h1 b1 k1 .char (4 : Int32) [(.int (0 : Int32)), (.int (0 : Int32)), (.int (0 : Int32)), (.int (0 : Int32))] (.int (0 : Int32)) := (Arv.new A1 (by decide)).pad (pad_rep [] (.int (0 : Int32)) 4)
  refine Goes.via (B := T1.setTop (mkF m 12 #[iv (0 : Int32), iv (2 : Int32), iv ch] [(.ref b1)])) (fun t k => st1 _ k) ?_
  refine Gv T1 13 [(.ref b1), (.ref b1)] (fun t k => XS.dup X1.here hx rfl (hb hby d_3_12) rfl rfl k) ?_
  refine Gv T1 14 [(.int (0 : Int32)), (.ref b1), (.ref b1)] (fun t k => XS.iconst X1.here hx rfl (hb hby d_3_13) k) ?_
  refine Gv T1 16 [(.int (108 : Int32)), (.int (0 : Int32)), (.ref b1), (.ref b1)] (fun t k => XS.bipush X1.here hx rfl (hb hby d_3_14) k) ?_
  obtain ⟨cl2, Ar2, q2, S2, N2, H2, G2⟩ := id V1
  obtain ⟨T2, h2, X2, e2, W2, st2⟩ := stC X1 hx hZ e1 Ar2 (j := (0 : Int32)) (inb_of S2 ⟨by decide, by decide⟩) (g := (mkF m 16 #[iv (0 : Int32), iv (2 : Int32), iv ch] [(.int (108 : Int32)), (.int (0 : Int32)), (.ref b1), (.ref b1)])) rfl rfl (hb hby d_3_16)
  have wn2 : nar .char (108 : Int32) = (108 : Int32) := rfl
  have fn2 : fits .char (.int (108 : Int32)) = true := by rw [← wn2]; exact fits_nar_char _
  rw [wn2] at W2
  have Nf2 := Fr.snoc X2 N0 gn1
  have V2 : Arv Z h2 b1 k1 .char (4 : Int32) [(.int (108 : Int32)), (.int (0 : Int32)), (.int (0 : Int32)), (.int (0 : Int32))] (.int (0 : Int32)) := Arv.set Ar2 q2 S2 N2 H2 G2 fn2 W2 0 rfl (Nat.le_of_ble_eq_true rfl)
  refine Goes.via (B := T2.setTop (mkF m 17 #[iv (0 : Int32), iv (2 : Int32), iv ch] [(.ref b1)])) (fun t k => st2 _ k) ?_
  refine Gv T2 18 [(.ref b1), (.ref b1)] (fun t k => XS.dup X2.here hx rfl (hb hby d_3_17) rfl rfl k) ?_
  refine Gv T2 19 [(.int (1 : Int32)), (.ref b1), (.ref b1)] (fun t k => XS.iconst X2.here hx rfl (hb hby d_3_18) k) ?_
  refine Gv T2 21 [(.int (111 : Int32)), (.int (1 : Int32)), (.ref b1), (.ref b1)] (fun t k => XS.bipush X2.here hx rfl (hb hby d_3_19) k) ?_
  obtain ⟨cl3, Ar3, q3, S3, N3, H3, G3⟩ := id V2
  obtain ⟨T3, h3, X3, e3, W3, st3⟩ := stC X2 hx hZ e2 Ar3 (j := (1 : Int32)) (inb_of S3 ⟨by decide, by decide⟩) (g := (mkF m 21 #[iv (0 : Int32), iv (2 : Int32), iv ch] [(.int (111 : Int32)), (.int (1 : Int32)), (.ref b1), (.ref b1)])) rfl rfl (hb hby d_3_21)
  have wn3 : nar .char (111 : Int32) = (111 : Int32) := rfl
  have fn3 : fits .char (.int (111 : Int32)) = true := by rw [← wn3]; exact fits_nar_char _
  rw [wn3] at W3
  have Nf3 := Fr.snoc X3 Nf2 gn1
  have V3 : Arv Z h3 b1 k1 .char (4 : Int32) [(.int (108 : Int32)), (.int (111 : Int32)), (.int (0 : Int32)), (.int (0 : Int32))] (.int (0 : Int32)) := Arv.set Ar3 q3 S3 N3 H3 G3 fn3 W3 1 rfl (Nat.le_of_ble_eq_true rfl)
  refine Goes.via (B := T3.setTop (mkF m 22 #[iv (0 : Int32), iv (2 : Int32), iv ch] [(.ref b1)])) (fun t k => st3 _ k) ?_
  refine Gv T3 23 [(.ref b1), (.ref b1)] (fun t k => XS.dup X3.here hx rfl (hb hby d_3_22) rfl rfl k) ?_
  refine Gv T3 24 [(.int (2 : Int32)), (.ref b1), (.ref b1)] (fun t k => XS.iconst X3.here hx rfl (hb hby d_3_23) k) ?_
  refine Gv T3 26 [(.int (119 : Int32)), (.int (2 : Int32)), (.ref b1), (.ref b1)] (fun t k => XS.bipush X3.here hx rfl (hb hby d_3_24) k) ?_
  obtain ⟨cl4, Ar4, q4, S4, N4, H4, G4⟩ := id V3
  obtain ⟨T4, h4, X4, e4, W4, st4⟩ := stC X3 hx hZ e3 Ar4 (j := (2 : Int32)) (inb_of S4 ⟨by decide, by decide⟩) (g := (mkF m 26 #[iv (0 : Int32), iv (2 : Int32), iv ch] [(.int (119 : Int32)), (.int (2 : Int32)), (.ref b1), (.ref b1)])) rfl rfl (hb hby d_3_26)
  have wn4 : nar .char (119 : Int32) = (119 : Int32) := rfl
  have fn4 : fits .char (.int (119 : Int32)) = true := by rw [← wn4]; exact fits_nar_char _
  rw [wn4] at W4
  have Nf4 := Fr.snoc X4 Nf3 gn1
  have V4 : Arv Z h4 b1 k1 .char (4 : Int32) [(.int (108 : Int32)), (.int (111 : Int32)), (.int (119 : Int32)), (.int (0 : Int32))] (.int (0 : Int32)) := Arv.set Ar4 q4 S4 N4 H4 G4 fn4 W4 2 rfl (Nat.le_of_ble_eq_true rfl)
  refine Goes.via (B := T4.setTop (mkF m 27 #[iv (0 : Int32), iv (2 : Int32), iv ch] [(.ref b1)])) (fun t k => st4 _ k) ?_
  refine Gv T4 28 [(.ref b1), (.ref b1)] (fun t k => XS.dup X4.here hx rfl (hb hby d_3_27) rfl rfl k) ?_
  refine Gv T4 29 [(.int (3 : Int32)), (.ref b1), (.ref b1)] (fun t k => XS.iconst X4.here hx rfl (hb hby d_3_28) k) ?_
  refine Gv T4 30 [(.int ch), (.int (3 : Int32)), (.ref b1), (.ref b1)] (fun t k => XS.iloadN X4.here hx rfl (hb hby d_3_29) rfl k) ?_
  obtain ⟨cl5, Ar5, q5, S5, N5, H5, G5⟩ := id V4
  obtain ⟨T5, h5, X5, e5, W5, st5⟩ := stC X4 hx hZ e4 Ar5 (j := (3 : Int32)) (inb_of S5 ⟨by decide, by decide⟩) (g := (mkF m 30 #[iv (0 : Int32), iv (2 : Int32), iv ch] [(.int ch), (.int (3 : Int32)), (.ref b1), (.ref b1)])) rfl rfl (hb hby d_3_30)
  have wn5 : nar .char ch = ch := own_i2c hch
  have fn5 : fits .char (.int ch) = true := by rw [← wn5]; exact fits_nar_char _
  rw [wn5] at W5
  have Nf5 := Fr.snoc X5 Nf4 gn1
  have V5 : Arv Z h5 b1 k1 .char (4 : Int32) [(.int (108 : Int32)), (.int (111 : Int32)), (.int (119 : Int32)), (.int ch)] (.int (0 : Int32)) := Arv.set Ar5 q5 S5 N5 H5 G5 fn5 W5 3 rfl (Nat.le_of_ble_eq_true rfl)
  refine Goes.via (B := T5.setTop (mkF m 31 #[iv (0 : Int32), iv (2 : Int32), iv ch] [(.ref b1)])) (fun t k => st5 _ k) ?_
  exact finA (Q := (own_Q18 Z ch h0 n0)) (F := FrameEnd) (C := ((Rm 0 1 4 0)).cells) (S := ((Rm 0 1 4 0)).slots) X5 hx Bd.returns rfl rfl rfl (hb hby d_3_31) e5 ⟨b1, k1, rfl, Nf5, ((((((Keep.refl h0 []).ext E1).wr W2 (Or.inr gs1)).wr W3 (Or.inr gs1)).wr W4 (Or.inr gs1)).wr W5 (Or.inr gs1)), gs1, V5⟩ (lvN X5 hlk (by decide) (by decide))
theorem d_3_37 : decode method_3_code 37 = .ok (.iconst 2, 1) := by decide +kernel
theorem d_3_38 : decode method_3_code 38 = .ok (.newarray .char, 2) := by decide +kernel
theorem d_3_40 : decode method_3_code 40 = .ok (.dup, 1) := by decide +kernel
theorem d_3_41 : decode method_3_code 41 = .ok (.iconst 0, 1) := by decide +kernel
theorem d_3_42 : decode method_3_code 42 = .ok (.bipush 108, 2) := by decide +kernel
theorem d_3_44 : decode method_3_code 44 = .ok (.castore, 1) := by decide +kernel
theorem d_3_45 : decode method_3_code 45 = .ok (.dup, 1) := by decide +kernel
theorem d_3_46 : decode method_3_code 46 = .ok (.iconst 1, 1) := by decide +kernel
theorem d_3_47 : decode method_3_code 47 = .ok (.bipush 111, 2) := by decide +kernel
theorem d_3_49 : decode method_3_code 49 = .ok (.castore, 1) := by decide +kernel
theorem d_3_50 : decode method_3_code 50 = .ok (.areturn, 1) := by decide +kernel
theorem own_ef19 (m : MethodId) (x0 : Int32) (x1 : Int32) (x2 : Int32)  : entryFrame m #[(.int x0), (.int x1), (.int x2)] 3 = mkF m 0 #[iv x0, iv x1, iv x2] [] := by first | (simp [entryFrame, mkF, argsToLocals, Value.category]; done) | rfl
abbrev own_Q19 (Z : State) (ch : Int32) (h0 : Heap) (n0 : Nat) (v : Option Value) (h : Heap) (L : List Loc) : Prop := ∃ r : Addr, ∃ kr : ClassId, v = some (.ref r) ∧ Fr n0 L ∧ Keep h0 h [] ∧ h0.size ≤ r ∧ Arv Z h r kr .char (2 : Int32) [(.int (108 : Int32)), (.int (111 : Int32))] (.int (0 : Int32))
set_option maxRecDepth 65536 in
set_option maxHeartbeats 40000000 in
theorem own_m19 (l : Launch) (Z : State) (a0 : Array Value) (hw : ∀ d ∈ tables_1, d.before a0 Z = true) (ws : List Jvm.Cond) (ch : Int32) (h0 : Heap) (n0 : Nat) (O0 : Old Z n0 h0) (hch : ¬ ch < (0 : Int32) ∧ ¬ (255 : Int32) < ch) :
    Ctr l Z (⟨"com/example/castellan/castellan/config/AssuranceLevelNamedPinLaw", "name", "(IIC)[C"⟩ : MethodName) method_3_code 3 (some (.array .char)) (Rm 0 1 2 0) #[(.int (0 : Int32)), (.int (3 : Int32)), (.int ch)] h0 (own_Q19 Z ch h0 n0) ws := by
  refine MetFree.of_bodySF (plainFor_of_name own_pn4) hisR ?_
  intro p e s m args below meth c s₁ Bd hml0 hP hK
  obtain ⟨rfl, hZ, hh⟩ := hP
  have hx := Bd.exec
  have hby := Bd.bytes
  have hlk : meth.locks = false := Bd.notSynchronized
  have hml : c.maxLocals = 3 := hml0
  have hown : s.vm.findClass "com/example/castellan/castellan/config/AssuranceLevelNamedPinLaw" = some m.cls := findClass_of_methodNamed Bd.named
  have hnm := (name_of_methodNamed Bd.named Bd.method).1
  have X0 : Stand p l e (Rm 0 1 2 0) s m #[(.int (0 : Int32)), (.int (3 : Int32)), (.int ch)] below meth c s₁ [] 0 0 := Stand.of_body Bd
  have e0 : s₁.heap = h0 := by rw [← hh, Bd.state]; rfl
  have N0 := Fr.nil n0
  show Goes p.tables e below (fun t o => ∃ v L, o = .returned v ∧ (own_Q19 Z ch h0 n0) v t.heap L ∧ FrameEnd s o t L ((Rm 0 1 2 0)).cells ((Rm 0 1 2 0)).slots) _
  refine Goes.via (B := s₁.setTop (mkF m 0 #[iv (0 : Int32), iv (3 : Int32), iv ch] [])) (fun t k => castTop (own_ef19 m (0 : Int32) (3 : Int32) ch) k) ?_
  refine Gv s₁ 1 [(.int (0 : Int32))] (fun t k => XS.iloadN X0.here hx rfl (hb hby d_3_0) rfl k) ?_
  refine Gv s₁ 4 [] (fun t k => XS.ifNo X0.here hx rfl (hb hby d_3_1) rfl (XT.i0_ne_f rfl) k) ?_
  refine Gv s₁ 5 [(.int (3 : Int32))] (fun t k => XS.iloadN X0.here hx rfl (hb hby d_3_4) rfl k) ?_
  refine Gv s₁ 6 [(.int (2 : Int32)), (.int (3 : Int32))] (fun t k => XS.iconst X0.here hx rfl (hb hby d_3_5) k) ?_
  refine Gv s₁ 32 [] (fun t k => XS.icmpYes X0.here hx rfl (pc0 := 6) (pc' := 32) rfl (hb hby d_3_6) rfl (XT.ii_ne_t (by decide)) (by decide) (by decide) k) ?_
  refine Gv s₁ 33 [(.int (3 : Int32))] (fun t k => XS.iloadN X0.here hx rfl (hb hby d_3_32) rfl k) ?_
  refine Gv s₁ 34 [(.int (3 : Int32)), (.int (3 : Int32))] (fun t k => XS.iconst X0.here hx rfl (hb hby d_3_33) k) ?_
  refine Gv s₁ 37 [] (fun t k => XS.icmpNo X0.here hx rfl (hb hby d_3_34) rfl (XT.ii_ne_f rfl) k) ?_
  refine Gv s₁ 38 [(.int (2 : Int32))] (fun t k => XS.iconst X0.here hx rfl (hb hby d_3_37) k) ?_
  obtain ⟨T1, h1, k1, X1, e1, E1, A1, st1⟩ := newP X0 hx hZ (W_ hw 4 rfl) e0 (g := (mkF m 38 #[iv (0 : Int32), iv (3 : Int32), iv ch] [(.int (2 : Int32))])) rfl (hb hby d_3_38) rfl (by decide) (cap := 2) (by decide) (by decide) (by decide) (by decide)
  obtain ⟨b1, g1⟩ : ∃ z, z = h0.size := ⟨_, rfl⟩
  rw [← g1] at A1 st1
  have gn1 : n0 ≤ b1 := Nat.le_trans (old_le O0) (Nat.le_of_eq g1.symm)
  have gs1 : h0.size ≤ b1 := Nat.le_trans (Keep.refl h0 []).1 (Nat.le_of_eq g1.symm)
  have V1 : Arv Z h1 b1 k1 .char (2 : Int32) [(.int (0 : Int32)), (.int (0 : Int32))] (.int (0 : Int32)) := (Arv.new A1 (by decide)).pad (pad_rep [] (.int (0 : Int32)) 2)
  refine Goes.via (B := T1.setTop (mkF m 40 #[iv (0 : Int32), iv (3 : Int32), iv ch] [(.ref b1)])) (fun t k => st1 _ k) ?_
  refine Gv T1 41 [(.ref b1), (.ref b1)] (fun t k => XS.dup X1.here hx rfl (hb hby d_3_40) rfl rfl k) ?_
  refine Gv T1 42 [(.int (0 : Int32)), (.ref b1), (.ref b1)] (fun t k => XS.iconst X1.here hx rfl (hb hby d_3_41) k) ?_
  refine Gv T1 44 [(.int (108 : Int32)), (.int (0 : Int32)), (.ref b1), (.ref b1)] (fun t k => XS.bipush X1.here hx rfl (hb hby d_3_42) k) ?_
  obtain ⟨cl2, Ar2, q2, S2, N2, H2, G2⟩ := id V1
  obtain ⟨T2, h2, X2, e2, W2, st2⟩ := stC X1 hx hZ e1 Ar2 (j := (0 : Int32)) (inb_of S2 ⟨by decide, by decide⟩) (g := (mkF m 44 #[iv (0 : Int32), iv (3 : Int32), iv ch] [(.int (108 : Int32)), (.int (0 : Int32)), (.ref b1), (.ref b1)])) rfl rfl (hb hby d_3_44)
  have wn2 : nar .char (108 : Int32) = (108 : Int32) := rfl
  have fn2 : fits .char (.int (108 : Int32)) = true := by rw [← wn2]; exact fits_nar_char _
  rw [wn2] at W2
  have Nf2 := Fr.snoc X2 N0 gn1
  have V2 : Arv Z h2 b1 k1 .char (2 : Int32) [(.int (108 : Int32)), (.int (0 : Int32))] (.int (0 : Int32)) := Arv.set Ar2 q2 S2 N2 H2 G2 fn2 W2 0 rfl (Nat.le_of_ble_eq_true rfl)
  refine Goes.via (B := T2.setTop (mkF m 45 #[iv (0 : Int32), iv (3 : Int32), iv ch] [(.ref b1)])) (fun t k => st2 _ k) ?_
  refine Gv T2 46 [(.ref b1), (.ref b1)] (fun t k => XS.dup X2.here hx rfl (hb hby d_3_45) rfl rfl k) ?_
  refine Gv T2 47 [(.int (1 : Int32)), (.ref b1), (.ref b1)] (fun t k => XS.iconst X2.here hx rfl (hb hby d_3_46) k) ?_
  refine Gv T2 49 [(.int (111 : Int32)), (.int (1 : Int32)), (.ref b1), (.ref b1)] (fun t k => XS.bipush X2.here hx rfl (hb hby d_3_47) k) ?_
  obtain ⟨cl3, Ar3, q3, S3, N3, H3, G3⟩ := id V2
  obtain ⟨T3, h3, X3, e3, W3, st3⟩ := stC X2 hx hZ e2 Ar3 (j := (1 : Int32)) (inb_of S3 ⟨by decide, by decide⟩) (g := (mkF m 49 #[iv (0 : Int32), iv (3 : Int32), iv ch] [(.int (111 : Int32)), (.int (1 : Int32)), (.ref b1), (.ref b1)])) rfl rfl (hb hby d_3_49)
  have wn3 : nar .char (111 : Int32) = (111 : Int32) := rfl
  have fn3 : fits .char (.int (111 : Int32)) = true := by rw [← wn3]; exact fits_nar_char _
  rw [wn3] at W3
  have Nf3 := Fr.snoc X3 Nf2 gn1
  have V3 : Arv Z h3 b1 k1 .char (2 : Int32) [(.int (108 : Int32)), (.int (111 : Int32))] (.int (0 : Int32)) := Arv.set Ar3 q3 S3 N3 H3 G3 fn3 W3 1 rfl (Nat.le_of_ble_eq_true rfl)
  refine Goes.via (B := T3.setTop (mkF m 50 #[iv (0 : Int32), iv (3 : Int32), iv ch] [(.ref b1)])) (fun t k => st3 _ k) ?_
  exact finA (Q := (own_Q19 Z ch h0 n0)) (F := FrameEnd) (C := ((Rm 0 1 2 0)).cells) (S := ((Rm 0 1 2 0)).slots) X3 hx Bd.returns rfl rfl rfl (hb hby d_3_50) e3 ⟨b1, k1, rfl, Nf3, ((((Keep.refl h0 []).ext E1).wr W2 (Or.inr gs1)).wr W3 (Or.inr gs1)), gs1, V3⟩ (lvN X3 hlk (by decide) (by decide))
theorem d_3_70 : decode method_3_code 70 = .ok (.iload_n 0, 1) := by decide +kernel
theorem d_3_71 : decode method_3_code 71 = .ok (.iconst 1, 1) := by decide +kernel
theorem d_3_72 : decode method_3_code 72 = .ok (.if_icmp .ne 207, 3) := by decide +kernel
theorem d_3_75 : decode method_3_code 75 = .ok (.iload_n 1, 1) := by decide +kernel
theorem d_3_76 : decode method_3_code 76 = .ok (.iconst 2, 1) := by decide +kernel
theorem d_3_77 : decode method_3_code 77 = .ok (.if_icmp .ne 73, 3) := by decide +kernel
theorem d_3_150 : decode method_3_code 150 = .ok (.iload_n 1, 1) := by decide +kernel
theorem d_3_151 : decode method_3_code 151 = .ok (.iconst 3, 1) := by decide +kernel
theorem d_3_152 : decode method_3_code 152 = .ok (.if_icmp .ne 62, 3) := by decide +kernel
theorem d_3_214 : decode method_3_code 214 = .ok (.bipush 11, 2) := by decide +kernel
theorem d_3_216 : decode method_3_code 216 = .ok (.newarray .char, 2) := by decide +kernel
theorem d_3_218 : decode method_3_code 218 = .ok (.dup, 1) := by decide +kernel
theorem d_3_219 : decode method_3_code 219 = .ok (.iconst 0, 1) := by decide +kernel
theorem d_3_220 : decode method_3_code 220 = .ok (.bipush 115, 2) := by decide +kernel
theorem d_3_222 : decode method_3_code 222 = .ok (.castore, 1) := by decide +kernel
theorem d_3_223 : decode method_3_code 223 = .ok (.dup, 1) := by decide +kernel
theorem d_3_224 : decode method_3_code 224 = .ok (.iconst 1, 1) := by decide +kernel
theorem d_3_225 : decode method_3_code 225 = .ok (.bipush 117, 2) := by decide +kernel
theorem d_3_227 : decode method_3_code 227 = .ok (.castore, 1) := by decide +kernel
theorem d_3_228 : decode method_3_code 228 = .ok (.dup, 1) := by decide +kernel
theorem d_3_229 : decode method_3_code 229 = .ok (.iconst 2, 1) := by decide +kernel
theorem d_3_230 : decode method_3_code 230 = .ok (.bipush 98, 2) := by decide +kernel
theorem d_3_232 : decode method_3_code 232 = .ok (.castore, 1) := by decide +kernel
theorem d_3_233 : decode method_3_code 233 = .ok (.dup, 1) := by decide +kernel
theorem d_3_234 : decode method_3_code 234 = .ok (.iconst 3, 1) := by decide +kernel
theorem d_3_235 : decode method_3_code 235 = .ok (.bipush 115, 2) := by decide +kernel
theorem d_3_237 : decode method_3_code 237 = .ok (.castore, 1) := by decide +kernel
theorem d_3_238 : decode method_3_code 238 = .ok (.dup, 1) := by decide +kernel
theorem d_3_239 : decode method_3_code 239 = .ok (.iconst 4, 1) := by decide +kernel
theorem d_3_240 : decode method_3_code 240 = .ok (.bipush 116, 2) := by decide +kernel
theorem d_3_242 : decode method_3_code 242 = .ok (.castore, 1) := by decide +kernel
theorem d_3_243 : decode method_3_code 243 = .ok (.dup, 1) := by decide +kernel
theorem d_3_244 : decode method_3_code 244 = .ok (.iconst 5, 1) := by decide +kernel
theorem d_3_245 : decode method_3_code 245 = .ok (.bipush 97, 2) := by decide +kernel
theorem d_3_247 : decode method_3_code 247 = .ok (.castore, 1) := by decide +kernel
theorem d_3_248 : decode method_3_code 248 = .ok (.dup, 1) := by decide +kernel
theorem d_3_249 : decode method_3_code 249 = .ok (.bipush 6, 2) := by decide +kernel
theorem d_3_251 : decode method_3_code 251 = .ok (.bipush 110, 2) := by decide +kernel
theorem d_3_253 : decode method_3_code 253 = .ok (.castore, 1) := by decide +kernel
theorem d_3_254 : decode method_3_code 254 = .ok (.dup, 1) := by decide +kernel
theorem d_3_255 : decode method_3_code 255 = .ok (.bipush 7, 2) := by decide +kernel
theorem d_3_257 : decode method_3_code 257 = .ok (.bipush 116, 2) := by decide +kernel
theorem d_3_259 : decode method_3_code 259 = .ok (.castore, 1) := by decide +kernel
theorem d_3_260 : decode method_3_code 260 = .ok (.dup, 1) := by decide +kernel
theorem d_3_261 : decode method_3_code 261 = .ok (.bipush 8, 2) := by decide +kernel
theorem d_3_263 : decode method_3_code 263 = .ok (.bipush 105, 2) := by decide +kernel
theorem d_3_265 : decode method_3_code 265 = .ok (.castore, 1) := by decide +kernel
theorem d_3_266 : decode method_3_code 266 = .ok (.dup, 1) := by decide +kernel
theorem d_3_267 : decode method_3_code 267 = .ok (.bipush 9, 2) := by decide +kernel
theorem d_3_269 : decode method_3_code 269 = .ok (.bipush 97, 2) := by decide +kernel
theorem d_3_271 : decode method_3_code 271 = .ok (.castore, 1) := by decide +kernel
theorem d_3_272 : decode method_3_code 272 = .ok (.dup, 1) := by decide +kernel
theorem d_3_273 : decode method_3_code 273 = .ok (.bipush 10, 2) := by decide +kernel
theorem d_3_275 : decode method_3_code 275 = .ok (.bipush 108, 2) := by decide +kernel
theorem d_3_277 : decode method_3_code 277 = .ok (.castore, 1) := by decide +kernel
theorem d_3_278 : decode method_3_code 278 = .ok (.areturn, 1) := by decide +kernel
theorem own_ef20 (m : MethodId) (x0 : Int32) (x1 : Int32) (x2 : Int32)  : entryFrame m #[(.int x0), (.int x1), (.int x2)] 3 = mkF m 0 #[iv x0, iv x1, iv x2] [] := by first | (simp [entryFrame, mkF, argsToLocals, Value.category]; done) | rfl
abbrev own_Q20 (Z : State) (ch : Int32) (ee : Int32) (h0 : Heap) (n0 : Nat) (v : Option Value) (h : Heap) (L : List Loc) : Prop := ∃ r : Addr, ∃ kr : ClassId, v = some (.ref r) ∧ Fr n0 L ∧ Keep h0 h [] ∧ h0.size ≤ r ∧ Arv Z h r kr .char (11 : Int32) [(.int (115 : Int32)), (.int (117 : Int32)), (.int (98 : Int32)), (.int (115 : Int32)), (.int (116 : Int32)), (.int (97 : Int32)), (.int (110 : Int32)), (.int (116 : Int32)), (.int (105 : Int32)), (.int (97 : Int32)), (.int (108 : Int32))] (.int (0 : Int32))
set_option maxRecDepth 65536 in
set_option maxHeartbeats 40000000 in
theorem own_m20 (l : Launch) (Z : State) (a0 : Array Value) (hw : ∀ d ∈ tables_1, d.before a0 Z = true) (ws : List Jvm.Cond) (ch : Int32) (ee : Int32) (h0 : Heap) (n0 : Nat) (O0 : Old Z n0 h0) (hch : ¬ ch < (0 : Int32) ∧ ¬ (255 : Int32) < ch) (he2 : ¬ ee = (2 : Int32)) (he3 : ¬ ee = (3 : Int32)) :
    Ctr l Z (⟨"com/example/castellan/castellan/config/AssuranceLevelNamedPinLaw", "name", "(IIC)[C"⟩ : MethodName) method_3_code 3 (some (.array .char)) (Rm 0 1 11 0) #[(.int (1 : Int32)), (.int ee), (.int ch)] h0 (own_Q20 Z ch ee h0 n0) ws := by
  refine MetFree.of_bodySF (plainFor_of_name own_pn4) hisR ?_
  intro p e s m args below meth c s₁ Bd hml0 hP hK
  obtain ⟨rfl, hZ, hh⟩ := hP
  have hx := Bd.exec
  have hby := Bd.bytes
  have hlk : meth.locks = false := Bd.notSynchronized
  have hml : c.maxLocals = 3 := hml0
  have hown : s.vm.findClass "com/example/castellan/castellan/config/AssuranceLevelNamedPinLaw" = some m.cls := findClass_of_methodNamed Bd.named
  have hnm := (name_of_methodNamed Bd.named Bd.method).1
  have X0 : Stand p l e (Rm 0 1 11 0) s m #[(.int (1 : Int32)), (.int ee), (.int ch)] below meth c s₁ [] 0 0 := Stand.of_body Bd
  have e0 : s₁.heap = h0 := by rw [← hh, Bd.state]; rfl
  have N0 := Fr.nil n0
  show Goes p.tables e below (fun t o => ∃ v L, o = .returned v ∧ (own_Q20 Z ch ee h0 n0) v t.heap L ∧ FrameEnd s o t L ((Rm 0 1 11 0)).cells ((Rm 0 1 11 0)).slots) _
  refine Goes.via (B := s₁.setTop (mkF m 0 #[iv (1 : Int32), iv ee, iv ch] [])) (fun t k => castTop (own_ef20 m (1 : Int32) ee ch) k) ?_
  refine Gv s₁ 1 [(.int (1 : Int32))] (fun t k => XS.iloadN X0.here hx rfl (hb hby d_3_0) rfl k) ?_
  refine Gv s₁ 70 [] (fun t k => XS.ifYes X0.here hx rfl (pc0 := 1) (pc' := 70) rfl (hb hby d_3_1) rfl (XT.i0_ne_t (by decide)) (by decide) (by decide) k) ?_
  refine Gv s₁ 71 [(.int (1 : Int32))] (fun t k => XS.iloadN X0.here hx rfl (hb hby d_3_70) rfl k) ?_
  refine Gv s₁ 72 [(.int (1 : Int32)), (.int (1 : Int32))] (fun t k => XS.iconst X0.here hx rfl (hb hby d_3_71) k) ?_
  refine Gv s₁ 75 [] (fun t k => XS.icmpNo X0.here hx rfl (hb hby d_3_72) rfl (XT.ii_ne_f rfl) k) ?_
  refine Gv s₁ 76 [(.int ee)] (fun t k => XS.iloadN X0.here hx rfl (hb hby d_3_75) rfl k) ?_
  refine Gv s₁ 77 [(.int (2 : Int32)), (.int ee)] (fun t k => XS.iconst X0.here hx rfl (hb hby d_3_76) k) ?_
  refine Gv s₁ 150 [] (fun t k => XS.icmpYes X0.here hx rfl (pc0 := 77) (pc' := 150) rfl (hb hby d_3_77) rfl (XT.ii_ne_t he2) (by decide) (by decide) k) ?_
  refine Gv s₁ 151 [(.int ee)] (fun t k => XS.iloadN X0.here hx rfl (hb hby d_3_150) rfl k) ?_
  refine Gv s₁ 152 [(.int (3 : Int32)), (.int ee)] (fun t k => XS.iconst X0.here hx rfl (hb hby d_3_151) k) ?_
  refine Gv s₁ 214 [] (fun t k => XS.icmpYes X0.here hx rfl (pc0 := 152) (pc' := 214) rfl (hb hby d_3_152) rfl (XT.ii_ne_t he3) (by decide) (by decide) k) ?_
  refine Gv s₁ 216 [(.int (11 : Int32))] (fun t k => XS.bipush X0.here hx rfl (hb hby d_3_214) k) ?_
  obtain ⟨T1, h1, k1, X1, e1, E1, A1, st1⟩ := newP X0 hx hZ (W_ hw 4 rfl) e0 (g := (mkF m 216 #[iv (1 : Int32), iv ee, iv ch] [(.int (11 : Int32))])) rfl (hb hby d_3_216) rfl (by decide) (cap := 11) (by decide) (by decide) (by decide) (by decide)
  obtain ⟨b1, g1⟩ : ∃ z, z = h0.size := ⟨_, rfl⟩
  rw [← g1] at A1 st1
  have gn1 : n0 ≤ b1 := Nat.le_trans (old_le O0) (Nat.le_of_eq g1.symm)
  have gs1 : h0.size ≤ b1 := Nat.le_trans (Keep.refl h0 []).1 (Nat.le_of_eq g1.symm)
  have V1 : Arv Z h1 b1 k1 .char (11 : Int32) [(.int (0 : Int32)), (.int (0 : Int32)), (.int (0 : Int32)), (.int (0 : Int32)), (.int (0 : Int32)), (.int (0 : Int32)), (.int (0 : Int32)), (.int (0 : Int32)), (.int (0 : Int32)), (.int (0 : Int32)), (.int (0 : Int32))] (.int (0 : Int32)) := (Arv.new A1 (by decide)).pad (pad_rep [] (.int (0 : Int32)) 11)
  refine Goes.via (B := T1.setTop (mkF m 218 #[iv (1 : Int32), iv ee, iv ch] [(.ref b1)])) (fun t k => st1 _ k) ?_
  refine Gv T1 219 [(.ref b1), (.ref b1)] (fun t k => XS.dup X1.here hx rfl (hb hby d_3_218) rfl rfl k) ?_
  refine Gv T1 220 [(.int (0 : Int32)), (.ref b1), (.ref b1)] (fun t k => XS.iconst X1.here hx rfl (hb hby d_3_219) k) ?_
  refine Gv T1 222 [(.int (115 : Int32)), (.int (0 : Int32)), (.ref b1), (.ref b1)] (fun t k => XS.bipush X1.here hx rfl (hb hby d_3_220) k) ?_
  obtain ⟨cl2, Ar2, q2, S2, N2, H2, G2⟩ := id V1
  obtain ⟨T2, h2, X2, e2, W2, st2⟩ := stC X1 hx hZ e1 Ar2 (j := (0 : Int32)) (inb_of S2 ⟨by decide, by decide⟩) (g := (mkF m 222 #[iv (1 : Int32), iv ee, iv ch] [(.int (115 : Int32)), (.int (0 : Int32)), (.ref b1), (.ref b1)])) rfl rfl (hb hby d_3_222)
  have wn2 : nar .char (115 : Int32) = (115 : Int32) := rfl
  have fn2 : fits .char (.int (115 : Int32)) = true := by rw [← wn2]; exact fits_nar_char _
  rw [wn2] at W2
  have Nf2 := Fr.snoc X2 N0 gn1
  have V2 : Arv Z h2 b1 k1 .char (11 : Int32) [(.int (115 : Int32)), (.int (0 : Int32)), (.int (0 : Int32)), (.int (0 : Int32)), (.int (0 : Int32)), (.int (0 : Int32)), (.int (0 : Int32)), (.int (0 : Int32)), (.int (0 : Int32)), (.int (0 : Int32)), (.int (0 : Int32))] (.int (0 : Int32)) := Arv.set Ar2 q2 S2 N2 H2 G2 fn2 W2 0 rfl (Nat.le_of_ble_eq_true rfl)
  refine Goes.via (B := T2.setTop (mkF m 223 #[iv (1 : Int32), iv ee, iv ch] [(.ref b1)])) (fun t k => st2 _ k) ?_
  refine Gv T2 224 [(.ref b1), (.ref b1)] (fun t k => XS.dup X2.here hx rfl (hb hby d_3_223) rfl rfl k) ?_
  refine Gv T2 225 [(.int (1 : Int32)), (.ref b1), (.ref b1)] (fun t k => XS.iconst X2.here hx rfl (hb hby d_3_224) k) ?_
  refine Gv T2 227 [(.int (117 : Int32)), (.int (1 : Int32)), (.ref b1), (.ref b1)] (fun t k => XS.bipush X2.here hx rfl (hb hby d_3_225) k) ?_
  obtain ⟨cl3, Ar3, q3, S3, N3, H3, G3⟩ := id V2
  obtain ⟨T3, h3, X3, e3, W3, st3⟩ := stC X2 hx hZ e2 Ar3 (j := (1 : Int32)) (inb_of S3 ⟨by decide, by decide⟩) (g := (mkF m 227 #[iv (1 : Int32), iv ee, iv ch] [(.int (117 : Int32)), (.int (1 : Int32)), (.ref b1), (.ref b1)])) rfl rfl (hb hby d_3_227)
  have wn3 : nar .char (117 : Int32) = (117 : Int32) := rfl
  have fn3 : fits .char (.int (117 : Int32)) = true := by rw [← wn3]; exact fits_nar_char _
  rw [wn3] at W3
  have Nf3 := Fr.snoc X3 Nf2 gn1
  have V3 : Arv Z h3 b1 k1 .char (11 : Int32) [(.int (115 : Int32)), (.int (117 : Int32)), (.int (0 : Int32)), (.int (0 : Int32)), (.int (0 : Int32)), (.int (0 : Int32)), (.int (0 : Int32)), (.int (0 : Int32)), (.int (0 : Int32)), (.int (0 : Int32)), (.int (0 : Int32))] (.int (0 : Int32)) := Arv.set Ar3 q3 S3 N3 H3 G3 fn3 W3 1 rfl (Nat.le_of_ble_eq_true rfl)
  refine Goes.via (B := T3.setTop (mkF m 228 #[iv (1 : Int32), iv ee, iv ch] [(.ref b1)])) (fun t k => st3 _ k) ?_
  refine Gv T3 229 [(.ref b1), (.ref b1)] (fun t k => XS.dup X3.here hx rfl (hb hby d_3_228) rfl rfl k) ?_
  refine Gv T3 230 [(.int (2 : Int32)), (.ref b1), (.ref b1)] (fun t k => XS.iconst X3.here hx rfl (hb hby d_3_229) k) ?_
  refine Gv T3 232 [(.int (98 : Int32)), (.int (2 : Int32)), (.ref b1), (.ref b1)] (fun t k => XS.bipush X3.here hx rfl (hb hby d_3_230) k) ?_
  obtain ⟨cl4, Ar4, q4, S4, N4, H4, G4⟩ := id V3
  obtain ⟨T4, h4, X4, e4, W4, st4⟩ := stC X3 hx hZ e3 Ar4 (j := (2 : Int32)) (inb_of S4 ⟨by decide, by decide⟩) (g := (mkF m 232 #[iv (1 : Int32), iv ee, iv ch] [(.int (98 : Int32)), (.int (2 : Int32)), (.ref b1), (.ref b1)])) rfl rfl (hb hby d_3_232)
  have wn4 : nar .char (98 : Int32) = (98 : Int32) := rfl
  have fn4 : fits .char (.int (98 : Int32)) = true := by rw [← wn4]; exact fits_nar_char _
  rw [wn4] at W4
  have Nf4 := Fr.snoc X4 Nf3 gn1
  have V4 : Arv Z h4 b1 k1 .char (11 : Int32) [(.int (115 : Int32)), (.int (117 : Int32)), (.int (98 : Int32)), (.int (0 : Int32)), (.int (0 : Int32)), (.int (0 : Int32)), (.int (0 : Int32)), (.int (0 : Int32)), (.int (0 : Int32)), (.int (0 : Int32)), (.int (0 : Int32))] (.int (0 : Int32)) := Arv.set Ar4 q4 S4 N4 H4 G4 fn4 W4 2 rfl (Nat.le_of_ble_eq_true rfl)
  refine Goes.via (B := T4.setTop (mkF m 233 #[iv (1 : Int32), iv ee, iv ch] [(.ref b1)])) (fun t k => st4 _ k) ?_
  refine Gv T4 234 [(.ref b1), (.ref b1)] (fun t k => XS.dup X4.here hx rfl (hb hby d_3_233) rfl rfl k) ?_
  refine Gv T4 235 [(.int (3 : Int32)), (.ref b1), (.ref b1)] (fun t k => XS.iconst X4.here hx rfl (hb hby d_3_234) k) ?_
  refine Gv T4 237 [(.int (115 : Int32)), (.int (3 : Int32)), (.ref b1), (.ref b1)] (fun t k => XS.bipush X4.here hx rfl (hb hby d_3_235) k) ?_
  obtain ⟨cl5, Ar5, q5, S5, N5, H5, G5⟩ := id V4
  obtain ⟨T5, h5, X5, e5, W5, st5⟩ := stC X4 hx hZ e4 Ar5 (j := (3 : Int32)) (inb_of S5 ⟨by decide, by decide⟩) (g := (mkF m 237 #[iv (1 : Int32), iv ee, iv ch] [(.int (115 : Int32)), (.int (3 : Int32)), (.ref b1), (.ref b1)])) rfl rfl (hb hby d_3_237)
  have wn5 : nar .char (115 : Int32) = (115 : Int32) := rfl
  have fn5 : fits .char (.int (115 : Int32)) = true := by rw [← wn5]; exact fits_nar_char _
  rw [wn5] at W5
  have Nf5 := Fr.snoc X5 Nf4 gn1
  have V5 : Arv Z h5 b1 k1 .char (11 : Int32) [(.int (115 : Int32)), (.int (117 : Int32)), (.int (98 : Int32)), (.int (115 : Int32)), (.int (0 : Int32)), (.int (0 : Int32)), (.int (0 : Int32)), (.int (0 : Int32)), (.int (0 : Int32)), (.int (0 : Int32)), (.int (0 : Int32))] (.int (0 : Int32)) := Arv.set Ar5 q5 S5 N5 H5 G5 fn5 W5 3 rfl (Nat.le_of_ble_eq_true rfl)
  refine Goes.via (B := T5.setTop (mkF m 238 #[iv (1 : Int32), iv ee, iv ch] [(.ref b1)])) (fun t k => st5 _ k) ?_
  refine Gv T5 239 [(.ref b1), (.ref b1)] (fun t k => XS.dup X5.here hx rfl (hb hby d_3_238) rfl rfl k) ?_
  refine Gv T5 240 [(.int (4 : Int32)), (.ref b1), (.ref b1)] (fun t k => XS.iconst X5.here hx rfl (hb hby d_3_239) k) ?_
  refine Gv T5 242 [(.int (116 : Int32)), (.int (4 : Int32)), (.ref b1), (.ref b1)] (fun t k => XS.bipush X5.here hx rfl (hb hby d_3_240) k) ?_
  obtain ⟨cl6, Ar6, q6, S6, N6, H6, G6⟩ := id V5
  obtain ⟨T6, h6, X6, e6, W6, st6⟩ := stC X5 hx hZ e5 Ar6 (j := (4 : Int32)) (inb_of S6 ⟨by decide, by decide⟩) (g := (mkF m 242 #[iv (1 : Int32), iv ee, iv ch] [(.int (116 : Int32)), (.int (4 : Int32)), (.ref b1), (.ref b1)])) rfl rfl (hb hby d_3_242)
  have wn6 : nar .char (116 : Int32) = (116 : Int32) := rfl
  have fn6 : fits .char (.int (116 : Int32)) = true := by rw [← wn6]; exact fits_nar_char _
  rw [wn6] at W6
  have Nf6 := Fr.snoc X6 Nf5 gn1
  have V6 : Arv Z h6 b1 k1 .char (11 : Int32) [(.int (115 : Int32)), (.int (117 : Int32)), (.int (98 : Int32)), (.int (115 : Int32)), (.int (116 : Int32)), (.int (0 : Int32)), (.int (0 : Int32)), (.int (0 : Int32)), (.int (0 : Int32)), (.int (0 : Int32)), (.int (0 : Int32))] (.int (0 : Int32)) := Arv.set Ar6 q6 S6 N6 H6 G6 fn6 W6 4 rfl (Nat.le_of_ble_eq_true rfl)
  refine Goes.via (B := T6.setTop (mkF m 243 #[iv (1 : Int32), iv ee, iv ch] [(.ref b1)])) (fun t k => st6 _ k) ?_
  refine Gv T6 244 [(.ref b1), (.ref b1)] (fun t k => XS.dup X6.here hx rfl (hb hby d_3_243) rfl rfl k) ?_
  refine Gv T6 245 [(.int (5 : Int32)), (.ref b1), (.ref b1)] (fun t k => XS.iconst X6.here hx rfl (hb hby d_3_244) k) ?_
  refine Gv T6 247 [(.int (97 : Int32)), (.int (5 : Int32)), (.ref b1), (.ref b1)] (fun t k => XS.bipush X6.here hx rfl (hb hby d_3_245) k) ?_
  obtain ⟨cl7, Ar7, q7, S7, N7, H7, G7⟩ := id V6
  obtain ⟨T7, h7, X7, e7, W7, st7⟩ := stC X6 hx hZ e6 Ar7 (j := (5 : Int32)) (inb_of S7 ⟨by decide, by decide⟩) (g := (mkF m 247 #[iv (1 : Int32), iv ee, iv ch] [(.int (97 : Int32)), (.int (5 : Int32)), (.ref b1), (.ref b1)])) rfl rfl (hb hby d_3_247)
  have wn7 : nar .char (97 : Int32) = (97 : Int32) := rfl
  have fn7 : fits .char (.int (97 : Int32)) = true := by rw [← wn7]; exact fits_nar_char _
  rw [wn7] at W7
  have Nf7 := Fr.snoc X7 Nf6 gn1
  have V7 : Arv Z h7 b1 k1 .char (11 : Int32) [(.int (115 : Int32)), (.int (117 : Int32)), (.int (98 : Int32)), (.int (115 : Int32)), (.int (116 : Int32)), (.int (97 : Int32)), (.int (0 : Int32)), (.int (0 : Int32)), (.int (0 : Int32)), (.int (0 : Int32)), (.int (0 : Int32))] (.int (0 : Int32)) := Arv.set Ar7 q7 S7 N7 H7 G7 fn7 W7 5 rfl (Nat.le_of_ble_eq_true rfl)
  refine Goes.via (B := T7.setTop (mkF m 248 #[iv (1 : Int32), iv ee, iv ch] [(.ref b1)])) (fun t k => st7 _ k) ?_
  refine Gv T7 249 [(.ref b1), (.ref b1)] (fun t k => XS.dup X7.here hx rfl (hb hby d_3_248) rfl rfl k) ?_
  refine Gv T7 251 [(.int (6 : Int32)), (.ref b1), (.ref b1)] (fun t k => XS.bipush X7.here hx rfl (hb hby d_3_249) k) ?_
  refine Gv T7 253 [(.int (110 : Int32)), (.int (6 : Int32)), (.ref b1), (.ref b1)] (fun t k => XS.bipush X7.here hx rfl (hb hby d_3_251) k) ?_
  obtain ⟨cl8, Ar8, q8, S8, N8, H8, G8⟩ := id V7
  obtain ⟨T8, h8, X8, e8, W8, st8⟩ := stC X7 hx hZ e7 Ar8 (j := (6 : Int32)) (inb_of S8 ⟨by decide, by decide⟩) (g := (mkF m 253 #[iv (1 : Int32), iv ee, iv ch] [(.int (110 : Int32)), (.int (6 : Int32)), (.ref b1), (.ref b1)])) rfl rfl (hb hby d_3_253)
  have wn8 : nar .char (110 : Int32) = (110 : Int32) := rfl
  have fn8 : fits .char (.int (110 : Int32)) = true := by rw [← wn8]; exact fits_nar_char _
  rw [wn8] at W8
  have Nf8 := Fr.snoc X8 Nf7 gn1
  have V8 : Arv Z h8 b1 k1 .char (11 : Int32) [(.int (115 : Int32)), (.int (117 : Int32)), (.int (98 : Int32)), (.int (115 : Int32)), (.int (116 : Int32)), (.int (97 : Int32)), (.int (110 : Int32)), (.int (0 : Int32)), (.int (0 : Int32)), (.int (0 : Int32)), (.int (0 : Int32))] (.int (0 : Int32)) := Arv.set Ar8 q8 S8 N8 H8 G8 fn8 W8 6 rfl (Nat.le_of_ble_eq_true rfl)
  refine Goes.via (B := T8.setTop (mkF m 254 #[iv (1 : Int32), iv ee, iv ch] [(.ref b1)])) (fun t k => st8 _ k) ?_
  refine Gv T8 255 [(.ref b1), (.ref b1)] (fun t k => XS.dup X8.here hx rfl (hb hby d_3_254) rfl rfl k) ?_
  refine Gv T8 257 [(.int (7 : Int32)), (.ref b1), (.ref b1)] (fun t k => XS.bipush X8.here hx rfl (hb hby d_3_255) k) ?_
  refine Gv T8 259 [(.int (116 : Int32)), (.int (7 : Int32)), (.ref b1), (.ref b1)] (fun t k => XS.bipush X8.here hx rfl (hb hby d_3_257) k) ?_
  obtain ⟨cl9, Ar9, q9, S9, N9, H9, G9⟩ := id V8
  obtain ⟨T9, h9, X9, e9, W9, st9⟩ := stC X8 hx hZ e8 Ar9 (j := (7 : Int32)) (inb_of S9 ⟨by decide, by decide⟩) (g := (mkF m 259 #[iv (1 : Int32), iv ee, iv ch] [(.int (116 : Int32)), (.int (7 : Int32)), (.ref b1), (.ref b1)])) rfl rfl (hb hby d_3_259)
  have wn9 : nar .char (116 : Int32) = (116 : Int32) := rfl
  have fn9 : fits .char (.int (116 : Int32)) = true := by rw [← wn9]; exact fits_nar_char _
  rw [wn9] at W9
  have Nf9 := Fr.snoc X9 Nf8 gn1
  have V9 : Arv Z h9 b1 k1 .char (11 : Int32) [(.int (115 : Int32)), (.int (117 : Int32)), (.int (98 : Int32)), (.int (115 : Int32)), (.int (116 : Int32)), (.int (97 : Int32)), (.int (110 : Int32)), (.int (116 : Int32)), (.int (0 : Int32)), (.int (0 : Int32)), (.int (0 : Int32))] (.int (0 : Int32)) := Arv.set Ar9 q9 S9 N9 H9 G9 fn9 W9 7 rfl (Nat.le_of_ble_eq_true rfl)
  refine Goes.via (B := T9.setTop (mkF m 260 #[iv (1 : Int32), iv ee, iv ch] [(.ref b1)])) (fun t k => st9 _ k) ?_
  refine Gv T9 261 [(.ref b1), (.ref b1)] (fun t k => XS.dup X9.here hx rfl (hb hby d_3_260) rfl rfl k) ?_
  refine Gv T9 263 [(.int (8 : Int32)), (.ref b1), (.ref b1)] (fun t k => XS.bipush X9.here hx rfl (hb hby d_3_261) k) ?_
  refine Gv T9 265 [(.int (105 : Int32)), (.int (8 : Int32)), (.ref b1), (.ref b1)] (fun t k => XS.bipush X9.here hx rfl (hb hby d_3_263) k) ?_
  obtain ⟨cl10, Ar10, q10, S10, N10, H10, G10⟩ := id V9
  obtain ⟨T10, h10, X10, e10, W10, st10⟩ := stC X9 hx hZ e9 Ar10 (j := (8 : Int32)) (inb_of S10 ⟨by decide, by decide⟩) (g := (mkF m 265 #[iv (1 : Int32), iv ee, iv ch] [(.int (105 : Int32)), (.int (8 : Int32)), (.ref b1), (.ref b1)])) rfl rfl (hb hby d_3_265)
  have wn10 : nar .char (105 : Int32) = (105 : Int32) := rfl
  have fn10 : fits .char (.int (105 : Int32)) = true := by rw [← wn10]; exact fits_nar_char _
  rw [wn10] at W10
  have Nf10 := Fr.snoc X10 Nf9 gn1
  have V10 : Arv Z h10 b1 k1 .char (11 : Int32) [(.int (115 : Int32)), (.int (117 : Int32)), (.int (98 : Int32)), (.int (115 : Int32)), (.int (116 : Int32)), (.int (97 : Int32)), (.int (110 : Int32)), (.int (116 : Int32)), (.int (105 : Int32)), (.int (0 : Int32)), (.int (0 : Int32))] (.int (0 : Int32)) := Arv.set Ar10 q10 S10 N10 H10 G10 fn10 W10 8 rfl (Nat.le_of_ble_eq_true rfl)
  refine Goes.via (B := T10.setTop (mkF m 266 #[iv (1 : Int32), iv ee, iv ch] [(.ref b1)])) (fun t k => st10 _ k) ?_
  refine Gv T10 267 [(.ref b1), (.ref b1)] (fun t k => XS.dup X10.here hx rfl (hb hby d_3_266) rfl rfl k) ?_
  refine Gv T10 269 [(.int (9 : Int32)), (.ref b1), (.ref b1)] (fun t k => XS.bipush X10.here hx rfl (hb hby d_3_267) k) ?_
  refine Gv T10 271 [(.int (97 : Int32)), (.int (9 : Int32)), (.ref b1), (.ref b1)] (fun t k => XS.bipush X10.here hx rfl (hb hby d_3_269) k) ?_
  obtain ⟨cl11, Ar11, q11, S11, N11, H11, G11⟩ := id V10
  obtain ⟨T11, h11, X11, e11, W11, st11⟩ := stC X10 hx hZ e10 Ar11 (j := (9 : Int32)) (inb_of S11 ⟨by decide, by decide⟩) (g := (mkF m 271 #[iv (1 : Int32), iv ee, iv ch] [(.int (97 : Int32)), (.int (9 : Int32)), (.ref b1), (.ref b1)])) rfl rfl (hb hby d_3_271)
  have wn11 : nar .char (97 : Int32) = (97 : Int32) := rfl
  have fn11 : fits .char (.int (97 : Int32)) = true := by rw [← wn11]; exact fits_nar_char _
  rw [wn11] at W11
  have Nf11 := Fr.snoc X11 Nf10 gn1
  have V11 : Arv Z h11 b1 k1 .char (11 : Int32) [(.int (115 : Int32)), (.int (117 : Int32)), (.int (98 : Int32)), (.int (115 : Int32)), (.int (116 : Int32)), (.int (97 : Int32)), (.int (110 : Int32)), (.int (116 : Int32)), (.int (105 : Int32)), (.int (97 : Int32)), (.int (0 : Int32))] (.int (0 : Int32)) := Arv.set Ar11 q11 S11 N11 H11 G11 fn11 W11 9 rfl (Nat.le_of_ble_eq_true rfl)
  refine Goes.via (B := T11.setTop (mkF m 272 #[iv (1 : Int32), iv ee, iv ch] [(.ref b1)])) (fun t k => st11 _ k) ?_
  refine Gv T11 273 [(.ref b1), (.ref b1)] (fun t k => XS.dup X11.here hx rfl (hb hby d_3_272) rfl rfl k) ?_
  refine Gv T11 275 [(.int (10 : Int32)), (.ref b1), (.ref b1)] (fun t k => XS.bipush X11.here hx rfl (hb hby d_3_273) k) ?_
  refine Gv T11 277 [(.int (108 : Int32)), (.int (10 : Int32)), (.ref b1), (.ref b1)] (fun t k => XS.bipush X11.here hx rfl (hb hby d_3_275) k) ?_
  obtain ⟨cl12, Ar12, q12, S12, N12, H12, G12⟩ := id V11
  obtain ⟨T12, h12, X12, e12, W12, st12⟩ := stC X11 hx hZ e11 Ar12 (j := (10 : Int32)) (inb_of S12 ⟨by decide, by decide⟩) (g := (mkF m 277 #[iv (1 : Int32), iv ee, iv ch] [(.int (108 : Int32)), (.int (10 : Int32)), (.ref b1), (.ref b1)])) rfl rfl (hb hby d_3_277)
  have wn12 : nar .char (108 : Int32) = (108 : Int32) := rfl
  have fn12 : fits .char (.int (108 : Int32)) = true := by rw [← wn12]; exact fits_nar_char _
  rw [wn12] at W12
  have Nf12 := Fr.snoc X12 Nf11 gn1
  have V12 : Arv Z h12 b1 k1 .char (11 : Int32) [(.int (115 : Int32)), (.int (117 : Int32)), (.int (98 : Int32)), (.int (115 : Int32)), (.int (116 : Int32)), (.int (97 : Int32)), (.int (110 : Int32)), (.int (116 : Int32)), (.int (105 : Int32)), (.int (97 : Int32)), (.int (108 : Int32))] (.int (0 : Int32)) := Arv.set Ar12 q12 S12 N12 H12 G12 fn12 W12 10 rfl (Nat.le_of_ble_eq_true rfl)
  refine Goes.via (B := T12.setTop (mkF m 278 #[iv (1 : Int32), iv ee, iv ch] [(.ref b1)])) (fun t k => st12 _ k) ?_
  exact finA (Q := (own_Q20 Z ch ee h0 n0)) (F := FrameEnd) (C := ((Rm 0 1 11 0)).cells) (S := ((Rm 0 1 11 0)).slots) X12 hx Bd.returns rfl rfl rfl (hb hby d_3_278) e12 ⟨b1, k1, rfl, Nf12, (((((((((((((Keep.refl h0 []).ext E1).wr W2 (Or.inr gs1)).wr W3 (Or.inr gs1)).wr W4 (Or.inr gs1)).wr W5 (Or.inr gs1)).wr W6 (Or.inr gs1)).wr W7 (Or.inr gs1)).wr W8 (Or.inr gs1)).wr W9 (Or.inr gs1)).wr W10 (Or.inr gs1)).wr W11 (Or.inr gs1)).wr W12 (Or.inr gs1)), gs1, V12⟩ (lvN X12 hlk (by decide) (by decide))
theorem d_3_80 : decode method_3_code 80 = .ok (.bipush 12, 2) := by decide +kernel
theorem d_3_82 : decode method_3_code 82 = .ok (.newarray .char, 2) := by decide +kernel
theorem d_3_84 : decode method_3_code 84 = .ok (.dup, 1) := by decide +kernel
theorem d_3_85 : decode method_3_code 85 = .ok (.iconst 0, 1) := by decide +kernel
theorem d_3_86 : decode method_3_code 86 = .ok (.bipush 115, 2) := by decide +kernel
theorem d_3_88 : decode method_3_code 88 = .ok (.castore, 1) := by decide +kernel
theorem d_3_89 : decode method_3_code 89 = .ok (.dup, 1) := by decide +kernel
theorem d_3_90 : decode method_3_code 90 = .ok (.iconst 1, 1) := by decide +kernel
theorem d_3_91 : decode method_3_code 91 = .ok (.bipush 117, 2) := by decide +kernel
theorem d_3_93 : decode method_3_code 93 = .ok (.castore, 1) := by decide +kernel
theorem d_3_94 : decode method_3_code 94 = .ok (.dup, 1) := by decide +kernel
theorem d_3_95 : decode method_3_code 95 = .ok (.iconst 2, 1) := by decide +kernel
theorem d_3_96 : decode method_3_code 96 = .ok (.bipush 98, 2) := by decide +kernel
theorem d_3_98 : decode method_3_code 98 = .ok (.castore, 1) := by decide +kernel
theorem d_3_99 : decode method_3_code 99 = .ok (.dup, 1) := by decide +kernel
theorem d_3_100 : decode method_3_code 100 = .ok (.iconst 3, 1) := by decide +kernel
theorem d_3_101 : decode method_3_code 101 = .ok (.bipush 115, 2) := by decide +kernel
theorem d_3_103 : decode method_3_code 103 = .ok (.castore, 1) := by decide +kernel
theorem d_3_104 : decode method_3_code 104 = .ok (.dup, 1) := by decide +kernel
theorem d_3_105 : decode method_3_code 105 = .ok (.iconst 4, 1) := by decide +kernel
theorem d_3_106 : decode method_3_code 106 = .ok (.bipush 116, 2) := by decide +kernel
theorem d_3_108 : decode method_3_code 108 = .ok (.castore, 1) := by decide +kernel
theorem d_3_109 : decode method_3_code 109 = .ok (.dup, 1) := by decide +kernel
theorem d_3_110 : decode method_3_code 110 = .ok (.iconst 5, 1) := by decide +kernel
theorem d_3_111 : decode method_3_code 111 = .ok (.bipush 97, 2) := by decide +kernel
theorem d_3_113 : decode method_3_code 113 = .ok (.castore, 1) := by decide +kernel
theorem d_3_114 : decode method_3_code 114 = .ok (.dup, 1) := by decide +kernel
theorem d_3_115 : decode method_3_code 115 = .ok (.bipush 6, 2) := by decide +kernel
theorem d_3_117 : decode method_3_code 117 = .ok (.bipush 110, 2) := by decide +kernel
theorem d_3_119 : decode method_3_code 119 = .ok (.castore, 1) := by decide +kernel
theorem d_3_120 : decode method_3_code 120 = .ok (.dup, 1) := by decide +kernel
theorem d_3_121 : decode method_3_code 121 = .ok (.bipush 7, 2) := by decide +kernel
theorem d_3_123 : decode method_3_code 123 = .ok (.bipush 116, 2) := by decide +kernel
theorem d_3_125 : decode method_3_code 125 = .ok (.castore, 1) := by decide +kernel
theorem d_3_126 : decode method_3_code 126 = .ok (.dup, 1) := by decide +kernel
theorem d_3_127 : decode method_3_code 127 = .ok (.bipush 8, 2) := by decide +kernel
theorem d_3_129 : decode method_3_code 129 = .ok (.bipush 105, 2) := by decide +kernel
theorem d_3_131 : decode method_3_code 131 = .ok (.castore, 1) := by decide +kernel
theorem d_3_132 : decode method_3_code 132 = .ok (.dup, 1) := by decide +kernel
theorem d_3_133 : decode method_3_code 133 = .ok (.bipush 9, 2) := by decide +kernel
theorem d_3_135 : decode method_3_code 135 = .ok (.bipush 97, 2) := by decide +kernel
theorem d_3_137 : decode method_3_code 137 = .ok (.castore, 1) := by decide +kernel
theorem d_3_138 : decode method_3_code 138 = .ok (.dup, 1) := by decide +kernel
theorem d_3_139 : decode method_3_code 139 = .ok (.bipush 10, 2) := by decide +kernel
theorem d_3_141 : decode method_3_code 141 = .ok (.bipush 108, 2) := by decide +kernel
theorem d_3_143 : decode method_3_code 143 = .ok (.castore, 1) := by decide +kernel
theorem d_3_144 : decode method_3_code 144 = .ok (.dup, 1) := by decide +kernel
theorem d_3_145 : decode method_3_code 145 = .ok (.bipush 11, 2) := by decide +kernel
theorem d_3_147 : decode method_3_code 147 = .ok (.iload_n 2, 1) := by decide +kernel
theorem d_3_148 : decode method_3_code 148 = .ok (.castore, 1) := by decide +kernel
theorem d_3_149 : decode method_3_code 149 = .ok (.areturn, 1) := by decide +kernel
theorem own_ef21 (m : MethodId) (x0 : Int32) (x1 : Int32) (x2 : Int32)  : entryFrame m #[(.int x0), (.int x1), (.int x2)] 3 = mkF m 0 #[iv x0, iv x1, iv x2] [] := by first | (simp [entryFrame, mkF, argsToLocals, Value.category]; done) | rfl
abbrev own_Q21 (Z : State) (ch : Int32) (h0 : Heap) (n0 : Nat) (v : Option Value) (h : Heap) (L : List Loc) : Prop := ∃ r : Addr, ∃ kr : ClassId, v = some (.ref r) ∧ Fr n0 L ∧ Keep h0 h [] ∧ h0.size ≤ r ∧ Arv Z h r kr .char (12 : Int32) [(.int (115 : Int32)), (.int (117 : Int32)), (.int (98 : Int32)), (.int (115 : Int32)), (.int (116 : Int32)), (.int (97 : Int32)), (.int (110 : Int32)), (.int (116 : Int32)), (.int (105 : Int32)), (.int (97 : Int32)), (.int (108 : Int32)), (.int ch)] (.int (0 : Int32))
set_option maxRecDepth 65536 in
set_option maxHeartbeats 40000000 in
theorem own_m21 (l : Launch) (Z : State) (a0 : Array Value) (hw : ∀ d ∈ tables_1, d.before a0 Z = true) (ws : List Jvm.Cond) (ch : Int32) (h0 : Heap) (n0 : Nat) (O0 : Old Z n0 h0) (hch : ¬ ch < (0 : Int32) ∧ ¬ (255 : Int32) < ch) :
    Ctr l Z (⟨"com/example/castellan/castellan/config/AssuranceLevelNamedPinLaw", "name", "(IIC)[C"⟩ : MethodName) method_3_code 3 (some (.array .char)) (Rm 0 1 12 0) #[(.int (1 : Int32)), (.int (2 : Int32)), (.int ch)] h0 (own_Q21 Z ch h0 n0) ws := by
  refine MetFree.of_bodySF (plainFor_of_name own_pn4) hisR ?_
  intro p e s m args below meth c s₁ Bd hml0 hP hK
  obtain ⟨rfl, hZ, hh⟩ := hP
  have hx := Bd.exec
  have hby := Bd.bytes
  have hlk : meth.locks = false := Bd.notSynchronized
  have hml : c.maxLocals = 3 := hml0
  have hown : s.vm.findClass "com/example/castellan/castellan/config/AssuranceLevelNamedPinLaw" = some m.cls := findClass_of_methodNamed Bd.named
  have hnm := (name_of_methodNamed Bd.named Bd.method).1
  have X0 : Stand p l e (Rm 0 1 12 0) s m #[(.int (1 : Int32)), (.int (2 : Int32)), (.int ch)] below meth c s₁ [] 0 0 := Stand.of_body Bd
  have e0 : s₁.heap = h0 := by rw [← hh, Bd.state]; rfl
  have N0 := Fr.nil n0
  show Goes p.tables e below (fun t o => ∃ v L, o = .returned v ∧ (own_Q21 Z ch h0 n0) v t.heap L ∧ FrameEnd s o t L ((Rm 0 1 12 0)).cells ((Rm 0 1 12 0)).slots) _
  refine Goes.via (B := s₁.setTop (mkF m 0 #[iv (1 : Int32), iv (2 : Int32), iv ch] [])) (fun t k => castTop (own_ef21 m (1 : Int32) (2 : Int32) ch) k) ?_
  refine Gv s₁ 1 [(.int (1 : Int32))] (fun t k => XS.iloadN X0.here hx rfl (hb hby d_3_0) rfl k) ?_
  refine Gv s₁ 70 [] (fun t k => XS.ifYes X0.here hx rfl (pc0 := 1) (pc' := 70) rfl (hb hby d_3_1) rfl (XT.i0_ne_t (by decide)) (by decide) (by decide) k) ?_
  refine Gv s₁ 71 [(.int (1 : Int32))] (fun t k => XS.iloadN X0.here hx rfl (hb hby d_3_70) rfl k) ?_
  refine Gv s₁ 72 [(.int (1 : Int32)), (.int (1 : Int32))] (fun t k => XS.iconst X0.here hx rfl (hb hby d_3_71) k) ?_
  refine Gv s₁ 75 [] (fun t k => XS.icmpNo X0.here hx rfl (hb hby d_3_72) rfl (XT.ii_ne_f rfl) k) ?_
  refine Gv s₁ 76 [(.int (2 : Int32))] (fun t k => XS.iloadN X0.here hx rfl (hb hby d_3_75) rfl k) ?_
  refine Gv s₁ 77 [(.int (2 : Int32)), (.int (2 : Int32))] (fun t k => XS.iconst X0.here hx rfl (hb hby d_3_76) k) ?_
  refine Gv s₁ 80 [] (fun t k => XS.icmpNo X0.here hx rfl (hb hby d_3_77) rfl (XT.ii_ne_f rfl) k) ?_
  refine Gv s₁ 82 [(.int (12 : Int32))] (fun t k => XS.bipush X0.here hx rfl (hb hby d_3_80) k) ?_
  obtain ⟨T1, h1, k1, X1, e1, E1, A1, st1⟩ := newP X0 hx hZ (W_ hw 4 rfl) e0 (g := (mkF m 82 #[iv (1 : Int32), iv (2 : Int32), iv ch] [(.int (12 : Int32))])) rfl (hb hby d_3_82) rfl (by decide) (cap := 12) (by decide) (by decide) (by decide) (by decide)
  obtain ⟨b1, g1⟩ : ∃ z, z = h0.size := ⟨_, rfl⟩
  rw [← g1] at A1 st1
  have gn1 : n0 ≤ b1 := Nat.le_trans (old_le O0) (Nat.le_of_eq g1.symm)
  have gs1 : h0.size ≤ b1 := Nat.le_trans (Keep.refl h0 []).1 (Nat.le_of_eq g1.symm)
  have V1 : Arv Z h1 b1 k1 .char (12 : Int32) [(.int (0 : Int32)), (.int (0 : Int32)), (.int (0 : Int32)), (.int (0 : Int32)), (.int (0 : Int32)), (.int (0 : Int32)), (.int (0 : Int32)), (.int (0 : Int32)), (.int (0 : Int32)), (.int (0 : Int32)), (.int (0 : Int32)), (.int (0 : Int32))] (.int (0 : Int32)) := (Arv.new A1 (by decide)).pad (pad_rep [] (.int (0 : Int32)) 12)
  refine Goes.via (B := T1.setTop (mkF m 84 #[iv (1 : Int32), iv (2 : Int32), iv ch] [(.ref b1)])) (fun t k => st1 _ k) ?_
  refine Gv T1 85 [(.ref b1), (.ref b1)] (fun t k => XS.dup X1.here hx rfl (hb hby d_3_84) rfl rfl k) ?_
  refine Gv T1 86 [(.int (0 : Int32)), (.ref b1), (.ref b1)] (fun t k => XS.iconst X1.here hx rfl (hb hby d_3_85) k) ?_
  refine Gv T1 88 [(.int (115 : Int32)), (.int (0 : Int32)), (.ref b1), (.ref b1)] (fun t k => XS.bipush X1.here hx rfl (hb hby d_3_86) k) ?_
  obtain ⟨cl2, Ar2, q2, S2, N2, H2, G2⟩ := id V1
  obtain ⟨T2, h2, X2, e2, W2, st2⟩ := stC X1 hx hZ e1 Ar2 (j := (0 : Int32)) (inb_of S2 ⟨by decide, by decide⟩) (g := (mkF m 88 #[iv (1 : Int32), iv (2 : Int32), iv ch] [(.int (115 : Int32)), (.int (0 : Int32)), (.ref b1), (.ref b1)])) rfl rfl (hb hby d_3_88)
  have wn2 : nar .char (115 : Int32) = (115 : Int32) := rfl
  have fn2 : fits .char (.int (115 : Int32)) = true := by rw [← wn2]; exact fits_nar_char _
  rw [wn2] at W2
  have Nf2 := Fr.snoc X2 N0 gn1
  have V2 : Arv Z h2 b1 k1 .char (12 : Int32) [(.int (115 : Int32)), (.int (0 : Int32)), (.int (0 : Int32)), (.int (0 : Int32)), (.int (0 : Int32)), (.int (0 : Int32)), (.int (0 : Int32)), (.int (0 : Int32)), (.int (0 : Int32)), (.int (0 : Int32)), (.int (0 : Int32)), (.int (0 : Int32))] (.int (0 : Int32)) := Arv.set Ar2 q2 S2 N2 H2 G2 fn2 W2 0 rfl (Nat.le_of_ble_eq_true rfl)
  refine Goes.via (B := T2.setTop (mkF m 89 #[iv (1 : Int32), iv (2 : Int32), iv ch] [(.ref b1)])) (fun t k => st2 _ k) ?_
  refine Gv T2 90 [(.ref b1), (.ref b1)] (fun t k => XS.dup X2.here hx rfl (hb hby d_3_89) rfl rfl k) ?_
  refine Gv T2 91 [(.int (1 : Int32)), (.ref b1), (.ref b1)] (fun t k => XS.iconst X2.here hx rfl (hb hby d_3_90) k) ?_
  refine Gv T2 93 [(.int (117 : Int32)), (.int (1 : Int32)), (.ref b1), (.ref b1)] (fun t k => XS.bipush X2.here hx rfl (hb hby d_3_91) k) ?_
  obtain ⟨cl3, Ar3, q3, S3, N3, H3, G3⟩ := id V2
  obtain ⟨T3, h3, X3, e3, W3, st3⟩ := stC X2 hx hZ e2 Ar3 (j := (1 : Int32)) (inb_of S3 ⟨by decide, by decide⟩) (g := (mkF m 93 #[iv (1 : Int32), iv (2 : Int32), iv ch] [(.int (117 : Int32)), (.int (1 : Int32)), (.ref b1), (.ref b1)])) rfl rfl (hb hby d_3_93)
  have wn3 : nar .char (117 : Int32) = (117 : Int32) := rfl
  have fn3 : fits .char (.int (117 : Int32)) = true := by rw [← wn3]; exact fits_nar_char _
  rw [wn3] at W3
  have Nf3 := Fr.snoc X3 Nf2 gn1
  have V3 : Arv Z h3 b1 k1 .char (12 : Int32) [(.int (115 : Int32)), (.int (117 : Int32)), (.int (0 : Int32)), (.int (0 : Int32)), (.int (0 : Int32)), (.int (0 : Int32)), (.int (0 : Int32)), (.int (0 : Int32)), (.int (0 : Int32)), (.int (0 : Int32)), (.int (0 : Int32)), (.int (0 : Int32))] (.int (0 : Int32)) := Arv.set Ar3 q3 S3 N3 H3 G3 fn3 W3 1 rfl (Nat.le_of_ble_eq_true rfl)
  refine Goes.via (B := T3.setTop (mkF m 94 #[iv (1 : Int32), iv (2 : Int32), iv ch] [(.ref b1)])) (fun t k => st3 _ k) ?_
  refine Gv T3 95 [(.ref b1), (.ref b1)] (fun t k => XS.dup X3.here hx rfl (hb hby d_3_94) rfl rfl k) ?_
  refine Gv T3 96 [(.int (2 : Int32)), (.ref b1), (.ref b1)] (fun t k => XS.iconst X3.here hx rfl (hb hby d_3_95) k) ?_
  refine Gv T3 98 [(.int (98 : Int32)), (.int (2 : Int32)), (.ref b1), (.ref b1)] (fun t k => XS.bipush X3.here hx rfl (hb hby d_3_96) k) ?_
  obtain ⟨cl4, Ar4, q4, S4, N4, H4, G4⟩ := id V3
  obtain ⟨T4, h4, X4, e4, W4, st4⟩ := stC X3 hx hZ e3 Ar4 (j := (2 : Int32)) (inb_of S4 ⟨by decide, by decide⟩) (g := (mkF m 98 #[iv (1 : Int32), iv (2 : Int32), iv ch] [(.int (98 : Int32)), (.int (2 : Int32)), (.ref b1), (.ref b1)])) rfl rfl (hb hby d_3_98)
  have wn4 : nar .char (98 : Int32) = (98 : Int32) := rfl
  have fn4 : fits .char (.int (98 : Int32)) = true := by rw [← wn4]; exact fits_nar_char _
  rw [wn4] at W4
  have Nf4 := Fr.snoc X4 Nf3 gn1
  have V4 : Arv Z h4 b1 k1 .char (12 : Int32) [(.int (115 : Int32)), (.int (117 : Int32)), (.int (98 : Int32)), (.int (0 : Int32)), (.int (0 : Int32)), (.int (0 : Int32)), (.int (0 : Int32)), (.int (0 : Int32)), (.int (0 : Int32)), (.int (0 : Int32)), (.int (0 : Int32)), (.int (0 : Int32))] (.int (0 : Int32)) := Arv.set Ar4 q4 S4 N4 H4 G4 fn4 W4 2 rfl (Nat.le_of_ble_eq_true rfl)
  refine Goes.via (B := T4.setTop (mkF m 99 #[iv (1 : Int32), iv (2 : Int32), iv ch] [(.ref b1)])) (fun t k => st4 _ k) ?_
  refine Gv T4 100 [(.ref b1), (.ref b1)] (fun t k => XS.dup X4.here hx rfl (hb hby d_3_99) rfl rfl k) ?_
  refine Gv T4 101 [(.int (3 : Int32)), (.ref b1), (.ref b1)] (fun t k => XS.iconst X4.here hx rfl (hb hby d_3_100) k) ?_
  refine Gv T4 103 [(.int (115 : Int32)), (.int (3 : Int32)), (.ref b1), (.ref b1)] (fun t k => XS.bipush X4.here hx rfl (hb hby d_3_101) k) ?_
  obtain ⟨cl5, Ar5, q5, S5, N5, H5, G5⟩ := id V4
  obtain ⟨T5, h5, X5, e5, W5, st5⟩ := stC X4 hx hZ e4 Ar5 (j := (3 : Int32)) (inb_of S5 ⟨by decide, by decide⟩) (g := (mkF m 103 #[iv (1 : Int32), iv (2 : Int32), iv ch] [(.int (115 : Int32)), (.int (3 : Int32)), (.ref b1), (.ref b1)])) rfl rfl (hb hby d_3_103)
  have wn5 : nar .char (115 : Int32) = (115 : Int32) := rfl
  have fn5 : fits .char (.int (115 : Int32)) = true := by rw [← wn5]; exact fits_nar_char _
  rw [wn5] at W5
  have Nf5 := Fr.snoc X5 Nf4 gn1
  have V5 : Arv Z h5 b1 k1 .char (12 : Int32) [(.int (115 : Int32)), (.int (117 : Int32)), (.int (98 : Int32)), (.int (115 : Int32)), (.int (0 : Int32)), (.int (0 : Int32)), (.int (0 : Int32)), (.int (0 : Int32)), (.int (0 : Int32)), (.int (0 : Int32)), (.int (0 : Int32)), (.int (0 : Int32))] (.int (0 : Int32)) := Arv.set Ar5 q5 S5 N5 H5 G5 fn5 W5 3 rfl (Nat.le_of_ble_eq_true rfl)
  refine Goes.via (B := T5.setTop (mkF m 104 #[iv (1 : Int32), iv (2 : Int32), iv ch] [(.ref b1)])) (fun t k => st5 _ k) ?_
  refine Gv T5 105 [(.ref b1), (.ref b1)] (fun t k => XS.dup X5.here hx rfl (hb hby d_3_104) rfl rfl k) ?_
  refine Gv T5 106 [(.int (4 : Int32)), (.ref b1), (.ref b1)] (fun t k => XS.iconst X5.here hx rfl (hb hby d_3_105) k) ?_
  refine Gv T5 108 [(.int (116 : Int32)), (.int (4 : Int32)), (.ref b1), (.ref b1)] (fun t k => XS.bipush X5.here hx rfl (hb hby d_3_106) k) ?_
  obtain ⟨cl6, Ar6, q6, S6, N6, H6, G6⟩ := id V5
  obtain ⟨T6, h6, X6, e6, W6, st6⟩ := stC X5 hx hZ e5 Ar6 (j := (4 : Int32)) (inb_of S6 ⟨by decide, by decide⟩) (g := (mkF m 108 #[iv (1 : Int32), iv (2 : Int32), iv ch] [(.int (116 : Int32)), (.int (4 : Int32)), (.ref b1), (.ref b1)])) rfl rfl (hb hby d_3_108)
  have wn6 : nar .char (116 : Int32) = (116 : Int32) := rfl
  have fn6 : fits .char (.int (116 : Int32)) = true := by rw [← wn6]; exact fits_nar_char _
  rw [wn6] at W6
  have Nf6 := Fr.snoc X6 Nf5 gn1
  have V6 : Arv Z h6 b1 k1 .char (12 : Int32) [(.int (115 : Int32)), (.int (117 : Int32)), (.int (98 : Int32)), (.int (115 : Int32)), (.int (116 : Int32)), (.int (0 : Int32)), (.int (0 : Int32)), (.int (0 : Int32)), (.int (0 : Int32)), (.int (0 : Int32)), (.int (0 : Int32)), (.int (0 : Int32))] (.int (0 : Int32)) := Arv.set Ar6 q6 S6 N6 H6 G6 fn6 W6 4 rfl (Nat.le_of_ble_eq_true rfl)
  refine Goes.via (B := T6.setTop (mkF m 109 #[iv (1 : Int32), iv (2 : Int32), iv ch] [(.ref b1)])) (fun t k => st6 _ k) ?_
  refine Gv T6 110 [(.ref b1), (.ref b1)] (fun t k => XS.dup X6.here hx rfl (hb hby d_3_109) rfl rfl k) ?_
  refine Gv T6 111 [(.int (5 : Int32)), (.ref b1), (.ref b1)] (fun t k => XS.iconst X6.here hx rfl (hb hby d_3_110) k) ?_
  refine Gv T6 113 [(.int (97 : Int32)), (.int (5 : Int32)), (.ref b1), (.ref b1)] (fun t k => XS.bipush X6.here hx rfl (hb hby d_3_111) k) ?_
  obtain ⟨cl7, Ar7, q7, S7, N7, H7, G7⟩ := id V6
  obtain ⟨T7, h7, X7, e7, W7, st7⟩ := stC X6 hx hZ e6 Ar7 (j := (5 : Int32)) (inb_of S7 ⟨by decide, by decide⟩) (g := (mkF m 113 #[iv (1 : Int32), iv (2 : Int32), iv ch] [(.int (97 : Int32)), (.int (5 : Int32)), (.ref b1), (.ref b1)])) rfl rfl (hb hby d_3_113)
  have wn7 : nar .char (97 : Int32) = (97 : Int32) := rfl
  have fn7 : fits .char (.int (97 : Int32)) = true := by rw [← wn7]; exact fits_nar_char _
  rw [wn7] at W7
  have Nf7 := Fr.snoc X7 Nf6 gn1
  have V7 : Arv Z h7 b1 k1 .char (12 : Int32) [(.int (115 : Int32)), (.int (117 : Int32)), (.int (98 : Int32)), (.int (115 : Int32)), (.int (116 : Int32)), (.int (97 : Int32)), (.int (0 : Int32)), (.int (0 : Int32)), (.int (0 : Int32)), (.int (0 : Int32)), (.int (0 : Int32)), (.int (0 : Int32))] (.int (0 : Int32)) := Arv.set Ar7 q7 S7 N7 H7 G7 fn7 W7 5 rfl (Nat.le_of_ble_eq_true rfl)
  refine Goes.via (B := T7.setTop (mkF m 114 #[iv (1 : Int32), iv (2 : Int32), iv ch] [(.ref b1)])) (fun t k => st7 _ k) ?_
  refine Gv T7 115 [(.ref b1), (.ref b1)] (fun t k => XS.dup X7.here hx rfl (hb hby d_3_114) rfl rfl k) ?_
  refine Gv T7 117 [(.int (6 : Int32)), (.ref b1), (.ref b1)] (fun t k => XS.bipush X7.here hx rfl (hb hby d_3_115) k) ?_
  refine Gv T7 119 [(.int (110 : Int32)), (.int (6 : Int32)), (.ref b1), (.ref b1)] (fun t k => XS.bipush X7.here hx rfl (hb hby d_3_117) k) ?_
  obtain ⟨cl8, Ar8, q8, S8, N8, H8, G8⟩ := id V7
  obtain ⟨T8, h8, X8, e8, W8, st8⟩ := stC X7 hx hZ e7 Ar8 (j := (6 : Int32)) (inb_of S8 ⟨by decide, by decide⟩) (g := (mkF m 119 #[iv (1 : Int32), iv (2 : Int32), iv ch] [(.int (110 : Int32)), (.int (6 : Int32)), (.ref b1), (.ref b1)])) rfl rfl (hb hby d_3_119)
  have wn8 : nar .char (110 : Int32) = (110 : Int32) := rfl
  have fn8 : fits .char (.int (110 : Int32)) = true := by rw [← wn8]; exact fits_nar_char _
  rw [wn8] at W8
  have Nf8 := Fr.snoc X8 Nf7 gn1
  have V8 : Arv Z h8 b1 k1 .char (12 : Int32) [(.int (115 : Int32)), (.int (117 : Int32)), (.int (98 : Int32)), (.int (115 : Int32)), (.int (116 : Int32)), (.int (97 : Int32)), (.int (110 : Int32)), (.int (0 : Int32)), (.int (0 : Int32)), (.int (0 : Int32)), (.int (0 : Int32)), (.int (0 : Int32))] (.int (0 : Int32)) := Arv.set Ar8 q8 S8 N8 H8 G8 fn8 W8 6 rfl (Nat.le_of_ble_eq_true rfl)
  refine Goes.via (B := T8.setTop (mkF m 120 #[iv (1 : Int32), iv (2 : Int32), iv ch] [(.ref b1)])) (fun t k => st8 _ k) ?_
  refine Gv T8 121 [(.ref b1), (.ref b1)] (fun t k => XS.dup X8.here hx rfl (hb hby d_3_120) rfl rfl k) ?_
  refine Gv T8 123 [(.int (7 : Int32)), (.ref b1), (.ref b1)] (fun t k => XS.bipush X8.here hx rfl (hb hby d_3_121) k) ?_
  refine Gv T8 125 [(.int (116 : Int32)), (.int (7 : Int32)), (.ref b1), (.ref b1)] (fun t k => XS.bipush X8.here hx rfl (hb hby d_3_123) k) ?_
  obtain ⟨cl9, Ar9, q9, S9, N9, H9, G9⟩ := id V8
  obtain ⟨T9, h9, X9, e9, W9, st9⟩ := stC X8 hx hZ e8 Ar9 (j := (7 : Int32)) (inb_of S9 ⟨by decide, by decide⟩) (g := (mkF m 125 #[iv (1 : Int32), iv (2 : Int32), iv ch] [(.int (116 : Int32)), (.int (7 : Int32)), (.ref b1), (.ref b1)])) rfl rfl (hb hby d_3_125)
  have wn9 : nar .char (116 : Int32) = (116 : Int32) := rfl
  have fn9 : fits .char (.int (116 : Int32)) = true := by rw [← wn9]; exact fits_nar_char _
  rw [wn9] at W9
  have Nf9 := Fr.snoc X9 Nf8 gn1
  have V9 : Arv Z h9 b1 k1 .char (12 : Int32) [(.int (115 : Int32)), (.int (117 : Int32)), (.int (98 : Int32)), (.int (115 : Int32)), (.int (116 : Int32)), (.int (97 : Int32)), (.int (110 : Int32)), (.int (116 : Int32)), (.int (0 : Int32)), (.int (0 : Int32)), (.int (0 : Int32)), (.int (0 : Int32))] (.int (0 : Int32)) := Arv.set Ar9 q9 S9 N9 H9 G9 fn9 W9 7 rfl (Nat.le_of_ble_eq_true rfl)
  refine Goes.via (B := T9.setTop (mkF m 126 #[iv (1 : Int32), iv (2 : Int32), iv ch] [(.ref b1)])) (fun t k => st9 _ k) ?_
  refine Gv T9 127 [(.ref b1), (.ref b1)] (fun t k => XS.dup X9.here hx rfl (hb hby d_3_126) rfl rfl k) ?_
  refine Gv T9 129 [(.int (8 : Int32)), (.ref b1), (.ref b1)] (fun t k => XS.bipush X9.here hx rfl (hb hby d_3_127) k) ?_
  refine Gv T9 131 [(.int (105 : Int32)), (.int (8 : Int32)), (.ref b1), (.ref b1)] (fun t k => XS.bipush X9.here hx rfl (hb hby d_3_129) k) ?_
  obtain ⟨cl10, Ar10, q10, S10, N10, H10, G10⟩ := id V9
  obtain ⟨T10, h10, X10, e10, W10, st10⟩ := stC X9 hx hZ e9 Ar10 (j := (8 : Int32)) (inb_of S10 ⟨by decide, by decide⟩) (g := (mkF m 131 #[iv (1 : Int32), iv (2 : Int32), iv ch] [(.int (105 : Int32)), (.int (8 : Int32)), (.ref b1), (.ref b1)])) rfl rfl (hb hby d_3_131)
  have wn10 : nar .char (105 : Int32) = (105 : Int32) := rfl
  have fn10 : fits .char (.int (105 : Int32)) = true := by rw [← wn10]; exact fits_nar_char _
  rw [wn10] at W10
  have Nf10 := Fr.snoc X10 Nf9 gn1
  have V10 : Arv Z h10 b1 k1 .char (12 : Int32) [(.int (115 : Int32)), (.int (117 : Int32)), (.int (98 : Int32)), (.int (115 : Int32)), (.int (116 : Int32)), (.int (97 : Int32)), (.int (110 : Int32)), (.int (116 : Int32)), (.int (105 : Int32)), (.int (0 : Int32)), (.int (0 : Int32)), (.int (0 : Int32))] (.int (0 : Int32)) := Arv.set Ar10 q10 S10 N10 H10 G10 fn10 W10 8 rfl (Nat.le_of_ble_eq_true rfl)
  refine Goes.via (B := T10.setTop (mkF m 132 #[iv (1 : Int32), iv (2 : Int32), iv ch] [(.ref b1)])) (fun t k => st10 _ k) ?_
  refine Gv T10 133 [(.ref b1), (.ref b1)] (fun t k => XS.dup X10.here hx rfl (hb hby d_3_132) rfl rfl k) ?_
  refine Gv T10 135 [(.int (9 : Int32)), (.ref b1), (.ref b1)] (fun t k => XS.bipush X10.here hx rfl (hb hby d_3_133) k) ?_
  refine Gv T10 137 [(.int (97 : Int32)), (.int (9 : Int32)), (.ref b1), (.ref b1)] (fun t k => XS.bipush X10.here hx rfl (hb hby d_3_135) k) ?_
  obtain ⟨cl11, Ar11, q11, S11, N11, H11, G11⟩ := id V10
  obtain ⟨T11, h11, X11, e11, W11, st11⟩ := stC X10 hx hZ e10 Ar11 (j := (9 : Int32)) (inb_of S11 ⟨by decide, by decide⟩) (g := (mkF m 137 #[iv (1 : Int32), iv (2 : Int32), iv ch] [(.int (97 : Int32)), (.int (9 : Int32)), (.ref b1), (.ref b1)])) rfl rfl (hb hby d_3_137)
  have wn11 : nar .char (97 : Int32) = (97 : Int32) := rfl
  have fn11 : fits .char (.int (97 : Int32)) = true := by rw [← wn11]; exact fits_nar_char _
  rw [wn11] at W11
  have Nf11 := Fr.snoc X11 Nf10 gn1
  have V11 : Arv Z h11 b1 k1 .char (12 : Int32) [(.int (115 : Int32)), (.int (117 : Int32)), (.int (98 : Int32)), (.int (115 : Int32)), (.int (116 : Int32)), (.int (97 : Int32)), (.int (110 : Int32)), (.int (116 : Int32)), (.int (105 : Int32)), (.int (97 : Int32)), (.int (0 : Int32)), (.int (0 : Int32))] (.int (0 : Int32)) := Arv.set Ar11 q11 S11 N11 H11 G11 fn11 W11 9 rfl (Nat.le_of_ble_eq_true rfl)
  refine Goes.via (B := T11.setTop (mkF m 138 #[iv (1 : Int32), iv (2 : Int32), iv ch] [(.ref b1)])) (fun t k => st11 _ k) ?_
  refine Gv T11 139 [(.ref b1), (.ref b1)] (fun t k => XS.dup X11.here hx rfl (hb hby d_3_138) rfl rfl k) ?_
  refine Gv T11 141 [(.int (10 : Int32)), (.ref b1), (.ref b1)] (fun t k => XS.bipush X11.here hx rfl (hb hby d_3_139) k) ?_
  refine Gv T11 143 [(.int (108 : Int32)), (.int (10 : Int32)), (.ref b1), (.ref b1)] (fun t k => XS.bipush X11.here hx rfl (hb hby d_3_141) k) ?_
  obtain ⟨cl12, Ar12, q12, S12, N12, H12, G12⟩ := id V11
  obtain ⟨T12, h12, X12, e12, W12, st12⟩ := stC X11 hx hZ e11 Ar12 (j := (10 : Int32)) (inb_of S12 ⟨by decide, by decide⟩) (g := (mkF m 143 #[iv (1 : Int32), iv (2 : Int32), iv ch] [(.int (108 : Int32)), (.int (10 : Int32)), (.ref b1), (.ref b1)])) rfl rfl (hb hby d_3_143)
  have wn12 : nar .char (108 : Int32) = (108 : Int32) := rfl
  have fn12 : fits .char (.int (108 : Int32)) = true := by rw [← wn12]; exact fits_nar_char _
  rw [wn12] at W12
  have Nf12 := Fr.snoc X12 Nf11 gn1
  have V12 : Arv Z h12 b1 k1 .char (12 : Int32) [(.int (115 : Int32)), (.int (117 : Int32)), (.int (98 : Int32)), (.int (115 : Int32)), (.int (116 : Int32)), (.int (97 : Int32)), (.int (110 : Int32)), (.int (116 : Int32)), (.int (105 : Int32)), (.int (97 : Int32)), (.int (108 : Int32)), (.int (0 : Int32))] (.int (0 : Int32)) := Arv.set Ar12 q12 S12 N12 H12 G12 fn12 W12 10 rfl (Nat.le_of_ble_eq_true rfl)
  refine Goes.via (B := T12.setTop (mkF m 144 #[iv (1 : Int32), iv (2 : Int32), iv ch] [(.ref b1)])) (fun t k => st12 _ k) ?_
  refine Gv T12 145 [(.ref b1), (.ref b1)] (fun t k => XS.dup X12.here hx rfl (hb hby d_3_144) rfl rfl k) ?_
  refine Gv T12 147 [(.int (11 : Int32)), (.ref b1), (.ref b1)] (fun t k => XS.bipush X12.here hx rfl (hb hby d_3_145) k) ?_
  refine Gv T12 148 [(.int ch), (.int (11 : Int32)), (.ref b1), (.ref b1)] (fun t k => XS.iloadN X12.here hx rfl (hb hby d_3_147) rfl k) ?_
  obtain ⟨cl13, Ar13, q13, S13, N13, H13, G13⟩ := id V12
  obtain ⟨T13, h13, X13, e13, W13, st13⟩ := stC X12 hx hZ e12 Ar13 (j := (11 : Int32)) (inb_of S13 ⟨by decide, by decide⟩) (g := (mkF m 148 #[iv (1 : Int32), iv (2 : Int32), iv ch] [(.int ch), (.int (11 : Int32)), (.ref b1), (.ref b1)])) rfl rfl (hb hby d_3_148)
  have wn13 : nar .char ch = ch := own_i2c hch
  have fn13 : fits .char (.int ch) = true := by rw [← wn13]; exact fits_nar_char _
  rw [wn13] at W13
  have Nf13 := Fr.snoc X13 Nf12 gn1
  have V13 : Arv Z h13 b1 k1 .char (12 : Int32) [(.int (115 : Int32)), (.int (117 : Int32)), (.int (98 : Int32)), (.int (115 : Int32)), (.int (116 : Int32)), (.int (97 : Int32)), (.int (110 : Int32)), (.int (116 : Int32)), (.int (105 : Int32)), (.int (97 : Int32)), (.int (108 : Int32)), (.int ch)] (.int (0 : Int32)) := Arv.set Ar13 q13 S13 N13 H13 G13 fn13 W13 11 rfl (Nat.le_of_ble_eq_true rfl)
  refine Goes.via (B := T13.setTop (mkF m 149 #[iv (1 : Int32), iv (2 : Int32), iv ch] [(.ref b1)])) (fun t k => st13 _ k) ?_
  exact finA (Q := (own_Q21 Z ch h0 n0)) (F := FrameEnd) (C := ((Rm 0 1 12 0)).cells) (S := ((Rm 0 1 12 0)).slots) X13 hx Bd.returns rfl rfl rfl (hb hby d_3_149) e13 ⟨b1, k1, rfl, Nf13, ((((((((((((((Keep.refl h0 []).ext E1).wr W2 (Or.inr gs1)).wr W3 (Or.inr gs1)).wr W4 (Or.inr gs1)).wr W5 (Or.inr gs1)).wr W6 (Or.inr gs1)).wr W7 (Or.inr gs1)).wr W8 (Or.inr gs1)).wr W9 (Or.inr gs1)).wr W10 (Or.inr gs1)).wr W11 (Or.inr gs1)).wr W12 (Or.inr gs1)).wr W13 (Or.inr gs1)), gs1, V13⟩ (lvN X13 hlk (by decide) (by decide))
theorem d_3_155 : decode method_3_code 155 = .ok (.bipush 10, 2) := by decide +kernel
theorem d_3_157 : decode method_3_code 157 = .ok (.newarray .char, 2) := by decide +kernel
theorem d_3_159 : decode method_3_code 159 = .ok (.dup, 1) := by decide +kernel
theorem d_3_160 : decode method_3_code 160 = .ok (.iconst 0, 1) := by decide +kernel
theorem d_3_161 : decode method_3_code 161 = .ok (.bipush 115, 2) := by decide +kernel
theorem d_3_163 : decode method_3_code 163 = .ok (.castore, 1) := by decide +kernel
theorem d_3_164 : decode method_3_code 164 = .ok (.dup, 1) := by decide +kernel
theorem d_3_165 : decode method_3_code 165 = .ok (.iconst 1, 1) := by decide +kernel
theorem d_3_166 : decode method_3_code 166 = .ok (.bipush 117, 2) := by decide +kernel
theorem d_3_168 : decode method_3_code 168 = .ok (.castore, 1) := by decide +kernel
theorem d_3_169 : decode method_3_code 169 = .ok (.dup, 1) := by decide +kernel
theorem d_3_170 : decode method_3_code 170 = .ok (.iconst 2, 1) := by decide +kernel
theorem d_3_171 : decode method_3_code 171 = .ok (.bipush 98, 2) := by decide +kernel
theorem d_3_173 : decode method_3_code 173 = .ok (.castore, 1) := by decide +kernel
theorem d_3_174 : decode method_3_code 174 = .ok (.dup, 1) := by decide +kernel
theorem d_3_175 : decode method_3_code 175 = .ok (.iconst 3, 1) := by decide +kernel
theorem d_3_176 : decode method_3_code 176 = .ok (.bipush 115, 2) := by decide +kernel
theorem d_3_178 : decode method_3_code 178 = .ok (.castore, 1) := by decide +kernel
theorem d_3_179 : decode method_3_code 179 = .ok (.dup, 1) := by decide +kernel
theorem d_3_180 : decode method_3_code 180 = .ok (.iconst 4, 1) := by decide +kernel
theorem d_3_181 : decode method_3_code 181 = .ok (.bipush 116, 2) := by decide +kernel
theorem d_3_183 : decode method_3_code 183 = .ok (.castore, 1) := by decide +kernel
theorem d_3_184 : decode method_3_code 184 = .ok (.dup, 1) := by decide +kernel
theorem d_3_185 : decode method_3_code 185 = .ok (.iconst 5, 1) := by decide +kernel
theorem d_3_186 : decode method_3_code 186 = .ok (.bipush 97, 2) := by decide +kernel
theorem d_3_188 : decode method_3_code 188 = .ok (.castore, 1) := by decide +kernel
theorem d_3_189 : decode method_3_code 189 = .ok (.dup, 1) := by decide +kernel
theorem d_3_190 : decode method_3_code 190 = .ok (.bipush 6, 2) := by decide +kernel
theorem d_3_192 : decode method_3_code 192 = .ok (.bipush 110, 2) := by decide +kernel
theorem d_3_194 : decode method_3_code 194 = .ok (.castore, 1) := by decide +kernel
theorem d_3_195 : decode method_3_code 195 = .ok (.dup, 1) := by decide +kernel
theorem d_3_196 : decode method_3_code 196 = .ok (.bipush 7, 2) := by decide +kernel
theorem d_3_198 : decode method_3_code 198 = .ok (.bipush 116, 2) := by decide +kernel
theorem d_3_200 : decode method_3_code 200 = .ok (.castore, 1) := by decide +kernel
theorem d_3_201 : decode method_3_code 201 = .ok (.dup, 1) := by decide +kernel
theorem d_3_202 : decode method_3_code 202 = .ok (.bipush 8, 2) := by decide +kernel
theorem d_3_204 : decode method_3_code 204 = .ok (.bipush 105, 2) := by decide +kernel
theorem d_3_206 : decode method_3_code 206 = .ok (.castore, 1) := by decide +kernel
theorem d_3_207 : decode method_3_code 207 = .ok (.dup, 1) := by decide +kernel
theorem d_3_208 : decode method_3_code 208 = .ok (.bipush 9, 2) := by decide +kernel
theorem d_3_210 : decode method_3_code 210 = .ok (.bipush 97, 2) := by decide +kernel
theorem d_3_212 : decode method_3_code 212 = .ok (.castore, 1) := by decide +kernel
theorem d_3_213 : decode method_3_code 213 = .ok (.areturn, 1) := by decide +kernel
theorem own_ef22 (m : MethodId) (x0 : Int32) (x1 : Int32) (x2 : Int32)  : entryFrame m #[(.int x0), (.int x1), (.int x2)] 3 = mkF m 0 #[iv x0, iv x1, iv x2] [] := by first | (simp [entryFrame, mkF, argsToLocals, Value.category]; done) | rfl
abbrev own_Q22 (Z : State) (ch : Int32) (h0 : Heap) (n0 : Nat) (v : Option Value) (h : Heap) (L : List Loc) : Prop := ∃ r : Addr, ∃ kr : ClassId, v = some (.ref r) ∧ Fr n0 L ∧ Keep h0 h [] ∧ h0.size ≤ r ∧ Arv Z h r kr .char (10 : Int32) [(.int (115 : Int32)), (.int (117 : Int32)), (.int (98 : Int32)), (.int (115 : Int32)), (.int (116 : Int32)), (.int (97 : Int32)), (.int (110 : Int32)), (.int (116 : Int32)), (.int (105 : Int32)), (.int (97 : Int32))] (.int (0 : Int32))
set_option maxRecDepth 65536 in
set_option maxHeartbeats 40000000 in
theorem own_m22 (l : Launch) (Z : State) (a0 : Array Value) (hw : ∀ d ∈ tables_1, d.before a0 Z = true) (ws : List Jvm.Cond) (ch : Int32) (h0 : Heap) (n0 : Nat) (O0 : Old Z n0 h0) (hch : ¬ ch < (0 : Int32) ∧ ¬ (255 : Int32) < ch) :
    Ctr l Z (⟨"com/example/castellan/castellan/config/AssuranceLevelNamedPinLaw", "name", "(IIC)[C"⟩ : MethodName) method_3_code 3 (some (.array .char)) (Rm 0 1 10 0) #[(.int (1 : Int32)), (.int (3 : Int32)), (.int ch)] h0 (own_Q22 Z ch h0 n0) ws := by
  refine MetFree.of_bodySF (plainFor_of_name own_pn4) hisR ?_
  intro p e s m args below meth c s₁ Bd hml0 hP hK
  obtain ⟨rfl, hZ, hh⟩ := hP
  have hx := Bd.exec
  have hby := Bd.bytes
  have hlk : meth.locks = false := Bd.notSynchronized
  have hml : c.maxLocals = 3 := hml0
  have hown : s.vm.findClass "com/example/castellan/castellan/config/AssuranceLevelNamedPinLaw" = some m.cls := findClass_of_methodNamed Bd.named
  have hnm := (name_of_methodNamed Bd.named Bd.method).1
  have X0 : Stand p l e (Rm 0 1 10 0) s m #[(.int (1 : Int32)), (.int (3 : Int32)), (.int ch)] below meth c s₁ [] 0 0 := Stand.of_body Bd
  have e0 : s₁.heap = h0 := by rw [← hh, Bd.state]; rfl
  have N0 := Fr.nil n0
  show Goes p.tables e below (fun t o => ∃ v L, o = .returned v ∧ (own_Q22 Z ch h0 n0) v t.heap L ∧ FrameEnd s o t L ((Rm 0 1 10 0)).cells ((Rm 0 1 10 0)).slots) _
  refine Goes.via (B := s₁.setTop (mkF m 0 #[iv (1 : Int32), iv (3 : Int32), iv ch] [])) (fun t k => castTop (own_ef22 m (1 : Int32) (3 : Int32) ch) k) ?_
  refine Gv s₁ 1 [(.int (1 : Int32))] (fun t k => XS.iloadN X0.here hx rfl (hb hby d_3_0) rfl k) ?_
  refine Gv s₁ 70 [] (fun t k => XS.ifYes X0.here hx rfl (pc0 := 1) (pc' := 70) rfl (hb hby d_3_1) rfl (XT.i0_ne_t (by decide)) (by decide) (by decide) k) ?_
  refine Gv s₁ 71 [(.int (1 : Int32))] (fun t k => XS.iloadN X0.here hx rfl (hb hby d_3_70) rfl k) ?_
  refine Gv s₁ 72 [(.int (1 : Int32)), (.int (1 : Int32))] (fun t k => XS.iconst X0.here hx rfl (hb hby d_3_71) k) ?_
  refine Gv s₁ 75 [] (fun t k => XS.icmpNo X0.here hx rfl (hb hby d_3_72) rfl (XT.ii_ne_f rfl) k) ?_
  refine Gv s₁ 76 [(.int (3 : Int32))] (fun t k => XS.iloadN X0.here hx rfl (hb hby d_3_75) rfl k) ?_
  refine Gv s₁ 77 [(.int (2 : Int32)), (.int (3 : Int32))] (fun t k => XS.iconst X0.here hx rfl (hb hby d_3_76) k) ?_
  refine Gv s₁ 150 [] (fun t k => XS.icmpYes X0.here hx rfl (pc0 := 77) (pc' := 150) rfl (hb hby d_3_77) rfl (XT.ii_ne_t (by decide)) (by decide) (by decide) k) ?_
  refine Gv s₁ 151 [(.int (3 : Int32))] (fun t k => XS.iloadN X0.here hx rfl (hb hby d_3_150) rfl k) ?_
  refine Gv s₁ 152 [(.int (3 : Int32)), (.int (3 : Int32))] (fun t k => XS.iconst X0.here hx rfl (hb hby d_3_151) k) ?_
  refine Gv s₁ 155 [] (fun t k => XS.icmpNo X0.here hx rfl (hb hby d_3_152) rfl (XT.ii_ne_f rfl) k) ?_
  refine Gv s₁ 157 [(.int (10 : Int32))] (fun t k => XS.bipush X0.here hx rfl (hb hby d_3_155) k) ?_
  obtain ⟨T1, h1, k1, X1, e1, E1, A1, st1⟩ := newP X0 hx hZ (W_ hw 4 rfl) e0 (g := (mkF m 157 #[iv (1 : Int32), iv (3 : Int32), iv ch] [(.int (10 : Int32))])) rfl (hb hby d_3_157) rfl (by decide) (cap := 10) (by decide) (by decide) (by decide) (by decide)
  obtain ⟨b1, g1⟩ : ∃ z, z = h0.size := ⟨_, rfl⟩
  rw [← g1] at A1 st1
  have gn1 : n0 ≤ b1 := Nat.le_trans (old_le O0) (Nat.le_of_eq g1.symm)
  have gs1 : h0.size ≤ b1 := Nat.le_trans (Keep.refl h0 []).1 (Nat.le_of_eq g1.symm)
  have V1 : Arv Z h1 b1 k1 .char (10 : Int32) [(.int (0 : Int32)), (.int (0 : Int32)), (.int (0 : Int32)), (.int (0 : Int32)), (.int (0 : Int32)), (.int (0 : Int32)), (.int (0 : Int32)), (.int (0 : Int32)), (.int (0 : Int32)), (.int (0 : Int32))] (.int (0 : Int32)) := (Arv.new A1 (by decide)).pad (pad_rep [] (.int (0 : Int32)) 10)
  refine Goes.via (B := T1.setTop (mkF m 159 #[iv (1 : Int32), iv (3 : Int32), iv ch] [(.ref b1)])) (fun t k => st1 _ k) ?_
  refine Gv T1 160 [(.ref b1), (.ref b1)] (fun t k => XS.dup X1.here hx rfl (hb hby d_3_159) rfl rfl k) ?_
  refine Gv T1 161 [(.int (0 : Int32)), (.ref b1), (.ref b1)] (fun t k => XS.iconst X1.here hx rfl (hb hby d_3_160) k) ?_
  refine Gv T1 163 [(.int (115 : Int32)), (.int (0 : Int32)), (.ref b1), (.ref b1)] (fun t k => XS.bipush X1.here hx rfl (hb hby d_3_161) k) ?_
  obtain ⟨cl2, Ar2, q2, S2, N2, H2, G2⟩ := id V1
  obtain ⟨T2, h2, X2, e2, W2, st2⟩ := stC X1 hx hZ e1 Ar2 (j := (0 : Int32)) (inb_of S2 ⟨by decide, by decide⟩) (g := (mkF m 163 #[iv (1 : Int32), iv (3 : Int32), iv ch] [(.int (115 : Int32)), (.int (0 : Int32)), (.ref b1), (.ref b1)])) rfl rfl (hb hby d_3_163)
  have wn2 : nar .char (115 : Int32) = (115 : Int32) := rfl
  have fn2 : fits .char (.int (115 : Int32)) = true := by rw [← wn2]; exact fits_nar_char _
  rw [wn2] at W2
  have Nf2 := Fr.snoc X2 N0 gn1
  have V2 : Arv Z h2 b1 k1 .char (10 : Int32) [(.int (115 : Int32)), (.int (0 : Int32)), (.int (0 : Int32)), (.int (0 : Int32)), (.int (0 : Int32)), (.int (0 : Int32)), (.int (0 : Int32)), (.int (0 : Int32)), (.int (0 : Int32)), (.int (0 : Int32))] (.int (0 : Int32)) := Arv.set Ar2 q2 S2 N2 H2 G2 fn2 W2 0 rfl (Nat.le_of_ble_eq_true rfl)
  refine Goes.via (B := T2.setTop (mkF m 164 #[iv (1 : Int32), iv (3 : Int32), iv ch] [(.ref b1)])) (fun t k => st2 _ k) ?_
  refine Gv T2 165 [(.ref b1), (.ref b1)] (fun t k => XS.dup X2.here hx rfl (hb hby d_3_164) rfl rfl k) ?_
  refine Gv T2 166 [(.int (1 : Int32)), (.ref b1), (.ref b1)] (fun t k => XS.iconst X2.here hx rfl (hb hby d_3_165) k) ?_
  refine Gv T2 168 [(.int (117 : Int32)), (.int (1 : Int32)), (.ref b1), (.ref b1)] (fun t k => XS.bipush X2.here hx rfl (hb hby d_3_166) k) ?_
  obtain ⟨cl3, Ar3, q3, S3, N3, H3, G3⟩ := id V2
  obtain ⟨T3, h3, X3, e3, W3, st3⟩ := stC X2 hx hZ e2 Ar3 (j := (1 : Int32)) (inb_of S3 ⟨by decide, by decide⟩) (g := (mkF m 168 #[iv (1 : Int32), iv (3 : Int32), iv ch] [(.int (117 : Int32)), (.int (1 : Int32)), (.ref b1), (.ref b1)])) rfl rfl (hb hby d_3_168)
  have wn3 : nar .char (117 : Int32) = (117 : Int32) := rfl
  have fn3 : fits .char (.int (117 : Int32)) = true := by rw [← wn3]; exact fits_nar_char _
  rw [wn3] at W3
  have Nf3 := Fr.snoc X3 Nf2 gn1
  have V3 : Arv Z h3 b1 k1 .char (10 : Int32) [(.int (115 : Int32)), (.int (117 : Int32)), (.int (0 : Int32)), (.int (0 : Int32)), (.int (0 : Int32)), (.int (0 : Int32)), (.int (0 : Int32)), (.int (0 : Int32)), (.int (0 : Int32)), (.int (0 : Int32))] (.int (0 : Int32)) := Arv.set Ar3 q3 S3 N3 H3 G3 fn3 W3 1 rfl (Nat.le_of_ble_eq_true rfl)
  refine Goes.via (B := T3.setTop (mkF m 169 #[iv (1 : Int32), iv (3 : Int32), iv ch] [(.ref b1)])) (fun t k => st3 _ k) ?_
  refine Gv T3 170 [(.ref b1), (.ref b1)] (fun t k => XS.dup X3.here hx rfl (hb hby d_3_169) rfl rfl k) ?_
  refine Gv T3 171 [(.int (2 : Int32)), (.ref b1), (.ref b1)] (fun t k => XS.iconst X3.here hx rfl (hb hby d_3_170) k) ?_
  refine Gv T3 173 [(.int (98 : Int32)), (.int (2 : Int32)), (.ref b1), (.ref b1)] (fun t k => XS.bipush X3.here hx rfl (hb hby d_3_171) k) ?_
  obtain ⟨cl4, Ar4, q4, S4, N4, H4, G4⟩ := id V3
  obtain ⟨T4, h4, X4, e4, W4, st4⟩ := stC X3 hx hZ e3 Ar4 (j := (2 : Int32)) (inb_of S4 ⟨by decide, by decide⟩) (g := (mkF m 173 #[iv (1 : Int32), iv (3 : Int32), iv ch] [(.int (98 : Int32)), (.int (2 : Int32)), (.ref b1), (.ref b1)])) rfl rfl (hb hby d_3_173)
  have wn4 : nar .char (98 : Int32) = (98 : Int32) := rfl
  have fn4 : fits .char (.int (98 : Int32)) = true := by rw [← wn4]; exact fits_nar_char _
  rw [wn4] at W4
  have Nf4 := Fr.snoc X4 Nf3 gn1
  have V4 : Arv Z h4 b1 k1 .char (10 : Int32) [(.int (115 : Int32)), (.int (117 : Int32)), (.int (98 : Int32)), (.int (0 : Int32)), (.int (0 : Int32)), (.int (0 : Int32)), (.int (0 : Int32)), (.int (0 : Int32)), (.int (0 : Int32)), (.int (0 : Int32))] (.int (0 : Int32)) := Arv.set Ar4 q4 S4 N4 H4 G4 fn4 W4 2 rfl (Nat.le_of_ble_eq_true rfl)
  refine Goes.via (B := T4.setTop (mkF m 174 #[iv (1 : Int32), iv (3 : Int32), iv ch] [(.ref b1)])) (fun t k => st4 _ k) ?_
  refine Gv T4 175 [(.ref b1), (.ref b1)] (fun t k => XS.dup X4.here hx rfl (hb hby d_3_174) rfl rfl k) ?_
  refine Gv T4 176 [(.int (3 : Int32)), (.ref b1), (.ref b1)] (fun t k => XS.iconst X4.here hx rfl (hb hby d_3_175) k) ?_
  refine Gv T4 178 [(.int (115 : Int32)), (.int (3 : Int32)), (.ref b1), (.ref b1)] (fun t k => XS.bipush X4.here hx rfl (hb hby d_3_176) k) ?_
  obtain ⟨cl5, Ar5, q5, S5, N5, H5, G5⟩ := id V4
  obtain ⟨T5, h5, X5, e5, W5, st5⟩ := stC X4 hx hZ e4 Ar5 (j := (3 : Int32)) (inb_of S5 ⟨by decide, by decide⟩) (g := (mkF m 178 #[iv (1 : Int32), iv (3 : Int32), iv ch] [(.int (115 : Int32)), (.int (3 : Int32)), (.ref b1), (.ref b1)])) rfl rfl (hb hby d_3_178)
  have wn5 : nar .char (115 : Int32) = (115 : Int32) := rfl
  have fn5 : fits .char (.int (115 : Int32)) = true := by rw [← wn5]; exact fits_nar_char _
  rw [wn5] at W5
  have Nf5 := Fr.snoc X5 Nf4 gn1
  have V5 : Arv Z h5 b1 k1 .char (10 : Int32) [(.int (115 : Int32)), (.int (117 : Int32)), (.int (98 : Int32)), (.int (115 : Int32)), (.int (0 : Int32)), (.int (0 : Int32)), (.int (0 : Int32)), (.int (0 : Int32)), (.int (0 : Int32)), (.int (0 : Int32))] (.int (0 : Int32)) := Arv.set Ar5 q5 S5 N5 H5 G5 fn5 W5 3 rfl (Nat.le_of_ble_eq_true rfl)
  refine Goes.via (B := T5.setTop (mkF m 179 #[iv (1 : Int32), iv (3 : Int32), iv ch] [(.ref b1)])) (fun t k => st5 _ k) ?_
  refine Gv T5 180 [(.ref b1), (.ref b1)] (fun t k => XS.dup X5.here hx rfl (hb hby d_3_179) rfl rfl k) ?_
  refine Gv T5 181 [(.int (4 : Int32)), (.ref b1), (.ref b1)] (fun t k => XS.iconst X5.here hx rfl (hb hby d_3_180) k) ?_
  refine Gv T5 183 [(.int (116 : Int32)), (.int (4 : Int32)), (.ref b1), (.ref b1)] (fun t k => XS.bipush X5.here hx rfl (hb hby d_3_181) k) ?_
  obtain ⟨cl6, Ar6, q6, S6, N6, H6, G6⟩ := id V5
  obtain ⟨T6, h6, X6, e6, W6, st6⟩ := stC X5 hx hZ e5 Ar6 (j := (4 : Int32)) (inb_of S6 ⟨by decide, by decide⟩) (g := (mkF m 183 #[iv (1 : Int32), iv (3 : Int32), iv ch] [(.int (116 : Int32)), (.int (4 : Int32)), (.ref b1), (.ref b1)])) rfl rfl (hb hby d_3_183)
  have wn6 : nar .char (116 : Int32) = (116 : Int32) := rfl
  have fn6 : fits .char (.int (116 : Int32)) = true := by rw [← wn6]; exact fits_nar_char _
  rw [wn6] at W6
  have Nf6 := Fr.snoc X6 Nf5 gn1
  have V6 : Arv Z h6 b1 k1 .char (10 : Int32) [(.int (115 : Int32)), (.int (117 : Int32)), (.int (98 : Int32)), (.int (115 : Int32)), (.int (116 : Int32)), (.int (0 : Int32)), (.int (0 : Int32)), (.int (0 : Int32)), (.int (0 : Int32)), (.int (0 : Int32))] (.int (0 : Int32)) := Arv.set Ar6 q6 S6 N6 H6 G6 fn6 W6 4 rfl (Nat.le_of_ble_eq_true rfl)
  refine Goes.via (B := T6.setTop (mkF m 184 #[iv (1 : Int32), iv (3 : Int32), iv ch] [(.ref b1)])) (fun t k => st6 _ k) ?_
  refine Gv T6 185 [(.ref b1), (.ref b1)] (fun t k => XS.dup X6.here hx rfl (hb hby d_3_184) rfl rfl k) ?_
  refine Gv T6 186 [(.int (5 : Int32)), (.ref b1), (.ref b1)] (fun t k => XS.iconst X6.here hx rfl (hb hby d_3_185) k) ?_
  refine Gv T6 188 [(.int (97 : Int32)), (.int (5 : Int32)), (.ref b1), (.ref b1)] (fun t k => XS.bipush X6.here hx rfl (hb hby d_3_186) k) ?_
  obtain ⟨cl7, Ar7, q7, S7, N7, H7, G7⟩ := id V6
  obtain ⟨T7, h7, X7, e7, W7, st7⟩ := stC X6 hx hZ e6 Ar7 (j := (5 : Int32)) (inb_of S7 ⟨by decide, by decide⟩) (g := (mkF m 188 #[iv (1 : Int32), iv (3 : Int32), iv ch] [(.int (97 : Int32)), (.int (5 : Int32)), (.ref b1), (.ref b1)])) rfl rfl (hb hby d_3_188)
  have wn7 : nar .char (97 : Int32) = (97 : Int32) := rfl
  have fn7 : fits .char (.int (97 : Int32)) = true := by rw [← wn7]; exact fits_nar_char _
  rw [wn7] at W7
  have Nf7 := Fr.snoc X7 Nf6 gn1
  have V7 : Arv Z h7 b1 k1 .char (10 : Int32) [(.int (115 : Int32)), (.int (117 : Int32)), (.int (98 : Int32)), (.int (115 : Int32)), (.int (116 : Int32)), (.int (97 : Int32)), (.int (0 : Int32)), (.int (0 : Int32)), (.int (0 : Int32)), (.int (0 : Int32))] (.int (0 : Int32)) := Arv.set Ar7 q7 S7 N7 H7 G7 fn7 W7 5 rfl (Nat.le_of_ble_eq_true rfl)
  refine Goes.via (B := T7.setTop (mkF m 189 #[iv (1 : Int32), iv (3 : Int32), iv ch] [(.ref b1)])) (fun t k => st7 _ k) ?_
  refine Gv T7 190 [(.ref b1), (.ref b1)] (fun t k => XS.dup X7.here hx rfl (hb hby d_3_189) rfl rfl k) ?_
  refine Gv T7 192 [(.int (6 : Int32)), (.ref b1), (.ref b1)] (fun t k => XS.bipush X7.here hx rfl (hb hby d_3_190) k) ?_
  refine Gv T7 194 [(.int (110 : Int32)), (.int (6 : Int32)), (.ref b1), (.ref b1)] (fun t k => XS.bipush X7.here hx rfl (hb hby d_3_192) k) ?_
  obtain ⟨cl8, Ar8, q8, S8, N8, H8, G8⟩ := id V7
  obtain ⟨T8, h8, X8, e8, W8, st8⟩ := stC X7 hx hZ e7 Ar8 (j := (6 : Int32)) (inb_of S8 ⟨by decide, by decide⟩) (g := (mkF m 194 #[iv (1 : Int32), iv (3 : Int32), iv ch] [(.int (110 : Int32)), (.int (6 : Int32)), (.ref b1), (.ref b1)])) rfl rfl (hb hby d_3_194)
  have wn8 : nar .char (110 : Int32) = (110 : Int32) := rfl
  have fn8 : fits .char (.int (110 : Int32)) = true := by rw [← wn8]; exact fits_nar_char _
  rw [wn8] at W8
  have Nf8 := Fr.snoc X8 Nf7 gn1
  have V8 : Arv Z h8 b1 k1 .char (10 : Int32) [(.int (115 : Int32)), (.int (117 : Int32)), (.int (98 : Int32)), (.int (115 : Int32)), (.int (116 : Int32)), (.int (97 : Int32)), (.int (110 : Int32)), (.int (0 : Int32)), (.int (0 : Int32)), (.int (0 : Int32))] (.int (0 : Int32)) := Arv.set Ar8 q8 S8 N8 H8 G8 fn8 W8 6 rfl (Nat.le_of_ble_eq_true rfl)
  refine Goes.via (B := T8.setTop (mkF m 195 #[iv (1 : Int32), iv (3 : Int32), iv ch] [(.ref b1)])) (fun t k => st8 _ k) ?_
  refine Gv T8 196 [(.ref b1), (.ref b1)] (fun t k => XS.dup X8.here hx rfl (hb hby d_3_195) rfl rfl k) ?_
  refine Gv T8 198 [(.int (7 : Int32)), (.ref b1), (.ref b1)] (fun t k => XS.bipush X8.here hx rfl (hb hby d_3_196) k) ?_
  refine Gv T8 200 [(.int (116 : Int32)), (.int (7 : Int32)), (.ref b1), (.ref b1)] (fun t k => XS.bipush X8.here hx rfl (hb hby d_3_198) k) ?_
  obtain ⟨cl9, Ar9, q9, S9, N9, H9, G9⟩ := id V8
  obtain ⟨T9, h9, X9, e9, W9, st9⟩ := stC X8 hx hZ e8 Ar9 (j := (7 : Int32)) (inb_of S9 ⟨by decide, by decide⟩) (g := (mkF m 200 #[iv (1 : Int32), iv (3 : Int32), iv ch] [(.int (116 : Int32)), (.int (7 : Int32)), (.ref b1), (.ref b1)])) rfl rfl (hb hby d_3_200)
  have wn9 : nar .char (116 : Int32) = (116 : Int32) := rfl
  have fn9 : fits .char (.int (116 : Int32)) = true := by rw [← wn9]; exact fits_nar_char _
  rw [wn9] at W9
  have Nf9 := Fr.snoc X9 Nf8 gn1
  have V9 : Arv Z h9 b1 k1 .char (10 : Int32) [(.int (115 : Int32)), (.int (117 : Int32)), (.int (98 : Int32)), (.int (115 : Int32)), (.int (116 : Int32)), (.int (97 : Int32)), (.int (110 : Int32)), (.int (116 : Int32)), (.int (0 : Int32)), (.int (0 : Int32))] (.int (0 : Int32)) := Arv.set Ar9 q9 S9 N9 H9 G9 fn9 W9 7 rfl (Nat.le_of_ble_eq_true rfl)
  refine Goes.via (B := T9.setTop (mkF m 201 #[iv (1 : Int32), iv (3 : Int32), iv ch] [(.ref b1)])) (fun t k => st9 _ k) ?_
  refine Gv T9 202 [(.ref b1), (.ref b1)] (fun t k => XS.dup X9.here hx rfl (hb hby d_3_201) rfl rfl k) ?_
  refine Gv T9 204 [(.int (8 : Int32)), (.ref b1), (.ref b1)] (fun t k => XS.bipush X9.here hx rfl (hb hby d_3_202) k) ?_
  refine Gv T9 206 [(.int (105 : Int32)), (.int (8 : Int32)), (.ref b1), (.ref b1)] (fun t k => XS.bipush X9.here hx rfl (hb hby d_3_204) k) ?_
  obtain ⟨cl10, Ar10, q10, S10, N10, H10, G10⟩ := id V9
  obtain ⟨T10, h10, X10, e10, W10, st10⟩ := stC X9 hx hZ e9 Ar10 (j := (8 : Int32)) (inb_of S10 ⟨by decide, by decide⟩) (g := (mkF m 206 #[iv (1 : Int32), iv (3 : Int32), iv ch] [(.int (105 : Int32)), (.int (8 : Int32)), (.ref b1), (.ref b1)])) rfl rfl (hb hby d_3_206)
  have wn10 : nar .char (105 : Int32) = (105 : Int32) := rfl
  have fn10 : fits .char (.int (105 : Int32)) = true := by rw [← wn10]; exact fits_nar_char _
  rw [wn10] at W10
  have Nf10 := Fr.snoc X10 Nf9 gn1
  have V10 : Arv Z h10 b1 k1 .char (10 : Int32) [(.int (115 : Int32)), (.int (117 : Int32)), (.int (98 : Int32)), (.int (115 : Int32)), (.int (116 : Int32)), (.int (97 : Int32)), (.int (110 : Int32)), (.int (116 : Int32)), (.int (105 : Int32)), (.int (0 : Int32))] (.int (0 : Int32)) := Arv.set Ar10 q10 S10 N10 H10 G10 fn10 W10 8 rfl (Nat.le_of_ble_eq_true rfl)
  refine Goes.via (B := T10.setTop (mkF m 207 #[iv (1 : Int32), iv (3 : Int32), iv ch] [(.ref b1)])) (fun t k => st10 _ k) ?_
  refine Gv T10 208 [(.ref b1), (.ref b1)] (fun t k => XS.dup X10.here hx rfl (hb hby d_3_207) rfl rfl k) ?_
  refine Gv T10 210 [(.int (9 : Int32)), (.ref b1), (.ref b1)] (fun t k => XS.bipush X10.here hx rfl (hb hby d_3_208) k) ?_
  refine Gv T10 212 [(.int (97 : Int32)), (.int (9 : Int32)), (.ref b1), (.ref b1)] (fun t k => XS.bipush X10.here hx rfl (hb hby d_3_210) k) ?_
  obtain ⟨cl11, Ar11, q11, S11, N11, H11, G11⟩ := id V10
  obtain ⟨T11, h11, X11, e11, W11, st11⟩ := stC X10 hx hZ e10 Ar11 (j := (9 : Int32)) (inb_of S11 ⟨by decide, by decide⟩) (g := (mkF m 212 #[iv (1 : Int32), iv (3 : Int32), iv ch] [(.int (97 : Int32)), (.int (9 : Int32)), (.ref b1), (.ref b1)])) rfl rfl (hb hby d_3_212)
  have wn11 : nar .char (97 : Int32) = (97 : Int32) := rfl
  have fn11 : fits .char (.int (97 : Int32)) = true := by rw [← wn11]; exact fits_nar_char _
  rw [wn11] at W11
  have Nf11 := Fr.snoc X11 Nf10 gn1
  have V11 : Arv Z h11 b1 k1 .char (10 : Int32) [(.int (115 : Int32)), (.int (117 : Int32)), (.int (98 : Int32)), (.int (115 : Int32)), (.int (116 : Int32)), (.int (97 : Int32)), (.int (110 : Int32)), (.int (116 : Int32)), (.int (105 : Int32)), (.int (97 : Int32))] (.int (0 : Int32)) := Arv.set Ar11 q11 S11 N11 H11 G11 fn11 W11 9 rfl (Nat.le_of_ble_eq_true rfl)
  refine Goes.via (B := T11.setTop (mkF m 213 #[iv (1 : Int32), iv (3 : Int32), iv ch] [(.ref b1)])) (fun t k => st11 _ k) ?_
  exact finA (Q := (own_Q22 Z ch h0 n0)) (F := FrameEnd) (C := ((Rm 0 1 10 0)).cells) (S := ((Rm 0 1 10 0)).slots) X11 hx Bd.returns rfl rfl rfl (hb hby d_3_213) e11 ⟨b1, k1, rfl, Nf11, ((((((((((((Keep.refl h0 []).ext E1).wr W2 (Or.inr gs1)).wr W3 (Or.inr gs1)).wr W4 (Or.inr gs1)).wr W5 (Or.inr gs1)).wr W6 (Or.inr gs1)).wr W7 (Or.inr gs1)).wr W8 (Or.inr gs1)).wr W9 (Or.inr gs1)).wr W10 (Or.inr gs1)).wr W11 (Or.inr gs1)), gs1, V11⟩ (lvN X11 hlk (by decide) (by decide))
theorem d_3_279 : decode method_3_code 279 = .ok (.iload_n 1, 1) := by decide +kernel
theorem d_3_280 : decode method_3_code 280 = .ok (.iconst 2, 1) := by decide +kernel
theorem d_3_281 : decode method_3_code 281 = .ok (.if_icmp .ne 31, 3) := by decide +kernel
theorem d_3_312 : decode method_3_code 312 = .ok (.iload_n 1, 1) := by decide +kernel
theorem d_3_313 : decode method_3_code 313 = .ok (.iconst 3, 1) := by decide +kernel
theorem d_3_314 : decode method_3_code 314 = .ok (.if_icmp .ne 22, 3) := by decide +kernel
theorem d_3_336 : decode method_3_code 336 = .ok (.iconst 4, 1) := by decide +kernel
theorem d_3_337 : decode method_3_code 337 = .ok (.newarray .char, 2) := by decide +kernel
theorem d_3_339 : decode method_3_code 339 = .ok (.dup, 1) := by decide +kernel
theorem d_3_340 : decode method_3_code 340 = .ok (.iconst 0, 1) := by decide +kernel
theorem d_3_341 : decode method_3_code 341 = .ok (.bipush 104, 2) := by decide +kernel
theorem d_3_343 : decode method_3_code 343 = .ok (.castore, 1) := by decide +kernel
theorem d_3_344 : decode method_3_code 344 = .ok (.dup, 1) := by decide +kernel
theorem d_3_345 : decode method_3_code 345 = .ok (.iconst 1, 1) := by decide +kernel
theorem d_3_346 : decode method_3_code 346 = .ok (.bipush 105, 2) := by decide +kernel
theorem d_3_348 : decode method_3_code 348 = .ok (.castore, 1) := by decide +kernel
theorem d_3_349 : decode method_3_code 349 = .ok (.dup, 1) := by decide +kernel
theorem d_3_350 : decode method_3_code 350 = .ok (.iconst 2, 1) := by decide +kernel
theorem d_3_351 : decode method_3_code 351 = .ok (.bipush 103, 2) := by decide +kernel
theorem d_3_353 : decode method_3_code 353 = .ok (.castore, 1) := by decide +kernel
theorem d_3_354 : decode method_3_code 354 = .ok (.dup, 1) := by decide +kernel
theorem d_3_355 : decode method_3_code 355 = .ok (.iconst 3, 1) := by decide +kernel
theorem d_3_356 : decode method_3_code 356 = .ok (.bipush 104, 2) := by decide +kernel
theorem d_3_358 : decode method_3_code 358 = .ok (.castore, 1) := by decide +kernel
theorem d_3_359 : decode method_3_code 359 = .ok (.areturn, 1) := by decide +kernel
theorem own_ef23 (m : MethodId) (x0 : Int32) (x1 : Int32) (x2 : Int32)  : entryFrame m #[(.int x0), (.int x1), (.int x2)] 3 = mkF m 0 #[iv x0, iv x1, iv x2] [] := by first | (simp [entryFrame, mkF, argsToLocals, Value.category]; done) | rfl
abbrev own_Q23 (Z : State) (ch : Int32) (ee : Int32) (h0 : Heap) (n0 : Nat) (v : Option Value) (h : Heap) (L : List Loc) : Prop := ∃ r : Addr, ∃ kr : ClassId, v = some (.ref r) ∧ Fr n0 L ∧ Keep h0 h [] ∧ h0.size ≤ r ∧ Arv Z h r kr .char (4 : Int32) [(.int (104 : Int32)), (.int (105 : Int32)), (.int (103 : Int32)), (.int (104 : Int32))] (.int (0 : Int32))
set_option maxRecDepth 65536 in
set_option maxHeartbeats 40000000 in
theorem own_m23 (l : Launch) (Z : State) (a0 : Array Value) (hw : ∀ d ∈ tables_1, d.before a0 Z = true) (ws : List Jvm.Cond) (ch : Int32) (ee : Int32) (h0 : Heap) (n0 : Nat) (O0 : Old Z n0 h0) (hch : ¬ ch < (0 : Int32) ∧ ¬ (255 : Int32) < ch) (he2 : ¬ ee = (2 : Int32)) (he3 : ¬ ee = (3 : Int32)) :
    Ctr l Z (⟨"com/example/castellan/castellan/config/AssuranceLevelNamedPinLaw", "name", "(IIC)[C"⟩ : MethodName) method_3_code 3 (some (.array .char)) (Rm 0 1 4 0) #[(.int (2 : Int32)), (.int ee), (.int ch)] h0 (own_Q23 Z ch ee h0 n0) ws := by
  refine MetFree.of_bodySF (plainFor_of_name own_pn4) hisR ?_
  intro p e s m args below meth c s₁ Bd hml0 hP hK
  obtain ⟨rfl, hZ, hh⟩ := hP
  have hx := Bd.exec
  have hby := Bd.bytes
  have hlk : meth.locks = false := Bd.notSynchronized
  have hml : c.maxLocals = 3 := hml0
  have hown : s.vm.findClass "com/example/castellan/castellan/config/AssuranceLevelNamedPinLaw" = some m.cls := findClass_of_methodNamed Bd.named
  have hnm := (name_of_methodNamed Bd.named Bd.method).1
  have X0 : Stand p l e (Rm 0 1 4 0) s m #[(.int (2 : Int32)), (.int ee), (.int ch)] below meth c s₁ [] 0 0 := Stand.of_body Bd
  have e0 : s₁.heap = h0 := by rw [← hh, Bd.state]; rfl
  have N0 := Fr.nil n0
  show Goes p.tables e below (fun t o => ∃ v L, o = .returned v ∧ (own_Q23 Z ch ee h0 n0) v t.heap L ∧ FrameEnd s o t L ((Rm 0 1 4 0)).cells ((Rm 0 1 4 0)).slots) _
  refine Goes.via (B := s₁.setTop (mkF m 0 #[iv (2 : Int32), iv ee, iv ch] [])) (fun t k => castTop (own_ef23 m (2 : Int32) ee ch) k) ?_
  refine Gv s₁ 1 [(.int (2 : Int32))] (fun t k => XS.iloadN X0.here hx rfl (hb hby d_3_0) rfl k) ?_
  refine Gv s₁ 70 [] (fun t k => XS.ifYes X0.here hx rfl (pc0 := 1) (pc' := 70) rfl (hb hby d_3_1) rfl (XT.i0_ne_t (by decide)) (by decide) (by decide) k) ?_
  refine Gv s₁ 71 [(.int (2 : Int32))] (fun t k => XS.iloadN X0.here hx rfl (hb hby d_3_70) rfl k) ?_
  refine Gv s₁ 72 [(.int (1 : Int32)), (.int (2 : Int32))] (fun t k => XS.iconst X0.here hx rfl (hb hby d_3_71) k) ?_
  refine Gv s₁ 279 [] (fun t k => XS.icmpYes X0.here hx rfl (pc0 := 72) (pc' := 279) rfl (hb hby d_3_72) rfl (XT.ii_ne_t (by decide)) (by decide) (by decide) k) ?_
  refine Gv s₁ 280 [(.int ee)] (fun t k => XS.iloadN X0.here hx rfl (hb hby d_3_279) rfl k) ?_
  refine Gv s₁ 281 [(.int (2 : Int32)), (.int ee)] (fun t k => XS.iconst X0.here hx rfl (hb hby d_3_280) k) ?_
  refine Gv s₁ 312 [] (fun t k => XS.icmpYes X0.here hx rfl (pc0 := 281) (pc' := 312) rfl (hb hby d_3_281) rfl (XT.ii_ne_t he2) (by decide) (by decide) k) ?_
  refine Gv s₁ 313 [(.int ee)] (fun t k => XS.iloadN X0.here hx rfl (hb hby d_3_312) rfl k) ?_
  refine Gv s₁ 314 [(.int (3 : Int32)), (.int ee)] (fun t k => XS.iconst X0.here hx rfl (hb hby d_3_313) k) ?_
  refine Gv s₁ 336 [] (fun t k => XS.icmpYes X0.here hx rfl (pc0 := 314) (pc' := 336) rfl (hb hby d_3_314) rfl (XT.ii_ne_t he3) (by decide) (by decide) k) ?_
  refine Gv s₁ 337 [(.int (4 : Int32))] (fun t k => XS.iconst X0.here hx rfl (hb hby d_3_336) k) ?_
  obtain ⟨T1, h1, k1, X1, e1, E1, A1, st1⟩ := newP X0 hx hZ (W_ hw 4 rfl) e0 (g := (mkF m 337 #[iv (2 : Int32), iv ee, iv ch] [(.int (4 : Int32))])) rfl (hb hby d_3_337) rfl (by decide) (cap := 4) (by decide) (by decide) (by decide) (by decide)
  obtain ⟨b1, g1⟩ : ∃ z, z = h0.size := ⟨_, rfl⟩
  rw [← g1] at A1 st1
  have gn1 : n0 ≤ b1 := Nat.le_trans (old_le O0) (Nat.le_of_eq g1.symm)
  have gs1 : h0.size ≤ b1 := Nat.le_trans (Keep.refl h0 []).1 (Nat.le_of_eq g1.symm)
  have V1 : Arv Z h1 b1 k1 .char (4 : Int32) [(.int (0 : Int32)), (.int (0 : Int32)), (.int (0 : Int32)), (.int (0 : Int32))] (.int (0 : Int32)) := (Arv.new A1 (by decide)).pad (pad_rep [] (.int (0 : Int32)) 4)
  refine Goes.via (B := T1.setTop (mkF m 339 #[iv (2 : Int32), iv ee, iv ch] [(.ref b1)])) (fun t k => st1 _ k) ?_
  refine Gv T1 340 [(.ref b1), (.ref b1)] (fun t k => XS.dup X1.here hx rfl (hb hby d_3_339) rfl rfl k) ?_
  refine Gv T1 341 [(.int (0 : Int32)), (.ref b1), (.ref b1)] (fun t k => XS.iconst X1.here hx rfl (hb hby d_3_340) k) ?_
  refine Gv T1 343 [(.int (104 : Int32)), (.int (0 : Int32)), (.ref b1), (.ref b1)] (fun t k => XS.bipush X1.here hx rfl (hb hby d_3_341) k) ?_
  obtain ⟨cl2, Ar2, q2, S2, N2, H2, G2⟩ := id V1
  obtain ⟨T2, h2, X2, e2, W2, st2⟩ := stC X1 hx hZ e1 Ar2 (j := (0 : Int32)) (inb_of S2 ⟨by decide, by decide⟩) (g := (mkF m 343 #[iv (2 : Int32), iv ee, iv ch] [(.int (104 : Int32)), (.int (0 : Int32)), (.ref b1), (.ref b1)])) rfl rfl (hb hby d_3_343)
  have wn2 : nar .char (104 : Int32) = (104 : Int32) := rfl
  have fn2 : fits .char (.int (104 : Int32)) = true := by rw [← wn2]; exact fits_nar_char _
  rw [wn2] at W2
  have Nf2 := Fr.snoc X2 N0 gn1
  have V2 : Arv Z h2 b1 k1 .char (4 : Int32) [(.int (104 : Int32)), (.int (0 : Int32)), (.int (0 : Int32)), (.int (0 : Int32))] (.int (0 : Int32)) := Arv.set Ar2 q2 S2 N2 H2 G2 fn2 W2 0 rfl (Nat.le_of_ble_eq_true rfl)
  refine Goes.via (B := T2.setTop (mkF m 344 #[iv (2 : Int32), iv ee, iv ch] [(.ref b1)])) (fun t k => st2 _ k) ?_
  refine Gv T2 345 [(.ref b1), (.ref b1)] (fun t k => XS.dup X2.here hx rfl (hb hby d_3_344) rfl rfl k) ?_
  refine Gv T2 346 [(.int (1 : Int32)), (.ref b1), (.ref b1)] (fun t k => XS.iconst X2.here hx rfl (hb hby d_3_345) k) ?_
  refine Gv T2 348 [(.int (105 : Int32)), (.int (1 : Int32)), (.ref b1), (.ref b1)] (fun t k => XS.bipush X2.here hx rfl (hb hby d_3_346) k) ?_
  obtain ⟨cl3, Ar3, q3, S3, N3, H3, G3⟩ := id V2
  obtain ⟨T3, h3, X3, e3, W3, st3⟩ := stC X2 hx hZ e2 Ar3 (j := (1 : Int32)) (inb_of S3 ⟨by decide, by decide⟩) (g := (mkF m 348 #[iv (2 : Int32), iv ee, iv ch] [(.int (105 : Int32)), (.int (1 : Int32)), (.ref b1), (.ref b1)])) rfl rfl (hb hby d_3_348)
  have wn3 : nar .char (105 : Int32) = (105 : Int32) := rfl
  have fn3 : fits .char (.int (105 : Int32)) = true := by rw [← wn3]; exact fits_nar_char _
  rw [wn3] at W3
  have Nf3 := Fr.snoc X3 Nf2 gn1
  have V3 : Arv Z h3 b1 k1 .char (4 : Int32) [(.int (104 : Int32)), (.int (105 : Int32)), (.int (0 : Int32)), (.int (0 : Int32))] (.int (0 : Int32)) := Arv.set Ar3 q3 S3 N3 H3 G3 fn3 W3 1 rfl (Nat.le_of_ble_eq_true rfl)
  refine Goes.via (B := T3.setTop (mkF m 349 #[iv (2 : Int32), iv ee, iv ch] [(.ref b1)])) (fun t k => st3 _ k) ?_
  refine Gv T3 350 [(.ref b1), (.ref b1)] (fun t k => XS.dup X3.here hx rfl (hb hby d_3_349) rfl rfl k) ?_
  refine Gv T3 351 [(.int (2 : Int32)), (.ref b1), (.ref b1)] (fun t k => XS.iconst X3.here hx rfl (hb hby d_3_350) k) ?_
  refine Gv T3 353 [(.int (103 : Int32)), (.int (2 : Int32)), (.ref b1), (.ref b1)] (fun t k => XS.bipush X3.here hx rfl (hb hby d_3_351) k) ?_
  obtain ⟨cl4, Ar4, q4, S4, N4, H4, G4⟩ := id V3
  obtain ⟨T4, h4, X4, e4, W4, st4⟩ := stC X3 hx hZ e3 Ar4 (j := (2 : Int32)) (inb_of S4 ⟨by decide, by decide⟩) (g := (mkF m 353 #[iv (2 : Int32), iv ee, iv ch] [(.int (103 : Int32)), (.int (2 : Int32)), (.ref b1), (.ref b1)])) rfl rfl (hb hby d_3_353)
  have wn4 : nar .char (103 : Int32) = (103 : Int32) := rfl
  have fn4 : fits .char (.int (103 : Int32)) = true := by rw [← wn4]; exact fits_nar_char _
  rw [wn4] at W4
  have Nf4 := Fr.snoc X4 Nf3 gn1
  have V4 : Arv Z h4 b1 k1 .char (4 : Int32) [(.int (104 : Int32)), (.int (105 : Int32)), (.int (103 : Int32)), (.int (0 : Int32))] (.int (0 : Int32)) := Arv.set Ar4 q4 S4 N4 H4 G4 fn4 W4 2 rfl (Nat.le_of_ble_eq_true rfl)
  refine Goes.via (B := T4.setTop (mkF m 354 #[iv (2 : Int32), iv ee, iv ch] [(.ref b1)])) (fun t k => st4 _ k) ?_
  refine Gv T4 355 [(.ref b1), (.ref b1)] (fun t k => XS.dup X4.here hx rfl (hb hby d_3_354) rfl rfl k) ?_
  refine Gv T4 356 [(.int (3 : Int32)), (.ref b1), (.ref b1)] (fun t k => XS.iconst X4.here hx rfl (hb hby d_3_355) k) ?_
  refine Gv T4 358 [(.int (104 : Int32)), (.int (3 : Int32)), (.ref b1), (.ref b1)] (fun t k => XS.bipush X4.here hx rfl (hb hby d_3_356) k) ?_
  obtain ⟨cl5, Ar5, q5, S5, N5, H5, G5⟩ := id V4
  obtain ⟨T5, h5, X5, e5, W5, st5⟩ := stC X4 hx hZ e4 Ar5 (j := (3 : Int32)) (inb_of S5 ⟨by decide, by decide⟩) (g := (mkF m 358 #[iv (2 : Int32), iv ee, iv ch] [(.int (104 : Int32)), (.int (3 : Int32)), (.ref b1), (.ref b1)])) rfl rfl (hb hby d_3_358)
  have wn5 : nar .char (104 : Int32) = (104 : Int32) := rfl
  have fn5 : fits .char (.int (104 : Int32)) = true := by rw [← wn5]; exact fits_nar_char _
  rw [wn5] at W5
  have Nf5 := Fr.snoc X5 Nf4 gn1
  have V5 : Arv Z h5 b1 k1 .char (4 : Int32) [(.int (104 : Int32)), (.int (105 : Int32)), (.int (103 : Int32)), (.int (104 : Int32))] (.int (0 : Int32)) := Arv.set Ar5 q5 S5 N5 H5 G5 fn5 W5 3 rfl (Nat.le_of_ble_eq_true rfl)
  refine Goes.via (B := T5.setTop (mkF m 359 #[iv (2 : Int32), iv ee, iv ch] [(.ref b1)])) (fun t k => st5 _ k) ?_
  exact finA (Q := (own_Q23 Z ch ee h0 n0)) (F := FrameEnd) (C := ((Rm 0 1 4 0)).cells) (S := ((Rm 0 1 4 0)).slots) X5 hx Bd.returns rfl rfl rfl (hb hby d_3_359) e5 ⟨b1, k1, rfl, Nf5, ((((((Keep.refl h0 []).ext E1).wr W2 (Or.inr gs1)).wr W3 (Or.inr gs1)).wr W4 (Or.inr gs1)).wr W5 (Or.inr gs1)), gs1, V5⟩ (lvN X5 hlk (by decide) (by decide))
theorem d_3_284 : decode method_3_code 284 = .ok (.iconst 5, 1) := by decide +kernel
theorem d_3_285 : decode method_3_code 285 = .ok (.newarray .char, 2) := by decide +kernel
theorem d_3_287 : decode method_3_code 287 = .ok (.dup, 1) := by decide +kernel
theorem d_3_288 : decode method_3_code 288 = .ok (.iconst 0, 1) := by decide +kernel
theorem d_3_289 : decode method_3_code 289 = .ok (.bipush 104, 2) := by decide +kernel
theorem d_3_291 : decode method_3_code 291 = .ok (.castore, 1) := by decide +kernel
theorem d_3_292 : decode method_3_code 292 = .ok (.dup, 1) := by decide +kernel
theorem d_3_293 : decode method_3_code 293 = .ok (.iconst 1, 1) := by decide +kernel
theorem d_3_294 : decode method_3_code 294 = .ok (.bipush 105, 2) := by decide +kernel
theorem d_3_296 : decode method_3_code 296 = .ok (.castore, 1) := by decide +kernel
theorem d_3_297 : decode method_3_code 297 = .ok (.dup, 1) := by decide +kernel
theorem d_3_298 : decode method_3_code 298 = .ok (.iconst 2, 1) := by decide +kernel
theorem d_3_299 : decode method_3_code 299 = .ok (.bipush 103, 2) := by decide +kernel
theorem d_3_301 : decode method_3_code 301 = .ok (.castore, 1) := by decide +kernel
theorem d_3_302 : decode method_3_code 302 = .ok (.dup, 1) := by decide +kernel
theorem d_3_303 : decode method_3_code 303 = .ok (.iconst 3, 1) := by decide +kernel
theorem d_3_304 : decode method_3_code 304 = .ok (.bipush 104, 2) := by decide +kernel
theorem d_3_306 : decode method_3_code 306 = .ok (.castore, 1) := by decide +kernel
theorem d_3_307 : decode method_3_code 307 = .ok (.dup, 1) := by decide +kernel
theorem d_3_308 : decode method_3_code 308 = .ok (.iconst 4, 1) := by decide +kernel
theorem d_3_309 : decode method_3_code 309 = .ok (.iload_n 2, 1) := by decide +kernel
theorem d_3_310 : decode method_3_code 310 = .ok (.castore, 1) := by decide +kernel
theorem d_3_311 : decode method_3_code 311 = .ok (.areturn, 1) := by decide +kernel
theorem own_ef24 (m : MethodId) (x0 : Int32) (x1 : Int32) (x2 : Int32)  : entryFrame m #[(.int x0), (.int x1), (.int x2)] 3 = mkF m 0 #[iv x0, iv x1, iv x2] [] := by first | (simp [entryFrame, mkF, argsToLocals, Value.category]; done) | rfl
abbrev own_Q24 (Z : State) (ch : Int32) (h0 : Heap) (n0 : Nat) (v : Option Value) (h : Heap) (L : List Loc) : Prop := ∃ r : Addr, ∃ kr : ClassId, v = some (.ref r) ∧ Fr n0 L ∧ Keep h0 h [] ∧ h0.size ≤ r ∧ Arv Z h r kr .char (5 : Int32) [(.int (104 : Int32)), (.int (105 : Int32)), (.int (103 : Int32)), (.int (104 : Int32)), (.int ch)] (.int (0 : Int32))
set_option maxRecDepth 65536 in
set_option maxHeartbeats 40000000 in
theorem own_m24 (l : Launch) (Z : State) (a0 : Array Value) (hw : ∀ d ∈ tables_1, d.before a0 Z = true) (ws : List Jvm.Cond) (ch : Int32) (h0 : Heap) (n0 : Nat) (O0 : Old Z n0 h0) (hch : ¬ ch < (0 : Int32) ∧ ¬ (255 : Int32) < ch) :
    Ctr l Z (⟨"com/example/castellan/castellan/config/AssuranceLevelNamedPinLaw", "name", "(IIC)[C"⟩ : MethodName) method_3_code 3 (some (.array .char)) (Rm 0 1 5 0) #[(.int (2 : Int32)), (.int (2 : Int32)), (.int ch)] h0 (own_Q24 Z ch h0 n0) ws := by
  refine MetFree.of_bodySF (plainFor_of_name own_pn4) hisR ?_
  intro p e s m args below meth c s₁ Bd hml0 hP hK
  obtain ⟨rfl, hZ, hh⟩ := hP
  have hx := Bd.exec
  have hby := Bd.bytes
  have hlk : meth.locks = false := Bd.notSynchronized
  have hml : c.maxLocals = 3 := hml0
  have hown : s.vm.findClass "com/example/castellan/castellan/config/AssuranceLevelNamedPinLaw" = some m.cls := findClass_of_methodNamed Bd.named
  have hnm := (name_of_methodNamed Bd.named Bd.method).1
  have X0 : Stand p l e (Rm 0 1 5 0) s m #[(.int (2 : Int32)), (.int (2 : Int32)), (.int ch)] below meth c s₁ [] 0 0 := Stand.of_body Bd
  have e0 : s₁.heap = h0 := by rw [← hh, Bd.state]; rfl
  have N0 := Fr.nil n0
  show Goes p.tables e below (fun t o => ∃ v L, o = .returned v ∧ (own_Q24 Z ch h0 n0) v t.heap L ∧ FrameEnd s o t L ((Rm 0 1 5 0)).cells ((Rm 0 1 5 0)).slots) _
  refine Goes.via (B := s₁.setTop (mkF m 0 #[iv (2 : Int32), iv (2 : Int32), iv ch] [])) (fun t k => castTop (own_ef24 m (2 : Int32) (2 : Int32) ch) k) ?_
  refine Gv s₁ 1 [(.int (2 : Int32))] (fun t k => XS.iloadN X0.here hx rfl (hb hby d_3_0) rfl k) ?_
  refine Gv s₁ 70 [] (fun t k => XS.ifYes X0.here hx rfl (pc0 := 1) (pc' := 70) rfl (hb hby d_3_1) rfl (XT.i0_ne_t (by decide)) (by decide) (by decide) k) ?_
  refine Gv s₁ 71 [(.int (2 : Int32))] (fun t k => XS.iloadN X0.here hx rfl (hb hby d_3_70) rfl k) ?_
  refine Gv s₁ 72 [(.int (1 : Int32)), (.int (2 : Int32))] (fun t k => XS.iconst X0.here hx rfl (hb hby d_3_71) k) ?_
  refine Gv s₁ 279 [] (fun t k => XS.icmpYes X0.here hx rfl (pc0 := 72) (pc' := 279) rfl (hb hby d_3_72) rfl (XT.ii_ne_t (by decide)) (by decide) (by decide) k) ?_
  refine Gv s₁ 280 [(.int (2 : Int32))] (fun t k => XS.iloadN X0.here hx rfl (hb hby d_3_279) rfl k) ?_
  refine Gv s₁ 281 [(.int (2 : Int32)), (.int (2 : Int32))] (fun t k => XS.iconst X0.here hx rfl (hb hby d_3_280) k) ?_
  refine Gv s₁ 284 [] (fun t k => XS.icmpNo X0.here hx rfl (hb hby d_3_281) rfl (XT.ii_ne_f rfl) k) ?_
  refine Gv s₁ 285 [(.int (5 : Int32))] (fun t k => XS.iconst X0.here hx rfl (hb hby d_3_284) k) ?_
  obtain ⟨T1, h1, k1, X1, e1, E1, A1, st1⟩ := newP X0 hx hZ (W_ hw 4 rfl) e0 (g := (mkF m 285 #[iv (2 : Int32), iv (2 : Int32), iv ch] [(.int (5 : Int32))])) rfl (hb hby d_3_285) rfl (by decide) (cap := 5) (by decide) (by decide) (by decide) (by decide)
  obtain ⟨b1, g1⟩ : ∃ z, z = h0.size := ⟨_, rfl⟩
  rw [← g1] at A1 st1
  have gn1 : n0 ≤ b1 := Nat.le_trans (old_le O0) (Nat.le_of_eq g1.symm)
  have gs1 : h0.size ≤ b1 := Nat.le_trans (Keep.refl h0 []).1 (Nat.le_of_eq g1.symm)
  have V1 : Arv Z h1 b1 k1 .char (5 : Int32) [(.int (0 : Int32)), (.int (0 : Int32)), (.int (0 : Int32)), (.int (0 : Int32)), (.int (0 : Int32))] (.int (0 : Int32)) := (Arv.new A1 (by decide)).pad (pad_rep [] (.int (0 : Int32)) 5)
  refine Goes.via (B := T1.setTop (mkF m 287 #[iv (2 : Int32), iv (2 : Int32), iv ch] [(.ref b1)])) (fun t k => st1 _ k) ?_
  refine Gv T1 288 [(.ref b1), (.ref b1)] (fun t k => XS.dup X1.here hx rfl (hb hby d_3_287) rfl rfl k) ?_
  refine Gv T1 289 [(.int (0 : Int32)), (.ref b1), (.ref b1)] (fun t k => XS.iconst X1.here hx rfl (hb hby d_3_288) k) ?_
  refine Gv T1 291 [(.int (104 : Int32)), (.int (0 : Int32)), (.ref b1), (.ref b1)] (fun t k => XS.bipush X1.here hx rfl (hb hby d_3_289) k) ?_
  obtain ⟨cl2, Ar2, q2, S2, N2, H2, G2⟩ := id V1
  obtain ⟨T2, h2, X2, e2, W2, st2⟩ := stC X1 hx hZ e1 Ar2 (j := (0 : Int32)) (inb_of S2 ⟨by decide, by decide⟩) (g := (mkF m 291 #[iv (2 : Int32), iv (2 : Int32), iv ch] [(.int (104 : Int32)), (.int (0 : Int32)), (.ref b1), (.ref b1)])) rfl rfl (hb hby d_3_291)
  have wn2 : nar .char (104 : Int32) = (104 : Int32) := rfl
  have fn2 : fits .char (.int (104 : Int32)) = true := by rw [← wn2]; exact fits_nar_char _
  rw [wn2] at W2
  have Nf2 := Fr.snoc X2 N0 gn1
  have V2 : Arv Z h2 b1 k1 .char (5 : Int32) [(.int (104 : Int32)), (.int (0 : Int32)), (.int (0 : Int32)), (.int (0 : Int32)), (.int (0 : Int32))] (.int (0 : Int32)) := Arv.set Ar2 q2 S2 N2 H2 G2 fn2 W2 0 rfl (Nat.le_of_ble_eq_true rfl)
  refine Goes.via (B := T2.setTop (mkF m 292 #[iv (2 : Int32), iv (2 : Int32), iv ch] [(.ref b1)])) (fun t k => st2 _ k) ?_
  refine Gv T2 293 [(.ref b1), (.ref b1)] (fun t k => XS.dup X2.here hx rfl (hb hby d_3_292) rfl rfl k) ?_
  refine Gv T2 294 [(.int (1 : Int32)), (.ref b1), (.ref b1)] (fun t k => XS.iconst X2.here hx rfl (hb hby d_3_293) k) ?_
  refine Gv T2 296 [(.int (105 : Int32)), (.int (1 : Int32)), (.ref b1), (.ref b1)] (fun t k => XS.bipush X2.here hx rfl (hb hby d_3_294) k) ?_
  obtain ⟨cl3, Ar3, q3, S3, N3, H3, G3⟩ := id V2
  obtain ⟨T3, h3, X3, e3, W3, st3⟩ := stC X2 hx hZ e2 Ar3 (j := (1 : Int32)) (inb_of S3 ⟨by decide, by decide⟩) (g := (mkF m 296 #[iv (2 : Int32), iv (2 : Int32), iv ch] [(.int (105 : Int32)), (.int (1 : Int32)), (.ref b1), (.ref b1)])) rfl rfl (hb hby d_3_296)
  have wn3 : nar .char (105 : Int32) = (105 : Int32) := rfl
  have fn3 : fits .char (.int (105 : Int32)) = true := by rw [← wn3]; exact fits_nar_char _
  rw [wn3] at W3
  have Nf3 := Fr.snoc X3 Nf2 gn1
  have V3 : Arv Z h3 b1 k1 .char (5 : Int32) [(.int (104 : Int32)), (.int (105 : Int32)), (.int (0 : Int32)), (.int (0 : Int32)), (.int (0 : Int32))] (.int (0 : Int32)) := Arv.set Ar3 q3 S3 N3 H3 G3 fn3 W3 1 rfl (Nat.le_of_ble_eq_true rfl)
  refine Goes.via (B := T3.setTop (mkF m 297 #[iv (2 : Int32), iv (2 : Int32), iv ch] [(.ref b1)])) (fun t k => st3 _ k) ?_
  refine Gv T3 298 [(.ref b1), (.ref b1)] (fun t k => XS.dup X3.here hx rfl (hb hby d_3_297) rfl rfl k) ?_
  refine Gv T3 299 [(.int (2 : Int32)), (.ref b1), (.ref b1)] (fun t k => XS.iconst X3.here hx rfl (hb hby d_3_298) k) ?_
  refine Gv T3 301 [(.int (103 : Int32)), (.int (2 : Int32)), (.ref b1), (.ref b1)] (fun t k => XS.bipush X3.here hx rfl (hb hby d_3_299) k) ?_
  obtain ⟨cl4, Ar4, q4, S4, N4, H4, G4⟩ := id V3
  obtain ⟨T4, h4, X4, e4, W4, st4⟩ := stC X3 hx hZ e3 Ar4 (j := (2 : Int32)) (inb_of S4 ⟨by decide, by decide⟩) (g := (mkF m 301 #[iv (2 : Int32), iv (2 : Int32), iv ch] [(.int (103 : Int32)), (.int (2 : Int32)), (.ref b1), (.ref b1)])) rfl rfl (hb hby d_3_301)
  have wn4 : nar .char (103 : Int32) = (103 : Int32) := rfl
  have fn4 : fits .char (.int (103 : Int32)) = true := by rw [← wn4]; exact fits_nar_char _
  rw [wn4] at W4
  have Nf4 := Fr.snoc X4 Nf3 gn1
  have V4 : Arv Z h4 b1 k1 .char (5 : Int32) [(.int (104 : Int32)), (.int (105 : Int32)), (.int (103 : Int32)), (.int (0 : Int32)), (.int (0 : Int32))] (.int (0 : Int32)) := Arv.set Ar4 q4 S4 N4 H4 G4 fn4 W4 2 rfl (Nat.le_of_ble_eq_true rfl)
  refine Goes.via (B := T4.setTop (mkF m 302 #[iv (2 : Int32), iv (2 : Int32), iv ch] [(.ref b1)])) (fun t k => st4 _ k) ?_
  refine Gv T4 303 [(.ref b1), (.ref b1)] (fun t k => XS.dup X4.here hx rfl (hb hby d_3_302) rfl rfl k) ?_
  refine Gv T4 304 [(.int (3 : Int32)), (.ref b1), (.ref b1)] (fun t k => XS.iconst X4.here hx rfl (hb hby d_3_303) k) ?_
  refine Gv T4 306 [(.int (104 : Int32)), (.int (3 : Int32)), (.ref b1), (.ref b1)] (fun t k => XS.bipush X4.here hx rfl (hb hby d_3_304) k) ?_
  obtain ⟨cl5, Ar5, q5, S5, N5, H5, G5⟩ := id V4
  obtain ⟨T5, h5, X5, e5, W5, st5⟩ := stC X4 hx hZ e4 Ar5 (j := (3 : Int32)) (inb_of S5 ⟨by decide, by decide⟩) (g := (mkF m 306 #[iv (2 : Int32), iv (2 : Int32), iv ch] [(.int (104 : Int32)), (.int (3 : Int32)), (.ref b1), (.ref b1)])) rfl rfl (hb hby d_3_306)
  have wn5 : nar .char (104 : Int32) = (104 : Int32) := rfl
  have fn5 : fits .char (.int (104 : Int32)) = true := by rw [← wn5]; exact fits_nar_char _
  rw [wn5] at W5
  have Nf5 := Fr.snoc X5 Nf4 gn1
  have V5 : Arv Z h5 b1 k1 .char (5 : Int32) [(.int (104 : Int32)), (.int (105 : Int32)), (.int (103 : Int32)), (.int (104 : Int32)), (.int (0 : Int32))] (.int (0 : Int32)) := Arv.set Ar5 q5 S5 N5 H5 G5 fn5 W5 3 rfl (Nat.le_of_ble_eq_true rfl)
  refine Goes.via (B := T5.setTop (mkF m 307 #[iv (2 : Int32), iv (2 : Int32), iv ch] [(.ref b1)])) (fun t k => st5 _ k) ?_
  refine Gv T5 308 [(.ref b1), (.ref b1)] (fun t k => XS.dup X5.here hx rfl (hb hby d_3_307) rfl rfl k) ?_
  refine Gv T5 309 [(.int (4 : Int32)), (.ref b1), (.ref b1)] (fun t k => XS.iconst X5.here hx rfl (hb hby d_3_308) k) ?_
  refine Gv T5 310 [(.int ch), (.int (4 : Int32)), (.ref b1), (.ref b1)] (fun t k => XS.iloadN X5.here hx rfl (hb hby d_3_309) rfl k) ?_
  obtain ⟨cl6, Ar6, q6, S6, N6, H6, G6⟩ := id V5
  obtain ⟨T6, h6, X6, e6, W6, st6⟩ := stC X5 hx hZ e5 Ar6 (j := (4 : Int32)) (inb_of S6 ⟨by decide, by decide⟩) (g := (mkF m 310 #[iv (2 : Int32), iv (2 : Int32), iv ch] [(.int ch), (.int (4 : Int32)), (.ref b1), (.ref b1)])) rfl rfl (hb hby d_3_310)
  have wn6 : nar .char ch = ch := own_i2c hch
  have fn6 : fits .char (.int ch) = true := by rw [← wn6]; exact fits_nar_char _
  rw [wn6] at W6
  have Nf6 := Fr.snoc X6 Nf5 gn1
  have V6 : Arv Z h6 b1 k1 .char (5 : Int32) [(.int (104 : Int32)), (.int (105 : Int32)), (.int (103 : Int32)), (.int (104 : Int32)), (.int ch)] (.int (0 : Int32)) := Arv.set Ar6 q6 S6 N6 H6 G6 fn6 W6 4 rfl (Nat.le_of_ble_eq_true rfl)
  refine Goes.via (B := T6.setTop (mkF m 311 #[iv (2 : Int32), iv (2 : Int32), iv ch] [(.ref b1)])) (fun t k => st6 _ k) ?_
  exact finA (Q := (own_Q24 Z ch h0 n0)) (F := FrameEnd) (C := ((Rm 0 1 5 0)).cells) (S := ((Rm 0 1 5 0)).slots) X6 hx Bd.returns rfl rfl rfl (hb hby d_3_311) e6 ⟨b1, k1, rfl, Nf6, (((((((Keep.refl h0 []).ext E1).wr W2 (Or.inr gs1)).wr W3 (Or.inr gs1)).wr W4 (Or.inr gs1)).wr W5 (Or.inr gs1)).wr W6 (Or.inr gs1)), gs1, V6⟩ (lvN X6 hlk (by decide) (by decide))
theorem d_3_317 : decode method_3_code 317 = .ok (.iconst 3, 1) := by decide +kernel
theorem d_3_318 : decode method_3_code 318 = .ok (.newarray .char, 2) := by decide +kernel
theorem d_3_320 : decode method_3_code 320 = .ok (.dup, 1) := by decide +kernel
theorem d_3_321 : decode method_3_code 321 = .ok (.iconst 0, 1) := by decide +kernel
theorem d_3_322 : decode method_3_code 322 = .ok (.bipush 104, 2) := by decide +kernel
theorem d_3_324 : decode method_3_code 324 = .ok (.castore, 1) := by decide +kernel
theorem d_3_325 : decode method_3_code 325 = .ok (.dup, 1) := by decide +kernel
theorem d_3_326 : decode method_3_code 326 = .ok (.iconst 1, 1) := by decide +kernel
theorem d_3_327 : decode method_3_code 327 = .ok (.bipush 105, 2) := by decide +kernel
theorem d_3_329 : decode method_3_code 329 = .ok (.castore, 1) := by decide +kernel
theorem d_3_330 : decode method_3_code 330 = .ok (.dup, 1) := by decide +kernel
theorem d_3_331 : decode method_3_code 331 = .ok (.iconst 2, 1) := by decide +kernel
theorem d_3_332 : decode method_3_code 332 = .ok (.bipush 103, 2) := by decide +kernel
theorem d_3_334 : decode method_3_code 334 = .ok (.castore, 1) := by decide +kernel
theorem d_3_335 : decode method_3_code 335 = .ok (.areturn, 1) := by decide +kernel
theorem own_ef25 (m : MethodId) (x0 : Int32) (x1 : Int32) (x2 : Int32)  : entryFrame m #[(.int x0), (.int x1), (.int x2)] 3 = mkF m 0 #[iv x0, iv x1, iv x2] [] := by first | (simp [entryFrame, mkF, argsToLocals, Value.category]; done) | rfl
abbrev own_Q25 (Z : State) (ch : Int32) (h0 : Heap) (n0 : Nat) (v : Option Value) (h : Heap) (L : List Loc) : Prop := ∃ r : Addr, ∃ kr : ClassId, v = some (.ref r) ∧ Fr n0 L ∧ Keep h0 h [] ∧ h0.size ≤ r ∧ Arv Z h r kr .char (3 : Int32) [(.int (104 : Int32)), (.int (105 : Int32)), (.int (103 : Int32))] (.int (0 : Int32))
set_option maxRecDepth 65536 in
set_option maxHeartbeats 40000000 in
theorem own_m25 (l : Launch) (Z : State) (a0 : Array Value) (hw : ∀ d ∈ tables_1, d.before a0 Z = true) (ws : List Jvm.Cond) (ch : Int32) (h0 : Heap) (n0 : Nat) (O0 : Old Z n0 h0) (hch : ¬ ch < (0 : Int32) ∧ ¬ (255 : Int32) < ch) :
    Ctr l Z (⟨"com/example/castellan/castellan/config/AssuranceLevelNamedPinLaw", "name", "(IIC)[C"⟩ : MethodName) method_3_code 3 (some (.array .char)) (Rm 0 1 3 0) #[(.int (2 : Int32)), (.int (3 : Int32)), (.int ch)] h0 (own_Q25 Z ch h0 n0) ws := by
  refine MetFree.of_bodySF (plainFor_of_name own_pn4) hisR ?_
  intro p e s m args below meth c s₁ Bd hml0 hP hK
  obtain ⟨rfl, hZ, hh⟩ := hP
  have hx := Bd.exec
  have hby := Bd.bytes
  have hlk : meth.locks = false := Bd.notSynchronized
  have hml : c.maxLocals = 3 := hml0
  have hown : s.vm.findClass "com/example/castellan/castellan/config/AssuranceLevelNamedPinLaw" = some m.cls := findClass_of_methodNamed Bd.named
  have hnm := (name_of_methodNamed Bd.named Bd.method).1
  have X0 : Stand p l e (Rm 0 1 3 0) s m #[(.int (2 : Int32)), (.int (3 : Int32)), (.int ch)] below meth c s₁ [] 0 0 := Stand.of_body Bd
  have e0 : s₁.heap = h0 := by rw [← hh, Bd.state]; rfl
  have N0 := Fr.nil n0
  show Goes p.tables e below (fun t o => ∃ v L, o = .returned v ∧ (own_Q25 Z ch h0 n0) v t.heap L ∧ FrameEnd s o t L ((Rm 0 1 3 0)).cells ((Rm 0 1 3 0)).slots) _
  refine Goes.via (B := s₁.setTop (mkF m 0 #[iv (2 : Int32), iv (3 : Int32), iv ch] [])) (fun t k => castTop (own_ef25 m (2 : Int32) (3 : Int32) ch) k) ?_
  refine Gv s₁ 1 [(.int (2 : Int32))] (fun t k => XS.iloadN X0.here hx rfl (hb hby d_3_0) rfl k) ?_
  refine Gv s₁ 70 [] (fun t k => XS.ifYes X0.here hx rfl (pc0 := 1) (pc' := 70) rfl (hb hby d_3_1) rfl (XT.i0_ne_t (by decide)) (by decide) (by decide) k) ?_
  refine Gv s₁ 71 [(.int (2 : Int32))] (fun t k => XS.iloadN X0.here hx rfl (hb hby d_3_70) rfl k) ?_
  refine Gv s₁ 72 [(.int (1 : Int32)), (.int (2 : Int32))] (fun t k => XS.iconst X0.here hx rfl (hb hby d_3_71) k) ?_
  refine Gv s₁ 279 [] (fun t k => XS.icmpYes X0.here hx rfl (pc0 := 72) (pc' := 279) rfl (hb hby d_3_72) rfl (XT.ii_ne_t (by decide)) (by decide) (by decide) k) ?_
  refine Gv s₁ 280 [(.int (3 : Int32))] (fun t k => XS.iloadN X0.here hx rfl (hb hby d_3_279) rfl k) ?_
  refine Gv s₁ 281 [(.int (2 : Int32)), (.int (3 : Int32))] (fun t k => XS.iconst X0.here hx rfl (hb hby d_3_280) k) ?_
  refine Gv s₁ 312 [] (fun t k => XS.icmpYes X0.here hx rfl (pc0 := 281) (pc' := 312) rfl (hb hby d_3_281) rfl (XT.ii_ne_t (by decide)) (by decide) (by decide) k) ?_
  refine Gv s₁ 313 [(.int (3 : Int32))] (fun t k => XS.iloadN X0.here hx rfl (hb hby d_3_312) rfl k) ?_
  refine Gv s₁ 314 [(.int (3 : Int32)), (.int (3 : Int32))] (fun t k => XS.iconst X0.here hx rfl (hb hby d_3_313) k) ?_
  refine Gv s₁ 317 [] (fun t k => XS.icmpNo X0.here hx rfl (hb hby d_3_314) rfl (XT.ii_ne_f rfl) k) ?_
  refine Gv s₁ 318 [(.int (3 : Int32))] (fun t k => XS.iconst X0.here hx rfl (hb hby d_3_317) k) ?_
  obtain ⟨T1, h1, k1, X1, e1, E1, A1, st1⟩ := newP X0 hx hZ (W_ hw 4 rfl) e0 (g := (mkF m 318 #[iv (2 : Int32), iv (3 : Int32), iv ch] [(.int (3 : Int32))])) rfl (hb hby d_3_318) rfl (by decide) (cap := 3) (by decide) (by decide) (by decide) (by decide)
  obtain ⟨b1, g1⟩ : ∃ z, z = h0.size := ⟨_, rfl⟩
  rw [← g1] at A1 st1
  have gn1 : n0 ≤ b1 := Nat.le_trans (old_le O0) (Nat.le_of_eq g1.symm)
  have gs1 : h0.size ≤ b1 := Nat.le_trans (Keep.refl h0 []).1 (Nat.le_of_eq g1.symm)
  have V1 : Arv Z h1 b1 k1 .char (3 : Int32) [(.int (0 : Int32)), (.int (0 : Int32)), (.int (0 : Int32))] (.int (0 : Int32)) := (Arv.new A1 (by decide)).pad (pad_rep [] (.int (0 : Int32)) 3)
  refine Goes.via (B := T1.setTop (mkF m 320 #[iv (2 : Int32), iv (3 : Int32), iv ch] [(.ref b1)])) (fun t k => st1 _ k) ?_
  refine Gv T1 321 [(.ref b1), (.ref b1)] (fun t k => XS.dup X1.here hx rfl (hb hby d_3_320) rfl rfl k) ?_
  refine Gv T1 322 [(.int (0 : Int32)), (.ref b1), (.ref b1)] (fun t k => XS.iconst X1.here hx rfl (hb hby d_3_321) k) ?_
  refine Gv T1 324 [(.int (104 : Int32)), (.int (0 : Int32)), (.ref b1), (.ref b1)] (fun t k => XS.bipush X1.here hx rfl (hb hby d_3_322) k) ?_
  obtain ⟨cl2, Ar2, q2, S2, N2, H2, G2⟩ := id V1
  obtain ⟨T2, h2, X2, e2, W2, st2⟩ := stC X1 hx hZ e1 Ar2 (j := (0 : Int32)) (inb_of S2 ⟨by decide, by decide⟩) (g := (mkF m 324 #[iv (2 : Int32), iv (3 : Int32), iv ch] [(.int (104 : Int32)), (.int (0 : Int32)), (.ref b1), (.ref b1)])) rfl rfl (hb hby d_3_324)
  have wn2 : nar .char (104 : Int32) = (104 : Int32) := rfl
  have fn2 : fits .char (.int (104 : Int32)) = true := by rw [← wn2]; exact fits_nar_char _
  rw [wn2] at W2
  have Nf2 := Fr.snoc X2 N0 gn1
  have V2 : Arv Z h2 b1 k1 .char (3 : Int32) [(.int (104 : Int32)), (.int (0 : Int32)), (.int (0 : Int32))] (.int (0 : Int32)) := Arv.set Ar2 q2 S2 N2 H2 G2 fn2 W2 0 rfl (Nat.le_of_ble_eq_true rfl)
  refine Goes.via (B := T2.setTop (mkF m 325 #[iv (2 : Int32), iv (3 : Int32), iv ch] [(.ref b1)])) (fun t k => st2 _ k) ?_
  refine Gv T2 326 [(.ref b1), (.ref b1)] (fun t k => XS.dup X2.here hx rfl (hb hby d_3_325) rfl rfl k) ?_
  refine Gv T2 327 [(.int (1 : Int32)), (.ref b1), (.ref b1)] (fun t k => XS.iconst X2.here hx rfl (hb hby d_3_326) k) ?_
  refine Gv T2 329 [(.int (105 : Int32)), (.int (1 : Int32)), (.ref b1), (.ref b1)] (fun t k => XS.bipush X2.here hx rfl (hb hby d_3_327) k) ?_
  obtain ⟨cl3, Ar3, q3, S3, N3, H3, G3⟩ := id V2
  obtain ⟨T3, h3, X3, e3, W3, st3⟩ := stC X2 hx hZ e2 Ar3 (j := (1 : Int32)) (inb_of S3 ⟨by decide, by decide⟩) (g := (mkF m 329 #[iv (2 : Int32), iv (3 : Int32), iv ch] [(.int (105 : Int32)), (.int (1 : Int32)), (.ref b1), (.ref b1)])) rfl rfl (hb hby d_3_329)
  have wn3 : nar .char (105 : Int32) = (105 : Int32) := rfl
  have fn3 : fits .char (.int (105 : Int32)) = true := by rw [← wn3]; exact fits_nar_char _
  rw [wn3] at W3
  have Nf3 := Fr.snoc X3 Nf2 gn1
  have V3 : Arv Z h3 b1 k1 .char (3 : Int32) [(.int (104 : Int32)), (.int (105 : Int32)), (.int (0 : Int32))] (.int (0 : Int32)) := Arv.set Ar3 q3 S3 N3 H3 G3 fn3 W3 1 rfl (Nat.le_of_ble_eq_true rfl)
  refine Goes.via (B := T3.setTop (mkF m 330 #[iv (2 : Int32), iv (3 : Int32), iv ch] [(.ref b1)])) (fun t k => st3 _ k) ?_
  refine Gv T3 331 [(.ref b1), (.ref b1)] (fun t k => XS.dup X3.here hx rfl (hb hby d_3_330) rfl rfl k) ?_
  refine Gv T3 332 [(.int (2 : Int32)), (.ref b1), (.ref b1)] (fun t k => XS.iconst X3.here hx rfl (hb hby d_3_331) k) ?_
  refine Gv T3 334 [(.int (103 : Int32)), (.int (2 : Int32)), (.ref b1), (.ref b1)] (fun t k => XS.bipush X3.here hx rfl (hb hby d_3_332) k) ?_
  obtain ⟨cl4, Ar4, q4, S4, N4, H4, G4⟩ := id V3
  obtain ⟨T4, h4, X4, e4, W4, st4⟩ := stC X3 hx hZ e3 Ar4 (j := (2 : Int32)) (inb_of S4 ⟨by decide, by decide⟩) (g := (mkF m 334 #[iv (2 : Int32), iv (3 : Int32), iv ch] [(.int (103 : Int32)), (.int (2 : Int32)), (.ref b1), (.ref b1)])) rfl rfl (hb hby d_3_334)
  have wn4 : nar .char (103 : Int32) = (103 : Int32) := rfl
  have fn4 : fits .char (.int (103 : Int32)) = true := by rw [← wn4]; exact fits_nar_char _
  rw [wn4] at W4
  have Nf4 := Fr.snoc X4 Nf3 gn1
  have V4 : Arv Z h4 b1 k1 .char (3 : Int32) [(.int (104 : Int32)), (.int (105 : Int32)), (.int (103 : Int32))] (.int (0 : Int32)) := Arv.set Ar4 q4 S4 N4 H4 G4 fn4 W4 2 rfl (Nat.le_of_ble_eq_true rfl)
  refine Goes.via (B := T4.setTop (mkF m 335 #[iv (2 : Int32), iv (3 : Int32), iv ch] [(.ref b1)])) (fun t k => st4 _ k) ?_
  exact finA (Q := (own_Q25 Z ch h0 n0)) (F := FrameEnd) (C := ((Rm 0 1 3 0)).cells) (S := ((Rm 0 1 3 0)).slots) X4 hx Bd.returns rfl rfl rfl (hb hby d_3_335) e4 ⟨b1, k1, rfl, Nf4, (((((Keep.refl h0 []).ext E1).wr W2 (Or.inr gs1)).wr W3 (Or.inr gs1)).wr W4 (Or.inr gs1)), gs1, V4⟩ (lvN X4 hlk (by decide) (by decide))
theorem d_4_0 : decode method_4_code 0 = .ok (.iload_n 0, 1) := by decide +kernel
theorem d_4_1 : decode method_4_code 1 = .ok (.ifCond .ne 7, 3) := by decide +kernel
theorem d_4_4 : decode method_4_code 4 = .ok (.iconst 0, 1) := by decide +kernel
theorem d_4_5 : decode method_4_code 5 = .ok (.newarray .char, 2) := by decide +kernel
theorem d_4_7 : decode method_4_code 7 = .ok (.areturn, 1) := by decide +kernel
theorem own_ef26 (m : MethodId) (x0 : Int32) (x1 : Int32) (x2 : Int32) (x3 : Int32) (x4 : Int32)  : entryFrame m #[(.int x0), (.int x1), (.int x2), (.int x3), (.int x4)] 5 = mkF m 0 #[iv x0, iv x1, iv x2, iv x3, iv x4] [] := by first | (simp [entryFrame, mkF, argsToLocals, Value.category]; done) | rfl
abbrev own_Q26 (Z : State) (fa : Int32) (fb : Int32) (fc : Int32) (fd : Int32) (h0 : Heap) (n0 : Nat) (v : Option Value) (h : Heap) (L : List Loc) : Prop := ∃ r : Addr, ∃ kr : ClassId, v = some (.ref r) ∧ Fr n0 L ∧ Keep h0 h [] ∧ h0.size ≤ r ∧ Arv Z h r kr .char (0 : Int32) [] (.int (0 : Int32))
set_option maxRecDepth 65536 in
set_option maxHeartbeats 40000000 in
theorem own_m26 (l : Launch) (Z : State) (a0 : Array Value) (hw : ∀ d ∈ tables_1, d.before a0 Z = true) (ws : List Jvm.Cond) (fa : Int32) (fb : Int32) (fc : Int32) (fd : Int32) (h0 : Heap) (n0 : Nat) (O0 : Old Z n0 h0) (hfa : ¬ fa < (0 : Int32) ∧ ¬ (255 : Int32) < fa) (hfb : ¬ fb < (0 : Int32) ∧ ¬ (255 : Int32) < fb) (hfc : ¬ fc < (0 : Int32) ∧ ¬ (255 : Int32) < fc) (hfd : ¬ fd < (0 : Int32) ∧ ¬ (255 : Int32) < fd) :
    Ctr l Z (⟨"com/example/castellan/castellan/config/AssuranceLevelNamedPinLaw", "free", "(ICCCC)[C"⟩ : MethodName) method_4_code 5 (some (.array .char)) (Rm 0 1 0 0) #[(.int (0 : Int32)), (.int fa), (.int fb), (.int fc), (.int fd)] h0 (own_Q26 Z fa fb fc fd h0 n0) ws := by
  refine MetFree.of_bodySF (plainFor_of_name own_pn4) hisR ?_
  intro p e s m args below meth c s₁ Bd hml0 hP hK
  obtain ⟨rfl, hZ, hh⟩ := hP
  have hx := Bd.exec
  have hby := Bd.bytes
  have hlk : meth.locks = false := Bd.notSynchronized
  have hml : c.maxLocals = 5 := hml0
  have hown : s.vm.findClass "com/example/castellan/castellan/config/AssuranceLevelNamedPinLaw" = some m.cls := findClass_of_methodNamed Bd.named
  have hnm := (name_of_methodNamed Bd.named Bd.method).1
  have X0 : Stand p l e (Rm 0 1 0 0) s m #[(.int (0 : Int32)), (.int fa), (.int fb), (.int fc), (.int fd)] below meth c s₁ [] 0 0 := Stand.of_body Bd
  have e0 : s₁.heap = h0 := by rw [← hh, Bd.state]; rfl
  have N0 := Fr.nil n0
  show Goes p.tables e below (fun t o => ∃ v L, o = .returned v ∧ (own_Q26 Z fa fb fc fd h0 n0) v t.heap L ∧ FrameEnd s o t L ((Rm 0 1 0 0)).cells ((Rm 0 1 0 0)).slots) _
  refine Goes.via (B := s₁.setTop (mkF m 0 #[iv (0 : Int32), iv fa, iv fb, iv fc, iv fd] [])) (fun t k => castTop (own_ef26 m (0 : Int32) fa fb fc fd) k) ?_
  refine Gv s₁ 1 [(.int (0 : Int32))] (fun t k => XS.iloadN X0.here hx rfl (hb hby d_4_0) rfl k) ?_
  refine Gv s₁ 4 [] (fun t k => XS.ifNo X0.here hx rfl (hb hby d_4_1) rfl (XT.i0_ne_f rfl) k) ?_
  refine Gv s₁ 5 [(.int (0 : Int32))] (fun t k => XS.iconst X0.here hx rfl (hb hby d_4_4) k) ?_
  obtain ⟨T1, h1, k1, X1, e1, E1, A1, st1⟩ := newP X0 hx hZ (W_ hw 4 rfl) e0 (g := (mkF m 5 #[iv (0 : Int32), iv fa, iv fb, iv fc, iv fd] [(.int (0 : Int32))])) rfl (hb hby d_4_5) rfl (by decide) (cap := 0) (by decide) (by decide) (by decide) (by decide)
  obtain ⟨b1, g1⟩ : ∃ z, z = h0.size := ⟨_, rfl⟩
  rw [← g1] at A1 st1
  have gn1 : n0 ≤ b1 := Nat.le_trans (old_le O0) (Nat.le_of_eq g1.symm)
  have gs1 : h0.size ≤ b1 := Nat.le_trans (Keep.refl h0 []).1 (Nat.le_of_eq g1.symm)
  have V1 : Arv Z h1 b1 k1 .char (0 : Int32) [] (.int (0 : Int32)) := Arv.new A1 (by decide)
  refine Goes.via (B := T1.setTop (mkF m 7 #[iv (0 : Int32), iv fa, iv fb, iv fc, iv fd] [(.ref b1)])) (fun t k => st1 _ k) ?_
  exact finA (Q := (own_Q26 Z fa fb fc fd h0 n0)) (F := FrameEnd) (C := ((Rm 0 1 0 0)).cells) (S := ((Rm 0 1 0 0)).slots) X1 hx Bd.returns rfl rfl rfl (hb hby d_4_7) e1 ⟨b1, k1, rfl, N0, ((Keep.refl h0 []).ext E1), gs1, V1⟩ (lvN X1 hlk (by decide) (by decide))
theorem d_4_8 : decode method_4_code 8 = .ok (.iload_n 0, 1) := by decide +kernel
theorem d_4_9 : decode method_4_code 9 = .ok (.iconst 1, 1) := by decide +kernel
theorem d_4_10 : decode method_4_code 10 = .ok (.if_icmp .ne 11, 3) := by decide +kernel
theorem d_4_13 : decode method_4_code 13 = .ok (.iconst 1, 1) := by decide +kernel
theorem d_4_14 : decode method_4_code 14 = .ok (.newarray .char, 2) := by decide +kernel
theorem d_4_16 : decode method_4_code 16 = .ok (.dup, 1) := by decide +kernel
theorem d_4_17 : decode method_4_code 17 = .ok (.iconst 0, 1) := by decide +kernel
theorem d_4_18 : decode method_4_code 18 = .ok (.iload_n 1, 1) := by decide +kernel
theorem d_4_19 : decode method_4_code 19 = .ok (.castore, 1) := by decide +kernel
theorem d_4_20 : decode method_4_code 20 = .ok (.areturn, 1) := by decide +kernel
theorem own_ef27 (m : MethodId) (x0 : Int32) (x1 : Int32) (x2 : Int32) (x3 : Int32) (x4 : Int32)  : entryFrame m #[(.int x0), (.int x1), (.int x2), (.int x3), (.int x4)] 5 = mkF m 0 #[iv x0, iv x1, iv x2, iv x3, iv x4] [] := by first | (simp [entryFrame, mkF, argsToLocals, Value.category]; done) | rfl
abbrev own_Q27 (Z : State) (fa : Int32) (fb : Int32) (fc : Int32) (fd : Int32) (h0 : Heap) (n0 : Nat) (v : Option Value) (h : Heap) (L : List Loc) : Prop := ∃ r : Addr, ∃ kr : ClassId, v = some (.ref r) ∧ Fr n0 L ∧ Keep h0 h [] ∧ h0.size ≤ r ∧ Arv Z h r kr .char (1 : Int32) [(.int fa)] (.int (0 : Int32))
set_option maxRecDepth 65536 in
set_option maxHeartbeats 40000000 in
theorem own_m27 (l : Launch) (Z : State) (a0 : Array Value) (hw : ∀ d ∈ tables_1, d.before a0 Z = true) (ws : List Jvm.Cond) (fa : Int32) (fb : Int32) (fc : Int32) (fd : Int32) (h0 : Heap) (n0 : Nat) (O0 : Old Z n0 h0) (hfa : ¬ fa < (0 : Int32) ∧ ¬ (255 : Int32) < fa) (hfb : ¬ fb < (0 : Int32) ∧ ¬ (255 : Int32) < fb) (hfc : ¬ fc < (0 : Int32) ∧ ¬ (255 : Int32) < fc) (hfd : ¬ fd < (0 : Int32) ∧ ¬ (255 : Int32) < fd) :
    Ctr l Z (⟨"com/example/castellan/castellan/config/AssuranceLevelNamedPinLaw", "free", "(ICCCC)[C"⟩ : MethodName) method_4_code 5 (some (.array .char)) (Rm 0 1 1 0) #[(.int (1 : Int32)), (.int fa), (.int fb), (.int fc), (.int fd)] h0 (own_Q27 Z fa fb fc fd h0 n0) ws := by
  refine MetFree.of_bodySF (plainFor_of_name own_pn4) hisR ?_
  intro p e s m args below meth c s₁ Bd hml0 hP hK
  obtain ⟨rfl, hZ, hh⟩ := hP
  have hx := Bd.exec
  have hby := Bd.bytes
  have hlk : meth.locks = false := Bd.notSynchronized
  have hml : c.maxLocals = 5 := hml0
  have hown : s.vm.findClass "com/example/castellan/castellan/config/AssuranceLevelNamedPinLaw" = some m.cls := findClass_of_methodNamed Bd.named
  have hnm := (name_of_methodNamed Bd.named Bd.method).1
  have X0 : Stand p l e (Rm 0 1 1 0) s m #[(.int (1 : Int32)), (.int fa), (.int fb), (.int fc), (.int fd)] below meth c s₁ [] 0 0 := Stand.of_body Bd
  have e0 : s₁.heap = h0 := by rw [← hh, Bd.state]; rfl
  have N0 := Fr.nil n0
  show Goes p.tables e below (fun t o => ∃ v L, o = .returned v ∧ (own_Q27 Z fa fb fc fd h0 n0) v t.heap L ∧ FrameEnd s o t L ((Rm 0 1 1 0)).cells ((Rm 0 1 1 0)).slots) _
  refine Goes.via (B := s₁.setTop (mkF m 0 #[iv (1 : Int32), iv fa, iv fb, iv fc, iv fd] [])) (fun t k => castTop (own_ef27 m (1 : Int32) fa fb fc fd) k) ?_
  refine Gv s₁ 1 [(.int (1 : Int32))] (fun t k => XS.iloadN X0.here hx rfl (hb hby d_4_0) rfl k) ?_
  refine Gv s₁ 8 [] (fun t k => XS.ifYes X0.here hx rfl (pc0 := 1) (pc' := 8) rfl (hb hby d_4_1) rfl (XT.i0_ne_t (by decide)) (by decide) (by decide) k) ?_
  refine Gv s₁ 9 [(.int (1 : Int32))] (fun t k => XS.iloadN X0.here hx rfl (hb hby d_4_8) rfl k) ?_
  refine Gv s₁ 10 [(.int (1 : Int32)), (.int (1 : Int32))] (fun t k => XS.iconst X0.here hx rfl (hb hby d_4_9) k) ?_
  refine Gv s₁ 13 [] (fun t k => XS.icmpNo X0.here hx rfl (hb hby d_4_10) rfl (XT.ii_ne_f rfl) k) ?_
  refine Gv s₁ 14 [(.int (1 : Int32))] (fun t k => XS.iconst X0.here hx rfl (hb hby d_4_13) k) ?_
  obtain ⟨T1, h1, k1, X1, e1, E1, A1, st1⟩ := newP X0 hx hZ (W_ hw 4 rfl) e0 (g := (mkF m 14 #[iv (1 : Int32), iv fa, iv fb, iv fc, iv fd] [(.int (1 : Int32))])) rfl (hb hby d_4_14) rfl (by decide) (cap := 1) (by decide) (by decide) (by decide) (by decide)
  obtain ⟨b1, g1⟩ : ∃ z, z = h0.size := ⟨_, rfl⟩
  rw [← g1] at A1 st1
  have gn1 : n0 ≤ b1 := Nat.le_trans (old_le O0) (Nat.le_of_eq g1.symm)
  have gs1 : h0.size ≤ b1 := Nat.le_trans (Keep.refl h0 []).1 (Nat.le_of_eq g1.symm)
  have V1 : Arv Z h1 b1 k1 .char (1 : Int32) [(.int (0 : Int32))] (.int (0 : Int32)) := (Arv.new A1 (by decide)).pad (pad_rep [] (.int (0 : Int32)) 1)
  refine Goes.via (B := T1.setTop (mkF m 16 #[iv (1 : Int32), iv fa, iv fb, iv fc, iv fd] [(.ref b1)])) (fun t k => st1 _ k) ?_
  refine Gv T1 17 [(.ref b1), (.ref b1)] (fun t k => XS.dup X1.here hx rfl (hb hby d_4_16) rfl rfl k) ?_
  refine Gv T1 18 [(.int (0 : Int32)), (.ref b1), (.ref b1)] (fun t k => XS.iconst X1.here hx rfl (hb hby d_4_17) k) ?_
  refine Gv T1 19 [(.int fa), (.int (0 : Int32)), (.ref b1), (.ref b1)] (fun t k => XS.iloadN X1.here hx rfl (hb hby d_4_18) rfl k) ?_
  obtain ⟨cl2, Ar2, q2, S2, N2, H2, G2⟩ := id V1
  obtain ⟨T2, h2, X2, e2, W2, st2⟩ := stC X1 hx hZ e1 Ar2 (j := (0 : Int32)) (inb_of S2 ⟨by decide, by decide⟩) (g := (mkF m 19 #[iv (1 : Int32), iv fa, iv fb, iv fc, iv fd] [(.int fa), (.int (0 : Int32)), (.ref b1), (.ref b1)])) rfl rfl (hb hby d_4_19)
  have wn2 : nar .char fa = fa := own_i2c hfa
  have fn2 : fits .char (.int fa) = true := by rw [← wn2]; exact fits_nar_char _
  rw [wn2] at W2
  have Nf2 := Fr.snoc X2 N0 gn1
  have V2 : Arv Z h2 b1 k1 .char (1 : Int32) [(.int fa)] (.int (0 : Int32)) := Arv.set Ar2 q2 S2 N2 H2 G2 fn2 W2 0 rfl (Nat.le_of_ble_eq_true rfl)
  refine Goes.via (B := T2.setTop (mkF m 20 #[iv (1 : Int32), iv fa, iv fb, iv fc, iv fd] [(.ref b1)])) (fun t k => st2 _ k) ?_
  exact finA (Q := (own_Q27 Z fa fb fc fd h0 n0)) (F := FrameEnd) (C := ((Rm 0 1 1 0)).cells) (S := ((Rm 0 1 1 0)).slots) X2 hx Bd.returns rfl rfl rfl (hb hby d_4_20) e2 ⟨b1, k1, rfl, Nf2, (((Keep.refl h0 []).ext E1).wr W2 (Or.inr gs1)), gs1, V2⟩ (lvN X2 hlk (by decide) (by decide))
theorem d_4_21 : decode method_4_code 21 = .ok (.iload_n 0, 1) := by decide +kernel
theorem d_4_22 : decode method_4_code 22 = .ok (.iconst 2, 1) := by decide +kernel
theorem d_4_23 : decode method_4_code 23 = .ok (.if_icmp .ne 15, 3) := by decide +kernel
theorem d_4_26 : decode method_4_code 26 = .ok (.iconst 2, 1) := by decide +kernel
theorem d_4_27 : decode method_4_code 27 = .ok (.newarray .char, 2) := by decide +kernel
theorem d_4_29 : decode method_4_code 29 = .ok (.dup, 1) := by decide +kernel
theorem d_4_30 : decode method_4_code 30 = .ok (.iconst 0, 1) := by decide +kernel
theorem d_4_31 : decode method_4_code 31 = .ok (.iload_n 1, 1) := by decide +kernel
theorem d_4_32 : decode method_4_code 32 = .ok (.castore, 1) := by decide +kernel
theorem d_4_33 : decode method_4_code 33 = .ok (.dup, 1) := by decide +kernel
theorem d_4_34 : decode method_4_code 34 = .ok (.iconst 1, 1) := by decide +kernel
theorem d_4_35 : decode method_4_code 35 = .ok (.iload_n 2, 1) := by decide +kernel
theorem d_4_36 : decode method_4_code 36 = .ok (.castore, 1) := by decide +kernel
theorem d_4_37 : decode method_4_code 37 = .ok (.areturn, 1) := by decide +kernel
theorem own_ef28 (m : MethodId) (x0 : Int32) (x1 : Int32) (x2 : Int32) (x3 : Int32) (x4 : Int32)  : entryFrame m #[(.int x0), (.int x1), (.int x2), (.int x3), (.int x4)] 5 = mkF m 0 #[iv x0, iv x1, iv x2, iv x3, iv x4] [] := by first | (simp [entryFrame, mkF, argsToLocals, Value.category]; done) | rfl
abbrev own_Q28 (Z : State) (fa : Int32) (fb : Int32) (fc : Int32) (fd : Int32) (h0 : Heap) (n0 : Nat) (v : Option Value) (h : Heap) (L : List Loc) : Prop := ∃ r : Addr, ∃ kr : ClassId, v = some (.ref r) ∧ Fr n0 L ∧ Keep h0 h [] ∧ h0.size ≤ r ∧ Arv Z h r kr .char (2 : Int32) [(.int fa), (.int fb)] (.int (0 : Int32))
set_option maxRecDepth 65536 in
set_option maxHeartbeats 40000000 in
theorem own_m28 (l : Launch) (Z : State) (a0 : Array Value) (hw : ∀ d ∈ tables_1, d.before a0 Z = true) (ws : List Jvm.Cond) (fa : Int32) (fb : Int32) (fc : Int32) (fd : Int32) (h0 : Heap) (n0 : Nat) (O0 : Old Z n0 h0) (hfa : ¬ fa < (0 : Int32) ∧ ¬ (255 : Int32) < fa) (hfb : ¬ fb < (0 : Int32) ∧ ¬ (255 : Int32) < fb) (hfc : ¬ fc < (0 : Int32) ∧ ¬ (255 : Int32) < fc) (hfd : ¬ fd < (0 : Int32) ∧ ¬ (255 : Int32) < fd) :
    Ctr l Z (⟨"com/example/castellan/castellan/config/AssuranceLevelNamedPinLaw", "free", "(ICCCC)[C"⟩ : MethodName) method_4_code 5 (some (.array .char)) (Rm 0 1 2 0) #[(.int (2 : Int32)), (.int fa), (.int fb), (.int fc), (.int fd)] h0 (own_Q28 Z fa fb fc fd h0 n0) ws := by
  refine MetFree.of_bodySF (plainFor_of_name own_pn4) hisR ?_
  intro p e s m args below meth c s₁ Bd hml0 hP hK
  obtain ⟨rfl, hZ, hh⟩ := hP
  have hx := Bd.exec
  have hby := Bd.bytes
  have hlk : meth.locks = false := Bd.notSynchronized
  have hml : c.maxLocals = 5 := hml0
  have hown : s.vm.findClass "com/example/castellan/castellan/config/AssuranceLevelNamedPinLaw" = some m.cls := findClass_of_methodNamed Bd.named
  have hnm := (name_of_methodNamed Bd.named Bd.method).1
  have X0 : Stand p l e (Rm 0 1 2 0) s m #[(.int (2 : Int32)), (.int fa), (.int fb), (.int fc), (.int fd)] below meth c s₁ [] 0 0 := Stand.of_body Bd
  have e0 : s₁.heap = h0 := by rw [← hh, Bd.state]; rfl
  have N0 := Fr.nil n0
  show Goes p.tables e below (fun t o => ∃ v L, o = .returned v ∧ (own_Q28 Z fa fb fc fd h0 n0) v t.heap L ∧ FrameEnd s o t L ((Rm 0 1 2 0)).cells ((Rm 0 1 2 0)).slots) _
  refine Goes.via (B := s₁.setTop (mkF m 0 #[iv (2 : Int32), iv fa, iv fb, iv fc, iv fd] [])) (fun t k => castTop (own_ef28 m (2 : Int32) fa fb fc fd) k) ?_
  refine Gv s₁ 1 [(.int (2 : Int32))] (fun t k => XS.iloadN X0.here hx rfl (hb hby d_4_0) rfl k) ?_
  refine Gv s₁ 8 [] (fun t k => XS.ifYes X0.here hx rfl (pc0 := 1) (pc' := 8) rfl (hb hby d_4_1) rfl (XT.i0_ne_t (by decide)) (by decide) (by decide) k) ?_
  refine Gv s₁ 9 [(.int (2 : Int32))] (fun t k => XS.iloadN X0.here hx rfl (hb hby d_4_8) rfl k) ?_
  refine Gv s₁ 10 [(.int (1 : Int32)), (.int (2 : Int32))] (fun t k => XS.iconst X0.here hx rfl (hb hby d_4_9) k) ?_
  refine Gv s₁ 21 [] (fun t k => XS.icmpYes X0.here hx rfl (pc0 := 10) (pc' := 21) rfl (hb hby d_4_10) rfl (XT.ii_ne_t (by decide)) (by decide) (by decide) k) ?_
  refine Gv s₁ 22 [(.int (2 : Int32))] (fun t k => XS.iloadN X0.here hx rfl (hb hby d_4_21) rfl k) ?_
  refine Gv s₁ 23 [(.int (2 : Int32)), (.int (2 : Int32))] (fun t k => XS.iconst X0.here hx rfl (hb hby d_4_22) k) ?_
  refine Gv s₁ 26 [] (fun t k => XS.icmpNo X0.here hx rfl (hb hby d_4_23) rfl (XT.ii_ne_f rfl) k) ?_
  refine Gv s₁ 27 [(.int (2 : Int32))] (fun t k => XS.iconst X0.here hx rfl (hb hby d_4_26) k) ?_
  obtain ⟨T1, h1, k1, X1, e1, E1, A1, st1⟩ := newP X0 hx hZ (W_ hw 4 rfl) e0 (g := (mkF m 27 #[iv (2 : Int32), iv fa, iv fb, iv fc, iv fd] [(.int (2 : Int32))])) rfl (hb hby d_4_27) rfl (by decide) (cap := 2) (by decide) (by decide) (by decide) (by decide)
  obtain ⟨b1, g1⟩ : ∃ z, z = h0.size := ⟨_, rfl⟩
  rw [← g1] at A1 st1
  have gn1 : n0 ≤ b1 := Nat.le_trans (old_le O0) (Nat.le_of_eq g1.symm)
  have gs1 : h0.size ≤ b1 := Nat.le_trans (Keep.refl h0 []).1 (Nat.le_of_eq g1.symm)
  have V1 : Arv Z h1 b1 k1 .char (2 : Int32) [(.int (0 : Int32)), (.int (0 : Int32))] (.int (0 : Int32)) := (Arv.new A1 (by decide)).pad (pad_rep [] (.int (0 : Int32)) 2)
  refine Goes.via (B := T1.setTop (mkF m 29 #[iv (2 : Int32), iv fa, iv fb, iv fc, iv fd] [(.ref b1)])) (fun t k => st1 _ k) ?_
  refine Gv T1 30 [(.ref b1), (.ref b1)] (fun t k => XS.dup X1.here hx rfl (hb hby d_4_29) rfl rfl k) ?_
  refine Gv T1 31 [(.int (0 : Int32)), (.ref b1), (.ref b1)] (fun t k => XS.iconst X1.here hx rfl (hb hby d_4_30) k) ?_
  refine Gv T1 32 [(.int fa), (.int (0 : Int32)), (.ref b1), (.ref b1)] (fun t k => XS.iloadN X1.here hx rfl (hb hby d_4_31) rfl k) ?_
  obtain ⟨cl2, Ar2, q2, S2, N2, H2, G2⟩ := id V1
  obtain ⟨T2, h2, X2, e2, W2, st2⟩ := stC X1 hx hZ e1 Ar2 (j := (0 : Int32)) (inb_of S2 ⟨by decide, by decide⟩) (g := (mkF m 32 #[iv (2 : Int32), iv fa, iv fb, iv fc, iv fd] [(.int fa), (.int (0 : Int32)), (.ref b1), (.ref b1)])) rfl rfl (hb hby d_4_32)
  have wn2 : nar .char fa = fa := own_i2c hfa
  have fn2 : fits .char (.int fa) = true := by rw [← wn2]; exact fits_nar_char _
  rw [wn2] at W2
  have Nf2 := Fr.snoc X2 N0 gn1
  have V2 : Arv Z h2 b1 k1 .char (2 : Int32) [(.int fa), (.int (0 : Int32))] (.int (0 : Int32)) := Arv.set Ar2 q2 S2 N2 H2 G2 fn2 W2 0 rfl (Nat.le_of_ble_eq_true rfl)
  refine Goes.via (B := T2.setTop (mkF m 33 #[iv (2 : Int32), iv fa, iv fb, iv fc, iv fd] [(.ref b1)])) (fun t k => st2 _ k) ?_
  refine Gv T2 34 [(.ref b1), (.ref b1)] (fun t k => XS.dup X2.here hx rfl (hb hby d_4_33) rfl rfl k) ?_
  refine Gv T2 35 [(.int (1 : Int32)), (.ref b1), (.ref b1)] (fun t k => XS.iconst X2.here hx rfl (hb hby d_4_34) k) ?_
  refine Gv T2 36 [(.int fb), (.int (1 : Int32)), (.ref b1), (.ref b1)] (fun t k => XS.iloadN X2.here hx rfl (hb hby d_4_35) rfl k) ?_
  obtain ⟨cl3, Ar3, q3, S3, N3, H3, G3⟩ := id V2
  obtain ⟨T3, h3, X3, e3, W3, st3⟩ := stC X2 hx hZ e2 Ar3 (j := (1 : Int32)) (inb_of S3 ⟨by decide, by decide⟩) (g := (mkF m 36 #[iv (2 : Int32), iv fa, iv fb, iv fc, iv fd] [(.int fb), (.int (1 : Int32)), (.ref b1), (.ref b1)])) rfl rfl (hb hby d_4_36)
  have wn3 : nar .char fb = fb := own_i2c hfb
  have fn3 : fits .char (.int fb) = true := by rw [← wn3]; exact fits_nar_char _
  rw [wn3] at W3
  have Nf3 := Fr.snoc X3 Nf2 gn1
  have V3 : Arv Z h3 b1 k1 .char (2 : Int32) [(.int fa), (.int fb)] (.int (0 : Int32)) := Arv.set Ar3 q3 S3 N3 H3 G3 fn3 W3 1 rfl (Nat.le_of_ble_eq_true rfl)
  refine Goes.via (B := T3.setTop (mkF m 37 #[iv (2 : Int32), iv fa, iv fb, iv fc, iv fd] [(.ref b1)])) (fun t k => st3 _ k) ?_
  exact finA (Q := (own_Q28 Z fa fb fc fd h0 n0)) (F := FrameEnd) (C := ((Rm 0 1 2 0)).cells) (S := ((Rm 0 1 2 0)).slots) X3 hx Bd.returns rfl rfl rfl (hb hby d_4_37) e3 ⟨b1, k1, rfl, Nf3, ((((Keep.refl h0 []).ext E1).wr W2 (Or.inr gs1)).wr W3 (Or.inr gs1)), gs1, V3⟩ (lvN X3 hlk (by decide) (by decide))
theorem d_4_38 : decode method_4_code 38 = .ok (.iload_n 0, 1) := by decide +kernel
theorem d_4_39 : decode method_4_code 39 = .ok (.iconst 3, 1) := by decide +kernel
theorem d_4_40 : decode method_4_code 40 = .ok (.if_icmp .ne 19, 3) := by decide +kernel
theorem d_4_43 : decode method_4_code 43 = .ok (.iconst 3, 1) := by decide +kernel
theorem d_4_44 : decode method_4_code 44 = .ok (.newarray .char, 2) := by decide +kernel
theorem d_4_46 : decode method_4_code 46 = .ok (.dup, 1) := by decide +kernel
theorem d_4_47 : decode method_4_code 47 = .ok (.iconst 0, 1) := by decide +kernel
theorem d_4_48 : decode method_4_code 48 = .ok (.iload_n 1, 1) := by decide +kernel
theorem d_4_49 : decode method_4_code 49 = .ok (.castore, 1) := by decide +kernel
theorem d_4_50 : decode method_4_code 50 = .ok (.dup, 1) := by decide +kernel
theorem d_4_51 : decode method_4_code 51 = .ok (.iconst 1, 1) := by decide +kernel
theorem d_4_52 : decode method_4_code 52 = .ok (.iload_n 2, 1) := by decide +kernel
theorem d_4_53 : decode method_4_code 53 = .ok (.castore, 1) := by decide +kernel
theorem d_4_54 : decode method_4_code 54 = .ok (.dup, 1) := by decide +kernel
theorem d_4_55 : decode method_4_code 55 = .ok (.iconst 2, 1) := by decide +kernel
theorem d_4_56 : decode method_4_code 56 = .ok (.iload_n 3, 1) := by decide +kernel
theorem d_4_57 : decode method_4_code 57 = .ok (.castore, 1) := by decide +kernel
theorem d_4_58 : decode method_4_code 58 = .ok (.areturn, 1) := by decide +kernel
theorem own_ef29 (m : MethodId) (x0 : Int32) (x1 : Int32) (x2 : Int32) (x3 : Int32) (x4 : Int32)  : entryFrame m #[(.int x0), (.int x1), (.int x2), (.int x3), (.int x4)] 5 = mkF m 0 #[iv x0, iv x1, iv x2, iv x3, iv x4] [] := by first | (simp [entryFrame, mkF, argsToLocals, Value.category]; done) | rfl
abbrev own_Q29 (Z : State) (fa : Int32) (fb : Int32) (fc : Int32) (fd : Int32) (h0 : Heap) (n0 : Nat) (v : Option Value) (h : Heap) (L : List Loc) : Prop := ∃ r : Addr, ∃ kr : ClassId, v = some (.ref r) ∧ Fr n0 L ∧ Keep h0 h [] ∧ h0.size ≤ r ∧ Arv Z h r kr .char (3 : Int32) [(.int fa), (.int fb), (.int fc)] (.int (0 : Int32))
set_option maxRecDepth 65536 in
set_option maxHeartbeats 40000000 in
theorem own_m29 (l : Launch) (Z : State) (a0 : Array Value) (hw : ∀ d ∈ tables_1, d.before a0 Z = true) (ws : List Jvm.Cond) (fa : Int32) (fb : Int32) (fc : Int32) (fd : Int32) (h0 : Heap) (n0 : Nat) (O0 : Old Z n0 h0) (hfa : ¬ fa < (0 : Int32) ∧ ¬ (255 : Int32) < fa) (hfb : ¬ fb < (0 : Int32) ∧ ¬ (255 : Int32) < fb) (hfc : ¬ fc < (0 : Int32) ∧ ¬ (255 : Int32) < fc) (hfd : ¬ fd < (0 : Int32) ∧ ¬ (255 : Int32) < fd) :
    Ctr l Z (⟨"com/example/castellan/castellan/config/AssuranceLevelNamedPinLaw", "free", "(ICCCC)[C"⟩ : MethodName) method_4_code 5 (some (.array .char)) (Rm 0 1 3 0) #[(.int (3 : Int32)), (.int fa), (.int fb), (.int fc), (.int fd)] h0 (own_Q29 Z fa fb fc fd h0 n0) ws := by
  refine MetFree.of_bodySF (plainFor_of_name own_pn4) hisR ?_
  intro p e s m args below meth c s₁ Bd hml0 hP hK
  obtain ⟨rfl, hZ, hh⟩ := hP
  have hx := Bd.exec
  have hby := Bd.bytes
  have hlk : meth.locks = false := Bd.notSynchronized
  have hml : c.maxLocals = 5 := hml0
  have hown : s.vm.findClass "com/example/castellan/castellan/config/AssuranceLevelNamedPinLaw" = some m.cls := findClass_of_methodNamed Bd.named
  have hnm := (name_of_methodNamed Bd.named Bd.method).1
  have X0 : Stand p l e (Rm 0 1 3 0) s m #[(.int (3 : Int32)), (.int fa), (.int fb), (.int fc), (.int fd)] below meth c s₁ [] 0 0 := Stand.of_body Bd
  have e0 : s₁.heap = h0 := by rw [← hh, Bd.state]; rfl
  have N0 := Fr.nil n0
  show Goes p.tables e below (fun t o => ∃ v L, o = .returned v ∧ (own_Q29 Z fa fb fc fd h0 n0) v t.heap L ∧ FrameEnd s o t L ((Rm 0 1 3 0)).cells ((Rm 0 1 3 0)).slots) _
  refine Goes.via (B := s₁.setTop (mkF m 0 #[iv (3 : Int32), iv fa, iv fb, iv fc, iv fd] [])) (fun t k => castTop (own_ef29 m (3 : Int32) fa fb fc fd) k) ?_
  refine Gv s₁ 1 [(.int (3 : Int32))] (fun t k => XS.iloadN X0.here hx rfl (hb hby d_4_0) rfl k) ?_
  refine Gv s₁ 8 [] (fun t k => XS.ifYes X0.here hx rfl (pc0 := 1) (pc' := 8) rfl (hb hby d_4_1) rfl (XT.i0_ne_t (by decide)) (by decide) (by decide) k) ?_
  refine Gv s₁ 9 [(.int (3 : Int32))] (fun t k => XS.iloadN X0.here hx rfl (hb hby d_4_8) rfl k) ?_
  refine Gv s₁ 10 [(.int (1 : Int32)), (.int (3 : Int32))] (fun t k => XS.iconst X0.here hx rfl (hb hby d_4_9) k) ?_
  refine Gv s₁ 21 [] (fun t k => XS.icmpYes X0.here hx rfl (pc0 := 10) (pc' := 21) rfl (hb hby d_4_10) rfl (XT.ii_ne_t (by decide)) (by decide) (by decide) k) ?_
  refine Gv s₁ 22 [(.int (3 : Int32))] (fun t k => XS.iloadN X0.here hx rfl (hb hby d_4_21) rfl k) ?_
  refine Gv s₁ 23 [(.int (2 : Int32)), (.int (3 : Int32))] (fun t k => XS.iconst X0.here hx rfl (hb hby d_4_22) k) ?_
  refine Gv s₁ 38 [] (fun t k => XS.icmpYes X0.here hx rfl (pc0 := 23) (pc' := 38) rfl (hb hby d_4_23) rfl (XT.ii_ne_t (by decide)) (by decide) (by decide) k) ?_
  refine Gv s₁ 39 [(.int (3 : Int32))] (fun t k => XS.iloadN X0.here hx rfl (hb hby d_4_38) rfl k) ?_
  refine Gv s₁ 40 [(.int (3 : Int32)), (.int (3 : Int32))] (fun t k => XS.iconst X0.here hx rfl (hb hby d_4_39) k) ?_
  refine Gv s₁ 43 [] (fun t k => XS.icmpNo X0.here hx rfl (hb hby d_4_40) rfl (XT.ii_ne_f rfl) k) ?_
  refine Gv s₁ 44 [(.int (3 : Int32))] (fun t k => XS.iconst X0.here hx rfl (hb hby d_4_43) k) ?_
  obtain ⟨T1, h1, k1, X1, e1, E1, A1, st1⟩ := newP X0 hx hZ (W_ hw 4 rfl) e0 (g := (mkF m 44 #[iv (3 : Int32), iv fa, iv fb, iv fc, iv fd] [(.int (3 : Int32))])) rfl (hb hby d_4_44) rfl (by decide) (cap := 3) (by decide) (by decide) (by decide) (by decide)
  obtain ⟨b1, g1⟩ : ∃ z, z = h0.size := ⟨_, rfl⟩
  rw [← g1] at A1 st1
  have gn1 : n0 ≤ b1 := Nat.le_trans (old_le O0) (Nat.le_of_eq g1.symm)
  have gs1 : h0.size ≤ b1 := Nat.le_trans (Keep.refl h0 []).1 (Nat.le_of_eq g1.symm)
  have V1 : Arv Z h1 b1 k1 .char (3 : Int32) [(.int (0 : Int32)), (.int (0 : Int32)), (.int (0 : Int32))] (.int (0 : Int32)) := (Arv.new A1 (by decide)).pad (pad_rep [] (.int (0 : Int32)) 3)
  refine Goes.via (B := T1.setTop (mkF m 46 #[iv (3 : Int32), iv fa, iv fb, iv fc, iv fd] [(.ref b1)])) (fun t k => st1 _ k) ?_
  refine Gv T1 47 [(.ref b1), (.ref b1)] (fun t k => XS.dup X1.here hx rfl (hb hby d_4_46) rfl rfl k) ?_
  refine Gv T1 48 [(.int (0 : Int32)), (.ref b1), (.ref b1)] (fun t k => XS.iconst X1.here hx rfl (hb hby d_4_47) k) ?_
  refine Gv T1 49 [(.int fa), (.int (0 : Int32)), (.ref b1), (.ref b1)] (fun t k => XS.iloadN X1.here hx rfl (hb hby d_4_48) rfl k) ?_
  obtain ⟨cl2, Ar2, q2, S2, N2, H2, G2⟩ := id V1
  obtain ⟨T2, h2, X2, e2, W2, st2⟩ := stC X1 hx hZ e1 Ar2 (j := (0 : Int32)) (inb_of S2 ⟨by decide, by decide⟩) (g := (mkF m 49 #[iv (3 : Int32), iv fa, iv fb, iv fc, iv fd] [(.int fa), (.int (0 : Int32)), (.ref b1), (.ref b1)])) rfl rfl (hb hby d_4_49)
  have wn2 : nar .char fa = fa := own_i2c hfa
  have fn2 : fits .char (.int fa) = true := by rw [← wn2]; exact fits_nar_char _
  rw [wn2] at W2
  have Nf2 := Fr.snoc X2 N0 gn1
  have V2 : Arv Z h2 b1 k1 .char (3 : Int32) [(.int fa), (.int (0 : Int32)), (.int (0 : Int32))] (.int (0 : Int32)) := Arv.set Ar2 q2 S2 N2 H2 G2 fn2 W2 0 rfl (Nat.le_of_ble_eq_true rfl)
  refine Goes.via (B := T2.setTop (mkF m 50 #[iv (3 : Int32), iv fa, iv fb, iv fc, iv fd] [(.ref b1)])) (fun t k => st2 _ k) ?_
  refine Gv T2 51 [(.ref b1), (.ref b1)] (fun t k => XS.dup X2.here hx rfl (hb hby d_4_50) rfl rfl k) ?_
  refine Gv T2 52 [(.int (1 : Int32)), (.ref b1), (.ref b1)] (fun t k => XS.iconst X2.here hx rfl (hb hby d_4_51) k) ?_
  refine Gv T2 53 [(.int fb), (.int (1 : Int32)), (.ref b1), (.ref b1)] (fun t k => XS.iloadN X2.here hx rfl (hb hby d_4_52) rfl k) ?_
  obtain ⟨cl3, Ar3, q3, S3, N3, H3, G3⟩ := id V2
  obtain ⟨T3, h3, X3, e3, W3, st3⟩ := stC X2 hx hZ e2 Ar3 (j := (1 : Int32)) (inb_of S3 ⟨by decide, by decide⟩) (g := (mkF m 53 #[iv (3 : Int32), iv fa, iv fb, iv fc, iv fd] [(.int fb), (.int (1 : Int32)), (.ref b1), (.ref b1)])) rfl rfl (hb hby d_4_53)
  have wn3 : nar .char fb = fb := own_i2c hfb
  have fn3 : fits .char (.int fb) = true := by rw [← wn3]; exact fits_nar_char _
  rw [wn3] at W3
  have Nf3 := Fr.snoc X3 Nf2 gn1
  have V3 : Arv Z h3 b1 k1 .char (3 : Int32) [(.int fa), (.int fb), (.int (0 : Int32))] (.int (0 : Int32)) := Arv.set Ar3 q3 S3 N3 H3 G3 fn3 W3 1 rfl (Nat.le_of_ble_eq_true rfl)
  refine Goes.via (B := T3.setTop (mkF m 54 #[iv (3 : Int32), iv fa, iv fb, iv fc, iv fd] [(.ref b1)])) (fun t k => st3 _ k) ?_
  refine Gv T3 55 [(.ref b1), (.ref b1)] (fun t k => XS.dup X3.here hx rfl (hb hby d_4_54) rfl rfl k) ?_
  refine Gv T3 56 [(.int (2 : Int32)), (.ref b1), (.ref b1)] (fun t k => XS.iconst X3.here hx rfl (hb hby d_4_55) k) ?_
  refine Gv T3 57 [(.int fc), (.int (2 : Int32)), (.ref b1), (.ref b1)] (fun t k => XS.iloadN X3.here hx rfl (hb hby d_4_56) rfl k) ?_
  obtain ⟨cl4, Ar4, q4, S4, N4, H4, G4⟩ := id V3
  obtain ⟨T4, h4, X4, e4, W4, st4⟩ := stC X3 hx hZ e3 Ar4 (j := (2 : Int32)) (inb_of S4 ⟨by decide, by decide⟩) (g := (mkF m 57 #[iv (3 : Int32), iv fa, iv fb, iv fc, iv fd] [(.int fc), (.int (2 : Int32)), (.ref b1), (.ref b1)])) rfl rfl (hb hby d_4_57)
  have wn4 : nar .char fc = fc := own_i2c hfc
  have fn4 : fits .char (.int fc) = true := by rw [← wn4]; exact fits_nar_char _
  rw [wn4] at W4
  have Nf4 := Fr.snoc X4 Nf3 gn1
  have V4 : Arv Z h4 b1 k1 .char (3 : Int32) [(.int fa), (.int fb), (.int fc)] (.int (0 : Int32)) := Arv.set Ar4 q4 S4 N4 H4 G4 fn4 W4 2 rfl (Nat.le_of_ble_eq_true rfl)
  refine Goes.via (B := T4.setTop (mkF m 58 #[iv (3 : Int32), iv fa, iv fb, iv fc, iv fd] [(.ref b1)])) (fun t k => st4 _ k) ?_
  exact finA (Q := (own_Q29 Z fa fb fc fd h0 n0)) (F := FrameEnd) (C := ((Rm 0 1 3 0)).cells) (S := ((Rm 0 1 3 0)).slots) X4 hx Bd.returns rfl rfl rfl (hb hby d_4_58) e4 ⟨b1, k1, rfl, Nf4, (((((Keep.refl h0 []).ext E1).wr W2 (Or.inr gs1)).wr W3 (Or.inr gs1)).wr W4 (Or.inr gs1)), gs1, V4⟩ (lvN X4 hlk (by decide) (by decide))
theorem d_4_59 : decode method_4_code 59 = .ok (.iconst 4, 1) := by decide +kernel
theorem d_4_60 : decode method_4_code 60 = .ok (.newarray .char, 2) := by decide +kernel
theorem d_4_62 : decode method_4_code 62 = .ok (.dup, 1) := by decide +kernel
theorem d_4_63 : decode method_4_code 63 = .ok (.iconst 0, 1) := by decide +kernel
theorem d_4_64 : decode method_4_code 64 = .ok (.iload_n 1, 1) := by decide +kernel
theorem d_4_65 : decode method_4_code 65 = .ok (.castore, 1) := by decide +kernel
theorem d_4_66 : decode method_4_code 66 = .ok (.dup, 1) := by decide +kernel
theorem d_4_67 : decode method_4_code 67 = .ok (.iconst 1, 1) := by decide +kernel
theorem d_4_68 : decode method_4_code 68 = .ok (.iload_n 2, 1) := by decide +kernel
theorem d_4_69 : decode method_4_code 69 = .ok (.castore, 1) := by decide +kernel
theorem d_4_70 : decode method_4_code 70 = .ok (.dup, 1) := by decide +kernel
theorem d_4_71 : decode method_4_code 71 = .ok (.iconst 2, 1) := by decide +kernel
theorem d_4_72 : decode method_4_code 72 = .ok (.iload_n 3, 1) := by decide +kernel
theorem d_4_73 : decode method_4_code 73 = .ok (.castore, 1) := by decide +kernel
theorem d_4_74 : decode method_4_code 74 = .ok (.dup, 1) := by decide +kernel
theorem d_4_75 : decode method_4_code 75 = .ok (.iconst 3, 1) := by decide +kernel
theorem d_4_76 : decode method_4_code 76 = .ok (.iload 4, 2) := by decide +kernel
theorem d_4_78 : decode method_4_code 78 = .ok (.castore, 1) := by decide +kernel
theorem d_4_79 : decode method_4_code 79 = .ok (.areturn, 1) := by decide +kernel
theorem own_ef30 (m : MethodId) (x0 : Int32) (x1 : Int32) (x2 : Int32) (x3 : Int32) (x4 : Int32)  : entryFrame m #[(.int x0), (.int x1), (.int x2), (.int x3), (.int x4)] 5 = mkF m 0 #[iv x0, iv x1, iv x2, iv x3, iv x4] [] := by first | (simp [entryFrame, mkF, argsToLocals, Value.category]; done) | rfl
abbrev own_Q30 (Z : State) (fa : Int32) (fb : Int32) (fc : Int32) (fd : Int32) (h0 : Heap) (n0 : Nat) (v : Option Value) (h : Heap) (L : List Loc) : Prop := ∃ r : Addr, ∃ kr : ClassId, v = some (.ref r) ∧ Fr n0 L ∧ Keep h0 h [] ∧ h0.size ≤ r ∧ Arv Z h r kr .char (4 : Int32) [(.int fa), (.int fb), (.int fc), (.int fd)] (.int (0 : Int32))
set_option maxRecDepth 65536 in
set_option maxHeartbeats 40000000 in
theorem own_m30 (l : Launch) (Z : State) (a0 : Array Value) (hw : ∀ d ∈ tables_1, d.before a0 Z = true) (ws : List Jvm.Cond) (fa : Int32) (fb : Int32) (fc : Int32) (fd : Int32) (h0 : Heap) (n0 : Nat) (O0 : Old Z n0 h0) (hfa : ¬ fa < (0 : Int32) ∧ ¬ (255 : Int32) < fa) (hfb : ¬ fb < (0 : Int32) ∧ ¬ (255 : Int32) < fb) (hfc : ¬ fc < (0 : Int32) ∧ ¬ (255 : Int32) < fc) (hfd : ¬ fd < (0 : Int32) ∧ ¬ (255 : Int32) < fd) :
    Ctr l Z (⟨"com/example/castellan/castellan/config/AssuranceLevelNamedPinLaw", "free", "(ICCCC)[C"⟩ : MethodName) method_4_code 5 (some (.array .char)) (Rm 0 1 4 0) #[(.int (4 : Int32)), (.int fa), (.int fb), (.int fc), (.int fd)] h0 (own_Q30 Z fa fb fc fd h0 n0) ws := by
  refine MetFree.of_bodySF (plainFor_of_name own_pn4) hisR ?_
  intro p e s m args below meth c s₁ Bd hml0 hP hK
  obtain ⟨rfl, hZ, hh⟩ := hP
  have hx := Bd.exec
  have hby := Bd.bytes
  have hlk : meth.locks = false := Bd.notSynchronized
  have hml : c.maxLocals = 5 := hml0
  have hown : s.vm.findClass "com/example/castellan/castellan/config/AssuranceLevelNamedPinLaw" = some m.cls := findClass_of_methodNamed Bd.named
  have hnm := (name_of_methodNamed Bd.named Bd.method).1
  have X0 : Stand p l e (Rm 0 1 4 0) s m #[(.int (4 : Int32)), (.int fa), (.int fb), (.int fc), (.int fd)] below meth c s₁ [] 0 0 := Stand.of_body Bd
  have e0 : s₁.heap = h0 := by rw [← hh, Bd.state]; rfl
  have N0 := Fr.nil n0
  show Goes p.tables e below (fun t o => ∃ v L, o = .returned v ∧ (own_Q30 Z fa fb fc fd h0 n0) v t.heap L ∧ FrameEnd s o t L ((Rm 0 1 4 0)).cells ((Rm 0 1 4 0)).slots) _
  refine Goes.via (B := s₁.setTop (mkF m 0 #[iv (4 : Int32), iv fa, iv fb, iv fc, iv fd] [])) (fun t k => castTop (own_ef30 m (4 : Int32) fa fb fc fd) k) ?_
  refine Gv s₁ 1 [(.int (4 : Int32))] (fun t k => XS.iloadN X0.here hx rfl (hb hby d_4_0) rfl k) ?_
  refine Gv s₁ 8 [] (fun t k => XS.ifYes X0.here hx rfl (pc0 := 1) (pc' := 8) rfl (hb hby d_4_1) rfl (XT.i0_ne_t (by decide)) (by decide) (by decide) k) ?_
  refine Gv s₁ 9 [(.int (4 : Int32))] (fun t k => XS.iloadN X0.here hx rfl (hb hby d_4_8) rfl k) ?_
  refine Gv s₁ 10 [(.int (1 : Int32)), (.int (4 : Int32))] (fun t k => XS.iconst X0.here hx rfl (hb hby d_4_9) k) ?_
  refine Gv s₁ 21 [] (fun t k => XS.icmpYes X0.here hx rfl (pc0 := 10) (pc' := 21) rfl (hb hby d_4_10) rfl (XT.ii_ne_t (by decide)) (by decide) (by decide) k) ?_
  refine Gv s₁ 22 [(.int (4 : Int32))] (fun t k => XS.iloadN X0.here hx rfl (hb hby d_4_21) rfl k) ?_
  refine Gv s₁ 23 [(.int (2 : Int32)), (.int (4 : Int32))] (fun t k => XS.iconst X0.here hx rfl (hb hby d_4_22) k) ?_
  refine Gv s₁ 38 [] (fun t k => XS.icmpYes X0.here hx rfl (pc0 := 23) (pc' := 38) rfl (hb hby d_4_23) rfl (XT.ii_ne_t (by decide)) (by decide) (by decide) k) ?_
  refine Gv s₁ 39 [(.int (4 : Int32))] (fun t k => XS.iloadN X0.here hx rfl (hb hby d_4_38) rfl k) ?_
  refine Gv s₁ 40 [(.int (3 : Int32)), (.int (4 : Int32))] (fun t k => XS.iconst X0.here hx rfl (hb hby d_4_39) k) ?_
  refine Gv s₁ 59 [] (fun t k => XS.icmpYes X0.here hx rfl (pc0 := 40) (pc' := 59) rfl (hb hby d_4_40) rfl (XT.ii_ne_t (by decide)) (by decide) (by decide) k) ?_
  refine Gv s₁ 60 [(.int (4 : Int32))] (fun t k => XS.iconst X0.here hx rfl (hb hby d_4_59) k) ?_
  obtain ⟨T1, h1, k1, X1, e1, E1, A1, st1⟩ := newP X0 hx hZ (W_ hw 4 rfl) e0 (g := (mkF m 60 #[iv (4 : Int32), iv fa, iv fb, iv fc, iv fd] [(.int (4 : Int32))])) rfl (hb hby d_4_60) rfl (by decide) (cap := 4) (by decide) (by decide) (by decide) (by decide)
  obtain ⟨b1, g1⟩ : ∃ z, z = h0.size := ⟨_, rfl⟩
  rw [← g1] at A1 st1
  have gn1 : n0 ≤ b1 := Nat.le_trans (old_le O0) (Nat.le_of_eq g1.symm)
  have gs1 : h0.size ≤ b1 := Nat.le_trans (Keep.refl h0 []).1 (Nat.le_of_eq g1.symm)
  have V1 : Arv Z h1 b1 k1 .char (4 : Int32) [(.int (0 : Int32)), (.int (0 : Int32)), (.int (0 : Int32)), (.int (0 : Int32))] (.int (0 : Int32)) := (Arv.new A1 (by decide)).pad (pad_rep [] (.int (0 : Int32)) 4)
  refine Goes.via (B := T1.setTop (mkF m 62 #[iv (4 : Int32), iv fa, iv fb, iv fc, iv fd] [(.ref b1)])) (fun t k => st1 _ k) ?_
  refine Gv T1 63 [(.ref b1), (.ref b1)] (fun t k => XS.dup X1.here hx rfl (hb hby d_4_62) rfl rfl k) ?_
  refine Gv T1 64 [(.int (0 : Int32)), (.ref b1), (.ref b1)] (fun t k => XS.iconst X1.here hx rfl (hb hby d_4_63) k) ?_
  refine Gv T1 65 [(.int fa), (.int (0 : Int32)), (.ref b1), (.ref b1)] (fun t k => XS.iloadN X1.here hx rfl (hb hby d_4_64) rfl k) ?_
  obtain ⟨cl2, Ar2, q2, S2, N2, H2, G2⟩ := id V1
  obtain ⟨T2, h2, X2, e2, W2, st2⟩ := stC X1 hx hZ e1 Ar2 (j := (0 : Int32)) (inb_of S2 ⟨by decide, by decide⟩) (g := (mkF m 65 #[iv (4 : Int32), iv fa, iv fb, iv fc, iv fd] [(.int fa), (.int (0 : Int32)), (.ref b1), (.ref b1)])) rfl rfl (hb hby d_4_65)
  have wn2 : nar .char fa = fa := own_i2c hfa
  have fn2 : fits .char (.int fa) = true := by rw [← wn2]; exact fits_nar_char _
  rw [wn2] at W2
  have Nf2 := Fr.snoc X2 N0 gn1
  have V2 : Arv Z h2 b1 k1 .char (4 : Int32) [(.int fa), (.int (0 : Int32)), (.int (0 : Int32)), (.int (0 : Int32))] (.int (0 : Int32)) := Arv.set Ar2 q2 S2 N2 H2 G2 fn2 W2 0 rfl (Nat.le_of_ble_eq_true rfl)
  refine Goes.via (B := T2.setTop (mkF m 66 #[iv (4 : Int32), iv fa, iv fb, iv fc, iv fd] [(.ref b1)])) (fun t k => st2 _ k) ?_
  refine Gv T2 67 [(.ref b1), (.ref b1)] (fun t k => XS.dup X2.here hx rfl (hb hby d_4_66) rfl rfl k) ?_
  refine Gv T2 68 [(.int (1 : Int32)), (.ref b1), (.ref b1)] (fun t k => XS.iconst X2.here hx rfl (hb hby d_4_67) k) ?_
  refine Gv T2 69 [(.int fb), (.int (1 : Int32)), (.ref b1), (.ref b1)] (fun t k => XS.iloadN X2.here hx rfl (hb hby d_4_68) rfl k) ?_
  obtain ⟨cl3, Ar3, q3, S3, N3, H3, G3⟩ := id V2
  obtain ⟨T3, h3, X3, e3, W3, st3⟩ := stC X2 hx hZ e2 Ar3 (j := (1 : Int32)) (inb_of S3 ⟨by decide, by decide⟩) (g := (mkF m 69 #[iv (4 : Int32), iv fa, iv fb, iv fc, iv fd] [(.int fb), (.int (1 : Int32)), (.ref b1), (.ref b1)])) rfl rfl (hb hby d_4_69)
  have wn3 : nar .char fb = fb := own_i2c hfb
  have fn3 : fits .char (.int fb) = true := by rw [← wn3]; exact fits_nar_char _
  rw [wn3] at W3
  have Nf3 := Fr.snoc X3 Nf2 gn1
  have V3 : Arv Z h3 b1 k1 .char (4 : Int32) [(.int fa), (.int fb), (.int (0 : Int32)), (.int (0 : Int32))] (.int (0 : Int32)) := Arv.set Ar3 q3 S3 N3 H3 G3 fn3 W3 1 rfl (Nat.le_of_ble_eq_true rfl)
  refine Goes.via (B := T3.setTop (mkF m 70 #[iv (4 : Int32), iv fa, iv fb, iv fc, iv fd] [(.ref b1)])) (fun t k => st3 _ k) ?_
  refine Gv T3 71 [(.ref b1), (.ref b1)] (fun t k => XS.dup X3.here hx rfl (hb hby d_4_70) rfl rfl k) ?_
  refine Gv T3 72 [(.int (2 : Int32)), (.ref b1), (.ref b1)] (fun t k => XS.iconst X3.here hx rfl (hb hby d_4_71) k) ?_
  refine Gv T3 73 [(.int fc), (.int (2 : Int32)), (.ref b1), (.ref b1)] (fun t k => XS.iloadN X3.here hx rfl (hb hby d_4_72) rfl k) ?_
  obtain ⟨cl4, Ar4, q4, S4, N4, H4, G4⟩ := id V3
  obtain ⟨T4, h4, X4, e4, W4, st4⟩ := stC X3 hx hZ e3 Ar4 (j := (2 : Int32)) (inb_of S4 ⟨by decide, by decide⟩) (g := (mkF m 73 #[iv (4 : Int32), iv fa, iv fb, iv fc, iv fd] [(.int fc), (.int (2 : Int32)), (.ref b1), (.ref b1)])) rfl rfl (hb hby d_4_73)
  have wn4 : nar .char fc = fc := own_i2c hfc
  have fn4 : fits .char (.int fc) = true := by rw [← wn4]; exact fits_nar_char _
  rw [wn4] at W4
  have Nf4 := Fr.snoc X4 Nf3 gn1
  have V4 : Arv Z h4 b1 k1 .char (4 : Int32) [(.int fa), (.int fb), (.int fc), (.int (0 : Int32))] (.int (0 : Int32)) := Arv.set Ar4 q4 S4 N4 H4 G4 fn4 W4 2 rfl (Nat.le_of_ble_eq_true rfl)
  refine Goes.via (B := T4.setTop (mkF m 74 #[iv (4 : Int32), iv fa, iv fb, iv fc, iv fd] [(.ref b1)])) (fun t k => st4 _ k) ?_
  refine Gv T4 75 [(.ref b1), (.ref b1)] (fun t k => XS.dup X4.here hx rfl (hb hby d_4_74) rfl rfl k) ?_
  refine Gv T4 76 [(.int (3 : Int32)), (.ref b1), (.ref b1)] (fun t k => XS.iconst X4.here hx rfl (hb hby d_4_75) k) ?_
  refine Gv T4 78 [(.int fd), (.int (3 : Int32)), (.ref b1), (.ref b1)] (fun t k => XS.iload X4.here hx rfl (hb hby d_4_76) rfl k) ?_
  obtain ⟨cl5, Ar5, q5, S5, N5, H5, G5⟩ := id V4
  obtain ⟨T5, h5, X5, e5, W5, st5⟩ := stC X4 hx hZ e4 Ar5 (j := (3 : Int32)) (inb_of S5 ⟨by decide, by decide⟩) (g := (mkF m 78 #[iv (4 : Int32), iv fa, iv fb, iv fc, iv fd] [(.int fd), (.int (3 : Int32)), (.ref b1), (.ref b1)])) rfl rfl (hb hby d_4_78)
  have wn5 : nar .char fd = fd := own_i2c hfd
  have fn5 : fits .char (.int fd) = true := by rw [← wn5]; exact fits_nar_char _
  rw [wn5] at W5
  have Nf5 := Fr.snoc X5 Nf4 gn1
  have V5 : Arv Z h5 b1 k1 .char (4 : Int32) [(.int fa), (.int fb), (.int fc), (.int fd)] (.int (0 : Int32)) := Arv.set Ar5 q5 S5 N5 H5 G5 fn5 W5 3 rfl (Nat.le_of_ble_eq_true rfl)
  refine Goes.via (B := T5.setTop (mkF m 79 #[iv (4 : Int32), iv fa, iv fb, iv fc, iv fd] [(.ref b1)])) (fun t k => st5 _ k) ?_
  exact finA (Q := (own_Q30 Z fa fb fc fd h0 n0)) (F := FrameEnd) (C := ((Rm 0 1 4 0)).cells) (S := ((Rm 0 1 4 0)).slots) X5 hx Bd.returns rfl rfl rfl (hb hby d_4_79) e5 ⟨b1, k1, rfl, Nf5, ((((((Keep.refl h0 []).ext E1).wr W2 (Or.inr gs1)).wr W3 (Or.inr gs1)).wr W4 (Or.inr gs1)).wr W5 (Or.inr gs1)), gs1, V5⟩ (lvN X5 hlk (by decide) (by decide))
theorem own_pd7 : parseMethodDescriptor "(Ljava/lang/String;)Ljava/util/Optional;" = some ⟨[(.object "java/lang/String")], some (.object "java/util/Optional")⟩ := by decide +kernel
theorem own_pd8 : parseMethodDescriptor "()Z" = some ⟨[], some .boolean⟩ := by decide +kernel
theorem own_pd9 : parseMethodDescriptor "()Ljava/lang/Object;" = some ⟨[], some (.object "java/lang/Object")⟩ := by decide +kernel
theorem own_pd10 : parseMethodDescriptor "(IIC)[C" = some ⟨[.int, .int, .char], some (.array .char)⟩ := by decide +kernel
theorem own_hw_words {a0 : Array Value} {Z : State} (hw : ∀ d ∈ tables_1, d.before a0 Z = true) : ∀ d ∈ StrChars.Road.words, d.before a0 Z = true := fun d hd => hw d ((by decide +kernel : ∀ d ∈ StrChars.Road.words, d ∈ tables_1) d hd)
theorem own_pd11 : parseMethodDescriptor "([C)V" = some ⟨[(.array .char)], none⟩ := by decide +kernel
theorem own_pd12 : parseMethodDescriptor "(ICCCC)[C" = some ⟨[.int, .char, .char, .char, .char], some (.array .char)⟩ := by decide +kernel
theorem own_ef31 (m : MethodId) (x0 : Int32) (x1 : Int32) (x2 : Int32) (x3 : Int64)  : entryFrame m #[(.int x0), (.int x1), (.int x2), (.long x3)] maxLocals = mkF m 0 #[iv x0, iv x1, iv x2, lv_ x3, s_, u_, u_, u_, u_, u_, u_, u_, u_, u_, u_] [] := by first | (simp [entryFrame, mkF, argsToLocals, Value.category, maxLocals]; done) | rfl
abbrev own_Q31 (Z : State) (x1 : Int32) (x2 : Int32) (x3 : Int32) (x4 : Int64) (z0 : Int32) (oe : Addr) (va : Addr) (kv : ClassId) (aL : Addr) (sL : Addr) (tL : Addr) (kL : ClassId) (aS : Addr) (sS : Addr) (tS : Addr) (kS : ClassId) (aH : Addr) (sH : Addr) (tH : Addr) (kH : ClassId) (h0 : Heap) (n0 : Nat) (v : Option Value) (h : Heap) (L : List Loc) : Prop := v = some (.int (1 : Int32)) ∧ Fr n0 L ∧ True
set_option maxRecDepth 65536 in
set_option maxHeartbeats 40000000 in
theorem own_m31 (l : Launch) (Z : State) (a0 : Array Value) (hw : ∀ d ∈ tables_1, d.before a0 Z = true) (ws : List Jvm.Cond) (x1 : Int32) (x2 : Int32) (x3 : Int32) (x4 : Int64) (z0 : Int32) (oe : Addr) (va : Addr) (kv : ClassId) (aL : Addr) (sL : Addr) (tL : Addr) (kL : ClassId) (aS : Addr) (sS : Addr) (tS : Addr) (kS : ClassId) (aH : Addr) (sH : Addr) (tH : Addr) (kH : ClassId) (h0 : Heap) (n0 : Nat) (O0 : Old Z n0 h0) (hz0 : ¬ z0 = (0 : Int32)) (O_1 : Sta Z Z.heap "java/lang/String" "COMPACT_STRINGS" "Z" (.int z0)) (O_2 : Exa Z Z.heap aL "com/example/castellan/castellan/config/AssuranceLevel") (O_3 : Fld Z Z.heap aL "com/example/castellan/castellan/config/AssuranceLevel" "value" "Ljava/lang/String;" (.ref sL)) (O_4 : Exa Z Z.heap sL "java/lang/String") (O_5 : Fld Z Z.heap sL "java/lang/String" "value" "[B" (.ref tL)) (O_6 : Fld Z Z.heap sL "java/lang/String" "coder" "B" (.int (0 : Int32))) (O_7 : Arv Z Z.heap tL kL .byte (Int32.ofNat own_low.length) ((own_low.map StrChars.lo8).map Value.int) (.int 0)) (O_8 : Exa Z Z.heap aS "com/example/castellan/castellan/config/AssuranceLevel") (O_9 : Fld Z Z.heap aS "com/example/castellan/castellan/config/AssuranceLevel" "value" "Ljava/lang/String;" (.ref sS)) (O_10 : Exa Z Z.heap sS "java/lang/String") (O_11 : Fld Z Z.heap sS "java/lang/String" "value" "[B" (.ref tS)) (O_12 : Fld Z Z.heap sS "java/lang/String" "coder" "B" (.int (0 : Int32))) (O_13 : Arv Z Z.heap tS kS .byte (Int32.ofNat own_sub.length) ((own_sub.map StrChars.lo8).map Value.int) (.int 0)) (O_14 : Exa Z Z.heap aH "com/example/castellan/castellan/config/AssuranceLevel") (O_15 : Fld Z Z.heap aH "com/example/castellan/castellan/config/AssuranceLevel" "value" "Ljava/lang/String;" (.ref sH)) (O_16 : Exa Z Z.heap sH "java/lang/String") (O_17 : Fld Z Z.heap sH "java/lang/String" "value" "[B" (.ref tH)) (O_18 : Fld Z Z.heap sH "java/lang/String" "coder" "B" (.int (0 : Int32))) (O_19 : Arv Z Z.heap tH kH .byte (Int32.ofNat own_hig.length) ((own_hig.map StrChars.lo8).map Value.int) (.int 0)) (O_20 : Sta Z Z.heap "com/example/castellan/castellan/config/AssuranceLevel" "$VALUES" "[Lcom/example/castellan/castellan/config/AssuranceLevel;" (.ref va)) (O_21 : Exa Z Z.heap va "[Lcom/example/castellan/castellan/config/AssuranceLevel;") (O_22 : Arv Z Z.heap va kv (.object "com/example/castellan/castellan/config/AssuranceLevel") (3 : Int32) [(.ref aL), (.ref aS), (.ref aH)] .null) (O_23 : Sta Z Z.heap "java/util/Optional" "EMPTY" "Ljava/util/Optional;" (.ref oe)) (O_24 : Exa Z Z.heap oe "java/util/Optional") (O_25 : Fld Z Z.heap oe "java/util/Optional" "value" "Ljava/lang/Object;" .null) (O_26 : Sta Z Z.heap "com/example/castellan/castellan/config/AssuranceLevel" "LOW" "Lcom/example/castellan/castellan/config/AssuranceLevel;" (.ref aL)) (O_27 : Sta Z Z.heap "com/example/castellan/castellan/config/AssuranceLevel" "SUBSTANTIAL" "Lcom/example/castellan/castellan/config/AssuranceLevel;" (.ref aS)) (O_28 : Sta Z Z.heap "com/example/castellan/castellan/config/AssuranceLevel" "HIGH" "Lcom/example/castellan/castellan/config/AssuranceLevel;" (.ref aH)) :
    CtrH l Z consts_1 [] x code maxLocals ret room_1 #[(.int x1), (.int x2), (.int x3), (.long x4)] h0 (own_Q31 Z x1 x2 x3 x4 z0 oe va kv aL sL tL kL aS sS tS kS aH sH tH kH h0 n0) ws := by
  refine MetFree.of_bodySF (plainFor_of_name own_pn4) hisR ?_
  intro p e s m args below meth c s₁ Bd hml0 hP hK
  obtain ⟨rfl, hZ, hh, hC, hsf⟩ := hP
  have hx := Bd.exec
  have hby := Bd.bytes
  have hlk : meth.locks = false := Bd.notSynchronized
  have hml : c.maxLocals = 15 := hml0
  have hown : s.vm.findClass "com/example/castellan/castellan/config/AssuranceLevelNamedPinLaw" = some m.cls := findClass_of_methodNamed Bd.named
  have hnm := (name_of_methodNamed Bd.named Bd.method).1
  have X0 : Stand p l e room_1 (s.setVm s.vm) m #[(.int x1), (.int x2), (.int x3), (.long x4)] below meth c s₁ [] 0 0 := Stand.of_body Bd
  have hS0 : s.Since s.vm h0.size := (State.WarmedH.refl s).since _
  have hk0 : h0.size ≤ h0.size := Nat.le_refl _
  have hR0 : CHr Z consts_1 s.vm s.heap s.vm h0 := by rw [hh]; exact CHr.refl hC
  have hEL := own_EW hw
  have e0 : s₁.heap = h0 := by rw [← hh, Bd.state]; rfl
  have N0 := Fr.nil n0
  show Goes p.tables e below (fun t o => ∃ v L, o = .returned v ∧ (own_Q31 Z x1 x2 x3 x4 z0 oe va kv aL sL tL kL aS sS tS kS aH sH tH kH h0 n0) v t.heap L ∧ EndH Z consts_1 s o t L (room_1).cells (room_1).slots) _
  refine Goes.via (B := s₁.setTop (mkF m 0 #[iv x1, iv x2, iv x3, lv_ x4, s_, u_, u_, u_, u_, u_, u_, u_, u_, u_, u_] [])) (fun t k => castTop (own_ef31 m x1 x2 x3 x4) k) ?_
  refine Gv s₁ 1 [(.int x1)] (fun t k => XS.iloadN X0.here hx rfl (hb hby at_0) rfl k) ?_
  refine Gv s₁ 2 [(.int (3 : Int32)), (.int x1)] (fun t k => XS.iconst X0.here hx rfl (hb hby at_1) k) ?_
  refine Gv s₁ 3 [(.int (x1 &&& (3 : Int32)))] (fun t k => XS.iand X0.here hx rfl (hb hby at_2) rfl k) ?_
  refine Gv s₁ 5 [] (fun t k => XS.istore X0.here hx rfl (hb hby at_3) rfl (l' := #[iv x1, iv x2, iv x3, lv_ x4, s_, iv (x1 &&& (3 : Int32)), u_, u_, u_, u_, u_, u_, u_, u_, u_]) rfl k) ?_
  refine Gv s₁ 6 [(.int x1)] (fun t k => XS.iloadN X0.here hx rfl (hb hby at_5) rfl k) ?_
  refine Gv s₁ 7 [(.int (2 : Int32)), (.int x1)] (fun t k => XS.iconst X0.here hx rfl (hb hby at_6) k) ?_
  refine Gv s₁ 8 [(.int ((x1.toUInt32 >>> ((2 : Int32) &&& 31).toUInt32).toInt32))] (fun t k => XS.iushr X0.here hx rfl (hb hby at_7) rfl k) ?_
  refine Gv s₁ 9 [(.int (3 : Int32)), (.int ((x1.toUInt32 >>> ((2 : Int32) &&& 31).toUInt32).toInt32))] (fun t k => XS.iconst X0.here hx rfl (hb hby at_8) k) ?_
  refine Gv s₁ 10 [(.int (((x1.toUInt32 >>> ((2 : Int32) &&& 31).toUInt32).toInt32) &&& (3 : Int32)))] (fun t k => XS.iand X0.here hx rfl (hb hby at_9) rfl k) ?_
  refine Gv s₁ 12 [] (fun t k => XS.istore X0.here hx rfl (hb hby at_10) rfl (l' := #[iv x1, iv x2, iv x3, lv_ x4, s_, iv (x1 &&& (3 : Int32)), iv (((x1.toUInt32 >>> ((2 : Int32) &&& 31).toUInt32).toInt32) &&& (3 : Int32)), u_, u_, u_, u_, u_, u_, u_, u_]) rfl k) ?_
  refine Gv s₁ 13 [(.int x3)] (fun t k => XS.iloadN X0.here hx rfl (hb hby at_12) rfl k) ?_
  refine Gv s₁ 16 [(.int (255 : Int32)), (.int x3)] (fun t k => XS.sipush X0.here hx rfl (hb hby at_13) k) ?_
  refine Gv s₁ 17 [(.int (x3 &&& (255 : Int32)))] (fun t k => XS.iand X0.here hx rfl (hb hby at_16) rfl k) ?_
  refine Gv s₁ 18 [(.int ((x3 &&& (255 : Int32)).toUInt32.toUInt16.toUInt32.toInt32))] (fun t k => XS.i2c X0.here hx rfl (hb hby at_17) rfl k) ?_
  refine Gv s₁ 20 [] (fun t k => XS.istore X0.here hx rfl (hb hby at_18) rfl (l' := #[iv x1, iv x2, iv x3, lv_ x4, s_, iv (x1 &&& (3 : Int32)), iv (((x1.toUInt32 >>> ((2 : Int32) &&& 31).toUInt32).toInt32) &&& (3 : Int32)), iv ((x3 &&& (255 : Int32)).toUInt32.toUInt16.toUInt32.toInt32), u_, u_, u_, u_, u_, u_, u_]) rfl k) ?_
  have q1 : ((x3 &&& (255 : Int32)).toUInt32.toUInt16.toUInt32.toInt32) = (x3 &&& (255 : Int32)) := (own_ch x3)
  rw [q1]
  suffices J2 : ∀ (kk : Int32) (ee : Int32) (ch : Int32) (hkk : kk = 0 ∨ kk = 1 ∨ kk = 2 ∨ kk = 3) (hee : ee = 0 ∨ ee = 1 ∨ ee = 2 ∨ ee = 3) (hch : ¬ ch < (0 : Int32) ∧ ¬ (255 : Int32) < ch), Goes p.tables e below (fun t o => ∃ v L, o = .returned v ∧ (own_Q31 Z x1 x2 x3 x4 z0 oe va kv aL sL tL kL aS sS tS kS aH sH tH kH h0 n0) v t.heap L ∧ EndH Z consts_1 s o t L (room_1).cells (room_1).slots) (s₁.setTop (mkF m 20 #[iv x1, iv x2, iv x3, lv_ x4, s_, iv kk, iv ee, iv ch, u_, u_, u_, u_, u_, u_, u_] [])) by exact J2 (x1 &&& (3 : Int32)) (((x1.toUInt32 >>> ((2 : Int32) &&& 31).toUInt32).toInt32) &&& (3 : Int32)) (x3 &&& (255 : Int32)) (own_and3 _) (own_and3 _) (own_cr _)
  intro kk ee ch hkk hee hch
  have j3 : ∀ (T4 : State) (lc4 : List Loc) (h4 : Heap) (X4 : Stand p l e room_1 (s.setVm T4.vm) m #[(.int x1), (.int x2), (.int x3), (.long x4)] below meth c T4 lc4 8 96) (e4 : T4.heap = h4) (N4 : Fr n0 lc4) (hS4 : s.Since T4.vm h4.size) (hZ4 : Z.Warmed39 T4.vm) (hown4 : T4.vm.findClass "com/example/castellan/castellan/config/AssuranceLevelNamedPinLaw" = some m.cls) (hR4 : CHr Z consts_1 s.vm s.heap T4.vm h4) (sa : Addr) (st_ : Addr) (sk_ : ClassId) (cs : List Int32) (ev : Int32) (ar : Addr) (O4 : Old Z n0 h4) (F4_0 : Exa Z h4 sa "java/lang/String") (F4_1 : Fld Z h4 sa "java/lang/String" "value" "[B" (.ref st_)) (F4_2 : Fld Z h4 sa "java/lang/String" "coder" "B" (.int (0 : Int32))) (F4_3 : Arv Z h4 st_ sk_ .byte (Int32.ofNat cs.length) ((cs.map StrChars.lo8).map Value.int) (.int 0)) (hcs : ∀ c ∈ cs, ¬ c < 0 ∧ ¬ (255 : Int32) < c) (lcs : cs.length ≤ 4000) (hex : (cs = own_low ∧ ev = (0 : Int32)) ∨ (cs = own_sub ∧ ev = (1 : Int32)) ∨ (cs = own_hig ∧ ev = (2 : Int32)) ∨ ((¬ cs = own_low ∧ ¬ cs = own_sub ∧ ¬ cs = own_hig) ∧ ev = (-1 : Int32))) , Goes p.tables e below (fun t o => ∃ v L, o = .returned v ∧ (own_Q31 Z x1 x2 x3 x4 z0 oe va kv aL sL tL kL aS sS tS kS aH sH tH kH h0 n0) v t.heap L ∧ EndH Z consts_1 s o t L (room_1).cells (room_1).slots) (T4.setTop (mkF m 271 #[iv x1, iv x2, iv x3, lv_ x4, s_, iv kk, iv ee, iv ch, rv sa, iv ev, rv ar, u_, u_, u_, u_] [])) := by
    intro T4 lc4 h4 X4 e4 N4 hS4 hZ4 hown4 hR4 sa st_ sk_ cs ev ar O4 F4_0 F4_1 F4_2 F4_3 hcs lcs hex
    refine Gv T4 273 [(.ref sa)] (fun t k => XS.aload X4.here hx rfl (hb hby at_271) rfl rfl k) ?_
    rcases hex with ⟨hc, rfl⟩ | ⟨hc, rfl⟩ | ⟨hc, rfl⟩ | ⟨hc, rfl⟩
    · obtain ⟨_, T5, L5, X5, ⟨r5, rfl, M5, K5, f5_0, f5_1⟩, st5⟩ := callStatic X4 hx hZ4 hown4 (W_ hw 34 rfl) (W_ hw 35 rfl) (W_ hw 36 rfl) (W_ hw 37 rfl) (by decide) (argsL := [(.ref sa)]) (rest := []) (own_m12 l Z a0 hw [] sa st_ sk_ cs z0 oe va kv aL sL tL kL aS sS tS kS aH sH tH kH h4 n0 O4 hz0 hcs lcs hc O_1 O_2 O_3 O_4 O_5 O_6 O_7 O_8 O_9 O_10 O_11 O_12 O_13 O_14 O_15 O_16 O_17 O_18 O_19 O_20 O_21 O_22 O_23 F4_0 F4_1 F4_2 F4_3) e4 (lenOf own_pd7 rfl) (pc := 273) (Ls := #[iv x1, iv x2, iv x3, lv_ x4, s_, iv kk, iv ee, iv ch, rv sa, iv (0 : Int32), rv ar, u_, u_, u_, u_]) (st := [(.ref sa)]) rfl (by rw [hml]; rfl) (hb hby at_273) (W := 0) (Nat.le_of_eq rfl) (by decide) (by decide) (by decide) (by decide)
      have N5 := Fr.app N4 M5
      have hq6 := CHr.keep K5 sf0 hR4.1
      have hR6 := CHr.trans hR4 hq6
      refine Goes.via (B := T5.setTop (mkF m 276 #[iv x1, iv x2, iv x3, lv_ x4, s_, iv kk, iv ee, iv ch, rv sa, iv (0 : Int32), rv ar, u_, u_, u_, u_] [(.ref r5)])) (fun t k => st5 _ k) ?_
      refine Gv T5 278 [] (fun t k => XS.astore X5.here hx rfl (hb hby at_276) rfl rfl (l' := #[iv x1, iv x2, iv x3, lv_ x4, s_, iv kk, iv ee, iv ch, rv sa, iv (0 : Int32), rv r5, u_, u_, u_, u_]) rfl k) ?_
      refine Gv T5 280 [(.int (0 : Int32))] (fun t k => XS.iload X5.here hx rfl (hb hby at_278) rfl k) ?_
      refine Gv T5 297 [] (fun t k => XS.ifYes X5.here hx rfl (pc0 := 280) (pc' := 297) rfl (hb hby at_280) rfl (XT.i0_ge_t (by decide)) (by decide) (by decide) k) ?_
      refine Gv T5 299 [(.ref r5)] (fun t k => XS.aload X5.here hx rfl (hb hby at_297) rfl rfl k) ?_
      obtain ⟨_, T7, L7, X7, ⟨rfl, M7, K7⟩, st7⟩ := callVirt X5 hx hZ4 hown4 (W_ hw 85 rfl) (W_ hw 86 rfl) (W_ hw 88 rfl) (notFace_of_selects (args := #[]) (mvT hZ4 (W_ hw 88 rfl))) (W_ hw 87 rfl) (W_ hw 70 rfl) (W_ hw 89 rfl) (by decide) (argsL := []) (rest := []) (own_m8 l Z a0 hw [] r5 aL T5.heap n0 (O4.keep K5 all0) f5_0 f5_1) rfl f5_0 (lenOf own_pd8 rfl) (pc := 299) (Ls := #[iv x1, iv x2, iv x3, lv_ x4, s_, iv kk, iv ee, iv ch, rv sa, iv (0 : Int32), rv r5, u_, u_, u_, u_]) (st := [(.ref r5)]) rfl (by rw [hml]; rfl) (hb hby at_299) (W := 0) (Nat.le_of_eq rfl) (by decide) (by decide) (by decide) (by decide)
      have N7 := Fr.app N5 M7
      refine Goes.via (B := T7.setTop (mkF m 302 #[iv x1, iv x2, iv x3, lv_ x4, s_, iv kk, iv ee, iv ch, rv sa, iv (0 : Int32), rv r5, u_, u_, u_, u_] [(.int (1 : Int32))])) (fun t k => st7 _ k) ?_
      refine Gv T7 307 [] (fun t k => XS.ifYes X7.here hx rfl (pc0 := 302) (pc' := 307) rfl (hb hby at_302) rfl (XT.i0_ne_t (by decide)) (by decide) (by decide) k) ?_
      refine Gv T7 309 [(.ref r5)] (fun t k => XS.aload X7.here hx rfl (hb hby at_307) rfl rfl k) ?_
      obtain ⟨_, T8, L8, X8, ⟨rfl, M8, K8⟩, st8⟩ := callVirt X7 hx hZ4 hown4 (W_ hw 90 rfl) (W_ hw 91 rfl) (W_ hw 93 rfl) (notFace_of_selects (args := #[]) (mvT hZ4 (W_ hw 93 rfl))) (W_ hw 92 rfl) (W_ hw 70 rfl) (W_ hw 94 rfl) (by decide) (argsL := []) (rest := []) (own_m10 l Z a0 hw [] r5 aL T5.heap n0 (O4.keep K5 all0) f5_0 f5_1) K7 f5_0 (lenOf own_pd9 rfl) (pc := 309) (Ls := #[iv x1, iv x2, iv x3, lv_ x4, s_, iv kk, iv ee, iv ch, rv sa, iv (0 : Int32), rv r5, u_, u_, u_, u_]) (st := [(.ref r5)]) rfl (by rw [hml]; rfl) (hb hby at_309) (W := 0) (Nat.le_of_eq rfl) (by decide) (by decide) (by decide) (by decide)
      have N8 := Fr.app N7 M8
      refine Goes.via (B := T8.setTop (mkF m 312 #[iv x1, iv x2, iv x3, lv_ x4, s_, iv kk, iv ee, iv ch, rv sa, iv (0 : Int32), rv r5, u_, u_, u_, u_] [(.ref aL)])) (fun t k => st8 _ k) ?_
      obtain ⟨T9, X9, e9, st9⟩ := castY X8 hx hZ4 hown4 (W_ hw 95 rfl) K8 (Ins.self (O_2.ext (O4.keep K5 all0).2)) (g := (mkF m 312 #[iv x1, iv x2, iv x3, lv_ x4, s_, iv kk, iv ee, iv ch, rv sa, iv (0 : Int32), rv r5, u_, u_, u_, u_] [(.ref aL)])) rfl rfl (hb hby at_312)
      refine Goes.via (B := T9.setTop (mkF m 315 #[iv x1, iv x2, iv x3, lv_ x4, s_, iv kk, iv ee, iv ch, rv sa, iv (0 : Int32), rv r5, u_, u_, u_, u_] [(.ref aL)])) (fun t k => st9 _ k) ?_
      refine Gv T9 317 [] (fun t k => XS.astore X9.here hx rfl (hb hby at_315) rfl rfl (l' := #[iv x1, iv x2, iv x3, lv_ x4, s_, iv kk, iv ee, iv ch, rv sa, iv (0 : Int32), rv r5, rv aL, u_, u_, u_]) rfl k) ?_
      refine Gv T9 319 [(.int (0 : Int32))] (fun t k => XS.iload X9.here hx rfl (hb hby at_317) rfl k) ?_
      refine Gv T9 322 [] (fun t k => XS.ifNo X9.here hx rfl (hb hby at_319) rfl (XT.i0_ne_f rfl) k) ?_
      refine Gv T9 324 [(.ref aL)] (fun t k => XS.aload X9.here hx rfl (hb hby at_322) rfl rfl k) ?_
      obtain ⟨T10, X10, e10, st10⟩ := getS2 X9 hx hZ4 hown4 (host := "") (Or.inl (W_ hw 97 rfl)) Via.refl e9 (Sta.ext (O4.keep K5 all0).2 O_26) (g := (mkF m 324 #[iv x1, iv x2, iv x3, lv_ x4, s_, iv kk, iv ee, iv ch, rv sa, iv (0 : Int32), rv r5, rv aL, u_, u_, u_] [(.ref aL)])) rfl (hb hby at_324)
      refine Goes.via (B := T10.setTop (mkF m 327 #[iv x1, iv x2, iv x3, lv_ x4, s_, iv kk, iv ee, iv ch, rv sa, iv (0 : Int32), rv r5, rv aL, u_, u_, u_] [(.ref aL), (.ref aL)])) (fun t k => st10 _ k) ?_
      refine Gv T10 330 [] (fun t k => XT.acmpNo X10.here hx rfl (hb hby at_327) rfl rfl rfl (XT.aa_ne_f rfl) k) ?_
      refine Gv T10 331 [(.int (1 : Int32))] (fun t k => XS.iconst X10.here hx rfl (hb hby at_330) k) ?_
      refine Gv T10 335 [(.int (1 : Int32))] (fun t k => XS.goto X10.here hx rfl (pc0 := 331) (pc' := 335) rfl (hb hby at_331) (by decide) (by decide) k) ?_
      exact finN (Q := (own_Q31 Z x1 x2 x3 x4 z0 oe va kv aL sL tL kL aS sS tS kS aH sH tH kH h0 n0)) (F := EndH Z consts_1) (C := (room_1).cells) (S := (room_1).slots) X10 hx (t := .boolean) Bd.returns (by simp) (z' := (1 : Int32)) rfl (hb hby at_335) e10 ⟨rfl, N8, trivial⟩ (lvH X10 hlk hS4 e10 (Nat.le_trans (Nat.le_refl _) K5.1) hZ4 hEL hR6 (by decide) (by decide))
    · obtain ⟨_, T11, L11, X11, ⟨r11, rfl, M11, K11, f11_0, f11_1⟩, st11⟩ := callStatic X4 hx hZ4 hown4 (W_ hw 34 rfl) (W_ hw 35 rfl) (W_ hw 36 rfl) (W_ hw 37 rfl) (by decide) (argsL := [(.ref sa)]) (rest := []) (own_m13 l Z a0 hw [] sa st_ sk_ cs z0 oe va kv aL sL tL kL aS sS tS kS aH sH tH kH h4 n0 O4 hz0 hcs lcs hc O_1 O_2 O_3 O_4 O_5 O_6 O_7 O_8 O_9 O_10 O_11 O_12 O_13 O_14 O_15 O_16 O_17 O_18 O_19 O_20 O_21 O_22 O_23 F4_0 F4_1 F4_2 F4_3) e4 (lenOf own_pd7 rfl) (pc := 273) (Ls := #[iv x1, iv x2, iv x3, lv_ x4, s_, iv kk, iv ee, iv ch, rv sa, iv (1 : Int32), rv ar, u_, u_, u_, u_]) (st := [(.ref sa)]) rfl (by rw [hml]; rfl) (hb hby at_273) (W := 0) (Nat.le_of_eq rfl) (by decide) (by decide) (by decide) (by decide)
      have N11 := Fr.app N4 M11
      have hq12 := CHr.keep K11 sf0 hR4.1
      have hR12 := CHr.trans hR4 hq12
      refine Goes.via (B := T11.setTop (mkF m 276 #[iv x1, iv x2, iv x3, lv_ x4, s_, iv kk, iv ee, iv ch, rv sa, iv (1 : Int32), rv ar, u_, u_, u_, u_] [(.ref r11)])) (fun t k => st11 _ k) ?_
      refine Gv T11 278 [] (fun t k => XS.astore X11.here hx rfl (hb hby at_276) rfl rfl (l' := #[iv x1, iv x2, iv x3, lv_ x4, s_, iv kk, iv ee, iv ch, rv sa, iv (1 : Int32), rv r11, u_, u_, u_, u_]) rfl k) ?_
      refine Gv T11 280 [(.int (1 : Int32))] (fun t k => XS.iload X11.here hx rfl (hb hby at_278) rfl k) ?_
      refine Gv T11 297 [] (fun t k => XS.ifYes X11.here hx rfl (pc0 := 280) (pc' := 297) rfl (hb hby at_280) rfl (XT.i0_ge_t (by decide)) (by decide) (by decide) k) ?_
      refine Gv T11 299 [(.ref r11)] (fun t k => XS.aload X11.here hx rfl (hb hby at_297) rfl rfl k) ?_
      obtain ⟨_, T13, L13, X13, ⟨rfl, M13, K13⟩, st13⟩ := callVirt X11 hx hZ4 hown4 (W_ hw 85 rfl) (W_ hw 86 rfl) (W_ hw 88 rfl) (notFace_of_selects (args := #[]) (mvT hZ4 (W_ hw 88 rfl))) (W_ hw 87 rfl) (W_ hw 70 rfl) (W_ hw 89 rfl) (by decide) (argsL := []) (rest := []) (own_m8 l Z a0 hw [] r11 aS T11.heap n0 (O4.keep K11 all0) f11_0 f11_1) rfl f11_0 (lenOf own_pd8 rfl) (pc := 299) (Ls := #[iv x1, iv x2, iv x3, lv_ x4, s_, iv kk, iv ee, iv ch, rv sa, iv (1 : Int32), rv r11, u_, u_, u_, u_]) (st := [(.ref r11)]) rfl (by rw [hml]; rfl) (hb hby at_299) (W := 0) (Nat.le_of_eq rfl) (by decide) (by decide) (by decide) (by decide)
      have N13 := Fr.app N11 M13
      refine Goes.via (B := T13.setTop (mkF m 302 #[iv x1, iv x2, iv x3, lv_ x4, s_, iv kk, iv ee, iv ch, rv sa, iv (1 : Int32), rv r11, u_, u_, u_, u_] [(.int (1 : Int32))])) (fun t k => st13 _ k) ?_
      refine Gv T13 307 [] (fun t k => XS.ifYes X13.here hx rfl (pc0 := 302) (pc' := 307) rfl (hb hby at_302) rfl (XT.i0_ne_t (by decide)) (by decide) (by decide) k) ?_
      refine Gv T13 309 [(.ref r11)] (fun t k => XS.aload X13.here hx rfl (hb hby at_307) rfl rfl k) ?_
      obtain ⟨_, T14, L14, X14, ⟨rfl, M14, K14⟩, st14⟩ := callVirt X13 hx hZ4 hown4 (W_ hw 90 rfl) (W_ hw 91 rfl) (W_ hw 93 rfl) (notFace_of_selects (args := #[]) (mvT hZ4 (W_ hw 93 rfl))) (W_ hw 92 rfl) (W_ hw 70 rfl) (W_ hw 94 rfl) (by decide) (argsL := []) (rest := []) (own_m10 l Z a0 hw [] r11 aS T11.heap n0 (O4.keep K11 all0) f11_0 f11_1) K13 f11_0 (lenOf own_pd9 rfl) (pc := 309) (Ls := #[iv x1, iv x2, iv x3, lv_ x4, s_, iv kk, iv ee, iv ch, rv sa, iv (1 : Int32), rv r11, u_, u_, u_, u_]) (st := [(.ref r11)]) rfl (by rw [hml]; rfl) (hb hby at_309) (W := 0) (Nat.le_of_eq rfl) (by decide) (by decide) (by decide) (by decide)
      have N14 := Fr.app N13 M14
      refine Goes.via (B := T14.setTop (mkF m 312 #[iv x1, iv x2, iv x3, lv_ x4, s_, iv kk, iv ee, iv ch, rv sa, iv (1 : Int32), rv r11, u_, u_, u_, u_] [(.ref aS)])) (fun t k => st14 _ k) ?_
      obtain ⟨T15, X15, e15, st15⟩ := castY X14 hx hZ4 hown4 (W_ hw 95 rfl) K14 (Ins.self (O_8.ext (O4.keep K11 all0).2)) (g := (mkF m 312 #[iv x1, iv x2, iv x3, lv_ x4, s_, iv kk, iv ee, iv ch, rv sa, iv (1 : Int32), rv r11, u_, u_, u_, u_] [(.ref aS)])) rfl rfl (hb hby at_312)
      refine Goes.via (B := T15.setTop (mkF m 315 #[iv x1, iv x2, iv x3, lv_ x4, s_, iv kk, iv ee, iv ch, rv sa, iv (1 : Int32), rv r11, u_, u_, u_, u_] [(.ref aS)])) (fun t k => st15 _ k) ?_
      refine Gv T15 317 [] (fun t k => XS.astore X15.here hx rfl (hb hby at_315) rfl rfl (l' := #[iv x1, iv x2, iv x3, lv_ x4, s_, iv kk, iv ee, iv ch, rv sa, iv (1 : Int32), rv r11, rv aS, u_, u_, u_]) rfl k) ?_
      refine Gv T15 319 [(.int (1 : Int32))] (fun t k => XS.iload X15.here hx rfl (hb hby at_317) rfl k) ?_
      refine Gv T15 336 [] (fun t k => XS.ifYes X15.here hx rfl (pc0 := 319) (pc' := 336) rfl (hb hby at_319) rfl (XT.i0_ne_t (by decide)) (by decide) (by decide) k) ?_
      refine Gv T15 338 [(.int (1 : Int32))] (fun t k => XS.iload X15.here hx rfl (hb hby at_336) rfl k) ?_
      refine Gv T15 339 [(.int (1 : Int32)), (.int (1 : Int32))] (fun t k => XS.iconst X15.here hx rfl (hb hby at_338) k) ?_
      refine Gv T15 342 [] (fun t k => XS.icmpNo X15.here hx rfl (hb hby at_339) rfl (XT.ii_ne_f rfl) k) ?_
      refine Gv T15 344 [(.ref aS)] (fun t k => XS.aload X15.here hx rfl (hb hby at_342) rfl rfl k) ?_
      obtain ⟨T16, X16, e16, st16⟩ := getS2 X15 hx hZ4 hown4 (host := "") (Or.inl (W_ hw 111 rfl)) Via.refl e15 (Sta.ext (O4.keep K11 all0).2 O_27) (g := (mkF m 344 #[iv x1, iv x2, iv x3, lv_ x4, s_, iv kk, iv ee, iv ch, rv sa, iv (1 : Int32), rv r11, rv aS, u_, u_, u_] [(.ref aS)])) rfl (hb hby at_344)
      refine Goes.via (B := T16.setTop (mkF m 347 #[iv x1, iv x2, iv x3, lv_ x4, s_, iv kk, iv ee, iv ch, rv sa, iv (1 : Int32), rv r11, rv aS, u_, u_, u_] [(.ref aS), (.ref aS)])) (fun t k => st16 _ k) ?_
      refine Gv T16 350 [] (fun t k => XT.acmpNo X16.here hx rfl (hb hby at_347) rfl rfl rfl (XT.aa_ne_f rfl) k) ?_
      refine Gv T16 351 [(.int (1 : Int32))] (fun t k => XS.iconst X16.here hx rfl (hb hby at_350) k) ?_
      refine Gv T16 355 [(.int (1 : Int32))] (fun t k => XS.goto X16.here hx rfl (pc0 := 351) (pc' := 355) rfl (hb hby at_351) (by decide) (by decide) k) ?_
      exact finN (Q := (own_Q31 Z x1 x2 x3 x4 z0 oe va kv aL sL tL kL aS sS tS kS aH sH tH kH h0 n0)) (F := EndH Z consts_1) (C := (room_1).cells) (S := (room_1).slots) X16 hx (t := .boolean) Bd.returns (by simp) (z' := (1 : Int32)) rfl (hb hby at_355) e16 ⟨rfl, N14, trivial⟩ (lvH X16 hlk hS4 e16 (Nat.le_trans (Nat.le_refl _) K11.1) hZ4 hEL hR12 (by decide) (by decide))
    · obtain ⟨_, T17, L17, X17, ⟨r17, rfl, M17, K17, f17_0, f17_1⟩, st17⟩ := callStatic X4 hx hZ4 hown4 (W_ hw 34 rfl) (W_ hw 35 rfl) (W_ hw 36 rfl) (W_ hw 37 rfl) (by decide) (argsL := [(.ref sa)]) (rest := []) (own_m14 l Z a0 hw [] sa st_ sk_ cs z0 oe va kv aL sL tL kL aS sS tS kS aH sH tH kH h4 n0 O4 hz0 hcs lcs hc O_1 O_2 O_3 O_4 O_5 O_6 O_7 O_8 O_9 O_10 O_11 O_12 O_13 O_14 O_15 O_16 O_17 O_18 O_19 O_20 O_21 O_22 O_23 F4_0 F4_1 F4_2 F4_3) e4 (lenOf own_pd7 rfl) (pc := 273) (Ls := #[iv x1, iv x2, iv x3, lv_ x4, s_, iv kk, iv ee, iv ch, rv sa, iv (2 : Int32), rv ar, u_, u_, u_, u_]) (st := [(.ref sa)]) rfl (by rw [hml]; rfl) (hb hby at_273) (W := 0) (Nat.le_of_eq rfl) (by decide) (by decide) (by decide) (by decide)
      have N17 := Fr.app N4 M17
      have hq18 := CHr.keep K17 sf0 hR4.1
      have hR18 := CHr.trans hR4 hq18
      refine Goes.via (B := T17.setTop (mkF m 276 #[iv x1, iv x2, iv x3, lv_ x4, s_, iv kk, iv ee, iv ch, rv sa, iv (2 : Int32), rv ar, u_, u_, u_, u_] [(.ref r17)])) (fun t k => st17 _ k) ?_
      refine Gv T17 278 [] (fun t k => XS.astore X17.here hx rfl (hb hby at_276) rfl rfl (l' := #[iv x1, iv x2, iv x3, lv_ x4, s_, iv kk, iv ee, iv ch, rv sa, iv (2 : Int32), rv r17, u_, u_, u_, u_]) rfl k) ?_
      refine Gv T17 280 [(.int (2 : Int32))] (fun t k => XS.iload X17.here hx rfl (hb hby at_278) rfl k) ?_
      refine Gv T17 297 [] (fun t k => XS.ifYes X17.here hx rfl (pc0 := 280) (pc' := 297) rfl (hb hby at_280) rfl (XT.i0_ge_t (by decide)) (by decide) (by decide) k) ?_
      refine Gv T17 299 [(.ref r17)] (fun t k => XS.aload X17.here hx rfl (hb hby at_297) rfl rfl k) ?_
      obtain ⟨_, T19, L19, X19, ⟨rfl, M19, K19⟩, st19⟩ := callVirt X17 hx hZ4 hown4 (W_ hw 85 rfl) (W_ hw 86 rfl) (W_ hw 88 rfl) (notFace_of_selects (args := #[]) (mvT hZ4 (W_ hw 88 rfl))) (W_ hw 87 rfl) (W_ hw 70 rfl) (W_ hw 89 rfl) (by decide) (argsL := []) (rest := []) (own_m8 l Z a0 hw [] r17 aH T17.heap n0 (O4.keep K17 all0) f17_0 f17_1) rfl f17_0 (lenOf own_pd8 rfl) (pc := 299) (Ls := #[iv x1, iv x2, iv x3, lv_ x4, s_, iv kk, iv ee, iv ch, rv sa, iv (2 : Int32), rv r17, u_, u_, u_, u_]) (st := [(.ref r17)]) rfl (by rw [hml]; rfl) (hb hby at_299) (W := 0) (Nat.le_of_eq rfl) (by decide) (by decide) (by decide) (by decide)
      have N19 := Fr.app N17 M19
      refine Goes.via (B := T19.setTop (mkF m 302 #[iv x1, iv x2, iv x3, lv_ x4, s_, iv kk, iv ee, iv ch, rv sa, iv (2 : Int32), rv r17, u_, u_, u_, u_] [(.int (1 : Int32))])) (fun t k => st19 _ k) ?_
      refine Gv T19 307 [] (fun t k => XS.ifYes X19.here hx rfl (pc0 := 302) (pc' := 307) rfl (hb hby at_302) rfl (XT.i0_ne_t (by decide)) (by decide) (by decide) k) ?_
      refine Gv T19 309 [(.ref r17)] (fun t k => XS.aload X19.here hx rfl (hb hby at_307) rfl rfl k) ?_
      obtain ⟨_, T20, L20, X20, ⟨rfl, M20, K20⟩, st20⟩ := callVirt X19 hx hZ4 hown4 (W_ hw 90 rfl) (W_ hw 91 rfl) (W_ hw 93 rfl) (notFace_of_selects (args := #[]) (mvT hZ4 (W_ hw 93 rfl))) (W_ hw 92 rfl) (W_ hw 70 rfl) (W_ hw 94 rfl) (by decide) (argsL := []) (rest := []) (own_m10 l Z a0 hw [] r17 aH T17.heap n0 (O4.keep K17 all0) f17_0 f17_1) K19 f17_0 (lenOf own_pd9 rfl) (pc := 309) (Ls := #[iv x1, iv x2, iv x3, lv_ x4, s_, iv kk, iv ee, iv ch, rv sa, iv (2 : Int32), rv r17, u_, u_, u_, u_]) (st := [(.ref r17)]) rfl (by rw [hml]; rfl) (hb hby at_309) (W := 0) (Nat.le_of_eq rfl) (by decide) (by decide) (by decide) (by decide)
      have N20 := Fr.app N19 M20
      refine Goes.via (B := T20.setTop (mkF m 312 #[iv x1, iv x2, iv x3, lv_ x4, s_, iv kk, iv ee, iv ch, rv sa, iv (2 : Int32), rv r17, u_, u_, u_, u_] [(.ref aH)])) (fun t k => st20 _ k) ?_
      obtain ⟨T21, X21, e21, st21⟩ := castY X20 hx hZ4 hown4 (W_ hw 95 rfl) K20 (Ins.self (O_14.ext (O4.keep K17 all0).2)) (g := (mkF m 312 #[iv x1, iv x2, iv x3, lv_ x4, s_, iv kk, iv ee, iv ch, rv sa, iv (2 : Int32), rv r17, u_, u_, u_, u_] [(.ref aH)])) rfl rfl (hb hby at_312)
      refine Goes.via (B := T21.setTop (mkF m 315 #[iv x1, iv x2, iv x3, lv_ x4, s_, iv kk, iv ee, iv ch, rv sa, iv (2 : Int32), rv r17, u_, u_, u_, u_] [(.ref aH)])) (fun t k => st21 _ k) ?_
      refine Gv T21 317 [] (fun t k => XS.astore X21.here hx rfl (hb hby at_315) rfl rfl (l' := #[iv x1, iv x2, iv x3, lv_ x4, s_, iv kk, iv ee, iv ch, rv sa, iv (2 : Int32), rv r17, rv aH, u_, u_, u_]) rfl k) ?_
      refine Gv T21 319 [(.int (2 : Int32))] (fun t k => XS.iload X21.here hx rfl (hb hby at_317) rfl k) ?_
      refine Gv T21 336 [] (fun t k => XS.ifYes X21.here hx rfl (pc0 := 319) (pc' := 336) rfl (hb hby at_319) rfl (XT.i0_ne_t (by decide)) (by decide) (by decide) k) ?_
      refine Gv T21 338 [(.int (2 : Int32))] (fun t k => XS.iload X21.here hx rfl (hb hby at_336) rfl k) ?_
      refine Gv T21 339 [(.int (1 : Int32)), (.int (2 : Int32))] (fun t k => XS.iconst X21.here hx rfl (hb hby at_338) k) ?_
      refine Gv T21 356 [] (fun t k => XS.icmpYes X21.here hx rfl (pc0 := 339) (pc' := 356) rfl (hb hby at_339) rfl (XT.ii_ne_t (by decide)) (by decide) (by decide) k) ?_
      refine Gv T21 358 [(.ref aH)] (fun t k => XS.aload X21.here hx rfl (hb hby at_356) rfl rfl k) ?_
      obtain ⟨T22, X22, e22, st22⟩ := getS2 X21 hx hZ4 hown4 (host := "") (Or.inl (W_ hw 103 rfl)) Via.refl e21 (Sta.ext (O4.keep K17 all0).2 O_28) (g := (mkF m 358 #[iv x1, iv x2, iv x3, lv_ x4, s_, iv kk, iv ee, iv ch, rv sa, iv (2 : Int32), rv r17, rv aH, u_, u_, u_] [(.ref aH)])) rfl (hb hby at_358)
      refine Goes.via (B := T22.setTop (mkF m 361 #[iv x1, iv x2, iv x3, lv_ x4, s_, iv kk, iv ee, iv ch, rv sa, iv (2 : Int32), rv r17, rv aH, u_, u_, u_] [(.ref aH), (.ref aH)])) (fun t k => st22 _ k) ?_
      refine Gv T22 364 [] (fun t k => XT.acmpNo X22.here hx rfl (hb hby at_361) rfl rfl rfl (XT.aa_ne_f rfl) k) ?_
      refine Gv T22 365 [(.int (1 : Int32))] (fun t k => XS.iconst X22.here hx rfl (hb hby at_364) k) ?_
      refine Gv T22 369 [(.int (1 : Int32))] (fun t k => XS.goto X22.here hx rfl (pc0 := 365) (pc' := 369) rfl (hb hby at_365) (by decide) (by decide) k) ?_
      exact finN (Q := (own_Q31 Z x1 x2 x3 x4 z0 oe va kv aL sL tL kL aS sS tS kS aH sH tH kH h0 n0)) (F := EndH Z consts_1) (C := (room_1).cells) (S := (room_1).slots) X22 hx (t := .boolean) Bd.returns (by simp) (z' := (1 : Int32)) rfl (hb hby at_369) e22 ⟨rfl, N20, trivial⟩ (lvH X22 hlk hS4 e22 (Nat.le_trans (Nat.le_refl _) K17.1) hZ4 hEL hR18 (by decide) (by decide))
    · obtain ⟨_, T23, L23, X23, ⟨rfl, M23, K23⟩, st23⟩ := callStatic X4 hx hZ4 hown4 (W_ hw 34 rfl) (W_ hw 35 rfl) (W_ hw 36 rfl) (W_ hw 37 rfl) (by decide) (argsL := [(.ref sa)]) (rest := []) (own_m15 l Z a0 hw [] sa st_ sk_ cs z0 oe va kv aL sL tL kL aS sS tS kS aH sH tH kH h4 n0 O4 hz0 hcs lcs hc O_1 O_2 O_3 O_4 O_5 O_6 O_7 O_8 O_9 O_10 O_11 O_12 O_13 O_14 O_15 O_16 O_17 O_18 O_19 O_20 O_21 O_22 O_23 F4_0 F4_1 F4_2 F4_3) e4 (lenOf own_pd7 rfl) (pc := 273) (Ls := #[iv x1, iv x2, iv x3, lv_ x4, s_, iv kk, iv ee, iv ch, rv sa, iv (-1 : Int32), rv ar, u_, u_, u_, u_]) (st := [(.ref sa)]) rfl (by rw [hml]; rfl) (hb hby at_273) (W := 0) (Nat.le_of_eq rfl) (by decide) (by decide) (by decide) (by decide)
      have N23 := Fr.app N4 M23
      have hq24 := CHr.keep K23 sf0 hR4.1
      have hR24 := CHr.trans hR4 hq24
      refine Goes.via (B := T23.setTop (mkF m 276 #[iv x1, iv x2, iv x3, lv_ x4, s_, iv kk, iv ee, iv ch, rv sa, iv (-1 : Int32), rv ar, u_, u_, u_, u_] [(.ref oe)])) (fun t k => st23 _ k) ?_
      refine Gv T23 278 [] (fun t k => XS.astore X23.here hx rfl (hb hby at_276) rfl rfl (l' := #[iv x1, iv x2, iv x3, lv_ x4, s_, iv kk, iv ee, iv ch, rv sa, iv (-1 : Int32), rv oe, u_, u_, u_, u_]) rfl k) ?_
      refine Gv T23 280 [(.int (-1 : Int32))] (fun t k => XS.iload X23.here hx rfl (hb hby at_278) rfl k) ?_
      refine Gv T23 283 [] (fun t k => XS.ifNo X23.here hx rfl (hb hby at_280) rfl (XT.i0_ge_f (by decide)) k) ?_
      refine Gv T23 285 [(.ref oe)] (fun t k => XS.aload X23.here hx rfl (hb hby at_283) rfl rfl k) ?_
      obtain ⟨_, T25, L25, X25, ⟨rfl, M25, K25⟩, st25⟩ := callVirt X23 hx hZ4 hown4 (W_ hw 85 rfl) (W_ hw 86 rfl) (W_ hw 88 rfl) (notFace_of_selects (args := #[]) (mvT hZ4 (W_ hw 88 rfl))) (W_ hw 87 rfl) (W_ hw 70 rfl) (W_ hw 89 rfl) (by decide) (argsL := []) (rest := []) (own_m9 l Z a0 hw [] oe T23.heap n0 (O4.keep K23 all0) O_24 O_25) rfl (O_24.ext (O4.keep K23 all0).2) (lenOf own_pd8 rfl) (pc := 285) (Ls := #[iv x1, iv x2, iv x3, lv_ x4, s_, iv kk, iv ee, iv ch, rv sa, iv (-1 : Int32), rv oe, u_, u_, u_, u_]) (st := [(.ref oe)]) rfl (by rw [hml]; rfl) (hb hby at_285) (W := 0) (Nat.le_of_eq rfl) (by decide) (by decide) (by decide) (by decide)
      have N25 := Fr.app N23 M25
      refine Goes.via (B := T25.setTop (mkF m 288 #[iv x1, iv x2, iv x3, lv_ x4, s_, iv kk, iv ee, iv ch, rv sa, iv (-1 : Int32), rv oe, u_, u_, u_, u_] [(.int (0 : Int32))])) (fun t k => st25 _ k) ?_
      refine Gv T25 291 [] (fun t k => XS.ifNo X25.here hx rfl (hb hby at_288) rfl (XT.i0_ne_f rfl) k) ?_
      refine Gv T25 292 [(.int (1 : Int32))] (fun t k => XS.iconst X25.here hx rfl (hb hby at_291) k) ?_
      refine Gv T25 296 [(.int (1 : Int32))] (fun t k => XS.goto X25.here hx rfl (pc0 := 292) (pc' := 296) rfl (hb hby at_292) (by decide) (by decide) k) ?_
      exact finN (Q := (own_Q31 Z x1 x2 x3 x4 z0 oe va kv aL sL tL kL aS sS tS kS aH sH tH kH h0 n0)) (F := EndH Z consts_1) (C := (room_1).cells) (S := (room_1).slots) X25 hx (t := .boolean) Bd.returns (by simp) (z' := (1 : Int32)) rfl (hb hby at_296) K25 ⟨rfl, N25, trivial⟩ (lvH X25 hlk hS4 K25 (Nat.le_trans (Nat.le_refl _) K23.1) hZ4 hEL hR24 (by decide) (by decide))
  have j26 : ∀ (T27 : State) (lc27 : List Loc) (h27 : Heap) (X27 : Stand p l e room_1 (s.setVm T27.vm) m #[(.int x1), (.int x2), (.int x3), (.long x4)] below meth c T27 lc27 8 96) (e27 : T27.heap = h27) (N27 : Fr n0 lc27) (hS27 : s.Since T27.vm h27.size) (hZ27 : Z.Warmed39 T27.vm) (hown27 : T27.vm.findClass "com/example/castellan/castellan/config/AssuranceLevelNamedPinLaw" = some m.cls) (hR27 : CHr Z consts_1 s.vm s.heap T27.vm h27) (sa : Addr) (st_ : Addr) (sk_ : ClassId) (cs : List Int32) (ev : Int32) (ar : Addr) (ix : Int32) (oc : Int32) (O27 : Old Z n0 h27) (F27_0 : Exa Z h27 sa "java/lang/String") (F27_1 : Fld Z h27 sa "java/lang/String" "value" "[B" (.ref st_)) (F27_2 : Fld Z h27 sa "java/lang/String" "coder" "B" (.int (0 : Int32))) (F27_3 : Arv Z h27 st_ sk_ .byte (Int32.ofNat cs.length) ((cs.map StrChars.lo8).map Value.int) (.int 0)) (hcs : ∀ c ∈ cs, ¬ c < 0 ∧ ¬ (255 : Int32) < c) (lcs : cs.length ≤ 4000) (hex : (cs = own_low ∧ ev = (0 : Int32)) ∨ (cs = own_sub ∧ ev = (1 : Int32)) ∨ (cs = own_hig ∧ ev = (2 : Int32)) ∨ ((¬ cs = own_low ∧ ¬ cs = own_sub ∧ ¬ cs = own_hig) ∧ ev = (-1 : Int32))) , Goes p.tables e below (fun t o => ∃ v L, o = .returned v ∧ (own_Q31 Z x1 x2 x3 x4 z0 oe va kv aL sL tL kL aS sS tS kS aH sH tH kH h0 n0) v t.heap L ∧ EndH Z consts_1 s o t L (room_1).cells (room_1).slots) (T27.setTop (mkF m 271 #[iv x1, iv x2, iv x3, lv_ x4, s_, iv kk, iv ee, iv ch, rv sa, iv ev, rv ar, iv ix, iv oc, u_, u_] [])) := by
    intro T27 lc27 h27 X27 e27 N27 hS27 hZ27 hown27 hR27 sa st_ sk_ cs ev ar ix oc O27 F27_0 F27_1 F27_2 F27_3 hcs lcs hex
    refine Gv T27 273 [(.ref sa)] (fun t k => XS.aload X27.here hx rfl (hb hby at_271) rfl rfl k) ?_
    rcases hex with ⟨hc, rfl⟩ | ⟨hc, rfl⟩ | ⟨hc, rfl⟩ | ⟨hc, rfl⟩
    · obtain ⟨_, T28, L28, X28, ⟨r28, rfl, M28, K28, f28_0, f28_1⟩, st28⟩ := callStatic X27 hx hZ27 hown27 (W_ hw 34 rfl) (W_ hw 35 rfl) (W_ hw 36 rfl) (W_ hw 37 rfl) (by decide) (argsL := [(.ref sa)]) (rest := []) (own_m12 l Z a0 hw [] sa st_ sk_ cs z0 oe va kv aL sL tL kL aS sS tS kS aH sH tH kH h27 n0 O27 hz0 hcs lcs hc O_1 O_2 O_3 O_4 O_5 O_6 O_7 O_8 O_9 O_10 O_11 O_12 O_13 O_14 O_15 O_16 O_17 O_18 O_19 O_20 O_21 O_22 O_23 F27_0 F27_1 F27_2 F27_3) e27 (lenOf own_pd7 rfl) (pc := 273) (Ls := #[iv x1, iv x2, iv x3, lv_ x4, s_, iv kk, iv ee, iv ch, rv sa, iv (0 : Int32), rv ar, iv ix, iv oc, u_, u_]) (st := [(.ref sa)]) rfl (by rw [hml]; rfl) (hb hby at_273) (W := 0) (Nat.le_of_eq rfl) (by decide) (by decide) (by decide) (by decide)
      have N28 := Fr.app N27 M28
      have hq29 := CHr.keep K28 sf0 hR27.1
      have hR29 := CHr.trans hR27 hq29
      refine Goes.via (B := T28.setTop (mkF m 276 #[iv x1, iv x2, iv x3, lv_ x4, s_, iv kk, iv ee, iv ch, rv sa, iv (0 : Int32), rv ar, iv ix, iv oc, u_, u_] [(.ref r28)])) (fun t k => st28 _ k) ?_
      refine Gv T28 278 [] (fun t k => XS.astore X28.here hx rfl (hb hby at_276) rfl rfl (l' := #[iv x1, iv x2, iv x3, lv_ x4, s_, iv kk, iv ee, iv ch, rv sa, iv (0 : Int32), rv r28, iv ix, iv oc, u_, u_]) rfl k) ?_
      refine Gv T28 280 [(.int (0 : Int32))] (fun t k => XS.iload X28.here hx rfl (hb hby at_278) rfl k) ?_
      refine Gv T28 297 [] (fun t k => XS.ifYes X28.here hx rfl (pc0 := 280) (pc' := 297) rfl (hb hby at_280) rfl (XT.i0_ge_t (by decide)) (by decide) (by decide) k) ?_
      refine Gv T28 299 [(.ref r28)] (fun t k => XS.aload X28.here hx rfl (hb hby at_297) rfl rfl k) ?_
      obtain ⟨_, T30, L30, X30, ⟨rfl, M30, K30⟩, st30⟩ := callVirt X28 hx hZ27 hown27 (W_ hw 85 rfl) (W_ hw 86 rfl) (W_ hw 88 rfl) (notFace_of_selects (args := #[]) (mvT hZ27 (W_ hw 88 rfl))) (W_ hw 87 rfl) (W_ hw 70 rfl) (W_ hw 89 rfl) (by decide) (argsL := []) (rest := []) (own_m8 l Z a0 hw [] r28 aL T28.heap n0 (O27.keep K28 all0) f28_0 f28_1) rfl f28_0 (lenOf own_pd8 rfl) (pc := 299) (Ls := #[iv x1, iv x2, iv x3, lv_ x4, s_, iv kk, iv ee, iv ch, rv sa, iv (0 : Int32), rv r28, iv ix, iv oc, u_, u_]) (st := [(.ref r28)]) rfl (by rw [hml]; rfl) (hb hby at_299) (W := 0) (Nat.le_of_eq rfl) (by decide) (by decide) (by decide) (by decide)
      have N30 := Fr.app N28 M30
      refine Goes.via (B := T30.setTop (mkF m 302 #[iv x1, iv x2, iv x3, lv_ x4, s_, iv kk, iv ee, iv ch, rv sa, iv (0 : Int32), rv r28, iv ix, iv oc, u_, u_] [(.int (1 : Int32))])) (fun t k => st30 _ k) ?_
      refine Gv T30 307 [] (fun t k => XS.ifYes X30.here hx rfl (pc0 := 302) (pc' := 307) rfl (hb hby at_302) rfl (XT.i0_ne_t (by decide)) (by decide) (by decide) k) ?_
      refine Gv T30 309 [(.ref r28)] (fun t k => XS.aload X30.here hx rfl (hb hby at_307) rfl rfl k) ?_
      obtain ⟨_, T31, L31, X31, ⟨rfl, M31, K31⟩, st31⟩ := callVirt X30 hx hZ27 hown27 (W_ hw 90 rfl) (W_ hw 91 rfl) (W_ hw 93 rfl) (notFace_of_selects (args := #[]) (mvT hZ27 (W_ hw 93 rfl))) (W_ hw 92 rfl) (W_ hw 70 rfl) (W_ hw 94 rfl) (by decide) (argsL := []) (rest := []) (own_m10 l Z a0 hw [] r28 aL T28.heap n0 (O27.keep K28 all0) f28_0 f28_1) K30 f28_0 (lenOf own_pd9 rfl) (pc := 309) (Ls := #[iv x1, iv x2, iv x3, lv_ x4, s_, iv kk, iv ee, iv ch, rv sa, iv (0 : Int32), rv r28, iv ix, iv oc, u_, u_]) (st := [(.ref r28)]) rfl (by rw [hml]; rfl) (hb hby at_309) (W := 0) (Nat.le_of_eq rfl) (by decide) (by decide) (by decide) (by decide)
      have N31 := Fr.app N30 M31
      refine Goes.via (B := T31.setTop (mkF m 312 #[iv x1, iv x2, iv x3, lv_ x4, s_, iv kk, iv ee, iv ch, rv sa, iv (0 : Int32), rv r28, iv ix, iv oc, u_, u_] [(.ref aL)])) (fun t k => st31 _ k) ?_
      obtain ⟨T32, X32, e32, st32⟩ := castY X31 hx hZ27 hown27 (W_ hw 95 rfl) K31 (Ins.self (O_2.ext (O27.keep K28 all0).2)) (g := (mkF m 312 #[iv x1, iv x2, iv x3, lv_ x4, s_, iv kk, iv ee, iv ch, rv sa, iv (0 : Int32), rv r28, iv ix, iv oc, u_, u_] [(.ref aL)])) rfl rfl (hb hby at_312)
      refine Goes.via (B := T32.setTop (mkF m 315 #[iv x1, iv x2, iv x3, lv_ x4, s_, iv kk, iv ee, iv ch, rv sa, iv (0 : Int32), rv r28, iv ix, iv oc, u_, u_] [(.ref aL)])) (fun t k => st32 _ k) ?_
      refine Gv T32 317 [] (fun t k => XS.astore X32.here hx rfl (hb hby at_315) rfl rfl (l' := #[iv x1, iv x2, iv x3, lv_ x4, s_, iv kk, iv ee, iv ch, rv sa, iv (0 : Int32), rv r28, rv aL, iv oc, u_, u_]) rfl k) ?_
      refine Gv T32 319 [(.int (0 : Int32))] (fun t k => XS.iload X32.here hx rfl (hb hby at_317) rfl k) ?_
      refine Gv T32 322 [] (fun t k => XS.ifNo X32.here hx rfl (hb hby at_319) rfl (XT.i0_ne_f rfl) k) ?_
      refine Gv T32 324 [(.ref aL)] (fun t k => XS.aload X32.here hx rfl (hb hby at_322) rfl rfl k) ?_
      obtain ⟨T33, X33, e33, st33⟩ := getS2 X32 hx hZ27 hown27 (host := "") (Or.inl (W_ hw 97 rfl)) Via.refl e32 (Sta.ext (O27.keep K28 all0).2 O_26) (g := (mkF m 324 #[iv x1, iv x2, iv x3, lv_ x4, s_, iv kk, iv ee, iv ch, rv sa, iv (0 : Int32), rv r28, rv aL, iv oc, u_, u_] [(.ref aL)])) rfl (hb hby at_324)
      refine Goes.via (B := T33.setTop (mkF m 327 #[iv x1, iv x2, iv x3, lv_ x4, s_, iv kk, iv ee, iv ch, rv sa, iv (0 : Int32), rv r28, rv aL, iv oc, u_, u_] [(.ref aL), (.ref aL)])) (fun t k => st33 _ k) ?_
      refine Gv T33 330 [] (fun t k => XT.acmpNo X33.here hx rfl (hb hby at_327) rfl rfl rfl (XT.aa_ne_f rfl) k) ?_
      refine Gv T33 331 [(.int (1 : Int32))] (fun t k => XS.iconst X33.here hx rfl (hb hby at_330) k) ?_
      refine Gv T33 335 [(.int (1 : Int32))] (fun t k => XS.goto X33.here hx rfl (pc0 := 331) (pc' := 335) rfl (hb hby at_331) (by decide) (by decide) k) ?_
      exact finN (Q := (own_Q31 Z x1 x2 x3 x4 z0 oe va kv aL sL tL kL aS sS tS kS aH sH tH kH h0 n0)) (F := EndH Z consts_1) (C := (room_1).cells) (S := (room_1).slots) X33 hx (t := .boolean) Bd.returns (by simp) (z' := (1 : Int32)) rfl (hb hby at_335) e33 ⟨rfl, N31, trivial⟩ (lvH X33 hlk hS27 e33 (Nat.le_trans (Nat.le_refl _) K28.1) hZ27 hEL hR29 (by decide) (by decide))
    · obtain ⟨_, T34, L34, X34, ⟨r34, rfl, M34, K34, f34_0, f34_1⟩, st34⟩ := callStatic X27 hx hZ27 hown27 (W_ hw 34 rfl) (W_ hw 35 rfl) (W_ hw 36 rfl) (W_ hw 37 rfl) (by decide) (argsL := [(.ref sa)]) (rest := []) (own_m13 l Z a0 hw [] sa st_ sk_ cs z0 oe va kv aL sL tL kL aS sS tS kS aH sH tH kH h27 n0 O27 hz0 hcs lcs hc O_1 O_2 O_3 O_4 O_5 O_6 O_7 O_8 O_9 O_10 O_11 O_12 O_13 O_14 O_15 O_16 O_17 O_18 O_19 O_20 O_21 O_22 O_23 F27_0 F27_1 F27_2 F27_3) e27 (lenOf own_pd7 rfl) (pc := 273) (Ls := #[iv x1, iv x2, iv x3, lv_ x4, s_, iv kk, iv ee, iv ch, rv sa, iv (1 : Int32), rv ar, iv ix, iv oc, u_, u_]) (st := [(.ref sa)]) rfl (by rw [hml]; rfl) (hb hby at_273) (W := 0) (Nat.le_of_eq rfl) (by decide) (by decide) (by decide) (by decide)
      have N34 := Fr.app N27 M34
      have hq35 := CHr.keep K34 sf0 hR27.1
      have hR35 := CHr.trans hR27 hq35
      refine Goes.via (B := T34.setTop (mkF m 276 #[iv x1, iv x2, iv x3, lv_ x4, s_, iv kk, iv ee, iv ch, rv sa, iv (1 : Int32), rv ar, iv ix, iv oc, u_, u_] [(.ref r34)])) (fun t k => st34 _ k) ?_
      refine Gv T34 278 [] (fun t k => XS.astore X34.here hx rfl (hb hby at_276) rfl rfl (l' := #[iv x1, iv x2, iv x3, lv_ x4, s_, iv kk, iv ee, iv ch, rv sa, iv (1 : Int32), rv r34, iv ix, iv oc, u_, u_]) rfl k) ?_
      refine Gv T34 280 [(.int (1 : Int32))] (fun t k => XS.iload X34.here hx rfl (hb hby at_278) rfl k) ?_
      refine Gv T34 297 [] (fun t k => XS.ifYes X34.here hx rfl (pc0 := 280) (pc' := 297) rfl (hb hby at_280) rfl (XT.i0_ge_t (by decide)) (by decide) (by decide) k) ?_
      refine Gv T34 299 [(.ref r34)] (fun t k => XS.aload X34.here hx rfl (hb hby at_297) rfl rfl k) ?_
      obtain ⟨_, T36, L36, X36, ⟨rfl, M36, K36⟩, st36⟩ := callVirt X34 hx hZ27 hown27 (W_ hw 85 rfl) (W_ hw 86 rfl) (W_ hw 88 rfl) (notFace_of_selects (args := #[]) (mvT hZ27 (W_ hw 88 rfl))) (W_ hw 87 rfl) (W_ hw 70 rfl) (W_ hw 89 rfl) (by decide) (argsL := []) (rest := []) (own_m8 l Z a0 hw [] r34 aS T34.heap n0 (O27.keep K34 all0) f34_0 f34_1) rfl f34_0 (lenOf own_pd8 rfl) (pc := 299) (Ls := #[iv x1, iv x2, iv x3, lv_ x4, s_, iv kk, iv ee, iv ch, rv sa, iv (1 : Int32), rv r34, iv ix, iv oc, u_, u_]) (st := [(.ref r34)]) rfl (by rw [hml]; rfl) (hb hby at_299) (W := 0) (Nat.le_of_eq rfl) (by decide) (by decide) (by decide) (by decide)
      have N36 := Fr.app N34 M36
      refine Goes.via (B := T36.setTop (mkF m 302 #[iv x1, iv x2, iv x3, lv_ x4, s_, iv kk, iv ee, iv ch, rv sa, iv (1 : Int32), rv r34, iv ix, iv oc, u_, u_] [(.int (1 : Int32))])) (fun t k => st36 _ k) ?_
      refine Gv T36 307 [] (fun t k => XS.ifYes X36.here hx rfl (pc0 := 302) (pc' := 307) rfl (hb hby at_302) rfl (XT.i0_ne_t (by decide)) (by decide) (by decide) k) ?_
      refine Gv T36 309 [(.ref r34)] (fun t k => XS.aload X36.here hx rfl (hb hby at_307) rfl rfl k) ?_
      obtain ⟨_, T37, L37, X37, ⟨rfl, M37, K37⟩, st37⟩ := callVirt X36 hx hZ27 hown27 (W_ hw 90 rfl) (W_ hw 91 rfl) (W_ hw 93 rfl) (notFace_of_selects (args := #[]) (mvT hZ27 (W_ hw 93 rfl))) (W_ hw 92 rfl) (W_ hw 70 rfl) (W_ hw 94 rfl) (by decide) (argsL := []) (rest := []) (own_m10 l Z a0 hw [] r34 aS T34.heap n0 (O27.keep K34 all0) f34_0 f34_1) K36 f34_0 (lenOf own_pd9 rfl) (pc := 309) (Ls := #[iv x1, iv x2, iv x3, lv_ x4, s_, iv kk, iv ee, iv ch, rv sa, iv (1 : Int32), rv r34, iv ix, iv oc, u_, u_]) (st := [(.ref r34)]) rfl (by rw [hml]; rfl) (hb hby at_309) (W := 0) (Nat.le_of_eq rfl) (by decide) (by decide) (by decide) (by decide)
      have N37 := Fr.app N36 M37
      refine Goes.via (B := T37.setTop (mkF m 312 #[iv x1, iv x2, iv x3, lv_ x4, s_, iv kk, iv ee, iv ch, rv sa, iv (1 : Int32), rv r34, iv ix, iv oc, u_, u_] [(.ref aS)])) (fun t k => st37 _ k) ?_
      obtain ⟨T38, X38, e38, st38⟩ := castY X37 hx hZ27 hown27 (W_ hw 95 rfl) K37 (Ins.self (O_8.ext (O27.keep K34 all0).2)) (g := (mkF m 312 #[iv x1, iv x2, iv x3, lv_ x4, s_, iv kk, iv ee, iv ch, rv sa, iv (1 : Int32), rv r34, iv ix, iv oc, u_, u_] [(.ref aS)])) rfl rfl (hb hby at_312)
      refine Goes.via (B := T38.setTop (mkF m 315 #[iv x1, iv x2, iv x3, lv_ x4, s_, iv kk, iv ee, iv ch, rv sa, iv (1 : Int32), rv r34, iv ix, iv oc, u_, u_] [(.ref aS)])) (fun t k => st38 _ k) ?_
      refine Gv T38 317 [] (fun t k => XS.astore X38.here hx rfl (hb hby at_315) rfl rfl (l' := #[iv x1, iv x2, iv x3, lv_ x4, s_, iv kk, iv ee, iv ch, rv sa, iv (1 : Int32), rv r34, rv aS, iv oc, u_, u_]) rfl k) ?_
      refine Gv T38 319 [(.int (1 : Int32))] (fun t k => XS.iload X38.here hx rfl (hb hby at_317) rfl k) ?_
      refine Gv T38 336 [] (fun t k => XS.ifYes X38.here hx rfl (pc0 := 319) (pc' := 336) rfl (hb hby at_319) rfl (XT.i0_ne_t (by decide)) (by decide) (by decide) k) ?_
      refine Gv T38 338 [(.int (1 : Int32))] (fun t k => XS.iload X38.here hx rfl (hb hby at_336) rfl k) ?_
      refine Gv T38 339 [(.int (1 : Int32)), (.int (1 : Int32))] (fun t k => XS.iconst X38.here hx rfl (hb hby at_338) k) ?_
      refine Gv T38 342 [] (fun t k => XS.icmpNo X38.here hx rfl (hb hby at_339) rfl (XT.ii_ne_f rfl) k) ?_
      refine Gv T38 344 [(.ref aS)] (fun t k => XS.aload X38.here hx rfl (hb hby at_342) rfl rfl k) ?_
      obtain ⟨T39, X39, e39, st39⟩ := getS2 X38 hx hZ27 hown27 (host := "") (Or.inl (W_ hw 111 rfl)) Via.refl e38 (Sta.ext (O27.keep K34 all0).2 O_27) (g := (mkF m 344 #[iv x1, iv x2, iv x3, lv_ x4, s_, iv kk, iv ee, iv ch, rv sa, iv (1 : Int32), rv r34, rv aS, iv oc, u_, u_] [(.ref aS)])) rfl (hb hby at_344)
      refine Goes.via (B := T39.setTop (mkF m 347 #[iv x1, iv x2, iv x3, lv_ x4, s_, iv kk, iv ee, iv ch, rv sa, iv (1 : Int32), rv r34, rv aS, iv oc, u_, u_] [(.ref aS), (.ref aS)])) (fun t k => st39 _ k) ?_
      refine Gv T39 350 [] (fun t k => XT.acmpNo X39.here hx rfl (hb hby at_347) rfl rfl rfl (XT.aa_ne_f rfl) k) ?_
      refine Gv T39 351 [(.int (1 : Int32))] (fun t k => XS.iconst X39.here hx rfl (hb hby at_350) k) ?_
      refine Gv T39 355 [(.int (1 : Int32))] (fun t k => XS.goto X39.here hx rfl (pc0 := 351) (pc' := 355) rfl (hb hby at_351) (by decide) (by decide) k) ?_
      exact finN (Q := (own_Q31 Z x1 x2 x3 x4 z0 oe va kv aL sL tL kL aS sS tS kS aH sH tH kH h0 n0)) (F := EndH Z consts_1) (C := (room_1).cells) (S := (room_1).slots) X39 hx (t := .boolean) Bd.returns (by simp) (z' := (1 : Int32)) rfl (hb hby at_355) e39 ⟨rfl, N37, trivial⟩ (lvH X39 hlk hS27 e39 (Nat.le_trans (Nat.le_refl _) K34.1) hZ27 hEL hR35 (by decide) (by decide))
    · obtain ⟨_, T40, L40, X40, ⟨r40, rfl, M40, K40, f40_0, f40_1⟩, st40⟩ := callStatic X27 hx hZ27 hown27 (W_ hw 34 rfl) (W_ hw 35 rfl) (W_ hw 36 rfl) (W_ hw 37 rfl) (by decide) (argsL := [(.ref sa)]) (rest := []) (own_m14 l Z a0 hw [] sa st_ sk_ cs z0 oe va kv aL sL tL kL aS sS tS kS aH sH tH kH h27 n0 O27 hz0 hcs lcs hc O_1 O_2 O_3 O_4 O_5 O_6 O_7 O_8 O_9 O_10 O_11 O_12 O_13 O_14 O_15 O_16 O_17 O_18 O_19 O_20 O_21 O_22 O_23 F27_0 F27_1 F27_2 F27_3) e27 (lenOf own_pd7 rfl) (pc := 273) (Ls := #[iv x1, iv x2, iv x3, lv_ x4, s_, iv kk, iv ee, iv ch, rv sa, iv (2 : Int32), rv ar, iv ix, iv oc, u_, u_]) (st := [(.ref sa)]) rfl (by rw [hml]; rfl) (hb hby at_273) (W := 0) (Nat.le_of_eq rfl) (by decide) (by decide) (by decide) (by decide)
      have N40 := Fr.app N27 M40
      have hq41 := CHr.keep K40 sf0 hR27.1
      have hR41 := CHr.trans hR27 hq41
      refine Goes.via (B := T40.setTop (mkF m 276 #[iv x1, iv x2, iv x3, lv_ x4, s_, iv kk, iv ee, iv ch, rv sa, iv (2 : Int32), rv ar, iv ix, iv oc, u_, u_] [(.ref r40)])) (fun t k => st40 _ k) ?_
      refine Gv T40 278 [] (fun t k => XS.astore X40.here hx rfl (hb hby at_276) rfl rfl (l' := #[iv x1, iv x2, iv x3, lv_ x4, s_, iv kk, iv ee, iv ch, rv sa, iv (2 : Int32), rv r40, iv ix, iv oc, u_, u_]) rfl k) ?_
      refine Gv T40 280 [(.int (2 : Int32))] (fun t k => XS.iload X40.here hx rfl (hb hby at_278) rfl k) ?_
      refine Gv T40 297 [] (fun t k => XS.ifYes X40.here hx rfl (pc0 := 280) (pc' := 297) rfl (hb hby at_280) rfl (XT.i0_ge_t (by decide)) (by decide) (by decide) k) ?_
      refine Gv T40 299 [(.ref r40)] (fun t k => XS.aload X40.here hx rfl (hb hby at_297) rfl rfl k) ?_
      obtain ⟨_, T42, L42, X42, ⟨rfl, M42, K42⟩, st42⟩ := callVirt X40 hx hZ27 hown27 (W_ hw 85 rfl) (W_ hw 86 rfl) (W_ hw 88 rfl) (notFace_of_selects (args := #[]) (mvT hZ27 (W_ hw 88 rfl))) (W_ hw 87 rfl) (W_ hw 70 rfl) (W_ hw 89 rfl) (by decide) (argsL := []) (rest := []) (own_m8 l Z a0 hw [] r40 aH T40.heap n0 (O27.keep K40 all0) f40_0 f40_1) rfl f40_0 (lenOf own_pd8 rfl) (pc := 299) (Ls := #[iv x1, iv x2, iv x3, lv_ x4, s_, iv kk, iv ee, iv ch, rv sa, iv (2 : Int32), rv r40, iv ix, iv oc, u_, u_]) (st := [(.ref r40)]) rfl (by rw [hml]; rfl) (hb hby at_299) (W := 0) (Nat.le_of_eq rfl) (by decide) (by decide) (by decide) (by decide)
      have N42 := Fr.app N40 M42
      refine Goes.via (B := T42.setTop (mkF m 302 #[iv x1, iv x2, iv x3, lv_ x4, s_, iv kk, iv ee, iv ch, rv sa, iv (2 : Int32), rv r40, iv ix, iv oc, u_, u_] [(.int (1 : Int32))])) (fun t k => st42 _ k) ?_
      refine Gv T42 307 [] (fun t k => XS.ifYes X42.here hx rfl (pc0 := 302) (pc' := 307) rfl (hb hby at_302) rfl (XT.i0_ne_t (by decide)) (by decide) (by decide) k) ?_
      refine Gv T42 309 [(.ref r40)] (fun t k => XS.aload X42.here hx rfl (hb hby at_307) rfl rfl k) ?_
      obtain ⟨_, T43, L43, X43, ⟨rfl, M43, K43⟩, st43⟩ := callVirt X42 hx hZ27 hown27 (W_ hw 90 rfl) (W_ hw 91 rfl) (W_ hw 93 rfl) (notFace_of_selects (args := #[]) (mvT hZ27 (W_ hw 93 rfl))) (W_ hw 92 rfl) (W_ hw 70 rfl) (W_ hw 94 rfl) (by decide) (argsL := []) (rest := []) (own_m10 l Z a0 hw [] r40 aH T40.heap n0 (O27.keep K40 all0) f40_0 f40_1) K42 f40_0 (lenOf own_pd9 rfl) (pc := 309) (Ls := #[iv x1, iv x2, iv x3, lv_ x4, s_, iv kk, iv ee, iv ch, rv sa, iv (2 : Int32), rv r40, iv ix, iv oc, u_, u_]) (st := [(.ref r40)]) rfl (by rw [hml]; rfl) (hb hby at_309) (W := 0) (Nat.le_of_eq rfl) (by decide) (by decide) (by decide) (by decide)
      have N43 := Fr.app N42 M43
      refine Goes.via (B := T43.setTop (mkF m 312 #[iv x1, iv x2, iv x3, lv_ x4, s_, iv kk, iv ee, iv ch, rv sa, iv (2 : Int32), rv r40, iv ix, iv oc, u_, u_] [(.ref aH)])) (fun t k => st43 _ k) ?_
      obtain ⟨T44, X44, e44, st44⟩ := castY X43 hx hZ27 hown27 (W_ hw 95 rfl) K43 (Ins.self (O_14.ext (O27.keep K40 all0).2)) (g := (mkF m 312 #[iv x1, iv x2, iv x3, lv_ x4, s_, iv kk, iv ee, iv ch, rv sa, iv (2 : Int32), rv r40, iv ix, iv oc, u_, u_] [(.ref aH)])) rfl rfl (hb hby at_312)
      refine Goes.via (B := T44.setTop (mkF m 315 #[iv x1, iv x2, iv x3, lv_ x4, s_, iv kk, iv ee, iv ch, rv sa, iv (2 : Int32), rv r40, iv ix, iv oc, u_, u_] [(.ref aH)])) (fun t k => st44 _ k) ?_
      refine Gv T44 317 [] (fun t k => XS.astore X44.here hx rfl (hb hby at_315) rfl rfl (l' := #[iv x1, iv x2, iv x3, lv_ x4, s_, iv kk, iv ee, iv ch, rv sa, iv (2 : Int32), rv r40, rv aH, iv oc, u_, u_]) rfl k) ?_
      refine Gv T44 319 [(.int (2 : Int32))] (fun t k => XS.iload X44.here hx rfl (hb hby at_317) rfl k) ?_
      refine Gv T44 336 [] (fun t k => XS.ifYes X44.here hx rfl (pc0 := 319) (pc' := 336) rfl (hb hby at_319) rfl (XT.i0_ne_t (by decide)) (by decide) (by decide) k) ?_
      refine Gv T44 338 [(.int (2 : Int32))] (fun t k => XS.iload X44.here hx rfl (hb hby at_336) rfl k) ?_
      refine Gv T44 339 [(.int (1 : Int32)), (.int (2 : Int32))] (fun t k => XS.iconst X44.here hx rfl (hb hby at_338) k) ?_
      refine Gv T44 356 [] (fun t k => XS.icmpYes X44.here hx rfl (pc0 := 339) (pc' := 356) rfl (hb hby at_339) rfl (XT.ii_ne_t (by decide)) (by decide) (by decide) k) ?_
      refine Gv T44 358 [(.ref aH)] (fun t k => XS.aload X44.here hx rfl (hb hby at_356) rfl rfl k) ?_
      obtain ⟨T45, X45, e45, st45⟩ := getS2 X44 hx hZ27 hown27 (host := "") (Or.inl (W_ hw 103 rfl)) Via.refl e44 (Sta.ext (O27.keep K40 all0).2 O_28) (g := (mkF m 358 #[iv x1, iv x2, iv x3, lv_ x4, s_, iv kk, iv ee, iv ch, rv sa, iv (2 : Int32), rv r40, rv aH, iv oc, u_, u_] [(.ref aH)])) rfl (hb hby at_358)
      refine Goes.via (B := T45.setTop (mkF m 361 #[iv x1, iv x2, iv x3, lv_ x4, s_, iv kk, iv ee, iv ch, rv sa, iv (2 : Int32), rv r40, rv aH, iv oc, u_, u_] [(.ref aH), (.ref aH)])) (fun t k => st45 _ k) ?_
      refine Gv T45 364 [] (fun t k => XT.acmpNo X45.here hx rfl (hb hby at_361) rfl rfl rfl (XT.aa_ne_f rfl) k) ?_
      refine Gv T45 365 [(.int (1 : Int32))] (fun t k => XS.iconst X45.here hx rfl (hb hby at_364) k) ?_
      refine Gv T45 369 [(.int (1 : Int32))] (fun t k => XS.goto X45.here hx rfl (pc0 := 365) (pc' := 369) rfl (hb hby at_365) (by decide) (by decide) k) ?_
      exact finN (Q := (own_Q31 Z x1 x2 x3 x4 z0 oe va kv aL sL tL kL aS sS tS kS aH sH tH kH h0 n0)) (F := EndH Z consts_1) (C := (room_1).cells) (S := (room_1).slots) X45 hx (t := .boolean) Bd.returns (by simp) (z' := (1 : Int32)) rfl (hb hby at_369) e45 ⟨rfl, N43, trivial⟩ (lvH X45 hlk hS27 e45 (Nat.le_trans (Nat.le_refl _) K40.1) hZ27 hEL hR41 (by decide) (by decide))
    · obtain ⟨_, T46, L46, X46, ⟨rfl, M46, K46⟩, st46⟩ := callStatic X27 hx hZ27 hown27 (W_ hw 34 rfl) (W_ hw 35 rfl) (W_ hw 36 rfl) (W_ hw 37 rfl) (by decide) (argsL := [(.ref sa)]) (rest := []) (own_m15 l Z a0 hw [] sa st_ sk_ cs z0 oe va kv aL sL tL kL aS sS tS kS aH sH tH kH h27 n0 O27 hz0 hcs lcs hc O_1 O_2 O_3 O_4 O_5 O_6 O_7 O_8 O_9 O_10 O_11 O_12 O_13 O_14 O_15 O_16 O_17 O_18 O_19 O_20 O_21 O_22 O_23 F27_0 F27_1 F27_2 F27_3) e27 (lenOf own_pd7 rfl) (pc := 273) (Ls := #[iv x1, iv x2, iv x3, lv_ x4, s_, iv kk, iv ee, iv ch, rv sa, iv (-1 : Int32), rv ar, iv ix, iv oc, u_, u_]) (st := [(.ref sa)]) rfl (by rw [hml]; rfl) (hb hby at_273) (W := 0) (Nat.le_of_eq rfl) (by decide) (by decide) (by decide) (by decide)
      have N46 := Fr.app N27 M46
      have hq47 := CHr.keep K46 sf0 hR27.1
      have hR47 := CHr.trans hR27 hq47
      refine Goes.via (B := T46.setTop (mkF m 276 #[iv x1, iv x2, iv x3, lv_ x4, s_, iv kk, iv ee, iv ch, rv sa, iv (-1 : Int32), rv ar, iv ix, iv oc, u_, u_] [(.ref oe)])) (fun t k => st46 _ k) ?_
      refine Gv T46 278 [] (fun t k => XS.astore X46.here hx rfl (hb hby at_276) rfl rfl (l' := #[iv x1, iv x2, iv x3, lv_ x4, s_, iv kk, iv ee, iv ch, rv sa, iv (-1 : Int32), rv oe, iv ix, iv oc, u_, u_]) rfl k) ?_
      refine Gv T46 280 [(.int (-1 : Int32))] (fun t k => XS.iload X46.here hx rfl (hb hby at_278) rfl k) ?_
      refine Gv T46 283 [] (fun t k => XS.ifNo X46.here hx rfl (hb hby at_280) rfl (XT.i0_ge_f (by decide)) k) ?_
      refine Gv T46 285 [(.ref oe)] (fun t k => XS.aload X46.here hx rfl (hb hby at_283) rfl rfl k) ?_
      obtain ⟨_, T48, L48, X48, ⟨rfl, M48, K48⟩, st48⟩ := callVirt X46 hx hZ27 hown27 (W_ hw 85 rfl) (W_ hw 86 rfl) (W_ hw 88 rfl) (notFace_of_selects (args := #[]) (mvT hZ27 (W_ hw 88 rfl))) (W_ hw 87 rfl) (W_ hw 70 rfl) (W_ hw 89 rfl) (by decide) (argsL := []) (rest := []) (own_m9 l Z a0 hw [] oe T46.heap n0 (O27.keep K46 all0) O_24 O_25) rfl (O_24.ext (O27.keep K46 all0).2) (lenOf own_pd8 rfl) (pc := 285) (Ls := #[iv x1, iv x2, iv x3, lv_ x4, s_, iv kk, iv ee, iv ch, rv sa, iv (-1 : Int32), rv oe, iv ix, iv oc, u_, u_]) (st := [(.ref oe)]) rfl (by rw [hml]; rfl) (hb hby at_285) (W := 0) (Nat.le_of_eq rfl) (by decide) (by decide) (by decide) (by decide)
      have N48 := Fr.app N46 M48
      refine Goes.via (B := T48.setTop (mkF m 288 #[iv x1, iv x2, iv x3, lv_ x4, s_, iv kk, iv ee, iv ch, rv sa, iv (-1 : Int32), rv oe, iv ix, iv oc, u_, u_] [(.int (0 : Int32))])) (fun t k => st48 _ k) ?_
      refine Gv T48 291 [] (fun t k => XS.ifNo X48.here hx rfl (hb hby at_288) rfl (XT.i0_ne_f rfl) k) ?_
      refine Gv T48 292 [(.int (1 : Int32))] (fun t k => XS.iconst X48.here hx rfl (hb hby at_291) k) ?_
      refine Gv T48 296 [(.int (1 : Int32))] (fun t k => XS.goto X48.here hx rfl (pc0 := 292) (pc' := 296) rfl (hb hby at_292) (by decide) (by decide) k) ?_
      exact finN (Q := (own_Q31 Z x1 x2 x3 x4 z0 oe va kv aL sL tL kL aS sS tS kS aH sH tH kH h0 n0)) (F := EndH Z consts_1) (C := (room_1).cells) (S := (room_1).slots) X48 hx (t := .boolean) Bd.returns (by simp) (z' := (1 : Int32)) rfl (hb hby at_296) K48 ⟨rfl, N48, trivial⟩ (lvH X48 hlk hS27 K48 (Nat.le_trans (Nat.le_refl _) K46.1) hZ27 hEL hR47 (by decide) (by decide))
  rcases hkk with rfl | rfl | rfl | rfl
  · refine Gv s₁ 22 [(.int (0 : Int32))] (fun t k => XS.iload X0.here hx rfl (hb hby at_20) rfl k) ?_
    refine Gv s₁ 23 [(.int (3 : Int32)), (.int (0 : Int32))] (fun t k => XS.iconst X0.here hx rfl (hb hby at_22) k) ?_
    refine Gv s₁ 193 [] (fun t k => XS.icmpYes X0.here hx rfl (pc0 := 23) (pc' := 193) rfl (hb hby at_23) rfl (XT.ii_ne_t (by decide)) (by decide) (by decide) k) ?_
    refine Gv s₁ 195 [(.int (0 : Int32))] (fun t k => XS.iload X0.here hx rfl (hb hby at_193) rfl k) ?_
    refine Gv s₁ 197 [(.int ee), (.int (0 : Int32))] (fun t k => XS.iload X0.here hx rfl (hb hby at_195) rfl k) ?_
    refine Gv s₁ 199 [(.int ch), (.int ee), (.int (0 : Int32))] (fun t k => XS.iload X0.here hx rfl (hb hby at_197) rfl k) ?_
    rcases hee with rfl | rfl | rfl | rfl
    · obtain ⟨_, T49, L49, X49, ⟨r49, kr49, rfl, M49, K49, z49_0, f49_0⟩, st49⟩ := callStatic X0 hx hZ hown (W_ hw 0 rfl) (W_ hw 1 rfl) (W_ hw 2 rfl) (W_ hw 3 rfl) (by decide) (argsL := [(.int (0 : Int32)), (.int (0 : Int32)), (.int ch)]) (rest := []) (own_m17 l Z a0 hw [] ch (0 : Int32) h0 n0 O0 hch (by decide) (by decide)) e0 (lenOf own_pd10 rfl) (pc := 199) (Ls := #[iv x1, iv x2, iv x3, lv_ x4, s_, iv (0 : Int32), iv (0 : Int32), iv ch, u_, u_, u_, u_, u_, u_, u_]) (st := [(.int ch), (.int (0 : Int32)), (.int (0 : Int32))]) rfl (by rw [hml]; rfl) (hb hby at_199) (W := 0) (Nat.le_of_eq rfl) (by decide) (by decide) (by decide) (by decide)
      have N49 := Fr.app N0 M49
      have gn49_0 : n0 ≤ r49 := Nat.le_trans (old_le O0) z49_0
      have hq50 := CHr.keep K49 sf0 hR0.1
      have hR50 := CHr.trans hR0 hq50
      refine Goes.via (B := T49.setTop (mkF m 202 #[iv x1, iv x2, iv x3, lv_ x4, s_, iv (0 : Int32), iv (0 : Int32), iv ch, u_, u_, u_, u_, u_, u_, u_] [(.ref r49)])) (fun t k => st49 _ k) ?_
      refine Gv T49 204 [] (fun t k => XS.astore X49.here hx rfl (hb hby at_202) rfl rfl (l' := #[iv x1, iv x2, iv x3, lv_ x4, s_, iv (0 : Int32), iv (0 : Int32), iv ch, u_, u_, rv r49, u_, u_, u_, u_]) rfl k) ?_
      refine Gv T49 205 [(.int (-1 : Int32))] (fun t k => XS.iconst X49.here hx rfl (hb hby at_204) k) ?_
      refine Gv T49 207 [] (fun t k => XS.istore X49.here hx rfl (hb hby at_205) rfl (l' := #[iv x1, iv x2, iv x3, lv_ x4, s_, iv (0 : Int32), iv (0 : Int32), iv ch, u_, iv (-1 : Int32), rv r49, u_, u_, u_, u_]) rfl k) ?_
      refine Gv T49 209 [(.int (0 : Int32))] (fun t k => XS.iload X49.here hx rfl (hb hby at_207) rfl k) ?_
      refine Gv T49 212 [] (fun t k => XS.ifNo X49.here hx rfl (hb hby at_209) rfl (XT.i0_ne_f rfl) k) ?_
      refine Gv T49 214 [(.int (0 : Int32))] (fun t k => XS.iload X49.here hx rfl (hb hby at_212) rfl k) ?_
      refine Gv T49 216 [] (fun t k => XS.istore X49.here hx rfl (hb hby at_214) rfl (l' := #[iv x1, iv x2, iv x3, lv_ x4, s_, iv (0 : Int32), iv (0 : Int32), iv ch, u_, iv (0 : Int32), rv r49, u_, u_, u_, u_]) rfl k) ?_
      refine Gv T49 260 [] (fun t k => XS.goto X49.here hx rfl (pc0 := 216) (pc' := 260) rfl (hb hby at_216) (by decide) (by decide) k) ?_
      obtain ⟨T51, h51, X51, e51, E51, A51, D51, U51, st51⟩ := newO X49 hx hZ hown (W_ hw 5 rfl) (W_ hw 6 rfl) (W_ hw 7 rfl) rfl (g := (mkF m 260 #[iv x1, iv x2, iv x3, lv_ x4, s_, iv (0 : Int32), iv (0 : Int32), iv ch, u_, iv (0 : Int32), rv r49, u_, u_, u_, u_] [])) rfl (hb hby at_260) (by decide) (by decide)
      obtain ⟨b51, g51⟩ : ∃ z, z = T49.heap.size := ⟨_, rfl⟩
      rw [← g51] at A51 D51 U51 st51
      have gn51 : n0 ≤ b51 := Nat.le_trans (old_le (O0.keep K49 all0)) (Nat.le_of_eq g51.symm)
      have hq52 := CHr.ext E51 hR50.1
      have hR52 := CHr.trans hR50 hq52
      have sf53 := Safe.ext E51 hR50.1 (Safe.new (Nat.le_of_eq g51.symm))
      have F51_coder : Fld Z h51 b51 "java/lang/String" "coder" "B" (.int (0 : Int32)) := D51 (Or.inr (W_ hw 31 rfl)) (ty := .byte) (by decide)
      have F51_value : Fld Z h51 b51 "java/lang/String" "value" "[B" .null := D51 (Or.inr (W_ hw 33 rfl)) (ty := (.array .byte)) (by decide)
      refine Goes.via (B := T51.setTop (mkF m 263 #[iv x1, iv x2, iv x3, lv_ x4, s_, iv (0 : Int32), iv (0 : Int32), iv ch, u_, iv (0 : Int32), rv r49, u_, u_, u_, u_] [(.ref b51)])) (fun t k => st51 _ k) ?_
      refine Gv T51 264 [(.ref b51), (.ref b51)] (fun t k => XS.dup X51.here hx rfl (hb hby at_263) rfl rfl k) ?_
      refine Gv T51 266 [(.ref r49), (.ref b51), (.ref b51)] (fun t k => XS.aload X51.here hx rfl (hb hby at_264) rfl rfl k) ?_
      have hp54 : ∀ c ∈ ([(108 : Int32), (111 : Int32), (119 : Int32)] : List Int32), ¬ c < 0 ∧ ¬ (255 : Int32) < c := by
        intro c hc
        simp only [List.mem_cons, List.not_mem_nil, or_false] at hc
        rcases hc with rfl | rfl | rfl <;> first | exact ⟨by decide, by decide⟩ | skip
      obtain ⟨_, T55, L55, X55, ⟨rfl, M55, K55, E55, C55, t55, kb55, gn55, gs55, nx55, F55, V55⟩, st55⟩ := callInitB X51 hx hZ rfl hown (W_ hw 8 rfl) (W_ hw 9 rfl) (W_ hw 10 rfl) (by decide) (argsL := [(.ref r49)]) (rest := [(.ref b51)]) (W := 1) (StrChars.Road.backV (s := (s.setVm s.vm)) (W := 1) hZ (own_hw_words hw) (kI := 4) (W_ hw 6 rfl) (x := b51) (b := r49) (cs := ([(108 : Int32), (111 : Int32), (119 : Int32)] : List Int32)) (bs := ([(108 : Int32), (111 : Int32), (119 : Int32)] : List Int32).map (fun c => c.toInt8.toInt32)) (n := 3) gn51 (old_le ((O0.keep K49 all0).ext E51)) A51 F51_value F51_coder (f49_0.ext E51) (Sta.ext ((O0.keep K49 all0).ext E51).2 O_1) hz0 rfl rfl (by decide) (by decide) hp54 rfl (by decide) (by decide)) e51 (lenOf own_pd11 rfl) (pc := 266) (Ls := #[iv x1, iv x2, iv x3, lv_ x4, s_, iv (0 : Int32), iv (0 : Int32), iv ch, u_, iv (0 : Int32), rv r49, u_, u_, u_, u_]) (st := [(.ref r49), (.ref b51), (.ref b51)]) rfl (by rw [hml]; rfl) (hb hby at_266) (Nat.le_of_eq rfl) (by decide) (by decide)
      have hq56 := CHr.keep K55 (sfS sf53 sf0) hR52.1
      have hR56 := CHr.trans hR52 hq56
      have N55 := Fr.app N49 M55
      refine Goes.via (B := T55.setTop (mkF m 269 #[iv x1, iv x2, iv x3, lv_ x4, s_, iv (0 : Int32), iv (0 : Int32), iv ch, u_, iv (0 : Int32), rv r49, u_, u_, u_, u_] [(.ref b51)])) (fun t k => st55 _ k) ?_
      have w57 : Arv Z T55.heap t55 kb55 .byte (Int32.ofNat ([(108 : Int32), (111 : Int32), (119 : Int32)] : List Int32).length) ((([(108 : Int32), (111 : Int32), (119 : Int32)] : List Int32).map StrChars.lo8).map Value.int) (.int 0) := V55
      refine Gv T55 271 [] (fun t k => XS.astore X55.here hx rfl (hb hby at_269) rfl rfl (l' := #[iv x1, iv x2, iv x3, lv_ x4, s_, iv (0 : Int32), iv (0 : Int32), iv ch, rv b51, iv (0 : Int32), rv r49, u_, u_, u_, u_]) rfl k) ?_
      obtain ⟨Xr58, hSr58, hZr58, hor58⟩ := rebase (cells := 8) (slots := 96) (X55.more (by decide) (by decide)) hS0 rfl (Nat.le_trans (Nat.le_trans (Nat.le_trans hk0 K49.1) E51.1) K55.1) hZ hown
      exact j3 T55 _ T55.heap Xr58 rfl N55 hSr58 hZr58 hor58 (CHr.trans hR56 (CHv.at X55 hZ hEL hR56.1)) b51 t55 kb55 ([(108 : Int32), (111 : Int32), (119 : Int32)] : List Int32) (0 : Int32) r49 (((O0.keep K49 all0).ext E51).keep K55 (allS gn51 all0)) E55 F55 C55 w57 hp54 (by decide) (Or.inl ⟨rfl, rfl⟩)
    · obtain ⟨_, T59, L59, X59, ⟨r59, kr59, rfl, M59, K59, z59_0, f59_0⟩, st59⟩ := callStatic X0 hx hZ hown (W_ hw 0 rfl) (W_ hw 1 rfl) (W_ hw 2 rfl) (W_ hw 3 rfl) (by decide) (argsL := [(.int (0 : Int32)), (.int (1 : Int32)), (.int ch)]) (rest := []) (own_m17 l Z a0 hw [] ch (1 : Int32) h0 n0 O0 hch (by decide) (by decide)) e0 (lenOf own_pd10 rfl) (pc := 199) (Ls := #[iv x1, iv x2, iv x3, lv_ x4, s_, iv (0 : Int32), iv (1 : Int32), iv ch, u_, u_, u_, u_, u_, u_, u_]) (st := [(.int ch), (.int (1 : Int32)), (.int (0 : Int32))]) rfl (by rw [hml]; rfl) (hb hby at_199) (W := 0) (Nat.le_of_eq rfl) (by decide) (by decide) (by decide) (by decide)
      have N59 := Fr.app N0 M59
      have gn59_0 : n0 ≤ r59 := Nat.le_trans (old_le O0) z59_0
      have hq60 := CHr.keep K59 sf0 hR0.1
      have hR60 := CHr.trans hR0 hq60
      refine Goes.via (B := T59.setTop (mkF m 202 #[iv x1, iv x2, iv x3, lv_ x4, s_, iv (0 : Int32), iv (1 : Int32), iv ch, u_, u_, u_, u_, u_, u_, u_] [(.ref r59)])) (fun t k => st59 _ k) ?_
      refine Gv T59 204 [] (fun t k => XS.astore X59.here hx rfl (hb hby at_202) rfl rfl (l' := #[iv x1, iv x2, iv x3, lv_ x4, s_, iv (0 : Int32), iv (1 : Int32), iv ch, u_, u_, rv r59, u_, u_, u_, u_]) rfl k) ?_
      refine Gv T59 205 [(.int (-1 : Int32))] (fun t k => XS.iconst X59.here hx rfl (hb hby at_204) k) ?_
      refine Gv T59 207 [] (fun t k => XS.istore X59.here hx rfl (hb hby at_205) rfl (l' := #[iv x1, iv x2, iv x3, lv_ x4, s_, iv (0 : Int32), iv (1 : Int32), iv ch, u_, iv (-1 : Int32), rv r59, u_, u_, u_, u_]) rfl k) ?_
      refine Gv T59 209 [(.int (1 : Int32))] (fun t k => XS.iload X59.here hx rfl (hb hby at_207) rfl k) ?_
      refine Gv T59 219 [] (fun t k => XS.ifYes X59.here hx rfl (pc0 := 209) (pc' := 219) rfl (hb hby at_209) rfl (XT.i0_ne_t (by decide)) (by decide) (by decide) k) ?_
      refine Gv T59 221 [(.int (1 : Int32))] (fun t k => XS.iload X59.here hx rfl (hb hby at_219) rfl k) ?_
      refine Gv T59 222 [(.int (1 : Int32)), (.int (1 : Int32))] (fun t k => XS.iconst X59.here hx rfl (hb hby at_221) k) ?_
      refine Gv T59 225 [] (fun t k => XS.icmpNo X59.here hx rfl (hb hby at_222) rfl (XT.ii_ne_f rfl) k) ?_
      refine Gv T59 226 [(.int x2)] (fun t k => XS.iloadN X59.here hx rfl (hb hby at_225) rfl k) ?_
      refine Goes.via (B := T59.setTop (mkF m 228 #[iv x1, iv x2, iv x3, lv_ x4, s_, iv (0 : Int32), iv (1 : Int32), iv ch, u_, iv (-1 : Int32), rv r59, u_, u_, u_, u_] [(.int (2147483647 : Int32)), (.int x2)])) (fun t k => X59.ldcI hx hown (mvT hZ (W_ hw 98 rfl)) rfl (hb hby at_226) k) ?_
      refine Gv T59 229 [(.int (x2 &&& (2147483647 : Int32)))] (fun t k => XS.iand X59.here hx rfl (hb hby at_228) rfl k) ?_
      refine Gv T59 231 [(.ref r59), (.int (x2 &&& (2147483647 : Int32)))] (fun t k => XS.aload X59.here hx rfl (hb hby at_229) rfl rfl k) ?_
      obtain ⟨cl61, Ar61, q61, S61, N61, H61, G61⟩ := id f59_0
      refine Goes.via (B := T59.setTop (mkF m 232 #[iv x1, iv x2, iv x3, lv_ x4, s_, iv (0 : Int32), iv (1 : Int32), iv ch, u_, iv (-1 : Int32), rv r59, u_, u_, u_, u_] [(.int (3 : Int32)), (.int (x2 &&& (2147483647 : Int32)))])) (fun t k => X59.arraylength hx (Ar61.1) (State.isArrayOf_alike hZ.alike Ar61.2.1) (g := (mkF m 231 #[iv x1, iv x2, iv x3, lv_ x4, s_, iv (0 : Int32), iv (1 : Int32), iv ch, u_, iv (-1 : Int32), rv r59, u_, u_, u_, u_] [(.ref r59), (.int (x2 &&& (2147483647 : Int32)))])) rfl rfl (hb hby at_231) t (by rw [(len_of S61 N61)]; exact k)) ?_
      refine Goes.via (B := T59.setTop (mkF m 233 #[iv x1, iv x2, iv x3, lv_ x4, s_, iv (0 : Int32), iv (1 : Int32), iv ch, u_, iv (-1 : Int32), rv r59, u_, u_, u_, u_] [(.int ((x2 &&& (2147483647 : Int32)) % (3 : Int32)))])) (fun t k => iremM X59 hx rfl (hb hby at_232) rfl (by decide) k) ?_
      refine Gv T59 235 [] (fun t k => XS.istore X59.here hx rfl (hb hby at_233) rfl (l' := #[iv x1, iv x2, iv x3, lv_ x4, s_, iv (0 : Int32), iv (1 : Int32), iv ch, u_, iv (-1 : Int32), rv r59, iv ((x2 &&& (2147483647 : Int32)) % (3 : Int32)), u_, u_, u_]) rfl k) ?_
      suffices J62 : ∀ (ix : Int32) (hix : ix = 0 ∨ ix = 1 ∨ ix = 2), Goes p.tables e below (fun t o => ∃ v L, o = .returned v ∧ (own_Q31 Z x1 x2 x3 x4 z0 oe va kv aL sL tL kL aS sS tS kS aH sH tH kH h0 n0) v t.heap L ∧ EndH Z consts_1 s o t L (room_1).cells (room_1).slots) (T59.setTop (mkF m 235 #[iv x1, iv x2, iv x3, lv_ x4, s_, iv (0 : Int32), iv (1 : Int32), iv ch, u_, iv (-1 : Int32), rv r59, iv ix, u_, u_, u_] [])) by exact J62 ((x2 &&& (2147483647 : Int32)) % (3 : Int32)) (own_rem3 (c_and _ _ (by decide)).1)
      intro ix hix
      rcases hix with rfl | rfl | rfl
      · refine Gv T59 237 [(.ref r59)] (fun t k => XS.aload X59.here hx rfl (hb hby at_235) rfl rfl k) ?_
        refine Gv T59 239 [(.int (0 : Int32)), (.ref r59)] (fun t k => XS.iload X59.here hx rfl (hb hby at_237) rfl k) ?_
        obtain ⟨cl63, Ar63, q63, S63, N63, H63, G63⟩ := id f59_0
        have hin63 := inb_of (j := (0 : Int32)) S63 ⟨by decide, by decide⟩
        refine Goes.via (B := T59.setTop (mkF m 240 #[iv x1, iv x2, iv x3, lv_ x4, s_, iv (0 : Int32), iv (1 : Int32), iv ch, u_, iv (-1 : Int32), rv r59, iv (0 : Int32), u_, u_, u_] [(.int (108 : Int32))])) (fun t k => X59.caload hx (j := (0 : Int32)) (v := (.int (108 : Int32))) (Ar63.1) (State.isArrayOf_alike hZ.alike Ar63.2.1) Ar63.2.2 hin63 (H63.at hin63 rfl) (g := (mkF m 239 #[iv x1, iv x2, iv x3, lv_ x4, s_, iv (0 : Int32), iv (1 : Int32), iv ch, u_, iv (-1 : Int32), rv r59, iv (0 : Int32), u_, u_, u_] [(.int (0 : Int32)), (.ref r59)])) rfl rfl (hb hby at_239) t k) ?_
        refine Gv T59 242 [] (fun t k => XS.istore X59.here hx rfl (hb hby at_240) rfl (l' := #[iv x1, iv x2, iv x3, lv_ x4, s_, iv (0 : Int32), iv (1 : Int32), iv ch, u_, iv (-1 : Int32), rv r59, iv (0 : Int32), iv (108 : Int32), u_, u_]) rfl k) ?_
        refine Gv T59 244 [(.ref r59)] (fun t k => XS.aload X59.here hx rfl (hb hby at_242) rfl rfl k) ?_
        refine Gv T59 246 [(.int (0 : Int32)), (.ref r59)] (fun t k => XS.iload X59.here hx rfl (hb hby at_244) rfl k) ?_
        refine Gv T59 248 [(.int ch), (.int (0 : Int32)), (.ref r59)] (fun t k => XS.iload X59.here hx rfl (hb hby at_246) rfl k) ?_
        obtain ⟨cl64, Ar64, q64, S64, N64, H64, G64⟩ := id f59_0
        obtain ⟨T64, h64, X64, e64, W64, st64⟩ := stC X59 hx hZ rfl Ar64 (j := (0 : Int32)) (inb_of S64 ⟨by decide, by decide⟩) (g := (mkF m 248 #[iv x1, iv x2, iv x3, lv_ x4, s_, iv (0 : Int32), iv (1 : Int32), iv ch, u_, iv (-1 : Int32), rv r59, iv (0 : Int32), iv (108 : Int32), u_, u_] [(.int ch), (.int (0 : Int32)), (.ref r59)])) rfl rfl (hb hby at_248)
        have wn64 : nar .char ch = ch := own_i2c hch
        have fn64 : fits .char (.int ch) = true := by rw [← wn64]; exact fits_nar_char _
        rw [wn64] at W64
        have Nf64 := Fr.snoc X64 N59 gn59_0
        have hq65 := CHr.wr W64 (Safe.arv hZ.alike f59_0 (by decide)) hR60.1
        have hR65 := CHr.trans hR60 hq65
        have V64 : Arv Z h64 r59 kr59 .char (3 : Int32) [(.int ch), (.int (111 : Int32)), (.int (119 : Int32))] (.int (0 : Int32)) := Arv.set Ar64 q64 S64 N64 H64 G64 fn64 W64 0 rfl (Nat.le_of_ble_eq_true rfl)
        refine Goes.via (B := T64.setTop (mkF m 249 #[iv x1, iv x2, iv x3, lv_ x4, s_, iv (0 : Int32), iv (1 : Int32), iv ch, u_, iv (-1 : Int32), rv r59, iv (0 : Int32), iv (108 : Int32), u_, u_] [])) (fun t k => st64 _ k) ?_
        refine Gv T64 251 [(.int (108 : Int32))] (fun t k => XS.iload X64.here hx rfl (hb hby at_249) rfl k) ?_
        refine Gv T64 253 [(.int ch), (.int (108 : Int32))] (fun t k => XS.iload X64.here hx rfl (hb hby at_251) rfl k) ?_
        have j66 : ∀ (ew : Int32) (hew : (([ch, (111 : Int32), (119 : Int32)] : List Int32) = own_low ∧ ew = (0 : Int32)) ∨ (([ch, (111 : Int32), (119 : Int32)] : List Int32) = own_sub ∧ ew = (1 : Int32)) ∨ (([ch, (111 : Int32), (119 : Int32)] : List Int32) = own_hig ∧ ew = (2 : Int32)) ∨ ((¬ ([ch, (111 : Int32), (119 : Int32)] : List Int32) = own_low ∧ ¬ ([ch, (111 : Int32), (119 : Int32)] : List Int32) = own_sub ∧ ¬ ([ch, (111 : Int32), (119 : Int32)] : List Int32) = own_hig) ∧ ew = (-1 : Int32))) , Goes p.tables e below (fun t o => ∃ v L, o = .returned v ∧ (own_Q31 Z x1 x2 x3 x4 z0 oe va kv aL sL tL kL aS sS tS kS aH sH tH kH h0 n0) v t.heap L ∧ EndH Z consts_1 s o t L (room_1).cells (room_1).slots) (T64.setTop (mkF m 260 #[iv x1, iv x2, iv x3, lv_ x4, s_, iv (0 : Int32), iv (1 : Int32), iv ch, u_, iv ew, rv r59, iv (0 : Int32), iv (108 : Int32), u_, u_] [])) := by
          intro ew hew
          obtain ⟨T68, h68, X68, e68, E68, A68, D68, U68, st68⟩ := newO X64 hx hZ hown (W_ hw 5 rfl) (W_ hw 6 rfl) (W_ hw 7 rfl) e64 (g := (mkF m 260 #[iv x1, iv x2, iv x3, lv_ x4, s_, iv (0 : Int32), iv (1 : Int32), iv ch, u_, iv ew, rv r59, iv (0 : Int32), iv (108 : Int32), u_, u_] [])) rfl (hb hby at_260) (by decide) (by decide)
          obtain ⟨b68, g68⟩ : ∃ z, z = h64.size := ⟨_, rfl⟩
          rw [← g68] at A68 D68 U68 st68
          have gn68 : n0 ≤ b68 := Nat.le_trans (old_le ((O0.keep K59 all0).wr W64 gn59_0)) (Nat.le_of_eq g68.symm)
          have hq69 := CHr.ext E68 hR65.1
          have hR69 := CHr.trans hR65 hq69
          have sf70 := Safe.ext E68 hR65.1 (Safe.new (Nat.le_of_eq g68.symm))
          have F68_coder : Fld Z h68 b68 "java/lang/String" "coder" "B" (.int (0 : Int32)) := D68 (Or.inr (W_ hw 31 rfl)) (ty := .byte) (by decide)
          have F68_value : Fld Z h68 b68 "java/lang/String" "value" "[B" .null := D68 (Or.inr (W_ hw 33 rfl)) (ty := (.array .byte)) (by decide)
          refine Goes.via (B := T68.setTop (mkF m 263 #[iv x1, iv x2, iv x3, lv_ x4, s_, iv (0 : Int32), iv (1 : Int32), iv ch, u_, iv ew, rv r59, iv (0 : Int32), iv (108 : Int32), u_, u_] [(.ref b68)])) (fun t k => st68 _ k) ?_
          refine Gv T68 264 [(.ref b68), (.ref b68)] (fun t k => XS.dup X68.here hx rfl (hb hby at_263) rfl rfl k) ?_
          refine Gv T68 266 [(.ref r59), (.ref b68), (.ref b68)] (fun t k => XS.aload X68.here hx rfl (hb hby at_264) rfl rfl k) ?_
          have hp71 : ∀ c ∈ ([ch, (111 : Int32), (119 : Int32)] : List Int32), ¬ c < 0 ∧ ¬ (255 : Int32) < c := by
            intro c hc
            simp only [List.mem_cons, List.not_mem_nil, or_false] at hc
            rcases hc with rfl | rfl | rfl <;> first | exact ⟨by decide, by decide⟩ | exact hch
          obtain ⟨_, T72, L72, X72, ⟨rfl, M72, K72, E72, C72, t72, kb72, gn72, gs72, nx72, F72, V72⟩, st72⟩ := callInitB X68 hx hZ rfl hown (W_ hw 8 rfl) (W_ hw 9 rfl) (W_ hw 10 rfl) (by decide) (argsL := [(.ref r59)]) (rest := [(.ref b68)]) (W := 1) (StrChars.Road.backV (s := (s.setVm s.vm)) (W := 1) hZ (own_hw_words hw) (kI := 4) (W_ hw 6 rfl) (x := b68) (b := r59) (cs := ([ch, (111 : Int32), (119 : Int32)] : List Int32)) (bs := ([ch, (111 : Int32), (119 : Int32)] : List Int32).map (fun c => c.toInt8.toInt32)) (n := 3) gn68 (old_le (((O0.keep K59 all0).wr W64 gn59_0).ext E68)) A68 F68_value F68_coder (V64.ext E68) (Sta.ext (((O0.keep K59 all0).wr W64 gn59_0).ext E68).2 O_1) hz0 rfl rfl (by decide) (by decide) hp71 rfl (by decide) (by decide)) e68 (lenOf own_pd11 rfl) (pc := 266) (Ls := #[iv x1, iv x2, iv x3, lv_ x4, s_, iv (0 : Int32), iv (1 : Int32), iv ch, u_, iv ew, rv r59, iv (0 : Int32), iv (108 : Int32), u_, u_]) (st := [(.ref r59), (.ref b68), (.ref b68)]) rfl (by rw [hml]; rfl) (hb hby at_266) (Nat.le_of_eq rfl) (by decide) (by decide)
          have hq73 := CHr.keep K72 (sfS sf70 sf0) hR69.1
          have hR73 := CHr.trans hR69 hq73
          have N72 := Fr.app Nf64 M72
          refine Goes.via (B := T72.setTop (mkF m 269 #[iv x1, iv x2, iv x3, lv_ x4, s_, iv (0 : Int32), iv (1 : Int32), iv ch, u_, iv ew, rv r59, iv (0 : Int32), iv (108 : Int32), u_, u_] [(.ref b68)])) (fun t k => st72 _ k) ?_
          have w74 : Arv Z T72.heap t72 kb72 .byte (Int32.ofNat ([ch, (111 : Int32), (119 : Int32)] : List Int32).length) ((([ch, (111 : Int32), (119 : Int32)] : List Int32).map StrChars.lo8).map Value.int) (.int 0) := V72
          refine Gv T72 271 [] (fun t k => XS.astore X72.here hx rfl (hb hby at_269) rfl rfl (l' := #[iv x1, iv x2, iv x3, lv_ x4, s_, iv (0 : Int32), iv (1 : Int32), iv ch, rv b68, iv ew, rv r59, iv (0 : Int32), iv (108 : Int32), u_, u_]) rfl k) ?_
          obtain ⟨Xr75, hSr75, hZr75, hor75⟩ := rebase (cells := 8) (slots := 96) (X72.more (by decide) (by decide)) hS0 rfl (Nat.le_trans (Nat.le_trans (Nat.le_trans (Nat.le_trans hk0 K59.1) (Nat.le_of_eq (Wr.size W64).symm)) E68.1) K72.1) hZ hown
          exact j26 T72 _ T72.heap Xr75 rfl N72 hSr75 hZr75 hor75 (CHr.trans hR73 (CHv.at X72 hZ hEL hR73.1)) b68 t72 kb72 ([ch, (111 : Int32), (119 : Int32)] : List Int32) ew r59 (0 : Int32) (108 : Int32) ((((O0.keep K59 all0).wr W64 gn59_0).ext E68).keep K72 (allS gn68 all0)) E72 F72 C72 w74 hp71 (by simp) hew
        by_cases b76 : (108 : Int32) = ch
        · refine Gv T64 256 [] (fun t k => XS.icmpNo X64.here hx rfl (hb hby at_253) rfl (XT.ii_ne_f b76) k) ?_
          refine Gv T64 258 [(.int (0 : Int32))] (fun t k => XS.iload X64.here hx rfl (hb hby at_256) rfl k) ?_
          refine Gv T64 260 [] (fun t k => XS.istore X64.here hx rfl (hb hby at_258) rfl (l' := #[iv x1, iv x2, iv x3, lv_ x4, s_, iv (0 : Int32), iv (1 : Int32), iv ch, u_, iv (0 : Int32), rv r59, iv (0 : Int32), iv (108 : Int32), u_, u_]) rfl k) ?_
          exact j66 (0 : Int32) (Or.inl ⟨(by rw [← b76]; rfl), rfl⟩)
        · refine Gv T64 260 [] (fun t k => XS.icmpYes X64.here hx rfl (pc0 := 253) (pc' := 260) rfl (hb hby at_253) rfl (XT.ii_ne_t b76) (by decide) (by decide) k) ?_
          exact j66 (-1 : Int32) (Or.inr (Or.inr (Or.inr ⟨⟨(fun z => by simp [own_low, own_sub, own_hig] at z <;> exact absurd z.symm b76), (fun z => by simp [own_low, own_sub, own_hig] at z <;> exact absurd z.symm b76), (fun z => by simp [own_low, own_sub, own_hig] at z <;> exact absurd z.symm b76)⟩, rfl⟩)))
      · refine Gv T59 237 [(.ref r59)] (fun t k => XS.aload X59.here hx rfl (hb hby at_235) rfl rfl k) ?_
        refine Gv T59 239 [(.int (1 : Int32)), (.ref r59)] (fun t k => XS.iload X59.here hx rfl (hb hby at_237) rfl k) ?_
        obtain ⟨cl77, Ar77, q77, S77, N77, H77, G77⟩ := id f59_0
        have hin77 := inb_of (j := (1 : Int32)) S77 ⟨by decide, by decide⟩
        refine Goes.via (B := T59.setTop (mkF m 240 #[iv x1, iv x2, iv x3, lv_ x4, s_, iv (0 : Int32), iv (1 : Int32), iv ch, u_, iv (-1 : Int32), rv r59, iv (1 : Int32), u_, u_, u_] [(.int (111 : Int32))])) (fun t k => X59.caload hx (j := (1 : Int32)) (v := (.int (111 : Int32))) (Ar77.1) (State.isArrayOf_alike hZ.alike Ar77.2.1) Ar77.2.2 hin77 (H77.at hin77 rfl) (g := (mkF m 239 #[iv x1, iv x2, iv x3, lv_ x4, s_, iv (0 : Int32), iv (1 : Int32), iv ch, u_, iv (-1 : Int32), rv r59, iv (1 : Int32), u_, u_, u_] [(.int (1 : Int32)), (.ref r59)])) rfl rfl (hb hby at_239) t k) ?_
        refine Gv T59 242 [] (fun t k => XS.istore X59.here hx rfl (hb hby at_240) rfl (l' := #[iv x1, iv x2, iv x3, lv_ x4, s_, iv (0 : Int32), iv (1 : Int32), iv ch, u_, iv (-1 : Int32), rv r59, iv (1 : Int32), iv (111 : Int32), u_, u_]) rfl k) ?_
        refine Gv T59 244 [(.ref r59)] (fun t k => XS.aload X59.here hx rfl (hb hby at_242) rfl rfl k) ?_
        refine Gv T59 246 [(.int (1 : Int32)), (.ref r59)] (fun t k => XS.iload X59.here hx rfl (hb hby at_244) rfl k) ?_
        refine Gv T59 248 [(.int ch), (.int (1 : Int32)), (.ref r59)] (fun t k => XS.iload X59.here hx rfl (hb hby at_246) rfl k) ?_
        obtain ⟨cl78, Ar78, q78, S78, N78, H78, G78⟩ := id f59_0
        obtain ⟨T78, h78, X78, e78, W78, st78⟩ := stC X59 hx hZ rfl Ar78 (j := (1 : Int32)) (inb_of S78 ⟨by decide, by decide⟩) (g := (mkF m 248 #[iv x1, iv x2, iv x3, lv_ x4, s_, iv (0 : Int32), iv (1 : Int32), iv ch, u_, iv (-1 : Int32), rv r59, iv (1 : Int32), iv (111 : Int32), u_, u_] [(.int ch), (.int (1 : Int32)), (.ref r59)])) rfl rfl (hb hby at_248)
        have wn78 : nar .char ch = ch := own_i2c hch
        have fn78 : fits .char (.int ch) = true := by rw [← wn78]; exact fits_nar_char _
        rw [wn78] at W78
        have Nf78 := Fr.snoc X78 N59 gn59_0
        have hq79 := CHr.wr W78 (Safe.arv hZ.alike f59_0 (by decide)) hR60.1
        have hR79 := CHr.trans hR60 hq79
        have V78 : Arv Z h78 r59 kr59 .char (3 : Int32) [(.int (108 : Int32)), (.int ch), (.int (119 : Int32))] (.int (0 : Int32)) := Arv.set Ar78 q78 S78 N78 H78 G78 fn78 W78 1 rfl (Nat.le_of_ble_eq_true rfl)
        refine Goes.via (B := T78.setTop (mkF m 249 #[iv x1, iv x2, iv x3, lv_ x4, s_, iv (0 : Int32), iv (1 : Int32), iv ch, u_, iv (-1 : Int32), rv r59, iv (1 : Int32), iv (111 : Int32), u_, u_] [])) (fun t k => st78 _ k) ?_
        refine Gv T78 251 [(.int (111 : Int32))] (fun t k => XS.iload X78.here hx rfl (hb hby at_249) rfl k) ?_
        refine Gv T78 253 [(.int ch), (.int (111 : Int32))] (fun t k => XS.iload X78.here hx rfl (hb hby at_251) rfl k) ?_
        have j80 : ∀ (ew : Int32) (hew : (([(108 : Int32), ch, (119 : Int32)] : List Int32) = own_low ∧ ew = (0 : Int32)) ∨ (([(108 : Int32), ch, (119 : Int32)] : List Int32) = own_sub ∧ ew = (1 : Int32)) ∨ (([(108 : Int32), ch, (119 : Int32)] : List Int32) = own_hig ∧ ew = (2 : Int32)) ∨ ((¬ ([(108 : Int32), ch, (119 : Int32)] : List Int32) = own_low ∧ ¬ ([(108 : Int32), ch, (119 : Int32)] : List Int32) = own_sub ∧ ¬ ([(108 : Int32), ch, (119 : Int32)] : List Int32) = own_hig) ∧ ew = (-1 : Int32))) , Goes p.tables e below (fun t o => ∃ v L, o = .returned v ∧ (own_Q31 Z x1 x2 x3 x4 z0 oe va kv aL sL tL kL aS sS tS kS aH sH tH kH h0 n0) v t.heap L ∧ EndH Z consts_1 s o t L (room_1).cells (room_1).slots) (T78.setTop (mkF m 260 #[iv x1, iv x2, iv x3, lv_ x4, s_, iv (0 : Int32), iv (1 : Int32), iv ch, u_, iv ew, rv r59, iv (1 : Int32), iv (111 : Int32), u_, u_] [])) := by
          intro ew hew
          obtain ⟨T82, h82, X82, e82, E82, A82, D82, U82, st82⟩ := newO X78 hx hZ hown (W_ hw 5 rfl) (W_ hw 6 rfl) (W_ hw 7 rfl) e78 (g := (mkF m 260 #[iv x1, iv x2, iv x3, lv_ x4, s_, iv (0 : Int32), iv (1 : Int32), iv ch, u_, iv ew, rv r59, iv (1 : Int32), iv (111 : Int32), u_, u_] [])) rfl (hb hby at_260) (by decide) (by decide)
          obtain ⟨b82, g82⟩ : ∃ z, z = h78.size := ⟨_, rfl⟩
          rw [← g82] at A82 D82 U82 st82
          have gn82 : n0 ≤ b82 := Nat.le_trans (old_le ((O0.keep K59 all0).wr W78 gn59_0)) (Nat.le_of_eq g82.symm)
          have hq83 := CHr.ext E82 hR79.1
          have hR83 := CHr.trans hR79 hq83
          have sf84 := Safe.ext E82 hR79.1 (Safe.new (Nat.le_of_eq g82.symm))
          have F82_coder : Fld Z h82 b82 "java/lang/String" "coder" "B" (.int (0 : Int32)) := D82 (Or.inr (W_ hw 31 rfl)) (ty := .byte) (by decide)
          have F82_value : Fld Z h82 b82 "java/lang/String" "value" "[B" .null := D82 (Or.inr (W_ hw 33 rfl)) (ty := (.array .byte)) (by decide)
          refine Goes.via (B := T82.setTop (mkF m 263 #[iv x1, iv x2, iv x3, lv_ x4, s_, iv (0 : Int32), iv (1 : Int32), iv ch, u_, iv ew, rv r59, iv (1 : Int32), iv (111 : Int32), u_, u_] [(.ref b82)])) (fun t k => st82 _ k) ?_
          refine Gv T82 264 [(.ref b82), (.ref b82)] (fun t k => XS.dup X82.here hx rfl (hb hby at_263) rfl rfl k) ?_
          refine Gv T82 266 [(.ref r59), (.ref b82), (.ref b82)] (fun t k => XS.aload X82.here hx rfl (hb hby at_264) rfl rfl k) ?_
          have hp85 : ∀ c ∈ ([(108 : Int32), ch, (119 : Int32)] : List Int32), ¬ c < 0 ∧ ¬ (255 : Int32) < c := by
            intro c hc
            simp only [List.mem_cons, List.not_mem_nil, or_false] at hc
            rcases hc with rfl | rfl | rfl <;> first | exact ⟨by decide, by decide⟩ | exact hch
          obtain ⟨_, T86, L86, X86, ⟨rfl, M86, K86, E86, C86, t86, kb86, gn86, gs86, nx86, F86, V86⟩, st86⟩ := callInitB X82 hx hZ rfl hown (W_ hw 8 rfl) (W_ hw 9 rfl) (W_ hw 10 rfl) (by decide) (argsL := [(.ref r59)]) (rest := [(.ref b82)]) (W := 1) (StrChars.Road.backV (s := (s.setVm s.vm)) (W := 1) hZ (own_hw_words hw) (kI := 4) (W_ hw 6 rfl) (x := b82) (b := r59) (cs := ([(108 : Int32), ch, (119 : Int32)] : List Int32)) (bs := ([(108 : Int32), ch, (119 : Int32)] : List Int32).map (fun c => c.toInt8.toInt32)) (n := 3) gn82 (old_le (((O0.keep K59 all0).wr W78 gn59_0).ext E82)) A82 F82_value F82_coder (V78.ext E82) (Sta.ext (((O0.keep K59 all0).wr W78 gn59_0).ext E82).2 O_1) hz0 rfl rfl (by decide) (by decide) hp85 rfl (by decide) (by decide)) e82 (lenOf own_pd11 rfl) (pc := 266) (Ls := #[iv x1, iv x2, iv x3, lv_ x4, s_, iv (0 : Int32), iv (1 : Int32), iv ch, u_, iv ew, rv r59, iv (1 : Int32), iv (111 : Int32), u_, u_]) (st := [(.ref r59), (.ref b82), (.ref b82)]) rfl (by rw [hml]; rfl) (hb hby at_266) (Nat.le_of_eq rfl) (by decide) (by decide)
          have hq87 := CHr.keep K86 (sfS sf84 sf0) hR83.1
          have hR87 := CHr.trans hR83 hq87
          have N86 := Fr.app Nf78 M86
          refine Goes.via (B := T86.setTop (mkF m 269 #[iv x1, iv x2, iv x3, lv_ x4, s_, iv (0 : Int32), iv (1 : Int32), iv ch, u_, iv ew, rv r59, iv (1 : Int32), iv (111 : Int32), u_, u_] [(.ref b82)])) (fun t k => st86 _ k) ?_
          have w88 : Arv Z T86.heap t86 kb86 .byte (Int32.ofNat ([(108 : Int32), ch, (119 : Int32)] : List Int32).length) ((([(108 : Int32), ch, (119 : Int32)] : List Int32).map StrChars.lo8).map Value.int) (.int 0) := V86
          refine Gv T86 271 [] (fun t k => XS.astore X86.here hx rfl (hb hby at_269) rfl rfl (l' := #[iv x1, iv x2, iv x3, lv_ x4, s_, iv (0 : Int32), iv (1 : Int32), iv ch, rv b82, iv ew, rv r59, iv (1 : Int32), iv (111 : Int32), u_, u_]) rfl k) ?_
          obtain ⟨Xr89, hSr89, hZr89, hor89⟩ := rebase (cells := 8) (slots := 96) (X86.more (by decide) (by decide)) hS0 rfl (Nat.le_trans (Nat.le_trans (Nat.le_trans (Nat.le_trans hk0 K59.1) (Nat.le_of_eq (Wr.size W78).symm)) E82.1) K86.1) hZ hown
          exact j26 T86 _ T86.heap Xr89 rfl N86 hSr89 hZr89 hor89 (CHr.trans hR87 (CHv.at X86 hZ hEL hR87.1)) b82 t86 kb86 ([(108 : Int32), ch, (119 : Int32)] : List Int32) ew r59 (1 : Int32) (111 : Int32) ((((O0.keep K59 all0).wr W78 gn59_0).ext E82).keep K86 (allS gn82 all0)) E86 F86 C86 w88 hp85 (by simp) hew
        by_cases b90 : (111 : Int32) = ch
        · refine Gv T78 256 [] (fun t k => XS.icmpNo X78.here hx rfl (hb hby at_253) rfl (XT.ii_ne_f b90) k) ?_
          refine Gv T78 258 [(.int (0 : Int32))] (fun t k => XS.iload X78.here hx rfl (hb hby at_256) rfl k) ?_
          refine Gv T78 260 [] (fun t k => XS.istore X78.here hx rfl (hb hby at_258) rfl (l' := #[iv x1, iv x2, iv x3, lv_ x4, s_, iv (0 : Int32), iv (1 : Int32), iv ch, u_, iv (0 : Int32), rv r59, iv (1 : Int32), iv (111 : Int32), u_, u_]) rfl k) ?_
          exact j80 (0 : Int32) (Or.inl ⟨(by rw [← b90]; rfl), rfl⟩)
        · refine Gv T78 260 [] (fun t k => XS.icmpYes X78.here hx rfl (pc0 := 253) (pc' := 260) rfl (hb hby at_253) rfl (XT.ii_ne_t b90) (by decide) (by decide) k) ?_
          exact j80 (-1 : Int32) (Or.inr (Or.inr (Or.inr ⟨⟨(fun z => by simp [own_low, own_sub, own_hig] at z <;> exact absurd z.symm b90), (fun z => by simp [own_low, own_sub, own_hig] at z <;> exact absurd z.symm b90), (fun z => by simp [own_low, own_sub, own_hig] at z <;> exact absurd z.symm b90)⟩, rfl⟩)))
      · refine Gv T59 237 [(.ref r59)] (fun t k => XS.aload X59.here hx rfl (hb hby at_235) rfl rfl k) ?_
        refine Gv T59 239 [(.int (2 : Int32)), (.ref r59)] (fun t k => XS.iload X59.here hx rfl (hb hby at_237) rfl k) ?_
        obtain ⟨cl91, Ar91, q91, S91, N91, H91, G91⟩ := id f59_0
        have hin91 := inb_of (j := (2 : Int32)) S91 ⟨by decide, by decide⟩
        refine Goes.via (B := T59.setTop (mkF m 240 #[iv x1, iv x2, iv x3, lv_ x4, s_, iv (0 : Int32), iv (1 : Int32), iv ch, u_, iv (-1 : Int32), rv r59, iv (2 : Int32), u_, u_, u_] [(.int (119 : Int32))])) (fun t k => X59.caload hx (j := (2 : Int32)) (v := (.int (119 : Int32))) (Ar91.1) (State.isArrayOf_alike hZ.alike Ar91.2.1) Ar91.2.2 hin91 (H91.at hin91 rfl) (g := (mkF m 239 #[iv x1, iv x2, iv x3, lv_ x4, s_, iv (0 : Int32), iv (1 : Int32), iv ch, u_, iv (-1 : Int32), rv r59, iv (2 : Int32), u_, u_, u_] [(.int (2 : Int32)), (.ref r59)])) rfl rfl (hb hby at_239) t k) ?_
        refine Gv T59 242 [] (fun t k => XS.istore X59.here hx rfl (hb hby at_240) rfl (l' := #[iv x1, iv x2, iv x3, lv_ x4, s_, iv (0 : Int32), iv (1 : Int32), iv ch, u_, iv (-1 : Int32), rv r59, iv (2 : Int32), iv (119 : Int32), u_, u_]) rfl k) ?_
        refine Gv T59 244 [(.ref r59)] (fun t k => XS.aload X59.here hx rfl (hb hby at_242) rfl rfl k) ?_
        refine Gv T59 246 [(.int (2 : Int32)), (.ref r59)] (fun t k => XS.iload X59.here hx rfl (hb hby at_244) rfl k) ?_
        refine Gv T59 248 [(.int ch), (.int (2 : Int32)), (.ref r59)] (fun t k => XS.iload X59.here hx rfl (hb hby at_246) rfl k) ?_
        obtain ⟨cl92, Ar92, q92, S92, N92, H92, G92⟩ := id f59_0
        obtain ⟨T92, h92, X92, e92, W92, st92⟩ := stC X59 hx hZ rfl Ar92 (j := (2 : Int32)) (inb_of S92 ⟨by decide, by decide⟩) (g := (mkF m 248 #[iv x1, iv x2, iv x3, lv_ x4, s_, iv (0 : Int32), iv (1 : Int32), iv ch, u_, iv (-1 : Int32), rv r59, iv (2 : Int32), iv (119 : Int32), u_, u_] [(.int ch), (.int (2 : Int32)), (.ref r59)])) rfl rfl (hb hby at_248)
        have wn92 : nar .char ch = ch := own_i2c hch
        have fn92 : fits .char (.int ch) = true := by rw [← wn92]; exact fits_nar_char _
        rw [wn92] at W92
        have Nf92 := Fr.snoc X92 N59 gn59_0
        have hq93 := CHr.wr W92 (Safe.arv hZ.alike f59_0 (by decide)) hR60.1
        have hR93 := CHr.trans hR60 hq93
        have V92 : Arv Z h92 r59 kr59 .char (3 : Int32) [(.int (108 : Int32)), (.int (111 : Int32)), (.int ch)] (.int (0 : Int32)) := Arv.set Ar92 q92 S92 N92 H92 G92 fn92 W92 2 rfl (Nat.le_of_ble_eq_true rfl)
        refine Goes.via (B := T92.setTop (mkF m 249 #[iv x1, iv x2, iv x3, lv_ x4, s_, iv (0 : Int32), iv (1 : Int32), iv ch, u_, iv (-1 : Int32), rv r59, iv (2 : Int32), iv (119 : Int32), u_, u_] [])) (fun t k => st92 _ k) ?_
        refine Gv T92 251 [(.int (119 : Int32))] (fun t k => XS.iload X92.here hx rfl (hb hby at_249) rfl k) ?_
        refine Gv T92 253 [(.int ch), (.int (119 : Int32))] (fun t k => XS.iload X92.here hx rfl (hb hby at_251) rfl k) ?_
        have j94 : ∀ (ew : Int32) (hew : (([(108 : Int32), (111 : Int32), ch] : List Int32) = own_low ∧ ew = (0 : Int32)) ∨ (([(108 : Int32), (111 : Int32), ch] : List Int32) = own_sub ∧ ew = (1 : Int32)) ∨ (([(108 : Int32), (111 : Int32), ch] : List Int32) = own_hig ∧ ew = (2 : Int32)) ∨ ((¬ ([(108 : Int32), (111 : Int32), ch] : List Int32) = own_low ∧ ¬ ([(108 : Int32), (111 : Int32), ch] : List Int32) = own_sub ∧ ¬ ([(108 : Int32), (111 : Int32), ch] : List Int32) = own_hig) ∧ ew = (-1 : Int32))) , Goes p.tables e below (fun t o => ∃ v L, o = .returned v ∧ (own_Q31 Z x1 x2 x3 x4 z0 oe va kv aL sL tL kL aS sS tS kS aH sH tH kH h0 n0) v t.heap L ∧ EndH Z consts_1 s o t L (room_1).cells (room_1).slots) (T92.setTop (mkF m 260 #[iv x1, iv x2, iv x3, lv_ x4, s_, iv (0 : Int32), iv (1 : Int32), iv ch, u_, iv ew, rv r59, iv (2 : Int32), iv (119 : Int32), u_, u_] [])) := by
          intro ew hew
          obtain ⟨T96, h96, X96, e96, E96, A96, D96, U96, st96⟩ := newO X92 hx hZ hown (W_ hw 5 rfl) (W_ hw 6 rfl) (W_ hw 7 rfl) e92 (g := (mkF m 260 #[iv x1, iv x2, iv x3, lv_ x4, s_, iv (0 : Int32), iv (1 : Int32), iv ch, u_, iv ew, rv r59, iv (2 : Int32), iv (119 : Int32), u_, u_] [])) rfl (hb hby at_260) (by decide) (by decide)
          obtain ⟨b96, g96⟩ : ∃ z, z = h92.size := ⟨_, rfl⟩
          rw [← g96] at A96 D96 U96 st96
          have gn96 : n0 ≤ b96 := Nat.le_trans (old_le ((O0.keep K59 all0).wr W92 gn59_0)) (Nat.le_of_eq g96.symm)
          have hq97 := CHr.ext E96 hR93.1
          have hR97 := CHr.trans hR93 hq97
          have sf98 := Safe.ext E96 hR93.1 (Safe.new (Nat.le_of_eq g96.symm))
          have F96_coder : Fld Z h96 b96 "java/lang/String" "coder" "B" (.int (0 : Int32)) := D96 (Or.inr (W_ hw 31 rfl)) (ty := .byte) (by decide)
          have F96_value : Fld Z h96 b96 "java/lang/String" "value" "[B" .null := D96 (Or.inr (W_ hw 33 rfl)) (ty := (.array .byte)) (by decide)
          refine Goes.via (B := T96.setTop (mkF m 263 #[iv x1, iv x2, iv x3, lv_ x4, s_, iv (0 : Int32), iv (1 : Int32), iv ch, u_, iv ew, rv r59, iv (2 : Int32), iv (119 : Int32), u_, u_] [(.ref b96)])) (fun t k => st96 _ k) ?_
          refine Gv T96 264 [(.ref b96), (.ref b96)] (fun t k => XS.dup X96.here hx rfl (hb hby at_263) rfl rfl k) ?_
          refine Gv T96 266 [(.ref r59), (.ref b96), (.ref b96)] (fun t k => XS.aload X96.here hx rfl (hb hby at_264) rfl rfl k) ?_
          have hp99 : ∀ c ∈ ([(108 : Int32), (111 : Int32), ch] : List Int32), ¬ c < 0 ∧ ¬ (255 : Int32) < c := by
            intro c hc
            simp only [List.mem_cons, List.not_mem_nil, or_false] at hc
            rcases hc with rfl | rfl | rfl <;> first | exact ⟨by decide, by decide⟩ | exact hch
          obtain ⟨_, T100, L100, X100, ⟨rfl, M100, K100, E100, C100, t100, kb100, gn100, gs100, nx100, F100, V100⟩, st100⟩ := callInitB X96 hx hZ rfl hown (W_ hw 8 rfl) (W_ hw 9 rfl) (W_ hw 10 rfl) (by decide) (argsL := [(.ref r59)]) (rest := [(.ref b96)]) (W := 1) (StrChars.Road.backV (s := (s.setVm s.vm)) (W := 1) hZ (own_hw_words hw) (kI := 4) (W_ hw 6 rfl) (x := b96) (b := r59) (cs := ([(108 : Int32), (111 : Int32), ch] : List Int32)) (bs := ([(108 : Int32), (111 : Int32), ch] : List Int32).map (fun c => c.toInt8.toInt32)) (n := 3) gn96 (old_le (((O0.keep K59 all0).wr W92 gn59_0).ext E96)) A96 F96_value F96_coder (V92.ext E96) (Sta.ext (((O0.keep K59 all0).wr W92 gn59_0).ext E96).2 O_1) hz0 rfl rfl (by decide) (by decide) hp99 rfl (by decide) (by decide)) e96 (lenOf own_pd11 rfl) (pc := 266) (Ls := #[iv x1, iv x2, iv x3, lv_ x4, s_, iv (0 : Int32), iv (1 : Int32), iv ch, u_, iv ew, rv r59, iv (2 : Int32), iv (119 : Int32), u_, u_]) (st := [(.ref r59), (.ref b96), (.ref b96)]) rfl (by rw [hml]; rfl) (hb hby at_266) (Nat.le_of_eq rfl) (by decide) (by decide)
          have hq101 := CHr.keep K100 (sfS sf98 sf0) hR97.1
          have hR101 := CHr.trans hR97 hq101
          have N100 := Fr.app Nf92 M100
          refine Goes.via (B := T100.setTop (mkF m 269 #[iv x1, iv x2, iv x3, lv_ x4, s_, iv (0 : Int32), iv (1 : Int32), iv ch, u_, iv ew, rv r59, iv (2 : Int32), iv (119 : Int32), u_, u_] [(.ref b96)])) (fun t k => st100 _ k) ?_
          have w102 : Arv Z T100.heap t100 kb100 .byte (Int32.ofNat ([(108 : Int32), (111 : Int32), ch] : List Int32).length) ((([(108 : Int32), (111 : Int32), ch] : List Int32).map StrChars.lo8).map Value.int) (.int 0) := V100
          refine Gv T100 271 [] (fun t k => XS.astore X100.here hx rfl (hb hby at_269) rfl rfl (l' := #[iv x1, iv x2, iv x3, lv_ x4, s_, iv (0 : Int32), iv (1 : Int32), iv ch, rv b96, iv ew, rv r59, iv (2 : Int32), iv (119 : Int32), u_, u_]) rfl k) ?_
          obtain ⟨Xr103, hSr103, hZr103, hor103⟩ := rebase (cells := 8) (slots := 96) (X100.more (by decide) (by decide)) hS0 rfl (Nat.le_trans (Nat.le_trans (Nat.le_trans (Nat.le_trans hk0 K59.1) (Nat.le_of_eq (Wr.size W92).symm)) E96.1) K100.1) hZ hown
          exact j26 T100 _ T100.heap Xr103 rfl N100 hSr103 hZr103 hor103 (CHr.trans hR101 (CHv.at X100 hZ hEL hR101.1)) b96 t100 kb100 ([(108 : Int32), (111 : Int32), ch] : List Int32) ew r59 (2 : Int32) (119 : Int32) ((((O0.keep K59 all0).wr W92 gn59_0).ext E96).keep K100 (allS gn96 all0)) E100 F100 C100 w102 hp99 (by simp) hew
        by_cases b104 : (119 : Int32) = ch
        · refine Gv T92 256 [] (fun t k => XS.icmpNo X92.here hx rfl (hb hby at_253) rfl (XT.ii_ne_f b104) k) ?_
          refine Gv T92 258 [(.int (0 : Int32))] (fun t k => XS.iload X92.here hx rfl (hb hby at_256) rfl k) ?_
          refine Gv T92 260 [] (fun t k => XS.istore X92.here hx rfl (hb hby at_258) rfl (l' := #[iv x1, iv x2, iv x3, lv_ x4, s_, iv (0 : Int32), iv (1 : Int32), iv ch, u_, iv (0 : Int32), rv r59, iv (2 : Int32), iv (119 : Int32), u_, u_]) rfl k) ?_
          exact j94 (0 : Int32) (Or.inl ⟨(by rw [← b104]; rfl), rfl⟩)
        · refine Gv T92 260 [] (fun t k => XS.icmpYes X92.here hx rfl (pc0 := 253) (pc' := 260) rfl (hb hby at_253) rfl (XT.ii_ne_t b104) (by decide) (by decide) k) ?_
          exact j94 (-1 : Int32) (Or.inr (Or.inr (Or.inr ⟨⟨(fun z => by simp [own_low, own_sub, own_hig] at z <;> exact absurd z.symm b104), (fun z => by simp [own_low, own_sub, own_hig] at z <;> exact absurd z.symm b104), (fun z => by simp [own_low, own_sub, own_hig] at z <;> exact absurd z.symm b104)⟩, rfl⟩)))
    · obtain ⟨_, T105, L105, X105, ⟨r105, kr105, rfl, M105, K105, z105_0, f105_0⟩, st105⟩ := callStatic X0 hx hZ hown (W_ hw 0 rfl) (W_ hw 1 rfl) (W_ hw 2 rfl) (W_ hw 3 rfl) (by decide) (argsL := [(.int (0 : Int32)), (.int (2 : Int32)), (.int ch)]) (rest := []) (own_m18 l Z a0 hw [] ch h0 n0 O0 hch) e0 (lenOf own_pd10 rfl) (pc := 199) (Ls := #[iv x1, iv x2, iv x3, lv_ x4, s_, iv (0 : Int32), iv (2 : Int32), iv ch, u_, u_, u_, u_, u_, u_, u_]) (st := [(.int ch), (.int (2 : Int32)), (.int (0 : Int32))]) rfl (by rw [hml]; rfl) (hb hby at_199) (W := 0) (Nat.le_of_eq rfl) (by decide) (by decide) (by decide) (by decide)
      have N105 := Fr.app N0 M105
      have gn105_0 : n0 ≤ r105 := Nat.le_trans (old_le O0) z105_0
      have hq106 := CHr.keep K105 sf0 hR0.1
      have hR106 := CHr.trans hR0 hq106
      refine Goes.via (B := T105.setTop (mkF m 202 #[iv x1, iv x2, iv x3, lv_ x4, s_, iv (0 : Int32), iv (2 : Int32), iv ch, u_, u_, u_, u_, u_, u_, u_] [(.ref r105)])) (fun t k => st105 _ k) ?_
      refine Gv T105 204 [] (fun t k => XS.astore X105.here hx rfl (hb hby at_202) rfl rfl (l' := #[iv x1, iv x2, iv x3, lv_ x4, s_, iv (0 : Int32), iv (2 : Int32), iv ch, u_, u_, rv r105, u_, u_, u_, u_]) rfl k) ?_
      refine Gv T105 205 [(.int (-1 : Int32))] (fun t k => XS.iconst X105.here hx rfl (hb hby at_204) k) ?_
      refine Gv T105 207 [] (fun t k => XS.istore X105.here hx rfl (hb hby at_205) rfl (l' := #[iv x1, iv x2, iv x3, lv_ x4, s_, iv (0 : Int32), iv (2 : Int32), iv ch, u_, iv (-1 : Int32), rv r105, u_, u_, u_, u_]) rfl k) ?_
      refine Gv T105 209 [(.int (2 : Int32))] (fun t k => XS.iload X105.here hx rfl (hb hby at_207) rfl k) ?_
      refine Gv T105 219 [] (fun t k => XS.ifYes X105.here hx rfl (pc0 := 209) (pc' := 219) rfl (hb hby at_209) rfl (XT.i0_ne_t (by decide)) (by decide) (by decide) k) ?_
      refine Gv T105 221 [(.int (2 : Int32))] (fun t k => XS.iload X105.here hx rfl (hb hby at_219) rfl k) ?_
      refine Gv T105 222 [(.int (1 : Int32)), (.int (2 : Int32))] (fun t k => XS.iconst X105.here hx rfl (hb hby at_221) k) ?_
      refine Gv T105 260 [] (fun t k => XS.icmpYes X105.here hx rfl (pc0 := 222) (pc' := 260) rfl (hb hby at_222) rfl (XT.ii_ne_t (by decide)) (by decide) (by decide) k) ?_
      obtain ⟨T107, h107, X107, e107, E107, A107, D107, U107, st107⟩ := newO X105 hx hZ hown (W_ hw 5 rfl) (W_ hw 6 rfl) (W_ hw 7 rfl) rfl (g := (mkF m 260 #[iv x1, iv x2, iv x3, lv_ x4, s_, iv (0 : Int32), iv (2 : Int32), iv ch, u_, iv (-1 : Int32), rv r105, u_, u_, u_, u_] [])) rfl (hb hby at_260) (by decide) (by decide)
      obtain ⟨b107, g107⟩ : ∃ z, z = T105.heap.size := ⟨_, rfl⟩
      rw [← g107] at A107 D107 U107 st107
      have gn107 : n0 ≤ b107 := Nat.le_trans (old_le (O0.keep K105 all0)) (Nat.le_of_eq g107.symm)
      have hq108 := CHr.ext E107 hR106.1
      have hR108 := CHr.trans hR106 hq108
      have sf109 := Safe.ext E107 hR106.1 (Safe.new (Nat.le_of_eq g107.symm))
      have F107_coder : Fld Z h107 b107 "java/lang/String" "coder" "B" (.int (0 : Int32)) := D107 (Or.inr (W_ hw 31 rfl)) (ty := .byte) (by decide)
      have F107_value : Fld Z h107 b107 "java/lang/String" "value" "[B" .null := D107 (Or.inr (W_ hw 33 rfl)) (ty := (.array .byte)) (by decide)
      refine Goes.via (B := T107.setTop (mkF m 263 #[iv x1, iv x2, iv x3, lv_ x4, s_, iv (0 : Int32), iv (2 : Int32), iv ch, u_, iv (-1 : Int32), rv r105, u_, u_, u_, u_] [(.ref b107)])) (fun t k => st107 _ k) ?_
      refine Gv T107 264 [(.ref b107), (.ref b107)] (fun t k => XS.dup X107.here hx rfl (hb hby at_263) rfl rfl k) ?_
      refine Gv T107 266 [(.ref r105), (.ref b107), (.ref b107)] (fun t k => XS.aload X107.here hx rfl (hb hby at_264) rfl rfl k) ?_
      have hp110 : ∀ c ∈ ([(108 : Int32), (111 : Int32), (119 : Int32), ch] : List Int32), ¬ c < 0 ∧ ¬ (255 : Int32) < c := by
        intro c hc
        simp only [List.mem_cons, List.not_mem_nil, or_false] at hc
        rcases hc with rfl | rfl | rfl | rfl <;> first | exact ⟨by decide, by decide⟩ | exact hch
      obtain ⟨_, T111, L111, X111, ⟨rfl, M111, K111, E111, C111, t111, kb111, gn111, gs111, nx111, F111, V111⟩, st111⟩ := callInitB X107 hx hZ rfl hown (W_ hw 8 rfl) (W_ hw 9 rfl) (W_ hw 10 rfl) (by decide) (argsL := [(.ref r105)]) (rest := [(.ref b107)]) (W := 1) (StrChars.Road.backV (s := (s.setVm s.vm)) (W := 1) hZ (own_hw_words hw) (kI := 4) (W_ hw 6 rfl) (x := b107) (b := r105) (cs := ([(108 : Int32), (111 : Int32), (119 : Int32), ch] : List Int32)) (bs := ([(108 : Int32), (111 : Int32), (119 : Int32), ch] : List Int32).map (fun c => c.toInt8.toInt32)) (n := 4) gn107 (old_le ((O0.keep K105 all0).ext E107)) A107 F107_value F107_coder (f105_0.ext E107) (Sta.ext ((O0.keep K105 all0).ext E107).2 O_1) hz0 rfl rfl (by decide) (by decide) hp110 rfl (by decide) (by decide)) e107 (lenOf own_pd11 rfl) (pc := 266) (Ls := #[iv x1, iv x2, iv x3, lv_ x4, s_, iv (0 : Int32), iv (2 : Int32), iv ch, u_, iv (-1 : Int32), rv r105, u_, u_, u_, u_]) (st := [(.ref r105), (.ref b107), (.ref b107)]) rfl (by rw [hml]; rfl) (hb hby at_266) (Nat.le_of_eq rfl) (by decide) (by decide)
      have hq112 := CHr.keep K111 (sfS sf109 sf0) hR108.1
      have hR112 := CHr.trans hR108 hq112
      have N111 := Fr.app N105 M111
      refine Goes.via (B := T111.setTop (mkF m 269 #[iv x1, iv x2, iv x3, lv_ x4, s_, iv (0 : Int32), iv (2 : Int32), iv ch, u_, iv (-1 : Int32), rv r105, u_, u_, u_, u_] [(.ref b107)])) (fun t k => st111 _ k) ?_
      have w113 : Arv Z T111.heap t111 kb111 .byte (Int32.ofNat ([(108 : Int32), (111 : Int32), (119 : Int32), ch] : List Int32).length) ((([(108 : Int32), (111 : Int32), (119 : Int32), ch] : List Int32).map StrChars.lo8).map Value.int) (.int 0) := V111
      refine Gv T111 271 [] (fun t k => XS.astore X111.here hx rfl (hb hby at_269) rfl rfl (l' := #[iv x1, iv x2, iv x3, lv_ x4, s_, iv (0 : Int32), iv (2 : Int32), iv ch, rv b107, iv (-1 : Int32), rv r105, u_, u_, u_, u_]) rfl k) ?_
      obtain ⟨Xr114, hSr114, hZr114, hor114⟩ := rebase (cells := 8) (slots := 96) (X111.more (by decide) (by decide)) hS0 rfl (Nat.le_trans (Nat.le_trans (Nat.le_trans hk0 K105.1) E107.1) K111.1) hZ hown
      exact j3 T111 _ T111.heap Xr114 rfl N111 hSr114 hZr114 hor114 (CHr.trans hR112 (CHv.at X111 hZ hEL hR112.1)) b107 t111 kb111 ([(108 : Int32), (111 : Int32), (119 : Int32), ch] : List Int32) (-1 : Int32) r105 (((O0.keep K105 all0).ext E107).keep K111 (allS gn107 all0)) E111 F111 C111 w113 hp110 (by simp) (Or.inr (Or.inr (Or.inr ⟨⟨(fun z => by simp [own_low, own_sub, own_hig] at z), (fun z => by simp [own_low, own_sub, own_hig] at z), (fun z => by simp [own_low, own_sub, own_hig] at z)⟩, rfl⟩)))
    · obtain ⟨_, T115, L115, X115, ⟨r115, kr115, rfl, M115, K115, z115_0, f115_0⟩, st115⟩ := callStatic X0 hx hZ hown (W_ hw 0 rfl) (W_ hw 1 rfl) (W_ hw 2 rfl) (W_ hw 3 rfl) (by decide) (argsL := [(.int (0 : Int32)), (.int (3 : Int32)), (.int ch)]) (rest := []) (own_m19 l Z a0 hw [] ch h0 n0 O0 hch) e0 (lenOf own_pd10 rfl) (pc := 199) (Ls := #[iv x1, iv x2, iv x3, lv_ x4, s_, iv (0 : Int32), iv (3 : Int32), iv ch, u_, u_, u_, u_, u_, u_, u_]) (st := [(.int ch), (.int (3 : Int32)), (.int (0 : Int32))]) rfl (by rw [hml]; rfl) (hb hby at_199) (W := 0) (Nat.le_of_eq rfl) (by decide) (by decide) (by decide) (by decide)
      have N115 := Fr.app N0 M115
      have gn115_0 : n0 ≤ r115 := Nat.le_trans (old_le O0) z115_0
      have hq116 := CHr.keep K115 sf0 hR0.1
      have hR116 := CHr.trans hR0 hq116
      refine Goes.via (B := T115.setTop (mkF m 202 #[iv x1, iv x2, iv x3, lv_ x4, s_, iv (0 : Int32), iv (3 : Int32), iv ch, u_, u_, u_, u_, u_, u_, u_] [(.ref r115)])) (fun t k => st115 _ k) ?_
      refine Gv T115 204 [] (fun t k => XS.astore X115.here hx rfl (hb hby at_202) rfl rfl (l' := #[iv x1, iv x2, iv x3, lv_ x4, s_, iv (0 : Int32), iv (3 : Int32), iv ch, u_, u_, rv r115, u_, u_, u_, u_]) rfl k) ?_
      refine Gv T115 205 [(.int (-1 : Int32))] (fun t k => XS.iconst X115.here hx rfl (hb hby at_204) k) ?_
      refine Gv T115 207 [] (fun t k => XS.istore X115.here hx rfl (hb hby at_205) rfl (l' := #[iv x1, iv x2, iv x3, lv_ x4, s_, iv (0 : Int32), iv (3 : Int32), iv ch, u_, iv (-1 : Int32), rv r115, u_, u_, u_, u_]) rfl k) ?_
      refine Gv T115 209 [(.int (3 : Int32))] (fun t k => XS.iload X115.here hx rfl (hb hby at_207) rfl k) ?_
      refine Gv T115 219 [] (fun t k => XS.ifYes X115.here hx rfl (pc0 := 209) (pc' := 219) rfl (hb hby at_209) rfl (XT.i0_ne_t (by decide)) (by decide) (by decide) k) ?_
      refine Gv T115 221 [(.int (3 : Int32))] (fun t k => XS.iload X115.here hx rfl (hb hby at_219) rfl k) ?_
      refine Gv T115 222 [(.int (1 : Int32)), (.int (3 : Int32))] (fun t k => XS.iconst X115.here hx rfl (hb hby at_221) k) ?_
      refine Gv T115 260 [] (fun t k => XS.icmpYes X115.here hx rfl (pc0 := 222) (pc' := 260) rfl (hb hby at_222) rfl (XT.ii_ne_t (by decide)) (by decide) (by decide) k) ?_
      obtain ⟨T117, h117, X117, e117, E117, A117, D117, U117, st117⟩ := newO X115 hx hZ hown (W_ hw 5 rfl) (W_ hw 6 rfl) (W_ hw 7 rfl) rfl (g := (mkF m 260 #[iv x1, iv x2, iv x3, lv_ x4, s_, iv (0 : Int32), iv (3 : Int32), iv ch, u_, iv (-1 : Int32), rv r115, u_, u_, u_, u_] [])) rfl (hb hby at_260) (by decide) (by decide)
      obtain ⟨b117, g117⟩ : ∃ z, z = T115.heap.size := ⟨_, rfl⟩
      rw [← g117] at A117 D117 U117 st117
      have gn117 : n0 ≤ b117 := Nat.le_trans (old_le (O0.keep K115 all0)) (Nat.le_of_eq g117.symm)
      have hq118 := CHr.ext E117 hR116.1
      have hR118 := CHr.trans hR116 hq118
      have sf119 := Safe.ext E117 hR116.1 (Safe.new (Nat.le_of_eq g117.symm))
      have F117_coder : Fld Z h117 b117 "java/lang/String" "coder" "B" (.int (0 : Int32)) := D117 (Or.inr (W_ hw 31 rfl)) (ty := .byte) (by decide)
      have F117_value : Fld Z h117 b117 "java/lang/String" "value" "[B" .null := D117 (Or.inr (W_ hw 33 rfl)) (ty := (.array .byte)) (by decide)
      refine Goes.via (B := T117.setTop (mkF m 263 #[iv x1, iv x2, iv x3, lv_ x4, s_, iv (0 : Int32), iv (3 : Int32), iv ch, u_, iv (-1 : Int32), rv r115, u_, u_, u_, u_] [(.ref b117)])) (fun t k => st117 _ k) ?_
      refine Gv T117 264 [(.ref b117), (.ref b117)] (fun t k => XS.dup X117.here hx rfl (hb hby at_263) rfl rfl k) ?_
      refine Gv T117 266 [(.ref r115), (.ref b117), (.ref b117)] (fun t k => XS.aload X117.here hx rfl (hb hby at_264) rfl rfl k) ?_
      have hp120 : ∀ c ∈ ([(108 : Int32), (111 : Int32)] : List Int32), ¬ c < 0 ∧ ¬ (255 : Int32) < c := by
        intro c hc
        simp only [List.mem_cons, List.not_mem_nil, or_false] at hc
        rcases hc with rfl | rfl <;> first | exact ⟨by decide, by decide⟩ | skip
      obtain ⟨_, T121, L121, X121, ⟨rfl, M121, K121, E121, C121, t121, kb121, gn121, gs121, nx121, F121, V121⟩, st121⟩ := callInitB X117 hx hZ rfl hown (W_ hw 8 rfl) (W_ hw 9 rfl) (W_ hw 10 rfl) (by decide) (argsL := [(.ref r115)]) (rest := [(.ref b117)]) (W := 1) (StrChars.Road.backV (s := (s.setVm s.vm)) (W := 1) hZ (own_hw_words hw) (kI := 4) (W_ hw 6 rfl) (x := b117) (b := r115) (cs := ([(108 : Int32), (111 : Int32)] : List Int32)) (bs := ([(108 : Int32), (111 : Int32)] : List Int32).map (fun c => c.toInt8.toInt32)) (n := 2) gn117 (old_le ((O0.keep K115 all0).ext E117)) A117 F117_value F117_coder (f115_0.ext E117) (Sta.ext ((O0.keep K115 all0).ext E117).2 O_1) hz0 rfl rfl (by decide) (by decide) hp120 rfl (by decide) (by decide)) e117 (lenOf own_pd11 rfl) (pc := 266) (Ls := #[iv x1, iv x2, iv x3, lv_ x4, s_, iv (0 : Int32), iv (3 : Int32), iv ch, u_, iv (-1 : Int32), rv r115, u_, u_, u_, u_]) (st := [(.ref r115), (.ref b117), (.ref b117)]) rfl (by rw [hml]; rfl) (hb hby at_266) (Nat.le_of_eq rfl) (by decide) (by decide)
      have hq122 := CHr.keep K121 (sfS sf119 sf0) hR118.1
      have hR122 := CHr.trans hR118 hq122
      have N121 := Fr.app N115 M121
      refine Goes.via (B := T121.setTop (mkF m 269 #[iv x1, iv x2, iv x3, lv_ x4, s_, iv (0 : Int32), iv (3 : Int32), iv ch, u_, iv (-1 : Int32), rv r115, u_, u_, u_, u_] [(.ref b117)])) (fun t k => st121 _ k) ?_
      have w123 : Arv Z T121.heap t121 kb121 .byte (Int32.ofNat ([(108 : Int32), (111 : Int32)] : List Int32).length) ((([(108 : Int32), (111 : Int32)] : List Int32).map StrChars.lo8).map Value.int) (.int 0) := V121
      refine Gv T121 271 [] (fun t k => XS.astore X121.here hx rfl (hb hby at_269) rfl rfl (l' := #[iv x1, iv x2, iv x3, lv_ x4, s_, iv (0 : Int32), iv (3 : Int32), iv ch, rv b117, iv (-1 : Int32), rv r115, u_, u_, u_, u_]) rfl k) ?_
      obtain ⟨Xr124, hSr124, hZr124, hor124⟩ := rebase (cells := 8) (slots := 96) (X121.more (by decide) (by decide)) hS0 rfl (Nat.le_trans (Nat.le_trans (Nat.le_trans hk0 K115.1) E117.1) K121.1) hZ hown
      exact j3 T121 _ T121.heap Xr124 rfl N121 hSr124 hZr124 hor124 (CHr.trans hR122 (CHv.at X121 hZ hEL hR122.1)) b117 t121 kb121 ([(108 : Int32), (111 : Int32)] : List Int32) (-1 : Int32) r115 (((O0.keep K115 all0).ext E117).keep K121 (allS gn117 all0)) E121 F121 C121 w123 hp120 (by decide) (Or.inr (Or.inr (Or.inr ⟨⟨(fun z => by simp [own_low, own_sub, own_hig] at z), (fun z => by simp [own_low, own_sub, own_hig] at z), (fun z => by simp [own_low, own_sub, own_hig] at z)⟩, rfl⟩)))
  · refine Gv s₁ 22 [(.int (1 : Int32))] (fun t k => XS.iload X0.here hx rfl (hb hby at_20) rfl k) ?_
    refine Gv s₁ 23 [(.int (3 : Int32)), (.int (1 : Int32))] (fun t k => XS.iconst X0.here hx rfl (hb hby at_22) k) ?_
    refine Gv s₁ 193 [] (fun t k => XS.icmpYes X0.here hx rfl (pc0 := 23) (pc' := 193) rfl (hb hby at_23) rfl (XT.ii_ne_t (by decide)) (by decide) (by decide) k) ?_
    refine Gv s₁ 195 [(.int (1 : Int32))] (fun t k => XS.iload X0.here hx rfl (hb hby at_193) rfl k) ?_
    refine Gv s₁ 197 [(.int ee), (.int (1 : Int32))] (fun t k => XS.iload X0.here hx rfl (hb hby at_195) rfl k) ?_
    refine Gv s₁ 199 [(.int ch), (.int ee), (.int (1 : Int32))] (fun t k => XS.iload X0.here hx rfl (hb hby at_197) rfl k) ?_
    rcases hee with rfl | rfl | rfl | rfl
    · obtain ⟨_, T125, L125, X125, ⟨r125, kr125, rfl, M125, K125, z125_0, f125_0⟩, st125⟩ := callStatic X0 hx hZ hown (W_ hw 0 rfl) (W_ hw 1 rfl) (W_ hw 2 rfl) (W_ hw 3 rfl) (by decide) (argsL := [(.int (1 : Int32)), (.int (0 : Int32)), (.int ch)]) (rest := []) (own_m20 l Z a0 hw [] ch (0 : Int32) h0 n0 O0 hch (by decide) (by decide)) e0 (lenOf own_pd10 rfl) (pc := 199) (Ls := #[iv x1, iv x2, iv x3, lv_ x4, s_, iv (1 : Int32), iv (0 : Int32), iv ch, u_, u_, u_, u_, u_, u_, u_]) (st := [(.int ch), (.int (0 : Int32)), (.int (1 : Int32))]) rfl (by rw [hml]; rfl) (hb hby at_199) (W := 0) (Nat.le_of_eq rfl) (by decide) (by decide) (by decide) (by decide)
      have N125 := Fr.app N0 M125
      have gn125_0 : n0 ≤ r125 := Nat.le_trans (old_le O0) z125_0
      have hq126 := CHr.keep K125 sf0 hR0.1
      have hR126 := CHr.trans hR0 hq126
      refine Goes.via (B := T125.setTop (mkF m 202 #[iv x1, iv x2, iv x3, lv_ x4, s_, iv (1 : Int32), iv (0 : Int32), iv ch, u_, u_, u_, u_, u_, u_, u_] [(.ref r125)])) (fun t k => st125 _ k) ?_
      refine Gv T125 204 [] (fun t k => XS.astore X125.here hx rfl (hb hby at_202) rfl rfl (l' := #[iv x1, iv x2, iv x3, lv_ x4, s_, iv (1 : Int32), iv (0 : Int32), iv ch, u_, u_, rv r125, u_, u_, u_, u_]) rfl k) ?_
      refine Gv T125 205 [(.int (-1 : Int32))] (fun t k => XS.iconst X125.here hx rfl (hb hby at_204) k) ?_
      refine Gv T125 207 [] (fun t k => XS.istore X125.here hx rfl (hb hby at_205) rfl (l' := #[iv x1, iv x2, iv x3, lv_ x4, s_, iv (1 : Int32), iv (0 : Int32), iv ch, u_, iv (-1 : Int32), rv r125, u_, u_, u_, u_]) rfl k) ?_
      refine Gv T125 209 [(.int (0 : Int32))] (fun t k => XS.iload X125.here hx rfl (hb hby at_207) rfl k) ?_
      refine Gv T125 212 [] (fun t k => XS.ifNo X125.here hx rfl (hb hby at_209) rfl (XT.i0_ne_f rfl) k) ?_
      refine Gv T125 214 [(.int (1 : Int32))] (fun t k => XS.iload X125.here hx rfl (hb hby at_212) rfl k) ?_
      refine Gv T125 216 [] (fun t k => XS.istore X125.here hx rfl (hb hby at_214) rfl (l' := #[iv x1, iv x2, iv x3, lv_ x4, s_, iv (1 : Int32), iv (0 : Int32), iv ch, u_, iv (1 : Int32), rv r125, u_, u_, u_, u_]) rfl k) ?_
      refine Gv T125 260 [] (fun t k => XS.goto X125.here hx rfl (pc0 := 216) (pc' := 260) rfl (hb hby at_216) (by decide) (by decide) k) ?_
      obtain ⟨T127, h127, X127, e127, E127, A127, D127, U127, st127⟩ := newO X125 hx hZ hown (W_ hw 5 rfl) (W_ hw 6 rfl) (W_ hw 7 rfl) rfl (g := (mkF m 260 #[iv x1, iv x2, iv x3, lv_ x4, s_, iv (1 : Int32), iv (0 : Int32), iv ch, u_, iv (1 : Int32), rv r125, u_, u_, u_, u_] [])) rfl (hb hby at_260) (by decide) (by decide)
      obtain ⟨b127, g127⟩ : ∃ z, z = T125.heap.size := ⟨_, rfl⟩
      rw [← g127] at A127 D127 U127 st127
      have gn127 : n0 ≤ b127 := Nat.le_trans (old_le (O0.keep K125 all0)) (Nat.le_of_eq g127.symm)
      have hq128 := CHr.ext E127 hR126.1
      have hR128 := CHr.trans hR126 hq128
      have sf129 := Safe.ext E127 hR126.1 (Safe.new (Nat.le_of_eq g127.symm))
      have F127_coder : Fld Z h127 b127 "java/lang/String" "coder" "B" (.int (0 : Int32)) := D127 (Or.inr (W_ hw 31 rfl)) (ty := .byte) (by decide)
      have F127_value : Fld Z h127 b127 "java/lang/String" "value" "[B" .null := D127 (Or.inr (W_ hw 33 rfl)) (ty := (.array .byte)) (by decide)
      refine Goes.via (B := T127.setTop (mkF m 263 #[iv x1, iv x2, iv x3, lv_ x4, s_, iv (1 : Int32), iv (0 : Int32), iv ch, u_, iv (1 : Int32), rv r125, u_, u_, u_, u_] [(.ref b127)])) (fun t k => st127 _ k) ?_
      refine Gv T127 264 [(.ref b127), (.ref b127)] (fun t k => XS.dup X127.here hx rfl (hb hby at_263) rfl rfl k) ?_
      refine Gv T127 266 [(.ref r125), (.ref b127), (.ref b127)] (fun t k => XS.aload X127.here hx rfl (hb hby at_264) rfl rfl k) ?_
      have hp130 : ∀ c ∈ ([(115 : Int32), (117 : Int32), (98 : Int32), (115 : Int32), (116 : Int32), (97 : Int32), (110 : Int32), (116 : Int32), (105 : Int32), (97 : Int32), (108 : Int32)] : List Int32), ¬ c < 0 ∧ ¬ (255 : Int32) < c := by
        intro c hc
        simp only [List.mem_cons, List.not_mem_nil, or_false] at hc
        rcases hc with rfl | rfl | rfl | rfl | rfl | rfl | rfl | rfl | rfl | rfl | rfl <;> first | exact ⟨by decide, by decide⟩ | skip
      obtain ⟨_, T131, L131, X131, ⟨rfl, M131, K131, E131, C131, t131, kb131, gn131, gs131, nx131, F131, V131⟩, st131⟩ := callInitB X127 hx hZ rfl hown (W_ hw 8 rfl) (W_ hw 9 rfl) (W_ hw 10 rfl) (by decide) (argsL := [(.ref r125)]) (rest := [(.ref b127)]) (W := 1) (StrChars.Road.backV (s := (s.setVm s.vm)) (W := 1) hZ (own_hw_words hw) (kI := 4) (W_ hw 6 rfl) (x := b127) (b := r125) (cs := ([(115 : Int32), (117 : Int32), (98 : Int32), (115 : Int32), (116 : Int32), (97 : Int32), (110 : Int32), (116 : Int32), (105 : Int32), (97 : Int32), (108 : Int32)] : List Int32)) (bs := ([(115 : Int32), (117 : Int32), (98 : Int32), (115 : Int32), (116 : Int32), (97 : Int32), (110 : Int32), (116 : Int32), (105 : Int32), (97 : Int32), (108 : Int32)] : List Int32).map (fun c => c.toInt8.toInt32)) (n := 11) gn127 (old_le ((O0.keep K125 all0).ext E127)) A127 F127_value F127_coder (f125_0.ext E127) (Sta.ext ((O0.keep K125 all0).ext E127).2 O_1) hz0 rfl rfl (by decide) (by decide) hp130 rfl (by decide) (by decide)) e127 (lenOf own_pd11 rfl) (pc := 266) (Ls := #[iv x1, iv x2, iv x3, lv_ x4, s_, iv (1 : Int32), iv (0 : Int32), iv ch, u_, iv (1 : Int32), rv r125, u_, u_, u_, u_]) (st := [(.ref r125), (.ref b127), (.ref b127)]) rfl (by rw [hml]; rfl) (hb hby at_266) (Nat.le_of_eq rfl) (by decide) (by decide)
      have hq132 := CHr.keep K131 (sfS sf129 sf0) hR128.1
      have hR132 := CHr.trans hR128 hq132
      have N131 := Fr.app N125 M131
      refine Goes.via (B := T131.setTop (mkF m 269 #[iv x1, iv x2, iv x3, lv_ x4, s_, iv (1 : Int32), iv (0 : Int32), iv ch, u_, iv (1 : Int32), rv r125, u_, u_, u_, u_] [(.ref b127)])) (fun t k => st131 _ k) ?_
      have w133 : Arv Z T131.heap t131 kb131 .byte (Int32.ofNat ([(115 : Int32), (117 : Int32), (98 : Int32), (115 : Int32), (116 : Int32), (97 : Int32), (110 : Int32), (116 : Int32), (105 : Int32), (97 : Int32), (108 : Int32)] : List Int32).length) ((([(115 : Int32), (117 : Int32), (98 : Int32), (115 : Int32), (116 : Int32), (97 : Int32), (110 : Int32), (116 : Int32), (105 : Int32), (97 : Int32), (108 : Int32)] : List Int32).map StrChars.lo8).map Value.int) (.int 0) := V131
      refine Gv T131 271 [] (fun t k => XS.astore X131.here hx rfl (hb hby at_269) rfl rfl (l' := #[iv x1, iv x2, iv x3, lv_ x4, s_, iv (1 : Int32), iv (0 : Int32), iv ch, rv b127, iv (1 : Int32), rv r125, u_, u_, u_, u_]) rfl k) ?_
      obtain ⟨Xr134, hSr134, hZr134, hor134⟩ := rebase (cells := 8) (slots := 96) (X131.more (by decide) (by decide)) hS0 rfl (Nat.le_trans (Nat.le_trans (Nat.le_trans hk0 K125.1) E127.1) K131.1) hZ hown
      exact j3 T131 _ T131.heap Xr134 rfl N131 hSr134 hZr134 hor134 (CHr.trans hR132 (CHv.at X131 hZ hEL hR132.1)) b127 t131 kb131 ([(115 : Int32), (117 : Int32), (98 : Int32), (115 : Int32), (116 : Int32), (97 : Int32), (110 : Int32), (116 : Int32), (105 : Int32), (97 : Int32), (108 : Int32)] : List Int32) (1 : Int32) r125 (((O0.keep K125 all0).ext E127).keep K131 (allS gn127 all0)) E131 F131 C131 w133 hp130 (by decide) (Or.inr (Or.inl ⟨rfl, rfl⟩))
    · obtain ⟨_, T135, L135, X135, ⟨r135, kr135, rfl, M135, K135, z135_0, f135_0⟩, st135⟩ := callStatic X0 hx hZ hown (W_ hw 0 rfl) (W_ hw 1 rfl) (W_ hw 2 rfl) (W_ hw 3 rfl) (by decide) (argsL := [(.int (1 : Int32)), (.int (1 : Int32)), (.int ch)]) (rest := []) (own_m20 l Z a0 hw [] ch (1 : Int32) h0 n0 O0 hch (by decide) (by decide)) e0 (lenOf own_pd10 rfl) (pc := 199) (Ls := #[iv x1, iv x2, iv x3, lv_ x4, s_, iv (1 : Int32), iv (1 : Int32), iv ch, u_, u_, u_, u_, u_, u_, u_]) (st := [(.int ch), (.int (1 : Int32)), (.int (1 : Int32))]) rfl (by rw [hml]; rfl) (hb hby at_199) (W := 0) (Nat.le_of_eq rfl) (by decide) (by decide) (by decide) (by decide)
      have N135 := Fr.app N0 M135
      have gn135_0 : n0 ≤ r135 := Nat.le_trans (old_le O0) z135_0
      have hq136 := CHr.keep K135 sf0 hR0.1
      have hR136 := CHr.trans hR0 hq136
      refine Goes.via (B := T135.setTop (mkF m 202 #[iv x1, iv x2, iv x3, lv_ x4, s_, iv (1 : Int32), iv (1 : Int32), iv ch, u_, u_, u_, u_, u_, u_, u_] [(.ref r135)])) (fun t k => st135 _ k) ?_
      refine Gv T135 204 [] (fun t k => XS.astore X135.here hx rfl (hb hby at_202) rfl rfl (l' := #[iv x1, iv x2, iv x3, lv_ x4, s_, iv (1 : Int32), iv (1 : Int32), iv ch, u_, u_, rv r135, u_, u_, u_, u_]) rfl k) ?_
      refine Gv T135 205 [(.int (-1 : Int32))] (fun t k => XS.iconst X135.here hx rfl (hb hby at_204) k) ?_
      refine Gv T135 207 [] (fun t k => XS.istore X135.here hx rfl (hb hby at_205) rfl (l' := #[iv x1, iv x2, iv x3, lv_ x4, s_, iv (1 : Int32), iv (1 : Int32), iv ch, u_, iv (-1 : Int32), rv r135, u_, u_, u_, u_]) rfl k) ?_
      refine Gv T135 209 [(.int (1 : Int32))] (fun t k => XS.iload X135.here hx rfl (hb hby at_207) rfl k) ?_
      refine Gv T135 219 [] (fun t k => XS.ifYes X135.here hx rfl (pc0 := 209) (pc' := 219) rfl (hb hby at_209) rfl (XT.i0_ne_t (by decide)) (by decide) (by decide) k) ?_
      refine Gv T135 221 [(.int (1 : Int32))] (fun t k => XS.iload X135.here hx rfl (hb hby at_219) rfl k) ?_
      refine Gv T135 222 [(.int (1 : Int32)), (.int (1 : Int32))] (fun t k => XS.iconst X135.here hx rfl (hb hby at_221) k) ?_
      refine Gv T135 225 [] (fun t k => XS.icmpNo X135.here hx rfl (hb hby at_222) rfl (XT.ii_ne_f rfl) k) ?_
      refine Gv T135 226 [(.int x2)] (fun t k => XS.iloadN X135.here hx rfl (hb hby at_225) rfl k) ?_
      refine Goes.via (B := T135.setTop (mkF m 228 #[iv x1, iv x2, iv x3, lv_ x4, s_, iv (1 : Int32), iv (1 : Int32), iv ch, u_, iv (-1 : Int32), rv r135, u_, u_, u_, u_] [(.int (2147483647 : Int32)), (.int x2)])) (fun t k => X135.ldcI hx hown (mvT hZ (W_ hw 98 rfl)) rfl (hb hby at_226) k) ?_
      refine Gv T135 229 [(.int (x2 &&& (2147483647 : Int32)))] (fun t k => XS.iand X135.here hx rfl (hb hby at_228) rfl k) ?_
      refine Gv T135 231 [(.ref r135), (.int (x2 &&& (2147483647 : Int32)))] (fun t k => XS.aload X135.here hx rfl (hb hby at_229) rfl rfl k) ?_
      obtain ⟨cl137, Ar137, q137, S137, N137, H137, G137⟩ := id f135_0
      refine Goes.via (B := T135.setTop (mkF m 232 #[iv x1, iv x2, iv x3, lv_ x4, s_, iv (1 : Int32), iv (1 : Int32), iv ch, u_, iv (-1 : Int32), rv r135, u_, u_, u_, u_] [(.int (11 : Int32)), (.int (x2 &&& (2147483647 : Int32)))])) (fun t k => X135.arraylength hx (Ar137.1) (State.isArrayOf_alike hZ.alike Ar137.2.1) (g := (mkF m 231 #[iv x1, iv x2, iv x3, lv_ x4, s_, iv (1 : Int32), iv (1 : Int32), iv ch, u_, iv (-1 : Int32), rv r135, u_, u_, u_, u_] [(.ref r135), (.int (x2 &&& (2147483647 : Int32)))])) rfl rfl (hb hby at_231) t (by rw [(len_of S137 N137)]; exact k)) ?_
      refine Goes.via (B := T135.setTop (mkF m 233 #[iv x1, iv x2, iv x3, lv_ x4, s_, iv (1 : Int32), iv (1 : Int32), iv ch, u_, iv (-1 : Int32), rv r135, u_, u_, u_, u_] [(.int ((x2 &&& (2147483647 : Int32)) % (11 : Int32)))])) (fun t k => iremM X135 hx rfl (hb hby at_232) rfl (by decide) k) ?_
      refine Gv T135 235 [] (fun t k => XS.istore X135.here hx rfl (hb hby at_233) rfl (l' := #[iv x1, iv x2, iv x3, lv_ x4, s_, iv (1 : Int32), iv (1 : Int32), iv ch, u_, iv (-1 : Int32), rv r135, iv ((x2 &&& (2147483647 : Int32)) % (11 : Int32)), u_, u_, u_]) rfl k) ?_
      suffices J138 : ∀ (ix : Int32) (hix : ix = 0 ∨ ix = 1 ∨ ix = 2 ∨ ix = 3 ∨ ix = 4 ∨ ix = 5 ∨ ix = 6 ∨ ix = 7 ∨ ix = 8 ∨ ix = 9 ∨ ix = 10), Goes p.tables e below (fun t o => ∃ v L, o = .returned v ∧ (own_Q31 Z x1 x2 x3 x4 z0 oe va kv aL sL tL kL aS sS tS kS aH sH tH kH h0 n0) v t.heap L ∧ EndH Z consts_1 s o t L (room_1).cells (room_1).slots) (T135.setTop (mkF m 235 #[iv x1, iv x2, iv x3, lv_ x4, s_, iv (1 : Int32), iv (1 : Int32), iv ch, u_, iv (-1 : Int32), rv r135, iv ix, u_, u_, u_] [])) by exact J138 ((x2 &&& (2147483647 : Int32)) % (11 : Int32)) (own_rem11 (c_and _ _ (by decide)).1)
      intro ix hix
      rcases hix with rfl | rfl | rfl | rfl | rfl | rfl | rfl | rfl | rfl | rfl | rfl
      · refine Gv T135 237 [(.ref r135)] (fun t k => XS.aload X135.here hx rfl (hb hby at_235) rfl rfl k) ?_
        refine Gv T135 239 [(.int (0 : Int32)), (.ref r135)] (fun t k => XS.iload X135.here hx rfl (hb hby at_237) rfl k) ?_
        obtain ⟨cl139, Ar139, q139, S139, N139, H139, G139⟩ := id f135_0
        have hin139 := inb_of (j := (0 : Int32)) S139 ⟨by decide, by decide⟩
        refine Goes.via (B := T135.setTop (mkF m 240 #[iv x1, iv x2, iv x3, lv_ x4, s_, iv (1 : Int32), iv (1 : Int32), iv ch, u_, iv (-1 : Int32), rv r135, iv (0 : Int32), u_, u_, u_] [(.int (115 : Int32))])) (fun t k => X135.caload hx (j := (0 : Int32)) (v := (.int (115 : Int32))) (Ar139.1) (State.isArrayOf_alike hZ.alike Ar139.2.1) Ar139.2.2 hin139 (H139.at hin139 rfl) (g := (mkF m 239 #[iv x1, iv x2, iv x3, lv_ x4, s_, iv (1 : Int32), iv (1 : Int32), iv ch, u_, iv (-1 : Int32), rv r135, iv (0 : Int32), u_, u_, u_] [(.int (0 : Int32)), (.ref r135)])) rfl rfl (hb hby at_239) t k) ?_
        refine Gv T135 242 [] (fun t k => XS.istore X135.here hx rfl (hb hby at_240) rfl (l' := #[iv x1, iv x2, iv x3, lv_ x4, s_, iv (1 : Int32), iv (1 : Int32), iv ch, u_, iv (-1 : Int32), rv r135, iv (0 : Int32), iv (115 : Int32), u_, u_]) rfl k) ?_
        refine Gv T135 244 [(.ref r135)] (fun t k => XS.aload X135.here hx rfl (hb hby at_242) rfl rfl k) ?_
        refine Gv T135 246 [(.int (0 : Int32)), (.ref r135)] (fun t k => XS.iload X135.here hx rfl (hb hby at_244) rfl k) ?_
        refine Gv T135 248 [(.int ch), (.int (0 : Int32)), (.ref r135)] (fun t k => XS.iload X135.here hx rfl (hb hby at_246) rfl k) ?_
        obtain ⟨cl140, Ar140, q140, S140, N140, H140, G140⟩ := id f135_0
        obtain ⟨T140, h140, X140, e140, W140, st140⟩ := stC X135 hx hZ rfl Ar140 (j := (0 : Int32)) (inb_of S140 ⟨by decide, by decide⟩) (g := (mkF m 248 #[iv x1, iv x2, iv x3, lv_ x4, s_, iv (1 : Int32), iv (1 : Int32), iv ch, u_, iv (-1 : Int32), rv r135, iv (0 : Int32), iv (115 : Int32), u_, u_] [(.int ch), (.int (0 : Int32)), (.ref r135)])) rfl rfl (hb hby at_248)
        have wn140 : nar .char ch = ch := own_i2c hch
        have fn140 : fits .char (.int ch) = true := by rw [← wn140]; exact fits_nar_char _
        rw [wn140] at W140
        have Nf140 := Fr.snoc X140 N135 gn135_0
        have hq141 := CHr.wr W140 (Safe.arv hZ.alike f135_0 (by decide)) hR136.1
        have hR141 := CHr.trans hR136 hq141
        have V140 : Arv Z h140 r135 kr135 .char (11 : Int32) [(.int ch), (.int (117 : Int32)), (.int (98 : Int32)), (.int (115 : Int32)), (.int (116 : Int32)), (.int (97 : Int32)), (.int (110 : Int32)), (.int (116 : Int32)), (.int (105 : Int32)), (.int (97 : Int32)), (.int (108 : Int32))] (.int (0 : Int32)) := Arv.set Ar140 q140 S140 N140 H140 G140 fn140 W140 0 rfl (Nat.le_of_ble_eq_true rfl)
        refine Goes.via (B := T140.setTop (mkF m 249 #[iv x1, iv x2, iv x3, lv_ x4, s_, iv (1 : Int32), iv (1 : Int32), iv ch, u_, iv (-1 : Int32), rv r135, iv (0 : Int32), iv (115 : Int32), u_, u_] [])) (fun t k => st140 _ k) ?_
        refine Gv T140 251 [(.int (115 : Int32))] (fun t k => XS.iload X140.here hx rfl (hb hby at_249) rfl k) ?_
        refine Gv T140 253 [(.int ch), (.int (115 : Int32))] (fun t k => XS.iload X140.here hx rfl (hb hby at_251) rfl k) ?_
        have j142 : ∀ (ew : Int32) (hew : (([ch, (117 : Int32), (98 : Int32), (115 : Int32), (116 : Int32), (97 : Int32), (110 : Int32), (116 : Int32), (105 : Int32), (97 : Int32), (108 : Int32)] : List Int32) = own_low ∧ ew = (0 : Int32)) ∨ (([ch, (117 : Int32), (98 : Int32), (115 : Int32), (116 : Int32), (97 : Int32), (110 : Int32), (116 : Int32), (105 : Int32), (97 : Int32), (108 : Int32)] : List Int32) = own_sub ∧ ew = (1 : Int32)) ∨ (([ch, (117 : Int32), (98 : Int32), (115 : Int32), (116 : Int32), (97 : Int32), (110 : Int32), (116 : Int32), (105 : Int32), (97 : Int32), (108 : Int32)] : List Int32) = own_hig ∧ ew = (2 : Int32)) ∨ ((¬ ([ch, (117 : Int32), (98 : Int32), (115 : Int32), (116 : Int32), (97 : Int32), (110 : Int32), (116 : Int32), (105 : Int32), (97 : Int32), (108 : Int32)] : List Int32) = own_low ∧ ¬ ([ch, (117 : Int32), (98 : Int32), (115 : Int32), (116 : Int32), (97 : Int32), (110 : Int32), (116 : Int32), (105 : Int32), (97 : Int32), (108 : Int32)] : List Int32) = own_sub ∧ ¬ ([ch, (117 : Int32), (98 : Int32), (115 : Int32), (116 : Int32), (97 : Int32), (110 : Int32), (116 : Int32), (105 : Int32), (97 : Int32), (108 : Int32)] : List Int32) = own_hig) ∧ ew = (-1 : Int32))) , Goes p.tables e below (fun t o => ∃ v L, o = .returned v ∧ (own_Q31 Z x1 x2 x3 x4 z0 oe va kv aL sL tL kL aS sS tS kS aH sH tH kH h0 n0) v t.heap L ∧ EndH Z consts_1 s o t L (room_1).cells (room_1).slots) (T140.setTop (mkF m 260 #[iv x1, iv x2, iv x3, lv_ x4, s_, iv (1 : Int32), iv (1 : Int32), iv ch, u_, iv ew, rv r135, iv (0 : Int32), iv (115 : Int32), u_, u_] [])) := by
          intro ew hew
          obtain ⟨T144, h144, X144, e144, E144, A144, D144, U144, st144⟩ := newO X140 hx hZ hown (W_ hw 5 rfl) (W_ hw 6 rfl) (W_ hw 7 rfl) e140 (g := (mkF m 260 #[iv x1, iv x2, iv x3, lv_ x4, s_, iv (1 : Int32), iv (1 : Int32), iv ch, u_, iv ew, rv r135, iv (0 : Int32), iv (115 : Int32), u_, u_] [])) rfl (hb hby at_260) (by decide) (by decide)
          obtain ⟨b144, g144⟩ : ∃ z, z = h140.size := ⟨_, rfl⟩
          rw [← g144] at A144 D144 U144 st144
          have gn144 : n0 ≤ b144 := Nat.le_trans (old_le ((O0.keep K135 all0).wr W140 gn135_0)) (Nat.le_of_eq g144.symm)
          have hq145 := CHr.ext E144 hR141.1
          have hR145 := CHr.trans hR141 hq145
          have sf146 := Safe.ext E144 hR141.1 (Safe.new (Nat.le_of_eq g144.symm))
          have F144_coder : Fld Z h144 b144 "java/lang/String" "coder" "B" (.int (0 : Int32)) := D144 (Or.inr (W_ hw 31 rfl)) (ty := .byte) (by decide)
          have F144_value : Fld Z h144 b144 "java/lang/String" "value" "[B" .null := D144 (Or.inr (W_ hw 33 rfl)) (ty := (.array .byte)) (by decide)
          refine Goes.via (B := T144.setTop (mkF m 263 #[iv x1, iv x2, iv x3, lv_ x4, s_, iv (1 : Int32), iv (1 : Int32), iv ch, u_, iv ew, rv r135, iv (0 : Int32), iv (115 : Int32), u_, u_] [(.ref b144)])) (fun t k => st144 _ k) ?_
          refine Gv T144 264 [(.ref b144), (.ref b144)] (fun t k => XS.dup X144.here hx rfl (hb hby at_263) rfl rfl k) ?_
          refine Gv T144 266 [(.ref r135), (.ref b144), (.ref b144)] (fun t k => XS.aload X144.here hx rfl (hb hby at_264) rfl rfl k) ?_
          have hp147 : ∀ c ∈ ([ch, (117 : Int32), (98 : Int32), (115 : Int32), (116 : Int32), (97 : Int32), (110 : Int32), (116 : Int32), (105 : Int32), (97 : Int32), (108 : Int32)] : List Int32), ¬ c < 0 ∧ ¬ (255 : Int32) < c := by
            intro c hc
            simp only [List.mem_cons, List.not_mem_nil, or_false] at hc
            rcases hc with rfl | rfl | rfl | rfl | rfl | rfl | rfl | rfl | rfl | rfl | rfl <;> first | exact ⟨by decide, by decide⟩ | exact hch
          obtain ⟨_, T148, L148, X148, ⟨rfl, M148, K148, E148, C148, t148, kb148, gn148, gs148, nx148, F148, V148⟩, st148⟩ := callInitB X144 hx hZ rfl hown (W_ hw 8 rfl) (W_ hw 9 rfl) (W_ hw 10 rfl) (by decide) (argsL := [(.ref r135)]) (rest := [(.ref b144)]) (W := 1) (StrChars.Road.backV (s := (s.setVm s.vm)) (W := 1) hZ (own_hw_words hw) (kI := 4) (W_ hw 6 rfl) (x := b144) (b := r135) (cs := ([ch, (117 : Int32), (98 : Int32), (115 : Int32), (116 : Int32), (97 : Int32), (110 : Int32), (116 : Int32), (105 : Int32), (97 : Int32), (108 : Int32)] : List Int32)) (bs := ([ch, (117 : Int32), (98 : Int32), (115 : Int32), (116 : Int32), (97 : Int32), (110 : Int32), (116 : Int32), (105 : Int32), (97 : Int32), (108 : Int32)] : List Int32).map (fun c => c.toInt8.toInt32)) (n := 11) gn144 (old_le (((O0.keep K135 all0).wr W140 gn135_0).ext E144)) A144 F144_value F144_coder (V140.ext E144) (Sta.ext (((O0.keep K135 all0).wr W140 gn135_0).ext E144).2 O_1) hz0 rfl rfl (by decide) (by decide) hp147 rfl (by decide) (by decide)) e144 (lenOf own_pd11 rfl) (pc := 266) (Ls := #[iv x1, iv x2, iv x3, lv_ x4, s_, iv (1 : Int32), iv (1 : Int32), iv ch, u_, iv ew, rv r135, iv (0 : Int32), iv (115 : Int32), u_, u_]) (st := [(.ref r135), (.ref b144), (.ref b144)]) rfl (by rw [hml]; rfl) (hb hby at_266) (Nat.le_of_eq rfl) (by decide) (by decide)
          have hq149 := CHr.keep K148 (sfS sf146 sf0) hR145.1
          have hR149 := CHr.trans hR145 hq149
          have N148 := Fr.app Nf140 M148
          refine Goes.via (B := T148.setTop (mkF m 269 #[iv x1, iv x2, iv x3, lv_ x4, s_, iv (1 : Int32), iv (1 : Int32), iv ch, u_, iv ew, rv r135, iv (0 : Int32), iv (115 : Int32), u_, u_] [(.ref b144)])) (fun t k => st148 _ k) ?_
          have w150 : Arv Z T148.heap t148 kb148 .byte (Int32.ofNat ([ch, (117 : Int32), (98 : Int32), (115 : Int32), (116 : Int32), (97 : Int32), (110 : Int32), (116 : Int32), (105 : Int32), (97 : Int32), (108 : Int32)] : List Int32).length) ((([ch, (117 : Int32), (98 : Int32), (115 : Int32), (116 : Int32), (97 : Int32), (110 : Int32), (116 : Int32), (105 : Int32), (97 : Int32), (108 : Int32)] : List Int32).map StrChars.lo8).map Value.int) (.int 0) := V148
          refine Gv T148 271 [] (fun t k => XS.astore X148.here hx rfl (hb hby at_269) rfl rfl (l' := #[iv x1, iv x2, iv x3, lv_ x4, s_, iv (1 : Int32), iv (1 : Int32), iv ch, rv b144, iv ew, rv r135, iv (0 : Int32), iv (115 : Int32), u_, u_]) rfl k) ?_
          obtain ⟨Xr151, hSr151, hZr151, hor151⟩ := rebase (cells := 8) (slots := 96) (X148.more (by decide) (by decide)) hS0 rfl (Nat.le_trans (Nat.le_trans (Nat.le_trans (Nat.le_trans hk0 K135.1) (Nat.le_of_eq (Wr.size W140).symm)) E144.1) K148.1) hZ hown
          exact j26 T148 _ T148.heap Xr151 rfl N148 hSr151 hZr151 hor151 (CHr.trans hR149 (CHv.at X148 hZ hEL hR149.1)) b144 t148 kb148 ([ch, (117 : Int32), (98 : Int32), (115 : Int32), (116 : Int32), (97 : Int32), (110 : Int32), (116 : Int32), (105 : Int32), (97 : Int32), (108 : Int32)] : List Int32) ew r135 (0 : Int32) (115 : Int32) ((((O0.keep K135 all0).wr W140 gn135_0).ext E144).keep K148 (allS gn144 all0)) E148 F148 C148 w150 hp147 (by simp) hew
        by_cases b152 : (115 : Int32) = ch
        · refine Gv T140 256 [] (fun t k => XS.icmpNo X140.here hx rfl (hb hby at_253) rfl (XT.ii_ne_f b152) k) ?_
          refine Gv T140 258 [(.int (1 : Int32))] (fun t k => XS.iload X140.here hx rfl (hb hby at_256) rfl k) ?_
          refine Gv T140 260 [] (fun t k => XS.istore X140.here hx rfl (hb hby at_258) rfl (l' := #[iv x1, iv x2, iv x3, lv_ x4, s_, iv (1 : Int32), iv (1 : Int32), iv ch, u_, iv (1 : Int32), rv r135, iv (0 : Int32), iv (115 : Int32), u_, u_]) rfl k) ?_
          exact j142 (1 : Int32) (Or.inr (Or.inl ⟨(by rw [← b152]; rfl), rfl⟩))
        · refine Gv T140 260 [] (fun t k => XS.icmpYes X140.here hx rfl (pc0 := 253) (pc' := 260) rfl (hb hby at_253) rfl (XT.ii_ne_t b152) (by decide) (by decide) k) ?_
          exact j142 (-1 : Int32) (Or.inr (Or.inr (Or.inr ⟨⟨(fun z => by simp [own_low, own_sub, own_hig] at z <;> exact absurd z.symm b152), (fun z => by simp [own_low, own_sub, own_hig] at z <;> exact absurd z.symm b152), (fun z => by simp [own_low, own_sub, own_hig] at z <;> exact absurd z.symm b152)⟩, rfl⟩)))
      · refine Gv T135 237 [(.ref r135)] (fun t k => XS.aload X135.here hx rfl (hb hby at_235) rfl rfl k) ?_
        refine Gv T135 239 [(.int (1 : Int32)), (.ref r135)] (fun t k => XS.iload X135.here hx rfl (hb hby at_237) rfl k) ?_
        obtain ⟨cl153, Ar153, q153, S153, N153, H153, G153⟩ := id f135_0
        have hin153 := inb_of (j := (1 : Int32)) S153 ⟨by decide, by decide⟩
        refine Goes.via (B := T135.setTop (mkF m 240 #[iv x1, iv x2, iv x3, lv_ x4, s_, iv (1 : Int32), iv (1 : Int32), iv ch, u_, iv (-1 : Int32), rv r135, iv (1 : Int32), u_, u_, u_] [(.int (117 : Int32))])) (fun t k => X135.caload hx (j := (1 : Int32)) (v := (.int (117 : Int32))) (Ar153.1) (State.isArrayOf_alike hZ.alike Ar153.2.1) Ar153.2.2 hin153 (H153.at hin153 rfl) (g := (mkF m 239 #[iv x1, iv x2, iv x3, lv_ x4, s_, iv (1 : Int32), iv (1 : Int32), iv ch, u_, iv (-1 : Int32), rv r135, iv (1 : Int32), u_, u_, u_] [(.int (1 : Int32)), (.ref r135)])) rfl rfl (hb hby at_239) t k) ?_
        refine Gv T135 242 [] (fun t k => XS.istore X135.here hx rfl (hb hby at_240) rfl (l' := #[iv x1, iv x2, iv x3, lv_ x4, s_, iv (1 : Int32), iv (1 : Int32), iv ch, u_, iv (-1 : Int32), rv r135, iv (1 : Int32), iv (117 : Int32), u_, u_]) rfl k) ?_
        refine Gv T135 244 [(.ref r135)] (fun t k => XS.aload X135.here hx rfl (hb hby at_242) rfl rfl k) ?_
        refine Gv T135 246 [(.int (1 : Int32)), (.ref r135)] (fun t k => XS.iload X135.here hx rfl (hb hby at_244) rfl k) ?_
        refine Gv T135 248 [(.int ch), (.int (1 : Int32)), (.ref r135)] (fun t k => XS.iload X135.here hx rfl (hb hby at_246) rfl k) ?_
        obtain ⟨cl154, Ar154, q154, S154, N154, H154, G154⟩ := id f135_0
        obtain ⟨T154, h154, X154, e154, W154, st154⟩ := stC X135 hx hZ rfl Ar154 (j := (1 : Int32)) (inb_of S154 ⟨by decide, by decide⟩) (g := (mkF m 248 #[iv x1, iv x2, iv x3, lv_ x4, s_, iv (1 : Int32), iv (1 : Int32), iv ch, u_, iv (-1 : Int32), rv r135, iv (1 : Int32), iv (117 : Int32), u_, u_] [(.int ch), (.int (1 : Int32)), (.ref r135)])) rfl rfl (hb hby at_248)
        have wn154 : nar .char ch = ch := own_i2c hch
        have fn154 : fits .char (.int ch) = true := by rw [← wn154]; exact fits_nar_char _
        rw [wn154] at W154
        have Nf154 := Fr.snoc X154 N135 gn135_0
        have hq155 := CHr.wr W154 (Safe.arv hZ.alike f135_0 (by decide)) hR136.1
        have hR155 := CHr.trans hR136 hq155
        have V154 : Arv Z h154 r135 kr135 .char (11 : Int32) [(.int (115 : Int32)), (.int ch), (.int (98 : Int32)), (.int (115 : Int32)), (.int (116 : Int32)), (.int (97 : Int32)), (.int (110 : Int32)), (.int (116 : Int32)), (.int (105 : Int32)), (.int (97 : Int32)), (.int (108 : Int32))] (.int (0 : Int32)) := Arv.set Ar154 q154 S154 N154 H154 G154 fn154 W154 1 rfl (Nat.le_of_ble_eq_true rfl)
        refine Goes.via (B := T154.setTop (mkF m 249 #[iv x1, iv x2, iv x3, lv_ x4, s_, iv (1 : Int32), iv (1 : Int32), iv ch, u_, iv (-1 : Int32), rv r135, iv (1 : Int32), iv (117 : Int32), u_, u_] [])) (fun t k => st154 _ k) ?_
        refine Gv T154 251 [(.int (117 : Int32))] (fun t k => XS.iload X154.here hx rfl (hb hby at_249) rfl k) ?_
        refine Gv T154 253 [(.int ch), (.int (117 : Int32))] (fun t k => XS.iload X154.here hx rfl (hb hby at_251) rfl k) ?_
        have j156 : ∀ (ew : Int32) (hew : (([(115 : Int32), ch, (98 : Int32), (115 : Int32), (116 : Int32), (97 : Int32), (110 : Int32), (116 : Int32), (105 : Int32), (97 : Int32), (108 : Int32)] : List Int32) = own_low ∧ ew = (0 : Int32)) ∨ (([(115 : Int32), ch, (98 : Int32), (115 : Int32), (116 : Int32), (97 : Int32), (110 : Int32), (116 : Int32), (105 : Int32), (97 : Int32), (108 : Int32)] : List Int32) = own_sub ∧ ew = (1 : Int32)) ∨ (([(115 : Int32), ch, (98 : Int32), (115 : Int32), (116 : Int32), (97 : Int32), (110 : Int32), (116 : Int32), (105 : Int32), (97 : Int32), (108 : Int32)] : List Int32) = own_hig ∧ ew = (2 : Int32)) ∨ ((¬ ([(115 : Int32), ch, (98 : Int32), (115 : Int32), (116 : Int32), (97 : Int32), (110 : Int32), (116 : Int32), (105 : Int32), (97 : Int32), (108 : Int32)] : List Int32) = own_low ∧ ¬ ([(115 : Int32), ch, (98 : Int32), (115 : Int32), (116 : Int32), (97 : Int32), (110 : Int32), (116 : Int32), (105 : Int32), (97 : Int32), (108 : Int32)] : List Int32) = own_sub ∧ ¬ ([(115 : Int32), ch, (98 : Int32), (115 : Int32), (116 : Int32), (97 : Int32), (110 : Int32), (116 : Int32), (105 : Int32), (97 : Int32), (108 : Int32)] : List Int32) = own_hig) ∧ ew = (-1 : Int32))) , Goes p.tables e below (fun t o => ∃ v L, o = .returned v ∧ (own_Q31 Z x1 x2 x3 x4 z0 oe va kv aL sL tL kL aS sS tS kS aH sH tH kH h0 n0) v t.heap L ∧ EndH Z consts_1 s o t L (room_1).cells (room_1).slots) (T154.setTop (mkF m 260 #[iv x1, iv x2, iv x3, lv_ x4, s_, iv (1 : Int32), iv (1 : Int32), iv ch, u_, iv ew, rv r135, iv (1 : Int32), iv (117 : Int32), u_, u_] [])) := by
          intro ew hew
          obtain ⟨T158, h158, X158, e158, E158, A158, D158, U158, st158⟩ := newO X154 hx hZ hown (W_ hw 5 rfl) (W_ hw 6 rfl) (W_ hw 7 rfl) e154 (g := (mkF m 260 #[iv x1, iv x2, iv x3, lv_ x4, s_, iv (1 : Int32), iv (1 : Int32), iv ch, u_, iv ew, rv r135, iv (1 : Int32), iv (117 : Int32), u_, u_] [])) rfl (hb hby at_260) (by decide) (by decide)
          obtain ⟨b158, g158⟩ : ∃ z, z = h154.size := ⟨_, rfl⟩
          rw [← g158] at A158 D158 U158 st158
          have gn158 : n0 ≤ b158 := Nat.le_trans (old_le ((O0.keep K135 all0).wr W154 gn135_0)) (Nat.le_of_eq g158.symm)
          have hq159 := CHr.ext E158 hR155.1
          have hR159 := CHr.trans hR155 hq159
          have sf160 := Safe.ext E158 hR155.1 (Safe.new (Nat.le_of_eq g158.symm))
          have F158_coder : Fld Z h158 b158 "java/lang/String" "coder" "B" (.int (0 : Int32)) := D158 (Or.inr (W_ hw 31 rfl)) (ty := .byte) (by decide)
          have F158_value : Fld Z h158 b158 "java/lang/String" "value" "[B" .null := D158 (Or.inr (W_ hw 33 rfl)) (ty := (.array .byte)) (by decide)
          refine Goes.via (B := T158.setTop (mkF m 263 #[iv x1, iv x2, iv x3, lv_ x4, s_, iv (1 : Int32), iv (1 : Int32), iv ch, u_, iv ew, rv r135, iv (1 : Int32), iv (117 : Int32), u_, u_] [(.ref b158)])) (fun t k => st158 _ k) ?_
          refine Gv T158 264 [(.ref b158), (.ref b158)] (fun t k => XS.dup X158.here hx rfl (hb hby at_263) rfl rfl k) ?_
          refine Gv T158 266 [(.ref r135), (.ref b158), (.ref b158)] (fun t k => XS.aload X158.here hx rfl (hb hby at_264) rfl rfl k) ?_
          have hp161 : ∀ c ∈ ([(115 : Int32), ch, (98 : Int32), (115 : Int32), (116 : Int32), (97 : Int32), (110 : Int32), (116 : Int32), (105 : Int32), (97 : Int32), (108 : Int32)] : List Int32), ¬ c < 0 ∧ ¬ (255 : Int32) < c := by
            intro c hc
            simp only [List.mem_cons, List.not_mem_nil, or_false] at hc
            rcases hc with rfl | rfl | rfl | rfl | rfl | rfl | rfl | rfl | rfl | rfl | rfl <;> first | exact ⟨by decide, by decide⟩ | exact hch
          obtain ⟨_, T162, L162, X162, ⟨rfl, M162, K162, E162, C162, t162, kb162, gn162, gs162, nx162, F162, V162⟩, st162⟩ := callInitB X158 hx hZ rfl hown (W_ hw 8 rfl) (W_ hw 9 rfl) (W_ hw 10 rfl) (by decide) (argsL := [(.ref r135)]) (rest := [(.ref b158)]) (W := 1) (StrChars.Road.backV (s := (s.setVm s.vm)) (W := 1) hZ (own_hw_words hw) (kI := 4) (W_ hw 6 rfl) (x := b158) (b := r135) (cs := ([(115 : Int32), ch, (98 : Int32), (115 : Int32), (116 : Int32), (97 : Int32), (110 : Int32), (116 : Int32), (105 : Int32), (97 : Int32), (108 : Int32)] : List Int32)) (bs := ([(115 : Int32), ch, (98 : Int32), (115 : Int32), (116 : Int32), (97 : Int32), (110 : Int32), (116 : Int32), (105 : Int32), (97 : Int32), (108 : Int32)] : List Int32).map (fun c => c.toInt8.toInt32)) (n := 11) gn158 (old_le (((O0.keep K135 all0).wr W154 gn135_0).ext E158)) A158 F158_value F158_coder (V154.ext E158) (Sta.ext (((O0.keep K135 all0).wr W154 gn135_0).ext E158).2 O_1) hz0 rfl rfl (by decide) (by decide) hp161 rfl (by decide) (by decide)) e158 (lenOf own_pd11 rfl) (pc := 266) (Ls := #[iv x1, iv x2, iv x3, lv_ x4, s_, iv (1 : Int32), iv (1 : Int32), iv ch, u_, iv ew, rv r135, iv (1 : Int32), iv (117 : Int32), u_, u_]) (st := [(.ref r135), (.ref b158), (.ref b158)]) rfl (by rw [hml]; rfl) (hb hby at_266) (Nat.le_of_eq rfl) (by decide) (by decide)
          have hq163 := CHr.keep K162 (sfS sf160 sf0) hR159.1
          have hR163 := CHr.trans hR159 hq163
          have N162 := Fr.app Nf154 M162
          refine Goes.via (B := T162.setTop (mkF m 269 #[iv x1, iv x2, iv x3, lv_ x4, s_, iv (1 : Int32), iv (1 : Int32), iv ch, u_, iv ew, rv r135, iv (1 : Int32), iv (117 : Int32), u_, u_] [(.ref b158)])) (fun t k => st162 _ k) ?_
          have w164 : Arv Z T162.heap t162 kb162 .byte (Int32.ofNat ([(115 : Int32), ch, (98 : Int32), (115 : Int32), (116 : Int32), (97 : Int32), (110 : Int32), (116 : Int32), (105 : Int32), (97 : Int32), (108 : Int32)] : List Int32).length) ((([(115 : Int32), ch, (98 : Int32), (115 : Int32), (116 : Int32), (97 : Int32), (110 : Int32), (116 : Int32), (105 : Int32), (97 : Int32), (108 : Int32)] : List Int32).map StrChars.lo8).map Value.int) (.int 0) := V162
          refine Gv T162 271 [] (fun t k => XS.astore X162.here hx rfl (hb hby at_269) rfl rfl (l' := #[iv x1, iv x2, iv x3, lv_ x4, s_, iv (1 : Int32), iv (1 : Int32), iv ch, rv b158, iv ew, rv r135, iv (1 : Int32), iv (117 : Int32), u_, u_]) rfl k) ?_
          obtain ⟨Xr165, hSr165, hZr165, hor165⟩ := rebase (cells := 8) (slots := 96) (X162.more (by decide) (by decide)) hS0 rfl (Nat.le_trans (Nat.le_trans (Nat.le_trans (Nat.le_trans hk0 K135.1) (Nat.le_of_eq (Wr.size W154).symm)) E158.1) K162.1) hZ hown
          exact j26 T162 _ T162.heap Xr165 rfl N162 hSr165 hZr165 hor165 (CHr.trans hR163 (CHv.at X162 hZ hEL hR163.1)) b158 t162 kb162 ([(115 : Int32), ch, (98 : Int32), (115 : Int32), (116 : Int32), (97 : Int32), (110 : Int32), (116 : Int32), (105 : Int32), (97 : Int32), (108 : Int32)] : List Int32) ew r135 (1 : Int32) (117 : Int32) ((((O0.keep K135 all0).wr W154 gn135_0).ext E158).keep K162 (allS gn158 all0)) E162 F162 C162 w164 hp161 (by simp) hew
        by_cases b166 : (117 : Int32) = ch
        · refine Gv T154 256 [] (fun t k => XS.icmpNo X154.here hx rfl (hb hby at_253) rfl (XT.ii_ne_f b166) k) ?_
          refine Gv T154 258 [(.int (1 : Int32))] (fun t k => XS.iload X154.here hx rfl (hb hby at_256) rfl k) ?_
          refine Gv T154 260 [] (fun t k => XS.istore X154.here hx rfl (hb hby at_258) rfl (l' := #[iv x1, iv x2, iv x3, lv_ x4, s_, iv (1 : Int32), iv (1 : Int32), iv ch, u_, iv (1 : Int32), rv r135, iv (1 : Int32), iv (117 : Int32), u_, u_]) rfl k) ?_
          exact j156 (1 : Int32) (Or.inr (Or.inl ⟨(by rw [← b166]; rfl), rfl⟩))
        · refine Gv T154 260 [] (fun t k => XS.icmpYes X154.here hx rfl (pc0 := 253) (pc' := 260) rfl (hb hby at_253) rfl (XT.ii_ne_t b166) (by decide) (by decide) k) ?_
          exact j156 (-1 : Int32) (Or.inr (Or.inr (Or.inr ⟨⟨(fun z => by simp [own_low, own_sub, own_hig] at z <;> exact absurd z.symm b166), (fun z => by simp [own_low, own_sub, own_hig] at z <;> exact absurd z.symm b166), (fun z => by simp [own_low, own_sub, own_hig] at z <;> exact absurd z.symm b166)⟩, rfl⟩)))
      · refine Gv T135 237 [(.ref r135)] (fun t k => XS.aload X135.here hx rfl (hb hby at_235) rfl rfl k) ?_
        refine Gv T135 239 [(.int (2 : Int32)), (.ref r135)] (fun t k => XS.iload X135.here hx rfl (hb hby at_237) rfl k) ?_
        obtain ⟨cl167, Ar167, q167, S167, N167, H167, G167⟩ := id f135_0
        have hin167 := inb_of (j := (2 : Int32)) S167 ⟨by decide, by decide⟩
        refine Goes.via (B := T135.setTop (mkF m 240 #[iv x1, iv x2, iv x3, lv_ x4, s_, iv (1 : Int32), iv (1 : Int32), iv ch, u_, iv (-1 : Int32), rv r135, iv (2 : Int32), u_, u_, u_] [(.int (98 : Int32))])) (fun t k => X135.caload hx (j := (2 : Int32)) (v := (.int (98 : Int32))) (Ar167.1) (State.isArrayOf_alike hZ.alike Ar167.2.1) Ar167.2.2 hin167 (H167.at hin167 rfl) (g := (mkF m 239 #[iv x1, iv x2, iv x3, lv_ x4, s_, iv (1 : Int32), iv (1 : Int32), iv ch, u_, iv (-1 : Int32), rv r135, iv (2 : Int32), u_, u_, u_] [(.int (2 : Int32)), (.ref r135)])) rfl rfl (hb hby at_239) t k) ?_
        refine Gv T135 242 [] (fun t k => XS.istore X135.here hx rfl (hb hby at_240) rfl (l' := #[iv x1, iv x2, iv x3, lv_ x4, s_, iv (1 : Int32), iv (1 : Int32), iv ch, u_, iv (-1 : Int32), rv r135, iv (2 : Int32), iv (98 : Int32), u_, u_]) rfl k) ?_
        refine Gv T135 244 [(.ref r135)] (fun t k => XS.aload X135.here hx rfl (hb hby at_242) rfl rfl k) ?_
        refine Gv T135 246 [(.int (2 : Int32)), (.ref r135)] (fun t k => XS.iload X135.here hx rfl (hb hby at_244) rfl k) ?_
        refine Gv T135 248 [(.int ch), (.int (2 : Int32)), (.ref r135)] (fun t k => XS.iload X135.here hx rfl (hb hby at_246) rfl k) ?_
        obtain ⟨cl168, Ar168, q168, S168, N168, H168, G168⟩ := id f135_0
        obtain ⟨T168, h168, X168, e168, W168, st168⟩ := stC X135 hx hZ rfl Ar168 (j := (2 : Int32)) (inb_of S168 ⟨by decide, by decide⟩) (g := (mkF m 248 #[iv x1, iv x2, iv x3, lv_ x4, s_, iv (1 : Int32), iv (1 : Int32), iv ch, u_, iv (-1 : Int32), rv r135, iv (2 : Int32), iv (98 : Int32), u_, u_] [(.int ch), (.int (2 : Int32)), (.ref r135)])) rfl rfl (hb hby at_248)
        have wn168 : nar .char ch = ch := own_i2c hch
        have fn168 : fits .char (.int ch) = true := by rw [← wn168]; exact fits_nar_char _
        rw [wn168] at W168
        have Nf168 := Fr.snoc X168 N135 gn135_0
        have hq169 := CHr.wr W168 (Safe.arv hZ.alike f135_0 (by decide)) hR136.1
        have hR169 := CHr.trans hR136 hq169
        have V168 : Arv Z h168 r135 kr135 .char (11 : Int32) [(.int (115 : Int32)), (.int (117 : Int32)), (.int ch), (.int (115 : Int32)), (.int (116 : Int32)), (.int (97 : Int32)), (.int (110 : Int32)), (.int (116 : Int32)), (.int (105 : Int32)), (.int (97 : Int32)), (.int (108 : Int32))] (.int (0 : Int32)) := Arv.set Ar168 q168 S168 N168 H168 G168 fn168 W168 2 rfl (Nat.le_of_ble_eq_true rfl)
        refine Goes.via (B := T168.setTop (mkF m 249 #[iv x1, iv x2, iv x3, lv_ x4, s_, iv (1 : Int32), iv (1 : Int32), iv ch, u_, iv (-1 : Int32), rv r135, iv (2 : Int32), iv (98 : Int32), u_, u_] [])) (fun t k => st168 _ k) ?_
        refine Gv T168 251 [(.int (98 : Int32))] (fun t k => XS.iload X168.here hx rfl (hb hby at_249) rfl k) ?_
        refine Gv T168 253 [(.int ch), (.int (98 : Int32))] (fun t k => XS.iload X168.here hx rfl (hb hby at_251) rfl k) ?_
        have j170 : ∀ (ew : Int32) (hew : (([(115 : Int32), (117 : Int32), ch, (115 : Int32), (116 : Int32), (97 : Int32), (110 : Int32), (116 : Int32), (105 : Int32), (97 : Int32), (108 : Int32)] : List Int32) = own_low ∧ ew = (0 : Int32)) ∨ (([(115 : Int32), (117 : Int32), ch, (115 : Int32), (116 : Int32), (97 : Int32), (110 : Int32), (116 : Int32), (105 : Int32), (97 : Int32), (108 : Int32)] : List Int32) = own_sub ∧ ew = (1 : Int32)) ∨ (([(115 : Int32), (117 : Int32), ch, (115 : Int32), (116 : Int32), (97 : Int32), (110 : Int32), (116 : Int32), (105 : Int32), (97 : Int32), (108 : Int32)] : List Int32) = own_hig ∧ ew = (2 : Int32)) ∨ ((¬ ([(115 : Int32), (117 : Int32), ch, (115 : Int32), (116 : Int32), (97 : Int32), (110 : Int32), (116 : Int32), (105 : Int32), (97 : Int32), (108 : Int32)] : List Int32) = own_low ∧ ¬ ([(115 : Int32), (117 : Int32), ch, (115 : Int32), (116 : Int32), (97 : Int32), (110 : Int32), (116 : Int32), (105 : Int32), (97 : Int32), (108 : Int32)] : List Int32) = own_sub ∧ ¬ ([(115 : Int32), (117 : Int32), ch, (115 : Int32), (116 : Int32), (97 : Int32), (110 : Int32), (116 : Int32), (105 : Int32), (97 : Int32), (108 : Int32)] : List Int32) = own_hig) ∧ ew = (-1 : Int32))) , Goes p.tables e below (fun t o => ∃ v L, o = .returned v ∧ (own_Q31 Z x1 x2 x3 x4 z0 oe va kv aL sL tL kL aS sS tS kS aH sH tH kH h0 n0) v t.heap L ∧ EndH Z consts_1 s o t L (room_1).cells (room_1).slots) (T168.setTop (mkF m 260 #[iv x1, iv x2, iv x3, lv_ x4, s_, iv (1 : Int32), iv (1 : Int32), iv ch, u_, iv ew, rv r135, iv (2 : Int32), iv (98 : Int32), u_, u_] [])) := by
          intro ew hew
          obtain ⟨T172, h172, X172, e172, E172, A172, D172, U172, st172⟩ := newO X168 hx hZ hown (W_ hw 5 rfl) (W_ hw 6 rfl) (W_ hw 7 rfl) e168 (g := (mkF m 260 #[iv x1, iv x2, iv x3, lv_ x4, s_, iv (1 : Int32), iv (1 : Int32), iv ch, u_, iv ew, rv r135, iv (2 : Int32), iv (98 : Int32), u_, u_] [])) rfl (hb hby at_260) (by decide) (by decide)
          obtain ⟨b172, g172⟩ : ∃ z, z = h168.size := ⟨_, rfl⟩
          rw [← g172] at A172 D172 U172 st172
          have gn172 : n0 ≤ b172 := Nat.le_trans (old_le ((O0.keep K135 all0).wr W168 gn135_0)) (Nat.le_of_eq g172.symm)
          have hq173 := CHr.ext E172 hR169.1
          have hR173 := CHr.trans hR169 hq173
          have sf174 := Safe.ext E172 hR169.1 (Safe.new (Nat.le_of_eq g172.symm))
          have F172_coder : Fld Z h172 b172 "java/lang/String" "coder" "B" (.int (0 : Int32)) := D172 (Or.inr (W_ hw 31 rfl)) (ty := .byte) (by decide)
          have F172_value : Fld Z h172 b172 "java/lang/String" "value" "[B" .null := D172 (Or.inr (W_ hw 33 rfl)) (ty := (.array .byte)) (by decide)
          refine Goes.via (B := T172.setTop (mkF m 263 #[iv x1, iv x2, iv x3, lv_ x4, s_, iv (1 : Int32), iv (1 : Int32), iv ch, u_, iv ew, rv r135, iv (2 : Int32), iv (98 : Int32), u_, u_] [(.ref b172)])) (fun t k => st172 _ k) ?_
          refine Gv T172 264 [(.ref b172), (.ref b172)] (fun t k => XS.dup X172.here hx rfl (hb hby at_263) rfl rfl k) ?_
          refine Gv T172 266 [(.ref r135), (.ref b172), (.ref b172)] (fun t k => XS.aload X172.here hx rfl (hb hby at_264) rfl rfl k) ?_
          have hp175 : ∀ c ∈ ([(115 : Int32), (117 : Int32), ch, (115 : Int32), (116 : Int32), (97 : Int32), (110 : Int32), (116 : Int32), (105 : Int32), (97 : Int32), (108 : Int32)] : List Int32), ¬ c < 0 ∧ ¬ (255 : Int32) < c := by
            intro c hc
            simp only [List.mem_cons, List.not_mem_nil, or_false] at hc
            rcases hc with rfl | rfl | rfl | rfl | rfl | rfl | rfl | rfl | rfl | rfl | rfl <;> first | exact ⟨by decide, by decide⟩ | exact hch
          obtain ⟨_, T176, L176, X176, ⟨rfl, M176, K176, E176, C176, t176, kb176, gn176, gs176, nx176, F176, V176⟩, st176⟩ := callInitB X172 hx hZ rfl hown (W_ hw 8 rfl) (W_ hw 9 rfl) (W_ hw 10 rfl) (by decide) (argsL := [(.ref r135)]) (rest := [(.ref b172)]) (W := 1) (StrChars.Road.backV (s := (s.setVm s.vm)) (W := 1) hZ (own_hw_words hw) (kI := 4) (W_ hw 6 rfl) (x := b172) (b := r135) (cs := ([(115 : Int32), (117 : Int32), ch, (115 : Int32), (116 : Int32), (97 : Int32), (110 : Int32), (116 : Int32), (105 : Int32), (97 : Int32), (108 : Int32)] : List Int32)) (bs := ([(115 : Int32), (117 : Int32), ch, (115 : Int32), (116 : Int32), (97 : Int32), (110 : Int32), (116 : Int32), (105 : Int32), (97 : Int32), (108 : Int32)] : List Int32).map (fun c => c.toInt8.toInt32)) (n := 11) gn172 (old_le (((O0.keep K135 all0).wr W168 gn135_0).ext E172)) A172 F172_value F172_coder (V168.ext E172) (Sta.ext (((O0.keep K135 all0).wr W168 gn135_0).ext E172).2 O_1) hz0 rfl rfl (by decide) (by decide) hp175 rfl (by decide) (by decide)) e172 (lenOf own_pd11 rfl) (pc := 266) (Ls := #[iv x1, iv x2, iv x3, lv_ x4, s_, iv (1 : Int32), iv (1 : Int32), iv ch, u_, iv ew, rv r135, iv (2 : Int32), iv (98 : Int32), u_, u_]) (st := [(.ref r135), (.ref b172), (.ref b172)]) rfl (by rw [hml]; rfl) (hb hby at_266) (Nat.le_of_eq rfl) (by decide) (by decide)
          have hq177 := CHr.keep K176 (sfS sf174 sf0) hR173.1
          have hR177 := CHr.trans hR173 hq177
          have N176 := Fr.app Nf168 M176
          refine Goes.via (B := T176.setTop (mkF m 269 #[iv x1, iv x2, iv x3, lv_ x4, s_, iv (1 : Int32), iv (1 : Int32), iv ch, u_, iv ew, rv r135, iv (2 : Int32), iv (98 : Int32), u_, u_] [(.ref b172)])) (fun t k => st176 _ k) ?_
          have w178 : Arv Z T176.heap t176 kb176 .byte (Int32.ofNat ([(115 : Int32), (117 : Int32), ch, (115 : Int32), (116 : Int32), (97 : Int32), (110 : Int32), (116 : Int32), (105 : Int32), (97 : Int32), (108 : Int32)] : List Int32).length) ((([(115 : Int32), (117 : Int32), ch, (115 : Int32), (116 : Int32), (97 : Int32), (110 : Int32), (116 : Int32), (105 : Int32), (97 : Int32), (108 : Int32)] : List Int32).map StrChars.lo8).map Value.int) (.int 0) := V176
          refine Gv T176 271 [] (fun t k => XS.astore X176.here hx rfl (hb hby at_269) rfl rfl (l' := #[iv x1, iv x2, iv x3, lv_ x4, s_, iv (1 : Int32), iv (1 : Int32), iv ch, rv b172, iv ew, rv r135, iv (2 : Int32), iv (98 : Int32), u_, u_]) rfl k) ?_
          obtain ⟨Xr179, hSr179, hZr179, hor179⟩ := rebase (cells := 8) (slots := 96) (X176.more (by decide) (by decide)) hS0 rfl (Nat.le_trans (Nat.le_trans (Nat.le_trans (Nat.le_trans hk0 K135.1) (Nat.le_of_eq (Wr.size W168).symm)) E172.1) K176.1) hZ hown
          exact j26 T176 _ T176.heap Xr179 rfl N176 hSr179 hZr179 hor179 (CHr.trans hR177 (CHv.at X176 hZ hEL hR177.1)) b172 t176 kb176 ([(115 : Int32), (117 : Int32), ch, (115 : Int32), (116 : Int32), (97 : Int32), (110 : Int32), (116 : Int32), (105 : Int32), (97 : Int32), (108 : Int32)] : List Int32) ew r135 (2 : Int32) (98 : Int32) ((((O0.keep K135 all0).wr W168 gn135_0).ext E172).keep K176 (allS gn172 all0)) E176 F176 C176 w178 hp175 (by simp) hew
        by_cases b180 : (98 : Int32) = ch
        · refine Gv T168 256 [] (fun t k => XS.icmpNo X168.here hx rfl (hb hby at_253) rfl (XT.ii_ne_f b180) k) ?_
          refine Gv T168 258 [(.int (1 : Int32))] (fun t k => XS.iload X168.here hx rfl (hb hby at_256) rfl k) ?_
          refine Gv T168 260 [] (fun t k => XS.istore X168.here hx rfl (hb hby at_258) rfl (l' := #[iv x1, iv x2, iv x3, lv_ x4, s_, iv (1 : Int32), iv (1 : Int32), iv ch, u_, iv (1 : Int32), rv r135, iv (2 : Int32), iv (98 : Int32), u_, u_]) rfl k) ?_
          exact j170 (1 : Int32) (Or.inr (Or.inl ⟨(by rw [← b180]; rfl), rfl⟩))
        · refine Gv T168 260 [] (fun t k => XS.icmpYes X168.here hx rfl (pc0 := 253) (pc' := 260) rfl (hb hby at_253) rfl (XT.ii_ne_t b180) (by decide) (by decide) k) ?_
          exact j170 (-1 : Int32) (Or.inr (Or.inr (Or.inr ⟨⟨(fun z => by simp [own_low, own_sub, own_hig] at z <;> exact absurd z.symm b180), (fun z => by simp [own_low, own_sub, own_hig] at z <;> exact absurd z.symm b180), (fun z => by simp [own_low, own_sub, own_hig] at z <;> exact absurd z.symm b180)⟩, rfl⟩)))
      · refine Gv T135 237 [(.ref r135)] (fun t k => XS.aload X135.here hx rfl (hb hby at_235) rfl rfl k) ?_
        refine Gv T135 239 [(.int (3 : Int32)), (.ref r135)] (fun t k => XS.iload X135.here hx rfl (hb hby at_237) rfl k) ?_
        obtain ⟨cl181, Ar181, q181, S181, N181, H181, G181⟩ := id f135_0
        have hin181 := inb_of (j := (3 : Int32)) S181 ⟨by decide, by decide⟩
        refine Goes.via (B := T135.setTop (mkF m 240 #[iv x1, iv x2, iv x3, lv_ x4, s_, iv (1 : Int32), iv (1 : Int32), iv ch, u_, iv (-1 : Int32), rv r135, iv (3 : Int32), u_, u_, u_] [(.int (115 : Int32))])) (fun t k => X135.caload hx (j := (3 : Int32)) (v := (.int (115 : Int32))) (Ar181.1) (State.isArrayOf_alike hZ.alike Ar181.2.1) Ar181.2.2 hin181 (H181.at hin181 rfl) (g := (mkF m 239 #[iv x1, iv x2, iv x3, lv_ x4, s_, iv (1 : Int32), iv (1 : Int32), iv ch, u_, iv (-1 : Int32), rv r135, iv (3 : Int32), u_, u_, u_] [(.int (3 : Int32)), (.ref r135)])) rfl rfl (hb hby at_239) t k) ?_
        refine Gv T135 242 [] (fun t k => XS.istore X135.here hx rfl (hb hby at_240) rfl (l' := #[iv x1, iv x2, iv x3, lv_ x4, s_, iv (1 : Int32), iv (1 : Int32), iv ch, u_, iv (-1 : Int32), rv r135, iv (3 : Int32), iv (115 : Int32), u_, u_]) rfl k) ?_
        refine Gv T135 244 [(.ref r135)] (fun t k => XS.aload X135.here hx rfl (hb hby at_242) rfl rfl k) ?_
        refine Gv T135 246 [(.int (3 : Int32)), (.ref r135)] (fun t k => XS.iload X135.here hx rfl (hb hby at_244) rfl k) ?_
        refine Gv T135 248 [(.int ch), (.int (3 : Int32)), (.ref r135)] (fun t k => XS.iload X135.here hx rfl (hb hby at_246) rfl k) ?_
        obtain ⟨cl182, Ar182, q182, S182, N182, H182, G182⟩ := id f135_0
        obtain ⟨T182, h182, X182, e182, W182, st182⟩ := stC X135 hx hZ rfl Ar182 (j := (3 : Int32)) (inb_of S182 ⟨by decide, by decide⟩) (g := (mkF m 248 #[iv x1, iv x2, iv x3, lv_ x4, s_, iv (1 : Int32), iv (1 : Int32), iv ch, u_, iv (-1 : Int32), rv r135, iv (3 : Int32), iv (115 : Int32), u_, u_] [(.int ch), (.int (3 : Int32)), (.ref r135)])) rfl rfl (hb hby at_248)
        have wn182 : nar .char ch = ch := own_i2c hch
        have fn182 : fits .char (.int ch) = true := by rw [← wn182]; exact fits_nar_char _
        rw [wn182] at W182
        have Nf182 := Fr.snoc X182 N135 gn135_0
        have hq183 := CHr.wr W182 (Safe.arv hZ.alike f135_0 (by decide)) hR136.1
        have hR183 := CHr.trans hR136 hq183
        have V182 : Arv Z h182 r135 kr135 .char (11 : Int32) [(.int (115 : Int32)), (.int (117 : Int32)), (.int (98 : Int32)), (.int ch), (.int (116 : Int32)), (.int (97 : Int32)), (.int (110 : Int32)), (.int (116 : Int32)), (.int (105 : Int32)), (.int (97 : Int32)), (.int (108 : Int32))] (.int (0 : Int32)) := Arv.set Ar182 q182 S182 N182 H182 G182 fn182 W182 3 rfl (Nat.le_of_ble_eq_true rfl)
        refine Goes.via (B := T182.setTop (mkF m 249 #[iv x1, iv x2, iv x3, lv_ x4, s_, iv (1 : Int32), iv (1 : Int32), iv ch, u_, iv (-1 : Int32), rv r135, iv (3 : Int32), iv (115 : Int32), u_, u_] [])) (fun t k => st182 _ k) ?_
        refine Gv T182 251 [(.int (115 : Int32))] (fun t k => XS.iload X182.here hx rfl (hb hby at_249) rfl k) ?_
        refine Gv T182 253 [(.int ch), (.int (115 : Int32))] (fun t k => XS.iload X182.here hx rfl (hb hby at_251) rfl k) ?_
        have j184 : ∀ (ew : Int32) (hew : (([(115 : Int32), (117 : Int32), (98 : Int32), ch, (116 : Int32), (97 : Int32), (110 : Int32), (116 : Int32), (105 : Int32), (97 : Int32), (108 : Int32)] : List Int32) = own_low ∧ ew = (0 : Int32)) ∨ (([(115 : Int32), (117 : Int32), (98 : Int32), ch, (116 : Int32), (97 : Int32), (110 : Int32), (116 : Int32), (105 : Int32), (97 : Int32), (108 : Int32)] : List Int32) = own_sub ∧ ew = (1 : Int32)) ∨ (([(115 : Int32), (117 : Int32), (98 : Int32), ch, (116 : Int32), (97 : Int32), (110 : Int32), (116 : Int32), (105 : Int32), (97 : Int32), (108 : Int32)] : List Int32) = own_hig ∧ ew = (2 : Int32)) ∨ ((¬ ([(115 : Int32), (117 : Int32), (98 : Int32), ch, (116 : Int32), (97 : Int32), (110 : Int32), (116 : Int32), (105 : Int32), (97 : Int32), (108 : Int32)] : List Int32) = own_low ∧ ¬ ([(115 : Int32), (117 : Int32), (98 : Int32), ch, (116 : Int32), (97 : Int32), (110 : Int32), (116 : Int32), (105 : Int32), (97 : Int32), (108 : Int32)] : List Int32) = own_sub ∧ ¬ ([(115 : Int32), (117 : Int32), (98 : Int32), ch, (116 : Int32), (97 : Int32), (110 : Int32), (116 : Int32), (105 : Int32), (97 : Int32), (108 : Int32)] : List Int32) = own_hig) ∧ ew = (-1 : Int32))) , Goes p.tables e below (fun t o => ∃ v L, o = .returned v ∧ (own_Q31 Z x1 x2 x3 x4 z0 oe va kv aL sL tL kL aS sS tS kS aH sH tH kH h0 n0) v t.heap L ∧ EndH Z consts_1 s o t L (room_1).cells (room_1).slots) (T182.setTop (mkF m 260 #[iv x1, iv x2, iv x3, lv_ x4, s_, iv (1 : Int32), iv (1 : Int32), iv ch, u_, iv ew, rv r135, iv (3 : Int32), iv (115 : Int32), u_, u_] [])) := by
          intro ew hew
          obtain ⟨T186, h186, X186, e186, E186, A186, D186, U186, st186⟩ := newO X182 hx hZ hown (W_ hw 5 rfl) (W_ hw 6 rfl) (W_ hw 7 rfl) e182 (g := (mkF m 260 #[iv x1, iv x2, iv x3, lv_ x4, s_, iv (1 : Int32), iv (1 : Int32), iv ch, u_, iv ew, rv r135, iv (3 : Int32), iv (115 : Int32), u_, u_] [])) rfl (hb hby at_260) (by decide) (by decide)
          obtain ⟨b186, g186⟩ : ∃ z, z = h182.size := ⟨_, rfl⟩
          rw [← g186] at A186 D186 U186 st186
          have gn186 : n0 ≤ b186 := Nat.le_trans (old_le ((O0.keep K135 all0).wr W182 gn135_0)) (Nat.le_of_eq g186.symm)
          have hq187 := CHr.ext E186 hR183.1
          have hR187 := CHr.trans hR183 hq187
          have sf188 := Safe.ext E186 hR183.1 (Safe.new (Nat.le_of_eq g186.symm))
          have F186_coder : Fld Z h186 b186 "java/lang/String" "coder" "B" (.int (0 : Int32)) := D186 (Or.inr (W_ hw 31 rfl)) (ty := .byte) (by decide)
          have F186_value : Fld Z h186 b186 "java/lang/String" "value" "[B" .null := D186 (Or.inr (W_ hw 33 rfl)) (ty := (.array .byte)) (by decide)
          refine Goes.via (B := T186.setTop (mkF m 263 #[iv x1, iv x2, iv x3, lv_ x4, s_, iv (1 : Int32), iv (1 : Int32), iv ch, u_, iv ew, rv r135, iv (3 : Int32), iv (115 : Int32), u_, u_] [(.ref b186)])) (fun t k => st186 _ k) ?_
          refine Gv T186 264 [(.ref b186), (.ref b186)] (fun t k => XS.dup X186.here hx rfl (hb hby at_263) rfl rfl k) ?_
          refine Gv T186 266 [(.ref r135), (.ref b186), (.ref b186)] (fun t k => XS.aload X186.here hx rfl (hb hby at_264) rfl rfl k) ?_
          have hp189 : ∀ c ∈ ([(115 : Int32), (117 : Int32), (98 : Int32), ch, (116 : Int32), (97 : Int32), (110 : Int32), (116 : Int32), (105 : Int32), (97 : Int32), (108 : Int32)] : List Int32), ¬ c < 0 ∧ ¬ (255 : Int32) < c := by
            intro c hc
            simp only [List.mem_cons, List.not_mem_nil, or_false] at hc
            rcases hc with rfl | rfl | rfl | rfl | rfl | rfl | rfl | rfl | rfl | rfl | rfl <;> first | exact ⟨by decide, by decide⟩ | exact hch
          obtain ⟨_, T190, L190, X190, ⟨rfl, M190, K190, E190, C190, t190, kb190, gn190, gs190, nx190, F190, V190⟩, st190⟩ := callInitB X186 hx hZ rfl hown (W_ hw 8 rfl) (W_ hw 9 rfl) (W_ hw 10 rfl) (by decide) (argsL := [(.ref r135)]) (rest := [(.ref b186)]) (W := 1) (StrChars.Road.backV (s := (s.setVm s.vm)) (W := 1) hZ (own_hw_words hw) (kI := 4) (W_ hw 6 rfl) (x := b186) (b := r135) (cs := ([(115 : Int32), (117 : Int32), (98 : Int32), ch, (116 : Int32), (97 : Int32), (110 : Int32), (116 : Int32), (105 : Int32), (97 : Int32), (108 : Int32)] : List Int32)) (bs := ([(115 : Int32), (117 : Int32), (98 : Int32), ch, (116 : Int32), (97 : Int32), (110 : Int32), (116 : Int32), (105 : Int32), (97 : Int32), (108 : Int32)] : List Int32).map (fun c => c.toInt8.toInt32)) (n := 11) gn186 (old_le (((O0.keep K135 all0).wr W182 gn135_0).ext E186)) A186 F186_value F186_coder (V182.ext E186) (Sta.ext (((O0.keep K135 all0).wr W182 gn135_0).ext E186).2 O_1) hz0 rfl rfl (by decide) (by decide) hp189 rfl (by decide) (by decide)) e186 (lenOf own_pd11 rfl) (pc := 266) (Ls := #[iv x1, iv x2, iv x3, lv_ x4, s_, iv (1 : Int32), iv (1 : Int32), iv ch, u_, iv ew, rv r135, iv (3 : Int32), iv (115 : Int32), u_, u_]) (st := [(.ref r135), (.ref b186), (.ref b186)]) rfl (by rw [hml]; rfl) (hb hby at_266) (Nat.le_of_eq rfl) (by decide) (by decide)
          have hq191 := CHr.keep K190 (sfS sf188 sf0) hR187.1
          have hR191 := CHr.trans hR187 hq191
          have N190 := Fr.app Nf182 M190
          refine Goes.via (B := T190.setTop (mkF m 269 #[iv x1, iv x2, iv x3, lv_ x4, s_, iv (1 : Int32), iv (1 : Int32), iv ch, u_, iv ew, rv r135, iv (3 : Int32), iv (115 : Int32), u_, u_] [(.ref b186)])) (fun t k => st190 _ k) ?_
          have w192 : Arv Z T190.heap t190 kb190 .byte (Int32.ofNat ([(115 : Int32), (117 : Int32), (98 : Int32), ch, (116 : Int32), (97 : Int32), (110 : Int32), (116 : Int32), (105 : Int32), (97 : Int32), (108 : Int32)] : List Int32).length) ((([(115 : Int32), (117 : Int32), (98 : Int32), ch, (116 : Int32), (97 : Int32), (110 : Int32), (116 : Int32), (105 : Int32), (97 : Int32), (108 : Int32)] : List Int32).map StrChars.lo8).map Value.int) (.int 0) := V190
          refine Gv T190 271 [] (fun t k => XS.astore X190.here hx rfl (hb hby at_269) rfl rfl (l' := #[iv x1, iv x2, iv x3, lv_ x4, s_, iv (1 : Int32), iv (1 : Int32), iv ch, rv b186, iv ew, rv r135, iv (3 : Int32), iv (115 : Int32), u_, u_]) rfl k) ?_
          obtain ⟨Xr193, hSr193, hZr193, hor193⟩ := rebase (cells := 8) (slots := 96) (X190.more (by decide) (by decide)) hS0 rfl (Nat.le_trans (Nat.le_trans (Nat.le_trans (Nat.le_trans hk0 K135.1) (Nat.le_of_eq (Wr.size W182).symm)) E186.1) K190.1) hZ hown
          exact j26 T190 _ T190.heap Xr193 rfl N190 hSr193 hZr193 hor193 (CHr.trans hR191 (CHv.at X190 hZ hEL hR191.1)) b186 t190 kb190 ([(115 : Int32), (117 : Int32), (98 : Int32), ch, (116 : Int32), (97 : Int32), (110 : Int32), (116 : Int32), (105 : Int32), (97 : Int32), (108 : Int32)] : List Int32) ew r135 (3 : Int32) (115 : Int32) ((((O0.keep K135 all0).wr W182 gn135_0).ext E186).keep K190 (allS gn186 all0)) E190 F190 C190 w192 hp189 (by simp) hew
        by_cases b194 : (115 : Int32) = ch
        · refine Gv T182 256 [] (fun t k => XS.icmpNo X182.here hx rfl (hb hby at_253) rfl (XT.ii_ne_f b194) k) ?_
          refine Gv T182 258 [(.int (1 : Int32))] (fun t k => XS.iload X182.here hx rfl (hb hby at_256) rfl k) ?_
          refine Gv T182 260 [] (fun t k => XS.istore X182.here hx rfl (hb hby at_258) rfl (l' := #[iv x1, iv x2, iv x3, lv_ x4, s_, iv (1 : Int32), iv (1 : Int32), iv ch, u_, iv (1 : Int32), rv r135, iv (3 : Int32), iv (115 : Int32), u_, u_]) rfl k) ?_
          exact j184 (1 : Int32) (Or.inr (Or.inl ⟨(by rw [← b194]; rfl), rfl⟩))
        · refine Gv T182 260 [] (fun t k => XS.icmpYes X182.here hx rfl (pc0 := 253) (pc' := 260) rfl (hb hby at_253) rfl (XT.ii_ne_t b194) (by decide) (by decide) k) ?_
          exact j184 (-1 : Int32) (Or.inr (Or.inr (Or.inr ⟨⟨(fun z => by simp [own_low, own_sub, own_hig] at z <;> exact absurd z.symm b194), (fun z => by simp [own_low, own_sub, own_hig] at z <;> exact absurd z.symm b194), (fun z => by simp [own_low, own_sub, own_hig] at z <;> exact absurd z.symm b194)⟩, rfl⟩)))
      · refine Gv T135 237 [(.ref r135)] (fun t k => XS.aload X135.here hx rfl (hb hby at_235) rfl rfl k) ?_
        refine Gv T135 239 [(.int (4 : Int32)), (.ref r135)] (fun t k => XS.iload X135.here hx rfl (hb hby at_237) rfl k) ?_
        obtain ⟨cl195, Ar195, q195, S195, N195, H195, G195⟩ := id f135_0
        have hin195 := inb_of (j := (4 : Int32)) S195 ⟨by decide, by decide⟩
        refine Goes.via (B := T135.setTop (mkF m 240 #[iv x1, iv x2, iv x3, lv_ x4, s_, iv (1 : Int32), iv (1 : Int32), iv ch, u_, iv (-1 : Int32), rv r135, iv (4 : Int32), u_, u_, u_] [(.int (116 : Int32))])) (fun t k => X135.caload hx (j := (4 : Int32)) (v := (.int (116 : Int32))) (Ar195.1) (State.isArrayOf_alike hZ.alike Ar195.2.1) Ar195.2.2 hin195 (H195.at hin195 rfl) (g := (mkF m 239 #[iv x1, iv x2, iv x3, lv_ x4, s_, iv (1 : Int32), iv (1 : Int32), iv ch, u_, iv (-1 : Int32), rv r135, iv (4 : Int32), u_, u_, u_] [(.int (4 : Int32)), (.ref r135)])) rfl rfl (hb hby at_239) t k) ?_
        refine Gv T135 242 [] (fun t k => XS.istore X135.here hx rfl (hb hby at_240) rfl (l' := #[iv x1, iv x2, iv x3, lv_ x4, s_, iv (1 : Int32), iv (1 : Int32), iv ch, u_, iv (-1 : Int32), rv r135, iv (4 : Int32), iv (116 : Int32), u_, u_]) rfl k) ?_
        refine Gv T135 244 [(.ref r135)] (fun t k => XS.aload X135.here hx rfl (hb hby at_242) rfl rfl k) ?_
        refine Gv T135 246 [(.int (4 : Int32)), (.ref r135)] (fun t k => XS.iload X135.here hx rfl (hb hby at_244) rfl k) ?_
        refine Gv T135 248 [(.int ch), (.int (4 : Int32)), (.ref r135)] (fun t k => XS.iload X135.here hx rfl (hb hby at_246) rfl k) ?_
        obtain ⟨cl196, Ar196, q196, S196, N196, H196, G196⟩ := id f135_0
        obtain ⟨T196, h196, X196, e196, W196, st196⟩ := stC X135 hx hZ rfl Ar196 (j := (4 : Int32)) (inb_of S196 ⟨by decide, by decide⟩) (g := (mkF m 248 #[iv x1, iv x2, iv x3, lv_ x4, s_, iv (1 : Int32), iv (1 : Int32), iv ch, u_, iv (-1 : Int32), rv r135, iv (4 : Int32), iv (116 : Int32), u_, u_] [(.int ch), (.int (4 : Int32)), (.ref r135)])) rfl rfl (hb hby at_248)
        have wn196 : nar .char ch = ch := own_i2c hch
        have fn196 : fits .char (.int ch) = true := by rw [← wn196]; exact fits_nar_char _
        rw [wn196] at W196
        have Nf196 := Fr.snoc X196 N135 gn135_0
        have hq197 := CHr.wr W196 (Safe.arv hZ.alike f135_0 (by decide)) hR136.1
        have hR197 := CHr.trans hR136 hq197
        have V196 : Arv Z h196 r135 kr135 .char (11 : Int32) [(.int (115 : Int32)), (.int (117 : Int32)), (.int (98 : Int32)), (.int (115 : Int32)), (.int ch), (.int (97 : Int32)), (.int (110 : Int32)), (.int (116 : Int32)), (.int (105 : Int32)), (.int (97 : Int32)), (.int (108 : Int32))] (.int (0 : Int32)) := Arv.set Ar196 q196 S196 N196 H196 G196 fn196 W196 4 rfl (Nat.le_of_ble_eq_true rfl)
        refine Goes.via (B := T196.setTop (mkF m 249 #[iv x1, iv x2, iv x3, lv_ x4, s_, iv (1 : Int32), iv (1 : Int32), iv ch, u_, iv (-1 : Int32), rv r135, iv (4 : Int32), iv (116 : Int32), u_, u_] [])) (fun t k => st196 _ k) ?_
        refine Gv T196 251 [(.int (116 : Int32))] (fun t k => XS.iload X196.here hx rfl (hb hby at_249) rfl k) ?_
        refine Gv T196 253 [(.int ch), (.int (116 : Int32))] (fun t k => XS.iload X196.here hx rfl (hb hby at_251) rfl k) ?_
        have j198 : ∀ (ew : Int32) (hew : (([(115 : Int32), (117 : Int32), (98 : Int32), (115 : Int32), ch, (97 : Int32), (110 : Int32), (116 : Int32), (105 : Int32), (97 : Int32), (108 : Int32)] : List Int32) = own_low ∧ ew = (0 : Int32)) ∨ (([(115 : Int32), (117 : Int32), (98 : Int32), (115 : Int32), ch, (97 : Int32), (110 : Int32), (116 : Int32), (105 : Int32), (97 : Int32), (108 : Int32)] : List Int32) = own_sub ∧ ew = (1 : Int32)) ∨ (([(115 : Int32), (117 : Int32), (98 : Int32), (115 : Int32), ch, (97 : Int32), (110 : Int32), (116 : Int32), (105 : Int32), (97 : Int32), (108 : Int32)] : List Int32) = own_hig ∧ ew = (2 : Int32)) ∨ ((¬ ([(115 : Int32), (117 : Int32), (98 : Int32), (115 : Int32), ch, (97 : Int32), (110 : Int32), (116 : Int32), (105 : Int32), (97 : Int32), (108 : Int32)] : List Int32) = own_low ∧ ¬ ([(115 : Int32), (117 : Int32), (98 : Int32), (115 : Int32), ch, (97 : Int32), (110 : Int32), (116 : Int32), (105 : Int32), (97 : Int32), (108 : Int32)] : List Int32) = own_sub ∧ ¬ ([(115 : Int32), (117 : Int32), (98 : Int32), (115 : Int32), ch, (97 : Int32), (110 : Int32), (116 : Int32), (105 : Int32), (97 : Int32), (108 : Int32)] : List Int32) = own_hig) ∧ ew = (-1 : Int32))) , Goes p.tables e below (fun t o => ∃ v L, o = .returned v ∧ (own_Q31 Z x1 x2 x3 x4 z0 oe va kv aL sL tL kL aS sS tS kS aH sH tH kH h0 n0) v t.heap L ∧ EndH Z consts_1 s o t L (room_1).cells (room_1).slots) (T196.setTop (mkF m 260 #[iv x1, iv x2, iv x3, lv_ x4, s_, iv (1 : Int32), iv (1 : Int32), iv ch, u_, iv ew, rv r135, iv (4 : Int32), iv (116 : Int32), u_, u_] [])) := by
          intro ew hew
          obtain ⟨T200, h200, X200, e200, E200, A200, D200, U200, st200⟩ := newO X196 hx hZ hown (W_ hw 5 rfl) (W_ hw 6 rfl) (W_ hw 7 rfl) e196 (g := (mkF m 260 #[iv x1, iv x2, iv x3, lv_ x4, s_, iv (1 : Int32), iv (1 : Int32), iv ch, u_, iv ew, rv r135, iv (4 : Int32), iv (116 : Int32), u_, u_] [])) rfl (hb hby at_260) (by decide) (by decide)
          obtain ⟨b200, g200⟩ : ∃ z, z = h196.size := ⟨_, rfl⟩
          rw [← g200] at A200 D200 U200 st200
          have gn200 : n0 ≤ b200 := Nat.le_trans (old_le ((O0.keep K135 all0).wr W196 gn135_0)) (Nat.le_of_eq g200.symm)
          have hq201 := CHr.ext E200 hR197.1
          have hR201 := CHr.trans hR197 hq201
          have sf202 := Safe.ext E200 hR197.1 (Safe.new (Nat.le_of_eq g200.symm))
          have F200_coder : Fld Z h200 b200 "java/lang/String" "coder" "B" (.int (0 : Int32)) := D200 (Or.inr (W_ hw 31 rfl)) (ty := .byte) (by decide)
          have F200_value : Fld Z h200 b200 "java/lang/String" "value" "[B" .null := D200 (Or.inr (W_ hw 33 rfl)) (ty := (.array .byte)) (by decide)
          refine Goes.via (B := T200.setTop (mkF m 263 #[iv x1, iv x2, iv x3, lv_ x4, s_, iv (1 : Int32), iv (1 : Int32), iv ch, u_, iv ew, rv r135, iv (4 : Int32), iv (116 : Int32), u_, u_] [(.ref b200)])) (fun t k => st200 _ k) ?_
          refine Gv T200 264 [(.ref b200), (.ref b200)] (fun t k => XS.dup X200.here hx rfl (hb hby at_263) rfl rfl k) ?_
          refine Gv T200 266 [(.ref r135), (.ref b200), (.ref b200)] (fun t k => XS.aload X200.here hx rfl (hb hby at_264) rfl rfl k) ?_
          have hp203 : ∀ c ∈ ([(115 : Int32), (117 : Int32), (98 : Int32), (115 : Int32), ch, (97 : Int32), (110 : Int32), (116 : Int32), (105 : Int32), (97 : Int32), (108 : Int32)] : List Int32), ¬ c < 0 ∧ ¬ (255 : Int32) < c := by
            intro c hc
            simp only [List.mem_cons, List.not_mem_nil, or_false] at hc
            rcases hc with rfl | rfl | rfl | rfl | rfl | rfl | rfl | rfl | rfl | rfl | rfl <;> first | exact ⟨by decide, by decide⟩ | exact hch
          obtain ⟨_, T204, L204, X204, ⟨rfl, M204, K204, E204, C204, t204, kb204, gn204, gs204, nx204, F204, V204⟩, st204⟩ := callInitB X200 hx hZ rfl hown (W_ hw 8 rfl) (W_ hw 9 rfl) (W_ hw 10 rfl) (by decide) (argsL := [(.ref r135)]) (rest := [(.ref b200)]) (W := 1) (StrChars.Road.backV (s := (s.setVm s.vm)) (W := 1) hZ (own_hw_words hw) (kI := 4) (W_ hw 6 rfl) (x := b200) (b := r135) (cs := ([(115 : Int32), (117 : Int32), (98 : Int32), (115 : Int32), ch, (97 : Int32), (110 : Int32), (116 : Int32), (105 : Int32), (97 : Int32), (108 : Int32)] : List Int32)) (bs := ([(115 : Int32), (117 : Int32), (98 : Int32), (115 : Int32), ch, (97 : Int32), (110 : Int32), (116 : Int32), (105 : Int32), (97 : Int32), (108 : Int32)] : List Int32).map (fun c => c.toInt8.toInt32)) (n := 11) gn200 (old_le (((O0.keep K135 all0).wr W196 gn135_0).ext E200)) A200 F200_value F200_coder (V196.ext E200) (Sta.ext (((O0.keep K135 all0).wr W196 gn135_0).ext E200).2 O_1) hz0 rfl rfl (by decide) (by decide) hp203 rfl (by decide) (by decide)) e200 (lenOf own_pd11 rfl) (pc := 266) (Ls := #[iv x1, iv x2, iv x3, lv_ x4, s_, iv (1 : Int32), iv (1 : Int32), iv ch, u_, iv ew, rv r135, iv (4 : Int32), iv (116 : Int32), u_, u_]) (st := [(.ref r135), (.ref b200), (.ref b200)]) rfl (by rw [hml]; rfl) (hb hby at_266) (Nat.le_of_eq rfl) (by decide) (by decide)
          have hq205 := CHr.keep K204 (sfS sf202 sf0) hR201.1
          have hR205 := CHr.trans hR201 hq205
          have N204 := Fr.app Nf196 M204
          refine Goes.via (B := T204.setTop (mkF m 269 #[iv x1, iv x2, iv x3, lv_ x4, s_, iv (1 : Int32), iv (1 : Int32), iv ch, u_, iv ew, rv r135, iv (4 : Int32), iv (116 : Int32), u_, u_] [(.ref b200)])) (fun t k => st204 _ k) ?_
          have w206 : Arv Z T204.heap t204 kb204 .byte (Int32.ofNat ([(115 : Int32), (117 : Int32), (98 : Int32), (115 : Int32), ch, (97 : Int32), (110 : Int32), (116 : Int32), (105 : Int32), (97 : Int32), (108 : Int32)] : List Int32).length) ((([(115 : Int32), (117 : Int32), (98 : Int32), (115 : Int32), ch, (97 : Int32), (110 : Int32), (116 : Int32), (105 : Int32), (97 : Int32), (108 : Int32)] : List Int32).map StrChars.lo8).map Value.int) (.int 0) := V204
          refine Gv T204 271 [] (fun t k => XS.astore X204.here hx rfl (hb hby at_269) rfl rfl (l' := #[iv x1, iv x2, iv x3, lv_ x4, s_, iv (1 : Int32), iv (1 : Int32), iv ch, rv b200, iv ew, rv r135, iv (4 : Int32), iv (116 : Int32), u_, u_]) rfl k) ?_
          obtain ⟨Xr207, hSr207, hZr207, hor207⟩ := rebase (cells := 8) (slots := 96) (X204.more (by decide) (by decide)) hS0 rfl (Nat.le_trans (Nat.le_trans (Nat.le_trans (Nat.le_trans hk0 K135.1) (Nat.le_of_eq (Wr.size W196).symm)) E200.1) K204.1) hZ hown
          exact j26 T204 _ T204.heap Xr207 rfl N204 hSr207 hZr207 hor207 (CHr.trans hR205 (CHv.at X204 hZ hEL hR205.1)) b200 t204 kb204 ([(115 : Int32), (117 : Int32), (98 : Int32), (115 : Int32), ch, (97 : Int32), (110 : Int32), (116 : Int32), (105 : Int32), (97 : Int32), (108 : Int32)] : List Int32) ew r135 (4 : Int32) (116 : Int32) ((((O0.keep K135 all0).wr W196 gn135_0).ext E200).keep K204 (allS gn200 all0)) E204 F204 C204 w206 hp203 (by simp) hew
        by_cases b208 : (116 : Int32) = ch
        · refine Gv T196 256 [] (fun t k => XS.icmpNo X196.here hx rfl (hb hby at_253) rfl (XT.ii_ne_f b208) k) ?_
          refine Gv T196 258 [(.int (1 : Int32))] (fun t k => XS.iload X196.here hx rfl (hb hby at_256) rfl k) ?_
          refine Gv T196 260 [] (fun t k => XS.istore X196.here hx rfl (hb hby at_258) rfl (l' := #[iv x1, iv x2, iv x3, lv_ x4, s_, iv (1 : Int32), iv (1 : Int32), iv ch, u_, iv (1 : Int32), rv r135, iv (4 : Int32), iv (116 : Int32), u_, u_]) rfl k) ?_
          exact j198 (1 : Int32) (Or.inr (Or.inl ⟨(by rw [← b208]; rfl), rfl⟩))
        · refine Gv T196 260 [] (fun t k => XS.icmpYes X196.here hx rfl (pc0 := 253) (pc' := 260) rfl (hb hby at_253) rfl (XT.ii_ne_t b208) (by decide) (by decide) k) ?_
          exact j198 (-1 : Int32) (Or.inr (Or.inr (Or.inr ⟨⟨(fun z => by simp [own_low, own_sub, own_hig] at z <;> exact absurd z.symm b208), (fun z => by simp [own_low, own_sub, own_hig] at z <;> exact absurd z.symm b208), (fun z => by simp [own_low, own_sub, own_hig] at z <;> exact absurd z.symm b208)⟩, rfl⟩)))
      · refine Gv T135 237 [(.ref r135)] (fun t k => XS.aload X135.here hx rfl (hb hby at_235) rfl rfl k) ?_
        refine Gv T135 239 [(.int (5 : Int32)), (.ref r135)] (fun t k => XS.iload X135.here hx rfl (hb hby at_237) rfl k) ?_
        obtain ⟨cl209, Ar209, q209, S209, N209, H209, G209⟩ := id f135_0
        have hin209 := inb_of (j := (5 : Int32)) S209 ⟨by decide, by decide⟩
        refine Goes.via (B := T135.setTop (mkF m 240 #[iv x1, iv x2, iv x3, lv_ x4, s_, iv (1 : Int32), iv (1 : Int32), iv ch, u_, iv (-1 : Int32), rv r135, iv (5 : Int32), u_, u_, u_] [(.int (97 : Int32))])) (fun t k => X135.caload hx (j := (5 : Int32)) (v := (.int (97 : Int32))) (Ar209.1) (State.isArrayOf_alike hZ.alike Ar209.2.1) Ar209.2.2 hin209 (H209.at hin209 rfl) (g := (mkF m 239 #[iv x1, iv x2, iv x3, lv_ x4, s_, iv (1 : Int32), iv (1 : Int32), iv ch, u_, iv (-1 : Int32), rv r135, iv (5 : Int32), u_, u_, u_] [(.int (5 : Int32)), (.ref r135)])) rfl rfl (hb hby at_239) t k) ?_
        refine Gv T135 242 [] (fun t k => XS.istore X135.here hx rfl (hb hby at_240) rfl (l' := #[iv x1, iv x2, iv x3, lv_ x4, s_, iv (1 : Int32), iv (1 : Int32), iv ch, u_, iv (-1 : Int32), rv r135, iv (5 : Int32), iv (97 : Int32), u_, u_]) rfl k) ?_
        refine Gv T135 244 [(.ref r135)] (fun t k => XS.aload X135.here hx rfl (hb hby at_242) rfl rfl k) ?_
        refine Gv T135 246 [(.int (5 : Int32)), (.ref r135)] (fun t k => XS.iload X135.here hx rfl (hb hby at_244) rfl k) ?_
        refine Gv T135 248 [(.int ch), (.int (5 : Int32)), (.ref r135)] (fun t k => XS.iload X135.here hx rfl (hb hby at_246) rfl k) ?_
        obtain ⟨cl210, Ar210, q210, S210, N210, H210, G210⟩ := id f135_0
        obtain ⟨T210, h210, X210, e210, W210, st210⟩ := stC X135 hx hZ rfl Ar210 (j := (5 : Int32)) (inb_of S210 ⟨by decide, by decide⟩) (g := (mkF m 248 #[iv x1, iv x2, iv x3, lv_ x4, s_, iv (1 : Int32), iv (1 : Int32), iv ch, u_, iv (-1 : Int32), rv r135, iv (5 : Int32), iv (97 : Int32), u_, u_] [(.int ch), (.int (5 : Int32)), (.ref r135)])) rfl rfl (hb hby at_248)
        have wn210 : nar .char ch = ch := own_i2c hch
        have fn210 : fits .char (.int ch) = true := by rw [← wn210]; exact fits_nar_char _
        rw [wn210] at W210
        have Nf210 := Fr.snoc X210 N135 gn135_0
        have hq211 := CHr.wr W210 (Safe.arv hZ.alike f135_0 (by decide)) hR136.1
        have hR211 := CHr.trans hR136 hq211
        have V210 : Arv Z h210 r135 kr135 .char (11 : Int32) [(.int (115 : Int32)), (.int (117 : Int32)), (.int (98 : Int32)), (.int (115 : Int32)), (.int (116 : Int32)), (.int ch), (.int (110 : Int32)), (.int (116 : Int32)), (.int (105 : Int32)), (.int (97 : Int32)), (.int (108 : Int32))] (.int (0 : Int32)) := Arv.set Ar210 q210 S210 N210 H210 G210 fn210 W210 5 rfl (Nat.le_of_ble_eq_true rfl)
        refine Goes.via (B := T210.setTop (mkF m 249 #[iv x1, iv x2, iv x3, lv_ x4, s_, iv (1 : Int32), iv (1 : Int32), iv ch, u_, iv (-1 : Int32), rv r135, iv (5 : Int32), iv (97 : Int32), u_, u_] [])) (fun t k => st210 _ k) ?_
        refine Gv T210 251 [(.int (97 : Int32))] (fun t k => XS.iload X210.here hx rfl (hb hby at_249) rfl k) ?_
        refine Gv T210 253 [(.int ch), (.int (97 : Int32))] (fun t k => XS.iload X210.here hx rfl (hb hby at_251) rfl k) ?_
        have j212 : ∀ (ew : Int32) (hew : (([(115 : Int32), (117 : Int32), (98 : Int32), (115 : Int32), (116 : Int32), ch, (110 : Int32), (116 : Int32), (105 : Int32), (97 : Int32), (108 : Int32)] : List Int32) = own_low ∧ ew = (0 : Int32)) ∨ (([(115 : Int32), (117 : Int32), (98 : Int32), (115 : Int32), (116 : Int32), ch, (110 : Int32), (116 : Int32), (105 : Int32), (97 : Int32), (108 : Int32)] : List Int32) = own_sub ∧ ew = (1 : Int32)) ∨ (([(115 : Int32), (117 : Int32), (98 : Int32), (115 : Int32), (116 : Int32), ch, (110 : Int32), (116 : Int32), (105 : Int32), (97 : Int32), (108 : Int32)] : List Int32) = own_hig ∧ ew = (2 : Int32)) ∨ ((¬ ([(115 : Int32), (117 : Int32), (98 : Int32), (115 : Int32), (116 : Int32), ch, (110 : Int32), (116 : Int32), (105 : Int32), (97 : Int32), (108 : Int32)] : List Int32) = own_low ∧ ¬ ([(115 : Int32), (117 : Int32), (98 : Int32), (115 : Int32), (116 : Int32), ch, (110 : Int32), (116 : Int32), (105 : Int32), (97 : Int32), (108 : Int32)] : List Int32) = own_sub ∧ ¬ ([(115 : Int32), (117 : Int32), (98 : Int32), (115 : Int32), (116 : Int32), ch, (110 : Int32), (116 : Int32), (105 : Int32), (97 : Int32), (108 : Int32)] : List Int32) = own_hig) ∧ ew = (-1 : Int32))) , Goes p.tables e below (fun t o => ∃ v L, o = .returned v ∧ (own_Q31 Z x1 x2 x3 x4 z0 oe va kv aL sL tL kL aS sS tS kS aH sH tH kH h0 n0) v t.heap L ∧ EndH Z consts_1 s o t L (room_1).cells (room_1).slots) (T210.setTop (mkF m 260 #[iv x1, iv x2, iv x3, lv_ x4, s_, iv (1 : Int32), iv (1 : Int32), iv ch, u_, iv ew, rv r135, iv (5 : Int32), iv (97 : Int32), u_, u_] [])) := by
          intro ew hew
          obtain ⟨T214, h214, X214, e214, E214, A214, D214, U214, st214⟩ := newO X210 hx hZ hown (W_ hw 5 rfl) (W_ hw 6 rfl) (W_ hw 7 rfl) e210 (g := (mkF m 260 #[iv x1, iv x2, iv x3, lv_ x4, s_, iv (1 : Int32), iv (1 : Int32), iv ch, u_, iv ew, rv r135, iv (5 : Int32), iv (97 : Int32), u_, u_] [])) rfl (hb hby at_260) (by decide) (by decide)
          obtain ⟨b214, g214⟩ : ∃ z, z = h210.size := ⟨_, rfl⟩
          rw [← g214] at A214 D214 U214 st214
          have gn214 : n0 ≤ b214 := Nat.le_trans (old_le ((O0.keep K135 all0).wr W210 gn135_0)) (Nat.le_of_eq g214.symm)
          have hq215 := CHr.ext E214 hR211.1
          have hR215 := CHr.trans hR211 hq215
          have sf216 := Safe.ext E214 hR211.1 (Safe.new (Nat.le_of_eq g214.symm))
          have F214_coder : Fld Z h214 b214 "java/lang/String" "coder" "B" (.int (0 : Int32)) := D214 (Or.inr (W_ hw 31 rfl)) (ty := .byte) (by decide)
          have F214_value : Fld Z h214 b214 "java/lang/String" "value" "[B" .null := D214 (Or.inr (W_ hw 33 rfl)) (ty := (.array .byte)) (by decide)
          refine Goes.via (B := T214.setTop (mkF m 263 #[iv x1, iv x2, iv x3, lv_ x4, s_, iv (1 : Int32), iv (1 : Int32), iv ch, u_, iv ew, rv r135, iv (5 : Int32), iv (97 : Int32), u_, u_] [(.ref b214)])) (fun t k => st214 _ k) ?_
          refine Gv T214 264 [(.ref b214), (.ref b214)] (fun t k => XS.dup X214.here hx rfl (hb hby at_263) rfl rfl k) ?_
          refine Gv T214 266 [(.ref r135), (.ref b214), (.ref b214)] (fun t k => XS.aload X214.here hx rfl (hb hby at_264) rfl rfl k) ?_
          have hp217 : ∀ c ∈ ([(115 : Int32), (117 : Int32), (98 : Int32), (115 : Int32), (116 : Int32), ch, (110 : Int32), (116 : Int32), (105 : Int32), (97 : Int32), (108 : Int32)] : List Int32), ¬ c < 0 ∧ ¬ (255 : Int32) < c := by
            intro c hc
            simp only [List.mem_cons, List.not_mem_nil, or_false] at hc
            rcases hc with rfl | rfl | rfl | rfl | rfl | rfl | rfl | rfl | rfl | rfl | rfl <;> first | exact ⟨by decide, by decide⟩ | exact hch
          obtain ⟨_, T218, L218, X218, ⟨rfl, M218, K218, E218, C218, t218, kb218, gn218, gs218, nx218, F218, V218⟩, st218⟩ := callInitB X214 hx hZ rfl hown (W_ hw 8 rfl) (W_ hw 9 rfl) (W_ hw 10 rfl) (by decide) (argsL := [(.ref r135)]) (rest := [(.ref b214)]) (W := 1) (StrChars.Road.backV (s := (s.setVm s.vm)) (W := 1) hZ (own_hw_words hw) (kI := 4) (W_ hw 6 rfl) (x := b214) (b := r135) (cs := ([(115 : Int32), (117 : Int32), (98 : Int32), (115 : Int32), (116 : Int32), ch, (110 : Int32), (116 : Int32), (105 : Int32), (97 : Int32), (108 : Int32)] : List Int32)) (bs := ([(115 : Int32), (117 : Int32), (98 : Int32), (115 : Int32), (116 : Int32), ch, (110 : Int32), (116 : Int32), (105 : Int32), (97 : Int32), (108 : Int32)] : List Int32).map (fun c => c.toInt8.toInt32)) (n := 11) gn214 (old_le (((O0.keep K135 all0).wr W210 gn135_0).ext E214)) A214 F214_value F214_coder (V210.ext E214) (Sta.ext (((O0.keep K135 all0).wr W210 gn135_0).ext E214).2 O_1) hz0 rfl rfl (by decide) (by decide) hp217 rfl (by decide) (by decide)) e214 (lenOf own_pd11 rfl) (pc := 266) (Ls := #[iv x1, iv x2, iv x3, lv_ x4, s_, iv (1 : Int32), iv (1 : Int32), iv ch, u_, iv ew, rv r135, iv (5 : Int32), iv (97 : Int32), u_, u_]) (st := [(.ref r135), (.ref b214), (.ref b214)]) rfl (by rw [hml]; rfl) (hb hby at_266) (Nat.le_of_eq rfl) (by decide) (by decide)
          have hq219 := CHr.keep K218 (sfS sf216 sf0) hR215.1
          have hR219 := CHr.trans hR215 hq219
          have N218 := Fr.app Nf210 M218
          refine Goes.via (B := T218.setTop (mkF m 269 #[iv x1, iv x2, iv x3, lv_ x4, s_, iv (1 : Int32), iv (1 : Int32), iv ch, u_, iv ew, rv r135, iv (5 : Int32), iv (97 : Int32), u_, u_] [(.ref b214)])) (fun t k => st218 _ k) ?_
          have w220 : Arv Z T218.heap t218 kb218 .byte (Int32.ofNat ([(115 : Int32), (117 : Int32), (98 : Int32), (115 : Int32), (116 : Int32), ch, (110 : Int32), (116 : Int32), (105 : Int32), (97 : Int32), (108 : Int32)] : List Int32).length) ((([(115 : Int32), (117 : Int32), (98 : Int32), (115 : Int32), (116 : Int32), ch, (110 : Int32), (116 : Int32), (105 : Int32), (97 : Int32), (108 : Int32)] : List Int32).map StrChars.lo8).map Value.int) (.int 0) := V218
          refine Gv T218 271 [] (fun t k => XS.astore X218.here hx rfl (hb hby at_269) rfl rfl (l' := #[iv x1, iv x2, iv x3, lv_ x4, s_, iv (1 : Int32), iv (1 : Int32), iv ch, rv b214, iv ew, rv r135, iv (5 : Int32), iv (97 : Int32), u_, u_]) rfl k) ?_
          obtain ⟨Xr221, hSr221, hZr221, hor221⟩ := rebase (cells := 8) (slots := 96) (X218.more (by decide) (by decide)) hS0 rfl (Nat.le_trans (Nat.le_trans (Nat.le_trans (Nat.le_trans hk0 K135.1) (Nat.le_of_eq (Wr.size W210).symm)) E214.1) K218.1) hZ hown
          exact j26 T218 _ T218.heap Xr221 rfl N218 hSr221 hZr221 hor221 (CHr.trans hR219 (CHv.at X218 hZ hEL hR219.1)) b214 t218 kb218 ([(115 : Int32), (117 : Int32), (98 : Int32), (115 : Int32), (116 : Int32), ch, (110 : Int32), (116 : Int32), (105 : Int32), (97 : Int32), (108 : Int32)] : List Int32) ew r135 (5 : Int32) (97 : Int32) ((((O0.keep K135 all0).wr W210 gn135_0).ext E214).keep K218 (allS gn214 all0)) E218 F218 C218 w220 hp217 (by simp) hew
        by_cases b222 : (97 : Int32) = ch
        · refine Gv T210 256 [] (fun t k => XS.icmpNo X210.here hx rfl (hb hby at_253) rfl (XT.ii_ne_f b222) k) ?_
          refine Gv T210 258 [(.int (1 : Int32))] (fun t k => XS.iload X210.here hx rfl (hb hby at_256) rfl k) ?_
          refine Gv T210 260 [] (fun t k => XS.istore X210.here hx rfl (hb hby at_258) rfl (l' := #[iv x1, iv x2, iv x3, lv_ x4, s_, iv (1 : Int32), iv (1 : Int32), iv ch, u_, iv (1 : Int32), rv r135, iv (5 : Int32), iv (97 : Int32), u_, u_]) rfl k) ?_
          exact j212 (1 : Int32) (Or.inr (Or.inl ⟨(by rw [← b222]; rfl), rfl⟩))
        · refine Gv T210 260 [] (fun t k => XS.icmpYes X210.here hx rfl (pc0 := 253) (pc' := 260) rfl (hb hby at_253) rfl (XT.ii_ne_t b222) (by decide) (by decide) k) ?_
          exact j212 (-1 : Int32) (Or.inr (Or.inr (Or.inr ⟨⟨(fun z => by simp [own_low, own_sub, own_hig] at z <;> exact absurd z.symm b222), (fun z => by simp [own_low, own_sub, own_hig] at z <;> exact absurd z.symm b222), (fun z => by simp [own_low, own_sub, own_hig] at z <;> exact absurd z.symm b222)⟩, rfl⟩)))
      · refine Gv T135 237 [(.ref r135)] (fun t k => XS.aload X135.here hx rfl (hb hby at_235) rfl rfl k) ?_
        refine Gv T135 239 [(.int (6 : Int32)), (.ref r135)] (fun t k => XS.iload X135.here hx rfl (hb hby at_237) rfl k) ?_
        obtain ⟨cl223, Ar223, q223, S223, N223, H223, G223⟩ := id f135_0
        have hin223 := inb_of (j := (6 : Int32)) S223 ⟨by decide, by decide⟩
        refine Goes.via (B := T135.setTop (mkF m 240 #[iv x1, iv x2, iv x3, lv_ x4, s_, iv (1 : Int32), iv (1 : Int32), iv ch, u_, iv (-1 : Int32), rv r135, iv (6 : Int32), u_, u_, u_] [(.int (110 : Int32))])) (fun t k => X135.caload hx (j := (6 : Int32)) (v := (.int (110 : Int32))) (Ar223.1) (State.isArrayOf_alike hZ.alike Ar223.2.1) Ar223.2.2 hin223 (H223.at hin223 rfl) (g := (mkF m 239 #[iv x1, iv x2, iv x3, lv_ x4, s_, iv (1 : Int32), iv (1 : Int32), iv ch, u_, iv (-1 : Int32), rv r135, iv (6 : Int32), u_, u_, u_] [(.int (6 : Int32)), (.ref r135)])) rfl rfl (hb hby at_239) t k) ?_
        refine Gv T135 242 [] (fun t k => XS.istore X135.here hx rfl (hb hby at_240) rfl (l' := #[iv x1, iv x2, iv x3, lv_ x4, s_, iv (1 : Int32), iv (1 : Int32), iv ch, u_, iv (-1 : Int32), rv r135, iv (6 : Int32), iv (110 : Int32), u_, u_]) rfl k) ?_
        refine Gv T135 244 [(.ref r135)] (fun t k => XS.aload X135.here hx rfl (hb hby at_242) rfl rfl k) ?_
        refine Gv T135 246 [(.int (6 : Int32)), (.ref r135)] (fun t k => XS.iload X135.here hx rfl (hb hby at_244) rfl k) ?_
        refine Gv T135 248 [(.int ch), (.int (6 : Int32)), (.ref r135)] (fun t k => XS.iload X135.here hx rfl (hb hby at_246) rfl k) ?_
        obtain ⟨cl224, Ar224, q224, S224, N224, H224, G224⟩ := id f135_0
        obtain ⟨T224, h224, X224, e224, W224, st224⟩ := stC X135 hx hZ rfl Ar224 (j := (6 : Int32)) (inb_of S224 ⟨by decide, by decide⟩) (g := (mkF m 248 #[iv x1, iv x2, iv x3, lv_ x4, s_, iv (1 : Int32), iv (1 : Int32), iv ch, u_, iv (-1 : Int32), rv r135, iv (6 : Int32), iv (110 : Int32), u_, u_] [(.int ch), (.int (6 : Int32)), (.ref r135)])) rfl rfl (hb hby at_248)
        have wn224 : nar .char ch = ch := own_i2c hch
        have fn224 : fits .char (.int ch) = true := by rw [← wn224]; exact fits_nar_char _
        rw [wn224] at W224
        have Nf224 := Fr.snoc X224 N135 gn135_0
        have hq225 := CHr.wr W224 (Safe.arv hZ.alike f135_0 (by decide)) hR136.1
        have hR225 := CHr.trans hR136 hq225
        have V224 : Arv Z h224 r135 kr135 .char (11 : Int32) [(.int (115 : Int32)), (.int (117 : Int32)), (.int (98 : Int32)), (.int (115 : Int32)), (.int (116 : Int32)), (.int (97 : Int32)), (.int ch), (.int (116 : Int32)), (.int (105 : Int32)), (.int (97 : Int32)), (.int (108 : Int32))] (.int (0 : Int32)) := Arv.set Ar224 q224 S224 N224 H224 G224 fn224 W224 6 rfl (Nat.le_of_ble_eq_true rfl)
        refine Goes.via (B := T224.setTop (mkF m 249 #[iv x1, iv x2, iv x3, lv_ x4, s_, iv (1 : Int32), iv (1 : Int32), iv ch, u_, iv (-1 : Int32), rv r135, iv (6 : Int32), iv (110 : Int32), u_, u_] [])) (fun t k => st224 _ k) ?_
        refine Gv T224 251 [(.int (110 : Int32))] (fun t k => XS.iload X224.here hx rfl (hb hby at_249) rfl k) ?_
        refine Gv T224 253 [(.int ch), (.int (110 : Int32))] (fun t k => XS.iload X224.here hx rfl (hb hby at_251) rfl k) ?_
        have j226 : ∀ (ew : Int32) (hew : (([(115 : Int32), (117 : Int32), (98 : Int32), (115 : Int32), (116 : Int32), (97 : Int32), ch, (116 : Int32), (105 : Int32), (97 : Int32), (108 : Int32)] : List Int32) = own_low ∧ ew = (0 : Int32)) ∨ (([(115 : Int32), (117 : Int32), (98 : Int32), (115 : Int32), (116 : Int32), (97 : Int32), ch, (116 : Int32), (105 : Int32), (97 : Int32), (108 : Int32)] : List Int32) = own_sub ∧ ew = (1 : Int32)) ∨ (([(115 : Int32), (117 : Int32), (98 : Int32), (115 : Int32), (116 : Int32), (97 : Int32), ch, (116 : Int32), (105 : Int32), (97 : Int32), (108 : Int32)] : List Int32) = own_hig ∧ ew = (2 : Int32)) ∨ ((¬ ([(115 : Int32), (117 : Int32), (98 : Int32), (115 : Int32), (116 : Int32), (97 : Int32), ch, (116 : Int32), (105 : Int32), (97 : Int32), (108 : Int32)] : List Int32) = own_low ∧ ¬ ([(115 : Int32), (117 : Int32), (98 : Int32), (115 : Int32), (116 : Int32), (97 : Int32), ch, (116 : Int32), (105 : Int32), (97 : Int32), (108 : Int32)] : List Int32) = own_sub ∧ ¬ ([(115 : Int32), (117 : Int32), (98 : Int32), (115 : Int32), (116 : Int32), (97 : Int32), ch, (116 : Int32), (105 : Int32), (97 : Int32), (108 : Int32)] : List Int32) = own_hig) ∧ ew = (-1 : Int32))) , Goes p.tables e below (fun t o => ∃ v L, o = .returned v ∧ (own_Q31 Z x1 x2 x3 x4 z0 oe va kv aL sL tL kL aS sS tS kS aH sH tH kH h0 n0) v t.heap L ∧ EndH Z consts_1 s o t L (room_1).cells (room_1).slots) (T224.setTop (mkF m 260 #[iv x1, iv x2, iv x3, lv_ x4, s_, iv (1 : Int32), iv (1 : Int32), iv ch, u_, iv ew, rv r135, iv (6 : Int32), iv (110 : Int32), u_, u_] [])) := by
          intro ew hew
          obtain ⟨T228, h228, X228, e228, E228, A228, D228, U228, st228⟩ := newO X224 hx hZ hown (W_ hw 5 rfl) (W_ hw 6 rfl) (W_ hw 7 rfl) e224 (g := (mkF m 260 #[iv x1, iv x2, iv x3, lv_ x4, s_, iv (1 : Int32), iv (1 : Int32), iv ch, u_, iv ew, rv r135, iv (6 : Int32), iv (110 : Int32), u_, u_] [])) rfl (hb hby at_260) (by decide) (by decide)
          obtain ⟨b228, g228⟩ : ∃ z, z = h224.size := ⟨_, rfl⟩
          rw [← g228] at A228 D228 U228 st228
          have gn228 : n0 ≤ b228 := Nat.le_trans (old_le ((O0.keep K135 all0).wr W224 gn135_0)) (Nat.le_of_eq g228.symm)
          have hq229 := CHr.ext E228 hR225.1
          have hR229 := CHr.trans hR225 hq229
          have sf230 := Safe.ext E228 hR225.1 (Safe.new (Nat.le_of_eq g228.symm))
          have F228_coder : Fld Z h228 b228 "java/lang/String" "coder" "B" (.int (0 : Int32)) := D228 (Or.inr (W_ hw 31 rfl)) (ty := .byte) (by decide)
          have F228_value : Fld Z h228 b228 "java/lang/String" "value" "[B" .null := D228 (Or.inr (W_ hw 33 rfl)) (ty := (.array .byte)) (by decide)
          refine Goes.via (B := T228.setTop (mkF m 263 #[iv x1, iv x2, iv x3, lv_ x4, s_, iv (1 : Int32), iv (1 : Int32), iv ch, u_, iv ew, rv r135, iv (6 : Int32), iv (110 : Int32), u_, u_] [(.ref b228)])) (fun t k => st228 _ k) ?_
          refine Gv T228 264 [(.ref b228), (.ref b228)] (fun t k => XS.dup X228.here hx rfl (hb hby at_263) rfl rfl k) ?_
          refine Gv T228 266 [(.ref r135), (.ref b228), (.ref b228)] (fun t k => XS.aload X228.here hx rfl (hb hby at_264) rfl rfl k) ?_
          have hp231 : ∀ c ∈ ([(115 : Int32), (117 : Int32), (98 : Int32), (115 : Int32), (116 : Int32), (97 : Int32), ch, (116 : Int32), (105 : Int32), (97 : Int32), (108 : Int32)] : List Int32), ¬ c < 0 ∧ ¬ (255 : Int32) < c := by
            intro c hc
            simp only [List.mem_cons, List.not_mem_nil, or_false] at hc
            rcases hc with rfl | rfl | rfl | rfl | rfl | rfl | rfl | rfl | rfl | rfl | rfl <;> first | exact ⟨by decide, by decide⟩ | exact hch
          obtain ⟨_, T232, L232, X232, ⟨rfl, M232, K232, E232, C232, t232, kb232, gn232, gs232, nx232, F232, V232⟩, st232⟩ := callInitB X228 hx hZ rfl hown (W_ hw 8 rfl) (W_ hw 9 rfl) (W_ hw 10 rfl) (by decide) (argsL := [(.ref r135)]) (rest := [(.ref b228)]) (W := 1) (StrChars.Road.backV (s := (s.setVm s.vm)) (W := 1) hZ (own_hw_words hw) (kI := 4) (W_ hw 6 rfl) (x := b228) (b := r135) (cs := ([(115 : Int32), (117 : Int32), (98 : Int32), (115 : Int32), (116 : Int32), (97 : Int32), ch, (116 : Int32), (105 : Int32), (97 : Int32), (108 : Int32)] : List Int32)) (bs := ([(115 : Int32), (117 : Int32), (98 : Int32), (115 : Int32), (116 : Int32), (97 : Int32), ch, (116 : Int32), (105 : Int32), (97 : Int32), (108 : Int32)] : List Int32).map (fun c => c.toInt8.toInt32)) (n := 11) gn228 (old_le (((O0.keep K135 all0).wr W224 gn135_0).ext E228)) A228 F228_value F228_coder (V224.ext E228) (Sta.ext (((O0.keep K135 all0).wr W224 gn135_0).ext E228).2 O_1) hz0 rfl rfl (by decide) (by decide) hp231 rfl (by decide) (by decide)) e228 (lenOf own_pd11 rfl) (pc := 266) (Ls := #[iv x1, iv x2, iv x3, lv_ x4, s_, iv (1 : Int32), iv (1 : Int32), iv ch, u_, iv ew, rv r135, iv (6 : Int32), iv (110 : Int32), u_, u_]) (st := [(.ref r135), (.ref b228), (.ref b228)]) rfl (by rw [hml]; rfl) (hb hby at_266) (Nat.le_of_eq rfl) (by decide) (by decide)
          have hq233 := CHr.keep K232 (sfS sf230 sf0) hR229.1
          have hR233 := CHr.trans hR229 hq233
          have N232 := Fr.app Nf224 M232
          refine Goes.via (B := T232.setTop (mkF m 269 #[iv x1, iv x2, iv x3, lv_ x4, s_, iv (1 : Int32), iv (1 : Int32), iv ch, u_, iv ew, rv r135, iv (6 : Int32), iv (110 : Int32), u_, u_] [(.ref b228)])) (fun t k => st232 _ k) ?_
          have w234 : Arv Z T232.heap t232 kb232 .byte (Int32.ofNat ([(115 : Int32), (117 : Int32), (98 : Int32), (115 : Int32), (116 : Int32), (97 : Int32), ch, (116 : Int32), (105 : Int32), (97 : Int32), (108 : Int32)] : List Int32).length) ((([(115 : Int32), (117 : Int32), (98 : Int32), (115 : Int32), (116 : Int32), (97 : Int32), ch, (116 : Int32), (105 : Int32), (97 : Int32), (108 : Int32)] : List Int32).map StrChars.lo8).map Value.int) (.int 0) := V232
          refine Gv T232 271 [] (fun t k => XS.astore X232.here hx rfl (hb hby at_269) rfl rfl (l' := #[iv x1, iv x2, iv x3, lv_ x4, s_, iv (1 : Int32), iv (1 : Int32), iv ch, rv b228, iv ew, rv r135, iv (6 : Int32), iv (110 : Int32), u_, u_]) rfl k) ?_
          obtain ⟨Xr235, hSr235, hZr235, hor235⟩ := rebase (cells := 8) (slots := 96) (X232.more (by decide) (by decide)) hS0 rfl (Nat.le_trans (Nat.le_trans (Nat.le_trans (Nat.le_trans hk0 K135.1) (Nat.le_of_eq (Wr.size W224).symm)) E228.1) K232.1) hZ hown
          exact j26 T232 _ T232.heap Xr235 rfl N232 hSr235 hZr235 hor235 (CHr.trans hR233 (CHv.at X232 hZ hEL hR233.1)) b228 t232 kb232 ([(115 : Int32), (117 : Int32), (98 : Int32), (115 : Int32), (116 : Int32), (97 : Int32), ch, (116 : Int32), (105 : Int32), (97 : Int32), (108 : Int32)] : List Int32) ew r135 (6 : Int32) (110 : Int32) ((((O0.keep K135 all0).wr W224 gn135_0).ext E228).keep K232 (allS gn228 all0)) E232 F232 C232 w234 hp231 (by simp) hew
        by_cases b236 : (110 : Int32) = ch
        · refine Gv T224 256 [] (fun t k => XS.icmpNo X224.here hx rfl (hb hby at_253) rfl (XT.ii_ne_f b236) k) ?_
          refine Gv T224 258 [(.int (1 : Int32))] (fun t k => XS.iload X224.here hx rfl (hb hby at_256) rfl k) ?_
          refine Gv T224 260 [] (fun t k => XS.istore X224.here hx rfl (hb hby at_258) rfl (l' := #[iv x1, iv x2, iv x3, lv_ x4, s_, iv (1 : Int32), iv (1 : Int32), iv ch, u_, iv (1 : Int32), rv r135, iv (6 : Int32), iv (110 : Int32), u_, u_]) rfl k) ?_
          exact j226 (1 : Int32) (Or.inr (Or.inl ⟨(by rw [← b236]; rfl), rfl⟩))
        · refine Gv T224 260 [] (fun t k => XS.icmpYes X224.here hx rfl (pc0 := 253) (pc' := 260) rfl (hb hby at_253) rfl (XT.ii_ne_t b236) (by decide) (by decide) k) ?_
          exact j226 (-1 : Int32) (Or.inr (Or.inr (Or.inr ⟨⟨(fun z => by simp [own_low, own_sub, own_hig] at z <;> exact absurd z.symm b236), (fun z => by simp [own_low, own_sub, own_hig] at z <;> exact absurd z.symm b236), (fun z => by simp [own_low, own_sub, own_hig] at z <;> exact absurd z.symm b236)⟩, rfl⟩)))
      · refine Gv T135 237 [(.ref r135)] (fun t k => XS.aload X135.here hx rfl (hb hby at_235) rfl rfl k) ?_
        refine Gv T135 239 [(.int (7 : Int32)), (.ref r135)] (fun t k => XS.iload X135.here hx rfl (hb hby at_237) rfl k) ?_
        obtain ⟨cl237, Ar237, q237, S237, N237, H237, G237⟩ := id f135_0
        have hin237 := inb_of (j := (7 : Int32)) S237 ⟨by decide, by decide⟩
        refine Goes.via (B := T135.setTop (mkF m 240 #[iv x1, iv x2, iv x3, lv_ x4, s_, iv (1 : Int32), iv (1 : Int32), iv ch, u_, iv (-1 : Int32), rv r135, iv (7 : Int32), u_, u_, u_] [(.int (116 : Int32))])) (fun t k => X135.caload hx (j := (7 : Int32)) (v := (.int (116 : Int32))) (Ar237.1) (State.isArrayOf_alike hZ.alike Ar237.2.1) Ar237.2.2 hin237 (H237.at hin237 rfl) (g := (mkF m 239 #[iv x1, iv x2, iv x3, lv_ x4, s_, iv (1 : Int32), iv (1 : Int32), iv ch, u_, iv (-1 : Int32), rv r135, iv (7 : Int32), u_, u_, u_] [(.int (7 : Int32)), (.ref r135)])) rfl rfl (hb hby at_239) t k) ?_
        refine Gv T135 242 [] (fun t k => XS.istore X135.here hx rfl (hb hby at_240) rfl (l' := #[iv x1, iv x2, iv x3, lv_ x4, s_, iv (1 : Int32), iv (1 : Int32), iv ch, u_, iv (-1 : Int32), rv r135, iv (7 : Int32), iv (116 : Int32), u_, u_]) rfl k) ?_
        refine Gv T135 244 [(.ref r135)] (fun t k => XS.aload X135.here hx rfl (hb hby at_242) rfl rfl k) ?_
        refine Gv T135 246 [(.int (7 : Int32)), (.ref r135)] (fun t k => XS.iload X135.here hx rfl (hb hby at_244) rfl k) ?_
        refine Gv T135 248 [(.int ch), (.int (7 : Int32)), (.ref r135)] (fun t k => XS.iload X135.here hx rfl (hb hby at_246) rfl k) ?_
        obtain ⟨cl238, Ar238, q238, S238, N238, H238, G238⟩ := id f135_0
        obtain ⟨T238, h238, X238, e238, W238, st238⟩ := stC X135 hx hZ rfl Ar238 (j := (7 : Int32)) (inb_of S238 ⟨by decide, by decide⟩) (g := (mkF m 248 #[iv x1, iv x2, iv x3, lv_ x4, s_, iv (1 : Int32), iv (1 : Int32), iv ch, u_, iv (-1 : Int32), rv r135, iv (7 : Int32), iv (116 : Int32), u_, u_] [(.int ch), (.int (7 : Int32)), (.ref r135)])) rfl rfl (hb hby at_248)
        have wn238 : nar .char ch = ch := own_i2c hch
        have fn238 : fits .char (.int ch) = true := by rw [← wn238]; exact fits_nar_char _
        rw [wn238] at W238
        have Nf238 := Fr.snoc X238 N135 gn135_0
        have hq239 := CHr.wr W238 (Safe.arv hZ.alike f135_0 (by decide)) hR136.1
        have hR239 := CHr.trans hR136 hq239
        have V238 : Arv Z h238 r135 kr135 .char (11 : Int32) [(.int (115 : Int32)), (.int (117 : Int32)), (.int (98 : Int32)), (.int (115 : Int32)), (.int (116 : Int32)), (.int (97 : Int32)), (.int (110 : Int32)), (.int ch), (.int (105 : Int32)), (.int (97 : Int32)), (.int (108 : Int32))] (.int (0 : Int32)) := Arv.set Ar238 q238 S238 N238 H238 G238 fn238 W238 7 rfl (Nat.le_of_ble_eq_true rfl)
        refine Goes.via (B := T238.setTop (mkF m 249 #[iv x1, iv x2, iv x3, lv_ x4, s_, iv (1 : Int32), iv (1 : Int32), iv ch, u_, iv (-1 : Int32), rv r135, iv (7 : Int32), iv (116 : Int32), u_, u_] [])) (fun t k => st238 _ k) ?_
        refine Gv T238 251 [(.int (116 : Int32))] (fun t k => XS.iload X238.here hx rfl (hb hby at_249) rfl k) ?_
        refine Gv T238 253 [(.int ch), (.int (116 : Int32))] (fun t k => XS.iload X238.here hx rfl (hb hby at_251) rfl k) ?_
        have j240 : ∀ (ew : Int32) (hew : (([(115 : Int32), (117 : Int32), (98 : Int32), (115 : Int32), (116 : Int32), (97 : Int32), (110 : Int32), ch, (105 : Int32), (97 : Int32), (108 : Int32)] : List Int32) = own_low ∧ ew = (0 : Int32)) ∨ (([(115 : Int32), (117 : Int32), (98 : Int32), (115 : Int32), (116 : Int32), (97 : Int32), (110 : Int32), ch, (105 : Int32), (97 : Int32), (108 : Int32)] : List Int32) = own_sub ∧ ew = (1 : Int32)) ∨ (([(115 : Int32), (117 : Int32), (98 : Int32), (115 : Int32), (116 : Int32), (97 : Int32), (110 : Int32), ch, (105 : Int32), (97 : Int32), (108 : Int32)] : List Int32) = own_hig ∧ ew = (2 : Int32)) ∨ ((¬ ([(115 : Int32), (117 : Int32), (98 : Int32), (115 : Int32), (116 : Int32), (97 : Int32), (110 : Int32), ch, (105 : Int32), (97 : Int32), (108 : Int32)] : List Int32) = own_low ∧ ¬ ([(115 : Int32), (117 : Int32), (98 : Int32), (115 : Int32), (116 : Int32), (97 : Int32), (110 : Int32), ch, (105 : Int32), (97 : Int32), (108 : Int32)] : List Int32) = own_sub ∧ ¬ ([(115 : Int32), (117 : Int32), (98 : Int32), (115 : Int32), (116 : Int32), (97 : Int32), (110 : Int32), ch, (105 : Int32), (97 : Int32), (108 : Int32)] : List Int32) = own_hig) ∧ ew = (-1 : Int32))) , Goes p.tables e below (fun t o => ∃ v L, o = .returned v ∧ (own_Q31 Z x1 x2 x3 x4 z0 oe va kv aL sL tL kL aS sS tS kS aH sH tH kH h0 n0) v t.heap L ∧ EndH Z consts_1 s o t L (room_1).cells (room_1).slots) (T238.setTop (mkF m 260 #[iv x1, iv x2, iv x3, lv_ x4, s_, iv (1 : Int32), iv (1 : Int32), iv ch, u_, iv ew, rv r135, iv (7 : Int32), iv (116 : Int32), u_, u_] [])) := by
          intro ew hew
          obtain ⟨T242, h242, X242, e242, E242, A242, D242, U242, st242⟩ := newO X238 hx hZ hown (W_ hw 5 rfl) (W_ hw 6 rfl) (W_ hw 7 rfl) e238 (g := (mkF m 260 #[iv x1, iv x2, iv x3, lv_ x4, s_, iv (1 : Int32), iv (1 : Int32), iv ch, u_, iv ew, rv r135, iv (7 : Int32), iv (116 : Int32), u_, u_] [])) rfl (hb hby at_260) (by decide) (by decide)
          obtain ⟨b242, g242⟩ : ∃ z, z = h238.size := ⟨_, rfl⟩
          rw [← g242] at A242 D242 U242 st242
          have gn242 : n0 ≤ b242 := Nat.le_trans (old_le ((O0.keep K135 all0).wr W238 gn135_0)) (Nat.le_of_eq g242.symm)
          have hq243 := CHr.ext E242 hR239.1
          have hR243 := CHr.trans hR239 hq243
          have sf244 := Safe.ext E242 hR239.1 (Safe.new (Nat.le_of_eq g242.symm))
          have F242_coder : Fld Z h242 b242 "java/lang/String" "coder" "B" (.int (0 : Int32)) := D242 (Or.inr (W_ hw 31 rfl)) (ty := .byte) (by decide)
          have F242_value : Fld Z h242 b242 "java/lang/String" "value" "[B" .null := D242 (Or.inr (W_ hw 33 rfl)) (ty := (.array .byte)) (by decide)
          refine Goes.via (B := T242.setTop (mkF m 263 #[iv x1, iv x2, iv x3, lv_ x4, s_, iv (1 : Int32), iv (1 : Int32), iv ch, u_, iv ew, rv r135, iv (7 : Int32), iv (116 : Int32), u_, u_] [(.ref b242)])) (fun t k => st242 _ k) ?_
          refine Gv T242 264 [(.ref b242), (.ref b242)] (fun t k => XS.dup X242.here hx rfl (hb hby at_263) rfl rfl k) ?_
          refine Gv T242 266 [(.ref r135), (.ref b242), (.ref b242)] (fun t k => XS.aload X242.here hx rfl (hb hby at_264) rfl rfl k) ?_
          have hp245 : ∀ c ∈ ([(115 : Int32), (117 : Int32), (98 : Int32), (115 : Int32), (116 : Int32), (97 : Int32), (110 : Int32), ch, (105 : Int32), (97 : Int32), (108 : Int32)] : List Int32), ¬ c < 0 ∧ ¬ (255 : Int32) < c := by
            intro c hc
            simp only [List.mem_cons, List.not_mem_nil, or_false] at hc
            rcases hc with rfl | rfl | rfl | rfl | rfl | rfl | rfl | rfl | rfl | rfl | rfl <;> first | exact ⟨by decide, by decide⟩ | exact hch
          obtain ⟨_, T246, L246, X246, ⟨rfl, M246, K246, E246, C246, t246, kb246, gn246, gs246, nx246, F246, V246⟩, st246⟩ := callInitB X242 hx hZ rfl hown (W_ hw 8 rfl) (W_ hw 9 rfl) (W_ hw 10 rfl) (by decide) (argsL := [(.ref r135)]) (rest := [(.ref b242)]) (W := 1) (StrChars.Road.backV (s := (s.setVm s.vm)) (W := 1) hZ (own_hw_words hw) (kI := 4) (W_ hw 6 rfl) (x := b242) (b := r135) (cs := ([(115 : Int32), (117 : Int32), (98 : Int32), (115 : Int32), (116 : Int32), (97 : Int32), (110 : Int32), ch, (105 : Int32), (97 : Int32), (108 : Int32)] : List Int32)) (bs := ([(115 : Int32), (117 : Int32), (98 : Int32), (115 : Int32), (116 : Int32), (97 : Int32), (110 : Int32), ch, (105 : Int32), (97 : Int32), (108 : Int32)] : List Int32).map (fun c => c.toInt8.toInt32)) (n := 11) gn242 (old_le (((O0.keep K135 all0).wr W238 gn135_0).ext E242)) A242 F242_value F242_coder (V238.ext E242) (Sta.ext (((O0.keep K135 all0).wr W238 gn135_0).ext E242).2 O_1) hz0 rfl rfl (by decide) (by decide) hp245 rfl (by decide) (by decide)) e242 (lenOf own_pd11 rfl) (pc := 266) (Ls := #[iv x1, iv x2, iv x3, lv_ x4, s_, iv (1 : Int32), iv (1 : Int32), iv ch, u_, iv ew, rv r135, iv (7 : Int32), iv (116 : Int32), u_, u_]) (st := [(.ref r135), (.ref b242), (.ref b242)]) rfl (by rw [hml]; rfl) (hb hby at_266) (Nat.le_of_eq rfl) (by decide) (by decide)
          have hq247 := CHr.keep K246 (sfS sf244 sf0) hR243.1
          have hR247 := CHr.trans hR243 hq247
          have N246 := Fr.app Nf238 M246
          refine Goes.via (B := T246.setTop (mkF m 269 #[iv x1, iv x2, iv x3, lv_ x4, s_, iv (1 : Int32), iv (1 : Int32), iv ch, u_, iv ew, rv r135, iv (7 : Int32), iv (116 : Int32), u_, u_] [(.ref b242)])) (fun t k => st246 _ k) ?_
          have w248 : Arv Z T246.heap t246 kb246 .byte (Int32.ofNat ([(115 : Int32), (117 : Int32), (98 : Int32), (115 : Int32), (116 : Int32), (97 : Int32), (110 : Int32), ch, (105 : Int32), (97 : Int32), (108 : Int32)] : List Int32).length) ((([(115 : Int32), (117 : Int32), (98 : Int32), (115 : Int32), (116 : Int32), (97 : Int32), (110 : Int32), ch, (105 : Int32), (97 : Int32), (108 : Int32)] : List Int32).map StrChars.lo8).map Value.int) (.int 0) := V246
          refine Gv T246 271 [] (fun t k => XS.astore X246.here hx rfl (hb hby at_269) rfl rfl (l' := #[iv x1, iv x2, iv x3, lv_ x4, s_, iv (1 : Int32), iv (1 : Int32), iv ch, rv b242, iv ew, rv r135, iv (7 : Int32), iv (116 : Int32), u_, u_]) rfl k) ?_
          obtain ⟨Xr249, hSr249, hZr249, hor249⟩ := rebase (cells := 8) (slots := 96) (X246.more (by decide) (by decide)) hS0 rfl (Nat.le_trans (Nat.le_trans (Nat.le_trans (Nat.le_trans hk0 K135.1) (Nat.le_of_eq (Wr.size W238).symm)) E242.1) K246.1) hZ hown
          exact j26 T246 _ T246.heap Xr249 rfl N246 hSr249 hZr249 hor249 (CHr.trans hR247 (CHv.at X246 hZ hEL hR247.1)) b242 t246 kb246 ([(115 : Int32), (117 : Int32), (98 : Int32), (115 : Int32), (116 : Int32), (97 : Int32), (110 : Int32), ch, (105 : Int32), (97 : Int32), (108 : Int32)] : List Int32) ew r135 (7 : Int32) (116 : Int32) ((((O0.keep K135 all0).wr W238 gn135_0).ext E242).keep K246 (allS gn242 all0)) E246 F246 C246 w248 hp245 (by simp) hew
        by_cases b250 : (116 : Int32) = ch
        · refine Gv T238 256 [] (fun t k => XS.icmpNo X238.here hx rfl (hb hby at_253) rfl (XT.ii_ne_f b250) k) ?_
          refine Gv T238 258 [(.int (1 : Int32))] (fun t k => XS.iload X238.here hx rfl (hb hby at_256) rfl k) ?_
          refine Gv T238 260 [] (fun t k => XS.istore X238.here hx rfl (hb hby at_258) rfl (l' := #[iv x1, iv x2, iv x3, lv_ x4, s_, iv (1 : Int32), iv (1 : Int32), iv ch, u_, iv (1 : Int32), rv r135, iv (7 : Int32), iv (116 : Int32), u_, u_]) rfl k) ?_
          exact j240 (1 : Int32) (Or.inr (Or.inl ⟨(by rw [← b250]; rfl), rfl⟩))
        · refine Gv T238 260 [] (fun t k => XS.icmpYes X238.here hx rfl (pc0 := 253) (pc' := 260) rfl (hb hby at_253) rfl (XT.ii_ne_t b250) (by decide) (by decide) k) ?_
          exact j240 (-1 : Int32) (Or.inr (Or.inr (Or.inr ⟨⟨(fun z => by simp [own_low, own_sub, own_hig] at z <;> exact absurd z.symm b250), (fun z => by simp [own_low, own_sub, own_hig] at z <;> exact absurd z.symm b250), (fun z => by simp [own_low, own_sub, own_hig] at z <;> exact absurd z.symm b250)⟩, rfl⟩)))
      · refine Gv T135 237 [(.ref r135)] (fun t k => XS.aload X135.here hx rfl (hb hby at_235) rfl rfl k) ?_
        refine Gv T135 239 [(.int (8 : Int32)), (.ref r135)] (fun t k => XS.iload X135.here hx rfl (hb hby at_237) rfl k) ?_
        obtain ⟨cl251, Ar251, q251, S251, N251, H251, G251⟩ := id f135_0
        have hin251 := inb_of (j := (8 : Int32)) S251 ⟨by decide, by decide⟩
        refine Goes.via (B := T135.setTop (mkF m 240 #[iv x1, iv x2, iv x3, lv_ x4, s_, iv (1 : Int32), iv (1 : Int32), iv ch, u_, iv (-1 : Int32), rv r135, iv (8 : Int32), u_, u_, u_] [(.int (105 : Int32))])) (fun t k => X135.caload hx (j := (8 : Int32)) (v := (.int (105 : Int32))) (Ar251.1) (State.isArrayOf_alike hZ.alike Ar251.2.1) Ar251.2.2 hin251 (H251.at hin251 rfl) (g := (mkF m 239 #[iv x1, iv x2, iv x3, lv_ x4, s_, iv (1 : Int32), iv (1 : Int32), iv ch, u_, iv (-1 : Int32), rv r135, iv (8 : Int32), u_, u_, u_] [(.int (8 : Int32)), (.ref r135)])) rfl rfl (hb hby at_239) t k) ?_
        refine Gv T135 242 [] (fun t k => XS.istore X135.here hx rfl (hb hby at_240) rfl (l' := #[iv x1, iv x2, iv x3, lv_ x4, s_, iv (1 : Int32), iv (1 : Int32), iv ch, u_, iv (-1 : Int32), rv r135, iv (8 : Int32), iv (105 : Int32), u_, u_]) rfl k) ?_
        refine Gv T135 244 [(.ref r135)] (fun t k => XS.aload X135.here hx rfl (hb hby at_242) rfl rfl k) ?_
        refine Gv T135 246 [(.int (8 : Int32)), (.ref r135)] (fun t k => XS.iload X135.here hx rfl (hb hby at_244) rfl k) ?_
        refine Gv T135 248 [(.int ch), (.int (8 : Int32)), (.ref r135)] (fun t k => XS.iload X135.here hx rfl (hb hby at_246) rfl k) ?_
        obtain ⟨cl252, Ar252, q252, S252, N252, H252, G252⟩ := id f135_0
        obtain ⟨T252, h252, X252, e252, W252, st252⟩ := stC X135 hx hZ rfl Ar252 (j := (8 : Int32)) (inb_of S252 ⟨by decide, by decide⟩) (g := (mkF m 248 #[iv x1, iv x2, iv x3, lv_ x4, s_, iv (1 : Int32), iv (1 : Int32), iv ch, u_, iv (-1 : Int32), rv r135, iv (8 : Int32), iv (105 : Int32), u_, u_] [(.int ch), (.int (8 : Int32)), (.ref r135)])) rfl rfl (hb hby at_248)
        have wn252 : nar .char ch = ch := own_i2c hch
        have fn252 : fits .char (.int ch) = true := by rw [← wn252]; exact fits_nar_char _
        rw [wn252] at W252
        have Nf252 := Fr.snoc X252 N135 gn135_0
        have hq253 := CHr.wr W252 (Safe.arv hZ.alike f135_0 (by decide)) hR136.1
        have hR253 := CHr.trans hR136 hq253
        have V252 : Arv Z h252 r135 kr135 .char (11 : Int32) [(.int (115 : Int32)), (.int (117 : Int32)), (.int (98 : Int32)), (.int (115 : Int32)), (.int (116 : Int32)), (.int (97 : Int32)), (.int (110 : Int32)), (.int (116 : Int32)), (.int ch), (.int (97 : Int32)), (.int (108 : Int32))] (.int (0 : Int32)) := Arv.set Ar252 q252 S252 N252 H252 G252 fn252 W252 8 rfl (Nat.le_of_ble_eq_true rfl)
        refine Goes.via (B := T252.setTop (mkF m 249 #[iv x1, iv x2, iv x3, lv_ x4, s_, iv (1 : Int32), iv (1 : Int32), iv ch, u_, iv (-1 : Int32), rv r135, iv (8 : Int32), iv (105 : Int32), u_, u_] [])) (fun t k => st252 _ k) ?_
        refine Gv T252 251 [(.int (105 : Int32))] (fun t k => XS.iload X252.here hx rfl (hb hby at_249) rfl k) ?_
        refine Gv T252 253 [(.int ch), (.int (105 : Int32))] (fun t k => XS.iload X252.here hx rfl (hb hby at_251) rfl k) ?_
        have j254 : ∀ (ew : Int32) (hew : (([(115 : Int32), (117 : Int32), (98 : Int32), (115 : Int32), (116 : Int32), (97 : Int32), (110 : Int32), (116 : Int32), ch, (97 : Int32), (108 : Int32)] : List Int32) = own_low ∧ ew = (0 : Int32)) ∨ (([(115 : Int32), (117 : Int32), (98 : Int32), (115 : Int32), (116 : Int32), (97 : Int32), (110 : Int32), (116 : Int32), ch, (97 : Int32), (108 : Int32)] : List Int32) = own_sub ∧ ew = (1 : Int32)) ∨ (([(115 : Int32), (117 : Int32), (98 : Int32), (115 : Int32), (116 : Int32), (97 : Int32), (110 : Int32), (116 : Int32), ch, (97 : Int32), (108 : Int32)] : List Int32) = own_hig ∧ ew = (2 : Int32)) ∨ ((¬ ([(115 : Int32), (117 : Int32), (98 : Int32), (115 : Int32), (116 : Int32), (97 : Int32), (110 : Int32), (116 : Int32), ch, (97 : Int32), (108 : Int32)] : List Int32) = own_low ∧ ¬ ([(115 : Int32), (117 : Int32), (98 : Int32), (115 : Int32), (116 : Int32), (97 : Int32), (110 : Int32), (116 : Int32), ch, (97 : Int32), (108 : Int32)] : List Int32) = own_sub ∧ ¬ ([(115 : Int32), (117 : Int32), (98 : Int32), (115 : Int32), (116 : Int32), (97 : Int32), (110 : Int32), (116 : Int32), ch, (97 : Int32), (108 : Int32)] : List Int32) = own_hig) ∧ ew = (-1 : Int32))) , Goes p.tables e below (fun t o => ∃ v L, o = .returned v ∧ (own_Q31 Z x1 x2 x3 x4 z0 oe va kv aL sL tL kL aS sS tS kS aH sH tH kH h0 n0) v t.heap L ∧ EndH Z consts_1 s o t L (room_1).cells (room_1).slots) (T252.setTop (mkF m 260 #[iv x1, iv x2, iv x3, lv_ x4, s_, iv (1 : Int32), iv (1 : Int32), iv ch, u_, iv ew, rv r135, iv (8 : Int32), iv (105 : Int32), u_, u_] [])) := by
          intro ew hew
          obtain ⟨T256, h256, X256, e256, E256, A256, D256, U256, st256⟩ := newO X252 hx hZ hown (W_ hw 5 rfl) (W_ hw 6 rfl) (W_ hw 7 rfl) e252 (g := (mkF m 260 #[iv x1, iv x2, iv x3, lv_ x4, s_, iv (1 : Int32), iv (1 : Int32), iv ch, u_, iv ew, rv r135, iv (8 : Int32), iv (105 : Int32), u_, u_] [])) rfl (hb hby at_260) (by decide) (by decide)
          obtain ⟨b256, g256⟩ : ∃ z, z = h252.size := ⟨_, rfl⟩
          rw [← g256] at A256 D256 U256 st256
          have gn256 : n0 ≤ b256 := Nat.le_trans (old_le ((O0.keep K135 all0).wr W252 gn135_0)) (Nat.le_of_eq g256.symm)
          have hq257 := CHr.ext E256 hR253.1
          have hR257 := CHr.trans hR253 hq257
          have sf258 := Safe.ext E256 hR253.1 (Safe.new (Nat.le_of_eq g256.symm))
          have F256_coder : Fld Z h256 b256 "java/lang/String" "coder" "B" (.int (0 : Int32)) := D256 (Or.inr (W_ hw 31 rfl)) (ty := .byte) (by decide)
          have F256_value : Fld Z h256 b256 "java/lang/String" "value" "[B" .null := D256 (Or.inr (W_ hw 33 rfl)) (ty := (.array .byte)) (by decide)
          refine Goes.via (B := T256.setTop (mkF m 263 #[iv x1, iv x2, iv x3, lv_ x4, s_, iv (1 : Int32), iv (1 : Int32), iv ch, u_, iv ew, rv r135, iv (8 : Int32), iv (105 : Int32), u_, u_] [(.ref b256)])) (fun t k => st256 _ k) ?_
          refine Gv T256 264 [(.ref b256), (.ref b256)] (fun t k => XS.dup X256.here hx rfl (hb hby at_263) rfl rfl k) ?_
          refine Gv T256 266 [(.ref r135), (.ref b256), (.ref b256)] (fun t k => XS.aload X256.here hx rfl (hb hby at_264) rfl rfl k) ?_
          have hp259 : ∀ c ∈ ([(115 : Int32), (117 : Int32), (98 : Int32), (115 : Int32), (116 : Int32), (97 : Int32), (110 : Int32), (116 : Int32), ch, (97 : Int32), (108 : Int32)] : List Int32), ¬ c < 0 ∧ ¬ (255 : Int32) < c := by
            intro c hc
            simp only [List.mem_cons, List.not_mem_nil, or_false] at hc
            rcases hc with rfl | rfl | rfl | rfl | rfl | rfl | rfl | rfl | rfl | rfl | rfl <;> first | exact ⟨by decide, by decide⟩ | exact hch
          obtain ⟨_, T260, L260, X260, ⟨rfl, M260, K260, E260, C260, t260, kb260, gn260, gs260, nx260, F260, V260⟩, st260⟩ := callInitB X256 hx hZ rfl hown (W_ hw 8 rfl) (W_ hw 9 rfl) (W_ hw 10 rfl) (by decide) (argsL := [(.ref r135)]) (rest := [(.ref b256)]) (W := 1) (StrChars.Road.backV (s := (s.setVm s.vm)) (W := 1) hZ (own_hw_words hw) (kI := 4) (W_ hw 6 rfl) (x := b256) (b := r135) (cs := ([(115 : Int32), (117 : Int32), (98 : Int32), (115 : Int32), (116 : Int32), (97 : Int32), (110 : Int32), (116 : Int32), ch, (97 : Int32), (108 : Int32)] : List Int32)) (bs := ([(115 : Int32), (117 : Int32), (98 : Int32), (115 : Int32), (116 : Int32), (97 : Int32), (110 : Int32), (116 : Int32), ch, (97 : Int32), (108 : Int32)] : List Int32).map (fun c => c.toInt8.toInt32)) (n := 11) gn256 (old_le (((O0.keep K135 all0).wr W252 gn135_0).ext E256)) A256 F256_value F256_coder (V252.ext E256) (Sta.ext (((O0.keep K135 all0).wr W252 gn135_0).ext E256).2 O_1) hz0 rfl rfl (by decide) (by decide) hp259 rfl (by decide) (by decide)) e256 (lenOf own_pd11 rfl) (pc := 266) (Ls := #[iv x1, iv x2, iv x3, lv_ x4, s_, iv (1 : Int32), iv (1 : Int32), iv ch, u_, iv ew, rv r135, iv (8 : Int32), iv (105 : Int32), u_, u_]) (st := [(.ref r135), (.ref b256), (.ref b256)]) rfl (by rw [hml]; rfl) (hb hby at_266) (Nat.le_of_eq rfl) (by decide) (by decide)
          have hq261 := CHr.keep K260 (sfS sf258 sf0) hR257.1
          have hR261 := CHr.trans hR257 hq261
          have N260 := Fr.app Nf252 M260
          refine Goes.via (B := T260.setTop (mkF m 269 #[iv x1, iv x2, iv x3, lv_ x4, s_, iv (1 : Int32), iv (1 : Int32), iv ch, u_, iv ew, rv r135, iv (8 : Int32), iv (105 : Int32), u_, u_] [(.ref b256)])) (fun t k => st260 _ k) ?_
          have w262 : Arv Z T260.heap t260 kb260 .byte (Int32.ofNat ([(115 : Int32), (117 : Int32), (98 : Int32), (115 : Int32), (116 : Int32), (97 : Int32), (110 : Int32), (116 : Int32), ch, (97 : Int32), (108 : Int32)] : List Int32).length) ((([(115 : Int32), (117 : Int32), (98 : Int32), (115 : Int32), (116 : Int32), (97 : Int32), (110 : Int32), (116 : Int32), ch, (97 : Int32), (108 : Int32)] : List Int32).map StrChars.lo8).map Value.int) (.int 0) := V260
          refine Gv T260 271 [] (fun t k => XS.astore X260.here hx rfl (hb hby at_269) rfl rfl (l' := #[iv x1, iv x2, iv x3, lv_ x4, s_, iv (1 : Int32), iv (1 : Int32), iv ch, rv b256, iv ew, rv r135, iv (8 : Int32), iv (105 : Int32), u_, u_]) rfl k) ?_
          obtain ⟨Xr263, hSr263, hZr263, hor263⟩ := rebase (cells := 8) (slots := 96) (X260.more (by decide) (by decide)) hS0 rfl (Nat.le_trans (Nat.le_trans (Nat.le_trans (Nat.le_trans hk0 K135.1) (Nat.le_of_eq (Wr.size W252).symm)) E256.1) K260.1) hZ hown
          exact j26 T260 _ T260.heap Xr263 rfl N260 hSr263 hZr263 hor263 (CHr.trans hR261 (CHv.at X260 hZ hEL hR261.1)) b256 t260 kb260 ([(115 : Int32), (117 : Int32), (98 : Int32), (115 : Int32), (116 : Int32), (97 : Int32), (110 : Int32), (116 : Int32), ch, (97 : Int32), (108 : Int32)] : List Int32) ew r135 (8 : Int32) (105 : Int32) ((((O0.keep K135 all0).wr W252 gn135_0).ext E256).keep K260 (allS gn256 all0)) E260 F260 C260 w262 hp259 (by simp) hew
        by_cases b264 : (105 : Int32) = ch
        · refine Gv T252 256 [] (fun t k => XS.icmpNo X252.here hx rfl (hb hby at_253) rfl (XT.ii_ne_f b264) k) ?_
          refine Gv T252 258 [(.int (1 : Int32))] (fun t k => XS.iload X252.here hx rfl (hb hby at_256) rfl k) ?_
          refine Gv T252 260 [] (fun t k => XS.istore X252.here hx rfl (hb hby at_258) rfl (l' := #[iv x1, iv x2, iv x3, lv_ x4, s_, iv (1 : Int32), iv (1 : Int32), iv ch, u_, iv (1 : Int32), rv r135, iv (8 : Int32), iv (105 : Int32), u_, u_]) rfl k) ?_
          exact j254 (1 : Int32) (Or.inr (Or.inl ⟨(by rw [← b264]; rfl), rfl⟩))
        · refine Gv T252 260 [] (fun t k => XS.icmpYes X252.here hx rfl (pc0 := 253) (pc' := 260) rfl (hb hby at_253) rfl (XT.ii_ne_t b264) (by decide) (by decide) k) ?_
          exact j254 (-1 : Int32) (Or.inr (Or.inr (Or.inr ⟨⟨(fun z => by simp [own_low, own_sub, own_hig] at z <;> exact absurd z.symm b264), (fun z => by simp [own_low, own_sub, own_hig] at z <;> exact absurd z.symm b264), (fun z => by simp [own_low, own_sub, own_hig] at z <;> exact absurd z.symm b264)⟩, rfl⟩)))
      · refine Gv T135 237 [(.ref r135)] (fun t k => XS.aload X135.here hx rfl (hb hby at_235) rfl rfl k) ?_
        refine Gv T135 239 [(.int (9 : Int32)), (.ref r135)] (fun t k => XS.iload X135.here hx rfl (hb hby at_237) rfl k) ?_
        obtain ⟨cl265, Ar265, q265, S265, N265, H265, G265⟩ := id f135_0
        have hin265 := inb_of (j := (9 : Int32)) S265 ⟨by decide, by decide⟩
        refine Goes.via (B := T135.setTop (mkF m 240 #[iv x1, iv x2, iv x3, lv_ x4, s_, iv (1 : Int32), iv (1 : Int32), iv ch, u_, iv (-1 : Int32), rv r135, iv (9 : Int32), u_, u_, u_] [(.int (97 : Int32))])) (fun t k => X135.caload hx (j := (9 : Int32)) (v := (.int (97 : Int32))) (Ar265.1) (State.isArrayOf_alike hZ.alike Ar265.2.1) Ar265.2.2 hin265 (H265.at hin265 rfl) (g := (mkF m 239 #[iv x1, iv x2, iv x3, lv_ x4, s_, iv (1 : Int32), iv (1 : Int32), iv ch, u_, iv (-1 : Int32), rv r135, iv (9 : Int32), u_, u_, u_] [(.int (9 : Int32)), (.ref r135)])) rfl rfl (hb hby at_239) t k) ?_
        refine Gv T135 242 [] (fun t k => XS.istore X135.here hx rfl (hb hby at_240) rfl (l' := #[iv x1, iv x2, iv x3, lv_ x4, s_, iv (1 : Int32), iv (1 : Int32), iv ch, u_, iv (-1 : Int32), rv r135, iv (9 : Int32), iv (97 : Int32), u_, u_]) rfl k) ?_
        refine Gv T135 244 [(.ref r135)] (fun t k => XS.aload X135.here hx rfl (hb hby at_242) rfl rfl k) ?_
        refine Gv T135 246 [(.int (9 : Int32)), (.ref r135)] (fun t k => XS.iload X135.here hx rfl (hb hby at_244) rfl k) ?_
        refine Gv T135 248 [(.int ch), (.int (9 : Int32)), (.ref r135)] (fun t k => XS.iload X135.here hx rfl (hb hby at_246) rfl k) ?_
        obtain ⟨cl266, Ar266, q266, S266, N266, H266, G266⟩ := id f135_0
        obtain ⟨T266, h266, X266, e266, W266, st266⟩ := stC X135 hx hZ rfl Ar266 (j := (9 : Int32)) (inb_of S266 ⟨by decide, by decide⟩) (g := (mkF m 248 #[iv x1, iv x2, iv x3, lv_ x4, s_, iv (1 : Int32), iv (1 : Int32), iv ch, u_, iv (-1 : Int32), rv r135, iv (9 : Int32), iv (97 : Int32), u_, u_] [(.int ch), (.int (9 : Int32)), (.ref r135)])) rfl rfl (hb hby at_248)
        have wn266 : nar .char ch = ch := own_i2c hch
        have fn266 : fits .char (.int ch) = true := by rw [← wn266]; exact fits_nar_char _
        rw [wn266] at W266
        have Nf266 := Fr.snoc X266 N135 gn135_0
        have hq267 := CHr.wr W266 (Safe.arv hZ.alike f135_0 (by decide)) hR136.1
        have hR267 := CHr.trans hR136 hq267
        have V266 : Arv Z h266 r135 kr135 .char (11 : Int32) [(.int (115 : Int32)), (.int (117 : Int32)), (.int (98 : Int32)), (.int (115 : Int32)), (.int (116 : Int32)), (.int (97 : Int32)), (.int (110 : Int32)), (.int (116 : Int32)), (.int (105 : Int32)), (.int ch), (.int (108 : Int32))] (.int (0 : Int32)) := Arv.set Ar266 q266 S266 N266 H266 G266 fn266 W266 9 rfl (Nat.le_of_ble_eq_true rfl)
        refine Goes.via (B := T266.setTop (mkF m 249 #[iv x1, iv x2, iv x3, lv_ x4, s_, iv (1 : Int32), iv (1 : Int32), iv ch, u_, iv (-1 : Int32), rv r135, iv (9 : Int32), iv (97 : Int32), u_, u_] [])) (fun t k => st266 _ k) ?_
        refine Gv T266 251 [(.int (97 : Int32))] (fun t k => XS.iload X266.here hx rfl (hb hby at_249) rfl k) ?_
        refine Gv T266 253 [(.int ch), (.int (97 : Int32))] (fun t k => XS.iload X266.here hx rfl (hb hby at_251) rfl k) ?_
        have j268 : ∀ (ew : Int32) (hew : (([(115 : Int32), (117 : Int32), (98 : Int32), (115 : Int32), (116 : Int32), (97 : Int32), (110 : Int32), (116 : Int32), (105 : Int32), ch, (108 : Int32)] : List Int32) = own_low ∧ ew = (0 : Int32)) ∨ (([(115 : Int32), (117 : Int32), (98 : Int32), (115 : Int32), (116 : Int32), (97 : Int32), (110 : Int32), (116 : Int32), (105 : Int32), ch, (108 : Int32)] : List Int32) = own_sub ∧ ew = (1 : Int32)) ∨ (([(115 : Int32), (117 : Int32), (98 : Int32), (115 : Int32), (116 : Int32), (97 : Int32), (110 : Int32), (116 : Int32), (105 : Int32), ch, (108 : Int32)] : List Int32) = own_hig ∧ ew = (2 : Int32)) ∨ ((¬ ([(115 : Int32), (117 : Int32), (98 : Int32), (115 : Int32), (116 : Int32), (97 : Int32), (110 : Int32), (116 : Int32), (105 : Int32), ch, (108 : Int32)] : List Int32) = own_low ∧ ¬ ([(115 : Int32), (117 : Int32), (98 : Int32), (115 : Int32), (116 : Int32), (97 : Int32), (110 : Int32), (116 : Int32), (105 : Int32), ch, (108 : Int32)] : List Int32) = own_sub ∧ ¬ ([(115 : Int32), (117 : Int32), (98 : Int32), (115 : Int32), (116 : Int32), (97 : Int32), (110 : Int32), (116 : Int32), (105 : Int32), ch, (108 : Int32)] : List Int32) = own_hig) ∧ ew = (-1 : Int32))) , Goes p.tables e below (fun t o => ∃ v L, o = .returned v ∧ (own_Q31 Z x1 x2 x3 x4 z0 oe va kv aL sL tL kL aS sS tS kS aH sH tH kH h0 n0) v t.heap L ∧ EndH Z consts_1 s o t L (room_1).cells (room_1).slots) (T266.setTop (mkF m 260 #[iv x1, iv x2, iv x3, lv_ x4, s_, iv (1 : Int32), iv (1 : Int32), iv ch, u_, iv ew, rv r135, iv (9 : Int32), iv (97 : Int32), u_, u_] [])) := by
          intro ew hew
          obtain ⟨T270, h270, X270, e270, E270, A270, D270, U270, st270⟩ := newO X266 hx hZ hown (W_ hw 5 rfl) (W_ hw 6 rfl) (W_ hw 7 rfl) e266 (g := (mkF m 260 #[iv x1, iv x2, iv x3, lv_ x4, s_, iv (1 : Int32), iv (1 : Int32), iv ch, u_, iv ew, rv r135, iv (9 : Int32), iv (97 : Int32), u_, u_] [])) rfl (hb hby at_260) (by decide) (by decide)
          obtain ⟨b270, g270⟩ : ∃ z, z = h266.size := ⟨_, rfl⟩
          rw [← g270] at A270 D270 U270 st270
          have gn270 : n0 ≤ b270 := Nat.le_trans (old_le ((O0.keep K135 all0).wr W266 gn135_0)) (Nat.le_of_eq g270.symm)
          have hq271 := CHr.ext E270 hR267.1
          have hR271 := CHr.trans hR267 hq271
          have sf272 := Safe.ext E270 hR267.1 (Safe.new (Nat.le_of_eq g270.symm))
          have F270_coder : Fld Z h270 b270 "java/lang/String" "coder" "B" (.int (0 : Int32)) := D270 (Or.inr (W_ hw 31 rfl)) (ty := .byte) (by decide)
          have F270_value : Fld Z h270 b270 "java/lang/String" "value" "[B" .null := D270 (Or.inr (W_ hw 33 rfl)) (ty := (.array .byte)) (by decide)
          refine Goes.via (B := T270.setTop (mkF m 263 #[iv x1, iv x2, iv x3, lv_ x4, s_, iv (1 : Int32), iv (1 : Int32), iv ch, u_, iv ew, rv r135, iv (9 : Int32), iv (97 : Int32), u_, u_] [(.ref b270)])) (fun t k => st270 _ k) ?_
          refine Gv T270 264 [(.ref b270), (.ref b270)] (fun t k => XS.dup X270.here hx rfl (hb hby at_263) rfl rfl k) ?_
          refine Gv T270 266 [(.ref r135), (.ref b270), (.ref b270)] (fun t k => XS.aload X270.here hx rfl (hb hby at_264) rfl rfl k) ?_
          have hp273 : ∀ c ∈ ([(115 : Int32), (117 : Int32), (98 : Int32), (115 : Int32), (116 : Int32), (97 : Int32), (110 : Int32), (116 : Int32), (105 : Int32), ch, (108 : Int32)] : List Int32), ¬ c < 0 ∧ ¬ (255 : Int32) < c := by
            intro c hc
            simp only [List.mem_cons, List.not_mem_nil, or_false] at hc
            rcases hc with rfl | rfl | rfl | rfl | rfl | rfl | rfl | rfl | rfl | rfl | rfl <;> first | exact ⟨by decide, by decide⟩ | exact hch
          obtain ⟨_, T274, L274, X274, ⟨rfl, M274, K274, E274, C274, t274, kb274, gn274, gs274, nx274, F274, V274⟩, st274⟩ := callInitB X270 hx hZ rfl hown (W_ hw 8 rfl) (W_ hw 9 rfl) (W_ hw 10 rfl) (by decide) (argsL := [(.ref r135)]) (rest := [(.ref b270)]) (W := 1) (StrChars.Road.backV (s := (s.setVm s.vm)) (W := 1) hZ (own_hw_words hw) (kI := 4) (W_ hw 6 rfl) (x := b270) (b := r135) (cs := ([(115 : Int32), (117 : Int32), (98 : Int32), (115 : Int32), (116 : Int32), (97 : Int32), (110 : Int32), (116 : Int32), (105 : Int32), ch, (108 : Int32)] : List Int32)) (bs := ([(115 : Int32), (117 : Int32), (98 : Int32), (115 : Int32), (116 : Int32), (97 : Int32), (110 : Int32), (116 : Int32), (105 : Int32), ch, (108 : Int32)] : List Int32).map (fun c => c.toInt8.toInt32)) (n := 11) gn270 (old_le (((O0.keep K135 all0).wr W266 gn135_0).ext E270)) A270 F270_value F270_coder (V266.ext E270) (Sta.ext (((O0.keep K135 all0).wr W266 gn135_0).ext E270).2 O_1) hz0 rfl rfl (by decide) (by decide) hp273 rfl (by decide) (by decide)) e270 (lenOf own_pd11 rfl) (pc := 266) (Ls := #[iv x1, iv x2, iv x3, lv_ x4, s_, iv (1 : Int32), iv (1 : Int32), iv ch, u_, iv ew, rv r135, iv (9 : Int32), iv (97 : Int32), u_, u_]) (st := [(.ref r135), (.ref b270), (.ref b270)]) rfl (by rw [hml]; rfl) (hb hby at_266) (Nat.le_of_eq rfl) (by decide) (by decide)
          have hq275 := CHr.keep K274 (sfS sf272 sf0) hR271.1
          have hR275 := CHr.trans hR271 hq275
          have N274 := Fr.app Nf266 M274
          refine Goes.via (B := T274.setTop (mkF m 269 #[iv x1, iv x2, iv x3, lv_ x4, s_, iv (1 : Int32), iv (1 : Int32), iv ch, u_, iv ew, rv r135, iv (9 : Int32), iv (97 : Int32), u_, u_] [(.ref b270)])) (fun t k => st274 _ k) ?_
          have w276 : Arv Z T274.heap t274 kb274 .byte (Int32.ofNat ([(115 : Int32), (117 : Int32), (98 : Int32), (115 : Int32), (116 : Int32), (97 : Int32), (110 : Int32), (116 : Int32), (105 : Int32), ch, (108 : Int32)] : List Int32).length) ((([(115 : Int32), (117 : Int32), (98 : Int32), (115 : Int32), (116 : Int32), (97 : Int32), (110 : Int32), (116 : Int32), (105 : Int32), ch, (108 : Int32)] : List Int32).map StrChars.lo8).map Value.int) (.int 0) := V274
          refine Gv T274 271 [] (fun t k => XS.astore X274.here hx rfl (hb hby at_269) rfl rfl (l' := #[iv x1, iv x2, iv x3, lv_ x4, s_, iv (1 : Int32), iv (1 : Int32), iv ch, rv b270, iv ew, rv r135, iv (9 : Int32), iv (97 : Int32), u_, u_]) rfl k) ?_
          obtain ⟨Xr277, hSr277, hZr277, hor277⟩ := rebase (cells := 8) (slots := 96) (X274.more (by decide) (by decide)) hS0 rfl (Nat.le_trans (Nat.le_trans (Nat.le_trans (Nat.le_trans hk0 K135.1) (Nat.le_of_eq (Wr.size W266).symm)) E270.1) K274.1) hZ hown
          exact j26 T274 _ T274.heap Xr277 rfl N274 hSr277 hZr277 hor277 (CHr.trans hR275 (CHv.at X274 hZ hEL hR275.1)) b270 t274 kb274 ([(115 : Int32), (117 : Int32), (98 : Int32), (115 : Int32), (116 : Int32), (97 : Int32), (110 : Int32), (116 : Int32), (105 : Int32), ch, (108 : Int32)] : List Int32) ew r135 (9 : Int32) (97 : Int32) ((((O0.keep K135 all0).wr W266 gn135_0).ext E270).keep K274 (allS gn270 all0)) E274 F274 C274 w276 hp273 (by simp) hew
        by_cases b278 : (97 : Int32) = ch
        · refine Gv T266 256 [] (fun t k => XS.icmpNo X266.here hx rfl (hb hby at_253) rfl (XT.ii_ne_f b278) k) ?_
          refine Gv T266 258 [(.int (1 : Int32))] (fun t k => XS.iload X266.here hx rfl (hb hby at_256) rfl k) ?_
          refine Gv T266 260 [] (fun t k => XS.istore X266.here hx rfl (hb hby at_258) rfl (l' := #[iv x1, iv x2, iv x3, lv_ x4, s_, iv (1 : Int32), iv (1 : Int32), iv ch, u_, iv (1 : Int32), rv r135, iv (9 : Int32), iv (97 : Int32), u_, u_]) rfl k) ?_
          exact j268 (1 : Int32) (Or.inr (Or.inl ⟨(by rw [← b278]; rfl), rfl⟩))
        · refine Gv T266 260 [] (fun t k => XS.icmpYes X266.here hx rfl (pc0 := 253) (pc' := 260) rfl (hb hby at_253) rfl (XT.ii_ne_t b278) (by decide) (by decide) k) ?_
          exact j268 (-1 : Int32) (Or.inr (Or.inr (Or.inr ⟨⟨(fun z => by simp [own_low, own_sub, own_hig] at z <;> exact absurd z.symm b278), (fun z => by simp [own_low, own_sub, own_hig] at z <;> exact absurd z.symm b278), (fun z => by simp [own_low, own_sub, own_hig] at z <;> exact absurd z.symm b278)⟩, rfl⟩)))
      · refine Gv T135 237 [(.ref r135)] (fun t k => XS.aload X135.here hx rfl (hb hby at_235) rfl rfl k) ?_
        refine Gv T135 239 [(.int (10 : Int32)), (.ref r135)] (fun t k => XS.iload X135.here hx rfl (hb hby at_237) rfl k) ?_
        obtain ⟨cl279, Ar279, q279, S279, N279, H279, G279⟩ := id f135_0
        have hin279 := inb_of (j := (10 : Int32)) S279 ⟨by decide, by decide⟩
        refine Goes.via (B := T135.setTop (mkF m 240 #[iv x1, iv x2, iv x3, lv_ x4, s_, iv (1 : Int32), iv (1 : Int32), iv ch, u_, iv (-1 : Int32), rv r135, iv (10 : Int32), u_, u_, u_] [(.int (108 : Int32))])) (fun t k => X135.caload hx (j := (10 : Int32)) (v := (.int (108 : Int32))) (Ar279.1) (State.isArrayOf_alike hZ.alike Ar279.2.1) Ar279.2.2 hin279 (H279.at hin279 rfl) (g := (mkF m 239 #[iv x1, iv x2, iv x3, lv_ x4, s_, iv (1 : Int32), iv (1 : Int32), iv ch, u_, iv (-1 : Int32), rv r135, iv (10 : Int32), u_, u_, u_] [(.int (10 : Int32)), (.ref r135)])) rfl rfl (hb hby at_239) t k) ?_
        refine Gv T135 242 [] (fun t k => XS.istore X135.here hx rfl (hb hby at_240) rfl (l' := #[iv x1, iv x2, iv x3, lv_ x4, s_, iv (1 : Int32), iv (1 : Int32), iv ch, u_, iv (-1 : Int32), rv r135, iv (10 : Int32), iv (108 : Int32), u_, u_]) rfl k) ?_
        refine Gv T135 244 [(.ref r135)] (fun t k => XS.aload X135.here hx rfl (hb hby at_242) rfl rfl k) ?_
        refine Gv T135 246 [(.int (10 : Int32)), (.ref r135)] (fun t k => XS.iload X135.here hx rfl (hb hby at_244) rfl k) ?_
        refine Gv T135 248 [(.int ch), (.int (10 : Int32)), (.ref r135)] (fun t k => XS.iload X135.here hx rfl (hb hby at_246) rfl k) ?_
        obtain ⟨cl280, Ar280, q280, S280, N280, H280, G280⟩ := id f135_0
        obtain ⟨T280, h280, X280, e280, W280, st280⟩ := stC X135 hx hZ rfl Ar280 (j := (10 : Int32)) (inb_of S280 ⟨by decide, by decide⟩) (g := (mkF m 248 #[iv x1, iv x2, iv x3, lv_ x4, s_, iv (1 : Int32), iv (1 : Int32), iv ch, u_, iv (-1 : Int32), rv r135, iv (10 : Int32), iv (108 : Int32), u_, u_] [(.int ch), (.int (10 : Int32)), (.ref r135)])) rfl rfl (hb hby at_248)
        have wn280 : nar .char ch = ch := own_i2c hch
        have fn280 : fits .char (.int ch) = true := by rw [← wn280]; exact fits_nar_char _
        rw [wn280] at W280
        have Nf280 := Fr.snoc X280 N135 gn135_0
        have hq281 := CHr.wr W280 (Safe.arv hZ.alike f135_0 (by decide)) hR136.1
        have hR281 := CHr.trans hR136 hq281
        have V280 : Arv Z h280 r135 kr135 .char (11 : Int32) [(.int (115 : Int32)), (.int (117 : Int32)), (.int (98 : Int32)), (.int (115 : Int32)), (.int (116 : Int32)), (.int (97 : Int32)), (.int (110 : Int32)), (.int (116 : Int32)), (.int (105 : Int32)), (.int (97 : Int32)), (.int ch)] (.int (0 : Int32)) := Arv.set Ar280 q280 S280 N280 H280 G280 fn280 W280 10 rfl (Nat.le_of_ble_eq_true rfl)
        refine Goes.via (B := T280.setTop (mkF m 249 #[iv x1, iv x2, iv x3, lv_ x4, s_, iv (1 : Int32), iv (1 : Int32), iv ch, u_, iv (-1 : Int32), rv r135, iv (10 : Int32), iv (108 : Int32), u_, u_] [])) (fun t k => st280 _ k) ?_
        refine Gv T280 251 [(.int (108 : Int32))] (fun t k => XS.iload X280.here hx rfl (hb hby at_249) rfl k) ?_
        refine Gv T280 253 [(.int ch), (.int (108 : Int32))] (fun t k => XS.iload X280.here hx rfl (hb hby at_251) rfl k) ?_
        have j282 : ∀ (ew : Int32) (hew : (([(115 : Int32), (117 : Int32), (98 : Int32), (115 : Int32), (116 : Int32), (97 : Int32), (110 : Int32), (116 : Int32), (105 : Int32), (97 : Int32), ch] : List Int32) = own_low ∧ ew = (0 : Int32)) ∨ (([(115 : Int32), (117 : Int32), (98 : Int32), (115 : Int32), (116 : Int32), (97 : Int32), (110 : Int32), (116 : Int32), (105 : Int32), (97 : Int32), ch] : List Int32) = own_sub ∧ ew = (1 : Int32)) ∨ (([(115 : Int32), (117 : Int32), (98 : Int32), (115 : Int32), (116 : Int32), (97 : Int32), (110 : Int32), (116 : Int32), (105 : Int32), (97 : Int32), ch] : List Int32) = own_hig ∧ ew = (2 : Int32)) ∨ ((¬ ([(115 : Int32), (117 : Int32), (98 : Int32), (115 : Int32), (116 : Int32), (97 : Int32), (110 : Int32), (116 : Int32), (105 : Int32), (97 : Int32), ch] : List Int32) = own_low ∧ ¬ ([(115 : Int32), (117 : Int32), (98 : Int32), (115 : Int32), (116 : Int32), (97 : Int32), (110 : Int32), (116 : Int32), (105 : Int32), (97 : Int32), ch] : List Int32) = own_sub ∧ ¬ ([(115 : Int32), (117 : Int32), (98 : Int32), (115 : Int32), (116 : Int32), (97 : Int32), (110 : Int32), (116 : Int32), (105 : Int32), (97 : Int32), ch] : List Int32) = own_hig) ∧ ew = (-1 : Int32))) , Goes p.tables e below (fun t o => ∃ v L, o = .returned v ∧ (own_Q31 Z x1 x2 x3 x4 z0 oe va kv aL sL tL kL aS sS tS kS aH sH tH kH h0 n0) v t.heap L ∧ EndH Z consts_1 s o t L (room_1).cells (room_1).slots) (T280.setTop (mkF m 260 #[iv x1, iv x2, iv x3, lv_ x4, s_, iv (1 : Int32), iv (1 : Int32), iv ch, u_, iv ew, rv r135, iv (10 : Int32), iv (108 : Int32), u_, u_] [])) := by
          intro ew hew
          obtain ⟨T284, h284, X284, e284, E284, A284, D284, U284, st284⟩ := newO X280 hx hZ hown (W_ hw 5 rfl) (W_ hw 6 rfl) (W_ hw 7 rfl) e280 (g := (mkF m 260 #[iv x1, iv x2, iv x3, lv_ x4, s_, iv (1 : Int32), iv (1 : Int32), iv ch, u_, iv ew, rv r135, iv (10 : Int32), iv (108 : Int32), u_, u_] [])) rfl (hb hby at_260) (by decide) (by decide)
          obtain ⟨b284, g284⟩ : ∃ z, z = h280.size := ⟨_, rfl⟩
          rw [← g284] at A284 D284 U284 st284
          have gn284 : n0 ≤ b284 := Nat.le_trans (old_le ((O0.keep K135 all0).wr W280 gn135_0)) (Nat.le_of_eq g284.symm)
          have hq285 := CHr.ext E284 hR281.1
          have hR285 := CHr.trans hR281 hq285
          have sf286 := Safe.ext E284 hR281.1 (Safe.new (Nat.le_of_eq g284.symm))
          have F284_coder : Fld Z h284 b284 "java/lang/String" "coder" "B" (.int (0 : Int32)) := D284 (Or.inr (W_ hw 31 rfl)) (ty := .byte) (by decide)
          have F284_value : Fld Z h284 b284 "java/lang/String" "value" "[B" .null := D284 (Or.inr (W_ hw 33 rfl)) (ty := (.array .byte)) (by decide)
          refine Goes.via (B := T284.setTop (mkF m 263 #[iv x1, iv x2, iv x3, lv_ x4, s_, iv (1 : Int32), iv (1 : Int32), iv ch, u_, iv ew, rv r135, iv (10 : Int32), iv (108 : Int32), u_, u_] [(.ref b284)])) (fun t k => st284 _ k) ?_
          refine Gv T284 264 [(.ref b284), (.ref b284)] (fun t k => XS.dup X284.here hx rfl (hb hby at_263) rfl rfl k) ?_
          refine Gv T284 266 [(.ref r135), (.ref b284), (.ref b284)] (fun t k => XS.aload X284.here hx rfl (hb hby at_264) rfl rfl k) ?_
          have hp287 : ∀ c ∈ ([(115 : Int32), (117 : Int32), (98 : Int32), (115 : Int32), (116 : Int32), (97 : Int32), (110 : Int32), (116 : Int32), (105 : Int32), (97 : Int32), ch] : List Int32), ¬ c < 0 ∧ ¬ (255 : Int32) < c := by
            intro c hc
            simp only [List.mem_cons, List.not_mem_nil, or_false] at hc
            rcases hc with rfl | rfl | rfl | rfl | rfl | rfl | rfl | rfl | rfl | rfl | rfl <;> first | exact ⟨by decide, by decide⟩ | exact hch
          obtain ⟨_, T288, L288, X288, ⟨rfl, M288, K288, E288, C288, t288, kb288, gn288, gs288, nx288, F288, V288⟩, st288⟩ := callInitB X284 hx hZ rfl hown (W_ hw 8 rfl) (W_ hw 9 rfl) (W_ hw 10 rfl) (by decide) (argsL := [(.ref r135)]) (rest := [(.ref b284)]) (W := 1) (StrChars.Road.backV (s := (s.setVm s.vm)) (W := 1) hZ (own_hw_words hw) (kI := 4) (W_ hw 6 rfl) (x := b284) (b := r135) (cs := ([(115 : Int32), (117 : Int32), (98 : Int32), (115 : Int32), (116 : Int32), (97 : Int32), (110 : Int32), (116 : Int32), (105 : Int32), (97 : Int32), ch] : List Int32)) (bs := ([(115 : Int32), (117 : Int32), (98 : Int32), (115 : Int32), (116 : Int32), (97 : Int32), (110 : Int32), (116 : Int32), (105 : Int32), (97 : Int32), ch] : List Int32).map (fun c => c.toInt8.toInt32)) (n := 11) gn284 (old_le (((O0.keep K135 all0).wr W280 gn135_0).ext E284)) A284 F284_value F284_coder (V280.ext E284) (Sta.ext (((O0.keep K135 all0).wr W280 gn135_0).ext E284).2 O_1) hz0 rfl rfl (by decide) (by decide) hp287 rfl (by decide) (by decide)) e284 (lenOf own_pd11 rfl) (pc := 266) (Ls := #[iv x1, iv x2, iv x3, lv_ x4, s_, iv (1 : Int32), iv (1 : Int32), iv ch, u_, iv ew, rv r135, iv (10 : Int32), iv (108 : Int32), u_, u_]) (st := [(.ref r135), (.ref b284), (.ref b284)]) rfl (by rw [hml]; rfl) (hb hby at_266) (Nat.le_of_eq rfl) (by decide) (by decide)
          have hq289 := CHr.keep K288 (sfS sf286 sf0) hR285.1
          have hR289 := CHr.trans hR285 hq289
          have N288 := Fr.app Nf280 M288
          refine Goes.via (B := T288.setTop (mkF m 269 #[iv x1, iv x2, iv x3, lv_ x4, s_, iv (1 : Int32), iv (1 : Int32), iv ch, u_, iv ew, rv r135, iv (10 : Int32), iv (108 : Int32), u_, u_] [(.ref b284)])) (fun t k => st288 _ k) ?_
          have w290 : Arv Z T288.heap t288 kb288 .byte (Int32.ofNat ([(115 : Int32), (117 : Int32), (98 : Int32), (115 : Int32), (116 : Int32), (97 : Int32), (110 : Int32), (116 : Int32), (105 : Int32), (97 : Int32), ch] : List Int32).length) ((([(115 : Int32), (117 : Int32), (98 : Int32), (115 : Int32), (116 : Int32), (97 : Int32), (110 : Int32), (116 : Int32), (105 : Int32), (97 : Int32), ch] : List Int32).map StrChars.lo8).map Value.int) (.int 0) := V288
          refine Gv T288 271 [] (fun t k => XS.astore X288.here hx rfl (hb hby at_269) rfl rfl (l' := #[iv x1, iv x2, iv x3, lv_ x4, s_, iv (1 : Int32), iv (1 : Int32), iv ch, rv b284, iv ew, rv r135, iv (10 : Int32), iv (108 : Int32), u_, u_]) rfl k) ?_
          obtain ⟨Xr291, hSr291, hZr291, hor291⟩ := rebase (cells := 8) (slots := 96) (X288.more (by decide) (by decide)) hS0 rfl (Nat.le_trans (Nat.le_trans (Nat.le_trans (Nat.le_trans hk0 K135.1) (Nat.le_of_eq (Wr.size W280).symm)) E284.1) K288.1) hZ hown
          exact j26 T288 _ T288.heap Xr291 rfl N288 hSr291 hZr291 hor291 (CHr.trans hR289 (CHv.at X288 hZ hEL hR289.1)) b284 t288 kb288 ([(115 : Int32), (117 : Int32), (98 : Int32), (115 : Int32), (116 : Int32), (97 : Int32), (110 : Int32), (116 : Int32), (105 : Int32), (97 : Int32), ch] : List Int32) ew r135 (10 : Int32) (108 : Int32) ((((O0.keep K135 all0).wr W280 gn135_0).ext E284).keep K288 (allS gn284 all0)) E288 F288 C288 w290 hp287 (by simp) hew
        by_cases b292 : (108 : Int32) = ch
        · refine Gv T280 256 [] (fun t k => XS.icmpNo X280.here hx rfl (hb hby at_253) rfl (XT.ii_ne_f b292) k) ?_
          refine Gv T280 258 [(.int (1 : Int32))] (fun t k => XS.iload X280.here hx rfl (hb hby at_256) rfl k) ?_
          refine Gv T280 260 [] (fun t k => XS.istore X280.here hx rfl (hb hby at_258) rfl (l' := #[iv x1, iv x2, iv x3, lv_ x4, s_, iv (1 : Int32), iv (1 : Int32), iv ch, u_, iv (1 : Int32), rv r135, iv (10 : Int32), iv (108 : Int32), u_, u_]) rfl k) ?_
          exact j282 (1 : Int32) (Or.inr (Or.inl ⟨(by rw [← b292]; rfl), rfl⟩))
        · refine Gv T280 260 [] (fun t k => XS.icmpYes X280.here hx rfl (pc0 := 253) (pc' := 260) rfl (hb hby at_253) rfl (XT.ii_ne_t b292) (by decide) (by decide) k) ?_
          exact j282 (-1 : Int32) (Or.inr (Or.inr (Or.inr ⟨⟨(fun z => by simp [own_low, own_sub, own_hig] at z <;> exact absurd z.symm b292), (fun z => by simp [own_low, own_sub, own_hig] at z <;> exact absurd z.symm b292), (fun z => by simp [own_low, own_sub, own_hig] at z <;> exact absurd z.symm b292)⟩, rfl⟩)))
    · obtain ⟨_, T293, L293, X293, ⟨r293, kr293, rfl, M293, K293, z293_0, f293_0⟩, st293⟩ := callStatic X0 hx hZ hown (W_ hw 0 rfl) (W_ hw 1 rfl) (W_ hw 2 rfl) (W_ hw 3 rfl) (by decide) (argsL := [(.int (1 : Int32)), (.int (2 : Int32)), (.int ch)]) (rest := []) (own_m21 l Z a0 hw [] ch h0 n0 O0 hch) e0 (lenOf own_pd10 rfl) (pc := 199) (Ls := #[iv x1, iv x2, iv x3, lv_ x4, s_, iv (1 : Int32), iv (2 : Int32), iv ch, u_, u_, u_, u_, u_, u_, u_]) (st := [(.int ch), (.int (2 : Int32)), (.int (1 : Int32))]) rfl (by rw [hml]; rfl) (hb hby at_199) (W := 0) (Nat.le_of_eq rfl) (by decide) (by decide) (by decide) (by decide)
      have N293 := Fr.app N0 M293
      have gn293_0 : n0 ≤ r293 := Nat.le_trans (old_le O0) z293_0
      have hq294 := CHr.keep K293 sf0 hR0.1
      have hR294 := CHr.trans hR0 hq294
      refine Goes.via (B := T293.setTop (mkF m 202 #[iv x1, iv x2, iv x3, lv_ x4, s_, iv (1 : Int32), iv (2 : Int32), iv ch, u_, u_, u_, u_, u_, u_, u_] [(.ref r293)])) (fun t k => st293 _ k) ?_
      refine Gv T293 204 [] (fun t k => XS.astore X293.here hx rfl (hb hby at_202) rfl rfl (l' := #[iv x1, iv x2, iv x3, lv_ x4, s_, iv (1 : Int32), iv (2 : Int32), iv ch, u_, u_, rv r293, u_, u_, u_, u_]) rfl k) ?_
      refine Gv T293 205 [(.int (-1 : Int32))] (fun t k => XS.iconst X293.here hx rfl (hb hby at_204) k) ?_
      refine Gv T293 207 [] (fun t k => XS.istore X293.here hx rfl (hb hby at_205) rfl (l' := #[iv x1, iv x2, iv x3, lv_ x4, s_, iv (1 : Int32), iv (2 : Int32), iv ch, u_, iv (-1 : Int32), rv r293, u_, u_, u_, u_]) rfl k) ?_
      refine Gv T293 209 [(.int (2 : Int32))] (fun t k => XS.iload X293.here hx rfl (hb hby at_207) rfl k) ?_
      refine Gv T293 219 [] (fun t k => XS.ifYes X293.here hx rfl (pc0 := 209) (pc' := 219) rfl (hb hby at_209) rfl (XT.i0_ne_t (by decide)) (by decide) (by decide) k) ?_
      refine Gv T293 221 [(.int (2 : Int32))] (fun t k => XS.iload X293.here hx rfl (hb hby at_219) rfl k) ?_
      refine Gv T293 222 [(.int (1 : Int32)), (.int (2 : Int32))] (fun t k => XS.iconst X293.here hx rfl (hb hby at_221) k) ?_
      refine Gv T293 260 [] (fun t k => XS.icmpYes X293.here hx rfl (pc0 := 222) (pc' := 260) rfl (hb hby at_222) rfl (XT.ii_ne_t (by decide)) (by decide) (by decide) k) ?_
      obtain ⟨T295, h295, X295, e295, E295, A295, D295, U295, st295⟩ := newO X293 hx hZ hown (W_ hw 5 rfl) (W_ hw 6 rfl) (W_ hw 7 rfl) rfl (g := (mkF m 260 #[iv x1, iv x2, iv x3, lv_ x4, s_, iv (1 : Int32), iv (2 : Int32), iv ch, u_, iv (-1 : Int32), rv r293, u_, u_, u_, u_] [])) rfl (hb hby at_260) (by decide) (by decide)
      obtain ⟨b295, g295⟩ : ∃ z, z = T293.heap.size := ⟨_, rfl⟩
      rw [← g295] at A295 D295 U295 st295
      have gn295 : n0 ≤ b295 := Nat.le_trans (old_le (O0.keep K293 all0)) (Nat.le_of_eq g295.symm)
      have hq296 := CHr.ext E295 hR294.1
      have hR296 := CHr.trans hR294 hq296
      have sf297 := Safe.ext E295 hR294.1 (Safe.new (Nat.le_of_eq g295.symm))
      have F295_coder : Fld Z h295 b295 "java/lang/String" "coder" "B" (.int (0 : Int32)) := D295 (Or.inr (W_ hw 31 rfl)) (ty := .byte) (by decide)
      have F295_value : Fld Z h295 b295 "java/lang/String" "value" "[B" .null := D295 (Or.inr (W_ hw 33 rfl)) (ty := (.array .byte)) (by decide)
      refine Goes.via (B := T295.setTop (mkF m 263 #[iv x1, iv x2, iv x3, lv_ x4, s_, iv (1 : Int32), iv (2 : Int32), iv ch, u_, iv (-1 : Int32), rv r293, u_, u_, u_, u_] [(.ref b295)])) (fun t k => st295 _ k) ?_
      refine Gv T295 264 [(.ref b295), (.ref b295)] (fun t k => XS.dup X295.here hx rfl (hb hby at_263) rfl rfl k) ?_
      refine Gv T295 266 [(.ref r293), (.ref b295), (.ref b295)] (fun t k => XS.aload X295.here hx rfl (hb hby at_264) rfl rfl k) ?_
      have hp298 : ∀ c ∈ ([(115 : Int32), (117 : Int32), (98 : Int32), (115 : Int32), (116 : Int32), (97 : Int32), (110 : Int32), (116 : Int32), (105 : Int32), (97 : Int32), (108 : Int32), ch] : List Int32), ¬ c < 0 ∧ ¬ (255 : Int32) < c := by
        intro c hc
        simp only [List.mem_cons, List.not_mem_nil, or_false] at hc
        rcases hc with rfl | rfl | rfl | rfl | rfl | rfl | rfl | rfl | rfl | rfl | rfl | rfl <;> first | exact ⟨by decide, by decide⟩ | exact hch
      obtain ⟨_, T299, L299, X299, ⟨rfl, M299, K299, E299, C299, t299, kb299, gn299, gs299, nx299, F299, V299⟩, st299⟩ := callInitB X295 hx hZ rfl hown (W_ hw 8 rfl) (W_ hw 9 rfl) (W_ hw 10 rfl) (by decide) (argsL := [(.ref r293)]) (rest := [(.ref b295)]) (W := 1) (StrChars.Road.backV (s := (s.setVm s.vm)) (W := 1) hZ (own_hw_words hw) (kI := 4) (W_ hw 6 rfl) (x := b295) (b := r293) (cs := ([(115 : Int32), (117 : Int32), (98 : Int32), (115 : Int32), (116 : Int32), (97 : Int32), (110 : Int32), (116 : Int32), (105 : Int32), (97 : Int32), (108 : Int32), ch] : List Int32)) (bs := ([(115 : Int32), (117 : Int32), (98 : Int32), (115 : Int32), (116 : Int32), (97 : Int32), (110 : Int32), (116 : Int32), (105 : Int32), (97 : Int32), (108 : Int32), ch] : List Int32).map (fun c => c.toInt8.toInt32)) (n := 12) gn295 (old_le ((O0.keep K293 all0).ext E295)) A295 F295_value F295_coder (f293_0.ext E295) (Sta.ext ((O0.keep K293 all0).ext E295).2 O_1) hz0 rfl rfl (by decide) (by decide) hp298 rfl (by decide) (by decide)) e295 (lenOf own_pd11 rfl) (pc := 266) (Ls := #[iv x1, iv x2, iv x3, lv_ x4, s_, iv (1 : Int32), iv (2 : Int32), iv ch, u_, iv (-1 : Int32), rv r293, u_, u_, u_, u_]) (st := [(.ref r293), (.ref b295), (.ref b295)]) rfl (by rw [hml]; rfl) (hb hby at_266) (Nat.le_of_eq rfl) (by decide) (by decide)
      have hq300 := CHr.keep K299 (sfS sf297 sf0) hR296.1
      have hR300 := CHr.trans hR296 hq300
      have N299 := Fr.app N293 M299
      refine Goes.via (B := T299.setTop (mkF m 269 #[iv x1, iv x2, iv x3, lv_ x4, s_, iv (1 : Int32), iv (2 : Int32), iv ch, u_, iv (-1 : Int32), rv r293, u_, u_, u_, u_] [(.ref b295)])) (fun t k => st299 _ k) ?_
      have w301 : Arv Z T299.heap t299 kb299 .byte (Int32.ofNat ([(115 : Int32), (117 : Int32), (98 : Int32), (115 : Int32), (116 : Int32), (97 : Int32), (110 : Int32), (116 : Int32), (105 : Int32), (97 : Int32), (108 : Int32), ch] : List Int32).length) ((([(115 : Int32), (117 : Int32), (98 : Int32), (115 : Int32), (116 : Int32), (97 : Int32), (110 : Int32), (116 : Int32), (105 : Int32), (97 : Int32), (108 : Int32), ch] : List Int32).map StrChars.lo8).map Value.int) (.int 0) := V299
      refine Gv T299 271 [] (fun t k => XS.astore X299.here hx rfl (hb hby at_269) rfl rfl (l' := #[iv x1, iv x2, iv x3, lv_ x4, s_, iv (1 : Int32), iv (2 : Int32), iv ch, rv b295, iv (-1 : Int32), rv r293, u_, u_, u_, u_]) rfl k) ?_
      obtain ⟨Xr302, hSr302, hZr302, hor302⟩ := rebase (cells := 8) (slots := 96) (X299.more (by decide) (by decide)) hS0 rfl (Nat.le_trans (Nat.le_trans (Nat.le_trans hk0 K293.1) E295.1) K299.1) hZ hown
      exact j3 T299 _ T299.heap Xr302 rfl N299 hSr302 hZr302 hor302 (CHr.trans hR300 (CHv.at X299 hZ hEL hR300.1)) b295 t299 kb299 ([(115 : Int32), (117 : Int32), (98 : Int32), (115 : Int32), (116 : Int32), (97 : Int32), (110 : Int32), (116 : Int32), (105 : Int32), (97 : Int32), (108 : Int32), ch] : List Int32) (-1 : Int32) r293 (((O0.keep K293 all0).ext E295).keep K299 (allS gn295 all0)) E299 F299 C299 w301 hp298 (by simp) (Or.inr (Or.inr (Or.inr ⟨⟨(fun z => by simp [own_low, own_sub, own_hig] at z), (fun z => by simp [own_low, own_sub, own_hig] at z), (fun z => by simp [own_low, own_sub, own_hig] at z)⟩, rfl⟩)))
    · obtain ⟨_, T303, L303, X303, ⟨r303, kr303, rfl, M303, K303, z303_0, f303_0⟩, st303⟩ := callStatic X0 hx hZ hown (W_ hw 0 rfl) (W_ hw 1 rfl) (W_ hw 2 rfl) (W_ hw 3 rfl) (by decide) (argsL := [(.int (1 : Int32)), (.int (3 : Int32)), (.int ch)]) (rest := []) (own_m22 l Z a0 hw [] ch h0 n0 O0 hch) e0 (lenOf own_pd10 rfl) (pc := 199) (Ls := #[iv x1, iv x2, iv x3, lv_ x4, s_, iv (1 : Int32), iv (3 : Int32), iv ch, u_, u_, u_, u_, u_, u_, u_]) (st := [(.int ch), (.int (3 : Int32)), (.int (1 : Int32))]) rfl (by rw [hml]; rfl) (hb hby at_199) (W := 0) (Nat.le_of_eq rfl) (by decide) (by decide) (by decide) (by decide)
      have N303 := Fr.app N0 M303
      have gn303_0 : n0 ≤ r303 := Nat.le_trans (old_le O0) z303_0
      have hq304 := CHr.keep K303 sf0 hR0.1
      have hR304 := CHr.trans hR0 hq304
      refine Goes.via (B := T303.setTop (mkF m 202 #[iv x1, iv x2, iv x3, lv_ x4, s_, iv (1 : Int32), iv (3 : Int32), iv ch, u_, u_, u_, u_, u_, u_, u_] [(.ref r303)])) (fun t k => st303 _ k) ?_
      refine Gv T303 204 [] (fun t k => XS.astore X303.here hx rfl (hb hby at_202) rfl rfl (l' := #[iv x1, iv x2, iv x3, lv_ x4, s_, iv (1 : Int32), iv (3 : Int32), iv ch, u_, u_, rv r303, u_, u_, u_, u_]) rfl k) ?_
      refine Gv T303 205 [(.int (-1 : Int32))] (fun t k => XS.iconst X303.here hx rfl (hb hby at_204) k) ?_
      refine Gv T303 207 [] (fun t k => XS.istore X303.here hx rfl (hb hby at_205) rfl (l' := #[iv x1, iv x2, iv x3, lv_ x4, s_, iv (1 : Int32), iv (3 : Int32), iv ch, u_, iv (-1 : Int32), rv r303, u_, u_, u_, u_]) rfl k) ?_
      refine Gv T303 209 [(.int (3 : Int32))] (fun t k => XS.iload X303.here hx rfl (hb hby at_207) rfl k) ?_
      refine Gv T303 219 [] (fun t k => XS.ifYes X303.here hx rfl (pc0 := 209) (pc' := 219) rfl (hb hby at_209) rfl (XT.i0_ne_t (by decide)) (by decide) (by decide) k) ?_
      refine Gv T303 221 [(.int (3 : Int32))] (fun t k => XS.iload X303.here hx rfl (hb hby at_219) rfl k) ?_
      refine Gv T303 222 [(.int (1 : Int32)), (.int (3 : Int32))] (fun t k => XS.iconst X303.here hx rfl (hb hby at_221) k) ?_
      refine Gv T303 260 [] (fun t k => XS.icmpYes X303.here hx rfl (pc0 := 222) (pc' := 260) rfl (hb hby at_222) rfl (XT.ii_ne_t (by decide)) (by decide) (by decide) k) ?_
      obtain ⟨T305, h305, X305, e305, E305, A305, D305, U305, st305⟩ := newO X303 hx hZ hown (W_ hw 5 rfl) (W_ hw 6 rfl) (W_ hw 7 rfl) rfl (g := (mkF m 260 #[iv x1, iv x2, iv x3, lv_ x4, s_, iv (1 : Int32), iv (3 : Int32), iv ch, u_, iv (-1 : Int32), rv r303, u_, u_, u_, u_] [])) rfl (hb hby at_260) (by decide) (by decide)
      obtain ⟨b305, g305⟩ : ∃ z, z = T303.heap.size := ⟨_, rfl⟩
      rw [← g305] at A305 D305 U305 st305
      have gn305 : n0 ≤ b305 := Nat.le_trans (old_le (O0.keep K303 all0)) (Nat.le_of_eq g305.symm)
      have hq306 := CHr.ext E305 hR304.1
      have hR306 := CHr.trans hR304 hq306
      have sf307 := Safe.ext E305 hR304.1 (Safe.new (Nat.le_of_eq g305.symm))
      have F305_coder : Fld Z h305 b305 "java/lang/String" "coder" "B" (.int (0 : Int32)) := D305 (Or.inr (W_ hw 31 rfl)) (ty := .byte) (by decide)
      have F305_value : Fld Z h305 b305 "java/lang/String" "value" "[B" .null := D305 (Or.inr (W_ hw 33 rfl)) (ty := (.array .byte)) (by decide)
      refine Goes.via (B := T305.setTop (mkF m 263 #[iv x1, iv x2, iv x3, lv_ x4, s_, iv (1 : Int32), iv (3 : Int32), iv ch, u_, iv (-1 : Int32), rv r303, u_, u_, u_, u_] [(.ref b305)])) (fun t k => st305 _ k) ?_
      refine Gv T305 264 [(.ref b305), (.ref b305)] (fun t k => XS.dup X305.here hx rfl (hb hby at_263) rfl rfl k) ?_
      refine Gv T305 266 [(.ref r303), (.ref b305), (.ref b305)] (fun t k => XS.aload X305.here hx rfl (hb hby at_264) rfl rfl k) ?_
      have hp308 : ∀ c ∈ ([(115 : Int32), (117 : Int32), (98 : Int32), (115 : Int32), (116 : Int32), (97 : Int32), (110 : Int32), (116 : Int32), (105 : Int32), (97 : Int32)] : List Int32), ¬ c < 0 ∧ ¬ (255 : Int32) < c := by
        intro c hc
        simp only [List.mem_cons, List.not_mem_nil, or_false] at hc
        rcases hc with rfl | rfl | rfl | rfl | rfl | rfl | rfl | rfl | rfl | rfl <;> first | exact ⟨by decide, by decide⟩ | skip
      obtain ⟨_, T309, L309, X309, ⟨rfl, M309, K309, E309, C309, t309, kb309, gn309, gs309, nx309, F309, V309⟩, st309⟩ := callInitB X305 hx hZ rfl hown (W_ hw 8 rfl) (W_ hw 9 rfl) (W_ hw 10 rfl) (by decide) (argsL := [(.ref r303)]) (rest := [(.ref b305)]) (W := 1) (StrChars.Road.backV (s := (s.setVm s.vm)) (W := 1) hZ (own_hw_words hw) (kI := 4) (W_ hw 6 rfl) (x := b305) (b := r303) (cs := ([(115 : Int32), (117 : Int32), (98 : Int32), (115 : Int32), (116 : Int32), (97 : Int32), (110 : Int32), (116 : Int32), (105 : Int32), (97 : Int32)] : List Int32)) (bs := ([(115 : Int32), (117 : Int32), (98 : Int32), (115 : Int32), (116 : Int32), (97 : Int32), (110 : Int32), (116 : Int32), (105 : Int32), (97 : Int32)] : List Int32).map (fun c => c.toInt8.toInt32)) (n := 10) gn305 (old_le ((O0.keep K303 all0).ext E305)) A305 F305_value F305_coder (f303_0.ext E305) (Sta.ext ((O0.keep K303 all0).ext E305).2 O_1) hz0 rfl rfl (by decide) (by decide) hp308 rfl (by decide) (by decide)) e305 (lenOf own_pd11 rfl) (pc := 266) (Ls := #[iv x1, iv x2, iv x3, lv_ x4, s_, iv (1 : Int32), iv (3 : Int32), iv ch, u_, iv (-1 : Int32), rv r303, u_, u_, u_, u_]) (st := [(.ref r303), (.ref b305), (.ref b305)]) rfl (by rw [hml]; rfl) (hb hby at_266) (Nat.le_of_eq rfl) (by decide) (by decide)
      have hq310 := CHr.keep K309 (sfS sf307 sf0) hR306.1
      have hR310 := CHr.trans hR306 hq310
      have N309 := Fr.app N303 M309
      refine Goes.via (B := T309.setTop (mkF m 269 #[iv x1, iv x2, iv x3, lv_ x4, s_, iv (1 : Int32), iv (3 : Int32), iv ch, u_, iv (-1 : Int32), rv r303, u_, u_, u_, u_] [(.ref b305)])) (fun t k => st309 _ k) ?_
      have w311 : Arv Z T309.heap t309 kb309 .byte (Int32.ofNat ([(115 : Int32), (117 : Int32), (98 : Int32), (115 : Int32), (116 : Int32), (97 : Int32), (110 : Int32), (116 : Int32), (105 : Int32), (97 : Int32)] : List Int32).length) ((([(115 : Int32), (117 : Int32), (98 : Int32), (115 : Int32), (116 : Int32), (97 : Int32), (110 : Int32), (116 : Int32), (105 : Int32), (97 : Int32)] : List Int32).map StrChars.lo8).map Value.int) (.int 0) := V309
      refine Gv T309 271 [] (fun t k => XS.astore X309.here hx rfl (hb hby at_269) rfl rfl (l' := #[iv x1, iv x2, iv x3, lv_ x4, s_, iv (1 : Int32), iv (3 : Int32), iv ch, rv b305, iv (-1 : Int32), rv r303, u_, u_, u_, u_]) rfl k) ?_
      obtain ⟨Xr312, hSr312, hZr312, hor312⟩ := rebase (cells := 8) (slots := 96) (X309.more (by decide) (by decide)) hS0 rfl (Nat.le_trans (Nat.le_trans (Nat.le_trans hk0 K303.1) E305.1) K309.1) hZ hown
      exact j3 T309 _ T309.heap Xr312 rfl N309 hSr312 hZr312 hor312 (CHr.trans hR310 (CHv.at X309 hZ hEL hR310.1)) b305 t309 kb309 ([(115 : Int32), (117 : Int32), (98 : Int32), (115 : Int32), (116 : Int32), (97 : Int32), (110 : Int32), (116 : Int32), (105 : Int32), (97 : Int32)] : List Int32) (-1 : Int32) r303 (((O0.keep K303 all0).ext E305).keep K309 (allS gn305 all0)) E309 F309 C309 w311 hp308 (by decide) (Or.inr (Or.inr (Or.inr ⟨⟨(fun z => by simp [own_low, own_sub, own_hig] at z), (fun z => by simp [own_low, own_sub, own_hig] at z), (fun z => by simp [own_low, own_sub, own_hig] at z)⟩, rfl⟩)))
  · refine Gv s₁ 22 [(.int (2 : Int32))] (fun t k => XS.iload X0.here hx rfl (hb hby at_20) rfl k) ?_
    refine Gv s₁ 23 [(.int (3 : Int32)), (.int (2 : Int32))] (fun t k => XS.iconst X0.here hx rfl (hb hby at_22) k) ?_
    refine Gv s₁ 193 [] (fun t k => XS.icmpYes X0.here hx rfl (pc0 := 23) (pc' := 193) rfl (hb hby at_23) rfl (XT.ii_ne_t (by decide)) (by decide) (by decide) k) ?_
    refine Gv s₁ 195 [(.int (2 : Int32))] (fun t k => XS.iload X0.here hx rfl (hb hby at_193) rfl k) ?_
    refine Gv s₁ 197 [(.int ee), (.int (2 : Int32))] (fun t k => XS.iload X0.here hx rfl (hb hby at_195) rfl k) ?_
    refine Gv s₁ 199 [(.int ch), (.int ee), (.int (2 : Int32))] (fun t k => XS.iload X0.here hx rfl (hb hby at_197) rfl k) ?_
    rcases hee with rfl | rfl | rfl | rfl
    · obtain ⟨_, T313, L313, X313, ⟨r313, kr313, rfl, M313, K313, z313_0, f313_0⟩, st313⟩ := callStatic X0 hx hZ hown (W_ hw 0 rfl) (W_ hw 1 rfl) (W_ hw 2 rfl) (W_ hw 3 rfl) (by decide) (argsL := [(.int (2 : Int32)), (.int (0 : Int32)), (.int ch)]) (rest := []) (own_m23 l Z a0 hw [] ch (0 : Int32) h0 n0 O0 hch (by decide) (by decide)) e0 (lenOf own_pd10 rfl) (pc := 199) (Ls := #[iv x1, iv x2, iv x3, lv_ x4, s_, iv (2 : Int32), iv (0 : Int32), iv ch, u_, u_, u_, u_, u_, u_, u_]) (st := [(.int ch), (.int (0 : Int32)), (.int (2 : Int32))]) rfl (by rw [hml]; rfl) (hb hby at_199) (W := 0) (Nat.le_of_eq rfl) (by decide) (by decide) (by decide) (by decide)
      have N313 := Fr.app N0 M313
      have gn313_0 : n0 ≤ r313 := Nat.le_trans (old_le O0) z313_0
      have hq314 := CHr.keep K313 sf0 hR0.1
      have hR314 := CHr.trans hR0 hq314
      refine Goes.via (B := T313.setTop (mkF m 202 #[iv x1, iv x2, iv x3, lv_ x4, s_, iv (2 : Int32), iv (0 : Int32), iv ch, u_, u_, u_, u_, u_, u_, u_] [(.ref r313)])) (fun t k => st313 _ k) ?_
      refine Gv T313 204 [] (fun t k => XS.astore X313.here hx rfl (hb hby at_202) rfl rfl (l' := #[iv x1, iv x2, iv x3, lv_ x4, s_, iv (2 : Int32), iv (0 : Int32), iv ch, u_, u_, rv r313, u_, u_, u_, u_]) rfl k) ?_
      refine Gv T313 205 [(.int (-1 : Int32))] (fun t k => XS.iconst X313.here hx rfl (hb hby at_204) k) ?_
      refine Gv T313 207 [] (fun t k => XS.istore X313.here hx rfl (hb hby at_205) rfl (l' := #[iv x1, iv x2, iv x3, lv_ x4, s_, iv (2 : Int32), iv (0 : Int32), iv ch, u_, iv (-1 : Int32), rv r313, u_, u_, u_, u_]) rfl k) ?_
      refine Gv T313 209 [(.int (0 : Int32))] (fun t k => XS.iload X313.here hx rfl (hb hby at_207) rfl k) ?_
      refine Gv T313 212 [] (fun t k => XS.ifNo X313.here hx rfl (hb hby at_209) rfl (XT.i0_ne_f rfl) k) ?_
      refine Gv T313 214 [(.int (2 : Int32))] (fun t k => XS.iload X313.here hx rfl (hb hby at_212) rfl k) ?_
      refine Gv T313 216 [] (fun t k => XS.istore X313.here hx rfl (hb hby at_214) rfl (l' := #[iv x1, iv x2, iv x3, lv_ x4, s_, iv (2 : Int32), iv (0 : Int32), iv ch, u_, iv (2 : Int32), rv r313, u_, u_, u_, u_]) rfl k) ?_
      refine Gv T313 260 [] (fun t k => XS.goto X313.here hx rfl (pc0 := 216) (pc' := 260) rfl (hb hby at_216) (by decide) (by decide) k) ?_
      obtain ⟨T315, h315, X315, e315, E315, A315, D315, U315, st315⟩ := newO X313 hx hZ hown (W_ hw 5 rfl) (W_ hw 6 rfl) (W_ hw 7 rfl) rfl (g := (mkF m 260 #[iv x1, iv x2, iv x3, lv_ x4, s_, iv (2 : Int32), iv (0 : Int32), iv ch, u_, iv (2 : Int32), rv r313, u_, u_, u_, u_] [])) rfl (hb hby at_260) (by decide) (by decide)
      obtain ⟨b315, g315⟩ : ∃ z, z = T313.heap.size := ⟨_, rfl⟩
      rw [← g315] at A315 D315 U315 st315
      have gn315 : n0 ≤ b315 := Nat.le_trans (old_le (O0.keep K313 all0)) (Nat.le_of_eq g315.symm)
      have hq316 := CHr.ext E315 hR314.1
      have hR316 := CHr.trans hR314 hq316
      have sf317 := Safe.ext E315 hR314.1 (Safe.new (Nat.le_of_eq g315.symm))
      have F315_coder : Fld Z h315 b315 "java/lang/String" "coder" "B" (.int (0 : Int32)) := D315 (Or.inr (W_ hw 31 rfl)) (ty := .byte) (by decide)
      have F315_value : Fld Z h315 b315 "java/lang/String" "value" "[B" .null := D315 (Or.inr (W_ hw 33 rfl)) (ty := (.array .byte)) (by decide)
      refine Goes.via (B := T315.setTop (mkF m 263 #[iv x1, iv x2, iv x3, lv_ x4, s_, iv (2 : Int32), iv (0 : Int32), iv ch, u_, iv (2 : Int32), rv r313, u_, u_, u_, u_] [(.ref b315)])) (fun t k => st315 _ k) ?_
      refine Gv T315 264 [(.ref b315), (.ref b315)] (fun t k => XS.dup X315.here hx rfl (hb hby at_263) rfl rfl k) ?_
      refine Gv T315 266 [(.ref r313), (.ref b315), (.ref b315)] (fun t k => XS.aload X315.here hx rfl (hb hby at_264) rfl rfl k) ?_
      have hp318 : ∀ c ∈ ([(104 : Int32), (105 : Int32), (103 : Int32), (104 : Int32)] : List Int32), ¬ c < 0 ∧ ¬ (255 : Int32) < c := by
        intro c hc
        simp only [List.mem_cons, List.not_mem_nil, or_false] at hc
        rcases hc with rfl | rfl | rfl | rfl <;> first | exact ⟨by decide, by decide⟩ | skip
      obtain ⟨_, T319, L319, X319, ⟨rfl, M319, K319, E319, C319, t319, kb319, gn319, gs319, nx319, F319, V319⟩, st319⟩ := callInitB X315 hx hZ rfl hown (W_ hw 8 rfl) (W_ hw 9 rfl) (W_ hw 10 rfl) (by decide) (argsL := [(.ref r313)]) (rest := [(.ref b315)]) (W := 1) (StrChars.Road.backV (s := (s.setVm s.vm)) (W := 1) hZ (own_hw_words hw) (kI := 4) (W_ hw 6 rfl) (x := b315) (b := r313) (cs := ([(104 : Int32), (105 : Int32), (103 : Int32), (104 : Int32)] : List Int32)) (bs := ([(104 : Int32), (105 : Int32), (103 : Int32), (104 : Int32)] : List Int32).map (fun c => c.toInt8.toInt32)) (n := 4) gn315 (old_le ((O0.keep K313 all0).ext E315)) A315 F315_value F315_coder (f313_0.ext E315) (Sta.ext ((O0.keep K313 all0).ext E315).2 O_1) hz0 rfl rfl (by decide) (by decide) hp318 rfl (by decide) (by decide)) e315 (lenOf own_pd11 rfl) (pc := 266) (Ls := #[iv x1, iv x2, iv x3, lv_ x4, s_, iv (2 : Int32), iv (0 : Int32), iv ch, u_, iv (2 : Int32), rv r313, u_, u_, u_, u_]) (st := [(.ref r313), (.ref b315), (.ref b315)]) rfl (by rw [hml]; rfl) (hb hby at_266) (Nat.le_of_eq rfl) (by decide) (by decide)
      have hq320 := CHr.keep K319 (sfS sf317 sf0) hR316.1
      have hR320 := CHr.trans hR316 hq320
      have N319 := Fr.app N313 M319
      refine Goes.via (B := T319.setTop (mkF m 269 #[iv x1, iv x2, iv x3, lv_ x4, s_, iv (2 : Int32), iv (0 : Int32), iv ch, u_, iv (2 : Int32), rv r313, u_, u_, u_, u_] [(.ref b315)])) (fun t k => st319 _ k) ?_
      have w321 : Arv Z T319.heap t319 kb319 .byte (Int32.ofNat ([(104 : Int32), (105 : Int32), (103 : Int32), (104 : Int32)] : List Int32).length) ((([(104 : Int32), (105 : Int32), (103 : Int32), (104 : Int32)] : List Int32).map StrChars.lo8).map Value.int) (.int 0) := V319
      refine Gv T319 271 [] (fun t k => XS.astore X319.here hx rfl (hb hby at_269) rfl rfl (l' := #[iv x1, iv x2, iv x3, lv_ x4, s_, iv (2 : Int32), iv (0 : Int32), iv ch, rv b315, iv (2 : Int32), rv r313, u_, u_, u_, u_]) rfl k) ?_
      obtain ⟨Xr322, hSr322, hZr322, hor322⟩ := rebase (cells := 8) (slots := 96) (X319.more (by decide) (by decide)) hS0 rfl (Nat.le_trans (Nat.le_trans (Nat.le_trans hk0 K313.1) E315.1) K319.1) hZ hown
      exact j3 T319 _ T319.heap Xr322 rfl N319 hSr322 hZr322 hor322 (CHr.trans hR320 (CHv.at X319 hZ hEL hR320.1)) b315 t319 kb319 ([(104 : Int32), (105 : Int32), (103 : Int32), (104 : Int32)] : List Int32) (2 : Int32) r313 (((O0.keep K313 all0).ext E315).keep K319 (allS gn315 all0)) E319 F319 C319 w321 hp318 (by decide) (Or.inr (Or.inr (Or.inl ⟨rfl, rfl⟩)))
    · obtain ⟨_, T323, L323, X323, ⟨r323, kr323, rfl, M323, K323, z323_0, f323_0⟩, st323⟩ := callStatic X0 hx hZ hown (W_ hw 0 rfl) (W_ hw 1 rfl) (W_ hw 2 rfl) (W_ hw 3 rfl) (by decide) (argsL := [(.int (2 : Int32)), (.int (1 : Int32)), (.int ch)]) (rest := []) (own_m23 l Z a0 hw [] ch (1 : Int32) h0 n0 O0 hch (by decide) (by decide)) e0 (lenOf own_pd10 rfl) (pc := 199) (Ls := #[iv x1, iv x2, iv x3, lv_ x4, s_, iv (2 : Int32), iv (1 : Int32), iv ch, u_, u_, u_, u_, u_, u_, u_]) (st := [(.int ch), (.int (1 : Int32)), (.int (2 : Int32))]) rfl (by rw [hml]; rfl) (hb hby at_199) (W := 0) (Nat.le_of_eq rfl) (by decide) (by decide) (by decide) (by decide)
      have N323 := Fr.app N0 M323
      have gn323_0 : n0 ≤ r323 := Nat.le_trans (old_le O0) z323_0
      have hq324 := CHr.keep K323 sf0 hR0.1
      have hR324 := CHr.trans hR0 hq324
      refine Goes.via (B := T323.setTop (mkF m 202 #[iv x1, iv x2, iv x3, lv_ x4, s_, iv (2 : Int32), iv (1 : Int32), iv ch, u_, u_, u_, u_, u_, u_, u_] [(.ref r323)])) (fun t k => st323 _ k) ?_
      refine Gv T323 204 [] (fun t k => XS.astore X323.here hx rfl (hb hby at_202) rfl rfl (l' := #[iv x1, iv x2, iv x3, lv_ x4, s_, iv (2 : Int32), iv (1 : Int32), iv ch, u_, u_, rv r323, u_, u_, u_, u_]) rfl k) ?_
      refine Gv T323 205 [(.int (-1 : Int32))] (fun t k => XS.iconst X323.here hx rfl (hb hby at_204) k) ?_
      refine Gv T323 207 [] (fun t k => XS.istore X323.here hx rfl (hb hby at_205) rfl (l' := #[iv x1, iv x2, iv x3, lv_ x4, s_, iv (2 : Int32), iv (1 : Int32), iv ch, u_, iv (-1 : Int32), rv r323, u_, u_, u_, u_]) rfl k) ?_
      refine Gv T323 209 [(.int (1 : Int32))] (fun t k => XS.iload X323.here hx rfl (hb hby at_207) rfl k) ?_
      refine Gv T323 219 [] (fun t k => XS.ifYes X323.here hx rfl (pc0 := 209) (pc' := 219) rfl (hb hby at_209) rfl (XT.i0_ne_t (by decide)) (by decide) (by decide) k) ?_
      refine Gv T323 221 [(.int (1 : Int32))] (fun t k => XS.iload X323.here hx rfl (hb hby at_219) rfl k) ?_
      refine Gv T323 222 [(.int (1 : Int32)), (.int (1 : Int32))] (fun t k => XS.iconst X323.here hx rfl (hb hby at_221) k) ?_
      refine Gv T323 225 [] (fun t k => XS.icmpNo X323.here hx rfl (hb hby at_222) rfl (XT.ii_ne_f rfl) k) ?_
      refine Gv T323 226 [(.int x2)] (fun t k => XS.iloadN X323.here hx rfl (hb hby at_225) rfl k) ?_
      refine Goes.via (B := T323.setTop (mkF m 228 #[iv x1, iv x2, iv x3, lv_ x4, s_, iv (2 : Int32), iv (1 : Int32), iv ch, u_, iv (-1 : Int32), rv r323, u_, u_, u_, u_] [(.int (2147483647 : Int32)), (.int x2)])) (fun t k => X323.ldcI hx hown (mvT hZ (W_ hw 98 rfl)) rfl (hb hby at_226) k) ?_
      refine Gv T323 229 [(.int (x2 &&& (2147483647 : Int32)))] (fun t k => XS.iand X323.here hx rfl (hb hby at_228) rfl k) ?_
      refine Gv T323 231 [(.ref r323), (.int (x2 &&& (2147483647 : Int32)))] (fun t k => XS.aload X323.here hx rfl (hb hby at_229) rfl rfl k) ?_
      obtain ⟨cl325, Ar325, q325, S325, N325, H325, G325⟩ := id f323_0
      refine Goes.via (B := T323.setTop (mkF m 232 #[iv x1, iv x2, iv x3, lv_ x4, s_, iv (2 : Int32), iv (1 : Int32), iv ch, u_, iv (-1 : Int32), rv r323, u_, u_, u_, u_] [(.int (4 : Int32)), (.int (x2 &&& (2147483647 : Int32)))])) (fun t k => X323.arraylength hx (Ar325.1) (State.isArrayOf_alike hZ.alike Ar325.2.1) (g := (mkF m 231 #[iv x1, iv x2, iv x3, lv_ x4, s_, iv (2 : Int32), iv (1 : Int32), iv ch, u_, iv (-1 : Int32), rv r323, u_, u_, u_, u_] [(.ref r323), (.int (x2 &&& (2147483647 : Int32)))])) rfl rfl (hb hby at_231) t (by rw [(len_of S325 N325)]; exact k)) ?_
      refine Goes.via (B := T323.setTop (mkF m 233 #[iv x1, iv x2, iv x3, lv_ x4, s_, iv (2 : Int32), iv (1 : Int32), iv ch, u_, iv (-1 : Int32), rv r323, u_, u_, u_, u_] [(.int ((x2 &&& (2147483647 : Int32)) % (4 : Int32)))])) (fun t k => iremM X323 hx rfl (hb hby at_232) rfl (by decide) k) ?_
      refine Gv T323 235 [] (fun t k => XS.istore X323.here hx rfl (hb hby at_233) rfl (l' := #[iv x1, iv x2, iv x3, lv_ x4, s_, iv (2 : Int32), iv (1 : Int32), iv ch, u_, iv (-1 : Int32), rv r323, iv ((x2 &&& (2147483647 : Int32)) % (4 : Int32)), u_, u_, u_]) rfl k) ?_
      suffices J326 : ∀ (ix : Int32) (hix : ix = 0 ∨ ix = 1 ∨ ix = 2 ∨ ix = 3), Goes p.tables e below (fun t o => ∃ v L, o = .returned v ∧ (own_Q31 Z x1 x2 x3 x4 z0 oe va kv aL sL tL kL aS sS tS kS aH sH tH kH h0 n0) v t.heap L ∧ EndH Z consts_1 s o t L (room_1).cells (room_1).slots) (T323.setTop (mkF m 235 #[iv x1, iv x2, iv x3, lv_ x4, s_, iv (2 : Int32), iv (1 : Int32), iv ch, u_, iv (-1 : Int32), rv r323, iv ix, u_, u_, u_] [])) by exact J326 ((x2 &&& (2147483647 : Int32)) % (4 : Int32)) (own_rem4 (c_and _ _ (by decide)).1)
      intro ix hix
      rcases hix with rfl | rfl | rfl | rfl
      · refine Gv T323 237 [(.ref r323)] (fun t k => XS.aload X323.here hx rfl (hb hby at_235) rfl rfl k) ?_
        refine Gv T323 239 [(.int (0 : Int32)), (.ref r323)] (fun t k => XS.iload X323.here hx rfl (hb hby at_237) rfl k) ?_
        obtain ⟨cl327, Ar327, q327, S327, N327, H327, G327⟩ := id f323_0
        have hin327 := inb_of (j := (0 : Int32)) S327 ⟨by decide, by decide⟩
        refine Goes.via (B := T323.setTop (mkF m 240 #[iv x1, iv x2, iv x3, lv_ x4, s_, iv (2 : Int32), iv (1 : Int32), iv ch, u_, iv (-1 : Int32), rv r323, iv (0 : Int32), u_, u_, u_] [(.int (104 : Int32))])) (fun t k => X323.caload hx (j := (0 : Int32)) (v := (.int (104 : Int32))) (Ar327.1) (State.isArrayOf_alike hZ.alike Ar327.2.1) Ar327.2.2 hin327 (H327.at hin327 rfl) (g := (mkF m 239 #[iv x1, iv x2, iv x3, lv_ x4, s_, iv (2 : Int32), iv (1 : Int32), iv ch, u_, iv (-1 : Int32), rv r323, iv (0 : Int32), u_, u_, u_] [(.int (0 : Int32)), (.ref r323)])) rfl rfl (hb hby at_239) t k) ?_
        refine Gv T323 242 [] (fun t k => XS.istore X323.here hx rfl (hb hby at_240) rfl (l' := #[iv x1, iv x2, iv x3, lv_ x4, s_, iv (2 : Int32), iv (1 : Int32), iv ch, u_, iv (-1 : Int32), rv r323, iv (0 : Int32), iv (104 : Int32), u_, u_]) rfl k) ?_
        refine Gv T323 244 [(.ref r323)] (fun t k => XS.aload X323.here hx rfl (hb hby at_242) rfl rfl k) ?_
        refine Gv T323 246 [(.int (0 : Int32)), (.ref r323)] (fun t k => XS.iload X323.here hx rfl (hb hby at_244) rfl k) ?_
        refine Gv T323 248 [(.int ch), (.int (0 : Int32)), (.ref r323)] (fun t k => XS.iload X323.here hx rfl (hb hby at_246) rfl k) ?_
        obtain ⟨cl328, Ar328, q328, S328, N328, H328, G328⟩ := id f323_0
        obtain ⟨T328, h328, X328, e328, W328, st328⟩ := stC X323 hx hZ rfl Ar328 (j := (0 : Int32)) (inb_of S328 ⟨by decide, by decide⟩) (g := (mkF m 248 #[iv x1, iv x2, iv x3, lv_ x4, s_, iv (2 : Int32), iv (1 : Int32), iv ch, u_, iv (-1 : Int32), rv r323, iv (0 : Int32), iv (104 : Int32), u_, u_] [(.int ch), (.int (0 : Int32)), (.ref r323)])) rfl rfl (hb hby at_248)
        have wn328 : nar .char ch = ch := own_i2c hch
        have fn328 : fits .char (.int ch) = true := by rw [← wn328]; exact fits_nar_char _
        rw [wn328] at W328
        have Nf328 := Fr.snoc X328 N323 gn323_0
        have hq329 := CHr.wr W328 (Safe.arv hZ.alike f323_0 (by decide)) hR324.1
        have hR329 := CHr.trans hR324 hq329
        have V328 : Arv Z h328 r323 kr323 .char (4 : Int32) [(.int ch), (.int (105 : Int32)), (.int (103 : Int32)), (.int (104 : Int32))] (.int (0 : Int32)) := Arv.set Ar328 q328 S328 N328 H328 G328 fn328 W328 0 rfl (Nat.le_of_ble_eq_true rfl)
        refine Goes.via (B := T328.setTop (mkF m 249 #[iv x1, iv x2, iv x3, lv_ x4, s_, iv (2 : Int32), iv (1 : Int32), iv ch, u_, iv (-1 : Int32), rv r323, iv (0 : Int32), iv (104 : Int32), u_, u_] [])) (fun t k => st328 _ k) ?_
        refine Gv T328 251 [(.int (104 : Int32))] (fun t k => XS.iload X328.here hx rfl (hb hby at_249) rfl k) ?_
        refine Gv T328 253 [(.int ch), (.int (104 : Int32))] (fun t k => XS.iload X328.here hx rfl (hb hby at_251) rfl k) ?_
        have j330 : ∀ (ew : Int32) (hew : (([ch, (105 : Int32), (103 : Int32), (104 : Int32)] : List Int32) = own_low ∧ ew = (0 : Int32)) ∨ (([ch, (105 : Int32), (103 : Int32), (104 : Int32)] : List Int32) = own_sub ∧ ew = (1 : Int32)) ∨ (([ch, (105 : Int32), (103 : Int32), (104 : Int32)] : List Int32) = own_hig ∧ ew = (2 : Int32)) ∨ ((¬ ([ch, (105 : Int32), (103 : Int32), (104 : Int32)] : List Int32) = own_low ∧ ¬ ([ch, (105 : Int32), (103 : Int32), (104 : Int32)] : List Int32) = own_sub ∧ ¬ ([ch, (105 : Int32), (103 : Int32), (104 : Int32)] : List Int32) = own_hig) ∧ ew = (-1 : Int32))) , Goes p.tables e below (fun t o => ∃ v L, o = .returned v ∧ (own_Q31 Z x1 x2 x3 x4 z0 oe va kv aL sL tL kL aS sS tS kS aH sH tH kH h0 n0) v t.heap L ∧ EndH Z consts_1 s o t L (room_1).cells (room_1).slots) (T328.setTop (mkF m 260 #[iv x1, iv x2, iv x3, lv_ x4, s_, iv (2 : Int32), iv (1 : Int32), iv ch, u_, iv ew, rv r323, iv (0 : Int32), iv (104 : Int32), u_, u_] [])) := by
          intro ew hew
          obtain ⟨T332, h332, X332, e332, E332, A332, D332, U332, st332⟩ := newO X328 hx hZ hown (W_ hw 5 rfl) (W_ hw 6 rfl) (W_ hw 7 rfl) e328 (g := (mkF m 260 #[iv x1, iv x2, iv x3, lv_ x4, s_, iv (2 : Int32), iv (1 : Int32), iv ch, u_, iv ew, rv r323, iv (0 : Int32), iv (104 : Int32), u_, u_] [])) rfl (hb hby at_260) (by decide) (by decide)
          obtain ⟨b332, g332⟩ : ∃ z, z = h328.size := ⟨_, rfl⟩
          rw [← g332] at A332 D332 U332 st332
          have gn332 : n0 ≤ b332 := Nat.le_trans (old_le ((O0.keep K323 all0).wr W328 gn323_0)) (Nat.le_of_eq g332.symm)
          have hq333 := CHr.ext E332 hR329.1
          have hR333 := CHr.trans hR329 hq333
          have sf334 := Safe.ext E332 hR329.1 (Safe.new (Nat.le_of_eq g332.symm))
          have F332_coder : Fld Z h332 b332 "java/lang/String" "coder" "B" (.int (0 : Int32)) := D332 (Or.inr (W_ hw 31 rfl)) (ty := .byte) (by decide)
          have F332_value : Fld Z h332 b332 "java/lang/String" "value" "[B" .null := D332 (Or.inr (W_ hw 33 rfl)) (ty := (.array .byte)) (by decide)
          refine Goes.via (B := T332.setTop (mkF m 263 #[iv x1, iv x2, iv x3, lv_ x4, s_, iv (2 : Int32), iv (1 : Int32), iv ch, u_, iv ew, rv r323, iv (0 : Int32), iv (104 : Int32), u_, u_] [(.ref b332)])) (fun t k => st332 _ k) ?_
          refine Gv T332 264 [(.ref b332), (.ref b332)] (fun t k => XS.dup X332.here hx rfl (hb hby at_263) rfl rfl k) ?_
          refine Gv T332 266 [(.ref r323), (.ref b332), (.ref b332)] (fun t k => XS.aload X332.here hx rfl (hb hby at_264) rfl rfl k) ?_
          have hp335 : ∀ c ∈ ([ch, (105 : Int32), (103 : Int32), (104 : Int32)] : List Int32), ¬ c < 0 ∧ ¬ (255 : Int32) < c := by
            intro c hc
            simp only [List.mem_cons, List.not_mem_nil, or_false] at hc
            rcases hc with rfl | rfl | rfl | rfl <;> first | exact ⟨by decide, by decide⟩ | exact hch
          obtain ⟨_, T336, L336, X336, ⟨rfl, M336, K336, E336, C336, t336, kb336, gn336, gs336, nx336, F336, V336⟩, st336⟩ := callInitB X332 hx hZ rfl hown (W_ hw 8 rfl) (W_ hw 9 rfl) (W_ hw 10 rfl) (by decide) (argsL := [(.ref r323)]) (rest := [(.ref b332)]) (W := 1) (StrChars.Road.backV (s := (s.setVm s.vm)) (W := 1) hZ (own_hw_words hw) (kI := 4) (W_ hw 6 rfl) (x := b332) (b := r323) (cs := ([ch, (105 : Int32), (103 : Int32), (104 : Int32)] : List Int32)) (bs := ([ch, (105 : Int32), (103 : Int32), (104 : Int32)] : List Int32).map (fun c => c.toInt8.toInt32)) (n := 4) gn332 (old_le (((O0.keep K323 all0).wr W328 gn323_0).ext E332)) A332 F332_value F332_coder (V328.ext E332) (Sta.ext (((O0.keep K323 all0).wr W328 gn323_0).ext E332).2 O_1) hz0 rfl rfl (by decide) (by decide) hp335 rfl (by decide) (by decide)) e332 (lenOf own_pd11 rfl) (pc := 266) (Ls := #[iv x1, iv x2, iv x3, lv_ x4, s_, iv (2 : Int32), iv (1 : Int32), iv ch, u_, iv ew, rv r323, iv (0 : Int32), iv (104 : Int32), u_, u_]) (st := [(.ref r323), (.ref b332), (.ref b332)]) rfl (by rw [hml]; rfl) (hb hby at_266) (Nat.le_of_eq rfl) (by decide) (by decide)
          have hq337 := CHr.keep K336 (sfS sf334 sf0) hR333.1
          have hR337 := CHr.trans hR333 hq337
          have N336 := Fr.app Nf328 M336
          refine Goes.via (B := T336.setTop (mkF m 269 #[iv x1, iv x2, iv x3, lv_ x4, s_, iv (2 : Int32), iv (1 : Int32), iv ch, u_, iv ew, rv r323, iv (0 : Int32), iv (104 : Int32), u_, u_] [(.ref b332)])) (fun t k => st336 _ k) ?_
          have w338 : Arv Z T336.heap t336 kb336 .byte (Int32.ofNat ([ch, (105 : Int32), (103 : Int32), (104 : Int32)] : List Int32).length) ((([ch, (105 : Int32), (103 : Int32), (104 : Int32)] : List Int32).map StrChars.lo8).map Value.int) (.int 0) := V336
          refine Gv T336 271 [] (fun t k => XS.astore X336.here hx rfl (hb hby at_269) rfl rfl (l' := #[iv x1, iv x2, iv x3, lv_ x4, s_, iv (2 : Int32), iv (1 : Int32), iv ch, rv b332, iv ew, rv r323, iv (0 : Int32), iv (104 : Int32), u_, u_]) rfl k) ?_
          obtain ⟨Xr339, hSr339, hZr339, hor339⟩ := rebase (cells := 8) (slots := 96) (X336.more (by decide) (by decide)) hS0 rfl (Nat.le_trans (Nat.le_trans (Nat.le_trans (Nat.le_trans hk0 K323.1) (Nat.le_of_eq (Wr.size W328).symm)) E332.1) K336.1) hZ hown
          exact j26 T336 _ T336.heap Xr339 rfl N336 hSr339 hZr339 hor339 (CHr.trans hR337 (CHv.at X336 hZ hEL hR337.1)) b332 t336 kb336 ([ch, (105 : Int32), (103 : Int32), (104 : Int32)] : List Int32) ew r323 (0 : Int32) (104 : Int32) ((((O0.keep K323 all0).wr W328 gn323_0).ext E332).keep K336 (allS gn332 all0)) E336 F336 C336 w338 hp335 (by simp) hew
        by_cases b340 : (104 : Int32) = ch
        · refine Gv T328 256 [] (fun t k => XS.icmpNo X328.here hx rfl (hb hby at_253) rfl (XT.ii_ne_f b340) k) ?_
          refine Gv T328 258 [(.int (2 : Int32))] (fun t k => XS.iload X328.here hx rfl (hb hby at_256) rfl k) ?_
          refine Gv T328 260 [] (fun t k => XS.istore X328.here hx rfl (hb hby at_258) rfl (l' := #[iv x1, iv x2, iv x3, lv_ x4, s_, iv (2 : Int32), iv (1 : Int32), iv ch, u_, iv (2 : Int32), rv r323, iv (0 : Int32), iv (104 : Int32), u_, u_]) rfl k) ?_
          exact j330 (2 : Int32) (Or.inr (Or.inr (Or.inl ⟨(by rw [← b340]; rfl), rfl⟩)))
        · refine Gv T328 260 [] (fun t k => XS.icmpYes X328.here hx rfl (pc0 := 253) (pc' := 260) rfl (hb hby at_253) rfl (XT.ii_ne_t b340) (by decide) (by decide) k) ?_
          exact j330 (-1 : Int32) (Or.inr (Or.inr (Or.inr ⟨⟨(fun z => by simp [own_low, own_sub, own_hig] at z <;> exact absurd z.symm b340), (fun z => by simp [own_low, own_sub, own_hig] at z <;> exact absurd z.symm b340), (fun z => by simp [own_low, own_sub, own_hig] at z <;> exact absurd z.symm b340)⟩, rfl⟩)))
      · refine Gv T323 237 [(.ref r323)] (fun t k => XS.aload X323.here hx rfl (hb hby at_235) rfl rfl k) ?_
        refine Gv T323 239 [(.int (1 : Int32)), (.ref r323)] (fun t k => XS.iload X323.here hx rfl (hb hby at_237) rfl k) ?_
        obtain ⟨cl341, Ar341, q341, S341, N341, H341, G341⟩ := id f323_0
        have hin341 := inb_of (j := (1 : Int32)) S341 ⟨by decide, by decide⟩
        refine Goes.via (B := T323.setTop (mkF m 240 #[iv x1, iv x2, iv x3, lv_ x4, s_, iv (2 : Int32), iv (1 : Int32), iv ch, u_, iv (-1 : Int32), rv r323, iv (1 : Int32), u_, u_, u_] [(.int (105 : Int32))])) (fun t k => X323.caload hx (j := (1 : Int32)) (v := (.int (105 : Int32))) (Ar341.1) (State.isArrayOf_alike hZ.alike Ar341.2.1) Ar341.2.2 hin341 (H341.at hin341 rfl) (g := (mkF m 239 #[iv x1, iv x2, iv x3, lv_ x4, s_, iv (2 : Int32), iv (1 : Int32), iv ch, u_, iv (-1 : Int32), rv r323, iv (1 : Int32), u_, u_, u_] [(.int (1 : Int32)), (.ref r323)])) rfl rfl (hb hby at_239) t k) ?_
        refine Gv T323 242 [] (fun t k => XS.istore X323.here hx rfl (hb hby at_240) rfl (l' := #[iv x1, iv x2, iv x3, lv_ x4, s_, iv (2 : Int32), iv (1 : Int32), iv ch, u_, iv (-1 : Int32), rv r323, iv (1 : Int32), iv (105 : Int32), u_, u_]) rfl k) ?_
        refine Gv T323 244 [(.ref r323)] (fun t k => XS.aload X323.here hx rfl (hb hby at_242) rfl rfl k) ?_
        refine Gv T323 246 [(.int (1 : Int32)), (.ref r323)] (fun t k => XS.iload X323.here hx rfl (hb hby at_244) rfl k) ?_
        refine Gv T323 248 [(.int ch), (.int (1 : Int32)), (.ref r323)] (fun t k => XS.iload X323.here hx rfl (hb hby at_246) rfl k) ?_
        obtain ⟨cl342, Ar342, q342, S342, N342, H342, G342⟩ := id f323_0
        obtain ⟨T342, h342, X342, e342, W342, st342⟩ := stC X323 hx hZ rfl Ar342 (j := (1 : Int32)) (inb_of S342 ⟨by decide, by decide⟩) (g := (mkF m 248 #[iv x1, iv x2, iv x3, lv_ x4, s_, iv (2 : Int32), iv (1 : Int32), iv ch, u_, iv (-1 : Int32), rv r323, iv (1 : Int32), iv (105 : Int32), u_, u_] [(.int ch), (.int (1 : Int32)), (.ref r323)])) rfl rfl (hb hby at_248)
        have wn342 : nar .char ch = ch := own_i2c hch
        have fn342 : fits .char (.int ch) = true := by rw [← wn342]; exact fits_nar_char _
        rw [wn342] at W342
        have Nf342 := Fr.snoc X342 N323 gn323_0
        have hq343 := CHr.wr W342 (Safe.arv hZ.alike f323_0 (by decide)) hR324.1
        have hR343 := CHr.trans hR324 hq343
        have V342 : Arv Z h342 r323 kr323 .char (4 : Int32) [(.int (104 : Int32)), (.int ch), (.int (103 : Int32)), (.int (104 : Int32))] (.int (0 : Int32)) := Arv.set Ar342 q342 S342 N342 H342 G342 fn342 W342 1 rfl (Nat.le_of_ble_eq_true rfl)
        refine Goes.via (B := T342.setTop (mkF m 249 #[iv x1, iv x2, iv x3, lv_ x4, s_, iv (2 : Int32), iv (1 : Int32), iv ch, u_, iv (-1 : Int32), rv r323, iv (1 : Int32), iv (105 : Int32), u_, u_] [])) (fun t k => st342 _ k) ?_
        refine Gv T342 251 [(.int (105 : Int32))] (fun t k => XS.iload X342.here hx rfl (hb hby at_249) rfl k) ?_
        refine Gv T342 253 [(.int ch), (.int (105 : Int32))] (fun t k => XS.iload X342.here hx rfl (hb hby at_251) rfl k) ?_
        have j344 : ∀ (ew : Int32) (hew : (([(104 : Int32), ch, (103 : Int32), (104 : Int32)] : List Int32) = own_low ∧ ew = (0 : Int32)) ∨ (([(104 : Int32), ch, (103 : Int32), (104 : Int32)] : List Int32) = own_sub ∧ ew = (1 : Int32)) ∨ (([(104 : Int32), ch, (103 : Int32), (104 : Int32)] : List Int32) = own_hig ∧ ew = (2 : Int32)) ∨ ((¬ ([(104 : Int32), ch, (103 : Int32), (104 : Int32)] : List Int32) = own_low ∧ ¬ ([(104 : Int32), ch, (103 : Int32), (104 : Int32)] : List Int32) = own_sub ∧ ¬ ([(104 : Int32), ch, (103 : Int32), (104 : Int32)] : List Int32) = own_hig) ∧ ew = (-1 : Int32))) , Goes p.tables e below (fun t o => ∃ v L, o = .returned v ∧ (own_Q31 Z x1 x2 x3 x4 z0 oe va kv aL sL tL kL aS sS tS kS aH sH tH kH h0 n0) v t.heap L ∧ EndH Z consts_1 s o t L (room_1).cells (room_1).slots) (T342.setTop (mkF m 260 #[iv x1, iv x2, iv x3, lv_ x4, s_, iv (2 : Int32), iv (1 : Int32), iv ch, u_, iv ew, rv r323, iv (1 : Int32), iv (105 : Int32), u_, u_] [])) := by
          intro ew hew
          obtain ⟨T346, h346, X346, e346, E346, A346, D346, U346, st346⟩ := newO X342 hx hZ hown (W_ hw 5 rfl) (W_ hw 6 rfl) (W_ hw 7 rfl) e342 (g := (mkF m 260 #[iv x1, iv x2, iv x3, lv_ x4, s_, iv (2 : Int32), iv (1 : Int32), iv ch, u_, iv ew, rv r323, iv (1 : Int32), iv (105 : Int32), u_, u_] [])) rfl (hb hby at_260) (by decide) (by decide)
          obtain ⟨b346, g346⟩ : ∃ z, z = h342.size := ⟨_, rfl⟩
          rw [← g346] at A346 D346 U346 st346
          have gn346 : n0 ≤ b346 := Nat.le_trans (old_le ((O0.keep K323 all0).wr W342 gn323_0)) (Nat.le_of_eq g346.symm)
          have hq347 := CHr.ext E346 hR343.1
          have hR347 := CHr.trans hR343 hq347
          have sf348 := Safe.ext E346 hR343.1 (Safe.new (Nat.le_of_eq g346.symm))
          have F346_coder : Fld Z h346 b346 "java/lang/String" "coder" "B" (.int (0 : Int32)) := D346 (Or.inr (W_ hw 31 rfl)) (ty := .byte) (by decide)
          have F346_value : Fld Z h346 b346 "java/lang/String" "value" "[B" .null := D346 (Or.inr (W_ hw 33 rfl)) (ty := (.array .byte)) (by decide)
          refine Goes.via (B := T346.setTop (mkF m 263 #[iv x1, iv x2, iv x3, lv_ x4, s_, iv (2 : Int32), iv (1 : Int32), iv ch, u_, iv ew, rv r323, iv (1 : Int32), iv (105 : Int32), u_, u_] [(.ref b346)])) (fun t k => st346 _ k) ?_
          refine Gv T346 264 [(.ref b346), (.ref b346)] (fun t k => XS.dup X346.here hx rfl (hb hby at_263) rfl rfl k) ?_
          refine Gv T346 266 [(.ref r323), (.ref b346), (.ref b346)] (fun t k => XS.aload X346.here hx rfl (hb hby at_264) rfl rfl k) ?_
          have hp349 : ∀ c ∈ ([(104 : Int32), ch, (103 : Int32), (104 : Int32)] : List Int32), ¬ c < 0 ∧ ¬ (255 : Int32) < c := by
            intro c hc
            simp only [List.mem_cons, List.not_mem_nil, or_false] at hc
            rcases hc with rfl | rfl | rfl | rfl <;> first | exact ⟨by decide, by decide⟩ | exact hch
          obtain ⟨_, T350, L350, X350, ⟨rfl, M350, K350, E350, C350, t350, kb350, gn350, gs350, nx350, F350, V350⟩, st350⟩ := callInitB X346 hx hZ rfl hown (W_ hw 8 rfl) (W_ hw 9 rfl) (W_ hw 10 rfl) (by decide) (argsL := [(.ref r323)]) (rest := [(.ref b346)]) (W := 1) (StrChars.Road.backV (s := (s.setVm s.vm)) (W := 1) hZ (own_hw_words hw) (kI := 4) (W_ hw 6 rfl) (x := b346) (b := r323) (cs := ([(104 : Int32), ch, (103 : Int32), (104 : Int32)] : List Int32)) (bs := ([(104 : Int32), ch, (103 : Int32), (104 : Int32)] : List Int32).map (fun c => c.toInt8.toInt32)) (n := 4) gn346 (old_le (((O0.keep K323 all0).wr W342 gn323_0).ext E346)) A346 F346_value F346_coder (V342.ext E346) (Sta.ext (((O0.keep K323 all0).wr W342 gn323_0).ext E346).2 O_1) hz0 rfl rfl (by decide) (by decide) hp349 rfl (by decide) (by decide)) e346 (lenOf own_pd11 rfl) (pc := 266) (Ls := #[iv x1, iv x2, iv x3, lv_ x4, s_, iv (2 : Int32), iv (1 : Int32), iv ch, u_, iv ew, rv r323, iv (1 : Int32), iv (105 : Int32), u_, u_]) (st := [(.ref r323), (.ref b346), (.ref b346)]) rfl (by rw [hml]; rfl) (hb hby at_266) (Nat.le_of_eq rfl) (by decide) (by decide)
          have hq351 := CHr.keep K350 (sfS sf348 sf0) hR347.1
          have hR351 := CHr.trans hR347 hq351
          have N350 := Fr.app Nf342 M350
          refine Goes.via (B := T350.setTop (mkF m 269 #[iv x1, iv x2, iv x3, lv_ x4, s_, iv (2 : Int32), iv (1 : Int32), iv ch, u_, iv ew, rv r323, iv (1 : Int32), iv (105 : Int32), u_, u_] [(.ref b346)])) (fun t k => st350 _ k) ?_
          have w352 : Arv Z T350.heap t350 kb350 .byte (Int32.ofNat ([(104 : Int32), ch, (103 : Int32), (104 : Int32)] : List Int32).length) ((([(104 : Int32), ch, (103 : Int32), (104 : Int32)] : List Int32).map StrChars.lo8).map Value.int) (.int 0) := V350
          refine Gv T350 271 [] (fun t k => XS.astore X350.here hx rfl (hb hby at_269) rfl rfl (l' := #[iv x1, iv x2, iv x3, lv_ x4, s_, iv (2 : Int32), iv (1 : Int32), iv ch, rv b346, iv ew, rv r323, iv (1 : Int32), iv (105 : Int32), u_, u_]) rfl k) ?_
          obtain ⟨Xr353, hSr353, hZr353, hor353⟩ := rebase (cells := 8) (slots := 96) (X350.more (by decide) (by decide)) hS0 rfl (Nat.le_trans (Nat.le_trans (Nat.le_trans (Nat.le_trans hk0 K323.1) (Nat.le_of_eq (Wr.size W342).symm)) E346.1) K350.1) hZ hown
          exact j26 T350 _ T350.heap Xr353 rfl N350 hSr353 hZr353 hor353 (CHr.trans hR351 (CHv.at X350 hZ hEL hR351.1)) b346 t350 kb350 ([(104 : Int32), ch, (103 : Int32), (104 : Int32)] : List Int32) ew r323 (1 : Int32) (105 : Int32) ((((O0.keep K323 all0).wr W342 gn323_0).ext E346).keep K350 (allS gn346 all0)) E350 F350 C350 w352 hp349 (by simp) hew
        by_cases b354 : (105 : Int32) = ch
        · refine Gv T342 256 [] (fun t k => XS.icmpNo X342.here hx rfl (hb hby at_253) rfl (XT.ii_ne_f b354) k) ?_
          refine Gv T342 258 [(.int (2 : Int32))] (fun t k => XS.iload X342.here hx rfl (hb hby at_256) rfl k) ?_
          refine Gv T342 260 [] (fun t k => XS.istore X342.here hx rfl (hb hby at_258) rfl (l' := #[iv x1, iv x2, iv x3, lv_ x4, s_, iv (2 : Int32), iv (1 : Int32), iv ch, u_, iv (2 : Int32), rv r323, iv (1 : Int32), iv (105 : Int32), u_, u_]) rfl k) ?_
          exact j344 (2 : Int32) (Or.inr (Or.inr (Or.inl ⟨(by rw [← b354]; rfl), rfl⟩)))
        · refine Gv T342 260 [] (fun t k => XS.icmpYes X342.here hx rfl (pc0 := 253) (pc' := 260) rfl (hb hby at_253) rfl (XT.ii_ne_t b354) (by decide) (by decide) k) ?_
          exact j344 (-1 : Int32) (Or.inr (Or.inr (Or.inr ⟨⟨(fun z => by simp [own_low, own_sub, own_hig] at z <;> exact absurd z.symm b354), (fun z => by simp [own_low, own_sub, own_hig] at z <;> exact absurd z.symm b354), (fun z => by simp [own_low, own_sub, own_hig] at z <;> exact absurd z.symm b354)⟩, rfl⟩)))
      · refine Gv T323 237 [(.ref r323)] (fun t k => XS.aload X323.here hx rfl (hb hby at_235) rfl rfl k) ?_
        refine Gv T323 239 [(.int (2 : Int32)), (.ref r323)] (fun t k => XS.iload X323.here hx rfl (hb hby at_237) rfl k) ?_
        obtain ⟨cl355, Ar355, q355, S355, N355, H355, G355⟩ := id f323_0
        have hin355 := inb_of (j := (2 : Int32)) S355 ⟨by decide, by decide⟩
        refine Goes.via (B := T323.setTop (mkF m 240 #[iv x1, iv x2, iv x3, lv_ x4, s_, iv (2 : Int32), iv (1 : Int32), iv ch, u_, iv (-1 : Int32), rv r323, iv (2 : Int32), u_, u_, u_] [(.int (103 : Int32))])) (fun t k => X323.caload hx (j := (2 : Int32)) (v := (.int (103 : Int32))) (Ar355.1) (State.isArrayOf_alike hZ.alike Ar355.2.1) Ar355.2.2 hin355 (H355.at hin355 rfl) (g := (mkF m 239 #[iv x1, iv x2, iv x3, lv_ x4, s_, iv (2 : Int32), iv (1 : Int32), iv ch, u_, iv (-1 : Int32), rv r323, iv (2 : Int32), u_, u_, u_] [(.int (2 : Int32)), (.ref r323)])) rfl rfl (hb hby at_239) t k) ?_
        refine Gv T323 242 [] (fun t k => XS.istore X323.here hx rfl (hb hby at_240) rfl (l' := #[iv x1, iv x2, iv x3, lv_ x4, s_, iv (2 : Int32), iv (1 : Int32), iv ch, u_, iv (-1 : Int32), rv r323, iv (2 : Int32), iv (103 : Int32), u_, u_]) rfl k) ?_
        refine Gv T323 244 [(.ref r323)] (fun t k => XS.aload X323.here hx rfl (hb hby at_242) rfl rfl k) ?_
        refine Gv T323 246 [(.int (2 : Int32)), (.ref r323)] (fun t k => XS.iload X323.here hx rfl (hb hby at_244) rfl k) ?_
        refine Gv T323 248 [(.int ch), (.int (2 : Int32)), (.ref r323)] (fun t k => XS.iload X323.here hx rfl (hb hby at_246) rfl k) ?_
        obtain ⟨cl356, Ar356, q356, S356, N356, H356, G356⟩ := id f323_0
        obtain ⟨T356, h356, X356, e356, W356, st356⟩ := stC X323 hx hZ rfl Ar356 (j := (2 : Int32)) (inb_of S356 ⟨by decide, by decide⟩) (g := (mkF m 248 #[iv x1, iv x2, iv x3, lv_ x4, s_, iv (2 : Int32), iv (1 : Int32), iv ch, u_, iv (-1 : Int32), rv r323, iv (2 : Int32), iv (103 : Int32), u_, u_] [(.int ch), (.int (2 : Int32)), (.ref r323)])) rfl rfl (hb hby at_248)
        have wn356 : nar .char ch = ch := own_i2c hch
        have fn356 : fits .char (.int ch) = true := by rw [← wn356]; exact fits_nar_char _
        rw [wn356] at W356
        have Nf356 := Fr.snoc X356 N323 gn323_0
        have hq357 := CHr.wr W356 (Safe.arv hZ.alike f323_0 (by decide)) hR324.1
        have hR357 := CHr.trans hR324 hq357
        have V356 : Arv Z h356 r323 kr323 .char (4 : Int32) [(.int (104 : Int32)), (.int (105 : Int32)), (.int ch), (.int (104 : Int32))] (.int (0 : Int32)) := Arv.set Ar356 q356 S356 N356 H356 G356 fn356 W356 2 rfl (Nat.le_of_ble_eq_true rfl)
        refine Goes.via (B := T356.setTop (mkF m 249 #[iv x1, iv x2, iv x3, lv_ x4, s_, iv (2 : Int32), iv (1 : Int32), iv ch, u_, iv (-1 : Int32), rv r323, iv (2 : Int32), iv (103 : Int32), u_, u_] [])) (fun t k => st356 _ k) ?_
        refine Gv T356 251 [(.int (103 : Int32))] (fun t k => XS.iload X356.here hx rfl (hb hby at_249) rfl k) ?_
        refine Gv T356 253 [(.int ch), (.int (103 : Int32))] (fun t k => XS.iload X356.here hx rfl (hb hby at_251) rfl k) ?_
        have j358 : ∀ (ew : Int32) (hew : (([(104 : Int32), (105 : Int32), ch, (104 : Int32)] : List Int32) = own_low ∧ ew = (0 : Int32)) ∨ (([(104 : Int32), (105 : Int32), ch, (104 : Int32)] : List Int32) = own_sub ∧ ew = (1 : Int32)) ∨ (([(104 : Int32), (105 : Int32), ch, (104 : Int32)] : List Int32) = own_hig ∧ ew = (2 : Int32)) ∨ ((¬ ([(104 : Int32), (105 : Int32), ch, (104 : Int32)] : List Int32) = own_low ∧ ¬ ([(104 : Int32), (105 : Int32), ch, (104 : Int32)] : List Int32) = own_sub ∧ ¬ ([(104 : Int32), (105 : Int32), ch, (104 : Int32)] : List Int32) = own_hig) ∧ ew = (-1 : Int32))) , Goes p.tables e below (fun t o => ∃ v L, o = .returned v ∧ (own_Q31 Z x1 x2 x3 x4 z0 oe va kv aL sL tL kL aS sS tS kS aH sH tH kH h0 n0) v t.heap L ∧ EndH Z consts_1 s o t L (room_1).cells (room_1).slots) (T356.setTop (mkF m 260 #[iv x1, iv x2, iv x3, lv_ x4, s_, iv (2 : Int32), iv (1 : Int32), iv ch, u_, iv ew, rv r323, iv (2 : Int32), iv (103 : Int32), u_, u_] [])) := by
          intro ew hew
          obtain ⟨T360, h360, X360, e360, E360, A360, D360, U360, st360⟩ := newO X356 hx hZ hown (W_ hw 5 rfl) (W_ hw 6 rfl) (W_ hw 7 rfl) e356 (g := (mkF m 260 #[iv x1, iv x2, iv x3, lv_ x4, s_, iv (2 : Int32), iv (1 : Int32), iv ch, u_, iv ew, rv r323, iv (2 : Int32), iv (103 : Int32), u_, u_] [])) rfl (hb hby at_260) (by decide) (by decide)
          obtain ⟨b360, g360⟩ : ∃ z, z = h356.size := ⟨_, rfl⟩
          rw [← g360] at A360 D360 U360 st360
          have gn360 : n0 ≤ b360 := Nat.le_trans (old_le ((O0.keep K323 all0).wr W356 gn323_0)) (Nat.le_of_eq g360.symm)
          have hq361 := CHr.ext E360 hR357.1
          have hR361 := CHr.trans hR357 hq361
          have sf362 := Safe.ext E360 hR357.1 (Safe.new (Nat.le_of_eq g360.symm))
          have F360_coder : Fld Z h360 b360 "java/lang/String" "coder" "B" (.int (0 : Int32)) := D360 (Or.inr (W_ hw 31 rfl)) (ty := .byte) (by decide)
          have F360_value : Fld Z h360 b360 "java/lang/String" "value" "[B" .null := D360 (Or.inr (W_ hw 33 rfl)) (ty := (.array .byte)) (by decide)
          refine Goes.via (B := T360.setTop (mkF m 263 #[iv x1, iv x2, iv x3, lv_ x4, s_, iv (2 : Int32), iv (1 : Int32), iv ch, u_, iv ew, rv r323, iv (2 : Int32), iv (103 : Int32), u_, u_] [(.ref b360)])) (fun t k => st360 _ k) ?_
          refine Gv T360 264 [(.ref b360), (.ref b360)] (fun t k => XS.dup X360.here hx rfl (hb hby at_263) rfl rfl k) ?_
          refine Gv T360 266 [(.ref r323), (.ref b360), (.ref b360)] (fun t k => XS.aload X360.here hx rfl (hb hby at_264) rfl rfl k) ?_
          have hp363 : ∀ c ∈ ([(104 : Int32), (105 : Int32), ch, (104 : Int32)] : List Int32), ¬ c < 0 ∧ ¬ (255 : Int32) < c := by
            intro c hc
            simp only [List.mem_cons, List.not_mem_nil, or_false] at hc
            rcases hc with rfl | rfl | rfl | rfl <;> first | exact ⟨by decide, by decide⟩ | exact hch
          obtain ⟨_, T364, L364, X364, ⟨rfl, M364, K364, E364, C364, t364, kb364, gn364, gs364, nx364, F364, V364⟩, st364⟩ := callInitB X360 hx hZ rfl hown (W_ hw 8 rfl) (W_ hw 9 rfl) (W_ hw 10 rfl) (by decide) (argsL := [(.ref r323)]) (rest := [(.ref b360)]) (W := 1) (StrChars.Road.backV (s := (s.setVm s.vm)) (W := 1) hZ (own_hw_words hw) (kI := 4) (W_ hw 6 rfl) (x := b360) (b := r323) (cs := ([(104 : Int32), (105 : Int32), ch, (104 : Int32)] : List Int32)) (bs := ([(104 : Int32), (105 : Int32), ch, (104 : Int32)] : List Int32).map (fun c => c.toInt8.toInt32)) (n := 4) gn360 (old_le (((O0.keep K323 all0).wr W356 gn323_0).ext E360)) A360 F360_value F360_coder (V356.ext E360) (Sta.ext (((O0.keep K323 all0).wr W356 gn323_0).ext E360).2 O_1) hz0 rfl rfl (by decide) (by decide) hp363 rfl (by decide) (by decide)) e360 (lenOf own_pd11 rfl) (pc := 266) (Ls := #[iv x1, iv x2, iv x3, lv_ x4, s_, iv (2 : Int32), iv (1 : Int32), iv ch, u_, iv ew, rv r323, iv (2 : Int32), iv (103 : Int32), u_, u_]) (st := [(.ref r323), (.ref b360), (.ref b360)]) rfl (by rw [hml]; rfl) (hb hby at_266) (Nat.le_of_eq rfl) (by decide) (by decide)
          have hq365 := CHr.keep K364 (sfS sf362 sf0) hR361.1
          have hR365 := CHr.trans hR361 hq365
          have N364 := Fr.app Nf356 M364
          refine Goes.via (B := T364.setTop (mkF m 269 #[iv x1, iv x2, iv x3, lv_ x4, s_, iv (2 : Int32), iv (1 : Int32), iv ch, u_, iv ew, rv r323, iv (2 : Int32), iv (103 : Int32), u_, u_] [(.ref b360)])) (fun t k => st364 _ k) ?_
          have w366 : Arv Z T364.heap t364 kb364 .byte (Int32.ofNat ([(104 : Int32), (105 : Int32), ch, (104 : Int32)] : List Int32).length) ((([(104 : Int32), (105 : Int32), ch, (104 : Int32)] : List Int32).map StrChars.lo8).map Value.int) (.int 0) := V364
          refine Gv T364 271 [] (fun t k => XS.astore X364.here hx rfl (hb hby at_269) rfl rfl (l' := #[iv x1, iv x2, iv x3, lv_ x4, s_, iv (2 : Int32), iv (1 : Int32), iv ch, rv b360, iv ew, rv r323, iv (2 : Int32), iv (103 : Int32), u_, u_]) rfl k) ?_
          obtain ⟨Xr367, hSr367, hZr367, hor367⟩ := rebase (cells := 8) (slots := 96) (X364.more (by decide) (by decide)) hS0 rfl (Nat.le_trans (Nat.le_trans (Nat.le_trans (Nat.le_trans hk0 K323.1) (Nat.le_of_eq (Wr.size W356).symm)) E360.1) K364.1) hZ hown
          exact j26 T364 _ T364.heap Xr367 rfl N364 hSr367 hZr367 hor367 (CHr.trans hR365 (CHv.at X364 hZ hEL hR365.1)) b360 t364 kb364 ([(104 : Int32), (105 : Int32), ch, (104 : Int32)] : List Int32) ew r323 (2 : Int32) (103 : Int32) ((((O0.keep K323 all0).wr W356 gn323_0).ext E360).keep K364 (allS gn360 all0)) E364 F364 C364 w366 hp363 (by simp) hew
        by_cases b368 : (103 : Int32) = ch
        · refine Gv T356 256 [] (fun t k => XS.icmpNo X356.here hx rfl (hb hby at_253) rfl (XT.ii_ne_f b368) k) ?_
          refine Gv T356 258 [(.int (2 : Int32))] (fun t k => XS.iload X356.here hx rfl (hb hby at_256) rfl k) ?_
          refine Gv T356 260 [] (fun t k => XS.istore X356.here hx rfl (hb hby at_258) rfl (l' := #[iv x1, iv x2, iv x3, lv_ x4, s_, iv (2 : Int32), iv (1 : Int32), iv ch, u_, iv (2 : Int32), rv r323, iv (2 : Int32), iv (103 : Int32), u_, u_]) rfl k) ?_
          exact j358 (2 : Int32) (Or.inr (Or.inr (Or.inl ⟨(by rw [← b368]; rfl), rfl⟩)))
        · refine Gv T356 260 [] (fun t k => XS.icmpYes X356.here hx rfl (pc0 := 253) (pc' := 260) rfl (hb hby at_253) rfl (XT.ii_ne_t b368) (by decide) (by decide) k) ?_
          exact j358 (-1 : Int32) (Or.inr (Or.inr (Or.inr ⟨⟨(fun z => by simp [own_low, own_sub, own_hig] at z <;> exact absurd z.symm b368), (fun z => by simp [own_low, own_sub, own_hig] at z <;> exact absurd z.symm b368), (fun z => by simp [own_low, own_sub, own_hig] at z <;> exact absurd z.symm b368)⟩, rfl⟩)))
      · refine Gv T323 237 [(.ref r323)] (fun t k => XS.aload X323.here hx rfl (hb hby at_235) rfl rfl k) ?_
        refine Gv T323 239 [(.int (3 : Int32)), (.ref r323)] (fun t k => XS.iload X323.here hx rfl (hb hby at_237) rfl k) ?_
        obtain ⟨cl369, Ar369, q369, S369, N369, H369, G369⟩ := id f323_0
        have hin369 := inb_of (j := (3 : Int32)) S369 ⟨by decide, by decide⟩
        refine Goes.via (B := T323.setTop (mkF m 240 #[iv x1, iv x2, iv x3, lv_ x4, s_, iv (2 : Int32), iv (1 : Int32), iv ch, u_, iv (-1 : Int32), rv r323, iv (3 : Int32), u_, u_, u_] [(.int (104 : Int32))])) (fun t k => X323.caload hx (j := (3 : Int32)) (v := (.int (104 : Int32))) (Ar369.1) (State.isArrayOf_alike hZ.alike Ar369.2.1) Ar369.2.2 hin369 (H369.at hin369 rfl) (g := (mkF m 239 #[iv x1, iv x2, iv x3, lv_ x4, s_, iv (2 : Int32), iv (1 : Int32), iv ch, u_, iv (-1 : Int32), rv r323, iv (3 : Int32), u_, u_, u_] [(.int (3 : Int32)), (.ref r323)])) rfl rfl (hb hby at_239) t k) ?_
        refine Gv T323 242 [] (fun t k => XS.istore X323.here hx rfl (hb hby at_240) rfl (l' := #[iv x1, iv x2, iv x3, lv_ x4, s_, iv (2 : Int32), iv (1 : Int32), iv ch, u_, iv (-1 : Int32), rv r323, iv (3 : Int32), iv (104 : Int32), u_, u_]) rfl k) ?_
        refine Gv T323 244 [(.ref r323)] (fun t k => XS.aload X323.here hx rfl (hb hby at_242) rfl rfl k) ?_
        refine Gv T323 246 [(.int (3 : Int32)), (.ref r323)] (fun t k => XS.iload X323.here hx rfl (hb hby at_244) rfl k) ?_
        refine Gv T323 248 [(.int ch), (.int (3 : Int32)), (.ref r323)] (fun t k => XS.iload X323.here hx rfl (hb hby at_246) rfl k) ?_
        obtain ⟨cl370, Ar370, q370, S370, N370, H370, G370⟩ := id f323_0
        obtain ⟨T370, h370, X370, e370, W370, st370⟩ := stC X323 hx hZ rfl Ar370 (j := (3 : Int32)) (inb_of S370 ⟨by decide, by decide⟩) (g := (mkF m 248 #[iv x1, iv x2, iv x3, lv_ x4, s_, iv (2 : Int32), iv (1 : Int32), iv ch, u_, iv (-1 : Int32), rv r323, iv (3 : Int32), iv (104 : Int32), u_, u_] [(.int ch), (.int (3 : Int32)), (.ref r323)])) rfl rfl (hb hby at_248)
        have wn370 : nar .char ch = ch := own_i2c hch
        have fn370 : fits .char (.int ch) = true := by rw [← wn370]; exact fits_nar_char _
        rw [wn370] at W370
        have Nf370 := Fr.snoc X370 N323 gn323_0
        have hq371 := CHr.wr W370 (Safe.arv hZ.alike f323_0 (by decide)) hR324.1
        have hR371 := CHr.trans hR324 hq371
        have V370 : Arv Z h370 r323 kr323 .char (4 : Int32) [(.int (104 : Int32)), (.int (105 : Int32)), (.int (103 : Int32)), (.int ch)] (.int (0 : Int32)) := Arv.set Ar370 q370 S370 N370 H370 G370 fn370 W370 3 rfl (Nat.le_of_ble_eq_true rfl)
        refine Goes.via (B := T370.setTop (mkF m 249 #[iv x1, iv x2, iv x3, lv_ x4, s_, iv (2 : Int32), iv (1 : Int32), iv ch, u_, iv (-1 : Int32), rv r323, iv (3 : Int32), iv (104 : Int32), u_, u_] [])) (fun t k => st370 _ k) ?_
        refine Gv T370 251 [(.int (104 : Int32))] (fun t k => XS.iload X370.here hx rfl (hb hby at_249) rfl k) ?_
        refine Gv T370 253 [(.int ch), (.int (104 : Int32))] (fun t k => XS.iload X370.here hx rfl (hb hby at_251) rfl k) ?_
        have j372 : ∀ (ew : Int32) (hew : (([(104 : Int32), (105 : Int32), (103 : Int32), ch] : List Int32) = own_low ∧ ew = (0 : Int32)) ∨ (([(104 : Int32), (105 : Int32), (103 : Int32), ch] : List Int32) = own_sub ∧ ew = (1 : Int32)) ∨ (([(104 : Int32), (105 : Int32), (103 : Int32), ch] : List Int32) = own_hig ∧ ew = (2 : Int32)) ∨ ((¬ ([(104 : Int32), (105 : Int32), (103 : Int32), ch] : List Int32) = own_low ∧ ¬ ([(104 : Int32), (105 : Int32), (103 : Int32), ch] : List Int32) = own_sub ∧ ¬ ([(104 : Int32), (105 : Int32), (103 : Int32), ch] : List Int32) = own_hig) ∧ ew = (-1 : Int32))) , Goes p.tables e below (fun t o => ∃ v L, o = .returned v ∧ (own_Q31 Z x1 x2 x3 x4 z0 oe va kv aL sL tL kL aS sS tS kS aH sH tH kH h0 n0) v t.heap L ∧ EndH Z consts_1 s o t L (room_1).cells (room_1).slots) (T370.setTop (mkF m 260 #[iv x1, iv x2, iv x3, lv_ x4, s_, iv (2 : Int32), iv (1 : Int32), iv ch, u_, iv ew, rv r323, iv (3 : Int32), iv (104 : Int32), u_, u_] [])) := by
          intro ew hew
          obtain ⟨T374, h374, X374, e374, E374, A374, D374, U374, st374⟩ := newO X370 hx hZ hown (W_ hw 5 rfl) (W_ hw 6 rfl) (W_ hw 7 rfl) e370 (g := (mkF m 260 #[iv x1, iv x2, iv x3, lv_ x4, s_, iv (2 : Int32), iv (1 : Int32), iv ch, u_, iv ew, rv r323, iv (3 : Int32), iv (104 : Int32), u_, u_] [])) rfl (hb hby at_260) (by decide) (by decide)
          obtain ⟨b374, g374⟩ : ∃ z, z = h370.size := ⟨_, rfl⟩
          rw [← g374] at A374 D374 U374 st374
          have gn374 : n0 ≤ b374 := Nat.le_trans (old_le ((O0.keep K323 all0).wr W370 gn323_0)) (Nat.le_of_eq g374.symm)
          have hq375 := CHr.ext E374 hR371.1
          have hR375 := CHr.trans hR371 hq375
          have sf376 := Safe.ext E374 hR371.1 (Safe.new (Nat.le_of_eq g374.symm))
          have F374_coder : Fld Z h374 b374 "java/lang/String" "coder" "B" (.int (0 : Int32)) := D374 (Or.inr (W_ hw 31 rfl)) (ty := .byte) (by decide)
          have F374_value : Fld Z h374 b374 "java/lang/String" "value" "[B" .null := D374 (Or.inr (W_ hw 33 rfl)) (ty := (.array .byte)) (by decide)
          refine Goes.via (B := T374.setTop (mkF m 263 #[iv x1, iv x2, iv x3, lv_ x4, s_, iv (2 : Int32), iv (1 : Int32), iv ch, u_, iv ew, rv r323, iv (3 : Int32), iv (104 : Int32), u_, u_] [(.ref b374)])) (fun t k => st374 _ k) ?_
          refine Gv T374 264 [(.ref b374), (.ref b374)] (fun t k => XS.dup X374.here hx rfl (hb hby at_263) rfl rfl k) ?_
          refine Gv T374 266 [(.ref r323), (.ref b374), (.ref b374)] (fun t k => XS.aload X374.here hx rfl (hb hby at_264) rfl rfl k) ?_
          have hp377 : ∀ c ∈ ([(104 : Int32), (105 : Int32), (103 : Int32), ch] : List Int32), ¬ c < 0 ∧ ¬ (255 : Int32) < c := by
            intro c hc
            simp only [List.mem_cons, List.not_mem_nil, or_false] at hc
            rcases hc with rfl | rfl | rfl | rfl <;> first | exact ⟨by decide, by decide⟩ | exact hch
          obtain ⟨_, T378, L378, X378, ⟨rfl, M378, K378, E378, C378, t378, kb378, gn378, gs378, nx378, F378, V378⟩, st378⟩ := callInitB X374 hx hZ rfl hown (W_ hw 8 rfl) (W_ hw 9 rfl) (W_ hw 10 rfl) (by decide) (argsL := [(.ref r323)]) (rest := [(.ref b374)]) (W := 1) (StrChars.Road.backV (s := (s.setVm s.vm)) (W := 1) hZ (own_hw_words hw) (kI := 4) (W_ hw 6 rfl) (x := b374) (b := r323) (cs := ([(104 : Int32), (105 : Int32), (103 : Int32), ch] : List Int32)) (bs := ([(104 : Int32), (105 : Int32), (103 : Int32), ch] : List Int32).map (fun c => c.toInt8.toInt32)) (n := 4) gn374 (old_le (((O0.keep K323 all0).wr W370 gn323_0).ext E374)) A374 F374_value F374_coder (V370.ext E374) (Sta.ext (((O0.keep K323 all0).wr W370 gn323_0).ext E374).2 O_1) hz0 rfl rfl (by decide) (by decide) hp377 rfl (by decide) (by decide)) e374 (lenOf own_pd11 rfl) (pc := 266) (Ls := #[iv x1, iv x2, iv x3, lv_ x4, s_, iv (2 : Int32), iv (1 : Int32), iv ch, u_, iv ew, rv r323, iv (3 : Int32), iv (104 : Int32), u_, u_]) (st := [(.ref r323), (.ref b374), (.ref b374)]) rfl (by rw [hml]; rfl) (hb hby at_266) (Nat.le_of_eq rfl) (by decide) (by decide)
          have hq379 := CHr.keep K378 (sfS sf376 sf0) hR375.1
          have hR379 := CHr.trans hR375 hq379
          have N378 := Fr.app Nf370 M378
          refine Goes.via (B := T378.setTop (mkF m 269 #[iv x1, iv x2, iv x3, lv_ x4, s_, iv (2 : Int32), iv (1 : Int32), iv ch, u_, iv ew, rv r323, iv (3 : Int32), iv (104 : Int32), u_, u_] [(.ref b374)])) (fun t k => st378 _ k) ?_
          have w380 : Arv Z T378.heap t378 kb378 .byte (Int32.ofNat ([(104 : Int32), (105 : Int32), (103 : Int32), ch] : List Int32).length) ((([(104 : Int32), (105 : Int32), (103 : Int32), ch] : List Int32).map StrChars.lo8).map Value.int) (.int 0) := V378
          refine Gv T378 271 [] (fun t k => XS.astore X378.here hx rfl (hb hby at_269) rfl rfl (l' := #[iv x1, iv x2, iv x3, lv_ x4, s_, iv (2 : Int32), iv (1 : Int32), iv ch, rv b374, iv ew, rv r323, iv (3 : Int32), iv (104 : Int32), u_, u_]) rfl k) ?_
          obtain ⟨Xr381, hSr381, hZr381, hor381⟩ := rebase (cells := 8) (slots := 96) (X378.more (by decide) (by decide)) hS0 rfl (Nat.le_trans (Nat.le_trans (Nat.le_trans (Nat.le_trans hk0 K323.1) (Nat.le_of_eq (Wr.size W370).symm)) E374.1) K378.1) hZ hown
          exact j26 T378 _ T378.heap Xr381 rfl N378 hSr381 hZr381 hor381 (CHr.trans hR379 (CHv.at X378 hZ hEL hR379.1)) b374 t378 kb378 ([(104 : Int32), (105 : Int32), (103 : Int32), ch] : List Int32) ew r323 (3 : Int32) (104 : Int32) ((((O0.keep K323 all0).wr W370 gn323_0).ext E374).keep K378 (allS gn374 all0)) E378 F378 C378 w380 hp377 (by simp) hew
        by_cases b382 : (104 : Int32) = ch
        · refine Gv T370 256 [] (fun t k => XS.icmpNo X370.here hx rfl (hb hby at_253) rfl (XT.ii_ne_f b382) k) ?_
          refine Gv T370 258 [(.int (2 : Int32))] (fun t k => XS.iload X370.here hx rfl (hb hby at_256) rfl k) ?_
          refine Gv T370 260 [] (fun t k => XS.istore X370.here hx rfl (hb hby at_258) rfl (l' := #[iv x1, iv x2, iv x3, lv_ x4, s_, iv (2 : Int32), iv (1 : Int32), iv ch, u_, iv (2 : Int32), rv r323, iv (3 : Int32), iv (104 : Int32), u_, u_]) rfl k) ?_
          exact j372 (2 : Int32) (Or.inr (Or.inr (Or.inl ⟨(by rw [← b382]; rfl), rfl⟩)))
        · refine Gv T370 260 [] (fun t k => XS.icmpYes X370.here hx rfl (pc0 := 253) (pc' := 260) rfl (hb hby at_253) rfl (XT.ii_ne_t b382) (by decide) (by decide) k) ?_
          exact j372 (-1 : Int32) (Or.inr (Or.inr (Or.inr ⟨⟨(fun z => by simp [own_low, own_sub, own_hig] at z <;> exact absurd z.symm b382), (fun z => by simp [own_low, own_sub, own_hig] at z <;> exact absurd z.symm b382), (fun z => by simp [own_low, own_sub, own_hig] at z <;> exact absurd z.symm b382)⟩, rfl⟩)))
    · obtain ⟨_, T383, L383, X383, ⟨r383, kr383, rfl, M383, K383, z383_0, f383_0⟩, st383⟩ := callStatic X0 hx hZ hown (W_ hw 0 rfl) (W_ hw 1 rfl) (W_ hw 2 rfl) (W_ hw 3 rfl) (by decide) (argsL := [(.int (2 : Int32)), (.int (2 : Int32)), (.int ch)]) (rest := []) (own_m24 l Z a0 hw [] ch h0 n0 O0 hch) e0 (lenOf own_pd10 rfl) (pc := 199) (Ls := #[iv x1, iv x2, iv x3, lv_ x4, s_, iv (2 : Int32), iv (2 : Int32), iv ch, u_, u_, u_, u_, u_, u_, u_]) (st := [(.int ch), (.int (2 : Int32)), (.int (2 : Int32))]) rfl (by rw [hml]; rfl) (hb hby at_199) (W := 0) (Nat.le_of_eq rfl) (by decide) (by decide) (by decide) (by decide)
      have N383 := Fr.app N0 M383
      have gn383_0 : n0 ≤ r383 := Nat.le_trans (old_le O0) z383_0
      have hq384 := CHr.keep K383 sf0 hR0.1
      have hR384 := CHr.trans hR0 hq384
      refine Goes.via (B := T383.setTop (mkF m 202 #[iv x1, iv x2, iv x3, lv_ x4, s_, iv (2 : Int32), iv (2 : Int32), iv ch, u_, u_, u_, u_, u_, u_, u_] [(.ref r383)])) (fun t k => st383 _ k) ?_
      refine Gv T383 204 [] (fun t k => XS.astore X383.here hx rfl (hb hby at_202) rfl rfl (l' := #[iv x1, iv x2, iv x3, lv_ x4, s_, iv (2 : Int32), iv (2 : Int32), iv ch, u_, u_, rv r383, u_, u_, u_, u_]) rfl k) ?_
      refine Gv T383 205 [(.int (-1 : Int32))] (fun t k => XS.iconst X383.here hx rfl (hb hby at_204) k) ?_
      refine Gv T383 207 [] (fun t k => XS.istore X383.here hx rfl (hb hby at_205) rfl (l' := #[iv x1, iv x2, iv x3, lv_ x4, s_, iv (2 : Int32), iv (2 : Int32), iv ch, u_, iv (-1 : Int32), rv r383, u_, u_, u_, u_]) rfl k) ?_
      refine Gv T383 209 [(.int (2 : Int32))] (fun t k => XS.iload X383.here hx rfl (hb hby at_207) rfl k) ?_
      refine Gv T383 219 [] (fun t k => XS.ifYes X383.here hx rfl (pc0 := 209) (pc' := 219) rfl (hb hby at_209) rfl (XT.i0_ne_t (by decide)) (by decide) (by decide) k) ?_
      refine Gv T383 221 [(.int (2 : Int32))] (fun t k => XS.iload X383.here hx rfl (hb hby at_219) rfl k) ?_
      refine Gv T383 222 [(.int (1 : Int32)), (.int (2 : Int32))] (fun t k => XS.iconst X383.here hx rfl (hb hby at_221) k) ?_
      refine Gv T383 260 [] (fun t k => XS.icmpYes X383.here hx rfl (pc0 := 222) (pc' := 260) rfl (hb hby at_222) rfl (XT.ii_ne_t (by decide)) (by decide) (by decide) k) ?_
      obtain ⟨T385, h385, X385, e385, E385, A385, D385, U385, st385⟩ := newO X383 hx hZ hown (W_ hw 5 rfl) (W_ hw 6 rfl) (W_ hw 7 rfl) rfl (g := (mkF m 260 #[iv x1, iv x2, iv x3, lv_ x4, s_, iv (2 : Int32), iv (2 : Int32), iv ch, u_, iv (-1 : Int32), rv r383, u_, u_, u_, u_] [])) rfl (hb hby at_260) (by decide) (by decide)
      obtain ⟨b385, g385⟩ : ∃ z, z = T383.heap.size := ⟨_, rfl⟩
      rw [← g385] at A385 D385 U385 st385
      have gn385 : n0 ≤ b385 := Nat.le_trans (old_le (O0.keep K383 all0)) (Nat.le_of_eq g385.symm)
      have hq386 := CHr.ext E385 hR384.1
      have hR386 := CHr.trans hR384 hq386
      have sf387 := Safe.ext E385 hR384.1 (Safe.new (Nat.le_of_eq g385.symm))
      have F385_coder : Fld Z h385 b385 "java/lang/String" "coder" "B" (.int (0 : Int32)) := D385 (Or.inr (W_ hw 31 rfl)) (ty := .byte) (by decide)
      have F385_value : Fld Z h385 b385 "java/lang/String" "value" "[B" .null := D385 (Or.inr (W_ hw 33 rfl)) (ty := (.array .byte)) (by decide)
      refine Goes.via (B := T385.setTop (mkF m 263 #[iv x1, iv x2, iv x3, lv_ x4, s_, iv (2 : Int32), iv (2 : Int32), iv ch, u_, iv (-1 : Int32), rv r383, u_, u_, u_, u_] [(.ref b385)])) (fun t k => st385 _ k) ?_
      refine Gv T385 264 [(.ref b385), (.ref b385)] (fun t k => XS.dup X385.here hx rfl (hb hby at_263) rfl rfl k) ?_
      refine Gv T385 266 [(.ref r383), (.ref b385), (.ref b385)] (fun t k => XS.aload X385.here hx rfl (hb hby at_264) rfl rfl k) ?_
      have hp388 : ∀ c ∈ ([(104 : Int32), (105 : Int32), (103 : Int32), (104 : Int32), ch] : List Int32), ¬ c < 0 ∧ ¬ (255 : Int32) < c := by
        intro c hc
        simp only [List.mem_cons, List.not_mem_nil, or_false] at hc
        rcases hc with rfl | rfl | rfl | rfl | rfl <;> first | exact ⟨by decide, by decide⟩ | exact hch
      obtain ⟨_, T389, L389, X389, ⟨rfl, M389, K389, E389, C389, t389, kb389, gn389, gs389, nx389, F389, V389⟩, st389⟩ := callInitB X385 hx hZ rfl hown (W_ hw 8 rfl) (W_ hw 9 rfl) (W_ hw 10 rfl) (by decide) (argsL := [(.ref r383)]) (rest := [(.ref b385)]) (W := 1) (StrChars.Road.backV (s := (s.setVm s.vm)) (W := 1) hZ (own_hw_words hw) (kI := 4) (W_ hw 6 rfl) (x := b385) (b := r383) (cs := ([(104 : Int32), (105 : Int32), (103 : Int32), (104 : Int32), ch] : List Int32)) (bs := ([(104 : Int32), (105 : Int32), (103 : Int32), (104 : Int32), ch] : List Int32).map (fun c => c.toInt8.toInt32)) (n := 5) gn385 (old_le ((O0.keep K383 all0).ext E385)) A385 F385_value F385_coder (f383_0.ext E385) (Sta.ext ((O0.keep K383 all0).ext E385).2 O_1) hz0 rfl rfl (by decide) (by decide) hp388 rfl (by decide) (by decide)) e385 (lenOf own_pd11 rfl) (pc := 266) (Ls := #[iv x1, iv x2, iv x3, lv_ x4, s_, iv (2 : Int32), iv (2 : Int32), iv ch, u_, iv (-1 : Int32), rv r383, u_, u_, u_, u_]) (st := [(.ref r383), (.ref b385), (.ref b385)]) rfl (by rw [hml]; rfl) (hb hby at_266) (Nat.le_of_eq rfl) (by decide) (by decide)
      have hq390 := CHr.keep K389 (sfS sf387 sf0) hR386.1
      have hR390 := CHr.trans hR386 hq390
      have N389 := Fr.app N383 M389
      refine Goes.via (B := T389.setTop (mkF m 269 #[iv x1, iv x2, iv x3, lv_ x4, s_, iv (2 : Int32), iv (2 : Int32), iv ch, u_, iv (-1 : Int32), rv r383, u_, u_, u_, u_] [(.ref b385)])) (fun t k => st389 _ k) ?_
      have w391 : Arv Z T389.heap t389 kb389 .byte (Int32.ofNat ([(104 : Int32), (105 : Int32), (103 : Int32), (104 : Int32), ch] : List Int32).length) ((([(104 : Int32), (105 : Int32), (103 : Int32), (104 : Int32), ch] : List Int32).map StrChars.lo8).map Value.int) (.int 0) := V389
      refine Gv T389 271 [] (fun t k => XS.astore X389.here hx rfl (hb hby at_269) rfl rfl (l' := #[iv x1, iv x2, iv x3, lv_ x4, s_, iv (2 : Int32), iv (2 : Int32), iv ch, rv b385, iv (-1 : Int32), rv r383, u_, u_, u_, u_]) rfl k) ?_
      obtain ⟨Xr392, hSr392, hZr392, hor392⟩ := rebase (cells := 8) (slots := 96) (X389.more (by decide) (by decide)) hS0 rfl (Nat.le_trans (Nat.le_trans (Nat.le_trans hk0 K383.1) E385.1) K389.1) hZ hown
      exact j3 T389 _ T389.heap Xr392 rfl N389 hSr392 hZr392 hor392 (CHr.trans hR390 (CHv.at X389 hZ hEL hR390.1)) b385 t389 kb389 ([(104 : Int32), (105 : Int32), (103 : Int32), (104 : Int32), ch] : List Int32) (-1 : Int32) r383 (((O0.keep K383 all0).ext E385).keep K389 (allS gn385 all0)) E389 F389 C389 w391 hp388 (by simp) (Or.inr (Or.inr (Or.inr ⟨⟨(fun z => by simp [own_low, own_sub, own_hig] at z), (fun z => by simp [own_low, own_sub, own_hig] at z), (fun z => by simp [own_low, own_sub, own_hig] at z)⟩, rfl⟩)))
    · obtain ⟨_, T393, L393, X393, ⟨r393, kr393, rfl, M393, K393, z393_0, f393_0⟩, st393⟩ := callStatic X0 hx hZ hown (W_ hw 0 rfl) (W_ hw 1 rfl) (W_ hw 2 rfl) (W_ hw 3 rfl) (by decide) (argsL := [(.int (2 : Int32)), (.int (3 : Int32)), (.int ch)]) (rest := []) (own_m25 l Z a0 hw [] ch h0 n0 O0 hch) e0 (lenOf own_pd10 rfl) (pc := 199) (Ls := #[iv x1, iv x2, iv x3, lv_ x4, s_, iv (2 : Int32), iv (3 : Int32), iv ch, u_, u_, u_, u_, u_, u_, u_]) (st := [(.int ch), (.int (3 : Int32)), (.int (2 : Int32))]) rfl (by rw [hml]; rfl) (hb hby at_199) (W := 0) (Nat.le_of_eq rfl) (by decide) (by decide) (by decide) (by decide)
      have N393 := Fr.app N0 M393
      have gn393_0 : n0 ≤ r393 := Nat.le_trans (old_le O0) z393_0
      have hq394 := CHr.keep K393 sf0 hR0.1
      have hR394 := CHr.trans hR0 hq394
      refine Goes.via (B := T393.setTop (mkF m 202 #[iv x1, iv x2, iv x3, lv_ x4, s_, iv (2 : Int32), iv (3 : Int32), iv ch, u_, u_, u_, u_, u_, u_, u_] [(.ref r393)])) (fun t k => st393 _ k) ?_
      refine Gv T393 204 [] (fun t k => XS.astore X393.here hx rfl (hb hby at_202) rfl rfl (l' := #[iv x1, iv x2, iv x3, lv_ x4, s_, iv (2 : Int32), iv (3 : Int32), iv ch, u_, u_, rv r393, u_, u_, u_, u_]) rfl k) ?_
      refine Gv T393 205 [(.int (-1 : Int32))] (fun t k => XS.iconst X393.here hx rfl (hb hby at_204) k) ?_
      refine Gv T393 207 [] (fun t k => XS.istore X393.here hx rfl (hb hby at_205) rfl (l' := #[iv x1, iv x2, iv x3, lv_ x4, s_, iv (2 : Int32), iv (3 : Int32), iv ch, u_, iv (-1 : Int32), rv r393, u_, u_, u_, u_]) rfl k) ?_
      refine Gv T393 209 [(.int (3 : Int32))] (fun t k => XS.iload X393.here hx rfl (hb hby at_207) rfl k) ?_
      refine Gv T393 219 [] (fun t k => XS.ifYes X393.here hx rfl (pc0 := 209) (pc' := 219) rfl (hb hby at_209) rfl (XT.i0_ne_t (by decide)) (by decide) (by decide) k) ?_
      refine Gv T393 221 [(.int (3 : Int32))] (fun t k => XS.iload X393.here hx rfl (hb hby at_219) rfl k) ?_
      refine Gv T393 222 [(.int (1 : Int32)), (.int (3 : Int32))] (fun t k => XS.iconst X393.here hx rfl (hb hby at_221) k) ?_
      refine Gv T393 260 [] (fun t k => XS.icmpYes X393.here hx rfl (pc0 := 222) (pc' := 260) rfl (hb hby at_222) rfl (XT.ii_ne_t (by decide)) (by decide) (by decide) k) ?_
      obtain ⟨T395, h395, X395, e395, E395, A395, D395, U395, st395⟩ := newO X393 hx hZ hown (W_ hw 5 rfl) (W_ hw 6 rfl) (W_ hw 7 rfl) rfl (g := (mkF m 260 #[iv x1, iv x2, iv x3, lv_ x4, s_, iv (2 : Int32), iv (3 : Int32), iv ch, u_, iv (-1 : Int32), rv r393, u_, u_, u_, u_] [])) rfl (hb hby at_260) (by decide) (by decide)
      obtain ⟨b395, g395⟩ : ∃ z, z = T393.heap.size := ⟨_, rfl⟩
      rw [← g395] at A395 D395 U395 st395
      have gn395 : n0 ≤ b395 := Nat.le_trans (old_le (O0.keep K393 all0)) (Nat.le_of_eq g395.symm)
      have hq396 := CHr.ext E395 hR394.1
      have hR396 := CHr.trans hR394 hq396
      have sf397 := Safe.ext E395 hR394.1 (Safe.new (Nat.le_of_eq g395.symm))
      have F395_coder : Fld Z h395 b395 "java/lang/String" "coder" "B" (.int (0 : Int32)) := D395 (Or.inr (W_ hw 31 rfl)) (ty := .byte) (by decide)
      have F395_value : Fld Z h395 b395 "java/lang/String" "value" "[B" .null := D395 (Or.inr (W_ hw 33 rfl)) (ty := (.array .byte)) (by decide)
      refine Goes.via (B := T395.setTop (mkF m 263 #[iv x1, iv x2, iv x3, lv_ x4, s_, iv (2 : Int32), iv (3 : Int32), iv ch, u_, iv (-1 : Int32), rv r393, u_, u_, u_, u_] [(.ref b395)])) (fun t k => st395 _ k) ?_
      refine Gv T395 264 [(.ref b395), (.ref b395)] (fun t k => XS.dup X395.here hx rfl (hb hby at_263) rfl rfl k) ?_
      refine Gv T395 266 [(.ref r393), (.ref b395), (.ref b395)] (fun t k => XS.aload X395.here hx rfl (hb hby at_264) rfl rfl k) ?_
      have hp398 : ∀ c ∈ ([(104 : Int32), (105 : Int32), (103 : Int32)] : List Int32), ¬ c < 0 ∧ ¬ (255 : Int32) < c := by
        intro c hc
        simp only [List.mem_cons, List.not_mem_nil, or_false] at hc
        rcases hc with rfl | rfl | rfl <;> first | exact ⟨by decide, by decide⟩ | skip
      obtain ⟨_, T399, L399, X399, ⟨rfl, M399, K399, E399, C399, t399, kb399, gn399, gs399, nx399, F399, V399⟩, st399⟩ := callInitB X395 hx hZ rfl hown (W_ hw 8 rfl) (W_ hw 9 rfl) (W_ hw 10 rfl) (by decide) (argsL := [(.ref r393)]) (rest := [(.ref b395)]) (W := 1) (StrChars.Road.backV (s := (s.setVm s.vm)) (W := 1) hZ (own_hw_words hw) (kI := 4) (W_ hw 6 rfl) (x := b395) (b := r393) (cs := ([(104 : Int32), (105 : Int32), (103 : Int32)] : List Int32)) (bs := ([(104 : Int32), (105 : Int32), (103 : Int32)] : List Int32).map (fun c => c.toInt8.toInt32)) (n := 3) gn395 (old_le ((O0.keep K393 all0).ext E395)) A395 F395_value F395_coder (f393_0.ext E395) (Sta.ext ((O0.keep K393 all0).ext E395).2 O_1) hz0 rfl rfl (by decide) (by decide) hp398 rfl (by decide) (by decide)) e395 (lenOf own_pd11 rfl) (pc := 266) (Ls := #[iv x1, iv x2, iv x3, lv_ x4, s_, iv (2 : Int32), iv (3 : Int32), iv ch, u_, iv (-1 : Int32), rv r393, u_, u_, u_, u_]) (st := [(.ref r393), (.ref b395), (.ref b395)]) rfl (by rw [hml]; rfl) (hb hby at_266) (Nat.le_of_eq rfl) (by decide) (by decide)
      have hq400 := CHr.keep K399 (sfS sf397 sf0) hR396.1
      have hR400 := CHr.trans hR396 hq400
      have N399 := Fr.app N393 M399
      refine Goes.via (B := T399.setTop (mkF m 269 #[iv x1, iv x2, iv x3, lv_ x4, s_, iv (2 : Int32), iv (3 : Int32), iv ch, u_, iv (-1 : Int32), rv r393, u_, u_, u_, u_] [(.ref b395)])) (fun t k => st399 _ k) ?_
      have w401 : Arv Z T399.heap t399 kb399 .byte (Int32.ofNat ([(104 : Int32), (105 : Int32), (103 : Int32)] : List Int32).length) ((([(104 : Int32), (105 : Int32), (103 : Int32)] : List Int32).map StrChars.lo8).map Value.int) (.int 0) := V399
      refine Gv T399 271 [] (fun t k => XS.astore X399.here hx rfl (hb hby at_269) rfl rfl (l' := #[iv x1, iv x2, iv x3, lv_ x4, s_, iv (2 : Int32), iv (3 : Int32), iv ch, rv b395, iv (-1 : Int32), rv r393, u_, u_, u_, u_]) rfl k) ?_
      obtain ⟨Xr402, hSr402, hZr402, hor402⟩ := rebase (cells := 8) (slots := 96) (X399.more (by decide) (by decide)) hS0 rfl (Nat.le_trans (Nat.le_trans (Nat.le_trans hk0 K393.1) E395.1) K399.1) hZ hown
      exact j3 T399 _ T399.heap Xr402 rfl N399 hSr402 hZr402 hor402 (CHr.trans hR400 (CHv.at X399 hZ hEL hR400.1)) b395 t399 kb399 ([(104 : Int32), (105 : Int32), (103 : Int32)] : List Int32) (-1 : Int32) r393 (((O0.keep K393 all0).ext E395).keep K399 (allS gn395 all0)) E399 F399 C399 w401 hp398 (by decide) (Or.inr (Or.inr (Or.inr ⟨⟨(fun z => by simp [own_low, own_sub, own_hig] at z), (fun z => by simp [own_low, own_sub, own_hig] at z), (fun z => by simp [own_low, own_sub, own_hig] at z)⟩, rfl⟩)))
  · refine Gv s₁ 22 [(.int (3 : Int32))] (fun t k => XS.iload X0.here hx rfl (hb hby at_20) rfl k) ?_
    refine Gv s₁ 23 [(.int (3 : Int32)), (.int (3 : Int32))] (fun t k => XS.iconst X0.here hx rfl (hb hby at_22) k) ?_
    refine Gv s₁ 26 [] (fun t k => XS.icmpNo X0.here hx rfl (hb hby at_23) rfl (XT.ii_ne_f rfl) k) ?_
    refine Gv s₁ 27 [(.int x1)] (fun t k => XS.iloadN X0.here hx rfl (hb hby at_26) rfl k) ?_
    refine Gv s₁ 29 [(.int (32 : Int32)), (.int x1)] (fun t k => XS.bipush X0.here hx rfl (hb hby at_27) k) ?_
    refine Gv s₁ 30 [(.int (x1 &&& (32 : Int32)))] (fun t k => XS.iand X0.here hx rfl (hb hby at_29) rfl k) ?_
    by_cases b403 : (x1 &&& (32 : Int32)) = (0 : Int32)
    · refine Gv s₁ 42 [] (fun t k => XS.ifYes X0.here hx rfl (pc0 := 30) (pc' := 42) rfl (hb hby at_30) rfl (XT.i0_eq_t b403) (by decide) (by decide) k) ?_
      refine Gv s₁ 43 [(.int x1)] (fun t k => XS.iloadN X0.here hx rfl (hb hby at_42) rfl k) ?_
      refine Gv s₁ 45 [(.int (6 : Int32)), (.int x1)] (fun t k => XS.bipush X0.here hx rfl (hb hby at_43) k) ?_
      refine Gv s₁ 46 [(.int ((x1.toUInt32 >>> ((6 : Int32) &&& 31).toUInt32).toInt32))] (fun t k => XS.iushr X0.here hx rfl (hb hby at_45) rfl k) ?_
      refine Gv s₁ 48 [(.int (7 : Int32)), (.int ((x1.toUInt32 >>> ((6 : Int32) &&& 31).toUInt32).toInt32))] (fun t k => XS.bipush X0.here hx rfl (hb hby at_46) k) ?_
      refine Gv s₁ 49 [(.int (((x1.toUInt32 >>> ((6 : Int32) &&& 31).toUInt32).toInt32) &&& (7 : Int32)))] (fun t k => XS.iand X0.here hx rfl (hb hby at_48) rfl k) ?_
      refine Gv s₁ 50 [(.int (5 : Int32)), (.int (((x1.toUInt32 >>> ((6 : Int32) &&& 31).toUInt32).toInt32) &&& (7 : Int32)))] (fun t k => XS.iconst X0.here hx rfl (hb hby at_49) k) ?_
      refine Goes.via (B := s₁.setTop (mkF m 51 #[iv x1, iv x2, iv x3, lv_ x4, s_, iv (3 : Int32), iv ee, iv ch, u_, u_, u_, u_, u_, u_, u_] [(.int ((((x1.toUInt32 >>> ((6 : Int32) &&& 31).toUInt32).toInt32) &&& (7 : Int32)) % (5 : Int32)))])) (fun t k => iremM X0 hx rfl (hb hby at_50) rfl (by decide) k) ?_
      refine Gv s₁ 53 [] (fun t k => XS.istore X0.here hx rfl (hb hby at_51) rfl (l' := #[iv x1, iv x2, iv x3, lv_ x4, s_, iv (3 : Int32), iv ee, iv ch, u_, u_, iv ((((x1.toUInt32 >>> ((6 : Int32) &&& 31).toUInt32).toInt32) &&& (7 : Int32)) % (5 : Int32)), u_, u_, u_, u_]) rfl k) ?_
      refine Gv s₁ 54 [(.long x4)] (fun t k => XS.lloadN X0.here hx rfl (hb hby at_53) rfl k) ?_
      refine Goes.via (B := s₁.setTop (mkF m 57 #[iv x1, iv x2, iv x3, lv_ x4, s_, iv (3 : Int32), iv ee, iv ch, u_, u_, iv ((((x1.toUInt32 >>> ((6 : Int32) &&& 31).toUInt32).toInt32) &&& (7 : Int32)) % (5 : Int32)), u_, u_, u_, u_] [(.long (255 : Int64)), (.long x4)])) (fun t k => X0.ldc2J hx hown (mvT hZ (W_ hw 104 rfl)) rfl (hb hby at_54) k) ?_
      refine Gv s₁ 58 [(.long (x4 &&& (255 : Int64)))] (fun t k => XS.land X0.here hx rfl (hb hby at_57) rfl k) ?_
      refine Gv s₁ 59 [(.int ((x4 &&& (255 : Int64)).toInt32))] (fun t k => XS.l2i X0.here hx rfl (hb hby at_58) rfl k) ?_
      refine Gv s₁ 60 [(.int (((x4 &&& (255 : Int64)).toInt32).toUInt32.toUInt16.toUInt32.toInt32))] (fun t k => XS.i2c X0.here hx rfl (hb hby at_59) rfl k) ?_
      refine Gv s₁ 62 [] (fun t k => XS.istore X0.here hx rfl (hb hby at_60) rfl (l' := #[iv x1, iv x2, iv x3, lv_ x4, s_, iv (3 : Int32), iv ee, iv ch, u_, u_, iv ((((x1.toUInt32 >>> ((6 : Int32) &&& 31).toUInt32).toInt32) &&& (7 : Int32)) % (5 : Int32)), iv (((x4 &&& (255 : Int64)).toInt32).toUInt32.toUInt16.toUInt32.toInt32), u_, u_, u_]) rfl k) ?_
      refine Gv s₁ 63 [(.long x4)] (fun t k => XS.lloadN X0.here hx rfl (hb hby at_62) rfl k) ?_
      refine Gv s₁ 65 [(.int (8 : Int32)), (.long x4)] (fun t k => XS.bipush X0.here hx rfl (hb hby at_63) k) ?_
      refine Gv s₁ 66 [(.long ((x4.toUInt64 >>> ((8 : Int32) &&& 0x3f).toInt64.toUInt64).toInt64))] (fun t k => XS.lushr X0.here hx rfl (hb hby at_65) rfl k) ?_
      refine Goes.via (B := s₁.setTop (mkF m 69 #[iv x1, iv x2, iv x3, lv_ x4, s_, iv (3 : Int32), iv ee, iv ch, u_, u_, iv ((((x1.toUInt32 >>> ((6 : Int32) &&& 31).toUInt32).toInt32) &&& (7 : Int32)) % (5 : Int32)), iv (((x4 &&& (255 : Int64)).toInt32).toUInt32.toUInt16.toUInt32.toInt32), u_, u_, u_] [(.long (255 : Int64)), (.long ((x4.toUInt64 >>> ((8 : Int32) &&& 0x3f).toInt64.toUInt64).toInt64))])) (fun t k => X0.ldc2J hx hown (mvT hZ (W_ hw 104 rfl)) rfl (hb hby at_66) k) ?_
      refine Gv s₁ 70 [(.long (((x4.toUInt64 >>> ((8 : Int32) &&& 0x3f).toInt64.toUInt64).toInt64) &&& (255 : Int64)))] (fun t k => XS.land X0.here hx rfl (hb hby at_69) rfl k) ?_
      refine Gv s₁ 71 [(.int ((((x4.toUInt64 >>> ((8 : Int32) &&& 0x3f).toInt64.toUInt64).toInt64) &&& (255 : Int64)).toInt32))] (fun t k => XS.l2i X0.here hx rfl (hb hby at_70) rfl k) ?_
      refine Gv s₁ 72 [(.int (((((x4.toUInt64 >>> ((8 : Int32) &&& 0x3f).toInt64.toUInt64).toInt64) &&& (255 : Int64)).toInt32).toUInt32.toUInt16.toUInt32.toInt32))] (fun t k => XS.i2c X0.here hx rfl (hb hby at_71) rfl k) ?_
      refine Gv s₁ 74 [] (fun t k => XS.istore X0.here hx rfl (hb hby at_72) rfl (l' := #[iv x1, iv x2, iv x3, lv_ x4, s_, iv (3 : Int32), iv ee, iv ch, u_, u_, iv ((((x1.toUInt32 >>> ((6 : Int32) &&& 31).toUInt32).toInt32) &&& (7 : Int32)) % (5 : Int32)), iv (((x4 &&& (255 : Int64)).toInt32).toUInt32.toUInt16.toUInt32.toInt32), iv (((((x4.toUInt64 >>> ((8 : Int32) &&& 0x3f).toInt64.toUInt64).toInt64) &&& (255 : Int64)).toInt32).toUInt32.toUInt16.toUInt32.toInt32), u_, u_]) rfl k) ?_
      refine Gv s₁ 75 [(.long x4)] (fun t k => XS.lloadN X0.here hx rfl (hb hby at_74) rfl k) ?_
      refine Gv s₁ 77 [(.int (16 : Int32)), (.long x4)] (fun t k => XS.bipush X0.here hx rfl (hb hby at_75) k) ?_
      refine Gv s₁ 78 [(.long ((x4.toUInt64 >>> ((16 : Int32) &&& 0x3f).toInt64.toUInt64).toInt64))] (fun t k => XS.lushr X0.here hx rfl (hb hby at_77) rfl k) ?_
      refine Goes.via (B := s₁.setTop (mkF m 81 #[iv x1, iv x2, iv x3, lv_ x4, s_, iv (3 : Int32), iv ee, iv ch, u_, u_, iv ((((x1.toUInt32 >>> ((6 : Int32) &&& 31).toUInt32).toInt32) &&& (7 : Int32)) % (5 : Int32)), iv (((x4 &&& (255 : Int64)).toInt32).toUInt32.toUInt16.toUInt32.toInt32), iv (((((x4.toUInt64 >>> ((8 : Int32) &&& 0x3f).toInt64.toUInt64).toInt64) &&& (255 : Int64)).toInt32).toUInt32.toUInt16.toUInt32.toInt32), u_, u_] [(.long (255 : Int64)), (.long ((x4.toUInt64 >>> ((16 : Int32) &&& 0x3f).toInt64.toUInt64).toInt64))])) (fun t k => X0.ldc2J hx hown (mvT hZ (W_ hw 104 rfl)) rfl (hb hby at_78) k) ?_
      refine Gv s₁ 82 [(.long (((x4.toUInt64 >>> ((16 : Int32) &&& 0x3f).toInt64.toUInt64).toInt64) &&& (255 : Int64)))] (fun t k => XS.land X0.here hx rfl (hb hby at_81) rfl k) ?_
      refine Gv s₁ 83 [(.int ((((x4.toUInt64 >>> ((16 : Int32) &&& 0x3f).toInt64.toUInt64).toInt64) &&& (255 : Int64)).toInt32))] (fun t k => XS.l2i X0.here hx rfl (hb hby at_82) rfl k) ?_
      refine Gv s₁ 84 [(.int (((((x4.toUInt64 >>> ((16 : Int32) &&& 0x3f).toInt64.toUInt64).toInt64) &&& (255 : Int64)).toInt32).toUInt32.toUInt16.toUInt32.toInt32))] (fun t k => XS.i2c X0.here hx rfl (hb hby at_83) rfl k) ?_
      refine Gv s₁ 86 [] (fun t k => XS.istore X0.here hx rfl (hb hby at_84) rfl (l' := #[iv x1, iv x2, iv x3, lv_ x4, s_, iv (3 : Int32), iv ee, iv ch, u_, u_, iv ((((x1.toUInt32 >>> ((6 : Int32) &&& 31).toUInt32).toInt32) &&& (7 : Int32)) % (5 : Int32)), iv (((x4 &&& (255 : Int64)).toInt32).toUInt32.toUInt16.toUInt32.toInt32), iv (((((x4.toUInt64 >>> ((8 : Int32) &&& 0x3f).toInt64.toUInt64).toInt64) &&& (255 : Int64)).toInt32).toUInt32.toUInt16.toUInt32.toInt32), iv (((((x4.toUInt64 >>> ((16 : Int32) &&& 0x3f).toInt64.toUInt64).toInt64) &&& (255 : Int64)).toInt32).toUInt32.toUInt16.toUInt32.toInt32), u_]) rfl k) ?_
      refine Gv s₁ 87 [(.long x4)] (fun t k => XS.lloadN X0.here hx rfl (hb hby at_86) rfl k) ?_
      refine Gv s₁ 89 [(.int (24 : Int32)), (.long x4)] (fun t k => XS.bipush X0.here hx rfl (hb hby at_87) k) ?_
      refine Gv s₁ 90 [(.long ((x4.toUInt64 >>> ((24 : Int32) &&& 0x3f).toInt64.toUInt64).toInt64))] (fun t k => XS.lushr X0.here hx rfl (hb hby at_89) rfl k) ?_
      refine Goes.via (B := s₁.setTop (mkF m 93 #[iv x1, iv x2, iv x3, lv_ x4, s_, iv (3 : Int32), iv ee, iv ch, u_, u_, iv ((((x1.toUInt32 >>> ((6 : Int32) &&& 31).toUInt32).toInt32) &&& (7 : Int32)) % (5 : Int32)), iv (((x4 &&& (255 : Int64)).toInt32).toUInt32.toUInt16.toUInt32.toInt32), iv (((((x4.toUInt64 >>> ((8 : Int32) &&& 0x3f).toInt64.toUInt64).toInt64) &&& (255 : Int64)).toInt32).toUInt32.toUInt16.toUInt32.toInt32), iv (((((x4.toUInt64 >>> ((16 : Int32) &&& 0x3f).toInt64.toUInt64).toInt64) &&& (255 : Int64)).toInt32).toUInt32.toUInt16.toUInt32.toInt32), u_] [(.long (255 : Int64)), (.long ((x4.toUInt64 >>> ((24 : Int32) &&& 0x3f).toInt64.toUInt64).toInt64))])) (fun t k => X0.ldc2J hx hown (mvT hZ (W_ hw 104 rfl)) rfl (hb hby at_90) k) ?_
      refine Gv s₁ 94 [(.long (((x4.toUInt64 >>> ((24 : Int32) &&& 0x3f).toInt64.toUInt64).toInt64) &&& (255 : Int64)))] (fun t k => XS.land X0.here hx rfl (hb hby at_93) rfl k) ?_
      refine Gv s₁ 95 [(.int ((((x4.toUInt64 >>> ((24 : Int32) &&& 0x3f).toInt64.toUInt64).toInt64) &&& (255 : Int64)).toInt32))] (fun t k => XS.l2i X0.here hx rfl (hb hby at_94) rfl k) ?_
      refine Gv s₁ 96 [(.int (((((x4.toUInt64 >>> ((24 : Int32) &&& 0x3f).toInt64.toUInt64).toInt64) &&& (255 : Int64)).toInt32).toUInt32.toUInt16.toUInt32.toInt32))] (fun t k => XS.i2c X0.here hx rfl (hb hby at_95) rfl k) ?_
      refine Gv s₁ 98 [] (fun t k => XS.istore X0.here hx rfl (hb hby at_96) rfl (l' := #[iv x1, iv x2, iv x3, lv_ x4, s_, iv (3 : Int32), iv ee, iv ch, u_, u_, iv ((((x1.toUInt32 >>> ((6 : Int32) &&& 31).toUInt32).toInt32) &&& (7 : Int32)) % (5 : Int32)), iv (((x4 &&& (255 : Int64)).toInt32).toUInt32.toUInt16.toUInt32.toInt32), iv (((((x4.toUInt64 >>> ((8 : Int32) &&& 0x3f).toInt64.toUInt64).toInt64) &&& (255 : Int64)).toInt32).toUInt32.toUInt16.toUInt32.toInt32), iv (((((x4.toUInt64 >>> ((16 : Int32) &&& 0x3f).toInt64.toUInt64).toInt64) &&& (255 : Int64)).toInt32).toUInt32.toUInt16.toUInt32.toInt32), iv (((((x4.toUInt64 >>> ((24 : Int32) &&& 0x3f).toInt64.toUInt64).toInt64) &&& (255 : Int64)).toInt32).toUInt32.toUInt16.toUInt32.toInt32)]) rfl k) ?_
      suffices J404 : ∀ (fc : Int32) (fd : Int32) (fb : Int32) (nn : Int32) (fa : Int32) (hnn : nn = 0 ∨ nn = 1 ∨ nn = 2 ∨ nn = 3 ∨ nn = 4) (hfa : ¬ fa < (0 : Int32) ∧ ¬ (255 : Int32) < fa) (hfb : ¬ fb < (0 : Int32) ∧ ¬ (255 : Int32) < fb) (hfc : ¬ fc < (0 : Int32) ∧ ¬ (255 : Int32) < fc) (hfd : ¬ fd < (0 : Int32) ∧ ¬ (255 : Int32) < fd), Goes p.tables e below (fun t o => ∃ v L, o = .returned v ∧ (own_Q31 Z x1 x2 x3 x4 z0 oe va kv aL sL tL kL aS sS tS kS aH sH tH kH h0 n0) v t.heap L ∧ EndH Z consts_1 s o t L (room_1).cells (room_1).slots) (s₁.setTop (mkF m 98 #[iv x1, iv x2, iv x3, lv_ x4, s_, iv (3 : Int32), iv ee, iv ch, u_, u_, iv nn, iv fa, iv fb, iv fc, iv fd] [])) by exact J404 (((((x4.toUInt64 >>> ((16 : Int32) &&& 0x3f).toInt64.toUInt64).toInt64) &&& (255 : Int64)).toInt32).toUInt32.toUInt16.toUInt32.toInt32) (((((x4.toUInt64 >>> ((24 : Int32) &&& 0x3f).toInt64.toUInt64).toInt64) &&& (255 : Int64)).toInt32).toUInt32.toUInt16.toUInt32.toInt32) (((((x4.toUInt64 >>> ((8 : Int32) &&& 0x3f).toInt64.toUInt64).toInt64) &&& (255 : Int64)).toInt32).toUInt32.toUInt16.toUInt32.toInt32) ((((x1.toUInt32 >>> ((6 : Int32) &&& 31).toUInt32).toInt32) &&& (7 : Int32)) % (5 : Int32)) (((x4 &&& (255 : Int64)).toInt32).toUInt32.toUInt16.toUInt32.toInt32) (own_rem5 (c_and _ _ (by decide)).1) (own_lr _) (own_lr _) (own_lr _) (own_lr _)
      intro fc fd fb nn fa hnn hfa hfb hfc hfd
      have j405 : ∀ (T406 : State) (lc406 : List Loc) (h406 : Heap) (X406 : Stand p l e room_1 (s.setVm T406.vm) m #[(.int x1), (.int x2), (.int x3), (.long x4)] below meth c T406 lc406 8 96) (e406 : T406.heap = h406) (N406 : Fr n0 lc406) (hS406 : s.Since T406.vm h406.size) (hZ406 : Z.Warmed39 T406.vm) (hown406 : T406.vm.findClass "com/example/castellan/castellan/config/AssuranceLevelNamedPinLaw" = some m.cls) (hR406 : CHr Z consts_1 s.vm s.heap T406.vm h406) (sa : Addr) (st_ : Addr) (sk_ : ClassId) (cs : List Int32) (ev : Int32) (O406 : Old Z n0 h406) (F406_0 : Exa Z h406 sa "java/lang/String") (F406_1 : Fld Z h406 sa "java/lang/String" "value" "[B" (.ref st_)) (F406_2 : Fld Z h406 sa "java/lang/String" "coder" "B" (.int (0 : Int32))) (F406_3 : Arv Z h406 st_ sk_ .byte (Int32.ofNat cs.length) ((cs.map StrChars.lo8).map Value.int) (.int 0)) (hcs : ∀ c ∈ cs, ¬ c < 0 ∧ ¬ (255 : Int32) < c) (lcs : cs.length ≤ 4000) (hex : (cs = own_low ∧ ev = (0 : Int32)) ∨ (cs = own_sub ∧ ev = (1 : Int32)) ∨ (cs = own_hig ∧ ev = (2 : Int32)) ∨ ((¬ cs = own_low ∧ ¬ cs = own_sub ∧ ¬ cs = own_hig) ∧ ev = (-1 : Int32))) , Goes p.tables e below (fun t o => ∃ v L, o = .returned v ∧ (own_Q31 Z x1 x2 x3 x4 z0 oe va kv aL sL tL kL aS sS tS kS aH sH tH kH h0 n0) v t.heap L ∧ EndH Z consts_1 s o t L (room_1).cells (room_1).slots) (T406.setTop (mkF m 271 #[iv x1, iv x2, iv x3, lv_ x4, s_, iv (3 : Int32), iv ee, iv ch, rv sa, iv ev, iv nn, iv fa, iv fb, iv fc, iv fd] [])) := by
        intro T406 lc406 h406 X406 e406 N406 hS406 hZ406 hown406 hR406 sa st_ sk_ cs ev O406 F406_0 F406_1 F406_2 F406_3 hcs lcs hex
        refine Gv T406 273 [(.ref sa)] (fun t k => XS.aload X406.here hx rfl (hb hby at_271) rfl rfl k) ?_
        rcases hex with ⟨hc, rfl⟩ | ⟨hc, rfl⟩ | ⟨hc, rfl⟩ | ⟨hc, rfl⟩
        · obtain ⟨_, T407, L407, X407, ⟨r407, rfl, M407, K407, f407_0, f407_1⟩, st407⟩ := callStatic X406 hx hZ406 hown406 (W_ hw 34 rfl) (W_ hw 35 rfl) (W_ hw 36 rfl) (W_ hw 37 rfl) (by decide) (argsL := [(.ref sa)]) (rest := []) (own_m12 l Z a0 hw [] sa st_ sk_ cs z0 oe va kv aL sL tL kL aS sS tS kS aH sH tH kH h406 n0 O406 hz0 hcs lcs hc O_1 O_2 O_3 O_4 O_5 O_6 O_7 O_8 O_9 O_10 O_11 O_12 O_13 O_14 O_15 O_16 O_17 O_18 O_19 O_20 O_21 O_22 O_23 F406_0 F406_1 F406_2 F406_3) e406 (lenOf own_pd7 rfl) (pc := 273) (Ls := #[iv x1, iv x2, iv x3, lv_ x4, s_, iv (3 : Int32), iv ee, iv ch, rv sa, iv (0 : Int32), iv nn, iv fa, iv fb, iv fc, iv fd]) (st := [(.ref sa)]) rfl (by rw [hml]; rfl) (hb hby at_273) (W := 0) (Nat.le_of_eq rfl) (by decide) (by decide) (by decide) (by decide)
          have N407 := Fr.app N406 M407
          have hq408 := CHr.keep K407 sf0 hR406.1
          have hR408 := CHr.trans hR406 hq408
          refine Goes.via (B := T407.setTop (mkF m 276 #[iv x1, iv x2, iv x3, lv_ x4, s_, iv (3 : Int32), iv ee, iv ch, rv sa, iv (0 : Int32), iv nn, iv fa, iv fb, iv fc, iv fd] [(.ref r407)])) (fun t k => st407 _ k) ?_
          refine Gv T407 278 [] (fun t k => XS.astore X407.here hx rfl (hb hby at_276) rfl rfl (l' := #[iv x1, iv x2, iv x3, lv_ x4, s_, iv (3 : Int32), iv ee, iv ch, rv sa, iv (0 : Int32), rv r407, iv fa, iv fb, iv fc, iv fd]) rfl k) ?_
          refine Gv T407 280 [(.int (0 : Int32))] (fun t k => XS.iload X407.here hx rfl (hb hby at_278) rfl k) ?_
          refine Gv T407 297 [] (fun t k => XS.ifYes X407.here hx rfl (pc0 := 280) (pc' := 297) rfl (hb hby at_280) rfl (XT.i0_ge_t (by decide)) (by decide) (by decide) k) ?_
          refine Gv T407 299 [(.ref r407)] (fun t k => XS.aload X407.here hx rfl (hb hby at_297) rfl rfl k) ?_
          obtain ⟨_, T409, L409, X409, ⟨rfl, M409, K409⟩, st409⟩ := callVirt X407 hx hZ406 hown406 (W_ hw 85 rfl) (W_ hw 86 rfl) (W_ hw 88 rfl) (notFace_of_selects (args := #[]) (mvT hZ406 (W_ hw 88 rfl))) (W_ hw 87 rfl) (W_ hw 70 rfl) (W_ hw 89 rfl) (by decide) (argsL := []) (rest := []) (own_m8 l Z a0 hw [] r407 aL T407.heap n0 (O406.keep K407 all0) f407_0 f407_1) rfl f407_0 (lenOf own_pd8 rfl) (pc := 299) (Ls := #[iv x1, iv x2, iv x3, lv_ x4, s_, iv (3 : Int32), iv ee, iv ch, rv sa, iv (0 : Int32), rv r407, iv fa, iv fb, iv fc, iv fd]) (st := [(.ref r407)]) rfl (by rw [hml]; rfl) (hb hby at_299) (W := 0) (Nat.le_of_eq rfl) (by decide) (by decide) (by decide) (by decide)
          have N409 := Fr.app N407 M409
          refine Goes.via (B := T409.setTop (mkF m 302 #[iv x1, iv x2, iv x3, lv_ x4, s_, iv (3 : Int32), iv ee, iv ch, rv sa, iv (0 : Int32), rv r407, iv fa, iv fb, iv fc, iv fd] [(.int (1 : Int32))])) (fun t k => st409 _ k) ?_
          refine Gv T409 307 [] (fun t k => XS.ifYes X409.here hx rfl (pc0 := 302) (pc' := 307) rfl (hb hby at_302) rfl (XT.i0_ne_t (by decide)) (by decide) (by decide) k) ?_
          refine Gv T409 309 [(.ref r407)] (fun t k => XS.aload X409.here hx rfl (hb hby at_307) rfl rfl k) ?_
          obtain ⟨_, T410, L410, X410, ⟨rfl, M410, K410⟩, st410⟩ := callVirt X409 hx hZ406 hown406 (W_ hw 90 rfl) (W_ hw 91 rfl) (W_ hw 93 rfl) (notFace_of_selects (args := #[]) (mvT hZ406 (W_ hw 93 rfl))) (W_ hw 92 rfl) (W_ hw 70 rfl) (W_ hw 94 rfl) (by decide) (argsL := []) (rest := []) (own_m10 l Z a0 hw [] r407 aL T407.heap n0 (O406.keep K407 all0) f407_0 f407_1) K409 f407_0 (lenOf own_pd9 rfl) (pc := 309) (Ls := #[iv x1, iv x2, iv x3, lv_ x4, s_, iv (3 : Int32), iv ee, iv ch, rv sa, iv (0 : Int32), rv r407, iv fa, iv fb, iv fc, iv fd]) (st := [(.ref r407)]) rfl (by rw [hml]; rfl) (hb hby at_309) (W := 0) (Nat.le_of_eq rfl) (by decide) (by decide) (by decide) (by decide)
          have N410 := Fr.app N409 M410
          refine Goes.via (B := T410.setTop (mkF m 312 #[iv x1, iv x2, iv x3, lv_ x4, s_, iv (3 : Int32), iv ee, iv ch, rv sa, iv (0 : Int32), rv r407, iv fa, iv fb, iv fc, iv fd] [(.ref aL)])) (fun t k => st410 _ k) ?_
          obtain ⟨T411, X411, e411, st411⟩ := castY X410 hx hZ406 hown406 (W_ hw 95 rfl) K410 (Ins.self (O_2.ext (O406.keep K407 all0).2)) (g := (mkF m 312 #[iv x1, iv x2, iv x3, lv_ x4, s_, iv (3 : Int32), iv ee, iv ch, rv sa, iv (0 : Int32), rv r407, iv fa, iv fb, iv fc, iv fd] [(.ref aL)])) rfl rfl (hb hby at_312)
          refine Goes.via (B := T411.setTop (mkF m 315 #[iv x1, iv x2, iv x3, lv_ x4, s_, iv (3 : Int32), iv ee, iv ch, rv sa, iv (0 : Int32), rv r407, iv fa, iv fb, iv fc, iv fd] [(.ref aL)])) (fun t k => st411 _ k) ?_
          refine Gv T411 317 [] (fun t k => XS.astore X411.here hx rfl (hb hby at_315) rfl rfl (l' := #[iv x1, iv x2, iv x3, lv_ x4, s_, iv (3 : Int32), iv ee, iv ch, rv sa, iv (0 : Int32), rv r407, rv aL, iv fb, iv fc, iv fd]) rfl k) ?_
          refine Gv T411 319 [(.int (0 : Int32))] (fun t k => XS.iload X411.here hx rfl (hb hby at_317) rfl k) ?_
          refine Gv T411 322 [] (fun t k => XS.ifNo X411.here hx rfl (hb hby at_319) rfl (XT.i0_ne_f rfl) k) ?_
          refine Gv T411 324 [(.ref aL)] (fun t k => XS.aload X411.here hx rfl (hb hby at_322) rfl rfl k) ?_
          obtain ⟨T412, X412, e412, st412⟩ := getS2 X411 hx hZ406 hown406 (host := "") (Or.inl (W_ hw 97 rfl)) Via.refl e411 (Sta.ext (O406.keep K407 all0).2 O_26) (g := (mkF m 324 #[iv x1, iv x2, iv x3, lv_ x4, s_, iv (3 : Int32), iv ee, iv ch, rv sa, iv (0 : Int32), rv r407, rv aL, iv fb, iv fc, iv fd] [(.ref aL)])) rfl (hb hby at_324)
          refine Goes.via (B := T412.setTop (mkF m 327 #[iv x1, iv x2, iv x3, lv_ x4, s_, iv (3 : Int32), iv ee, iv ch, rv sa, iv (0 : Int32), rv r407, rv aL, iv fb, iv fc, iv fd] [(.ref aL), (.ref aL)])) (fun t k => st412 _ k) ?_
          refine Gv T412 330 [] (fun t k => XT.acmpNo X412.here hx rfl (hb hby at_327) rfl rfl rfl (XT.aa_ne_f rfl) k) ?_
          refine Gv T412 331 [(.int (1 : Int32))] (fun t k => XS.iconst X412.here hx rfl (hb hby at_330) k) ?_
          refine Gv T412 335 [(.int (1 : Int32))] (fun t k => XS.goto X412.here hx rfl (pc0 := 331) (pc' := 335) rfl (hb hby at_331) (by decide) (by decide) k) ?_
          exact finN (Q := (own_Q31 Z x1 x2 x3 x4 z0 oe va kv aL sL tL kL aS sS tS kS aH sH tH kH h0 n0)) (F := EndH Z consts_1) (C := (room_1).cells) (S := (room_1).slots) X412 hx (t := .boolean) Bd.returns (by simp) (z' := (1 : Int32)) rfl (hb hby at_335) e412 ⟨rfl, N410, trivial⟩ (lvH X412 hlk hS406 e412 (Nat.le_trans (Nat.le_refl _) K407.1) hZ406 hEL hR408 (by decide) (by decide))
        · obtain ⟨_, T413, L413, X413, ⟨r413, rfl, M413, K413, f413_0, f413_1⟩, st413⟩ := callStatic X406 hx hZ406 hown406 (W_ hw 34 rfl) (W_ hw 35 rfl) (W_ hw 36 rfl) (W_ hw 37 rfl) (by decide) (argsL := [(.ref sa)]) (rest := []) (own_m13 l Z a0 hw [] sa st_ sk_ cs z0 oe va kv aL sL tL kL aS sS tS kS aH sH tH kH h406 n0 O406 hz0 hcs lcs hc O_1 O_2 O_3 O_4 O_5 O_6 O_7 O_8 O_9 O_10 O_11 O_12 O_13 O_14 O_15 O_16 O_17 O_18 O_19 O_20 O_21 O_22 O_23 F406_0 F406_1 F406_2 F406_3) e406 (lenOf own_pd7 rfl) (pc := 273) (Ls := #[iv x1, iv x2, iv x3, lv_ x4, s_, iv (3 : Int32), iv ee, iv ch, rv sa, iv (1 : Int32), iv nn, iv fa, iv fb, iv fc, iv fd]) (st := [(.ref sa)]) rfl (by rw [hml]; rfl) (hb hby at_273) (W := 0) (Nat.le_of_eq rfl) (by decide) (by decide) (by decide) (by decide)
          have N413 := Fr.app N406 M413
          have hq414 := CHr.keep K413 sf0 hR406.1
          have hR414 := CHr.trans hR406 hq414
          refine Goes.via (B := T413.setTop (mkF m 276 #[iv x1, iv x2, iv x3, lv_ x4, s_, iv (3 : Int32), iv ee, iv ch, rv sa, iv (1 : Int32), iv nn, iv fa, iv fb, iv fc, iv fd] [(.ref r413)])) (fun t k => st413 _ k) ?_
          refine Gv T413 278 [] (fun t k => XS.astore X413.here hx rfl (hb hby at_276) rfl rfl (l' := #[iv x1, iv x2, iv x3, lv_ x4, s_, iv (3 : Int32), iv ee, iv ch, rv sa, iv (1 : Int32), rv r413, iv fa, iv fb, iv fc, iv fd]) rfl k) ?_
          refine Gv T413 280 [(.int (1 : Int32))] (fun t k => XS.iload X413.here hx rfl (hb hby at_278) rfl k) ?_
          refine Gv T413 297 [] (fun t k => XS.ifYes X413.here hx rfl (pc0 := 280) (pc' := 297) rfl (hb hby at_280) rfl (XT.i0_ge_t (by decide)) (by decide) (by decide) k) ?_
          refine Gv T413 299 [(.ref r413)] (fun t k => XS.aload X413.here hx rfl (hb hby at_297) rfl rfl k) ?_
          obtain ⟨_, T415, L415, X415, ⟨rfl, M415, K415⟩, st415⟩ := callVirt X413 hx hZ406 hown406 (W_ hw 85 rfl) (W_ hw 86 rfl) (W_ hw 88 rfl) (notFace_of_selects (args := #[]) (mvT hZ406 (W_ hw 88 rfl))) (W_ hw 87 rfl) (W_ hw 70 rfl) (W_ hw 89 rfl) (by decide) (argsL := []) (rest := []) (own_m8 l Z a0 hw [] r413 aS T413.heap n0 (O406.keep K413 all0) f413_0 f413_1) rfl f413_0 (lenOf own_pd8 rfl) (pc := 299) (Ls := #[iv x1, iv x2, iv x3, lv_ x4, s_, iv (3 : Int32), iv ee, iv ch, rv sa, iv (1 : Int32), rv r413, iv fa, iv fb, iv fc, iv fd]) (st := [(.ref r413)]) rfl (by rw [hml]; rfl) (hb hby at_299) (W := 0) (Nat.le_of_eq rfl) (by decide) (by decide) (by decide) (by decide)
          have N415 := Fr.app N413 M415
          refine Goes.via (B := T415.setTop (mkF m 302 #[iv x1, iv x2, iv x3, lv_ x4, s_, iv (3 : Int32), iv ee, iv ch, rv sa, iv (1 : Int32), rv r413, iv fa, iv fb, iv fc, iv fd] [(.int (1 : Int32))])) (fun t k => st415 _ k) ?_
          refine Gv T415 307 [] (fun t k => XS.ifYes X415.here hx rfl (pc0 := 302) (pc' := 307) rfl (hb hby at_302) rfl (XT.i0_ne_t (by decide)) (by decide) (by decide) k) ?_
          refine Gv T415 309 [(.ref r413)] (fun t k => XS.aload X415.here hx rfl (hb hby at_307) rfl rfl k) ?_
          obtain ⟨_, T416, L416, X416, ⟨rfl, M416, K416⟩, st416⟩ := callVirt X415 hx hZ406 hown406 (W_ hw 90 rfl) (W_ hw 91 rfl) (W_ hw 93 rfl) (notFace_of_selects (args := #[]) (mvT hZ406 (W_ hw 93 rfl))) (W_ hw 92 rfl) (W_ hw 70 rfl) (W_ hw 94 rfl) (by decide) (argsL := []) (rest := []) (own_m10 l Z a0 hw [] r413 aS T413.heap n0 (O406.keep K413 all0) f413_0 f413_1) K415 f413_0 (lenOf own_pd9 rfl) (pc := 309) (Ls := #[iv x1, iv x2, iv x3, lv_ x4, s_, iv (3 : Int32), iv ee, iv ch, rv sa, iv (1 : Int32), rv r413, iv fa, iv fb, iv fc, iv fd]) (st := [(.ref r413)]) rfl (by rw [hml]; rfl) (hb hby at_309) (W := 0) (Nat.le_of_eq rfl) (by decide) (by decide) (by decide) (by decide)
          have N416 := Fr.app N415 M416
          refine Goes.via (B := T416.setTop (mkF m 312 #[iv x1, iv x2, iv x3, lv_ x4, s_, iv (3 : Int32), iv ee, iv ch, rv sa, iv (1 : Int32), rv r413, iv fa, iv fb, iv fc, iv fd] [(.ref aS)])) (fun t k => st416 _ k) ?_
          obtain ⟨T417, X417, e417, st417⟩ := castY X416 hx hZ406 hown406 (W_ hw 95 rfl) K416 (Ins.self (O_8.ext (O406.keep K413 all0).2)) (g := (mkF m 312 #[iv x1, iv x2, iv x3, lv_ x4, s_, iv (3 : Int32), iv ee, iv ch, rv sa, iv (1 : Int32), rv r413, iv fa, iv fb, iv fc, iv fd] [(.ref aS)])) rfl rfl (hb hby at_312)
          refine Goes.via (B := T417.setTop (mkF m 315 #[iv x1, iv x2, iv x3, lv_ x4, s_, iv (3 : Int32), iv ee, iv ch, rv sa, iv (1 : Int32), rv r413, iv fa, iv fb, iv fc, iv fd] [(.ref aS)])) (fun t k => st417 _ k) ?_
          refine Gv T417 317 [] (fun t k => XS.astore X417.here hx rfl (hb hby at_315) rfl rfl (l' := #[iv x1, iv x2, iv x3, lv_ x4, s_, iv (3 : Int32), iv ee, iv ch, rv sa, iv (1 : Int32), rv r413, rv aS, iv fb, iv fc, iv fd]) rfl k) ?_
          refine Gv T417 319 [(.int (1 : Int32))] (fun t k => XS.iload X417.here hx rfl (hb hby at_317) rfl k) ?_
          refine Gv T417 336 [] (fun t k => XS.ifYes X417.here hx rfl (pc0 := 319) (pc' := 336) rfl (hb hby at_319) rfl (XT.i0_ne_t (by decide)) (by decide) (by decide) k) ?_
          refine Gv T417 338 [(.int (1 : Int32))] (fun t k => XS.iload X417.here hx rfl (hb hby at_336) rfl k) ?_
          refine Gv T417 339 [(.int (1 : Int32)), (.int (1 : Int32))] (fun t k => XS.iconst X417.here hx rfl (hb hby at_338) k) ?_
          refine Gv T417 342 [] (fun t k => XS.icmpNo X417.here hx rfl (hb hby at_339) rfl (XT.ii_ne_f rfl) k) ?_
          refine Gv T417 344 [(.ref aS)] (fun t k => XS.aload X417.here hx rfl (hb hby at_342) rfl rfl k) ?_
          obtain ⟨T418, X418, e418, st418⟩ := getS2 X417 hx hZ406 hown406 (host := "") (Or.inl (W_ hw 111 rfl)) Via.refl e417 (Sta.ext (O406.keep K413 all0).2 O_27) (g := (mkF m 344 #[iv x1, iv x2, iv x3, lv_ x4, s_, iv (3 : Int32), iv ee, iv ch, rv sa, iv (1 : Int32), rv r413, rv aS, iv fb, iv fc, iv fd] [(.ref aS)])) rfl (hb hby at_344)
          refine Goes.via (B := T418.setTop (mkF m 347 #[iv x1, iv x2, iv x3, lv_ x4, s_, iv (3 : Int32), iv ee, iv ch, rv sa, iv (1 : Int32), rv r413, rv aS, iv fb, iv fc, iv fd] [(.ref aS), (.ref aS)])) (fun t k => st418 _ k) ?_
          refine Gv T418 350 [] (fun t k => XT.acmpNo X418.here hx rfl (hb hby at_347) rfl rfl rfl (XT.aa_ne_f rfl) k) ?_
          refine Gv T418 351 [(.int (1 : Int32))] (fun t k => XS.iconst X418.here hx rfl (hb hby at_350) k) ?_
          refine Gv T418 355 [(.int (1 : Int32))] (fun t k => XS.goto X418.here hx rfl (pc0 := 351) (pc' := 355) rfl (hb hby at_351) (by decide) (by decide) k) ?_
          exact finN (Q := (own_Q31 Z x1 x2 x3 x4 z0 oe va kv aL sL tL kL aS sS tS kS aH sH tH kH h0 n0)) (F := EndH Z consts_1) (C := (room_1).cells) (S := (room_1).slots) X418 hx (t := .boolean) Bd.returns (by simp) (z' := (1 : Int32)) rfl (hb hby at_355) e418 ⟨rfl, N416, trivial⟩ (lvH X418 hlk hS406 e418 (Nat.le_trans (Nat.le_refl _) K413.1) hZ406 hEL hR414 (by decide) (by decide))
        · obtain ⟨_, T419, L419, X419, ⟨r419, rfl, M419, K419, f419_0, f419_1⟩, st419⟩ := callStatic X406 hx hZ406 hown406 (W_ hw 34 rfl) (W_ hw 35 rfl) (W_ hw 36 rfl) (W_ hw 37 rfl) (by decide) (argsL := [(.ref sa)]) (rest := []) (own_m14 l Z a0 hw [] sa st_ sk_ cs z0 oe va kv aL sL tL kL aS sS tS kS aH sH tH kH h406 n0 O406 hz0 hcs lcs hc O_1 O_2 O_3 O_4 O_5 O_6 O_7 O_8 O_9 O_10 O_11 O_12 O_13 O_14 O_15 O_16 O_17 O_18 O_19 O_20 O_21 O_22 O_23 F406_0 F406_1 F406_2 F406_3) e406 (lenOf own_pd7 rfl) (pc := 273) (Ls := #[iv x1, iv x2, iv x3, lv_ x4, s_, iv (3 : Int32), iv ee, iv ch, rv sa, iv (2 : Int32), iv nn, iv fa, iv fb, iv fc, iv fd]) (st := [(.ref sa)]) rfl (by rw [hml]; rfl) (hb hby at_273) (W := 0) (Nat.le_of_eq rfl) (by decide) (by decide) (by decide) (by decide)
          have N419 := Fr.app N406 M419
          have hq420 := CHr.keep K419 sf0 hR406.1
          have hR420 := CHr.trans hR406 hq420
          refine Goes.via (B := T419.setTop (mkF m 276 #[iv x1, iv x2, iv x3, lv_ x4, s_, iv (3 : Int32), iv ee, iv ch, rv sa, iv (2 : Int32), iv nn, iv fa, iv fb, iv fc, iv fd] [(.ref r419)])) (fun t k => st419 _ k) ?_
          refine Gv T419 278 [] (fun t k => XS.astore X419.here hx rfl (hb hby at_276) rfl rfl (l' := #[iv x1, iv x2, iv x3, lv_ x4, s_, iv (3 : Int32), iv ee, iv ch, rv sa, iv (2 : Int32), rv r419, iv fa, iv fb, iv fc, iv fd]) rfl k) ?_
          refine Gv T419 280 [(.int (2 : Int32))] (fun t k => XS.iload X419.here hx rfl (hb hby at_278) rfl k) ?_
          refine Gv T419 297 [] (fun t k => XS.ifYes X419.here hx rfl (pc0 := 280) (pc' := 297) rfl (hb hby at_280) rfl (XT.i0_ge_t (by decide)) (by decide) (by decide) k) ?_
          refine Gv T419 299 [(.ref r419)] (fun t k => XS.aload X419.here hx rfl (hb hby at_297) rfl rfl k) ?_
          obtain ⟨_, T421, L421, X421, ⟨rfl, M421, K421⟩, st421⟩ := callVirt X419 hx hZ406 hown406 (W_ hw 85 rfl) (W_ hw 86 rfl) (W_ hw 88 rfl) (notFace_of_selects (args := #[]) (mvT hZ406 (W_ hw 88 rfl))) (W_ hw 87 rfl) (W_ hw 70 rfl) (W_ hw 89 rfl) (by decide) (argsL := []) (rest := []) (own_m8 l Z a0 hw [] r419 aH T419.heap n0 (O406.keep K419 all0) f419_0 f419_1) rfl f419_0 (lenOf own_pd8 rfl) (pc := 299) (Ls := #[iv x1, iv x2, iv x3, lv_ x4, s_, iv (3 : Int32), iv ee, iv ch, rv sa, iv (2 : Int32), rv r419, iv fa, iv fb, iv fc, iv fd]) (st := [(.ref r419)]) rfl (by rw [hml]; rfl) (hb hby at_299) (W := 0) (Nat.le_of_eq rfl) (by decide) (by decide) (by decide) (by decide)
          have N421 := Fr.app N419 M421
          refine Goes.via (B := T421.setTop (mkF m 302 #[iv x1, iv x2, iv x3, lv_ x4, s_, iv (3 : Int32), iv ee, iv ch, rv sa, iv (2 : Int32), rv r419, iv fa, iv fb, iv fc, iv fd] [(.int (1 : Int32))])) (fun t k => st421 _ k) ?_
          refine Gv T421 307 [] (fun t k => XS.ifYes X421.here hx rfl (pc0 := 302) (pc' := 307) rfl (hb hby at_302) rfl (XT.i0_ne_t (by decide)) (by decide) (by decide) k) ?_
          refine Gv T421 309 [(.ref r419)] (fun t k => XS.aload X421.here hx rfl (hb hby at_307) rfl rfl k) ?_
          obtain ⟨_, T422, L422, X422, ⟨rfl, M422, K422⟩, st422⟩ := callVirt X421 hx hZ406 hown406 (W_ hw 90 rfl) (W_ hw 91 rfl) (W_ hw 93 rfl) (notFace_of_selects (args := #[]) (mvT hZ406 (W_ hw 93 rfl))) (W_ hw 92 rfl) (W_ hw 70 rfl) (W_ hw 94 rfl) (by decide) (argsL := []) (rest := []) (own_m10 l Z a0 hw [] r419 aH T419.heap n0 (O406.keep K419 all0) f419_0 f419_1) K421 f419_0 (lenOf own_pd9 rfl) (pc := 309) (Ls := #[iv x1, iv x2, iv x3, lv_ x4, s_, iv (3 : Int32), iv ee, iv ch, rv sa, iv (2 : Int32), rv r419, iv fa, iv fb, iv fc, iv fd]) (st := [(.ref r419)]) rfl (by rw [hml]; rfl) (hb hby at_309) (W := 0) (Nat.le_of_eq rfl) (by decide) (by decide) (by decide) (by decide)
          have N422 := Fr.app N421 M422
          refine Goes.via (B := T422.setTop (mkF m 312 #[iv x1, iv x2, iv x3, lv_ x4, s_, iv (3 : Int32), iv ee, iv ch, rv sa, iv (2 : Int32), rv r419, iv fa, iv fb, iv fc, iv fd] [(.ref aH)])) (fun t k => st422 _ k) ?_
          obtain ⟨T423, X423, e423, st423⟩ := castY X422 hx hZ406 hown406 (W_ hw 95 rfl) K422 (Ins.self (O_14.ext (O406.keep K419 all0).2)) (g := (mkF m 312 #[iv x1, iv x2, iv x3, lv_ x4, s_, iv (3 : Int32), iv ee, iv ch, rv sa, iv (2 : Int32), rv r419, iv fa, iv fb, iv fc, iv fd] [(.ref aH)])) rfl rfl (hb hby at_312)
          refine Goes.via (B := T423.setTop (mkF m 315 #[iv x1, iv x2, iv x3, lv_ x4, s_, iv (3 : Int32), iv ee, iv ch, rv sa, iv (2 : Int32), rv r419, iv fa, iv fb, iv fc, iv fd] [(.ref aH)])) (fun t k => st423 _ k) ?_
          refine Gv T423 317 [] (fun t k => XS.astore X423.here hx rfl (hb hby at_315) rfl rfl (l' := #[iv x1, iv x2, iv x3, lv_ x4, s_, iv (3 : Int32), iv ee, iv ch, rv sa, iv (2 : Int32), rv r419, rv aH, iv fb, iv fc, iv fd]) rfl k) ?_
          refine Gv T423 319 [(.int (2 : Int32))] (fun t k => XS.iload X423.here hx rfl (hb hby at_317) rfl k) ?_
          refine Gv T423 336 [] (fun t k => XS.ifYes X423.here hx rfl (pc0 := 319) (pc' := 336) rfl (hb hby at_319) rfl (XT.i0_ne_t (by decide)) (by decide) (by decide) k) ?_
          refine Gv T423 338 [(.int (2 : Int32))] (fun t k => XS.iload X423.here hx rfl (hb hby at_336) rfl k) ?_
          refine Gv T423 339 [(.int (1 : Int32)), (.int (2 : Int32))] (fun t k => XS.iconst X423.here hx rfl (hb hby at_338) k) ?_
          refine Gv T423 356 [] (fun t k => XS.icmpYes X423.here hx rfl (pc0 := 339) (pc' := 356) rfl (hb hby at_339) rfl (XT.ii_ne_t (by decide)) (by decide) (by decide) k) ?_
          refine Gv T423 358 [(.ref aH)] (fun t k => XS.aload X423.here hx rfl (hb hby at_356) rfl rfl k) ?_
          obtain ⟨T424, X424, e424, st424⟩ := getS2 X423 hx hZ406 hown406 (host := "") (Or.inl (W_ hw 103 rfl)) Via.refl e423 (Sta.ext (O406.keep K419 all0).2 O_28) (g := (mkF m 358 #[iv x1, iv x2, iv x3, lv_ x4, s_, iv (3 : Int32), iv ee, iv ch, rv sa, iv (2 : Int32), rv r419, rv aH, iv fb, iv fc, iv fd] [(.ref aH)])) rfl (hb hby at_358)
          refine Goes.via (B := T424.setTop (mkF m 361 #[iv x1, iv x2, iv x3, lv_ x4, s_, iv (3 : Int32), iv ee, iv ch, rv sa, iv (2 : Int32), rv r419, rv aH, iv fb, iv fc, iv fd] [(.ref aH), (.ref aH)])) (fun t k => st424 _ k) ?_
          refine Gv T424 364 [] (fun t k => XT.acmpNo X424.here hx rfl (hb hby at_361) rfl rfl rfl (XT.aa_ne_f rfl) k) ?_
          refine Gv T424 365 [(.int (1 : Int32))] (fun t k => XS.iconst X424.here hx rfl (hb hby at_364) k) ?_
          refine Gv T424 369 [(.int (1 : Int32))] (fun t k => XS.goto X424.here hx rfl (pc0 := 365) (pc' := 369) rfl (hb hby at_365) (by decide) (by decide) k) ?_
          exact finN (Q := (own_Q31 Z x1 x2 x3 x4 z0 oe va kv aL sL tL kL aS sS tS kS aH sH tH kH h0 n0)) (F := EndH Z consts_1) (C := (room_1).cells) (S := (room_1).slots) X424 hx (t := .boolean) Bd.returns (by simp) (z' := (1 : Int32)) rfl (hb hby at_369) e424 ⟨rfl, N422, trivial⟩ (lvH X424 hlk hS406 e424 (Nat.le_trans (Nat.le_refl _) K419.1) hZ406 hEL hR420 (by decide) (by decide))
        · obtain ⟨_, T425, L425, X425, ⟨rfl, M425, K425⟩, st425⟩ := callStatic X406 hx hZ406 hown406 (W_ hw 34 rfl) (W_ hw 35 rfl) (W_ hw 36 rfl) (W_ hw 37 rfl) (by decide) (argsL := [(.ref sa)]) (rest := []) (own_m15 l Z a0 hw [] sa st_ sk_ cs z0 oe va kv aL sL tL kL aS sS tS kS aH sH tH kH h406 n0 O406 hz0 hcs lcs hc O_1 O_2 O_3 O_4 O_5 O_6 O_7 O_8 O_9 O_10 O_11 O_12 O_13 O_14 O_15 O_16 O_17 O_18 O_19 O_20 O_21 O_22 O_23 F406_0 F406_1 F406_2 F406_3) e406 (lenOf own_pd7 rfl) (pc := 273) (Ls := #[iv x1, iv x2, iv x3, lv_ x4, s_, iv (3 : Int32), iv ee, iv ch, rv sa, iv (-1 : Int32), iv nn, iv fa, iv fb, iv fc, iv fd]) (st := [(.ref sa)]) rfl (by rw [hml]; rfl) (hb hby at_273) (W := 0) (Nat.le_of_eq rfl) (by decide) (by decide) (by decide) (by decide)
          have N425 := Fr.app N406 M425
          have hq426 := CHr.keep K425 sf0 hR406.1
          have hR426 := CHr.trans hR406 hq426
          refine Goes.via (B := T425.setTop (mkF m 276 #[iv x1, iv x2, iv x3, lv_ x4, s_, iv (3 : Int32), iv ee, iv ch, rv sa, iv (-1 : Int32), iv nn, iv fa, iv fb, iv fc, iv fd] [(.ref oe)])) (fun t k => st425 _ k) ?_
          refine Gv T425 278 [] (fun t k => XS.astore X425.here hx rfl (hb hby at_276) rfl rfl (l' := #[iv x1, iv x2, iv x3, lv_ x4, s_, iv (3 : Int32), iv ee, iv ch, rv sa, iv (-1 : Int32), rv oe, iv fa, iv fb, iv fc, iv fd]) rfl k) ?_
          refine Gv T425 280 [(.int (-1 : Int32))] (fun t k => XS.iload X425.here hx rfl (hb hby at_278) rfl k) ?_
          refine Gv T425 283 [] (fun t k => XS.ifNo X425.here hx rfl (hb hby at_280) rfl (XT.i0_ge_f (by decide)) k) ?_
          refine Gv T425 285 [(.ref oe)] (fun t k => XS.aload X425.here hx rfl (hb hby at_283) rfl rfl k) ?_
          obtain ⟨_, T427, L427, X427, ⟨rfl, M427, K427⟩, st427⟩ := callVirt X425 hx hZ406 hown406 (W_ hw 85 rfl) (W_ hw 86 rfl) (W_ hw 88 rfl) (notFace_of_selects (args := #[]) (mvT hZ406 (W_ hw 88 rfl))) (W_ hw 87 rfl) (W_ hw 70 rfl) (W_ hw 89 rfl) (by decide) (argsL := []) (rest := []) (own_m9 l Z a0 hw [] oe T425.heap n0 (O406.keep K425 all0) O_24 O_25) rfl (O_24.ext (O406.keep K425 all0).2) (lenOf own_pd8 rfl) (pc := 285) (Ls := #[iv x1, iv x2, iv x3, lv_ x4, s_, iv (3 : Int32), iv ee, iv ch, rv sa, iv (-1 : Int32), rv oe, iv fa, iv fb, iv fc, iv fd]) (st := [(.ref oe)]) rfl (by rw [hml]; rfl) (hb hby at_285) (W := 0) (Nat.le_of_eq rfl) (by decide) (by decide) (by decide) (by decide)
          have N427 := Fr.app N425 M427
          refine Goes.via (B := T427.setTop (mkF m 288 #[iv x1, iv x2, iv x3, lv_ x4, s_, iv (3 : Int32), iv ee, iv ch, rv sa, iv (-1 : Int32), rv oe, iv fa, iv fb, iv fc, iv fd] [(.int (0 : Int32))])) (fun t k => st427 _ k) ?_
          refine Gv T427 291 [] (fun t k => XS.ifNo X427.here hx rfl (hb hby at_288) rfl (XT.i0_ne_f rfl) k) ?_
          refine Gv T427 292 [(.int (1 : Int32))] (fun t k => XS.iconst X427.here hx rfl (hb hby at_291) k) ?_
          refine Gv T427 296 [(.int (1 : Int32))] (fun t k => XS.goto X427.here hx rfl (pc0 := 292) (pc' := 296) rfl (hb hby at_292) (by decide) (by decide) k) ?_
          exact finN (Q := (own_Q31 Z x1 x2 x3 x4 z0 oe va kv aL sL tL kL aS sS tS kS aH sH tH kH h0 n0)) (F := EndH Z consts_1) (C := (room_1).cells) (S := (room_1).slots) X427 hx (t := .boolean) Bd.returns (by simp) (z' := (1 : Int32)) rfl (hb hby at_296) K427 ⟨rfl, N427, trivial⟩ (lvH X427 hlk hS406 K427 (Nat.le_trans (Nat.le_refl _) K425.1) hZ406 hEL hR426 (by decide) (by decide))
      rcases hnn with rfl | rfl | rfl | rfl | rfl
      · obtain ⟨T428, h428, X428, e428, E428, A428, D428, U428, st428⟩ := newO X0 hx hZ hown (W_ hw 5 rfl) (W_ hw 6 rfl) (W_ hw 7 rfl) e0 (g := (mkF m 98 #[iv x1, iv x2, iv x3, lv_ x4, s_, iv (3 : Int32), iv ee, iv ch, u_, u_, iv (0 : Int32), iv fa, iv fb, iv fc, iv fd] [])) rfl (hb hby at_98) (by decide) (by decide)
        obtain ⟨b428, g428⟩ : ∃ z, z = h0.size := ⟨_, rfl⟩
        rw [← g428] at A428 D428 U428 st428
        have gn428 : n0 ≤ b428 := Nat.le_trans (old_le O0) (Nat.le_of_eq g428.symm)
        have hq429 := CHr.ext E428 hR0.1
        have hR429 := CHr.trans hR0 hq429
        have sf430 := Safe.ext E428 hR0.1 (Safe.new (Nat.le_of_eq g428.symm))
        have F428_coder : Fld Z h428 b428 "java/lang/String" "coder" "B" (.int (0 : Int32)) := D428 (Or.inr (W_ hw 31 rfl)) (ty := .byte) (by decide)
        have F428_value : Fld Z h428 b428 "java/lang/String" "value" "[B" .null := D428 (Or.inr (W_ hw 33 rfl)) (ty := (.array .byte)) (by decide)
        refine Goes.via (B := T428.setTop (mkF m 101 #[iv x1, iv x2, iv x3, lv_ x4, s_, iv (3 : Int32), iv ee, iv ch, u_, u_, iv (0 : Int32), iv fa, iv fb, iv fc, iv fd] [(.ref b428)])) (fun t k => st428 _ k) ?_
        refine Gv T428 102 [(.ref b428), (.ref b428)] (fun t k => XS.dup X428.here hx rfl (hb hby at_101) rfl rfl k) ?_
        refine Gv T428 104 [(.int (0 : Int32)), (.ref b428), (.ref b428)] (fun t k => XS.iload X428.here hx rfl (hb hby at_102) rfl k) ?_
        refine Gv T428 106 [(.int fa), (.int (0 : Int32)), (.ref b428), (.ref b428)] (fun t k => XS.iload X428.here hx rfl (hb hby at_104) rfl k) ?_
        refine Gv T428 108 [(.int fb), (.int fa), (.int (0 : Int32)), (.ref b428), (.ref b428)] (fun t k => XS.iload X428.here hx rfl (hb hby at_106) rfl k) ?_
        refine Gv T428 110 [(.int fc), (.int fb), (.int fa), (.int (0 : Int32)), (.ref b428), (.ref b428)] (fun t k => XS.iload X428.here hx rfl (hb hby at_108) rfl k) ?_
        refine Gv T428 112 [(.int fd), (.int fc), (.int fb), (.int fa), (.int (0 : Int32)), (.ref b428), (.ref b428)] (fun t k => XS.iload X428.here hx rfl (hb hby at_110) rfl k) ?_
        obtain ⟨_, T431, L431, X431, ⟨r431, kr431, rfl, M431, K431, z431_0, f431_0⟩, st431⟩ := callStatic X428 hx hZ hown (W_ hw 105 rfl) (W_ hw 106 rfl) (W_ hw 2 rfl) (W_ hw 107 rfl) (by decide) (argsL := [(.int (0 : Int32)), (.int fa), (.int fb), (.int fc), (.int fd)]) (rest := [(.ref b428), (.ref b428)]) (own_m26 l Z a0 hw [] fa fb fc fd h428 n0 (O0.ext E428) hfa hfb hfc hfd) e428 (lenOf own_pd12 rfl) (pc := 112) (Ls := #[iv x1, iv x2, iv x3, lv_ x4, s_, iv (3 : Int32), iv ee, iv ch, u_, u_, iv (0 : Int32), iv fa, iv fb, iv fc, iv fd]) (st := [(.int fd), (.int fc), (.int fb), (.int fa), (.int (0 : Int32)), (.ref b428), (.ref b428)]) rfl (by rw [hml]; rfl) (hb hby at_112) (W := 2) (Nat.le_of_eq rfl) (by decide) (by decide) (by decide) (by decide)
        have N431 := Fr.app N0 M431
        have gn431_0 : n0 ≤ r431 := Nat.le_trans (old_le (O0.ext E428)) z431_0
        have hq432 := CHr.keep K431 sf0 hR429.1
        have hR432 := CHr.trans hR429 hq432
        refine Goes.via (B := T431.setTop (mkF m 115 #[iv x1, iv x2, iv x3, lv_ x4, s_, iv (3 : Int32), iv ee, iv ch, u_, u_, iv (0 : Int32), iv fa, iv fb, iv fc, iv fd] [(.ref r431), (.ref b428), (.ref b428)])) (fun t k => st431 _ k) ?_
        obtain ⟨_, T433, L433, X433, hS433, hZ433, hown433, hC433, ⟨ve433, ke433, rfl, M433, K433, f433_0, f433_1, f433_2, f433_3⟩, st433⟩ := callInitH X431 hx hZ hS0 (Nat.le_trans (Nat.le_trans hk0 E428.1) K431.1) hEL hR432.1 (sf := [b428]) (allS ⟨(Nat.le_trans A428.lt K431.1), (CHr.safe hq432 A428.lt sf430)⟩ all0) rfl hown (W_ hw 8 rfl) (W_ hw 9 rfl) (W_ hw 7 rfl) (W_ hw 10 rfl) (by decide) (argsL := [(.ref r431)]) (rest := [(.ref b428)]) (own_m2 l Z a0 hw [] b428 r431 kr431 T431.heap n0 ((O0.ext E428).keep K431 all0) gn428 (A428.keep K431) (F428_value.keep K431 nin0) (F428_coder.keep K431 nin0) f431_0) rfl (lenOf own_pd11 rfl) (pc := 115) (Ls := #[iv x1, iv x2, iv x3, lv_ x4, s_, iv (3 : Int32), iv ee, iv ch, u_, u_, iv (0 : Int32), iv fa, iv fb, iv fc, iv fd]) (st := [(.ref r431), (.ref b428), (.ref b428)]) rfl (by rw [hml]; rfl) (hb hby at_115) (W := 1) (Nat.le_of_eq rfl) (by decide) (by decide) (by decide) (by decide)
        have N433 := Fr.app N431 M433
        have hq434 := hC433
        have hR434 := CHr.trans hR432 hq434
        refine Goes.via (B := T433.setTop (mkF m 118 #[iv x1, iv x2, iv x3, lv_ x4, s_, iv (3 : Int32), iv ee, iv ch, u_, u_, iv (0 : Int32), iv fa, iv fb, iv fc, iv fd] [(.ref b428)])) (fun t k => st433 _ k) ?_
        have w435 : Arv Z T433.heap ve433 ke433 .byte (Int32.ofNat ([] : List Int32).length) ((([] : List Int32).map StrChars.lo8).map Value.int) (.int 0) := f433_3
        refine Gv T433 120 [] (fun t k => XS.astore X433.here hx rfl (hb hby at_118) rfl rfl (l' := #[iv x1, iv x2, iv x3, lv_ x4, s_, iv (3 : Int32), iv ee, iv ch, rv b428, u_, iv (0 : Int32), iv fa, iv fb, iv fc, iv fd]) rfl k) ?_
        refine Gv T433 121 [(.int (-1 : Int32))] (fun t k => XS.iconst X433.here hx rfl (hb hby at_120) k) ?_
        refine Gv T433 123 [] (fun t k => XS.istore X433.here hx rfl (hb hby at_121) rfl (l' := #[iv x1, iv x2, iv x3, lv_ x4, s_, iv (3 : Int32), iv ee, iv ch, rv b428, iv (-1 : Int32), iv (0 : Int32), iv fa, iv fb, iv fc, iv fd]) rfl k) ?_
        refine Gv T433 125 [(.int (0 : Int32))] (fun t k => XS.iload X433.here hx rfl (hb hby at_123) rfl k) ?_
        refine Gv T433 126 [(.int (3 : Int32)), (.int (0 : Int32))] (fun t k => XS.iconst X433.here hx rfl (hb hby at_125) k) ?_
        refine Gv T433 153 [] (fun t k => XS.icmpYes X433.here hx rfl (pc0 := 126) (pc' := 153) rfl (hb hby at_126) rfl (XT.ii_ne_t (by decide)) (by decide) (by decide) k) ?_
        refine Gv T433 155 [(.int (0 : Int32))] (fun t k => XS.iload X433.here hx rfl (hb hby at_153) rfl k) ?_
        refine Gv T433 156 [(.int (4 : Int32)), (.int (0 : Int32))] (fun t k => XS.iconst X433.here hx rfl (hb hby at_155) k) ?_
        refine Gv T433 190 [] (fun t k => XS.icmpYes X433.here hx rfl (pc0 := 156) (pc' := 190) rfl (hb hby at_156) rfl (XT.ii_ne_t (by decide)) (by decide) (by decide) k) ?_
        refine Gv T433 271 [] (fun t k => XS.goto X433.here hx rfl (pc0 := 190) (pc' := 271) rfl (hb hby at_190) (by decide) (by decide) k) ?_
        obtain ⟨Xr436, hSr436, hZr436, hor436⟩ := rebase (cells := 8) (slots := 96) (X433.more (by decide) (by decide)) hS433 rfl (Nat.le_refl _) hZ433 hown433
        exact j405 T433 _ T433.heap Xr436 rfl N433 hSr436 hZr436 hor436 (CHr.trans hR434 (CHv.at X433 hZ433 hEL hR434.1)) b428 ve433 ke433 ([] : List Int32) (-1 : Int32) (((O0.ext E428).keep K431 all0).keep K433 (allS gn428 all0)) f433_0 f433_1 f433_2 w435 (fun c hc => nomatch hc) (by simp) (Or.inr (Or.inr (Or.inr ⟨⟨(fun z => by simp [own_low, own_sub, own_hig] at z), (fun z => by simp [own_low, own_sub, own_hig] at z), (fun z => by simp [own_low, own_sub, own_hig] at z)⟩, rfl⟩)))
      · obtain ⟨T437, h437, X437, e437, E437, A437, D437, U437, st437⟩ := newO X0 hx hZ hown (W_ hw 5 rfl) (W_ hw 6 rfl) (W_ hw 7 rfl) e0 (g := (mkF m 98 #[iv x1, iv x2, iv x3, lv_ x4, s_, iv (3 : Int32), iv ee, iv ch, u_, u_, iv (1 : Int32), iv fa, iv fb, iv fc, iv fd] [])) rfl (hb hby at_98) (by decide) (by decide)
        obtain ⟨b437, g437⟩ : ∃ z, z = h0.size := ⟨_, rfl⟩
        rw [← g437] at A437 D437 U437 st437
        have gn437 : n0 ≤ b437 := Nat.le_trans (old_le O0) (Nat.le_of_eq g437.symm)
        have hq438 := CHr.ext E437 hR0.1
        have hR438 := CHr.trans hR0 hq438
        have sf439 := Safe.ext E437 hR0.1 (Safe.new (Nat.le_of_eq g437.symm))
        have F437_coder : Fld Z h437 b437 "java/lang/String" "coder" "B" (.int (0 : Int32)) := D437 (Or.inr (W_ hw 31 rfl)) (ty := .byte) (by decide)
        have F437_value : Fld Z h437 b437 "java/lang/String" "value" "[B" .null := D437 (Or.inr (W_ hw 33 rfl)) (ty := (.array .byte)) (by decide)
        refine Goes.via (B := T437.setTop (mkF m 101 #[iv x1, iv x2, iv x3, lv_ x4, s_, iv (3 : Int32), iv ee, iv ch, u_, u_, iv (1 : Int32), iv fa, iv fb, iv fc, iv fd] [(.ref b437)])) (fun t k => st437 _ k) ?_
        refine Gv T437 102 [(.ref b437), (.ref b437)] (fun t k => XS.dup X437.here hx rfl (hb hby at_101) rfl rfl k) ?_
        refine Gv T437 104 [(.int (1 : Int32)), (.ref b437), (.ref b437)] (fun t k => XS.iload X437.here hx rfl (hb hby at_102) rfl k) ?_
        refine Gv T437 106 [(.int fa), (.int (1 : Int32)), (.ref b437), (.ref b437)] (fun t k => XS.iload X437.here hx rfl (hb hby at_104) rfl k) ?_
        refine Gv T437 108 [(.int fb), (.int fa), (.int (1 : Int32)), (.ref b437), (.ref b437)] (fun t k => XS.iload X437.here hx rfl (hb hby at_106) rfl k) ?_
        refine Gv T437 110 [(.int fc), (.int fb), (.int fa), (.int (1 : Int32)), (.ref b437), (.ref b437)] (fun t k => XS.iload X437.here hx rfl (hb hby at_108) rfl k) ?_
        refine Gv T437 112 [(.int fd), (.int fc), (.int fb), (.int fa), (.int (1 : Int32)), (.ref b437), (.ref b437)] (fun t k => XS.iload X437.here hx rfl (hb hby at_110) rfl k) ?_
        obtain ⟨_, T440, L440, X440, ⟨r440, kr440, rfl, M440, K440, z440_0, f440_0⟩, st440⟩ := callStatic X437 hx hZ hown (W_ hw 105 rfl) (W_ hw 106 rfl) (W_ hw 2 rfl) (W_ hw 107 rfl) (by decide) (argsL := [(.int (1 : Int32)), (.int fa), (.int fb), (.int fc), (.int fd)]) (rest := [(.ref b437), (.ref b437)]) (own_m27 l Z a0 hw [] fa fb fc fd h437 n0 (O0.ext E437) hfa hfb hfc hfd) e437 (lenOf own_pd12 rfl) (pc := 112) (Ls := #[iv x1, iv x2, iv x3, lv_ x4, s_, iv (3 : Int32), iv ee, iv ch, u_, u_, iv (1 : Int32), iv fa, iv fb, iv fc, iv fd]) (st := [(.int fd), (.int fc), (.int fb), (.int fa), (.int (1 : Int32)), (.ref b437), (.ref b437)]) rfl (by rw [hml]; rfl) (hb hby at_112) (W := 2) (Nat.le_of_eq rfl) (by decide) (by decide) (by decide) (by decide)
        have N440 := Fr.app N0 M440
        have gn440_0 : n0 ≤ r440 := Nat.le_trans (old_le (O0.ext E437)) z440_0
        have hq441 := CHr.keep K440 sf0 hR438.1
        have hR441 := CHr.trans hR438 hq441
        refine Goes.via (B := T440.setTop (mkF m 115 #[iv x1, iv x2, iv x3, lv_ x4, s_, iv (3 : Int32), iv ee, iv ch, u_, u_, iv (1 : Int32), iv fa, iv fb, iv fc, iv fd] [(.ref r440), (.ref b437), (.ref b437)])) (fun t k => st440 _ k) ?_
        have hp442 : ∀ c ∈ ([fa] : List Int32), ¬ c < 0 ∧ ¬ (255 : Int32) < c := by
          intro c hc
          simp only [List.mem_cons, List.not_mem_nil, or_false] at hc
          rcases hc with rfl <;> first | exact ⟨by decide, by decide⟩ | exact hfa
        obtain ⟨_, T443, L443, X443, ⟨rfl, M443, K443, E443, C443, t443, kb443, gn443, gs443, nx443, F443, V443⟩, st443⟩ := callInitB X440 hx hZ rfl hown (W_ hw 8 rfl) (W_ hw 9 rfl) (W_ hw 10 rfl) (by decide) (argsL := [(.ref r440)]) (rest := [(.ref b437)]) (W := 1) (StrChars.Road.backV (s := (s.setVm s.vm)) (W := 1) hZ (own_hw_words hw) (kI := 4) (W_ hw 6 rfl) (x := b437) (b := r440) (cs := ([fa] : List Int32)) (bs := ([fa] : List Int32).map (fun c => c.toInt8.toInt32)) (n := 1) gn437 (old_le ((O0.ext E437).keep K440 all0)) (A437.keep K440) (F437_value.keep K440 nin0) (F437_coder.keep K440 nin0) f440_0 (Sta.ext ((O0.ext E437).keep K440 all0).2 O_1) hz0 rfl rfl (by decide) (by decide) hp442 rfl (by decide) (by decide)) rfl (lenOf own_pd11 rfl) (pc := 115) (Ls := #[iv x1, iv x2, iv x3, lv_ x4, s_, iv (3 : Int32), iv ee, iv ch, u_, u_, iv (1 : Int32), iv fa, iv fb, iv fc, iv fd]) (st := [(.ref r440), (.ref b437), (.ref b437)]) rfl (by rw [hml]; rfl) (hb hby at_115) (Nat.le_of_eq rfl) (by decide) (by decide)
        have hq444 := CHr.keep K443 (sfS (CHr.safe hq441 A437.lt sf439) sf0) hR441.1
        have hR444 := CHr.trans hR441 hq444
        have N443 := Fr.app N440 M443
        refine Goes.via (B := T443.setTop (mkF m 118 #[iv x1, iv x2, iv x3, lv_ x4, s_, iv (3 : Int32), iv ee, iv ch, u_, u_, iv (1 : Int32), iv fa, iv fb, iv fc, iv fd] [(.ref b437)])) (fun t k => st443 _ k) ?_
        have w445 : Arv Z T443.heap t443 kb443 .byte (Int32.ofNat ([fa] : List Int32).length) ((([fa] : List Int32).map StrChars.lo8).map Value.int) (.int 0) := V443
        refine Gv T443 120 [] (fun t k => XS.astore X443.here hx rfl (hb hby at_118) rfl rfl (l' := #[iv x1, iv x2, iv x3, lv_ x4, s_, iv (3 : Int32), iv ee, iv ch, rv b437, u_, iv (1 : Int32), iv fa, iv fb, iv fc, iv fd]) rfl k) ?_
        refine Gv T443 121 [(.int (-1 : Int32))] (fun t k => XS.iconst X443.here hx rfl (hb hby at_120) k) ?_
        refine Gv T443 123 [] (fun t k => XS.istore X443.here hx rfl (hb hby at_121) rfl (l' := #[iv x1, iv x2, iv x3, lv_ x4, s_, iv (3 : Int32), iv ee, iv ch, rv b437, iv (-1 : Int32), iv (1 : Int32), iv fa, iv fb, iv fc, iv fd]) rfl k) ?_
        refine Gv T443 125 [(.int (1 : Int32))] (fun t k => XS.iload X443.here hx rfl (hb hby at_123) rfl k) ?_
        refine Gv T443 126 [(.int (3 : Int32)), (.int (1 : Int32))] (fun t k => XS.iconst X443.here hx rfl (hb hby at_125) k) ?_
        refine Gv T443 153 [] (fun t k => XS.icmpYes X443.here hx rfl (pc0 := 126) (pc' := 153) rfl (hb hby at_126) rfl (XT.ii_ne_t (by decide)) (by decide) (by decide) k) ?_
        refine Gv T443 155 [(.int (1 : Int32))] (fun t k => XS.iload X443.here hx rfl (hb hby at_153) rfl k) ?_
        refine Gv T443 156 [(.int (4 : Int32)), (.int (1 : Int32))] (fun t k => XS.iconst X443.here hx rfl (hb hby at_155) k) ?_
        refine Gv T443 190 [] (fun t k => XS.icmpYes X443.here hx rfl (pc0 := 156) (pc' := 190) rfl (hb hby at_156) rfl (XT.ii_ne_t (by decide)) (by decide) (by decide) k) ?_
        refine Gv T443 271 [] (fun t k => XS.goto X443.here hx rfl (pc0 := 190) (pc' := 271) rfl (hb hby at_190) (by decide) (by decide) k) ?_
        obtain ⟨Xr446, hSr446, hZr446, hor446⟩ := rebase (cells := 8) (slots := 96) (X443.more (by decide) (by decide)) hS0 rfl (Nat.le_trans (Nat.le_trans (Nat.le_trans hk0 E437.1) K440.1) K443.1) hZ hown
        exact j405 T443 _ T443.heap Xr446 rfl N443 hSr446 hZr446 hor446 (CHr.trans hR444 (CHv.at X443 hZ hEL hR444.1)) b437 t443 kb443 ([fa] : List Int32) (-1 : Int32) (((O0.ext E437).keep K440 all0).keep K443 (allS gn437 all0)) E443 F443 C443 w445 hp442 (by simp) (Or.inr (Or.inr (Or.inr ⟨⟨(fun z => by simp [own_low, own_sub, own_hig] at z), (fun z => by simp [own_low, own_sub, own_hig] at z), (fun z => by simp [own_low, own_sub, own_hig] at z)⟩, rfl⟩)))
      · obtain ⟨T447, h447, X447, e447, E447, A447, D447, U447, st447⟩ := newO X0 hx hZ hown (W_ hw 5 rfl) (W_ hw 6 rfl) (W_ hw 7 rfl) e0 (g := (mkF m 98 #[iv x1, iv x2, iv x3, lv_ x4, s_, iv (3 : Int32), iv ee, iv ch, u_, u_, iv (2 : Int32), iv fa, iv fb, iv fc, iv fd] [])) rfl (hb hby at_98) (by decide) (by decide)
        obtain ⟨b447, g447⟩ : ∃ z, z = h0.size := ⟨_, rfl⟩
        rw [← g447] at A447 D447 U447 st447
        have gn447 : n0 ≤ b447 := Nat.le_trans (old_le O0) (Nat.le_of_eq g447.symm)
        have hq448 := CHr.ext E447 hR0.1
        have hR448 := CHr.trans hR0 hq448
        have sf449 := Safe.ext E447 hR0.1 (Safe.new (Nat.le_of_eq g447.symm))
        have F447_coder : Fld Z h447 b447 "java/lang/String" "coder" "B" (.int (0 : Int32)) := D447 (Or.inr (W_ hw 31 rfl)) (ty := .byte) (by decide)
        have F447_value : Fld Z h447 b447 "java/lang/String" "value" "[B" .null := D447 (Or.inr (W_ hw 33 rfl)) (ty := (.array .byte)) (by decide)
        refine Goes.via (B := T447.setTop (mkF m 101 #[iv x1, iv x2, iv x3, lv_ x4, s_, iv (3 : Int32), iv ee, iv ch, u_, u_, iv (2 : Int32), iv fa, iv fb, iv fc, iv fd] [(.ref b447)])) (fun t k => st447 _ k) ?_
        refine Gv T447 102 [(.ref b447), (.ref b447)] (fun t k => XS.dup X447.here hx rfl (hb hby at_101) rfl rfl k) ?_
        refine Gv T447 104 [(.int (2 : Int32)), (.ref b447), (.ref b447)] (fun t k => XS.iload X447.here hx rfl (hb hby at_102) rfl k) ?_
        refine Gv T447 106 [(.int fa), (.int (2 : Int32)), (.ref b447), (.ref b447)] (fun t k => XS.iload X447.here hx rfl (hb hby at_104) rfl k) ?_
        refine Gv T447 108 [(.int fb), (.int fa), (.int (2 : Int32)), (.ref b447), (.ref b447)] (fun t k => XS.iload X447.here hx rfl (hb hby at_106) rfl k) ?_
        refine Gv T447 110 [(.int fc), (.int fb), (.int fa), (.int (2 : Int32)), (.ref b447), (.ref b447)] (fun t k => XS.iload X447.here hx rfl (hb hby at_108) rfl k) ?_
        refine Gv T447 112 [(.int fd), (.int fc), (.int fb), (.int fa), (.int (2 : Int32)), (.ref b447), (.ref b447)] (fun t k => XS.iload X447.here hx rfl (hb hby at_110) rfl k) ?_
        obtain ⟨_, T450, L450, X450, ⟨r450, kr450, rfl, M450, K450, z450_0, f450_0⟩, st450⟩ := callStatic X447 hx hZ hown (W_ hw 105 rfl) (W_ hw 106 rfl) (W_ hw 2 rfl) (W_ hw 107 rfl) (by decide) (argsL := [(.int (2 : Int32)), (.int fa), (.int fb), (.int fc), (.int fd)]) (rest := [(.ref b447), (.ref b447)]) (own_m28 l Z a0 hw [] fa fb fc fd h447 n0 (O0.ext E447) hfa hfb hfc hfd) e447 (lenOf own_pd12 rfl) (pc := 112) (Ls := #[iv x1, iv x2, iv x3, lv_ x4, s_, iv (3 : Int32), iv ee, iv ch, u_, u_, iv (2 : Int32), iv fa, iv fb, iv fc, iv fd]) (st := [(.int fd), (.int fc), (.int fb), (.int fa), (.int (2 : Int32)), (.ref b447), (.ref b447)]) rfl (by rw [hml]; rfl) (hb hby at_112) (W := 2) (Nat.le_of_eq rfl) (by decide) (by decide) (by decide) (by decide)
        have N450 := Fr.app N0 M450
        have gn450_0 : n0 ≤ r450 := Nat.le_trans (old_le (O0.ext E447)) z450_0
        have hq451 := CHr.keep K450 sf0 hR448.1
        have hR451 := CHr.trans hR448 hq451
        refine Goes.via (B := T450.setTop (mkF m 115 #[iv x1, iv x2, iv x3, lv_ x4, s_, iv (3 : Int32), iv ee, iv ch, u_, u_, iv (2 : Int32), iv fa, iv fb, iv fc, iv fd] [(.ref r450), (.ref b447), (.ref b447)])) (fun t k => st450 _ k) ?_
        have hp452 : ∀ c ∈ ([fa, fb] : List Int32), ¬ c < 0 ∧ ¬ (255 : Int32) < c := by
          intro c hc
          simp only [List.mem_cons, List.not_mem_nil, or_false] at hc
          rcases hc with rfl | rfl <;> first | exact ⟨by decide, by decide⟩ | exact hfa | exact hfb
        obtain ⟨_, T453, L453, X453, ⟨rfl, M453, K453, E453, C453, t453, kb453, gn453, gs453, nx453, F453, V453⟩, st453⟩ := callInitB X450 hx hZ rfl hown (W_ hw 8 rfl) (W_ hw 9 rfl) (W_ hw 10 rfl) (by decide) (argsL := [(.ref r450)]) (rest := [(.ref b447)]) (W := 1) (StrChars.Road.backV (s := (s.setVm s.vm)) (W := 1) hZ (own_hw_words hw) (kI := 4) (W_ hw 6 rfl) (x := b447) (b := r450) (cs := ([fa, fb] : List Int32)) (bs := ([fa, fb] : List Int32).map (fun c => c.toInt8.toInt32)) (n := 2) gn447 (old_le ((O0.ext E447).keep K450 all0)) (A447.keep K450) (F447_value.keep K450 nin0) (F447_coder.keep K450 nin0) f450_0 (Sta.ext ((O0.ext E447).keep K450 all0).2 O_1) hz0 rfl rfl (by decide) (by decide) hp452 rfl (by decide) (by decide)) rfl (lenOf own_pd11 rfl) (pc := 115) (Ls := #[iv x1, iv x2, iv x3, lv_ x4, s_, iv (3 : Int32), iv ee, iv ch, u_, u_, iv (2 : Int32), iv fa, iv fb, iv fc, iv fd]) (st := [(.ref r450), (.ref b447), (.ref b447)]) rfl (by rw [hml]; rfl) (hb hby at_115) (Nat.le_of_eq rfl) (by decide) (by decide)
        have hq454 := CHr.keep K453 (sfS (CHr.safe hq451 A447.lt sf449) sf0) hR451.1
        have hR454 := CHr.trans hR451 hq454
        have N453 := Fr.app N450 M453
        refine Goes.via (B := T453.setTop (mkF m 118 #[iv x1, iv x2, iv x3, lv_ x4, s_, iv (3 : Int32), iv ee, iv ch, u_, u_, iv (2 : Int32), iv fa, iv fb, iv fc, iv fd] [(.ref b447)])) (fun t k => st453 _ k) ?_
        have w455 : Arv Z T453.heap t453 kb453 .byte (Int32.ofNat ([fa, fb] : List Int32).length) ((([fa, fb] : List Int32).map StrChars.lo8).map Value.int) (.int 0) := V453
        refine Gv T453 120 [] (fun t k => XS.astore X453.here hx rfl (hb hby at_118) rfl rfl (l' := #[iv x1, iv x2, iv x3, lv_ x4, s_, iv (3 : Int32), iv ee, iv ch, rv b447, u_, iv (2 : Int32), iv fa, iv fb, iv fc, iv fd]) rfl k) ?_
        refine Gv T453 121 [(.int (-1 : Int32))] (fun t k => XS.iconst X453.here hx rfl (hb hby at_120) k) ?_
        refine Gv T453 123 [] (fun t k => XS.istore X453.here hx rfl (hb hby at_121) rfl (l' := #[iv x1, iv x2, iv x3, lv_ x4, s_, iv (3 : Int32), iv ee, iv ch, rv b447, iv (-1 : Int32), iv (2 : Int32), iv fa, iv fb, iv fc, iv fd]) rfl k) ?_
        refine Gv T453 125 [(.int (2 : Int32))] (fun t k => XS.iload X453.here hx rfl (hb hby at_123) rfl k) ?_
        refine Gv T453 126 [(.int (3 : Int32)), (.int (2 : Int32))] (fun t k => XS.iconst X453.here hx rfl (hb hby at_125) k) ?_
        refine Gv T453 153 [] (fun t k => XS.icmpYes X453.here hx rfl (pc0 := 126) (pc' := 153) rfl (hb hby at_126) rfl (XT.ii_ne_t (by decide)) (by decide) (by decide) k) ?_
        refine Gv T453 155 [(.int (2 : Int32))] (fun t k => XS.iload X453.here hx rfl (hb hby at_153) rfl k) ?_
        refine Gv T453 156 [(.int (4 : Int32)), (.int (2 : Int32))] (fun t k => XS.iconst X453.here hx rfl (hb hby at_155) k) ?_
        refine Gv T453 190 [] (fun t k => XS.icmpYes X453.here hx rfl (pc0 := 156) (pc' := 190) rfl (hb hby at_156) rfl (XT.ii_ne_t (by decide)) (by decide) (by decide) k) ?_
        refine Gv T453 271 [] (fun t k => XS.goto X453.here hx rfl (pc0 := 190) (pc' := 271) rfl (hb hby at_190) (by decide) (by decide) k) ?_
        obtain ⟨Xr456, hSr456, hZr456, hor456⟩ := rebase (cells := 8) (slots := 96) (X453.more (by decide) (by decide)) hS0 rfl (Nat.le_trans (Nat.le_trans (Nat.le_trans hk0 E447.1) K450.1) K453.1) hZ hown
        exact j405 T453 _ T453.heap Xr456 rfl N453 hSr456 hZr456 hor456 (CHr.trans hR454 (CHv.at X453 hZ hEL hR454.1)) b447 t453 kb453 ([fa, fb] : List Int32) (-1 : Int32) (((O0.ext E447).keep K450 all0).keep K453 (allS gn447 all0)) E453 F453 C453 w455 hp452 (by simp) (Or.inr (Or.inr (Or.inr ⟨⟨(fun z => by simp [own_low, own_sub, own_hig] at z), (fun z => by simp [own_low, own_sub, own_hig] at z), (fun z => by simp [own_low, own_sub, own_hig] at z)⟩, rfl⟩)))
      · obtain ⟨T457, h457, X457, e457, E457, A457, D457, U457, st457⟩ := newO X0 hx hZ hown (W_ hw 5 rfl) (W_ hw 6 rfl) (W_ hw 7 rfl) e0 (g := (mkF m 98 #[iv x1, iv x2, iv x3, lv_ x4, s_, iv (3 : Int32), iv ee, iv ch, u_, u_, iv (3 : Int32), iv fa, iv fb, iv fc, iv fd] [])) rfl (hb hby at_98) (by decide) (by decide)
        obtain ⟨b457, g457⟩ : ∃ z, z = h0.size := ⟨_, rfl⟩
        rw [← g457] at A457 D457 U457 st457
        have gn457 : n0 ≤ b457 := Nat.le_trans (old_le O0) (Nat.le_of_eq g457.symm)
        have hq458 := CHr.ext E457 hR0.1
        have hR458 := CHr.trans hR0 hq458
        have sf459 := Safe.ext E457 hR0.1 (Safe.new (Nat.le_of_eq g457.symm))
        have F457_coder : Fld Z h457 b457 "java/lang/String" "coder" "B" (.int (0 : Int32)) := D457 (Or.inr (W_ hw 31 rfl)) (ty := .byte) (by decide)
        have F457_value : Fld Z h457 b457 "java/lang/String" "value" "[B" .null := D457 (Or.inr (W_ hw 33 rfl)) (ty := (.array .byte)) (by decide)
        refine Goes.via (B := T457.setTop (mkF m 101 #[iv x1, iv x2, iv x3, lv_ x4, s_, iv (3 : Int32), iv ee, iv ch, u_, u_, iv (3 : Int32), iv fa, iv fb, iv fc, iv fd] [(.ref b457)])) (fun t k => st457 _ k) ?_
        refine Gv T457 102 [(.ref b457), (.ref b457)] (fun t k => XS.dup X457.here hx rfl (hb hby at_101) rfl rfl k) ?_
        refine Gv T457 104 [(.int (3 : Int32)), (.ref b457), (.ref b457)] (fun t k => XS.iload X457.here hx rfl (hb hby at_102) rfl k) ?_
        refine Gv T457 106 [(.int fa), (.int (3 : Int32)), (.ref b457), (.ref b457)] (fun t k => XS.iload X457.here hx rfl (hb hby at_104) rfl k) ?_
        refine Gv T457 108 [(.int fb), (.int fa), (.int (3 : Int32)), (.ref b457), (.ref b457)] (fun t k => XS.iload X457.here hx rfl (hb hby at_106) rfl k) ?_
        refine Gv T457 110 [(.int fc), (.int fb), (.int fa), (.int (3 : Int32)), (.ref b457), (.ref b457)] (fun t k => XS.iload X457.here hx rfl (hb hby at_108) rfl k) ?_
        refine Gv T457 112 [(.int fd), (.int fc), (.int fb), (.int fa), (.int (3 : Int32)), (.ref b457), (.ref b457)] (fun t k => XS.iload X457.here hx rfl (hb hby at_110) rfl k) ?_
        obtain ⟨_, T460, L460, X460, ⟨r460, kr460, rfl, M460, K460, z460_0, f460_0⟩, st460⟩ := callStatic X457 hx hZ hown (W_ hw 105 rfl) (W_ hw 106 rfl) (W_ hw 2 rfl) (W_ hw 107 rfl) (by decide) (argsL := [(.int (3 : Int32)), (.int fa), (.int fb), (.int fc), (.int fd)]) (rest := [(.ref b457), (.ref b457)]) (own_m29 l Z a0 hw [] fa fb fc fd h457 n0 (O0.ext E457) hfa hfb hfc hfd) e457 (lenOf own_pd12 rfl) (pc := 112) (Ls := #[iv x1, iv x2, iv x3, lv_ x4, s_, iv (3 : Int32), iv ee, iv ch, u_, u_, iv (3 : Int32), iv fa, iv fb, iv fc, iv fd]) (st := [(.int fd), (.int fc), (.int fb), (.int fa), (.int (3 : Int32)), (.ref b457), (.ref b457)]) rfl (by rw [hml]; rfl) (hb hby at_112) (W := 2) (Nat.le_of_eq rfl) (by decide) (by decide) (by decide) (by decide)
        have N460 := Fr.app N0 M460
        have gn460_0 : n0 ≤ r460 := Nat.le_trans (old_le (O0.ext E457)) z460_0
        have hq461 := CHr.keep K460 sf0 hR458.1
        have hR461 := CHr.trans hR458 hq461
        refine Goes.via (B := T460.setTop (mkF m 115 #[iv x1, iv x2, iv x3, lv_ x4, s_, iv (3 : Int32), iv ee, iv ch, u_, u_, iv (3 : Int32), iv fa, iv fb, iv fc, iv fd] [(.ref r460), (.ref b457), (.ref b457)])) (fun t k => st460 _ k) ?_
        have hp462 : ∀ c ∈ ([fa, fb, fc] : List Int32), ¬ c < 0 ∧ ¬ (255 : Int32) < c := by
          intro c hc
          simp only [List.mem_cons, List.not_mem_nil, or_false] at hc
          rcases hc with rfl | rfl | rfl <;> first | exact ⟨by decide, by decide⟩ | exact hfa | exact hfb | exact hfc
        obtain ⟨_, T463, L463, X463, ⟨rfl, M463, K463, E463, C463, t463, kb463, gn463, gs463, nx463, F463, V463⟩, st463⟩ := callInitB X460 hx hZ rfl hown (W_ hw 8 rfl) (W_ hw 9 rfl) (W_ hw 10 rfl) (by decide) (argsL := [(.ref r460)]) (rest := [(.ref b457)]) (W := 1) (StrChars.Road.backV (s := (s.setVm s.vm)) (W := 1) hZ (own_hw_words hw) (kI := 4) (W_ hw 6 rfl) (x := b457) (b := r460) (cs := ([fa, fb, fc] : List Int32)) (bs := ([fa, fb, fc] : List Int32).map (fun c => c.toInt8.toInt32)) (n := 3) gn457 (old_le ((O0.ext E457).keep K460 all0)) (A457.keep K460) (F457_value.keep K460 nin0) (F457_coder.keep K460 nin0) f460_0 (Sta.ext ((O0.ext E457).keep K460 all0).2 O_1) hz0 rfl rfl (by decide) (by decide) hp462 rfl (by decide) (by decide)) rfl (lenOf own_pd11 rfl) (pc := 115) (Ls := #[iv x1, iv x2, iv x3, lv_ x4, s_, iv (3 : Int32), iv ee, iv ch, u_, u_, iv (3 : Int32), iv fa, iv fb, iv fc, iv fd]) (st := [(.ref r460), (.ref b457), (.ref b457)]) rfl (by rw [hml]; rfl) (hb hby at_115) (Nat.le_of_eq rfl) (by decide) (by decide)
        have hq464 := CHr.keep K463 (sfS (CHr.safe hq461 A457.lt sf459) sf0) hR461.1
        have hR464 := CHr.trans hR461 hq464
        have N463 := Fr.app N460 M463
        refine Goes.via (B := T463.setTop (mkF m 118 #[iv x1, iv x2, iv x3, lv_ x4, s_, iv (3 : Int32), iv ee, iv ch, u_, u_, iv (3 : Int32), iv fa, iv fb, iv fc, iv fd] [(.ref b457)])) (fun t k => st463 _ k) ?_
        have w465 : Arv Z T463.heap t463 kb463 .byte (Int32.ofNat ([fa, fb, fc] : List Int32).length) ((([fa, fb, fc] : List Int32).map StrChars.lo8).map Value.int) (.int 0) := V463
        refine Gv T463 120 [] (fun t k => XS.astore X463.here hx rfl (hb hby at_118) rfl rfl (l' := #[iv x1, iv x2, iv x3, lv_ x4, s_, iv (3 : Int32), iv ee, iv ch, rv b457, u_, iv (3 : Int32), iv fa, iv fb, iv fc, iv fd]) rfl k) ?_
        refine Gv T463 121 [(.int (-1 : Int32))] (fun t k => XS.iconst X463.here hx rfl (hb hby at_120) k) ?_
        refine Gv T463 123 [] (fun t k => XS.istore X463.here hx rfl (hb hby at_121) rfl (l' := #[iv x1, iv x2, iv x3, lv_ x4, s_, iv (3 : Int32), iv ee, iv ch, rv b457, iv (-1 : Int32), iv (3 : Int32), iv fa, iv fb, iv fc, iv fd]) rfl k) ?_
        refine Gv T463 125 [(.int (3 : Int32))] (fun t k => XS.iload X463.here hx rfl (hb hby at_123) rfl k) ?_
        refine Gv T463 126 [(.int (3 : Int32)), (.int (3 : Int32))] (fun t k => XS.iconst X463.here hx rfl (hb hby at_125) k) ?_
        refine Gv T463 129 [] (fun t k => XS.icmpNo X463.here hx rfl (hb hby at_126) rfl (XT.ii_ne_f rfl) k) ?_
        refine Gv T463 131 [(.int fa)] (fun t k => XS.iload X463.here hx rfl (hb hby at_129) rfl k) ?_
        refine Gv T463 133 [(.int (108 : Int32)), (.int fa)] (fun t k => XS.bipush X463.here hx rfl (hb hby at_131) k) ?_
        by_cases b466 : fa = (108 : Int32)
        · refine Gv T463 136 [] (fun t k => XS.icmpNo X463.here hx rfl (hb hby at_133) rfl (XT.ii_ne_f b466) k) ?_
          refine Gv T463 138 [(.int fb)] (fun t k => XS.iload X463.here hx rfl (hb hby at_136) rfl k) ?_
          refine Gv T463 140 [(.int (111 : Int32)), (.int fb)] (fun t k => XS.bipush X463.here hx rfl (hb hby at_138) k) ?_
          by_cases b467 : fb = (111 : Int32)
          · refine Gv T463 143 [] (fun t k => XS.icmpNo X463.here hx rfl (hb hby at_140) rfl (XT.ii_ne_f b467) k) ?_
            refine Gv T463 145 [(.int fc)] (fun t k => XS.iload X463.here hx rfl (hb hby at_143) rfl k) ?_
            refine Gv T463 147 [(.int (119 : Int32)), (.int fc)] (fun t k => XS.bipush X463.here hx rfl (hb hby at_145) k) ?_
            by_cases b468 : fc = (119 : Int32)
            · refine Gv T463 150 [] (fun t k => XS.icmpNo X463.here hx rfl (hb hby at_147) rfl (XT.ii_ne_f b468) k) ?_
              refine Gv T463 151 [(.int (0 : Int32))] (fun t k => XS.iconst X463.here hx rfl (hb hby at_150) k) ?_
              refine Gv T463 153 [] (fun t k => XS.istore X463.here hx rfl (hb hby at_151) rfl (l' := #[iv x1, iv x2, iv x3, lv_ x4, s_, iv (3 : Int32), iv ee, iv ch, rv b457, iv (0 : Int32), iv (3 : Int32), iv fa, iv fb, iv fc, iv fd]) rfl k) ?_
              refine Gv T463 155 [(.int (3 : Int32))] (fun t k => XS.iload X463.here hx rfl (hb hby at_153) rfl k) ?_
              refine Gv T463 156 [(.int (4 : Int32)), (.int (3 : Int32))] (fun t k => XS.iconst X463.here hx rfl (hb hby at_155) k) ?_
              refine Gv T463 190 [] (fun t k => XS.icmpYes X463.here hx rfl (pc0 := 156) (pc' := 190) rfl (hb hby at_156) rfl (XT.ii_ne_t (by decide)) (by decide) (by decide) k) ?_
              refine Gv T463 271 [] (fun t k => XS.goto X463.here hx rfl (pc0 := 190) (pc' := 271) rfl (hb hby at_190) (by decide) (by decide) k) ?_
              obtain ⟨Xr469, hSr469, hZr469, hor469⟩ := rebase (cells := 8) (slots := 96) (X463.more (by decide) (by decide)) hS0 rfl (Nat.le_trans (Nat.le_trans (Nat.le_trans hk0 E457.1) K460.1) K463.1) hZ hown
              exact j405 T463 _ T463.heap Xr469 rfl N463 hSr469 hZr469 hor469 (CHr.trans hR464 (CHv.at X463 hZ hEL hR464.1)) b457 t463 kb463 ([fa, fb, fc] : List Int32) (0 : Int32) (((O0.ext E457).keep K460 all0).keep K463 (allS gn457 all0)) E463 F463 C463 w465 hp462 (by simp) (Or.inl ⟨(by rw [b466, b467, b468]; rfl), rfl⟩)
            · refine Gv T463 153 [] (fun t k => XS.icmpYes X463.here hx rfl (pc0 := 147) (pc' := 153) rfl (hb hby at_147) rfl (XT.ii_ne_t b468) (by decide) (by decide) k) ?_
              refine Gv T463 155 [(.int (3 : Int32))] (fun t k => XS.iload X463.here hx rfl (hb hby at_153) rfl k) ?_
              refine Gv T463 156 [(.int (4 : Int32)), (.int (3 : Int32))] (fun t k => XS.iconst X463.here hx rfl (hb hby at_155) k) ?_
              refine Gv T463 190 [] (fun t k => XS.icmpYes X463.here hx rfl (pc0 := 156) (pc' := 190) rfl (hb hby at_156) rfl (XT.ii_ne_t (by decide)) (by decide) (by decide) k) ?_
              refine Gv T463 271 [] (fun t k => XS.goto X463.here hx rfl (pc0 := 190) (pc' := 271) rfl (hb hby at_190) (by decide) (by decide) k) ?_
              obtain ⟨Xr470, hSr470, hZr470, hor470⟩ := rebase (cells := 8) (slots := 96) (X463.more (by decide) (by decide)) hS0 rfl (Nat.le_trans (Nat.le_trans (Nat.le_trans hk0 E457.1) K460.1) K463.1) hZ hown
              exact j405 T463 _ T463.heap Xr470 rfl N463 hSr470 hZr470 hor470 (CHr.trans hR464 (CHv.at X463 hZ hEL hR464.1)) b457 t463 kb463 ([fa, fb, fc] : List Int32) (-1 : Int32) (((O0.ext E457).keep K460 all0).keep K463 (allS gn457 all0)) E463 F463 C463 w465 hp462 (by simp) (Or.inr (Or.inr (Or.inr ⟨⟨(fun z => by simp [own_low, own_sub, own_hig, b466, b467, b468] at z), (fun z => by simp [own_low, own_sub, own_hig, b466, b467, b468] at z), (fun z => by simp [own_low, own_sub, own_hig, b466, b467, b468] at z)⟩, rfl⟩)))
          · refine Gv T463 153 [] (fun t k => XS.icmpYes X463.here hx rfl (pc0 := 140) (pc' := 153) rfl (hb hby at_140) rfl (XT.ii_ne_t b467) (by decide) (by decide) k) ?_
            refine Gv T463 155 [(.int (3 : Int32))] (fun t k => XS.iload X463.here hx rfl (hb hby at_153) rfl k) ?_
            refine Gv T463 156 [(.int (4 : Int32)), (.int (3 : Int32))] (fun t k => XS.iconst X463.here hx rfl (hb hby at_155) k) ?_
            refine Gv T463 190 [] (fun t k => XS.icmpYes X463.here hx rfl (pc0 := 156) (pc' := 190) rfl (hb hby at_156) rfl (XT.ii_ne_t (by decide)) (by decide) (by decide) k) ?_
            refine Gv T463 271 [] (fun t k => XS.goto X463.here hx rfl (pc0 := 190) (pc' := 271) rfl (hb hby at_190) (by decide) (by decide) k) ?_
            obtain ⟨Xr471, hSr471, hZr471, hor471⟩ := rebase (cells := 8) (slots := 96) (X463.more (by decide) (by decide)) hS0 rfl (Nat.le_trans (Nat.le_trans (Nat.le_trans hk0 E457.1) K460.1) K463.1) hZ hown
            exact j405 T463 _ T463.heap Xr471 rfl N463 hSr471 hZr471 hor471 (CHr.trans hR464 (CHv.at X463 hZ hEL hR464.1)) b457 t463 kb463 ([fa, fb, fc] : List Int32) (-1 : Int32) (((O0.ext E457).keep K460 all0).keep K463 (allS gn457 all0)) E463 F463 C463 w465 hp462 (by simp) (Or.inr (Or.inr (Or.inr ⟨⟨(fun z => by simp [own_low, own_sub, own_hig, b466, b467] at z), (fun z => by simp [own_low, own_sub, own_hig, b466, b467] at z), (fun z => by simp [own_low, own_sub, own_hig, b466, b467] at z)⟩, rfl⟩)))
        · refine Gv T463 153 [] (fun t k => XS.icmpYes X463.here hx rfl (pc0 := 133) (pc' := 153) rfl (hb hby at_133) rfl (XT.ii_ne_t b466) (by decide) (by decide) k) ?_
          refine Gv T463 155 [(.int (3 : Int32))] (fun t k => XS.iload X463.here hx rfl (hb hby at_153) rfl k) ?_
          refine Gv T463 156 [(.int (4 : Int32)), (.int (3 : Int32))] (fun t k => XS.iconst X463.here hx rfl (hb hby at_155) k) ?_
          refine Gv T463 190 [] (fun t k => XS.icmpYes X463.here hx rfl (pc0 := 156) (pc' := 190) rfl (hb hby at_156) rfl (XT.ii_ne_t (by decide)) (by decide) (by decide) k) ?_
          refine Gv T463 271 [] (fun t k => XS.goto X463.here hx rfl (pc0 := 190) (pc' := 271) rfl (hb hby at_190) (by decide) (by decide) k) ?_
          obtain ⟨Xr472, hSr472, hZr472, hor472⟩ := rebase (cells := 8) (slots := 96) (X463.more (by decide) (by decide)) hS0 rfl (Nat.le_trans (Nat.le_trans (Nat.le_trans hk0 E457.1) K460.1) K463.1) hZ hown
          exact j405 T463 _ T463.heap Xr472 rfl N463 hSr472 hZr472 hor472 (CHr.trans hR464 (CHv.at X463 hZ hEL hR464.1)) b457 t463 kb463 ([fa, fb, fc] : List Int32) (-1 : Int32) (((O0.ext E457).keep K460 all0).keep K463 (allS gn457 all0)) E463 F463 C463 w465 hp462 (by simp) (Or.inr (Or.inr (Or.inr ⟨⟨(fun z => by simp [own_low, own_sub, own_hig, b466] at z), (fun z => by simp [own_low, own_sub, own_hig, b466] at z), (fun z => by simp [own_low, own_sub, own_hig, b466] at z)⟩, rfl⟩)))
      · obtain ⟨T473, h473, X473, e473, E473, A473, D473, U473, st473⟩ := newO X0 hx hZ hown (W_ hw 5 rfl) (W_ hw 6 rfl) (W_ hw 7 rfl) e0 (g := (mkF m 98 #[iv x1, iv x2, iv x3, lv_ x4, s_, iv (3 : Int32), iv ee, iv ch, u_, u_, iv (4 : Int32), iv fa, iv fb, iv fc, iv fd] [])) rfl (hb hby at_98) (by decide) (by decide)
        obtain ⟨b473, g473⟩ : ∃ z, z = h0.size := ⟨_, rfl⟩
        rw [← g473] at A473 D473 U473 st473
        have gn473 : n0 ≤ b473 := Nat.le_trans (old_le O0) (Nat.le_of_eq g473.symm)
        have hq474 := CHr.ext E473 hR0.1
        have hR474 := CHr.trans hR0 hq474
        have sf475 := Safe.ext E473 hR0.1 (Safe.new (Nat.le_of_eq g473.symm))
        have F473_coder : Fld Z h473 b473 "java/lang/String" "coder" "B" (.int (0 : Int32)) := D473 (Or.inr (W_ hw 31 rfl)) (ty := .byte) (by decide)
        have F473_value : Fld Z h473 b473 "java/lang/String" "value" "[B" .null := D473 (Or.inr (W_ hw 33 rfl)) (ty := (.array .byte)) (by decide)
        refine Goes.via (B := T473.setTop (mkF m 101 #[iv x1, iv x2, iv x3, lv_ x4, s_, iv (3 : Int32), iv ee, iv ch, u_, u_, iv (4 : Int32), iv fa, iv fb, iv fc, iv fd] [(.ref b473)])) (fun t k => st473 _ k) ?_
        refine Gv T473 102 [(.ref b473), (.ref b473)] (fun t k => XS.dup X473.here hx rfl (hb hby at_101) rfl rfl k) ?_
        refine Gv T473 104 [(.int (4 : Int32)), (.ref b473), (.ref b473)] (fun t k => XS.iload X473.here hx rfl (hb hby at_102) rfl k) ?_
        refine Gv T473 106 [(.int fa), (.int (4 : Int32)), (.ref b473), (.ref b473)] (fun t k => XS.iload X473.here hx rfl (hb hby at_104) rfl k) ?_
        refine Gv T473 108 [(.int fb), (.int fa), (.int (4 : Int32)), (.ref b473), (.ref b473)] (fun t k => XS.iload X473.here hx rfl (hb hby at_106) rfl k) ?_
        refine Gv T473 110 [(.int fc), (.int fb), (.int fa), (.int (4 : Int32)), (.ref b473), (.ref b473)] (fun t k => XS.iload X473.here hx rfl (hb hby at_108) rfl k) ?_
        refine Gv T473 112 [(.int fd), (.int fc), (.int fb), (.int fa), (.int (4 : Int32)), (.ref b473), (.ref b473)] (fun t k => XS.iload X473.here hx rfl (hb hby at_110) rfl k) ?_
        obtain ⟨_, T476, L476, X476, ⟨r476, kr476, rfl, M476, K476, z476_0, f476_0⟩, st476⟩ := callStatic X473 hx hZ hown (W_ hw 105 rfl) (W_ hw 106 rfl) (W_ hw 2 rfl) (W_ hw 107 rfl) (by decide) (argsL := [(.int (4 : Int32)), (.int fa), (.int fb), (.int fc), (.int fd)]) (rest := [(.ref b473), (.ref b473)]) (own_m30 l Z a0 hw [] fa fb fc fd h473 n0 (O0.ext E473) hfa hfb hfc hfd) e473 (lenOf own_pd12 rfl) (pc := 112) (Ls := #[iv x1, iv x2, iv x3, lv_ x4, s_, iv (3 : Int32), iv ee, iv ch, u_, u_, iv (4 : Int32), iv fa, iv fb, iv fc, iv fd]) (st := [(.int fd), (.int fc), (.int fb), (.int fa), (.int (4 : Int32)), (.ref b473), (.ref b473)]) rfl (by rw [hml]; rfl) (hb hby at_112) (W := 2) (Nat.le_of_eq rfl) (by decide) (by decide) (by decide) (by decide)
        have N476 := Fr.app N0 M476
        have gn476_0 : n0 ≤ r476 := Nat.le_trans (old_le (O0.ext E473)) z476_0
        have hq477 := CHr.keep K476 sf0 hR474.1
        have hR477 := CHr.trans hR474 hq477
        refine Goes.via (B := T476.setTop (mkF m 115 #[iv x1, iv x2, iv x3, lv_ x4, s_, iv (3 : Int32), iv ee, iv ch, u_, u_, iv (4 : Int32), iv fa, iv fb, iv fc, iv fd] [(.ref r476), (.ref b473), (.ref b473)])) (fun t k => st476 _ k) ?_
        have hp478 : ∀ c ∈ ([fa, fb, fc, fd] : List Int32), ¬ c < 0 ∧ ¬ (255 : Int32) < c := by
          intro c hc
          simp only [List.mem_cons, List.not_mem_nil, or_false] at hc
          rcases hc with rfl | rfl | rfl | rfl <;> first | exact ⟨by decide, by decide⟩ | exact hfa | exact hfb | exact hfc | exact hfd
        obtain ⟨_, T479, L479, X479, ⟨rfl, M479, K479, E479, C479, t479, kb479, gn479, gs479, nx479, F479, V479⟩, st479⟩ := callInitB X476 hx hZ rfl hown (W_ hw 8 rfl) (W_ hw 9 rfl) (W_ hw 10 rfl) (by decide) (argsL := [(.ref r476)]) (rest := [(.ref b473)]) (W := 1) (StrChars.Road.backV (s := (s.setVm s.vm)) (W := 1) hZ (own_hw_words hw) (kI := 4) (W_ hw 6 rfl) (x := b473) (b := r476) (cs := ([fa, fb, fc, fd] : List Int32)) (bs := ([fa, fb, fc, fd] : List Int32).map (fun c => c.toInt8.toInt32)) (n := 4) gn473 (old_le ((O0.ext E473).keep K476 all0)) (A473.keep K476) (F473_value.keep K476 nin0) (F473_coder.keep K476 nin0) f476_0 (Sta.ext ((O0.ext E473).keep K476 all0).2 O_1) hz0 rfl rfl (by decide) (by decide) hp478 rfl (by decide) (by decide)) rfl (lenOf own_pd11 rfl) (pc := 115) (Ls := #[iv x1, iv x2, iv x3, lv_ x4, s_, iv (3 : Int32), iv ee, iv ch, u_, u_, iv (4 : Int32), iv fa, iv fb, iv fc, iv fd]) (st := [(.ref r476), (.ref b473), (.ref b473)]) rfl (by rw [hml]; rfl) (hb hby at_115) (Nat.le_of_eq rfl) (by decide) (by decide)
        have hq480 := CHr.keep K479 (sfS (CHr.safe hq477 A473.lt sf475) sf0) hR477.1
        have hR480 := CHr.trans hR477 hq480
        have N479 := Fr.app N476 M479
        refine Goes.via (B := T479.setTop (mkF m 118 #[iv x1, iv x2, iv x3, lv_ x4, s_, iv (3 : Int32), iv ee, iv ch, u_, u_, iv (4 : Int32), iv fa, iv fb, iv fc, iv fd] [(.ref b473)])) (fun t k => st479 _ k) ?_
        have w481 : Arv Z T479.heap t479 kb479 .byte (Int32.ofNat ([fa, fb, fc, fd] : List Int32).length) ((([fa, fb, fc, fd] : List Int32).map StrChars.lo8).map Value.int) (.int 0) := V479
        refine Gv T479 120 [] (fun t k => XS.astore X479.here hx rfl (hb hby at_118) rfl rfl (l' := #[iv x1, iv x2, iv x3, lv_ x4, s_, iv (3 : Int32), iv ee, iv ch, rv b473, u_, iv (4 : Int32), iv fa, iv fb, iv fc, iv fd]) rfl k) ?_
        refine Gv T479 121 [(.int (-1 : Int32))] (fun t k => XS.iconst X479.here hx rfl (hb hby at_120) k) ?_
        refine Gv T479 123 [] (fun t k => XS.istore X479.here hx rfl (hb hby at_121) rfl (l' := #[iv x1, iv x2, iv x3, lv_ x4, s_, iv (3 : Int32), iv ee, iv ch, rv b473, iv (-1 : Int32), iv (4 : Int32), iv fa, iv fb, iv fc, iv fd]) rfl k) ?_
        refine Gv T479 125 [(.int (4 : Int32))] (fun t k => XS.iload X479.here hx rfl (hb hby at_123) rfl k) ?_
        refine Gv T479 126 [(.int (3 : Int32)), (.int (4 : Int32))] (fun t k => XS.iconst X479.here hx rfl (hb hby at_125) k) ?_
        refine Gv T479 153 [] (fun t k => XS.icmpYes X479.here hx rfl (pc0 := 126) (pc' := 153) rfl (hb hby at_126) rfl (XT.ii_ne_t (by decide)) (by decide) (by decide) k) ?_
        refine Gv T479 155 [(.int (4 : Int32))] (fun t k => XS.iload X479.here hx rfl (hb hby at_153) rfl k) ?_
        refine Gv T479 156 [(.int (4 : Int32)), (.int (4 : Int32))] (fun t k => XS.iconst X479.here hx rfl (hb hby at_155) k) ?_
        refine Gv T479 159 [] (fun t k => XS.icmpNo X479.here hx rfl (hb hby at_156) rfl (XT.ii_ne_f rfl) k) ?_
        refine Gv T479 161 [(.int fa)] (fun t k => XS.iload X479.here hx rfl (hb hby at_159) rfl k) ?_
        refine Gv T479 163 [(.int (104 : Int32)), (.int fa)] (fun t k => XS.bipush X479.here hx rfl (hb hby at_161) k) ?_
        by_cases b482 : fa = (104 : Int32)
        · refine Gv T479 166 [] (fun t k => XS.icmpNo X479.here hx rfl (hb hby at_163) rfl (XT.ii_ne_f b482) k) ?_
          refine Gv T479 168 [(.int fb)] (fun t k => XS.iload X479.here hx rfl (hb hby at_166) rfl k) ?_
          refine Gv T479 170 [(.int (105 : Int32)), (.int fb)] (fun t k => XS.bipush X479.here hx rfl (hb hby at_168) k) ?_
          by_cases b483 : fb = (105 : Int32)
          · refine Gv T479 173 [] (fun t k => XS.icmpNo X479.here hx rfl (hb hby at_170) rfl (XT.ii_ne_f b483) k) ?_
            refine Gv T479 175 [(.int fc)] (fun t k => XS.iload X479.here hx rfl (hb hby at_173) rfl k) ?_
            refine Gv T479 177 [(.int (103 : Int32)), (.int fc)] (fun t k => XS.bipush X479.here hx rfl (hb hby at_175) k) ?_
            by_cases b484 : fc = (103 : Int32)
            · refine Gv T479 180 [] (fun t k => XS.icmpNo X479.here hx rfl (hb hby at_177) rfl (XT.ii_ne_f b484) k) ?_
              refine Gv T479 182 [(.int fd)] (fun t k => XS.iload X479.here hx rfl (hb hby at_180) rfl k) ?_
              refine Gv T479 184 [(.int (104 : Int32)), (.int fd)] (fun t k => XS.bipush X479.here hx rfl (hb hby at_182) k) ?_
              by_cases b485 : fd = (104 : Int32)
              · refine Gv T479 187 [] (fun t k => XS.icmpNo X479.here hx rfl (hb hby at_184) rfl (XT.ii_ne_f b485) k) ?_
                refine Gv T479 188 [(.int (2 : Int32))] (fun t k => XS.iconst X479.here hx rfl (hb hby at_187) k) ?_
                refine Gv T479 190 [] (fun t k => XS.istore X479.here hx rfl (hb hby at_188) rfl (l' := #[iv x1, iv x2, iv x3, lv_ x4, s_, iv (3 : Int32), iv ee, iv ch, rv b473, iv (2 : Int32), iv (4 : Int32), iv fa, iv fb, iv fc, iv fd]) rfl k) ?_
                refine Gv T479 271 [] (fun t k => XS.goto X479.here hx rfl (pc0 := 190) (pc' := 271) rfl (hb hby at_190) (by decide) (by decide) k) ?_
                obtain ⟨Xr486, hSr486, hZr486, hor486⟩ := rebase (cells := 8) (slots := 96) (X479.more (by decide) (by decide)) hS0 rfl (Nat.le_trans (Nat.le_trans (Nat.le_trans hk0 E473.1) K476.1) K479.1) hZ hown
                exact j405 T479 _ T479.heap Xr486 rfl N479 hSr486 hZr486 hor486 (CHr.trans hR480 (CHv.at X479 hZ hEL hR480.1)) b473 t479 kb479 ([fa, fb, fc, fd] : List Int32) (2 : Int32) (((O0.ext E473).keep K476 all0).keep K479 (allS gn473 all0)) E479 F479 C479 w481 hp478 (by simp) (Or.inr (Or.inr (Or.inl ⟨(by rw [b482, b483, b484, b485]; rfl), rfl⟩)))
              · refine Gv T479 190 [] (fun t k => XS.icmpYes X479.here hx rfl (pc0 := 184) (pc' := 190) rfl (hb hby at_184) rfl (XT.ii_ne_t b485) (by decide) (by decide) k) ?_
                refine Gv T479 271 [] (fun t k => XS.goto X479.here hx rfl (pc0 := 190) (pc' := 271) rfl (hb hby at_190) (by decide) (by decide) k) ?_
                obtain ⟨Xr487, hSr487, hZr487, hor487⟩ := rebase (cells := 8) (slots := 96) (X479.more (by decide) (by decide)) hS0 rfl (Nat.le_trans (Nat.le_trans (Nat.le_trans hk0 E473.1) K476.1) K479.1) hZ hown
                exact j405 T479 _ T479.heap Xr487 rfl N479 hSr487 hZr487 hor487 (CHr.trans hR480 (CHv.at X479 hZ hEL hR480.1)) b473 t479 kb479 ([fa, fb, fc, fd] : List Int32) (-1 : Int32) (((O0.ext E473).keep K476 all0).keep K479 (allS gn473 all0)) E479 F479 C479 w481 hp478 (by simp) (Or.inr (Or.inr (Or.inr ⟨⟨(fun z => by simp [own_low, own_sub, own_hig, b482, b483, b484, b485] at z), (fun z => by simp [own_low, own_sub, own_hig, b482, b483, b484, b485] at z), (fun z => by simp [own_low, own_sub, own_hig, b482, b483, b484, b485] at z)⟩, rfl⟩)))
            · refine Gv T479 190 [] (fun t k => XS.icmpYes X479.here hx rfl (pc0 := 177) (pc' := 190) rfl (hb hby at_177) rfl (XT.ii_ne_t b484) (by decide) (by decide) k) ?_
              refine Gv T479 271 [] (fun t k => XS.goto X479.here hx rfl (pc0 := 190) (pc' := 271) rfl (hb hby at_190) (by decide) (by decide) k) ?_
              obtain ⟨Xr488, hSr488, hZr488, hor488⟩ := rebase (cells := 8) (slots := 96) (X479.more (by decide) (by decide)) hS0 rfl (Nat.le_trans (Nat.le_trans (Nat.le_trans hk0 E473.1) K476.1) K479.1) hZ hown
              exact j405 T479 _ T479.heap Xr488 rfl N479 hSr488 hZr488 hor488 (CHr.trans hR480 (CHv.at X479 hZ hEL hR480.1)) b473 t479 kb479 ([fa, fb, fc, fd] : List Int32) (-1 : Int32) (((O0.ext E473).keep K476 all0).keep K479 (allS gn473 all0)) E479 F479 C479 w481 hp478 (by simp) (Or.inr (Or.inr (Or.inr ⟨⟨(fun z => by simp [own_low, own_sub, own_hig, b482, b483, b484] at z), (fun z => by simp [own_low, own_sub, own_hig, b482, b483, b484] at z), (fun z => by simp [own_low, own_sub, own_hig, b482, b483, b484] at z)⟩, rfl⟩)))
          · refine Gv T479 190 [] (fun t k => XS.icmpYes X479.here hx rfl (pc0 := 170) (pc' := 190) rfl (hb hby at_170) rfl (XT.ii_ne_t b483) (by decide) (by decide) k) ?_
            refine Gv T479 271 [] (fun t k => XS.goto X479.here hx rfl (pc0 := 190) (pc' := 271) rfl (hb hby at_190) (by decide) (by decide) k) ?_
            obtain ⟨Xr489, hSr489, hZr489, hor489⟩ := rebase (cells := 8) (slots := 96) (X479.more (by decide) (by decide)) hS0 rfl (Nat.le_trans (Nat.le_trans (Nat.le_trans hk0 E473.1) K476.1) K479.1) hZ hown
            exact j405 T479 _ T479.heap Xr489 rfl N479 hSr489 hZr489 hor489 (CHr.trans hR480 (CHv.at X479 hZ hEL hR480.1)) b473 t479 kb479 ([fa, fb, fc, fd] : List Int32) (-1 : Int32) (((O0.ext E473).keep K476 all0).keep K479 (allS gn473 all0)) E479 F479 C479 w481 hp478 (by simp) (Or.inr (Or.inr (Or.inr ⟨⟨(fun z => by simp [own_low, own_sub, own_hig, b482, b483] at z), (fun z => by simp [own_low, own_sub, own_hig, b482, b483] at z), (fun z => by simp [own_low, own_sub, own_hig, b482, b483] at z)⟩, rfl⟩)))
        · refine Gv T479 190 [] (fun t k => XS.icmpYes X479.here hx rfl (pc0 := 163) (pc' := 190) rfl (hb hby at_163) rfl (XT.ii_ne_t b482) (by decide) (by decide) k) ?_
          refine Gv T479 271 [] (fun t k => XS.goto X479.here hx rfl (pc0 := 190) (pc' := 271) rfl (hb hby at_190) (by decide) (by decide) k) ?_
          obtain ⟨Xr490, hSr490, hZr490, hor490⟩ := rebase (cells := 8) (slots := 96) (X479.more (by decide) (by decide)) hS0 rfl (Nat.le_trans (Nat.le_trans (Nat.le_trans hk0 E473.1) K476.1) K479.1) hZ hown
          exact j405 T479 _ T479.heap Xr490 rfl N479 hSr490 hZr490 hor490 (CHr.trans hR480 (CHv.at X479 hZ hEL hR480.1)) b473 t479 kb479 ([fa, fb, fc, fd] : List Int32) (-1 : Int32) (((O0.ext E473).keep K476 all0).keep K479 (allS gn473 all0)) E479 F479 C479 w481 hp478 (by simp) (Or.inr (Or.inr (Or.inr ⟨⟨(fun z => by simp [own_low, own_sub, own_hig, b482] at z), (fun z => by simp [own_low, own_sub, own_hig, b482] at z), (fun z => by simp [own_low, own_sub, own_hig, b482] at z)⟩, rfl⟩)))
    · refine Gv s₁ 33 [] (fun t k => XS.ifNo X0.here hx rfl (hb hby at_30) rfl (XT.i0_eq_f b403) k) ?_
      refine Gv s₁ 34 [.null] (fun t k => XS.aconstNull X0.here hx rfl (hb hby at_33) k) ?_
      refine Gv s₁ 36 [] (fun t k => XS.astore X0.here hx rfl (hb hby at_34) rfl rfl (l' := #[iv x1, iv x2, iv x3, lv_ x4, s_, iv (3 : Int32), iv ee, iv ch, .val .null, u_, u_, u_, u_, u_, u_]) rfl k) ?_
      refine Gv s₁ 37 [(.int (-1 : Int32))] (fun t k => XS.iconst X0.here hx rfl (hb hby at_36) k) ?_
      refine Gv s₁ 39 [] (fun t k => XS.istore X0.here hx rfl (hb hby at_37) rfl (l' := #[iv x1, iv x2, iv x3, lv_ x4, s_, iv (3 : Int32), iv ee, iv ch, .val .null, iv (-1 : Int32), u_, u_, u_, u_, u_]) rfl k) ?_
      refine Gv s₁ 271 [] (fun t k => XS.goto X0.here hx rfl (pc0 := 39) (pc' := 271) rfl (hb hby at_39) (by decide) (by decide) k) ?_
      refine Gv s₁ 273 [.null] (fun t k => XS.aload X0.here hx rfl (hb hby at_271) rfl rfl k) ?_
      obtain ⟨_, T491, L491, X491, ⟨rfl, M491, K491⟩, st491⟩ := callStatic X0 hx hZ hown (W_ hw 34 rfl) (W_ hw 35 rfl) (W_ hw 36 rfl) (W_ hw 37 rfl) (by decide) (argsL := [.null]) (rest := []) (own_m16 l Z a0 hw [] z0 oe va kv aL sL tL kL aS sS tS kS aH sH tH kH h0 n0 O0 O_2 O_3 O_4 O_5 O_6 O_7 O_8 O_9 O_10 O_11 O_12 O_13 O_14 O_15 O_16 O_17 O_18 O_19 O_20 O_21 O_22 O_23) e0 (lenOf own_pd7 rfl) (pc := 273) (Ls := #[iv x1, iv x2, iv x3, lv_ x4, s_, iv (3 : Int32), iv ee, iv ch, .val .null, iv (-1 : Int32), u_, u_, u_, u_, u_]) (st := [.null]) rfl (by rw [hml]; rfl) (hb hby at_273) (W := 0) (Nat.le_of_eq rfl) (by decide) (by decide) (by decide) (by decide)
      have N491 := Fr.app N0 M491
      have hq492 := CHr.keep K491 sf0 hR0.1
      have hR492 := CHr.trans hR0 hq492
      refine Goes.via (B := T491.setTop (mkF m 276 #[iv x1, iv x2, iv x3, lv_ x4, s_, iv (3 : Int32), iv ee, iv ch, .val .null, iv (-1 : Int32), u_, u_, u_, u_, u_] [(.ref oe)])) (fun t k => st491 _ k) ?_
      refine Gv T491 278 [] (fun t k => XS.astore X491.here hx rfl (hb hby at_276) rfl rfl (l' := #[iv x1, iv x2, iv x3, lv_ x4, s_, iv (3 : Int32), iv ee, iv ch, .val .null, iv (-1 : Int32), rv oe, u_, u_, u_, u_]) rfl k) ?_
      refine Gv T491 280 [(.int (-1 : Int32))] (fun t k => XS.iload X491.here hx rfl (hb hby at_278) rfl k) ?_
      refine Gv T491 283 [] (fun t k => XS.ifNo X491.here hx rfl (hb hby at_280) rfl (XT.i0_ge_f (by decide)) k) ?_
      refine Gv T491 285 [(.ref oe)] (fun t k => XS.aload X491.here hx rfl (hb hby at_283) rfl rfl k) ?_
      obtain ⟨_, T493, L493, X493, ⟨rfl, M493, K493⟩, st493⟩ := callVirt X491 hx hZ hown (W_ hw 85 rfl) (W_ hw 86 rfl) (W_ hw 88 rfl) (notFace_of_selects (args := #[]) (mvT hZ (W_ hw 88 rfl))) (W_ hw 87 rfl) (W_ hw 70 rfl) (W_ hw 89 rfl) (by decide) (argsL := []) (rest := []) (own_m9 l Z a0 hw [] oe T491.heap n0 (O0.keep K491 all0) O_24 O_25) rfl (O_24.ext (O0.keep K491 all0).2) (lenOf own_pd8 rfl) (pc := 285) (Ls := #[iv x1, iv x2, iv x3, lv_ x4, s_, iv (3 : Int32), iv ee, iv ch, .val .null, iv (-1 : Int32), rv oe, u_, u_, u_, u_]) (st := [(.ref oe)]) rfl (by rw [hml]; rfl) (hb hby at_285) (W := 0) (Nat.le_of_eq rfl) (by decide) (by decide) (by decide) (by decide)
      have N493 := Fr.app N491 M493
      refine Goes.via (B := T493.setTop (mkF m 288 #[iv x1, iv x2, iv x3, lv_ x4, s_, iv (3 : Int32), iv ee, iv ch, .val .null, iv (-1 : Int32), rv oe, u_, u_, u_, u_] [(.int (0 : Int32))])) (fun t k => st493 _ k) ?_
      refine Gv T493 291 [] (fun t k => XS.ifNo X493.here hx rfl (hb hby at_288) rfl (XT.i0_ne_f rfl) k) ?_
      refine Gv T493 292 [(.int (1 : Int32))] (fun t k => XS.iconst X493.here hx rfl (hb hby at_291) k) ?_
      refine Gv T493 296 [(.int (1 : Int32))] (fun t k => XS.goto X493.here hx rfl (pc0 := 292) (pc' := 296) rfl (hb hby at_292) (by decide) (by decide) k) ?_
      exact finN (Q := (own_Q31 Z x1 x2 x3 x4 z0 oe va kv aL sL tL kL aS sS tS kS aH sH tH kH h0 n0)) (F := EndH Z consts_1) (C := (room_1).cells) (S := (room_1).slots) X493 hx (t := .boolean) Bd.returns (by simp) (z' := (1 : Int32)) rfl (hb hby at_296) K493 ⟨rfl, N493, trivial⟩ (lvH X493 hlk hS0 K493 (Nat.le_trans hk0 K491.1) hZ hEL hR492 (by decide) (by decide))
theorem eqn {s : State} {args : Array Value} {X : Term} (h : (Cond.eq X Term.null).value args s none s [] = some true) : X.eval args s none [] s = some .null := by
  obtain ⟨x, y', e1, e2, k1, k2⟩ := cmp_v (Or.inl h)
  cases (show Term.null.eval args s none [] s = some .null from rfl).symm.trans e2
  have hr : x.isRef = true := k2.2
  exact e1.trans (congrArg some (gotT (eq_R e1 rfl hr rfl) h))
set_option maxRecDepth 65536 in
set_option maxHeartbeats 40000000 in
theorem comes_1 {Post : Tables → Env → Array Value → State → Outcome → State → Prop} (hpost : ∀ tb e args s v u, (limb_1_1.after args s (.returned v) u = true ∧ limb_1_2.after args s (.returned v) u = true ∧ True) → ReturnedEndW s (.returned v) u (Jvm.fieldLocs frame_1_writes args s ++ Jvm.arrayLocs frame_1_arrays args s ++ Jvm.staticLocs frame_1_statics s) 24 1216 → Post tb e args s (.returned v) u) :
    ArmFor flags0 classFile x code maxLocals ret World_1 tables_1 room_1 Calls_1 rest_1 Pre_1 Post := by
  intro l hfl _ _ p e ha hc hk s m args below hf hA hF happ hP
  obtain ⟨hcalls, hrest, hpre⟩ := hP
  obtain ⟨-, -, -, hnamed, -, -, -, hat⟩ := (Spec.applies_iff hf).mp happ
  obtain ⟨hg, hn⟩ := and_e (Cond.before_iff.mp (show (Jvm.Cond.and given_1 narrow_1).before args s = true from hpre))
  obtain ⟨g_0, r_0⟩ := and_e hg
  obtain ⟨g_1, r_1⟩ := and_e r_0
  obtain ⟨g_2, r_2⟩ := and_e r_1
  obtain ⟨g_3, r_3⟩ := and_e r_2
  obtain ⟨w0, w1, w2, w3, rfl⟩ : ∃ w0 w1 w2 w3 : Value, args = #[w0, w1, w2, w3] := by
    have hs : args.size = 4 := by simpa [Cond.value, given_1] using g_0
    obtain ⟨L⟩ := args
    match L, hs with
    | [w0, w1, w2, w3], _ => exact ⟨w0, w1, w2, w3, rfl⟩
  have hw := fun d (hd : d ∈ tables_1) => atoms_spec (ws := Jvm.Cond.code x code maxLocals ret :: tables_1) hat d (List.mem_cons_of_mem _ hd)
  obtain ⟨hsets, hown0⟩ := atoms_of _ (rest_1_c_eq ▸ (show rest_1_c.before _ s = true from hrest))
  have hfit : Fit s := fun {y c} hc i hi => by
    obtain ⟨ha, rfl⟩ := Array.getElem?_eq_some_iff.mp hc
    have q := List.all_eq_true.mp ((Array.all_eq_true_iff_forall_mem.mp hF) _ (Array.getElem_mem ha)) i (List.mem_range.mpr hi)
    simpa [Array.getElem?_eq_getElem hi] using q
  obtain ⟨i0, ei0⟩ := is_v g_1
  obtain rfl : w0 = (.int i0) := Option.some.inj ei0
  obtain ⟨i1, ei1⟩ := is_v g_2
  obtain rfl : w1 = (.int i1) := Option.some.inj ei1
  obtain ⟨i2, ei2⟩ := is_v g_3
  obtain rfl : w2 = (.int i2) := Option.some.inj ei2
  obtain ⟨i3, ei3⟩ := isL_v r_3
  obtain rfl : w3 = (.long i3) := Option.some.inj ei3
  obtain ⟨n_0, q_0⟩ := and_e hn
  obtain ⟨n_1, q_1⟩ := and_e q_0
  obtain ⟨n_2, q_2⟩ := and_e q_1
  obtain ⟨n_3, q_3⟩ := and_e q_2
  obtain ⟨n_4, q_4⟩ := and_e q_3
  obtain ⟨n_5, q_5⟩ := and_e q_4
  obtain ⟨n_6, q_6⟩ := and_e q_5
  obtain ⟨n_7, q_7⟩ := and_e q_6
  obtain ⟨n_8, q_8⟩ := and_e q_7
  obtain ⟨n_9, q_9⟩ := and_e q_8
  obtain ⟨n_10, q_10⟩ := and_e q_9
  obtain ⟨n_11, q_11⟩ := and_e q_10
  obtain ⟨n_12, q_12⟩ := and_e q_11
  obtain ⟨n_13, q_13⟩ := and_e q_12
  obtain ⟨n_14, q_14⟩ := and_e q_13
  obtain ⟨n_15, q_15⟩ := and_e q_14
  obtain ⟨n_16, q_16⟩ := and_e q_15
  obtain ⟨n_17, q_17⟩ := and_e q_16
  obtain ⟨n_18, q_18⟩ := and_e q_17
  obtain ⟨n_19, q_19⟩ := and_e q_18
  obtain ⟨n_20, q_20⟩ := and_e q_19
  obtain ⟨n_21, q_21⟩ := and_e q_20
  obtain ⟨n_22, q_22⟩ := and_e q_21
  obtain ⟨n_23, q_23⟩ := and_e q_22
  obtain ⟨n_24, q_24⟩ := and_e q_23
  obtain ⟨n_25, q_25⟩ := and_e q_24
  obtain ⟨n_26, q_26⟩ := and_e q_25
  obtain ⟨n_27, q_27⟩ := and_e q_26
  obtain ⟨n_28, q_28⟩ := and_e q_27
  obtain ⟨n_29, q_29⟩ := and_e q_28
  obtain ⟨n_30, q_30⟩ := and_e q_29
  obtain ⟨n_31, q_31⟩ := and_e q_30
  obtain ⟨n_32, q_32⟩ := and_e q_31
  obtain ⟨n_33, q_33⟩ := and_e q_32
  obtain ⟨n_34, q_34⟩ := and_e q_33
  obtain ⟨n_35, q_35⟩ := and_e q_34
  obtain ⟨n_36, q_36⟩ := and_e q_35
  obtain ⟨n_37, q_37⟩ := and_e q_36
  have n_38 := q_37
  have n_cs := not_v (Cond.before_iff.mp (hsets _ (List.mem_of_getElem? (i := 2) rfl)))
  obtain ⟨z0, e_cs⟩ := is_v (Cond.before_iff.mp (hsets _ (List.mem_of_getElem? (i := 1) rfl)))
  have S_cs : Sta s s.heap "java/lang/String" "COMPACT_STRINGS" "Z" (.int z0) := Sta.start e_cs (Or.inl (hsets _ (List.mem_of_getElem? (i := 0) rfl)))
  have hz0 : ¬ (z0 = (0 : Int32)) := gotF (Cond.eq_ints e_cs (Term.int_eval (0))) n_cs
  obtain ⟨st__VALUES, es__VALUES⟩ := exa_v n_1
  have S__VALUES : Sta s s.heap "com/example/castellan/castellan/config/AssuranceLevel" "$VALUES" "[Lcom/example/castellan/castellan/config/AssuranceLevel;" (.ref st__VALUES) := Sta.start es__VALUES (Or.inl (W_ hw 53 rfl))
  have E__VALUES : Exa s s.heap st__VALUES "[Lcom/example/castellan/castellan/config/AssuranceLevel;" := Exa.start es__VALUES n_1
  obtain ⟨st_LOW, es_LOW⟩ := exa_v n_3
  have S_LOW : Sta s s.heap "com/example/castellan/castellan/config/AssuranceLevel" "LOW" "Lcom/example/castellan/castellan/config/AssuranceLevel;" (.ref st_LOW) := Sta.start es_LOW (Or.inr ⟨(W_ hw 36 rfl), (W_ hw 50 rfl)⟩)
  have E_LOW : Exa s s.heap st_LOW "com/example/castellan/castellan/config/AssuranceLevel" := Exa.start es_LOW n_3
  obtain ⟨st_SUBSTANTIAL, es_SUBSTANTIAL⟩ := exa_v n_5
  have S_SUBSTANTIAL : Sta s s.heap "com/example/castellan/castellan/config/AssuranceLevel" "SUBSTANTIAL" "Lcom/example/castellan/castellan/config/AssuranceLevel;" (.ref st_SUBSTANTIAL) := Sta.start es_SUBSTANTIAL (Or.inr ⟨(W_ hw 36 rfl), (W_ hw 51 rfl)⟩)
  have E_SUBSTANTIAL : Exa s s.heap st_SUBSTANTIAL "com/example/castellan/castellan/config/AssuranceLevel" := Exa.start es_SUBSTANTIAL n_5
  obtain ⟨st_HIGH, es_HIGH⟩ := exa_v n_7
  have S_HIGH : Sta s s.heap "com/example/castellan/castellan/config/AssuranceLevel" "HIGH" "Lcom/example/castellan/castellan/config/AssuranceLevel;" (.ref st_HIGH) := Sta.start es_HIGH (Or.inr ⟨(W_ hw 36 rfl), (W_ hw 52 rfl)⟩)
  have E_HIGH : Exa s s.heap st_HIGH "com/example/castellan/castellan/config/AssuranceLevel" := Exa.start es_HIGH n_7
  obtain ⟨sv0, es0⟩ := exa_v n_9
  have Ev0 : Exa s s.heap sv0 "java/lang/String" := Exa.start es0 n_9
  have Fv0 : Fld s s.heap st_LOW "com/example/castellan/castellan/config/AssuranceLevel" "value" "Ljava/lang/String;" (.ref sv0) := Fld.start ((fld_at es_LOW).symm.trans es0)
  have Cv0 : Fld s s.heap sv0 "java/lang/String" "coder" "B" (.int (0 : Int32)) := fld_int es0 n_10
  obtain ⟨tv0, et0⟩ := arr_v n_11
  have Gv0 : Fld s s.heap sv0 "java/lang/String" "value" "[B" (.ref tv0) := Fld.start ((fld_at es0).symm.trans et0)
  obtain ⟨cl0, Ac0⟩ := Arr.start et0 n_11
  obtain ⟨hzq0, hlq0⟩ := len_is et0 Ac0 n_12
  have Av0 : Arv s s.heap tv0 cl0.cls .byte (Int32.ofNat own_low.length) ((own_low.map StrChars.lo8).map Value.int) (.int 0) := Arv.start hfit Ac0 hzq0 hlq0 (by decide) (by decide) ⟨(el_is et0 Ac0 n_13).2, (el_is et0 Ac0 n_14).2, (el_is et0 Ac0 n_15).2, trivial⟩
  obtain ⟨sv1, es1⟩ := exa_v n_16
  have Ev1 : Exa s s.heap sv1 "java/lang/String" := Exa.start es1 n_16
  have Fv1 : Fld s s.heap st_SUBSTANTIAL "com/example/castellan/castellan/config/AssuranceLevel" "value" "Ljava/lang/String;" (.ref sv1) := Fld.start ((fld_at es_SUBSTANTIAL).symm.trans es1)
  have Cv1 : Fld s s.heap sv1 "java/lang/String" "coder" "B" (.int (0 : Int32)) := fld_int es1 n_17
  obtain ⟨tv1, et1⟩ := arr_v n_18
  have Gv1 : Fld s s.heap sv1 "java/lang/String" "value" "[B" (.ref tv1) := Fld.start ((fld_at es1).symm.trans et1)
  obtain ⟨cl1, Ac1⟩ := Arr.start et1 n_18
  obtain ⟨hzq1, hlq1⟩ := len_is et1 Ac1 n_19
  have Av1 : Arv s s.heap tv1 cl1.cls .byte (Int32.ofNat own_sub.length) ((own_sub.map StrChars.lo8).map Value.int) (.int 0) := Arv.start hfit Ac1 hzq1 hlq1 (by decide) (by decide) ⟨(el_is et1 Ac1 n_28).2, (el_is et1 Ac1 n_29).2, (el_is et1 Ac1 n_30).2, (el_is et1 Ac1 n_31).2, (el_is et1 Ac1 n_32).2, (el_is et1 Ac1 n_33).2, (el_is et1 Ac1 n_34).2, (el_is et1 Ac1 n_35).2, (el_is et1 Ac1 n_36).2, (el_is et1 Ac1 n_37).2, (el_is et1 Ac1 n_38).2, trivial⟩
  obtain ⟨sv2, es2⟩ := exa_v n_20
  have Ev2 : Exa s s.heap sv2 "java/lang/String" := Exa.start es2 n_20
  have Fv2 : Fld s s.heap st_HIGH "com/example/castellan/castellan/config/AssuranceLevel" "value" "Ljava/lang/String;" (.ref sv2) := Fld.start ((fld_at es_HIGH).symm.trans es2)
  have Cv2 : Fld s s.heap sv2 "java/lang/String" "coder" "B" (.int (0 : Int32)) := fld_int es2 n_21
  obtain ⟨tv2, et2⟩ := arr_v n_22
  have Gv2 : Fld s s.heap sv2 "java/lang/String" "value" "[B" (.ref tv2) := Fld.start ((fld_at es2).symm.trans et2)
  obtain ⟨cl2, Ac2⟩ := Arr.start et2 n_22
  obtain ⟨hzq2, hlq2⟩ := len_is et2 Ac2 n_23
  have Av2 : Arv s s.heap tv2 cl2.cls .byte (Int32.ofNat own_hig.length) ((own_hig.map StrChars.lo8).map Value.int) (.int 0) := Arv.start hfit Ac2 hzq2 hlq2 (by decide) (by decide) ⟨(el_is et2 Ac2 n_24).2, (el_is et2 Ac2 n_25).2, (el_is et2 Ac2 n_26).2, (el_is et2 Ac2 n_27).2, trivial⟩
  obtain ⟨clv, Acv⟩ := Arr.start es__VALUES n_0
  obtain ⟨hzv, hlv⟩ := len_is es__VALUES Acv n_2
  have Avv : Arv s s.heap st__VALUES clv.cls (.object "com/example/castellan/castellan/config/AssuranceLevel") (3 : Int32) [(.ref st_LOW), (.ref st_SUBSTANTIAL), (.ref st_HIGH)] .null := Arv.start hfit Acv hzv hlv (by decide) rfl ⟨elr es__VALUES Acv es_LOW n_4, elr es__VALUES Acv es_SUBSTANTIAL n_6, elr es__VALUES Acv es_HIGH n_8, trivial⟩
  obtain ⟨st_EMPTY, es_EMPTY⟩ := exa_v (Cond.before_iff.mp (hsets _ (List.mem_of_getElem? (i := 11) rfl)))
  have S_EMPTY : Sta s s.heap "java/util/Optional" "EMPTY" "Ljava/util/Optional;" (.ref st_EMPTY) := Sta.start es_EMPTY (Or.inl (hsets _ (List.mem_of_getElem? (i := 10) rfl)))
  have E_EMPTY : Exa s s.heap st_EMPTY "java/util/Optional" := Exa.start es_EMPTY (Cond.before_iff.mp (hsets _ (List.mem_of_getElem? (i := 11) rfl)))
  have Qe : Fld s s.heap st_EMPTY "java/util/Optional" "value" "Ljava/lang/Object;" .null := Fld.start ((fld_at es_EMPTY).symm.trans (eqn (Cond.before_iff.mp (hsets _ (List.mem_of_getElem? (i := 12) rfl)))))
  have hCH : CHv s consts_1 s.vm s.heap := CHv.start (own_EW hw) (fun p hp => hcalls.1 p hp) (hsets _ (List.mem_of_getElem? (i := 2) rfl)) (W_ hw 23 rfl) (W_ hw 6 rfl)
  obtain ⟨n, o, h1, h2, h3, _, L, rfl, ⟨rfl, N, -⟩, -, hq⟩ := own_m31 l s _ hw tables_1 i0 i1 i2 i3 z0 st_EMPTY st__VALUES clv.cls st_LOW sv0 tv0 cl0.cls st_SUBSTANTIAL sv1 tv1 cl1.cls st_HIGH sv2 tv2 cl2.cls s.heap s.heap.size (Old.start s) hz0 S_cs E_LOW Fv0 Ev0 Gv0 Cv0 Av0 E_SUBSTANTIAL Fv1 Ev1 Gv1 Cv1 Av1 E_HIGH Fv2 Ev2 Gv2 Cv2 Av2 S__VALUES E__VALUES Avv S_EMPTY E_EMPTY Qe S_LOW S_SUBSTANTIAL S_HIGH p e ha hc hk s m _ below hf ((Spec.applies_iff_loose hf).mp happ).1 ⟨rfl, State.Warmed39.refl s, rfl, hCH, fun _ q => nomatch q⟩ trivial
  refine ⟨n, _, h1, h2, h3, hpost _ _ _ _ _ _ ⟨Cond.after_iff.mpr rfl, Cond.after_iff.mpr (eq_i res_at (Term.int_eval (1)) rfl), trivial⟩ ⟨hq.1, hq.2.1, hq.2.2.1, (hq.2.2.2.sift fun y hy => Or.inr (N y hy)).mono (by decide) (by decide)⟩⟩
theorem main_1_1 : Claimed_1_1 := comes_1 fun _ _ _ _ _ _ h hF => ⟨h.1, hF⟩
theorem main_1_2 : Claimed_1_2 := comes_1 fun _ _ _ _ _ _ h hF => ⟨h.2.1, hF⟩
end Jvm.Pilot.@@N@@
namespace Jvm.Pilot.@@N@@
open Jvm Jvm.ClassFile Sem Op Lib Jvm.Free Jvm.Stand Jvm.Pilot.@@N@@.Jvm.D
/-! MADE BY PROGRAM (witnessworld.py) out of the Statement's table words and the real class files: 24 classes; the members and pool entries that the words name. The judged class is class 1, her method 1. -/
namespace start1
open Jvm.ClassFile
def u (s : String) : CpInfo := .utf8 (stringToUtf16 s)
/-- a pool by its gaps: so many unusable entries, then the entry; so many at the end -/
def gap : Nat → List CpInfo → List CpInfo
  | 0, r => r
  | n + 1, r => .unusable :: gap n r
def poolList (es : List (Nat × CpInfo)) (last : Nat) : List CpInfo := es.foldr (fun e r => gap e.1 (e.2 :: r)) (gap last [])
def pool (es : List (Nat × CpInfo)) (last : Nat) : Array CpInfo := ⟨poolList es last⟩
def fileOf (pool : Array CpInfo) (this : Nat) (attrs : Array Attribute := #[]) (ms : Array MethodInfo := #[]) (fl : Nat := 33) (sup : Nat := 0) (ifs : Array Nat := #[]) (fds : Array FieldInfo := #[]) : ClassFile where
  minorVersion := 0
  majorVersion := 65
  constantPool := pool
  accessFlags := fl
  thisClass := this
  superClass := sup
  interfaces := ifs
  fields := fds
  methods := ms
  attributes := attrs
def plain (name : String) (sup : Option ClassId) : Class where
  name := name
  kind := .ordinary
  loader := none
  accessFlags := 33
  super := sup
  interfaces := #[]
  cf := none
  fields := #[]
  methods := #[]
  instanceTypes := #[]
  staticTypes := #[]
  resolved := #[]
  callSites := []
  init := .initialized
  statics := none
  mirror := none

def pool0 : Array CpInfo := pool [(5, u "<init>"), (0, u "()V"), (1, .class_ 10), (1, u "java/lang/Object"), (85, u "clone"), (0, u "()Ljava/lang/Object;")] 26

def k0c0 : Code := { maxStack := 0, maxLocals := 1, code := object_method_1_code, exceptionTable := #[], attributes := #[] }
def k0m0 : Method := { name := "<init>", desc := "()V", sig := { parameters := [], returnType := none }, accessFlags := 1, code := some k0c0 }
def k0m1 : Method := { name := "clone", desc := "()Ljava/lang/Object;", sig := { parameters := [], returnType := some (.object "java/lang/Object") }, accessFlags := 260, code := none }
/-- java/lang/Object -/
def k0 : Class := { plain "java/lang/Object" none with
  accessFlags := 33
  interfaces := #[]
  cf := some (fileOf pool0 8 #[] #[{ accessFlags := 1, nameIndex := 5, descriptorIndex := 6, attributes := #[] }, { accessFlags := 260, nameIndex := 96, descriptorIndex := 97, attributes := #[] }] 33 0 #[] #[])
  fields := #[]
  methods := #[k0m0, k0m1]
  instanceTypes := #[]
  staticTypes := #[]
  resolved := Array.replicate 124 none
  statics := none }

def pool1 : Array CpInfo := pool [(2, .class_ 4), (1, u "java/lang/Object"), (0, u "<init>"), (0, u "()V"), (0, .long 255), (1, .class_ 10), (0, u "java/lang/String"), (0, .methodref 12 13), (0, .class_ 14), (0, .nameAndType 15 16), (0, u "com/example/castellan/castellan/config/AssuranceLevelNamedPinLaw"), (0, u "free"), (0, u "(ICCCC)[C"), (0, .methodref 9 18), (0, .nameAndType 5 19), (0, u "([C)V"), (0, .methodref 12 21), (0, .nameAndType 22 23), (0, u "name"), (0, u "(IIC)[C"), (0, .integer 2147483647), (0, .methodref 26 27), (0, .class_ 28), (0, .nameAndType 29 30), (0, u "com/example/castellan/castellan/config/AssuranceLevel"), (0, u "named"), (0, u "(Ljava/lang/String;)Ljava/util/Optional;"), (0, .methodref 32 33), (0, .class_ 34), (0, .nameAndType 35 36), (0, u "java/util/Optional"), (0, u "isPresent"), (0, u "()Z"), (0, .methodref 32 38), (0, .nameAndType 39 40), (0, u "get"), (0, u "()Ljava/lang/Object;"), (0, .fieldref 26 42), (0, .nameAndType 43 44), (0, u "LOW"), (0, u "Lcom/example/castellan/castellan/config/AssuranceLevel;"), (0, .fieldref 26 46), (0, .nameAndType 47 44), (0, u "SUBSTANTIAL"), (0, .fieldref 26 49), (0, .nameAndType 50 44), (0, u "HIGH"), (2, u "law"), (0, u "(IIIJ)Z")] 5

def k1m0 : Method := { name := "<init>", desc := "()V", sig := { parameters := [], returnType := none }, accessFlags := 1, code := none }
def k1c1 : Code := { maxStack := 7, maxLocals := 15, code := code, exceptionTable := #[], attributes := #[] }
def k1m1 : Method := { name := "law", desc := "(IIIJ)Z", sig := { parameters := [.int, .int, .int, .long], returnType := some .boolean }, accessFlags := 9, code := some k1c1 }
def k1c2 : Code := { maxStack := 4, maxLocals := 3, code := method_3_code, exceptionTable := #[], attributes := #[] }
def k1m2 : Method := { name := "name", desc := "(IIC)[C", sig := { parameters := [.int, .int, .char], returnType := some (.array .char) }, accessFlags := 10, code := some k1c2 }
def k1c3 : Code := { maxStack := 4, maxLocals := 5, code := method_4_code, exceptionTable := #[], attributes := #[] }
def k1m3 : Method := { name := "free", desc := "(ICCCC)[C", sig := { parameters := [.int, .char, .char, .char, .char], returnType := some (.array .char) }, accessFlags := 10, code := some k1c3 }
/-- com/example/castellan/castellan/config/AssuranceLevelNamedPinLaw -/
def k1 : Class := { plain "com/example/castellan/castellan/config/AssuranceLevelNamedPinLaw" (some 0) with
  accessFlags := 49
  interfaces := #[]
  cf := some (fileOf pool1 12 #[] #[{ accessFlags := 1, nameIndex := 5, descriptorIndex := 6, attributes := #[] }, { accessFlags := 9, nameIndex := 53, descriptorIndex := 54, attributes := #[] }, { accessFlags := 10, nameIndex := 22, descriptorIndex := 23, attributes := #[] }, { accessFlags := 10, nameIndex := 15, descriptorIndex := 16, attributes := #[] }] 49 2 #[] #[])
  fields := #[]
  methods := #[k1m0, k1m1, k1m2, k1m3]
  instanceTypes := #[]
  staticTypes := #[]
  resolved := Array.replicate 60 none
  statics := none }

def pool2 : Array CpInfo := pool [(1, .class_ 2), (0, u "java/io/Serializable"), (0, .class_ 4), (0, u "java/lang/Object")] 2

/-- java/io/Serializable -/
def k2 : Class := { plain "java/io/Serializable" (some 0) with
  accessFlags := 1537
  interfaces := #[]
  cf := some (fileOf pool2 1 #[] #[] 1537 3 #[] #[])
  fields := #[]
  methods := #[]
  instanceTypes := #[]
  staticTypes := #[]
  resolved := Array.replicate 7 none
  statics := none }

def pool3 : Array CpInfo := pool [(1, .class_ 2), (0, u "java/lang/Comparable"), (0, .class_ 4), (0, u "java/lang/Object")] 7

/-- java/lang/Comparable -/
def k3 : Class := { plain "java/lang/Comparable" (some 0) with
  accessFlags := 1537
  interfaces := #[]
  cf := some (fileOf pool3 1 #[] #[] 1537 3 #[] #[])
  fields := #[]
  methods := #[]
  instanceTypes := #[]
  staticTypes := #[]
  resolved := Array.replicate 12 none
  statics := none }

def pool4 : Array CpInfo := pool [(2, .class_ 4), (1, u "java/lang/CharSequence"), (42, .class_ 48), (0, u "java/lang/CharSequence$1CodePointIterator"), (10, .class_ 60), (0, u "java/lang/CharSequence$1CharIterator"), (5, .class_ 67), (0, u "java/lang/Object")] 63

/-- java/lang/CharSequence -/
def k4 : Class := { plain "java/lang/CharSequence" (some 0) with
  accessFlags := 1537
  interfaces := #[]
  cf := some (fileOf pool4 2 #[.nestMembers #[47, 59]] #[] 1537 66 #[] #[])
  fields := #[]
  methods := #[]
  instanceTypes := #[]
  staticTypes := #[]
  resolved := Array.replicate 131 none
  statics := none }

def pool5 : Array CpInfo := pool [(1, .class_ 2), (0, u "java/lang/constant/Constable"), (0, .class_ 4), (0, u "java/lang/Object")] 6

/-- java/lang/constant/Constable -/
def k5 : Class := { plain "java/lang/constant/Constable" (some 0) with
  accessFlags := 1537
  interfaces := #[]
  cf := some (fileOf pool5 1 #[] #[] 1537 3 #[] #[])
  fields := #[]
  methods := #[]
  instanceTypes := #[]
  staticTypes := #[]
  resolved := Array.replicate 11 none
  statics := none }

def pool6 : Array CpInfo := pool [(1, .class_ 2), (0, u "java/lang/constant/ConstantDesc"), (0, .class_ 4), (0, u "java/lang/Object")] 32

/-- java/lang/constant/ConstantDesc -/
def k6 : Class := { plain "java/lang/constant/ConstantDesc" (some 0) with
  accessFlags := 1537
  interfaces := #[]
  cf := some (fileOf pool6 1 #[] #[] 1537 3 #[] #[])
  fields := #[]
  methods := #[]
  instanceTypes := #[]
  staticTypes := #[]
  resolved := Array.replicate 37 none
  statics := none }

def pool7 : Array CpInfo := pool [(1, .methodref 2 3), (0, .class_ 4), (0, .nameAndType 5 6), (0, u "java/lang/Object"), (0, u "<init>"), (0, u "()V"), (0, .string 8), (0, u ""), (0, .fieldref 10 11), (0, .class_ 12), (0, .nameAndType 13 14), (0, u "java/lang/String"), (0, u "value"), (0, u "[B"), (0, .fieldref 10 16), (0, .nameAndType 17 18), (0, u "coder"), (0, u "B"), (2, u "hash"), (0, u "I"), (2, u "hashIsZero"), (0, u "Z"), (0, .methodref 10 28), (0, .nameAndType 5 29), (0, u "([CIILjava/lang/Void;)V"), (8, .fieldref 10 39), (0, .nameAndType 40 26), (0, u "COMPACT_STRINGS"), (1, .class_ 44), (1, u "java/lang/StringUTF16"), (0, u "compress"), (1, .methodref 42 48), (0, .nameAndType 49 50), (0, u "coderFromArrayLen"), (0, u "([BI)B"), (56, .class_ 109), (1, u "java/lang/StringLatin1"), (67, .methodref 42 178), (0, .nameAndType 45 179), (0, u "([CII)[B"), (361, .methodref 107 542), (0, .nameAndType 543 544), (0, u "equals"), (0, u "([B[B)Z"), (28, u "(Ljava/lang/Object;)Z"), (1, .class_ 576), (0, u "java/lang/CharSequence"), (22, u "CASE_INSENSITIVE_ORDER"), (0, u "Ljava/util/Comparator;"), (409, u "([C)V"), (90, u "serialPersistentFields"), (0, u "[Ljava/io/ObjectStreamField;"), (0, .class_ 1104), (0, u "java/lang/String$CaseInsensitiveComparator"), (1, .class_ 1107), (0, u "java/io/Serializable"), (0, .class_ 1109), (0, u "java/lang/Comparable"), (0, .class_ 1111), (0, u "java/lang/constant/Constable"), (0, .class_ 1113), (0, u "java/lang/constant/ConstantDesc"), (2, u "serialVersionUID"), (0, u "J"), (3, u "REPL"), (0, u "C"), (2, u "LATIN1"), (1, u "UTF16")] 323

def k7m0 : Method := { name := "<init>", desc := "()V", sig := { parameters := [], returnType := none }, accessFlags := 1, code := none }
def k7c1 : Code := { maxStack := 5, maxLocals := 2, code := jdk_42_method_3_code, exceptionTable := #[], attributes := #[] }
def k7m1 : Method := { name := "<init>", desc := "([C)V", sig := { parameters := [(.array .char)], returnType := none }, accessFlags := 1, code := some k7c1 }
def k7c2 : Code := { maxStack := 2, maxLocals := 3, code := jdk_42_method_66_code, exceptionTable := #[], attributes := #[] }
def k7m2 : Method := { name := "equals", desc := "(Ljava/lang/Object;)Z", sig := { parameters := [(.object "java/lang/Object")], returnType := some .boolean }, accessFlags := 1, code := some k7c2 }
def k7c3 : Code := { maxStack := 4, maxLocals := 6, code := jdk_42_method_149_code, exceptionTable := #[], attributes := #[] }
def k7m3 : Method := { name := "<init>", desc := "([CIILjava/lang/Void;)V", sig := { parameters := [(.array .char), .int, .int, (.object "java/lang/Void")], returnType := none }, accessFlags := 2, code := some k7c3 }
/-- java/lang/String -/
def k7 : Class := { plain "java/lang/String" (some 0) with
  accessFlags := 49
  interfaces := #[2, 3, 4, 5, 6]
  cf := some (fileOf pool7 10 #[.nestMembers #[1103]] #[{ accessFlags := 1, nameIndex := 5, descriptorIndex := 6, attributes := #[] }, { accessFlags := 1, nameIndex := 5, descriptorIndex := 1010, attributes := #[] }, { accessFlags := 1, nameIndex := 543, descriptorIndex := 573, attributes := #[] }, { accessFlags := 2, nameIndex := 5, descriptorIndex := 29, attributes := #[] }] 49 2 #[1106, 1108, 575, 1110, 1112] #[{ accessFlags := 18, nameIndex := 13, descriptorIndex := 14, attributes := #[] }, { accessFlags := 18, nameIndex := 17, descriptorIndex := 18, attributes := #[] }, { accessFlags := 2, nameIndex := 21, descriptorIndex := 22, attributes := #[] }, { accessFlags := 2, nameIndex := 25, descriptorIndex := 26, attributes := #[] }, { accessFlags := 26, nameIndex := 1116, descriptorIndex := 1117, attributes := #[] }, { accessFlags := 24, nameIndex := 40, descriptorIndex := 26, attributes := #[] }, { accessFlags := 26, nameIndex := 1101, descriptorIndex := 1102, attributes := #[] }, { accessFlags := 26, nameIndex := 1121, descriptorIndex := 1122, attributes := #[] }, { accessFlags := 25, nameIndex := 599, descriptorIndex := 600, attributes := #[] }, { accessFlags := 24, nameIndex := 1125, descriptorIndex := 18, attributes := #[] }, { accessFlags := 24, nameIndex := 1127, descriptorIndex := 18, attributes := #[] }])
  fields := #[{ name := "value", type := (.array .byte), accessFlags := 18, slot := 0, constantValue := 0 }, { name := "coder", type := .byte, accessFlags := 18, slot := 1, constantValue := 0 }, { name := "hash", type := .int, accessFlags := 2, slot := 2, constantValue := 0 }, { name := "hashIsZero", type := .boolean, accessFlags := 2, slot := 3, constantValue := 0 }, { name := "serialVersionUID", type := .long, accessFlags := 26, slot := 0, constantValue := 0 }, { name := "COMPACT_STRINGS", type := .boolean, accessFlags := 24, slot := 1, constantValue := 0 }, { name := "serialPersistentFields", type := (.array (.object "java/io/ObjectStreamField")), accessFlags := 26, slot := 2, constantValue := 0 }, { name := "REPL", type := .char, accessFlags := 26, slot := 3, constantValue := 0 }, { name := "CASE_INSENSITIVE_ORDER", type := (.object "java/util/Comparator"), accessFlags := 25, slot := 4, constantValue := 0 }, { name := "LATIN1", type := .byte, accessFlags := 24, slot := 5, constantValue := 0 }, { name := "UTF16", type := .byte, accessFlags := 24, slot := 6, constantValue := 0 }]
  methods := #[k7m0, k7m1, k7m2, k7m3]
  instanceTypes := #[(.array .byte), .byte, .int, .boolean]
  staticTypes := #[.long, .boolean, (.array (.object "java/io/ObjectStreamField")), .char, (.object "java/util/Comparator"), .byte, .byte]
  resolved := Array.replicate 1451 none
  statics := some 0 }

def pool8 : Array CpInfo := pool [(6, .class_ 8), (1, u "java/lang/Object"), (0, u "<init>"), (0, u "()V"), (1, .class_ 14), (1, u "java/lang/StringUTF16"), (31, u "$assertionsDisabled"), (0, u "Z"), (13, u "HI_BYTE_SHIFT"), (0, u "I"), (2, u "LO_BYTE_SHIFT"), (49, .methodref 12 116), (0, .nameAndType 117 118), (0, u "compress"), (0, u "([CI[BII)I"), (3, u "([CII)[B"), (138, u "coderFromArrayLen"), (0, u "([BI)B"), (106, .class_ 371), (1, u "java/lang/StringUTF16$LinesSpliterator"), (58, u "MAX_LENGTH"), (196, .class_ 628), (0, u "java/lang/StringUTF16$CodePointsSpliterator"), (0, .class_ 630), (0, u "java/lang/StringUTF16$CharsSpliterator")] 4

def k8m0 : Method := { name := "<init>", desc := "()V", sig := { parameters := [], returnType := none }, accessFlags := 0, code := none }
def k8c1 : Code := { maxStack := 2, maxLocals := 2, code := jdk_52_method_15_code, exceptionTable := #[], attributes := #[] }
def k8m1 : Method := { name := "coderFromArrayLen", desc := "([BI)B", sig := { parameters := [(.array .byte), .int], returnType := some .byte }, accessFlags := 8, code := some k8c1 }
def k8c2 : Code := { maxStack := 5, maxLocals := 6, code := jdk_52_method_16_code, exceptionTable := #[], attributes := #[] }
def k8m2 : Method := { name := "compress", desc := "([CII)[B", sig := { parameters := [(.array .char), .int, .int], returnType := some (.array .byte) }, accessFlags := 9, code := some k8c2 }
def k8c3 : Code := { maxStack := 3, maxLocals := 7, code := jdk_52_method_21_code, exceptionTable := #[], attributes := #[] }
def k8m3 : Method := { name := "compress", desc := "([CI[BII)I", sig := { parameters := [(.array .char), .int, (.array .byte), .int, .int], returnType := some .int }, accessFlags := 9, code := some k8c3 }
/-- java/lang/StringUTF16 -/
def k8 : Class := { plain "java/lang/StringUTF16" (some 0) with
  accessFlags := 48
  interfaces := #[]
  cf := some (fileOf pool8 12 #[.nestMembers #[627, 629, 369]] #[{ accessFlags := 0, nameIndex := 9, descriptorIndex := 10, attributes := #[] }, { accessFlags := 8, nameIndex := 261, descriptorIndex := 262, attributes := #[] }, { accessFlags := 9, nameIndex := 117, descriptorIndex := 122, attributes := #[] }, { accessFlags := 9, nameIndex := 117, descriptorIndex := 118, attributes := #[] }] 48 6 #[] #[{ accessFlags := 26, nameIndex := 61, descriptorIndex := 62, attributes := #[] }, { accessFlags := 26, nameIndex := 65, descriptorIndex := 62, attributes := #[] }, { accessFlags := 24, nameIndex := 430, descriptorIndex := 62, attributes := #[] }, { accessFlags := 4120, nameIndex := 46, descriptorIndex := 47, attributes := #[] }])
  fields := #[{ name := "HI_BYTE_SHIFT", type := .int, accessFlags := 26, slot := 0, constantValue := 0 }, { name := "LO_BYTE_SHIFT", type := .int, accessFlags := 26, slot := 1, constantValue := 0 }, { name := "MAX_LENGTH", type := .int, accessFlags := 24, slot := 2, constantValue := 0 }, { name := "$assertionsDisabled", type := .boolean, accessFlags := 4120, slot := 3, constantValue := 0 }]
  methods := #[k8m0, k8m1, k8m2, k8m3]
  instanceTypes := #[]
  staticTypes := #[.int, .int, .int, .boolean]
  resolved := Array.replicate 635 none
  statics := none }

def pool9 : Array CpInfo := pool [(2, .class_ 4), (1, u "java/lang/Enum"), (0, u "name"), (0, u "Ljava/lang/String;"), (2, u "ordinal"), (0, u "I"), (1, .class_ 14), (1, u "java/lang/Object"), (4, u "hash"), (86, .class_ 108), (1, u "java/lang/Enum$EnumDesc"), (2, .class_ 112), (0, u "java/lang/constant/Constable"), (0, .class_ 114), (0, u "java/lang/Comparable"), (0, .class_ 116), (0, u "java/io/Serializable")] 87

/-- java/lang/Enum -/
def k9 : Class := { plain "java/lang/Enum" (some 0) with
  accessFlags := 1057
  interfaces := #[5, 3, 2]
  cf := some (fileOf pool9 2 #[.nestMembers #[106]] #[] 1057 12 #[111, 113, 115] #[{ accessFlags := 18, nameIndex := 5, descriptorIndex := 6, attributes := #[] }, { accessFlags := 18, nameIndex := 9, descriptorIndex := 10, attributes := #[] }, { accessFlags := 2, nameIndex := 19, descriptorIndex := 10, attributes := #[] }])
  fields := #[{ name := "name", type := (.object "java/lang/String"), accessFlags := 18, slot := 0, constantValue := 0 }, { name := "ordinal", type := .int, accessFlags := 18, slot := 1, constantValue := 0 }, { name := "hash", type := .int, accessFlags := 2, slot := 2, constantValue := 0 }]
  methods := #[]
  instanceTypes := #[(.object "java/lang/String"), .int, .int]
  staticTypes := #[]
  resolved := Array.replicate 204 none
  statics := none }

def pool10 : Array CpInfo := pool [(1, .class_ 2), (0, u "com/example/castellan/castellan/config/AssuranceLevel"), (2, u "LOW"), (0, u "Lcom/example/castellan/castellan/config/AssuranceLevel;"), (2, u "SUBSTANTIAL"), (2, u "HIGH"), (0, .fieldref 1 14), (0, .nameAndType 15 16), (0, u "$VALUES"), (0, u "[Lcom/example/castellan/castellan/config/AssuranceLevel;"), (0, .methodref 18 19), (0, .class_ 16), (0, .nameAndType 20 21), (0, u "clone"), (0, u "()Ljava/lang/Object;"), (1, .class_ 25), (1, u "java/lang/Enum"), (6, .fieldref 1 33), (0, .nameAndType 34 35), (0, u "value"), (0, u "Ljava/lang/String;"), (0, .methodref 1 37), (0, .nameAndType 38 39), (0, u "values"), (0, u "()[Lcom/example/castellan/castellan/config/AssuranceLevel;"), (0, .methodref 41 42), (0, .class_ 43), (0, .nameAndType 44 45), (0, u "java/lang/String"), (0, u "equals"), (0, u "(Ljava/lang/Object;)Z"), (0, .methodref 47 48), (0, .class_ 49), (0, .nameAndType 50 51), (0, u "java/util/Optional"), (0, u "of"), (0, u "(Ljava/lang/Object;)Ljava/util/Optional;"), (0, .methodref 47 53), (0, .nameAndType 54 55), (0, u "empty"), (0, u "()Ljava/util/Optional;"), (35, u "named"), (0, u "(Ljava/lang/String;)Ljava/util/Optional;")] 12

def k10c0 : Code := { maxStack := 1, maxLocals := 0, code := prog_1_method_1_code, exceptionTable := #[], attributes := #[] }
def k10m0 : Method := { name := "values", desc := "()[Lcom/example/castellan/castellan/config/AssuranceLevel;", sig := { parameters := [], returnType := some (.array (.object "com/example/castellan/castellan/config/AssuranceLevel")) }, accessFlags := 9, code := some k10c0 }
def k10c1 : Code := { maxStack := 2, maxLocals := 5, code := prog_1_method_4_code, exceptionTable := #[], attributes := #[] }
def k10m1 : Method := { name := "named", desc := "(Ljava/lang/String;)Ljava/util/Optional;", sig := { parameters := [(.object "java/lang/String")], returnType := some (.object "java/util/Optional") }, accessFlags := 9, code := some k10c1 }
/-- com/example/castellan/castellan/config/AssuranceLevel -/
def k10 : Class := { plain "com/example/castellan/castellan/config/AssuranceLevel" (some 9) with
  accessFlags := 16433
  interfaces := #[]
  cf := some (fileOf pool10 1 #[] #[{ accessFlags := 9, nameIndex := 38, descriptorIndex := 39, attributes := #[] }, { accessFlags := 9, nameIndex := 91, descriptorIndex := 92, attributes := #[] }] 16433 23 #[] #[{ accessFlags := 16409, nameIndex := 5, descriptorIndex := 6, attributes := #[] }, { accessFlags := 16409, nameIndex := 9, descriptorIndex := 6, attributes := #[] }, { accessFlags := 16409, nameIndex := 12, descriptorIndex := 6, attributes := #[] }, { accessFlags := 18, nameIndex := 34, descriptorIndex := 35, attributes := #[] }, { accessFlags := 4122, nameIndex := 15, descriptorIndex := 16, attributes := #[] }])
  fields := #[{ name := "LOW", type := (.object "com/example/castellan/castellan/config/AssuranceLevel"), accessFlags := 16409, slot := 0, constantValue := 0 }, { name := "SUBSTANTIAL", type := (.object "com/example/castellan/castellan/config/AssuranceLevel"), accessFlags := 16409, slot := 1, constantValue := 0 }, { name := "HIGH", type := (.object "com/example/castellan/castellan/config/AssuranceLevel"), accessFlags := 16409, slot := 2, constantValue := 0 }, { name := "value", type := (.object "java/lang/String"), accessFlags := 18, slot := 3, constantValue := 0 }, { name := "$VALUES", type := (.array (.object "com/example/castellan/castellan/config/AssuranceLevel")), accessFlags := 4122, slot := 3, constantValue := 0 }]
  methods := #[k10m0, k10m1]
  instanceTypes := #[(.object "java/lang/String"), .int, .int, (.object "java/lang/String")]
  staticTypes := #[(.object "com/example/castellan/castellan/config/AssuranceLevel"), (.object "com/example/castellan/castellan/config/AssuranceLevel"), (.object "com/example/castellan/castellan/config/AssuranceLevel"), (.array (.object "com/example/castellan/castellan/config/AssuranceLevel"))]
  resolved := Array.replicate 105 none
  statics := some 1 }

def pool11 : Array CpInfo := pool [(1, .class_ 2), (0, u "java/lang/Cloneable"), (0, .class_ 4), (0, u "java/lang/Object")] 2

/-- java/lang/Cloneable -/
def k11 : Class := { plain "java/lang/Cloneable" (some 0) with
  accessFlags := 1537
  interfaces := #[]
  cf := some (fileOf pool11 1 #[] #[] 1537 3 #[] #[])
  fields := #[]
  methods := #[]
  instanceTypes := #[]
  staticTypes := #[]
  resolved := Array.replicate 7 none
  statics := none }

def pool12 : Array CpInfo := pool [(4, .class_ 6), (1, u "java/lang/Object"), (0, u "<init>"), (0, u "()V"), (5, .class_ 16), (1, u "java/lang/StringLatin1"), (104, u "$assertionsDisabled"), (0, u "Z"), (98, .class_ 223), (1, u "java/lang/StringLatin1$LinesSpliterator"), (57, u "equals"), (0, u "([B[B)Z"), (107, .class_ 391), (0, u "java/lang/StringLatin1$CharsSpliterator")] 3

def k12m0 : Method := { name := "<init>", desc := "()V", sig := { parameters := [], returnType := none }, accessFlags := 0, code := none }
def k12c1 : Code := { maxStack := 3, maxLocals := 3, code := jdk_43_method_13_code, exceptionTable := #[], attributes := #[] }
def k12m1 : Method := { name := "equals", desc := "([B[B)Z", sig := { parameters := [(.array .byte), (.array .byte)], returnType := some .boolean }, accessFlags := 9, code := some k12c1 }
/-- java/lang/StringLatin1 -/
def k12 : Class := { plain "java/lang/StringLatin1" (some 0) with
  accessFlags := 48
  interfaces := #[]
  cf := some (fileOf pool12 14 #[.nestMembers #[390, 221]] #[{ accessFlags := 0, nameIndex := 7, descriptorIndex := 8, attributes := #[] }, { accessFlags := 9, nameIndex := 281, descriptorIndex := 282, attributes := #[] }] 48 4 #[] #[{ accessFlags := 4120, nameIndex := 121, descriptorIndex := 122, attributes := #[] }])
  fields := #[{ name := "$assertionsDisabled", type := .boolean, accessFlags := 4120, slot := 0, constantValue := 0 }]
  methods := #[k12m0, k12m1]
  instanceTypes := #[]
  staticTypes := #[.boolean]
  resolved := Array.replicate 395 none
  statics := none }

def pool13 : Array CpInfo := pool [(1, .fieldref 2 3), (0, .class_ 4), (0, .nameAndType 5 6), (0, u "java/util/Optional"), (0, u "EMPTY"), (0, u "Ljava/util/Optional;"), (0, .methodref 8 9), (0, .class_ 10), (0, .nameAndType 11 12), (0, u "java/lang/Object"), (0, u "<init>"), (0, u "()V"), (0, .fieldref 2 14), (0, .nameAndType 15 16), (0, u "value"), (0, u "Ljava/lang/Object;"), (0, .methodref 18 19), (0, .class_ 20), (0, .nameAndType 21 22), (0, u "java/util/Objects"), (0, u "requireNonNull"), (0, u "(Ljava/lang/Object;)Ljava/lang/Object;"), (0, .methodref 2 24), (0, .nameAndType 11 25), (0, u "(Ljava/lang/Object;)V"), (20, u "()Z"), (8, u "empty"), (0, u "()Ljava/util/Optional;"), (8, u "(Ljava/lang/Object;)Ljava/util/Optional;"), (2, u "isPresent"), (4, u "get"), (0, u "()Ljava/lang/Object;"), (7, u "of")] 104

def k13c0 : Code := { maxStack := 1, maxLocals := 1, code := jdk_32_method_1_code, exceptionTable := #[], attributes := #[] }
def k13m0 : Method := { name := "empty", desc := "()Ljava/util/Optional;", sig := { parameters := [], returnType := some (.object "java/util/Optional") }, accessFlags := 9, code := some k13c0 }
def k13c1 : Code := { maxStack := 2, maxLocals := 2, code := jdk_32_method_2_code, exceptionTable := #[], attributes := #[] }
def k13m1 : Method := { name := "<init>", desc := "(Ljava/lang/Object;)V", sig := { parameters := [(.object "java/lang/Object")], returnType := none }, accessFlags := 2, code := some k13c1 }
def k13c2 : Code := { maxStack := 3, maxLocals := 1, code := jdk_32_method_3_code, exceptionTable := #[], attributes := #[] }
def k13m2 : Method := { name := "of", desc := "(Ljava/lang/Object;)Ljava/util/Optional;", sig := { parameters := [(.object "java/lang/Object")], returnType := some (.object "java/util/Optional") }, accessFlags := 9, code := some k13c2 }
def k13c3 : Code := { maxStack := 3, maxLocals := 1, code := jdk_32_method_5_code, exceptionTable := #[], attributes := #[] }
def k13m3 : Method := { name := "get", desc := "()Ljava/lang/Object;", sig := { parameters := [], returnType := some (.object "java/lang/Object") }, accessFlags := 1, code := some k13c3 }
def k13c4 : Code := { maxStack := 1, maxLocals := 1, code := jdk_32_method_6_code, exceptionTable := #[], attributes := #[] }
def k13m4 : Method := { name := "isPresent", desc := "()Z", sig := { parameters := [], returnType := some .boolean }, accessFlags := 1, code := some k13c4 }
/-- java/util/Optional -/
def k13 : Class := { plain "java/util/Optional" (some 0) with
  accessFlags := 49
  interfaces := #[]
  cf := some (fileOf pool13 2 #[] #[{ accessFlags := 9, nameIndex := 55, descriptorIndex := 56, attributes := #[] }, { accessFlags := 2, nameIndex := 11, descriptorIndex := 25, attributes := #[] }, { accessFlags := 9, nameIndex := 82, descriptorIndex := 65, attributes := #[] }, { accessFlags := 1, nameIndex := 73, descriptorIndex := 74, attributes := #[] }, { accessFlags := 1, nameIndex := 68, descriptorIndex := 46, attributes := #[] }] 49 8 #[] #[{ accessFlags := 26, nameIndex := 5, descriptorIndex := 6, attributes := #[] }, { accessFlags := 18, nameIndex := 15, descriptorIndex := 16, attributes := #[] }])
  fields := #[{ name := "EMPTY", type := (.object "java/util/Optional"), accessFlags := 26, slot := 0, constantValue := 0 }, { name := "value", type := (.object "java/lang/Object"), accessFlags := 18, slot := 0, constantValue := 0 }]
  methods := #[k13m0, k13m1, k13m2, k13m3, k13m4]
  instanceTypes := #[(.object "java/lang/Object")]
  staticTypes := #[(.object "java/util/Optional")]
  resolved := Array.replicate 187 none
  statics := some 2 }

def pool14 : Array CpInfo := pool [(2, .class_ 4), (1, u "java/lang/Object"), (0, u "<init>"), (0, u "()V"), (35, .class_ 44), (1, u "java/util/Objects"), (0, u "requireNonNull"), (0, u "(Ljava/lang/Object;)Ljava/lang/Object;")] 137

def k14m0 : Method := { name := "<init>", desc := "()V", sig := { parameters := [], returnType := none }, accessFlags := 2, code := none }
def k14c1 : Code := { maxStack := 2, maxLocals := 1, code := jdk_31_method_10_code, exceptionTable := #[], attributes := #[] }
def k14m1 : Method := { name := "requireNonNull", desc := "(Ljava/lang/Object;)Ljava/lang/Object;", sig := { parameters := [(.object "java/lang/Object")], returnType := some (.object "java/lang/Object") }, accessFlags := 9, code := some k14c1 }
/-- java/util/Objects -/
def k14 : Class := { plain "java/util/Objects" (some 0) with
  accessFlags := 49
  interfaces := #[]
  cf := some (fileOf pool14 42 #[] #[{ accessFlags := 2, nameIndex := 5, descriptorIndex := 6, attributes := #[] }, { accessFlags := 9, nameIndex := 45, descriptorIndex := 46, attributes := #[] }] 49 2 #[] #[])
  fields := #[]
  methods := #[k14m0, k14m1]
  instanceTypes := #[]
  staticTypes := #[]
  resolved := Array.replicate 184 none
  statics := none }

def pool15 : Array CpInfo := pool [(2, .class_ 4), (1, u "java/lang/Object"), (0, u "<init>"), (0, u "()V"), (17, .class_ 26), (1, u "jdk/internal/util/Preconditions"), (28, .class_ 56), (0, u "jdk/internal/util/Preconditions$4"), (57, .class_ 115), (0, u "jdk/internal/util/Preconditions$1"), (7, u "SIOOBE_FORMATTER"), (0, u "Ljava/util/function/BiFunction;"), (0, .class_ 126), (0, u "jdk/internal/util/Preconditions$2"), (3, u "AIOOBE_FORMATTER"), (0, .class_ 132), (0, u "jdk/internal/util/Preconditions$3"), (3, u "IOOBE_FORMATTER")] 57

def k15m0 : Method := { name := "<init>", desc := "()V", sig := { parameters := [], returnType := none }, accessFlags := 1, code := none }
/-- jdk/internal/util/Preconditions -/
def k15 : Class := { plain "jdk/internal/util/Preconditions" (some 0) with
  accessFlags := 33
  interfaces := #[]
  cf := some (fileOf pool15 24 #[.nestMembers #[55, 131, 125, 114]] #[{ accessFlags := 1, nameIndex := 5, descriptorIndex := 6, attributes := #[] }] 33 2 #[] #[{ accessFlags := 25, nameIndex := 123, descriptorIndex := 124, attributes := #[] }, { accessFlags := 25, nameIndex := 130, descriptorIndex := 124, attributes := #[] }, { accessFlags := 25, nameIndex := 136, descriptorIndex := 124, attributes := #[] }])
  fields := #[{ name := "SIOOBE_FORMATTER", type := (.object "java/util/function/BiFunction"), accessFlags := 25, slot := 0, constantValue := 0 }, { name := "AIOOBE_FORMATTER", type := (.object "java/util/function/BiFunction"), accessFlags := 25, slot := 1, constantValue := 0 }, { name := "IOOBE_FORMATTER", type := (.object "java/util/function/BiFunction"), accessFlags := 25, slot := 2, constantValue := 0 }]
  methods := #[k15m0]
  instanceTypes := #[]
  staticTypes := #[(.object "java/util/function/BiFunction"), (.object "java/util/function/BiFunction"), (.object "java/util/function/BiFunction")]
  resolved := Array.replicate 194 none
  statics := some 3 }

def pool16 : Array CpInfo := pool [(9, u "<init>"), (6, .class_ 18), (1, u "java/lang/Object"), (0, u "()V"), (1, .class_ 23), (1, u "jdk/internal/util/ArraysSupport"), (0, u "LOG2_ARRAY_LONG_INDEX_SCALE"), (0, u "I"), (2, u "U"), (0, u "Ljdk/internal/misc/Unsafe;"), (8, u "BIG_ENDIAN"), (0, u "Z"), (8, u "LOG2_BYTE_BIT_SIZE"), (4, u "LOG2_ARRAY_INT_INDEX_SCALE"), (54, u "JLA"), (0, u "Ljdk/internal/access/JavaLangAccess;"), (11, u "LOG2_ARRAY_BOOLEAN_INDEX_SCALE"), (9, u "LOG2_ARRAY_BYTE_INDEX_SCALE"), (5, u "LOG2_ARRAY_CHAR_INDEX_SCALE"), (5, u "LOG2_ARRAY_SHORT_INDEX_SCALE"), (18, u "LOG2_ARRAY_FLOAT_INDEX_SCALE"), (24, u "LOG2_ARRAY_DOUBLE_INDEX_SCALE"), (89, u "T_BOOLEAN"), (2, u "T_CHAR"), (1, u "T_FLOAT"), (1, u "T_DOUBLE"), (1, u "T_BYTE"), (1, u "T_SHORT"), (1, u "T_INT"), (1, u "T_LONG"), (1, u "SOFT_MAX_ARRAY_LENGTH")] 83

def k16m0 : Method := { name := "<init>", desc := "()V", sig := { parameters := [], returnType := none }, accessFlags := 2, code := none }
/-- jdk/internal/util/ArraysSupport -/
def k16 : Class := { plain "jdk/internal/util/ArraysSupport" (some 0) with
  accessFlags := 33
  interfaces := #[]
  cf := some (fileOf pool16 21 #[] #[{ accessFlags := 2, nameIndex := 9, descriptorIndex := 19, attributes := #[] }] 33 16 #[] #[{ accessFlags := 24, nameIndex := 28, descriptorIndex := 29, attributes := #[] }, { accessFlags := 26, nameIndex := 38, descriptorIndex := 39, attributes := #[] }, { accessFlags := 25, nameIndex := 121, descriptorIndex := 25, attributes := #[] }, { accessFlags := 25, nameIndex := 131, descriptorIndex := 25, attributes := #[] }, { accessFlags := 25, nameIndex := 137, descriptorIndex := 25, attributes := #[] }, { accessFlags := 25, nameIndex := 143, descriptorIndex := 25, attributes := #[] }, { accessFlags := 25, nameIndex := 53, descriptorIndex := 25, attributes := #[] }, { accessFlags := 25, nameIndex := 24, descriptorIndex := 25, attributes := #[] }, { accessFlags := 25, nameIndex := 162, descriptorIndex := 25, attributes := #[] }, { accessFlags := 25, nameIndex := 187, descriptorIndex := 25, attributes := #[] }, { accessFlags := 26, nameIndex := 48, descriptorIndex := 25, attributes := #[] }, { accessFlags := 25, nameIndex := 277, descriptorIndex := 25, attributes := #[] }, { accessFlags := 25, nameIndex := 280, descriptorIndex := 25, attributes := #[] }, { accessFlags := 25, nameIndex := 282, descriptorIndex := 25, attributes := #[] }, { accessFlags := 25, nameIndex := 284, descriptorIndex := 25, attributes := #[] }, { accessFlags := 25, nameIndex := 286, descriptorIndex := 25, attributes := #[] }, { accessFlags := 25, nameIndex := 288, descriptorIndex := 25, attributes := #[] }, { accessFlags := 25, nameIndex := 290, descriptorIndex := 25, attributes := #[] }, { accessFlags := 25, nameIndex := 292, descriptorIndex := 25, attributes := #[] }, { accessFlags := 26, nameIndex := 108, descriptorIndex := 109, attributes := #[] }, { accessFlags := 25, nameIndex := 294, descriptorIndex := 25, attributes := #[] }])
  fields := #[{ name := "U", type := (.object "jdk/internal/misc/Unsafe"), accessFlags := 24, slot := 0, constantValue := 0 }, { name := "BIG_ENDIAN", type := .boolean, accessFlags := 26, slot := 1, constantValue := 0 }, { name := "LOG2_ARRAY_BOOLEAN_INDEX_SCALE", type := .int, accessFlags := 25, slot := 2, constantValue := 0 }, { name := "LOG2_ARRAY_BYTE_INDEX_SCALE", type := .int, accessFlags := 25, slot := 3, constantValue := 0 }, { name := "LOG2_ARRAY_CHAR_INDEX_SCALE", type := .int, accessFlags := 25, slot := 4, constantValue := 0 }, { name := "LOG2_ARRAY_SHORT_INDEX_SCALE", type := .int, accessFlags := 25, slot := 5, constantValue := 0 }, { name := "LOG2_ARRAY_INT_INDEX_SCALE", type := .int, accessFlags := 25, slot := 6, constantValue := 0 }, { name := "LOG2_ARRAY_LONG_INDEX_SCALE", type := .int, accessFlags := 25, slot := 7, constantValue := 0 }, { name := "LOG2_ARRAY_FLOAT_INDEX_SCALE", type := .int, accessFlags := 25, slot := 8, constantValue := 0 }, { name := "LOG2_ARRAY_DOUBLE_INDEX_SCALE", type := .int, accessFlags := 25, slot := 9, constantValue := 0 }, { name := "LOG2_BYTE_BIT_SIZE", type := .int, accessFlags := 26, slot := 10, constantValue := 0 }, { name := "T_BOOLEAN", type := .int, accessFlags := 25, slot := 11, constantValue := 0 }, { name := "T_CHAR", type := .int, accessFlags := 25, slot := 12, constantValue := 0 }, { name := "T_FLOAT", type := .int, accessFlags := 25, slot := 13, constantValue := 0 }, { name := "T_DOUBLE", type := .int, accessFlags := 25, slot := 14, constantValue := 0 }, { name := "T_BYTE", type := .int, accessFlags := 25, slot := 15, constantValue := 0 }, { name := "T_SHORT", type := .int, accessFlags := 25, slot := 16, constantValue := 0 }, { name := "T_INT", type := .int, accessFlags := 25, slot := 17, constantValue := 0 }, { name := "T_LONG", type := .int, accessFlags := 25, slot := 18, constantValue := 0 }, { name := "JLA", type := (.object "jdk/internal/access/JavaLangAccess"), accessFlags := 26, slot := 19, constantValue := 0 }, { name := "SOFT_MAX_ARRAY_LENGTH", type := .int, accessFlags := 25, slot := 20, constantValue := 0 }]
  methods := #[k16m0]
  instanceTypes := #[]
  staticTypes := #[(.object "jdk/internal/misc/Unsafe"), .boolean, .int, .int, .int, .int, .int, .int, .int, .int, .int, .int, .int, .int, .int, .int, .int, .int, .int, (.object "jdk/internal/access/JavaLangAccess"), .int]
  resolved := Array.replicate 378 none
  statics := none }

/-- the primitive byte -/
def k17 : Class := { plain "byte" none with kind := .primitive 'B', accessFlags := 0x411 }
/-- [B -/
def k18 : Class := { plain "[B" (some 0) with kind := .array 17 .byte, interfaces := #[11, 2], accessFlags := 1041 }

/-- the primitive char -/
def k19 : Class := { plain "char" none with kind := .primitive 'C', accessFlags := 0x411 }
/-- [C -/
def k20 : Class := { plain "[C" (some 0) with kind := .array 19 .char, interfaces := #[11, 2], accessFlags := 1041 }

/-- the primitive int -/
def k21 : Class := { plain "int" none with kind := .primitive 'I', accessFlags := 0x411 }
/-- [I -/
def k22 : Class := { plain "[I" (some 0) with kind := .array 21 .int, interfaces := #[11, 2], accessFlags := 1041 }

/-- [Lcom/example/castellan/castellan/config/AssuranceLevel; -/
def k23 : Class := { plain "[Lcom/example/castellan/castellan/config/AssuranceLevel;" (some 0) with kind := .array 10 (.object "com/example/castellan/castellan/config/AssuranceLevel"), interfaces := #[11, 2], accessFlags := 1041 }

def heap : Heap := #[{ cls := 7, slots := #[.long 0, .int 1, .null, .int 0, .null, .int 0, .int 0], vm := .statics 7 },
  { cls := 10, slots := #[.ref 5, .ref 6, .ref 7, .ref 4], vm := .statics 10 },
  { cls := 13, slots := #[.ref 14], vm := .statics 13 },
  { cls := 15, slots := #[.null, .null, .null], vm := .statics 15 },
  { cls := 23, slots := #[.ref 5, .ref 6, .ref 7], vm := .none },
  { cls := 10, slots := #[.null, .int 0, .int 0, .ref 8], vm := .none },
  { cls := 10, slots := #[.null, .int 1, .int 0, .ref 9], vm := .none },
  { cls := 10, slots := #[.null, .int 2, .int 0, .ref 10], vm := .none },
  { cls := 7, slots := #[.ref 11, .int 0, .int 0, .int 0], vm := .none },
  { cls := 7, slots := #[.ref 12, .int 0, .int 0, .int 0], vm := .none },
  { cls := 7, slots := #[.ref 13, .int 0, .int 0, .int 0], vm := .none },
  { cls := 18, slots := #[.int 108, .int 111, .int 119], vm := .none },
  { cls := 18, slots := #[.int 115, .int 117, .int 98, .int 115, .int 116, .int 97, .int 110, .int 116, .int 105, .int 97, .int 108], vm := .none },
  { cls := 18, slots := #[.int 104, .int 105, .int 103, .int 104], vm := .none },
  { cls := 13, slots := #[.null], vm := .none }]
def classes : Array Class := #[k0, k1, k2, k3, k4, k5, k6, k7, k8, k9, k10, k11, k12, k13, k14, k15, k16, k17, k18, k19, k20, k21, k22, k23]
def interned : List (Array UInt16 × Addr) := []
def slotsUsed : Nat := 61
def theMethod : MethodId := ⟨1, 1⟩
def args0 : Array Value := #[.int 5, .int 7, .int 9, .long 11]
def aboutOver (below : List Frame) : State where
  vm := { classes := classes, interned := interned.toArray }
  heap := heap
  slotsUsed := slotsUsed
  threads := #[{ frames := .invoking theMethod args0 :: below }]
def below0 : List Frame := [.native { method := ⟨0, 0⟩, args := #[] }]
def about1 : State := aboutOver below0
def p0 : Program := .bare "" "" ""
def e0 : Env := launch0.env 0 0 0
theorem w_frames : about1.frames = Frame.invoking theMethod args0 :: below0 := rfl
set_option maxRecDepth 65536 in
theorem w_args : argsFit about1.vm theMethod args0 = true := by decide +kernel
set_option maxRecDepth 65536 in
theorem w_heap : heapFits about1 = true := by decide +kernel
set_option maxRecDepth 65536 in
theorem w_runnable : about1.curStatus? = some .runnable := by decide +kernel
set_option maxRecDepth 65536 in
theorem w_alone : about1.alone = true := by decide +kernel
set_option maxRecDepth 65536 in
theorem w_named : about1.methodNamed? x = some theMethod := by decide +kernel
set_option maxRecDepth 65536 in
theorem w_hears : about1.hears theMethod below0 = true := by decide +kernel
set_option maxRecDepth 65536 in
theorem w_ripe : about1.ripe theMethod args0 below0 = true := by decide +kernel
theorem w_running : about1.status = .running := rfl
set_option maxRecDepth 65536 in
theorem w_room : about1.hasRoom e0.platform room_1 = true :=
  launch0.hasRoom_least _ room_1 (by decide +kernel) (by decide +kernel) (by decide +kernel) (by decide +kernel) (by decide +kernel) (by decide +kernel)
theorem allAtoms_all (ts : List Jvm.Cond) (a : Array Jvm.Value) (st : Jvm.State) : (allAtoms ts).before a st = ts.all (fun c => c.before a st) := by
  induction ts with
  | nil => rfl
  | cons c t ih =>
    show (Jvm.Cond.and c (allAtoms t)).before a st = _
    rw [Jvm.Cond.before_and, ih, List.all_cons]
def words1 : List Jvm.Cond := Jvm.Cond.code x code maxLocals ret :: tables_1
/-- a 'code' word, met by the world's own term for the bytes: nothing is compared byte by byte -/
theorem code_word {y : MethodName} {bytes : ByteArray} {mx : Nat} {rt : Option FieldType} {a : Array Value} {s : State} {m : MethodId} {meth : Method} {c : Code} (h1 : s.methodNamed? y = some m) (h2 : s.vm.method? m = some meth) (h3 : meth.code = some c) (h4 : c.code = bytes)
    (h5 : (c.maxLocals == mx && c.exceptionTable.isEmpty && decide (c.maxStack ≤ mostOperands) && decide (meth.sig.returnType = rt) && !meth.locks && decide (parseMethodDescriptor y.desc = some meth.sig)) = true) : (Jvm.Cond.code y bytes mx rt).before a s = true := by
  simp only [Bool.and_eq_true, beq_iff_eq, Bool.not_eq_true', decide_eq_true_eq] at h5
  obtain ⟨⟨⟨⟨⟨g1, g2⟩, g3⟩, g4⟩, g5⟩, g6⟩ := h5
  simp [Cond.before, Cond.holds, Cond.value, h1, h2, h3, h4, g1, g2, g3, g4, g5, g6]
def isCode : Jvm.Cond → Bool
  | .code _ _ _ _ => true
  | _ => false
theorem all_split {L : List Jvm.Cond} {P : Jvm.Cond → Bool} (h1 : L.all (fun c => isCode c || P c) = true) (h2 : ∀ c ∈ L.filter isCode, P c = true) : L.all P = true := by
  refine List.all_eq_true.mpr fun c hc => ?_
  have h := List.all_eq_true.mp h1 c hc
  rcases Bool.eq_false_or_eq_true (isCode c) with hi | hi
  · exact h2 c (List.mem_filter.mpr ⟨hc, hi⟩)
  · simpa [hi] using h
set_option maxRecDepth 65536 in
theorem w_c0 : (Jvm.Cond.code x code maxLocals ret).before args0 about1 = true := code_word (m := ⟨1, 1⟩) (meth := k1m1) (c := k1c1) (by decide +kernel) rfl rfl rfl (by decide +kernel)
set_option maxRecDepth 65536 in
theorem w_c1 : (Jvm.Cond.code ({ cls := "com/example/castellan/castellan/config/AssuranceLevelNamedPinLaw", name := "name", desc := "(IIC)[C" } : Jvm.MethodName) method_3_code (3 : Nat) (Option.some (Jvm.ClassFile.FieldType.array Jvm.ClassFile.FieldType.char))).before args0 about1 = true := code_word (m := ⟨1, 2⟩) (meth := k1m2) (c := k1c2) (by decide +kernel) rfl rfl rfl (by decide +kernel)
set_option maxRecDepth 65536 in
theorem w_c2 : (Jvm.Cond.code ({ cls := "java/lang/String", name := "<init>", desc := "([C)V" } : Jvm.MethodName) jdk_42_method_3_code (2 : Nat) (Option.none : Option Jvm.ClassFile.FieldType)).before args0 about1 = true := code_word (m := ⟨7, 1⟩) (meth := k7m1) (c := k7c1) (by decide +kernel) rfl rfl rfl (by decide +kernel)
set_option maxRecDepth 65536 in
theorem w_c3 : (Jvm.Cond.code ({ cls := "java/lang/String", name := "<init>", desc := "([CIILjava/lang/Void;)V" } : Jvm.MethodName) jdk_42_method_149_code (6 : Nat) (Option.none : Option Jvm.ClassFile.FieldType)).before args0 about1 = true := code_word (m := ⟨7, 3⟩) (meth := k7m3) (c := k7c3) (by decide +kernel) rfl rfl rfl (by decide +kernel)
set_option maxRecDepth 65536 in
theorem w_c4 : (Jvm.Cond.code ({ cls := "java/lang/Object", name := "<init>", desc := "()V" } : Jvm.MethodName) object_method_1_code (1 : Nat) (Option.none : Option Jvm.ClassFile.FieldType)).before args0 about1 = true := code_word (m := ⟨0, 0⟩) (meth := k0m0) (c := k0c0) (by decide +kernel) rfl rfl rfl (by decide +kernel)
set_option maxRecDepth 65536 in
theorem w_c5 : (Jvm.Cond.code ({ cls := "java/lang/StringUTF16", name := "compress", desc := "([CII)[B" } : Jvm.MethodName) jdk_52_method_16_code (6 : Nat) (Option.some (Jvm.ClassFile.FieldType.array Jvm.ClassFile.FieldType.byte))).before args0 about1 = true := code_word (m := ⟨8, 2⟩) (meth := k8m2) (c := k8c2) (by decide +kernel) rfl rfl rfl (by decide +kernel)
set_option maxRecDepth 65536 in
theorem w_c6 : (Jvm.Cond.code ({ cls := "java/lang/StringUTF16", name := "compress", desc := "([CI[BII)I" } : Jvm.MethodName) jdk_52_method_21_code (7 : Nat) (Option.some Jvm.ClassFile.FieldType.int)).before args0 about1 = true := code_word (m := ⟨8, 3⟩) (meth := k8m3) (c := k8c3) (by decide +kernel) rfl rfl rfl (by decide +kernel)
set_option maxRecDepth 65536 in
theorem w_c7 : (Jvm.Cond.code ({ cls := "java/lang/StringUTF16", name := "coderFromArrayLen", desc := "([BI)B" } : Jvm.MethodName) jdk_52_method_15_code (2 : Nat) (Option.some Jvm.ClassFile.FieldType.byte)).before args0 about1 = true := code_word (m := ⟨8, 1⟩) (meth := k8m1) (c := k8c1) (by decide +kernel) rfl rfl rfl (by decide +kernel)
set_option maxRecDepth 65536 in
theorem w_c8 : (Jvm.Cond.code ({ cls := "com/example/castellan/castellan/config/AssuranceLevel", name := "named", desc := "(Ljava/lang/String;)Ljava/util/Optional;" } : Jvm.MethodName) prog_1_method_4_code (5 : Nat) (Option.some (Jvm.ClassFile.FieldType.object "java/util/Optional"))).before args0 about1 = true := code_word (m := ⟨10, 1⟩) (meth := k10m1) (c := k10c1) (by decide +kernel) rfl rfl rfl (by decide +kernel)
set_option maxRecDepth 65536 in
theorem w_c9 : (Jvm.Cond.code ({ cls := "com/example/castellan/castellan/config/AssuranceLevel", name := "values", desc := "()[Lcom/example/castellan/castellan/config/AssuranceLevel;" } : Jvm.MethodName) prog_1_method_1_code (0 : Nat) (Option.some (Jvm.ClassFile.FieldType.array (Jvm.ClassFile.FieldType.object "com/example/castellan/castellan/config/AssuranceLevel")))).before args0 about1 = true := code_word (m := ⟨10, 0⟩) (meth := k10m0) (c := k10c0) (by decide +kernel) rfl rfl rfl (by decide +kernel)
set_option maxRecDepth 65536 in
theorem w_c10 : (Jvm.Cond.code ({ cls := "java/lang/String", name := "equals", desc := "(Ljava/lang/Object;)Z" } : Jvm.MethodName) jdk_42_method_66_code (3 : Nat) (Option.some Jvm.ClassFile.FieldType.boolean)).before args0 about1 = true := code_word (m := ⟨7, 2⟩) (meth := k7m2) (c := k7c2) (by decide +kernel) rfl rfl rfl (by decide +kernel)
set_option maxRecDepth 65536 in
theorem w_c11 : (Jvm.Cond.code ({ cls := "java/lang/StringLatin1", name := "equals", desc := "([B[B)Z" } : Jvm.MethodName) jdk_43_method_13_code (3 : Nat) (Option.some Jvm.ClassFile.FieldType.boolean)).before args0 about1 = true := code_word (m := ⟨12, 1⟩) (meth := k12m1) (c := k12c1) (by decide +kernel) rfl rfl rfl (by decide +kernel)
set_option maxRecDepth 65536 in
theorem w_c12 : (Jvm.Cond.code ({ cls := "java/util/Optional", name := "of", desc := "(Ljava/lang/Object;)Ljava/util/Optional;" } : Jvm.MethodName) jdk_32_method_3_code (1 : Nat) (Option.some (Jvm.ClassFile.FieldType.object "java/util/Optional"))).before args0 about1 = true := code_word (m := ⟨13, 2⟩) (meth := k13m2) (c := k13c2) (by decide +kernel) rfl rfl rfl (by decide +kernel)
set_option maxRecDepth 65536 in
theorem w_c13 : (Jvm.Cond.code ({ cls := "java/util/Objects", name := "requireNonNull", desc := "(Ljava/lang/Object;)Ljava/lang/Object;" } : Jvm.MethodName) jdk_31_method_10_code (1 : Nat) (Option.some (Jvm.ClassFile.FieldType.object "java/lang/Object"))).before args0 about1 = true := code_word (m := ⟨14, 1⟩) (meth := k14m1) (c := k14c1) (by decide +kernel) rfl rfl rfl (by decide +kernel)
set_option maxRecDepth 65536 in
theorem w_c14 : (Jvm.Cond.code ({ cls := "java/util/Optional", name := "<init>", desc := "(Ljava/lang/Object;)V" } : Jvm.MethodName) jdk_32_method_2_code (2 : Nat) (Option.none : Option Jvm.ClassFile.FieldType)).before args0 about1 = true := code_word (m := ⟨13, 1⟩) (meth := k13m1) (c := k13c1) (by decide +kernel) rfl rfl rfl (by decide +kernel)
set_option maxRecDepth 65536 in
theorem w_c15 : (Jvm.Cond.code ({ cls := "java/util/Optional", name := "isPresent", desc := "()Z" } : Jvm.MethodName) jdk_32_method_6_code (1 : Nat) (Option.some Jvm.ClassFile.FieldType.boolean)).before args0 about1 = true := code_word (m := ⟨13, 4⟩) (meth := k13m4) (c := k13c4) (by decide +kernel) rfl rfl rfl (by decide +kernel)
set_option maxRecDepth 65536 in
theorem w_c16 : (Jvm.Cond.code ({ cls := "java/util/Optional", name := "get", desc := "()Ljava/lang/Object;" } : Jvm.MethodName) jdk_32_method_5_code (1 : Nat) (Option.some (Jvm.ClassFile.FieldType.object "java/lang/Object"))).before args0 about1 = true := code_word (m := ⟨13, 3⟩) (meth := k13m3) (c := k13c3) (by decide +kernel) rfl rfl rfl (by decide +kernel)
set_option maxRecDepth 65536 in
theorem w_c17 : (Jvm.Cond.code ({ cls := "java/util/Optional", name := "empty", desc := "()Ljava/util/Optional;" } : Jvm.MethodName) jdk_32_method_1_code (1 : Nat) (Option.some (Jvm.ClassFile.FieldType.object "java/util/Optional"))).before args0 about1 = true := code_word (m := ⟨13, 0⟩) (meth := k13m0) (c := k13c0) (by decide +kernel) rfl rfl rfl (by decide +kernel)
set_option maxRecDepth 65536 in
theorem w_c18 : (Jvm.Cond.code ({ cls := "com/example/castellan/castellan/config/AssuranceLevelNamedPinLaw", name := "free", desc := "(ICCCC)[C" } : Jvm.MethodName) method_4_code (5 : Nat) (Option.some (Jvm.ClassFile.FieldType.array Jvm.ClassFile.FieldType.char))).before args0 about1 = true := code_word (m := ⟨1, 3⟩) (meth := k1m3) (c := k1c3) (by decide +kernel) rfl rfl rfl (by decide +kernel)
def codes1 : List Jvm.Cond := [Jvm.Cond.code x code maxLocals ret, Jvm.Cond.code ({ cls := "com/example/castellan/castellan/config/AssuranceLevelNamedPinLaw", name := "name", desc := "(IIC)[C" } : Jvm.MethodName) method_3_code (3 : Nat) (Option.some (Jvm.ClassFile.FieldType.array Jvm.ClassFile.FieldType.char)), Jvm.Cond.code ({ cls := "java/lang/String", name := "<init>", desc := "([C)V" } : Jvm.MethodName) jdk_42_method_3_code (2 : Nat) (Option.none : Option Jvm.ClassFile.FieldType), Jvm.Cond.code ({ cls := "java/lang/String", name := "<init>", desc := "([CIILjava/lang/Void;)V" } : Jvm.MethodName) jdk_42_method_149_code (6 : Nat) (Option.none : Option Jvm.ClassFile.FieldType), Jvm.Cond.code ({ cls := "java/lang/Object", name := "<init>", desc := "()V" } : Jvm.MethodName) object_method_1_code (1 : Nat) (Option.none : Option Jvm.ClassFile.FieldType), Jvm.Cond.code ({ cls := "java/lang/StringUTF16", name := "compress", desc := "([CII)[B" } : Jvm.MethodName) jdk_52_method_16_code (6 : Nat) (Option.some (Jvm.ClassFile.FieldType.array Jvm.ClassFile.FieldType.byte)), Jvm.Cond.code ({ cls := "java/lang/StringUTF16", name := "compress", desc := "([CI[BII)I" } : Jvm.MethodName) jdk_52_method_21_code (7 : Nat) (Option.some Jvm.ClassFile.FieldType.int), Jvm.Cond.code ({ cls := "java/lang/StringUTF16", name := "coderFromArrayLen", desc := "([BI)B" } : Jvm.MethodName) jdk_52_method_15_code (2 : Nat) (Option.some Jvm.ClassFile.FieldType.byte), Jvm.Cond.code ({ cls := "com/example/castellan/castellan/config/AssuranceLevel", name := "named", desc := "(Ljava/lang/String;)Ljava/util/Optional;" } : Jvm.MethodName) prog_1_method_4_code (5 : Nat) (Option.some (Jvm.ClassFile.FieldType.object "java/util/Optional")), Jvm.Cond.code ({ cls := "com/example/castellan/castellan/config/AssuranceLevel", name := "values", desc := "()[Lcom/example/castellan/castellan/config/AssuranceLevel;" } : Jvm.MethodName) prog_1_method_1_code (0 : Nat) (Option.some (Jvm.ClassFile.FieldType.array (Jvm.ClassFile.FieldType.object "com/example/castellan/castellan/config/AssuranceLevel"))), Jvm.Cond.code ({ cls := "java/lang/String", name := "equals", desc := "(Ljava/lang/Object;)Z" } : Jvm.MethodName) jdk_42_method_66_code (3 : Nat) (Option.some Jvm.ClassFile.FieldType.boolean), Jvm.Cond.code ({ cls := "java/lang/StringLatin1", name := "equals", desc := "([B[B)Z" } : Jvm.MethodName) jdk_43_method_13_code (3 : Nat) (Option.some Jvm.ClassFile.FieldType.boolean), Jvm.Cond.code ({ cls := "java/util/Optional", name := "of", desc := "(Ljava/lang/Object;)Ljava/util/Optional;" } : Jvm.MethodName) jdk_32_method_3_code (1 : Nat) (Option.some (Jvm.ClassFile.FieldType.object "java/util/Optional")), Jvm.Cond.code ({ cls := "java/util/Objects", name := "requireNonNull", desc := "(Ljava/lang/Object;)Ljava/lang/Object;" } : Jvm.MethodName) jdk_31_method_10_code (1 : Nat) (Option.some (Jvm.ClassFile.FieldType.object "java/lang/Object")), Jvm.Cond.code ({ cls := "java/util/Optional", name := "<init>", desc := "(Ljava/lang/Object;)V" } : Jvm.MethodName) jdk_32_method_2_code (2 : Nat) (Option.none : Option Jvm.ClassFile.FieldType), Jvm.Cond.code ({ cls := "java/util/Optional", name := "isPresent", desc := "()Z" } : Jvm.MethodName) jdk_32_method_6_code (1 : Nat) (Option.some Jvm.ClassFile.FieldType.boolean), Jvm.Cond.code ({ cls := "java/util/Optional", name := "get", desc := "()Ljava/lang/Object;" } : Jvm.MethodName) jdk_32_method_5_code (1 : Nat) (Option.some (Jvm.ClassFile.FieldType.object "java/lang/Object")), Jvm.Cond.code ({ cls := "java/util/Optional", name := "empty", desc := "()Ljava/util/Optional;" } : Jvm.MethodName) jdk_32_method_1_code (1 : Nat) (Option.some (Jvm.ClassFile.FieldType.object "java/util/Optional")), Jvm.Cond.code ({ cls := "com/example/castellan/castellan/config/AssuranceLevelNamedPinLaw", name := "free", desc := "(ICCCC)[C" } : Jvm.MethodName) method_4_code (5 : Nat) (Option.some (Jvm.ClassFile.FieldType.array Jvm.ClassFile.FieldType.char))]
set_option maxRecDepth 65536 in
theorem codes_eq : words1.filter isCode = codes1 := rfl
theorem w_codes : ∀ c ∈ words1.filter isCode, c.before args0 about1 = true := by
  rw [codes_eq]
  intro c hc
  simp only [codes1, List.mem_cons, List.not_mem_nil, or_false] at hc
  rcases hc with rfl | rfl | rfl | rfl | rfl | rfl | rfl | rfl | rfl | rfl | rfl | rfl | rfl | rfl | rfl | rfl | rfl | rfl | rfl
  · exact w_c0
  · exact w_c1
  · exact w_c2
  · exact w_c3
  · exact w_c4
  · exact w_c5
  · exact w_c6
  · exact w_c7
  · exact w_c8
  · exact w_c9
  · exact w_c10
  · exact w_c11
  · exact w_c12
  · exact w_c13
  · exact w_c14
  · exact w_c15
  · exact w_c16
  · exact w_c17
  · exact w_c18
set_option maxRecDepth 65536 in
theorem w_t1 : (words1.take 24).all (fun c => isCode c || c.before args0 about1) = true := by decide +kernel
set_option maxRecDepth 65536 in
theorem w_t2 : ((words1.drop 24).take 24).all (fun c => isCode c || c.before args0 about1) = true := by decide +kernel
set_option maxRecDepth 65536 in
theorem w_t3 : (((words1.drop 24).drop 24).take 24).all (fun c => isCode c || c.before args0 about1) = true := by decide +kernel
set_option maxRecDepth 65536 in
theorem w_t4 : ((((words1.drop 24).drop 24).drop 24).take 24).all (fun c => isCode c || c.before args0 about1) = true := by decide +kernel
set_option maxRecDepth 65536 in
theorem w_t5 : ((((words1.drop 24).drop 24).drop 24).drop 24).all (fun c => isCode c || c.before args0 about1) = true := by decide +kernel
theorem w_tables : (allAtoms (Jvm.Cond.code x code maxLocals ret :: tables_1)).before args0 about1 = true := by
  rw [allAtoms_all]
  show words1.all (fun c => c.before args0 about1) = true
  refine all_split ?_ w_codes
  rw [← List.take_append_drop 24 words1, List.all_append, w_t1, ← List.take_append_drop 24 (words1.drop 24), List.all_append, w_t2, ← List.take_append_drop 24 ((words1.drop 24).drop 24), List.all_append, w_t3, ← List.take_append_drop 24 (((words1.drop 24).drop 24).drop 24), List.all_append, w_t4, w_t5]
  rfl
set_option maxRecDepth 65536 in
theorem w_rest : rest_1_c.before args0 about1 = true := by decide +kernel
set_option maxRecDepth 65536 in
theorem w_case : (Jvm.Cond.and given_1 narrow_1).before args0 about1 = true := by decide +kernel
set_option maxRecDepth 65536 in
theorem w_consts : constsHeld consts_1 about1 := Jvm.Lit.constsHeldB_iff.mp (by decide +kernel)
theorem w_applies : (headSpec (Jvm.Cond.code x code maxLocals ret :: tables_1) room_1).applies x e0.platform about1 = true :=
  (Spec.applies_iff w_frames).mpr ⟨w_running, w_runnable, w_alone, w_named, w_hears, w_ripe, w_room, w_tables⟩
theorem atStart : AtStart classFile x code maxLocals ret World_1 tables_1 room_1 Calls_1 rest_1 Pre_1 launch0 p0 e0 about1 theMethod args0 below0 :=
  ⟨lists_1, trivial, launch0.admits_env _ _ _, launch0.least_env, fairChoices_fair.cas, fairChoices_fair.clock, w_frames, w_args, w_heap, w_applies, ⟨w_consts, trivial⟩, w_rest, w_case⟩
end start1
theorem witness_1 : WitnessClaimed_1 := ⟨start1.p0, start1.e0, start1.about1, start1.theMethod, start1.args0, start1.below0, start1.atStart⟩
end Jvm.Pilot.@@N@@
