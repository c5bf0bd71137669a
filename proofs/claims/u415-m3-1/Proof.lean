import JvmDerived
import JvmDerived.Pilot.@@N@@Statement
import JvmDerived.Pilot.@@N@@Code
set_option linter.unusedVariables false
set_option linter.unusedSimpArgs false
/- laws to paste: Road.backV (cut by pick.py; bodies as the Statement names them) -/
namespace Jvm.Pilot.@@N@@
namespace StrChars
open Jvm Sem ClassFile Op Lib Jvm.Stand Jvm.Free.XT Jvm.Free.ALB Jvm.Free.JM Jvm.Free
open Jvm.Lib.Cold (StaticIs)
/-- a char array whose places are chars -/
def Ch (a : Addr) (A : Cell) (U : State) : Prop := Arr .char a A U ∧ Typed .char A
theorem Ch.mv {a : Addr} {A : Cell} {U U' : State} (h : Ch a A U) (hal : U.vm.Alike U'.vm) (hh : U'.heap = U.heap) : Ch a A U' := ⟨h.1.mv hal hh, h.2⟩
theorem Ch.keep {a : Addr} {A : Cell} {U U' : State} (h : Ch a A U) (hal : U.vm.Alike U'.vm) (hk : U'.heap[a]? = some A) : Ch a A U' := ⟨h.1.keep hal hk, h.2⟩
/-- what place i of a char[]'s cell holds -/
def cv (A : Cell) (i : Nat) : Int32 := match A.slots[i]? with | some (.int x) => x | _ => 0
theorem Ch.get {a : Addr} {A : Cell} {U : State} (h : Ch a A U) {i : Nat} (hi : i < A.slots.size) : A.slots[i]? = some (.int (cv A i)) := by
  have e := Array.getElem?_eq_getElem hi
  have f := h.2 i _ e
  unfold cv; rw [e]
  generalize A.slots[i] = v at f
  cases v <;> simp [fits] at f ⊢
/-- the byte that i2b leaves of a char -/
def lo8 (x : Int32) : Int32 := x.toInt8.toInt32
theorem fits_lo8 (y : Int32) : fits .byte (.int (lo8 y)) = true := by
  have h1 := y.toInt8.le_toInt
  have h2 := y.toInt8.toInt_lt
  simp only [lo8, fits, Bool.and_eq_true, decide_eq_true_eq, Int32.le_iff_toInt_le, Int8.toInt_toInt32, show (-128 : Int32).toInt = -128 from by decide, show (127 : Int32).toInt = 127 from by decide]
  omega
/-- A' is A but that each place j of lo .. hi - 1 holds f j -/
def Laid (A A' : Cell) (lo hi : Nat) (f : Nat → Value) : Prop := A'.cls = A.cls ∧ A'.vm = A.vm ∧ A'.slots.size = A.slots.size ∧ ∀ i, A'.slots[i]? = if lo ≤ i ∧ i < hi then some (f i) else A.slots[i]?
theorem Laid.zero (A : Cell) (lo : Nat) (f : Nat → Value) : Laid A A lo (lo + 0) f := ⟨rfl, rfl, rfl, fun i => by rw [if_neg (by omega)]⟩
theorem Laid.step {A Ak : Cell} {lo k : Nat} {f : Nat → Value} {v : Value} (h : Laid A Ak lo k f) (hlo : lo ≤ k) (hk : k < Ak.slots.size) (hv : v = f k) : Laid A (Ak.setSlot k v) lo (k + 1) f := by
  refine ⟨h.1, h.2.1, by simpa [Cell.setSlot] using h.2.2.1, fun i => ?_⟩
  by_cases e : k = i
  · subst e; rw [Cell.slots_setSlot_self v hk, if_pos (by omega), hv]
  · rw [Cell.slots_setSlot_ne v e, h.2.2.2 i]
    by_cases q : lo ≤ i ∧ i < k
    · rw [if_pos q, if_pos (by omega)]
    · rw [if_neg q, if_neg (by omega)]
def U16 : String := "java/lang/StringUTF16"
namespace Cmp5
def yN : MethodName := ⟨"java/lang/StringUTF16", "compress", "([CI[BII)I"⟩
abbrev yB : ByteArray := jdk_52_method_21_code
theorem d0 : decode yB 0 = .ok (.iconst 0, 1) := by decide +kernel
theorem d1 : decode yB 1 = .ok (.istore 5, 2) := by decide +kernel
theorem d3 : decode yB 3 = .ok (.iload 5, 2) := by decide +kernel
theorem d5 : decode yB 5 = .ok (.iload 4, 2) := by decide +kernel
theorem d7 : decode yB 7 = .ok (.if_icmp (.ge) 37, 3) := by decide +kernel
theorem d10 : decode yB 10 = .ok (.aload_n 0, 1) := by decide +kernel
theorem d11 : decode yB 11 = .ok (.iload_n 1, 1) := by decide +kernel
theorem d12 : decode yB 12 = .ok (.caload, 1) := by decide +kernel
theorem d13 : decode yB 13 = .ok (.istore 6, 2) := by decide +kernel
theorem d15 : decode yB 15 = .ok (.iload 6, 2) := by decide +kernel
theorem d17 : decode yB 17 = .ok (.sipush 255, 3) := by decide +kernel
theorem d20 : decode yB 20 = .ok (.if_icmp (.le) 6, 3) := by decide +kernel
theorem d26 : decode yB 26 = .ok (.aload_n 2, 1) := by decide +kernel
theorem d27 : decode yB 27 = .ok (.iload_n 3, 1) := by decide +kernel
theorem d28 : decode yB 28 = .ok (.iload 6, 2) := by decide +kernel
theorem d30 : decode yB 30 = .ok (.i2b, 1) := by decide +kernel
theorem d31 : decode yB 31 = .ok (.bastore, 1) := by decide +kernel
theorem d32 : decode yB 32 = .ok (.iinc 1 1, 3) := by decide +kernel
theorem d35 : decode yB 35 = .ok (.iinc 3 1, 3) := by decide +kernel
theorem d38 : decode yB 38 = .ok (.iinc 5 1, 3) := by decide +kernel
theorem d41 : decode yB 41 = .ok (.goto (-38), 3) := by decide +kernel
theorem d44 : decode yB 44 = .ok (.iload 4, 2) := by decide +kernel
theorem d46 : decode yB 46 = .ok (.ireturn, 1) := by decide +kernel
def site : List Cond := []
def tab : Cond := tabOf yN yB 7 (some .int) site
def P (b : Addr) (A : Cell) (d : Addr) (B : Cell) (o q len : Nat) (args : Array Value) (s : State) : Prop := args = #[.ref b, .int (Int32.ofNat o), .ref d, .int (Int32.ofNat q), .int (Int32.ofNat len)] ∧ Ch b A s ∧ Arr .byte d B s ∧ b ≠ d ∧ o + len ≤ A.slots.size ∧ q + len ≤ B.slots.size ∧ ∀ i, i < len → ¬ 255 < cv A (o + i)
def E (b : Addr) (A : Cell) (d : Addr) (B : Cell) (o q len : Nat) (r : Option Value) (s u : State) : Prop := r = some (.int (Int32.ofNat len)) ∧ ∃ B', Put d B' s u ∧ Laid B B' q (q + len) (fun j => Value.int (lo8 (cv A (o + (j - q)))))
/-- no char of the range above 255: len; the places written hold each char's low byte -/
theorem law (l : Launch) (b : Addr) (A : Cell) (d : Addr) (B : Cell) (o q len : Nat) : Law l yN 5 5 0 0 yB 7 (some .int) site (P b A d B o q len) (E b A d B o q len) (copyLocs d q len) 0 0 := by
  refine Law.of_walk (plainFor_of_name (by decide +kernel)) (by decide +kernel) (by decide +kernel) (by decide) (fun _ _ h => by rw [h.1]; rfl) (fun _ U U' hal hh h => ⟨h.1, h.2.1.mv hal hh, h.2.2.1.mv hal hh, h.2.2.2⟩) (fun r U U' V V' h1 hal h2 h => ⟨h.1, h.2.elim fun B' q => ⟨B', q.1.mv h1 h2, q.2⟩⟩) ?_
  intro p e s m args below meth c s₁ X0 hexec hbytes hml hret hlk hnm hown hh0 W hP
  obtain ⟨rfl, hA, hB, hne, l1, l2, hp⟩ := hP
  have c1 : Steps p.tables e below (s₁.setTop (entryFrame m #[.ref b, .int (Int32.ofNat o), .ref d, .int (Int32.ofNat q), .int (Int32.ofNat len)] 7)) (s₁.setTop (mkF m 0 #[.val (.ref b), .val (.int (Int32.ofNat o)), .val (.ref d), .val (.int (Int32.ofNat q)), .val (.int (Int32.ofNat len)), .unset, .unset] [])) := entry rfl
  have hA0 := hA.1.mv X0.warmed.alike hh0
  have hB0 := hB.mv X0.warmed.alike hh0
  have a31 := hA.1.2.2.2
  have c2 : Steps p.tables e below (s₁.setTop (entryFrame m #[.ref b, .int (Int32.ofNat o), .ref d, .int (Int32.ofNat q), .int (Int32.ofNat len)] 7)) (s₁.setTop (mkF m 3 #[.val (.ref b), .val (.int (Int32.ofNat o)), .val (.ref d), .val (.int (Int32.ofNat q)), .val (.int (Int32.ofNat len)), .val (.int 0), .unset] [])) := c1.trans (by
    refine iconstV X0.here hexec rfl 0 (hb hbytes d0) (by decide) ?_
    refine XS.istore X0.here hexec rfl (hb hbytes d1) rfl rfl ?_
    exact Steps.refl _)
  have loop : ∀ (r i : Nat), i + r = len → ∀ (z : Slot), (z = .unset ∨ ∃ w, z = .val w ∧ w.category = 1) → ∀ (Tl : State) (Bk : Cell), Stand p l e { frames := 0, locals := 0, cells := 0, slots := 0 } s m #[.ref b, .int (Int32.ofNat o), .ref d, .int (Int32.ofNat q), .int (Int32.ofNat len)] below meth c Tl ([] ++ copyLocs d q i) 0 0 → Put d Bk s₁ Tl → Laid B Bk q (q + i) (fun j => Value.int (lo8 (cv A (o + (j - q))))) →
      Steps p.tables e below (s₁.setTop (entryFrame m #[.ref b, .int (Int32.ofNat o), .ref d, .int (Int32.ofNat q), .int (Int32.ofNat len)] 7)) (Tl.setTop (mkF m 3 #[.val (.ref b), .val (.int (Int32.ofNat (o + i))), .val (.ref d), .val (.int (Int32.ofNat (q + i))), .val (.int (Int32.ofNat len)), .val (.int (Int32.ofNat i)), z] [])) → ∃ (T' : State) (B' : Cell) (z' : Slot), Stand p l e { frames := 0, locals := 0, cells := 0, slots := 0 } s m #[.ref b, .int (Int32.ofNat o), .ref d, .int (Int32.ofNat q), .int (Int32.ofNat len)] below meth c T' ([] ++ copyLocs d q len) 0 0 ∧ Put d B' s₁ T' ∧ Laid B B' q (q + len) (fun j => Value.int (lo8 (cv A (o + (j - q))))) ∧
      Steps p.tables e below (s₁.setTop (entryFrame m #[.ref b, .int (Int32.ofNat o), .ref d, .int (Int32.ofNat q), .int (Int32.ofNat len)] 7)) (T'.setTop (mkF m 3 #[.val (.ref b), .val (.int (Int32.ofNat (o + len))), .val (.ref d), .val (.int (Int32.ofNat (q + len))), .val (.int (Int32.ofNat len)), .val (.int (Int32.ofNat len)), z'] [])) := by
    intro r
    induction r with
    | zero =>
      intro i hi z hz Tl Bk Xl pl fl cl
      have hil : i = len := by omega
      rw [hil] at Xl fl cl
      exact ⟨Tl, Bk, z, Xl, pl, fl, cl⟩
    | succ r ih =>
      intro i hi z hz Tl Bk Xl pl fl cl
      have all := X0.warmed.alike.symm.trans Xl.warmed.alike
      have hAl := hA0.keep all (pl.other hne hA0.1)
      have hBk := hB0.like all pl.1 fl.1 fl.2.1 fl.2.2.1
      have hlt : q + i < Bk.slots.size := by rw [fl.2.2.1]; omega
      have c3 : Steps p.tables e below (s₁.setTop (entryFrame m #[.ref b, .int (Int32.ofNat o), .ref d, .int (Int32.ofNat q), .int (Int32.ofNat len)] 7)) (Tl.setTop (mkF m 12 #[.val (.ref b), .val (.int (Int32.ofNat (o + i))), .val (.ref d), .val (.int (Int32.ofNat (q + i))), .val (.int (Int32.ofNat len)), .val (.int (Int32.ofNat i)), z] [.int (Int32.ofNat (o + i)), .ref b])) := cl.trans (by
        refine XS.iload Xl.here hexec rfl (hb hbytes d3) rfl ?_
        refine XS.iload Xl.here hexec rfl (hb hbytes d5) rfl ?_
        refine XS.icmpNo Xl.here hexec rfl (hb hbytes d7) rfl (ii_ge_f (lt32 (by omega) (by omega))) ?_
        refine XS.aloadN Xl.here hexec rfl (hb hbytes d10) rfl rfl ?_
        refine XS.iloadN Xl.here hexec rfl (hb hbytes d11) rfl ?_
        exact Steps.refl _)
      have c4 : Steps p.tables e below (s₁.setTop (entryFrame m #[.ref b, .int (Int32.ofNat o), .ref d, .int (Int32.ofNat q), .int (Int32.ofNat len)] 7)) (Tl.setTop (mkF m 13 #[.val (.ref b), .val (.int (Int32.ofNat (o + i))), .val (.ref d), .val (.int (Int32.ofNat (q + i))), .val (.int (Int32.ofNat len)), .val (.int (Int32.ofNat i)), z] [.int (cv A (o + i))])) := c3.trans (by
        refine Xl.aget hexec hAl rfl (hA.get (i := o + i) (by omega)) rfl rfl (hb hbytes d12) ?_
        exact Steps.refl _)
      have c5 : Steps p.tables e below (s₁.setTop (entryFrame m #[.ref b, .int (Int32.ofNat o), .ref d, .int (Int32.ofNat q), .int (Int32.ofNat len)] 7)) (Tl.setTop (mkF m 15 #[.val (.ref b), .val (.int (Int32.ofNat (o + i))), .val (.ref d), .val (.int (Int32.ofNat (q + i))), .val (.int (Int32.ofNat len)), .val (.int (Int32.ofNat i)), .val (.int (cv A (o + i)))] [])) := c4.trans (by
        refine XS.istoreS Xl.here hexec rfl (hb hbytes d13) rfl rfl hz ?_
        exact Steps.refl _)
      have c6 : Steps p.tables e below (s₁.setTop (entryFrame m #[.ref b, .int (Int32.ofNat o), .ref d, .int (Int32.ofNat q), .int (Int32.ofNat len)] 7)) (Tl.setTop (mkF m 31 #[.val (.ref b), .val (.int (Int32.ofNat (o + i))), .val (.ref d), .val (.int (Int32.ofNat (q + i))), .val (.int (Int32.ofNat len)), .val (.int (Int32.ofNat i)), .val (.int (cv A (o + i)))] [.int (lo8 (cv A (o + i))), .int (Int32.ofNat (q + i)), .ref d])) := c5.trans (by
        refine XS.iload Xl.here hexec rfl (hb hbytes d15) rfl ?_
        refine sipushV Xl.here hexec rfl 255 (hb hbytes d17) (by decide) ?_
        refine XS.icmpYes Xl.here hexec rfl (pc0 := 20) rfl (hb hbytes d20) rfl (ii_le_t (hp i (by omega))) (by decide) rfl ?_
        refine XS.aloadN Xl.here hexec rfl (hb hbytes d26) rfl rfl ?_
        refine XS.iloadN Xl.here hexec rfl (hb hbytes d27) rfl ?_
        refine XS.iload Xl.here hexec rfl (hb hbytes d28) rfl ?_
        refine i2b Xl.here hexec rfl (hb hbytes d30) rfl ?_
        exact Steps.refl _)
      obtain ⟨T7, X7, p7, st7⟩ := Xl.aput hexec hBk rfl hlt rfl (fits_lo8 (cv A (o + i))) (g := (mkF m 31 #[.val (.ref b), .val (.int (Int32.ofNat (o + i))), .val (.ref d), .val (.int (Int32.ofNat (q + i))), .val (.int (Int32.ofNat len)), .val (.int (Int32.ofNat i)), .val (.int (cv A (o + i)))] [.int (lo8 (cv A (o + i))), .int (Int32.ofNat (q + i)), .ref d])) rfl (rest := []) rfl (hb hbytes d31)
      have c8 : Steps p.tables e below (s₁.setTop (entryFrame m #[.ref b, .int (Int32.ofNat o), .ref d, .int (Int32.ofNat q), .int (Int32.ofNat len)] 7)) (T7.setTop (mkF m 32 #[.val (.ref b), .val (.int (Int32.ofNat (o + i))), .val (.ref d), .val (.int (Int32.ofNat (q + i))), .val (.int (Int32.ofNat len)), .val (.int (Int32.ofNat i)), .val (.int (cv A (o + i)))] [])) := c6.trans (st7 _ (Steps.refl _))
      have c9 : Steps p.tables e below (s₁.setTop (entryFrame m #[.ref b, .int (Int32.ofNat o), .ref d, .int (Int32.ofNat q), .int (Int32.ofNat len)] 7)) (T7.setTop (mkF m 3 #[.val (.ref b), .val (.int (Int32.ofNat (o + i) + 1)), .val (.ref d), .val (.int (Int32.ofNat (q + i) + 1)), .val (.int (Int32.ofNat len)), .val (.int (Int32.ofNat i + 1)), .val (.int (cv A (o + i)))] [])) := c8.trans (by
        refine iincV X7.here hexec rfl 1 (hb hbytes d32) (by decide) rfl rfl ?_
        refine iincV X7.here hexec rfl 1 (hb hbytes d35) (by decide) rfl rfl ?_
        refine iincV X7.here hexec rfl 1 (hb hbytes d38) (by decide) rfl rfl ?_
        refine XS.goto X7.here hexec rfl (pc0 := 41) rfl (hb hbytes d41) (by decide) rfl ?_
        exact Steps.refl _)
      have c10 : Steps p.tables e below (s₁.setTop (entryFrame m #[.ref b, .int (Int32.ofNat o), .ref d, .int (Int32.ofNat q), .int (Int32.ofNat len)] 7)) (T7.setTop (mkF m 3 #[.val (.ref b), .val (.int (Int32.ofNat (o + (i + 1)))), .val (.ref d), .val (.int (Int32.ofNat (q + (i + 1)))), .val (.int (Int32.ofNat len)), .val (.int (Int32.ofNat (i + 1))), .val (.int (cv A (o + i)))] [])) := by
        have := c9
        rw [succ32, succ32, succ32] at this
        exact this
      exact ih (i + 1) (by omega) _ (Or.inr ⟨_, rfl, rfl⟩) T7 _ (by rw [copyLocs_step, ← List.append_assoc]; exact X7) (pl.trans p7) (fl.step (by omega) hlt (by simp)) c10
  obtain ⟨T9, B9, z9, X9, p9, f9, g9⟩ := loop len 0 (by omega) .unset (Or.inl rfl) s₁ B (by simpa [copyLocs] using X0) ⟨hB0.1, fun _ _ => rfl, rfl⟩ (Laid.zero _ _ _) c2
  have c11 : Steps p.tables e below (s₁.setTop (entryFrame m #[.ref b, .int (Int32.ofNat o), .ref d, .int (Int32.ofNat q), .int (Int32.ofNat len)] 7)) (T9.setTop (mkF m 46 #[.val (.ref b), .val (.int (Int32.ofNat (o + len))), .val (.ref d), .val (.int (Int32.ofNat (q + len))), .val (.int (Int32.ofNat len)), .val (.int (Int32.ofNat len)), z9] [.int (Int32.ofNat len)])) := g9.trans (by
    refine XS.iload X9.here hexec rfl (hb hbytes d3) rfl ?_
    refine XS.iload X9.here hexec rfl (hb hbytes d5) rfl ?_
    refine XS.icmpYes X9.here hexec rfl (pc0 := 7) rfl (hb hbytes d7) rfl (ii_ge_t (nlt32 (by omega) (Nat.le_refl _))) (by decide) rfl ?_
    refine XS.iload X9.here hexec rfl (hb hbytes d44) rfl ?_
    exact Steps.refl _)
  exact ⟨T9, some (.int (Int32.ofNat len)), _, _, _, X9, by simp, rfl, rfl, (fun h => by cases h), ⟨rfl, B9, p9.from hh0, f9⟩, fun fs hl => c11.trans (X9.ireturnOut hexec hret rfl (Or.inl rfl) (hb hbytes d46) hl)⟩
end Cmp5
namespace Cmp3
def yN : MethodName := ⟨"java/lang/StringUTF16", "compress", "([CII)[B"⟩
abbrev yB : ByteArray := jdk_52_method_16_code
theorem d0 : decode yB 0 = .ok (.iload_n 2, 1) := by decide +kernel
theorem d1 : decode yB 1 = .ok (.newarray .byte, 2) := by decide +kernel
theorem d3 : decode yB 3 = .ok (.astore_n 3, 1) := by decide +kernel
theorem d4 : decode yB 4 = .ok (.aload_n 0, 1) := by decide +kernel
theorem d5 : decode yB 5 = .ok (.iload_n 1, 1) := by decide +kernel
theorem d6 : decode yB 6 = .ok (.aload_n 3, 1) := by decide +kernel
theorem d7 : decode yB 7 = .ok (.iconst 0, 1) := by decide +kernel
theorem d8 : decode yB 8 = .ok (.iload_n 2, 1) := by decide +kernel
theorem d9 : decode yB 9 = .ok (.invokestatic 115, 3) := by decide +kernel
theorem d12 : decode yB 12 = .ok (.istore 4, 2) := by decide +kernel
theorem d14 : decode yB 14 = .ok (.iload 4, 2) := by decide +kernel
theorem d16 : decode yB 16 = .ok (.iload_n 2, 1) := by decide +kernel
theorem d17 : decode yB 17 = .ok (.if_icmp (.eq) 40, 3) := by decide +kernel
theorem d57 : decode yB 57 = .ok (.aload_n 3, 1) := by decide +kernel
theorem d58 : decode yB 58 = .ok (.areturn, 1) := by decide +kernel
def site : List Cond := [.arrayClass .byte, Cmp5.tab] ++ staticW U16 115 Cmp5.yN
def tab : Cond := tabOf yN yB 6 (some (.array .byte)) site
def P (b : Addr) (A : Cell) (o len : Nat) (args : Array Value) (s : State) : Prop := args = #[.ref b, .int (Int32.ofNat o), .int (Int32.ofNat len)] ∧ Ch b A s ∧ o + len ≤ A.slots.size ∧ len ≤ 536870912 ∧ ∀ i, i < len → ¬ 255 < cv A (o + i)
def E (b : Addr) (A : Cell) (o len : Nat) (r : Option Value) (s u : State) : Prop := NewArr .byte "[B" len (fun j => .int (lo8 (cv A (o + j)))) r s u ∧ u.heap.size = s.heap.size + 1
/-- no char of the range above 255: a new byte[] of their low bytes -/
theorem law (l : Launch) (b : Addr) (A : Cell) (o len : Nat) : Law l yN 3 3 1 18 yB 6 (some (.array .byte)) site (P b A o len) (E b A o len) [] 1 len := by
  refine Law.of_walk (plainFor_of_name (by decide +kernel)) (by decide +kernel) (by decide +kernel) (by decide) (fun _ _ h => by rw [h.1]; rfl) (fun _ U U' hal hh h => ⟨h.1, h.2.1.mv hal hh, h.2.2⟩) (fun r U U' V V' h1 hal h2 h => ⟨NewArr.mv r U U' V V' h1 hal h2 h.1, by rw [h1, h2]; exact h.2⟩) ?_
  intro p e s m args below meth c s₁ X0 hexec hbytes hml hret hlk hnm hown hh0 W hP
  obtain ⟨rfl, hA, l1, l2, hp⟩ := hP
  have a31 := hA.1.2.2.2
  have c1 : Steps p.tables e below (s₁.setTop (entryFrame m #[.ref b, .int (Int32.ofNat o), .int (Int32.ofNat len)] 6)) (s₁.setTop (mkF m 0 #[.val (.ref b), .val (.int (Int32.ofNat o)), .val (.int (Int32.ofNat len)), .unset, .unset, .unset] [])) := entry rfl
  have c2 : Steps p.tables e below (s₁.setTop (entryFrame m #[.ref b, .int (Int32.ofNat o), .int (Int32.ofNat len)] 6)) (s₁.setTop (mkF m 1 #[.val (.ref b), .val (.int (Int32.ofNat o)), .val (.int (Int32.ofNat len)), .unset, .unset, .unset] [.int (Int32.ofNat len)])) := c1.trans (by
    refine XS.iloadN X0.here hexec rfl (hb hbytes d0) rfl ?_
    exact Steps.refl _)
  obtain ⟨T3, B3, X3, ba3, bs3, bv3, bh3, bf3, st3⟩ := X0.anew hexec (atype := .byte) (wk W (.arrayClass .byte)) rfl (by show len * 1 ≤ _; omega) (by omega) (g := (mkF m 1 #[.val (.ref b), .val (.int (Int32.ofNat o)), .val (.int (Int32.ofNat len)), .unset, .unset, .unset] [.int (Int32.ofNat len)])) rfl (hb hbytes d1) (rest := []) rfl (Nat.le_refl _) (by show 0 + len ≤ len; omega)
  rw [hh0] at ba3 st3
  have kp3 : XT.Kept s T3 := (XT.Kept.of_eq hh0).push bh3
  have hA3 := hA.keep X3.warmed.alike (kp3 _ _ hA.1.1)
  have hne : b ≠ s.heap.size := hA.1.ne
  have c4 : Steps p.tables e below (s₁.setTop (entryFrame m #[.ref b, .int (Int32.ofNat o), .int (Int32.ofNat len)] 6)) (T3.setTop (mkF m 3 #[.val (.ref b), .val (.int (Int32.ofNat o)), .val (.int (Int32.ofNat len)), .unset, .unset, .unset] [.ref s.heap.size])) := c2.trans (st3 _ (Steps.refl _))
  have c5 : Steps p.tables e below (s₁.setTop (entryFrame m #[.ref b, .int (Int32.ofNat o), .int (Int32.ofNat len)] 6)) (T3.setTop (mkF m 9 #[.val (.ref b), .val (.int (Int32.ofNat o)), .val (.int (Int32.ofNat len)), .val (.ref s.heap.size), .unset, .unset] [.int (Int32.ofNat len), .int 0, .ref s.heap.size, .int (Int32.ofNat o), .ref b])) := c4.trans (by
    refine XS.astoreN X3.here hexec rfl (hb hbytes d3) rfl rfl rfl ?_
    refine XS.aloadN X3.here hexec rfl (hb hbytes d4) rfl rfl ?_
    refine XS.iloadN X3.here hexec rfl (hb hbytes d5) rfl ?_
    refine XS.aloadN X3.here hexec rfl (hb hbytes d6) rfl rfl ?_
    refine iconstV X3.here hexec rfl 0 (hb hbytes d7) (by decide) ?_
    refine XS.iloadN X3.here hexec rfl (hb hbytes d8) rfl ?_
    exact Steps.refl _)
  obtain ⟨v6, T6, X6, E6, g6⟩ := X3.callS hexec (Cmp5.law l b A s.heap.size B3 o 0 len) hown (wks W (staticW U16 115 Cmp5.yN)) (wk W Cmp5.tab) (W := 0) (Nat.le_of_ble_eq_true rfl) (Nat.le_of_ble_eq_true rfl) (Nat.le_refl _) (by show 0 + len + 0 ≤ len; omega) (g := (mkF m 9 #[.val (.ref b), .val (.int (Int32.ofNat o)), .val (.int (Int32.ofNat len)), .val (.ref s.heap.size), .unset, .unset] [.int (Int32.ofNat len), .int (Int32.ofNat 0), .ref s.heap.size, .int (Int32.ofNat o), .ref b])) rfl (by rw [hml]; rfl) c5 (argsL := [.ref b, .int (Int32.ofNat o), .ref s.heap.size, .int (Int32.ofNat 0), .int (Int32.ofNat len)]) (rest := []) rfl rfl (by show 2 * 0 + 0 ≤ _; decide) (hb hbytes d9) (⟨rfl, hA3, ba3, hne, l1, by rw [bs3]; simp, hp⟩)
  obtain ⟨rfl, B6, p6, f6⟩ := E6
  have c7 : Steps p.tables e below (s₁.setTop (entryFrame m #[.ref b, .int (Int32.ofNat o), .int (Int32.ofNat len)] 6)) (T6.setTop (mkF m 12 #[.val (.ref b), .val (.int (Int32.ofNat o)), .val (.int (Int32.ofNat len)), .val (.ref s.heap.size), .unset, .unset] [.int (Int32.ofNat len)])) := g6
  have c8 : Steps p.tables e below (s₁.setTop (entryFrame m #[.ref b, .int (Int32.ofNat o), .int (Int32.ofNat len)] 6)) (T6.setTop (mkF m 58 #[.val (.ref b), .val (.int (Int32.ofNat o)), .val (.int (Int32.ofNat len)), .val (.ref s.heap.size), .val (.int (Int32.ofNat len)), .unset] [.ref s.heap.size])) := c7.trans (by
    refine XS.istore X6.here hexec rfl (hb hbytes d12) rfl rfl ?_
    refine XS.iload X6.here hexec rfl (hb hbytes d14) rfl ?_
    refine XS.iloadN X6.here hexec rfl (hb hbytes d16) rfl ?_
    refine XS.icmpYes X6.here hexec rfl (pc0 := 17) rfl (hb hbytes d17) rfl (ii_eq_t rfl) (by decide) rfl ?_
    refine XS.aloadN X6.here hexec rfl (hb hbytes d57) rfl rfl ?_
    exact Steps.refl _)
  have X8 := X6.wide (L' := []) (cells' := 1) (slots' := len) (fun x hx hlt => by
    simp only [List.nil_append, copyLocs, List.mem_map, List.mem_range] at hx
    obtain ⟨i, -, rfl⟩ := hx
    exact absurd hlt (Nat.lt_irrefl _)) (Nat.le_refl _) (by omega)
  exact ⟨T6, some (.ref s.heap.size), _, _, _, X8, rfl, rfl, rfl, (fun h => by cases h), ⟨⟨rfl, B6, ba3.like (X3.warmed.alike.symm.trans X6.warmed.alike) p6.1 f6.1 f6.2.1 f6.2.2.1, f6.2.1.trans bv3, by rw [X6.warmed.alike.findClass, f6.1]; exact bf3, by rw [f6.2.2.1, bs3]; simp, fun j hj => by rw [f6.2.2.2 j, if_pos (by omega)]; rfl, kp3.put p6 (Nat.le_refl _)⟩, by rw [p6.2.2, bh3, hh0]; simp⟩, fun fs hl => c8.trans (X8.areturnOut hexec rfl hret rfl (hb hbytes d58) hl)⟩
end Cmp3
namespace CodL
def yN : MethodName := ⟨"java/lang/StringUTF16", "coderFromArrayLen", "([BI)B"⟩
abbrev yB : ByteArray := jdk_52_method_15_code
theorem d0 : decode yB 0 = .ok (.iload_n 1, 1) := by decide +kernel
theorem d1 : decode yB 1 = .ok (.aload_n 0, 1) := by decide +kernel
theorem d2 : decode yB 2 = .ok (.arraylength, 1) := by decide +kernel
theorem d3 : decode yB 3 = .ok (.isub, 1) := by decide +kernel
theorem d4 : decode yB 4 = .ok (.bipush 31, 2) := by decide +kernel
theorem d6 : decode yB 6 = .ok (.iushr, 1) := by decide +kernel
theorem d7 : decode yB 7 = .ok (.i2b, 1) := by decide +kernel
theorem d8 : decode yB 8 = .ok (.ireturn, 1) := by decide +kernel
def site : List Cond := []
def tab : Cond := tabOf yN yB 2 (some .byte) site
def P (d : Addr) (B : Cell) (args : Array Value) (s : State) : Prop := args = #[.ref d, .int (Int32.ofNat B.slots.size)] ∧ Arr .byte d B s
def E (r : Option Value) (s u : State) : Prop := XT.PureE (some (.int 0)) r s u
/-- an array as long as the number of chars: LATIN1 -/
theorem law (l : Launch) (d : Addr) (B : Cell) : Law l yN 2 2 0 0 yB 2 (some .byte) site (P d B) E [] 0 0 := by
  refine Law.of_walk (plainFor_of_name (by decide +kernel)) (by decide +kernel) (by decide +kernel) (by decide) (fun _ _ h => by rw [h.1]; rfl) (fun _ U U' hal hh h => ⟨h.1, h.2.mv hal hh⟩) (fun r U U' V V' h1 hal h2 h => XT.PureE.mv r U U' V V' h1 hal h2 h) ?_
  intro p e s m args below meth c s₁ X0 hexec hbytes hml hret hlk hnm hown hh0 W hP
  obtain ⟨rfl, hB⟩ := hP
  have hB0 := hB.mv X0.warmed.alike hh0
  have c1 : Steps p.tables e below (s₁.setTop (entryFrame m #[.ref d, .int (Int32.ofNat B.slots.size)] 2)) (s₁.setTop (mkF m 0 #[.val (.ref d), .val (.int (Int32.ofNat B.slots.size))] [])) := entry rfl
  have c2 : Steps p.tables e below (s₁.setTop (entryFrame m #[.ref d, .int (Int32.ofNat B.slots.size)] 2)) (s₁.setTop (mkF m 2 #[.val (.ref d), .val (.int (Int32.ofNat B.slots.size))] [.ref d, .int (Int32.ofNat B.slots.size)])) := c1.trans (by
    refine XS.iloadN X0.here hexec rfl (hb hbytes d0) rfl ?_
    refine XS.aloadN X0.here hexec rfl (hb hbytes d1) rfl rfl ?_
    exact Steps.refl _)
  have c3 : Steps p.tables e below (s₁.setTop (entryFrame m #[.ref d, .int (Int32.ofNat B.slots.size)] 2)) (s₁.setTop (mkF m 8 #[.val (.ref d), .val (.int (Int32.ofNat B.slots.size))] [.int (lo8 (ushr (Int32.ofNat B.slots.size - Int32.ofNat B.slots.size) 31))])) := c2.trans (by
    refine X0.alen hexec hB0 rfl rfl (hb hbytes d2) ?_
    refine XS.isub X0.here hexec rfl (hb hbytes d3) rfl ?_
    refine bipushV X0.here hexec rfl 31 (hb hbytes d4) (by decide) ?_
    refine iushr X0.here hexec rfl (hb hbytes d6) rfl ?_
    refine i2b X0.here hexec rfl (hb hbytes d7) rfl ?_
    exact Steps.refl _)
  have e0 : lo8 (ushr (Int32.ofNat B.slots.size - Int32.ofNat B.slots.size) 31) = 0 := by rw [Int32.sub_self]; decide
  rw [e0] at c3
  exact ⟨s₁, some (.int 0), _, _, _, X0, rfl, rfl, rfl, (fun h => by cases h), ⟨rfl, hh0⟩, fun fs hl => c3.trans (X0.ireturnOut hexec hret rfl (Or.inr (Or.inr (Or.inl rfl))) (hb hbytes d8) hl)⟩
end CodL
/-- the String at a is Latin-1 over a new byte[] (the heap's one new cell): the low bytes of the len chars of A from o on; every cell but a is kept -/
def Got (a : Addr) (D : Cell) (fV fC : Field) (A : Cell) (o len : Nat) (r : Option Value) (s u : State) : Prop := r = none ∧ ∃ D' V : Cell, Blank "java/lang/String" a D' u ∧ Same D D' [fV.slot, fC.slot] ∧ D'.slots[fV.slot]? = some (.ref s.heap.size) ∧ D'.slots[fC.slot]? = some (.int 0) ∧ Arr .byte s.heap.size V u ∧ V.vm = .none ∧ u.vm.findClass "[B" = some V.cls ∧ V.slots.size = len ∧ (∀ j, j < len → V.slots[j]? = some (.int (lo8 (cv A (o + j))))) ∧ (∀ (y : Addr) (c : Cell), y ≠ a → s.heap[y]? = some c → u.heap[y]? = some c) ∧ u.heap.size = s.heap.size + 1
theorem Got.mv {a : Addr} {D A : Cell} {fV fC : Field} {o len : Nat} : ∀ r (U U' V V' : State), U'.heap = U.heap → V.vm.Alike V'.vm → V'.heap = V.heap → Got a D fV fC A o len r U V → Got a D fV fC A o len r U' V' :=
  fun r U U' V V' h1 hal h2 ⟨e0, D', X, a1, a2, a3, a4, a5, a6, a7, a8, a9, a10, a11⟩ => ⟨e0, D', X, a1.mv hal h2, a2, by rw [h1]; exact a3, a4, by rw [h1]; exact a5.mv hal h2, a6, by rw [hal.findClass]; exact a7, a8, a9, by rw [h1, h2]; exact a10, by rw [h1, h2]; exact a11⟩
namespace New4
def yN : MethodName := ⟨"java/lang/String", "<init>", "([CIILjava/lang/Void;)V"⟩
abbrev yB : ByteArray := jdk_42_method_149_code
theorem d0 : decode yB 0 = .ok (.aload_n 0, 1) := by decide +kernel
theorem d1 : decode yB 1 = .ok (.invokespecial 1, 3) := by decide +kernel
theorem d4 : decode yB 4 = .ok (.iload_n 3, 1) := by decide +kernel
theorem d5 : decode yB 5 = .ok (.ifCond (.ne) 22, 3) := by decide +kernel
theorem d27 : decode yB 27 = .ok (.getstatic 38, 3) := by decide +kernel
theorem d30 : decode yB 30 = .ok (.ifCond (.eq) 28, 3) := by decide +kernel
theorem d33 : decode yB 33 = .ok (.aload_n 1, 1) := by decide +kernel
theorem d34 : decode yB 34 = .ok (.iload_n 2, 1) := by decide +kernel
theorem d35 : decode yB 35 = .ok (.iload_n 3, 1) := by decide +kernel
theorem d36 : decode yB 36 = .ok (.invokestatic 177, 3) := by decide +kernel
theorem d39 : decode yB 39 = .ok (.astore 5, 2) := by decide +kernel
theorem d41 : decode yB 41 = .ok (.aload_n 0, 1) := by decide +kernel
theorem d42 : decode yB 42 = .ok (.aload 5, 2) := by decide +kernel
theorem d44 : decode yB 44 = .ok (.iload_n 3, 1) := by decide +kernel
theorem d45 : decode yB 45 = .ok (.invokestatic 47, 3) := by decide +kernel
theorem d48 : decode yB 48 = .ok (.putfield 15, 3) := by decide +kernel
theorem d51 : decode yB 51 = .ok (.aload_n 0, 1) := by decide +kernel
theorem d52 : decode yB 52 = .ok (.aload 5, 2) := by decide +kernel
theorem d54 : decode yB 54 = .ok (.putfield 9, 3) := by decide +kernel
theorem d57 : decode yB 57 = .ok (.return_, 1) := by decide +kernel
def site : List Cond := [.fieldLink "java/lang/String" 38 "java/lang/String" "COMPACT_STRINGS" "Z", Cmp3.tab, CodL.tab, .laysFinal "java/lang/String" "java/lang/String" "value" "[B", .fieldLink "java/lang/String" 9 "java/lang/String" "value" "[B", .laysFinal "java/lang/String" "java/lang/String" "coder" "B", .fieldLink "java/lang/String" 15 "java/lang/String" "coder" "B"] ++ objW "java/lang/String" 1 ++ staticW "java/lang/String" 177 Cmp3.yN ++ staticW "java/lang/String" 47 CodL.yN
def tab : Cond := tabOf yN yB 6 none site
def P (a : Addr) (D : Cell) (fV fC : Field) (b : Addr) (A : Cell) (z : Int32) (o len : Nat) (args : Array Value) (s : State) : Prop := args = #[.ref a, .ref b, .int (Int32.ofNat o), .int (Int32.ofNat len), .null] ∧ Blank "java/lang/String" a D s ∧ Found "java/lang/String" "value" "[B" fV s ∧ Found "java/lang/String" "coder" "B" fC s ∧ Ch b A s ∧ StaticIs s "java/lang/String" "COMPACT_STRINGS" "Z" (.int z) ∧ ¬ z = 0 ∧ 0 < len ∧ o + len ≤ A.slots.size ∧ len ≤ 536870912 ∧ ∀ i, i < len → ¬ 255 < cv A (o + i)
def E (a : Addr) (D : Cell) (fV fC : Field) (A : Cell) (o len : Nat) (r : Option Value) (s u : State) : Prop := Got a D fV fC A o len r s u
/-- len > 0, no char of the range above 255: a Latin-1 String of their low bytes -/
theorem law (l : Launch) (a : Addr) (D : Cell) (fV fC : Field) (b : Addr) (A : Cell) (z : Int32) (o len : Nat) : Law l yN 5 4 2 35 yB 6 none site (P a D fV fC b A z o len) (E a D fV fC A o len) [⟨a, fC.slot⟩, ⟨a, fV.slot⟩] 1 len := by
  refine Law.of_walk (plainFor_of_name (by decide +kernel)) (by decide +kernel) (by decide +kernel) (by decide) (fun _ _ h => by rw [h.1]; rfl) (fun _ U U' hal hh h => ⟨h.1, h.2.1.mv hal hh, h.2.2.1.al hal, h.2.2.2.1.al hal, h.2.2.2.2.1.mv hal hh, h.2.2.2.2.2.1.there hal hh, h.2.2.2.2.2.2⟩) (fun r U U' V V' h1 hal h2 h => Got.mv r U U' V V' h1 hal h2 h) ?_
  intro p e s m args below meth c s₁ X0 hexec hbytes hml hret hlk hnm hown hh0 W hP
  obtain ⟨rfl, hB, f1, f2, hA, s1, hz, l0, l1, l2, hp⟩ := hP
  have a31 := hA.1.2.2.2
  have c1 : Steps p.tables e below (s₁.setTop (entryFrame m #[.ref a, .ref b, .int (Int32.ofNat o), .int (Int32.ofNat len), .null] 6)) (s₁.setTop (mkF m 0 #[.val (.ref a), .val (.ref b), .val (.int (Int32.ofNat o)), .val (.int (Int32.ofNat len)), .val .null, .unset] [])) := entry rfl
  have c2 : Steps p.tables e below (s₁.setTop (entryFrame m #[.ref a, .ref b, .int (Int32.ofNat o), .int (Int32.ofNat len), .null] 6)) (s₁.setTop (mkF m 1 #[.val (.ref a), .val (.ref b), .val (.int (Int32.ofNat o)), .val (.int (Int32.ofNat len)), .val .null, .unset] [.ref a])) := c1.trans (by
    refine XS.aloadN X0.here hexec rfl (hb hbytes d0) rfl rfl ?_
    exact Steps.refl _)
  obtain ⟨T3, X3, q3, st3⟩ := X0.oinit hexec hown (wks W (objW "java/lang/String" 1)) (g := (mkF m 1 #[.val (.ref a), .val (.ref b), .val (.int (Int32.ofNat o)), .val (.int (Int32.ofNat len)), .val .null, .unset] [.ref a])) rfl (by rw [hml]; rfl) (rest := []) rfl (hb hbytes d1) (W := 0) (by show 2 * 0 + 0 ≤ _; decide) (Nat.le_of_ble_eq_true rfl) (Nat.le_of_ble_eq_true rfl)
  have hh3 := q3.trans hh0
  have c4 : Steps p.tables e below (s₁.setTop (entryFrame m #[.ref a, .ref b, .int (Int32.ofNat o), .int (Int32.ofNat len), .null] 6)) (T3.setTop (mkF m 27 #[.val (.ref a), .val (.ref b), .val (.int (Int32.ofNat o)), .val (.int (Int32.ofNat len)), .val .null, .unset] [])) := (c2.trans (st3 _ (Steps.refl _))).trans (by
    refine XS.iloadN X3.here hexec rfl (hb hbytes d4) rfl ?_
    refine XS.ifYes X3.here hexec rfl (pc0 := 5) rfl (hb hbytes d5) rfl (i0_ne_t (nz32 (by omega) l0)) (by decide) rfl ?_
    exact Steps.refl _)
  obtain ⟨T5, X5, q5, st5⟩ := X3.sget hexec hown (wk W (.fieldLink "java/lang/String" 38 "java/lang/String" "COMPACT_STRINGS" "Z")) s1 (fun _ _ h => by rw [hh3]; exact h) (g := (mkF m 27 #[.val (.ref a), .val (.ref b), .val (.int (Int32.ofNat o)), .val (.int (Int32.ofNat len)), .val .null, .unset] [])) rfl (hb hbytes d27)
  have hh5 := q5.trans hh3
  have c6 : Steps p.tables e below (s₁.setTop (entryFrame m #[.ref a, .ref b, .int (Int32.ofNat o), .int (Int32.ofNat len), .null] 6)) (T5.setTop (mkF m 30 #[.val (.ref a), .val (.ref b), .val (.int (Int32.ofNat o)), .val (.int (Int32.ofNat len)), .val .null, .unset] [.int z])) := c4.trans (st5 _ (Steps.refl _))
  have c7 : Steps p.tables e below (s₁.setTop (entryFrame m #[.ref a, .ref b, .int (Int32.ofNat o), .int (Int32.ofNat len), .null] 6)) (T5.setTop (mkF m 36 #[.val (.ref a), .val (.ref b), .val (.int (Int32.ofNat o)), .val (.int (Int32.ofNat len)), .val .null, .unset] [.int (Int32.ofNat len), .int (Int32.ofNat o), .ref b])) := c6.trans (by
    refine XS.ifNo X5.here hexec rfl (hb hbytes d30) rfl (i0_eq_f hz) ?_
    refine XS.aloadN X5.here hexec rfl (hb hbytes d33) rfl rfl ?_
    refine XS.iloadN X5.here hexec rfl (hb hbytes d34) rfl ?_
    refine XS.iloadN X5.here hexec rfl (hb hbytes d35) rfl ?_
    exact Steps.refl _)
  obtain ⟨v8, T8, X8, E8, g8⟩ := X5.callS hexec (Cmp3.law l b A o len) hown (wks W (staticW "java/lang/String" 177 Cmp3.yN)) (wk W Cmp3.tab) (W := 0) (Nat.le_of_ble_eq_true rfl) (Nat.le_of_ble_eq_true rfl) (Nat.le_refl _) (by show 0 + len ≤ len; omega) (g := (mkF m 36 #[.val (.ref a), .val (.ref b), .val (.int (Int32.ofNat o)), .val (.int (Int32.ofNat len)), .val .null, .unset] [.int (Int32.ofNat len), .int (Int32.ofNat o), .ref b])) rfl (by rw [hml]; rfl) c7 (argsL := [.ref b, .int (Int32.ofNat o), .int (Int32.ofNat len)]) (rest := []) rfl rfl (by show 2 * 0 + 0 ≤ _; decide) (hb hbytes d36) (⟨rfl, hA.mv X5.warmed.alike hh5, l1, l2, hp⟩)
  obtain ⟨e8, z8⟩ := E8
  obtain ⟨rfl, N, n1, n2, n3, n4, n5, n6⟩ := NewArr.mv _ T5 s _ _ hh5.symm (Vm.Alike.refl _) rfl e8
  rw [hh5] at z8
  have hB1 := hB.keep X8.warmed.alike (n6 _ _ hB.1)
  have hne : s.heap.size ≠ a := (Nat.ne_of_lt (Array.getElem?_eq_some_iff.mp hB.1).1).symm
  have c9 : Steps p.tables e below (s₁.setTop (entryFrame m #[.ref a, .ref b, .int (Int32.ofNat o), .int (Int32.ofNat len), .null] 6)) (T8.setTop (mkF m 39 #[.val (.ref a), .val (.ref b), .val (.int (Int32.ofNat o)), .val (.int (Int32.ofNat len)), .val .null, .unset] [.ref s.heap.size])) := g8
  have c10 : Steps p.tables e below (s₁.setTop (entryFrame m #[.ref a, .ref b, .int (Int32.ofNat o), .int (Int32.ofNat len), .null] 6)) (T8.setTop (mkF m 45 #[.val (.ref a), .val (.ref b), .val (.int (Int32.ofNat o)), .val (.int (Int32.ofNat len)), .val .null, .val (.ref s.heap.size)] [.int (Int32.ofNat N.slots.size), .ref s.heap.size, .ref a])) := by
    have hc : Steps p.tables e below (s₁.setTop (entryFrame m #[.ref a, .ref b, .int (Int32.ofNat o), .int (Int32.ofNat len), .null] 6)) (T8.setTop (mkF m 45 #[.val (.ref a), .val (.ref b), .val (.int (Int32.ofNat o)), .val (.int (Int32.ofNat len)), .val .null, .val (.ref s.heap.size)] [.int (Int32.ofNat len), .ref s.heap.size, .ref a])) := c9.trans (by
      refine XS.astore X8.here hexec rfl (hb hbytes d39) rfl rfl rfl ?_
      refine XS.aloadN X8.here hexec rfl (hb hbytes d41) rfl rfl ?_
      refine XS.aload X8.here hexec rfl (hb hbytes d42) rfl rfl ?_
      refine XS.iloadN X8.here hexec rfl (hb hbytes d44) rfl ?_
      exact Steps.refl _)
    rw [n4]; exact hc
  obtain ⟨v11, T11, X11, E11, g11⟩ := X8.callS hexec (CodL.law l s.heap.size N) hown (wks W (staticW "java/lang/String" 47 CodL.yN)) (wk W CodL.tab) (W := 1) (Nat.le_of_ble_eq_true rfl) (Nat.le_of_ble_eq_true rfl) (Nat.le_refl _) (by show 0 + len + 0 ≤ len; omega) (g := (mkF m 45 #[.val (.ref a), .val (.ref b), .val (.int (Int32.ofNat o)), .val (.int (Int32.ofNat len)), .val .null, .val (.ref s.heap.size)] [.int (Int32.ofNat N.slots.size), .ref s.heap.size, .ref a])) rfl (by rw [hml]; rfl) c10 (argsL := [.ref s.heap.size, .int (Int32.ofNat N.slots.size)]) (rest := [.ref a]) rfl rfl (by show 2 * 0 + (1 + 0) ≤ _; decide) (hb hbytes d45) (⟨rfl, n1⟩)
  obtain ⟨rfl, q11⟩ := E11
  have hB11 := hB1.mv (X8.warmed.alike.symm.trans X11.warmed.alike) q11
  have c12 : Steps p.tables e below (s₁.setTop (entryFrame m #[.ref a, .ref b, .int (Int32.ofNat o), .int (Int32.ofNat len), .null] 6)) (T11.setTop (mkF m 48 #[.val (.ref a), .val (.ref b), .val (.int (Int32.ofNat o)), .val (.int (Int32.ofNat len)), .val .null, .val (.ref s.heap.size)] [.int 0, .ref a])) := g11
  obtain ⟨T13, X13, p13, bl13, sl13, st13⟩ := X11.finit hexec hown (wk W (.fieldLink "java/lang/String" 15 "java/lang/String" "coder" "B")) (Or.inr ⟨_, (wk W (.laysFinal "java/lang/String" "java/lang/String" "coder" "B"))⟩) (Or.inl ⟨rfl, hnm⟩) f2 (Or.inl rfl) hB11 (t := .byte) (by decide +kernel) rfl (g := (mkF m 48 #[.val (.ref a), .val (.ref b), .val (.int (Int32.ofNat o)), .val (.int (Int32.ofNat len)), .val .null, .val (.ref s.heap.size)] [.int 0, .ref a])) rfl (rest := []) rfl (hb hbytes d48)
  have c14 : Steps p.tables e below (s₁.setTop (entryFrame m #[.ref a, .ref b, .int (Int32.ofNat o), .int (Int32.ofNat len), .null] 6)) (T13.setTop (mkF m 54 #[.val (.ref a), .val (.ref b), .val (.int (Int32.ofNat o)), .val (.int (Int32.ofNat len)), .val .null, .val (.ref s.heap.size)] [.ref s.heap.size, .ref a])) := (c12.trans (st13 _ (Steps.refl _))).trans (by
    refine XS.aloadN X13.here hexec rfl (hb hbytes d51) rfl rfl ?_
    refine XS.aload X13.here hexec rfl (hb hbytes d52) rfl rfl ?_
    exact Steps.refl _)
  obtain ⟨T15, X15, p15, bl15, sl15, st15⟩ := X13.finit hexec hown (wk W (.fieldLink "java/lang/String" 9 "java/lang/String" "value" "[B")) (Or.inr ⟨_, (wk W (.laysFinal "java/lang/String" "java/lang/String" "value" "[B"))⟩) (Or.inl ⟨rfl, hnm⟩) f1 (Or.inl rfl) bl13 (t := (.array .byte)) (by decide +kernel) rfl (g := (mkF m 54 #[.val (.ref a), .val (.ref b), .val (.int (Int32.ofNat o)), .val (.int (Int32.ofNat len)), .val .null, .val (.ref s.heap.size)] [.ref s.heap.size, .ref a])) rfl (rest := []) rfl (hb hbytes d54)
  have c16 : Steps p.tables e below (s₁.setTop (entryFrame m #[.ref a, .ref b, .int (Int32.ofNat o), .int (Int32.ofNat len), .null] 6)) (T15.setTop (mkF m 57 #[.val (.ref a), .val (.ref b), .val (.int (Int32.ofNat o)), .val (.int (Int32.ofNat len)), .val .null, .val (.ref s.heap.size)] [])) := c14.trans (st15 _ (Steps.refl _))
  have ap := apart (Or.inr ⟨_, (wk W (.laysFinal "java/lang/String" "java/lang/String" "value" "[B"))⟩) (Or.inr ⟨_, (wk W (.laysFinal "java/lang/String" "java/lang/String" "coder" "B"))⟩) f1 f2 (t₁ := .array .byte) (t₂ := .byte) (by decide +kernel) (by decide +kernel) (by decide)
  have al := X8.warmed.alike.symm.trans X15.warmed.alike
  have n7 : T11.heap[s.heap.size]? = some N := by rw [q11]; exact n1.1
  exact ⟨T15, none, _, _, _, X15, by simp, rfl, by omega, (fun _ => rfl), ⟨rfl, _, N, bl15, ((Same.refl D _).set _ (by simp)).set _ (by simp), sl15, (Cell.slots_setSlot_ne _ ap).trans sl13, n1.keep al (p15.other hne (p13.other hne n7)), n2, by rw [al.findClass]; exact n3, n4, n5, fun y c h1 h2 => p15.other h1 (p13.other h1 (by rw [q11]; exact n6 y c h2)), by rw [p15.2.2, p13.2.2, q11]; exact z8⟩, fun fs hl => c16.trans (X15.returnOut hexec hret (hb hbytes d57) hl)⟩
end New4
namespace New1
def yN : MethodName := ⟨"java/lang/String", "<init>", "([C)V"⟩
abbrev yB : ByteArray := jdk_42_method_3_code
theorem d0 : decode yB 0 = .ok (.aload_n 0, 1) := by decide +kernel
theorem d1 : decode yB 1 = .ok (.aload_n 1, 1) := by decide +kernel
theorem d2 : decode yB 2 = .ok (.iconst 0, 1) := by decide +kernel
theorem d3 : decode yB 3 = .ok (.aload_n 1, 1) := by decide +kernel
theorem d4 : decode yB 4 = .ok (.arraylength, 1) := by decide +kernel
theorem d5 : decode yB 5 = .ok (.aconst_null, 1) := by decide +kernel
theorem d6 : decode yB 6 = .ok (.invokespecial 27, 3) := by decide +kernel
theorem d9 : decode yB 9 = .ok (.return_, 1) := by decide +kernel
def site : List Cond := [New4.tab] ++ initW "java/lang/String" 27 New4.yN
def tab : Cond := tabOf yN yB 2 none site
def P (a : Addr) (D : Cell) (fV fC : Field) (b : Addr) (A : Cell) (z : Int32) (args : Array Value) (s : State) : Prop := args = #[.ref a, .ref b] ∧ Blank "java/lang/String" a D s ∧ Found "java/lang/String" "value" "[B" fV s ∧ Found "java/lang/String" "coder" "B" fC s ∧ Ch b A s ∧ StaticIs s "java/lang/String" "COMPACT_STRINGS" "Z" (.int z) ∧ ¬ z = 0 ∧ 0 < A.slots.size ∧ A.slots.size ≤ 536870912 ∧ ∀ i, i < A.slots.size → ¬ 255 < cv A i
def E (a : Addr) (D : Cell) (fV fC : Field) (A : Cell) (r : Option Value) (s u : State) : Prop := Got a D fV fC A 0 A.slots.size r s u
/-- new String(chars), not empty, no char above 255: a Latin-1 String of their low bytes -/
theorem law (l : Launch) (a : Addr) (D : Cell) (fV fC : Field) (b : Addr) (A : Cell) (z : Int32) : Law l yN 2 1 3 52 yB 2 none site (P a D fV fC b A z) (E a D fV fC A) [⟨a, fC.slot⟩, ⟨a, fV.slot⟩] 1 A.slots.size := by
  refine Law.of_walk (plainFor_of_name (by decide +kernel)) (by decide +kernel) (by decide +kernel) (by decide) (fun _ _ h => by rw [h.1]; rfl) (fun _ U U' hal hh h => ⟨h.1, h.2.1.mv hal hh, h.2.2.1.al hal, h.2.2.2.1.al hal, h.2.2.2.2.1.mv hal hh, h.2.2.2.2.2.1.there hal hh, h.2.2.2.2.2.2⟩) (fun r U U' V V' h1 hal h2 h => Got.mv r U U' V V' h1 hal h2 h) ?_
  intro p e s m args below meth c s₁ X0 hexec hbytes hml hret hlk hnm hown hh0 W hP
  obtain ⟨rfl, hB, f1, f2, hA, s1, hz, l0, l2, hp⟩ := hP
  have c1 : Steps p.tables e below (s₁.setTop (entryFrame m #[.ref a, .ref b] 2)) (s₁.setTop (mkF m 0 #[.val (.ref a), .val (.ref b)] [])) := entry rfl
  have c2 : Steps p.tables e below (s₁.setTop (entryFrame m #[.ref a, .ref b] 2)) (s₁.setTop (mkF m 6 #[.val (.ref a), .val (.ref b)] [.null, .int (Int32.ofNat A.slots.size), .int 0, .ref b, .ref a])) := c1.trans (by
    refine XS.aloadN X0.here hexec rfl (hb hbytes d0) rfl rfl ?_
    refine XS.aloadN X0.here hexec rfl (hb hbytes d1) rfl rfl ?_
    refine iconstV X0.here hexec rfl 0 (hb hbytes d2) (by decide) ?_
    refine XS.aloadN X0.here hexec rfl (hb hbytes d3) rfl rfl ?_
    refine X0.alen hexec (hA.1.mv X0.warmed.alike hh0) rfl rfl (hb hbytes d4) ?_
    refine XS.aconstNull X0.here hexec rfl (hb hbytes d5) ?_
    exact Steps.refl _)
  obtain ⟨v3, T3, X3, E3, g3⟩ := X0.callN hexec (New4.law l a D fV fC b A z 0 A.slots.size) rfl hown (wks W (initW "java/lang/String" 27 New4.yN)) (W New4.tab (by simp only [site, List.mem_cons, List.mem_append, true_or, or_true])) (W := 0) (Nat.le_of_ble_eq_true rfl) (Nat.le_of_ble_eq_true rfl) (Nat.le_refl _) (by show 0 + A.slots.size ≤ A.slots.size; omega) (g := (mkF m 6 #[.val (.ref a), .val (.ref b)] [.null, .int (Int32.ofNat A.slots.size), .int (Int32.ofNat 0), .ref b, .ref a])) rfl (by rw [hml]; rfl) c2 (argsL := [.ref b, .int (Int32.ofNat 0), .int (Int32.ofNat A.slots.size), .null]) (rest := []) rfl rfl (by show 2 * 0 + 0 ≤ _; decide) (hb hbytes d6) (⟨rfl, hB.mv X0.warmed.alike hh0, f1.al X0.warmed.alike, f2.al X0.warmed.alike, hA.mv X0.warmed.alike hh0, s1.there X0.warmed.alike hh0, hz, l0, by omega, l2, fun i hi => by rw [Nat.zero_add]; exact hp i hi⟩)
  have e0 := Got.mv _ s₁ s _ _ hh0.symm (Vm.Alike.refl _) rfl E3
  obtain rfl := e0.1
  have c4 : Steps p.tables e below (s₁.setTop (entryFrame m #[.ref a, .ref b] 2)) (T3.setTop (mkF m 9 #[.val (.ref a), .val (.ref b)] [])) := g3
  exact ⟨T3, none, _, _, _, X3, by simp, rfl, by omega, (fun _ => rfl), e0, fun fs hl => c4.trans (X3.returnOut hexec hret (hb hbytes d9) hl)⟩
theorem pays {l : Launch} {R : Room} {p : Program} {e : Env} {below : List Frame} {s : State} {sargs : Array Value} {len W : Nat} (a : Addr) (D : Cell) (fV fC : Field) (b : Addr) (A : Cell) (z : Int32) (htab : tab.before sargs s = true) (hfr : 4 ≤ R.frames) (hlo : W + 65 ≤ R.locals) :
    Back l R p e below s sargs yN len W (fun A₁ a₁ => A₁.cells + 1 ≤ R.cells ∧ A₁.slots + A.slots.size ≤ R.slots ∧ P a D fV fC b A z a₁ A₁.U) (fun A₁ _ v₁ B₁ => E a D fV fC A v₁ A₁.U B₁.U ∧ B₁.locs = A₁.locs ++ [⟨a, fC.slot⟩, ⟨a, fV.slot⟩] ∧ B₁.cells = A₁.cells + 1 ∧ B₁.slots = A₁.slots + A.slots.size) :=
  (law l a D fV fC b A z).pays htab hfr (by omega)
end New1
end StrChars
namespace StrChars.Road
open Jvm Sem ClassFile Op Lib Jvm.Stand Jvm.Free Jvm.Free.XT
open Jvm.Lib.Cold (StaticIs)
abbrev ST : String := "java/lang/String"
/-- every table word that New1's law asks, flat -/
abbrev words : List Jvm.Cond := [.code New1.yN New1.yB 2 none, .initialized ST, .methodLink ST 27 New4.yN, .instanceMethod New4.yN,
  .code New4.yN New4.yB 6 none, .fieldLink ST 38 ST "COMPACT_STRINGS" "Z", .laysFinal ST ST "value" "[B", .fieldLink ST 9 ST "value" "[B", .laysFinal ST ST "coder" "B", .fieldLink ST 15 ST "coder" "B",
  .methodLink ST 1 Lib.objectInit, .instanceMethod Lib.objectInit, .code Lib.objectInit ⟨#[0xb1]⟩ 1 none, .methodLink ST 177 Cmp3.yN, .static Cmp3.yN, .methodLink ST 47 CodL.yN, .static CodL.yN,
  .code Cmp3.yN Cmp3.yB 6 (some (.array .byte)), .initialized U16, .arrayClass .byte, .methodLink U16 115 Cmp5.yN, .static Cmp5.yN, .code Cmp5.yN Cmp5.yB 7 (some .int), .code CodL.yN CodL.yB 2 (some .byte)]
theorem tab_of {a : Array Value} {s : State} (h : ∀ w ∈ words, w.before a s = true) : New1.tab.before a s = true := by
  have h5 : Cmp5.tab.before a s = true := unparts (wk h (.code Cmp5.yN Cmp5.yB 7 (some .int))) (wks h (.initialized Cmp5.yN.cls :: Cmp5.site))
  have hc : CodL.tab.before a s = true := unparts (wk h (.code CodL.yN CodL.yB 2 (some .byte))) (wks h (.initialized CodL.yN.cls :: CodL.site))
  have q5 : ∀ w ∈ Cmp5.tab :: words, w.before a s = true := fun w hw => (List.mem_cons.mp hw).elim (fun e => e ▸ h5) (h w)
  have h3 : Cmp3.tab.before a s = true := unparts (wk q5 (.code Cmp3.yN Cmp3.yB 6 (some (.array .byte)))) (wks q5 (.initialized Cmp3.yN.cls :: Cmp3.site))
  have q3 : ∀ w ∈ Cmp3.tab :: CodL.tab :: words, w.before a s = true := fun w hw => (List.mem_cons.mp hw).elim (fun e => e ▸ h3) fun hw => (List.mem_cons.mp hw).elim (fun e => e ▸ hc) (h w)
  have h4 : New4.tab.before a s = true := unparts (wk q3 (.code New4.yN New4.yB 6 none)) (wks q3 (.initialized New4.yN.cls :: New4.site))
  have q4 : ∀ w ∈ New4.tab :: words, w.before a s = true := fun w hw => (List.mem_cons.mp hw).elim (fun e => e ▸ h4) (h w)
  exact unparts (wk q4 (.code New1.yN New1.yB 2 none)) (wks q4 (.initialized New1.yN.cls :: New1.site))
/-- the words ride from the start Z to the walk's own state -/
theorem moved {Z s : State} {a0 args : Array Value} (hZ : Z.Warmed39 s.vm) (hw : ∀ d ∈ words, d.before a0 Z = true) : ∀ d ∈ words, d.before args s = true := fun d hd => by
  have q := hw d hd
  have t : ∀ d ∈ words, d = .arrayClass .byte ∨ (d.onTables && d.keepsFace) = true := by decide +kernel
  rcases t d hd with rfl | t
  · exact RoadKit.mvA hZ q
  · exact RoadKit.mv hZ q t
/-- WHAT COMES BACK, over the tables of the start Z: h the heap at the call, h' behind it -/
def Q (Z : State) (x : Addr) (A : Cell) (h : Heap) (v : Option Value) (h' : Heap) (L : List Loc) : Prop := v = none ∧ (∀ y ∈ L, y.base = x) ∧ RoadKit.Keep h h' [x] ∧ h'.size = h.size + 1 ∧ RoadKit.Exa Z h' x ST ∧ RoadKit.Fld Z h' x ST "value" "[B" (.ref h.size) ∧ RoadKit.Fld Z h' x ST "coder" "B" (.int 0) ∧
  (∃ V : Cell, RoadKit.Arr Z h' h.size V .byte ∧ V.vm = .none ∧ Z.vm.findClass "[B" = some V.cls ∧ V.slots.size = A.slots.size ∧ ∀ j, j < A.slots.size → V.slots[j]? = some (.int (lo8 (cv A j)))) ∧
  ∀ (O n d : String) (w : Value), RoadKit.Fld Z h x O n d w → RoadKit.slotOf Z O n d ≠ RoadKit.slotOf Z ST "value" "[B" → RoadKit.slotOf Z O n d ≠ RoadKit.slotOf Z ST "coder" "B" → RoadKit.Fld Z h' x O n d w
/-- **new String(chars) AT A CALL, IN THE ROAD'S FORM**: for specialBack behind newO: x the fresh String, b the char[] with the cell A -/
theorem back {p : Program} {l : Launch} {e : Env} {R : Room} {s : State} {args : Array Value} {below : List Frame} {len W : Nat} {Z : State} {a0 : Array Value} {h : Heap} (hZ : Z.Warmed39 s.vm) (hw : ∀ d ∈ words, d.before a0 Z = true) {kI : Nat} (wi : (Jvm.Cond.instantiable ST kI).before a0 Z = true)
    {x b : Addr} {A : Cell} {z : Int32} {v0 c0 : Value} (E : RoadKit.Exa Z h x ST) (V : RoadKit.Fld Z h x ST "value" "[B" v0) (C : RoadKit.Fld Z h x ST "coder" "B" c0) (K : RoadKit.Arr Z h b A .char) (hty : Typed .char A) (S : RoadKit.Sta Z h ST "COMPACT_STRINGS" "Z" (.int z)) (hz : ¬ z = 0)
    (l0 : 0 < A.slots.size) (l2 : A.slots.size ≤ 536870912) (hp : ∀ i, i < A.slots.size → ¬ 255 < cv A i) (hfr : 4 ≤ R.frames) (hlo : W + 65 ≤ R.locals) :
    Back l R p e below s args New1.yN len W (fun P a => a = #[.ref x, .ref b] ∧ P.U.heap = h ∧ P.cells + 1 ≤ R.cells ∧ P.slots + A.slots.size ≤ R.slots)
      (fun P _ v B => ∃ L, Q Z x A h v B.U.heap L ∧ B.locs = P.locs ++ L ∧ B.cells = P.cells + 1 ∧ B.slots = P.slots + A.slots.size) := by
  intro m meth c P g ig mk a X hg hsize hdg hW hn hp'
  obtain ⟨rfl, rfl, r1, r2⟩ := hp'
  have al : Z.vm.Alike P.U.vm := hZ.alike.trans X.warmed.alike
  obtain ⟨D, cfV, kV, iV, fV, hD, gV, stV, knV, obV, asV, slV⟩ := id V
  obtain ⟨D', cfC, kC, iC, fC, hD', gC, stC, -, -, asC, slC⟩ := id C
  cases hD.symm.trans hD'
  obtain ⟨D2, kD, e1, e2, e3, e4, e5⟩ := id E
  cases hD.symm.trans e1
  obtain ⟨c2, k2, i1, i2, i3, -⟩ := Cond.instantiable_spec wi
  cases e2.symm.trans i1
  cases e3.symm.trans i2
  obtain ⟨kU, u1, u2⟩ := al.2.2 _ _ e3
  have hB : Blank ST x D P.U := ⟨hD, ⟨knV, fun q hq => by rw [hq] at obV; cases obV⟩, by rw [al.findClass]; exact e2, kU, u1, by rw [u2]; exact i3, by rw [u2]; exact e5 i3⟩
  have F1 : Found ST "value" "[B" fV P.U := ⟨SBG.found_only al ⟨cfV, kV, iV, gV⟩, stV⟩
  have F2 : Found ST "coder" "B" fC P.U := ⟨SBG.found_only al ⟨cfC, kC, iC, gC⟩, stC⟩
  have hA : Ch b A P.U := ⟨⟨K.1, State.isArrayOf_alike al K.2.1, K.2.2, by omega⟩, hty⟩
  have hS : StaticIs P.U ST "COMPACT_STRINGS" "Z" (.int z) := by
    obtain ⟨cfS, iS, kS, fS, st, cS, t1, t2, t3, t4, t5, t6, t7⟩ := S
    exact StaticIs.there (s := { Z with heap := P.U.heap }) ⟨cfS, iS, kS, fS, st, cS, t1, t2, t3, t4, t5, (fun q => by rw [q] at t6; cases t6), t7⟩ al rfl
  obtain ⟨v, B, X', ⟨⟨hv, E', V', q1, q2, q3, q4, q5, q6, q7, q8, q9, q10, q11⟩, hl, hc, hs⟩, st⟩ := New1.pays x D fV fC b A z (tab_of (moved hZ hw)) hfr hlo m meth c P g ig mk _ X hg hsize hdg hW hn ⟨r1, r2, rfl, hB, F1, F2, hA, hS, hz, l0, l2, hp⟩
  have al' : Z.vm.Alike B.U.vm := hZ.alike.trans X'.warmed.alike
  have hsz : E'.slots.size = D.slots.size := by
    obtain ⟨-, -, -, kB, w1, w2, w3⟩ := q1
    obtain ⟨kB', y1, y2⟩ := al'.2.2 _ _ e3
    rw [q2.2.1] at w1
    cases w1.symm.trans y1
    rw [w3, e5 i3, y2]
  refine ⟨v, B, X', ⟨_, ⟨hv, ?_, ⟨by omega, fun y cy hy hn' => q10 y cy (by simpa using hn') hy, fun y cy hy => ?_⟩, q11, ⟨E', _, q1.1, by rw [q2.2.1]; exact e2, by rw [q2.2.1]; exact e3, by rw [q2.1]; exact obV, fun _ => by rw [hsz]; exact e5 i3⟩,
    ⟨E', cfV, kV, iV, fV, q1.1, gV, stV, by rw [q2.1]; exact knV, by rw [q2.1]; exact obV, by rw [q2.2.1]; exact asV, q3⟩, ⟨E', cfC, kC, iC, fC, q1.1, gC, stC, by rw [q2.1]; exact knV, by rw [q2.1]; exact obV, by rw [q2.2.1]; exact asC, q4⟩,
    ⟨V', ⟨q5.1, State.isArrayOf_alike al'.symm q5.2.1, q5.2.2.1⟩, q6, by rw [← al'.findClass]; exact q7, q8, fun j hj => by have := q9 j hj; rwa [Nat.zero_add] at this⟩, fun O n d w F n1 n2 => ?_⟩, hl, hc, hs⟩, st⟩
  · intro y hy
    simp only [List.mem_cons, List.not_mem_nil, or_false] at hy
    rcases hy with rfl | rfl <;> rfl
  · by_cases q : y = x
    · subst q
      cases hD.symm.trans hy
      exact ⟨E', q1.1, q2.2.1, q2.1, hsz⟩
    · exact ⟨cy, q10 y cy q hy, rfl, rfl, rfl⟩
  · obtain ⟨D3, cf, k, i, f, g1, g2, g3, g4, g5, g6, g7⟩ := F
    cases hD.symm.trans g1
    simp only [RoadKit.slotOf, g2, gV, gC, Option.map_some, Option.getD_some] at n1 n2
    exact ⟨E', cf, k, i, f, q1.1, g2, g3, by rw [q2.1]; exact g4, by rw [q2.1]; exact g5, by rw [q2.2.1]; exact g6, by rw [q2.2.2 f.slot (by simp [n1, n2])]; exact g7⟩
end StrChars.Road
namespace StrChars.Road
open Jvm Sem ClassFile Op Lib Jvm.Stand Jvm.Free Jvm.Free.XT
/-- WHAT COMES BACK, the byte[] as a list of values -/
def QA (Z : State) (x : Addr) (zn : Int32) (cs : List Int32) (h : Heap) (v : Option Value) (h' : Heap) (L : List Loc) : Prop := v = none ∧ (∀ y ∈ L, y.base = x) ∧ RoadKit.Keep h h' [x] ∧ h'.size = h.size + 1 ∧ RoadKit.Exa Z h' x ST ∧ RoadKit.Fld Z h' x ST "value" "[B" (.ref h.size) ∧ RoadKit.Fld Z h' x ST "coder" "B" (.int 0) ∧
  (∃ kb, Z.vm.findClass "[B" = some kb ∧ RoadKit.Arv Z h' h.size kb .byte zn (cs.map fun c => .int (lo8 c)) (.int 0)) ∧
  ∀ (O n d : String) (w : Value), RoadKit.Fld Z h x O n d w → RoadKit.slotOf Z O n d ≠ RoadKit.slotOf Z ST "value" "[B" → RoadKit.slotOf Z O n d ≠ RoadKit.slotOf Z ST "coder" "B" → RoadKit.Fld Z h' x O n d w
/-- **new String(chars) AT A CALL, THE ARRAYS AS LISTS**: the char[] at b holds cs, not empty, no char above 255 -/
theorem backArv {p : Program} {l : Launch} {e : Env} {R : Room} {s : State} {args : Array Value} {below : List Frame} {len W : Nat} {Z : State} {a0 : Array Value} {h : Heap} (hZ : Z.Warmed39 s.vm) (hw : ∀ d ∈ words, d.before a0 Z = true) {kI : Nat} (wi : (Jvm.Cond.instantiable ST kI).before a0 Z = true)
    {x b : Addr} {k : ClassId} {zn z : Int32} {cs : List Int32} {dv v0 c0 : Value} (E : RoadKit.Exa Z h x ST) (V : RoadKit.Fld Z h x ST "value" "[B" v0) (C : RoadKit.Fld Z h x ST "coder" "B" c0) (K : RoadKit.Arv Z h b k .char zn (cs.map Value.int) dv) (S : RoadKit.Sta Z h ST "COMPACT_STRINGS" "Z" (.int z)) (hz : ¬ z = 0)
    (hlen : zn.toNatClampNeg = cs.length) (h0 : 0 < cs.length) (hbig : cs.length ≤ 536870912) (hall : ∀ c ∈ cs, ¬ 255 < c) (hfr : 4 ≤ R.frames) (hlo : W + 65 ≤ R.locals) :
    Back l R p e below s args New1.yN len W (fun P a => a = #[.ref x, .ref b] ∧ P.U.heap = h ∧ P.cells + 1 ≤ R.cells ∧ P.slots + cs.length ≤ R.slots)
      (fun P _ v B => ∃ L, QA Z x zn cs h v B.U.heap L ∧ B.locs = P.locs ++ L ∧ B.cells = P.cells + 1 ∧ B.slots = P.slots + cs.length) := by
  obtain ⟨A, K1, K2, K3, K4, K5, K6⟩ := K
  have e : A.slots.size = cs.length := K3.trans hlen
  have hat : ∀ (i : Nat) (hi : i < cs.length), A.slots[i]? = some (.int cs[i]) := fun i hi => by rw [K5 i (by omega)]; simp [List.getD_eq_getElem?_getD, hi]
  have hcv : ∀ (i : Nat) (hi : i < cs.length), cv A i = cs[i] := fun i hi => by unfold cv; rw [hat i hi]
  have hty : Typed .char A := fun i v hv => by
    have hi : i < A.slots.size := (Array.getElem?_eq_some_iff.mp hv).1
    have q := K5 i hi
    rw [hv] at q
    rw [Option.some.inj q]
    exact K6 i hi
  refine Back.mono (back hZ hw wi E V C K1 hty S hz (by omega) (by omega) (fun i hi => by rw [hcv i (by omega)]; exact hall _ (List.getElem_mem _)) hfr hlo) (fun P a hp => ⟨hp.1, hp.2.1, hp.2.2.1, by rw [e]; exact hp.2.2.2⟩) (fun P a v B hp hq => ?_)
  obtain ⟨L, ⟨q1, q2, q3, q4, q5, q6, q7, ⟨V', v1, v2, v3, v4, v5⟩, q9⟩, hl, hc, hs⟩ := hq
  refine ⟨L, ⟨q1, q2, q3, q4, q5, q6, q7, ⟨V'.cls, v3, V', v1, rfl, by rw [v4, e, hlen], K4, fun i hi => ?_, fun i hi => ?_⟩, q9⟩, hl, hc, by rw [hs, e]⟩
  · have hi' : i < cs.length := by omega
    rw [v5 i (by omega), hcv i hi']; simp [List.getD_eq_getElem?_getD, hi']
  · have hi' : i < cs.length := by omega
    simp only [List.getD_eq_getElem?_getD, List.getElem?_map, List.getElem?_eq_getElem hi', Option.map_some, Option.getD_some]
    exact fits_lo8 _
end StrChars.Road
namespace StrChars.Road
open Jvm Sem ClassFile Op Lib Jvm.Stand Jvm.Free Jvm.Free.XT
/-- WHAT COMES BACK, in the writer's own shape -/
def QV (Z : State) (x : Addr) (N : Int32) (bs : List Int32) (h : Heap) (n0 : Nat) (v : Option Value) (h' : Heap) (L : List Loc) : Prop := v = none ∧ RoadKit.Fr n0 L ∧ RoadKit.Keep h h' [x] ∧ RoadKit.Exa Z h' x ST ∧ RoadKit.Fld Z h' x ST "coder" "B" (.int 0) ∧
  ∃ (t : Addr) (kb : ClassId), n0 ≤ t ∧ h.size ≤ t ∧ ¬ t = x ∧ RoadKit.Fld Z h' x ST "value" "[B" (.ref t) ∧ RoadKit.Arv Z h' t kb .byte N (bs.map Value.int) (.int 0)
/-- **new String(chars) AT A CALL, FOR THE WRITER**: a char[] of n known ints, each 0 to 255 -/
theorem backV {p : Program} {l : Launch} {e : Env} {R : Room} {s : State} {args : Array Value} {below : List Frame} {len W : Nat} {Z : State} {a0 : Array Value} {h : Heap} (hZ : Z.Warmed39 s.vm) (hw : ∀ d ∈ words, d.before a0 Z = true) {kI : Nat} (wi : (Jvm.Cond.instantiable ST kI).before a0 Z = true)
    {x b : Addr} {kC : ClassId} {cs bs : List Int32} {d v0 c0 : Value} {z N : Int32} {n n0 : Nat} (hx0 : n0 ≤ x) (hh0 : n0 ≤ h.size) (E : RoadKit.Exa Z h x ST) (V : RoadKit.Fld Z h x ST "value" "[B" v0) (C : RoadKit.Fld Z h x ST "coder" "B" c0) (K : RoadKit.Arv Z h b kC .char N (cs.map Value.int) d) (S : RoadKit.Sta Z h ST "COMPACT_STRINGS" "Z" (.int z)) (hz : ¬ z = 0)
    (hn : cs.length = n) (hN : N = Int32.ofNat n) (l0 : 0 < n) (l2 : n ≤ 4000) (hp : ∀ c ∈ cs, ¬ c < 0 ∧ ¬ (255 : Int32) < c) (hb : bs = cs.map (fun c => c.toInt8.toInt32)) (hfr : 4 ≤ R.frames) (hlo : W + 65 ≤ R.locals) :
    Back l R p e below s args (⟨"java/lang/String", "<init>", "([C)V"⟩ : MethodName) len W (fun P a => a = #[.ref x, .ref b] ∧ P.U.heap = h ∧ P.cells + 1 ≤ R.cells ∧ P.slots + n ≤ R.slots)
      (fun P _ v B => ∃ L, QV Z x N bs h n0 v B.U.heap L ∧ B.locs = P.locs ++ L ∧ B.cells = P.cells + 1 ∧ B.slots = P.slots + n) := by
  subst hn hN hb
  refine Back.mono (backArv hZ hw wi E V C K S hz (n32 (by omega)) l0 (by omega) (fun c hc => (hp c hc).2) hfr hlo) (fun P a hp => hp) (fun P a v B hp hq => ?_)
  obtain ⟨L, ⟨q1, q2, q3, q4, q5, q6, q7, ⟨kb, v1, v2⟩, q9⟩, hl, hc, hs⟩ := hq
  exact ⟨L, ⟨q1, fun y hy => by rw [q2 y hy]; exact hx0, q3, q5, q7, h.size, kb, hh0, Nat.le_refl _, Nat.ne_of_gt E.lt, q6, by rw [List.map_map]; exact v2⟩, hl, hc, hs⟩
end StrChars.Road
end Jvm.Pilot.@@N@@

namespace Jvm.OwnKit
open Jvm Sem ClassFile Op Lib Jvm.Stand Jvm.Free Jvm.LawKit Jvm.RoadKit
section Own
variable {p : Program} {l : Launch} {e : Env} {R : Room} {s : State} {m : MethodId} {args : Array Value} {below : List Frame} {meth : Method} {c : Code} {T : State} {locs : List Loc} {cells slots : Nat} {Z : State} {a0 : Array Value} {h h' : Heap}
/-- the walk from A on comes to an end that says Q -/
def Goes (tb : Tables) (e : Env) (below : List Frame) (Q : State → Outcome → Prop) (A : State) : Prop := ∃ t o, Steps tb e below A t ∧ t.status = .running ∧ Ended t below o ∧ Q t o
theorem Goes.via {tb : Tables} {Q : State → Outcome → Prop} {A B : State} (st : ∀ t, Steps tb e below B t → Steps tb e below A t) (k : Goes tb e below Q B) : Goes tb e below Q A := by
  obtain ⟨t, o, h, r⟩ := k; exact ⟨t, o, st t h, r⟩
/-- what a contract says at one start: the arguments as', the heap h -/
abbrev Ctr (l : Launch) (Z : State) (y : MethodName) (bytes : ByteArray) (maxL : Nat) (ret : Option FieldType) (rm : Room) (as' : Array Value) (h : Heap) (Q : Option Value → Heap → List Loc → Prop) (ws : List Cond) : Prop :=
  MetFree l y (head1 (Cond.code y bytes maxL ret :: ws) rm) (fun a U => a = as' ∧ Z.Warmed39 U.vm ∧ U.heap = h) (fun _ _ _ _ _ => True) (fun _ U o U' => ∃ v L, o = .returned v ∧ Q v U'.heap L ∧ FrameEnd U o U' L rm.cells rm.slots)
/-- what a contract says of a body that may make String constants -/
abbrev CtrW (l : Launch) (Z : State) (y : MethodName) (bytes : ByteArray) (maxL : Nat) (ret : Option FieldType) (rm : Room) (as' : Array Value) (h : Heap) (Q : Option Value → Heap → List Loc → Prop) (ws : List Cond) : Prop :=
  MetFree l y (head1 (Cond.code y bytes maxL ret :: ws) rm) (fun a U => a = as' ∧ Z.Warmed39 U.vm ∧ U.heap = h) (fun _ _ _ _ _ => True) (fun _ U o U' => ∃ v L, o = .returned v ∧ Q v U'.heap L ∧ ReturnedEndW U o U' L rm.cells rm.slots)
/-- the leave of a walk, in either frame F -/
def Lv (F : State → Outcome → State → List Loc → Nat → Nat → Prop) (e : Env) (s : State) (m : MethodId) (below : List Frame) (meth : Method) (T : State) (locs : List Loc) (C S : Nat) : Prop :=
  ∀ v : Option Value, (meth.sig.returnType = none → v = none) → ∃ fs, (∀ (f : JFrame) (acts : List Action), f.method = m → f.locked = none → f.entered = [] → (doReturn e (T.setTop f) acts v).1 = T.setFrames fs) ∧ (T.setFrames fs).status = .running ∧ Ended (T.setFrames fs) below (.returned v) ∧ F s (.returned v) (T.setFrames fs) locs C S
theorem lvN (X : Stand p l e R s m args below meth c T locs cells slots) (hlocks : meth.locks = false) {C S : Nat} (hc : cells ≤ C) (hs : slots ≤ S) : Lv FrameEnd e s m below meth T locs C S := fun v hv => by
  obtain ⟨fs, hr, hrun, hended, hW, hsame⟩ := X.leave hv hlocks
  exact ⟨fs, hr, hrun, hended, ⟨_, rfl⟩, hW, hsame.mono hc hs⟩
theorem lvW {vm0 : Vm} {k0 : Nat} (X : Stand p l e R (s.setVm vm0) m args below meth c T locs cells slots) (hlocks : meth.locks = false) (hS : s.Since vm0 k0) (eT : T.heap = h) (hk : k0 ≤ h.size) {C S : Nat} (hc : cells ≤ C) (hs : slots ≤ S) : Lv ReturnedEndW e s m below meth T locs C S := fun v hv => by
  obtain ⟨fs, hr, hrun, hended, h1, h2, h3, h4⟩ := X.leaveW hS (eT ▸ hk) hv hlocks
  exact ⟨fs, hr, hrun, hended, h1, h2, h3, h4.mono hc hs⟩
theorem fin {F : State → Outcome → State → List Loc → Nat → Nat → Prop} {v : Option Value} (hv : meth.sig.returnType = none → v = none) {A : State}
    (hk : ∀ fs, (∀ (f : JFrame) (acts : List Action), f.method = m → f.locked = none → f.entered = [] → (doReturn e (T.setTop f) acts v).1 = T.setFrames fs) → Steps p.tables e below A (T.setFrames fs))
    {Q : Option Value → Heap → List Loc → Prop} {C S : Nat} (eT : T.heap = h) (hQ : Q v h locs) (lv : Lv F e s m below meth T locs C S) :
    Goes p.tables e below (fun t o => ∃ v L, o = .returned v ∧ Q v t.heap L ∧ F s o t L C S) A := by
  obtain ⟨fs, hr, hrun, hended, hF⟩ := lv v hv
  subst eT
  exact ⟨_, _, hk fs hr, hrun, hended, v, locs, rfl, hQ, hF⟩
variable {sb : State} {F : State → Outcome → State → List Loc → Nat → Nat → Prop}
/-- return of nothing -/
theorem fin0 (X : Stand p l e R sb m args below meth c T locs cells slots) (hx : p.tables.exec = Jvm.exec) (hret : meth.sig.returnType = none) {pc : Nat} {Ls : Array Slot} (hd : decode c.code pc = .ok (.return_, 1))
    {Q : Option Value → Heap → List Loc → Prop} {C S : Nat} (eT : T.heap = h) (hQ : Q none h locs) (lv : Lv F e s m below meth T locs C S) :
    Goes p.tables e below (fun t o => ∃ v L, o = .returned v ∧ Q v t.heap L ∧ F s o t L C S) (T.setTop (mkF m pc Ls [])) :=
  fin (fun _ => rfl) (fun _ hl => X.returnOut hx hret hd hl) eT hQ lv
theorem finI (X : Stand p l e R sb m args below meth c T locs cells slots) (hx : p.tables.exec = Jvm.exec) (hret : meth.sig.returnType = some .int) {pc : Nat} {Ls : Array Slot} {st : List Value} {z : Int32} (hd : decode c.code pc = .ok (.ireturn, 1))
    {Q : Option Value → Heap → List Loc → Prop} {C S : Nat} (eT : T.heap = h) (hQ : Q (some (.int z)) h locs) (lv : Lv F e s m below meth T locs C S) :
    Goes p.tables e below (fun t o => ∃ v L, o = .returned v ∧ Q v t.heap L ∧ F s o t L C S) (T.setTop (mkF m pc Ls (.int z :: st))) :=
  fin (fun q => by rw [hret] at q; cases q) (fun _ hl => retOut X hx hret rfl (Or.inl ⟨rfl, Or.inl rfl, _, rfl⟩) hd hl) eT hQ lv
theorem finN (X : Stand p l e R sb m args below meth c T locs cells slots) (hx : p.tables.exec = Jvm.exec) {t : FieldType} (hret : meth.sig.returnType = some t) (ht : t = .boolean ∨ t = .byte ∨ t = .char ∨ t = .short) {pc : Nat} {Ls : Array Slot} {st : List Value} {z z' : Int32} (hz : nar t z = z') (hd : decode c.code pc = .ok (.ireturn, 1))
    {Q : Option Value → Heap → List Loc → Prop} {C S : Nat} (eT : T.heap = h) (hQ : Q (some (.int z')) h locs) (lv : Lv F e s m below meth T locs C S) :
    Goes p.tables e below (fun t o => ∃ v L, o = .returned v ∧ Q v t.heap L ∧ F s o t L C S) (T.setTop (mkF m pc Ls (.int z :: st))) :=
  fin (fun q => by rw [hret] at q; cases q) (fun _ hl => by subst hz; exact retN X hx hret ht hd hl) eT hQ lv
theorem finJ (X : Stand p l e R sb m args below meth c T locs cells slots) (hx : p.tables.exec = Jvm.exec) (hret : meth.sig.returnType = some .long) {pc : Nat} {Ls : Array Slot} {st : List Value} {z : Int64} (hd : decode c.code pc = .ok (.lreturn, 1))
    {Q : Option Value → Heap → List Loc → Prop} {C S : Nat} (eT : T.heap = h) (hQ : Q (some (.long z)) h locs) (lv : Lv F e s m below meth T locs C S) :
    Goes p.tables e below (fun t o => ∃ v L, o = .returned v ∧ Q v t.heap L ∧ F s o t L C S) (T.setTop (mkF m pc Ls (.long z :: st))) :=
  fin (fun q => by rw [hret] at q; cases q) (fun _ hl => retOut X hx hret rfl (Or.inr (Or.inl ⟨rfl, rfl, _, rfl⟩)) hd hl) eT hQ lv
theorem finA (X : Stand p l e R sb m args below meth c T locs cells slots) (hx : p.tables.exec = Jvm.exec) {t : FieldType} (hret : meth.sig.returnType = some t) (ht : t.isReference = true) {pc : Nat} {Ls : Array Slot} {st : List Value} {w : Value} (hw : w.isRef = true) (hn : narrow t w = w) (hd : decode c.code pc = .ok (.areturn, 1))
    {Q : Option Value → Heap → List Loc → Prop} {C S : Nat} (eT : T.heap = h) (hQ : Q (some w) h locs) (lv : Lv F e s m below meth T locs C S) :
    Goes p.tables e below (fun t o => ∃ v L, o = .returned v ∧ Q v t.heap L ∧ F s o t L C S) (T.setTop (mkF m pc Ls (w :: st))) :=
  fin (fun q => by rw [hret] at q; cases q) (fun _ hl => retOut X hx hret hn (Or.inr (Or.inr (Or.inr (Or.inr ⟨rfl, ht, hw⟩)))) hd hl) eT hQ lv
theorem nar_ref {t : FieldType} {w : Value} (ht : t.isReference = true) (hw : w.isRef = true) : narrow t w = w := by cases t <;> first | (cases ht; done) | (cases w <;> first | rfl | (cases hw; done))
theorem fit_ref {t : FieldType} {w : Value} (ht : t.isReference = true) (hw : w.isRef = true) : fits t w = true := by cases t <;> first | (cases ht; done) | (cases w <;> first | rfl | (cases hw; done))
theorem old_le {n0 : Nat} (O : Old Z n0 h) : n0 ≤ h.size := O.1 ▸ O.2.1
/-- a callee's law, in the one shape -/
abbrev BackQ (l : Launch) (R : Room) (p : Program) (e : Env) (below : List Frame) (s : State) (args : Array Value) (y : MethodName) (W : Nat) (as' : Array Value) (h : Heap) (kc ks : Nat) (Q : Option Value → Heap → List Loc → Prop) : Prop :=
  Back l R p e below s args y 3 W (fun A a => a = as' ∧ A.U.heap = h ∧ A.cells + kc ≤ R.cells ∧ A.slots + ks ≤ R.slots) (fun A _ v B => ∃ L, Q v B.U.heap L ∧ B.locs = A.locs ++ L ∧ B.cells = A.cells + kc ∧ B.slots = A.slots + ks)
theorem callStaticB (X : Stand p l e R s m args below meth c T locs cells slots) (hx : p.tables.exec = Jvm.exec) (hZ : Z.Warmed39 s.vm) {own : String} {index : Nat} {y : MethodName} {bytes : ByteArray} {maxL : Nat} {ret : Option FieldType} {kc ks : Nat} {Q : Option Value → Heap → List Loc → Prop}
    (hown : s.vm.findClass own = some m.cls) (w1 : (Cond.methodLink own index y).before a0 Z = true) (w2 : (Cond.static y).before a0 Z = true) (w3 : (Cond.initialized y.cls).before a0 Z = true) (w4 : (Cond.code y bytes maxL ret).before a0 Z = true)
    (hy : y.cls ≠ "java/lang/invoke/MethodHandle" ∧ y.cls ≠ "java/lang/invoke/VarHandle") {argsL rest : List Value} {W : Nat} (hK : BackQ l R p e below s args y W argsL.toArray h kc ks Q) (eT : T.heap = h)
    (hlen : ∀ sig, parseMethodDescriptor y.desc = some sig → argsL.length = sig.parameters.length) {pc : Nat} {Ls : Array Slot} {st : List Value} (hst : st = argsL.reverse ++ rest) (hsz : Ls.size = c.maxLocals) (hd : decode c.code pc = .ok (.invokestatic index, 3))
    (hW : (rest.map fun v => v.category).sum ≤ W) (hce : cells + kc ≤ R.cells) (hsl : slots + ks ≤ R.slots) :
    ∃ v T' L, Stand p l e R s m args below meth c T' (locs ++ L) (cells + kc) (slots + ks) ∧ Q v T'.heap L ∧ ∀ t, Steps p.tables e below (T'.setTop (mkF m (pc + 3) Ls (v.toList ++ rest))) t → Steps p.tables e below (T.setTop (mkF m pc Ls st)) t := by
  obtain ⟨v, _, ⟨T', L', k', n'⟩, -, X', ⟨L, hQ, l1, l2, l3⟩, st'⟩ := Jvm.LawKit.callS X hx hown (mvT hZ w1) (mvT hZ w2) (mvT hZ w3) (mvT hZ w4) hy hK (g := mkF m pc Ls st) rfl hsz (argsL := argsL) (rest := rest) hlen hst (by show 2 * 0 + _ ≤ _; omega) hd (fun _ _ => ⟨rfl, eT, hce, hsl⟩)
  dsimp only [Pt.U, Pt.locs, Pt.cells, Pt.slots] at X' l1 l2 l3 st' hQ
  subst l1 l2 l3
  exact ⟨v, T', L, X', hQ, st'⟩
theorem callStatic (X : Stand p l e R s m args below meth c T locs cells slots) (hx : p.tables.exec = Jvm.exec) (hZ : Z.Warmed39 s.vm) {own : String} {index : Nat} {y : MethodName} {bytes : ByteArray} {maxL : Nat} {ret : Option FieldType} {rm : Room} {Q : Option Value → Heap → List Loc → Prop}
    (hown : s.vm.findClass own = some m.cls) (w1 : (Cond.methodLink own index y).before a0 Z = true) (w2 : (Cond.static y).before a0 Z = true) (w3 : (Cond.initialized y.cls).before a0 Z = true) (w4 : (Cond.code y bytes maxL ret).before a0 Z = true)
    (hy : y.cls ≠ "java/lang/invoke/MethodHandle" ∧ y.cls ≠ "java/lang/invoke/VarHandle") {argsL rest : List Value} (hM : Ctr l Z y bytes maxL ret rm argsL.toArray h Q []) (eT : T.heap = h)
    (hlen : ∀ sig, parseMethodDescriptor y.desc = some sig → argsL.length = sig.parameters.length) {pc W : Nat} {Ls : Array Slot} {st : List Value} (hst : st = argsL.reverse ++ rest) (hsz : Ls.size = c.maxLocals) (hd : decode c.code pc = .ok (.invokestatic index, 3))
    (hW : (rest.map fun v => v.category).sum ≤ W) (hfr : rm.frames + 1 ≤ R.frames) (hlo : W + (maxL + 11) + rm.locals ≤ R.locals) (hce : cells + rm.cells ≤ R.cells) (hsl : slots + rm.slots ≤ R.slots) :
    ∃ v T' L, Stand p l e R s m args below meth c T' (locs ++ L) (cells + rm.cells) (slots + rm.slots) ∧ Q v T'.heap L ∧ ∀ t, Steps p.tables e below (T'.setTop (mkF m (pc + 3) Ls (v.toList ++ rest))) t → Steps p.tables e below (T.setTop (mkF m pc Ls st)) t :=
  callStaticB X hx hZ hown w1 w2 w3 w4 hy (backOf (W := W) hM hZ w4 w3 hfr hlo) eT hlen hst hsz hd hW hce hsl
theorem callInitB (X : Stand p l e R s m args below meth c T locs cells slots) (hx : p.tables.exec = Jvm.exec) (hZ : Z.Warmed39 s.vm) {own : String} {index : Nat} {y : MethodName} {bytes : ByteArray} {maxL : Nat} {kc ks : Nat} {Q : Option Value → Heap → List Loc → Prop} (hy1 : y.name = "<init>")
    (hown : s.vm.findClass own = some m.cls) (w1 : (Cond.methodLink own index y).before a0 Z = true) (w2 : (Cond.instanceMethod y).before a0 Z = true) (w4 : (Cond.code y bytes maxL none).before a0 Z = true)
    (hy : y.cls ≠ "java/lang/invoke/MethodHandle" ∧ y.cls ≠ "java/lang/invoke/VarHandle") {a : Addr} {argsL rest : List Value} {W : Nat} (hK : BackQ l R p e below s args y W (.ref a :: argsL).toArray h kc ks Q) (eT : T.heap = h)
    (hlen : ∀ sig, parseMethodDescriptor y.desc = some sig → argsL.length = sig.parameters.length) {pc : Nat} {Ls : Array Slot} {st : List Value} (hst : st = argsL.reverse ++ .ref a :: rest) (hsz : Ls.size = c.maxLocals) (hd : decode c.code pc = .ok (.invokespecial index, 3))
    (hW : (rest.map fun v => v.category).sum ≤ W) (hce : cells + kc ≤ R.cells) (hsl : slots + ks ≤ R.slots) :
    ∃ v T' L, Stand p l e R s m args below meth c T' (locs ++ L) (cells + kc) (slots + ks) ∧ Q v T'.heap L ∧ ∀ t, Steps p.tables e below (T'.setTop (mkF m (pc + 3) Ls (v.toList ++ rest))) t → Steps p.tables e below (T.setTop (mkF m pc Ls st)) t := by
  obtain ⟨v, _, ⟨T', L', k', n'⟩, -, X', ⟨L, hQ, l1, l2, l3⟩, st'⟩ := X.specialBack hx hy1 hown (mvT hZ w1) (mvT hZ w2) (mvT hZ w4) hy hK (g := mkF m pc Ls st) rfl hsz (Steps.refl _) (a := a) (argsL := argsL) (rest := rest) hlen hst (by show 2 * 0 + _ ≤ _; omega) hd (fun _ _ => ⟨rfl, eT, hce, hsl⟩)
  dsimp only [Pt.U, Pt.locs, Pt.cells, Pt.slots] at X' l1 l2 l3 st' hQ
  subst l1 l2 l3
  exact ⟨v, T', L, X', hQ, fun t k => st'.trans k⟩
theorem callInit (X : Stand p l e R s m args below meth c T locs cells slots) (hx : p.tables.exec = Jvm.exec) (hZ : Z.Warmed39 s.vm) {own : String} {index : Nat} {y : MethodName} {bytes : ByteArray} {maxL : Nat} {rm : Room} {Q : Option Value → Heap → List Loc → Prop} (hy1 : y.name = "<init>")
    (hown : s.vm.findClass own = some m.cls) (w1 : (Cond.methodLink own index y).before a0 Z = true) (w2 : (Cond.instanceMethod y).before a0 Z = true) (w3 : (Cond.initialized y.cls).before a0 Z = true) (w4 : (Cond.code y bytes maxL none).before a0 Z = true)
    (hy : y.cls ≠ "java/lang/invoke/MethodHandle" ∧ y.cls ≠ "java/lang/invoke/VarHandle") {a : Addr} {argsL rest : List Value} (hM : Ctr l Z y bytes maxL none rm (.ref a :: argsL).toArray h Q []) (eT : T.heap = h)
    (hlen : ∀ sig, parseMethodDescriptor y.desc = some sig → argsL.length = sig.parameters.length) {pc W : Nat} {Ls : Array Slot} {st : List Value} (hst : st = argsL.reverse ++ .ref a :: rest) (hsz : Ls.size = c.maxLocals) (hd : decode c.code pc = .ok (.invokespecial index, 3))
    (hW : (rest.map fun v => v.category).sum ≤ W) (hfr : rm.frames + 1 ≤ R.frames) (hlo : W + (maxL + 11) + rm.locals ≤ R.locals) (hce : cells + rm.cells ≤ R.cells) (hsl : slots + rm.slots ≤ R.slots) :
    ∃ v T' L, Stand p l e R s m args below meth c T' (locs ++ L) (cells + rm.cells) (slots + rm.slots) ∧ Q v T'.heap L ∧ ∀ t, Steps p.tables e below (T'.setTop (mkF m (pc + 3) Ls (v.toList ++ rest))) t → Steps p.tables e below (T.setTop (mkF m pc Ls st)) t :=
  callInitB X hx hZ hy1 hown w1 w2 w4 hy (backOf (W := W) hM hZ w4 w3 hfr hlo) eT hlen hst hsz hd hW hce hsl
theorem callVirtB (X : Stand p l e R s m args below meth c T locs cells slots) (hx : p.tables.exec = Jvm.exec) (hZ : Z.Warmed39 s.vm) {own C : String} {index : Nat} {y z : MethodName} {kc ks : Nat} {Q : Option Value → Heap → List Loc → Prop}
    (hown : s.vm.findClass own = some m.cls) (w1 : (Cond.methodLink own index y).before a0 Z = true) (w2 : (Cond.declares y).before a0 Z = true) (w5 : (Cond.selects C y z).before a0 Z = true) (hnf : NotFace s y) (w6 : (Cond.instanceMethod z).before a0 Z = true)
    (hy : y.cls ≠ "java/lang/invoke/MethodHandle" ∧ y.cls ≠ "java/lang/invoke/VarHandle") {a : Addr} {argsL rest : List Value} {W : Nat} (hK : BackQ l R p e below s args z W (.ref a :: argsL).toArray h kc ks Q) (eT : T.heap = h) (E : Exa Z h a C)
    (hlen : ∀ sig, parseMethodDescriptor y.desc = some sig → argsL.length = sig.parameters.length) {pc : Nat} {Ls : Array Slot} {st : List Value} (hst : st = argsL.reverse ++ .ref a :: rest) (hsz : Ls.size = c.maxLocals) (hd : decode c.code pc = .ok (.invokevirtual index, 3))
    (hW : (rest.map fun v => v.category).sum ≤ W) (hce : cells + kc ≤ R.cells) (hsl : slots + ks ≤ R.slots) :
    ∃ v T' L, Stand p l e R s m args below meth c T' (locs ++ L) (cells + kc) (slots + ks) ∧ Q v T'.heap L ∧ ∀ t, Steps p.tables e below (T'.setTop (mkF m (pc + 3) Ls (v.toList ++ rest))) t → Steps p.tables e below (T.setTop (mkF m pc Ls st)) t := by
  obtain ⟨cB, kB, q1, -, q3⟩ := isOf hZ eT E
  obtain ⟨v, _, ⟨T', L', k', n'⟩, -, X', ⟨L, hQ, l1, l2, l3⟩, st'⟩ := X.virtualBack hx hown (mvT hZ w1) (mvT hZ w2) hnf (mvT hZ w5) (mvT hZ w6) hy hK q1 q3 (g := mkF m pc Ls st) rfl hsz (Steps.refl _) (argsL := argsL) (rest := rest) hlen hst (by show 2 * 0 + _ ≤ _; omega) hd (fun _ _ => ⟨rfl, eT, hce, hsl⟩)
  dsimp only [Pt.U, Pt.locs, Pt.cells, Pt.slots] at X' l1 l2 l3 st' hQ
  subst l1 l2 l3
  exact ⟨v, T', L, X', hQ, fun t k => st'.trans k⟩
theorem callVirt (X : Stand p l e R s m args below meth c T locs cells slots) (hx : p.tables.exec = Jvm.exec) (hZ : Z.Warmed39 s.vm) {own C : String} {index : Nat} {y z : MethodName} {bytes : ByteArray} {maxL : Nat} {ret : Option FieldType} {rm : Room} {Q : Option Value → Heap → List Loc → Prop}
    (hown : s.vm.findClass own = some m.cls) (w1 : (Cond.methodLink own index y).before a0 Z = true) (w2 : (Cond.declares y).before a0 Z = true) (w5 : (Cond.selects C y z).before a0 Z = true) (hnf : NotFace s y) (w6 : (Cond.instanceMethod z).before a0 Z = true) (w3 : (Cond.initialized z.cls).before a0 Z = true) (w4 : (Cond.code z bytes maxL ret).before a0 Z = true)
    (hy : y.cls ≠ "java/lang/invoke/MethodHandle" ∧ y.cls ≠ "java/lang/invoke/VarHandle") {a : Addr} {argsL rest : List Value} (hM : Ctr l Z z bytes maxL ret rm (.ref a :: argsL).toArray h Q []) (eT : T.heap = h) (E : Exa Z h a C)
    (hlen : ∀ sig, parseMethodDescriptor y.desc = some sig → argsL.length = sig.parameters.length) {pc W : Nat} {Ls : Array Slot} {st : List Value} (hst : st = argsL.reverse ++ .ref a :: rest) (hsz : Ls.size = c.maxLocals) (hd : decode c.code pc = .ok (.invokevirtual index, 3))
    (hW : (rest.map fun v => v.category).sum ≤ W) (hfr : rm.frames + 1 ≤ R.frames) (hlo : W + (maxL + 11) + rm.locals ≤ R.locals) (hce : cells + rm.cells ≤ R.cells) (hsl : slots + rm.slots ≤ R.slots) :
    ∃ v T' L, Stand p l e R s m args below meth c T' (locs ++ L) (cells + rm.cells) (slots + rm.slots) ∧ Q v T'.heap L ∧ ∀ t, Steps p.tables e below (T'.setTop (mkF m (pc + 3) Ls (v.toList ++ rest))) t → Steps p.tables e below (T.setTop (mkF m pc Ls st)) t :=
  callVirtB X hx hZ hown w1 w2 w5 hnf w6 hy (backOf (W := W) hM hZ w4 w3 hfr hlo) eT E hlen hst hsz hd hW hce hsl
theorem callVirtUpB (X : Stand p l e R s m args below meth c T locs cells slots) (hx : p.tables.exec = Jvm.exec) (hZ : Z.Warmed39 s.vm) {own C owner : String} {index : Nat} {y z : MethodName} {kc ks : Nat} {Q : Option Value → Heap → List Loc → Prop}
    (hown : s.vm.findClass own = some m.cls) (w1 : (Cond.methodLink own index y).before a0 Z = true) (w7 : (Cond.sameMethod y.cls owner y.name y.desc).before a0 Z = true) (w2 : (Cond.declares ⟨owner, y.name, y.desc⟩).before a0 Z = true) (w5 : (Cond.selects C y z).before a0 Z = true) (w6 : (Cond.instanceMethod z).before a0 Z = true)
    (hy : owner ≠ "java/lang/invoke/MethodHandle" ∧ owner ≠ "java/lang/invoke/VarHandle") {a : Addr} {argsL rest : List Value} {W : Nat} (hK : BackQ l R p e below s args z W (.ref a :: argsL).toArray h kc ks Q) (eT : T.heap = h) (E : Exa Z h a C)
    (hlen : ∀ sig, parseMethodDescriptor y.desc = some sig → argsL.length = sig.parameters.length) {pc : Nat} {Ls : Array Slot} {st : List Value} (hst : st = argsL.reverse ++ .ref a :: rest) (hsz : Ls.size = c.maxLocals) (hd : decode c.code pc = .ok (.invokevirtual index, 3))
    (hW : (rest.map fun v => v.category).sum ≤ W) (hce : cells + kc ≤ R.cells) (hsl : slots + ks ≤ R.slots) :
    ∃ v T' L, Stand p l e R s m args below meth c T' (locs ++ L) (cells + kc) (slots + ks) ∧ Q v T'.heap L ∧ ∀ t, Steps p.tables e below (T'.setTop (mkF m (pc + 3) Ls (v.toList ++ rest))) t → Steps p.tables e below (T.setTop (mkF m pc Ls st)) t := by
  obtain ⟨cB, kB, q1, -, q3⟩ := isOf hZ eT E
  obtain ⟨v, _, ⟨T', L', k', n'⟩, -, X', ⟨L, hQ, l1, l2, l3⟩, st'⟩ := X.virtualBackUp hx hown (mvT hZ w1) (mvT hZ w7) (mvT hZ w2) hy (mvT hZ w5) (mvT hZ w6) hK q1 q3 (g := mkF m pc Ls st) rfl hsz (Steps.refl _) (argsL := argsL) (rest := rest) hlen hst (by show 2 * 0 + _ ≤ _; omega) hd (fun _ _ => ⟨rfl, eT, hce, hsl⟩)
  dsimp only [Pt.U, Pt.locs, Pt.cells, Pt.slots] at X' l1 l2 l3 st' hQ
  subst l1 l2 l3
  exact ⟨v, T', L, X', hQ, fun t k => st'.trans k⟩
theorem callVirtUp (X : Stand p l e R s m args below meth c T locs cells slots) (hx : p.tables.exec = Jvm.exec) (hZ : Z.Warmed39 s.vm) {own C owner : String} {index : Nat} {y z : MethodName} {bytes : ByteArray} {maxL : Nat} {ret : Option FieldType} {rm : Room} {Q : Option Value → Heap → List Loc → Prop}
    (hown : s.vm.findClass own = some m.cls) (w1 : (Cond.methodLink own index y).before a0 Z = true) (w7 : (Cond.sameMethod y.cls owner y.name y.desc).before a0 Z = true) (w2 : (Cond.declares ⟨owner, y.name, y.desc⟩).before a0 Z = true) (w5 : (Cond.selects C y z).before a0 Z = true) (w6 : (Cond.instanceMethod z).before a0 Z = true) (w3 : (Cond.initialized z.cls).before a0 Z = true) (w4 : (Cond.code z bytes maxL ret).before a0 Z = true)
    (hy : owner ≠ "java/lang/invoke/MethodHandle" ∧ owner ≠ "java/lang/invoke/VarHandle") {a : Addr} {argsL rest : List Value} (hM : Ctr l Z z bytes maxL ret rm (.ref a :: argsL).toArray h Q []) (eT : T.heap = h) (E : Exa Z h a C)
    (hlen : ∀ sig, parseMethodDescriptor y.desc = some sig → argsL.length = sig.parameters.length) {pc W : Nat} {Ls : Array Slot} {st : List Value} (hst : st = argsL.reverse ++ .ref a :: rest) (hsz : Ls.size = c.maxLocals) (hd : decode c.code pc = .ok (.invokevirtual index, 3))
    (hW : (rest.map fun v => v.category).sum ≤ W) (hfr : rm.frames + 1 ≤ R.frames) (hlo : W + (maxL + 11) + rm.locals ≤ R.locals) (hce : cells + rm.cells ≤ R.cells) (hsl : slots + rm.slots ≤ R.slots) :
    ∃ v T' L, Stand p l e R s m args below meth c T' (locs ++ L) (cells + rm.cells) (slots + rm.slots) ∧ Q v T'.heap L ∧ ∀ t, Steps p.tables e below (T'.setTop (mkF m (pc + 3) Ls (v.toList ++ rest))) t → Steps p.tables e below (T.setTop (mkF m pc Ls st)) t :=
  callVirtUpB X hx hZ hown w1 w7 w2 w5 w6 hy (backOf (W := W) hM hZ w4 w3 hfr hlo) eT E hlen hst hsz hd hW hce hsl
/-- invokevirtual of a private method -/
theorem callPrivB (X : Stand p l e R s m args below meth c T locs cells slots) (hx : p.tables.exec = Jvm.exec) (hZ : Z.Warmed39 s.vm) {own C : String} {index : Nat} {y : MethodName} {bytes : ByteArray} {maxL : Nat} {ret : Option FieldType} {kc ks : Nat} {Q : Option Value → Heap → List Loc → Prop}
    (hown : s.vm.findClass own = some m.cls) (w1 : (Cond.methodLink own index y).before a0 Z = true) (w2 : (Cond.instanceMethod y).before a0 Z = true) (w3 : (Cond.selects y.cls y y).before a0 Z = true) (w5 : (Cond.privateMethod y).before a0 Z = true) (w4 : (Cond.code y bytes maxL ret).before a0 Z = true)
    (hy : y.cls ≠ "java/lang/invoke/MethodHandle" ∧ y.cls ≠ "java/lang/invoke/VarHandle") {a : Addr} {argsL rest : List Value} {W : Nat} (hK : BackQ l R p e below s args y W (.ref a :: argsL).toArray h kc ks Q) (eT : T.heap = h) (E : Exa Z h a C)
    (hlen : ∀ sig, parseMethodDescriptor y.desc = some sig → argsL.length = sig.parameters.length) {pc : Nat} {Ls : Array Slot} {st : List Value} (hst : st = argsL.reverse ++ .ref a :: rest) (hsz : Ls.size = c.maxLocals) (hd : decode c.code pc = .ok (.invokevirtual index, 3))
    (hW : (rest.map fun v => v.category).sum ≤ W) (hce : cells + kc ≤ R.cells) (hsl : slots + ks ≤ R.slots) :
    ∃ v T' L, Stand p l e R s m args below meth c T' (locs ++ L) (cells + kc) (slots + ks) ∧ Q v T'.heap L ∧ ∀ t, Steps p.tables e below (T'.setTop (mkF m (pc + 3) Ls (v.toList ++ rest))) t → Steps p.tables e below (T.setTop (mkF m pc Ls st)) t := by
  obtain ⟨cell, q1, q2⟩ := Exa.cell E
  obtain ⟨v, _, ⟨T', L', k', n'⟩, -, X', ⟨L, hQ, l1, l2, l3⟩, st'⟩ := X.privateBack hx hown (mvT hZ w1) (mvT hZ w2) (mvT hZ w3) (Cond.privateMethod_at (args := args) (mvP hZ w5)) (mvT hZ w4) hy hK (g := mkF m pc Ls st) rfl hsz (Steps.refl _) (a := a) (by rw [eT]; exact q1) q2 (argsL := argsL) (rest := rest) hlen hst (by show 2 * 0 + _ ≤ _; omega) hd (fun _ _ => ⟨rfl, eT, hce, hsl⟩)
  dsimp only [Pt.U, Pt.locs, Pt.cells, Pt.slots] at X' l1 l2 l3 st' hQ
  subst l1 l2 l3
  exact ⟨v, T', L, X', hQ, fun t k => st'.trans k⟩
theorem callPriv (X : Stand p l e R s m args below meth c T locs cells slots) (hx : p.tables.exec = Jvm.exec) (hZ : Z.Warmed39 s.vm) {own C : String} {index : Nat} {y : MethodName} {bytes : ByteArray} {maxL : Nat} {ret : Option FieldType} {rm : Room} {Q : Option Value → Heap → List Loc → Prop}
    (hown : s.vm.findClass own = some m.cls) (w1 : (Cond.methodLink own index y).before a0 Z = true) (w2 : (Cond.instanceMethod y).before a0 Z = true) (w5 : (Cond.selects y.cls y y).before a0 Z = true) (w6 : (Cond.privateMethod y).before a0 Z = true) (w3 : (Cond.initialized y.cls).before a0 Z = true) (w4 : (Cond.code y bytes maxL ret).before a0 Z = true)
    (hy : y.cls ≠ "java/lang/invoke/MethodHandle" ∧ y.cls ≠ "java/lang/invoke/VarHandle") {a : Addr} {argsL rest : List Value} (hM : Ctr l Z y bytes maxL ret rm (.ref a :: argsL).toArray h Q []) (eT : T.heap = h) (E : Exa Z h a C)
    (hlen : ∀ sig, parseMethodDescriptor y.desc = some sig → argsL.length = sig.parameters.length) {pc W : Nat} {Ls : Array Slot} {st : List Value} (hst : st = argsL.reverse ++ .ref a :: rest) (hsz : Ls.size = c.maxLocals) (hd : decode c.code pc = .ok (.invokevirtual index, 3))
    (hW : (rest.map fun v => v.category).sum ≤ W) (hfr : rm.frames + 1 ≤ R.frames) (hlo : W + (maxL + 11) + rm.locals ≤ R.locals) (hce : cells + rm.cells ≤ R.cells) (hsl : slots + rm.slots ≤ R.slots) :
    ∃ v T' L, Stand p l e R s m args below meth c T' (locs ++ L) (cells + rm.cells) (slots + rm.slots) ∧ Q v T'.heap L ∧ ∀ t, Steps p.tables e below (T'.setTop (mkF m (pc + 3) Ls (v.toList ++ rest))) t → Steps p.tables e below (T.setTop (mkF m pc Ls st)) t :=
  callPrivB X hx hZ hown w1 w2 w5 w6 w4 hy (backOf (W := W) hM hZ w4 w3 hfr hlo) eT E hlen hst hsz hd hW hce hsl
abbrev BackQ5 (l : Launch) (R : Room) (p : Program) (e : Env) (below : List Frame) (s : State) (args : Array Value) (y : MethodName) (W : Nat) (as' : Array Value) (h : Heap) (kc ks : Nat) (Q : Option Value → Heap → List Loc → Prop) : Prop :=
  Back l R p e below s args y 5 W (fun A a => a = as' ∧ A.U.heap = h ∧ A.cells + kc ≤ R.cells ∧ A.slots + ks ≤ R.slots) (fun A _ v B => ∃ L, Q v B.U.heap L ∧ B.locs = A.locs ++ L ∧ B.cells = A.cells + kc ∧ B.slots = A.slots + ks)
theorem callFaceB (X : Stand p l e R s m args below meth c T locs cells slots) (hx : p.tables.exec = Jvm.exec) (hZ : Z.Warmed39 s.vm) {own C : String} {index count : Nat} {y z : MethodName} {kc ks : Nat} {Q : Option Value → Heap → List Loc → Prop}
    (hown : s.vm.findClass own = some m.cls) (w1 : (Cond.methodLink own index y).before a0 Z = true) (w2 : (Cond.declares y).before a0 Z = true) (w3 : (Cond.interfaceMethod y.cls y.cls y.name y.desc).before args s = true) (w5 : (Cond.selects C y z).before a0 Z = true) (w6 : (Cond.instanceMethod z).before a0 Z = true)
    (w7 : (Cond.publicMethod z).before a0 Z = true) (w8 : (Cond.unhidden C y.name y.desc).before a0 Z = true) (w9 : (Cond.castable C y.cls).before a0 Z = true)
    (hy : y.cls ≠ "java/lang/invoke/MethodHandle" ∧ y.cls ≠ "java/lang/invoke/VarHandle") {a : Addr} {argsL rest : List Value} {W : Nat} (hK : BackQ5 l R p e below s args z W (.ref a :: argsL).toArray h kc ks Q) (eT : T.heap = h) (E : Exa Z h a C)
    (hlen : ∀ sig, parseMethodDescriptor y.desc = some sig → argsL.length = sig.parameters.length) {pc : Nat} {Ls : Array Slot} {st : List Value} (hst : st = argsL.reverse ++ .ref a :: rest) (hsz : Ls.size = c.maxLocals) (hd : decode c.code pc = .ok (.invokeinterface index count, 5))
    (hW : (rest.map fun v => v.category).sum ≤ W) (hce : cells + kc ≤ R.cells) (hsl : slots + ks ≤ R.slots) :
    ∃ v T' L, Stand p l e R s m args below meth c T' (locs ++ L) (cells + kc) (slots + ks) ∧ Q v T'.heap L ∧ ∀ t, Steps p.tables e below (T'.setTop (mkF m (pc + 5) Ls (v.toList ++ rest))) t → Steps p.tables e below (T.setTop (mkF m pc Ls st)) t := by
  obtain ⟨cB, kB, q1, q2, q3⟩ := isOf hZ eT E
  obtain ⟨v, _, ⟨T', L', k', n'⟩, -, X', ⟨L, hQ, l1, l2, l3⟩, st'⟩ := X.interfaceBack hx hown (mvT hZ w1) (mvT hZ w2) w3 (mvT hZ w5) (mvT hZ w6) (mvT hZ w7) (mvT hZ w8) (mvT hZ w9) hy hK q1 q2 q3 (g := mkF m pc Ls st) rfl hsz (Steps.refl _) (argsL := argsL) (rest := rest) hlen hst (by show 2 * 0 + _ ≤ _; omega) hd (fun _ _ => ⟨rfl, eT, hce, hsl⟩)
  dsimp only [Pt.U, Pt.locs, Pt.cells, Pt.slots] at X' l1 l2 l3 st' hQ
  subst l1 l2 l3
  exact ⟨v, T', L, X', hQ, fun t k => st'.trans k⟩
theorem callFace (X : Stand p l e R s m args below meth c T locs cells slots) (hx : p.tables.exec = Jvm.exec) (hZ : Z.Warmed39 s.vm) {own C : String} {index count : Nat} {y z : MethodName} {bytes : ByteArray} {maxL : Nat} {ret : Option FieldType} {rm : Room} {Q : Option Value → Heap → List Loc → Prop}
    (hown : s.vm.findClass own = some m.cls) (w1 : (Cond.methodLink own index y).before a0 Z = true) (w2 : (Cond.declares y).before a0 Z = true) (wi : (Cond.interfaceMethod y.cls y.cls y.name y.desc).before args s = true) (w5 : (Cond.selects C y z).before a0 Z = true) (w6 : (Cond.instanceMethod z).before a0 Z = true)
    (w7 : (Cond.publicMethod z).before a0 Z = true) (w8 : (Cond.unhidden C y.name y.desc).before a0 Z = true) (w9 : (Cond.castable C y.cls).before a0 Z = true) (w3 : (Cond.initialized z.cls).before a0 Z = true) (w4 : (Cond.code z bytes maxL ret).before a0 Z = true)
    (hy : y.cls ≠ "java/lang/invoke/MethodHandle" ∧ y.cls ≠ "java/lang/invoke/VarHandle") {a : Addr} {argsL rest : List Value} (hM : Ctr l Z z bytes maxL ret rm (.ref a :: argsL).toArray h Q []) (eT : T.heap = h) (E : Exa Z h a C)
    (hlen : ∀ sig, parseMethodDescriptor y.desc = some sig → argsL.length = sig.parameters.length) {pc W : Nat} {Ls : Array Slot} {st : List Value} (hst : st = argsL.reverse ++ .ref a :: rest) (hsz : Ls.size = c.maxLocals) (hd : decode c.code pc = .ok (.invokeinterface index count, 5))
    (hW : (rest.map fun v => v.category).sum ≤ W) (hfr : rm.frames + 1 ≤ R.frames) (hlo : W + (maxL + 11) + rm.locals ≤ R.locals) (hce : cells + rm.cells ≤ R.cells) (hsl : slots + rm.slots ≤ R.slots) :
    ∃ v T' L, Stand p l e R s m args below meth c T' (locs ++ L) (cells + rm.cells) (slots + rm.slots) ∧ Q v T'.heap L ∧ ∀ t, Steps p.tables e below (T'.setTop (mkF m (pc + 5) Ls (v.toList ++ rest))) t → Steps p.tables e below (T.setTop (mkF m pc Ls st)) t :=
  callFaceB X hx hZ hown w1 w2 wi w5 w6 w7 w8 w9 hy (backOf (W := W) hM hZ w4 w3 hfr hlo) eT E hlen hst hsz hd hW hce hsl
theorem callStaticW {vm0 : Vm} {k0 : Nat} (X : Stand p l e R (s.setVm vm0) m args below meth c T locs cells slots) (hx : p.tables.exec = Jvm.exec) (hZ : Z.Warmed39 vm0) (hS : s.Since vm0 k0) (hk : k0 ≤ h.size) {own : String} {index : Nat} {y : MethodName} {bytes : ByteArray} {maxL : Nat} {ret : Option FieldType} {rm : Room} {Q : Option Value → Heap → List Loc → Prop}
    (hown : vm0.findClass own = some m.cls) (w1 : (Cond.methodLink own index y).before a0 Z = true) (w2 : (Cond.static y).before a0 Z = true) (w3 : (Cond.initialized y.cls).before a0 Z = true) (w4 : (Cond.code y bytes maxL ret).before a0 Z = true)
    (hy : y.cls ≠ "java/lang/invoke/MethodHandle" ∧ y.cls ≠ "java/lang/invoke/VarHandle") {argsL rest : List Value} (hM : CtrW l Z y bytes maxL ret rm argsL.toArray h Q []) (eT : T.heap = h)
    (hlen : ∀ sig, parseMethodDescriptor y.desc = some sig → argsL.length = sig.parameters.length) {pc W : Nat} {Ls : Array Slot} {st : List Value} (hst : st = argsL.reverse ++ rest) (hsz : Ls.size = c.maxLocals) (hd : decode c.code pc = .ok (.invokestatic index, 3))
    (hW : (rest.map fun v => v.category).sum ≤ W) (hfr : rm.frames + 1 ≤ R.frames) (hlo : W + (maxL + 11) + rm.locals ≤ R.locals) (hce : cells + rm.cells ≤ R.cells) (hsl : slots + rm.slots ≤ R.slots) :
    ∃ v T' L, Stand p l e R (s.setVm T'.vm) m args below meth c T' (locs ++ L) (cells + rm.cells) (slots + rm.slots) ∧ s.Since T'.vm T'.heap.size ∧ Z.Warmed39 T'.vm ∧ T'.vm.findClass own = some m.cls ∧ Q v T'.heap L ∧ ∀ t, Steps p.tables e below (T'.setTop (mkF m (pc + 3) Ls (v.toList ++ rest))) t → Steps p.tables e below (T.setTop (mkF m pc Ls st)) t := by
  obtain ⟨v, _, ⟨T', L', k', n'⟩, -, X', hS', hg', ⟨L, hQ, l1, l2, l3⟩, st'⟩ := callSS X hx hown (mvT (s := s.setVm vm0) hZ w1) (mvT (s := s.setVm vm0) hZ w2) (mvT (s := s.setVm vm0) hZ w3) (mvT (s := s.setVm vm0) hZ w4) hy (backOfS (W := W) hM (s := s.setVm vm0) hZ w4 w3 hfr hlo) (g := mkF m pc Ls st) rfl hsz (argsL := argsL) (rest := rest) hlen hst (by show 2 * 0 + _ ≤ _; omega) hd (fun _ _ => ⟨rfl, eT, hce, hsl⟩)
  dsimp only [Pt.U, Pt.locs, Pt.cells, Pt.slots] at X' hS' hg' l1 l2 l3 st' hQ
  subst l1 l2 l3
  exact ⟨v, T', L, X', hS.trans hS' (Nat.le_trans hk (eT ▸ hg')), State.Warmed39.trans (t := s.setVm vm0) hZ hS'.1, by rw [hS'.1.alike.findClass]; exact hown, hQ, fun t k => st'.trans k⟩
theorem callInitW {vm0 : Vm} {k0 : Nat} (X : Stand p l e R (s.setVm vm0) m args below meth c T locs cells slots) (hx : p.tables.exec = Jvm.exec) (hZ : Z.Warmed39 vm0) (hS : s.Since vm0 k0) (hk : k0 ≤ h.size) {own : String} {index : Nat} {y : MethodName} {bytes : ByteArray} {maxL : Nat} {rm : Room} {Q : Option Value → Heap → List Loc → Prop} (hy1 : y.name = "<init>")
    (hown : vm0.findClass own = some m.cls) (w1 : (Cond.methodLink own index y).before a0 Z = true) (w2 : (Cond.instanceMethod y).before a0 Z = true) (w3 : (Cond.initialized y.cls).before a0 Z = true) (w4 : (Cond.code y bytes maxL none).before a0 Z = true)
    (hy : y.cls ≠ "java/lang/invoke/MethodHandle" ∧ y.cls ≠ "java/lang/invoke/VarHandle") {a : Addr} {argsL rest : List Value} (hM : CtrW l Z y bytes maxL none rm (.ref a :: argsL).toArray h Q []) (eT : T.heap = h)
    (hlen : ∀ sig, parseMethodDescriptor y.desc = some sig → argsL.length = sig.parameters.length) {pc W : Nat} {Ls : Array Slot} {st : List Value} (hst : st = argsL.reverse ++ .ref a :: rest) (hsz : Ls.size = c.maxLocals) (hd : decode c.code pc = .ok (.invokespecial index, 3))
    (hW : (rest.map fun v => v.category).sum ≤ W) (hfr : rm.frames + 1 ≤ R.frames) (hlo : W + (maxL + 11) + rm.locals ≤ R.locals) (hce : cells + rm.cells ≤ R.cells) (hsl : slots + rm.slots ≤ R.slots) :
    ∃ v T' L, Stand p l e R (s.setVm T'.vm) m args below meth c T' (locs ++ L) (cells + rm.cells) (slots + rm.slots) ∧ s.Since T'.vm T'.heap.size ∧ Z.Warmed39 T'.vm ∧ T'.vm.findClass own = some m.cls ∧ Q v T'.heap L ∧ ∀ t, Steps p.tables e below (T'.setTop (mkF m (pc + 3) Ls (v.toList ++ rest))) t → Steps p.tables e below (T.setTop (mkF m pc Ls st)) t := by
  obtain ⟨v, _, ⟨T', L', k', n'⟩, -, X', hS', hg', ⟨L, hQ, l1, l2, l3⟩, st'⟩ := X.specialBackS hx hy1 hown (mvT (s := s.setVm vm0) hZ w1) (mvT (s := s.setVm vm0) hZ w2) (mvT (s := s.setVm vm0) hZ w4) hy (backOfS (W := W) hM (s := s.setVm vm0) hZ w4 w3 hfr hlo) (g := mkF m pc Ls st) rfl hsz (Steps.refl _) (a := a) (argsL := argsL) (rest := rest) hlen hst (by show 2 * 0 + _ ≤ _; omega) hd (fun _ _ => ⟨rfl, eT, hce, hsl⟩)
  dsimp only [Pt.U, Pt.locs, Pt.cells, Pt.slots] at X' hS' hg' l1 l2 l3 st' hQ
  subst l1 l2 l3
  exact ⟨v, T', L, X', hS.trans hS' (Nat.le_trans hk (eT ▸ hg')), State.Warmed39.trans (t := s.setVm vm0) hZ hS'.1, by rw [hS'.1.alike.findClass]; exact hown, hQ, fun t k => st'.trans k⟩
theorem callVirtW {vm0 : Vm} {k0 : Nat} (X : Stand p l e R (s.setVm vm0) m args below meth c T locs cells slots) (hx : p.tables.exec = Jvm.exec) (hZ : Z.Warmed39 vm0) (hS : s.Since vm0 k0) (hk : k0 ≤ h.size) {own C : String} {index : Nat} {y z : MethodName} {bytes : ByteArray} {maxL : Nat} {ret : Option FieldType} {rm : Room} {Q : Option Value → Heap → List Loc → Prop}
    (hown : vm0.findClass own = some m.cls) (w1 : (Cond.methodLink own index y).before a0 Z = true) (w2 : (Cond.declares y).before a0 Z = true) (w5 : (Cond.selects C y z).before a0 Z = true) (hnf : NotFace (s.setVm vm0) y) (w6 : (Cond.instanceMethod z).before a0 Z = true) (w3 : (Cond.initialized z.cls).before a0 Z = true) (w4 : (Cond.code z bytes maxL ret).before a0 Z = true)
    (hy : y.cls ≠ "java/lang/invoke/MethodHandle" ∧ y.cls ≠ "java/lang/invoke/VarHandle") {a : Addr} {argsL rest : List Value} (hM : CtrW l Z z bytes maxL ret rm (.ref a :: argsL).toArray h Q []) (eT : T.heap = h) (E : Exa Z h a C)
    (hlen : ∀ sig, parseMethodDescriptor y.desc = some sig → argsL.length = sig.parameters.length) {pc W : Nat} {Ls : Array Slot} {st : List Value} (hst : st = argsL.reverse ++ .ref a :: rest) (hsz : Ls.size = c.maxLocals) (hd : decode c.code pc = .ok (.invokevirtual index, 3))
    (hW : (rest.map fun v => v.category).sum ≤ W) (hfr : rm.frames + 1 ≤ R.frames) (hlo : W + (maxL + 11) + rm.locals ≤ R.locals) (hce : cells + rm.cells ≤ R.cells) (hsl : slots + rm.slots ≤ R.slots) :
    ∃ v T' L, Stand p l e R (s.setVm T'.vm) m args below meth c T' (locs ++ L) (cells + rm.cells) (slots + rm.slots) ∧ s.Since T'.vm T'.heap.size ∧ Z.Warmed39 T'.vm ∧ T'.vm.findClass own = some m.cls ∧ Q v T'.heap L ∧ ∀ t, Steps p.tables e below (T'.setTop (mkF m (pc + 3) Ls (v.toList ++ rest))) t → Steps p.tables e below (T.setTop (mkF m pc Ls st)) t := by
  obtain ⟨cB, kB, q1, -, q3⟩ := isOf (s := s.setVm vm0) hZ eT E
  obtain ⟨v, _, ⟨T', L', k', n'⟩, -, X', hS', hg', ⟨L, hQ, l1, l2, l3⟩, st'⟩ := X.virtualBackS hx hown (mvT (s := s.setVm vm0) hZ w1) (mvT (s := s.setVm vm0) hZ w2) hnf (mvT (s := s.setVm vm0) hZ w5) (mvT (s := s.setVm vm0) hZ w6) hy (backOfS (W := W) hM (s := s.setVm vm0) hZ w4 w3 hfr hlo) q1 q3 (g := mkF m pc Ls st) rfl hsz (Steps.refl _) (argsL := argsL) (rest := rest) hlen hst (by show 2 * 0 + _ ≤ _; omega) hd (fun _ _ => ⟨rfl, eT, hce, hsl⟩)
  dsimp only [Pt.U, Pt.locs, Pt.cells, Pt.slots] at X' hS' hg' l1 l2 l3 st' hQ
  subst l1 l2 l3
  exact ⟨v, T', L, X', hS.trans hS' (Nat.le_trans hk (eT ▸ hg')), State.Warmed39.trans (t := s.setVm vm0) hZ hS'.1, by rw [hS'.1.alike.findClass]; exact hown, hQ, fun t k => st'.trans k⟩
/-- what a contract says of a body that may read the String constants of EL; sf: cells that are no constant's -/
abbrev CtrH (l : Launch) (Z : State) (EL : List (String × Nat)) (sf : List Addr) (y : MethodName) (bytes : ByteArray) (maxL : Nat) (ret : Option FieldType) (rm : Room) (as' : Array Value) (h : Heap) (Q : Option Value → Heap → List Loc → Prop) (ws : List Cond) : Prop :=
  MetFree l y (head1 (Cond.code y bytes maxL ret :: ws) rm) (fun a U => a = as' ∧ Z.Warmed39 U.vm ∧ U.heap = h ∧ CHv Z EL U.vm h ∧ ∀ x ∈ sf, Safe Z EL U.vm h x) (fun _ _ _ _ _ => True) (fun _ U o U' => ∃ v L, o = .returned v ∧ Q v U'.heap L ∧ CHr Z EL U.vm U.heap U'.vm U'.heap ∧ ReturnedEndW U o U' L rm.cells rm.slots)
/-- the frame of such a body -/
def EndH (Z : State) (EL : List (String × Nat)) (s : State) (o : Outcome) (t : State) (L : List Loc) (k n : Nat) : Prop := CHr Z EL s.vm s.heap t.vm t.heap ∧ ReturnedEndW s o t L k n
theorem lvH {EL : List (String × Nat)} {vm0 : Vm} {k0 : Nat} (X : Stand p l e R (s.setVm vm0) m args below meth c T locs cells slots) (hlocks : meth.locks = false) (hS : s.Since vm0 k0) (eT : T.heap = h) (hk : k0 ≤ h.size) (hZ : Z.Warmed39 vm0) (hEL : EW Z a0 EL) (hR : CHr Z EL s.vm s.heap vm0 h) {C S : Nat} (hc : cells ≤ C) (hs : slots ≤ S) : Lv (EndH Z EL) e s m below meth T locs C S := fun v hv => by
  obtain ⟨fs, hr, hrun, hended, h1, h2, h3, h4⟩ := X.leaveW hS (eT ▸ hk) hv hlocks
  refine ⟨fs, hr, hrun, hended, ?_, h1, h2, h3, h4.mono hc hs⟩
  have q := hR.trans (CHv.at X hZ hEL hR.1)
  subst eT
  exact q
theorem backH {EL : List (String × Nat)} {sf : List Addr} {vm0 : Vm} {y : MethodName} {bytes : ByteArray} {maxL : Nat} {ret : Option FieldType} {rm : Room} {len W : Nat} {as' : Array Value} {Q : Option Value → Heap → List Loc → Prop}
    (hM : CtrH l Z EL sf y bytes maxL ret rm as' h Q [])
    (hZ : Z.Warmed39 vm0) (wc : (Cond.code y bytes maxL ret).before a0 Z = true) (wz : (Cond.initialized y.cls).before a0 Z = true) (hf : rm.frames + 1 ≤ R.frames) (hl : W + (maxL + 11) + rm.locals ≤ R.locals) (hEL : EW Z a0 EL) (H : CHv Z EL vm0 h) (hsf : ∀ x ∈ sf, x < h.size ∧ Safe Z EL vm0 h x) :
    BackS l R p e below (s.setVm vm0) args y len W (fun A a => a = as' ∧ A.U.heap = h ∧ A.cells + rm.cells ≤ R.cells ∧ A.slots + rm.slots ≤ R.slots)
      (fun A _ v B => ∃ L, Q v B.U.heap L ∧ B.locs = A.locs ++ L ∧ B.cells = A.cells + rm.cells ∧ B.slots = A.slots + rm.slots ∧ CHr Z EL vm0 h B.U.vm B.U.heap) :=
  BackS.of_freeW (bytes := bytes) (maxL := maxL) (ret := ret) (E := fun _ first o t L k n => k = rm.cells ∧ n = rm.slots ∧ (∃ v, o = .returned v ∧ Q v t.heap L) ∧ CHr Z EL first.vm first.heap t.vm t.heap) hM hf hl
    (fun m meth c A a Y hp => have hU : Z.Warmed39 A.U.vm := wtrans (s := s.setVm vm0) hZ Y.warmed
      ⟨by show (Cond.and _ .tt).before a A.U = true; rw [Cond.before_and, mv hU wc]; rfl, mv hU wc, mv hU wz, hp.2.2.1, hp.2.2.2⟩)
    (fun m meth c A a g mk Y hp => ⟨hp.1, wtrans (s := s.setVm vm0) hZ Y.warmed, hp.2.1, (CHv.at Y hZ hEL H).1, fun x hx => (CHv.at Y hZ hEL H).safe (hsf x hx).1 (hsf x hx).2⟩) (fun _ _ _ _ _ _ _ _ _ => trivial)
    (fun _ _ _ _ ⟨v, L, h1, h2, h3, h4⟩ => ⟨L, _, _, h4, rfl, rfl, ⟨v, h1, h2⟩, h3⟩)
    (fun m meth c A a g mk v t L k n Y hp _ _ ⟨e1, e2, ⟨v', e3, e4⟩, e5⟩ => by
      cases e3; subst e1 e2
      refine ⟨L, e4, rfl, rfl, rfl, (CHv.at Y hZ hEL H).trans ?_⟩
      rw [← hp.2.1]; exact e5)
theorem callStaticH {EL : List (String × Nat)} {sf : List Addr} {vm0 : Vm} {k0 : Nat} (X : Stand p l e R (s.setVm vm0) m args below meth c T locs cells slots) (hx : p.tables.exec = Jvm.exec) (hZ : Z.Warmed39 vm0) (hS : s.Since vm0 k0) (hk : k0 ≤ h.size) (hEL : EW Z a0 EL) (H : CHv Z EL vm0 h) (hsf : ∀ x ∈ sf, x < h.size ∧ Safe Z EL vm0 h x) {own : String} {index : Nat} {y : MethodName} {bytes : ByteArray} {maxL : Nat} {ret : Option FieldType} {rm : Room} {Q : Option Value → Heap → List Loc → Prop}
    (hown : vm0.findClass own = some m.cls) (w1 : (Cond.methodLink own index y).before a0 Z = true) (w2 : (Cond.static y).before a0 Z = true) (w3 : (Cond.initialized y.cls).before a0 Z = true) (w4 : (Cond.code y bytes maxL ret).before a0 Z = true)
    (hy : y.cls ≠ "java/lang/invoke/MethodHandle" ∧ y.cls ≠ "java/lang/invoke/VarHandle") {argsL rest : List Value} (hM : CtrH l Z EL sf y bytes maxL ret rm argsL.toArray h Q []) (eT : T.heap = h)
    (hlen : ∀ sig, parseMethodDescriptor y.desc = some sig → argsL.length = sig.parameters.length) {pc W : Nat} {Ls : Array Slot} {st : List Value} (hst : st = argsL.reverse ++ rest) (hsz : Ls.size = c.maxLocals) (hd : decode c.code pc = .ok (.invokestatic index, 3))
    (hW : (rest.map fun v => v.category).sum ≤ W) (hfr : rm.frames + 1 ≤ R.frames) (hlo : W + (maxL + 11) + rm.locals ≤ R.locals) (hce : cells + rm.cells ≤ R.cells) (hsl : slots + rm.slots ≤ R.slots) :
    ∃ v T' L, Stand p l e R (s.setVm T'.vm) m args below meth c T' (locs ++ L) (cells + rm.cells) (slots + rm.slots) ∧ s.Since T'.vm T'.heap.size ∧ Z.Warmed39 T'.vm ∧ T'.vm.findClass own = some m.cls ∧ CHr Z EL vm0 h T'.vm T'.heap ∧ Q v T'.heap L ∧ ∀ t, Steps p.tables e below (T'.setTop (mkF m (pc + 3) Ls (v.toList ++ rest))) t → Steps p.tables e below (T.setTop (mkF m pc Ls st)) t := by
  obtain ⟨v, _, ⟨T', L', k', n'⟩, -, X', hS', hg', ⟨L, hQ, l1, l2, l3, hC⟩, st'⟩ := callSS X hx hown (mvT (s := s.setVm vm0) hZ w1) (mvT (s := s.setVm vm0) hZ w2) (mvT (s := s.setVm vm0) hZ w3) (mvT (s := s.setVm vm0) hZ w4) hy (backH (W := W) hM hZ w4 w3 hfr hlo hEL H hsf) (g := mkF m pc Ls st) rfl hsz (argsL := argsL) (rest := rest) hlen hst (by show 2 * 0 + _ ≤ _; omega) hd (fun _ _ => ⟨rfl, eT, hce, hsl⟩)
  dsimp only [Pt.U, Pt.locs, Pt.cells, Pt.slots] at X' hS' hg' l1 l2 l3 st' hQ hC
  subst l1 l2 l3
  exact ⟨v, T', L, X', hS.trans hS' (Nat.le_trans hk (eT ▸ hg')), State.Warmed39.trans (t := s.setVm vm0) hZ hS'.1, by rw [hS'.1.alike.findClass]; exact hown, hC, hQ, fun t k => st'.trans k⟩
theorem callInitH {EL : List (String × Nat)} {sf : List Addr} {vm0 : Vm} {k0 : Nat} (X : Stand p l e R (s.setVm vm0) m args below meth c T locs cells slots) (hx : p.tables.exec = Jvm.exec) (hZ : Z.Warmed39 vm0) (hS : s.Since vm0 k0) (hk : k0 ≤ h.size) (hEL : EW Z a0 EL) (H : CHv Z EL vm0 h) (hsf : ∀ x ∈ sf, x < h.size ∧ Safe Z EL vm0 h x) {own : String} {index : Nat} {y : MethodName} {bytes : ByteArray} {maxL : Nat} {rm : Room} {Q : Option Value → Heap → List Loc → Prop} (hy1 : y.name = "<init>")
    (hown : vm0.findClass own = some m.cls) (w1 : (Cond.methodLink own index y).before a0 Z = true) (w2 : (Cond.instanceMethod y).before a0 Z = true) (w3 : (Cond.initialized y.cls).before a0 Z = true) (w4 : (Cond.code y bytes maxL none).before a0 Z = true)
    (hy : y.cls ≠ "java/lang/invoke/MethodHandle" ∧ y.cls ≠ "java/lang/invoke/VarHandle") {a : Addr} {argsL rest : List Value} (hM : CtrH l Z EL sf y bytes maxL none rm (.ref a :: argsL).toArray h Q []) (eT : T.heap = h)
    (hlen : ∀ sig, parseMethodDescriptor y.desc = some sig → argsL.length = sig.parameters.length) {pc W : Nat} {Ls : Array Slot} {st : List Value} (hst : st = argsL.reverse ++ .ref a :: rest) (hsz : Ls.size = c.maxLocals) (hd : decode c.code pc = .ok (.invokespecial index, 3))
    (hW : (rest.map fun v => v.category).sum ≤ W) (hfr : rm.frames + 1 ≤ R.frames) (hlo : W + (maxL + 11) + rm.locals ≤ R.locals) (hce : cells + rm.cells ≤ R.cells) (hsl : slots + rm.slots ≤ R.slots) :
    ∃ v T' L, Stand p l e R (s.setVm T'.vm) m args below meth c T' (locs ++ L) (cells + rm.cells) (slots + rm.slots) ∧ s.Since T'.vm T'.heap.size ∧ Z.Warmed39 T'.vm ∧ T'.vm.findClass own = some m.cls ∧ CHr Z EL vm0 h T'.vm T'.heap ∧ Q v T'.heap L ∧ ∀ t, Steps p.tables e below (T'.setTop (mkF m (pc + 3) Ls (v.toList ++ rest))) t → Steps p.tables e below (T.setTop (mkF m pc Ls st)) t := by
  obtain ⟨v, _, ⟨T', L', k', n'⟩, -, X', hS', hg', ⟨L, hQ, l1, l2, l3, hC⟩, st'⟩ := X.specialBackS hx hy1 hown (mvT (s := s.setVm vm0) hZ w1) (mvT (s := s.setVm vm0) hZ w2) (mvT (s := s.setVm vm0) hZ w4) hy (backH (W := W) hM hZ w4 w3 hfr hlo hEL H hsf) (g := mkF m pc Ls st) rfl hsz (Steps.refl _) (a := a) (argsL := argsL) (rest := rest) hlen hst (by show 2 * 0 + _ ≤ _; omega) hd (fun _ _ => ⟨rfl, eT, hce, hsl⟩)
  dsimp only [Pt.U, Pt.locs, Pt.cells, Pt.slots] at X' hS' hg' l1 l2 l3 st' hQ hC
  subst l1 l2 l3
  exact ⟨v, T', L, X', hS.trans hS' (Nat.le_trans hk (eT ▸ hg')), State.Warmed39.trans (t := s.setVm vm0) hZ hS'.1, by rw [hS'.1.alike.findClass]; exact hown, hC, hQ, fun t k => st'.trans k⟩
theorem callVirtH {EL : List (String × Nat)} {sf : List Addr} {vm0 : Vm} {k0 : Nat} (X : Stand p l e R (s.setVm vm0) m args below meth c T locs cells slots) (hx : p.tables.exec = Jvm.exec) (hZ : Z.Warmed39 vm0) (hS : s.Since vm0 k0) (hk : k0 ≤ h.size) (hEL : EW Z a0 EL) (H : CHv Z EL vm0 h) (hsf : ∀ x ∈ sf, x < h.size ∧ Safe Z EL vm0 h x) {own C : String} {index : Nat} {y z : MethodName} {bytes : ByteArray} {maxL : Nat} {ret : Option FieldType} {rm : Room} {Q : Option Value → Heap → List Loc → Prop}
    (hown : vm0.findClass own = some m.cls) (w1 : (Cond.methodLink own index y).before a0 Z = true) (w2 : (Cond.declares y).before a0 Z = true) (w5 : (Cond.selects C y z).before a0 Z = true) (hnf : NotFace (s.setVm vm0) y) (w6 : (Cond.instanceMethod z).before a0 Z = true) (w3 : (Cond.initialized z.cls).before a0 Z = true) (w4 : (Cond.code z bytes maxL ret).before a0 Z = true)
    (hy : y.cls ≠ "java/lang/invoke/MethodHandle" ∧ y.cls ≠ "java/lang/invoke/VarHandle") {a : Addr} {argsL rest : List Value} (hM : CtrH l Z EL sf z bytes maxL ret rm (.ref a :: argsL).toArray h Q []) (eT : T.heap = h) (E : Exa Z h a C)
    (hlen : ∀ sig, parseMethodDescriptor y.desc = some sig → argsL.length = sig.parameters.length) {pc W : Nat} {Ls : Array Slot} {st : List Value} (hst : st = argsL.reverse ++ .ref a :: rest) (hsz : Ls.size = c.maxLocals) (hd : decode c.code pc = .ok (.invokevirtual index, 3))
    (hW : (rest.map fun v => v.category).sum ≤ W) (hfr : rm.frames + 1 ≤ R.frames) (hlo : W + (maxL + 11) + rm.locals ≤ R.locals) (hce : cells + rm.cells ≤ R.cells) (hsl : slots + rm.slots ≤ R.slots) :
    ∃ v T' L, Stand p l e R (s.setVm T'.vm) m args below meth c T' (locs ++ L) (cells + rm.cells) (slots + rm.slots) ∧ s.Since T'.vm T'.heap.size ∧ Z.Warmed39 T'.vm ∧ T'.vm.findClass own = some m.cls ∧ CHr Z EL vm0 h T'.vm T'.heap ∧ Q v T'.heap L ∧ ∀ t, Steps p.tables e below (T'.setTop (mkF m (pc + 3) Ls (v.toList ++ rest))) t → Steps p.tables e below (T.setTop (mkF m pc Ls st)) t := by
  obtain ⟨cB, kB, q1, -, q3⟩ := isOf (s := s.setVm vm0) hZ eT E
  obtain ⟨v, _, ⟨T', L', k', n'⟩, -, X', hS', hg', ⟨L, hQ, l1, l2, l3, hC⟩, st'⟩ := X.virtualBackS hx hown (mvT (s := s.setVm vm0) hZ w1) (mvT (s := s.setVm vm0) hZ w2) hnf (mvT (s := s.setVm vm0) hZ w5) (mvT (s := s.setVm vm0) hZ w6) hy (backH (W := W) hM hZ w4 w3 hfr hlo hEL H hsf) q1 q3 (g := mkF m pc Ls st) rfl hsz (Steps.refl _) (argsL := argsL) (rest := rest) hlen hst (by show 2 * 0 + _ ≤ _; omega) hd (fun _ _ => ⟨rfl, eT, hce, hsl⟩)
  dsimp only [Pt.U, Pt.locs, Pt.cells, Pt.slots] at X' hS' hg' l1 l2 l3 st' hQ hC
  subst l1 l2 l3
  exact ⟨v, T', L, X', hS.trans hS' (Nat.le_trans hk (eT ▸ hg')), State.Warmed39.trans (t := s.setVm vm0) hZ hS'.1, by rw [hS'.1.alike.findClass]; exact hown, hC, hQ, fun t k => st'.trans k⟩
theorem rebase {vm0 : Vm} {k0 : Nat} {own : String} (X : Stand p l e R (s.setVm vm0) m args below meth c T locs cells slots) (hS : s.Since vm0 k0) (eT : T.heap = h) (hk : k0 ≤ h.size) (hZ : Z.Warmed39 vm0) (hown : vm0.findClass own = some m.cls) :
    Stand p l e R (s.setVm T.vm) m args below meth c T locs cells slots ∧ s.Since T.vm h.size ∧ Z.Warmed39 T.vm ∧ T.vm.findClass own = some m.cls :=
  ⟨X.retabled X.warmed.wide, hS.trans (X.warmed.since h.size) hk, wtrans (s := s.setVm vm0) hZ X.warmed, by rw [X.warmed.wide.alike.findClass]; exact hown⟩
theorem fld_int {args : Array Value} {t : Term} {x : Addr} {C n d : String} {k : Int32} (ht : t.eval args s none [] s = some (.ref x)) (hq : (Cond.eq (Term.field t C n d) (Term.int k)).value args s none s [] = some true) : Fld s s.heap x C n d (.int k) :=
  Fld.start ((fld_at (C := C) (n := n) (dd := d) ht).symm.trans (eqv_i (Term.int_eval k) hq))
/-- the class C has its Class object, at mr -/
def Mirr (Z : State) (C : String) (mr : Addr) : Prop := ∃ (c : ClassId) (k : Class), Z.vm.findClass C = some c ∧ Z.vm.classes[c]? = some k ∧ k.mirror = some mr
theorem gclsS (X : Stand p l e R s m args below meth c T locs cells slots) (hx : p.tables.exec = Jvm.exec) (hZ : Z.Warmed39 s.vm) {own C : String} {index : Nat} (hown : s.vm.findClass own = some m.cls)
    (w1 : (Cond.methodLink own index ⟨"java/lang/Object", "getClass", "()Ljava/lang/Class;"⟩).before a0 Z = true) (w2 : (Cond.declares ⟨"java/lang/Object", "getClass", "()Ljava/lang/Class;"⟩).before a0 Z = true) (w4 : (Cond.selects C ⟨"java/lang/Object", "getClass", "()Ljava/lang/Class;"⟩ ⟨"java/lang/Object", "getClass", "()Ljava/lang/Class;"⟩).before a0 Z = true)
    (w5 : (Cond.instanceMethod ⟨"java/lang/Object", "getClass", "()Ljava/lang/Class;"⟩).before a0 Z = true) (w6 : (Cond.native ⟨"java/lang/Object", "getClass", "()Ljava/lang/Class;"⟩).before a0 Z = true) (eT : T.heap = h) {a : Addr} (E : Exa Z h a C) {mr : Addr} (M : Mirr Z C mr)
    {g : JFrame} (hg : g.method = m) (hsize : g.locals.size = c.maxLocals) {rest : List Value} (hs : g.stack = .ref a :: rest) (hd : decode c.code g.pc = .ok (.invokevirtual index, 3)) (hf : 1 ≤ R.frames) {W : Nat} (hW : 2 * g.monitorRoom + (rest.map fun v => v.category).sum ≤ W) (hl : W + (nativeFrameWords "java/lang/Object" "getClass" 1 + 11) ≤ R.locals) :
    ∃ T', Stand p l e R s m args below meth c T' locs cells slots ∧ T'.heap = h ∧ ∀ target, Steps p.tables e below (T'.setTop { g with pc := g.pc + 3, stack := .ref mr :: rest }) target → Steps p.tables e below (T.setTop g) target := by
  obtain ⟨cB, kB, i1, i2, i3⟩ := isOf hZ eT E
  obtain ⟨cc, kc, m1, m2, m3⟩ := M
  rw [hZ.alike.findClass] at i1
  cases i1.symm.trans m1
  obtain ⟨k', q, ek⟩ := hZ.alike.2.2 _ _ m2
  obtain ⟨vm', X', st⟩ := X.getClassOf hx hown (mvT hZ w1) (mvT hZ w2) (notFace_of_selects (args := #[]) (mvT hZ w4)) (mvT hZ w4) (mvT hZ w5) (mvT hZ w6) (by rw [hZ.alike.findClass]; exact m1) i3 q (by rw [ek]; exact m3) hg hsize hs hd hf (by omega)
  exact ⟨_, X', eT, st⟩
theorem len_is {args : Array Value} {t : Term} {a : Addr} {cl : Cell} {ty : FieldType} {k : Int32} (ht : t.eval args s none [] s = some (.ref a)) (A : Arr s s.heap a cl ty) (hq : (Cond.eq (Term.length t) (Term.int k)).value args s none s [] = some true) : cl.slots.size < 2 ^ 31 ∧ cl.slots.size.toInt32 = k := by
  have ha := A.fin (Vm.Alike.refl s.vm)
  by_cases hl : cl.slots.size < 2 ^ 31
  · exact ⟨hl, gotT (Cond.eq_ints (len_f ht ha hl) (Term.int_eval k)) hq⟩
  · obtain ⟨v, y, e1, -, -, -⟩ := cmp_v (Or.inl hq)
    simp [Term.eval, ht, ha] at e1
    omega
theorem sub_at {args : Array Value} {a b : Term} {idx : List Nat} {x y : Int32} (ha : a.eval args s none idx s = some (.int x)) (hb : b.eval args s none idx s = some (.int y)) : (Term.sub a b).eval args s none idx s = some (.int (x - y)) := by simp [Term.eval, ha, hb]
theorem own_nc (x : Int32) : nar .char (x &&& 255).toUInt32.toUInt16.toUInt32.toInt32 = x &&& 255 := by
  rw [i2c_mask]; exact i2c_mask x
theorem own_cr (x : Int32) : ¬ (x &&& 255) < 0 ∧ ¬ (255 : Int32) < (x &&& 255) := by
  have q := c_and x 255 (by decide)
  have e0 : (0 : Int32).toInt = 0 := rfl
  have e1 : (255 : Int32).toInt = 255 := rfl
  rw [Int32.lt_iff_toInt_lt, Int32.lt_iff_toInt_lt]; omega
theorem ns_root {O K : String} {n : Nat} (w : (Cond.noSuperclass O).before a0 Z = true) (wk : (Cond.instantiable K n).before a0 Z = true) (hn : O ≠ K) : NS Z O K := by
  obtain ⟨c, k, h1, h2, h3, -, -⟩ := Cond.noSuperclass_spec w
  obtain ⟨t, -, g1, -⟩ := Cond.instantiable_spec wk
  have ne := ids_ne h1 g1 hn
  refine ⟨c, t, h1, g1, fun fuel => ?_⟩
  cases fuel with
  | zero => rfl
  | succ f => simp [Vm.isSubclassAux, ne, h2, h3]
theorem ns_no {C S K : String} {n : Nat} (w : (Cond.superclass C S).before a0 Z = true) (wk : (Cond.instantiable K n).before a0 Z = true) (ns : NS Z C K) (hn : C ≠ K) : ∃ c t, Z.vm.findClass C = some c ∧ Z.vm.findClass K = some t ∧ Z.vm.assignable c t = false := by
  obtain ⟨c, t, h0, g0, n3⟩ := ns
  obtain ⟨p, k, kp, h1, h2, h3, h4, h5, -, h7⟩ := Cond.superclass_spec h0 w
  obtain ⟨t', k', g1, g2, g5, g6, -⟩ := Cond.instantiable_spec wk
  cases g0.symm.trans g1
  have g7 := (Bool.or_eq_false_iff.mp g6).1
  have ne := ids_ne h0 g0 hn
  refine ⟨c, t, h0, g0, ?_⟩
  show Z.vm.assignableAux (255 + 1) c t = false
  simp [Vm.assignableAux, ne, h2, g2, h5, g5, g7, Vm.isSubclass, n3]
end Own
end Jvm.OwnKit
namespace Jvm.Pilot.@@N@@
open Jvm Jvm.ClassFile Sem Op Lib Jvm.Free Jvm.Stand Jvm.LawKit Jvm.RoadKit Jvm.OwnKit Bundle Jvm.Pilot.@@N@@.Jvm.D
abbrev lv_ (x : Int64) : Slot := .val (.long x)
abbrev s_ : Slot := .second
abbrev u_ : Slot := .unset
abbrev Rm (f c s l : Nat) : Room := { frames := f, cells := c, slots := s, locals := l }
theorem own_hw {a0 : Array Value} {Z : State} (hw : ∀ d ∈ tables_1, d.before a0 Z = true) (i : Nat) {d : Jvm.Cond} (h : tables_1[i]? = some d) : d.before a0 Z = true := hw _ (List.mem_of_getElem? h)
theorem own_rem3 (x : Int32) : (x &&& 255) % 3 = 0 ∨ (x &&& 255) % 3 = 1 ∨ (x &&& 255) % 3 = 2 := by
  have q := c_and x 255 (by decide)
  have r := (c_irem (x &&& 255) 3 3 rfl).1 q.1
  have e0 : (0 : Int32).toInt = 0 := rfl
  have e1 : (1 : Int32).toInt = 1 := rfl
  have e2 : (2 : Int32).toInt = 2 := rfl
  simp only [← Int32.toInt_inj, r, e0, e1, e2]
  omega
theorem own_rg {x : Int32} (h : ¬ x < (0 : Int32) ∧ ¬ (255 : Int32) < x) : 0 ≤ x.toInt ∧ x.toInt ≤ 255 := by
  have e0 : (0 : Int32).toInt = 0 := rfl
  have e1 : (255 : Int32).toInt = 255 := rfl
  rw [Int32.lt_iff_toInt_lt, Int32.lt_iff_toInt_lt] at h
  omega
theorem own_i2c {x : Int32} (h : ¬ x < (0 : Int32) ∧ ¬ (255 : Int32) < x) : x.toUInt32.toUInt16.toUInt32.toInt32 = x := by
  have r := own_rg h
  have q := c_i2c x
  apply Int32.toInt_inj.mp; omega
theorem own_byte {x : Int32} (h : ¬ x < (0 : Int32) ∧ ¬ (255 : Int32) < x) : x.toInt8.toInt32 &&& 255 = x := by
  have r := own_rg h
  have q := c_i2b x
  have w := c_mask x.toInt8.toInt32 255 8 (by decide) rfl
  apply Int32.toInt_inj.mp; omega
theorem own_gc {x : Int32} (h : ¬ x < (0 : Int32) ∧ ¬ (255 : Int32) < x) : nar .char (x.toInt8.toInt32 &&& 255).toUInt32.toUInt16.toUInt32.toInt32 = x := by
  rw [own_byte h, own_i2c h]; exact own_i2c h
theorem own_bi {x y : Int32} (h : ¬ x < (0 : Int32) ∧ ¬ (255 : Int32) < x) (h' : ¬ y < (0 : Int32) ∧ ¬ (255 : Int32) < y) (q : x.toInt8.toInt32 = y.toInt8.toInt32) : x = y := by
  rw [← own_byte h, q, own_byte h']
def own_sg (r : Int32) : Int32 := if r < 0 then -1 else if 0 < r then 1 else 0
def own_lex (la a0 a1 lb b0 b1 : Int32) : Int32 := if la = 0 ∨ lb = 0 then own_sg (la - lb) else if ¬ a0 = b0 then (if a0 < b0 then -1 else 1) else if la = 1 ∨ lb = 1 then own_sg (la - lb) else if ¬ a1 = b1 then (if a1 < b1 then -1 else 1) else own_sg (la - lb)
def own_exp (x y : Int64) (la a0 a1 lb b0 b1 : Int32) : Int32 := if x < y then -1 else if y < x then 1 else own_lex la a0 a1 lb b0 b1
theorem own_sub {x y : Int32} (h : ¬ x < (0 : Int32) ∧ ¬ (255 : Int32) < x) (h' : ¬ y < (0 : Int32) ∧ ¬ (255 : Int32) < y) (n : ¬ x = y) : own_sg (x - y) = if x < y then -1 else 1 := by
  have r := own_rg h
  have r' := own_rg h'
  have q := c_isub x y
  have g := rng32 (x - y)
  have e0 : (0 : Int32).toInt = 0 := rfl
  have n' : ¬ x.toInt = y.toInt := fun z => n (Int32.toInt_inj.mp z)
  unfold own_sg
  simp only [Int32.lt_iff_toInt_lt, e0]
  by_cases z : x.toInt < y.toInt
  · rw [if_pos (by omega), if_pos z]
  · rw [if_neg (by omega), if_neg z, if_pos (by omega)]
theorem own_sgl (r : Int32) : (if r.toInt64 < (0 : Int64) then (-1 : Int32) else if (0 : Int64) < r.toInt64 then 1 else 0) = own_sg r := by
  have e0 : (0 : Int32).toInt = 0 := rfl
  have e1 : (0 : Int64).toInt = 0 := rfl
  unfold own_sg
  simp only [Int32.lt_iff_toInt_lt, Int64.lt_iff_toInt_lt, c_i2l, e0, e1]
theorem own_lt (x y : Int32) (n : ¬ x = y) (h : ¬ x < y) : y < x := by
  have n' : ¬ x.toInt = y.toInt := fun z => n (Int32.toInt_inj.mp z)
  rw [Int32.lt_iff_toInt_lt] at *; omega
theorem own_ltF (x y : Int32) (h : x < y) : ¬ y < x := by
  rw [Int32.lt_iff_toInt_lt] at *; omega
theorem own_anti (la a0 a1 lb b0 b1 : Int32) (h1 : la = 0 ∨ la = 1 ∨ la = 2) (h2 : lb = 0 ∨ lb = 1 ∨ lb = 2) : own_lex lb b0 b1 la a0 a1 = - own_lex la a0 a1 lb b0 b1 := by
  have s0 : ∀ x y : Int32, ¬ x = y → (if y < x then (-1 : Int32) else 1) = - (if x < y then (-1 : Int32) else 1) := fun x y n => by
    by_cases z : x < y
    · rw [if_pos z, if_neg (own_ltF _ _ z)]; decide
    · rw [if_neg z, if_pos (own_lt _ _ n z)]
  have s1 : own_sg (lb - la) = - own_sg (la - lb) := by
    rcases h1 with rfl | rfl | rfl <;> rcases h2 with rfl | rfl | rfl <;> decide
  unfold own_lex
  by_cases q0 : la = 0 ∨ lb = 0
  · rw [if_pos q0, if_pos q0.symm, s1]
  · rw [if_neg q0, if_neg (c := lb = 0 ∨ la = 0) fun z => q0 z.symm]
    by_cases q1 : a0 = b0
    · rw [if_neg (c := ¬ a0 = b0) (fun z => z q1), if_neg (c := ¬ b0 = a0) (fun z => z q1.symm)]
      by_cases q2 : la = 1 ∨ lb = 1
      · rw [if_pos q2, if_pos q2.symm, s1]
      · rw [if_neg q2, if_neg (c := lb = 1 ∨ la = 1) fun z => q2 z.symm]
        by_cases q3 : a1 = b1
        · rw [if_neg (c := ¬ a1 = b1) (fun z => z q3), if_neg (c := ¬ b1 = a1) (fun z => z q3.symm), s1]
        · rw [if_pos (c := ¬ a1 = b1) q3, if_pos (c := ¬ b1 = a1) fun z => q3 z.symm]; exact s0 _ _ q3
    · rw [if_pos (c := ¬ a0 = b0) q1, if_pos (c := ¬ b0 = a0) fun z => q1 z.symm]; exact s0 _ _ q1
theorem own_antiE (x y : Int64) (la a0 a1 lb b0 b1 : Int32) (h1 : la = 0 ∨ la = 1 ∨ la = 2) (h2 : lb = 0 ∨ lb = 1 ∨ lb = 2) : own_exp y x lb b0 b1 la a0 a1 = - own_exp x y la a0 a1 lb b0 b1 := by
  unfold own_exp
  by_cases q : x < y
  · have q' : ¬ y < x := by rw [Int64.lt_iff_toInt_lt] at *; omega
    rw [if_pos q, if_neg q', if_pos q]; decide
  · by_cases r : y < x
    · rw [if_pos r, if_neg q, if_pos r]
    · rw [if_neg q, if_neg r, if_neg r, if_neg q]; exact own_anti _ _ _ _ _ _ h1 h2
theorem own_EW {a0 : Array Value} {Z : State} (hw : ∀ d ∈ tables_1, d.before a0 Z = true) : EW Z a0 consts_1 := (EW.cons (own_hw hw 26 rfl) (by decide) (EW.cons (own_hw hw 4 rfl) (by decide) EW.nil))
theorem own_nb (x : Int32) : nar .byte x.toInt8.toInt32 = x.toInt8.toInt32 := by simp [nar]
theorem own_ch (x : Int32) : (x &&& 255).toUInt32.toUInt16.toUInt32.toInt32 = x &&& 255 := i2c_mask x
theorem own_pn0 : plainName "java/lang/StringLatin1" = true := by first | (simp [plainName, overriddenIn]; done) | decide +kernel
theorem own_d_jdk_43_method_3_code_0 : decode jdk_43_method_3_code 0 = .ok (.iload_n 0, 1) := by decide +kernel
theorem own_d_jdk_43_method_3_code_1 : decode jdk_43_method_3_code 1 = .ok (.sipush 255, 3) := by decide +kernel
theorem own_d_jdk_43_method_3_code_4 : decode jdk_43_method_3_code 4 = .ok (.if_icmp .gt 7, 3) := by decide +kernel
theorem own_d_jdk_43_method_3_code_7 : decode jdk_43_method_3_code 7 = .ok (.iconst 1, 1) := by decide +kernel
theorem own_d_jdk_43_method_3_code_8 : decode jdk_43_method_3_code 8 = .ok (.goto 4, 3) := by decide +kernel
theorem own_d_jdk_43_method_3_code_12 : decode jdk_43_method_3_code 12 = .ok (.ireturn, 1) := by decide +kernel
theorem own_ef1 (m : MethodId) (x0 : Int32)  : entryFrame m #[(.int x0)] 1 = mkF m 0 #[iv x0] [] := by first | (simp [entryFrame, mkF, argsToLocals, Value.category]; done) | rfl
abbrev own_Q1 (Z : State) (x1 : Int32) (h0 : Heap) (n0 : Nat) (v : Option Value) (h : Heap) (L : List Loc) : Prop := v = some (.int (1 : Int32)) ∧ Fr n0 L ∧ h = h0
set_option maxRecDepth 65536 in
set_option maxHeartbeats 40000000 in
theorem own_m1 (l : Launch) (Z : State) (a0 : Array Value) (hw : ∀ d ∈ tables_1, d.before a0 Z = true) (ws : List Jvm.Cond) (x1 : Int32) (h0 : Heap) (n0 : Nat) (O0 : Old Z n0 h0) (hn1 : ¬ x1 < (0 : Int32) ∧ ¬ (255 : Int32) < x1) :
    Ctr l Z (⟨"java/lang/StringLatin1", "canEncode", "(C)Z"⟩ : MethodName) jdk_43_method_3_code 1 (some .boolean) (Rm 0 0 0 0) #[(.int x1)] h0 (own_Q1 Z x1 h0 n0) ws := by
  refine MetFree.of_bodySF (plainFor_of_name own_pn0) hisR ?_
  intro p e s m args below meth c s₁ Bd hml0 hP hK
  obtain ⟨rfl, hZ, hh⟩ := hP
  have hx := Bd.exec
  have hby := Bd.bytes
  have hlk : meth.locks = false := Bd.notSynchronized
  have hml : c.maxLocals = 1 := hml0
  have hown : s.vm.findClass "java/lang/StringLatin1" = some m.cls := findClass_of_methodNamed Bd.named
  have hnm := (name_of_methodNamed Bd.named Bd.method).1
  have X0 : Stand p l e (Rm 0 0 0 0) s m #[(.int x1)] below meth c s₁ [] 0 0 := Stand.of_body Bd
  have e0 : s₁.heap = h0 := by rw [← hh, Bd.state]; rfl
  have N0 := Fr.nil n0
  show Goes p.tables e below (fun t o => ∃ v L, o = .returned v ∧ (own_Q1 Z x1 h0 n0) v t.heap L ∧ FrameEnd s o t L ((Rm 0 0 0 0)).cells ((Rm 0 0 0 0)).slots) _
  refine Goes.via (B := s₁.setTop (mkF m 0 #[iv x1] [])) (fun t k => castTop (own_ef1 m x1) k) ?_
  refine Goes.via (B := s₁.setTop (mkF m 1 _ [(.int x1)])) (fun t k => XS.iloadN X0.here hx rfl (hb hby own_d_jdk_43_method_3_code_0) rfl k) ?_
  refine Goes.via (B := s₁.setTop (mkF m 4 _ [(.int (255 : Int32)), (.int x1)])) (fun t k => XS.sipush X0.here hx rfl (hb hby own_d_jdk_43_method_3_code_1) k) ?_
  refine Goes.via (B := s₁.setTop (mkF m 7 _ [])) (fun t k => XS.icmpNo X0.here hx rfl (hb hby own_d_jdk_43_method_3_code_4) rfl (XT.ii_gt_f hn1.2) k) ?_
  refine Goes.via (B := s₁.setTop (mkF m 8 _ [(.int (1 : Int32))])) (fun t k => XS.iconst X0.here hx rfl (hb hby own_d_jdk_43_method_3_code_7) k) ?_
  refine Goes.via (B := s₁.setTop (mkF m 12 _ [(.int (1 : Int32))])) (fun t k => XS.goto X0.here hx rfl (pc0 := 8) (pc' := 12) rfl (hb hby own_d_jdk_43_method_3_code_8) (by decide) (by decide) k) ?_
  exact finN (Q := (own_Q1 Z x1 h0 n0)) (F := FrameEnd) (C := ((Rm 0 0 0 0)).cells) (S := ((Rm 0 0 0 0)).slots) X0 hx (t := .boolean) Bd.returns (by simp) (z' := (1 : Int32)) rfl (hb hby own_d_jdk_43_method_3_code_12) e0 ⟨rfl, N0, rfl⟩ (lvN X0 hlk (by decide) (by decide))
theorem own_d_jdk_43_method_46_code_0 : decode jdk_43_method_46_code 0 = .ok (.iconst 1, 1) := by decide +kernel
theorem own_d_jdk_43_method_46_code_1 : decode jdk_43_method_46_code 1 = .ok (.newarray .byte, 2) := by decide +kernel
theorem own_d_jdk_43_method_46_code_3 : decode jdk_43_method_46_code 3 = .ok (.dup, 1) := by decide +kernel
theorem own_d_jdk_43_method_46_code_4 : decode jdk_43_method_46_code 4 = .ok (.iconst 0, 1) := by decide +kernel
theorem own_d_jdk_43_method_46_code_5 : decode jdk_43_method_46_code 5 = .ok (.iload_n 0, 1) := by decide +kernel
theorem own_d_jdk_43_method_46_code_6 : decode jdk_43_method_46_code 6 = .ok (.i2b, 1) := by decide +kernel
theorem own_d_jdk_43_method_46_code_7 : decode jdk_43_method_46_code 7 = .ok (.bastore, 1) := by decide +kernel
theorem own_d_jdk_43_method_46_code_8 : decode jdk_43_method_46_code 8 = .ok (.areturn, 1) := by decide +kernel
theorem own_ef2 (m : MethodId) (x0 : Int32)  : entryFrame m #[(.int x0)] 1 = mkF m 0 #[iv x0] [] := by first | (simp [entryFrame, mkF, argsToLocals, Value.category]; done) | rfl
abbrev own_Q2 (Z : State) (x1 : Int32) (h0 : Heap) (n0 : Nat) (v : Option Value) (h : Heap) (L : List Loc) : Prop := ∃ ta : Addr, ∃ kt : ClassId, v = some (.ref ta) ∧ Fr n0 L ∧ Keep h0 h [] ∧ h0.size ≤ ta ∧ Arv Z h ta kt .byte (1 : Int32) [(.int x1.toInt8.toInt32)] (.int (0 : Int32))
set_option maxRecDepth 65536 in
set_option maxHeartbeats 40000000 in
theorem own_m2 (l : Launch) (Z : State) (a0 : Array Value) (hw : ∀ d ∈ tables_1, d.before a0 Z = true) (ws : List Jvm.Cond) (x1 : Int32) (h0 : Heap) (n0 : Nat) (O0 : Old Z n0 h0) :
    Ctr l Z (⟨"java/lang/StringLatin1", "toBytes", "(C)[B"⟩ : MethodName) jdk_43_method_46_code 1 (some (.array .byte)) (Rm 0 1 1 0) #[(.int x1)] h0 (own_Q2 Z x1 h0 n0) ws := by
  refine MetFree.of_bodySF (plainFor_of_name own_pn0) hisR ?_
  intro p e s m args below meth c s₁ Bd hml0 hP hK
  obtain ⟨rfl, hZ, hh⟩ := hP
  have hx := Bd.exec
  have hby := Bd.bytes
  have hlk : meth.locks = false := Bd.notSynchronized
  have hml : c.maxLocals = 1 := hml0
  have hown : s.vm.findClass "java/lang/StringLatin1" = some m.cls := findClass_of_methodNamed Bd.named
  have hnm := (name_of_methodNamed Bd.named Bd.method).1
  have X0 : Stand p l e (Rm 0 1 1 0) s m #[(.int x1)] below meth c s₁ [] 0 0 := Stand.of_body Bd
  have e0 : s₁.heap = h0 := by rw [← hh, Bd.state]; rfl
  have N0 := Fr.nil n0
  show Goes p.tables e below (fun t o => ∃ v L, o = .returned v ∧ (own_Q2 Z x1 h0 n0) v t.heap L ∧ FrameEnd s o t L ((Rm 0 1 1 0)).cells ((Rm 0 1 1 0)).slots) _
  refine Goes.via (B := s₁.setTop (mkF m 0 #[iv x1] [])) (fun t k => castTop (own_ef2 m x1) k) ?_
  refine Goes.via (B := s₁.setTop (mkF m 1 _ [(.int (1 : Int32))])) (fun t k => XS.iconst X0.here hx rfl (hb hby own_d_jdk_43_method_46_code_0) k) ?_
  obtain ⟨T1, h1, k1, X1, e1, E1, A1, st1⟩ := newP X0 hx hZ (own_hw hw 7 rfl) e0 (g := (mkF m 1 #[iv x1] [(.int (1 : Int32))])) rfl (hb hby own_d_jdk_43_method_46_code_1) rfl (by decide) (cap := 1) (by decide) (by decide) (by decide) (by decide)
  obtain ⟨b1, g1⟩ : ∃ z, z = h0.size := ⟨_, rfl⟩
  rw [← g1] at A1 st1
  have gn1 : n0 ≤ b1 := Nat.le_trans (old_le O0) (Nat.le_of_eq g1.symm)
  have gs1 : h0.size ≤ b1 := Nat.le_trans (Keep.refl h0 []).1 (Nat.le_of_eq g1.symm)
  have V1 : Arv Z h1 b1 k1 .byte (1 : Int32) [(.int (0 : Int32))] (.int (0 : Int32)) := (Arv.new A1 (by decide)).pad (pad_rep [] (.int (0 : Int32)) 1)
  refine Goes.via (B := T1.setTop (mkF m 3 #[iv x1] [(.ref b1)])) (fun t k => st1 _ k) ?_
  refine Goes.via (B := T1.setTop (mkF m 4 _ [(.ref b1), (.ref b1)])) (fun t k => XS.dup X1.here hx rfl (hb hby own_d_jdk_43_method_46_code_3) rfl rfl k) ?_
  refine Goes.via (B := T1.setTop (mkF m 5 _ [(.int (0 : Int32)), (.ref b1), (.ref b1)])) (fun t k => XS.iconst X1.here hx rfl (hb hby own_d_jdk_43_method_46_code_4) k) ?_
  refine Goes.via (B := T1.setTop (mkF m 6 _ [(.int x1), (.int (0 : Int32)), (.ref b1), (.ref b1)])) (fun t k => XS.iloadN X1.here hx rfl (hb hby own_d_jdk_43_method_46_code_5) rfl k) ?_
  refine Goes.via (B := T1.setTop (mkF m 7 _ [(.int (x1.toInt8.toInt32)), (.int (0 : Int32)), (.ref b1), (.ref b1)])) (fun t k => XS.i2b X1.here hx rfl (hb hby own_d_jdk_43_method_46_code_6) rfl k) ?_
  obtain ⟨cl2, Ar2, q2, S2, N2, H2, G2⟩ := id V1
  obtain ⟨T2, h2, X2, e2, W2, st2⟩ := stB X1 hx hZ e1 Ar2 (j := (0 : Int32)) (inb_of S2 ⟨by decide, by decide⟩) (g := (mkF m 7 #[iv x1] [(.int (x1.toInt8.toInt32)), (.int (0 : Int32)), (.ref b1), (.ref b1)])) rfl rfl (hb hby own_d_jdk_43_method_46_code_7)
  have wn2 : nar .byte (x1.toInt8.toInt32) = x1.toInt8.toInt32 := own_nb x1
  have fn2 : fits .byte (.int x1.toInt8.toInt32) = true := by rw [← wn2]; exact fits_nar_byte _
  rw [wn2] at W2
  have Nf2 := Fr.snoc X2 N0 gn1
  have V2 : Arv Z h2 b1 k1 .byte (1 : Int32) [(.int x1.toInt8.toInt32)] (.int (0 : Int32)) := Arv.set Ar2 q2 S2 N2 H2 G2 fn2 W2 0 rfl (Nat.le_of_ble_eq_true rfl)
  refine Goes.via (B := T2.setTop (mkF m 8 #[iv x1] [(.ref b1)])) (fun t k => st2 _ k) ?_
  exact finA (Q := (own_Q2 Z x1 h0 n0)) (F := FrameEnd) (C := ((Rm 0 1 1 0)).cells) (S := ((Rm 0 1 1 0)).slots) X2 hx Bd.returns rfl rfl rfl (hb hby own_d_jdk_43_method_46_code_8) e2 ⟨b1, k1, rfl, Nf2, (((Keep.refl h0 []).ext E1).wr W2 (Or.inr gs1)), gs1, V2⟩ (lvN X2 hlk (by decide) (by decide))
theorem own_pn1 : plainName "java/lang/String" = true := by first | (simp [plainName, overriddenIn]; done) | decide +kernel
theorem own_d_jdk_42_method_151_code_0 : decode jdk_42_method_151_code 0 = .ok (.aload_n 0, 1) := by decide +kernel
theorem own_d_jdk_42_method_151_code_1 : decode jdk_42_method_151_code 1 = .ok (.invokespecial 1, 3) := by decide +kernel
theorem own_d_jdk_42_method_151_code_4 : decode jdk_42_method_151_code 4 = .ok (.aload_n 0, 1) := by decide +kernel
theorem own_d_jdk_42_method_151_code_5 : decode jdk_42_method_151_code 5 = .ok (.aload_n 1, 1) := by decide +kernel
theorem own_d_jdk_42_method_151_code_6 : decode jdk_42_method_151_code 6 = .ok (.putfield 9, 3) := by decide +kernel
theorem own_d_jdk_42_method_151_code_9 : decode jdk_42_method_151_code 9 = .ok (.aload_n 0, 1) := by decide +kernel
theorem own_d_jdk_42_method_151_code_10 : decode jdk_42_method_151_code 10 = .ok (.iload_n 2, 1) := by decide +kernel
theorem own_d_jdk_42_method_151_code_11 : decode jdk_42_method_151_code 11 = .ok (.putfield 15, 3) := by decide +kernel
theorem own_d_jdk_42_method_151_code_14 : decode jdk_42_method_151_code 14 = .ok (.return_, 1) := by decide +kernel
theorem own_ef3 (m : MethodId) (x0 : Addr) (x1 : Addr) (x2 : Int32)  : entryFrame m #[(.ref x0), (.ref x1), (.int x2)] 3 = mkF m 0 #[rv x0, rv x1, iv x2] [] := by first | (simp [entryFrame, mkF, argsToLocals, Value.category]; done) | rfl
abbrev own_Q3 (Z : State) (a1 : Addr) (a2 : Addr) (h0 : Heap) (n0 : Nat) (v : Option Value) (h : Heap) (L : List Loc) : Prop := v = none ∧ Fr n0 L ∧ Keep h0 h [a1] ∧ Exa Z h a1 "java/lang/String" ∧ Fld Z h a1 "java/lang/String" "value" "[B" (.ref a2) ∧ Fld Z h a1 "java/lang/String" "coder" "B" (.int (0 : Int32))
set_option maxRecDepth 65536 in
set_option maxHeartbeats 40000000 in
theorem own_m3 (l : Launch) (Z : State) (a0 : Array Value) (hw : ∀ d ∈ tables_1, d.before a0 Z = true) (ws : List Jvm.Cond) (a1 : Addr) (a2 : Addr) (h0 : Heap) (n0 : Nat) (O0 : Old Z n0 h0) (gn_a1 : n0 ≤ a1) (F_1 : Exa Z h0 a1 "java/lang/String") (F_2 : Fld Z h0 a1 "java/lang/String" "value" "[B" .null) (F_3 : Fld Z h0 a1 "java/lang/String" "coder" "B" (.int (0 : Int32))) :
    Ctr l Z (⟨"java/lang/String", "<init>", "([BB)V"⟩ : MethodName) jdk_42_method_151_code 3 none (Rm 1 0 0 12) #[(.ref a1), (.ref a2), (.int (0 : Int32))] h0 (own_Q3 Z a1 a2 h0 n0) ws := by
  refine MetFree.of_bodySF (plainFor_of_name own_pn1) hisR ?_
  intro p e s m args below meth c s₁ Bd hml0 hP hK
  obtain ⟨rfl, hZ, hh⟩ := hP
  have hx := Bd.exec
  have hby := Bd.bytes
  have hlk : meth.locks = false := Bd.notSynchronized
  have hml : c.maxLocals = 3 := hml0
  have hown : s.vm.findClass "java/lang/String" = some m.cls := findClass_of_methodNamed Bd.named
  have hnm := (name_of_methodNamed Bd.named Bd.method).1
  have X0 : Stand p l e (Rm 1 0 0 12) s m #[(.ref a1), (.ref a2), (.int (0 : Int32))] below meth c s₁ [] 0 0 := Stand.of_body Bd
  have e0 : s₁.heap = h0 := by rw [← hh, Bd.state]; rfl
  have N0 := Fr.nil n0
  show Goes p.tables e below (fun t o => ∃ v L, o = .returned v ∧ (own_Q3 Z a1 a2 h0 n0) v t.heap L ∧ FrameEnd s o t L ((Rm 1 0 0 12)).cells ((Rm 1 0 0 12)).slots) _
  refine Goes.via (B := s₁.setTop (mkF m 0 #[rv a1, rv a2, iv (0 : Int32)] [])) (fun t k => castTop (own_ef3 m a1 a2 (0 : Int32)) k) ?_
  refine Goes.via (B := s₁.setTop (mkF m 1 _ [(.ref a1)])) (fun t k => XS.aloadN X0.here hx rfl (hb hby own_d_jdk_42_method_151_code_0) rfl rfl k) ?_
  obtain ⟨T1, X1, e1, st1⟩ := initO X0 hx hZ hown (own_hw hw 92 rfl) (own_hw hw 24 rfl) (own_hw hw 25 rfl) e0 (g := (mkF m 1 #[rv a1, rv a2, iv (0 : Int32)] [(.ref a1)])) rfl (by rw [hml]; rfl) rfl (hb hby own_d_jdk_42_method_151_code_1) (by decide) (W := 0) (by show 2 * 0 + _ ≤ _; exact Nat.le_of_eq rfl) (by decide)
  refine Goes.via (B := T1.setTop (mkF m 4 #[rv a1, rv a2, iv (0 : Int32)] [])) (fun t k => st1 _ k) ?_
  refine Goes.via (B := T1.setTop (mkF m 5 _ [(.ref a1)])) (fun t k => XS.aloadN X1.here hx rfl (hb hby own_d_jdk_42_method_151_code_4) rfl rfl k) ?_
  refine Goes.via (B := T1.setTop (mkF m 6 _ [(.ref a2), (.ref a1)])) (fun t k => XS.aloadN X1.here hx rfl (hb hby own_d_jdk_42_method_151_code_5) rfl rfl k) ?_
  obtain ⟨T2, h2, X2, e2, W2, st2⟩ := putF X1 hx hZ hown (host := "") (Or.inl (own_hw hw 55 rfl)) Via.refl e1 F_2 F_1 (Or.inr ⟨(own_hw hw 8 rfl), rfl, hnm⟩) (own_hw hw 6 rfl) (ty := (.array .byte)) (by decide) rfl rfl (g := (mkF m 6 #[rv a1, rv a2, iv (0 : Int32)] [(.ref a2), (.ref a1)])) rfl rfl (hb hby own_d_jdk_42_method_151_code_6)
  have N2 := Fr.snoc X2 N0 gn_a1
  refine Goes.via (B := T2.setTop (mkF m 9 #[rv a1, rv a2, iv (0 : Int32)] [])) (fun t k => st2 _ k) ?_
  refine Goes.via (B := T2.setTop (mkF m 10 _ [(.ref a1)])) (fun t k => XS.aloadN X2.here hx rfl (hb hby own_d_jdk_42_method_151_code_9) rfl rfl k) ?_
  refine Goes.via (B := T2.setTop (mkF m 11 _ [(.int (0 : Int32)), (.ref a1)])) (fun t k => XS.iloadN X2.here hx rfl (hb hby own_d_jdk_42_method_151_code_10) rfl k) ?_
  have c3 : Fld Z h2 a1 "java/lang/String" "coder" "B" (.int (0 : Int32)) := (Fld.other W2 F_3 (Or.inr (slot_ne (Or.inr (own_hw hw 9 rfl)) (Or.inr (own_hw hw 8 rfl)) (by decide) (t := .byte) (t' := (.array .byte)) (by decide) (by decide))))
  obtain ⟨T4, h4, X4, e4, W4, st4⟩ := putFN X2 hx hZ hown (own_hw hw 62 rfl) Via.refl e2 c3 (Exa.wr W2 F_1) (Or.inr ⟨(own_hw hw 9 rfl), rfl, hnm⟩) (own_hw hw 6 rfl) (ty := .byte) (v' := (.int (0 : Int32))) (by decide) rfl rfl (g := (mkF m 11 #[rv a1, rv a2, iv (0 : Int32)] [(.int (0 : Int32)), (.ref a1)])) rfl rfl (hb hby own_d_jdk_42_method_151_code_11)
  have N4 := Fr.snoc X4 N2 gn_a1
  refine Goes.via (B := T4.setTop (mkF m 14 #[rv a1, rv a2, iv (0 : Int32)] [])) (fun t k => st4 _ k) ?_
  have c5 : Fld Z h4 a1 "java/lang/String" "value" "[B" (.ref a2) := (Fld.other W4 (Fld.same W2 F_2) (Or.inr (slot_ne (Or.inr (own_hw hw 8 rfl)) (Or.inr (own_hw hw 9 rfl)) (by decide) (t := (.array .byte)) (t' := .byte) (by decide) (by decide))))
  exact fin0 (Q := (own_Q3 Z a1 a2 h0 n0)) (F := FrameEnd) (C := ((Rm 1 0 0 12)).cells) (S := ((Rm 1 0 0 12)).slots) X4 hx Bd.returns (hb hby own_d_jdk_42_method_151_code_14) e4 ⟨rfl, N4, (((Keep.refl h0 [a1]).wr W2 (Or.inl (List.mem_of_getElem? (i := 0) rfl))).wr W4 (Or.inl (List.mem_of_getElem? (i := 0) rfl))), (Exa.wr W4 (Exa.wr W2 F_1)), c5, (Fld.same W4 c3)⟩ (lvN X4 hlk (by decide) (by decide))
theorem own_d_jdk_42_method_139_code_0 : decode jdk_42_method_139_code 0 = .ok (.getstatic 38, 3) := by decide +kernel
theorem own_d_jdk_42_method_139_code_3 : decode jdk_42_method_139_code 3 = .ok (.ifCond .eq 23, 3) := by decide +kernel
theorem own_d_jdk_42_method_139_code_6 : decode jdk_42_method_139_code 6 = .ok (.iload_n 0, 1) := by decide +kernel
theorem own_d_jdk_42_method_139_code_7 : decode jdk_42_method_139_code 7 = .ok (.invokestatic 1015, 3) := by decide +kernel
theorem own_pd0 : parseMethodDescriptor "(C)Z" = some ⟨[.char], some .boolean⟩ := by decide +kernel
theorem own_d_jdk_42_method_139_code_10 : decode jdk_42_method_139_code 10 = .ok (.ifCond .eq 16, 3) := by decide +kernel
theorem own_d_jdk_42_method_139_code_13 : decode jdk_42_method_139_code 13 = .ok (.new 10, 3) := by decide +kernel
theorem own_d_jdk_42_method_139_code_16 : decode jdk_42_method_139_code 16 = .ok (.dup, 1) := by decide +kernel
theorem own_d_jdk_42_method_139_code_17 : decode jdk_42_method_139_code 17 = .ok (.iload_n 0, 1) := by decide +kernel
theorem own_d_jdk_42_method_139_code_18 : decode jdk_42_method_139_code 18 = .ok (.invokestatic 1018, 3) := by decide +kernel
theorem own_pd1 : parseMethodDescriptor "(C)[B" = some ⟨[.char], some (.array .byte)⟩ := by decide +kernel
theorem own_d_jdk_42_method_139_code_21 : decode jdk_42_method_139_code 21 = .ok (.iconst 0, 1) := by decide +kernel
theorem own_d_jdk_42_method_139_code_22 : decode jdk_42_method_139_code 22 = .ok (.invokespecial 209, 3) := by decide +kernel
theorem own_pd2 : parseMethodDescriptor "([BB)V" = some ⟨[(.array .byte), .byte], none⟩ := by decide +kernel
theorem own_d_jdk_42_method_139_code_25 : decode jdk_42_method_139_code 25 = .ok (.areturn, 1) := by decide +kernel
theorem own_ef4 (m : MethodId) (x0 : Int32)  : entryFrame m #[(.int x0)] 1 = mkF m 0 #[iv x0] [] := by first | (simp [entryFrame, mkF, argsToLocals, Value.category]; done) | rfl
abbrev own_Q4 (Z : State) (x1 : Int32) (z0 : Int32) (h0 : Heap) (n0 : Nat) (v : Option Value) (h : Heap) (L : List Loc) : Prop := ∃ ba : Addr, ∃ ta : Addr, ∃ kt : ClassId, v = some (.ref ba) ∧ Fr n0 L ∧ Keep h0 h [] ∧ h0.size ≤ ba ∧ h0.size ≤ ta ∧ Exa Z h ba "java/lang/String" ∧ Fld Z h ba "java/lang/String" "value" "[B" (.ref ta) ∧ Fld Z h ba "java/lang/String" "coder" "B" (.int (0 : Int32)) ∧ Arv Z h ta kt .byte (1 : Int32) [(.int x1.toInt8.toInt32)] (.int (0 : Int32))
set_option maxRecDepth 65536 in
set_option maxHeartbeats 40000000 in
theorem own_m4 (l : Launch) (Z : State) (a0 : Array Value) (hw : ∀ d ∈ tables_1, d.before a0 Z = true) (ws : List Jvm.Cond) (x1 : Int32) (z0 : Int32) (h0 : Heap) (n0 : Nat) (O0 : Old Z n0 h0) (hz0 : ¬ z0 = (0 : Int32)) (hn1 : ¬ x1 < (0 : Int32) ∧ ¬ (255 : Int32) < x1) (O_1 : Sta Z Z.heap "java/lang/String" "COMPACT_STRINGS" "Z" (.int z0)) :
    Ctr l Z (⟨"java/lang/String", "valueOf", "(C)Ljava/lang/String;"⟩ : MethodName) jdk_42_method_139_code 1 (some (.object "java/lang/String")) (Rm 2 2 5 27) #[(.int x1)] h0 (own_Q4 Z x1 z0 h0 n0) ws := by
  refine MetFree.of_bodySF (plainFor_of_name own_pn1) hisR ?_
  intro p e s m args below meth c s₁ Bd hml0 hP hK
  obtain ⟨rfl, hZ, hh⟩ := hP
  have hx := Bd.exec
  have hby := Bd.bytes
  have hlk : meth.locks = false := Bd.notSynchronized
  have hml : c.maxLocals = 1 := hml0
  have hown : s.vm.findClass "java/lang/String" = some m.cls := findClass_of_methodNamed Bd.named
  have hnm := (name_of_methodNamed Bd.named Bd.method).1
  have X0 : Stand p l e (Rm 2 2 5 27) s m #[(.int x1)] below meth c s₁ [] 0 0 := Stand.of_body Bd
  have e0 : s₁.heap = h0 := by rw [← hh, Bd.state]; rfl
  have N0 := Fr.nil n0
  show Goes p.tables e below (fun t o => ∃ v L, o = .returned v ∧ (own_Q4 Z x1 z0 h0 n0) v t.heap L ∧ FrameEnd s o t L ((Rm 2 2 5 27)).cells ((Rm 2 2 5 27)).slots) _
  refine Goes.via (B := s₁.setTop (mkF m 0 #[iv x1] [])) (fun t k => castTop (own_ef4 m x1) k) ?_
  obtain ⟨T1, X1, e1, st1⟩ := getS2 X0 hx hZ hown (host := "") (Or.inl (own_hw hw 61 rfl)) Via.refl e0 (Sta.ext O0.2 O_1) (g := (mkF m 0 #[iv x1] [])) rfl (hb hby own_d_jdk_42_method_139_code_0)
  refine Goes.via (B := T1.setTop (mkF m 3 #[iv x1] [(.int z0)])) (fun t k => st1 _ k) ?_
  refine Goes.via (B := T1.setTop (mkF m 6 _ [])) (fun t k => XS.ifNo X1.here hx rfl (hb hby own_d_jdk_42_method_139_code_3) rfl (XT.i0_eq_f hz0) k) ?_
  refine Goes.via (B := T1.setTop (mkF m 7 _ [(.int x1)])) (fun t k => XS.iloadN X1.here hx rfl (hb hby own_d_jdk_42_method_139_code_6) rfl k) ?_
  obtain ⟨_, T2, L2, X2, ⟨rfl, M2, K2⟩, st2⟩ := callStatic X1 hx hZ hown (own_hw hw 81 rfl) (own_hw hw 82 rfl) (own_hw hw 65 rfl) (own_hw hw 83 rfl) (by decide) (argsL := [(.int x1)]) (rest := []) (own_m1 l Z a0 hw [] x1 h0 n0 O0 hn1) e1 (lenOf own_pd0 rfl) (pc := 7) (Ls := #[iv x1]) (st := [(.int x1)]) rfl (by rw [hml]; rfl) (hb hby own_d_jdk_42_method_139_code_7) (W := 0) (Nat.le_of_eq rfl) (by decide) (by decide) (by decide) (by decide)
  have N2 := Fr.app N0 M2
  refine Goes.via (B := T2.setTop (mkF m 10 #[iv x1] [(.int (1 : Int32))])) (fun t k => st2 _ k) ?_
  refine Goes.via (B := T2.setTop (mkF m 13 _ [])) (fun t k => XS.ifNo X2.here hx rfl (hb hby own_d_jdk_42_method_139_code_10) rfl (XT.i0_eq_f (by decide)) k) ?_
  obtain ⟨T3, h3, X3, e3, E3, A3, D3, U3, st3⟩ := newO X2 hx hZ hown (own_hw hw 84 rfl) (own_hw hw 6 rfl) (own_hw hw 5 rfl) K2 (g := (mkF m 13 #[iv x1] [])) rfl (hb hby own_d_jdk_42_method_139_code_13) (by decide) (by decide)
  obtain ⟨b3, g3⟩ : ∃ z, z = h0.size := ⟨_, rfl⟩
  rw [← g3] at A3 D3 U3 st3
  have gn3 : n0 ≤ b3 := Nat.le_trans (old_le O0) (Nat.le_of_eq g3.symm)
  have gs3 : h0.size ≤ b3 := Nat.le_trans (Keep.refl h0 []).1 (Nat.le_of_eq g3.symm)
  have F3_value : Fld Z h3 b3 "java/lang/String" "value" "[B" .null := D3 (Or.inr (own_hw hw 8 rfl)) (ty := (.array .byte)) (by decide)
  have F3_coder : Fld Z h3 b3 "java/lang/String" "coder" "B" (.int (0 : Int32)) := D3 (Or.inr (own_hw hw 9 rfl)) (ty := .byte) (by decide)
  refine Goes.via (B := T3.setTop (mkF m 16 #[iv x1] [(.ref b3)])) (fun t k => st3 _ k) ?_
  refine Goes.via (B := T3.setTop (mkF m 17 _ [(.ref b3), (.ref b3)])) (fun t k => XS.dup X3.here hx rfl (hb hby own_d_jdk_42_method_139_code_16) rfl rfl k) ?_
  refine Goes.via (B := T3.setTop (mkF m 18 _ [(.int x1), (.ref b3), (.ref b3)])) (fun t k => XS.iloadN X3.here hx rfl (hb hby own_d_jdk_42_method_139_code_17) rfl k) ?_
  obtain ⟨_, T4, L4, X4, ⟨ta4, kt4, rfl, M4, K4, z4_0, f4_0⟩, st4⟩ := callStatic X3 hx hZ hown (own_hw hw 85 rfl) (own_hw hw 86 rfl) (own_hw hw 65 rfl) (own_hw hw 87 rfl) (by decide) (argsL := [(.int x1)]) (rest := [(.ref b3), (.ref b3)]) (own_m2 l Z a0 hw [] x1 h3 n0 (O0.ext E3) ) e3 (lenOf own_pd1 rfl) (pc := 18) (Ls := #[iv x1]) (st := [(.int x1), (.ref b3), (.ref b3)]) rfl (by rw [hml]; rfl) (hb hby own_d_jdk_42_method_139_code_18) (W := 2) (Nat.le_of_eq rfl) (by decide) (by decide) (by decide) (by decide)
  have N4 := Fr.app N2 M4
  have gn4_0 : n0 ≤ ta4 := Nat.le_trans (old_le (O0.ext E3)) z4_0
  have gs4_0 : h0.size ≤ ta4 := Nat.le_trans ((Keep.refl h0 []).ext E3).1 z4_0
  refine Goes.via (B := T4.setTop (mkF m 21 #[iv x1] [(.ref ta4), (.ref b3), (.ref b3)])) (fun t k => st4 _ k) ?_
  refine Goes.via (B := T4.setTop (mkF m 22 _ [(.int (0 : Int32)), (.ref ta4), (.ref b3), (.ref b3)])) (fun t k => XS.iconst X4.here hx rfl (hb hby own_d_jdk_42_method_139_code_21) k) ?_
  obtain ⟨_, T5, L5, X5, ⟨rfl, M5, K5, f5_0, f5_1, f5_2⟩, st5⟩ := callInit X4 hx hZ rfl hown (own_hw hw 88 rfl) (own_hw hw 89 rfl) (own_hw hw 5 rfl) (own_hw hw 91 rfl) (by decide) (argsL := [(.ref ta4), (.int (0 : Int32))]) (rest := [(.ref b3)]) (own_m3 l Z a0 hw [] b3 ta4 T4.heap n0 ((O0.ext E3).keep K4 all0) gn3 (A3.keep K4) (F3_value.keep K4 nin0) (F3_coder.keep K4 nin0)) rfl (lenOf own_pd2 rfl) (pc := 22) (Ls := #[iv x1]) (st := [(.int (0 : Int32)), (.ref ta4), (.ref b3), (.ref b3)]) rfl (by rw [hml]; rfl) (hb hby own_d_jdk_42_method_139_code_22) (W := 1) (Nat.le_of_eq rfl) (by decide) (by decide) (by decide) (by decide)
  have N5 := Fr.app N4 M5
  refine Goes.via (B := T5.setTop (mkF m 25 #[iv x1] [(.ref b3)])) (fun t k => st5 _ k) ?_
  have c6 : Arv Z T5.heap ta4 kt4 .byte (1 : Int32) [(.int x1.toInt8.toInt32)] (.int (0 : Int32)) := (f4_0.keep K5 (ninS (Ne.symm (Nat.ne_of_lt (Nat.lt_of_lt_of_le A3.lt z4_0))) nin0))
  exact finA (Q := (own_Q4 Z x1 z0 h0 n0)) (F := FrameEnd) (C := ((Rm 2 2 5 27)).cells) (S := ((Rm 2 2 5 27)).slots) X5 hx Bd.returns rfl rfl rfl (hb hby own_d_jdk_42_method_139_code_25) rfl ⟨b3, ta4, kt4, rfl, N5, ((((Keep.refl h0 []).ext E3).trans K4 all0).trans K5 (allS (Or.inr gs3) all0)), gs3, gs4_0, f5_0, f5_1, f5_2, c6⟩ (lvN X5 hlk (by decide) (by decide))
theorem own_pn2 : plainName "com/example/keelson/keelson/cluster/BallotCompareToPinLaw" = true := by first | (simp [plainName, overriddenIn]; done) | decide +kernel
theorem own_d_method_3_code_0 : decode method_3_code 0 = .ok (.iload_n 0, 1) := by decide +kernel
theorem own_d_method_3_code_1 : decode method_3_code 1 = .ok (.ifCond .ne 6, 3) := by decide +kernel
theorem own_d_method_3_code_4 : decode method_3_code 4 = .ok (.ldc 7, 2) := by decide +kernel
theorem own_wS {a0 : Array Value} {Z : State} (hw : ∀ d ∈ tables_1, d.before a0 Z = true) : ∀ a ∈ Bundle.stringAtoms, a.before a0 Z = true := by
  intro d hd
  simp only [Bundle.stringAtoms, List.mem_cons, List.not_mem_nil, or_false] at hd
  rcases hd with rfl | rfl | rfl | rfl | rfl | rfl | rfl
  all_goals first | exact (own_hw hw 5 rfl) | exact (own_hw hw 6 rfl) | exact (own_hw hw 7 rfl) | exact (own_hw hw 8 rfl) | exact (own_hw hw 9 rfl) | exact (own_hw hw 10 rfl) | exact (own_hw hw 11 rfl)
theorem own_d_method_3_code_6 : decode method_3_code 6 = .ok (.areturn, 1) := by decide +kernel
theorem own_ef5 (m : MethodId) (x0 : Int32) (x1 : Int32) (x2 : Int32)  : entryFrame m #[(.int x0), (.int x1), (.int x2)] 4 = mkF m 0 #[iv x0, iv x1, iv x2, u_] [] := by first | (simp [entryFrame, mkF, argsToLocals, Value.category]; done) | rfl
abbrev own_Q5 (Z : State) (x1 : Int32) (x2 : Int32) (z0 : Int32) (h0 : Heap) (n0 : Nat) (v : Option Value) (h : Heap) (L : List Loc) : Prop := ∃ bs : Addr, ∃ ts : Addr, ∃ ks : ClassId, v = some (.ref bs) ∧ Fr n0 L ∧ Keep h0 h [] ∧ Exa Z h bs "java/lang/String" ∧ Fld Z h bs "java/lang/String" "value" "[B" (.ref ts) ∧ Fld Z h bs "java/lang/String" "coder" "B" (.int (0 : Int32)) ∧ Arv Z h ts ks .byte (0 : Int32) [] (.int (0 : Int32))
set_option maxRecDepth 65536 in
set_option maxHeartbeats 40000000 in
theorem own_m5 (l : Launch) (Z : State) (a0 : Array Value) (hw : ∀ d ∈ tables_1, d.before a0 Z = true) (ws : List Jvm.Cond) (x1 : Int32) (x2 : Int32) (z0 : Int32) (h0 : Heap) (n0 : Nat) (O0 : Old Z n0 h0) (hz0 : ¬ z0 = (0 : Int32)) (hr1 : ¬ x1 < (0 : Int32) ∧ ¬ (255 : Int32) < x1) (hr2 : ¬ x2 < (0 : Int32) ∧ ¬ (255 : Int32) < x2) (O_1 : Sta Z Z.heap "java/lang/String" "COMPACT_STRINGS" "Z" (.int z0)) :
    CtrH l Z consts_1 [] (⟨"com/example/keelson/keelson/cluster/BallotCompareToPinLaw", "make", "(ICC)Ljava/lang/String;"⟩ : MethodName) method_3_code 4 (some (.object "java/lang/String")) (Rm 0 2 4 0) #[(.int (0 : Int32)), (.int x1), (.int x2)] h0 (own_Q5 Z x1 x2 z0 h0 n0) ws := by
  refine MetFree.of_bodySF (plainFor_of_name own_pn2) hisR ?_
  intro p e s m args below meth c s₁ Bd hml0 hP hK
  obtain ⟨rfl, hZ, hh, hC, hsf⟩ := hP
  have hx := Bd.exec
  have hby := Bd.bytes
  have hlk : meth.locks = false := Bd.notSynchronized
  have hml : c.maxLocals = 4 := hml0
  have hown : s.vm.findClass "com/example/keelson/keelson/cluster/BallotCompareToPinLaw" = some m.cls := findClass_of_methodNamed Bd.named
  have hnm := (name_of_methodNamed Bd.named Bd.method).1
  have X0 : Stand p l e (Rm 0 2 4 0) (s.setVm s.vm) m #[(.int (0 : Int32)), (.int x1), (.int x2)] below meth c s₁ [] 0 0 := Stand.of_body Bd
  have hS0 : s.Since s.vm h0.size := (State.WarmedH.refl s).since _
  have hk0 : h0.size ≤ h0.size := Nat.le_refl _
  have hR0 : CHr Z consts_1 s.vm s.heap s.vm h0 := by rw [hh]; exact CHr.refl hC
  have hEL := own_EW hw
  have e0 : s₁.heap = h0 := by rw [← hh, Bd.state]; rfl
  have N0 := Fr.nil n0
  show Goes p.tables e below (fun t o => ∃ v L, o = .returned v ∧ (own_Q5 Z x1 x2 z0 h0 n0) v t.heap L ∧ EndH Z consts_1 s o t L ((Rm 0 2 4 0)).cells ((Rm 0 2 4 0)).slots) _
  refine Goes.via (B := s₁.setTop (mkF m 0 #[iv (0 : Int32), iv x1, iv x2, u_] [])) (fun t k => castTop (own_ef5 m (0 : Int32) x1 x2) k) ?_
  refine Goes.via (B := s₁.setTop (mkF m 1 _ [(.int (0 : Int32))])) (fun t k => XS.iloadN X0.here hx rfl (hb hby own_d_method_3_code_0) rfl k) ?_
  refine Goes.via (B := s₁.setTop (mkF m 4 _ [])) (fun t k => XS.ifNo X0.here hx rfl (hb hby own_d_method_3_code_1) rfl (XT.i0_ne_f rfl) k) ?_
  obtain ⟨b1, T1, h1, k1, v1, kb1, X1, e1, E1, hS1, hk1, hZ1, hown1, A1, C1, F1, V1, la1, lb1, hC1, -, ns1, st1⟩ := ldcCH X0 hx hZ hown (own_hw hw 4 rfl) (own_wS hw) e0 hS0 hk0 hEL (List.mem_of_getElem? (i := 1) rfl) hR0.1 (vs := []) (z := (0 : Int32)) ⟨by decide, by decide⟩ (by decide) (by decide) (g := (mkF m 4 #[iv (0 : Int32), iv x1, iv x2, u_] [])) rfl (hb hby own_d_method_3_code_4) (n := 0) (by decide) (by decide) (by decide) (by decide)
  have hq2 := hC1
  have hR2 := CHr.trans hR0 hq2
  refine Goes.via (B := T1.setTop (mkF m 6 #[iv (0 : Int32), iv x1, iv x2, u_] [(.ref b1)])) (fun t k => st1 _ k) ?_
  exact finA (Q := (own_Q5 Z x1 x2 z0 h0 n0)) (F := EndH Z consts_1) (C := ((Rm 0 2 4 0)).cells) (S := ((Rm 0 2 4 0)).slots) X1 hx Bd.returns rfl rfl rfl (hb hby own_d_method_3_code_6) e1 ⟨b1, v1, kb1, rfl, N0, ((Keep.refl h0 []).ext E1), A1, F1, C1, V1⟩ (lvH X1 hlk hS1 e1 hk1 hZ1 hEL hR2 (by decide) (by decide))
theorem own_d_method_3_code_7 : decode method_3_code 7 = .ok (.iload_n 0, 1) := by decide +kernel
theorem own_d_method_3_code_8 : decode method_3_code 8 = .ok (.iconst 1, 1) := by decide +kernel
theorem own_d_method_3_code_9 : decode method_3_code 9 = .ok (.if_icmp .ne 8, 3) := by decide +kernel
theorem own_d_method_3_code_12 : decode method_3_code 12 = .ok (.iload_n 1, 1) := by decide +kernel
theorem own_d_method_3_code_13 : decode method_3_code 13 = .ok (.invokestatic 9, 3) := by decide +kernel
theorem own_pd3 : parseMethodDescriptor "(C)Ljava/lang/String;" = some ⟨[.char], some (.object "java/lang/String")⟩ := by decide +kernel
theorem own_d_method_3_code_16 : decode method_3_code 16 = .ok (.areturn, 1) := by decide +kernel
theorem own_ef6 (m : MethodId) (x0 : Int32) (x1 : Int32) (x2 : Int32)  : entryFrame m #[(.int x0), (.int x1), (.int x2)] 4 = mkF m 0 #[iv x0, iv x1, iv x2, u_] [] := by first | (simp [entryFrame, mkF, argsToLocals, Value.category]; done) | rfl
abbrev own_Q6 (Z : State) (x1 : Int32) (x2 : Int32) (z0 : Int32) (h0 : Heap) (n0 : Nat) (v : Option Value) (h : Heap) (L : List Loc) : Prop := ∃ bs : Addr, ∃ ts : Addr, ∃ ks : ClassId, v = some (.ref bs) ∧ Fr n0 L ∧ Keep h0 h [] ∧ Exa Z h bs "java/lang/String" ∧ Fld Z h bs "java/lang/String" "value" "[B" (.ref ts) ∧ Fld Z h bs "java/lang/String" "coder" "B" (.int (0 : Int32)) ∧ Arv Z h ts ks .byte (1 : Int32) [(.int x1.toInt8.toInt32)] (.int (0 : Int32))
set_option maxRecDepth 65536 in
set_option maxHeartbeats 40000000 in
theorem own_m6 (l : Launch) (Z : State) (a0 : Array Value) (hw : ∀ d ∈ tables_1, d.before a0 Z = true) (ws : List Jvm.Cond) (x1 : Int32) (x2 : Int32) (z0 : Int32) (h0 : Heap) (n0 : Nat) (O0 : Old Z n0 h0) (hz0 : ¬ z0 = (0 : Int32)) (hr1 : ¬ x1 < (0 : Int32) ∧ ¬ (255 : Int32) < x1) (hr2 : ¬ x2 < (0 : Int32) ∧ ¬ (255 : Int32) < x2) (O_1 : Sta Z Z.heap "java/lang/String" "COMPACT_STRINGS" "Z" (.int z0)) :
    CtrH l Z consts_1 [] (⟨"com/example/keelson/keelson/cluster/BallotCompareToPinLaw", "make", "(ICC)Ljava/lang/String;"⟩ : MethodName) method_3_code 4 (some (.object "java/lang/String")) (Rm 3 2 5 39) #[(.int (1 : Int32)), (.int x1), (.int x2)] h0 (own_Q6 Z x1 x2 z0 h0 n0) ws := by
  refine MetFree.of_bodySF (plainFor_of_name own_pn2) hisR ?_
  intro p e s m args below meth c s₁ Bd hml0 hP hK
  obtain ⟨rfl, hZ, hh, hC, hsf⟩ := hP
  have hx := Bd.exec
  have hby := Bd.bytes
  have hlk : meth.locks = false := Bd.notSynchronized
  have hml : c.maxLocals = 4 := hml0
  have hown : s.vm.findClass "com/example/keelson/keelson/cluster/BallotCompareToPinLaw" = some m.cls := findClass_of_methodNamed Bd.named
  have hnm := (name_of_methodNamed Bd.named Bd.method).1
  have X0 : Stand p l e (Rm 3 2 5 39) (s.setVm s.vm) m #[(.int (1 : Int32)), (.int x1), (.int x2)] below meth c s₁ [] 0 0 := Stand.of_body Bd
  have hS0 : s.Since s.vm h0.size := (State.WarmedH.refl s).since _
  have hk0 : h0.size ≤ h0.size := Nat.le_refl _
  have hR0 : CHr Z consts_1 s.vm s.heap s.vm h0 := by rw [hh]; exact CHr.refl hC
  have hEL := own_EW hw
  have e0 : s₁.heap = h0 := by rw [← hh, Bd.state]; rfl
  have N0 := Fr.nil n0
  show Goes p.tables e below (fun t o => ∃ v L, o = .returned v ∧ (own_Q6 Z x1 x2 z0 h0 n0) v t.heap L ∧ EndH Z consts_1 s o t L ((Rm 3 2 5 39)).cells ((Rm 3 2 5 39)).slots) _
  refine Goes.via (B := s₁.setTop (mkF m 0 #[iv (1 : Int32), iv x1, iv x2, u_] [])) (fun t k => castTop (own_ef6 m (1 : Int32) x1 x2) k) ?_
  refine Goes.via (B := s₁.setTop (mkF m 1 _ [(.int (1 : Int32))])) (fun t k => XS.iloadN X0.here hx rfl (hb hby own_d_method_3_code_0) rfl k) ?_
  refine Goes.via (B := s₁.setTop (mkF m 7 _ [])) (fun t k => XS.ifYes X0.here hx rfl (pc0 := 1) (pc' := 7) rfl (hb hby own_d_method_3_code_1) rfl (XT.i0_ne_t (by decide)) (by decide) (by decide) k) ?_
  refine Goes.via (B := s₁.setTop (mkF m 8 _ [(.int (1 : Int32))])) (fun t k => XS.iloadN X0.here hx rfl (hb hby own_d_method_3_code_7) rfl k) ?_
  refine Goes.via (B := s₁.setTop (mkF m 9 _ [(.int (1 : Int32)), (.int (1 : Int32))])) (fun t k => XS.iconst X0.here hx rfl (hb hby own_d_method_3_code_8) k) ?_
  refine Goes.via (B := s₁.setTop (mkF m 12 _ [])) (fun t k => XS.icmpNo X0.here hx rfl (hb hby own_d_method_3_code_9) rfl (XT.ii_ne_f rfl) k) ?_
  refine Goes.via (B := s₁.setTop (mkF m 13 _ [(.int x1)])) (fun t k => XS.iloadN X0.here hx rfl (hb hby own_d_method_3_code_12) rfl k) ?_
  obtain ⟨_, T1, L1, X1, ⟨ba1, ta1, kt1, rfl, M1, K1, z1_0, z1_1, f1_0, f1_1, f1_2, f1_3⟩, st1⟩ := callStatic X0 hx hZ hown (own_hw hw 78 rfl) (own_hw hw 79 rfl) (own_hw hw 5 rfl) (own_hw hw 80 rfl) (by decide) (argsL := [(.int x1)]) (rest := []) (own_m4 l Z a0 hw [] x1 z0 h0 n0 O0 hz0 hr1 O_1) e0 (lenOf own_pd3 rfl) (pc := 13) (Ls := #[iv (1 : Int32), iv x1, iv x2, u_]) (st := [(.int x1)]) rfl (by rw [hml]; rfl) (hb hby own_d_method_3_code_13) (W := 0) (Nat.le_of_eq rfl) (by decide) (by decide) (by decide) (by decide)
  have N1 := Fr.app N0 M1
  have gn1_0 : n0 ≤ ba1 := Nat.le_trans (old_le O0) z1_0
  have gs1_0 : h0.size ≤ ba1 := Nat.le_trans (Keep.refl h0 []).1 z1_0
  have gn1_1 : n0 ≤ ta1 := Nat.le_trans (old_le O0) z1_1
  have gs1_1 : h0.size ≤ ta1 := Nat.le_trans (Keep.refl h0 []).1 z1_1
  have hq2 := CHr.keep K1 sf0 hR0.1
  have hR2 := CHr.trans hR0 hq2
  refine Goes.via (B := T1.setTop (mkF m 16 #[iv (1 : Int32), iv x1, iv x2, u_] [(.ref ba1)])) (fun t k => st1 _ k) ?_
  exact finA (Q := (own_Q6 Z x1 x2 z0 h0 n0)) (F := EndH Z consts_1) (C := ((Rm 3 2 5 39)).cells) (S := ((Rm 3 2 5 39)).slots) X1 hx Bd.returns rfl rfl rfl (hb hby own_d_method_3_code_16) rfl ⟨ba1, ta1, kt1, rfl, N1, ((Keep.refl h0 []).trans K1 all0), f1_0, f1_1, f1_2, f1_3⟩ (lvH X1 hlk hS0 rfl (Nat.le_trans hk0 K1.1) hZ hEL hR2 (by decide) (by decide))
theorem own_d_method_3_code_17 : decode method_3_code 17 = .ok (.iconst 2, 1) := by decide +kernel
theorem own_d_method_3_code_18 : decode method_3_code 18 = .ok (.newarray .char, 2) := by decide +kernel
theorem own_d_method_3_code_20 : decode method_3_code 20 = .ok (.astore_n 3, 1) := by decide +kernel
theorem own_d_method_3_code_21 : decode method_3_code 21 = .ok (.aload_n 3, 1) := by decide +kernel
theorem own_d_method_3_code_22 : decode method_3_code 22 = .ok (.iconst 0, 1) := by decide +kernel
theorem own_d_method_3_code_23 : decode method_3_code 23 = .ok (.iload_n 1, 1) := by decide +kernel
theorem own_d_method_3_code_24 : decode method_3_code 24 = .ok (.castore, 1) := by decide +kernel
theorem own_d_method_3_code_25 : decode method_3_code 25 = .ok (.aload_n 3, 1) := by decide +kernel
theorem own_d_method_3_code_26 : decode method_3_code 26 = .ok (.iconst 1, 1) := by decide +kernel
theorem own_d_method_3_code_27 : decode method_3_code 27 = .ok (.iload_n 2, 1) := by decide +kernel
theorem own_d_method_3_code_28 : decode method_3_code 28 = .ok (.castore, 1) := by decide +kernel
theorem own_d_method_3_code_29 : decode method_3_code 29 = .ok (.new 10, 3) := by decide +kernel
theorem own_d_method_3_code_32 : decode method_3_code 32 = .ok (.dup, 1) := by decide +kernel
theorem own_d_method_3_code_33 : decode method_3_code 33 = .ok (.aload_n 3, 1) := by decide +kernel
theorem own_d_method_3_code_34 : decode method_3_code 34 = .ok (.invokespecial 15, 3) := by decide +kernel
theorem own_hw_words {a0 : Array Value} {Z : State} (hw : ∀ d ∈ tables_1, d.before a0 Z = true) : ∀ d ∈ StrChars.Road.words, d.before a0 Z = true := fun d hd => hw d ((by decide +kernel : ∀ d ∈ StrChars.Road.words, d ∈ tables_1) d hd)
theorem own_pd4 : parseMethodDescriptor "([C)V" = some ⟨[(.array .char)], none⟩ := by decide +kernel
theorem own_d_method_3_code_37 : decode method_3_code 37 = .ok (.areturn, 1) := by decide +kernel
theorem own_ef7 (m : MethodId) (x0 : Int32) (x1 : Int32) (x2 : Int32)  : entryFrame m #[(.int x0), (.int x1), (.int x2)] 4 = mkF m 0 #[iv x0, iv x1, iv x2, u_] [] := by first | (simp [entryFrame, mkF, argsToLocals, Value.category]; done) | rfl
abbrev own_Q7 (Z : State) (x1 : Int32) (x2 : Int32) (z0 : Int32) (h0 : Heap) (n0 : Nat) (v : Option Value) (h : Heap) (L : List Loc) : Prop := ∃ bs : Addr, ∃ ts : Addr, ∃ ks : ClassId, v = some (.ref bs) ∧ Fr n0 L ∧ Keep h0 h [] ∧ Exa Z h bs "java/lang/String" ∧ Fld Z h bs "java/lang/String" "value" "[B" (.ref ts) ∧ Fld Z h bs "java/lang/String" "coder" "B" (.int (0 : Int32)) ∧ Arv Z h ts ks .byte (2 : Int32) [(.int x1.toInt8.toInt32), (.int x2.toInt8.toInt32)] (.int (0 : Int32))
set_option maxRecDepth 65536 in
set_option maxHeartbeats 40000000 in
theorem own_m7 (l : Launch) (Z : State) (a0 : Array Value) (hw : ∀ d ∈ tables_1, d.before a0 Z = true) (ws : List Jvm.Cond) (x1 : Int32) (x2 : Int32) (z0 : Int32) (h0 : Heap) (n0 : Nat) (O0 : Old Z n0 h0) (hz0 : ¬ z0 = (0 : Int32)) (hr1 : ¬ x1 < (0 : Int32) ∧ ¬ (255 : Int32) < x1) (hr2 : ¬ x2 < (0 : Int32) ∧ ¬ (255 : Int32) < x2) (O_1 : Sta Z Z.heap "java/lang/String" "COMPACT_STRINGS" "Z" (.int z0)) :
    CtrH l Z consts_1 [] (⟨"com/example/keelson/keelson/cluster/BallotCompareToPinLaw", "make", "(ICC)Ljava/lang/String;"⟩ : MethodName) method_3_code 4 (some (.object "java/lang/String")) (Rm 4 3 8 66) #[(.int (2 : Int32)), (.int x1), (.int x2)] h0 (own_Q7 Z x1 x2 z0 h0 n0) ws := by
  refine MetFree.of_bodySF (plainFor_of_name own_pn2) hisR ?_
  intro p e s m args below meth c s₁ Bd hml0 hP hK
  obtain ⟨rfl, hZ, hh, hC, hsf⟩ := hP
  have hx := Bd.exec
  have hby := Bd.bytes
  have hlk : meth.locks = false := Bd.notSynchronized
  have hml : c.maxLocals = 4 := hml0
  have hown : s.vm.findClass "com/example/keelson/keelson/cluster/BallotCompareToPinLaw" = some m.cls := findClass_of_methodNamed Bd.named
  have hnm := (name_of_methodNamed Bd.named Bd.method).1
  have X0 : Stand p l e (Rm 4 3 8 66) (s.setVm s.vm) m #[(.int (2 : Int32)), (.int x1), (.int x2)] below meth c s₁ [] 0 0 := Stand.of_body Bd
  have hS0 : s.Since s.vm h0.size := (State.WarmedH.refl s).since _
  have hk0 : h0.size ≤ h0.size := Nat.le_refl _
  have hR0 : CHr Z consts_1 s.vm s.heap s.vm h0 := by rw [hh]; exact CHr.refl hC
  have hEL := own_EW hw
  have e0 : s₁.heap = h0 := by rw [← hh, Bd.state]; rfl
  have N0 := Fr.nil n0
  show Goes p.tables e below (fun t o => ∃ v L, o = .returned v ∧ (own_Q7 Z x1 x2 z0 h0 n0) v t.heap L ∧ EndH Z consts_1 s o t L ((Rm 4 3 8 66)).cells ((Rm 4 3 8 66)).slots) _
  refine Goes.via (B := s₁.setTop (mkF m 0 #[iv (2 : Int32), iv x1, iv x2, u_] [])) (fun t k => castTop (own_ef7 m (2 : Int32) x1 x2) k) ?_
  refine Goes.via (B := s₁.setTop (mkF m 1 _ [(.int (2 : Int32))])) (fun t k => XS.iloadN X0.here hx rfl (hb hby own_d_method_3_code_0) rfl k) ?_
  refine Goes.via (B := s₁.setTop (mkF m 7 _ [])) (fun t k => XS.ifYes X0.here hx rfl (pc0 := 1) (pc' := 7) rfl (hb hby own_d_method_3_code_1) rfl (XT.i0_ne_t (by decide)) (by decide) (by decide) k) ?_
  refine Goes.via (B := s₁.setTop (mkF m 8 _ [(.int (2 : Int32))])) (fun t k => XS.iloadN X0.here hx rfl (hb hby own_d_method_3_code_7) rfl k) ?_
  refine Goes.via (B := s₁.setTop (mkF m 9 _ [(.int (1 : Int32)), (.int (2 : Int32))])) (fun t k => XS.iconst X0.here hx rfl (hb hby own_d_method_3_code_8) k) ?_
  refine Goes.via (B := s₁.setTop (mkF m 17 _ [])) (fun t k => XS.icmpYes X0.here hx rfl (pc0 := 9) (pc' := 17) rfl (hb hby own_d_method_3_code_9) rfl (XT.ii_ne_t (by decide)) (by decide) (by decide) k) ?_
  refine Goes.via (B := s₁.setTop (mkF m 18 _ [(.int (2 : Int32))])) (fun t k => XS.iconst X0.here hx rfl (hb hby own_d_method_3_code_17) k) ?_
  obtain ⟨T1, h1, k1, X1, e1, E1, A1, st1⟩ := newP X0 hx hZ (own_hw hw 93 rfl) e0 (g := (mkF m 18 #[iv (2 : Int32), iv x1, iv x2, u_] [(.int (2 : Int32))])) rfl (hb hby own_d_method_3_code_18) rfl (by decide) (cap := 2) (by decide) (by decide) (by decide) (by decide)
  obtain ⟨b1, g1⟩ : ∃ z, z = h0.size := ⟨_, rfl⟩
  rw [← g1] at A1 st1
  have gn1 : n0 ≤ b1 := Nat.le_trans (old_le O0) (Nat.le_of_eq g1.symm)
  have gs1 : h0.size ≤ b1 := Nat.le_trans (Keep.refl h0 []).1 (Nat.le_of_eq g1.symm)
  have hq2 := CHr.ext E1 hR0.1
  have hR2 := CHr.trans hR0 hq2
  have sf3 := Safe.ext E1 hR0.1 (Safe.new (Nat.le_of_eq g1.symm))
  have V1 : Arv Z h1 b1 k1 .char (2 : Int32) [(.int (0 : Int32)), (.int (0 : Int32))] (.int (0 : Int32)) := (Arv.new A1 (by decide)).pad (pad_rep [] (.int (0 : Int32)) 2)
  refine Goes.via (B := T1.setTop (mkF m 20 #[iv (2 : Int32), iv x1, iv x2, u_] [(.ref b1)])) (fun t k => st1 _ k) ?_
  refine Goes.via (B := T1.setTop (mkF m 21 _ [])) (fun t k => XS.astoreN X1.here hx rfl (hb hby own_d_method_3_code_20) rfl rfl (l' := #[iv (2 : Int32), iv x1, iv x2, rv b1]) rfl k) ?_
  refine Goes.via (B := T1.setTop (mkF m 22 _ [(.ref b1)])) (fun t k => XS.aloadN X1.here hx rfl (hb hby own_d_method_3_code_21) rfl rfl k) ?_
  refine Goes.via (B := T1.setTop (mkF m 23 _ [(.int (0 : Int32)), (.ref b1)])) (fun t k => XS.iconst X1.here hx rfl (hb hby own_d_method_3_code_22) k) ?_
  refine Goes.via (B := T1.setTop (mkF m 24 _ [(.int x1), (.int (0 : Int32)), (.ref b1)])) (fun t k => XS.iloadN X1.here hx rfl (hb hby own_d_method_3_code_23) rfl k) ?_
  obtain ⟨cl4, Ar4, q4, S4, N4, H4, G4⟩ := id V1
  obtain ⟨T4, h4, X4, e4, W4, st4⟩ := stC X1 hx hZ e1 Ar4 (j := (0 : Int32)) (inb_of S4 ⟨by decide, by decide⟩) (g := (mkF m 24 #[iv (2 : Int32), iv x1, iv x2, rv b1] [(.int x1), (.int (0 : Int32)), (.ref b1)])) rfl rfl (hb hby own_d_method_3_code_24)
  have wn4 : nar .char x1 = x1 := own_i2c hr1
  have fn4 : fits .char (.int x1) = true := by rw [← wn4]; exact fits_nar_char _
  rw [wn4] at W4
  have Nf4 := Fr.snoc X4 N0 gn1
  have hq5 := CHr.wr W4 sf3 hR2.1
  have hR5 := CHr.trans hR2 hq5
  have V4 : Arv Z h4 b1 k1 .char (2 : Int32) [(.int x1), (.int (0 : Int32))] (.int (0 : Int32)) := Arv.set Ar4 q4 S4 N4 H4 G4 fn4 W4 0 rfl (Nat.le_of_ble_eq_true rfl)
  refine Goes.via (B := T4.setTop (mkF m 25 #[iv (2 : Int32), iv x1, iv x2, rv b1] [])) (fun t k => st4 _ k) ?_
  refine Goes.via (B := T4.setTop (mkF m 26 _ [(.ref b1)])) (fun t k => XS.aloadN X4.here hx rfl (hb hby own_d_method_3_code_25) rfl rfl k) ?_
  refine Goes.via (B := T4.setTop (mkF m 27 _ [(.int (1 : Int32)), (.ref b1)])) (fun t k => XS.iconst X4.here hx rfl (hb hby own_d_method_3_code_26) k) ?_
  refine Goes.via (B := T4.setTop (mkF m 28 _ [(.int x2), (.int (1 : Int32)), (.ref b1)])) (fun t k => XS.iloadN X4.here hx rfl (hb hby own_d_method_3_code_27) rfl k) ?_
  obtain ⟨cl6, Ar6, q6, S6, N6, H6, G6⟩ := id V4
  obtain ⟨T6, h6, X6, e6, W6, st6⟩ := stC X4 hx hZ e4 Ar6 (j := (1 : Int32)) (inb_of S6 ⟨by decide, by decide⟩) (g := (mkF m 28 #[iv (2 : Int32), iv x1, iv x2, rv b1] [(.int x2), (.int (1 : Int32)), (.ref b1)])) rfl rfl (hb hby own_d_method_3_code_28)
  have wn6 : nar .char x2 = x2 := own_i2c hr2
  have fn6 : fits .char (.int x2) = true := by rw [← wn6]; exact fits_nar_char _
  rw [wn6] at W6
  have Nf6 := Fr.snoc X6 Nf4 gn1
  have hq7 := CHr.wr W6 (CHr.safe hq5 V1.lt sf3) hR5.1
  have hR7 := CHr.trans hR5 hq7
  have V6 : Arv Z h6 b1 k1 .char (2 : Int32) [(.int x1), (.int x2)] (.int (0 : Int32)) := Arv.set Ar6 q6 S6 N6 H6 G6 fn6 W6 1 rfl (Nat.le_of_ble_eq_true rfl)
  refine Goes.via (B := T6.setTop (mkF m 29 #[iv (2 : Int32), iv x1, iv x2, rv b1] [])) (fun t k => st6 _ k) ?_
  obtain ⟨T8, h8, X8, e8, E8, A8, D8, U8, st8⟩ := newO X6 hx hZ hown (own_hw hw 94 rfl) (own_hw hw 6 rfl) (own_hw hw 5 rfl) e6 (g := (mkF m 29 #[iv (2 : Int32), iv x1, iv x2, rv b1] [])) rfl (hb hby own_d_method_3_code_29) (by decide) (by decide)
  obtain ⟨b8, g8⟩ : ∃ z, z = h6.size := ⟨_, rfl⟩
  rw [← g8] at A8 D8 U8 st8
  have gn8 : n0 ≤ b8 := Nat.le_trans (old_le (((O0.ext E1).wr W4 gn1).wr W6 gn1)) (Nat.le_of_eq g8.symm)
  have gs8 : h0.size ≤ b8 := Nat.le_trans ((((Keep.refl h0 []).ext E1).wr W4 (Or.inr gs1)).wr W6 (Or.inr gs1)).1 (Nat.le_of_eq g8.symm)
  have hq9 := CHr.ext E8 hR7.1
  have hR9 := CHr.trans hR7 hq9
  have sf10 := Safe.ext E8 hR7.1 (Safe.new (Nat.le_of_eq g8.symm))
  have F8_value : Fld Z h8 b8 "java/lang/String" "value" "[B" .null := D8 (Or.inr (own_hw hw 8 rfl)) (ty := (.array .byte)) (by decide)
  have F8_coder : Fld Z h8 b8 "java/lang/String" "coder" "B" (.int (0 : Int32)) := D8 (Or.inr (own_hw hw 9 rfl)) (ty := .byte) (by decide)
  refine Goes.via (B := T8.setTop (mkF m 32 #[iv (2 : Int32), iv x1, iv x2, rv b1] [(.ref b8)])) (fun t k => st8 _ k) ?_
  refine Goes.via (B := T8.setTop (mkF m 33 _ [(.ref b8), (.ref b8)])) (fun t k => XS.dup X8.here hx rfl (hb hby own_d_method_3_code_32) rfl rfl k) ?_
  refine Goes.via (B := T8.setTop (mkF m 34 _ [(.ref b1), (.ref b8), (.ref b8)])) (fun t k => XS.aloadN X8.here hx rfl (hb hby own_d_method_3_code_33) rfl rfl k) ?_
  have hpc : ∀ c ∈ ([x1, x2] : List Int32), ¬ c < 0 ∧ ¬ (255 : Int32) < c := by
    intro c hc
    simp only [List.mem_cons, List.not_mem_nil, or_false] at hc
    rcases hc with rfl | rfl
    · exact hr1
    · exact hr2
  obtain ⟨_, T11, L11, X11, ⟨rfl, M11, K11, E11, C11, t11, kb11, gn11, gs11, nx11, F11, V11⟩, st11⟩ := callInitB X8 hx hZ rfl hown (own_hw hw 95 rfl) (own_hw hw 96 rfl) (own_hw hw 97 rfl) (by decide) (argsL := [(.ref b1)]) (rest := [(.ref b8)]) (W := 1) (StrChars.Road.backV (W := 1) hZ (own_hw_words hw) (kI := 4) (own_hw hw 6 rfl) (x := b8) (b := b1) (cs := ([x1, x2] : List Int32)) (bs := ([x1, x2] : List Int32).map (fun c => c.toInt8.toInt32)) (n := 2) gn8 (old_le ((((O0.ext E1).wr W4 gn1).wr W6 gn1).ext E8)) A8 F8_value F8_coder (V6.ext E8) (Sta.ext ((((O0.ext E1).wr W4 gn1).wr W6 gn1).ext E8).2 O_1) hz0 rfl rfl (by decide) (by decide) hpc rfl (by decide) (by decide)) e8 (lenOf own_pd4 rfl) (pc := 34) (Ls := #[iv (2 : Int32), iv x1, iv x2, rv b1]) (st := [(.ref b1), (.ref b8), (.ref b8)]) rfl (by rw [hml]; rfl) (hb hby own_d_method_3_code_34) (Nat.le_of_eq rfl) (by decide) (by decide)
  have hq12 := CHr.keep K11 (sfS sf10 sf0) hR9.1
  have hR12 := CHr.trans hR9 hq12
  have N11 := Fr.app Nf6 M11
  have gz11 : h0.size ≤ t11 := Nat.le_trans (((((Keep.refl h0 []).ext E1).wr W4 (Or.inr gs1)).wr W6 (Or.inr gs1)).ext E8).1 gs11
  refine Goes.via (B := T11.setTop (mkF m 37 #[iv (2 : Int32), iv x1, iv x2, rv b1] [(.ref b8)])) (fun t k => st11 _ k) ?_
  have w13 : Arv Z T11.heap t11 kb11 .byte (2 : Int32) [(.int x1.toInt8.toInt32), (.int x2.toInt8.toInt32)] (.int (0 : Int32)) := V11
  exact finA (Q := (own_Q7 Z x1 x2 z0 h0 n0)) (F := EndH Z consts_1) (C := ((Rm 4 3 8 66)).cells) (S := ((Rm 4 3 8 66)).slots) X11 hx Bd.returns rfl rfl rfl (hb hby own_d_method_3_code_37) rfl ⟨b8, t11, kb11, rfl, N11, ((((((Keep.refl h0 []).ext E1).wr W4 (Or.inr gs1)).wr W6 (Or.inr gs1)).ext E8).trans K11 (allS (Or.inr gs8) all0)), E11, F11, C11, w13⟩ (lvH X11 hlk hS0 rfl (Nat.le_trans (Nat.le_trans (Nat.le_trans (Nat.le_trans (Nat.le_trans hk0 E1.1) (Nat.le_of_eq (Wr.size W4).symm)) (Nat.le_of_eq (Wr.size W6).symm)) E8.1) K11.1) hZ hEL hR12 (by decide) (by decide))
theorem own_pn3 : plainName "java/lang/Record" = true := by first | (simp [plainName, overriddenIn]; done) | decide +kernel
theorem own_d_jdk_30_method_1_code_0 : decode jdk_30_method_1_code 0 = .ok (.aload_n 0, 1) := by decide +kernel
theorem own_d_jdk_30_method_1_code_1 : decode jdk_30_method_1_code 1 = .ok (.invokespecial 1, 3) := by decide +kernel
theorem own_d_jdk_30_method_1_code_4 : decode jdk_30_method_1_code 4 = .ok (.return_, 1) := by decide +kernel
theorem own_ef8 (m : MethodId) (x0 : Addr)  : entryFrame m #[(.ref x0)] 1 = mkF m 0 #[rv x0] [] := by first | (simp [entryFrame, mkF, argsToLocals, Value.category]; done) | rfl
abbrev own_Q8 (Z : State) (a1 : Addr) (h0 : Heap) (n0 : Nat) (v : Option Value) (h : Heap) (L : List Loc) : Prop := v = none ∧ Fr n0 L ∧ h = h0
set_option maxRecDepth 65536 in
set_option maxHeartbeats 40000000 in
theorem own_m8 (l : Launch) (Z : State) (a0 : Array Value) (hw : ∀ d ∈ tables_1, d.before a0 Z = true) (ws : List Jvm.Cond) (a1 : Addr) (h0 : Heap) (n0 : Nat) (O0 : Old Z n0 h0) :
    Ctr l Z (⟨"java/lang/Record", "<init>", "()V"⟩ : MethodName) jdk_30_method_1_code 1 none (Rm 1 0 0 12) #[(.ref a1)] h0 (own_Q8 Z a1 h0 n0) ws := by
  refine MetFree.of_bodySF (plainFor_of_name own_pn3) hisR ?_
  intro p e s m args below meth c s₁ Bd hml0 hP hK
  obtain ⟨rfl, hZ, hh⟩ := hP
  have hx := Bd.exec
  have hby := Bd.bytes
  have hlk : meth.locks = false := Bd.notSynchronized
  have hml : c.maxLocals = 1 := hml0
  have hown : s.vm.findClass "java/lang/Record" = some m.cls := findClass_of_methodNamed Bd.named
  have hnm := (name_of_methodNamed Bd.named Bd.method).1
  have X0 : Stand p l e (Rm 1 0 0 12) s m #[(.ref a1)] below meth c s₁ [] 0 0 := Stand.of_body Bd
  have e0 : s₁.heap = h0 := by rw [← hh, Bd.state]; rfl
  have N0 := Fr.nil n0
  show Goes p.tables e below (fun t o => ∃ v L, o = .returned v ∧ (own_Q8 Z a1 h0 n0) v t.heap L ∧ FrameEnd s o t L ((Rm 1 0 0 12)).cells ((Rm 1 0 0 12)).slots) _
  refine Goes.via (B := s₁.setTop (mkF m 0 #[rv a1] [])) (fun t k => castTop (own_ef8 m a1) k) ?_
  refine Goes.via (B := s₁.setTop (mkF m 1 _ [(.ref a1)])) (fun t k => XS.aloadN X0.here hx rfl (hb hby own_d_jdk_30_method_1_code_0) rfl rfl k) ?_
  obtain ⟨T1, X1, e1, st1⟩ := initO X0 hx hZ hown (own_hw hw 23 rfl) (own_hw hw 24 rfl) (own_hw hw 25 rfl) e0 (g := (mkF m 1 #[rv a1] [(.ref a1)])) rfl (by rw [hml]; rfl) rfl (hb hby own_d_jdk_30_method_1_code_1) (by decide) (W := 0) (by show 2 * 0 + _ ≤ _; exact Nat.le_of_eq rfl) (by decide)
  refine Goes.via (B := T1.setTop (mkF m 4 #[rv a1] [])) (fun t k => st1 _ k) ?_
  exact fin0 (Q := (own_Q8 Z a1 h0 n0)) (F := FrameEnd) (C := ((Rm 1 0 0 12)).cells) (S := ((Rm 1 0 0 12)).slots) X1 hx Bd.returns (hb hby own_d_jdk_30_method_1_code_4) e1 ⟨rfl, N0, rfl⟩ (lvN X1 hlk (by decide) (by decide))
theorem own_pn4 : plainName "java/util/Objects" = true := by first | (simp [plainName, overriddenIn]; done) | decide +kernel
theorem own_d_jdk_31_method_11_code_0 : decode jdk_31_method_11_code 0 = .ok (.aload_n 0, 1) := by decide +kernel
theorem own_d_jdk_31_method_11_code_1 : decode jdk_31_method_11_code 1 = .ok (.ifnonnull 12, 3) := by decide +kernel
theorem own_d_jdk_31_method_11_code_13 : decode jdk_31_method_11_code 13 = .ok (.aload_n 0, 1) := by decide +kernel
theorem own_d_jdk_31_method_11_code_14 : decode jdk_31_method_11_code 14 = .ok (.areturn, 1) := by decide +kernel
theorem own_ef9 (m : MethodId) (x0 : Addr) (x1 : Addr)  : entryFrame m #[(.ref x0), (.ref x1)] 2 = mkF m 0 #[rv x0, rv x1] [] := by first | (simp [entryFrame, mkF, argsToLocals, Value.category]; done) | rfl
abbrev own_Q9 (Z : State) (a1 : Addr) (a2 : Addr) (h0 : Heap) (n0 : Nat) (v : Option Value) (h : Heap) (L : List Loc) : Prop := v = some (.ref a1) ∧ Fr n0 L ∧ h = h0
set_option maxRecDepth 65536 in
set_option maxHeartbeats 40000000 in
theorem own_m9 (l : Launch) (Z : State) (a0 : Array Value) (hw : ∀ d ∈ tables_1, d.before a0 Z = true) (ws : List Jvm.Cond) (a1 : Addr) (a2 : Addr) (h0 : Heap) (n0 : Nat) (O0 : Old Z n0 h0) :
    Ctr l Z (⟨"java/util/Objects", "requireNonNull", "(Ljava/lang/Object;Ljava/lang/String;)Ljava/lang/Object;"⟩ : MethodName) jdk_31_method_11_code 2 (some (.object "java/lang/Object")) (Rm 0 0 0 0) #[(.ref a1), (.ref a2)] h0 (own_Q9 Z a1 a2 h0 n0) ws := by
  refine MetFree.of_bodySF (plainFor_of_name own_pn4) hisR ?_
  intro p e s m args below meth c s₁ Bd hml0 hP hK
  obtain ⟨rfl, hZ, hh⟩ := hP
  have hx := Bd.exec
  have hby := Bd.bytes
  have hlk : meth.locks = false := Bd.notSynchronized
  have hml : c.maxLocals = 2 := hml0
  have hown : s.vm.findClass "java/util/Objects" = some m.cls := findClass_of_methodNamed Bd.named
  have hnm := (name_of_methodNamed Bd.named Bd.method).1
  have X0 : Stand p l e (Rm 0 0 0 0) s m #[(.ref a1), (.ref a2)] below meth c s₁ [] 0 0 := Stand.of_body Bd
  have e0 : s₁.heap = h0 := by rw [← hh, Bd.state]; rfl
  have N0 := Fr.nil n0
  show Goes p.tables e below (fun t o => ∃ v L, o = .returned v ∧ (own_Q9 Z a1 a2 h0 n0) v t.heap L ∧ FrameEnd s o t L ((Rm 0 0 0 0)).cells ((Rm 0 0 0 0)).slots) _
  refine Goes.via (B := s₁.setTop (mkF m 0 #[rv a1, rv a2] [])) (fun t k => castTop (own_ef9 m a1 a2) k) ?_
  refine Goes.via (B := s₁.setTop (mkF m 1 _ [(.ref a1)])) (fun t k => XS.aloadN X0.here hx rfl (hb hby own_d_jdk_31_method_11_code_0) rfl rfl k) ?_
  refine Goes.via (B := s₁.setTop (mkF m 13 _ [])) (fun t k => XS.ifnonnullYes X0.here hx rfl (pc0 := 1) (pc' := 13) rfl (hb hby own_d_jdk_31_method_11_code_1) rfl (by decide) (by decide) k) ?_
  refine Goes.via (B := s₁.setTop (mkF m 14 _ [(.ref a1)])) (fun t k => XS.aloadN X0.here hx rfl (hb hby own_d_jdk_31_method_11_code_13) rfl rfl k) ?_
  exact finA (Q := (own_Q9 Z a1 a2 h0 n0)) (F := FrameEnd) (C := ((Rm 0 0 0 0)).cells) (S := ((Rm 0 0 0 0)).slots) X0 hx Bd.returns rfl rfl rfl (hb hby own_d_jdk_31_method_11_code_14) e0 ⟨rfl, N0, rfl⟩ (lvN X0 hlk (by decide) (by decide))
theorem own_pn5 : plainName "com/example/keelson/keelson/cluster/Ballot" = true := by first | (simp [plainName, overriddenIn]; done) | decide +kernel
theorem own_d_prog_19_method_1_code_0 : decode prog_19_method_1_code 0 = .ok (.aload_n 0, 1) := by decide +kernel
theorem own_d_prog_19_method_1_code_1 : decode prog_19_method_1_code 1 = .ok (.invokespecial 1, 3) := by decide +kernel
theorem own_pd5 : parseMethodDescriptor "()V" = some ⟨[], none⟩ := by decide +kernel
theorem own_d_prog_19_method_1_code_4 : decode prog_19_method_1_code 4 = .ok (.aload_n 3, 1) := by decide +kernel
theorem own_d_prog_19_method_1_code_5 : decode prog_19_method_1_code 5 = .ok (.ldc 7, 2) := by decide +kernel
theorem own_d_prog_19_method_1_code_7 : decode prog_19_method_1_code 7 = .ok (.invokestatic 9, 3) := by decide +kernel
theorem own_pd6 : parseMethodDescriptor "(Ljava/lang/Object;Ljava/lang/String;)Ljava/lang/Object;" = some ⟨[(.object "java/lang/Object"), (.object "java/lang/String")], some (.object "java/lang/Object")⟩ := by decide +kernel
theorem own_d_prog_19_method_1_code_10 : decode prog_19_method_1_code 10 = .ok (.pop, 1) := by decide +kernel
theorem own_d_prog_19_method_1_code_11 : decode prog_19_method_1_code 11 = .ok (.aload_n 0, 1) := by decide +kernel
theorem own_d_prog_19_method_1_code_12 : decode prog_19_method_1_code 12 = .ok (.lload_n 1, 1) := by decide +kernel
theorem own_d_prog_19_method_1_code_13 : decode prog_19_method_1_code 13 = .ok (.putfield 15, 3) := by decide +kernel
theorem own_d_prog_19_method_1_code_16 : decode prog_19_method_1_code 16 = .ok (.aload_n 0, 1) := by decide +kernel
theorem own_d_prog_19_method_1_code_17 : decode prog_19_method_1_code 17 = .ok (.aload_n 3, 1) := by decide +kernel
theorem own_d_prog_19_method_1_code_18 : decode prog_19_method_1_code 18 = .ok (.putfield 21, 3) := by decide +kernel
theorem own_d_prog_19_method_1_code_21 : decode prog_19_method_1_code 21 = .ok (.return_, 1) := by decide +kernel
theorem own_ef10 (m : MethodId) (x0 : Addr) (x1 : Int64) (x2 : Addr)  : entryFrame m #[(.ref x0), (.long x1), (.ref x2)] 4 = mkF m 0 #[rv x0, lv_ x1, s_, rv x2] [] := by first | (simp [entryFrame, mkF, argsToLocals, Value.category]; done) | rfl
abbrev own_Q10 (Z : State) (a1 : Addr) (x1 : Int64) (a2 : Addr) (h0 : Heap) (n0 : Nat) (v : Option Value) (h : Heap) (L : List Loc) : Prop := v = none ∧ Fr n0 L ∧ Keep h0 h [a1] ∧ Exa Z h a1 "com/example/keelson/keelson/cluster/Ballot" ∧ Fld Z h a1 "com/example/keelson/keelson/cluster/Ballot" "round" "J" (.long x1) ∧ Fld Z h a1 "com/example/keelson/keelson/cluster/Ballot" "proposer" "Ljava/lang/String;" (.ref a2)
set_option maxRecDepth 65536 in
set_option maxHeartbeats 40000000 in
theorem own_m10 (l : Launch) (Z : State) (a0 : Array Value) (hw : ∀ d ∈ tables_1, d.before a0 Z = true) (ws : List Jvm.Cond) (a1 : Addr) (x1 : Int64) (a2 : Addr) (h0 : Heap) (n0 : Nat) (O0 : Old Z n0 h0) (gn_a1 : n0 ≤ a1) (F_1 : Exa Z h0 a1 "com/example/keelson/keelson/cluster/Ballot") (F_2 : Fld Z h0 a1 "com/example/keelson/keelson/cluster/Ballot" "round" "J" (.long (0 : Int64))) (F_3 : Fld Z h0 a1 "com/example/keelson/keelson/cluster/Ballot" "proposer" "Ljava/lang/String;" .null) :
    CtrH l Z consts_1 [] (⟨"com/example/keelson/keelson/cluster/Ballot", "<init>", "(JLjava/lang/String;)V"⟩ : MethodName) prog_19_method_1_code 4 none (Rm 2 2 36 24) #[(.ref a1), (.long x1), (.ref a2)] h0 (own_Q10 Z a1 x1 a2 h0 n0) ws := by
  refine MetFree.of_bodySF (plainFor_of_name own_pn5) hisR ?_
  intro p e s m args below meth c s₁ Bd hml0 hP hK
  obtain ⟨rfl, hZ, hh, hC, hsf⟩ := hP
  have hx := Bd.exec
  have hby := Bd.bytes
  have hlk : meth.locks = false := Bd.notSynchronized
  have hml : c.maxLocals = 4 := hml0
  have hown : s.vm.findClass "com/example/keelson/keelson/cluster/Ballot" = some m.cls := findClass_of_methodNamed Bd.named
  have hnm := (name_of_methodNamed Bd.named Bd.method).1
  have X0 : Stand p l e (Rm 2 2 36 24) (s.setVm s.vm) m #[(.ref a1), (.long x1), (.ref a2)] below meth c s₁ [] 0 0 := Stand.of_body Bd
  have hS0 : s.Since s.vm h0.size := (State.WarmedH.refl s).since _
  have hk0 : h0.size ≤ h0.size := Nat.le_refl _
  have hR0 : CHr Z consts_1 s.vm s.heap s.vm h0 := by rw [hh]; exact CHr.refl hC
  have hEL := own_EW hw
  have e0 : s₁.heap = h0 := by rw [← hh, Bd.state]; rfl
  have N0 := Fr.nil n0
  show Goes p.tables e below (fun t o => ∃ v L, o = .returned v ∧ (own_Q10 Z a1 x1 a2 h0 n0) v t.heap L ∧ EndH Z consts_1 s o t L ((Rm 2 2 36 24)).cells ((Rm 2 2 36 24)).slots) _
  refine Goes.via (B := s₁.setTop (mkF m 0 #[rv a1, lv_ x1, s_, rv a2] [])) (fun t k => castTop (own_ef10 m a1 x1 a2) k) ?_
  refine Goes.via (B := s₁.setTop (mkF m 1 _ [(.ref a1)])) (fun t k => XS.aloadN X0.here hx rfl (hb hby own_d_prog_19_method_1_code_0) rfl rfl k) ?_
  obtain ⟨_, T1, L1, X1, ⟨rfl, M1, K1⟩, st1⟩ := callInit X0 hx hZ rfl hown (own_hw hw 18 rfl) (own_hw hw 19 rfl) (own_hw hw 21 rfl) (own_hw hw 22 rfl) (by decide) (argsL := []) (rest := []) (own_m8 l Z a0 hw [] a1 h0 n0 O0 ) e0 (lenOf own_pd5 rfl) (pc := 1) (Ls := #[rv a1, lv_ x1, s_, rv a2]) (st := [(.ref a1)]) rfl (by rw [hml]; rfl) (hb hby own_d_prog_19_method_1_code_1) (W := 0) (Nat.le_of_eq rfl) (by decide) (by decide) (by decide) (by decide)
  have N1 := Fr.app N0 M1
  refine Goes.via (B := T1.setTop (mkF m 4 #[rv a1, lv_ x1, s_, rv a2] [])) (fun t k => st1 _ k) ?_
  refine Goes.via (B := T1.setTop (mkF m 5 _ [(.ref a2)])) (fun t k => XS.aloadN X1.here hx rfl (hb hby own_d_prog_19_method_1_code_4) rfl rfl k) ?_
  obtain ⟨b2, T2, h2, k2, X2, e2, E2, hS2, hk2, hZ2, hown2, hC2, -, st2⟩ := ldcOH X1 hx hZ hown (own_hw hw 26 rfl) (own_wS hw) K1 hS0 hk0 hEL hR0.1 (g := (mkF m 5 #[rv a1, lv_ x1, s_, rv a2] [(.ref a2)])) rfl (hb hby own_d_prog_19_method_1_code_5) (n := 32) (by decide) (by decide) (by decide) (by decide)
  have hq3 := hC2
  have hR3 := CHr.trans hR0 hq3
  refine Goes.via (B := T2.setTop (mkF m 7 #[rv a1, lv_ x1, s_, rv a2] [(.ref b2), (.ref a2)])) (fun t k => st2 _ k) ?_
  obtain ⟨_, T4, L4, X4, ⟨rfl, M4, K4⟩, st4⟩ := callStatic X2 hx hZ2 hown2 (own_hw hw 27 rfl) (own_hw hw 28 rfl) (own_hw hw 29 rfl) (own_hw hw 30 rfl) (by decide) (argsL := [(.ref a2), (.ref b2)]) (rest := []) (own_m9 l Z a0 hw [] a2 b2 h2 n0 (O0.ext E2) ) e2 (lenOf own_pd6 rfl) (pc := 7) (Ls := #[rv a1, lv_ x1, s_, rv a2]) (st := [(.ref b2), (.ref a2)]) rfl (by rw [hml]; rfl) (hb hby own_d_prog_19_method_1_code_7) (W := 0) (Nat.le_of_eq rfl) (by decide) (by decide) (by decide) (by decide)
  have N4 := Fr.app N1 M4
  refine Goes.via (B := T4.setTop (mkF m 10 #[rv a1, lv_ x1, s_, rv a2] [(.ref a2)])) (fun t k => st4 _ k) ?_
  refine Goes.via (B := T4.setTop (mkF m 11 _ [])) (fun t k => XS.pop X4.here hx rfl (hb hby own_d_prog_19_method_1_code_10) rfl rfl k) ?_
  refine Goes.via (B := T4.setTop (mkF m 12 _ [(.ref a1)])) (fun t k => XS.aloadN X4.here hx rfl (hb hby own_d_prog_19_method_1_code_11) rfl rfl k) ?_
  refine Goes.via (B := T4.setTop (mkF m 13 _ [(.long x1), (.ref a1)])) (fun t k => XS.lloadN X4.here hx rfl (hb hby own_d_prog_19_method_1_code_12) rfl k) ?_
  obtain ⟨T5, h5, X5, e5, W5, st5⟩ := putF X4 hx hZ2 hown2 (host := "") (Or.inl (own_hw hw 31 rfl)) Via.refl K4 (F_2.ext E2) (F_1.ext E2) (Or.inr ⟨(own_hw hw 32 rfl), rfl, hnm⟩) (own_hw hw 13 rfl) (ty := .long) (by decide) rfl rfl (g := (mkF m 13 #[rv a1, lv_ x1, s_, rv a2] [(.long x1), (.ref a1)])) rfl rfl (hb hby own_d_prog_19_method_1_code_13)
  have hq6 := CHr.wr W5 (Safe.exa hZ2.alike (F_1.ext E2) (by decide) (by decide)) hR3.1
  have hR6 := CHr.trans hR3 hq6
  have N5 := Fr.snoc X5 N4 gn_a1
  refine Goes.via (B := T5.setTop (mkF m 16 #[rv a1, lv_ x1, s_, rv a2] [])) (fun t k => st5 _ k) ?_
  refine Goes.via (B := T5.setTop (mkF m 17 _ [(.ref a1)])) (fun t k => XS.aloadN X5.here hx rfl (hb hby own_d_prog_19_method_1_code_16) rfl rfl k) ?_
  refine Goes.via (B := T5.setTop (mkF m 18 _ [(.ref a2), (.ref a1)])) (fun t k => XS.aloadN X5.here hx rfl (hb hby own_d_prog_19_method_1_code_17) rfl rfl k) ?_
  have c7 : Fld Z h5 a1 "com/example/keelson/keelson/cluster/Ballot" "proposer" "Ljava/lang/String;" .null := (Fld.other W5 (F_3.ext E2) (Or.inr (slot_ne (Or.inr (own_hw hw 34 rfl)) (Or.inr (own_hw hw 32 rfl)) (by decide) (t := (.object "java/lang/String")) (t' := .long) (by decide) (by decide))))
  obtain ⟨T8, h8, X8, e8, W8, st8⟩ := putF X5 hx hZ2 hown2 (host := "") (Or.inl (own_hw hw 33 rfl)) Via.refl e5 c7 (Exa.wr W5 (F_1.ext E2)) (Or.inr ⟨(own_hw hw 34 rfl), rfl, hnm⟩) (own_hw hw 13 rfl) (ty := (.object "java/lang/String")) (by decide) rfl rfl (g := (mkF m 18 #[rv a1, lv_ x1, s_, rv a2] [(.ref a2), (.ref a1)])) rfl rfl (hb hby own_d_prog_19_method_1_code_18)
  have hq9 := CHr.wr W8 (Safe.exa hZ2.alike (Exa.wr W5 (F_1.ext E2)) (by decide) (by decide)) hR6.1
  have hR9 := CHr.trans hR6 hq9
  have N8 := Fr.snoc X8 N5 gn_a1
  refine Goes.via (B := T8.setTop (mkF m 21 #[rv a1, lv_ x1, s_, rv a2] [])) (fun t k => st8 _ k) ?_
  have c10 : Fld Z h8 a1 "com/example/keelson/keelson/cluster/Ballot" "round" "J" (.long x1) := (Fld.other W8 (Fld.same W5 (F_2.ext E2)) (Or.inr (slot_ne (Or.inr (own_hw hw 32 rfl)) (Or.inr (own_hw hw 34 rfl)) (by decide) (t := .long) (t' := (.object "java/lang/String")) (by decide) (by decide))))
  exact fin0 (Q := (own_Q10 Z a1 x1 a2 h0 n0)) (F := EndH Z consts_1) (C := ((Rm 2 2 36 24)).cells) (S := ((Rm 2 2 36 24)).slots) X8 hx Bd.returns (hb hby own_d_prog_19_method_1_code_21) e8 ⟨rfl, N8, ((((Keep.refl h0 [a1]).ext E2).wr W5 (Or.inl (List.mem_of_getElem? (i := 0) rfl))).wr W8 (Or.inl (List.mem_of_getElem? (i := 0) rfl))), (Exa.wr W8 (Exa.wr W5 (F_1.ext E2))), c10, (Fld.same W8 c7)⟩ (lvH X8 hlk hS2 e8 (Nat.le_trans (Nat.le_trans hk2 (Nat.le_of_eq (Wr.size W5).symm)) (Nat.le_of_eq (Wr.size W8).symm)) hZ2 hEL hR9 (by decide) (by decide))
theorem own_pn6 : plainName "java/lang/Long" = true := by first | (simp [plainName, overriddenIn]; done) | decide +kernel
theorem own_d_jdk_35_method_42_code_0 : decode jdk_35_method_42_code 0 = .ok (.lload_n 0, 1) := by decide +kernel
theorem own_d_jdk_35_method_42_code_1 : decode jdk_35_method_42_code 1 = .ok (.lload_n 2, 1) := by decide +kernel
theorem own_d_jdk_35_method_42_code_2 : decode jdk_35_method_42_code 2 = .ok (.lcmp, 1) := by decide +kernel
theorem own_d_jdk_35_method_42_code_3 : decode jdk_35_method_42_code 3 = .ok (.ifCond .ge 7, 3) := by decide +kernel
theorem own_d_jdk_35_method_42_code_6 : decode jdk_35_method_42_code 6 = .ok (.iconst (-1), 1) := by decide +kernel
theorem own_d_jdk_35_method_42_code_7 : decode jdk_35_method_42_code 7 = .ok (.goto 14, 3) := by decide +kernel
theorem own_d_jdk_35_method_42_code_21 : decode jdk_35_method_42_code 21 = .ok (.ireturn, 1) := by decide +kernel
theorem own_d_jdk_35_method_42_code_10 : decode jdk_35_method_42_code 10 = .ok (.lload_n 0, 1) := by decide +kernel
theorem own_d_jdk_35_method_42_code_11 : decode jdk_35_method_42_code 11 = .ok (.lload_n 2, 1) := by decide +kernel
theorem own_d_jdk_35_method_42_code_12 : decode jdk_35_method_42_code 12 = .ok (.lcmp, 1) := by decide +kernel
theorem own_d_jdk_35_method_42_code_13 : decode jdk_35_method_42_code 13 = .ok (.ifCond .ne 7, 3) := by decide +kernel
theorem own_d_jdk_35_method_42_code_16 : decode jdk_35_method_42_code 16 = .ok (.iconst 0, 1) := by decide +kernel
theorem own_d_jdk_35_method_42_code_17 : decode jdk_35_method_42_code 17 = .ok (.goto 4, 3) := by decide +kernel
theorem own_d_jdk_35_method_42_code_20 : decode jdk_35_method_42_code 20 = .ok (.iconst 1, 1) := by decide +kernel
theorem own_ef11 (m : MethodId) (x0 : Int64) (x1 : Int64)  : entryFrame m #[(.long x0), (.long x1)] 4 = mkF m 0 #[lv_ x0, s_, lv_ x1, s_] [] := by first | (simp [entryFrame, mkF, argsToLocals, Value.category]; done) | rfl
abbrev own_Q11 (Z : State) (x1 : Int64) (x2 : Int64) (h0 : Heap) (n0 : Nat) (v : Option Value) (h : Heap) (L : List Loc) : Prop := ∃ r : Int32, v = some (.int r) ∧ Fr n0 L ∧ h = h0 ∧ r = if x1 < x2 then -1 else if x1 = x2 then 0 else 1
set_option maxRecDepth 65536 in
set_option maxHeartbeats 40000000 in
theorem own_m11 (l : Launch) (Z : State) (a0 : Array Value) (hw : ∀ d ∈ tables_1, d.before a0 Z = true) (ws : List Jvm.Cond) (x1 : Int64) (x2 : Int64) (h0 : Heap) (n0 : Nat) (O0 : Old Z n0 h0) :
    Ctr l Z (⟨"java/lang/Long", "compare", "(JJ)I"⟩ : MethodName) jdk_35_method_42_code 4 (some .int) (Rm 0 0 0 0) #[(.long x1), (.long x2)] h0 (own_Q11 Z x1 x2 h0 n0) ws := by
  refine MetFree.of_bodySF (plainFor_of_name own_pn6) hisR ?_
  intro p e s m args below meth c s₁ Bd hml0 hP hK
  obtain ⟨rfl, hZ, hh⟩ := hP
  have hx := Bd.exec
  have hby := Bd.bytes
  have hlk : meth.locks = false := Bd.notSynchronized
  have hml : c.maxLocals = 4 := hml0
  have hown : s.vm.findClass "java/lang/Long" = some m.cls := findClass_of_methodNamed Bd.named
  have hnm := (name_of_methodNamed Bd.named Bd.method).1
  have X0 : Stand p l e (Rm 0 0 0 0) s m #[(.long x1), (.long x2)] below meth c s₁ [] 0 0 := Stand.of_body Bd
  have e0 : s₁.heap = h0 := by rw [← hh, Bd.state]; rfl
  have N0 := Fr.nil n0
  show Goes p.tables e below (fun t o => ∃ v L, o = .returned v ∧ (own_Q11 Z x1 x2 h0 n0) v t.heap L ∧ FrameEnd s o t L ((Rm 0 0 0 0)).cells ((Rm 0 0 0 0)).slots) _
  refine Goes.via (B := s₁.setTop (mkF m 0 #[lv_ x1, s_, lv_ x2, s_] [])) (fun t k => castTop (own_ef11 m x1 x2) k) ?_
  refine Goes.via (B := s₁.setTop (mkF m 1 _ [(.long x1)])) (fun t k => XS.lloadN X0.here hx rfl (hb hby own_d_jdk_35_method_42_code_0) rfl k) ?_
  refine Goes.via (B := s₁.setTop (mkF m 2 _ [(.long x2), (.long x1)])) (fun t k => XS.lloadN X0.here hx rfl (hb hby own_d_jdk_35_method_42_code_1) rfl k) ?_
  refine Goes.via (B := s₁.setTop (mkF m 3 _ [(.int (XT.cmpL x1 x2))])) (fun t k => XT.lcmp X0.here hx rfl (hb hby own_d_jdk_35_method_42_code_2) rfl k) ?_
  by_cases b1 : x1 < x2
  · refine Goes.via (B := s₁.setTop (mkF m 6 _ [])) (fun t k => XS.ifNo X0.here hx rfl (hb hby own_d_jdk_35_method_42_code_3) rfl (XT.ll_ge_f b1) k) ?_
    refine Goes.via (B := s₁.setTop (mkF m 7 _ [(.int (-1 : Int32))])) (fun t k => XS.iconst X0.here hx rfl (hb hby own_d_jdk_35_method_42_code_6) k) ?_
    refine Goes.via (B := s₁.setTop (mkF m 21 _ [(.int (-1 : Int32))])) (fun t k => XS.goto X0.here hx rfl (pc0 := 7) (pc' := 21) rfl (hb hby own_d_jdk_35_method_42_code_7) (by decide) (by decide) k) ?_
    exact finI (Q := (own_Q11 Z x1 x2 h0 n0)) (F := FrameEnd) (C := ((Rm 0 0 0 0)).cells) (S := ((Rm 0 0 0 0)).slots) X0 hx Bd.returns (hb hby own_d_jdk_35_method_42_code_21) e0 ⟨(-1 : Int32), rfl, N0, rfl, (if_pos b1).symm⟩ (lvN X0 hlk (by decide) (by decide))
  · refine Goes.via (B := s₁.setTop (mkF m 10 _ [])) (fun t k => XS.ifYes X0.here hx rfl (pc0 := 3) (pc' := 10) rfl (hb hby own_d_jdk_35_method_42_code_3) rfl (XT.ll_ge_t b1) (by decide) (by decide) k) ?_
    refine Goes.via (B := s₁.setTop (mkF m 11 _ [(.long x1)])) (fun t k => XS.lloadN X0.here hx rfl (hb hby own_d_jdk_35_method_42_code_10) rfl k) ?_
    refine Goes.via (B := s₁.setTop (mkF m 12 _ [(.long x2), (.long x1)])) (fun t k => XS.lloadN X0.here hx rfl (hb hby own_d_jdk_35_method_42_code_11) rfl k) ?_
    refine Goes.via (B := s₁.setTop (mkF m 13 _ [(.int (XT.cmpL x1 x2))])) (fun t k => XT.lcmp X0.here hx rfl (hb hby own_d_jdk_35_method_42_code_12) rfl k) ?_
    by_cases b2 : x1 = x2
    · refine Goes.via (B := s₁.setTop (mkF m 16 _ [])) (fun t k => XS.ifNo X0.here hx rfl (hb hby own_d_jdk_35_method_42_code_13) rfl (XT.ll_ne_f b2) k) ?_
      refine Goes.via (B := s₁.setTop (mkF m 17 _ [(.int (0 : Int32))])) (fun t k => XS.iconst X0.here hx rfl (hb hby own_d_jdk_35_method_42_code_16) k) ?_
      refine Goes.via (B := s₁.setTop (mkF m 21 _ [(.int (0 : Int32))])) (fun t k => XS.goto X0.here hx rfl (pc0 := 17) (pc' := 21) rfl (hb hby own_d_jdk_35_method_42_code_17) (by decide) (by decide) k) ?_
      exact finI (Q := (own_Q11 Z x1 x2 h0 n0)) (F := FrameEnd) (C := ((Rm 0 0 0 0)).cells) (S := ((Rm 0 0 0 0)).slots) X0 hx Bd.returns (hb hby own_d_jdk_35_method_42_code_21) e0 ⟨(0 : Int32), rfl, N0, rfl, (by rw [if_neg b1, if_pos b2])⟩ (lvN X0 hlk (by decide) (by decide))
    · refine Goes.via (B := s₁.setTop (mkF m 20 _ [])) (fun t k => XS.ifYes X0.here hx rfl (pc0 := 13) (pc' := 20) rfl (hb hby own_d_jdk_35_method_42_code_13) rfl (XT.ll_ne_t b2) (by decide) (by decide) k) ?_
      refine Goes.via (B := s₁.setTop (mkF m 21 _ [(.int (1 : Int32))])) (fun t k => XS.iconst X0.here hx rfl (hb hby own_d_jdk_35_method_42_code_20) k) ?_
      exact finI (Q := (own_Q11 Z x1 x2 h0 n0)) (F := FrameEnd) (C := ((Rm 0 0 0 0)).cells) (S := ((Rm 0 0 0 0)).slots) X0 hx Bd.returns (hb hby own_d_jdk_35_method_42_code_21) e0 ⟨(1 : Int32), rfl, N0, rfl, (by rw [if_neg b1, if_neg b2])⟩ (lvN X0 hlk (by decide) (by decide))
theorem own_d_method_2_code_0 : decode method_2_code 0 = .ok (.lload_n 0, 1) := by decide +kernel
theorem own_d_method_2_code_1 : decode method_2_code 1 = .ok (.lconst 0, 1) := by decide +kernel
theorem own_d_method_2_code_2 : decode method_2_code 2 = .ok (.lcmp, 1) := by decide +kernel
theorem own_d_method_2_code_3 : decode method_2_code 3 = .ok (.ifCond .ge 7, 3) := by decide +kernel
theorem own_d_method_2_code_6 : decode method_2_code 6 = .ok (.iconst (-1), 1) := by decide +kernel
theorem own_d_method_2_code_7 : decode method_2_code 7 = .ok (.goto 14, 3) := by decide +kernel
theorem own_d_method_2_code_21 : decode method_2_code 21 = .ok (.ireturn, 1) := by decide +kernel
theorem own_d_method_2_code_10 : decode method_2_code 10 = .ok (.lload_n 0, 1) := by decide +kernel
theorem own_d_method_2_code_11 : decode method_2_code 11 = .ok (.lconst 0, 1) := by decide +kernel
theorem own_d_method_2_code_12 : decode method_2_code 12 = .ok (.lcmp, 1) := by decide +kernel
theorem own_d_method_2_code_13 : decode method_2_code 13 = .ok (.ifCond .le 7, 3) := by decide +kernel
theorem own_d_method_2_code_16 : decode method_2_code 16 = .ok (.iconst 1, 1) := by decide +kernel
theorem own_d_method_2_code_17 : decode method_2_code 17 = .ok (.goto 4, 3) := by decide +kernel
theorem own_d_method_2_code_20 : decode method_2_code 20 = .ok (.iconst 0, 1) := by decide +kernel
theorem own_ef12 (m : MethodId) (x0 : Int64)  : entryFrame m #[(.long x0)] 2 = mkF m 0 #[lv_ x0, s_] [] := by first | (simp [entryFrame, mkF, argsToLocals, Value.category]; done) | rfl
abbrev own_Q12 (Z : State) (x1 : Int64) (h0 : Heap) (n0 : Nat) (v : Option Value) (h : Heap) (L : List Loc) : Prop := ∃ r : Int32, v = some (.int r) ∧ Fr n0 L ∧ h = h0 ∧ r = if x1 < (0 : Int64) then (-1 : Int32) else if (0 : Int64) < x1 then 1 else 0
set_option maxRecDepth 65536 in
set_option maxHeartbeats 40000000 in
theorem own_m12 (l : Launch) (Z : State) (a0 : Array Value) (hw : ∀ d ∈ tables_1, d.before a0 Z = true) (ws : List Jvm.Cond) (x1 : Int64) (h0 : Heap) (n0 : Nat) (O0 : Old Z n0 h0) :
    Ctr l Z (⟨"com/example/keelson/keelson/cluster/BallotCompareToPinLaw", "sign", "(J)I"⟩ : MethodName) method_2_code 2 (some .int) (Rm 0 0 0 0) #[(.long x1)] h0 (own_Q12 Z x1 h0 n0) ws := by
  refine MetFree.of_bodySF (plainFor_of_name own_pn2) hisR ?_
  intro p e s m args below meth c s₁ Bd hml0 hP hK
  obtain ⟨rfl, hZ, hh⟩ := hP
  have hx := Bd.exec
  have hby := Bd.bytes
  have hlk : meth.locks = false := Bd.notSynchronized
  have hml : c.maxLocals = 2 := hml0
  have hown : s.vm.findClass "com/example/keelson/keelson/cluster/BallotCompareToPinLaw" = some m.cls := findClass_of_methodNamed Bd.named
  have hnm := (name_of_methodNamed Bd.named Bd.method).1
  have X0 : Stand p l e (Rm 0 0 0 0) s m #[(.long x1)] below meth c s₁ [] 0 0 := Stand.of_body Bd
  have e0 : s₁.heap = h0 := by rw [← hh, Bd.state]; rfl
  have N0 := Fr.nil n0
  show Goes p.tables e below (fun t o => ∃ v L, o = .returned v ∧ (own_Q12 Z x1 h0 n0) v t.heap L ∧ FrameEnd s o t L ((Rm 0 0 0 0)).cells ((Rm 0 0 0 0)).slots) _
  refine Goes.via (B := s₁.setTop (mkF m 0 #[lv_ x1, s_] [])) (fun t k => castTop (own_ef12 m x1) k) ?_
  refine Goes.via (B := s₁.setTop (mkF m 1 _ [(.long x1)])) (fun t k => XS.lloadN X0.here hx rfl (hb hby own_d_method_2_code_0) rfl k) ?_
  refine Goes.via (B := s₁.setTop (mkF m 2 _ [(.long (0 : Int64)), (.long x1)])) (fun t k => XS.lconst X0.here hx rfl (hb hby own_d_method_2_code_1) k) ?_
  refine Goes.via (B := s₁.setTop (mkF m 3 _ [(.int (XT.cmpL x1 (0 : Int64)))])) (fun t k => XT.lcmp X0.here hx rfl (hb hby own_d_method_2_code_2) rfl k) ?_
  by_cases b1 : x1 < (0 : Int64)
  · refine Goes.via (B := s₁.setTop (mkF m 6 _ [])) (fun t k => XS.ifNo X0.here hx rfl (hb hby own_d_method_2_code_3) rfl (XT.ll_ge_f b1) k) ?_
    refine Goes.via (B := s₁.setTop (mkF m 7 _ [(.int (-1 : Int32))])) (fun t k => XS.iconst X0.here hx rfl (hb hby own_d_method_2_code_6) k) ?_
    refine Goes.via (B := s₁.setTop (mkF m 21 _ [(.int (-1 : Int32))])) (fun t k => XS.goto X0.here hx rfl (pc0 := 7) (pc' := 21) rfl (hb hby own_d_method_2_code_7) (by decide) (by decide) k) ?_
    exact finI (Q := (own_Q12 Z x1 h0 n0)) (F := FrameEnd) (C := ((Rm 0 0 0 0)).cells) (S := ((Rm 0 0 0 0)).slots) X0 hx Bd.returns (hb hby own_d_method_2_code_21) e0 ⟨(-1 : Int32), rfl, N0, rfl, (if_pos b1).symm⟩ (lvN X0 hlk (by decide) (by decide))
  · refine Goes.via (B := s₁.setTop (mkF m 10 _ [])) (fun t k => XS.ifYes X0.here hx rfl (pc0 := 3) (pc' := 10) rfl (hb hby own_d_method_2_code_3) rfl (XT.ll_ge_t b1) (by decide) (by decide) k) ?_
    refine Goes.via (B := s₁.setTop (mkF m 11 _ [(.long x1)])) (fun t k => XS.lloadN X0.here hx rfl (hb hby own_d_method_2_code_10) rfl k) ?_
    refine Goes.via (B := s₁.setTop (mkF m 12 _ [(.long (0 : Int64)), (.long x1)])) (fun t k => XS.lconst X0.here hx rfl (hb hby own_d_method_2_code_11) k) ?_
    refine Goes.via (B := s₁.setTop (mkF m 13 _ [(.int (XT.cmpL x1 (0 : Int64)))])) (fun t k => XT.lcmp X0.here hx rfl (hb hby own_d_method_2_code_12) rfl k) ?_
    by_cases b2 : (0 : Int64) < x1
    · refine Goes.via (B := s₁.setTop (mkF m 16 _ [])) (fun t k => XS.ifNo X0.here hx rfl (hb hby own_d_method_2_code_13) rfl (XT.ll_le_f b2) k) ?_
      refine Goes.via (B := s₁.setTop (mkF m 17 _ [(.int (1 : Int32))])) (fun t k => XS.iconst X0.here hx rfl (hb hby own_d_method_2_code_16) k) ?_
      refine Goes.via (B := s₁.setTop (mkF m 21 _ [(.int (1 : Int32))])) (fun t k => XS.goto X0.here hx rfl (pc0 := 17) (pc' := 21) rfl (hb hby own_d_method_2_code_17) (by decide) (by decide) k) ?_
      exact finI (Q := (own_Q12 Z x1 h0 n0)) (F := FrameEnd) (C := ((Rm 0 0 0 0)).cells) (S := ((Rm 0 0 0 0)).slots) X0 hx Bd.returns (hb hby own_d_method_2_code_21) e0 ⟨(1 : Int32), rfl, N0, rfl, (by rw [if_neg b1, if_pos b2])⟩ (lvN X0 hlk (by decide) (by decide))
    · refine Goes.via (B := s₁.setTop (mkF m 20 _ [])) (fun t k => XS.ifYes X0.here hx rfl (pc0 := 13) (pc' := 20) rfl (hb hby own_d_method_2_code_13) rfl (XT.ll_le_t b2) (by decide) (by decide) k) ?_
      refine Goes.via (B := s₁.setTop (mkF m 21 _ [(.int (0 : Int32))])) (fun t k => XS.iconst X0.here hx rfl (hb hby own_d_method_2_code_20) k) ?_
      exact finI (Q := (own_Q12 Z x1 h0 n0)) (F := FrameEnd) (C := ((Rm 0 0 0 0)).cells) (S := ((Rm 0 0 0 0)).slots) X0 hx Bd.returns (hb hby own_d_method_2_code_21) e0 ⟨(0 : Int32), rfl, N0, rfl, (by rw [if_neg b1, if_neg b2])⟩ (lvN X0 hlk (by decide) (by decide))
theorem own_d_method_4_code_0 : decode method_4_code 0 = .ok (.iload_n 0, 1) := by decide +kernel
theorem own_d_method_4_code_1 : decode method_4_code 1 = .ok (.ifCond .eq 7, 3) := by decide +kernel
theorem own_d_method_4_code_8 : decode method_4_code 8 = .ok (.iload_n 0, 1) := by decide +kernel
theorem own_d_method_4_code_9 : decode method_4_code 9 = .ok (.iload_n 3, 1) := by decide +kernel
theorem own_d_method_4_code_10 : decode method_4_code 10 = .ok (.isub, 1) := by decide +kernel
theorem own_d_method_4_code_11 : decode method_4_code 11 = .ok (.i2l, 1) := by decide +kernel
theorem own_d_method_4_code_12 : decode method_4_code 12 = .ok (.invokestatic 18, 3) := by decide +kernel
theorem own_pd7 : parseMethodDescriptor "(J)I" = some ⟨[.long], some .int⟩ := by decide +kernel
theorem own_d_method_4_code_15 : decode method_4_code 15 = .ok (.ireturn, 1) := by decide +kernel
theorem own_d_method_4_code_4 : decode method_4_code 4 = .ok (.iload_n 3, 1) := by decide +kernel
theorem own_d_method_4_code_5 : decode method_4_code 5 = .ok (.ifCond .ne 11, 3) := by decide +kernel
theorem own_d_method_4_code_16 : decode method_4_code 16 = .ok (.iload_n 1, 1) := by decide +kernel
theorem own_d_method_4_code_17 : decode method_4_code 17 = .ok (.iload 4, 2) := by decide +kernel
theorem own_d_method_4_code_19 : decode method_4_code 19 = .ok (.if_icmp .eq 15, 3) := by decide +kernel
theorem own_d_method_4_code_34 : decode method_4_code 34 = .ok (.iload_n 0, 1) := by decide +kernel
theorem own_d_method_4_code_35 : decode method_4_code 35 = .ok (.iconst 1, 1) := by decide +kernel
theorem own_d_method_4_code_36 : decode method_4_code 36 = .ok (.if_icmp .eq 8, 3) := by decide +kernel
theorem own_d_method_4_code_44 : decode method_4_code 44 = .ok (.iload_n 0, 1) := by decide +kernel
theorem own_d_method_4_code_45 : decode method_4_code 45 = .ok (.iload_n 3, 1) := by decide +kernel
theorem own_d_method_4_code_46 : decode method_4_code 46 = .ok (.isub, 1) := by decide +kernel
theorem own_d_method_4_code_47 : decode method_4_code 47 = .ok (.i2l, 1) := by decide +kernel
theorem own_d_method_4_code_48 : decode method_4_code 48 = .ok (.invokestatic 18, 3) := by decide +kernel
theorem own_d_method_4_code_51 : decode method_4_code 51 = .ok (.ireturn, 1) := by decide +kernel
theorem own_d_method_4_code_39 : decode method_4_code 39 = .ok (.iload_n 3, 1) := by decide +kernel
theorem own_d_method_4_code_40 : decode method_4_code 40 = .ok (.iconst 1, 1) := by decide +kernel
theorem own_d_method_4_code_41 : decode method_4_code 41 = .ok (.if_icmp .ne 11, 3) := by decide +kernel
theorem own_d_method_4_code_52 : decode method_4_code 52 = .ok (.iload_n 2, 1) := by decide +kernel
theorem own_d_method_4_code_53 : decode method_4_code 53 = .ok (.iload 5, 2) := by decide +kernel
theorem own_d_method_4_code_55 : decode method_4_code 55 = .ok (.if_icmp .eq 15, 3) := by decide +kernel
theorem own_d_method_4_code_70 : decode method_4_code 70 = .ok (.iload_n 0, 1) := by decide +kernel
theorem own_d_method_4_code_71 : decode method_4_code 71 = .ok (.iload_n 3, 1) := by decide +kernel
theorem own_d_method_4_code_72 : decode method_4_code 72 = .ok (.isub, 1) := by decide +kernel
theorem own_d_method_4_code_73 : decode method_4_code 73 = .ok (.i2l, 1) := by decide +kernel
theorem own_d_method_4_code_74 : decode method_4_code 74 = .ok (.invokestatic 18, 3) := by decide +kernel
theorem own_d_method_4_code_77 : decode method_4_code 77 = .ok (.ireturn, 1) := by decide +kernel
theorem own_d_method_4_code_58 : decode method_4_code 58 = .ok (.iload_n 2, 1) := by decide +kernel
theorem own_d_method_4_code_59 : decode method_4_code 59 = .ok (.iload 5, 2) := by decide +kernel
theorem own_d_method_4_code_61 : decode method_4_code 61 = .ok (.if_icmp .ge 7, 3) := by decide +kernel
theorem own_d_method_4_code_64 : decode method_4_code 64 = .ok (.iconst (-1), 1) := by decide +kernel
theorem own_d_method_4_code_65 : decode method_4_code 65 = .ok (.goto 4, 3) := by decide +kernel
theorem own_d_method_4_code_69 : decode method_4_code 69 = .ok (.ireturn, 1) := by decide +kernel
theorem own_d_method_4_code_68 : decode method_4_code 68 = .ok (.iconst 1, 1) := by decide +kernel
theorem own_d_method_4_code_22 : decode method_4_code 22 = .ok (.iload_n 1, 1) := by decide +kernel
theorem own_d_method_4_code_23 : decode method_4_code 23 = .ok (.iload 4, 2) := by decide +kernel
theorem own_d_method_4_code_25 : decode method_4_code 25 = .ok (.if_icmp .ge 7, 3) := by decide +kernel
theorem own_d_method_4_code_28 : decode method_4_code 28 = .ok (.iconst (-1), 1) := by decide +kernel
theorem own_d_method_4_code_29 : decode method_4_code 29 = .ok (.goto 4, 3) := by decide +kernel
theorem own_d_method_4_code_33 : decode method_4_code 33 = .ok (.ireturn, 1) := by decide +kernel
theorem own_d_method_4_code_32 : decode method_4_code 32 = .ok (.iconst 1, 1) := by decide +kernel
theorem own_ef13 (m : MethodId) (x0 : Int32) (x1 : Int32) (x2 : Int32) (x3 : Int32) (x4 : Int32) (x5 : Int32)  : entryFrame m #[(.int x0), (.int x1), (.int x2), (.int x3), (.int x4), (.int x5)] 6 = mkF m 0 #[iv x0, iv x1, iv x2, iv x3, iv x4, iv x5] [] := by first | (simp [entryFrame, mkF, argsToLocals, Value.category]; done) | rfl
abbrev own_Q13 (Z : State) (x1 : Int32) (x2 : Int32) (x3 : Int32) (x4 : Int32) (x5 : Int32) (x6 : Int32) (h0 : Heap) (n0 : Nat) (v : Option Value) (h : Heap) (L : List Loc) : Prop := ∃ r : Int32, v = some (.int r) ∧ Fr n0 L ∧ h = h0 ∧ r = own_lex x1 x2 x3 x4 x5 x6
set_option maxRecDepth 65536 in
set_option maxHeartbeats 40000000 in
theorem own_m13 (l : Launch) (Z : State) (a0 : Array Value) (hw : ∀ d ∈ tables_1, d.before a0 Z = true) (ws : List Jvm.Cond) (x1 : Int32) (x2 : Int32) (x3 : Int32) (x4 : Int32) (x5 : Int32) (x6 : Int32) (h0 : Heap) (n0 : Nat) (O0 : Old Z n0 h0) :
    Ctr l Z (⟨"com/example/keelson/keelson/cluster/BallotCompareToPinLaw", "lex", "(IIIIII)I"⟩ : MethodName) method_4_code 6 (some .int) (Rm 1 0 0 13) #[(.int x1), (.int x2), (.int x3), (.int x4), (.int x5), (.int x6)] h0 (own_Q13 Z x1 x2 x3 x4 x5 x6 h0 n0) ws := by
  refine MetFree.of_bodySF (plainFor_of_name own_pn2) hisR ?_
  intro p e s m args below meth c s₁ Bd hml0 hP hK
  obtain ⟨rfl, hZ, hh⟩ := hP
  have hx := Bd.exec
  have hby := Bd.bytes
  have hlk : meth.locks = false := Bd.notSynchronized
  have hml : c.maxLocals = 6 := hml0
  have hown : s.vm.findClass "com/example/keelson/keelson/cluster/BallotCompareToPinLaw" = some m.cls := findClass_of_methodNamed Bd.named
  have hnm := (name_of_methodNamed Bd.named Bd.method).1
  have X0 : Stand p l e (Rm 1 0 0 13) s m #[(.int x1), (.int x2), (.int x3), (.int x4), (.int x5), (.int x6)] below meth c s₁ [] 0 0 := Stand.of_body Bd
  have e0 : s₁.heap = h0 := by rw [← hh, Bd.state]; rfl
  have N0 := Fr.nil n0
  show Goes p.tables e below (fun t o => ∃ v L, o = .returned v ∧ (own_Q13 Z x1 x2 x3 x4 x5 x6 h0 n0) v t.heap L ∧ FrameEnd s o t L ((Rm 1 0 0 13)).cells ((Rm 1 0 0 13)).slots) _
  refine Goes.via (B := s₁.setTop (mkF m 0 #[iv x1, iv x2, iv x3, iv x4, iv x5, iv x6] [])) (fun t k => castTop (own_ef13 m x1 x2 x3 x4 x5 x6) k) ?_
  refine Goes.via (B := s₁.setTop (mkF m 1 _ [(.int x1)])) (fun t k => XS.iloadN X0.here hx rfl (hb hby own_d_method_4_code_0) rfl k) ?_
  by_cases b1 : x1 = (0 : Int32)
  · refine Goes.via (B := s₁.setTop (mkF m 8 _ [])) (fun t k => XS.ifYes X0.here hx rfl (pc0 := 1) (pc' := 8) rfl (hb hby own_d_method_4_code_1) rfl (XT.i0_eq_t b1) (by decide) (by decide) k) ?_
    refine Goes.via (B := s₁.setTop (mkF m 9 _ [(.int x1)])) (fun t k => XS.iloadN X0.here hx rfl (hb hby own_d_method_4_code_8) rfl k) ?_
    refine Goes.via (B := s₁.setTop (mkF m 10 _ [(.int x4), (.int x1)])) (fun t k => XS.iloadN X0.here hx rfl (hb hby own_d_method_4_code_9) rfl k) ?_
    refine Goes.via (B := s₁.setTop (mkF m 11 _ [(.int (x1 - x4))])) (fun t k => XS.isub X0.here hx rfl (hb hby own_d_method_4_code_10) rfl k) ?_
    refine Goes.via (B := s₁.setTop (mkF m 12 _ [(.long ((x1 - x4).toInt64))])) (fun t k => XS.i2l X0.here hx rfl (hb hby own_d_method_4_code_11) rfl k) ?_
    obtain ⟨_, T2, L2, X2, ⟨r2, rfl, M2, K2, p2_0⟩, st2⟩ := callStatic X0 hx hZ hown (own_hw hw 44 rfl) (own_hw hw 45 rfl) (own_hw hw 2 rfl) (own_hw hw 46 rfl) (by decide) (argsL := [(.long ((x1 - x4).toInt64))]) (rest := []) (own_m12 l Z a0 hw [] ((x1 - x4).toInt64) h0 n0 O0 ) e0 (lenOf own_pd7 rfl) (pc := 12) (Ls := #[iv x1, iv x2, iv x3, iv x4, iv x5, iv x6]) (st := [(.long ((x1 - x4).toInt64))]) rfl (by rw [hml]; rfl) (hb hby own_d_method_4_code_12) (W := 0) (Nat.le_of_eq rfl) (by decide) (by decide) (by decide) (by decide)
    have N2 := Fr.app N0 M2
    refine Goes.via (B := T2.setTop (mkF m 15 #[iv x1, iv x2, iv x3, iv x4, iv x5, iv x6] [(.int r2)])) (fun t k => st2 _ k) ?_
    exact finI (Q := (own_Q13 Z x1 x2 x3 x4 x5 x6 h0 n0)) (F := FrameEnd) (C := ((Rm 1 0 0 13)).cells) (S := ((Rm 1 0 0 13)).slots) X2 hx Bd.returns (hb hby own_d_method_4_code_15) K2 ⟨r2, rfl, N2, rfl, (by rw [p2_0, own_sgl]; simp [own_lex, b1])⟩ (lvN X2 hlk (by decide) (by decide))
  · refine Goes.via (B := s₁.setTop (mkF m 4 _ [])) (fun t k => XS.ifNo X0.here hx rfl (hb hby own_d_method_4_code_1) rfl (XT.i0_eq_f b1) k) ?_
    refine Goes.via (B := s₁.setTop (mkF m 5 _ [(.int x4)])) (fun t k => XS.iloadN X0.here hx rfl (hb hby own_d_method_4_code_4) rfl k) ?_
    by_cases b3 : x4 = (0 : Int32)
    · refine Goes.via (B := s₁.setTop (mkF m 8 _ [])) (fun t k => XS.ifNo X0.here hx rfl (hb hby own_d_method_4_code_5) rfl (XT.i0_ne_f b3) k) ?_
      refine Goes.via (B := s₁.setTop (mkF m 9 _ [(.int x1)])) (fun t k => XS.iloadN X0.here hx rfl (hb hby own_d_method_4_code_8) rfl k) ?_
      refine Goes.via (B := s₁.setTop (mkF m 10 _ [(.int x4), (.int x1)])) (fun t k => XS.iloadN X0.here hx rfl (hb hby own_d_method_4_code_9) rfl k) ?_
      refine Goes.via (B := s₁.setTop (mkF m 11 _ [(.int (x1 - x4))])) (fun t k => XS.isub X0.here hx rfl (hb hby own_d_method_4_code_10) rfl k) ?_
      refine Goes.via (B := s₁.setTop (mkF m 12 _ [(.long ((x1 - x4).toInt64))])) (fun t k => XS.i2l X0.here hx rfl (hb hby own_d_method_4_code_11) rfl k) ?_
      obtain ⟨_, T4, L4, X4, ⟨r4, rfl, M4, K4, p4_0⟩, st4⟩ := callStatic X0 hx hZ hown (own_hw hw 44 rfl) (own_hw hw 45 rfl) (own_hw hw 2 rfl) (own_hw hw 46 rfl) (by decide) (argsL := [(.long ((x1 - x4).toInt64))]) (rest := []) (own_m12 l Z a0 hw [] ((x1 - x4).toInt64) h0 n0 O0 ) e0 (lenOf own_pd7 rfl) (pc := 12) (Ls := #[iv x1, iv x2, iv x3, iv x4, iv x5, iv x6]) (st := [(.long ((x1 - x4).toInt64))]) rfl (by rw [hml]; rfl) (hb hby own_d_method_4_code_12) (W := 0) (Nat.le_of_eq rfl) (by decide) (by decide) (by decide) (by decide)
      have N4 := Fr.app N0 M4
      refine Goes.via (B := T4.setTop (mkF m 15 #[iv x1, iv x2, iv x3, iv x4, iv x5, iv x6] [(.int r4)])) (fun t k => st4 _ k) ?_
      exact finI (Q := (own_Q13 Z x1 x2 x3 x4 x5 x6 h0 n0)) (F := FrameEnd) (C := ((Rm 1 0 0 13)).cells) (S := ((Rm 1 0 0 13)).slots) X4 hx Bd.returns (hb hby own_d_method_4_code_15) K4 ⟨r4, rfl, N4, rfl, (by rw [p4_0, own_sgl]; simp [own_lex, b1, b3])⟩ (lvN X4 hlk (by decide) (by decide))
    · refine Goes.via (B := s₁.setTop (mkF m 16 _ [])) (fun t k => XS.ifYes X0.here hx rfl (pc0 := 5) (pc' := 16) rfl (hb hby own_d_method_4_code_5) rfl (XT.i0_ne_t b3) (by decide) (by decide) k) ?_
      refine Goes.via (B := s₁.setTop (mkF m 17 _ [(.int x2)])) (fun t k => XS.iloadN X0.here hx rfl (hb hby own_d_method_4_code_16) rfl k) ?_
      refine Goes.via (B := s₁.setTop (mkF m 19 _ [(.int x5), (.int x2)])) (fun t k => XS.iload X0.here hx rfl (hb hby own_d_method_4_code_17) rfl k) ?_
      by_cases b5 : x2 = x5
      · refine Goes.via (B := s₁.setTop (mkF m 34 _ [])) (fun t k => XS.icmpYes X0.here hx rfl (pc0 := 19) (pc' := 34) rfl (hb hby own_d_method_4_code_19) rfl (XT.ii_eq_t b5) (by decide) (by decide) k) ?_
        refine Goes.via (B := s₁.setTop (mkF m 35 _ [(.int x1)])) (fun t k => XS.iloadN X0.here hx rfl (hb hby own_d_method_4_code_34) rfl k) ?_
        refine Goes.via (B := s₁.setTop (mkF m 36 _ [(.int (1 : Int32)), (.int x1)])) (fun t k => XS.iconst X0.here hx rfl (hb hby own_d_method_4_code_35) k) ?_
        by_cases b6 : x1 = (1 : Int32)
        · refine Goes.via (B := s₁.setTop (mkF m 44 _ [])) (fun t k => XS.icmpYes X0.here hx rfl (pc0 := 36) (pc' := 44) rfl (hb hby own_d_method_4_code_36) rfl (XT.ii_eq_t b6) (by decide) (by decide) k) ?_
          refine Goes.via (B := s₁.setTop (mkF m 45 _ [(.int x1)])) (fun t k => XS.iloadN X0.here hx rfl (hb hby own_d_method_4_code_44) rfl k) ?_
          refine Goes.via (B := s₁.setTop (mkF m 46 _ [(.int x4), (.int x1)])) (fun t k => XS.iloadN X0.here hx rfl (hb hby own_d_method_4_code_45) rfl k) ?_
          refine Goes.via (B := s₁.setTop (mkF m 47 _ [(.int (x1 - x4))])) (fun t k => XS.isub X0.here hx rfl (hb hby own_d_method_4_code_46) rfl k) ?_
          refine Goes.via (B := s₁.setTop (mkF m 48 _ [(.long ((x1 - x4).toInt64))])) (fun t k => XS.i2l X0.here hx rfl (hb hby own_d_method_4_code_47) rfl k) ?_
          obtain ⟨_, T7, L7, X7, ⟨r7, rfl, M7, K7, p7_0⟩, st7⟩ := callStatic X0 hx hZ hown (own_hw hw 44 rfl) (own_hw hw 45 rfl) (own_hw hw 2 rfl) (own_hw hw 46 rfl) (by decide) (argsL := [(.long ((x1 - x4).toInt64))]) (rest := []) (own_m12 l Z a0 hw [] ((x1 - x4).toInt64) h0 n0 O0 ) e0 (lenOf own_pd7 rfl) (pc := 48) (Ls := #[iv x1, iv x2, iv x3, iv x4, iv x5, iv x6]) (st := [(.long ((x1 - x4).toInt64))]) rfl (by rw [hml]; rfl) (hb hby own_d_method_4_code_48) (W := 0) (Nat.le_of_eq rfl) (by decide) (by decide) (by decide) (by decide)
          have N7 := Fr.app N0 M7
          refine Goes.via (B := T7.setTop (mkF m 51 #[iv x1, iv x2, iv x3, iv x4, iv x5, iv x6] [(.int r7)])) (fun t k => st7 _ k) ?_
          exact finI (Q := (own_Q13 Z x1 x2 x3 x4 x5 x6 h0 n0)) (F := FrameEnd) (C := ((Rm 1 0 0 13)).cells) (S := ((Rm 1 0 0 13)).slots) X7 hx Bd.returns (hb hby own_d_method_4_code_51) K7 ⟨r7, rfl, N7, rfl, (by rw [p7_0, own_sgl]; simp [own_lex, b1, b3, b5, b6])⟩ (lvN X7 hlk (by decide) (by decide))
        · refine Goes.via (B := s₁.setTop (mkF m 39 _ [])) (fun t k => XS.icmpNo X0.here hx rfl (hb hby own_d_method_4_code_36) rfl (XT.ii_eq_f b6) k) ?_
          refine Goes.via (B := s₁.setTop (mkF m 40 _ [(.int x4)])) (fun t k => XS.iloadN X0.here hx rfl (hb hby own_d_method_4_code_39) rfl k) ?_
          refine Goes.via (B := s₁.setTop (mkF m 41 _ [(.int (1 : Int32)), (.int x4)])) (fun t k => XS.iconst X0.here hx rfl (hb hby own_d_method_4_code_40) k) ?_
          by_cases b8 : x4 = (1 : Int32)
          · refine Goes.via (B := s₁.setTop (mkF m 44 _ [])) (fun t k => XS.icmpNo X0.here hx rfl (hb hby own_d_method_4_code_41) rfl (XT.ii_ne_f b8) k) ?_
            refine Goes.via (B := s₁.setTop (mkF m 45 _ [(.int x1)])) (fun t k => XS.iloadN X0.here hx rfl (hb hby own_d_method_4_code_44) rfl k) ?_
            refine Goes.via (B := s₁.setTop (mkF m 46 _ [(.int x4), (.int x1)])) (fun t k => XS.iloadN X0.here hx rfl (hb hby own_d_method_4_code_45) rfl k) ?_
            refine Goes.via (B := s₁.setTop (mkF m 47 _ [(.int (x1 - x4))])) (fun t k => XS.isub X0.here hx rfl (hb hby own_d_method_4_code_46) rfl k) ?_
            refine Goes.via (B := s₁.setTop (mkF m 48 _ [(.long ((x1 - x4).toInt64))])) (fun t k => XS.i2l X0.here hx rfl (hb hby own_d_method_4_code_47) rfl k) ?_
            obtain ⟨_, T9, L9, X9, ⟨r9, rfl, M9, K9, p9_0⟩, st9⟩ := callStatic X0 hx hZ hown (own_hw hw 44 rfl) (own_hw hw 45 rfl) (own_hw hw 2 rfl) (own_hw hw 46 rfl) (by decide) (argsL := [(.long ((x1 - x4).toInt64))]) (rest := []) (own_m12 l Z a0 hw [] ((x1 - x4).toInt64) h0 n0 O0 ) e0 (lenOf own_pd7 rfl) (pc := 48) (Ls := #[iv x1, iv x2, iv x3, iv x4, iv x5, iv x6]) (st := [(.long ((x1 - x4).toInt64))]) rfl (by rw [hml]; rfl) (hb hby own_d_method_4_code_48) (W := 0) (Nat.le_of_eq rfl) (by decide) (by decide) (by decide) (by decide)
            have N9 := Fr.app N0 M9
            refine Goes.via (B := T9.setTop (mkF m 51 #[iv x1, iv x2, iv x3, iv x4, iv x5, iv x6] [(.int r9)])) (fun t k => st9 _ k) ?_
            exact finI (Q := (own_Q13 Z x1 x2 x3 x4 x5 x6 h0 n0)) (F := FrameEnd) (C := ((Rm 1 0 0 13)).cells) (S := ((Rm 1 0 0 13)).slots) X9 hx Bd.returns (hb hby own_d_method_4_code_51) K9 ⟨r9, rfl, N9, rfl, (by rw [p9_0, own_sgl]; simp [own_lex, b1, b3, b5, b6, b8])⟩ (lvN X9 hlk (by decide) (by decide))
          · refine Goes.via (B := s₁.setTop (mkF m 52 _ [])) (fun t k => XS.icmpYes X0.here hx rfl (pc0 := 41) (pc' := 52) rfl (hb hby own_d_method_4_code_41) rfl (XT.ii_ne_t b8) (by decide) (by decide) k) ?_
            refine Goes.via (B := s₁.setTop (mkF m 53 _ [(.int x3)])) (fun t k => XS.iloadN X0.here hx rfl (hb hby own_d_method_4_code_52) rfl k) ?_
            refine Goes.via (B := s₁.setTop (mkF m 55 _ [(.int x6), (.int x3)])) (fun t k => XS.iload X0.here hx rfl (hb hby own_d_method_4_code_53) rfl k) ?_
            by_cases b10 : x3 = x6
            · refine Goes.via (B := s₁.setTop (mkF m 70 _ [])) (fun t k => XS.icmpYes X0.here hx rfl (pc0 := 55) (pc' := 70) rfl (hb hby own_d_method_4_code_55) rfl (XT.ii_eq_t b10) (by decide) (by decide) k) ?_
              refine Goes.via (B := s₁.setTop (mkF m 71 _ [(.int x1)])) (fun t k => XS.iloadN X0.here hx rfl (hb hby own_d_method_4_code_70) rfl k) ?_
              refine Goes.via (B := s₁.setTop (mkF m 72 _ [(.int x4), (.int x1)])) (fun t k => XS.iloadN X0.here hx rfl (hb hby own_d_method_4_code_71) rfl k) ?_
              refine Goes.via (B := s₁.setTop (mkF m 73 _ [(.int (x1 - x4))])) (fun t k => XS.isub X0.here hx rfl (hb hby own_d_method_4_code_72) rfl k) ?_
              refine Goes.via (B := s₁.setTop (mkF m 74 _ [(.long ((x1 - x4).toInt64))])) (fun t k => XS.i2l X0.here hx rfl (hb hby own_d_method_4_code_73) rfl k) ?_
              obtain ⟨_, T11, L11, X11, ⟨r11, rfl, M11, K11, p11_0⟩, st11⟩ := callStatic X0 hx hZ hown (own_hw hw 44 rfl) (own_hw hw 45 rfl) (own_hw hw 2 rfl) (own_hw hw 46 rfl) (by decide) (argsL := [(.long ((x1 - x4).toInt64))]) (rest := []) (own_m12 l Z a0 hw [] ((x1 - x4).toInt64) h0 n0 O0 ) e0 (lenOf own_pd7 rfl) (pc := 74) (Ls := #[iv x1, iv x2, iv x3, iv x4, iv x5, iv x6]) (st := [(.long ((x1 - x4).toInt64))]) rfl (by rw [hml]; rfl) (hb hby own_d_method_4_code_74) (W := 0) (Nat.le_of_eq rfl) (by decide) (by decide) (by decide) (by decide)
              have N11 := Fr.app N0 M11
              refine Goes.via (B := T11.setTop (mkF m 77 #[iv x1, iv x2, iv x3, iv x4, iv x5, iv x6] [(.int r11)])) (fun t k => st11 _ k) ?_
              exact finI (Q := (own_Q13 Z x1 x2 x3 x4 x5 x6 h0 n0)) (F := FrameEnd) (C := ((Rm 1 0 0 13)).cells) (S := ((Rm 1 0 0 13)).slots) X11 hx Bd.returns (hb hby own_d_method_4_code_77) K11 ⟨r11, rfl, N11, rfl, (by rw [p11_0, own_sgl]; simp [own_lex, b1, b3, b5, b6, b8, b10])⟩ (lvN X11 hlk (by decide) (by decide))
            · refine Goes.via (B := s₁.setTop (mkF m 58 _ [])) (fun t k => XS.icmpNo X0.here hx rfl (hb hby own_d_method_4_code_55) rfl (XT.ii_eq_f b10) k) ?_
              refine Goes.via (B := s₁.setTop (mkF m 59 _ [(.int x3)])) (fun t k => XS.iloadN X0.here hx rfl (hb hby own_d_method_4_code_58) rfl k) ?_
              refine Goes.via (B := s₁.setTop (mkF m 61 _ [(.int x6), (.int x3)])) (fun t k => XS.iload X0.here hx rfl (hb hby own_d_method_4_code_59) rfl k) ?_
              by_cases b12 : x3 < x6
              · refine Goes.via (B := s₁.setTop (mkF m 64 _ [])) (fun t k => XS.icmpNo X0.here hx rfl (hb hby own_d_method_4_code_61) rfl (XT.ii_ge_f b12) k) ?_
                refine Goes.via (B := s₁.setTop (mkF m 65 _ [(.int (-1 : Int32))])) (fun t k => XS.iconst X0.here hx rfl (hb hby own_d_method_4_code_64) k) ?_
                refine Goes.via (B := s₁.setTop (mkF m 69 _ [(.int (-1 : Int32))])) (fun t k => XS.goto X0.here hx rfl (pc0 := 65) (pc' := 69) rfl (hb hby own_d_method_4_code_65) (by decide) (by decide) k) ?_
                exact finI (Q := (own_Q13 Z x1 x2 x3 x4 x5 x6 h0 n0)) (F := FrameEnd) (C := ((Rm 1 0 0 13)).cells) (S := ((Rm 1 0 0 13)).slots) X0 hx Bd.returns (hb hby own_d_method_4_code_69) e0 ⟨(-1 : Int32), rfl, N0, rfl, (by simp [own_lex, b1, b3, b5, b6, b8, b10, b12])⟩ (lvN X0 hlk (by decide) (by decide))
              · refine Goes.via (B := s₁.setTop (mkF m 68 _ [])) (fun t k => XS.icmpYes X0.here hx rfl (pc0 := 61) (pc' := 68) rfl (hb hby own_d_method_4_code_61) rfl (XT.ii_ge_t b12) (by decide) (by decide) k) ?_
                refine Goes.via (B := s₁.setTop (mkF m 69 _ [(.int (1 : Int32))])) (fun t k => XS.iconst X0.here hx rfl (hb hby own_d_method_4_code_68) k) ?_
                exact finI (Q := (own_Q13 Z x1 x2 x3 x4 x5 x6 h0 n0)) (F := FrameEnd) (C := ((Rm 1 0 0 13)).cells) (S := ((Rm 1 0 0 13)).slots) X0 hx Bd.returns (hb hby own_d_method_4_code_69) e0 ⟨(1 : Int32), rfl, N0, rfl, (by simp [own_lex, b1, b3, b5, b6, b8, b10, b12])⟩ (lvN X0 hlk (by decide) (by decide))
      · refine Goes.via (B := s₁.setTop (mkF m 22 _ [])) (fun t k => XS.icmpNo X0.here hx rfl (hb hby own_d_method_4_code_19) rfl (XT.ii_eq_f b5) k) ?_
        refine Goes.via (B := s₁.setTop (mkF m 23 _ [(.int x2)])) (fun t k => XS.iloadN X0.here hx rfl (hb hby own_d_method_4_code_22) rfl k) ?_
        refine Goes.via (B := s₁.setTop (mkF m 25 _ [(.int x5), (.int x2)])) (fun t k => XS.iload X0.here hx rfl (hb hby own_d_method_4_code_23) rfl k) ?_
        by_cases b13 : x2 < x5
        · refine Goes.via (B := s₁.setTop (mkF m 28 _ [])) (fun t k => XS.icmpNo X0.here hx rfl (hb hby own_d_method_4_code_25) rfl (XT.ii_ge_f b13) k) ?_
          refine Goes.via (B := s₁.setTop (mkF m 29 _ [(.int (-1 : Int32))])) (fun t k => XS.iconst X0.here hx rfl (hb hby own_d_method_4_code_28) k) ?_
          refine Goes.via (B := s₁.setTop (mkF m 33 _ [(.int (-1 : Int32))])) (fun t k => XS.goto X0.here hx rfl (pc0 := 29) (pc' := 33) rfl (hb hby own_d_method_4_code_29) (by decide) (by decide) k) ?_
          exact finI (Q := (own_Q13 Z x1 x2 x3 x4 x5 x6 h0 n0)) (F := FrameEnd) (C := ((Rm 1 0 0 13)).cells) (S := ((Rm 1 0 0 13)).slots) X0 hx Bd.returns (hb hby own_d_method_4_code_33) e0 ⟨(-1 : Int32), rfl, N0, rfl, (by simp [own_lex, b1, b3, b5, b13])⟩ (lvN X0 hlk (by decide) (by decide))
        · refine Goes.via (B := s₁.setTop (mkF m 32 _ [])) (fun t k => XS.icmpYes X0.here hx rfl (pc0 := 25) (pc' := 32) rfl (hb hby own_d_method_4_code_25) rfl (XT.ii_ge_t b13) (by decide) (by decide) k) ?_
          refine Goes.via (B := s₁.setTop (mkF m 33 _ [(.int (1 : Int32))])) (fun t k => XS.iconst X0.here hx rfl (hb hby own_d_method_4_code_32) k) ?_
          exact finI (Q := (own_Q13 Z x1 x2 x3 x4 x5 x6 h0 n0)) (F := FrameEnd) (C := ((Rm 1 0 0 13)).cells) (S := ((Rm 1 0 0 13)).slots) X0 hx Bd.returns (hb hby own_d_method_4_code_33) e0 ⟨(1 : Int32), rfl, N0, rfl, (by simp [own_lex, b1, b3, b5, b13])⟩ (lvN X0 hlk (by decide) (by decide))
theorem own_d_jdk_29_method_69_code_0 : decode jdk_29_method_69_code 0 = .ok (.iload_n 0, 1) := by decide +kernel
theorem own_d_jdk_29_method_69_code_1 : decode jdk_29_method_69_code 1 = .ok (.iload_n 1, 1) := by decide +kernel
theorem own_d_jdk_29_method_69_code_2 : decode jdk_29_method_69_code 2 = .ok (.if_icmp .gt 7, 3) := by decide +kernel
theorem own_d_jdk_29_method_69_code_9 : decode jdk_29_method_69_code 9 = .ok (.iload_n 1, 1) := by decide +kernel
theorem own_d_jdk_29_method_69_code_10 : decode jdk_29_method_69_code 10 = .ok (.ireturn, 1) := by decide +kernel
theorem own_d_jdk_29_method_69_code_5 : decode jdk_29_method_69_code 5 = .ok (.iload_n 0, 1) := by decide +kernel
theorem own_d_jdk_29_method_69_code_6 : decode jdk_29_method_69_code 6 = .ok (.goto 4, 3) := by decide +kernel
theorem own_ef14 (m : MethodId) (x0 : Int32) (x1 : Int32)  : entryFrame m #[(.int x0), (.int x1)] 2 = mkF m 0 #[iv x0, iv x1] [] := by first | (simp [entryFrame, mkF, argsToLocals, Value.category]; done) | rfl
abbrev own_Q14 (Z : State) (x1 : Int32) (x2 : Int32) (h0 : Heap) (n0 : Nat) (v : Option Value) (h : Heap) (L : List Loc) : Prop := ∃ r : Int32, v = some (.int r) ∧ Fr n0 L ∧ h = h0 ∧ r = if x2 < x1 then x2 else x1
set_option maxRecDepth 65536 in
set_option maxHeartbeats 40000000 in
theorem own_m14 (l : Launch) (Z : State) (a0 : Array Value) (hw : ∀ d ∈ tables_1, d.before a0 Z = true) (ws : List Jvm.Cond) (x1 : Int32) (x2 : Int32) (h0 : Heap) (n0 : Nat) (O0 : Old Z n0 h0) :
    Ctr l Z (⟨"java/lang/Math", "min", "(II)I"⟩ : MethodName) jdk_29_method_69_code 2 (some .int) (Rm 0 0 0 0) #[(.int x1), (.int x2)] h0 (own_Q14 Z x1 x2 h0 n0) ws := by
  refine MetFree.of_bodySF (show plainFor (⟨"java/lang/Math", "min", "(II)I"⟩ : MethodName) = true by decide +kernel) hisR ?_
  intro p e s m args below meth c s₁ Bd hml0 hP hK
  obtain ⟨rfl, hZ, hh⟩ := hP
  have hx := Bd.exec
  have hby := Bd.bytes
  have hlk : meth.locks = false := Bd.notSynchronized
  have hml : c.maxLocals = 2 := hml0
  have hown : s.vm.findClass "java/lang/Math" = some m.cls := findClass_of_methodNamed Bd.named
  have hnm := (name_of_methodNamed Bd.named Bd.method).1
  have X0 : Stand p l e (Rm 0 0 0 0) s m #[(.int x1), (.int x2)] below meth c s₁ [] 0 0 := Stand.of_body Bd
  have e0 : s₁.heap = h0 := by rw [← hh, Bd.state]; rfl
  have N0 := Fr.nil n0
  show Goes p.tables e below (fun t o => ∃ v L, o = .returned v ∧ (own_Q14 Z x1 x2 h0 n0) v t.heap L ∧ FrameEnd s o t L ((Rm 0 0 0 0)).cells ((Rm 0 0 0 0)).slots) _
  refine Goes.via (B := s₁.setTop (mkF m 0 #[iv x1, iv x2] [])) (fun t k => castTop (own_ef14 m x1 x2) k) ?_
  refine Goes.via (B := s₁.setTop (mkF m 1 _ [(.int x1)])) (fun t k => XS.iloadN X0.here hx rfl (hb hby own_d_jdk_29_method_69_code_0) rfl k) ?_
  refine Goes.via (B := s₁.setTop (mkF m 2 _ [(.int x2), (.int x1)])) (fun t k => XS.iloadN X0.here hx rfl (hb hby own_d_jdk_29_method_69_code_1) rfl k) ?_
  by_cases b1 : x2 < x1
  · refine Goes.via (B := s₁.setTop (mkF m 9 _ [])) (fun t k => XS.icmpYes X0.here hx rfl (pc0 := 2) (pc' := 9) rfl (hb hby own_d_jdk_29_method_69_code_2) rfl (XT.ii_gt_t b1) (by decide) (by decide) k) ?_
    refine Goes.via (B := s₁.setTop (mkF m 10 _ [(.int x2)])) (fun t k => XS.iloadN X0.here hx rfl (hb hby own_d_jdk_29_method_69_code_9) rfl k) ?_
    exact finI (Q := (own_Q14 Z x1 x2 h0 n0)) (F := FrameEnd) (C := ((Rm 0 0 0 0)).cells) (S := ((Rm 0 0 0 0)).slots) X0 hx Bd.returns (hb hby own_d_jdk_29_method_69_code_10) e0 ⟨x2, rfl, N0, rfl, (if_pos b1).symm⟩ (lvN X0 hlk (by decide) (by decide))
  · refine Goes.via (B := s₁.setTop (mkF m 5 _ [])) (fun t k => XS.icmpNo X0.here hx rfl (hb hby own_d_jdk_29_method_69_code_2) rfl (XT.ii_gt_f b1) k) ?_
    refine Goes.via (B := s₁.setTop (mkF m 6 _ [(.int x1)])) (fun t k => XS.iloadN X0.here hx rfl (hb hby own_d_jdk_29_method_69_code_5) rfl k) ?_
    refine Goes.via (B := s₁.setTop (mkF m 10 _ [(.int x1)])) (fun t k => XS.goto X0.here hx rfl (pc0 := 6) (pc' := 10) rfl (hb hby own_d_jdk_29_method_69_code_6) (by decide) (by decide) k) ?_
    exact finI (Q := (own_Q14 Z x1 x2 h0 n0)) (F := FrameEnd) (C := ((Rm 0 0 0 0)).cells) (S := ((Rm 0 0 0 0)).slots) X0 hx Bd.returns (hb hby own_d_jdk_29_method_69_code_10) e0 ⟨x1, rfl, N0, rfl, (if_neg b1).symm⟩ (lvN X0 hlk (by decide) (by decide))
theorem own_d_jdk_42_method_152_code_0 : decode jdk_42_method_152_code 0 = .ok (.getstatic 38, 3) := by decide +kernel
theorem own_d_jdk_42_method_152_code_3 : decode jdk_42_method_152_code 3 = .ok (.ifCond .eq 10, 3) := by decide +kernel
theorem own_d_jdk_42_method_152_code_6 : decode jdk_42_method_152_code 6 = .ok (.aload_n 0, 1) := by decide +kernel
theorem own_d_jdk_42_method_152_code_7 : decode jdk_42_method_152_code 7 = .ok (.getfield 15, 3) := by decide +kernel
theorem own_d_jdk_42_method_152_code_10 : decode jdk_42_method_152_code 10 = .ok (.goto 4, 3) := by decide +kernel
theorem own_d_jdk_42_method_152_code_14 : decode jdk_42_method_152_code 14 = .ok (.ireturn, 1) := by decide +kernel
theorem own_ef15 (m : MethodId) (x0 : Addr)  : entryFrame m #[(.ref x0)] 1 = mkF m 0 #[rv x0] [] := by first | (simp [entryFrame, mkF, argsToLocals, Value.category]; done) | rfl
abbrev own_Q15 (Z : State) (a1 : Addr) (z0 : Int32) (h0 : Heap) (n0 : Nat) (v : Option Value) (h : Heap) (L : List Loc) : Prop := v = some (.int (0 : Int32)) ∧ Fr n0 L ∧ h = h0
set_option maxRecDepth 65536 in
set_option maxHeartbeats 40000000 in
theorem own_m15 (l : Launch) (Z : State) (a0 : Array Value) (hw : ∀ d ∈ tables_1, d.before a0 Z = true) (ws : List Jvm.Cond) (a1 : Addr) (z0 : Int32) (h0 : Heap) (n0 : Nat) (O0 : Old Z n0 h0) (hz0 : ¬ z0 = (0 : Int32)) (O_1 : Sta Z Z.heap "java/lang/String" "COMPACT_STRINGS" "Z" (.int z0)) (F_1 : Fld Z h0 a1 "java/lang/String" "coder" "B" (.int (0 : Int32))) :
    Ctr l Z (⟨"java/lang/String", "coder", "()B"⟩ : MethodName) jdk_42_method_152_code 1 (some .byte) (Rm 0 0 0 0) #[(.ref a1)] h0 (own_Q15 Z a1 z0 h0 n0) ws := by
  refine MetFree.of_bodySF (plainFor_of_name own_pn1) hisR ?_
  intro p e s m args below meth c s₁ Bd hml0 hP hK
  obtain ⟨rfl, hZ, hh⟩ := hP
  have hx := Bd.exec
  have hby := Bd.bytes
  have hlk : meth.locks = false := Bd.notSynchronized
  have hml : c.maxLocals = 1 := hml0
  have hown : s.vm.findClass "java/lang/String" = some m.cls := findClass_of_methodNamed Bd.named
  have hnm := (name_of_methodNamed Bd.named Bd.method).1
  have X0 : Stand p l e (Rm 0 0 0 0) s m #[(.ref a1)] below meth c s₁ [] 0 0 := Stand.of_body Bd
  have e0 : s₁.heap = h0 := by rw [← hh, Bd.state]; rfl
  have N0 := Fr.nil n0
  show Goes p.tables e below (fun t o => ∃ v L, o = .returned v ∧ (own_Q15 Z a1 z0 h0 n0) v t.heap L ∧ FrameEnd s o t L ((Rm 0 0 0 0)).cells ((Rm 0 0 0 0)).slots) _
  refine Goes.via (B := s₁.setTop (mkF m 0 #[rv a1] [])) (fun t k => castTop (own_ef15 m a1) k) ?_
  obtain ⟨T1, X1, e1, st1⟩ := getS2 X0 hx hZ hown (host := "") (Or.inl (own_hw hw 61 rfl)) Via.refl e0 (Sta.ext O0.2 O_1) (g := (mkF m 0 #[rv a1] [])) rfl (hb hby own_d_jdk_42_method_152_code_0)
  refine Goes.via (B := T1.setTop (mkF m 3 #[rv a1] [(.int z0)])) (fun t k => st1 _ k) ?_
  refine Goes.via (B := T1.setTop (mkF m 6 _ [])) (fun t k => XS.ifNo X1.here hx rfl (hb hby own_d_jdk_42_method_152_code_3) rfl (XT.i0_eq_f hz0) k) ?_
  refine Goes.via (B := T1.setTop (mkF m 7 _ [(.ref a1)])) (fun t k => XS.aloadN X1.here hx rfl (hb hby own_d_jdk_42_method_152_code_6) rfl rfl k) ?_
  obtain ⟨T2, X2, e2, st2⟩ := getF X1 hx hZ hown (host := "") (Or.inl (own_hw hw 62 rfl)) Via.refl e1 F_1 (g := (mkF m 7 #[rv a1] [(.ref a1)])) rfl rfl (hb hby own_d_jdk_42_method_152_code_7)
  refine Goes.via (B := T2.setTop (mkF m 10 #[rv a1] [(.int (0 : Int32))])) (fun t k => st2 _ k) ?_
  refine Goes.via (B := T2.setTop (mkF m 14 _ [(.int (0 : Int32))])) (fun t k => XS.goto X2.here hx rfl (pc0 := 10) (pc' := 14) rfl (hb hby own_d_jdk_42_method_152_code_10) (by decide) (by decide) k) ?_
  exact finN (Q := (own_Q15 Z a1 z0 h0 n0)) (F := FrameEnd) (C := ((Rm 0 0 0 0)).cells) (S := ((Rm 0 0 0 0)).slots) X2 hx (t := .byte) Bd.returns (by simp) (z' := (0 : Int32)) rfl (hb hby own_d_jdk_42_method_152_code_14) e2 ⟨rfl, N0, rfl⟩ (lvN X2 hlk (by decide) (by decide))
theorem own_d_jdk_43_method_44_code_0 : decode jdk_43_method_44_code 0 = .ok (.aload_n 0, 1) := by decide +kernel
theorem own_d_jdk_43_method_44_code_1 : decode jdk_43_method_44_code 1 = .ok (.iload_n 1, 1) := by decide +kernel
theorem own_d_jdk_43_method_44_code_2 : decode jdk_43_method_44_code 2 = .ok (.baload, 1) := by decide +kernel
theorem own_d_jdk_43_method_44_code_3 : decode jdk_43_method_44_code 3 = .ok (.sipush 255, 3) := by decide +kernel
theorem own_d_jdk_43_method_44_code_6 : decode jdk_43_method_44_code 6 = .ok (.iand, 1) := by decide +kernel
theorem own_d_jdk_43_method_44_code_7 : decode jdk_43_method_44_code 7 = .ok (.i2c, 1) := by decide +kernel
theorem own_d_jdk_43_method_44_code_8 : decode jdk_43_method_44_code 8 = .ok (.ireturn, 1) := by decide +kernel
theorem own_ef16 (m : MethodId) (x0 : Addr) (x1 : Int32)  : entryFrame m #[(.ref x0), (.int x1)] 2 = mkF m 0 #[rv x0, iv x1] [] := by first | (simp [entryFrame, mkF, argsToLocals, Value.category]; done) | rfl
abbrev own_Q16 (Z : State) (t1a : Addr) (k1a : ClassId) (cc0 : Int32) (cc1 : Int32) (h0 : Heap) (n0 : Nat) (v : Option Value) (h : Heap) (L : List Loc) : Prop := v = some (.int cc0) ∧ Fr n0 L ∧ h = h0
set_option maxRecDepth 65536 in
set_option maxHeartbeats 40000000 in
theorem own_m16 (l : Launch) (Z : State) (a0 : Array Value) (hw : ∀ d ∈ tables_1, d.before a0 Z = true) (ws : List Jvm.Cond) (t1a : Addr) (k1a : ClassId) (cc0 : Int32) (cc1 : Int32) (h0 : Heap) (n0 : Nat) (O0 : Old Z n0 h0) (hrc : ¬ cc0 < (0 : Int32) ∧ ¬ (255 : Int32) < cc0) (F_1 : Arv Z h0 t1a k1a .byte (1 : Int32) [(.int cc0.toInt8.toInt32)] (.int (0 : Int32))) :
    Ctr l Z (⟨"java/lang/StringLatin1", "getChar", "([BI)C"⟩ : MethodName) jdk_43_method_44_code 2 (some .char) (Rm 0 0 0 0) #[(.ref t1a), (.int (0 : Int32))] h0 (own_Q16 Z t1a k1a cc0 cc1 h0 n0) ws := by
  refine MetFree.of_bodySF (plainFor_of_name own_pn0) hisR ?_
  intro p e s m args below meth c s₁ Bd hml0 hP hK
  obtain ⟨rfl, hZ, hh⟩ := hP
  have hx := Bd.exec
  have hby := Bd.bytes
  have hlk : meth.locks = false := Bd.notSynchronized
  have hml : c.maxLocals = 2 := hml0
  have hown : s.vm.findClass "java/lang/StringLatin1" = some m.cls := findClass_of_methodNamed Bd.named
  have hnm := (name_of_methodNamed Bd.named Bd.method).1
  have X0 : Stand p l e (Rm 0 0 0 0) s m #[(.ref t1a), (.int (0 : Int32))] below meth c s₁ [] 0 0 := Stand.of_body Bd
  have e0 : s₁.heap = h0 := by rw [← hh, Bd.state]; rfl
  have N0 := Fr.nil n0
  show Goes p.tables e below (fun t o => ∃ v L, o = .returned v ∧ (own_Q16 Z t1a k1a cc0 cc1 h0 n0) v t.heap L ∧ FrameEnd s o t L ((Rm 0 0 0 0)).cells ((Rm 0 0 0 0)).slots) _
  refine Goes.via (B := s₁.setTop (mkF m 0 #[rv t1a, iv (0 : Int32)] [])) (fun t k => castTop (own_ef16 m t1a (0 : Int32)) k) ?_
  refine Goes.via (B := s₁.setTop (mkF m 1 _ [(.ref t1a)])) (fun t k => XS.aloadN X0.here hx rfl (hb hby own_d_jdk_43_method_44_code_0) rfl rfl k) ?_
  refine Goes.via (B := s₁.setTop (mkF m 2 _ [(.int (0 : Int32)), (.ref t1a)])) (fun t k => XS.iloadN X0.here hx rfl (hb hby own_d_jdk_43_method_44_code_1) rfl k) ?_
  obtain ⟨cl1, Ar1, q1, S1, N1, H1, G1⟩ := id F_1
  have hin1 := inb_of (j := (0 : Int32)) S1 ⟨by decide, by decide⟩
  refine Goes.via (B := s₁.setTop (mkF m 3 #[rv t1a, iv (0 : Int32)] [(.int cc0.toInt8.toInt32)])) (fun t k => X0.baloadBytes hx (j := (0 : Int32)) (v := (.int cc0.toInt8.toInt32)) (by rw [e0]; exact Ar1.1) (State.isArrayOf_alike hZ.alike Ar1.2.1) Ar1.2.2 hin1 (H1.at hin1 rfl) (g := (mkF m 2 #[rv t1a, iv (0 : Int32)] [(.int (0 : Int32)), (.ref t1a)])) rfl rfl (hb hby own_d_jdk_43_method_44_code_2) t k) ?_
  refine Goes.via (B := s₁.setTop (mkF m 6 _ [(.int (255 : Int32)), (.int cc0.toInt8.toInt32)])) (fun t k => XS.sipush X0.here hx rfl (hb hby own_d_jdk_43_method_44_code_3) k) ?_
  refine Goes.via (B := s₁.setTop (mkF m 7 _ [(.int (cc0.toInt8.toInt32 &&& (255 : Int32)))])) (fun t k => XS.iand X0.here hx rfl (hb hby own_d_jdk_43_method_44_code_6) rfl k) ?_
  refine Goes.via (B := s₁.setTop (mkF m 8 _ [(.int ((cc0.toInt8.toInt32 &&& (255 : Int32)).toUInt32.toUInt16.toUInt32.toInt32))])) (fun t k => XS.i2c X0.here hx rfl (hb hby own_d_jdk_43_method_44_code_7) rfl k) ?_
  exact finN (Q := (own_Q16 Z t1a k1a cc0 cc1 h0 n0)) (F := FrameEnd) (C := ((Rm 0 0 0 0)).cells) (S := ((Rm 0 0 0 0)).slots) X0 hx (t := .char) Bd.returns (by simp) (z' := cc0) (own_gc hrc) (hb hby own_d_jdk_43_method_44_code_8) e0 ⟨rfl, N0, rfl⟩ (lvN X0 hlk (by decide) (by decide))
theorem own_ef17 (m : MethodId) (x0 : Addr) (x1 : Int32)  : entryFrame m #[(.ref x0), (.int x1)] 2 = mkF m 0 #[rv x0, iv x1] [] := by first | (simp [entryFrame, mkF, argsToLocals, Value.category]; done) | rfl
abbrev own_Q17 (Z : State) (t1a : Addr) (k1a : ClassId) (cc0 : Int32) (cc1 : Int32) (h0 : Heap) (n0 : Nat) (v : Option Value) (h : Heap) (L : List Loc) : Prop := v = some (.int cc0) ∧ Fr n0 L ∧ h = h0
set_option maxRecDepth 65536 in
set_option maxHeartbeats 40000000 in
theorem own_m17 (l : Launch) (Z : State) (a0 : Array Value) (hw : ∀ d ∈ tables_1, d.before a0 Z = true) (ws : List Jvm.Cond) (t1a : Addr) (k1a : ClassId) (cc0 : Int32) (cc1 : Int32) (h0 : Heap) (n0 : Nat) (O0 : Old Z n0 h0) (hrc : ¬ cc0 < (0 : Int32) ∧ ¬ (255 : Int32) < cc0) (F_1 : Arv Z h0 t1a k1a .byte (2 : Int32) [(.int cc0.toInt8.toInt32), (.int cc1.toInt8.toInt32)] (.int (0 : Int32))) :
    Ctr l Z (⟨"java/lang/StringLatin1", "getChar", "([BI)C"⟩ : MethodName) jdk_43_method_44_code 2 (some .char) (Rm 0 0 0 0) #[(.ref t1a), (.int (0 : Int32))] h0 (own_Q17 Z t1a k1a cc0 cc1 h0 n0) ws := by
  refine MetFree.of_bodySF (plainFor_of_name own_pn0) hisR ?_
  intro p e s m args below meth c s₁ Bd hml0 hP hK
  obtain ⟨rfl, hZ, hh⟩ := hP
  have hx := Bd.exec
  have hby := Bd.bytes
  have hlk : meth.locks = false := Bd.notSynchronized
  have hml : c.maxLocals = 2 := hml0
  have hown : s.vm.findClass "java/lang/StringLatin1" = some m.cls := findClass_of_methodNamed Bd.named
  have hnm := (name_of_methodNamed Bd.named Bd.method).1
  have X0 : Stand p l e (Rm 0 0 0 0) s m #[(.ref t1a), (.int (0 : Int32))] below meth c s₁ [] 0 0 := Stand.of_body Bd
  have e0 : s₁.heap = h0 := by rw [← hh, Bd.state]; rfl
  have N0 := Fr.nil n0
  show Goes p.tables e below (fun t o => ∃ v L, o = .returned v ∧ (own_Q17 Z t1a k1a cc0 cc1 h0 n0) v t.heap L ∧ FrameEnd s o t L ((Rm 0 0 0 0)).cells ((Rm 0 0 0 0)).slots) _
  refine Goes.via (B := s₁.setTop (mkF m 0 #[rv t1a, iv (0 : Int32)] [])) (fun t k => castTop (own_ef17 m t1a (0 : Int32)) k) ?_
  refine Goes.via (B := s₁.setTop (mkF m 1 _ [(.ref t1a)])) (fun t k => XS.aloadN X0.here hx rfl (hb hby own_d_jdk_43_method_44_code_0) rfl rfl k) ?_
  refine Goes.via (B := s₁.setTop (mkF m 2 _ [(.int (0 : Int32)), (.ref t1a)])) (fun t k => XS.iloadN X0.here hx rfl (hb hby own_d_jdk_43_method_44_code_1) rfl k) ?_
  obtain ⟨cl1, Ar1, q1, S1, N1, H1, G1⟩ := id F_1
  have hin1 := inb_of (j := (0 : Int32)) S1 ⟨by decide, by decide⟩
  refine Goes.via (B := s₁.setTop (mkF m 3 #[rv t1a, iv (0 : Int32)] [(.int cc0.toInt8.toInt32)])) (fun t k => X0.baloadBytes hx (j := (0 : Int32)) (v := (.int cc0.toInt8.toInt32)) (by rw [e0]; exact Ar1.1) (State.isArrayOf_alike hZ.alike Ar1.2.1) Ar1.2.2 hin1 (H1.at hin1 rfl) (g := (mkF m 2 #[rv t1a, iv (0 : Int32)] [(.int (0 : Int32)), (.ref t1a)])) rfl rfl (hb hby own_d_jdk_43_method_44_code_2) t k) ?_
  refine Goes.via (B := s₁.setTop (mkF m 6 _ [(.int (255 : Int32)), (.int cc0.toInt8.toInt32)])) (fun t k => XS.sipush X0.here hx rfl (hb hby own_d_jdk_43_method_44_code_3) k) ?_
  refine Goes.via (B := s₁.setTop (mkF m 7 _ [(.int (cc0.toInt8.toInt32 &&& (255 : Int32)))])) (fun t k => XS.iand X0.here hx rfl (hb hby own_d_jdk_43_method_44_code_6) rfl k) ?_
  refine Goes.via (B := s₁.setTop (mkF m 8 _ [(.int ((cc0.toInt8.toInt32 &&& (255 : Int32)).toUInt32.toUInt16.toUInt32.toInt32))])) (fun t k => XS.i2c X0.here hx rfl (hb hby own_d_jdk_43_method_44_code_7) rfl k) ?_
  exact finN (Q := (own_Q17 Z t1a k1a cc0 cc1 h0 n0)) (F := FrameEnd) (C := ((Rm 0 0 0 0)).cells) (S := ((Rm 0 0 0 0)).slots) X0 hx (t := .char) Bd.returns (by simp) (z' := cc0) (own_gc hrc) (hb hby own_d_jdk_43_method_44_code_8) e0 ⟨rfl, N0, rfl⟩ (lvN X0 hlk (by decide) (by decide))
theorem own_ef18 (m : MethodId) (x0 : Addr) (x1 : Int32)  : entryFrame m #[(.ref x0), (.int x1)] 2 = mkF m 0 #[rv x0, iv x1] [] := by first | (simp [entryFrame, mkF, argsToLocals, Value.category]; done) | rfl
abbrev own_Q18 (Z : State) (t1a : Addr) (k1a : ClassId) (cc0 : Int32) (cc1 : Int32) (h0 : Heap) (n0 : Nat) (v : Option Value) (h : Heap) (L : List Loc) : Prop := v = some (.int cc1) ∧ Fr n0 L ∧ h = h0
set_option maxRecDepth 65536 in
set_option maxHeartbeats 40000000 in
theorem own_m18 (l : Launch) (Z : State) (a0 : Array Value) (hw : ∀ d ∈ tables_1, d.before a0 Z = true) (ws : List Jvm.Cond) (t1a : Addr) (k1a : ClassId) (cc0 : Int32) (cc1 : Int32) (h0 : Heap) (n0 : Nat) (O0 : Old Z n0 h0) (hrc : ¬ cc1 < (0 : Int32) ∧ ¬ (255 : Int32) < cc1) (F_1 : Arv Z h0 t1a k1a .byte (2 : Int32) [(.int cc0.toInt8.toInt32), (.int cc1.toInt8.toInt32)] (.int (0 : Int32))) :
    Ctr l Z (⟨"java/lang/StringLatin1", "getChar", "([BI)C"⟩ : MethodName) jdk_43_method_44_code 2 (some .char) (Rm 0 0 0 0) #[(.ref t1a), (.int (1 : Int32))] h0 (own_Q18 Z t1a k1a cc0 cc1 h0 n0) ws := by
  refine MetFree.of_bodySF (plainFor_of_name own_pn0) hisR ?_
  intro p e s m args below meth c s₁ Bd hml0 hP hK
  obtain ⟨rfl, hZ, hh⟩ := hP
  have hx := Bd.exec
  have hby := Bd.bytes
  have hlk : meth.locks = false := Bd.notSynchronized
  have hml : c.maxLocals = 2 := hml0
  have hown : s.vm.findClass "java/lang/StringLatin1" = some m.cls := findClass_of_methodNamed Bd.named
  have hnm := (name_of_methodNamed Bd.named Bd.method).1
  have X0 : Stand p l e (Rm 0 0 0 0) s m #[(.ref t1a), (.int (1 : Int32))] below meth c s₁ [] 0 0 := Stand.of_body Bd
  have e0 : s₁.heap = h0 := by rw [← hh, Bd.state]; rfl
  have N0 := Fr.nil n0
  show Goes p.tables e below (fun t o => ∃ v L, o = .returned v ∧ (own_Q18 Z t1a k1a cc0 cc1 h0 n0) v t.heap L ∧ FrameEnd s o t L ((Rm 0 0 0 0)).cells ((Rm 0 0 0 0)).slots) _
  refine Goes.via (B := s₁.setTop (mkF m 0 #[rv t1a, iv (1 : Int32)] [])) (fun t k => castTop (own_ef18 m t1a (1 : Int32)) k) ?_
  refine Goes.via (B := s₁.setTop (mkF m 1 _ [(.ref t1a)])) (fun t k => XS.aloadN X0.here hx rfl (hb hby own_d_jdk_43_method_44_code_0) rfl rfl k) ?_
  refine Goes.via (B := s₁.setTop (mkF m 2 _ [(.int (1 : Int32)), (.ref t1a)])) (fun t k => XS.iloadN X0.here hx rfl (hb hby own_d_jdk_43_method_44_code_1) rfl k) ?_
  obtain ⟨cl1, Ar1, q1, S1, N1, H1, G1⟩ := id F_1
  have hin1 := inb_of (j := (1 : Int32)) S1 ⟨by decide, by decide⟩
  refine Goes.via (B := s₁.setTop (mkF m 3 #[rv t1a, iv (1 : Int32)] [(.int cc1.toInt8.toInt32)])) (fun t k => X0.baloadBytes hx (j := (1 : Int32)) (v := (.int cc1.toInt8.toInt32)) (by rw [e0]; exact Ar1.1) (State.isArrayOf_alike hZ.alike Ar1.2.1) Ar1.2.2 hin1 (H1.at hin1 rfl) (g := (mkF m 2 #[rv t1a, iv (1 : Int32)] [(.int (1 : Int32)), (.ref t1a)])) rfl rfl (hb hby own_d_jdk_43_method_44_code_2) t k) ?_
  refine Goes.via (B := s₁.setTop (mkF m 6 _ [(.int (255 : Int32)), (.int cc1.toInt8.toInt32)])) (fun t k => XS.sipush X0.here hx rfl (hb hby own_d_jdk_43_method_44_code_3) k) ?_
  refine Goes.via (B := s₁.setTop (mkF m 7 _ [(.int (cc1.toInt8.toInt32 &&& (255 : Int32)))])) (fun t k => XS.iand X0.here hx rfl (hb hby own_d_jdk_43_method_44_code_6) rfl k) ?_
  refine Goes.via (B := s₁.setTop (mkF m 8 _ [(.int ((cc1.toInt8.toInt32 &&& (255 : Int32)).toUInt32.toUInt16.toUInt32.toInt32))])) (fun t k => XS.i2c X0.here hx rfl (hb hby own_d_jdk_43_method_44_code_7) rfl k) ?_
  exact finN (Q := (own_Q18 Z t1a k1a cc0 cc1 h0 n0)) (F := FrameEnd) (C := ((Rm 0 0 0 0)).cells) (S := ((Rm 0 0 0 0)).slots) X0 hx (t := .char) Bd.returns (by simp) (z' := cc1) (own_gc hrc) (hb hby own_d_jdk_43_method_44_code_8) e0 ⟨rfl, N0, rfl⟩ (lvN X0 hlk (by decide) (by decide))
theorem own_pn7 : plainName "jdk/internal/util/ArraysSupport" = true := by first | (simp [plainName, overriddenIn]; done) | decide +kernel
theorem own_d_jdk_48_method_13_code_0 : decode jdk_48_method_13_code 0 = .ok (.iconst 0, 1) := by decide +kernel
theorem own_d_jdk_48_method_13_code_1 : decode jdk_48_method_13_code 1 = .ok (.istore_n 3, 1) := by decide +kernel
theorem own_d_jdk_48_method_13_code_2 : decode jdk_48_method_13_code 2 = .ok (.iload_n 2, 1) := by decide +kernel
theorem own_d_jdk_48_method_13_code_3 : decode jdk_48_method_13_code 3 = .ok (.bipush 7, 2) := by decide +kernel
theorem own_d_jdk_48_method_13_code_5 : decode jdk_48_method_13_code 5 = .ok (.if_icmp .le 44, 3) := by decide +kernel
theorem own_d_jdk_48_method_13_code_49 : decode jdk_48_method_13_code 49 = .ok (.iload_n 3, 1) := by decide +kernel
theorem own_d_jdk_48_method_13_code_50 : decode jdk_48_method_13_code 50 = .ok (.iload_n 2, 1) := by decide +kernel
theorem own_d_jdk_48_method_13_code_51 : decode jdk_48_method_13_code 51 = .ok (.if_icmp .ge 20, 3) := by decide +kernel
theorem own_d_jdk_48_method_13_code_71 : decode jdk_48_method_13_code 71 = .ok (.iconst (-1), 1) := by decide +kernel
theorem own_d_jdk_48_method_13_code_72 : decode jdk_48_method_13_code 72 = .ok (.ireturn, 1) := by decide +kernel
theorem own_ef19 (m : MethodId) (x0 : Addr) (x1 : Addr) (x2 : Int32)  : entryFrame m #[(.ref x0), (.ref x1), (.int x2)] 4 = mkF m 0 #[rv x0, rv x1, iv x2, u_] [] := by first | (simp [entryFrame, mkF, argsToLocals, Value.category]; done) | rfl
abbrev own_Q19 (Z : State) (t1a : Addr) (k1a : ClassId) (t2a : Addr) (k2a : ClassId) (cc0 : Int32) (cc1 : Int32) (dd0 : Int32) (dd1 : Int32) (h0 : Heap) (n0 : Nat) (v : Option Value) (h : Heap) (L : List Loc) : Prop := ∃ r : Int32, v = some (.int r) ∧ Fr n0 L ∧ h = h0 ∧ r = (-1 : Int32)
set_option maxRecDepth 65536 in
set_option maxHeartbeats 40000000 in
theorem own_m19 (l : Launch) (Z : State) (a0 : Array Value) (hw : ∀ d ∈ tables_1, d.before a0 Z = true) (ws : List Jvm.Cond) (t1a : Addr) (k1a : ClassId) (t2a : Addr) (k2a : ClassId) (cc0 : Int32) (cc1 : Int32) (dd0 : Int32) (dd1 : Int32) (h0 : Heap) (n0 : Nat) (O0 : Old Z n0 h0) (F_1 : Arv Z h0 t1a k1a .byte (0 : Int32) [] (.int (0 : Int32))) (F_2 : Arv Z h0 t2a k2a .byte (0 : Int32) [] (.int (0 : Int32))) :
    Ctr l Z (⟨"jdk/internal/util/ArraysSupport", "mismatch", "([B[BI)I"⟩ : MethodName) jdk_48_method_13_code 4 (some .int) (Rm 0 0 0 0) #[(.ref t1a), (.ref t2a), (.int (0 : Int32))] h0 (own_Q19 Z t1a k1a t2a k2a cc0 cc1 dd0 dd1 h0 n0) ws := by
  refine MetFree.of_bodySF (plainFor_of_name own_pn7) hisR ?_
  intro p e s m args below meth c s₁ Bd hml0 hP hK
  obtain ⟨rfl, hZ, hh⟩ := hP
  have hx := Bd.exec
  have hby := Bd.bytes
  have hlk : meth.locks = false := Bd.notSynchronized
  have hml : c.maxLocals = 4 := hml0
  have hown : s.vm.findClass "jdk/internal/util/ArraysSupport" = some m.cls := findClass_of_methodNamed Bd.named
  have hnm := (name_of_methodNamed Bd.named Bd.method).1
  have X0 : Stand p l e (Rm 0 0 0 0) s m #[(.ref t1a), (.ref t2a), (.int (0 : Int32))] below meth c s₁ [] 0 0 := Stand.of_body Bd
  have e0 : s₁.heap = h0 := by rw [← hh, Bd.state]; rfl
  have N0 := Fr.nil n0
  show Goes p.tables e below (fun t o => ∃ v L, o = .returned v ∧ (own_Q19 Z t1a k1a t2a k2a cc0 cc1 dd0 dd1 h0 n0) v t.heap L ∧ FrameEnd s o t L ((Rm 0 0 0 0)).cells ((Rm 0 0 0 0)).slots) _
  refine Goes.via (B := s₁.setTop (mkF m 0 #[rv t1a, rv t2a, iv (0 : Int32), u_] [])) (fun t k => castTop (own_ef19 m t1a t2a (0 : Int32)) k) ?_
  refine Goes.via (B := s₁.setTop (mkF m 1 _ [(.int (0 : Int32))])) (fun t k => XS.iconst X0.here hx rfl (hb hby own_d_jdk_48_method_13_code_0) k) ?_
  refine Goes.via (B := s₁.setTop (mkF m 2 _ [])) (fun t k => XS.istoreN X0.here hx rfl (hb hby own_d_jdk_48_method_13_code_1) rfl (l' := #[rv t1a, rv t2a, iv (0 : Int32), iv (0 : Int32)]) rfl k) ?_
  refine Goes.via (B := s₁.setTop (mkF m 3 _ [(.int (0 : Int32))])) (fun t k => XS.iloadN X0.here hx rfl (hb hby own_d_jdk_48_method_13_code_2) rfl k) ?_
  refine Goes.via (B := s₁.setTop (mkF m 5 _ [(.int (7 : Int32)), (.int (0 : Int32))])) (fun t k => XS.bipush X0.here hx rfl (hb hby own_d_jdk_48_method_13_code_3) k) ?_
  refine Goes.via (B := s₁.setTop (mkF m 49 _ [])) (fun t k => XS.icmpYes X0.here hx rfl (pc0 := 5) (pc' := 49) rfl (hb hby own_d_jdk_48_method_13_code_5) rfl (XT.ii_le_t (by decide)) (by decide) (by decide) k) ?_
  refine Goes.via (B := s₁.setTop (mkF m 50 _ [(.int (0 : Int32))])) (fun t k => XS.iloadN X0.here hx rfl (hb hby own_d_jdk_48_method_13_code_49) rfl k) ?_
  refine Goes.via (B := s₁.setTop (mkF m 51 _ [(.int (0 : Int32)), (.int (0 : Int32))])) (fun t k => XS.iloadN X0.here hx rfl (hb hby own_d_jdk_48_method_13_code_50) rfl k) ?_
  refine Goes.via (B := s₁.setTop (mkF m 71 _ [])) (fun t k => XS.icmpYes X0.here hx rfl (pc0 := 51) (pc' := 71) rfl (hb hby own_d_jdk_48_method_13_code_51) rfl (XT.ii_ge_t (by decide)) (by decide) (by decide) k) ?_
  refine Goes.via (B := s₁.setTop (mkF m 72 _ [(.int (-1 : Int32))])) (fun t k => XS.iconst X0.here hx rfl (hb hby own_d_jdk_48_method_13_code_71) k) ?_
  exact finI (Q := (own_Q19 Z t1a k1a t2a k2a cc0 cc1 dd0 dd1 h0 n0)) (F := FrameEnd) (C := ((Rm 0 0 0 0)).cells) (S := ((Rm 0 0 0 0)).slots) X0 hx Bd.returns (hb hby own_d_jdk_48_method_13_code_72) e0 ⟨(-1 : Int32), rfl, N0, rfl, rfl⟩ (lvN X0 hlk (by decide) (by decide))
theorem own_d_jdk_43_method_15_code_0 : decode jdk_43_method_15_code 0 = .ok (.iload_n 2, 1) := by decide +kernel
theorem own_d_jdk_43_method_15_code_1 : decode jdk_43_method_15_code 1 = .ok (.iload_n 3, 1) := by decide +kernel
theorem own_d_jdk_43_method_15_code_2 : decode jdk_43_method_15_code 2 = .ok (.invokestatic 38, 3) := by decide +kernel
theorem own_pd8 : parseMethodDescriptor "(II)I" = some ⟨[.int, .int], some .int⟩ := by decide +kernel
theorem own_d_jdk_43_method_15_code_5 : decode jdk_43_method_15_code 5 = .ok (.istore 4, 2) := by decide +kernel
theorem own_d_jdk_43_method_15_code_7 : decode jdk_43_method_15_code 7 = .ok (.aload_n 0, 1) := by decide +kernel
theorem own_d_jdk_43_method_15_code_8 : decode jdk_43_method_15_code 8 = .ok (.aload_n 1, 1) := by decide +kernel
theorem own_d_jdk_43_method_15_code_9 : decode jdk_43_method_15_code 9 = .ok (.iload 4, 2) := by decide +kernel
theorem own_d_jdk_43_method_15_code_11 : decode jdk_43_method_15_code 11 = .ok (.invokestatic 44, 3) := by decide +kernel
theorem own_pd9 : parseMethodDescriptor "([B[BI)I" = some ⟨[(.array .byte), (.array .byte), .int], some .int⟩ := by decide +kernel
theorem own_d_jdk_43_method_15_code_14 : decode jdk_43_method_15_code 14 = .ok (.istore 5, 2) := by decide +kernel
theorem own_d_jdk_43_method_15_code_16 : decode jdk_43_method_15_code 16 = .ok (.iload 5, 2) := by decide +kernel
theorem own_d_jdk_43_method_15_code_18 : decode jdk_43_method_15_code 18 = .ok (.ifCond .ge 9, 3) := by decide +kernel
theorem own_d_jdk_43_method_15_code_21 : decode jdk_43_method_15_code 21 = .ok (.iload_n 2, 1) := by decide +kernel
theorem own_d_jdk_43_method_15_code_22 : decode jdk_43_method_15_code 22 = .ok (.iload_n 3, 1) := by decide +kernel
theorem own_d_jdk_43_method_15_code_23 : decode jdk_43_method_15_code 23 = .ok (.isub, 1) := by decide +kernel
theorem own_d_jdk_43_method_15_code_24 : decode jdk_43_method_15_code 24 = .ok (.goto 16, 3) := by decide +kernel
theorem own_d_jdk_43_method_15_code_40 : decode jdk_43_method_15_code 40 = .ok (.ireturn, 1) := by decide +kernel
theorem own_ef20 (m : MethodId) (x0 : Addr) (x1 : Addr) (x2 : Int32) (x3 : Int32)  : entryFrame m #[(.ref x0), (.ref x1), (.int x2), (.int x3)] 6 = mkF m 0 #[rv x0, rv x1, iv x2, iv x3, u_, u_] [] := by first | (simp [entryFrame, mkF, argsToLocals, Value.category]; done) | rfl
abbrev own_Q20 (Z : State) (t1a : Addr) (k1a : ClassId) (t2a : Addr) (k2a : ClassId) (cc0 : Int32) (cc1 : Int32) (dd0 : Int32) (dd1 : Int32) (h0 : Heap) (n0 : Nat) (v : Option Value) (h : Heap) (L : List Loc) : Prop := ∃ r : Int32, v = some (.int r) ∧ Fr n0 L ∧ h = h0 ∧ own_sg r = own_lex (0 : Int32) cc0 cc1 (0 : Int32) dd0 dd1
set_option maxRecDepth 65536 in
set_option maxHeartbeats 40000000 in
theorem own_m20 (l : Launch) (Z : State) (a0 : Array Value) (hw : ∀ d ∈ tables_1, d.before a0 Z = true) (ws : List Jvm.Cond) (t1a : Addr) (k1a : ClassId) (t2a : Addr) (k2a : ClassId) (cc0 : Int32) (cc1 : Int32) (dd0 : Int32) (dd1 : Int32) (h0 : Heap) (n0 : Nat) (O0 : Old Z n0 h0) (hcc0 : ¬ cc0 < (0 : Int32) ∧ ¬ (255 : Int32) < cc0) (hcc1 : ¬ cc1 < (0 : Int32) ∧ ¬ (255 : Int32) < cc1) (hdd0 : ¬ dd0 < (0 : Int32) ∧ ¬ (255 : Int32) < dd0) (hdd1 : ¬ dd1 < (0 : Int32) ∧ ¬ (255 : Int32) < dd1) (F_1 : Arv Z h0 t1a k1a .byte (0 : Int32) [] (.int (0 : Int32))) (F_2 : Arv Z h0 t2a k2a .byte (0 : Int32) [] (.int (0 : Int32))) :
    Ctr l Z (⟨"java/lang/StringLatin1", "compareTo", "([B[BII)I"⟩ : MethodName) jdk_43_method_15_code 6 (some .int) (Rm 1 0 0 15) #[(.ref t1a), (.ref t2a), (.int (0 : Int32)), (.int (0 : Int32))] h0 (own_Q20 Z t1a k1a t2a k2a cc0 cc1 dd0 dd1 h0 n0) ws := by
  refine MetFree.of_bodySF (plainFor_of_name own_pn0) hisR ?_
  intro p e s m args below meth c s₁ Bd hml0 hP hK
  obtain ⟨rfl, hZ, hh⟩ := hP
  have hx := Bd.exec
  have hby := Bd.bytes
  have hlk : meth.locks = false := Bd.notSynchronized
  have hml : c.maxLocals = 6 := hml0
  have hown : s.vm.findClass "java/lang/StringLatin1" = some m.cls := findClass_of_methodNamed Bd.named
  have hnm := (name_of_methodNamed Bd.named Bd.method).1
  have X0 : Stand p l e (Rm 1 0 0 15) s m #[(.ref t1a), (.ref t2a), (.int (0 : Int32)), (.int (0 : Int32))] below meth c s₁ [] 0 0 := Stand.of_body Bd
  have e0 : s₁.heap = h0 := by rw [← hh, Bd.state]; rfl
  have N0 := Fr.nil n0
  show Goes p.tables e below (fun t o => ∃ v L, o = .returned v ∧ (own_Q20 Z t1a k1a t2a k2a cc0 cc1 dd0 dd1 h0 n0) v t.heap L ∧ FrameEnd s o t L ((Rm 1 0 0 15)).cells ((Rm 1 0 0 15)).slots) _
  refine Goes.via (B := s₁.setTop (mkF m 0 #[rv t1a, rv t2a, iv (0 : Int32), iv (0 : Int32), u_, u_] [])) (fun t k => castTop (own_ef20 m t1a t2a (0 : Int32) (0 : Int32)) k) ?_
  refine Goes.via (B := s₁.setTop (mkF m 1 _ [(.int (0 : Int32))])) (fun t k => XS.iloadN X0.here hx rfl (hb hby own_d_jdk_43_method_15_code_0) rfl k) ?_
  refine Goes.via (B := s₁.setTop (mkF m 2 _ [(.int (0 : Int32)), (.int (0 : Int32))])) (fun t k => XS.iloadN X0.here hx rfl (hb hby own_d_jdk_43_method_15_code_1) rfl k) ?_
  obtain ⟨_, T1, L1, X1, ⟨r1, rfl, M1, K1, p1_0⟩, st1⟩ := callStatic X0 hx hZ hown (own_hw hw 70 rfl) (own_hw hw 71 rfl) (own_hw hw 72 rfl) (own_hw hw 73 rfl) (by decide) (argsL := [(.int (0 : Int32)), (.int (0 : Int32))]) (rest := []) (own_m14 l Z a0 hw [] (0 : Int32) (0 : Int32) h0 n0 O0 ) e0 (lenOf own_pd8 rfl) (pc := 2) (Ls := #[rv t1a, rv t2a, iv (0 : Int32), iv (0 : Int32), u_, u_]) (st := [(.int (0 : Int32)), (.int (0 : Int32))]) rfl (by rw [hml]; rfl) (hb hby own_d_jdk_43_method_15_code_2) (W := 0) (Nat.le_of_eq rfl) (by decide) (by decide) (by decide) (by decide)
  have N1 := Fr.app N0 M1
  refine Goes.via (B := T1.setTop (mkF m 5 #[rv t1a, rv t2a, iv (0 : Int32), iv (0 : Int32), u_, u_] [(.int r1)])) (fun t k => st1 _ k) ?_
  obtain rfl : r1 = (0 : Int32) := p1_0.trans (by decide)
  refine Goes.via (B := T1.setTop (mkF m 7 _ [])) (fun t k => XS.istore X1.here hx rfl (hb hby own_d_jdk_43_method_15_code_5) rfl (l' := #[rv t1a, rv t2a, iv (0 : Int32), iv (0 : Int32), iv (0 : Int32), u_]) rfl k) ?_
  refine Goes.via (B := T1.setTop (mkF m 8 _ [(.ref t1a)])) (fun t k => XS.aloadN X1.here hx rfl (hb hby own_d_jdk_43_method_15_code_7) rfl rfl k) ?_
  refine Goes.via (B := T1.setTop (mkF m 9 _ [(.ref t2a), (.ref t1a)])) (fun t k => XS.aloadN X1.here hx rfl (hb hby own_d_jdk_43_method_15_code_8) rfl rfl k) ?_
  refine Goes.via (B := T1.setTop (mkF m 11 _ [(.int (0 : Int32)), (.ref t2a), (.ref t1a)])) (fun t k => XS.iload X1.here hx rfl (hb hby own_d_jdk_43_method_15_code_9) rfl k) ?_
  obtain ⟨_, T2, L2, X2, ⟨r2, rfl, M2, K2, p2_0⟩, st2⟩ := callStatic X1 hx hZ hown (own_hw hw 74 rfl) (own_hw hw 75 rfl) (own_hw hw 76 rfl) (own_hw hw 77 rfl) (by decide) (argsL := [(.ref t1a), (.ref t2a), (.int (0 : Int32))]) (rest := []) (own_m19 l Z a0 hw [] t1a k1a t2a k2a cc0 cc1 dd0 dd1 h0 n0 O0 F_1 F_2) K1 (lenOf own_pd9 rfl) (pc := 11) (Ls := #[rv t1a, rv t2a, iv (0 : Int32), iv (0 : Int32), iv (0 : Int32), u_]) (st := [(.int (0 : Int32)), (.ref t2a), (.ref t1a)]) rfl (by rw [hml]; rfl) (hb hby own_d_jdk_43_method_15_code_11) (W := 0) (Nat.le_of_eq rfl) (by decide) (by decide) (by decide) (by decide)
  have N2 := Fr.app N1 M2
  refine Goes.via (B := T2.setTop (mkF m 14 #[rv t1a, rv t2a, iv (0 : Int32), iv (0 : Int32), iv (0 : Int32), u_] [(.int r2)])) (fun t k => st2 _ k) ?_
  obtain rfl : r2 = (-1 : Int32) := p2_0
  refine Goes.via (B := T2.setTop (mkF m 16 _ [])) (fun t k => XS.istore X2.here hx rfl (hb hby own_d_jdk_43_method_15_code_14) rfl (l' := #[rv t1a, rv t2a, iv (0 : Int32), iv (0 : Int32), iv (0 : Int32), iv (-1 : Int32)]) rfl k) ?_
  refine Goes.via (B := T2.setTop (mkF m 18 _ [(.int (-1 : Int32))])) (fun t k => XS.iload X2.here hx rfl (hb hby own_d_jdk_43_method_15_code_16) rfl k) ?_
  refine Goes.via (B := T2.setTop (mkF m 21 _ [])) (fun t k => XS.ifNo X2.here hx rfl (hb hby own_d_jdk_43_method_15_code_18) rfl (XT.i0_ge_f (by decide)) k) ?_
  refine Goes.via (B := T2.setTop (mkF m 22 _ [(.int (0 : Int32))])) (fun t k => XS.iloadN X2.here hx rfl (hb hby own_d_jdk_43_method_15_code_21) rfl k) ?_
  refine Goes.via (B := T2.setTop (mkF m 23 _ [(.int (0 : Int32)), (.int (0 : Int32))])) (fun t k => XS.iloadN X2.here hx rfl (hb hby own_d_jdk_43_method_15_code_22) rfl k) ?_
  refine Goes.via (B := T2.setTop (mkF m 24 _ [(.int ((0 : Int32) - (0 : Int32)))])) (fun t k => XS.isub X2.here hx rfl (hb hby own_d_jdk_43_method_15_code_23) rfl k) ?_
  refine Goes.via (B := T2.setTop (mkF m 40 _ [(.int ((0 : Int32) - (0 : Int32)))])) (fun t k => XS.goto X2.here hx rfl (pc0 := 24) (pc' := 40) rfl (hb hby own_d_jdk_43_method_15_code_24) (by decide) (by decide) k) ?_
  exact finI (Q := (own_Q20 Z t1a k1a t2a k2a cc0 cc1 dd0 dd1 h0 n0)) (F := FrameEnd) (C := ((Rm 1 0 0 15)).cells) (S := ((Rm 1 0 0 15)).slots) X2 hx Bd.returns (hb hby own_d_jdk_43_method_15_code_40) K2 ⟨((0 : Int32) - (0 : Int32)), rfl, N2, rfl, (by simp [own_lex])⟩ (lvN X2 hlk (by decide) (by decide))
theorem own_d_jdk_43_method_14_code_0 : decode jdk_43_method_14_code 0 = .ok (.aload_n 0, 1) := by decide +kernel
theorem own_d_jdk_43_method_14_code_1 : decode jdk_43_method_14_code 1 = .ok (.arraylength, 1) := by decide +kernel
theorem own_d_jdk_43_method_14_code_2 : decode jdk_43_method_14_code 2 = .ok (.istore_n 2, 1) := by decide +kernel
theorem own_d_jdk_43_method_14_code_3 : decode jdk_43_method_14_code 3 = .ok (.aload_n 1, 1) := by decide +kernel
theorem own_d_jdk_43_method_14_code_4 : decode jdk_43_method_14_code 4 = .ok (.arraylength, 1) := by decide +kernel
theorem own_d_jdk_43_method_14_code_5 : decode jdk_43_method_14_code 5 = .ok (.istore_n 3, 1) := by decide +kernel
theorem own_d_jdk_43_method_14_code_6 : decode jdk_43_method_14_code 6 = .ok (.aload_n 0, 1) := by decide +kernel
theorem own_d_jdk_43_method_14_code_7 : decode jdk_43_method_14_code 7 = .ok (.aload_n 1, 1) := by decide +kernel
theorem own_d_jdk_43_method_14_code_8 : decode jdk_43_method_14_code 8 = .ok (.iload_n 2, 1) := by decide +kernel
theorem own_d_jdk_43_method_14_code_9 : decode jdk_43_method_14_code 9 = .ok (.iload_n 3, 1) := by decide +kernel
theorem own_d_jdk_43_method_14_code_10 : decode jdk_43_method_14_code 10 = .ok (.invokestatic 34, 3) := by decide +kernel
theorem own_pd10 : parseMethodDescriptor "([B[BII)I" = some ⟨[(.array .byte), (.array .byte), .int, .int], some .int⟩ := by decide +kernel
theorem own_d_jdk_43_method_14_code_13 : decode jdk_43_method_14_code 13 = .ok (.ireturn, 1) := by decide +kernel
theorem own_ef21 (m : MethodId) (x0 : Addr) (x1 : Addr)  : entryFrame m #[(.ref x0), (.ref x1)] 4 = mkF m 0 #[rv x0, rv x1, u_, u_] [] := by first | (simp [entryFrame, mkF, argsToLocals, Value.category]; done) | rfl
abbrev own_Q21 (Z : State) (t1a : Addr) (k1a : ClassId) (t2a : Addr) (k2a : ClassId) (cc0 : Int32) (cc1 : Int32) (dd0 : Int32) (dd1 : Int32) (h0 : Heap) (n0 : Nat) (v : Option Value) (h : Heap) (L : List Loc) : Prop := ∃ r : Int32, v = some (.int r) ∧ Fr n0 L ∧ h = h0 ∧ own_sg r = own_lex (0 : Int32) cc0 cc1 (0 : Int32) dd0 dd1
set_option maxRecDepth 65536 in
set_option maxHeartbeats 40000000 in
theorem own_m21 (l : Launch) (Z : State) (a0 : Array Value) (hw : ∀ d ∈ tables_1, d.before a0 Z = true) (ws : List Jvm.Cond) (t1a : Addr) (k1a : ClassId) (t2a : Addr) (k2a : ClassId) (cc0 : Int32) (cc1 : Int32) (dd0 : Int32) (dd1 : Int32) (h0 : Heap) (n0 : Nat) (O0 : Old Z n0 h0) (hcc0 : ¬ cc0 < (0 : Int32) ∧ ¬ (255 : Int32) < cc0) (hcc1 : ¬ cc1 < (0 : Int32) ∧ ¬ (255 : Int32) < cc1) (hdd0 : ¬ dd0 < (0 : Int32) ∧ ¬ (255 : Int32) < dd0) (hdd1 : ¬ dd1 < (0 : Int32) ∧ ¬ (255 : Int32) < dd1) (F_1 : Arv Z h0 t1a k1a .byte (0 : Int32) [] (.int (0 : Int32))) (F_2 : Arv Z h0 t2a k2a .byte (0 : Int32) [] (.int (0 : Int32))) :
    Ctr l Z (⟨"java/lang/StringLatin1", "compareTo", "([B[B)I"⟩ : MethodName) jdk_43_method_14_code 4 (some .int) (Rm 2 0 0 32) #[(.ref t1a), (.ref t2a)] h0 (own_Q21 Z t1a k1a t2a k2a cc0 cc1 dd0 dd1 h0 n0) ws := by
  refine MetFree.of_bodySF (plainFor_of_name own_pn0) hisR ?_
  intro p e s m args below meth c s₁ Bd hml0 hP hK
  obtain ⟨rfl, hZ, hh⟩ := hP
  have hx := Bd.exec
  have hby := Bd.bytes
  have hlk : meth.locks = false := Bd.notSynchronized
  have hml : c.maxLocals = 4 := hml0
  have hown : s.vm.findClass "java/lang/StringLatin1" = some m.cls := findClass_of_methodNamed Bd.named
  have hnm := (name_of_methodNamed Bd.named Bd.method).1
  have X0 : Stand p l e (Rm 2 0 0 32) s m #[(.ref t1a), (.ref t2a)] below meth c s₁ [] 0 0 := Stand.of_body Bd
  have e0 : s₁.heap = h0 := by rw [← hh, Bd.state]; rfl
  have N0 := Fr.nil n0
  show Goes p.tables e below (fun t o => ∃ v L, o = .returned v ∧ (own_Q21 Z t1a k1a t2a k2a cc0 cc1 dd0 dd1 h0 n0) v t.heap L ∧ FrameEnd s o t L ((Rm 2 0 0 32)).cells ((Rm 2 0 0 32)).slots) _
  refine Goes.via (B := s₁.setTop (mkF m 0 #[rv t1a, rv t2a, u_, u_] [])) (fun t k => castTop (own_ef21 m t1a t2a) k) ?_
  refine Goes.via (B := s₁.setTop (mkF m 1 _ [(.ref t1a)])) (fun t k => XS.aloadN X0.here hx rfl (hb hby own_d_jdk_43_method_14_code_0) rfl rfl k) ?_
  obtain ⟨cl1, Ar1, q1, S1, N1, H1, G1⟩ := id F_1
  refine Goes.via (B := s₁.setTop (mkF m 2 #[rv t1a, rv t2a, u_, u_] [(.int (0 : Int32))])) (fun t k => X0.arraylength hx (by rw [e0]; exact Ar1.1) (State.isArrayOf_alike hZ.alike Ar1.2.1) (g := (mkF m 1 #[rv t1a, rv t2a, u_, u_] [(.ref t1a)])) rfl rfl (hb hby own_d_jdk_43_method_14_code_1) t (by rw [(len_of S1 N1)]; exact k)) ?_
  refine Goes.via (B := s₁.setTop (mkF m 3 _ [])) (fun t k => XS.istoreN X0.here hx rfl (hb hby own_d_jdk_43_method_14_code_2) rfl (l' := #[rv t1a, rv t2a, iv (0 : Int32), u_]) rfl k) ?_
  refine Goes.via (B := s₁.setTop (mkF m 4 _ [(.ref t2a)])) (fun t k => XS.aloadN X0.here hx rfl (hb hby own_d_jdk_43_method_14_code_3) rfl rfl k) ?_
  obtain ⟨cl2, Ar2, q2, S2, N2, H2, G2⟩ := id F_2
  refine Goes.via (B := s₁.setTop (mkF m 5 #[rv t1a, rv t2a, iv (0 : Int32), u_] [(.int (0 : Int32))])) (fun t k => X0.arraylength hx (by rw [e0]; exact Ar2.1) (State.isArrayOf_alike hZ.alike Ar2.2.1) (g := (mkF m 4 #[rv t1a, rv t2a, iv (0 : Int32), u_] [(.ref t2a)])) rfl rfl (hb hby own_d_jdk_43_method_14_code_4) t (by rw [(len_of S2 N2)]; exact k)) ?_
  refine Goes.via (B := s₁.setTop (mkF m 6 _ [])) (fun t k => XS.istoreN X0.here hx rfl (hb hby own_d_jdk_43_method_14_code_5) rfl (l' := #[rv t1a, rv t2a, iv (0 : Int32), iv (0 : Int32)]) rfl k) ?_
  refine Goes.via (B := s₁.setTop (mkF m 7 _ [(.ref t1a)])) (fun t k => XS.aloadN X0.here hx rfl (hb hby own_d_jdk_43_method_14_code_6) rfl rfl k) ?_
  refine Goes.via (B := s₁.setTop (mkF m 8 _ [(.ref t2a), (.ref t1a)])) (fun t k => XS.aloadN X0.here hx rfl (hb hby own_d_jdk_43_method_14_code_7) rfl rfl k) ?_
  refine Goes.via (B := s₁.setTop (mkF m 9 _ [(.int (0 : Int32)), (.ref t2a), (.ref t1a)])) (fun t k => XS.iloadN X0.here hx rfl (hb hby own_d_jdk_43_method_14_code_8) rfl k) ?_
  refine Goes.via (B := s₁.setTop (mkF m 10 _ [(.int (0 : Int32)), (.int (0 : Int32)), (.ref t2a), (.ref t1a)])) (fun t k => XS.iloadN X0.here hx rfl (hb hby own_d_jdk_43_method_14_code_9) rfl k) ?_
  obtain ⟨_, T3, L3, X3, ⟨r3, rfl, M3, K3, p3_0⟩, st3⟩ := callStatic X0 hx hZ hown (own_hw hw 67 rfl) (own_hw hw 68 rfl) (own_hw hw 65 rfl) (own_hw hw 69 rfl) (by decide) (argsL := [(.ref t1a), (.ref t2a), (.int (0 : Int32)), (.int (0 : Int32))]) (rest := []) (own_m20 l Z a0 hw [] t1a k1a t2a k2a cc0 cc1 dd0 dd1 h0 n0 O0 hcc0 hcc1 hdd0 hdd1 F_1 F_2) e0 (lenOf own_pd10 rfl) (pc := 10) (Ls := #[rv t1a, rv t2a, iv (0 : Int32), iv (0 : Int32)]) (st := [(.int (0 : Int32)), (.int (0 : Int32)), (.ref t2a), (.ref t1a)]) rfl (by rw [hml]; rfl) (hb hby own_d_jdk_43_method_14_code_10) (W := 0) (Nat.le_of_eq rfl) (by decide) (by decide) (by decide) (by decide)
  have N3 := Fr.app N0 M3
  refine Goes.via (B := T3.setTop (mkF m 13 #[rv t1a, rv t2a, iv (0 : Int32), iv (0 : Int32)] [(.int r3)])) (fun t k => st3 _ k) ?_
  exact finI (Q := (own_Q21 Z t1a k1a t2a k2a cc0 cc1 dd0 dd1 h0 n0)) (F := FrameEnd) (C := ((Rm 2 0 0 32)).cells) (S := ((Rm 2 0 0 32)).slots) X3 hx Bd.returns (hb hby own_d_jdk_43_method_14_code_13) K3 ⟨r3, rfl, N3, rfl, p3_0⟩ (lvN X3 hlk (by decide) (by decide))
theorem own_d_jdk_42_method_71_code_0 : decode jdk_42_method_71_code 0 = .ok (.aload_n 0, 1) := by decide +kernel
theorem own_d_jdk_42_method_71_code_1 : decode jdk_42_method_71_code 1 = .ok (.getfield 9, 3) := by decide +kernel
theorem own_d_jdk_42_method_71_code_4 : decode jdk_42_method_71_code 4 = .ok (.astore_n 2, 1) := by decide +kernel
theorem own_d_jdk_42_method_71_code_5 : decode jdk_42_method_71_code 5 = .ok (.aload_n 1, 1) := by decide +kernel
theorem own_d_jdk_42_method_71_code_6 : decode jdk_42_method_71_code 6 = .ok (.getfield 9, 3) := by decide +kernel
theorem own_d_jdk_42_method_71_code_9 : decode jdk_42_method_71_code 9 = .ok (.astore_n 3, 1) := by decide +kernel
theorem own_d_jdk_42_method_71_code_10 : decode jdk_42_method_71_code 10 = .ok (.aload_n 0, 1) := by decide +kernel
theorem own_d_jdk_42_method_71_code_11 : decode jdk_42_method_71_code 11 = .ok (.invokevirtual 335, 3) := by decide +kernel
theorem own_pd11 : parseMethodDescriptor "()B" = some ⟨[], some .byte⟩ := by decide +kernel
theorem own_d_jdk_42_method_71_code_14 : decode jdk_42_method_71_code 14 = .ok (.istore 4, 2) := by decide +kernel
theorem own_d_jdk_42_method_71_code_16 : decode jdk_42_method_71_code 16 = .ok (.iload 4, 2) := by decide +kernel
theorem own_d_jdk_42_method_71_code_18 : decode jdk_42_method_71_code 18 = .ok (.aload_n 1, 1) := by decide +kernel
theorem own_d_jdk_42_method_71_code_19 : decode jdk_42_method_71_code 19 = .ok (.invokevirtual 335, 3) := by decide +kernel
theorem own_d_jdk_42_method_71_code_22 : decode jdk_42_method_71_code 22 = .ok (.if_icmp .ne 22, 3) := by decide +kernel
theorem own_d_jdk_42_method_71_code_25 : decode jdk_42_method_71_code 25 = .ok (.iload 4, 2) := by decide +kernel
theorem own_d_jdk_42_method_71_code_27 : decode jdk_42_method_71_code 27 = .ok (.ifCond .ne 11, 3) := by decide +kernel
theorem own_d_jdk_42_method_71_code_30 : decode jdk_42_method_71_code 30 = .ok (.aload_n 2, 1) := by decide +kernel
theorem own_d_jdk_42_method_71_code_31 : decode jdk_42_method_71_code 31 = .ok (.aload_n 3, 1) := by decide +kernel
theorem own_d_jdk_42_method_71_code_32 : decode jdk_42_method_71_code 32 = .ok (.invokestatic 586, 3) := by decide +kernel
theorem own_pd12 : parseMethodDescriptor "([B[B)I" = some ⟨[(.array .byte), (.array .byte)], some .int⟩ := by decide +kernel
theorem own_d_jdk_42_method_71_code_35 : decode jdk_42_method_71_code 35 = .ok (.goto 8, 3) := by decide +kernel
theorem own_d_jdk_42_method_71_code_43 : decode jdk_42_method_71_code 43 = .ok (.ireturn, 1) := by decide +kernel
theorem own_ef22 (m : MethodId) (x0 : Addr) (x1 : Addr)  : entryFrame m #[(.ref x0), (.ref x1)] 5 = mkF m 0 #[rv x0, rv x1, u_, u_, u_] [] := by first | (simp [entryFrame, mkF, argsToLocals, Value.category]; done) | rfl
abbrev own_Q22 (Z : State) (a1 : Addr) (a2 : Addr) (z0 : Int32) (t1a : Addr) (k1a : ClassId) (t2a : Addr) (k2a : ClassId) (cc0 : Int32) (cc1 : Int32) (dd0 : Int32) (dd1 : Int32) (h0 : Heap) (n0 : Nat) (v : Option Value) (h : Heap) (L : List Loc) : Prop := ∃ r : Int32, v = some (.int r) ∧ Fr n0 L ∧ h = h0 ∧ own_sg r = own_lex (0 : Int32) cc0 cc1 (0 : Int32) dd0 dd1
set_option maxRecDepth 65536 in
set_option maxHeartbeats 40000000 in
theorem own_m22 (l : Launch) (Z : State) (a0 : Array Value) (hw : ∀ d ∈ tables_1, d.before a0 Z = true) (ws : List Jvm.Cond) (a1 : Addr) (a2 : Addr) (z0 : Int32) (t1a : Addr) (k1a : ClassId) (t2a : Addr) (k2a : ClassId) (cc0 : Int32) (cc1 : Int32) (dd0 : Int32) (dd1 : Int32) (h0 : Heap) (n0 : Nat) (O0 : Old Z n0 h0) (hz0 : ¬ z0 = (0 : Int32)) (hcc0 : ¬ cc0 < (0 : Int32) ∧ ¬ (255 : Int32) < cc0) (hcc1 : ¬ cc1 < (0 : Int32) ∧ ¬ (255 : Int32) < cc1) (hdd0 : ¬ dd0 < (0 : Int32) ∧ ¬ (255 : Int32) < dd0) (hdd1 : ¬ dd1 < (0 : Int32) ∧ ¬ (255 : Int32) < dd1) (O_1 : Sta Z Z.heap "java/lang/String" "COMPACT_STRINGS" "Z" (.int z0)) (F_1 : Exa Z h0 a1 "java/lang/String") (F_2 : Fld Z h0 a1 "java/lang/String" "value" "[B" (.ref t1a)) (F_3 : Fld Z h0 a1 "java/lang/String" "coder" "B" (.int (0 : Int32))) (F_4 : Exa Z h0 a2 "java/lang/String") (F_5 : Fld Z h0 a2 "java/lang/String" "value" "[B" (.ref t2a)) (F_6 : Fld Z h0 a2 "java/lang/String" "coder" "B" (.int (0 : Int32))) (F_7 : Arv Z h0 t1a k1a .byte (0 : Int32) [] (.int (0 : Int32))) (F_8 : Arv Z h0 t2a k2a .byte (0 : Int32) [] (.int (0 : Int32))) :
    Ctr l Z (⟨"java/lang/String", "compareTo", "(Ljava/lang/String;)I"⟩ : MethodName) jdk_42_method_71_code 5 (some .int) (Rm 3 0 0 47) #[(.ref a1), (.ref a2)] h0 (own_Q22 Z a1 a2 z0 t1a k1a t2a k2a cc0 cc1 dd0 dd1 h0 n0) ws := by
  refine MetFree.of_bodySF (plainFor_of_name own_pn1) hisR ?_
  intro p e s m args below meth c s₁ Bd hml0 hP hK
  obtain ⟨rfl, hZ, hh⟩ := hP
  have hx := Bd.exec
  have hby := Bd.bytes
  have hlk : meth.locks = false := Bd.notSynchronized
  have hml : c.maxLocals = 5 := hml0
  have hown : s.vm.findClass "java/lang/String" = some m.cls := findClass_of_methodNamed Bd.named
  have hnm := (name_of_methodNamed Bd.named Bd.method).1
  have X0 : Stand p l e (Rm 3 0 0 47) s m #[(.ref a1), (.ref a2)] below meth c s₁ [] 0 0 := Stand.of_body Bd
  have e0 : s₁.heap = h0 := by rw [← hh, Bd.state]; rfl
  have N0 := Fr.nil n0
  show Goes p.tables e below (fun t o => ∃ v L, o = .returned v ∧ (own_Q22 Z a1 a2 z0 t1a k1a t2a k2a cc0 cc1 dd0 dd1 h0 n0) v t.heap L ∧ FrameEnd s o t L ((Rm 3 0 0 47)).cells ((Rm 3 0 0 47)).slots) _
  refine Goes.via (B := s₁.setTop (mkF m 0 #[rv a1, rv a2, u_, u_, u_] [])) (fun t k => castTop (own_ef22 m a1 a2) k) ?_
  refine Goes.via (B := s₁.setTop (mkF m 1 _ [(.ref a1)])) (fun t k => XS.aloadN X0.here hx rfl (hb hby own_d_jdk_42_method_71_code_0) rfl rfl k) ?_
  obtain ⟨T1, X1, e1, st1⟩ := getF X0 hx hZ hown (host := "") (Or.inl (own_hw hw 55 rfl)) Via.refl e0 F_2 (g := (mkF m 1 #[rv a1, rv a2, u_, u_, u_] [(.ref a1)])) rfl rfl (hb hby own_d_jdk_42_method_71_code_1)
  refine Goes.via (B := T1.setTop (mkF m 4 #[rv a1, rv a2, u_, u_, u_] [(.ref t1a)])) (fun t k => st1 _ k) ?_
  refine Goes.via (B := T1.setTop (mkF m 5 _ [])) (fun t k => XS.astoreN X1.here hx rfl (hb hby own_d_jdk_42_method_71_code_4) rfl rfl (l' := #[rv a1, rv a2, rv t1a, u_, u_]) rfl k) ?_
  refine Goes.via (B := T1.setTop (mkF m 6 _ [(.ref a2)])) (fun t k => XS.aloadN X1.here hx rfl (hb hby own_d_jdk_42_method_71_code_5) rfl rfl k) ?_
  obtain ⟨T2, X2, e2, st2⟩ := getF X1 hx hZ hown (host := "") (Or.inl (own_hw hw 55 rfl)) Via.refl e1 F_5 (g := (mkF m 6 #[rv a1, rv a2, rv t1a, u_, u_] [(.ref a2)])) rfl rfl (hb hby own_d_jdk_42_method_71_code_6)
  refine Goes.via (B := T2.setTop (mkF m 9 #[rv a1, rv a2, rv t1a, u_, u_] [(.ref t2a)])) (fun t k => st2 _ k) ?_
  refine Goes.via (B := T2.setTop (mkF m 10 _ [])) (fun t k => XS.astoreN X2.here hx rfl (hb hby own_d_jdk_42_method_71_code_9) rfl rfl (l' := #[rv a1, rv a2, rv t1a, rv t2a, u_]) rfl k) ?_
  refine Goes.via (B := T2.setTop (mkF m 11 _ [(.ref a1)])) (fun t k => XS.aloadN X2.here hx rfl (hb hby own_d_jdk_42_method_71_code_10) rfl rfl k) ?_
  obtain ⟨_, T3, L3, X3, ⟨rfl, M3, K3⟩, st3⟩ := callVirt X2 hx hZ hown (own_hw hw 56 rfl) (own_hw hw 57 rfl) (own_hw hw 59 rfl) (notFace_of_selects (args := #[]) (mvT hZ (own_hw hw 59 rfl))) (own_hw hw 58 rfl) (own_hw hw 5 rfl) (own_hw hw 60 rfl) (by decide) (argsL := []) (rest := []) (own_m15 l Z a0 hw [] a1 z0 h0 n0 O0 hz0 O_1 F_3) e2 F_1 (lenOf own_pd11 rfl) (pc := 11) (Ls := #[rv a1, rv a2, rv t1a, rv t2a, u_]) (st := [(.ref a1)]) rfl (by rw [hml]; rfl) (hb hby own_d_jdk_42_method_71_code_11) (W := 0) (Nat.le_of_eq rfl) (by decide) (by decide) (by decide) (by decide)
  have N3 := Fr.app N0 M3
  refine Goes.via (B := T3.setTop (mkF m 14 #[rv a1, rv a2, rv t1a, rv t2a, u_] [(.int (0 : Int32))])) (fun t k => st3 _ k) ?_
  refine Goes.via (B := T3.setTop (mkF m 16 _ [])) (fun t k => XS.istore X3.here hx rfl (hb hby own_d_jdk_42_method_71_code_14) rfl (l' := #[rv a1, rv a2, rv t1a, rv t2a, iv (0 : Int32)]) rfl k) ?_
  refine Goes.via (B := T3.setTop (mkF m 18 _ [(.int (0 : Int32))])) (fun t k => XS.iload X3.here hx rfl (hb hby own_d_jdk_42_method_71_code_16) rfl k) ?_
  refine Goes.via (B := T3.setTop (mkF m 19 _ [(.ref a2), (.int (0 : Int32))])) (fun t k => XS.aloadN X3.here hx rfl (hb hby own_d_jdk_42_method_71_code_18) rfl rfl k) ?_
  obtain ⟨_, T4, L4, X4, ⟨rfl, M4, K4⟩, st4⟩ := callVirt X3 hx hZ hown (own_hw hw 56 rfl) (own_hw hw 57 rfl) (own_hw hw 59 rfl) (notFace_of_selects (args := #[]) (mvT hZ (own_hw hw 59 rfl))) (own_hw hw 58 rfl) (own_hw hw 5 rfl) (own_hw hw 60 rfl) (by decide) (argsL := []) (rest := [(.int (0 : Int32))]) (own_m15 l Z a0 hw [] a2 z0 h0 n0 O0 hz0 O_1 F_6) K3 F_4 (lenOf own_pd11 rfl) (pc := 19) (Ls := #[rv a1, rv a2, rv t1a, rv t2a, iv (0 : Int32)]) (st := [(.ref a2), (.int (0 : Int32))]) rfl (by rw [hml]; rfl) (hb hby own_d_jdk_42_method_71_code_19) (W := 1) (Nat.le_of_eq rfl) (by decide) (by decide) (by decide) (by decide)
  have N4 := Fr.app N3 M4
  refine Goes.via (B := T4.setTop (mkF m 22 #[rv a1, rv a2, rv t1a, rv t2a, iv (0 : Int32)] [(.int (0 : Int32)), (.int (0 : Int32))])) (fun t k => st4 _ k) ?_
  refine Goes.via (B := T4.setTop (mkF m 25 _ [])) (fun t k => XS.icmpNo X4.here hx rfl (hb hby own_d_jdk_42_method_71_code_22) rfl (XT.ii_ne_f rfl) k) ?_
  refine Goes.via (B := T4.setTop (mkF m 27 _ [(.int (0 : Int32))])) (fun t k => XS.iload X4.here hx rfl (hb hby own_d_jdk_42_method_71_code_25) rfl k) ?_
  refine Goes.via (B := T4.setTop (mkF m 30 _ [])) (fun t k => XS.ifNo X4.here hx rfl (hb hby own_d_jdk_42_method_71_code_27) rfl (XT.i0_ne_f rfl) k) ?_
  refine Goes.via (B := T4.setTop (mkF m 31 _ [(.ref t1a)])) (fun t k => XS.aloadN X4.here hx rfl (hb hby own_d_jdk_42_method_71_code_30) rfl rfl k) ?_
  refine Goes.via (B := T4.setTop (mkF m 32 _ [(.ref t2a), (.ref t1a)])) (fun t k => XS.aloadN X4.here hx rfl (hb hby own_d_jdk_42_method_71_code_31) rfl rfl k) ?_
  obtain ⟨_, T5, L5, X5, ⟨r5, rfl, M5, K5, p5_0⟩, st5⟩ := callStatic X4 hx hZ hown (own_hw hw 63 rfl) (own_hw hw 64 rfl) (own_hw hw 65 rfl) (own_hw hw 66 rfl) (by decide) (argsL := [(.ref t1a), (.ref t2a)]) (rest := []) (own_m21 l Z a0 hw [] t1a k1a t2a k2a cc0 cc1 dd0 dd1 h0 n0 O0 hcc0 hcc1 hdd0 hdd1 F_7 F_8) K4 (lenOf own_pd12 rfl) (pc := 32) (Ls := #[rv a1, rv a2, rv t1a, rv t2a, iv (0 : Int32)]) (st := [(.ref t2a), (.ref t1a)]) rfl (by rw [hml]; rfl) (hb hby own_d_jdk_42_method_71_code_32) (W := 0) (Nat.le_of_eq rfl) (by decide) (by decide) (by decide) (by decide)
  have N5 := Fr.app N4 M5
  refine Goes.via (B := T5.setTop (mkF m 35 #[rv a1, rv a2, rv t1a, rv t2a, iv (0 : Int32)] [(.int r5)])) (fun t k => st5 _ k) ?_
  refine Goes.via (B := T5.setTop (mkF m 43 _ [(.int r5)])) (fun t k => XS.goto X5.here hx rfl (pc0 := 35) (pc' := 43) rfl (hb hby own_d_jdk_42_method_71_code_35) (by decide) (by decide) k) ?_
  exact finI (Q := (own_Q22 Z a1 a2 z0 t1a k1a t2a k2a cc0 cc1 dd0 dd1 h0 n0)) (F := FrameEnd) (C := ((Rm 3 0 0 47)).cells) (S := ((Rm 3 0 0 47)).slots) X5 hx Bd.returns (hb hby own_d_jdk_42_method_71_code_43) K5 ⟨r5, rfl, N5, rfl, p5_0⟩ (lvN X5 hlk (by decide) (by decide))
theorem own_d_prog_19_method_2_code_0 : decode prog_19_method_2_code 0 = .ok (.aload_n 0, 1) := by decide +kernel
theorem own_d_prog_19_method_2_code_1 : decode prog_19_method_2_code 1 = .ok (.getfield 15, 3) := by decide +kernel
theorem own_d_prog_19_method_2_code_4 : decode prog_19_method_2_code 4 = .ok (.aload_n 1, 1) := by decide +kernel
theorem own_d_prog_19_method_2_code_5 : decode prog_19_method_2_code 5 = .ok (.getfield 15, 3) := by decide +kernel
theorem own_d_prog_19_method_2_code_8 : decode prog_19_method_2_code 8 = .ok (.invokestatic 24, 3) := by decide +kernel
theorem own_pd13 : parseMethodDescriptor "(JJ)I" = some ⟨[.long, .long], some .int⟩ := by decide +kernel
theorem own_d_prog_19_method_2_code_11 : decode prog_19_method_2_code 11 = .ok (.istore_n 2, 1) := by decide +kernel
theorem own_d_prog_19_method_2_code_12 : decode prog_19_method_2_code 12 = .ok (.iload_n 2, 1) := by decide +kernel
theorem own_d_prog_19_method_2_code_13 : decode prog_19_method_2_code 13 = .ok (.ifCond .ne 15, 3) := by decide +kernel
theorem own_d_prog_19_method_2_code_28 : decode prog_19_method_2_code 28 = .ok (.iload_n 2, 1) := by decide +kernel
theorem own_d_prog_19_method_2_code_29 : decode prog_19_method_2_code 29 = .ok (.ireturn, 1) := by decide +kernel
theorem own_d_prog_19_method_2_code_16 : decode prog_19_method_2_code 16 = .ok (.aload_n 0, 1) := by decide +kernel
theorem own_d_prog_19_method_2_code_17 : decode prog_19_method_2_code 17 = .ok (.getfield 21, 3) := by decide +kernel
theorem own_d_prog_19_method_2_code_20 : decode prog_19_method_2_code 20 = .ok (.aload_n 1, 1) := by decide +kernel
theorem own_d_prog_19_method_2_code_21 : decode prog_19_method_2_code 21 = .ok (.getfield 21, 3) := by decide +kernel
theorem own_d_prog_19_method_2_code_24 : decode prog_19_method_2_code 24 = .ok (.invokevirtual 30, 3) := by decide +kernel
theorem own_pd14 : parseMethodDescriptor "(Ljava/lang/String;)I" = some ⟨[(.object "java/lang/String")], some .int⟩ := by decide +kernel
theorem own_d_prog_19_method_2_code_27 : decode prog_19_method_2_code 27 = .ok (.istore_n 2, 1) := by decide +kernel
theorem own_ef23 (m : MethodId) (x0 : Addr) (x1 : Addr)  : entryFrame m #[(.ref x0), (.ref x1)] 3 = mkF m 0 #[rv x0, rv x1, u_] [] := by first | (simp [entryFrame, mkF, argsToLocals, Value.category]; done) | rfl
abbrev own_Q23 (Z : State) (a1 : Addr) (a2 : Addr) (x1 : Int64) (x2 : Int64) (s1a : Addr) (s2a : Addr) (z0 : Int32) (t1a : Addr) (k1a : ClassId) (t2a : Addr) (k2a : ClassId) (cc0 : Int32) (cc1 : Int32) (dd0 : Int32) (dd1 : Int32) (h0 : Heap) (n0 : Nat) (v : Option Value) (h : Heap) (L : List Loc) : Prop := ∃ r : Int32, v = some (.int r) ∧ Fr n0 L ∧ h = h0 ∧ own_sg r = own_exp x1 x2 (0 : Int32) cc0 cc1 (0 : Int32) dd0 dd1
set_option maxRecDepth 65536 in
set_option maxHeartbeats 40000000 in
theorem own_m23 (l : Launch) (Z : State) (a0 : Array Value) (hw : ∀ d ∈ tables_1, d.before a0 Z = true) (ws : List Jvm.Cond) (a1 : Addr) (a2 : Addr) (x1 : Int64) (x2 : Int64) (s1a : Addr) (s2a : Addr) (z0 : Int32) (t1a : Addr) (k1a : ClassId) (t2a : Addr) (k2a : ClassId) (cc0 : Int32) (cc1 : Int32) (dd0 : Int32) (dd1 : Int32) (h0 : Heap) (n0 : Nat) (O0 : Old Z n0 h0) (hz0 : ¬ z0 = (0 : Int32)) (hcc0 : ¬ cc0 < (0 : Int32) ∧ ¬ (255 : Int32) < cc0) (hcc1 : ¬ cc1 < (0 : Int32) ∧ ¬ (255 : Int32) < cc1) (hdd0 : ¬ dd0 < (0 : Int32) ∧ ¬ (255 : Int32) < dd0) (hdd1 : ¬ dd1 < (0 : Int32) ∧ ¬ (255 : Int32) < dd1) (O_1 : Sta Z Z.heap "java/lang/String" "COMPACT_STRINGS" "Z" (.int z0)) (F_1 : Exa Z h0 a1 "com/example/keelson/keelson/cluster/Ballot") (F_2 : Fld Z h0 a1 "com/example/keelson/keelson/cluster/Ballot" "round" "J" (.long x1)) (F_3 : Fld Z h0 a1 "com/example/keelson/keelson/cluster/Ballot" "proposer" "Ljava/lang/String;" (.ref s1a)) (F_4 : Exa Z h0 a2 "com/example/keelson/keelson/cluster/Ballot") (F_5 : Fld Z h0 a2 "com/example/keelson/keelson/cluster/Ballot" "round" "J" (.long x2)) (F_6 : Fld Z h0 a2 "com/example/keelson/keelson/cluster/Ballot" "proposer" "Ljava/lang/String;" (.ref s2a)) (F_7 : Exa Z h0 s1a "java/lang/String") (F_8 : Fld Z h0 s1a "java/lang/String" "value" "[B" (.ref t1a)) (F_9 : Fld Z h0 s1a "java/lang/String" "coder" "B" (.int (0 : Int32))) (F_10 : Exa Z h0 s2a "java/lang/String") (F_11 : Fld Z h0 s2a "java/lang/String" "value" "[B" (.ref t2a)) (F_12 : Fld Z h0 s2a "java/lang/String" "coder" "B" (.int (0 : Int32))) (F_13 : Arv Z h0 t1a k1a .byte (0 : Int32) [] (.int (0 : Int32))) (F_14 : Arv Z h0 t2a k2a .byte (0 : Int32) [] (.int (0 : Int32))) :
    Ctr l Z (⟨"com/example/keelson/keelson/cluster/Ballot", "compareTo", "(Lcom/example/keelson/keelson/cluster/Ballot;)I"⟩ : MethodName) prog_19_method_2_code 3 (some .int) (Rm 4 0 0 63) #[(.ref a1), (.ref a2)] h0 (own_Q23 Z a1 a2 x1 x2 s1a s2a z0 t1a k1a t2a k2a cc0 cc1 dd0 dd1 h0 n0) ws := by
  refine MetFree.of_bodySF (plainFor_of_name own_pn5) hisR ?_
  intro p e s m args below meth c s₁ Bd hml0 hP hK
  obtain ⟨rfl, hZ, hh⟩ := hP
  have hx := Bd.exec
  have hby := Bd.bytes
  have hlk : meth.locks = false := Bd.notSynchronized
  have hml : c.maxLocals = 3 := hml0
  have hown : s.vm.findClass "com/example/keelson/keelson/cluster/Ballot" = some m.cls := findClass_of_methodNamed Bd.named
  have hnm := (name_of_methodNamed Bd.named Bd.method).1
  have X0 : Stand p l e (Rm 4 0 0 63) s m #[(.ref a1), (.ref a2)] below meth c s₁ [] 0 0 := Stand.of_body Bd
  have e0 : s₁.heap = h0 := by rw [← hh, Bd.state]; rfl
  have N0 := Fr.nil n0
  show Goes p.tables e below (fun t o => ∃ v L, o = .returned v ∧ (own_Q23 Z a1 a2 x1 x2 s1a s2a z0 t1a k1a t2a k2a cc0 cc1 dd0 dd1 h0 n0) v t.heap L ∧ FrameEnd s o t L ((Rm 4 0 0 63)).cells ((Rm 4 0 0 63)).slots) _
  refine Goes.via (B := s₁.setTop (mkF m 0 #[rv a1, rv a2, u_] [])) (fun t k => castTop (own_ef23 m a1 a2) k) ?_
  refine Goes.via (B := s₁.setTop (mkF m 1 _ [(.ref a1)])) (fun t k => XS.aloadN X0.here hx rfl (hb hby own_d_prog_19_method_2_code_0) rfl rfl k) ?_
  obtain ⟨T1, X1, e1, st1⟩ := getF X0 hx hZ hown (host := "") (Or.inl (own_hw hw 31 rfl)) Via.refl e0 F_2 (g := (mkF m 1 #[rv a1, rv a2, u_] [(.ref a1)])) rfl rfl (hb hby own_d_prog_19_method_2_code_1)
  refine Goes.via (B := T1.setTop (mkF m 4 #[rv a1, rv a2, u_] [(.long x1)])) (fun t k => st1 _ k) ?_
  refine Goes.via (B := T1.setTop (mkF m 5 _ [(.ref a2), (.long x1)])) (fun t k => XS.aloadN X1.here hx rfl (hb hby own_d_prog_19_method_2_code_4) rfl rfl k) ?_
  obtain ⟨T2, X2, e2, st2⟩ := getF X1 hx hZ hown (host := "") (Or.inl (own_hw hw 31 rfl)) Via.refl e1 F_5 (g := (mkF m 5 #[rv a1, rv a2, u_] [(.ref a2), (.long x1)])) rfl rfl (hb hby own_d_prog_19_method_2_code_5)
  refine Goes.via (B := T2.setTop (mkF m 8 #[rv a1, rv a2, u_] [(.long x2), (.long x1)])) (fun t k => st2 _ k) ?_
  obtain ⟨_, T3, L3, X3, ⟨r3, rfl, M3, K3, p3_0⟩, st3⟩ := callStatic X2 hx hZ hown (own_hw hw 40 rfl) (own_hw hw 41 rfl) (own_hw hw 42 rfl) (own_hw hw 43 rfl) (by decide) (argsL := [(.long x1), (.long x2)]) (rest := []) (own_m11 l Z a0 hw [] x1 x2 h0 n0 O0 ) e2 (lenOf own_pd13 rfl) (pc := 8) (Ls := #[rv a1, rv a2, u_]) (st := [(.long x2), (.long x1)]) rfl (by rw [hml]; rfl) (hb hby own_d_prog_19_method_2_code_8) (W := 0) (Nat.le_of_eq rfl) (by decide) (by decide) (by decide) (by decide)
  have N3 := Fr.app N0 M3
  refine Goes.via (B := T3.setTop (mkF m 11 #[rv a1, rv a2, u_] [(.int r3)])) (fun t k => st3 _ k) ?_
  refine Goes.via (B := T3.setTop (mkF m 12 _ [])) (fun t k => XS.istoreN X3.here hx rfl (hb hby own_d_prog_19_method_2_code_11) rfl (l' := #[rv a1, rv a2, iv r3]) rfl k) ?_
  refine Goes.via (B := T3.setTop (mkF m 13 _ [(.int r3)])) (fun t k => XS.iloadN X3.here hx rfl (hb hby own_d_prog_19_method_2_code_12) rfl k) ?_
  by_cases hlt : x1 < x2
  · rw [if_pos hlt] at p3_0
    subst p3_0
    refine Goes.via (B := T3.setTop (mkF m 28 _ [])) (fun t k => XS.ifYes X3.here hx rfl (pc0 := 13) (pc' := 28) rfl (hb hby own_d_prog_19_method_2_code_13) rfl (XT.i0_ne_t (by decide)) (by decide) (by decide) k) ?_
    refine Goes.via (B := T3.setTop (mkF m 29 _ [(.int (-1 : Int32))])) (fun t k => XS.iloadN X3.here hx rfl (hb hby own_d_prog_19_method_2_code_28) rfl k) ?_
    exact finI (Q := (own_Q23 Z a1 a2 x1 x2 s1a s2a z0 t1a k1a t2a k2a cc0 cc1 dd0 dd1 h0 n0)) (F := FrameEnd) (C := ((Rm 4 0 0 63)).cells) (S := ((Rm 4 0 0 63)).slots) X3 hx Bd.returns (hb hby own_d_prog_19_method_2_code_29) K3 ⟨(-1 : Int32), rfl, N3, rfl, (by unfold own_exp; rw [if_pos hlt]; decide)⟩ (lvN X3 hlk (by decide) (by decide))
  · rw [if_neg hlt] at p3_0
    by_cases heq : x1 = x2
    · rw [if_pos heq] at p3_0
      have hng : ¬ x2 < x1 := by rw [heq]; rw [Int64.lt_iff_toInt_lt]; omega
      subst p3_0
      refine Goes.via (B := T3.setTop (mkF m 16 _ [])) (fun t k => XS.ifNo X3.here hx rfl (hb hby own_d_prog_19_method_2_code_13) rfl (XT.i0_ne_f rfl) k) ?_
      refine Goes.via (B := T3.setTop (mkF m 17 _ [(.ref a1)])) (fun t k => XS.aloadN X3.here hx rfl (hb hby own_d_prog_19_method_2_code_16) rfl rfl k) ?_
      obtain ⟨T4, X4, e4, st4⟩ := getF X3 hx hZ hown (host := "") (Or.inl (own_hw hw 33 rfl)) Via.refl K3 F_3 (g := (mkF m 17 #[rv a1, rv a2, iv (0 : Int32)] [(.ref a1)])) rfl rfl (hb hby own_d_prog_19_method_2_code_17)
      refine Goes.via (B := T4.setTop (mkF m 20 #[rv a1, rv a2, iv (0 : Int32)] [(.ref s1a)])) (fun t k => st4 _ k) ?_
      refine Goes.via (B := T4.setTop (mkF m 21 _ [(.ref a2), (.ref s1a)])) (fun t k => XS.aloadN X4.here hx rfl (hb hby own_d_prog_19_method_2_code_20) rfl rfl k) ?_
      obtain ⟨T5, X5, e5, st5⟩ := getF X4 hx hZ hown (host := "") (Or.inl (own_hw hw 33 rfl)) Via.refl e4 F_6 (g := (mkF m 21 #[rv a1, rv a2, iv (0 : Int32)] [(.ref a2), (.ref s1a)])) rfl rfl (hb hby own_d_prog_19_method_2_code_21)
      refine Goes.via (B := T5.setTop (mkF m 24 #[rv a1, rv a2, iv (0 : Int32)] [(.ref s2a), (.ref s1a)])) (fun t k => st5 _ k) ?_
      obtain ⟨_, T6, L6, X6, ⟨r6, rfl, M6, K6, p6_0⟩, st6⟩ := callVirt X5 hx hZ hown (own_hw hw 50 rfl) (own_hw hw 51 rfl) (own_hw hw 53 rfl) (notFace_of_selects (args := #[]) (mvT hZ (own_hw hw 53 rfl))) (own_hw hw 52 rfl) (own_hw hw 5 rfl) (own_hw hw 54 rfl) (by decide) (argsL := [(.ref s2a)]) (rest := []) (own_m22 l Z a0 hw [] s1a s2a z0 t1a k1a t2a k2a cc0 cc1 dd0 dd1 h0 n0 O0 hz0 hcc0 hcc1 hdd0 hdd1 O_1 F_7 F_8 F_9 F_10 F_11 F_12 F_13 F_14) e5 F_7 (lenOf own_pd14 rfl) (pc := 24) (Ls := #[rv a1, rv a2, iv (0 : Int32)]) (st := [(.ref s2a), (.ref s1a)]) rfl (by rw [hml]; rfl) (hb hby own_d_prog_19_method_2_code_24) (W := 0) (Nat.le_of_eq rfl) (by decide) (by decide) (by decide) (by decide)
      have N6 := Fr.app N3 M6
      refine Goes.via (B := T6.setTop (mkF m 27 #[rv a1, rv a2, iv (0 : Int32)] [(.int r6)])) (fun t k => st6 _ k) ?_
      refine Goes.via (B := T6.setTop (mkF m 28 _ [])) (fun t k => XS.istoreN X6.here hx rfl (hb hby own_d_prog_19_method_2_code_27) rfl (l' := #[rv a1, rv a2, iv r6]) rfl k) ?_
      refine Goes.via (B := T6.setTop (mkF m 29 _ [(.int r6)])) (fun t k => XS.iloadN X6.here hx rfl (hb hby own_d_prog_19_method_2_code_28) rfl k) ?_
      exact finI (Q := (own_Q23 Z a1 a2 x1 x2 s1a s2a z0 t1a k1a t2a k2a cc0 cc1 dd0 dd1 h0 n0)) (F := FrameEnd) (C := ((Rm 4 0 0 63)).cells) (S := ((Rm 4 0 0 63)).slots) X6 hx Bd.returns (hb hby own_d_prog_19_method_2_code_29) K6 ⟨r6, rfl, N6, rfl, (by unfold own_exp; rw [if_neg hlt, if_neg hng]; exact p6_0)⟩ (lvN X6 hlk (by decide) (by decide))
    · rw [if_neg heq] at p3_0
      have hgt : x2 < x1 := by
        have n' : ¬ x1.toInt = x2.toInt := fun z => heq (Int64.toInt_inj.mp z)
        rw [Int64.lt_iff_toInt_lt] at *; omega
      subst p3_0
      refine Goes.via (B := T3.setTop (mkF m 28 _ [])) (fun t k => XS.ifYes X3.here hx rfl (pc0 := 13) (pc' := 28) rfl (hb hby own_d_prog_19_method_2_code_13) rfl (XT.i0_ne_t (by decide)) (by decide) (by decide) k) ?_
      refine Goes.via (B := T3.setTop (mkF m 29 _ [(.int (1 : Int32))])) (fun t k => XS.iloadN X3.here hx rfl (hb hby own_d_prog_19_method_2_code_28) rfl k) ?_
      exact finI (Q := (own_Q23 Z a1 a2 x1 x2 s1a s2a z0 t1a k1a t2a k2a cc0 cc1 dd0 dd1 h0 n0)) (F := FrameEnd) (C := ((Rm 4 0 0 63)).cells) (S := ((Rm 4 0 0 63)).slots) X3 hx Bd.returns (hb hby own_d_prog_19_method_2_code_29) K3 ⟨(1 : Int32), rfl, N3, rfl, (by unfold own_exp; rw [if_neg hlt, if_pos hgt]; decide)⟩ (lvN X3 hlk (by decide) (by decide))
theorem own_ef24 (m : MethodId) (x0 : Addr) (x1 : Addr) (x2 : Int32)  : entryFrame m #[(.ref x0), (.ref x1), (.int x2)] 4 = mkF m 0 #[rv x0, rv x1, iv x2, u_] [] := by first | (simp [entryFrame, mkF, argsToLocals, Value.category]; done) | rfl
abbrev own_Q24 (Z : State) (t1a : Addr) (k1a : ClassId) (t2a : Addr) (k2a : ClassId) (cc0 : Int32) (cc1 : Int32) (dd0 : Int32) (dd1 : Int32) (h0 : Heap) (n0 : Nat) (v : Option Value) (h : Heap) (L : List Loc) : Prop := ∃ r : Int32, v = some (.int r) ∧ Fr n0 L ∧ h = h0 ∧ r = (-1 : Int32)
set_option maxRecDepth 65536 in
set_option maxHeartbeats 40000000 in
theorem own_m24 (l : Launch) (Z : State) (a0 : Array Value) (hw : ∀ d ∈ tables_1, d.before a0 Z = true) (ws : List Jvm.Cond) (t1a : Addr) (k1a : ClassId) (t2a : Addr) (k2a : ClassId) (cc0 : Int32) (cc1 : Int32) (dd0 : Int32) (dd1 : Int32) (h0 : Heap) (n0 : Nat) (O0 : Old Z n0 h0) (F_1 : Arv Z h0 t1a k1a .byte (0 : Int32) [] (.int (0 : Int32))) (F_2 : Arv Z h0 t2a k2a .byte (1 : Int32) [(.int dd0.toInt8.toInt32)] (.int (0 : Int32))) :
    Ctr l Z (⟨"jdk/internal/util/ArraysSupport", "mismatch", "([B[BI)I"⟩ : MethodName) jdk_48_method_13_code 4 (some .int) (Rm 0 0 0 0) #[(.ref t1a), (.ref t2a), (.int (0 : Int32))] h0 (own_Q24 Z t1a k1a t2a k2a cc0 cc1 dd0 dd1 h0 n0) ws := by
  refine MetFree.of_bodySF (plainFor_of_name own_pn7) hisR ?_
  intro p e s m args below meth c s₁ Bd hml0 hP hK
  obtain ⟨rfl, hZ, hh⟩ := hP
  have hx := Bd.exec
  have hby := Bd.bytes
  have hlk : meth.locks = false := Bd.notSynchronized
  have hml : c.maxLocals = 4 := hml0
  have hown : s.vm.findClass "jdk/internal/util/ArraysSupport" = some m.cls := findClass_of_methodNamed Bd.named
  have hnm := (name_of_methodNamed Bd.named Bd.method).1
  have X0 : Stand p l e (Rm 0 0 0 0) s m #[(.ref t1a), (.ref t2a), (.int (0 : Int32))] below meth c s₁ [] 0 0 := Stand.of_body Bd
  have e0 : s₁.heap = h0 := by rw [← hh, Bd.state]; rfl
  have N0 := Fr.nil n0
  show Goes p.tables e below (fun t o => ∃ v L, o = .returned v ∧ (own_Q24 Z t1a k1a t2a k2a cc0 cc1 dd0 dd1 h0 n0) v t.heap L ∧ FrameEnd s o t L ((Rm 0 0 0 0)).cells ((Rm 0 0 0 0)).slots) _
  refine Goes.via (B := s₁.setTop (mkF m 0 #[rv t1a, rv t2a, iv (0 : Int32), u_] [])) (fun t k => castTop (own_ef24 m t1a t2a (0 : Int32)) k) ?_
  refine Goes.via (B := s₁.setTop (mkF m 1 _ [(.int (0 : Int32))])) (fun t k => XS.iconst X0.here hx rfl (hb hby own_d_jdk_48_method_13_code_0) k) ?_
  refine Goes.via (B := s₁.setTop (mkF m 2 _ [])) (fun t k => XS.istoreN X0.here hx rfl (hb hby own_d_jdk_48_method_13_code_1) rfl (l' := #[rv t1a, rv t2a, iv (0 : Int32), iv (0 : Int32)]) rfl k) ?_
  refine Goes.via (B := s₁.setTop (mkF m 3 _ [(.int (0 : Int32))])) (fun t k => XS.iloadN X0.here hx rfl (hb hby own_d_jdk_48_method_13_code_2) rfl k) ?_
  refine Goes.via (B := s₁.setTop (mkF m 5 _ [(.int (7 : Int32)), (.int (0 : Int32))])) (fun t k => XS.bipush X0.here hx rfl (hb hby own_d_jdk_48_method_13_code_3) k) ?_
  refine Goes.via (B := s₁.setTop (mkF m 49 _ [])) (fun t k => XS.icmpYes X0.here hx rfl (pc0 := 5) (pc' := 49) rfl (hb hby own_d_jdk_48_method_13_code_5) rfl (XT.ii_le_t (by decide)) (by decide) (by decide) k) ?_
  refine Goes.via (B := s₁.setTop (mkF m 50 _ [(.int (0 : Int32))])) (fun t k => XS.iloadN X0.here hx rfl (hb hby own_d_jdk_48_method_13_code_49) rfl k) ?_
  refine Goes.via (B := s₁.setTop (mkF m 51 _ [(.int (0 : Int32)), (.int (0 : Int32))])) (fun t k => XS.iloadN X0.here hx rfl (hb hby own_d_jdk_48_method_13_code_50) rfl k) ?_
  refine Goes.via (B := s₁.setTop (mkF m 71 _ [])) (fun t k => XS.icmpYes X0.here hx rfl (pc0 := 51) (pc' := 71) rfl (hb hby own_d_jdk_48_method_13_code_51) rfl (XT.ii_ge_t (by decide)) (by decide) (by decide) k) ?_
  refine Goes.via (B := s₁.setTop (mkF m 72 _ [(.int (-1 : Int32))])) (fun t k => XS.iconst X0.here hx rfl (hb hby own_d_jdk_48_method_13_code_71) k) ?_
  exact finI (Q := (own_Q24 Z t1a k1a t2a k2a cc0 cc1 dd0 dd1 h0 n0)) (F := FrameEnd) (C := ((Rm 0 0 0 0)).cells) (S := ((Rm 0 0 0 0)).slots) X0 hx Bd.returns (hb hby own_d_jdk_48_method_13_code_72) e0 ⟨(-1 : Int32), rfl, N0, rfl, rfl⟩ (lvN X0 hlk (by decide) (by decide))
theorem own_ef25 (m : MethodId) (x0 : Addr) (x1 : Addr) (x2 : Int32) (x3 : Int32)  : entryFrame m #[(.ref x0), (.ref x1), (.int x2), (.int x3)] 6 = mkF m 0 #[rv x0, rv x1, iv x2, iv x3, u_, u_] [] := by first | (simp [entryFrame, mkF, argsToLocals, Value.category]; done) | rfl
abbrev own_Q25 (Z : State) (t1a : Addr) (k1a : ClassId) (t2a : Addr) (k2a : ClassId) (cc0 : Int32) (cc1 : Int32) (dd0 : Int32) (dd1 : Int32) (h0 : Heap) (n0 : Nat) (v : Option Value) (h : Heap) (L : List Loc) : Prop := ∃ r : Int32, v = some (.int r) ∧ Fr n0 L ∧ h = h0 ∧ own_sg r = own_lex (0 : Int32) cc0 cc1 (1 : Int32) dd0 dd1
set_option maxRecDepth 65536 in
set_option maxHeartbeats 40000000 in
theorem own_m25 (l : Launch) (Z : State) (a0 : Array Value) (hw : ∀ d ∈ tables_1, d.before a0 Z = true) (ws : List Jvm.Cond) (t1a : Addr) (k1a : ClassId) (t2a : Addr) (k2a : ClassId) (cc0 : Int32) (cc1 : Int32) (dd0 : Int32) (dd1 : Int32) (h0 : Heap) (n0 : Nat) (O0 : Old Z n0 h0) (hcc0 : ¬ cc0 < (0 : Int32) ∧ ¬ (255 : Int32) < cc0) (hcc1 : ¬ cc1 < (0 : Int32) ∧ ¬ (255 : Int32) < cc1) (hdd0 : ¬ dd0 < (0 : Int32) ∧ ¬ (255 : Int32) < dd0) (hdd1 : ¬ dd1 < (0 : Int32) ∧ ¬ (255 : Int32) < dd1) (F_1 : Arv Z h0 t1a k1a .byte (0 : Int32) [] (.int (0 : Int32))) (F_2 : Arv Z h0 t2a k2a .byte (1 : Int32) [(.int dd0.toInt8.toInt32)] (.int (0 : Int32))) :
    Ctr l Z (⟨"java/lang/StringLatin1", "compareTo", "([B[BII)I"⟩ : MethodName) jdk_43_method_15_code 6 (some .int) (Rm 1 0 0 15) #[(.ref t1a), (.ref t2a), (.int (0 : Int32)), (.int (1 : Int32))] h0 (own_Q25 Z t1a k1a t2a k2a cc0 cc1 dd0 dd1 h0 n0) ws := by
  refine MetFree.of_bodySF (plainFor_of_name own_pn0) hisR ?_
  intro p e s m args below meth c s₁ Bd hml0 hP hK
  obtain ⟨rfl, hZ, hh⟩ := hP
  have hx := Bd.exec
  have hby := Bd.bytes
  have hlk : meth.locks = false := Bd.notSynchronized
  have hml : c.maxLocals = 6 := hml0
  have hown : s.vm.findClass "java/lang/StringLatin1" = some m.cls := findClass_of_methodNamed Bd.named
  have hnm := (name_of_methodNamed Bd.named Bd.method).1
  have X0 : Stand p l e (Rm 1 0 0 15) s m #[(.ref t1a), (.ref t2a), (.int (0 : Int32)), (.int (1 : Int32))] below meth c s₁ [] 0 0 := Stand.of_body Bd
  have e0 : s₁.heap = h0 := by rw [← hh, Bd.state]; rfl
  have N0 := Fr.nil n0
  show Goes p.tables e below (fun t o => ∃ v L, o = .returned v ∧ (own_Q25 Z t1a k1a t2a k2a cc0 cc1 dd0 dd1 h0 n0) v t.heap L ∧ FrameEnd s o t L ((Rm 1 0 0 15)).cells ((Rm 1 0 0 15)).slots) _
  refine Goes.via (B := s₁.setTop (mkF m 0 #[rv t1a, rv t2a, iv (0 : Int32), iv (1 : Int32), u_, u_] [])) (fun t k => castTop (own_ef25 m t1a t2a (0 : Int32) (1 : Int32)) k) ?_
  refine Goes.via (B := s₁.setTop (mkF m 1 _ [(.int (0 : Int32))])) (fun t k => XS.iloadN X0.here hx rfl (hb hby own_d_jdk_43_method_15_code_0) rfl k) ?_
  refine Goes.via (B := s₁.setTop (mkF m 2 _ [(.int (1 : Int32)), (.int (0 : Int32))])) (fun t k => XS.iloadN X0.here hx rfl (hb hby own_d_jdk_43_method_15_code_1) rfl k) ?_
  obtain ⟨_, T1, L1, X1, ⟨r1, rfl, M1, K1, p1_0⟩, st1⟩ := callStatic X0 hx hZ hown (own_hw hw 70 rfl) (own_hw hw 71 rfl) (own_hw hw 72 rfl) (own_hw hw 73 rfl) (by decide) (argsL := [(.int (0 : Int32)), (.int (1 : Int32))]) (rest := []) (own_m14 l Z a0 hw [] (0 : Int32) (1 : Int32) h0 n0 O0 ) e0 (lenOf own_pd8 rfl) (pc := 2) (Ls := #[rv t1a, rv t2a, iv (0 : Int32), iv (1 : Int32), u_, u_]) (st := [(.int (1 : Int32)), (.int (0 : Int32))]) rfl (by rw [hml]; rfl) (hb hby own_d_jdk_43_method_15_code_2) (W := 0) (Nat.le_of_eq rfl) (by decide) (by decide) (by decide) (by decide)
  have N1 := Fr.app N0 M1
  refine Goes.via (B := T1.setTop (mkF m 5 #[rv t1a, rv t2a, iv (0 : Int32), iv (1 : Int32), u_, u_] [(.int r1)])) (fun t k => st1 _ k) ?_
  obtain rfl : r1 = (0 : Int32) := p1_0.trans (by decide)
  refine Goes.via (B := T1.setTop (mkF m 7 _ [])) (fun t k => XS.istore X1.here hx rfl (hb hby own_d_jdk_43_method_15_code_5) rfl (l' := #[rv t1a, rv t2a, iv (0 : Int32), iv (1 : Int32), iv (0 : Int32), u_]) rfl k) ?_
  refine Goes.via (B := T1.setTop (mkF m 8 _ [(.ref t1a)])) (fun t k => XS.aloadN X1.here hx rfl (hb hby own_d_jdk_43_method_15_code_7) rfl rfl k) ?_
  refine Goes.via (B := T1.setTop (mkF m 9 _ [(.ref t2a), (.ref t1a)])) (fun t k => XS.aloadN X1.here hx rfl (hb hby own_d_jdk_43_method_15_code_8) rfl rfl k) ?_
  refine Goes.via (B := T1.setTop (mkF m 11 _ [(.int (0 : Int32)), (.ref t2a), (.ref t1a)])) (fun t k => XS.iload X1.here hx rfl (hb hby own_d_jdk_43_method_15_code_9) rfl k) ?_
  obtain ⟨_, T2, L2, X2, ⟨r2, rfl, M2, K2, p2_0⟩, st2⟩ := callStatic X1 hx hZ hown (own_hw hw 74 rfl) (own_hw hw 75 rfl) (own_hw hw 76 rfl) (own_hw hw 77 rfl) (by decide) (argsL := [(.ref t1a), (.ref t2a), (.int (0 : Int32))]) (rest := []) (own_m24 l Z a0 hw [] t1a k1a t2a k2a cc0 cc1 dd0 dd1 h0 n0 O0 F_1 F_2) K1 (lenOf own_pd9 rfl) (pc := 11) (Ls := #[rv t1a, rv t2a, iv (0 : Int32), iv (1 : Int32), iv (0 : Int32), u_]) (st := [(.int (0 : Int32)), (.ref t2a), (.ref t1a)]) rfl (by rw [hml]; rfl) (hb hby own_d_jdk_43_method_15_code_11) (W := 0) (Nat.le_of_eq rfl) (by decide) (by decide) (by decide) (by decide)
  have N2 := Fr.app N1 M2
  refine Goes.via (B := T2.setTop (mkF m 14 #[rv t1a, rv t2a, iv (0 : Int32), iv (1 : Int32), iv (0 : Int32), u_] [(.int r2)])) (fun t k => st2 _ k) ?_
  obtain rfl : r2 = (-1 : Int32) := p2_0
  refine Goes.via (B := T2.setTop (mkF m 16 _ [])) (fun t k => XS.istore X2.here hx rfl (hb hby own_d_jdk_43_method_15_code_14) rfl (l' := #[rv t1a, rv t2a, iv (0 : Int32), iv (1 : Int32), iv (0 : Int32), iv (-1 : Int32)]) rfl k) ?_
  refine Goes.via (B := T2.setTop (mkF m 18 _ [(.int (-1 : Int32))])) (fun t k => XS.iload X2.here hx rfl (hb hby own_d_jdk_43_method_15_code_16) rfl k) ?_
  refine Goes.via (B := T2.setTop (mkF m 21 _ [])) (fun t k => XS.ifNo X2.here hx rfl (hb hby own_d_jdk_43_method_15_code_18) rfl (XT.i0_ge_f (by decide)) k) ?_
  refine Goes.via (B := T2.setTop (mkF m 22 _ [(.int (0 : Int32))])) (fun t k => XS.iloadN X2.here hx rfl (hb hby own_d_jdk_43_method_15_code_21) rfl k) ?_
  refine Goes.via (B := T2.setTop (mkF m 23 _ [(.int (1 : Int32)), (.int (0 : Int32))])) (fun t k => XS.iloadN X2.here hx rfl (hb hby own_d_jdk_43_method_15_code_22) rfl k) ?_
  refine Goes.via (B := T2.setTop (mkF m 24 _ [(.int ((0 : Int32) - (1 : Int32)))])) (fun t k => XS.isub X2.here hx rfl (hb hby own_d_jdk_43_method_15_code_23) rfl k) ?_
  refine Goes.via (B := T2.setTop (mkF m 40 _ [(.int ((0 : Int32) - (1 : Int32)))])) (fun t k => XS.goto X2.here hx rfl (pc0 := 24) (pc' := 40) rfl (hb hby own_d_jdk_43_method_15_code_24) (by decide) (by decide) k) ?_
  exact finI (Q := (own_Q25 Z t1a k1a t2a k2a cc0 cc1 dd0 dd1 h0 n0)) (F := FrameEnd) (C := ((Rm 1 0 0 15)).cells) (S := ((Rm 1 0 0 15)).slots) X2 hx Bd.returns (hb hby own_d_jdk_43_method_15_code_40) K2 ⟨((0 : Int32) - (1 : Int32)), rfl, N2, rfl, (by simp [own_lex])⟩ (lvN X2 hlk (by decide) (by decide))
theorem own_ef26 (m : MethodId) (x0 : Addr) (x1 : Addr)  : entryFrame m #[(.ref x0), (.ref x1)] 4 = mkF m 0 #[rv x0, rv x1, u_, u_] [] := by first | (simp [entryFrame, mkF, argsToLocals, Value.category]; done) | rfl
abbrev own_Q26 (Z : State) (t1a : Addr) (k1a : ClassId) (t2a : Addr) (k2a : ClassId) (cc0 : Int32) (cc1 : Int32) (dd0 : Int32) (dd1 : Int32) (h0 : Heap) (n0 : Nat) (v : Option Value) (h : Heap) (L : List Loc) : Prop := ∃ r : Int32, v = some (.int r) ∧ Fr n0 L ∧ h = h0 ∧ own_sg r = own_lex (0 : Int32) cc0 cc1 (1 : Int32) dd0 dd1
set_option maxRecDepth 65536 in
set_option maxHeartbeats 40000000 in
theorem own_m26 (l : Launch) (Z : State) (a0 : Array Value) (hw : ∀ d ∈ tables_1, d.before a0 Z = true) (ws : List Jvm.Cond) (t1a : Addr) (k1a : ClassId) (t2a : Addr) (k2a : ClassId) (cc0 : Int32) (cc1 : Int32) (dd0 : Int32) (dd1 : Int32) (h0 : Heap) (n0 : Nat) (O0 : Old Z n0 h0) (hcc0 : ¬ cc0 < (0 : Int32) ∧ ¬ (255 : Int32) < cc0) (hcc1 : ¬ cc1 < (0 : Int32) ∧ ¬ (255 : Int32) < cc1) (hdd0 : ¬ dd0 < (0 : Int32) ∧ ¬ (255 : Int32) < dd0) (hdd1 : ¬ dd1 < (0 : Int32) ∧ ¬ (255 : Int32) < dd1) (F_1 : Arv Z h0 t1a k1a .byte (0 : Int32) [] (.int (0 : Int32))) (F_2 : Arv Z h0 t2a k2a .byte (1 : Int32) [(.int dd0.toInt8.toInt32)] (.int (0 : Int32))) :
    Ctr l Z (⟨"java/lang/StringLatin1", "compareTo", "([B[B)I"⟩ : MethodName) jdk_43_method_14_code 4 (some .int) (Rm 2 0 0 32) #[(.ref t1a), (.ref t2a)] h0 (own_Q26 Z t1a k1a t2a k2a cc0 cc1 dd0 dd1 h0 n0) ws := by
  refine MetFree.of_bodySF (plainFor_of_name own_pn0) hisR ?_
  intro p e s m args below meth c s₁ Bd hml0 hP hK
  obtain ⟨rfl, hZ, hh⟩ := hP
  have hx := Bd.exec
  have hby := Bd.bytes
  have hlk : meth.locks = false := Bd.notSynchronized
  have hml : c.maxLocals = 4 := hml0
  have hown : s.vm.findClass "java/lang/StringLatin1" = some m.cls := findClass_of_methodNamed Bd.named
  have hnm := (name_of_methodNamed Bd.named Bd.method).1
  have X0 : Stand p l e (Rm 2 0 0 32) s m #[(.ref t1a), (.ref t2a)] below meth c s₁ [] 0 0 := Stand.of_body Bd
  have e0 : s₁.heap = h0 := by rw [← hh, Bd.state]; rfl
  have N0 := Fr.nil n0
  show Goes p.tables e below (fun t o => ∃ v L, o = .returned v ∧ (own_Q26 Z t1a k1a t2a k2a cc0 cc1 dd0 dd1 h0 n0) v t.heap L ∧ FrameEnd s o t L ((Rm 2 0 0 32)).cells ((Rm 2 0 0 32)).slots) _
  refine Goes.via (B := s₁.setTop (mkF m 0 #[rv t1a, rv t2a, u_, u_] [])) (fun t k => castTop (own_ef26 m t1a t2a) k) ?_
  refine Goes.via (B := s₁.setTop (mkF m 1 _ [(.ref t1a)])) (fun t k => XS.aloadN X0.here hx rfl (hb hby own_d_jdk_43_method_14_code_0) rfl rfl k) ?_
  obtain ⟨cl1, Ar1, q1, S1, N1, H1, G1⟩ := id F_1
  refine Goes.via (B := s₁.setTop (mkF m 2 #[rv t1a, rv t2a, u_, u_] [(.int (0 : Int32))])) (fun t k => X0.arraylength hx (by rw [e0]; exact Ar1.1) (State.isArrayOf_alike hZ.alike Ar1.2.1) (g := (mkF m 1 #[rv t1a, rv t2a, u_, u_] [(.ref t1a)])) rfl rfl (hb hby own_d_jdk_43_method_14_code_1) t (by rw [(len_of S1 N1)]; exact k)) ?_
  refine Goes.via (B := s₁.setTop (mkF m 3 _ [])) (fun t k => XS.istoreN X0.here hx rfl (hb hby own_d_jdk_43_method_14_code_2) rfl (l' := #[rv t1a, rv t2a, iv (0 : Int32), u_]) rfl k) ?_
  refine Goes.via (B := s₁.setTop (mkF m 4 _ [(.ref t2a)])) (fun t k => XS.aloadN X0.here hx rfl (hb hby own_d_jdk_43_method_14_code_3) rfl rfl k) ?_
  obtain ⟨cl2, Ar2, q2, S2, N2, H2, G2⟩ := id F_2
  refine Goes.via (B := s₁.setTop (mkF m 5 #[rv t1a, rv t2a, iv (0 : Int32), u_] [(.int (1 : Int32))])) (fun t k => X0.arraylength hx (by rw [e0]; exact Ar2.1) (State.isArrayOf_alike hZ.alike Ar2.2.1) (g := (mkF m 4 #[rv t1a, rv t2a, iv (0 : Int32), u_] [(.ref t2a)])) rfl rfl (hb hby own_d_jdk_43_method_14_code_4) t (by rw [(len_of S2 N2)]; exact k)) ?_
  refine Goes.via (B := s₁.setTop (mkF m 6 _ [])) (fun t k => XS.istoreN X0.here hx rfl (hb hby own_d_jdk_43_method_14_code_5) rfl (l' := #[rv t1a, rv t2a, iv (0 : Int32), iv (1 : Int32)]) rfl k) ?_
  refine Goes.via (B := s₁.setTop (mkF m 7 _ [(.ref t1a)])) (fun t k => XS.aloadN X0.here hx rfl (hb hby own_d_jdk_43_method_14_code_6) rfl rfl k) ?_
  refine Goes.via (B := s₁.setTop (mkF m 8 _ [(.ref t2a), (.ref t1a)])) (fun t k => XS.aloadN X0.here hx rfl (hb hby own_d_jdk_43_method_14_code_7) rfl rfl k) ?_
  refine Goes.via (B := s₁.setTop (mkF m 9 _ [(.int (0 : Int32)), (.ref t2a), (.ref t1a)])) (fun t k => XS.iloadN X0.here hx rfl (hb hby own_d_jdk_43_method_14_code_8) rfl k) ?_
  refine Goes.via (B := s₁.setTop (mkF m 10 _ [(.int (1 : Int32)), (.int (0 : Int32)), (.ref t2a), (.ref t1a)])) (fun t k => XS.iloadN X0.here hx rfl (hb hby own_d_jdk_43_method_14_code_9) rfl k) ?_
  obtain ⟨_, T3, L3, X3, ⟨r3, rfl, M3, K3, p3_0⟩, st3⟩ := callStatic X0 hx hZ hown (own_hw hw 67 rfl) (own_hw hw 68 rfl) (own_hw hw 65 rfl) (own_hw hw 69 rfl) (by decide) (argsL := [(.ref t1a), (.ref t2a), (.int (0 : Int32)), (.int (1 : Int32))]) (rest := []) (own_m25 l Z a0 hw [] t1a k1a t2a k2a cc0 cc1 dd0 dd1 h0 n0 O0 hcc0 hcc1 hdd0 hdd1 F_1 F_2) e0 (lenOf own_pd10 rfl) (pc := 10) (Ls := #[rv t1a, rv t2a, iv (0 : Int32), iv (1 : Int32)]) (st := [(.int (1 : Int32)), (.int (0 : Int32)), (.ref t2a), (.ref t1a)]) rfl (by rw [hml]; rfl) (hb hby own_d_jdk_43_method_14_code_10) (W := 0) (Nat.le_of_eq rfl) (by decide) (by decide) (by decide) (by decide)
  have N3 := Fr.app N0 M3
  refine Goes.via (B := T3.setTop (mkF m 13 #[rv t1a, rv t2a, iv (0 : Int32), iv (1 : Int32)] [(.int r3)])) (fun t k => st3 _ k) ?_
  exact finI (Q := (own_Q26 Z t1a k1a t2a k2a cc0 cc1 dd0 dd1 h0 n0)) (F := FrameEnd) (C := ((Rm 2 0 0 32)).cells) (S := ((Rm 2 0 0 32)).slots) X3 hx Bd.returns (hb hby own_d_jdk_43_method_14_code_13) K3 ⟨r3, rfl, N3, rfl, p3_0⟩ (lvN X3 hlk (by decide) (by decide))
theorem own_ef27 (m : MethodId) (x0 : Addr) (x1 : Addr)  : entryFrame m #[(.ref x0), (.ref x1)] 5 = mkF m 0 #[rv x0, rv x1, u_, u_, u_] [] := by first | (simp [entryFrame, mkF, argsToLocals, Value.category]; done) | rfl
abbrev own_Q27 (Z : State) (a1 : Addr) (a2 : Addr) (z0 : Int32) (t1a : Addr) (k1a : ClassId) (t2a : Addr) (k2a : ClassId) (cc0 : Int32) (cc1 : Int32) (dd0 : Int32) (dd1 : Int32) (h0 : Heap) (n0 : Nat) (v : Option Value) (h : Heap) (L : List Loc) : Prop := ∃ r : Int32, v = some (.int r) ∧ Fr n0 L ∧ h = h0 ∧ own_sg r = own_lex (0 : Int32) cc0 cc1 (1 : Int32) dd0 dd1
set_option maxRecDepth 65536 in
set_option maxHeartbeats 40000000 in
theorem own_m27 (l : Launch) (Z : State) (a0 : Array Value) (hw : ∀ d ∈ tables_1, d.before a0 Z = true) (ws : List Jvm.Cond) (a1 : Addr) (a2 : Addr) (z0 : Int32) (t1a : Addr) (k1a : ClassId) (t2a : Addr) (k2a : ClassId) (cc0 : Int32) (cc1 : Int32) (dd0 : Int32) (dd1 : Int32) (h0 : Heap) (n0 : Nat) (O0 : Old Z n0 h0) (hz0 : ¬ z0 = (0 : Int32)) (hcc0 : ¬ cc0 < (0 : Int32) ∧ ¬ (255 : Int32) < cc0) (hcc1 : ¬ cc1 < (0 : Int32) ∧ ¬ (255 : Int32) < cc1) (hdd0 : ¬ dd0 < (0 : Int32) ∧ ¬ (255 : Int32) < dd0) (hdd1 : ¬ dd1 < (0 : Int32) ∧ ¬ (255 : Int32) < dd1) (O_1 : Sta Z Z.heap "java/lang/String" "COMPACT_STRINGS" "Z" (.int z0)) (F_1 : Exa Z h0 a1 "java/lang/String") (F_2 : Fld Z h0 a1 "java/lang/String" "value" "[B" (.ref t1a)) (F_3 : Fld Z h0 a1 "java/lang/String" "coder" "B" (.int (0 : Int32))) (F_4 : Exa Z h0 a2 "java/lang/String") (F_5 : Fld Z h0 a2 "java/lang/String" "value" "[B" (.ref t2a)) (F_6 : Fld Z h0 a2 "java/lang/String" "coder" "B" (.int (0 : Int32))) (F_7 : Arv Z h0 t1a k1a .byte (0 : Int32) [] (.int (0 : Int32))) (F_8 : Arv Z h0 t2a k2a .byte (1 : Int32) [(.int dd0.toInt8.toInt32)] (.int (0 : Int32))) :
    Ctr l Z (⟨"java/lang/String", "compareTo", "(Ljava/lang/String;)I"⟩ : MethodName) jdk_42_method_71_code 5 (some .int) (Rm 3 0 0 47) #[(.ref a1), (.ref a2)] h0 (own_Q27 Z a1 a2 z0 t1a k1a t2a k2a cc0 cc1 dd0 dd1 h0 n0) ws := by
  refine MetFree.of_bodySF (plainFor_of_name own_pn1) hisR ?_
  intro p e s m args below meth c s₁ Bd hml0 hP hK
  obtain ⟨rfl, hZ, hh⟩ := hP
  have hx := Bd.exec
  have hby := Bd.bytes
  have hlk : meth.locks = false := Bd.notSynchronized
  have hml : c.maxLocals = 5 := hml0
  have hown : s.vm.findClass "java/lang/String" = some m.cls := findClass_of_methodNamed Bd.named
  have hnm := (name_of_methodNamed Bd.named Bd.method).1
  have X0 : Stand p l e (Rm 3 0 0 47) s m #[(.ref a1), (.ref a2)] below meth c s₁ [] 0 0 := Stand.of_body Bd
  have e0 : s₁.heap = h0 := by rw [← hh, Bd.state]; rfl
  have N0 := Fr.nil n0
  show Goes p.tables e below (fun t o => ∃ v L, o = .returned v ∧ (own_Q27 Z a1 a2 z0 t1a k1a t2a k2a cc0 cc1 dd0 dd1 h0 n0) v t.heap L ∧ FrameEnd s o t L ((Rm 3 0 0 47)).cells ((Rm 3 0 0 47)).slots) _
  refine Goes.via (B := s₁.setTop (mkF m 0 #[rv a1, rv a2, u_, u_, u_] [])) (fun t k => castTop (own_ef27 m a1 a2) k) ?_
  refine Goes.via (B := s₁.setTop (mkF m 1 _ [(.ref a1)])) (fun t k => XS.aloadN X0.here hx rfl (hb hby own_d_jdk_42_method_71_code_0) rfl rfl k) ?_
  obtain ⟨T1, X1, e1, st1⟩ := getF X0 hx hZ hown (host := "") (Or.inl (own_hw hw 55 rfl)) Via.refl e0 F_2 (g := (mkF m 1 #[rv a1, rv a2, u_, u_, u_] [(.ref a1)])) rfl rfl (hb hby own_d_jdk_42_method_71_code_1)
  refine Goes.via (B := T1.setTop (mkF m 4 #[rv a1, rv a2, u_, u_, u_] [(.ref t1a)])) (fun t k => st1 _ k) ?_
  refine Goes.via (B := T1.setTop (mkF m 5 _ [])) (fun t k => XS.astoreN X1.here hx rfl (hb hby own_d_jdk_42_method_71_code_4) rfl rfl (l' := #[rv a1, rv a2, rv t1a, u_, u_]) rfl k) ?_
  refine Goes.via (B := T1.setTop (mkF m 6 _ [(.ref a2)])) (fun t k => XS.aloadN X1.here hx rfl (hb hby own_d_jdk_42_method_71_code_5) rfl rfl k) ?_
  obtain ⟨T2, X2, e2, st2⟩ := getF X1 hx hZ hown (host := "") (Or.inl (own_hw hw 55 rfl)) Via.refl e1 F_5 (g := (mkF m 6 #[rv a1, rv a2, rv t1a, u_, u_] [(.ref a2)])) rfl rfl (hb hby own_d_jdk_42_method_71_code_6)
  refine Goes.via (B := T2.setTop (mkF m 9 #[rv a1, rv a2, rv t1a, u_, u_] [(.ref t2a)])) (fun t k => st2 _ k) ?_
  refine Goes.via (B := T2.setTop (mkF m 10 _ [])) (fun t k => XS.astoreN X2.here hx rfl (hb hby own_d_jdk_42_method_71_code_9) rfl rfl (l' := #[rv a1, rv a2, rv t1a, rv t2a, u_]) rfl k) ?_
  refine Goes.via (B := T2.setTop (mkF m 11 _ [(.ref a1)])) (fun t k => XS.aloadN X2.here hx rfl (hb hby own_d_jdk_42_method_71_code_10) rfl rfl k) ?_
  obtain ⟨_, T3, L3, X3, ⟨rfl, M3, K3⟩, st3⟩ := callVirt X2 hx hZ hown (own_hw hw 56 rfl) (own_hw hw 57 rfl) (own_hw hw 59 rfl) (notFace_of_selects (args := #[]) (mvT hZ (own_hw hw 59 rfl))) (own_hw hw 58 rfl) (own_hw hw 5 rfl) (own_hw hw 60 rfl) (by decide) (argsL := []) (rest := []) (own_m15 l Z a0 hw [] a1 z0 h0 n0 O0 hz0 O_1 F_3) e2 F_1 (lenOf own_pd11 rfl) (pc := 11) (Ls := #[rv a1, rv a2, rv t1a, rv t2a, u_]) (st := [(.ref a1)]) rfl (by rw [hml]; rfl) (hb hby own_d_jdk_42_method_71_code_11) (W := 0) (Nat.le_of_eq rfl) (by decide) (by decide) (by decide) (by decide)
  have N3 := Fr.app N0 M3
  refine Goes.via (B := T3.setTop (mkF m 14 #[rv a1, rv a2, rv t1a, rv t2a, u_] [(.int (0 : Int32))])) (fun t k => st3 _ k) ?_
  refine Goes.via (B := T3.setTop (mkF m 16 _ [])) (fun t k => XS.istore X3.here hx rfl (hb hby own_d_jdk_42_method_71_code_14) rfl (l' := #[rv a1, rv a2, rv t1a, rv t2a, iv (0 : Int32)]) rfl k) ?_
  refine Goes.via (B := T3.setTop (mkF m 18 _ [(.int (0 : Int32))])) (fun t k => XS.iload X3.here hx rfl (hb hby own_d_jdk_42_method_71_code_16) rfl k) ?_
  refine Goes.via (B := T3.setTop (mkF m 19 _ [(.ref a2), (.int (0 : Int32))])) (fun t k => XS.aloadN X3.here hx rfl (hb hby own_d_jdk_42_method_71_code_18) rfl rfl k) ?_
  obtain ⟨_, T4, L4, X4, ⟨rfl, M4, K4⟩, st4⟩ := callVirt X3 hx hZ hown (own_hw hw 56 rfl) (own_hw hw 57 rfl) (own_hw hw 59 rfl) (notFace_of_selects (args := #[]) (mvT hZ (own_hw hw 59 rfl))) (own_hw hw 58 rfl) (own_hw hw 5 rfl) (own_hw hw 60 rfl) (by decide) (argsL := []) (rest := [(.int (0 : Int32))]) (own_m15 l Z a0 hw [] a2 z0 h0 n0 O0 hz0 O_1 F_6) K3 F_4 (lenOf own_pd11 rfl) (pc := 19) (Ls := #[rv a1, rv a2, rv t1a, rv t2a, iv (0 : Int32)]) (st := [(.ref a2), (.int (0 : Int32))]) rfl (by rw [hml]; rfl) (hb hby own_d_jdk_42_method_71_code_19) (W := 1) (Nat.le_of_eq rfl) (by decide) (by decide) (by decide) (by decide)
  have N4 := Fr.app N3 M4
  refine Goes.via (B := T4.setTop (mkF m 22 #[rv a1, rv a2, rv t1a, rv t2a, iv (0 : Int32)] [(.int (0 : Int32)), (.int (0 : Int32))])) (fun t k => st4 _ k) ?_
  refine Goes.via (B := T4.setTop (mkF m 25 _ [])) (fun t k => XS.icmpNo X4.here hx rfl (hb hby own_d_jdk_42_method_71_code_22) rfl (XT.ii_ne_f rfl) k) ?_
  refine Goes.via (B := T4.setTop (mkF m 27 _ [(.int (0 : Int32))])) (fun t k => XS.iload X4.here hx rfl (hb hby own_d_jdk_42_method_71_code_25) rfl k) ?_
  refine Goes.via (B := T4.setTop (mkF m 30 _ [])) (fun t k => XS.ifNo X4.here hx rfl (hb hby own_d_jdk_42_method_71_code_27) rfl (XT.i0_ne_f rfl) k) ?_
  refine Goes.via (B := T4.setTop (mkF m 31 _ [(.ref t1a)])) (fun t k => XS.aloadN X4.here hx rfl (hb hby own_d_jdk_42_method_71_code_30) rfl rfl k) ?_
  refine Goes.via (B := T4.setTop (mkF m 32 _ [(.ref t2a), (.ref t1a)])) (fun t k => XS.aloadN X4.here hx rfl (hb hby own_d_jdk_42_method_71_code_31) rfl rfl k) ?_
  obtain ⟨_, T5, L5, X5, ⟨r5, rfl, M5, K5, p5_0⟩, st5⟩ := callStatic X4 hx hZ hown (own_hw hw 63 rfl) (own_hw hw 64 rfl) (own_hw hw 65 rfl) (own_hw hw 66 rfl) (by decide) (argsL := [(.ref t1a), (.ref t2a)]) (rest := []) (own_m26 l Z a0 hw [] t1a k1a t2a k2a cc0 cc1 dd0 dd1 h0 n0 O0 hcc0 hcc1 hdd0 hdd1 F_7 F_8) K4 (lenOf own_pd12 rfl) (pc := 32) (Ls := #[rv a1, rv a2, rv t1a, rv t2a, iv (0 : Int32)]) (st := [(.ref t2a), (.ref t1a)]) rfl (by rw [hml]; rfl) (hb hby own_d_jdk_42_method_71_code_32) (W := 0) (Nat.le_of_eq rfl) (by decide) (by decide) (by decide) (by decide)
  have N5 := Fr.app N4 M5
  refine Goes.via (B := T5.setTop (mkF m 35 #[rv a1, rv a2, rv t1a, rv t2a, iv (0 : Int32)] [(.int r5)])) (fun t k => st5 _ k) ?_
  refine Goes.via (B := T5.setTop (mkF m 43 _ [(.int r5)])) (fun t k => XS.goto X5.here hx rfl (pc0 := 35) (pc' := 43) rfl (hb hby own_d_jdk_42_method_71_code_35) (by decide) (by decide) k) ?_
  exact finI (Q := (own_Q27 Z a1 a2 z0 t1a k1a t2a k2a cc0 cc1 dd0 dd1 h0 n0)) (F := FrameEnd) (C := ((Rm 3 0 0 47)).cells) (S := ((Rm 3 0 0 47)).slots) X5 hx Bd.returns (hb hby own_d_jdk_42_method_71_code_43) K5 ⟨r5, rfl, N5, rfl, p5_0⟩ (lvN X5 hlk (by decide) (by decide))
theorem own_ef28 (m : MethodId) (x0 : Addr) (x1 : Addr)  : entryFrame m #[(.ref x0), (.ref x1)] 3 = mkF m 0 #[rv x0, rv x1, u_] [] := by first | (simp [entryFrame, mkF, argsToLocals, Value.category]; done) | rfl
abbrev own_Q28 (Z : State) (a1 : Addr) (a2 : Addr) (x1 : Int64) (x2 : Int64) (s1a : Addr) (s2a : Addr) (z0 : Int32) (t1a : Addr) (k1a : ClassId) (t2a : Addr) (k2a : ClassId) (cc0 : Int32) (cc1 : Int32) (dd0 : Int32) (dd1 : Int32) (h0 : Heap) (n0 : Nat) (v : Option Value) (h : Heap) (L : List Loc) : Prop := ∃ r : Int32, v = some (.int r) ∧ Fr n0 L ∧ h = h0 ∧ own_sg r = own_exp x1 x2 (0 : Int32) cc0 cc1 (1 : Int32) dd0 dd1
set_option maxRecDepth 65536 in
set_option maxHeartbeats 40000000 in
theorem own_m28 (l : Launch) (Z : State) (a0 : Array Value) (hw : ∀ d ∈ tables_1, d.before a0 Z = true) (ws : List Jvm.Cond) (a1 : Addr) (a2 : Addr) (x1 : Int64) (x2 : Int64) (s1a : Addr) (s2a : Addr) (z0 : Int32) (t1a : Addr) (k1a : ClassId) (t2a : Addr) (k2a : ClassId) (cc0 : Int32) (cc1 : Int32) (dd0 : Int32) (dd1 : Int32) (h0 : Heap) (n0 : Nat) (O0 : Old Z n0 h0) (hz0 : ¬ z0 = (0 : Int32)) (hcc0 : ¬ cc0 < (0 : Int32) ∧ ¬ (255 : Int32) < cc0) (hcc1 : ¬ cc1 < (0 : Int32) ∧ ¬ (255 : Int32) < cc1) (hdd0 : ¬ dd0 < (0 : Int32) ∧ ¬ (255 : Int32) < dd0) (hdd1 : ¬ dd1 < (0 : Int32) ∧ ¬ (255 : Int32) < dd1) (O_1 : Sta Z Z.heap "java/lang/String" "COMPACT_STRINGS" "Z" (.int z0)) (F_1 : Exa Z h0 a1 "com/example/keelson/keelson/cluster/Ballot") (F_2 : Fld Z h0 a1 "com/example/keelson/keelson/cluster/Ballot" "round" "J" (.long x1)) (F_3 : Fld Z h0 a1 "com/example/keelson/keelson/cluster/Ballot" "proposer" "Ljava/lang/String;" (.ref s1a)) (F_4 : Exa Z h0 a2 "com/example/keelson/keelson/cluster/Ballot") (F_5 : Fld Z h0 a2 "com/example/keelson/keelson/cluster/Ballot" "round" "J" (.long x2)) (F_6 : Fld Z h0 a2 "com/example/keelson/keelson/cluster/Ballot" "proposer" "Ljava/lang/String;" (.ref s2a)) (F_7 : Exa Z h0 s1a "java/lang/String") (F_8 : Fld Z h0 s1a "java/lang/String" "value" "[B" (.ref t1a)) (F_9 : Fld Z h0 s1a "java/lang/String" "coder" "B" (.int (0 : Int32))) (F_10 : Exa Z h0 s2a "java/lang/String") (F_11 : Fld Z h0 s2a "java/lang/String" "value" "[B" (.ref t2a)) (F_12 : Fld Z h0 s2a "java/lang/String" "coder" "B" (.int (0 : Int32))) (F_13 : Arv Z h0 t1a k1a .byte (0 : Int32) [] (.int (0 : Int32))) (F_14 : Arv Z h0 t2a k2a .byte (1 : Int32) [(.int dd0.toInt8.toInt32)] (.int (0 : Int32))) :
    Ctr l Z (⟨"com/example/keelson/keelson/cluster/Ballot", "compareTo", "(Lcom/example/keelson/keelson/cluster/Ballot;)I"⟩ : MethodName) prog_19_method_2_code 3 (some .int) (Rm 4 0 0 63) #[(.ref a1), (.ref a2)] h0 (own_Q28 Z a1 a2 x1 x2 s1a s2a z0 t1a k1a t2a k2a cc0 cc1 dd0 dd1 h0 n0) ws := by
  refine MetFree.of_bodySF (plainFor_of_name own_pn5) hisR ?_
  intro p e s m args below meth c s₁ Bd hml0 hP hK
  obtain ⟨rfl, hZ, hh⟩ := hP
  have hx := Bd.exec
  have hby := Bd.bytes
  have hlk : meth.locks = false := Bd.notSynchronized
  have hml : c.maxLocals = 3 := hml0
  have hown : s.vm.findClass "com/example/keelson/keelson/cluster/Ballot" = some m.cls := findClass_of_methodNamed Bd.named
  have hnm := (name_of_methodNamed Bd.named Bd.method).1
  have X0 : Stand p l e (Rm 4 0 0 63) s m #[(.ref a1), (.ref a2)] below meth c s₁ [] 0 0 := Stand.of_body Bd
  have e0 : s₁.heap = h0 := by rw [← hh, Bd.state]; rfl
  have N0 := Fr.nil n0
  show Goes p.tables e below (fun t o => ∃ v L, o = .returned v ∧ (own_Q28 Z a1 a2 x1 x2 s1a s2a z0 t1a k1a t2a k2a cc0 cc1 dd0 dd1 h0 n0) v t.heap L ∧ FrameEnd s o t L ((Rm 4 0 0 63)).cells ((Rm 4 0 0 63)).slots) _
  refine Goes.via (B := s₁.setTop (mkF m 0 #[rv a1, rv a2, u_] [])) (fun t k => castTop (own_ef28 m a1 a2) k) ?_
  refine Goes.via (B := s₁.setTop (mkF m 1 _ [(.ref a1)])) (fun t k => XS.aloadN X0.here hx rfl (hb hby own_d_prog_19_method_2_code_0) rfl rfl k) ?_
  obtain ⟨T1, X1, e1, st1⟩ := getF X0 hx hZ hown (host := "") (Or.inl (own_hw hw 31 rfl)) Via.refl e0 F_2 (g := (mkF m 1 #[rv a1, rv a2, u_] [(.ref a1)])) rfl rfl (hb hby own_d_prog_19_method_2_code_1)
  refine Goes.via (B := T1.setTop (mkF m 4 #[rv a1, rv a2, u_] [(.long x1)])) (fun t k => st1 _ k) ?_
  refine Goes.via (B := T1.setTop (mkF m 5 _ [(.ref a2), (.long x1)])) (fun t k => XS.aloadN X1.here hx rfl (hb hby own_d_prog_19_method_2_code_4) rfl rfl k) ?_
  obtain ⟨T2, X2, e2, st2⟩ := getF X1 hx hZ hown (host := "") (Or.inl (own_hw hw 31 rfl)) Via.refl e1 F_5 (g := (mkF m 5 #[rv a1, rv a2, u_] [(.ref a2), (.long x1)])) rfl rfl (hb hby own_d_prog_19_method_2_code_5)
  refine Goes.via (B := T2.setTop (mkF m 8 #[rv a1, rv a2, u_] [(.long x2), (.long x1)])) (fun t k => st2 _ k) ?_
  obtain ⟨_, T3, L3, X3, ⟨r3, rfl, M3, K3, p3_0⟩, st3⟩ := callStatic X2 hx hZ hown (own_hw hw 40 rfl) (own_hw hw 41 rfl) (own_hw hw 42 rfl) (own_hw hw 43 rfl) (by decide) (argsL := [(.long x1), (.long x2)]) (rest := []) (own_m11 l Z a0 hw [] x1 x2 h0 n0 O0 ) e2 (lenOf own_pd13 rfl) (pc := 8) (Ls := #[rv a1, rv a2, u_]) (st := [(.long x2), (.long x1)]) rfl (by rw [hml]; rfl) (hb hby own_d_prog_19_method_2_code_8) (W := 0) (Nat.le_of_eq rfl) (by decide) (by decide) (by decide) (by decide)
  have N3 := Fr.app N0 M3
  refine Goes.via (B := T3.setTop (mkF m 11 #[rv a1, rv a2, u_] [(.int r3)])) (fun t k => st3 _ k) ?_
  refine Goes.via (B := T3.setTop (mkF m 12 _ [])) (fun t k => XS.istoreN X3.here hx rfl (hb hby own_d_prog_19_method_2_code_11) rfl (l' := #[rv a1, rv a2, iv r3]) rfl k) ?_
  refine Goes.via (B := T3.setTop (mkF m 13 _ [(.int r3)])) (fun t k => XS.iloadN X3.here hx rfl (hb hby own_d_prog_19_method_2_code_12) rfl k) ?_
  by_cases hlt : x1 < x2
  · rw [if_pos hlt] at p3_0
    subst p3_0
    refine Goes.via (B := T3.setTop (mkF m 28 _ [])) (fun t k => XS.ifYes X3.here hx rfl (pc0 := 13) (pc' := 28) rfl (hb hby own_d_prog_19_method_2_code_13) rfl (XT.i0_ne_t (by decide)) (by decide) (by decide) k) ?_
    refine Goes.via (B := T3.setTop (mkF m 29 _ [(.int (-1 : Int32))])) (fun t k => XS.iloadN X3.here hx rfl (hb hby own_d_prog_19_method_2_code_28) rfl k) ?_
    exact finI (Q := (own_Q28 Z a1 a2 x1 x2 s1a s2a z0 t1a k1a t2a k2a cc0 cc1 dd0 dd1 h0 n0)) (F := FrameEnd) (C := ((Rm 4 0 0 63)).cells) (S := ((Rm 4 0 0 63)).slots) X3 hx Bd.returns (hb hby own_d_prog_19_method_2_code_29) K3 ⟨(-1 : Int32), rfl, N3, rfl, (by unfold own_exp; rw [if_pos hlt]; decide)⟩ (lvN X3 hlk (by decide) (by decide))
  · rw [if_neg hlt] at p3_0
    by_cases heq : x1 = x2
    · rw [if_pos heq] at p3_0
      have hng : ¬ x2 < x1 := by rw [heq]; rw [Int64.lt_iff_toInt_lt]; omega
      subst p3_0
      refine Goes.via (B := T3.setTop (mkF m 16 _ [])) (fun t k => XS.ifNo X3.here hx rfl (hb hby own_d_prog_19_method_2_code_13) rfl (XT.i0_ne_f rfl) k) ?_
      refine Goes.via (B := T3.setTop (mkF m 17 _ [(.ref a1)])) (fun t k => XS.aloadN X3.here hx rfl (hb hby own_d_prog_19_method_2_code_16) rfl rfl k) ?_
      obtain ⟨T4, X4, e4, st4⟩ := getF X3 hx hZ hown (host := "") (Or.inl (own_hw hw 33 rfl)) Via.refl K3 F_3 (g := (mkF m 17 #[rv a1, rv a2, iv (0 : Int32)] [(.ref a1)])) rfl rfl (hb hby own_d_prog_19_method_2_code_17)
      refine Goes.via (B := T4.setTop (mkF m 20 #[rv a1, rv a2, iv (0 : Int32)] [(.ref s1a)])) (fun t k => st4 _ k) ?_
      refine Goes.via (B := T4.setTop (mkF m 21 _ [(.ref a2), (.ref s1a)])) (fun t k => XS.aloadN X4.here hx rfl (hb hby own_d_prog_19_method_2_code_20) rfl rfl k) ?_
      obtain ⟨T5, X5, e5, st5⟩ := getF X4 hx hZ hown (host := "") (Or.inl (own_hw hw 33 rfl)) Via.refl e4 F_6 (g := (mkF m 21 #[rv a1, rv a2, iv (0 : Int32)] [(.ref a2), (.ref s1a)])) rfl rfl (hb hby own_d_prog_19_method_2_code_21)
      refine Goes.via (B := T5.setTop (mkF m 24 #[rv a1, rv a2, iv (0 : Int32)] [(.ref s2a), (.ref s1a)])) (fun t k => st5 _ k) ?_
      obtain ⟨_, T6, L6, X6, ⟨r6, rfl, M6, K6, p6_0⟩, st6⟩ := callVirt X5 hx hZ hown (own_hw hw 50 rfl) (own_hw hw 51 rfl) (own_hw hw 53 rfl) (notFace_of_selects (args := #[]) (mvT hZ (own_hw hw 53 rfl))) (own_hw hw 52 rfl) (own_hw hw 5 rfl) (own_hw hw 54 rfl) (by decide) (argsL := [(.ref s2a)]) (rest := []) (own_m27 l Z a0 hw [] s1a s2a z0 t1a k1a t2a k2a cc0 cc1 dd0 dd1 h0 n0 O0 hz0 hcc0 hcc1 hdd0 hdd1 O_1 F_7 F_8 F_9 F_10 F_11 F_12 F_13 F_14) e5 F_7 (lenOf own_pd14 rfl) (pc := 24) (Ls := #[rv a1, rv a2, iv (0 : Int32)]) (st := [(.ref s2a), (.ref s1a)]) rfl (by rw [hml]; rfl) (hb hby own_d_prog_19_method_2_code_24) (W := 0) (Nat.le_of_eq rfl) (by decide) (by decide) (by decide) (by decide)
      have N6 := Fr.app N3 M6
      refine Goes.via (B := T6.setTop (mkF m 27 #[rv a1, rv a2, iv (0 : Int32)] [(.int r6)])) (fun t k => st6 _ k) ?_
      refine Goes.via (B := T6.setTop (mkF m 28 _ [])) (fun t k => XS.istoreN X6.here hx rfl (hb hby own_d_prog_19_method_2_code_27) rfl (l' := #[rv a1, rv a2, iv r6]) rfl k) ?_
      refine Goes.via (B := T6.setTop (mkF m 29 _ [(.int r6)])) (fun t k => XS.iloadN X6.here hx rfl (hb hby own_d_prog_19_method_2_code_28) rfl k) ?_
      exact finI (Q := (own_Q28 Z a1 a2 x1 x2 s1a s2a z0 t1a k1a t2a k2a cc0 cc1 dd0 dd1 h0 n0)) (F := FrameEnd) (C := ((Rm 4 0 0 63)).cells) (S := ((Rm 4 0 0 63)).slots) X6 hx Bd.returns (hb hby own_d_prog_19_method_2_code_29) K6 ⟨r6, rfl, N6, rfl, (by unfold own_exp; rw [if_neg hlt, if_neg hng]; exact p6_0)⟩ (lvN X6 hlk (by decide) (by decide))
    · rw [if_neg heq] at p3_0
      have hgt : x2 < x1 := by
        have n' : ¬ x1.toInt = x2.toInt := fun z => heq (Int64.toInt_inj.mp z)
        rw [Int64.lt_iff_toInt_lt] at *; omega
      subst p3_0
      refine Goes.via (B := T3.setTop (mkF m 28 _ [])) (fun t k => XS.ifYes X3.here hx rfl (pc0 := 13) (pc' := 28) rfl (hb hby own_d_prog_19_method_2_code_13) rfl (XT.i0_ne_t (by decide)) (by decide) (by decide) k) ?_
      refine Goes.via (B := T3.setTop (mkF m 29 _ [(.int (1 : Int32))])) (fun t k => XS.iloadN X3.here hx rfl (hb hby own_d_prog_19_method_2_code_28) rfl k) ?_
      exact finI (Q := (own_Q28 Z a1 a2 x1 x2 s1a s2a z0 t1a k1a t2a k2a cc0 cc1 dd0 dd1 h0 n0)) (F := FrameEnd) (C := ((Rm 4 0 0 63)).cells) (S := ((Rm 4 0 0 63)).slots) X3 hx Bd.returns (hb hby own_d_prog_19_method_2_code_29) K3 ⟨(1 : Int32), rfl, N3, rfl, (by unfold own_exp; rw [if_neg hlt, if_pos hgt]; decide)⟩ (lvN X3 hlk (by decide) (by decide))
theorem own_ef29 (m : MethodId) (x0 : Addr) (x1 : Addr) (x2 : Int32)  : entryFrame m #[(.ref x0), (.ref x1), (.int x2)] 4 = mkF m 0 #[rv x0, rv x1, iv x2, u_] [] := by first | (simp [entryFrame, mkF, argsToLocals, Value.category]; done) | rfl
abbrev own_Q29 (Z : State) (t1a : Addr) (k1a : ClassId) (t2a : Addr) (k2a : ClassId) (cc0 : Int32) (cc1 : Int32) (dd0 : Int32) (dd1 : Int32) (h0 : Heap) (n0 : Nat) (v : Option Value) (h : Heap) (L : List Loc) : Prop := ∃ r : Int32, v = some (.int r) ∧ Fr n0 L ∧ h = h0 ∧ r = (-1 : Int32)
set_option maxRecDepth 65536 in
set_option maxHeartbeats 40000000 in
theorem own_m29 (l : Launch) (Z : State) (a0 : Array Value) (hw : ∀ d ∈ tables_1, d.before a0 Z = true) (ws : List Jvm.Cond) (t1a : Addr) (k1a : ClassId) (t2a : Addr) (k2a : ClassId) (cc0 : Int32) (cc1 : Int32) (dd0 : Int32) (dd1 : Int32) (h0 : Heap) (n0 : Nat) (O0 : Old Z n0 h0) (F_1 : Arv Z h0 t1a k1a .byte (0 : Int32) [] (.int (0 : Int32))) (F_2 : Arv Z h0 t2a k2a .byte (2 : Int32) [(.int dd0.toInt8.toInt32), (.int dd1.toInt8.toInt32)] (.int (0 : Int32))) :
    Ctr l Z (⟨"jdk/internal/util/ArraysSupport", "mismatch", "([B[BI)I"⟩ : MethodName) jdk_48_method_13_code 4 (some .int) (Rm 0 0 0 0) #[(.ref t1a), (.ref t2a), (.int (0 : Int32))] h0 (own_Q29 Z t1a k1a t2a k2a cc0 cc1 dd0 dd1 h0 n0) ws := by
  refine MetFree.of_bodySF (plainFor_of_name own_pn7) hisR ?_
  intro p e s m args below meth c s₁ Bd hml0 hP hK
  obtain ⟨rfl, hZ, hh⟩ := hP
  have hx := Bd.exec
  have hby := Bd.bytes
  have hlk : meth.locks = false := Bd.notSynchronized
  have hml : c.maxLocals = 4 := hml0
  have hown : s.vm.findClass "jdk/internal/util/ArraysSupport" = some m.cls := findClass_of_methodNamed Bd.named
  have hnm := (name_of_methodNamed Bd.named Bd.method).1
  have X0 : Stand p l e (Rm 0 0 0 0) s m #[(.ref t1a), (.ref t2a), (.int (0 : Int32))] below meth c s₁ [] 0 0 := Stand.of_body Bd
  have e0 : s₁.heap = h0 := by rw [← hh, Bd.state]; rfl
  have N0 := Fr.nil n0
  show Goes p.tables e below (fun t o => ∃ v L, o = .returned v ∧ (own_Q29 Z t1a k1a t2a k2a cc0 cc1 dd0 dd1 h0 n0) v t.heap L ∧ FrameEnd s o t L ((Rm 0 0 0 0)).cells ((Rm 0 0 0 0)).slots) _
  refine Goes.via (B := s₁.setTop (mkF m 0 #[rv t1a, rv t2a, iv (0 : Int32), u_] [])) (fun t k => castTop (own_ef29 m t1a t2a (0 : Int32)) k) ?_
  refine Goes.via (B := s₁.setTop (mkF m 1 _ [(.int (0 : Int32))])) (fun t k => XS.iconst X0.here hx rfl (hb hby own_d_jdk_48_method_13_code_0) k) ?_
  refine Goes.via (B := s₁.setTop (mkF m 2 _ [])) (fun t k => XS.istoreN X0.here hx rfl (hb hby own_d_jdk_48_method_13_code_1) rfl (l' := #[rv t1a, rv t2a, iv (0 : Int32), iv (0 : Int32)]) rfl k) ?_
  refine Goes.via (B := s₁.setTop (mkF m 3 _ [(.int (0 : Int32))])) (fun t k => XS.iloadN X0.here hx rfl (hb hby own_d_jdk_48_method_13_code_2) rfl k) ?_
  refine Goes.via (B := s₁.setTop (mkF m 5 _ [(.int (7 : Int32)), (.int (0 : Int32))])) (fun t k => XS.bipush X0.here hx rfl (hb hby own_d_jdk_48_method_13_code_3) k) ?_
  refine Goes.via (B := s₁.setTop (mkF m 49 _ [])) (fun t k => XS.icmpYes X0.here hx rfl (pc0 := 5) (pc' := 49) rfl (hb hby own_d_jdk_48_method_13_code_5) rfl (XT.ii_le_t (by decide)) (by decide) (by decide) k) ?_
  refine Goes.via (B := s₁.setTop (mkF m 50 _ [(.int (0 : Int32))])) (fun t k => XS.iloadN X0.here hx rfl (hb hby own_d_jdk_48_method_13_code_49) rfl k) ?_
  refine Goes.via (B := s₁.setTop (mkF m 51 _ [(.int (0 : Int32)), (.int (0 : Int32))])) (fun t k => XS.iloadN X0.here hx rfl (hb hby own_d_jdk_48_method_13_code_50) rfl k) ?_
  refine Goes.via (B := s₁.setTop (mkF m 71 _ [])) (fun t k => XS.icmpYes X0.here hx rfl (pc0 := 51) (pc' := 71) rfl (hb hby own_d_jdk_48_method_13_code_51) rfl (XT.ii_ge_t (by decide)) (by decide) (by decide) k) ?_
  refine Goes.via (B := s₁.setTop (mkF m 72 _ [(.int (-1 : Int32))])) (fun t k => XS.iconst X0.here hx rfl (hb hby own_d_jdk_48_method_13_code_71) k) ?_
  exact finI (Q := (own_Q29 Z t1a k1a t2a k2a cc0 cc1 dd0 dd1 h0 n0)) (F := FrameEnd) (C := ((Rm 0 0 0 0)).cells) (S := ((Rm 0 0 0 0)).slots) X0 hx Bd.returns (hb hby own_d_jdk_48_method_13_code_72) e0 ⟨(-1 : Int32), rfl, N0, rfl, rfl⟩ (lvN X0 hlk (by decide) (by decide))
theorem own_ef30 (m : MethodId) (x0 : Addr) (x1 : Addr) (x2 : Int32) (x3 : Int32)  : entryFrame m #[(.ref x0), (.ref x1), (.int x2), (.int x3)] 6 = mkF m 0 #[rv x0, rv x1, iv x2, iv x3, u_, u_] [] := by first | (simp [entryFrame, mkF, argsToLocals, Value.category]; done) | rfl
abbrev own_Q30 (Z : State) (t1a : Addr) (k1a : ClassId) (t2a : Addr) (k2a : ClassId) (cc0 : Int32) (cc1 : Int32) (dd0 : Int32) (dd1 : Int32) (h0 : Heap) (n0 : Nat) (v : Option Value) (h : Heap) (L : List Loc) : Prop := ∃ r : Int32, v = some (.int r) ∧ Fr n0 L ∧ h = h0 ∧ own_sg r = own_lex (0 : Int32) cc0 cc1 (2 : Int32) dd0 dd1
set_option maxRecDepth 65536 in
set_option maxHeartbeats 40000000 in
theorem own_m30 (l : Launch) (Z : State) (a0 : Array Value) (hw : ∀ d ∈ tables_1, d.before a0 Z = true) (ws : List Jvm.Cond) (t1a : Addr) (k1a : ClassId) (t2a : Addr) (k2a : ClassId) (cc0 : Int32) (cc1 : Int32) (dd0 : Int32) (dd1 : Int32) (h0 : Heap) (n0 : Nat) (O0 : Old Z n0 h0) (hcc0 : ¬ cc0 < (0 : Int32) ∧ ¬ (255 : Int32) < cc0) (hcc1 : ¬ cc1 < (0 : Int32) ∧ ¬ (255 : Int32) < cc1) (hdd0 : ¬ dd0 < (0 : Int32) ∧ ¬ (255 : Int32) < dd0) (hdd1 : ¬ dd1 < (0 : Int32) ∧ ¬ (255 : Int32) < dd1) (F_1 : Arv Z h0 t1a k1a .byte (0 : Int32) [] (.int (0 : Int32))) (F_2 : Arv Z h0 t2a k2a .byte (2 : Int32) [(.int dd0.toInt8.toInt32), (.int dd1.toInt8.toInt32)] (.int (0 : Int32))) :
    Ctr l Z (⟨"java/lang/StringLatin1", "compareTo", "([B[BII)I"⟩ : MethodName) jdk_43_method_15_code 6 (some .int) (Rm 1 0 0 15) #[(.ref t1a), (.ref t2a), (.int (0 : Int32)), (.int (2 : Int32))] h0 (own_Q30 Z t1a k1a t2a k2a cc0 cc1 dd0 dd1 h0 n0) ws := by
  refine MetFree.of_bodySF (plainFor_of_name own_pn0) hisR ?_
  intro p e s m args below meth c s₁ Bd hml0 hP hK
  obtain ⟨rfl, hZ, hh⟩ := hP
  have hx := Bd.exec
  have hby := Bd.bytes
  have hlk : meth.locks = false := Bd.notSynchronized
  have hml : c.maxLocals = 6 := hml0
  have hown : s.vm.findClass "java/lang/StringLatin1" = some m.cls := findClass_of_methodNamed Bd.named
  have hnm := (name_of_methodNamed Bd.named Bd.method).1
  have X0 : Stand p l e (Rm 1 0 0 15) s m #[(.ref t1a), (.ref t2a), (.int (0 : Int32)), (.int (2 : Int32))] below meth c s₁ [] 0 0 := Stand.of_body Bd
  have e0 : s₁.heap = h0 := by rw [← hh, Bd.state]; rfl
  have N0 := Fr.nil n0
  show Goes p.tables e below (fun t o => ∃ v L, o = .returned v ∧ (own_Q30 Z t1a k1a t2a k2a cc0 cc1 dd0 dd1 h0 n0) v t.heap L ∧ FrameEnd s o t L ((Rm 1 0 0 15)).cells ((Rm 1 0 0 15)).slots) _
  refine Goes.via (B := s₁.setTop (mkF m 0 #[rv t1a, rv t2a, iv (0 : Int32), iv (2 : Int32), u_, u_] [])) (fun t k => castTop (own_ef30 m t1a t2a (0 : Int32) (2 : Int32)) k) ?_
  refine Goes.via (B := s₁.setTop (mkF m 1 _ [(.int (0 : Int32))])) (fun t k => XS.iloadN X0.here hx rfl (hb hby own_d_jdk_43_method_15_code_0) rfl k) ?_
  refine Goes.via (B := s₁.setTop (mkF m 2 _ [(.int (2 : Int32)), (.int (0 : Int32))])) (fun t k => XS.iloadN X0.here hx rfl (hb hby own_d_jdk_43_method_15_code_1) rfl k) ?_
  obtain ⟨_, T1, L1, X1, ⟨r1, rfl, M1, K1, p1_0⟩, st1⟩ := callStatic X0 hx hZ hown (own_hw hw 70 rfl) (own_hw hw 71 rfl) (own_hw hw 72 rfl) (own_hw hw 73 rfl) (by decide) (argsL := [(.int (0 : Int32)), (.int (2 : Int32))]) (rest := []) (own_m14 l Z a0 hw [] (0 : Int32) (2 : Int32) h0 n0 O0 ) e0 (lenOf own_pd8 rfl) (pc := 2) (Ls := #[rv t1a, rv t2a, iv (0 : Int32), iv (2 : Int32), u_, u_]) (st := [(.int (2 : Int32)), (.int (0 : Int32))]) rfl (by rw [hml]; rfl) (hb hby own_d_jdk_43_method_15_code_2) (W := 0) (Nat.le_of_eq rfl) (by decide) (by decide) (by decide) (by decide)
  have N1 := Fr.app N0 M1
  refine Goes.via (B := T1.setTop (mkF m 5 #[rv t1a, rv t2a, iv (0 : Int32), iv (2 : Int32), u_, u_] [(.int r1)])) (fun t k => st1 _ k) ?_
  obtain rfl : r1 = (0 : Int32) := p1_0.trans (by decide)
  refine Goes.via (B := T1.setTop (mkF m 7 _ [])) (fun t k => XS.istore X1.here hx rfl (hb hby own_d_jdk_43_method_15_code_5) rfl (l' := #[rv t1a, rv t2a, iv (0 : Int32), iv (2 : Int32), iv (0 : Int32), u_]) rfl k) ?_
  refine Goes.via (B := T1.setTop (mkF m 8 _ [(.ref t1a)])) (fun t k => XS.aloadN X1.here hx rfl (hb hby own_d_jdk_43_method_15_code_7) rfl rfl k) ?_
  refine Goes.via (B := T1.setTop (mkF m 9 _ [(.ref t2a), (.ref t1a)])) (fun t k => XS.aloadN X1.here hx rfl (hb hby own_d_jdk_43_method_15_code_8) rfl rfl k) ?_
  refine Goes.via (B := T1.setTop (mkF m 11 _ [(.int (0 : Int32)), (.ref t2a), (.ref t1a)])) (fun t k => XS.iload X1.here hx rfl (hb hby own_d_jdk_43_method_15_code_9) rfl k) ?_
  obtain ⟨_, T2, L2, X2, ⟨r2, rfl, M2, K2, p2_0⟩, st2⟩ := callStatic X1 hx hZ hown (own_hw hw 74 rfl) (own_hw hw 75 rfl) (own_hw hw 76 rfl) (own_hw hw 77 rfl) (by decide) (argsL := [(.ref t1a), (.ref t2a), (.int (0 : Int32))]) (rest := []) (own_m29 l Z a0 hw [] t1a k1a t2a k2a cc0 cc1 dd0 dd1 h0 n0 O0 F_1 F_2) K1 (lenOf own_pd9 rfl) (pc := 11) (Ls := #[rv t1a, rv t2a, iv (0 : Int32), iv (2 : Int32), iv (0 : Int32), u_]) (st := [(.int (0 : Int32)), (.ref t2a), (.ref t1a)]) rfl (by rw [hml]; rfl) (hb hby own_d_jdk_43_method_15_code_11) (W := 0) (Nat.le_of_eq rfl) (by decide) (by decide) (by decide) (by decide)
  have N2 := Fr.app N1 M2
  refine Goes.via (B := T2.setTop (mkF m 14 #[rv t1a, rv t2a, iv (0 : Int32), iv (2 : Int32), iv (0 : Int32), u_] [(.int r2)])) (fun t k => st2 _ k) ?_
  obtain rfl : r2 = (-1 : Int32) := p2_0
  refine Goes.via (B := T2.setTop (mkF m 16 _ [])) (fun t k => XS.istore X2.here hx rfl (hb hby own_d_jdk_43_method_15_code_14) rfl (l' := #[rv t1a, rv t2a, iv (0 : Int32), iv (2 : Int32), iv (0 : Int32), iv (-1 : Int32)]) rfl k) ?_
  refine Goes.via (B := T2.setTop (mkF m 18 _ [(.int (-1 : Int32))])) (fun t k => XS.iload X2.here hx rfl (hb hby own_d_jdk_43_method_15_code_16) rfl k) ?_
  refine Goes.via (B := T2.setTop (mkF m 21 _ [])) (fun t k => XS.ifNo X2.here hx rfl (hb hby own_d_jdk_43_method_15_code_18) rfl (XT.i0_ge_f (by decide)) k) ?_
  refine Goes.via (B := T2.setTop (mkF m 22 _ [(.int (0 : Int32))])) (fun t k => XS.iloadN X2.here hx rfl (hb hby own_d_jdk_43_method_15_code_21) rfl k) ?_
  refine Goes.via (B := T2.setTop (mkF m 23 _ [(.int (2 : Int32)), (.int (0 : Int32))])) (fun t k => XS.iloadN X2.here hx rfl (hb hby own_d_jdk_43_method_15_code_22) rfl k) ?_
  refine Goes.via (B := T2.setTop (mkF m 24 _ [(.int ((0 : Int32) - (2 : Int32)))])) (fun t k => XS.isub X2.here hx rfl (hb hby own_d_jdk_43_method_15_code_23) rfl k) ?_
  refine Goes.via (B := T2.setTop (mkF m 40 _ [(.int ((0 : Int32) - (2 : Int32)))])) (fun t k => XS.goto X2.here hx rfl (pc0 := 24) (pc' := 40) rfl (hb hby own_d_jdk_43_method_15_code_24) (by decide) (by decide) k) ?_
  exact finI (Q := (own_Q30 Z t1a k1a t2a k2a cc0 cc1 dd0 dd1 h0 n0)) (F := FrameEnd) (C := ((Rm 1 0 0 15)).cells) (S := ((Rm 1 0 0 15)).slots) X2 hx Bd.returns (hb hby own_d_jdk_43_method_15_code_40) K2 ⟨((0 : Int32) - (2 : Int32)), rfl, N2, rfl, (by simp [own_lex])⟩ (lvN X2 hlk (by decide) (by decide))
theorem own_ef31 (m : MethodId) (x0 : Addr) (x1 : Addr)  : entryFrame m #[(.ref x0), (.ref x1)] 4 = mkF m 0 #[rv x0, rv x1, u_, u_] [] := by first | (simp [entryFrame, mkF, argsToLocals, Value.category]; done) | rfl
abbrev own_Q31 (Z : State) (t1a : Addr) (k1a : ClassId) (t2a : Addr) (k2a : ClassId) (cc0 : Int32) (cc1 : Int32) (dd0 : Int32) (dd1 : Int32) (h0 : Heap) (n0 : Nat) (v : Option Value) (h : Heap) (L : List Loc) : Prop := ∃ r : Int32, v = some (.int r) ∧ Fr n0 L ∧ h = h0 ∧ own_sg r = own_lex (0 : Int32) cc0 cc1 (2 : Int32) dd0 dd1
set_option maxRecDepth 65536 in
set_option maxHeartbeats 40000000 in
theorem own_m31 (l : Launch) (Z : State) (a0 : Array Value) (hw : ∀ d ∈ tables_1, d.before a0 Z = true) (ws : List Jvm.Cond) (t1a : Addr) (k1a : ClassId) (t2a : Addr) (k2a : ClassId) (cc0 : Int32) (cc1 : Int32) (dd0 : Int32) (dd1 : Int32) (h0 : Heap) (n0 : Nat) (O0 : Old Z n0 h0) (hcc0 : ¬ cc0 < (0 : Int32) ∧ ¬ (255 : Int32) < cc0) (hcc1 : ¬ cc1 < (0 : Int32) ∧ ¬ (255 : Int32) < cc1) (hdd0 : ¬ dd0 < (0 : Int32) ∧ ¬ (255 : Int32) < dd0) (hdd1 : ¬ dd1 < (0 : Int32) ∧ ¬ (255 : Int32) < dd1) (F_1 : Arv Z h0 t1a k1a .byte (0 : Int32) [] (.int (0 : Int32))) (F_2 : Arv Z h0 t2a k2a .byte (2 : Int32) [(.int dd0.toInt8.toInt32), (.int dd1.toInt8.toInt32)] (.int (0 : Int32))) :
    Ctr l Z (⟨"java/lang/StringLatin1", "compareTo", "([B[B)I"⟩ : MethodName) jdk_43_method_14_code 4 (some .int) (Rm 2 0 0 32) #[(.ref t1a), (.ref t2a)] h0 (own_Q31 Z t1a k1a t2a k2a cc0 cc1 dd0 dd1 h0 n0) ws := by
  refine MetFree.of_bodySF (plainFor_of_name own_pn0) hisR ?_
  intro p e s m args below meth c s₁ Bd hml0 hP hK
  obtain ⟨rfl, hZ, hh⟩ := hP
  have hx := Bd.exec
  have hby := Bd.bytes
  have hlk : meth.locks = false := Bd.notSynchronized
  have hml : c.maxLocals = 4 := hml0
  have hown : s.vm.findClass "java/lang/StringLatin1" = some m.cls := findClass_of_methodNamed Bd.named
  have hnm := (name_of_methodNamed Bd.named Bd.method).1
  have X0 : Stand p l e (Rm 2 0 0 32) s m #[(.ref t1a), (.ref t2a)] below meth c s₁ [] 0 0 := Stand.of_body Bd
  have e0 : s₁.heap = h0 := by rw [← hh, Bd.state]; rfl
  have N0 := Fr.nil n0
  show Goes p.tables e below (fun t o => ∃ v L, o = .returned v ∧ (own_Q31 Z t1a k1a t2a k2a cc0 cc1 dd0 dd1 h0 n0) v t.heap L ∧ FrameEnd s o t L ((Rm 2 0 0 32)).cells ((Rm 2 0 0 32)).slots) _
  refine Goes.via (B := s₁.setTop (mkF m 0 #[rv t1a, rv t2a, u_, u_] [])) (fun t k => castTop (own_ef31 m t1a t2a) k) ?_
  refine Goes.via (B := s₁.setTop (mkF m 1 _ [(.ref t1a)])) (fun t k => XS.aloadN X0.here hx rfl (hb hby own_d_jdk_43_method_14_code_0) rfl rfl k) ?_
  obtain ⟨cl1, Ar1, q1, S1, N1, H1, G1⟩ := id F_1
  refine Goes.via (B := s₁.setTop (mkF m 2 #[rv t1a, rv t2a, u_, u_] [(.int (0 : Int32))])) (fun t k => X0.arraylength hx (by rw [e0]; exact Ar1.1) (State.isArrayOf_alike hZ.alike Ar1.2.1) (g := (mkF m 1 #[rv t1a, rv t2a, u_, u_] [(.ref t1a)])) rfl rfl (hb hby own_d_jdk_43_method_14_code_1) t (by rw [(len_of S1 N1)]; exact k)) ?_
  refine Goes.via (B := s₁.setTop (mkF m 3 _ [])) (fun t k => XS.istoreN X0.here hx rfl (hb hby own_d_jdk_43_method_14_code_2) rfl (l' := #[rv t1a, rv t2a, iv (0 : Int32), u_]) rfl k) ?_
  refine Goes.via (B := s₁.setTop (mkF m 4 _ [(.ref t2a)])) (fun t k => XS.aloadN X0.here hx rfl (hb hby own_d_jdk_43_method_14_code_3) rfl rfl k) ?_
  obtain ⟨cl2, Ar2, q2, S2, N2, H2, G2⟩ := id F_2
  refine Goes.via (B := s₁.setTop (mkF m 5 #[rv t1a, rv t2a, iv (0 : Int32), u_] [(.int (2 : Int32))])) (fun t k => X0.arraylength hx (by rw [e0]; exact Ar2.1) (State.isArrayOf_alike hZ.alike Ar2.2.1) (g := (mkF m 4 #[rv t1a, rv t2a, iv (0 : Int32), u_] [(.ref t2a)])) rfl rfl (hb hby own_d_jdk_43_method_14_code_4) t (by rw [(len_of S2 N2)]; exact k)) ?_
  refine Goes.via (B := s₁.setTop (mkF m 6 _ [])) (fun t k => XS.istoreN X0.here hx rfl (hb hby own_d_jdk_43_method_14_code_5) rfl (l' := #[rv t1a, rv t2a, iv (0 : Int32), iv (2 : Int32)]) rfl k) ?_
  refine Goes.via (B := s₁.setTop (mkF m 7 _ [(.ref t1a)])) (fun t k => XS.aloadN X0.here hx rfl (hb hby own_d_jdk_43_method_14_code_6) rfl rfl k) ?_
  refine Goes.via (B := s₁.setTop (mkF m 8 _ [(.ref t2a), (.ref t1a)])) (fun t k => XS.aloadN X0.here hx rfl (hb hby own_d_jdk_43_method_14_code_7) rfl rfl k) ?_
  refine Goes.via (B := s₁.setTop (mkF m 9 _ [(.int (0 : Int32)), (.ref t2a), (.ref t1a)])) (fun t k => XS.iloadN X0.here hx rfl (hb hby own_d_jdk_43_method_14_code_8) rfl k) ?_
  refine Goes.via (B := s₁.setTop (mkF m 10 _ [(.int (2 : Int32)), (.int (0 : Int32)), (.ref t2a), (.ref t1a)])) (fun t k => XS.iloadN X0.here hx rfl (hb hby own_d_jdk_43_method_14_code_9) rfl k) ?_
  obtain ⟨_, T3, L3, X3, ⟨r3, rfl, M3, K3, p3_0⟩, st3⟩ := callStatic X0 hx hZ hown (own_hw hw 67 rfl) (own_hw hw 68 rfl) (own_hw hw 65 rfl) (own_hw hw 69 rfl) (by decide) (argsL := [(.ref t1a), (.ref t2a), (.int (0 : Int32)), (.int (2 : Int32))]) (rest := []) (own_m30 l Z a0 hw [] t1a k1a t2a k2a cc0 cc1 dd0 dd1 h0 n0 O0 hcc0 hcc1 hdd0 hdd1 F_1 F_2) e0 (lenOf own_pd10 rfl) (pc := 10) (Ls := #[rv t1a, rv t2a, iv (0 : Int32), iv (2 : Int32)]) (st := [(.int (2 : Int32)), (.int (0 : Int32)), (.ref t2a), (.ref t1a)]) rfl (by rw [hml]; rfl) (hb hby own_d_jdk_43_method_14_code_10) (W := 0) (Nat.le_of_eq rfl) (by decide) (by decide) (by decide) (by decide)
  have N3 := Fr.app N0 M3
  refine Goes.via (B := T3.setTop (mkF m 13 #[rv t1a, rv t2a, iv (0 : Int32), iv (2 : Int32)] [(.int r3)])) (fun t k => st3 _ k) ?_
  exact finI (Q := (own_Q31 Z t1a k1a t2a k2a cc0 cc1 dd0 dd1 h0 n0)) (F := FrameEnd) (C := ((Rm 2 0 0 32)).cells) (S := ((Rm 2 0 0 32)).slots) X3 hx Bd.returns (hb hby own_d_jdk_43_method_14_code_13) K3 ⟨r3, rfl, N3, rfl, p3_0⟩ (lvN X3 hlk (by decide) (by decide))
theorem own_ef32 (m : MethodId) (x0 : Addr) (x1 : Addr)  : entryFrame m #[(.ref x0), (.ref x1)] 5 = mkF m 0 #[rv x0, rv x1, u_, u_, u_] [] := by first | (simp [entryFrame, mkF, argsToLocals, Value.category]; done) | rfl
abbrev own_Q32 (Z : State) (a1 : Addr) (a2 : Addr) (z0 : Int32) (t1a : Addr) (k1a : ClassId) (t2a : Addr) (k2a : ClassId) (cc0 : Int32) (cc1 : Int32) (dd0 : Int32) (dd1 : Int32) (h0 : Heap) (n0 : Nat) (v : Option Value) (h : Heap) (L : List Loc) : Prop := ∃ r : Int32, v = some (.int r) ∧ Fr n0 L ∧ h = h0 ∧ own_sg r = own_lex (0 : Int32) cc0 cc1 (2 : Int32) dd0 dd1
set_option maxRecDepth 65536 in
set_option maxHeartbeats 40000000 in
theorem own_m32 (l : Launch) (Z : State) (a0 : Array Value) (hw : ∀ d ∈ tables_1, d.before a0 Z = true) (ws : List Jvm.Cond) (a1 : Addr) (a2 : Addr) (z0 : Int32) (t1a : Addr) (k1a : ClassId) (t2a : Addr) (k2a : ClassId) (cc0 : Int32) (cc1 : Int32) (dd0 : Int32) (dd1 : Int32) (h0 : Heap) (n0 : Nat) (O0 : Old Z n0 h0) (hz0 : ¬ z0 = (0 : Int32)) (hcc0 : ¬ cc0 < (0 : Int32) ∧ ¬ (255 : Int32) < cc0) (hcc1 : ¬ cc1 < (0 : Int32) ∧ ¬ (255 : Int32) < cc1) (hdd0 : ¬ dd0 < (0 : Int32) ∧ ¬ (255 : Int32) < dd0) (hdd1 : ¬ dd1 < (0 : Int32) ∧ ¬ (255 : Int32) < dd1) (O_1 : Sta Z Z.heap "java/lang/String" "COMPACT_STRINGS" "Z" (.int z0)) (F_1 : Exa Z h0 a1 "java/lang/String") (F_2 : Fld Z h0 a1 "java/lang/String" "value" "[B" (.ref t1a)) (F_3 : Fld Z h0 a1 "java/lang/String" "coder" "B" (.int (0 : Int32))) (F_4 : Exa Z h0 a2 "java/lang/String") (F_5 : Fld Z h0 a2 "java/lang/String" "value" "[B" (.ref t2a)) (F_6 : Fld Z h0 a2 "java/lang/String" "coder" "B" (.int (0 : Int32))) (F_7 : Arv Z h0 t1a k1a .byte (0 : Int32) [] (.int (0 : Int32))) (F_8 : Arv Z h0 t2a k2a .byte (2 : Int32) [(.int dd0.toInt8.toInt32), (.int dd1.toInt8.toInt32)] (.int (0 : Int32))) :
    Ctr l Z (⟨"java/lang/String", "compareTo", "(Ljava/lang/String;)I"⟩ : MethodName) jdk_42_method_71_code 5 (some .int) (Rm 3 0 0 47) #[(.ref a1), (.ref a2)] h0 (own_Q32 Z a1 a2 z0 t1a k1a t2a k2a cc0 cc1 dd0 dd1 h0 n0) ws := by
  refine MetFree.of_bodySF (plainFor_of_name own_pn1) hisR ?_
  intro p e s m args below meth c s₁ Bd hml0 hP hK
  obtain ⟨rfl, hZ, hh⟩ := hP
  have hx := Bd.exec
  have hby := Bd.bytes
  have hlk : meth.locks = false := Bd.notSynchronized
  have hml : c.maxLocals = 5 := hml0
  have hown : s.vm.findClass "java/lang/String" = some m.cls := findClass_of_methodNamed Bd.named
  have hnm := (name_of_methodNamed Bd.named Bd.method).1
  have X0 : Stand p l e (Rm 3 0 0 47) s m #[(.ref a1), (.ref a2)] below meth c s₁ [] 0 0 := Stand.of_body Bd
  have e0 : s₁.heap = h0 := by rw [← hh, Bd.state]; rfl
  have N0 := Fr.nil n0
  show Goes p.tables e below (fun t o => ∃ v L, o = .returned v ∧ (own_Q32 Z a1 a2 z0 t1a k1a t2a k2a cc0 cc1 dd0 dd1 h0 n0) v t.heap L ∧ FrameEnd s o t L ((Rm 3 0 0 47)).cells ((Rm 3 0 0 47)).slots) _
  refine Goes.via (B := s₁.setTop (mkF m 0 #[rv a1, rv a2, u_, u_, u_] [])) (fun t k => castTop (own_ef32 m a1 a2) k) ?_
  refine Goes.via (B := s₁.setTop (mkF m 1 _ [(.ref a1)])) (fun t k => XS.aloadN X0.here hx rfl (hb hby own_d_jdk_42_method_71_code_0) rfl rfl k) ?_
  obtain ⟨T1, X1, e1, st1⟩ := getF X0 hx hZ hown (host := "") (Or.inl (own_hw hw 55 rfl)) Via.refl e0 F_2 (g := (mkF m 1 #[rv a1, rv a2, u_, u_, u_] [(.ref a1)])) rfl rfl (hb hby own_d_jdk_42_method_71_code_1)
  refine Goes.via (B := T1.setTop (mkF m 4 #[rv a1, rv a2, u_, u_, u_] [(.ref t1a)])) (fun t k => st1 _ k) ?_
  refine Goes.via (B := T1.setTop (mkF m 5 _ [])) (fun t k => XS.astoreN X1.here hx rfl (hb hby own_d_jdk_42_method_71_code_4) rfl rfl (l' := #[rv a1, rv a2, rv t1a, u_, u_]) rfl k) ?_
  refine Goes.via (B := T1.setTop (mkF m 6 _ [(.ref a2)])) (fun t k => XS.aloadN X1.here hx rfl (hb hby own_d_jdk_42_method_71_code_5) rfl rfl k) ?_
  obtain ⟨T2, X2, e2, st2⟩ := getF X1 hx hZ hown (host := "") (Or.inl (own_hw hw 55 rfl)) Via.refl e1 F_5 (g := (mkF m 6 #[rv a1, rv a2, rv t1a, u_, u_] [(.ref a2)])) rfl rfl (hb hby own_d_jdk_42_method_71_code_6)
  refine Goes.via (B := T2.setTop (mkF m 9 #[rv a1, rv a2, rv t1a, u_, u_] [(.ref t2a)])) (fun t k => st2 _ k) ?_
  refine Goes.via (B := T2.setTop (mkF m 10 _ [])) (fun t k => XS.astoreN X2.here hx rfl (hb hby own_d_jdk_42_method_71_code_9) rfl rfl (l' := #[rv a1, rv a2, rv t1a, rv t2a, u_]) rfl k) ?_
  refine Goes.via (B := T2.setTop (mkF m 11 _ [(.ref a1)])) (fun t k => XS.aloadN X2.here hx rfl (hb hby own_d_jdk_42_method_71_code_10) rfl rfl k) ?_
  obtain ⟨_, T3, L3, X3, ⟨rfl, M3, K3⟩, st3⟩ := callVirt X2 hx hZ hown (own_hw hw 56 rfl) (own_hw hw 57 rfl) (own_hw hw 59 rfl) (notFace_of_selects (args := #[]) (mvT hZ (own_hw hw 59 rfl))) (own_hw hw 58 rfl) (own_hw hw 5 rfl) (own_hw hw 60 rfl) (by decide) (argsL := []) (rest := []) (own_m15 l Z a0 hw [] a1 z0 h0 n0 O0 hz0 O_1 F_3) e2 F_1 (lenOf own_pd11 rfl) (pc := 11) (Ls := #[rv a1, rv a2, rv t1a, rv t2a, u_]) (st := [(.ref a1)]) rfl (by rw [hml]; rfl) (hb hby own_d_jdk_42_method_71_code_11) (W := 0) (Nat.le_of_eq rfl) (by decide) (by decide) (by decide) (by decide)
  have N3 := Fr.app N0 M3
  refine Goes.via (B := T3.setTop (mkF m 14 #[rv a1, rv a2, rv t1a, rv t2a, u_] [(.int (0 : Int32))])) (fun t k => st3 _ k) ?_
  refine Goes.via (B := T3.setTop (mkF m 16 _ [])) (fun t k => XS.istore X3.here hx rfl (hb hby own_d_jdk_42_method_71_code_14) rfl (l' := #[rv a1, rv a2, rv t1a, rv t2a, iv (0 : Int32)]) rfl k) ?_
  refine Goes.via (B := T3.setTop (mkF m 18 _ [(.int (0 : Int32))])) (fun t k => XS.iload X3.here hx rfl (hb hby own_d_jdk_42_method_71_code_16) rfl k) ?_
  refine Goes.via (B := T3.setTop (mkF m 19 _ [(.ref a2), (.int (0 : Int32))])) (fun t k => XS.aloadN X3.here hx rfl (hb hby own_d_jdk_42_method_71_code_18) rfl rfl k) ?_
  obtain ⟨_, T4, L4, X4, ⟨rfl, M4, K4⟩, st4⟩ := callVirt X3 hx hZ hown (own_hw hw 56 rfl) (own_hw hw 57 rfl) (own_hw hw 59 rfl) (notFace_of_selects (args := #[]) (mvT hZ (own_hw hw 59 rfl))) (own_hw hw 58 rfl) (own_hw hw 5 rfl) (own_hw hw 60 rfl) (by decide) (argsL := []) (rest := [(.int (0 : Int32))]) (own_m15 l Z a0 hw [] a2 z0 h0 n0 O0 hz0 O_1 F_6) K3 F_4 (lenOf own_pd11 rfl) (pc := 19) (Ls := #[rv a1, rv a2, rv t1a, rv t2a, iv (0 : Int32)]) (st := [(.ref a2), (.int (0 : Int32))]) rfl (by rw [hml]; rfl) (hb hby own_d_jdk_42_method_71_code_19) (W := 1) (Nat.le_of_eq rfl) (by decide) (by decide) (by decide) (by decide)
  have N4 := Fr.app N3 M4
  refine Goes.via (B := T4.setTop (mkF m 22 #[rv a1, rv a2, rv t1a, rv t2a, iv (0 : Int32)] [(.int (0 : Int32)), (.int (0 : Int32))])) (fun t k => st4 _ k) ?_
  refine Goes.via (B := T4.setTop (mkF m 25 _ [])) (fun t k => XS.icmpNo X4.here hx rfl (hb hby own_d_jdk_42_method_71_code_22) rfl (XT.ii_ne_f rfl) k) ?_
  refine Goes.via (B := T4.setTop (mkF m 27 _ [(.int (0 : Int32))])) (fun t k => XS.iload X4.here hx rfl (hb hby own_d_jdk_42_method_71_code_25) rfl k) ?_
  refine Goes.via (B := T4.setTop (mkF m 30 _ [])) (fun t k => XS.ifNo X4.here hx rfl (hb hby own_d_jdk_42_method_71_code_27) rfl (XT.i0_ne_f rfl) k) ?_
  refine Goes.via (B := T4.setTop (mkF m 31 _ [(.ref t1a)])) (fun t k => XS.aloadN X4.here hx rfl (hb hby own_d_jdk_42_method_71_code_30) rfl rfl k) ?_
  refine Goes.via (B := T4.setTop (mkF m 32 _ [(.ref t2a), (.ref t1a)])) (fun t k => XS.aloadN X4.here hx rfl (hb hby own_d_jdk_42_method_71_code_31) rfl rfl k) ?_
  obtain ⟨_, T5, L5, X5, ⟨r5, rfl, M5, K5, p5_0⟩, st5⟩ := callStatic X4 hx hZ hown (own_hw hw 63 rfl) (own_hw hw 64 rfl) (own_hw hw 65 rfl) (own_hw hw 66 rfl) (by decide) (argsL := [(.ref t1a), (.ref t2a)]) (rest := []) (own_m31 l Z a0 hw [] t1a k1a t2a k2a cc0 cc1 dd0 dd1 h0 n0 O0 hcc0 hcc1 hdd0 hdd1 F_7 F_8) K4 (lenOf own_pd12 rfl) (pc := 32) (Ls := #[rv a1, rv a2, rv t1a, rv t2a, iv (0 : Int32)]) (st := [(.ref t2a), (.ref t1a)]) rfl (by rw [hml]; rfl) (hb hby own_d_jdk_42_method_71_code_32) (W := 0) (Nat.le_of_eq rfl) (by decide) (by decide) (by decide) (by decide)
  have N5 := Fr.app N4 M5
  refine Goes.via (B := T5.setTop (mkF m 35 #[rv a1, rv a2, rv t1a, rv t2a, iv (0 : Int32)] [(.int r5)])) (fun t k => st5 _ k) ?_
  refine Goes.via (B := T5.setTop (mkF m 43 _ [(.int r5)])) (fun t k => XS.goto X5.here hx rfl (pc0 := 35) (pc' := 43) rfl (hb hby own_d_jdk_42_method_71_code_35) (by decide) (by decide) k) ?_
  exact finI (Q := (own_Q32 Z a1 a2 z0 t1a k1a t2a k2a cc0 cc1 dd0 dd1 h0 n0)) (F := FrameEnd) (C := ((Rm 3 0 0 47)).cells) (S := ((Rm 3 0 0 47)).slots) X5 hx Bd.returns (hb hby own_d_jdk_42_method_71_code_43) K5 ⟨r5, rfl, N5, rfl, p5_0⟩ (lvN X5 hlk (by decide) (by decide))
theorem own_ef33 (m : MethodId) (x0 : Addr) (x1 : Addr)  : entryFrame m #[(.ref x0), (.ref x1)] 3 = mkF m 0 #[rv x0, rv x1, u_] [] := by first | (simp [entryFrame, mkF, argsToLocals, Value.category]; done) | rfl
abbrev own_Q33 (Z : State) (a1 : Addr) (a2 : Addr) (x1 : Int64) (x2 : Int64) (s1a : Addr) (s2a : Addr) (z0 : Int32) (t1a : Addr) (k1a : ClassId) (t2a : Addr) (k2a : ClassId) (cc0 : Int32) (cc1 : Int32) (dd0 : Int32) (dd1 : Int32) (h0 : Heap) (n0 : Nat) (v : Option Value) (h : Heap) (L : List Loc) : Prop := ∃ r : Int32, v = some (.int r) ∧ Fr n0 L ∧ h = h0 ∧ own_sg r = own_exp x1 x2 (0 : Int32) cc0 cc1 (2 : Int32) dd0 dd1
set_option maxRecDepth 65536 in
set_option maxHeartbeats 40000000 in
theorem own_m33 (l : Launch) (Z : State) (a0 : Array Value) (hw : ∀ d ∈ tables_1, d.before a0 Z = true) (ws : List Jvm.Cond) (a1 : Addr) (a2 : Addr) (x1 : Int64) (x2 : Int64) (s1a : Addr) (s2a : Addr) (z0 : Int32) (t1a : Addr) (k1a : ClassId) (t2a : Addr) (k2a : ClassId) (cc0 : Int32) (cc1 : Int32) (dd0 : Int32) (dd1 : Int32) (h0 : Heap) (n0 : Nat) (O0 : Old Z n0 h0) (hz0 : ¬ z0 = (0 : Int32)) (hcc0 : ¬ cc0 < (0 : Int32) ∧ ¬ (255 : Int32) < cc0) (hcc1 : ¬ cc1 < (0 : Int32) ∧ ¬ (255 : Int32) < cc1) (hdd0 : ¬ dd0 < (0 : Int32) ∧ ¬ (255 : Int32) < dd0) (hdd1 : ¬ dd1 < (0 : Int32) ∧ ¬ (255 : Int32) < dd1) (O_1 : Sta Z Z.heap "java/lang/String" "COMPACT_STRINGS" "Z" (.int z0)) (F_1 : Exa Z h0 a1 "com/example/keelson/keelson/cluster/Ballot") (F_2 : Fld Z h0 a1 "com/example/keelson/keelson/cluster/Ballot" "round" "J" (.long x1)) (F_3 : Fld Z h0 a1 "com/example/keelson/keelson/cluster/Ballot" "proposer" "Ljava/lang/String;" (.ref s1a)) (F_4 : Exa Z h0 a2 "com/example/keelson/keelson/cluster/Ballot") (F_5 : Fld Z h0 a2 "com/example/keelson/keelson/cluster/Ballot" "round" "J" (.long x2)) (F_6 : Fld Z h0 a2 "com/example/keelson/keelson/cluster/Ballot" "proposer" "Ljava/lang/String;" (.ref s2a)) (F_7 : Exa Z h0 s1a "java/lang/String") (F_8 : Fld Z h0 s1a "java/lang/String" "value" "[B" (.ref t1a)) (F_9 : Fld Z h0 s1a "java/lang/String" "coder" "B" (.int (0 : Int32))) (F_10 : Exa Z h0 s2a "java/lang/String") (F_11 : Fld Z h0 s2a "java/lang/String" "value" "[B" (.ref t2a)) (F_12 : Fld Z h0 s2a "java/lang/String" "coder" "B" (.int (0 : Int32))) (F_13 : Arv Z h0 t1a k1a .byte (0 : Int32) [] (.int (0 : Int32))) (F_14 : Arv Z h0 t2a k2a .byte (2 : Int32) [(.int dd0.toInt8.toInt32), (.int dd1.toInt8.toInt32)] (.int (0 : Int32))) :
    Ctr l Z (⟨"com/example/keelson/keelson/cluster/Ballot", "compareTo", "(Lcom/example/keelson/keelson/cluster/Ballot;)I"⟩ : MethodName) prog_19_method_2_code 3 (some .int) (Rm 4 0 0 63) #[(.ref a1), (.ref a2)] h0 (own_Q33 Z a1 a2 x1 x2 s1a s2a z0 t1a k1a t2a k2a cc0 cc1 dd0 dd1 h0 n0) ws := by
  refine MetFree.of_bodySF (plainFor_of_name own_pn5) hisR ?_
  intro p e s m args below meth c s₁ Bd hml0 hP hK
  obtain ⟨rfl, hZ, hh⟩ := hP
  have hx := Bd.exec
  have hby := Bd.bytes
  have hlk : meth.locks = false := Bd.notSynchronized
  have hml : c.maxLocals = 3 := hml0
  have hown : s.vm.findClass "com/example/keelson/keelson/cluster/Ballot" = some m.cls := findClass_of_methodNamed Bd.named
  have hnm := (name_of_methodNamed Bd.named Bd.method).1
  have X0 : Stand p l e (Rm 4 0 0 63) s m #[(.ref a1), (.ref a2)] below meth c s₁ [] 0 0 := Stand.of_body Bd
  have e0 : s₁.heap = h0 := by rw [← hh, Bd.state]; rfl
  have N0 := Fr.nil n0
  show Goes p.tables e below (fun t o => ∃ v L, o = .returned v ∧ (own_Q33 Z a1 a2 x1 x2 s1a s2a z0 t1a k1a t2a k2a cc0 cc1 dd0 dd1 h0 n0) v t.heap L ∧ FrameEnd s o t L ((Rm 4 0 0 63)).cells ((Rm 4 0 0 63)).slots) _
  refine Goes.via (B := s₁.setTop (mkF m 0 #[rv a1, rv a2, u_] [])) (fun t k => castTop (own_ef33 m a1 a2) k) ?_
  refine Goes.via (B := s₁.setTop (mkF m 1 _ [(.ref a1)])) (fun t k => XS.aloadN X0.here hx rfl (hb hby own_d_prog_19_method_2_code_0) rfl rfl k) ?_
  obtain ⟨T1, X1, e1, st1⟩ := getF X0 hx hZ hown (host := "") (Or.inl (own_hw hw 31 rfl)) Via.refl e0 F_2 (g := (mkF m 1 #[rv a1, rv a2, u_] [(.ref a1)])) rfl rfl (hb hby own_d_prog_19_method_2_code_1)
  refine Goes.via (B := T1.setTop (mkF m 4 #[rv a1, rv a2, u_] [(.long x1)])) (fun t k => st1 _ k) ?_
  refine Goes.via (B := T1.setTop (mkF m 5 _ [(.ref a2), (.long x1)])) (fun t k => XS.aloadN X1.here hx rfl (hb hby own_d_prog_19_method_2_code_4) rfl rfl k) ?_
  obtain ⟨T2, X2, e2, st2⟩ := getF X1 hx hZ hown (host := "") (Or.inl (own_hw hw 31 rfl)) Via.refl e1 F_5 (g := (mkF m 5 #[rv a1, rv a2, u_] [(.ref a2), (.long x1)])) rfl rfl (hb hby own_d_prog_19_method_2_code_5)
  refine Goes.via (B := T2.setTop (mkF m 8 #[rv a1, rv a2, u_] [(.long x2), (.long x1)])) (fun t k => st2 _ k) ?_
  obtain ⟨_, T3, L3, X3, ⟨r3, rfl, M3, K3, p3_0⟩, st3⟩ := callStatic X2 hx hZ hown (own_hw hw 40 rfl) (own_hw hw 41 rfl) (own_hw hw 42 rfl) (own_hw hw 43 rfl) (by decide) (argsL := [(.long x1), (.long x2)]) (rest := []) (own_m11 l Z a0 hw [] x1 x2 h0 n0 O0 ) e2 (lenOf own_pd13 rfl) (pc := 8) (Ls := #[rv a1, rv a2, u_]) (st := [(.long x2), (.long x1)]) rfl (by rw [hml]; rfl) (hb hby own_d_prog_19_method_2_code_8) (W := 0) (Nat.le_of_eq rfl) (by decide) (by decide) (by decide) (by decide)
  have N3 := Fr.app N0 M3
  refine Goes.via (B := T3.setTop (mkF m 11 #[rv a1, rv a2, u_] [(.int r3)])) (fun t k => st3 _ k) ?_
  refine Goes.via (B := T3.setTop (mkF m 12 _ [])) (fun t k => XS.istoreN X3.here hx rfl (hb hby own_d_prog_19_method_2_code_11) rfl (l' := #[rv a1, rv a2, iv r3]) rfl k) ?_
  refine Goes.via (B := T3.setTop (mkF m 13 _ [(.int r3)])) (fun t k => XS.iloadN X3.here hx rfl (hb hby own_d_prog_19_method_2_code_12) rfl k) ?_
  by_cases hlt : x1 < x2
  · rw [if_pos hlt] at p3_0
    subst p3_0
    refine Goes.via (B := T3.setTop (mkF m 28 _ [])) (fun t k => XS.ifYes X3.here hx rfl (pc0 := 13) (pc' := 28) rfl (hb hby own_d_prog_19_method_2_code_13) rfl (XT.i0_ne_t (by decide)) (by decide) (by decide) k) ?_
    refine Goes.via (B := T3.setTop (mkF m 29 _ [(.int (-1 : Int32))])) (fun t k => XS.iloadN X3.here hx rfl (hb hby own_d_prog_19_method_2_code_28) rfl k) ?_
    exact finI (Q := (own_Q33 Z a1 a2 x1 x2 s1a s2a z0 t1a k1a t2a k2a cc0 cc1 dd0 dd1 h0 n0)) (F := FrameEnd) (C := ((Rm 4 0 0 63)).cells) (S := ((Rm 4 0 0 63)).slots) X3 hx Bd.returns (hb hby own_d_prog_19_method_2_code_29) K3 ⟨(-1 : Int32), rfl, N3, rfl, (by unfold own_exp; rw [if_pos hlt]; decide)⟩ (lvN X3 hlk (by decide) (by decide))
  · rw [if_neg hlt] at p3_0
    by_cases heq : x1 = x2
    · rw [if_pos heq] at p3_0
      have hng : ¬ x2 < x1 := by rw [heq]; rw [Int64.lt_iff_toInt_lt]; omega
      subst p3_0
      refine Goes.via (B := T3.setTop (mkF m 16 _ [])) (fun t k => XS.ifNo X3.here hx rfl (hb hby own_d_prog_19_method_2_code_13) rfl (XT.i0_ne_f rfl) k) ?_
      refine Goes.via (B := T3.setTop (mkF m 17 _ [(.ref a1)])) (fun t k => XS.aloadN X3.here hx rfl (hb hby own_d_prog_19_method_2_code_16) rfl rfl k) ?_
      obtain ⟨T4, X4, e4, st4⟩ := getF X3 hx hZ hown (host := "") (Or.inl (own_hw hw 33 rfl)) Via.refl K3 F_3 (g := (mkF m 17 #[rv a1, rv a2, iv (0 : Int32)] [(.ref a1)])) rfl rfl (hb hby own_d_prog_19_method_2_code_17)
      refine Goes.via (B := T4.setTop (mkF m 20 #[rv a1, rv a2, iv (0 : Int32)] [(.ref s1a)])) (fun t k => st4 _ k) ?_
      refine Goes.via (B := T4.setTop (mkF m 21 _ [(.ref a2), (.ref s1a)])) (fun t k => XS.aloadN X4.here hx rfl (hb hby own_d_prog_19_method_2_code_20) rfl rfl k) ?_
      obtain ⟨T5, X5, e5, st5⟩ := getF X4 hx hZ hown (host := "") (Or.inl (own_hw hw 33 rfl)) Via.refl e4 F_6 (g := (mkF m 21 #[rv a1, rv a2, iv (0 : Int32)] [(.ref a2), (.ref s1a)])) rfl rfl (hb hby own_d_prog_19_method_2_code_21)
      refine Goes.via (B := T5.setTop (mkF m 24 #[rv a1, rv a2, iv (0 : Int32)] [(.ref s2a), (.ref s1a)])) (fun t k => st5 _ k) ?_
      obtain ⟨_, T6, L6, X6, ⟨r6, rfl, M6, K6, p6_0⟩, st6⟩ := callVirt X5 hx hZ hown (own_hw hw 50 rfl) (own_hw hw 51 rfl) (own_hw hw 53 rfl) (notFace_of_selects (args := #[]) (mvT hZ (own_hw hw 53 rfl))) (own_hw hw 52 rfl) (own_hw hw 5 rfl) (own_hw hw 54 rfl) (by decide) (argsL := [(.ref s2a)]) (rest := []) (own_m32 l Z a0 hw [] s1a s2a z0 t1a k1a t2a k2a cc0 cc1 dd0 dd1 h0 n0 O0 hz0 hcc0 hcc1 hdd0 hdd1 O_1 F_7 F_8 F_9 F_10 F_11 F_12 F_13 F_14) e5 F_7 (lenOf own_pd14 rfl) (pc := 24) (Ls := #[rv a1, rv a2, iv (0 : Int32)]) (st := [(.ref s2a), (.ref s1a)]) rfl (by rw [hml]; rfl) (hb hby own_d_prog_19_method_2_code_24) (W := 0) (Nat.le_of_eq rfl) (by decide) (by decide) (by decide) (by decide)
      have N6 := Fr.app N3 M6
      refine Goes.via (B := T6.setTop (mkF m 27 #[rv a1, rv a2, iv (0 : Int32)] [(.int r6)])) (fun t k => st6 _ k) ?_
      refine Goes.via (B := T6.setTop (mkF m 28 _ [])) (fun t k => XS.istoreN X6.here hx rfl (hb hby own_d_prog_19_method_2_code_27) rfl (l' := #[rv a1, rv a2, iv r6]) rfl k) ?_
      refine Goes.via (B := T6.setTop (mkF m 29 _ [(.int r6)])) (fun t k => XS.iloadN X6.here hx rfl (hb hby own_d_prog_19_method_2_code_28) rfl k) ?_
      exact finI (Q := (own_Q33 Z a1 a2 x1 x2 s1a s2a z0 t1a k1a t2a k2a cc0 cc1 dd0 dd1 h0 n0)) (F := FrameEnd) (C := ((Rm 4 0 0 63)).cells) (S := ((Rm 4 0 0 63)).slots) X6 hx Bd.returns (hb hby own_d_prog_19_method_2_code_29) K6 ⟨r6, rfl, N6, rfl, (by unfold own_exp; rw [if_neg hlt, if_neg hng]; exact p6_0)⟩ (lvN X6 hlk (by decide) (by decide))
    · rw [if_neg heq] at p3_0
      have hgt : x2 < x1 := by
        have n' : ¬ x1.toInt = x2.toInt := fun z => heq (Int64.toInt_inj.mp z)
        rw [Int64.lt_iff_toInt_lt] at *; omega
      subst p3_0
      refine Goes.via (B := T3.setTop (mkF m 28 _ [])) (fun t k => XS.ifYes X3.here hx rfl (pc0 := 13) (pc' := 28) rfl (hb hby own_d_prog_19_method_2_code_13) rfl (XT.i0_ne_t (by decide)) (by decide) (by decide) k) ?_
      refine Goes.via (B := T3.setTop (mkF m 29 _ [(.int (1 : Int32))])) (fun t k => XS.iloadN X3.here hx rfl (hb hby own_d_prog_19_method_2_code_28) rfl k) ?_
      exact finI (Q := (own_Q33 Z a1 a2 x1 x2 s1a s2a z0 t1a k1a t2a k2a cc0 cc1 dd0 dd1 h0 n0)) (F := FrameEnd) (C := ((Rm 4 0 0 63)).cells) (S := ((Rm 4 0 0 63)).slots) X3 hx Bd.returns (hb hby own_d_prog_19_method_2_code_29) K3 ⟨(1 : Int32), rfl, N3, rfl, (by unfold own_exp; rw [if_neg hlt, if_pos hgt]; decide)⟩ (lvN X3 hlk (by decide) (by decide))
theorem own_ef34 (m : MethodId) (x0 : Addr) (x1 : Addr) (x2 : Int32)  : entryFrame m #[(.ref x0), (.ref x1), (.int x2)] 4 = mkF m 0 #[rv x0, rv x1, iv x2, u_] [] := by first | (simp [entryFrame, mkF, argsToLocals, Value.category]; done) | rfl
abbrev own_Q34 (Z : State) (t1a : Addr) (k1a : ClassId) (t2a : Addr) (k2a : ClassId) (cc0 : Int32) (cc1 : Int32) (dd0 : Int32) (dd1 : Int32) (h0 : Heap) (n0 : Nat) (v : Option Value) (h : Heap) (L : List Loc) : Prop := ∃ r : Int32, v = some (.int r) ∧ Fr n0 L ∧ h = h0 ∧ r = (-1 : Int32)
set_option maxRecDepth 65536 in
set_option maxHeartbeats 40000000 in
theorem own_m34 (l : Launch) (Z : State) (a0 : Array Value) (hw : ∀ d ∈ tables_1, d.before a0 Z = true) (ws : List Jvm.Cond) (t1a : Addr) (k1a : ClassId) (t2a : Addr) (k2a : ClassId) (cc0 : Int32) (cc1 : Int32) (dd0 : Int32) (dd1 : Int32) (h0 : Heap) (n0 : Nat) (O0 : Old Z n0 h0) (F_1 : Arv Z h0 t1a k1a .byte (1 : Int32) [(.int cc0.toInt8.toInt32)] (.int (0 : Int32))) (F_2 : Arv Z h0 t2a k2a .byte (0 : Int32) [] (.int (0 : Int32))) :
    Ctr l Z (⟨"jdk/internal/util/ArraysSupport", "mismatch", "([B[BI)I"⟩ : MethodName) jdk_48_method_13_code 4 (some .int) (Rm 0 0 0 0) #[(.ref t1a), (.ref t2a), (.int (0 : Int32))] h0 (own_Q34 Z t1a k1a t2a k2a cc0 cc1 dd0 dd1 h0 n0) ws := by
  refine MetFree.of_bodySF (plainFor_of_name own_pn7) hisR ?_
  intro p e s m args below meth c s₁ Bd hml0 hP hK
  obtain ⟨rfl, hZ, hh⟩ := hP
  have hx := Bd.exec
  have hby := Bd.bytes
  have hlk : meth.locks = false := Bd.notSynchronized
  have hml : c.maxLocals = 4 := hml0
  have hown : s.vm.findClass "jdk/internal/util/ArraysSupport" = some m.cls := findClass_of_methodNamed Bd.named
  have hnm := (name_of_methodNamed Bd.named Bd.method).1
  have X0 : Stand p l e (Rm 0 0 0 0) s m #[(.ref t1a), (.ref t2a), (.int (0 : Int32))] below meth c s₁ [] 0 0 := Stand.of_body Bd
  have e0 : s₁.heap = h0 := by rw [← hh, Bd.state]; rfl
  have N0 := Fr.nil n0
  show Goes p.tables e below (fun t o => ∃ v L, o = .returned v ∧ (own_Q34 Z t1a k1a t2a k2a cc0 cc1 dd0 dd1 h0 n0) v t.heap L ∧ FrameEnd s o t L ((Rm 0 0 0 0)).cells ((Rm 0 0 0 0)).slots) _
  refine Goes.via (B := s₁.setTop (mkF m 0 #[rv t1a, rv t2a, iv (0 : Int32), u_] [])) (fun t k => castTop (own_ef34 m t1a t2a (0 : Int32)) k) ?_
  refine Goes.via (B := s₁.setTop (mkF m 1 _ [(.int (0 : Int32))])) (fun t k => XS.iconst X0.here hx rfl (hb hby own_d_jdk_48_method_13_code_0) k) ?_
  refine Goes.via (B := s₁.setTop (mkF m 2 _ [])) (fun t k => XS.istoreN X0.here hx rfl (hb hby own_d_jdk_48_method_13_code_1) rfl (l' := #[rv t1a, rv t2a, iv (0 : Int32), iv (0 : Int32)]) rfl k) ?_
  refine Goes.via (B := s₁.setTop (mkF m 3 _ [(.int (0 : Int32))])) (fun t k => XS.iloadN X0.here hx rfl (hb hby own_d_jdk_48_method_13_code_2) rfl k) ?_
  refine Goes.via (B := s₁.setTop (mkF m 5 _ [(.int (7 : Int32)), (.int (0 : Int32))])) (fun t k => XS.bipush X0.here hx rfl (hb hby own_d_jdk_48_method_13_code_3) k) ?_
  refine Goes.via (B := s₁.setTop (mkF m 49 _ [])) (fun t k => XS.icmpYes X0.here hx rfl (pc0 := 5) (pc' := 49) rfl (hb hby own_d_jdk_48_method_13_code_5) rfl (XT.ii_le_t (by decide)) (by decide) (by decide) k) ?_
  refine Goes.via (B := s₁.setTop (mkF m 50 _ [(.int (0 : Int32))])) (fun t k => XS.iloadN X0.here hx rfl (hb hby own_d_jdk_48_method_13_code_49) rfl k) ?_
  refine Goes.via (B := s₁.setTop (mkF m 51 _ [(.int (0 : Int32)), (.int (0 : Int32))])) (fun t k => XS.iloadN X0.here hx rfl (hb hby own_d_jdk_48_method_13_code_50) rfl k) ?_
  refine Goes.via (B := s₁.setTop (mkF m 71 _ [])) (fun t k => XS.icmpYes X0.here hx rfl (pc0 := 51) (pc' := 71) rfl (hb hby own_d_jdk_48_method_13_code_51) rfl (XT.ii_ge_t (by decide)) (by decide) (by decide) k) ?_
  refine Goes.via (B := s₁.setTop (mkF m 72 _ [(.int (-1 : Int32))])) (fun t k => XS.iconst X0.here hx rfl (hb hby own_d_jdk_48_method_13_code_71) k) ?_
  exact finI (Q := (own_Q34 Z t1a k1a t2a k2a cc0 cc1 dd0 dd1 h0 n0)) (F := FrameEnd) (C := ((Rm 0 0 0 0)).cells) (S := ((Rm 0 0 0 0)).slots) X0 hx Bd.returns (hb hby own_d_jdk_48_method_13_code_72) e0 ⟨(-1 : Int32), rfl, N0, rfl, rfl⟩ (lvN X0 hlk (by decide) (by decide))
theorem own_ef35 (m : MethodId) (x0 : Addr) (x1 : Addr) (x2 : Int32) (x3 : Int32)  : entryFrame m #[(.ref x0), (.ref x1), (.int x2), (.int x3)] 6 = mkF m 0 #[rv x0, rv x1, iv x2, iv x3, u_, u_] [] := by first | (simp [entryFrame, mkF, argsToLocals, Value.category]; done) | rfl
abbrev own_Q35 (Z : State) (t1a : Addr) (k1a : ClassId) (t2a : Addr) (k2a : ClassId) (cc0 : Int32) (cc1 : Int32) (dd0 : Int32) (dd1 : Int32) (h0 : Heap) (n0 : Nat) (v : Option Value) (h : Heap) (L : List Loc) : Prop := ∃ r : Int32, v = some (.int r) ∧ Fr n0 L ∧ h = h0 ∧ own_sg r = own_lex (1 : Int32) cc0 cc1 (0 : Int32) dd0 dd1
set_option maxRecDepth 65536 in
set_option maxHeartbeats 40000000 in
theorem own_m35 (l : Launch) (Z : State) (a0 : Array Value) (hw : ∀ d ∈ tables_1, d.before a0 Z = true) (ws : List Jvm.Cond) (t1a : Addr) (k1a : ClassId) (t2a : Addr) (k2a : ClassId) (cc0 : Int32) (cc1 : Int32) (dd0 : Int32) (dd1 : Int32) (h0 : Heap) (n0 : Nat) (O0 : Old Z n0 h0) (hcc0 : ¬ cc0 < (0 : Int32) ∧ ¬ (255 : Int32) < cc0) (hcc1 : ¬ cc1 < (0 : Int32) ∧ ¬ (255 : Int32) < cc1) (hdd0 : ¬ dd0 < (0 : Int32) ∧ ¬ (255 : Int32) < dd0) (hdd1 : ¬ dd1 < (0 : Int32) ∧ ¬ (255 : Int32) < dd1) (F_1 : Arv Z h0 t1a k1a .byte (1 : Int32) [(.int cc0.toInt8.toInt32)] (.int (0 : Int32))) (F_2 : Arv Z h0 t2a k2a .byte (0 : Int32) [] (.int (0 : Int32))) :
    Ctr l Z (⟨"java/lang/StringLatin1", "compareTo", "([B[BII)I"⟩ : MethodName) jdk_43_method_15_code 6 (some .int) (Rm 1 0 0 15) #[(.ref t1a), (.ref t2a), (.int (1 : Int32)), (.int (0 : Int32))] h0 (own_Q35 Z t1a k1a t2a k2a cc0 cc1 dd0 dd1 h0 n0) ws := by
  refine MetFree.of_bodySF (plainFor_of_name own_pn0) hisR ?_
  intro p e s m args below meth c s₁ Bd hml0 hP hK
  obtain ⟨rfl, hZ, hh⟩ := hP
  have hx := Bd.exec
  have hby := Bd.bytes
  have hlk : meth.locks = false := Bd.notSynchronized
  have hml : c.maxLocals = 6 := hml0
  have hown : s.vm.findClass "java/lang/StringLatin1" = some m.cls := findClass_of_methodNamed Bd.named
  have hnm := (name_of_methodNamed Bd.named Bd.method).1
  have X0 : Stand p l e (Rm 1 0 0 15) s m #[(.ref t1a), (.ref t2a), (.int (1 : Int32)), (.int (0 : Int32))] below meth c s₁ [] 0 0 := Stand.of_body Bd
  have e0 : s₁.heap = h0 := by rw [← hh, Bd.state]; rfl
  have N0 := Fr.nil n0
  show Goes p.tables e below (fun t o => ∃ v L, o = .returned v ∧ (own_Q35 Z t1a k1a t2a k2a cc0 cc1 dd0 dd1 h0 n0) v t.heap L ∧ FrameEnd s o t L ((Rm 1 0 0 15)).cells ((Rm 1 0 0 15)).slots) _
  refine Goes.via (B := s₁.setTop (mkF m 0 #[rv t1a, rv t2a, iv (1 : Int32), iv (0 : Int32), u_, u_] [])) (fun t k => castTop (own_ef35 m t1a t2a (1 : Int32) (0 : Int32)) k) ?_
  refine Goes.via (B := s₁.setTop (mkF m 1 _ [(.int (1 : Int32))])) (fun t k => XS.iloadN X0.here hx rfl (hb hby own_d_jdk_43_method_15_code_0) rfl k) ?_
  refine Goes.via (B := s₁.setTop (mkF m 2 _ [(.int (0 : Int32)), (.int (1 : Int32))])) (fun t k => XS.iloadN X0.here hx rfl (hb hby own_d_jdk_43_method_15_code_1) rfl k) ?_
  obtain ⟨_, T1, L1, X1, ⟨r1, rfl, M1, K1, p1_0⟩, st1⟩ := callStatic X0 hx hZ hown (own_hw hw 70 rfl) (own_hw hw 71 rfl) (own_hw hw 72 rfl) (own_hw hw 73 rfl) (by decide) (argsL := [(.int (1 : Int32)), (.int (0 : Int32))]) (rest := []) (own_m14 l Z a0 hw [] (1 : Int32) (0 : Int32) h0 n0 O0 ) e0 (lenOf own_pd8 rfl) (pc := 2) (Ls := #[rv t1a, rv t2a, iv (1 : Int32), iv (0 : Int32), u_, u_]) (st := [(.int (0 : Int32)), (.int (1 : Int32))]) rfl (by rw [hml]; rfl) (hb hby own_d_jdk_43_method_15_code_2) (W := 0) (Nat.le_of_eq rfl) (by decide) (by decide) (by decide) (by decide)
  have N1 := Fr.app N0 M1
  refine Goes.via (B := T1.setTop (mkF m 5 #[rv t1a, rv t2a, iv (1 : Int32), iv (0 : Int32), u_, u_] [(.int r1)])) (fun t k => st1 _ k) ?_
  obtain rfl : r1 = (0 : Int32) := p1_0.trans (by decide)
  refine Goes.via (B := T1.setTop (mkF m 7 _ [])) (fun t k => XS.istore X1.here hx rfl (hb hby own_d_jdk_43_method_15_code_5) rfl (l' := #[rv t1a, rv t2a, iv (1 : Int32), iv (0 : Int32), iv (0 : Int32), u_]) rfl k) ?_
  refine Goes.via (B := T1.setTop (mkF m 8 _ [(.ref t1a)])) (fun t k => XS.aloadN X1.here hx rfl (hb hby own_d_jdk_43_method_15_code_7) rfl rfl k) ?_
  refine Goes.via (B := T1.setTop (mkF m 9 _ [(.ref t2a), (.ref t1a)])) (fun t k => XS.aloadN X1.here hx rfl (hb hby own_d_jdk_43_method_15_code_8) rfl rfl k) ?_
  refine Goes.via (B := T1.setTop (mkF m 11 _ [(.int (0 : Int32)), (.ref t2a), (.ref t1a)])) (fun t k => XS.iload X1.here hx rfl (hb hby own_d_jdk_43_method_15_code_9) rfl k) ?_
  obtain ⟨_, T2, L2, X2, ⟨r2, rfl, M2, K2, p2_0⟩, st2⟩ := callStatic X1 hx hZ hown (own_hw hw 74 rfl) (own_hw hw 75 rfl) (own_hw hw 76 rfl) (own_hw hw 77 rfl) (by decide) (argsL := [(.ref t1a), (.ref t2a), (.int (0 : Int32))]) (rest := []) (own_m34 l Z a0 hw [] t1a k1a t2a k2a cc0 cc1 dd0 dd1 h0 n0 O0 F_1 F_2) K1 (lenOf own_pd9 rfl) (pc := 11) (Ls := #[rv t1a, rv t2a, iv (1 : Int32), iv (0 : Int32), iv (0 : Int32), u_]) (st := [(.int (0 : Int32)), (.ref t2a), (.ref t1a)]) rfl (by rw [hml]; rfl) (hb hby own_d_jdk_43_method_15_code_11) (W := 0) (Nat.le_of_eq rfl) (by decide) (by decide) (by decide) (by decide)
  have N2 := Fr.app N1 M2
  refine Goes.via (B := T2.setTop (mkF m 14 #[rv t1a, rv t2a, iv (1 : Int32), iv (0 : Int32), iv (0 : Int32), u_] [(.int r2)])) (fun t k => st2 _ k) ?_
  obtain rfl : r2 = (-1 : Int32) := p2_0
  refine Goes.via (B := T2.setTop (mkF m 16 _ [])) (fun t k => XS.istore X2.here hx rfl (hb hby own_d_jdk_43_method_15_code_14) rfl (l' := #[rv t1a, rv t2a, iv (1 : Int32), iv (0 : Int32), iv (0 : Int32), iv (-1 : Int32)]) rfl k) ?_
  refine Goes.via (B := T2.setTop (mkF m 18 _ [(.int (-1 : Int32))])) (fun t k => XS.iload X2.here hx rfl (hb hby own_d_jdk_43_method_15_code_16) rfl k) ?_
  refine Goes.via (B := T2.setTop (mkF m 21 _ [])) (fun t k => XS.ifNo X2.here hx rfl (hb hby own_d_jdk_43_method_15_code_18) rfl (XT.i0_ge_f (by decide)) k) ?_
  refine Goes.via (B := T2.setTop (mkF m 22 _ [(.int (1 : Int32))])) (fun t k => XS.iloadN X2.here hx rfl (hb hby own_d_jdk_43_method_15_code_21) rfl k) ?_
  refine Goes.via (B := T2.setTop (mkF m 23 _ [(.int (0 : Int32)), (.int (1 : Int32))])) (fun t k => XS.iloadN X2.here hx rfl (hb hby own_d_jdk_43_method_15_code_22) rfl k) ?_
  refine Goes.via (B := T2.setTop (mkF m 24 _ [(.int ((1 : Int32) - (0 : Int32)))])) (fun t k => XS.isub X2.here hx rfl (hb hby own_d_jdk_43_method_15_code_23) rfl k) ?_
  refine Goes.via (B := T2.setTop (mkF m 40 _ [(.int ((1 : Int32) - (0 : Int32)))])) (fun t k => XS.goto X2.here hx rfl (pc0 := 24) (pc' := 40) rfl (hb hby own_d_jdk_43_method_15_code_24) (by decide) (by decide) k) ?_
  exact finI (Q := (own_Q35 Z t1a k1a t2a k2a cc0 cc1 dd0 dd1 h0 n0)) (F := FrameEnd) (C := ((Rm 1 0 0 15)).cells) (S := ((Rm 1 0 0 15)).slots) X2 hx Bd.returns (hb hby own_d_jdk_43_method_15_code_40) K2 ⟨((1 : Int32) - (0 : Int32)), rfl, N2, rfl, (by simp [own_lex])⟩ (lvN X2 hlk (by decide) (by decide))
theorem own_ef36 (m : MethodId) (x0 : Addr) (x1 : Addr)  : entryFrame m #[(.ref x0), (.ref x1)] 4 = mkF m 0 #[rv x0, rv x1, u_, u_] [] := by first | (simp [entryFrame, mkF, argsToLocals, Value.category]; done) | rfl
abbrev own_Q36 (Z : State) (t1a : Addr) (k1a : ClassId) (t2a : Addr) (k2a : ClassId) (cc0 : Int32) (cc1 : Int32) (dd0 : Int32) (dd1 : Int32) (h0 : Heap) (n0 : Nat) (v : Option Value) (h : Heap) (L : List Loc) : Prop := ∃ r : Int32, v = some (.int r) ∧ Fr n0 L ∧ h = h0 ∧ own_sg r = own_lex (1 : Int32) cc0 cc1 (0 : Int32) dd0 dd1
set_option maxRecDepth 65536 in
set_option maxHeartbeats 40000000 in
theorem own_m36 (l : Launch) (Z : State) (a0 : Array Value) (hw : ∀ d ∈ tables_1, d.before a0 Z = true) (ws : List Jvm.Cond) (t1a : Addr) (k1a : ClassId) (t2a : Addr) (k2a : ClassId) (cc0 : Int32) (cc1 : Int32) (dd0 : Int32) (dd1 : Int32) (h0 : Heap) (n0 : Nat) (O0 : Old Z n0 h0) (hcc0 : ¬ cc0 < (0 : Int32) ∧ ¬ (255 : Int32) < cc0) (hcc1 : ¬ cc1 < (0 : Int32) ∧ ¬ (255 : Int32) < cc1) (hdd0 : ¬ dd0 < (0 : Int32) ∧ ¬ (255 : Int32) < dd0) (hdd1 : ¬ dd1 < (0 : Int32) ∧ ¬ (255 : Int32) < dd1) (F_1 : Arv Z h0 t1a k1a .byte (1 : Int32) [(.int cc0.toInt8.toInt32)] (.int (0 : Int32))) (F_2 : Arv Z h0 t2a k2a .byte (0 : Int32) [] (.int (0 : Int32))) :
    Ctr l Z (⟨"java/lang/StringLatin1", "compareTo", "([B[B)I"⟩ : MethodName) jdk_43_method_14_code 4 (some .int) (Rm 2 0 0 32) #[(.ref t1a), (.ref t2a)] h0 (own_Q36 Z t1a k1a t2a k2a cc0 cc1 dd0 dd1 h0 n0) ws := by
  refine MetFree.of_bodySF (plainFor_of_name own_pn0) hisR ?_
  intro p e s m args below meth c s₁ Bd hml0 hP hK
  obtain ⟨rfl, hZ, hh⟩ := hP
  have hx := Bd.exec
  have hby := Bd.bytes
  have hlk : meth.locks = false := Bd.notSynchronized
  have hml : c.maxLocals = 4 := hml0
  have hown : s.vm.findClass "java/lang/StringLatin1" = some m.cls := findClass_of_methodNamed Bd.named
  have hnm := (name_of_methodNamed Bd.named Bd.method).1
  have X0 : Stand p l e (Rm 2 0 0 32) s m #[(.ref t1a), (.ref t2a)] below meth c s₁ [] 0 0 := Stand.of_body Bd
  have e0 : s₁.heap = h0 := by rw [← hh, Bd.state]; rfl
  have N0 := Fr.nil n0
  show Goes p.tables e below (fun t o => ∃ v L, o = .returned v ∧ (own_Q36 Z t1a k1a t2a k2a cc0 cc1 dd0 dd1 h0 n0) v t.heap L ∧ FrameEnd s o t L ((Rm 2 0 0 32)).cells ((Rm 2 0 0 32)).slots) _
  refine Goes.via (B := s₁.setTop (mkF m 0 #[rv t1a, rv t2a, u_, u_] [])) (fun t k => castTop (own_ef36 m t1a t2a) k) ?_
  refine Goes.via (B := s₁.setTop (mkF m 1 _ [(.ref t1a)])) (fun t k => XS.aloadN X0.here hx rfl (hb hby own_d_jdk_43_method_14_code_0) rfl rfl k) ?_
  obtain ⟨cl1, Ar1, q1, S1, N1, H1, G1⟩ := id F_1
  refine Goes.via (B := s₁.setTop (mkF m 2 #[rv t1a, rv t2a, u_, u_] [(.int (1 : Int32))])) (fun t k => X0.arraylength hx (by rw [e0]; exact Ar1.1) (State.isArrayOf_alike hZ.alike Ar1.2.1) (g := (mkF m 1 #[rv t1a, rv t2a, u_, u_] [(.ref t1a)])) rfl rfl (hb hby own_d_jdk_43_method_14_code_1) t (by rw [(len_of S1 N1)]; exact k)) ?_
  refine Goes.via (B := s₁.setTop (mkF m 3 _ [])) (fun t k => XS.istoreN X0.here hx rfl (hb hby own_d_jdk_43_method_14_code_2) rfl (l' := #[rv t1a, rv t2a, iv (1 : Int32), u_]) rfl k) ?_
  refine Goes.via (B := s₁.setTop (mkF m 4 _ [(.ref t2a)])) (fun t k => XS.aloadN X0.here hx rfl (hb hby own_d_jdk_43_method_14_code_3) rfl rfl k) ?_
  obtain ⟨cl2, Ar2, q2, S2, N2, H2, G2⟩ := id F_2
  refine Goes.via (B := s₁.setTop (mkF m 5 #[rv t1a, rv t2a, iv (1 : Int32), u_] [(.int (0 : Int32))])) (fun t k => X0.arraylength hx (by rw [e0]; exact Ar2.1) (State.isArrayOf_alike hZ.alike Ar2.2.1) (g := (mkF m 4 #[rv t1a, rv t2a, iv (1 : Int32), u_] [(.ref t2a)])) rfl rfl (hb hby own_d_jdk_43_method_14_code_4) t (by rw [(len_of S2 N2)]; exact k)) ?_
  refine Goes.via (B := s₁.setTop (mkF m 6 _ [])) (fun t k => XS.istoreN X0.here hx rfl (hb hby own_d_jdk_43_method_14_code_5) rfl (l' := #[rv t1a, rv t2a, iv (1 : Int32), iv (0 : Int32)]) rfl k) ?_
  refine Goes.via (B := s₁.setTop (mkF m 7 _ [(.ref t1a)])) (fun t k => XS.aloadN X0.here hx rfl (hb hby own_d_jdk_43_method_14_code_6) rfl rfl k) ?_
  refine Goes.via (B := s₁.setTop (mkF m 8 _ [(.ref t2a), (.ref t1a)])) (fun t k => XS.aloadN X0.here hx rfl (hb hby own_d_jdk_43_method_14_code_7) rfl rfl k) ?_
  refine Goes.via (B := s₁.setTop (mkF m 9 _ [(.int (1 : Int32)), (.ref t2a), (.ref t1a)])) (fun t k => XS.iloadN X0.here hx rfl (hb hby own_d_jdk_43_method_14_code_8) rfl k) ?_
  refine Goes.via (B := s₁.setTop (mkF m 10 _ [(.int (0 : Int32)), (.int (1 : Int32)), (.ref t2a), (.ref t1a)])) (fun t k => XS.iloadN X0.here hx rfl (hb hby own_d_jdk_43_method_14_code_9) rfl k) ?_
  obtain ⟨_, T3, L3, X3, ⟨r3, rfl, M3, K3, p3_0⟩, st3⟩ := callStatic X0 hx hZ hown (own_hw hw 67 rfl) (own_hw hw 68 rfl) (own_hw hw 65 rfl) (own_hw hw 69 rfl) (by decide) (argsL := [(.ref t1a), (.ref t2a), (.int (1 : Int32)), (.int (0 : Int32))]) (rest := []) (own_m35 l Z a0 hw [] t1a k1a t2a k2a cc0 cc1 dd0 dd1 h0 n0 O0 hcc0 hcc1 hdd0 hdd1 F_1 F_2) e0 (lenOf own_pd10 rfl) (pc := 10) (Ls := #[rv t1a, rv t2a, iv (1 : Int32), iv (0 : Int32)]) (st := [(.int (0 : Int32)), (.int (1 : Int32)), (.ref t2a), (.ref t1a)]) rfl (by rw [hml]; rfl) (hb hby own_d_jdk_43_method_14_code_10) (W := 0) (Nat.le_of_eq rfl) (by decide) (by decide) (by decide) (by decide)
  have N3 := Fr.app N0 M3
  refine Goes.via (B := T3.setTop (mkF m 13 #[rv t1a, rv t2a, iv (1 : Int32), iv (0 : Int32)] [(.int r3)])) (fun t k => st3 _ k) ?_
  exact finI (Q := (own_Q36 Z t1a k1a t2a k2a cc0 cc1 dd0 dd1 h0 n0)) (F := FrameEnd) (C := ((Rm 2 0 0 32)).cells) (S := ((Rm 2 0 0 32)).slots) X3 hx Bd.returns (hb hby own_d_jdk_43_method_14_code_13) K3 ⟨r3, rfl, N3, rfl, p3_0⟩ (lvN X3 hlk (by decide) (by decide))
theorem own_ef37 (m : MethodId) (x0 : Addr) (x1 : Addr)  : entryFrame m #[(.ref x0), (.ref x1)] 5 = mkF m 0 #[rv x0, rv x1, u_, u_, u_] [] := by first | (simp [entryFrame, mkF, argsToLocals, Value.category]; done) | rfl
abbrev own_Q37 (Z : State) (a1 : Addr) (a2 : Addr) (z0 : Int32) (t1a : Addr) (k1a : ClassId) (t2a : Addr) (k2a : ClassId) (cc0 : Int32) (cc1 : Int32) (dd0 : Int32) (dd1 : Int32) (h0 : Heap) (n0 : Nat) (v : Option Value) (h : Heap) (L : List Loc) : Prop := ∃ r : Int32, v = some (.int r) ∧ Fr n0 L ∧ h = h0 ∧ own_sg r = own_lex (1 : Int32) cc0 cc1 (0 : Int32) dd0 dd1
set_option maxRecDepth 65536 in
set_option maxHeartbeats 40000000 in
theorem own_m37 (l : Launch) (Z : State) (a0 : Array Value) (hw : ∀ d ∈ tables_1, d.before a0 Z = true) (ws : List Jvm.Cond) (a1 : Addr) (a2 : Addr) (z0 : Int32) (t1a : Addr) (k1a : ClassId) (t2a : Addr) (k2a : ClassId) (cc0 : Int32) (cc1 : Int32) (dd0 : Int32) (dd1 : Int32) (h0 : Heap) (n0 : Nat) (O0 : Old Z n0 h0) (hz0 : ¬ z0 = (0 : Int32)) (hcc0 : ¬ cc0 < (0 : Int32) ∧ ¬ (255 : Int32) < cc0) (hcc1 : ¬ cc1 < (0 : Int32) ∧ ¬ (255 : Int32) < cc1) (hdd0 : ¬ dd0 < (0 : Int32) ∧ ¬ (255 : Int32) < dd0) (hdd1 : ¬ dd1 < (0 : Int32) ∧ ¬ (255 : Int32) < dd1) (O_1 : Sta Z Z.heap "java/lang/String" "COMPACT_STRINGS" "Z" (.int z0)) (F_1 : Exa Z h0 a1 "java/lang/String") (F_2 : Fld Z h0 a1 "java/lang/String" "value" "[B" (.ref t1a)) (F_3 : Fld Z h0 a1 "java/lang/String" "coder" "B" (.int (0 : Int32))) (F_4 : Exa Z h0 a2 "java/lang/String") (F_5 : Fld Z h0 a2 "java/lang/String" "value" "[B" (.ref t2a)) (F_6 : Fld Z h0 a2 "java/lang/String" "coder" "B" (.int (0 : Int32))) (F_7 : Arv Z h0 t1a k1a .byte (1 : Int32) [(.int cc0.toInt8.toInt32)] (.int (0 : Int32))) (F_8 : Arv Z h0 t2a k2a .byte (0 : Int32) [] (.int (0 : Int32))) :
    Ctr l Z (⟨"java/lang/String", "compareTo", "(Ljava/lang/String;)I"⟩ : MethodName) jdk_42_method_71_code 5 (some .int) (Rm 3 0 0 47) #[(.ref a1), (.ref a2)] h0 (own_Q37 Z a1 a2 z0 t1a k1a t2a k2a cc0 cc1 dd0 dd1 h0 n0) ws := by
  refine MetFree.of_bodySF (plainFor_of_name own_pn1) hisR ?_
  intro p e s m args below meth c s₁ Bd hml0 hP hK
  obtain ⟨rfl, hZ, hh⟩ := hP
  have hx := Bd.exec
  have hby := Bd.bytes
  have hlk : meth.locks = false := Bd.notSynchronized
  have hml : c.maxLocals = 5 := hml0
  have hown : s.vm.findClass "java/lang/String" = some m.cls := findClass_of_methodNamed Bd.named
  have hnm := (name_of_methodNamed Bd.named Bd.method).1
  have X0 : Stand p l e (Rm 3 0 0 47) s m #[(.ref a1), (.ref a2)] below meth c s₁ [] 0 0 := Stand.of_body Bd
  have e0 : s₁.heap = h0 := by rw [← hh, Bd.state]; rfl
  have N0 := Fr.nil n0
  show Goes p.tables e below (fun t o => ∃ v L, o = .returned v ∧ (own_Q37 Z a1 a2 z0 t1a k1a t2a k2a cc0 cc1 dd0 dd1 h0 n0) v t.heap L ∧ FrameEnd s o t L ((Rm 3 0 0 47)).cells ((Rm 3 0 0 47)).slots) _
  refine Goes.via (B := s₁.setTop (mkF m 0 #[rv a1, rv a2, u_, u_, u_] [])) (fun t k => castTop (own_ef37 m a1 a2) k) ?_
  refine Goes.via (B := s₁.setTop (mkF m 1 _ [(.ref a1)])) (fun t k => XS.aloadN X0.here hx rfl (hb hby own_d_jdk_42_method_71_code_0) rfl rfl k) ?_
  obtain ⟨T1, X1, e1, st1⟩ := getF X0 hx hZ hown (host := "") (Or.inl (own_hw hw 55 rfl)) Via.refl e0 F_2 (g := (mkF m 1 #[rv a1, rv a2, u_, u_, u_] [(.ref a1)])) rfl rfl (hb hby own_d_jdk_42_method_71_code_1)
  refine Goes.via (B := T1.setTop (mkF m 4 #[rv a1, rv a2, u_, u_, u_] [(.ref t1a)])) (fun t k => st1 _ k) ?_
  refine Goes.via (B := T1.setTop (mkF m 5 _ [])) (fun t k => XS.astoreN X1.here hx rfl (hb hby own_d_jdk_42_method_71_code_4) rfl rfl (l' := #[rv a1, rv a2, rv t1a, u_, u_]) rfl k) ?_
  refine Goes.via (B := T1.setTop (mkF m 6 _ [(.ref a2)])) (fun t k => XS.aloadN X1.here hx rfl (hb hby own_d_jdk_42_method_71_code_5) rfl rfl k) ?_
  obtain ⟨T2, X2, e2, st2⟩ := getF X1 hx hZ hown (host := "") (Or.inl (own_hw hw 55 rfl)) Via.refl e1 F_5 (g := (mkF m 6 #[rv a1, rv a2, rv t1a, u_, u_] [(.ref a2)])) rfl rfl (hb hby own_d_jdk_42_method_71_code_6)
  refine Goes.via (B := T2.setTop (mkF m 9 #[rv a1, rv a2, rv t1a, u_, u_] [(.ref t2a)])) (fun t k => st2 _ k) ?_
  refine Goes.via (B := T2.setTop (mkF m 10 _ [])) (fun t k => XS.astoreN X2.here hx rfl (hb hby own_d_jdk_42_method_71_code_9) rfl rfl (l' := #[rv a1, rv a2, rv t1a, rv t2a, u_]) rfl k) ?_
  refine Goes.via (B := T2.setTop (mkF m 11 _ [(.ref a1)])) (fun t k => XS.aloadN X2.here hx rfl (hb hby own_d_jdk_42_method_71_code_10) rfl rfl k) ?_
  obtain ⟨_, T3, L3, X3, ⟨rfl, M3, K3⟩, st3⟩ := callVirt X2 hx hZ hown (own_hw hw 56 rfl) (own_hw hw 57 rfl) (own_hw hw 59 rfl) (notFace_of_selects (args := #[]) (mvT hZ (own_hw hw 59 rfl))) (own_hw hw 58 rfl) (own_hw hw 5 rfl) (own_hw hw 60 rfl) (by decide) (argsL := []) (rest := []) (own_m15 l Z a0 hw [] a1 z0 h0 n0 O0 hz0 O_1 F_3) e2 F_1 (lenOf own_pd11 rfl) (pc := 11) (Ls := #[rv a1, rv a2, rv t1a, rv t2a, u_]) (st := [(.ref a1)]) rfl (by rw [hml]; rfl) (hb hby own_d_jdk_42_method_71_code_11) (W := 0) (Nat.le_of_eq rfl) (by decide) (by decide) (by decide) (by decide)
  have N3 := Fr.app N0 M3
  refine Goes.via (B := T3.setTop (mkF m 14 #[rv a1, rv a2, rv t1a, rv t2a, u_] [(.int (0 : Int32))])) (fun t k => st3 _ k) ?_
  refine Goes.via (B := T3.setTop (mkF m 16 _ [])) (fun t k => XS.istore X3.here hx rfl (hb hby own_d_jdk_42_method_71_code_14) rfl (l' := #[rv a1, rv a2, rv t1a, rv t2a, iv (0 : Int32)]) rfl k) ?_
  refine Goes.via (B := T3.setTop (mkF m 18 _ [(.int (0 : Int32))])) (fun t k => XS.iload X3.here hx rfl (hb hby own_d_jdk_42_method_71_code_16) rfl k) ?_
  refine Goes.via (B := T3.setTop (mkF m 19 _ [(.ref a2), (.int (0 : Int32))])) (fun t k => XS.aloadN X3.here hx rfl (hb hby own_d_jdk_42_method_71_code_18) rfl rfl k) ?_
  obtain ⟨_, T4, L4, X4, ⟨rfl, M4, K4⟩, st4⟩ := callVirt X3 hx hZ hown (own_hw hw 56 rfl) (own_hw hw 57 rfl) (own_hw hw 59 rfl) (notFace_of_selects (args := #[]) (mvT hZ (own_hw hw 59 rfl))) (own_hw hw 58 rfl) (own_hw hw 5 rfl) (own_hw hw 60 rfl) (by decide) (argsL := []) (rest := [(.int (0 : Int32))]) (own_m15 l Z a0 hw [] a2 z0 h0 n0 O0 hz0 O_1 F_6) K3 F_4 (lenOf own_pd11 rfl) (pc := 19) (Ls := #[rv a1, rv a2, rv t1a, rv t2a, iv (0 : Int32)]) (st := [(.ref a2), (.int (0 : Int32))]) rfl (by rw [hml]; rfl) (hb hby own_d_jdk_42_method_71_code_19) (W := 1) (Nat.le_of_eq rfl) (by decide) (by decide) (by decide) (by decide)
  have N4 := Fr.app N3 M4
  refine Goes.via (B := T4.setTop (mkF m 22 #[rv a1, rv a2, rv t1a, rv t2a, iv (0 : Int32)] [(.int (0 : Int32)), (.int (0 : Int32))])) (fun t k => st4 _ k) ?_
  refine Goes.via (B := T4.setTop (mkF m 25 _ [])) (fun t k => XS.icmpNo X4.here hx rfl (hb hby own_d_jdk_42_method_71_code_22) rfl (XT.ii_ne_f rfl) k) ?_
  refine Goes.via (B := T4.setTop (mkF m 27 _ [(.int (0 : Int32))])) (fun t k => XS.iload X4.here hx rfl (hb hby own_d_jdk_42_method_71_code_25) rfl k) ?_
  refine Goes.via (B := T4.setTop (mkF m 30 _ [])) (fun t k => XS.ifNo X4.here hx rfl (hb hby own_d_jdk_42_method_71_code_27) rfl (XT.i0_ne_f rfl) k) ?_
  refine Goes.via (B := T4.setTop (mkF m 31 _ [(.ref t1a)])) (fun t k => XS.aloadN X4.here hx rfl (hb hby own_d_jdk_42_method_71_code_30) rfl rfl k) ?_
  refine Goes.via (B := T4.setTop (mkF m 32 _ [(.ref t2a), (.ref t1a)])) (fun t k => XS.aloadN X4.here hx rfl (hb hby own_d_jdk_42_method_71_code_31) rfl rfl k) ?_
  obtain ⟨_, T5, L5, X5, ⟨r5, rfl, M5, K5, p5_0⟩, st5⟩ := callStatic X4 hx hZ hown (own_hw hw 63 rfl) (own_hw hw 64 rfl) (own_hw hw 65 rfl) (own_hw hw 66 rfl) (by decide) (argsL := [(.ref t1a), (.ref t2a)]) (rest := []) (own_m36 l Z a0 hw [] t1a k1a t2a k2a cc0 cc1 dd0 dd1 h0 n0 O0 hcc0 hcc1 hdd0 hdd1 F_7 F_8) K4 (lenOf own_pd12 rfl) (pc := 32) (Ls := #[rv a1, rv a2, rv t1a, rv t2a, iv (0 : Int32)]) (st := [(.ref t2a), (.ref t1a)]) rfl (by rw [hml]; rfl) (hb hby own_d_jdk_42_method_71_code_32) (W := 0) (Nat.le_of_eq rfl) (by decide) (by decide) (by decide) (by decide)
  have N5 := Fr.app N4 M5
  refine Goes.via (B := T5.setTop (mkF m 35 #[rv a1, rv a2, rv t1a, rv t2a, iv (0 : Int32)] [(.int r5)])) (fun t k => st5 _ k) ?_
  refine Goes.via (B := T5.setTop (mkF m 43 _ [(.int r5)])) (fun t k => XS.goto X5.here hx rfl (pc0 := 35) (pc' := 43) rfl (hb hby own_d_jdk_42_method_71_code_35) (by decide) (by decide) k) ?_
  exact finI (Q := (own_Q37 Z a1 a2 z0 t1a k1a t2a k2a cc0 cc1 dd0 dd1 h0 n0)) (F := FrameEnd) (C := ((Rm 3 0 0 47)).cells) (S := ((Rm 3 0 0 47)).slots) X5 hx Bd.returns (hb hby own_d_jdk_42_method_71_code_43) K5 ⟨r5, rfl, N5, rfl, p5_0⟩ (lvN X5 hlk (by decide) (by decide))
theorem own_ef38 (m : MethodId) (x0 : Addr) (x1 : Addr)  : entryFrame m #[(.ref x0), (.ref x1)] 3 = mkF m 0 #[rv x0, rv x1, u_] [] := by first | (simp [entryFrame, mkF, argsToLocals, Value.category]; done) | rfl
abbrev own_Q38 (Z : State) (a1 : Addr) (a2 : Addr) (x1 : Int64) (x2 : Int64) (s1a : Addr) (s2a : Addr) (z0 : Int32) (t1a : Addr) (k1a : ClassId) (t2a : Addr) (k2a : ClassId) (cc0 : Int32) (cc1 : Int32) (dd0 : Int32) (dd1 : Int32) (h0 : Heap) (n0 : Nat) (v : Option Value) (h : Heap) (L : List Loc) : Prop := ∃ r : Int32, v = some (.int r) ∧ Fr n0 L ∧ h = h0 ∧ own_sg r = own_exp x1 x2 (1 : Int32) cc0 cc1 (0 : Int32) dd0 dd1
set_option maxRecDepth 65536 in
set_option maxHeartbeats 40000000 in
theorem own_m38 (l : Launch) (Z : State) (a0 : Array Value) (hw : ∀ d ∈ tables_1, d.before a0 Z = true) (ws : List Jvm.Cond) (a1 : Addr) (a2 : Addr) (x1 : Int64) (x2 : Int64) (s1a : Addr) (s2a : Addr) (z0 : Int32) (t1a : Addr) (k1a : ClassId) (t2a : Addr) (k2a : ClassId) (cc0 : Int32) (cc1 : Int32) (dd0 : Int32) (dd1 : Int32) (h0 : Heap) (n0 : Nat) (O0 : Old Z n0 h0) (hz0 : ¬ z0 = (0 : Int32)) (hcc0 : ¬ cc0 < (0 : Int32) ∧ ¬ (255 : Int32) < cc0) (hcc1 : ¬ cc1 < (0 : Int32) ∧ ¬ (255 : Int32) < cc1) (hdd0 : ¬ dd0 < (0 : Int32) ∧ ¬ (255 : Int32) < dd0) (hdd1 : ¬ dd1 < (0 : Int32) ∧ ¬ (255 : Int32) < dd1) (O_1 : Sta Z Z.heap "java/lang/String" "COMPACT_STRINGS" "Z" (.int z0)) (F_1 : Exa Z h0 a1 "com/example/keelson/keelson/cluster/Ballot") (F_2 : Fld Z h0 a1 "com/example/keelson/keelson/cluster/Ballot" "round" "J" (.long x1)) (F_3 : Fld Z h0 a1 "com/example/keelson/keelson/cluster/Ballot" "proposer" "Ljava/lang/String;" (.ref s1a)) (F_4 : Exa Z h0 a2 "com/example/keelson/keelson/cluster/Ballot") (F_5 : Fld Z h0 a2 "com/example/keelson/keelson/cluster/Ballot" "round" "J" (.long x2)) (F_6 : Fld Z h0 a2 "com/example/keelson/keelson/cluster/Ballot" "proposer" "Ljava/lang/String;" (.ref s2a)) (F_7 : Exa Z h0 s1a "java/lang/String") (F_8 : Fld Z h0 s1a "java/lang/String" "value" "[B" (.ref t1a)) (F_9 : Fld Z h0 s1a "java/lang/String" "coder" "B" (.int (0 : Int32))) (F_10 : Exa Z h0 s2a "java/lang/String") (F_11 : Fld Z h0 s2a "java/lang/String" "value" "[B" (.ref t2a)) (F_12 : Fld Z h0 s2a "java/lang/String" "coder" "B" (.int (0 : Int32))) (F_13 : Arv Z h0 t1a k1a .byte (1 : Int32) [(.int cc0.toInt8.toInt32)] (.int (0 : Int32))) (F_14 : Arv Z h0 t2a k2a .byte (0 : Int32) [] (.int (0 : Int32))) :
    Ctr l Z (⟨"com/example/keelson/keelson/cluster/Ballot", "compareTo", "(Lcom/example/keelson/keelson/cluster/Ballot;)I"⟩ : MethodName) prog_19_method_2_code 3 (some .int) (Rm 4 0 0 63) #[(.ref a1), (.ref a2)] h0 (own_Q38 Z a1 a2 x1 x2 s1a s2a z0 t1a k1a t2a k2a cc0 cc1 dd0 dd1 h0 n0) ws := by
  refine MetFree.of_bodySF (plainFor_of_name own_pn5) hisR ?_
  intro p e s m args below meth c s₁ Bd hml0 hP hK
  obtain ⟨rfl, hZ, hh⟩ := hP
  have hx := Bd.exec
  have hby := Bd.bytes
  have hlk : meth.locks = false := Bd.notSynchronized
  have hml : c.maxLocals = 3 := hml0
  have hown : s.vm.findClass "com/example/keelson/keelson/cluster/Ballot" = some m.cls := findClass_of_methodNamed Bd.named
  have hnm := (name_of_methodNamed Bd.named Bd.method).1
  have X0 : Stand p l e (Rm 4 0 0 63) s m #[(.ref a1), (.ref a2)] below meth c s₁ [] 0 0 := Stand.of_body Bd
  have e0 : s₁.heap = h0 := by rw [← hh, Bd.state]; rfl
  have N0 := Fr.nil n0
  show Goes p.tables e below (fun t o => ∃ v L, o = .returned v ∧ (own_Q38 Z a1 a2 x1 x2 s1a s2a z0 t1a k1a t2a k2a cc0 cc1 dd0 dd1 h0 n0) v t.heap L ∧ FrameEnd s o t L ((Rm 4 0 0 63)).cells ((Rm 4 0 0 63)).slots) _
  refine Goes.via (B := s₁.setTop (mkF m 0 #[rv a1, rv a2, u_] [])) (fun t k => castTop (own_ef38 m a1 a2) k) ?_
  refine Goes.via (B := s₁.setTop (mkF m 1 _ [(.ref a1)])) (fun t k => XS.aloadN X0.here hx rfl (hb hby own_d_prog_19_method_2_code_0) rfl rfl k) ?_
  obtain ⟨T1, X1, e1, st1⟩ := getF X0 hx hZ hown (host := "") (Or.inl (own_hw hw 31 rfl)) Via.refl e0 F_2 (g := (mkF m 1 #[rv a1, rv a2, u_] [(.ref a1)])) rfl rfl (hb hby own_d_prog_19_method_2_code_1)
  refine Goes.via (B := T1.setTop (mkF m 4 #[rv a1, rv a2, u_] [(.long x1)])) (fun t k => st1 _ k) ?_
  refine Goes.via (B := T1.setTop (mkF m 5 _ [(.ref a2), (.long x1)])) (fun t k => XS.aloadN X1.here hx rfl (hb hby own_d_prog_19_method_2_code_4) rfl rfl k) ?_
  obtain ⟨T2, X2, e2, st2⟩ := getF X1 hx hZ hown (host := "") (Or.inl (own_hw hw 31 rfl)) Via.refl e1 F_5 (g := (mkF m 5 #[rv a1, rv a2, u_] [(.ref a2), (.long x1)])) rfl rfl (hb hby own_d_prog_19_method_2_code_5)
  refine Goes.via (B := T2.setTop (mkF m 8 #[rv a1, rv a2, u_] [(.long x2), (.long x1)])) (fun t k => st2 _ k) ?_
  obtain ⟨_, T3, L3, X3, ⟨r3, rfl, M3, K3, p3_0⟩, st3⟩ := callStatic X2 hx hZ hown (own_hw hw 40 rfl) (own_hw hw 41 rfl) (own_hw hw 42 rfl) (own_hw hw 43 rfl) (by decide) (argsL := [(.long x1), (.long x2)]) (rest := []) (own_m11 l Z a0 hw [] x1 x2 h0 n0 O0 ) e2 (lenOf own_pd13 rfl) (pc := 8) (Ls := #[rv a1, rv a2, u_]) (st := [(.long x2), (.long x1)]) rfl (by rw [hml]; rfl) (hb hby own_d_prog_19_method_2_code_8) (W := 0) (Nat.le_of_eq rfl) (by decide) (by decide) (by decide) (by decide)
  have N3 := Fr.app N0 M3
  refine Goes.via (B := T3.setTop (mkF m 11 #[rv a1, rv a2, u_] [(.int r3)])) (fun t k => st3 _ k) ?_
  refine Goes.via (B := T3.setTop (mkF m 12 _ [])) (fun t k => XS.istoreN X3.here hx rfl (hb hby own_d_prog_19_method_2_code_11) rfl (l' := #[rv a1, rv a2, iv r3]) rfl k) ?_
  refine Goes.via (B := T3.setTop (mkF m 13 _ [(.int r3)])) (fun t k => XS.iloadN X3.here hx rfl (hb hby own_d_prog_19_method_2_code_12) rfl k) ?_
  by_cases hlt : x1 < x2
  · rw [if_pos hlt] at p3_0
    subst p3_0
    refine Goes.via (B := T3.setTop (mkF m 28 _ [])) (fun t k => XS.ifYes X3.here hx rfl (pc0 := 13) (pc' := 28) rfl (hb hby own_d_prog_19_method_2_code_13) rfl (XT.i0_ne_t (by decide)) (by decide) (by decide) k) ?_
    refine Goes.via (B := T3.setTop (mkF m 29 _ [(.int (-1 : Int32))])) (fun t k => XS.iloadN X3.here hx rfl (hb hby own_d_prog_19_method_2_code_28) rfl k) ?_
    exact finI (Q := (own_Q38 Z a1 a2 x1 x2 s1a s2a z0 t1a k1a t2a k2a cc0 cc1 dd0 dd1 h0 n0)) (F := FrameEnd) (C := ((Rm 4 0 0 63)).cells) (S := ((Rm 4 0 0 63)).slots) X3 hx Bd.returns (hb hby own_d_prog_19_method_2_code_29) K3 ⟨(-1 : Int32), rfl, N3, rfl, (by unfold own_exp; rw [if_pos hlt]; decide)⟩ (lvN X3 hlk (by decide) (by decide))
  · rw [if_neg hlt] at p3_0
    by_cases heq : x1 = x2
    · rw [if_pos heq] at p3_0
      have hng : ¬ x2 < x1 := by rw [heq]; rw [Int64.lt_iff_toInt_lt]; omega
      subst p3_0
      refine Goes.via (B := T3.setTop (mkF m 16 _ [])) (fun t k => XS.ifNo X3.here hx rfl (hb hby own_d_prog_19_method_2_code_13) rfl (XT.i0_ne_f rfl) k) ?_
      refine Goes.via (B := T3.setTop (mkF m 17 _ [(.ref a1)])) (fun t k => XS.aloadN X3.here hx rfl (hb hby own_d_prog_19_method_2_code_16) rfl rfl k) ?_
      obtain ⟨T4, X4, e4, st4⟩ := getF X3 hx hZ hown (host := "") (Or.inl (own_hw hw 33 rfl)) Via.refl K3 F_3 (g := (mkF m 17 #[rv a1, rv a2, iv (0 : Int32)] [(.ref a1)])) rfl rfl (hb hby own_d_prog_19_method_2_code_17)
      refine Goes.via (B := T4.setTop (mkF m 20 #[rv a1, rv a2, iv (0 : Int32)] [(.ref s1a)])) (fun t k => st4 _ k) ?_
      refine Goes.via (B := T4.setTop (mkF m 21 _ [(.ref a2), (.ref s1a)])) (fun t k => XS.aloadN X4.here hx rfl (hb hby own_d_prog_19_method_2_code_20) rfl rfl k) ?_
      obtain ⟨T5, X5, e5, st5⟩ := getF X4 hx hZ hown (host := "") (Or.inl (own_hw hw 33 rfl)) Via.refl e4 F_6 (g := (mkF m 21 #[rv a1, rv a2, iv (0 : Int32)] [(.ref a2), (.ref s1a)])) rfl rfl (hb hby own_d_prog_19_method_2_code_21)
      refine Goes.via (B := T5.setTop (mkF m 24 #[rv a1, rv a2, iv (0 : Int32)] [(.ref s2a), (.ref s1a)])) (fun t k => st5 _ k) ?_
      obtain ⟨_, T6, L6, X6, ⟨r6, rfl, M6, K6, p6_0⟩, st6⟩ := callVirt X5 hx hZ hown (own_hw hw 50 rfl) (own_hw hw 51 rfl) (own_hw hw 53 rfl) (notFace_of_selects (args := #[]) (mvT hZ (own_hw hw 53 rfl))) (own_hw hw 52 rfl) (own_hw hw 5 rfl) (own_hw hw 54 rfl) (by decide) (argsL := [(.ref s2a)]) (rest := []) (own_m37 l Z a0 hw [] s1a s2a z0 t1a k1a t2a k2a cc0 cc1 dd0 dd1 h0 n0 O0 hz0 hcc0 hcc1 hdd0 hdd1 O_1 F_7 F_8 F_9 F_10 F_11 F_12 F_13 F_14) e5 F_7 (lenOf own_pd14 rfl) (pc := 24) (Ls := #[rv a1, rv a2, iv (0 : Int32)]) (st := [(.ref s2a), (.ref s1a)]) rfl (by rw [hml]; rfl) (hb hby own_d_prog_19_method_2_code_24) (W := 0) (Nat.le_of_eq rfl) (by decide) (by decide) (by decide) (by decide)
      have N6 := Fr.app N3 M6
      refine Goes.via (B := T6.setTop (mkF m 27 #[rv a1, rv a2, iv (0 : Int32)] [(.int r6)])) (fun t k => st6 _ k) ?_
      refine Goes.via (B := T6.setTop (mkF m 28 _ [])) (fun t k => XS.istoreN X6.here hx rfl (hb hby own_d_prog_19_method_2_code_27) rfl (l' := #[rv a1, rv a2, iv r6]) rfl k) ?_
      refine Goes.via (B := T6.setTop (mkF m 29 _ [(.int r6)])) (fun t k => XS.iloadN X6.here hx rfl (hb hby own_d_prog_19_method_2_code_28) rfl k) ?_
      exact finI (Q := (own_Q38 Z a1 a2 x1 x2 s1a s2a z0 t1a k1a t2a k2a cc0 cc1 dd0 dd1 h0 n0)) (F := FrameEnd) (C := ((Rm 4 0 0 63)).cells) (S := ((Rm 4 0 0 63)).slots) X6 hx Bd.returns (hb hby own_d_prog_19_method_2_code_29) K6 ⟨r6, rfl, N6, rfl, (by unfold own_exp; rw [if_neg hlt, if_neg hng]; exact p6_0)⟩ (lvN X6 hlk (by decide) (by decide))
    · rw [if_neg heq] at p3_0
      have hgt : x2 < x1 := by
        have n' : ¬ x1.toInt = x2.toInt := fun z => heq (Int64.toInt_inj.mp z)
        rw [Int64.lt_iff_toInt_lt] at *; omega
      subst p3_0
      refine Goes.via (B := T3.setTop (mkF m 28 _ [])) (fun t k => XS.ifYes X3.here hx rfl (pc0 := 13) (pc' := 28) rfl (hb hby own_d_prog_19_method_2_code_13) rfl (XT.i0_ne_t (by decide)) (by decide) (by decide) k) ?_
      refine Goes.via (B := T3.setTop (mkF m 29 _ [(.int (1 : Int32))])) (fun t k => XS.iloadN X3.here hx rfl (hb hby own_d_prog_19_method_2_code_28) rfl k) ?_
      exact finI (Q := (own_Q38 Z a1 a2 x1 x2 s1a s2a z0 t1a k1a t2a k2a cc0 cc1 dd0 dd1 h0 n0)) (F := FrameEnd) (C := ((Rm 4 0 0 63)).cells) (S := ((Rm 4 0 0 63)).slots) X3 hx Bd.returns (hb hby own_d_prog_19_method_2_code_29) K3 ⟨(1 : Int32), rfl, N3, rfl, (by unfold own_exp; rw [if_neg hlt, if_pos hgt]; decide)⟩ (lvN X3 hlk (by decide) (by decide))
theorem own_d_jdk_48_method_13_code_54 : decode jdk_48_method_13_code 54 = .ok (.aload_n 0, 1) := by decide +kernel
theorem own_d_jdk_48_method_13_code_55 : decode jdk_48_method_13_code 55 = .ok (.iload_n 3, 1) := by decide +kernel
theorem own_d_jdk_48_method_13_code_56 : decode jdk_48_method_13_code 56 = .ok (.baload, 1) := by decide +kernel
theorem own_d_jdk_48_method_13_code_57 : decode jdk_48_method_13_code 57 = .ok (.aload_n 1, 1) := by decide +kernel
theorem own_d_jdk_48_method_13_code_58 : decode jdk_48_method_13_code 58 = .ok (.iload_n 3, 1) := by decide +kernel
theorem own_d_jdk_48_method_13_code_59 : decode jdk_48_method_13_code 59 = .ok (.baload, 1) := by decide +kernel
theorem own_d_jdk_48_method_13_code_60 : decode jdk_48_method_13_code 60 = .ok (.if_icmp .eq 5, 3) := by decide +kernel
theorem own_d_jdk_48_method_13_code_65 : decode jdk_48_method_13_code 65 = .ok (.iinc 3 1, 3) := by decide +kernel
theorem own_d_jdk_48_method_13_code_68 : decode jdk_48_method_13_code 68 = .ok (.goto (-19), 3) := by decide +kernel
theorem own_d_jdk_48_method_13_code_63 : decode jdk_48_method_13_code 63 = .ok (.iload_n 3, 1) := by decide +kernel
theorem own_d_jdk_48_method_13_code_64 : decode jdk_48_method_13_code 64 = .ok (.ireturn, 1) := by decide +kernel
theorem own_ef39 (m : MethodId) (x0 : Addr) (x1 : Addr) (x2 : Int32)  : entryFrame m #[(.ref x0), (.ref x1), (.int x2)] 4 = mkF m 0 #[rv x0, rv x1, iv x2, u_] [] := by first | (simp [entryFrame, mkF, argsToLocals, Value.category]; done) | rfl
abbrev own_Q39 (Z : State) (t1a : Addr) (k1a : ClassId) (t2a : Addr) (k2a : ClassId) (cc0 : Int32) (cc1 : Int32) (dd0 : Int32) (dd1 : Int32) (h0 : Heap) (n0 : Nat) (v : Option Value) (h : Heap) (L : List Loc) : Prop := ∃ r : Int32, v = some (.int r) ∧ Fr n0 L ∧ h = h0 ∧ r = if cc0.toInt8.toInt32 = dd0.toInt8.toInt32 then (-1 : Int32) else 0
set_option maxRecDepth 65536 in
set_option maxHeartbeats 40000000 in
theorem own_m39 (l : Launch) (Z : State) (a0 : Array Value) (hw : ∀ d ∈ tables_1, d.before a0 Z = true) (ws : List Jvm.Cond) (t1a : Addr) (k1a : ClassId) (t2a : Addr) (k2a : ClassId) (cc0 : Int32) (cc1 : Int32) (dd0 : Int32) (dd1 : Int32) (h0 : Heap) (n0 : Nat) (O0 : Old Z n0 h0) (F_1 : Arv Z h0 t1a k1a .byte (1 : Int32) [(.int cc0.toInt8.toInt32)] (.int (0 : Int32))) (F_2 : Arv Z h0 t2a k2a .byte (1 : Int32) [(.int dd0.toInt8.toInt32)] (.int (0 : Int32))) :
    Ctr l Z (⟨"jdk/internal/util/ArraysSupport", "mismatch", "([B[BI)I"⟩ : MethodName) jdk_48_method_13_code 4 (some .int) (Rm 0 0 0 0) #[(.ref t1a), (.ref t2a), (.int (1 : Int32))] h0 (own_Q39 Z t1a k1a t2a k2a cc0 cc1 dd0 dd1 h0 n0) ws := by
  refine MetFree.of_bodySF (plainFor_of_name own_pn7) hisR ?_
  intro p e s m args below meth c s₁ Bd hml0 hP hK
  obtain ⟨rfl, hZ, hh⟩ := hP
  have hx := Bd.exec
  have hby := Bd.bytes
  have hlk : meth.locks = false := Bd.notSynchronized
  have hml : c.maxLocals = 4 := hml0
  have hown : s.vm.findClass "jdk/internal/util/ArraysSupport" = some m.cls := findClass_of_methodNamed Bd.named
  have hnm := (name_of_methodNamed Bd.named Bd.method).1
  have X0 : Stand p l e (Rm 0 0 0 0) s m #[(.ref t1a), (.ref t2a), (.int (1 : Int32))] below meth c s₁ [] 0 0 := Stand.of_body Bd
  have e0 : s₁.heap = h0 := by rw [← hh, Bd.state]; rfl
  have N0 := Fr.nil n0
  show Goes p.tables e below (fun t o => ∃ v L, o = .returned v ∧ (own_Q39 Z t1a k1a t2a k2a cc0 cc1 dd0 dd1 h0 n0) v t.heap L ∧ FrameEnd s o t L ((Rm 0 0 0 0)).cells ((Rm 0 0 0 0)).slots) _
  refine Goes.via (B := s₁.setTop (mkF m 0 #[rv t1a, rv t2a, iv (1 : Int32), u_] [])) (fun t k => castTop (own_ef39 m t1a t2a (1 : Int32)) k) ?_
  refine Goes.via (B := s₁.setTop (mkF m 1 _ [(.int (0 : Int32))])) (fun t k => XS.iconst X0.here hx rfl (hb hby own_d_jdk_48_method_13_code_0) k) ?_
  refine Goes.via (B := s₁.setTop (mkF m 2 _ [])) (fun t k => XS.istoreN X0.here hx rfl (hb hby own_d_jdk_48_method_13_code_1) rfl (l' := #[rv t1a, rv t2a, iv (1 : Int32), iv (0 : Int32)]) rfl k) ?_
  refine Goes.via (B := s₁.setTop (mkF m 3 _ [(.int (1 : Int32))])) (fun t k => XS.iloadN X0.here hx rfl (hb hby own_d_jdk_48_method_13_code_2) rfl k) ?_
  refine Goes.via (B := s₁.setTop (mkF m 5 _ [(.int (7 : Int32)), (.int (1 : Int32))])) (fun t k => XS.bipush X0.here hx rfl (hb hby own_d_jdk_48_method_13_code_3) k) ?_
  refine Goes.via (B := s₁.setTop (mkF m 49 _ [])) (fun t k => XS.icmpYes X0.here hx rfl (pc0 := 5) (pc' := 49) rfl (hb hby own_d_jdk_48_method_13_code_5) rfl (XT.ii_le_t (by decide)) (by decide) (by decide) k) ?_
  refine Goes.via (B := s₁.setTop (mkF m 50 _ [(.int (0 : Int32))])) (fun t k => XS.iloadN X0.here hx rfl (hb hby own_d_jdk_48_method_13_code_49) rfl k) ?_
  refine Goes.via (B := s₁.setTop (mkF m 51 _ [(.int (1 : Int32)), (.int (0 : Int32))])) (fun t k => XS.iloadN X0.here hx rfl (hb hby own_d_jdk_48_method_13_code_50) rfl k) ?_
  refine Goes.via (B := s₁.setTop (mkF m 54 _ [])) (fun t k => XS.icmpNo X0.here hx rfl (hb hby own_d_jdk_48_method_13_code_51) rfl (XT.ii_ge_f (by decide)) k) ?_
  refine Goes.via (B := s₁.setTop (mkF m 55 _ [(.ref t1a)])) (fun t k => XS.aloadN X0.here hx rfl (hb hby own_d_jdk_48_method_13_code_54) rfl rfl k) ?_
  refine Goes.via (B := s₁.setTop (mkF m 56 _ [(.int (0 : Int32)), (.ref t1a)])) (fun t k => XS.iloadN X0.here hx rfl (hb hby own_d_jdk_48_method_13_code_55) rfl k) ?_
  obtain ⟨cl1, Ar1, q1, S1, N1, H1, G1⟩ := id F_1
  have hin1 := inb_of (j := (0 : Int32)) S1 ⟨by decide, by decide⟩
  refine Goes.via (B := s₁.setTop (mkF m 57 #[rv t1a, rv t2a, iv (1 : Int32), iv (0 : Int32)] [(.int cc0.toInt8.toInt32)])) (fun t k => X0.baloadBytes hx (j := (0 : Int32)) (v := (.int cc0.toInt8.toInt32)) (by rw [e0]; exact Ar1.1) (State.isArrayOf_alike hZ.alike Ar1.2.1) Ar1.2.2 hin1 (H1.at hin1 rfl) (g := (mkF m 56 #[rv t1a, rv t2a, iv (1 : Int32), iv (0 : Int32)] [(.int (0 : Int32)), (.ref t1a)])) rfl rfl (hb hby own_d_jdk_48_method_13_code_56) t k) ?_
  refine Goes.via (B := s₁.setTop (mkF m 58 _ [(.ref t2a), (.int cc0.toInt8.toInt32)])) (fun t k => XS.aloadN X0.here hx rfl (hb hby own_d_jdk_48_method_13_code_57) rfl rfl k) ?_
  refine Goes.via (B := s₁.setTop (mkF m 59 _ [(.int (0 : Int32)), (.ref t2a), (.int cc0.toInt8.toInt32)])) (fun t k => XS.iloadN X0.here hx rfl (hb hby own_d_jdk_48_method_13_code_58) rfl k) ?_
  obtain ⟨cl2, Ar2, q2, S2, N2, H2, G2⟩ := id F_2
  have hin2 := inb_of (j := (0 : Int32)) S2 ⟨by decide, by decide⟩
  refine Goes.via (B := s₁.setTop (mkF m 60 #[rv t1a, rv t2a, iv (1 : Int32), iv (0 : Int32)] [(.int dd0.toInt8.toInt32), (.int cc0.toInt8.toInt32)])) (fun t k => X0.baloadBytes hx (j := (0 : Int32)) (v := (.int dd0.toInt8.toInt32)) (by rw [e0]; exact Ar2.1) (State.isArrayOf_alike hZ.alike Ar2.2.1) Ar2.2.2 hin2 (H2.at hin2 rfl) (g := (mkF m 59 #[rv t1a, rv t2a, iv (1 : Int32), iv (0 : Int32)] [(.int (0 : Int32)), (.ref t2a), (.int cc0.toInt8.toInt32)])) rfl rfl (hb hby own_d_jdk_48_method_13_code_59) t k) ?_
  by_cases b3 : cc0.toInt8.toInt32 = dd0.toInt8.toInt32
  · refine Goes.via (B := s₁.setTop (mkF m 65 _ [])) (fun t k => XS.icmpYes X0.here hx rfl (pc0 := 60) (pc' := 65) rfl (hb hby own_d_jdk_48_method_13_code_60) rfl (XT.ii_eq_t b3) (by decide) (by decide) k) ?_
    refine Goes.via (B := s₁.setTop (mkF m 68 _ [])) (fun t k => XS.iinc X0.here hx rfl (hb hby own_d_jdk_48_method_13_code_65) rfl (l' := #[rv t1a, rv t2a, iv (1 : Int32), iv ((0 : Int32) + (1 : Int32))]) rfl k) ?_
    refine Goes.via (B := s₁.setTop (mkF m 49 _ [])) (fun t k => XS.goto X0.here hx rfl (pc0 := 68) (pc' := 49) rfl (hb hby own_d_jdk_48_method_13_code_68) (by decide) (by decide) k) ?_
    have q4 : ((0 : Int32) + (1 : Int32)) = (1 : Int32) := rfl
    rw [q4]
    refine Goes.via (B := s₁.setTop (mkF m 50 _ [(.int (1 : Int32))])) (fun t k => XS.iloadN X0.here hx rfl (hb hby own_d_jdk_48_method_13_code_49) rfl k) ?_
    refine Goes.via (B := s₁.setTop (mkF m 51 _ [(.int (1 : Int32)), (.int (1 : Int32))])) (fun t k => XS.iloadN X0.here hx rfl (hb hby own_d_jdk_48_method_13_code_50) rfl k) ?_
    refine Goes.via (B := s₁.setTop (mkF m 71 _ [])) (fun t k => XS.icmpYes X0.here hx rfl (pc0 := 51) (pc' := 71) rfl (hb hby own_d_jdk_48_method_13_code_51) rfl (XT.ii_ge_t (by decide)) (by decide) (by decide) k) ?_
    refine Goes.via (B := s₁.setTop (mkF m 72 _ [(.int (-1 : Int32))])) (fun t k => XS.iconst X0.here hx rfl (hb hby own_d_jdk_48_method_13_code_71) k) ?_
    exact finI (Q := (own_Q39 Z t1a k1a t2a k2a cc0 cc1 dd0 dd1 h0 n0)) (F := FrameEnd) (C := ((Rm 0 0 0 0)).cells) (S := ((Rm 0 0 0 0)).slots) X0 hx Bd.returns (hb hby own_d_jdk_48_method_13_code_72) e0 ⟨(-1 : Int32), rfl, N0, rfl, (by simp [b3])⟩ (lvN X0 hlk (by decide) (by decide))
  · refine Goes.via (B := s₁.setTop (mkF m 63 _ [])) (fun t k => XS.icmpNo X0.here hx rfl (hb hby own_d_jdk_48_method_13_code_60) rfl (XT.ii_eq_f b3) k) ?_
    refine Goes.via (B := s₁.setTop (mkF m 64 _ [(.int (0 : Int32))])) (fun t k => XS.iloadN X0.here hx rfl (hb hby own_d_jdk_48_method_13_code_63) rfl k) ?_
    exact finI (Q := (own_Q39 Z t1a k1a t2a k2a cc0 cc1 dd0 dd1 h0 n0)) (F := FrameEnd) (C := ((Rm 0 0 0 0)).cells) (S := ((Rm 0 0 0 0)).slots) X0 hx Bd.returns (hb hby own_d_jdk_48_method_13_code_64) e0 ⟨(0 : Int32), rfl, N0, rfl, (by simp [b3])⟩ (lvN X0 hlk (by decide) (by decide))
theorem own_d_jdk_43_method_15_code_27 : decode jdk_43_method_15_code 27 = .ok (.aload_n 0, 1) := by decide +kernel
theorem own_d_jdk_43_method_15_code_28 : decode jdk_43_method_15_code 28 = .ok (.iload 5, 2) := by decide +kernel
theorem own_d_jdk_43_method_15_code_30 : decode jdk_43_method_15_code 30 = .ok (.invokestatic 50, 3) := by decide +kernel
theorem own_pd15 : parseMethodDescriptor "([BI)C" = some ⟨[(.array .byte), .int], some .char⟩ := by decide +kernel
theorem own_d_jdk_43_method_15_code_33 : decode jdk_43_method_15_code 33 = .ok (.aload_n 1, 1) := by decide +kernel
theorem own_d_jdk_43_method_15_code_34 : decode jdk_43_method_15_code 34 = .ok (.iload 5, 2) := by decide +kernel
theorem own_d_jdk_43_method_15_code_36 : decode jdk_43_method_15_code 36 = .ok (.invokestatic 50, 3) := by decide +kernel
theorem own_d_jdk_43_method_15_code_39 : decode jdk_43_method_15_code 39 = .ok (.isub, 1) := by decide +kernel
theorem own_ef40 (m : MethodId) (x0 : Addr) (x1 : Addr) (x2 : Int32) (x3 : Int32)  : entryFrame m #[(.ref x0), (.ref x1), (.int x2), (.int x3)] 6 = mkF m 0 #[rv x0, rv x1, iv x2, iv x3, u_, u_] [] := by first | (simp [entryFrame, mkF, argsToLocals, Value.category]; done) | rfl
abbrev own_Q40 (Z : State) (t1a : Addr) (k1a : ClassId) (t2a : Addr) (k2a : ClassId) (cc0 : Int32) (cc1 : Int32) (dd0 : Int32) (dd1 : Int32) (h0 : Heap) (n0 : Nat) (v : Option Value) (h : Heap) (L : List Loc) : Prop := ∃ r : Int32, v = some (.int r) ∧ Fr n0 L ∧ h = h0 ∧ own_sg r = own_lex (1 : Int32) cc0 cc1 (1 : Int32) dd0 dd1
set_option maxRecDepth 65536 in
set_option maxHeartbeats 40000000 in
theorem own_m40 (l : Launch) (Z : State) (a0 : Array Value) (hw : ∀ d ∈ tables_1, d.before a0 Z = true) (ws : List Jvm.Cond) (t1a : Addr) (k1a : ClassId) (t2a : Addr) (k2a : ClassId) (cc0 : Int32) (cc1 : Int32) (dd0 : Int32) (dd1 : Int32) (h0 : Heap) (n0 : Nat) (O0 : Old Z n0 h0) (hcc0 : ¬ cc0 < (0 : Int32) ∧ ¬ (255 : Int32) < cc0) (hcc1 : ¬ cc1 < (0 : Int32) ∧ ¬ (255 : Int32) < cc1) (hdd0 : ¬ dd0 < (0 : Int32) ∧ ¬ (255 : Int32) < dd0) (hdd1 : ¬ dd1 < (0 : Int32) ∧ ¬ (255 : Int32) < dd1) (F_1 : Arv Z h0 t1a k1a .byte (1 : Int32) [(.int cc0.toInt8.toInt32)] (.int (0 : Int32))) (F_2 : Arv Z h0 t2a k2a .byte (1 : Int32) [(.int dd0.toInt8.toInt32)] (.int (0 : Int32))) :
    Ctr l Z (⟨"java/lang/StringLatin1", "compareTo", "([B[BII)I"⟩ : MethodName) jdk_43_method_15_code 6 (some .int) (Rm 1 0 0 15) #[(.ref t1a), (.ref t2a), (.int (1 : Int32)), (.int (1 : Int32))] h0 (own_Q40 Z t1a k1a t2a k2a cc0 cc1 dd0 dd1 h0 n0) ws := by
  refine MetFree.of_bodySF (plainFor_of_name own_pn0) hisR ?_
  intro p e s m args below meth c s₁ Bd hml0 hP hK
  obtain ⟨rfl, hZ, hh⟩ := hP
  have hx := Bd.exec
  have hby := Bd.bytes
  have hlk : meth.locks = false := Bd.notSynchronized
  have hml : c.maxLocals = 6 := hml0
  have hown : s.vm.findClass "java/lang/StringLatin1" = some m.cls := findClass_of_methodNamed Bd.named
  have hnm := (name_of_methodNamed Bd.named Bd.method).1
  have X0 : Stand p l e (Rm 1 0 0 15) s m #[(.ref t1a), (.ref t2a), (.int (1 : Int32)), (.int (1 : Int32))] below meth c s₁ [] 0 0 := Stand.of_body Bd
  have e0 : s₁.heap = h0 := by rw [← hh, Bd.state]; rfl
  have N0 := Fr.nil n0
  show Goes p.tables e below (fun t o => ∃ v L, o = .returned v ∧ (own_Q40 Z t1a k1a t2a k2a cc0 cc1 dd0 dd1 h0 n0) v t.heap L ∧ FrameEnd s o t L ((Rm 1 0 0 15)).cells ((Rm 1 0 0 15)).slots) _
  refine Goes.via (B := s₁.setTop (mkF m 0 #[rv t1a, rv t2a, iv (1 : Int32), iv (1 : Int32), u_, u_] [])) (fun t k => castTop (own_ef40 m t1a t2a (1 : Int32) (1 : Int32)) k) ?_
  refine Goes.via (B := s₁.setTop (mkF m 1 _ [(.int (1 : Int32))])) (fun t k => XS.iloadN X0.here hx rfl (hb hby own_d_jdk_43_method_15_code_0) rfl k) ?_
  refine Goes.via (B := s₁.setTop (mkF m 2 _ [(.int (1 : Int32)), (.int (1 : Int32))])) (fun t k => XS.iloadN X0.here hx rfl (hb hby own_d_jdk_43_method_15_code_1) rfl k) ?_
  obtain ⟨_, T1, L1, X1, ⟨r1, rfl, M1, K1, p1_0⟩, st1⟩ := callStatic X0 hx hZ hown (own_hw hw 70 rfl) (own_hw hw 71 rfl) (own_hw hw 72 rfl) (own_hw hw 73 rfl) (by decide) (argsL := [(.int (1 : Int32)), (.int (1 : Int32))]) (rest := []) (own_m14 l Z a0 hw [] (1 : Int32) (1 : Int32) h0 n0 O0 ) e0 (lenOf own_pd8 rfl) (pc := 2) (Ls := #[rv t1a, rv t2a, iv (1 : Int32), iv (1 : Int32), u_, u_]) (st := [(.int (1 : Int32)), (.int (1 : Int32))]) rfl (by rw [hml]; rfl) (hb hby own_d_jdk_43_method_15_code_2) (W := 0) (Nat.le_of_eq rfl) (by decide) (by decide) (by decide) (by decide)
  have N1 := Fr.app N0 M1
  refine Goes.via (B := T1.setTop (mkF m 5 #[rv t1a, rv t2a, iv (1 : Int32), iv (1 : Int32), u_, u_] [(.int r1)])) (fun t k => st1 _ k) ?_
  obtain rfl : r1 = (1 : Int32) := p1_0.trans (by decide)
  refine Goes.via (B := T1.setTop (mkF m 7 _ [])) (fun t k => XS.istore X1.here hx rfl (hb hby own_d_jdk_43_method_15_code_5) rfl (l' := #[rv t1a, rv t2a, iv (1 : Int32), iv (1 : Int32), iv (1 : Int32), u_]) rfl k) ?_
  refine Goes.via (B := T1.setTop (mkF m 8 _ [(.ref t1a)])) (fun t k => XS.aloadN X1.here hx rfl (hb hby own_d_jdk_43_method_15_code_7) rfl rfl k) ?_
  refine Goes.via (B := T1.setTop (mkF m 9 _ [(.ref t2a), (.ref t1a)])) (fun t k => XS.aloadN X1.here hx rfl (hb hby own_d_jdk_43_method_15_code_8) rfl rfl k) ?_
  refine Goes.via (B := T1.setTop (mkF m 11 _ [(.int (1 : Int32)), (.ref t2a), (.ref t1a)])) (fun t k => XS.iload X1.here hx rfl (hb hby own_d_jdk_43_method_15_code_9) rfl k) ?_
  obtain ⟨_, T2, L2, X2, ⟨r2, rfl, M2, K2, p2_0⟩, st2⟩ := callStatic X1 hx hZ hown (own_hw hw 74 rfl) (own_hw hw 75 rfl) (own_hw hw 76 rfl) (own_hw hw 77 rfl) (by decide) (argsL := [(.ref t1a), (.ref t2a), (.int (1 : Int32))]) (rest := []) (own_m39 l Z a0 hw [] t1a k1a t2a k2a cc0 cc1 dd0 dd1 h0 n0 O0 F_1 F_2) K1 (lenOf own_pd9 rfl) (pc := 11) (Ls := #[rv t1a, rv t2a, iv (1 : Int32), iv (1 : Int32), iv (1 : Int32), u_]) (st := [(.int (1 : Int32)), (.ref t2a), (.ref t1a)]) rfl (by rw [hml]; rfl) (hb hby own_d_jdk_43_method_15_code_11) (W := 0) (Nat.le_of_eq rfl) (by decide) (by decide) (by decide) (by decide)
  have N2 := Fr.app N1 M2
  refine Goes.via (B := T2.setTop (mkF m 14 #[rv t1a, rv t2a, iv (1 : Int32), iv (1 : Int32), iv (1 : Int32), u_] [(.int r2)])) (fun t k => st2 _ k) ?_
  by_cases hbq0 : cc0.toInt8.toInt32 = dd0.toInt8.toInt32
  · have eq0 : cc0 = dd0 := own_bi hcc0 hdd0 hbq0
    rw [if_pos hbq0] at p2_0
    subst p2_0
    refine Goes.via (B := T2.setTop (mkF m 16 _ [])) (fun t k => XS.istore X2.here hx rfl (hb hby own_d_jdk_43_method_15_code_14) rfl (l' := #[rv t1a, rv t2a, iv (1 : Int32), iv (1 : Int32), iv (1 : Int32), iv (-1 : Int32)]) rfl k) ?_
    refine Goes.via (B := T2.setTop (mkF m 18 _ [(.int (-1 : Int32))])) (fun t k => XS.iload X2.here hx rfl (hb hby own_d_jdk_43_method_15_code_16) rfl k) ?_
    refine Goes.via (B := T2.setTop (mkF m 21 _ [])) (fun t k => XS.ifNo X2.here hx rfl (hb hby own_d_jdk_43_method_15_code_18) rfl (XT.i0_ge_f (by decide)) k) ?_
    refine Goes.via (B := T2.setTop (mkF m 22 _ [(.int (1 : Int32))])) (fun t k => XS.iloadN X2.here hx rfl (hb hby own_d_jdk_43_method_15_code_21) rfl k) ?_
    refine Goes.via (B := T2.setTop (mkF m 23 _ [(.int (1 : Int32)), (.int (1 : Int32))])) (fun t k => XS.iloadN X2.here hx rfl (hb hby own_d_jdk_43_method_15_code_22) rfl k) ?_
    refine Goes.via (B := T2.setTop (mkF m 24 _ [(.int ((1 : Int32) - (1 : Int32)))])) (fun t k => XS.isub X2.here hx rfl (hb hby own_d_jdk_43_method_15_code_23) rfl k) ?_
    refine Goes.via (B := T2.setTop (mkF m 40 _ [(.int ((1 : Int32) - (1 : Int32)))])) (fun t k => XS.goto X2.here hx rfl (pc0 := 24) (pc' := 40) rfl (hb hby own_d_jdk_43_method_15_code_24) (by decide) (by decide) k) ?_
    exact finI (Q := (own_Q40 Z t1a k1a t2a k2a cc0 cc1 dd0 dd1 h0 n0)) (F := FrameEnd) (C := ((Rm 1 0 0 15)).cells) (S := ((Rm 1 0 0 15)).slots) X2 hx Bd.returns (hb hby own_d_jdk_43_method_15_code_40) K2 ⟨((1 : Int32) - (1 : Int32)), rfl, N2, rfl, (by simp [own_lex, eq0])⟩ (lvN X2 hlk (by decide) (by decide))
  · have nq0 : ¬ cc0 = dd0 := fun z => hbq0 (by rw [z])
    rw [if_neg hbq0] at p2_0
    subst p2_0
    refine Goes.via (B := T2.setTop (mkF m 16 _ [])) (fun t k => XS.istore X2.here hx rfl (hb hby own_d_jdk_43_method_15_code_14) rfl (l' := #[rv t1a, rv t2a, iv (1 : Int32), iv (1 : Int32), iv (1 : Int32), iv (0 : Int32)]) rfl k) ?_
    refine Goes.via (B := T2.setTop (mkF m 18 _ [(.int (0 : Int32))])) (fun t k => XS.iload X2.here hx rfl (hb hby own_d_jdk_43_method_15_code_16) rfl k) ?_
    refine Goes.via (B := T2.setTop (mkF m 27 _ [])) (fun t k => XS.ifYes X2.here hx rfl (pc0 := 18) (pc' := 27) rfl (hb hby own_d_jdk_43_method_15_code_18) rfl (XT.i0_ge_t (by decide)) (by decide) (by decide) k) ?_
    refine Goes.via (B := T2.setTop (mkF m 28 _ [(.ref t1a)])) (fun t k => XS.aloadN X2.here hx rfl (hb hby own_d_jdk_43_method_15_code_27) rfl rfl k) ?_
    refine Goes.via (B := T2.setTop (mkF m 30 _ [(.int (0 : Int32)), (.ref t1a)])) (fun t k => XS.iload X2.here hx rfl (hb hby own_d_jdk_43_method_15_code_28) rfl k) ?_
    obtain ⟨_, T3, L3, X3, ⟨rfl, M3, K3⟩, st3⟩ := callStatic X2 hx hZ hown (own_hw hw 111 rfl) (own_hw hw 112 rfl) (own_hw hw 65 rfl) (own_hw hw 113 rfl) (by decide) (argsL := [(.ref t1a), (.int (0 : Int32))]) (rest := []) (own_m16 l Z a0 hw [] t1a k1a cc0 cc1 h0 n0 O0 hcc0 F_1) K2 (lenOf own_pd15 rfl) (pc := 30) (Ls := #[rv t1a, rv t2a, iv (1 : Int32), iv (1 : Int32), iv (1 : Int32), iv (0 : Int32)]) (st := [(.int (0 : Int32)), (.ref t1a)]) rfl (by rw [hml]; rfl) (hb hby own_d_jdk_43_method_15_code_30) (W := 0) (Nat.le_of_eq rfl) (by decide) (by decide) (by decide) (by decide)
    have N3 := Fr.app N2 M3
    refine Goes.via (B := T3.setTop (mkF m 33 #[rv t1a, rv t2a, iv (1 : Int32), iv (1 : Int32), iv (1 : Int32), iv (0 : Int32)] [(.int cc0)])) (fun t k => st3 _ k) ?_
    refine Goes.via (B := T3.setTop (mkF m 34 _ [(.ref t2a), (.int cc0)])) (fun t k => XS.aloadN X3.here hx rfl (hb hby own_d_jdk_43_method_15_code_33) rfl rfl k) ?_
    refine Goes.via (B := T3.setTop (mkF m 36 _ [(.int (0 : Int32)), (.ref t2a), (.int cc0)])) (fun t k => XS.iload X3.here hx rfl (hb hby own_d_jdk_43_method_15_code_34) rfl k) ?_
    obtain ⟨_, T4, L4, X4, ⟨rfl, M4, K4⟩, st4⟩ := callStatic X3 hx hZ hown (own_hw hw 111 rfl) (own_hw hw 112 rfl) (own_hw hw 65 rfl) (own_hw hw 113 rfl) (by decide) (argsL := [(.ref t2a), (.int (0 : Int32))]) (rest := [(.int cc0)]) (own_m16 l Z a0 hw [] t2a k2a dd0 dd1 h0 n0 O0 hdd0 F_2) K3 (lenOf own_pd15 rfl) (pc := 36) (Ls := #[rv t1a, rv t2a, iv (1 : Int32), iv (1 : Int32), iv (1 : Int32), iv (0 : Int32)]) (st := [(.int (0 : Int32)), (.ref t2a), (.int cc0)]) rfl (by rw [hml]; rfl) (hb hby own_d_jdk_43_method_15_code_36) (W := 1) (Nat.le_of_eq rfl) (by decide) (by decide) (by decide) (by decide)
    have N4 := Fr.app N3 M4
    refine Goes.via (B := T4.setTop (mkF m 39 #[rv t1a, rv t2a, iv (1 : Int32), iv (1 : Int32), iv (1 : Int32), iv (0 : Int32)] [(.int dd0), (.int cc0)])) (fun t k => st4 _ k) ?_
    refine Goes.via (B := T4.setTop (mkF m 40 _ [(.int (cc0 - dd0))])) (fun t k => XS.isub X4.here hx rfl (hb hby own_d_jdk_43_method_15_code_39) rfl k) ?_
    exact finI (Q := (own_Q40 Z t1a k1a t2a k2a cc0 cc1 dd0 dd1 h0 n0)) (F := FrameEnd) (C := ((Rm 1 0 0 15)).cells) (S := ((Rm 1 0 0 15)).slots) X4 hx Bd.returns (hb hby own_d_jdk_43_method_15_code_40) K4 ⟨(cc0 - dd0), rfl, N4, rfl, (by rw [own_sub hcc0 hdd0 nq0]; simp [own_lex, nq0])⟩ (lvN X4 hlk (by decide) (by decide))
theorem own_ef41 (m : MethodId) (x0 : Addr) (x1 : Addr)  : entryFrame m #[(.ref x0), (.ref x1)] 4 = mkF m 0 #[rv x0, rv x1, u_, u_] [] := by first | (simp [entryFrame, mkF, argsToLocals, Value.category]; done) | rfl
abbrev own_Q41 (Z : State) (t1a : Addr) (k1a : ClassId) (t2a : Addr) (k2a : ClassId) (cc0 : Int32) (cc1 : Int32) (dd0 : Int32) (dd1 : Int32) (h0 : Heap) (n0 : Nat) (v : Option Value) (h : Heap) (L : List Loc) : Prop := ∃ r : Int32, v = some (.int r) ∧ Fr n0 L ∧ h = h0 ∧ own_sg r = own_lex (1 : Int32) cc0 cc1 (1 : Int32) dd0 dd1
set_option maxRecDepth 65536 in
set_option maxHeartbeats 40000000 in
theorem own_m41 (l : Launch) (Z : State) (a0 : Array Value) (hw : ∀ d ∈ tables_1, d.before a0 Z = true) (ws : List Jvm.Cond) (t1a : Addr) (k1a : ClassId) (t2a : Addr) (k2a : ClassId) (cc0 : Int32) (cc1 : Int32) (dd0 : Int32) (dd1 : Int32) (h0 : Heap) (n0 : Nat) (O0 : Old Z n0 h0) (hcc0 : ¬ cc0 < (0 : Int32) ∧ ¬ (255 : Int32) < cc0) (hcc1 : ¬ cc1 < (0 : Int32) ∧ ¬ (255 : Int32) < cc1) (hdd0 : ¬ dd0 < (0 : Int32) ∧ ¬ (255 : Int32) < dd0) (hdd1 : ¬ dd1 < (0 : Int32) ∧ ¬ (255 : Int32) < dd1) (F_1 : Arv Z h0 t1a k1a .byte (1 : Int32) [(.int cc0.toInt8.toInt32)] (.int (0 : Int32))) (F_2 : Arv Z h0 t2a k2a .byte (1 : Int32) [(.int dd0.toInt8.toInt32)] (.int (0 : Int32))) :
    Ctr l Z (⟨"java/lang/StringLatin1", "compareTo", "([B[B)I"⟩ : MethodName) jdk_43_method_14_code 4 (some .int) (Rm 2 0 0 32) #[(.ref t1a), (.ref t2a)] h0 (own_Q41 Z t1a k1a t2a k2a cc0 cc1 dd0 dd1 h0 n0) ws := by
  refine MetFree.of_bodySF (plainFor_of_name own_pn0) hisR ?_
  intro p e s m args below meth c s₁ Bd hml0 hP hK
  obtain ⟨rfl, hZ, hh⟩ := hP
  have hx := Bd.exec
  have hby := Bd.bytes
  have hlk : meth.locks = false := Bd.notSynchronized
  have hml : c.maxLocals = 4 := hml0
  have hown : s.vm.findClass "java/lang/StringLatin1" = some m.cls := findClass_of_methodNamed Bd.named
  have hnm := (name_of_methodNamed Bd.named Bd.method).1
  have X0 : Stand p l e (Rm 2 0 0 32) s m #[(.ref t1a), (.ref t2a)] below meth c s₁ [] 0 0 := Stand.of_body Bd
  have e0 : s₁.heap = h0 := by rw [← hh, Bd.state]; rfl
  have N0 := Fr.nil n0
  show Goes p.tables e below (fun t o => ∃ v L, o = .returned v ∧ (own_Q41 Z t1a k1a t2a k2a cc0 cc1 dd0 dd1 h0 n0) v t.heap L ∧ FrameEnd s o t L ((Rm 2 0 0 32)).cells ((Rm 2 0 0 32)).slots) _
  refine Goes.via (B := s₁.setTop (mkF m 0 #[rv t1a, rv t2a, u_, u_] [])) (fun t k => castTop (own_ef41 m t1a t2a) k) ?_
  refine Goes.via (B := s₁.setTop (mkF m 1 _ [(.ref t1a)])) (fun t k => XS.aloadN X0.here hx rfl (hb hby own_d_jdk_43_method_14_code_0) rfl rfl k) ?_
  obtain ⟨cl1, Ar1, q1, S1, N1, H1, G1⟩ := id F_1
  refine Goes.via (B := s₁.setTop (mkF m 2 #[rv t1a, rv t2a, u_, u_] [(.int (1 : Int32))])) (fun t k => X0.arraylength hx (by rw [e0]; exact Ar1.1) (State.isArrayOf_alike hZ.alike Ar1.2.1) (g := (mkF m 1 #[rv t1a, rv t2a, u_, u_] [(.ref t1a)])) rfl rfl (hb hby own_d_jdk_43_method_14_code_1) t (by rw [(len_of S1 N1)]; exact k)) ?_
  refine Goes.via (B := s₁.setTop (mkF m 3 _ [])) (fun t k => XS.istoreN X0.here hx rfl (hb hby own_d_jdk_43_method_14_code_2) rfl (l' := #[rv t1a, rv t2a, iv (1 : Int32), u_]) rfl k) ?_
  refine Goes.via (B := s₁.setTop (mkF m 4 _ [(.ref t2a)])) (fun t k => XS.aloadN X0.here hx rfl (hb hby own_d_jdk_43_method_14_code_3) rfl rfl k) ?_
  obtain ⟨cl2, Ar2, q2, S2, N2, H2, G2⟩ := id F_2
  refine Goes.via (B := s₁.setTop (mkF m 5 #[rv t1a, rv t2a, iv (1 : Int32), u_] [(.int (1 : Int32))])) (fun t k => X0.arraylength hx (by rw [e0]; exact Ar2.1) (State.isArrayOf_alike hZ.alike Ar2.2.1) (g := (mkF m 4 #[rv t1a, rv t2a, iv (1 : Int32), u_] [(.ref t2a)])) rfl rfl (hb hby own_d_jdk_43_method_14_code_4) t (by rw [(len_of S2 N2)]; exact k)) ?_
  refine Goes.via (B := s₁.setTop (mkF m 6 _ [])) (fun t k => XS.istoreN X0.here hx rfl (hb hby own_d_jdk_43_method_14_code_5) rfl (l' := #[rv t1a, rv t2a, iv (1 : Int32), iv (1 : Int32)]) rfl k) ?_
  refine Goes.via (B := s₁.setTop (mkF m 7 _ [(.ref t1a)])) (fun t k => XS.aloadN X0.here hx rfl (hb hby own_d_jdk_43_method_14_code_6) rfl rfl k) ?_
  refine Goes.via (B := s₁.setTop (mkF m 8 _ [(.ref t2a), (.ref t1a)])) (fun t k => XS.aloadN X0.here hx rfl (hb hby own_d_jdk_43_method_14_code_7) rfl rfl k) ?_
  refine Goes.via (B := s₁.setTop (mkF m 9 _ [(.int (1 : Int32)), (.ref t2a), (.ref t1a)])) (fun t k => XS.iloadN X0.here hx rfl (hb hby own_d_jdk_43_method_14_code_8) rfl k) ?_
  refine Goes.via (B := s₁.setTop (mkF m 10 _ [(.int (1 : Int32)), (.int (1 : Int32)), (.ref t2a), (.ref t1a)])) (fun t k => XS.iloadN X0.here hx rfl (hb hby own_d_jdk_43_method_14_code_9) rfl k) ?_
  obtain ⟨_, T3, L3, X3, ⟨r3, rfl, M3, K3, p3_0⟩, st3⟩ := callStatic X0 hx hZ hown (own_hw hw 67 rfl) (own_hw hw 68 rfl) (own_hw hw 65 rfl) (own_hw hw 69 rfl) (by decide) (argsL := [(.ref t1a), (.ref t2a), (.int (1 : Int32)), (.int (1 : Int32))]) (rest := []) (own_m40 l Z a0 hw [] t1a k1a t2a k2a cc0 cc1 dd0 dd1 h0 n0 O0 hcc0 hcc1 hdd0 hdd1 F_1 F_2) e0 (lenOf own_pd10 rfl) (pc := 10) (Ls := #[rv t1a, rv t2a, iv (1 : Int32), iv (1 : Int32)]) (st := [(.int (1 : Int32)), (.int (1 : Int32)), (.ref t2a), (.ref t1a)]) rfl (by rw [hml]; rfl) (hb hby own_d_jdk_43_method_14_code_10) (W := 0) (Nat.le_of_eq rfl) (by decide) (by decide) (by decide) (by decide)
  have N3 := Fr.app N0 M3
  refine Goes.via (B := T3.setTop (mkF m 13 #[rv t1a, rv t2a, iv (1 : Int32), iv (1 : Int32)] [(.int r3)])) (fun t k => st3 _ k) ?_
  exact finI (Q := (own_Q41 Z t1a k1a t2a k2a cc0 cc1 dd0 dd1 h0 n0)) (F := FrameEnd) (C := ((Rm 2 0 0 32)).cells) (S := ((Rm 2 0 0 32)).slots) X3 hx Bd.returns (hb hby own_d_jdk_43_method_14_code_13) K3 ⟨r3, rfl, N3, rfl, p3_0⟩ (lvN X3 hlk (by decide) (by decide))
theorem own_ef42 (m : MethodId) (x0 : Addr) (x1 : Addr)  : entryFrame m #[(.ref x0), (.ref x1)] 5 = mkF m 0 #[rv x0, rv x1, u_, u_, u_] [] := by first | (simp [entryFrame, mkF, argsToLocals, Value.category]; done) | rfl
abbrev own_Q42 (Z : State) (a1 : Addr) (a2 : Addr) (z0 : Int32) (t1a : Addr) (k1a : ClassId) (t2a : Addr) (k2a : ClassId) (cc0 : Int32) (cc1 : Int32) (dd0 : Int32) (dd1 : Int32) (h0 : Heap) (n0 : Nat) (v : Option Value) (h : Heap) (L : List Loc) : Prop := ∃ r : Int32, v = some (.int r) ∧ Fr n0 L ∧ h = h0 ∧ own_sg r = own_lex (1 : Int32) cc0 cc1 (1 : Int32) dd0 dd1
set_option maxRecDepth 65536 in
set_option maxHeartbeats 40000000 in
theorem own_m42 (l : Launch) (Z : State) (a0 : Array Value) (hw : ∀ d ∈ tables_1, d.before a0 Z = true) (ws : List Jvm.Cond) (a1 : Addr) (a2 : Addr) (z0 : Int32) (t1a : Addr) (k1a : ClassId) (t2a : Addr) (k2a : ClassId) (cc0 : Int32) (cc1 : Int32) (dd0 : Int32) (dd1 : Int32) (h0 : Heap) (n0 : Nat) (O0 : Old Z n0 h0) (hz0 : ¬ z0 = (0 : Int32)) (hcc0 : ¬ cc0 < (0 : Int32) ∧ ¬ (255 : Int32) < cc0) (hcc1 : ¬ cc1 < (0 : Int32) ∧ ¬ (255 : Int32) < cc1) (hdd0 : ¬ dd0 < (0 : Int32) ∧ ¬ (255 : Int32) < dd0) (hdd1 : ¬ dd1 < (0 : Int32) ∧ ¬ (255 : Int32) < dd1) (O_1 : Sta Z Z.heap "java/lang/String" "COMPACT_STRINGS" "Z" (.int z0)) (F_1 : Exa Z h0 a1 "java/lang/String") (F_2 : Fld Z h0 a1 "java/lang/String" "value" "[B" (.ref t1a)) (F_3 : Fld Z h0 a1 "java/lang/String" "coder" "B" (.int (0 : Int32))) (F_4 : Exa Z h0 a2 "java/lang/String") (F_5 : Fld Z h0 a2 "java/lang/String" "value" "[B" (.ref t2a)) (F_6 : Fld Z h0 a2 "java/lang/String" "coder" "B" (.int (0 : Int32))) (F_7 : Arv Z h0 t1a k1a .byte (1 : Int32) [(.int cc0.toInt8.toInt32)] (.int (0 : Int32))) (F_8 : Arv Z h0 t2a k2a .byte (1 : Int32) [(.int dd0.toInt8.toInt32)] (.int (0 : Int32))) :
    Ctr l Z (⟨"java/lang/String", "compareTo", "(Ljava/lang/String;)I"⟩ : MethodName) jdk_42_method_71_code 5 (some .int) (Rm 3 0 0 47) #[(.ref a1), (.ref a2)] h0 (own_Q42 Z a1 a2 z0 t1a k1a t2a k2a cc0 cc1 dd0 dd1 h0 n0) ws := by
  refine MetFree.of_bodySF (plainFor_of_name own_pn1) hisR ?_
  intro p e s m args below meth c s₁ Bd hml0 hP hK
  obtain ⟨rfl, hZ, hh⟩ := hP
  have hx := Bd.exec
  have hby := Bd.bytes
  have hlk : meth.locks = false := Bd.notSynchronized
  have hml : c.maxLocals = 5 := hml0
  have hown : s.vm.findClass "java/lang/String" = some m.cls := findClass_of_methodNamed Bd.named
  have hnm := (name_of_methodNamed Bd.named Bd.method).1
  have X0 : Stand p l e (Rm 3 0 0 47) s m #[(.ref a1), (.ref a2)] below meth c s₁ [] 0 0 := Stand.of_body Bd
  have e0 : s₁.heap = h0 := by rw [← hh, Bd.state]; rfl
  have N0 := Fr.nil n0
  show Goes p.tables e below (fun t o => ∃ v L, o = .returned v ∧ (own_Q42 Z a1 a2 z0 t1a k1a t2a k2a cc0 cc1 dd0 dd1 h0 n0) v t.heap L ∧ FrameEnd s o t L ((Rm 3 0 0 47)).cells ((Rm 3 0 0 47)).slots) _
  refine Goes.via (B := s₁.setTop (mkF m 0 #[rv a1, rv a2, u_, u_, u_] [])) (fun t k => castTop (own_ef42 m a1 a2) k) ?_
  refine Goes.via (B := s₁.setTop (mkF m 1 _ [(.ref a1)])) (fun t k => XS.aloadN X0.here hx rfl (hb hby own_d_jdk_42_method_71_code_0) rfl rfl k) ?_
  obtain ⟨T1, X1, e1, st1⟩ := getF X0 hx hZ hown (host := "") (Or.inl (own_hw hw 55 rfl)) Via.refl e0 F_2 (g := (mkF m 1 #[rv a1, rv a2, u_, u_, u_] [(.ref a1)])) rfl rfl (hb hby own_d_jdk_42_method_71_code_1)
  refine Goes.via (B := T1.setTop (mkF m 4 #[rv a1, rv a2, u_, u_, u_] [(.ref t1a)])) (fun t k => st1 _ k) ?_
  refine Goes.via (B := T1.setTop (mkF m 5 _ [])) (fun t k => XS.astoreN X1.here hx rfl (hb hby own_d_jdk_42_method_71_code_4) rfl rfl (l' := #[rv a1, rv a2, rv t1a, u_, u_]) rfl k) ?_
  refine Goes.via (B := T1.setTop (mkF m 6 _ [(.ref a2)])) (fun t k => XS.aloadN X1.here hx rfl (hb hby own_d_jdk_42_method_71_code_5) rfl rfl k) ?_
  obtain ⟨T2, X2, e2, st2⟩ := getF X1 hx hZ hown (host := "") (Or.inl (own_hw hw 55 rfl)) Via.refl e1 F_5 (g := (mkF m 6 #[rv a1, rv a2, rv t1a, u_, u_] [(.ref a2)])) rfl rfl (hb hby own_d_jdk_42_method_71_code_6)
  refine Goes.via (B := T2.setTop (mkF m 9 #[rv a1, rv a2, rv t1a, u_, u_] [(.ref t2a)])) (fun t k => st2 _ k) ?_
  refine Goes.via (B := T2.setTop (mkF m 10 _ [])) (fun t k => XS.astoreN X2.here hx rfl (hb hby own_d_jdk_42_method_71_code_9) rfl rfl (l' := #[rv a1, rv a2, rv t1a, rv t2a, u_]) rfl k) ?_
  refine Goes.via (B := T2.setTop (mkF m 11 _ [(.ref a1)])) (fun t k => XS.aloadN X2.here hx rfl (hb hby own_d_jdk_42_method_71_code_10) rfl rfl k) ?_
  obtain ⟨_, T3, L3, X3, ⟨rfl, M3, K3⟩, st3⟩ := callVirt X2 hx hZ hown (own_hw hw 56 rfl) (own_hw hw 57 rfl) (own_hw hw 59 rfl) (notFace_of_selects (args := #[]) (mvT hZ (own_hw hw 59 rfl))) (own_hw hw 58 rfl) (own_hw hw 5 rfl) (own_hw hw 60 rfl) (by decide) (argsL := []) (rest := []) (own_m15 l Z a0 hw [] a1 z0 h0 n0 O0 hz0 O_1 F_3) e2 F_1 (lenOf own_pd11 rfl) (pc := 11) (Ls := #[rv a1, rv a2, rv t1a, rv t2a, u_]) (st := [(.ref a1)]) rfl (by rw [hml]; rfl) (hb hby own_d_jdk_42_method_71_code_11) (W := 0) (Nat.le_of_eq rfl) (by decide) (by decide) (by decide) (by decide)
  have N3 := Fr.app N0 M3
  refine Goes.via (B := T3.setTop (mkF m 14 #[rv a1, rv a2, rv t1a, rv t2a, u_] [(.int (0 : Int32))])) (fun t k => st3 _ k) ?_
  refine Goes.via (B := T3.setTop (mkF m 16 _ [])) (fun t k => XS.istore X3.here hx rfl (hb hby own_d_jdk_42_method_71_code_14) rfl (l' := #[rv a1, rv a2, rv t1a, rv t2a, iv (0 : Int32)]) rfl k) ?_
  refine Goes.via (B := T3.setTop (mkF m 18 _ [(.int (0 : Int32))])) (fun t k => XS.iload X3.here hx rfl (hb hby own_d_jdk_42_method_71_code_16) rfl k) ?_
  refine Goes.via (B := T3.setTop (mkF m 19 _ [(.ref a2), (.int (0 : Int32))])) (fun t k => XS.aloadN X3.here hx rfl (hb hby own_d_jdk_42_method_71_code_18) rfl rfl k) ?_
  obtain ⟨_, T4, L4, X4, ⟨rfl, M4, K4⟩, st4⟩ := callVirt X3 hx hZ hown (own_hw hw 56 rfl) (own_hw hw 57 rfl) (own_hw hw 59 rfl) (notFace_of_selects (args := #[]) (mvT hZ (own_hw hw 59 rfl))) (own_hw hw 58 rfl) (own_hw hw 5 rfl) (own_hw hw 60 rfl) (by decide) (argsL := []) (rest := [(.int (0 : Int32))]) (own_m15 l Z a0 hw [] a2 z0 h0 n0 O0 hz0 O_1 F_6) K3 F_4 (lenOf own_pd11 rfl) (pc := 19) (Ls := #[rv a1, rv a2, rv t1a, rv t2a, iv (0 : Int32)]) (st := [(.ref a2), (.int (0 : Int32))]) rfl (by rw [hml]; rfl) (hb hby own_d_jdk_42_method_71_code_19) (W := 1) (Nat.le_of_eq rfl) (by decide) (by decide) (by decide) (by decide)
  have N4 := Fr.app N3 M4
  refine Goes.via (B := T4.setTop (mkF m 22 #[rv a1, rv a2, rv t1a, rv t2a, iv (0 : Int32)] [(.int (0 : Int32)), (.int (0 : Int32))])) (fun t k => st4 _ k) ?_
  refine Goes.via (B := T4.setTop (mkF m 25 _ [])) (fun t k => XS.icmpNo X4.here hx rfl (hb hby own_d_jdk_42_method_71_code_22) rfl (XT.ii_ne_f rfl) k) ?_
  refine Goes.via (B := T4.setTop (mkF m 27 _ [(.int (0 : Int32))])) (fun t k => XS.iload X4.here hx rfl (hb hby own_d_jdk_42_method_71_code_25) rfl k) ?_
  refine Goes.via (B := T4.setTop (mkF m 30 _ [])) (fun t k => XS.ifNo X4.here hx rfl (hb hby own_d_jdk_42_method_71_code_27) rfl (XT.i0_ne_f rfl) k) ?_
  refine Goes.via (B := T4.setTop (mkF m 31 _ [(.ref t1a)])) (fun t k => XS.aloadN X4.here hx rfl (hb hby own_d_jdk_42_method_71_code_30) rfl rfl k) ?_
  refine Goes.via (B := T4.setTop (mkF m 32 _ [(.ref t2a), (.ref t1a)])) (fun t k => XS.aloadN X4.here hx rfl (hb hby own_d_jdk_42_method_71_code_31) rfl rfl k) ?_
  obtain ⟨_, T5, L5, X5, ⟨r5, rfl, M5, K5, p5_0⟩, st5⟩ := callStatic X4 hx hZ hown (own_hw hw 63 rfl) (own_hw hw 64 rfl) (own_hw hw 65 rfl) (own_hw hw 66 rfl) (by decide) (argsL := [(.ref t1a), (.ref t2a)]) (rest := []) (own_m41 l Z a0 hw [] t1a k1a t2a k2a cc0 cc1 dd0 dd1 h0 n0 O0 hcc0 hcc1 hdd0 hdd1 F_7 F_8) K4 (lenOf own_pd12 rfl) (pc := 32) (Ls := #[rv a1, rv a2, rv t1a, rv t2a, iv (0 : Int32)]) (st := [(.ref t2a), (.ref t1a)]) rfl (by rw [hml]; rfl) (hb hby own_d_jdk_42_method_71_code_32) (W := 0) (Nat.le_of_eq rfl) (by decide) (by decide) (by decide) (by decide)
  have N5 := Fr.app N4 M5
  refine Goes.via (B := T5.setTop (mkF m 35 #[rv a1, rv a2, rv t1a, rv t2a, iv (0 : Int32)] [(.int r5)])) (fun t k => st5 _ k) ?_
  refine Goes.via (B := T5.setTop (mkF m 43 _ [(.int r5)])) (fun t k => XS.goto X5.here hx rfl (pc0 := 35) (pc' := 43) rfl (hb hby own_d_jdk_42_method_71_code_35) (by decide) (by decide) k) ?_
  exact finI (Q := (own_Q42 Z a1 a2 z0 t1a k1a t2a k2a cc0 cc1 dd0 dd1 h0 n0)) (F := FrameEnd) (C := ((Rm 3 0 0 47)).cells) (S := ((Rm 3 0 0 47)).slots) X5 hx Bd.returns (hb hby own_d_jdk_42_method_71_code_43) K5 ⟨r5, rfl, N5, rfl, p5_0⟩ (lvN X5 hlk (by decide) (by decide))
theorem own_ef43 (m : MethodId) (x0 : Addr) (x1 : Addr)  : entryFrame m #[(.ref x0), (.ref x1)] 3 = mkF m 0 #[rv x0, rv x1, u_] [] := by first | (simp [entryFrame, mkF, argsToLocals, Value.category]; done) | rfl
abbrev own_Q43 (Z : State) (a1 : Addr) (a2 : Addr) (x1 : Int64) (x2 : Int64) (s1a : Addr) (s2a : Addr) (z0 : Int32) (t1a : Addr) (k1a : ClassId) (t2a : Addr) (k2a : ClassId) (cc0 : Int32) (cc1 : Int32) (dd0 : Int32) (dd1 : Int32) (h0 : Heap) (n0 : Nat) (v : Option Value) (h : Heap) (L : List Loc) : Prop := ∃ r : Int32, v = some (.int r) ∧ Fr n0 L ∧ h = h0 ∧ own_sg r = own_exp x1 x2 (1 : Int32) cc0 cc1 (1 : Int32) dd0 dd1
set_option maxRecDepth 65536 in
set_option maxHeartbeats 40000000 in
theorem own_m43 (l : Launch) (Z : State) (a0 : Array Value) (hw : ∀ d ∈ tables_1, d.before a0 Z = true) (ws : List Jvm.Cond) (a1 : Addr) (a2 : Addr) (x1 : Int64) (x2 : Int64) (s1a : Addr) (s2a : Addr) (z0 : Int32) (t1a : Addr) (k1a : ClassId) (t2a : Addr) (k2a : ClassId) (cc0 : Int32) (cc1 : Int32) (dd0 : Int32) (dd1 : Int32) (h0 : Heap) (n0 : Nat) (O0 : Old Z n0 h0) (hz0 : ¬ z0 = (0 : Int32)) (hcc0 : ¬ cc0 < (0 : Int32) ∧ ¬ (255 : Int32) < cc0) (hcc1 : ¬ cc1 < (0 : Int32) ∧ ¬ (255 : Int32) < cc1) (hdd0 : ¬ dd0 < (0 : Int32) ∧ ¬ (255 : Int32) < dd0) (hdd1 : ¬ dd1 < (0 : Int32) ∧ ¬ (255 : Int32) < dd1) (O_1 : Sta Z Z.heap "java/lang/String" "COMPACT_STRINGS" "Z" (.int z0)) (F_1 : Exa Z h0 a1 "com/example/keelson/keelson/cluster/Ballot") (F_2 : Fld Z h0 a1 "com/example/keelson/keelson/cluster/Ballot" "round" "J" (.long x1)) (F_3 : Fld Z h0 a1 "com/example/keelson/keelson/cluster/Ballot" "proposer" "Ljava/lang/String;" (.ref s1a)) (F_4 : Exa Z h0 a2 "com/example/keelson/keelson/cluster/Ballot") (F_5 : Fld Z h0 a2 "com/example/keelson/keelson/cluster/Ballot" "round" "J" (.long x2)) (F_6 : Fld Z h0 a2 "com/example/keelson/keelson/cluster/Ballot" "proposer" "Ljava/lang/String;" (.ref s2a)) (F_7 : Exa Z h0 s1a "java/lang/String") (F_8 : Fld Z h0 s1a "java/lang/String" "value" "[B" (.ref t1a)) (F_9 : Fld Z h0 s1a "java/lang/String" "coder" "B" (.int (0 : Int32))) (F_10 : Exa Z h0 s2a "java/lang/String") (F_11 : Fld Z h0 s2a "java/lang/String" "value" "[B" (.ref t2a)) (F_12 : Fld Z h0 s2a "java/lang/String" "coder" "B" (.int (0 : Int32))) (F_13 : Arv Z h0 t1a k1a .byte (1 : Int32) [(.int cc0.toInt8.toInt32)] (.int (0 : Int32))) (F_14 : Arv Z h0 t2a k2a .byte (1 : Int32) [(.int dd0.toInt8.toInt32)] (.int (0 : Int32))) :
    Ctr l Z (⟨"com/example/keelson/keelson/cluster/Ballot", "compareTo", "(Lcom/example/keelson/keelson/cluster/Ballot;)I"⟩ : MethodName) prog_19_method_2_code 3 (some .int) (Rm 4 0 0 63) #[(.ref a1), (.ref a2)] h0 (own_Q43 Z a1 a2 x1 x2 s1a s2a z0 t1a k1a t2a k2a cc0 cc1 dd0 dd1 h0 n0) ws := by
  refine MetFree.of_bodySF (plainFor_of_name own_pn5) hisR ?_
  intro p e s m args below meth c s₁ Bd hml0 hP hK
  obtain ⟨rfl, hZ, hh⟩ := hP
  have hx := Bd.exec
  have hby := Bd.bytes
  have hlk : meth.locks = false := Bd.notSynchronized
  have hml : c.maxLocals = 3 := hml0
  have hown : s.vm.findClass "com/example/keelson/keelson/cluster/Ballot" = some m.cls := findClass_of_methodNamed Bd.named
  have hnm := (name_of_methodNamed Bd.named Bd.method).1
  have X0 : Stand p l e (Rm 4 0 0 63) s m #[(.ref a1), (.ref a2)] below meth c s₁ [] 0 0 := Stand.of_body Bd
  have e0 : s₁.heap = h0 := by rw [← hh, Bd.state]; rfl
  have N0 := Fr.nil n0
  show Goes p.tables e below (fun t o => ∃ v L, o = .returned v ∧ (own_Q43 Z a1 a2 x1 x2 s1a s2a z0 t1a k1a t2a k2a cc0 cc1 dd0 dd1 h0 n0) v t.heap L ∧ FrameEnd s o t L ((Rm 4 0 0 63)).cells ((Rm 4 0 0 63)).slots) _
  refine Goes.via (B := s₁.setTop (mkF m 0 #[rv a1, rv a2, u_] [])) (fun t k => castTop (own_ef43 m a1 a2) k) ?_
  refine Goes.via (B := s₁.setTop (mkF m 1 _ [(.ref a1)])) (fun t k => XS.aloadN X0.here hx rfl (hb hby own_d_prog_19_method_2_code_0) rfl rfl k) ?_
  obtain ⟨T1, X1, e1, st1⟩ := getF X0 hx hZ hown (host := "") (Or.inl (own_hw hw 31 rfl)) Via.refl e0 F_2 (g := (mkF m 1 #[rv a1, rv a2, u_] [(.ref a1)])) rfl rfl (hb hby own_d_prog_19_method_2_code_1)
  refine Goes.via (B := T1.setTop (mkF m 4 #[rv a1, rv a2, u_] [(.long x1)])) (fun t k => st1 _ k) ?_
  refine Goes.via (B := T1.setTop (mkF m 5 _ [(.ref a2), (.long x1)])) (fun t k => XS.aloadN X1.here hx rfl (hb hby own_d_prog_19_method_2_code_4) rfl rfl k) ?_
  obtain ⟨T2, X2, e2, st2⟩ := getF X1 hx hZ hown (host := "") (Or.inl (own_hw hw 31 rfl)) Via.refl e1 F_5 (g := (mkF m 5 #[rv a1, rv a2, u_] [(.ref a2), (.long x1)])) rfl rfl (hb hby own_d_prog_19_method_2_code_5)
  refine Goes.via (B := T2.setTop (mkF m 8 #[rv a1, rv a2, u_] [(.long x2), (.long x1)])) (fun t k => st2 _ k) ?_
  obtain ⟨_, T3, L3, X3, ⟨r3, rfl, M3, K3, p3_0⟩, st3⟩ := callStatic X2 hx hZ hown (own_hw hw 40 rfl) (own_hw hw 41 rfl) (own_hw hw 42 rfl) (own_hw hw 43 rfl) (by decide) (argsL := [(.long x1), (.long x2)]) (rest := []) (own_m11 l Z a0 hw [] x1 x2 h0 n0 O0 ) e2 (lenOf own_pd13 rfl) (pc := 8) (Ls := #[rv a1, rv a2, u_]) (st := [(.long x2), (.long x1)]) rfl (by rw [hml]; rfl) (hb hby own_d_prog_19_method_2_code_8) (W := 0) (Nat.le_of_eq rfl) (by decide) (by decide) (by decide) (by decide)
  have N3 := Fr.app N0 M3
  refine Goes.via (B := T3.setTop (mkF m 11 #[rv a1, rv a2, u_] [(.int r3)])) (fun t k => st3 _ k) ?_
  refine Goes.via (B := T3.setTop (mkF m 12 _ [])) (fun t k => XS.istoreN X3.here hx rfl (hb hby own_d_prog_19_method_2_code_11) rfl (l' := #[rv a1, rv a2, iv r3]) rfl k) ?_
  refine Goes.via (B := T3.setTop (mkF m 13 _ [(.int r3)])) (fun t k => XS.iloadN X3.here hx rfl (hb hby own_d_prog_19_method_2_code_12) rfl k) ?_
  by_cases hlt : x1 < x2
  · rw [if_pos hlt] at p3_0
    subst p3_0
    refine Goes.via (B := T3.setTop (mkF m 28 _ [])) (fun t k => XS.ifYes X3.here hx rfl (pc0 := 13) (pc' := 28) rfl (hb hby own_d_prog_19_method_2_code_13) rfl (XT.i0_ne_t (by decide)) (by decide) (by decide) k) ?_
    refine Goes.via (B := T3.setTop (mkF m 29 _ [(.int (-1 : Int32))])) (fun t k => XS.iloadN X3.here hx rfl (hb hby own_d_prog_19_method_2_code_28) rfl k) ?_
    exact finI (Q := (own_Q43 Z a1 a2 x1 x2 s1a s2a z0 t1a k1a t2a k2a cc0 cc1 dd0 dd1 h0 n0)) (F := FrameEnd) (C := ((Rm 4 0 0 63)).cells) (S := ((Rm 4 0 0 63)).slots) X3 hx Bd.returns (hb hby own_d_prog_19_method_2_code_29) K3 ⟨(-1 : Int32), rfl, N3, rfl, (by unfold own_exp; rw [if_pos hlt]; decide)⟩ (lvN X3 hlk (by decide) (by decide))
  · rw [if_neg hlt] at p3_0
    by_cases heq : x1 = x2
    · rw [if_pos heq] at p3_0
      have hng : ¬ x2 < x1 := by rw [heq]; rw [Int64.lt_iff_toInt_lt]; omega
      subst p3_0
      refine Goes.via (B := T3.setTop (mkF m 16 _ [])) (fun t k => XS.ifNo X3.here hx rfl (hb hby own_d_prog_19_method_2_code_13) rfl (XT.i0_ne_f rfl) k) ?_
      refine Goes.via (B := T3.setTop (mkF m 17 _ [(.ref a1)])) (fun t k => XS.aloadN X3.here hx rfl (hb hby own_d_prog_19_method_2_code_16) rfl rfl k) ?_
      obtain ⟨T4, X4, e4, st4⟩ := getF X3 hx hZ hown (host := "") (Or.inl (own_hw hw 33 rfl)) Via.refl K3 F_3 (g := (mkF m 17 #[rv a1, rv a2, iv (0 : Int32)] [(.ref a1)])) rfl rfl (hb hby own_d_prog_19_method_2_code_17)
      refine Goes.via (B := T4.setTop (mkF m 20 #[rv a1, rv a2, iv (0 : Int32)] [(.ref s1a)])) (fun t k => st4 _ k) ?_
      refine Goes.via (B := T4.setTop (mkF m 21 _ [(.ref a2), (.ref s1a)])) (fun t k => XS.aloadN X4.here hx rfl (hb hby own_d_prog_19_method_2_code_20) rfl rfl k) ?_
      obtain ⟨T5, X5, e5, st5⟩ := getF X4 hx hZ hown (host := "") (Or.inl (own_hw hw 33 rfl)) Via.refl e4 F_6 (g := (mkF m 21 #[rv a1, rv a2, iv (0 : Int32)] [(.ref a2), (.ref s1a)])) rfl rfl (hb hby own_d_prog_19_method_2_code_21)
      refine Goes.via (B := T5.setTop (mkF m 24 #[rv a1, rv a2, iv (0 : Int32)] [(.ref s2a), (.ref s1a)])) (fun t k => st5 _ k) ?_
      obtain ⟨_, T6, L6, X6, ⟨r6, rfl, M6, K6, p6_0⟩, st6⟩ := callVirt X5 hx hZ hown (own_hw hw 50 rfl) (own_hw hw 51 rfl) (own_hw hw 53 rfl) (notFace_of_selects (args := #[]) (mvT hZ (own_hw hw 53 rfl))) (own_hw hw 52 rfl) (own_hw hw 5 rfl) (own_hw hw 54 rfl) (by decide) (argsL := [(.ref s2a)]) (rest := []) (own_m42 l Z a0 hw [] s1a s2a z0 t1a k1a t2a k2a cc0 cc1 dd0 dd1 h0 n0 O0 hz0 hcc0 hcc1 hdd0 hdd1 O_1 F_7 F_8 F_9 F_10 F_11 F_12 F_13 F_14) e5 F_7 (lenOf own_pd14 rfl) (pc := 24) (Ls := #[rv a1, rv a2, iv (0 : Int32)]) (st := [(.ref s2a), (.ref s1a)]) rfl (by rw [hml]; rfl) (hb hby own_d_prog_19_method_2_code_24) (W := 0) (Nat.le_of_eq rfl) (by decide) (by decide) (by decide) (by decide)
      have N6 := Fr.app N3 M6
      refine Goes.via (B := T6.setTop (mkF m 27 #[rv a1, rv a2, iv (0 : Int32)] [(.int r6)])) (fun t k => st6 _ k) ?_
      refine Goes.via (B := T6.setTop (mkF m 28 _ [])) (fun t k => XS.istoreN X6.here hx rfl (hb hby own_d_prog_19_method_2_code_27) rfl (l' := #[rv a1, rv a2, iv r6]) rfl k) ?_
      refine Goes.via (B := T6.setTop (mkF m 29 _ [(.int r6)])) (fun t k => XS.iloadN X6.here hx rfl (hb hby own_d_prog_19_method_2_code_28) rfl k) ?_
      exact finI (Q := (own_Q43 Z a1 a2 x1 x2 s1a s2a z0 t1a k1a t2a k2a cc0 cc1 dd0 dd1 h0 n0)) (F := FrameEnd) (C := ((Rm 4 0 0 63)).cells) (S := ((Rm 4 0 0 63)).slots) X6 hx Bd.returns (hb hby own_d_prog_19_method_2_code_29) K6 ⟨r6, rfl, N6, rfl, (by unfold own_exp; rw [if_neg hlt, if_neg hng]; exact p6_0)⟩ (lvN X6 hlk (by decide) (by decide))
    · rw [if_neg heq] at p3_0
      have hgt : x2 < x1 := by
        have n' : ¬ x1.toInt = x2.toInt := fun z => heq (Int64.toInt_inj.mp z)
        rw [Int64.lt_iff_toInt_lt] at *; omega
      subst p3_0
      refine Goes.via (B := T3.setTop (mkF m 28 _ [])) (fun t k => XS.ifYes X3.here hx rfl (pc0 := 13) (pc' := 28) rfl (hb hby own_d_prog_19_method_2_code_13) rfl (XT.i0_ne_t (by decide)) (by decide) (by decide) k) ?_
      refine Goes.via (B := T3.setTop (mkF m 29 _ [(.int (1 : Int32))])) (fun t k => XS.iloadN X3.here hx rfl (hb hby own_d_prog_19_method_2_code_28) rfl k) ?_
      exact finI (Q := (own_Q43 Z a1 a2 x1 x2 s1a s2a z0 t1a k1a t2a k2a cc0 cc1 dd0 dd1 h0 n0)) (F := FrameEnd) (C := ((Rm 4 0 0 63)).cells) (S := ((Rm 4 0 0 63)).slots) X3 hx Bd.returns (hb hby own_d_prog_19_method_2_code_29) K3 ⟨(1 : Int32), rfl, N3, rfl, (by unfold own_exp; rw [if_neg hlt, if_pos hgt]; decide)⟩ (lvN X3 hlk (by decide) (by decide))
theorem own_ef44 (m : MethodId) (x0 : Addr) (x1 : Addr) (x2 : Int32)  : entryFrame m #[(.ref x0), (.ref x1), (.int x2)] 4 = mkF m 0 #[rv x0, rv x1, iv x2, u_] [] := by first | (simp [entryFrame, mkF, argsToLocals, Value.category]; done) | rfl
abbrev own_Q44 (Z : State) (t1a : Addr) (k1a : ClassId) (t2a : Addr) (k2a : ClassId) (cc0 : Int32) (cc1 : Int32) (dd0 : Int32) (dd1 : Int32) (h0 : Heap) (n0 : Nat) (v : Option Value) (h : Heap) (L : List Loc) : Prop := ∃ r : Int32, v = some (.int r) ∧ Fr n0 L ∧ h = h0 ∧ r = if cc0.toInt8.toInt32 = dd0.toInt8.toInt32 then (-1 : Int32) else 0
set_option maxRecDepth 65536 in
set_option maxHeartbeats 40000000 in
theorem own_m44 (l : Launch) (Z : State) (a0 : Array Value) (hw : ∀ d ∈ tables_1, d.before a0 Z = true) (ws : List Jvm.Cond) (t1a : Addr) (k1a : ClassId) (t2a : Addr) (k2a : ClassId) (cc0 : Int32) (cc1 : Int32) (dd0 : Int32) (dd1 : Int32) (h0 : Heap) (n0 : Nat) (O0 : Old Z n0 h0) (F_1 : Arv Z h0 t1a k1a .byte (1 : Int32) [(.int cc0.toInt8.toInt32)] (.int (0 : Int32))) (F_2 : Arv Z h0 t2a k2a .byte (2 : Int32) [(.int dd0.toInt8.toInt32), (.int dd1.toInt8.toInt32)] (.int (0 : Int32))) :
    Ctr l Z (⟨"jdk/internal/util/ArraysSupport", "mismatch", "([B[BI)I"⟩ : MethodName) jdk_48_method_13_code 4 (some .int) (Rm 0 0 0 0) #[(.ref t1a), (.ref t2a), (.int (1 : Int32))] h0 (own_Q44 Z t1a k1a t2a k2a cc0 cc1 dd0 dd1 h0 n0) ws := by
  refine MetFree.of_bodySF (plainFor_of_name own_pn7) hisR ?_
  intro p e s m args below meth c s₁ Bd hml0 hP hK
  obtain ⟨rfl, hZ, hh⟩ := hP
  have hx := Bd.exec
  have hby := Bd.bytes
  have hlk : meth.locks = false := Bd.notSynchronized
  have hml : c.maxLocals = 4 := hml0
  have hown : s.vm.findClass "jdk/internal/util/ArraysSupport" = some m.cls := findClass_of_methodNamed Bd.named
  have hnm := (name_of_methodNamed Bd.named Bd.method).1
  have X0 : Stand p l e (Rm 0 0 0 0) s m #[(.ref t1a), (.ref t2a), (.int (1 : Int32))] below meth c s₁ [] 0 0 := Stand.of_body Bd
  have e0 : s₁.heap = h0 := by rw [← hh, Bd.state]; rfl
  have N0 := Fr.nil n0
  show Goes p.tables e below (fun t o => ∃ v L, o = .returned v ∧ (own_Q44 Z t1a k1a t2a k2a cc0 cc1 dd0 dd1 h0 n0) v t.heap L ∧ FrameEnd s o t L ((Rm 0 0 0 0)).cells ((Rm 0 0 0 0)).slots) _
  refine Goes.via (B := s₁.setTop (mkF m 0 #[rv t1a, rv t2a, iv (1 : Int32), u_] [])) (fun t k => castTop (own_ef44 m t1a t2a (1 : Int32)) k) ?_
  refine Goes.via (B := s₁.setTop (mkF m 1 _ [(.int (0 : Int32))])) (fun t k => XS.iconst X0.here hx rfl (hb hby own_d_jdk_48_method_13_code_0) k) ?_
  refine Goes.via (B := s₁.setTop (mkF m 2 _ [])) (fun t k => XS.istoreN X0.here hx rfl (hb hby own_d_jdk_48_method_13_code_1) rfl (l' := #[rv t1a, rv t2a, iv (1 : Int32), iv (0 : Int32)]) rfl k) ?_
  refine Goes.via (B := s₁.setTop (mkF m 3 _ [(.int (1 : Int32))])) (fun t k => XS.iloadN X0.here hx rfl (hb hby own_d_jdk_48_method_13_code_2) rfl k) ?_
  refine Goes.via (B := s₁.setTop (mkF m 5 _ [(.int (7 : Int32)), (.int (1 : Int32))])) (fun t k => XS.bipush X0.here hx rfl (hb hby own_d_jdk_48_method_13_code_3) k) ?_
  refine Goes.via (B := s₁.setTop (mkF m 49 _ [])) (fun t k => XS.icmpYes X0.here hx rfl (pc0 := 5) (pc' := 49) rfl (hb hby own_d_jdk_48_method_13_code_5) rfl (XT.ii_le_t (by decide)) (by decide) (by decide) k) ?_
  refine Goes.via (B := s₁.setTop (mkF m 50 _ [(.int (0 : Int32))])) (fun t k => XS.iloadN X0.here hx rfl (hb hby own_d_jdk_48_method_13_code_49) rfl k) ?_
  refine Goes.via (B := s₁.setTop (mkF m 51 _ [(.int (1 : Int32)), (.int (0 : Int32))])) (fun t k => XS.iloadN X0.here hx rfl (hb hby own_d_jdk_48_method_13_code_50) rfl k) ?_
  refine Goes.via (B := s₁.setTop (mkF m 54 _ [])) (fun t k => XS.icmpNo X0.here hx rfl (hb hby own_d_jdk_48_method_13_code_51) rfl (XT.ii_ge_f (by decide)) k) ?_
  refine Goes.via (B := s₁.setTop (mkF m 55 _ [(.ref t1a)])) (fun t k => XS.aloadN X0.here hx rfl (hb hby own_d_jdk_48_method_13_code_54) rfl rfl k) ?_
  refine Goes.via (B := s₁.setTop (mkF m 56 _ [(.int (0 : Int32)), (.ref t1a)])) (fun t k => XS.iloadN X0.here hx rfl (hb hby own_d_jdk_48_method_13_code_55) rfl k) ?_
  obtain ⟨cl1, Ar1, q1, S1, N1, H1, G1⟩ := id F_1
  have hin1 := inb_of (j := (0 : Int32)) S1 ⟨by decide, by decide⟩
  refine Goes.via (B := s₁.setTop (mkF m 57 #[rv t1a, rv t2a, iv (1 : Int32), iv (0 : Int32)] [(.int cc0.toInt8.toInt32)])) (fun t k => X0.baloadBytes hx (j := (0 : Int32)) (v := (.int cc0.toInt8.toInt32)) (by rw [e0]; exact Ar1.1) (State.isArrayOf_alike hZ.alike Ar1.2.1) Ar1.2.2 hin1 (H1.at hin1 rfl) (g := (mkF m 56 #[rv t1a, rv t2a, iv (1 : Int32), iv (0 : Int32)] [(.int (0 : Int32)), (.ref t1a)])) rfl rfl (hb hby own_d_jdk_48_method_13_code_56) t k) ?_
  refine Goes.via (B := s₁.setTop (mkF m 58 _ [(.ref t2a), (.int cc0.toInt8.toInt32)])) (fun t k => XS.aloadN X0.here hx rfl (hb hby own_d_jdk_48_method_13_code_57) rfl rfl k) ?_
  refine Goes.via (B := s₁.setTop (mkF m 59 _ [(.int (0 : Int32)), (.ref t2a), (.int cc0.toInt8.toInt32)])) (fun t k => XS.iloadN X0.here hx rfl (hb hby own_d_jdk_48_method_13_code_58) rfl k) ?_
  obtain ⟨cl2, Ar2, q2, S2, N2, H2, G2⟩ := id F_2
  have hin2 := inb_of (j := (0 : Int32)) S2 ⟨by decide, by decide⟩
  refine Goes.via (B := s₁.setTop (mkF m 60 #[rv t1a, rv t2a, iv (1 : Int32), iv (0 : Int32)] [(.int dd0.toInt8.toInt32), (.int cc0.toInt8.toInt32)])) (fun t k => X0.baloadBytes hx (j := (0 : Int32)) (v := (.int dd0.toInt8.toInt32)) (by rw [e0]; exact Ar2.1) (State.isArrayOf_alike hZ.alike Ar2.2.1) Ar2.2.2 hin2 (H2.at hin2 rfl) (g := (mkF m 59 #[rv t1a, rv t2a, iv (1 : Int32), iv (0 : Int32)] [(.int (0 : Int32)), (.ref t2a), (.int cc0.toInt8.toInt32)])) rfl rfl (hb hby own_d_jdk_48_method_13_code_59) t k) ?_
  by_cases b3 : cc0.toInt8.toInt32 = dd0.toInt8.toInt32
  · refine Goes.via (B := s₁.setTop (mkF m 65 _ [])) (fun t k => XS.icmpYes X0.here hx rfl (pc0 := 60) (pc' := 65) rfl (hb hby own_d_jdk_48_method_13_code_60) rfl (XT.ii_eq_t b3) (by decide) (by decide) k) ?_
    refine Goes.via (B := s₁.setTop (mkF m 68 _ [])) (fun t k => XS.iinc X0.here hx rfl (hb hby own_d_jdk_48_method_13_code_65) rfl (l' := #[rv t1a, rv t2a, iv (1 : Int32), iv ((0 : Int32) + (1 : Int32))]) rfl k) ?_
    refine Goes.via (B := s₁.setTop (mkF m 49 _ [])) (fun t k => XS.goto X0.here hx rfl (pc0 := 68) (pc' := 49) rfl (hb hby own_d_jdk_48_method_13_code_68) (by decide) (by decide) k) ?_
    have q4 : ((0 : Int32) + (1 : Int32)) = (1 : Int32) := rfl
    rw [q4]
    refine Goes.via (B := s₁.setTop (mkF m 50 _ [(.int (1 : Int32))])) (fun t k => XS.iloadN X0.here hx rfl (hb hby own_d_jdk_48_method_13_code_49) rfl k) ?_
    refine Goes.via (B := s₁.setTop (mkF m 51 _ [(.int (1 : Int32)), (.int (1 : Int32))])) (fun t k => XS.iloadN X0.here hx rfl (hb hby own_d_jdk_48_method_13_code_50) rfl k) ?_
    refine Goes.via (B := s₁.setTop (mkF m 71 _ [])) (fun t k => XS.icmpYes X0.here hx rfl (pc0 := 51) (pc' := 71) rfl (hb hby own_d_jdk_48_method_13_code_51) rfl (XT.ii_ge_t (by decide)) (by decide) (by decide) k) ?_
    refine Goes.via (B := s₁.setTop (mkF m 72 _ [(.int (-1 : Int32))])) (fun t k => XS.iconst X0.here hx rfl (hb hby own_d_jdk_48_method_13_code_71) k) ?_
    exact finI (Q := (own_Q44 Z t1a k1a t2a k2a cc0 cc1 dd0 dd1 h0 n0)) (F := FrameEnd) (C := ((Rm 0 0 0 0)).cells) (S := ((Rm 0 0 0 0)).slots) X0 hx Bd.returns (hb hby own_d_jdk_48_method_13_code_72) e0 ⟨(-1 : Int32), rfl, N0, rfl, (by simp [b3])⟩ (lvN X0 hlk (by decide) (by decide))
  · refine Goes.via (B := s₁.setTop (mkF m 63 _ [])) (fun t k => XS.icmpNo X0.here hx rfl (hb hby own_d_jdk_48_method_13_code_60) rfl (XT.ii_eq_f b3) k) ?_
    refine Goes.via (B := s₁.setTop (mkF m 64 _ [(.int (0 : Int32))])) (fun t k => XS.iloadN X0.here hx rfl (hb hby own_d_jdk_48_method_13_code_63) rfl k) ?_
    exact finI (Q := (own_Q44 Z t1a k1a t2a k2a cc0 cc1 dd0 dd1 h0 n0)) (F := FrameEnd) (C := ((Rm 0 0 0 0)).cells) (S := ((Rm 0 0 0 0)).slots) X0 hx Bd.returns (hb hby own_d_jdk_48_method_13_code_64) e0 ⟨(0 : Int32), rfl, N0, rfl, (by simp [b3])⟩ (lvN X0 hlk (by decide) (by decide))
theorem own_ef45 (m : MethodId) (x0 : Addr) (x1 : Addr) (x2 : Int32) (x3 : Int32)  : entryFrame m #[(.ref x0), (.ref x1), (.int x2), (.int x3)] 6 = mkF m 0 #[rv x0, rv x1, iv x2, iv x3, u_, u_] [] := by first | (simp [entryFrame, mkF, argsToLocals, Value.category]; done) | rfl
abbrev own_Q45 (Z : State) (t1a : Addr) (k1a : ClassId) (t2a : Addr) (k2a : ClassId) (cc0 : Int32) (cc1 : Int32) (dd0 : Int32) (dd1 : Int32) (h0 : Heap) (n0 : Nat) (v : Option Value) (h : Heap) (L : List Loc) : Prop := ∃ r : Int32, v = some (.int r) ∧ Fr n0 L ∧ h = h0 ∧ own_sg r = own_lex (1 : Int32) cc0 cc1 (2 : Int32) dd0 dd1
set_option maxRecDepth 65536 in
set_option maxHeartbeats 40000000 in
theorem own_m45 (l : Launch) (Z : State) (a0 : Array Value) (hw : ∀ d ∈ tables_1, d.before a0 Z = true) (ws : List Jvm.Cond) (t1a : Addr) (k1a : ClassId) (t2a : Addr) (k2a : ClassId) (cc0 : Int32) (cc1 : Int32) (dd0 : Int32) (dd1 : Int32) (h0 : Heap) (n0 : Nat) (O0 : Old Z n0 h0) (hcc0 : ¬ cc0 < (0 : Int32) ∧ ¬ (255 : Int32) < cc0) (hcc1 : ¬ cc1 < (0 : Int32) ∧ ¬ (255 : Int32) < cc1) (hdd0 : ¬ dd0 < (0 : Int32) ∧ ¬ (255 : Int32) < dd0) (hdd1 : ¬ dd1 < (0 : Int32) ∧ ¬ (255 : Int32) < dd1) (F_1 : Arv Z h0 t1a k1a .byte (1 : Int32) [(.int cc0.toInt8.toInt32)] (.int (0 : Int32))) (F_2 : Arv Z h0 t2a k2a .byte (2 : Int32) [(.int dd0.toInt8.toInt32), (.int dd1.toInt8.toInt32)] (.int (0 : Int32))) :
    Ctr l Z (⟨"java/lang/StringLatin1", "compareTo", "([B[BII)I"⟩ : MethodName) jdk_43_method_15_code 6 (some .int) (Rm 1 0 0 15) #[(.ref t1a), (.ref t2a), (.int (1 : Int32)), (.int (2 : Int32))] h0 (own_Q45 Z t1a k1a t2a k2a cc0 cc1 dd0 dd1 h0 n0) ws := by
  refine MetFree.of_bodySF (plainFor_of_name own_pn0) hisR ?_
  intro p e s m args below meth c s₁ Bd hml0 hP hK
  obtain ⟨rfl, hZ, hh⟩ := hP
  have hx := Bd.exec
  have hby := Bd.bytes
  have hlk : meth.locks = false := Bd.notSynchronized
  have hml : c.maxLocals = 6 := hml0
  have hown : s.vm.findClass "java/lang/StringLatin1" = some m.cls := findClass_of_methodNamed Bd.named
  have hnm := (name_of_methodNamed Bd.named Bd.method).1
  have X0 : Stand p l e (Rm 1 0 0 15) s m #[(.ref t1a), (.ref t2a), (.int (1 : Int32)), (.int (2 : Int32))] below meth c s₁ [] 0 0 := Stand.of_body Bd
  have e0 : s₁.heap = h0 := by rw [← hh, Bd.state]; rfl
  have N0 := Fr.nil n0
  show Goes p.tables e below (fun t o => ∃ v L, o = .returned v ∧ (own_Q45 Z t1a k1a t2a k2a cc0 cc1 dd0 dd1 h0 n0) v t.heap L ∧ FrameEnd s o t L ((Rm 1 0 0 15)).cells ((Rm 1 0 0 15)).slots) _
  refine Goes.via (B := s₁.setTop (mkF m 0 #[rv t1a, rv t2a, iv (1 : Int32), iv (2 : Int32), u_, u_] [])) (fun t k => castTop (own_ef45 m t1a t2a (1 : Int32) (2 : Int32)) k) ?_
  refine Goes.via (B := s₁.setTop (mkF m 1 _ [(.int (1 : Int32))])) (fun t k => XS.iloadN X0.here hx rfl (hb hby own_d_jdk_43_method_15_code_0) rfl k) ?_
  refine Goes.via (B := s₁.setTop (mkF m 2 _ [(.int (2 : Int32)), (.int (1 : Int32))])) (fun t k => XS.iloadN X0.here hx rfl (hb hby own_d_jdk_43_method_15_code_1) rfl k) ?_
  obtain ⟨_, T1, L1, X1, ⟨r1, rfl, M1, K1, p1_0⟩, st1⟩ := callStatic X0 hx hZ hown (own_hw hw 70 rfl) (own_hw hw 71 rfl) (own_hw hw 72 rfl) (own_hw hw 73 rfl) (by decide) (argsL := [(.int (1 : Int32)), (.int (2 : Int32))]) (rest := []) (own_m14 l Z a0 hw [] (1 : Int32) (2 : Int32) h0 n0 O0 ) e0 (lenOf own_pd8 rfl) (pc := 2) (Ls := #[rv t1a, rv t2a, iv (1 : Int32), iv (2 : Int32), u_, u_]) (st := [(.int (2 : Int32)), (.int (1 : Int32))]) rfl (by rw [hml]; rfl) (hb hby own_d_jdk_43_method_15_code_2) (W := 0) (Nat.le_of_eq rfl) (by decide) (by decide) (by decide) (by decide)
  have N1 := Fr.app N0 M1
  refine Goes.via (B := T1.setTop (mkF m 5 #[rv t1a, rv t2a, iv (1 : Int32), iv (2 : Int32), u_, u_] [(.int r1)])) (fun t k => st1 _ k) ?_
  obtain rfl : r1 = (1 : Int32) := p1_0.trans (by decide)
  refine Goes.via (B := T1.setTop (mkF m 7 _ [])) (fun t k => XS.istore X1.here hx rfl (hb hby own_d_jdk_43_method_15_code_5) rfl (l' := #[rv t1a, rv t2a, iv (1 : Int32), iv (2 : Int32), iv (1 : Int32), u_]) rfl k) ?_
  refine Goes.via (B := T1.setTop (mkF m 8 _ [(.ref t1a)])) (fun t k => XS.aloadN X1.here hx rfl (hb hby own_d_jdk_43_method_15_code_7) rfl rfl k) ?_
  refine Goes.via (B := T1.setTop (mkF m 9 _ [(.ref t2a), (.ref t1a)])) (fun t k => XS.aloadN X1.here hx rfl (hb hby own_d_jdk_43_method_15_code_8) rfl rfl k) ?_
  refine Goes.via (B := T1.setTop (mkF m 11 _ [(.int (1 : Int32)), (.ref t2a), (.ref t1a)])) (fun t k => XS.iload X1.here hx rfl (hb hby own_d_jdk_43_method_15_code_9) rfl k) ?_
  obtain ⟨_, T2, L2, X2, ⟨r2, rfl, M2, K2, p2_0⟩, st2⟩ := callStatic X1 hx hZ hown (own_hw hw 74 rfl) (own_hw hw 75 rfl) (own_hw hw 76 rfl) (own_hw hw 77 rfl) (by decide) (argsL := [(.ref t1a), (.ref t2a), (.int (1 : Int32))]) (rest := []) (own_m44 l Z a0 hw [] t1a k1a t2a k2a cc0 cc1 dd0 dd1 h0 n0 O0 F_1 F_2) K1 (lenOf own_pd9 rfl) (pc := 11) (Ls := #[rv t1a, rv t2a, iv (1 : Int32), iv (2 : Int32), iv (1 : Int32), u_]) (st := [(.int (1 : Int32)), (.ref t2a), (.ref t1a)]) rfl (by rw [hml]; rfl) (hb hby own_d_jdk_43_method_15_code_11) (W := 0) (Nat.le_of_eq rfl) (by decide) (by decide) (by decide) (by decide)
  have N2 := Fr.app N1 M2
  refine Goes.via (B := T2.setTop (mkF m 14 #[rv t1a, rv t2a, iv (1 : Int32), iv (2 : Int32), iv (1 : Int32), u_] [(.int r2)])) (fun t k => st2 _ k) ?_
  by_cases hbq0 : cc0.toInt8.toInt32 = dd0.toInt8.toInt32
  · have eq0 : cc0 = dd0 := own_bi hcc0 hdd0 hbq0
    rw [if_pos hbq0] at p2_0
    subst p2_0
    refine Goes.via (B := T2.setTop (mkF m 16 _ [])) (fun t k => XS.istore X2.here hx rfl (hb hby own_d_jdk_43_method_15_code_14) rfl (l' := #[rv t1a, rv t2a, iv (1 : Int32), iv (2 : Int32), iv (1 : Int32), iv (-1 : Int32)]) rfl k) ?_
    refine Goes.via (B := T2.setTop (mkF m 18 _ [(.int (-1 : Int32))])) (fun t k => XS.iload X2.here hx rfl (hb hby own_d_jdk_43_method_15_code_16) rfl k) ?_
    refine Goes.via (B := T2.setTop (mkF m 21 _ [])) (fun t k => XS.ifNo X2.here hx rfl (hb hby own_d_jdk_43_method_15_code_18) rfl (XT.i0_ge_f (by decide)) k) ?_
    refine Goes.via (B := T2.setTop (mkF m 22 _ [(.int (1 : Int32))])) (fun t k => XS.iloadN X2.here hx rfl (hb hby own_d_jdk_43_method_15_code_21) rfl k) ?_
    refine Goes.via (B := T2.setTop (mkF m 23 _ [(.int (2 : Int32)), (.int (1 : Int32))])) (fun t k => XS.iloadN X2.here hx rfl (hb hby own_d_jdk_43_method_15_code_22) rfl k) ?_
    refine Goes.via (B := T2.setTop (mkF m 24 _ [(.int ((1 : Int32) - (2 : Int32)))])) (fun t k => XS.isub X2.here hx rfl (hb hby own_d_jdk_43_method_15_code_23) rfl k) ?_
    refine Goes.via (B := T2.setTop (mkF m 40 _ [(.int ((1 : Int32) - (2 : Int32)))])) (fun t k => XS.goto X2.here hx rfl (pc0 := 24) (pc' := 40) rfl (hb hby own_d_jdk_43_method_15_code_24) (by decide) (by decide) k) ?_
    exact finI (Q := (own_Q45 Z t1a k1a t2a k2a cc0 cc1 dd0 dd1 h0 n0)) (F := FrameEnd) (C := ((Rm 1 0 0 15)).cells) (S := ((Rm 1 0 0 15)).slots) X2 hx Bd.returns (hb hby own_d_jdk_43_method_15_code_40) K2 ⟨((1 : Int32) - (2 : Int32)), rfl, N2, rfl, (by simp [own_lex, eq0])⟩ (lvN X2 hlk (by decide) (by decide))
  · have nq0 : ¬ cc0 = dd0 := fun z => hbq0 (by rw [z])
    rw [if_neg hbq0] at p2_0
    subst p2_0
    refine Goes.via (B := T2.setTop (mkF m 16 _ [])) (fun t k => XS.istore X2.here hx rfl (hb hby own_d_jdk_43_method_15_code_14) rfl (l' := #[rv t1a, rv t2a, iv (1 : Int32), iv (2 : Int32), iv (1 : Int32), iv (0 : Int32)]) rfl k) ?_
    refine Goes.via (B := T2.setTop (mkF m 18 _ [(.int (0 : Int32))])) (fun t k => XS.iload X2.here hx rfl (hb hby own_d_jdk_43_method_15_code_16) rfl k) ?_
    refine Goes.via (B := T2.setTop (mkF m 27 _ [])) (fun t k => XS.ifYes X2.here hx rfl (pc0 := 18) (pc' := 27) rfl (hb hby own_d_jdk_43_method_15_code_18) rfl (XT.i0_ge_t (by decide)) (by decide) (by decide) k) ?_
    refine Goes.via (B := T2.setTop (mkF m 28 _ [(.ref t1a)])) (fun t k => XS.aloadN X2.here hx rfl (hb hby own_d_jdk_43_method_15_code_27) rfl rfl k) ?_
    refine Goes.via (B := T2.setTop (mkF m 30 _ [(.int (0 : Int32)), (.ref t1a)])) (fun t k => XS.iload X2.here hx rfl (hb hby own_d_jdk_43_method_15_code_28) rfl k) ?_
    obtain ⟨_, T3, L3, X3, ⟨rfl, M3, K3⟩, st3⟩ := callStatic X2 hx hZ hown (own_hw hw 111 rfl) (own_hw hw 112 rfl) (own_hw hw 65 rfl) (own_hw hw 113 rfl) (by decide) (argsL := [(.ref t1a), (.int (0 : Int32))]) (rest := []) (own_m16 l Z a0 hw [] t1a k1a cc0 cc1 h0 n0 O0 hcc0 F_1) K2 (lenOf own_pd15 rfl) (pc := 30) (Ls := #[rv t1a, rv t2a, iv (1 : Int32), iv (2 : Int32), iv (1 : Int32), iv (0 : Int32)]) (st := [(.int (0 : Int32)), (.ref t1a)]) rfl (by rw [hml]; rfl) (hb hby own_d_jdk_43_method_15_code_30) (W := 0) (Nat.le_of_eq rfl) (by decide) (by decide) (by decide) (by decide)
    have N3 := Fr.app N2 M3
    refine Goes.via (B := T3.setTop (mkF m 33 #[rv t1a, rv t2a, iv (1 : Int32), iv (2 : Int32), iv (1 : Int32), iv (0 : Int32)] [(.int cc0)])) (fun t k => st3 _ k) ?_
    refine Goes.via (B := T3.setTop (mkF m 34 _ [(.ref t2a), (.int cc0)])) (fun t k => XS.aloadN X3.here hx rfl (hb hby own_d_jdk_43_method_15_code_33) rfl rfl k) ?_
    refine Goes.via (B := T3.setTop (mkF m 36 _ [(.int (0 : Int32)), (.ref t2a), (.int cc0)])) (fun t k => XS.iload X3.here hx rfl (hb hby own_d_jdk_43_method_15_code_34) rfl k) ?_
    obtain ⟨_, T4, L4, X4, ⟨rfl, M4, K4⟩, st4⟩ := callStatic X3 hx hZ hown (own_hw hw 111 rfl) (own_hw hw 112 rfl) (own_hw hw 65 rfl) (own_hw hw 113 rfl) (by decide) (argsL := [(.ref t2a), (.int (0 : Int32))]) (rest := [(.int cc0)]) (own_m17 l Z a0 hw [] t2a k2a dd0 dd1 h0 n0 O0 hdd0 F_2) K3 (lenOf own_pd15 rfl) (pc := 36) (Ls := #[rv t1a, rv t2a, iv (1 : Int32), iv (2 : Int32), iv (1 : Int32), iv (0 : Int32)]) (st := [(.int (0 : Int32)), (.ref t2a), (.int cc0)]) rfl (by rw [hml]; rfl) (hb hby own_d_jdk_43_method_15_code_36) (W := 1) (Nat.le_of_eq rfl) (by decide) (by decide) (by decide) (by decide)
    have N4 := Fr.app N3 M4
    refine Goes.via (B := T4.setTop (mkF m 39 #[rv t1a, rv t2a, iv (1 : Int32), iv (2 : Int32), iv (1 : Int32), iv (0 : Int32)] [(.int dd0), (.int cc0)])) (fun t k => st4 _ k) ?_
    refine Goes.via (B := T4.setTop (mkF m 40 _ [(.int (cc0 - dd0))])) (fun t k => XS.isub X4.here hx rfl (hb hby own_d_jdk_43_method_15_code_39) rfl k) ?_
    exact finI (Q := (own_Q45 Z t1a k1a t2a k2a cc0 cc1 dd0 dd1 h0 n0)) (F := FrameEnd) (C := ((Rm 1 0 0 15)).cells) (S := ((Rm 1 0 0 15)).slots) X4 hx Bd.returns (hb hby own_d_jdk_43_method_15_code_40) K4 ⟨(cc0 - dd0), rfl, N4, rfl, (by rw [own_sub hcc0 hdd0 nq0]; simp [own_lex, nq0])⟩ (lvN X4 hlk (by decide) (by decide))
theorem own_ef46 (m : MethodId) (x0 : Addr) (x1 : Addr)  : entryFrame m #[(.ref x0), (.ref x1)] 4 = mkF m 0 #[rv x0, rv x1, u_, u_] [] := by first | (simp [entryFrame, mkF, argsToLocals, Value.category]; done) | rfl
abbrev own_Q46 (Z : State) (t1a : Addr) (k1a : ClassId) (t2a : Addr) (k2a : ClassId) (cc0 : Int32) (cc1 : Int32) (dd0 : Int32) (dd1 : Int32) (h0 : Heap) (n0 : Nat) (v : Option Value) (h : Heap) (L : List Loc) : Prop := ∃ r : Int32, v = some (.int r) ∧ Fr n0 L ∧ h = h0 ∧ own_sg r = own_lex (1 : Int32) cc0 cc1 (2 : Int32) dd0 dd1
set_option maxRecDepth 65536 in
set_option maxHeartbeats 40000000 in
theorem own_m46 (l : Launch) (Z : State) (a0 : Array Value) (hw : ∀ d ∈ tables_1, d.before a0 Z = true) (ws : List Jvm.Cond) (t1a : Addr) (k1a : ClassId) (t2a : Addr) (k2a : ClassId) (cc0 : Int32) (cc1 : Int32) (dd0 : Int32) (dd1 : Int32) (h0 : Heap) (n0 : Nat) (O0 : Old Z n0 h0) (hcc0 : ¬ cc0 < (0 : Int32) ∧ ¬ (255 : Int32) < cc0) (hcc1 : ¬ cc1 < (0 : Int32) ∧ ¬ (255 : Int32) < cc1) (hdd0 : ¬ dd0 < (0 : Int32) ∧ ¬ (255 : Int32) < dd0) (hdd1 : ¬ dd1 < (0 : Int32) ∧ ¬ (255 : Int32) < dd1) (F_1 : Arv Z h0 t1a k1a .byte (1 : Int32) [(.int cc0.toInt8.toInt32)] (.int (0 : Int32))) (F_2 : Arv Z h0 t2a k2a .byte (2 : Int32) [(.int dd0.toInt8.toInt32), (.int dd1.toInt8.toInt32)] (.int (0 : Int32))) :
    Ctr l Z (⟨"java/lang/StringLatin1", "compareTo", "([B[B)I"⟩ : MethodName) jdk_43_method_14_code 4 (some .int) (Rm 2 0 0 32) #[(.ref t1a), (.ref t2a)] h0 (own_Q46 Z t1a k1a t2a k2a cc0 cc1 dd0 dd1 h0 n0) ws := by
  refine MetFree.of_bodySF (plainFor_of_name own_pn0) hisR ?_
  intro p e s m args below meth c s₁ Bd hml0 hP hK
  obtain ⟨rfl, hZ, hh⟩ := hP
  have hx := Bd.exec
  have hby := Bd.bytes
  have hlk : meth.locks = false := Bd.notSynchronized
  have hml : c.maxLocals = 4 := hml0
  have hown : s.vm.findClass "java/lang/StringLatin1" = some m.cls := findClass_of_methodNamed Bd.named
  have hnm := (name_of_methodNamed Bd.named Bd.method).1
  have X0 : Stand p l e (Rm 2 0 0 32) s m #[(.ref t1a), (.ref t2a)] below meth c s₁ [] 0 0 := Stand.of_body Bd
  have e0 : s₁.heap = h0 := by rw [← hh, Bd.state]; rfl
  have N0 := Fr.nil n0
  show Goes p.tables e below (fun t o => ∃ v L, o = .returned v ∧ (own_Q46 Z t1a k1a t2a k2a cc0 cc1 dd0 dd1 h0 n0) v t.heap L ∧ FrameEnd s o t L ((Rm 2 0 0 32)).cells ((Rm 2 0 0 32)).slots) _
  refine Goes.via (B := s₁.setTop (mkF m 0 #[rv t1a, rv t2a, u_, u_] [])) (fun t k => castTop (own_ef46 m t1a t2a) k) ?_
  refine Goes.via (B := s₁.setTop (mkF m 1 _ [(.ref t1a)])) (fun t k => XS.aloadN X0.here hx rfl (hb hby own_d_jdk_43_method_14_code_0) rfl rfl k) ?_
  obtain ⟨cl1, Ar1, q1, S1, N1, H1, G1⟩ := id F_1
  refine Goes.via (B := s₁.setTop (mkF m 2 #[rv t1a, rv t2a, u_, u_] [(.int (1 : Int32))])) (fun t k => X0.arraylength hx (by rw [e0]; exact Ar1.1) (State.isArrayOf_alike hZ.alike Ar1.2.1) (g := (mkF m 1 #[rv t1a, rv t2a, u_, u_] [(.ref t1a)])) rfl rfl (hb hby own_d_jdk_43_method_14_code_1) t (by rw [(len_of S1 N1)]; exact k)) ?_
  refine Goes.via (B := s₁.setTop (mkF m 3 _ [])) (fun t k => XS.istoreN X0.here hx rfl (hb hby own_d_jdk_43_method_14_code_2) rfl (l' := #[rv t1a, rv t2a, iv (1 : Int32), u_]) rfl k) ?_
  refine Goes.via (B := s₁.setTop (mkF m 4 _ [(.ref t2a)])) (fun t k => XS.aloadN X0.here hx rfl (hb hby own_d_jdk_43_method_14_code_3) rfl rfl k) ?_
  obtain ⟨cl2, Ar2, q2, S2, N2, H2, G2⟩ := id F_2
  refine Goes.via (B := s₁.setTop (mkF m 5 #[rv t1a, rv t2a, iv (1 : Int32), u_] [(.int (2 : Int32))])) (fun t k => X0.arraylength hx (by rw [e0]; exact Ar2.1) (State.isArrayOf_alike hZ.alike Ar2.2.1) (g := (mkF m 4 #[rv t1a, rv t2a, iv (1 : Int32), u_] [(.ref t2a)])) rfl rfl (hb hby own_d_jdk_43_method_14_code_4) t (by rw [(len_of S2 N2)]; exact k)) ?_
  refine Goes.via (B := s₁.setTop (mkF m 6 _ [])) (fun t k => XS.istoreN X0.here hx rfl (hb hby own_d_jdk_43_method_14_code_5) rfl (l' := #[rv t1a, rv t2a, iv (1 : Int32), iv (2 : Int32)]) rfl k) ?_
  refine Goes.via (B := s₁.setTop (mkF m 7 _ [(.ref t1a)])) (fun t k => XS.aloadN X0.here hx rfl (hb hby own_d_jdk_43_method_14_code_6) rfl rfl k) ?_
  refine Goes.via (B := s₁.setTop (mkF m 8 _ [(.ref t2a), (.ref t1a)])) (fun t k => XS.aloadN X0.here hx rfl (hb hby own_d_jdk_43_method_14_code_7) rfl rfl k) ?_
  refine Goes.via (B := s₁.setTop (mkF m 9 _ [(.int (1 : Int32)), (.ref t2a), (.ref t1a)])) (fun t k => XS.iloadN X0.here hx rfl (hb hby own_d_jdk_43_method_14_code_8) rfl k) ?_
  refine Goes.via (B := s₁.setTop (mkF m 10 _ [(.int (2 : Int32)), (.int (1 : Int32)), (.ref t2a), (.ref t1a)])) (fun t k => XS.iloadN X0.here hx rfl (hb hby own_d_jdk_43_method_14_code_9) rfl k) ?_
  obtain ⟨_, T3, L3, X3, ⟨r3, rfl, M3, K3, p3_0⟩, st3⟩ := callStatic X0 hx hZ hown (own_hw hw 67 rfl) (own_hw hw 68 rfl) (own_hw hw 65 rfl) (own_hw hw 69 rfl) (by decide) (argsL := [(.ref t1a), (.ref t2a), (.int (1 : Int32)), (.int (2 : Int32))]) (rest := []) (own_m45 l Z a0 hw [] t1a k1a t2a k2a cc0 cc1 dd0 dd1 h0 n0 O0 hcc0 hcc1 hdd0 hdd1 F_1 F_2) e0 (lenOf own_pd10 rfl) (pc := 10) (Ls := #[rv t1a, rv t2a, iv (1 : Int32), iv (2 : Int32)]) (st := [(.int (2 : Int32)), (.int (1 : Int32)), (.ref t2a), (.ref t1a)]) rfl (by rw [hml]; rfl) (hb hby own_d_jdk_43_method_14_code_10) (W := 0) (Nat.le_of_eq rfl) (by decide) (by decide) (by decide) (by decide)
  have N3 := Fr.app N0 M3
  refine Goes.via (B := T3.setTop (mkF m 13 #[rv t1a, rv t2a, iv (1 : Int32), iv (2 : Int32)] [(.int r3)])) (fun t k => st3 _ k) ?_
  exact finI (Q := (own_Q46 Z t1a k1a t2a k2a cc0 cc1 dd0 dd1 h0 n0)) (F := FrameEnd) (C := ((Rm 2 0 0 32)).cells) (S := ((Rm 2 0 0 32)).slots) X3 hx Bd.returns (hb hby own_d_jdk_43_method_14_code_13) K3 ⟨r3, rfl, N3, rfl, p3_0⟩ (lvN X3 hlk (by decide) (by decide))
theorem own_ef47 (m : MethodId) (x0 : Addr) (x1 : Addr)  : entryFrame m #[(.ref x0), (.ref x1)] 5 = mkF m 0 #[rv x0, rv x1, u_, u_, u_] [] := by first | (simp [entryFrame, mkF, argsToLocals, Value.category]; done) | rfl
abbrev own_Q47 (Z : State) (a1 : Addr) (a2 : Addr) (z0 : Int32) (t1a : Addr) (k1a : ClassId) (t2a : Addr) (k2a : ClassId) (cc0 : Int32) (cc1 : Int32) (dd0 : Int32) (dd1 : Int32) (h0 : Heap) (n0 : Nat) (v : Option Value) (h : Heap) (L : List Loc) : Prop := ∃ r : Int32, v = some (.int r) ∧ Fr n0 L ∧ h = h0 ∧ own_sg r = own_lex (1 : Int32) cc0 cc1 (2 : Int32) dd0 dd1
set_option maxRecDepth 65536 in
set_option maxHeartbeats 40000000 in
theorem own_m47 (l : Launch) (Z : State) (a0 : Array Value) (hw : ∀ d ∈ tables_1, d.before a0 Z = true) (ws : List Jvm.Cond) (a1 : Addr) (a2 : Addr) (z0 : Int32) (t1a : Addr) (k1a : ClassId) (t2a : Addr) (k2a : ClassId) (cc0 : Int32) (cc1 : Int32) (dd0 : Int32) (dd1 : Int32) (h0 : Heap) (n0 : Nat) (O0 : Old Z n0 h0) (hz0 : ¬ z0 = (0 : Int32)) (hcc0 : ¬ cc0 < (0 : Int32) ∧ ¬ (255 : Int32) < cc0) (hcc1 : ¬ cc1 < (0 : Int32) ∧ ¬ (255 : Int32) < cc1) (hdd0 : ¬ dd0 < (0 : Int32) ∧ ¬ (255 : Int32) < dd0) (hdd1 : ¬ dd1 < (0 : Int32) ∧ ¬ (255 : Int32) < dd1) (O_1 : Sta Z Z.heap "java/lang/String" "COMPACT_STRINGS" "Z" (.int z0)) (F_1 : Exa Z h0 a1 "java/lang/String") (F_2 : Fld Z h0 a1 "java/lang/String" "value" "[B" (.ref t1a)) (F_3 : Fld Z h0 a1 "java/lang/String" "coder" "B" (.int (0 : Int32))) (F_4 : Exa Z h0 a2 "java/lang/String") (F_5 : Fld Z h0 a2 "java/lang/String" "value" "[B" (.ref t2a)) (F_6 : Fld Z h0 a2 "java/lang/String" "coder" "B" (.int (0 : Int32))) (F_7 : Arv Z h0 t1a k1a .byte (1 : Int32) [(.int cc0.toInt8.toInt32)] (.int (0 : Int32))) (F_8 : Arv Z h0 t2a k2a .byte (2 : Int32) [(.int dd0.toInt8.toInt32), (.int dd1.toInt8.toInt32)] (.int (0 : Int32))) :
    Ctr l Z (⟨"java/lang/String", "compareTo", "(Ljava/lang/String;)I"⟩ : MethodName) jdk_42_method_71_code 5 (some .int) (Rm 3 0 0 47) #[(.ref a1), (.ref a2)] h0 (own_Q47 Z a1 a2 z0 t1a k1a t2a k2a cc0 cc1 dd0 dd1 h0 n0) ws := by
  refine MetFree.of_bodySF (plainFor_of_name own_pn1) hisR ?_
  intro p e s m args below meth c s₁ Bd hml0 hP hK
  obtain ⟨rfl, hZ, hh⟩ := hP
  have hx := Bd.exec
  have hby := Bd.bytes
  have hlk : meth.locks = false := Bd.notSynchronized
  have hml : c.maxLocals = 5 := hml0
  have hown : s.vm.findClass "java/lang/String" = some m.cls := findClass_of_methodNamed Bd.named
  have hnm := (name_of_methodNamed Bd.named Bd.method).1
  have X0 : Stand p l e (Rm 3 0 0 47) s m #[(.ref a1), (.ref a2)] below meth c s₁ [] 0 0 := Stand.of_body Bd
  have e0 : s₁.heap = h0 := by rw [← hh, Bd.state]; rfl
  have N0 := Fr.nil n0
  show Goes p.tables e below (fun t o => ∃ v L, o = .returned v ∧ (own_Q47 Z a1 a2 z0 t1a k1a t2a k2a cc0 cc1 dd0 dd1 h0 n0) v t.heap L ∧ FrameEnd s o t L ((Rm 3 0 0 47)).cells ((Rm 3 0 0 47)).slots) _
  refine Goes.via (B := s₁.setTop (mkF m 0 #[rv a1, rv a2, u_, u_, u_] [])) (fun t k => castTop (own_ef47 m a1 a2) k) ?_
  refine Goes.via (B := s₁.setTop (mkF m 1 _ [(.ref a1)])) (fun t k => XS.aloadN X0.here hx rfl (hb hby own_d_jdk_42_method_71_code_0) rfl rfl k) ?_
  obtain ⟨T1, X1, e1, st1⟩ := getF X0 hx hZ hown (host := "") (Or.inl (own_hw hw 55 rfl)) Via.refl e0 F_2 (g := (mkF m 1 #[rv a1, rv a2, u_, u_, u_] [(.ref a1)])) rfl rfl (hb hby own_d_jdk_42_method_71_code_1)
  refine Goes.via (B := T1.setTop (mkF m 4 #[rv a1, rv a2, u_, u_, u_] [(.ref t1a)])) (fun t k => st1 _ k) ?_
  refine Goes.via (B := T1.setTop (mkF m 5 _ [])) (fun t k => XS.astoreN X1.here hx rfl (hb hby own_d_jdk_42_method_71_code_4) rfl rfl (l' := #[rv a1, rv a2, rv t1a, u_, u_]) rfl k) ?_
  refine Goes.via (B := T1.setTop (mkF m 6 _ [(.ref a2)])) (fun t k => XS.aloadN X1.here hx rfl (hb hby own_d_jdk_42_method_71_code_5) rfl rfl k) ?_
  obtain ⟨T2, X2, e2, st2⟩ := getF X1 hx hZ hown (host := "") (Or.inl (own_hw hw 55 rfl)) Via.refl e1 F_5 (g := (mkF m 6 #[rv a1, rv a2, rv t1a, u_, u_] [(.ref a2)])) rfl rfl (hb hby own_d_jdk_42_method_71_code_6)
  refine Goes.via (B := T2.setTop (mkF m 9 #[rv a1, rv a2, rv t1a, u_, u_] [(.ref t2a)])) (fun t k => st2 _ k) ?_
  refine Goes.via (B := T2.setTop (mkF m 10 _ [])) (fun t k => XS.astoreN X2.here hx rfl (hb hby own_d_jdk_42_method_71_code_9) rfl rfl (l' := #[rv a1, rv a2, rv t1a, rv t2a, u_]) rfl k) ?_
  refine Goes.via (B := T2.setTop (mkF m 11 _ [(.ref a1)])) (fun t k => XS.aloadN X2.here hx rfl (hb hby own_d_jdk_42_method_71_code_10) rfl rfl k) ?_
  obtain ⟨_, T3, L3, X3, ⟨rfl, M3, K3⟩, st3⟩ := callVirt X2 hx hZ hown (own_hw hw 56 rfl) (own_hw hw 57 rfl) (own_hw hw 59 rfl) (notFace_of_selects (args := #[]) (mvT hZ (own_hw hw 59 rfl))) (own_hw hw 58 rfl) (own_hw hw 5 rfl) (own_hw hw 60 rfl) (by decide) (argsL := []) (rest := []) (own_m15 l Z a0 hw [] a1 z0 h0 n0 O0 hz0 O_1 F_3) e2 F_1 (lenOf own_pd11 rfl) (pc := 11) (Ls := #[rv a1, rv a2, rv t1a, rv t2a, u_]) (st := [(.ref a1)]) rfl (by rw [hml]; rfl) (hb hby own_d_jdk_42_method_71_code_11) (W := 0) (Nat.le_of_eq rfl) (by decide) (by decide) (by decide) (by decide)
  have N3 := Fr.app N0 M3
  refine Goes.via (B := T3.setTop (mkF m 14 #[rv a1, rv a2, rv t1a, rv t2a, u_] [(.int (0 : Int32))])) (fun t k => st3 _ k) ?_
  refine Goes.via (B := T3.setTop (mkF m 16 _ [])) (fun t k => XS.istore X3.here hx rfl (hb hby own_d_jdk_42_method_71_code_14) rfl (l' := #[rv a1, rv a2, rv t1a, rv t2a, iv (0 : Int32)]) rfl k) ?_
  refine Goes.via (B := T3.setTop (mkF m 18 _ [(.int (0 : Int32))])) (fun t k => XS.iload X3.here hx rfl (hb hby own_d_jdk_42_method_71_code_16) rfl k) ?_
  refine Goes.via (B := T3.setTop (mkF m 19 _ [(.ref a2), (.int (0 : Int32))])) (fun t k => XS.aloadN X3.here hx rfl (hb hby own_d_jdk_42_method_71_code_18) rfl rfl k) ?_
  obtain ⟨_, T4, L4, X4, ⟨rfl, M4, K4⟩, st4⟩ := callVirt X3 hx hZ hown (own_hw hw 56 rfl) (own_hw hw 57 rfl) (own_hw hw 59 rfl) (notFace_of_selects (args := #[]) (mvT hZ (own_hw hw 59 rfl))) (own_hw hw 58 rfl) (own_hw hw 5 rfl) (own_hw hw 60 rfl) (by decide) (argsL := []) (rest := [(.int (0 : Int32))]) (own_m15 l Z a0 hw [] a2 z0 h0 n0 O0 hz0 O_1 F_6) K3 F_4 (lenOf own_pd11 rfl) (pc := 19) (Ls := #[rv a1, rv a2, rv t1a, rv t2a, iv (0 : Int32)]) (st := [(.ref a2), (.int (0 : Int32))]) rfl (by rw [hml]; rfl) (hb hby own_d_jdk_42_method_71_code_19) (W := 1) (Nat.le_of_eq rfl) (by decide) (by decide) (by decide) (by decide)
  have N4 := Fr.app N3 M4
  refine Goes.via (B := T4.setTop (mkF m 22 #[rv a1, rv a2, rv t1a, rv t2a, iv (0 : Int32)] [(.int (0 : Int32)), (.int (0 : Int32))])) (fun t k => st4 _ k) ?_
  refine Goes.via (B := T4.setTop (mkF m 25 _ [])) (fun t k => XS.icmpNo X4.here hx rfl (hb hby own_d_jdk_42_method_71_code_22) rfl (XT.ii_ne_f rfl) k) ?_
  refine Goes.via (B := T4.setTop (mkF m 27 _ [(.int (0 : Int32))])) (fun t k => XS.iload X4.here hx rfl (hb hby own_d_jdk_42_method_71_code_25) rfl k) ?_
  refine Goes.via (B := T4.setTop (mkF m 30 _ [])) (fun t k => XS.ifNo X4.here hx rfl (hb hby own_d_jdk_42_method_71_code_27) rfl (XT.i0_ne_f rfl) k) ?_
  refine Goes.via (B := T4.setTop (mkF m 31 _ [(.ref t1a)])) (fun t k => XS.aloadN X4.here hx rfl (hb hby own_d_jdk_42_method_71_code_30) rfl rfl k) ?_
  refine Goes.via (B := T4.setTop (mkF m 32 _ [(.ref t2a), (.ref t1a)])) (fun t k => XS.aloadN X4.here hx rfl (hb hby own_d_jdk_42_method_71_code_31) rfl rfl k) ?_
  obtain ⟨_, T5, L5, X5, ⟨r5, rfl, M5, K5, p5_0⟩, st5⟩ := callStatic X4 hx hZ hown (own_hw hw 63 rfl) (own_hw hw 64 rfl) (own_hw hw 65 rfl) (own_hw hw 66 rfl) (by decide) (argsL := [(.ref t1a), (.ref t2a)]) (rest := []) (own_m46 l Z a0 hw [] t1a k1a t2a k2a cc0 cc1 dd0 dd1 h0 n0 O0 hcc0 hcc1 hdd0 hdd1 F_7 F_8) K4 (lenOf own_pd12 rfl) (pc := 32) (Ls := #[rv a1, rv a2, rv t1a, rv t2a, iv (0 : Int32)]) (st := [(.ref t2a), (.ref t1a)]) rfl (by rw [hml]; rfl) (hb hby own_d_jdk_42_method_71_code_32) (W := 0) (Nat.le_of_eq rfl) (by decide) (by decide) (by decide) (by decide)
  have N5 := Fr.app N4 M5
  refine Goes.via (B := T5.setTop (mkF m 35 #[rv a1, rv a2, rv t1a, rv t2a, iv (0 : Int32)] [(.int r5)])) (fun t k => st5 _ k) ?_
  refine Goes.via (B := T5.setTop (mkF m 43 _ [(.int r5)])) (fun t k => XS.goto X5.here hx rfl (pc0 := 35) (pc' := 43) rfl (hb hby own_d_jdk_42_method_71_code_35) (by decide) (by decide) k) ?_
  exact finI (Q := (own_Q47 Z a1 a2 z0 t1a k1a t2a k2a cc0 cc1 dd0 dd1 h0 n0)) (F := FrameEnd) (C := ((Rm 3 0 0 47)).cells) (S := ((Rm 3 0 0 47)).slots) X5 hx Bd.returns (hb hby own_d_jdk_42_method_71_code_43) K5 ⟨r5, rfl, N5, rfl, p5_0⟩ (lvN X5 hlk (by decide) (by decide))
theorem own_ef48 (m : MethodId) (x0 : Addr) (x1 : Addr)  : entryFrame m #[(.ref x0), (.ref x1)] 3 = mkF m 0 #[rv x0, rv x1, u_] [] := by first | (simp [entryFrame, mkF, argsToLocals, Value.category]; done) | rfl
abbrev own_Q48 (Z : State) (a1 : Addr) (a2 : Addr) (x1 : Int64) (x2 : Int64) (s1a : Addr) (s2a : Addr) (z0 : Int32) (t1a : Addr) (k1a : ClassId) (t2a : Addr) (k2a : ClassId) (cc0 : Int32) (cc1 : Int32) (dd0 : Int32) (dd1 : Int32) (h0 : Heap) (n0 : Nat) (v : Option Value) (h : Heap) (L : List Loc) : Prop := ∃ r : Int32, v = some (.int r) ∧ Fr n0 L ∧ h = h0 ∧ own_sg r = own_exp x1 x2 (1 : Int32) cc0 cc1 (2 : Int32) dd0 dd1
set_option maxRecDepth 65536 in
set_option maxHeartbeats 40000000 in
theorem own_m48 (l : Launch) (Z : State) (a0 : Array Value) (hw : ∀ d ∈ tables_1, d.before a0 Z = true) (ws : List Jvm.Cond) (a1 : Addr) (a2 : Addr) (x1 : Int64) (x2 : Int64) (s1a : Addr) (s2a : Addr) (z0 : Int32) (t1a : Addr) (k1a : ClassId) (t2a : Addr) (k2a : ClassId) (cc0 : Int32) (cc1 : Int32) (dd0 : Int32) (dd1 : Int32) (h0 : Heap) (n0 : Nat) (O0 : Old Z n0 h0) (hz0 : ¬ z0 = (0 : Int32)) (hcc0 : ¬ cc0 < (0 : Int32) ∧ ¬ (255 : Int32) < cc0) (hcc1 : ¬ cc1 < (0 : Int32) ∧ ¬ (255 : Int32) < cc1) (hdd0 : ¬ dd0 < (0 : Int32) ∧ ¬ (255 : Int32) < dd0) (hdd1 : ¬ dd1 < (0 : Int32) ∧ ¬ (255 : Int32) < dd1) (O_1 : Sta Z Z.heap "java/lang/String" "COMPACT_STRINGS" "Z" (.int z0)) (F_1 : Exa Z h0 a1 "com/example/keelson/keelson/cluster/Ballot") (F_2 : Fld Z h0 a1 "com/example/keelson/keelson/cluster/Ballot" "round" "J" (.long x1)) (F_3 : Fld Z h0 a1 "com/example/keelson/keelson/cluster/Ballot" "proposer" "Ljava/lang/String;" (.ref s1a)) (F_4 : Exa Z h0 a2 "com/example/keelson/keelson/cluster/Ballot") (F_5 : Fld Z h0 a2 "com/example/keelson/keelson/cluster/Ballot" "round" "J" (.long x2)) (F_6 : Fld Z h0 a2 "com/example/keelson/keelson/cluster/Ballot" "proposer" "Ljava/lang/String;" (.ref s2a)) (F_7 : Exa Z h0 s1a "java/lang/String") (F_8 : Fld Z h0 s1a "java/lang/String" "value" "[B" (.ref t1a)) (F_9 : Fld Z h0 s1a "java/lang/String" "coder" "B" (.int (0 : Int32))) (F_10 : Exa Z h0 s2a "java/lang/String") (F_11 : Fld Z h0 s2a "java/lang/String" "value" "[B" (.ref t2a)) (F_12 : Fld Z h0 s2a "java/lang/String" "coder" "B" (.int (0 : Int32))) (F_13 : Arv Z h0 t1a k1a .byte (1 : Int32) [(.int cc0.toInt8.toInt32)] (.int (0 : Int32))) (F_14 : Arv Z h0 t2a k2a .byte (2 : Int32) [(.int dd0.toInt8.toInt32), (.int dd1.toInt8.toInt32)] (.int (0 : Int32))) :
    Ctr l Z (⟨"com/example/keelson/keelson/cluster/Ballot", "compareTo", "(Lcom/example/keelson/keelson/cluster/Ballot;)I"⟩ : MethodName) prog_19_method_2_code 3 (some .int) (Rm 4 0 0 63) #[(.ref a1), (.ref a2)] h0 (own_Q48 Z a1 a2 x1 x2 s1a s2a z0 t1a k1a t2a k2a cc0 cc1 dd0 dd1 h0 n0) ws := by
  refine MetFree.of_bodySF (plainFor_of_name own_pn5) hisR ?_
  intro p e s m args below meth c s₁ Bd hml0 hP hK
  obtain ⟨rfl, hZ, hh⟩ := hP
  have hx := Bd.exec
  have hby := Bd.bytes
  have hlk : meth.locks = false := Bd.notSynchronized
  have hml : c.maxLocals = 3 := hml0
  have hown : s.vm.findClass "com/example/keelson/keelson/cluster/Ballot" = some m.cls := findClass_of_methodNamed Bd.named
  have hnm := (name_of_methodNamed Bd.named Bd.method).1
  have X0 : Stand p l e (Rm 4 0 0 63) s m #[(.ref a1), (.ref a2)] below meth c s₁ [] 0 0 := Stand.of_body Bd
  have e0 : s₁.heap = h0 := by rw [← hh, Bd.state]; rfl
  have N0 := Fr.nil n0
  show Goes p.tables e below (fun t o => ∃ v L, o = .returned v ∧ (own_Q48 Z a1 a2 x1 x2 s1a s2a z0 t1a k1a t2a k2a cc0 cc1 dd0 dd1 h0 n0) v t.heap L ∧ FrameEnd s o t L ((Rm 4 0 0 63)).cells ((Rm 4 0 0 63)).slots) _
  refine Goes.via (B := s₁.setTop (mkF m 0 #[rv a1, rv a2, u_] [])) (fun t k => castTop (own_ef48 m a1 a2) k) ?_
  refine Goes.via (B := s₁.setTop (mkF m 1 _ [(.ref a1)])) (fun t k => XS.aloadN X0.here hx rfl (hb hby own_d_prog_19_method_2_code_0) rfl rfl k) ?_
  obtain ⟨T1, X1, e1, st1⟩ := getF X0 hx hZ hown (host := "") (Or.inl (own_hw hw 31 rfl)) Via.refl e0 F_2 (g := (mkF m 1 #[rv a1, rv a2, u_] [(.ref a1)])) rfl rfl (hb hby own_d_prog_19_method_2_code_1)
  refine Goes.via (B := T1.setTop (mkF m 4 #[rv a1, rv a2, u_] [(.long x1)])) (fun t k => st1 _ k) ?_
  refine Goes.via (B := T1.setTop (mkF m 5 _ [(.ref a2), (.long x1)])) (fun t k => XS.aloadN X1.here hx rfl (hb hby own_d_prog_19_method_2_code_4) rfl rfl k) ?_
  obtain ⟨T2, X2, e2, st2⟩ := getF X1 hx hZ hown (host := "") (Or.inl (own_hw hw 31 rfl)) Via.refl e1 F_5 (g := (mkF m 5 #[rv a1, rv a2, u_] [(.ref a2), (.long x1)])) rfl rfl (hb hby own_d_prog_19_method_2_code_5)
  refine Goes.via (B := T2.setTop (mkF m 8 #[rv a1, rv a2, u_] [(.long x2), (.long x1)])) (fun t k => st2 _ k) ?_
  obtain ⟨_, T3, L3, X3, ⟨r3, rfl, M3, K3, p3_0⟩, st3⟩ := callStatic X2 hx hZ hown (own_hw hw 40 rfl) (own_hw hw 41 rfl) (own_hw hw 42 rfl) (own_hw hw 43 rfl) (by decide) (argsL := [(.long x1), (.long x2)]) (rest := []) (own_m11 l Z a0 hw [] x1 x2 h0 n0 O0 ) e2 (lenOf own_pd13 rfl) (pc := 8) (Ls := #[rv a1, rv a2, u_]) (st := [(.long x2), (.long x1)]) rfl (by rw [hml]; rfl) (hb hby own_d_prog_19_method_2_code_8) (W := 0) (Nat.le_of_eq rfl) (by decide) (by decide) (by decide) (by decide)
  have N3 := Fr.app N0 M3
  refine Goes.via (B := T3.setTop (mkF m 11 #[rv a1, rv a2, u_] [(.int r3)])) (fun t k => st3 _ k) ?_
  refine Goes.via (B := T3.setTop (mkF m 12 _ [])) (fun t k => XS.istoreN X3.here hx rfl (hb hby own_d_prog_19_method_2_code_11) rfl (l' := #[rv a1, rv a2, iv r3]) rfl k) ?_
  refine Goes.via (B := T3.setTop (mkF m 13 _ [(.int r3)])) (fun t k => XS.iloadN X3.here hx rfl (hb hby own_d_prog_19_method_2_code_12) rfl k) ?_
  by_cases hlt : x1 < x2
  · rw [if_pos hlt] at p3_0
    subst p3_0
    refine Goes.via (B := T3.setTop (mkF m 28 _ [])) (fun t k => XS.ifYes X3.here hx rfl (pc0 := 13) (pc' := 28) rfl (hb hby own_d_prog_19_method_2_code_13) rfl (XT.i0_ne_t (by decide)) (by decide) (by decide) k) ?_
    refine Goes.via (B := T3.setTop (mkF m 29 _ [(.int (-1 : Int32))])) (fun t k => XS.iloadN X3.here hx rfl (hb hby own_d_prog_19_method_2_code_28) rfl k) ?_
    exact finI (Q := (own_Q48 Z a1 a2 x1 x2 s1a s2a z0 t1a k1a t2a k2a cc0 cc1 dd0 dd1 h0 n0)) (F := FrameEnd) (C := ((Rm 4 0 0 63)).cells) (S := ((Rm 4 0 0 63)).slots) X3 hx Bd.returns (hb hby own_d_prog_19_method_2_code_29) K3 ⟨(-1 : Int32), rfl, N3, rfl, (by unfold own_exp; rw [if_pos hlt]; decide)⟩ (lvN X3 hlk (by decide) (by decide))
  · rw [if_neg hlt] at p3_0
    by_cases heq : x1 = x2
    · rw [if_pos heq] at p3_0
      have hng : ¬ x2 < x1 := by rw [heq]; rw [Int64.lt_iff_toInt_lt]; omega
      subst p3_0
      refine Goes.via (B := T3.setTop (mkF m 16 _ [])) (fun t k => XS.ifNo X3.here hx rfl (hb hby own_d_prog_19_method_2_code_13) rfl (XT.i0_ne_f rfl) k) ?_
      refine Goes.via (B := T3.setTop (mkF m 17 _ [(.ref a1)])) (fun t k => XS.aloadN X3.here hx rfl (hb hby own_d_prog_19_method_2_code_16) rfl rfl k) ?_
      obtain ⟨T4, X4, e4, st4⟩ := getF X3 hx hZ hown (host := "") (Or.inl (own_hw hw 33 rfl)) Via.refl K3 F_3 (g := (mkF m 17 #[rv a1, rv a2, iv (0 : Int32)] [(.ref a1)])) rfl rfl (hb hby own_d_prog_19_method_2_code_17)
      refine Goes.via (B := T4.setTop (mkF m 20 #[rv a1, rv a2, iv (0 : Int32)] [(.ref s1a)])) (fun t k => st4 _ k) ?_
      refine Goes.via (B := T4.setTop (mkF m 21 _ [(.ref a2), (.ref s1a)])) (fun t k => XS.aloadN X4.here hx rfl (hb hby own_d_prog_19_method_2_code_20) rfl rfl k) ?_
      obtain ⟨T5, X5, e5, st5⟩ := getF X4 hx hZ hown (host := "") (Or.inl (own_hw hw 33 rfl)) Via.refl e4 F_6 (g := (mkF m 21 #[rv a1, rv a2, iv (0 : Int32)] [(.ref a2), (.ref s1a)])) rfl rfl (hb hby own_d_prog_19_method_2_code_21)
      refine Goes.via (B := T5.setTop (mkF m 24 #[rv a1, rv a2, iv (0 : Int32)] [(.ref s2a), (.ref s1a)])) (fun t k => st5 _ k) ?_
      obtain ⟨_, T6, L6, X6, ⟨r6, rfl, M6, K6, p6_0⟩, st6⟩ := callVirt X5 hx hZ hown (own_hw hw 50 rfl) (own_hw hw 51 rfl) (own_hw hw 53 rfl) (notFace_of_selects (args := #[]) (mvT hZ (own_hw hw 53 rfl))) (own_hw hw 52 rfl) (own_hw hw 5 rfl) (own_hw hw 54 rfl) (by decide) (argsL := [(.ref s2a)]) (rest := []) (own_m47 l Z a0 hw [] s1a s2a z0 t1a k1a t2a k2a cc0 cc1 dd0 dd1 h0 n0 O0 hz0 hcc0 hcc1 hdd0 hdd1 O_1 F_7 F_8 F_9 F_10 F_11 F_12 F_13 F_14) e5 F_7 (lenOf own_pd14 rfl) (pc := 24) (Ls := #[rv a1, rv a2, iv (0 : Int32)]) (st := [(.ref s2a), (.ref s1a)]) rfl (by rw [hml]; rfl) (hb hby own_d_prog_19_method_2_code_24) (W := 0) (Nat.le_of_eq rfl) (by decide) (by decide) (by decide) (by decide)
      have N6 := Fr.app N3 M6
      refine Goes.via (B := T6.setTop (mkF m 27 #[rv a1, rv a2, iv (0 : Int32)] [(.int r6)])) (fun t k => st6 _ k) ?_
      refine Goes.via (B := T6.setTop (mkF m 28 _ [])) (fun t k => XS.istoreN X6.here hx rfl (hb hby own_d_prog_19_method_2_code_27) rfl (l' := #[rv a1, rv a2, iv r6]) rfl k) ?_
      refine Goes.via (B := T6.setTop (mkF m 29 _ [(.int r6)])) (fun t k => XS.iloadN X6.here hx rfl (hb hby own_d_prog_19_method_2_code_28) rfl k) ?_
      exact finI (Q := (own_Q48 Z a1 a2 x1 x2 s1a s2a z0 t1a k1a t2a k2a cc0 cc1 dd0 dd1 h0 n0)) (F := FrameEnd) (C := ((Rm 4 0 0 63)).cells) (S := ((Rm 4 0 0 63)).slots) X6 hx Bd.returns (hb hby own_d_prog_19_method_2_code_29) K6 ⟨r6, rfl, N6, rfl, (by unfold own_exp; rw [if_neg hlt, if_neg hng]; exact p6_0)⟩ (lvN X6 hlk (by decide) (by decide))
    · rw [if_neg heq] at p3_0
      have hgt : x2 < x1 := by
        have n' : ¬ x1.toInt = x2.toInt := fun z => heq (Int64.toInt_inj.mp z)
        rw [Int64.lt_iff_toInt_lt] at *; omega
      subst p3_0
      refine Goes.via (B := T3.setTop (mkF m 28 _ [])) (fun t k => XS.ifYes X3.here hx rfl (pc0 := 13) (pc' := 28) rfl (hb hby own_d_prog_19_method_2_code_13) rfl (XT.i0_ne_t (by decide)) (by decide) (by decide) k) ?_
      refine Goes.via (B := T3.setTop (mkF m 29 _ [(.int (1 : Int32))])) (fun t k => XS.iloadN X3.here hx rfl (hb hby own_d_prog_19_method_2_code_28) rfl k) ?_
      exact finI (Q := (own_Q48 Z a1 a2 x1 x2 s1a s2a z0 t1a k1a t2a k2a cc0 cc1 dd0 dd1 h0 n0)) (F := FrameEnd) (C := ((Rm 4 0 0 63)).cells) (S := ((Rm 4 0 0 63)).slots) X3 hx Bd.returns (hb hby own_d_prog_19_method_2_code_29) K3 ⟨(1 : Int32), rfl, N3, rfl, (by unfold own_exp; rw [if_neg hlt, if_pos hgt]; decide)⟩ (lvN X3 hlk (by decide) (by decide))
theorem own_ef49 (m : MethodId) (x0 : Addr) (x1 : Addr) (x2 : Int32)  : entryFrame m #[(.ref x0), (.ref x1), (.int x2)] 4 = mkF m 0 #[rv x0, rv x1, iv x2, u_] [] := by first | (simp [entryFrame, mkF, argsToLocals, Value.category]; done) | rfl
abbrev own_Q49 (Z : State) (t1a : Addr) (k1a : ClassId) (t2a : Addr) (k2a : ClassId) (cc0 : Int32) (cc1 : Int32) (dd0 : Int32) (dd1 : Int32) (h0 : Heap) (n0 : Nat) (v : Option Value) (h : Heap) (L : List Loc) : Prop := ∃ r : Int32, v = some (.int r) ∧ Fr n0 L ∧ h = h0 ∧ r = (-1 : Int32)
set_option maxRecDepth 65536 in
set_option maxHeartbeats 40000000 in
theorem own_m49 (l : Launch) (Z : State) (a0 : Array Value) (hw : ∀ d ∈ tables_1, d.before a0 Z = true) (ws : List Jvm.Cond) (t1a : Addr) (k1a : ClassId) (t2a : Addr) (k2a : ClassId) (cc0 : Int32) (cc1 : Int32) (dd0 : Int32) (dd1 : Int32) (h0 : Heap) (n0 : Nat) (O0 : Old Z n0 h0) (F_1 : Arv Z h0 t1a k1a .byte (2 : Int32) [(.int cc0.toInt8.toInt32), (.int cc1.toInt8.toInt32)] (.int (0 : Int32))) (F_2 : Arv Z h0 t2a k2a .byte (0 : Int32) [] (.int (0 : Int32))) :
    Ctr l Z (⟨"jdk/internal/util/ArraysSupport", "mismatch", "([B[BI)I"⟩ : MethodName) jdk_48_method_13_code 4 (some .int) (Rm 0 0 0 0) #[(.ref t1a), (.ref t2a), (.int (0 : Int32))] h0 (own_Q49 Z t1a k1a t2a k2a cc0 cc1 dd0 dd1 h0 n0) ws := by
  refine MetFree.of_bodySF (plainFor_of_name own_pn7) hisR ?_
  intro p e s m args below meth c s₁ Bd hml0 hP hK
  obtain ⟨rfl, hZ, hh⟩ := hP
  have hx := Bd.exec
  have hby := Bd.bytes
  have hlk : meth.locks = false := Bd.notSynchronized
  have hml : c.maxLocals = 4 := hml0
  have hown : s.vm.findClass "jdk/internal/util/ArraysSupport" = some m.cls := findClass_of_methodNamed Bd.named
  have hnm := (name_of_methodNamed Bd.named Bd.method).1
  have X0 : Stand p l e (Rm 0 0 0 0) s m #[(.ref t1a), (.ref t2a), (.int (0 : Int32))] below meth c s₁ [] 0 0 := Stand.of_body Bd
  have e0 : s₁.heap = h0 := by rw [← hh, Bd.state]; rfl
  have N0 := Fr.nil n0
  show Goes p.tables e below (fun t o => ∃ v L, o = .returned v ∧ (own_Q49 Z t1a k1a t2a k2a cc0 cc1 dd0 dd1 h0 n0) v t.heap L ∧ FrameEnd s o t L ((Rm 0 0 0 0)).cells ((Rm 0 0 0 0)).slots) _
  refine Goes.via (B := s₁.setTop (mkF m 0 #[rv t1a, rv t2a, iv (0 : Int32), u_] [])) (fun t k => castTop (own_ef49 m t1a t2a (0 : Int32)) k) ?_
  refine Goes.via (B := s₁.setTop (mkF m 1 _ [(.int (0 : Int32))])) (fun t k => XS.iconst X0.here hx rfl (hb hby own_d_jdk_48_method_13_code_0) k) ?_
  refine Goes.via (B := s₁.setTop (mkF m 2 _ [])) (fun t k => XS.istoreN X0.here hx rfl (hb hby own_d_jdk_48_method_13_code_1) rfl (l' := #[rv t1a, rv t2a, iv (0 : Int32), iv (0 : Int32)]) rfl k) ?_
  refine Goes.via (B := s₁.setTop (mkF m 3 _ [(.int (0 : Int32))])) (fun t k => XS.iloadN X0.here hx rfl (hb hby own_d_jdk_48_method_13_code_2) rfl k) ?_
  refine Goes.via (B := s₁.setTop (mkF m 5 _ [(.int (7 : Int32)), (.int (0 : Int32))])) (fun t k => XS.bipush X0.here hx rfl (hb hby own_d_jdk_48_method_13_code_3) k) ?_
  refine Goes.via (B := s₁.setTop (mkF m 49 _ [])) (fun t k => XS.icmpYes X0.here hx rfl (pc0 := 5) (pc' := 49) rfl (hb hby own_d_jdk_48_method_13_code_5) rfl (XT.ii_le_t (by decide)) (by decide) (by decide) k) ?_
  refine Goes.via (B := s₁.setTop (mkF m 50 _ [(.int (0 : Int32))])) (fun t k => XS.iloadN X0.here hx rfl (hb hby own_d_jdk_48_method_13_code_49) rfl k) ?_
  refine Goes.via (B := s₁.setTop (mkF m 51 _ [(.int (0 : Int32)), (.int (0 : Int32))])) (fun t k => XS.iloadN X0.here hx rfl (hb hby own_d_jdk_48_method_13_code_50) rfl k) ?_
  refine Goes.via (B := s₁.setTop (mkF m 71 _ [])) (fun t k => XS.icmpYes X0.here hx rfl (pc0 := 51) (pc' := 71) rfl (hb hby own_d_jdk_48_method_13_code_51) rfl (XT.ii_ge_t (by decide)) (by decide) (by decide) k) ?_
  refine Goes.via (B := s₁.setTop (mkF m 72 _ [(.int (-1 : Int32))])) (fun t k => XS.iconst X0.here hx rfl (hb hby own_d_jdk_48_method_13_code_71) k) ?_
  exact finI (Q := (own_Q49 Z t1a k1a t2a k2a cc0 cc1 dd0 dd1 h0 n0)) (F := FrameEnd) (C := ((Rm 0 0 0 0)).cells) (S := ((Rm 0 0 0 0)).slots) X0 hx Bd.returns (hb hby own_d_jdk_48_method_13_code_72) e0 ⟨(-1 : Int32), rfl, N0, rfl, rfl⟩ (lvN X0 hlk (by decide) (by decide))
theorem own_ef50 (m : MethodId) (x0 : Addr) (x1 : Addr) (x2 : Int32) (x3 : Int32)  : entryFrame m #[(.ref x0), (.ref x1), (.int x2), (.int x3)] 6 = mkF m 0 #[rv x0, rv x1, iv x2, iv x3, u_, u_] [] := by first | (simp [entryFrame, mkF, argsToLocals, Value.category]; done) | rfl
abbrev own_Q50 (Z : State) (t1a : Addr) (k1a : ClassId) (t2a : Addr) (k2a : ClassId) (cc0 : Int32) (cc1 : Int32) (dd0 : Int32) (dd1 : Int32) (h0 : Heap) (n0 : Nat) (v : Option Value) (h : Heap) (L : List Loc) : Prop := ∃ r : Int32, v = some (.int r) ∧ Fr n0 L ∧ h = h0 ∧ own_sg r = own_lex (2 : Int32) cc0 cc1 (0 : Int32) dd0 dd1
set_option maxRecDepth 65536 in
set_option maxHeartbeats 40000000 in
theorem own_m50 (l : Launch) (Z : State) (a0 : Array Value) (hw : ∀ d ∈ tables_1, d.before a0 Z = true) (ws : List Jvm.Cond) (t1a : Addr) (k1a : ClassId) (t2a : Addr) (k2a : ClassId) (cc0 : Int32) (cc1 : Int32) (dd0 : Int32) (dd1 : Int32) (h0 : Heap) (n0 : Nat) (O0 : Old Z n0 h0) (hcc0 : ¬ cc0 < (0 : Int32) ∧ ¬ (255 : Int32) < cc0) (hcc1 : ¬ cc1 < (0 : Int32) ∧ ¬ (255 : Int32) < cc1) (hdd0 : ¬ dd0 < (0 : Int32) ∧ ¬ (255 : Int32) < dd0) (hdd1 : ¬ dd1 < (0 : Int32) ∧ ¬ (255 : Int32) < dd1) (F_1 : Arv Z h0 t1a k1a .byte (2 : Int32) [(.int cc0.toInt8.toInt32), (.int cc1.toInt8.toInt32)] (.int (0 : Int32))) (F_2 : Arv Z h0 t2a k2a .byte (0 : Int32) [] (.int (0 : Int32))) :
    Ctr l Z (⟨"java/lang/StringLatin1", "compareTo", "([B[BII)I"⟩ : MethodName) jdk_43_method_15_code 6 (some .int) (Rm 1 0 0 15) #[(.ref t1a), (.ref t2a), (.int (2 : Int32)), (.int (0 : Int32))] h0 (own_Q50 Z t1a k1a t2a k2a cc0 cc1 dd0 dd1 h0 n0) ws := by
  refine MetFree.of_bodySF (plainFor_of_name own_pn0) hisR ?_
  intro p e s m args below meth c s₁ Bd hml0 hP hK
  obtain ⟨rfl, hZ, hh⟩ := hP
  have hx := Bd.exec
  have hby := Bd.bytes
  have hlk : meth.locks = false := Bd.notSynchronized
  have hml : c.maxLocals = 6 := hml0
  have hown : s.vm.findClass "java/lang/StringLatin1" = some m.cls := findClass_of_methodNamed Bd.named
  have hnm := (name_of_methodNamed Bd.named Bd.method).1
  have X0 : Stand p l e (Rm 1 0 0 15) s m #[(.ref t1a), (.ref t2a), (.int (2 : Int32)), (.int (0 : Int32))] below meth c s₁ [] 0 0 := Stand.of_body Bd
  have e0 : s₁.heap = h0 := by rw [← hh, Bd.state]; rfl
  have N0 := Fr.nil n0
  show Goes p.tables e below (fun t o => ∃ v L, o = .returned v ∧ (own_Q50 Z t1a k1a t2a k2a cc0 cc1 dd0 dd1 h0 n0) v t.heap L ∧ FrameEnd s o t L ((Rm 1 0 0 15)).cells ((Rm 1 0 0 15)).slots) _
  refine Goes.via (B := s₁.setTop (mkF m 0 #[rv t1a, rv t2a, iv (2 : Int32), iv (0 : Int32), u_, u_] [])) (fun t k => castTop (own_ef50 m t1a t2a (2 : Int32) (0 : Int32)) k) ?_
  refine Goes.via (B := s₁.setTop (mkF m 1 _ [(.int (2 : Int32))])) (fun t k => XS.iloadN X0.here hx rfl (hb hby own_d_jdk_43_method_15_code_0) rfl k) ?_
  refine Goes.via (B := s₁.setTop (mkF m 2 _ [(.int (0 : Int32)), (.int (2 : Int32))])) (fun t k => XS.iloadN X0.here hx rfl (hb hby own_d_jdk_43_method_15_code_1) rfl k) ?_
  obtain ⟨_, T1, L1, X1, ⟨r1, rfl, M1, K1, p1_0⟩, st1⟩ := callStatic X0 hx hZ hown (own_hw hw 70 rfl) (own_hw hw 71 rfl) (own_hw hw 72 rfl) (own_hw hw 73 rfl) (by decide) (argsL := [(.int (2 : Int32)), (.int (0 : Int32))]) (rest := []) (own_m14 l Z a0 hw [] (2 : Int32) (0 : Int32) h0 n0 O0 ) e0 (lenOf own_pd8 rfl) (pc := 2) (Ls := #[rv t1a, rv t2a, iv (2 : Int32), iv (0 : Int32), u_, u_]) (st := [(.int (0 : Int32)), (.int (2 : Int32))]) rfl (by rw [hml]; rfl) (hb hby own_d_jdk_43_method_15_code_2) (W := 0) (Nat.le_of_eq rfl) (by decide) (by decide) (by decide) (by decide)
  have N1 := Fr.app N0 M1
  refine Goes.via (B := T1.setTop (mkF m 5 #[rv t1a, rv t2a, iv (2 : Int32), iv (0 : Int32), u_, u_] [(.int r1)])) (fun t k => st1 _ k) ?_
  obtain rfl : r1 = (0 : Int32) := p1_0.trans (by decide)
  refine Goes.via (B := T1.setTop (mkF m 7 _ [])) (fun t k => XS.istore X1.here hx rfl (hb hby own_d_jdk_43_method_15_code_5) rfl (l' := #[rv t1a, rv t2a, iv (2 : Int32), iv (0 : Int32), iv (0 : Int32), u_]) rfl k) ?_
  refine Goes.via (B := T1.setTop (mkF m 8 _ [(.ref t1a)])) (fun t k => XS.aloadN X1.here hx rfl (hb hby own_d_jdk_43_method_15_code_7) rfl rfl k) ?_
  refine Goes.via (B := T1.setTop (mkF m 9 _ [(.ref t2a), (.ref t1a)])) (fun t k => XS.aloadN X1.here hx rfl (hb hby own_d_jdk_43_method_15_code_8) rfl rfl k) ?_
  refine Goes.via (B := T1.setTop (mkF m 11 _ [(.int (0 : Int32)), (.ref t2a), (.ref t1a)])) (fun t k => XS.iload X1.here hx rfl (hb hby own_d_jdk_43_method_15_code_9) rfl k) ?_
  obtain ⟨_, T2, L2, X2, ⟨r2, rfl, M2, K2, p2_0⟩, st2⟩ := callStatic X1 hx hZ hown (own_hw hw 74 rfl) (own_hw hw 75 rfl) (own_hw hw 76 rfl) (own_hw hw 77 rfl) (by decide) (argsL := [(.ref t1a), (.ref t2a), (.int (0 : Int32))]) (rest := []) (own_m49 l Z a0 hw [] t1a k1a t2a k2a cc0 cc1 dd0 dd1 h0 n0 O0 F_1 F_2) K1 (lenOf own_pd9 rfl) (pc := 11) (Ls := #[rv t1a, rv t2a, iv (2 : Int32), iv (0 : Int32), iv (0 : Int32), u_]) (st := [(.int (0 : Int32)), (.ref t2a), (.ref t1a)]) rfl (by rw [hml]; rfl) (hb hby own_d_jdk_43_method_15_code_11) (W := 0) (Nat.le_of_eq rfl) (by decide) (by decide) (by decide) (by decide)
  have N2 := Fr.app N1 M2
  refine Goes.via (B := T2.setTop (mkF m 14 #[rv t1a, rv t2a, iv (2 : Int32), iv (0 : Int32), iv (0 : Int32), u_] [(.int r2)])) (fun t k => st2 _ k) ?_
  obtain rfl : r2 = (-1 : Int32) := p2_0
  refine Goes.via (B := T2.setTop (mkF m 16 _ [])) (fun t k => XS.istore X2.here hx rfl (hb hby own_d_jdk_43_method_15_code_14) rfl (l' := #[rv t1a, rv t2a, iv (2 : Int32), iv (0 : Int32), iv (0 : Int32), iv (-1 : Int32)]) rfl k) ?_
  refine Goes.via (B := T2.setTop (mkF m 18 _ [(.int (-1 : Int32))])) (fun t k => XS.iload X2.here hx rfl (hb hby own_d_jdk_43_method_15_code_16) rfl k) ?_
  refine Goes.via (B := T2.setTop (mkF m 21 _ [])) (fun t k => XS.ifNo X2.here hx rfl (hb hby own_d_jdk_43_method_15_code_18) rfl (XT.i0_ge_f (by decide)) k) ?_
  refine Goes.via (B := T2.setTop (mkF m 22 _ [(.int (2 : Int32))])) (fun t k => XS.iloadN X2.here hx rfl (hb hby own_d_jdk_43_method_15_code_21) rfl k) ?_
  refine Goes.via (B := T2.setTop (mkF m 23 _ [(.int (0 : Int32)), (.int (2 : Int32))])) (fun t k => XS.iloadN X2.here hx rfl (hb hby own_d_jdk_43_method_15_code_22) rfl k) ?_
  refine Goes.via (B := T2.setTop (mkF m 24 _ [(.int ((2 : Int32) - (0 : Int32)))])) (fun t k => XS.isub X2.here hx rfl (hb hby own_d_jdk_43_method_15_code_23) rfl k) ?_
  refine Goes.via (B := T2.setTop (mkF m 40 _ [(.int ((2 : Int32) - (0 : Int32)))])) (fun t k => XS.goto X2.here hx rfl (pc0 := 24) (pc' := 40) rfl (hb hby own_d_jdk_43_method_15_code_24) (by decide) (by decide) k) ?_
  exact finI (Q := (own_Q50 Z t1a k1a t2a k2a cc0 cc1 dd0 dd1 h0 n0)) (F := FrameEnd) (C := ((Rm 1 0 0 15)).cells) (S := ((Rm 1 0 0 15)).slots) X2 hx Bd.returns (hb hby own_d_jdk_43_method_15_code_40) K2 ⟨((2 : Int32) - (0 : Int32)), rfl, N2, rfl, (by simp [own_lex])⟩ (lvN X2 hlk (by decide) (by decide))
theorem own_ef51 (m : MethodId) (x0 : Addr) (x1 : Addr)  : entryFrame m #[(.ref x0), (.ref x1)] 4 = mkF m 0 #[rv x0, rv x1, u_, u_] [] := by first | (simp [entryFrame, mkF, argsToLocals, Value.category]; done) | rfl
abbrev own_Q51 (Z : State) (t1a : Addr) (k1a : ClassId) (t2a : Addr) (k2a : ClassId) (cc0 : Int32) (cc1 : Int32) (dd0 : Int32) (dd1 : Int32) (h0 : Heap) (n0 : Nat) (v : Option Value) (h : Heap) (L : List Loc) : Prop := ∃ r : Int32, v = some (.int r) ∧ Fr n0 L ∧ h = h0 ∧ own_sg r = own_lex (2 : Int32) cc0 cc1 (0 : Int32) dd0 dd1
set_option maxRecDepth 65536 in
set_option maxHeartbeats 40000000 in
theorem own_m51 (l : Launch) (Z : State) (a0 : Array Value) (hw : ∀ d ∈ tables_1, d.before a0 Z = true) (ws : List Jvm.Cond) (t1a : Addr) (k1a : ClassId) (t2a : Addr) (k2a : ClassId) (cc0 : Int32) (cc1 : Int32) (dd0 : Int32) (dd1 : Int32) (h0 : Heap) (n0 : Nat) (O0 : Old Z n0 h0) (hcc0 : ¬ cc0 < (0 : Int32) ∧ ¬ (255 : Int32) < cc0) (hcc1 : ¬ cc1 < (0 : Int32) ∧ ¬ (255 : Int32) < cc1) (hdd0 : ¬ dd0 < (0 : Int32) ∧ ¬ (255 : Int32) < dd0) (hdd1 : ¬ dd1 < (0 : Int32) ∧ ¬ (255 : Int32) < dd1) (F_1 : Arv Z h0 t1a k1a .byte (2 : Int32) [(.int cc0.toInt8.toInt32), (.int cc1.toInt8.toInt32)] (.int (0 : Int32))) (F_2 : Arv Z h0 t2a k2a .byte (0 : Int32) [] (.int (0 : Int32))) :
    Ctr l Z (⟨"java/lang/StringLatin1", "compareTo", "([B[B)I"⟩ : MethodName) jdk_43_method_14_code 4 (some .int) (Rm 2 0 0 32) #[(.ref t1a), (.ref t2a)] h0 (own_Q51 Z t1a k1a t2a k2a cc0 cc1 dd0 dd1 h0 n0) ws := by
  refine MetFree.of_bodySF (plainFor_of_name own_pn0) hisR ?_
  intro p e s m args below meth c s₁ Bd hml0 hP hK
  obtain ⟨rfl, hZ, hh⟩ := hP
  have hx := Bd.exec
  have hby := Bd.bytes
  have hlk : meth.locks = false := Bd.notSynchronized
  have hml : c.maxLocals = 4 := hml0
  have hown : s.vm.findClass "java/lang/StringLatin1" = some m.cls := findClass_of_methodNamed Bd.named
  have hnm := (name_of_methodNamed Bd.named Bd.method).1
  have X0 : Stand p l e (Rm 2 0 0 32) s m #[(.ref t1a), (.ref t2a)] below meth c s₁ [] 0 0 := Stand.of_body Bd
  have e0 : s₁.heap = h0 := by rw [← hh, Bd.state]; rfl
  have N0 := Fr.nil n0
  show Goes p.tables e below (fun t o => ∃ v L, o = .returned v ∧ (own_Q51 Z t1a k1a t2a k2a cc0 cc1 dd0 dd1 h0 n0) v t.heap L ∧ FrameEnd s o t L ((Rm 2 0 0 32)).cells ((Rm 2 0 0 32)).slots) _
  refine Goes.via (B := s₁.setTop (mkF m 0 #[rv t1a, rv t2a, u_, u_] [])) (fun t k => castTop (own_ef51 m t1a t2a) k) ?_
  refine Goes.via (B := s₁.setTop (mkF m 1 _ [(.ref t1a)])) (fun t k => XS.aloadN X0.here hx rfl (hb hby own_d_jdk_43_method_14_code_0) rfl rfl k) ?_
  obtain ⟨cl1, Ar1, q1, S1, N1, H1, G1⟩ := id F_1
  refine Goes.via (B := s₁.setTop (mkF m 2 #[rv t1a, rv t2a, u_, u_] [(.int (2 : Int32))])) (fun t k => X0.arraylength hx (by rw [e0]; exact Ar1.1) (State.isArrayOf_alike hZ.alike Ar1.2.1) (g := (mkF m 1 #[rv t1a, rv t2a, u_, u_] [(.ref t1a)])) rfl rfl (hb hby own_d_jdk_43_method_14_code_1) t (by rw [(len_of S1 N1)]; exact k)) ?_
  refine Goes.via (B := s₁.setTop (mkF m 3 _ [])) (fun t k => XS.istoreN X0.here hx rfl (hb hby own_d_jdk_43_method_14_code_2) rfl (l' := #[rv t1a, rv t2a, iv (2 : Int32), u_]) rfl k) ?_
  refine Goes.via (B := s₁.setTop (mkF m 4 _ [(.ref t2a)])) (fun t k => XS.aloadN X0.here hx rfl (hb hby own_d_jdk_43_method_14_code_3) rfl rfl k) ?_
  obtain ⟨cl2, Ar2, q2, S2, N2, H2, G2⟩ := id F_2
  refine Goes.via (B := s₁.setTop (mkF m 5 #[rv t1a, rv t2a, iv (2 : Int32), u_] [(.int (0 : Int32))])) (fun t k => X0.arraylength hx (by rw [e0]; exact Ar2.1) (State.isArrayOf_alike hZ.alike Ar2.2.1) (g := (mkF m 4 #[rv t1a, rv t2a, iv (2 : Int32), u_] [(.ref t2a)])) rfl rfl (hb hby own_d_jdk_43_method_14_code_4) t (by rw [(len_of S2 N2)]; exact k)) ?_
  refine Goes.via (B := s₁.setTop (mkF m 6 _ [])) (fun t k => XS.istoreN X0.here hx rfl (hb hby own_d_jdk_43_method_14_code_5) rfl (l' := #[rv t1a, rv t2a, iv (2 : Int32), iv (0 : Int32)]) rfl k) ?_
  refine Goes.via (B := s₁.setTop (mkF m 7 _ [(.ref t1a)])) (fun t k => XS.aloadN X0.here hx rfl (hb hby own_d_jdk_43_method_14_code_6) rfl rfl k) ?_
  refine Goes.via (B := s₁.setTop (mkF m 8 _ [(.ref t2a), (.ref t1a)])) (fun t k => XS.aloadN X0.here hx rfl (hb hby own_d_jdk_43_method_14_code_7) rfl rfl k) ?_
  refine Goes.via (B := s₁.setTop (mkF m 9 _ [(.int (2 : Int32)), (.ref t2a), (.ref t1a)])) (fun t k => XS.iloadN X0.here hx rfl (hb hby own_d_jdk_43_method_14_code_8) rfl k) ?_
  refine Goes.via (B := s₁.setTop (mkF m 10 _ [(.int (0 : Int32)), (.int (2 : Int32)), (.ref t2a), (.ref t1a)])) (fun t k => XS.iloadN X0.here hx rfl (hb hby own_d_jdk_43_method_14_code_9) rfl k) ?_
  obtain ⟨_, T3, L3, X3, ⟨r3, rfl, M3, K3, p3_0⟩, st3⟩ := callStatic X0 hx hZ hown (own_hw hw 67 rfl) (own_hw hw 68 rfl) (own_hw hw 65 rfl) (own_hw hw 69 rfl) (by decide) (argsL := [(.ref t1a), (.ref t2a), (.int (2 : Int32)), (.int (0 : Int32))]) (rest := []) (own_m50 l Z a0 hw [] t1a k1a t2a k2a cc0 cc1 dd0 dd1 h0 n0 O0 hcc0 hcc1 hdd0 hdd1 F_1 F_2) e0 (lenOf own_pd10 rfl) (pc := 10) (Ls := #[rv t1a, rv t2a, iv (2 : Int32), iv (0 : Int32)]) (st := [(.int (0 : Int32)), (.int (2 : Int32)), (.ref t2a), (.ref t1a)]) rfl (by rw [hml]; rfl) (hb hby own_d_jdk_43_method_14_code_10) (W := 0) (Nat.le_of_eq rfl) (by decide) (by decide) (by decide) (by decide)
  have N3 := Fr.app N0 M3
  refine Goes.via (B := T3.setTop (mkF m 13 #[rv t1a, rv t2a, iv (2 : Int32), iv (0 : Int32)] [(.int r3)])) (fun t k => st3 _ k) ?_
  exact finI (Q := (own_Q51 Z t1a k1a t2a k2a cc0 cc1 dd0 dd1 h0 n0)) (F := FrameEnd) (C := ((Rm 2 0 0 32)).cells) (S := ((Rm 2 0 0 32)).slots) X3 hx Bd.returns (hb hby own_d_jdk_43_method_14_code_13) K3 ⟨r3, rfl, N3, rfl, p3_0⟩ (lvN X3 hlk (by decide) (by decide))
theorem own_ef52 (m : MethodId) (x0 : Addr) (x1 : Addr)  : entryFrame m #[(.ref x0), (.ref x1)] 5 = mkF m 0 #[rv x0, rv x1, u_, u_, u_] [] := by first | (simp [entryFrame, mkF, argsToLocals, Value.category]; done) | rfl
abbrev own_Q52 (Z : State) (a1 : Addr) (a2 : Addr) (z0 : Int32) (t1a : Addr) (k1a : ClassId) (t2a : Addr) (k2a : ClassId) (cc0 : Int32) (cc1 : Int32) (dd0 : Int32) (dd1 : Int32) (h0 : Heap) (n0 : Nat) (v : Option Value) (h : Heap) (L : List Loc) : Prop := ∃ r : Int32, v = some (.int r) ∧ Fr n0 L ∧ h = h0 ∧ own_sg r = own_lex (2 : Int32) cc0 cc1 (0 : Int32) dd0 dd1
set_option maxRecDepth 65536 in
set_option maxHeartbeats 40000000 in
theorem own_m52 (l : Launch) (Z : State) (a0 : Array Value) (hw : ∀ d ∈ tables_1, d.before a0 Z = true) (ws : List Jvm.Cond) (a1 : Addr) (a2 : Addr) (z0 : Int32) (t1a : Addr) (k1a : ClassId) (t2a : Addr) (k2a : ClassId) (cc0 : Int32) (cc1 : Int32) (dd0 : Int32) (dd1 : Int32) (h0 : Heap) (n0 : Nat) (O0 : Old Z n0 h0) (hz0 : ¬ z0 = (0 : Int32)) (hcc0 : ¬ cc0 < (0 : Int32) ∧ ¬ (255 : Int32) < cc0) (hcc1 : ¬ cc1 < (0 : Int32) ∧ ¬ (255 : Int32) < cc1) (hdd0 : ¬ dd0 < (0 : Int32) ∧ ¬ (255 : Int32) < dd0) (hdd1 : ¬ dd1 < (0 : Int32) ∧ ¬ (255 : Int32) < dd1) (O_1 : Sta Z Z.heap "java/lang/String" "COMPACT_STRINGS" "Z" (.int z0)) (F_1 : Exa Z h0 a1 "java/lang/String") (F_2 : Fld Z h0 a1 "java/lang/String" "value" "[B" (.ref t1a)) (F_3 : Fld Z h0 a1 "java/lang/String" "coder" "B" (.int (0 : Int32))) (F_4 : Exa Z h0 a2 "java/lang/String") (F_5 : Fld Z h0 a2 "java/lang/String" "value" "[B" (.ref t2a)) (F_6 : Fld Z h0 a2 "java/lang/String" "coder" "B" (.int (0 : Int32))) (F_7 : Arv Z h0 t1a k1a .byte (2 : Int32) [(.int cc0.toInt8.toInt32), (.int cc1.toInt8.toInt32)] (.int (0 : Int32))) (F_8 : Arv Z h0 t2a k2a .byte (0 : Int32) [] (.int (0 : Int32))) :
    Ctr l Z (⟨"java/lang/String", "compareTo", "(Ljava/lang/String;)I"⟩ : MethodName) jdk_42_method_71_code 5 (some .int) (Rm 3 0 0 47) #[(.ref a1), (.ref a2)] h0 (own_Q52 Z a1 a2 z0 t1a k1a t2a k2a cc0 cc1 dd0 dd1 h0 n0) ws := by
  refine MetFree.of_bodySF (plainFor_of_name own_pn1) hisR ?_
  intro p e s m args below meth c s₁ Bd hml0 hP hK
  obtain ⟨rfl, hZ, hh⟩ := hP
  have hx := Bd.exec
  have hby := Bd.bytes
  have hlk : meth.locks = false := Bd.notSynchronized
  have hml : c.maxLocals = 5 := hml0
  have hown : s.vm.findClass "java/lang/String" = some m.cls := findClass_of_methodNamed Bd.named
  have hnm := (name_of_methodNamed Bd.named Bd.method).1
  have X0 : Stand p l e (Rm 3 0 0 47) s m #[(.ref a1), (.ref a2)] below meth c s₁ [] 0 0 := Stand.of_body Bd
  have e0 : s₁.heap = h0 := by rw [← hh, Bd.state]; rfl
  have N0 := Fr.nil n0
  show Goes p.tables e below (fun t o => ∃ v L, o = .returned v ∧ (own_Q52 Z a1 a2 z0 t1a k1a t2a k2a cc0 cc1 dd0 dd1 h0 n0) v t.heap L ∧ FrameEnd s o t L ((Rm 3 0 0 47)).cells ((Rm 3 0 0 47)).slots) _
  refine Goes.via (B := s₁.setTop (mkF m 0 #[rv a1, rv a2, u_, u_, u_] [])) (fun t k => castTop (own_ef52 m a1 a2) k) ?_
  refine Goes.via (B := s₁.setTop (mkF m 1 _ [(.ref a1)])) (fun t k => XS.aloadN X0.here hx rfl (hb hby own_d_jdk_42_method_71_code_0) rfl rfl k) ?_
  obtain ⟨T1, X1, e1, st1⟩ := getF X0 hx hZ hown (host := "") (Or.inl (own_hw hw 55 rfl)) Via.refl e0 F_2 (g := (mkF m 1 #[rv a1, rv a2, u_, u_, u_] [(.ref a1)])) rfl rfl (hb hby own_d_jdk_42_method_71_code_1)
  refine Goes.via (B := T1.setTop (mkF m 4 #[rv a1, rv a2, u_, u_, u_] [(.ref t1a)])) (fun t k => st1 _ k) ?_
  refine Goes.via (B := T1.setTop (mkF m 5 _ [])) (fun t k => XS.astoreN X1.here hx rfl (hb hby own_d_jdk_42_method_71_code_4) rfl rfl (l' := #[rv a1, rv a2, rv t1a, u_, u_]) rfl k) ?_
  refine Goes.via (B := T1.setTop (mkF m 6 _ [(.ref a2)])) (fun t k => XS.aloadN X1.here hx rfl (hb hby own_d_jdk_42_method_71_code_5) rfl rfl k) ?_
  obtain ⟨T2, X2, e2, st2⟩ := getF X1 hx hZ hown (host := "") (Or.inl (own_hw hw 55 rfl)) Via.refl e1 F_5 (g := (mkF m 6 #[rv a1, rv a2, rv t1a, u_, u_] [(.ref a2)])) rfl rfl (hb hby own_d_jdk_42_method_71_code_6)
  refine Goes.via (B := T2.setTop (mkF m 9 #[rv a1, rv a2, rv t1a, u_, u_] [(.ref t2a)])) (fun t k => st2 _ k) ?_
  refine Goes.via (B := T2.setTop (mkF m 10 _ [])) (fun t k => XS.astoreN X2.here hx rfl (hb hby own_d_jdk_42_method_71_code_9) rfl rfl (l' := #[rv a1, rv a2, rv t1a, rv t2a, u_]) rfl k) ?_
  refine Goes.via (B := T2.setTop (mkF m 11 _ [(.ref a1)])) (fun t k => XS.aloadN X2.here hx rfl (hb hby own_d_jdk_42_method_71_code_10) rfl rfl k) ?_
  obtain ⟨_, T3, L3, X3, ⟨rfl, M3, K3⟩, st3⟩ := callVirt X2 hx hZ hown (own_hw hw 56 rfl) (own_hw hw 57 rfl) (own_hw hw 59 rfl) (notFace_of_selects (args := #[]) (mvT hZ (own_hw hw 59 rfl))) (own_hw hw 58 rfl) (own_hw hw 5 rfl) (own_hw hw 60 rfl) (by decide) (argsL := []) (rest := []) (own_m15 l Z a0 hw [] a1 z0 h0 n0 O0 hz0 O_1 F_3) e2 F_1 (lenOf own_pd11 rfl) (pc := 11) (Ls := #[rv a1, rv a2, rv t1a, rv t2a, u_]) (st := [(.ref a1)]) rfl (by rw [hml]; rfl) (hb hby own_d_jdk_42_method_71_code_11) (W := 0) (Nat.le_of_eq rfl) (by decide) (by decide) (by decide) (by decide)
  have N3 := Fr.app N0 M3
  refine Goes.via (B := T3.setTop (mkF m 14 #[rv a1, rv a2, rv t1a, rv t2a, u_] [(.int (0 : Int32))])) (fun t k => st3 _ k) ?_
  refine Goes.via (B := T3.setTop (mkF m 16 _ [])) (fun t k => XS.istore X3.here hx rfl (hb hby own_d_jdk_42_method_71_code_14) rfl (l' := #[rv a1, rv a2, rv t1a, rv t2a, iv (0 : Int32)]) rfl k) ?_
  refine Goes.via (B := T3.setTop (mkF m 18 _ [(.int (0 : Int32))])) (fun t k => XS.iload X3.here hx rfl (hb hby own_d_jdk_42_method_71_code_16) rfl k) ?_
  refine Goes.via (B := T3.setTop (mkF m 19 _ [(.ref a2), (.int (0 : Int32))])) (fun t k => XS.aloadN X3.here hx rfl (hb hby own_d_jdk_42_method_71_code_18) rfl rfl k) ?_
  obtain ⟨_, T4, L4, X4, ⟨rfl, M4, K4⟩, st4⟩ := callVirt X3 hx hZ hown (own_hw hw 56 rfl) (own_hw hw 57 rfl) (own_hw hw 59 rfl) (notFace_of_selects (args := #[]) (mvT hZ (own_hw hw 59 rfl))) (own_hw hw 58 rfl) (own_hw hw 5 rfl) (own_hw hw 60 rfl) (by decide) (argsL := []) (rest := [(.int (0 : Int32))]) (own_m15 l Z a0 hw [] a2 z0 h0 n0 O0 hz0 O_1 F_6) K3 F_4 (lenOf own_pd11 rfl) (pc := 19) (Ls := #[rv a1, rv a2, rv t1a, rv t2a, iv (0 : Int32)]) (st := [(.ref a2), (.int (0 : Int32))]) rfl (by rw [hml]; rfl) (hb hby own_d_jdk_42_method_71_code_19) (W := 1) (Nat.le_of_eq rfl) (by decide) (by decide) (by decide) (by decide)
  have N4 := Fr.app N3 M4
  refine Goes.via (B := T4.setTop (mkF m 22 #[rv a1, rv a2, rv t1a, rv t2a, iv (0 : Int32)] [(.int (0 : Int32)), (.int (0 : Int32))])) (fun t k => st4 _ k) ?_
  refine Goes.via (B := T4.setTop (mkF m 25 _ [])) (fun t k => XS.icmpNo X4.here hx rfl (hb hby own_d_jdk_42_method_71_code_22) rfl (XT.ii_ne_f rfl) k) ?_
  refine Goes.via (B := T4.setTop (mkF m 27 _ [(.int (0 : Int32))])) (fun t k => XS.iload X4.here hx rfl (hb hby own_d_jdk_42_method_71_code_25) rfl k) ?_
  refine Goes.via (B := T4.setTop (mkF m 30 _ [])) (fun t k => XS.ifNo X4.here hx rfl (hb hby own_d_jdk_42_method_71_code_27) rfl (XT.i0_ne_f rfl) k) ?_
  refine Goes.via (B := T4.setTop (mkF m 31 _ [(.ref t1a)])) (fun t k => XS.aloadN X4.here hx rfl (hb hby own_d_jdk_42_method_71_code_30) rfl rfl k) ?_
  refine Goes.via (B := T4.setTop (mkF m 32 _ [(.ref t2a), (.ref t1a)])) (fun t k => XS.aloadN X4.here hx rfl (hb hby own_d_jdk_42_method_71_code_31) rfl rfl k) ?_
  obtain ⟨_, T5, L5, X5, ⟨r5, rfl, M5, K5, p5_0⟩, st5⟩ := callStatic X4 hx hZ hown (own_hw hw 63 rfl) (own_hw hw 64 rfl) (own_hw hw 65 rfl) (own_hw hw 66 rfl) (by decide) (argsL := [(.ref t1a), (.ref t2a)]) (rest := []) (own_m51 l Z a0 hw [] t1a k1a t2a k2a cc0 cc1 dd0 dd1 h0 n0 O0 hcc0 hcc1 hdd0 hdd1 F_7 F_8) K4 (lenOf own_pd12 rfl) (pc := 32) (Ls := #[rv a1, rv a2, rv t1a, rv t2a, iv (0 : Int32)]) (st := [(.ref t2a), (.ref t1a)]) rfl (by rw [hml]; rfl) (hb hby own_d_jdk_42_method_71_code_32) (W := 0) (Nat.le_of_eq rfl) (by decide) (by decide) (by decide) (by decide)
  have N5 := Fr.app N4 M5
  refine Goes.via (B := T5.setTop (mkF m 35 #[rv a1, rv a2, rv t1a, rv t2a, iv (0 : Int32)] [(.int r5)])) (fun t k => st5 _ k) ?_
  refine Goes.via (B := T5.setTop (mkF m 43 _ [(.int r5)])) (fun t k => XS.goto X5.here hx rfl (pc0 := 35) (pc' := 43) rfl (hb hby own_d_jdk_42_method_71_code_35) (by decide) (by decide) k) ?_
  exact finI (Q := (own_Q52 Z a1 a2 z0 t1a k1a t2a k2a cc0 cc1 dd0 dd1 h0 n0)) (F := FrameEnd) (C := ((Rm 3 0 0 47)).cells) (S := ((Rm 3 0 0 47)).slots) X5 hx Bd.returns (hb hby own_d_jdk_42_method_71_code_43) K5 ⟨r5, rfl, N5, rfl, p5_0⟩ (lvN X5 hlk (by decide) (by decide))
theorem own_ef53 (m : MethodId) (x0 : Addr) (x1 : Addr)  : entryFrame m #[(.ref x0), (.ref x1)] 3 = mkF m 0 #[rv x0, rv x1, u_] [] := by first | (simp [entryFrame, mkF, argsToLocals, Value.category]; done) | rfl
abbrev own_Q53 (Z : State) (a1 : Addr) (a2 : Addr) (x1 : Int64) (x2 : Int64) (s1a : Addr) (s2a : Addr) (z0 : Int32) (t1a : Addr) (k1a : ClassId) (t2a : Addr) (k2a : ClassId) (cc0 : Int32) (cc1 : Int32) (dd0 : Int32) (dd1 : Int32) (h0 : Heap) (n0 : Nat) (v : Option Value) (h : Heap) (L : List Loc) : Prop := ∃ r : Int32, v = some (.int r) ∧ Fr n0 L ∧ h = h0 ∧ own_sg r = own_exp x1 x2 (2 : Int32) cc0 cc1 (0 : Int32) dd0 dd1
set_option maxRecDepth 65536 in
set_option maxHeartbeats 40000000 in
theorem own_m53 (l : Launch) (Z : State) (a0 : Array Value) (hw : ∀ d ∈ tables_1, d.before a0 Z = true) (ws : List Jvm.Cond) (a1 : Addr) (a2 : Addr) (x1 : Int64) (x2 : Int64) (s1a : Addr) (s2a : Addr) (z0 : Int32) (t1a : Addr) (k1a : ClassId) (t2a : Addr) (k2a : ClassId) (cc0 : Int32) (cc1 : Int32) (dd0 : Int32) (dd1 : Int32) (h0 : Heap) (n0 : Nat) (O0 : Old Z n0 h0) (hz0 : ¬ z0 = (0 : Int32)) (hcc0 : ¬ cc0 < (0 : Int32) ∧ ¬ (255 : Int32) < cc0) (hcc1 : ¬ cc1 < (0 : Int32) ∧ ¬ (255 : Int32) < cc1) (hdd0 : ¬ dd0 < (0 : Int32) ∧ ¬ (255 : Int32) < dd0) (hdd1 : ¬ dd1 < (0 : Int32) ∧ ¬ (255 : Int32) < dd1) (O_1 : Sta Z Z.heap "java/lang/String" "COMPACT_STRINGS" "Z" (.int z0)) (F_1 : Exa Z h0 a1 "com/example/keelson/keelson/cluster/Ballot") (F_2 : Fld Z h0 a1 "com/example/keelson/keelson/cluster/Ballot" "round" "J" (.long x1)) (F_3 : Fld Z h0 a1 "com/example/keelson/keelson/cluster/Ballot" "proposer" "Ljava/lang/String;" (.ref s1a)) (F_4 : Exa Z h0 a2 "com/example/keelson/keelson/cluster/Ballot") (F_5 : Fld Z h0 a2 "com/example/keelson/keelson/cluster/Ballot" "round" "J" (.long x2)) (F_6 : Fld Z h0 a2 "com/example/keelson/keelson/cluster/Ballot" "proposer" "Ljava/lang/String;" (.ref s2a)) (F_7 : Exa Z h0 s1a "java/lang/String") (F_8 : Fld Z h0 s1a "java/lang/String" "value" "[B" (.ref t1a)) (F_9 : Fld Z h0 s1a "java/lang/String" "coder" "B" (.int (0 : Int32))) (F_10 : Exa Z h0 s2a "java/lang/String") (F_11 : Fld Z h0 s2a "java/lang/String" "value" "[B" (.ref t2a)) (F_12 : Fld Z h0 s2a "java/lang/String" "coder" "B" (.int (0 : Int32))) (F_13 : Arv Z h0 t1a k1a .byte (2 : Int32) [(.int cc0.toInt8.toInt32), (.int cc1.toInt8.toInt32)] (.int (0 : Int32))) (F_14 : Arv Z h0 t2a k2a .byte (0 : Int32) [] (.int (0 : Int32))) :
    Ctr l Z (⟨"com/example/keelson/keelson/cluster/Ballot", "compareTo", "(Lcom/example/keelson/keelson/cluster/Ballot;)I"⟩ : MethodName) prog_19_method_2_code 3 (some .int) (Rm 4 0 0 63) #[(.ref a1), (.ref a2)] h0 (own_Q53 Z a1 a2 x1 x2 s1a s2a z0 t1a k1a t2a k2a cc0 cc1 dd0 dd1 h0 n0) ws := by
  refine MetFree.of_bodySF (plainFor_of_name own_pn5) hisR ?_
  intro p e s m args below meth c s₁ Bd hml0 hP hK
  obtain ⟨rfl, hZ, hh⟩ := hP
  have hx := Bd.exec
  have hby := Bd.bytes
  have hlk : meth.locks = false := Bd.notSynchronized
  have hml : c.maxLocals = 3 := hml0
  have hown : s.vm.findClass "com/example/keelson/keelson/cluster/Ballot" = some m.cls := findClass_of_methodNamed Bd.named
  have hnm := (name_of_methodNamed Bd.named Bd.method).1
  have X0 : Stand p l e (Rm 4 0 0 63) s m #[(.ref a1), (.ref a2)] below meth c s₁ [] 0 0 := Stand.of_body Bd
  have e0 : s₁.heap = h0 := by rw [← hh, Bd.state]; rfl
  have N0 := Fr.nil n0
  show Goes p.tables e below (fun t o => ∃ v L, o = .returned v ∧ (own_Q53 Z a1 a2 x1 x2 s1a s2a z0 t1a k1a t2a k2a cc0 cc1 dd0 dd1 h0 n0) v t.heap L ∧ FrameEnd s o t L ((Rm 4 0 0 63)).cells ((Rm 4 0 0 63)).slots) _
  refine Goes.via (B := s₁.setTop (mkF m 0 #[rv a1, rv a2, u_] [])) (fun t k => castTop (own_ef53 m a1 a2) k) ?_
  refine Goes.via (B := s₁.setTop (mkF m 1 _ [(.ref a1)])) (fun t k => XS.aloadN X0.here hx rfl (hb hby own_d_prog_19_method_2_code_0) rfl rfl k) ?_
  obtain ⟨T1, X1, e1, st1⟩ := getF X0 hx hZ hown (host := "") (Or.inl (own_hw hw 31 rfl)) Via.refl e0 F_2 (g := (mkF m 1 #[rv a1, rv a2, u_] [(.ref a1)])) rfl rfl (hb hby own_d_prog_19_method_2_code_1)
  refine Goes.via (B := T1.setTop (mkF m 4 #[rv a1, rv a2, u_] [(.long x1)])) (fun t k => st1 _ k) ?_
  refine Goes.via (B := T1.setTop (mkF m 5 _ [(.ref a2), (.long x1)])) (fun t k => XS.aloadN X1.here hx rfl (hb hby own_d_prog_19_method_2_code_4) rfl rfl k) ?_
  obtain ⟨T2, X2, e2, st2⟩ := getF X1 hx hZ hown (host := "") (Or.inl (own_hw hw 31 rfl)) Via.refl e1 F_5 (g := (mkF m 5 #[rv a1, rv a2, u_] [(.ref a2), (.long x1)])) rfl rfl (hb hby own_d_prog_19_method_2_code_5)
  refine Goes.via (B := T2.setTop (mkF m 8 #[rv a1, rv a2, u_] [(.long x2), (.long x1)])) (fun t k => st2 _ k) ?_
  obtain ⟨_, T3, L3, X3, ⟨r3, rfl, M3, K3, p3_0⟩, st3⟩ := callStatic X2 hx hZ hown (own_hw hw 40 rfl) (own_hw hw 41 rfl) (own_hw hw 42 rfl) (own_hw hw 43 rfl) (by decide) (argsL := [(.long x1), (.long x2)]) (rest := []) (own_m11 l Z a0 hw [] x1 x2 h0 n0 O0 ) e2 (lenOf own_pd13 rfl) (pc := 8) (Ls := #[rv a1, rv a2, u_]) (st := [(.long x2), (.long x1)]) rfl (by rw [hml]; rfl) (hb hby own_d_prog_19_method_2_code_8) (W := 0) (Nat.le_of_eq rfl) (by decide) (by decide) (by decide) (by decide)
  have N3 := Fr.app N0 M3
  refine Goes.via (B := T3.setTop (mkF m 11 #[rv a1, rv a2, u_] [(.int r3)])) (fun t k => st3 _ k) ?_
  refine Goes.via (B := T3.setTop (mkF m 12 _ [])) (fun t k => XS.istoreN X3.here hx rfl (hb hby own_d_prog_19_method_2_code_11) rfl (l' := #[rv a1, rv a2, iv r3]) rfl k) ?_
  refine Goes.via (B := T3.setTop (mkF m 13 _ [(.int r3)])) (fun t k => XS.iloadN X3.here hx rfl (hb hby own_d_prog_19_method_2_code_12) rfl k) ?_
  by_cases hlt : x1 < x2
  · rw [if_pos hlt] at p3_0
    subst p3_0
    refine Goes.via (B := T3.setTop (mkF m 28 _ [])) (fun t k => XS.ifYes X3.here hx rfl (pc0 := 13) (pc' := 28) rfl (hb hby own_d_prog_19_method_2_code_13) rfl (XT.i0_ne_t (by decide)) (by decide) (by decide) k) ?_
    refine Goes.via (B := T3.setTop (mkF m 29 _ [(.int (-1 : Int32))])) (fun t k => XS.iloadN X3.here hx rfl (hb hby own_d_prog_19_method_2_code_28) rfl k) ?_
    exact finI (Q := (own_Q53 Z a1 a2 x1 x2 s1a s2a z0 t1a k1a t2a k2a cc0 cc1 dd0 dd1 h0 n0)) (F := FrameEnd) (C := ((Rm 4 0 0 63)).cells) (S := ((Rm 4 0 0 63)).slots) X3 hx Bd.returns (hb hby own_d_prog_19_method_2_code_29) K3 ⟨(-1 : Int32), rfl, N3, rfl, (by unfold own_exp; rw [if_pos hlt]; decide)⟩ (lvN X3 hlk (by decide) (by decide))
  · rw [if_neg hlt] at p3_0
    by_cases heq : x1 = x2
    · rw [if_pos heq] at p3_0
      have hng : ¬ x2 < x1 := by rw [heq]; rw [Int64.lt_iff_toInt_lt]; omega
      subst p3_0
      refine Goes.via (B := T3.setTop (mkF m 16 _ [])) (fun t k => XS.ifNo X3.here hx rfl (hb hby own_d_prog_19_method_2_code_13) rfl (XT.i0_ne_f rfl) k) ?_
      refine Goes.via (B := T3.setTop (mkF m 17 _ [(.ref a1)])) (fun t k => XS.aloadN X3.here hx rfl (hb hby own_d_prog_19_method_2_code_16) rfl rfl k) ?_
      obtain ⟨T4, X4, e4, st4⟩ := getF X3 hx hZ hown (host := "") (Or.inl (own_hw hw 33 rfl)) Via.refl K3 F_3 (g := (mkF m 17 #[rv a1, rv a2, iv (0 : Int32)] [(.ref a1)])) rfl rfl (hb hby own_d_prog_19_method_2_code_17)
      refine Goes.via (B := T4.setTop (mkF m 20 #[rv a1, rv a2, iv (0 : Int32)] [(.ref s1a)])) (fun t k => st4 _ k) ?_
      refine Goes.via (B := T4.setTop (mkF m 21 _ [(.ref a2), (.ref s1a)])) (fun t k => XS.aloadN X4.here hx rfl (hb hby own_d_prog_19_method_2_code_20) rfl rfl k) ?_
      obtain ⟨T5, X5, e5, st5⟩ := getF X4 hx hZ hown (host := "") (Or.inl (own_hw hw 33 rfl)) Via.refl e4 F_6 (g := (mkF m 21 #[rv a1, rv a2, iv (0 : Int32)] [(.ref a2), (.ref s1a)])) rfl rfl (hb hby own_d_prog_19_method_2_code_21)
      refine Goes.via (B := T5.setTop (mkF m 24 #[rv a1, rv a2, iv (0 : Int32)] [(.ref s2a), (.ref s1a)])) (fun t k => st5 _ k) ?_
      obtain ⟨_, T6, L6, X6, ⟨r6, rfl, M6, K6, p6_0⟩, st6⟩ := callVirt X5 hx hZ hown (own_hw hw 50 rfl) (own_hw hw 51 rfl) (own_hw hw 53 rfl) (notFace_of_selects (args := #[]) (mvT hZ (own_hw hw 53 rfl))) (own_hw hw 52 rfl) (own_hw hw 5 rfl) (own_hw hw 54 rfl) (by decide) (argsL := [(.ref s2a)]) (rest := []) (own_m52 l Z a0 hw [] s1a s2a z0 t1a k1a t2a k2a cc0 cc1 dd0 dd1 h0 n0 O0 hz0 hcc0 hcc1 hdd0 hdd1 O_1 F_7 F_8 F_9 F_10 F_11 F_12 F_13 F_14) e5 F_7 (lenOf own_pd14 rfl) (pc := 24) (Ls := #[rv a1, rv a2, iv (0 : Int32)]) (st := [(.ref s2a), (.ref s1a)]) rfl (by rw [hml]; rfl) (hb hby own_d_prog_19_method_2_code_24) (W := 0) (Nat.le_of_eq rfl) (by decide) (by decide) (by decide) (by decide)
      have N6 := Fr.app N3 M6
      refine Goes.via (B := T6.setTop (mkF m 27 #[rv a1, rv a2, iv (0 : Int32)] [(.int r6)])) (fun t k => st6 _ k) ?_
      refine Goes.via (B := T6.setTop (mkF m 28 _ [])) (fun t k => XS.istoreN X6.here hx rfl (hb hby own_d_prog_19_method_2_code_27) rfl (l' := #[rv a1, rv a2, iv r6]) rfl k) ?_
      refine Goes.via (B := T6.setTop (mkF m 29 _ [(.int r6)])) (fun t k => XS.iloadN X6.here hx rfl (hb hby own_d_prog_19_method_2_code_28) rfl k) ?_
      exact finI (Q := (own_Q53 Z a1 a2 x1 x2 s1a s2a z0 t1a k1a t2a k2a cc0 cc1 dd0 dd1 h0 n0)) (F := FrameEnd) (C := ((Rm 4 0 0 63)).cells) (S := ((Rm 4 0 0 63)).slots) X6 hx Bd.returns (hb hby own_d_prog_19_method_2_code_29) K6 ⟨r6, rfl, N6, rfl, (by unfold own_exp; rw [if_neg hlt, if_neg hng]; exact p6_0)⟩ (lvN X6 hlk (by decide) (by decide))
    · rw [if_neg heq] at p3_0
      have hgt : x2 < x1 := by
        have n' : ¬ x1.toInt = x2.toInt := fun z => heq (Int64.toInt_inj.mp z)
        rw [Int64.lt_iff_toInt_lt] at *; omega
      subst p3_0
      refine Goes.via (B := T3.setTop (mkF m 28 _ [])) (fun t k => XS.ifYes X3.here hx rfl (pc0 := 13) (pc' := 28) rfl (hb hby own_d_prog_19_method_2_code_13) rfl (XT.i0_ne_t (by decide)) (by decide) (by decide) k) ?_
      refine Goes.via (B := T3.setTop (mkF m 29 _ [(.int (1 : Int32))])) (fun t k => XS.iloadN X3.here hx rfl (hb hby own_d_prog_19_method_2_code_28) rfl k) ?_
      exact finI (Q := (own_Q53 Z a1 a2 x1 x2 s1a s2a z0 t1a k1a t2a k2a cc0 cc1 dd0 dd1 h0 n0)) (F := FrameEnd) (C := ((Rm 4 0 0 63)).cells) (S := ((Rm 4 0 0 63)).slots) X3 hx Bd.returns (hb hby own_d_prog_19_method_2_code_29) K3 ⟨(1 : Int32), rfl, N3, rfl, (by unfold own_exp; rw [if_neg hlt, if_pos hgt]; decide)⟩ (lvN X3 hlk (by decide) (by decide))
theorem own_ef54 (m : MethodId) (x0 : Addr) (x1 : Addr) (x2 : Int32)  : entryFrame m #[(.ref x0), (.ref x1), (.int x2)] 4 = mkF m 0 #[rv x0, rv x1, iv x2, u_] [] := by first | (simp [entryFrame, mkF, argsToLocals, Value.category]; done) | rfl
abbrev own_Q54 (Z : State) (t1a : Addr) (k1a : ClassId) (t2a : Addr) (k2a : ClassId) (cc0 : Int32) (cc1 : Int32) (dd0 : Int32) (dd1 : Int32) (h0 : Heap) (n0 : Nat) (v : Option Value) (h : Heap) (L : List Loc) : Prop := ∃ r : Int32, v = some (.int r) ∧ Fr n0 L ∧ h = h0 ∧ r = if cc0.toInt8.toInt32 = dd0.toInt8.toInt32 then (-1 : Int32) else 0
set_option maxRecDepth 65536 in
set_option maxHeartbeats 40000000 in
theorem own_m54 (l : Launch) (Z : State) (a0 : Array Value) (hw : ∀ d ∈ tables_1, d.before a0 Z = true) (ws : List Jvm.Cond) (t1a : Addr) (k1a : ClassId) (t2a : Addr) (k2a : ClassId) (cc0 : Int32) (cc1 : Int32) (dd0 : Int32) (dd1 : Int32) (h0 : Heap) (n0 : Nat) (O0 : Old Z n0 h0) (F_1 : Arv Z h0 t1a k1a .byte (2 : Int32) [(.int cc0.toInt8.toInt32), (.int cc1.toInt8.toInt32)] (.int (0 : Int32))) (F_2 : Arv Z h0 t2a k2a .byte (1 : Int32) [(.int dd0.toInt8.toInt32)] (.int (0 : Int32))) :
    Ctr l Z (⟨"jdk/internal/util/ArraysSupport", "mismatch", "([B[BI)I"⟩ : MethodName) jdk_48_method_13_code 4 (some .int) (Rm 0 0 0 0) #[(.ref t1a), (.ref t2a), (.int (1 : Int32))] h0 (own_Q54 Z t1a k1a t2a k2a cc0 cc1 dd0 dd1 h0 n0) ws := by
  refine MetFree.of_bodySF (plainFor_of_name own_pn7) hisR ?_
  intro p e s m args below meth c s₁ Bd hml0 hP hK
  obtain ⟨rfl, hZ, hh⟩ := hP
  have hx := Bd.exec
  have hby := Bd.bytes
  have hlk : meth.locks = false := Bd.notSynchronized
  have hml : c.maxLocals = 4 := hml0
  have hown : s.vm.findClass "jdk/internal/util/ArraysSupport" = some m.cls := findClass_of_methodNamed Bd.named
  have hnm := (name_of_methodNamed Bd.named Bd.method).1
  have X0 : Stand p l e (Rm 0 0 0 0) s m #[(.ref t1a), (.ref t2a), (.int (1 : Int32))] below meth c s₁ [] 0 0 := Stand.of_body Bd
  have e0 : s₁.heap = h0 := by rw [← hh, Bd.state]; rfl
  have N0 := Fr.nil n0
  show Goes p.tables e below (fun t o => ∃ v L, o = .returned v ∧ (own_Q54 Z t1a k1a t2a k2a cc0 cc1 dd0 dd1 h0 n0) v t.heap L ∧ FrameEnd s o t L ((Rm 0 0 0 0)).cells ((Rm 0 0 0 0)).slots) _
  refine Goes.via (B := s₁.setTop (mkF m 0 #[rv t1a, rv t2a, iv (1 : Int32), u_] [])) (fun t k => castTop (own_ef54 m t1a t2a (1 : Int32)) k) ?_
  refine Goes.via (B := s₁.setTop (mkF m 1 _ [(.int (0 : Int32))])) (fun t k => XS.iconst X0.here hx rfl (hb hby own_d_jdk_48_method_13_code_0) k) ?_
  refine Goes.via (B := s₁.setTop (mkF m 2 _ [])) (fun t k => XS.istoreN X0.here hx rfl (hb hby own_d_jdk_48_method_13_code_1) rfl (l' := #[rv t1a, rv t2a, iv (1 : Int32), iv (0 : Int32)]) rfl k) ?_
  refine Goes.via (B := s₁.setTop (mkF m 3 _ [(.int (1 : Int32))])) (fun t k => XS.iloadN X0.here hx rfl (hb hby own_d_jdk_48_method_13_code_2) rfl k) ?_
  refine Goes.via (B := s₁.setTop (mkF m 5 _ [(.int (7 : Int32)), (.int (1 : Int32))])) (fun t k => XS.bipush X0.here hx rfl (hb hby own_d_jdk_48_method_13_code_3) k) ?_
  refine Goes.via (B := s₁.setTop (mkF m 49 _ [])) (fun t k => XS.icmpYes X0.here hx rfl (pc0 := 5) (pc' := 49) rfl (hb hby own_d_jdk_48_method_13_code_5) rfl (XT.ii_le_t (by decide)) (by decide) (by decide) k) ?_
  refine Goes.via (B := s₁.setTop (mkF m 50 _ [(.int (0 : Int32))])) (fun t k => XS.iloadN X0.here hx rfl (hb hby own_d_jdk_48_method_13_code_49) rfl k) ?_
  refine Goes.via (B := s₁.setTop (mkF m 51 _ [(.int (1 : Int32)), (.int (0 : Int32))])) (fun t k => XS.iloadN X0.here hx rfl (hb hby own_d_jdk_48_method_13_code_50) rfl k) ?_
  refine Goes.via (B := s₁.setTop (mkF m 54 _ [])) (fun t k => XS.icmpNo X0.here hx rfl (hb hby own_d_jdk_48_method_13_code_51) rfl (XT.ii_ge_f (by decide)) k) ?_
  refine Goes.via (B := s₁.setTop (mkF m 55 _ [(.ref t1a)])) (fun t k => XS.aloadN X0.here hx rfl (hb hby own_d_jdk_48_method_13_code_54) rfl rfl k) ?_
  refine Goes.via (B := s₁.setTop (mkF m 56 _ [(.int (0 : Int32)), (.ref t1a)])) (fun t k => XS.iloadN X0.here hx rfl (hb hby own_d_jdk_48_method_13_code_55) rfl k) ?_
  obtain ⟨cl1, Ar1, q1, S1, N1, H1, G1⟩ := id F_1
  have hin1 := inb_of (j := (0 : Int32)) S1 ⟨by decide, by decide⟩
  refine Goes.via (B := s₁.setTop (mkF m 57 #[rv t1a, rv t2a, iv (1 : Int32), iv (0 : Int32)] [(.int cc0.toInt8.toInt32)])) (fun t k => X0.baloadBytes hx (j := (0 : Int32)) (v := (.int cc0.toInt8.toInt32)) (by rw [e0]; exact Ar1.1) (State.isArrayOf_alike hZ.alike Ar1.2.1) Ar1.2.2 hin1 (H1.at hin1 rfl) (g := (mkF m 56 #[rv t1a, rv t2a, iv (1 : Int32), iv (0 : Int32)] [(.int (0 : Int32)), (.ref t1a)])) rfl rfl (hb hby own_d_jdk_48_method_13_code_56) t k) ?_
  refine Goes.via (B := s₁.setTop (mkF m 58 _ [(.ref t2a), (.int cc0.toInt8.toInt32)])) (fun t k => XS.aloadN X0.here hx rfl (hb hby own_d_jdk_48_method_13_code_57) rfl rfl k) ?_
  refine Goes.via (B := s₁.setTop (mkF m 59 _ [(.int (0 : Int32)), (.ref t2a), (.int cc0.toInt8.toInt32)])) (fun t k => XS.iloadN X0.here hx rfl (hb hby own_d_jdk_48_method_13_code_58) rfl k) ?_
  obtain ⟨cl2, Ar2, q2, S2, N2, H2, G2⟩ := id F_2
  have hin2 := inb_of (j := (0 : Int32)) S2 ⟨by decide, by decide⟩
  refine Goes.via (B := s₁.setTop (mkF m 60 #[rv t1a, rv t2a, iv (1 : Int32), iv (0 : Int32)] [(.int dd0.toInt8.toInt32), (.int cc0.toInt8.toInt32)])) (fun t k => X0.baloadBytes hx (j := (0 : Int32)) (v := (.int dd0.toInt8.toInt32)) (by rw [e0]; exact Ar2.1) (State.isArrayOf_alike hZ.alike Ar2.2.1) Ar2.2.2 hin2 (H2.at hin2 rfl) (g := (mkF m 59 #[rv t1a, rv t2a, iv (1 : Int32), iv (0 : Int32)] [(.int (0 : Int32)), (.ref t2a), (.int cc0.toInt8.toInt32)])) rfl rfl (hb hby own_d_jdk_48_method_13_code_59) t k) ?_
  by_cases b3 : cc0.toInt8.toInt32 = dd0.toInt8.toInt32
  · refine Goes.via (B := s₁.setTop (mkF m 65 _ [])) (fun t k => XS.icmpYes X0.here hx rfl (pc0 := 60) (pc' := 65) rfl (hb hby own_d_jdk_48_method_13_code_60) rfl (XT.ii_eq_t b3) (by decide) (by decide) k) ?_
    refine Goes.via (B := s₁.setTop (mkF m 68 _ [])) (fun t k => XS.iinc X0.here hx rfl (hb hby own_d_jdk_48_method_13_code_65) rfl (l' := #[rv t1a, rv t2a, iv (1 : Int32), iv ((0 : Int32) + (1 : Int32))]) rfl k) ?_
    refine Goes.via (B := s₁.setTop (mkF m 49 _ [])) (fun t k => XS.goto X0.here hx rfl (pc0 := 68) (pc' := 49) rfl (hb hby own_d_jdk_48_method_13_code_68) (by decide) (by decide) k) ?_
    have q4 : ((0 : Int32) + (1 : Int32)) = (1 : Int32) := rfl
    rw [q4]
    refine Goes.via (B := s₁.setTop (mkF m 50 _ [(.int (1 : Int32))])) (fun t k => XS.iloadN X0.here hx rfl (hb hby own_d_jdk_48_method_13_code_49) rfl k) ?_
    refine Goes.via (B := s₁.setTop (mkF m 51 _ [(.int (1 : Int32)), (.int (1 : Int32))])) (fun t k => XS.iloadN X0.here hx rfl (hb hby own_d_jdk_48_method_13_code_50) rfl k) ?_
    refine Goes.via (B := s₁.setTop (mkF m 71 _ [])) (fun t k => XS.icmpYes X0.here hx rfl (pc0 := 51) (pc' := 71) rfl (hb hby own_d_jdk_48_method_13_code_51) rfl (XT.ii_ge_t (by decide)) (by decide) (by decide) k) ?_
    refine Goes.via (B := s₁.setTop (mkF m 72 _ [(.int (-1 : Int32))])) (fun t k => XS.iconst X0.here hx rfl (hb hby own_d_jdk_48_method_13_code_71) k) ?_
    exact finI (Q := (own_Q54 Z t1a k1a t2a k2a cc0 cc1 dd0 dd1 h0 n0)) (F := FrameEnd) (C := ((Rm 0 0 0 0)).cells) (S := ((Rm 0 0 0 0)).slots) X0 hx Bd.returns (hb hby own_d_jdk_48_method_13_code_72) e0 ⟨(-1 : Int32), rfl, N0, rfl, (by simp [b3])⟩ (lvN X0 hlk (by decide) (by decide))
  · refine Goes.via (B := s₁.setTop (mkF m 63 _ [])) (fun t k => XS.icmpNo X0.here hx rfl (hb hby own_d_jdk_48_method_13_code_60) rfl (XT.ii_eq_f b3) k) ?_
    refine Goes.via (B := s₁.setTop (mkF m 64 _ [(.int (0 : Int32))])) (fun t k => XS.iloadN X0.here hx rfl (hb hby own_d_jdk_48_method_13_code_63) rfl k) ?_
    exact finI (Q := (own_Q54 Z t1a k1a t2a k2a cc0 cc1 dd0 dd1 h0 n0)) (F := FrameEnd) (C := ((Rm 0 0 0 0)).cells) (S := ((Rm 0 0 0 0)).slots) X0 hx Bd.returns (hb hby own_d_jdk_48_method_13_code_64) e0 ⟨(0 : Int32), rfl, N0, rfl, (by simp [b3])⟩ (lvN X0 hlk (by decide) (by decide))
theorem own_ef55 (m : MethodId) (x0 : Addr) (x1 : Addr) (x2 : Int32) (x3 : Int32)  : entryFrame m #[(.ref x0), (.ref x1), (.int x2), (.int x3)] 6 = mkF m 0 #[rv x0, rv x1, iv x2, iv x3, u_, u_] [] := by first | (simp [entryFrame, mkF, argsToLocals, Value.category]; done) | rfl
abbrev own_Q55 (Z : State) (t1a : Addr) (k1a : ClassId) (t2a : Addr) (k2a : ClassId) (cc0 : Int32) (cc1 : Int32) (dd0 : Int32) (dd1 : Int32) (h0 : Heap) (n0 : Nat) (v : Option Value) (h : Heap) (L : List Loc) : Prop := ∃ r : Int32, v = some (.int r) ∧ Fr n0 L ∧ h = h0 ∧ own_sg r = own_lex (2 : Int32) cc0 cc1 (1 : Int32) dd0 dd1
set_option maxRecDepth 65536 in
set_option maxHeartbeats 40000000 in
theorem own_m55 (l : Launch) (Z : State) (a0 : Array Value) (hw : ∀ d ∈ tables_1, d.before a0 Z = true) (ws : List Jvm.Cond) (t1a : Addr) (k1a : ClassId) (t2a : Addr) (k2a : ClassId) (cc0 : Int32) (cc1 : Int32) (dd0 : Int32) (dd1 : Int32) (h0 : Heap) (n0 : Nat) (O0 : Old Z n0 h0) (hcc0 : ¬ cc0 < (0 : Int32) ∧ ¬ (255 : Int32) < cc0) (hcc1 : ¬ cc1 < (0 : Int32) ∧ ¬ (255 : Int32) < cc1) (hdd0 : ¬ dd0 < (0 : Int32) ∧ ¬ (255 : Int32) < dd0) (hdd1 : ¬ dd1 < (0 : Int32) ∧ ¬ (255 : Int32) < dd1) (F_1 : Arv Z h0 t1a k1a .byte (2 : Int32) [(.int cc0.toInt8.toInt32), (.int cc1.toInt8.toInt32)] (.int (0 : Int32))) (F_2 : Arv Z h0 t2a k2a .byte (1 : Int32) [(.int dd0.toInt8.toInt32)] (.int (0 : Int32))) :
    Ctr l Z (⟨"java/lang/StringLatin1", "compareTo", "([B[BII)I"⟩ : MethodName) jdk_43_method_15_code 6 (some .int) (Rm 1 0 0 15) #[(.ref t1a), (.ref t2a), (.int (2 : Int32)), (.int (1 : Int32))] h0 (own_Q55 Z t1a k1a t2a k2a cc0 cc1 dd0 dd1 h0 n0) ws := by
  refine MetFree.of_bodySF (plainFor_of_name own_pn0) hisR ?_
  intro p e s m args below meth c s₁ Bd hml0 hP hK
  obtain ⟨rfl, hZ, hh⟩ := hP
  have hx := Bd.exec
  have hby := Bd.bytes
  have hlk : meth.locks = false := Bd.notSynchronized
  have hml : c.maxLocals = 6 := hml0
  have hown : s.vm.findClass "java/lang/StringLatin1" = some m.cls := findClass_of_methodNamed Bd.named
  have hnm := (name_of_methodNamed Bd.named Bd.method).1
  have X0 : Stand p l e (Rm 1 0 0 15) s m #[(.ref t1a), (.ref t2a), (.int (2 : Int32)), (.int (1 : Int32))] below meth c s₁ [] 0 0 := Stand.of_body Bd
  have e0 : s₁.heap = h0 := by rw [← hh, Bd.state]; rfl
  have N0 := Fr.nil n0
  show Goes p.tables e below (fun t o => ∃ v L, o = .returned v ∧ (own_Q55 Z t1a k1a t2a k2a cc0 cc1 dd0 dd1 h0 n0) v t.heap L ∧ FrameEnd s o t L ((Rm 1 0 0 15)).cells ((Rm 1 0 0 15)).slots) _
  refine Goes.via (B := s₁.setTop (mkF m 0 #[rv t1a, rv t2a, iv (2 : Int32), iv (1 : Int32), u_, u_] [])) (fun t k => castTop (own_ef55 m t1a t2a (2 : Int32) (1 : Int32)) k) ?_
  refine Goes.via (B := s₁.setTop (mkF m 1 _ [(.int (2 : Int32))])) (fun t k => XS.iloadN X0.here hx rfl (hb hby own_d_jdk_43_method_15_code_0) rfl k) ?_
  refine Goes.via (B := s₁.setTop (mkF m 2 _ [(.int (1 : Int32)), (.int (2 : Int32))])) (fun t k => XS.iloadN X0.here hx rfl (hb hby own_d_jdk_43_method_15_code_1) rfl k) ?_
  obtain ⟨_, T1, L1, X1, ⟨r1, rfl, M1, K1, p1_0⟩, st1⟩ := callStatic X0 hx hZ hown (own_hw hw 70 rfl) (own_hw hw 71 rfl) (own_hw hw 72 rfl) (own_hw hw 73 rfl) (by decide) (argsL := [(.int (2 : Int32)), (.int (1 : Int32))]) (rest := []) (own_m14 l Z a0 hw [] (2 : Int32) (1 : Int32) h0 n0 O0 ) e0 (lenOf own_pd8 rfl) (pc := 2) (Ls := #[rv t1a, rv t2a, iv (2 : Int32), iv (1 : Int32), u_, u_]) (st := [(.int (1 : Int32)), (.int (2 : Int32))]) rfl (by rw [hml]; rfl) (hb hby own_d_jdk_43_method_15_code_2) (W := 0) (Nat.le_of_eq rfl) (by decide) (by decide) (by decide) (by decide)
  have N1 := Fr.app N0 M1
  refine Goes.via (B := T1.setTop (mkF m 5 #[rv t1a, rv t2a, iv (2 : Int32), iv (1 : Int32), u_, u_] [(.int r1)])) (fun t k => st1 _ k) ?_
  obtain rfl : r1 = (1 : Int32) := p1_0.trans (by decide)
  refine Goes.via (B := T1.setTop (mkF m 7 _ [])) (fun t k => XS.istore X1.here hx rfl (hb hby own_d_jdk_43_method_15_code_5) rfl (l' := #[rv t1a, rv t2a, iv (2 : Int32), iv (1 : Int32), iv (1 : Int32), u_]) rfl k) ?_
  refine Goes.via (B := T1.setTop (mkF m 8 _ [(.ref t1a)])) (fun t k => XS.aloadN X1.here hx rfl (hb hby own_d_jdk_43_method_15_code_7) rfl rfl k) ?_
  refine Goes.via (B := T1.setTop (mkF m 9 _ [(.ref t2a), (.ref t1a)])) (fun t k => XS.aloadN X1.here hx rfl (hb hby own_d_jdk_43_method_15_code_8) rfl rfl k) ?_
  refine Goes.via (B := T1.setTop (mkF m 11 _ [(.int (1 : Int32)), (.ref t2a), (.ref t1a)])) (fun t k => XS.iload X1.here hx rfl (hb hby own_d_jdk_43_method_15_code_9) rfl k) ?_
  obtain ⟨_, T2, L2, X2, ⟨r2, rfl, M2, K2, p2_0⟩, st2⟩ := callStatic X1 hx hZ hown (own_hw hw 74 rfl) (own_hw hw 75 rfl) (own_hw hw 76 rfl) (own_hw hw 77 rfl) (by decide) (argsL := [(.ref t1a), (.ref t2a), (.int (1 : Int32))]) (rest := []) (own_m54 l Z a0 hw [] t1a k1a t2a k2a cc0 cc1 dd0 dd1 h0 n0 O0 F_1 F_2) K1 (lenOf own_pd9 rfl) (pc := 11) (Ls := #[rv t1a, rv t2a, iv (2 : Int32), iv (1 : Int32), iv (1 : Int32), u_]) (st := [(.int (1 : Int32)), (.ref t2a), (.ref t1a)]) rfl (by rw [hml]; rfl) (hb hby own_d_jdk_43_method_15_code_11) (W := 0) (Nat.le_of_eq rfl) (by decide) (by decide) (by decide) (by decide)
  have N2 := Fr.app N1 M2
  refine Goes.via (B := T2.setTop (mkF m 14 #[rv t1a, rv t2a, iv (2 : Int32), iv (1 : Int32), iv (1 : Int32), u_] [(.int r2)])) (fun t k => st2 _ k) ?_
  by_cases hbq0 : cc0.toInt8.toInt32 = dd0.toInt8.toInt32
  · have eq0 : cc0 = dd0 := own_bi hcc0 hdd0 hbq0
    rw [if_pos hbq0] at p2_0
    subst p2_0
    refine Goes.via (B := T2.setTop (mkF m 16 _ [])) (fun t k => XS.istore X2.here hx rfl (hb hby own_d_jdk_43_method_15_code_14) rfl (l' := #[rv t1a, rv t2a, iv (2 : Int32), iv (1 : Int32), iv (1 : Int32), iv (-1 : Int32)]) rfl k) ?_
    refine Goes.via (B := T2.setTop (mkF m 18 _ [(.int (-1 : Int32))])) (fun t k => XS.iload X2.here hx rfl (hb hby own_d_jdk_43_method_15_code_16) rfl k) ?_
    refine Goes.via (B := T2.setTop (mkF m 21 _ [])) (fun t k => XS.ifNo X2.here hx rfl (hb hby own_d_jdk_43_method_15_code_18) rfl (XT.i0_ge_f (by decide)) k) ?_
    refine Goes.via (B := T2.setTop (mkF m 22 _ [(.int (2 : Int32))])) (fun t k => XS.iloadN X2.here hx rfl (hb hby own_d_jdk_43_method_15_code_21) rfl k) ?_
    refine Goes.via (B := T2.setTop (mkF m 23 _ [(.int (1 : Int32)), (.int (2 : Int32))])) (fun t k => XS.iloadN X2.here hx rfl (hb hby own_d_jdk_43_method_15_code_22) rfl k) ?_
    refine Goes.via (B := T2.setTop (mkF m 24 _ [(.int ((2 : Int32) - (1 : Int32)))])) (fun t k => XS.isub X2.here hx rfl (hb hby own_d_jdk_43_method_15_code_23) rfl k) ?_
    refine Goes.via (B := T2.setTop (mkF m 40 _ [(.int ((2 : Int32) - (1 : Int32)))])) (fun t k => XS.goto X2.here hx rfl (pc0 := 24) (pc' := 40) rfl (hb hby own_d_jdk_43_method_15_code_24) (by decide) (by decide) k) ?_
    exact finI (Q := (own_Q55 Z t1a k1a t2a k2a cc0 cc1 dd0 dd1 h0 n0)) (F := FrameEnd) (C := ((Rm 1 0 0 15)).cells) (S := ((Rm 1 0 0 15)).slots) X2 hx Bd.returns (hb hby own_d_jdk_43_method_15_code_40) K2 ⟨((2 : Int32) - (1 : Int32)), rfl, N2, rfl, (by simp [own_lex, eq0])⟩ (lvN X2 hlk (by decide) (by decide))
  · have nq0 : ¬ cc0 = dd0 := fun z => hbq0 (by rw [z])
    rw [if_neg hbq0] at p2_0
    subst p2_0
    refine Goes.via (B := T2.setTop (mkF m 16 _ [])) (fun t k => XS.istore X2.here hx rfl (hb hby own_d_jdk_43_method_15_code_14) rfl (l' := #[rv t1a, rv t2a, iv (2 : Int32), iv (1 : Int32), iv (1 : Int32), iv (0 : Int32)]) rfl k) ?_
    refine Goes.via (B := T2.setTop (mkF m 18 _ [(.int (0 : Int32))])) (fun t k => XS.iload X2.here hx rfl (hb hby own_d_jdk_43_method_15_code_16) rfl k) ?_
    refine Goes.via (B := T2.setTop (mkF m 27 _ [])) (fun t k => XS.ifYes X2.here hx rfl (pc0 := 18) (pc' := 27) rfl (hb hby own_d_jdk_43_method_15_code_18) rfl (XT.i0_ge_t (by decide)) (by decide) (by decide) k) ?_
    refine Goes.via (B := T2.setTop (mkF m 28 _ [(.ref t1a)])) (fun t k => XS.aloadN X2.here hx rfl (hb hby own_d_jdk_43_method_15_code_27) rfl rfl k) ?_
    refine Goes.via (B := T2.setTop (mkF m 30 _ [(.int (0 : Int32)), (.ref t1a)])) (fun t k => XS.iload X2.here hx rfl (hb hby own_d_jdk_43_method_15_code_28) rfl k) ?_
    obtain ⟨_, T3, L3, X3, ⟨rfl, M3, K3⟩, st3⟩ := callStatic X2 hx hZ hown (own_hw hw 111 rfl) (own_hw hw 112 rfl) (own_hw hw 65 rfl) (own_hw hw 113 rfl) (by decide) (argsL := [(.ref t1a), (.int (0 : Int32))]) (rest := []) (own_m17 l Z a0 hw [] t1a k1a cc0 cc1 h0 n0 O0 hcc0 F_1) K2 (lenOf own_pd15 rfl) (pc := 30) (Ls := #[rv t1a, rv t2a, iv (2 : Int32), iv (1 : Int32), iv (1 : Int32), iv (0 : Int32)]) (st := [(.int (0 : Int32)), (.ref t1a)]) rfl (by rw [hml]; rfl) (hb hby own_d_jdk_43_method_15_code_30) (W := 0) (Nat.le_of_eq rfl) (by decide) (by decide) (by decide) (by decide)
    have N3 := Fr.app N2 M3
    refine Goes.via (B := T3.setTop (mkF m 33 #[rv t1a, rv t2a, iv (2 : Int32), iv (1 : Int32), iv (1 : Int32), iv (0 : Int32)] [(.int cc0)])) (fun t k => st3 _ k) ?_
    refine Goes.via (B := T3.setTop (mkF m 34 _ [(.ref t2a), (.int cc0)])) (fun t k => XS.aloadN X3.here hx rfl (hb hby own_d_jdk_43_method_15_code_33) rfl rfl k) ?_
    refine Goes.via (B := T3.setTop (mkF m 36 _ [(.int (0 : Int32)), (.ref t2a), (.int cc0)])) (fun t k => XS.iload X3.here hx rfl (hb hby own_d_jdk_43_method_15_code_34) rfl k) ?_
    obtain ⟨_, T4, L4, X4, ⟨rfl, M4, K4⟩, st4⟩ := callStatic X3 hx hZ hown (own_hw hw 111 rfl) (own_hw hw 112 rfl) (own_hw hw 65 rfl) (own_hw hw 113 rfl) (by decide) (argsL := [(.ref t2a), (.int (0 : Int32))]) (rest := [(.int cc0)]) (own_m16 l Z a0 hw [] t2a k2a dd0 dd1 h0 n0 O0 hdd0 F_2) K3 (lenOf own_pd15 rfl) (pc := 36) (Ls := #[rv t1a, rv t2a, iv (2 : Int32), iv (1 : Int32), iv (1 : Int32), iv (0 : Int32)]) (st := [(.int (0 : Int32)), (.ref t2a), (.int cc0)]) rfl (by rw [hml]; rfl) (hb hby own_d_jdk_43_method_15_code_36) (W := 1) (Nat.le_of_eq rfl) (by decide) (by decide) (by decide) (by decide)
    have N4 := Fr.app N3 M4
    refine Goes.via (B := T4.setTop (mkF m 39 #[rv t1a, rv t2a, iv (2 : Int32), iv (1 : Int32), iv (1 : Int32), iv (0 : Int32)] [(.int dd0), (.int cc0)])) (fun t k => st4 _ k) ?_
    refine Goes.via (B := T4.setTop (mkF m 40 _ [(.int (cc0 - dd0))])) (fun t k => XS.isub X4.here hx rfl (hb hby own_d_jdk_43_method_15_code_39) rfl k) ?_
    exact finI (Q := (own_Q55 Z t1a k1a t2a k2a cc0 cc1 dd0 dd1 h0 n0)) (F := FrameEnd) (C := ((Rm 1 0 0 15)).cells) (S := ((Rm 1 0 0 15)).slots) X4 hx Bd.returns (hb hby own_d_jdk_43_method_15_code_40) K4 ⟨(cc0 - dd0), rfl, N4, rfl, (by rw [own_sub hcc0 hdd0 nq0]; simp [own_lex, nq0])⟩ (lvN X4 hlk (by decide) (by decide))
theorem own_ef56 (m : MethodId) (x0 : Addr) (x1 : Addr)  : entryFrame m #[(.ref x0), (.ref x1)] 4 = mkF m 0 #[rv x0, rv x1, u_, u_] [] := by first | (simp [entryFrame, mkF, argsToLocals, Value.category]; done) | rfl
abbrev own_Q56 (Z : State) (t1a : Addr) (k1a : ClassId) (t2a : Addr) (k2a : ClassId) (cc0 : Int32) (cc1 : Int32) (dd0 : Int32) (dd1 : Int32) (h0 : Heap) (n0 : Nat) (v : Option Value) (h : Heap) (L : List Loc) : Prop := ∃ r : Int32, v = some (.int r) ∧ Fr n0 L ∧ h = h0 ∧ own_sg r = own_lex (2 : Int32) cc0 cc1 (1 : Int32) dd0 dd1
set_option maxRecDepth 65536 in
set_option maxHeartbeats 40000000 in
theorem own_m56 (l : Launch) (Z : State) (a0 : Array Value) (hw : ∀ d ∈ tables_1, d.before a0 Z = true) (ws : List Jvm.Cond) (t1a : Addr) (k1a : ClassId) (t2a : Addr) (k2a : ClassId) (cc0 : Int32) (cc1 : Int32) (dd0 : Int32) (dd1 : Int32) (h0 : Heap) (n0 : Nat) (O0 : Old Z n0 h0) (hcc0 : ¬ cc0 < (0 : Int32) ∧ ¬ (255 : Int32) < cc0) (hcc1 : ¬ cc1 < (0 : Int32) ∧ ¬ (255 : Int32) < cc1) (hdd0 : ¬ dd0 < (0 : Int32) ∧ ¬ (255 : Int32) < dd0) (hdd1 : ¬ dd1 < (0 : Int32) ∧ ¬ (255 : Int32) < dd1) (F_1 : Arv Z h0 t1a k1a .byte (2 : Int32) [(.int cc0.toInt8.toInt32), (.int cc1.toInt8.toInt32)] (.int (0 : Int32))) (F_2 : Arv Z h0 t2a k2a .byte (1 : Int32) [(.int dd0.toInt8.toInt32)] (.int (0 : Int32))) :
    Ctr l Z (⟨"java/lang/StringLatin1", "compareTo", "([B[B)I"⟩ : MethodName) jdk_43_method_14_code 4 (some .int) (Rm 2 0 0 32) #[(.ref t1a), (.ref t2a)] h0 (own_Q56 Z t1a k1a t2a k2a cc0 cc1 dd0 dd1 h0 n0) ws := by
  refine MetFree.of_bodySF (plainFor_of_name own_pn0) hisR ?_
  intro p e s m args below meth c s₁ Bd hml0 hP hK
  obtain ⟨rfl, hZ, hh⟩ := hP
  have hx := Bd.exec
  have hby := Bd.bytes
  have hlk : meth.locks = false := Bd.notSynchronized
  have hml : c.maxLocals = 4 := hml0
  have hown : s.vm.findClass "java/lang/StringLatin1" = some m.cls := findClass_of_methodNamed Bd.named
  have hnm := (name_of_methodNamed Bd.named Bd.method).1
  have X0 : Stand p l e (Rm 2 0 0 32) s m #[(.ref t1a), (.ref t2a)] below meth c s₁ [] 0 0 := Stand.of_body Bd
  have e0 : s₁.heap = h0 := by rw [← hh, Bd.state]; rfl
  have N0 := Fr.nil n0
  show Goes p.tables e below (fun t o => ∃ v L, o = .returned v ∧ (own_Q56 Z t1a k1a t2a k2a cc0 cc1 dd0 dd1 h0 n0) v t.heap L ∧ FrameEnd s o t L ((Rm 2 0 0 32)).cells ((Rm 2 0 0 32)).slots) _
  refine Goes.via (B := s₁.setTop (mkF m 0 #[rv t1a, rv t2a, u_, u_] [])) (fun t k => castTop (own_ef56 m t1a t2a) k) ?_
  refine Goes.via (B := s₁.setTop (mkF m 1 _ [(.ref t1a)])) (fun t k => XS.aloadN X0.here hx rfl (hb hby own_d_jdk_43_method_14_code_0) rfl rfl k) ?_
  obtain ⟨cl1, Ar1, q1, S1, N1, H1, G1⟩ := id F_1
  refine Goes.via (B := s₁.setTop (mkF m 2 #[rv t1a, rv t2a, u_, u_] [(.int (2 : Int32))])) (fun t k => X0.arraylength hx (by rw [e0]; exact Ar1.1) (State.isArrayOf_alike hZ.alike Ar1.2.1) (g := (mkF m 1 #[rv t1a, rv t2a, u_, u_] [(.ref t1a)])) rfl rfl (hb hby own_d_jdk_43_method_14_code_1) t (by rw [(len_of S1 N1)]; exact k)) ?_
  refine Goes.via (B := s₁.setTop (mkF m 3 _ [])) (fun t k => XS.istoreN X0.here hx rfl (hb hby own_d_jdk_43_method_14_code_2) rfl (l' := #[rv t1a, rv t2a, iv (2 : Int32), u_]) rfl k) ?_
  refine Goes.via (B := s₁.setTop (mkF m 4 _ [(.ref t2a)])) (fun t k => XS.aloadN X0.here hx rfl (hb hby own_d_jdk_43_method_14_code_3) rfl rfl k) ?_
  obtain ⟨cl2, Ar2, q2, S2, N2, H2, G2⟩ := id F_2
  refine Goes.via (B := s₁.setTop (mkF m 5 #[rv t1a, rv t2a, iv (2 : Int32), u_] [(.int (1 : Int32))])) (fun t k => X0.arraylength hx (by rw [e0]; exact Ar2.1) (State.isArrayOf_alike hZ.alike Ar2.2.1) (g := (mkF m 4 #[rv t1a, rv t2a, iv (2 : Int32), u_] [(.ref t2a)])) rfl rfl (hb hby own_d_jdk_43_method_14_code_4) t (by rw [(len_of S2 N2)]; exact k)) ?_
  refine Goes.via (B := s₁.setTop (mkF m 6 _ [])) (fun t k => XS.istoreN X0.here hx rfl (hb hby own_d_jdk_43_method_14_code_5) rfl (l' := #[rv t1a, rv t2a, iv (2 : Int32), iv (1 : Int32)]) rfl k) ?_
  refine Goes.via (B := s₁.setTop (mkF m 7 _ [(.ref t1a)])) (fun t k => XS.aloadN X0.here hx rfl (hb hby own_d_jdk_43_method_14_code_6) rfl rfl k) ?_
  refine Goes.via (B := s₁.setTop (mkF m 8 _ [(.ref t2a), (.ref t1a)])) (fun t k => XS.aloadN X0.here hx rfl (hb hby own_d_jdk_43_method_14_code_7) rfl rfl k) ?_
  refine Goes.via (B := s₁.setTop (mkF m 9 _ [(.int (2 : Int32)), (.ref t2a), (.ref t1a)])) (fun t k => XS.iloadN X0.here hx rfl (hb hby own_d_jdk_43_method_14_code_8) rfl k) ?_
  refine Goes.via (B := s₁.setTop (mkF m 10 _ [(.int (1 : Int32)), (.int (2 : Int32)), (.ref t2a), (.ref t1a)])) (fun t k => XS.iloadN X0.here hx rfl (hb hby own_d_jdk_43_method_14_code_9) rfl k) ?_
  obtain ⟨_, T3, L3, X3, ⟨r3, rfl, M3, K3, p3_0⟩, st3⟩ := callStatic X0 hx hZ hown (own_hw hw 67 rfl) (own_hw hw 68 rfl) (own_hw hw 65 rfl) (own_hw hw 69 rfl) (by decide) (argsL := [(.ref t1a), (.ref t2a), (.int (2 : Int32)), (.int (1 : Int32))]) (rest := []) (own_m55 l Z a0 hw [] t1a k1a t2a k2a cc0 cc1 dd0 dd1 h0 n0 O0 hcc0 hcc1 hdd0 hdd1 F_1 F_2) e0 (lenOf own_pd10 rfl) (pc := 10) (Ls := #[rv t1a, rv t2a, iv (2 : Int32), iv (1 : Int32)]) (st := [(.int (1 : Int32)), (.int (2 : Int32)), (.ref t2a), (.ref t1a)]) rfl (by rw [hml]; rfl) (hb hby own_d_jdk_43_method_14_code_10) (W := 0) (Nat.le_of_eq rfl) (by decide) (by decide) (by decide) (by decide)
  have N3 := Fr.app N0 M3
  refine Goes.via (B := T3.setTop (mkF m 13 #[rv t1a, rv t2a, iv (2 : Int32), iv (1 : Int32)] [(.int r3)])) (fun t k => st3 _ k) ?_
  exact finI (Q := (own_Q56 Z t1a k1a t2a k2a cc0 cc1 dd0 dd1 h0 n0)) (F := FrameEnd) (C := ((Rm 2 0 0 32)).cells) (S := ((Rm 2 0 0 32)).slots) X3 hx Bd.returns (hb hby own_d_jdk_43_method_14_code_13) K3 ⟨r3, rfl, N3, rfl, p3_0⟩ (lvN X3 hlk (by decide) (by decide))
theorem own_ef57 (m : MethodId) (x0 : Addr) (x1 : Addr)  : entryFrame m #[(.ref x0), (.ref x1)] 5 = mkF m 0 #[rv x0, rv x1, u_, u_, u_] [] := by first | (simp [entryFrame, mkF, argsToLocals, Value.category]; done) | rfl
abbrev own_Q57 (Z : State) (a1 : Addr) (a2 : Addr) (z0 : Int32) (t1a : Addr) (k1a : ClassId) (t2a : Addr) (k2a : ClassId) (cc0 : Int32) (cc1 : Int32) (dd0 : Int32) (dd1 : Int32) (h0 : Heap) (n0 : Nat) (v : Option Value) (h : Heap) (L : List Loc) : Prop := ∃ r : Int32, v = some (.int r) ∧ Fr n0 L ∧ h = h0 ∧ own_sg r = own_lex (2 : Int32) cc0 cc1 (1 : Int32) dd0 dd1
set_option maxRecDepth 65536 in
set_option maxHeartbeats 40000000 in
theorem own_m57 (l : Launch) (Z : State) (a0 : Array Value) (hw : ∀ d ∈ tables_1, d.before a0 Z = true) (ws : List Jvm.Cond) (a1 : Addr) (a2 : Addr) (z0 : Int32) (t1a : Addr) (k1a : ClassId) (t2a : Addr) (k2a : ClassId) (cc0 : Int32) (cc1 : Int32) (dd0 : Int32) (dd1 : Int32) (h0 : Heap) (n0 : Nat) (O0 : Old Z n0 h0) (hz0 : ¬ z0 = (0 : Int32)) (hcc0 : ¬ cc0 < (0 : Int32) ∧ ¬ (255 : Int32) < cc0) (hcc1 : ¬ cc1 < (0 : Int32) ∧ ¬ (255 : Int32) < cc1) (hdd0 : ¬ dd0 < (0 : Int32) ∧ ¬ (255 : Int32) < dd0) (hdd1 : ¬ dd1 < (0 : Int32) ∧ ¬ (255 : Int32) < dd1) (O_1 : Sta Z Z.heap "java/lang/String" "COMPACT_STRINGS" "Z" (.int z0)) (F_1 : Exa Z h0 a1 "java/lang/String") (F_2 : Fld Z h0 a1 "java/lang/String" "value" "[B" (.ref t1a)) (F_3 : Fld Z h0 a1 "java/lang/String" "coder" "B" (.int (0 : Int32))) (F_4 : Exa Z h0 a2 "java/lang/String") (F_5 : Fld Z h0 a2 "java/lang/String" "value" "[B" (.ref t2a)) (F_6 : Fld Z h0 a2 "java/lang/String" "coder" "B" (.int (0 : Int32))) (F_7 : Arv Z h0 t1a k1a .byte (2 : Int32) [(.int cc0.toInt8.toInt32), (.int cc1.toInt8.toInt32)] (.int (0 : Int32))) (F_8 : Arv Z h0 t2a k2a .byte (1 : Int32) [(.int dd0.toInt8.toInt32)] (.int (0 : Int32))) :
    Ctr l Z (⟨"java/lang/String", "compareTo", "(Ljava/lang/String;)I"⟩ : MethodName) jdk_42_method_71_code 5 (some .int) (Rm 3 0 0 47) #[(.ref a1), (.ref a2)] h0 (own_Q57 Z a1 a2 z0 t1a k1a t2a k2a cc0 cc1 dd0 dd1 h0 n0) ws := by
  refine MetFree.of_bodySF (plainFor_of_name own_pn1) hisR ?_
  intro p e s m args below meth c s₁ Bd hml0 hP hK
  obtain ⟨rfl, hZ, hh⟩ := hP
  have hx := Bd.exec
  have hby := Bd.bytes
  have hlk : meth.locks = false := Bd.notSynchronized
  have hml : c.maxLocals = 5 := hml0
  have hown : s.vm.findClass "java/lang/String" = some m.cls := findClass_of_methodNamed Bd.named
  have hnm := (name_of_methodNamed Bd.named Bd.method).1
  have X0 : Stand p l e (Rm 3 0 0 47) s m #[(.ref a1), (.ref a2)] below meth c s₁ [] 0 0 := Stand.of_body Bd
  have e0 : s₁.heap = h0 := by rw [← hh, Bd.state]; rfl
  have N0 := Fr.nil n0
  show Goes p.tables e below (fun t o => ∃ v L, o = .returned v ∧ (own_Q57 Z a1 a2 z0 t1a k1a t2a k2a cc0 cc1 dd0 dd1 h0 n0) v t.heap L ∧ FrameEnd s o t L ((Rm 3 0 0 47)).cells ((Rm 3 0 0 47)).slots) _
  refine Goes.via (B := s₁.setTop (mkF m 0 #[rv a1, rv a2, u_, u_, u_] [])) (fun t k => castTop (own_ef57 m a1 a2) k) ?_
  refine Goes.via (B := s₁.setTop (mkF m 1 _ [(.ref a1)])) (fun t k => XS.aloadN X0.here hx rfl (hb hby own_d_jdk_42_method_71_code_0) rfl rfl k) ?_
  obtain ⟨T1, X1, e1, st1⟩ := getF X0 hx hZ hown (host := "") (Or.inl (own_hw hw 55 rfl)) Via.refl e0 F_2 (g := (mkF m 1 #[rv a1, rv a2, u_, u_, u_] [(.ref a1)])) rfl rfl (hb hby own_d_jdk_42_method_71_code_1)
  refine Goes.via (B := T1.setTop (mkF m 4 #[rv a1, rv a2, u_, u_, u_] [(.ref t1a)])) (fun t k => st1 _ k) ?_
  refine Goes.via (B := T1.setTop (mkF m 5 _ [])) (fun t k => XS.astoreN X1.here hx rfl (hb hby own_d_jdk_42_method_71_code_4) rfl rfl (l' := #[rv a1, rv a2, rv t1a, u_, u_]) rfl k) ?_
  refine Goes.via (B := T1.setTop (mkF m 6 _ [(.ref a2)])) (fun t k => XS.aloadN X1.here hx rfl (hb hby own_d_jdk_42_method_71_code_5) rfl rfl k) ?_
  obtain ⟨T2, X2, e2, st2⟩ := getF X1 hx hZ hown (host := "") (Or.inl (own_hw hw 55 rfl)) Via.refl e1 F_5 (g := (mkF m 6 #[rv a1, rv a2, rv t1a, u_, u_] [(.ref a2)])) rfl rfl (hb hby own_d_jdk_42_method_71_code_6)
  refine Goes.via (B := T2.setTop (mkF m 9 #[rv a1, rv a2, rv t1a, u_, u_] [(.ref t2a)])) (fun t k => st2 _ k) ?_
  refine Goes.via (B := T2.setTop (mkF m 10 _ [])) (fun t k => XS.astoreN X2.here hx rfl (hb hby own_d_jdk_42_method_71_code_9) rfl rfl (l' := #[rv a1, rv a2, rv t1a, rv t2a, u_]) rfl k) ?_
  refine Goes.via (B := T2.setTop (mkF m 11 _ [(.ref a1)])) (fun t k => XS.aloadN X2.here hx rfl (hb hby own_d_jdk_42_method_71_code_10) rfl rfl k) ?_
  obtain ⟨_, T3, L3, X3, ⟨rfl, M3, K3⟩, st3⟩ := callVirt X2 hx hZ hown (own_hw hw 56 rfl) (own_hw hw 57 rfl) (own_hw hw 59 rfl) (notFace_of_selects (args := #[]) (mvT hZ (own_hw hw 59 rfl))) (own_hw hw 58 rfl) (own_hw hw 5 rfl) (own_hw hw 60 rfl) (by decide) (argsL := []) (rest := []) (own_m15 l Z a0 hw [] a1 z0 h0 n0 O0 hz0 O_1 F_3) e2 F_1 (lenOf own_pd11 rfl) (pc := 11) (Ls := #[rv a1, rv a2, rv t1a, rv t2a, u_]) (st := [(.ref a1)]) rfl (by rw [hml]; rfl) (hb hby own_d_jdk_42_method_71_code_11) (W := 0) (Nat.le_of_eq rfl) (by decide) (by decide) (by decide) (by decide)
  have N3 := Fr.app N0 M3
  refine Goes.via (B := T3.setTop (mkF m 14 #[rv a1, rv a2, rv t1a, rv t2a, u_] [(.int (0 : Int32))])) (fun t k => st3 _ k) ?_
  refine Goes.via (B := T3.setTop (mkF m 16 _ [])) (fun t k => XS.istore X3.here hx rfl (hb hby own_d_jdk_42_method_71_code_14) rfl (l' := #[rv a1, rv a2, rv t1a, rv t2a, iv (0 : Int32)]) rfl k) ?_
  refine Goes.via (B := T3.setTop (mkF m 18 _ [(.int (0 : Int32))])) (fun t k => XS.iload X3.here hx rfl (hb hby own_d_jdk_42_method_71_code_16) rfl k) ?_
  refine Goes.via (B := T3.setTop (mkF m 19 _ [(.ref a2), (.int (0 : Int32))])) (fun t k => XS.aloadN X3.here hx rfl (hb hby own_d_jdk_42_method_71_code_18) rfl rfl k) ?_
  obtain ⟨_, T4, L4, X4, ⟨rfl, M4, K4⟩, st4⟩ := callVirt X3 hx hZ hown (own_hw hw 56 rfl) (own_hw hw 57 rfl) (own_hw hw 59 rfl) (notFace_of_selects (args := #[]) (mvT hZ (own_hw hw 59 rfl))) (own_hw hw 58 rfl) (own_hw hw 5 rfl) (own_hw hw 60 rfl) (by decide) (argsL := []) (rest := [(.int (0 : Int32))]) (own_m15 l Z a0 hw [] a2 z0 h0 n0 O0 hz0 O_1 F_6) K3 F_4 (lenOf own_pd11 rfl) (pc := 19) (Ls := #[rv a1, rv a2, rv t1a, rv t2a, iv (0 : Int32)]) (st := [(.ref a2), (.int (0 : Int32))]) rfl (by rw [hml]; rfl) (hb hby own_d_jdk_42_method_71_code_19) (W := 1) (Nat.le_of_eq rfl) (by decide) (by decide) (by decide) (by decide)
  have N4 := Fr.app N3 M4
  refine Goes.via (B := T4.setTop (mkF m 22 #[rv a1, rv a2, rv t1a, rv t2a, iv (0 : Int32)] [(.int (0 : Int32)), (.int (0 : Int32))])) (fun t k => st4 _ k) ?_
  refine Goes.via (B := T4.setTop (mkF m 25 _ [])) (fun t k => XS.icmpNo X4.here hx rfl (hb hby own_d_jdk_42_method_71_code_22) rfl (XT.ii_ne_f rfl) k) ?_
  refine Goes.via (B := T4.setTop (mkF m 27 _ [(.int (0 : Int32))])) (fun t k => XS.iload X4.here hx rfl (hb hby own_d_jdk_42_method_71_code_25) rfl k) ?_
  refine Goes.via (B := T4.setTop (mkF m 30 _ [])) (fun t k => XS.ifNo X4.here hx rfl (hb hby own_d_jdk_42_method_71_code_27) rfl (XT.i0_ne_f rfl) k) ?_
  refine Goes.via (B := T4.setTop (mkF m 31 _ [(.ref t1a)])) (fun t k => XS.aloadN X4.here hx rfl (hb hby own_d_jdk_42_method_71_code_30) rfl rfl k) ?_
  refine Goes.via (B := T4.setTop (mkF m 32 _ [(.ref t2a), (.ref t1a)])) (fun t k => XS.aloadN X4.here hx rfl (hb hby own_d_jdk_42_method_71_code_31) rfl rfl k) ?_
  obtain ⟨_, T5, L5, X5, ⟨r5, rfl, M5, K5, p5_0⟩, st5⟩ := callStatic X4 hx hZ hown (own_hw hw 63 rfl) (own_hw hw 64 rfl) (own_hw hw 65 rfl) (own_hw hw 66 rfl) (by decide) (argsL := [(.ref t1a), (.ref t2a)]) (rest := []) (own_m56 l Z a0 hw [] t1a k1a t2a k2a cc0 cc1 dd0 dd1 h0 n0 O0 hcc0 hcc1 hdd0 hdd1 F_7 F_8) K4 (lenOf own_pd12 rfl) (pc := 32) (Ls := #[rv a1, rv a2, rv t1a, rv t2a, iv (0 : Int32)]) (st := [(.ref t2a), (.ref t1a)]) rfl (by rw [hml]; rfl) (hb hby own_d_jdk_42_method_71_code_32) (W := 0) (Nat.le_of_eq rfl) (by decide) (by decide) (by decide) (by decide)
  have N5 := Fr.app N4 M5
  refine Goes.via (B := T5.setTop (mkF m 35 #[rv a1, rv a2, rv t1a, rv t2a, iv (0 : Int32)] [(.int r5)])) (fun t k => st5 _ k) ?_
  refine Goes.via (B := T5.setTop (mkF m 43 _ [(.int r5)])) (fun t k => XS.goto X5.here hx rfl (pc0 := 35) (pc' := 43) rfl (hb hby own_d_jdk_42_method_71_code_35) (by decide) (by decide) k) ?_
  exact finI (Q := (own_Q57 Z a1 a2 z0 t1a k1a t2a k2a cc0 cc1 dd0 dd1 h0 n0)) (F := FrameEnd) (C := ((Rm 3 0 0 47)).cells) (S := ((Rm 3 0 0 47)).slots) X5 hx Bd.returns (hb hby own_d_jdk_42_method_71_code_43) K5 ⟨r5, rfl, N5, rfl, p5_0⟩ (lvN X5 hlk (by decide) (by decide))
theorem own_ef58 (m : MethodId) (x0 : Addr) (x1 : Addr)  : entryFrame m #[(.ref x0), (.ref x1)] 3 = mkF m 0 #[rv x0, rv x1, u_] [] := by first | (simp [entryFrame, mkF, argsToLocals, Value.category]; done) | rfl
abbrev own_Q58 (Z : State) (a1 : Addr) (a2 : Addr) (x1 : Int64) (x2 : Int64) (s1a : Addr) (s2a : Addr) (z0 : Int32) (t1a : Addr) (k1a : ClassId) (t2a : Addr) (k2a : ClassId) (cc0 : Int32) (cc1 : Int32) (dd0 : Int32) (dd1 : Int32) (h0 : Heap) (n0 : Nat) (v : Option Value) (h : Heap) (L : List Loc) : Prop := ∃ r : Int32, v = some (.int r) ∧ Fr n0 L ∧ h = h0 ∧ own_sg r = own_exp x1 x2 (2 : Int32) cc0 cc1 (1 : Int32) dd0 dd1
set_option maxRecDepth 65536 in
set_option maxHeartbeats 40000000 in
theorem own_m58 (l : Launch) (Z : State) (a0 : Array Value) (hw : ∀ d ∈ tables_1, d.before a0 Z = true) (ws : List Jvm.Cond) (a1 : Addr) (a2 : Addr) (x1 : Int64) (x2 : Int64) (s1a : Addr) (s2a : Addr) (z0 : Int32) (t1a : Addr) (k1a : ClassId) (t2a : Addr) (k2a : ClassId) (cc0 : Int32) (cc1 : Int32) (dd0 : Int32) (dd1 : Int32) (h0 : Heap) (n0 : Nat) (O0 : Old Z n0 h0) (hz0 : ¬ z0 = (0 : Int32)) (hcc0 : ¬ cc0 < (0 : Int32) ∧ ¬ (255 : Int32) < cc0) (hcc1 : ¬ cc1 < (0 : Int32) ∧ ¬ (255 : Int32) < cc1) (hdd0 : ¬ dd0 < (0 : Int32) ∧ ¬ (255 : Int32) < dd0) (hdd1 : ¬ dd1 < (0 : Int32) ∧ ¬ (255 : Int32) < dd1) (O_1 : Sta Z Z.heap "java/lang/String" "COMPACT_STRINGS" "Z" (.int z0)) (F_1 : Exa Z h0 a1 "com/example/keelson/keelson/cluster/Ballot") (F_2 : Fld Z h0 a1 "com/example/keelson/keelson/cluster/Ballot" "round" "J" (.long x1)) (F_3 : Fld Z h0 a1 "com/example/keelson/keelson/cluster/Ballot" "proposer" "Ljava/lang/String;" (.ref s1a)) (F_4 : Exa Z h0 a2 "com/example/keelson/keelson/cluster/Ballot") (F_5 : Fld Z h0 a2 "com/example/keelson/keelson/cluster/Ballot" "round" "J" (.long x2)) (F_6 : Fld Z h0 a2 "com/example/keelson/keelson/cluster/Ballot" "proposer" "Ljava/lang/String;" (.ref s2a)) (F_7 : Exa Z h0 s1a "java/lang/String") (F_8 : Fld Z h0 s1a "java/lang/String" "value" "[B" (.ref t1a)) (F_9 : Fld Z h0 s1a "java/lang/String" "coder" "B" (.int (0 : Int32))) (F_10 : Exa Z h0 s2a "java/lang/String") (F_11 : Fld Z h0 s2a "java/lang/String" "value" "[B" (.ref t2a)) (F_12 : Fld Z h0 s2a "java/lang/String" "coder" "B" (.int (0 : Int32))) (F_13 : Arv Z h0 t1a k1a .byte (2 : Int32) [(.int cc0.toInt8.toInt32), (.int cc1.toInt8.toInt32)] (.int (0 : Int32))) (F_14 : Arv Z h0 t2a k2a .byte (1 : Int32) [(.int dd0.toInt8.toInt32)] (.int (0 : Int32))) :
    Ctr l Z (⟨"com/example/keelson/keelson/cluster/Ballot", "compareTo", "(Lcom/example/keelson/keelson/cluster/Ballot;)I"⟩ : MethodName) prog_19_method_2_code 3 (some .int) (Rm 4 0 0 63) #[(.ref a1), (.ref a2)] h0 (own_Q58 Z a1 a2 x1 x2 s1a s2a z0 t1a k1a t2a k2a cc0 cc1 dd0 dd1 h0 n0) ws := by
  refine MetFree.of_bodySF (plainFor_of_name own_pn5) hisR ?_
  intro p e s m args below meth c s₁ Bd hml0 hP hK
  obtain ⟨rfl, hZ, hh⟩ := hP
  have hx := Bd.exec
  have hby := Bd.bytes
  have hlk : meth.locks = false := Bd.notSynchronized
  have hml : c.maxLocals = 3 := hml0
  have hown : s.vm.findClass "com/example/keelson/keelson/cluster/Ballot" = some m.cls := findClass_of_methodNamed Bd.named
  have hnm := (name_of_methodNamed Bd.named Bd.method).1
  have X0 : Stand p l e (Rm 4 0 0 63) s m #[(.ref a1), (.ref a2)] below meth c s₁ [] 0 0 := Stand.of_body Bd
  have e0 : s₁.heap = h0 := by rw [← hh, Bd.state]; rfl
  have N0 := Fr.nil n0
  show Goes p.tables e below (fun t o => ∃ v L, o = .returned v ∧ (own_Q58 Z a1 a2 x1 x2 s1a s2a z0 t1a k1a t2a k2a cc0 cc1 dd0 dd1 h0 n0) v t.heap L ∧ FrameEnd s o t L ((Rm 4 0 0 63)).cells ((Rm 4 0 0 63)).slots) _
  refine Goes.via (B := s₁.setTop (mkF m 0 #[rv a1, rv a2, u_] [])) (fun t k => castTop (own_ef58 m a1 a2) k) ?_
  refine Goes.via (B := s₁.setTop (mkF m 1 _ [(.ref a1)])) (fun t k => XS.aloadN X0.here hx rfl (hb hby own_d_prog_19_method_2_code_0) rfl rfl k) ?_
  obtain ⟨T1, X1, e1, st1⟩ := getF X0 hx hZ hown (host := "") (Or.inl (own_hw hw 31 rfl)) Via.refl e0 F_2 (g := (mkF m 1 #[rv a1, rv a2, u_] [(.ref a1)])) rfl rfl (hb hby own_d_prog_19_method_2_code_1)
  refine Goes.via (B := T1.setTop (mkF m 4 #[rv a1, rv a2, u_] [(.long x1)])) (fun t k => st1 _ k) ?_
  refine Goes.via (B := T1.setTop (mkF m 5 _ [(.ref a2), (.long x1)])) (fun t k => XS.aloadN X1.here hx rfl (hb hby own_d_prog_19_method_2_code_4) rfl rfl k) ?_
  obtain ⟨T2, X2, e2, st2⟩ := getF X1 hx hZ hown (host := "") (Or.inl (own_hw hw 31 rfl)) Via.refl e1 F_5 (g := (mkF m 5 #[rv a1, rv a2, u_] [(.ref a2), (.long x1)])) rfl rfl (hb hby own_d_prog_19_method_2_code_5)
  refine Goes.via (B := T2.setTop (mkF m 8 #[rv a1, rv a2, u_] [(.long x2), (.long x1)])) (fun t k => st2 _ k) ?_
  obtain ⟨_, T3, L3, X3, ⟨r3, rfl, M3, K3, p3_0⟩, st3⟩ := callStatic X2 hx hZ hown (own_hw hw 40 rfl) (own_hw hw 41 rfl) (own_hw hw 42 rfl) (own_hw hw 43 rfl) (by decide) (argsL := [(.long x1), (.long x2)]) (rest := []) (own_m11 l Z a0 hw [] x1 x2 h0 n0 O0 ) e2 (lenOf own_pd13 rfl) (pc := 8) (Ls := #[rv a1, rv a2, u_]) (st := [(.long x2), (.long x1)]) rfl (by rw [hml]; rfl) (hb hby own_d_prog_19_method_2_code_8) (W := 0) (Nat.le_of_eq rfl) (by decide) (by decide) (by decide) (by decide)
  have N3 := Fr.app N0 M3
  refine Goes.via (B := T3.setTop (mkF m 11 #[rv a1, rv a2, u_] [(.int r3)])) (fun t k => st3 _ k) ?_
  refine Goes.via (B := T3.setTop (mkF m 12 _ [])) (fun t k => XS.istoreN X3.here hx rfl (hb hby own_d_prog_19_method_2_code_11) rfl (l' := #[rv a1, rv a2, iv r3]) rfl k) ?_
  refine Goes.via (B := T3.setTop (mkF m 13 _ [(.int r3)])) (fun t k => XS.iloadN X3.here hx rfl (hb hby own_d_prog_19_method_2_code_12) rfl k) ?_
  by_cases hlt : x1 < x2
  · rw [if_pos hlt] at p3_0
    subst p3_0
    refine Goes.via (B := T3.setTop (mkF m 28 _ [])) (fun t k => XS.ifYes X3.here hx rfl (pc0 := 13) (pc' := 28) rfl (hb hby own_d_prog_19_method_2_code_13) rfl (XT.i0_ne_t (by decide)) (by decide) (by decide) k) ?_
    refine Goes.via (B := T3.setTop (mkF m 29 _ [(.int (-1 : Int32))])) (fun t k => XS.iloadN X3.here hx rfl (hb hby own_d_prog_19_method_2_code_28) rfl k) ?_
    exact finI (Q := (own_Q58 Z a1 a2 x1 x2 s1a s2a z0 t1a k1a t2a k2a cc0 cc1 dd0 dd1 h0 n0)) (F := FrameEnd) (C := ((Rm 4 0 0 63)).cells) (S := ((Rm 4 0 0 63)).slots) X3 hx Bd.returns (hb hby own_d_prog_19_method_2_code_29) K3 ⟨(-1 : Int32), rfl, N3, rfl, (by unfold own_exp; rw [if_pos hlt]; decide)⟩ (lvN X3 hlk (by decide) (by decide))
  · rw [if_neg hlt] at p3_0
    by_cases heq : x1 = x2
    · rw [if_pos heq] at p3_0
      have hng : ¬ x2 < x1 := by rw [heq]; rw [Int64.lt_iff_toInt_lt]; omega
      subst p3_0
      refine Goes.via (B := T3.setTop (mkF m 16 _ [])) (fun t k => XS.ifNo X3.here hx rfl (hb hby own_d_prog_19_method_2_code_13) rfl (XT.i0_ne_f rfl) k) ?_
      refine Goes.via (B := T3.setTop (mkF m 17 _ [(.ref a1)])) (fun t k => XS.aloadN X3.here hx rfl (hb hby own_d_prog_19_method_2_code_16) rfl rfl k) ?_
      obtain ⟨T4, X4, e4, st4⟩ := getF X3 hx hZ hown (host := "") (Or.inl (own_hw hw 33 rfl)) Via.refl K3 F_3 (g := (mkF m 17 #[rv a1, rv a2, iv (0 : Int32)] [(.ref a1)])) rfl rfl (hb hby own_d_prog_19_method_2_code_17)
      refine Goes.via (B := T4.setTop (mkF m 20 #[rv a1, rv a2, iv (0 : Int32)] [(.ref s1a)])) (fun t k => st4 _ k) ?_
      refine Goes.via (B := T4.setTop (mkF m 21 _ [(.ref a2), (.ref s1a)])) (fun t k => XS.aloadN X4.here hx rfl (hb hby own_d_prog_19_method_2_code_20) rfl rfl k) ?_
      obtain ⟨T5, X5, e5, st5⟩ := getF X4 hx hZ hown (host := "") (Or.inl (own_hw hw 33 rfl)) Via.refl e4 F_6 (g := (mkF m 21 #[rv a1, rv a2, iv (0 : Int32)] [(.ref a2), (.ref s1a)])) rfl rfl (hb hby own_d_prog_19_method_2_code_21)
      refine Goes.via (B := T5.setTop (mkF m 24 #[rv a1, rv a2, iv (0 : Int32)] [(.ref s2a), (.ref s1a)])) (fun t k => st5 _ k) ?_
      obtain ⟨_, T6, L6, X6, ⟨r6, rfl, M6, K6, p6_0⟩, st6⟩ := callVirt X5 hx hZ hown (own_hw hw 50 rfl) (own_hw hw 51 rfl) (own_hw hw 53 rfl) (notFace_of_selects (args := #[]) (mvT hZ (own_hw hw 53 rfl))) (own_hw hw 52 rfl) (own_hw hw 5 rfl) (own_hw hw 54 rfl) (by decide) (argsL := [(.ref s2a)]) (rest := []) (own_m57 l Z a0 hw [] s1a s2a z0 t1a k1a t2a k2a cc0 cc1 dd0 dd1 h0 n0 O0 hz0 hcc0 hcc1 hdd0 hdd1 O_1 F_7 F_8 F_9 F_10 F_11 F_12 F_13 F_14) e5 F_7 (lenOf own_pd14 rfl) (pc := 24) (Ls := #[rv a1, rv a2, iv (0 : Int32)]) (st := [(.ref s2a), (.ref s1a)]) rfl (by rw [hml]; rfl) (hb hby own_d_prog_19_method_2_code_24) (W := 0) (Nat.le_of_eq rfl) (by decide) (by decide) (by decide) (by decide)
      have N6 := Fr.app N3 M6
      refine Goes.via (B := T6.setTop (mkF m 27 #[rv a1, rv a2, iv (0 : Int32)] [(.int r6)])) (fun t k => st6 _ k) ?_
      refine Goes.via (B := T6.setTop (mkF m 28 _ [])) (fun t k => XS.istoreN X6.here hx rfl (hb hby own_d_prog_19_method_2_code_27) rfl (l' := #[rv a1, rv a2, iv r6]) rfl k) ?_
      refine Goes.via (B := T6.setTop (mkF m 29 _ [(.int r6)])) (fun t k => XS.iloadN X6.here hx rfl (hb hby own_d_prog_19_method_2_code_28) rfl k) ?_
      exact finI (Q := (own_Q58 Z a1 a2 x1 x2 s1a s2a z0 t1a k1a t2a k2a cc0 cc1 dd0 dd1 h0 n0)) (F := FrameEnd) (C := ((Rm 4 0 0 63)).cells) (S := ((Rm 4 0 0 63)).slots) X6 hx Bd.returns (hb hby own_d_prog_19_method_2_code_29) K6 ⟨r6, rfl, N6, rfl, (by unfold own_exp; rw [if_neg hlt, if_neg hng]; exact p6_0)⟩ (lvN X6 hlk (by decide) (by decide))
    · rw [if_neg heq] at p3_0
      have hgt : x2 < x1 := by
        have n' : ¬ x1.toInt = x2.toInt := fun z => heq (Int64.toInt_inj.mp z)
        rw [Int64.lt_iff_toInt_lt] at *; omega
      subst p3_0
      refine Goes.via (B := T3.setTop (mkF m 28 _ [])) (fun t k => XS.ifYes X3.here hx rfl (pc0 := 13) (pc' := 28) rfl (hb hby own_d_prog_19_method_2_code_13) rfl (XT.i0_ne_t (by decide)) (by decide) (by decide) k) ?_
      refine Goes.via (B := T3.setTop (mkF m 29 _ [(.int (1 : Int32))])) (fun t k => XS.iloadN X3.here hx rfl (hb hby own_d_prog_19_method_2_code_28) rfl k) ?_
      exact finI (Q := (own_Q58 Z a1 a2 x1 x2 s1a s2a z0 t1a k1a t2a k2a cc0 cc1 dd0 dd1 h0 n0)) (F := FrameEnd) (C := ((Rm 4 0 0 63)).cells) (S := ((Rm 4 0 0 63)).slots) X3 hx Bd.returns (hb hby own_d_prog_19_method_2_code_29) K3 ⟨(1 : Int32), rfl, N3, rfl, (by unfold own_exp; rw [if_neg hlt, if_pos hgt]; decide)⟩ (lvN X3 hlk (by decide) (by decide))
theorem own_ef59 (m : MethodId) (x0 : Addr) (x1 : Addr) (x2 : Int32)  : entryFrame m #[(.ref x0), (.ref x1), (.int x2)] 4 = mkF m 0 #[rv x0, rv x1, iv x2, u_] [] := by first | (simp [entryFrame, mkF, argsToLocals, Value.category]; done) | rfl
abbrev own_Q59 (Z : State) (t1a : Addr) (k1a : ClassId) (t2a : Addr) (k2a : ClassId) (cc0 : Int32) (cc1 : Int32) (dd0 : Int32) (dd1 : Int32) (h0 : Heap) (n0 : Nat) (v : Option Value) (h : Heap) (L : List Loc) : Prop := ∃ r : Int32, v = some (.int r) ∧ Fr n0 L ∧ h = h0 ∧ r = if cc0.toInt8.toInt32 = dd0.toInt8.toInt32 then (if cc1.toInt8.toInt32 = dd1.toInt8.toInt32 then (-1 : Int32) else 1) else 0
set_option maxRecDepth 65536 in
set_option maxHeartbeats 40000000 in
theorem own_m59 (l : Launch) (Z : State) (a0 : Array Value) (hw : ∀ d ∈ tables_1, d.before a0 Z = true) (ws : List Jvm.Cond) (t1a : Addr) (k1a : ClassId) (t2a : Addr) (k2a : ClassId) (cc0 : Int32) (cc1 : Int32) (dd0 : Int32) (dd1 : Int32) (h0 : Heap) (n0 : Nat) (O0 : Old Z n0 h0) (F_1 : Arv Z h0 t1a k1a .byte (2 : Int32) [(.int cc0.toInt8.toInt32), (.int cc1.toInt8.toInt32)] (.int (0 : Int32))) (F_2 : Arv Z h0 t2a k2a .byte (2 : Int32) [(.int dd0.toInt8.toInt32), (.int dd1.toInt8.toInt32)] (.int (0 : Int32))) :
    Ctr l Z (⟨"jdk/internal/util/ArraysSupport", "mismatch", "([B[BI)I"⟩ : MethodName) jdk_48_method_13_code 4 (some .int) (Rm 0 0 0 0) #[(.ref t1a), (.ref t2a), (.int (2 : Int32))] h0 (own_Q59 Z t1a k1a t2a k2a cc0 cc1 dd0 dd1 h0 n0) ws := by
  refine MetFree.of_bodySF (plainFor_of_name own_pn7) hisR ?_
  intro p e s m args below meth c s₁ Bd hml0 hP hK
  obtain ⟨rfl, hZ, hh⟩ := hP
  have hx := Bd.exec
  have hby := Bd.bytes
  have hlk : meth.locks = false := Bd.notSynchronized
  have hml : c.maxLocals = 4 := hml0
  have hown : s.vm.findClass "jdk/internal/util/ArraysSupport" = some m.cls := findClass_of_methodNamed Bd.named
  have hnm := (name_of_methodNamed Bd.named Bd.method).1
  have X0 : Stand p l e (Rm 0 0 0 0) s m #[(.ref t1a), (.ref t2a), (.int (2 : Int32))] below meth c s₁ [] 0 0 := Stand.of_body Bd
  have e0 : s₁.heap = h0 := by rw [← hh, Bd.state]; rfl
  have N0 := Fr.nil n0
  show Goes p.tables e below (fun t o => ∃ v L, o = .returned v ∧ (own_Q59 Z t1a k1a t2a k2a cc0 cc1 dd0 dd1 h0 n0) v t.heap L ∧ FrameEnd s o t L ((Rm 0 0 0 0)).cells ((Rm 0 0 0 0)).slots) _
  refine Goes.via (B := s₁.setTop (mkF m 0 #[rv t1a, rv t2a, iv (2 : Int32), u_] [])) (fun t k => castTop (own_ef59 m t1a t2a (2 : Int32)) k) ?_
  refine Goes.via (B := s₁.setTop (mkF m 1 _ [(.int (0 : Int32))])) (fun t k => XS.iconst X0.here hx rfl (hb hby own_d_jdk_48_method_13_code_0) k) ?_
  refine Goes.via (B := s₁.setTop (mkF m 2 _ [])) (fun t k => XS.istoreN X0.here hx rfl (hb hby own_d_jdk_48_method_13_code_1) rfl (l' := #[rv t1a, rv t2a, iv (2 : Int32), iv (0 : Int32)]) rfl k) ?_
  refine Goes.via (B := s₁.setTop (mkF m 3 _ [(.int (2 : Int32))])) (fun t k => XS.iloadN X0.here hx rfl (hb hby own_d_jdk_48_method_13_code_2) rfl k) ?_
  refine Goes.via (B := s₁.setTop (mkF m 5 _ [(.int (7 : Int32)), (.int (2 : Int32))])) (fun t k => XS.bipush X0.here hx rfl (hb hby own_d_jdk_48_method_13_code_3) k) ?_
  refine Goes.via (B := s₁.setTop (mkF m 49 _ [])) (fun t k => XS.icmpYes X0.here hx rfl (pc0 := 5) (pc' := 49) rfl (hb hby own_d_jdk_48_method_13_code_5) rfl (XT.ii_le_t (by decide)) (by decide) (by decide) k) ?_
  refine Goes.via (B := s₁.setTop (mkF m 50 _ [(.int (0 : Int32))])) (fun t k => XS.iloadN X0.here hx rfl (hb hby own_d_jdk_48_method_13_code_49) rfl k) ?_
  refine Goes.via (B := s₁.setTop (mkF m 51 _ [(.int (2 : Int32)), (.int (0 : Int32))])) (fun t k => XS.iloadN X0.here hx rfl (hb hby own_d_jdk_48_method_13_code_50) rfl k) ?_
  refine Goes.via (B := s₁.setTop (mkF m 54 _ [])) (fun t k => XS.icmpNo X0.here hx rfl (hb hby own_d_jdk_48_method_13_code_51) rfl (XT.ii_ge_f (by decide)) k) ?_
  refine Goes.via (B := s₁.setTop (mkF m 55 _ [(.ref t1a)])) (fun t k => XS.aloadN X0.here hx rfl (hb hby own_d_jdk_48_method_13_code_54) rfl rfl k) ?_
  refine Goes.via (B := s₁.setTop (mkF m 56 _ [(.int (0 : Int32)), (.ref t1a)])) (fun t k => XS.iloadN X0.here hx rfl (hb hby own_d_jdk_48_method_13_code_55) rfl k) ?_
  obtain ⟨cl1, Ar1, q1, S1, N1, H1, G1⟩ := id F_1
  have hin1 := inb_of (j := (0 : Int32)) S1 ⟨by decide, by decide⟩
  refine Goes.via (B := s₁.setTop (mkF m 57 #[rv t1a, rv t2a, iv (2 : Int32), iv (0 : Int32)] [(.int cc0.toInt8.toInt32)])) (fun t k => X0.baloadBytes hx (j := (0 : Int32)) (v := (.int cc0.toInt8.toInt32)) (by rw [e0]; exact Ar1.1) (State.isArrayOf_alike hZ.alike Ar1.2.1) Ar1.2.2 hin1 (H1.at hin1 rfl) (g := (mkF m 56 #[rv t1a, rv t2a, iv (2 : Int32), iv (0 : Int32)] [(.int (0 : Int32)), (.ref t1a)])) rfl rfl (hb hby own_d_jdk_48_method_13_code_56) t k) ?_
  refine Goes.via (B := s₁.setTop (mkF m 58 _ [(.ref t2a), (.int cc0.toInt8.toInt32)])) (fun t k => XS.aloadN X0.here hx rfl (hb hby own_d_jdk_48_method_13_code_57) rfl rfl k) ?_
  refine Goes.via (B := s₁.setTop (mkF m 59 _ [(.int (0 : Int32)), (.ref t2a), (.int cc0.toInt8.toInt32)])) (fun t k => XS.iloadN X0.here hx rfl (hb hby own_d_jdk_48_method_13_code_58) rfl k) ?_
  obtain ⟨cl2, Ar2, q2, S2, N2, H2, G2⟩ := id F_2
  have hin2 := inb_of (j := (0 : Int32)) S2 ⟨by decide, by decide⟩
  refine Goes.via (B := s₁.setTop (mkF m 60 #[rv t1a, rv t2a, iv (2 : Int32), iv (0 : Int32)] [(.int dd0.toInt8.toInt32), (.int cc0.toInt8.toInt32)])) (fun t k => X0.baloadBytes hx (j := (0 : Int32)) (v := (.int dd0.toInt8.toInt32)) (by rw [e0]; exact Ar2.1) (State.isArrayOf_alike hZ.alike Ar2.2.1) Ar2.2.2 hin2 (H2.at hin2 rfl) (g := (mkF m 59 #[rv t1a, rv t2a, iv (2 : Int32), iv (0 : Int32)] [(.int (0 : Int32)), (.ref t2a), (.int cc0.toInt8.toInt32)])) rfl rfl (hb hby own_d_jdk_48_method_13_code_59) t k) ?_
  by_cases b3 : cc0.toInt8.toInt32 = dd0.toInt8.toInt32
  · refine Goes.via (B := s₁.setTop (mkF m 65 _ [])) (fun t k => XS.icmpYes X0.here hx rfl (pc0 := 60) (pc' := 65) rfl (hb hby own_d_jdk_48_method_13_code_60) rfl (XT.ii_eq_t b3) (by decide) (by decide) k) ?_
    refine Goes.via (B := s₁.setTop (mkF m 68 _ [])) (fun t k => XS.iinc X0.here hx rfl (hb hby own_d_jdk_48_method_13_code_65) rfl (l' := #[rv t1a, rv t2a, iv (2 : Int32), iv ((0 : Int32) + (1 : Int32))]) rfl k) ?_
    refine Goes.via (B := s₁.setTop (mkF m 49 _ [])) (fun t k => XS.goto X0.here hx rfl (pc0 := 68) (pc' := 49) rfl (hb hby own_d_jdk_48_method_13_code_68) (by decide) (by decide) k) ?_
    have q4 : ((0 : Int32) + (1 : Int32)) = (1 : Int32) := rfl
    rw [q4]
    refine Goes.via (B := s₁.setTop (mkF m 50 _ [(.int (1 : Int32))])) (fun t k => XS.iloadN X0.here hx rfl (hb hby own_d_jdk_48_method_13_code_49) rfl k) ?_
    refine Goes.via (B := s₁.setTop (mkF m 51 _ [(.int (2 : Int32)), (.int (1 : Int32))])) (fun t k => XS.iloadN X0.here hx rfl (hb hby own_d_jdk_48_method_13_code_50) rfl k) ?_
    refine Goes.via (B := s₁.setTop (mkF m 54 _ [])) (fun t k => XS.icmpNo X0.here hx rfl (hb hby own_d_jdk_48_method_13_code_51) rfl (XT.ii_ge_f (by decide)) k) ?_
    refine Goes.via (B := s₁.setTop (mkF m 55 _ [(.ref t1a)])) (fun t k => XS.aloadN X0.here hx rfl (hb hby own_d_jdk_48_method_13_code_54) rfl rfl k) ?_
    refine Goes.via (B := s₁.setTop (mkF m 56 _ [(.int (1 : Int32)), (.ref t1a)])) (fun t k => XS.iloadN X0.here hx rfl (hb hby own_d_jdk_48_method_13_code_55) rfl k) ?_
    obtain ⟨cl5, Ar5, q5, S5, N5, H5, G5⟩ := id F_1
    have hin5 := inb_of (j := (1 : Int32)) S5 ⟨by decide, by decide⟩
    refine Goes.via (B := s₁.setTop (mkF m 57 #[rv t1a, rv t2a, iv (2 : Int32), iv (1 : Int32)] [(.int cc1.toInt8.toInt32)])) (fun t k => X0.baloadBytes hx (j := (1 : Int32)) (v := (.int cc1.toInt8.toInt32)) (by rw [e0]; exact Ar5.1) (State.isArrayOf_alike hZ.alike Ar5.2.1) Ar5.2.2 hin5 (H5.at hin5 rfl) (g := (mkF m 56 #[rv t1a, rv t2a, iv (2 : Int32), iv (1 : Int32)] [(.int (1 : Int32)), (.ref t1a)])) rfl rfl (hb hby own_d_jdk_48_method_13_code_56) t k) ?_
    refine Goes.via (B := s₁.setTop (mkF m 58 _ [(.ref t2a), (.int cc1.toInt8.toInt32)])) (fun t k => XS.aloadN X0.here hx rfl (hb hby own_d_jdk_48_method_13_code_57) rfl rfl k) ?_
    refine Goes.via (B := s₁.setTop (mkF m 59 _ [(.int (1 : Int32)), (.ref t2a), (.int cc1.toInt8.toInt32)])) (fun t k => XS.iloadN X0.here hx rfl (hb hby own_d_jdk_48_method_13_code_58) rfl k) ?_
    obtain ⟨cl6, Ar6, q6, S6, N6, H6, G6⟩ := id F_2
    have hin6 := inb_of (j := (1 : Int32)) S6 ⟨by decide, by decide⟩
    refine Goes.via (B := s₁.setTop (mkF m 60 #[rv t1a, rv t2a, iv (2 : Int32), iv (1 : Int32)] [(.int dd1.toInt8.toInt32), (.int cc1.toInt8.toInt32)])) (fun t k => X0.baloadBytes hx (j := (1 : Int32)) (v := (.int dd1.toInt8.toInt32)) (by rw [e0]; exact Ar6.1) (State.isArrayOf_alike hZ.alike Ar6.2.1) Ar6.2.2 hin6 (H6.at hin6 rfl) (g := (mkF m 59 #[rv t1a, rv t2a, iv (2 : Int32), iv (1 : Int32)] [(.int (1 : Int32)), (.ref t2a), (.int cc1.toInt8.toInt32)])) rfl rfl (hb hby own_d_jdk_48_method_13_code_59) t k) ?_
    by_cases b7 : cc1.toInt8.toInt32 = dd1.toInt8.toInt32
    · refine Goes.via (B := s₁.setTop (mkF m 65 _ [])) (fun t k => XS.icmpYes X0.here hx rfl (pc0 := 60) (pc' := 65) rfl (hb hby own_d_jdk_48_method_13_code_60) rfl (XT.ii_eq_t b7) (by decide) (by decide) k) ?_
      refine Goes.via (B := s₁.setTop (mkF m 68 _ [])) (fun t k => XS.iinc X0.here hx rfl (hb hby own_d_jdk_48_method_13_code_65) rfl (l' := #[rv t1a, rv t2a, iv (2 : Int32), iv ((1 : Int32) + (1 : Int32))]) rfl k) ?_
      refine Goes.via (B := s₁.setTop (mkF m 49 _ [])) (fun t k => XS.goto X0.here hx rfl (pc0 := 68) (pc' := 49) rfl (hb hby own_d_jdk_48_method_13_code_68) (by decide) (by decide) k) ?_
      have q8 : ((1 : Int32) + (1 : Int32)) = (2 : Int32) := rfl
      rw [q8]
      refine Goes.via (B := s₁.setTop (mkF m 50 _ [(.int (2 : Int32))])) (fun t k => XS.iloadN X0.here hx rfl (hb hby own_d_jdk_48_method_13_code_49) rfl k) ?_
      refine Goes.via (B := s₁.setTop (mkF m 51 _ [(.int (2 : Int32)), (.int (2 : Int32))])) (fun t k => XS.iloadN X0.here hx rfl (hb hby own_d_jdk_48_method_13_code_50) rfl k) ?_
      refine Goes.via (B := s₁.setTop (mkF m 71 _ [])) (fun t k => XS.icmpYes X0.here hx rfl (pc0 := 51) (pc' := 71) rfl (hb hby own_d_jdk_48_method_13_code_51) rfl (XT.ii_ge_t (by decide)) (by decide) (by decide) k) ?_
      refine Goes.via (B := s₁.setTop (mkF m 72 _ [(.int (-1 : Int32))])) (fun t k => XS.iconst X0.here hx rfl (hb hby own_d_jdk_48_method_13_code_71) k) ?_
      exact finI (Q := (own_Q59 Z t1a k1a t2a k2a cc0 cc1 dd0 dd1 h0 n0)) (F := FrameEnd) (C := ((Rm 0 0 0 0)).cells) (S := ((Rm 0 0 0 0)).slots) X0 hx Bd.returns (hb hby own_d_jdk_48_method_13_code_72) e0 ⟨(-1 : Int32), rfl, N0, rfl, (by simp [b3, b7])⟩ (lvN X0 hlk (by decide) (by decide))
    · refine Goes.via (B := s₁.setTop (mkF m 63 _ [])) (fun t k => XS.icmpNo X0.here hx rfl (hb hby own_d_jdk_48_method_13_code_60) rfl (XT.ii_eq_f b7) k) ?_
      refine Goes.via (B := s₁.setTop (mkF m 64 _ [(.int (1 : Int32))])) (fun t k => XS.iloadN X0.here hx rfl (hb hby own_d_jdk_48_method_13_code_63) rfl k) ?_
      exact finI (Q := (own_Q59 Z t1a k1a t2a k2a cc0 cc1 dd0 dd1 h0 n0)) (F := FrameEnd) (C := ((Rm 0 0 0 0)).cells) (S := ((Rm 0 0 0 0)).slots) X0 hx Bd.returns (hb hby own_d_jdk_48_method_13_code_64) e0 ⟨(1 : Int32), rfl, N0, rfl, (by simp [b3, b7])⟩ (lvN X0 hlk (by decide) (by decide))
  · refine Goes.via (B := s₁.setTop (mkF m 63 _ [])) (fun t k => XS.icmpNo X0.here hx rfl (hb hby own_d_jdk_48_method_13_code_60) rfl (XT.ii_eq_f b3) k) ?_
    refine Goes.via (B := s₁.setTop (mkF m 64 _ [(.int (0 : Int32))])) (fun t k => XS.iloadN X0.here hx rfl (hb hby own_d_jdk_48_method_13_code_63) rfl k) ?_
    exact finI (Q := (own_Q59 Z t1a k1a t2a k2a cc0 cc1 dd0 dd1 h0 n0)) (F := FrameEnd) (C := ((Rm 0 0 0 0)).cells) (S := ((Rm 0 0 0 0)).slots) X0 hx Bd.returns (hb hby own_d_jdk_48_method_13_code_64) e0 ⟨(0 : Int32), rfl, N0, rfl, (by simp [b3])⟩ (lvN X0 hlk (by decide) (by decide))
theorem own_ef60 (m : MethodId) (x0 : Addr) (x1 : Addr) (x2 : Int32) (x3 : Int32)  : entryFrame m #[(.ref x0), (.ref x1), (.int x2), (.int x3)] 6 = mkF m 0 #[rv x0, rv x1, iv x2, iv x3, u_, u_] [] := by first | (simp [entryFrame, mkF, argsToLocals, Value.category]; done) | rfl
abbrev own_Q60 (Z : State) (t1a : Addr) (k1a : ClassId) (t2a : Addr) (k2a : ClassId) (cc0 : Int32) (cc1 : Int32) (dd0 : Int32) (dd1 : Int32) (h0 : Heap) (n0 : Nat) (v : Option Value) (h : Heap) (L : List Loc) : Prop := ∃ r : Int32, v = some (.int r) ∧ Fr n0 L ∧ h = h0 ∧ own_sg r = own_lex (2 : Int32) cc0 cc1 (2 : Int32) dd0 dd1
set_option maxRecDepth 65536 in
set_option maxHeartbeats 40000000 in
theorem own_m60 (l : Launch) (Z : State) (a0 : Array Value) (hw : ∀ d ∈ tables_1, d.before a0 Z = true) (ws : List Jvm.Cond) (t1a : Addr) (k1a : ClassId) (t2a : Addr) (k2a : ClassId) (cc0 : Int32) (cc1 : Int32) (dd0 : Int32) (dd1 : Int32) (h0 : Heap) (n0 : Nat) (O0 : Old Z n0 h0) (hcc0 : ¬ cc0 < (0 : Int32) ∧ ¬ (255 : Int32) < cc0) (hcc1 : ¬ cc1 < (0 : Int32) ∧ ¬ (255 : Int32) < cc1) (hdd0 : ¬ dd0 < (0 : Int32) ∧ ¬ (255 : Int32) < dd0) (hdd1 : ¬ dd1 < (0 : Int32) ∧ ¬ (255 : Int32) < dd1) (F_1 : Arv Z h0 t1a k1a .byte (2 : Int32) [(.int cc0.toInt8.toInt32), (.int cc1.toInt8.toInt32)] (.int (0 : Int32))) (F_2 : Arv Z h0 t2a k2a .byte (2 : Int32) [(.int dd0.toInt8.toInt32), (.int dd1.toInt8.toInt32)] (.int (0 : Int32))) :
    Ctr l Z (⟨"java/lang/StringLatin1", "compareTo", "([B[BII)I"⟩ : MethodName) jdk_43_method_15_code 6 (some .int) (Rm 1 0 0 15) #[(.ref t1a), (.ref t2a), (.int (2 : Int32)), (.int (2 : Int32))] h0 (own_Q60 Z t1a k1a t2a k2a cc0 cc1 dd0 dd1 h0 n0) ws := by
  refine MetFree.of_bodySF (plainFor_of_name own_pn0) hisR ?_
  intro p e s m args below meth c s₁ Bd hml0 hP hK
  obtain ⟨rfl, hZ, hh⟩ := hP
  have hx := Bd.exec
  have hby := Bd.bytes
  have hlk : meth.locks = false := Bd.notSynchronized
  have hml : c.maxLocals = 6 := hml0
  have hown : s.vm.findClass "java/lang/StringLatin1" = some m.cls := findClass_of_methodNamed Bd.named
  have hnm := (name_of_methodNamed Bd.named Bd.method).1
  have X0 : Stand p l e (Rm 1 0 0 15) s m #[(.ref t1a), (.ref t2a), (.int (2 : Int32)), (.int (2 : Int32))] below meth c s₁ [] 0 0 := Stand.of_body Bd
  have e0 : s₁.heap = h0 := by rw [← hh, Bd.state]; rfl
  have N0 := Fr.nil n0
  show Goes p.tables e below (fun t o => ∃ v L, o = .returned v ∧ (own_Q60 Z t1a k1a t2a k2a cc0 cc1 dd0 dd1 h0 n0) v t.heap L ∧ FrameEnd s o t L ((Rm 1 0 0 15)).cells ((Rm 1 0 0 15)).slots) _
  refine Goes.via (B := s₁.setTop (mkF m 0 #[rv t1a, rv t2a, iv (2 : Int32), iv (2 : Int32), u_, u_] [])) (fun t k => castTop (own_ef60 m t1a t2a (2 : Int32) (2 : Int32)) k) ?_
  refine Goes.via (B := s₁.setTop (mkF m 1 _ [(.int (2 : Int32))])) (fun t k => XS.iloadN X0.here hx rfl (hb hby own_d_jdk_43_method_15_code_0) rfl k) ?_
  refine Goes.via (B := s₁.setTop (mkF m 2 _ [(.int (2 : Int32)), (.int (2 : Int32))])) (fun t k => XS.iloadN X0.here hx rfl (hb hby own_d_jdk_43_method_15_code_1) rfl k) ?_
  obtain ⟨_, T1, L1, X1, ⟨r1, rfl, M1, K1, p1_0⟩, st1⟩ := callStatic X0 hx hZ hown (own_hw hw 70 rfl) (own_hw hw 71 rfl) (own_hw hw 72 rfl) (own_hw hw 73 rfl) (by decide) (argsL := [(.int (2 : Int32)), (.int (2 : Int32))]) (rest := []) (own_m14 l Z a0 hw [] (2 : Int32) (2 : Int32) h0 n0 O0 ) e0 (lenOf own_pd8 rfl) (pc := 2) (Ls := #[rv t1a, rv t2a, iv (2 : Int32), iv (2 : Int32), u_, u_]) (st := [(.int (2 : Int32)), (.int (2 : Int32))]) rfl (by rw [hml]; rfl) (hb hby own_d_jdk_43_method_15_code_2) (W := 0) (Nat.le_of_eq rfl) (by decide) (by decide) (by decide) (by decide)
  have N1 := Fr.app N0 M1
  refine Goes.via (B := T1.setTop (mkF m 5 #[rv t1a, rv t2a, iv (2 : Int32), iv (2 : Int32), u_, u_] [(.int r1)])) (fun t k => st1 _ k) ?_
  obtain rfl : r1 = (2 : Int32) := p1_0.trans (by decide)
  refine Goes.via (B := T1.setTop (mkF m 7 _ [])) (fun t k => XS.istore X1.here hx rfl (hb hby own_d_jdk_43_method_15_code_5) rfl (l' := #[rv t1a, rv t2a, iv (2 : Int32), iv (2 : Int32), iv (2 : Int32), u_]) rfl k) ?_
  refine Goes.via (B := T1.setTop (mkF m 8 _ [(.ref t1a)])) (fun t k => XS.aloadN X1.here hx rfl (hb hby own_d_jdk_43_method_15_code_7) rfl rfl k) ?_
  refine Goes.via (B := T1.setTop (mkF m 9 _ [(.ref t2a), (.ref t1a)])) (fun t k => XS.aloadN X1.here hx rfl (hb hby own_d_jdk_43_method_15_code_8) rfl rfl k) ?_
  refine Goes.via (B := T1.setTop (mkF m 11 _ [(.int (2 : Int32)), (.ref t2a), (.ref t1a)])) (fun t k => XS.iload X1.here hx rfl (hb hby own_d_jdk_43_method_15_code_9) rfl k) ?_
  obtain ⟨_, T2, L2, X2, ⟨r2, rfl, M2, K2, p2_0⟩, st2⟩ := callStatic X1 hx hZ hown (own_hw hw 74 rfl) (own_hw hw 75 rfl) (own_hw hw 76 rfl) (own_hw hw 77 rfl) (by decide) (argsL := [(.ref t1a), (.ref t2a), (.int (2 : Int32))]) (rest := []) (own_m59 l Z a0 hw [] t1a k1a t2a k2a cc0 cc1 dd0 dd1 h0 n0 O0 F_1 F_2) K1 (lenOf own_pd9 rfl) (pc := 11) (Ls := #[rv t1a, rv t2a, iv (2 : Int32), iv (2 : Int32), iv (2 : Int32), u_]) (st := [(.int (2 : Int32)), (.ref t2a), (.ref t1a)]) rfl (by rw [hml]; rfl) (hb hby own_d_jdk_43_method_15_code_11) (W := 0) (Nat.le_of_eq rfl) (by decide) (by decide) (by decide) (by decide)
  have N2 := Fr.app N1 M2
  refine Goes.via (B := T2.setTop (mkF m 14 #[rv t1a, rv t2a, iv (2 : Int32), iv (2 : Int32), iv (2 : Int32), u_] [(.int r2)])) (fun t k => st2 _ k) ?_
  by_cases hbq0 : cc0.toInt8.toInt32 = dd0.toInt8.toInt32
  · have eq0 : cc0 = dd0 := own_bi hcc0 hdd0 hbq0
    rw [if_pos hbq0] at p2_0
    by_cases hbq1 : cc1.toInt8.toInt32 = dd1.toInt8.toInt32
    · have eq1 : cc1 = dd1 := own_bi hcc1 hdd1 hbq1
      rw [if_pos hbq1] at p2_0
      subst p2_0
      refine Goes.via (B := T2.setTop (mkF m 16 _ [])) (fun t k => XS.istore X2.here hx rfl (hb hby own_d_jdk_43_method_15_code_14) rfl (l' := #[rv t1a, rv t2a, iv (2 : Int32), iv (2 : Int32), iv (2 : Int32), iv (-1 : Int32)]) rfl k) ?_
      refine Goes.via (B := T2.setTop (mkF m 18 _ [(.int (-1 : Int32))])) (fun t k => XS.iload X2.here hx rfl (hb hby own_d_jdk_43_method_15_code_16) rfl k) ?_
      refine Goes.via (B := T2.setTop (mkF m 21 _ [])) (fun t k => XS.ifNo X2.here hx rfl (hb hby own_d_jdk_43_method_15_code_18) rfl (XT.i0_ge_f (by decide)) k) ?_
      refine Goes.via (B := T2.setTop (mkF m 22 _ [(.int (2 : Int32))])) (fun t k => XS.iloadN X2.here hx rfl (hb hby own_d_jdk_43_method_15_code_21) rfl k) ?_
      refine Goes.via (B := T2.setTop (mkF m 23 _ [(.int (2 : Int32)), (.int (2 : Int32))])) (fun t k => XS.iloadN X2.here hx rfl (hb hby own_d_jdk_43_method_15_code_22) rfl k) ?_
      refine Goes.via (B := T2.setTop (mkF m 24 _ [(.int ((2 : Int32) - (2 : Int32)))])) (fun t k => XS.isub X2.here hx rfl (hb hby own_d_jdk_43_method_15_code_23) rfl k) ?_
      refine Goes.via (B := T2.setTop (mkF m 40 _ [(.int ((2 : Int32) - (2 : Int32)))])) (fun t k => XS.goto X2.here hx rfl (pc0 := 24) (pc' := 40) rfl (hb hby own_d_jdk_43_method_15_code_24) (by decide) (by decide) k) ?_
      exact finI (Q := (own_Q60 Z t1a k1a t2a k2a cc0 cc1 dd0 dd1 h0 n0)) (F := FrameEnd) (C := ((Rm 1 0 0 15)).cells) (S := ((Rm 1 0 0 15)).slots) X2 hx Bd.returns (hb hby own_d_jdk_43_method_15_code_40) K2 ⟨((2 : Int32) - (2 : Int32)), rfl, N2, rfl, (by simp [own_lex, eq0, eq1])⟩ (lvN X2 hlk (by decide) (by decide))
    · have nq1 : ¬ cc1 = dd1 := fun z => hbq1 (by rw [z])
      rw [if_neg hbq1] at p2_0
      subst p2_0
      refine Goes.via (B := T2.setTop (mkF m 16 _ [])) (fun t k => XS.istore X2.here hx rfl (hb hby own_d_jdk_43_method_15_code_14) rfl (l' := #[rv t1a, rv t2a, iv (2 : Int32), iv (2 : Int32), iv (2 : Int32), iv (1 : Int32)]) rfl k) ?_
      refine Goes.via (B := T2.setTop (mkF m 18 _ [(.int (1 : Int32))])) (fun t k => XS.iload X2.here hx rfl (hb hby own_d_jdk_43_method_15_code_16) rfl k) ?_
      refine Goes.via (B := T2.setTop (mkF m 27 _ [])) (fun t k => XS.ifYes X2.here hx rfl (pc0 := 18) (pc' := 27) rfl (hb hby own_d_jdk_43_method_15_code_18) rfl (XT.i0_ge_t (by decide)) (by decide) (by decide) k) ?_
      refine Goes.via (B := T2.setTop (mkF m 28 _ [(.ref t1a)])) (fun t k => XS.aloadN X2.here hx rfl (hb hby own_d_jdk_43_method_15_code_27) rfl rfl k) ?_
      refine Goes.via (B := T2.setTop (mkF m 30 _ [(.int (1 : Int32)), (.ref t1a)])) (fun t k => XS.iload X2.here hx rfl (hb hby own_d_jdk_43_method_15_code_28) rfl k) ?_
      obtain ⟨_, T3, L3, X3, ⟨rfl, M3, K3⟩, st3⟩ := callStatic X2 hx hZ hown (own_hw hw 111 rfl) (own_hw hw 112 rfl) (own_hw hw 65 rfl) (own_hw hw 113 rfl) (by decide) (argsL := [(.ref t1a), (.int (1 : Int32))]) (rest := []) (own_m18 l Z a0 hw [] t1a k1a cc0 cc1 h0 n0 O0 hcc1 F_1) K2 (lenOf own_pd15 rfl) (pc := 30) (Ls := #[rv t1a, rv t2a, iv (2 : Int32), iv (2 : Int32), iv (2 : Int32), iv (1 : Int32)]) (st := [(.int (1 : Int32)), (.ref t1a)]) rfl (by rw [hml]; rfl) (hb hby own_d_jdk_43_method_15_code_30) (W := 0) (Nat.le_of_eq rfl) (by decide) (by decide) (by decide) (by decide)
      have N3 := Fr.app N2 M3
      refine Goes.via (B := T3.setTop (mkF m 33 #[rv t1a, rv t2a, iv (2 : Int32), iv (2 : Int32), iv (2 : Int32), iv (1 : Int32)] [(.int cc1)])) (fun t k => st3 _ k) ?_
      refine Goes.via (B := T3.setTop (mkF m 34 _ [(.ref t2a), (.int cc1)])) (fun t k => XS.aloadN X3.here hx rfl (hb hby own_d_jdk_43_method_15_code_33) rfl rfl k) ?_
      refine Goes.via (B := T3.setTop (mkF m 36 _ [(.int (1 : Int32)), (.ref t2a), (.int cc1)])) (fun t k => XS.iload X3.here hx rfl (hb hby own_d_jdk_43_method_15_code_34) rfl k) ?_
      obtain ⟨_, T4, L4, X4, ⟨rfl, M4, K4⟩, st4⟩ := callStatic X3 hx hZ hown (own_hw hw 111 rfl) (own_hw hw 112 rfl) (own_hw hw 65 rfl) (own_hw hw 113 rfl) (by decide) (argsL := [(.ref t2a), (.int (1 : Int32))]) (rest := [(.int cc1)]) (own_m18 l Z a0 hw [] t2a k2a dd0 dd1 h0 n0 O0 hdd1 F_2) K3 (lenOf own_pd15 rfl) (pc := 36) (Ls := #[rv t1a, rv t2a, iv (2 : Int32), iv (2 : Int32), iv (2 : Int32), iv (1 : Int32)]) (st := [(.int (1 : Int32)), (.ref t2a), (.int cc1)]) rfl (by rw [hml]; rfl) (hb hby own_d_jdk_43_method_15_code_36) (W := 1) (Nat.le_of_eq rfl) (by decide) (by decide) (by decide) (by decide)
      have N4 := Fr.app N3 M4
      refine Goes.via (B := T4.setTop (mkF m 39 #[rv t1a, rv t2a, iv (2 : Int32), iv (2 : Int32), iv (2 : Int32), iv (1 : Int32)] [(.int dd1), (.int cc1)])) (fun t k => st4 _ k) ?_
      refine Goes.via (B := T4.setTop (mkF m 40 _ [(.int (cc1 - dd1))])) (fun t k => XS.isub X4.here hx rfl (hb hby own_d_jdk_43_method_15_code_39) rfl k) ?_
      exact finI (Q := (own_Q60 Z t1a k1a t2a k2a cc0 cc1 dd0 dd1 h0 n0)) (F := FrameEnd) (C := ((Rm 1 0 0 15)).cells) (S := ((Rm 1 0 0 15)).slots) X4 hx Bd.returns (hb hby own_d_jdk_43_method_15_code_40) K4 ⟨(cc1 - dd1), rfl, N4, rfl, (by rw [own_sub hcc1 hdd1 nq1]; simp [own_lex, eq0, nq1])⟩ (lvN X4 hlk (by decide) (by decide))
  · have nq0 : ¬ cc0 = dd0 := fun z => hbq0 (by rw [z])
    rw [if_neg hbq0] at p2_0
    subst p2_0
    refine Goes.via (B := T2.setTop (mkF m 16 _ [])) (fun t k => XS.istore X2.here hx rfl (hb hby own_d_jdk_43_method_15_code_14) rfl (l' := #[rv t1a, rv t2a, iv (2 : Int32), iv (2 : Int32), iv (2 : Int32), iv (0 : Int32)]) rfl k) ?_
    refine Goes.via (B := T2.setTop (mkF m 18 _ [(.int (0 : Int32))])) (fun t k => XS.iload X2.here hx rfl (hb hby own_d_jdk_43_method_15_code_16) rfl k) ?_
    refine Goes.via (B := T2.setTop (mkF m 27 _ [])) (fun t k => XS.ifYes X2.here hx rfl (pc0 := 18) (pc' := 27) rfl (hb hby own_d_jdk_43_method_15_code_18) rfl (XT.i0_ge_t (by decide)) (by decide) (by decide) k) ?_
    refine Goes.via (B := T2.setTop (mkF m 28 _ [(.ref t1a)])) (fun t k => XS.aloadN X2.here hx rfl (hb hby own_d_jdk_43_method_15_code_27) rfl rfl k) ?_
    refine Goes.via (B := T2.setTop (mkF m 30 _ [(.int (0 : Int32)), (.ref t1a)])) (fun t k => XS.iload X2.here hx rfl (hb hby own_d_jdk_43_method_15_code_28) rfl k) ?_
    obtain ⟨_, T5, L5, X5, ⟨rfl, M5, K5⟩, st5⟩ := callStatic X2 hx hZ hown (own_hw hw 111 rfl) (own_hw hw 112 rfl) (own_hw hw 65 rfl) (own_hw hw 113 rfl) (by decide) (argsL := [(.ref t1a), (.int (0 : Int32))]) (rest := []) (own_m17 l Z a0 hw [] t1a k1a cc0 cc1 h0 n0 O0 hcc0 F_1) K2 (lenOf own_pd15 rfl) (pc := 30) (Ls := #[rv t1a, rv t2a, iv (2 : Int32), iv (2 : Int32), iv (2 : Int32), iv (0 : Int32)]) (st := [(.int (0 : Int32)), (.ref t1a)]) rfl (by rw [hml]; rfl) (hb hby own_d_jdk_43_method_15_code_30) (W := 0) (Nat.le_of_eq rfl) (by decide) (by decide) (by decide) (by decide)
    have N5 := Fr.app N2 M5
    refine Goes.via (B := T5.setTop (mkF m 33 #[rv t1a, rv t2a, iv (2 : Int32), iv (2 : Int32), iv (2 : Int32), iv (0 : Int32)] [(.int cc0)])) (fun t k => st5 _ k) ?_
    refine Goes.via (B := T5.setTop (mkF m 34 _ [(.ref t2a), (.int cc0)])) (fun t k => XS.aloadN X5.here hx rfl (hb hby own_d_jdk_43_method_15_code_33) rfl rfl k) ?_
    refine Goes.via (B := T5.setTop (mkF m 36 _ [(.int (0 : Int32)), (.ref t2a), (.int cc0)])) (fun t k => XS.iload X5.here hx rfl (hb hby own_d_jdk_43_method_15_code_34) rfl k) ?_
    obtain ⟨_, T6, L6, X6, ⟨rfl, M6, K6⟩, st6⟩ := callStatic X5 hx hZ hown (own_hw hw 111 rfl) (own_hw hw 112 rfl) (own_hw hw 65 rfl) (own_hw hw 113 rfl) (by decide) (argsL := [(.ref t2a), (.int (0 : Int32))]) (rest := [(.int cc0)]) (own_m17 l Z a0 hw [] t2a k2a dd0 dd1 h0 n0 O0 hdd0 F_2) K5 (lenOf own_pd15 rfl) (pc := 36) (Ls := #[rv t1a, rv t2a, iv (2 : Int32), iv (2 : Int32), iv (2 : Int32), iv (0 : Int32)]) (st := [(.int (0 : Int32)), (.ref t2a), (.int cc0)]) rfl (by rw [hml]; rfl) (hb hby own_d_jdk_43_method_15_code_36) (W := 1) (Nat.le_of_eq rfl) (by decide) (by decide) (by decide) (by decide)
    have N6 := Fr.app N5 M6
    refine Goes.via (B := T6.setTop (mkF m 39 #[rv t1a, rv t2a, iv (2 : Int32), iv (2 : Int32), iv (2 : Int32), iv (0 : Int32)] [(.int dd0), (.int cc0)])) (fun t k => st6 _ k) ?_
    refine Goes.via (B := T6.setTop (mkF m 40 _ [(.int (cc0 - dd0))])) (fun t k => XS.isub X6.here hx rfl (hb hby own_d_jdk_43_method_15_code_39) rfl k) ?_
    exact finI (Q := (own_Q60 Z t1a k1a t2a k2a cc0 cc1 dd0 dd1 h0 n0)) (F := FrameEnd) (C := ((Rm 1 0 0 15)).cells) (S := ((Rm 1 0 0 15)).slots) X6 hx Bd.returns (hb hby own_d_jdk_43_method_15_code_40) K6 ⟨(cc0 - dd0), rfl, N6, rfl, (by rw [own_sub hcc0 hdd0 nq0]; simp [own_lex, nq0])⟩ (lvN X6 hlk (by decide) (by decide))
theorem own_ef61 (m : MethodId) (x0 : Addr) (x1 : Addr)  : entryFrame m #[(.ref x0), (.ref x1)] 4 = mkF m 0 #[rv x0, rv x1, u_, u_] [] := by first | (simp [entryFrame, mkF, argsToLocals, Value.category]; done) | rfl
abbrev own_Q61 (Z : State) (t1a : Addr) (k1a : ClassId) (t2a : Addr) (k2a : ClassId) (cc0 : Int32) (cc1 : Int32) (dd0 : Int32) (dd1 : Int32) (h0 : Heap) (n0 : Nat) (v : Option Value) (h : Heap) (L : List Loc) : Prop := ∃ r : Int32, v = some (.int r) ∧ Fr n0 L ∧ h = h0 ∧ own_sg r = own_lex (2 : Int32) cc0 cc1 (2 : Int32) dd0 dd1
set_option maxRecDepth 65536 in
set_option maxHeartbeats 40000000 in
theorem own_m61 (l : Launch) (Z : State) (a0 : Array Value) (hw : ∀ d ∈ tables_1, d.before a0 Z = true) (ws : List Jvm.Cond) (t1a : Addr) (k1a : ClassId) (t2a : Addr) (k2a : ClassId) (cc0 : Int32) (cc1 : Int32) (dd0 : Int32) (dd1 : Int32) (h0 : Heap) (n0 : Nat) (O0 : Old Z n0 h0) (hcc0 : ¬ cc0 < (0 : Int32) ∧ ¬ (255 : Int32) < cc0) (hcc1 : ¬ cc1 < (0 : Int32) ∧ ¬ (255 : Int32) < cc1) (hdd0 : ¬ dd0 < (0 : Int32) ∧ ¬ (255 : Int32) < dd0) (hdd1 : ¬ dd1 < (0 : Int32) ∧ ¬ (255 : Int32) < dd1) (F_1 : Arv Z h0 t1a k1a .byte (2 : Int32) [(.int cc0.toInt8.toInt32), (.int cc1.toInt8.toInt32)] (.int (0 : Int32))) (F_2 : Arv Z h0 t2a k2a .byte (2 : Int32) [(.int dd0.toInt8.toInt32), (.int dd1.toInt8.toInt32)] (.int (0 : Int32))) :
    Ctr l Z (⟨"java/lang/StringLatin1", "compareTo", "([B[B)I"⟩ : MethodName) jdk_43_method_14_code 4 (some .int) (Rm 2 0 0 32) #[(.ref t1a), (.ref t2a)] h0 (own_Q61 Z t1a k1a t2a k2a cc0 cc1 dd0 dd1 h0 n0) ws := by
  refine MetFree.of_bodySF (plainFor_of_name own_pn0) hisR ?_
  intro p e s m args below meth c s₁ Bd hml0 hP hK
  obtain ⟨rfl, hZ, hh⟩ := hP
  have hx := Bd.exec
  have hby := Bd.bytes
  have hlk : meth.locks = false := Bd.notSynchronized
  have hml : c.maxLocals = 4 := hml0
  have hown : s.vm.findClass "java/lang/StringLatin1" = some m.cls := findClass_of_methodNamed Bd.named
  have hnm := (name_of_methodNamed Bd.named Bd.method).1
  have X0 : Stand p l e (Rm 2 0 0 32) s m #[(.ref t1a), (.ref t2a)] below meth c s₁ [] 0 0 := Stand.of_body Bd
  have e0 : s₁.heap = h0 := by rw [← hh, Bd.state]; rfl
  have N0 := Fr.nil n0
  show Goes p.tables e below (fun t o => ∃ v L, o = .returned v ∧ (own_Q61 Z t1a k1a t2a k2a cc0 cc1 dd0 dd1 h0 n0) v t.heap L ∧ FrameEnd s o t L ((Rm 2 0 0 32)).cells ((Rm 2 0 0 32)).slots) _
  refine Goes.via (B := s₁.setTop (mkF m 0 #[rv t1a, rv t2a, u_, u_] [])) (fun t k => castTop (own_ef61 m t1a t2a) k) ?_
  refine Goes.via (B := s₁.setTop (mkF m 1 _ [(.ref t1a)])) (fun t k => XS.aloadN X0.here hx rfl (hb hby own_d_jdk_43_method_14_code_0) rfl rfl k) ?_
  obtain ⟨cl1, Ar1, q1, S1, N1, H1, G1⟩ := id F_1
  refine Goes.via (B := s₁.setTop (mkF m 2 #[rv t1a, rv t2a, u_, u_] [(.int (2 : Int32))])) (fun t k => X0.arraylength hx (by rw [e0]; exact Ar1.1) (State.isArrayOf_alike hZ.alike Ar1.2.1) (g := (mkF m 1 #[rv t1a, rv t2a, u_, u_] [(.ref t1a)])) rfl rfl (hb hby own_d_jdk_43_method_14_code_1) t (by rw [(len_of S1 N1)]; exact k)) ?_
  refine Goes.via (B := s₁.setTop (mkF m 3 _ [])) (fun t k => XS.istoreN X0.here hx rfl (hb hby own_d_jdk_43_method_14_code_2) rfl (l' := #[rv t1a, rv t2a, iv (2 : Int32), u_]) rfl k) ?_
  refine Goes.via (B := s₁.setTop (mkF m 4 _ [(.ref t2a)])) (fun t k => XS.aloadN X0.here hx rfl (hb hby own_d_jdk_43_method_14_code_3) rfl rfl k) ?_
  obtain ⟨cl2, Ar2, q2, S2, N2, H2, G2⟩ := id F_2
  refine Goes.via (B := s₁.setTop (mkF m 5 #[rv t1a, rv t2a, iv (2 : Int32), u_] [(.int (2 : Int32))])) (fun t k => X0.arraylength hx (by rw [e0]; exact Ar2.1) (State.isArrayOf_alike hZ.alike Ar2.2.1) (g := (mkF m 4 #[rv t1a, rv t2a, iv (2 : Int32), u_] [(.ref t2a)])) rfl rfl (hb hby own_d_jdk_43_method_14_code_4) t (by rw [(len_of S2 N2)]; exact k)) ?_
  refine Goes.via (B := s₁.setTop (mkF m 6 _ [])) (fun t k => XS.istoreN X0.here hx rfl (hb hby own_d_jdk_43_method_14_code_5) rfl (l' := #[rv t1a, rv t2a, iv (2 : Int32), iv (2 : Int32)]) rfl k) ?_
  refine Goes.via (B := s₁.setTop (mkF m 7 _ [(.ref t1a)])) (fun t k => XS.aloadN X0.here hx rfl (hb hby own_d_jdk_43_method_14_code_6) rfl rfl k) ?_
  refine Goes.via (B := s₁.setTop (mkF m 8 _ [(.ref t2a), (.ref t1a)])) (fun t k => XS.aloadN X0.here hx rfl (hb hby own_d_jdk_43_method_14_code_7) rfl rfl k) ?_
  refine Goes.via (B := s₁.setTop (mkF m 9 _ [(.int (2 : Int32)), (.ref t2a), (.ref t1a)])) (fun t k => XS.iloadN X0.here hx rfl (hb hby own_d_jdk_43_method_14_code_8) rfl k) ?_
  refine Goes.via (B := s₁.setTop (mkF m 10 _ [(.int (2 : Int32)), (.int (2 : Int32)), (.ref t2a), (.ref t1a)])) (fun t k => XS.iloadN X0.here hx rfl (hb hby own_d_jdk_43_method_14_code_9) rfl k) ?_
  obtain ⟨_, T3, L3, X3, ⟨r3, rfl, M3, K3, p3_0⟩, st3⟩ := callStatic X0 hx hZ hown (own_hw hw 67 rfl) (own_hw hw 68 rfl) (own_hw hw 65 rfl) (own_hw hw 69 rfl) (by decide) (argsL := [(.ref t1a), (.ref t2a), (.int (2 : Int32)), (.int (2 : Int32))]) (rest := []) (own_m60 l Z a0 hw [] t1a k1a t2a k2a cc0 cc1 dd0 dd1 h0 n0 O0 hcc0 hcc1 hdd0 hdd1 F_1 F_2) e0 (lenOf own_pd10 rfl) (pc := 10) (Ls := #[rv t1a, rv t2a, iv (2 : Int32), iv (2 : Int32)]) (st := [(.int (2 : Int32)), (.int (2 : Int32)), (.ref t2a), (.ref t1a)]) rfl (by rw [hml]; rfl) (hb hby own_d_jdk_43_method_14_code_10) (W := 0) (Nat.le_of_eq rfl) (by decide) (by decide) (by decide) (by decide)
  have N3 := Fr.app N0 M3
  refine Goes.via (B := T3.setTop (mkF m 13 #[rv t1a, rv t2a, iv (2 : Int32), iv (2 : Int32)] [(.int r3)])) (fun t k => st3 _ k) ?_
  exact finI (Q := (own_Q61 Z t1a k1a t2a k2a cc0 cc1 dd0 dd1 h0 n0)) (F := FrameEnd) (C := ((Rm 2 0 0 32)).cells) (S := ((Rm 2 0 0 32)).slots) X3 hx Bd.returns (hb hby own_d_jdk_43_method_14_code_13) K3 ⟨r3, rfl, N3, rfl, p3_0⟩ (lvN X3 hlk (by decide) (by decide))
theorem own_ef62 (m : MethodId) (x0 : Addr) (x1 : Addr)  : entryFrame m #[(.ref x0), (.ref x1)] 5 = mkF m 0 #[rv x0, rv x1, u_, u_, u_] [] := by first | (simp [entryFrame, mkF, argsToLocals, Value.category]; done) | rfl
abbrev own_Q62 (Z : State) (a1 : Addr) (a2 : Addr) (z0 : Int32) (t1a : Addr) (k1a : ClassId) (t2a : Addr) (k2a : ClassId) (cc0 : Int32) (cc1 : Int32) (dd0 : Int32) (dd1 : Int32) (h0 : Heap) (n0 : Nat) (v : Option Value) (h : Heap) (L : List Loc) : Prop := ∃ r : Int32, v = some (.int r) ∧ Fr n0 L ∧ h = h0 ∧ own_sg r = own_lex (2 : Int32) cc0 cc1 (2 : Int32) dd0 dd1
set_option maxRecDepth 65536 in
set_option maxHeartbeats 40000000 in
theorem own_m62 (l : Launch) (Z : State) (a0 : Array Value) (hw : ∀ d ∈ tables_1, d.before a0 Z = true) (ws : List Jvm.Cond) (a1 : Addr) (a2 : Addr) (z0 : Int32) (t1a : Addr) (k1a : ClassId) (t2a : Addr) (k2a : ClassId) (cc0 : Int32) (cc1 : Int32) (dd0 : Int32) (dd1 : Int32) (h0 : Heap) (n0 : Nat) (O0 : Old Z n0 h0) (hz0 : ¬ z0 = (0 : Int32)) (hcc0 : ¬ cc0 < (0 : Int32) ∧ ¬ (255 : Int32) < cc0) (hcc1 : ¬ cc1 < (0 : Int32) ∧ ¬ (255 : Int32) < cc1) (hdd0 : ¬ dd0 < (0 : Int32) ∧ ¬ (255 : Int32) < dd0) (hdd1 : ¬ dd1 < (0 : Int32) ∧ ¬ (255 : Int32) < dd1) (O_1 : Sta Z Z.heap "java/lang/String" "COMPACT_STRINGS" "Z" (.int z0)) (F_1 : Exa Z h0 a1 "java/lang/String") (F_2 : Fld Z h0 a1 "java/lang/String" "value" "[B" (.ref t1a)) (F_3 : Fld Z h0 a1 "java/lang/String" "coder" "B" (.int (0 : Int32))) (F_4 : Exa Z h0 a2 "java/lang/String") (F_5 : Fld Z h0 a2 "java/lang/String" "value" "[B" (.ref t2a)) (F_6 : Fld Z h0 a2 "java/lang/String" "coder" "B" (.int (0 : Int32))) (F_7 : Arv Z h0 t1a k1a .byte (2 : Int32) [(.int cc0.toInt8.toInt32), (.int cc1.toInt8.toInt32)] (.int (0 : Int32))) (F_8 : Arv Z h0 t2a k2a .byte (2 : Int32) [(.int dd0.toInt8.toInt32), (.int dd1.toInt8.toInt32)] (.int (0 : Int32))) :
    Ctr l Z (⟨"java/lang/String", "compareTo", "(Ljava/lang/String;)I"⟩ : MethodName) jdk_42_method_71_code 5 (some .int) (Rm 3 0 0 47) #[(.ref a1), (.ref a2)] h0 (own_Q62 Z a1 a2 z0 t1a k1a t2a k2a cc0 cc1 dd0 dd1 h0 n0) ws := by
  refine MetFree.of_bodySF (plainFor_of_name own_pn1) hisR ?_
  intro p e s m args below meth c s₁ Bd hml0 hP hK
  obtain ⟨rfl, hZ, hh⟩ := hP
  have hx := Bd.exec
  have hby := Bd.bytes
  have hlk : meth.locks = false := Bd.notSynchronized
  have hml : c.maxLocals = 5 := hml0
  have hown : s.vm.findClass "java/lang/String" = some m.cls := findClass_of_methodNamed Bd.named
  have hnm := (name_of_methodNamed Bd.named Bd.method).1
  have X0 : Stand p l e (Rm 3 0 0 47) s m #[(.ref a1), (.ref a2)] below meth c s₁ [] 0 0 := Stand.of_body Bd
  have e0 : s₁.heap = h0 := by rw [← hh, Bd.state]; rfl
  have N0 := Fr.nil n0
  show Goes p.tables e below (fun t o => ∃ v L, o = .returned v ∧ (own_Q62 Z a1 a2 z0 t1a k1a t2a k2a cc0 cc1 dd0 dd1 h0 n0) v t.heap L ∧ FrameEnd s o t L ((Rm 3 0 0 47)).cells ((Rm 3 0 0 47)).slots) _
  refine Goes.via (B := s₁.setTop (mkF m 0 #[rv a1, rv a2, u_, u_, u_] [])) (fun t k => castTop (own_ef62 m a1 a2) k) ?_
  refine Goes.via (B := s₁.setTop (mkF m 1 _ [(.ref a1)])) (fun t k => XS.aloadN X0.here hx rfl (hb hby own_d_jdk_42_method_71_code_0) rfl rfl k) ?_
  obtain ⟨T1, X1, e1, st1⟩ := getF X0 hx hZ hown (host := "") (Or.inl (own_hw hw 55 rfl)) Via.refl e0 F_2 (g := (mkF m 1 #[rv a1, rv a2, u_, u_, u_] [(.ref a1)])) rfl rfl (hb hby own_d_jdk_42_method_71_code_1)
  refine Goes.via (B := T1.setTop (mkF m 4 #[rv a1, rv a2, u_, u_, u_] [(.ref t1a)])) (fun t k => st1 _ k) ?_
  refine Goes.via (B := T1.setTop (mkF m 5 _ [])) (fun t k => XS.astoreN X1.here hx rfl (hb hby own_d_jdk_42_method_71_code_4) rfl rfl (l' := #[rv a1, rv a2, rv t1a, u_, u_]) rfl k) ?_
  refine Goes.via (B := T1.setTop (mkF m 6 _ [(.ref a2)])) (fun t k => XS.aloadN X1.here hx rfl (hb hby own_d_jdk_42_method_71_code_5) rfl rfl k) ?_
  obtain ⟨T2, X2, e2, st2⟩ := getF X1 hx hZ hown (host := "") (Or.inl (own_hw hw 55 rfl)) Via.refl e1 F_5 (g := (mkF m 6 #[rv a1, rv a2, rv t1a, u_, u_] [(.ref a2)])) rfl rfl (hb hby own_d_jdk_42_method_71_code_6)
  refine Goes.via (B := T2.setTop (mkF m 9 #[rv a1, rv a2, rv t1a, u_, u_] [(.ref t2a)])) (fun t k => st2 _ k) ?_
  refine Goes.via (B := T2.setTop (mkF m 10 _ [])) (fun t k => XS.astoreN X2.here hx rfl (hb hby own_d_jdk_42_method_71_code_9) rfl rfl (l' := #[rv a1, rv a2, rv t1a, rv t2a, u_]) rfl k) ?_
  refine Goes.via (B := T2.setTop (mkF m 11 _ [(.ref a1)])) (fun t k => XS.aloadN X2.here hx rfl (hb hby own_d_jdk_42_method_71_code_10) rfl rfl k) ?_
  obtain ⟨_, T3, L3, X3, ⟨rfl, M3, K3⟩, st3⟩ := callVirt X2 hx hZ hown (own_hw hw 56 rfl) (own_hw hw 57 rfl) (own_hw hw 59 rfl) (notFace_of_selects (args := #[]) (mvT hZ (own_hw hw 59 rfl))) (own_hw hw 58 rfl) (own_hw hw 5 rfl) (own_hw hw 60 rfl) (by decide) (argsL := []) (rest := []) (own_m15 l Z a0 hw [] a1 z0 h0 n0 O0 hz0 O_1 F_3) e2 F_1 (lenOf own_pd11 rfl) (pc := 11) (Ls := #[rv a1, rv a2, rv t1a, rv t2a, u_]) (st := [(.ref a1)]) rfl (by rw [hml]; rfl) (hb hby own_d_jdk_42_method_71_code_11) (W := 0) (Nat.le_of_eq rfl) (by decide) (by decide) (by decide) (by decide)
  have N3 := Fr.app N0 M3
  refine Goes.via (B := T3.setTop (mkF m 14 #[rv a1, rv a2, rv t1a, rv t2a, u_] [(.int (0 : Int32))])) (fun t k => st3 _ k) ?_
  refine Goes.via (B := T3.setTop (mkF m 16 _ [])) (fun t k => XS.istore X3.here hx rfl (hb hby own_d_jdk_42_method_71_code_14) rfl (l' := #[rv a1, rv a2, rv t1a, rv t2a, iv (0 : Int32)]) rfl k) ?_
  refine Goes.via (B := T3.setTop (mkF m 18 _ [(.int (0 : Int32))])) (fun t k => XS.iload X3.here hx rfl (hb hby own_d_jdk_42_method_71_code_16) rfl k) ?_
  refine Goes.via (B := T3.setTop (mkF m 19 _ [(.ref a2), (.int (0 : Int32))])) (fun t k => XS.aloadN X3.here hx rfl (hb hby own_d_jdk_42_method_71_code_18) rfl rfl k) ?_
  obtain ⟨_, T4, L4, X4, ⟨rfl, M4, K4⟩, st4⟩ := callVirt X3 hx hZ hown (own_hw hw 56 rfl) (own_hw hw 57 rfl) (own_hw hw 59 rfl) (notFace_of_selects (args := #[]) (mvT hZ (own_hw hw 59 rfl))) (own_hw hw 58 rfl) (own_hw hw 5 rfl) (own_hw hw 60 rfl) (by decide) (argsL := []) (rest := [(.int (0 : Int32))]) (own_m15 l Z a0 hw [] a2 z0 h0 n0 O0 hz0 O_1 F_6) K3 F_4 (lenOf own_pd11 rfl) (pc := 19) (Ls := #[rv a1, rv a2, rv t1a, rv t2a, iv (0 : Int32)]) (st := [(.ref a2), (.int (0 : Int32))]) rfl (by rw [hml]; rfl) (hb hby own_d_jdk_42_method_71_code_19) (W := 1) (Nat.le_of_eq rfl) (by decide) (by decide) (by decide) (by decide)
  have N4 := Fr.app N3 M4
  refine Goes.via (B := T4.setTop (mkF m 22 #[rv a1, rv a2, rv t1a, rv t2a, iv (0 : Int32)] [(.int (0 : Int32)), (.int (0 : Int32))])) (fun t k => st4 _ k) ?_
  refine Goes.via (B := T4.setTop (mkF m 25 _ [])) (fun t k => XS.icmpNo X4.here hx rfl (hb hby own_d_jdk_42_method_71_code_22) rfl (XT.ii_ne_f rfl) k) ?_
  refine Goes.via (B := T4.setTop (mkF m 27 _ [(.int (0 : Int32))])) (fun t k => XS.iload X4.here hx rfl (hb hby own_d_jdk_42_method_71_code_25) rfl k) ?_
  refine Goes.via (B := T4.setTop (mkF m 30 _ [])) (fun t k => XS.ifNo X4.here hx rfl (hb hby own_d_jdk_42_method_71_code_27) rfl (XT.i0_ne_f rfl) k) ?_
  refine Goes.via (B := T4.setTop (mkF m 31 _ [(.ref t1a)])) (fun t k => XS.aloadN X4.here hx rfl (hb hby own_d_jdk_42_method_71_code_30) rfl rfl k) ?_
  refine Goes.via (B := T4.setTop (mkF m 32 _ [(.ref t2a), (.ref t1a)])) (fun t k => XS.aloadN X4.here hx rfl (hb hby own_d_jdk_42_method_71_code_31) rfl rfl k) ?_
  obtain ⟨_, T5, L5, X5, ⟨r5, rfl, M5, K5, p5_0⟩, st5⟩ := callStatic X4 hx hZ hown (own_hw hw 63 rfl) (own_hw hw 64 rfl) (own_hw hw 65 rfl) (own_hw hw 66 rfl) (by decide) (argsL := [(.ref t1a), (.ref t2a)]) (rest := []) (own_m61 l Z a0 hw [] t1a k1a t2a k2a cc0 cc1 dd0 dd1 h0 n0 O0 hcc0 hcc1 hdd0 hdd1 F_7 F_8) K4 (lenOf own_pd12 rfl) (pc := 32) (Ls := #[rv a1, rv a2, rv t1a, rv t2a, iv (0 : Int32)]) (st := [(.ref t2a), (.ref t1a)]) rfl (by rw [hml]; rfl) (hb hby own_d_jdk_42_method_71_code_32) (W := 0) (Nat.le_of_eq rfl) (by decide) (by decide) (by decide) (by decide)
  have N5 := Fr.app N4 M5
  refine Goes.via (B := T5.setTop (mkF m 35 #[rv a1, rv a2, rv t1a, rv t2a, iv (0 : Int32)] [(.int r5)])) (fun t k => st5 _ k) ?_
  refine Goes.via (B := T5.setTop (mkF m 43 _ [(.int r5)])) (fun t k => XS.goto X5.here hx rfl (pc0 := 35) (pc' := 43) rfl (hb hby own_d_jdk_42_method_71_code_35) (by decide) (by decide) k) ?_
  exact finI (Q := (own_Q62 Z a1 a2 z0 t1a k1a t2a k2a cc0 cc1 dd0 dd1 h0 n0)) (F := FrameEnd) (C := ((Rm 3 0 0 47)).cells) (S := ((Rm 3 0 0 47)).slots) X5 hx Bd.returns (hb hby own_d_jdk_42_method_71_code_43) K5 ⟨r5, rfl, N5, rfl, p5_0⟩ (lvN X5 hlk (by decide) (by decide))
theorem own_ef63 (m : MethodId) (x0 : Addr) (x1 : Addr)  : entryFrame m #[(.ref x0), (.ref x1)] 3 = mkF m 0 #[rv x0, rv x1, u_] [] := by first | (simp [entryFrame, mkF, argsToLocals, Value.category]; done) | rfl
abbrev own_Q63 (Z : State) (a1 : Addr) (a2 : Addr) (x1 : Int64) (x2 : Int64) (s1a : Addr) (s2a : Addr) (z0 : Int32) (t1a : Addr) (k1a : ClassId) (t2a : Addr) (k2a : ClassId) (cc0 : Int32) (cc1 : Int32) (dd0 : Int32) (dd1 : Int32) (h0 : Heap) (n0 : Nat) (v : Option Value) (h : Heap) (L : List Loc) : Prop := ∃ r : Int32, v = some (.int r) ∧ Fr n0 L ∧ h = h0 ∧ own_sg r = own_exp x1 x2 (2 : Int32) cc0 cc1 (2 : Int32) dd0 dd1
set_option maxRecDepth 65536 in
set_option maxHeartbeats 40000000 in
theorem own_m63 (l : Launch) (Z : State) (a0 : Array Value) (hw : ∀ d ∈ tables_1, d.before a0 Z = true) (ws : List Jvm.Cond) (a1 : Addr) (a2 : Addr) (x1 : Int64) (x2 : Int64) (s1a : Addr) (s2a : Addr) (z0 : Int32) (t1a : Addr) (k1a : ClassId) (t2a : Addr) (k2a : ClassId) (cc0 : Int32) (cc1 : Int32) (dd0 : Int32) (dd1 : Int32) (h0 : Heap) (n0 : Nat) (O0 : Old Z n0 h0) (hz0 : ¬ z0 = (0 : Int32)) (hcc0 : ¬ cc0 < (0 : Int32) ∧ ¬ (255 : Int32) < cc0) (hcc1 : ¬ cc1 < (0 : Int32) ∧ ¬ (255 : Int32) < cc1) (hdd0 : ¬ dd0 < (0 : Int32) ∧ ¬ (255 : Int32) < dd0) (hdd1 : ¬ dd1 < (0 : Int32) ∧ ¬ (255 : Int32) < dd1) (O_1 : Sta Z Z.heap "java/lang/String" "COMPACT_STRINGS" "Z" (.int z0)) (F_1 : Exa Z h0 a1 "com/example/keelson/keelson/cluster/Ballot") (F_2 : Fld Z h0 a1 "com/example/keelson/keelson/cluster/Ballot" "round" "J" (.long x1)) (F_3 : Fld Z h0 a1 "com/example/keelson/keelson/cluster/Ballot" "proposer" "Ljava/lang/String;" (.ref s1a)) (F_4 : Exa Z h0 a2 "com/example/keelson/keelson/cluster/Ballot") (F_5 : Fld Z h0 a2 "com/example/keelson/keelson/cluster/Ballot" "round" "J" (.long x2)) (F_6 : Fld Z h0 a2 "com/example/keelson/keelson/cluster/Ballot" "proposer" "Ljava/lang/String;" (.ref s2a)) (F_7 : Exa Z h0 s1a "java/lang/String") (F_8 : Fld Z h0 s1a "java/lang/String" "value" "[B" (.ref t1a)) (F_9 : Fld Z h0 s1a "java/lang/String" "coder" "B" (.int (0 : Int32))) (F_10 : Exa Z h0 s2a "java/lang/String") (F_11 : Fld Z h0 s2a "java/lang/String" "value" "[B" (.ref t2a)) (F_12 : Fld Z h0 s2a "java/lang/String" "coder" "B" (.int (0 : Int32))) (F_13 : Arv Z h0 t1a k1a .byte (2 : Int32) [(.int cc0.toInt8.toInt32), (.int cc1.toInt8.toInt32)] (.int (0 : Int32))) (F_14 : Arv Z h0 t2a k2a .byte (2 : Int32) [(.int dd0.toInt8.toInt32), (.int dd1.toInt8.toInt32)] (.int (0 : Int32))) :
    Ctr l Z (⟨"com/example/keelson/keelson/cluster/Ballot", "compareTo", "(Lcom/example/keelson/keelson/cluster/Ballot;)I"⟩ : MethodName) prog_19_method_2_code 3 (some .int) (Rm 4 0 0 63) #[(.ref a1), (.ref a2)] h0 (own_Q63 Z a1 a2 x1 x2 s1a s2a z0 t1a k1a t2a k2a cc0 cc1 dd0 dd1 h0 n0) ws := by
  refine MetFree.of_bodySF (plainFor_of_name own_pn5) hisR ?_
  intro p e s m args below meth c s₁ Bd hml0 hP hK
  obtain ⟨rfl, hZ, hh⟩ := hP
  have hx := Bd.exec
  have hby := Bd.bytes
  have hlk : meth.locks = false := Bd.notSynchronized
  have hml : c.maxLocals = 3 := hml0
  have hown : s.vm.findClass "com/example/keelson/keelson/cluster/Ballot" = some m.cls := findClass_of_methodNamed Bd.named
  have hnm := (name_of_methodNamed Bd.named Bd.method).1
  have X0 : Stand p l e (Rm 4 0 0 63) s m #[(.ref a1), (.ref a2)] below meth c s₁ [] 0 0 := Stand.of_body Bd
  have e0 : s₁.heap = h0 := by rw [← hh, Bd.state]; rfl
  have N0 := Fr.nil n0
  show Goes p.tables e below (fun t o => ∃ v L, o = .returned v ∧ (own_Q63 Z a1 a2 x1 x2 s1a s2a z0 t1a k1a t2a k2a cc0 cc1 dd0 dd1 h0 n0) v t.heap L ∧ FrameEnd s o t L ((Rm 4 0 0 63)).cells ((Rm 4 0 0 63)).slots) _
  refine Goes.via (B := s₁.setTop (mkF m 0 #[rv a1, rv a2, u_] [])) (fun t k => castTop (own_ef63 m a1 a2) k) ?_
  refine Goes.via (B := s₁.setTop (mkF m 1 _ [(.ref a1)])) (fun t k => XS.aloadN X0.here hx rfl (hb hby own_d_prog_19_method_2_code_0) rfl rfl k) ?_
  obtain ⟨T1, X1, e1, st1⟩ := getF X0 hx hZ hown (host := "") (Or.inl (own_hw hw 31 rfl)) Via.refl e0 F_2 (g := (mkF m 1 #[rv a1, rv a2, u_] [(.ref a1)])) rfl rfl (hb hby own_d_prog_19_method_2_code_1)
  refine Goes.via (B := T1.setTop (mkF m 4 #[rv a1, rv a2, u_] [(.long x1)])) (fun t k => st1 _ k) ?_
  refine Goes.via (B := T1.setTop (mkF m 5 _ [(.ref a2), (.long x1)])) (fun t k => XS.aloadN X1.here hx rfl (hb hby own_d_prog_19_method_2_code_4) rfl rfl k) ?_
  obtain ⟨T2, X2, e2, st2⟩ := getF X1 hx hZ hown (host := "") (Or.inl (own_hw hw 31 rfl)) Via.refl e1 F_5 (g := (mkF m 5 #[rv a1, rv a2, u_] [(.ref a2), (.long x1)])) rfl rfl (hb hby own_d_prog_19_method_2_code_5)
  refine Goes.via (B := T2.setTop (mkF m 8 #[rv a1, rv a2, u_] [(.long x2), (.long x1)])) (fun t k => st2 _ k) ?_
  obtain ⟨_, T3, L3, X3, ⟨r3, rfl, M3, K3, p3_0⟩, st3⟩ := callStatic X2 hx hZ hown (own_hw hw 40 rfl) (own_hw hw 41 rfl) (own_hw hw 42 rfl) (own_hw hw 43 rfl) (by decide) (argsL := [(.long x1), (.long x2)]) (rest := []) (own_m11 l Z a0 hw [] x1 x2 h0 n0 O0 ) e2 (lenOf own_pd13 rfl) (pc := 8) (Ls := #[rv a1, rv a2, u_]) (st := [(.long x2), (.long x1)]) rfl (by rw [hml]; rfl) (hb hby own_d_prog_19_method_2_code_8) (W := 0) (Nat.le_of_eq rfl) (by decide) (by decide) (by decide) (by decide)
  have N3 := Fr.app N0 M3
  refine Goes.via (B := T3.setTop (mkF m 11 #[rv a1, rv a2, u_] [(.int r3)])) (fun t k => st3 _ k) ?_
  refine Goes.via (B := T3.setTop (mkF m 12 _ [])) (fun t k => XS.istoreN X3.here hx rfl (hb hby own_d_prog_19_method_2_code_11) rfl (l' := #[rv a1, rv a2, iv r3]) rfl k) ?_
  refine Goes.via (B := T3.setTop (mkF m 13 _ [(.int r3)])) (fun t k => XS.iloadN X3.here hx rfl (hb hby own_d_prog_19_method_2_code_12) rfl k) ?_
  by_cases hlt : x1 < x2
  · rw [if_pos hlt] at p3_0
    subst p3_0
    refine Goes.via (B := T3.setTop (mkF m 28 _ [])) (fun t k => XS.ifYes X3.here hx rfl (pc0 := 13) (pc' := 28) rfl (hb hby own_d_prog_19_method_2_code_13) rfl (XT.i0_ne_t (by decide)) (by decide) (by decide) k) ?_
    refine Goes.via (B := T3.setTop (mkF m 29 _ [(.int (-1 : Int32))])) (fun t k => XS.iloadN X3.here hx rfl (hb hby own_d_prog_19_method_2_code_28) rfl k) ?_
    exact finI (Q := (own_Q63 Z a1 a2 x1 x2 s1a s2a z0 t1a k1a t2a k2a cc0 cc1 dd0 dd1 h0 n0)) (F := FrameEnd) (C := ((Rm 4 0 0 63)).cells) (S := ((Rm 4 0 0 63)).slots) X3 hx Bd.returns (hb hby own_d_prog_19_method_2_code_29) K3 ⟨(-1 : Int32), rfl, N3, rfl, (by unfold own_exp; rw [if_pos hlt]; decide)⟩ (lvN X3 hlk (by decide) (by decide))
  · rw [if_neg hlt] at p3_0
    by_cases heq : x1 = x2
    · rw [if_pos heq] at p3_0
      have hng : ¬ x2 < x1 := by rw [heq]; rw [Int64.lt_iff_toInt_lt]; omega
      subst p3_0
      refine Goes.via (B := T3.setTop (mkF m 16 _ [])) (fun t k => XS.ifNo X3.here hx rfl (hb hby own_d_prog_19_method_2_code_13) rfl (XT.i0_ne_f rfl) k) ?_
      refine Goes.via (B := T3.setTop (mkF m 17 _ [(.ref a1)])) (fun t k => XS.aloadN X3.here hx rfl (hb hby own_d_prog_19_method_2_code_16) rfl rfl k) ?_
      obtain ⟨T4, X4, e4, st4⟩ := getF X3 hx hZ hown (host := "") (Or.inl (own_hw hw 33 rfl)) Via.refl K3 F_3 (g := (mkF m 17 #[rv a1, rv a2, iv (0 : Int32)] [(.ref a1)])) rfl rfl (hb hby own_d_prog_19_method_2_code_17)
      refine Goes.via (B := T4.setTop (mkF m 20 #[rv a1, rv a2, iv (0 : Int32)] [(.ref s1a)])) (fun t k => st4 _ k) ?_
      refine Goes.via (B := T4.setTop (mkF m 21 _ [(.ref a2), (.ref s1a)])) (fun t k => XS.aloadN X4.here hx rfl (hb hby own_d_prog_19_method_2_code_20) rfl rfl k) ?_
      obtain ⟨T5, X5, e5, st5⟩ := getF X4 hx hZ hown (host := "") (Or.inl (own_hw hw 33 rfl)) Via.refl e4 F_6 (g := (mkF m 21 #[rv a1, rv a2, iv (0 : Int32)] [(.ref a2), (.ref s1a)])) rfl rfl (hb hby own_d_prog_19_method_2_code_21)
      refine Goes.via (B := T5.setTop (mkF m 24 #[rv a1, rv a2, iv (0 : Int32)] [(.ref s2a), (.ref s1a)])) (fun t k => st5 _ k) ?_
      obtain ⟨_, T6, L6, X6, ⟨r6, rfl, M6, K6, p6_0⟩, st6⟩ := callVirt X5 hx hZ hown (own_hw hw 50 rfl) (own_hw hw 51 rfl) (own_hw hw 53 rfl) (notFace_of_selects (args := #[]) (mvT hZ (own_hw hw 53 rfl))) (own_hw hw 52 rfl) (own_hw hw 5 rfl) (own_hw hw 54 rfl) (by decide) (argsL := [(.ref s2a)]) (rest := []) (own_m62 l Z a0 hw [] s1a s2a z0 t1a k1a t2a k2a cc0 cc1 dd0 dd1 h0 n0 O0 hz0 hcc0 hcc1 hdd0 hdd1 O_1 F_7 F_8 F_9 F_10 F_11 F_12 F_13 F_14) e5 F_7 (lenOf own_pd14 rfl) (pc := 24) (Ls := #[rv a1, rv a2, iv (0 : Int32)]) (st := [(.ref s2a), (.ref s1a)]) rfl (by rw [hml]; rfl) (hb hby own_d_prog_19_method_2_code_24) (W := 0) (Nat.le_of_eq rfl) (by decide) (by decide) (by decide) (by decide)
      have N6 := Fr.app N3 M6
      refine Goes.via (B := T6.setTop (mkF m 27 #[rv a1, rv a2, iv (0 : Int32)] [(.int r6)])) (fun t k => st6 _ k) ?_
      refine Goes.via (B := T6.setTop (mkF m 28 _ [])) (fun t k => XS.istoreN X6.here hx rfl (hb hby own_d_prog_19_method_2_code_27) rfl (l' := #[rv a1, rv a2, iv r6]) rfl k) ?_
      refine Goes.via (B := T6.setTop (mkF m 29 _ [(.int r6)])) (fun t k => XS.iloadN X6.here hx rfl (hb hby own_d_prog_19_method_2_code_28) rfl k) ?_
      exact finI (Q := (own_Q63 Z a1 a2 x1 x2 s1a s2a z0 t1a k1a t2a k2a cc0 cc1 dd0 dd1 h0 n0)) (F := FrameEnd) (C := ((Rm 4 0 0 63)).cells) (S := ((Rm 4 0 0 63)).slots) X6 hx Bd.returns (hb hby own_d_prog_19_method_2_code_29) K6 ⟨r6, rfl, N6, rfl, (by unfold own_exp; rw [if_neg hlt, if_neg hng]; exact p6_0)⟩ (lvN X6 hlk (by decide) (by decide))
    · rw [if_neg heq] at p3_0
      have hgt : x2 < x1 := by
        have n' : ¬ x1.toInt = x2.toInt := fun z => heq (Int64.toInt_inj.mp z)
        rw [Int64.lt_iff_toInt_lt] at *; omega
      subst p3_0
      refine Goes.via (B := T3.setTop (mkF m 28 _ [])) (fun t k => XS.ifYes X3.here hx rfl (pc0 := 13) (pc' := 28) rfl (hb hby own_d_prog_19_method_2_code_13) rfl (XT.i0_ne_t (by decide)) (by decide) (by decide) k) ?_
      refine Goes.via (B := T3.setTop (mkF m 29 _ [(.int (1 : Int32))])) (fun t k => XS.iloadN X3.here hx rfl (hb hby own_d_prog_19_method_2_code_28) rfl k) ?_
      exact finI (Q := (own_Q63 Z a1 a2 x1 x2 s1a s2a z0 t1a k1a t2a k2a cc0 cc1 dd0 dd1 h0 n0)) (F := FrameEnd) (C := ((Rm 4 0 0 63)).cells) (S := ((Rm 4 0 0 63)).slots) X3 hx Bd.returns (hb hby own_d_prog_19_method_2_code_29) K3 ⟨(1 : Int32), rfl, N3, rfl, (by unfold own_exp; rw [if_neg hlt, if_pos hgt]; decide)⟩ (lvN X3 hlk (by decide) (by decide))
theorem own_pd16 : parseMethodDescriptor "(ICC)Ljava/lang/String;" = some ⟨[.int, .char, .char], some (.object "java/lang/String")⟩ := by decide +kernel
theorem own_pd17 : parseMethodDescriptor "(JLjava/lang/String;)V" = some ⟨[.long, (.object "java/lang/String")], none⟩ := by decide +kernel
theorem own_pd18 : parseMethodDescriptor "(Lcom/example/keelson/keelson/cluster/Ballot;)I" = some ⟨[(.object "com/example/keelson/keelson/cluster/Ballot")], some .int⟩ := by decide +kernel
theorem own_pd19 : parseMethodDescriptor "(IIIIII)I" = some ⟨[.int, .int, .int, .int, .int, .int], some .int⟩ := by decide +kernel
theorem own_ef64 (m : MethodId) (x0 : Int64) (x1 : Int64) (x2 : Int32) (x3 : Int32) (x4 : Int32)  : entryFrame m #[(.long x0), (.long x1), (.int x2), (.int x3), (.int x4)] maxLocals = mkF m 0 #[lv_ x0, s_, lv_ x1, s_, iv x2, iv x3, iv x4, u_, u_, u_, u_, u_, u_, u_, u_, u_, u_, u_, u_, u_, u_, u_, u_] [] := by first | (simp [entryFrame, mkF, argsToLocals, Value.category, maxLocals]; done) | rfl
abbrev own_Q64 (Z : State) (x1 : Int64) (x2 : Int64) (x3 : Int32) (x4 : Int32) (x5 : Int32) (z0 : Int32) (h0 : Heap) (n0 : Nat) (v : Option Value) (h : Heap) (L : List Loc) : Prop := v = some (.int (1 : Int32)) ∧ Fr n0 L ∧ True
set_option maxRecDepth 65536 in
set_option maxHeartbeats 40000000 in
theorem own_m64 (l : Launch) (Z : State) (a0 : Array Value) (hw : ∀ d ∈ tables_1, d.before a0 Z = true) (ws : List Jvm.Cond) (x1 : Int64) (x2 : Int64) (x3 : Int32) (x4 : Int32) (x5 : Int32) (z0 : Int32) (h0 : Heap) (n0 : Nat) (O0 : Old Z n0 h0) (hz0 : ¬ z0 = (0 : Int32)) (O_1 : Sta Z Z.heap "java/lang/String" "COMPACT_STRINGS" "Z" (.int z0)) :
    CtrH l Z consts_1 [] x code maxLocals ret room_1 #[(.long x1), (.long x2), (.int x3), (.int x4), (.int x5)] h0 (own_Q64 Z x1 x2 x3 x4 x5 z0 h0 n0) ws := by
  refine MetFree.of_bodySF (plainFor_of_name own_pn2) hisR ?_
  intro p e s m args below meth c s₁ Bd hml0 hP hK
  obtain ⟨rfl, hZ, hh, hC, hsf⟩ := hP
  have hx := Bd.exec
  have hby := Bd.bytes
  have hlk : meth.locks = false := Bd.notSynchronized
  have hml : c.maxLocals = 23 := hml0
  have hown : s.vm.findClass "com/example/keelson/keelson/cluster/BallotCompareToPinLaw" = some m.cls := findClass_of_methodNamed Bd.named
  have hnm := (name_of_methodNamed Bd.named Bd.method).1
  have X0 : Stand p l e room_1 (s.setVm s.vm) m #[(.long x1), (.long x2), (.int x3), (.int x4), (.int x5)] below meth c s₁ [] 0 0 := Stand.of_body Bd
  have hS0 : s.Since s.vm h0.size := (State.WarmedH.refl s).since _
  have hk0 : h0.size ≤ h0.size := Nat.le_refl _
  have hR0 : CHr Z consts_1 s.vm s.heap s.vm h0 := by rw [hh]; exact CHr.refl hC
  have hEL := own_EW hw
  have e0 : s₁.heap = h0 := by rw [← hh, Bd.state]; rfl
  have N0 := Fr.nil n0
  show Goes p.tables e below (fun t o => ∃ v L, o = .returned v ∧ (own_Q64 Z x1 x2 x3 x4 x5 z0 h0 n0) v t.heap L ∧ EndH Z consts_1 s o t L (room_1).cells (room_1).slots) _
  refine Goes.via (B := s₁.setTop (mkF m 0 #[lv_ x1, s_, lv_ x2, s_, iv x3, iv x4, iv x5, u_, u_, u_, u_, u_, u_, u_, u_, u_, u_, u_, u_, u_, u_, u_, u_] [])) (fun t k => castTop (own_ef64 m x1 x2 x3 x4 x5) k) ?_
  refine Goes.via (B := s₁.setTop (mkF m 2 _ [(.int x5)])) (fun t k => XS.iload X0.here hx rfl (hb hby at_0) rfl k) ?_
  refine Goes.via (B := s₁.setTop (mkF m 3 _ [(.int (3 : Int32)), (.int x5)])) (fun t k => XS.iconst X0.here hx rfl (hb hby at_2) k) ?_
  refine Goes.via (B := s₁.setTop (mkF m 4 _ [(.int (x5 &&& (3 : Int32)))])) (fun t k => XS.iand X0.here hx rfl (hb hby at_3) rfl k) ?_
  refine Goes.via (B := s₁.setTop (mkF m 6 _ [])) (fun t k => XS.istore X0.here hx rfl (hb hby at_4) rfl (l' := #[lv_ x1, s_, lv_ x2, s_, iv x3, iv x4, iv x5, iv (x5 &&& (3 : Int32)), u_, u_, u_, u_, u_, u_, u_, u_, u_, u_, u_, u_, u_, u_, u_]) rfl k) ?_
  refine Goes.via (B := s₁.setTop (mkF m 7 _ [(.long x2)])) (fun t k => XS.lloadN X0.here hx rfl (hb hby at_6) rfl k) ?_
  refine Goes.via (B := s₁.setTop (mkF m 9 _ [])) (fun t k => XS.lstore X0.here hx rfl (hb hby at_7) rfl (l' := #[lv_ x1, s_, lv_ x2, s_, iv x3, iv x4, iv x5, iv (x5 &&& (3 : Int32)), lv_ x2, s_, u_, u_, u_, u_, u_, u_, u_, u_, u_, u_, u_, u_, u_]) rfl k) ?_
  refine Goes.via (B := s₁.setTop (mkF m 11 _ [(.int (x5 &&& (3 : Int32)))])) (fun t k => XS.iload X0.here hx rfl (hb hby at_9) rfl k) ?_
  refine Goes.via (B := s₁.setTop (mkF m 12 _ [(.int (1 : Int32)), (.int (x5 &&& (3 : Int32)))])) (fun t k => XS.iconst X0.here hx rfl (hb hby at_11) k) ?_
  have j1 : ∀ (y8 : Int64) , Goes p.tables e below (fun t o => ∃ v L, o = .returned v ∧ (own_Q64 Z x1 x2 x3 x4 x5 z0 h0 n0) v t.heap L ∧ EndH Z consts_1 s o t L (room_1).cells (room_1).slots) (s₁.setTop (mkF m 32 #[lv_ x1, s_, lv_ x2, s_, iv x3, iv x4, iv x5, iv (x5 &&& (3 : Int32)), lv_ y8, s_, u_, u_, u_, u_, u_, u_, u_, u_, u_, u_, u_, u_, u_] [])) := by
    intro y8
    refine Goes.via (B := s₁.setTop (mkF m 34 _ [(.int x3)])) (fun t k => XS.iload X0.here hx rfl (hb hby at_32) rfl k) ?_
    refine Goes.via (B := s₁.setTop (mkF m 36 _ [(.int (18 : Int32)), (.int x3)])) (fun t k => XS.bipush X0.here hx rfl (hb hby at_34) k) ?_
    refine Goes.via (B := s₁.setTop (mkF m 37 _ [(.int ((x3.toUInt32 >>> ((18 : Int32) &&& 31).toUInt32).toInt32))])) (fun t k => XS.iushr X0.here hx rfl (hb hby at_36) rfl k) ?_
    refine Goes.via (B := s₁.setTop (mkF m 40 _ [(.int (255 : Int32)), (.int ((x3.toUInt32 >>> ((18 : Int32) &&& 31).toUInt32).toInt32))])) (fun t k => XS.sipush X0.here hx rfl (hb hby at_37) k) ?_
    refine Goes.via (B := s₁.setTop (mkF m 41 _ [(.int (((x3.toUInt32 >>> ((18 : Int32) &&& 31).toUInt32).toInt32) &&& (255 : Int32)))])) (fun t k => XS.iand X0.here hx rfl (hb hby at_40) rfl k) ?_
    refine Goes.via (B := s₁.setTop (mkF m 42 _ [(.int (3 : Int32)), (.int (((x3.toUInt32 >>> ((18 : Int32) &&& 31).toUInt32).toInt32) &&& (255 : Int32)))])) (fun t k => XS.iconst X0.here hx rfl (hb hby at_41) k) ?_
    refine Goes.via (B := s₁.setTop (mkF m 43 #[lv_ x1, s_, lv_ x2, s_, iv x3, iv x4, iv x5, iv (x5 &&& (3 : Int32)), lv_ y8, s_, u_, u_, u_, u_, u_, u_, u_, u_, u_, u_, u_, u_, u_] [(.int ((((x3.toUInt32 >>> ((18 : Int32) &&& 31).toUInt32).toInt32) &&& (255 : Int32)) % (3 : Int32)))])) (fun t k => iremM X0 hx rfl (hb hby at_42) rfl (by decide) k) ?_
    refine Goes.via (B := s₁.setTop (mkF m 45 _ [])) (fun t k => XS.istore X0.here hx rfl (hb hby at_43) rfl (l' := #[lv_ x1, s_, lv_ x2, s_, iv x3, iv x4, iv x5, iv (x5 &&& (3 : Int32)), lv_ y8, s_, iv ((((x3.toUInt32 >>> ((18 : Int32) &&& 31).toUInt32).toInt32) &&& (255 : Int32)) % (3 : Int32)), u_, u_, u_, u_, u_, u_, u_, u_, u_, u_, u_, u_]) rfl k) ?_
    refine Goes.via (B := s₁.setTop (mkF m 47 _ [(.int x3)])) (fun t k => XS.iload X0.here hx rfl (hb hby at_45) rfl k) ?_
    refine Goes.via (B := s₁.setTop (mkF m 48 _ [(.int (2 : Int32)), (.int x3)])) (fun t k => XS.iconst X0.here hx rfl (hb hby at_47) k) ?_
    refine Goes.via (B := s₁.setTop (mkF m 49 _ [(.int ((x3.toUInt32 >>> ((2 : Int32) &&& 31).toUInt32).toInt32))])) (fun t k => XS.iushr X0.here hx rfl (hb hby at_48) rfl k) ?_
    refine Goes.via (B := s₁.setTop (mkF m 52 _ [(.int (255 : Int32)), (.int ((x3.toUInt32 >>> ((2 : Int32) &&& 31).toUInt32).toInt32))])) (fun t k => XS.sipush X0.here hx rfl (hb hby at_49) k) ?_
    refine Goes.via (B := s₁.setTop (mkF m 53 _ [(.int (((x3.toUInt32 >>> ((2 : Int32) &&& 31).toUInt32).toInt32) &&& (255 : Int32)))])) (fun t k => XS.iand X0.here hx rfl (hb hby at_52) rfl k) ?_
    refine Goes.via (B := s₁.setTop (mkF m 55 _ [])) (fun t k => XS.istore X0.here hx rfl (hb hby at_53) rfl (l' := #[lv_ x1, s_, lv_ x2, s_, iv x3, iv x4, iv x5, iv (x5 &&& (3 : Int32)), lv_ y8, s_, iv ((((x3.toUInt32 >>> ((18 : Int32) &&& 31).toUInt32).toInt32) &&& (255 : Int32)) % (3 : Int32)), iv (((x3.toUInt32 >>> ((2 : Int32) &&& 31).toUInt32).toInt32) &&& (255 : Int32)), u_, u_, u_, u_, u_, u_, u_, u_, u_, u_, u_]) rfl k) ?_
    refine Goes.via (B := s₁.setTop (mkF m 57 _ [(.int x3)])) (fun t k => XS.iload X0.here hx rfl (hb hby at_55) rfl k) ?_
    refine Goes.via (B := s₁.setTop (mkF m 59 _ [(.int (10 : Int32)), (.int x3)])) (fun t k => XS.bipush X0.here hx rfl (hb hby at_57) k) ?_
    refine Goes.via (B := s₁.setTop (mkF m 60 _ [(.int ((x3.toUInt32 >>> ((10 : Int32) &&& 31).toUInt32).toInt32))])) (fun t k => XS.iushr X0.here hx rfl (hb hby at_59) rfl k) ?_
    refine Goes.via (B := s₁.setTop (mkF m 63 _ [(.int (255 : Int32)), (.int ((x3.toUInt32 >>> ((10 : Int32) &&& 31).toUInt32).toInt32))])) (fun t k => XS.sipush X0.here hx rfl (hb hby at_60) k) ?_
    refine Goes.via (B := s₁.setTop (mkF m 64 _ [(.int (((x3.toUInt32 >>> ((10 : Int32) &&& 31).toUInt32).toInt32) &&& (255 : Int32)))])) (fun t k => XS.iand X0.here hx rfl (hb hby at_63) rfl k) ?_
    refine Goes.via (B := s₁.setTop (mkF m 66 _ [])) (fun t k => XS.istore X0.here hx rfl (hb hby at_64) rfl (l' := #[lv_ x1, s_, lv_ x2, s_, iv x3, iv x4, iv x5, iv (x5 &&& (3 : Int32)), lv_ y8, s_, iv ((((x3.toUInt32 >>> ((18 : Int32) &&& 31).toUInt32).toInt32) &&& (255 : Int32)) % (3 : Int32)), iv (((x3.toUInt32 >>> ((2 : Int32) &&& 31).toUInt32).toInt32) &&& (255 : Int32)), iv (((x3.toUInt32 >>> ((10 : Int32) &&& 31).toUInt32).toInt32) &&& (255 : Int32)), u_, u_, u_, u_, u_, u_, u_, u_, u_, u_]) rfl k) ?_
    refine Goes.via (B := s₁.setTop (mkF m 68 _ [(.int x4)])) (fun t k => XS.iload X0.here hx rfl (hb hby at_66) rfl k) ?_
    refine Goes.via (B := s₁.setTop (mkF m 70 _ [(.int (18 : Int32)), (.int x4)])) (fun t k => XS.bipush X0.here hx rfl (hb hby at_68) k) ?_
    refine Goes.via (B := s₁.setTop (mkF m 71 _ [(.int ((x4.toUInt32 >>> ((18 : Int32) &&& 31).toUInt32).toInt32))])) (fun t k => XS.iushr X0.here hx rfl (hb hby at_70) rfl k) ?_
    refine Goes.via (B := s₁.setTop (mkF m 74 _ [(.int (255 : Int32)), (.int ((x4.toUInt32 >>> ((18 : Int32) &&& 31).toUInt32).toInt32))])) (fun t k => XS.sipush X0.here hx rfl (hb hby at_71) k) ?_
    refine Goes.via (B := s₁.setTop (mkF m 75 _ [(.int (((x4.toUInt32 >>> ((18 : Int32) &&& 31).toUInt32).toInt32) &&& (255 : Int32)))])) (fun t k => XS.iand X0.here hx rfl (hb hby at_74) rfl k) ?_
    refine Goes.via (B := s₁.setTop (mkF m 76 _ [(.int (3 : Int32)), (.int (((x4.toUInt32 >>> ((18 : Int32) &&& 31).toUInt32).toInt32) &&& (255 : Int32)))])) (fun t k => XS.iconst X0.here hx rfl (hb hby at_75) k) ?_
    refine Goes.via (B := s₁.setTop (mkF m 77 #[lv_ x1, s_, lv_ x2, s_, iv x3, iv x4, iv x5, iv (x5 &&& (3 : Int32)), lv_ y8, s_, iv ((((x3.toUInt32 >>> ((18 : Int32) &&& 31).toUInt32).toInt32) &&& (255 : Int32)) % (3 : Int32)), iv (((x3.toUInt32 >>> ((2 : Int32) &&& 31).toUInt32).toInt32) &&& (255 : Int32)), iv (((x3.toUInt32 >>> ((10 : Int32) &&& 31).toUInt32).toInt32) &&& (255 : Int32)), u_, u_, u_, u_, u_, u_, u_, u_, u_, u_] [(.int ((((x4.toUInt32 >>> ((18 : Int32) &&& 31).toUInt32).toInt32) &&& (255 : Int32)) % (3 : Int32)))])) (fun t k => iremM X0 hx rfl (hb hby at_76) rfl (by decide) k) ?_
    refine Goes.via (B := s₁.setTop (mkF m 79 _ [])) (fun t k => XS.istore X0.here hx rfl (hb hby at_77) rfl (l' := #[lv_ x1, s_, lv_ x2, s_, iv x3, iv x4, iv x5, iv (x5 &&& (3 : Int32)), lv_ y8, s_, iv ((((x3.toUInt32 >>> ((18 : Int32) &&& 31).toUInt32).toInt32) &&& (255 : Int32)) % (3 : Int32)), iv (((x3.toUInt32 >>> ((2 : Int32) &&& 31).toUInt32).toInt32) &&& (255 : Int32)), iv (((x3.toUInt32 >>> ((10 : Int32) &&& 31).toUInt32).toInt32) &&& (255 : Int32)), iv ((((x4.toUInt32 >>> ((18 : Int32) &&& 31).toUInt32).toInt32) &&& (255 : Int32)) % (3 : Int32)), u_, u_, u_, u_, u_, u_, u_, u_, u_]) rfl k) ?_
    refine Goes.via (B := s₁.setTop (mkF m 81 _ [(.int x4)])) (fun t k => XS.iload X0.here hx rfl (hb hby at_79) rfl k) ?_
    refine Goes.via (B := s₁.setTop (mkF m 82 _ [(.int (2 : Int32)), (.int x4)])) (fun t k => XS.iconst X0.here hx rfl (hb hby at_81) k) ?_
    refine Goes.via (B := s₁.setTop (mkF m 83 _ [(.int ((x4.toUInt32 >>> ((2 : Int32) &&& 31).toUInt32).toInt32))])) (fun t k => XS.iushr X0.here hx rfl (hb hby at_82) rfl k) ?_
    refine Goes.via (B := s₁.setTop (mkF m 86 _ [(.int (255 : Int32)), (.int ((x4.toUInt32 >>> ((2 : Int32) &&& 31).toUInt32).toInt32))])) (fun t k => XS.sipush X0.here hx rfl (hb hby at_83) k) ?_
    refine Goes.via (B := s₁.setTop (mkF m 87 _ [(.int (((x4.toUInt32 >>> ((2 : Int32) &&& 31).toUInt32).toInt32) &&& (255 : Int32)))])) (fun t k => XS.iand X0.here hx rfl (hb hby at_86) rfl k) ?_
    refine Goes.via (B := s₁.setTop (mkF m 89 _ [])) (fun t k => XS.istore X0.here hx rfl (hb hby at_87) rfl (l' := #[lv_ x1, s_, lv_ x2, s_, iv x3, iv x4, iv x5, iv (x5 &&& (3 : Int32)), lv_ y8, s_, iv ((((x3.toUInt32 >>> ((18 : Int32) &&& 31).toUInt32).toInt32) &&& (255 : Int32)) % (3 : Int32)), iv (((x3.toUInt32 >>> ((2 : Int32) &&& 31).toUInt32).toInt32) &&& (255 : Int32)), iv (((x3.toUInt32 >>> ((10 : Int32) &&& 31).toUInt32).toInt32) &&& (255 : Int32)), iv ((((x4.toUInt32 >>> ((18 : Int32) &&& 31).toUInt32).toInt32) &&& (255 : Int32)) % (3 : Int32)), iv (((x4.toUInt32 >>> ((2 : Int32) &&& 31).toUInt32).toInt32) &&& (255 : Int32)), u_, u_, u_, u_, u_, u_, u_, u_]) rfl k) ?_
    refine Goes.via (B := s₁.setTop (mkF m 91 _ [(.int x4)])) (fun t k => XS.iload X0.here hx rfl (hb hby at_89) rfl k) ?_
    refine Goes.via (B := s₁.setTop (mkF m 93 _ [(.int (10 : Int32)), (.int x4)])) (fun t k => XS.bipush X0.here hx rfl (hb hby at_91) k) ?_
    refine Goes.via (B := s₁.setTop (mkF m 94 _ [(.int ((x4.toUInt32 >>> ((10 : Int32) &&& 31).toUInt32).toInt32))])) (fun t k => XS.iushr X0.here hx rfl (hb hby at_93) rfl k) ?_
    refine Goes.via (B := s₁.setTop (mkF m 97 _ [(.int (255 : Int32)), (.int ((x4.toUInt32 >>> ((10 : Int32) &&& 31).toUInt32).toInt32))])) (fun t k => XS.sipush X0.here hx rfl (hb hby at_94) k) ?_
    refine Goes.via (B := s₁.setTop (mkF m 98 _ [(.int (((x4.toUInt32 >>> ((10 : Int32) &&& 31).toUInt32).toInt32) &&& (255 : Int32)))])) (fun t k => XS.iand X0.here hx rfl (hb hby at_97) rfl k) ?_
    refine Goes.via (B := s₁.setTop (mkF m 100 _ [])) (fun t k => XS.istore X0.here hx rfl (hb hby at_98) rfl (l' := #[lv_ x1, s_, lv_ x2, s_, iv x3, iv x4, iv x5, iv (x5 &&& (3 : Int32)), lv_ y8, s_, iv ((((x3.toUInt32 >>> ((18 : Int32) &&& 31).toUInt32).toInt32) &&& (255 : Int32)) % (3 : Int32)), iv (((x3.toUInt32 >>> ((2 : Int32) &&& 31).toUInt32).toInt32) &&& (255 : Int32)), iv (((x3.toUInt32 >>> ((10 : Int32) &&& 31).toUInt32).toInt32) &&& (255 : Int32)), iv ((((x4.toUInt32 >>> ((18 : Int32) &&& 31).toUInt32).toInt32) &&& (255 : Int32)) % (3 : Int32)), iv (((x4.toUInt32 >>> ((2 : Int32) &&& 31).toUInt32).toInt32) &&& (255 : Int32)), iv (((x4.toUInt32 >>> ((10 : Int32) &&& 31).toUInt32).toInt32) &&& (255 : Int32)), u_, u_, u_, u_, u_, u_, u_]) rfl k) ?_
    suffices J3 : ∀ (la : Int32) (lb0 : Int32) (ca1 : Int32) (cb1 : Int32) (ca0 : Int32) (cb0 : Int32) (hla : la = 0 ∨ la = 1 ∨ la = 2) (hca0 : ¬ ca0 < (0 : Int32) ∧ ¬ (255 : Int32) < ca0) (hca1 : ¬ ca1 < (0 : Int32) ∧ ¬ (255 : Int32) < ca1) (hlb0 : lb0 = 0 ∨ lb0 = 1 ∨ lb0 = 2) (hcb0 : ¬ cb0 < (0 : Int32) ∧ ¬ (255 : Int32) < cb0) (hcb1 : ¬ cb1 < (0 : Int32) ∧ ¬ (255 : Int32) < cb1), Goes p.tables e below (fun t o => ∃ v L, o = .returned v ∧ (own_Q64 Z x1 x2 x3 x4 x5 z0 h0 n0) v t.heap L ∧ EndH Z consts_1 s o t L (room_1).cells (room_1).slots) (s₁.setTop (mkF m 100 #[lv_ x1, s_, lv_ x2, s_, iv x3, iv x4, iv x5, iv (x5 &&& (3 : Int32)), lv_ y8, s_, iv la, iv ca0, iv ca1, iv lb0, iv cb0, iv cb1, u_, u_, u_, u_, u_, u_, u_] [])) by exact J3 ((((x3.toUInt32 >>> ((18 : Int32) &&& 31).toUInt32).toInt32) &&& (255 : Int32)) % (3 : Int32)) ((((x4.toUInt32 >>> ((18 : Int32) &&& 31).toUInt32).toInt32) &&& (255 : Int32)) % (3 : Int32)) (((x3.toUInt32 >>> ((10 : Int32) &&& 31).toUInt32).toInt32) &&& (255 : Int32)) (((x4.toUInt32 >>> ((10 : Int32) &&& 31).toUInt32).toInt32) &&& (255 : Int32)) (((x3.toUInt32 >>> ((2 : Int32) &&& 31).toUInt32).toInt32) &&& (255 : Int32)) (((x4.toUInt32 >>> ((2 : Int32) &&& 31).toUInt32).toInt32) &&& (255 : Int32)) (own_rem3 _) (own_cr _) (own_cr _) (own_rem3 _) (own_cr _) (own_cr _)
    intro la lb0 ca1 cb1 ca0 cb0 hla hca0 hca1 hlb0 hcb0 hcb1
    have j4 : ∀ (cd0 : Int32) (hcd0 : ¬ cd0 < (0 : Int32) ∧ ¬ (255 : Int32) < cd0) , Goes p.tables e below (fun t o => ∃ v L, o = .returned v ∧ (own_Q64 Z x1 x2 x3 x4 x5 z0 h0 n0) v t.heap L ∧ EndH Z consts_1 s o t L (room_1).cells (room_1).slots) (s₁.setTop (mkF m 113 #[lv_ x1, s_, lv_ x2, s_, iv x3, iv x4, iv x5, iv (x5 &&& (3 : Int32)), lv_ y8, s_, iv la, iv ca0, iv ca1, iv lb0, iv cd0, iv cb1, u_, u_, u_, u_, u_, u_, u_] [])) := by
      intro cd0 hcd0
      refine Goes.via (B := s₁.setTop (mkF m 115 _ [(.int x5)])) (fun t k => XS.iload X0.here hx rfl (hb hby at_113) rfl k) ?_
      refine Goes.via (B := s₁.setTop (mkF m 116 _ [(.int (3 : Int32)), (.int x5)])) (fun t k => XS.iconst X0.here hx rfl (hb hby at_115) k) ?_
      refine Goes.via (B := s₁.setTop (mkF m 117 _ [(.int ((x5.toUInt32 >>> ((3 : Int32) &&& 31).toUInt32).toInt32))])) (fun t k => XS.iushr X0.here hx rfl (hb hby at_116) rfl k) ?_
      refine Goes.via (B := s₁.setTop (mkF m 118 _ [(.int (1 : Int32)), (.int ((x5.toUInt32 >>> ((3 : Int32) &&& 31).toUInt32).toInt32))])) (fun t k => XS.iconst X0.here hx rfl (hb hby at_117) k) ?_
      refine Goes.via (B := s₁.setTop (mkF m 119 _ [(.int (((x5.toUInt32 >>> ((3 : Int32) &&& 31).toUInt32).toInt32) &&& (1 : Int32)))])) (fun t k => XS.iand X0.here hx rfl (hb hby at_118) rfl k) ?_
      have j6 : ∀ (cd1 : Int32) (hcd1 : ¬ cd1 < (0 : Int32) ∧ ¬ (255 : Int32) < cd1) , Goes p.tables e below (fun t o => ∃ v L, o = .returned v ∧ (own_Q64 Z x1 x2 x3 x4 x5 z0 h0 n0) v t.heap L ∧ EndH Z consts_1 s o t L (room_1).cells (room_1).slots) (s₁.setTop (mkF m 126 #[lv_ x1, s_, lv_ x2, s_, iv x3, iv x4, iv x5, iv (x5 &&& (3 : Int32)), lv_ y8, s_, iv la, iv ca0, iv ca1, iv lb0, iv cd0, iv cd1, u_, u_, u_, u_, u_, u_, u_] [])) := by
        intro cd1 hcd1
        refine Goes.via (B := s₁.setTop (mkF m 128 _ [(.int x5)])) (fun t k => XS.iload X0.here hx rfl (hb hby at_126) rfl k) ?_
        refine Goes.via (B := s₁.setTop (mkF m 129 _ [(.int (4 : Int32)), (.int x5)])) (fun t k => XS.iconst X0.here hx rfl (hb hby at_128) k) ?_
        refine Goes.via (B := s₁.setTop (mkF m 130 _ [(.int ((x5.toUInt32 >>> ((4 : Int32) &&& 31).toUInt32).toInt32))])) (fun t k => XS.iushr X0.here hx rfl (hb hby at_129) rfl k) ?_
        refine Goes.via (B := s₁.setTop (mkF m 131 _ [(.int (1 : Int32)), (.int ((x5.toUInt32 >>> ((4 : Int32) &&& 31).toUInt32).toInt32))])) (fun t k => XS.iconst X0.here hx rfl (hb hby at_130) k) ?_
        refine Goes.via (B := s₁.setTop (mkF m 132 _ [(.int (((x5.toUInt32 >>> ((4 : Int32) &&& 31).toUInt32).toInt32) &&& (1 : Int32)))])) (fun t k => XS.iand X0.here hx rfl (hb hby at_131) rfl k) ?_
        have j8 : ∀ (lb : Int32) (hlb : lb = 0 ∨ lb = 1 ∨ lb = 2) , Goes p.tables e below (fun t o => ∃ v L, o = .returned v ∧ (own_Q64 Z x1 x2 x3 x4 x5 z0 h0 n0) v t.heap L ∧ EndH Z consts_1 s o t L (room_1).cells (room_1).slots) (s₁.setTop (mkF m 139 #[lv_ x1, s_, lv_ x2, s_, iv x3, iv x4, iv x5, iv (x5 &&& (3 : Int32)), lv_ y8, s_, iv la, iv ca0, iv ca1, iv lb, iv cd0, iv cd1, u_, u_, u_, u_, u_, u_, u_] [])) := by
          intro lb hlb
          rcases hla with rfl | rfl | rfl
          · refine Goes.via (B := s₁.setTop (mkF m 141 _ [(.int (0 : Int32))])) (fun t k => XS.iload X0.here hx rfl (hb hby at_139) rfl k) ?_
            refine Goes.via (B := s₁.setTop (mkF m 143 _ [(.int ca0), (.int (0 : Int32))])) (fun t k => XS.iload X0.here hx rfl (hb hby at_141) rfl k) ?_
            refine Goes.via (B := s₁.setTop (mkF m 144 _ [(.int (ca0.toUInt32.toUInt16.toUInt32.toInt32)), (.int (0 : Int32))])) (fun t k => XS.i2c X0.here hx rfl (hb hby at_143) rfl k) ?_
            refine Goes.via (B := s₁.setTop (mkF m 146 _ [(.int ca1), (.int (ca0.toUInt32.toUInt16.toUInt32.toInt32)), (.int (0 : Int32))])) (fun t k => XS.iload X0.here hx rfl (hb hby at_144) rfl k) ?_
            refine Goes.via (B := s₁.setTop (mkF m 147 _ [(.int (ca1.toUInt32.toUInt16.toUInt32.toInt32)), (.int (ca0.toUInt32.toUInt16.toUInt32.toInt32)), (.int (0 : Int32))])) (fun t k => XS.i2c X0.here hx rfl (hb hby at_146) rfl k) ?_
            have q10 : (ca0.toUInt32.toUInt16.toUInt32.toInt32) = ca0 := own_i2c hca0
            rw [q10]
            have q11 : (ca1.toUInt32.toUInt16.toUInt32.toInt32) = ca1 := own_i2c hca1
            rw [q11]
            obtain ⟨_, T12, L12, X12, hS12, hZ12, hown12, hC12, ⟨bs12, ts12, ks12, rfl, M12, K12, f12_0, f12_1, f12_2, f12_3⟩, st12⟩ := callStaticH X0 hx hZ hS0 hk0 hEL hR0.1 (sf := []) all0 hown (own_hw hw 0 rfl) (own_hw hw 1 rfl) (own_hw hw 2 rfl) (own_hw hw 3 rfl) (by decide) (argsL := [(.int (0 : Int32)), (.int ca0), (.int ca1)]) (rest := []) (own_m5 l Z a0 hw [] ca0 ca1 z0 h0 n0 O0 hz0 hca0 hca1 O_1) e0 (lenOf own_pd16 rfl) (pc := 147) (Ls := #[lv_ x1, s_, lv_ x2, s_, iv x3, iv x4, iv x5, iv (x5 &&& (3 : Int32)), lv_ y8, s_, iv (0 : Int32), iv ca0, iv ca1, iv lb, iv cd0, iv cd1, u_, u_, u_, u_, u_, u_, u_]) (st := [(.int ca1), (.int ca0), (.int (0 : Int32))]) rfl (by rw [hml]; rfl) (hb hby at_147) (W := 0) (Nat.le_of_eq rfl) (by decide) (by decide) (by decide) (by decide)
            have N12 := Fr.app N0 M12
            have hq13 := hC12
            have hR13 := CHr.trans hR0 hq13
            refine Goes.via (B := T12.setTop (mkF m 150 #[lv_ x1, s_, lv_ x2, s_, iv x3, iv x4, iv x5, iv (x5 &&& (3 : Int32)), lv_ y8, s_, iv (0 : Int32), iv ca0, iv ca1, iv lb, iv cd0, iv cd1, u_, u_, u_, u_, u_, u_, u_] [(.ref bs12)])) (fun t k => st12 _ k) ?_
            refine Goes.via (B := T12.setTop (mkF m 152 _ [])) (fun t k => XS.astore X12.here hx rfl (hb hby at_150) rfl rfl (l' := #[lv_ x1, s_, lv_ x2, s_, iv x3, iv x4, iv x5, iv (x5 &&& (3 : Int32)), lv_ y8, s_, iv (0 : Int32), iv ca0, iv ca1, iv lb, iv cd0, iv cd1, rv bs12, u_, u_, u_, u_, u_, u_]) rfl k) ?_
            rcases hlb with rfl | rfl | rfl
            · refine Goes.via (B := T12.setTop (mkF m 154 _ [(.int (0 : Int32))])) (fun t k => XS.iload X12.here hx rfl (hb hby at_152) rfl k) ?_
              refine Goes.via (B := T12.setTop (mkF m 156 _ [(.int cd0), (.int (0 : Int32))])) (fun t k => XS.iload X12.here hx rfl (hb hby at_154) rfl k) ?_
              refine Goes.via (B := T12.setTop (mkF m 157 _ [(.int (cd0.toUInt32.toUInt16.toUInt32.toInt32)), (.int (0 : Int32))])) (fun t k => XS.i2c X12.here hx rfl (hb hby at_156) rfl k) ?_
              refine Goes.via (B := T12.setTop (mkF m 159 _ [(.int cd1), (.int (cd0.toUInt32.toUInt16.toUInt32.toInt32)), (.int (0 : Int32))])) (fun t k => XS.iload X12.here hx rfl (hb hby at_157) rfl k) ?_
              refine Goes.via (B := T12.setTop (mkF m 160 _ [(.int (cd1.toUInt32.toUInt16.toUInt32.toInt32)), (.int (cd0.toUInt32.toUInt16.toUInt32.toInt32)), (.int (0 : Int32))])) (fun t k => XS.i2c X12.here hx rfl (hb hby at_159) rfl k) ?_
              have q14 : (cd0.toUInt32.toUInt16.toUInt32.toInt32) = cd0 := own_i2c hcd0
              rw [q14]
              have q15 : (cd1.toUInt32.toUInt16.toUInt32.toInt32) = cd1 := own_i2c hcd1
              rw [q15]
              obtain ⟨_, T16, L16, X16, hS16, hZ16, hown16, hC16, ⟨bs16, ts16, ks16, rfl, M16, K16, f16_0, f16_1, f16_2, f16_3⟩, st16⟩ := callStaticH X12 hx hZ12 hS12 (Nat.le_refl _) hEL hR13.1 (sf := []) all0 hown12 (own_hw hw 0 rfl) (own_hw hw 1 rfl) (own_hw hw 2 rfl) (own_hw hw 3 rfl) (by decide) (argsL := [(.int (0 : Int32)), (.int cd0), (.int cd1)]) (rest := []) (own_m5 l Z a0 hw [] cd0 cd1 z0 T12.heap n0 (O0.keep K12 all0) hz0 hcd0 hcd1 O_1) rfl (lenOf own_pd16 rfl) (pc := 160) (Ls := #[lv_ x1, s_, lv_ x2, s_, iv x3, iv x4, iv x5, iv (x5 &&& (3 : Int32)), lv_ y8, s_, iv (0 : Int32), iv ca0, iv ca1, iv (0 : Int32), iv cd0, iv cd1, rv bs12, u_, u_, u_, u_, u_, u_]) (st := [(.int cd1), (.int cd0), (.int (0 : Int32))]) rfl (by rw [hml]; rfl) (hb hby at_160) (W := 0) (Nat.le_of_eq rfl) (by decide) (by decide) (by decide) (by decide)
              have N16 := Fr.app N12 M16
              have hq17 := hC16
              have hR17 := CHr.trans hR13 hq17
              refine Goes.via (B := T16.setTop (mkF m 163 #[lv_ x1, s_, lv_ x2, s_, iv x3, iv x4, iv x5, iv (x5 &&& (3 : Int32)), lv_ y8, s_, iv (0 : Int32), iv ca0, iv ca1, iv (0 : Int32), iv cd0, iv cd1, rv bs12, u_, u_, u_, u_, u_, u_] [(.ref bs16)])) (fun t k => st16 _ k) ?_
              refine Goes.via (B := T16.setTop (mkF m 165 _ [])) (fun t k => XS.astore X16.here hx rfl (hb hby at_163) rfl rfl (l' := #[lv_ x1, s_, lv_ x2, s_, iv x3, iv x4, iv x5, iv (x5 &&& (3 : Int32)), lv_ y8, s_, iv (0 : Int32), iv ca0, iv ca1, iv (0 : Int32), iv cd0, iv cd1, rv bs12, rv bs16, u_, u_, u_, u_, u_]) rfl k) ?_
              obtain ⟨T18, h18, X18, e18, E18, A18, D18, U18, st18⟩ := newO X16 hx hZ16 hown16 (own_hw hw 12 rfl) (own_hw hw 13 rfl) (own_hw hw 14 rfl) rfl (g := (mkF m 165 #[lv_ x1, s_, lv_ x2, s_, iv x3, iv x4, iv x5, iv (x5 &&& (3 : Int32)), lv_ y8, s_, iv (0 : Int32), iv ca0, iv ca1, iv (0 : Int32), iv cd0, iv cd1, rv bs12, rv bs16, u_, u_, u_, u_, u_] [])) rfl (hb hby at_165) (by decide) (by decide)
              obtain ⟨b18, g18⟩ : ∃ z, z = T16.heap.size := ⟨_, rfl⟩
              rw [← g18] at A18 D18 U18 st18
              have gn18 : n0 ≤ b18 := Nat.le_trans (old_le ((O0.keep K12 all0).keep K16 all0)) (Nat.le_of_eq g18.symm)
              have hq19 := CHr.ext E18 hR17.1
              have hR19 := CHr.trans hR17 hq19
              have sf20 := Safe.ext E18 hR17.1 (Safe.new (Nat.le_of_eq g18.symm))
              have F18_round : Fld Z h18 b18 "com/example/keelson/keelson/cluster/Ballot" "round" "J" (.long (0 : Int64)) := D18 (Or.inr (own_hw hw 32 rfl)) (ty := .long) (by decide)
              have F18_proposer : Fld Z h18 b18 "com/example/keelson/keelson/cluster/Ballot" "proposer" "Ljava/lang/String;" .null := D18 (Or.inr (own_hw hw 34 rfl)) (ty := (.object "java/lang/String")) (by decide)
              refine Goes.via (B := T18.setTop (mkF m 168 #[lv_ x1, s_, lv_ x2, s_, iv x3, iv x4, iv x5, iv (x5 &&& (3 : Int32)), lv_ y8, s_, iv (0 : Int32), iv ca0, iv ca1, iv (0 : Int32), iv cd0, iv cd1, rv bs12, rv bs16, u_, u_, u_, u_, u_] [(.ref b18)])) (fun t k => st18 _ k) ?_
              refine Goes.via (B := T18.setTop (mkF m 169 _ [(.ref b18), (.ref b18)])) (fun t k => XS.dup X18.here hx rfl (hb hby at_168) rfl rfl k) ?_
              refine Goes.via (B := T18.setTop (mkF m 170 _ [(.long x1), (.ref b18), (.ref b18)])) (fun t k => XS.lloadN X18.here hx rfl (hb hby at_169) rfl k) ?_
              refine Goes.via (B := T18.setTop (mkF m 172 _ [(.ref bs12), (.long x1), (.ref b18), (.ref b18)])) (fun t k => XS.aload X18.here hx rfl (hb hby at_170) rfl rfl k) ?_
              obtain ⟨_, T21, L21, X21, hS21, hZ21, hown21, hC21, ⟨rfl, M21, K21, f21_0, f21_1, f21_2⟩, st21⟩ := callInitH X18 hx hZ16 hS16 (Nat.le_trans (Nat.le_refl _) E18.1) hEL hR19.1 (sf := []) all0 rfl hown16 (own_hw hw 15 rfl) (own_hw hw 16 rfl) (own_hw hw 14 rfl) (own_hw hw 17 rfl) (by decide) (argsL := [(.long x1), (.ref bs12)]) (rest := [(.ref b18)]) (own_m10 l Z a0 hw [] b18 x1 bs12 h18 n0 (((O0.keep K12 all0).keep K16 all0).ext E18) gn18 A18 F18_round F18_proposer) e18 (lenOf own_pd17 rfl) (pc := 172) (Ls := #[lv_ x1, s_, lv_ x2, s_, iv x3, iv x4, iv x5, iv (x5 &&& (3 : Int32)), lv_ y8, s_, iv (0 : Int32), iv ca0, iv ca1, iv (0 : Int32), iv cd0, iv cd1, rv bs12, rv bs16, u_, u_, u_, u_, u_]) (st := [(.ref bs12), (.long x1), (.ref b18), (.ref b18)]) rfl (by rw [hml]; rfl) (hb hby at_172) (W := 1) (Nat.le_of_eq rfl) (by decide) (by decide) (by decide) (by decide)
              have N21 := Fr.app N16 M21
              have hq22 := hC21
              have hR22 := CHr.trans hR19 hq22
              refine Goes.via (B := T21.setTop (mkF m 175 #[lv_ x1, s_, lv_ x2, s_, iv x3, iv x4, iv x5, iv (x5 &&& (3 : Int32)), lv_ y8, s_, iv (0 : Int32), iv ca0, iv ca1, iv (0 : Int32), iv cd0, iv cd1, rv bs12, rv bs16, u_, u_, u_, u_, u_] [(.ref b18)])) (fun t k => st21 _ k) ?_
              refine Goes.via (B := T21.setTop (mkF m 177 _ [])) (fun t k => XS.astore X21.here hx rfl (hb hby at_175) rfl rfl (l' := #[lv_ x1, s_, lv_ x2, s_, iv x3, iv x4, iv x5, iv (x5 &&& (3 : Int32)), lv_ y8, s_, iv (0 : Int32), iv ca0, iv ca1, iv (0 : Int32), iv cd0, iv cd1, rv bs12, rv bs16, rv b18, u_, u_, u_, u_]) rfl k) ?_
              obtain ⟨T23, h23, X23, e23, E23, A23, D23, U23, st23⟩ := newO X21 hx hZ21 hown21 (own_hw hw 12 rfl) (own_hw hw 13 rfl) (own_hw hw 14 rfl) rfl (g := (mkF m 177 #[lv_ x1, s_, lv_ x2, s_, iv x3, iv x4, iv x5, iv (x5 &&& (3 : Int32)), lv_ y8, s_, iv (0 : Int32), iv ca0, iv ca1, iv (0 : Int32), iv cd0, iv cd1, rv bs12, rv bs16, rv b18, u_, u_, u_, u_] [])) rfl (hb hby at_177) (by decide) (by decide)
              obtain ⟨b23, g23⟩ : ∃ z, z = T21.heap.size := ⟨_, rfl⟩
              rw [← g23] at A23 D23 U23 st23
              have gn23 : n0 ≤ b23 := Nat.le_trans (old_le ((((O0.keep K12 all0).keep K16 all0).ext E18).keep K21 (allS gn18 all0))) (Nat.le_of_eq g23.symm)
              have hq24 := CHr.ext E23 hR22.1
              have hR24 := CHr.trans hR22 hq24
              have sf25 := Safe.ext E23 hR22.1 (Safe.new (Nat.le_of_eq g23.symm))
              have F23_round : Fld Z h23 b23 "com/example/keelson/keelson/cluster/Ballot" "round" "J" (.long (0 : Int64)) := D23 (Or.inr (own_hw hw 32 rfl)) (ty := .long) (by decide)
              have F23_proposer : Fld Z h23 b23 "com/example/keelson/keelson/cluster/Ballot" "proposer" "Ljava/lang/String;" .null := D23 (Or.inr (own_hw hw 34 rfl)) (ty := (.object "java/lang/String")) (by decide)
              refine Goes.via (B := T23.setTop (mkF m 180 #[lv_ x1, s_, lv_ x2, s_, iv x3, iv x4, iv x5, iv (x5 &&& (3 : Int32)), lv_ y8, s_, iv (0 : Int32), iv ca0, iv ca1, iv (0 : Int32), iv cd0, iv cd1, rv bs12, rv bs16, rv b18, u_, u_, u_, u_] [(.ref b23)])) (fun t k => st23 _ k) ?_
              refine Goes.via (B := T23.setTop (mkF m 181 _ [(.ref b23), (.ref b23)])) (fun t k => XS.dup X23.here hx rfl (hb hby at_180) rfl rfl k) ?_
              refine Goes.via (B := T23.setTop (mkF m 183 _ [(.long y8), (.ref b23), (.ref b23)])) (fun t k => XS.lload X23.here hx rfl (hb hby at_181) rfl k) ?_
              refine Goes.via (B := T23.setTop (mkF m 185 _ [(.ref bs16), (.long y8), (.ref b23), (.ref b23)])) (fun t k => XS.aload X23.here hx rfl (hb hby at_183) rfl rfl k) ?_
              obtain ⟨_, T26, L26, X26, hS26, hZ26, hown26, hC26, ⟨rfl, M26, K26, f26_0, f26_1, f26_2⟩, st26⟩ := callInitH X23 hx hZ21 hS21 (Nat.le_trans (Nat.le_refl _) E23.1) hEL hR24.1 (sf := []) all0 rfl hown21 (own_hw hw 15 rfl) (own_hw hw 16 rfl) (own_hw hw 14 rfl) (own_hw hw 17 rfl) (by decide) (argsL := [(.long y8), (.ref bs16)]) (rest := [(.ref b23)]) (own_m10 l Z a0 hw [] b23 y8 bs16 h23 n0 (((((O0.keep K12 all0).keep K16 all0).ext E18).keep K21 (allS gn18 all0)).ext E23) gn23 A23 F23_round F23_proposer) e23 (lenOf own_pd17 rfl) (pc := 185) (Ls := #[lv_ x1, s_, lv_ x2, s_, iv x3, iv x4, iv x5, iv (x5 &&& (3 : Int32)), lv_ y8, s_, iv (0 : Int32), iv ca0, iv ca1, iv (0 : Int32), iv cd0, iv cd1, rv bs12, rv bs16, rv b18, u_, u_, u_, u_]) (st := [(.ref bs16), (.long y8), (.ref b23), (.ref b23)]) rfl (by rw [hml]; rfl) (hb hby at_185) (W := 1) (Nat.le_of_eq rfl) (by decide) (by decide) (by decide) (by decide)
              have N26 := Fr.app N21 M26
              have hq27 := hC26
              have hR27 := CHr.trans hR24 hq27
              refine Goes.via (B := T26.setTop (mkF m 188 #[lv_ x1, s_, lv_ x2, s_, iv x3, iv x4, iv x5, iv (x5 &&& (3 : Int32)), lv_ y8, s_, iv (0 : Int32), iv ca0, iv ca1, iv (0 : Int32), iv cd0, iv cd1, rv bs12, rv bs16, rv b18, u_, u_, u_, u_] [(.ref b23)])) (fun t k => st26 _ k) ?_
              refine Goes.via (B := T26.setTop (mkF m 190 _ [])) (fun t k => XS.astore X26.here hx rfl (hb hby at_188) rfl rfl (l' := #[lv_ x1, s_, lv_ x2, s_, iv x3, iv x4, iv x5, iv (x5 &&& (3 : Int32)), lv_ y8, s_, iv (0 : Int32), iv ca0, iv ca1, iv (0 : Int32), iv cd0, iv cd1, rv bs12, rv bs16, rv b18, rv b23, u_, u_, u_]) rfl k) ?_
              refine Goes.via (B := T26.setTop (mkF m 191 _ [(.long x1)])) (fun t k => XS.lloadN X26.here hx rfl (hb hby at_190) rfl k) ?_
              refine Goes.via (B := T26.setTop (mkF m 193 _ [(.long y8), (.long x1)])) (fun t k => XS.lload X26.here hx rfl (hb hby at_191) rfl k) ?_
              refine Goes.via (B := T26.setTop (mkF m 194 _ [(.int (XT.cmpL x1 y8))])) (fun t k => XT.lcmp X26.here hx rfl (hb hby at_193) rfl k) ?_
              have j28 : ∀ (T29 : State) (lc29 : List Loc) (X29 : Stand p l e room_1 (s.setVm T29.vm) m #[(.long x1), (.long x2), (.int x3), (.int x4), (.int x5)] below meth c T29 lc29 10 84) (e29 : T29.heap = T26.heap) (N29 : Fr n0 lc29) (hS29 : s.Since T29.vm T26.heap.size) (hZ29 : Z.Warmed39 T29.vm) (hown29 : T29.vm.findClass "com/example/keelson/keelson/cluster/BallotCompareToPinLaw" = some m.cls) (hR29 : CHr Z consts_1 s.vm s.heap T29.vm T26.heap) (exq : Int32) (hex : exq = own_exp x1 y8 (0 : Int32) ca0 ca1 (0 : Int32) cd0 cd1) , Goes p.tables e below (fun t o => ∃ v L, o = .returned v ∧ (own_Q64 Z x1 x2 x3 x4 x5 z0 h0 n0) v t.heap L ∧ EndH Z consts_1 s o t L (room_1).cells (room_1).slots) (T29.setTop (mkF m 233 #[lv_ x1, s_, lv_ x2, s_, iv x3, iv x4, iv x5, iv (x5 &&& (3 : Int32)), lv_ y8, s_, iv (0 : Int32), iv ca0, iv ca1, iv (0 : Int32), iv cd0, iv cd1, rv bs12, rv bs16, rv b18, rv b23, iv exq, u_, u_] [])) := by
                intro T29 lc29 X29 e29 N29 hS29 hZ29 hown29 hR29 exq hex
                refine Goes.via (B := T29.setTop (mkF m 235 _ [(.ref b18)])) (fun t k => XS.aload X29.here hx rfl (hb hby at_233) rfl rfl k) ?_
                refine Goes.via (B := T29.setTop (mkF m 237 _ [(.ref b23), (.ref b18)])) (fun t k => XS.aload X29.here hx rfl (hb hby at_235) rfl rfl k) ?_
                have c31 : Fld Z T26.heap b18 "com/example/keelson/keelson/cluster/Ballot" "round" "J" (.long x1) := ((f21_1.ext E23).keep K26 (ninS (Nat.ne_of_lt (Nat.lt_of_lt_of_le (Nat.le_trans A18.lt K21.1) (Nat.le_of_eq g23.symm))) nin0))
                have c32 : Fld Z T26.heap b18 "com/example/keelson/keelson/cluster/Ballot" "proposer" "Ljava/lang/String;" (.ref bs12) := ((f21_2.ext E23).keep K26 (ninS (Nat.ne_of_lt (Nat.lt_of_lt_of_le (Nat.le_trans A18.lt K21.1) (Nat.le_of_eq g23.symm))) nin0))
                have c33 : Fld Z T26.heap bs12 "java/lang/String" "value" "[B" (.ref ts12) := (((((f12_1.keep K16 nin0).ext E18).keep K21 (ninS (Nat.ne_of_lt (Nat.lt_of_lt_of_le (Nat.le_trans f12_0.lt K16.1) (Nat.le_of_eq g18.symm))) nin0)).ext E23).keep K26 (ninS (Nat.ne_of_lt (Nat.lt_of_lt_of_le (Nat.le_trans (Nat.le_trans (Nat.le_trans f12_0.lt K16.1) E18.1) K21.1) (Nat.le_of_eq g23.symm))) nin0))
                have c34 : Fld Z T26.heap bs12 "java/lang/String" "coder" "B" (.int (0 : Int32)) := (((((f12_2.keep K16 nin0).ext E18).keep K21 (ninS (Nat.ne_of_lt (Nat.lt_of_lt_of_le (Nat.le_trans f12_0.lt K16.1) (Nat.le_of_eq g18.symm))) nin0)).ext E23).keep K26 (ninS (Nat.ne_of_lt (Nat.lt_of_lt_of_le (Nat.le_trans (Nat.le_trans (Nat.le_trans f12_0.lt K16.1) E18.1) K21.1) (Nat.le_of_eq g23.symm))) nin0))
                have c35 : Fld Z T26.heap bs16 "java/lang/String" "value" "[B" (.ref ts16) := ((((f16_1.ext E18).keep K21 (ninS (Nat.ne_of_lt (Nat.lt_of_lt_of_le f16_0.lt (Nat.le_of_eq g18.symm))) nin0)).ext E23).keep K26 (ninS (Nat.ne_of_lt (Nat.lt_of_lt_of_le (Nat.le_trans (Nat.le_trans f16_0.lt E18.1) K21.1) (Nat.le_of_eq g23.symm))) nin0))
                have c36 : Fld Z T26.heap bs16 "java/lang/String" "coder" "B" (.int (0 : Int32)) := ((((f16_2.ext E18).keep K21 (ninS (Nat.ne_of_lt (Nat.lt_of_lt_of_le f16_0.lt (Nat.le_of_eq g18.symm))) nin0)).ext E23).keep K26 (ninS (Nat.ne_of_lt (Nat.lt_of_lt_of_le (Nat.le_trans (Nat.le_trans f16_0.lt E18.1) K21.1) (Nat.le_of_eq g23.symm))) nin0))
                have c37 : Arv Z T26.heap ts12 ks12 .byte (0 : Int32) [] (.int (0 : Int32)) := (((((f12_3.keep K16 nin0).ext E18).keep K21 (ninS (Nat.ne_of_lt (Nat.lt_of_lt_of_le (Nat.le_trans f12_3.lt K16.1) (Nat.le_of_eq g18.symm))) nin0)).ext E23).keep K26 (ninS (Nat.ne_of_lt (Nat.lt_of_lt_of_le (Nat.le_trans (Nat.le_trans (Nat.le_trans f12_3.lt K16.1) E18.1) K21.1) (Nat.le_of_eq g23.symm))) nin0))
                have c38 : Arv Z T26.heap ts16 ks16 .byte (0 : Int32) [] (.int (0 : Int32)) := ((((f16_3.ext E18).keep K21 (ninS (Nat.ne_of_lt (Nat.lt_of_lt_of_le f16_3.lt (Nat.le_of_eq g18.symm))) nin0)).ext E23).keep K26 (ninS (Nat.ne_of_lt (Nat.lt_of_lt_of_le (Nat.le_trans (Nat.le_trans f16_3.lt E18.1) K21.1) (Nat.le_of_eq g23.symm))) nin0))
                obtain ⟨_, T30, L30, X30, ⟨r30, rfl, M30, K30, p30_0⟩, st30⟩ := callVirt X29 hx hZ29 hown29 (own_hw hw 35 rfl) (own_hw hw 36 rfl) (own_hw hw 38 rfl) (notFace_of_selects (args := #[]) (mvT hZ29 (own_hw hw 38 rfl))) (own_hw hw 37 rfl) (own_hw hw 14 rfl) (own_hw hw 39 rfl) (by decide) (argsL := [(.ref b23)]) (rest := []) (own_m23 l Z a0 hw [] b18 b23 x1 y8 bs12 bs16 z0 ts12 ks12 ts16 ks16 ca0 ca1 cd0 cd1 T26.heap n0 ((((((O0.keep K12 all0).keep K16 all0).ext E18).keep K21 (allS gn18 all0)).ext E23).keep K26 (allS gn23 all0)) hz0 hca0 hca1 hcd0 hcd1 O_1 ((f21_0.ext E23).keep K26) c31 c32 f26_0 f26_1 f26_2 (((((f12_0.keep K16).ext E18).keep K21).ext E23).keep K26) c33 c34 ((((f16_0.ext E18).keep K21).ext E23).keep K26) c35 c36 c37 c38) e29 ((f21_0.ext E23).keep K26) (lenOf own_pd18 rfl) (pc := 237) (Ls := #[lv_ x1, s_, lv_ x2, s_, iv x3, iv x4, iv x5, iv (x5 &&& (3 : Int32)), lv_ y8, s_, iv (0 : Int32), iv ca0, iv ca1, iv (0 : Int32), iv cd0, iv cd1, rv bs12, rv bs16, rv b18, rv b23, iv exq, u_, u_]) (st := [(.ref b23), (.ref b18)]) rfl (by rw [hml]; rfl) (hb hby at_237) (W := 0) (Nat.le_of_eq rfl) (by decide) (by decide) (by decide) (by decide)
                have N30 := Fr.app N29 M30
                refine Goes.via (B := T30.setTop (mkF m 240 #[lv_ x1, s_, lv_ x2, s_, iv x3, iv x4, iv x5, iv (x5 &&& (3 : Int32)), lv_ y8, s_, iv (0 : Int32), iv ca0, iv ca1, iv (0 : Int32), iv cd0, iv cd1, rv bs12, rv bs16, rv b18, rv b23, iv exq, u_, u_] [(.int r30)])) (fun t k => st30 _ k) ?_
                refine Goes.via (B := T30.setTop (mkF m 241 _ [(.long (r30.toInt64))])) (fun t k => XS.i2l X30.here hx rfl (hb hby at_240) rfl k) ?_
                obtain ⟨_, T39, L39, X39, ⟨r39, rfl, M39, K39, p39_0⟩, st39⟩ := callStatic X30 hx hZ29 hown29 (own_hw hw 44 rfl) (own_hw hw 45 rfl) (own_hw hw 2 rfl) (own_hw hw 46 rfl) (by decide) (argsL := [(.long (r30.toInt64))]) (rest := []) (own_m12 l Z a0 hw [] r30.toInt64 T26.heap n0 ((((((O0.keep K12 all0).keep K16 all0).ext E18).keep K21 (allS gn18 all0)).ext E23).keep K26 (allS gn23 all0)) ) K30 (lenOf own_pd7 rfl) (pc := 241) (Ls := #[lv_ x1, s_, lv_ x2, s_, iv x3, iv x4, iv x5, iv (x5 &&& (3 : Int32)), lv_ y8, s_, iv (0 : Int32), iv ca0, iv ca1, iv (0 : Int32), iv cd0, iv cd1, rv bs12, rv bs16, rv b18, rv b23, iv exq, u_, u_]) (st := [(.long (r30.toInt64))]) rfl (by rw [hml]; rfl) (hb hby at_241) (W := 0) (Nat.le_of_eq rfl) (by decide) (by decide) (by decide) (by decide)
                have N39 := Fr.app N30 M39
                refine Goes.via (B := T39.setTop (mkF m 244 #[lv_ x1, s_, lv_ x2, s_, iv x3, iv x4, iv x5, iv (x5 &&& (3 : Int32)), lv_ y8, s_, iv (0 : Int32), iv ca0, iv ca1, iv (0 : Int32), iv cd0, iv cd1, rv bs12, rv bs16, rv b18, rv b23, iv exq, u_, u_] [(.int r39)])) (fun t k => st39 _ k) ?_
                refine Goes.via (B := T39.setTop (mkF m 246 _ [])) (fun t k => XS.istore X39.here hx rfl (hb hby at_244) rfl (l' := #[lv_ x1, s_, lv_ x2, s_, iv x3, iv x4, iv x5, iv (x5 &&& (3 : Int32)), lv_ y8, s_, iv (0 : Int32), iv ca0, iv ca1, iv (0 : Int32), iv cd0, iv cd1, rv bs12, rv bs16, rv b18, rv b23, iv exq, iv r39, u_]) rfl k) ?_
                refine Goes.via (B := T39.setTop (mkF m 248 _ [(.ref b23)])) (fun t k => XS.aload X39.here hx rfl (hb hby at_246) rfl rfl k) ?_
                refine Goes.via (B := T39.setTop (mkF m 250 _ [(.ref b18), (.ref b23)])) (fun t k => XS.aload X39.here hx rfl (hb hby at_248) rfl rfl k) ?_
                obtain ⟨_, T40, L40, X40, ⟨r40, rfl, M40, K40, p40_0⟩, st40⟩ := callVirt X39 hx hZ29 hown29 (own_hw hw 35 rfl) (own_hw hw 36 rfl) (own_hw hw 38 rfl) (notFace_of_selects (args := #[]) (mvT hZ29 (own_hw hw 38 rfl))) (own_hw hw 37 rfl) (own_hw hw 14 rfl) (own_hw hw 39 rfl) (by decide) (argsL := [(.ref b18)]) (rest := []) (own_m23 l Z a0 hw [] b23 b18 y8 x1 bs16 bs12 z0 ts16 ks16 ts12 ks12 cd0 cd1 ca0 ca1 T26.heap n0 ((((((O0.keep K12 all0).keep K16 all0).ext E18).keep K21 (allS gn18 all0)).ext E23).keep K26 (allS gn23 all0)) hz0 hcd0 hcd1 hca0 hca1 O_1 f26_0 f26_1 f26_2 ((f21_0.ext E23).keep K26) c31 c32 ((((f16_0.ext E18).keep K21).ext E23).keep K26) c35 c36 (((((f12_0.keep K16).ext E18).keep K21).ext E23).keep K26) c33 c34 c38 c37) K39 f26_0 (lenOf own_pd18 rfl) (pc := 250) (Ls := #[lv_ x1, s_, lv_ x2, s_, iv x3, iv x4, iv x5, iv (x5 &&& (3 : Int32)), lv_ y8, s_, iv (0 : Int32), iv ca0, iv ca1, iv (0 : Int32), iv cd0, iv cd1, rv bs12, rv bs16, rv b18, rv b23, iv exq, iv r39, u_]) (st := [(.ref b18), (.ref b23)]) rfl (by rw [hml]; rfl) (hb hby at_250) (W := 0) (Nat.le_of_eq rfl) (by decide) (by decide) (by decide) (by decide)
                have N40 := Fr.app N39 M40
                refine Goes.via (B := T40.setTop (mkF m 253 #[lv_ x1, s_, lv_ x2, s_, iv x3, iv x4, iv x5, iv (x5 &&& (3 : Int32)), lv_ y8, s_, iv (0 : Int32), iv ca0, iv ca1, iv (0 : Int32), iv cd0, iv cd1, rv bs12, rv bs16, rv b18, rv b23, iv exq, iv r39, u_] [(.int r40)])) (fun t k => st40 _ k) ?_
                refine Goes.via (B := T40.setTop (mkF m 254 _ [(.long (r40.toInt64))])) (fun t k => XS.i2l X40.here hx rfl (hb hby at_253) rfl k) ?_
                obtain ⟨_, T41, L41, X41, ⟨r41, rfl, M41, K41, p41_0⟩, st41⟩ := callStatic X40 hx hZ29 hown29 (own_hw hw 44 rfl) (own_hw hw 45 rfl) (own_hw hw 2 rfl) (own_hw hw 46 rfl) (by decide) (argsL := [(.long (r40.toInt64))]) (rest := []) (own_m12 l Z a0 hw [] r40.toInt64 T26.heap n0 ((((((O0.keep K12 all0).keep K16 all0).ext E18).keep K21 (allS gn18 all0)).ext E23).keep K26 (allS gn23 all0)) ) K40 (lenOf own_pd7 rfl) (pc := 254) (Ls := #[lv_ x1, s_, lv_ x2, s_, iv x3, iv x4, iv x5, iv (x5 &&& (3 : Int32)), lv_ y8, s_, iv (0 : Int32), iv ca0, iv ca1, iv (0 : Int32), iv cd0, iv cd1, rv bs12, rv bs16, rv b18, rv b23, iv exq, iv r39, u_]) (st := [(.long (r40.toInt64))]) rfl (by rw [hml]; rfl) (hb hby at_254) (W := 0) (Nat.le_of_eq rfl) (by decide) (by decide) (by decide) (by decide)
                have N41 := Fr.app N40 M41
                refine Goes.via (B := T41.setTop (mkF m 257 #[lv_ x1, s_, lv_ x2, s_, iv x3, iv x4, iv x5, iv (x5 &&& (3 : Int32)), lv_ y8, s_, iv (0 : Int32), iv ca0, iv ca1, iv (0 : Int32), iv cd0, iv cd1, rv bs12, rv bs16, rv b18, rv b23, iv exq, iv r39, u_] [(.int r41)])) (fun t k => st41 _ k) ?_
                refine Goes.via (B := T41.setTop (mkF m 259 _ [])) (fun t k => XS.istore X41.here hx rfl (hb hby at_257) rfl (l' := #[lv_ x1, s_, lv_ x2, s_, iv x3, iv x4, iv x5, iv (x5 &&& (3 : Int32)), lv_ y8, s_, iv (0 : Int32), iv ca0, iv ca1, iv (0 : Int32), iv cd0, iv cd1, rv bs12, rv bs16, rv b18, rv b23, iv exq, iv r39, iv r41]) rfl k) ?_
                refine Goes.via (B := T41.setTop (mkF m 261 _ [(.int r39)])) (fun t k => XS.iload X41.here hx rfl (hb hby at_259) rfl k) ?_
                refine Goes.via (B := T41.setTop (mkF m 263 _ [(.int exq), (.int r39)])) (fun t k => XS.iload X41.here hx rfl (hb hby at_261) rfl k) ?_
                refine Goes.via (B := T41.setTop (mkF m 266 _ [])) (fun t k => XS.icmpNo X41.here hx rfl (hb hby at_263) rfl (XT.ii_ne_f (p39_0.trans ((own_sgl _).trans (p30_0.trans hex.symm)))) k) ?_
                refine Goes.via (B := T41.setTop (mkF m 268 _ [(.int r41)])) (fun t k => XS.iload X41.here hx rfl (hb hby at_266) rfl k) ?_
                refine Goes.via (B := T41.setTop (mkF m 270 _ [(.int exq), (.int r41)])) (fun t k => XS.iload X41.here hx rfl (hb hby at_268) rfl k) ?_
                refine Goes.via (B := T41.setTop (mkF m 271 _ [(.int (-exq)), (.int r41)])) (fun t k => XS.ineg X41.here hx rfl (hb hby at_270) rfl k) ?_
                refine Goes.via (B := T41.setTop (mkF m 274 _ [])) (fun t k => XS.icmpNo X41.here hx rfl (hb hby at_271) rfl (XT.ii_ne_f (by rw [p41_0, own_sgl, p40_0, hex]; exact own_antiE _ _ _ _ _ _ _ _ (by decide) (by decide))) k) ?_
                refine Goes.via (B := T41.setTop (mkF m 275 _ [(.int (1 : Int32))])) (fun t k => XS.iconst X41.here hx rfl (hb hby at_274) k) ?_
                refine Goes.via (B := T41.setTop (mkF m 279 _ [(.int (1 : Int32))])) (fun t k => XS.goto X41.here hx rfl (pc0 := 275) (pc' := 279) rfl (hb hby at_275) (by decide) (by decide) k) ?_
                exact finN (Q := (own_Q64 Z x1 x2 x3 x4 x5 z0 h0 n0)) (F := EndH Z consts_1) (C := (room_1).cells) (S := (room_1).slots) X41 hx (t := .boolean) Bd.returns (by simp) (z' := (1 : Int32)) rfl (hb hby at_279) K41 ⟨rfl, N41, trivial⟩ (lvH X41 hlk hS29 K41 (Nat.le_refl _) hZ29 hEL hR29 (by decide) (by decide))
              by_cases b42 : x1 < y8
              · refine Goes.via (B := T26.setTop (mkF m 197 _ [])) (fun t k => XS.ifNo X26.here hx rfl (hb hby at_194) rfl (XT.ll_ge_f b42) k) ?_
                refine Goes.via (B := T26.setTop (mkF m 198 _ [(.int (-1 : Int32))])) (fun t k => XS.iconst X26.here hx rfl (hb hby at_197) k) ?_
                refine Goes.via (B := T26.setTop (mkF m 200 _ [])) (fun t k => XS.istore X26.here hx rfl (hb hby at_198) rfl (l' := #[lv_ x1, s_, lv_ x2, s_, iv x3, iv x4, iv x5, iv (x5 &&& (3 : Int32)), lv_ y8, s_, iv (0 : Int32), iv ca0, iv ca1, iv (0 : Int32), iv cd0, iv cd1, rv bs12, rv bs16, rv b18, rv b23, iv (-1 : Int32), u_, u_]) rfl k) ?_
                refine Goes.via (B := T26.setTop (mkF m 233 _ [])) (fun t k => XS.goto X26.here hx rfl (pc0 := 200) (pc' := 233) rfl (hb hby at_200) (by decide) (by decide) k) ?_
                obtain ⟨Xr43, hSr43, hZr43, hor43⟩ := rebase X26 hS26 rfl (Nat.le_refl _) hZ26 hown26
                exact j28 T26 _ Xr43 rfl N26 hSr43 hZr43 hor43 (CHr.trans hR27 (CHv.at X26 hZ26 hEL hR27.1)) (-1 : Int32) (by unfold own_exp; rw [if_pos b42])
              · refine Goes.via (B := T26.setTop (mkF m 203 _ [])) (fun t k => XS.ifYes X26.here hx rfl (pc0 := 194) (pc' := 203) rfl (hb hby at_194) rfl (XT.ll_ge_t b42) (by decide) (by decide) k) ?_
                refine Goes.via (B := T26.setTop (mkF m 204 _ [(.long x1)])) (fun t k => XS.lloadN X26.here hx rfl (hb hby at_203) rfl k) ?_
                refine Goes.via (B := T26.setTop (mkF m 206 _ [(.long y8), (.long x1)])) (fun t k => XS.lload X26.here hx rfl (hb hby at_204) rfl k) ?_
                refine Goes.via (B := T26.setTop (mkF m 207 _ [(.int (XT.cmpL x1 y8))])) (fun t k => XT.lcmp X26.here hx rfl (hb hby at_206) rfl k) ?_
                by_cases b44 : y8 < x1
                · refine Goes.via (B := T26.setTop (mkF m 210 _ [])) (fun t k => XS.ifNo X26.here hx rfl (hb hby at_207) rfl (XT.ll_le_f b44) k) ?_
                  refine Goes.via (B := T26.setTop (mkF m 211 _ [(.int (1 : Int32))])) (fun t k => XS.iconst X26.here hx rfl (hb hby at_210) k) ?_
                  refine Goes.via (B := T26.setTop (mkF m 213 _ [])) (fun t k => XS.istore X26.here hx rfl (hb hby at_211) rfl (l' := #[lv_ x1, s_, lv_ x2, s_, iv x3, iv x4, iv x5, iv (x5 &&& (3 : Int32)), lv_ y8, s_, iv (0 : Int32), iv ca0, iv ca1, iv (0 : Int32), iv cd0, iv cd1, rv bs12, rv bs16, rv b18, rv b23, iv (1 : Int32), u_, u_]) rfl k) ?_
                  refine Goes.via (B := T26.setTop (mkF m 233 _ [])) (fun t k => XS.goto X26.here hx rfl (pc0 := 213) (pc' := 233) rfl (hb hby at_213) (by decide) (by decide) k) ?_
                  obtain ⟨Xr45, hSr45, hZr45, hor45⟩ := rebase X26 hS26 rfl (Nat.le_refl _) hZ26 hown26
                  exact j28 T26 _ Xr45 rfl N26 hSr45 hZr45 hor45 (CHr.trans hR27 (CHv.at X26 hZ26 hEL hR27.1)) (1 : Int32) (by unfold own_exp; rw [if_neg b42, if_pos b44])
                · refine Goes.via (B := T26.setTop (mkF m 216 _ [])) (fun t k => XS.ifYes X26.here hx rfl (pc0 := 207) (pc' := 216) rfl (hb hby at_207) rfl (XT.ll_le_t b44) (by decide) (by decide) k) ?_
                  refine Goes.via (B := T26.setTop (mkF m 218 _ [(.int (0 : Int32))])) (fun t k => XS.iload X26.here hx rfl (hb hby at_216) rfl k) ?_
                  refine Goes.via (B := T26.setTop (mkF m 220 _ [(.int ca0), (.int (0 : Int32))])) (fun t k => XS.iload X26.here hx rfl (hb hby at_218) rfl k) ?_
                  refine Goes.via (B := T26.setTop (mkF m 222 _ [(.int ca1), (.int ca0), (.int (0 : Int32))])) (fun t k => XS.iload X26.here hx rfl (hb hby at_220) rfl k) ?_
                  refine Goes.via (B := T26.setTop (mkF m 224 _ [(.int (0 : Int32)), (.int ca1), (.int ca0), (.int (0 : Int32))])) (fun t k => XS.iload X26.here hx rfl (hb hby at_222) rfl k) ?_
                  refine Goes.via (B := T26.setTop (mkF m 226 _ [(.int cd0), (.int (0 : Int32)), (.int ca1), (.int ca0), (.int (0 : Int32))])) (fun t k => XS.iload X26.here hx rfl (hb hby at_224) rfl k) ?_
                  refine Goes.via (B := T26.setTop (mkF m 228 _ [(.int cd1), (.int cd0), (.int (0 : Int32)), (.int ca1), (.int ca0), (.int (0 : Int32))])) (fun t k => XS.iload X26.here hx rfl (hb hby at_226) rfl k) ?_
                  obtain ⟨_, T46, L46, X46, ⟨r46, rfl, M46, K46, p46_0⟩, st46⟩ := callStatic X26 hx hZ26 hown26 (own_hw hw 47 rfl) (own_hw hw 48 rfl) (own_hw hw 2 rfl) (own_hw hw 49 rfl) (by decide) (argsL := [(.int (0 : Int32)), (.int ca0), (.int ca1), (.int (0 : Int32)), (.int cd0), (.int cd1)]) (rest := []) (own_m13 l Z a0 hw [] (0 : Int32) ca0 ca1 (0 : Int32) cd0 cd1 T26.heap n0 ((((((O0.keep K12 all0).keep K16 all0).ext E18).keep K21 (allS gn18 all0)).ext E23).keep K26 (allS gn23 all0)) ) rfl (lenOf own_pd19 rfl) (pc := 228) (Ls := #[lv_ x1, s_, lv_ x2, s_, iv x3, iv x4, iv x5, iv (x5 &&& (3 : Int32)), lv_ y8, s_, iv (0 : Int32), iv ca0, iv ca1, iv (0 : Int32), iv cd0, iv cd1, rv bs12, rv bs16, rv b18, rv b23, u_, u_, u_]) (st := [(.int cd1), (.int cd0), (.int (0 : Int32)), (.int ca1), (.int ca0), (.int (0 : Int32))]) rfl (by rw [hml]; rfl) (hb hby at_228) (W := 0) (Nat.le_of_eq rfl) (by decide) (by decide) (by decide) (by decide)
                  have N46 := Fr.app N26 M46
                  refine Goes.via (B := T46.setTop (mkF m 231 #[lv_ x1, s_, lv_ x2, s_, iv x3, iv x4, iv x5, iv (x5 &&& (3 : Int32)), lv_ y8, s_, iv (0 : Int32), iv ca0, iv ca1, iv (0 : Int32), iv cd0, iv cd1, rv bs12, rv bs16, rv b18, rv b23, u_, u_, u_] [(.int r46)])) (fun t k => st46 _ k) ?_
                  refine Goes.via (B := T46.setTop (mkF m 233 _ [])) (fun t k => XS.istore X46.here hx rfl (hb hby at_231) rfl (l' := #[lv_ x1, s_, lv_ x2, s_, iv x3, iv x4, iv x5, iv (x5 &&& (3 : Int32)), lv_ y8, s_, iv (0 : Int32), iv ca0, iv ca1, iv (0 : Int32), iv cd0, iv cd1, rv bs12, rv bs16, rv b18, rv b23, iv r46, u_, u_]) rfl k) ?_
                  obtain ⟨Xr47, hSr47, hZr47, hor47⟩ := rebase X46 hS26 K46 (Nat.le_refl _) hZ26 hown26
                  exact j28 T46 _ Xr47 K46 N46 hSr47 hZr47 hor47 (CHr.trans hR27 (CHv.at X46 hZ26 hEL hR27.1)) r46 (by unfold own_exp; rw [if_neg b42, if_neg b44]; exact p46_0)
            · refine Goes.via (B := T12.setTop (mkF m 154 _ [(.int (1 : Int32))])) (fun t k => XS.iload X12.here hx rfl (hb hby at_152) rfl k) ?_
              refine Goes.via (B := T12.setTop (mkF m 156 _ [(.int cd0), (.int (1 : Int32))])) (fun t k => XS.iload X12.here hx rfl (hb hby at_154) rfl k) ?_
              refine Goes.via (B := T12.setTop (mkF m 157 _ [(.int (cd0.toUInt32.toUInt16.toUInt32.toInt32)), (.int (1 : Int32))])) (fun t k => XS.i2c X12.here hx rfl (hb hby at_156) rfl k) ?_
              refine Goes.via (B := T12.setTop (mkF m 159 _ [(.int cd1), (.int (cd0.toUInt32.toUInt16.toUInt32.toInt32)), (.int (1 : Int32))])) (fun t k => XS.iload X12.here hx rfl (hb hby at_157) rfl k) ?_
              refine Goes.via (B := T12.setTop (mkF m 160 _ [(.int (cd1.toUInt32.toUInt16.toUInt32.toInt32)), (.int (cd0.toUInt32.toUInt16.toUInt32.toInt32)), (.int (1 : Int32))])) (fun t k => XS.i2c X12.here hx rfl (hb hby at_159) rfl k) ?_
              have q48 : (cd0.toUInt32.toUInt16.toUInt32.toInt32) = cd0 := own_i2c hcd0
              rw [q48]
              have q49 : (cd1.toUInt32.toUInt16.toUInt32.toInt32) = cd1 := own_i2c hcd1
              rw [q49]
              obtain ⟨_, T50, L50, X50, hS50, hZ50, hown50, hC50, ⟨bs50, ts50, ks50, rfl, M50, K50, f50_0, f50_1, f50_2, f50_3⟩, st50⟩ := callStaticH X12 hx hZ12 hS12 (Nat.le_refl _) hEL hR13.1 (sf := []) all0 hown12 (own_hw hw 0 rfl) (own_hw hw 1 rfl) (own_hw hw 2 rfl) (own_hw hw 3 rfl) (by decide) (argsL := [(.int (1 : Int32)), (.int cd0), (.int cd1)]) (rest := []) (own_m6 l Z a0 hw [] cd0 cd1 z0 T12.heap n0 (O0.keep K12 all0) hz0 hcd0 hcd1 O_1) rfl (lenOf own_pd16 rfl) (pc := 160) (Ls := #[lv_ x1, s_, lv_ x2, s_, iv x3, iv x4, iv x5, iv (x5 &&& (3 : Int32)), lv_ y8, s_, iv (0 : Int32), iv ca0, iv ca1, iv (1 : Int32), iv cd0, iv cd1, rv bs12, u_, u_, u_, u_, u_, u_]) (st := [(.int cd1), (.int cd0), (.int (1 : Int32))]) rfl (by rw [hml]; rfl) (hb hby at_160) (W := 0) (Nat.le_of_eq rfl) (by decide) (by decide) (by decide) (by decide)
              have N50 := Fr.app N12 M50
              have hq51 := hC50
              have hR51 := CHr.trans hR13 hq51
              refine Goes.via (B := T50.setTop (mkF m 163 #[lv_ x1, s_, lv_ x2, s_, iv x3, iv x4, iv x5, iv (x5 &&& (3 : Int32)), lv_ y8, s_, iv (0 : Int32), iv ca0, iv ca1, iv (1 : Int32), iv cd0, iv cd1, rv bs12, u_, u_, u_, u_, u_, u_] [(.ref bs50)])) (fun t k => st50 _ k) ?_
              refine Goes.via (B := T50.setTop (mkF m 165 _ [])) (fun t k => XS.astore X50.here hx rfl (hb hby at_163) rfl rfl (l' := #[lv_ x1, s_, lv_ x2, s_, iv x3, iv x4, iv x5, iv (x5 &&& (3 : Int32)), lv_ y8, s_, iv (0 : Int32), iv ca0, iv ca1, iv (1 : Int32), iv cd0, iv cd1, rv bs12, rv bs50, u_, u_, u_, u_, u_]) rfl k) ?_
              obtain ⟨T52, h52, X52, e52, E52, A52, D52, U52, st52⟩ := newO X50 hx hZ50 hown50 (own_hw hw 12 rfl) (own_hw hw 13 rfl) (own_hw hw 14 rfl) rfl (g := (mkF m 165 #[lv_ x1, s_, lv_ x2, s_, iv x3, iv x4, iv x5, iv (x5 &&& (3 : Int32)), lv_ y8, s_, iv (0 : Int32), iv ca0, iv ca1, iv (1 : Int32), iv cd0, iv cd1, rv bs12, rv bs50, u_, u_, u_, u_, u_] [])) rfl (hb hby at_165) (by decide) (by decide)
              obtain ⟨b52, g52⟩ : ∃ z, z = T50.heap.size := ⟨_, rfl⟩
              rw [← g52] at A52 D52 U52 st52
              have gn52 : n0 ≤ b52 := Nat.le_trans (old_le ((O0.keep K12 all0).keep K50 all0)) (Nat.le_of_eq g52.symm)
              have hq53 := CHr.ext E52 hR51.1
              have hR53 := CHr.trans hR51 hq53
              have sf54 := Safe.ext E52 hR51.1 (Safe.new (Nat.le_of_eq g52.symm))
              have F52_round : Fld Z h52 b52 "com/example/keelson/keelson/cluster/Ballot" "round" "J" (.long (0 : Int64)) := D52 (Or.inr (own_hw hw 32 rfl)) (ty := .long) (by decide)
              have F52_proposer : Fld Z h52 b52 "com/example/keelson/keelson/cluster/Ballot" "proposer" "Ljava/lang/String;" .null := D52 (Or.inr (own_hw hw 34 rfl)) (ty := (.object "java/lang/String")) (by decide)
              refine Goes.via (B := T52.setTop (mkF m 168 #[lv_ x1, s_, lv_ x2, s_, iv x3, iv x4, iv x5, iv (x5 &&& (3 : Int32)), lv_ y8, s_, iv (0 : Int32), iv ca0, iv ca1, iv (1 : Int32), iv cd0, iv cd1, rv bs12, rv bs50, u_, u_, u_, u_, u_] [(.ref b52)])) (fun t k => st52 _ k) ?_
              refine Goes.via (B := T52.setTop (mkF m 169 _ [(.ref b52), (.ref b52)])) (fun t k => XS.dup X52.here hx rfl (hb hby at_168) rfl rfl k) ?_
              refine Goes.via (B := T52.setTop (mkF m 170 _ [(.long x1), (.ref b52), (.ref b52)])) (fun t k => XS.lloadN X52.here hx rfl (hb hby at_169) rfl k) ?_
              refine Goes.via (B := T52.setTop (mkF m 172 _ [(.ref bs12), (.long x1), (.ref b52), (.ref b52)])) (fun t k => XS.aload X52.here hx rfl (hb hby at_170) rfl rfl k) ?_
              obtain ⟨_, T55, L55, X55, hS55, hZ55, hown55, hC55, ⟨rfl, M55, K55, f55_0, f55_1, f55_2⟩, st55⟩ := callInitH X52 hx hZ50 hS50 (Nat.le_trans (Nat.le_refl _) E52.1) hEL hR53.1 (sf := []) all0 rfl hown50 (own_hw hw 15 rfl) (own_hw hw 16 rfl) (own_hw hw 14 rfl) (own_hw hw 17 rfl) (by decide) (argsL := [(.long x1), (.ref bs12)]) (rest := [(.ref b52)]) (own_m10 l Z a0 hw [] b52 x1 bs12 h52 n0 (((O0.keep K12 all0).keep K50 all0).ext E52) gn52 A52 F52_round F52_proposer) e52 (lenOf own_pd17 rfl) (pc := 172) (Ls := #[lv_ x1, s_, lv_ x2, s_, iv x3, iv x4, iv x5, iv (x5 &&& (3 : Int32)), lv_ y8, s_, iv (0 : Int32), iv ca0, iv ca1, iv (1 : Int32), iv cd0, iv cd1, rv bs12, rv bs50, u_, u_, u_, u_, u_]) (st := [(.ref bs12), (.long x1), (.ref b52), (.ref b52)]) rfl (by rw [hml]; rfl) (hb hby at_172) (W := 1) (Nat.le_of_eq rfl) (by decide) (by decide) (by decide) (by decide)
              have N55 := Fr.app N50 M55
              have hq56 := hC55
              have hR56 := CHr.trans hR53 hq56
              refine Goes.via (B := T55.setTop (mkF m 175 #[lv_ x1, s_, lv_ x2, s_, iv x3, iv x4, iv x5, iv (x5 &&& (3 : Int32)), lv_ y8, s_, iv (0 : Int32), iv ca0, iv ca1, iv (1 : Int32), iv cd0, iv cd1, rv bs12, rv bs50, u_, u_, u_, u_, u_] [(.ref b52)])) (fun t k => st55 _ k) ?_
              refine Goes.via (B := T55.setTop (mkF m 177 _ [])) (fun t k => XS.astore X55.here hx rfl (hb hby at_175) rfl rfl (l' := #[lv_ x1, s_, lv_ x2, s_, iv x3, iv x4, iv x5, iv (x5 &&& (3 : Int32)), lv_ y8, s_, iv (0 : Int32), iv ca0, iv ca1, iv (1 : Int32), iv cd0, iv cd1, rv bs12, rv bs50, rv b52, u_, u_, u_, u_]) rfl k) ?_
              obtain ⟨T57, h57, X57, e57, E57, A57, D57, U57, st57⟩ := newO X55 hx hZ55 hown55 (own_hw hw 12 rfl) (own_hw hw 13 rfl) (own_hw hw 14 rfl) rfl (g := (mkF m 177 #[lv_ x1, s_, lv_ x2, s_, iv x3, iv x4, iv x5, iv (x5 &&& (3 : Int32)), lv_ y8, s_, iv (0 : Int32), iv ca0, iv ca1, iv (1 : Int32), iv cd0, iv cd1, rv bs12, rv bs50, rv b52, u_, u_, u_, u_] [])) rfl (hb hby at_177) (by decide) (by decide)
              obtain ⟨b57, g57⟩ : ∃ z, z = T55.heap.size := ⟨_, rfl⟩
              rw [← g57] at A57 D57 U57 st57
              have gn57 : n0 ≤ b57 := Nat.le_trans (old_le ((((O0.keep K12 all0).keep K50 all0).ext E52).keep K55 (allS gn52 all0))) (Nat.le_of_eq g57.symm)
              have hq58 := CHr.ext E57 hR56.1
              have hR58 := CHr.trans hR56 hq58
              have sf59 := Safe.ext E57 hR56.1 (Safe.new (Nat.le_of_eq g57.symm))
              have F57_round : Fld Z h57 b57 "com/example/keelson/keelson/cluster/Ballot" "round" "J" (.long (0 : Int64)) := D57 (Or.inr (own_hw hw 32 rfl)) (ty := .long) (by decide)
              have F57_proposer : Fld Z h57 b57 "com/example/keelson/keelson/cluster/Ballot" "proposer" "Ljava/lang/String;" .null := D57 (Or.inr (own_hw hw 34 rfl)) (ty := (.object "java/lang/String")) (by decide)
              refine Goes.via (B := T57.setTop (mkF m 180 #[lv_ x1, s_, lv_ x2, s_, iv x3, iv x4, iv x5, iv (x5 &&& (3 : Int32)), lv_ y8, s_, iv (0 : Int32), iv ca0, iv ca1, iv (1 : Int32), iv cd0, iv cd1, rv bs12, rv bs50, rv b52, u_, u_, u_, u_] [(.ref b57)])) (fun t k => st57 _ k) ?_
              refine Goes.via (B := T57.setTop (mkF m 181 _ [(.ref b57), (.ref b57)])) (fun t k => XS.dup X57.here hx rfl (hb hby at_180) rfl rfl k) ?_
              refine Goes.via (B := T57.setTop (mkF m 183 _ [(.long y8), (.ref b57), (.ref b57)])) (fun t k => XS.lload X57.here hx rfl (hb hby at_181) rfl k) ?_
              refine Goes.via (B := T57.setTop (mkF m 185 _ [(.ref bs50), (.long y8), (.ref b57), (.ref b57)])) (fun t k => XS.aload X57.here hx rfl (hb hby at_183) rfl rfl k) ?_
              obtain ⟨_, T60, L60, X60, hS60, hZ60, hown60, hC60, ⟨rfl, M60, K60, f60_0, f60_1, f60_2⟩, st60⟩ := callInitH X57 hx hZ55 hS55 (Nat.le_trans (Nat.le_refl _) E57.1) hEL hR58.1 (sf := []) all0 rfl hown55 (own_hw hw 15 rfl) (own_hw hw 16 rfl) (own_hw hw 14 rfl) (own_hw hw 17 rfl) (by decide) (argsL := [(.long y8), (.ref bs50)]) (rest := [(.ref b57)]) (own_m10 l Z a0 hw [] b57 y8 bs50 h57 n0 (((((O0.keep K12 all0).keep K50 all0).ext E52).keep K55 (allS gn52 all0)).ext E57) gn57 A57 F57_round F57_proposer) e57 (lenOf own_pd17 rfl) (pc := 185) (Ls := #[lv_ x1, s_, lv_ x2, s_, iv x3, iv x4, iv x5, iv (x5 &&& (3 : Int32)), lv_ y8, s_, iv (0 : Int32), iv ca0, iv ca1, iv (1 : Int32), iv cd0, iv cd1, rv bs12, rv bs50, rv b52, u_, u_, u_, u_]) (st := [(.ref bs50), (.long y8), (.ref b57), (.ref b57)]) rfl (by rw [hml]; rfl) (hb hby at_185) (W := 1) (Nat.le_of_eq rfl) (by decide) (by decide) (by decide) (by decide)
              have N60 := Fr.app N55 M60
              have hq61 := hC60
              have hR61 := CHr.trans hR58 hq61
              refine Goes.via (B := T60.setTop (mkF m 188 #[lv_ x1, s_, lv_ x2, s_, iv x3, iv x4, iv x5, iv (x5 &&& (3 : Int32)), lv_ y8, s_, iv (0 : Int32), iv ca0, iv ca1, iv (1 : Int32), iv cd0, iv cd1, rv bs12, rv bs50, rv b52, u_, u_, u_, u_] [(.ref b57)])) (fun t k => st60 _ k) ?_
              refine Goes.via (B := T60.setTop (mkF m 190 _ [])) (fun t k => XS.astore X60.here hx rfl (hb hby at_188) rfl rfl (l' := #[lv_ x1, s_, lv_ x2, s_, iv x3, iv x4, iv x5, iv (x5 &&& (3 : Int32)), lv_ y8, s_, iv (0 : Int32), iv ca0, iv ca1, iv (1 : Int32), iv cd0, iv cd1, rv bs12, rv bs50, rv b52, rv b57, u_, u_, u_]) rfl k) ?_
              refine Goes.via (B := T60.setTop (mkF m 191 _ [(.long x1)])) (fun t k => XS.lloadN X60.here hx rfl (hb hby at_190) rfl k) ?_
              refine Goes.via (B := T60.setTop (mkF m 193 _ [(.long y8), (.long x1)])) (fun t k => XS.lload X60.here hx rfl (hb hby at_191) rfl k) ?_
              refine Goes.via (B := T60.setTop (mkF m 194 _ [(.int (XT.cmpL x1 y8))])) (fun t k => XT.lcmp X60.here hx rfl (hb hby at_193) rfl k) ?_
              have j62 : ∀ (T63 : State) (lc63 : List Loc) (X63 : Stand p l e room_1 (s.setVm T63.vm) m #[(.long x1), (.long x2), (.int x3), (.int x4), (.int x5)] below meth c T63 lc63 10 85) (e63 : T63.heap = T60.heap) (N63 : Fr n0 lc63) (hS63 : s.Since T63.vm T60.heap.size) (hZ63 : Z.Warmed39 T63.vm) (hown63 : T63.vm.findClass "com/example/keelson/keelson/cluster/BallotCompareToPinLaw" = some m.cls) (hR63 : CHr Z consts_1 s.vm s.heap T63.vm T60.heap) (exq : Int32) (hex : exq = own_exp x1 y8 (0 : Int32) ca0 ca1 (1 : Int32) cd0 cd1) , Goes p.tables e below (fun t o => ∃ v L, o = .returned v ∧ (own_Q64 Z x1 x2 x3 x4 x5 z0 h0 n0) v t.heap L ∧ EndH Z consts_1 s o t L (room_1).cells (room_1).slots) (T63.setTop (mkF m 233 #[lv_ x1, s_, lv_ x2, s_, iv x3, iv x4, iv x5, iv (x5 &&& (3 : Int32)), lv_ y8, s_, iv (0 : Int32), iv ca0, iv ca1, iv (1 : Int32), iv cd0, iv cd1, rv bs12, rv bs50, rv b52, rv b57, iv exq, u_, u_] [])) := by
                intro T63 lc63 X63 e63 N63 hS63 hZ63 hown63 hR63 exq hex
                refine Goes.via (B := T63.setTop (mkF m 235 _ [(.ref b52)])) (fun t k => XS.aload X63.here hx rfl (hb hby at_233) rfl rfl k) ?_
                refine Goes.via (B := T63.setTop (mkF m 237 _ [(.ref b57), (.ref b52)])) (fun t k => XS.aload X63.here hx rfl (hb hby at_235) rfl rfl k) ?_
                have c65 : Fld Z T60.heap b52 "com/example/keelson/keelson/cluster/Ballot" "round" "J" (.long x1) := ((f55_1.ext E57).keep K60 (ninS (Nat.ne_of_lt (Nat.lt_of_lt_of_le (Nat.le_trans A52.lt K55.1) (Nat.le_of_eq g57.symm))) nin0))
                have c66 : Fld Z T60.heap b52 "com/example/keelson/keelson/cluster/Ballot" "proposer" "Ljava/lang/String;" (.ref bs12) := ((f55_2.ext E57).keep K60 (ninS (Nat.ne_of_lt (Nat.lt_of_lt_of_le (Nat.le_trans A52.lt K55.1) (Nat.le_of_eq g57.symm))) nin0))
                have c67 : Fld Z T60.heap bs12 "java/lang/String" "value" "[B" (.ref ts12) := (((((f12_1.keep K50 nin0).ext E52).keep K55 (ninS (Nat.ne_of_lt (Nat.lt_of_lt_of_le (Nat.le_trans f12_0.lt K50.1) (Nat.le_of_eq g52.symm))) nin0)).ext E57).keep K60 (ninS (Nat.ne_of_lt (Nat.lt_of_lt_of_le (Nat.le_trans (Nat.le_trans (Nat.le_trans f12_0.lt K50.1) E52.1) K55.1) (Nat.le_of_eq g57.symm))) nin0))
                have c68 : Fld Z T60.heap bs12 "java/lang/String" "coder" "B" (.int (0 : Int32)) := (((((f12_2.keep K50 nin0).ext E52).keep K55 (ninS (Nat.ne_of_lt (Nat.lt_of_lt_of_le (Nat.le_trans f12_0.lt K50.1) (Nat.le_of_eq g52.symm))) nin0)).ext E57).keep K60 (ninS (Nat.ne_of_lt (Nat.lt_of_lt_of_le (Nat.le_trans (Nat.le_trans (Nat.le_trans f12_0.lt K50.1) E52.1) K55.1) (Nat.le_of_eq g57.symm))) nin0))
                have c69 : Fld Z T60.heap bs50 "java/lang/String" "value" "[B" (.ref ts50) := ((((f50_1.ext E52).keep K55 (ninS (Nat.ne_of_lt (Nat.lt_of_lt_of_le f50_0.lt (Nat.le_of_eq g52.symm))) nin0)).ext E57).keep K60 (ninS (Nat.ne_of_lt (Nat.lt_of_lt_of_le (Nat.le_trans (Nat.le_trans f50_0.lt E52.1) K55.1) (Nat.le_of_eq g57.symm))) nin0))
                have c70 : Fld Z T60.heap bs50 "java/lang/String" "coder" "B" (.int (0 : Int32)) := ((((f50_2.ext E52).keep K55 (ninS (Nat.ne_of_lt (Nat.lt_of_lt_of_le f50_0.lt (Nat.le_of_eq g52.symm))) nin0)).ext E57).keep K60 (ninS (Nat.ne_of_lt (Nat.lt_of_lt_of_le (Nat.le_trans (Nat.le_trans f50_0.lt E52.1) K55.1) (Nat.le_of_eq g57.symm))) nin0))
                have c71 : Arv Z T60.heap ts12 ks12 .byte (0 : Int32) [] (.int (0 : Int32)) := (((((f12_3.keep K50 nin0).ext E52).keep K55 (ninS (Nat.ne_of_lt (Nat.lt_of_lt_of_le (Nat.le_trans f12_3.lt K50.1) (Nat.le_of_eq g52.symm))) nin0)).ext E57).keep K60 (ninS (Nat.ne_of_lt (Nat.lt_of_lt_of_le (Nat.le_trans (Nat.le_trans (Nat.le_trans f12_3.lt K50.1) E52.1) K55.1) (Nat.le_of_eq g57.symm))) nin0))
                have c72 : Arv Z T60.heap ts50 ks50 .byte (1 : Int32) [(.int cd0.toInt8.toInt32)] (.int (0 : Int32)) := ((((f50_3.ext E52).keep K55 (ninS (Nat.ne_of_lt (Nat.lt_of_lt_of_le f50_3.lt (Nat.le_of_eq g52.symm))) nin0)).ext E57).keep K60 (ninS (Nat.ne_of_lt (Nat.lt_of_lt_of_le (Nat.le_trans (Nat.le_trans f50_3.lt E52.1) K55.1) (Nat.le_of_eq g57.symm))) nin0))
                obtain ⟨_, T64, L64, X64, ⟨r64, rfl, M64, K64, p64_0⟩, st64⟩ := callVirt X63 hx hZ63 hown63 (own_hw hw 35 rfl) (own_hw hw 36 rfl) (own_hw hw 38 rfl) (notFace_of_selects (args := #[]) (mvT hZ63 (own_hw hw 38 rfl))) (own_hw hw 37 rfl) (own_hw hw 14 rfl) (own_hw hw 39 rfl) (by decide) (argsL := [(.ref b57)]) (rest := []) (own_m28 l Z a0 hw [] b52 b57 x1 y8 bs12 bs50 z0 ts12 ks12 ts50 ks50 ca0 ca1 cd0 cd1 T60.heap n0 ((((((O0.keep K12 all0).keep K50 all0).ext E52).keep K55 (allS gn52 all0)).ext E57).keep K60 (allS gn57 all0)) hz0 hca0 hca1 hcd0 hcd1 O_1 ((f55_0.ext E57).keep K60) c65 c66 f60_0 f60_1 f60_2 (((((f12_0.keep K50).ext E52).keep K55).ext E57).keep K60) c67 c68 ((((f50_0.ext E52).keep K55).ext E57).keep K60) c69 c70 c71 c72) e63 ((f55_0.ext E57).keep K60) (lenOf own_pd18 rfl) (pc := 237) (Ls := #[lv_ x1, s_, lv_ x2, s_, iv x3, iv x4, iv x5, iv (x5 &&& (3 : Int32)), lv_ y8, s_, iv (0 : Int32), iv ca0, iv ca1, iv (1 : Int32), iv cd0, iv cd1, rv bs12, rv bs50, rv b52, rv b57, iv exq, u_, u_]) (st := [(.ref b57), (.ref b52)]) rfl (by rw [hml]; rfl) (hb hby at_237) (W := 0) (Nat.le_of_eq rfl) (by decide) (by decide) (by decide) (by decide)
                have N64 := Fr.app N63 M64
                refine Goes.via (B := T64.setTop (mkF m 240 #[lv_ x1, s_, lv_ x2, s_, iv x3, iv x4, iv x5, iv (x5 &&& (3 : Int32)), lv_ y8, s_, iv (0 : Int32), iv ca0, iv ca1, iv (1 : Int32), iv cd0, iv cd1, rv bs12, rv bs50, rv b52, rv b57, iv exq, u_, u_] [(.int r64)])) (fun t k => st64 _ k) ?_
                refine Goes.via (B := T64.setTop (mkF m 241 _ [(.long (r64.toInt64))])) (fun t k => XS.i2l X64.here hx rfl (hb hby at_240) rfl k) ?_
                obtain ⟨_, T73, L73, X73, ⟨r73, rfl, M73, K73, p73_0⟩, st73⟩ := callStatic X64 hx hZ63 hown63 (own_hw hw 44 rfl) (own_hw hw 45 rfl) (own_hw hw 2 rfl) (own_hw hw 46 rfl) (by decide) (argsL := [(.long (r64.toInt64))]) (rest := []) (own_m12 l Z a0 hw [] r64.toInt64 T60.heap n0 ((((((O0.keep K12 all0).keep K50 all0).ext E52).keep K55 (allS gn52 all0)).ext E57).keep K60 (allS gn57 all0)) ) K64 (lenOf own_pd7 rfl) (pc := 241) (Ls := #[lv_ x1, s_, lv_ x2, s_, iv x3, iv x4, iv x5, iv (x5 &&& (3 : Int32)), lv_ y8, s_, iv (0 : Int32), iv ca0, iv ca1, iv (1 : Int32), iv cd0, iv cd1, rv bs12, rv bs50, rv b52, rv b57, iv exq, u_, u_]) (st := [(.long (r64.toInt64))]) rfl (by rw [hml]; rfl) (hb hby at_241) (W := 0) (Nat.le_of_eq rfl) (by decide) (by decide) (by decide) (by decide)
                have N73 := Fr.app N64 M73
                refine Goes.via (B := T73.setTop (mkF m 244 #[lv_ x1, s_, lv_ x2, s_, iv x3, iv x4, iv x5, iv (x5 &&& (3 : Int32)), lv_ y8, s_, iv (0 : Int32), iv ca0, iv ca1, iv (1 : Int32), iv cd0, iv cd1, rv bs12, rv bs50, rv b52, rv b57, iv exq, u_, u_] [(.int r73)])) (fun t k => st73 _ k) ?_
                refine Goes.via (B := T73.setTop (mkF m 246 _ [])) (fun t k => XS.istore X73.here hx rfl (hb hby at_244) rfl (l' := #[lv_ x1, s_, lv_ x2, s_, iv x3, iv x4, iv x5, iv (x5 &&& (3 : Int32)), lv_ y8, s_, iv (0 : Int32), iv ca0, iv ca1, iv (1 : Int32), iv cd0, iv cd1, rv bs12, rv bs50, rv b52, rv b57, iv exq, iv r73, u_]) rfl k) ?_
                refine Goes.via (B := T73.setTop (mkF m 248 _ [(.ref b57)])) (fun t k => XS.aload X73.here hx rfl (hb hby at_246) rfl rfl k) ?_
                refine Goes.via (B := T73.setTop (mkF m 250 _ [(.ref b52), (.ref b57)])) (fun t k => XS.aload X73.here hx rfl (hb hby at_248) rfl rfl k) ?_
                obtain ⟨_, T74, L74, X74, ⟨r74, rfl, M74, K74, p74_0⟩, st74⟩ := callVirt X73 hx hZ63 hown63 (own_hw hw 35 rfl) (own_hw hw 36 rfl) (own_hw hw 38 rfl) (notFace_of_selects (args := #[]) (mvT hZ63 (own_hw hw 38 rfl))) (own_hw hw 37 rfl) (own_hw hw 14 rfl) (own_hw hw 39 rfl) (by decide) (argsL := [(.ref b52)]) (rest := []) (own_m38 l Z a0 hw [] b57 b52 y8 x1 bs50 bs12 z0 ts50 ks50 ts12 ks12 cd0 cd1 ca0 ca1 T60.heap n0 ((((((O0.keep K12 all0).keep K50 all0).ext E52).keep K55 (allS gn52 all0)).ext E57).keep K60 (allS gn57 all0)) hz0 hcd0 hcd1 hca0 hca1 O_1 f60_0 f60_1 f60_2 ((f55_0.ext E57).keep K60) c65 c66 ((((f50_0.ext E52).keep K55).ext E57).keep K60) c69 c70 (((((f12_0.keep K50).ext E52).keep K55).ext E57).keep K60) c67 c68 c72 c71) K73 f60_0 (lenOf own_pd18 rfl) (pc := 250) (Ls := #[lv_ x1, s_, lv_ x2, s_, iv x3, iv x4, iv x5, iv (x5 &&& (3 : Int32)), lv_ y8, s_, iv (0 : Int32), iv ca0, iv ca1, iv (1 : Int32), iv cd0, iv cd1, rv bs12, rv bs50, rv b52, rv b57, iv exq, iv r73, u_]) (st := [(.ref b52), (.ref b57)]) rfl (by rw [hml]; rfl) (hb hby at_250) (W := 0) (Nat.le_of_eq rfl) (by decide) (by decide) (by decide) (by decide)
                have N74 := Fr.app N73 M74
                refine Goes.via (B := T74.setTop (mkF m 253 #[lv_ x1, s_, lv_ x2, s_, iv x3, iv x4, iv x5, iv (x5 &&& (3 : Int32)), lv_ y8, s_, iv (0 : Int32), iv ca0, iv ca1, iv (1 : Int32), iv cd0, iv cd1, rv bs12, rv bs50, rv b52, rv b57, iv exq, iv r73, u_] [(.int r74)])) (fun t k => st74 _ k) ?_
                refine Goes.via (B := T74.setTop (mkF m 254 _ [(.long (r74.toInt64))])) (fun t k => XS.i2l X74.here hx rfl (hb hby at_253) rfl k) ?_
                obtain ⟨_, T75, L75, X75, ⟨r75, rfl, M75, K75, p75_0⟩, st75⟩ := callStatic X74 hx hZ63 hown63 (own_hw hw 44 rfl) (own_hw hw 45 rfl) (own_hw hw 2 rfl) (own_hw hw 46 rfl) (by decide) (argsL := [(.long (r74.toInt64))]) (rest := []) (own_m12 l Z a0 hw [] r74.toInt64 T60.heap n0 ((((((O0.keep K12 all0).keep K50 all0).ext E52).keep K55 (allS gn52 all0)).ext E57).keep K60 (allS gn57 all0)) ) K74 (lenOf own_pd7 rfl) (pc := 254) (Ls := #[lv_ x1, s_, lv_ x2, s_, iv x3, iv x4, iv x5, iv (x5 &&& (3 : Int32)), lv_ y8, s_, iv (0 : Int32), iv ca0, iv ca1, iv (1 : Int32), iv cd0, iv cd1, rv bs12, rv bs50, rv b52, rv b57, iv exq, iv r73, u_]) (st := [(.long (r74.toInt64))]) rfl (by rw [hml]; rfl) (hb hby at_254) (W := 0) (Nat.le_of_eq rfl) (by decide) (by decide) (by decide) (by decide)
                have N75 := Fr.app N74 M75
                refine Goes.via (B := T75.setTop (mkF m 257 #[lv_ x1, s_, lv_ x2, s_, iv x3, iv x4, iv x5, iv (x5 &&& (3 : Int32)), lv_ y8, s_, iv (0 : Int32), iv ca0, iv ca1, iv (1 : Int32), iv cd0, iv cd1, rv bs12, rv bs50, rv b52, rv b57, iv exq, iv r73, u_] [(.int r75)])) (fun t k => st75 _ k) ?_
                refine Goes.via (B := T75.setTop (mkF m 259 _ [])) (fun t k => XS.istore X75.here hx rfl (hb hby at_257) rfl (l' := #[lv_ x1, s_, lv_ x2, s_, iv x3, iv x4, iv x5, iv (x5 &&& (3 : Int32)), lv_ y8, s_, iv (0 : Int32), iv ca0, iv ca1, iv (1 : Int32), iv cd0, iv cd1, rv bs12, rv bs50, rv b52, rv b57, iv exq, iv r73, iv r75]) rfl k) ?_
                refine Goes.via (B := T75.setTop (mkF m 261 _ [(.int r73)])) (fun t k => XS.iload X75.here hx rfl (hb hby at_259) rfl k) ?_
                refine Goes.via (B := T75.setTop (mkF m 263 _ [(.int exq), (.int r73)])) (fun t k => XS.iload X75.here hx rfl (hb hby at_261) rfl k) ?_
                refine Goes.via (B := T75.setTop (mkF m 266 _ [])) (fun t k => XS.icmpNo X75.here hx rfl (hb hby at_263) rfl (XT.ii_ne_f (p73_0.trans ((own_sgl _).trans (p64_0.trans hex.symm)))) k) ?_
                refine Goes.via (B := T75.setTop (mkF m 268 _ [(.int r75)])) (fun t k => XS.iload X75.here hx rfl (hb hby at_266) rfl k) ?_
                refine Goes.via (B := T75.setTop (mkF m 270 _ [(.int exq), (.int r75)])) (fun t k => XS.iload X75.here hx rfl (hb hby at_268) rfl k) ?_
                refine Goes.via (B := T75.setTop (mkF m 271 _ [(.int (-exq)), (.int r75)])) (fun t k => XS.ineg X75.here hx rfl (hb hby at_270) rfl k) ?_
                refine Goes.via (B := T75.setTop (mkF m 274 _ [])) (fun t k => XS.icmpNo X75.here hx rfl (hb hby at_271) rfl (XT.ii_ne_f (by rw [p75_0, own_sgl, p74_0, hex]; exact own_antiE _ _ _ _ _ _ _ _ (by decide) (by decide))) k) ?_
                refine Goes.via (B := T75.setTop (mkF m 275 _ [(.int (1 : Int32))])) (fun t k => XS.iconst X75.here hx rfl (hb hby at_274) k) ?_
                refine Goes.via (B := T75.setTop (mkF m 279 _ [(.int (1 : Int32))])) (fun t k => XS.goto X75.here hx rfl (pc0 := 275) (pc' := 279) rfl (hb hby at_275) (by decide) (by decide) k) ?_
                exact finN (Q := (own_Q64 Z x1 x2 x3 x4 x5 z0 h0 n0)) (F := EndH Z consts_1) (C := (room_1).cells) (S := (room_1).slots) X75 hx (t := .boolean) Bd.returns (by simp) (z' := (1 : Int32)) rfl (hb hby at_279) K75 ⟨rfl, N75, trivial⟩ (lvH X75 hlk hS63 K75 (Nat.le_refl _) hZ63 hEL hR63 (by decide) (by decide))
              by_cases b76 : x1 < y8
              · refine Goes.via (B := T60.setTop (mkF m 197 _ [])) (fun t k => XS.ifNo X60.here hx rfl (hb hby at_194) rfl (XT.ll_ge_f b76) k) ?_
                refine Goes.via (B := T60.setTop (mkF m 198 _ [(.int (-1 : Int32))])) (fun t k => XS.iconst X60.here hx rfl (hb hby at_197) k) ?_
                refine Goes.via (B := T60.setTop (mkF m 200 _ [])) (fun t k => XS.istore X60.here hx rfl (hb hby at_198) rfl (l' := #[lv_ x1, s_, lv_ x2, s_, iv x3, iv x4, iv x5, iv (x5 &&& (3 : Int32)), lv_ y8, s_, iv (0 : Int32), iv ca0, iv ca1, iv (1 : Int32), iv cd0, iv cd1, rv bs12, rv bs50, rv b52, rv b57, iv (-1 : Int32), u_, u_]) rfl k) ?_
                refine Goes.via (B := T60.setTop (mkF m 233 _ [])) (fun t k => XS.goto X60.here hx rfl (pc0 := 200) (pc' := 233) rfl (hb hby at_200) (by decide) (by decide) k) ?_
                obtain ⟨Xr77, hSr77, hZr77, hor77⟩ := rebase X60 hS60 rfl (Nat.le_refl _) hZ60 hown60
                exact j62 T60 _ Xr77 rfl N60 hSr77 hZr77 hor77 (CHr.trans hR61 (CHv.at X60 hZ60 hEL hR61.1)) (-1 : Int32) (by unfold own_exp; rw [if_pos b76])
              · refine Goes.via (B := T60.setTop (mkF m 203 _ [])) (fun t k => XS.ifYes X60.here hx rfl (pc0 := 194) (pc' := 203) rfl (hb hby at_194) rfl (XT.ll_ge_t b76) (by decide) (by decide) k) ?_
                refine Goes.via (B := T60.setTop (mkF m 204 _ [(.long x1)])) (fun t k => XS.lloadN X60.here hx rfl (hb hby at_203) rfl k) ?_
                refine Goes.via (B := T60.setTop (mkF m 206 _ [(.long y8), (.long x1)])) (fun t k => XS.lload X60.here hx rfl (hb hby at_204) rfl k) ?_
                refine Goes.via (B := T60.setTop (mkF m 207 _ [(.int (XT.cmpL x1 y8))])) (fun t k => XT.lcmp X60.here hx rfl (hb hby at_206) rfl k) ?_
                by_cases b78 : y8 < x1
                · refine Goes.via (B := T60.setTop (mkF m 210 _ [])) (fun t k => XS.ifNo X60.here hx rfl (hb hby at_207) rfl (XT.ll_le_f b78) k) ?_
                  refine Goes.via (B := T60.setTop (mkF m 211 _ [(.int (1 : Int32))])) (fun t k => XS.iconst X60.here hx rfl (hb hby at_210) k) ?_
                  refine Goes.via (B := T60.setTop (mkF m 213 _ [])) (fun t k => XS.istore X60.here hx rfl (hb hby at_211) rfl (l' := #[lv_ x1, s_, lv_ x2, s_, iv x3, iv x4, iv x5, iv (x5 &&& (3 : Int32)), lv_ y8, s_, iv (0 : Int32), iv ca0, iv ca1, iv (1 : Int32), iv cd0, iv cd1, rv bs12, rv bs50, rv b52, rv b57, iv (1 : Int32), u_, u_]) rfl k) ?_
                  refine Goes.via (B := T60.setTop (mkF m 233 _ [])) (fun t k => XS.goto X60.here hx rfl (pc0 := 213) (pc' := 233) rfl (hb hby at_213) (by decide) (by decide) k) ?_
                  obtain ⟨Xr79, hSr79, hZr79, hor79⟩ := rebase X60 hS60 rfl (Nat.le_refl _) hZ60 hown60
                  exact j62 T60 _ Xr79 rfl N60 hSr79 hZr79 hor79 (CHr.trans hR61 (CHv.at X60 hZ60 hEL hR61.1)) (1 : Int32) (by unfold own_exp; rw [if_neg b76, if_pos b78])
                · refine Goes.via (B := T60.setTop (mkF m 216 _ [])) (fun t k => XS.ifYes X60.here hx rfl (pc0 := 207) (pc' := 216) rfl (hb hby at_207) rfl (XT.ll_le_t b78) (by decide) (by decide) k) ?_
                  refine Goes.via (B := T60.setTop (mkF m 218 _ [(.int (0 : Int32))])) (fun t k => XS.iload X60.here hx rfl (hb hby at_216) rfl k) ?_
                  refine Goes.via (B := T60.setTop (mkF m 220 _ [(.int ca0), (.int (0 : Int32))])) (fun t k => XS.iload X60.here hx rfl (hb hby at_218) rfl k) ?_
                  refine Goes.via (B := T60.setTop (mkF m 222 _ [(.int ca1), (.int ca0), (.int (0 : Int32))])) (fun t k => XS.iload X60.here hx rfl (hb hby at_220) rfl k) ?_
                  refine Goes.via (B := T60.setTop (mkF m 224 _ [(.int (1 : Int32)), (.int ca1), (.int ca0), (.int (0 : Int32))])) (fun t k => XS.iload X60.here hx rfl (hb hby at_222) rfl k) ?_
                  refine Goes.via (B := T60.setTop (mkF m 226 _ [(.int cd0), (.int (1 : Int32)), (.int ca1), (.int ca0), (.int (0 : Int32))])) (fun t k => XS.iload X60.here hx rfl (hb hby at_224) rfl k) ?_
                  refine Goes.via (B := T60.setTop (mkF m 228 _ [(.int cd1), (.int cd0), (.int (1 : Int32)), (.int ca1), (.int ca0), (.int (0 : Int32))])) (fun t k => XS.iload X60.here hx rfl (hb hby at_226) rfl k) ?_
                  obtain ⟨_, T80, L80, X80, ⟨r80, rfl, M80, K80, p80_0⟩, st80⟩ := callStatic X60 hx hZ60 hown60 (own_hw hw 47 rfl) (own_hw hw 48 rfl) (own_hw hw 2 rfl) (own_hw hw 49 rfl) (by decide) (argsL := [(.int (0 : Int32)), (.int ca0), (.int ca1), (.int (1 : Int32)), (.int cd0), (.int cd1)]) (rest := []) (own_m13 l Z a0 hw [] (0 : Int32) ca0 ca1 (1 : Int32) cd0 cd1 T60.heap n0 ((((((O0.keep K12 all0).keep K50 all0).ext E52).keep K55 (allS gn52 all0)).ext E57).keep K60 (allS gn57 all0)) ) rfl (lenOf own_pd19 rfl) (pc := 228) (Ls := #[lv_ x1, s_, lv_ x2, s_, iv x3, iv x4, iv x5, iv (x5 &&& (3 : Int32)), lv_ y8, s_, iv (0 : Int32), iv ca0, iv ca1, iv (1 : Int32), iv cd0, iv cd1, rv bs12, rv bs50, rv b52, rv b57, u_, u_, u_]) (st := [(.int cd1), (.int cd0), (.int (1 : Int32)), (.int ca1), (.int ca0), (.int (0 : Int32))]) rfl (by rw [hml]; rfl) (hb hby at_228) (W := 0) (Nat.le_of_eq rfl) (by decide) (by decide) (by decide) (by decide)
                  have N80 := Fr.app N60 M80
                  refine Goes.via (B := T80.setTop (mkF m 231 #[lv_ x1, s_, lv_ x2, s_, iv x3, iv x4, iv x5, iv (x5 &&& (3 : Int32)), lv_ y8, s_, iv (0 : Int32), iv ca0, iv ca1, iv (1 : Int32), iv cd0, iv cd1, rv bs12, rv bs50, rv b52, rv b57, u_, u_, u_] [(.int r80)])) (fun t k => st80 _ k) ?_
                  refine Goes.via (B := T80.setTop (mkF m 233 _ [])) (fun t k => XS.istore X80.here hx rfl (hb hby at_231) rfl (l' := #[lv_ x1, s_, lv_ x2, s_, iv x3, iv x4, iv x5, iv (x5 &&& (3 : Int32)), lv_ y8, s_, iv (0 : Int32), iv ca0, iv ca1, iv (1 : Int32), iv cd0, iv cd1, rv bs12, rv bs50, rv b52, rv b57, iv r80, u_, u_]) rfl k) ?_
                  obtain ⟨Xr81, hSr81, hZr81, hor81⟩ := rebase X80 hS60 K80 (Nat.le_refl _) hZ60 hown60
                  exact j62 T80 _ Xr81 K80 N80 hSr81 hZr81 hor81 (CHr.trans hR61 (CHv.at X80 hZ60 hEL hR61.1)) r80 (by unfold own_exp; rw [if_neg b76, if_neg b78]; exact p80_0)
            · refine Goes.via (B := T12.setTop (mkF m 154 _ [(.int (2 : Int32))])) (fun t k => XS.iload X12.here hx rfl (hb hby at_152) rfl k) ?_
              refine Goes.via (B := T12.setTop (mkF m 156 _ [(.int cd0), (.int (2 : Int32))])) (fun t k => XS.iload X12.here hx rfl (hb hby at_154) rfl k) ?_
              refine Goes.via (B := T12.setTop (mkF m 157 _ [(.int (cd0.toUInt32.toUInt16.toUInt32.toInt32)), (.int (2 : Int32))])) (fun t k => XS.i2c X12.here hx rfl (hb hby at_156) rfl k) ?_
              refine Goes.via (B := T12.setTop (mkF m 159 _ [(.int cd1), (.int (cd0.toUInt32.toUInt16.toUInt32.toInt32)), (.int (2 : Int32))])) (fun t k => XS.iload X12.here hx rfl (hb hby at_157) rfl k) ?_
              refine Goes.via (B := T12.setTop (mkF m 160 _ [(.int (cd1.toUInt32.toUInt16.toUInt32.toInt32)), (.int (cd0.toUInt32.toUInt16.toUInt32.toInt32)), (.int (2 : Int32))])) (fun t k => XS.i2c X12.here hx rfl (hb hby at_159) rfl k) ?_
              have q82 : (cd0.toUInt32.toUInt16.toUInt32.toInt32) = cd0 := own_i2c hcd0
              rw [q82]
              have q83 : (cd1.toUInt32.toUInt16.toUInt32.toInt32) = cd1 := own_i2c hcd1
              rw [q83]
              obtain ⟨_, T84, L84, X84, hS84, hZ84, hown84, hC84, ⟨bs84, ts84, ks84, rfl, M84, K84, f84_0, f84_1, f84_2, f84_3⟩, st84⟩ := callStaticH X12 hx hZ12 hS12 (Nat.le_refl _) hEL hR13.1 (sf := []) all0 hown12 (own_hw hw 0 rfl) (own_hw hw 1 rfl) (own_hw hw 2 rfl) (own_hw hw 3 rfl) (by decide) (argsL := [(.int (2 : Int32)), (.int cd0), (.int cd1)]) (rest := []) (own_m7 l Z a0 hw [] cd0 cd1 z0 T12.heap n0 (O0.keep K12 all0) hz0 hcd0 hcd1 O_1) rfl (lenOf own_pd16 rfl) (pc := 160) (Ls := #[lv_ x1, s_, lv_ x2, s_, iv x3, iv x4, iv x5, iv (x5 &&& (3 : Int32)), lv_ y8, s_, iv (0 : Int32), iv ca0, iv ca1, iv (2 : Int32), iv cd0, iv cd1, rv bs12, u_, u_, u_, u_, u_, u_]) (st := [(.int cd1), (.int cd0), (.int (2 : Int32))]) rfl (by rw [hml]; rfl) (hb hby at_160) (W := 0) (Nat.le_of_eq rfl) (by decide) (by decide) (by decide) (by decide)
              have N84 := Fr.app N12 M84
              have hq85 := hC84
              have hR85 := CHr.trans hR13 hq85
              refine Goes.via (B := T84.setTop (mkF m 163 #[lv_ x1, s_, lv_ x2, s_, iv x3, iv x4, iv x5, iv (x5 &&& (3 : Int32)), lv_ y8, s_, iv (0 : Int32), iv ca0, iv ca1, iv (2 : Int32), iv cd0, iv cd1, rv bs12, u_, u_, u_, u_, u_, u_] [(.ref bs84)])) (fun t k => st84 _ k) ?_
              refine Goes.via (B := T84.setTop (mkF m 165 _ [])) (fun t k => XS.astore X84.here hx rfl (hb hby at_163) rfl rfl (l' := #[lv_ x1, s_, lv_ x2, s_, iv x3, iv x4, iv x5, iv (x5 &&& (3 : Int32)), lv_ y8, s_, iv (0 : Int32), iv ca0, iv ca1, iv (2 : Int32), iv cd0, iv cd1, rv bs12, rv bs84, u_, u_, u_, u_, u_]) rfl k) ?_
              obtain ⟨T86, h86, X86, e86, E86, A86, D86, U86, st86⟩ := newO X84 hx hZ84 hown84 (own_hw hw 12 rfl) (own_hw hw 13 rfl) (own_hw hw 14 rfl) rfl (g := (mkF m 165 #[lv_ x1, s_, lv_ x2, s_, iv x3, iv x4, iv x5, iv (x5 &&& (3 : Int32)), lv_ y8, s_, iv (0 : Int32), iv ca0, iv ca1, iv (2 : Int32), iv cd0, iv cd1, rv bs12, rv bs84, u_, u_, u_, u_, u_] [])) rfl (hb hby at_165) (by decide) (by decide)
              obtain ⟨b86, g86⟩ : ∃ z, z = T84.heap.size := ⟨_, rfl⟩
              rw [← g86] at A86 D86 U86 st86
              have gn86 : n0 ≤ b86 := Nat.le_trans (old_le ((O0.keep K12 all0).keep K84 all0)) (Nat.le_of_eq g86.symm)
              have hq87 := CHr.ext E86 hR85.1
              have hR87 := CHr.trans hR85 hq87
              have sf88 := Safe.ext E86 hR85.1 (Safe.new (Nat.le_of_eq g86.symm))
              have F86_round : Fld Z h86 b86 "com/example/keelson/keelson/cluster/Ballot" "round" "J" (.long (0 : Int64)) := D86 (Or.inr (own_hw hw 32 rfl)) (ty := .long) (by decide)
              have F86_proposer : Fld Z h86 b86 "com/example/keelson/keelson/cluster/Ballot" "proposer" "Ljava/lang/String;" .null := D86 (Or.inr (own_hw hw 34 rfl)) (ty := (.object "java/lang/String")) (by decide)
              refine Goes.via (B := T86.setTop (mkF m 168 #[lv_ x1, s_, lv_ x2, s_, iv x3, iv x4, iv x5, iv (x5 &&& (3 : Int32)), lv_ y8, s_, iv (0 : Int32), iv ca0, iv ca1, iv (2 : Int32), iv cd0, iv cd1, rv bs12, rv bs84, u_, u_, u_, u_, u_] [(.ref b86)])) (fun t k => st86 _ k) ?_
              refine Goes.via (B := T86.setTop (mkF m 169 _ [(.ref b86), (.ref b86)])) (fun t k => XS.dup X86.here hx rfl (hb hby at_168) rfl rfl k) ?_
              refine Goes.via (B := T86.setTop (mkF m 170 _ [(.long x1), (.ref b86), (.ref b86)])) (fun t k => XS.lloadN X86.here hx rfl (hb hby at_169) rfl k) ?_
              refine Goes.via (B := T86.setTop (mkF m 172 _ [(.ref bs12), (.long x1), (.ref b86), (.ref b86)])) (fun t k => XS.aload X86.here hx rfl (hb hby at_170) rfl rfl k) ?_
              obtain ⟨_, T89, L89, X89, hS89, hZ89, hown89, hC89, ⟨rfl, M89, K89, f89_0, f89_1, f89_2⟩, st89⟩ := callInitH X86 hx hZ84 hS84 (Nat.le_trans (Nat.le_refl _) E86.1) hEL hR87.1 (sf := []) all0 rfl hown84 (own_hw hw 15 rfl) (own_hw hw 16 rfl) (own_hw hw 14 rfl) (own_hw hw 17 rfl) (by decide) (argsL := [(.long x1), (.ref bs12)]) (rest := [(.ref b86)]) (own_m10 l Z a0 hw [] b86 x1 bs12 h86 n0 (((O0.keep K12 all0).keep K84 all0).ext E86) gn86 A86 F86_round F86_proposer) e86 (lenOf own_pd17 rfl) (pc := 172) (Ls := #[lv_ x1, s_, lv_ x2, s_, iv x3, iv x4, iv x5, iv (x5 &&& (3 : Int32)), lv_ y8, s_, iv (0 : Int32), iv ca0, iv ca1, iv (2 : Int32), iv cd0, iv cd1, rv bs12, rv bs84, u_, u_, u_, u_, u_]) (st := [(.ref bs12), (.long x1), (.ref b86), (.ref b86)]) rfl (by rw [hml]; rfl) (hb hby at_172) (W := 1) (Nat.le_of_eq rfl) (by decide) (by decide) (by decide) (by decide)
              have N89 := Fr.app N84 M89
              have hq90 := hC89
              have hR90 := CHr.trans hR87 hq90
              refine Goes.via (B := T89.setTop (mkF m 175 #[lv_ x1, s_, lv_ x2, s_, iv x3, iv x4, iv x5, iv (x5 &&& (3 : Int32)), lv_ y8, s_, iv (0 : Int32), iv ca0, iv ca1, iv (2 : Int32), iv cd0, iv cd1, rv bs12, rv bs84, u_, u_, u_, u_, u_] [(.ref b86)])) (fun t k => st89 _ k) ?_
              refine Goes.via (B := T89.setTop (mkF m 177 _ [])) (fun t k => XS.astore X89.here hx rfl (hb hby at_175) rfl rfl (l' := #[lv_ x1, s_, lv_ x2, s_, iv x3, iv x4, iv x5, iv (x5 &&& (3 : Int32)), lv_ y8, s_, iv (0 : Int32), iv ca0, iv ca1, iv (2 : Int32), iv cd0, iv cd1, rv bs12, rv bs84, rv b86, u_, u_, u_, u_]) rfl k) ?_
              obtain ⟨T91, h91, X91, e91, E91, A91, D91, U91, st91⟩ := newO X89 hx hZ89 hown89 (own_hw hw 12 rfl) (own_hw hw 13 rfl) (own_hw hw 14 rfl) rfl (g := (mkF m 177 #[lv_ x1, s_, lv_ x2, s_, iv x3, iv x4, iv x5, iv (x5 &&& (3 : Int32)), lv_ y8, s_, iv (0 : Int32), iv ca0, iv ca1, iv (2 : Int32), iv cd0, iv cd1, rv bs12, rv bs84, rv b86, u_, u_, u_, u_] [])) rfl (hb hby at_177) (by decide) (by decide)
              obtain ⟨b91, g91⟩ : ∃ z, z = T89.heap.size := ⟨_, rfl⟩
              rw [← g91] at A91 D91 U91 st91
              have gn91 : n0 ≤ b91 := Nat.le_trans (old_le ((((O0.keep K12 all0).keep K84 all0).ext E86).keep K89 (allS gn86 all0))) (Nat.le_of_eq g91.symm)
              have hq92 := CHr.ext E91 hR90.1
              have hR92 := CHr.trans hR90 hq92
              have sf93 := Safe.ext E91 hR90.1 (Safe.new (Nat.le_of_eq g91.symm))
              have F91_round : Fld Z h91 b91 "com/example/keelson/keelson/cluster/Ballot" "round" "J" (.long (0 : Int64)) := D91 (Or.inr (own_hw hw 32 rfl)) (ty := .long) (by decide)
              have F91_proposer : Fld Z h91 b91 "com/example/keelson/keelson/cluster/Ballot" "proposer" "Ljava/lang/String;" .null := D91 (Or.inr (own_hw hw 34 rfl)) (ty := (.object "java/lang/String")) (by decide)
              refine Goes.via (B := T91.setTop (mkF m 180 #[lv_ x1, s_, lv_ x2, s_, iv x3, iv x4, iv x5, iv (x5 &&& (3 : Int32)), lv_ y8, s_, iv (0 : Int32), iv ca0, iv ca1, iv (2 : Int32), iv cd0, iv cd1, rv bs12, rv bs84, rv b86, u_, u_, u_, u_] [(.ref b91)])) (fun t k => st91 _ k) ?_
              refine Goes.via (B := T91.setTop (mkF m 181 _ [(.ref b91), (.ref b91)])) (fun t k => XS.dup X91.here hx rfl (hb hby at_180) rfl rfl k) ?_
              refine Goes.via (B := T91.setTop (mkF m 183 _ [(.long y8), (.ref b91), (.ref b91)])) (fun t k => XS.lload X91.here hx rfl (hb hby at_181) rfl k) ?_
              refine Goes.via (B := T91.setTop (mkF m 185 _ [(.ref bs84), (.long y8), (.ref b91), (.ref b91)])) (fun t k => XS.aload X91.here hx rfl (hb hby at_183) rfl rfl k) ?_
              obtain ⟨_, T94, L94, X94, hS94, hZ94, hown94, hC94, ⟨rfl, M94, K94, f94_0, f94_1, f94_2⟩, st94⟩ := callInitH X91 hx hZ89 hS89 (Nat.le_trans (Nat.le_refl _) E91.1) hEL hR92.1 (sf := []) all0 rfl hown89 (own_hw hw 15 rfl) (own_hw hw 16 rfl) (own_hw hw 14 rfl) (own_hw hw 17 rfl) (by decide) (argsL := [(.long y8), (.ref bs84)]) (rest := [(.ref b91)]) (own_m10 l Z a0 hw [] b91 y8 bs84 h91 n0 (((((O0.keep K12 all0).keep K84 all0).ext E86).keep K89 (allS gn86 all0)).ext E91) gn91 A91 F91_round F91_proposer) e91 (lenOf own_pd17 rfl) (pc := 185) (Ls := #[lv_ x1, s_, lv_ x2, s_, iv x3, iv x4, iv x5, iv (x5 &&& (3 : Int32)), lv_ y8, s_, iv (0 : Int32), iv ca0, iv ca1, iv (2 : Int32), iv cd0, iv cd1, rv bs12, rv bs84, rv b86, u_, u_, u_, u_]) (st := [(.ref bs84), (.long y8), (.ref b91), (.ref b91)]) rfl (by rw [hml]; rfl) (hb hby at_185) (W := 1) (Nat.le_of_eq rfl) (by decide) (by decide) (by decide) (by decide)
              have N94 := Fr.app N89 M94
              have hq95 := hC94
              have hR95 := CHr.trans hR92 hq95
              refine Goes.via (B := T94.setTop (mkF m 188 #[lv_ x1, s_, lv_ x2, s_, iv x3, iv x4, iv x5, iv (x5 &&& (3 : Int32)), lv_ y8, s_, iv (0 : Int32), iv ca0, iv ca1, iv (2 : Int32), iv cd0, iv cd1, rv bs12, rv bs84, rv b86, u_, u_, u_, u_] [(.ref b91)])) (fun t k => st94 _ k) ?_
              refine Goes.via (B := T94.setTop (mkF m 190 _ [])) (fun t k => XS.astore X94.here hx rfl (hb hby at_188) rfl rfl (l' := #[lv_ x1, s_, lv_ x2, s_, iv x3, iv x4, iv x5, iv (x5 &&& (3 : Int32)), lv_ y8, s_, iv (0 : Int32), iv ca0, iv ca1, iv (2 : Int32), iv cd0, iv cd1, rv bs12, rv bs84, rv b86, rv b91, u_, u_, u_]) rfl k) ?_
              refine Goes.via (B := T94.setTop (mkF m 191 _ [(.long x1)])) (fun t k => XS.lloadN X94.here hx rfl (hb hby at_190) rfl k) ?_
              refine Goes.via (B := T94.setTop (mkF m 193 _ [(.long y8), (.long x1)])) (fun t k => XS.lload X94.here hx rfl (hb hby at_191) rfl k) ?_
              refine Goes.via (B := T94.setTop (mkF m 194 _ [(.int (XT.cmpL x1 y8))])) (fun t k => XT.lcmp X94.here hx rfl (hb hby at_193) rfl k) ?_
              have j96 : ∀ (T97 : State) (lc97 : List Loc) (X97 : Stand p l e room_1 (s.setVm T97.vm) m #[(.long x1), (.long x2), (.int x3), (.int x4), (.int x5)] below meth c T97 lc97 11 88) (e97 : T97.heap = T94.heap) (N97 : Fr n0 lc97) (hS97 : s.Since T97.vm T94.heap.size) (hZ97 : Z.Warmed39 T97.vm) (hown97 : T97.vm.findClass "com/example/keelson/keelson/cluster/BallotCompareToPinLaw" = some m.cls) (hR97 : CHr Z consts_1 s.vm s.heap T97.vm T94.heap) (exq : Int32) (hex : exq = own_exp x1 y8 (0 : Int32) ca0 ca1 (2 : Int32) cd0 cd1) , Goes p.tables e below (fun t o => ∃ v L, o = .returned v ∧ (own_Q64 Z x1 x2 x3 x4 x5 z0 h0 n0) v t.heap L ∧ EndH Z consts_1 s o t L (room_1).cells (room_1).slots) (T97.setTop (mkF m 233 #[lv_ x1, s_, lv_ x2, s_, iv x3, iv x4, iv x5, iv (x5 &&& (3 : Int32)), lv_ y8, s_, iv (0 : Int32), iv ca0, iv ca1, iv (2 : Int32), iv cd0, iv cd1, rv bs12, rv bs84, rv b86, rv b91, iv exq, u_, u_] [])) := by
                intro T97 lc97 X97 e97 N97 hS97 hZ97 hown97 hR97 exq hex
                refine Goes.via (B := T97.setTop (mkF m 235 _ [(.ref b86)])) (fun t k => XS.aload X97.here hx rfl (hb hby at_233) rfl rfl k) ?_
                refine Goes.via (B := T97.setTop (mkF m 237 _ [(.ref b91), (.ref b86)])) (fun t k => XS.aload X97.here hx rfl (hb hby at_235) rfl rfl k) ?_
                have c99 : Fld Z T94.heap b86 "com/example/keelson/keelson/cluster/Ballot" "round" "J" (.long x1) := ((f89_1.ext E91).keep K94 (ninS (Nat.ne_of_lt (Nat.lt_of_lt_of_le (Nat.le_trans A86.lt K89.1) (Nat.le_of_eq g91.symm))) nin0))
                have c100 : Fld Z T94.heap b86 "com/example/keelson/keelson/cluster/Ballot" "proposer" "Ljava/lang/String;" (.ref bs12) := ((f89_2.ext E91).keep K94 (ninS (Nat.ne_of_lt (Nat.lt_of_lt_of_le (Nat.le_trans A86.lt K89.1) (Nat.le_of_eq g91.symm))) nin0))
                have c101 : Fld Z T94.heap bs12 "java/lang/String" "value" "[B" (.ref ts12) := (((((f12_1.keep K84 nin0).ext E86).keep K89 (ninS (Nat.ne_of_lt (Nat.lt_of_lt_of_le (Nat.le_trans f12_0.lt K84.1) (Nat.le_of_eq g86.symm))) nin0)).ext E91).keep K94 (ninS (Nat.ne_of_lt (Nat.lt_of_lt_of_le (Nat.le_trans (Nat.le_trans (Nat.le_trans f12_0.lt K84.1) E86.1) K89.1) (Nat.le_of_eq g91.symm))) nin0))
                have c102 : Fld Z T94.heap bs12 "java/lang/String" "coder" "B" (.int (0 : Int32)) := (((((f12_2.keep K84 nin0).ext E86).keep K89 (ninS (Nat.ne_of_lt (Nat.lt_of_lt_of_le (Nat.le_trans f12_0.lt K84.1) (Nat.le_of_eq g86.symm))) nin0)).ext E91).keep K94 (ninS (Nat.ne_of_lt (Nat.lt_of_lt_of_le (Nat.le_trans (Nat.le_trans (Nat.le_trans f12_0.lt K84.1) E86.1) K89.1) (Nat.le_of_eq g91.symm))) nin0))
                have c103 : Fld Z T94.heap bs84 "java/lang/String" "value" "[B" (.ref ts84) := ((((f84_1.ext E86).keep K89 (ninS (Nat.ne_of_lt (Nat.lt_of_lt_of_le f84_0.lt (Nat.le_of_eq g86.symm))) nin0)).ext E91).keep K94 (ninS (Nat.ne_of_lt (Nat.lt_of_lt_of_le (Nat.le_trans (Nat.le_trans f84_0.lt E86.1) K89.1) (Nat.le_of_eq g91.symm))) nin0))
                have c104 : Fld Z T94.heap bs84 "java/lang/String" "coder" "B" (.int (0 : Int32)) := ((((f84_2.ext E86).keep K89 (ninS (Nat.ne_of_lt (Nat.lt_of_lt_of_le f84_0.lt (Nat.le_of_eq g86.symm))) nin0)).ext E91).keep K94 (ninS (Nat.ne_of_lt (Nat.lt_of_lt_of_le (Nat.le_trans (Nat.le_trans f84_0.lt E86.1) K89.1) (Nat.le_of_eq g91.symm))) nin0))
                have c105 : Arv Z T94.heap ts12 ks12 .byte (0 : Int32) [] (.int (0 : Int32)) := (((((f12_3.keep K84 nin0).ext E86).keep K89 (ninS (Nat.ne_of_lt (Nat.lt_of_lt_of_le (Nat.le_trans f12_3.lt K84.1) (Nat.le_of_eq g86.symm))) nin0)).ext E91).keep K94 (ninS (Nat.ne_of_lt (Nat.lt_of_lt_of_le (Nat.le_trans (Nat.le_trans (Nat.le_trans f12_3.lt K84.1) E86.1) K89.1) (Nat.le_of_eq g91.symm))) nin0))
                have c106 : Arv Z T94.heap ts84 ks84 .byte (2 : Int32) [(.int cd0.toInt8.toInt32), (.int cd1.toInt8.toInt32)] (.int (0 : Int32)) := ((((f84_3.ext E86).keep K89 (ninS (Nat.ne_of_lt (Nat.lt_of_lt_of_le f84_3.lt (Nat.le_of_eq g86.symm))) nin0)).ext E91).keep K94 (ninS (Nat.ne_of_lt (Nat.lt_of_lt_of_le (Nat.le_trans (Nat.le_trans f84_3.lt E86.1) K89.1) (Nat.le_of_eq g91.symm))) nin0))
                obtain ⟨_, T98, L98, X98, ⟨r98, rfl, M98, K98, p98_0⟩, st98⟩ := callVirt X97 hx hZ97 hown97 (own_hw hw 35 rfl) (own_hw hw 36 rfl) (own_hw hw 38 rfl) (notFace_of_selects (args := #[]) (mvT hZ97 (own_hw hw 38 rfl))) (own_hw hw 37 rfl) (own_hw hw 14 rfl) (own_hw hw 39 rfl) (by decide) (argsL := [(.ref b91)]) (rest := []) (own_m33 l Z a0 hw [] b86 b91 x1 y8 bs12 bs84 z0 ts12 ks12 ts84 ks84 ca0 ca1 cd0 cd1 T94.heap n0 ((((((O0.keep K12 all0).keep K84 all0).ext E86).keep K89 (allS gn86 all0)).ext E91).keep K94 (allS gn91 all0)) hz0 hca0 hca1 hcd0 hcd1 O_1 ((f89_0.ext E91).keep K94) c99 c100 f94_0 f94_1 f94_2 (((((f12_0.keep K84).ext E86).keep K89).ext E91).keep K94) c101 c102 ((((f84_0.ext E86).keep K89).ext E91).keep K94) c103 c104 c105 c106) e97 ((f89_0.ext E91).keep K94) (lenOf own_pd18 rfl) (pc := 237) (Ls := #[lv_ x1, s_, lv_ x2, s_, iv x3, iv x4, iv x5, iv (x5 &&& (3 : Int32)), lv_ y8, s_, iv (0 : Int32), iv ca0, iv ca1, iv (2 : Int32), iv cd0, iv cd1, rv bs12, rv bs84, rv b86, rv b91, iv exq, u_, u_]) (st := [(.ref b91), (.ref b86)]) rfl (by rw [hml]; rfl) (hb hby at_237) (W := 0) (Nat.le_of_eq rfl) (by decide) (by decide) (by decide) (by decide)
                have N98 := Fr.app N97 M98
                refine Goes.via (B := T98.setTop (mkF m 240 #[lv_ x1, s_, lv_ x2, s_, iv x3, iv x4, iv x5, iv (x5 &&& (3 : Int32)), lv_ y8, s_, iv (0 : Int32), iv ca0, iv ca1, iv (2 : Int32), iv cd0, iv cd1, rv bs12, rv bs84, rv b86, rv b91, iv exq, u_, u_] [(.int r98)])) (fun t k => st98 _ k) ?_
                refine Goes.via (B := T98.setTop (mkF m 241 _ [(.long (r98.toInt64))])) (fun t k => XS.i2l X98.here hx rfl (hb hby at_240) rfl k) ?_
                obtain ⟨_, T107, L107, X107, ⟨r107, rfl, M107, K107, p107_0⟩, st107⟩ := callStatic X98 hx hZ97 hown97 (own_hw hw 44 rfl) (own_hw hw 45 rfl) (own_hw hw 2 rfl) (own_hw hw 46 rfl) (by decide) (argsL := [(.long (r98.toInt64))]) (rest := []) (own_m12 l Z a0 hw [] r98.toInt64 T94.heap n0 ((((((O0.keep K12 all0).keep K84 all0).ext E86).keep K89 (allS gn86 all0)).ext E91).keep K94 (allS gn91 all0)) ) K98 (lenOf own_pd7 rfl) (pc := 241) (Ls := #[lv_ x1, s_, lv_ x2, s_, iv x3, iv x4, iv x5, iv (x5 &&& (3 : Int32)), lv_ y8, s_, iv (0 : Int32), iv ca0, iv ca1, iv (2 : Int32), iv cd0, iv cd1, rv bs12, rv bs84, rv b86, rv b91, iv exq, u_, u_]) (st := [(.long (r98.toInt64))]) rfl (by rw [hml]; rfl) (hb hby at_241) (W := 0) (Nat.le_of_eq rfl) (by decide) (by decide) (by decide) (by decide)
                have N107 := Fr.app N98 M107
                refine Goes.via (B := T107.setTop (mkF m 244 #[lv_ x1, s_, lv_ x2, s_, iv x3, iv x4, iv x5, iv (x5 &&& (3 : Int32)), lv_ y8, s_, iv (0 : Int32), iv ca0, iv ca1, iv (2 : Int32), iv cd0, iv cd1, rv bs12, rv bs84, rv b86, rv b91, iv exq, u_, u_] [(.int r107)])) (fun t k => st107 _ k) ?_
                refine Goes.via (B := T107.setTop (mkF m 246 _ [])) (fun t k => XS.istore X107.here hx rfl (hb hby at_244) rfl (l' := #[lv_ x1, s_, lv_ x2, s_, iv x3, iv x4, iv x5, iv (x5 &&& (3 : Int32)), lv_ y8, s_, iv (0 : Int32), iv ca0, iv ca1, iv (2 : Int32), iv cd0, iv cd1, rv bs12, rv bs84, rv b86, rv b91, iv exq, iv r107, u_]) rfl k) ?_
                refine Goes.via (B := T107.setTop (mkF m 248 _ [(.ref b91)])) (fun t k => XS.aload X107.here hx rfl (hb hby at_246) rfl rfl k) ?_
                refine Goes.via (B := T107.setTop (mkF m 250 _ [(.ref b86), (.ref b91)])) (fun t k => XS.aload X107.here hx rfl (hb hby at_248) rfl rfl k) ?_
                obtain ⟨_, T108, L108, X108, ⟨r108, rfl, M108, K108, p108_0⟩, st108⟩ := callVirt X107 hx hZ97 hown97 (own_hw hw 35 rfl) (own_hw hw 36 rfl) (own_hw hw 38 rfl) (notFace_of_selects (args := #[]) (mvT hZ97 (own_hw hw 38 rfl))) (own_hw hw 37 rfl) (own_hw hw 14 rfl) (own_hw hw 39 rfl) (by decide) (argsL := [(.ref b86)]) (rest := []) (own_m53 l Z a0 hw [] b91 b86 y8 x1 bs84 bs12 z0 ts84 ks84 ts12 ks12 cd0 cd1 ca0 ca1 T94.heap n0 ((((((O0.keep K12 all0).keep K84 all0).ext E86).keep K89 (allS gn86 all0)).ext E91).keep K94 (allS gn91 all0)) hz0 hcd0 hcd1 hca0 hca1 O_1 f94_0 f94_1 f94_2 ((f89_0.ext E91).keep K94) c99 c100 ((((f84_0.ext E86).keep K89).ext E91).keep K94) c103 c104 (((((f12_0.keep K84).ext E86).keep K89).ext E91).keep K94) c101 c102 c106 c105) K107 f94_0 (lenOf own_pd18 rfl) (pc := 250) (Ls := #[lv_ x1, s_, lv_ x2, s_, iv x3, iv x4, iv x5, iv (x5 &&& (3 : Int32)), lv_ y8, s_, iv (0 : Int32), iv ca0, iv ca1, iv (2 : Int32), iv cd0, iv cd1, rv bs12, rv bs84, rv b86, rv b91, iv exq, iv r107, u_]) (st := [(.ref b86), (.ref b91)]) rfl (by rw [hml]; rfl) (hb hby at_250) (W := 0) (Nat.le_of_eq rfl) (by decide) (by decide) (by decide) (by decide)
                have N108 := Fr.app N107 M108
                refine Goes.via (B := T108.setTop (mkF m 253 #[lv_ x1, s_, lv_ x2, s_, iv x3, iv x4, iv x5, iv (x5 &&& (3 : Int32)), lv_ y8, s_, iv (0 : Int32), iv ca0, iv ca1, iv (2 : Int32), iv cd0, iv cd1, rv bs12, rv bs84, rv b86, rv b91, iv exq, iv r107, u_] [(.int r108)])) (fun t k => st108 _ k) ?_
                refine Goes.via (B := T108.setTop (mkF m 254 _ [(.long (r108.toInt64))])) (fun t k => XS.i2l X108.here hx rfl (hb hby at_253) rfl k) ?_
                obtain ⟨_, T109, L109, X109, ⟨r109, rfl, M109, K109, p109_0⟩, st109⟩ := callStatic X108 hx hZ97 hown97 (own_hw hw 44 rfl) (own_hw hw 45 rfl) (own_hw hw 2 rfl) (own_hw hw 46 rfl) (by decide) (argsL := [(.long (r108.toInt64))]) (rest := []) (own_m12 l Z a0 hw [] r108.toInt64 T94.heap n0 ((((((O0.keep K12 all0).keep K84 all0).ext E86).keep K89 (allS gn86 all0)).ext E91).keep K94 (allS gn91 all0)) ) K108 (lenOf own_pd7 rfl) (pc := 254) (Ls := #[lv_ x1, s_, lv_ x2, s_, iv x3, iv x4, iv x5, iv (x5 &&& (3 : Int32)), lv_ y8, s_, iv (0 : Int32), iv ca0, iv ca1, iv (2 : Int32), iv cd0, iv cd1, rv bs12, rv bs84, rv b86, rv b91, iv exq, iv r107, u_]) (st := [(.long (r108.toInt64))]) rfl (by rw [hml]; rfl) (hb hby at_254) (W := 0) (Nat.le_of_eq rfl) (by decide) (by decide) (by decide) (by decide)
                have N109 := Fr.app N108 M109
                refine Goes.via (B := T109.setTop (mkF m 257 #[lv_ x1, s_, lv_ x2, s_, iv x3, iv x4, iv x5, iv (x5 &&& (3 : Int32)), lv_ y8, s_, iv (0 : Int32), iv ca0, iv ca1, iv (2 : Int32), iv cd0, iv cd1, rv bs12, rv bs84, rv b86, rv b91, iv exq, iv r107, u_] [(.int r109)])) (fun t k => st109 _ k) ?_
                refine Goes.via (B := T109.setTop (mkF m 259 _ [])) (fun t k => XS.istore X109.here hx rfl (hb hby at_257) rfl (l' := #[lv_ x1, s_, lv_ x2, s_, iv x3, iv x4, iv x5, iv (x5 &&& (3 : Int32)), lv_ y8, s_, iv (0 : Int32), iv ca0, iv ca1, iv (2 : Int32), iv cd0, iv cd1, rv bs12, rv bs84, rv b86, rv b91, iv exq, iv r107, iv r109]) rfl k) ?_
                refine Goes.via (B := T109.setTop (mkF m 261 _ [(.int r107)])) (fun t k => XS.iload X109.here hx rfl (hb hby at_259) rfl k) ?_
                refine Goes.via (B := T109.setTop (mkF m 263 _ [(.int exq), (.int r107)])) (fun t k => XS.iload X109.here hx rfl (hb hby at_261) rfl k) ?_
                refine Goes.via (B := T109.setTop (mkF m 266 _ [])) (fun t k => XS.icmpNo X109.here hx rfl (hb hby at_263) rfl (XT.ii_ne_f (p107_0.trans ((own_sgl _).trans (p98_0.trans hex.symm)))) k) ?_
                refine Goes.via (B := T109.setTop (mkF m 268 _ [(.int r109)])) (fun t k => XS.iload X109.here hx rfl (hb hby at_266) rfl k) ?_
                refine Goes.via (B := T109.setTop (mkF m 270 _ [(.int exq), (.int r109)])) (fun t k => XS.iload X109.here hx rfl (hb hby at_268) rfl k) ?_
                refine Goes.via (B := T109.setTop (mkF m 271 _ [(.int (-exq)), (.int r109)])) (fun t k => XS.ineg X109.here hx rfl (hb hby at_270) rfl k) ?_
                refine Goes.via (B := T109.setTop (mkF m 274 _ [])) (fun t k => XS.icmpNo X109.here hx rfl (hb hby at_271) rfl (XT.ii_ne_f (by rw [p109_0, own_sgl, p108_0, hex]; exact own_antiE _ _ _ _ _ _ _ _ (by decide) (by decide))) k) ?_
                refine Goes.via (B := T109.setTop (mkF m 275 _ [(.int (1 : Int32))])) (fun t k => XS.iconst X109.here hx rfl (hb hby at_274) k) ?_
                refine Goes.via (B := T109.setTop (mkF m 279 _ [(.int (1 : Int32))])) (fun t k => XS.goto X109.here hx rfl (pc0 := 275) (pc' := 279) rfl (hb hby at_275) (by decide) (by decide) k) ?_
                exact finN (Q := (own_Q64 Z x1 x2 x3 x4 x5 z0 h0 n0)) (F := EndH Z consts_1) (C := (room_1).cells) (S := (room_1).slots) X109 hx (t := .boolean) Bd.returns (by simp) (z' := (1 : Int32)) rfl (hb hby at_279) K109 ⟨rfl, N109, trivial⟩ (lvH X109 hlk hS97 K109 (Nat.le_refl _) hZ97 hEL hR97 (by decide) (by decide))
              by_cases b110 : x1 < y8
              · refine Goes.via (B := T94.setTop (mkF m 197 _ [])) (fun t k => XS.ifNo X94.here hx rfl (hb hby at_194) rfl (XT.ll_ge_f b110) k) ?_
                refine Goes.via (B := T94.setTop (mkF m 198 _ [(.int (-1 : Int32))])) (fun t k => XS.iconst X94.here hx rfl (hb hby at_197) k) ?_
                refine Goes.via (B := T94.setTop (mkF m 200 _ [])) (fun t k => XS.istore X94.here hx rfl (hb hby at_198) rfl (l' := #[lv_ x1, s_, lv_ x2, s_, iv x3, iv x4, iv x5, iv (x5 &&& (3 : Int32)), lv_ y8, s_, iv (0 : Int32), iv ca0, iv ca1, iv (2 : Int32), iv cd0, iv cd1, rv bs12, rv bs84, rv b86, rv b91, iv (-1 : Int32), u_, u_]) rfl k) ?_
                refine Goes.via (B := T94.setTop (mkF m 233 _ [])) (fun t k => XS.goto X94.here hx rfl (pc0 := 200) (pc' := 233) rfl (hb hby at_200) (by decide) (by decide) k) ?_
                obtain ⟨Xr111, hSr111, hZr111, hor111⟩ := rebase X94 hS94 rfl (Nat.le_refl _) hZ94 hown94
                exact j96 T94 _ Xr111 rfl N94 hSr111 hZr111 hor111 (CHr.trans hR95 (CHv.at X94 hZ94 hEL hR95.1)) (-1 : Int32) (by unfold own_exp; rw [if_pos b110])
              · refine Goes.via (B := T94.setTop (mkF m 203 _ [])) (fun t k => XS.ifYes X94.here hx rfl (pc0 := 194) (pc' := 203) rfl (hb hby at_194) rfl (XT.ll_ge_t b110) (by decide) (by decide) k) ?_
                refine Goes.via (B := T94.setTop (mkF m 204 _ [(.long x1)])) (fun t k => XS.lloadN X94.here hx rfl (hb hby at_203) rfl k) ?_
                refine Goes.via (B := T94.setTop (mkF m 206 _ [(.long y8), (.long x1)])) (fun t k => XS.lload X94.here hx rfl (hb hby at_204) rfl k) ?_
                refine Goes.via (B := T94.setTop (mkF m 207 _ [(.int (XT.cmpL x1 y8))])) (fun t k => XT.lcmp X94.here hx rfl (hb hby at_206) rfl k) ?_
                by_cases b112 : y8 < x1
                · refine Goes.via (B := T94.setTop (mkF m 210 _ [])) (fun t k => XS.ifNo X94.here hx rfl (hb hby at_207) rfl (XT.ll_le_f b112) k) ?_
                  refine Goes.via (B := T94.setTop (mkF m 211 _ [(.int (1 : Int32))])) (fun t k => XS.iconst X94.here hx rfl (hb hby at_210) k) ?_
                  refine Goes.via (B := T94.setTop (mkF m 213 _ [])) (fun t k => XS.istore X94.here hx rfl (hb hby at_211) rfl (l' := #[lv_ x1, s_, lv_ x2, s_, iv x3, iv x4, iv x5, iv (x5 &&& (3 : Int32)), lv_ y8, s_, iv (0 : Int32), iv ca0, iv ca1, iv (2 : Int32), iv cd0, iv cd1, rv bs12, rv bs84, rv b86, rv b91, iv (1 : Int32), u_, u_]) rfl k) ?_
                  refine Goes.via (B := T94.setTop (mkF m 233 _ [])) (fun t k => XS.goto X94.here hx rfl (pc0 := 213) (pc' := 233) rfl (hb hby at_213) (by decide) (by decide) k) ?_
                  obtain ⟨Xr113, hSr113, hZr113, hor113⟩ := rebase X94 hS94 rfl (Nat.le_refl _) hZ94 hown94
                  exact j96 T94 _ Xr113 rfl N94 hSr113 hZr113 hor113 (CHr.trans hR95 (CHv.at X94 hZ94 hEL hR95.1)) (1 : Int32) (by unfold own_exp; rw [if_neg b110, if_pos b112])
                · refine Goes.via (B := T94.setTop (mkF m 216 _ [])) (fun t k => XS.ifYes X94.here hx rfl (pc0 := 207) (pc' := 216) rfl (hb hby at_207) rfl (XT.ll_le_t b112) (by decide) (by decide) k) ?_
                  refine Goes.via (B := T94.setTop (mkF m 218 _ [(.int (0 : Int32))])) (fun t k => XS.iload X94.here hx rfl (hb hby at_216) rfl k) ?_
                  refine Goes.via (B := T94.setTop (mkF m 220 _ [(.int ca0), (.int (0 : Int32))])) (fun t k => XS.iload X94.here hx rfl (hb hby at_218) rfl k) ?_
                  refine Goes.via (B := T94.setTop (mkF m 222 _ [(.int ca1), (.int ca0), (.int (0 : Int32))])) (fun t k => XS.iload X94.here hx rfl (hb hby at_220) rfl k) ?_
                  refine Goes.via (B := T94.setTop (mkF m 224 _ [(.int (2 : Int32)), (.int ca1), (.int ca0), (.int (0 : Int32))])) (fun t k => XS.iload X94.here hx rfl (hb hby at_222) rfl k) ?_
                  refine Goes.via (B := T94.setTop (mkF m 226 _ [(.int cd0), (.int (2 : Int32)), (.int ca1), (.int ca0), (.int (0 : Int32))])) (fun t k => XS.iload X94.here hx rfl (hb hby at_224) rfl k) ?_
                  refine Goes.via (B := T94.setTop (mkF m 228 _ [(.int cd1), (.int cd0), (.int (2 : Int32)), (.int ca1), (.int ca0), (.int (0 : Int32))])) (fun t k => XS.iload X94.here hx rfl (hb hby at_226) rfl k) ?_
                  obtain ⟨_, T114, L114, X114, ⟨r114, rfl, M114, K114, p114_0⟩, st114⟩ := callStatic X94 hx hZ94 hown94 (own_hw hw 47 rfl) (own_hw hw 48 rfl) (own_hw hw 2 rfl) (own_hw hw 49 rfl) (by decide) (argsL := [(.int (0 : Int32)), (.int ca0), (.int ca1), (.int (2 : Int32)), (.int cd0), (.int cd1)]) (rest := []) (own_m13 l Z a0 hw [] (0 : Int32) ca0 ca1 (2 : Int32) cd0 cd1 T94.heap n0 ((((((O0.keep K12 all0).keep K84 all0).ext E86).keep K89 (allS gn86 all0)).ext E91).keep K94 (allS gn91 all0)) ) rfl (lenOf own_pd19 rfl) (pc := 228) (Ls := #[lv_ x1, s_, lv_ x2, s_, iv x3, iv x4, iv x5, iv (x5 &&& (3 : Int32)), lv_ y8, s_, iv (0 : Int32), iv ca0, iv ca1, iv (2 : Int32), iv cd0, iv cd1, rv bs12, rv bs84, rv b86, rv b91, u_, u_, u_]) (st := [(.int cd1), (.int cd0), (.int (2 : Int32)), (.int ca1), (.int ca0), (.int (0 : Int32))]) rfl (by rw [hml]; rfl) (hb hby at_228) (W := 0) (Nat.le_of_eq rfl) (by decide) (by decide) (by decide) (by decide)
                  have N114 := Fr.app N94 M114
                  refine Goes.via (B := T114.setTop (mkF m 231 #[lv_ x1, s_, lv_ x2, s_, iv x3, iv x4, iv x5, iv (x5 &&& (3 : Int32)), lv_ y8, s_, iv (0 : Int32), iv ca0, iv ca1, iv (2 : Int32), iv cd0, iv cd1, rv bs12, rv bs84, rv b86, rv b91, u_, u_, u_] [(.int r114)])) (fun t k => st114 _ k) ?_
                  refine Goes.via (B := T114.setTop (mkF m 233 _ [])) (fun t k => XS.istore X114.here hx rfl (hb hby at_231) rfl (l' := #[lv_ x1, s_, lv_ x2, s_, iv x3, iv x4, iv x5, iv (x5 &&& (3 : Int32)), lv_ y8, s_, iv (0 : Int32), iv ca0, iv ca1, iv (2 : Int32), iv cd0, iv cd1, rv bs12, rv bs84, rv b86, rv b91, iv r114, u_, u_]) rfl k) ?_
                  obtain ⟨Xr115, hSr115, hZr115, hor115⟩ := rebase X114 hS94 K114 (Nat.le_refl _) hZ94 hown94
                  exact j96 T114 _ Xr115 K114 N114 hSr115 hZr115 hor115 (CHr.trans hR95 (CHv.at X114 hZ94 hEL hR95.1)) r114 (by unfold own_exp; rw [if_neg b110, if_neg b112]; exact p114_0)
          · refine Goes.via (B := s₁.setTop (mkF m 141 _ [(.int (1 : Int32))])) (fun t k => XS.iload X0.here hx rfl (hb hby at_139) rfl k) ?_
            refine Goes.via (B := s₁.setTop (mkF m 143 _ [(.int ca0), (.int (1 : Int32))])) (fun t k => XS.iload X0.here hx rfl (hb hby at_141) rfl k) ?_
            refine Goes.via (B := s₁.setTop (mkF m 144 _ [(.int (ca0.toUInt32.toUInt16.toUInt32.toInt32)), (.int (1 : Int32))])) (fun t k => XS.i2c X0.here hx rfl (hb hby at_143) rfl k) ?_
            refine Goes.via (B := s₁.setTop (mkF m 146 _ [(.int ca1), (.int (ca0.toUInt32.toUInt16.toUInt32.toInt32)), (.int (1 : Int32))])) (fun t k => XS.iload X0.here hx rfl (hb hby at_144) rfl k) ?_
            refine Goes.via (B := s₁.setTop (mkF m 147 _ [(.int (ca1.toUInt32.toUInt16.toUInt32.toInt32)), (.int (ca0.toUInt32.toUInt16.toUInt32.toInt32)), (.int (1 : Int32))])) (fun t k => XS.i2c X0.here hx rfl (hb hby at_146) rfl k) ?_
            have q116 : (ca0.toUInt32.toUInt16.toUInt32.toInt32) = ca0 := own_i2c hca0
            rw [q116]
            have q117 : (ca1.toUInt32.toUInt16.toUInt32.toInt32) = ca1 := own_i2c hca1
            rw [q117]
            obtain ⟨_, T118, L118, X118, hS118, hZ118, hown118, hC118, ⟨bs118, ts118, ks118, rfl, M118, K118, f118_0, f118_1, f118_2, f118_3⟩, st118⟩ := callStaticH X0 hx hZ hS0 hk0 hEL hR0.1 (sf := []) all0 hown (own_hw hw 0 rfl) (own_hw hw 1 rfl) (own_hw hw 2 rfl) (own_hw hw 3 rfl) (by decide) (argsL := [(.int (1 : Int32)), (.int ca0), (.int ca1)]) (rest := []) (own_m6 l Z a0 hw [] ca0 ca1 z0 h0 n0 O0 hz0 hca0 hca1 O_1) e0 (lenOf own_pd16 rfl) (pc := 147) (Ls := #[lv_ x1, s_, lv_ x2, s_, iv x3, iv x4, iv x5, iv (x5 &&& (3 : Int32)), lv_ y8, s_, iv (1 : Int32), iv ca0, iv ca1, iv lb, iv cd0, iv cd1, u_, u_, u_, u_, u_, u_, u_]) (st := [(.int ca1), (.int ca0), (.int (1 : Int32))]) rfl (by rw [hml]; rfl) (hb hby at_147) (W := 0) (Nat.le_of_eq rfl) (by decide) (by decide) (by decide) (by decide)
            have N118 := Fr.app N0 M118
            have hq119 := hC118
            have hR119 := CHr.trans hR0 hq119
            refine Goes.via (B := T118.setTop (mkF m 150 #[lv_ x1, s_, lv_ x2, s_, iv x3, iv x4, iv x5, iv (x5 &&& (3 : Int32)), lv_ y8, s_, iv (1 : Int32), iv ca0, iv ca1, iv lb, iv cd0, iv cd1, u_, u_, u_, u_, u_, u_, u_] [(.ref bs118)])) (fun t k => st118 _ k) ?_
            refine Goes.via (B := T118.setTop (mkF m 152 _ [])) (fun t k => XS.astore X118.here hx rfl (hb hby at_150) rfl rfl (l' := #[lv_ x1, s_, lv_ x2, s_, iv x3, iv x4, iv x5, iv (x5 &&& (3 : Int32)), lv_ y8, s_, iv (1 : Int32), iv ca0, iv ca1, iv lb, iv cd0, iv cd1, rv bs118, u_, u_, u_, u_, u_, u_]) rfl k) ?_
            rcases hlb with rfl | rfl | rfl
            · refine Goes.via (B := T118.setTop (mkF m 154 _ [(.int (0 : Int32))])) (fun t k => XS.iload X118.here hx rfl (hb hby at_152) rfl k) ?_
              refine Goes.via (B := T118.setTop (mkF m 156 _ [(.int cd0), (.int (0 : Int32))])) (fun t k => XS.iload X118.here hx rfl (hb hby at_154) rfl k) ?_
              refine Goes.via (B := T118.setTop (mkF m 157 _ [(.int (cd0.toUInt32.toUInt16.toUInt32.toInt32)), (.int (0 : Int32))])) (fun t k => XS.i2c X118.here hx rfl (hb hby at_156) rfl k) ?_
              refine Goes.via (B := T118.setTop (mkF m 159 _ [(.int cd1), (.int (cd0.toUInt32.toUInt16.toUInt32.toInt32)), (.int (0 : Int32))])) (fun t k => XS.iload X118.here hx rfl (hb hby at_157) rfl k) ?_
              refine Goes.via (B := T118.setTop (mkF m 160 _ [(.int (cd1.toUInt32.toUInt16.toUInt32.toInt32)), (.int (cd0.toUInt32.toUInt16.toUInt32.toInt32)), (.int (0 : Int32))])) (fun t k => XS.i2c X118.here hx rfl (hb hby at_159) rfl k) ?_
              have q120 : (cd0.toUInt32.toUInt16.toUInt32.toInt32) = cd0 := own_i2c hcd0
              rw [q120]
              have q121 : (cd1.toUInt32.toUInt16.toUInt32.toInt32) = cd1 := own_i2c hcd1
              rw [q121]
              obtain ⟨_, T122, L122, X122, hS122, hZ122, hown122, hC122, ⟨bs122, ts122, ks122, rfl, M122, K122, f122_0, f122_1, f122_2, f122_3⟩, st122⟩ := callStaticH X118 hx hZ118 hS118 (Nat.le_refl _) hEL hR119.1 (sf := []) all0 hown118 (own_hw hw 0 rfl) (own_hw hw 1 rfl) (own_hw hw 2 rfl) (own_hw hw 3 rfl) (by decide) (argsL := [(.int (0 : Int32)), (.int cd0), (.int cd1)]) (rest := []) (own_m5 l Z a0 hw [] cd0 cd1 z0 T118.heap n0 (O0.keep K118 all0) hz0 hcd0 hcd1 O_1) rfl (lenOf own_pd16 rfl) (pc := 160) (Ls := #[lv_ x1, s_, lv_ x2, s_, iv x3, iv x4, iv x5, iv (x5 &&& (3 : Int32)), lv_ y8, s_, iv (1 : Int32), iv ca0, iv ca1, iv (0 : Int32), iv cd0, iv cd1, rv bs118, u_, u_, u_, u_, u_, u_]) (st := [(.int cd1), (.int cd0), (.int (0 : Int32))]) rfl (by rw [hml]; rfl) (hb hby at_160) (W := 0) (Nat.le_of_eq rfl) (by decide) (by decide) (by decide) (by decide)
              have N122 := Fr.app N118 M122
              have hq123 := hC122
              have hR123 := CHr.trans hR119 hq123
              refine Goes.via (B := T122.setTop (mkF m 163 #[lv_ x1, s_, lv_ x2, s_, iv x3, iv x4, iv x5, iv (x5 &&& (3 : Int32)), lv_ y8, s_, iv (1 : Int32), iv ca0, iv ca1, iv (0 : Int32), iv cd0, iv cd1, rv bs118, u_, u_, u_, u_, u_, u_] [(.ref bs122)])) (fun t k => st122 _ k) ?_
              refine Goes.via (B := T122.setTop (mkF m 165 _ [])) (fun t k => XS.astore X122.here hx rfl (hb hby at_163) rfl rfl (l' := #[lv_ x1, s_, lv_ x2, s_, iv x3, iv x4, iv x5, iv (x5 &&& (3 : Int32)), lv_ y8, s_, iv (1 : Int32), iv ca0, iv ca1, iv (0 : Int32), iv cd0, iv cd1, rv bs118, rv bs122, u_, u_, u_, u_, u_]) rfl k) ?_
              obtain ⟨T124, h124, X124, e124, E124, A124, D124, U124, st124⟩ := newO X122 hx hZ122 hown122 (own_hw hw 12 rfl) (own_hw hw 13 rfl) (own_hw hw 14 rfl) rfl (g := (mkF m 165 #[lv_ x1, s_, lv_ x2, s_, iv x3, iv x4, iv x5, iv (x5 &&& (3 : Int32)), lv_ y8, s_, iv (1 : Int32), iv ca0, iv ca1, iv (0 : Int32), iv cd0, iv cd1, rv bs118, rv bs122, u_, u_, u_, u_, u_] [])) rfl (hb hby at_165) (by decide) (by decide)
              obtain ⟨b124, g124⟩ : ∃ z, z = T122.heap.size := ⟨_, rfl⟩
              rw [← g124] at A124 D124 U124 st124
              have gn124 : n0 ≤ b124 := Nat.le_trans (old_le ((O0.keep K118 all0).keep K122 all0)) (Nat.le_of_eq g124.symm)
              have hq125 := CHr.ext E124 hR123.1
              have hR125 := CHr.trans hR123 hq125
              have sf126 := Safe.ext E124 hR123.1 (Safe.new (Nat.le_of_eq g124.symm))
              have F124_round : Fld Z h124 b124 "com/example/keelson/keelson/cluster/Ballot" "round" "J" (.long (0 : Int64)) := D124 (Or.inr (own_hw hw 32 rfl)) (ty := .long) (by decide)
              have F124_proposer : Fld Z h124 b124 "com/example/keelson/keelson/cluster/Ballot" "proposer" "Ljava/lang/String;" .null := D124 (Or.inr (own_hw hw 34 rfl)) (ty := (.object "java/lang/String")) (by decide)
              refine Goes.via (B := T124.setTop (mkF m 168 #[lv_ x1, s_, lv_ x2, s_, iv x3, iv x4, iv x5, iv (x5 &&& (3 : Int32)), lv_ y8, s_, iv (1 : Int32), iv ca0, iv ca1, iv (0 : Int32), iv cd0, iv cd1, rv bs118, rv bs122, u_, u_, u_, u_, u_] [(.ref b124)])) (fun t k => st124 _ k) ?_
              refine Goes.via (B := T124.setTop (mkF m 169 _ [(.ref b124), (.ref b124)])) (fun t k => XS.dup X124.here hx rfl (hb hby at_168) rfl rfl k) ?_
              refine Goes.via (B := T124.setTop (mkF m 170 _ [(.long x1), (.ref b124), (.ref b124)])) (fun t k => XS.lloadN X124.here hx rfl (hb hby at_169) rfl k) ?_
              refine Goes.via (B := T124.setTop (mkF m 172 _ [(.ref bs118), (.long x1), (.ref b124), (.ref b124)])) (fun t k => XS.aload X124.here hx rfl (hb hby at_170) rfl rfl k) ?_
              obtain ⟨_, T127, L127, X127, hS127, hZ127, hown127, hC127, ⟨rfl, M127, K127, f127_0, f127_1, f127_2⟩, st127⟩ := callInitH X124 hx hZ122 hS122 (Nat.le_trans (Nat.le_refl _) E124.1) hEL hR125.1 (sf := []) all0 rfl hown122 (own_hw hw 15 rfl) (own_hw hw 16 rfl) (own_hw hw 14 rfl) (own_hw hw 17 rfl) (by decide) (argsL := [(.long x1), (.ref bs118)]) (rest := [(.ref b124)]) (own_m10 l Z a0 hw [] b124 x1 bs118 h124 n0 (((O0.keep K118 all0).keep K122 all0).ext E124) gn124 A124 F124_round F124_proposer) e124 (lenOf own_pd17 rfl) (pc := 172) (Ls := #[lv_ x1, s_, lv_ x2, s_, iv x3, iv x4, iv x5, iv (x5 &&& (3 : Int32)), lv_ y8, s_, iv (1 : Int32), iv ca0, iv ca1, iv (0 : Int32), iv cd0, iv cd1, rv bs118, rv bs122, u_, u_, u_, u_, u_]) (st := [(.ref bs118), (.long x1), (.ref b124), (.ref b124)]) rfl (by rw [hml]; rfl) (hb hby at_172) (W := 1) (Nat.le_of_eq rfl) (by decide) (by decide) (by decide) (by decide)
              have N127 := Fr.app N122 M127
              have hq128 := hC127
              have hR128 := CHr.trans hR125 hq128
              refine Goes.via (B := T127.setTop (mkF m 175 #[lv_ x1, s_, lv_ x2, s_, iv x3, iv x4, iv x5, iv (x5 &&& (3 : Int32)), lv_ y8, s_, iv (1 : Int32), iv ca0, iv ca1, iv (0 : Int32), iv cd0, iv cd1, rv bs118, rv bs122, u_, u_, u_, u_, u_] [(.ref b124)])) (fun t k => st127 _ k) ?_
              refine Goes.via (B := T127.setTop (mkF m 177 _ [])) (fun t k => XS.astore X127.here hx rfl (hb hby at_175) rfl rfl (l' := #[lv_ x1, s_, lv_ x2, s_, iv x3, iv x4, iv x5, iv (x5 &&& (3 : Int32)), lv_ y8, s_, iv (1 : Int32), iv ca0, iv ca1, iv (0 : Int32), iv cd0, iv cd1, rv bs118, rv bs122, rv b124, u_, u_, u_, u_]) rfl k) ?_
              obtain ⟨T129, h129, X129, e129, E129, A129, D129, U129, st129⟩ := newO X127 hx hZ127 hown127 (own_hw hw 12 rfl) (own_hw hw 13 rfl) (own_hw hw 14 rfl) rfl (g := (mkF m 177 #[lv_ x1, s_, lv_ x2, s_, iv x3, iv x4, iv x5, iv (x5 &&& (3 : Int32)), lv_ y8, s_, iv (1 : Int32), iv ca0, iv ca1, iv (0 : Int32), iv cd0, iv cd1, rv bs118, rv bs122, rv b124, u_, u_, u_, u_] [])) rfl (hb hby at_177) (by decide) (by decide)
              obtain ⟨b129, g129⟩ : ∃ z, z = T127.heap.size := ⟨_, rfl⟩
              rw [← g129] at A129 D129 U129 st129
              have gn129 : n0 ≤ b129 := Nat.le_trans (old_le ((((O0.keep K118 all0).keep K122 all0).ext E124).keep K127 (allS gn124 all0))) (Nat.le_of_eq g129.symm)
              have hq130 := CHr.ext E129 hR128.1
              have hR130 := CHr.trans hR128 hq130
              have sf131 := Safe.ext E129 hR128.1 (Safe.new (Nat.le_of_eq g129.symm))
              have F129_round : Fld Z h129 b129 "com/example/keelson/keelson/cluster/Ballot" "round" "J" (.long (0 : Int64)) := D129 (Or.inr (own_hw hw 32 rfl)) (ty := .long) (by decide)
              have F129_proposer : Fld Z h129 b129 "com/example/keelson/keelson/cluster/Ballot" "proposer" "Ljava/lang/String;" .null := D129 (Or.inr (own_hw hw 34 rfl)) (ty := (.object "java/lang/String")) (by decide)
              refine Goes.via (B := T129.setTop (mkF m 180 #[lv_ x1, s_, lv_ x2, s_, iv x3, iv x4, iv x5, iv (x5 &&& (3 : Int32)), lv_ y8, s_, iv (1 : Int32), iv ca0, iv ca1, iv (0 : Int32), iv cd0, iv cd1, rv bs118, rv bs122, rv b124, u_, u_, u_, u_] [(.ref b129)])) (fun t k => st129 _ k) ?_
              refine Goes.via (B := T129.setTop (mkF m 181 _ [(.ref b129), (.ref b129)])) (fun t k => XS.dup X129.here hx rfl (hb hby at_180) rfl rfl k) ?_
              refine Goes.via (B := T129.setTop (mkF m 183 _ [(.long y8), (.ref b129), (.ref b129)])) (fun t k => XS.lload X129.here hx rfl (hb hby at_181) rfl k) ?_
              refine Goes.via (B := T129.setTop (mkF m 185 _ [(.ref bs122), (.long y8), (.ref b129), (.ref b129)])) (fun t k => XS.aload X129.here hx rfl (hb hby at_183) rfl rfl k) ?_
              obtain ⟨_, T132, L132, X132, hS132, hZ132, hown132, hC132, ⟨rfl, M132, K132, f132_0, f132_1, f132_2⟩, st132⟩ := callInitH X129 hx hZ127 hS127 (Nat.le_trans (Nat.le_refl _) E129.1) hEL hR130.1 (sf := []) all0 rfl hown127 (own_hw hw 15 rfl) (own_hw hw 16 rfl) (own_hw hw 14 rfl) (own_hw hw 17 rfl) (by decide) (argsL := [(.long y8), (.ref bs122)]) (rest := [(.ref b129)]) (own_m10 l Z a0 hw [] b129 y8 bs122 h129 n0 (((((O0.keep K118 all0).keep K122 all0).ext E124).keep K127 (allS gn124 all0)).ext E129) gn129 A129 F129_round F129_proposer) e129 (lenOf own_pd17 rfl) (pc := 185) (Ls := #[lv_ x1, s_, lv_ x2, s_, iv x3, iv x4, iv x5, iv (x5 &&& (3 : Int32)), lv_ y8, s_, iv (1 : Int32), iv ca0, iv ca1, iv (0 : Int32), iv cd0, iv cd1, rv bs118, rv bs122, rv b124, u_, u_, u_, u_]) (st := [(.ref bs122), (.long y8), (.ref b129), (.ref b129)]) rfl (by rw [hml]; rfl) (hb hby at_185) (W := 1) (Nat.le_of_eq rfl) (by decide) (by decide) (by decide) (by decide)
              have N132 := Fr.app N127 M132
              have hq133 := hC132
              have hR133 := CHr.trans hR130 hq133
              refine Goes.via (B := T132.setTop (mkF m 188 #[lv_ x1, s_, lv_ x2, s_, iv x3, iv x4, iv x5, iv (x5 &&& (3 : Int32)), lv_ y8, s_, iv (1 : Int32), iv ca0, iv ca1, iv (0 : Int32), iv cd0, iv cd1, rv bs118, rv bs122, rv b124, u_, u_, u_, u_] [(.ref b129)])) (fun t k => st132 _ k) ?_
              refine Goes.via (B := T132.setTop (mkF m 190 _ [])) (fun t k => XS.astore X132.here hx rfl (hb hby at_188) rfl rfl (l' := #[lv_ x1, s_, lv_ x2, s_, iv x3, iv x4, iv x5, iv (x5 &&& (3 : Int32)), lv_ y8, s_, iv (1 : Int32), iv ca0, iv ca1, iv (0 : Int32), iv cd0, iv cd1, rv bs118, rv bs122, rv b124, rv b129, u_, u_, u_]) rfl k) ?_
              refine Goes.via (B := T132.setTop (mkF m 191 _ [(.long x1)])) (fun t k => XS.lloadN X132.here hx rfl (hb hby at_190) rfl k) ?_
              refine Goes.via (B := T132.setTop (mkF m 193 _ [(.long y8), (.long x1)])) (fun t k => XS.lload X132.here hx rfl (hb hby at_191) rfl k) ?_
              refine Goes.via (B := T132.setTop (mkF m 194 _ [(.int (XT.cmpL x1 y8))])) (fun t k => XT.lcmp X132.here hx rfl (hb hby at_193) rfl k) ?_
              have j134 : ∀ (T135 : State) (lc135 : List Loc) (X135 : Stand p l e room_1 (s.setVm T135.vm) m #[(.long x1), (.long x2), (.int x3), (.int x4), (.int x5)] below meth c T135 lc135 10 85) (e135 : T135.heap = T132.heap) (N135 : Fr n0 lc135) (hS135 : s.Since T135.vm T132.heap.size) (hZ135 : Z.Warmed39 T135.vm) (hown135 : T135.vm.findClass "com/example/keelson/keelson/cluster/BallotCompareToPinLaw" = some m.cls) (hR135 : CHr Z consts_1 s.vm s.heap T135.vm T132.heap) (exq : Int32) (hex : exq = own_exp x1 y8 (1 : Int32) ca0 ca1 (0 : Int32) cd0 cd1) , Goes p.tables e below (fun t o => ∃ v L, o = .returned v ∧ (own_Q64 Z x1 x2 x3 x4 x5 z0 h0 n0) v t.heap L ∧ EndH Z consts_1 s o t L (room_1).cells (room_1).slots) (T135.setTop (mkF m 233 #[lv_ x1, s_, lv_ x2, s_, iv x3, iv x4, iv x5, iv (x5 &&& (3 : Int32)), lv_ y8, s_, iv (1 : Int32), iv ca0, iv ca1, iv (0 : Int32), iv cd0, iv cd1, rv bs118, rv bs122, rv b124, rv b129, iv exq, u_, u_] [])) := by
                intro T135 lc135 X135 e135 N135 hS135 hZ135 hown135 hR135 exq hex
                refine Goes.via (B := T135.setTop (mkF m 235 _ [(.ref b124)])) (fun t k => XS.aload X135.here hx rfl (hb hby at_233) rfl rfl k) ?_
                refine Goes.via (B := T135.setTop (mkF m 237 _ [(.ref b129), (.ref b124)])) (fun t k => XS.aload X135.here hx rfl (hb hby at_235) rfl rfl k) ?_
                have c137 : Fld Z T132.heap b124 "com/example/keelson/keelson/cluster/Ballot" "round" "J" (.long x1) := ((f127_1.ext E129).keep K132 (ninS (Nat.ne_of_lt (Nat.lt_of_lt_of_le (Nat.le_trans A124.lt K127.1) (Nat.le_of_eq g129.symm))) nin0))
                have c138 : Fld Z T132.heap b124 "com/example/keelson/keelson/cluster/Ballot" "proposer" "Ljava/lang/String;" (.ref bs118) := ((f127_2.ext E129).keep K132 (ninS (Nat.ne_of_lt (Nat.lt_of_lt_of_le (Nat.le_trans A124.lt K127.1) (Nat.le_of_eq g129.symm))) nin0))
                have c139 : Exa Z T132.heap bs118 "java/lang/String" := (((((f118_0.keep K122).ext E124).keep K127).ext E129).keep K132)
                have c140 : Fld Z T132.heap bs118 "java/lang/String" "value" "[B" (.ref ts118) := (((((f118_1.keep K122 nin0).ext E124).keep K127 (ninS (Nat.ne_of_lt (Nat.lt_of_lt_of_le (Nat.le_trans f118_0.lt K122.1) (Nat.le_of_eq g124.symm))) nin0)).ext E129).keep K132 (ninS (Nat.ne_of_lt (Nat.lt_of_lt_of_le (Nat.le_trans (Nat.le_trans (Nat.le_trans f118_0.lt K122.1) E124.1) K127.1) (Nat.le_of_eq g129.symm))) nin0))
                have c141 : Fld Z T132.heap bs118 "java/lang/String" "coder" "B" (.int (0 : Int32)) := (((((f118_2.keep K122 nin0).ext E124).keep K127 (ninS (Nat.ne_of_lt (Nat.lt_of_lt_of_le (Nat.le_trans f118_0.lt K122.1) (Nat.le_of_eq g124.symm))) nin0)).ext E129).keep K132 (ninS (Nat.ne_of_lt (Nat.lt_of_lt_of_le (Nat.le_trans (Nat.le_trans (Nat.le_trans f118_0.lt K122.1) E124.1) K127.1) (Nat.le_of_eq g129.symm))) nin0))
                have c142 : Fld Z T132.heap bs122 "java/lang/String" "value" "[B" (.ref ts122) := ((((f122_1.ext E124).keep K127 (ninS (Nat.ne_of_lt (Nat.lt_of_lt_of_le f122_0.lt (Nat.le_of_eq g124.symm))) nin0)).ext E129).keep K132 (ninS (Nat.ne_of_lt (Nat.lt_of_lt_of_le (Nat.le_trans (Nat.le_trans f122_0.lt E124.1) K127.1) (Nat.le_of_eq g129.symm))) nin0))
                have c143 : Fld Z T132.heap bs122 "java/lang/String" "coder" "B" (.int (0 : Int32)) := ((((f122_2.ext E124).keep K127 (ninS (Nat.ne_of_lt (Nat.lt_of_lt_of_le f122_0.lt (Nat.le_of_eq g124.symm))) nin0)).ext E129).keep K132 (ninS (Nat.ne_of_lt (Nat.lt_of_lt_of_le (Nat.le_trans (Nat.le_trans f122_0.lt E124.1) K127.1) (Nat.le_of_eq g129.symm))) nin0))
                have c144 : Arv Z T132.heap ts118 ks118 .byte (1 : Int32) [(.int ca0.toInt8.toInt32)] (.int (0 : Int32)) := (((((f118_3.keep K122 nin0).ext E124).keep K127 (ninS (Nat.ne_of_lt (Nat.lt_of_lt_of_le (Nat.le_trans f118_3.lt K122.1) (Nat.le_of_eq g124.symm))) nin0)).ext E129).keep K132 (ninS (Nat.ne_of_lt (Nat.lt_of_lt_of_le (Nat.le_trans (Nat.le_trans (Nat.le_trans f118_3.lt K122.1) E124.1) K127.1) (Nat.le_of_eq g129.symm))) nin0))
                have c145 : Arv Z T132.heap ts122 ks122 .byte (0 : Int32) [] (.int (0 : Int32)) := ((((f122_3.ext E124).keep K127 (ninS (Nat.ne_of_lt (Nat.lt_of_lt_of_le f122_3.lt (Nat.le_of_eq g124.symm))) nin0)).ext E129).keep K132 (ninS (Nat.ne_of_lt (Nat.lt_of_lt_of_le (Nat.le_trans (Nat.le_trans f122_3.lt E124.1) K127.1) (Nat.le_of_eq g129.symm))) nin0))
                obtain ⟨_, T136, L136, X136, ⟨r136, rfl, M136, K136, p136_0⟩, st136⟩ := callVirt X135 hx hZ135 hown135 (own_hw hw 35 rfl) (own_hw hw 36 rfl) (own_hw hw 38 rfl) (notFace_of_selects (args := #[]) (mvT hZ135 (own_hw hw 38 rfl))) (own_hw hw 37 rfl) (own_hw hw 14 rfl) (own_hw hw 39 rfl) (by decide) (argsL := [(.ref b129)]) (rest := []) (own_m38 l Z a0 hw [] b124 b129 x1 y8 bs118 bs122 z0 ts118 ks118 ts122 ks122 ca0 ca1 cd0 cd1 T132.heap n0 ((((((O0.keep K118 all0).keep K122 all0).ext E124).keep K127 (allS gn124 all0)).ext E129).keep K132 (allS gn129 all0)) hz0 hca0 hca1 hcd0 hcd1 O_1 ((f127_0.ext E129).keep K132) c137 c138 f132_0 f132_1 f132_2 c139 c140 c141 ((((f122_0.ext E124).keep K127).ext E129).keep K132) c142 c143 c144 c145) e135 ((f127_0.ext E129).keep K132) (lenOf own_pd18 rfl) (pc := 237) (Ls := #[lv_ x1, s_, lv_ x2, s_, iv x3, iv x4, iv x5, iv (x5 &&& (3 : Int32)), lv_ y8, s_, iv (1 : Int32), iv ca0, iv ca1, iv (0 : Int32), iv cd0, iv cd1, rv bs118, rv bs122, rv b124, rv b129, iv exq, u_, u_]) (st := [(.ref b129), (.ref b124)]) rfl (by rw [hml]; rfl) (hb hby at_237) (W := 0) (Nat.le_of_eq rfl) (by decide) (by decide) (by decide) (by decide)
                have N136 := Fr.app N135 M136
                refine Goes.via (B := T136.setTop (mkF m 240 #[lv_ x1, s_, lv_ x2, s_, iv x3, iv x4, iv x5, iv (x5 &&& (3 : Int32)), lv_ y8, s_, iv (1 : Int32), iv ca0, iv ca1, iv (0 : Int32), iv cd0, iv cd1, rv bs118, rv bs122, rv b124, rv b129, iv exq, u_, u_] [(.int r136)])) (fun t k => st136 _ k) ?_
                refine Goes.via (B := T136.setTop (mkF m 241 _ [(.long (r136.toInt64))])) (fun t k => XS.i2l X136.here hx rfl (hb hby at_240) rfl k) ?_
                obtain ⟨_, T146, L146, X146, ⟨r146, rfl, M146, K146, p146_0⟩, st146⟩ := callStatic X136 hx hZ135 hown135 (own_hw hw 44 rfl) (own_hw hw 45 rfl) (own_hw hw 2 rfl) (own_hw hw 46 rfl) (by decide) (argsL := [(.long (r136.toInt64))]) (rest := []) (own_m12 l Z a0 hw [] r136.toInt64 T132.heap n0 ((((((O0.keep K118 all0).keep K122 all0).ext E124).keep K127 (allS gn124 all0)).ext E129).keep K132 (allS gn129 all0)) ) K136 (lenOf own_pd7 rfl) (pc := 241) (Ls := #[lv_ x1, s_, lv_ x2, s_, iv x3, iv x4, iv x5, iv (x5 &&& (3 : Int32)), lv_ y8, s_, iv (1 : Int32), iv ca0, iv ca1, iv (0 : Int32), iv cd0, iv cd1, rv bs118, rv bs122, rv b124, rv b129, iv exq, u_, u_]) (st := [(.long (r136.toInt64))]) rfl (by rw [hml]; rfl) (hb hby at_241) (W := 0) (Nat.le_of_eq rfl) (by decide) (by decide) (by decide) (by decide)
                have N146 := Fr.app N136 M146
                refine Goes.via (B := T146.setTop (mkF m 244 #[lv_ x1, s_, lv_ x2, s_, iv x3, iv x4, iv x5, iv (x5 &&& (3 : Int32)), lv_ y8, s_, iv (1 : Int32), iv ca0, iv ca1, iv (0 : Int32), iv cd0, iv cd1, rv bs118, rv bs122, rv b124, rv b129, iv exq, u_, u_] [(.int r146)])) (fun t k => st146 _ k) ?_
                refine Goes.via (B := T146.setTop (mkF m 246 _ [])) (fun t k => XS.istore X146.here hx rfl (hb hby at_244) rfl (l' := #[lv_ x1, s_, lv_ x2, s_, iv x3, iv x4, iv x5, iv (x5 &&& (3 : Int32)), lv_ y8, s_, iv (1 : Int32), iv ca0, iv ca1, iv (0 : Int32), iv cd0, iv cd1, rv bs118, rv bs122, rv b124, rv b129, iv exq, iv r146, u_]) rfl k) ?_
                refine Goes.via (B := T146.setTop (mkF m 248 _ [(.ref b129)])) (fun t k => XS.aload X146.here hx rfl (hb hby at_246) rfl rfl k) ?_
                refine Goes.via (B := T146.setTop (mkF m 250 _ [(.ref b124), (.ref b129)])) (fun t k => XS.aload X146.here hx rfl (hb hby at_248) rfl rfl k) ?_
                obtain ⟨_, T147, L147, X147, ⟨r147, rfl, M147, K147, p147_0⟩, st147⟩ := callVirt X146 hx hZ135 hown135 (own_hw hw 35 rfl) (own_hw hw 36 rfl) (own_hw hw 38 rfl) (notFace_of_selects (args := #[]) (mvT hZ135 (own_hw hw 38 rfl))) (own_hw hw 37 rfl) (own_hw hw 14 rfl) (own_hw hw 39 rfl) (by decide) (argsL := [(.ref b124)]) (rest := []) (own_m28 l Z a0 hw [] b129 b124 y8 x1 bs122 bs118 z0 ts122 ks122 ts118 ks118 cd0 cd1 ca0 ca1 T132.heap n0 ((((((O0.keep K118 all0).keep K122 all0).ext E124).keep K127 (allS gn124 all0)).ext E129).keep K132 (allS gn129 all0)) hz0 hcd0 hcd1 hca0 hca1 O_1 f132_0 f132_1 f132_2 ((f127_0.ext E129).keep K132) c137 c138 ((((f122_0.ext E124).keep K127).ext E129).keep K132) c142 c143 c139 c140 c141 c145 c144) K146 f132_0 (lenOf own_pd18 rfl) (pc := 250) (Ls := #[lv_ x1, s_, lv_ x2, s_, iv x3, iv x4, iv x5, iv (x5 &&& (3 : Int32)), lv_ y8, s_, iv (1 : Int32), iv ca0, iv ca1, iv (0 : Int32), iv cd0, iv cd1, rv bs118, rv bs122, rv b124, rv b129, iv exq, iv r146, u_]) (st := [(.ref b124), (.ref b129)]) rfl (by rw [hml]; rfl) (hb hby at_250) (W := 0) (Nat.le_of_eq rfl) (by decide) (by decide) (by decide) (by decide)
                have N147 := Fr.app N146 M147
                refine Goes.via (B := T147.setTop (mkF m 253 #[lv_ x1, s_, lv_ x2, s_, iv x3, iv x4, iv x5, iv (x5 &&& (3 : Int32)), lv_ y8, s_, iv (1 : Int32), iv ca0, iv ca1, iv (0 : Int32), iv cd0, iv cd1, rv bs118, rv bs122, rv b124, rv b129, iv exq, iv r146, u_] [(.int r147)])) (fun t k => st147 _ k) ?_
                refine Goes.via (B := T147.setTop (mkF m 254 _ [(.long (r147.toInt64))])) (fun t k => XS.i2l X147.here hx rfl (hb hby at_253) rfl k) ?_
                obtain ⟨_, T148, L148, X148, ⟨r148, rfl, M148, K148, p148_0⟩, st148⟩ := callStatic X147 hx hZ135 hown135 (own_hw hw 44 rfl) (own_hw hw 45 rfl) (own_hw hw 2 rfl) (own_hw hw 46 rfl) (by decide) (argsL := [(.long (r147.toInt64))]) (rest := []) (own_m12 l Z a0 hw [] r147.toInt64 T132.heap n0 ((((((O0.keep K118 all0).keep K122 all0).ext E124).keep K127 (allS gn124 all0)).ext E129).keep K132 (allS gn129 all0)) ) K147 (lenOf own_pd7 rfl) (pc := 254) (Ls := #[lv_ x1, s_, lv_ x2, s_, iv x3, iv x4, iv x5, iv (x5 &&& (3 : Int32)), lv_ y8, s_, iv (1 : Int32), iv ca0, iv ca1, iv (0 : Int32), iv cd0, iv cd1, rv bs118, rv bs122, rv b124, rv b129, iv exq, iv r146, u_]) (st := [(.long (r147.toInt64))]) rfl (by rw [hml]; rfl) (hb hby at_254) (W := 0) (Nat.le_of_eq rfl) (by decide) (by decide) (by decide) (by decide)
                have N148 := Fr.app N147 M148
                refine Goes.via (B := T148.setTop (mkF m 257 #[lv_ x1, s_, lv_ x2, s_, iv x3, iv x4, iv x5, iv (x5 &&& (3 : Int32)), lv_ y8, s_, iv (1 : Int32), iv ca0, iv ca1, iv (0 : Int32), iv cd0, iv cd1, rv bs118, rv bs122, rv b124, rv b129, iv exq, iv r146, u_] [(.int r148)])) (fun t k => st148 _ k) ?_
                refine Goes.via (B := T148.setTop (mkF m 259 _ [])) (fun t k => XS.istore X148.here hx rfl (hb hby at_257) rfl (l' := #[lv_ x1, s_, lv_ x2, s_, iv x3, iv x4, iv x5, iv (x5 &&& (3 : Int32)), lv_ y8, s_, iv (1 : Int32), iv ca0, iv ca1, iv (0 : Int32), iv cd0, iv cd1, rv bs118, rv bs122, rv b124, rv b129, iv exq, iv r146, iv r148]) rfl k) ?_
                refine Goes.via (B := T148.setTop (mkF m 261 _ [(.int r146)])) (fun t k => XS.iload X148.here hx rfl (hb hby at_259) rfl k) ?_
                refine Goes.via (B := T148.setTop (mkF m 263 _ [(.int exq), (.int r146)])) (fun t k => XS.iload X148.here hx rfl (hb hby at_261) rfl k) ?_
                refine Goes.via (B := T148.setTop (mkF m 266 _ [])) (fun t k => XS.icmpNo X148.here hx rfl (hb hby at_263) rfl (XT.ii_ne_f (p146_0.trans ((own_sgl _).trans (p136_0.trans hex.symm)))) k) ?_
                refine Goes.via (B := T148.setTop (mkF m 268 _ [(.int r148)])) (fun t k => XS.iload X148.here hx rfl (hb hby at_266) rfl k) ?_
                refine Goes.via (B := T148.setTop (mkF m 270 _ [(.int exq), (.int r148)])) (fun t k => XS.iload X148.here hx rfl (hb hby at_268) rfl k) ?_
                refine Goes.via (B := T148.setTop (mkF m 271 _ [(.int (-exq)), (.int r148)])) (fun t k => XS.ineg X148.here hx rfl (hb hby at_270) rfl k) ?_
                refine Goes.via (B := T148.setTop (mkF m 274 _ [])) (fun t k => XS.icmpNo X148.here hx rfl (hb hby at_271) rfl (XT.ii_ne_f (by rw [p148_0, own_sgl, p147_0, hex]; exact own_antiE _ _ _ _ _ _ _ _ (by decide) (by decide))) k) ?_
                refine Goes.via (B := T148.setTop (mkF m 275 _ [(.int (1 : Int32))])) (fun t k => XS.iconst X148.here hx rfl (hb hby at_274) k) ?_
                refine Goes.via (B := T148.setTop (mkF m 279 _ [(.int (1 : Int32))])) (fun t k => XS.goto X148.here hx rfl (pc0 := 275) (pc' := 279) rfl (hb hby at_275) (by decide) (by decide) k) ?_
                exact finN (Q := (own_Q64 Z x1 x2 x3 x4 x5 z0 h0 n0)) (F := EndH Z consts_1) (C := (room_1).cells) (S := (room_1).slots) X148 hx (t := .boolean) Bd.returns (by simp) (z' := (1 : Int32)) rfl (hb hby at_279) K148 ⟨rfl, N148, trivial⟩ (lvH X148 hlk hS135 K148 (Nat.le_refl _) hZ135 hEL hR135 (by decide) (by decide))
              by_cases b149 : x1 < y8
              · refine Goes.via (B := T132.setTop (mkF m 197 _ [])) (fun t k => XS.ifNo X132.here hx rfl (hb hby at_194) rfl (XT.ll_ge_f b149) k) ?_
                refine Goes.via (B := T132.setTop (mkF m 198 _ [(.int (-1 : Int32))])) (fun t k => XS.iconst X132.here hx rfl (hb hby at_197) k) ?_
                refine Goes.via (B := T132.setTop (mkF m 200 _ [])) (fun t k => XS.istore X132.here hx rfl (hb hby at_198) rfl (l' := #[lv_ x1, s_, lv_ x2, s_, iv x3, iv x4, iv x5, iv (x5 &&& (3 : Int32)), lv_ y8, s_, iv (1 : Int32), iv ca0, iv ca1, iv (0 : Int32), iv cd0, iv cd1, rv bs118, rv bs122, rv b124, rv b129, iv (-1 : Int32), u_, u_]) rfl k) ?_
                refine Goes.via (B := T132.setTop (mkF m 233 _ [])) (fun t k => XS.goto X132.here hx rfl (pc0 := 200) (pc' := 233) rfl (hb hby at_200) (by decide) (by decide) k) ?_
                obtain ⟨Xr150, hSr150, hZr150, hor150⟩ := rebase X132 hS132 rfl (Nat.le_refl _) hZ132 hown132
                exact j134 T132 _ Xr150 rfl N132 hSr150 hZr150 hor150 (CHr.trans hR133 (CHv.at X132 hZ132 hEL hR133.1)) (-1 : Int32) (by unfold own_exp; rw [if_pos b149])
              · refine Goes.via (B := T132.setTop (mkF m 203 _ [])) (fun t k => XS.ifYes X132.here hx rfl (pc0 := 194) (pc' := 203) rfl (hb hby at_194) rfl (XT.ll_ge_t b149) (by decide) (by decide) k) ?_
                refine Goes.via (B := T132.setTop (mkF m 204 _ [(.long x1)])) (fun t k => XS.lloadN X132.here hx rfl (hb hby at_203) rfl k) ?_
                refine Goes.via (B := T132.setTop (mkF m 206 _ [(.long y8), (.long x1)])) (fun t k => XS.lload X132.here hx rfl (hb hby at_204) rfl k) ?_
                refine Goes.via (B := T132.setTop (mkF m 207 _ [(.int (XT.cmpL x1 y8))])) (fun t k => XT.lcmp X132.here hx rfl (hb hby at_206) rfl k) ?_
                by_cases b151 : y8 < x1
                · refine Goes.via (B := T132.setTop (mkF m 210 _ [])) (fun t k => XS.ifNo X132.here hx rfl (hb hby at_207) rfl (XT.ll_le_f b151) k) ?_
                  refine Goes.via (B := T132.setTop (mkF m 211 _ [(.int (1 : Int32))])) (fun t k => XS.iconst X132.here hx rfl (hb hby at_210) k) ?_
                  refine Goes.via (B := T132.setTop (mkF m 213 _ [])) (fun t k => XS.istore X132.here hx rfl (hb hby at_211) rfl (l' := #[lv_ x1, s_, lv_ x2, s_, iv x3, iv x4, iv x5, iv (x5 &&& (3 : Int32)), lv_ y8, s_, iv (1 : Int32), iv ca0, iv ca1, iv (0 : Int32), iv cd0, iv cd1, rv bs118, rv bs122, rv b124, rv b129, iv (1 : Int32), u_, u_]) rfl k) ?_
                  refine Goes.via (B := T132.setTop (mkF m 233 _ [])) (fun t k => XS.goto X132.here hx rfl (pc0 := 213) (pc' := 233) rfl (hb hby at_213) (by decide) (by decide) k) ?_
                  obtain ⟨Xr152, hSr152, hZr152, hor152⟩ := rebase X132 hS132 rfl (Nat.le_refl _) hZ132 hown132
                  exact j134 T132 _ Xr152 rfl N132 hSr152 hZr152 hor152 (CHr.trans hR133 (CHv.at X132 hZ132 hEL hR133.1)) (1 : Int32) (by unfold own_exp; rw [if_neg b149, if_pos b151])
                · refine Goes.via (B := T132.setTop (mkF m 216 _ [])) (fun t k => XS.ifYes X132.here hx rfl (pc0 := 207) (pc' := 216) rfl (hb hby at_207) rfl (XT.ll_le_t b151) (by decide) (by decide) k) ?_
                  refine Goes.via (B := T132.setTop (mkF m 218 _ [(.int (1 : Int32))])) (fun t k => XS.iload X132.here hx rfl (hb hby at_216) rfl k) ?_
                  refine Goes.via (B := T132.setTop (mkF m 220 _ [(.int ca0), (.int (1 : Int32))])) (fun t k => XS.iload X132.here hx rfl (hb hby at_218) rfl k) ?_
                  refine Goes.via (B := T132.setTop (mkF m 222 _ [(.int ca1), (.int ca0), (.int (1 : Int32))])) (fun t k => XS.iload X132.here hx rfl (hb hby at_220) rfl k) ?_
                  refine Goes.via (B := T132.setTop (mkF m 224 _ [(.int (0 : Int32)), (.int ca1), (.int ca0), (.int (1 : Int32))])) (fun t k => XS.iload X132.here hx rfl (hb hby at_222) rfl k) ?_
                  refine Goes.via (B := T132.setTop (mkF m 226 _ [(.int cd0), (.int (0 : Int32)), (.int ca1), (.int ca0), (.int (1 : Int32))])) (fun t k => XS.iload X132.here hx rfl (hb hby at_224) rfl k) ?_
                  refine Goes.via (B := T132.setTop (mkF m 228 _ [(.int cd1), (.int cd0), (.int (0 : Int32)), (.int ca1), (.int ca0), (.int (1 : Int32))])) (fun t k => XS.iload X132.here hx rfl (hb hby at_226) rfl k) ?_
                  obtain ⟨_, T153, L153, X153, ⟨r153, rfl, M153, K153, p153_0⟩, st153⟩ := callStatic X132 hx hZ132 hown132 (own_hw hw 47 rfl) (own_hw hw 48 rfl) (own_hw hw 2 rfl) (own_hw hw 49 rfl) (by decide) (argsL := [(.int (1 : Int32)), (.int ca0), (.int ca1), (.int (0 : Int32)), (.int cd0), (.int cd1)]) (rest := []) (own_m13 l Z a0 hw [] (1 : Int32) ca0 ca1 (0 : Int32) cd0 cd1 T132.heap n0 ((((((O0.keep K118 all0).keep K122 all0).ext E124).keep K127 (allS gn124 all0)).ext E129).keep K132 (allS gn129 all0)) ) rfl (lenOf own_pd19 rfl) (pc := 228) (Ls := #[lv_ x1, s_, lv_ x2, s_, iv x3, iv x4, iv x5, iv (x5 &&& (3 : Int32)), lv_ y8, s_, iv (1 : Int32), iv ca0, iv ca1, iv (0 : Int32), iv cd0, iv cd1, rv bs118, rv bs122, rv b124, rv b129, u_, u_, u_]) (st := [(.int cd1), (.int cd0), (.int (0 : Int32)), (.int ca1), (.int ca0), (.int (1 : Int32))]) rfl (by rw [hml]; rfl) (hb hby at_228) (W := 0) (Nat.le_of_eq rfl) (by decide) (by decide) (by decide) (by decide)
                  have N153 := Fr.app N132 M153
                  refine Goes.via (B := T153.setTop (mkF m 231 #[lv_ x1, s_, lv_ x2, s_, iv x3, iv x4, iv x5, iv (x5 &&& (3 : Int32)), lv_ y8, s_, iv (1 : Int32), iv ca0, iv ca1, iv (0 : Int32), iv cd0, iv cd1, rv bs118, rv bs122, rv b124, rv b129, u_, u_, u_] [(.int r153)])) (fun t k => st153 _ k) ?_
                  refine Goes.via (B := T153.setTop (mkF m 233 _ [])) (fun t k => XS.istore X153.here hx rfl (hb hby at_231) rfl (l' := #[lv_ x1, s_, lv_ x2, s_, iv x3, iv x4, iv x5, iv (x5 &&& (3 : Int32)), lv_ y8, s_, iv (1 : Int32), iv ca0, iv ca1, iv (0 : Int32), iv cd0, iv cd1, rv bs118, rv bs122, rv b124, rv b129, iv r153, u_, u_]) rfl k) ?_
                  obtain ⟨Xr154, hSr154, hZr154, hor154⟩ := rebase X153 hS132 K153 (Nat.le_refl _) hZ132 hown132
                  exact j134 T153 _ Xr154 K153 N153 hSr154 hZr154 hor154 (CHr.trans hR133 (CHv.at X153 hZ132 hEL hR133.1)) r153 (by unfold own_exp; rw [if_neg b149, if_neg b151]; exact p153_0)
            · refine Goes.via (B := T118.setTop (mkF m 154 _ [(.int (1 : Int32))])) (fun t k => XS.iload X118.here hx rfl (hb hby at_152) rfl k) ?_
              refine Goes.via (B := T118.setTop (mkF m 156 _ [(.int cd0), (.int (1 : Int32))])) (fun t k => XS.iload X118.here hx rfl (hb hby at_154) rfl k) ?_
              refine Goes.via (B := T118.setTop (mkF m 157 _ [(.int (cd0.toUInt32.toUInt16.toUInt32.toInt32)), (.int (1 : Int32))])) (fun t k => XS.i2c X118.here hx rfl (hb hby at_156) rfl k) ?_
              refine Goes.via (B := T118.setTop (mkF m 159 _ [(.int cd1), (.int (cd0.toUInt32.toUInt16.toUInt32.toInt32)), (.int (1 : Int32))])) (fun t k => XS.iload X118.here hx rfl (hb hby at_157) rfl k) ?_
              refine Goes.via (B := T118.setTop (mkF m 160 _ [(.int (cd1.toUInt32.toUInt16.toUInt32.toInt32)), (.int (cd0.toUInt32.toUInt16.toUInt32.toInt32)), (.int (1 : Int32))])) (fun t k => XS.i2c X118.here hx rfl (hb hby at_159) rfl k) ?_
              have q155 : (cd0.toUInt32.toUInt16.toUInt32.toInt32) = cd0 := own_i2c hcd0
              rw [q155]
              have q156 : (cd1.toUInt32.toUInt16.toUInt32.toInt32) = cd1 := own_i2c hcd1
              rw [q156]
              obtain ⟨_, T157, L157, X157, hS157, hZ157, hown157, hC157, ⟨bs157, ts157, ks157, rfl, M157, K157, f157_0, f157_1, f157_2, f157_3⟩, st157⟩ := callStaticH X118 hx hZ118 hS118 (Nat.le_refl _) hEL hR119.1 (sf := []) all0 hown118 (own_hw hw 0 rfl) (own_hw hw 1 rfl) (own_hw hw 2 rfl) (own_hw hw 3 rfl) (by decide) (argsL := [(.int (1 : Int32)), (.int cd0), (.int cd1)]) (rest := []) (own_m6 l Z a0 hw [] cd0 cd1 z0 T118.heap n0 (O0.keep K118 all0) hz0 hcd0 hcd1 O_1) rfl (lenOf own_pd16 rfl) (pc := 160) (Ls := #[lv_ x1, s_, lv_ x2, s_, iv x3, iv x4, iv x5, iv (x5 &&& (3 : Int32)), lv_ y8, s_, iv (1 : Int32), iv ca0, iv ca1, iv (1 : Int32), iv cd0, iv cd1, rv bs118, u_, u_, u_, u_, u_, u_]) (st := [(.int cd1), (.int cd0), (.int (1 : Int32))]) rfl (by rw [hml]; rfl) (hb hby at_160) (W := 0) (Nat.le_of_eq rfl) (by decide) (by decide) (by decide) (by decide)
              have N157 := Fr.app N118 M157
              have hq158 := hC157
              have hR158 := CHr.trans hR119 hq158
              refine Goes.via (B := T157.setTop (mkF m 163 #[lv_ x1, s_, lv_ x2, s_, iv x3, iv x4, iv x5, iv (x5 &&& (3 : Int32)), lv_ y8, s_, iv (1 : Int32), iv ca0, iv ca1, iv (1 : Int32), iv cd0, iv cd1, rv bs118, u_, u_, u_, u_, u_, u_] [(.ref bs157)])) (fun t k => st157 _ k) ?_
              refine Goes.via (B := T157.setTop (mkF m 165 _ [])) (fun t k => XS.astore X157.here hx rfl (hb hby at_163) rfl rfl (l' := #[lv_ x1, s_, lv_ x2, s_, iv x3, iv x4, iv x5, iv (x5 &&& (3 : Int32)), lv_ y8, s_, iv (1 : Int32), iv ca0, iv ca1, iv (1 : Int32), iv cd0, iv cd1, rv bs118, rv bs157, u_, u_, u_, u_, u_]) rfl k) ?_
              obtain ⟨T159, h159, X159, e159, E159, A159, D159, U159, st159⟩ := newO X157 hx hZ157 hown157 (own_hw hw 12 rfl) (own_hw hw 13 rfl) (own_hw hw 14 rfl) rfl (g := (mkF m 165 #[lv_ x1, s_, lv_ x2, s_, iv x3, iv x4, iv x5, iv (x5 &&& (3 : Int32)), lv_ y8, s_, iv (1 : Int32), iv ca0, iv ca1, iv (1 : Int32), iv cd0, iv cd1, rv bs118, rv bs157, u_, u_, u_, u_, u_] [])) rfl (hb hby at_165) (by decide) (by decide)
              obtain ⟨b159, g159⟩ : ∃ z, z = T157.heap.size := ⟨_, rfl⟩
              rw [← g159] at A159 D159 U159 st159
              have gn159 : n0 ≤ b159 := Nat.le_trans (old_le ((O0.keep K118 all0).keep K157 all0)) (Nat.le_of_eq g159.symm)
              have hq160 := CHr.ext E159 hR158.1
              have hR160 := CHr.trans hR158 hq160
              have sf161 := Safe.ext E159 hR158.1 (Safe.new (Nat.le_of_eq g159.symm))
              have F159_round : Fld Z h159 b159 "com/example/keelson/keelson/cluster/Ballot" "round" "J" (.long (0 : Int64)) := D159 (Or.inr (own_hw hw 32 rfl)) (ty := .long) (by decide)
              have F159_proposer : Fld Z h159 b159 "com/example/keelson/keelson/cluster/Ballot" "proposer" "Ljava/lang/String;" .null := D159 (Or.inr (own_hw hw 34 rfl)) (ty := (.object "java/lang/String")) (by decide)
              refine Goes.via (B := T159.setTop (mkF m 168 #[lv_ x1, s_, lv_ x2, s_, iv x3, iv x4, iv x5, iv (x5 &&& (3 : Int32)), lv_ y8, s_, iv (1 : Int32), iv ca0, iv ca1, iv (1 : Int32), iv cd0, iv cd1, rv bs118, rv bs157, u_, u_, u_, u_, u_] [(.ref b159)])) (fun t k => st159 _ k) ?_
              refine Goes.via (B := T159.setTop (mkF m 169 _ [(.ref b159), (.ref b159)])) (fun t k => XS.dup X159.here hx rfl (hb hby at_168) rfl rfl k) ?_
              refine Goes.via (B := T159.setTop (mkF m 170 _ [(.long x1), (.ref b159), (.ref b159)])) (fun t k => XS.lloadN X159.here hx rfl (hb hby at_169) rfl k) ?_
              refine Goes.via (B := T159.setTop (mkF m 172 _ [(.ref bs118), (.long x1), (.ref b159), (.ref b159)])) (fun t k => XS.aload X159.here hx rfl (hb hby at_170) rfl rfl k) ?_
              obtain ⟨_, T162, L162, X162, hS162, hZ162, hown162, hC162, ⟨rfl, M162, K162, f162_0, f162_1, f162_2⟩, st162⟩ := callInitH X159 hx hZ157 hS157 (Nat.le_trans (Nat.le_refl _) E159.1) hEL hR160.1 (sf := []) all0 rfl hown157 (own_hw hw 15 rfl) (own_hw hw 16 rfl) (own_hw hw 14 rfl) (own_hw hw 17 rfl) (by decide) (argsL := [(.long x1), (.ref bs118)]) (rest := [(.ref b159)]) (own_m10 l Z a0 hw [] b159 x1 bs118 h159 n0 (((O0.keep K118 all0).keep K157 all0).ext E159) gn159 A159 F159_round F159_proposer) e159 (lenOf own_pd17 rfl) (pc := 172) (Ls := #[lv_ x1, s_, lv_ x2, s_, iv x3, iv x4, iv x5, iv (x5 &&& (3 : Int32)), lv_ y8, s_, iv (1 : Int32), iv ca0, iv ca1, iv (1 : Int32), iv cd0, iv cd1, rv bs118, rv bs157, u_, u_, u_, u_, u_]) (st := [(.ref bs118), (.long x1), (.ref b159), (.ref b159)]) rfl (by rw [hml]; rfl) (hb hby at_172) (W := 1) (Nat.le_of_eq rfl) (by decide) (by decide) (by decide) (by decide)
              have N162 := Fr.app N157 M162
              have hq163 := hC162
              have hR163 := CHr.trans hR160 hq163
              refine Goes.via (B := T162.setTop (mkF m 175 #[lv_ x1, s_, lv_ x2, s_, iv x3, iv x4, iv x5, iv (x5 &&& (3 : Int32)), lv_ y8, s_, iv (1 : Int32), iv ca0, iv ca1, iv (1 : Int32), iv cd0, iv cd1, rv bs118, rv bs157, u_, u_, u_, u_, u_] [(.ref b159)])) (fun t k => st162 _ k) ?_
              refine Goes.via (B := T162.setTop (mkF m 177 _ [])) (fun t k => XS.astore X162.here hx rfl (hb hby at_175) rfl rfl (l' := #[lv_ x1, s_, lv_ x2, s_, iv x3, iv x4, iv x5, iv (x5 &&& (3 : Int32)), lv_ y8, s_, iv (1 : Int32), iv ca0, iv ca1, iv (1 : Int32), iv cd0, iv cd1, rv bs118, rv bs157, rv b159, u_, u_, u_, u_]) rfl k) ?_
              obtain ⟨T164, h164, X164, e164, E164, A164, D164, U164, st164⟩ := newO X162 hx hZ162 hown162 (own_hw hw 12 rfl) (own_hw hw 13 rfl) (own_hw hw 14 rfl) rfl (g := (mkF m 177 #[lv_ x1, s_, lv_ x2, s_, iv x3, iv x4, iv x5, iv (x5 &&& (3 : Int32)), lv_ y8, s_, iv (1 : Int32), iv ca0, iv ca1, iv (1 : Int32), iv cd0, iv cd1, rv bs118, rv bs157, rv b159, u_, u_, u_, u_] [])) rfl (hb hby at_177) (by decide) (by decide)
              obtain ⟨b164, g164⟩ : ∃ z, z = T162.heap.size := ⟨_, rfl⟩
              rw [← g164] at A164 D164 U164 st164
              have gn164 : n0 ≤ b164 := Nat.le_trans (old_le ((((O0.keep K118 all0).keep K157 all0).ext E159).keep K162 (allS gn159 all0))) (Nat.le_of_eq g164.symm)
              have hq165 := CHr.ext E164 hR163.1
              have hR165 := CHr.trans hR163 hq165
              have sf166 := Safe.ext E164 hR163.1 (Safe.new (Nat.le_of_eq g164.symm))
              have F164_round : Fld Z h164 b164 "com/example/keelson/keelson/cluster/Ballot" "round" "J" (.long (0 : Int64)) := D164 (Or.inr (own_hw hw 32 rfl)) (ty := .long) (by decide)
              have F164_proposer : Fld Z h164 b164 "com/example/keelson/keelson/cluster/Ballot" "proposer" "Ljava/lang/String;" .null := D164 (Or.inr (own_hw hw 34 rfl)) (ty := (.object "java/lang/String")) (by decide)
              refine Goes.via (B := T164.setTop (mkF m 180 #[lv_ x1, s_, lv_ x2, s_, iv x3, iv x4, iv x5, iv (x5 &&& (3 : Int32)), lv_ y8, s_, iv (1 : Int32), iv ca0, iv ca1, iv (1 : Int32), iv cd0, iv cd1, rv bs118, rv bs157, rv b159, u_, u_, u_, u_] [(.ref b164)])) (fun t k => st164 _ k) ?_
              refine Goes.via (B := T164.setTop (mkF m 181 _ [(.ref b164), (.ref b164)])) (fun t k => XS.dup X164.here hx rfl (hb hby at_180) rfl rfl k) ?_
              refine Goes.via (B := T164.setTop (mkF m 183 _ [(.long y8), (.ref b164), (.ref b164)])) (fun t k => XS.lload X164.here hx rfl (hb hby at_181) rfl k) ?_
              refine Goes.via (B := T164.setTop (mkF m 185 _ [(.ref bs157), (.long y8), (.ref b164), (.ref b164)])) (fun t k => XS.aload X164.here hx rfl (hb hby at_183) rfl rfl k) ?_
              obtain ⟨_, T167, L167, X167, hS167, hZ167, hown167, hC167, ⟨rfl, M167, K167, f167_0, f167_1, f167_2⟩, st167⟩ := callInitH X164 hx hZ162 hS162 (Nat.le_trans (Nat.le_refl _) E164.1) hEL hR165.1 (sf := []) all0 rfl hown162 (own_hw hw 15 rfl) (own_hw hw 16 rfl) (own_hw hw 14 rfl) (own_hw hw 17 rfl) (by decide) (argsL := [(.long y8), (.ref bs157)]) (rest := [(.ref b164)]) (own_m10 l Z a0 hw [] b164 y8 bs157 h164 n0 (((((O0.keep K118 all0).keep K157 all0).ext E159).keep K162 (allS gn159 all0)).ext E164) gn164 A164 F164_round F164_proposer) e164 (lenOf own_pd17 rfl) (pc := 185) (Ls := #[lv_ x1, s_, lv_ x2, s_, iv x3, iv x4, iv x5, iv (x5 &&& (3 : Int32)), lv_ y8, s_, iv (1 : Int32), iv ca0, iv ca1, iv (1 : Int32), iv cd0, iv cd1, rv bs118, rv bs157, rv b159, u_, u_, u_, u_]) (st := [(.ref bs157), (.long y8), (.ref b164), (.ref b164)]) rfl (by rw [hml]; rfl) (hb hby at_185) (W := 1) (Nat.le_of_eq rfl) (by decide) (by decide) (by decide) (by decide)
              have N167 := Fr.app N162 M167
              have hq168 := hC167
              have hR168 := CHr.trans hR165 hq168
              refine Goes.via (B := T167.setTop (mkF m 188 #[lv_ x1, s_, lv_ x2, s_, iv x3, iv x4, iv x5, iv (x5 &&& (3 : Int32)), lv_ y8, s_, iv (1 : Int32), iv ca0, iv ca1, iv (1 : Int32), iv cd0, iv cd1, rv bs118, rv bs157, rv b159, u_, u_, u_, u_] [(.ref b164)])) (fun t k => st167 _ k) ?_
              refine Goes.via (B := T167.setTop (mkF m 190 _ [])) (fun t k => XS.astore X167.here hx rfl (hb hby at_188) rfl rfl (l' := #[lv_ x1, s_, lv_ x2, s_, iv x3, iv x4, iv x5, iv (x5 &&& (3 : Int32)), lv_ y8, s_, iv (1 : Int32), iv ca0, iv ca1, iv (1 : Int32), iv cd0, iv cd1, rv bs118, rv bs157, rv b159, rv b164, u_, u_, u_]) rfl k) ?_
              refine Goes.via (B := T167.setTop (mkF m 191 _ [(.long x1)])) (fun t k => XS.lloadN X167.here hx rfl (hb hby at_190) rfl k) ?_
              refine Goes.via (B := T167.setTop (mkF m 193 _ [(.long y8), (.long x1)])) (fun t k => XS.lload X167.here hx rfl (hb hby at_191) rfl k) ?_
              refine Goes.via (B := T167.setTop (mkF m 194 _ [(.int (XT.cmpL x1 y8))])) (fun t k => XT.lcmp X167.here hx rfl (hb hby at_193) rfl k) ?_
              have j169 : ∀ (T170 : State) (lc170 : List Loc) (X170 : Stand p l e room_1 (s.setVm T170.vm) m #[(.long x1), (.long x2), (.int x3), (.int x4), (.int x5)] below meth c T170 lc170 10 86) (e170 : T170.heap = T167.heap) (N170 : Fr n0 lc170) (hS170 : s.Since T170.vm T167.heap.size) (hZ170 : Z.Warmed39 T170.vm) (hown170 : T170.vm.findClass "com/example/keelson/keelson/cluster/BallotCompareToPinLaw" = some m.cls) (hR170 : CHr Z consts_1 s.vm s.heap T170.vm T167.heap) (exq : Int32) (hex : exq = own_exp x1 y8 (1 : Int32) ca0 ca1 (1 : Int32) cd0 cd1) , Goes p.tables e below (fun t o => ∃ v L, o = .returned v ∧ (own_Q64 Z x1 x2 x3 x4 x5 z0 h0 n0) v t.heap L ∧ EndH Z consts_1 s o t L (room_1).cells (room_1).slots) (T170.setTop (mkF m 233 #[lv_ x1, s_, lv_ x2, s_, iv x3, iv x4, iv x5, iv (x5 &&& (3 : Int32)), lv_ y8, s_, iv (1 : Int32), iv ca0, iv ca1, iv (1 : Int32), iv cd0, iv cd1, rv bs118, rv bs157, rv b159, rv b164, iv exq, u_, u_] [])) := by
                intro T170 lc170 X170 e170 N170 hS170 hZ170 hown170 hR170 exq hex
                refine Goes.via (B := T170.setTop (mkF m 235 _ [(.ref b159)])) (fun t k => XS.aload X170.here hx rfl (hb hby at_233) rfl rfl k) ?_
                refine Goes.via (B := T170.setTop (mkF m 237 _ [(.ref b164), (.ref b159)])) (fun t k => XS.aload X170.here hx rfl (hb hby at_235) rfl rfl k) ?_
                have c172 : Fld Z T167.heap b159 "com/example/keelson/keelson/cluster/Ballot" "round" "J" (.long x1) := ((f162_1.ext E164).keep K167 (ninS (Nat.ne_of_lt (Nat.lt_of_lt_of_le (Nat.le_trans A159.lt K162.1) (Nat.le_of_eq g164.symm))) nin0))
                have c173 : Fld Z T167.heap b159 "com/example/keelson/keelson/cluster/Ballot" "proposer" "Ljava/lang/String;" (.ref bs118) := ((f162_2.ext E164).keep K167 (ninS (Nat.ne_of_lt (Nat.lt_of_lt_of_le (Nat.le_trans A159.lt K162.1) (Nat.le_of_eq g164.symm))) nin0))
                have c174 : Exa Z T167.heap bs118 "java/lang/String" := (((((f118_0.keep K157).ext E159).keep K162).ext E164).keep K167)
                have c175 : Fld Z T167.heap bs118 "java/lang/String" "value" "[B" (.ref ts118) := (((((f118_1.keep K157 nin0).ext E159).keep K162 (ninS (Nat.ne_of_lt (Nat.lt_of_lt_of_le (Nat.le_trans f118_0.lt K157.1) (Nat.le_of_eq g159.symm))) nin0)).ext E164).keep K167 (ninS (Nat.ne_of_lt (Nat.lt_of_lt_of_le (Nat.le_trans (Nat.le_trans (Nat.le_trans f118_0.lt K157.1) E159.1) K162.1) (Nat.le_of_eq g164.symm))) nin0))
                have c176 : Fld Z T167.heap bs118 "java/lang/String" "coder" "B" (.int (0 : Int32)) := (((((f118_2.keep K157 nin0).ext E159).keep K162 (ninS (Nat.ne_of_lt (Nat.lt_of_lt_of_le (Nat.le_trans f118_0.lt K157.1) (Nat.le_of_eq g159.symm))) nin0)).ext E164).keep K167 (ninS (Nat.ne_of_lt (Nat.lt_of_lt_of_le (Nat.le_trans (Nat.le_trans (Nat.le_trans f118_0.lt K157.1) E159.1) K162.1) (Nat.le_of_eq g164.symm))) nin0))
                have c177 : Fld Z T167.heap bs157 "java/lang/String" "value" "[B" (.ref ts157) := ((((f157_1.ext E159).keep K162 (ninS (Nat.ne_of_lt (Nat.lt_of_lt_of_le f157_0.lt (Nat.le_of_eq g159.symm))) nin0)).ext E164).keep K167 (ninS (Nat.ne_of_lt (Nat.lt_of_lt_of_le (Nat.le_trans (Nat.le_trans f157_0.lt E159.1) K162.1) (Nat.le_of_eq g164.symm))) nin0))
                have c178 : Fld Z T167.heap bs157 "java/lang/String" "coder" "B" (.int (0 : Int32)) := ((((f157_2.ext E159).keep K162 (ninS (Nat.ne_of_lt (Nat.lt_of_lt_of_le f157_0.lt (Nat.le_of_eq g159.symm))) nin0)).ext E164).keep K167 (ninS (Nat.ne_of_lt (Nat.lt_of_lt_of_le (Nat.le_trans (Nat.le_trans f157_0.lt E159.1) K162.1) (Nat.le_of_eq g164.symm))) nin0))
                have c179 : Arv Z T167.heap ts118 ks118 .byte (1 : Int32) [(.int ca0.toInt8.toInt32)] (.int (0 : Int32)) := (((((f118_3.keep K157 nin0).ext E159).keep K162 (ninS (Nat.ne_of_lt (Nat.lt_of_lt_of_le (Nat.le_trans f118_3.lt K157.1) (Nat.le_of_eq g159.symm))) nin0)).ext E164).keep K167 (ninS (Nat.ne_of_lt (Nat.lt_of_lt_of_le (Nat.le_trans (Nat.le_trans (Nat.le_trans f118_3.lt K157.1) E159.1) K162.1) (Nat.le_of_eq g164.symm))) nin0))
                have c180 : Arv Z T167.heap ts157 ks157 .byte (1 : Int32) [(.int cd0.toInt8.toInt32)] (.int (0 : Int32)) := ((((f157_3.ext E159).keep K162 (ninS (Nat.ne_of_lt (Nat.lt_of_lt_of_le f157_3.lt (Nat.le_of_eq g159.symm))) nin0)).ext E164).keep K167 (ninS (Nat.ne_of_lt (Nat.lt_of_lt_of_le (Nat.le_trans (Nat.le_trans f157_3.lt E159.1) K162.1) (Nat.le_of_eq g164.symm))) nin0))
                obtain ⟨_, T171, L171, X171, ⟨r171, rfl, M171, K171, p171_0⟩, st171⟩ := callVirt X170 hx hZ170 hown170 (own_hw hw 35 rfl) (own_hw hw 36 rfl) (own_hw hw 38 rfl) (notFace_of_selects (args := #[]) (mvT hZ170 (own_hw hw 38 rfl))) (own_hw hw 37 rfl) (own_hw hw 14 rfl) (own_hw hw 39 rfl) (by decide) (argsL := [(.ref b164)]) (rest := []) (own_m43 l Z a0 hw [] b159 b164 x1 y8 bs118 bs157 z0 ts118 ks118 ts157 ks157 ca0 ca1 cd0 cd1 T167.heap n0 ((((((O0.keep K118 all0).keep K157 all0).ext E159).keep K162 (allS gn159 all0)).ext E164).keep K167 (allS gn164 all0)) hz0 hca0 hca1 hcd0 hcd1 O_1 ((f162_0.ext E164).keep K167) c172 c173 f167_0 f167_1 f167_2 c174 c175 c176 ((((f157_0.ext E159).keep K162).ext E164).keep K167) c177 c178 c179 c180) e170 ((f162_0.ext E164).keep K167) (lenOf own_pd18 rfl) (pc := 237) (Ls := #[lv_ x1, s_, lv_ x2, s_, iv x3, iv x4, iv x5, iv (x5 &&& (3 : Int32)), lv_ y8, s_, iv (1 : Int32), iv ca0, iv ca1, iv (1 : Int32), iv cd0, iv cd1, rv bs118, rv bs157, rv b159, rv b164, iv exq, u_, u_]) (st := [(.ref b164), (.ref b159)]) rfl (by rw [hml]; rfl) (hb hby at_237) (W := 0) (Nat.le_of_eq rfl) (by decide) (by decide) (by decide) (by decide)
                have N171 := Fr.app N170 M171
                refine Goes.via (B := T171.setTop (mkF m 240 #[lv_ x1, s_, lv_ x2, s_, iv x3, iv x4, iv x5, iv (x5 &&& (3 : Int32)), lv_ y8, s_, iv (1 : Int32), iv ca0, iv ca1, iv (1 : Int32), iv cd0, iv cd1, rv bs118, rv bs157, rv b159, rv b164, iv exq, u_, u_] [(.int r171)])) (fun t k => st171 _ k) ?_
                refine Goes.via (B := T171.setTop (mkF m 241 _ [(.long (r171.toInt64))])) (fun t k => XS.i2l X171.here hx rfl (hb hby at_240) rfl k) ?_
                obtain ⟨_, T181, L181, X181, ⟨r181, rfl, M181, K181, p181_0⟩, st181⟩ := callStatic X171 hx hZ170 hown170 (own_hw hw 44 rfl) (own_hw hw 45 rfl) (own_hw hw 2 rfl) (own_hw hw 46 rfl) (by decide) (argsL := [(.long (r171.toInt64))]) (rest := []) (own_m12 l Z a0 hw [] r171.toInt64 T167.heap n0 ((((((O0.keep K118 all0).keep K157 all0).ext E159).keep K162 (allS gn159 all0)).ext E164).keep K167 (allS gn164 all0)) ) K171 (lenOf own_pd7 rfl) (pc := 241) (Ls := #[lv_ x1, s_, lv_ x2, s_, iv x3, iv x4, iv x5, iv (x5 &&& (3 : Int32)), lv_ y8, s_, iv (1 : Int32), iv ca0, iv ca1, iv (1 : Int32), iv cd0, iv cd1, rv bs118, rv bs157, rv b159, rv b164, iv exq, u_, u_]) (st := [(.long (r171.toInt64))]) rfl (by rw [hml]; rfl) (hb hby at_241) (W := 0) (Nat.le_of_eq rfl) (by decide) (by decide) (by decide) (by decide)
                have N181 := Fr.app N171 M181
                refine Goes.via (B := T181.setTop (mkF m 244 #[lv_ x1, s_, lv_ x2, s_, iv x3, iv x4, iv x5, iv (x5 &&& (3 : Int32)), lv_ y8, s_, iv (1 : Int32), iv ca0, iv ca1, iv (1 : Int32), iv cd0, iv cd1, rv bs118, rv bs157, rv b159, rv b164, iv exq, u_, u_] [(.int r181)])) (fun t k => st181 _ k) ?_
                refine Goes.via (B := T181.setTop (mkF m 246 _ [])) (fun t k => XS.istore X181.here hx rfl (hb hby at_244) rfl (l' := #[lv_ x1, s_, lv_ x2, s_, iv x3, iv x4, iv x5, iv (x5 &&& (3 : Int32)), lv_ y8, s_, iv (1 : Int32), iv ca0, iv ca1, iv (1 : Int32), iv cd0, iv cd1, rv bs118, rv bs157, rv b159, rv b164, iv exq, iv r181, u_]) rfl k) ?_
                refine Goes.via (B := T181.setTop (mkF m 248 _ [(.ref b164)])) (fun t k => XS.aload X181.here hx rfl (hb hby at_246) rfl rfl k) ?_
                refine Goes.via (B := T181.setTop (mkF m 250 _ [(.ref b159), (.ref b164)])) (fun t k => XS.aload X181.here hx rfl (hb hby at_248) rfl rfl k) ?_
                obtain ⟨_, T182, L182, X182, ⟨r182, rfl, M182, K182, p182_0⟩, st182⟩ := callVirt X181 hx hZ170 hown170 (own_hw hw 35 rfl) (own_hw hw 36 rfl) (own_hw hw 38 rfl) (notFace_of_selects (args := #[]) (mvT hZ170 (own_hw hw 38 rfl))) (own_hw hw 37 rfl) (own_hw hw 14 rfl) (own_hw hw 39 rfl) (by decide) (argsL := [(.ref b159)]) (rest := []) (own_m43 l Z a0 hw [] b164 b159 y8 x1 bs157 bs118 z0 ts157 ks157 ts118 ks118 cd0 cd1 ca0 ca1 T167.heap n0 ((((((O0.keep K118 all0).keep K157 all0).ext E159).keep K162 (allS gn159 all0)).ext E164).keep K167 (allS gn164 all0)) hz0 hcd0 hcd1 hca0 hca1 O_1 f167_0 f167_1 f167_2 ((f162_0.ext E164).keep K167) c172 c173 ((((f157_0.ext E159).keep K162).ext E164).keep K167) c177 c178 c174 c175 c176 c180 c179) K181 f167_0 (lenOf own_pd18 rfl) (pc := 250) (Ls := #[lv_ x1, s_, lv_ x2, s_, iv x3, iv x4, iv x5, iv (x5 &&& (3 : Int32)), lv_ y8, s_, iv (1 : Int32), iv ca0, iv ca1, iv (1 : Int32), iv cd0, iv cd1, rv bs118, rv bs157, rv b159, rv b164, iv exq, iv r181, u_]) (st := [(.ref b159), (.ref b164)]) rfl (by rw [hml]; rfl) (hb hby at_250) (W := 0) (Nat.le_of_eq rfl) (by decide) (by decide) (by decide) (by decide)
                have N182 := Fr.app N181 M182
                refine Goes.via (B := T182.setTop (mkF m 253 #[lv_ x1, s_, lv_ x2, s_, iv x3, iv x4, iv x5, iv (x5 &&& (3 : Int32)), lv_ y8, s_, iv (1 : Int32), iv ca0, iv ca1, iv (1 : Int32), iv cd0, iv cd1, rv bs118, rv bs157, rv b159, rv b164, iv exq, iv r181, u_] [(.int r182)])) (fun t k => st182 _ k) ?_
                refine Goes.via (B := T182.setTop (mkF m 254 _ [(.long (r182.toInt64))])) (fun t k => XS.i2l X182.here hx rfl (hb hby at_253) rfl k) ?_
                obtain ⟨_, T183, L183, X183, ⟨r183, rfl, M183, K183, p183_0⟩, st183⟩ := callStatic X182 hx hZ170 hown170 (own_hw hw 44 rfl) (own_hw hw 45 rfl) (own_hw hw 2 rfl) (own_hw hw 46 rfl) (by decide) (argsL := [(.long (r182.toInt64))]) (rest := []) (own_m12 l Z a0 hw [] r182.toInt64 T167.heap n0 ((((((O0.keep K118 all0).keep K157 all0).ext E159).keep K162 (allS gn159 all0)).ext E164).keep K167 (allS gn164 all0)) ) K182 (lenOf own_pd7 rfl) (pc := 254) (Ls := #[lv_ x1, s_, lv_ x2, s_, iv x3, iv x4, iv x5, iv (x5 &&& (3 : Int32)), lv_ y8, s_, iv (1 : Int32), iv ca0, iv ca1, iv (1 : Int32), iv cd0, iv cd1, rv bs118, rv bs157, rv b159, rv b164, iv exq, iv r181, u_]) (st := [(.long (r182.toInt64))]) rfl (by rw [hml]; rfl) (hb hby at_254) (W := 0) (Nat.le_of_eq rfl) (by decide) (by decide) (by decide) (by decide)
                have N183 := Fr.app N182 M183
                refine Goes.via (B := T183.setTop (mkF m 257 #[lv_ x1, s_, lv_ x2, s_, iv x3, iv x4, iv x5, iv (x5 &&& (3 : Int32)), lv_ y8, s_, iv (1 : Int32), iv ca0, iv ca1, iv (1 : Int32), iv cd0, iv cd1, rv bs118, rv bs157, rv b159, rv b164, iv exq, iv r181, u_] [(.int r183)])) (fun t k => st183 _ k) ?_
                refine Goes.via (B := T183.setTop (mkF m 259 _ [])) (fun t k => XS.istore X183.here hx rfl (hb hby at_257) rfl (l' := #[lv_ x1, s_, lv_ x2, s_, iv x3, iv x4, iv x5, iv (x5 &&& (3 : Int32)), lv_ y8, s_, iv (1 : Int32), iv ca0, iv ca1, iv (1 : Int32), iv cd0, iv cd1, rv bs118, rv bs157, rv b159, rv b164, iv exq, iv r181, iv r183]) rfl k) ?_
                refine Goes.via (B := T183.setTop (mkF m 261 _ [(.int r181)])) (fun t k => XS.iload X183.here hx rfl (hb hby at_259) rfl k) ?_
                refine Goes.via (B := T183.setTop (mkF m 263 _ [(.int exq), (.int r181)])) (fun t k => XS.iload X183.here hx rfl (hb hby at_261) rfl k) ?_
                refine Goes.via (B := T183.setTop (mkF m 266 _ [])) (fun t k => XS.icmpNo X183.here hx rfl (hb hby at_263) rfl (XT.ii_ne_f (p181_0.trans ((own_sgl _).trans (p171_0.trans hex.symm)))) k) ?_
                refine Goes.via (B := T183.setTop (mkF m 268 _ [(.int r183)])) (fun t k => XS.iload X183.here hx rfl (hb hby at_266) rfl k) ?_
                refine Goes.via (B := T183.setTop (mkF m 270 _ [(.int exq), (.int r183)])) (fun t k => XS.iload X183.here hx rfl (hb hby at_268) rfl k) ?_
                refine Goes.via (B := T183.setTop (mkF m 271 _ [(.int (-exq)), (.int r183)])) (fun t k => XS.ineg X183.here hx rfl (hb hby at_270) rfl k) ?_
                refine Goes.via (B := T183.setTop (mkF m 274 _ [])) (fun t k => XS.icmpNo X183.here hx rfl (hb hby at_271) rfl (XT.ii_ne_f (by rw [p183_0, own_sgl, p182_0, hex]; exact own_antiE _ _ _ _ _ _ _ _ (by decide) (by decide))) k) ?_
                refine Goes.via (B := T183.setTop (mkF m 275 _ [(.int (1 : Int32))])) (fun t k => XS.iconst X183.here hx rfl (hb hby at_274) k) ?_
                refine Goes.via (B := T183.setTop (mkF m 279 _ [(.int (1 : Int32))])) (fun t k => XS.goto X183.here hx rfl (pc0 := 275) (pc' := 279) rfl (hb hby at_275) (by decide) (by decide) k) ?_
                exact finN (Q := (own_Q64 Z x1 x2 x3 x4 x5 z0 h0 n0)) (F := EndH Z consts_1) (C := (room_1).cells) (S := (room_1).slots) X183 hx (t := .boolean) Bd.returns (by simp) (z' := (1 : Int32)) rfl (hb hby at_279) K183 ⟨rfl, N183, trivial⟩ (lvH X183 hlk hS170 K183 (Nat.le_refl _) hZ170 hEL hR170 (by decide) (by decide))
              by_cases b184 : x1 < y8
              · refine Goes.via (B := T167.setTop (mkF m 197 _ [])) (fun t k => XS.ifNo X167.here hx rfl (hb hby at_194) rfl (XT.ll_ge_f b184) k) ?_
                refine Goes.via (B := T167.setTop (mkF m 198 _ [(.int (-1 : Int32))])) (fun t k => XS.iconst X167.here hx rfl (hb hby at_197) k) ?_
                refine Goes.via (B := T167.setTop (mkF m 200 _ [])) (fun t k => XS.istore X167.here hx rfl (hb hby at_198) rfl (l' := #[lv_ x1, s_, lv_ x2, s_, iv x3, iv x4, iv x5, iv (x5 &&& (3 : Int32)), lv_ y8, s_, iv (1 : Int32), iv ca0, iv ca1, iv (1 : Int32), iv cd0, iv cd1, rv bs118, rv bs157, rv b159, rv b164, iv (-1 : Int32), u_, u_]) rfl k) ?_
                refine Goes.via (B := T167.setTop (mkF m 233 _ [])) (fun t k => XS.goto X167.here hx rfl (pc0 := 200) (pc' := 233) rfl (hb hby at_200) (by decide) (by decide) k) ?_
                obtain ⟨Xr185, hSr185, hZr185, hor185⟩ := rebase X167 hS167 rfl (Nat.le_refl _) hZ167 hown167
                exact j169 T167 _ Xr185 rfl N167 hSr185 hZr185 hor185 (CHr.trans hR168 (CHv.at X167 hZ167 hEL hR168.1)) (-1 : Int32) (by unfold own_exp; rw [if_pos b184])
              · refine Goes.via (B := T167.setTop (mkF m 203 _ [])) (fun t k => XS.ifYes X167.here hx rfl (pc0 := 194) (pc' := 203) rfl (hb hby at_194) rfl (XT.ll_ge_t b184) (by decide) (by decide) k) ?_
                refine Goes.via (B := T167.setTop (mkF m 204 _ [(.long x1)])) (fun t k => XS.lloadN X167.here hx rfl (hb hby at_203) rfl k) ?_
                refine Goes.via (B := T167.setTop (mkF m 206 _ [(.long y8), (.long x1)])) (fun t k => XS.lload X167.here hx rfl (hb hby at_204) rfl k) ?_
                refine Goes.via (B := T167.setTop (mkF m 207 _ [(.int (XT.cmpL x1 y8))])) (fun t k => XT.lcmp X167.here hx rfl (hb hby at_206) rfl k) ?_
                by_cases b186 : y8 < x1
                · refine Goes.via (B := T167.setTop (mkF m 210 _ [])) (fun t k => XS.ifNo X167.here hx rfl (hb hby at_207) rfl (XT.ll_le_f b186) k) ?_
                  refine Goes.via (B := T167.setTop (mkF m 211 _ [(.int (1 : Int32))])) (fun t k => XS.iconst X167.here hx rfl (hb hby at_210) k) ?_
                  refine Goes.via (B := T167.setTop (mkF m 213 _ [])) (fun t k => XS.istore X167.here hx rfl (hb hby at_211) rfl (l' := #[lv_ x1, s_, lv_ x2, s_, iv x3, iv x4, iv x5, iv (x5 &&& (3 : Int32)), lv_ y8, s_, iv (1 : Int32), iv ca0, iv ca1, iv (1 : Int32), iv cd0, iv cd1, rv bs118, rv bs157, rv b159, rv b164, iv (1 : Int32), u_, u_]) rfl k) ?_
                  refine Goes.via (B := T167.setTop (mkF m 233 _ [])) (fun t k => XS.goto X167.here hx rfl (pc0 := 213) (pc' := 233) rfl (hb hby at_213) (by decide) (by decide) k) ?_
                  obtain ⟨Xr187, hSr187, hZr187, hor187⟩ := rebase X167 hS167 rfl (Nat.le_refl _) hZ167 hown167
                  exact j169 T167 _ Xr187 rfl N167 hSr187 hZr187 hor187 (CHr.trans hR168 (CHv.at X167 hZ167 hEL hR168.1)) (1 : Int32) (by unfold own_exp; rw [if_neg b184, if_pos b186])
                · refine Goes.via (B := T167.setTop (mkF m 216 _ [])) (fun t k => XS.ifYes X167.here hx rfl (pc0 := 207) (pc' := 216) rfl (hb hby at_207) rfl (XT.ll_le_t b186) (by decide) (by decide) k) ?_
                  refine Goes.via (B := T167.setTop (mkF m 218 _ [(.int (1 : Int32))])) (fun t k => XS.iload X167.here hx rfl (hb hby at_216) rfl k) ?_
                  refine Goes.via (B := T167.setTop (mkF m 220 _ [(.int ca0), (.int (1 : Int32))])) (fun t k => XS.iload X167.here hx rfl (hb hby at_218) rfl k) ?_
                  refine Goes.via (B := T167.setTop (mkF m 222 _ [(.int ca1), (.int ca0), (.int (1 : Int32))])) (fun t k => XS.iload X167.here hx rfl (hb hby at_220) rfl k) ?_
                  refine Goes.via (B := T167.setTop (mkF m 224 _ [(.int (1 : Int32)), (.int ca1), (.int ca0), (.int (1 : Int32))])) (fun t k => XS.iload X167.here hx rfl (hb hby at_222) rfl k) ?_
                  refine Goes.via (B := T167.setTop (mkF m 226 _ [(.int cd0), (.int (1 : Int32)), (.int ca1), (.int ca0), (.int (1 : Int32))])) (fun t k => XS.iload X167.here hx rfl (hb hby at_224) rfl k) ?_
                  refine Goes.via (B := T167.setTop (mkF m 228 _ [(.int cd1), (.int cd0), (.int (1 : Int32)), (.int ca1), (.int ca0), (.int (1 : Int32))])) (fun t k => XS.iload X167.here hx rfl (hb hby at_226) rfl k) ?_
                  obtain ⟨_, T188, L188, X188, ⟨r188, rfl, M188, K188, p188_0⟩, st188⟩ := callStatic X167 hx hZ167 hown167 (own_hw hw 47 rfl) (own_hw hw 48 rfl) (own_hw hw 2 rfl) (own_hw hw 49 rfl) (by decide) (argsL := [(.int (1 : Int32)), (.int ca0), (.int ca1), (.int (1 : Int32)), (.int cd0), (.int cd1)]) (rest := []) (own_m13 l Z a0 hw [] (1 : Int32) ca0 ca1 (1 : Int32) cd0 cd1 T167.heap n0 ((((((O0.keep K118 all0).keep K157 all0).ext E159).keep K162 (allS gn159 all0)).ext E164).keep K167 (allS gn164 all0)) ) rfl (lenOf own_pd19 rfl) (pc := 228) (Ls := #[lv_ x1, s_, lv_ x2, s_, iv x3, iv x4, iv x5, iv (x5 &&& (3 : Int32)), lv_ y8, s_, iv (1 : Int32), iv ca0, iv ca1, iv (1 : Int32), iv cd0, iv cd1, rv bs118, rv bs157, rv b159, rv b164, u_, u_, u_]) (st := [(.int cd1), (.int cd0), (.int (1 : Int32)), (.int ca1), (.int ca0), (.int (1 : Int32))]) rfl (by rw [hml]; rfl) (hb hby at_228) (W := 0) (Nat.le_of_eq rfl) (by decide) (by decide) (by decide) (by decide)
                  have N188 := Fr.app N167 M188
                  refine Goes.via (B := T188.setTop (mkF m 231 #[lv_ x1, s_, lv_ x2, s_, iv x3, iv x4, iv x5, iv (x5 &&& (3 : Int32)), lv_ y8, s_, iv (1 : Int32), iv ca0, iv ca1, iv (1 : Int32), iv cd0, iv cd1, rv bs118, rv bs157, rv b159, rv b164, u_, u_, u_] [(.int r188)])) (fun t k => st188 _ k) ?_
                  refine Goes.via (B := T188.setTop (mkF m 233 _ [])) (fun t k => XS.istore X188.here hx rfl (hb hby at_231) rfl (l' := #[lv_ x1, s_, lv_ x2, s_, iv x3, iv x4, iv x5, iv (x5 &&& (3 : Int32)), lv_ y8, s_, iv (1 : Int32), iv ca0, iv ca1, iv (1 : Int32), iv cd0, iv cd1, rv bs118, rv bs157, rv b159, rv b164, iv r188, u_, u_]) rfl k) ?_
                  obtain ⟨Xr189, hSr189, hZr189, hor189⟩ := rebase X188 hS167 K188 (Nat.le_refl _) hZ167 hown167
                  exact j169 T188 _ Xr189 K188 N188 hSr189 hZr189 hor189 (CHr.trans hR168 (CHv.at X188 hZ167 hEL hR168.1)) r188 (by unfold own_exp; rw [if_neg b184, if_neg b186]; exact p188_0)
            · refine Goes.via (B := T118.setTop (mkF m 154 _ [(.int (2 : Int32))])) (fun t k => XS.iload X118.here hx rfl (hb hby at_152) rfl k) ?_
              refine Goes.via (B := T118.setTop (mkF m 156 _ [(.int cd0), (.int (2 : Int32))])) (fun t k => XS.iload X118.here hx rfl (hb hby at_154) rfl k) ?_
              refine Goes.via (B := T118.setTop (mkF m 157 _ [(.int (cd0.toUInt32.toUInt16.toUInt32.toInt32)), (.int (2 : Int32))])) (fun t k => XS.i2c X118.here hx rfl (hb hby at_156) rfl k) ?_
              refine Goes.via (B := T118.setTop (mkF m 159 _ [(.int cd1), (.int (cd0.toUInt32.toUInt16.toUInt32.toInt32)), (.int (2 : Int32))])) (fun t k => XS.iload X118.here hx rfl (hb hby at_157) rfl k) ?_
              refine Goes.via (B := T118.setTop (mkF m 160 _ [(.int (cd1.toUInt32.toUInt16.toUInt32.toInt32)), (.int (cd0.toUInt32.toUInt16.toUInt32.toInt32)), (.int (2 : Int32))])) (fun t k => XS.i2c X118.here hx rfl (hb hby at_159) rfl k) ?_
              have q190 : (cd0.toUInt32.toUInt16.toUInt32.toInt32) = cd0 := own_i2c hcd0
              rw [q190]
              have q191 : (cd1.toUInt32.toUInt16.toUInt32.toInt32) = cd1 := own_i2c hcd1
              rw [q191]
              obtain ⟨_, T192, L192, X192, hS192, hZ192, hown192, hC192, ⟨bs192, ts192, ks192, rfl, M192, K192, f192_0, f192_1, f192_2, f192_3⟩, st192⟩ := callStaticH X118 hx hZ118 hS118 (Nat.le_refl _) hEL hR119.1 (sf := []) all0 hown118 (own_hw hw 0 rfl) (own_hw hw 1 rfl) (own_hw hw 2 rfl) (own_hw hw 3 rfl) (by decide) (argsL := [(.int (2 : Int32)), (.int cd0), (.int cd1)]) (rest := []) (own_m7 l Z a0 hw [] cd0 cd1 z0 T118.heap n0 (O0.keep K118 all0) hz0 hcd0 hcd1 O_1) rfl (lenOf own_pd16 rfl) (pc := 160) (Ls := #[lv_ x1, s_, lv_ x2, s_, iv x3, iv x4, iv x5, iv (x5 &&& (3 : Int32)), lv_ y8, s_, iv (1 : Int32), iv ca0, iv ca1, iv (2 : Int32), iv cd0, iv cd1, rv bs118, u_, u_, u_, u_, u_, u_]) (st := [(.int cd1), (.int cd0), (.int (2 : Int32))]) rfl (by rw [hml]; rfl) (hb hby at_160) (W := 0) (Nat.le_of_eq rfl) (by decide) (by decide) (by decide) (by decide)
              have N192 := Fr.app N118 M192
              have hq193 := hC192
              have hR193 := CHr.trans hR119 hq193
              refine Goes.via (B := T192.setTop (mkF m 163 #[lv_ x1, s_, lv_ x2, s_, iv x3, iv x4, iv x5, iv (x5 &&& (3 : Int32)), lv_ y8, s_, iv (1 : Int32), iv ca0, iv ca1, iv (2 : Int32), iv cd0, iv cd1, rv bs118, u_, u_, u_, u_, u_, u_] [(.ref bs192)])) (fun t k => st192 _ k) ?_
              refine Goes.via (B := T192.setTop (mkF m 165 _ [])) (fun t k => XS.astore X192.here hx rfl (hb hby at_163) rfl rfl (l' := #[lv_ x1, s_, lv_ x2, s_, iv x3, iv x4, iv x5, iv (x5 &&& (3 : Int32)), lv_ y8, s_, iv (1 : Int32), iv ca0, iv ca1, iv (2 : Int32), iv cd0, iv cd1, rv bs118, rv bs192, u_, u_, u_, u_, u_]) rfl k) ?_
              obtain ⟨T194, h194, X194, e194, E194, A194, D194, U194, st194⟩ := newO X192 hx hZ192 hown192 (own_hw hw 12 rfl) (own_hw hw 13 rfl) (own_hw hw 14 rfl) rfl (g := (mkF m 165 #[lv_ x1, s_, lv_ x2, s_, iv x3, iv x4, iv x5, iv (x5 &&& (3 : Int32)), lv_ y8, s_, iv (1 : Int32), iv ca0, iv ca1, iv (2 : Int32), iv cd0, iv cd1, rv bs118, rv bs192, u_, u_, u_, u_, u_] [])) rfl (hb hby at_165) (by decide) (by decide)
              obtain ⟨b194, g194⟩ : ∃ z, z = T192.heap.size := ⟨_, rfl⟩
              rw [← g194] at A194 D194 U194 st194
              have gn194 : n0 ≤ b194 := Nat.le_trans (old_le ((O0.keep K118 all0).keep K192 all0)) (Nat.le_of_eq g194.symm)
              have hq195 := CHr.ext E194 hR193.1
              have hR195 := CHr.trans hR193 hq195
              have sf196 := Safe.ext E194 hR193.1 (Safe.new (Nat.le_of_eq g194.symm))
              have F194_round : Fld Z h194 b194 "com/example/keelson/keelson/cluster/Ballot" "round" "J" (.long (0 : Int64)) := D194 (Or.inr (own_hw hw 32 rfl)) (ty := .long) (by decide)
              have F194_proposer : Fld Z h194 b194 "com/example/keelson/keelson/cluster/Ballot" "proposer" "Ljava/lang/String;" .null := D194 (Or.inr (own_hw hw 34 rfl)) (ty := (.object "java/lang/String")) (by decide)
              refine Goes.via (B := T194.setTop (mkF m 168 #[lv_ x1, s_, lv_ x2, s_, iv x3, iv x4, iv x5, iv (x5 &&& (3 : Int32)), lv_ y8, s_, iv (1 : Int32), iv ca0, iv ca1, iv (2 : Int32), iv cd0, iv cd1, rv bs118, rv bs192, u_, u_, u_, u_, u_] [(.ref b194)])) (fun t k => st194 _ k) ?_
              refine Goes.via (B := T194.setTop (mkF m 169 _ [(.ref b194), (.ref b194)])) (fun t k => XS.dup X194.here hx rfl (hb hby at_168) rfl rfl k) ?_
              refine Goes.via (B := T194.setTop (mkF m 170 _ [(.long x1), (.ref b194), (.ref b194)])) (fun t k => XS.lloadN X194.here hx rfl (hb hby at_169) rfl k) ?_
              refine Goes.via (B := T194.setTop (mkF m 172 _ [(.ref bs118), (.long x1), (.ref b194), (.ref b194)])) (fun t k => XS.aload X194.here hx rfl (hb hby at_170) rfl rfl k) ?_
              obtain ⟨_, T197, L197, X197, hS197, hZ197, hown197, hC197, ⟨rfl, M197, K197, f197_0, f197_1, f197_2⟩, st197⟩ := callInitH X194 hx hZ192 hS192 (Nat.le_trans (Nat.le_refl _) E194.1) hEL hR195.1 (sf := []) all0 rfl hown192 (own_hw hw 15 rfl) (own_hw hw 16 rfl) (own_hw hw 14 rfl) (own_hw hw 17 rfl) (by decide) (argsL := [(.long x1), (.ref bs118)]) (rest := [(.ref b194)]) (own_m10 l Z a0 hw [] b194 x1 bs118 h194 n0 (((O0.keep K118 all0).keep K192 all0).ext E194) gn194 A194 F194_round F194_proposer) e194 (lenOf own_pd17 rfl) (pc := 172) (Ls := #[lv_ x1, s_, lv_ x2, s_, iv x3, iv x4, iv x5, iv (x5 &&& (3 : Int32)), lv_ y8, s_, iv (1 : Int32), iv ca0, iv ca1, iv (2 : Int32), iv cd0, iv cd1, rv bs118, rv bs192, u_, u_, u_, u_, u_]) (st := [(.ref bs118), (.long x1), (.ref b194), (.ref b194)]) rfl (by rw [hml]; rfl) (hb hby at_172) (W := 1) (Nat.le_of_eq rfl) (by decide) (by decide) (by decide) (by decide)
              have N197 := Fr.app N192 M197
              have hq198 := hC197
              have hR198 := CHr.trans hR195 hq198
              refine Goes.via (B := T197.setTop (mkF m 175 #[lv_ x1, s_, lv_ x2, s_, iv x3, iv x4, iv x5, iv (x5 &&& (3 : Int32)), lv_ y8, s_, iv (1 : Int32), iv ca0, iv ca1, iv (2 : Int32), iv cd0, iv cd1, rv bs118, rv bs192, u_, u_, u_, u_, u_] [(.ref b194)])) (fun t k => st197 _ k) ?_
              refine Goes.via (B := T197.setTop (mkF m 177 _ [])) (fun t k => XS.astore X197.here hx rfl (hb hby at_175) rfl rfl (l' := #[lv_ x1, s_, lv_ x2, s_, iv x3, iv x4, iv x5, iv (x5 &&& (3 : Int32)), lv_ y8, s_, iv (1 : Int32), iv ca0, iv ca1, iv (2 : Int32), iv cd0, iv cd1, rv bs118, rv bs192, rv b194, u_, u_, u_, u_]) rfl k) ?_
              obtain ⟨T199, h199, X199, e199, E199, A199, D199, U199, st199⟩ := newO X197 hx hZ197 hown197 (own_hw hw 12 rfl) (own_hw hw 13 rfl) (own_hw hw 14 rfl) rfl (g := (mkF m 177 #[lv_ x1, s_, lv_ x2, s_, iv x3, iv x4, iv x5, iv (x5 &&& (3 : Int32)), lv_ y8, s_, iv (1 : Int32), iv ca0, iv ca1, iv (2 : Int32), iv cd0, iv cd1, rv bs118, rv bs192, rv b194, u_, u_, u_, u_] [])) rfl (hb hby at_177) (by decide) (by decide)
              obtain ⟨b199, g199⟩ : ∃ z, z = T197.heap.size := ⟨_, rfl⟩
              rw [← g199] at A199 D199 U199 st199
              have gn199 : n0 ≤ b199 := Nat.le_trans (old_le ((((O0.keep K118 all0).keep K192 all0).ext E194).keep K197 (allS gn194 all0))) (Nat.le_of_eq g199.symm)
              have hq200 := CHr.ext E199 hR198.1
              have hR200 := CHr.trans hR198 hq200
              have sf201 := Safe.ext E199 hR198.1 (Safe.new (Nat.le_of_eq g199.symm))
              have F199_round : Fld Z h199 b199 "com/example/keelson/keelson/cluster/Ballot" "round" "J" (.long (0 : Int64)) := D199 (Or.inr (own_hw hw 32 rfl)) (ty := .long) (by decide)
              have F199_proposer : Fld Z h199 b199 "com/example/keelson/keelson/cluster/Ballot" "proposer" "Ljava/lang/String;" .null := D199 (Or.inr (own_hw hw 34 rfl)) (ty := (.object "java/lang/String")) (by decide)
              refine Goes.via (B := T199.setTop (mkF m 180 #[lv_ x1, s_, lv_ x2, s_, iv x3, iv x4, iv x5, iv (x5 &&& (3 : Int32)), lv_ y8, s_, iv (1 : Int32), iv ca0, iv ca1, iv (2 : Int32), iv cd0, iv cd1, rv bs118, rv bs192, rv b194, u_, u_, u_, u_] [(.ref b199)])) (fun t k => st199 _ k) ?_
              refine Goes.via (B := T199.setTop (mkF m 181 _ [(.ref b199), (.ref b199)])) (fun t k => XS.dup X199.here hx rfl (hb hby at_180) rfl rfl k) ?_
              refine Goes.via (B := T199.setTop (mkF m 183 _ [(.long y8), (.ref b199), (.ref b199)])) (fun t k => XS.lload X199.here hx rfl (hb hby at_181) rfl k) ?_
              refine Goes.via (B := T199.setTop (mkF m 185 _ [(.ref bs192), (.long y8), (.ref b199), (.ref b199)])) (fun t k => XS.aload X199.here hx rfl (hb hby at_183) rfl rfl k) ?_
              obtain ⟨_, T202, L202, X202, hS202, hZ202, hown202, hC202, ⟨rfl, M202, K202, f202_0, f202_1, f202_2⟩, st202⟩ := callInitH X199 hx hZ197 hS197 (Nat.le_trans (Nat.le_refl _) E199.1) hEL hR200.1 (sf := []) all0 rfl hown197 (own_hw hw 15 rfl) (own_hw hw 16 rfl) (own_hw hw 14 rfl) (own_hw hw 17 rfl) (by decide) (argsL := [(.long y8), (.ref bs192)]) (rest := [(.ref b199)]) (own_m10 l Z a0 hw [] b199 y8 bs192 h199 n0 (((((O0.keep K118 all0).keep K192 all0).ext E194).keep K197 (allS gn194 all0)).ext E199) gn199 A199 F199_round F199_proposer) e199 (lenOf own_pd17 rfl) (pc := 185) (Ls := #[lv_ x1, s_, lv_ x2, s_, iv x3, iv x4, iv x5, iv (x5 &&& (3 : Int32)), lv_ y8, s_, iv (1 : Int32), iv ca0, iv ca1, iv (2 : Int32), iv cd0, iv cd1, rv bs118, rv bs192, rv b194, u_, u_, u_, u_]) (st := [(.ref bs192), (.long y8), (.ref b199), (.ref b199)]) rfl (by rw [hml]; rfl) (hb hby at_185) (W := 1) (Nat.le_of_eq rfl) (by decide) (by decide) (by decide) (by decide)
              have N202 := Fr.app N197 M202
              have hq203 := hC202
              have hR203 := CHr.trans hR200 hq203
              refine Goes.via (B := T202.setTop (mkF m 188 #[lv_ x1, s_, lv_ x2, s_, iv x3, iv x4, iv x5, iv (x5 &&& (3 : Int32)), lv_ y8, s_, iv (1 : Int32), iv ca0, iv ca1, iv (2 : Int32), iv cd0, iv cd1, rv bs118, rv bs192, rv b194, u_, u_, u_, u_] [(.ref b199)])) (fun t k => st202 _ k) ?_
              refine Goes.via (B := T202.setTop (mkF m 190 _ [])) (fun t k => XS.astore X202.here hx rfl (hb hby at_188) rfl rfl (l' := #[lv_ x1, s_, lv_ x2, s_, iv x3, iv x4, iv x5, iv (x5 &&& (3 : Int32)), lv_ y8, s_, iv (1 : Int32), iv ca0, iv ca1, iv (2 : Int32), iv cd0, iv cd1, rv bs118, rv bs192, rv b194, rv b199, u_, u_, u_]) rfl k) ?_
              refine Goes.via (B := T202.setTop (mkF m 191 _ [(.long x1)])) (fun t k => XS.lloadN X202.here hx rfl (hb hby at_190) rfl k) ?_
              refine Goes.via (B := T202.setTop (mkF m 193 _ [(.long y8), (.long x1)])) (fun t k => XS.lload X202.here hx rfl (hb hby at_191) rfl k) ?_
              refine Goes.via (B := T202.setTop (mkF m 194 _ [(.int (XT.cmpL x1 y8))])) (fun t k => XT.lcmp X202.here hx rfl (hb hby at_193) rfl k) ?_
              have j204 : ∀ (T205 : State) (lc205 : List Loc) (X205 : Stand p l e room_1 (s.setVm T205.vm) m #[(.long x1), (.long x2), (.int x3), (.int x4), (.int x5)] below meth c T205 lc205 11 89) (e205 : T205.heap = T202.heap) (N205 : Fr n0 lc205) (hS205 : s.Since T205.vm T202.heap.size) (hZ205 : Z.Warmed39 T205.vm) (hown205 : T205.vm.findClass "com/example/keelson/keelson/cluster/BallotCompareToPinLaw" = some m.cls) (hR205 : CHr Z consts_1 s.vm s.heap T205.vm T202.heap) (exq : Int32) (hex : exq = own_exp x1 y8 (1 : Int32) ca0 ca1 (2 : Int32) cd0 cd1) , Goes p.tables e below (fun t o => ∃ v L, o = .returned v ∧ (own_Q64 Z x1 x2 x3 x4 x5 z0 h0 n0) v t.heap L ∧ EndH Z consts_1 s o t L (room_1).cells (room_1).slots) (T205.setTop (mkF m 233 #[lv_ x1, s_, lv_ x2, s_, iv x3, iv x4, iv x5, iv (x5 &&& (3 : Int32)), lv_ y8, s_, iv (1 : Int32), iv ca0, iv ca1, iv (2 : Int32), iv cd0, iv cd1, rv bs118, rv bs192, rv b194, rv b199, iv exq, u_, u_] [])) := by
                intro T205 lc205 X205 e205 N205 hS205 hZ205 hown205 hR205 exq hex
                refine Goes.via (B := T205.setTop (mkF m 235 _ [(.ref b194)])) (fun t k => XS.aload X205.here hx rfl (hb hby at_233) rfl rfl k) ?_
                refine Goes.via (B := T205.setTop (mkF m 237 _ [(.ref b199), (.ref b194)])) (fun t k => XS.aload X205.here hx rfl (hb hby at_235) rfl rfl k) ?_
                have c207 : Fld Z T202.heap b194 "com/example/keelson/keelson/cluster/Ballot" "round" "J" (.long x1) := ((f197_1.ext E199).keep K202 (ninS (Nat.ne_of_lt (Nat.lt_of_lt_of_le (Nat.le_trans A194.lt K197.1) (Nat.le_of_eq g199.symm))) nin0))
                have c208 : Fld Z T202.heap b194 "com/example/keelson/keelson/cluster/Ballot" "proposer" "Ljava/lang/String;" (.ref bs118) := ((f197_2.ext E199).keep K202 (ninS (Nat.ne_of_lt (Nat.lt_of_lt_of_le (Nat.le_trans A194.lt K197.1) (Nat.le_of_eq g199.symm))) nin0))
                have c209 : Exa Z T202.heap bs118 "java/lang/String" := (((((f118_0.keep K192).ext E194).keep K197).ext E199).keep K202)
                have c210 : Fld Z T202.heap bs118 "java/lang/String" "value" "[B" (.ref ts118) := (((((f118_1.keep K192 nin0).ext E194).keep K197 (ninS (Nat.ne_of_lt (Nat.lt_of_lt_of_le (Nat.le_trans f118_0.lt K192.1) (Nat.le_of_eq g194.symm))) nin0)).ext E199).keep K202 (ninS (Nat.ne_of_lt (Nat.lt_of_lt_of_le (Nat.le_trans (Nat.le_trans (Nat.le_trans f118_0.lt K192.1) E194.1) K197.1) (Nat.le_of_eq g199.symm))) nin0))
                have c211 : Fld Z T202.heap bs118 "java/lang/String" "coder" "B" (.int (0 : Int32)) := (((((f118_2.keep K192 nin0).ext E194).keep K197 (ninS (Nat.ne_of_lt (Nat.lt_of_lt_of_le (Nat.le_trans f118_0.lt K192.1) (Nat.le_of_eq g194.symm))) nin0)).ext E199).keep K202 (ninS (Nat.ne_of_lt (Nat.lt_of_lt_of_le (Nat.le_trans (Nat.le_trans (Nat.le_trans f118_0.lt K192.1) E194.1) K197.1) (Nat.le_of_eq g199.symm))) nin0))
                have c212 : Fld Z T202.heap bs192 "java/lang/String" "value" "[B" (.ref ts192) := ((((f192_1.ext E194).keep K197 (ninS (Nat.ne_of_lt (Nat.lt_of_lt_of_le f192_0.lt (Nat.le_of_eq g194.symm))) nin0)).ext E199).keep K202 (ninS (Nat.ne_of_lt (Nat.lt_of_lt_of_le (Nat.le_trans (Nat.le_trans f192_0.lt E194.1) K197.1) (Nat.le_of_eq g199.symm))) nin0))
                have c213 : Fld Z T202.heap bs192 "java/lang/String" "coder" "B" (.int (0 : Int32)) := ((((f192_2.ext E194).keep K197 (ninS (Nat.ne_of_lt (Nat.lt_of_lt_of_le f192_0.lt (Nat.le_of_eq g194.symm))) nin0)).ext E199).keep K202 (ninS (Nat.ne_of_lt (Nat.lt_of_lt_of_le (Nat.le_trans (Nat.le_trans f192_0.lt E194.1) K197.1) (Nat.le_of_eq g199.symm))) nin0))
                have c214 : Arv Z T202.heap ts118 ks118 .byte (1 : Int32) [(.int ca0.toInt8.toInt32)] (.int (0 : Int32)) := (((((f118_3.keep K192 nin0).ext E194).keep K197 (ninS (Nat.ne_of_lt (Nat.lt_of_lt_of_le (Nat.le_trans f118_3.lt K192.1) (Nat.le_of_eq g194.symm))) nin0)).ext E199).keep K202 (ninS (Nat.ne_of_lt (Nat.lt_of_lt_of_le (Nat.le_trans (Nat.le_trans (Nat.le_trans f118_3.lt K192.1) E194.1) K197.1) (Nat.le_of_eq g199.symm))) nin0))
                have c215 : Arv Z T202.heap ts192 ks192 .byte (2 : Int32) [(.int cd0.toInt8.toInt32), (.int cd1.toInt8.toInt32)] (.int (0 : Int32)) := ((((f192_3.ext E194).keep K197 (ninS (Nat.ne_of_lt (Nat.lt_of_lt_of_le f192_3.lt (Nat.le_of_eq g194.symm))) nin0)).ext E199).keep K202 (ninS (Nat.ne_of_lt (Nat.lt_of_lt_of_le (Nat.le_trans (Nat.le_trans f192_3.lt E194.1) K197.1) (Nat.le_of_eq g199.symm))) nin0))
                obtain ⟨_, T206, L206, X206, ⟨r206, rfl, M206, K206, p206_0⟩, st206⟩ := callVirt X205 hx hZ205 hown205 (own_hw hw 35 rfl) (own_hw hw 36 rfl) (own_hw hw 38 rfl) (notFace_of_selects (args := #[]) (mvT hZ205 (own_hw hw 38 rfl))) (own_hw hw 37 rfl) (own_hw hw 14 rfl) (own_hw hw 39 rfl) (by decide) (argsL := [(.ref b199)]) (rest := []) (own_m48 l Z a0 hw [] b194 b199 x1 y8 bs118 bs192 z0 ts118 ks118 ts192 ks192 ca0 ca1 cd0 cd1 T202.heap n0 ((((((O0.keep K118 all0).keep K192 all0).ext E194).keep K197 (allS gn194 all0)).ext E199).keep K202 (allS gn199 all0)) hz0 hca0 hca1 hcd0 hcd1 O_1 ((f197_0.ext E199).keep K202) c207 c208 f202_0 f202_1 f202_2 c209 c210 c211 ((((f192_0.ext E194).keep K197).ext E199).keep K202) c212 c213 c214 c215) e205 ((f197_0.ext E199).keep K202) (lenOf own_pd18 rfl) (pc := 237) (Ls := #[lv_ x1, s_, lv_ x2, s_, iv x3, iv x4, iv x5, iv (x5 &&& (3 : Int32)), lv_ y8, s_, iv (1 : Int32), iv ca0, iv ca1, iv (2 : Int32), iv cd0, iv cd1, rv bs118, rv bs192, rv b194, rv b199, iv exq, u_, u_]) (st := [(.ref b199), (.ref b194)]) rfl (by rw [hml]; rfl) (hb hby at_237) (W := 0) (Nat.le_of_eq rfl) (by decide) (by decide) (by decide) (by decide)
                have N206 := Fr.app N205 M206
                refine Goes.via (B := T206.setTop (mkF m 240 #[lv_ x1, s_, lv_ x2, s_, iv x3, iv x4, iv x5, iv (x5 &&& (3 : Int32)), lv_ y8, s_, iv (1 : Int32), iv ca0, iv ca1, iv (2 : Int32), iv cd0, iv cd1, rv bs118, rv bs192, rv b194, rv b199, iv exq, u_, u_] [(.int r206)])) (fun t k => st206 _ k) ?_
                refine Goes.via (B := T206.setTop (mkF m 241 _ [(.long (r206.toInt64))])) (fun t k => XS.i2l X206.here hx rfl (hb hby at_240) rfl k) ?_
                obtain ⟨_, T216, L216, X216, ⟨r216, rfl, M216, K216, p216_0⟩, st216⟩ := callStatic X206 hx hZ205 hown205 (own_hw hw 44 rfl) (own_hw hw 45 rfl) (own_hw hw 2 rfl) (own_hw hw 46 rfl) (by decide) (argsL := [(.long (r206.toInt64))]) (rest := []) (own_m12 l Z a0 hw [] r206.toInt64 T202.heap n0 ((((((O0.keep K118 all0).keep K192 all0).ext E194).keep K197 (allS gn194 all0)).ext E199).keep K202 (allS gn199 all0)) ) K206 (lenOf own_pd7 rfl) (pc := 241) (Ls := #[lv_ x1, s_, lv_ x2, s_, iv x3, iv x4, iv x5, iv (x5 &&& (3 : Int32)), lv_ y8, s_, iv (1 : Int32), iv ca0, iv ca1, iv (2 : Int32), iv cd0, iv cd1, rv bs118, rv bs192, rv b194, rv b199, iv exq, u_, u_]) (st := [(.long (r206.toInt64))]) rfl (by rw [hml]; rfl) (hb hby at_241) (W := 0) (Nat.le_of_eq rfl) (by decide) (by decide) (by decide) (by decide)
                have N216 := Fr.app N206 M216
                refine Goes.via (B := T216.setTop (mkF m 244 #[lv_ x1, s_, lv_ x2, s_, iv x3, iv x4, iv x5, iv (x5 &&& (3 : Int32)), lv_ y8, s_, iv (1 : Int32), iv ca0, iv ca1, iv (2 : Int32), iv cd0, iv cd1, rv bs118, rv bs192, rv b194, rv b199, iv exq, u_, u_] [(.int r216)])) (fun t k => st216 _ k) ?_
                refine Goes.via (B := T216.setTop (mkF m 246 _ [])) (fun t k => XS.istore X216.here hx rfl (hb hby at_244) rfl (l' := #[lv_ x1, s_, lv_ x2, s_, iv x3, iv x4, iv x5, iv (x5 &&& (3 : Int32)), lv_ y8, s_, iv (1 : Int32), iv ca0, iv ca1, iv (2 : Int32), iv cd0, iv cd1, rv bs118, rv bs192, rv b194, rv b199, iv exq, iv r216, u_]) rfl k) ?_
                refine Goes.via (B := T216.setTop (mkF m 248 _ [(.ref b199)])) (fun t k => XS.aload X216.here hx rfl (hb hby at_246) rfl rfl k) ?_
                refine Goes.via (B := T216.setTop (mkF m 250 _ [(.ref b194), (.ref b199)])) (fun t k => XS.aload X216.here hx rfl (hb hby at_248) rfl rfl k) ?_
                obtain ⟨_, T217, L217, X217, ⟨r217, rfl, M217, K217, p217_0⟩, st217⟩ := callVirt X216 hx hZ205 hown205 (own_hw hw 35 rfl) (own_hw hw 36 rfl) (own_hw hw 38 rfl) (notFace_of_selects (args := #[]) (mvT hZ205 (own_hw hw 38 rfl))) (own_hw hw 37 rfl) (own_hw hw 14 rfl) (own_hw hw 39 rfl) (by decide) (argsL := [(.ref b194)]) (rest := []) (own_m58 l Z a0 hw [] b199 b194 y8 x1 bs192 bs118 z0 ts192 ks192 ts118 ks118 cd0 cd1 ca0 ca1 T202.heap n0 ((((((O0.keep K118 all0).keep K192 all0).ext E194).keep K197 (allS gn194 all0)).ext E199).keep K202 (allS gn199 all0)) hz0 hcd0 hcd1 hca0 hca1 O_1 f202_0 f202_1 f202_2 ((f197_0.ext E199).keep K202) c207 c208 ((((f192_0.ext E194).keep K197).ext E199).keep K202) c212 c213 c209 c210 c211 c215 c214) K216 f202_0 (lenOf own_pd18 rfl) (pc := 250) (Ls := #[lv_ x1, s_, lv_ x2, s_, iv x3, iv x4, iv x5, iv (x5 &&& (3 : Int32)), lv_ y8, s_, iv (1 : Int32), iv ca0, iv ca1, iv (2 : Int32), iv cd0, iv cd1, rv bs118, rv bs192, rv b194, rv b199, iv exq, iv r216, u_]) (st := [(.ref b194), (.ref b199)]) rfl (by rw [hml]; rfl) (hb hby at_250) (W := 0) (Nat.le_of_eq rfl) (by decide) (by decide) (by decide) (by decide)
                have N217 := Fr.app N216 M217
                refine Goes.via (B := T217.setTop (mkF m 253 #[lv_ x1, s_, lv_ x2, s_, iv x3, iv x4, iv x5, iv (x5 &&& (3 : Int32)), lv_ y8, s_, iv (1 : Int32), iv ca0, iv ca1, iv (2 : Int32), iv cd0, iv cd1, rv bs118, rv bs192, rv b194, rv b199, iv exq, iv r216, u_] [(.int r217)])) (fun t k => st217 _ k) ?_
                refine Goes.via (B := T217.setTop (mkF m 254 _ [(.long (r217.toInt64))])) (fun t k => XS.i2l X217.here hx rfl (hb hby at_253) rfl k) ?_
                obtain ⟨_, T218, L218, X218, ⟨r218, rfl, M218, K218, p218_0⟩, st218⟩ := callStatic X217 hx hZ205 hown205 (own_hw hw 44 rfl) (own_hw hw 45 rfl) (own_hw hw 2 rfl) (own_hw hw 46 rfl) (by decide) (argsL := [(.long (r217.toInt64))]) (rest := []) (own_m12 l Z a0 hw [] r217.toInt64 T202.heap n0 ((((((O0.keep K118 all0).keep K192 all0).ext E194).keep K197 (allS gn194 all0)).ext E199).keep K202 (allS gn199 all0)) ) K217 (lenOf own_pd7 rfl) (pc := 254) (Ls := #[lv_ x1, s_, lv_ x2, s_, iv x3, iv x4, iv x5, iv (x5 &&& (3 : Int32)), lv_ y8, s_, iv (1 : Int32), iv ca0, iv ca1, iv (2 : Int32), iv cd0, iv cd1, rv bs118, rv bs192, rv b194, rv b199, iv exq, iv r216, u_]) (st := [(.long (r217.toInt64))]) rfl (by rw [hml]; rfl) (hb hby at_254) (W := 0) (Nat.le_of_eq rfl) (by decide) (by decide) (by decide) (by decide)
                have N218 := Fr.app N217 M218
                refine Goes.via (B := T218.setTop (mkF m 257 #[lv_ x1, s_, lv_ x2, s_, iv x3, iv x4, iv x5, iv (x5 &&& (3 : Int32)), lv_ y8, s_, iv (1 : Int32), iv ca0, iv ca1, iv (2 : Int32), iv cd0, iv cd1, rv bs118, rv bs192, rv b194, rv b199, iv exq, iv r216, u_] [(.int r218)])) (fun t k => st218 _ k) ?_
                refine Goes.via (B := T218.setTop (mkF m 259 _ [])) (fun t k => XS.istore X218.here hx rfl (hb hby at_257) rfl (l' := #[lv_ x1, s_, lv_ x2, s_, iv x3, iv x4, iv x5, iv (x5 &&& (3 : Int32)), lv_ y8, s_, iv (1 : Int32), iv ca0, iv ca1, iv (2 : Int32), iv cd0, iv cd1, rv bs118, rv bs192, rv b194, rv b199, iv exq, iv r216, iv r218]) rfl k) ?_
                refine Goes.via (B := T218.setTop (mkF m 261 _ [(.int r216)])) (fun t k => XS.iload X218.here hx rfl (hb hby at_259) rfl k) ?_
                refine Goes.via (B := T218.setTop (mkF m 263 _ [(.int exq), (.int r216)])) (fun t k => XS.iload X218.here hx rfl (hb hby at_261) rfl k) ?_
                refine Goes.via (B := T218.setTop (mkF m 266 _ [])) (fun t k => XS.icmpNo X218.here hx rfl (hb hby at_263) rfl (XT.ii_ne_f (p216_0.trans ((own_sgl _).trans (p206_0.trans hex.symm)))) k) ?_
                refine Goes.via (B := T218.setTop (mkF m 268 _ [(.int r218)])) (fun t k => XS.iload X218.here hx rfl (hb hby at_266) rfl k) ?_
                refine Goes.via (B := T218.setTop (mkF m 270 _ [(.int exq), (.int r218)])) (fun t k => XS.iload X218.here hx rfl (hb hby at_268) rfl k) ?_
                refine Goes.via (B := T218.setTop (mkF m 271 _ [(.int (-exq)), (.int r218)])) (fun t k => XS.ineg X218.here hx rfl (hb hby at_270) rfl k) ?_
                refine Goes.via (B := T218.setTop (mkF m 274 _ [])) (fun t k => XS.icmpNo X218.here hx rfl (hb hby at_271) rfl (XT.ii_ne_f (by rw [p218_0, own_sgl, p217_0, hex]; exact own_antiE _ _ _ _ _ _ _ _ (by decide) (by decide))) k) ?_
                refine Goes.via (B := T218.setTop (mkF m 275 _ [(.int (1 : Int32))])) (fun t k => XS.iconst X218.here hx rfl (hb hby at_274) k) ?_
                refine Goes.via (B := T218.setTop (mkF m 279 _ [(.int (1 : Int32))])) (fun t k => XS.goto X218.here hx rfl (pc0 := 275) (pc' := 279) rfl (hb hby at_275) (by decide) (by decide) k) ?_
                exact finN (Q := (own_Q64 Z x1 x2 x3 x4 x5 z0 h0 n0)) (F := EndH Z consts_1) (C := (room_1).cells) (S := (room_1).slots) X218 hx (t := .boolean) Bd.returns (by simp) (z' := (1 : Int32)) rfl (hb hby at_279) K218 ⟨rfl, N218, trivial⟩ (lvH X218 hlk hS205 K218 (Nat.le_refl _) hZ205 hEL hR205 (by decide) (by decide))
              by_cases b219 : x1 < y8
              · refine Goes.via (B := T202.setTop (mkF m 197 _ [])) (fun t k => XS.ifNo X202.here hx rfl (hb hby at_194) rfl (XT.ll_ge_f b219) k) ?_
                refine Goes.via (B := T202.setTop (mkF m 198 _ [(.int (-1 : Int32))])) (fun t k => XS.iconst X202.here hx rfl (hb hby at_197) k) ?_
                refine Goes.via (B := T202.setTop (mkF m 200 _ [])) (fun t k => XS.istore X202.here hx rfl (hb hby at_198) rfl (l' := #[lv_ x1, s_, lv_ x2, s_, iv x3, iv x4, iv x5, iv (x5 &&& (3 : Int32)), lv_ y8, s_, iv (1 : Int32), iv ca0, iv ca1, iv (2 : Int32), iv cd0, iv cd1, rv bs118, rv bs192, rv b194, rv b199, iv (-1 : Int32), u_, u_]) rfl k) ?_
                refine Goes.via (B := T202.setTop (mkF m 233 _ [])) (fun t k => XS.goto X202.here hx rfl (pc0 := 200) (pc' := 233) rfl (hb hby at_200) (by decide) (by decide) k) ?_
                obtain ⟨Xr220, hSr220, hZr220, hor220⟩ := rebase X202 hS202 rfl (Nat.le_refl _) hZ202 hown202
                exact j204 T202 _ Xr220 rfl N202 hSr220 hZr220 hor220 (CHr.trans hR203 (CHv.at X202 hZ202 hEL hR203.1)) (-1 : Int32) (by unfold own_exp; rw [if_pos b219])
              · refine Goes.via (B := T202.setTop (mkF m 203 _ [])) (fun t k => XS.ifYes X202.here hx rfl (pc0 := 194) (pc' := 203) rfl (hb hby at_194) rfl (XT.ll_ge_t b219) (by decide) (by decide) k) ?_
                refine Goes.via (B := T202.setTop (mkF m 204 _ [(.long x1)])) (fun t k => XS.lloadN X202.here hx rfl (hb hby at_203) rfl k) ?_
                refine Goes.via (B := T202.setTop (mkF m 206 _ [(.long y8), (.long x1)])) (fun t k => XS.lload X202.here hx rfl (hb hby at_204) rfl k) ?_
                refine Goes.via (B := T202.setTop (mkF m 207 _ [(.int (XT.cmpL x1 y8))])) (fun t k => XT.lcmp X202.here hx rfl (hb hby at_206) rfl k) ?_
                by_cases b221 : y8 < x1
                · refine Goes.via (B := T202.setTop (mkF m 210 _ [])) (fun t k => XS.ifNo X202.here hx rfl (hb hby at_207) rfl (XT.ll_le_f b221) k) ?_
                  refine Goes.via (B := T202.setTop (mkF m 211 _ [(.int (1 : Int32))])) (fun t k => XS.iconst X202.here hx rfl (hb hby at_210) k) ?_
                  refine Goes.via (B := T202.setTop (mkF m 213 _ [])) (fun t k => XS.istore X202.here hx rfl (hb hby at_211) rfl (l' := #[lv_ x1, s_, lv_ x2, s_, iv x3, iv x4, iv x5, iv (x5 &&& (3 : Int32)), lv_ y8, s_, iv (1 : Int32), iv ca0, iv ca1, iv (2 : Int32), iv cd0, iv cd1, rv bs118, rv bs192, rv b194, rv b199, iv (1 : Int32), u_, u_]) rfl k) ?_
                  refine Goes.via (B := T202.setTop (mkF m 233 _ [])) (fun t k => XS.goto X202.here hx rfl (pc0 := 213) (pc' := 233) rfl (hb hby at_213) (by decide) (by decide) k) ?_
                  obtain ⟨Xr222, hSr222, hZr222, hor222⟩ := rebase X202 hS202 rfl (Nat.le_refl _) hZ202 hown202
                  exact j204 T202 _ Xr222 rfl N202 hSr222 hZr222 hor222 (CHr.trans hR203 (CHv.at X202 hZ202 hEL hR203.1)) (1 : Int32) (by unfold own_exp; rw [if_neg b219, if_pos b221])
                · refine Goes.via (B := T202.setTop (mkF m 216 _ [])) (fun t k => XS.ifYes X202.here hx rfl (pc0 := 207) (pc' := 216) rfl (hb hby at_207) rfl (XT.ll_le_t b221) (by decide) (by decide) k) ?_
                  refine Goes.via (B := T202.setTop (mkF m 218 _ [(.int (1 : Int32))])) (fun t k => XS.iload X202.here hx rfl (hb hby at_216) rfl k) ?_
                  refine Goes.via (B := T202.setTop (mkF m 220 _ [(.int ca0), (.int (1 : Int32))])) (fun t k => XS.iload X202.here hx rfl (hb hby at_218) rfl k) ?_
                  refine Goes.via (B := T202.setTop (mkF m 222 _ [(.int ca1), (.int ca0), (.int (1 : Int32))])) (fun t k => XS.iload X202.here hx rfl (hb hby at_220) rfl k) ?_
                  refine Goes.via (B := T202.setTop (mkF m 224 _ [(.int (2 : Int32)), (.int ca1), (.int ca0), (.int (1 : Int32))])) (fun t k => XS.iload X202.here hx rfl (hb hby at_222) rfl k) ?_
                  refine Goes.via (B := T202.setTop (mkF m 226 _ [(.int cd0), (.int (2 : Int32)), (.int ca1), (.int ca0), (.int (1 : Int32))])) (fun t k => XS.iload X202.here hx rfl (hb hby at_224) rfl k) ?_
                  refine Goes.via (B := T202.setTop (mkF m 228 _ [(.int cd1), (.int cd0), (.int (2 : Int32)), (.int ca1), (.int ca0), (.int (1 : Int32))])) (fun t k => XS.iload X202.here hx rfl (hb hby at_226) rfl k) ?_
                  obtain ⟨_, T223, L223, X223, ⟨r223, rfl, M223, K223, p223_0⟩, st223⟩ := callStatic X202 hx hZ202 hown202 (own_hw hw 47 rfl) (own_hw hw 48 rfl) (own_hw hw 2 rfl) (own_hw hw 49 rfl) (by decide) (argsL := [(.int (1 : Int32)), (.int ca0), (.int ca1), (.int (2 : Int32)), (.int cd0), (.int cd1)]) (rest := []) (own_m13 l Z a0 hw [] (1 : Int32) ca0 ca1 (2 : Int32) cd0 cd1 T202.heap n0 ((((((O0.keep K118 all0).keep K192 all0).ext E194).keep K197 (allS gn194 all0)).ext E199).keep K202 (allS gn199 all0)) ) rfl (lenOf own_pd19 rfl) (pc := 228) (Ls := #[lv_ x1, s_, lv_ x2, s_, iv x3, iv x4, iv x5, iv (x5 &&& (3 : Int32)), lv_ y8, s_, iv (1 : Int32), iv ca0, iv ca1, iv (2 : Int32), iv cd0, iv cd1, rv bs118, rv bs192, rv b194, rv b199, u_, u_, u_]) (st := [(.int cd1), (.int cd0), (.int (2 : Int32)), (.int ca1), (.int ca0), (.int (1 : Int32))]) rfl (by rw [hml]; rfl) (hb hby at_228) (W := 0) (Nat.le_of_eq rfl) (by decide) (by decide) (by decide) (by decide)
                  have N223 := Fr.app N202 M223
                  refine Goes.via (B := T223.setTop (mkF m 231 #[lv_ x1, s_, lv_ x2, s_, iv x3, iv x4, iv x5, iv (x5 &&& (3 : Int32)), lv_ y8, s_, iv (1 : Int32), iv ca0, iv ca1, iv (2 : Int32), iv cd0, iv cd1, rv bs118, rv bs192, rv b194, rv b199, u_, u_, u_] [(.int r223)])) (fun t k => st223 _ k) ?_
                  refine Goes.via (B := T223.setTop (mkF m 233 _ [])) (fun t k => XS.istore X223.here hx rfl (hb hby at_231) rfl (l' := #[lv_ x1, s_, lv_ x2, s_, iv x3, iv x4, iv x5, iv (x5 &&& (3 : Int32)), lv_ y8, s_, iv (1 : Int32), iv ca0, iv ca1, iv (2 : Int32), iv cd0, iv cd1, rv bs118, rv bs192, rv b194, rv b199, iv r223, u_, u_]) rfl k) ?_
                  obtain ⟨Xr224, hSr224, hZr224, hor224⟩ := rebase X223 hS202 K223 (Nat.le_refl _) hZ202 hown202
                  exact j204 T223 _ Xr224 K223 N223 hSr224 hZr224 hor224 (CHr.trans hR203 (CHv.at X223 hZ202 hEL hR203.1)) r223 (by unfold own_exp; rw [if_neg b219, if_neg b221]; exact p223_0)
          · refine Goes.via (B := s₁.setTop (mkF m 141 _ [(.int (2 : Int32))])) (fun t k => XS.iload X0.here hx rfl (hb hby at_139) rfl k) ?_
            refine Goes.via (B := s₁.setTop (mkF m 143 _ [(.int ca0), (.int (2 : Int32))])) (fun t k => XS.iload X0.here hx rfl (hb hby at_141) rfl k) ?_
            refine Goes.via (B := s₁.setTop (mkF m 144 _ [(.int (ca0.toUInt32.toUInt16.toUInt32.toInt32)), (.int (2 : Int32))])) (fun t k => XS.i2c X0.here hx rfl (hb hby at_143) rfl k) ?_
            refine Goes.via (B := s₁.setTop (mkF m 146 _ [(.int ca1), (.int (ca0.toUInt32.toUInt16.toUInt32.toInt32)), (.int (2 : Int32))])) (fun t k => XS.iload X0.here hx rfl (hb hby at_144) rfl k) ?_
            refine Goes.via (B := s₁.setTop (mkF m 147 _ [(.int (ca1.toUInt32.toUInt16.toUInt32.toInt32)), (.int (ca0.toUInt32.toUInt16.toUInt32.toInt32)), (.int (2 : Int32))])) (fun t k => XS.i2c X0.here hx rfl (hb hby at_146) rfl k) ?_
            have q225 : (ca0.toUInt32.toUInt16.toUInt32.toInt32) = ca0 := own_i2c hca0
            rw [q225]
            have q226 : (ca1.toUInt32.toUInt16.toUInt32.toInt32) = ca1 := own_i2c hca1
            rw [q226]
            obtain ⟨_, T227, L227, X227, hS227, hZ227, hown227, hC227, ⟨bs227, ts227, ks227, rfl, M227, K227, f227_0, f227_1, f227_2, f227_3⟩, st227⟩ := callStaticH X0 hx hZ hS0 hk0 hEL hR0.1 (sf := []) all0 hown (own_hw hw 0 rfl) (own_hw hw 1 rfl) (own_hw hw 2 rfl) (own_hw hw 3 rfl) (by decide) (argsL := [(.int (2 : Int32)), (.int ca0), (.int ca1)]) (rest := []) (own_m7 l Z a0 hw [] ca0 ca1 z0 h0 n0 O0 hz0 hca0 hca1 O_1) e0 (lenOf own_pd16 rfl) (pc := 147) (Ls := #[lv_ x1, s_, lv_ x2, s_, iv x3, iv x4, iv x5, iv (x5 &&& (3 : Int32)), lv_ y8, s_, iv (2 : Int32), iv ca0, iv ca1, iv lb, iv cd0, iv cd1, u_, u_, u_, u_, u_, u_, u_]) (st := [(.int ca1), (.int ca0), (.int (2 : Int32))]) rfl (by rw [hml]; rfl) (hb hby at_147) (W := 0) (Nat.le_of_eq rfl) (by decide) (by decide) (by decide) (by decide)
            have N227 := Fr.app N0 M227
            have hq228 := hC227
            have hR228 := CHr.trans hR0 hq228
            refine Goes.via (B := T227.setTop (mkF m 150 #[lv_ x1, s_, lv_ x2, s_, iv x3, iv x4, iv x5, iv (x5 &&& (3 : Int32)), lv_ y8, s_, iv (2 : Int32), iv ca0, iv ca1, iv lb, iv cd0, iv cd1, u_, u_, u_, u_, u_, u_, u_] [(.ref bs227)])) (fun t k => st227 _ k) ?_
            refine Goes.via (B := T227.setTop (mkF m 152 _ [])) (fun t k => XS.astore X227.here hx rfl (hb hby at_150) rfl rfl (l' := #[lv_ x1, s_, lv_ x2, s_, iv x3, iv x4, iv x5, iv (x5 &&& (3 : Int32)), lv_ y8, s_, iv (2 : Int32), iv ca0, iv ca1, iv lb, iv cd0, iv cd1, rv bs227, u_, u_, u_, u_, u_, u_]) rfl k) ?_
            rcases hlb with rfl | rfl | rfl
            · refine Goes.via (B := T227.setTop (mkF m 154 _ [(.int (0 : Int32))])) (fun t k => XS.iload X227.here hx rfl (hb hby at_152) rfl k) ?_
              refine Goes.via (B := T227.setTop (mkF m 156 _ [(.int cd0), (.int (0 : Int32))])) (fun t k => XS.iload X227.here hx rfl (hb hby at_154) rfl k) ?_
              refine Goes.via (B := T227.setTop (mkF m 157 _ [(.int (cd0.toUInt32.toUInt16.toUInt32.toInt32)), (.int (0 : Int32))])) (fun t k => XS.i2c X227.here hx rfl (hb hby at_156) rfl k) ?_
              refine Goes.via (B := T227.setTop (mkF m 159 _ [(.int cd1), (.int (cd0.toUInt32.toUInt16.toUInt32.toInt32)), (.int (0 : Int32))])) (fun t k => XS.iload X227.here hx rfl (hb hby at_157) rfl k) ?_
              refine Goes.via (B := T227.setTop (mkF m 160 _ [(.int (cd1.toUInt32.toUInt16.toUInt32.toInt32)), (.int (cd0.toUInt32.toUInt16.toUInt32.toInt32)), (.int (0 : Int32))])) (fun t k => XS.i2c X227.here hx rfl (hb hby at_159) rfl k) ?_
              have q229 : (cd0.toUInt32.toUInt16.toUInt32.toInt32) = cd0 := own_i2c hcd0
              rw [q229]
              have q230 : (cd1.toUInt32.toUInt16.toUInt32.toInt32) = cd1 := own_i2c hcd1
              rw [q230]
              obtain ⟨_, T231, L231, X231, hS231, hZ231, hown231, hC231, ⟨bs231, ts231, ks231, rfl, M231, K231, f231_0, f231_1, f231_2, f231_3⟩, st231⟩ := callStaticH X227 hx hZ227 hS227 (Nat.le_refl _) hEL hR228.1 (sf := []) all0 hown227 (own_hw hw 0 rfl) (own_hw hw 1 rfl) (own_hw hw 2 rfl) (own_hw hw 3 rfl) (by decide) (argsL := [(.int (0 : Int32)), (.int cd0), (.int cd1)]) (rest := []) (own_m5 l Z a0 hw [] cd0 cd1 z0 T227.heap n0 (O0.keep K227 all0) hz0 hcd0 hcd1 O_1) rfl (lenOf own_pd16 rfl) (pc := 160) (Ls := #[lv_ x1, s_, lv_ x2, s_, iv x3, iv x4, iv x5, iv (x5 &&& (3 : Int32)), lv_ y8, s_, iv (2 : Int32), iv ca0, iv ca1, iv (0 : Int32), iv cd0, iv cd1, rv bs227, u_, u_, u_, u_, u_, u_]) (st := [(.int cd1), (.int cd0), (.int (0 : Int32))]) rfl (by rw [hml]; rfl) (hb hby at_160) (W := 0) (Nat.le_of_eq rfl) (by decide) (by decide) (by decide) (by decide)
              have N231 := Fr.app N227 M231
              have hq232 := hC231
              have hR232 := CHr.trans hR228 hq232
              refine Goes.via (B := T231.setTop (mkF m 163 #[lv_ x1, s_, lv_ x2, s_, iv x3, iv x4, iv x5, iv (x5 &&& (3 : Int32)), lv_ y8, s_, iv (2 : Int32), iv ca0, iv ca1, iv (0 : Int32), iv cd0, iv cd1, rv bs227, u_, u_, u_, u_, u_, u_] [(.ref bs231)])) (fun t k => st231 _ k) ?_
              refine Goes.via (B := T231.setTop (mkF m 165 _ [])) (fun t k => XS.astore X231.here hx rfl (hb hby at_163) rfl rfl (l' := #[lv_ x1, s_, lv_ x2, s_, iv x3, iv x4, iv x5, iv (x5 &&& (3 : Int32)), lv_ y8, s_, iv (2 : Int32), iv ca0, iv ca1, iv (0 : Int32), iv cd0, iv cd1, rv bs227, rv bs231, u_, u_, u_, u_, u_]) rfl k) ?_
              obtain ⟨T233, h233, X233, e233, E233, A233, D233, U233, st233⟩ := newO X231 hx hZ231 hown231 (own_hw hw 12 rfl) (own_hw hw 13 rfl) (own_hw hw 14 rfl) rfl (g := (mkF m 165 #[lv_ x1, s_, lv_ x2, s_, iv x3, iv x4, iv x5, iv (x5 &&& (3 : Int32)), lv_ y8, s_, iv (2 : Int32), iv ca0, iv ca1, iv (0 : Int32), iv cd0, iv cd1, rv bs227, rv bs231, u_, u_, u_, u_, u_] [])) rfl (hb hby at_165) (by decide) (by decide)
              obtain ⟨b233, g233⟩ : ∃ z, z = T231.heap.size := ⟨_, rfl⟩
              rw [← g233] at A233 D233 U233 st233
              have gn233 : n0 ≤ b233 := Nat.le_trans (old_le ((O0.keep K227 all0).keep K231 all0)) (Nat.le_of_eq g233.symm)
              have hq234 := CHr.ext E233 hR232.1
              have hR234 := CHr.trans hR232 hq234
              have sf235 := Safe.ext E233 hR232.1 (Safe.new (Nat.le_of_eq g233.symm))
              have F233_round : Fld Z h233 b233 "com/example/keelson/keelson/cluster/Ballot" "round" "J" (.long (0 : Int64)) := D233 (Or.inr (own_hw hw 32 rfl)) (ty := .long) (by decide)
              have F233_proposer : Fld Z h233 b233 "com/example/keelson/keelson/cluster/Ballot" "proposer" "Ljava/lang/String;" .null := D233 (Or.inr (own_hw hw 34 rfl)) (ty := (.object "java/lang/String")) (by decide)
              refine Goes.via (B := T233.setTop (mkF m 168 #[lv_ x1, s_, lv_ x2, s_, iv x3, iv x4, iv x5, iv (x5 &&& (3 : Int32)), lv_ y8, s_, iv (2 : Int32), iv ca0, iv ca1, iv (0 : Int32), iv cd0, iv cd1, rv bs227, rv bs231, u_, u_, u_, u_, u_] [(.ref b233)])) (fun t k => st233 _ k) ?_
              refine Goes.via (B := T233.setTop (mkF m 169 _ [(.ref b233), (.ref b233)])) (fun t k => XS.dup X233.here hx rfl (hb hby at_168) rfl rfl k) ?_
              refine Goes.via (B := T233.setTop (mkF m 170 _ [(.long x1), (.ref b233), (.ref b233)])) (fun t k => XS.lloadN X233.here hx rfl (hb hby at_169) rfl k) ?_
              refine Goes.via (B := T233.setTop (mkF m 172 _ [(.ref bs227), (.long x1), (.ref b233), (.ref b233)])) (fun t k => XS.aload X233.here hx rfl (hb hby at_170) rfl rfl k) ?_
              obtain ⟨_, T236, L236, X236, hS236, hZ236, hown236, hC236, ⟨rfl, M236, K236, f236_0, f236_1, f236_2⟩, st236⟩ := callInitH X233 hx hZ231 hS231 (Nat.le_trans (Nat.le_refl _) E233.1) hEL hR234.1 (sf := []) all0 rfl hown231 (own_hw hw 15 rfl) (own_hw hw 16 rfl) (own_hw hw 14 rfl) (own_hw hw 17 rfl) (by decide) (argsL := [(.long x1), (.ref bs227)]) (rest := [(.ref b233)]) (own_m10 l Z a0 hw [] b233 x1 bs227 h233 n0 (((O0.keep K227 all0).keep K231 all0).ext E233) gn233 A233 F233_round F233_proposer) e233 (lenOf own_pd17 rfl) (pc := 172) (Ls := #[lv_ x1, s_, lv_ x2, s_, iv x3, iv x4, iv x5, iv (x5 &&& (3 : Int32)), lv_ y8, s_, iv (2 : Int32), iv ca0, iv ca1, iv (0 : Int32), iv cd0, iv cd1, rv bs227, rv bs231, u_, u_, u_, u_, u_]) (st := [(.ref bs227), (.long x1), (.ref b233), (.ref b233)]) rfl (by rw [hml]; rfl) (hb hby at_172) (W := 1) (Nat.le_of_eq rfl) (by decide) (by decide) (by decide) (by decide)
              have N236 := Fr.app N231 M236
              have hq237 := hC236
              have hR237 := CHr.trans hR234 hq237
              refine Goes.via (B := T236.setTop (mkF m 175 #[lv_ x1, s_, lv_ x2, s_, iv x3, iv x4, iv x5, iv (x5 &&& (3 : Int32)), lv_ y8, s_, iv (2 : Int32), iv ca0, iv ca1, iv (0 : Int32), iv cd0, iv cd1, rv bs227, rv bs231, u_, u_, u_, u_, u_] [(.ref b233)])) (fun t k => st236 _ k) ?_
              refine Goes.via (B := T236.setTop (mkF m 177 _ [])) (fun t k => XS.astore X236.here hx rfl (hb hby at_175) rfl rfl (l' := #[lv_ x1, s_, lv_ x2, s_, iv x3, iv x4, iv x5, iv (x5 &&& (3 : Int32)), lv_ y8, s_, iv (2 : Int32), iv ca0, iv ca1, iv (0 : Int32), iv cd0, iv cd1, rv bs227, rv bs231, rv b233, u_, u_, u_, u_]) rfl k) ?_
              obtain ⟨T238, h238, X238, e238, E238, A238, D238, U238, st238⟩ := newO X236 hx hZ236 hown236 (own_hw hw 12 rfl) (own_hw hw 13 rfl) (own_hw hw 14 rfl) rfl (g := (mkF m 177 #[lv_ x1, s_, lv_ x2, s_, iv x3, iv x4, iv x5, iv (x5 &&& (3 : Int32)), lv_ y8, s_, iv (2 : Int32), iv ca0, iv ca1, iv (0 : Int32), iv cd0, iv cd1, rv bs227, rv bs231, rv b233, u_, u_, u_, u_] [])) rfl (hb hby at_177) (by decide) (by decide)
              obtain ⟨b238, g238⟩ : ∃ z, z = T236.heap.size := ⟨_, rfl⟩
              rw [← g238] at A238 D238 U238 st238
              have gn238 : n0 ≤ b238 := Nat.le_trans (old_le ((((O0.keep K227 all0).keep K231 all0).ext E233).keep K236 (allS gn233 all0))) (Nat.le_of_eq g238.symm)
              have hq239 := CHr.ext E238 hR237.1
              have hR239 := CHr.trans hR237 hq239
              have sf240 := Safe.ext E238 hR237.1 (Safe.new (Nat.le_of_eq g238.symm))
              have F238_round : Fld Z h238 b238 "com/example/keelson/keelson/cluster/Ballot" "round" "J" (.long (0 : Int64)) := D238 (Or.inr (own_hw hw 32 rfl)) (ty := .long) (by decide)
              have F238_proposer : Fld Z h238 b238 "com/example/keelson/keelson/cluster/Ballot" "proposer" "Ljava/lang/String;" .null := D238 (Or.inr (own_hw hw 34 rfl)) (ty := (.object "java/lang/String")) (by decide)
              refine Goes.via (B := T238.setTop (mkF m 180 #[lv_ x1, s_, lv_ x2, s_, iv x3, iv x4, iv x5, iv (x5 &&& (3 : Int32)), lv_ y8, s_, iv (2 : Int32), iv ca0, iv ca1, iv (0 : Int32), iv cd0, iv cd1, rv bs227, rv bs231, rv b233, u_, u_, u_, u_] [(.ref b238)])) (fun t k => st238 _ k) ?_
              refine Goes.via (B := T238.setTop (mkF m 181 _ [(.ref b238), (.ref b238)])) (fun t k => XS.dup X238.here hx rfl (hb hby at_180) rfl rfl k) ?_
              refine Goes.via (B := T238.setTop (mkF m 183 _ [(.long y8), (.ref b238), (.ref b238)])) (fun t k => XS.lload X238.here hx rfl (hb hby at_181) rfl k) ?_
              refine Goes.via (B := T238.setTop (mkF m 185 _ [(.ref bs231), (.long y8), (.ref b238), (.ref b238)])) (fun t k => XS.aload X238.here hx rfl (hb hby at_183) rfl rfl k) ?_
              obtain ⟨_, T241, L241, X241, hS241, hZ241, hown241, hC241, ⟨rfl, M241, K241, f241_0, f241_1, f241_2⟩, st241⟩ := callInitH X238 hx hZ236 hS236 (Nat.le_trans (Nat.le_refl _) E238.1) hEL hR239.1 (sf := []) all0 rfl hown236 (own_hw hw 15 rfl) (own_hw hw 16 rfl) (own_hw hw 14 rfl) (own_hw hw 17 rfl) (by decide) (argsL := [(.long y8), (.ref bs231)]) (rest := [(.ref b238)]) (own_m10 l Z a0 hw [] b238 y8 bs231 h238 n0 (((((O0.keep K227 all0).keep K231 all0).ext E233).keep K236 (allS gn233 all0)).ext E238) gn238 A238 F238_round F238_proposer) e238 (lenOf own_pd17 rfl) (pc := 185) (Ls := #[lv_ x1, s_, lv_ x2, s_, iv x3, iv x4, iv x5, iv (x5 &&& (3 : Int32)), lv_ y8, s_, iv (2 : Int32), iv ca0, iv ca1, iv (0 : Int32), iv cd0, iv cd1, rv bs227, rv bs231, rv b233, u_, u_, u_, u_]) (st := [(.ref bs231), (.long y8), (.ref b238), (.ref b238)]) rfl (by rw [hml]; rfl) (hb hby at_185) (W := 1) (Nat.le_of_eq rfl) (by decide) (by decide) (by decide) (by decide)
              have N241 := Fr.app N236 M241
              have hq242 := hC241
              have hR242 := CHr.trans hR239 hq242
              refine Goes.via (B := T241.setTop (mkF m 188 #[lv_ x1, s_, lv_ x2, s_, iv x3, iv x4, iv x5, iv (x5 &&& (3 : Int32)), lv_ y8, s_, iv (2 : Int32), iv ca0, iv ca1, iv (0 : Int32), iv cd0, iv cd1, rv bs227, rv bs231, rv b233, u_, u_, u_, u_] [(.ref b238)])) (fun t k => st241 _ k) ?_
              refine Goes.via (B := T241.setTop (mkF m 190 _ [])) (fun t k => XS.astore X241.here hx rfl (hb hby at_188) rfl rfl (l' := #[lv_ x1, s_, lv_ x2, s_, iv x3, iv x4, iv x5, iv (x5 &&& (3 : Int32)), lv_ y8, s_, iv (2 : Int32), iv ca0, iv ca1, iv (0 : Int32), iv cd0, iv cd1, rv bs227, rv bs231, rv b233, rv b238, u_, u_, u_]) rfl k) ?_
              refine Goes.via (B := T241.setTop (mkF m 191 _ [(.long x1)])) (fun t k => XS.lloadN X241.here hx rfl (hb hby at_190) rfl k) ?_
              refine Goes.via (B := T241.setTop (mkF m 193 _ [(.long y8), (.long x1)])) (fun t k => XS.lload X241.here hx rfl (hb hby at_191) rfl k) ?_
              refine Goes.via (B := T241.setTop (mkF m 194 _ [(.int (XT.cmpL x1 y8))])) (fun t k => XT.lcmp X241.here hx rfl (hb hby at_193) rfl k) ?_
              have j243 : ∀ (T244 : State) (lc244 : List Loc) (X244 : Stand p l e room_1 (s.setVm T244.vm) m #[(.long x1), (.long x2), (.int x3), (.int x4), (.int x5)] below meth c T244 lc244 11 88) (e244 : T244.heap = T241.heap) (N244 : Fr n0 lc244) (hS244 : s.Since T244.vm T241.heap.size) (hZ244 : Z.Warmed39 T244.vm) (hown244 : T244.vm.findClass "com/example/keelson/keelson/cluster/BallotCompareToPinLaw" = some m.cls) (hR244 : CHr Z consts_1 s.vm s.heap T244.vm T241.heap) (exq : Int32) (hex : exq = own_exp x1 y8 (2 : Int32) ca0 ca1 (0 : Int32) cd0 cd1) , Goes p.tables e below (fun t o => ∃ v L, o = .returned v ∧ (own_Q64 Z x1 x2 x3 x4 x5 z0 h0 n0) v t.heap L ∧ EndH Z consts_1 s o t L (room_1).cells (room_1).slots) (T244.setTop (mkF m 233 #[lv_ x1, s_, lv_ x2, s_, iv x3, iv x4, iv x5, iv (x5 &&& (3 : Int32)), lv_ y8, s_, iv (2 : Int32), iv ca0, iv ca1, iv (0 : Int32), iv cd0, iv cd1, rv bs227, rv bs231, rv b233, rv b238, iv exq, u_, u_] [])) := by
                intro T244 lc244 X244 e244 N244 hS244 hZ244 hown244 hR244 exq hex
                refine Goes.via (B := T244.setTop (mkF m 235 _ [(.ref b233)])) (fun t k => XS.aload X244.here hx rfl (hb hby at_233) rfl rfl k) ?_
                refine Goes.via (B := T244.setTop (mkF m 237 _ [(.ref b238), (.ref b233)])) (fun t k => XS.aload X244.here hx rfl (hb hby at_235) rfl rfl k) ?_
                have c246 : Fld Z T241.heap b233 "com/example/keelson/keelson/cluster/Ballot" "round" "J" (.long x1) := ((f236_1.ext E238).keep K241 (ninS (Nat.ne_of_lt (Nat.lt_of_lt_of_le (Nat.le_trans A233.lt K236.1) (Nat.le_of_eq g238.symm))) nin0))
                have c247 : Fld Z T241.heap b233 "com/example/keelson/keelson/cluster/Ballot" "proposer" "Ljava/lang/String;" (.ref bs227) := ((f236_2.ext E238).keep K241 (ninS (Nat.ne_of_lt (Nat.lt_of_lt_of_le (Nat.le_trans A233.lt K236.1) (Nat.le_of_eq g238.symm))) nin0))
                have c248 : Exa Z T241.heap bs227 "java/lang/String" := (((((f227_0.keep K231).ext E233).keep K236).ext E238).keep K241)
                have c249 : Fld Z T241.heap bs227 "java/lang/String" "value" "[B" (.ref ts227) := (((((f227_1.keep K231 nin0).ext E233).keep K236 (ninS (Nat.ne_of_lt (Nat.lt_of_lt_of_le (Nat.le_trans f227_0.lt K231.1) (Nat.le_of_eq g233.symm))) nin0)).ext E238).keep K241 (ninS (Nat.ne_of_lt (Nat.lt_of_lt_of_le (Nat.le_trans (Nat.le_trans (Nat.le_trans f227_0.lt K231.1) E233.1) K236.1) (Nat.le_of_eq g238.symm))) nin0))
                have c250 : Fld Z T241.heap bs227 "java/lang/String" "coder" "B" (.int (0 : Int32)) := (((((f227_2.keep K231 nin0).ext E233).keep K236 (ninS (Nat.ne_of_lt (Nat.lt_of_lt_of_le (Nat.le_trans f227_0.lt K231.1) (Nat.le_of_eq g233.symm))) nin0)).ext E238).keep K241 (ninS (Nat.ne_of_lt (Nat.lt_of_lt_of_le (Nat.le_trans (Nat.le_trans (Nat.le_trans f227_0.lt K231.1) E233.1) K236.1) (Nat.le_of_eq g238.symm))) nin0))
                have c251 : Fld Z T241.heap bs231 "java/lang/String" "value" "[B" (.ref ts231) := ((((f231_1.ext E233).keep K236 (ninS (Nat.ne_of_lt (Nat.lt_of_lt_of_le f231_0.lt (Nat.le_of_eq g233.symm))) nin0)).ext E238).keep K241 (ninS (Nat.ne_of_lt (Nat.lt_of_lt_of_le (Nat.le_trans (Nat.le_trans f231_0.lt E233.1) K236.1) (Nat.le_of_eq g238.symm))) nin0))
                have c252 : Fld Z T241.heap bs231 "java/lang/String" "coder" "B" (.int (0 : Int32)) := ((((f231_2.ext E233).keep K236 (ninS (Nat.ne_of_lt (Nat.lt_of_lt_of_le f231_0.lt (Nat.le_of_eq g233.symm))) nin0)).ext E238).keep K241 (ninS (Nat.ne_of_lt (Nat.lt_of_lt_of_le (Nat.le_trans (Nat.le_trans f231_0.lt E233.1) K236.1) (Nat.le_of_eq g238.symm))) nin0))
                have c253 : Arv Z T241.heap ts227 ks227 .byte (2 : Int32) [(.int ca0.toInt8.toInt32), (.int ca1.toInt8.toInt32)] (.int (0 : Int32)) := (((((f227_3.keep K231 nin0).ext E233).keep K236 (ninS (Nat.ne_of_lt (Nat.lt_of_lt_of_le (Nat.le_trans f227_3.lt K231.1) (Nat.le_of_eq g233.symm))) nin0)).ext E238).keep K241 (ninS (Nat.ne_of_lt (Nat.lt_of_lt_of_le (Nat.le_trans (Nat.le_trans (Nat.le_trans f227_3.lt K231.1) E233.1) K236.1) (Nat.le_of_eq g238.symm))) nin0))
                have c254 : Arv Z T241.heap ts231 ks231 .byte (0 : Int32) [] (.int (0 : Int32)) := ((((f231_3.ext E233).keep K236 (ninS (Nat.ne_of_lt (Nat.lt_of_lt_of_le f231_3.lt (Nat.le_of_eq g233.symm))) nin0)).ext E238).keep K241 (ninS (Nat.ne_of_lt (Nat.lt_of_lt_of_le (Nat.le_trans (Nat.le_trans f231_3.lt E233.1) K236.1) (Nat.le_of_eq g238.symm))) nin0))
                obtain ⟨_, T245, L245, X245, ⟨r245, rfl, M245, K245, p245_0⟩, st245⟩ := callVirt X244 hx hZ244 hown244 (own_hw hw 35 rfl) (own_hw hw 36 rfl) (own_hw hw 38 rfl) (notFace_of_selects (args := #[]) (mvT hZ244 (own_hw hw 38 rfl))) (own_hw hw 37 rfl) (own_hw hw 14 rfl) (own_hw hw 39 rfl) (by decide) (argsL := [(.ref b238)]) (rest := []) (own_m53 l Z a0 hw [] b233 b238 x1 y8 bs227 bs231 z0 ts227 ks227 ts231 ks231 ca0 ca1 cd0 cd1 T241.heap n0 ((((((O0.keep K227 all0).keep K231 all0).ext E233).keep K236 (allS gn233 all0)).ext E238).keep K241 (allS gn238 all0)) hz0 hca0 hca1 hcd0 hcd1 O_1 ((f236_0.ext E238).keep K241) c246 c247 f241_0 f241_1 f241_2 c248 c249 c250 ((((f231_0.ext E233).keep K236).ext E238).keep K241) c251 c252 c253 c254) e244 ((f236_0.ext E238).keep K241) (lenOf own_pd18 rfl) (pc := 237) (Ls := #[lv_ x1, s_, lv_ x2, s_, iv x3, iv x4, iv x5, iv (x5 &&& (3 : Int32)), lv_ y8, s_, iv (2 : Int32), iv ca0, iv ca1, iv (0 : Int32), iv cd0, iv cd1, rv bs227, rv bs231, rv b233, rv b238, iv exq, u_, u_]) (st := [(.ref b238), (.ref b233)]) rfl (by rw [hml]; rfl) (hb hby at_237) (W := 0) (Nat.le_of_eq rfl) (by decide) (by decide) (by decide) (by decide)
                have N245 := Fr.app N244 M245
                refine Goes.via (B := T245.setTop (mkF m 240 #[lv_ x1, s_, lv_ x2, s_, iv x3, iv x4, iv x5, iv (x5 &&& (3 : Int32)), lv_ y8, s_, iv (2 : Int32), iv ca0, iv ca1, iv (0 : Int32), iv cd0, iv cd1, rv bs227, rv bs231, rv b233, rv b238, iv exq, u_, u_] [(.int r245)])) (fun t k => st245 _ k) ?_
                refine Goes.via (B := T245.setTop (mkF m 241 _ [(.long (r245.toInt64))])) (fun t k => XS.i2l X245.here hx rfl (hb hby at_240) rfl k) ?_
                obtain ⟨_, T255, L255, X255, ⟨r255, rfl, M255, K255, p255_0⟩, st255⟩ := callStatic X245 hx hZ244 hown244 (own_hw hw 44 rfl) (own_hw hw 45 rfl) (own_hw hw 2 rfl) (own_hw hw 46 rfl) (by decide) (argsL := [(.long (r245.toInt64))]) (rest := []) (own_m12 l Z a0 hw [] r245.toInt64 T241.heap n0 ((((((O0.keep K227 all0).keep K231 all0).ext E233).keep K236 (allS gn233 all0)).ext E238).keep K241 (allS gn238 all0)) ) K245 (lenOf own_pd7 rfl) (pc := 241) (Ls := #[lv_ x1, s_, lv_ x2, s_, iv x3, iv x4, iv x5, iv (x5 &&& (3 : Int32)), lv_ y8, s_, iv (2 : Int32), iv ca0, iv ca1, iv (0 : Int32), iv cd0, iv cd1, rv bs227, rv bs231, rv b233, rv b238, iv exq, u_, u_]) (st := [(.long (r245.toInt64))]) rfl (by rw [hml]; rfl) (hb hby at_241) (W := 0) (Nat.le_of_eq rfl) (by decide) (by decide) (by decide) (by decide)
                have N255 := Fr.app N245 M255
                refine Goes.via (B := T255.setTop (mkF m 244 #[lv_ x1, s_, lv_ x2, s_, iv x3, iv x4, iv x5, iv (x5 &&& (3 : Int32)), lv_ y8, s_, iv (2 : Int32), iv ca0, iv ca1, iv (0 : Int32), iv cd0, iv cd1, rv bs227, rv bs231, rv b233, rv b238, iv exq, u_, u_] [(.int r255)])) (fun t k => st255 _ k) ?_
                refine Goes.via (B := T255.setTop (mkF m 246 _ [])) (fun t k => XS.istore X255.here hx rfl (hb hby at_244) rfl (l' := #[lv_ x1, s_, lv_ x2, s_, iv x3, iv x4, iv x5, iv (x5 &&& (3 : Int32)), lv_ y8, s_, iv (2 : Int32), iv ca0, iv ca1, iv (0 : Int32), iv cd0, iv cd1, rv bs227, rv bs231, rv b233, rv b238, iv exq, iv r255, u_]) rfl k) ?_
                refine Goes.via (B := T255.setTop (mkF m 248 _ [(.ref b238)])) (fun t k => XS.aload X255.here hx rfl (hb hby at_246) rfl rfl k) ?_
                refine Goes.via (B := T255.setTop (mkF m 250 _ [(.ref b233), (.ref b238)])) (fun t k => XS.aload X255.here hx rfl (hb hby at_248) rfl rfl k) ?_
                obtain ⟨_, T256, L256, X256, ⟨r256, rfl, M256, K256, p256_0⟩, st256⟩ := callVirt X255 hx hZ244 hown244 (own_hw hw 35 rfl) (own_hw hw 36 rfl) (own_hw hw 38 rfl) (notFace_of_selects (args := #[]) (mvT hZ244 (own_hw hw 38 rfl))) (own_hw hw 37 rfl) (own_hw hw 14 rfl) (own_hw hw 39 rfl) (by decide) (argsL := [(.ref b233)]) (rest := []) (own_m33 l Z a0 hw [] b238 b233 y8 x1 bs231 bs227 z0 ts231 ks231 ts227 ks227 cd0 cd1 ca0 ca1 T241.heap n0 ((((((O0.keep K227 all0).keep K231 all0).ext E233).keep K236 (allS gn233 all0)).ext E238).keep K241 (allS gn238 all0)) hz0 hcd0 hcd1 hca0 hca1 O_1 f241_0 f241_1 f241_2 ((f236_0.ext E238).keep K241) c246 c247 ((((f231_0.ext E233).keep K236).ext E238).keep K241) c251 c252 c248 c249 c250 c254 c253) K255 f241_0 (lenOf own_pd18 rfl) (pc := 250) (Ls := #[lv_ x1, s_, lv_ x2, s_, iv x3, iv x4, iv x5, iv (x5 &&& (3 : Int32)), lv_ y8, s_, iv (2 : Int32), iv ca0, iv ca1, iv (0 : Int32), iv cd0, iv cd1, rv bs227, rv bs231, rv b233, rv b238, iv exq, iv r255, u_]) (st := [(.ref b233), (.ref b238)]) rfl (by rw [hml]; rfl) (hb hby at_250) (W := 0) (Nat.le_of_eq rfl) (by decide) (by decide) (by decide) (by decide)
                have N256 := Fr.app N255 M256
                refine Goes.via (B := T256.setTop (mkF m 253 #[lv_ x1, s_, lv_ x2, s_, iv x3, iv x4, iv x5, iv (x5 &&& (3 : Int32)), lv_ y8, s_, iv (2 : Int32), iv ca0, iv ca1, iv (0 : Int32), iv cd0, iv cd1, rv bs227, rv bs231, rv b233, rv b238, iv exq, iv r255, u_] [(.int r256)])) (fun t k => st256 _ k) ?_
                refine Goes.via (B := T256.setTop (mkF m 254 _ [(.long (r256.toInt64))])) (fun t k => XS.i2l X256.here hx rfl (hb hby at_253) rfl k) ?_
                obtain ⟨_, T257, L257, X257, ⟨r257, rfl, M257, K257, p257_0⟩, st257⟩ := callStatic X256 hx hZ244 hown244 (own_hw hw 44 rfl) (own_hw hw 45 rfl) (own_hw hw 2 rfl) (own_hw hw 46 rfl) (by decide) (argsL := [(.long (r256.toInt64))]) (rest := []) (own_m12 l Z a0 hw [] r256.toInt64 T241.heap n0 ((((((O0.keep K227 all0).keep K231 all0).ext E233).keep K236 (allS gn233 all0)).ext E238).keep K241 (allS gn238 all0)) ) K256 (lenOf own_pd7 rfl) (pc := 254) (Ls := #[lv_ x1, s_, lv_ x2, s_, iv x3, iv x4, iv x5, iv (x5 &&& (3 : Int32)), lv_ y8, s_, iv (2 : Int32), iv ca0, iv ca1, iv (0 : Int32), iv cd0, iv cd1, rv bs227, rv bs231, rv b233, rv b238, iv exq, iv r255, u_]) (st := [(.long (r256.toInt64))]) rfl (by rw [hml]; rfl) (hb hby at_254) (W := 0) (Nat.le_of_eq rfl) (by decide) (by decide) (by decide) (by decide)
                have N257 := Fr.app N256 M257
                refine Goes.via (B := T257.setTop (mkF m 257 #[lv_ x1, s_, lv_ x2, s_, iv x3, iv x4, iv x5, iv (x5 &&& (3 : Int32)), lv_ y8, s_, iv (2 : Int32), iv ca0, iv ca1, iv (0 : Int32), iv cd0, iv cd1, rv bs227, rv bs231, rv b233, rv b238, iv exq, iv r255, u_] [(.int r257)])) (fun t k => st257 _ k) ?_
                refine Goes.via (B := T257.setTop (mkF m 259 _ [])) (fun t k => XS.istore X257.here hx rfl (hb hby at_257) rfl (l' := #[lv_ x1, s_, lv_ x2, s_, iv x3, iv x4, iv x5, iv (x5 &&& (3 : Int32)), lv_ y8, s_, iv (2 : Int32), iv ca0, iv ca1, iv (0 : Int32), iv cd0, iv cd1, rv bs227, rv bs231, rv b233, rv b238, iv exq, iv r255, iv r257]) rfl k) ?_
                refine Goes.via (B := T257.setTop (mkF m 261 _ [(.int r255)])) (fun t k => XS.iload X257.here hx rfl (hb hby at_259) rfl k) ?_
                refine Goes.via (B := T257.setTop (mkF m 263 _ [(.int exq), (.int r255)])) (fun t k => XS.iload X257.here hx rfl (hb hby at_261) rfl k) ?_
                refine Goes.via (B := T257.setTop (mkF m 266 _ [])) (fun t k => XS.icmpNo X257.here hx rfl (hb hby at_263) rfl (XT.ii_ne_f (p255_0.trans ((own_sgl _).trans (p245_0.trans hex.symm)))) k) ?_
                refine Goes.via (B := T257.setTop (mkF m 268 _ [(.int r257)])) (fun t k => XS.iload X257.here hx rfl (hb hby at_266) rfl k) ?_
                refine Goes.via (B := T257.setTop (mkF m 270 _ [(.int exq), (.int r257)])) (fun t k => XS.iload X257.here hx rfl (hb hby at_268) rfl k) ?_
                refine Goes.via (B := T257.setTop (mkF m 271 _ [(.int (-exq)), (.int r257)])) (fun t k => XS.ineg X257.here hx rfl (hb hby at_270) rfl k) ?_
                refine Goes.via (B := T257.setTop (mkF m 274 _ [])) (fun t k => XS.icmpNo X257.here hx rfl (hb hby at_271) rfl (XT.ii_ne_f (by rw [p257_0, own_sgl, p256_0, hex]; exact own_antiE _ _ _ _ _ _ _ _ (by decide) (by decide))) k) ?_
                refine Goes.via (B := T257.setTop (mkF m 275 _ [(.int (1 : Int32))])) (fun t k => XS.iconst X257.here hx rfl (hb hby at_274) k) ?_
                refine Goes.via (B := T257.setTop (mkF m 279 _ [(.int (1 : Int32))])) (fun t k => XS.goto X257.here hx rfl (pc0 := 275) (pc' := 279) rfl (hb hby at_275) (by decide) (by decide) k) ?_
                exact finN (Q := (own_Q64 Z x1 x2 x3 x4 x5 z0 h0 n0)) (F := EndH Z consts_1) (C := (room_1).cells) (S := (room_1).slots) X257 hx (t := .boolean) Bd.returns (by simp) (z' := (1 : Int32)) rfl (hb hby at_279) K257 ⟨rfl, N257, trivial⟩ (lvH X257 hlk hS244 K257 (Nat.le_refl _) hZ244 hEL hR244 (by decide) (by decide))
              by_cases b258 : x1 < y8
              · refine Goes.via (B := T241.setTop (mkF m 197 _ [])) (fun t k => XS.ifNo X241.here hx rfl (hb hby at_194) rfl (XT.ll_ge_f b258) k) ?_
                refine Goes.via (B := T241.setTop (mkF m 198 _ [(.int (-1 : Int32))])) (fun t k => XS.iconst X241.here hx rfl (hb hby at_197) k) ?_
                refine Goes.via (B := T241.setTop (mkF m 200 _ [])) (fun t k => XS.istore X241.here hx rfl (hb hby at_198) rfl (l' := #[lv_ x1, s_, lv_ x2, s_, iv x3, iv x4, iv x5, iv (x5 &&& (3 : Int32)), lv_ y8, s_, iv (2 : Int32), iv ca0, iv ca1, iv (0 : Int32), iv cd0, iv cd1, rv bs227, rv bs231, rv b233, rv b238, iv (-1 : Int32), u_, u_]) rfl k) ?_
                refine Goes.via (B := T241.setTop (mkF m 233 _ [])) (fun t k => XS.goto X241.here hx rfl (pc0 := 200) (pc' := 233) rfl (hb hby at_200) (by decide) (by decide) k) ?_
                obtain ⟨Xr259, hSr259, hZr259, hor259⟩ := rebase X241 hS241 rfl (Nat.le_refl _) hZ241 hown241
                exact j243 T241 _ Xr259 rfl N241 hSr259 hZr259 hor259 (CHr.trans hR242 (CHv.at X241 hZ241 hEL hR242.1)) (-1 : Int32) (by unfold own_exp; rw [if_pos b258])
              · refine Goes.via (B := T241.setTop (mkF m 203 _ [])) (fun t k => XS.ifYes X241.here hx rfl (pc0 := 194) (pc' := 203) rfl (hb hby at_194) rfl (XT.ll_ge_t b258) (by decide) (by decide) k) ?_
                refine Goes.via (B := T241.setTop (mkF m 204 _ [(.long x1)])) (fun t k => XS.lloadN X241.here hx rfl (hb hby at_203) rfl k) ?_
                refine Goes.via (B := T241.setTop (mkF m 206 _ [(.long y8), (.long x1)])) (fun t k => XS.lload X241.here hx rfl (hb hby at_204) rfl k) ?_
                refine Goes.via (B := T241.setTop (mkF m 207 _ [(.int (XT.cmpL x1 y8))])) (fun t k => XT.lcmp X241.here hx rfl (hb hby at_206) rfl k) ?_
                by_cases b260 : y8 < x1
                · refine Goes.via (B := T241.setTop (mkF m 210 _ [])) (fun t k => XS.ifNo X241.here hx rfl (hb hby at_207) rfl (XT.ll_le_f b260) k) ?_
                  refine Goes.via (B := T241.setTop (mkF m 211 _ [(.int (1 : Int32))])) (fun t k => XS.iconst X241.here hx rfl (hb hby at_210) k) ?_
                  refine Goes.via (B := T241.setTop (mkF m 213 _ [])) (fun t k => XS.istore X241.here hx rfl (hb hby at_211) rfl (l' := #[lv_ x1, s_, lv_ x2, s_, iv x3, iv x4, iv x5, iv (x5 &&& (3 : Int32)), lv_ y8, s_, iv (2 : Int32), iv ca0, iv ca1, iv (0 : Int32), iv cd0, iv cd1, rv bs227, rv bs231, rv b233, rv b238, iv (1 : Int32), u_, u_]) rfl k) ?_
                  refine Goes.via (B := T241.setTop (mkF m 233 _ [])) (fun t k => XS.goto X241.here hx rfl (pc0 := 213) (pc' := 233) rfl (hb hby at_213) (by decide) (by decide) k) ?_
                  obtain ⟨Xr261, hSr261, hZr261, hor261⟩ := rebase X241 hS241 rfl (Nat.le_refl _) hZ241 hown241
                  exact j243 T241 _ Xr261 rfl N241 hSr261 hZr261 hor261 (CHr.trans hR242 (CHv.at X241 hZ241 hEL hR242.1)) (1 : Int32) (by unfold own_exp; rw [if_neg b258, if_pos b260])
                · refine Goes.via (B := T241.setTop (mkF m 216 _ [])) (fun t k => XS.ifYes X241.here hx rfl (pc0 := 207) (pc' := 216) rfl (hb hby at_207) rfl (XT.ll_le_t b260) (by decide) (by decide) k) ?_
                  refine Goes.via (B := T241.setTop (mkF m 218 _ [(.int (2 : Int32))])) (fun t k => XS.iload X241.here hx rfl (hb hby at_216) rfl k) ?_
                  refine Goes.via (B := T241.setTop (mkF m 220 _ [(.int ca0), (.int (2 : Int32))])) (fun t k => XS.iload X241.here hx rfl (hb hby at_218) rfl k) ?_
                  refine Goes.via (B := T241.setTop (mkF m 222 _ [(.int ca1), (.int ca0), (.int (2 : Int32))])) (fun t k => XS.iload X241.here hx rfl (hb hby at_220) rfl k) ?_
                  refine Goes.via (B := T241.setTop (mkF m 224 _ [(.int (0 : Int32)), (.int ca1), (.int ca0), (.int (2 : Int32))])) (fun t k => XS.iload X241.here hx rfl (hb hby at_222) rfl k) ?_
                  refine Goes.via (B := T241.setTop (mkF m 226 _ [(.int cd0), (.int (0 : Int32)), (.int ca1), (.int ca0), (.int (2 : Int32))])) (fun t k => XS.iload X241.here hx rfl (hb hby at_224) rfl k) ?_
                  refine Goes.via (B := T241.setTop (mkF m 228 _ [(.int cd1), (.int cd0), (.int (0 : Int32)), (.int ca1), (.int ca0), (.int (2 : Int32))])) (fun t k => XS.iload X241.here hx rfl (hb hby at_226) rfl k) ?_
                  obtain ⟨_, T262, L262, X262, ⟨r262, rfl, M262, K262, p262_0⟩, st262⟩ := callStatic X241 hx hZ241 hown241 (own_hw hw 47 rfl) (own_hw hw 48 rfl) (own_hw hw 2 rfl) (own_hw hw 49 rfl) (by decide) (argsL := [(.int (2 : Int32)), (.int ca0), (.int ca1), (.int (0 : Int32)), (.int cd0), (.int cd1)]) (rest := []) (own_m13 l Z a0 hw [] (2 : Int32) ca0 ca1 (0 : Int32) cd0 cd1 T241.heap n0 ((((((O0.keep K227 all0).keep K231 all0).ext E233).keep K236 (allS gn233 all0)).ext E238).keep K241 (allS gn238 all0)) ) rfl (lenOf own_pd19 rfl) (pc := 228) (Ls := #[lv_ x1, s_, lv_ x2, s_, iv x3, iv x4, iv x5, iv (x5 &&& (3 : Int32)), lv_ y8, s_, iv (2 : Int32), iv ca0, iv ca1, iv (0 : Int32), iv cd0, iv cd1, rv bs227, rv bs231, rv b233, rv b238, u_, u_, u_]) (st := [(.int cd1), (.int cd0), (.int (0 : Int32)), (.int ca1), (.int ca0), (.int (2 : Int32))]) rfl (by rw [hml]; rfl) (hb hby at_228) (W := 0) (Nat.le_of_eq rfl) (by decide) (by decide) (by decide) (by decide)
                  have N262 := Fr.app N241 M262
                  refine Goes.via (B := T262.setTop (mkF m 231 #[lv_ x1, s_, lv_ x2, s_, iv x3, iv x4, iv x5, iv (x5 &&& (3 : Int32)), lv_ y8, s_, iv (2 : Int32), iv ca0, iv ca1, iv (0 : Int32), iv cd0, iv cd1, rv bs227, rv bs231, rv b233, rv b238, u_, u_, u_] [(.int r262)])) (fun t k => st262 _ k) ?_
                  refine Goes.via (B := T262.setTop (mkF m 233 _ [])) (fun t k => XS.istore X262.here hx rfl (hb hby at_231) rfl (l' := #[lv_ x1, s_, lv_ x2, s_, iv x3, iv x4, iv x5, iv (x5 &&& (3 : Int32)), lv_ y8, s_, iv (2 : Int32), iv ca0, iv ca1, iv (0 : Int32), iv cd0, iv cd1, rv bs227, rv bs231, rv b233, rv b238, iv r262, u_, u_]) rfl k) ?_
                  obtain ⟨Xr263, hSr263, hZr263, hor263⟩ := rebase X262 hS241 K262 (Nat.le_refl _) hZ241 hown241
                  exact j243 T262 _ Xr263 K262 N262 hSr263 hZr263 hor263 (CHr.trans hR242 (CHv.at X262 hZ241 hEL hR242.1)) r262 (by unfold own_exp; rw [if_neg b258, if_neg b260]; exact p262_0)
            · refine Goes.via (B := T227.setTop (mkF m 154 _ [(.int (1 : Int32))])) (fun t k => XS.iload X227.here hx rfl (hb hby at_152) rfl k) ?_
              refine Goes.via (B := T227.setTop (mkF m 156 _ [(.int cd0), (.int (1 : Int32))])) (fun t k => XS.iload X227.here hx rfl (hb hby at_154) rfl k) ?_
              refine Goes.via (B := T227.setTop (mkF m 157 _ [(.int (cd0.toUInt32.toUInt16.toUInt32.toInt32)), (.int (1 : Int32))])) (fun t k => XS.i2c X227.here hx rfl (hb hby at_156) rfl k) ?_
              refine Goes.via (B := T227.setTop (mkF m 159 _ [(.int cd1), (.int (cd0.toUInt32.toUInt16.toUInt32.toInt32)), (.int (1 : Int32))])) (fun t k => XS.iload X227.here hx rfl (hb hby at_157) rfl k) ?_
              refine Goes.via (B := T227.setTop (mkF m 160 _ [(.int (cd1.toUInt32.toUInt16.toUInt32.toInt32)), (.int (cd0.toUInt32.toUInt16.toUInt32.toInt32)), (.int (1 : Int32))])) (fun t k => XS.i2c X227.here hx rfl (hb hby at_159) rfl k) ?_
              have q264 : (cd0.toUInt32.toUInt16.toUInt32.toInt32) = cd0 := own_i2c hcd0
              rw [q264]
              have q265 : (cd1.toUInt32.toUInt16.toUInt32.toInt32) = cd1 := own_i2c hcd1
              rw [q265]
              obtain ⟨_, T266, L266, X266, hS266, hZ266, hown266, hC266, ⟨bs266, ts266, ks266, rfl, M266, K266, f266_0, f266_1, f266_2, f266_3⟩, st266⟩ := callStaticH X227 hx hZ227 hS227 (Nat.le_refl _) hEL hR228.1 (sf := []) all0 hown227 (own_hw hw 0 rfl) (own_hw hw 1 rfl) (own_hw hw 2 rfl) (own_hw hw 3 rfl) (by decide) (argsL := [(.int (1 : Int32)), (.int cd0), (.int cd1)]) (rest := []) (own_m6 l Z a0 hw [] cd0 cd1 z0 T227.heap n0 (O0.keep K227 all0) hz0 hcd0 hcd1 O_1) rfl (lenOf own_pd16 rfl) (pc := 160) (Ls := #[lv_ x1, s_, lv_ x2, s_, iv x3, iv x4, iv x5, iv (x5 &&& (3 : Int32)), lv_ y8, s_, iv (2 : Int32), iv ca0, iv ca1, iv (1 : Int32), iv cd0, iv cd1, rv bs227, u_, u_, u_, u_, u_, u_]) (st := [(.int cd1), (.int cd0), (.int (1 : Int32))]) rfl (by rw [hml]; rfl) (hb hby at_160) (W := 0) (Nat.le_of_eq rfl) (by decide) (by decide) (by decide) (by decide)
              have N266 := Fr.app N227 M266
              have hq267 := hC266
              have hR267 := CHr.trans hR228 hq267
              refine Goes.via (B := T266.setTop (mkF m 163 #[lv_ x1, s_, lv_ x2, s_, iv x3, iv x4, iv x5, iv (x5 &&& (3 : Int32)), lv_ y8, s_, iv (2 : Int32), iv ca0, iv ca1, iv (1 : Int32), iv cd0, iv cd1, rv bs227, u_, u_, u_, u_, u_, u_] [(.ref bs266)])) (fun t k => st266 _ k) ?_
              refine Goes.via (B := T266.setTop (mkF m 165 _ [])) (fun t k => XS.astore X266.here hx rfl (hb hby at_163) rfl rfl (l' := #[lv_ x1, s_, lv_ x2, s_, iv x3, iv x4, iv x5, iv (x5 &&& (3 : Int32)), lv_ y8, s_, iv (2 : Int32), iv ca0, iv ca1, iv (1 : Int32), iv cd0, iv cd1, rv bs227, rv bs266, u_, u_, u_, u_, u_]) rfl k) ?_
              obtain ⟨T268, h268, X268, e268, E268, A268, D268, U268, st268⟩ := newO X266 hx hZ266 hown266 (own_hw hw 12 rfl) (own_hw hw 13 rfl) (own_hw hw 14 rfl) rfl (g := (mkF m 165 #[lv_ x1, s_, lv_ x2, s_, iv x3, iv x4, iv x5, iv (x5 &&& (3 : Int32)), lv_ y8, s_, iv (2 : Int32), iv ca0, iv ca1, iv (1 : Int32), iv cd0, iv cd1, rv bs227, rv bs266, u_, u_, u_, u_, u_] [])) rfl (hb hby at_165) (by decide) (by decide)
              obtain ⟨b268, g268⟩ : ∃ z, z = T266.heap.size := ⟨_, rfl⟩
              rw [← g268] at A268 D268 U268 st268
              have gn268 : n0 ≤ b268 := Nat.le_trans (old_le ((O0.keep K227 all0).keep K266 all0)) (Nat.le_of_eq g268.symm)
              have hq269 := CHr.ext E268 hR267.1
              have hR269 := CHr.trans hR267 hq269
              have sf270 := Safe.ext E268 hR267.1 (Safe.new (Nat.le_of_eq g268.symm))
              have F268_round : Fld Z h268 b268 "com/example/keelson/keelson/cluster/Ballot" "round" "J" (.long (0 : Int64)) := D268 (Or.inr (own_hw hw 32 rfl)) (ty := .long) (by decide)
              have F268_proposer : Fld Z h268 b268 "com/example/keelson/keelson/cluster/Ballot" "proposer" "Ljava/lang/String;" .null := D268 (Or.inr (own_hw hw 34 rfl)) (ty := (.object "java/lang/String")) (by decide)
              refine Goes.via (B := T268.setTop (mkF m 168 #[lv_ x1, s_, lv_ x2, s_, iv x3, iv x4, iv x5, iv (x5 &&& (3 : Int32)), lv_ y8, s_, iv (2 : Int32), iv ca0, iv ca1, iv (1 : Int32), iv cd0, iv cd1, rv bs227, rv bs266, u_, u_, u_, u_, u_] [(.ref b268)])) (fun t k => st268 _ k) ?_
              refine Goes.via (B := T268.setTop (mkF m 169 _ [(.ref b268), (.ref b268)])) (fun t k => XS.dup X268.here hx rfl (hb hby at_168) rfl rfl k) ?_
              refine Goes.via (B := T268.setTop (mkF m 170 _ [(.long x1), (.ref b268), (.ref b268)])) (fun t k => XS.lloadN X268.here hx rfl (hb hby at_169) rfl k) ?_
              refine Goes.via (B := T268.setTop (mkF m 172 _ [(.ref bs227), (.long x1), (.ref b268), (.ref b268)])) (fun t k => XS.aload X268.here hx rfl (hb hby at_170) rfl rfl k) ?_
              obtain ⟨_, T271, L271, X271, hS271, hZ271, hown271, hC271, ⟨rfl, M271, K271, f271_0, f271_1, f271_2⟩, st271⟩ := callInitH X268 hx hZ266 hS266 (Nat.le_trans (Nat.le_refl _) E268.1) hEL hR269.1 (sf := []) all0 rfl hown266 (own_hw hw 15 rfl) (own_hw hw 16 rfl) (own_hw hw 14 rfl) (own_hw hw 17 rfl) (by decide) (argsL := [(.long x1), (.ref bs227)]) (rest := [(.ref b268)]) (own_m10 l Z a0 hw [] b268 x1 bs227 h268 n0 (((O0.keep K227 all0).keep K266 all0).ext E268) gn268 A268 F268_round F268_proposer) e268 (lenOf own_pd17 rfl) (pc := 172) (Ls := #[lv_ x1, s_, lv_ x2, s_, iv x3, iv x4, iv x5, iv (x5 &&& (3 : Int32)), lv_ y8, s_, iv (2 : Int32), iv ca0, iv ca1, iv (1 : Int32), iv cd0, iv cd1, rv bs227, rv bs266, u_, u_, u_, u_, u_]) (st := [(.ref bs227), (.long x1), (.ref b268), (.ref b268)]) rfl (by rw [hml]; rfl) (hb hby at_172) (W := 1) (Nat.le_of_eq rfl) (by decide) (by decide) (by decide) (by decide)
              have N271 := Fr.app N266 M271
              have hq272 := hC271
              have hR272 := CHr.trans hR269 hq272
              refine Goes.via (B := T271.setTop (mkF m 175 #[lv_ x1, s_, lv_ x2, s_, iv x3, iv x4, iv x5, iv (x5 &&& (3 : Int32)), lv_ y8, s_, iv (2 : Int32), iv ca0, iv ca1, iv (1 : Int32), iv cd0, iv cd1, rv bs227, rv bs266, u_, u_, u_, u_, u_] [(.ref b268)])) (fun t k => st271 _ k) ?_
              refine Goes.via (B := T271.setTop (mkF m 177 _ [])) (fun t k => XS.astore X271.here hx rfl (hb hby at_175) rfl rfl (l' := #[lv_ x1, s_, lv_ x2, s_, iv x3, iv x4, iv x5, iv (x5 &&& (3 : Int32)), lv_ y8, s_, iv (2 : Int32), iv ca0, iv ca1, iv (1 : Int32), iv cd0, iv cd1, rv bs227, rv bs266, rv b268, u_, u_, u_, u_]) rfl k) ?_
              obtain ⟨T273, h273, X273, e273, E273, A273, D273, U273, st273⟩ := newO X271 hx hZ271 hown271 (own_hw hw 12 rfl) (own_hw hw 13 rfl) (own_hw hw 14 rfl) rfl (g := (mkF m 177 #[lv_ x1, s_, lv_ x2, s_, iv x3, iv x4, iv x5, iv (x5 &&& (3 : Int32)), lv_ y8, s_, iv (2 : Int32), iv ca0, iv ca1, iv (1 : Int32), iv cd0, iv cd1, rv bs227, rv bs266, rv b268, u_, u_, u_, u_] [])) rfl (hb hby at_177) (by decide) (by decide)
              obtain ⟨b273, g273⟩ : ∃ z, z = T271.heap.size := ⟨_, rfl⟩
              rw [← g273] at A273 D273 U273 st273
              have gn273 : n0 ≤ b273 := Nat.le_trans (old_le ((((O0.keep K227 all0).keep K266 all0).ext E268).keep K271 (allS gn268 all0))) (Nat.le_of_eq g273.symm)
              have hq274 := CHr.ext E273 hR272.1
              have hR274 := CHr.trans hR272 hq274
              have sf275 := Safe.ext E273 hR272.1 (Safe.new (Nat.le_of_eq g273.symm))
              have F273_round : Fld Z h273 b273 "com/example/keelson/keelson/cluster/Ballot" "round" "J" (.long (0 : Int64)) := D273 (Or.inr (own_hw hw 32 rfl)) (ty := .long) (by decide)
              have F273_proposer : Fld Z h273 b273 "com/example/keelson/keelson/cluster/Ballot" "proposer" "Ljava/lang/String;" .null := D273 (Or.inr (own_hw hw 34 rfl)) (ty := (.object "java/lang/String")) (by decide)
              refine Goes.via (B := T273.setTop (mkF m 180 #[lv_ x1, s_, lv_ x2, s_, iv x3, iv x4, iv x5, iv (x5 &&& (3 : Int32)), lv_ y8, s_, iv (2 : Int32), iv ca0, iv ca1, iv (1 : Int32), iv cd0, iv cd1, rv bs227, rv bs266, rv b268, u_, u_, u_, u_] [(.ref b273)])) (fun t k => st273 _ k) ?_
              refine Goes.via (B := T273.setTop (mkF m 181 _ [(.ref b273), (.ref b273)])) (fun t k => XS.dup X273.here hx rfl (hb hby at_180) rfl rfl k) ?_
              refine Goes.via (B := T273.setTop (mkF m 183 _ [(.long y8), (.ref b273), (.ref b273)])) (fun t k => XS.lload X273.here hx rfl (hb hby at_181) rfl k) ?_
              refine Goes.via (B := T273.setTop (mkF m 185 _ [(.ref bs266), (.long y8), (.ref b273), (.ref b273)])) (fun t k => XS.aload X273.here hx rfl (hb hby at_183) rfl rfl k) ?_
              obtain ⟨_, T276, L276, X276, hS276, hZ276, hown276, hC276, ⟨rfl, M276, K276, f276_0, f276_1, f276_2⟩, st276⟩ := callInitH X273 hx hZ271 hS271 (Nat.le_trans (Nat.le_refl _) E273.1) hEL hR274.1 (sf := []) all0 rfl hown271 (own_hw hw 15 rfl) (own_hw hw 16 rfl) (own_hw hw 14 rfl) (own_hw hw 17 rfl) (by decide) (argsL := [(.long y8), (.ref bs266)]) (rest := [(.ref b273)]) (own_m10 l Z a0 hw [] b273 y8 bs266 h273 n0 (((((O0.keep K227 all0).keep K266 all0).ext E268).keep K271 (allS gn268 all0)).ext E273) gn273 A273 F273_round F273_proposer) e273 (lenOf own_pd17 rfl) (pc := 185) (Ls := #[lv_ x1, s_, lv_ x2, s_, iv x3, iv x4, iv x5, iv (x5 &&& (3 : Int32)), lv_ y8, s_, iv (2 : Int32), iv ca0, iv ca1, iv (1 : Int32), iv cd0, iv cd1, rv bs227, rv bs266, rv b268, u_, u_, u_, u_]) (st := [(.ref bs266), (.long y8), (.ref b273), (.ref b273)]) rfl (by rw [hml]; rfl) (hb hby at_185) (W := 1) (Nat.le_of_eq rfl) (by decide) (by decide) (by decide) (by decide)
              have N276 := Fr.app N271 M276
              have hq277 := hC276
              have hR277 := CHr.trans hR274 hq277
              refine Goes.via (B := T276.setTop (mkF m 188 #[lv_ x1, s_, lv_ x2, s_, iv x3, iv x4, iv x5, iv (x5 &&& (3 : Int32)), lv_ y8, s_, iv (2 : Int32), iv ca0, iv ca1, iv (1 : Int32), iv cd0, iv cd1, rv bs227, rv bs266, rv b268, u_, u_, u_, u_] [(.ref b273)])) (fun t k => st276 _ k) ?_
              refine Goes.via (B := T276.setTop (mkF m 190 _ [])) (fun t k => XS.astore X276.here hx rfl (hb hby at_188) rfl rfl (l' := #[lv_ x1, s_, lv_ x2, s_, iv x3, iv x4, iv x5, iv (x5 &&& (3 : Int32)), lv_ y8, s_, iv (2 : Int32), iv ca0, iv ca1, iv (1 : Int32), iv cd0, iv cd1, rv bs227, rv bs266, rv b268, rv b273, u_, u_, u_]) rfl k) ?_
              refine Goes.via (B := T276.setTop (mkF m 191 _ [(.long x1)])) (fun t k => XS.lloadN X276.here hx rfl (hb hby at_190) rfl k) ?_
              refine Goes.via (B := T276.setTop (mkF m 193 _ [(.long y8), (.long x1)])) (fun t k => XS.lload X276.here hx rfl (hb hby at_191) rfl k) ?_
              refine Goes.via (B := T276.setTop (mkF m 194 _ [(.int (XT.cmpL x1 y8))])) (fun t k => XT.lcmp X276.here hx rfl (hb hby at_193) rfl k) ?_
              have j278 : ∀ (T279 : State) (lc279 : List Loc) (X279 : Stand p l e room_1 (s.setVm T279.vm) m #[(.long x1), (.long x2), (.int x3), (.int x4), (.int x5)] below meth c T279 lc279 11 89) (e279 : T279.heap = T276.heap) (N279 : Fr n0 lc279) (hS279 : s.Since T279.vm T276.heap.size) (hZ279 : Z.Warmed39 T279.vm) (hown279 : T279.vm.findClass "com/example/keelson/keelson/cluster/BallotCompareToPinLaw" = some m.cls) (hR279 : CHr Z consts_1 s.vm s.heap T279.vm T276.heap) (exq : Int32) (hex : exq = own_exp x1 y8 (2 : Int32) ca0 ca1 (1 : Int32) cd0 cd1) , Goes p.tables e below (fun t o => ∃ v L, o = .returned v ∧ (own_Q64 Z x1 x2 x3 x4 x5 z0 h0 n0) v t.heap L ∧ EndH Z consts_1 s o t L (room_1).cells (room_1).slots) (T279.setTop (mkF m 233 #[lv_ x1, s_, lv_ x2, s_, iv x3, iv x4, iv x5, iv (x5 &&& (3 : Int32)), lv_ y8, s_, iv (2 : Int32), iv ca0, iv ca1, iv (1 : Int32), iv cd0, iv cd1, rv bs227, rv bs266, rv b268, rv b273, iv exq, u_, u_] [])) := by
                intro T279 lc279 X279 e279 N279 hS279 hZ279 hown279 hR279 exq hex
                refine Goes.via (B := T279.setTop (mkF m 235 _ [(.ref b268)])) (fun t k => XS.aload X279.here hx rfl (hb hby at_233) rfl rfl k) ?_
                refine Goes.via (B := T279.setTop (mkF m 237 _ [(.ref b273), (.ref b268)])) (fun t k => XS.aload X279.here hx rfl (hb hby at_235) rfl rfl k) ?_
                have c281 : Fld Z T276.heap b268 "com/example/keelson/keelson/cluster/Ballot" "round" "J" (.long x1) := ((f271_1.ext E273).keep K276 (ninS (Nat.ne_of_lt (Nat.lt_of_lt_of_le (Nat.le_trans A268.lt K271.1) (Nat.le_of_eq g273.symm))) nin0))
                have c282 : Fld Z T276.heap b268 "com/example/keelson/keelson/cluster/Ballot" "proposer" "Ljava/lang/String;" (.ref bs227) := ((f271_2.ext E273).keep K276 (ninS (Nat.ne_of_lt (Nat.lt_of_lt_of_le (Nat.le_trans A268.lt K271.1) (Nat.le_of_eq g273.symm))) nin0))
                have c283 : Exa Z T276.heap bs227 "java/lang/String" := (((((f227_0.keep K266).ext E268).keep K271).ext E273).keep K276)
                have c284 : Fld Z T276.heap bs227 "java/lang/String" "value" "[B" (.ref ts227) := (((((f227_1.keep K266 nin0).ext E268).keep K271 (ninS (Nat.ne_of_lt (Nat.lt_of_lt_of_le (Nat.le_trans f227_0.lt K266.1) (Nat.le_of_eq g268.symm))) nin0)).ext E273).keep K276 (ninS (Nat.ne_of_lt (Nat.lt_of_lt_of_le (Nat.le_trans (Nat.le_trans (Nat.le_trans f227_0.lt K266.1) E268.1) K271.1) (Nat.le_of_eq g273.symm))) nin0))
                have c285 : Fld Z T276.heap bs227 "java/lang/String" "coder" "B" (.int (0 : Int32)) := (((((f227_2.keep K266 nin0).ext E268).keep K271 (ninS (Nat.ne_of_lt (Nat.lt_of_lt_of_le (Nat.le_trans f227_0.lt K266.1) (Nat.le_of_eq g268.symm))) nin0)).ext E273).keep K276 (ninS (Nat.ne_of_lt (Nat.lt_of_lt_of_le (Nat.le_trans (Nat.le_trans (Nat.le_trans f227_0.lt K266.1) E268.1) K271.1) (Nat.le_of_eq g273.symm))) nin0))
                have c286 : Fld Z T276.heap bs266 "java/lang/String" "value" "[B" (.ref ts266) := ((((f266_1.ext E268).keep K271 (ninS (Nat.ne_of_lt (Nat.lt_of_lt_of_le f266_0.lt (Nat.le_of_eq g268.symm))) nin0)).ext E273).keep K276 (ninS (Nat.ne_of_lt (Nat.lt_of_lt_of_le (Nat.le_trans (Nat.le_trans f266_0.lt E268.1) K271.1) (Nat.le_of_eq g273.symm))) nin0))
                have c287 : Fld Z T276.heap bs266 "java/lang/String" "coder" "B" (.int (0 : Int32)) := ((((f266_2.ext E268).keep K271 (ninS (Nat.ne_of_lt (Nat.lt_of_lt_of_le f266_0.lt (Nat.le_of_eq g268.symm))) nin0)).ext E273).keep K276 (ninS (Nat.ne_of_lt (Nat.lt_of_lt_of_le (Nat.le_trans (Nat.le_trans f266_0.lt E268.1) K271.1) (Nat.le_of_eq g273.symm))) nin0))
                have c288 : Arv Z T276.heap ts227 ks227 .byte (2 : Int32) [(.int ca0.toInt8.toInt32), (.int ca1.toInt8.toInt32)] (.int (0 : Int32)) := (((((f227_3.keep K266 nin0).ext E268).keep K271 (ninS (Nat.ne_of_lt (Nat.lt_of_lt_of_le (Nat.le_trans f227_3.lt K266.1) (Nat.le_of_eq g268.symm))) nin0)).ext E273).keep K276 (ninS (Nat.ne_of_lt (Nat.lt_of_lt_of_le (Nat.le_trans (Nat.le_trans (Nat.le_trans f227_3.lt K266.1) E268.1) K271.1) (Nat.le_of_eq g273.symm))) nin0))
                have c289 : Arv Z T276.heap ts266 ks266 .byte (1 : Int32) [(.int cd0.toInt8.toInt32)] (.int (0 : Int32)) := ((((f266_3.ext E268).keep K271 (ninS (Nat.ne_of_lt (Nat.lt_of_lt_of_le f266_3.lt (Nat.le_of_eq g268.symm))) nin0)).ext E273).keep K276 (ninS (Nat.ne_of_lt (Nat.lt_of_lt_of_le (Nat.le_trans (Nat.le_trans f266_3.lt E268.1) K271.1) (Nat.le_of_eq g273.symm))) nin0))
                obtain ⟨_, T280, L280, X280, ⟨r280, rfl, M280, K280, p280_0⟩, st280⟩ := callVirt X279 hx hZ279 hown279 (own_hw hw 35 rfl) (own_hw hw 36 rfl) (own_hw hw 38 rfl) (notFace_of_selects (args := #[]) (mvT hZ279 (own_hw hw 38 rfl))) (own_hw hw 37 rfl) (own_hw hw 14 rfl) (own_hw hw 39 rfl) (by decide) (argsL := [(.ref b273)]) (rest := []) (own_m58 l Z a0 hw [] b268 b273 x1 y8 bs227 bs266 z0 ts227 ks227 ts266 ks266 ca0 ca1 cd0 cd1 T276.heap n0 ((((((O0.keep K227 all0).keep K266 all0).ext E268).keep K271 (allS gn268 all0)).ext E273).keep K276 (allS gn273 all0)) hz0 hca0 hca1 hcd0 hcd1 O_1 ((f271_0.ext E273).keep K276) c281 c282 f276_0 f276_1 f276_2 c283 c284 c285 ((((f266_0.ext E268).keep K271).ext E273).keep K276) c286 c287 c288 c289) e279 ((f271_0.ext E273).keep K276) (lenOf own_pd18 rfl) (pc := 237) (Ls := #[lv_ x1, s_, lv_ x2, s_, iv x3, iv x4, iv x5, iv (x5 &&& (3 : Int32)), lv_ y8, s_, iv (2 : Int32), iv ca0, iv ca1, iv (1 : Int32), iv cd0, iv cd1, rv bs227, rv bs266, rv b268, rv b273, iv exq, u_, u_]) (st := [(.ref b273), (.ref b268)]) rfl (by rw [hml]; rfl) (hb hby at_237) (W := 0) (Nat.le_of_eq rfl) (by decide) (by decide) (by decide) (by decide)
                have N280 := Fr.app N279 M280
                refine Goes.via (B := T280.setTop (mkF m 240 #[lv_ x1, s_, lv_ x2, s_, iv x3, iv x4, iv x5, iv (x5 &&& (3 : Int32)), lv_ y8, s_, iv (2 : Int32), iv ca0, iv ca1, iv (1 : Int32), iv cd0, iv cd1, rv bs227, rv bs266, rv b268, rv b273, iv exq, u_, u_] [(.int r280)])) (fun t k => st280 _ k) ?_
                refine Goes.via (B := T280.setTop (mkF m 241 _ [(.long (r280.toInt64))])) (fun t k => XS.i2l X280.here hx rfl (hb hby at_240) rfl k) ?_
                obtain ⟨_, T290, L290, X290, ⟨r290, rfl, M290, K290, p290_0⟩, st290⟩ := callStatic X280 hx hZ279 hown279 (own_hw hw 44 rfl) (own_hw hw 45 rfl) (own_hw hw 2 rfl) (own_hw hw 46 rfl) (by decide) (argsL := [(.long (r280.toInt64))]) (rest := []) (own_m12 l Z a0 hw [] r280.toInt64 T276.heap n0 ((((((O0.keep K227 all0).keep K266 all0).ext E268).keep K271 (allS gn268 all0)).ext E273).keep K276 (allS gn273 all0)) ) K280 (lenOf own_pd7 rfl) (pc := 241) (Ls := #[lv_ x1, s_, lv_ x2, s_, iv x3, iv x4, iv x5, iv (x5 &&& (3 : Int32)), lv_ y8, s_, iv (2 : Int32), iv ca0, iv ca1, iv (1 : Int32), iv cd0, iv cd1, rv bs227, rv bs266, rv b268, rv b273, iv exq, u_, u_]) (st := [(.long (r280.toInt64))]) rfl (by rw [hml]; rfl) (hb hby at_241) (W := 0) (Nat.le_of_eq rfl) (by decide) (by decide) (by decide) (by decide)
                have N290 := Fr.app N280 M290
                refine Goes.via (B := T290.setTop (mkF m 244 #[lv_ x1, s_, lv_ x2, s_, iv x3, iv x4, iv x5, iv (x5 &&& (3 : Int32)), lv_ y8, s_, iv (2 : Int32), iv ca0, iv ca1, iv (1 : Int32), iv cd0, iv cd1, rv bs227, rv bs266, rv b268, rv b273, iv exq, u_, u_] [(.int r290)])) (fun t k => st290 _ k) ?_
                refine Goes.via (B := T290.setTop (mkF m 246 _ [])) (fun t k => XS.istore X290.here hx rfl (hb hby at_244) rfl (l' := #[lv_ x1, s_, lv_ x2, s_, iv x3, iv x4, iv x5, iv (x5 &&& (3 : Int32)), lv_ y8, s_, iv (2 : Int32), iv ca0, iv ca1, iv (1 : Int32), iv cd0, iv cd1, rv bs227, rv bs266, rv b268, rv b273, iv exq, iv r290, u_]) rfl k) ?_
                refine Goes.via (B := T290.setTop (mkF m 248 _ [(.ref b273)])) (fun t k => XS.aload X290.here hx rfl (hb hby at_246) rfl rfl k) ?_
                refine Goes.via (B := T290.setTop (mkF m 250 _ [(.ref b268), (.ref b273)])) (fun t k => XS.aload X290.here hx rfl (hb hby at_248) rfl rfl k) ?_
                obtain ⟨_, T291, L291, X291, ⟨r291, rfl, M291, K291, p291_0⟩, st291⟩ := callVirt X290 hx hZ279 hown279 (own_hw hw 35 rfl) (own_hw hw 36 rfl) (own_hw hw 38 rfl) (notFace_of_selects (args := #[]) (mvT hZ279 (own_hw hw 38 rfl))) (own_hw hw 37 rfl) (own_hw hw 14 rfl) (own_hw hw 39 rfl) (by decide) (argsL := [(.ref b268)]) (rest := []) (own_m48 l Z a0 hw [] b273 b268 y8 x1 bs266 bs227 z0 ts266 ks266 ts227 ks227 cd0 cd1 ca0 ca1 T276.heap n0 ((((((O0.keep K227 all0).keep K266 all0).ext E268).keep K271 (allS gn268 all0)).ext E273).keep K276 (allS gn273 all0)) hz0 hcd0 hcd1 hca0 hca1 O_1 f276_0 f276_1 f276_2 ((f271_0.ext E273).keep K276) c281 c282 ((((f266_0.ext E268).keep K271).ext E273).keep K276) c286 c287 c283 c284 c285 c289 c288) K290 f276_0 (lenOf own_pd18 rfl) (pc := 250) (Ls := #[lv_ x1, s_, lv_ x2, s_, iv x3, iv x4, iv x5, iv (x5 &&& (3 : Int32)), lv_ y8, s_, iv (2 : Int32), iv ca0, iv ca1, iv (1 : Int32), iv cd0, iv cd1, rv bs227, rv bs266, rv b268, rv b273, iv exq, iv r290, u_]) (st := [(.ref b268), (.ref b273)]) rfl (by rw [hml]; rfl) (hb hby at_250) (W := 0) (Nat.le_of_eq rfl) (by decide) (by decide) (by decide) (by decide)
                have N291 := Fr.app N290 M291
                refine Goes.via (B := T291.setTop (mkF m 253 #[lv_ x1, s_, lv_ x2, s_, iv x3, iv x4, iv x5, iv (x5 &&& (3 : Int32)), lv_ y8, s_, iv (2 : Int32), iv ca0, iv ca1, iv (1 : Int32), iv cd0, iv cd1, rv bs227, rv bs266, rv b268, rv b273, iv exq, iv r290, u_] [(.int r291)])) (fun t k => st291 _ k) ?_
                refine Goes.via (B := T291.setTop (mkF m 254 _ [(.long (r291.toInt64))])) (fun t k => XS.i2l X291.here hx rfl (hb hby at_253) rfl k) ?_
                obtain ⟨_, T292, L292, X292, ⟨r292, rfl, M292, K292, p292_0⟩, st292⟩ := callStatic X291 hx hZ279 hown279 (own_hw hw 44 rfl) (own_hw hw 45 rfl) (own_hw hw 2 rfl) (own_hw hw 46 rfl) (by decide) (argsL := [(.long (r291.toInt64))]) (rest := []) (own_m12 l Z a0 hw [] r291.toInt64 T276.heap n0 ((((((O0.keep K227 all0).keep K266 all0).ext E268).keep K271 (allS gn268 all0)).ext E273).keep K276 (allS gn273 all0)) ) K291 (lenOf own_pd7 rfl) (pc := 254) (Ls := #[lv_ x1, s_, lv_ x2, s_, iv x3, iv x4, iv x5, iv (x5 &&& (3 : Int32)), lv_ y8, s_, iv (2 : Int32), iv ca0, iv ca1, iv (1 : Int32), iv cd0, iv cd1, rv bs227, rv bs266, rv b268, rv b273, iv exq, iv r290, u_]) (st := [(.long (r291.toInt64))]) rfl (by rw [hml]; rfl) (hb hby at_254) (W := 0) (Nat.le_of_eq rfl) (by decide) (by decide) (by decide) (by decide)
                have N292 := Fr.app N291 M292
                refine Goes.via (B := T292.setTop (mkF m 257 #[lv_ x1, s_, lv_ x2, s_, iv x3, iv x4, iv x5, iv (x5 &&& (3 : Int32)), lv_ y8, s_, iv (2 : Int32), iv ca0, iv ca1, iv (1 : Int32), iv cd0, iv cd1, rv bs227, rv bs266, rv b268, rv b273, iv exq, iv r290, u_] [(.int r292)])) (fun t k => st292 _ k) ?_
                refine Goes.via (B := T292.setTop (mkF m 259 _ [])) (fun t k => XS.istore X292.here hx rfl (hb hby at_257) rfl (l' := #[lv_ x1, s_, lv_ x2, s_, iv x3, iv x4, iv x5, iv (x5 &&& (3 : Int32)), lv_ y8, s_, iv (2 : Int32), iv ca0, iv ca1, iv (1 : Int32), iv cd0, iv cd1, rv bs227, rv bs266, rv b268, rv b273, iv exq, iv r290, iv r292]) rfl k) ?_
                refine Goes.via (B := T292.setTop (mkF m 261 _ [(.int r290)])) (fun t k => XS.iload X292.here hx rfl (hb hby at_259) rfl k) ?_
                refine Goes.via (B := T292.setTop (mkF m 263 _ [(.int exq), (.int r290)])) (fun t k => XS.iload X292.here hx rfl (hb hby at_261) rfl k) ?_
                refine Goes.via (B := T292.setTop (mkF m 266 _ [])) (fun t k => XS.icmpNo X292.here hx rfl (hb hby at_263) rfl (XT.ii_ne_f (p290_0.trans ((own_sgl _).trans (p280_0.trans hex.symm)))) k) ?_
                refine Goes.via (B := T292.setTop (mkF m 268 _ [(.int r292)])) (fun t k => XS.iload X292.here hx rfl (hb hby at_266) rfl k) ?_
                refine Goes.via (B := T292.setTop (mkF m 270 _ [(.int exq), (.int r292)])) (fun t k => XS.iload X292.here hx rfl (hb hby at_268) rfl k) ?_
                refine Goes.via (B := T292.setTop (mkF m 271 _ [(.int (-exq)), (.int r292)])) (fun t k => XS.ineg X292.here hx rfl (hb hby at_270) rfl k) ?_
                refine Goes.via (B := T292.setTop (mkF m 274 _ [])) (fun t k => XS.icmpNo X292.here hx rfl (hb hby at_271) rfl (XT.ii_ne_f (by rw [p292_0, own_sgl, p291_0, hex]; exact own_antiE _ _ _ _ _ _ _ _ (by decide) (by decide))) k) ?_
                refine Goes.via (B := T292.setTop (mkF m 275 _ [(.int (1 : Int32))])) (fun t k => XS.iconst X292.here hx rfl (hb hby at_274) k) ?_
                refine Goes.via (B := T292.setTop (mkF m 279 _ [(.int (1 : Int32))])) (fun t k => XS.goto X292.here hx rfl (pc0 := 275) (pc' := 279) rfl (hb hby at_275) (by decide) (by decide) k) ?_
                exact finN (Q := (own_Q64 Z x1 x2 x3 x4 x5 z0 h0 n0)) (F := EndH Z consts_1) (C := (room_1).cells) (S := (room_1).slots) X292 hx (t := .boolean) Bd.returns (by simp) (z' := (1 : Int32)) rfl (hb hby at_279) K292 ⟨rfl, N292, trivial⟩ (lvH X292 hlk hS279 K292 (Nat.le_refl _) hZ279 hEL hR279 (by decide) (by decide))
              by_cases b293 : x1 < y8
              · refine Goes.via (B := T276.setTop (mkF m 197 _ [])) (fun t k => XS.ifNo X276.here hx rfl (hb hby at_194) rfl (XT.ll_ge_f b293) k) ?_
                refine Goes.via (B := T276.setTop (mkF m 198 _ [(.int (-1 : Int32))])) (fun t k => XS.iconst X276.here hx rfl (hb hby at_197) k) ?_
                refine Goes.via (B := T276.setTop (mkF m 200 _ [])) (fun t k => XS.istore X276.here hx rfl (hb hby at_198) rfl (l' := #[lv_ x1, s_, lv_ x2, s_, iv x3, iv x4, iv x5, iv (x5 &&& (3 : Int32)), lv_ y8, s_, iv (2 : Int32), iv ca0, iv ca1, iv (1 : Int32), iv cd0, iv cd1, rv bs227, rv bs266, rv b268, rv b273, iv (-1 : Int32), u_, u_]) rfl k) ?_
                refine Goes.via (B := T276.setTop (mkF m 233 _ [])) (fun t k => XS.goto X276.here hx rfl (pc0 := 200) (pc' := 233) rfl (hb hby at_200) (by decide) (by decide) k) ?_
                obtain ⟨Xr294, hSr294, hZr294, hor294⟩ := rebase X276 hS276 rfl (Nat.le_refl _) hZ276 hown276
                exact j278 T276 _ Xr294 rfl N276 hSr294 hZr294 hor294 (CHr.trans hR277 (CHv.at X276 hZ276 hEL hR277.1)) (-1 : Int32) (by unfold own_exp; rw [if_pos b293])
              · refine Goes.via (B := T276.setTop (mkF m 203 _ [])) (fun t k => XS.ifYes X276.here hx rfl (pc0 := 194) (pc' := 203) rfl (hb hby at_194) rfl (XT.ll_ge_t b293) (by decide) (by decide) k) ?_
                refine Goes.via (B := T276.setTop (mkF m 204 _ [(.long x1)])) (fun t k => XS.lloadN X276.here hx rfl (hb hby at_203) rfl k) ?_
                refine Goes.via (B := T276.setTop (mkF m 206 _ [(.long y8), (.long x1)])) (fun t k => XS.lload X276.here hx rfl (hb hby at_204) rfl k) ?_
                refine Goes.via (B := T276.setTop (mkF m 207 _ [(.int (XT.cmpL x1 y8))])) (fun t k => XT.lcmp X276.here hx rfl (hb hby at_206) rfl k) ?_
                by_cases b295 : y8 < x1
                · refine Goes.via (B := T276.setTop (mkF m 210 _ [])) (fun t k => XS.ifNo X276.here hx rfl (hb hby at_207) rfl (XT.ll_le_f b295) k) ?_
                  refine Goes.via (B := T276.setTop (mkF m 211 _ [(.int (1 : Int32))])) (fun t k => XS.iconst X276.here hx rfl (hb hby at_210) k) ?_
                  refine Goes.via (B := T276.setTop (mkF m 213 _ [])) (fun t k => XS.istore X276.here hx rfl (hb hby at_211) rfl (l' := #[lv_ x1, s_, lv_ x2, s_, iv x3, iv x4, iv x5, iv (x5 &&& (3 : Int32)), lv_ y8, s_, iv (2 : Int32), iv ca0, iv ca1, iv (1 : Int32), iv cd0, iv cd1, rv bs227, rv bs266, rv b268, rv b273, iv (1 : Int32), u_, u_]) rfl k) ?_
                  refine Goes.via (B := T276.setTop (mkF m 233 _ [])) (fun t k => XS.goto X276.here hx rfl (pc0 := 213) (pc' := 233) rfl (hb hby at_213) (by decide) (by decide) k) ?_
                  obtain ⟨Xr296, hSr296, hZr296, hor296⟩ := rebase X276 hS276 rfl (Nat.le_refl _) hZ276 hown276
                  exact j278 T276 _ Xr296 rfl N276 hSr296 hZr296 hor296 (CHr.trans hR277 (CHv.at X276 hZ276 hEL hR277.1)) (1 : Int32) (by unfold own_exp; rw [if_neg b293, if_pos b295])
                · refine Goes.via (B := T276.setTop (mkF m 216 _ [])) (fun t k => XS.ifYes X276.here hx rfl (pc0 := 207) (pc' := 216) rfl (hb hby at_207) rfl (XT.ll_le_t b295) (by decide) (by decide) k) ?_
                  refine Goes.via (B := T276.setTop (mkF m 218 _ [(.int (2 : Int32))])) (fun t k => XS.iload X276.here hx rfl (hb hby at_216) rfl k) ?_
                  refine Goes.via (B := T276.setTop (mkF m 220 _ [(.int ca0), (.int (2 : Int32))])) (fun t k => XS.iload X276.here hx rfl (hb hby at_218) rfl k) ?_
                  refine Goes.via (B := T276.setTop (mkF m 222 _ [(.int ca1), (.int ca0), (.int (2 : Int32))])) (fun t k => XS.iload X276.here hx rfl (hb hby at_220) rfl k) ?_
                  refine Goes.via (B := T276.setTop (mkF m 224 _ [(.int (1 : Int32)), (.int ca1), (.int ca0), (.int (2 : Int32))])) (fun t k => XS.iload X276.here hx rfl (hb hby at_222) rfl k) ?_
                  refine Goes.via (B := T276.setTop (mkF m 226 _ [(.int cd0), (.int (1 : Int32)), (.int ca1), (.int ca0), (.int (2 : Int32))])) (fun t k => XS.iload X276.here hx rfl (hb hby at_224) rfl k) ?_
                  refine Goes.via (B := T276.setTop (mkF m 228 _ [(.int cd1), (.int cd0), (.int (1 : Int32)), (.int ca1), (.int ca0), (.int (2 : Int32))])) (fun t k => XS.iload X276.here hx rfl (hb hby at_226) rfl k) ?_
                  obtain ⟨_, T297, L297, X297, ⟨r297, rfl, M297, K297, p297_0⟩, st297⟩ := callStatic X276 hx hZ276 hown276 (own_hw hw 47 rfl) (own_hw hw 48 rfl) (own_hw hw 2 rfl) (own_hw hw 49 rfl) (by decide) (argsL := [(.int (2 : Int32)), (.int ca0), (.int ca1), (.int (1 : Int32)), (.int cd0), (.int cd1)]) (rest := []) (own_m13 l Z a0 hw [] (2 : Int32) ca0 ca1 (1 : Int32) cd0 cd1 T276.heap n0 ((((((O0.keep K227 all0).keep K266 all0).ext E268).keep K271 (allS gn268 all0)).ext E273).keep K276 (allS gn273 all0)) ) rfl (lenOf own_pd19 rfl) (pc := 228) (Ls := #[lv_ x1, s_, lv_ x2, s_, iv x3, iv x4, iv x5, iv (x5 &&& (3 : Int32)), lv_ y8, s_, iv (2 : Int32), iv ca0, iv ca1, iv (1 : Int32), iv cd0, iv cd1, rv bs227, rv bs266, rv b268, rv b273, u_, u_, u_]) (st := [(.int cd1), (.int cd0), (.int (1 : Int32)), (.int ca1), (.int ca0), (.int (2 : Int32))]) rfl (by rw [hml]; rfl) (hb hby at_228) (W := 0) (Nat.le_of_eq rfl) (by decide) (by decide) (by decide) (by decide)
                  have N297 := Fr.app N276 M297
                  refine Goes.via (B := T297.setTop (mkF m 231 #[lv_ x1, s_, lv_ x2, s_, iv x3, iv x4, iv x5, iv (x5 &&& (3 : Int32)), lv_ y8, s_, iv (2 : Int32), iv ca0, iv ca1, iv (1 : Int32), iv cd0, iv cd1, rv bs227, rv bs266, rv b268, rv b273, u_, u_, u_] [(.int r297)])) (fun t k => st297 _ k) ?_
                  refine Goes.via (B := T297.setTop (mkF m 233 _ [])) (fun t k => XS.istore X297.here hx rfl (hb hby at_231) rfl (l' := #[lv_ x1, s_, lv_ x2, s_, iv x3, iv x4, iv x5, iv (x5 &&& (3 : Int32)), lv_ y8, s_, iv (2 : Int32), iv ca0, iv ca1, iv (1 : Int32), iv cd0, iv cd1, rv bs227, rv bs266, rv b268, rv b273, iv r297, u_, u_]) rfl k) ?_
                  obtain ⟨Xr298, hSr298, hZr298, hor298⟩ := rebase X297 hS276 K297 (Nat.le_refl _) hZ276 hown276
                  exact j278 T297 _ Xr298 K297 N297 hSr298 hZr298 hor298 (CHr.trans hR277 (CHv.at X297 hZ276 hEL hR277.1)) r297 (by unfold own_exp; rw [if_neg b293, if_neg b295]; exact p297_0)
            · refine Goes.via (B := T227.setTop (mkF m 154 _ [(.int (2 : Int32))])) (fun t k => XS.iload X227.here hx rfl (hb hby at_152) rfl k) ?_
              refine Goes.via (B := T227.setTop (mkF m 156 _ [(.int cd0), (.int (2 : Int32))])) (fun t k => XS.iload X227.here hx rfl (hb hby at_154) rfl k) ?_
              refine Goes.via (B := T227.setTop (mkF m 157 _ [(.int (cd0.toUInt32.toUInt16.toUInt32.toInt32)), (.int (2 : Int32))])) (fun t k => XS.i2c X227.here hx rfl (hb hby at_156) rfl k) ?_
              refine Goes.via (B := T227.setTop (mkF m 159 _ [(.int cd1), (.int (cd0.toUInt32.toUInt16.toUInt32.toInt32)), (.int (2 : Int32))])) (fun t k => XS.iload X227.here hx rfl (hb hby at_157) rfl k) ?_
              refine Goes.via (B := T227.setTop (mkF m 160 _ [(.int (cd1.toUInt32.toUInt16.toUInt32.toInt32)), (.int (cd0.toUInt32.toUInt16.toUInt32.toInt32)), (.int (2 : Int32))])) (fun t k => XS.i2c X227.here hx rfl (hb hby at_159) rfl k) ?_
              have q299 : (cd0.toUInt32.toUInt16.toUInt32.toInt32) = cd0 := own_i2c hcd0
              rw [q299]
              have q300 : (cd1.toUInt32.toUInt16.toUInt32.toInt32) = cd1 := own_i2c hcd1
              rw [q300]
              obtain ⟨_, T301, L301, X301, hS301, hZ301, hown301, hC301, ⟨bs301, ts301, ks301, rfl, M301, K301, f301_0, f301_1, f301_2, f301_3⟩, st301⟩ := callStaticH X227 hx hZ227 hS227 (Nat.le_refl _) hEL hR228.1 (sf := []) all0 hown227 (own_hw hw 0 rfl) (own_hw hw 1 rfl) (own_hw hw 2 rfl) (own_hw hw 3 rfl) (by decide) (argsL := [(.int (2 : Int32)), (.int cd0), (.int cd1)]) (rest := []) (own_m7 l Z a0 hw [] cd0 cd1 z0 T227.heap n0 (O0.keep K227 all0) hz0 hcd0 hcd1 O_1) rfl (lenOf own_pd16 rfl) (pc := 160) (Ls := #[lv_ x1, s_, lv_ x2, s_, iv x3, iv x4, iv x5, iv (x5 &&& (3 : Int32)), lv_ y8, s_, iv (2 : Int32), iv ca0, iv ca1, iv (2 : Int32), iv cd0, iv cd1, rv bs227, u_, u_, u_, u_, u_, u_]) (st := [(.int cd1), (.int cd0), (.int (2 : Int32))]) rfl (by rw [hml]; rfl) (hb hby at_160) (W := 0) (Nat.le_of_eq rfl) (by decide) (by decide) (by decide) (by decide)
              have N301 := Fr.app N227 M301
              have hq302 := hC301
              have hR302 := CHr.trans hR228 hq302
              refine Goes.via (B := T301.setTop (mkF m 163 #[lv_ x1, s_, lv_ x2, s_, iv x3, iv x4, iv x5, iv (x5 &&& (3 : Int32)), lv_ y8, s_, iv (2 : Int32), iv ca0, iv ca1, iv (2 : Int32), iv cd0, iv cd1, rv bs227, u_, u_, u_, u_, u_, u_] [(.ref bs301)])) (fun t k => st301 _ k) ?_
              refine Goes.via (B := T301.setTop (mkF m 165 _ [])) (fun t k => XS.astore X301.here hx rfl (hb hby at_163) rfl rfl (l' := #[lv_ x1, s_, lv_ x2, s_, iv x3, iv x4, iv x5, iv (x5 &&& (3 : Int32)), lv_ y8, s_, iv (2 : Int32), iv ca0, iv ca1, iv (2 : Int32), iv cd0, iv cd1, rv bs227, rv bs301, u_, u_, u_, u_, u_]) rfl k) ?_
              obtain ⟨T303, h303, X303, e303, E303, A303, D303, U303, st303⟩ := newO X301 hx hZ301 hown301 (own_hw hw 12 rfl) (own_hw hw 13 rfl) (own_hw hw 14 rfl) rfl (g := (mkF m 165 #[lv_ x1, s_, lv_ x2, s_, iv x3, iv x4, iv x5, iv (x5 &&& (3 : Int32)), lv_ y8, s_, iv (2 : Int32), iv ca0, iv ca1, iv (2 : Int32), iv cd0, iv cd1, rv bs227, rv bs301, u_, u_, u_, u_, u_] [])) rfl (hb hby at_165) (by decide) (by decide)
              obtain ⟨b303, g303⟩ : ∃ z, z = T301.heap.size := ⟨_, rfl⟩
              rw [← g303] at A303 D303 U303 st303
              have gn303 : n0 ≤ b303 := Nat.le_trans (old_le ((O0.keep K227 all0).keep K301 all0)) (Nat.le_of_eq g303.symm)
              have hq304 := CHr.ext E303 hR302.1
              have hR304 := CHr.trans hR302 hq304
              have sf305 := Safe.ext E303 hR302.1 (Safe.new (Nat.le_of_eq g303.symm))
              have F303_round : Fld Z h303 b303 "com/example/keelson/keelson/cluster/Ballot" "round" "J" (.long (0 : Int64)) := D303 (Or.inr (own_hw hw 32 rfl)) (ty := .long) (by decide)
              have F303_proposer : Fld Z h303 b303 "com/example/keelson/keelson/cluster/Ballot" "proposer" "Ljava/lang/String;" .null := D303 (Or.inr (own_hw hw 34 rfl)) (ty := (.object "java/lang/String")) (by decide)
              refine Goes.via (B := T303.setTop (mkF m 168 #[lv_ x1, s_, lv_ x2, s_, iv x3, iv x4, iv x5, iv (x5 &&& (3 : Int32)), lv_ y8, s_, iv (2 : Int32), iv ca0, iv ca1, iv (2 : Int32), iv cd0, iv cd1, rv bs227, rv bs301, u_, u_, u_, u_, u_] [(.ref b303)])) (fun t k => st303 _ k) ?_
              refine Goes.via (B := T303.setTop (mkF m 169 _ [(.ref b303), (.ref b303)])) (fun t k => XS.dup X303.here hx rfl (hb hby at_168) rfl rfl k) ?_
              refine Goes.via (B := T303.setTop (mkF m 170 _ [(.long x1), (.ref b303), (.ref b303)])) (fun t k => XS.lloadN X303.here hx rfl (hb hby at_169) rfl k) ?_
              refine Goes.via (B := T303.setTop (mkF m 172 _ [(.ref bs227), (.long x1), (.ref b303), (.ref b303)])) (fun t k => XS.aload X303.here hx rfl (hb hby at_170) rfl rfl k) ?_
              obtain ⟨_, T306, L306, X306, hS306, hZ306, hown306, hC306, ⟨rfl, M306, K306, f306_0, f306_1, f306_2⟩, st306⟩ := callInitH X303 hx hZ301 hS301 (Nat.le_trans (Nat.le_refl _) E303.1) hEL hR304.1 (sf := []) all0 rfl hown301 (own_hw hw 15 rfl) (own_hw hw 16 rfl) (own_hw hw 14 rfl) (own_hw hw 17 rfl) (by decide) (argsL := [(.long x1), (.ref bs227)]) (rest := [(.ref b303)]) (own_m10 l Z a0 hw [] b303 x1 bs227 h303 n0 (((O0.keep K227 all0).keep K301 all0).ext E303) gn303 A303 F303_round F303_proposer) e303 (lenOf own_pd17 rfl) (pc := 172) (Ls := #[lv_ x1, s_, lv_ x2, s_, iv x3, iv x4, iv x5, iv (x5 &&& (3 : Int32)), lv_ y8, s_, iv (2 : Int32), iv ca0, iv ca1, iv (2 : Int32), iv cd0, iv cd1, rv bs227, rv bs301, u_, u_, u_, u_, u_]) (st := [(.ref bs227), (.long x1), (.ref b303), (.ref b303)]) rfl (by rw [hml]; rfl) (hb hby at_172) (W := 1) (Nat.le_of_eq rfl) (by decide) (by decide) (by decide) (by decide)
              have N306 := Fr.app N301 M306
              have hq307 := hC306
              have hR307 := CHr.trans hR304 hq307
              refine Goes.via (B := T306.setTop (mkF m 175 #[lv_ x1, s_, lv_ x2, s_, iv x3, iv x4, iv x5, iv (x5 &&& (3 : Int32)), lv_ y8, s_, iv (2 : Int32), iv ca0, iv ca1, iv (2 : Int32), iv cd0, iv cd1, rv bs227, rv bs301, u_, u_, u_, u_, u_] [(.ref b303)])) (fun t k => st306 _ k) ?_
              refine Goes.via (B := T306.setTop (mkF m 177 _ [])) (fun t k => XS.astore X306.here hx rfl (hb hby at_175) rfl rfl (l' := #[lv_ x1, s_, lv_ x2, s_, iv x3, iv x4, iv x5, iv (x5 &&& (3 : Int32)), lv_ y8, s_, iv (2 : Int32), iv ca0, iv ca1, iv (2 : Int32), iv cd0, iv cd1, rv bs227, rv bs301, rv b303, u_, u_, u_, u_]) rfl k) ?_
              obtain ⟨T308, h308, X308, e308, E308, A308, D308, U308, st308⟩ := newO X306 hx hZ306 hown306 (own_hw hw 12 rfl) (own_hw hw 13 rfl) (own_hw hw 14 rfl) rfl (g := (mkF m 177 #[lv_ x1, s_, lv_ x2, s_, iv x3, iv x4, iv x5, iv (x5 &&& (3 : Int32)), lv_ y8, s_, iv (2 : Int32), iv ca0, iv ca1, iv (2 : Int32), iv cd0, iv cd1, rv bs227, rv bs301, rv b303, u_, u_, u_, u_] [])) rfl (hb hby at_177) (by decide) (by decide)
              obtain ⟨b308, g308⟩ : ∃ z, z = T306.heap.size := ⟨_, rfl⟩
              rw [← g308] at A308 D308 U308 st308
              have gn308 : n0 ≤ b308 := Nat.le_trans (old_le ((((O0.keep K227 all0).keep K301 all0).ext E303).keep K306 (allS gn303 all0))) (Nat.le_of_eq g308.symm)
              have hq309 := CHr.ext E308 hR307.1
              have hR309 := CHr.trans hR307 hq309
              have sf310 := Safe.ext E308 hR307.1 (Safe.new (Nat.le_of_eq g308.symm))
              have F308_round : Fld Z h308 b308 "com/example/keelson/keelson/cluster/Ballot" "round" "J" (.long (0 : Int64)) := D308 (Or.inr (own_hw hw 32 rfl)) (ty := .long) (by decide)
              have F308_proposer : Fld Z h308 b308 "com/example/keelson/keelson/cluster/Ballot" "proposer" "Ljava/lang/String;" .null := D308 (Or.inr (own_hw hw 34 rfl)) (ty := (.object "java/lang/String")) (by decide)
              refine Goes.via (B := T308.setTop (mkF m 180 #[lv_ x1, s_, lv_ x2, s_, iv x3, iv x4, iv x5, iv (x5 &&& (3 : Int32)), lv_ y8, s_, iv (2 : Int32), iv ca0, iv ca1, iv (2 : Int32), iv cd0, iv cd1, rv bs227, rv bs301, rv b303, u_, u_, u_, u_] [(.ref b308)])) (fun t k => st308 _ k) ?_
              refine Goes.via (B := T308.setTop (mkF m 181 _ [(.ref b308), (.ref b308)])) (fun t k => XS.dup X308.here hx rfl (hb hby at_180) rfl rfl k) ?_
              refine Goes.via (B := T308.setTop (mkF m 183 _ [(.long y8), (.ref b308), (.ref b308)])) (fun t k => XS.lload X308.here hx rfl (hb hby at_181) rfl k) ?_
              refine Goes.via (B := T308.setTop (mkF m 185 _ [(.ref bs301), (.long y8), (.ref b308), (.ref b308)])) (fun t k => XS.aload X308.here hx rfl (hb hby at_183) rfl rfl k) ?_
              obtain ⟨_, T311, L311, X311, hS311, hZ311, hown311, hC311, ⟨rfl, M311, K311, f311_0, f311_1, f311_2⟩, st311⟩ := callInitH X308 hx hZ306 hS306 (Nat.le_trans (Nat.le_refl _) E308.1) hEL hR309.1 (sf := []) all0 rfl hown306 (own_hw hw 15 rfl) (own_hw hw 16 rfl) (own_hw hw 14 rfl) (own_hw hw 17 rfl) (by decide) (argsL := [(.long y8), (.ref bs301)]) (rest := [(.ref b308)]) (own_m10 l Z a0 hw [] b308 y8 bs301 h308 n0 (((((O0.keep K227 all0).keep K301 all0).ext E303).keep K306 (allS gn303 all0)).ext E308) gn308 A308 F308_round F308_proposer) e308 (lenOf own_pd17 rfl) (pc := 185) (Ls := #[lv_ x1, s_, lv_ x2, s_, iv x3, iv x4, iv x5, iv (x5 &&& (3 : Int32)), lv_ y8, s_, iv (2 : Int32), iv ca0, iv ca1, iv (2 : Int32), iv cd0, iv cd1, rv bs227, rv bs301, rv b303, u_, u_, u_, u_]) (st := [(.ref bs301), (.long y8), (.ref b308), (.ref b308)]) rfl (by rw [hml]; rfl) (hb hby at_185) (W := 1) (Nat.le_of_eq rfl) (by decide) (by decide) (by decide) (by decide)
              have N311 := Fr.app N306 M311
              have hq312 := hC311
              have hR312 := CHr.trans hR309 hq312
              refine Goes.via (B := T311.setTop (mkF m 188 #[lv_ x1, s_, lv_ x2, s_, iv x3, iv x4, iv x5, iv (x5 &&& (3 : Int32)), lv_ y8, s_, iv (2 : Int32), iv ca0, iv ca1, iv (2 : Int32), iv cd0, iv cd1, rv bs227, rv bs301, rv b303, u_, u_, u_, u_] [(.ref b308)])) (fun t k => st311 _ k) ?_
              refine Goes.via (B := T311.setTop (mkF m 190 _ [])) (fun t k => XS.astore X311.here hx rfl (hb hby at_188) rfl rfl (l' := #[lv_ x1, s_, lv_ x2, s_, iv x3, iv x4, iv x5, iv (x5 &&& (3 : Int32)), lv_ y8, s_, iv (2 : Int32), iv ca0, iv ca1, iv (2 : Int32), iv cd0, iv cd1, rv bs227, rv bs301, rv b303, rv b308, u_, u_, u_]) rfl k) ?_
              refine Goes.via (B := T311.setTop (mkF m 191 _ [(.long x1)])) (fun t k => XS.lloadN X311.here hx rfl (hb hby at_190) rfl k) ?_
              refine Goes.via (B := T311.setTop (mkF m 193 _ [(.long y8), (.long x1)])) (fun t k => XS.lload X311.here hx rfl (hb hby at_191) rfl k) ?_
              refine Goes.via (B := T311.setTop (mkF m 194 _ [(.int (XT.cmpL x1 y8))])) (fun t k => XT.lcmp X311.here hx rfl (hb hby at_193) rfl k) ?_
              have j313 : ∀ (T314 : State) (lc314 : List Loc) (X314 : Stand p l e room_1 (s.setVm T314.vm) m #[(.long x1), (.long x2), (.int x3), (.int x4), (.int x5)] below meth c T314 lc314 12 92) (e314 : T314.heap = T311.heap) (N314 : Fr n0 lc314) (hS314 : s.Since T314.vm T311.heap.size) (hZ314 : Z.Warmed39 T314.vm) (hown314 : T314.vm.findClass "com/example/keelson/keelson/cluster/BallotCompareToPinLaw" = some m.cls) (hR314 : CHr Z consts_1 s.vm s.heap T314.vm T311.heap) (exq : Int32) (hex : exq = own_exp x1 y8 (2 : Int32) ca0 ca1 (2 : Int32) cd0 cd1) , Goes p.tables e below (fun t o => ∃ v L, o = .returned v ∧ (own_Q64 Z x1 x2 x3 x4 x5 z0 h0 n0) v t.heap L ∧ EndH Z consts_1 s o t L (room_1).cells (room_1).slots) (T314.setTop (mkF m 233 #[lv_ x1, s_, lv_ x2, s_, iv x3, iv x4, iv x5, iv (x5 &&& (3 : Int32)), lv_ y8, s_, iv (2 : Int32), iv ca0, iv ca1, iv (2 : Int32), iv cd0, iv cd1, rv bs227, rv bs301, rv b303, rv b308, iv exq, u_, u_] [])) := by
                intro T314 lc314 X314 e314 N314 hS314 hZ314 hown314 hR314 exq hex
                refine Goes.via (B := T314.setTop (mkF m 235 _ [(.ref b303)])) (fun t k => XS.aload X314.here hx rfl (hb hby at_233) rfl rfl k) ?_
                refine Goes.via (B := T314.setTop (mkF m 237 _ [(.ref b308), (.ref b303)])) (fun t k => XS.aload X314.here hx rfl (hb hby at_235) rfl rfl k) ?_
                have c316 : Fld Z T311.heap b303 "com/example/keelson/keelson/cluster/Ballot" "round" "J" (.long x1) := ((f306_1.ext E308).keep K311 (ninS (Nat.ne_of_lt (Nat.lt_of_lt_of_le (Nat.le_trans A303.lt K306.1) (Nat.le_of_eq g308.symm))) nin0))
                have c317 : Fld Z T311.heap b303 "com/example/keelson/keelson/cluster/Ballot" "proposer" "Ljava/lang/String;" (.ref bs227) := ((f306_2.ext E308).keep K311 (ninS (Nat.ne_of_lt (Nat.lt_of_lt_of_le (Nat.le_trans A303.lt K306.1) (Nat.le_of_eq g308.symm))) nin0))
                have c318 : Exa Z T311.heap bs227 "java/lang/String" := (((((f227_0.keep K301).ext E303).keep K306).ext E308).keep K311)
                have c319 : Fld Z T311.heap bs227 "java/lang/String" "value" "[B" (.ref ts227) := (((((f227_1.keep K301 nin0).ext E303).keep K306 (ninS (Nat.ne_of_lt (Nat.lt_of_lt_of_le (Nat.le_trans f227_0.lt K301.1) (Nat.le_of_eq g303.symm))) nin0)).ext E308).keep K311 (ninS (Nat.ne_of_lt (Nat.lt_of_lt_of_le (Nat.le_trans (Nat.le_trans (Nat.le_trans f227_0.lt K301.1) E303.1) K306.1) (Nat.le_of_eq g308.symm))) nin0))
                have c320 : Fld Z T311.heap bs227 "java/lang/String" "coder" "B" (.int (0 : Int32)) := (((((f227_2.keep K301 nin0).ext E303).keep K306 (ninS (Nat.ne_of_lt (Nat.lt_of_lt_of_le (Nat.le_trans f227_0.lt K301.1) (Nat.le_of_eq g303.symm))) nin0)).ext E308).keep K311 (ninS (Nat.ne_of_lt (Nat.lt_of_lt_of_le (Nat.le_trans (Nat.le_trans (Nat.le_trans f227_0.lt K301.1) E303.1) K306.1) (Nat.le_of_eq g308.symm))) nin0))
                have c321 : Fld Z T311.heap bs301 "java/lang/String" "value" "[B" (.ref ts301) := ((((f301_1.ext E303).keep K306 (ninS (Nat.ne_of_lt (Nat.lt_of_lt_of_le f301_0.lt (Nat.le_of_eq g303.symm))) nin0)).ext E308).keep K311 (ninS (Nat.ne_of_lt (Nat.lt_of_lt_of_le (Nat.le_trans (Nat.le_trans f301_0.lt E303.1) K306.1) (Nat.le_of_eq g308.symm))) nin0))
                have c322 : Fld Z T311.heap bs301 "java/lang/String" "coder" "B" (.int (0 : Int32)) := ((((f301_2.ext E303).keep K306 (ninS (Nat.ne_of_lt (Nat.lt_of_lt_of_le f301_0.lt (Nat.le_of_eq g303.symm))) nin0)).ext E308).keep K311 (ninS (Nat.ne_of_lt (Nat.lt_of_lt_of_le (Nat.le_trans (Nat.le_trans f301_0.lt E303.1) K306.1) (Nat.le_of_eq g308.symm))) nin0))
                have c323 : Arv Z T311.heap ts227 ks227 .byte (2 : Int32) [(.int ca0.toInt8.toInt32), (.int ca1.toInt8.toInt32)] (.int (0 : Int32)) := (((((f227_3.keep K301 nin0).ext E303).keep K306 (ninS (Nat.ne_of_lt (Nat.lt_of_lt_of_le (Nat.le_trans f227_3.lt K301.1) (Nat.le_of_eq g303.symm))) nin0)).ext E308).keep K311 (ninS (Nat.ne_of_lt (Nat.lt_of_lt_of_le (Nat.le_trans (Nat.le_trans (Nat.le_trans f227_3.lt K301.1) E303.1) K306.1) (Nat.le_of_eq g308.symm))) nin0))
                have c324 : Arv Z T311.heap ts301 ks301 .byte (2 : Int32) [(.int cd0.toInt8.toInt32), (.int cd1.toInt8.toInt32)] (.int (0 : Int32)) := ((((f301_3.ext E303).keep K306 (ninS (Nat.ne_of_lt (Nat.lt_of_lt_of_le f301_3.lt (Nat.le_of_eq g303.symm))) nin0)).ext E308).keep K311 (ninS (Nat.ne_of_lt (Nat.lt_of_lt_of_le (Nat.le_trans (Nat.le_trans f301_3.lt E303.1) K306.1) (Nat.le_of_eq g308.symm))) nin0))
                obtain ⟨_, T315, L315, X315, ⟨r315, rfl, M315, K315, p315_0⟩, st315⟩ := callVirt X314 hx hZ314 hown314 (own_hw hw 35 rfl) (own_hw hw 36 rfl) (own_hw hw 38 rfl) (notFace_of_selects (args := #[]) (mvT hZ314 (own_hw hw 38 rfl))) (own_hw hw 37 rfl) (own_hw hw 14 rfl) (own_hw hw 39 rfl) (by decide) (argsL := [(.ref b308)]) (rest := []) (own_m63 l Z a0 hw [] b303 b308 x1 y8 bs227 bs301 z0 ts227 ks227 ts301 ks301 ca0 ca1 cd0 cd1 T311.heap n0 ((((((O0.keep K227 all0).keep K301 all0).ext E303).keep K306 (allS gn303 all0)).ext E308).keep K311 (allS gn308 all0)) hz0 hca0 hca1 hcd0 hcd1 O_1 ((f306_0.ext E308).keep K311) c316 c317 f311_0 f311_1 f311_2 c318 c319 c320 ((((f301_0.ext E303).keep K306).ext E308).keep K311) c321 c322 c323 c324) e314 ((f306_0.ext E308).keep K311) (lenOf own_pd18 rfl) (pc := 237) (Ls := #[lv_ x1, s_, lv_ x2, s_, iv x3, iv x4, iv x5, iv (x5 &&& (3 : Int32)), lv_ y8, s_, iv (2 : Int32), iv ca0, iv ca1, iv (2 : Int32), iv cd0, iv cd1, rv bs227, rv bs301, rv b303, rv b308, iv exq, u_, u_]) (st := [(.ref b308), (.ref b303)]) rfl (by rw [hml]; rfl) (hb hby at_237) (W := 0) (Nat.le_of_eq rfl) (by decide) (by decide) (by decide) (by decide)
                have N315 := Fr.app N314 M315
                refine Goes.via (B := T315.setTop (mkF m 240 #[lv_ x1, s_, lv_ x2, s_, iv x3, iv x4, iv x5, iv (x5 &&& (3 : Int32)), lv_ y8, s_, iv (2 : Int32), iv ca0, iv ca1, iv (2 : Int32), iv cd0, iv cd1, rv bs227, rv bs301, rv b303, rv b308, iv exq, u_, u_] [(.int r315)])) (fun t k => st315 _ k) ?_
                refine Goes.via (B := T315.setTop (mkF m 241 _ [(.long (r315.toInt64))])) (fun t k => XS.i2l X315.here hx rfl (hb hby at_240) rfl k) ?_
                obtain ⟨_, T325, L325, X325, ⟨r325, rfl, M325, K325, p325_0⟩, st325⟩ := callStatic X315 hx hZ314 hown314 (own_hw hw 44 rfl) (own_hw hw 45 rfl) (own_hw hw 2 rfl) (own_hw hw 46 rfl) (by decide) (argsL := [(.long (r315.toInt64))]) (rest := []) (own_m12 l Z a0 hw [] r315.toInt64 T311.heap n0 ((((((O0.keep K227 all0).keep K301 all0).ext E303).keep K306 (allS gn303 all0)).ext E308).keep K311 (allS gn308 all0)) ) K315 (lenOf own_pd7 rfl) (pc := 241) (Ls := #[lv_ x1, s_, lv_ x2, s_, iv x3, iv x4, iv x5, iv (x5 &&& (3 : Int32)), lv_ y8, s_, iv (2 : Int32), iv ca0, iv ca1, iv (2 : Int32), iv cd0, iv cd1, rv bs227, rv bs301, rv b303, rv b308, iv exq, u_, u_]) (st := [(.long (r315.toInt64))]) rfl (by rw [hml]; rfl) (hb hby at_241) (W := 0) (Nat.le_of_eq rfl) (by decide) (by decide) (by decide) (by decide)
                have N325 := Fr.app N315 M325
                refine Goes.via (B := T325.setTop (mkF m 244 #[lv_ x1, s_, lv_ x2, s_, iv x3, iv x4, iv x5, iv (x5 &&& (3 : Int32)), lv_ y8, s_, iv (2 : Int32), iv ca0, iv ca1, iv (2 : Int32), iv cd0, iv cd1, rv bs227, rv bs301, rv b303, rv b308, iv exq, u_, u_] [(.int r325)])) (fun t k => st325 _ k) ?_
                refine Goes.via (B := T325.setTop (mkF m 246 _ [])) (fun t k => XS.istore X325.here hx rfl (hb hby at_244) rfl (l' := #[lv_ x1, s_, lv_ x2, s_, iv x3, iv x4, iv x5, iv (x5 &&& (3 : Int32)), lv_ y8, s_, iv (2 : Int32), iv ca0, iv ca1, iv (2 : Int32), iv cd0, iv cd1, rv bs227, rv bs301, rv b303, rv b308, iv exq, iv r325, u_]) rfl k) ?_
                refine Goes.via (B := T325.setTop (mkF m 248 _ [(.ref b308)])) (fun t k => XS.aload X325.here hx rfl (hb hby at_246) rfl rfl k) ?_
                refine Goes.via (B := T325.setTop (mkF m 250 _ [(.ref b303), (.ref b308)])) (fun t k => XS.aload X325.here hx rfl (hb hby at_248) rfl rfl k) ?_
                obtain ⟨_, T326, L326, X326, ⟨r326, rfl, M326, K326, p326_0⟩, st326⟩ := callVirt X325 hx hZ314 hown314 (own_hw hw 35 rfl) (own_hw hw 36 rfl) (own_hw hw 38 rfl) (notFace_of_selects (args := #[]) (mvT hZ314 (own_hw hw 38 rfl))) (own_hw hw 37 rfl) (own_hw hw 14 rfl) (own_hw hw 39 rfl) (by decide) (argsL := [(.ref b303)]) (rest := []) (own_m63 l Z a0 hw [] b308 b303 y8 x1 bs301 bs227 z0 ts301 ks301 ts227 ks227 cd0 cd1 ca0 ca1 T311.heap n0 ((((((O0.keep K227 all0).keep K301 all0).ext E303).keep K306 (allS gn303 all0)).ext E308).keep K311 (allS gn308 all0)) hz0 hcd0 hcd1 hca0 hca1 O_1 f311_0 f311_1 f311_2 ((f306_0.ext E308).keep K311) c316 c317 ((((f301_0.ext E303).keep K306).ext E308).keep K311) c321 c322 c318 c319 c320 c324 c323) K325 f311_0 (lenOf own_pd18 rfl) (pc := 250) (Ls := #[lv_ x1, s_, lv_ x2, s_, iv x3, iv x4, iv x5, iv (x5 &&& (3 : Int32)), lv_ y8, s_, iv (2 : Int32), iv ca0, iv ca1, iv (2 : Int32), iv cd0, iv cd1, rv bs227, rv bs301, rv b303, rv b308, iv exq, iv r325, u_]) (st := [(.ref b303), (.ref b308)]) rfl (by rw [hml]; rfl) (hb hby at_250) (W := 0) (Nat.le_of_eq rfl) (by decide) (by decide) (by decide) (by decide)
                have N326 := Fr.app N325 M326
                refine Goes.via (B := T326.setTop (mkF m 253 #[lv_ x1, s_, lv_ x2, s_, iv x3, iv x4, iv x5, iv (x5 &&& (3 : Int32)), lv_ y8, s_, iv (2 : Int32), iv ca0, iv ca1, iv (2 : Int32), iv cd0, iv cd1, rv bs227, rv bs301, rv b303, rv b308, iv exq, iv r325, u_] [(.int r326)])) (fun t k => st326 _ k) ?_
                refine Goes.via (B := T326.setTop (mkF m 254 _ [(.long (r326.toInt64))])) (fun t k => XS.i2l X326.here hx rfl (hb hby at_253) rfl k) ?_
                obtain ⟨_, T327, L327, X327, ⟨r327, rfl, M327, K327, p327_0⟩, st327⟩ := callStatic X326 hx hZ314 hown314 (own_hw hw 44 rfl) (own_hw hw 45 rfl) (own_hw hw 2 rfl) (own_hw hw 46 rfl) (by decide) (argsL := [(.long (r326.toInt64))]) (rest := []) (own_m12 l Z a0 hw [] r326.toInt64 T311.heap n0 ((((((O0.keep K227 all0).keep K301 all0).ext E303).keep K306 (allS gn303 all0)).ext E308).keep K311 (allS gn308 all0)) ) K326 (lenOf own_pd7 rfl) (pc := 254) (Ls := #[lv_ x1, s_, lv_ x2, s_, iv x3, iv x4, iv x5, iv (x5 &&& (3 : Int32)), lv_ y8, s_, iv (2 : Int32), iv ca0, iv ca1, iv (2 : Int32), iv cd0, iv cd1, rv bs227, rv bs301, rv b303, rv b308, iv exq, iv r325, u_]) (st := [(.long (r326.toInt64))]) rfl (by rw [hml]; rfl) (hb hby at_254) (W := 0) (Nat.le_of_eq rfl) (by decide) (by decide) (by decide) (by decide)
                have N327 := Fr.app N326 M327
                refine Goes.via (B := T327.setTop (mkF m 257 #[lv_ x1, s_, lv_ x2, s_, iv x3, iv x4, iv x5, iv (x5 &&& (3 : Int32)), lv_ y8, s_, iv (2 : Int32), iv ca0, iv ca1, iv (2 : Int32), iv cd0, iv cd1, rv bs227, rv bs301, rv b303, rv b308, iv exq, iv r325, u_] [(.int r327)])) (fun t k => st327 _ k) ?_
                refine Goes.via (B := T327.setTop (mkF m 259 _ [])) (fun t k => XS.istore X327.here hx rfl (hb hby at_257) rfl (l' := #[lv_ x1, s_, lv_ x2, s_, iv x3, iv x4, iv x5, iv (x5 &&& (3 : Int32)), lv_ y8, s_, iv (2 : Int32), iv ca0, iv ca1, iv (2 : Int32), iv cd0, iv cd1, rv bs227, rv bs301, rv b303, rv b308, iv exq, iv r325, iv r327]) rfl k) ?_
                refine Goes.via (B := T327.setTop (mkF m 261 _ [(.int r325)])) (fun t k => XS.iload X327.here hx rfl (hb hby at_259) rfl k) ?_
                refine Goes.via (B := T327.setTop (mkF m 263 _ [(.int exq), (.int r325)])) (fun t k => XS.iload X327.here hx rfl (hb hby at_261) rfl k) ?_
                refine Goes.via (B := T327.setTop (mkF m 266 _ [])) (fun t k => XS.icmpNo X327.here hx rfl (hb hby at_263) rfl (XT.ii_ne_f (p325_0.trans ((own_sgl _).trans (p315_0.trans hex.symm)))) k) ?_
                refine Goes.via (B := T327.setTop (mkF m 268 _ [(.int r327)])) (fun t k => XS.iload X327.here hx rfl (hb hby at_266) rfl k) ?_
                refine Goes.via (B := T327.setTop (mkF m 270 _ [(.int exq), (.int r327)])) (fun t k => XS.iload X327.here hx rfl (hb hby at_268) rfl k) ?_
                refine Goes.via (B := T327.setTop (mkF m 271 _ [(.int (-exq)), (.int r327)])) (fun t k => XS.ineg X327.here hx rfl (hb hby at_270) rfl k) ?_
                refine Goes.via (B := T327.setTop (mkF m 274 _ [])) (fun t k => XS.icmpNo X327.here hx rfl (hb hby at_271) rfl (XT.ii_ne_f (by rw [p327_0, own_sgl, p326_0, hex]; exact own_antiE _ _ _ _ _ _ _ _ (by decide) (by decide))) k) ?_
                refine Goes.via (B := T327.setTop (mkF m 275 _ [(.int (1 : Int32))])) (fun t k => XS.iconst X327.here hx rfl (hb hby at_274) k) ?_
                refine Goes.via (B := T327.setTop (mkF m 279 _ [(.int (1 : Int32))])) (fun t k => XS.goto X327.here hx rfl (pc0 := 275) (pc' := 279) rfl (hb hby at_275) (by decide) (by decide) k) ?_
                exact finN (Q := (own_Q64 Z x1 x2 x3 x4 x5 z0 h0 n0)) (F := EndH Z consts_1) (C := (room_1).cells) (S := (room_1).slots) X327 hx (t := .boolean) Bd.returns (by simp) (z' := (1 : Int32)) rfl (hb hby at_279) K327 ⟨rfl, N327, trivial⟩ (lvH X327 hlk hS314 K327 (Nat.le_refl _) hZ314 hEL hR314 (by decide) (by decide))
              by_cases b328 : x1 < y8
              · refine Goes.via (B := T311.setTop (mkF m 197 _ [])) (fun t k => XS.ifNo X311.here hx rfl (hb hby at_194) rfl (XT.ll_ge_f b328) k) ?_
                refine Goes.via (B := T311.setTop (mkF m 198 _ [(.int (-1 : Int32))])) (fun t k => XS.iconst X311.here hx rfl (hb hby at_197) k) ?_
                refine Goes.via (B := T311.setTop (mkF m 200 _ [])) (fun t k => XS.istore X311.here hx rfl (hb hby at_198) rfl (l' := #[lv_ x1, s_, lv_ x2, s_, iv x3, iv x4, iv x5, iv (x5 &&& (3 : Int32)), lv_ y8, s_, iv (2 : Int32), iv ca0, iv ca1, iv (2 : Int32), iv cd0, iv cd1, rv bs227, rv bs301, rv b303, rv b308, iv (-1 : Int32), u_, u_]) rfl k) ?_
                refine Goes.via (B := T311.setTop (mkF m 233 _ [])) (fun t k => XS.goto X311.here hx rfl (pc0 := 200) (pc' := 233) rfl (hb hby at_200) (by decide) (by decide) k) ?_
                obtain ⟨Xr329, hSr329, hZr329, hor329⟩ := rebase X311 hS311 rfl (Nat.le_refl _) hZ311 hown311
                exact j313 T311 _ Xr329 rfl N311 hSr329 hZr329 hor329 (CHr.trans hR312 (CHv.at X311 hZ311 hEL hR312.1)) (-1 : Int32) (by unfold own_exp; rw [if_pos b328])
              · refine Goes.via (B := T311.setTop (mkF m 203 _ [])) (fun t k => XS.ifYes X311.here hx rfl (pc0 := 194) (pc' := 203) rfl (hb hby at_194) rfl (XT.ll_ge_t b328) (by decide) (by decide) k) ?_
                refine Goes.via (B := T311.setTop (mkF m 204 _ [(.long x1)])) (fun t k => XS.lloadN X311.here hx rfl (hb hby at_203) rfl k) ?_
                refine Goes.via (B := T311.setTop (mkF m 206 _ [(.long y8), (.long x1)])) (fun t k => XS.lload X311.here hx rfl (hb hby at_204) rfl k) ?_
                refine Goes.via (B := T311.setTop (mkF m 207 _ [(.int (XT.cmpL x1 y8))])) (fun t k => XT.lcmp X311.here hx rfl (hb hby at_206) rfl k) ?_
                by_cases b330 : y8 < x1
                · refine Goes.via (B := T311.setTop (mkF m 210 _ [])) (fun t k => XS.ifNo X311.here hx rfl (hb hby at_207) rfl (XT.ll_le_f b330) k) ?_
                  refine Goes.via (B := T311.setTop (mkF m 211 _ [(.int (1 : Int32))])) (fun t k => XS.iconst X311.here hx rfl (hb hby at_210) k) ?_
                  refine Goes.via (B := T311.setTop (mkF m 213 _ [])) (fun t k => XS.istore X311.here hx rfl (hb hby at_211) rfl (l' := #[lv_ x1, s_, lv_ x2, s_, iv x3, iv x4, iv x5, iv (x5 &&& (3 : Int32)), lv_ y8, s_, iv (2 : Int32), iv ca0, iv ca1, iv (2 : Int32), iv cd0, iv cd1, rv bs227, rv bs301, rv b303, rv b308, iv (1 : Int32), u_, u_]) rfl k) ?_
                  refine Goes.via (B := T311.setTop (mkF m 233 _ [])) (fun t k => XS.goto X311.here hx rfl (pc0 := 213) (pc' := 233) rfl (hb hby at_213) (by decide) (by decide) k) ?_
                  obtain ⟨Xr331, hSr331, hZr331, hor331⟩ := rebase X311 hS311 rfl (Nat.le_refl _) hZ311 hown311
                  exact j313 T311 _ Xr331 rfl N311 hSr331 hZr331 hor331 (CHr.trans hR312 (CHv.at X311 hZ311 hEL hR312.1)) (1 : Int32) (by unfold own_exp; rw [if_neg b328, if_pos b330])
                · refine Goes.via (B := T311.setTop (mkF m 216 _ [])) (fun t k => XS.ifYes X311.here hx rfl (pc0 := 207) (pc' := 216) rfl (hb hby at_207) rfl (XT.ll_le_t b330) (by decide) (by decide) k) ?_
                  refine Goes.via (B := T311.setTop (mkF m 218 _ [(.int (2 : Int32))])) (fun t k => XS.iload X311.here hx rfl (hb hby at_216) rfl k) ?_
                  refine Goes.via (B := T311.setTop (mkF m 220 _ [(.int ca0), (.int (2 : Int32))])) (fun t k => XS.iload X311.here hx rfl (hb hby at_218) rfl k) ?_
                  refine Goes.via (B := T311.setTop (mkF m 222 _ [(.int ca1), (.int ca0), (.int (2 : Int32))])) (fun t k => XS.iload X311.here hx rfl (hb hby at_220) rfl k) ?_
                  refine Goes.via (B := T311.setTop (mkF m 224 _ [(.int (2 : Int32)), (.int ca1), (.int ca0), (.int (2 : Int32))])) (fun t k => XS.iload X311.here hx rfl (hb hby at_222) rfl k) ?_
                  refine Goes.via (B := T311.setTop (mkF m 226 _ [(.int cd0), (.int (2 : Int32)), (.int ca1), (.int ca0), (.int (2 : Int32))])) (fun t k => XS.iload X311.here hx rfl (hb hby at_224) rfl k) ?_
                  refine Goes.via (B := T311.setTop (mkF m 228 _ [(.int cd1), (.int cd0), (.int (2 : Int32)), (.int ca1), (.int ca0), (.int (2 : Int32))])) (fun t k => XS.iload X311.here hx rfl (hb hby at_226) rfl k) ?_
                  obtain ⟨_, T332, L332, X332, ⟨r332, rfl, M332, K332, p332_0⟩, st332⟩ := callStatic X311 hx hZ311 hown311 (own_hw hw 47 rfl) (own_hw hw 48 rfl) (own_hw hw 2 rfl) (own_hw hw 49 rfl) (by decide) (argsL := [(.int (2 : Int32)), (.int ca0), (.int ca1), (.int (2 : Int32)), (.int cd0), (.int cd1)]) (rest := []) (own_m13 l Z a0 hw [] (2 : Int32) ca0 ca1 (2 : Int32) cd0 cd1 T311.heap n0 ((((((O0.keep K227 all0).keep K301 all0).ext E303).keep K306 (allS gn303 all0)).ext E308).keep K311 (allS gn308 all0)) ) rfl (lenOf own_pd19 rfl) (pc := 228) (Ls := #[lv_ x1, s_, lv_ x2, s_, iv x3, iv x4, iv x5, iv (x5 &&& (3 : Int32)), lv_ y8, s_, iv (2 : Int32), iv ca0, iv ca1, iv (2 : Int32), iv cd0, iv cd1, rv bs227, rv bs301, rv b303, rv b308, u_, u_, u_]) (st := [(.int cd1), (.int cd0), (.int (2 : Int32)), (.int ca1), (.int ca0), (.int (2 : Int32))]) rfl (by rw [hml]; rfl) (hb hby at_228) (W := 0) (Nat.le_of_eq rfl) (by decide) (by decide) (by decide) (by decide)
                  have N332 := Fr.app N311 M332
                  refine Goes.via (B := T332.setTop (mkF m 231 #[lv_ x1, s_, lv_ x2, s_, iv x3, iv x4, iv x5, iv (x5 &&& (3 : Int32)), lv_ y8, s_, iv (2 : Int32), iv ca0, iv ca1, iv (2 : Int32), iv cd0, iv cd1, rv bs227, rv bs301, rv b303, rv b308, u_, u_, u_] [(.int r332)])) (fun t k => st332 _ k) ?_
                  refine Goes.via (B := T332.setTop (mkF m 233 _ [])) (fun t k => XS.istore X332.here hx rfl (hb hby at_231) rfl (l' := #[lv_ x1, s_, lv_ x2, s_, iv x3, iv x4, iv x5, iv (x5 &&& (3 : Int32)), lv_ y8, s_, iv (2 : Int32), iv ca0, iv ca1, iv (2 : Int32), iv cd0, iv cd1, rv bs227, rv bs301, rv b303, rv b308, iv r332, u_, u_]) rfl k) ?_
                  obtain ⟨Xr333, hSr333, hZr333, hor333⟩ := rebase X332 hS311 K332 (Nat.le_refl _) hZ311 hown311
                  exact j313 T332 _ Xr333 K332 N332 hSr333 hZr333 hor333 (CHr.trans hR312 (CHv.at X332 hZ311 hEL hR312.1)) r332 (by unfold own_exp; rw [if_neg b328, if_neg b330]; exact p332_0)
        by_cases b334 : (((x5.toUInt32 >>> ((4 : Int32) &&& 31).toUInt32).toInt32) &&& (1 : Int32)) = (0 : Int32)
        · refine Goes.via (B := s₁.setTop (mkF m 139 _ [])) (fun t k => XS.ifYes X0.here hx rfl (pc0 := 132) (pc' := 139) rfl (hb hby at_132) rfl (XT.i0_eq_t b334) (by decide) (by decide) k) ?_
          exact j8 lb0 hlb0
        · refine Goes.via (B := s₁.setTop (mkF m 135 _ [])) (fun t k => XS.ifNo X0.here hx rfl (hb hby at_132) rfl (XT.i0_eq_f b334) k) ?_
          refine Goes.via (B := s₁.setTop (mkF m 137 _ [(.int la)])) (fun t k => XS.iload X0.here hx rfl (hb hby at_135) rfl k) ?_
          refine Goes.via (B := s₁.setTop (mkF m 139 _ [])) (fun t k => XS.istore X0.here hx rfl (hb hby at_137) rfl (l' := #[lv_ x1, s_, lv_ x2, s_, iv x3, iv x4, iv x5, iv (x5 &&& (3 : Int32)), lv_ y8, s_, iv la, iv ca0, iv ca1, iv la, iv cd0, iv cd1, u_, u_, u_, u_, u_, u_, u_]) rfl k) ?_
          exact j8 la hla
      by_cases b335 : (((x5.toUInt32 >>> ((3 : Int32) &&& 31).toUInt32).toInt32) &&& (1 : Int32)) = (0 : Int32)
      · refine Goes.via (B := s₁.setTop (mkF m 126 _ [])) (fun t k => XS.ifYes X0.here hx rfl (pc0 := 119) (pc' := 126) rfl (hb hby at_119) rfl (XT.i0_eq_t b335) (by decide) (by decide) k) ?_
        exact j6 cb1 hcb1
      · refine Goes.via (B := s₁.setTop (mkF m 122 _ [])) (fun t k => XS.ifNo X0.here hx rfl (hb hby at_119) rfl (XT.i0_eq_f b335) k) ?_
        refine Goes.via (B := s₁.setTop (mkF m 124 _ [(.int ca1)])) (fun t k => XS.iload X0.here hx rfl (hb hby at_122) rfl k) ?_
        refine Goes.via (B := s₁.setTop (mkF m 126 _ [])) (fun t k => XS.istore X0.here hx rfl (hb hby at_124) rfl (l' := #[lv_ x1, s_, lv_ x2, s_, iv x3, iv x4, iv x5, iv (x5 &&& (3 : Int32)), lv_ y8, s_, iv la, iv ca0, iv ca1, iv lb0, iv cd0, iv ca1, u_, u_, u_, u_, u_, u_, u_]) rfl k) ?_
        exact j6 ca1 hca1
    refine Goes.via (B := s₁.setTop (mkF m 102 _ [(.int x5)])) (fun t k => XS.iload X0.here hx rfl (hb hby at_100) rfl k) ?_
    refine Goes.via (B := s₁.setTop (mkF m 103 _ [(.int (2 : Int32)), (.int x5)])) (fun t k => XS.iconst X0.here hx rfl (hb hby at_102) k) ?_
    refine Goes.via (B := s₁.setTop (mkF m 104 _ [(.int ((x5.toUInt32 >>> ((2 : Int32) &&& 31).toUInt32).toInt32))])) (fun t k => XS.iushr X0.here hx rfl (hb hby at_103) rfl k) ?_
    refine Goes.via (B := s₁.setTop (mkF m 105 _ [(.int (1 : Int32)), (.int ((x5.toUInt32 >>> ((2 : Int32) &&& 31).toUInt32).toInt32))])) (fun t k => XS.iconst X0.here hx rfl (hb hby at_104) k) ?_
    refine Goes.via (B := s₁.setTop (mkF m 106 _ [(.int (((x5.toUInt32 >>> ((2 : Int32) &&& 31).toUInt32).toInt32) &&& (1 : Int32)))])) (fun t k => XS.iand X0.here hx rfl (hb hby at_105) rfl k) ?_
    by_cases b336 : (((x5.toUInt32 >>> ((2 : Int32) &&& 31).toUInt32).toInt32) &&& (1 : Int32)) = (0 : Int32)
    · refine Goes.via (B := s₁.setTop (mkF m 113 _ [])) (fun t k => XS.ifYes X0.here hx rfl (pc0 := 106) (pc' := 113) rfl (hb hby at_106) rfl (XT.i0_eq_t b336) (by decide) (by decide) k) ?_
      exact j4 cb0 hcb0
    · refine Goes.via (B := s₁.setTop (mkF m 109 _ [])) (fun t k => XS.ifNo X0.here hx rfl (hb hby at_106) rfl (XT.i0_eq_f b336) k) ?_
      refine Goes.via (B := s₁.setTop (mkF m 111 _ [(.int ca0)])) (fun t k => XS.iload X0.here hx rfl (hb hby at_109) rfl k) ?_
      refine Goes.via (B := s₁.setTop (mkF m 113 _ [])) (fun t k => XS.istore X0.here hx rfl (hb hby at_111) rfl (l' := #[lv_ x1, s_, lv_ x2, s_, iv x3, iv x4, iv x5, iv (x5 &&& (3 : Int32)), lv_ y8, s_, iv la, iv ca0, iv ca1, iv lb0, iv ca0, iv cb1, u_, u_, u_, u_, u_, u_, u_]) rfl k) ?_
      exact j4 ca0 hca0
  by_cases b337 : (x5 &&& (3 : Int32)) = (1 : Int32)
  · refine Goes.via (B := s₁.setTop (mkF m 15 _ [])) (fun t k => XS.icmpNo X0.here hx rfl (hb hby at_12) rfl (XT.ii_ne_f b337) k) ?_
    refine Goes.via (B := s₁.setTop (mkF m 16 _ [(.long x1)])) (fun t k => XS.lloadN X0.here hx rfl (hb hby at_15) rfl k) ?_
    refine Goes.via (B := s₁.setTop (mkF m 18 _ [])) (fun t k => XS.lstore X0.here hx rfl (hb hby at_16) rfl (l' := #[lv_ x1, s_, lv_ x2, s_, iv x3, iv x4, iv x5, iv (x5 &&& (3 : Int32)), lv_ x1, s_, u_, u_, u_, u_, u_, u_, u_, u_, u_, u_, u_, u_, u_]) rfl k) ?_
    refine Goes.via (B := s₁.setTop (mkF m 32 _ [])) (fun t k => XS.goto X0.here hx rfl (pc0 := 18) (pc' := 32) rfl (hb hby at_18) (by decide) (by decide) k) ?_
    exact j1 x1
  · refine Goes.via (B := s₁.setTop (mkF m 21 _ [])) (fun t k => XS.icmpYes X0.here hx rfl (pc0 := 12) (pc' := 21) rfl (hb hby at_12) rfl (XT.ii_ne_t b337) (by decide) (by decide) k) ?_
    refine Goes.via (B := s₁.setTop (mkF m 23 _ [(.int (x5 &&& (3 : Int32)))])) (fun t k => XS.iload X0.here hx rfl (hb hby at_21) rfl k) ?_
    refine Goes.via (B := s₁.setTop (mkF m 24 _ [(.int (2 : Int32)), (.int (x5 &&& (3 : Int32)))])) (fun t k => XS.iconst X0.here hx rfl (hb hby at_23) k) ?_
    by_cases b338 : (x5 &&& (3 : Int32)) = (2 : Int32)
    · refine Goes.via (B := s₁.setTop (mkF m 27 _ [])) (fun t k => XS.icmpNo X0.here hx rfl (hb hby at_24) rfl (XT.ii_ne_f b338) k) ?_
      refine Goes.via (B := s₁.setTop (mkF m 28 _ [(.long x1)])) (fun t k => XS.lloadN X0.here hx rfl (hb hby at_27) rfl k) ?_
      refine Goes.via (B := s₁.setTop (mkF m 29 _ [(.long (1 : Int64)), (.long x1)])) (fun t k => XS.lconst X0.here hx rfl (hb hby at_28) k) ?_
      refine Goes.via (B := s₁.setTop (mkF m 30 _ [(.long (x1 + (1 : Int64)))])) (fun t k => XS.ladd X0.here hx rfl (hb hby at_29) rfl k) ?_
      refine Goes.via (B := s₁.setTop (mkF m 32 _ [])) (fun t k => XS.lstore X0.here hx rfl (hb hby at_30) rfl (l' := #[lv_ x1, s_, lv_ x2, s_, iv x3, iv x4, iv x5, iv (x5 &&& (3 : Int32)), lv_ (x1 + (1 : Int64)), s_, u_, u_, u_, u_, u_, u_, u_, u_, u_, u_, u_, u_, u_]) rfl k) ?_
      exact j1 (x1 + (1 : Int64))
    · refine Goes.via (B := s₁.setTop (mkF m 32 _ [])) (fun t k => XS.icmpYes X0.here hx rfl (pc0 := 24) (pc' := 32) rfl (hb hby at_24) rfl (XT.ii_ne_t b338) (by decide) (by decide) k) ?_
      exact j1 x2
set_option maxRecDepth 65536 in
set_option maxHeartbeats 40000000 in
theorem comes_1 {Post : Tables → Env → Array Value → State → Outcome → State → Prop} (hpost : ∀ tb e args s v u, (limb_1_1.after args s (.returned v) u = true ∧ limb_1_2.after args s (.returned v) u = true ∧ True) → ReturnedEndW s (.returned v) u (Jvm.fieldLocs frame_1_writes args s ++ Jvm.arrayLocs frame_1_arrays args s ++ Jvm.staticLocs frame_1_statics s) 32 2176 → Post tb e args s (.returned v) u) :
    ArmFor flags0 classFile x code maxLocals ret World_1 tables_1 room_1 Calls_1 rest_1 Pre_1 Post := by
  intro l hfl _ _ p e ha hc hk s m args below hf hA hF happ hP
  obtain ⟨hcalls, hrest, hpre⟩ := hP
  obtain ⟨-, -, -, hnamed, -, -, -, hat⟩ := (Spec.applies_iff hf).mp happ
  obtain ⟨hg, hn⟩ := and_e (Cond.before_iff.mp (show (Jvm.Cond.and given_1 narrow_1).before args s = true from hpre))
  obtain ⟨g_0, r_0⟩ := and_e hg
  obtain ⟨g_1, r_1⟩ := and_e r_0
  obtain ⟨g_2, r_2⟩ := and_e r_1
  obtain ⟨g_3, r_3⟩ := and_e r_2
  obtain ⟨g_4, r_4⟩ := and_e r_3
  obtain ⟨w0, w1, w2, w3, w4, rfl⟩ : ∃ w0 w1 w2 w3 w4 : Value, args = #[w0, w1, w2, w3, w4] := by
    have hs : args.size = 5 := by simpa [Cond.value, given_1] using g_0
    obtain ⟨L⟩ := args
    match L, hs with
    | [w0, w1, w2, w3, w4], _ => exact ⟨w0, w1, w2, w3, w4, rfl⟩
  have hw := fun d (hd : d ∈ tables_1) => atoms_spec (ws := Jvm.Cond.code x code maxLocals ret :: tables_1) hat d (List.mem_cons_of_mem _ hd)
  obtain ⟨hsets, hown0⟩ := atoms_of _ (rest_1_c_eq ▸ (show rest_1_c.before _ s = true from hrest))
  have hfit : Fit s := fun {y c} hc i hi => by
    obtain ⟨ha, rfl⟩ := Array.getElem?_eq_some_iff.mp hc
    have q := List.all_eq_true.mp ((Array.all_eq_true_iff_forall_mem.mp hF) _ (Array.getElem_mem ha)) i (List.mem_range.mpr hi)
    simpa [Array.getElem?_eq_getElem hi] using q
  obtain ⟨i0, ei0⟩ := isL_v g_1
  obtain rfl : w0 = (.long i0) := Option.some.inj ei0
  obtain ⟨i1, ei1⟩ := isL_v g_2
  obtain rfl : w1 = (.long i1) := Option.some.inj ei1
  obtain ⟨i2, ei2⟩ := is_v g_3
  obtain rfl : w2 = (.int i2) := Option.some.inj ei2
  obtain ⟨i3, ei3⟩ := is_v g_4
  obtain rfl : w3 = (.int i3) := Option.some.inj ei3
  obtain ⟨i4, ei4⟩ := is_v r_4
  obtain rfl : w4 = (.int i4) := Option.some.inj ei4
  have n_0 := hn
  have n_cs := not_v (Cond.before_iff.mp (hsets _ (List.mem_of_getElem? (i := 2) rfl)))
  obtain ⟨z0, e_cs⟩ := is_v (Cond.before_iff.mp (hsets _ (List.mem_of_getElem? (i := 1) rfl)))
  have S_cs : Sta s s.heap "java/lang/String" "COMPACT_STRINGS" "Z" (.int z0) := Sta.start e_cs (Or.inl (hsets _ (List.mem_of_getElem? (i := 0) rfl)))
  have hz0 : ¬ (z0 = (0 : Int32)) := gotF (Cond.eq_ints e_cs (Term.int_eval (0))) n_cs
  have hCH : CHv s consts_1 s.vm s.heap := CHv.start (own_EW hw) (fun p hp => hcalls.1 p hp) (hsets _ (List.mem_of_getElem? (i := 2) rfl)) (own_hw hw 7 rfl) (own_hw hw 6 rfl)
  obtain ⟨n, o, h1, h2, h3, _, L, rfl, ⟨rfl, N, -⟩, -, hq⟩ := own_m64 l s _ hw tables_1 i0 i1 i2 i3 i4 z0 s.heap s.heap.size (Old.start s) hz0 S_cs p e ha hc hk s m _ below hf ((Spec.applies_iff_loose hf).mp happ).1 ⟨rfl, State.Warmed39.refl s, rfl, hCH, fun _ q => nomatch q⟩ trivial
  refine ⟨n, _, h1, h2, h3, hpost _ _ _ _ _ _ ⟨Cond.after_iff.mpr rfl, Cond.after_iff.mpr (eq_i res_at (Term.int_eval (1)) rfl), trivial⟩ ⟨hq.1, hq.2.1, hq.2.2.1, (hq.2.2.2.sift fun y hy => Or.inr (N y hy)).mono (by decide) (by decide)⟩⟩
theorem main_1_1 : Claimed_1_1 := comes_1 fun _ _ _ _ _ _ h hF => ⟨h.1, hF⟩
theorem main_1_2 : Claimed_1_2 := comes_1 fun _ _ _ _ _ _ h hF => ⟨h.2.1, hF⟩
end Jvm.Pilot.@@N@@
namespace Jvm.Pilot.@@N@@
open Jvm Jvm.ClassFile Sem Op Lib Jvm.Free Jvm.Stand Jvm.Pilot.@@N@@.Jvm.D
/-! MADE BY PROGRAM (witnessworld.py) out of the Statement's table words and the real class files: 25 classes; the members and pool entries that the words name. The judged class is class 1, her method 4. -/
namespace start1
open Jvm.ClassFile
def u (s : String) : CpInfo := .utf8 (stringToUtf16 s)
/-- a pool by its gaps: so many unusable entries, then the entry; so many at the end -/
def gap : Nat → List CpInfo → List CpInfo
  | 0, r => r
  | n + 1, r => .unusable :: gap n r
def poolList (es : List (Nat × CpInfo)) (last : Nat) : List CpInfo := es.foldr (fun e r => gap e.1 (e.2 :: r)) (gap last [])
def pool (es : List (Nat × CpInfo)) (last : Nat) : Array CpInfo := ⟨poolList es last⟩
def fileOf (pool : Array CpInfo) (this : Nat) (attrs : Array Attribute := #[]) (ms : Array MethodInfo := #[]) (fl : Nat := 33) (sup : Nat := 0) (ifs : Array Nat := #[]) (fds : Array FieldInfo := #[]) : ClassFile where
  minorVersion := 0
  majorVersion := 65
  constantPool := pool
  accessFlags := fl
  thisClass := this
  superClass := sup
  interfaces := ifs
  fields := fds
  methods := ms
  attributes := attrs
def plain (name : String) (sup : Option ClassId) : Class where
  name := name
  kind := .ordinary
  loader := none
  accessFlags := 33
  super := sup
  interfaces := #[]
  cf := none
  fields := #[]
  methods := #[]
  instanceTypes := #[]
  staticTypes := #[]
  resolved := #[]
  callSites := []
  init := .initialized
  statics := none
  mirror := none

def pool0 : Array CpInfo := pool [(5, u "<init>"), (0, u "()V"), (1, .class_ 10), (1, u "java/lang/Object")] 113

def k0c0 : Code := { maxStack := 0, maxLocals := 1, code := object_method_1_code, exceptionTable := #[], attributes := #[] }
def k0m0 : Method := { name := "<init>", desc := "()V", sig := { parameters := [], returnType := none }, accessFlags := 1, code := some k0c0 }
/-- java/lang/Object -/
def k0 : Class := { plain "java/lang/Object" none with
  accessFlags := 33
  interfaces := #[]
  cf := some (fileOf pool0 8 #[] #[{ accessFlags := 1, nameIndex := 5, descriptorIndex := 6, attributes := #[] }] 33 0 #[] #[])
  fields := #[]
  methods := #[k0m0]
  instanceTypes := #[]
  staticTypes := #[]
  resolved := Array.replicate 124 none
  statics := none }

def pool1 : Array CpInfo := pool [(2, .class_ 4), (1, u "java/lang/Object"), (0, u "<init>"), (0, u "()V"), (0, .string 8), (0, u ""), (0, .methodref 10 11), (0, .class_ 12), (0, .nameAndType 13 14), (0, u "java/lang/String"), (0, u "valueOf"), (0, u "(C)Ljava/lang/String;"), (0, .methodref 10 16), (0, .nameAndType 5 17), (0, u "([C)V"), (0, .methodref 19 20), (0, .class_ 21), (0, .nameAndType 22 23), (0, u "com/example/keelson/keelson/cluster/BallotCompareToPinLaw"), (0, u "sign"), (0, u "(J)I"), (0, .methodref 19 25), (0, .nameAndType 26 27), (0, u "make"), (0, u "(ICC)Ljava/lang/String;"), (0, .class_ 29), (0, u "com/example/keelson/keelson/cluster/Ballot"), (0, .methodref 28 31), (0, .nameAndType 5 32), (0, u "(JLjava/lang/String;)V"), (0, .methodref 19 34), (0, .nameAndType 35 36), (0, u "lex"), (0, u "(IIIIII)I"), (0, .methodref 28 38), (0, .nameAndType 39 40), (0, u "compareTo"), (0, u "(Lcom/example/keelson/keelson/cluster/Ballot;)I"), (3, u "law"), (0, u "(JJIII)Z")] 2

def k1m0 : Method := { name := "<init>", desc := "()V", sig := { parameters := [], returnType := none }, accessFlags := 1, code := none }
def k1c1 : Code := { maxStack := 4, maxLocals := 2, code := method_2_code, exceptionTable := #[], attributes := #[] }
def k1m1 : Method := { name := "sign", desc := "(J)I", sig := { parameters := [.long], returnType := some .int }, accessFlags := 10, code := some k1c1 }
def k1c2 : Code := { maxStack := 3, maxLocals := 4, code := method_3_code, exceptionTable := #[], attributes := #[] }
def k1m2 : Method := { name := "make", desc := "(ICC)Ljava/lang/String;", sig := { parameters := [.int, .char, .char], returnType := some (.object "java/lang/String") }, accessFlags := 10, code := some k1c2 }
def k1c3 : Code := { maxStack := 2, maxLocals := 6, code := method_4_code, exceptionTable := #[], attributes := #[] }
def k1m3 : Method := { name := "lex", desc := "(IIIIII)I", sig := { parameters := [.int, .int, .int, .int, .int, .int], returnType := some .int }, accessFlags := 10, code := some k1c3 }
def k1c4 : Code := { maxStack := 6, maxLocals := 23, code := code, exceptionTable := #[], attributes := #[] }
def k1m4 : Method := { name := "law", desc := "(JJIII)Z", sig := { parameters := [.long, .long, .int, .int, .int], returnType := some .boolean }, accessFlags := 9, code := some k1c4 }
/-- com/example/keelson/keelson/cluster/BallotCompareToPinLaw -/
def k1 : Class := { plain "com/example/keelson/keelson/cluster/BallotCompareToPinLaw" (some 0) with
  accessFlags := 49
  interfaces := #[]
  cf := some (fileOf pool1 19 #[] #[{ accessFlags := 1, nameIndex := 5, descriptorIndex := 6, attributes := #[] }, { accessFlags := 10, nameIndex := 22, descriptorIndex := 23, attributes := #[] }, { accessFlags := 10, nameIndex := 26, descriptorIndex := 27, attributes := #[] }, { accessFlags := 10, nameIndex := 35, descriptorIndex := 36, attributes := #[] }, { accessFlags := 9, nameIndex := 44, descriptorIndex := 45, attributes := #[] }] 49 2 #[] #[])
  fields := #[]
  methods := #[k1m0, k1m1, k1m2, k1m3, k1m4]
  instanceTypes := #[]
  staticTypes := #[]
  resolved := Array.replicate 48 none
  statics := none }

def pool2 : Array CpInfo := pool [(1, .class_ 2), (0, u "java/io/Serializable"), (0, .class_ 4), (0, u "java/lang/Object")] 2

/-- java/io/Serializable -/
def k2 : Class := { plain "java/io/Serializable" (some 0) with
  accessFlags := 1537
  interfaces := #[]
  cf := some (fileOf pool2 1 #[] #[] 1537 3 #[] #[])
  fields := #[]
  methods := #[]
  instanceTypes := #[]
  staticTypes := #[]
  resolved := Array.replicate 7 none
  statics := none }

def pool3 : Array CpInfo := pool [(1, .class_ 2), (0, u "java/lang/Comparable"), (0, .class_ 4), (0, u "java/lang/Object")] 7

/-- java/lang/Comparable -/
def k3 : Class := { plain "java/lang/Comparable" (some 0) with
  accessFlags := 1537
  interfaces := #[]
  cf := some (fileOf pool3 1 #[] #[] 1537 3 #[] #[])
  fields := #[]
  methods := #[]
  instanceTypes := #[]
  staticTypes := #[]
  resolved := Array.replicate 12 none
  statics := none }

def pool4 : Array CpInfo := pool [(2, .class_ 4), (1, u "java/lang/CharSequence"), (42, .class_ 48), (0, u "java/lang/CharSequence$1CodePointIterator"), (10, .class_ 60), (0, u "java/lang/CharSequence$1CharIterator"), (5, .class_ 67), (0, u "java/lang/Object")] 63

/-- java/lang/CharSequence -/
def k4 : Class := { plain "java/lang/CharSequence" (some 0) with
  accessFlags := 1537
  interfaces := #[]
  cf := some (fileOf pool4 2 #[.nestMembers #[47, 59]] #[] 1537 66 #[] #[])
  fields := #[]
  methods := #[]
  instanceTypes := #[]
  staticTypes := #[]
  resolved := Array.replicate 131 none
  statics := none }

def pool5 : Array CpInfo := pool [(1, .class_ 2), (0, u "java/lang/constant/Constable"), (0, .class_ 4), (0, u "java/lang/Object")] 6

/-- java/lang/constant/Constable -/
def k5 : Class := { plain "java/lang/constant/Constable" (some 0) with
  accessFlags := 1537
  interfaces := #[]
  cf := some (fileOf pool5 1 #[] #[] 1537 3 #[] #[])
  fields := #[]
  methods := #[]
  instanceTypes := #[]
  staticTypes := #[]
  resolved := Array.replicate 11 none
  statics := none }

def pool6 : Array CpInfo := pool [(1, .class_ 2), (0, u "java/lang/constant/ConstantDesc"), (0, .class_ 4), (0, u "java/lang/Object")] 32

/-- java/lang/constant/ConstantDesc -/
def k6 : Class := { plain "java/lang/constant/ConstantDesc" (some 0) with
  accessFlags := 1537
  interfaces := #[]
  cf := some (fileOf pool6 1 #[] #[] 1537 3 #[] #[])
  fields := #[]
  methods := #[]
  instanceTypes := #[]
  staticTypes := #[]
  resolved := Array.replicate 37 none
  statics := none }

def pool7 : Array CpInfo := pool [(1, .methodref 2 3), (0, .class_ 4), (0, .nameAndType 5 6), (0, u "java/lang/Object"), (0, u "<init>"), (0, u "()V"), (2, .fieldref 10 11), (0, .class_ 12), (0, .nameAndType 13 14), (0, u "java/lang/String"), (0, u "value"), (0, u "[B"), (0, .fieldref 10 16), (0, .nameAndType 17 18), (0, u "coder"), (0, u "B"), (2, u "hash"), (0, u "I"), (2, u "hashIsZero"), (0, u "Z"), (0, .methodref 10 28), (0, .nameAndType 5 29), (0, u "([CIILjava/lang/Void;)V"), (8, .fieldref 10 39), (0, .nameAndType 40 26), (0, u "COMPACT_STRINGS"), (1, .class_ 44), (1, u "java/lang/StringUTF16"), (0, u "compress"), (1, .methodref 42 48), (0, .nameAndType 49 50), (0, u "coderFromArrayLen"), (0, u "([BI)B"), (2, u "toBytes"), (53, .class_ 109), (1, u "java/lang/StringLatin1"), (67, .methodref 42 178), (0, .nameAndType 45 179), (0, u "([CII)[B"), (29, .methodref 10 210), (0, .nameAndType 5 211), (0, u "([BB)V"), (123, .methodref 10 336), (0, .nameAndType 17 337), (0, u "()B"), (31, u "(C)Z"), (205, .class_ 576), (0, u "java/lang/CharSequence"), (9, .methodref 107 587), (0, .nameAndType 588 589), (0, u "compareTo"), (0, u "([B[B)I"), (9, u "CASE_INSENSITIVE_ORDER"), (0, u "Ljava/util/Comparator;"), (112, u "(Ljava/lang/String;)I"), (68, u "valueOf"), (0, u "(C)Ljava/lang/String;"), (226, u "([C)V"), (4, .methodref 107 1016), (0, .nameAndType 1017 369), (0, u "canEncode"), (0, .methodref 107 1019), (0, .nameAndType 53 1020), (0, u "(C)[B"), (80, u "serialPersistentFields"), (0, u "[Ljava/io/ObjectStreamField;"), (0, .class_ 1104), (0, u "java/lang/String$CaseInsensitiveComparator"), (1, .class_ 1107), (0, u "java/io/Serializable"), (0, .class_ 1109), (0, u "java/lang/Comparable"), (0, .class_ 1111), (0, u "java/lang/constant/Constable"), (0, .class_ 1113), (0, u "java/lang/constant/ConstantDesc"), (2, u "serialVersionUID"), (0, u "J"), (3, u "REPL"), (0, u "C"), (2, u "LATIN1"), (1, u "UTF16")] 323

def k7m0 : Method := { name := "<init>", desc := "()V", sig := { parameters := [], returnType := none }, accessFlags := 1, code := none }
def k7c1 : Code := { maxStack := 5, maxLocals := 2, code := jdk_42_method_3_code, exceptionTable := #[], attributes := #[] }
def k7m1 : Method := { name := "<init>", desc := "([C)V", sig := { parameters := [(.array .char)], returnType := none }, accessFlags := 1, code := some k7c1 }
def k7c2 : Code := { maxStack := 2, maxLocals := 5, code := jdk_42_method_71_code, exceptionTable := #[], attributes := #[] }
def k7m2 : Method := { name := "compareTo", desc := "(Ljava/lang/String;)I", sig := { parameters := [(.object "java/lang/String")], returnType := some .int }, accessFlags := 1, code := some k7c2 }
def k7c3 : Code := { maxStack := 4, maxLocals := 1, code := jdk_42_method_139_code, exceptionTable := #[], attributes := #[] }
def k7m3 : Method := { name := "valueOf", desc := "(C)Ljava/lang/String;", sig := { parameters := [.char], returnType := some (.object "java/lang/String") }, accessFlags := 9, code := some k7c3 }
def k7c4 : Code := { maxStack := 4, maxLocals := 6, code := jdk_42_method_149_code, exceptionTable := #[], attributes := #[] }
def k7m4 : Method := { name := "<init>", desc := "([CIILjava/lang/Void;)V", sig := { parameters := [(.array .char), .int, .int, (.object "java/lang/Void")], returnType := none }, accessFlags := 2, code := some k7c4 }
def k7c5 : Code := { maxStack := 2, maxLocals := 3, code := jdk_42_method_151_code, exceptionTable := #[], attributes := #[] }
def k7m5 : Method := { name := "<init>", desc := "([BB)V", sig := { parameters := [(.array .byte), .byte], returnType := none }, accessFlags := 0, code := some k7c5 }
def k7c6 : Code := { maxStack := 1, maxLocals := 1, code := jdk_42_method_152_code, exceptionTable := #[], attributes := #[] }
def k7m6 : Method := { name := "coder", desc := "()B", sig := { parameters := [], returnType := some .byte }, accessFlags := 0, code := some k7c6 }
/-- java/lang/String -/
def k7 : Class := { plain "java/lang/String" (some 0) with
  accessFlags := 49
  interfaces := #[2, 3, 4, 5, 6]
  cf := some (fileOf pool7 10 #[.nestMembers #[1103]] #[{ accessFlags := 1, nameIndex := 5, descriptorIndex := 6, attributes := #[] }, { accessFlags := 1, nameIndex := 5, descriptorIndex := 1010, attributes := #[] }, { accessFlags := 1, nameIndex := 588, descriptorIndex := 713, attributes := #[] }, { accessFlags := 9, nameIndex := 782, descriptorIndex := 783, attributes := #[] }, { accessFlags := 2, nameIndex := 5, descriptorIndex := 29, attributes := #[] }, { accessFlags := 0, nameIndex := 5, descriptorIndex := 211, attributes := #[] }, { accessFlags := 0, nameIndex := 17, descriptorIndex := 337, attributes := #[] }] 49 2 #[1106, 1108, 575, 1110, 1112] #[{ accessFlags := 18, nameIndex := 13, descriptorIndex := 14, attributes := #[] }, { accessFlags := 18, nameIndex := 17, descriptorIndex := 18, attributes := #[] }, { accessFlags := 2, nameIndex := 21, descriptorIndex := 22, attributes := #[] }, { accessFlags := 2, nameIndex := 25, descriptorIndex := 26, attributes := #[] }, { accessFlags := 26, nameIndex := 1116, descriptorIndex := 1117, attributes := #[] }, { accessFlags := 24, nameIndex := 40, descriptorIndex := 26, attributes := #[] }, { accessFlags := 26, nameIndex := 1101, descriptorIndex := 1102, attributes := #[] }, { accessFlags := 26, nameIndex := 1121, descriptorIndex := 1122, attributes := #[] }, { accessFlags := 25, nameIndex := 599, descriptorIndex := 600, attributes := #[] }, { accessFlags := 24, nameIndex := 1125, descriptorIndex := 18, attributes := #[] }, { accessFlags := 24, nameIndex := 1127, descriptorIndex := 18, attributes := #[] }])
  fields := #[{ name := "value", type := (.array .byte), accessFlags := 18, slot := 0, constantValue := 0 }, { name := "coder", type := .byte, accessFlags := 18, slot := 1, constantValue := 0 }, { name := "hash", type := .int, accessFlags := 2, slot := 2, constantValue := 0 }, { name := "hashIsZero", type := .boolean, accessFlags := 2, slot := 3, constantValue := 0 }, { name := "serialVersionUID", type := .long, accessFlags := 26, slot := 0, constantValue := 0 }, { name := "COMPACT_STRINGS", type := .boolean, accessFlags := 24, slot := 1, constantValue := 0 }, { name := "serialPersistentFields", type := (.array (.object "java/io/ObjectStreamField")), accessFlags := 26, slot := 2, constantValue := 0 }, { name := "REPL", type := .char, accessFlags := 26, slot := 3, constantValue := 0 }, { name := "CASE_INSENSITIVE_ORDER", type := (.object "java/util/Comparator"), accessFlags := 25, slot := 4, constantValue := 0 }, { name := "LATIN1", type := .byte, accessFlags := 24, slot := 5, constantValue := 0 }, { name := "UTF16", type := .byte, accessFlags := 24, slot := 6, constantValue := 0 }]
  methods := #[k7m0, k7m1, k7m2, k7m3, k7m4, k7m5, k7m6]
  instanceTypes := #[(.array .byte), .byte, .int, .boolean]
  staticTypes := #[.long, .boolean, (.array (.object "java/io/ObjectStreamField")), .char, (.object "java/util/Comparator"), .byte, .byte]
  resolved := Array.replicate 1451 none
  statics := some 0 }

def pool8 : Array CpInfo := pool [(1, .methodref 2 3), (0, .class_ 4), (0, .nameAndType 5 6), (0, u "java/lang/Object"), (0, u "<init>"), (0, u "()V"), (0, .class_ 8), (0, u "java/lang/Record")] 13

def k8c0 : Code := { maxStack := 1, maxLocals := 1, code := jdk_30_method_1_code, exceptionTable := #[], attributes := #[] }
def k8m0 : Method := { name := "<init>", desc := "()V", sig := { parameters := [], returnType := none }, accessFlags := 4, code := some k8c0 }
/-- java/lang/Record -/
def k8 : Class := { plain "java/lang/Record" (some 0) with
  accessFlags := 1057
  interfaces := #[]
  cf := some (fileOf pool8 7 #[] #[{ accessFlags := 4, nameIndex := 5, descriptorIndex := 6, attributes := #[] }] 1057 2 #[] #[])
  fields := #[]
  methods := #[k8m0]
  instanceTypes := #[]
  staticTypes := #[]
  resolved := Array.replicate 22 none
  statics := none }

def pool9 : Array CpInfo := pool [(1, .methodref 2 3), (0, .class_ 4), (0, .nameAndType 5 6), (0, u "java/lang/Record"), (0, u "<init>"), (0, u "()V"), (0, .string 8), (0, u "proposer"), (0, .methodref 10 11), (0, .class_ 12), (0, .nameAndType 13 14), (0, u "java/util/Objects"), (0, u "requireNonNull"), (0, u "(Ljava/lang/Object;Ljava/lang/String;)Ljava/lang/Object;"), (0, .fieldref 16 17), (0, .class_ 18), (0, .nameAndType 19 20), (0, u "com/example/keelson/keelson/cluster/Ballot"), (0, u "round"), (0, u "J"), (0, .fieldref 16 22), (0, .nameAndType 8 23), (0, u "Ljava/lang/String;"), (0, .methodref 25 26), (0, .class_ 27), (0, .nameAndType 28 29), (0, u "java/lang/Long"), (0, u "compare"), (0, u "(JJ)I"), (0, .methodref 31 32), (0, .class_ 33), (0, .nameAndType 34 35), (0, u "java/lang/String"), (0, u "compareTo"), (0, u "(Ljava/lang/String;)I"), (2, u "(Lcom/example/keelson/keelson/cluster/Ballot;)I"), (11, .class_ 51), (0, u "java/lang/Comparable"), (0, u "(JLjava/lang/String;)V")] 32

def k9c0 : Code := { maxStack := 3, maxLocals := 4, code := prog_19_method_1_code, exceptionTable := #[], attributes := #[] }
def k9m0 : Method := { name := "<init>", desc := "(JLjava/lang/String;)V", sig := { parameters := [.long, (.object "java/lang/String")], returnType := none }, accessFlags := 0, code := some k9c0 }
def k9c1 : Code := { maxStack := 4, maxLocals := 3, code := prog_19_method_2_code, exceptionTable := #[], attributes := #[] }
def k9m1 : Method := { name := "compareTo", desc := "(Lcom/example/keelson/keelson/cluster/Ballot;)I", sig := { parameters := [(.object "com/example/keelson/keelson/cluster/Ballot")], returnType := some .int }, accessFlags := 1, code := some k9c1 }
/-- com/example/keelson/keelson/cluster/Ballot -/
def k9 : Class := { plain "com/example/keelson/keelson/cluster/Ballot" (some 8) with
  accessFlags := 48
  interfaces := #[3]
  cf := some (fileOf pool9 16 #[] #[{ accessFlags := 0, nameIndex := 5, descriptorIndex := 52, attributes := #[] }, { accessFlags := 1, nameIndex := 34, descriptorIndex := 38, attributes := #[] }] 48 2 #[50] #[{ accessFlags := 18, nameIndex := 19, descriptorIndex := 20, attributes := #[] }, { accessFlags := 18, nameIndex := 8, descriptorIndex := 23, attributes := #[] }])
  fields := #[{ name := "round", type := .long, accessFlags := 18, slot := 0, constantValue := 0 }, { name := "proposer", type := (.object "java/lang/String"), accessFlags := 18, slot := 1, constantValue := 0 }]
  methods := #[k9m0, k9m1]
  instanceTypes := #[.long, (.object "java/lang/String")]
  staticTypes := #[]
  resolved := Array.replicate 85 none
  statics := none }

def pool10 : Array CpInfo := pool [(2, .class_ 4), (1, u "java/lang/Object"), (0, u "<init>"), (0, u "()V"), (35, .class_ 44), (1, u "java/util/Objects"), (0, u "requireNonNull"), (48, u "(Ljava/lang/Object;Ljava/lang/String;)Ljava/lang/Object;")] 89

def k10m0 : Method := { name := "<init>", desc := "()V", sig := { parameters := [], returnType := none }, accessFlags := 2, code := none }
def k10c1 : Code := { maxStack := 3, maxLocals := 2, code := jdk_31_method_11_code, exceptionTable := #[], attributes := #[] }
def k10m1 : Method := { name := "requireNonNull", desc := "(Ljava/lang/Object;Ljava/lang/String;)Ljava/lang/Object;", sig := { parameters := [(.object "java/lang/Object"), (.object "java/lang/String")], returnType := some (.object "java/lang/Object") }, accessFlags := 9, code := some k10c1 }
/-- java/util/Objects -/
def k10 : Class := { plain "java/util/Objects" (some 0) with
  accessFlags := 49
  interfaces := #[]
  cf := some (fileOf pool10 42 #[] #[{ accessFlags := 2, nameIndex := 5, descriptorIndex := 6, attributes := #[] }, { accessFlags := 9, nameIndex := 45, descriptorIndex := 94, attributes := #[] }] 49 2 #[] #[])
  fields := #[]
  methods := #[k10m0, k10m1]
  instanceTypes := #[]
  staticTypes := #[]
  resolved := Array.replicate 184 none
  statics := none }

def pool11 : Array CpInfo := pool [(2, .class_ 4), (1, u "java/lang/Object"), (0, u "<init>"), (0, u "()V"), (1, .class_ 10), (1, u "java/lang/Number"), (2, .class_ 14), (0, u "java/io/Serializable"), (0, u "serialVersionUID"), (0, u "J")] 20

def k11m0 : Method := { name := "<init>", desc := "()V", sig := { parameters := [], returnType := none }, accessFlags := 1, code := none }
/-- java/lang/Number -/
def k11 : Class := { plain "java/lang/Number" (some 0) with
  accessFlags := 1057
  interfaces := #[2]
  cf := some (fileOf pool11 8 #[] #[{ accessFlags := 1, nameIndex := 5, descriptorIndex := 6, attributes := #[] }] 1057 2 #[13] #[{ accessFlags := 26, nameIndex := 15, descriptorIndex := 16, attributes := #[] }])
  fields := #[{ name := "serialVersionUID", type := .long, accessFlags := 26, slot := 0, constantValue := 0 }]
  methods := #[k11m0]
  instanceTypes := #[]
  staticTypes := #[.long]
  resolved := Array.replicate 37 none
  statics := none }

def pool12 : Array CpInfo := pool [(1, .class_ 2), (0, u "java/lang/Long"), (232, .class_ 237), (1, u "java/lang/Long$LongCache"), (33, .class_ 272), (0, u "java/lang/Number"), (2, u "value"), (0, u "J"), (27, u "compare"), (0, u "(JJ)I"), (55, u "TYPE"), (0, u "Ljava/lang/Class;"), (0, .class_ 364), (0, u "java/lang/Comparable"), (0, .class_ 366), (0, u "java/lang/constant/Constable"), (0, .class_ 368), (0, u "java/lang/constant/ConstantDesc"), (0, u "MIN_VALUE"), (1, u "MAX_VALUE"), (4, u "SIZE"), (0, u "I"), (1, u "BYTES"), (1, u "serialVersionUID")] 142

def k12c0 : Code := { maxStack := 4, maxLocals := 4, code := jdk_35_method_42_code, exceptionTable := #[], attributes := #[] }
def k12m0 : Method := { name := "compare", desc := "(JJ)I", sig := { parameters := [.long, .long], returnType := some .int }, accessFlags := 9, code := some k12c0 }
/-- java/lang/Long -/
def k12 : Class := { plain "java/lang/Long" (some 11) with
  accessFlags := 49
  interfaces := #[3, 5, 6]
  cf := some (fileOf pool12 1 #[.nestMembers #[235]] #[{ accessFlags := 9, nameIndex := 304, descriptorIndex := 305, attributes := #[] }] 49 271 #[363, 365, 367] #[{ accessFlags := 25, nameIndex := 369, descriptorIndex := 276, attributes := #[] }, { accessFlags := 25, nameIndex := 371, descriptorIndex := 276, attributes := #[] }, { accessFlags := 25, nameIndex := 361, descriptorIndex := 362, attributes := #[] }, { accessFlags := 18, nameIndex := 275, descriptorIndex := 276, attributes := #[] }, { accessFlags := 25, nameIndex := 376, descriptorIndex := 377, attributes := #[] }, { accessFlags := 25, nameIndex := 379, descriptorIndex := 377, attributes := #[] }, { accessFlags := 26, nameIndex := 381, descriptorIndex := 276, attributes := #[] }])
  fields := #[{ name := "MIN_VALUE", type := .long, accessFlags := 25, slot := 0, constantValue := 0 }, { name := "MAX_VALUE", type := .long, accessFlags := 25, slot := 1, constantValue := 0 }, { name := "TYPE", type := (.object "java/lang/Class"), accessFlags := 25, slot := 2, constantValue := 0 }, { name := "value", type := .long, accessFlags := 18, slot := 0, constantValue := 0 }, { name := "SIZE", type := .int, accessFlags := 25, slot := 3, constantValue := 0 }, { name := "BYTES", type := .int, accessFlags := 25, slot := 4, constantValue := 0 }, { name := "serialVersionUID", type := .long, accessFlags := 26, slot := 5, constantValue := 0 }]
  methods := #[k12m0]
  instanceTypes := #[.long]
  staticTypes := #[.long, .long, (.object "java/lang/Class"), .int, .int, .long]
  resolved := Array.replicate 524 none
  statics := none }

def pool13 : Array CpInfo := pool [(4, .class_ 6), (1, u "java/lang/Object"), (0, u "<init>"), (0, u "()V"), (5, .class_ 16), (1, u "java/lang/StringLatin1"), (17, .methodref 14 35), (0, .nameAndType 36 37), (0, u "compareTo"), (0, u "([B[BII)I"), (0, .methodref 39 40), (0, .class_ 41), (0, .nameAndType 42 43), (0, u "java/lang/Math"), (0, u "min"), (0, u "(II)I"), (0, .methodref 45 46), (0, .class_ 47), (0, .nameAndType 48 49), (0, u "jdk/internal/util/ArraysSupport"), (0, u "mismatch"), (0, u "([B[BI)I"), (0, .methodref 14 51), (0, .nameAndType 52 53), (0, u "getChar"), (0, u "([BI)C"), (36, u "canEncode"), (14, u "(C)Z"), (15, u "$assertionsDisabled"), (0, u "Z"), (98, .class_ 223), (1, u "java/lang/StringLatin1$LinesSpliterator"), (63, u "([B[B)I"), (92, u "toBytes"), (1, u "(C)[B"), (7, .class_ 391), (0, u "java/lang/StringLatin1$CharsSpliterator")] 3

def k13m0 : Method := { name := "<init>", desc := "()V", sig := { parameters := [], returnType := none }, accessFlags := 0, code := none }
def k13c1 : Code := { maxStack := 2, maxLocals := 1, code := jdk_43_method_3_code, exceptionTable := #[], attributes := #[] }
def k13m1 : Method := { name := "canEncode", desc := "(C)Z", sig := { parameters := [.char], returnType := some .boolean }, accessFlags := 9, code := some k13c1 }
def k13c2 : Code := { maxStack := 4, maxLocals := 4, code := jdk_43_method_14_code, exceptionTable := #[], attributes := #[] }
def k13m2 : Method := { name := "compareTo", desc := "([B[B)I", sig := { parameters := [(.array .byte), (.array .byte)], returnType := some .int }, accessFlags := 9, code := some k13c2 }
def k13c3 : Code := { maxStack := 3, maxLocals := 6, code := jdk_43_method_15_code, exceptionTable := #[], attributes := #[] }
def k13m3 : Method := { name := "compareTo", desc := "([B[BII)I", sig := { parameters := [(.array .byte), (.array .byte), .int, .int], returnType := some .int }, accessFlags := 9, code := some k13c3 }
def k13c4 : Code := { maxStack := 2, maxLocals := 2, code := jdk_43_method_44_code, exceptionTable := #[], attributes := #[] }
def k13m4 : Method := { name := "getChar", desc := "([BI)C", sig := { parameters := [(.array .byte), .int], returnType := some .char }, accessFlags := 9, code := some k13c4 }
def k13c5 : Code := { maxStack := 4, maxLocals := 1, code := jdk_43_method_46_code, exceptionTable := #[], attributes := #[] }
def k13m5 : Method := { name := "toBytes", desc := "(C)[B", sig := { parameters := [.char], returnType := some (.array .byte) }, accessFlags := 9, code := some k13c5 }
/-- java/lang/StringLatin1 -/
def k13 : Class := { plain "java/lang/StringLatin1" (some 0) with
  accessFlags := 48
  interfaces := #[]
  cf := some (fileOf pool13 14 #[.nestMembers #[390, 221]] #[{ accessFlags := 0, nameIndex := 7, descriptorIndex := 8, attributes := #[] }, { accessFlags := 9, nameIndex := 90, descriptorIndex := 105, attributes := #[] }, { accessFlags := 9, nameIndex := 36, descriptorIndex := 287, attributes := #[] }, { accessFlags := 9, nameIndex := 36, descriptorIndex := 37, attributes := #[] }, { accessFlags := 9, nameIndex := 52, descriptorIndex := 53, attributes := #[] }, { accessFlags := 9, nameIndex := 380, descriptorIndex := 382, attributes := #[] }] 48 4 #[] #[{ accessFlags := 4120, nameIndex := 121, descriptorIndex := 122, attributes := #[] }])
  fields := #[{ name := "$assertionsDisabled", type := .boolean, accessFlags := 4120, slot := 0, constantValue := 0 }]
  methods := #[k13m0, k13m1, k13m2, k13m3, k13m4, k13m5]
  instanceTypes := #[]
  staticTypes := #[.boolean]
  resolved := Array.replicate 395 none
  statics := none }

def pool14 : Array CpInfo := pool [(1, .class_ 2), (0, u "java/lang/Math"), (1, .class_ 6), (1, u "java/lang/Object"), (0, u "<init>"), (0, u "()V"), (89, .class_ 100), (1, u "java/lang/Math$RandomNumberGeneratorHolder"), (71, u "negativeZeroFloatBits"), (0, u "J"), (2, u "negativeZeroDoubleBits"), (24, u "min"), (43, u "$assertionsDisabled"), (0, u "Z"), (88, u "(II)I"), (2, u "twoToTheDoubleScaleDown"), (0, u "D"), (4, u "twoToTheDoubleScaleUp"), (9, u "E"), (3, u "PI"), (2, u "TAU"), (2, u "DEGREES_TO_RADIANS"), (0, u "RADIANS_TO_DEGREES")] 94

def k14m0 : Method := { name := "<init>", desc := "()V", sig := { parameters := [], returnType := none }, accessFlags := 2, code := none }
def k14c1 : Code := { maxStack := 2, maxLocals := 2, code := jdk_29_method_69_code, exceptionTable := #[], attributes := #[] }
def k14m1 : Method := { name := "min", desc := "(II)I", sig := { parameters := [.int, .int], returnType := some .int }, accessFlags := 9, code := some k14c1 }
/-- java/lang/Math -/
def k14 : Class := { plain "java/lang/Math" (some 0) with
  accessFlags := 49
  interfaces := #[]
  cf := some (fileOf pool14 1 #[.nestMembers #[98]] #[{ accessFlags := 2, nameIndex := 7, descriptorIndex := 8, attributes := #[] }, { accessFlags := 9, nameIndex := 201, descriptorIndex := 335, attributes := #[] }] 49 4 #[] #[{ accessFlags := 25, nameIndex := 354, descriptorIndex := 339, attributes := #[] }, { accessFlags := 25, nameIndex := 358, descriptorIndex := 339, attributes := #[] }, { accessFlags := 25, nameIndex := 361, descriptorIndex := 339, attributes := #[] }, { accessFlags := 26, nameIndex := 364, descriptorIndex := 339, attributes := #[] }, { accessFlags := 26, nameIndex := 365, descriptorIndex := 339, attributes := #[] }, { accessFlags := 26, nameIndex := 172, descriptorIndex := 173, attributes := #[] }, { accessFlags := 26, nameIndex := 176, descriptorIndex := 173, attributes := #[] }, { accessFlags := 8, nameIndex := 344, descriptorIndex := 339, attributes := #[] }, { accessFlags := 8, nameIndex := 338, descriptorIndex := 339, attributes := #[] }, { accessFlags := 4120, nameIndex := 245, descriptorIndex := 246, attributes := #[] }])
  fields := #[{ name := "E", type := .double, accessFlags := 25, slot := 0, constantValue := 0 }, { name := "PI", type := .double, accessFlags := 25, slot := 1, constantValue := 0 }, { name := "TAU", type := .double, accessFlags := 25, slot := 2, constantValue := 0 }, { name := "DEGREES_TO_RADIANS", type := .double, accessFlags := 26, slot := 3, constantValue := 0 }, { name := "RADIANS_TO_DEGREES", type := .double, accessFlags := 26, slot := 4, constantValue := 0 }, { name := "negativeZeroFloatBits", type := .long, accessFlags := 26, slot := 5, constantValue := 0 }, { name := "negativeZeroDoubleBits", type := .long, accessFlags := 26, slot := 6, constantValue := 0 }, { name := "twoToTheDoubleScaleUp", type := .double, accessFlags := 8, slot := 7, constantValue := 0 }, { name := "twoToTheDoubleScaleDown", type := .double, accessFlags := 8, slot := 8, constantValue := 0 }, { name := "$assertionsDisabled", type := .boolean, accessFlags := 4120, slot := 9, constantValue := 0 }]
  methods := #[k14m0, k14m1]
  instanceTypes := #[]
  staticTypes := #[.double, .double, .double, .double, .double, .long, .long, .double, .double, .boolean]
  resolved := Array.replicate 460 none
  statics := none }

def pool15 : Array CpInfo := pool [(9, u "<init>"), (6, .class_ 18), (1, u "java/lang/Object"), (0, u "()V"), (1, .class_ 23), (1, u "jdk/internal/util/ArraysSupport"), (0, u "LOG2_ARRAY_LONG_INDEX_SCALE"), (0, u "I"), (2, u "U"), (0, u "Ljdk/internal/misc/Unsafe;"), (8, u "BIG_ENDIAN"), (0, u "Z"), (8, u "LOG2_BYTE_BIT_SIZE"), (4, u "LOG2_ARRAY_INT_INDEX_SCALE"), (54, u "JLA"), (0, u "Ljdk/internal/access/JavaLangAccess;"), (11, u "LOG2_ARRAY_BOOLEAN_INDEX_SCALE"), (9, u "LOG2_ARRAY_BYTE_INDEX_SCALE"), (5, u "LOG2_ARRAY_CHAR_INDEX_SCALE"), (5, u "LOG2_ARRAY_SHORT_INDEX_SCALE"), (5, u "mismatch"), (12, u "LOG2_ARRAY_FLOAT_INDEX_SCALE"), (24, u "LOG2_ARRAY_DOUBLE_INDEX_SCALE"), (89, u "T_BOOLEAN"), (2, u "T_CHAR"), (1, u "T_FLOAT"), (1, u "T_DOUBLE"), (1, u "T_BYTE"), (1, u "T_SHORT"), (1, u "T_INT"), (1, u "T_LONG"), (1, u "SOFT_MAX_ARRAY_LENGTH"), (41, u "([B[BI)I")] 41

def k15m0 : Method := { name := "<init>", desc := "()V", sig := { parameters := [], returnType := none }, accessFlags := 2, code := none }
def k15c1 : Code := { maxStack := 8, maxLocals := 4, code := jdk_48_method_13_code, exceptionTable := #[], attributes := #[] }
def k15m1 : Method := { name := "mismatch", desc := "([B[BI)I", sig := { parameters := [(.array .byte), (.array .byte), .int], returnType := some .int }, accessFlags := 9, code := some k15c1 }
/-- jdk/internal/util/ArraysSupport -/
def k15 : Class := { plain "jdk/internal/util/ArraysSupport" (some 0) with
  accessFlags := 33
  interfaces := #[]
  cf := some (fileOf pool15 21 #[] #[{ accessFlags := 2, nameIndex := 9, descriptorIndex := 19, attributes := #[] }, { accessFlags := 9, nameIndex := 149, descriptorIndex := 336, attributes := #[] }] 33 16 #[] #[{ accessFlags := 24, nameIndex := 28, descriptorIndex := 29, attributes := #[] }, { accessFlags := 26, nameIndex := 38, descriptorIndex := 39, attributes := #[] }, { accessFlags := 25, nameIndex := 121, descriptorIndex := 25, attributes := #[] }, { accessFlags := 25, nameIndex := 131, descriptorIndex := 25, attributes := #[] }, { accessFlags := 25, nameIndex := 137, descriptorIndex := 25, attributes := #[] }, { accessFlags := 25, nameIndex := 143, descriptorIndex := 25, attributes := #[] }, { accessFlags := 25, nameIndex := 53, descriptorIndex := 25, attributes := #[] }, { accessFlags := 25, nameIndex := 24, descriptorIndex := 25, attributes := #[] }, { accessFlags := 25, nameIndex := 162, descriptorIndex := 25, attributes := #[] }, { accessFlags := 25, nameIndex := 187, descriptorIndex := 25, attributes := #[] }, { accessFlags := 26, nameIndex := 48, descriptorIndex := 25, attributes := #[] }, { accessFlags := 25, nameIndex := 277, descriptorIndex := 25, attributes := #[] }, { accessFlags := 25, nameIndex := 280, descriptorIndex := 25, attributes := #[] }, { accessFlags := 25, nameIndex := 282, descriptorIndex := 25, attributes := #[] }, { accessFlags := 25, nameIndex := 284, descriptorIndex := 25, attributes := #[] }, { accessFlags := 25, nameIndex := 286, descriptorIndex := 25, attributes := #[] }, { accessFlags := 25, nameIndex := 288, descriptorIndex := 25, attributes := #[] }, { accessFlags := 25, nameIndex := 290, descriptorIndex := 25, attributes := #[] }, { accessFlags := 25, nameIndex := 292, descriptorIndex := 25, attributes := #[] }, { accessFlags := 26, nameIndex := 108, descriptorIndex := 109, attributes := #[] }, { accessFlags := 25, nameIndex := 294, descriptorIndex := 25, attributes := #[] }])
  fields := #[{ name := "U", type := (.object "jdk/internal/misc/Unsafe"), accessFlags := 24, slot := 0, constantValue := 0 }, { name := "BIG_ENDIAN", type := .boolean, accessFlags := 26, slot := 1, constantValue := 0 }, { name := "LOG2_ARRAY_BOOLEAN_INDEX_SCALE", type := .int, accessFlags := 25, slot := 2, constantValue := 0 }, { name := "LOG2_ARRAY_BYTE_INDEX_SCALE", type := .int, accessFlags := 25, slot := 3, constantValue := 0 }, { name := "LOG2_ARRAY_CHAR_INDEX_SCALE", type := .int, accessFlags := 25, slot := 4, constantValue := 0 }, { name := "LOG2_ARRAY_SHORT_INDEX_SCALE", type := .int, accessFlags := 25, slot := 5, constantValue := 0 }, { name := "LOG2_ARRAY_INT_INDEX_SCALE", type := .int, accessFlags := 25, slot := 6, constantValue := 0 }, { name := "LOG2_ARRAY_LONG_INDEX_SCALE", type := .int, accessFlags := 25, slot := 7, constantValue := 0 }, { name := "LOG2_ARRAY_FLOAT_INDEX_SCALE", type := .int, accessFlags := 25, slot := 8, constantValue := 0 }, { name := "LOG2_ARRAY_DOUBLE_INDEX_SCALE", type := .int, accessFlags := 25, slot := 9, constantValue := 0 }, { name := "LOG2_BYTE_BIT_SIZE", type := .int, accessFlags := 26, slot := 10, constantValue := 0 }, { name := "T_BOOLEAN", type := .int, accessFlags := 25, slot := 11, constantValue := 0 }, { name := "T_CHAR", type := .int, accessFlags := 25, slot := 12, constantValue := 0 }, { name := "T_FLOAT", type := .int, accessFlags := 25, slot := 13, constantValue := 0 }, { name := "T_DOUBLE", type := .int, accessFlags := 25, slot := 14, constantValue := 0 }, { name := "T_BYTE", type := .int, accessFlags := 25, slot := 15, constantValue := 0 }, { name := "T_SHORT", type := .int, accessFlags := 25, slot := 16, constantValue := 0 }, { name := "T_INT", type := .int, accessFlags := 25, slot := 17, constantValue := 0 }, { name := "T_LONG", type := .int, accessFlags := 25, slot := 18, constantValue := 0 }, { name := "JLA", type := (.object "jdk/internal/access/JavaLangAccess"), accessFlags := 26, slot := 19, constantValue := 0 }, { name := "SOFT_MAX_ARRAY_LENGTH", type := .int, accessFlags := 25, slot := 20, constantValue := 0 }]
  methods := #[k15m0, k15m1]
  instanceTypes := #[]
  staticTypes := #[(.object "jdk/internal/misc/Unsafe"), .boolean, .int, .int, .int, .int, .int, .int, .int, .int, .int, .int, .int, .int, .int, .int, .int, .int, .int, (.object "jdk/internal/access/JavaLangAccess"), .int]
  resolved := Array.replicate 378 none
  statics := none }

def pool16 : Array CpInfo := pool [(6, .class_ 8), (1, u "java/lang/Object"), (0, u "<init>"), (0, u "()V"), (1, .class_ 14), (1, u "java/lang/StringUTF16"), (31, u "$assertionsDisabled"), (0, u "Z"), (13, u "HI_BYTE_SHIFT"), (0, u "I"), (2, u "LO_BYTE_SHIFT"), (49, .methodref 12 116), (0, .nameAndType 117 118), (0, u "compress"), (0, u "([CI[BII)I"), (3, u "([CII)[B"), (138, u "coderFromArrayLen"), (0, u "([BI)B"), (106, .class_ 371), (1, u "java/lang/StringUTF16$LinesSpliterator"), (58, u "MAX_LENGTH"), (196, .class_ 628), (0, u "java/lang/StringUTF16$CodePointsSpliterator"), (0, .class_ 630), (0, u "java/lang/StringUTF16$CharsSpliterator")] 4

def k16m0 : Method := { name := "<init>", desc := "()V", sig := { parameters := [], returnType := none }, accessFlags := 0, code := none }
def k16c1 : Code := { maxStack := 2, maxLocals := 2, code := jdk_52_method_15_code, exceptionTable := #[], attributes := #[] }
def k16m1 : Method := { name := "coderFromArrayLen", desc := "([BI)B", sig := { parameters := [(.array .byte), .int], returnType := some .byte }, accessFlags := 8, code := some k16c1 }
def k16c2 : Code := { maxStack := 5, maxLocals := 6, code := jdk_52_method_16_code, exceptionTable := #[], attributes := #[] }
def k16m2 : Method := { name := "compress", desc := "([CII)[B", sig := { parameters := [(.array .char), .int, .int], returnType := some (.array .byte) }, accessFlags := 9, code := some k16c2 }
def k16c3 : Code := { maxStack := 3, maxLocals := 7, code := jdk_52_method_21_code, exceptionTable := #[], attributes := #[] }
def k16m3 : Method := { name := "compress", desc := "([CI[BII)I", sig := { parameters := [(.array .char), .int, (.array .byte), .int, .int], returnType := some .int }, accessFlags := 9, code := some k16c3 }
/-- java/lang/StringUTF16 -/
def k16 : Class := { plain "java/lang/StringUTF16" (some 0) with
  accessFlags := 48
  interfaces := #[]
  cf := some (fileOf pool16 12 #[.nestMembers #[627, 629, 369]] #[{ accessFlags := 0, nameIndex := 9, descriptorIndex := 10, attributes := #[] }, { accessFlags := 8, nameIndex := 261, descriptorIndex := 262, attributes := #[] }, { accessFlags := 9, nameIndex := 117, descriptorIndex := 122, attributes := #[] }, { accessFlags := 9, nameIndex := 117, descriptorIndex := 118, attributes := #[] }] 48 6 #[] #[{ accessFlags := 26, nameIndex := 61, descriptorIndex := 62, attributes := #[] }, { accessFlags := 26, nameIndex := 65, descriptorIndex := 62, attributes := #[] }, { accessFlags := 24, nameIndex := 430, descriptorIndex := 62, attributes := #[] }, { accessFlags := 4120, nameIndex := 46, descriptorIndex := 47, attributes := #[] }])
  fields := #[{ name := "HI_BYTE_SHIFT", type := .int, accessFlags := 26, slot := 0, constantValue := 0 }, { name := "LO_BYTE_SHIFT", type := .int, accessFlags := 26, slot := 1, constantValue := 0 }, { name := "MAX_LENGTH", type := .int, accessFlags := 24, slot := 2, constantValue := 0 }, { name := "$assertionsDisabled", type := .boolean, accessFlags := 4120, slot := 3, constantValue := 0 }]
  methods := #[k16m0, k16m1, k16m2, k16m3]
  instanceTypes := #[]
  staticTypes := #[.int, .int, .int, .boolean]
  resolved := Array.replicate 635 none
  statics := none }

def pool17 : Array CpInfo := pool [(2, .class_ 4), (1, u "java/lang/Object"), (0, u "<init>"), (0, u "()V"), (17, .class_ 26), (1, u "jdk/internal/util/Preconditions"), (28, .class_ 56), (0, u "jdk/internal/util/Preconditions$4"), (57, .class_ 115), (0, u "jdk/internal/util/Preconditions$1"), (7, u "SIOOBE_FORMATTER"), (0, u "Ljava/util/function/BiFunction;"), (0, .class_ 126), (0, u "jdk/internal/util/Preconditions$2"), (3, u "AIOOBE_FORMATTER"), (0, .class_ 132), (0, u "jdk/internal/util/Preconditions$3"), (3, u "IOOBE_FORMATTER")] 57

def k17m0 : Method := { name := "<init>", desc := "()V", sig := { parameters := [], returnType := none }, accessFlags := 1, code := none }
/-- jdk/internal/util/Preconditions -/
def k17 : Class := { plain "jdk/internal/util/Preconditions" (some 0) with
  accessFlags := 33
  interfaces := #[]
  cf := some (fileOf pool17 24 #[.nestMembers #[55, 131, 125, 114]] #[{ accessFlags := 1, nameIndex := 5, descriptorIndex := 6, attributes := #[] }] 33 2 #[] #[{ accessFlags := 25, nameIndex := 123, descriptorIndex := 124, attributes := #[] }, { accessFlags := 25, nameIndex := 130, descriptorIndex := 124, attributes := #[] }, { accessFlags := 25, nameIndex := 136, descriptorIndex := 124, attributes := #[] }])
  fields := #[{ name := "SIOOBE_FORMATTER", type := (.object "java/util/function/BiFunction"), accessFlags := 25, slot := 0, constantValue := 0 }, { name := "AIOOBE_FORMATTER", type := (.object "java/util/function/BiFunction"), accessFlags := 25, slot := 1, constantValue := 0 }, { name := "IOOBE_FORMATTER", type := (.object "java/util/function/BiFunction"), accessFlags := 25, slot := 2, constantValue := 0 }]
  methods := #[k17m0]
  instanceTypes := #[]
  staticTypes := #[(.object "java/util/function/BiFunction"), (.object "java/util/function/BiFunction"), (.object "java/util/function/BiFunction")]
  resolved := Array.replicate 194 none
  statics := some 1 }

def pool18 : Array CpInfo := pool [(1, u "java/lang/Cloneable"), (0, .class_ 1), (0, u "java/lang/Object"), (0, .class_ 3)] 3

/-- java/lang/Cloneable -/
def k18 : Class := { plain "java/lang/Cloneable" (some 0) with
  accessFlags := 1537
  interfaces := #[]
  cf := some (fileOf pool18 2 #[] #[] 1537 4 #[] #[])
  fields := #[]
  methods := #[]
  instanceTypes := #[]
  staticTypes := #[]
  resolved := Array.replicate 8 none
  statics := none }

/-- the primitive byte -/
def k19 : Class := { plain "byte" none with kind := .primitive 'B', accessFlags := 0x411 }
/-- [B -/
def k20 : Class := { plain "[B" (some 0) with kind := .array 19 .byte, interfaces := #[18, 2], accessFlags := 1041 }

/-- the primitive char -/
def k21 : Class := { plain "char" none with kind := .primitive 'C', accessFlags := 0x411 }
/-- [C -/
def k22 : Class := { plain "[C" (some 0) with kind := .array 21 .char, interfaces := #[18, 2], accessFlags := 1041 }

/-- the primitive int -/
def k23 : Class := { plain "int" none with kind := .primitive 'I', accessFlags := 0x411 }
/-- [I -/
def k24 : Class := { plain "[I" (some 0) with kind := .array 23 .int, interfaces := #[18, 2], accessFlags := 1041 }

def heap : Heap := #[{ cls := 7, slots := #[.long 0, .int 1, .null, .int 0, .null, .int 0, .int 0], vm := .statics 7 },
  { cls := 17, slots := #[.null, .null, .null], vm := .statics 17 }]
def classes : Array Class := #[k0, k1, k2, k3, k4, k5, k6, k7, k8, k9, k10, k11, k12, k13, k14, k15, k16, k17, k18, k19, k20, k21, k22, k23, k24]
def interned : List (Array UInt16 × Addr) := []
def slotsUsed : Nat := 10
def theMethod : MethodId := ⟨1, 4⟩
def args0 : Array Value := #[.long 5, .long 7, .int 3, .int 4, .int 5]
def aboutOver (below : List Frame) : State where
  vm := { classes := classes, interned := interned.toArray }
  heap := heap
  slotsUsed := slotsUsed
  threads := #[{ frames := .invoking theMethod args0 :: below }]
def below0 : List Frame := [.native { method := ⟨0, 0⟩, args := #[] }]
def about1 : State := aboutOver below0
def p0 : Program := .bare "" "" ""
def e0 : Env := launch0.env 0 0 0
theorem w_frames : about1.frames = Frame.invoking theMethod args0 :: below0 := rfl
set_option maxRecDepth 65536 in
theorem w_args : argsFit about1.vm theMethod args0 = true := by decide +kernel
set_option maxRecDepth 65536 in
theorem w_heap : heapFits about1 = true := by decide +kernel
set_option maxRecDepth 65536 in
theorem w_runnable : about1.curStatus? = some .runnable := by decide +kernel
set_option maxRecDepth 65536 in
theorem w_alone : about1.alone = true := by decide +kernel
set_option maxRecDepth 65536 in
theorem w_named : about1.methodNamed? x = some theMethod := by decide +kernel
set_option maxRecDepth 65536 in
theorem w_hears : about1.hears theMethod below0 = true := by decide +kernel
set_option maxRecDepth 65536 in
theorem w_ripe : about1.ripe theMethod args0 below0 = true := by decide +kernel
theorem w_running : about1.status = .running := rfl
set_option maxRecDepth 65536 in
theorem w_room : about1.hasRoom e0.platform room_1 = true :=
  launch0.hasRoom_least _ room_1 (by decide +kernel) (by decide +kernel) (by decide +kernel) (by decide +kernel) (by decide +kernel) (by decide +kernel)
theorem allAtoms_all (ts : List Jvm.Cond) (a : Array Jvm.Value) (st : Jvm.State) : (allAtoms ts).before a st = ts.all (fun c => c.before a st) := by
  induction ts with
  | nil => rfl
  | cons c t ih =>
    show (Jvm.Cond.and c (allAtoms t)).before a st = _
    rw [Jvm.Cond.before_and, ih, List.all_cons]
def words1 : List Jvm.Cond := Jvm.Cond.code x code maxLocals ret :: tables_1
/-- a 'code' word, met by the world's own term for the bytes: nothing is compared byte by byte -/
theorem code_word {y : MethodName} {bytes : ByteArray} {mx : Nat} {rt : Option FieldType} {a : Array Value} {s : State} {m : MethodId} {meth : Method} {c : Code} (h1 : s.methodNamed? y = some m) (h2 : s.vm.method? m = some meth) (h3 : meth.code = some c) (h4 : c.code = bytes)
    (h5 : (c.maxLocals == mx && c.exceptionTable.isEmpty && decide (c.maxStack ≤ mostOperands) && decide (meth.sig.returnType = rt) && !meth.locks && decide (parseMethodDescriptor y.desc = some meth.sig)) = true) : (Jvm.Cond.code y bytes mx rt).before a s = true := by
  simp only [Bool.and_eq_true, beq_iff_eq, Bool.not_eq_true', decide_eq_true_eq] at h5
  obtain ⟨⟨⟨⟨⟨g1, g2⟩, g3⟩, g4⟩, g5⟩, g6⟩ := h5
  simp [Cond.before, Cond.holds, Cond.value, h1, h2, h3, h4, g1, g2, g3, g4, g5, g6]
def isCode : Jvm.Cond → Bool
  | .code _ _ _ _ => true
  | _ => false
theorem all_split {L : List Jvm.Cond} {P : Jvm.Cond → Bool} (h1 : L.all (fun c => isCode c || P c) = true) (h2 : ∀ c ∈ L.filter isCode, P c = true) : L.all P = true := by
  refine List.all_eq_true.mpr fun c hc => ?_
  have h := List.all_eq_true.mp h1 c hc
  rcases Bool.eq_false_or_eq_true (isCode c) with hi | hi
  · exact h2 c (List.mem_filter.mpr ⟨hc, hi⟩)
  · simpa [hi] using h
set_option maxRecDepth 65536 in
theorem w_c0 : (Jvm.Cond.code x code maxLocals ret).before args0 about1 = true := code_word (m := ⟨1, 4⟩) (meth := k1m4) (c := k1c4) (by decide +kernel) rfl rfl rfl (by decide +kernel)
set_option maxRecDepth 65536 in
theorem w_c1 : (Jvm.Cond.code ({ cls := "com/example/keelson/keelson/cluster/BallotCompareToPinLaw", name := "make", desc := "(ICC)Ljava/lang/String;" } : Jvm.MethodName) method_3_code (4 : Nat) (Option.some (Jvm.ClassFile.FieldType.object "java/lang/String"))).before args0 about1 = true := code_word (m := ⟨1, 2⟩) (meth := k1m2) (c := k1c2) (by decide +kernel) rfl rfl rfl (by decide +kernel)
set_option maxRecDepth 65536 in
theorem w_c2 : (Jvm.Cond.code ({ cls := "com/example/keelson/keelson/cluster/Ballot", name := "<init>", desc := "(JLjava/lang/String;)V" } : Jvm.MethodName) prog_19_method_1_code (4 : Nat) (Option.none : Option Jvm.ClassFile.FieldType)).before args0 about1 = true := code_word (m := ⟨9, 0⟩) (meth := k9m0) (c := k9c0) (by decide +kernel) rfl rfl rfl (by decide +kernel)
set_option maxRecDepth 65536 in
theorem w_c3 : (Jvm.Cond.code ({ cls := "java/lang/Record", name := "<init>", desc := "()V" } : Jvm.MethodName) jdk_30_method_1_code (1 : Nat) (Option.none : Option Jvm.ClassFile.FieldType)).before args0 about1 = true := code_word (m := ⟨8, 0⟩) (meth := k8m0) (c := k8c0) (by decide +kernel) rfl rfl rfl (by decide +kernel)
set_option maxRecDepth 65536 in
theorem w_c4 : (Jvm.Cond.code ({ cls := "java/lang/Object", name := "<init>", desc := "()V" } : Jvm.MethodName) object_method_1_code (1 : Nat) (Option.none : Option Jvm.ClassFile.FieldType)).before args0 about1 = true := code_word (m := ⟨0, 0⟩) (meth := k0m0) (c := k0c0) (by decide +kernel) rfl rfl rfl (by decide +kernel)
set_option maxRecDepth 65536 in
theorem w_c5 : (Jvm.Cond.code ({ cls := "java/util/Objects", name := "requireNonNull", desc := "(Ljava/lang/Object;Ljava/lang/String;)Ljava/lang/Object;" } : Jvm.MethodName) jdk_31_method_11_code (2 : Nat) (Option.some (Jvm.ClassFile.FieldType.object "java/lang/Object"))).before args0 about1 = true := code_word (m := ⟨10, 1⟩) (meth := k10m1) (c := k10c1) (by decide +kernel) rfl rfl rfl (by decide +kernel)
set_option maxRecDepth 65536 in
theorem w_c6 : (Jvm.Cond.code ({ cls := "com/example/keelson/keelson/cluster/Ballot", name := "compareTo", desc := "(Lcom/example/keelson/keelson/cluster/Ballot;)I" } : Jvm.MethodName) prog_19_method_2_code (3 : Nat) (Option.some Jvm.ClassFile.FieldType.int)).before args0 about1 = true := code_word (m := ⟨9, 1⟩) (meth := k9m1) (c := k9c1) (by decide +kernel) rfl rfl rfl (by decide +kernel)
set_option maxRecDepth 65536 in
theorem w_c7 : (Jvm.Cond.code ({ cls := "java/lang/Long", name := "compare", desc := "(JJ)I" } : Jvm.MethodName) jdk_35_method_42_code (4 : Nat) (Option.some Jvm.ClassFile.FieldType.int)).before args0 about1 = true := code_word (m := ⟨12, 0⟩) (meth := k12m0) (c := k12c0) (by decide +kernel) rfl rfl rfl (by decide +kernel)
set_option maxRecDepth 65536 in
theorem w_c8 : (Jvm.Cond.code ({ cls := "com/example/keelson/keelson/cluster/BallotCompareToPinLaw", name := "sign", desc := "(J)I" } : Jvm.MethodName) method_2_code (2 : Nat) (Option.some Jvm.ClassFile.FieldType.int)).before args0 about1 = true := code_word (m := ⟨1, 1⟩) (meth := k1m1) (c := k1c1) (by decide +kernel) rfl rfl rfl (by decide +kernel)
set_option maxRecDepth 65536 in
theorem w_c9 : (Jvm.Cond.code ({ cls := "com/example/keelson/keelson/cluster/BallotCompareToPinLaw", name := "lex", desc := "(IIIIII)I" } : Jvm.MethodName) method_4_code (6 : Nat) (Option.some Jvm.ClassFile.FieldType.int)).before args0 about1 = true := code_word (m := ⟨1, 3⟩) (meth := k1m3) (c := k1c3) (by decide +kernel) rfl rfl rfl (by decide +kernel)
set_option maxRecDepth 65536 in
theorem w_c10 : (Jvm.Cond.code ({ cls := "java/lang/String", name := "compareTo", desc := "(Ljava/lang/String;)I" } : Jvm.MethodName) jdk_42_method_71_code (5 : Nat) (Option.some Jvm.ClassFile.FieldType.int)).before args0 about1 = true := code_word (m := ⟨7, 2⟩) (meth := k7m2) (c := k7c2) (by decide +kernel) rfl rfl rfl (by decide +kernel)
set_option maxRecDepth 65536 in
theorem w_c11 : (Jvm.Cond.code ({ cls := "java/lang/String", name := "coder", desc := "()B" } : Jvm.MethodName) jdk_42_method_152_code (1 : Nat) (Option.some Jvm.ClassFile.FieldType.byte)).before args0 about1 = true := code_word (m := ⟨7, 6⟩) (meth := k7m6) (c := k7c6) (by decide +kernel) rfl rfl rfl (by decide +kernel)
set_option maxRecDepth 65536 in
theorem w_c12 : (Jvm.Cond.code ({ cls := "java/lang/StringLatin1", name := "compareTo", desc := "([B[B)I" } : Jvm.MethodName) jdk_43_method_14_code (4 : Nat) (Option.some Jvm.ClassFile.FieldType.int)).before args0 about1 = true := code_word (m := ⟨13, 2⟩) (meth := k13m2) (c := k13c2) (by decide +kernel) rfl rfl rfl (by decide +kernel)
set_option maxRecDepth 65536 in
theorem w_c13 : (Jvm.Cond.code ({ cls := "java/lang/StringLatin1", name := "compareTo", desc := "([B[BII)I" } : Jvm.MethodName) jdk_43_method_15_code (6 : Nat) (Option.some Jvm.ClassFile.FieldType.int)).before args0 about1 = true := code_word (m := ⟨13, 3⟩) (meth := k13m3) (c := k13c3) (by decide +kernel) rfl rfl rfl (by decide +kernel)
set_option maxRecDepth 65536 in
theorem w_c14 : (Jvm.Cond.code ({ cls := "java/lang/Math", name := "min", desc := "(II)I" } : Jvm.MethodName) jdk_29_method_69_code (2 : Nat) (Option.some Jvm.ClassFile.FieldType.int)).before args0 about1 = true := code_word (m := ⟨14, 1⟩) (meth := k14m1) (c := k14c1) (by decide +kernel) rfl rfl rfl (by decide +kernel)
set_option maxRecDepth 65536 in
theorem w_c15 : (Jvm.Cond.code ({ cls := "jdk/internal/util/ArraysSupport", name := "mismatch", desc := "([B[BI)I" } : Jvm.MethodName) jdk_48_method_13_code (4 : Nat) (Option.some Jvm.ClassFile.FieldType.int)).before args0 about1 = true := code_word (m := ⟨15, 1⟩) (meth := k15m1) (c := k15c1) (by decide +kernel) rfl rfl rfl (by decide +kernel)
set_option maxRecDepth 65536 in
theorem w_c16 : (Jvm.Cond.code ({ cls := "java/lang/String", name := "valueOf", desc := "(C)Ljava/lang/String;" } : Jvm.MethodName) jdk_42_method_139_code (1 : Nat) (Option.some (Jvm.ClassFile.FieldType.object "java/lang/String"))).before args0 about1 = true := code_word (m := ⟨7, 3⟩) (meth := k7m3) (c := k7c3) (by decide +kernel) rfl rfl rfl (by decide +kernel)
set_option maxRecDepth 65536 in
theorem w_c17 : (Jvm.Cond.code ({ cls := "java/lang/StringLatin1", name := "canEncode", desc := "(C)Z" } : Jvm.MethodName) jdk_43_method_3_code (1 : Nat) (Option.some Jvm.ClassFile.FieldType.boolean)).before args0 about1 = true := code_word (m := ⟨13, 1⟩) (meth := k13m1) (c := k13c1) (by decide +kernel) rfl rfl rfl (by decide +kernel)
set_option maxRecDepth 65536 in
theorem w_c18 : (Jvm.Cond.code ({ cls := "java/lang/StringLatin1", name := "toBytes", desc := "(C)[B" } : Jvm.MethodName) jdk_43_method_46_code (1 : Nat) (Option.some (Jvm.ClassFile.FieldType.array Jvm.ClassFile.FieldType.byte))).before args0 about1 = true := code_word (m := ⟨13, 5⟩) (meth := k13m5) (c := k13c5) (by decide +kernel) rfl rfl rfl (by decide +kernel)
set_option maxRecDepth 65536 in
theorem w_c19 : (Jvm.Cond.code ({ cls := "java/lang/String", name := "<init>", desc := "([BB)V" } : Jvm.MethodName) jdk_42_method_151_code (3 : Nat) (Option.none : Option Jvm.ClassFile.FieldType)).before args0 about1 = true := code_word (m := ⟨7, 5⟩) (meth := k7m5) (c := k7c5) (by decide +kernel) rfl rfl rfl (by decide +kernel)
set_option maxRecDepth 65536 in
theorem w_c20 : (Jvm.Cond.code ({ cls := "java/lang/String", name := "<init>", desc := "([C)V" } : Jvm.MethodName) jdk_42_method_3_code (2 : Nat) (Option.none : Option Jvm.ClassFile.FieldType)).before args0 about1 = true := code_word (m := ⟨7, 1⟩) (meth := k7m1) (c := k7c1) (by decide +kernel) rfl rfl rfl (by decide +kernel)
set_option maxRecDepth 65536 in
theorem w_c21 : (Jvm.Cond.code ({ cls := "java/lang/String", name := "<init>", desc := "([CIILjava/lang/Void;)V" } : Jvm.MethodName) jdk_42_method_149_code (6 : Nat) (Option.none : Option Jvm.ClassFile.FieldType)).before args0 about1 = true := code_word (m := ⟨7, 4⟩) (meth := k7m4) (c := k7c4) (by decide +kernel) rfl rfl rfl (by decide +kernel)
set_option maxRecDepth 65536 in
theorem w_c22 : (Jvm.Cond.code ({ cls := "java/lang/StringUTF16", name := "compress", desc := "([CII)[B" } : Jvm.MethodName) jdk_52_method_16_code (6 : Nat) (Option.some (Jvm.ClassFile.FieldType.array Jvm.ClassFile.FieldType.byte))).before args0 about1 = true := code_word (m := ⟨16, 2⟩) (meth := k16m2) (c := k16c2) (by decide +kernel) rfl rfl rfl (by decide +kernel)
set_option maxRecDepth 65536 in
theorem w_c23 : (Jvm.Cond.code ({ cls := "java/lang/StringUTF16", name := "compress", desc := "([CI[BII)I" } : Jvm.MethodName) jdk_52_method_21_code (7 : Nat) (Option.some Jvm.ClassFile.FieldType.int)).before args0 about1 = true := code_word (m := ⟨16, 3⟩) (meth := k16m3) (c := k16c3) (by decide +kernel) rfl rfl rfl (by decide +kernel)
set_option maxRecDepth 65536 in
theorem w_c24 : (Jvm.Cond.code ({ cls := "java/lang/StringUTF16", name := "coderFromArrayLen", desc := "([BI)B" } : Jvm.MethodName) jdk_52_method_15_code (2 : Nat) (Option.some Jvm.ClassFile.FieldType.byte)).before args0 about1 = true := code_word (m := ⟨16, 1⟩) (meth := k16m1) (c := k16c1) (by decide +kernel) rfl rfl rfl (by decide +kernel)
set_option maxRecDepth 65536 in
theorem w_c25 : (Jvm.Cond.code ({ cls := "java/lang/StringLatin1", name := "getChar", desc := "([BI)C" } : Jvm.MethodName) jdk_43_method_44_code (2 : Nat) (Option.some Jvm.ClassFile.FieldType.char)).before args0 about1 = true := code_word (m := ⟨13, 4⟩) (meth := k13m4) (c := k13c4) (by decide +kernel) rfl rfl rfl (by decide +kernel)
def codes1 : List Jvm.Cond := [Jvm.Cond.code x code maxLocals ret, Jvm.Cond.code ({ cls := "com/example/keelson/keelson/cluster/BallotCompareToPinLaw", name := "make", desc := "(ICC)Ljava/lang/String;" } : Jvm.MethodName) method_3_code (4 : Nat) (Option.some (Jvm.ClassFile.FieldType.object "java/lang/String")), Jvm.Cond.code ({ cls := "com/example/keelson/keelson/cluster/Ballot", name := "<init>", desc := "(JLjava/lang/String;)V" } : Jvm.MethodName) prog_19_method_1_code (4 : Nat) (Option.none : Option Jvm.ClassFile.FieldType), Jvm.Cond.code ({ cls := "java/lang/Record", name := "<init>", desc := "()V" } : Jvm.MethodName) jdk_30_method_1_code (1 : Nat) (Option.none : Option Jvm.ClassFile.FieldType), Jvm.Cond.code ({ cls := "java/lang/Object", name := "<init>", desc := "()V" } : Jvm.MethodName) object_method_1_code (1 : Nat) (Option.none : Option Jvm.ClassFile.FieldType), Jvm.Cond.code ({ cls := "java/util/Objects", name := "requireNonNull", desc := "(Ljava/lang/Object;Ljava/lang/String;)Ljava/lang/Object;" } : Jvm.MethodName) jdk_31_method_11_code (2 : Nat) (Option.some (Jvm.ClassFile.FieldType.object "java/lang/Object")), Jvm.Cond.code ({ cls := "com/example/keelson/keelson/cluster/Ballot", name := "compareTo", desc := "(Lcom/example/keelson/keelson/cluster/Ballot;)I" } : Jvm.MethodName) prog_19_method_2_code (3 : Nat) (Option.some Jvm.ClassFile.FieldType.int), Jvm.Cond.code ({ cls := "java/lang/Long", name := "compare", desc := "(JJ)I" } : Jvm.MethodName) jdk_35_method_42_code (4 : Nat) (Option.some Jvm.ClassFile.FieldType.int), Jvm.Cond.code ({ cls := "com/example/keelson/keelson/cluster/BallotCompareToPinLaw", name := "sign", desc := "(J)I" } : Jvm.MethodName) method_2_code (2 : Nat) (Option.some Jvm.ClassFile.FieldType.int), Jvm.Cond.code ({ cls := "com/example/keelson/keelson/cluster/BallotCompareToPinLaw", name := "lex", desc := "(IIIIII)I" } : Jvm.MethodName) method_4_code (6 : Nat) (Option.some Jvm.ClassFile.FieldType.int), Jvm.Cond.code ({ cls := "java/lang/String", name := "compareTo", desc := "(Ljava/lang/String;)I" } : Jvm.MethodName) jdk_42_method_71_code (5 : Nat) (Option.some Jvm.ClassFile.FieldType.int), Jvm.Cond.code ({ cls := "java/lang/String", name := "coder", desc := "()B" } : Jvm.MethodName) jdk_42_method_152_code (1 : Nat) (Option.some Jvm.ClassFile.FieldType.byte), Jvm.Cond.code ({ cls := "java/lang/StringLatin1", name := "compareTo", desc := "([B[B)I" } : Jvm.MethodName) jdk_43_method_14_code (4 : Nat) (Option.some Jvm.ClassFile.FieldType.int), Jvm.Cond.code ({ cls := "java/lang/StringLatin1", name := "compareTo", desc := "([B[BII)I" } : Jvm.MethodName) jdk_43_method_15_code (6 : Nat) (Option.some Jvm.ClassFile.FieldType.int), Jvm.Cond.code ({ cls := "java/lang/Math", name := "min", desc := "(II)I" } : Jvm.MethodName) jdk_29_method_69_code (2 : Nat) (Option.some Jvm.ClassFile.FieldType.int), Jvm.Cond.code ({ cls := "jdk/internal/util/ArraysSupport", name := "mismatch", desc := "([B[BI)I" } : Jvm.MethodName) jdk_48_method_13_code (4 : Nat) (Option.some Jvm.ClassFile.FieldType.int), Jvm.Cond.code ({ cls := "java/lang/String", name := "valueOf", desc := "(C)Ljava/lang/String;" } : Jvm.MethodName) jdk_42_method_139_code (1 : Nat) (Option.some (Jvm.ClassFile.FieldType.object "java/lang/String")), Jvm.Cond.code ({ cls := "java/lang/StringLatin1", name := "canEncode", desc := "(C)Z" } : Jvm.MethodName) jdk_43_method_3_code (1 : Nat) (Option.some Jvm.ClassFile.FieldType.boolean), Jvm.Cond.code ({ cls := "java/lang/StringLatin1", name := "toBytes", desc := "(C)[B" } : Jvm.MethodName) jdk_43_method_46_code (1 : Nat) (Option.some (Jvm.ClassFile.FieldType.array Jvm.ClassFile.FieldType.byte)), Jvm.Cond.code ({ cls := "java/lang/String", name := "<init>", desc := "([BB)V" } : Jvm.MethodName) jdk_42_method_151_code (3 : Nat) (Option.none : Option Jvm.ClassFile.FieldType), Jvm.Cond.code ({ cls := "java/lang/String", name := "<init>", desc := "([C)V" } : Jvm.MethodName) jdk_42_method_3_code (2 : Nat) (Option.none : Option Jvm.ClassFile.FieldType), Jvm.Cond.code ({ cls := "java/lang/String", name := "<init>", desc := "([CIILjava/lang/Void;)V" } : Jvm.MethodName) jdk_42_method_149_code (6 : Nat) (Option.none : Option Jvm.ClassFile.FieldType), Jvm.Cond.code ({ cls := "java/lang/StringUTF16", name := "compress", desc := "([CII)[B" } : Jvm.MethodName) jdk_52_method_16_code (6 : Nat) (Option.some (Jvm.ClassFile.FieldType.array Jvm.ClassFile.FieldType.byte)), Jvm.Cond.code ({ cls := "java/lang/StringUTF16", name := "compress", desc := "([CI[BII)I" } : Jvm.MethodName) jdk_52_method_21_code (7 : Nat) (Option.some Jvm.ClassFile.FieldType.int), Jvm.Cond.code ({ cls := "java/lang/StringUTF16", name := "coderFromArrayLen", desc := "([BI)B" } : Jvm.MethodName) jdk_52_method_15_code (2 : Nat) (Option.some Jvm.ClassFile.FieldType.byte), Jvm.Cond.code ({ cls := "java/lang/StringLatin1", name := "getChar", desc := "([BI)C" } : Jvm.MethodName) jdk_43_method_44_code (2 : Nat) (Option.some Jvm.ClassFile.FieldType.char)]
set_option maxRecDepth 65536 in
theorem codes_eq : words1.filter isCode = codes1 := rfl
theorem w_codes : ∀ c ∈ words1.filter isCode, c.before args0 about1 = true := by
  rw [codes_eq]
  intro c hc
  simp only [codes1, List.mem_cons, List.not_mem_nil, or_false] at hc
  rcases hc with rfl | rfl | rfl | rfl | rfl | rfl | rfl | rfl | rfl | rfl | rfl | rfl | rfl | rfl | rfl | rfl | rfl | rfl | rfl | rfl | rfl | rfl | rfl | rfl | rfl | rfl
  · exact w_c0
  · exact w_c1
  · exact w_c2
  · exact w_c3
  · exact w_c4
  · exact w_c5
  · exact w_c6
  · exact w_c7
  · exact w_c8
  · exact w_c9
  · exact w_c10
  · exact w_c11
  · exact w_c12
  · exact w_c13
  · exact w_c14
  · exact w_c15
  · exact w_c16
  · exact w_c17
  · exact w_c18
  · exact w_c19
  · exact w_c20
  · exact w_c21
  · exact w_c22
  · exact w_c23
  · exact w_c24
  · exact w_c25
set_option maxRecDepth 65536 in
theorem w_t1 : (words1.take 24).all (fun c => isCode c || c.before args0 about1) = true := by decide +kernel
set_option maxRecDepth 65536 in
theorem w_t2 : ((words1.drop 24).take 24).all (fun c => isCode c || c.before args0 about1) = true := by decide +kernel
set_option maxRecDepth 65536 in
theorem w_t3 : (((words1.drop 24).drop 24).take 24).all (fun c => isCode c || c.before args0 about1) = true := by decide +kernel
set_option maxRecDepth 65536 in
theorem w_t4 : ((((words1.drop 24).drop 24).drop 24).take 24).all (fun c => isCode c || c.before args0 about1) = true := by decide +kernel
set_option maxRecDepth 65536 in
theorem w_t5 : ((((words1.drop 24).drop 24).drop 24).drop 24).all (fun c => isCode c || c.before args0 about1) = true := by decide +kernel
theorem w_tables : (allAtoms (Jvm.Cond.code x code maxLocals ret :: tables_1)).before args0 about1 = true := by
  rw [allAtoms_all]
  show words1.all (fun c => c.before args0 about1) = true
  refine all_split ?_ w_codes
  rw [← List.take_append_drop 24 words1, List.all_append, w_t1, ← List.take_append_drop 24 (words1.drop 24), List.all_append, w_t2, ← List.take_append_drop 24 ((words1.drop 24).drop 24), List.all_append, w_t3, ← List.take_append_drop 24 (((words1.drop 24).drop 24).drop 24), List.all_append, w_t4, w_t5]
  rfl
set_option maxRecDepth 65536 in
theorem w_rest : rest_1_c.before args0 about1 = true := by decide +kernel
set_option maxRecDepth 65536 in
theorem w_case : (Jvm.Cond.and given_1 narrow_1).before args0 about1 = true := by decide +kernel
set_option maxRecDepth 65536 in
theorem w_consts : constsHeld consts_1 about1 := Jvm.Lit.constsHeldB_iff.mp (by decide +kernel)
theorem w_applies : (headSpec (Jvm.Cond.code x code maxLocals ret :: tables_1) room_1).applies x e0.platform about1 = true :=
  (Spec.applies_iff w_frames).mpr ⟨w_running, w_runnable, w_alone, w_named, w_hears, w_ripe, w_room, w_tables⟩
theorem atStart : AtStart classFile x code maxLocals ret World_1 tables_1 room_1 Calls_1 rest_1 Pre_1 launch0 p0 e0 about1 theMethod args0 below0 :=
  ⟨lists_1, trivial, launch0.admits_env _ _ _, launch0.least_env, fairChoices_fair.cas, fairChoices_fair.clock, w_frames, w_args, w_heap, w_applies, ⟨w_consts, trivial⟩, w_rest, w_case⟩
end start1
theorem witness_1 : WitnessClaimed_1 := ⟨start1.p0, start1.e0, start1.about1, start1.theMethod, start1.args0, start1.below0, start1.atStart⟩
end Jvm.Pilot.@@N@@
