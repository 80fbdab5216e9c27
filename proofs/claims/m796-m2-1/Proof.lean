import JvmDerived
import JvmDerived.Pilot.@@N@@Statement
import JvmDerived.Pilot.@@N@@Code
set_option linter.unusedVariables false
set_option linter.unusedSimpArgs false
/- laws to paste: Road.backV (cut by pick.py; bodies as the Statement names them) -/
namespace Jvm.Pilot.@@N@@
namespace StrChars
open Jvm Sem ClassFile Op Lib Jvm.Stand Jvm.Free.XT Jvm.Free.ALB Jvm.Free.JM Jvm.Free
open Jvm.Lib.Cold (StaticIs)
/-- a char array whose places are chars -/
def Ch (a : Addr) (A : Cell) (U : State) : Prop := Arr .char a A U ∧ Typed .char A
theorem Ch.mv {a : Addr} {A : Cell} {U U' : State} (h : Ch a A U) (hal : U.vm.Alike U'.vm) (hh : U'.heap = U.heap) : Ch a A U' := ⟨h.1.mv hal hh, h.2⟩
theorem Ch.keep {a : Addr} {A : Cell} {U U' : State} (h : Ch a A U) (hal : U.vm.Alike U'.vm) (hk : U'.heap[a]? = some A) : Ch a A U' := ⟨h.1.keep hal hk, h.2⟩
/-- what place i of a char[]'s cell holds -/
def cv (A : Cell) (i : Nat) : Int32 := match A.slots[i]? with | some (.int x) => x | _ => 0
theorem Ch.get {a : Addr} {A : Cell} {U : State} (h : Ch a A U) {i : Nat} (hi : i < A.slots.size) : A.slots[i]? = some (.int (cv A i)) := by
  have e := Array.getElem?_eq_getElem hi
  have f := h.2 i _ e
  unfold cv; rw [e]
  generalize A.slots[i] = v at f
  cases v <;> simp [fits] at f ⊢
/-- the byte that i2b leaves of a char -/
def lo8 (x : Int32) : Int32 := x.toInt8.toInt32
theorem fits_lo8 (y : Int32) : fits .byte (.int (lo8 y)) = true := by
  have h1 := y.toInt8.le_toInt
  have h2 := y.toInt8.toInt_lt
  simp only [lo8, fits, Bool.and_eq_true, decide_eq_true_eq, Int32.le_iff_toInt_le, Int8.toInt_toInt32, show (-128 : Int32).toInt = -128 from by decide, show (127 : Int32).toInt = 127 from by decide]
  omega
/-- A' is A but that each place j of lo .. hi - 1 holds f j -/
def Laid (A A' : Cell) (lo hi : Nat) (f : Nat → Value) : Prop := A'.cls = A.cls ∧ A'.vm = A.vm ∧ A'.slots.size = A.slots.size ∧ ∀ i, A'.slots[i]? = if lo ≤ i ∧ i < hi then some (f i) else A.slots[i]?
theorem Laid.zero (A : Cell) (lo : Nat) (f : Nat → Value) : Laid A A lo (lo + 0) f := ⟨rfl, rfl, rfl, fun i => by rw [if_neg (by omega)]⟩
theorem Laid.step {A Ak : Cell} {lo k : Nat} {f : Nat → Value} {v : Value} (h : Laid A Ak lo k f) (hlo : lo ≤ k) (hk : k < Ak.slots.size) (hv : v = f k) : Laid A (Ak.setSlot k v) lo (k + 1) f := by
  refine ⟨h.1, h.2.1, by simpa [Cell.setSlot] using h.2.2.1, fun i => ?_⟩
  by_cases e : k = i
  · subst e; rw [Cell.slots_setSlot_self v hk, if_pos (by omega), hv]
  · rw [Cell.slots_setSlot_ne v e, h.2.2.2 i]
    by_cases q : lo ≤ i ∧ i < k
    · rw [if_pos q, if_pos (by omega)]
    · rw [if_neg q, if_neg (by omega)]
def U16 : String := "java/lang/StringUTF16"
namespace Cmp5
def yN : MethodName := ⟨"java/lang/StringUTF16", "compress", "([CI[BII)I"⟩
abbrev yB : ByteArray := jdk_52_method_21_code
theorem d0 : decode yB 0 = .ok (.iconst 0, 1) := by decide +kernel
theorem d1 : decode yB 1 = .ok (.istore 5, 2) := by decide +kernel
theorem d3 : decode yB 3 = .ok (.iload 5, 2) := by decide +kernel
theorem d5 : decode yB 5 = .ok (.iload 4, 2) := by decide +kernel
theorem d7 : decode yB 7 = .ok (.if_icmp (.ge) 37, 3) := by decide +kernel
theorem d10 : decode yB 10 = .ok (.aload_n 0, 1) := by decide +kernel
theorem d11 : decode yB 11 = .ok (.iload_n 1, 1) := by decide +kernel
theorem d12 : decode yB 12 = .ok (.caload, 1) := by decide +kernel
theorem d13 : decode yB 13 = .ok (.istore 6, 2) := by decide +kernel
theorem d15 : decode yB 15 = .ok (.iload 6, 2) := by decide +kernel
theorem d17 : decode yB 17 = .ok (.sipush 255, 3) := by decide +kernel
theorem d20 : decode yB 20 = .ok (.if_icmp (.le) 6, 3) := by decide +kernel
theorem d26 : decode yB 26 = .ok (.aload_n 2, 1) := by decide +kernel
theorem d27 : decode yB 27 = .ok (.iload_n 3, 1) := by decide +kernel
theorem d28 : decode yB 28 = .ok (.iload 6, 2) := by decide +kernel
theorem d30 : decode yB 30 = .ok (.i2b, 1) := by decide +kernel
theorem d31 : decode yB 31 = .ok (.bastore, 1) := by decide +kernel
theorem d32 : decode yB 32 = .ok (.iinc 1 1, 3) := by decide +kernel
theorem d35 : decode yB 35 = .ok (.iinc 3 1, 3) := by decide +kernel
theorem d38 : decode yB 38 = .ok (.iinc 5 1, 3) := by decide +kernel
theorem d41 : decode yB 41 = .ok (.goto (-38), 3) := by decide +kernel
theorem d44 : decode yB 44 = .ok (.iload 4, 2) := by decide +kernel
theorem d46 : decode yB 46 = .ok (.ireturn, 1) := by decide +kernel
def site : List Cond := []
def tab : Cond := tabOf yN yB 7 (some .int) site
def P (b : Addr) (A : Cell) (d : Addr) (B : Cell) (o q len : Nat) (args : Array Value) (s : State) : Prop := args = #[.ref b, .int (Int32.ofNat o), .ref d, .int (Int32.ofNat q), .int (Int32.ofNat len)] ∧ Ch b A s ∧ Arr .byte d B s ∧ b ≠ d ∧ o + len ≤ A.slots.size ∧ q + len ≤ B.slots.size ∧ ∀ i, i < len → ¬ 255 < cv A (o + i)
def E (b : Addr) (A : Cell) (d : Addr) (B : Cell) (o q len : Nat) (r : Option Value) (s u : State) : Prop := r = some (.int (Int32.ofNat len)) ∧ ∃ B', Put d B' s u ∧ Laid B B' q (q + len) (fun j => Value.int (lo8 (cv A (o + (j - q)))))
/-- no char of the range above 255: len; the places written hold each char's low byte -/
theorem law (l : Launch) (b : Addr) (A : Cell) (d : Addr) (B : Cell) (o q len : Nat) : Law l yN 5 5 0 0 yB 7 (some .int) site (P b A d B o q len) (E b A d B o q len) (copyLocs d q len) 0 0 := by
  refine Law.of_walk (plainFor_of_name (by decide +kernel)) (by decide +kernel) (by decide +kernel) (by decide) (fun _ _ h => by rw [h.1]; rfl) (fun _ U U' hal hh h => ⟨h.1, h.2.1.mv hal hh, h.2.2.1.mv hal hh, h.2.2.2⟩) (fun r U U' V V' h1 hal h2 h => ⟨h.1, h.2.elim fun B' q => ⟨B', q.1.mv h1 h2, q.2⟩⟩) ?_
  intro p e s m args below meth c s₁ X0 hexec hbytes hml hret hlk hnm hown hh0 W hP
  obtain ⟨rfl, hA, hB, hne, l1, l2, hp⟩ := hP
  have c1 : Steps p.tables e below (s₁.setTop (entryFrame m #[.ref b, .int (Int32.ofNat o), .ref d, .int (Int32.ofNat q), .int (Int32.ofNat len)] 7)) (s₁.setTop (mkF m 0 #[.val (.ref b), .val (.int (Int32.ofNat o)), .val (.ref d), .val (.int (Int32.ofNat q)), .val (.int (Int32.ofNat len)), .unset, .unset] [])) := entry rfl
  have hA0 := hA.1.mv X0.warmed.alike hh0
  have hB0 := hB.mv X0.warmed.alike hh0
  have a31 := hA.1.2.2.2
  have c2 : Steps p.tables e below (s₁.setTop (entryFrame m #[.ref b, .int (Int32.ofNat o), .ref d, .int (Int32.ofNat q), .int (Int32.ofNat len)] 7)) (s₁.setTop (mkF m 3 #[.val (.ref b), .val (.int (Int32.ofNat o)), .val (.ref d), .val (.int (Int32.ofNat q)), .val (.int (Int32.ofNat len)), .val (.int 0), .unset] [])) := c1.trans (by
    refine iconstV X0.here hexec rfl 0 (hb hbytes d0) (by decide) ?_
    refine XS.istore X0.here hexec rfl (hb hbytes d1) rfl rfl ?_
    exact Steps.refl _)
  have loop : ∀ (r i : Nat), i + r = len → ∀ (z : Slot), (z = .unset ∨ ∃ w, z = .val w ∧ w.category = 1) → ∀ (Tl : State) (Bk : Cell), Stand p l e { frames := 0, locals := 0, cells := 0, slots := 0 } s m #[.ref b, .int (Int32.ofNat o), .ref d, .int (Int32.ofNat q), .int (Int32.ofNat len)] below meth c Tl ([] ++ copyLocs d q i) 0 0 → Put d Bk s₁ Tl → Laid B Bk q (q + i) (fun j => Value.int (lo8 (cv A (o + (j - q))))) →
      Steps p.tables e below (s₁.setTop (entryFrame m #[.ref b, .int (Int32.ofNat o), .ref d, .int (Int32.ofNat q), .int (Int32.ofNat len)] 7)) (Tl.setTop (mkF m 3 #[.val (.ref b), .val (.int (Int32.ofNat (o + i))), .val (.ref d), .val (.int (Int32.ofNat (q + i))), .val (.int (Int32.ofNat len)), .val (.int (Int32.ofNat i)), z] [])) → ∃ (T' : State) (B' : Cell) (z' : Slot), Stand p l e { frames := 0, locals := 0, cells := 0, slots := 0 } s m #[.ref b, .int (Int32.ofNat o), .ref d, .int (Int32.ofNat q), .int (Int32.ofNat len)] below meth c T' ([] ++ copyLocs d q len) 0 0 ∧ Put d B' s₁ T' ∧ Laid B B' q (q + len) (fun j => Value.int (lo8 (cv A (o + (j - q))))) ∧
      Steps p.tables e below (s₁.setTop (entryFrame m #[.ref b, .int (Int32.ofNat o), .ref d, .int (Int32.ofNat q), .int (Int32.ofNat len)] 7)) (T'.setTop (mkF m 3 #[.val (.ref b), .val (.int (Int32.ofNat (o + len))), .val (.ref d), .val (.int (Int32.ofNat (q + len))), .val (.int (Int32.ofNat len)), .val (.int (Int32.ofNat len)), z'] [])) := by
    intro r
    induction r with
    | zero =>
      intro i hi z hz Tl Bk Xl pl fl cl
      have hil : i = len := by omega
      rw [hil] at Xl fl cl
      exact ⟨Tl, Bk, z, Xl, pl, fl, cl⟩
    | succ r ih =>
      intro i hi z hz Tl Bk Xl pl fl cl
      have all := X0.warmed.alike.symm.trans Xl.warmed.alike
      have hAl := hA0.keep all (pl.other hne hA0.1)
      have hBk := hB0.like all pl.1 fl.1 fl.2.1 fl.2.2.1
      have hlt : q + i < Bk.slots.size := by rw [fl.2.2.1]; omega
      have c3 : Steps p.tables e below (s₁.setTop (entryFrame m #[.ref b, .int (Int32.ofNat o), .ref d, .int (Int32.ofNat q), .int (Int32.ofNat len)] 7)) (Tl.setTop (mkF m 12 #[.val (.ref b), .val (.int (Int32.ofNat (o + i))), .val (.ref d), .val (.int (Int32.ofNat (q + i))), .val (.int (Int32.ofNat len)), .val (.int (Int32.ofNat i)), z] [.int (Int32.ofNat (o + i)), .ref b])) := cl.trans (by
        refine XS.iload Xl.here hexec rfl (hb hbytes d3) rfl ?_
        refine XS.iload Xl.here hexec rfl (hb hbytes d5) rfl ?_
        refine XS.icmpNo Xl.here hexec rfl (hb hbytes d7) rfl (ii_ge_f (lt32 (by omega) (by omega))) ?_
        refine XS.aloadN Xl.here hexec rfl (hb hbytes d10) rfl rfl ?_
        refine XS.iloadN Xl.here hexec rfl (hb hbytes d11) rfl ?_
        exact Steps.refl _)
      have c4 : Steps p.tables e below (s₁.setTop (entryFrame m #[.ref b, .int (Int32.ofNat o), .ref d, .int (Int32.ofNat q), .int (Int32.ofNat len)] 7)) (Tl.setTop (mkF m 13 #[.val (.ref b), .val (.int (Int32.ofNat (o + i))), .val (.ref d), .val (.int (Int32.ofNat (q + i))), .val (.int (Int32.ofNat len)), .val (.int (Int32.ofNat i)), z] [.int (cv A (o + i))])) := c3.trans (by
        refine Xl.aget hexec hAl rfl (hA.get (i := o + i) (by omega)) rfl rfl (hb hbytes d12) ?_
        exact Steps.refl _)
      have c5 : Steps p.tables e below (s₁.setTop (entryFrame m #[.ref b, .int (Int32.ofNat o), .ref d, .int (Int32.ofNat q), .int (Int32.ofNat len)] 7)) (Tl.setTop (mkF m 15 #[.val (.ref b), .val (.int (Int32.ofNat (o + i))), .val (.ref d), .val (.int (Int32.ofNat (q + i))), .val (.int (Int32.ofNat len)), .val (.int (Int32.ofNat i)), .val (.int (cv A (o + i)))] [])) := c4.trans (by
        refine XS.istoreS Xl.here hexec rfl (hb hbytes d13) rfl rfl hz ?_
        exact Steps.refl _)
      have c6 : Steps p.tables e below (s₁.setTop (entryFrame m #[.ref b, .int (Int32.ofNat o), .ref d, .int (Int32.ofNat q), .int (Int32.ofNat len)] 7)) (Tl.setTop (mkF m 31 #[.val (.ref b), .val (.int (Int32.ofNat (o + i))), .val (.ref d), .val (.int (Int32.ofNat (q + i))), .val (.int (Int32.ofNat len)), .val (.int (Int32.ofNat i)), .val (.int (cv A (o + i)))] [.int (lo8 (cv A (o + i))), .int (Int32.ofNat (q + i)), .ref d])) := c5.trans (by
        refine XS.iload Xl.here hexec rfl (hb hbytes d15) rfl ?_
        refine sipushV Xl.here hexec rfl 255 (hb hbytes d17) (by decide) ?_
        refine XS.icmpYes Xl.here hexec rfl (pc0 := 20) rfl (hb hbytes d20) rfl (ii_le_t (hp i (by omega))) (by decide) rfl ?_
        refine XS.aloadN Xl.here hexec rfl (hb hbytes d26) rfl rfl ?_
        refine XS.iloadN Xl.here hexec rfl (hb hbytes d27) rfl ?_
        refine XS.iload Xl.here hexec rfl (hb hbytes d28) rfl ?_
        refine i2b Xl.here hexec rfl (hb hbytes d30) rfl ?_
        exact Steps.refl _)
      obtain ⟨T7, X7, p7, st7⟩ := Xl.aput hexec hBk rfl hlt rfl (fits_lo8 (cv A (o + i))) (g := (mkF m 31 #[.val (.ref b), .val (.int (Int32.ofNat (o + i))), .val (.ref d), .val (.int (Int32.ofNat (q + i))), .val (.int (Int32.ofNat len)), .val (.int (Int32.ofNat i)), .val (.int (cv A (o + i)))] [.int (lo8 (cv A (o + i))), .int (Int32.ofNat (q + i)), .ref d])) rfl (rest := []) rfl (hb hbytes d31)
      have c8 : Steps p.tables e below (s₁.setTop (entryFrame m #[.ref b, .int (Int32.ofNat o), .ref d, .int (Int32.ofNat q), .int (Int32.ofNat len)] 7)) (T7.setTop (mkF m 32 #[.val (.ref b), .val (.int (Int32.ofNat (o + i))), .val (.ref d), .val (.int (Int32.ofNat (q + i))), .val (.int (Int32.ofNat len)), .val (.int (Int32.ofNat i)), .val (.int (cv A (o + i)))] [])) := c6.trans (st7 _ (Steps.refl _))
      have c9 : Steps p.tables e below (s₁.setTop (entryFrame m #[.ref b, .int (Int32.ofNat o), .ref d, .int (Int32.ofNat q), .int (Int32.ofNat len)] 7)) (T7.setTop (mkF m 3 #[.val (.ref b), .val (.int (Int32.ofNat (o + i) + 1)), .val (.ref d), .val (.int (Int32.ofNat (q + i) + 1)), .val (.int (Int32.ofNat len)), .val (.int (Int32.ofNat i + 1)), .val (.int (cv A (o + i)))] [])) := c8.trans (by
        refine iincV X7.here hexec rfl 1 (hb hbytes d32) (by decide) rfl rfl ?_
        refine iincV X7.here hexec rfl 1 (hb hbytes d35) (by decide) rfl rfl ?_
        refine iincV X7.here hexec rfl 1 (hb hbytes d38) (by decide) rfl rfl ?_
        refine XS.goto X7.here hexec rfl (pc0 := 41) rfl (hb hbytes d41) (by decide) rfl ?_
        exact Steps.refl _)
      have c10 : Steps p.tables e below (s₁.setTop (entryFrame m #[.ref b, .int (Int32.ofNat o), .ref d, .int (Int32.ofNat q), .int (Int32.ofNat len)] 7)) (T7.setTop (mkF m 3 #[.val (.ref b), .val (.int (Int32.ofNat (o + (i + 1)))), .val (.ref d), .val (.int (Int32.ofNat (q + (i + 1)))), .val (.int (Int32.ofNat len)), .val (.int (Int32.ofNat (i + 1))), .val (.int (cv A (o + i)))] [])) := by
        have := c9
        rw [succ32, succ32, succ32] at this
        exact this
      exact ih (i + 1) (by omega) _ (Or.inr ⟨_, rfl, rfl⟩) T7 _ (by rw [copyLocs_step, ← List.append_assoc]; exact X7) (pl.trans p7) (fl.step (by omega) hlt (by simp)) c10
  obtain ⟨T9, B9, z9, X9, p9, f9, g9⟩ := loop len 0 (by omega) .unset (Or.inl rfl) s₁ B (by simpa [copyLocs] using X0) ⟨hB0.1, fun _ _ => rfl, rfl⟩ (Laid.zero _ _ _) c2
  have c11 : Steps p.tables e below (s₁.setTop (entryFrame m #[.ref b, .int (Int32.ofNat o), .ref d, .int (Int32.ofNat q), .int (Int32.ofNat len)] 7)) (T9.setTop (mkF m 46 #[.val (.ref b), .val (.int (Int32.ofNat (o + len))), .val (.ref d), .val (.int (Int32.ofNat (q + len))), .val (.int (Int32.ofNat len)), .val (.int (Int32.ofNat len)), z9] [.int (Int32.ofNat len)])) := g9.trans (by
    refine XS.iload X9.here hexec rfl (hb hbytes d3) rfl ?_
    refine XS.iload X9.here hexec rfl (hb hbytes d5) rfl ?_
    refine XS.icmpYes X9.here hexec rfl (pc0 := 7) rfl (hb hbytes d7) rfl (ii_ge_t (nlt32 (by omega) (Nat.le_refl _))) (by decide) rfl ?_
    refine XS.iload X9.here hexec rfl (hb hbytes d44) rfl ?_
    exact Steps.refl _)
  exact ⟨T9, some (.int (Int32.ofNat len)), _, _, _, X9, by simp, rfl, rfl, (fun h => by cases h), ⟨rfl, B9, p9.from hh0, f9⟩, fun fs hl => c11.trans (X9.ireturnOut hexec hret rfl (Or.inl rfl) (hb hbytes d46) hl)⟩
end Cmp5
namespace Cmp3
def yN : MethodName := ⟨"java/lang/StringUTF16", "compress", "([CII)[B"⟩
abbrev yB : ByteArray := jdk_52_method_16_code
theorem d0 : decode yB 0 = .ok (.iload_n 2, 1) := by decide +kernel
theorem d1 : decode yB 1 = .ok (.newarray .byte, 2) := by decide +kernel
theorem d3 : decode yB 3 = .ok (.astore_n 3, 1) := by decide +kernel
theorem d4 : decode yB 4 = .ok (.aload_n 0, 1) := by decide +kernel
theorem d5 : decode yB 5 = .ok (.iload_n 1, 1) := by decide +kernel
theorem d6 : decode yB 6 = .ok (.aload_n 3, 1) := by decide +kernel
theorem d7 : decode yB 7 = .ok (.iconst 0, 1) := by decide +kernel
theorem d8 : decode yB 8 = .ok (.iload_n 2, 1) := by decide +kernel
theorem d9 : decode yB 9 = .ok (.invokestatic 115, 3) := by decide +kernel
theorem d12 : decode yB 12 = .ok (.istore 4, 2) := by decide +kernel
theorem d14 : decode yB 14 = .ok (.iload 4, 2) := by decide +kernel
theorem d16 : decode yB 16 = .ok (.iload_n 2, 1) := by decide +kernel
theorem d17 : decode yB 17 = .ok (.if_icmp (.eq) 40, 3) := by decide +kernel
theorem d57 : decode yB 57 = .ok (.aload_n 3, 1) := by decide +kernel
theorem d58 : decode yB 58 = .ok (.areturn, 1) := by decide +kernel
def site : List Cond := [.arrayClass .byte, Cmp5.tab] ++ staticW U16 115 Cmp5.yN
def tab : Cond := tabOf yN yB 6 (some (.array .byte)) site
def P (b : Addr) (A : Cell) (o len : Nat) (args : Array Value) (s : State) : Prop := args = #[.ref b, .int (Int32.ofNat o), .int (Int32.ofNat len)] ∧ Ch b A s ∧ o + len ≤ A.slots.size ∧ len ≤ 536870912 ∧ ∀ i, i < len → ¬ 255 < cv A (o + i)
def E (b : Addr) (A : Cell) (o len : Nat) (r : Option Value) (s u : State) : Prop := NewArr .byte "[B" len (fun j => .int (lo8 (cv A (o + j)))) r s u ∧ u.heap.size = s.heap.size + 1
/-- no char of the range above 255: a new byte[] of their low bytes -/
theorem law (l : Launch) (b : Addr) (A : Cell) (o len : Nat) : Law l yN 3 3 1 18 yB 6 (some (.array .byte)) site (P b A o len) (E b A o len) [] 1 len := by
  refine Law.of_walk (plainFor_of_name (by decide +kernel)) (by decide +kernel) (by decide +kernel) (by decide) (fun _ _ h => by rw [h.1]; rfl) (fun _ U U' hal hh h => ⟨h.1, h.2.1.mv hal hh, h.2.2⟩) (fun r U U' V V' h1 hal h2 h => ⟨NewArr.mv r U U' V V' h1 hal h2 h.1, by rw [h1, h2]; exact h.2⟩) ?_
  intro p e s m args below meth c s₁ X0 hexec hbytes hml hret hlk hnm hown hh0 W hP
  obtain ⟨rfl, hA, l1, l2, hp⟩ := hP
  have a31 := hA.1.2.2.2
  have c1 : Steps p.tables e below (s₁.setTop (entryFrame m #[.ref b, .int (Int32.ofNat o), .int (Int32.ofNat len)] 6)) (s₁.setTop (mkF m 0 #[.val (.ref b), .val (.int (Int32.ofNat o)), .val (.int (Int32.ofNat len)), .unset, .unset, .unset] [])) := entry rfl
  have c2 : Steps p.tables e below (s₁.setTop (entryFrame m #[.ref b, .int (Int32.ofNat o), .int (Int32.ofNat len)] 6)) (s₁.setTop (mkF m 1 #[.val (.ref b), .val (.int (Int32.ofNat o)), .val (.int (Int32.ofNat len)), .unset, .unset, .unset] [.int (Int32.ofNat len)])) := c1.trans (by
    refine XS.iloadN X0.here hexec rfl (hb hbytes d0) rfl ?_
    exact Steps.refl _)
  obtain ⟨T3, B3, X3, ba3, bs3, bv3, bh3, bf3, st3⟩ := X0.anew hexec (atype := .byte) (wk W (.arrayClass .byte)) rfl (by show len * 1 ≤ _; omega) (by omega) (g := (mkF m 1 #[.val (.ref b), .val (.int (Int32.ofNat o)), .val (.int (Int32.ofNat len)), .unset, .unset, .unset] [.int (Int32.ofNat len)])) rfl (hb hbytes d1) (rest := []) rfl (Nat.le_refl _) (by show 0 + len ≤ len; omega)
  rw [hh0] at ba3 st3
  have kp3 : XT.Kept s T3 := (XT.Kept.of_eq hh0).push bh3
  have hA3 := hA.keep X3.warmed.alike (kp3 _ _ hA.1.1)
  have hne : b ≠ s.heap.size := hA.1.ne
  have c4 : Steps p.tables e below (s₁.setTop (entryFrame m #[.ref b, .int (Int32.ofNat o), .int (Int32.ofNat len)] 6)) (T3.setTop (mkF m 3 #[.val (.ref b), .val (.int (Int32.ofNat o)), .val (.int (Int32.ofNat len)), .unset, .unset, .unset] [.ref s.heap.size])) := c2.trans (st3 _ (Steps.refl _))
  have c5 : Steps p.tables e below (s₁.setTop (entryFrame m #[.ref b, .int (Int32.ofNat o), .int (Int32.ofNat len)] 6)) (T3.setTop (mkF m 9 #[.val (.ref b), .val (.int (Int32.ofNat o)), .val (.int (Int32.ofNat len)), .val (.ref s.heap.size), .unset, .unset] [.int (Int32.ofNat len), .int 0, .ref s.heap.size, .int (Int32.ofNat o), .ref b])) := c4.trans (by
    refine XS.astoreN X3.here hexec rfl (hb hbytes d3) rfl rfl rfl ?_
    refine XS.aloadN X3.here hexec rfl (hb hbytes d4) rfl rfl ?_
    refine XS.iloadN X3.here hexec rfl (hb hbytes d5) rfl ?_
    refine XS.aloadN X3.here hexec rfl (hb hbytes d6) rfl rfl ?_
    refine iconstV X3.here hexec rfl 0 (hb hbytes d7) (by decide) ?_
    refine XS.iloadN X3.here hexec rfl (hb hbytes d8) rfl ?_
    exact Steps.refl _)
  obtain ⟨v6, T6, X6, E6, g6⟩ := X3.callS hexec (Cmp5.law l b A s.heap.size B3 o 0 len) hown (wks W (staticW U16 115 Cmp5.yN)) (wk W Cmp5.tab) (W := 0) (Nat.le_of_ble_eq_true rfl) (Nat.le_of_ble_eq_true rfl) (Nat.le_refl _) (by show 0 + len + 0 ≤ len; omega) (g := (mkF m 9 #[.val (.ref b), .val (.int (Int32.ofNat o)), .val (.int (Int32.ofNat len)), .val (.ref s.heap.size), .unset, .unset] [.int (Int32.ofNat len), .int (Int32.ofNat 0), .ref s.heap.size, .int (Int32.ofNat o), .ref b])) rfl (by rw [hml]; rfl) c5 (argsL := [.ref b, .int (Int32.ofNat o), .ref s.heap.size, .int (Int32.ofNat 0), .int (Int32.ofNat len)]) (rest := []) rfl rfl (by show 2 * 0 + 0 ≤ _; decide) (hb hbytes d9) (⟨rfl, hA3, ba3, hne, l1, by rw [bs3]; simp, hp⟩)
  obtain ⟨rfl, B6, p6, f6⟩ := E6
  have c7 : Steps p.tables e below (s₁.setTop (entryFrame m #[.ref b, .int (Int32.ofNat o), .int (Int32.ofNat len)] 6)) (T6.setTop (mkF m 12 #[.val (.ref b), .val (.int (Int32.ofNat o)), .val (.int (Int32.ofNat len)), .val (.ref s.heap.size), .unset, .unset] [.int (Int32.ofNat len)])) := g6
  have c8 : Steps p.tables e below (s₁.setTop (entryFrame m #[.ref b, .int (Int32.ofNat o), .int (Int32.ofNat len)] 6)) (T6.setTop (mkF m 58 #[.val (.ref b), .val (.int (Int32.ofNat o)), .val (.int (Int32.ofNat len)), .val (.ref s.heap.size), .val (.int (Int32.ofNat len)), .unset] [.ref s.heap.size])) := c7.trans (by
    refine XS.istore X6.here hexec rfl (hb hbytes d12) rfl rfl ?_
    refine XS.iload X6.here hexec rfl (hb hbytes d14) rfl ?_
    refine XS.iloadN X6.here hexec rfl (hb hbytes d16) rfl ?_
    refine XS.icmpYes X6.here hexec rfl (pc0 := 17) rfl (hb hbytes d17) rfl (ii_eq_t rfl) (by decide) rfl ?_
    refine XS.aloadN X6.here hexec rfl (hb hbytes d57) rfl rfl ?_
    exact Steps.refl _)
  have X8 := X6.wide (L' := []) (cells' := 1) (slots' := len) (fun x hx hlt => by
    simp only [List.nil_append, copyLocs, List.mem_map, List.mem_range] at hx
    obtain ⟨i, -, rfl⟩ := hx
    exact absurd hlt (Nat.lt_irrefl _)) (Nat.le_refl _) (by omega)
  exact ⟨T6, some (.ref s.heap.size), _, _, _, X8, rfl, rfl, rfl, (fun h => by cases h), ⟨⟨rfl, B6, ba3.like (X3.warmed.alike.symm.trans X6.warmed.alike) p6.1 f6.1 f6.2.1 f6.2.2.1, f6.2.1.trans bv3, by rw [X6.warmed.alike.findClass, f6.1]; exact bf3, by rw [f6.2.2.1, bs3]; simp, fun j hj => by rw [f6.2.2.2 j, if_pos (by omega)]; rfl, kp3.put p6 (Nat.le_refl _)⟩, by rw [p6.2.2, bh3, hh0]; simp⟩, fun fs hl => c8.trans (X8.areturnOut hexec rfl hret rfl (hb hbytes d58) hl)⟩
end Cmp3
namespace CodL
def yN : MethodName := ⟨"java/lang/StringUTF16", "coderFromArrayLen", "([BI)B"⟩
abbrev yB : ByteArray := jdk_52_method_15_code
theorem d0 : decode yB 0 = .ok (.iload_n 1, 1) := by decide +kernel
theorem d1 : decode yB 1 = .ok (.aload_n 0, 1) := by decide +kernel
theorem d2 : decode yB 2 = .ok (.arraylength, 1) := by decide +kernel
theorem d3 : decode yB 3 = .ok (.isub, 1) := by decide +kernel
theorem d4 : decode yB 4 = .ok (.bipush 31, 2) := by decide +kernel
theorem d6 : decode yB 6 = .ok (.iushr, 1) := by decide +kernel
theorem d7 : decode yB 7 = .ok (.i2b, 1) := by decide +kernel
theorem d8 : decode yB 8 = .ok (.ireturn, 1) := by decide +kernel
def site : List Cond := []
def tab : Cond := tabOf yN yB 2 (some .byte) site
def P (d : Addr) (B : Cell) (args : Array Value) (s : State) : Prop := args = #[.ref d, .int (Int32.ofNat B.slots.size)] ∧ Arr .byte d B s
def E (r : Option Value) (s u : State) : Prop := XT.PureE (some (.int 0)) r s u
/-- an array as long as the number of chars: LATIN1 -/
theorem law (l : Launch) (d : Addr) (B : Cell) : Law l yN 2 2 0 0 yB 2 (some .byte) site (P d B) E [] 0 0 := by
  refine Law.of_walk (plainFor_of_name (by decide +kernel)) (by decide +kernel) (by decide +kernel) (by decide) (fun _ _ h => by rw [h.1]; rfl) (fun _ U U' hal hh h => ⟨h.1, h.2.mv hal hh⟩) (fun r U U' V V' h1 hal h2 h => XT.PureE.mv r U U' V V' h1 hal h2 h) ?_
  intro p e s m args below meth c s₁ X0 hexec hbytes hml hret hlk hnm hown hh0 W hP
  obtain ⟨rfl, hB⟩ := hP
  have hB0 := hB.mv X0.warmed.alike hh0
  have c1 : Steps p.tables e below (s₁.setTop (entryFrame m #[.ref d, .int (Int32.ofNat B.slots.size)] 2)) (s₁.setTop (mkF m 0 #[.val (.ref d), .val (.int (Int32.ofNat B.slots.size))] [])) := entry rfl
  have c2 : Steps p.tables e below (s₁.setTop (entryFrame m #[.ref d, .int (Int32.ofNat B.slots.size)] 2)) (s₁.setTop (mkF m 2 #[.val (.ref d), .val (.int (Int32.ofNat B.slots.size))] [.ref d, .int (Int32.ofNat B.slots.size)])) := c1.trans (by
    refine XS.iloadN X0.here hexec rfl (hb hbytes d0) rfl ?_
    refine XS.aloadN X0.here hexec rfl (hb hbytes d1) rfl rfl ?_
    exact Steps.refl _)
  have c3 : Steps p.tables e below (s₁.setTop (entryFrame m #[.ref d, .int (Int32.ofNat B.slots.size)] 2)) (s₁.setTop (mkF m 8 #[.val (.ref d), .val (.int (Int32.ofNat B.slots.size))] [.int (lo8 (ushr (Int32.ofNat B.slots.size - Int32.ofNat B.slots.size) 31))])) := c2.trans (by
    refine X0.alen hexec hB0 rfl rfl (hb hbytes d2) ?_
    refine XS.isub X0.here hexec rfl (hb hbytes d3) rfl ?_
    refine bipushV X0.here hexec rfl 31 (hb hbytes d4) (by decide) ?_
    refine iushr X0.here hexec rfl (hb hbytes d6) rfl ?_
    refine i2b X0.here hexec rfl (hb hbytes d7) rfl ?_
    exact Steps.refl _)
  have e0 : lo8 (ushr (Int32.ofNat B.slots.size - Int32.ofNat B.slots.size) 31) = 0 := by rw [Int32.sub_self]; decide
  rw [e0] at c3
  exact ⟨s₁, some (.int 0), _, _, _, X0, rfl, rfl, rfl, (fun h => by cases h), ⟨rfl, hh0⟩, fun fs hl => c3.trans (X0.ireturnOut hexec hret rfl (Or.inr (Or.inr (Or.inl rfl))) (hb hbytes d8) hl)⟩
end CodL
/-- the String at a is Latin-1 over a new byte[] (the heap's one new cell): the low bytes of the len chars of A from o on; every cell but a is kept -/
def Got (a : Addr) (D : Cell) (fV fC : Field) (A : Cell) (o len : Nat) (r : Option Value) (s u : State) : Prop := r = none ∧ ∃ D' V : Cell, Blank "java/lang/String" a D' u ∧ Same D D' [fV.slot, fC.slot] ∧ D'.slots[fV.slot]? = some (.ref s.heap.size) ∧ D'.slots[fC.slot]? = some (.int 0) ∧ Arr .byte s.heap.size V u ∧ V.vm = .none ∧ u.vm.findClass "[B" = some V.cls ∧ V.slots.size = len ∧ (∀ j, j < len → V.slots[j]? = some (.int (lo8 (cv A (o + j))))) ∧ (∀ (y : Addr) (c : Cell), y ≠ a → s.heap[y]? = some c → u.heap[y]? = some c) ∧ u.heap.size = s.heap.size + 1
theorem Got.mv {a : Addr} {D A : Cell} {fV fC : Field} {o len : Nat} : ∀ r (U U' V V' : State), U'.heap = U.heap → V.vm.Alike V'.vm → V'.heap = V.heap → Got a D fV fC A o len r U V → Got a D fV fC A o len r U' V' :=
  fun r U U' V V' h1 hal h2 ⟨e0, D', X, a1, a2, a3, a4, a5, a6, a7, a8, a9, a10, a11⟩ => ⟨e0, D', X, a1.mv hal h2, a2, by rw [h1]; exact a3, a4, by rw [h1]; exact a5.mv hal h2, a6, by rw [hal.findClass]; exact a7, a8, a9, by rw [h1, h2]; exact a10, by rw [h1, h2]; exact a11⟩
namespace New4
def yN : MethodName := ⟨"java/lang/String", "<init>", "([CIILjava/lang/Void;)V"⟩
abbrev yB : ByteArray := jdk_42_method_149_code
theorem d0 : decode yB 0 = .ok (.aload_n 0, 1) := by decide +kernel
theorem d1 : decode yB 1 = .ok (.invokespecial 1, 3) := by decide +kernel
theorem d4 : decode yB 4 = .ok (.iload_n 3, 1) := by decide +kernel
theorem d5 : decode yB 5 = .ok (.ifCond (.ne) 22, 3) := by decide +kernel
theorem d27 : decode yB 27 = .ok (.getstatic 38, 3) := by decide +kernel
theorem d30 : decode yB 30 = .ok (.ifCond (.eq) 28, 3) := by decide +kernel
theorem d33 : decode yB 33 = .ok (.aload_n 1, 1) := by decide +kernel
theorem d34 : decode yB 34 = .ok (.iload_n 2, 1) := by decide +kernel
theorem d35 : decode yB 35 = .ok (.iload_n 3, 1) := by decide +kernel
theorem d36 : decode yB 36 = .ok (.invokestatic 177, 3) := by decide +kernel
theorem d39 : decode yB 39 = .ok (.astore 5, 2) := by decide +kernel
theorem d41 : decode yB 41 = .ok (.aload_n 0, 1) := by decide +kernel
theorem d42 : decode yB 42 = .ok (.aload 5, 2) := by decide +kernel
theorem d44 : decode yB 44 = .ok (.iload_n 3, 1) := by decide +kernel
theorem d45 : decode yB 45 = .ok (.invokestatic 47, 3) := by decide +kernel
theorem d48 : decode yB 48 = .ok (.putfield 15, 3) := by decide +kernel
theorem d51 : decode yB 51 = .ok (.aload_n 0, 1) := by decide +kernel
theorem d52 : decode yB 52 = .ok (.aload 5, 2) := by decide +kernel
theorem d54 : decode yB 54 = .ok (.putfield 9, 3) := by decide +kernel
theorem d57 : decode yB 57 = .ok (.return_, 1) := by decide +kernel
def site : List Cond := [.fieldLink "java/lang/String" 38 "java/lang/String" "COMPACT_STRINGS" "Z", Cmp3.tab, CodL.tab, .laysFinal "java/lang/String" "java/lang/String" "value" "[B", .fieldLink "java/lang/String" 9 "java/lang/String" "value" "[B", .laysFinal "java/lang/String" "java/lang/String" "coder" "B", .fieldLink "java/lang/String" 15 "java/lang/String" "coder" "B"] ++ objW "java/lang/String" 1 ++ staticW "java/lang/String" 177 Cmp3.yN ++ staticW "java/lang/String" 47 CodL.yN
def tab : Cond := tabOf yN yB 6 none site
def P (a : Addr) (D : Cell) (fV fC : Field) (b : Addr) (A : Cell) (z : Int32) (o len : Nat) (args : Array Value) (s : State) : Prop := args = #[.ref a, .ref b, .int (Int32.ofNat o), .int (Int32.ofNat len), .null] ∧ Blank "java/lang/String" a D s ∧ Found "java/lang/String" "value" "[B" fV s ∧ Found "java/lang/String" "coder" "B" fC s ∧ Ch b A s ∧ StaticIs s "java/lang/String" "COMPACT_STRINGS" "Z" (.int z) ∧ ¬ z = 0 ∧ 0 < len ∧ o + len ≤ A.slots.size ∧ len ≤ 536870912 ∧ ∀ i, i < len → ¬ 255 < cv A (o + i)
def E (a : Addr) (D : Cell) (fV fC : Field) (A : Cell) (o len : Nat) (r : Option Value) (s u : State) : Prop := Got a D fV fC A o len r s u
/-- len > 0, no char of the range above 255: a Latin-1 String of their low bytes -/
theorem law (l : Launch) (a : Addr) (D : Cell) (fV fC : Field) (b : Addr) (A : Cell) (z : Int32) (o len : Nat) : Law l yN 5 4 2 35 yB 6 none site (P a D fV fC b A z o len) (E a D fV fC A o len) [⟨a, fC.slot⟩, ⟨a, fV.slot⟩] 1 len := by
  refine Law.of_walk (plainFor_of_name (by decide +kernel)) (by decide +kernel) (by decide +kernel) (by decide) (fun _ _ h => by rw [h.1]; rfl) (fun _ U U' hal hh h => ⟨h.1, h.2.1.mv hal hh, h.2.2.1.al hal, h.2.2.2.1.al hal, h.2.2.2.2.1.mv hal hh, h.2.2.2.2.2.1.there hal hh, h.2.2.2.2.2.2⟩) (fun r U U' V V' h1 hal h2 h => Got.mv r U U' V V' h1 hal h2 h) ?_
  intro p e s m args below meth c s₁ X0 hexec hbytes hml hret hlk hnm hown hh0 W hP
  obtain ⟨rfl, hB, f1, f2, hA, s1, hz, l0, l1, l2, hp⟩ := hP
  have a31 := hA.1.2.2.2
  have c1 : Steps p.tables e below (s₁.setTop (entryFrame m #[.ref a, .ref b, .int (Int32.ofNat o), .int (Int32.ofNat len), .null] 6)) (s₁.setTop (mkF m 0 #[.val (.ref a), .val (.ref b), .val (.int (Int32.ofNat o)), .val (.int (Int32.ofNat len)), .val .null, .unset] [])) := entry rfl
  have c2 : Steps p.tables e below (s₁.setTop (entryFrame m #[.ref a, .ref b, .int (Int32.ofNat o), .int (Int32.ofNat len), .null] 6)) (s₁.setTop (mkF m 1 #[.val (.ref a), .val (.ref b), .val (.int (Int32.ofNat o)), .val (.int (Int32.ofNat len)), .val .null, .unset] [.ref a])) := c1.trans (by
    refine XS.aloadN X0.here hexec rfl (hb hbytes d0) rfl rfl ?_
    exact Steps.refl _)
  obtain ⟨T3, X3, q3, st3⟩ := X0.oinit hexec hown (wks W (objW "java/lang/String" 1)) (g := (mkF m 1 #[.val (.ref a), .val (.ref b), .val (.int (Int32.ofNat o)), .val (.int (Int32.ofNat len)), .val .null, .unset] [.ref a])) rfl (by rw [hml]; rfl) (rest := []) rfl (hb hbytes d1) (W := 0) (by show 2 * 0 + 0 ≤ _; decide) (Nat.le_of_ble_eq_true rfl) (Nat.le_of_ble_eq_true rfl)
  have hh3 := q3.trans hh0
  have c4 : Steps p.tables e below (s₁.setTop (entryFrame m #[.ref a, .ref b, .int (Int32.ofNat o), .int (Int32.ofNat len), .null] 6)) (T3.setTop (mkF m 27 #[.val (.ref a), .val (.ref b), .val (.int (Int32.ofNat o)), .val (.int (Int32.ofNat len)), .val .null, .unset] [])) := (c2.trans (st3 _ (Steps.refl _))).trans (by
    refine XS.iloadN X3.here hexec rfl (hb hbytes d4) rfl ?_
    refine XS.ifYes X3.here hexec rfl (pc0 := 5) rfl (hb hbytes d5) rfl (i0_ne_t (nz32 (by omega) l0)) (by decide) rfl ?_
    exact Steps.refl _)
  obtain ⟨T5, X5, q5, st5⟩ := X3.sget hexec hown (wk W (.fieldLink "java/lang/String" 38 "java/lang/String" "COMPACT_STRINGS" "Z")) s1 (fun _ _ h => by rw [hh3]; exact h) (g := (mkF m 27 #[.val (.ref a), .val (.ref b), .val (.int (Int32.ofNat o)), .val (.int (Int32.ofNat len)), .val .null, .unset] [])) rfl (hb hbytes d27)
  have hh5 := q5.trans hh3
  have c6 : Steps p.tables e below (s₁.setTop (entryFrame m #[.ref a, .ref b, .int (Int32.ofNat o), .int (Int32.ofNat len), .null] 6)) (T5.setTop (mkF m 30 #[.val (.ref a), .val (.ref b), .val (.int (Int32.ofNat o)), .val (.int (Int32.ofNat len)), .val .null, .unset] [.int z])) := c4.trans (st5 _ (Steps.refl _))
  have c7 : Steps p.tables e below (s₁.setTop (entryFrame m #[.ref a, .ref b, .int (Int32.ofNat o), .int (Int32.ofNat len), .null] 6)) (T5.setTop (mkF m 36 #[.val (.ref a), .val (.ref b), .val (.int (Int32.ofNat o)), .val (.int (Int32.ofNat len)), .val .null, .unset] [.int (Int32.ofNat len), .int (Int32.ofNat o), .ref b])) := c6.trans (by
    refine XS.ifNo X5.here hexec rfl (hb hbytes d30) rfl (i0_eq_f hz) ?_
    refine XS.aloadN X5.here hexec rfl (hb hbytes d33) rfl rfl ?_
    refine XS.iloadN X5.here hexec rfl (hb hbytes d34) rfl ?_
    refine XS.iloadN X5.here hexec rfl (hb hbytes d35) rfl ?_
    exact Steps.refl _)
  obtain ⟨v8, T8, X8, E8, g8⟩ := X5.callS hexec (Cmp3.law l b A o len) hown (wks W (staticW "java/lang/String" 177 Cmp3.yN)) (wk W Cmp3.tab) (W := 0) (Nat.le_of_ble_eq_true rfl) (Nat.le_of_ble_eq_true rfl) (Nat.le_refl _) (by show 0 + len ≤ len; omega) (g := (mkF m 36 #[.val (.ref a), .val (.ref b), .val (.int (Int32.ofNat o)), .val (.int (Int32.ofNat len)), .val .null, .unset] [.int (Int32.ofNat len), .int (Int32.ofNat o), .ref b])) rfl (by rw [hml]; rfl) c7 (argsL := [.ref b, .int (Int32.ofNat o), .int (Int32.ofNat len)]) (rest := []) rfl rfl (by show 2 * 0 + 0 ≤ _; decide) (hb hbytes d36) (⟨rfl, hA.mv X5.warmed.alike hh5, l1, l2, hp⟩)
  obtain ⟨e8, z8⟩ := E8
  obtain ⟨rfl, N, n1, n2, n3, n4, n5, n6⟩ := NewArr.mv _ T5 s _ _ hh5.symm (Vm.Alike.refl _) rfl e8
  rw [hh5] at z8
  have hB1 := hB.keep X8.warmed.alike (n6 _ _ hB.1)
  have hne : s.heap.size ≠ a := (Nat.ne_of_lt (Array.getElem?_eq_some_iff.mp hB.1).1).symm
  have c9 : Steps p.tables e below (s₁.setTop (entryFrame m #[.ref a, .ref b, .int (Int32.ofNat o), .int (Int32.ofNat len), .null] 6)) (T8.setTop (mkF m 39 #[.val (.ref a), .val (.ref b), .val (.int (Int32.ofNat o)), .val (.int (Int32.ofNat len)), .val .null, .unset] [.ref s.heap.size])) := g8
  have c10 : Steps p.tables e below (s₁.setTop (entryFrame m #[.ref a, .ref b, .int (Int32.ofNat o), .int (Int32.ofNat len), .null] 6)) (T8.setTop (mkF m 45 #[.val (.ref a), .val (.ref b), .val (.int (Int32.ofNat o)), .val (.int (Int32.ofNat len)), .val .null, .val (.ref s.heap.size)] [.int (Int32.ofNat N.slots.size), .ref s.heap.size, .ref a])) := by
    have hc : Steps p.tables e below (s₁.setTop (entryFrame m #[.ref a, .ref b, .int (Int32.ofNat o), .int (Int32.ofNat len), .null] 6)) (T8.setTop (mkF m 45 #[.val (.ref a), .val (.ref b), .val (.int (Int32.ofNat o)), .val (.int (Int32.ofNat len)), .val .null, .val (.ref s.heap.size)] [.int (Int32.ofNat len), .ref s.heap.size, .ref a])) := c9.trans (by
      refine XS.astore X8.here hexec rfl (hb hbytes d39) rfl rfl rfl ?_
      refine XS.aloadN X8.here hexec rfl (hb hbytes d41) rfl rfl ?_
      refine XS.aload X8.here hexec rfl (hb hbytes d42) rfl rfl ?_
      refine XS.iloadN X8.here hexec rfl (hb hbytes d44) rfl ?_
      exact Steps.refl _)
    rw [n4]; exact hc
  obtain ⟨v11, T11, X11, E11, g11⟩ := X8.callS hexec (CodL.law l s.heap.size N) hown (wks W (staticW "java/lang/String" 47 CodL.yN)) (wk W CodL.tab) (W := 1) (Nat.le_of_ble_eq_true rfl) (Nat.le_of_ble_eq_true rfl) (Nat.le_refl _) (by show 0 + len + 0 ≤ len; omega) (g := (mkF m 45 #[.val (.ref a), .val (.ref b), .val (.int (Int32.ofNat o)), .val (.int (Int32.ofNat len)), .val .null, .val (.ref s.heap.size)] [.int (Int32.ofNat N.slots.size), .ref s.heap.size, .ref a])) rfl (by rw [hml]; rfl) c10 (argsL := [.ref s.heap.size, .int (Int32.ofNat N.slots.size)]) (rest := [.ref a]) rfl rfl (by show 2 * 0 + (1 + 0) ≤ _; decide) (hb hbytes d45) (⟨rfl, n1⟩)
  obtain ⟨rfl, q11⟩ := E11
  have hB11 := hB1.mv (X8.warmed.alike.symm.trans X11.warmed.alike) q11
  have c12 : Steps p.tables e below (s₁.setTop (entryFrame m #[.ref a, .ref b, .int (Int32.ofNat o), .int (Int32.ofNat len), .null] 6)) (T11.setTop (mkF m 48 #[.val (.ref a), .val (.ref b), .val (.int (Int32.ofNat o)), .val (.int (Int32.ofNat len)), .val .null, .val (.ref s.heap.size)] [.int 0, .ref a])) := g11
  obtain ⟨T13, X13, p13, bl13, sl13, st13⟩ := X11.finit hexec hown (wk W (.fieldLink "java/lang/String" 15 "java/lang/String" "coder" "B")) (Or.inr ⟨_, (wk W (.laysFinal "java/lang/String" "java/lang/String" "coder" "B"))⟩) (Or.inl ⟨rfl, hnm⟩) f2 (Or.inl rfl) hB11 (t := .byte) (by decide +kernel) rfl (g := (mkF m 48 #[.val (.ref a), .val (.ref b), .val (.int (Int32.ofNat o)), .val (.int (Int32.ofNat len)), .val .null, .val (.ref s.heap.size)] [.int 0, .ref a])) rfl (rest := []) rfl (hb hbytes d48)
  have c14 : Steps p.tables e below (s₁.setTop (entryFrame m #[.ref a, .ref b, .int (Int32.ofNat o), .int (Int32.ofNat len), .null] 6)) (T13.setTop (mkF m 54 #[.val (.ref a), .val (.ref b), .val (.int (Int32.ofNat o)), .val (.int (Int32.ofNat len)), .val .null, .val (.ref s.heap.size)] [.ref s.heap.size, .ref a])) := (c12.trans (st13 _ (Steps.refl _))).trans (by
    refine XS.aloadN X13.here hexec rfl (hb hbytes d51) rfl rfl ?_
    refine XS.aload X13.here hexec rfl (hb hbytes d52) rfl rfl ?_
    exact Steps.refl _)
  obtain ⟨T15, X15, p15, bl15, sl15, st15⟩ := X13.finit hexec hown (wk W (.fieldLink "java/lang/String" 9 "java/lang/String" "value" "[B")) (Or.inr ⟨_, (wk W (.laysFinal "java/lang/String" "java/lang/String" "value" "[B"))⟩) (Or.inl ⟨rfl, hnm⟩) f1 (Or.inl rfl) bl13 (t := (.array .byte)) (by decide +kernel) rfl (g := (mkF m 54 #[.val (.ref a), .val (.ref b), .val (.int (Int32.ofNat o)), .val (.int (Int32.ofNat len)), .val .null, .val (.ref s.heap.size)] [.ref s.heap.size, .ref a])) rfl (rest := []) rfl (hb hbytes d54)
  have c16 : Steps p.tables e below (s₁.setTop (entryFrame m #[.ref a, .ref b, .int (Int32.ofNat o), .int (Int32.ofNat len), .null] 6)) (T15.setTop (mkF m 57 #[.val (.ref a), .val (.ref b), .val (.int (Int32.ofNat o)), .val (.int (Int32.ofNat len)), .val .null, .val (.ref s.heap.size)] [])) := c14.trans (st15 _ (Steps.refl _))
  have ap := apart (Or.inr ⟨_, (wk W (.laysFinal "java/lang/String" "java/lang/String" "value" "[B"))⟩) (Or.inr ⟨_, (wk W (.laysFinal "java/lang/String" "java/lang/String" "coder" "B"))⟩) f1 f2 (t₁ := .array .byte) (t₂ := .byte) (by decide +kernel) (by decide +kernel) (by decide)
  have al := X8.warmed.alike.symm.trans X15.warmed.alike
  have n7 : T11.heap[s.heap.size]? = some N := by rw [q11]; exact n1.1
  exact ⟨T15, none, _, _, _, X15, by simp, rfl, by omega, (fun _ => rfl), ⟨rfl, _, N, bl15, ((Same.refl D _).set _ (by simp)).set _ (by simp), sl15, (Cell.slots_setSlot_ne _ ap).trans sl13, n1.keep al (p15.other hne (p13.other hne n7)), n2, by rw [al.findClass]; exact n3, n4, n5, fun y c h1 h2 => p15.other h1 (p13.other h1 (by rw [q11]; exact n6 y c h2)), by rw [p15.2.2, p13.2.2, q11]; exact z8⟩, fun fs hl => c16.trans (X15.returnOut hexec hret (hb hbytes d57) hl)⟩
end New4
namespace New1
def yN : MethodName := ⟨"java/lang/String", "<init>", "([C)V"⟩
abbrev yB : ByteArray := jdk_42_method_3_code
theorem d0 : decode yB 0 = .ok (.aload_n 0, 1) := by decide +kernel
theorem d1 : decode yB 1 = .ok (.aload_n 1, 1) := by decide +kernel
theorem d2 : decode yB 2 = .ok (.iconst 0, 1) := by decide +kernel
theorem d3 : decode yB 3 = .ok (.aload_n 1, 1) := by decide +kernel
theorem d4 : decode yB 4 = .ok (.arraylength, 1) := by decide +kernel
theorem d5 : decode yB 5 = .ok (.aconst_null, 1) := by decide +kernel
theorem d6 : decode yB 6 = .ok (.invokespecial 27, 3) := by decide +kernel
theorem d9 : decode yB 9 = .ok (.return_, 1) := by decide +kernel
def site : List Cond := [New4.tab] ++ initW "java/lang/String" 27 New4.yN
def tab : Cond := tabOf yN yB 2 none site
def P (a : Addr) (D : Cell) (fV fC : Field) (b : Addr) (A : Cell) (z : Int32) (args : Array Value) (s : State) : Prop := args = #[.ref a, .ref b] ∧ Blank "java/lang/String" a D s ∧ Found "java/lang/String" "value" "[B" fV s ∧ Found "java/lang/String" "coder" "B" fC s ∧ Ch b A s ∧ StaticIs s "java/lang/String" "COMPACT_STRINGS" "Z" (.int z) ∧ ¬ z = 0 ∧ 0 < A.slots.size ∧ A.slots.size ≤ 536870912 ∧ ∀ i, i < A.slots.size → ¬ 255 < cv A i
def E (a : Addr) (D : Cell) (fV fC : Field) (A : Cell) (r : Option Value) (s u : State) : Prop := Got a D fV fC A 0 A.slots.size r s u
/-- new String(chars), not empty, no char above 255: a Latin-1 String of their low bytes -/
theorem law (l : Launch) (a : Addr) (D : Cell) (fV fC : Field) (b : Addr) (A : Cell) (z : Int32) : Law l yN 2 1 3 52 yB 2 none site (P a D fV fC b A z) (E a D fV fC A) [⟨a, fC.slot⟩, ⟨a, fV.slot⟩] 1 A.slots.size := by
  refine Law.of_walk (plainFor_of_name (by decide +kernel)) (by decide +kernel) (by decide +kernel) (by decide) (fun _ _ h => by rw [h.1]; rfl) (fun _ U U' hal hh h => ⟨h.1, h.2.1.mv hal hh, h.2.2.1.al hal, h.2.2.2.1.al hal, h.2.2.2.2.1.mv hal hh, h.2.2.2.2.2.1.there hal hh, h.2.2.2.2.2.2⟩) (fun r U U' V V' h1 hal h2 h => Got.mv r U U' V V' h1 hal h2 h) ?_
  intro p e s m args below meth c s₁ X0 hexec hbytes hml hret hlk hnm hown hh0 W hP
  obtain ⟨rfl, hB, f1, f2, hA, s1, hz, l0, l2, hp⟩ := hP
  have c1 : Steps p.tables e below (s₁.setTop (entryFrame m #[.ref a, .ref b] 2)) (s₁.setTop (mkF m 0 #[.val (.ref a), .val (.ref b)] [])) := entry rfl
  have c2 : Steps p.tables e below (s₁.setTop (entryFrame m #[.ref a, .ref b] 2)) (s₁.setTop (mkF m 6 #[.val (.ref a), .val (.ref b)] [.null, .int (Int32.ofNat A.slots.size), .int 0, .ref b, .ref a])) := c1.trans (by
    refine XS.aloadN X0.here hexec rfl (hb hbytes d0) rfl rfl ?_
    refine XS.aloadN X0.here hexec rfl (hb hbytes d1) rfl rfl ?_
    refine iconstV X0.here hexec rfl 0 (hb hbytes d2) (by decide) ?_
    refine XS.aloadN X0.here hexec rfl (hb hbytes d3) rfl rfl ?_
    refine X0.alen hexec (hA.1.mv X0.warmed.alike hh0) rfl rfl (hb hbytes d4) ?_
    refine XS.aconstNull X0.here hexec rfl (hb hbytes d5) ?_
    exact Steps.refl _)
  obtain ⟨v3, T3, X3, E3, g3⟩ := X0.callN hexec (New4.law l a D fV fC b A z 0 A.slots.size) rfl hown (wks W (initW "java/lang/String" 27 New4.yN)) (W New4.tab (by simp only [site, List.mem_cons, List.mem_append, true_or, or_true])) (W := 0) (Nat.le_of_ble_eq_true rfl) (Nat.le_of_ble_eq_true rfl) (Nat.le_refl _) (by show 0 + A.slots.size ≤ A.slots.size; omega) (g := (mkF m 6 #[.val (.ref a), .val (.ref b)] [.null, .int (Int32.ofNat A.slots.size), .int (Int32.ofNat 0), .ref b, .ref a])) rfl (by rw [hml]; rfl) c2 (argsL := [.ref b, .int (Int32.ofNat 0), .int (Int32.ofNat A.slots.size), .null]) (rest := []) rfl rfl (by show 2 * 0 + 0 ≤ _; decide) (hb hbytes d6) (⟨rfl, hB.mv X0.warmed.alike hh0, f1.al X0.warmed.alike, f2.al X0.warmed.alike, hA.mv X0.warmed.alike hh0, s1.there X0.warmed.alike hh0, hz, l0, by omega, l2, fun i hi => by rw [Nat.zero_add]; exact hp i hi⟩)
  have e0 := Got.mv _ s₁ s _ _ hh0.symm (Vm.Alike.refl _) rfl E3
  obtain rfl := e0.1
  have c4 : Steps p.tables e below (s₁.setTop (entryFrame m #[.ref a, .ref b] 2)) (T3.setTop (mkF m 9 #[.val (.ref a), .val (.ref b)] [])) := g3
  exact ⟨T3, none, _, _, _, X3, by simp, rfl, by omega, (fun _ => rfl), e0, fun fs hl => c4.trans (X3.returnOut hexec hret (hb hbytes d9) hl)⟩
theorem pays {l : Launch} {R : Room} {p : Program} {e : Env} {below : List Frame} {s : State} {sargs : Array Value} {len W : Nat} (a : Addr) (D : Cell) (fV fC : Field) (b : Addr) (A : Cell) (z : Int32) (htab : tab.before sargs s = true) (hfr : 4 ≤ R.frames) (hlo : W + 65 ≤ R.locals) :
    Back l R p e below s sargs yN len W (fun A₁ a₁ => A₁.cells + 1 ≤ R.cells ∧ A₁.slots + A.slots.size ≤ R.slots ∧ P a D fV fC b A z a₁ A₁.U) (fun A₁ _ v₁ B₁ => E a D fV fC A v₁ A₁.U B₁.U ∧ B₁.locs = A₁.locs ++ [⟨a, fC.slot⟩, ⟨a, fV.slot⟩] ∧ B₁.cells = A₁.cells + 1 ∧ B₁.slots = A₁.slots + A.slots.size) :=
  (law l a D fV fC b A z).pays htab hfr (by omega)
end New1
end StrChars
namespace StrChars.Road
open Jvm Sem ClassFile Op Lib Jvm.Stand Jvm.Free Jvm.Free.XT
open Jvm.Lib.Cold (StaticIs)
abbrev ST : String := "java/lang/String"
/-- every table word that New1's law asks, flat -/
abbrev words : List Jvm.Cond := [.code New1.yN New1.yB 2 none, .initialized ST, .methodLink ST 27 New4.yN, .instanceMethod New4.yN,
  .code New4.yN New4.yB 6 none, .fieldLink ST 38 ST "COMPACT_STRINGS" "Z", .laysFinal ST ST "value" "[B", .fieldLink ST 9 ST "value" "[B", .laysFinal ST ST "coder" "B", .fieldLink ST 15 ST "coder" "B",
  .methodLink ST 1 Lib.objectInit, .instanceMethod Lib.objectInit, .code Lib.objectInit ⟨#[0xb1]⟩ 1 none, .methodLink ST 177 Cmp3.yN, .static Cmp3.yN, .methodLink ST 47 CodL.yN, .static CodL.yN,
  .code Cmp3.yN Cmp3.yB 6 (some (.array .byte)), .initialized U16, .arrayClass .byte, .methodLink U16 115 Cmp5.yN, .static Cmp5.yN, .code Cmp5.yN Cmp5.yB 7 (some .int), .code CodL.yN CodL.yB 2 (some .byte)]
theorem tab_of {a : Array Value} {s : State} (h : ∀ w ∈ words, w.before a s = true) : New1.tab.before a s = true := by
  have h5 : Cmp5.tab.before a s = true := unparts (wk h (.code Cmp5.yN Cmp5.yB 7 (some .int))) (wks h (.initialized Cmp5.yN.cls :: Cmp5.site))
  have hc : CodL.tab.before a s = true := unparts (wk h (.code CodL.yN CodL.yB 2 (some .byte))) (wks h (.initialized CodL.yN.cls :: CodL.site))
  have q5 : ∀ w ∈ Cmp5.tab :: words, w.before a s = true := fun w hw => (List.mem_cons.mp hw).elim (fun e => e ▸ h5) (h w)
  have h3 : Cmp3.tab.before a s = true := unparts (wk q5 (.code Cmp3.yN Cmp3.yB 6 (some (.array .byte)))) (wks q5 (.initialized Cmp3.yN.cls :: Cmp3.site))
  have q3 : ∀ w ∈ Cmp3.tab :: CodL.tab :: words, w.before a s = true := fun w hw => (List.mem_cons.mp hw).elim (fun e => e ▸ h3) fun hw => (List.mem_cons.mp hw).elim (fun e => e ▸ hc) (h w)
  have h4 : New4.tab.before a s = true := unparts (wk q3 (.code New4.yN New4.yB 6 none)) (wks q3 (.initialized New4.yN.cls :: New4.site))
  have q4 : ∀ w ∈ New4.tab :: words, w.before a s = true := fun w hw => (List.mem_cons.mp hw).elim (fun e => e ▸ h4) (h w)
  exact unparts (wk q4 (.code New1.yN New1.yB 2 none)) (wks q4 (.initialized New1.yN.cls :: New1.site))
/-- the words ride from the start Z to the walk's own state -/
theorem moved {Z s : State} {a0 args : Array Value} (hZ : Z.Warmed39 s.vm) (hw : ∀ d ∈ words, d.before a0 Z = true) : ∀ d ∈ words, d.before args s = true := fun d hd => by
  have q := hw d hd
  have t : ∀ d ∈ words, d = .arrayClass .byte ∨ (d.onTables && d.keepsFace) = true := by decide +kernel
  rcases t d hd with rfl | t
  · exact RoadKit.mvA hZ q
  · exact RoadKit.mv hZ q t
/-- WHAT COMES BACK, over the tables of the start Z: h the heap at the call, h' behind it -/
def Q (Z : State) (x : Addr) (A : Cell) (h : Heap) (v : Option Value) (h' : Heap) (L : List Loc) : Prop := v = none ∧ (∀ y ∈ L, y.base = x) ∧ RoadKit.Keep h h' [x] ∧ h'.size = h.size + 1 ∧ RoadKit.Exa Z h' x ST ∧ RoadKit.Fld Z h' x ST "value" "[B" (.ref h.size) ∧ RoadKit.Fld Z h' x ST "coder" "B" (.int 0) ∧
  (∃ V : Cell, RoadKit.Arr Z h' h.size V .byte ∧ V.vm = .none ∧ Z.vm.findClass "[B" = some V.cls ∧ V.slots.size = A.slots.size ∧ ∀ j, j < A.slots.size → V.slots[j]? = some (.int (lo8 (cv A j)))) ∧
  ∀ (O n d : String) (w : Value), RoadKit.Fld Z h x O n d w → RoadKit.slotOf Z O n d ≠ RoadKit.slotOf Z ST "value" "[B" → RoadKit.slotOf Z O n d ≠ RoadKit.slotOf Z ST "coder" "B" → RoadKit.Fld Z h' x O n d w
/-- **new String(chars) AT A CALL, IN THE ROAD'S FORM**: for specialBack behind newO: x the fresh String, b the char[] with the cell A -/
theorem back {p : Program} {l : Launch} {e : Env} {R : Room} {s : State} {args : Array Value} {below : List Frame} {len W : Nat} {Z : State} {a0 : Array Value} {h : Heap} (hZ : Z.Warmed39 s.vm) (hw : ∀ d ∈ words, d.before a0 Z = true) {kI : Nat} (wi : (Jvm.Cond.instantiable ST kI).before a0 Z = true)
    {x b : Addr} {A : Cell} {z : Int32} {v0 c0 : Value} (E : RoadKit.Exa Z h x ST) (V : RoadKit.Fld Z h x ST "value" "[B" v0) (C : RoadKit.Fld Z h x ST "coder" "B" c0) (K : RoadKit.Arr Z h b A .char) (hty : Typed .char A) (S : RoadKit.Sta Z h ST "COMPACT_STRINGS" "Z" (.int z)) (hz : ¬ z = 0)
    (l0 : 0 < A.slots.size) (l2 : A.slots.size ≤ 536870912) (hp : ∀ i, i < A.slots.size → ¬ 255 < cv A i) (hfr : 4 ≤ R.frames) (hlo : W + 65 ≤ R.locals) :
    Back l R p e below s args New1.yN len W (fun P a => a = #[.ref x, .ref b] ∧ P.U.heap = h ∧ P.cells + 1 ≤ R.cells ∧ P.slots + A.slots.size ≤ R.slots)
      (fun P _ v B => ∃ L, Q Z x A h v B.U.heap L ∧ B.locs = P.locs ++ L ∧ B.cells = P.cells + 1 ∧ B.slots = P.slots + A.slots.size) := by
  intro m meth c P g ig mk a X hg hsize hdg hW hn hp'
  obtain ⟨rfl, rfl, r1, r2⟩ := hp'
  have al : Z.vm.Alike P.U.vm := hZ.alike.trans X.warmed.alike
  obtain ⟨D, cfV, kV, iV, fV, hD, gV, stV, knV, obV, asV, slV⟩ := id V
  obtain ⟨D', cfC, kC, iC, fC, hD', gC, stC, -, -, asC, slC⟩ := id C
  cases hD.symm.trans hD'
  obtain ⟨D2, kD, e1, e2, e3, e4, e5⟩ := id E
  cases hD.symm.trans e1
  obtain ⟨c2, k2, i1, i2, i3, -⟩ := Cond.instantiable_spec wi
  cases e2.symm.trans i1
  cases e3.symm.trans i2
  obtain ⟨kU, u1, u2⟩ := al.2.2 _ _ e3
  have hB : Blank ST x D P.U := ⟨hD, ⟨knV, fun q hq => by rw [hq] at obV; cases obV⟩, by rw [al.findClass]; exact e2, kU, u1, by rw [u2]; exact i3, by rw [u2]; exact e5 i3⟩
  have F1 : Found ST "value" "[B" fV P.U := ⟨SBG.found_only al ⟨cfV, kV, iV, gV⟩, stV⟩
  have F2 : Found ST "coder" "B" fC P.U := ⟨SBG.found_only al ⟨cfC, kC, iC, gC⟩, stC⟩
  have hA : Ch b A P.U := ⟨⟨K.1, State.isArrayOf_alike al K.2.1, K.2.2, by omega⟩, hty⟩
  have hS : StaticIs P.U ST "COMPACT_STRINGS" "Z" (.int z) := by
    obtain ⟨cfS, iS, kS, fS, st, cS, t1, t2, t3, t4, t5, t6, t7⟩ := S
    exact StaticIs.there (s := { Z with heap := P.U.heap }) ⟨cfS, iS, kS, fS, st, cS, t1, t2, t3, t4, t5, (fun q => by rw [q] at t6; cases t6), t7⟩ al rfl
  obtain ⟨v, B, X', ⟨⟨hv, E', V', q1, q2, q3, q4, q5, q6, q7, q8, q9, q10, q11⟩, hl, hc, hs⟩, st⟩ := New1.pays x D fV fC b A z (tab_of (moved hZ hw)) hfr hlo m meth c P g ig mk _ X hg hsize hdg hW hn ⟨r1, r2, rfl, hB, F1, F2, hA, hS, hz, l0, l2, hp⟩
  have al' : Z.vm.Alike B.U.vm := hZ.alike.trans X'.warmed.alike
  have hsz : E'.slots.size = D.slots.size := by
    obtain ⟨-, -, -, kB, w1, w2, w3⟩ := q1
    obtain ⟨kB', y1, y2⟩ := al'.2.2 _ _ e3
    rw [q2.2.1] at w1
    cases w1.symm.trans y1
    rw [w3, e5 i3, y2]
  refine ⟨v, B, X', ⟨_, ⟨hv, ?_, ⟨by omega, fun y cy hy hn' => q10 y cy (by simpa using hn') hy, fun y cy hy => ?_⟩, q11, ⟨E', _, q1.1, by rw [q2.2.1]; exact e2, by rw [q2.2.1]; exact e3, by rw [q2.1]; exact obV, fun _ => by rw [hsz]; exact e5 i3⟩,
    ⟨E', cfV, kV, iV, fV, q1.1, gV, stV, by rw [q2.1]; exact knV, by rw [q2.1]; exact obV, by rw [q2.2.1]; exact asV, q3⟩, ⟨E', cfC, kC, iC, fC, q1.1, gC, stC, by rw [q2.1]; exact knV, by rw [q2.1]; exact obV, by rw [q2.2.1]; exact asC, q4⟩,
    ⟨V', ⟨q5.1, State.isArrayOf_alike al'.symm q5.2.1, q5.2.2.1⟩, q6, by rw [← al'.findClass]; exact q7, q8, fun j hj => by have := q9 j hj; rwa [Nat.zero_add] at this⟩, fun O n d w F n1 n2 => ?_⟩, hl, hc, hs⟩, st⟩
  · intro y hy
    simp only [List.mem_cons, List.not_mem_nil, or_false] at hy
    rcases hy with rfl | rfl <;> rfl
  · by_cases q : y = x
    · subst q
      cases hD.symm.trans hy
      exact ⟨E', q1.1, q2.2.1, q2.1, hsz⟩
    · exact ⟨cy, q10 y cy q hy, rfl, rfl, rfl⟩
  · obtain ⟨D3, cf, k, i, f, g1, g2, g3, g4, g5, g6, g7⟩ := F
    cases hD.symm.trans g1
    simp only [RoadKit.slotOf, g2, gV, gC, Option.map_some, Option.getD_some] at n1 n2
    exact ⟨E', cf, k, i, f, q1.1, g2, g3, by rw [q2.1]; exact g4, by rw [q2.1]; exact g5, by rw [q2.2.1]; exact g6, by rw [q2.2.2 f.slot (by simp [n1, n2])]; exact g7⟩
end StrChars.Road
namespace StrChars.Road
open Jvm Sem ClassFile Op Lib Jvm.Stand Jvm.Free Jvm.Free.XT
/-- WHAT COMES BACK, the byte[] as a list of values -/
def QA (Z : State) (x : Addr) (zn : Int32) (cs : List Int32) (h : Heap) (v : Option Value) (h' : Heap) (L : List Loc) : Prop := v = none ∧ (∀ y ∈ L, y.base = x) ∧ RoadKit.Keep h h' [x] ∧ h'.size = h.size + 1 ∧ RoadKit.Exa Z h' x ST ∧ RoadKit.Fld Z h' x ST "value" "[B" (.ref h.size) ∧ RoadKit.Fld Z h' x ST "coder" "B" (.int 0) ∧
  (∃ kb, Z.vm.findClass "[B" = some kb ∧ RoadKit.Arv Z h' h.size kb .byte zn (cs.map fun c => .int (lo8 c)) (.int 0)) ∧
  ∀ (O n d : String) (w : Value), RoadKit.Fld Z h x O n d w → RoadKit.slotOf Z O n d ≠ RoadKit.slotOf Z ST "value" "[B" → RoadKit.slotOf Z O n d ≠ RoadKit.slotOf Z ST "coder" "B" → RoadKit.Fld Z h' x O n d w
/-- **new String(chars) AT A CALL, THE ARRAYS AS LISTS**: the char[] at b holds cs, not empty, no char above 255 -/
theorem backArv {p : Program} {l : Launch} {e : Env} {R : Room} {s : State} {args : Array Value} {below : List Frame} {len W : Nat} {Z : State} {a0 : Array Value} {h : Heap} (hZ : Z.Warmed39 s.vm) (hw : ∀ d ∈ words, d.before a0 Z = true) {kI : Nat} (wi : (Jvm.Cond.instantiable ST kI).before a0 Z = true)
    {x b : Addr} {k : ClassId} {zn z : Int32} {cs : List Int32} {dv v0 c0 : Value} (E : RoadKit.Exa Z h x ST) (V : RoadKit.Fld Z h x ST "value" "[B" v0) (C : RoadKit.Fld Z h x ST "coder" "B" c0) (K : RoadKit.Arv Z h b k .char zn (cs.map Value.int) dv) (S : RoadKit.Sta Z h ST "COMPACT_STRINGS" "Z" (.int z)) (hz : ¬ z = 0)
    (hlen : zn.toNatClampNeg = cs.length) (h0 : 0 < cs.length) (hbig : cs.length ≤ 536870912) (hall : ∀ c ∈ cs, ¬ 255 < c) (hfr : 4 ≤ R.frames) (hlo : W + 65 ≤ R.locals) :
    Back l R p e below s args New1.yN len W (fun P a => a = #[.ref x, .ref b] ∧ P.U.heap = h ∧ P.cells + 1 ≤ R.cells ∧ P.slots + cs.length ≤ R.slots)
      (fun P _ v B => ∃ L, QA Z x zn cs h v B.U.heap L ∧ B.locs = P.locs ++ L ∧ B.cells = P.cells + 1 ∧ B.slots = P.slots + cs.length) := by
  obtain ⟨A, K1, K2, K3, K4, K5, K6⟩ := K
  have e : A.slots.size = cs.length := K3.trans hlen
  have hat : ∀ (i : Nat) (hi : i < cs.length), A.slots[i]? = some (.int cs[i]) := fun i hi => by rw [K5 i (by omega)]; simp [List.getD_eq_getElem?_getD, hi]
  have hcv : ∀ (i : Nat) (hi : i < cs.length), cv A i = cs[i] := fun i hi => by unfold cv; rw [hat i hi]
  have hty : Typed .char A := fun i v hv => by
    have hi : i < A.slots.size := (Array.getElem?_eq_some_iff.mp hv).1
    have q := K5 i hi
    rw [hv] at q
    rw [Option.some.inj q]
    exact K6 i hi
  refine Back.mono (back hZ hw wi E V C K1 hty S hz (by omega) (by omega) (fun i hi => by rw [hcv i (by omega)]; exact hall _ (List.getElem_mem _)) hfr hlo) (fun P a hp => ⟨hp.1, hp.2.1, hp.2.2.1, by rw [e]; exact hp.2.2.2⟩) (fun P a v B hp hq => ?_)
  obtain ⟨L, ⟨q1, q2, q3, q4, q5, q6, q7, ⟨V', v1, v2, v3, v4, v5⟩, q9⟩, hl, hc, hs⟩ := hq
  refine ⟨L, ⟨q1, q2, q3, q4, q5, q6, q7, ⟨V'.cls, v3, V', v1, rfl, by rw [v4, e, hlen], K4, fun i hi => ?_, fun i hi => ?_⟩, q9⟩, hl, hc, by rw [hs, e]⟩
  · have hi' : i < cs.length := by omega
    rw [v5 i (by omega), hcv i hi']; simp [List.getD_eq_getElem?_getD, hi']
  · have hi' : i < cs.length := by omega
    simp only [List.getD_eq_getElem?_getD, List.getElem?_map, List.getElem?_eq_getElem hi', Option.map_some, Option.getD_some]
    exact fits_lo8 _
end StrChars.Road
namespace StrChars.Road
open Jvm Sem ClassFile Op Lib Jvm.Stand Jvm.Free Jvm.Free.XT
/-- WHAT COMES BACK, in the writer's own shape -/
def QV (Z : State) (x : Addr) (N : Int32) (bs : List Int32) (h : Heap) (n0 : Nat) (v : Option Value) (h' : Heap) (L : List Loc) : Prop := v = none ∧ RoadKit.Fr n0 L ∧ RoadKit.Keep h h' [x] ∧ RoadKit.Exa Z h' x ST ∧ RoadKit.Fld Z h' x ST "coder" "B" (.int 0) ∧
  ∃ (t : Addr) (kb : ClassId), n0 ≤ t ∧ h.size ≤ t ∧ ¬ t = x ∧ RoadKit.Fld Z h' x ST "value" "[B" (.ref t) ∧ RoadKit.Arv Z h' t kb .byte N (bs.map Value.int) (.int 0)
/-- **new String(chars) AT A CALL, FOR THE WRITER**: a char[] of n known ints, each 0 to 255 -/
theorem backV {p : Program} {l : Launch} {e : Env} {R : Room} {s : State} {args : Array Value} {below : List Frame} {len W : Nat} {Z : State} {a0 : Array Value} {h : Heap} (hZ : Z.Warmed39 s.vm) (hw : ∀ d ∈ words, d.before a0 Z = true) {kI : Nat} (wi : (Jvm.Cond.instantiable ST kI).before a0 Z = true)
    {x b : Addr} {kC : ClassId} {cs bs : List Int32} {d v0 c0 : Value} {z N : Int32} {n n0 : Nat} (hx0 : n0 ≤ x) (hh0 : n0 ≤ h.size) (E : RoadKit.Exa Z h x ST) (V : RoadKit.Fld Z h x ST "value" "[B" v0) (C : RoadKit.Fld Z h x ST "coder" "B" c0) (K : RoadKit.Arv Z h b kC .char N (cs.map Value.int) d) (S : RoadKit.Sta Z h ST "COMPACT_STRINGS" "Z" (.int z)) (hz : ¬ z = 0)
    (hn : cs.length = n) (hN : N = Int32.ofNat n) (l0 : 0 < n) (l2 : n ≤ 4000) (hp : ∀ c ∈ cs, ¬ c < 0 ∧ ¬ (255 : Int32) < c) (hb : bs = cs.map (fun c => c.toInt8.toInt32)) (hfr : 4 ≤ R.frames) (hlo : W + 65 ≤ R.locals) :
    Back l R p e below s args (⟨"java/lang/String", "<init>", "([C)V"⟩ : MethodName) len W (fun P a => a = #[.ref x, .ref b] ∧ P.U.heap = h ∧ P.cells + 1 ≤ R.cells ∧ P.slots + n ≤ R.slots)
      (fun P _ v B => ∃ L, QV Z x N bs h n0 v B.U.heap L ∧ B.locs = P.locs ++ L ∧ B.cells = P.cells + 1 ∧ B.slots = P.slots + n) := by
  subst hn hN hb
  refine Back.mono (backArv hZ hw wi E V C K S hz (n32 (by omega)) l0 (by omega) (fun c hc => (hp c hc).2) hfr hlo) (fun P a hp => hp) (fun P a v B hp hq => ?_)
  obtain ⟨L, ⟨q1, q2, q3, q4, q5, q6, q7, ⟨kb, v1, v2⟩, q9⟩, hl, hc, hs⟩ := hq
  exact ⟨L, ⟨q1, fun y hy => by rw [q2 y hy]; exact hx0, q3, q5, q7, h.size, kb, hh0, Nat.le_refl _, Nat.ne_of_gt E.lt, q6, by rw [List.map_map]; exact v2⟩, hl, hc, hs⟩
end StrChars.Road
end Jvm.Pilot.@@N@@
namespace Jvm.Pilot.@@N@@
open Jvm Jvm.ClassFile Sem Op Lib Jvm.Free Jvm.Stand Jvm.LawKit Jvm.RoadKit Bundle Jvm.Pilot.@@N@@.Jvm.D
section Own
variable {p : Program} {l : Launch} {e : Env} {R : Room} {s : State} {m : MethodId} {args : Array Value} {below : List Frame} {meth : Method} {c : Code} {T : State} {locs : List Loc} {cells slots : Nat}
/-- the goal of a walk, as seen from a state on its road -/
def Gl (p : Program) (e : Env) (below : List Frame) (K : Outcome → State → Prop) (A : State) : Prop := ∃ s₂ o, Steps p.tables e below A s₂ ∧ s₂.status = .running ∧ Ended s₂ below o ∧ K o s₂
theorem Gl.up {K : Outcome → State → Prop} {A B : State} (h : ∀ t, Steps p.tables e below B t → Steps p.tables e below A t) (k : Gl p e below K B) : Gl p e below K A := by
  obtain ⟨s2, o, h1, r⟩ := k
  exact ⟨s2, o, h _ h1, r⟩
/-- what a body leaves -/
def Ret (s : State) (rc rs : Nat) (Q : Option Value → Heap → List Loc → Prop) (o : Outcome) (U : State) : Prop := ∃ v L, o = .returned v ∧ Q v U.heap L ∧ FrameEnd s o U L rc rs
variable {rc rs : Nat} {Q : Option Value → Heap → List Loc → Prop} {pc : Nat} {Ls : Array Slot} {rest : List Value}
theorem Gl.retI (X : Stand p l e R s m args below meth c T locs cells slots) (hx : p.tables.exec = Jvm.exec) (hlk : meth.locks = false) {z : Int32} (hret : meth.sig.returnType = some .int) (hd : decode c.code pc = .ok (.ireturn, 1)) (hq : Q (some (.int z)) T.heap locs) (hc : cells ≤ rc) (hs : slots ≤ rs) :
    Gl p e below (Ret s rc rs Q) (T.setTop (mkF m pc Ls (.int z :: rest))) := by
  obtain ⟨fs, hr, hrun, hended, hW, hsame⟩ := X.leave (v := some (.int z)) (fun h => by rw [hret] at h; cases h) hlk
  exact ⟨_, _, retOut X hx hret rfl (Or.inl ⟨rfl, Or.inl rfl, z, rfl⟩) hd hr, hrun, hended, _, _, rfl, hq, ⟨_, rfl⟩, hW, hsame.mono hc hs⟩
theorem Gl.retJ (X : Stand p l e R s m args below meth c T locs cells slots) (hx : p.tables.exec = Jvm.exec) (hlk : meth.locks = false) {z : Int64} (hret : meth.sig.returnType = some .long) (hd : decode c.code pc = .ok (.lreturn, 1)) (hq : Q (some (.long z)) T.heap locs) (hc : cells ≤ rc) (hs : slots ≤ rs) :
    Gl p e below (Ret s rc rs Q) (T.setTop (mkF m pc Ls (.long z :: rest))) := by
  obtain ⟨fs, hr, hrun, hended, hW, hsame⟩ := X.leave (v := some (.long z)) (fun h => by rw [hret] at h; cases h) hlk
  exact ⟨_, _, retOut X hx hret rfl (Or.inr (Or.inl ⟨rfl, rfl, z, rfl⟩)) hd hr, hrun, hended, _, _, rfl, hq, ⟨_, rfl⟩, hW, hsame.mono hc hs⟩
theorem Gl.retN (X : Stand p l e R s m args below meth c T locs cells slots) (hx : p.tables.exec = Jvm.exec) (hlk : meth.locks = false) {z w : Int32} {t : FieldType} (hret : meth.sig.returnType = some t) (ht : t = .boolean ∨ t = .byte ∨ t = .char ∨ t = .short) (hd : decode c.code pc = .ok (.ireturn, 1)) (hn : nar t z = w) (hq : Q (some (.int w)) T.heap locs) (hc : cells ≤ rc) (hs : slots ≤ rs) :
    Gl p e below (Ret s rc rs Q) (T.setTop (mkF m pc Ls (.int z :: rest))) := by
  subst hn
  obtain ⟨fs, hr, hrun, hended, hW, hsame⟩ := X.leave (v := some (.int (nar t z))) (fun h => by rw [hret] at h; cases h) hlk
  exact ⟨_, _, Jvm.RoadKit.retN X hx hret ht hd hr, hrun, hended, _, _, rfl, hq, ⟨_, rfl⟩, hW, hsame.mono hc hs⟩
theorem Gl.ret0 (X : Stand p l e R s m args below meth c T locs cells slots) (hx : p.tables.exec = Jvm.exec) (hlk : meth.locks = false) (hret : meth.sig.returnType = none) (hd : decode c.code pc = .ok (.return_, 1)) (hq : Q none T.heap locs) (hc : cells ≤ rc) (hs : slots ≤ rs) :
    Gl p e below (Ret s rc rs Q) (T.setTop (mkF m pc Ls [])) := by
  obtain ⟨fs, hr, hrun, hended, hW, hsame⟩ := X.leave (v := none) (fun _ => rfl) hlk
  exact ⟨_, _, X.returnOut hx hret hd hr, hrun, hended, _, _, rfl, hq, ⟨_, rfl⟩, hW, hsame.mono hc hs⟩
theorem Gl.retR (X : Stand p l e R s m args below meth c T locs cells slots) (hx : p.tables.exec = Jvm.exec) (hlk : meth.locks = false) {v : Value} {t : FieldType} (hret : meth.sig.returnType = some t) (hd : decode c.code pc = .ok (.areturn, 1)) (ht : t.isReference = true) (hv : v.isRef = true) (hq : Q (some v) T.heap locs) (hc : cells ≤ rc) (hs : slots ≤ rs) :
    Gl p e below (Ret s rc rs Q) (T.setTop (mkF m pc Ls (v :: rest))) := by
  have hn : narrow t v = v := by cases t <;> first | rfl | (cases ht; done) | (cases v <;> first | rfl | (cases hv; done))
  obtain ⟨fs, hr, hrun, hended, hW, hsame⟩ := X.leave (v := some v) (fun h => by rw [hret] at h; cases h) hlk
  exact ⟨_, _, retOut X hx hret hn (Or.inr (Or.inr (Or.inr (Or.inr ⟨rfl, ht, hv⟩)))) hd hr, hrun, hended, _, _, rfl, hq, ⟨_, rfl⟩, hW, hsame.mono hc hs⟩
end Own
theorem own_widen {p : Program} {l : Launch} {e : Env} {R : Room} {s : State} {m : MethodId} {args : Array Value} {below : List Frame} {meth : Method} {c : Code} {T : State} {locs : List Loc} {cells slots cells' slots' : Nat} (X : Stand p l e R s m args below meth c T locs cells slots) (hc : cells ≤ cells') (hs : slots ≤ slots') : Stand p l e R s m args below meth c T locs cells' slots' := { X with same := X.same.mono hc hs }
theorem old_le {Z : State} {n0 : Nat} {h : Heap} (O : Old Z n0 h) : n0 ≤ h.size := by rw [← O.1]; exact O.2.1
theorem b01_ite {q : Prop} [Decidable q] {a b : Int32} (ha : a = 0 ∨ a = 1) (hb : b = 0 ∨ b = 1) : (if q then a else b) = 0 ∨ (if q then a else b) = 1 := by split <;> assumption
theorem nar_b01 {a : Int32} (h : a = 0 ∨ a = 1) : nar .boolean a = a := by rcases h with rfl | rfl <;> rfl
theorem fits_b01 {a : Int32} (h : a = 0 ∨ a = 1) : fits .boolean (.int a) = true := by rcases h with rfl | rfl <;> rfl
theorem own_fld {Z : State} {h : Heap} {a : Addr} {C n d : String} {v w : Value} (q : v = w) (F : Fld Z h a C n d v) : Fld Z h a C n d w := q ▸ F
theorem jc_lt_t {x y : Int64} (h : x < y) : ifCond.holds .lt (lcmpW x y) = true := (if0 _ _).trans (tlt ((lw_lt x y).mpr h)).1
theorem jc_lt_f {x y : Int64} (h : ¬ x < y) : ifCond.holds .lt (lcmpW x y) = false := (if0 _ _).trans (flt (fun q => h ((lw_lt x y).mp q))).1
theorem jc_ge_t {x y : Int64} (h : ¬ x < y) : ifCond.holds .ge (lcmpW x y) = true := (if0 _ _).trans (flt (fun q => h ((lw_lt x y).mp q))).2.1
theorem jc_ge_f {x y : Int64} (h : x < y) : ifCond.holds .ge (lcmpW x y) = false := (if0 _ _).trans (tlt ((lw_lt x y).mpr h)).2.1
theorem jc_gt_t {x y : Int64} (h : y < x) : ifCond.holds .gt (lcmpW x y) = true := (if0 _ _).trans (tlt ((lw_gt x y).mpr h)).2.2.1
theorem jc_gt_f {x y : Int64} (h : ¬ y < x) : ifCond.holds .gt (lcmpW x y) = false := (if0 _ _).trans (flt (fun q => h ((lw_gt x y).mp q))).2.2.1
theorem jc_le_t {x y : Int64} (h : ¬ y < x) : ifCond.holds .le (lcmpW x y) = true := (if0 _ _).trans (flt (fun q => h ((lw_gt x y).mp q))).2.2.2
theorem jc_le_f {x y : Int64} (h : y < x) : ifCond.holds .le (lcmpW x y) = false := (if0 _ _).trans (tlt ((lw_gt x y).mpr h)).2.2.2
theorem jc_eq_t {x y : Int64} (h : x = y) : ifCond.holds .eq (lcmpW x y) = true := (if0 _ _).trans (teq ((lw_eq x y).mpr h)).1
theorem jc_eq_f {x y : Int64} (h : ¬ x = y) : ifCond.holds .eq (lcmpW x y) = false := (if0 _ _).trans (feq (fun q => h ((lw_eq x y).mp q))).1
theorem jc_ne_t {x y : Int64} (h : ¬ x = y) : ifCond.holds .ne (lcmpW x y) = true := (if0 _ _).trans (feq (fun q => h ((lw_eq x y).mp q))).2
theorem jc_ne_f {x y : Int64} (h : x = y) : ifCond.holds .ne (lcmpW x y) = false := (if0 _ _).trans (teq ((lw_eq x y).mpr h)).2
theorem own_mapset (cs : List Int32) (i : Nat) (v : Int32) : (cs.map Value.int).set i (.int v) = (cs.set i v).map Value.int := (List.map_set).symm
theorem d1_0 : decode method_2_code 0 = .ok (.bipush 97, 2) := by decide +kernel
theorem d1_2 : decode method_2_code 2 = .ok (.iload_n 0, 1) := by decide +kernel
theorem d1_3 : decode method_2_code 3 = .ok (.iconst 4, 1) := by decide +kernel
theorem d1_4 : decode method_2_code 4 = .ok (.iload_n 1, 1) := by decide +kernel
theorem d1_5 : decode method_2_code 5 = .ok (.imul, 1) := by decide +kernel
theorem d1_6 : decode method_2_code 6 = .ok (.iushr, 1) := by decide +kernel
theorem d1_7 : decode method_2_code 7 = .ok (.bipush 15, 2) := by decide +kernel
theorem d1_9 : decode method_2_code 9 = .ok (.iand, 1) := by decide +kernel
theorem d1_10 : decode method_2_code 10 = .ok (.iadd, 1) := by decide +kernel
theorem d1_11 : decode method_2_code 11 = .ok (.i2c, 1) := by decide +kernel
theorem d1_12 : decode method_2_code 12 = .ok (.ireturn, 1) := by decide +kernel
theorem pn_com_example_ridgeline_ridgeline_table_RowStartPinLaw : plainName "com/example/ridgeline/ridgeline/table/RowStartPinLaw" = true := by first | (simp [plainName, overriddenIn]; done) | decide +kernel
theorem d3_0 : decode prog_53_method_1_code 0 = .ok (.aload_n 0, 1) := by decide +kernel
theorem d3_1 : decode prog_53_method_1_code 1 = .ok (.invokespecial 1, 3) := by decide +kernel
theorem d3_4 : decode prog_53_method_1_code 4 = .ok (.aload_n 0, 1) := by decide +kernel
theorem d3_5 : decode prog_53_method_1_code 5 = .ok (.aload_n 1, 1) := by decide +kernel
theorem d3_6 : decode prog_53_method_1_code 6 = .ok (.putfield 7, 3) := by decide +kernel
theorem d3_9 : decode prog_53_method_1_code 9 = .ok (.aload_n 0, 1) := by decide +kernel
theorem d3_10 : decode prog_53_method_1_code 10 = .ok (.iload_n 2, 1) := by decide +kernel
theorem d3_11 : decode prog_53_method_1_code 11 = .ok (.putfield 13, 3) := by decide +kernel
theorem d3_14 : decode prog_53_method_1_code 14 = .ok (.aload_n 0, 1) := by decide +kernel
theorem d3_15 : decode prog_53_method_1_code 15 = .ok (.aload_n 3, 1) := by decide +kernel
theorem d3_16 : decode prog_53_method_1_code 16 = .ok (.putfield 17, 3) := by decide +kernel
theorem d3_19 : decode prog_53_method_1_code 19 = .ok (.return_, 1) := by decide +kernel
theorem pn_com_example_ridgeline_ridgeline_table_Row : plainName "com/example/ridgeline/ridgeline/table/Row" = true := by first | (simp [plainName, overriddenIn]; done) | decide +kernel
theorem d2_0 : decode prog_53_method_6_code 0 = .ok (.iload_n 1, 1) := by decide +kernel
theorem d2_1 : decode prog_53_method_6_code 1 = .ok (.ifCond .ne 7, 3) := by decide +kernel
theorem d2_4 : decode prog_53_method_6_code 4 = .ok (.iconst 0, 1) := by decide +kernel
theorem d2_5 : decode prog_53_method_6_code 5 = .ok (.goto 13, 3) := by decide +kernel
theorem d2_8 : decode prog_53_method_6_code 8 = .ok (.aload_n 0, 1) := by decide +kernel
theorem d2_9 : decode prog_53_method_6_code 9 = .ok (.getfield 17, 3) := by decide +kernel
theorem d2_12 : decode prog_53_method_6_code 12 = .ok (.iload_n 1, 1) := by decide +kernel
theorem d2_13 : decode prog_53_method_6_code 13 = .ok (.iconst 1, 1) := by decide +kernel
theorem d2_14 : decode prog_53_method_6_code 14 = .ok (.isub, 1) := by decide +kernel
theorem d2_15 : decode prog_53_method_6_code 15 = .ok (.iaload, 1) := by decide +kernel
theorem d2_16 : decode prog_53_method_6_code 16 = .ok (.iconst 1, 1) := by decide +kernel
theorem d2_17 : decode prog_53_method_6_code 17 = .ok (.iadd, 1) := by decide +kernel
theorem d2_18 : decode prog_53_method_6_code 18 = .ok (.ireturn, 1) := by decide +kernel
theorem pd_oIIcC : parseMethodDescriptor "(II)C" = some ⟨[.int, .int], some .char⟩ := by decide +kernel
theorem pd_oaCcV : parseMethodDescriptor "([C)V" = some ⟨[(.array .char)], none⟩ := by decide +kernel
theorem pd_oLjava_lang_StringIaIcV : parseMethodDescriptor "(Ljava/lang/String;I[I)V" = some ⟨[(.object "java/lang/String"), .int, (.array .int)], none⟩ := by decide +kernel
theorem pd_oIcI : parseMethodDescriptor "(I)I" = some ⟨[.int], some .int⟩ := by decide +kernel
def f1 (p0 : Int32) (p1 : Int32) : Int32 := (nar .char (((97 : Int32) + (((p0.toUInt32 >>> (((4 : Int32) * p1) &&& 31).toUInt32).toInt32) &&& (15 : Int32))).toUInt32.toUInt16.toUInt32.toInt32))
def Q1 (Z : State) (p0 : Int32) (p1 : Int32) (h0 : Heap) (n0 : Nat) (v : Option Value) (h : Heap) (L : List Loc) : Prop := v = some (.int (f1 p0 p1)) ∧ L = [] ∧ h = h0
theorem ef1 (m : MethodId) (p0 : Int32) (p1 : Int32) : entryFrame m #[(.int p0), (.int p1)] 2 = mkF m 0 #[.val (.int p0), .val (.int p1)] [] := by first | (simp [entryFrame, mkF, argsToLocals, Value.category]; done) | rfl
set_option maxRecDepth 65536 in
set_option maxHeartbeats 40000000 in
theorem rm1 (l : Launch) (Z : State) (aa : Array Value) (hw : ∀ d ∈ tables_1, d.before aa Z = true) (ws : List Jvm.Cond) (p0 : Int32) (p1 : Int32) (h0 : Heap) (n0 : Nat) (O0 : Old Z n0 h0)  :
    MetFree l (⟨"com/example/ridgeline/ridgeline/table/RowStartPinLaw", "letter", "(II)C"⟩ : MethodName) (head1 (Jvm.Cond.code (⟨"com/example/ridgeline/ridgeline/table/RowStartPinLaw", "letter", "(II)C"⟩ : MethodName) method_2_code 2 (some .char) :: ws) ({ frames := 0, cells := 0, slots := 0, locals := 0 } : Room)) (fun a U => a = #[(.int p0), (.int p1)] ∧ Z.Warmed39 U.vm ∧ U.heap = h0) (fun _ _ _ _ _ => True) (fun _ U o U' => ∃ v L, o = .returned v ∧ Q1 Z p0 p1 h0 n0 v U'.heap L ∧ FrameEnd U o U' L ({ frames := 0, cells := 0, slots := 0, locals := 0 } : Room).cells ({ frames := 0, cells := 0, slots := 0, locals := 0 } : Room).slots) := by
  refine MetFree.of_bodySF (plainFor_of_name pn_com_example_ridgeline_ridgeline_table_RowStartPinLaw) hisR ?_
  intro p e s m args below meth c s₁ Bd hml0 hP hK
  obtain ⟨rfl, hZ, hh⟩ := hP
  have hx := Bd.exec
  have hby := Bd.bytes
  have hlk := Bd.notSynchronized
  have hml : c.maxLocals = 2 := hml0
  have hown : s.vm.findClass "com/example/ridgeline/ridgeline/table/RowStartPinLaw" = some m.cls := findClass_of_methodNamed Bd.named
  have hnm := (name_of_methodNamed Bd.named Bd.method).1
  have X0 : Stand p l e ({ frames := 0, cells := 0, slots := 0, locals := 0 } : Room) s m #[(.int p0), (.int p1)] below meth c s₁ [] 0 0 := Stand.of_body Bd
  have e0 : s₁.heap = h0 := by rw [← hh, Bd.state]; rfl
  have N0 := Fr.nil n0
  show Gl p e below (Ret s 0 0 (Q1 Z p0 p1 h0 n0)) (s₁.setTop (entryFrame m #[(.int p0), (.int p1)] 2))
  rw [ef1 m p0 p1]
  obtain ⟨args, hargs⟩ : ∃ z : Array Value, z = #[(.int p0), (.int p1)] := ⟨_, rfl⟩
  rw [← hargs] at X0
  refine Gl.up (B := s₁.setTop (mkF m 12 #[.val (.int p0), .val (.int p1)] [(.int (((97 : Int32) + (((p0.toUInt32 >>> (((4 : Int32) * p1) &&& 31).toUInt32).toInt32) &&& (15 : Int32))).toUInt32.toUInt16.toUInt32.toInt32))])) (fun t kt => ?_) ?_
  · show Steps p.tables e below (s₁.setTop (mkF m 0 #[.val (.int p0), .val (.int p1)] [])) _
    refine XS.bipush X0.here hx rfl (hb hby d1_0) ?_
    show Steps p.tables e below (s₁.setTop (mkF m 2 #[.val (.int p0), .val (.int p1)] [(.int (97 : Int32))])) _
    refine XS.iloadN X0.here hx rfl (hb hby d1_2) rfl ?_
    show Steps p.tables e below (s₁.setTop (mkF m 3 #[.val (.int p0), .val (.int p1)] [(.int p0), (.int (97 : Int32))])) _
    refine XS.iconst X0.here hx rfl (hb hby d1_3) ?_
    show Steps p.tables e below (s₁.setTop (mkF m 4 #[.val (.int p0), .val (.int p1)] [(.int (4 : Int32)), (.int p0), (.int (97 : Int32))])) _
    refine XS.iloadN X0.here hx rfl (hb hby d1_4) rfl ?_
    show Steps p.tables e below (s₁.setTop (mkF m 5 #[.val (.int p0), .val (.int p1)] [(.int p1), (.int (4 : Int32)), (.int p0), (.int (97 : Int32))])) _
    refine XS.imul X0.here hx rfl (hb hby d1_5) rfl ?_
    show Steps p.tables e below (s₁.setTop (mkF m 6 #[.val (.int p0), .val (.int p1)] [(.int ((4 : Int32) * p1)), (.int p0), (.int (97 : Int32))])) _
    refine XS.iushr X0.here hx rfl (hb hby d1_6) rfl ?_
    show Steps p.tables e below (s₁.setTop (mkF m 7 #[.val (.int p0), .val (.int p1)] [(.int ((p0.toUInt32 >>> (((4 : Int32) * p1) &&& 31).toUInt32).toInt32)), (.int (97 : Int32))])) _
    refine XS.bipush X0.here hx rfl (hb hby d1_7) ?_
    show Steps p.tables e below (s₁.setTop (mkF m 9 #[.val (.int p0), .val (.int p1)] [(.int (15 : Int32)), (.int ((p0.toUInt32 >>> (((4 : Int32) * p1) &&& 31).toUInt32).toInt32)), (.int (97 : Int32))])) _
    refine XS.iand X0.here hx rfl (hb hby d1_9) rfl ?_
    show Steps p.tables e below (s₁.setTop (mkF m 10 #[.val (.int p0), .val (.int p1)] [(.int (((p0.toUInt32 >>> (((4 : Int32) * p1) &&& 31).toUInt32).toInt32) &&& (15 : Int32))), (.int (97 : Int32))])) _
    refine XS.iadd X0.here hx rfl (hb hby d1_10) rfl ?_
    show Steps p.tables e below (s₁.setTop (mkF m 11 #[.val (.int p0), .val (.int p1)] [(.int ((97 : Int32) + (((p0.toUInt32 >>> (((4 : Int32) * p1) &&& 31).toUInt32).toInt32) &&& (15 : Int32))))])) _
    refine XS.i2c X0.here hx rfl (hb hby d1_11) rfl ?_
    exact kt
  refine Gl.retN X0 hx hlk (t := .char) Bd.returns (by simp) (hb hby d1_12) (w := (nar .char (((97 : Int32) + (((p0.toUInt32 >>> (((4 : Int32) * p1) &&& 31).toUInt32).toInt32) &&& (15 : Int32))).toUInt32.toUInt16.toUInt32.toInt32))) rfl ?_ (by decide) (by decide)
  exact ⟨congrArg (fun z => some (Value.int z)) (show (nar .char (((97 : Int32) + (((p0.toUInt32 >>> (((4 : Int32) * p1) &&& 31).toUInt32).toInt32) &&& (15 : Int32))).toUInt32.toUInt16.toUInt32.toInt32)) = f1 p0 p1 from rfl), rfl, e0⟩
def Q3 (Z : State) (a0 : Addr) (a1 : Addr) (p2 : Int32) (a3 : Addr) (o1 : Int32) (h0 : Heap) (n0 : Nat) (v : Option Value) (h : Heap) (L : List Loc) : Prop := v = none ∧ Fr n0 L ∧ Keep h0 h [a0] ∧ Fld Z h a0 "com/example/ridgeline/ridgeline/table/Row" "fieldEnds" "[I" (.ref a3)
theorem ef3 (m : MethodId) (a0 : Addr) (a1 : Addr) (p2 : Int32) (a3 : Addr) : entryFrame m #[(.ref a0), (.ref a1), (.int p2), (.ref a3)] 4 = mkF m 0 #[.val (.ref a0), .val (.ref a1), .val (.int p2), .val (.ref a3)] [] := by first | (simp [entryFrame, mkF, argsToLocals, Value.category]; done) | rfl
set_option maxRecDepth 65536 in
set_option maxHeartbeats 40000000 in
theorem rm3 (l : Launch) (Z : State) (aa : Array Value) (hw : ∀ d ∈ tables_1, d.before aa Z = true) (ws : List Jvm.Cond) (a0 : Addr) (a1 : Addr) (p2 : Int32) (a3 : Addr) (o1 : Int32) (h0 : Heap) (n0 : Nat) (O0 : Old Z n0 h0) (E_a0 : Exa Z h0 a0 "com/example/ridgeline/ridgeline/table/Row") (F_a0_text : Fld Z h0 a0 "com/example/ridgeline/ridgeline/table/Row" "text" "Ljava/lang/String;" .null) (F_a0_line : Fld Z h0 a0 "com/example/ridgeline/ridgeline/table/Row" "line" "I" (.int o1)) (F_a0_fieldEnds : Fld Z h0 a0 "com/example/ridgeline/ridgeline/table/Row" "fieldEnds" "[I" .null) (g_a0 : n0 ≤ a0) :
    MetFree l (⟨"com/example/ridgeline/ridgeline/table/Row", "<init>", "(Ljava/lang/String;I[I)V"⟩ : MethodName) (head1 (Jvm.Cond.code (⟨"com/example/ridgeline/ridgeline/table/Row", "<init>", "(Ljava/lang/String;I[I)V"⟩ : MethodName) prog_53_method_1_code 4 none :: ws) ({ frames := 1, cells := 0, slots := 0, locals := 12 } : Room)) (fun a U => a = #[(.ref a0), (.ref a1), (.int p2), (.ref a3)] ∧ Z.Warmed39 U.vm ∧ U.heap = h0) (fun _ _ _ _ _ => True) (fun _ U o U' => ∃ v L, o = .returned v ∧ Q3 Z a0 a1 p2 a3 o1 h0 n0 v U'.heap L ∧ FrameEnd U o U' L ({ frames := 1, cells := 0, slots := 0, locals := 12 } : Room).cells ({ frames := 1, cells := 0, slots := 0, locals := 12 } : Room).slots) := by
  refine MetFree.of_bodySF (plainFor_of_name pn_com_example_ridgeline_ridgeline_table_Row) hisR ?_
  intro p e s m args below meth c s₁ Bd hml0 hP hK
  obtain ⟨rfl, hZ, hh⟩ := hP
  have hx := Bd.exec
  have hby := Bd.bytes
  have hlk := Bd.notSynchronized
  have hml : c.maxLocals = 4 := hml0
  have hown : s.vm.findClass "com/example/ridgeline/ridgeline/table/Row" = some m.cls := findClass_of_methodNamed Bd.named
  have hnm := (name_of_methodNamed Bd.named Bd.method).1
  have X0 : Stand p l e ({ frames := 1, cells := 0, slots := 0, locals := 12 } : Room) s m #[(.ref a0), (.ref a1), (.int p2), (.ref a3)] below meth c s₁ [] 0 0 := Stand.of_body Bd
  have e0 : s₁.heap = h0 := by rw [← hh, Bd.state]; rfl
  have N0 := Fr.nil n0
  show Gl p e below (Ret s 0 0 (Q3 Z a0 a1 p2 a3 o1 h0 n0)) (s₁.setTop (entryFrame m #[(.ref a0), (.ref a1), (.int p2), (.ref a3)] 4))
  rw [ef3 m a0 a1 p2 a3]
  obtain ⟨args, hargs⟩ : ∃ z : Array Value, z = #[(.ref a0), (.ref a1), (.int p2), (.ref a3)] := ⟨_, rfl⟩
  rw [← hargs] at X0
  have K0 := Keep.refl h0 [a0]
  refine Gl.up (B := s₁.setTop (mkF m 1 #[.val (.ref a0), .val (.ref a1), .val (.int p2), .val (.ref a3)] [(.ref a0)])) (fun t kt => ?_) ?_
  · show Steps p.tables e below (s₁.setTop (mkF m 0 #[.val (.ref a0), .val (.ref a1), .val (.int p2), .val (.ref a3)] [])) _
    refine XS.aloadN X0.here hx rfl (hb hby d3_0) rfl rfl ?_
    exact kt
  obtain ⟨T1, X1, e1, st1⟩ := initO X0 hx hZ hown (hw _ (List.mem_of_getElem? (i := 41) rfl)) (hw _ (List.mem_of_getElem? (i := 20) rfl)) (hw _ (List.mem_of_getElem? (i := 21) rfl)) e0 (g := (mkF m 1 #[.val (.ref a0), .val (.ref a1), .val (.int p2), .val (.ref a3)] [(.ref a0)])) rfl (by rw [hml]; rfl) rfl (hb hby d3_1) (by decide) (W := 0) (by show 2 * 0 + _ ≤ _; exact Nat.le_of_eq rfl) (by decide)
  refine Gl.up (B := T1.setTop (mkF m 4 #[.val (.ref a0), .val (.ref a1), .val (.int p2), .val (.ref a3)] [])) (fun t kt => st1 _ kt) ?_
  refine Gl.up (B := T1.setTop (mkF m 6 #[.val (.ref a0), .val (.ref a1), .val (.int p2), .val (.ref a3)] [(.ref a1), (.ref a0)])) (fun t kt => ?_) ?_
  · show Steps p.tables e below (T1.setTop (mkF m 4 #[.val (.ref a0), .val (.ref a1), .val (.int p2), .val (.ref a3)] [])) _
    refine XS.aloadN X1.here hx rfl (hb hby d3_4) rfl rfl ?_
    show Steps p.tables e below (T1.setTop (mkF m 5 #[.val (.ref a0), .val (.ref a1), .val (.int p2), .val (.ref a3)] [(.ref a0)])) _
    refine XS.aloadN X1.here hx rfl (hb hby d3_5) rfl rfl ?_
    exact kt
  obtain ⟨T2, h2, X2, e2, W2, st2⟩ := putF X1 hx hZ hown (host := "") (Or.inl (hw _ (List.mem_of_getElem? (i := 42) rfl))) Via.refl e1 F_a0_text E_a0 (Or.inr ⟨(hw _ (List.mem_of_getElem? (i := 43) rfl)), rfl, hnm⟩) (hw _ (List.mem_of_getElem? (i := 7) rfl)) (ty := (.object "java/lang/String")) (by decide) rfl rfl (g := (mkF m 6 #[.val (.ref a0), .val (.ref a1), .val (.int p2), .val (.ref a3)] [(.ref a1), (.ref a0)])) rfl rfl (hb hby d3_6)
  have N2 := Fr.snoc X2 N0 g_a0
  have O2 := O0.wr W2 g_a0
  have K2 : Keep h0 h2 [a0] := K0.wr W2 (Or.inl (List.mem_of_getElem? (i := 0) rfl))
  have E_a0_2 := E_a0.wr W2
  have F_a0_line_2 := F_a0_line.other W2 (Or.inr (slot_ne (Or.inr (hw _ (List.mem_of_getElem? (i := 45) rfl))) (Or.inr (hw _ (List.mem_of_getElem? (i := 43) rfl))) (by decide) (t := .int) (t' := (.object "java/lang/String")) (by decide) (by decide)))
  have F_a0_fieldEnds_2 := F_a0_fieldEnds.other W2 (Or.inr (slot_ne (Or.inr (hw _ (List.mem_of_getElem? (i := 47) rfl))) (Or.inr (hw _ (List.mem_of_getElem? (i := 43) rfl))) (by decide) (t := (.array .int)) (t' := (.object "java/lang/String")) (by decide) (by decide)))
  have F_a0_text_2 := F_a0_text.same W2
  refine Gl.up (B := T2.setTop (mkF m 9 #[.val (.ref a0), .val (.ref a1), .val (.int p2), .val (.ref a3)] [])) (fun t kt => st2 _ kt) ?_
  refine Gl.up (B := T2.setTop (mkF m 11 #[.val (.ref a0), .val (.ref a1), .val (.int p2), .val (.ref a3)] [(.int p2), (.ref a0)])) (fun t kt => ?_) ?_
  · show Steps p.tables e below (T2.setTop (mkF m 9 #[.val (.ref a0), .val (.ref a1), .val (.int p2), .val (.ref a3)] [])) _
    refine XS.aloadN X2.here hx rfl (hb hby d3_9) rfl rfl ?_
    show Steps p.tables e below (T2.setTop (mkF m 10 #[.val (.ref a0), .val (.ref a1), .val (.int p2), .val (.ref a3)] [(.ref a0)])) _
    refine XS.iloadN X2.here hx rfl (hb hby d3_10) rfl ?_
    exact kt
  obtain ⟨T3, h3, X3, e3, W3, st3⟩ := putF X2 hx hZ hown (host := "") (Or.inl (hw _ (List.mem_of_getElem? (i := 44) rfl))) Via.refl e2 F_a0_line_2 E_a0_2 (Or.inr ⟨(hw _ (List.mem_of_getElem? (i := 45) rfl)), rfl, hnm⟩) (hw _ (List.mem_of_getElem? (i := 7) rfl)) (ty := .int) (by decide) rfl rfl (g := (mkF m 11 #[.val (.ref a0), .val (.ref a1), .val (.int p2), .val (.ref a3)] [(.int p2), (.ref a0)])) rfl rfl (hb hby d3_11)
  have N3 := Fr.snoc X3 N2 g_a0
  have O3 := O2.wr W3 g_a0
  have K3 : Keep h0 h3 [a0] := K2.wr W3 (Or.inl (List.mem_of_getElem? (i := 0) rfl))
  have E_a0_3 := E_a0_2.wr W3
  have F_a0_text_3 := F_a0_text_2.other W3 (Or.inr (slot_ne (Or.inr (hw _ (List.mem_of_getElem? (i := 43) rfl))) (Or.inr (hw _ (List.mem_of_getElem? (i := 45) rfl))) (by decide) (t := (.object "java/lang/String")) (t' := .int) (by decide) (by decide)))
  have F_a0_fieldEnds_3 := F_a0_fieldEnds_2.other W3 (Or.inr (slot_ne (Or.inr (hw _ (List.mem_of_getElem? (i := 47) rfl))) (Or.inr (hw _ (List.mem_of_getElem? (i := 45) rfl))) (by decide) (t := (.array .int)) (t' := .int) (by decide) (by decide)))
  have F_a0_line_3 := F_a0_line_2.same W3
  refine Gl.up (B := T3.setTop (mkF m 14 #[.val (.ref a0), .val (.ref a1), .val (.int p2), .val (.ref a3)] [])) (fun t kt => st3 _ kt) ?_
  refine Gl.up (B := T3.setTop (mkF m 16 #[.val (.ref a0), .val (.ref a1), .val (.int p2), .val (.ref a3)] [(.ref a3), (.ref a0)])) (fun t kt => ?_) ?_
  · show Steps p.tables e below (T3.setTop (mkF m 14 #[.val (.ref a0), .val (.ref a1), .val (.int p2), .val (.ref a3)] [])) _
    refine XS.aloadN X3.here hx rfl (hb hby d3_14) rfl rfl ?_
    show Steps p.tables e below (T3.setTop (mkF m 15 #[.val (.ref a0), .val (.ref a1), .val (.int p2), .val (.ref a3)] [(.ref a0)])) _
    refine XS.aloadN X3.here hx rfl (hb hby d3_15) rfl rfl ?_
    exact kt
  obtain ⟨T4, h4, X4, e4, W4, st4⟩ := putF X3 hx hZ hown (host := "") (Or.inl (hw _ (List.mem_of_getElem? (i := 46) rfl))) Via.refl e3 F_a0_fieldEnds_3 E_a0_3 (Or.inr ⟨(hw _ (List.mem_of_getElem? (i := 47) rfl)), rfl, hnm⟩) (hw _ (List.mem_of_getElem? (i := 7) rfl)) (ty := (.array .int)) (by decide) rfl rfl (g := (mkF m 16 #[.val (.ref a0), .val (.ref a1), .val (.int p2), .val (.ref a3)] [(.ref a3), (.ref a0)])) rfl rfl (hb hby d3_16)
  have N4 := Fr.snoc X4 N3 g_a0
  have O4 := O3.wr W4 g_a0
  have K4 : Keep h0 h4 [a0] := K3.wr W4 (Or.inl (List.mem_of_getElem? (i := 0) rfl))
  have E_a0_4 := E_a0_3.wr W4
  have F_a0_text_4 := F_a0_text_3.other W4 (Or.inr (slot_ne (Or.inr (hw _ (List.mem_of_getElem? (i := 43) rfl))) (Or.inr (hw _ (List.mem_of_getElem? (i := 47) rfl))) (by decide) (t := (.object "java/lang/String")) (t' := (.array .int)) (by decide) (by decide)))
  have F_a0_line_4 := F_a0_line_3.other W4 (Or.inr (slot_ne (Or.inr (hw _ (List.mem_of_getElem? (i := 45) rfl))) (Or.inr (hw _ (List.mem_of_getElem? (i := 47) rfl))) (by decide) (t := .int) (t' := (.array .int)) (by decide) (by decide)))
  have F_a0_fieldEnds_4 := F_a0_fieldEnds_3.same W4
  refine Gl.up (B := T4.setTop (mkF m 19 #[.val (.ref a0), .val (.ref a1), .val (.int p2), .val (.ref a3)] [])) (fun t kt => st4 _ kt) ?_
  refine Gl.ret0 X4 hx hlk Bd.returns (hb hby d3_19) ?_ (by decide) (by decide)
  show Q3 Z a0 a1 p2 a3 o1 h0 n0 _ T4.heap _; rw [e4]; exact ⟨rfl, N4, K4, F_a0_fieldEnds_4⟩
def f2 (p1 : Int32) (u0 : Int32) : Int32 := (if p1 = (0 : Int32) then (0 : Int32) else (u0 + (1 : Int32)))
def Q2 (Z : State) (a0 : Addr) (p1 : Int32) (ar : Addr) (cl : Cell) (u0 : Int32) (h0 : Heap) (n0 : Nat) (v : Option Value) (h : Heap) (L : List Loc) : Prop := v = some (.int (f2 p1 u0)) ∧ L = [] ∧ h = h0
theorem ef2 (m : MethodId) (a0 : Addr) (p1 : Int32) : entryFrame m #[(.ref a0), (.int p1)] 2 = mkF m 0 #[.val (.ref a0), .val (.int p1)] [] := by first | (simp [entryFrame, mkF, argsToLocals, Value.category]; done) | rfl
set_option maxRecDepth 65536 in
set_option maxHeartbeats 40000000 in
theorem rm2 (l : Launch) (Z : State) (aa : Array Value) (hw : ∀ d ∈ tables_1, d.before aa Z = true) (ws : List Jvm.Cond) (a0 : Addr) (p1 : Int32) (ar : Addr) (cl : Cell) (u0 : Int32) (h0 : Heap) (n0 : Nat) (O0 : Old Z n0 h0) (E_a0 : Exa Z h0 a0 "com/example/ridgeline/ridgeline/table/Row") (F_a0_fieldEnds : Fld Z h0 a0 "com/example/ridgeline/ridgeline/table/Row" "fieldEnds" "[I" (.ref ar)) (hA : Arr Z h0 ar cl .int) (hin : ¬ p1 = (0 : Int32) → ¬ ((p1 - (1 : Int32)) < 0 ∨ cl.slots.size ≤ (p1 - (1 : Int32)).toNatClampNeg)) (hat : ¬ p1 = (0 : Int32) → cl.slots[(p1 - (1 : Int32)).toNatClampNeg]? = some (.int u0)) :
    MetFree l (⟨"com/example/ridgeline/ridgeline/table/Row", "start", "(I)I"⟩ : MethodName) (head1 (Jvm.Cond.code (⟨"com/example/ridgeline/ridgeline/table/Row", "start", "(I)I"⟩ : MethodName) prog_53_method_6_code 2 (some .int) :: ws) ({ frames := 0, cells := 0, slots := 0, locals := 0 } : Room)) (fun a U => a = #[(.ref a0), (.int p1)] ∧ Z.Warmed39 U.vm ∧ U.heap = h0) (fun _ _ _ _ _ => True) (fun _ U o U' => ∃ v L, o = .returned v ∧ Q2 Z a0 p1 ar cl u0 h0 n0 v U'.heap L ∧ FrameEnd U o U' L ({ frames := 0, cells := 0, slots := 0, locals := 0 } : Room).cells ({ frames := 0, cells := 0, slots := 0, locals := 0 } : Room).slots) := by
  refine MetFree.of_bodySF (plainFor_of_name pn_com_example_ridgeline_ridgeline_table_Row) hisR ?_
  intro p e s m args below meth c s₁ Bd hml0 hP hK
  obtain ⟨rfl, hZ, hh⟩ := hP
  have hx := Bd.exec
  have hby := Bd.bytes
  have hlk := Bd.notSynchronized
  have hml : c.maxLocals = 2 := hml0
  have hown : s.vm.findClass "com/example/ridgeline/ridgeline/table/Row" = some m.cls := findClass_of_methodNamed Bd.named
  have hnm := (name_of_methodNamed Bd.named Bd.method).1
  have X0 : Stand p l e ({ frames := 0, cells := 0, slots := 0, locals := 0 } : Room) s m #[(.ref a0), (.int p1)] below meth c s₁ [] 0 0 := Stand.of_body Bd
  have e0 : s₁.heap = h0 := by rw [← hh, Bd.state]; rfl
  have N0 := Fr.nil n0
  show Gl p e below (Ret s 0 0 (Q2 Z a0 p1 ar cl u0 h0 n0)) (s₁.setTop (entryFrame m #[(.ref a0), (.int p1)] 2))
  rw [ef2 m a0 p1]
  obtain ⟨args, hargs⟩ : ∃ z : Array Value, z = #[(.ref a0), (.int p1)] := ⟨_, rfl⟩
  rw [← hargs] at X0
  refine Gl.up (B := s₁.setTop (mkF m 1 #[.val (.ref a0), .val (.int p1)] [(.int p1)])) (fun t kt => ?_) ?_
  · show Steps p.tables e below (s₁.setTop (mkF m 0 #[.val (.ref a0), .val (.int p1)] [])) _
    refine XS.iloadN X0.here hx rfl (hb hby d2_0) rfl ?_
    exact kt
  suffices J1 : ∀ (T1 : State) (v1_s0 : Int32), v1_s0 = (if p1 = (0 : Int32) then (0 : Int32) else (u0 + (1 : Int32))) → Stand p l e ({ frames := 0, cells := 0, slots := 0, locals := 0 } : Room) s m args below meth c T1 [] 0 0 → T1.heap = h0 → Gl p e below (Ret s 0 0 (Q2 Z a0 p1 ar cl u0 h0 n0)) (T1.setTop (mkF m 18 #[.val (.ref a0), .val (.int p1)] [(.int v1_s0)])) by
    by_cases c1_2 : p1 = (0 : Int32)
    · refine Gl.up (B := s₁.setTop (mkF m 18 #[.val (.ref a0), .val (.int p1)] [(.int (0 : Int32))])) (fun t kt => ?_) ?_
      · show Steps p.tables e below (s₁.setTop (mkF m 1 #[.val (.ref a0), .val (.int p1)] [(.int p1)])) _
        refine XS.ifNo X0.here hx rfl (hb hby d2_1) rfl ((if0 _ _).trans (teq c1_2).2) ?_
        show Steps p.tables e below (s₁.setTop (mkF m 4 #[.val (.ref a0), .val (.int p1)] [])) _
        refine XS.iconst X0.here hx rfl (hb hby d2_4) ?_
        show Steps p.tables e below (s₁.setTop (mkF m 5 #[.val (.ref a0), .val (.int p1)] [(.int (0 : Int32))])) _
        refine XS.goto X0.here hx rfl (pc0 := 5) (pc' := 18) rfl (hb hby d2_5) (by decide) (by decide) ?_
        exact kt
      exact J1 _ (0 : Int32) (if_pos c1_2).symm X0 e0
    · refine Gl.up (B := s₁.setTop (mkF m 9 #[.val (.ref a0), .val (.int p1)] [(.ref a0)])) (fun t kt => ?_) ?_
      · show Steps p.tables e below (s₁.setTop (mkF m 1 #[.val (.ref a0), .val (.int p1)] [(.int p1)])) _
        refine XS.ifYes X0.here hx rfl (pc0 := 1) (pc' := 8) rfl (hb hby d2_1) rfl ((if0 _ _).trans (feq c1_2).2) (by decide) (by decide) ?_
        show Steps p.tables e below (s₁.setTop (mkF m 8 #[.val (.ref a0), .val (.int p1)] [])) _
        refine XS.aloadN X0.here hx rfl (hb hby d2_8) rfl rfl ?_
        exact kt
      obtain ⟨T3, X3, e3, st3⟩ := getF X0 hx hZ hown (host := "") (Or.inl (hw _ (List.mem_of_getElem? (i := 46) rfl))) Via.refl e0 F_a0_fieldEnds (g := (mkF m 9 #[.val (.ref a0), .val (.int p1)] [(.ref a0)])) rfl rfl (hb hby d2_9)
      refine Gl.up (B := T3.setTop (mkF m 12 #[.val (.ref a0), .val (.int p1)] [(.ref ar)])) (fun t kt => st3 _ kt) ?_
      refine Gl.up (B := T3.setTop (mkF m 15 #[.val (.ref a0), .val (.int p1)] [(.int (p1 - (1 : Int32))), (.ref ar)])) (fun t kt => ?_) ?_
      · show Steps p.tables e below (T3.setTop (mkF m 12 #[.val (.ref a0), .val (.int p1)] [(.ref ar)])) _
        refine XS.iloadN X3.here hx rfl (hb hby d2_12) rfl ?_
        show Steps p.tables e below (T3.setTop (mkF m 13 #[.val (.ref a0), .val (.int p1)] [(.int p1), (.ref ar)])) _
        refine XS.iconst X3.here hx rfl (hb hby d2_13) ?_
        show Steps p.tables e below (T3.setTop (mkF m 14 #[.val (.ref a0), .val (.int p1)] [(.int (1 : Int32)), (.int p1), (.ref ar)])) _
        refine XS.isub X3.here hx rfl (hb hby d2_14) rfl ?_
        exact kt
      refine Gl.up (B := T3.setTop (mkF m 18 #[.val (.ref a0), .val (.int p1)] [(.int (u0 + (1 : Int32)))])) (fun t kt => ?_) ?_
      · show Steps p.tables e below (T3.setTop (mkF m 15 #[.val (.ref a0), .val (.int p1)] [(.int (p1 - (1 : Int32))), (.ref ar)])) _
        refine X3.iaload hx (j := (p1 - (1 : Int32))) (v := (.int u0)) (by rw [e3]; exact hA.1) (State.isArrayOf_alike hZ.alike hA.2.1) hA.2.2 (hin c1_2) (hat c1_2) (g := (mkF m 15 #[.val (.ref a0), .val (.int p1)] [(.int (p1 - (1 : Int32))), (.ref ar)])) rfl rfl (hb hby d2_15) _ ?_
        show Steps p.tables e below (T3.setTop (mkF m 16 #[.val (.ref a0), .val (.int p1)] [(.int u0)])) _
        refine XS.iconst X3.here hx rfl (hb hby d2_16) ?_
        show Steps p.tables e below (T3.setTop (mkF m 17 #[.val (.ref a0), .val (.int p1)] [(.int (1 : Int32)), (.int u0)])) _
        refine XS.iadd X3.here hx rfl (hb hby d2_17) rfl ?_
        exact kt
      exact J1 _ (u0 + (1 : Int32)) (if_neg c1_2).symm X3 e3
  intro T1 v1_s0 hv1_s0 X1 e1
  subst hv1_s0
  refine Gl.retI X1 hx hlk Bd.returns (hb hby d2_18) ?_ (by decide) (by decide)
  exact ⟨congrArg (fun z => some (Value.int z)) (show (if p1 = (0 : Int32) then (0 : Int32) else (u0 + (1 : Int32))) = f2 p1 u0 from rfl), rfl, e1⟩
theorem own_lat {cs : List Int32} {i : Nat} {v : Int32} (h : ∀ c ∈ cs, ¬ c < 0 ∧ ¬ (255 : Int32) < c) (hv : ¬ v < 0 ∧ ¬ (255 : Int32) < v) : ∀ c ∈ cs.set i v, ¬ c < 0 ∧ ¬ (255 : Int32) < c := fun c hc => by
  rcases List.mem_or_eq_of_mem_set hc with h1 | h1
  · exact h c h1
  · rw [h1]; exact hv
theorem own_letter (q k : Int32) : ¬ nar .char (f1 q k) < 0 ∧ ¬ (255 : Int32) < nar .char (f1 q k) := by
  unfold f1
  have h := c_and ((q.toUInt32 >>> (((4 : Int32) * k) &&& 31).toUInt32).toInt32) (15 : Int32) (by decide)
  generalize (((q.toUInt32 >>> (((4 : Int32) * k) &&& 31).toUInt32).toInt32) &&& (15 : Int32)) = y at h
  have h1 := c_iadd (97 : Int32) y
  have h2 := rng32 ((97 : Int32) + y)
  have h3 := c_i2c ((97 : Int32) + y)
  have h4 := c_i2c (((97 : Int32) + y).toUInt32.toUInt16.toUInt32.toInt32)
  have h5 := c_i2c ((((97 : Int32) + y).toUInt32.toUInt16.toUInt32.toInt32).toUInt32.toUInt16.toUInt32.toInt32)
  rw [show (97 : Int32).toInt = 97 from rfl] at h1
  rw [show (15 : Int32).toInt = 15 from rfl] at h
  simp only [nar, Int32.lt_iff_toInt_lt, show (0 : Int32).toInt = 0 from rfl, show (255 : Int32).toInt = 255 from rfl]
  omega
theorem own_a (p : Int32) : ¬ (p &&& (3 : Int32)) < 0 ∧ (p &&& (3 : Int32)).toInt ≤ 3 ∧ 0 ≤ (p &&& (3 : Int32)).toInt := by
  have h := c_and p (3 : Int32) (by decide)
  rw [show (3 : Int32).toInt = 3 from rfl] at h
  refine ⟨?_, h.2, h.1⟩
  rw [Int32.lt_iff_toInt_lt, show (0 : Int32).toInt = 0 from rfl]; omega
theorem own_nat {x : Int32} (h0 : 0 ≤ x.toInt) : x.toNatClampNeg = x.toInt.toNat := rfl
theorem own_ix {a b : Int32} (ha : a.toInt ≤ 3 ∧ 0 ≤ a.toInt) (hb : b.toInt ≤ 3 ∧ 0 ≤ b.toInt) : (a + (1 : Int32) + b).toInt = a.toInt + 1 + b.toInt := by
  have h1 := c_iadd a (1 : Int32); have h2 := rng32 (a + (1 : Int32)); have h3 := c_iadd (a + (1 : Int32)) b; have h4 := rng32 (a + (1 : Int32) + b)
  rw [show (1 : Int32).toInt = 1 from rfl] at h1
  omega
theorem own_in8 {x : Int32} (h : 0 ≤ x.toInt ∧ x.toInt < 8) : ¬ x < 0 ∧ x < (8 : Int32) := by
  rw [Int32.lt_iff_toInt_lt, Int32.lt_iff_toInt_lt, show (0 : Int32).toInt = 0 from rfl, show (8 : Int32).toInt = 8 from rfl]; omega
theorem own_last (a b : Int32) : f2 (2 : Int32) (a + (1 : Int32) + b) = a + b + (2 : Int32) := by
  unfold f2
  rw [if_neg (by decide), Int32.add_assoc a 1 b, Int32.add_assoc a (1 + b) 1, Int32.add_comm 1 b, Int32.add_assoc b 1 1, ← Int32.add_assoc a b (1 + 1)]
  rfl

def Q0 (n0 : Nat) (v : Option Value) (h : Heap) (L : List Loc) : Prop := v = some (.int 1) ∧ Fr n0 L
theorem ef0 (m : MethodId) (pp : Int32) (qq : Int32) (ln : Int32) : entryFrame m #[(.int pp), (.int qq), (.int ln)] maxLocals = mkF m 0 #[.val (.int pp), .val (.int qq), .val (.int ln), .unset, .unset, .unset, .unset, .unset, .unset, .unset, .unset, .unset] [] := by first | (simp [entryFrame, mkF, argsToLocals, Value.category, maxLocals]; done) | rfl
set_option maxRecDepth 65536 in
set_option maxHeartbeats 40000000 in
theorem rm0 (l : Launch) (Z : State) (aa : Array Value) (hw : ∀ d ∈ tables_1, d.before aa Z = true) (ws : List Jvm.Cond) (pp : Int32) (qq : Int32) (ln : Int32) (zc : Int32) (h0 : Heap) (n0 : Nat) (O0 : Old Z n0 h0) (S_zc : Sta Z Z.heap "java/lang/String" "COMPACT_STRINGS" "Z" (.int zc)) (P3 : ¬ zc = (0 : Int32)) :
    MetFree l x (head1 (Jvm.Cond.code x code maxLocals ret :: ws) room_1) (fun a U => a = #[(.int pp), (.int qq), (.int ln)] ∧ Z.Warmed39 U.vm ∧ U.heap = h0) (fun _ _ _ _ _ => True) (fun _ U o U' => ∃ v L, o = .returned v ∧ Q0 n0 v U'.heap L ∧ FrameEnd U o U' L 5 26) := by
  refine MetFree.of_bodySF (plainFor_of_name pn_com_example_ridgeline_ridgeline_table_RowStartPinLaw) hisR ?_
  intro p e s m args below meth c s₁ Bd hml0 hP hK
  obtain ⟨rfl, hZ, hh⟩ := hP
  have hx := Bd.exec
  have hby := Bd.bytes
  have hlk := Bd.notSynchronized
  have hml : c.maxLocals = 12 := hml0
  have hown : s.vm.findClass "com/example/ridgeline/ridgeline/table/RowStartPinLaw" = some m.cls := findClass_of_methodNamed Bd.named
  have hnm := (name_of_methodNamed Bd.named Bd.method).1
  have X0 : Stand p l e room_1 s m #[(.int pp), (.int qq), (.int ln)] below meth c s₁ [] 0 0 := Stand.of_body Bd
  have e0 : s₁.heap = h0 := by rw [← hh, Bd.state]; rfl
  have N0 := Fr.nil n0
  show Gl p e below (Ret s 5 26 (Q0 n0)) (s₁.setTop (entryFrame m #[(.int pp), (.int qq), (.int ln)] maxLocals))
  rw [ef0 m pp qq ln]
  obtain ⟨args, hargs⟩ : ∃ z : Array Value, z = #[(.int pp), (.int qq), (.int ln)] := ⟨_, rfl⟩
  rw [← hargs] at X0
  refine Gl.up (B := s₁.setTop (mkF m 9 #[.val (.int pp), .val (.int qq), .val (.int ln), .val (.int (pp &&& (3 : Int32))), .unset, .unset, .unset, .unset, .unset, .unset, .unset, .unset] [(.int (((pp.toUInt32 >>> ((2 : Int32) &&& 31).toUInt32).toInt32) &&& (3 : Int32)))])) (fun t kt => ?_) ?_
  · show Steps p.tables e below (s₁.setTop (mkF m 0 #[.val (.int pp), .val (.int qq), .val (.int ln), .unset, .unset, .unset, .unset, .unset, .unset, .unset, .unset, .unset] [])) _
    refine XS.iloadN X0.here hx rfl (hb hby at_0) rfl ?_
    show Steps p.tables e below (s₁.setTop (mkF m 1 #[.val (.int pp), .val (.int qq), .val (.int ln), .unset, .unset, .unset, .unset, .unset, .unset, .unset, .unset, .unset] [(.int pp)])) _
    refine XS.iconst X0.here hx rfl (hb hby at_1) ?_
    show Steps p.tables e below (s₁.setTop (mkF m 2 #[.val (.int pp), .val (.int qq), .val (.int ln), .unset, .unset, .unset, .unset, .unset, .unset, .unset, .unset, .unset] [(.int (3 : Int32)), (.int pp)])) _
    refine XS.iand X0.here hx rfl (hb hby at_2) rfl ?_
    show Steps p.tables e below (s₁.setTop (mkF m 3 #[.val (.int pp), .val (.int qq), .val (.int ln), .unset, .unset, .unset, .unset, .unset, .unset, .unset, .unset, .unset] [(.int (pp &&& (3 : Int32)))])) _
    refine XS.istoreN X0.here hx rfl (hb hby at_3) rfl (l' := #[.val (.int pp), .val (.int qq), .val (.int ln), .val (.int (pp &&& (3 : Int32))), .unset, .unset, .unset, .unset, .unset, .unset, .unset, .unset]) rfl ?_
    show Steps p.tables e below (s₁.setTop (mkF m 4 #[.val (.int pp), .val (.int qq), .val (.int ln), .val (.int (pp &&& (3 : Int32))), .unset, .unset, .unset, .unset, .unset, .unset, .unset, .unset] [])) _
    refine XS.iloadN X0.here hx rfl (hb hby at_4) rfl ?_
    show Steps p.tables e below (s₁.setTop (mkF m 5 #[.val (.int pp), .val (.int qq), .val (.int ln), .val (.int (pp &&& (3 : Int32))), .unset, .unset, .unset, .unset, .unset, .unset, .unset, .unset] [(.int pp)])) _
    refine XS.iconst X0.here hx rfl (hb hby at_5) ?_
    show Steps p.tables e below (s₁.setTop (mkF m 6 #[.val (.int pp), .val (.int qq), .val (.int ln), .val (.int (pp &&& (3 : Int32))), .unset, .unset, .unset, .unset, .unset, .unset, .unset, .unset] [(.int (2 : Int32)), (.int pp)])) _
    refine XS.iushr X0.here hx rfl (hb hby at_6) rfl ?_
    show Steps p.tables e below (s₁.setTop (mkF m 7 #[.val (.int pp), .val (.int qq), .val (.int ln), .val (.int (pp &&& (3 : Int32))), .unset, .unset, .unset, .unset, .unset, .unset, .unset, .unset] [(.int ((pp.toUInt32 >>> ((2 : Int32) &&& 31).toUInt32).toInt32))])) _
    refine XS.iconst X0.here hx rfl (hb hby at_7) ?_
    show Steps p.tables e below (s₁.setTop (mkF m 8 #[.val (.int pp), .val (.int qq), .val (.int ln), .val (.int (pp &&& (3 : Int32))), .unset, .unset, .unset, .unset, .unset, .unset, .unset, .unset] [(.int (3 : Int32)), (.int ((pp.toUInt32 >>> ((2 : Int32) &&& 31).toUInt32).toInt32))])) _
    refine XS.iand X0.here hx rfl (hb hby at_8) rfl ?_
    exact kt
  obtain ⟨u1, hu1⟩ : ∃ q : Int32, q = (((pp.toUInt32 >>> ((2 : Int32) &&& 31).toUInt32).toInt32) &&& (3 : Int32)) := ⟨_, rfl⟩
  rw [← hu1]
  refine Gl.up (B := s₁.setTop (mkF m 18 #[.val (.int pp), .val (.int qq), .val (.int ln), .val (.int (pp &&& (3 : Int32))), .val (.int u1), .unset, .unset, .unset, .unset, .unset, .unset, .unset] [(.int (((6 : Int32) - (pp &&& (3 : Int32))) - u1))])) (fun t kt => ?_) ?_
  · show Steps p.tables e below (s₁.setTop (mkF m 9 #[.val (.int pp), .val (.int qq), .val (.int ln), .val (.int (pp &&& (3 : Int32))), .unset, .unset, .unset, .unset, .unset, .unset, .unset, .unset] [(.int u1)])) _
    refine XS.istore X0.here hx rfl (hb hby at_9) rfl (l' := #[.val (.int pp), .val (.int qq), .val (.int ln), .val (.int (pp &&& (3 : Int32))), .val (.int u1), .unset, .unset, .unset, .unset, .unset, .unset, .unset]) rfl ?_
    show Steps p.tables e below (s₁.setTop (mkF m 11 #[.val (.int pp), .val (.int qq), .val (.int ln), .val (.int (pp &&& (3 : Int32))), .val (.int u1), .unset, .unset, .unset, .unset, .unset, .unset, .unset] [])) _
    refine XS.bipush X0.here hx rfl (hb hby at_11) ?_
    show Steps p.tables e below (s₁.setTop (mkF m 13 #[.val (.int pp), .val (.int qq), .val (.int ln), .val (.int (pp &&& (3 : Int32))), .val (.int u1), .unset, .unset, .unset, .unset, .unset, .unset, .unset] [(.int (6 : Int32))])) _
    refine XS.iloadN X0.here hx rfl (hb hby at_13) rfl ?_
    show Steps p.tables e below (s₁.setTop (mkF m 14 #[.val (.int pp), .val (.int qq), .val (.int ln), .val (.int (pp &&& (3 : Int32))), .val (.int u1), .unset, .unset, .unset, .unset, .unset, .unset, .unset] [(.int (pp &&& (3 : Int32))), (.int (6 : Int32))])) _
    refine XS.isub X0.here hx rfl (hb hby at_14) rfl ?_
    show Steps p.tables e below (s₁.setTop (mkF m 15 #[.val (.int pp), .val (.int qq), .val (.int ln), .val (.int (pp &&& (3 : Int32))), .val (.int u1), .unset, .unset, .unset, .unset, .unset, .unset, .unset] [(.int ((6 : Int32) - (pp &&& (3 : Int32))))])) _
    refine XS.iload X0.here hx rfl (hb hby at_15) rfl ?_
    show Steps p.tables e below (s₁.setTop (mkF m 17 #[.val (.int pp), .val (.int qq), .val (.int ln), .val (.int (pp &&& (3 : Int32))), .val (.int u1), .unset, .unset, .unset, .unset, .unset, .unset, .unset] [(.int u1), (.int ((6 : Int32) - (pp &&& (3 : Int32))))])) _
    refine XS.isub X0.here hx rfl (hb hby at_17) rfl ?_
    exact kt
  obtain ⟨u2, hu2⟩ : ∃ q : Int32, q = (((6 : Int32) - (pp &&& (3 : Int32))) - u1) := ⟨_, rfl⟩
  rw [← hu2]
  refine Gl.up (B := s₁.setTop (mkF m 22 #[.val (.int pp), .val (.int qq), .val (.int ln), .val (.int (pp &&& (3 : Int32))), .val (.int u1), .val (.int u2), .unset, .unset, .unset, .unset, .unset, .unset] [(.int (8 : Int32))])) (fun t kt => ?_) ?_
  · show Steps p.tables e below (s₁.setTop (mkF m 18 #[.val (.int pp), .val (.int qq), .val (.int ln), .val (.int (pp &&& (3 : Int32))), .val (.int u1), .unset, .unset, .unset, .unset, .unset, .unset, .unset] [(.int u2)])) _
    refine XS.istore X0.here hx rfl (hb hby at_18) rfl (l' := #[.val (.int pp), .val (.int qq), .val (.int ln), .val (.int (pp &&& (3 : Int32))), .val (.int u1), .val (.int u2), .unset, .unset, .unset, .unset, .unset, .unset]) rfl ?_
    show Steps p.tables e below (s₁.setTop (mkF m 20 #[.val (.int pp), .val (.int qq), .val (.int ln), .val (.int (pp &&& (3 : Int32))), .val (.int u1), .val (.int u2), .unset, .unset, .unset, .unset, .unset, .unset] [])) _
    refine XS.bipush X0.here hx rfl (hb hby at_20) ?_
    exact kt
  obtain ⟨T3, h3, k3, X3, e3, E3, A3, st3⟩ := newP X0 hx hZ (hw _ (List.mem_of_getElem? (i := 0) rfl)) e0 (g := (mkF m 22 #[.val (.int pp), .val (.int qq), .val (.int ln), .val (.int (pp &&& (3 : Int32))), .val (.int u1), .val (.int u2), .unset, .unset, .unset, .unset, .unset, .unset] [(.int (8 : Int32))])) rfl (hb hby at_22) rfl (by decide) (cap := 8) (by decide) (by decide) (by decide) (by decide)
  obtain ⟨b3, gq3⟩ : ∃ z, z = h0.size := ⟨_, rfl⟩
  have g_b3 : n0 ≤ b3 := Nat.le_trans (old_le O0) (Nat.le_of_eq gq3.symm)
  have O3 := O0.ext E3
  rw [← gq3] at A3 st3
  have V_b3_3 : Arv Z h3 b3 k3 .char (8 : Int32) (([0, 0, 0, 0, 0, 0, 0, 0] : List Int32).map Value.int) (.int (0 : Int32)) := (Arv.new A3 (by decide)).pad (pad_rep [] (.int (0 : Int32)) 8)
  refine Gl.up (B := T3.setTop (mkF m 24 #[.val (.int pp), .val (.int qq), .val (.int ln), .val (.int (pp &&& (3 : Int32))), .val (.int u1), .val (.int u2), .unset, .unset, .unset, .unset, .unset, .unset] [(.ref b3)])) (fun t kt => st3 _ kt) ?_
  refine Gl.up (B := T3.setTop (mkF m 31 #[.val (.int pp), .val (.int qq), .val (.int ln), .val (.int (pp &&& (3 : Int32))), .val (.int u1), .val (.int u2), .val (.ref b3), .unset, .unset, .unset, .unset, .unset] [(.int (0 : Int32)), (.int qq), (.int (0 : Int32)), (.ref b3)])) (fun t kt => ?_) ?_
  · show Steps p.tables e below (T3.setTop (mkF m 24 #[.val (.int pp), .val (.int qq), .val (.int ln), .val (.int (pp &&& (3 : Int32))), .val (.int u1), .val (.int u2), .unset, .unset, .unset, .unset, .unset, .unset] [(.ref b3)])) _
    refine XS.astore X3.here hx rfl (hb hby at_24) rfl rfl (l' := #[.val (.int pp), .val (.int qq), .val (.int ln), .val (.int (pp &&& (3 : Int32))), .val (.int u1), .val (.int u2), .val (.ref b3), .unset, .unset, .unset, .unset, .unset]) rfl ?_
    show Steps p.tables e below (T3.setTop (mkF m 26 #[.val (.int pp), .val (.int qq), .val (.int ln), .val (.int (pp &&& (3 : Int32))), .val (.int u1), .val (.int u2), .val (.ref b3), .unset, .unset, .unset, .unset, .unset] [])) _
    refine XS.aload X3.here hx rfl (hb hby at_26) rfl rfl ?_
    show Steps p.tables e below (T3.setTop (mkF m 28 #[.val (.int pp), .val (.int qq), .val (.int ln), .val (.int (pp &&& (3 : Int32))), .val (.int u1), .val (.int u2), .val (.ref b3), .unset, .unset, .unset, .unset, .unset] [(.ref b3)])) _
    refine XS.iconst X3.here hx rfl (hb hby at_28) ?_
    show Steps p.tables e below (T3.setTop (mkF m 29 #[.val (.int pp), .val (.int qq), .val (.int ln), .val (.int (pp &&& (3 : Int32))), .val (.int u1), .val (.int u2), .val (.ref b3), .unset, .unset, .unset, .unset, .unset] [(.int (0 : Int32)), (.ref b3)])) _
    refine XS.iloadN X3.here hx rfl (hb hby at_29) rfl ?_
    show Steps p.tables e below (T3.setTop (mkF m 30 #[.val (.int pp), .val (.int qq), .val (.int ln), .val (.int (pp &&& (3 : Int32))), .val (.int u1), .val (.int u2), .val (.ref b3), .unset, .unset, .unset, .unset, .unset] [(.int qq), (.int (0 : Int32)), (.ref b3)])) _
    refine XS.iconst X3.here hx rfl (hb hby at_30) ?_
    exact kt
  obtain ⟨_, _, ⟨T4, L4, k4, n4⟩, -, X4, ⟨Lc4, hQ4, l4, y4, z4⟩, st4⟩ := Jvm.LawKit.callS X3 hx (y := (⟨"com/example/ridgeline/ridgeline/table/RowStartPinLaw", "letter", "(II)C"⟩ : MethodName)) hown (mvT hZ (hw _ (List.mem_of_getElem? (i := 1) rfl))) (mvT hZ (hw _ (List.mem_of_getElem? (i := 2) rfl))) (mvT hZ (hw _ (List.mem_of_getElem? (i := 3) rfl))) (mvT hZ (hw _ (List.mem_of_getElem? (i := 4) rfl))) (by decide) (backOf (W := 2) (rm1 l Z aa hw [] qq (0 : Int32) h3 n0 O3) hZ (hw _ (List.mem_of_getElem? (i := 4) rfl)) (hw _ (List.mem_of_getElem? (i := 3) rfl)) (by decide) (by decide)) (g := (mkF m 31 #[.val (.int pp), .val (.int qq), .val (.int ln), .val (.int (pp &&& (3 : Int32))), .val (.int u1), .val (.int u2), .val (.ref b3), .unset, .unset, .unset, .unset, .unset] [(.int (0 : Int32)), (.int qq), (.int (0 : Int32)), (.ref b3)])) rfl (by rw [hml]; rfl) (argsL := [(.int qq), (.int (0 : Int32))]) (rest := [(.int (0 : Int32)), (.ref b3)]) (lenOf pd_oIIcC rfl) rfl (by show 2 * 0 + _ ≤ _; exact Nat.le_of_eq rfl) (hb hby at_31) (fun _ _ => ⟨rfl, e3, (by decide : 1 + 0 ≤ _), (by decide : 8 + 0 ≤ _)⟩)
  dsimp only [Pt.U, Pt.locs, Pt.cells, Pt.slots] at X4 l4 y4 z4 st4 hQ4
  subst l4 y4 z4
  obtain ⟨rfl, rfl, e4⟩ := hQ4
  try rw [List.append_nil] at X4
  refine Gl.up (B := T4.setTop (mkF m 34 #[.val (.int pp), .val (.int qq), .val (.int ln), .val (.int (pp &&& (3 : Int32))), .val (.int u1), .val (.int u2), .val (.ref b3), .unset, .unset, .unset, .unset, .unset] [(.int (f1 qq (0 : Int32))), (.int (0 : Int32)), (.ref b3)])) (fun t kt => st4 _ kt) ?_
  obtain ⟨ca5, Ar5, q5, S5, M5, H5, U5⟩ := id V_b3_3
  obtain ⟨T5, h5, X5, e5, W5, st5⟩ := stC X4 hx hZ e4 Ar5 (j := (0 : Int32)) (inb_of S5 ⟨by decide, by decide⟩) (g := (mkF m 34 #[.val (.int pp), .val (.int qq), .val (.int ln), .val (.int (pp &&& (3 : Int32))), .val (.int u1), .val (.int u2), .val (.ref b3), .unset, .unset, .unset, .unset, .unset] [(.int (f1 qq (0 : Int32))), (.int (0 : Int32)), (.ref b3)])) rfl rfl (hb hby at_34)
  have N5 := Fr.snoc X5 N0 g_b3
  have O5 := O3.wr W5 g_b3
  have V_b3_5 := Arv.set Ar5 q5 S5 M5 H5 U5 (fits_nar_char _) W5 0 rfl (by simp only [List.length_map, List.length_set, List.length_cons, List.length_nil]; omega)
  rw [own_mapset] at V_b3_5
  refine Gl.up (B := T5.setTop (mkF m 35 #[.val (.int pp), .val (.int qq), .val (.int ln), .val (.int (pp &&& (3 : Int32))), .val (.int u1), .val (.int u2), .val (.ref b3), .unset, .unset, .unset, .unset, .unset] [])) (fun t kt => st5 _ kt) ?_
  refine Gl.up (B := T5.setTop (mkF m 40 #[.val (.int pp), .val (.int qq), .val (.int ln), .val (.int (pp &&& (3 : Int32))), .val (.int u1), .val (.int u2), .val (.ref b3), .unset, .unset, .unset, .unset, .unset] [(.int (1 : Int32)), (.int qq), (.int (1 : Int32)), (.ref b3)])) (fun t kt => ?_) ?_
  · show Steps p.tables e below (T5.setTop (mkF m 35 #[.val (.int pp), .val (.int qq), .val (.int ln), .val (.int (pp &&& (3 : Int32))), .val (.int u1), .val (.int u2), .val (.ref b3), .unset, .unset, .unset, .unset, .unset] [])) _
    refine XS.aload X5.here hx rfl (hb hby at_35) rfl rfl ?_
    show Steps p.tables e below (T5.setTop (mkF m 37 #[.val (.int pp), .val (.int qq), .val (.int ln), .val (.int (pp &&& (3 : Int32))), .val (.int u1), .val (.int u2), .val (.ref b3), .unset, .unset, .unset, .unset, .unset] [(.ref b3)])) _
    refine XS.iconst X5.here hx rfl (hb hby at_37) ?_
    show Steps p.tables e below (T5.setTop (mkF m 38 #[.val (.int pp), .val (.int qq), .val (.int ln), .val (.int (pp &&& (3 : Int32))), .val (.int u1), .val (.int u2), .val (.ref b3), .unset, .unset, .unset, .unset, .unset] [(.int (1 : Int32)), (.ref b3)])) _
    refine XS.iloadN X5.here hx rfl (hb hby at_38) rfl ?_
    show Steps p.tables e below (T5.setTop (mkF m 39 #[.val (.int pp), .val (.int qq), .val (.int ln), .val (.int (pp &&& (3 : Int32))), .val (.int u1), .val (.int u2), .val (.ref b3), .unset, .unset, .unset, .unset, .unset] [(.int qq), (.int (1 : Int32)), (.ref b3)])) _
    refine XS.iconst X5.here hx rfl (hb hby at_39) ?_
    exact kt
  obtain ⟨_, _, ⟨T6, L6, k6, n6⟩, -, X6, ⟨Lc6, hQ6, l6, y6, z6⟩, st6⟩ := Jvm.LawKit.callS X5 hx (y := (⟨"com/example/ridgeline/ridgeline/table/RowStartPinLaw", "letter", "(II)C"⟩ : MethodName)) hown (mvT hZ (hw _ (List.mem_of_getElem? (i := 1) rfl))) (mvT hZ (hw _ (List.mem_of_getElem? (i := 2) rfl))) (mvT hZ (hw _ (List.mem_of_getElem? (i := 3) rfl))) (mvT hZ (hw _ (List.mem_of_getElem? (i := 4) rfl))) (by decide) (backOf (W := 2) (rm1 l Z aa hw [] qq (1 : Int32) h5 n0 O5) hZ (hw _ (List.mem_of_getElem? (i := 4) rfl)) (hw _ (List.mem_of_getElem? (i := 3) rfl)) (by decide) (by decide)) (g := (mkF m 40 #[.val (.int pp), .val (.int qq), .val (.int ln), .val (.int (pp &&& (3 : Int32))), .val (.int u1), .val (.int u2), .val (.ref b3), .unset, .unset, .unset, .unset, .unset] [(.int (1 : Int32)), (.int qq), (.int (1 : Int32)), (.ref b3)])) rfl (by rw [hml]; rfl) (argsL := [(.int qq), (.int (1 : Int32))]) (rest := [(.int (1 : Int32)), (.ref b3)]) (lenOf pd_oIIcC rfl) rfl (by show 2 * 0 + _ ≤ _; exact Nat.le_of_eq rfl) (hb hby at_40) (fun _ _ => ⟨rfl, e5, (by decide : 1 + 0 ≤ _), (by decide : 8 + 0 ≤ _)⟩)
  dsimp only [Pt.U, Pt.locs, Pt.cells, Pt.slots] at X6 l6 y6 z6 st6 hQ6
  subst l6 y6 z6
  obtain ⟨rfl, rfl, e6⟩ := hQ6
  try rw [List.append_nil] at X6
  refine Gl.up (B := T6.setTop (mkF m 43 #[.val (.int pp), .val (.int qq), .val (.int ln), .val (.int (pp &&& (3 : Int32))), .val (.int u1), .val (.int u2), .val (.ref b3), .unset, .unset, .unset, .unset, .unset] [(.int (f1 qq (1 : Int32))), (.int (1 : Int32)), (.ref b3)])) (fun t kt => st6 _ kt) ?_
  obtain ⟨ca7, Ar7, q7, S7, M7, H7, U7⟩ := id V_b3_5
  obtain ⟨T7, h7, X7, e7, W7, st7⟩ := stC X6 hx hZ e6 Ar7 (j := (1 : Int32)) (inb_of S7 ⟨by decide, by decide⟩) (g := (mkF m 43 #[.val (.int pp), .val (.int qq), .val (.int ln), .val (.int (pp &&& (3 : Int32))), .val (.int u1), .val (.int u2), .val (.ref b3), .unset, .unset, .unset, .unset, .unset] [(.int (f1 qq (1 : Int32))), (.int (1 : Int32)), (.ref b3)])) rfl rfl (hb hby at_43)
  have N7 := Fr.snoc X7 N5 g_b3
  have O7 := O5.wr W7 g_b3
  have V_b3_7 := Arv.set Ar7 q7 S7 M7 H7 U7 (fits_nar_char _) W7 1 rfl (by simp only [List.length_map, List.length_set, List.length_cons, List.length_nil]; omega)
  rw [own_mapset] at V_b3_7
  refine Gl.up (B := T7.setTop (mkF m 44 #[.val (.int pp), .val (.int qq), .val (.int ln), .val (.int (pp &&& (3 : Int32))), .val (.int u1), .val (.int u2), .val (.ref b3), .unset, .unset, .unset, .unset, .unset] [])) (fun t kt => st7 _ kt) ?_
  refine Gl.up (B := T7.setTop (mkF m 49 #[.val (.int pp), .val (.int qq), .val (.int ln), .val (.int (pp &&& (3 : Int32))), .val (.int u1), .val (.int u2), .val (.ref b3), .unset, .unset, .unset, .unset, .unset] [(.int (2 : Int32)), (.int qq), (.int (2 : Int32)), (.ref b3)])) (fun t kt => ?_) ?_
  · show Steps p.tables e below (T7.setTop (mkF m 44 #[.val (.int pp), .val (.int qq), .val (.int ln), .val (.int (pp &&& (3 : Int32))), .val (.int u1), .val (.int u2), .val (.ref b3), .unset, .unset, .unset, .unset, .unset] [])) _
    refine XS.aload X7.here hx rfl (hb hby at_44) rfl rfl ?_
    show Steps p.tables e below (T7.setTop (mkF m 46 #[.val (.int pp), .val (.int qq), .val (.int ln), .val (.int (pp &&& (3 : Int32))), .val (.int u1), .val (.int u2), .val (.ref b3), .unset, .unset, .unset, .unset, .unset] [(.ref b3)])) _
    refine XS.iconst X7.here hx rfl (hb hby at_46) ?_
    show Steps p.tables e below (T7.setTop (mkF m 47 #[.val (.int pp), .val (.int qq), .val (.int ln), .val (.int (pp &&& (3 : Int32))), .val (.int u1), .val (.int u2), .val (.ref b3), .unset, .unset, .unset, .unset, .unset] [(.int (2 : Int32)), (.ref b3)])) _
    refine XS.iloadN X7.here hx rfl (hb hby at_47) rfl ?_
    show Steps p.tables e below (T7.setTop (mkF m 48 #[.val (.int pp), .val (.int qq), .val (.int ln), .val (.int (pp &&& (3 : Int32))), .val (.int u1), .val (.int u2), .val (.ref b3), .unset, .unset, .unset, .unset, .unset] [(.int qq), (.int (2 : Int32)), (.ref b3)])) _
    refine XS.iconst X7.here hx rfl (hb hby at_48) ?_
    exact kt
  obtain ⟨_, _, ⟨T8, L8, k8, n8⟩, -, X8, ⟨Lc8, hQ8, l8, y8, z8⟩, st8⟩ := Jvm.LawKit.callS X7 hx (y := (⟨"com/example/ridgeline/ridgeline/table/RowStartPinLaw", "letter", "(II)C"⟩ : MethodName)) hown (mvT hZ (hw _ (List.mem_of_getElem? (i := 1) rfl))) (mvT hZ (hw _ (List.mem_of_getElem? (i := 2) rfl))) (mvT hZ (hw _ (List.mem_of_getElem? (i := 3) rfl))) (mvT hZ (hw _ (List.mem_of_getElem? (i := 4) rfl))) (by decide) (backOf (W := 2) (rm1 l Z aa hw [] qq (2 : Int32) h7 n0 O7) hZ (hw _ (List.mem_of_getElem? (i := 4) rfl)) (hw _ (List.mem_of_getElem? (i := 3) rfl)) (by decide) (by decide)) (g := (mkF m 49 #[.val (.int pp), .val (.int qq), .val (.int ln), .val (.int (pp &&& (3 : Int32))), .val (.int u1), .val (.int u2), .val (.ref b3), .unset, .unset, .unset, .unset, .unset] [(.int (2 : Int32)), (.int qq), (.int (2 : Int32)), (.ref b3)])) rfl (by rw [hml]; rfl) (argsL := [(.int qq), (.int (2 : Int32))]) (rest := [(.int (2 : Int32)), (.ref b3)]) (lenOf pd_oIIcC rfl) rfl (by show 2 * 0 + _ ≤ _; exact Nat.le_of_eq rfl) (hb hby at_49) (fun _ _ => ⟨rfl, e7, (by decide : 1 + 0 ≤ _), (by decide : 8 + 0 ≤ _)⟩)
  dsimp only [Pt.U, Pt.locs, Pt.cells, Pt.slots] at X8 l8 y8 z8 st8 hQ8
  subst l8 y8 z8
  obtain ⟨rfl, rfl, e8⟩ := hQ8
  try rw [List.append_nil] at X8
  refine Gl.up (B := T8.setTop (mkF m 52 #[.val (.int pp), .val (.int qq), .val (.int ln), .val (.int (pp &&& (3 : Int32))), .val (.int u1), .val (.int u2), .val (.ref b3), .unset, .unset, .unset, .unset, .unset] [(.int (f1 qq (2 : Int32))), (.int (2 : Int32)), (.ref b3)])) (fun t kt => st8 _ kt) ?_
  obtain ⟨ca9, Ar9, q9, S9, M9, H9, U9⟩ := id V_b3_7
  obtain ⟨T9, h9, X9, e9, W9, st9⟩ := stC X8 hx hZ e8 Ar9 (j := (2 : Int32)) (inb_of S9 ⟨by decide, by decide⟩) (g := (mkF m 52 #[.val (.int pp), .val (.int qq), .val (.int ln), .val (.int (pp &&& (3 : Int32))), .val (.int u1), .val (.int u2), .val (.ref b3), .unset, .unset, .unset, .unset, .unset] [(.int (f1 qq (2 : Int32))), (.int (2 : Int32)), (.ref b3)])) rfl rfl (hb hby at_52)
  have N9 := Fr.snoc X9 N7 g_b3
  have O9 := O7.wr W9 g_b3
  have V_b3_9 := Arv.set Ar9 q9 S9 M9 H9 U9 (fits_nar_char _) W9 2 rfl (by simp only [List.length_map, List.length_set, List.length_cons, List.length_nil]; omega)
  rw [own_mapset] at V_b3_9
  refine Gl.up (B := T9.setTop (mkF m 53 #[.val (.int pp), .val (.int qq), .val (.int ln), .val (.int (pp &&& (3 : Int32))), .val (.int u1), .val (.int u2), .val (.ref b3), .unset, .unset, .unset, .unset, .unset] [])) (fun t kt => st9 _ kt) ?_
  refine Gl.up (B := T9.setTop (mkF m 58 #[.val (.int pp), .val (.int qq), .val (.int ln), .val (.int (pp &&& (3 : Int32))), .val (.int u1), .val (.int u2), .val (.ref b3), .unset, .unset, .unset, .unset, .unset] [(.int (3 : Int32)), (.int qq), (.int (3 : Int32)), (.ref b3)])) (fun t kt => ?_) ?_
  · show Steps p.tables e below (T9.setTop (mkF m 53 #[.val (.int pp), .val (.int qq), .val (.int ln), .val (.int (pp &&& (3 : Int32))), .val (.int u1), .val (.int u2), .val (.ref b3), .unset, .unset, .unset, .unset, .unset] [])) _
    refine XS.aload X9.here hx rfl (hb hby at_53) rfl rfl ?_
    show Steps p.tables e below (T9.setTop (mkF m 55 #[.val (.int pp), .val (.int qq), .val (.int ln), .val (.int (pp &&& (3 : Int32))), .val (.int u1), .val (.int u2), .val (.ref b3), .unset, .unset, .unset, .unset, .unset] [(.ref b3)])) _
    refine XS.iconst X9.here hx rfl (hb hby at_55) ?_
    show Steps p.tables e below (T9.setTop (mkF m 56 #[.val (.int pp), .val (.int qq), .val (.int ln), .val (.int (pp &&& (3 : Int32))), .val (.int u1), .val (.int u2), .val (.ref b3), .unset, .unset, .unset, .unset, .unset] [(.int (3 : Int32)), (.ref b3)])) _
    refine XS.iloadN X9.here hx rfl (hb hby at_56) rfl ?_
    show Steps p.tables e below (T9.setTop (mkF m 57 #[.val (.int pp), .val (.int qq), .val (.int ln), .val (.int (pp &&& (3 : Int32))), .val (.int u1), .val (.int u2), .val (.ref b3), .unset, .unset, .unset, .unset, .unset] [(.int qq), (.int (3 : Int32)), (.ref b3)])) _
    refine XS.iconst X9.here hx rfl (hb hby at_57) ?_
    exact kt
  obtain ⟨_, _, ⟨T10, L10, k10, n10⟩, -, X10, ⟨Lc10, hQ10, l10, y10, z10⟩, st10⟩ := Jvm.LawKit.callS X9 hx (y := (⟨"com/example/ridgeline/ridgeline/table/RowStartPinLaw", "letter", "(II)C"⟩ : MethodName)) hown (mvT hZ (hw _ (List.mem_of_getElem? (i := 1) rfl))) (mvT hZ (hw _ (List.mem_of_getElem? (i := 2) rfl))) (mvT hZ (hw _ (List.mem_of_getElem? (i := 3) rfl))) (mvT hZ (hw _ (List.mem_of_getElem? (i := 4) rfl))) (by decide) (backOf (W := 2) (rm1 l Z aa hw [] qq (3 : Int32) h9 n0 O9) hZ (hw _ (List.mem_of_getElem? (i := 4) rfl)) (hw _ (List.mem_of_getElem? (i := 3) rfl)) (by decide) (by decide)) (g := (mkF m 58 #[.val (.int pp), .val (.int qq), .val (.int ln), .val (.int (pp &&& (3 : Int32))), .val (.int u1), .val (.int u2), .val (.ref b3), .unset, .unset, .unset, .unset, .unset] [(.int (3 : Int32)), (.int qq), (.int (3 : Int32)), (.ref b3)])) rfl (by rw [hml]; rfl) (argsL := [(.int qq), (.int (3 : Int32))]) (rest := [(.int (3 : Int32)), (.ref b3)]) (lenOf pd_oIIcC rfl) rfl (by show 2 * 0 + _ ≤ _; exact Nat.le_of_eq rfl) (hb hby at_58) (fun _ _ => ⟨rfl, e9, (by decide : 1 + 0 ≤ _), (by decide : 8 + 0 ≤ _)⟩)
  dsimp only [Pt.U, Pt.locs, Pt.cells, Pt.slots] at X10 l10 y10 z10 st10 hQ10
  subst l10 y10 z10
  obtain ⟨rfl, rfl, e10⟩ := hQ10
  try rw [List.append_nil] at X10
  refine Gl.up (B := T10.setTop (mkF m 61 #[.val (.int pp), .val (.int qq), .val (.int ln), .val (.int (pp &&& (3 : Int32))), .val (.int u1), .val (.int u2), .val (.ref b3), .unset, .unset, .unset, .unset, .unset] [(.int (f1 qq (3 : Int32))), (.int (3 : Int32)), (.ref b3)])) (fun t kt => st10 _ kt) ?_
  obtain ⟨ca11, Ar11, q11, S11, M11, H11, U11⟩ := id V_b3_9
  obtain ⟨T11, h11, X11, e11, W11, st11⟩ := stC X10 hx hZ e10 Ar11 (j := (3 : Int32)) (inb_of S11 ⟨by decide, by decide⟩) (g := (mkF m 61 #[.val (.int pp), .val (.int qq), .val (.int ln), .val (.int (pp &&& (3 : Int32))), .val (.int u1), .val (.int u2), .val (.ref b3), .unset, .unset, .unset, .unset, .unset] [(.int (f1 qq (3 : Int32))), (.int (3 : Int32)), (.ref b3)])) rfl rfl (hb hby at_61)
  have N11 := Fr.snoc X11 N9 g_b3
  have O11 := O9.wr W11 g_b3
  have V_b3_11 := Arv.set Ar11 q11 S11 M11 H11 U11 (fits_nar_char _) W11 3 rfl (by simp only [List.length_map, List.length_set, List.length_cons, List.length_nil]; omega)
  rw [own_mapset] at V_b3_11
  refine Gl.up (B := T11.setTop (mkF m 62 #[.val (.int pp), .val (.int qq), .val (.int ln), .val (.int (pp &&& (3 : Int32))), .val (.int u1), .val (.int u2), .val (.ref b3), .unset, .unset, .unset, .unset, .unset] [])) (fun t kt => st11 _ kt) ?_
  refine Gl.up (B := T11.setTop (mkF m 67 #[.val (.int pp), .val (.int qq), .val (.int ln), .val (.int (pp &&& (3 : Int32))), .val (.int u1), .val (.int u2), .val (.ref b3), .unset, .unset, .unset, .unset, .unset] [(.int (4 : Int32)), (.int qq), (.int (4 : Int32)), (.ref b3)])) (fun t kt => ?_) ?_
  · show Steps p.tables e below (T11.setTop (mkF m 62 #[.val (.int pp), .val (.int qq), .val (.int ln), .val (.int (pp &&& (3 : Int32))), .val (.int u1), .val (.int u2), .val (.ref b3), .unset, .unset, .unset, .unset, .unset] [])) _
    refine XS.aload X11.here hx rfl (hb hby at_62) rfl rfl ?_
    show Steps p.tables e below (T11.setTop (mkF m 64 #[.val (.int pp), .val (.int qq), .val (.int ln), .val (.int (pp &&& (3 : Int32))), .val (.int u1), .val (.int u2), .val (.ref b3), .unset, .unset, .unset, .unset, .unset] [(.ref b3)])) _
    refine XS.iconst X11.here hx rfl (hb hby at_64) ?_
    show Steps p.tables e below (T11.setTop (mkF m 65 #[.val (.int pp), .val (.int qq), .val (.int ln), .val (.int (pp &&& (3 : Int32))), .val (.int u1), .val (.int u2), .val (.ref b3), .unset, .unset, .unset, .unset, .unset] [(.int (4 : Int32)), (.ref b3)])) _
    refine XS.iloadN X11.here hx rfl (hb hby at_65) rfl ?_
    show Steps p.tables e below (T11.setTop (mkF m 66 #[.val (.int pp), .val (.int qq), .val (.int ln), .val (.int (pp &&& (3 : Int32))), .val (.int u1), .val (.int u2), .val (.ref b3), .unset, .unset, .unset, .unset, .unset] [(.int qq), (.int (4 : Int32)), (.ref b3)])) _
    refine XS.iconst X11.here hx rfl (hb hby at_66) ?_
    exact kt
  obtain ⟨_, _, ⟨T12, L12, k12, n12⟩, -, X12, ⟨Lc12, hQ12, l12, y12, z12⟩, st12⟩ := Jvm.LawKit.callS X11 hx (y := (⟨"com/example/ridgeline/ridgeline/table/RowStartPinLaw", "letter", "(II)C"⟩ : MethodName)) hown (mvT hZ (hw _ (List.mem_of_getElem? (i := 1) rfl))) (mvT hZ (hw _ (List.mem_of_getElem? (i := 2) rfl))) (mvT hZ (hw _ (List.mem_of_getElem? (i := 3) rfl))) (mvT hZ (hw _ (List.mem_of_getElem? (i := 4) rfl))) (by decide) (backOf (W := 2) (rm1 l Z aa hw [] qq (4 : Int32) h11 n0 O11) hZ (hw _ (List.mem_of_getElem? (i := 4) rfl)) (hw _ (List.mem_of_getElem? (i := 3) rfl)) (by decide) (by decide)) (g := (mkF m 67 #[.val (.int pp), .val (.int qq), .val (.int ln), .val (.int (pp &&& (3 : Int32))), .val (.int u1), .val (.int u2), .val (.ref b3), .unset, .unset, .unset, .unset, .unset] [(.int (4 : Int32)), (.int qq), (.int (4 : Int32)), (.ref b3)])) rfl (by rw [hml]; rfl) (argsL := [(.int qq), (.int (4 : Int32))]) (rest := [(.int (4 : Int32)), (.ref b3)]) (lenOf pd_oIIcC rfl) rfl (by show 2 * 0 + _ ≤ _; exact Nat.le_of_eq rfl) (hb hby at_67) (fun _ _ => ⟨rfl, e11, (by decide : 1 + 0 ≤ _), (by decide : 8 + 0 ≤ _)⟩)
  dsimp only [Pt.U, Pt.locs, Pt.cells, Pt.slots] at X12 l12 y12 z12 st12 hQ12
  subst l12 y12 z12
  obtain ⟨rfl, rfl, e12⟩ := hQ12
  try rw [List.append_nil] at X12
  refine Gl.up (B := T12.setTop (mkF m 70 #[.val (.int pp), .val (.int qq), .val (.int ln), .val (.int (pp &&& (3 : Int32))), .val (.int u1), .val (.int u2), .val (.ref b3), .unset, .unset, .unset, .unset, .unset] [(.int (f1 qq (4 : Int32))), (.int (4 : Int32)), (.ref b3)])) (fun t kt => st12 _ kt) ?_
  obtain ⟨ca13, Ar13, q13, S13, M13, H13, U13⟩ := id V_b3_11
  obtain ⟨T13, h13, X13, e13, W13, st13⟩ := stC X12 hx hZ e12 Ar13 (j := (4 : Int32)) (inb_of S13 ⟨by decide, by decide⟩) (g := (mkF m 70 #[.val (.int pp), .val (.int qq), .val (.int ln), .val (.int (pp &&& (3 : Int32))), .val (.int u1), .val (.int u2), .val (.ref b3), .unset, .unset, .unset, .unset, .unset] [(.int (f1 qq (4 : Int32))), (.int (4 : Int32)), (.ref b3)])) rfl rfl (hb hby at_70)
  have N13 := Fr.snoc X13 N11 g_b3
  have O13 := O11.wr W13 g_b3
  have V_b3_13 := Arv.set Ar13 q13 S13 M13 H13 U13 (fits_nar_char _) W13 4 rfl (by simp only [List.length_map, List.length_set, List.length_cons, List.length_nil]; omega)
  rw [own_mapset] at V_b3_13
  refine Gl.up (B := T13.setTop (mkF m 71 #[.val (.int pp), .val (.int qq), .val (.int ln), .val (.int (pp &&& (3 : Int32))), .val (.int u1), .val (.int u2), .val (.ref b3), .unset, .unset, .unset, .unset, .unset] [])) (fun t kt => st13 _ kt) ?_
  refine Gl.up (B := T13.setTop (mkF m 76 #[.val (.int pp), .val (.int qq), .val (.int ln), .val (.int (pp &&& (3 : Int32))), .val (.int u1), .val (.int u2), .val (.ref b3), .unset, .unset, .unset, .unset, .unset] [(.int (5 : Int32)), (.int qq), (.int (5 : Int32)), (.ref b3)])) (fun t kt => ?_) ?_
  · show Steps p.tables e below (T13.setTop (mkF m 71 #[.val (.int pp), .val (.int qq), .val (.int ln), .val (.int (pp &&& (3 : Int32))), .val (.int u1), .val (.int u2), .val (.ref b3), .unset, .unset, .unset, .unset, .unset] [])) _
    refine XS.aload X13.here hx rfl (hb hby at_71) rfl rfl ?_
    show Steps p.tables e below (T13.setTop (mkF m 73 #[.val (.int pp), .val (.int qq), .val (.int ln), .val (.int (pp &&& (3 : Int32))), .val (.int u1), .val (.int u2), .val (.ref b3), .unset, .unset, .unset, .unset, .unset] [(.ref b3)])) _
    refine XS.iconst X13.here hx rfl (hb hby at_73) ?_
    show Steps p.tables e below (T13.setTop (mkF m 74 #[.val (.int pp), .val (.int qq), .val (.int ln), .val (.int (pp &&& (3 : Int32))), .val (.int u1), .val (.int u2), .val (.ref b3), .unset, .unset, .unset, .unset, .unset] [(.int (5 : Int32)), (.ref b3)])) _
    refine XS.iloadN X13.here hx rfl (hb hby at_74) rfl ?_
    show Steps p.tables e below (T13.setTop (mkF m 75 #[.val (.int pp), .val (.int qq), .val (.int ln), .val (.int (pp &&& (3 : Int32))), .val (.int u1), .val (.int u2), .val (.ref b3), .unset, .unset, .unset, .unset, .unset] [(.int qq), (.int (5 : Int32)), (.ref b3)])) _
    refine XS.iconst X13.here hx rfl (hb hby at_75) ?_
    exact kt
  obtain ⟨_, _, ⟨T14, L14, k14, n14⟩, -, X14, ⟨Lc14, hQ14, l14, y14, z14⟩, st14⟩ := Jvm.LawKit.callS X13 hx (y := (⟨"com/example/ridgeline/ridgeline/table/RowStartPinLaw", "letter", "(II)C"⟩ : MethodName)) hown (mvT hZ (hw _ (List.mem_of_getElem? (i := 1) rfl))) (mvT hZ (hw _ (List.mem_of_getElem? (i := 2) rfl))) (mvT hZ (hw _ (List.mem_of_getElem? (i := 3) rfl))) (mvT hZ (hw _ (List.mem_of_getElem? (i := 4) rfl))) (by decide) (backOf (W := 2) (rm1 l Z aa hw [] qq (5 : Int32) h13 n0 O13) hZ (hw _ (List.mem_of_getElem? (i := 4) rfl)) (hw _ (List.mem_of_getElem? (i := 3) rfl)) (by decide) (by decide)) (g := (mkF m 76 #[.val (.int pp), .val (.int qq), .val (.int ln), .val (.int (pp &&& (3 : Int32))), .val (.int u1), .val (.int u2), .val (.ref b3), .unset, .unset, .unset, .unset, .unset] [(.int (5 : Int32)), (.int qq), (.int (5 : Int32)), (.ref b3)])) rfl (by rw [hml]; rfl) (argsL := [(.int qq), (.int (5 : Int32))]) (rest := [(.int (5 : Int32)), (.ref b3)]) (lenOf pd_oIIcC rfl) rfl (by show 2 * 0 + _ ≤ _; exact Nat.le_of_eq rfl) (hb hby at_76) (fun _ _ => ⟨rfl, e13, (by decide : 1 + 0 ≤ _), (by decide : 8 + 0 ≤ _)⟩)
  dsimp only [Pt.U, Pt.locs, Pt.cells, Pt.slots] at X14 l14 y14 z14 st14 hQ14
  subst l14 y14 z14
  obtain ⟨rfl, rfl, e14⟩ := hQ14
  try rw [List.append_nil] at X14
  refine Gl.up (B := T14.setTop (mkF m 79 #[.val (.int pp), .val (.int qq), .val (.int ln), .val (.int (pp &&& (3 : Int32))), .val (.int u1), .val (.int u2), .val (.ref b3), .unset, .unset, .unset, .unset, .unset] [(.int (f1 qq (5 : Int32))), (.int (5 : Int32)), (.ref b3)])) (fun t kt => st14 _ kt) ?_
  obtain ⟨ca15, Ar15, q15, S15, M15, H15, U15⟩ := id V_b3_13
  obtain ⟨T15, h15, X15, e15, W15, st15⟩ := stC X14 hx hZ e14 Ar15 (j := (5 : Int32)) (inb_of S15 ⟨by decide, by decide⟩) (g := (mkF m 79 #[.val (.int pp), .val (.int qq), .val (.int ln), .val (.int (pp &&& (3 : Int32))), .val (.int u1), .val (.int u2), .val (.ref b3), .unset, .unset, .unset, .unset, .unset] [(.int (f1 qq (5 : Int32))), (.int (5 : Int32)), (.ref b3)])) rfl rfl (hb hby at_79)
  have N15 := Fr.snoc X15 N13 g_b3
  have O15 := O13.wr W15 g_b3
  have V_b3_15 := Arv.set Ar15 q15 S15 M15 H15 U15 (fits_nar_char _) W15 5 rfl (by simp only [List.length_map, List.length_set, List.length_cons, List.length_nil]; omega)
  rw [own_mapset] at V_b3_15
  refine Gl.up (B := T15.setTop (mkF m 80 #[.val (.int pp), .val (.int qq), .val (.int ln), .val (.int (pp &&& (3 : Int32))), .val (.int u1), .val (.int u2), .val (.ref b3), .unset, .unset, .unset, .unset, .unset] [])) (fun t kt => st15 _ kt) ?_
  refine Gl.up (B := T15.setTop (mkF m 87 #[.val (.int pp), .val (.int qq), .val (.int ln), .val (.int (pp &&& (3 : Int32))), .val (.int u1), .val (.int u2), .val (.ref b3), .unset, .unset, .unset, .unset, .unset] [(.int (6 : Int32)), (.int qq), (.int (6 : Int32)), (.ref b3)])) (fun t kt => ?_) ?_
  · show Steps p.tables e below (T15.setTop (mkF m 80 #[.val (.int pp), .val (.int qq), .val (.int ln), .val (.int (pp &&& (3 : Int32))), .val (.int u1), .val (.int u2), .val (.ref b3), .unset, .unset, .unset, .unset, .unset] [])) _
    refine XS.aload X15.here hx rfl (hb hby at_80) rfl rfl ?_
    show Steps p.tables e below (T15.setTop (mkF m 82 #[.val (.int pp), .val (.int qq), .val (.int ln), .val (.int (pp &&& (3 : Int32))), .val (.int u1), .val (.int u2), .val (.ref b3), .unset, .unset, .unset, .unset, .unset] [(.ref b3)])) _
    refine XS.bipush X15.here hx rfl (hb hby at_82) ?_
    show Steps p.tables e below (T15.setTop (mkF m 84 #[.val (.int pp), .val (.int qq), .val (.int ln), .val (.int (pp &&& (3 : Int32))), .val (.int u1), .val (.int u2), .val (.ref b3), .unset, .unset, .unset, .unset, .unset] [(.int (6 : Int32)), (.ref b3)])) _
    refine XS.iloadN X15.here hx rfl (hb hby at_84) rfl ?_
    show Steps p.tables e below (T15.setTop (mkF m 85 #[.val (.int pp), .val (.int qq), .val (.int ln), .val (.int (pp &&& (3 : Int32))), .val (.int u1), .val (.int u2), .val (.ref b3), .unset, .unset, .unset, .unset, .unset] [(.int qq), (.int (6 : Int32)), (.ref b3)])) _
    refine XS.bipush X15.here hx rfl (hb hby at_85) ?_
    exact kt
  obtain ⟨_, _, ⟨T16, L16, k16, n16⟩, -, X16, ⟨Lc16, hQ16, l16, y16, z16⟩, st16⟩ := Jvm.LawKit.callS X15 hx (y := (⟨"com/example/ridgeline/ridgeline/table/RowStartPinLaw", "letter", "(II)C"⟩ : MethodName)) hown (mvT hZ (hw _ (List.mem_of_getElem? (i := 1) rfl))) (mvT hZ (hw _ (List.mem_of_getElem? (i := 2) rfl))) (mvT hZ (hw _ (List.mem_of_getElem? (i := 3) rfl))) (mvT hZ (hw _ (List.mem_of_getElem? (i := 4) rfl))) (by decide) (backOf (W := 2) (rm1 l Z aa hw [] qq (6 : Int32) h15 n0 O15) hZ (hw _ (List.mem_of_getElem? (i := 4) rfl)) (hw _ (List.mem_of_getElem? (i := 3) rfl)) (by decide) (by decide)) (g := (mkF m 87 #[.val (.int pp), .val (.int qq), .val (.int ln), .val (.int (pp &&& (3 : Int32))), .val (.int u1), .val (.int u2), .val (.ref b3), .unset, .unset, .unset, .unset, .unset] [(.int (6 : Int32)), (.int qq), (.int (6 : Int32)), (.ref b3)])) rfl (by rw [hml]; rfl) (argsL := [(.int qq), (.int (6 : Int32))]) (rest := [(.int (6 : Int32)), (.ref b3)]) (lenOf pd_oIIcC rfl) rfl (by show 2 * 0 + _ ≤ _; exact Nat.le_of_eq rfl) (hb hby at_87) (fun _ _ => ⟨rfl, e15, (by decide : 1 + 0 ≤ _), (by decide : 8 + 0 ≤ _)⟩)
  dsimp only [Pt.U, Pt.locs, Pt.cells, Pt.slots] at X16 l16 y16 z16 st16 hQ16
  subst l16 y16 z16
  obtain ⟨rfl, rfl, e16⟩ := hQ16
  try rw [List.append_nil] at X16
  refine Gl.up (B := T16.setTop (mkF m 90 #[.val (.int pp), .val (.int qq), .val (.int ln), .val (.int (pp &&& (3 : Int32))), .val (.int u1), .val (.int u2), .val (.ref b3), .unset, .unset, .unset, .unset, .unset] [(.int (f1 qq (6 : Int32))), (.int (6 : Int32)), (.ref b3)])) (fun t kt => st16 _ kt) ?_
  obtain ⟨ca17, Ar17, q17, S17, M17, H17, U17⟩ := id V_b3_15
  obtain ⟨T17, h17, X17, e17, W17, st17⟩ := stC X16 hx hZ e16 Ar17 (j := (6 : Int32)) (inb_of S17 ⟨by decide, by decide⟩) (g := (mkF m 90 #[.val (.int pp), .val (.int qq), .val (.int ln), .val (.int (pp &&& (3 : Int32))), .val (.int u1), .val (.int u2), .val (.ref b3), .unset, .unset, .unset, .unset, .unset] [(.int (f1 qq (6 : Int32))), (.int (6 : Int32)), (.ref b3)])) rfl rfl (hb hby at_90)
  have N17 := Fr.snoc X17 N15 g_b3
  have O17 := O15.wr W17 g_b3
  have V_b3_17 := Arv.set Ar17 q17 S17 M17 H17 U17 (fits_nar_char _) W17 6 rfl (by simp only [List.length_map, List.length_set, List.length_cons, List.length_nil]; omega)
  rw [own_mapset] at V_b3_17
  refine Gl.up (B := T17.setTop (mkF m 91 #[.val (.int pp), .val (.int qq), .val (.int ln), .val (.int (pp &&& (3 : Int32))), .val (.int u1), .val (.int u2), .val (.ref b3), .unset, .unset, .unset, .unset, .unset] [])) (fun t kt => st17 _ kt) ?_
  refine Gl.up (B := T17.setTop (mkF m 98 #[.val (.int pp), .val (.int qq), .val (.int ln), .val (.int (pp &&& (3 : Int32))), .val (.int u1), .val (.int u2), .val (.ref b3), .unset, .unset, .unset, .unset, .unset] [(.int (7 : Int32)), (.int qq), (.int (7 : Int32)), (.ref b3)])) (fun t kt => ?_) ?_
  · show Steps p.tables e below (T17.setTop (mkF m 91 #[.val (.int pp), .val (.int qq), .val (.int ln), .val (.int (pp &&& (3 : Int32))), .val (.int u1), .val (.int u2), .val (.ref b3), .unset, .unset, .unset, .unset, .unset] [])) _
    refine XS.aload X17.here hx rfl (hb hby at_91) rfl rfl ?_
    show Steps p.tables e below (T17.setTop (mkF m 93 #[.val (.int pp), .val (.int qq), .val (.int ln), .val (.int (pp &&& (3 : Int32))), .val (.int u1), .val (.int u2), .val (.ref b3), .unset, .unset, .unset, .unset, .unset] [(.ref b3)])) _
    refine XS.bipush X17.here hx rfl (hb hby at_93) ?_
    show Steps p.tables e below (T17.setTop (mkF m 95 #[.val (.int pp), .val (.int qq), .val (.int ln), .val (.int (pp &&& (3 : Int32))), .val (.int u1), .val (.int u2), .val (.ref b3), .unset, .unset, .unset, .unset, .unset] [(.int (7 : Int32)), (.ref b3)])) _
    refine XS.iloadN X17.here hx rfl (hb hby at_95) rfl ?_
    show Steps p.tables e below (T17.setTop (mkF m 96 #[.val (.int pp), .val (.int qq), .val (.int ln), .val (.int (pp &&& (3 : Int32))), .val (.int u1), .val (.int u2), .val (.ref b3), .unset, .unset, .unset, .unset, .unset] [(.int qq), (.int (7 : Int32)), (.ref b3)])) _
    refine XS.bipush X17.here hx rfl (hb hby at_96) ?_
    exact kt
  obtain ⟨_, _, ⟨T18, L18, k18, n18⟩, -, X18, ⟨Lc18, hQ18, l18, y18, z18⟩, st18⟩ := Jvm.LawKit.callS X17 hx (y := (⟨"com/example/ridgeline/ridgeline/table/RowStartPinLaw", "letter", "(II)C"⟩ : MethodName)) hown (mvT hZ (hw _ (List.mem_of_getElem? (i := 1) rfl))) (mvT hZ (hw _ (List.mem_of_getElem? (i := 2) rfl))) (mvT hZ (hw _ (List.mem_of_getElem? (i := 3) rfl))) (mvT hZ (hw _ (List.mem_of_getElem? (i := 4) rfl))) (by decide) (backOf (W := 2) (rm1 l Z aa hw [] qq (7 : Int32) h17 n0 O17) hZ (hw _ (List.mem_of_getElem? (i := 4) rfl)) (hw _ (List.mem_of_getElem? (i := 3) rfl)) (by decide) (by decide)) (g := (mkF m 98 #[.val (.int pp), .val (.int qq), .val (.int ln), .val (.int (pp &&& (3 : Int32))), .val (.int u1), .val (.int u2), .val (.ref b3), .unset, .unset, .unset, .unset, .unset] [(.int (7 : Int32)), (.int qq), (.int (7 : Int32)), (.ref b3)])) rfl (by rw [hml]; rfl) (argsL := [(.int qq), (.int (7 : Int32))]) (rest := [(.int (7 : Int32)), (.ref b3)]) (lenOf pd_oIIcC rfl) rfl (by show 2 * 0 + _ ≤ _; exact Nat.le_of_eq rfl) (hb hby at_98) (fun _ _ => ⟨rfl, e17, (by decide : 1 + 0 ≤ _), (by decide : 8 + 0 ≤ _)⟩)
  dsimp only [Pt.U, Pt.locs, Pt.cells, Pt.slots] at X18 l18 y18 z18 st18 hQ18
  subst l18 y18 z18
  obtain ⟨rfl, rfl, e18⟩ := hQ18
  try rw [List.append_nil] at X18
  refine Gl.up (B := T18.setTop (mkF m 101 #[.val (.int pp), .val (.int qq), .val (.int ln), .val (.int (pp &&& (3 : Int32))), .val (.int u1), .val (.int u2), .val (.ref b3), .unset, .unset, .unset, .unset, .unset] [(.int (f1 qq (7 : Int32))), (.int (7 : Int32)), (.ref b3)])) (fun t kt => st18 _ kt) ?_
  obtain ⟨ca19, Ar19, q19, S19, M19, H19, U19⟩ := id V_b3_17
  obtain ⟨T19, h19, X19, e19, W19, st19⟩ := stC X18 hx hZ e18 Ar19 (j := (7 : Int32)) (inb_of S19 ⟨by decide, by decide⟩) (g := (mkF m 101 #[.val (.int pp), .val (.int qq), .val (.int ln), .val (.int (pp &&& (3 : Int32))), .val (.int u1), .val (.int u2), .val (.ref b3), .unset, .unset, .unset, .unset, .unset] [(.int (f1 qq (7 : Int32))), (.int (7 : Int32)), (.ref b3)])) rfl rfl (hb hby at_101)
  have N19 := Fr.snoc X19 N17 g_b3
  have O19 := O17.wr W19 g_b3
  have V_b3_19 := Arv.set Ar19 q19 S19 M19 H19 U19 (fits_nar_char _) W19 7 rfl (by simp only [List.length_map, List.length_set, List.length_cons, List.length_nil]; omega)
  rw [own_mapset] at V_b3_19
  refine Gl.up (B := T19.setTop (mkF m 102 #[.val (.int pp), .val (.int qq), .val (.int ln), .val (.int (pp &&& (3 : Int32))), .val (.int u1), .val (.int u2), .val (.ref b3), .unset, .unset, .unset, .unset, .unset] [])) (fun t kt => st19 _ kt) ?_
  have HA : (pp &&& (3 : Int32)).toInt ≤ 3 ∧ 0 ≤ (pp &&& (3 : Int32)).toInt := (own_a pp).2
  have HB : u1.toInt ≤ 3 ∧ 0 ≤ u1.toInt := by rw [hu1]; exact (own_a _).2
  refine Gl.up (B := T19.setTop (mkF m 107 #[.val (.int pp), .val (.int qq), .val (.int ln), .val (.int (pp &&& (3 : Int32))), .val (.int u1), .val (.int u2), .val (.ref b3), .unset, .unset, .unset, .unset, .unset] [(.int (44 : Int32)), (.int (pp &&& (3 : Int32))), (.ref b3)])) (fun t kt => ?_) ?_
  · show Steps p.tables e below (T19.setTop (mkF m 102 #[.val (.int pp), .val (.int qq), .val (.int ln), .val (.int (pp &&& (3 : Int32))), .val (.int u1), .val (.int u2), .val (.ref b3), .unset, .unset, .unset, .unset, .unset] [])) _
    refine XS.aload X19.here hx rfl (hb hby at_102) rfl rfl ?_
    show Steps p.tables e below (T19.setTop (mkF m 104 #[.val (.int pp), .val (.int qq), .val (.int ln), .val (.int (pp &&& (3 : Int32))), .val (.int u1), .val (.int u2), .val (.ref b3), .unset, .unset, .unset, .unset, .unset] [(.ref b3)])) _
    refine XS.iloadN X19.here hx rfl (hb hby at_104) rfl ?_
    show Steps p.tables e below (T19.setTop (mkF m 105 #[.val (.int pp), .val (.int qq), .val (.int ln), .val (.int (pp &&& (3 : Int32))), .val (.int u1), .val (.int u2), .val (.ref b3), .unset, .unset, .unset, .unset, .unset] [(.int (pp &&& (3 : Int32))), (.ref b3)])) _
    refine XS.bipush X19.here hx rfl (hb hby at_105) ?_
    exact kt
  obtain ⟨ca20, Ar20, q20, S20, M20, H20, U20⟩ := id V_b3_19
  obtain ⟨T20, h20, X20, e20, W20, st20⟩ := stC X19 hx hZ e19 Ar20 (j := (pp &&& (3 : Int32))) (inb_of S20 (own_in8 (by omega))) (g := (mkF m 107 #[.val (.int pp), .val (.int qq), .val (.int ln), .val (.int (pp &&& (3 : Int32))), .val (.int u1), .val (.int u2), .val (.ref b3), .unset, .unset, .unset, .unset, .unset] [(.int (44 : Int32)), (.int (pp &&& (3 : Int32))), (.ref b3)])) rfl rfl (hb hby at_107)
  have N20 := Fr.snoc X20 N19 g_b3
  have O20 := O19.wr W20 g_b3
  have V_b3_20 := Arv.set Ar20 q20 S20 M20 H20 U20 (fits_nar_char _) W20 (pp &&& (3 : Int32)).toInt.toNat rfl (by simp only [List.length_map, List.length_set, List.length_cons, List.length_nil]; omega)
  rw [own_mapset] at V_b3_20
  refine Gl.up (B := T20.setTop (mkF m 108 #[.val (.int pp), .val (.int qq), .val (.int ln), .val (.int (pp &&& (3 : Int32))), .val (.int u1), .val (.int u2), .val (.ref b3), .unset, .unset, .unset, .unset, .unset] [])) (fun t kt => st20 _ kt) ?_
  refine Gl.up (B := T20.setTop (mkF m 118 #[.val (.int pp), .val (.int qq), .val (.int ln), .val (.int (pp &&& (3 : Int32))), .val (.int u1), .val (.int u2), .val (.ref b3), .unset, .unset, .unset, .unset, .unset] [(.int (44 : Int32)), (.int (((pp &&& (3 : Int32)) + (1 : Int32)) + u1)), (.ref b3)])) (fun t kt => ?_) ?_
  · show Steps p.tables e below (T20.setTop (mkF m 108 #[.val (.int pp), .val (.int qq), .val (.int ln), .val (.int (pp &&& (3 : Int32))), .val (.int u1), .val (.int u2), .val (.ref b3), .unset, .unset, .unset, .unset, .unset] [])) _
    refine XS.aload X20.here hx rfl (hb hby at_108) rfl rfl ?_
    show Steps p.tables e below (T20.setTop (mkF m 110 #[.val (.int pp), .val (.int qq), .val (.int ln), .val (.int (pp &&& (3 : Int32))), .val (.int u1), .val (.int u2), .val (.ref b3), .unset, .unset, .unset, .unset, .unset] [(.ref b3)])) _
    refine XS.iloadN X20.here hx rfl (hb hby at_110) rfl ?_
    show Steps p.tables e below (T20.setTop (mkF m 111 #[.val (.int pp), .val (.int qq), .val (.int ln), .val (.int (pp &&& (3 : Int32))), .val (.int u1), .val (.int u2), .val (.ref b3), .unset, .unset, .unset, .unset, .unset] [(.int (pp &&& (3 : Int32))), (.ref b3)])) _
    refine XS.iconst X20.here hx rfl (hb hby at_111) ?_
    show Steps p.tables e below (T20.setTop (mkF m 112 #[.val (.int pp), .val (.int qq), .val (.int ln), .val (.int (pp &&& (3 : Int32))), .val (.int u1), .val (.int u2), .val (.ref b3), .unset, .unset, .unset, .unset, .unset] [(.int (1 : Int32)), (.int (pp &&& (3 : Int32))), (.ref b3)])) _
    refine XS.iadd X20.here hx rfl (hb hby at_112) rfl ?_
    show Steps p.tables e below (T20.setTop (mkF m 113 #[.val (.int pp), .val (.int qq), .val (.int ln), .val (.int (pp &&& (3 : Int32))), .val (.int u1), .val (.int u2), .val (.ref b3), .unset, .unset, .unset, .unset, .unset] [(.int ((pp &&& (3 : Int32)) + (1 : Int32))), (.ref b3)])) _
    refine XS.iload X20.here hx rfl (hb hby at_113) rfl ?_
    show Steps p.tables e below (T20.setTop (mkF m 115 #[.val (.int pp), .val (.int qq), .val (.int ln), .val (.int (pp &&& (3 : Int32))), .val (.int u1), .val (.int u2), .val (.ref b3), .unset, .unset, .unset, .unset, .unset] [(.int u1), (.int ((pp &&& (3 : Int32)) + (1 : Int32))), (.ref b3)])) _
    refine XS.iadd X20.here hx rfl (hb hby at_115) rfl ?_
    show Steps p.tables e below (T20.setTop (mkF m 116 #[.val (.int pp), .val (.int qq), .val (.int ln), .val (.int (pp &&& (3 : Int32))), .val (.int u1), .val (.int u2), .val (.ref b3), .unset, .unset, .unset, .unset, .unset] [(.int (((pp &&& (3 : Int32)) + (1 : Int32)) + u1)), (.ref b3)])) _
    refine XS.bipush X20.here hx rfl (hb hby at_116) ?_
    exact kt
  obtain ⟨ca21, Ar21, q21, S21, M21, H21, U21⟩ := id V_b3_20
  obtain ⟨T21, h21, X21, e21, W21, st21⟩ := stC X20 hx hZ e20 Ar21 (j := (((pp &&& (3 : Int32)) + (1 : Int32)) + u1)) (inb_of S21 (own_in8 (by rw [own_ix HA HB]; omega))) (g := (mkF m 118 #[.val (.int pp), .val (.int qq), .val (.int ln), .val (.int (pp &&& (3 : Int32))), .val (.int u1), .val (.int u2), .val (.ref b3), .unset, .unset, .unset, .unset, .unset] [(.int (44 : Int32)), (.int (((pp &&& (3 : Int32)) + (1 : Int32)) + u1)), (.ref b3)])) rfl rfl (hb hby at_118)
  have N21 := Fr.snoc X21 N20 g_b3
  have O21 := O20.wr W21 g_b3
  have V_b3_21 := Arv.set Ar21 q21 S21 M21 H21 U21 (fits_nar_char _) W21 ((pp &&& (3 : Int32)).toInt + 1 + u1.toInt).toNat (congrArg Int.toNat (own_ix HA HB)) (by simp only [List.length_map, List.length_set, List.length_cons, List.length_nil]; omega)
  rw [own_mapset] at V_b3_21
  refine Gl.up (B := T21.setTop (mkF m 119 #[.val (.int pp), .val (.int qq), .val (.int ln), .val (.int (pp &&& (3 : Int32))), .val (.int u1), .val (.int u2), .val (.ref b3), .unset, .unset, .unset, .unset, .unset] [])) (fun t kt => st21 _ kt) ?_
  refine Gl.up (B := T21.setTop (mkF m 120 #[.val (.int pp), .val (.int qq), .val (.int ln), .val (.int (pp &&& (3 : Int32))), .val (.int u1), .val (.int u2), .val (.ref b3), .unset, .unset, .unset, .unset, .unset] [(.int (3 : Int32))])) (fun t kt => ?_) ?_
  · show Steps p.tables e below (T21.setTop (mkF m 119 #[.val (.int pp), .val (.int qq), .val (.int ln), .val (.int (pp &&& (3 : Int32))), .val (.int u1), .val (.int u2), .val (.ref b3), .unset, .unset, .unset, .unset, .unset] [])) _
    refine XS.iconst X21.here hx rfl (hb hby at_119) ?_
    exact kt
  obtain ⟨T22, h22, k22, X22, e22, E22, A22, st22⟩ := newP X21 hx hZ (hw _ (List.mem_of_getElem? (i := 5) rfl)) e21 (g := (mkF m 120 #[.val (.int pp), .val (.int qq), .val (.int ln), .val (.int (pp &&& (3 : Int32))), .val (.int u1), .val (.int u2), .val (.ref b3), .unset, .unset, .unset, .unset, .unset] [(.int (3 : Int32))])) rfl (hb hby at_120) rfl (by decide) (cap := 3) (by decide) (by decide) (by decide) (by decide)
  obtain ⟨b22, gq22⟩ : ∃ z, z = h21.size := ⟨_, rfl⟩
  have ne_b3_b22 : b3 ≠ b22 := Nat.ne_of_lt (Nat.lt_of_lt_of_le V_b3_21.lt (Nat.le_of_eq gq22.symm))
  have g_b22 : n0 ≤ b22 := Nat.le_trans (old_le O21) (Nat.le_of_eq gq22.symm)
  have O22 := O21.ext E22
  have V_b3_22 := V_b3_21.ext E22
  rw [← gq22] at A22 st22
  have V_b22_22 : Arv Z h22 b22 k22 .int (3 : Int32) (([0, 0, 0] : List Int32).map Value.int) (.int (0 : Int32)) := (Arv.new A22 (by decide)).pad (pad_rep [] (.int (0 : Int32)) 3)
  refine Gl.up (B := T22.setTop (mkF m 122 #[.val (.int pp), .val (.int qq), .val (.int ln), .val (.int (pp &&& (3 : Int32))), .val (.int u1), .val (.int u2), .val (.ref b3), .unset, .unset, .unset, .unset, .unset] [(.ref b22)])) (fun t kt => st22 _ kt) ?_
  refine Gl.up (B := T22.setTop (mkF m 128 #[.val (.int pp), .val (.int qq), .val (.int ln), .val (.int (pp &&& (3 : Int32))), .val (.int u1), .val (.int u2), .val (.ref b3), .val (.ref b22), .unset, .unset, .unset, .unset] [(.int (pp &&& (3 : Int32))), (.int (0 : Int32)), (.ref b22)])) (fun t kt => ?_) ?_
  · show Steps p.tables e below (T22.setTop (mkF m 122 #[.val (.int pp), .val (.int qq), .val (.int ln), .val (.int (pp &&& (3 : Int32))), .val (.int u1), .val (.int u2), .val (.ref b3), .unset, .unset, .unset, .unset, .unset] [(.ref b22)])) _
    refine XS.astore X22.here hx rfl (hb hby at_122) rfl rfl (l' := #[.val (.int pp), .val (.int qq), .val (.int ln), .val (.int (pp &&& (3 : Int32))), .val (.int u1), .val (.int u2), .val (.ref b3), .val (.ref b22), .unset, .unset, .unset, .unset]) rfl ?_
    show Steps p.tables e below (T22.setTop (mkF m 124 #[.val (.int pp), .val (.int qq), .val (.int ln), .val (.int (pp &&& (3 : Int32))), .val (.int u1), .val (.int u2), .val (.ref b3), .val (.ref b22), .unset, .unset, .unset, .unset] [])) _
    refine XS.aload X22.here hx rfl (hb hby at_124) rfl rfl ?_
    show Steps p.tables e below (T22.setTop (mkF m 126 #[.val (.int pp), .val (.int qq), .val (.int ln), .val (.int (pp &&& (3 : Int32))), .val (.int u1), .val (.int u2), .val (.ref b3), .val (.ref b22), .unset, .unset, .unset, .unset] [(.ref b22)])) _
    refine XS.iconst X22.here hx rfl (hb hby at_126) ?_
    show Steps p.tables e below (T22.setTop (mkF m 127 #[.val (.int pp), .val (.int qq), .val (.int ln), .val (.int (pp &&& (3 : Int32))), .val (.int u1), .val (.int u2), .val (.ref b3), .val (.ref b22), .unset, .unset, .unset, .unset] [(.int (0 : Int32)), (.ref b22)])) _
    refine XS.iloadN X22.here hx rfl (hb hby at_127) rfl ?_
    exact kt
  obtain ⟨ca23, Ar23, q23, S23, M23, H23, U23⟩ := id V_b22_22
  obtain ⟨T23, h23, X23, e23, W23, st23⟩ := stI X22 hx hZ e22 Ar23 (j := (0 : Int32)) (inb_of S23 ⟨by decide, by decide⟩) (g := (mkF m 128 #[.val (.int pp), .val (.int qq), .val (.int ln), .val (.int (pp &&& (3 : Int32))), .val (.int u1), .val (.int u2), .val (.ref b3), .val (.ref b22), .unset, .unset, .unset, .unset] [(.int (pp &&& (3 : Int32))), (.int (0 : Int32)), (.ref b22)])) rfl rfl (hb hby at_128)
  have N23 := Fr.snoc X23 N21 g_b22
  have O23 := O22.wr W23 g_b22
  have V_b3_23 := V_b3_22.other W23 ne_b3_b22
  have V_b22_23 := Arv.set Ar23 q23 S23 M23 H23 U23 rfl W23 0 rfl (by simp only [List.length_map, List.length_set, List.length_cons, List.length_nil]; omega)
  rw [own_mapset] at V_b22_23
  refine Gl.up (B := T23.setTop (mkF m 129 #[.val (.int pp), .val (.int qq), .val (.int ln), .val (.int (pp &&& (3 : Int32))), .val (.int u1), .val (.int u2), .val (.ref b3), .val (.ref b22), .unset, .unset, .unset, .unset] [])) (fun t kt => st23 _ kt) ?_
  refine Gl.up (B := T23.setTop (mkF m 138 #[.val (.int pp), .val (.int qq), .val (.int ln), .val (.int (pp &&& (3 : Int32))), .val (.int u1), .val (.int u2), .val (.ref b3), .val (.ref b22), .unset, .unset, .unset, .unset] [(.int (((pp &&& (3 : Int32)) + (1 : Int32)) + u1)), (.int (1 : Int32)), (.ref b22)])) (fun t kt => ?_) ?_
  · show Steps p.tables e below (T23.setTop (mkF m 129 #[.val (.int pp), .val (.int qq), .val (.int ln), .val (.int (pp &&& (3 : Int32))), .val (.int u1), .val (.int u2), .val (.ref b3), .val (.ref b22), .unset, .unset, .unset, .unset] [])) _
    refine XS.aload X23.here hx rfl (hb hby at_129) rfl rfl ?_
    show Steps p.tables e below (T23.setTop (mkF m 131 #[.val (.int pp), .val (.int qq), .val (.int ln), .val (.int (pp &&& (3 : Int32))), .val (.int u1), .val (.int u2), .val (.ref b3), .val (.ref b22), .unset, .unset, .unset, .unset] [(.ref b22)])) _
    refine XS.iconst X23.here hx rfl (hb hby at_131) ?_
    show Steps p.tables e below (T23.setTop (mkF m 132 #[.val (.int pp), .val (.int qq), .val (.int ln), .val (.int (pp &&& (3 : Int32))), .val (.int u1), .val (.int u2), .val (.ref b3), .val (.ref b22), .unset, .unset, .unset, .unset] [(.int (1 : Int32)), (.ref b22)])) _
    refine XS.iloadN X23.here hx rfl (hb hby at_132) rfl ?_
    show Steps p.tables e below (T23.setTop (mkF m 133 #[.val (.int pp), .val (.int qq), .val (.int ln), .val (.int (pp &&& (3 : Int32))), .val (.int u1), .val (.int u2), .val (.ref b3), .val (.ref b22), .unset, .unset, .unset, .unset] [(.int (pp &&& (3 : Int32))), (.int (1 : Int32)), (.ref b22)])) _
    refine XS.iconst X23.here hx rfl (hb hby at_133) ?_
    show Steps p.tables e below (T23.setTop (mkF m 134 #[.val (.int pp), .val (.int qq), .val (.int ln), .val (.int (pp &&& (3 : Int32))), .val (.int u1), .val (.int u2), .val (.ref b3), .val (.ref b22), .unset, .unset, .unset, .unset] [(.int (1 : Int32)), (.int (pp &&& (3 : Int32))), (.int (1 : Int32)), (.ref b22)])) _
    refine XS.iadd X23.here hx rfl (hb hby at_134) rfl ?_
    show Steps p.tables e below (T23.setTop (mkF m 135 #[.val (.int pp), .val (.int qq), .val (.int ln), .val (.int (pp &&& (3 : Int32))), .val (.int u1), .val (.int u2), .val (.ref b3), .val (.ref b22), .unset, .unset, .unset, .unset] [(.int ((pp &&& (3 : Int32)) + (1 : Int32))), (.int (1 : Int32)), (.ref b22)])) _
    refine XS.iload X23.here hx rfl (hb hby at_135) rfl ?_
    show Steps p.tables e below (T23.setTop (mkF m 137 #[.val (.int pp), .val (.int qq), .val (.int ln), .val (.int (pp &&& (3 : Int32))), .val (.int u1), .val (.int u2), .val (.ref b3), .val (.ref b22), .unset, .unset, .unset, .unset] [(.int u1), (.int ((pp &&& (3 : Int32)) + (1 : Int32))), (.int (1 : Int32)), (.ref b22)])) _
    refine XS.iadd X23.here hx rfl (hb hby at_137) rfl ?_
    exact kt
  obtain ⟨ca24, Ar24, q24, S24, M24, H24, U24⟩ := id V_b22_23
  obtain ⟨T24, h24, X24, e24, W24, st24⟩ := stI X23 hx hZ e23 Ar24 (j := (1 : Int32)) (inb_of S24 ⟨by decide, by decide⟩) (g := (mkF m 138 #[.val (.int pp), .val (.int qq), .val (.int ln), .val (.int (pp &&& (3 : Int32))), .val (.int u1), .val (.int u2), .val (.ref b3), .val (.ref b22), .unset, .unset, .unset, .unset] [(.int (((pp &&& (3 : Int32)) + (1 : Int32)) + u1)), (.int (1 : Int32)), (.ref b22)])) rfl rfl (hb hby at_138)
  have N24 := Fr.snoc X24 N23 g_b22
  have O24 := O23.wr W24 g_b22
  have V_b3_24 := V_b3_23.other W24 ne_b3_b22
  have V_b22_24 := Arv.set Ar24 q24 S24 M24 H24 U24 rfl W24 1 rfl (by simp only [List.length_map, List.length_set, List.length_cons, List.length_nil]; omega)
  rw [own_mapset] at V_b22_24
  refine Gl.up (B := T24.setTop (mkF m 139 #[.val (.int pp), .val (.int qq), .val (.int ln), .val (.int (pp &&& (3 : Int32))), .val (.int u1), .val (.int u2), .val (.ref b3), .val (.ref b22), .unset, .unset, .unset, .unset] [])) (fun t kt => st24 _ kt) ?_
  refine Gl.up (B := T24.setTop (mkF m 153 #[.val (.int pp), .val (.int qq), .val (.int ln), .val (.int (pp &&& (3 : Int32))), .val (.int u1), .val (.int u2), .val (.ref b3), .val (.ref b22), .unset, .unset, .unset, .unset] [(.int (((((pp &&& (3 : Int32)) + (1 : Int32)) + u1) + (1 : Int32)) + u2)), (.int (2 : Int32)), (.ref b22)])) (fun t kt => ?_) ?_
  · show Steps p.tables e below (T24.setTop (mkF m 139 #[.val (.int pp), .val (.int qq), .val (.int ln), .val (.int (pp &&& (3 : Int32))), .val (.int u1), .val (.int u2), .val (.ref b3), .val (.ref b22), .unset, .unset, .unset, .unset] [])) _
    refine XS.aload X24.here hx rfl (hb hby at_139) rfl rfl ?_
    show Steps p.tables e below (T24.setTop (mkF m 141 #[.val (.int pp), .val (.int qq), .val (.int ln), .val (.int (pp &&& (3 : Int32))), .val (.int u1), .val (.int u2), .val (.ref b3), .val (.ref b22), .unset, .unset, .unset, .unset] [(.ref b22)])) _
    refine XS.iconst X24.here hx rfl (hb hby at_141) ?_
    show Steps p.tables e below (T24.setTop (mkF m 142 #[.val (.int pp), .val (.int qq), .val (.int ln), .val (.int (pp &&& (3 : Int32))), .val (.int u1), .val (.int u2), .val (.ref b3), .val (.ref b22), .unset, .unset, .unset, .unset] [(.int (2 : Int32)), (.ref b22)])) _
    refine XS.iloadN X24.here hx rfl (hb hby at_142) rfl ?_
    show Steps p.tables e below (T24.setTop (mkF m 143 #[.val (.int pp), .val (.int qq), .val (.int ln), .val (.int (pp &&& (3 : Int32))), .val (.int u1), .val (.int u2), .val (.ref b3), .val (.ref b22), .unset, .unset, .unset, .unset] [(.int (pp &&& (3 : Int32))), (.int (2 : Int32)), (.ref b22)])) _
    refine XS.iconst X24.here hx rfl (hb hby at_143) ?_
    show Steps p.tables e below (T24.setTop (mkF m 144 #[.val (.int pp), .val (.int qq), .val (.int ln), .val (.int (pp &&& (3 : Int32))), .val (.int u1), .val (.int u2), .val (.ref b3), .val (.ref b22), .unset, .unset, .unset, .unset] [(.int (1 : Int32)), (.int (pp &&& (3 : Int32))), (.int (2 : Int32)), (.ref b22)])) _
    refine XS.iadd X24.here hx rfl (hb hby at_144) rfl ?_
    show Steps p.tables e below (T24.setTop (mkF m 145 #[.val (.int pp), .val (.int qq), .val (.int ln), .val (.int (pp &&& (3 : Int32))), .val (.int u1), .val (.int u2), .val (.ref b3), .val (.ref b22), .unset, .unset, .unset, .unset] [(.int ((pp &&& (3 : Int32)) + (1 : Int32))), (.int (2 : Int32)), (.ref b22)])) _
    refine XS.iload X24.here hx rfl (hb hby at_145) rfl ?_
    show Steps p.tables e below (T24.setTop (mkF m 147 #[.val (.int pp), .val (.int qq), .val (.int ln), .val (.int (pp &&& (3 : Int32))), .val (.int u1), .val (.int u2), .val (.ref b3), .val (.ref b22), .unset, .unset, .unset, .unset] [(.int u1), (.int ((pp &&& (3 : Int32)) + (1 : Int32))), (.int (2 : Int32)), (.ref b22)])) _
    refine XS.iadd X24.here hx rfl (hb hby at_147) rfl ?_
    show Steps p.tables e below (T24.setTop (mkF m 148 #[.val (.int pp), .val (.int qq), .val (.int ln), .val (.int (pp &&& (3 : Int32))), .val (.int u1), .val (.int u2), .val (.ref b3), .val (.ref b22), .unset, .unset, .unset, .unset] [(.int (((pp &&& (3 : Int32)) + (1 : Int32)) + u1)), (.int (2 : Int32)), (.ref b22)])) _
    refine XS.iconst X24.here hx rfl (hb hby at_148) ?_
    show Steps p.tables e below (T24.setTop (mkF m 149 #[.val (.int pp), .val (.int qq), .val (.int ln), .val (.int (pp &&& (3 : Int32))), .val (.int u1), .val (.int u2), .val (.ref b3), .val (.ref b22), .unset, .unset, .unset, .unset] [(.int (1 : Int32)), (.int (((pp &&& (3 : Int32)) + (1 : Int32)) + u1)), (.int (2 : Int32)), (.ref b22)])) _
    refine XS.iadd X24.here hx rfl (hb hby at_149) rfl ?_
    show Steps p.tables e below (T24.setTop (mkF m 150 #[.val (.int pp), .val (.int qq), .val (.int ln), .val (.int (pp &&& (3 : Int32))), .val (.int u1), .val (.int u2), .val (.ref b3), .val (.ref b22), .unset, .unset, .unset, .unset] [(.int ((((pp &&& (3 : Int32)) + (1 : Int32)) + u1) + (1 : Int32))), (.int (2 : Int32)), (.ref b22)])) _
    refine XS.iload X24.here hx rfl (hb hby at_150) rfl ?_
    show Steps p.tables e below (T24.setTop (mkF m 152 #[.val (.int pp), .val (.int qq), .val (.int ln), .val (.int (pp &&& (3 : Int32))), .val (.int u1), .val (.int u2), .val (.ref b3), .val (.ref b22), .unset, .unset, .unset, .unset] [(.int u2), (.int ((((pp &&& (3 : Int32)) + (1 : Int32)) + u1) + (1 : Int32))), (.int (2 : Int32)), (.ref b22)])) _
    refine XS.iadd X24.here hx rfl (hb hby at_152) rfl ?_
    exact kt
  obtain ⟨ca25, Ar25, q25, S25, M25, H25, U25⟩ := id V_b22_24
  obtain ⟨T25, h25, X25, e25, W25, st25⟩ := stI X24 hx hZ e24 Ar25 (j := (2 : Int32)) (inb_of S25 ⟨by decide, by decide⟩) (g := (mkF m 153 #[.val (.int pp), .val (.int qq), .val (.int ln), .val (.int (pp &&& (3 : Int32))), .val (.int u1), .val (.int u2), .val (.ref b3), .val (.ref b22), .unset, .unset, .unset, .unset] [(.int (((((pp &&& (3 : Int32)) + (1 : Int32)) + u1) + (1 : Int32)) + u2)), (.int (2 : Int32)), (.ref b22)])) rfl rfl (hb hby at_153)
  have N25 := Fr.snoc X25 N24 g_b22
  have O25 := O24.wr W25 g_b22
  have V_b3_25 := V_b3_24.other W25 ne_b3_b22
  have V_b22_25 := Arv.set Ar25 q25 S25 M25 H25 U25 rfl W25 2 rfl (by simp only [List.length_map, List.length_set, List.length_cons, List.length_nil]; omega)
  rw [own_mapset] at V_b22_25
  refine Gl.up (B := T25.setTop (mkF m 154 #[.val (.int pp), .val (.int qq), .val (.int ln), .val (.int (pp &&& (3 : Int32))), .val (.int u1), .val (.int u2), .val (.ref b3), .val (.ref b22), .unset, .unset, .unset, .unset] [])) (fun t kt => st25 _ kt) ?_
  obtain ⟨T26, h26, X26, e26, E26, A26, D26, -, st26⟩ := newO X25 hx hZ hown (hw _ (List.mem_of_getElem? (i := 6) rfl)) (hw _ (List.mem_of_getElem? (i := 7) rfl)) (hw _ (List.mem_of_getElem? (i := 8) rfl)) e25 (g := (mkF m 154 #[.val (.int pp), .val (.int qq), .val (.int ln), .val (.int (pp &&& (3 : Int32))), .val (.int u1), .val (.int u2), .val (.ref b3), .val (.ref b22), .unset, .unset, .unset, .unset] [])) rfl (hb hby at_154) (by decide) (by decide)
  obtain ⟨b26, gq26⟩ : ∃ z, z = h25.size := ⟨_, rfl⟩
  rw [← gq26] at A26 D26 st26
  have ne_b3_b26 : b3 ≠ b26 := Nat.ne_of_lt (Nat.lt_of_lt_of_le V_b3_25.lt (Nat.le_of_eq gq26.symm))
  have ne_b22_b26 : b22 ≠ b26 := Nat.ne_of_lt (Nat.lt_of_lt_of_le V_b22_25.lt (Nat.le_of_eq gq26.symm))
  have g_b26 : n0 ≤ b26 := Nat.le_trans (old_le O25) (Nat.le_of_eq gq26.symm)
  have O26 := O25.ext E26
  have V_b3_26 := V_b3_25.ext E26
  have V_b22_26 := V_b22_25.ext E26
  have F_b26_text_26 : Fld Z h26 b26 "com/example/ridgeline/ridgeline/table/Row" "text" "Ljava/lang/String;" .null := D26 (Or.inr (hw _ (List.mem_of_getElem? (i := 43) rfl))) (ty := (.object "java/lang/String")) (by decide)
  have F_b26_line_26 : Fld Z h26 b26 "com/example/ridgeline/ridgeline/table/Row" "line" "I" (.int (0 : Int32)) := D26 (Or.inr (hw _ (List.mem_of_getElem? (i := 45) rfl))) (ty := .int) (by decide)
  have F_b26_fieldEnds_26 : Fld Z h26 b26 "com/example/ridgeline/ridgeline/table/Row" "fieldEnds" "[I" .null := D26 (Or.inr (hw _ (List.mem_of_getElem? (i := 47) rfl))) (ty := (.array .int)) (by decide)
  refine Gl.up (B := T26.setTop (mkF m 157 #[.val (.int pp), .val (.int qq), .val (.int ln), .val (.int (pp &&& (3 : Int32))), .val (.int u1), .val (.int u2), .val (.ref b3), .val (.ref b22), .unset, .unset, .unset, .unset] [(.ref b26)])) (fun t kt => st26 _ kt) ?_
  refine Gl.up (B := T26.setTop (mkF m 158 #[.val (.int pp), .val (.int qq), .val (.int ln), .val (.int (pp &&& (3 : Int32))), .val (.int u1), .val (.int u2), .val (.ref b3), .val (.ref b22), .unset, .unset, .unset, .unset] [(.ref b26), (.ref b26)])) (fun t kt => ?_) ?_
  · show Steps p.tables e below (T26.setTop (mkF m 157 #[.val (.int pp), .val (.int qq), .val (.int ln), .val (.int (pp &&& (3 : Int32))), .val (.int u1), .val (.int u2), .val (.ref b3), .val (.ref b22), .unset, .unset, .unset, .unset] [(.ref b26)])) _
    refine XS.dup X26.here hx rfl (hb hby at_157) rfl rfl ?_
    exact kt
  obtain ⟨T27, h27, X27, e27, E27, A27, D27, -, st27⟩ := newO X26 hx hZ hown (hw _ (List.mem_of_getElem? (i := 9) rfl)) (hw _ (List.mem_of_getElem? (i := 10) rfl)) (hw _ (List.mem_of_getElem? (i := 11) rfl)) e26 (g := (mkF m 158 #[.val (.int pp), .val (.int qq), .val (.int ln), .val (.int (pp &&& (3 : Int32))), .val (.int u1), .val (.int u2), .val (.ref b3), .val (.ref b22), .unset, .unset, .unset, .unset] [(.ref b26), (.ref b26)])) rfl (hb hby at_158) (by decide) (by decide)
  obtain ⟨b27, gq27⟩ : ∃ z, z = h26.size := ⟨_, rfl⟩
  rw [← gq27] at A27 D27 st27
  have ne_b3_b27 : b3 ≠ b27 := Nat.ne_of_lt (Nat.lt_of_lt_of_le V_b3_26.lt (Nat.le_of_eq gq27.symm))
  have ne_b22_b27 : b22 ≠ b27 := Nat.ne_of_lt (Nat.lt_of_lt_of_le V_b22_26.lt (Nat.le_of_eq gq27.symm))
  have ne_b26_b27 : b26 ≠ b27 := Nat.ne_of_lt (Nat.lt_of_lt_of_le A26.lt (Nat.le_of_eq gq27.symm))
  have g_b27 : n0 ≤ b27 := Nat.le_trans (old_le O26) (Nat.le_of_eq gq27.symm)
  have O27 := O26.ext E27
  have V_b3_27 := V_b3_26.ext E27
  have V_b22_27 := V_b22_26.ext E27
  have E_b26_27 := A26.ext E27
  have F_b26_text_27 := F_b26_text_26.ext E27
  have F_b26_line_27 := F_b26_line_26.ext E27
  have F_b26_fieldEnds_27 := F_b26_fieldEnds_26.ext E27
  have F_b27_coder_27 : Fld Z h27 b27 "java/lang/String" "coder" "B" (.int (0 : Int32)) := D27 (Or.inr (hw _ (List.mem_of_getElem? (i := 35) rfl))) (ty := .byte) (by decide)
  have F_b27_value_27 : Fld Z h27 b27 "java/lang/String" "value" "[B" .null := D27 (Or.inr (hw _ (List.mem_of_getElem? (i := 37) rfl))) (ty := (.array .byte)) (by decide)
  refine Gl.up (B := T27.setTop (mkF m 161 #[.val (.int pp), .val (.int qq), .val (.int ln), .val (.int (pp &&& (3 : Int32))), .val (.int u1), .val (.int u2), .val (.ref b3), .val (.ref b22), .unset, .unset, .unset, .unset] [(.ref b27), (.ref b26), (.ref b26)])) (fun t kt => st27 _ kt) ?_
  refine Gl.up (B := T27.setTop (mkF m 164 #[.val (.int pp), .val (.int qq), .val (.int ln), .val (.int (pp &&& (3 : Int32))), .val (.int u1), .val (.int u2), .val (.ref b3), .val (.ref b22), .unset, .unset, .unset, .unset] [(.ref b3), (.ref b27), (.ref b27), (.ref b26), (.ref b26)])) (fun t kt => ?_) ?_
  · show Steps p.tables e below (T27.setTop (mkF m 161 #[.val (.int pp), .val (.int qq), .val (.int ln), .val (.int (pp &&& (3 : Int32))), .val (.int u1), .val (.int u2), .val (.ref b3), .val (.ref b22), .unset, .unset, .unset, .unset] [(.ref b27), (.ref b26), (.ref b26)])) _
    refine XS.dup X27.here hx rfl (hb hby at_161) rfl rfl ?_
    show Steps p.tables e below (T27.setTop (mkF m 162 #[.val (.int pp), .val (.int qq), .val (.int ln), .val (.int (pp &&& (3 : Int32))), .val (.int u1), .val (.int u2), .val (.ref b3), .val (.ref b22), .unset, .unset, .unset, .unset] [(.ref b27), (.ref b27), (.ref b26), (.ref b26)])) _
    refine XS.aload X27.here hx rfl (hb hby at_162) rfl rfl ?_
    exact kt
  have hws : ∀ d ∈ StrChars.Road.words, d.before aa Z = true := fun d hd => hw d ((by decide +kernel : ∀ d ∈ StrChars.Road.words, d ∈ tables_1) d hd)
  obtain ⟨cs28, hcs28⟩ : ∃ q : List Int32, q = ((((((((((([0, 0, 0, 0, 0, 0, 0, 0] : List Int32).set 0 (nar .char (f1 qq (0 : Int32)))).set 1 (nar .char (f1 qq (1 : Int32)))).set 2 (nar .char (f1 qq (2 : Int32)))).set 3 (nar .char (f1 qq (3 : Int32)))).set 4 (nar .char (f1 qq (4 : Int32)))).set 5 (nar .char (f1 qq (5 : Int32)))).set 6 (nar .char (f1 qq (6 : Int32)))).set 7 (nar .char (f1 qq (7 : Int32)))).set (pp &&& (3 : Int32)).toInt.toNat (nar .char (44 : Int32))).set ((pp &&& (3 : Int32)).toInt + 1 + u1.toInt).toNat (nar .char (44 : Int32))) := ⟨_, rfl⟩
  rw [← hcs28] at V_b3_27
  have hlen28 : cs28.length = 8 := by rw [hcs28]; simp
  have hlat28 : ∀ c ∈ cs28, ¬ c < 0 ∧ ¬ (255 : Int32) < c := by rw [hcs28]; exact (own_lat (own_lat (own_lat (own_lat (own_lat (own_lat (own_lat (own_lat (own_lat (own_lat (fun c hc => by simp at hc; subst hc; decide) (own_letter _ _)) (own_letter _ _)) (own_letter _ _)) (own_letter _ _)) (own_letter _ _)) (own_letter _ _)) (own_letter _ _)) (own_letter _ _)) (by decide)) (by decide))
  obtain ⟨_, _, ⟨T28, L28, k28, n28⟩, -, X28, ⟨Lc28, hQ28, l28, y28, z28⟩, st28⟩ := X27.specialBack hx (y := (⟨"java/lang/String", "<init>", "([C)V"⟩ : MethodName)) rfl hown (mvT hZ (hw _ (List.mem_of_getElem? (i := 12) rfl))) (mvT hZ (hw _ (List.mem_of_getElem? (i := 13) rfl))) (mvT hZ (hw _ (List.mem_of_getElem? (i := 14) rfl))) (by decide) (StrChars.Road.backV (W := 3) hZ hws (kI := 4) (hw _ (List.mem_of_getElem? (i := 10) rfl)) (cs := cs28) (bs := cs28.map (fun c => c.toInt8.toInt32)) (n := 8) g_b27 (old_le O27) A27 F_b27_value_27 F_b27_coder_27 V_b3_27 (S_zc.ext O27.2) P3 hlen28 rfl (by decide) (by decide) hlat28 rfl (by decide) (by decide)) (g := (mkF m 164 #[.val (.int pp), .val (.int qq), .val (.int ln), .val (.int (pp &&& (3 : Int32))), .val (.int u1), .val (.int u2), .val (.ref b3), .val (.ref b22), .unset, .unset, .unset, .unset] [(.ref b3), (.ref b27), (.ref b27), (.ref b26), (.ref b26)])) rfl (by rw [hml]; rfl) (Steps.refl _) (a := b27) (argsL := [(.ref b3)]) (rest := [(.ref b27), (.ref b26), (.ref b26)]) (lenOf pd_oaCcV rfl) rfl (by show 2 * 0 + _ ≤ _; exact Nat.le_of_eq rfl) (hb hby at_164) (fun _ _ => ⟨rfl, e27, (by decide : 4 + 1 ≤ _), (by decide : 18 + 8 ≤ _)⟩)
  dsimp only [Pt.U, Pt.locs, Pt.cells, Pt.slots] at X28 l28 y28 z28 st28 hQ28
  subst l28 y28 z28
  obtain ⟨rfl, M28, K28, Es28, Cs28, ts28, ks28, gt28, -, -, Vs28, As28⟩ := hQ28
  have N28 := Fr.app N25 M28
  have O28 := O27.keep K28 (allS g_b27 all0)
  have V_b3_28 := V_b3_27.keep K28 (ninS ne_b3_b27 nin0)
  have V_b22_28 := V_b22_27.keep K28 (ninS ne_b22_b27 nin0)
  have E_b26_28 := E_b26_27.keep K28
  have F_b26_text_28 := F_b26_text_27.keep K28 (ninS ne_b26_b27 nin0)
  have F_b26_line_28 := F_b26_line_27.keep K28 (ninS ne_b26_b27 nin0)
  have F_b26_fieldEnds_28 := F_b26_fieldEnds_27.keep K28 (ninS ne_b26_b27 nin0)
  have E_b27_28 := A27.keep K28
  refine Gl.up (B := T28.setTop (mkF m 167 #[.val (.int pp), .val (.int qq), .val (.int ln), .val (.int (pp &&& (3 : Int32))), .val (.int u1), .val (.int u2), .val (.ref b3), .val (.ref b22), .unset, .unset, .unset, .unset] [(.ref b27), (.ref b26), (.ref b26)])) (fun t kt => st28.trans kt) ?_
  refine Gl.up (B := T28.setTop (mkF m 170 #[.val (.int pp), .val (.int qq), .val (.int ln), .val (.int (pp &&& (3 : Int32))), .val (.int u1), .val (.int u2), .val (.ref b3), .val (.ref b22), .unset, .unset, .unset, .unset] [(.ref b22), (.int ln), (.ref b27), (.ref b26), (.ref b26)])) (fun t kt => ?_) ?_
  · show Steps p.tables e below (T28.setTop (mkF m 167 #[.val (.int pp), .val (.int qq), .val (.int ln), .val (.int (pp &&& (3 : Int32))), .val (.int u1), .val (.int u2), .val (.ref b3), .val (.ref b22), .unset, .unset, .unset, .unset] [(.ref b27), (.ref b26), (.ref b26)])) _
    refine XS.iloadN X28.here hx rfl (hb hby at_167) rfl ?_
    show Steps p.tables e below (T28.setTop (mkF m 168 #[.val (.int pp), .val (.int qq), .val (.int ln), .val (.int (pp &&& (3 : Int32))), .val (.int u1), .val (.int u2), .val (.ref b3), .val (.ref b22), .unset, .unset, .unset, .unset] [(.int ln), (.ref b27), (.ref b26), (.ref b26)])) _
    refine XS.aload X28.here hx rfl (hb hby at_168) rfl rfl ?_
    exact kt
  obtain ⟨_, _, ⟨T29, L29, k29, n29⟩, -, X29, ⟨Lc29, hQ29, l29, y29, z29⟩, st29⟩ := X28.specialBack hx (y := (⟨"com/example/ridgeline/ridgeline/table/Row", "<init>", "(Ljava/lang/String;I[I)V"⟩ : MethodName)) rfl hown (mvT hZ (hw _ (List.mem_of_getElem? (i := 38) rfl))) (mvT hZ (hw _ (List.mem_of_getElem? (i := 39) rfl))) (mvT hZ (hw _ (List.mem_of_getElem? (i := 40) rfl))) (by decide) (backOf (W := 1) (rm3 l Z aa hw [] b26 b27 ln b22 (0 : Int32) T28.heap n0 O28 E_b26_28 F_b26_text_28 F_b26_line_28 F_b26_fieldEnds_28 g_b26) hZ (hw _ (List.mem_of_getElem? (i := 40) rfl)) (hw _ (List.mem_of_getElem? (i := 8) rfl)) (by decide) (by decide)) (g := (mkF m 170 #[.val (.int pp), .val (.int qq), .val (.int ln), .val (.int (pp &&& (3 : Int32))), .val (.int u1), .val (.int u2), .val (.ref b3), .val (.ref b22), .unset, .unset, .unset, .unset] [(.ref b22), (.int ln), (.ref b27), (.ref b26), (.ref b26)])) rfl (by rw [hml]; rfl) (Steps.refl _) (a := b26) (argsL := [(.ref b27), (.int ln), (.ref b22)]) (rest := [(.ref b26)]) (lenOf pd_oLjava_lang_StringIaIcV rfl) rfl (by show 2 * 0 + _ ≤ _; exact Nat.le_of_eq rfl) (hb hby at_170) (fun _ _ => ⟨rfl, rfl, (by decide : 5 + 0 ≤ _), (by decide : 26 + 0 ≤ _)⟩)
  dsimp only [Pt.U, Pt.locs, Pt.cells, Pt.slots] at X29 l29 y29 z29 st29 hQ29
  subst l29 y29 z29
  obtain ⟨rfl, M29, K29, F_b26_fieldEnds_29⟩ := hQ29
  have N29 := Fr.app N28 M29
  have O29 := O28.keep K29 (allS g_b26 all0)
  have V_b3_29 := V_b3_28.keep K29 (ninS ne_b3_b26 nin0)
  have V_b22_29 := V_b22_28.keep K29 (ninS ne_b22_b26 nin0)
  have E_b26_29 := E_b26_28.keep K29
  have E_b27_29 := E_b27_28.keep K29
  refine Gl.up (B := T29.setTop (mkF m 173 #[.val (.int pp), .val (.int qq), .val (.int ln), .val (.int (pp &&& (3 : Int32))), .val (.int u1), .val (.int u2), .val (.ref b3), .val (.ref b22), .unset, .unset, .unset, .unset] [(.ref b26)])) (fun t kt => st29.trans kt) ?_
  refine Gl.up (B := T29.setTop (mkF m 178 #[.val (.int pp), .val (.int qq), .val (.int ln), .val (.int (pp &&& (3 : Int32))), .val (.int u1), .val (.int u2), .val (.ref b3), .val (.ref b22), .val (.ref b26), .unset, .unset, .unset] [(.int (0 : Int32)), (.ref b26)])) (fun t kt => ?_) ?_
  · show Steps p.tables e below (T29.setTop (mkF m 173 #[.val (.int pp), .val (.int qq), .val (.int ln), .val (.int (pp &&& (3 : Int32))), .val (.int u1), .val (.int u2), .val (.ref b3), .val (.ref b22), .unset, .unset, .unset, .unset] [(.ref b26)])) _
    refine XS.astore X29.here hx rfl (hb hby at_173) rfl rfl (l' := #[.val (.int pp), .val (.int qq), .val (.int ln), .val (.int (pp &&& (3 : Int32))), .val (.int u1), .val (.int u2), .val (.ref b3), .val (.ref b22), .val (.ref b26), .unset, .unset, .unset]) rfl ?_
    show Steps p.tables e below (T29.setTop (mkF m 175 #[.val (.int pp), .val (.int qq), .val (.int ln), .val (.int (pp &&& (3 : Int32))), .val (.int u1), .val (.int u2), .val (.ref b3), .val (.ref b22), .val (.ref b26), .unset, .unset, .unset] [])) _
    refine XS.aload X29.here hx rfl (hb hby at_175) rfl rfl ?_
    show Steps p.tables e below (T29.setTop (mkF m 177 #[.val (.int pp), .val (.int qq), .val (.int ln), .val (.int (pp &&& (3 : Int32))), .val (.int u1), .val (.int u2), .val (.ref b3), .val (.ref b22), .val (.ref b26), .unset, .unset, .unset] [(.ref b26)])) _
    refine XS.iconst X29.here hx rfl (hb hby at_177) ?_
    exact kt
  obtain ⟨cl0, Ar0, -, S0, -, H0, -⟩ := id V_b22_29
  obtain ⟨cq30, kq30, q30a, q30b, q30c⟩ := isOf hZ rfl E_b26_29
  obtain ⟨_, _, ⟨T30, L30, k30, n30⟩, -, X30, ⟨Lc30, hQ30, l30, y30, z30⟩, st30⟩ := X29.virtualBack hx (y := (⟨"com/example/ridgeline/ridgeline/table/Row", "start", "(I)I"⟩ : MethodName)) (z := (⟨"com/example/ridgeline/ridgeline/table/Row", "start", "(I)I"⟩ : MethodName)) hown (mvT hZ (hw _ (List.mem_of_getElem? (i := 48) rfl))) (mvT hZ (hw _ (List.mem_of_getElem? (i := 49) rfl))) (notFace_of_selects (args := #[]) (mvT hZ (hw _ (List.mem_of_getElem? (i := 51) rfl)))) (mvT hZ (hw _ (List.mem_of_getElem? (i := 51) rfl))) (mvT hZ (hw _ (List.mem_of_getElem? (i := 50) rfl))) (by decide) (backOf (W := 0) (rm2 l Z aa hw [] b26 (0 : Int32) b22 cl0 (0 : Int32) T29.heap n0 O29 E_b26_29 F_b26_fieldEnds_29 Ar0 (fun h => absurd rfl h) (fun h => absurd rfl h)) hZ (hw _ (List.mem_of_getElem? (i := 52) rfl)) (hw _ (List.mem_of_getElem? (i := 8) rfl)) (by decide) (by decide)) q30a q30c (g := (mkF m 178 #[.val (.int pp), .val (.int qq), .val (.int ln), .val (.int (pp &&& (3 : Int32))), .val (.int u1), .val (.int u2), .val (.ref b3), .val (.ref b22), .val (.ref b26), .unset, .unset, .unset] [(.int (0 : Int32)), (.ref b26)])) rfl (by rw [hml]; rfl) (Steps.refl _) (argsL := [(.int (0 : Int32))]) (rest := []) (lenOf pd_oIcI rfl) rfl (by show 2 * 0 + _ ≤ _; exact Nat.le_of_eq rfl) (hb hby at_178) (fun _ _ => ⟨rfl, rfl, (by decide : 5 + 0 ≤ _), (by decide : 26 + 0 ≤ _)⟩)
  dsimp only [Pt.U, Pt.locs, Pt.cells, Pt.slots] at X30 l30 y30 z30 st30 hQ30
  subst l30 y30 z30
  obtain ⟨rfl, rfl, e30⟩ := hQ30
  try rw [List.append_nil] at X30
  refine Gl.up (B := T30.setTop (mkF m 181 #[.val (.int pp), .val (.int qq), .val (.int ln), .val (.int (pp &&& (3 : Int32))), .val (.int u1), .val (.int u2), .val (.ref b3), .val (.ref b22), .val (.ref b26), .unset, .unset, .unset] [(.int (f2 (0 : Int32) (0 : Int32)))])) (fun t kt => st30.trans kt) ?_
  obtain ⟨u31, hu31⟩ : ∃ q : Int32, q = (f2 (0 : Int32) (0 : Int32)) := ⟨_, rfl⟩
  rw [← hu31]
  refine Gl.up (B := T30.setTop (mkF m 186 #[.val (.int pp), .val (.int qq), .val (.int ln), .val (.int (pp &&& (3 : Int32))), .val (.int u1), .val (.int u2), .val (.ref b3), .val (.ref b22), .val (.ref b26), .val (.int u31), .unset, .unset] [(.int (1 : Int32)), (.ref b26)])) (fun t kt => ?_) ?_
  · show Steps p.tables e below (T30.setTop (mkF m 181 #[.val (.int pp), .val (.int qq), .val (.int ln), .val (.int (pp &&& (3 : Int32))), .val (.int u1), .val (.int u2), .val (.ref b3), .val (.ref b22), .val (.ref b26), .unset, .unset, .unset] [(.int u31)])) _
    refine XS.istore X30.here hx rfl (hb hby at_181) rfl (l' := #[.val (.int pp), .val (.int qq), .val (.int ln), .val (.int (pp &&& (3 : Int32))), .val (.int u1), .val (.int u2), .val (.ref b3), .val (.ref b22), .val (.ref b26), .val (.int u31), .unset, .unset]) rfl ?_
    show Steps p.tables e below (T30.setTop (mkF m 183 #[.val (.int pp), .val (.int qq), .val (.int ln), .val (.int (pp &&& (3 : Int32))), .val (.int u1), .val (.int u2), .val (.ref b3), .val (.ref b22), .val (.ref b26), .val (.int u31), .unset, .unset] [])) _
    refine XS.aload X30.here hx rfl (hb hby at_183) rfl rfl ?_
    show Steps p.tables e below (T30.setTop (mkF m 185 #[.val (.int pp), .val (.int qq), .val (.int ln), .val (.int (pp &&& (3 : Int32))), .val (.int u1), .val (.int u2), .val (.ref b3), .val (.ref b22), .val (.ref b26), .val (.int u31), .unset, .unset] [(.ref b26)])) _
    refine XS.iconst X30.here hx rfl (hb hby at_185) ?_
    exact kt
  obtain ⟨cl1, Ar1, -, S1, -, H1, -⟩ := id V_b22_29
  obtain ⟨cq32, kq32, q32a, q32b, q32c⟩ := isOf hZ e30 E_b26_29
  obtain ⟨_, _, ⟨T32, L32, k32, n32⟩, -, X32, ⟨Lc32, hQ32, l32, y32, z32⟩, st32⟩ := X30.virtualBack hx (y := (⟨"com/example/ridgeline/ridgeline/table/Row", "start", "(I)I"⟩ : MethodName)) (z := (⟨"com/example/ridgeline/ridgeline/table/Row", "start", "(I)I"⟩ : MethodName)) hown (mvT hZ (hw _ (List.mem_of_getElem? (i := 48) rfl))) (mvT hZ (hw _ (List.mem_of_getElem? (i := 49) rfl))) (notFace_of_selects (args := #[]) (mvT hZ (hw _ (List.mem_of_getElem? (i := 51) rfl)))) (mvT hZ (hw _ (List.mem_of_getElem? (i := 51) rfl))) (mvT hZ (hw _ (List.mem_of_getElem? (i := 50) rfl))) (by decide) (backOf (W := 0) (rm2 l Z aa hw [] b26 (1 : Int32) b22 cl1 (pp &&& (3 : Int32)) T29.heap n0 O29 E_b26_29 F_b26_fieldEnds_29 Ar1 (fun _ => inb_of S1 ⟨by decide, by decide⟩) (fun _ => H1 0 (by rw [S1]; decide))) hZ (hw _ (List.mem_of_getElem? (i := 52) rfl)) (hw _ (List.mem_of_getElem? (i := 8) rfl)) (by decide) (by decide)) q32a q32c (g := (mkF m 186 #[.val (.int pp), .val (.int qq), .val (.int ln), .val (.int (pp &&& (3 : Int32))), .val (.int u1), .val (.int u2), .val (.ref b3), .val (.ref b22), .val (.ref b26), .val (.int u31), .unset, .unset] [(.int (1 : Int32)), (.ref b26)])) rfl (by rw [hml]; rfl) (Steps.refl _) (argsL := [(.int (1 : Int32))]) (rest := []) (lenOf pd_oIcI rfl) rfl (by show 2 * 0 + _ ≤ _; exact Nat.le_of_eq rfl) (hb hby at_186) (fun _ _ => ⟨rfl, e30, (by decide : 5 + 0 ≤ _), (by decide : 26 + 0 ≤ _)⟩)
  dsimp only [Pt.U, Pt.locs, Pt.cells, Pt.slots] at X32 l32 y32 z32 st32 hQ32
  subst l32 y32 z32
  obtain ⟨rfl, rfl, e32⟩ := hQ32
  try rw [List.append_nil] at X32
  refine Gl.up (B := T32.setTop (mkF m 189 #[.val (.int pp), .val (.int qq), .val (.int ln), .val (.int (pp &&& (3 : Int32))), .val (.int u1), .val (.int u2), .val (.ref b3), .val (.ref b22), .val (.ref b26), .val (.int u31), .unset, .unset] [(.int (f2 (1 : Int32) (pp &&& (3 : Int32))))])) (fun t kt => st32.trans kt) ?_
  obtain ⟨u33, hu33⟩ : ∃ q : Int32, q = (f2 (1 : Int32) (pp &&& (3 : Int32))) := ⟨_, rfl⟩
  rw [← hu33]
  refine Gl.up (B := T32.setTop (mkF m 194 #[.val (.int pp), .val (.int qq), .val (.int ln), .val (.int (pp &&& (3 : Int32))), .val (.int u1), .val (.int u2), .val (.ref b3), .val (.ref b22), .val (.ref b26), .val (.int u31), .val (.int u33), .unset] [(.int (2 : Int32)), (.ref b26)])) (fun t kt => ?_) ?_
  · show Steps p.tables e below (T32.setTop (mkF m 189 #[.val (.int pp), .val (.int qq), .val (.int ln), .val (.int (pp &&& (3 : Int32))), .val (.int u1), .val (.int u2), .val (.ref b3), .val (.ref b22), .val (.ref b26), .val (.int u31), .unset, .unset] [(.int u33)])) _
    refine XS.istore X32.here hx rfl (hb hby at_189) rfl (l' := #[.val (.int pp), .val (.int qq), .val (.int ln), .val (.int (pp &&& (3 : Int32))), .val (.int u1), .val (.int u2), .val (.ref b3), .val (.ref b22), .val (.ref b26), .val (.int u31), .val (.int u33), .unset]) rfl ?_
    show Steps p.tables e below (T32.setTop (mkF m 191 #[.val (.int pp), .val (.int qq), .val (.int ln), .val (.int (pp &&& (3 : Int32))), .val (.int u1), .val (.int u2), .val (.ref b3), .val (.ref b22), .val (.ref b26), .val (.int u31), .val (.int u33), .unset] [])) _
    refine XS.aload X32.here hx rfl (hb hby at_191) rfl rfl ?_
    show Steps p.tables e below (T32.setTop (mkF m 193 #[.val (.int pp), .val (.int qq), .val (.int ln), .val (.int (pp &&& (3 : Int32))), .val (.int u1), .val (.int u2), .val (.ref b3), .val (.ref b22), .val (.ref b26), .val (.int u31), .val (.int u33), .unset] [(.ref b26)])) _
    refine XS.iconst X32.here hx rfl (hb hby at_193) ?_
    exact kt
  obtain ⟨cl2, Ar2, -, S2, -, H2, -⟩ := id V_b22_29
  obtain ⟨cq34, kq34, q34a, q34b, q34c⟩ := isOf hZ e32 E_b26_29
  obtain ⟨_, _, ⟨T34, L34, k34, n34⟩, -, X34, ⟨Lc34, hQ34, l34, y34, z34⟩, st34⟩ := X32.virtualBack hx (y := (⟨"com/example/ridgeline/ridgeline/table/Row", "start", "(I)I"⟩ : MethodName)) (z := (⟨"com/example/ridgeline/ridgeline/table/Row", "start", "(I)I"⟩ : MethodName)) hown (mvT hZ (hw _ (List.mem_of_getElem? (i := 48) rfl))) (mvT hZ (hw _ (List.mem_of_getElem? (i := 49) rfl))) (notFace_of_selects (args := #[]) (mvT hZ (hw _ (List.mem_of_getElem? (i := 51) rfl)))) (mvT hZ (hw _ (List.mem_of_getElem? (i := 51) rfl))) (mvT hZ (hw _ (List.mem_of_getElem? (i := 50) rfl))) (by decide) (backOf (W := 0) (rm2 l Z aa hw [] b26 (2 : Int32) b22 cl2 ((pp &&& (3 : Int32)) + (1 : Int32) + u1) T29.heap n0 O29 E_b26_29 F_b26_fieldEnds_29 Ar2 (fun _ => inb_of S2 ⟨by decide, by decide⟩) (fun _ => H2 1 (by rw [S2]; decide))) hZ (hw _ (List.mem_of_getElem? (i := 52) rfl)) (hw _ (List.mem_of_getElem? (i := 8) rfl)) (by decide) (by decide)) q34a q34c (g := (mkF m 194 #[.val (.int pp), .val (.int qq), .val (.int ln), .val (.int (pp &&& (3 : Int32))), .val (.int u1), .val (.int u2), .val (.ref b3), .val (.ref b22), .val (.ref b26), .val (.int u31), .val (.int u33), .unset] [(.int (2 : Int32)), (.ref b26)])) rfl (by rw [hml]; rfl) (Steps.refl _) (argsL := [(.int (2 : Int32))]) (rest := []) (lenOf pd_oIcI rfl) rfl (by show 2 * 0 + _ ≤ _; exact Nat.le_of_eq rfl) (hb hby at_194) (fun _ _ => ⟨rfl, e32, (by decide : 5 + 0 ≤ _), (by decide : 26 + 0 ≤ _)⟩)
  dsimp only [Pt.U, Pt.locs, Pt.cells, Pt.slots] at X34 l34 y34 z34 st34 hQ34
  subst l34 y34 z34
  obtain ⟨rfl, rfl, e34⟩ := hQ34
  try rw [List.append_nil] at X34
  refine Gl.up (B := T34.setTop (mkF m 197 #[.val (.int pp), .val (.int qq), .val (.int ln), .val (.int (pp &&& (3 : Int32))), .val (.int u1), .val (.int u2), .val (.ref b3), .val (.ref b22), .val (.ref b26), .val (.int u31), .val (.int u33), .unset] [(.int (f2 (2 : Int32) ((pp &&& (3 : Int32)) + (1 : Int32) + u1)))])) (fun t kt => st34.trans kt) ?_
  obtain ⟨u35, hu35⟩ : ∃ q : Int32, q = (f2 (2 : Int32) ((pp &&& (3 : Int32)) + (1 : Int32) + u1)) := ⟨_, rfl⟩
  rw [← hu35]
  refine Gl.up (B := T34.setTop (mkF m 228 #[.val (.int pp), .val (.int qq), .val (.int ln), .val (.int (pp &&& (3 : Int32))), .val (.int u1), .val (.int u2), .val (.ref b3), .val (.ref b22), .val (.ref b26), .val (.int u31), .val (.int u33), .val (.int u35)] [(.int (1 : Int32))])) (fun t kt => ?_) ?_
  · show Steps p.tables e below (T34.setTop (mkF m 197 #[.val (.int pp), .val (.int qq), .val (.int ln), .val (.int (pp &&& (3 : Int32))), .val (.int u1), .val (.int u2), .val (.ref b3), .val (.ref b22), .val (.ref b26), .val (.int u31), .val (.int u33), .unset] [(.int u35)])) _
    refine XS.istore X34.here hx rfl (hb hby at_197) rfl (l' := #[.val (.int pp), .val (.int qq), .val (.int ln), .val (.int (pp &&& (3 : Int32))), .val (.int u1), .val (.int u2), .val (.ref b3), .val (.ref b22), .val (.ref b26), .val (.int u31), .val (.int u33), .val (.int u35)]) rfl ?_
    show Steps p.tables e below (T34.setTop (mkF m 199 #[.val (.int pp), .val (.int qq), .val (.int ln), .val (.int (pp &&& (3 : Int32))), .val (.int u1), .val (.int u2), .val (.ref b3), .val (.ref b22), .val (.ref b26), .val (.int u31), .val (.int u33), .val (.int u35)] [])) _
    refine XS.iload X34.here hx rfl (hb hby at_199) rfl ?_
    show Steps p.tables e below (T34.setTop (mkF m 201 #[.val (.int pp), .val (.int qq), .val (.int ln), .val (.int (pp &&& (3 : Int32))), .val (.int u1), .val (.int u2), .val (.ref b3), .val (.ref b22), .val (.ref b26), .val (.int u31), .val (.int u33), .val (.int u35)] [(.int u31)])) _
    refine XS.ifNo X34.here hx rfl (hb hby at_201) rfl ((if0 _ _).trans (teq (by rw [hu31]; exact rfl)).2) ?_
    show Steps p.tables e below (T34.setTop (mkF m 204 #[.val (.int pp), .val (.int qq), .val (.int ln), .val (.int (pp &&& (3 : Int32))), .val (.int u1), .val (.int u2), .val (.ref b3), .val (.ref b22), .val (.ref b26), .val (.int u31), .val (.int u33), .val (.int u35)] [])) _
    refine XS.iload X34.here hx rfl (hb hby at_204) rfl ?_
    show Steps p.tables e below (T34.setTop (mkF m 206 #[.val (.int pp), .val (.int qq), .val (.int ln), .val (.int (pp &&& (3 : Int32))), .val (.int u1), .val (.int u2), .val (.ref b3), .val (.ref b22), .val (.ref b26), .val (.int u31), .val (.int u33), .val (.int u35)] [(.int u33)])) _
    refine XS.iloadN X34.here hx rfl (hb hby at_206) rfl ?_
    show Steps p.tables e below (T34.setTop (mkF m 207 #[.val (.int pp), .val (.int qq), .val (.int ln), .val (.int (pp &&& (3 : Int32))), .val (.int u1), .val (.int u2), .val (.ref b3), .val (.ref b22), .val (.ref b26), .val (.int u31), .val (.int u33), .val (.int u35)] [(.int (pp &&& (3 : Int32))), (.int u33)])) _
    refine XS.iconst X34.here hx rfl (hb hby at_207) ?_
    show Steps p.tables e below (T34.setTop (mkF m 208 #[.val (.int pp), .val (.int qq), .val (.int ln), .val (.int (pp &&& (3 : Int32))), .val (.int u1), .val (.int u2), .val (.ref b3), .val (.ref b22), .val (.ref b26), .val (.int u31), .val (.int u33), .val (.int u35)] [(.int (1 : Int32)), (.int (pp &&& (3 : Int32))), (.int u33)])) _
    refine XS.iadd X34.here hx rfl (hb hby at_208) rfl ?_
    show Steps p.tables e below (T34.setTop (mkF m 209 #[.val (.int pp), .val (.int qq), .val (.int ln), .val (.int (pp &&& (3 : Int32))), .val (.int u1), .val (.int u2), .val (.ref b3), .val (.ref b22), .val (.ref b26), .val (.int u31), .val (.int u33), .val (.int u35)] [(.int ((pp &&& (3 : Int32)) + (1 : Int32))), (.int u33)])) _
    refine XS.icmpNo X34.here hx rfl (hb hby at_209) rfl (teq (by rw [hu33]; exact rfl)).2 ?_
    show Steps p.tables e below (T34.setTop (mkF m 212 #[.val (.int pp), .val (.int qq), .val (.int ln), .val (.int (pp &&& (3 : Int32))), .val (.int u1), .val (.int u2), .val (.ref b3), .val (.ref b22), .val (.ref b26), .val (.int u31), .val (.int u33), .val (.int u35)] [])) _
    refine XS.iload X34.here hx rfl (hb hby at_212) rfl ?_
    show Steps p.tables e below (T34.setTop (mkF m 214 #[.val (.int pp), .val (.int qq), .val (.int ln), .val (.int (pp &&& (3 : Int32))), .val (.int u1), .val (.int u2), .val (.ref b3), .val (.ref b22), .val (.ref b26), .val (.int u31), .val (.int u33), .val (.int u35)] [(.int u35)])) _
    refine XS.iloadN X34.here hx rfl (hb hby at_214) rfl ?_
    show Steps p.tables e below (T34.setTop (mkF m 215 #[.val (.int pp), .val (.int qq), .val (.int ln), .val (.int (pp &&& (3 : Int32))), .val (.int u1), .val (.int u2), .val (.ref b3), .val (.ref b22), .val (.ref b26), .val (.int u31), .val (.int u33), .val (.int u35)] [(.int (pp &&& (3 : Int32))), (.int u35)])) _
    refine XS.iload X34.here hx rfl (hb hby at_215) rfl ?_
    show Steps p.tables e below (T34.setTop (mkF m 217 #[.val (.int pp), .val (.int qq), .val (.int ln), .val (.int (pp &&& (3 : Int32))), .val (.int u1), .val (.int u2), .val (.ref b3), .val (.ref b22), .val (.ref b26), .val (.int u31), .val (.int u33), .val (.int u35)] [(.int u1), (.int (pp &&& (3 : Int32))), (.int u35)])) _
    refine XS.iadd X34.here hx rfl (hb hby at_217) rfl ?_
    show Steps p.tables e below (T34.setTop (mkF m 218 #[.val (.int pp), .val (.int qq), .val (.int ln), .val (.int (pp &&& (3 : Int32))), .val (.int u1), .val (.int u2), .val (.ref b3), .val (.ref b22), .val (.ref b26), .val (.int u31), .val (.int u33), .val (.int u35)] [(.int ((pp &&& (3 : Int32)) + u1)), (.int u35)])) _
    refine XS.iconst X34.here hx rfl (hb hby at_218) ?_
    show Steps p.tables e below (T34.setTop (mkF m 219 #[.val (.int pp), .val (.int qq), .val (.int ln), .val (.int (pp &&& (3 : Int32))), .val (.int u1), .val (.int u2), .val (.ref b3), .val (.ref b22), .val (.ref b26), .val (.int u31), .val (.int u33), .val (.int u35)] [(.int (2 : Int32)), (.int ((pp &&& (3 : Int32)) + u1)), (.int u35)])) _
    refine XS.iadd X34.here hx rfl (hb hby at_219) rfl ?_
    show Steps p.tables e below (T34.setTop (mkF m 220 #[.val (.int pp), .val (.int qq), .val (.int ln), .val (.int (pp &&& (3 : Int32))), .val (.int u1), .val (.int u2), .val (.ref b3), .val (.ref b22), .val (.ref b26), .val (.int u31), .val (.int u33), .val (.int u35)] [(.int (((pp &&& (3 : Int32)) + u1) + (2 : Int32))), (.int u35)])) _
    refine XS.icmpNo X34.here hx rfl (hb hby at_220) rfl (teq (by rw [hu35]; exact own_last _ _)).2 ?_
    show Steps p.tables e below (T34.setTop (mkF m 223 #[.val (.int pp), .val (.int qq), .val (.int ln), .val (.int (pp &&& (3 : Int32))), .val (.int u1), .val (.int u2), .val (.ref b3), .val (.ref b22), .val (.ref b26), .val (.int u31), .val (.int u33), .val (.int u35)] [])) _
    refine XS.iconst X34.here hx rfl (hb hby at_223) ?_
    show Steps p.tables e below (T34.setTop (mkF m 224 #[.val (.int pp), .val (.int qq), .val (.int ln), .val (.int (pp &&& (3 : Int32))), .val (.int u1), .val (.int u2), .val (.ref b3), .val (.ref b22), .val (.ref b26), .val (.int u31), .val (.int u33), .val (.int u35)] [(.int (1 : Int32))])) _
    refine XS.goto X34.here hx rfl (pc0 := 224) (pc' := 228) rfl (hb hby at_224) (by decide) (by decide) ?_
    exact kt
  refine Gl.retN X34 hx hlk (t := .boolean) Bd.returns (by simp) (hb hby at_228) (w := (1 : Int32)) rfl ?_ (by decide) (by decide)
  exact ⟨rfl, N29⟩
set_option maxRecDepth 65536 in
set_option maxHeartbeats 40000000 in
theorem comes_1 {Post : Tables → Env → Array Value → State → Outcome → State → Prop} (hpost : ∀ tb e args s v u, (limb_1_1.after args s (.returned v) u = true ∧ limb_1_2.after args s (.returned v) u = true) → FrameEnd s (.returned v) u (Jvm.fieldLocs frame_1_writes args s ++ Jvm.arrayLocs frame_1_arrays args s ++ Jvm.staticLocs frame_1_statics s) 24 128 → Post tb e args s (.returned v) u) :
    ArmFor flags0 classFile x code maxLocals ret World_1 tables_1 room_1 Calls_1 rest_1 Pre_1 Post := by
  intro l hfl _ _ p e ha hc hk s m args below hf hA hF happ hP
  obtain ⟨hcalls, hrest, hpre⟩ := hP
  obtain ⟨-, -, -, hnamed, -, -, -, hat⟩ := (Spec.applies_iff hf).mp happ
  obtain ⟨hg, hn⟩ := and_e (Cond.before_iff.mp (show (Jvm.Cond.and given_1 narrow_1).before args s = true from hpre))
  obtain ⟨hcnt, hg0⟩ := and_e hg
  obtain ⟨ha0, hg1⟩ := and_e hg0
  obtain ⟨ha1, hg2⟩ := and_e hg1
  obtain ⟨w0, w1, w2, rfl⟩ : ∃ w0 w1 w2 : Value, args = #[w0, w1, w2] := by
    have hs : args.size = 3 := by simpa [Cond.value, given_1] using hcnt
    obtain ⟨L⟩ := args
    match L, hs with
    | [w0, w1, w2], _ => exact ⟨w0, w1, w2, rfl⟩
  have hw := fun d (hd : d ∈ tables_1) => atoms_spec (ws := Jvm.Cond.code x code maxLocals ret :: tables_1) hat d (List.mem_cons_of_mem _ hd)
  obtain ⟨i0, ei0⟩ := is_v ha0
  obtain rfl : w0 = (.int i0) := Option.some.inj ei0
  obtain ⟨i1, ei1⟩ := is_v ha1
  obtain rfl : w1 = (.int i1) := Option.some.inj ei1
  obtain ⟨i2, ei2⟩ := is_v hg2
  obtain rfl : w2 = (.int i2) := Option.some.inj ei2
  obtain ⟨hsets, hown0⟩ := atoms_of _ (rest_1_c_eq ▸ (show rest_1_c.before _ s = true from hrest))
  have nzc := not_v (Cond.before_iff.mp (hsets _ (List.mem_of_getElem? (i := 2) rfl)))
  obtain ⟨zc, ezc⟩ := is_v (Cond.before_iff.mp (hsets _ (List.mem_of_getElem? (i := 1) rfl)))
  have S_zc : Sta s s.heap "java/lang/String" "COMPACT_STRINGS" "Z" (.int zc) := Sta.start ezc (Or.inl (hsets _ (List.mem_of_getElem? (i := 0) rfl)))
  have P3 : ¬ (zc = (0 : Int32)) := gotF (Cond.eq_ints ezc (Term.int_eval (0))) nzc
  obtain ⟨n, o, h1, h2, h3, _, L, rfl, ⟨rfl, N⟩, hq⟩ := rm0 l s _ hw tables_1 i0 i1 i2 zc s.heap s.heap.size (Old.start s) S_zc P3 p e ha hc hk s m _ below hf ((Spec.applies_iff_loose hf).mp happ).1 ⟨rfl, State.Warmed39.refl s, rfl⟩ trivial
  exact ⟨n, _, h1, h2, h3, hpost _ _ _ _ _ _ ⟨Cond.after_iff.mpr rfl, Cond.after_iff.mpr (eq_i res_at (Term.int_eval (1)) rfl)⟩ ⟨hq.1, hq.2.1, (hq.2.2.sift fun y hy => Or.inr (N y hy)).mono (by decide) (by decide)⟩⟩
theorem main_1_1 : Claimed_1_1 := comes_1 fun _ _ _ _ _ _ h hF => ⟨h.1, hF⟩
theorem main_1_2 : Claimed_1_2 := comes_1 fun _ _ _ _ _ _ h hF => ⟨h.2, hF⟩
end Jvm.Pilot.@@N@@
namespace Jvm.Pilot.@@N@@
open Jvm Jvm.ClassFile Sem Op Lib Jvm.Free Jvm.Stand Jvm.Pilot.@@N@@.Jvm.D
/-! MADE BY PROGRAM (witnessworld.py) out of the Statement's table words and the real class files: 20 classes; the members and pool entries that the words name. The judged class is class 1, her method 2. -/
namespace start1
open Jvm.ClassFile
def u (s : String) : CpInfo := .utf8 (stringToUtf16 s)
/-- a pool by its gaps: so many unusable entries, then the entry; so many at the end -/
def gap : Nat → List CpInfo → List CpInfo
  | 0, r => r
  | n + 1, r => .unusable :: gap n r
def poolList (es : List (Nat × CpInfo)) (last : Nat) : List CpInfo := es.foldr (fun e r => gap e.1 (e.2 :: r)) (gap last [])
def pool (es : List (Nat × CpInfo)) (last : Nat) : Array CpInfo := ⟨poolList es last⟩
def fileOf (pool : Array CpInfo) (this : Nat) (attrs : Array Attribute := #[]) (ms : Array MethodInfo := #[]) (fl : Nat := 33) (sup : Nat := 0) (ifs : Array Nat := #[]) (fds : Array FieldInfo := #[]) : ClassFile where
  minorVersion := 0
  majorVersion := 65
  constantPool := pool
  accessFlags := fl
  thisClass := this
  superClass := sup
  interfaces := ifs
  fields := fds
  methods := ms
  attributes := attrs
def plain (name : String) (sup : Option ClassId) : Class where
  name := name
  kind := .ordinary
  loader := none
  accessFlags := 33
  super := sup
  interfaces := #[]
  cf := none
  fields := #[]
  methods := #[]
  instanceTypes := #[]
  staticTypes := #[]
  resolved := #[]
  callSites := []
  init := .initialized
  statics := none
  mirror := none

def pool0 : Array CpInfo := pool [(5, u "<init>"), (0, u "()V"), (1, .class_ 10), (1, u "java/lang/Object")] 113

def k0c0 : Code := { maxStack := 0, maxLocals := 1, code := object_method_1_code, exceptionTable := #[], attributes := #[] }
def k0m0 : Method := { name := "<init>", desc := "()V", sig := { parameters := [], returnType := none }, accessFlags := 1, code := some k0c0 }
/-- java/lang/Object -/
def k0 : Class := { plain "java/lang/Object" none with
  accessFlags := 33
  interfaces := #[]
  cf := some (fileOf pool0 8 #[] #[{ accessFlags := 1, nameIndex := 5, descriptorIndex := 6, attributes := #[] }] 33 0 #[] #[])
  fields := #[]
  methods := #[k0m0]
  instanceTypes := #[]
  staticTypes := #[]
  resolved := Array.replicate 124 none
  statics := none }

def pool1 : Array CpInfo := pool [(2, .class_ 4), (1, u "java/lang/Object"), (0, u "<init>"), (0, u "()V"), (0, .methodref 8 9), (0, .class_ 10), (0, .nameAndType 11 12), (0, u "com/example/ridgeline/ridgeline/table/RowStartPinLaw"), (0, u "letter"), (0, u "(II)C"), (0, .class_ 14), (0, u "com/example/ridgeline/ridgeline/table/Row"), (0, .class_ 16), (0, u "java/lang/String"), (0, .methodref 15 18), (0, .nameAndType 5 19), (0, u "([C)V"), (0, .methodref 13 21), (0, .nameAndType 5 22), (0, u "(Ljava/lang/String;I[I)V"), (0, .methodref 13 24), (0, .nameAndType 25 26), (0, u "start"), (0, u "(I)I"), (2, u "law"), (0, u "(III)Z")] 7

def k1m0 : Method := { name := "<init>", desc := "()V", sig := { parameters := [], returnType := none }, accessFlags := 1, code := none }
def k1c1 : Code := { maxStack := 4, maxLocals := 2, code := method_2_code, exceptionTable := #[], attributes := #[] }
def k1m1 : Method := { name := "letter", desc := "(II)C", sig := { parameters := [.int, .int], returnType := some .char }, accessFlags := 10, code := some k1c1 }
def k1c2 : Code := { maxStack := 5, maxLocals := 12, code := code, exceptionTable := #[], attributes := #[] }
def k1m2 : Method := { name := "law", desc := "(III)Z", sig := { parameters := [.int, .int, .int], returnType := some .boolean }, accessFlags := 9, code := some k1c2 }
/-- com/example/ridgeline/ridgeline/table/RowStartPinLaw -/
def k1 : Class := { plain "com/example/ridgeline/ridgeline/table/RowStartPinLaw" (some 0) with
  accessFlags := 49
  interfaces := #[]
  cf := some (fileOf pool1 8 #[] #[{ accessFlags := 1, nameIndex := 5, descriptorIndex := 6, attributes := #[] }, { accessFlags := 10, nameIndex := 11, descriptorIndex := 12, attributes := #[] }, { accessFlags := 9, nameIndex := 29, descriptorIndex := 30, attributes := #[] }] 49 2 #[] #[])
  fields := #[]
  methods := #[k1m0, k1m1, k1m2]
  instanceTypes := #[]
  staticTypes := #[]
  resolved := Array.replicate 38 none
  statics := none }

def pool2 : Array CpInfo := pool [(1, .methodref 2 3), (0, .class_ 4), (0, .nameAndType 5 6), (0, u "java/lang/Object"), (0, u "<init>"), (0, u "()V"), (0, .fieldref 8 9), (0, .class_ 10), (0, .nameAndType 11 12), (0, u "com/example/ridgeline/ridgeline/table/Row"), (0, u "text"), (0, u "Ljava/lang/String;"), (0, .fieldref 8 14), (0, .nameAndType 15 16), (0, u "line"), (0, u "I"), (0, .fieldref 8 18), (0, .nameAndType 19 20), (0, u "fieldEnds"), (0, u "[I"), (2, u "start"), (0, u "(I)I"), (25, u "(Ljava/lang/String;I[I)V")] 10

def k2c0 : Code := { maxStack := 2, maxLocals := 4, code := prog_53_method_1_code, exceptionTable := #[], attributes := #[] }
def k2m0 : Method := { name := "<init>", desc := "(Ljava/lang/String;I[I)V", sig := { parameters := [(.object "java/lang/String"), .int, (.array .int)], returnType := none }, accessFlags := 0, code := some k2c0 }
def k2c1 : Code := { maxStack := 3, maxLocals := 2, code := prog_53_method_6_code, exceptionTable := #[], attributes := #[] }
def k2m1 : Method := { name := "start", desc := "(I)I", sig := { parameters := [.int], returnType := some .int }, accessFlags := 0, code := some k2c1 }
/-- com/example/ridgeline/ridgeline/table/Row -/
def k2 : Class := { plain "com/example/ridgeline/ridgeline/table/Row" (some 0) with
  accessFlags := 49
  interfaces := #[]
  cf := some (fileOf pool2 8 #[] #[{ accessFlags := 0, nameIndex := 5, descriptorIndex := 50, attributes := #[] }, { accessFlags := 0, nameIndex := 23, descriptorIndex := 24, attributes := #[] }] 49 2 #[] #[{ accessFlags := 18, nameIndex := 11, descriptorIndex := 12, attributes := #[] }, { accessFlags := 18, nameIndex := 15, descriptorIndex := 16, attributes := #[] }, { accessFlags := 18, nameIndex := 19, descriptorIndex := 20, attributes := #[] }])
  fields := #[{ name := "text", type := (.object "java/lang/String"), accessFlags := 18, slot := 0, constantValue := 0 }, { name := "line", type := .int, accessFlags := 18, slot := 1, constantValue := 0 }, { name := "fieldEnds", type := (.array .int), accessFlags := 18, slot := 2, constantValue := 0 }]
  methods := #[k2m0, k2m1]
  instanceTypes := #[(.object "java/lang/String"), .int, (.array .int)]
  staticTypes := #[]
  resolved := Array.replicate 61 none
  statics := none }

def pool3 : Array CpInfo := pool [(1, .class_ 2), (0, u "java/io/Serializable"), (0, .class_ 4), (0, u "java/lang/Object")] 2

/-- java/io/Serializable -/
def k3 : Class := { plain "java/io/Serializable" (some 0) with
  accessFlags := 1537
  interfaces := #[]
  cf := some (fileOf pool3 1 #[] #[] 1537 3 #[] #[])
  fields := #[]
  methods := #[]
  instanceTypes := #[]
  staticTypes := #[]
  resolved := Array.replicate 7 none
  statics := none }

def pool4 : Array CpInfo := pool [(1, .class_ 2), (0, u "java/lang/Comparable"), (0, .class_ 4), (0, u "java/lang/Object")] 7

/-- java/lang/Comparable -/
def k4 : Class := { plain "java/lang/Comparable" (some 0) with
  accessFlags := 1537
  interfaces := #[]
  cf := some (fileOf pool4 1 #[] #[] 1537 3 #[] #[])
  fields := #[]
  methods := #[]
  instanceTypes := #[]
  staticTypes := #[]
  resolved := Array.replicate 12 none
  statics := none }

def pool5 : Array CpInfo := pool [(2, .class_ 4), (1, u "java/lang/CharSequence"), (42, .class_ 48), (0, u "java/lang/CharSequence$1CodePointIterator"), (10, .class_ 60), (0, u "java/lang/CharSequence$1CharIterator"), (5, .class_ 67), (0, u "java/lang/Object")] 63

/-- java/lang/CharSequence -/
def k5 : Class := { plain "java/lang/CharSequence" (some 0) with
  accessFlags := 1537
  interfaces := #[]
  cf := some (fileOf pool5 2 #[.nestMembers #[47, 59]] #[] 1537 66 #[] #[])
  fields := #[]
  methods := #[]
  instanceTypes := #[]
  staticTypes := #[]
  resolved := Array.replicate 131 none
  statics := none }

def pool6 : Array CpInfo := pool [(1, .class_ 2), (0, u "java/lang/constant/Constable"), (0, .class_ 4), (0, u "java/lang/Object")] 6

/-- java/lang/constant/Constable -/
def k6 : Class := { plain "java/lang/constant/Constable" (some 0) with
  accessFlags := 1537
  interfaces := #[]
  cf := some (fileOf pool6 1 #[] #[] 1537 3 #[] #[])
  fields := #[]
  methods := #[]
  instanceTypes := #[]
  staticTypes := #[]
  resolved := Array.replicate 11 none
  statics := none }

def pool7 : Array CpInfo := pool [(1, .class_ 2), (0, u "java/lang/constant/ConstantDesc"), (0, .class_ 4), (0, u "java/lang/Object")] 32

/-- java/lang/constant/ConstantDesc -/
def k7 : Class := { plain "java/lang/constant/ConstantDesc" (some 0) with
  accessFlags := 1537
  interfaces := #[]
  cf := some (fileOf pool7 1 #[] #[] 1537 3 #[] #[])
  fields := #[]
  methods := #[]
  instanceTypes := #[]
  staticTypes := #[]
  resolved := Array.replicate 37 none
  statics := none }

def pool8 : Array CpInfo := pool [(1, .methodref 2 3), (0, .class_ 4), (0, .nameAndType 5 6), (0, u "java/lang/Object"), (0, u "<init>"), (0, u "()V"), (2, .fieldref 10 11), (0, .class_ 12), (0, .nameAndType 13 14), (0, u "java/lang/String"), (0, u "value"), (0, u "[B"), (0, .fieldref 10 16), (0, .nameAndType 17 18), (0, u "coder"), (0, u "B"), (2, u "hash"), (0, u "I"), (2, u "hashIsZero"), (0, u "Z"), (0, .methodref 10 28), (0, .nameAndType 5 29), (0, u "([CIILjava/lang/Void;)V"), (8, .fieldref 10 39), (0, .nameAndType 40 26), (0, u "COMPACT_STRINGS"), (1, .class_ 44), (1, u "java/lang/StringUTF16"), (0, u "compress"), (1, .methodref 42 48), (0, .nameAndType 49 50), (0, u "coderFromArrayLen"), (0, u "([BI)B"), (126, .methodref 42 178), (0, .nameAndType 45 179), (0, u "([CII)[B"), (395, .class_ 576), (0, u "java/lang/CharSequence"), (22, u "CASE_INSENSITIVE_ORDER"), (0, u "Ljava/util/Comparator;"), (409, u "([C)V"), (90, u "serialPersistentFields"), (0, u "[Ljava/io/ObjectStreamField;"), (0, .class_ 1104), (0, u "java/lang/String$CaseInsensitiveComparator"), (1, .class_ 1107), (0, u "java/io/Serializable"), (0, .class_ 1109), (0, u "java/lang/Comparable"), (0, .class_ 1111), (0, u "java/lang/constant/Constable"), (0, .class_ 1113), (0, u "java/lang/constant/ConstantDesc"), (2, u "serialVersionUID"), (0, u "J"), (3, u "REPL"), (0, u "C"), (2, u "LATIN1"), (1, u "UTF16")] 323

def k8m0 : Method := { name := "<init>", desc := "()V", sig := { parameters := [], returnType := none }, accessFlags := 1, code := none }
def k8c1 : Code := { maxStack := 5, maxLocals := 2, code := jdk_42_method_3_code, exceptionTable := #[], attributes := #[] }
def k8m1 : Method := { name := "<init>", desc := "([C)V", sig := { parameters := [(.array .char)], returnType := none }, accessFlags := 1, code := some k8c1 }
def k8c2 : Code := { maxStack := 4, maxLocals := 6, code := jdk_42_method_149_code, exceptionTable := #[], attributes := #[] }
def k8m2 : Method := { name := "<init>", desc := "([CIILjava/lang/Void;)V", sig := { parameters := [(.array .char), .int, .int, (.object "java/lang/Void")], returnType := none }, accessFlags := 2, code := some k8c2 }
/-- java/lang/String -/
def k8 : Class := { plain "java/lang/String" (some 0) with
  accessFlags := 49
  interfaces := #[3, 4, 5, 6, 7]
  cf := some (fileOf pool8 10 #[.nestMembers #[1103]] #[{ accessFlags := 1, nameIndex := 5, descriptorIndex := 6, attributes := #[] }, { accessFlags := 1, nameIndex := 5, descriptorIndex := 1010, attributes := #[] }, { accessFlags := 2, nameIndex := 5, descriptorIndex := 29, attributes := #[] }] 49 2 #[1106, 1108, 575, 1110, 1112] #[{ accessFlags := 18, nameIndex := 13, descriptorIndex := 14, attributes := #[] }, { accessFlags := 18, nameIndex := 17, descriptorIndex := 18, attributes := #[] }, { accessFlags := 2, nameIndex := 21, descriptorIndex := 22, attributes := #[] }, { accessFlags := 2, nameIndex := 25, descriptorIndex := 26, attributes := #[] }, { accessFlags := 26, nameIndex := 1116, descriptorIndex := 1117, attributes := #[] }, { accessFlags := 24, nameIndex := 40, descriptorIndex := 26, attributes := #[] }, { accessFlags := 26, nameIndex := 1101, descriptorIndex := 1102, attributes := #[] }, { accessFlags := 26, nameIndex := 1121, descriptorIndex := 1122, attributes := #[] }, { accessFlags := 25, nameIndex := 599, descriptorIndex := 600, attributes := #[] }, { accessFlags := 24, nameIndex := 1125, descriptorIndex := 18, attributes := #[] }, { accessFlags := 24, nameIndex := 1127, descriptorIndex := 18, attributes := #[] }])
  fields := #[{ name := "value", type := (.array .byte), accessFlags := 18, slot := 0, constantValue := 0 }, { name := "coder", type := .byte, accessFlags := 18, slot := 1, constantValue := 0 }, { name := "hash", type := .int, accessFlags := 2, slot := 2, constantValue := 0 }, { name := "hashIsZero", type := .boolean, accessFlags := 2, slot := 3, constantValue := 0 }, { name := "serialVersionUID", type := .long, accessFlags := 26, slot := 0, constantValue := 0 }, { name := "COMPACT_STRINGS", type := .boolean, accessFlags := 24, slot := 1, constantValue := 0 }, { name := "serialPersistentFields", type := (.array (.object "java/io/ObjectStreamField")), accessFlags := 26, slot := 2, constantValue := 0 }, { name := "REPL", type := .char, accessFlags := 26, slot := 3, constantValue := 0 }, { name := "CASE_INSENSITIVE_ORDER", type := (.object "java/util/Comparator"), accessFlags := 25, slot := 4, constantValue := 0 }, { name := "LATIN1", type := .byte, accessFlags := 24, slot := 5, constantValue := 0 }, { name := "UTF16", type := .byte, accessFlags := 24, slot := 6, constantValue := 0 }]
  methods := #[k8m0, k8m1, k8m2]
  instanceTypes := #[(.array .byte), .byte, .int, .boolean]
  staticTypes := #[.long, .boolean, (.array (.object "java/io/ObjectStreamField")), .char, (.object "java/util/Comparator"), .byte, .byte]
  resolved := Array.replicate 1451 none
  statics := some 0 }

def pool9 : Array CpInfo := pool [(6, .class_ 8), (1, u "java/lang/Object"), (0, u "<init>"), (0, u "()V"), (1, .class_ 14), (1, u "java/lang/StringUTF16"), (31, u "$assertionsDisabled"), (0, u "Z"), (13, u "HI_BYTE_SHIFT"), (0, u "I"), (2, u "LO_BYTE_SHIFT"), (49, .methodref 12 116), (0, .nameAndType 117 118), (0, u "compress"), (0, u "([CI[BII)I"), (3, u "([CII)[B"), (138, u "coderFromArrayLen"), (0, u "([BI)B"), (106, .class_ 371), (1, u "java/lang/StringUTF16$LinesSpliterator"), (58, u "MAX_LENGTH"), (196, .class_ 628), (0, u "java/lang/StringUTF16$CodePointsSpliterator"), (0, .class_ 630), (0, u "java/lang/StringUTF16$CharsSpliterator")] 4

def k9m0 : Method := { name := "<init>", desc := "()V", sig := { parameters := [], returnType := none }, accessFlags := 0, code := none }
def k9c1 : Code := { maxStack := 2, maxLocals := 2, code := jdk_52_method_15_code, exceptionTable := #[], attributes := #[] }
def k9m1 : Method := { name := "coderFromArrayLen", desc := "([BI)B", sig := { parameters := [(.array .byte), .int], returnType := some .byte }, accessFlags := 8, code := some k9c1 }
def k9c2 : Code := { maxStack := 5, maxLocals := 6, code := jdk_52_method_16_code, exceptionTable := #[], attributes := #[] }
def k9m2 : Method := { name := "compress", desc := "([CII)[B", sig := { parameters := [(.array .char), .int, .int], returnType := some (.array .byte) }, accessFlags := 9, code := some k9c2 }
def k9c3 : Code := { maxStack := 3, maxLocals := 7, code := jdk_52_method_21_code, exceptionTable := #[], attributes := #[] }
def k9m3 : Method := { name := "compress", desc := "([CI[BII)I", sig := { parameters := [(.array .char), .int, (.array .byte), .int, .int], returnType := some .int }, accessFlags := 9, code := some k9c3 }
/-- java/lang/StringUTF16 -/
def k9 : Class := { plain "java/lang/StringUTF16" (some 0) with
  accessFlags := 48
  interfaces := #[]
  cf := some (fileOf pool9 12 #[.nestMembers #[627, 629, 369]] #[{ accessFlags := 0, nameIndex := 9, descriptorIndex := 10, attributes := #[] }, { accessFlags := 8, nameIndex := 261, descriptorIndex := 262, attributes := #[] }, { accessFlags := 9, nameIndex := 117, descriptorIndex := 122, attributes := #[] }, { accessFlags := 9, nameIndex := 117, descriptorIndex := 118, attributes := #[] }] 48 6 #[] #[{ accessFlags := 26, nameIndex := 61, descriptorIndex := 62, attributes := #[] }, { accessFlags := 26, nameIndex := 65, descriptorIndex := 62, attributes := #[] }, { accessFlags := 24, nameIndex := 430, descriptorIndex := 62, attributes := #[] }, { accessFlags := 4120, nameIndex := 46, descriptorIndex := 47, attributes := #[] }])
  fields := #[{ name := "HI_BYTE_SHIFT", type := .int, accessFlags := 26, slot := 0, constantValue := 0 }, { name := "LO_BYTE_SHIFT", type := .int, accessFlags := 26, slot := 1, constantValue := 0 }, { name := "MAX_LENGTH", type := .int, accessFlags := 24, slot := 2, constantValue := 0 }, { name := "$assertionsDisabled", type := .boolean, accessFlags := 4120, slot := 3, constantValue := 0 }]
  methods := #[k9m0, k9m1, k9m2, k9m3]
  instanceTypes := #[]
  staticTypes := #[.int, .int, .int, .boolean]
  resolved := Array.replicate 635 none
  statics := none }

def pool10 : Array CpInfo := pool [(4, .class_ 6), (1, u "java/lang/Object"), (0, u "<init>"), (0, u "()V"), (5, .class_ 16), (1, u "java/lang/StringLatin1"), (104, u "$assertionsDisabled"), (0, u "Z"), (98, .class_ 223), (1, u "java/lang/StringLatin1$LinesSpliterator"), (166, .class_ 391), (0, u "java/lang/StringLatin1$CharsSpliterator")] 3

def k10m0 : Method := { name := "<init>", desc := "()V", sig := { parameters := [], returnType := none }, accessFlags := 0, code := none }
/-- java/lang/StringLatin1 -/
def k10 : Class := { plain "java/lang/StringLatin1" (some 0) with
  accessFlags := 48
  interfaces := #[]
  cf := some (fileOf pool10 14 #[.nestMembers #[390, 221]] #[{ accessFlags := 0, nameIndex := 7, descriptorIndex := 8, attributes := #[] }] 48 4 #[] #[{ accessFlags := 4120, nameIndex := 121, descriptorIndex := 122, attributes := #[] }])
  fields := #[{ name := "$assertionsDisabled", type := .boolean, accessFlags := 4120, slot := 0, constantValue := 0 }]
  methods := #[k10m0]
  instanceTypes := #[]
  staticTypes := #[.boolean]
  resolved := Array.replicate 395 none
  statics := none }

def pool11 : Array CpInfo := pool [(2, .class_ 4), (1, u "java/lang/Object"), (0, u "<init>"), (0, u "()V"), (17, .class_ 26), (1, u "jdk/internal/util/Preconditions"), (28, .class_ 56), (0, u "jdk/internal/util/Preconditions$4"), (57, .class_ 115), (0, u "jdk/internal/util/Preconditions$1"), (7, u "SIOOBE_FORMATTER"), (0, u "Ljava/util/function/BiFunction;"), (0, .class_ 126), (0, u "jdk/internal/util/Preconditions$2"), (3, u "AIOOBE_FORMATTER"), (0, .class_ 132), (0, u "jdk/internal/util/Preconditions$3"), (3, u "IOOBE_FORMATTER")] 57

def k11m0 : Method := { name := "<init>", desc := "()V", sig := { parameters := [], returnType := none }, accessFlags := 1, code := none }
/-- jdk/internal/util/Preconditions -/
def k11 : Class := { plain "jdk/internal/util/Preconditions" (some 0) with
  accessFlags := 33
  interfaces := #[]
  cf := some (fileOf pool11 24 #[.nestMembers #[55, 131, 125, 114]] #[{ accessFlags := 1, nameIndex := 5, descriptorIndex := 6, attributes := #[] }] 33 2 #[] #[{ accessFlags := 25, nameIndex := 123, descriptorIndex := 124, attributes := #[] }, { accessFlags := 25, nameIndex := 130, descriptorIndex := 124, attributes := #[] }, { accessFlags := 25, nameIndex := 136, descriptorIndex := 124, attributes := #[] }])
  fields := #[{ name := "SIOOBE_FORMATTER", type := (.object "java/util/function/BiFunction"), accessFlags := 25, slot := 0, constantValue := 0 }, { name := "AIOOBE_FORMATTER", type := (.object "java/util/function/BiFunction"), accessFlags := 25, slot := 1, constantValue := 0 }, { name := "IOOBE_FORMATTER", type := (.object "java/util/function/BiFunction"), accessFlags := 25, slot := 2, constantValue := 0 }]
  methods := #[k11m0]
  instanceTypes := #[]
  staticTypes := #[(.object "java/util/function/BiFunction"), (.object "java/util/function/BiFunction"), (.object "java/util/function/BiFunction")]
  resolved := Array.replicate 194 none
  statics := some 1 }

def pool12 : Array CpInfo := pool [(9, u "<init>"), (6, .class_ 18), (1, u "java/lang/Object"), (0, u "()V"), (1, .class_ 23), (1, u "jdk/internal/util/ArraysSupport"), (0, u "LOG2_ARRAY_LONG_INDEX_SCALE"), (0, u "I"), (2, u "U"), (0, u "Ljdk/internal/misc/Unsafe;"), (8, u "BIG_ENDIAN"), (0, u "Z"), (8, u "LOG2_BYTE_BIT_SIZE"), (4, u "LOG2_ARRAY_INT_INDEX_SCALE"), (54, u "JLA"), (0, u "Ljdk/internal/access/JavaLangAccess;"), (11, u "LOG2_ARRAY_BOOLEAN_INDEX_SCALE"), (9, u "LOG2_ARRAY_BYTE_INDEX_SCALE"), (5, u "LOG2_ARRAY_CHAR_INDEX_SCALE"), (5, u "LOG2_ARRAY_SHORT_INDEX_SCALE"), (18, u "LOG2_ARRAY_FLOAT_INDEX_SCALE"), (24, u "LOG2_ARRAY_DOUBLE_INDEX_SCALE"), (89, u "T_BOOLEAN"), (2, u "T_CHAR"), (1, u "T_FLOAT"), (1, u "T_DOUBLE"), (1, u "T_BYTE"), (1, u "T_SHORT"), (1, u "T_INT"), (1, u "T_LONG"), (1, u "SOFT_MAX_ARRAY_LENGTH")] 83

def k12m0 : Method := { name := "<init>", desc := "()V", sig := { parameters := [], returnType := none }, accessFlags := 2, code := none }
/-- jdk/internal/util/ArraysSupport -/
def k12 : Class := { plain "jdk/internal/util/ArraysSupport" (some 0) with
  accessFlags := 33
  interfaces := #[]
  cf := some (fileOf pool12 21 #[] #[{ accessFlags := 2, nameIndex := 9, descriptorIndex := 19, attributes := #[] }] 33 16 #[] #[{ accessFlags := 24, nameIndex := 28, descriptorIndex := 29, attributes := #[] }, { accessFlags := 26, nameIndex := 38, descriptorIndex := 39, attributes := #[] }, { accessFlags := 25, nameIndex := 121, descriptorIndex := 25, attributes := #[] }, { accessFlags := 25, nameIndex := 131, descriptorIndex := 25, attributes := #[] }, { accessFlags := 25, nameIndex := 137, descriptorIndex := 25, attributes := #[] }, { accessFlags := 25, nameIndex := 143, descriptorIndex := 25, attributes := #[] }, { accessFlags := 25, nameIndex := 53, descriptorIndex := 25, attributes := #[] }, { accessFlags := 25, nameIndex := 24, descriptorIndex := 25, attributes := #[] }, { accessFlags := 25, nameIndex := 162, descriptorIndex := 25, attributes := #[] }, { accessFlags := 25, nameIndex := 187, descriptorIndex := 25, attributes := #[] }, { accessFlags := 26, nameIndex := 48, descriptorIndex := 25, attributes := #[] }, { accessFlags := 25, nameIndex := 277, descriptorIndex := 25, attributes := #[] }, { accessFlags := 25, nameIndex := 280, descriptorIndex := 25, attributes := #[] }, { accessFlags := 25, nameIndex := 282, descriptorIndex := 25, attributes := #[] }, { accessFlags := 25, nameIndex := 284, descriptorIndex := 25, attributes := #[] }, { accessFlags := 25, nameIndex := 286, descriptorIndex := 25, attributes := #[] }, { accessFlags := 25, nameIndex := 288, descriptorIndex := 25, attributes := #[] }, { accessFlags := 25, nameIndex := 290, descriptorIndex := 25, attributes := #[] }, { accessFlags := 25, nameIndex := 292, descriptorIndex := 25, attributes := #[] }, { accessFlags := 26, nameIndex := 108, descriptorIndex := 109, attributes := #[] }, { accessFlags := 25, nameIndex := 294, descriptorIndex := 25, attributes := #[] }])
  fields := #[{ name := "U", type := (.object "jdk/internal/misc/Unsafe"), accessFlags := 24, slot := 0, constantValue := 0 }, { name := "BIG_ENDIAN", type := .boolean, accessFlags := 26, slot := 1, constantValue := 0 }, { name := "LOG2_ARRAY_BOOLEAN_INDEX_SCALE", type := .int, accessFlags := 25, slot := 2, constantValue := 0 }, { name := "LOG2_ARRAY_BYTE_INDEX_SCALE", type := .int, accessFlags := 25, slot := 3, constantValue := 0 }, { name := "LOG2_ARRAY_CHAR_INDEX_SCALE", type := .int, accessFlags := 25, slot := 4, constantValue := 0 }, { name := "LOG2_ARRAY_SHORT_INDEX_SCALE", type := .int, accessFlags := 25, slot := 5, constantValue := 0 }, { name := "LOG2_ARRAY_INT_INDEX_SCALE", type := .int, accessFlags := 25, slot := 6, constantValue := 0 }, { name := "LOG2_ARRAY_LONG_INDEX_SCALE", type := .int, accessFlags := 25, slot := 7, constantValue := 0 }, { name := "LOG2_ARRAY_FLOAT_INDEX_SCALE", type := .int, accessFlags := 25, slot := 8, constantValue := 0 }, { name := "LOG2_ARRAY_DOUBLE_INDEX_SCALE", type := .int, accessFlags := 25, slot := 9, constantValue := 0 }, { name := "LOG2_BYTE_BIT_SIZE", type := .int, accessFlags := 26, slot := 10, constantValue := 0 }, { name := "T_BOOLEAN", type := .int, accessFlags := 25, slot := 11, constantValue := 0 }, { name := "T_CHAR", type := .int, accessFlags := 25, slot := 12, constantValue := 0 }, { name := "T_FLOAT", type := .int, accessFlags := 25, slot := 13, constantValue := 0 }, { name := "T_DOUBLE", type := .int, accessFlags := 25, slot := 14, constantValue := 0 }, { name := "T_BYTE", type := .int, accessFlags := 25, slot := 15, constantValue := 0 }, { name := "T_SHORT", type := .int, accessFlags := 25, slot := 16, constantValue := 0 }, { name := "T_INT", type := .int, accessFlags := 25, slot := 17, constantValue := 0 }, { name := "T_LONG", type := .int, accessFlags := 25, slot := 18, constantValue := 0 }, { name := "JLA", type := (.object "jdk/internal/access/JavaLangAccess"), accessFlags := 26, slot := 19, constantValue := 0 }, { name := "SOFT_MAX_ARRAY_LENGTH", type := .int, accessFlags := 25, slot := 20, constantValue := 0 }]
  methods := #[k12m0]
  instanceTypes := #[]
  staticTypes := #[(.object "jdk/internal/misc/Unsafe"), .boolean, .int, .int, .int, .int, .int, .int, .int, .int, .int, .int, .int, .int, .int, .int, .int, .int, .int, (.object "jdk/internal/access/JavaLangAccess"), .int]
  resolved := Array.replicate 378 none
  statics := none }

def pool13 : Array CpInfo := pool [(1, u "java/lang/Cloneable"), (0, .class_ 1), (0, u "java/lang/Object"), (0, .class_ 3)] 3

/-- java/lang/Cloneable -/
def k13 : Class := { plain "java/lang/Cloneable" (some 0) with
  accessFlags := 1537
  interfaces := #[]
  cf := some (fileOf pool13 2 #[] #[] 1537 4 #[] #[])
  fields := #[]
  methods := #[]
  instanceTypes := #[]
  staticTypes := #[]
  resolved := Array.replicate 8 none
  statics := none }

/-- the primitive byte -/
def k14 : Class := { plain "byte" none with kind := .primitive 'B', accessFlags := 0x411 }
/-- [B -/
def k15 : Class := { plain "[B" (some 0) with kind := .array 14 .byte, interfaces := #[13, 3], accessFlags := 1041 }

/-- the primitive char -/
def k16 : Class := { plain "char" none with kind := .primitive 'C', accessFlags := 0x411 }
/-- [C -/
def k17 : Class := { plain "[C" (some 0) with kind := .array 16 .char, interfaces := #[13, 3], accessFlags := 1041 }

/-- the primitive int -/
def k18 : Class := { plain "int" none with kind := .primitive 'I', accessFlags := 0x411 }
/-- [I -/
def k19 : Class := { plain "[I" (some 0) with kind := .array 18 .int, interfaces := #[13, 3], accessFlags := 1041 }

def heap : Heap := #[{ cls := 8, slots := #[.long 0, .int 1, .null, .int 0, .null, .int 0, .int 0], vm := .statics 8 },
  { cls := 11, slots := #[.null, .null, .null], vm := .statics 11 }]
def classes : Array Class := #[k0, k1, k2, k3, k4, k5, k6, k7, k8, k9, k10, k11, k12, k13, k14, k15, k16, k17, k18, k19]
def interned : List (Array UInt16 × Addr) := []
def slotsUsed : Nat := 10
def theMethod : MethodId := ⟨1, 2⟩
def args0 : Array Value := #[.int 5, .int 5, .int 5]
def aboutOver (below : List Frame) : State where
  vm := { classes := classes, interned := interned.toArray }
  heap := heap
  slotsUsed := slotsUsed
  threads := #[{ frames := .invoking theMethod args0 :: below }]
def below0 : List Frame := [.native { method := ⟨0, 0⟩, args := #[] }]
def about1 : State := aboutOver below0
def p0 : Program := .bare "" "" ""
def e0 : Env := launch0.env 0 0 0
theorem w_frames : about1.frames = Frame.invoking theMethod args0 :: below0 := rfl
set_option maxRecDepth 65536 in
theorem w_args : argsFit about1.vm theMethod args0 = true := by decide +kernel
set_option maxRecDepth 65536 in
theorem w_heap : heapFits about1 = true := by decide +kernel
set_option maxRecDepth 65536 in
theorem w_runnable : about1.curStatus? = some .runnable := by decide +kernel
set_option maxRecDepth 65536 in
theorem w_alone : about1.alone = true := by decide +kernel
set_option maxRecDepth 65536 in
theorem w_named : about1.methodNamed? x = some theMethod := by decide +kernel
set_option maxRecDepth 65536 in
theorem w_hears : about1.hears theMethod below0 = true := by decide +kernel
set_option maxRecDepth 65536 in
theorem w_ripe : about1.ripe theMethod args0 below0 = true := by decide +kernel
theorem w_running : about1.status = .running := rfl
set_option maxRecDepth 65536 in
theorem w_room : about1.hasRoom e0.platform room_1 = true :=
  launch0.hasRoom_least _ room_1 (by decide +kernel) (by decide +kernel) (by decide +kernel) (by decide +kernel) (by decide +kernel) (by decide +kernel)
theorem allAtoms_all (ts : List Jvm.Cond) (a : Array Jvm.Value) (st : Jvm.State) : (allAtoms ts).before a st = ts.all (fun c => c.before a st) := by
  induction ts with
  | nil => rfl
  | cons c t ih =>
    show (Jvm.Cond.and c (allAtoms t)).before a st = _
    rw [Jvm.Cond.before_and, ih, List.all_cons]
def words1 : List Jvm.Cond := Jvm.Cond.code x code maxLocals ret :: tables_1
/-- a 'code' word, met by the world's own term for the bytes: nothing is compared byte by byte -/
theorem code_word {y : MethodName} {bytes : ByteArray} {mx : Nat} {rt : Option FieldType} {a : Array Value} {s : State} {m : MethodId} {meth : Method} {c : Code} (h1 : s.methodNamed? y = some m) (h2 : s.vm.method? m = some meth) (h3 : meth.code = some c) (h4 : c.code = bytes)
    (h5 : (c.maxLocals == mx && c.exceptionTable.isEmpty && decide (c.maxStack ≤ mostOperands) && decide (meth.sig.returnType = rt) && !meth.locks && decide (parseMethodDescriptor y.desc = some meth.sig)) = true) : (Jvm.Cond.code y bytes mx rt).before a s = true := by
  simp only [Bool.and_eq_true, beq_iff_eq, Bool.not_eq_true', decide_eq_true_eq] at h5
  obtain ⟨⟨⟨⟨⟨g1, g2⟩, g3⟩, g4⟩, g5⟩, g6⟩ := h5
  simp [Cond.before, Cond.holds, Cond.value, h1, h2, h3, h4, g1, g2, g3, g4, g5, g6]
def isCode : Jvm.Cond → Bool
  | .code _ _ _ _ => true
  | _ => false
theorem all_split {L : List Jvm.Cond} {P : Jvm.Cond → Bool} (h1 : L.all (fun c => isCode c || P c) = true) (h2 : ∀ c ∈ L.filter isCode, P c = true) : L.all P = true := by
  refine List.all_eq_true.mpr fun c hc => ?_
  have h := List.all_eq_true.mp h1 c hc
  rcases Bool.eq_false_or_eq_true (isCode c) with hi | hi
  · exact h2 c (List.mem_filter.mpr ⟨hc, hi⟩)
  · simpa [hi] using h
set_option maxRecDepth 65536 in
theorem w_c0 : (Jvm.Cond.code x code maxLocals ret).before args0 about1 = true := code_word (m := ⟨1, 2⟩) (meth := k1m2) (c := k1c2) (by decide +kernel) rfl rfl rfl (by decide +kernel)
set_option maxRecDepth 65536 in
theorem w_c1 : (Jvm.Cond.code ({ cls := "com/example/ridgeline/ridgeline/table/RowStartPinLaw", name := "letter", desc := "(II)C" } : Jvm.MethodName) method_2_code (2 : Nat) (Option.some Jvm.ClassFile.FieldType.char)).before args0 about1 = true := code_word (m := ⟨1, 1⟩) (meth := k1m1) (c := k1c1) (by decide +kernel) rfl rfl rfl (by decide +kernel)
set_option maxRecDepth 65536 in
theorem w_c2 : (Jvm.Cond.code ({ cls := "java/lang/String", name := "<init>", desc := "([C)V" } : Jvm.MethodName) jdk_42_method_3_code (2 : Nat) (Option.none : Option Jvm.ClassFile.FieldType)).before args0 about1 = true := code_word (m := ⟨8, 1⟩) (meth := k8m1) (c := k8c1) (by decide +kernel) rfl rfl rfl (by decide +kernel)
set_option maxRecDepth 65536 in
theorem w_c3 : (Jvm.Cond.code ({ cls := "java/lang/String", name := "<init>", desc := "([CIILjava/lang/Void;)V" } : Jvm.MethodName) jdk_42_method_149_code (6 : Nat) (Option.none : Option Jvm.ClassFile.FieldType)).before args0 about1 = true := code_word (m := ⟨8, 2⟩) (meth := k8m2) (c := k8c2) (by decide +kernel) rfl rfl rfl (by decide +kernel)
set_option maxRecDepth 65536 in
theorem w_c4 : (Jvm.Cond.code ({ cls := "java/lang/Object", name := "<init>", desc := "()V" } : Jvm.MethodName) object_method_1_code (1 : Nat) (Option.none : Option Jvm.ClassFile.FieldType)).before args0 about1 = true := code_word (m := ⟨0, 0⟩) (meth := k0m0) (c := k0c0) (by decide +kernel) rfl rfl rfl (by decide +kernel)
set_option maxRecDepth 65536 in
theorem w_c5 : (Jvm.Cond.code ({ cls := "java/lang/StringUTF16", name := "compress", desc := "([CII)[B" } : Jvm.MethodName) jdk_52_method_16_code (6 : Nat) (Option.some (Jvm.ClassFile.FieldType.array Jvm.ClassFile.FieldType.byte))).before args0 about1 = true := code_word (m := ⟨9, 2⟩) (meth := k9m2) (c := k9c2) (by decide +kernel) rfl rfl rfl (by decide +kernel)
set_option maxRecDepth 65536 in
theorem w_c6 : (Jvm.Cond.code ({ cls := "java/lang/StringUTF16", name := "compress", desc := "([CI[BII)I" } : Jvm.MethodName) jdk_52_method_21_code (7 : Nat) (Option.some Jvm.ClassFile.FieldType.int)).before args0 about1 = true := code_word (m := ⟨9, 3⟩) (meth := k9m3) (c := k9c3) (by decide +kernel) rfl rfl rfl (by decide +kernel)
set_option maxRecDepth 65536 in
theorem w_c7 : (Jvm.Cond.code ({ cls := "java/lang/StringUTF16", name := "coderFromArrayLen", desc := "([BI)B" } : Jvm.MethodName) jdk_52_method_15_code (2 : Nat) (Option.some Jvm.ClassFile.FieldType.byte)).before args0 about1 = true := code_word (m := ⟨9, 1⟩) (meth := k9m1) (c := k9c1) (by decide +kernel) rfl rfl rfl (by decide +kernel)
set_option maxRecDepth 65536 in
theorem w_c8 : (Jvm.Cond.code ({ cls := "com/example/ridgeline/ridgeline/table/Row", name := "<init>", desc := "(Ljava/lang/String;I[I)V" } : Jvm.MethodName) prog_53_method_1_code (4 : Nat) (Option.none : Option Jvm.ClassFile.FieldType)).before args0 about1 = true := code_word (m := ⟨2, 0⟩) (meth := k2m0) (c := k2c0) (by decide +kernel) rfl rfl rfl (by decide +kernel)
set_option maxRecDepth 65536 in
theorem w_c9 : (Jvm.Cond.code ({ cls := "com/example/ridgeline/ridgeline/table/Row", name := "start", desc := "(I)I" } : Jvm.MethodName) prog_53_method_6_code (2 : Nat) (Option.some Jvm.ClassFile.FieldType.int)).before args0 about1 = true := code_word (m := ⟨2, 1⟩) (meth := k2m1) (c := k2c1) (by decide +kernel) rfl rfl rfl (by decide +kernel)
def codes1 : List Jvm.Cond := [Jvm.Cond.code x code maxLocals ret, Jvm.Cond.code ({ cls := "com/example/ridgeline/ridgeline/table/RowStartPinLaw", name := "letter", desc := "(II)C" } : Jvm.MethodName) method_2_code (2 : Nat) (Option.some Jvm.ClassFile.FieldType.char), Jvm.Cond.code ({ cls := "java/lang/String", name := "<init>", desc := "([C)V" } : Jvm.MethodName) jdk_42_method_3_code (2 : Nat) (Option.none : Option Jvm.ClassFile.FieldType), Jvm.Cond.code ({ cls := "java/lang/String", name := "<init>", desc := "([CIILjava/lang/Void;)V" } : Jvm.MethodName) jdk_42_method_149_code (6 : Nat) (Option.none : Option Jvm.ClassFile.FieldType), Jvm.Cond.code ({ cls := "java/lang/Object", name := "<init>", desc := "()V" } : Jvm.MethodName) object_method_1_code (1 : Nat) (Option.none : Option Jvm.ClassFile.FieldType), Jvm.Cond.code ({ cls := "java/lang/StringUTF16", name := "compress", desc := "([CII)[B" } : Jvm.MethodName) jdk_52_method_16_code (6 : Nat) (Option.some (Jvm.ClassFile.FieldType.array Jvm.ClassFile.FieldType.byte)), Jvm.Cond.code ({ cls := "java/lang/StringUTF16", name := "compress", desc := "([CI[BII)I" } : Jvm.MethodName) jdk_52_method_21_code (7 : Nat) (Option.some Jvm.ClassFile.FieldType.int), Jvm.Cond.code ({ cls := "java/lang/StringUTF16", name := "coderFromArrayLen", desc := "([BI)B" } : Jvm.MethodName) jdk_52_method_15_code (2 : Nat) (Option.some Jvm.ClassFile.FieldType.byte), Jvm.Cond.code ({ cls := "com/example/ridgeline/ridgeline/table/Row", name := "<init>", desc := "(Ljava/lang/String;I[I)V" } : Jvm.MethodName) prog_53_method_1_code (4 : Nat) (Option.none : Option Jvm.ClassFile.FieldType), Jvm.Cond.code ({ cls := "com/example/ridgeline/ridgeline/table/Row", name := "start", desc := "(I)I" } : Jvm.MethodName) prog_53_method_6_code (2 : Nat) (Option.some Jvm.ClassFile.FieldType.int)]
set_option maxRecDepth 65536 in
theorem codes_eq : words1.filter isCode = codes1 := rfl
theorem w_codes : ∀ c ∈ words1.filter isCode, c.before args0 about1 = true := by
  rw [codes_eq]
  intro c hc
  simp only [codes1, List.mem_cons, List.not_mem_nil, or_false] at hc
  rcases hc with rfl | rfl | rfl | rfl | rfl | rfl | rfl | rfl | rfl | rfl
  · exact w_c0
  · exact w_c1
  · exact w_c2
  · exact w_c3
  · exact w_c4
  · exact w_c5
  · exact w_c6
  · exact w_c7
  · exact w_c8
  · exact w_c9
set_option maxRecDepth 65536 in
theorem w_t1 : (words1.take 24).all (fun c => isCode c || c.before args0 about1) = true := by decide +kernel
set_option maxRecDepth 65536 in
theorem w_t2 : ((words1.drop 24).take 24).all (fun c => isCode c || c.before args0 about1) = true := by decide +kernel
set_option maxRecDepth 65536 in
theorem w_t3 : ((words1.drop 24).drop 24).all (fun c => isCode c || c.before args0 about1) = true := by decide +kernel
theorem w_tables : (allAtoms (Jvm.Cond.code x code maxLocals ret :: tables_1)).before args0 about1 = true := by
  rw [allAtoms_all]
  show words1.all (fun c => c.before args0 about1) = true
  refine all_split ?_ w_codes
  rw [← List.take_append_drop 24 words1, List.all_append, w_t1, ← List.take_append_drop 24 (words1.drop 24), List.all_append, w_t2, w_t3]
  rfl
set_option maxRecDepth 65536 in
theorem w_rest : rest_1_c.before args0 about1 = true := by decide +kernel
set_option maxRecDepth 65536 in
theorem w_case : (Jvm.Cond.and given_1 narrow_1).before args0 about1 = true := by decide +kernel
theorem w_applies : (headSpec (Jvm.Cond.code x code maxLocals ret :: tables_1) room_1).applies x e0.platform about1 = true :=
  (Spec.applies_iff w_frames).mpr ⟨w_running, w_runnable, w_alone, w_named, w_hears, w_ripe, w_room, w_tables⟩
theorem atStart : AtStart classFile x code maxLocals ret World_1 tables_1 room_1 Calls_1 rest_1 Pre_1 launch0 p0 e0 about1 theMethod args0 below0 :=
  ⟨lists_1, trivial, launch0.admits_env _ _ _, launch0.least_env, fairChoices_fair.cas, fairChoices_fair.clock, w_frames, w_args, w_heap, w_applies, trivial, w_rest, w_case⟩
end start1
theorem witness_1 : WitnessClaimed_1 := ⟨start1.p0, start1.e0, start1.about1, start1.theMethod, start1.args0, start1.below0, start1.atStart⟩
end Jvm.Pilot.@@N@@
